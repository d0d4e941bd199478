import JvmDerived
import JvmDerived.Pilot.@@N@@Statement
import JvmDerived.Pilot.@@N@@Code
set_option linter.unusedVariables false
set_option linter.unusedSimpArgs false
namespace Jvm.RoadKit
open Sem ClassFile Op Lib Jvm.Stand Jvm.Free Jvm.LawKit
section OwnNew
variable {p : Program} {l : Launch} {e : Env} {R : Room} {s : State} {m : MethodId} {args : Array Value} {below : List Frame} {meth : Method} {c : Code} {T : State} {locs : List Loc} {cells slots : Nat}
/-- from S0 the run comes to the method's return, with what Q says there -/
def OwnEnds (p : Program) (e : Env) (below : List Frame) (s : State) (Q : Option Value → Heap → List Loc → Prop) (ck sk : Nat) (S0 : State) : Prop :=
  ∃ s₂ o, Steps p.tables e below S0 s₂ ∧ s₂.status = .running ∧ Ended s₂ below o ∧ ∃ v L, o = .returned v ∧ Q v s₂.heap L ∧ FrameEnd s o s₂ L ck sk
theorem OwnEnds.st {Q : Option Value → Heap → List Loc → Prop} {ck sk : Nat} {S0 S1 : State} (h : ∀ t, Steps p.tables e below S1 t → Steps p.tables e below S0 t) (k : OwnEnds p e below s Q ck sk S1) : OwnEnds p e below s Q ck sk S0 := by
  obtain ⟨s₂, o, h1, h2⟩ := k
  exact ⟨s₂, o, h _ h1, h2⟩
theorem OwnEnds.go {Q : Option Value → Heap → List Loc → Prop} {ck sk : Nat} {S0 S1 : State} (h : Steps p.tables e below S0 S1) (k : OwnEnds p e below s Q ck sk S1) : OwnEnds p e below s Q ck sk S0 := by
  obtain ⟨s₂, o, h1, h2⟩ := k
  exact ⟨s₂, o, h.trans h1, h2⟩
theorem own_out (X : Stand p l e R s m args below meth c T locs cells slots) (hx : p.tables.exec = Jvm.exec) {pc : Nat} {Ls : Array Slot} {w : Value} {t : FieldType} {i : Instr} {rest : List Value} (hret : meth.sig.returnType = some t) (hlocks : meth.locks = false) (hn : narrow t w = w)
    (hi : (i = .ireturn ∧ (t = .int ∨ t = .boolean ∨ t = .byte ∨ t = .char ∨ t = .short) ∧ ∃ z, w = .int z) ∨ (i = .lreturn ∧ t = .long ∧ ∃ z, w = .long z) ∨ (i = .dreturn ∧ t = .double ∧ ∃ z, w = .double z) ∨ (i = .freturn ∧ t = .float ∧ ∃ z, w = .float z) ∨ (i = .areturn ∧ t.isReference = true ∧ w.isRef = true))
    (hd : decode c.code pc = .ok (i, 1)) {Q : Option Value → Heap → List Loc → Prop} {ck sk : Nat} (hQ : Q (some w) T.heap locs) (hc : cells ≤ ck) (hs : slots ≤ sk) : OwnEnds p e below s Q ck sk (T.setTop (mkF m pc Ls (w :: rest))) := by
  obtain ⟨fs, hr, hrun, hended, hW, hsame⟩ := X.leave (v := some w) (fun h => by rw [hret] at h; cases h) hlocks
  exact ⟨_, _, retOut X hx hret hn hi hd hr, hrun, hended, _, _, rfl, hQ, ⟨_, rfl⟩, hW, hsame.mono hc hs⟩
theorem own_retI (X : Stand p l e R s m args below meth c T locs cells slots) (hx : p.tables.exec = Jvm.exec) {pc : Nat} {Ls : Array Slot} {z : Int32} {rest : List Value} (hret : meth.sig.returnType = some .int) (hlocks : meth.locks = false) (hd : decode c.code pc = .ok (.ireturn, 1))
    {Q : Option Value → Heap → List Loc → Prop} {ck sk : Nat} (hQ : Q (some (.int z)) T.heap locs) (hc : cells ≤ ck) (hs : slots ≤ sk) : OwnEnds p e below s Q ck sk (T.setTop (mkF m pc Ls (.int z :: rest))) :=
  own_out X hx hret hlocks rfl (Or.inl ⟨rfl, Or.inl rfl, _, rfl⟩) hd hQ hc hs
theorem own_retJ (X : Stand p l e R s m args below meth c T locs cells slots) (hx : p.tables.exec = Jvm.exec) {pc : Nat} {Ls : Array Slot} {z : Int64} {rest : List Value} (hret : meth.sig.returnType = some .long) (hlocks : meth.locks = false) (hd : decode c.code pc = .ok (.lreturn, 1))
    {Q : Option Value → Heap → List Loc → Prop} {ck sk : Nat} (hQ : Q (some (.long z)) T.heap locs) (hc : cells ≤ ck) (hs : slots ≤ sk) : OwnEnds p e below s Q ck sk (T.setTop (mkF m pc Ls (.long z :: rest))) :=
  own_out X hx hret hlocks rfl (Or.inr (Or.inl ⟨rfl, rfl, _, rfl⟩)) hd hQ hc hs
theorem own_retD (X : Stand p l e R s m args below meth c T locs cells slots) (hx : p.tables.exec = Jvm.exec) {pc : Nat} {Ls : Array Slot} {z : UInt64} {rest : List Value} (hret : meth.sig.returnType = some .double) (hlocks : meth.locks = false) (hd : decode c.code pc = .ok (.dreturn, 1))
    {Q : Option Value → Heap → List Loc → Prop} {ck sk : Nat} (hQ : Q (some (.double z)) T.heap locs) (hc : cells ≤ ck) (hs : slots ≤ sk) : OwnEnds p e below s Q ck sk (T.setTop (mkF m pc Ls (.double z :: rest))) :=
  own_out X hx hret hlocks rfl (Or.inr (Or.inr (Or.inl ⟨rfl, rfl, _, rfl⟩))) hd hQ hc hs
theorem own_retA (X : Stand p l e R s m args below meth c T locs cells slots) (hx : p.tables.exec = Jvm.exec) {pc : Nat} {Ls : Array Slot} {w : Value} {t : FieldType} {rest : List Value} (hret : meth.sig.returnType = some t) (hlocks : meth.locks = false) (ht : t.isReference = true) (hw : w.isRef = true) (hd : decode c.code pc = .ok (.areturn, 1))
    {Q : Option Value → Heap → List Loc → Prop} {ck sk : Nat} (hQ : Q (some w) T.heap locs) (hc : cells ≤ ck) (hs : slots ≤ sk) : OwnEnds p e below s Q ck sk (T.setTop (mkF m pc Ls (w :: rest))) :=
  own_out X hx hret hlocks (by cases t <;> first | rfl | cases ht) (Or.inr (Or.inr (Or.inr (Or.inr ⟨rfl, ht, hw⟩)))) hd hQ hc hs
theorem own_retN (X : Stand p l e R s m args below meth c T locs cells slots) (hx : p.tables.exec = Jvm.exec) {pc : Nat} {Ls : Array Slot} {z : Int32} {t : FieldType} {rest : List Value} (hret : meth.sig.returnType = some t) (hlocks : meth.locks = false) (ht : t = .boolean ∨ t = .byte ∨ t = .char ∨ t = .short) (hd : decode c.code pc = .ok (.ireturn, 1))
    {Q : Option Value → Heap → List Loc → Prop} {ck sk : Nat} (hQ : Q (some (.int (nar t z))) T.heap locs) (hc : cells ≤ ck) (hs : slots ≤ sk) : OwnEnds p e below s Q ck sk (T.setTop (mkF m pc Ls (.int z :: rest))) := by
  obtain ⟨fs, hr, hrun, hended, hW, hsame⟩ := X.leave (v := some (.int (nar t z))) (fun h => by rw [hret] at h; cases h) hlocks
  exact ⟨_, _, retN X hx hret ht hd hr, hrun, hended, _, _, rfl, hQ, ⟨_, rfl⟩, hW, hsame.mono hc hs⟩
theorem own_retV (X : Stand p l e R s m args below meth c T locs cells slots) (hx : p.tables.exec = Jvm.exec) {pc : Nat} {Ls : Array Slot} (hret : meth.sig.returnType = none) (hlocks : meth.locks = false) (hd : decode c.code pc = .ok (.return_, 1))
    {Q : Option Value → Heap → List Loc → Prop} {ck sk : Nat} (hQ : Q none T.heap locs) (hc : cells ≤ ck) (hs : slots ≤ sk) : OwnEnds p e below s Q ck sk (T.setTop (mkF m pc Ls [])) := by
  obtain ⟨fs, hr, hrun, hended, hW, hsame⟩ := X.leave (v := none) (fun _ => rfl) hlocks
  exact ⟨_, _, X.returnOut hx hret hd hr, hrun, hended, _, _, rfl, hQ, ⟨_, rfl⟩, hW, hsame.mono hc hs⟩
end OwnNew
end Jvm.RoadKit
@@BLOCK:NumsL.lean.txt@@
/- laws to paste: Road.backV, Road.eqW, Road.codOf (cut by pick.py; bodies as the Statement names them) -/
namespace Jvm.Pilot.@@N@@
namespace StrChars
open Jvm Sem ClassFile Op Lib Jvm.Stand Jvm.Free.XT Jvm.Free.ALB Jvm.Free.JM Jvm.Free
open Jvm.Lib.Cold (StaticIs)
/-- a char array whose places are chars -/
def Ch (a : Addr) (A : Cell) (U : State) : Prop := Arr .char a A U ∧ Typed .char A
theorem Ch.mv {a : Addr} {A : Cell} {U U' : State} (h : Ch a A U) (hal : U.vm.Alike U'.vm) (hh : U'.heap = U.heap) : Ch a A U' := ⟨h.1.mv hal hh, h.2⟩
theorem Ch.keep {a : Addr} {A : Cell} {U U' : State} (h : Ch a A U) (hal : U.vm.Alike U'.vm) (hk : U'.heap[a]? = some A) : Ch a A U' := ⟨h.1.keep hal hk, h.2⟩
/-- what place i of a char[]'s cell holds -/
def cv (A : Cell) (i : Nat) : Int32 := match A.slots[i]? with | some (.int x) => x | _ => 0
theorem Ch.get {a : Addr} {A : Cell} {U : State} (h : Ch a A U) {i : Nat} (hi : i < A.slots.size) : A.slots[i]? = some (.int (cv A i)) := by
  have e := Array.getElem?_eq_getElem hi
  have f := h.2 i _ e
  unfold cv; rw [e]
  generalize A.slots[i] = v at f
  cases v <;> simp [fits] at f ⊢
/-- the byte that i2b leaves of a char -/
def lo8 (x : Int32) : Int32 := x.toInt8.toInt32
theorem fits_lo8 (y : Int32) : fits .byte (.int (lo8 y)) = true := by
  have h1 := y.toInt8.le_toInt
  have h2 := y.toInt8.toInt_lt
  simp only [lo8, fits, Bool.and_eq_true, decide_eq_true_eq, Int32.le_iff_toInt_le, Int8.toInt_toInt32, show (-128 : Int32).toInt = -128 from by decide, show (127 : Int32).toInt = 127 from by decide]
  omega
/-- A' is A but that each place j of lo .. hi - 1 holds f j -/
def Laid (A A' : Cell) (lo hi : Nat) (f : Nat → Value) : Prop := A'.cls = A.cls ∧ A'.vm = A.vm ∧ A'.slots.size = A.slots.size ∧ ∀ i, A'.slots[i]? = if lo ≤ i ∧ i < hi then some (f i) else A.slots[i]?
theorem Laid.zero (A : Cell) (lo : Nat) (f : Nat → Value) : Laid A A lo (lo + 0) f := ⟨rfl, rfl, rfl, fun i => by rw [if_neg (by omega)]⟩
theorem Laid.step {A Ak : Cell} {lo k : Nat} {f : Nat → Value} {v : Value} (h : Laid A Ak lo k f) (hlo : lo ≤ k) (hk : k < Ak.slots.size) (hv : v = f k) : Laid A (Ak.setSlot k v) lo (k + 1) f := by
  refine ⟨h.1, h.2.1, by simpa [Cell.setSlot] using h.2.2.1, fun i => ?_⟩
  by_cases e : k = i
  · subst e; rw [Cell.slots_setSlot_self v hk, if_pos (by omega), hv]
  · rw [Cell.slots_setSlot_ne v e, h.2.2.2 i]
    by_cases q : lo ≤ i ∧ i < k
    · rw [if_pos q, if_pos (by omega)]
    · rw [if_neg q, if_neg (by omega)]
def U16 : String := "java/lang/StringUTF16"
namespace Cmp5
def yN : MethodName := ⟨"java/lang/StringUTF16", "compress", "([CI[BII)I"⟩
abbrev yB : ByteArray := jdk_52_method_21_code
theorem d0 : decode yB 0 = .ok (.iconst 0, 1) := by decide +kernel
theorem d1 : decode yB 1 = .ok (.istore 5, 2) := by decide +kernel
theorem d3 : decode yB 3 = .ok (.iload 5, 2) := by decide +kernel
theorem d5 : decode yB 5 = .ok (.iload 4, 2) := by decide +kernel
theorem d7 : decode yB 7 = .ok (.if_icmp (.ge) 37, 3) := by decide +kernel
theorem d10 : decode yB 10 = .ok (.aload_n 0, 1) := by decide +kernel
theorem d11 : decode yB 11 = .ok (.iload_n 1, 1) := by decide +kernel
theorem d12 : decode yB 12 = .ok (.caload, 1) := by decide +kernel
theorem d13 : decode yB 13 = .ok (.istore 6, 2) := by decide +kernel
theorem d15 : decode yB 15 = .ok (.iload 6, 2) := by decide +kernel
theorem d17 : decode yB 17 = .ok (.sipush 255, 3) := by decide +kernel
theorem d20 : decode yB 20 = .ok (.if_icmp (.le) 6, 3) := by decide +kernel
theorem d26 : decode yB 26 = .ok (.aload_n 2, 1) := by decide +kernel
theorem d27 : decode yB 27 = .ok (.iload_n 3, 1) := by decide +kernel
theorem d28 : decode yB 28 = .ok (.iload 6, 2) := by decide +kernel
theorem d30 : decode yB 30 = .ok (.i2b, 1) := by decide +kernel
theorem d31 : decode yB 31 = .ok (.bastore, 1) := by decide +kernel
theorem d32 : decode yB 32 = .ok (.iinc 1 1, 3) := by decide +kernel
theorem d35 : decode yB 35 = .ok (.iinc 3 1, 3) := by decide +kernel
theorem d38 : decode yB 38 = .ok (.iinc 5 1, 3) := by decide +kernel
theorem d41 : decode yB 41 = .ok (.goto (-38), 3) := by decide +kernel
theorem d44 : decode yB 44 = .ok (.iload 4, 2) := by decide +kernel
theorem d46 : decode yB 46 = .ok (.ireturn, 1) := by decide +kernel
def site : List Cond := []
def tab : Cond := tabOf yN yB 7 (some .int) site
def P (b : Addr) (A : Cell) (d : Addr) (B : Cell) (o q len : Nat) (args : Array Value) (s : State) : Prop := args = #[.ref b, .int (Int32.ofNat o), .ref d, .int (Int32.ofNat q), .int (Int32.ofNat len)] ∧ Ch b A s ∧ Arr .byte d B s ∧ b ≠ d ∧ o + len ≤ A.slots.size ∧ q + len ≤ B.slots.size ∧ ∀ i, i < len → ¬ 255 < cv A (o + i)
def E (b : Addr) (A : Cell) (d : Addr) (B : Cell) (o q len : Nat) (r : Option Value) (s u : State) : Prop := r = some (.int (Int32.ofNat len)) ∧ ∃ B', Put d B' s u ∧ Laid B B' q (q + len) (fun j => Value.int (lo8 (cv A (o + (j - q)))))
/-- no char of the range above 255: len; the places written hold each char's low byte -/
theorem law (l : Launch) (b : Addr) (A : Cell) (d : Addr) (B : Cell) (o q len : Nat) : Law l yN 5 5 0 0 yB 7 (some .int) site (P b A d B o q len) (E b A d B o q len) (copyLocs d q len) 0 0 := by
  refine Law.of_walk (plainFor_of_name (by decide +kernel)) (by decide +kernel) (by decide +kernel) (by decide) (fun _ _ h => by rw [h.1]; rfl) (fun _ U U' hal hh h => ⟨h.1, h.2.1.mv hal hh, h.2.2.1.mv hal hh, h.2.2.2⟩) (fun r U U' V V' h1 hal h2 h => ⟨h.1, h.2.elim fun B' q => ⟨B', q.1.mv h1 h2, q.2⟩⟩) ?_
  intro p e s m args below meth c s₁ X0 hexec hbytes hml hret hlk hnm hown hh0 W hP
  obtain ⟨rfl, hA, hB, hne, l1, l2, hp⟩ := hP
  have c1 : Steps p.tables e below (s₁.setTop (entryFrame m #[.ref b, .int (Int32.ofNat o), .ref d, .int (Int32.ofNat q), .int (Int32.ofNat len)] 7)) (s₁.setTop (mkF m 0 #[.val (.ref b), .val (.int (Int32.ofNat o)), .val (.ref d), .val (.int (Int32.ofNat q)), .val (.int (Int32.ofNat len)), .unset, .unset] [])) := entry rfl
  have hA0 := hA.1.mv X0.warmed.alike hh0
  have hB0 := hB.mv X0.warmed.alike hh0
  have a31 := hA.1.2.2.2
  have c2 : Steps p.tables e below (s₁.setTop (entryFrame m #[.ref b, .int (Int32.ofNat o), .ref d, .int (Int32.ofNat q), .int (Int32.ofNat len)] 7)) (s₁.setTop (mkF m 3 #[.val (.ref b), .val (.int (Int32.ofNat o)), .val (.ref d), .val (.int (Int32.ofNat q)), .val (.int (Int32.ofNat len)), .val (.int 0), .unset] [])) := c1.trans (by
    refine iconstV X0.here hexec rfl 0 (hb hbytes d0) (by decide) ?_
    refine XS.istore X0.here hexec rfl (hb hbytes d1) rfl rfl ?_
    exact Steps.refl _)
  have loop : ∀ (r i : Nat), i + r = len → ∀ (z : Slot), (z = .unset ∨ ∃ w, z = .val w ∧ w.category = 1) → ∀ (Tl : State) (Bk : Cell), Stand p l e { frames := 0, locals := 0, cells := 0, slots := 0 } s m #[.ref b, .int (Int32.ofNat o), .ref d, .int (Int32.ofNat q), .int (Int32.ofNat len)] below meth c Tl ([] ++ copyLocs d q i) 0 0 → Put d Bk s₁ Tl → Laid B Bk q (q + i) (fun j => Value.int (lo8 (cv A (o + (j - q))))) →
      Steps p.tables e below (s₁.setTop (entryFrame m #[.ref b, .int (Int32.ofNat o), .ref d, .int (Int32.ofNat q), .int (Int32.ofNat len)] 7)) (Tl.setTop (mkF m 3 #[.val (.ref b), .val (.int (Int32.ofNat (o + i))), .val (.ref d), .val (.int (Int32.ofNat (q + i))), .val (.int (Int32.ofNat len)), .val (.int (Int32.ofNat i)), z] [])) → ∃ (T' : State) (B' : Cell) (z' : Slot), Stand p l e { frames := 0, locals := 0, cells := 0, slots := 0 } s m #[.ref b, .int (Int32.ofNat o), .ref d, .int (Int32.ofNat q), .int (Int32.ofNat len)] below meth c T' ([] ++ copyLocs d q len) 0 0 ∧ Put d B' s₁ T' ∧ Laid B B' q (q + len) (fun j => Value.int (lo8 (cv A (o + (j - q))))) ∧
      Steps p.tables e below (s₁.setTop (entryFrame m #[.ref b, .int (Int32.ofNat o), .ref d, .int (Int32.ofNat q), .int (Int32.ofNat len)] 7)) (T'.setTop (mkF m 3 #[.val (.ref b), .val (.int (Int32.ofNat (o + len))), .val (.ref d), .val (.int (Int32.ofNat (q + len))), .val (.int (Int32.ofNat len)), .val (.int (Int32.ofNat len)), z'] [])) := by
    intro r
    induction r with
    | zero =>
      intro i hi z hz Tl Bk Xl pl fl cl
      have hil : i = len := by omega
      rw [hil] at Xl fl cl
      exact ⟨Tl, Bk, z, Xl, pl, fl, cl⟩
    | succ r ih =>
      intro i hi z hz Tl Bk Xl pl fl cl
      have all := X0.warmed.alike.symm.trans Xl.warmed.alike
      have hAl := hA0.keep all (pl.other hne hA0.1)
      have hBk := hB0.like all pl.1 fl.1 fl.2.1 fl.2.2.1
      have hlt : q + i < Bk.slots.size := by rw [fl.2.2.1]; omega
      have c3 : Steps p.tables e below (s₁.setTop (entryFrame m #[.ref b, .int (Int32.ofNat o), .ref d, .int (Int32.ofNat q), .int (Int32.ofNat len)] 7)) (Tl.setTop (mkF m 12 #[.val (.ref b), .val (.int (Int32.ofNat (o + i))), .val (.ref d), .val (.int (Int32.ofNat (q + i))), .val (.int (Int32.ofNat len)), .val (.int (Int32.ofNat i)), z] [.int (Int32.ofNat (o + i)), .ref b])) := cl.trans (by
        refine XS.iload Xl.here hexec rfl (hb hbytes d3) rfl ?_
        refine XS.iload Xl.here hexec rfl (hb hbytes d5) rfl ?_
        refine XS.icmpNo Xl.here hexec rfl (hb hbytes d7) rfl (ii_ge_f (lt32 (by omega) (by omega))) ?_
        refine XS.aloadN Xl.here hexec rfl (hb hbytes d10) rfl rfl ?_
        refine XS.iloadN Xl.here hexec rfl (hb hbytes d11) rfl ?_
        exact Steps.refl _)
      have c4 : Steps p.tables e below (s₁.setTop (entryFrame m #[.ref b, .int (Int32.ofNat o), .ref d, .int (Int32.ofNat q), .int (Int32.ofNat len)] 7)) (Tl.setTop (mkF m 13 #[.val (.ref b), .val (.int (Int32.ofNat (o + i))), .val (.ref d), .val (.int (Int32.ofNat (q + i))), .val (.int (Int32.ofNat len)), .val (.int (Int32.ofNat i)), z] [.int (cv A (o + i))])) := c3.trans (by
        refine Xl.aget hexec hAl rfl (hA.get (i := o + i) (by omega)) rfl rfl (hb hbytes d12) ?_
        exact Steps.refl _)
      have c5 : Steps p.tables e below (s₁.setTop (entryFrame m #[.ref b, .int (Int32.ofNat o), .ref d, .int (Int32.ofNat q), .int (Int32.ofNat len)] 7)) (Tl.setTop (mkF m 15 #[.val (.ref b), .val (.int (Int32.ofNat (o + i))), .val (.ref d), .val (.int (Int32.ofNat (q + i))), .val (.int (Int32.ofNat len)), .val (.int (Int32.ofNat i)), .val (.int (cv A (o + i)))] [])) := c4.trans (by
        refine XS.istoreS Xl.here hexec rfl (hb hbytes d13) rfl rfl hz ?_
        exact Steps.refl _)
      have c6 : Steps p.tables e below (s₁.setTop (entryFrame m #[.ref b, .int (Int32.ofNat o), .ref d, .int (Int32.ofNat q), .int (Int32.ofNat len)] 7)) (Tl.setTop (mkF m 31 #[.val (.ref b), .val (.int (Int32.ofNat (o + i))), .val (.ref d), .val (.int (Int32.ofNat (q + i))), .val (.int (Int32.ofNat len)), .val (.int (Int32.ofNat i)), .val (.int (cv A (o + i)))] [.int (lo8 (cv A (o + i))), .int (Int32.ofNat (q + i)), .ref d])) := c5.trans (by
        refine XS.iload Xl.here hexec rfl (hb hbytes d15) rfl ?_
        refine sipushV Xl.here hexec rfl 255 (hb hbytes d17) (by decide) ?_
        refine XS.icmpYes Xl.here hexec rfl (pc0 := 20) rfl (hb hbytes d20) rfl (ii_le_t (hp i (by omega))) (by decide) rfl ?_
        refine XS.aloadN Xl.here hexec rfl (hb hbytes d26) rfl rfl ?_
        refine XS.iloadN Xl.here hexec rfl (hb hbytes d27) rfl ?_
        refine XS.iload Xl.here hexec rfl (hb hbytes d28) rfl ?_
        refine i2b Xl.here hexec rfl (hb hbytes d30) rfl ?_
        exact Steps.refl _)
      obtain ⟨T7, X7, p7, st7⟩ := Xl.aput hexec hBk rfl hlt rfl (fits_lo8 (cv A (o + i))) (g := (mkF m 31 #[.val (.ref b), .val (.int (Int32.ofNat (o + i))), .val (.ref d), .val (.int (Int32.ofNat (q + i))), .val (.int (Int32.ofNat len)), .val (.int (Int32.ofNat i)), .val (.int (cv A (o + i)))] [.int (lo8 (cv A (o + i))), .int (Int32.ofNat (q + i)), .ref d])) rfl (rest := []) rfl (hb hbytes d31)
      have c8 : Steps p.tables e below (s₁.setTop (entryFrame m #[.ref b, .int (Int32.ofNat o), .ref d, .int (Int32.ofNat q), .int (Int32.ofNat len)] 7)) (T7.setTop (mkF m 32 #[.val (.ref b), .val (.int (Int32.ofNat (o + i))), .val (.ref d), .val (.int (Int32.ofNat (q + i))), .val (.int (Int32.ofNat len)), .val (.int (Int32.ofNat i)), .val (.int (cv A (o + i)))] [])) := c6.trans (st7 _ (Steps.refl _))
      have c9 : Steps p.tables e below (s₁.setTop (entryFrame m #[.ref b, .int (Int32.ofNat o), .ref d, .int (Int32.ofNat q), .int (Int32.ofNat len)] 7)) (T7.setTop (mkF m 3 #[.val (.ref b), .val (.int (Int32.ofNat (o + i) + 1)), .val (.ref d), .val (.int (Int32.ofNat (q + i) + 1)), .val (.int (Int32.ofNat len)), .val (.int (Int32.ofNat i + 1)), .val (.int (cv A (o + i)))] [])) := c8.trans (by
        refine iincV X7.here hexec rfl 1 (hb hbytes d32) (by decide) rfl rfl ?_
        refine iincV X7.here hexec rfl 1 (hb hbytes d35) (by decide) rfl rfl ?_
        refine iincV X7.here hexec rfl 1 (hb hbytes d38) (by decide) rfl rfl ?_
        refine XS.goto X7.here hexec rfl (pc0 := 41) rfl (hb hbytes d41) (by decide) rfl ?_
        exact Steps.refl _)
      have c10 : Steps p.tables e below (s₁.setTop (entryFrame m #[.ref b, .int (Int32.ofNat o), .ref d, .int (Int32.ofNat q), .int (Int32.ofNat len)] 7)) (T7.setTop (mkF m 3 #[.val (.ref b), .val (.int (Int32.ofNat (o + (i + 1)))), .val (.ref d), .val (.int (Int32.ofNat (q + (i + 1)))), .val (.int (Int32.ofNat len)), .val (.int (Int32.ofNat (i + 1))), .val (.int (cv A (o + i)))] [])) := by
        have := c9
        rw [succ32, succ32, succ32] at this
        exact this
      exact ih (i + 1) (by omega) _ (Or.inr ⟨_, rfl, rfl⟩) T7 _ (by rw [copyLocs_step, ← List.append_assoc]; exact X7) (pl.trans p7) (fl.step (by omega) hlt (by simp)) c10
  obtain ⟨T9, B9, z9, X9, p9, f9, g9⟩ := loop len 0 (by omega) .unset (Or.inl rfl) s₁ B (by simpa [copyLocs] using X0) ⟨hB0.1, fun _ _ => rfl, rfl⟩ (Laid.zero _ _ _) c2
  have c11 : Steps p.tables e below (s₁.setTop (entryFrame m #[.ref b, .int (Int32.ofNat o), .ref d, .int (Int32.ofNat q), .int (Int32.ofNat len)] 7)) (T9.setTop (mkF m 46 #[.val (.ref b), .val (.int (Int32.ofNat (o + len))), .val (.ref d), .val (.int (Int32.ofNat (q + len))), .val (.int (Int32.ofNat len)), .val (.int (Int32.ofNat len)), z9] [.int (Int32.ofNat len)])) := g9.trans (by
    refine XS.iload X9.here hexec rfl (hb hbytes d3) rfl ?_
    refine XS.iload X9.here hexec rfl (hb hbytes d5) rfl ?_
    refine XS.icmpYes X9.here hexec rfl (pc0 := 7) rfl (hb hbytes d7) rfl (ii_ge_t (nlt32 (by omega) (Nat.le_refl _))) (by decide) rfl ?_
    refine XS.iload X9.here hexec rfl (hb hbytes d44) rfl ?_
    exact Steps.refl _)
  exact ⟨T9, some (.int (Int32.ofNat len)), _, _, _, X9, by simp, rfl, rfl, (fun h => by cases h), ⟨rfl, B9, p9.from hh0, f9⟩, fun fs hl => c11.trans (X9.ireturnOut hexec hret rfl (Or.inl rfl) (hb hbytes d46) hl)⟩
end Cmp5
namespace Cmp3
def yN : MethodName := ⟨"java/lang/StringUTF16", "compress", "([CII)[B"⟩
abbrev yB : ByteArray := jdk_52_method_16_code
theorem d0 : decode yB 0 = .ok (.iload_n 2, 1) := by decide +kernel
theorem d1 : decode yB 1 = .ok (.newarray .byte, 2) := by decide +kernel
theorem d3 : decode yB 3 = .ok (.astore_n 3, 1) := by decide +kernel
theorem d4 : decode yB 4 = .ok (.aload_n 0, 1) := by decide +kernel
theorem d5 : decode yB 5 = .ok (.iload_n 1, 1) := by decide +kernel
theorem d6 : decode yB 6 = .ok (.aload_n 3, 1) := by decide +kernel
theorem d7 : decode yB 7 = .ok (.iconst 0, 1) := by decide +kernel
theorem d8 : decode yB 8 = .ok (.iload_n 2, 1) := by decide +kernel
theorem d9 : decode yB 9 = .ok (.invokestatic 115, 3) := by decide +kernel
theorem d12 : decode yB 12 = .ok (.istore 4, 2) := by decide +kernel
theorem d14 : decode yB 14 = .ok (.iload 4, 2) := by decide +kernel
theorem d16 : decode yB 16 = .ok (.iload_n 2, 1) := by decide +kernel
theorem d17 : decode yB 17 = .ok (.if_icmp (.eq) 40, 3) := by decide +kernel
theorem d57 : decode yB 57 = .ok (.aload_n 3, 1) := by decide +kernel
theorem d58 : decode yB 58 = .ok (.areturn, 1) := by decide +kernel
def site : List Cond := [.arrayClass .byte, Cmp5.tab] ++ staticW U16 115 Cmp5.yN
def tab : Cond := tabOf yN yB 6 (some (.array .byte)) site
def P (b : Addr) (A : Cell) (o len : Nat) (args : Array Value) (s : State) : Prop := args = #[.ref b, .int (Int32.ofNat o), .int (Int32.ofNat len)] ∧ Ch b A s ∧ o + len ≤ A.slots.size ∧ len ≤ 536870912 ∧ ∀ i, i < len → ¬ 255 < cv A (o + i)
def E (b : Addr) (A : Cell) (o len : Nat) (r : Option Value) (s u : State) : Prop := NewArr .byte "[B" len (fun j => .int (lo8 (cv A (o + j)))) r s u ∧ u.heap.size = s.heap.size + 1
/-- no char of the range above 255: a new byte[] of their low bytes -/
theorem law (l : Launch) (b : Addr) (A : Cell) (o len : Nat) : Law l yN 3 3 1 18 yB 6 (some (.array .byte)) site (P b A o len) (E b A o len) [] 1 len := by
  refine Law.of_walk (plainFor_of_name (by decide +kernel)) (by decide +kernel) (by decide +kernel) (by decide) (fun _ _ h => by rw [h.1]; rfl) (fun _ U U' hal hh h => ⟨h.1, h.2.1.mv hal hh, h.2.2⟩) (fun r U U' V V' h1 hal h2 h => ⟨NewArr.mv r U U' V V' h1 hal h2 h.1, by rw [h1, h2]; exact h.2⟩) ?_
  intro p e s m args below meth c s₁ X0 hexec hbytes hml hret hlk hnm hown hh0 W hP
  obtain ⟨rfl, hA, l1, l2, hp⟩ := hP
  have a31 := hA.1.2.2.2
  have c1 : Steps p.tables e below (s₁.setTop (entryFrame m #[.ref b, .int (Int32.ofNat o), .int (Int32.ofNat len)] 6)) (s₁.setTop (mkF m 0 #[.val (.ref b), .val (.int (Int32.ofNat o)), .val (.int (Int32.ofNat len)), .unset, .unset, .unset] [])) := entry rfl
  have c2 : Steps p.tables e below (s₁.setTop (entryFrame m #[.ref b, .int (Int32.ofNat o), .int (Int32.ofNat len)] 6)) (s₁.setTop (mkF m 1 #[.val (.ref b), .val (.int (Int32.ofNat o)), .val (.int (Int32.ofNat len)), .unset, .unset, .unset] [.int (Int32.ofNat len)])) := c1.trans (by
    refine XS.iloadN X0.here hexec rfl (hb hbytes d0) rfl ?_
    exact Steps.refl _)
  obtain ⟨T3, B3, X3, ba3, bs3, bv3, bh3, bf3, st3⟩ := X0.anew hexec (atype := .byte) (wk W (.arrayClass .byte)) rfl (by show len * 1 ≤ _; omega) (by omega) (g := (mkF m 1 #[.val (.ref b), .val (.int (Int32.ofNat o)), .val (.int (Int32.ofNat len)), .unset, .unset, .unset] [.int (Int32.ofNat len)])) rfl (hb hbytes d1) (rest := []) rfl (Nat.le_refl _) (by show 0 + len ≤ len; omega)
  rw [hh0] at ba3 st3
  have kp3 : XT.Kept s T3 := (XT.Kept.of_eq hh0).push bh3
  have hA3 := hA.keep X3.warmed.alike (kp3 _ _ hA.1.1)
  have hne : b ≠ s.heap.size := hA.1.ne
  have c4 : Steps p.tables e below (s₁.setTop (entryFrame m #[.ref b, .int (Int32.ofNat o), .int (Int32.ofNat len)] 6)) (T3.setTop (mkF m 3 #[.val (.ref b), .val (.int (Int32.ofNat o)), .val (.int (Int32.ofNat len)), .unset, .unset, .unset] [.ref s.heap.size])) := c2.trans (st3 _ (Steps.refl _))
  have c5 : Steps p.tables e below (s₁.setTop (entryFrame m #[.ref b, .int (Int32.ofNat o), .int (Int32.ofNat len)] 6)) (T3.setTop (mkF m 9 #[.val (.ref b), .val (.int (Int32.ofNat o)), .val (.int (Int32.ofNat len)), .val (.ref s.heap.size), .unset, .unset] [.int (Int32.ofNat len), .int 0, .ref s.heap.size, .int (Int32.ofNat o), .ref b])) := c4.trans (by
    refine XS.astoreN X3.here hexec rfl (hb hbytes d3) rfl rfl rfl ?_
    refine XS.aloadN X3.here hexec rfl (hb hbytes d4) rfl rfl ?_
    refine XS.iloadN X3.here hexec rfl (hb hbytes d5) rfl ?_
    refine XS.aloadN X3.here hexec rfl (hb hbytes d6) rfl rfl ?_
    refine iconstV X3.here hexec rfl 0 (hb hbytes d7) (by decide) ?_
    refine XS.iloadN X3.here hexec rfl (hb hbytes d8) rfl ?_
    exact Steps.refl _)
  obtain ⟨v6, T6, X6, E6, g6⟩ := X3.callS hexec (Cmp5.law l b A s.heap.size B3 o 0 len) hown (wks W (staticW U16 115 Cmp5.yN)) (wk W Cmp5.tab) (W := 0) (Nat.le_of_ble_eq_true rfl) (Nat.le_of_ble_eq_true rfl) (Nat.le_refl _) (by show 0 + len + 0 ≤ len; omega) (g := (mkF m 9 #[.val (.ref b), .val (.int (Int32.ofNat o)), .val (.int (Int32.ofNat len)), .val (.ref s.heap.size), .unset, .unset] [.int (Int32.ofNat len), .int (Int32.ofNat 0), .ref s.heap.size, .int (Int32.ofNat o), .ref b])) rfl (by rw [hml]; rfl) c5 (argsL := [.ref b, .int (Int32.ofNat o), .ref s.heap.size, .int (Int32.ofNat 0), .int (Int32.ofNat len)]) (rest := []) rfl rfl (by show 2 * 0 + 0 ≤ _; decide) (hb hbytes d9) (⟨rfl, hA3, ba3, hne, l1, by rw [bs3]; simp, hp⟩)
  obtain ⟨rfl, B6, p6, f6⟩ := E6
  have c7 : Steps p.tables e below (s₁.setTop (entryFrame m #[.ref b, .int (Int32.ofNat o), .int (Int32.ofNat len)] 6)) (T6.setTop (mkF m 12 #[.val (.ref b), .val (.int (Int32.ofNat o)), .val (.int (Int32.ofNat len)), .val (.ref s.heap.size), .unset, .unset] [.int (Int32.ofNat len)])) := g6
  have c8 : Steps p.tables e below (s₁.setTop (entryFrame m #[.ref b, .int (Int32.ofNat o), .int (Int32.ofNat len)] 6)) (T6.setTop (mkF m 58 #[.val (.ref b), .val (.int (Int32.ofNat o)), .val (.int (Int32.ofNat len)), .val (.ref s.heap.size), .val (.int (Int32.ofNat len)), .unset] [.ref s.heap.size])) := c7.trans (by
    refine XS.istore X6.here hexec rfl (hb hbytes d12) rfl rfl ?_
    refine XS.iload X6.here hexec rfl (hb hbytes d14) rfl ?_
    refine XS.iloadN X6.here hexec rfl (hb hbytes d16) rfl ?_
    refine XS.icmpYes X6.here hexec rfl (pc0 := 17) rfl (hb hbytes d17) rfl (ii_eq_t rfl) (by decide) rfl ?_
    refine XS.aloadN X6.here hexec rfl (hb hbytes d57) rfl rfl ?_
    exact Steps.refl _)
  have X8 := X6.wide (L' := []) (cells' := 1) (slots' := len) (fun x hx hlt => by
    simp only [List.nil_append, copyLocs, List.mem_map, List.mem_range] at hx
    obtain ⟨i, -, rfl⟩ := hx
    exact absurd hlt (Nat.lt_irrefl _)) (Nat.le_refl _) (by omega)
  exact ⟨T6, some (.ref s.heap.size), _, _, _, X8, rfl, rfl, rfl, (fun h => by cases h), ⟨⟨rfl, B6, ba3.like (X3.warmed.alike.symm.trans X6.warmed.alike) p6.1 f6.1 f6.2.1 f6.2.2.1, f6.2.1.trans bv3, by rw [X6.warmed.alike.findClass, f6.1]; exact bf3, by rw [f6.2.2.1, bs3]; simp, fun j hj => by rw [f6.2.2.2 j, if_pos (by omega)]; rfl, kp3.put p6 (Nat.le_refl _)⟩, by rw [p6.2.2, bh3, hh0]; simp⟩, fun fs hl => c8.trans (X8.areturnOut hexec rfl hret rfl (hb hbytes d58) hl)⟩
end Cmp3
namespace CodL
def yN : MethodName := ⟨"java/lang/StringUTF16", "coderFromArrayLen", "([BI)B"⟩
abbrev yB : ByteArray := jdk_52_method_15_code
theorem d0 : decode yB 0 = .ok (.iload_n 1, 1) := by decide +kernel
theorem d1 : decode yB 1 = .ok (.aload_n 0, 1) := by decide +kernel
theorem d2 : decode yB 2 = .ok (.arraylength, 1) := by decide +kernel
theorem d3 : decode yB 3 = .ok (.isub, 1) := by decide +kernel
theorem d4 : decode yB 4 = .ok (.bipush 31, 2) := by decide +kernel
theorem d6 : decode yB 6 = .ok (.iushr, 1) := by decide +kernel
theorem d7 : decode yB 7 = .ok (.i2b, 1) := by decide +kernel
theorem d8 : decode yB 8 = .ok (.ireturn, 1) := by decide +kernel
def site : List Cond := []
def tab : Cond := tabOf yN yB 2 (some .byte) site
def P (d : Addr) (B : Cell) (args : Array Value) (s : State) : Prop := args = #[.ref d, .int (Int32.ofNat B.slots.size)] ∧ Arr .byte d B s
def E (r : Option Value) (s u : State) : Prop := XT.PureE (some (.int 0)) r s u
/-- an array as long as the number of chars: LATIN1 -/
theorem law (l : Launch) (d : Addr) (B : Cell) : Law l yN 2 2 0 0 yB 2 (some .byte) site (P d B) E [] 0 0 := by
  refine Law.of_walk (plainFor_of_name (by decide +kernel)) (by decide +kernel) (by decide +kernel) (by decide) (fun _ _ h => by rw [h.1]; rfl) (fun _ U U' hal hh h => ⟨h.1, h.2.mv hal hh⟩) (fun r U U' V V' h1 hal h2 h => XT.PureE.mv r U U' V V' h1 hal h2 h) ?_
  intro p e s m args below meth c s₁ X0 hexec hbytes hml hret hlk hnm hown hh0 W hP
  obtain ⟨rfl, hB⟩ := hP
  have hB0 := hB.mv X0.warmed.alike hh0
  have c1 : Steps p.tables e below (s₁.setTop (entryFrame m #[.ref d, .int (Int32.ofNat B.slots.size)] 2)) (s₁.setTop (mkF m 0 #[.val (.ref d), .val (.int (Int32.ofNat B.slots.size))] [])) := entry rfl
  have c2 : Steps p.tables e below (s₁.setTop (entryFrame m #[.ref d, .int (Int32.ofNat B.slots.size)] 2)) (s₁.setTop (mkF m 2 #[.val (.ref d), .val (.int (Int32.ofNat B.slots.size))] [.ref d, .int (Int32.ofNat B.slots.size)])) := c1.trans (by
    refine XS.iloadN X0.here hexec rfl (hb hbytes d0) rfl ?_
    refine XS.aloadN X0.here hexec rfl (hb hbytes d1) rfl rfl ?_
    exact Steps.refl _)
  have c3 : Steps p.tables e below (s₁.setTop (entryFrame m #[.ref d, .int (Int32.ofNat B.slots.size)] 2)) (s₁.setTop (mkF m 8 #[.val (.ref d), .val (.int (Int32.ofNat B.slots.size))] [.int (lo8 (ushr (Int32.ofNat B.slots.size - Int32.ofNat B.slots.size) 31))])) := c2.trans (by
    refine X0.alen hexec hB0 rfl rfl (hb hbytes d2) ?_
    refine XS.isub X0.here hexec rfl (hb hbytes d3) rfl ?_
    refine bipushV X0.here hexec rfl 31 (hb hbytes d4) (by decide) ?_
    refine iushr X0.here hexec rfl (hb hbytes d6) rfl ?_
    refine i2b X0.here hexec rfl (hb hbytes d7) rfl ?_
    exact Steps.refl _)
  have e0 : lo8 (ushr (Int32.ofNat B.slots.size - Int32.ofNat B.slots.size) 31) = 0 := by rw [Int32.sub_self]; decide
  rw [e0] at c3
  exact ⟨s₁, some (.int 0), _, _, _, X0, rfl, rfl, rfl, (fun h => by cases h), ⟨rfl, hh0⟩, fun fs hl => c3.trans (X0.ireturnOut hexec hret rfl (Or.inr (Or.inr (Or.inl rfl))) (hb hbytes d8) hl)⟩
end CodL
/-- the String at a is Latin-1 over a new byte[] (the heap's one new cell): the low bytes of the len chars of A from o on; every cell but a is kept -/
def Got (a : Addr) (D : Cell) (fV fC : Field) (A : Cell) (o len : Nat) (r : Option Value) (s u : State) : Prop := r = none ∧ ∃ D' V : Cell, Blank "java/lang/String" a D' u ∧ Same D D' [fV.slot, fC.slot] ∧ D'.slots[fV.slot]? = some (.ref s.heap.size) ∧ D'.slots[fC.slot]? = some (.int 0) ∧ Arr .byte s.heap.size V u ∧ V.vm = .none ∧ u.vm.findClass "[B" = some V.cls ∧ V.slots.size = len ∧ (∀ j, j < len → V.slots[j]? = some (.int (lo8 (cv A (o + j))))) ∧ (∀ (y : Addr) (c : Cell), y ≠ a → s.heap[y]? = some c → u.heap[y]? = some c) ∧ u.heap.size = s.heap.size + 1
theorem Got.mv {a : Addr} {D A : Cell} {fV fC : Field} {o len : Nat} : ∀ r (U U' V V' : State), U'.heap = U.heap → V.vm.Alike V'.vm → V'.heap = V.heap → Got a D fV fC A o len r U V → Got a D fV fC A o len r U' V' :=
  fun r U U' V V' h1 hal h2 ⟨e0, D', X, a1, a2, a3, a4, a5, a6, a7, a8, a9, a10, a11⟩ => ⟨e0, D', X, a1.mv hal h2, a2, by rw [h1]; exact a3, a4, by rw [h1]; exact a5.mv hal h2, a6, by rw [hal.findClass]; exact a7, a8, a9, by rw [h1, h2]; exact a10, by rw [h1, h2]; exact a11⟩
namespace New4
def yN : MethodName := ⟨"java/lang/String", "<init>", "([CIILjava/lang/Void;)V"⟩
abbrev yB : ByteArray := jdk_42_method_149_code
theorem d0 : decode yB 0 = .ok (.aload_n 0, 1) := by decide +kernel
theorem d1 : decode yB 1 = .ok (.invokespecial 1, 3) := by decide +kernel
theorem d4 : decode yB 4 = .ok (.iload_n 3, 1) := by decide +kernel
theorem d5 : decode yB 5 = .ok (.ifCond (.ne) 22, 3) := by decide +kernel
theorem d27 : decode yB 27 = .ok (.getstatic 38, 3) := by decide +kernel
theorem d30 : decode yB 30 = .ok (.ifCond (.eq) 28, 3) := by decide +kernel
theorem d33 : decode yB 33 = .ok (.aload_n 1, 1) := by decide +kernel
theorem d34 : decode yB 34 = .ok (.iload_n 2, 1) := by decide +kernel
theorem d35 : decode yB 35 = .ok (.iload_n 3, 1) := by decide +kernel
theorem d36 : decode yB 36 = .ok (.invokestatic 177, 3) := by decide +kernel
theorem d39 : decode yB 39 = .ok (.astore 5, 2) := by decide +kernel
theorem d41 : decode yB 41 = .ok (.aload_n 0, 1) := by decide +kernel
theorem d42 : decode yB 42 = .ok (.aload 5, 2) := by decide +kernel
theorem d44 : decode yB 44 = .ok (.iload_n 3, 1) := by decide +kernel
theorem d45 : decode yB 45 = .ok (.invokestatic 47, 3) := by decide +kernel
theorem d48 : decode yB 48 = .ok (.putfield 15, 3) := by decide +kernel
theorem d51 : decode yB 51 = .ok (.aload_n 0, 1) := by decide +kernel
theorem d52 : decode yB 52 = .ok (.aload 5, 2) := by decide +kernel
theorem d54 : decode yB 54 = .ok (.putfield 9, 3) := by decide +kernel
theorem d57 : decode yB 57 = .ok (.return_, 1) := by decide +kernel
def site : List Cond := [.fieldLink "java/lang/String" 38 "java/lang/String" "COMPACT_STRINGS" "Z", Cmp3.tab, CodL.tab, .laysFinal "java/lang/String" "java/lang/String" "value" "[B", .fieldLink "java/lang/String" 9 "java/lang/String" "value" "[B", .laysFinal "java/lang/String" "java/lang/String" "coder" "B", .fieldLink "java/lang/String" 15 "java/lang/String" "coder" "B"] ++ objW "java/lang/String" 1 ++ staticW "java/lang/String" 177 Cmp3.yN ++ staticW "java/lang/String" 47 CodL.yN
def tab : Cond := tabOf yN yB 6 none site
def P (a : Addr) (D : Cell) (fV fC : Field) (b : Addr) (A : Cell) (z : Int32) (o len : Nat) (args : Array Value) (s : State) : Prop := args = #[.ref a, .ref b, .int (Int32.ofNat o), .int (Int32.ofNat len), .null] ∧ Blank "java/lang/String" a D s ∧ Found "java/lang/String" "value" "[B" fV s ∧ Found "java/lang/String" "coder" "B" fC s ∧ Ch b A s ∧ StaticIs s "java/lang/String" "COMPACT_STRINGS" "Z" (.int z) ∧ ¬ z = 0 ∧ 0 < len ∧ o + len ≤ A.slots.size ∧ len ≤ 536870912 ∧ ∀ i, i < len → ¬ 255 < cv A (o + i)
def E (a : Addr) (D : Cell) (fV fC : Field) (A : Cell) (o len : Nat) (r : Option Value) (s u : State) : Prop := Got a D fV fC A o len r s u
/-- len > 0, no char of the range above 255: a Latin-1 String of their low bytes -/
theorem law (l : Launch) (a : Addr) (D : Cell) (fV fC : Field) (b : Addr) (A : Cell) (z : Int32) (o len : Nat) : Law l yN 5 4 2 35 yB 6 none site (P a D fV fC b A z o len) (E a D fV fC A o len) [⟨a, fC.slot⟩, ⟨a, fV.slot⟩] 1 len := by
  refine Law.of_walk (plainFor_of_name (by decide +kernel)) (by decide +kernel) (by decide +kernel) (by decide) (fun _ _ h => by rw [h.1]; rfl) (fun _ U U' hal hh h => ⟨h.1, h.2.1.mv hal hh, h.2.2.1.al hal, h.2.2.2.1.al hal, h.2.2.2.2.1.mv hal hh, h.2.2.2.2.2.1.there hal hh, h.2.2.2.2.2.2⟩) (fun r U U' V V' h1 hal h2 h => Got.mv r U U' V V' h1 hal h2 h) ?_
  intro p e s m args below meth c s₁ X0 hexec hbytes hml hret hlk hnm hown hh0 W hP
  obtain ⟨rfl, hB, f1, f2, hA, s1, hz, l0, l1, l2, hp⟩ := hP
  have a31 := hA.1.2.2.2
  have c1 : Steps p.tables e below (s₁.setTop (entryFrame m #[.ref a, .ref b, .int (Int32.ofNat o), .int (Int32.ofNat len), .null] 6)) (s₁.setTop (mkF m 0 #[.val (.ref a), .val (.ref b), .val (.int (Int32.ofNat o)), .val (.int (Int32.ofNat len)), .val .null, .unset] [])) := entry rfl
  have c2 : Steps p.tables e below (s₁.setTop (entryFrame m #[.ref a, .ref b, .int (Int32.ofNat o), .int (Int32.ofNat len), .null] 6)) (s₁.setTop (mkF m 1 #[.val (.ref a), .val (.ref b), .val (.int (Int32.ofNat o)), .val (.int (Int32.ofNat len)), .val .null, .unset] [.ref a])) := c1.trans (by
    refine XS.aloadN X0.here hexec rfl (hb hbytes d0) rfl rfl ?_
    exact Steps.refl _)
  obtain ⟨T3, X3, q3, st3⟩ := X0.oinit hexec hown (wks W (objW "java/lang/String" 1)) (g := (mkF m 1 #[.val (.ref a), .val (.ref b), .val (.int (Int32.ofNat o)), .val (.int (Int32.ofNat len)), .val .null, .unset] [.ref a])) rfl (by rw [hml]; rfl) (rest := []) rfl (hb hbytes d1) (W := 0) (by show 2 * 0 + 0 ≤ _; decide) (Nat.le_of_ble_eq_true rfl) (Nat.le_of_ble_eq_true rfl)
  have hh3 := q3.trans hh0
  have c4 : Steps p.tables e below (s₁.setTop (entryFrame m #[.ref a, .ref b, .int (Int32.ofNat o), .int (Int32.ofNat len), .null] 6)) (T3.setTop (mkF m 27 #[.val (.ref a), .val (.ref b), .val (.int (Int32.ofNat o)), .val (.int (Int32.ofNat len)), .val .null, .unset] [])) := (c2.trans (st3 _ (Steps.refl _))).trans (by
    refine XS.iloadN X3.here hexec rfl (hb hbytes d4) rfl ?_
    refine XS.ifYes X3.here hexec rfl (pc0 := 5) rfl (hb hbytes d5) rfl (i0_ne_t (nz32 (by omega) l0)) (by decide) rfl ?_
    exact Steps.refl _)
  obtain ⟨T5, X5, q5, st5⟩ := X3.sget hexec hown (wk W (.fieldLink "java/lang/String" 38 "java/lang/String" "COMPACT_STRINGS" "Z")) s1 (fun _ _ h => by rw [hh3]; exact h) (g := (mkF m 27 #[.val (.ref a), .val (.ref b), .val (.int (Int32.ofNat o)), .val (.int (Int32.ofNat len)), .val .null, .unset] [])) rfl (hb hbytes d27)
  have hh5 := q5.trans hh3
  have c6 : Steps p.tables e below (s₁.setTop (entryFrame m #[.ref a, .ref b, .int (Int32.ofNat o), .int (Int32.ofNat len), .null] 6)) (T5.setTop (mkF m 30 #[.val (.ref a), .val (.ref b), .val (.int (Int32.ofNat o)), .val (.int (Int32.ofNat len)), .val .null, .unset] [.int z])) := c4.trans (st5 _ (Steps.refl _))
  have c7 : Steps p.tables e below (s₁.setTop (entryFrame m #[.ref a, .ref b, .int (Int32.ofNat o), .int (Int32.ofNat len), .null] 6)) (T5.setTop (mkF m 36 #[.val (.ref a), .val (.ref b), .val (.int (Int32.ofNat o)), .val (.int (Int32.ofNat len)), .val .null, .unset] [.int (Int32.ofNat len), .int (Int32.ofNat o), .ref b])) := c6.trans (by
    refine XS.ifNo X5.here hexec rfl (hb hbytes d30) rfl (i0_eq_f hz) ?_
    refine XS.aloadN X5.here hexec rfl (hb hbytes d33) rfl rfl ?_
    refine XS.iloadN X5.here hexec rfl (hb hbytes d34) rfl ?_
    refine XS.iloadN X5.here hexec rfl (hb hbytes d35) rfl ?_
    exact Steps.refl _)
  obtain ⟨v8, T8, X8, E8, g8⟩ := X5.callS hexec (Cmp3.law l b A o len) hown (wks W (staticW "java/lang/String" 177 Cmp3.yN)) (wk W Cmp3.tab) (W := 0) (Nat.le_of_ble_eq_true rfl) (Nat.le_of_ble_eq_true rfl) (Nat.le_refl _) (by show 0 + len ≤ len; omega) (g := (mkF m 36 #[.val (.ref a), .val (.ref b), .val (.int (Int32.ofNat o)), .val (.int (Int32.ofNat len)), .val .null, .unset] [.int (Int32.ofNat len), .int (Int32.ofNat o), .ref b])) rfl (by rw [hml]; rfl) c7 (argsL := [.ref b, .int (Int32.ofNat o), .int (Int32.ofNat len)]) (rest := []) rfl rfl (by show 2 * 0 + 0 ≤ _; decide) (hb hbytes d36) (⟨rfl, hA.mv X5.warmed.alike hh5, l1, l2, hp⟩)
  obtain ⟨e8, z8⟩ := E8
  obtain ⟨rfl, N, n1, n2, n3, n4, n5, n6⟩ := NewArr.mv _ T5 s _ _ hh5.symm (Vm.Alike.refl _) rfl e8
  rw [hh5] at z8
  have hB1 := hB.keep X8.warmed.alike (n6 _ _ hB.1)
  have hne : s.heap.size ≠ a := (Nat.ne_of_lt (Array.getElem?_eq_some_iff.mp hB.1).1).symm
  have c9 : Steps p.tables e below (s₁.setTop (entryFrame m #[.ref a, .ref b, .int (Int32.ofNat o), .int (Int32.ofNat len), .null] 6)) (T8.setTop (mkF m 39 #[.val (.ref a), .val (.ref b), .val (.int (Int32.ofNat o)), .val (.int (Int32.ofNat len)), .val .null, .unset] [.ref s.heap.size])) := g8
  have c10 : Steps p.tables e below (s₁.setTop (entryFrame m #[.ref a, .ref b, .int (Int32.ofNat o), .int (Int32.ofNat len), .null] 6)) (T8.setTop (mkF m 45 #[.val (.ref a), .val (.ref b), .val (.int (Int32.ofNat o)), .val (.int (Int32.ofNat len)), .val .null, .val (.ref s.heap.size)] [.int (Int32.ofNat N.slots.size), .ref s.heap.size, .ref a])) := by
    have hc : Steps p.tables e below (s₁.setTop (entryFrame m #[.ref a, .ref b, .int (Int32.ofNat o), .int (Int32.ofNat len), .null] 6)) (T8.setTop (mkF m 45 #[.val (.ref a), .val (.ref b), .val (.int (Int32.ofNat o)), .val (.int (Int32.ofNat len)), .val .null, .val (.ref s.heap.size)] [.int (Int32.ofNat len), .ref s.heap.size, .ref a])) := c9.trans (by
      refine XS.astore X8.here hexec rfl (hb hbytes d39) rfl rfl rfl ?_
      refine XS.aloadN X8.here hexec rfl (hb hbytes d41) rfl rfl ?_
      refine XS.aload X8.here hexec rfl (hb hbytes d42) rfl rfl ?_
      refine XS.iloadN X8.here hexec rfl (hb hbytes d44) rfl ?_
      exact Steps.refl _)
    rw [n4]; exact hc
  obtain ⟨v11, T11, X11, E11, g11⟩ := X8.callS hexec (CodL.law l s.heap.size N) hown (wks W (staticW "java/lang/String" 47 CodL.yN)) (wk W CodL.tab) (W := 1) (Nat.le_of_ble_eq_true rfl) (Nat.le_of_ble_eq_true rfl) (Nat.le_refl _) (by show 0 + len + 0 ≤ len; omega) (g := (mkF m 45 #[.val (.ref a), .val (.ref b), .val (.int (Int32.ofNat o)), .val (.int (Int32.ofNat len)), .val .null, .val (.ref s.heap.size)] [.int (Int32.ofNat N.slots.size), .ref s.heap.size, .ref a])) rfl (by rw [hml]; rfl) c10 (argsL := [.ref s.heap.size, .int (Int32.ofNat N.slots.size)]) (rest := [.ref a]) rfl rfl (by show 2 * 0 + (1 + 0) ≤ _; decide) (hb hbytes d45) (⟨rfl, n1⟩)
  obtain ⟨rfl, q11⟩ := E11
  have hB11 := hB1.mv (X8.warmed.alike.symm.trans X11.warmed.alike) q11
  have c12 : Steps p.tables e below (s₁.setTop (entryFrame m #[.ref a, .ref b, .int (Int32.ofNat o), .int (Int32.ofNat len), .null] 6)) (T11.setTop (mkF m 48 #[.val (.ref a), .val (.ref b), .val (.int (Int32.ofNat o)), .val (.int (Int32.ofNat len)), .val .null, .val (.ref s.heap.size)] [.int 0, .ref a])) := g11
  obtain ⟨T13, X13, p13, bl13, sl13, st13⟩ := X11.finit hexec hown (wk W (.fieldLink "java/lang/String" 15 "java/lang/String" "coder" "B")) (Or.inr ⟨_, (wk W (.laysFinal "java/lang/String" "java/lang/String" "coder" "B"))⟩) (Or.inl ⟨rfl, hnm⟩) f2 (Or.inl rfl) hB11 (t := .byte) (by decide +kernel) rfl (g := (mkF m 48 #[.val (.ref a), .val (.ref b), .val (.int (Int32.ofNat o)), .val (.int (Int32.ofNat len)), .val .null, .val (.ref s.heap.size)] [.int 0, .ref a])) rfl (rest := []) rfl (hb hbytes d48)
  have c14 : Steps p.tables e below (s₁.setTop (entryFrame m #[.ref a, .ref b, .int (Int32.ofNat o), .int (Int32.ofNat len), .null] 6)) (T13.setTop (mkF m 54 #[.val (.ref a), .val (.ref b), .val (.int (Int32.ofNat o)), .val (.int (Int32.ofNat len)), .val .null, .val (.ref s.heap.size)] [.ref s.heap.size, .ref a])) := (c12.trans (st13 _ (Steps.refl _))).trans (by
    refine XS.aloadN X13.here hexec rfl (hb hbytes d51) rfl rfl ?_
    refine XS.aload X13.here hexec rfl (hb hbytes d52) rfl rfl ?_
    exact Steps.refl _)
  obtain ⟨T15, X15, p15, bl15, sl15, st15⟩ := X13.finit hexec hown (wk W (.fieldLink "java/lang/String" 9 "java/lang/String" "value" "[B")) (Or.inr ⟨_, (wk W (.laysFinal "java/lang/String" "java/lang/String" "value" "[B"))⟩) (Or.inl ⟨rfl, hnm⟩) f1 (Or.inl rfl) bl13 (t := (.array .byte)) (by decide +kernel) rfl (g := (mkF m 54 #[.val (.ref a), .val (.ref b), .val (.int (Int32.ofNat o)), .val (.int (Int32.ofNat len)), .val .null, .val (.ref s.heap.size)] [.ref s.heap.size, .ref a])) rfl (rest := []) rfl (hb hbytes d54)
  have c16 : Steps p.tables e below (s₁.setTop (entryFrame m #[.ref a, .ref b, .int (Int32.ofNat o), .int (Int32.ofNat len), .null] 6)) (T15.setTop (mkF m 57 #[.val (.ref a), .val (.ref b), .val (.int (Int32.ofNat o)), .val (.int (Int32.ofNat len)), .val .null, .val (.ref s.heap.size)] [])) := c14.trans (st15 _ (Steps.refl _))
  have ap := apart (Or.inr ⟨_, (wk W (.laysFinal "java/lang/String" "java/lang/String" "value" "[B"))⟩) (Or.inr ⟨_, (wk W (.laysFinal "java/lang/String" "java/lang/String" "coder" "B"))⟩) f1 f2 (t₁ := .array .byte) (t₂ := .byte) (by decide +kernel) (by decide +kernel) (by decide)
  have al := X8.warmed.alike.symm.trans X15.warmed.alike
  have n7 : T11.heap[s.heap.size]? = some N := by rw [q11]; exact n1.1
  exact ⟨T15, none, _, _, _, X15, by simp, rfl, by omega, (fun _ => rfl), ⟨rfl, _, N, bl15, ((Same.refl D _).set _ (by simp)).set _ (by simp), sl15, (Cell.slots_setSlot_ne _ ap).trans sl13, n1.keep al (p15.other hne (p13.other hne n7)), n2, by rw [al.findClass]; exact n3, n4, n5, fun y c h1 h2 => p15.other h1 (p13.other h1 (by rw [q11]; exact n6 y c h2)), by rw [p15.2.2, p13.2.2, q11]; exact z8⟩, fun fs hl => c16.trans (X15.returnOut hexec hret (hb hbytes d57) hl)⟩
end New4
namespace New1
def yN : MethodName := ⟨"java/lang/String", "<init>", "([C)V"⟩
abbrev yB : ByteArray := jdk_42_method_3_code
theorem d0 : decode yB 0 = .ok (.aload_n 0, 1) := by decide +kernel
theorem d1 : decode yB 1 = .ok (.aload_n 1, 1) := by decide +kernel
theorem d2 : decode yB 2 = .ok (.iconst 0, 1) := by decide +kernel
theorem d3 : decode yB 3 = .ok (.aload_n 1, 1) := by decide +kernel
theorem d4 : decode yB 4 = .ok (.arraylength, 1) := by decide +kernel
theorem d5 : decode yB 5 = .ok (.aconst_null, 1) := by decide +kernel
theorem d6 : decode yB 6 = .ok (.invokespecial 27, 3) := by decide +kernel
theorem d9 : decode yB 9 = .ok (.return_, 1) := by decide +kernel
def site : List Cond := [New4.tab] ++ initW "java/lang/String" 27 New4.yN
def tab : Cond := tabOf yN yB 2 none site
def P (a : Addr) (D : Cell) (fV fC : Field) (b : Addr) (A : Cell) (z : Int32) (args : Array Value) (s : State) : Prop := args = #[.ref a, .ref b] ∧ Blank "java/lang/String" a D s ∧ Found "java/lang/String" "value" "[B" fV s ∧ Found "java/lang/String" "coder" "B" fC s ∧ Ch b A s ∧ StaticIs s "java/lang/String" "COMPACT_STRINGS" "Z" (.int z) ∧ ¬ z = 0 ∧ 0 < A.slots.size ∧ A.slots.size ≤ 536870912 ∧ ∀ i, i < A.slots.size → ¬ 255 < cv A i
def E (a : Addr) (D : Cell) (fV fC : Field) (A : Cell) (r : Option Value) (s u : State) : Prop := Got a D fV fC A 0 A.slots.size r s u
/-- new String(chars), not empty, no char above 255: a Latin-1 String of their low bytes -/
theorem law (l : Launch) (a : Addr) (D : Cell) (fV fC : Field) (b : Addr) (A : Cell) (z : Int32) : Law l yN 2 1 3 52 yB 2 none site (P a D fV fC b A z) (E a D fV fC A) [⟨a, fC.slot⟩, ⟨a, fV.slot⟩] 1 A.slots.size := by
  refine Law.of_walk (plainFor_of_name (by decide +kernel)) (by decide +kernel) (by decide +kernel) (by decide) (fun _ _ h => by rw [h.1]; rfl) (fun _ U U' hal hh h => ⟨h.1, h.2.1.mv hal hh, h.2.2.1.al hal, h.2.2.2.1.al hal, h.2.2.2.2.1.mv hal hh, h.2.2.2.2.2.1.there hal hh, h.2.2.2.2.2.2⟩) (fun r U U' V V' h1 hal h2 h => Got.mv r U U' V V' h1 hal h2 h) ?_
  intro p e s m args below meth c s₁ X0 hexec hbytes hml hret hlk hnm hown hh0 W hP
  obtain ⟨rfl, hB, f1, f2, hA, s1, hz, l0, l2, hp⟩ := hP
  have c1 : Steps p.tables e below (s₁.setTop (entryFrame m #[.ref a, .ref b] 2)) (s₁.setTop (mkF m 0 #[.val (.ref a), .val (.ref b)] [])) := entry rfl
  have c2 : Steps p.tables e below (s₁.setTop (entryFrame m #[.ref a, .ref b] 2)) (s₁.setTop (mkF m 6 #[.val (.ref a), .val (.ref b)] [.null, .int (Int32.ofNat A.slots.size), .int 0, .ref b, .ref a])) := c1.trans (by
    refine XS.aloadN X0.here hexec rfl (hb hbytes d0) rfl rfl ?_
    refine XS.aloadN X0.here hexec rfl (hb hbytes d1) rfl rfl ?_
    refine iconstV X0.here hexec rfl 0 (hb hbytes d2) (by decide) ?_
    refine XS.aloadN X0.here hexec rfl (hb hbytes d3) rfl rfl ?_
    refine X0.alen hexec (hA.1.mv X0.warmed.alike hh0) rfl rfl (hb hbytes d4) ?_
    refine XS.aconstNull X0.here hexec rfl (hb hbytes d5) ?_
    exact Steps.refl _)
  obtain ⟨v3, T3, X3, E3, g3⟩ := X0.callN hexec (New4.law l a D fV fC b A z 0 A.slots.size) rfl hown (wks W (initW "java/lang/String" 27 New4.yN)) (W New4.tab (by simp only [site, List.mem_cons, List.mem_append, true_or, or_true])) (W := 0) (Nat.le_of_ble_eq_true rfl) (Nat.le_of_ble_eq_true rfl) (Nat.le_refl _) (by show 0 + A.slots.size ≤ A.slots.size; omega) (g := (mkF m 6 #[.val (.ref a), .val (.ref b)] [.null, .int (Int32.ofNat A.slots.size), .int (Int32.ofNat 0), .ref b, .ref a])) rfl (by rw [hml]; rfl) c2 (argsL := [.ref b, .int (Int32.ofNat 0), .int (Int32.ofNat A.slots.size), .null]) (rest := []) rfl rfl (by show 2 * 0 + 0 ≤ _; decide) (hb hbytes d6) (⟨rfl, hB.mv X0.warmed.alike hh0, f1.al X0.warmed.alike, f2.al X0.warmed.alike, hA.mv X0.warmed.alike hh0, s1.there X0.warmed.alike hh0, hz, l0, by omega, l2, fun i hi => by rw [Nat.zero_add]; exact hp i hi⟩)
  have e0 := Got.mv _ s₁ s _ _ hh0.symm (Vm.Alike.refl _) rfl E3
  obtain rfl := e0.1
  have c4 : Steps p.tables e below (s₁.setTop (entryFrame m #[.ref a, .ref b] 2)) (T3.setTop (mkF m 9 #[.val (.ref a), .val (.ref b)] [])) := g3
  exact ⟨T3, none, _, _, _, X3, by simp, rfl, by omega, (fun _ => rfl), e0, fun fs hl => c4.trans (X3.returnOut hexec hret (hb hbytes d9) hl)⟩
theorem pays {l : Launch} {R : Room} {p : Program} {e : Env} {below : List Frame} {s : State} {sargs : Array Value} {len W : Nat} (a : Addr) (D : Cell) (fV fC : Field) (b : Addr) (A : Cell) (z : Int32) (htab : tab.before sargs s = true) (hfr : 4 ≤ R.frames) (hlo : W + 65 ≤ R.locals) :
    Back l R p e below s sargs yN len W (fun A₁ a₁ => A₁.cells + 1 ≤ R.cells ∧ A₁.slots + A.slots.size ≤ R.slots ∧ P a D fV fC b A z a₁ A₁.U) (fun A₁ _ v₁ B₁ => E a D fV fC A v₁ A₁.U B₁.U ∧ B₁.locs = A₁.locs ++ [⟨a, fC.slot⟩, ⟨a, fV.slot⟩] ∧ B₁.cells = A₁.cells + 1 ∧ B₁.slots = A₁.slots + A.slots.size) :=
  (law l a D fV fC b A z).pays htab hfr (by omega)
end New1
/-- the byte, read back as charAt reads it, is the char -/
theorem lo8_mask {x : Int32} (h0 : ¬ x < 0) (h1 : ¬ 255 < x) : lo8 x &&& 255 = x := by
  have t : ∀ k : Fin 256, lo8 (Int32.ofNat k.val) &&& 255 = Int32.ofNat k.val := by decide +kernel
  rw [Int32.lt_iff_toInt_lt] at h0 h1
  have e0 : (0 : Int32).toInt = 0 := rfl
  have e1 : (255 : Int32).toInt = 255 := rfl
  obtain ⟨k, hk⟩ : ∃ k : Nat, x.toInt = k := ⟨x.toInt.toNat, by omega⟩
  have hx : x = Int32.ofNat k := Int32.toInt_inj.mp (by rw [hk, Int32.toInt_ofNat_small (by omega)])
  rw [hx]
  exact t ⟨k, by omega⟩
end StrChars
namespace StrChars.Road
open Jvm Sem ClassFile Op Lib Jvm.Stand Jvm.Free Jvm.Free.XT
open Jvm.Lib.Cold (StaticIs)
abbrev ST : String := "java/lang/String"
/-- every table word that New1's law asks, flat -/
abbrev words : List Jvm.Cond := [.code New1.yN New1.yB 2 none, .initialized ST, .methodLink ST 27 New4.yN, .instanceMethod New4.yN,
  .code New4.yN New4.yB 6 none, .fieldLink ST 38 ST "COMPACT_STRINGS" "Z", .laysFinal ST ST "value" "[B", .fieldLink ST 9 ST "value" "[B", .laysFinal ST ST "coder" "B", .fieldLink ST 15 ST "coder" "B",
  .methodLink ST 1 Lib.objectInit, .instanceMethod Lib.objectInit, .code Lib.objectInit ⟨#[0xb1]⟩ 1 none, .methodLink ST 177 Cmp3.yN, .static Cmp3.yN, .methodLink ST 47 CodL.yN, .static CodL.yN,
  .code Cmp3.yN Cmp3.yB 6 (some (.array .byte)), .initialized U16, .arrayClass .byte, .methodLink U16 115 Cmp5.yN, .static Cmp5.yN, .code Cmp5.yN Cmp5.yB 7 (some .int), .code CodL.yN CodL.yB 2 (some .byte)]
theorem tab_of {a : Array Value} {s : State} (h : ∀ w ∈ words, w.before a s = true) : New1.tab.before a s = true := by
  have h5 : Cmp5.tab.before a s = true := unparts (wk h (.code Cmp5.yN Cmp5.yB 7 (some .int))) (wks h (.initialized Cmp5.yN.cls :: Cmp5.site))
  have hc : CodL.tab.before a s = true := unparts (wk h (.code CodL.yN CodL.yB 2 (some .byte))) (wks h (.initialized CodL.yN.cls :: CodL.site))
  have q5 : ∀ w ∈ Cmp5.tab :: words, w.before a s = true := fun w hw => (List.mem_cons.mp hw).elim (fun e => e ▸ h5) (h w)
  have h3 : Cmp3.tab.before a s = true := unparts (wk q5 (.code Cmp3.yN Cmp3.yB 6 (some (.array .byte)))) (wks q5 (.initialized Cmp3.yN.cls :: Cmp3.site))
  have q3 : ∀ w ∈ Cmp3.tab :: CodL.tab :: words, w.before a s = true := fun w hw => (List.mem_cons.mp hw).elim (fun e => e ▸ h3) fun hw => (List.mem_cons.mp hw).elim (fun e => e ▸ hc) (h w)
  have h4 : New4.tab.before a s = true := unparts (wk q3 (.code New4.yN New4.yB 6 none)) (wks q3 (.initialized New4.yN.cls :: New4.site))
  have q4 : ∀ w ∈ New4.tab :: words, w.before a s = true := fun w hw => (List.mem_cons.mp hw).elim (fun e => e ▸ h4) (h w)
  exact unparts (wk q4 (.code New1.yN New1.yB 2 none)) (wks q4 (.initialized New1.yN.cls :: New1.site))
/-- the words ride from the start Z to the walk's own state -/
theorem moved {Z s : State} {a0 args : Array Value} (hZ : Z.Warmed39 s.vm) (hw : ∀ d ∈ words, d.before a0 Z = true) : ∀ d ∈ words, d.before args s = true := fun d hd => by
  have q := hw d hd
  have t : ∀ d ∈ words, d = .arrayClass .byte ∨ (d.onTables && d.keepsFace) = true := by decide +kernel
  rcases t d hd with rfl | t
  · exact RoadKit.mvA hZ q
  · exact RoadKit.mv hZ q t
/-- WHAT COMES BACK, over the tables of the start Z: h the heap at the call, h' behind it -/
def Q (Z : State) (x : Addr) (A : Cell) (h : Heap) (v : Option Value) (h' : Heap) (L : List Loc) : Prop := v = none ∧ (∀ y ∈ L, y.base = x) ∧ RoadKit.Keep h h' [x] ∧ h'.size = h.size + 1 ∧ RoadKit.Exa Z h' x ST ∧ RoadKit.Fld Z h' x ST "value" "[B" (.ref h.size) ∧ RoadKit.Fld Z h' x ST "coder" "B" (.int 0) ∧
  (∃ V : Cell, RoadKit.Arr Z h' h.size V .byte ∧ V.vm = .none ∧ Z.vm.findClass "[B" = some V.cls ∧ V.slots.size = A.slots.size ∧ ∀ j, j < A.slots.size → V.slots[j]? = some (.int (lo8 (cv A j)))) ∧
  ∀ (O n d : String) (w : Value), RoadKit.Fld Z h x O n d w → RoadKit.slotOf Z O n d ≠ RoadKit.slotOf Z ST "value" "[B" → RoadKit.slotOf Z O n d ≠ RoadKit.slotOf Z ST "coder" "B" → RoadKit.Fld Z h' x O n d w
/-- **new String(chars) AT A CALL, IN THE ROAD'S FORM**: for specialBack behind newO: x the fresh String, b the char[] with the cell A -/
theorem back {p : Program} {l : Launch} {e : Env} {R : Room} {s : State} {args : Array Value} {below : List Frame} {len W : Nat} {Z : State} {a0 : Array Value} {h : Heap} (hZ : Z.Warmed39 s.vm) (hw : ∀ d ∈ words, d.before a0 Z = true) {kI : Nat} (wi : (Jvm.Cond.instantiable ST kI).before a0 Z = true)
    {x b : Addr} {A : Cell} {z : Int32} {v0 c0 : Value} (E : RoadKit.Exa Z h x ST) (V : RoadKit.Fld Z h x ST "value" "[B" v0) (C : RoadKit.Fld Z h x ST "coder" "B" c0) (K : RoadKit.Arr Z h b A .char) (hty : Typed .char A) (S : RoadKit.Sta Z h ST "COMPACT_STRINGS" "Z" (.int z)) (hz : ¬ z = 0)
    (l0 : 0 < A.slots.size) (l2 : A.slots.size ≤ 536870912) (hp : ∀ i, i < A.slots.size → ¬ 255 < cv A i) (hfr : 4 ≤ R.frames) (hlo : W + 65 ≤ R.locals) :
    Back l R p e below s args New1.yN len W (fun P a => a = #[.ref x, .ref b] ∧ P.U.heap = h ∧ P.cells + 1 ≤ R.cells ∧ P.slots + A.slots.size ≤ R.slots)
      (fun P _ v B => ∃ L, Q Z x A h v B.U.heap L ∧ B.locs = P.locs ++ L ∧ B.cells = P.cells + 1 ∧ B.slots = P.slots + A.slots.size) := by
  intro m meth c P g ig mk a X hg hsize hdg hW hn hp'
  obtain ⟨rfl, rfl, r1, r2⟩ := hp'
  have al : Z.vm.Alike P.U.vm := hZ.alike.trans X.warmed.alike
  obtain ⟨D, cfV, kV, iV, fV, hD, gV, stV, knV, obV, asV, slV⟩ := id V
  obtain ⟨D', cfC, kC, iC, fC, hD', gC, stC, -, -, asC, slC⟩ := id C
  cases hD.symm.trans hD'
  obtain ⟨D2, kD, e1, e2, e3, e4, e5⟩ := id E
  cases hD.symm.trans e1
  obtain ⟨c2, k2, i1, i2, i3, -⟩ := Cond.instantiable_spec wi
  cases e2.symm.trans i1
  cases e3.symm.trans i2
  obtain ⟨kU, u1, u2⟩ := al.2.2 _ _ e3
  have hB : Blank ST x D P.U := ⟨hD, ⟨knV, fun q hq => by rw [hq] at obV; cases obV⟩, by rw [al.findClass]; exact e2, kU, u1, by rw [u2]; exact i3, by rw [u2]; exact e5 i3⟩
  have F1 : Found ST "value" "[B" fV P.U := ⟨SBG.found_only al ⟨cfV, kV, iV, gV⟩, stV⟩
  have F2 : Found ST "coder" "B" fC P.U := ⟨SBG.found_only al ⟨cfC, kC, iC, gC⟩, stC⟩
  have hA : Ch b A P.U := ⟨⟨K.1, State.isArrayOf_alike al K.2.1, K.2.2, by omega⟩, hty⟩
  have hS : StaticIs P.U ST "COMPACT_STRINGS" "Z" (.int z) := by
    obtain ⟨cfS, iS, kS, fS, st, cS, t1, t2, t3, t4, t5, t6, t7⟩ := S
    exact StaticIs.there (s := { Z with heap := P.U.heap }) ⟨cfS, iS, kS, fS, st, cS, t1, t2, t3, t4, t5, (fun q => by rw [q] at t6; cases t6), t7⟩ al rfl
  obtain ⟨v, B, X', ⟨⟨hv, E', V', q1, q2, q3, q4, q5, q6, q7, q8, q9, q10, q11⟩, hl, hc, hs⟩, st⟩ := New1.pays x D fV fC b A z (tab_of (moved hZ hw)) hfr hlo m meth c P g ig mk _ X hg hsize hdg hW hn ⟨r1, r2, rfl, hB, F1, F2, hA, hS, hz, l0, l2, hp⟩
  have al' : Z.vm.Alike B.U.vm := hZ.alike.trans X'.warmed.alike
  have hsz : E'.slots.size = D.slots.size := by
    obtain ⟨-, -, -, kB, w1, w2, w3⟩ := q1
    obtain ⟨kB', y1, y2⟩ := al'.2.2 _ _ e3
    rw [q2.2.1] at w1
    cases w1.symm.trans y1
    rw [w3, e5 i3, y2]
  refine ⟨v, B, X', ⟨_, ⟨hv, ?_, ⟨by omega, fun y cy hy hn' => q10 y cy (by simpa using hn') hy, fun y cy hy => ?_⟩, q11, ⟨E', _, q1.1, by rw [q2.2.1]; exact e2, by rw [q2.2.1]; exact e3, by rw [q2.1]; exact obV, fun _ => by rw [hsz]; exact e5 i3⟩,
    ⟨E', cfV, kV, iV, fV, q1.1, gV, stV, by rw [q2.1]; exact knV, by rw [q2.1]; exact obV, by rw [q2.2.1]; exact asV, q3⟩, ⟨E', cfC, kC, iC, fC, q1.1, gC, stC, by rw [q2.1]; exact knV, by rw [q2.1]; exact obV, by rw [q2.2.1]; exact asC, q4⟩,
    ⟨V', ⟨q5.1, State.isArrayOf_alike al'.symm q5.2.1, q5.2.2.1⟩, q6, by rw [← al'.findClass]; exact q7, q8, fun j hj => by have := q9 j hj; rwa [Nat.zero_add] at this⟩, fun O n d w F n1 n2 => ?_⟩, hl, hc, hs⟩, st⟩
  · intro y hy
    simp only [List.mem_cons, List.not_mem_nil, or_false] at hy
    rcases hy with rfl | rfl <;> rfl
  · by_cases q : y = x
    · subst q
      cases hD.symm.trans hy
      exact ⟨E', q1.1, q2.2.1, q2.1, hsz⟩
    · exact ⟨cy, q10 y cy q hy, rfl, rfl, rfl⟩
  · obtain ⟨D3, cf, k, i, f, g1, g2, g3, g4, g5, g6, g7⟩ := F
    cases hD.symm.trans g1
    simp only [RoadKit.slotOf, g2, gV, gC, Option.map_some, Option.getD_some] at n1 n2
    exact ⟨E', cf, k, i, f, q1.1, g2, g3, by rw [q2.1]; exact g4, by rw [q2.1]; exact g5, by rw [q2.2.1]; exact g6, by rw [q2.2.2 f.slot (by simp [n1, n2])]; exact g7⟩
end StrChars.Road
namespace StrChars.Road
open Jvm Sem ClassFile Op Lib Jvm.Stand Jvm.Free Jvm.Free.XT
/-- WHAT COMES BACK, the byte[] as a list of values -/
def QA (Z : State) (x : Addr) (zn : Int32) (cs : List Int32) (h : Heap) (v : Option Value) (h' : Heap) (L : List Loc) : Prop := v = none ∧ (∀ y ∈ L, y.base = x) ∧ RoadKit.Keep h h' [x] ∧ h'.size = h.size + 1 ∧ RoadKit.Exa Z h' x ST ∧ RoadKit.Fld Z h' x ST "value" "[B" (.ref h.size) ∧ RoadKit.Fld Z h' x ST "coder" "B" (.int 0) ∧
  (∃ kb, Z.vm.findClass "[B" = some kb ∧ RoadKit.Arv Z h' h.size kb .byte zn (cs.map fun c => .int (lo8 c)) (.int 0)) ∧
  ∀ (O n d : String) (w : Value), RoadKit.Fld Z h x O n d w → RoadKit.slotOf Z O n d ≠ RoadKit.slotOf Z ST "value" "[B" → RoadKit.slotOf Z O n d ≠ RoadKit.slotOf Z ST "coder" "B" → RoadKit.Fld Z h' x O n d w
/-- **new String(chars) AT A CALL, THE ARRAYS AS LISTS**: the char[] at b holds cs, not empty, no char above 255 -/
theorem backArv {p : Program} {l : Launch} {e : Env} {R : Room} {s : State} {args : Array Value} {below : List Frame} {len W : Nat} {Z : State} {a0 : Array Value} {h : Heap} (hZ : Z.Warmed39 s.vm) (hw : ∀ d ∈ words, d.before a0 Z = true) {kI : Nat} (wi : (Jvm.Cond.instantiable ST kI).before a0 Z = true)
    {x b : Addr} {k : ClassId} {zn z : Int32} {cs : List Int32} {dv v0 c0 : Value} (E : RoadKit.Exa Z h x ST) (V : RoadKit.Fld Z h x ST "value" "[B" v0) (C : RoadKit.Fld Z h x ST "coder" "B" c0) (K : RoadKit.Arv Z h b k .char zn (cs.map Value.int) dv) (S : RoadKit.Sta Z h ST "COMPACT_STRINGS" "Z" (.int z)) (hz : ¬ z = 0)
    (hlen : zn.toNatClampNeg = cs.length) (h0 : 0 < cs.length) (hbig : cs.length ≤ 536870912) (hall : ∀ c ∈ cs, ¬ 255 < c) (hfr : 4 ≤ R.frames) (hlo : W + 65 ≤ R.locals) :
    Back l R p e below s args New1.yN len W (fun P a => a = #[.ref x, .ref b] ∧ P.U.heap = h ∧ P.cells + 1 ≤ R.cells ∧ P.slots + cs.length ≤ R.slots)
      (fun P _ v B => ∃ L, QA Z x zn cs h v B.U.heap L ∧ B.locs = P.locs ++ L ∧ B.cells = P.cells + 1 ∧ B.slots = P.slots + cs.length) := by
  obtain ⟨A, K1, K2, K3, K4, K5, K6⟩ := K
  have e : A.slots.size = cs.length := K3.trans hlen
  have hat : ∀ (i : Nat) (hi : i < cs.length), A.slots[i]? = some (.int cs[i]) := fun i hi => by rw [K5 i (by omega)]; simp [List.getD_eq_getElem?_getD, hi]
  have hcv : ∀ (i : Nat) (hi : i < cs.length), cv A i = cs[i] := fun i hi => by unfold cv; rw [hat i hi]
  have hty : Typed .char A := fun i v hv => by
    have hi : i < A.slots.size := (Array.getElem?_eq_some_iff.mp hv).1
    have q := K5 i hi
    rw [hv] at q
    rw [Option.some.inj q]
    exact K6 i hi
  refine Back.mono (back hZ hw wi E V C K1 hty S hz (by omega) (by omega) (fun i hi => by rw [hcv i (by omega)]; exact hall _ (List.getElem_mem _)) hfr hlo) (fun P a hp => ⟨hp.1, hp.2.1, hp.2.2.1, by rw [e]; exact hp.2.2.2⟩) (fun P a v B hp hq => ?_)
  obtain ⟨L, ⟨q1, q2, q3, q4, q5, q6, q7, ⟨V', v1, v2, v3, v4, v5⟩, q9⟩, hl, hc, hs⟩ := hq
  refine ⟨L, ⟨q1, q2, q3, q4, q5, q6, q7, ⟨V'.cls, v3, V', v1, rfl, by rw [v4, e, hlen], K4, fun i hi => ?_, fun i hi => ?_⟩, q9⟩, hl, hc, by rw [hs, e]⟩
  · have hi' : i < cs.length := by omega
    rw [v5 i (by omega), hcv i hi']; simp [List.getD_eq_getElem?_getD, hi']
  · have hi' : i < cs.length := by omega
    simp only [List.getD_eq_getElem?_getD, List.getElem?_map, List.getElem?_eq_getElem hi', Option.map_some, Option.getD_some]
    exact fits_lo8 _
end StrChars.Road
namespace StrChars.Road
open Jvm Sem ClassFile Op Lib Jvm.Stand Jvm.Free Jvm.Free.XT
/-- WHAT COMES BACK, in the writer's own shape -/
def QV (Z : State) (x : Addr) (N : Int32) (bs : List Int32) (h : Heap) (n0 : Nat) (v : Option Value) (h' : Heap) (L : List Loc) : Prop := v = none ∧ RoadKit.Fr n0 L ∧ RoadKit.Keep h h' [x] ∧ RoadKit.Exa Z h' x ST ∧ RoadKit.Fld Z h' x ST "coder" "B" (.int 0) ∧
  ∃ (t : Addr) (kb : ClassId), n0 ≤ t ∧ h.size ≤ t ∧ ¬ t = x ∧ RoadKit.Fld Z h' x ST "value" "[B" (.ref t) ∧ RoadKit.Arv Z h' t kb .byte N (bs.map Value.int) (.int 0)
/-- **new String(chars) AT A CALL, FOR THE WRITER**: a char[] of n known ints, each 0 to 255 -/
theorem backV {p : Program} {l : Launch} {e : Env} {R : Room} {s : State} {args : Array Value} {below : List Frame} {len W : Nat} {Z : State} {a0 : Array Value} {h : Heap} (hZ : Z.Warmed39 s.vm) (hw : ∀ d ∈ words, d.before a0 Z = true) {kI : Nat} (wi : (Jvm.Cond.instantiable ST kI).before a0 Z = true)
    {x b : Addr} {kC : ClassId} {cs bs : List Int32} {d v0 c0 : Value} {z N : Int32} {n n0 : Nat} (hx0 : n0 ≤ x) (hh0 : n0 ≤ h.size) (E : RoadKit.Exa Z h x ST) (V : RoadKit.Fld Z h x ST "value" "[B" v0) (C : RoadKit.Fld Z h x ST "coder" "B" c0) (K : RoadKit.Arv Z h b kC .char N (cs.map Value.int) d) (S : RoadKit.Sta Z h ST "COMPACT_STRINGS" "Z" (.int z)) (hz : ¬ z = 0)
    (hn : cs.length = n) (hN : N = Int32.ofNat n) (l0 : 0 < n) (l2 : n ≤ 4000) (hp : ∀ c ∈ cs, ¬ c < 0 ∧ ¬ (255 : Int32) < c) (hb : bs = cs.map (fun c => c.toInt8.toInt32)) (hfr : 4 ≤ R.frames) (hlo : W + 65 ≤ R.locals) :
    Back l R p e below s args (⟨"java/lang/String", "<init>", "([C)V"⟩ : MethodName) len W (fun P a => a = #[.ref x, .ref b] ∧ P.U.heap = h ∧ P.cells + 1 ≤ R.cells ∧ P.slots + n ≤ R.slots)
      (fun P _ v B => ∃ L, QV Z x N bs h n0 v B.U.heap L ∧ B.locs = P.locs ++ L ∧ B.cells = P.cells + 1 ∧ B.slots = P.slots + n) := by
  subst hn hN hb
  refine Back.mono (backArv hZ hw wi E V C K S hz (n32 (by omega)) l0 (by omega) (fun c hc => (hp c hc).2) hfr hlo) (fun P a hp => hp) (fun P a v B hp hq => ?_)
  obtain ⟨L, ⟨q1, q2, q3, q4, q5, q6, q7, ⟨kb, v1, v2⟩, q9⟩, hl, hc, hs⟩ := hq
  exact ⟨L, ⟨q1, fun y hy => by rw [q2 y hy]; exact hx0, q3, q5, q7, h.size, kb, hh0, Nat.le_refl _, Nat.ne_of_gt E.lt, q6, by rw [List.map_map]; exact v2⟩, hl, hc, hs⟩
end StrChars.Road
namespace StrChars
open Jvm Sem ClassFile Op Lib Jvm.Stand Jvm.Free.XT Jvm.Free.ALB Jvm.Free.JM Jvm.Free
open Jvm.Lib.Cold (StaticIs)
def hi8 (x : Int32) : Int32 := lo8 (x >>> ((8 : Int32) &&& 31))
/-- what StringUTF16.getChar makes of two bytes -/
def pairCh (u v : Int32) : Int32 := (((u &&& 255) <<< ((0 : Int32) &&& 31)) ||| ((v &&& 255) <<< ((8 : Int32) &&& 31))).toUInt32.toUInt16.toUInt32.toInt32
theorem lo8_and (x : Int32) : (lo8 x &&& 255).toBitVec.toNat = x.toBitVec.toNat % 256 := by
  have h : (lo8 x).toBitVec = (x.toBitVec.signExtend 8).signExtend 32 := by rw [lo8, Int8.toBitVec_toInt32, Int32.toBitVec_toInt8]
  rw [Int32.toBitVec_and, BitVec.toNat_and, h]
  have e : ((x.toBitVec.signExtend 8).signExtend 32).toNat % 256 = x.toBitVec.toNat % 256 := by
    rw [BitVec.toNat_signExtend]
    have hlt := x.toBitVec.isLt
    simp only [BitVec.toNat_setWidth, BitVec.toNat_signExtend]
    split <;> split <;> omega
  rw [← e]
  exact Nat.and_two_pow_sub_one_eq_mod _ 8
theorem pair_says {c : Int32} (h0 : ¬ c < 0) (h1 : ¬ 65535 < c) : pairCh (lo8 c) (hi8 c) = c := by
  rw [Int32.lt_iff_toInt_lt] at h0 h1
  have e0 : (0 : Int32).toInt = 0 := rfl
  have e1 : (65535 : Int32).toInt = 65535 := rfl
  have hc : c.toInt = c.toBitVec.toNat := by
    have := c.toBitVec.isLt
    have e : c.toInt = c.toBitVec.toInt := rfl
    rw [e] at h0 h1
    rw [e]
    rw [BitVec.toInt_eq_toNat_cond] at h0 h1 ⊢
    split at h0 <;> split <;> omega
  have hn : c.toBitVec.toNat < 65536 := by omega
  have a1 := lo8_and c
  have a2 : (hi8 c &&& 255).toBitVec.toNat = c.toBitVec.toNat / 256 := by
    rw [hi8, lo8_and]
    have e : ((8 : Int32) &&& 31) = 8 := by decide
    rw [e, Int32.toBitVec_shiftRight]
    have e2 : ((8 : Int32).toBitVec.smod 32) = 8#32 := by decide
    rw [e2, BitVec.sshiftRight_eq', BitVec.toNat_sshiftRight_of_msb_false (by rw [BitVec.msb_eq_false_iff_two_mul_lt]; omega)]
    show c.toBitVec.toNat >>> 8 % 256 = _
    rw [Nat.shiftRight_eq_div_pow]
    omega
  unfold pairCh
  apply Int32.toBitVec_inj.mp
  apply BitVec.eq_of_toNat_eq
  have f0 : ((0 : Int32) &&& 31) = 0 := by decide
  have f8 : ((8 : Int32) &&& 31) = 8 := by decide
  rw [f0, f8]
  have g : (((lo8 c &&& 255) <<< (0 : Int32)) ||| ((hi8 c &&& 255) <<< (8 : Int32))).toBitVec.toNat = c.toBitVec.toNat := by
    rw [Int32.toBitVec_or, Int32.toBitVec_shiftLeft, Int32.toBitVec_shiftLeft]
    have s0 : ((0 : Int32).toBitVec.smod 32) = 0#32 := by decide
    have s8 : ((8 : Int32).toBitVec.smod 32) = 8#32 := by decide
    rw [s0, s8, BitVec.toNat_or]
    simp only [BitVec.shiftLeft_eq', BitVec.toNat_shiftLeft, a1, a2]
    show (c.toBitVec.toNat % 256) <<< 0 % 2 ^ 32 ||| (c.toBitVec.toNat / 256) <<< 8 % 2 ^ 32 = _
    rw [Nat.shiftLeft_zero, Nat.mod_eq_of_lt (show c.toBitVec.toNat % 256 < 2 ^ 32 by omega), Nat.mod_eq_of_lt (show (c.toBitVec.toNat / 256) <<< 8 < 2 ^ 32 by rw [Nat.shiftLeft_eq]; omega), Nat.or_comm, ← Nat.shiftLeft_add_eq_or_of_lt (by omega), Nat.shiftLeft_eq]
    omega
  show BitVec.toNat (((((lo8 c &&& 255) <<< (0 : Int32)) ||| ((hi8 c &&& 255) <<< (8 : Int32))).toBitVec.setWidth 16).setWidth 32) = _
  rw [BitVec.toNat_setWidth, BitVec.toNat_setWidth, g]
  omega
end StrChars
namespace StrChars
open Jvm Sem ClassFile Op Lib Jvm.Stand Jvm.Free.XT Jvm.Free.ALB Jvm.Free.JM Jvm.Free
open Jvm.Lib.Cold (StaticIs)
/-- the array's cell V codes the n chars f 0 .. f (n - 1) by the coder cd, as the JDK does: coder 1 just where some char is above 255 -/
def Cod (cd : Int32) (n : Nat) (f : Nat → Int32) (V : Cell) : Prop := (cd = 0 ∧ V.slots.size = n ∧ ∀ j, j < n → V.slots[j]? = some (.int (lo8 (f j))) ∧ ¬ 255 < f j) ∨ (cd = 1 ∧ V.slots.size = 2 * n ∧ (∀ j, j < n → V.slots[2 * j]? = some (.int (lo8 (f j))) ∧ V.slots[2 * j + 1]? = some (.int (hi8 (f j)))) ∧ ∃ j, j < n ∧ 255 < f j)
/-- **x is a String of the n chars f 0 .. f (n - 1)**, Latin-1 or UTF-16; its array at t has the cell V -/
def Txt (x t : Addr) (V : Cell) (cd : Int32) (n : Nat) (f : Nat → Int32) (U : State) : Prop := Exact "java/lang/String" x U ∧ Has x "java/lang/String" "value" "[B" (.ref t) U ∧ Has x "java/lang/String" "coder" "B" (.int cd) U ∧ XT.Arr .byte t V U ∧ Cod cd n f V ∧ ∀ j, j < n → ¬ f j < 0 ∧ ¬ 65535 < f j
theorem Txt.mv {x t : Addr} {V : Cell} {cd : Int32} {n : Nat} {f : Nat → Int32} {U U' : State} (h : Txt x t V cd n f U) (hal : U.vm.Alike U'.vm) (hh : U'.heap = U.heap) : Txt x t V cd n f U' := ⟨h.1.mv hal hh, h.2.1.mv hal hh, h.2.2.1.mv hal hh, h.2.2.2.1.mv hal hh, h.2.2.2.2⟩
end StrChars
namespace StrChars.Road
open Jvm Sem ClassFile Op Lib Jvm.Stand Jvm.Free Jvm.Free.XT
open Jvm.Lib.Cold (StaticIs)
theorem consq {a : Array Value} {s : State} {c : Jvm.Cond} {L : List Jvm.Cond} (h0 : c.before a s = true) (h : ∀ w ∈ L, w.before a s = true) : ∀ w ∈ c :: L, w.before a s = true := fun w hw => (List.mem_cons.mp hw).elim (fun e => e ▸ h0) (h w)
/-- the bytes of the chars cs, low before high -/
def wideBytes : List Int32 → List Value
  | [] => []
  | c :: cs => .int (lo8 c) :: .int (hi8 c) :: wideBytes cs
theorem wide_lo (d : Value) : ∀ (cs : List Int32) (j : Nat), j < cs.length → (wideBytes cs).getD (2 * j) d = .int (lo8 (cs.getD j 0))
  | [], j, h => absurd h (Nat.not_lt_zero j)
  | c :: cs, 0, _ => rfl
  | c :: cs, j + 1, h => by
    have q := wide_lo d cs j (by simpa using h)
    rw [show 2 * (j + 1) = 2 * j + 1 + 1 from by omega]
    simpa [wideBytes] using q
theorem wide_hi (d : Value) : ∀ (cs : List Int32) (j : Nat), j < cs.length → (wideBytes cs).getD (2 * j + 1) d = .int (hi8 (cs.getD j 0))
  | [], j, h => absurd h (Nat.not_lt_zero j)
  | c :: cs, 0, _ => rfl
  | c :: cs, j + 1, h => by
    have q := wide_hi d cs j (by simpa using h)
    rw [show 2 * (j + 1) + 1 = 2 * j + 1 + 1 + 1 from by omega]
    simpa [wideBytes] using q
theorem low_at (d : Value) (cs : List Int32) (j : Nat) (h : j < cs.length) : (cs.map fun c => Value.int (lo8 c)).getD j d = .int (lo8 (cs.getD j 0)) := by
  simp [List.getD_eq_getElem?_getD, h]
/-- an array of N2 bytes vs codes the chars cs by the coder cd -/
def CodA (cs : List Int32) (cd N2 : Int32) (vs : List Value) : Prop := (cd = 0 ∧ N2 = Int32.ofNat cs.length ∧ vs = (cs.map fun c => Value.int (lo8 c)) ∧ ∀ c ∈ cs, ¬ 255 < c) ∨ (cd = 1 ∧ N2 = Int32.ofNat (2 * cs.length) ∧ vs = wideBytes cs ∧ ∃ c ∈ cs, 255 < c)
theorem CodA.cod {cs : List Int32} {cd N2 : Int32} {vs : List Value} {V : Cell} (h : CodA cs cd N2 vs) (hn : 2 * cs.length < 2 ^ 31) (hs : V.slots.size = N2.toNatClampNeg) (hv : RoadKit.Has V vs (.int 0)) : Cod cd cs.length (fun j => cs.getD j 0) V := by
  rcases h with ⟨rfl, rfl, rfl, h⟩ | ⟨rfl, rfl, rfl, c, hc, hw⟩
  · rw [n32 (by omega)] at hs
    exact Or.inl ⟨rfl, hs, fun j hj => ⟨by rw [hv j (by omega), low_at _ _ _ hj], by
      have e : cs.getD j 0 = cs[j] := by simp [List.getD_eq_getElem?_getD, hj]
      show ¬ 255 < cs.getD j 0
      rw [e]; exact h _ (List.getElem_mem _)⟩⟩
  · rw [n32 (by omega)] at hs
    obtain ⟨j, hj, rfl⟩ := List.getElem_of_mem hc
    exact Or.inr ⟨rfl, hs, fun j hj => ⟨by rw [hv _ (by omega), wide_lo _ _ _ hj], by rw [hv _ (by omega), wide_hi _ _ _ hj]⟩, j, hj, by
      have e : cs.getD j 0 = cs[j] := by simp [List.getD_eq_getElem?_getD, hj]
      show 255 < cs.getD j 0
      rw [e]; exact hw⟩
/-- an object of exactly java/lang/String, its two fields found: as the laws ask it -/
theorem strObj {Z U : State} {a0 : Array Value} {kI : Nat} (wi : (Jvm.Cond.instantiable ST kI).before a0 Z = true) (al : Z.vm.Alike U.vm) {x : Addr} {v0 c0 : Value} (E : RoadKit.Exa Z U.heap x ST) (V : RoadKit.Fld Z U.heap x ST "value" "[B" v0) (C : RoadKit.Fld Z U.heap x ST "coder" "B" c0) :
    ∃ (D : Cell) (fV fC : Field), Blank ST x D U ∧ Found ST "value" "[B" fV U ∧ Found ST "coder" "B" fC U ∧ D.slots[fV.slot]? = some v0 ∧ D.slots[fC.slot]? = some c0 ∧ RoadKit.slotOf Z ST "value" "[B" = fV.slot ∧ RoadKit.slotOf Z ST "coder" "B" = fC.slot := by
  obtain ⟨D, cfV, kV, iV, fV, hD, gV, stV, knV, obV, asV, slV⟩ := V
  obtain ⟨D', cfC, kC, iC, fC, hD', gC, stC, -, -, asC, slC⟩ := C
  cases hD.symm.trans hD'
  obtain ⟨D2, kD, e1, e2, e3, e4, e5⟩ := E
  cases hD.symm.trans e1
  obtain ⟨c2, k2, i1, i2, i3, -⟩ := Cond.instantiable_spec wi
  cases e2.symm.trans i1
  cases e3.symm.trans i2
  obtain ⟨kU, u1, u2⟩ := al.2.2 _ _ e3
  exact ⟨D, fV, fC, ⟨hD, ⟨knV, fun q hq => by rw [hq] at obV; cases obV⟩, by rw [al.findClass]; exact e2, kU, u1, by rw [u2]; exact i3, by rw [u2]; exact e5 i3⟩, ⟨SBG.found_only al ⟨cfV, kV, iV, gV⟩, stV⟩, ⟨SBG.found_only al ⟨cfC, kC, iC, gC⟩, stC⟩, slV, slC, by simp [RoadKit.slotOf, gV], by simp [RoadKit.slotOf, gC]⟩
theorem sta_is {Z U : State} (al : Z.vm.Alike U.vm) {C n d : String} {v : Value} (S : RoadKit.Sta Z U.heap C n d v) : StaticIs U C n d v := by
  obtain ⟨cfS, iS, kS, fS, st, cS, t1, t2, t3, t4, t5, t6, t7⟩ := S
  exact StaticIs.there (s := { Z with heap := U.heap }) ⟨cfS, iS, kS, fS, st, cS, t1, t2, t3, t4, t5, (fun q => by rw [q] at t6; cases t6), t7⟩ al rfl
end StrChars.Road
namespace StrChars
open Jvm Sem ClassFile Op Lib Jvm.Stand Jvm.Free.XT Jvm.Free.ALB Jvm.Free.JM Jvm.Free
open Jvm.Lib.Cold (StaticIs)
/-- what place i of a byte[]'s cell holds -/
def yv (A : Cell) (i : Nat) : Int32 := match A.slots[i]? with | some (.int x) => x | _ => 0
theorem yv_get {a : Addr} {A : Cell} {U : State} (h : XT.Arr .byte a A U) (ht : Typed .byte A) {i : Nat} (hi : i < A.slots.size) : A.slots[i]? = some (.int (yv A i)) := by
  have e := Array.getElem?_eq_getElem hi
  have f := ht i _ e
  unfold yv; rw [e]
  generalize A.slots[i] = v at f
  cases v <;> simp [fits] at f ⊢
/-- the two arrays are equal, place for place -/
def EqC (A B : Cell) : Prop := A.slots.size = B.slots.size ∧ ∀ i, i < A.slots.size → yv A i = yv B i
/-- a boolean that says whether p -/
def Says01 (q : Prop) (r : Option Value) (s u : State) : Prop := ∃ v : Int32, r = some (.int v) ∧ u.heap = s.heap ∧ ((v = 1 ∧ q) ∨ (v = 0 ∧ ¬ q))
theorem Says01.mv {q : Prop} : ∀ r (U U' V V' : State), U'.heap = U.heap → V.vm.Alike V'.vm → V'.heap = V.heap → Says01 q r U V → Says01 q r U' V' :=
  fun r U U' V V' h1 _ h2 ⟨v, a, b, c⟩ => ⟨v, a, by rw [h1, h2]; exact b, c⟩
namespace LEq
def yN : MethodName := ⟨"java/lang/StringLatin1", "equals", "([B[B)Z"⟩
abbrev yB : ByteArray := jdk_43_method_13_code
theorem d0 : decode yB 0 = .ok (.aload_n 0, 1) := by decide +kernel
theorem d1 : decode yB 1 = .ok (.arraylength, 1) := by decide +kernel
theorem d2 : decode yB 2 = .ok (.aload_n 1, 1) := by decide +kernel
theorem d3 : decode yB 3 = .ok (.arraylength, 1) := by decide +kernel
theorem d4 : decode yB 4 = .ok (.if_icmp (.ne) 30, 3) := by decide +kernel
theorem d7 : decode yB 7 = .ok (.iconst 0, 1) := by decide +kernel
theorem d8 : decode yB 8 = .ok (.istore_n 2, 1) := by decide +kernel
theorem d9 : decode yB 9 = .ok (.iload_n 2, 1) := by decide +kernel
theorem d10 : decode yB 10 = .ok (.aload_n 0, 1) := by decide +kernel
theorem d11 : decode yB 11 = .ok (.arraylength, 1) := by decide +kernel
theorem d12 : decode yB 12 = .ok (.if_icmp (.ge) 20, 3) := by decide +kernel
theorem d15 : decode yB 15 = .ok (.aload_n 0, 1) := by decide +kernel
theorem d16 : decode yB 16 = .ok (.iload_n 2, 1) := by decide +kernel
theorem d17 : decode yB 17 = .ok (.baload, 1) := by decide +kernel
theorem d18 : decode yB 18 = .ok (.aload_n 1, 1) := by decide +kernel
theorem d19 : decode yB 19 = .ok (.iload_n 2, 1) := by decide +kernel
theorem d20 : decode yB 20 = .ok (.baload, 1) := by decide +kernel
theorem d21 : decode yB 21 = .ok (.if_icmp (.eq) 5, 3) := by decide +kernel
theorem d24 : decode yB 24 = .ok (.iconst 0, 1) := by decide +kernel
theorem d25 : decode yB 25 = .ok (.ireturn, 1) := by decide +kernel
theorem d26 : decode yB 26 = .ok (.iinc 2 1, 3) := by decide +kernel
theorem d29 : decode yB 29 = .ok (.goto (-20), 3) := by decide +kernel
theorem d32 : decode yB 32 = .ok (.iconst 1, 1) := by decide +kernel
theorem d33 : decode yB 33 = .ok (.ireturn, 1) := by decide +kernel
theorem d34 : decode yB 34 = .ok (.iconst 0, 1) := by decide +kernel
theorem d35 : decode yB 35 = .ok (.ireturn, 1) := by decide +kernel
def site : List Cond := []
def tab : Cond := tabOf yN yB 3 (some .boolean) site
def P (a : Addr) (A : Cell) (b : Addr) (B : Cell) (args : Array Value) (s : State) : Prop := args = #[.ref a, .ref b] ∧ XT.Arr .byte a A s ∧ Typed .byte A ∧ XT.Arr .byte b B s ∧ Typed .byte B
/-- whether two byte[] are equal, place for place -/
theorem law (l : Launch) (a : Addr) (A : Cell) (b : Addr) (B : Cell) : Law l yN 2 2 0 0 yB 3 (some .boolean) site (P a A b B) (Says01 (EqC A B)) [] 0 0 := by
  refine Law.of_walk (plainFor_of_name (by decide +kernel)) (by decide +kernel) (by decide +kernel) (by decide) (fun _ _ h => by rw [h.1]; rfl) (fun _ U U' hal hh h => ⟨h.1, h.2.1.mv hal hh, h.2.2.1, h.2.2.2.1.mv hal hh, h.2.2.2.2⟩) (fun r U U' V V' h1 hal h2 h => Says01.mv r U U' V V' h1 hal h2 h) ?_
  intro p e s m args below meth c s₁ X0 hexec hbytes hml hret hlk hnm hown hh0 W hP
  obtain ⟨rfl, hA, tA, hB, tB⟩ := hP
  have a31 := hA.2.2.2
  have b31 := hB.2.2.2
  have hA0 := hA.mv X0.warmed.alike hh0
  have hB0 := hB.mv X0.warmed.alike hh0
  have c1 : Steps p.tables e below (s₁.setTop (entryFrame m #[.ref a, .ref b] 3)) (s₁.setTop (mkF m 0 #[.val (.ref a), .val (.ref b), .unset] [])) := entry rfl
  have c2 : Steps p.tables e below (s₁.setTop (entryFrame m #[.ref a, .ref b] 3)) (s₁.setTop (mkF m 4 #[.val (.ref a), .val (.ref b), .unset] [.int (Int32.ofNat B.slots.size), .int (Int32.ofNat A.slots.size)])) := c1.trans (by
    refine XS.aloadN X0.here hexec rfl (hb hbytes d0) rfl rfl ?_
    refine X0.alen hexec hA0 rfl rfl (hb hbytes d1) ?_
    refine XS.aloadN X0.here hexec rfl (hb hbytes d2) rfl rfl ?_
    refine X0.alen hexec hB0 rfl rfl (hb hbytes d3) ?_
    exact Steps.refl _)
  by_cases hs : A.slots.size = B.slots.size
  · have c3 : Steps p.tables e below (s₁.setTop (entryFrame m #[.ref a, .ref b] 3)) (s₁.setTop (mkF m 9 #[.val (.ref a), .val (.ref b), .val (.int 0)] [])) := c2.trans (by
      refine XS.icmpNo X0.here hexec rfl (hb hbytes d4) rfl (ii_ne_f (by rw [hs])) ?_
      refine iconstV X0.here hexec rfl 0 (hb hbytes d7) (by decide) ?_
      refine XS.istoreN X0.here hexec rfl (hb hbytes d8) rfl rfl ?_
      exact Steps.refl _)
    have loop : ∀ (r i : Nat), i + r = A.slots.size → (∀ j, j < i → yv A j = yv B j) → Steps p.tables e below (s₁.setTop (entryFrame m #[.ref a, .ref b] 3)) (s₁.setTop (mkF m 9 #[.val (.ref a), .val (.ref b), .val (.int (Int32.ofNat i))] [])) → ∃ (pc : Nat) (Ls : Array Slot) (v : Int32), (pc = 25 ∨ pc = 33) ∧ ((v = 1 ∧ EqC A B) ∨ (v = 0 ∧ ¬ EqC A B)) ∧ Steps p.tables e below (s₁.setTop (entryFrame m #[.ref a, .ref b] 3)) (s₁.setTop (mkF m pc Ls [.int v])) := by
      intro r
      induction r with
      | zero =>
        intro i hi he cl
        exact ⟨33, _, 1, Or.inr rfl, Or.inl ⟨rfl, hs, fun j hj => he j (by omega)⟩, cl.trans (by
          refine XS.iloadN X0.here hexec rfl (hb hbytes d9) rfl ?_
          refine XS.aloadN X0.here hexec rfl (hb hbytes d10) rfl rfl ?_
          refine X0.alen hexec hA0 rfl rfl (hb hbytes d11) ?_
          refine XS.icmpYes X0.here hexec rfl (pc0 := 12) rfl (hb hbytes d12) rfl (ii_ge_t (nlt32 (by omega) (by omega))) (by decide) rfl ?_
          refine iconstV X0.here hexec rfl 1 (hb hbytes d32) (by decide) ?_
          exact Steps.refl _)⟩
      | succ r ih =>
        intro i hi he cl
        have c4 : Steps p.tables e below (s₁.setTop (entryFrame m #[.ref a, .ref b] 3)) (s₁.setTop (mkF m 21 #[.val (.ref a), .val (.ref b), .val (.int (Int32.ofNat i))] [.int (yv B i), .int (yv A i)])) := cl.trans (by
          refine XS.iloadN X0.here hexec rfl (hb hbytes d9) rfl ?_
          refine XS.aloadN X0.here hexec rfl (hb hbytes d10) rfl rfl ?_
          refine X0.alen hexec hA0 rfl rfl (hb hbytes d11) ?_
          refine XS.icmpNo X0.here hexec rfl (hb hbytes d12) rfl (ii_ge_f (lt32 (by omega) (by omega))) ?_
          refine XS.aloadN X0.here hexec rfl (hb hbytes d15) rfl rfl ?_
          refine XS.iloadN X0.here hexec rfl (hb hbytes d16) rfl ?_
          refine X0.aget hexec hA0 rfl (yv_get hA tA (i := i) (by omega)) rfl rfl (hb hbytes d17) ?_
          refine XS.aloadN X0.here hexec rfl (hb hbytes d18) rfl rfl ?_
          refine XS.iloadN X0.here hexec rfl (hb hbytes d19) rfl ?_
          refine X0.aget hexec hB0 rfl (yv_get hB tB (i := i) (by omega)) rfl rfl (hb hbytes d20) ?_
          exact Steps.refl _)
        by_cases hv : yv A i = yv B i
        · have c5 : Steps p.tables e below (s₁.setTop (entryFrame m #[.ref a, .ref b] 3)) (s₁.setTop (mkF m 9 #[.val (.ref a), .val (.ref b), .val (.int (Int32.ofNat i + 1))] [])) := c4.trans (by
            refine XS.icmpYes X0.here hexec rfl (pc0 := 21) rfl (hb hbytes d21) rfl (ii_eq_t hv) (by decide) rfl ?_
            refine iincV X0.here hexec rfl 1 (hb hbytes d26) (by decide) rfl rfl ?_
            refine XS.goto X0.here hexec rfl (pc0 := 29) rfl (hb hbytes d29) (by decide) rfl ?_
            exact Steps.refl _)
          rw [succ32] at c5
          exact ih (i + 1) (by omega) (fun j hj => by
            by_cases e : j = i
            · rw [e]; exact hv
            · exact he j (by omega)) c5
        · exact ⟨25, _, 0, Or.inl rfl, Or.inr ⟨rfl, fun q => hv (q.2 i (by omega))⟩, c4.trans (by
            refine XS.icmpNo X0.here hexec rfl (hb hbytes d21) rfl (ii_eq_f hv) ?_
            refine iconstV X0.here hexec rfl 0 (hb hbytes d24) (by decide) ?_
            exact Steps.refl _)⟩
    obtain ⟨pc, Ls, v, hpc, hv, cz⟩ := loop A.slots.size 0 (by omega) (fun j hj => absurd hj (Nat.not_lt_zero j)) c3
    have nv : narrow .boolean (.int v) = .int v := by rcases hv with ⟨rfl, -⟩ | ⟨rfl, -⟩ <;> rfl
    rcases hpc with rfl | rfl
    · exact ⟨s₁, some (.int v), _, _, _, X0, rfl, rfl, rfl, (fun h => by cases h), ⟨v, rfl, hh0, hv⟩, fun fs hl => cz.trans (X0.ireturnOut hexec hret nv (Or.inr (Or.inl rfl)) (hb hbytes d25) hl)⟩
    · exact ⟨s₁, some (.int v), _, _, _, X0, rfl, rfl, rfl, (fun h => by cases h), ⟨v, rfl, hh0, hv⟩, fun fs hl => cz.trans (X0.ireturnOut hexec hret nv (Or.inr (Or.inl rfl)) (hb hbytes d33) hl)⟩
  · have c3 : Steps p.tables e below (s₁.setTop (entryFrame m #[.ref a, .ref b] 3)) (s₁.setTop (mkF m 35 #[.val (.ref a), .val (.ref b), .unset] [.int 0])) := c2.trans (by
      refine XS.icmpYes X0.here hexec rfl (pc0 := 4) rfl (hb hbytes d4) rfl (ii_ne_t (ne32 a31 b31 hs)) (by decide) rfl ?_
      refine iconstV X0.here hexec rfl 0 (hb hbytes d34) (by decide) ?_
      exact Steps.refl _)
    exact ⟨s₁, some (.int 0), _, _, _, X0, rfl, rfl, rfl, (fun h => by cases h), ⟨0, rfl, hh0, Or.inr ⟨rfl, fun q => hs q.1⟩⟩, fun fs hl => c3.trans (X0.ireturnOut hexec hret rfl (Or.inr (Or.inl rfl)) (hb hbytes d35) hl)⟩
end LEq
theorem Cod.ty {cd : Int32} {n : Nat} {f : Nat → Int32} {V : Cell} (h : Cod cd n f V) : Typed .byte V := fun i v hv => by
  have hi : i < V.slots.size := (Array.getElem?_eq_some_iff.mp hv).1
  rcases h with ⟨-, k1, k2⟩ | ⟨-, k1, k2, -⟩
  · rw [(k2 i (by omega)).1] at hv; cases hv; exact fits_lo8 _
  · rcases Nat.mod_two_eq_zero_or_one i with e | e
    · obtain ⟨j, rfl⟩ : ∃ j, i = 2 * j := ⟨i / 2, by omega⟩
      rw [(k2 j (by omega)).1] at hv; cases hv; exact fits_lo8 _
    · obtain ⟨j, rfl⟩ : ∃ j, i = 2 * j + 1 := ⟨i / 2, by omega⟩
      rw [(k2 j (by omega)).2] at hv; cases hv; exact fits_lo8 _
/-- the same text -/
def SameT (n : Nat) (f : Nat → Int32) (k : Nat) (g : Nat → Int32) : Prop := n = k ∧ ∀ j, j < n → f j = g j
theorem lo8_inj {x y : Int32} (h0 : ¬ x < 0) (h1 : ¬ 255 < x) (k0 : ¬ y < 0) (k1 : ¬ 255 < y) (h : lo8 x = lo8 y) : x = y := by
  rw [← lo8_mask h0 h1, ← lo8_mask k0 k1, h]
/-- arrays coded by one coder are equal just where the texts are -/
theorem Cod.eqv {cd : Int32} {n k : Nat} {f g : Nat → Int32} {V V' : Cell} (h : Cod cd n f V) (h' : Cod cd k g V') (hf : ∀ j, j < n → ¬ f j < 0 ∧ ¬ 65535 < f j) (hg : ∀ j, j < k → ¬ g j < 0 ∧ ¬ 65535 < g j) : EqC V V' ↔ SameT n f k g := by
  have yvv : ∀ {W : Cell} {i : Nat} {x : Int32}, W.slots[i]? = some (.int x) → yv W i = x := fun q => by unfold yv; rw [q]
  rcases h with ⟨rfl, k1, k2⟩ | ⟨rfl, k1, k2, -⟩
  · rcases h' with ⟨-, m1, m2⟩ | ⟨e, -⟩
    · constructor
      · rintro ⟨e1, e2⟩
        refine ⟨by omega, fun j hj => ?_⟩
        have q := e2 j (by omega)
        rw [yvv (k2 j hj).1, yvv (m2 j (by omega)).1] at q
        exact lo8_inj (hf j hj).1 (k2 j hj).2 (hg j (by omega)).1 (m2 j (by omega)).2 q
      · rintro ⟨rfl, e2⟩
        refine ⟨by omega, fun j hj => ?_⟩
        rw [yvv (k2 j (by omega)).1, yvv (m2 j (by omega)).1, e2 j (by omega)]
    · exact absurd e (by decide)
  · rcases h' with ⟨e, -⟩ | ⟨-, m1, m2, -⟩
    · exact absurd e (by decide)
    · constructor
      · rintro ⟨e1, e2⟩
        refine ⟨by omega, fun j hj => ?_⟩
        have q1 := e2 (2 * j) (by omega)
        have q2 := e2 (2 * j + 1) (by omega)
        rw [yvv (k2 j hj).1, yvv (m2 j (by omega)).1] at q1
        rw [yvv (k2 j hj).2, yvv (m2 j (by omega)).2] at q2
        rw [← pair_says (hf j hj).1 (hf j hj).2, ← pair_says (hg j (by omega)).1 (hg j (by omega)).2, q1, q2]
      · rintro ⟨rfl, e2⟩
        refine ⟨by omega, fun i hi => ?_⟩
        rcases Nat.mod_two_eq_zero_or_one i with e | e
        · obtain ⟨j, rfl⟩ : ∃ j, i = 2 * j := ⟨i / 2, by omega⟩
          rw [yvv (k2 j (by omega)).1, yvv (m2 j (by omega)).1, e2 j (by omega)]
        · obtain ⟨j, rfl⟩ : ∃ j, i = 2 * j + 1 := ⟨i / 2, by omega⟩
          rw [yvv (k2 j (by omega)).2, yvv (m2 j (by omega)).2, e2 j (by omega)]
/-- two codings differ: so do the texts -/
theorem Cod.dif {cd cd' : Int32} {n k : Nat} {f g : Nat → Int32} {V V' : Cell} (h : Cod cd n f V) (h' : Cod cd' k g V') (hne : ¬ cd = cd') : ¬ SameT n f k g := by
  rintro ⟨rfl, e⟩
  rcases h with ⟨rfl, -, k2⟩ | ⟨rfl, -, -, j, hj, hw⟩
  · rcases h' with ⟨rfl, -⟩ | ⟨-, -, -, j, hj, hw⟩
    · exact hne rfl
    · exact (k2 j hj).2 (by rw [e j hj]; exact hw)
  · rcases h' with ⟨-, -, m2⟩ | ⟨rfl, -⟩
    · exact (m2 j hj).2 (by rw [← e j hj]; exact hw)
    · exact hne rfl
/-- an object of exactly C is an instance of C -/
theorem cinst {p : Program} {l : Launch} {e : Env} {R : Room} {s : State} {m : MethodId} {args : Array Value} {below : List Frame} {meth : Method} {c : Code} {T : State} {locs : List Loc} {cells slots : Nat} (X : Stand p l e R s m args below meth c T locs cells slots) (hexec : p.tables.exec = Jvm.exec) {own C : String} {index : Nat} (hown : s.vm.findClass own = some m.cls) (hlink : (Cond.classLink own index C).before args s = true) {a : Addr} (hE : Exact C a T)
    {g : JFrame} (hg : g.method = m) {rest : List Value} (hstack : g.stack = .ref a :: rest) (hdg : decode c.code g.pc = .ok (.instanceof index, 3)) :
    ∃ T', Stand p l e R s m args below meth c T' locs cells slots ∧ T'.heap = T.heap ∧ ∀ target, Steps p.tables e below (T'.setTop { g with pc := g.pc + 3, stack := .int 1 :: rest }) target → Steps p.tables e below (T.setTop g) target := by
  obtain ⟨cB, h1, D, h2, h3, h4⟩ := hE
  have h1' : s.vm.findClass C = some cB := by rw [← X.warmed.alike.findClass]; exact h1
  obtain ⟨vm', X', st⟩ := X.instanceofYes hexec hown hlink h2 h4 h1' (by rw [h3]; exact Jvm.Free.SB.assignable_self _ _) hg hstack hdg
  exact ⟨_, X', rfl, st⟩
theorem cself {p : Program} {l : Launch} {e : Env} {R : Room} {s : State} {m : MethodId} {args : Array Value} {below : List Frame} {meth : Method} {c : Code} {T : State} {locs : List Loc} {cells slots : Nat} (X : Stand p l e R s m args below meth c T locs cells slots) (hexec : p.tables.exec = Jvm.exec) {own C : String} {index : Nat} (hown : s.vm.findClass own = some m.cls) (hlink : (Cond.classLink own index C).before args s = true) {a : Addr} (hE : Exact C a T)
    {g : JFrame} (hg : g.method = m) {rest : List Value} (hstack : g.stack = .ref a :: rest) (hdg : decode c.code g.pc = .ok (.checkcast index, 3)) :
    ∃ T', Stand p l e R s m args below meth c T' locs cells slots ∧ T'.heap = T.heap ∧ ∀ target, Steps p.tables e below (T'.setTop { g with pc := g.pc + 3, stack := .ref a :: rest }) target → Steps p.tables e below (T.setTop g) target := by
  obtain ⟨cB, h1, D, h2, h3, h4⟩ := hE
  have h1' : s.vm.findClass C = some cB := by rw [← X.warmed.alike.findClass]; exact h1
  obtain ⟨vm', X', st⟩ := X.checkcastYes hexec hown hlink h2 h4 h1' (by rw [h3]; exact Jvm.Free.SB.assignable_self _ _) hg hstack hdg
  exact ⟨_, X', rfl, fun t h => st t (by rw [← hstack] at h; exact h)⟩
namespace SEq
def yN : MethodName := ⟨"java/lang/String", "equals", "(Ljava/lang/Object;)Z"⟩
abbrev yB : ByteArray := jdk_42_method_66_code
theorem d0 : decode yB 0 = .ok (.aload_n 0, 1) := by decide +kernel
theorem d1 : decode yB 1 = .ok (.aload_n 1, 1) := by decide +kernel
theorem d2 : decode yB 2 = .ok (.if_acmp (.ne) 5, 3) := by decide +kernel
theorem d5 : decode yB 5 = .ok (.iconst 1, 1) := by decide +kernel
theorem d6 : decode yB 6 = .ok (.ireturn, 1) := by decide +kernel
theorem d7 : decode yB 7 = .ok (.aload_n 1, 1) := by decide +kernel
theorem d8 : decode yB 8 = .ok (.instanceof 10, 3) := by decide +kernel
theorem d11 : decode yB 11 = .ok (.ifCond (.eq) 43, 3) := by decide +kernel
theorem d14 : decode yB 14 = .ok (.aload_n 1, 1) := by decide +kernel
theorem d15 : decode yB 15 = .ok (.checkcast 10, 3) := by decide +kernel
theorem d18 : decode yB 18 = .ok (.astore_n 2, 1) := by decide +kernel
theorem d19 : decode yB 19 = .ok (.getstatic 38, 3) := by decide +kernel
theorem d22 : decode yB 22 = .ok (.ifCond (.eq) 14, 3) := by decide +kernel
theorem d25 : decode yB 25 = .ok (.aload_n 0, 1) := by decide +kernel
theorem d26 : decode yB 26 = .ok (.getfield 15, 3) := by decide +kernel
theorem d29 : decode yB 29 = .ok (.aload_n 2, 1) := by decide +kernel
theorem d30 : decode yB 30 = .ok (.getfield 15, 3) := by decide +kernel
theorem d33 : decode yB 33 = .ok (.if_icmp (.ne) 21, 3) := by decide +kernel
theorem d36 : decode yB 36 = .ok (.aload_n 0, 1) := by decide +kernel
theorem d37 : decode yB 37 = .ok (.getfield 9, 3) := by decide +kernel
theorem d40 : decode yB 40 = .ok (.aload_n 2, 1) := by decide +kernel
theorem d41 : decode yB 41 = .ok (.getfield 9, 3) := by decide +kernel
theorem d44 : decode yB 44 = .ok (.invokestatic 541, 3) := by decide +kernel
theorem d47 : decode yB 47 = .ok (.ifCond (.eq) 7, 3) := by decide +kernel
theorem d50 : decode yB 50 = .ok (.iconst 1, 1) := by decide +kernel
theorem d51 : decode yB 51 = .ok (.goto 4, 3) := by decide +kernel
theorem d54 : decode yB 54 = .ok (.iconst 0, 1) := by decide +kernel
theorem d55 : decode yB 55 = .ok (.ireturn, 1) := by decide +kernel
def site : List Cond := [.classLink "java/lang/String" 10 "java/lang/String", .fieldLink "java/lang/String" 38 "java/lang/String" "COMPACT_STRINGS" "Z", .fieldLink "java/lang/String" 15 "java/lang/String" "coder" "B", .fieldLink "java/lang/String" 9 "java/lang/String" "value" "[B", LEq.tab] ++ staticW "java/lang/String" 541 LEq.yN
def tab : Cond := tabOf yN yB 3 (some .boolean) site
def P (x t : Addr) (V : Cell) (cd : Int32) (n : Nat) (f : Nat → Int32) (y t' : Addr) (V' : Cell) (cd' : Int32) (k : Nat) (g : Nat → Int32) (z : Int32) (args : Array Value) (s : State) : Prop := args = #[.ref x, .ref y] ∧ Txt x t V cd n f s ∧ Txt y t' V' cd' k g s ∧ StaticIs s "java/lang/String" "COMPACT_STRINGS" "Z" (.int z) ∧ ¬ z = 0
/-- equals(Object) of two Strings: whether the texts are the same -/
theorem law (l : Launch) (x t : Addr) (V : Cell) (cd : Int32) (n : Nat) (f : Nat → Int32) (y t' : Addr) (V' : Cell) (cd' : Int32) (k : Nat) (g : Nat → Int32) (z : Int32) : Law l yN 2 1 1 14 yB 3 (some .boolean) site (P x t V cd n f y t' V' cd' k g z) (Says01 (SameT n f k g)) [] 0 0 := by
  refine Law.of_walk (plainFor_of_name (by decide +kernel)) (by decide +kernel) (by decide +kernel) (by decide) (fun _ _ h => by rw [h.1]; rfl) (fun _ U U' hal hh h => ⟨h.1, h.2.1.mv hal hh, h.2.2.1.mv hal hh, h.2.2.2.1.there hal hh, h.2.2.2.2⟩) (fun r U U' V V' h1 hal h2 h => Says01.mv r U U' V V' h1 hal h2 h) ?_
  intro p e s m args below meth c s₁ X0 hexec hbytes hml hret hlk hnm hown hh0 W hP
  obtain ⟨rfl, hx, hy, s1, hz⟩ := hP
  have c1 : Steps p.tables e below (s₁.setTop (entryFrame m #[.ref x, .ref y] 3)) (s₁.setTop (mkF m 2 #[.val (.ref x), .val (.ref y), .unset] [.ref y, .ref x])) := Steps.trans (entry rfl) (by
    show Steps p.tables e below (s₁.setTop (mkF m 0 #[.val (.ref x), .val (.ref y), .unset] [])) _
    refine XS.aloadN X0.here hexec rfl (hb hbytes d0) rfl rfl ?_
    refine XS.aloadN X0.here hexec rfl (hb hbytes d1) rfl rfl ?_
    exact Steps.refl _)
  by_cases hxy : x = y
  · have c2 : Steps p.tables e below (s₁.setTop (entryFrame m #[.ref x, .ref y] 3)) (s₁.setTop (mkF m 6 #[.val (.ref x), .val (.ref y), .unset] [.int 1])) := c1.trans (by
      refine acmpNo X0.here hexec rfl (hb hbytes d2) rfl rfl rfl (by simp [acmp, hxy]) ?_
      refine iconstV X0.here hexec rfl 1 (hb hbytes d5) (by decide) ?_
      exact Steps.refl _)
    subst hxy
    have ec : cd = cd' := by
      obtain ⟨D, fd, a1, a2, a3⟩ := hx.2.2.1
      obtain ⟨D', fd', b1, b2, b3⟩ := hy.2.2.1
      cases a1.symm.trans b1
      obtain ⟨q1, q2, q3, q4⟩ := a2.1
      obtain ⟨r1, r2, r3, r4⟩ := b2.1
      cases q4.symm.trans r4
      cases a3.symm.trans b3; rfl
    have et : t = t' := by
      obtain ⟨D, fd, a1, a2, a3⟩ := hx.2.1
      obtain ⟨D', fd', b1, b2, b3⟩ := hy.2.1
      cases a1.symm.trans b1
      obtain ⟨q1, q2, q3, q4⟩ := a2.1
      obtain ⟨r1, r2, r3, r4⟩ := b2.1
      cases q4.symm.trans r4
      cases a3.symm.trans b3; rfl
    subst ec et
    have ev : V = V' := by cases hx.2.2.2.1.1.symm.trans hy.2.2.2.1.1; rfl
    subst ev
    have hs : SameT n f k g := (Cod.eqv hx.2.2.2.2.1 hy.2.2.2.2.1 hx.2.2.2.2.2 hy.2.2.2.2.2).mp ⟨rfl, fun _ _ => rfl⟩
    exact ⟨s₁, some (.int 1), _, _, _, X0, rfl, rfl, rfl, (fun h => by cases h), ⟨1, rfl, hh0, Or.inl ⟨rfl, hs⟩⟩, fun fs hl => c2.trans (X0.ireturnOut hexec hret rfl (Or.inr (Or.inl rfl)) (hb hbytes d6) hl)⟩
  · have c2 : Steps p.tables e below (s₁.setTop (entryFrame m #[.ref x, .ref y] 3)) (s₁.setTop (mkF m 8 #[.val (.ref x), .val (.ref y), .unset] [.ref y])) := c1.trans (by
      refine acmpYes X0.here hexec rfl (pc0 := 2) rfl (hb hbytes d2) rfl rfl rfl (by simp [acmp, hxy]) (by decide) rfl ?_
      refine XS.aloadN X0.here hexec rfl (hb hbytes d7) rfl rfl ?_
      exact Steps.refl _)
    obtain ⟨T3, X3, q3, st3⟩ := cinst X0 hexec hown (wk W (.classLink "java/lang/String" 10 "java/lang/String")) (hy.mv X0.warmed.alike hh0).1 (g := (mkF m 8 #[.val (.ref x), .val (.ref y), .unset] [.ref y])) rfl (rest := []) rfl (hb hbytes d8)
    have hh3 := q3.trans hh0
    have c4 : Steps p.tables e below (s₁.setTop (entryFrame m #[.ref x, .ref y] 3)) (T3.setTop (mkF m 15 #[.val (.ref x), .val (.ref y), .unset] [.ref y])) := (c2.trans (st3 _ (Steps.refl _))).trans (by
      refine XS.ifNo X3.here hexec rfl (hb hbytes d11) rfl (i0_eq_f (by decide)) ?_
      refine XS.aloadN X3.here hexec rfl (hb hbytes d14) rfl rfl ?_
      exact Steps.refl _)
    obtain ⟨T5, X5, q5, st5⟩ := cself X3 hexec hown (wk W (.classLink "java/lang/String" 10 "java/lang/String")) (hy.mv X3.warmed.alike hh3).1 (g := (mkF m 15 #[.val (.ref x), .val (.ref y), .unset] [.ref y])) rfl (rest := []) rfl (hb hbytes d15)
    have hh5 := q5.trans hh3
    have c6 : Steps p.tables e below (s₁.setTop (entryFrame m #[.ref x, .ref y] 3)) (T5.setTop (mkF m 19 #[.val (.ref x), .val (.ref y), .val (.ref y)] [])) := (c4.trans (st5 _ (Steps.refl _))).trans (by
      refine XS.astoreN X5.here hexec rfl (hb hbytes d18) rfl rfl rfl ?_
      exact Steps.refl _)
    obtain ⟨T7, X7, q7, st7⟩ := X5.sget hexec hown (wk W (.fieldLink "java/lang/String" 38 "java/lang/String" "COMPACT_STRINGS" "Z")) s1 (fun _ _ h => by rw [hh5]; exact h) (g := (mkF m 19 #[.val (.ref x), .val (.ref y), .val (.ref y)] [])) rfl (hb hbytes d19)
    have hh7 := q7.trans hh5
    have c8 : Steps p.tables e below (s₁.setTop (entryFrame m #[.ref x, .ref y] 3)) (T7.setTop (mkF m 26 #[.val (.ref x), .val (.ref y), .val (.ref y)] [.ref x])) := (c6.trans (st7 _ (Steps.refl _))).trans (by
      refine XS.ifNo X7.here hexec rfl (hb hbytes d22) rfl (i0_eq_f hz) ?_
      refine XS.aloadN X7.here hexec rfl (hb hbytes d25) rfl rfl ?_
      exact Steps.refl _)
    obtain ⟨T9, X9, q9, st9⟩ := X7.hget hexec hown (wk W (.fieldLink "java/lang/String" 15 "java/lang/String" "coder" "B")) (hx.mv X7.warmed.alike hh7).2.2.1 (g := (mkF m 26 #[.val (.ref x), .val (.ref y), .val (.ref y)] [.ref x])) rfl (rest := []) rfl (hb hbytes d26)
    have hh9 := q9.trans hh7
    have c10 : Steps p.tables e below (s₁.setTop (entryFrame m #[.ref x, .ref y] 3)) (T9.setTop (mkF m 30 #[.val (.ref x), .val (.ref y), .val (.ref y)] [.ref y, .int cd])) := (c8.trans (st9 _ (Steps.refl _))).trans (by
      refine XS.aloadN X9.here hexec rfl (hb hbytes d29) rfl rfl ?_
      exact Steps.refl _)
    obtain ⟨T11, X11, q11, st11⟩ := X9.hget hexec hown (wk W (.fieldLink "java/lang/String" 15 "java/lang/String" "coder" "B")) (hy.mv X9.warmed.alike hh9).2.2.1 (g := (mkF m 30 #[.val (.ref x), .val (.ref y), .val (.ref y)] [.ref y, .int cd])) rfl (rest := [.int cd]) rfl (hb hbytes d30)
    have hh11 := q11.trans hh9
    have c12 : Steps p.tables e below (s₁.setTop (entryFrame m #[.ref x, .ref y] 3)) (T11.setTop (mkF m 33 #[.val (.ref x), .val (.ref y), .val (.ref y)] [.int cd', .int cd])) := c10.trans (st11 _ (Steps.refl _))
    by_cases hcd : cd = cd'
    · subst hcd
      have c13 : Steps p.tables e below (s₁.setTop (entryFrame m #[.ref x, .ref y] 3)) (T11.setTop (mkF m 37 #[.val (.ref x), .val (.ref y), .val (.ref y)] [.ref x])) := c12.trans (by
        refine XS.icmpNo X11.here hexec rfl (hb hbytes d33) rfl (ii_ne_f rfl) ?_
        refine XS.aloadN X11.here hexec rfl (hb hbytes d36) rfl rfl ?_
        exact Steps.refl _)
      obtain ⟨T14, X14, q14, st14⟩ := X11.hget hexec hown (wk W (.fieldLink "java/lang/String" 9 "java/lang/String" "value" "[B")) (hx.mv X11.warmed.alike hh11).2.1 (g := (mkF m 37 #[.val (.ref x), .val (.ref y), .val (.ref y)] [.ref x])) rfl (rest := []) rfl (hb hbytes d37)
      have hh14 := q14.trans hh11
      have c15 : Steps p.tables e below (s₁.setTop (entryFrame m #[.ref x, .ref y] 3)) (T14.setTop (mkF m 41 #[.val (.ref x), .val (.ref y), .val (.ref y)] [.ref y, .ref t])) := (c13.trans (st14 _ (Steps.refl _))).trans (by
        refine XS.aloadN X14.here hexec rfl (hb hbytes d40) rfl rfl ?_
        exact Steps.refl _)
      obtain ⟨T16, X16, q16, st16⟩ := X14.hget hexec hown (wk W (.fieldLink "java/lang/String" 9 "java/lang/String" "value" "[B")) (hy.mv X14.warmed.alike hh14).2.1 (g := (mkF m 41 #[.val (.ref x), .val (.ref y), .val (.ref y)] [.ref y, .ref t])) rfl (rest := [.ref t]) rfl (hb hbytes d41)
      have hh16 := q16.trans hh14
      have c17 : Steps p.tables e below (s₁.setTop (entryFrame m #[.ref x, .ref y] 3)) (T16.setTop (mkF m 44 #[.val (.ref x), .val (.ref y), .val (.ref y)] [.ref t', .ref t])) := c15.trans (st16 _ (Steps.refl _))
      obtain ⟨v18, T18, X18, E18, g18⟩ := X16.callS hexec (LEq.law l t V t' V') hown (wks W (staticW "java/lang/String" 541 LEq.yN)) (wk W LEq.tab) (W := 0) (Nat.le_of_ble_eq_true rfl) (Nat.le_of_ble_eq_true rfl) (Nat.le_refl _) (Nat.le_refl _) (g := (mkF m 44 #[.val (.ref x), .val (.ref y), .val (.ref y)] [.ref t', .ref t])) rfl (by rw [hml]; rfl) c17 (argsL := [.ref t, .ref t']) (rest := []) rfl rfl (by show 2 * 0 + 0 ≤ _; decide) (hb hbytes d44) (⟨rfl, hx.2.2.2.1.mv X16.warmed.alike hh16, hx.2.2.2.2.1.ty, hy.2.2.2.1.mv X16.warmed.alike hh16, hy.2.2.2.2.1.ty⟩)
      obtain ⟨v, rfl, q18, hv⟩ := E18
      have iff := Cod.eqv hx.2.2.2.2.1 hy.2.2.2.2.1 hx.2.2.2.2.2 hy.2.2.2.2.2
      rcases hv with ⟨rfl, he⟩ | ⟨rfl, he⟩
      · have c19 : Steps p.tables e below (s₁.setTop (entryFrame m #[.ref x, .ref y] 3)) (T18.setTop (mkF m 55 #[.val (.ref x), .val (.ref y), .val (.ref y)] [.int 1])) := Steps.trans g18 (by
          refine XS.ifNo X18.here hexec rfl (hb hbytes d47) rfl (i0_eq_f (by decide)) ?_
          refine iconstV X18.here hexec rfl 1 (hb hbytes d50) (by decide) ?_
          refine XS.goto X18.here hexec rfl (pc0 := 51) rfl (hb hbytes d51) (by decide) rfl ?_
          exact Steps.refl _)
        exact ⟨T18, some (.int 1), _, _, _, X18, rfl, rfl, rfl, (fun h => by cases h), ⟨1, rfl, q18.trans hh16, Or.inl ⟨rfl, iff.mp he⟩⟩, fun fs hl => c19.trans (X18.ireturnOut hexec hret rfl (Or.inr (Or.inl rfl)) (hb hbytes d55) hl)⟩
      · have c19 : Steps p.tables e below (s₁.setTop (entryFrame m #[.ref x, .ref y] 3)) (T18.setTop (mkF m 55 #[.val (.ref x), .val (.ref y), .val (.ref y)] [.int 0])) := Steps.trans g18 (by
          refine XS.ifYes X18.here hexec rfl (pc0 := 47) rfl (hb hbytes d47) rfl (i0_eq_t rfl) (by decide) rfl ?_
          refine iconstV X18.here hexec rfl 0 (hb hbytes d54) (by decide) ?_
          exact Steps.refl _)
        exact ⟨T18, some (.int 0), _, _, _, X18, rfl, rfl, rfl, (fun h => by cases h), ⟨0, rfl, q18.trans hh16, Or.inr ⟨rfl, fun q => he (iff.mpr q)⟩⟩, fun fs hl => c19.trans (X18.ireturnOut hexec hret rfl (Or.inr (Or.inl rfl)) (hb hbytes d55) hl)⟩
    · have c13 : Steps p.tables e below (s₁.setTop (entryFrame m #[.ref x, .ref y] 3)) (T11.setTop (mkF m 55 #[.val (.ref x), .val (.ref y), .val (.ref y)] [.int 0])) := c12.trans (by
        refine XS.icmpYes X11.here hexec rfl (pc0 := 33) rfl (hb hbytes d33) rfl (ii_ne_t hcd) (by decide) rfl ?_
        refine iconstV X11.here hexec rfl 0 (hb hbytes d54) (by decide) ?_
        exact Steps.refl _)
      exact ⟨T11, some (.int 0), _, _, _, X11, rfl, rfl, rfl, (fun h => by cases h), ⟨0, rfl, hh11, Or.inr ⟨rfl, Cod.dif hx.2.2.2.2.1 hy.2.2.2.2.1 hcd⟩⟩, fun fs hl => c13.trans (X11.ireturnOut hexec hret rfl (Or.inr (Or.inl rfl)) (hb hbytes d55) hl)⟩
theorem pays {l : Launch} {R : Room} {p : Program} {e : Env} {below : List Frame} {s : State} {sargs : Array Value} {len W : Nat} (x t : Addr) (V : Cell) (cd : Int32) (n : Nat) (f : Nat → Int32) (y t' : Addr) (V' : Cell) (cd' : Int32) (k : Nat) (g : Nat → Int32) (z : Int32) (htab : tab.before sargs s = true) (hfr : 2 ≤ R.frames) (hlo : W + 28 ≤ R.locals) :
    Back l R p e below s sargs yN len W (fun A₁ a₁ => A₁.cells + 0 ≤ R.cells ∧ A₁.slots + 0 ≤ R.slots ∧ P x t V cd n f y t' V' cd' k g z a₁ A₁.U) (fun A₁ _ v₁ B₁ => Says01 (SameT n f k g) v₁ A₁.U B₁.U ∧ B₁.locs = A₁.locs ++ [] ∧ B₁.cells = A₁.cells + 0 ∧ B₁.slots = A₁.slots + 0) :=
  (law l x t V cd n f y t' V' cd' k g z).pays htab hfr (by omega)
end SEq
end StrChars
namespace StrChars.Road
open Jvm Sem ClassFile Op Lib Jvm.Stand Jvm.Free Jvm.Free.XT
open Jvm.Lib.Cold (StaticIs)
/-- the words of String.equals(Object) -/
abbrev wordsEq : List Jvm.Cond := [.code SEq.yN SEq.yB 3 (some .boolean), .initialized ST, .classLink ST 10 ST, .fieldLink ST 38 ST "COMPACT_STRINGS" "Z", .fieldLink ST 15 ST "coder" "B", .fieldLink ST 9 ST "value" "[B", .methodLink ST 541 LEq.yN, .static LEq.yN, .code LEq.yN LEq.yB 3 (some .boolean), .initialized "java/lang/StringLatin1"]
theorem tabEq_of {a : Array Value} {s : State} (h : ∀ w ∈ wordsEq, w.before a s = true) : SEq.tab.before a s = true := by
  have hl : LEq.tab.before a s = true := unparts (wk h (.code LEq.yN LEq.yB 3 (some .boolean))) (wks h (.initialized LEq.yN.cls :: LEq.site))
  have q := consq hl h
  exact unparts (wk q (.code SEq.yN SEq.yB 3 (some .boolean))) (wks q (.initialized SEq.yN.cls :: SEq.site))
theorem movedEq {Z s : State} {a0 args : Array Value} (hZ : Z.Warmed39 s.vm) (hw : ∀ d ∈ wordsEq, d.before a0 Z = true) : ∀ d ∈ wordsEq, d.before args s = true := fun d hd => by
  have t : ∀ d ∈ wordsEq, (d.onTables && d.keepsFace) = true := by decide +kernel
  exact RoadKit.mv hZ (hw d hd) (t d hd)
/-- the road's facts of a String, as the laws ask it -/
theorem txt_of {Z U : State} {a0 : Array Value} {kI : Nat} (wi : (Jvm.Cond.instantiable ST kI).before a0 Z = true) (al : Z.vm.Alike U.vm) {x t : Addr} {kb : ClassId} {cs : List Int32} {cd N2 : Int32} {vs : List Value} (E : RoadKit.Exa Z U.heap x ST) (V : RoadKit.Fld Z U.heap x ST "value" "[B" (.ref t)) (C : RoadKit.Fld Z U.heap x ST "coder" "B" (.int cd)) (K : RoadKit.Arv Z U.heap t kb .byte N2 vs (.int 0)) (hc : CodA cs cd N2 vs) (hb : ∀ c ∈ cs, ¬ c < 0 ∧ ¬ (65535 : Int32) < c) (l2 : cs.length ≤ 4000) :
    ∃ A, Txt x t A cd cs.length (fun j => cs.getD j 0) U := by
  obtain ⟨A, K1, K2, K3, K4, K5, K6⟩ := K
  have hcod := hc.cod (by omega) K3 K5
  obtain ⟨D, fV, fC, hB, F1, F2, g1, g2, -, -⟩ := strObj wi al E V C
  exact ⟨A, ⟨_, hB.2.2.1, D, hB.1, rfl, by cases q : D.vm <;> first | rfl | exact absurd q (hB.2.1.2 _)⟩, Has.of hB F1 g1, Has.of hB F2 g2, ⟨K1.1, State.isArrayOf_alike al K1.2.1, K1.2.2, by rcases hcod with ⟨-, q, -⟩ | ⟨-, q, -⟩ <;> omega⟩, hcod, fun j hj => by
    have e : cs.getD j 0 = cs[j] := by simp [List.getD_eq_getElem?_getD, hj]
    show ¬ cs.getD j 0 < 0 ∧ ¬ 65535 < cs.getD j 0
    rw [e]; exact hb _ (List.getElem_mem _)⟩
theorem same_list (cs ds : List Int32) : SameT cs.length (fun j => cs.getD j 0) ds.length (fun j => ds.getD j 0) ↔ cs = ds := by
  constructor
  · rintro ⟨e, q⟩
    refine List.ext_getElem e fun j h1 h2 => ?_
    have := q j h1
    simpa [List.getD_eq_getElem?_getD, h1, h2] using this
  · rintro rfl
    exact ⟨rfl, fun _ _ => rfl⟩
/-- **equals(Object) OF TWO SUCH STRINGS**: 1 just where the chars are the same -/
theorem eqW {p : Program} {l : Launch} {e : Env} {R : Room} {s : State} {args : Array Value} {below : List Frame} {len W : Nat} {Z : State} {a0 : Array Value} {h : Heap} (hZ : Z.Warmed39 s.vm) (hw : ∀ d ∈ wordsEq, d.before a0 Z = true) {kI : Nat} (wi : (Jvm.Cond.instantiable ST kI).before a0 Z = true)
    {x t : Addr} {kb : ClassId} {cs : List Int32} {cd N2 : Int32} {vs : List Value} (E : RoadKit.Exa Z h x ST) (V : RoadKit.Fld Z h x ST "value" "[B" (.ref t)) (C : RoadKit.Fld Z h x ST "coder" "B" (.int cd)) (K : RoadKit.Arv Z h t kb .byte N2 vs (.int 0)) (hc : CodA cs cd N2 vs) (hb : ∀ c ∈ cs, ¬ c < 0 ∧ ¬ (65535 : Int32) < c) (l2 : cs.length ≤ 4000)
    {y t' : Addr} {kb' : ClassId} {ds : List Int32} {cd' N2' : Int32} {vs' : List Value} (E' : RoadKit.Exa Z h y ST) (V' : RoadKit.Fld Z h y ST "value" "[B" (.ref t')) (C' : RoadKit.Fld Z h y ST "coder" "B" (.int cd')) (K' : RoadKit.Arv Z h t' kb' .byte N2' vs' (.int 0)) (hc' : CodA ds cd' N2' vs') (hb' : ∀ c ∈ ds, ¬ c < 0 ∧ ¬ (65535 : Int32) < c) (l2' : ds.length ≤ 4000)
    {z : Int32} (S : RoadKit.Sta Z h ST "COMPACT_STRINGS" "Z" (.int z)) (hz : ¬ z = 0) (hfr : 2 ≤ R.frames) (hlo : W + 28 ≤ R.locals) :
    Back l R p e below s args (⟨"java/lang/String", "equals", "(Ljava/lang/Object;)Z"⟩ : MethodName) len W (fun P a => a = #[.ref x, .ref y] ∧ P.U.heap = h ∧ P.cells + 0 ≤ R.cells ∧ P.slots + 0 ≤ R.slots)
      (fun P _ v B => ∃ L, (((v = some (.int 1) ∧ cs = ds) ∨ (v = some (.int 0) ∧ ¬ cs = ds)) ∧ L = [] ∧ B.U.heap = h) ∧ B.locs = P.locs ++ L ∧ B.cells = P.cells + 0 ∧ B.slots = P.slots + 0) := by
  intro m meth c P g ig mk a X hg hsize hdg hW hn hp'
  obtain ⟨rfl, rfl, r1, r2⟩ := hp'
  have al : Z.vm.Alike P.U.vm := hZ.alike.trans X.warmed.alike
  obtain ⟨A, hx⟩ := txt_of wi al E V C K hc hb l2
  obtain ⟨A', hy⟩ := txt_of wi al E' V' C' K' hc' hb' l2'
  obtain ⟨v, B, X', ⟨⟨w, hv, hh, hq⟩, hl, hk, hs⟩, st⟩ := SEq.pays x t A cd cs.length (fun j => cs.getD j 0) y t' A' cd' ds.length (fun j => ds.getD j 0) z (tabEq_of (movedEq hZ hw)) hfr hlo m meth c P g ig mk _ X hg hsize hdg hW hn ⟨r1, r2, rfl, hx, hy, sta_is al S, hz⟩
  refine ⟨v, B, X', ⟨[], ⟨?_, rfl, hh⟩, hl, hk, hs⟩, st⟩
  rcases hq with ⟨rfl, q⟩ | ⟨rfl, q⟩
  · exact Or.inl ⟨hv, (same_list cs ds).mp q⟩
  · exact Or.inr ⟨hv, fun e => q ((same_list cs ds).mpr e)⟩
end StrChars.Road
namespace StrChars.Road
open Jvm Sem ClassFile Op Lib Jvm.Stand Jvm.Free Jvm.Free.XT
open Jvm.Lib.Cold (StaticIs)
/-- what backV says of its String, as the contracts of this text ask it: cs's low bytes, coder 0 -/
theorem codOf {cs : List Int32} {n : Nat} (hn : cs.length = n) (hb : ∀ c ∈ cs, ¬ 255 < c) : CodA cs 0 (Int32.ofNat n) ((cs.map lo8).map Value.int) := Or.inl ⟨rfl, by rw [hn], by simp [List.map_map, Function.comp_def], hb⟩
end StrChars.Road
end Jvm.Pilot.@@N@@

namespace Jvm.Pilot.@@N@@
open Jvm Jvm.ClassFile Sem Op Lib Jvm.Free Jvm.Stand Jvm.LawKit Jvm.RoadKit Bundle Jvm.Pilot.@@N@@.Jvm.D
theorem pd_0 : parseMethodDescriptor "([CIILjava/lang/Void;)V" = some ⟨[(.array .char), .int, .int, (.object "java/lang/Void")], none⟩ := by decide +kernel
theorem pd_1 : parseMethodDescriptor "([C)V" = some ⟨[(.array .char)], none⟩ := by decide +kernel
theorem pd_2 : parseMethodDescriptor "()B" = some ⟨[], some .byte⟩ := by decide +kernel
theorem pd_3 : parseMethodDescriptor "(I)Z" = some ⟨[.int], some .boolean⟩ := by decide +kernel
theorem pd_4 : parseMethodDescriptor "(II)I" = some ⟨[.int, .int], some .int⟩ := by decide +kernel
theorem pd_5 : parseMethodDescriptor "()Z" = some ⟨[], some .boolean⟩ := by decide +kernel
theorem pd_6 : parseMethodDescriptor "([BII)I" = some ⟨[(.array .byte), .int, .int], some .int⟩ := by decide +kernel
theorem pd_7 : parseMethodDescriptor "()I" = some ⟨[], some .int⟩ := by decide +kernel
theorem pd_8 : parseMethodDescriptor "(IIILjava/util/function/BiFunction;)I" = some ⟨[.int, .int, .int, (.object "java/util/function/BiFunction")], some .int⟩ := by decide +kernel
theorem pd_9 : parseMethodDescriptor "(II)V" = some ⟨[.int, .int], none⟩ := by decide +kernel
theorem pd_10 : parseMethodDescriptor "([BII)[B" = some ⟨[(.array .byte), .int, .int], some (.array .byte)⟩ := by decide +kernel
theorem pd_11 : parseMethodDescriptor "([BB)V" = some ⟨[(.array .byte), .byte], none⟩ := by decide +kernel
theorem pd_12 : parseMethodDescriptor "(III)V" = some ⟨[.int, .int, .int], none⟩ := by decide +kernel
theorem pd_13 : parseMethodDescriptor "([BII)Ljava/lang/String;" = some ⟨[(.array .byte), .int, .int], some (.object "java/lang/String")⟩ := by decide +kernel
theorem pd_14 : parseMethodDescriptor "(Ljava/lang/Object;)Ljava/lang/Object;" = some ⟨[(.object "java/lang/Object")], some (.object "java/lang/Object")⟩ := by decide +kernel
theorem pd_15 : parseMethodDescriptor "(Ljava/lang/Object;)V" = some ⟨[(.object "java/lang/Object")], none⟩ := by decide +kernel
theorem pd_16 : parseMethodDescriptor "(I)I" = some ⟨[.int], some .int⟩ := by decide +kernel
theorem pd_17 : parseMethodDescriptor "()Ljava/util/Optional;" = some ⟨[], some (.object "java/util/Optional")⟩ := by decide +kernel
theorem pd_18 : parseMethodDescriptor "(II)Ljava/lang/String;" = some ⟨[.int, .int], some (.object "java/lang/String")⟩ := by decide +kernel
theorem pd_19 : parseMethodDescriptor "(Ljava/lang/Object;)Ljava/util/Optional;" = some ⟨[(.object "java/lang/Object")], some (.object "java/util/Optional")⟩ := by decide +kernel
theorem pd_20 : parseMethodDescriptor "(I)C" = some ⟨[.int], some .char⟩ := by decide +kernel
theorem pd_21 : parseMethodDescriptor "(ICCCC)Ljava/lang/String;" = some ⟨[.int, .char, .char, .char, .char], some (.object "java/lang/String")⟩ := by decide +kernel
theorem pd_22 : parseMethodDescriptor "(Ljava/lang/String;)Ljava/util/Optional;" = some ⟨[(.object "java/lang/String")], some (.object "java/util/Optional")⟩ := by decide +kernel
theorem pd_23 : parseMethodDescriptor "()Ljava/lang/Object;" = some ⟨[], some (.object "java/lang/Object")⟩ := by decide +kernel
theorem pd_24 : parseMethodDescriptor "(Ljava/lang/Object;)Z" = some ⟨[(.object "java/lang/Object")], some .boolean⟩ := by decide +kernel
theorem pn_0 : plainName "com/example/culpa/culpa/NamesFunctionPinLaw" = true := by first | (simp [plainName, overriddenIn]; done) | decide +kernel
theorem pn_1 : plainName "java/lang/String" = true := by first | (simp [plainName, overriddenIn]; done) | decide +kernel
theorem pn_2 : plainName "java/lang/StringLatin1" = true := by first | (simp [plainName, overriddenIn]; done) | decide +kernel
theorem pn_3 : plainName "jdk/internal/util/Preconditions" = true := by first | (simp [plainName, overriddenIn]; done) | decide +kernel
theorem pn_4 : plainName "java/util/Arrays" = true := by first | (simp [plainName, overriddenIn]; done) | decide +kernel
theorem pn_5 : plainName "java/util/Optional" = true := by first | (simp [plainName, overriddenIn]; done) | decide +kernel
theorem pn_6 : plainName "java/util/Objects" = true := by first | (simp [plainName, overriddenIn]; done) | decide +kernel
theorem pn_7 : plainName "com/example/culpa/culpa/Names" = true := by first | (simp [plainName, overriddenIn]; done) | decide +kernel
theorem heq_ {h h' : Heap} {a : Addr} {c : Cell} (e : h' = h) (A : h[a]? = some c) : h'[a]? = some c := by rw [e]; exact A
section OwnStr
open StrChars StrChars.Road
/-- in the heap h the String x bears the chars cs; it and its array lie below k -/
def OStr (Z : State) (h : Heap) (x : Addr) (cs : List Int32) (k : Nat) : Prop := ∃ (t : Addr) (kb : ClassId) (cd N2 : Int32) (vs : List Value), x < k ∧ t < k ∧ Exa Z h x "java/lang/String" ∧ Fld Z h x "java/lang/String" "value" "[B" (.ref t) ∧ Fld Z h x "java/lang/String" "coder" "B" (.int cd) ∧ Arv Z h t kb .byte N2 vs (.int 0) ∧ CodA cs cd N2 vs ∧ (∀ c ∈ cs, ¬ c < 0 ∧ ¬ (65535 : Int32) < c) ∧ cs.length ≤ 4000
theorem OStr.ext {Z : State} {h h' : Heap} {x : Addr} {cs : List Int32} {k : Nat} (S : OStr Z h x cs k) (E : Ext h h') : OStr Z h' x cs k := by
  obtain ⟨t, kb, cd, N2, vs, h1, h2, h3, h4, h5, h6, r⟩ := S
  exact ⟨t, kb, cd, N2, vs, h1, h2, h3.ext E, h4.ext E, h5.ext E, h6.ext E, r⟩
theorem OStr.keep {Z : State} {h h' : Heap} {x : Addr} {cs : List Int32} {k : Nat} {ws : List Addr} (S : OStr Z h x cs k) (K : Keep h h' ws) (q : ∀ y ∈ ws, k ≤ y) : OStr Z h' x cs k := by
  obtain ⟨t, kb, cd, N2, vs, h1, h2, h3, h4, h5, h6, r⟩ := S
  have n1 : x ∉ ws := fun z => Nat.lt_irrefl _ (Nat.lt_of_lt_of_le h1 (q x z))
  have n2 : t ∉ ws := fun z => Nat.lt_irrefl _ (Nat.lt_of_lt_of_le h2 (q t z))
  exact ⟨t, kb, cd, N2, vs, h1, h2, h3.keep K, h4.keep K n1, h5.keep K n1, h6.keep K n2, r⟩
theorem OStr.wr {Z : State} {h h' : Heap} {x : Addr} {cs : List Int32} {k : Nat} {a : Addr} {sl : Nat} {v : Value} (S : OStr Z h x cs k) (W : Wr h h' a sl v) (q : k ≤ a) : OStr Z h' x cs k := S.keep (Keep.of_wr W) (allS q all0)
theorem OStr.mono {Z : State} {h : Heap} {x : Addr} {cs : List Int32} {k k' : Nat} (S : OStr Z h x cs k) (q : k ≤ k') : OStr Z h x cs k' := by
  obtain ⟨t, kb, cd, N2, vs, h1, h2, r⟩ := S
  exact ⟨t, kb, cd, N2, vs, Nat.lt_of_lt_of_le h1 q, Nat.lt_of_lt_of_le h2 q, r⟩
theorem OStr.made {Z : State} {h : Heap} {x t : Addr} {kb : ClassId} {N : Int32} {cs : List Int32} {n : Nat} (E : Exa Z h x "java/lang/String") (C : Fld Z h x "java/lang/String" "coder" "B" (.int 0)) (V : Fld Z h x "java/lang/String" "value" "[B" (.ref t)) (K : Arv Z h t kb .byte N ((cs.map (fun c => c.toInt8.toInt32)).map Value.int) (.int 0))
    (hn : cs.length = n) (hN : N = Int32.ofNat n) (hp : ∀ c ∈ cs, ¬ c < 0 ∧ ¬ (255 : Int32) < c) (hl : n ≤ 4000) : OStr Z h x cs h.size := by
  subst hN
  refine ⟨t, kb, 0, _, _, E.lt, K.lt, E, V, C, K, codOf hn (fun c hc => (hp c hc).2), fun c hc => ⟨(hp c hc).1, fun q => (hp c hc).2 ?_⟩, by omega⟩
  rw [Int32.lt_iff_toInt_lt] at q ⊢
  have e1 : (255 : Int32).toInt = 255 := by decide
  have e2 : (65535 : Int32).toInt = 65535 := by decide
  omega
/-- equals of two known Strings -/
theorem eqO {p : Program} {l : Launch} {e : Env} {R : Room} {s : State} {args : Array Value} {below : List Frame} {len W : Nat} {Z : State} {a0 : Array Value} {h : Heap} (hZ : Z.Warmed39 s.vm) (hw : ∀ d ∈ wordsEq, d.before a0 Z = true) {kI : Nat} (wi : (Jvm.Cond.instantiable ST kI).before a0 Z = true)
    {x y : Addr} {cs ds : List Int32} {k k' : Nat} (A : OStr Z h x cs k) (B : OStr Z h y ds k') {z : Int32} (S : Sta Z h ST "COMPACT_STRINGS" "Z" (.int z)) (hz : ¬ z = 0) (hfr : 2 ≤ R.frames) (hlo : W + 28 ≤ R.locals) :
    Back l R p e below s args (⟨"java/lang/String", "equals", "(Ljava/lang/Object;)Z"⟩ : MethodName) len W (fun P a => a = #[.ref x, .ref y] ∧ P.U.heap = h ∧ P.cells + 0 ≤ R.cells ∧ P.slots + 0 ≤ R.slots)
      (fun P _ v B => ∃ L, (((v = some (.int 1) ∧ cs = ds) ∨ (v = some (.int 0) ∧ ¬ cs = ds)) ∧ L = [] ∧ B.U.heap = h) ∧ B.locs = P.locs ++ L ∧ B.cells = P.cells + 0 ∧ B.slots = P.slots + 0) := by
  obtain ⟨t, kb, cd, N2, vs, h1, h2, h3, h4, h5, h6, h7, h8, h9⟩ := A
  obtain ⟨t', kb', cd', N2', vs', g1, g2, g3, g4, g5, g6, g7, g8, g9⟩ := B
  exact eqW hZ hw wi h3 h4 h5 h6 h7 h8 h9 g3 g4 g5 g6 g7 g8 g9 S hz hfr hlo
end OwnStr
theorem own_cloneV {p : Program} {l : Launch} {e : Env} {R : Room} {s : State} {m : MethodId} {args : Array Value} {below : List Frame} {meth : Method} {c : Code} {T : State} {locs : List Loc} {cells slots : Nat} {Z : State} {a0 : Array Value} {h : Heap}
    (X : Stand p l e R s m args below meth c T locs cells slots) (hx : p.tables.exec = Jvm.exec) (hZ : Z.Warmed39 s.vm) {own ad : String} {index : Nat} (hown : s.vm.findClass own = some m.cls)
    (w1 : (Jvm.Cond.methodLink own index ⟨ad, "clone", "()Ljava/lang/Object;"⟩).before a0 Z = true) (w2 : (Jvm.Cond.sameMethod ad "java/lang/Object" "clone" "()Ljava/lang/Object;").before a0 Z = true) (w3 : (Jvm.Cond.native ⟨"java/lang/Object", "clone", "()Ljava/lang/Object;"⟩).before a0 Z = true)
    (w4 : (Jvm.Cond.instanceMethod ⟨"java/lang/Object", "clone", "()Ljava/lang/Object;"⟩).before a0 Z = true) (w5 : (Jvm.Cond.selects ad ⟨ad, "clone", "()Ljava/lang/Object;"⟩ ⟨"java/lang/Object", "clone", "()Ljava/lang/Object;"⟩).before a0 Z = true) (w6 : (Jvm.Cond.castable ad "java/lang/Cloneable").before a0 Z = true)
    (eT : T.heap = h) {a : Addr} {k : ClassId} {ty : FieldType} {z : Int32} {vs : List Value} {dv : Value} (F : Arv Z h a k ty z vs dv) (E : Exa Z h a ad) {g : JFrame} (hg : g.method = m) (hsize : g.locals.size = c.maxLocals) {rest : List Value} (hst : g.stack = .ref a :: rest) (hd : decode c.code g.pc = .ok (.invokevirtual index, 3))
    (hf : 1 ≤ R.frames) {W cap : Nat} (hW : 2 * g.monitorRoom + (rest.map fun v => v.category).sum ≤ W) (hl : W + 14 ≤ R.locals) (hcap : z.toNatClampNeg ≤ cap) (hc : cells + 1 ≤ R.cells) (hsl : slots + cap ≤ R.slots) :
    ∃ T' h', Stand p l e R s m args below meth c T' locs (cells + 1) (slots + cap) ∧ T'.heap = h' ∧ Ext h h' ∧ Arv Z h' h.size k ty z vs dv ∧ Exa Z h' h.size ad ∧
      ∀ target, Steps p.tables e below (T'.setTop { g with pc := g.pc + 3, stack := .ref h.size :: rest }) target → Steps p.tables e below (T.setTop g) target := by
  obtain ⟨cl, A, q1, S, q3, H, G⟩ := F
  have FC : FitC Z cl := fitC_of A fun i hi v hv => by rw [H i hi] at hv; cases hv; exact G i hi
  obtain ⟨T', h', X', e', ex, A', E', st⟩ := cloneA X hx hZ hown w1 w2 w3 w4 w5 w6 eT A E FC hg hsize hst hd hf hW hl (by rw [S]; exact hcap) hc hsl
  exact ⟨T', h', X', e', ex, ⟨cloneOf cl, A', q1, S, q3, H, G⟩, E', st⟩
section OwnCold
open StrChars StrChars.Road
variable {p : Program} {l : Launch} {e : Env} {R : Room} {s : State} {m : MethodId} {args : Array Value} {below : List Frame} {meth : Method} {c : Code} {T : State} {locs : List Loc} {cells slots : Nat} {Z : State} {a0 : Array Value} {h : Heap}
theorem OStr.top {x : Addr} {cs : List Int32} {k : Nat} (S : OStr Z h x cs k) : OStr Z h x cs h.size := by
  obtain ⟨t, kb, cd, N2, vs, h1, h2, h3, h4, h5, h6, r⟩ := S
  exact ⟨t, kb, cd, N2, vs, h3.lt, h6.lt, h3, h4, h5, h6, r⟩
/-- a String stays where an object of another class is written -/
theorem OStr.keepE {h' : Heap} {x : Addr} {cs : List Int32} {k kI : Nat} {b : Addr} {C : String} (S : OStr Z h x cs k) (K : Keep h h' [b]) (E : Exa Z h b C) (hC : C ≠ "java/lang/String") (wi : (Jvm.Cond.instantiable C kI).before a0 Z = true) : OStr Z h' x cs k := by
  obtain ⟨t, kb, cd, N2, vs, h1, h2, h3, h4, h5, h6, r⟩ := S
  have n1 : x ∉ [b] := ninS (ne_exa h3 E (Ne.symm hC)) nin0
  have n2 : t ∉ [b] := by
    obtain ⟨cl, A, -⟩ := h6
    exact ninS (Ne.symm (ne_arr E wi A)) nin0
  exact ⟨t, kb, cd, N2, vs, h1, h2, h3.keep K, h4.keep K n1, h5.keep K n1, h6.keep K n2, r⟩
/-- from S0 the run comes to the method's return, with what Q says there; literals may be booked -/
def OwnEndsW (p : Program) (e : Env) (below : List Frame) (s : State) (Q : Option Value → Vm → Heap → List Loc → Prop) (ck sk : Nat) (S0 : State) : Prop :=
  ∃ s₂ o, Steps p.tables e below S0 s₂ ∧ s₂.status = .running ∧ Ended s₂ below o ∧ ∃ v L, o = .returned v ∧ Q v s₂.vm s₂.heap L ∧ ReturnedEndW s o s₂ L ck sk
theorem OwnEndsW.st {Q : Option Value → Vm → Heap → List Loc → Prop} {ck sk : Nat} {S0 S1 : State} (h : ∀ t, Steps p.tables e below S1 t → Steps p.tables e below S0 t) (k : OwnEndsW p e below s Q ck sk S1) : OwnEndsW p e below s Q ck sk S0 := by
  obtain ⟨s₂, o, h1, h2⟩ := k
  exact ⟨s₂, o, h _ h1, h2⟩
theorem OwnEndsW.go {Q : Option Value → Vm → Heap → List Loc → Prop} {ck sk : Nat} {S0 S1 : State} (h : Steps p.tables e below S0 S1) (k : OwnEndsW p e below s Q ck sk S1) : OwnEndsW p e below s Q ck sk S0 := by
  obtain ⟨s₂, o, h1, h2⟩ := k
  exact ⟨s₂, o, h.trans h1, h2⟩
/-- where the walk stands: over sa, the start with the tables at hand -/
def Shelf (s sa : State) (k0 : Nat) : Prop := sa = s.setVm sa.vm ∧ s.Since sa.vm k0
theorem Shelf.start (s : State) (k0 : Nat) : Shelf s s k0 := ⟨rfl, (State.WarmedH.refl s).since _⟩
theorem Shelf.mono {sa : State} {k0 k1 : Nat} (F : Shelf s sa k0) (h : k0 ≤ k1) : Shelf s sa k1 := ⟨F.1, F.2.1, fun j q a b => ⟨(F.2.2 j q a b).1, Nat.lt_of_lt_of_le (F.2.2 j q a b).2 h⟩⟩
theorem own_leaveW {sa : State} {k0 : Nat} (X : Stand p l e R sa m args below meth c T locs cells slots) (F : Shelf s sa k0) (hk : k0 ≤ T.heap.size) {v : Option Value} (hv : meth.sig.returnType = none → v = none) (hlocks : meth.locks = false) {ck sk : Nat} (hc : cells ≤ ck) (hs : slots ≤ sk) :
    ∃ fs, (∀ (f : JFrame) (acts : List Action), f.method = m → f.locked = none → f.entered = [] → (doReturn e (T.setTop f) acts v).1 = T.setFrames fs) ∧
      (T.setFrames fs).status = .running ∧ Ended (T.setFrames fs) below (.returned v) ∧ ReturnedEndW s (.returned v) (T.setFrames fs) locs ck sk := by
  obtain ⟨e1, hS⟩ := F
  have X' : Stand p l e R (s.setVm sa.vm) m args below meth c T locs cells slots := e1 ▸ X
  obtain ⟨fs, h1, h2, h3, h4, h5, h6, h7⟩ := X'.leaveW hS hk hv hlocks
  exact ⟨fs, h1, h2, h3, h4, h5, h6, h7.mono hc hs⟩
theorem own_retWA {sa : State} {k0 : Nat} (F : Shelf s sa k0) (X : Stand p l e R sa m args below meth c T locs cells slots) (hk : k0 ≤ T.heap.size) (hx : p.tables.exec = Jvm.exec) {pc : Nat} {Ls : Array Slot} {w : Value} {t : FieldType} {rest : List Value} (hret : meth.sig.returnType = some t) (hlocks : meth.locks = false) (ht : t.isReference = true) (hw : w.isRef = true) (hd : decode c.code pc = .ok (.areturn, 1))
    {Q : Option Value → Vm → Heap → List Loc → Prop} {ck sk : Nat} (hQ : Q (some w) T.vm T.heap locs) (hc : cells ≤ ck) (hs : slots ≤ sk) : OwnEndsW p e below s Q ck sk (T.setTop (mkF m pc Ls (w :: rest))) := by
  obtain ⟨fs, hr, hrun, hended, hW⟩ := own_leaveW X F hk (v := some w) (fun h => by rw [hret] at h; cases h) hlocks hc hs
  exact ⟨_, _, retOut X hx hret (by cases t <;> first | rfl | cases ht) (Or.inr (Or.inr (Or.inr (Or.inr ⟨rfl, ht, hw⟩)))) hd hr, hrun, hended, _, _, rfl, hQ, hW⟩
theorem own_retWN {sa : State} {k0 : Nat} (F : Shelf s sa k0) (X : Stand p l e R sa m args below meth c T locs cells slots) (hk : k0 ≤ T.heap.size) (hx : p.tables.exec = Jvm.exec) {pc : Nat} {Ls : Array Slot} {z : Int32} {t : FieldType} {rest : List Value} (hret : meth.sig.returnType = some t) (hlocks : meth.locks = false) (ht : t = .boolean ∨ t = .byte ∨ t = .char ∨ t = .short) (hd : decode c.code pc = .ok (.ireturn, 1))
    {Q : Option Value → Vm → Heap → List Loc → Prop} {ck sk : Nat} (hQ : Q (some (.int (nar t z))) T.vm T.heap locs) (hc : cells ≤ ck) (hs : slots ≤ sk) : OwnEndsW p e below s Q ck sk (T.setTop (mkF m pc Ls (.int z :: rest))) := by
  obtain ⟨fs, hr, hrun, hended, hW⟩ := own_leaveW X F hk (v := some (.int (nar t z))) (fun h => by rw [hret] at h; cases h) hlocks hc hs
  exact ⟨_, _, retN X hx hret ht hd hr, hrun, hended, _, _, rfl, hQ, hW⟩
theorem own_retWV {sa : State} {k0 : Nat} (F : Shelf s sa k0) (X : Stand p l e R sa m args below meth c T locs cells slots) (hk : k0 ≤ T.heap.size) (hx : p.tables.exec = Jvm.exec) {pc : Nat} {Ls : Array Slot} (hret : meth.sig.returnType = none) (hlocks : meth.locks = false) (hd : decode c.code pc = .ok (.return_, 1))
    {Q : Option Value → Vm → Heap → List Loc → Prop} {ck sk : Nat} (hQ : Q none T.vm T.heap locs) (hc : cells ≤ ck) (hs : slots ≤ sk) : OwnEndsW p e below s Q ck sk (T.setTop (mkF m pc Ls [])) := by
  obtain ⟨fs, hr, hrun, hended, hW⟩ := own_leaveW X F hk (v := none) (fun _ => rfl) hlocks hc hs
  exact ⟨_, _, X.returnOut hx hret hd hr, hrun, hended, _, _, rfl, hQ, hW⟩
/-- a callee that may book literals, by its contract -/
theorem backOfW {y : MethodName} {bytes : ByteArray} {maxL : Nat} {ret : Option FieldType} {rm : Room} {len W : Nat} {as' : Array Value} {P : Vm → Prop} {Q : Option Value → Vm → Heap → List Loc → Prop}
    (hM : MetFree l y (head1 [Jvm.Cond.code y bytes maxL ret] rm) (fun a U => a = as' ∧ Z.Warmed39 U.vm ∧ U.heap = h ∧ P U.vm) (fun _ _ _ _ _ => True) (fun _ U o U' => ∃ v L, o = .returned v ∧ Q v U'.vm U'.heap L ∧ ReturnedEndW U o U' L rm.cells rm.slots))
    (hZ : Z.Warmed39 s.vm) (hP : ∀ vm, s.WarmedH vm → P vm) (wc : (Jvm.Cond.code y bytes maxL ret).before a0 Z = true) (wz : (Jvm.Cond.initialized y.cls).before a0 Z = true) (hf : rm.frames + 1 ≤ R.frames) (hl : W + (maxL + 11) + rm.locals ≤ R.locals) :
    BackS l R p e below s args y len W (fun A a => a = as' ∧ A.U.heap = h ∧ A.cells + rm.cells ≤ R.cells ∧ A.slots + rm.slots ≤ R.slots)
      (fun A _ v B => ∃ L, Q v B.U.vm B.U.heap L ∧ B.locs = A.locs ++ L ∧ B.cells = A.cells + rm.cells ∧ B.slots = A.slots + rm.slots) :=
  BackS.of_freeW (bytes := bytes) (maxL := maxL) (ret := ret) (E := fun _ _ o t L k n => k = rm.cells ∧ n = rm.slots ∧ ∃ v, o = .returned v ∧ Q v t.vm t.heap L) hM hf hl
    (fun m meth c A a Y hp => have hU : Z.Warmed39 A.U.vm := wtrans hZ Y.warmed
      ⟨by show (Jvm.Cond.and _ .tt).before a A.U = true; rw [Cond.before_and, mv hU wc]; rfl, mv hU wc, mv hU wz, hp.2.2.1, hp.2.2.2⟩)
    (fun m meth c A a g mk Y hp => ⟨hp.1, wtrans hZ Y.warmed, hp.2.1, hP _ Y.warmed⟩) (fun _ _ _ _ _ _ _ _ _ => trivial)
    (fun _ _ _ _ ⟨v, L, h1, h2, h3⟩ => ⟨L, _, _, h3, rfl, rfl, v, h1, h2⟩)
    (fun m meth c A a g mk v t L k n Y hp _ _ ⟨e1, e2, v', e3, e4⟩ => by cases e3; subst e1 e2; exact ⟨L, e4, rfl, rfl, rfl⟩)
/-- behind such a call: over which start the walk stands -/
theorem own_reb {sa U : State} {k0 : Nat} {own : String} {L : List Loc} {k n : Nat} (F : Shelf s sa k0) (hk : k0 ≤ T.heap.size) (hZ : Z.Warmed39 sa.vm) (hown : sa.vm.findClass own = some m.cls) (X : Stand p l e R (sa.setVm U.vm) m args below meth c U L k n) (hS : sa.Since U.vm U.heap.size) (hg : T.heap.size ≤ U.heap.size) :
    ∃ sb, sb.vm = U.vm ∧ Stand p l e R sb m args below meth c U L k n ∧ Shelf s sb U.heap.size ∧ Z.Warmed39 sb.vm ∧ sb.vm.findClass own = some m.cls := by
  obtain ⟨e1, h1⟩ := F
  have hS' : (s.setVm sa.vm).Since U.vm U.heap.size := e1 ▸ hS
  refine ⟨s.setVm U.vm, rfl, ?_, ⟨rfl, h1.trans hS' (Nat.le_trans hk hg)⟩, ?_, ?_⟩
  · have : sa.setVm U.vm = s.setVm U.vm := by rw [e1]; rfl
    rw [← this]; exact X
  · exact State.Warmed39.trans (t := sa) hZ hS.1
  · show U.vm.findClass own = _
    rw [hS.1.alike.findClass]; exact hown
/-- what a String that shares the literal's value is -/
theorem own_emS {x : Addr} {k : Nat} (O : OStr Z h x [] k) : ∃ (t : Addr) (kb : ClassId), x < k ∧ t < k ∧ Exa Z h x "java/lang/String" ∧ Fld Z h x "java/lang/String" "value" "[B" (.ref t) ∧ Fld Z h x "java/lang/String" "coder" "B" (.int 0) ∧ Arv Z h t kb .byte 0 [] (.int 0) := by
  obtain ⟨t, kb, cd, N2, vs, h1, h2, h3, h4, h5, h6, h7, -⟩ := O
  rcases h7 with ⟨rfl, rfl, rfl, -⟩ | ⟨-, -, -, c, hc, -⟩
  · exact ⟨t, kb, h1, h2, h3, h4, h5, h6⟩
  · cases hc
end OwnCold
section OwnCold2
open StrChars StrChars.Road
variable {p : Program} {l : Launch} {e : Env} {R : Room} {s : State} {m : MethodId} {args : Array Value} {below : List Frame} {meth : Method} {c : Code} {T : State} {locs : List Loc} {cells slots : Nat} {Z : State} {a0 : Array Value} {h h' : Heap} {vm : Vm} {k : Nat}
/-- the literals of consts_1: what the tables book of them is right, and lies below k -/
def Em (Z : State) (vm : Vm) (h : Heap) (k : Nat) : Prop := ∃ hL : Heap, hL.size ≤ k ∧ CHv Z consts_1 vm hL ∧ ∀ (b : Addr) (cl : Cell), hL[b]? = some cl → h[b]? = some cl
theorem Em.of (C : CHv Z consts_1 vm h) : Em Z vm h h.size := ⟨h, Nat.le_refl _, C, fun _ _ q => q⟩
theorem Em.held (S : Em Z vm h k) : CHv Z consts_1 vm h := by
  obtain ⟨hL, -, C, q⟩ := S
  exact (C.step fun y _ cell r => q y cell r).1
theorem Em.top (S : Em Z vm h k) : Em Z vm h h.size := Em.of S.held
theorem Em.safe (S : Em Z vm h k) {x : Addr} (hx : k ≤ x) : Safe Z consts_1 vm h x := fun B => by
  obtain ⟨hL, hk, C, q⟩ := S
  obtain ⟨cell, r⟩ := ((C.step (h' := h) fun y _ cell r => q y cell r).2 x B).there
  have := (Array.getElem?_eq_some_iff.mp r).1
  omega
theorem Em.ext (S : Em Z vm h k) (E : Ext h h') : Em Z vm h' k := by
  obtain ⟨hL, hk, C, q⟩ := S
  exact ⟨hL, hk, C, fun b cl r => E.2 b cl (q b cl r)⟩
theorem Em.keep {ws : List Addr} (S : Em Z vm h k) (K : Keep h h' ws) (n : ∀ y ∈ ws, k ≤ y) : Em Z vm h' k := by
  obtain ⟨hL, hk, C, q⟩ := S
  exact ⟨hL, hk, C, fun b cl r => K.2.1 b cl (q b cl r) fun z => absurd (Array.getElem?_eq_some_iff.mp r).1 (Nat.not_lt.mpr (Nat.le_trans hk (n b z)))⟩
theorem Em.wr {a : Addr} {sl : Nat} {v : Value} (S : Em Z vm h k) (W : Wr h h' a sl v) (q : k ≤ a) : Em Z vm h' k := S.keep (Keep.of_wr W) (allS q all0)
theorem Em.warm {sa : State} {vm' : Vm} (hEL : EW Z a0 consts_1) (hZ : Z.Warmed39 sa.vm) (S : Em Z sa.vm h k) (hW : sa.WarmedH vm') : Em Z vm' h k := by
  obtain ⟨hL, hk, C, q⟩ := S
  exact ⟨hL, hk, (CHv.later (h' := hL) hZ (hW := (show (Wst Z sa.vm hL).Warmed39 vm' from hW.wide)) hEL ⟨Nat.le_refl _, fun _ _ q => q⟩ (Or.inl hW.interned_eq) C).1, q⟩
/-- ldc of a literal "" of consts_1 -/
theorem own_ldcE {sa : State} {k0 : Nat} {own : String} {index : Nat} (X : Stand p l e R sa m args below meth c T locs cells slots) (hx : p.tables.exec = Jvm.exec) (hZ : Z.Warmed39 sa.vm) (hown : sa.vm.findClass own = some m.cls) (w : (Jvm.Cond.stringLink own index "").before a0 Z = true) (wS : ∀ a ∈ Bundle.stringAtoms, a.before a0 Z = true)
    (eT : T.heap = h) (F : Shelf s sa k0) (hk : k0 ≤ h.size) (hEL : EW Z a0 consts_1) (hmem : (own, index) ∈ consts_1) (I : Em Z sa.vm h k)
    {g : JFrame} (hg : g.method = m) (hd : decode c.code g.pc = .ok (.ldc index, 2)) (hc : cells + 2 ≤ R.cells) (hl' : slots + 4 ≤ R.slots) :
    ∃ (a : Addr) (T' : State) (h' : Heap) (sb : State), Stand p l e R sb m args below meth c T' locs (cells + 2) (slots + 4) ∧ T'.heap = h' ∧ Ext h h' ∧ Shelf s sb h'.size ∧ Z.Warmed39 sb.vm ∧ sb.vm.findClass own = some m.cls ∧ Lit (Z.setVm sb.vm) own index a ∧ OStr Z h' a [] h'.size ∧ CHv Z consts_1 sb.vm h' ∧ (∀ x, k ≤ x → x < h.size → Safe Z consts_1 sb.vm h' x) ∧
      ∀ target, Steps p.tables e below (T'.setTop { g with pc := g.pc + 2, stack := .ref a :: g.stack }) target → Steps p.tables e below (T.setTop g) target := by
  have e1 := F.1
  have X' : Stand p l e R (s.setVm sa.vm) m args below meth c T locs cells slots := e1 ▸ X
  obtain ⟨a, T', h', k1, b, kc, r1, r2, r3, r4, r5, r6, r7, r8, r9, r10, r11, r12, r13, r14, r15, -, r16⟩ := ldcCH X' hx hZ hown w wS eT F.2 hk hEL hmem I.held (vs := []) (z := 0) ⟨by simp, rfl⟩ (by decide) (by decide) hg hd (n := 0) (by simp) (by decide) hc (by simpa using hl')
  exact ⟨a, T', h', s.setVm T'.vm, by simpa using r1, r2, r3, Shelf.mono ⟨rfl, r4⟩ r5, r6, r7, r15, OStr.made r8 r9 r10 (cs := []) (n := 0) r11 rfl rfl (by simp) (by decide), r14.1, fun x h1 h2 => r14.safe h2 (I.safe h1), r16⟩
theorem own_ldcE2 {sa : State} {own : String} {index : Nat} (X : Stand p l e R sa m args below meth c T locs cells slots) (hx : p.tables.exec = Jvm.exec) (hZ : Z.Warmed39 sa.vm) (hown : sa.vm.findClass own = some m.cls) (w : (Jvm.Cond.stringLink own index "").before a0 Z = true) {a : Addr} (L : Lit (Z.setVm sa.vm) own index a)
    {g : JFrame} (hg : g.method = m) (hd : decode c.code g.pc = .ok (.ldc index, 2)) : ∀ target, Steps p.tables e below (T.setTop { g with pc := g.pc + 2, stack := .ref a :: g.stack }) target → Steps p.tables e below (T.setTop g) target :=
  ldcAgain (s := sa) (vm0 := sa.vm) X hx hZ hown w L hg hd
end OwnCold2
theorem own_eqint {args : Array Value} {Z : State} {t : Jvm.Term} {k : Int32} (h : (Jvm.Cond.eq t (Jvm.Term.int k)).value args Z none Z [] = some true) : t.eval args Z none [] Z = some (.int k) := by
  simp only [Cond.value, Term.eval] at h
  cases ht : t.eval args Z none [] Z with
  | none => simp [ht] at h
  | some x => cases x <;> simp [ht] at h ⊢; exact h
theorem own_not0 {args : Array Value} {Z : State} {t : Jvm.Term} {k : Int32} (e : t.eval args Z none [] Z = some (.int k)) (h : (Jvm.Cond.not (Jvm.Cond.eq t (Jvm.Term.int 0))).value args Z none Z [] = some true) : ¬ k = 0 := by
  have h2 := not_v h
  simp only [Cond.value, Term.eval, e] at h2
  intro q
  subst q
  simp at h2
section OwnM3
open StrChars StrChars.Road
def own_last (cs : List Int32) : Nat → Int32
  | 0 => -1
  | j + 1 => if cs.getD j 0 = 58 then Int32.ofNat j else own_last cs j
theorem own_nat {j : Nat} (h : j ≤ 4000) : (Int32.ofNat j).toInt = j := Int32.toInt_ofNat_small (by omega)
theorem own_nn {j : Nat} (h : j ≤ 4000) : ¬ Int32.ofNat j < 0 := Int32.ofNat_not_neg (by omega)
theorem own_clamp {j : Nat} (h : j ≤ 4000) : (Int32.ofNat j).toNatClampNeg = j := by
  show (Int32.ofNat j).toInt.toNat = j
  rw [own_nat h]; rfl
theorem own_pred {j : Nat} (h : j + 1 ≤ 4000) : Int32.ofNat (j + 1) - (1 : Int32) = Int32.ofNat j := by
  apply Int32.toInt_inj.mp
  rw [Int32.toInt_sub, own_nat h, own_nat (by omega)]
  have e : (1 : Int32).toInt = 1 := by decide
  rw [e, Int.bmod_eq_of_le (by omega) (by omega)]; omega
theorem own_dec (x : Int32) : x + (-1 : Int32) = x - (1 : Int32) := by
  apply Int32.toInt_inj.mp
  have e : (1 : Int32).toInt = 1 := by decide
  have e2 : (-1 : Int32).toInt = -1 := by decide
  rw [Int32.toInt_add, Int32.toInt_sub, e, e2]; rfl
theorem own_sub0 (x : Int32) : x - (0 : Int32) = x := by
  apply Int32.toInt_inj.mp
  have e : (0 : Int32).toInt = 0 := by decide
  have h1 := Int32.le_toInt x
  have h2 := Int32.toInt_lt x
  rw [Int32.toInt_sub, e, Int.bmod_eq_of_le (by omega) (by omega)]; omega
theorem own_add0 (x : Int32) : (0 : Int32) + x = x := by
  apply Int32.toInt_inj.mp
  have e : (0 : Int32).toInt = 0 := by decide
  have h1 := Int32.le_toInt x
  have h2 := Int32.toInt_lt x
  rw [Int32.toInt_add, e, Int.bmod_eq_of_le (by omega) (by omega)]; omega
theorem own_shr0 (x : Int32) : x >>> ((0 : Int32) &&& 31) = x := by
  have : ((0 : Int32) &&& 31) = 0 := by decide
  rw [this]; simp
theorem own_lo8 : ∀ n : Fin 256, (Int32.ofNat n.val).toInt8.toInt32 = (58 : Int32).toInt8.toInt32 → n.val = 58 := by decide +kernel
theorem own_is58 {c : Int32} (h : ¬ c < 0 ∧ ¬ (255 : Int32) < c) (q : c.toInt8.toInt32 = (58 : Int32).toInt8.toInt32) : c = 58 := by
  rw [Int32.lt_iff_toInt_lt, Int32.lt_iff_toInt_lt] at h
  have e1 : (255 : Int32).toInt = 255 := by decide
  have e2 : (0 : Int32).toInt = 0 := by decide
  have hc : c = Int32.ofNat c.toInt.toNat := by
    apply Int32.toInt_inj.mp
    rw [own_nat (by omega)]; omega
  have := own_lo8 ⟨c.toInt.toNat, by omega⟩ (by show (Int32.ofNat c.toInt.toNat).toInt8.toInt32 = _; rw [← hc]; exact q)
  rw [hc]; show Int32.ofNat c.toInt.toNat = _
  have t : c.toInt.toNat = 58 := this
  rw [t]; rfl
theorem own_getc {cs : List Int32} {j : Nat} (hj : j < cs.length) : ((cs.map (fun c => c.toInt8.toInt32)).map Value.int).getD j (.int 0) = .int (cs.getD j 0).toInt8.toInt32 := by
  simp [List.getD_eq_getElem?_getD, hj]
theorem own_mem {cs : List Int32} {j : Nat} (hj : j < cs.length) : cs.getD j 0 ∈ cs := by
  have : cs.getD j 0 = cs[j] := by simp [List.getD_eq_getElem?_getD, hj]
  rw [this]; exact List.getElem_mem hj
theorem own_last_lt {cs : List Int32} : ∀ {j : Nat}, j ≤ 4000 → own_last cs j = -1 ∨ ∃ i, i < j ∧ own_last cs j = Int32.ofNat i
  | 0, _ => Or.inl rfl
  | j + 1, h => by
    show (if cs.getD j 0 = 58 then Int32.ofNat j else own_last cs j) = -1 ∨ ∃ i, i < j + 1 ∧ (if cs.getD j 0 = 58 then Int32.ofNat j else own_last cs j) = Int32.ofNat i
    split
    · exact Or.inr ⟨j, by omega, rfl⟩
    · rcases own_last_lt (cs := cs) (j := j) (by omega) with q | ⟨i, q1, q2⟩
      · exact Or.inl q
      · exact Or.inr ⟨i, by omega, q2⟩
/-- what a Latin-1 String is -/
theorem own_lat {Z : State} {h : Heap} {x : Addr} {cs : List Int32} {k : Nat} (O : OStr Z h x cs k) (hp : ∀ c ∈ cs, ¬ c < 0 ∧ ¬ (255 : Int32) < c) : ∃ (t : Addr) (kb : ClassId), Exa Z h x "java/lang/String" ∧ Fld Z h x "java/lang/String" "value" "[B" (.ref t) ∧ Fld Z h x "java/lang/String" "coder" "B" (.int 0) ∧ Arv Z h t kb .byte (Int32.ofNat cs.length) ((cs.map (fun c => c.toInt8.toInt32)).map Value.int) (.int 0) := by
  obtain ⟨t, kb, cd, N2, vs, h1, h2, h3, h4, h5, h6, h7, -⟩ := O
  rcases h7 with ⟨rfl, rfl, rfl, -⟩ | ⟨-, -, -, c, hc, q⟩
  · refine ⟨t, kb, h3, h4, h5, ?_⟩
    rw [List.map_map]; exact h6
  · exact absurd q (hp c hc).2
theorem own_len4 {Z : State} {h : Heap} {x : Addr} {cs : List Int32} {k : Nat} (O : OStr Z h x cs k) : cs.length ≤ 4000 := by
  obtain ⟨t, kb, cd, N2, vs, h1, h2, h3, h4, h5, h6, h7, h8, h9⟩ := O
  exact h9
theorem own_isref {v : Value} (h : v.isRef = true) : v = .null ∨ ∃ x, v = .ref x := ref_cases h
theorem own_take {cs : List Int32} {j : Nat} (hj : j ≤ cs.length) : ((List.range j).map fun i => ((cs.map (fun c => c.toInt8.toInt32)).map Value.int).getD (0 + i) (.int 0)) = ((cs.take j).map (fun c => c.toInt8.toInt32)).map Value.int := by
  apply List.ext_getElem
  · simp; omega
  · intro i h1 h2
    simp at h1
    simp [List.getD_eq_getElem?_getD, (by omega : i < cs.length)]
def own_mkcs (n c0 c1 c2 c3 : Int32) : List Int32 := if ¬ (0 < n) then [] else if n = 1 then [nar .char c0] else if n = 2 then [nar .char c0, nar .char c1] else if n = 3 then [nar .char c0, nar .char c1, nar .char c2] else [nar .char c0, nar .char c1, nar .char c2, nar .char c3]
end OwnM3
section OwnM3b
def own_ch (x : Int32) : Int32 := if (x &&& (1 : Int32)) = (0 : Int32) then nar .char ((((x.toUInt32 >>> ((1 : Int32) &&& 31).toUInt32).toInt32) &&& (255 : Int32)).toUInt32.toUInt16.toUInt32.toInt32) else 58
theorem own_nar255 (y : Int32) : nar .char ((y &&& (255 : Int32)).toUInt32.toUInt16.toUInt32.toInt32) = y &&& 255 := by
  show (((y &&& (255 : Int32)).toUInt32.toUInt16.toUInt32.toInt32)).toUInt32.toUInt16.toUInt32.toInt32 = _
  rw [i2c_mask]; exact i2c_mask y
theorem own_bnd (y : Int32) : ¬ (y &&& 255) < 0 ∧ ¬ (255 : Int32) < (y &&& 255) := by
  have m1 : (y &&& (255 : Int32)).toInt = y.toInt % 2 ^ 8 := Jvm.Kit.i32_mask y 255 (by decide) (by decide)
  rw [Int32.lt_iff_toInt_lt, Int32.lt_iff_toInt_lt, m1]
  have e1 : (255 : Int32).toInt = 255 := by decide
  have e2 : (0 : Int32).toInt = 0 := by decide
  omega
theorem own_chb (x : Int32) : ¬ own_ch x < 0 ∧ ¬ (255 : Int32) < own_ch x := by
  unfold own_ch
  split
  · rw [own_nar255]; exact own_bnd _
  · decide
theorem own_chn (x : Int32) : nar .char (own_ch x) = own_ch x := by
  unfold own_ch
  split
  · rw [own_nar255]
    show ((((x.toUInt32 >>> ((1 : Int32) &&& 31).toUInt32).toInt32) &&& (255 : Int32)).toUInt32.toUInt16.toUInt32.toInt32) = _
    exact i2c_mask _
  · rfl
theorem own_mk0 {n c0 c1 c2 c3 : Int32} (h : ¬ (0 : Int32) < n) : own_mkcs n c0 c1 c2 c3 = [] := if_pos h
theorem own_mk1 {n c0 c1 c2 c3 : Int32} (h : (0 : Int32) < n) (h1 : n = 1) : own_mkcs n c0 c1 c2 c3 = [nar .char c0] := by rw [own_mkcs, if_neg (fun q => q h), if_pos h1]
theorem own_mk2 {n c0 c1 c2 c3 : Int32} (h : (0 : Int32) < n) (h1 : ¬ n = 1) (h2 : n = 2) : own_mkcs n c0 c1 c2 c3 = [nar .char c0, nar .char c1] := by rw [own_mkcs, if_neg (fun q => q h), if_neg h1, if_pos h2]
theorem own_mk3 {n c0 c1 c2 c3 : Int32} (h : (0 : Int32) < n) (h1 : ¬ n = 1) (h2 : ¬ n = 2) (h3 : n = 3) : own_mkcs n c0 c1 c2 c3 = [nar .char c0, nar .char c1, nar .char c2] := by rw [own_mkcs, if_neg (fun q => q h), if_neg h1, if_neg h2, if_pos h3]
theorem own_mk4 {n c0 c1 c2 c3 : Int32} (h : (0 : Int32) < n) (h1 : ¬ n = 1) (h2 : ¬ n = 2) (h3 : ¬ n = 3) : own_mkcs n c0 c1 c2 c3 = [nar .char c0, nar .char c1, nar .char c2, nar .char c3] := by rw [own_mkcs, if_neg (fun q => q h), if_neg h1, if_neg h2, if_neg h3]
theorem own_mkp {n c0 c1 c2 c3 : Int32} (h0 : ¬ c0 < 0 ∧ ¬ (255 : Int32) < c0) (h1 : ¬ c1 < 0 ∧ ¬ (255 : Int32) < c1) (h2 : ¬ c2 < 0 ∧ ¬ (255 : Int32) < c2) (h3 : ¬ c3 < 0 ∧ ¬ (255 : Int32) < c3) (e0 : nar .char c0 = c0) (e1 : nar .char c1 = c1) (e2 : nar .char c2 = c2) (e3 : nar .char c3 = c3) : ∀ c ∈ own_mkcs n c0 c1 c2 c3, ¬ c < 0 ∧ ¬ (255 : Int32) < c := by
  intro c hc
  have hm : c = c0 ∨ c = c1 ∨ c = c2 ∨ c = c3 := by
    unfold own_mkcs at hc
    rw [e0, e1, e2, e3] at hc
    by_cases a : ¬ (0 : Int32) < n
    · rw [if_pos a] at hc; cases hc
    · rw [if_neg a] at hc
      by_cases b : n = 1
      · rw [if_pos b] at hc; simp at hc; exact Or.inl hc
      · rw [if_neg b] at hc
        by_cases d : n = 2
        · rw [if_pos d] at hc; simp at hc; rcases hc with q | q <;> simp [q]
        · rw [if_neg d] at hc
          by_cases f : n = 3
          · rw [if_pos f] at hc; simp at hc; rcases hc with q | q | q <;> simp [q]
          · rw [if_neg f] at hc; simpa using hc
  rcases hm with rfl | rfl | rfl | rfl <;> assumption
def own_n (p : Int32) : Int32 := (p &&& (2147483647 : Int32)) % (5 : Int32)
theorem own_n5 (p : Int32) : own_n p = 0 ∨ own_n p = 1 ∨ own_n p = 2 ∨ own_n p = 3 ∨ own_n p = 4 := by
  unfold own_n
  have m1 : (p &&& (2147483647 : Int32)).toInt = p.toInt % 2 ^ 31 := Jvm.Kit.i32_mask p 2147483647 (by decide) (by decide)
  have r1 : ((p &&& (2147483647 : Int32)) % (5 : Int32)).toInt = (p.toInt % 2 ^ 31) % 5 := by rw [Jvm.Kit.i32_rem_nonneg (by rw [m1]; omega), m1]; rfl
  have h : ((p &&& (2147483647 : Int32)) % (5 : Int32)).toInt = 0 ∨ ((p &&& (2147483647 : Int32)) % (5 : Int32)).toInt = 1 ∨ ((p &&& (2147483647 : Int32)) % (5 : Int32)).toInt = 2 ∨ ((p &&& (2147483647 : Int32)) % (5 : Int32)).toInt = 3 ∨ ((p &&& (2147483647 : Int32)) % (5 : Int32)).toInt = 4 := by omega
  rcases h with h | h | h | h | h
  · exact Or.inl (Int32.toInt_inj.mp (h.trans (by decide)))
  · exact Or.inr (Or.inl (Int32.toInt_inj.mp (h.trans (by decide))))
  · exact Or.inr (Or.inr (Or.inl (Int32.toInt_inj.mp (h.trans (by decide)))))
  · exact Or.inr (Or.inr (Or.inr (Or.inl (Int32.toInt_inj.mp (h.trans (by decide))))))
  · exact Or.inr (Or.inr (Or.inr (Or.inr (Int32.toInt_inj.mp (h.trans (by decide))))))
def own_l1 (n c0 : Int32) : Int32 := if (0 : Int32) < n ∧ c0 = (58 : Int32) then 0 else (-1)
def own_l2 (n c0 c1 : Int32) : Int32 := if (1 : Int32) < n ∧ c1 = (58 : Int32) then 1 else own_l1 n c0
def own_l3 (n c0 c1 c2 : Int32) : Int32 := if (2 : Int32) < n ∧ c2 = (58 : Int32) then 2 else own_l2 n c0 c1
def own_l4 (n c0 c1 c2 c3 : Int32) : Int32 := if (3 : Int32) < n ∧ c3 = (58 : Int32) then 3 else own_l3 n c0 c1 c2
/-- the plain law: what the law reckons is the last index, and what it builds is the part in front -/
theorem own_law3 {n c0 c1 c2 c3 : Int32} (hn : n = 0 ∨ n = 1 ∨ n = 2 ∨ n = 3 ∨ n = 4) (e0 : nar .char c0 = c0) (e1 : nar .char c1 = c1) (e2 : nar .char c2 = c2) (e3 : nar .char c3 = c3) :
    own_last (own_mkcs n c0 c1 c2 c3) (own_mkcs n c0 c1 c2 c3).length = own_l4 n c0 c1 c2 c3 ∧ (own_mkcs n c0 c1 c2 c3).length ≤ 4 ∧
    (∀ i : Nat, i < (own_mkcs n c0 c1 c2 c3).length → own_mkcs (Int32.ofNat i) c0 c1 c2 c3 = (own_mkcs n c0 c1 c2 c3).take i) := by
  have q0 : ¬ (0 : Int32) < (0 : Int32) := by decide
  have q1 : (0 : Int32) < (1 : Int32) := by decide
  have q2 : (0 : Int32) < (2 : Int32) := by decide
  have q3 : (0 : Int32) < (3 : Int32) := by decide
  have m0 : own_mkcs (Int32.ofNat 0) c0 c1 c2 c3 = [] := own_mk0 (by decide)
  have m1 : own_mkcs (Int32.ofNat 1) c0 c1 c2 c3 = [nar .char c0] := own_mk1 (by decide) (by decide)
  have m2 : own_mkcs (Int32.ofNat 2) c0 c1 c2 c3 = [nar .char c0, nar .char c1] := own_mk2 (by decide) (by decide) (by decide)
  have m3 : own_mkcs (Int32.ofNat 3) c0 c1 c2 c3 = [nar .char c0, nar .char c1, nar .char c2] := own_mk3 (by decide) (by decide) (by decide) (by decide)
  rcases hn with rfl | rfl | rfl | rfl | rfl
  · rw [own_mk0 (by decide)]
    refine ⟨?_, by simp, fun i hi => by simp at hi⟩
    simp [own_last, own_l4, own_l3, own_l2, own_l1, (by decide : ¬ (3 : Int32) < 0), (by decide : ¬ (2 : Int32) < 0), (by decide : ¬ (1 : Int32) < 0)]
  · rw [own_mk1 (by decide) rfl, e0]
    refine ⟨?_, by simp, fun i hi => ?_⟩
    · simp [own_last, own_l4, own_l3, own_l2, own_l1, (by decide : ¬ (3 : Int32) < 1), (by decide : ¬ (2 : Int32) < 1), (by decide : ¬ (1 : Int32) < 1), (by decide : (0 : Int32) < 1)]
    · have : i = 0 := by simp at hi; omega
      subst this; rw [m0]; rfl
  · rw [own_mk2 (by decide) (by decide) rfl, e0, e1]
    refine ⟨?_, by simp, fun i hi => ?_⟩
    · simp [own_last, own_l4, own_l3, own_l2, own_l1, (by decide : ¬ (3 : Int32) < 2), (by decide : ¬ (2 : Int32) < 2), (by decide : (1 : Int32) < 2), (by decide : (0 : Int32) < 2)]
    · have : i = 0 ∨ i = 1 := by simp at hi; omega
      rcases this with rfl | rfl
      · rw [m0]; rfl
      · rw [m1, e0]; rfl
  · rw [own_mk3 (by decide) (by decide) (by decide) rfl, e0, e1, e2]
    refine ⟨?_, by simp, fun i hi => ?_⟩
    · simp [own_last, own_l4, own_l3, own_l2, own_l1, (by decide : ¬ (3 : Int32) < 3), (by decide : (2 : Int32) < 3), (by decide : (1 : Int32) < 3), (by decide : (0 : Int32) < 3)]
    · have : i = 0 ∨ i = 1 ∨ i = 2 := by simp at hi; omega
      rcases this with rfl | rfl | rfl
      · rw [m0]; rfl
      · rw [m1, e0]; rfl
      · rw [m2, e0, e1]; rfl
  · rw [own_mk4 (by decide) (by decide) (by decide) (by decide), e0, e1, e2, e3]
    refine ⟨?_, by simp, fun i hi => ?_⟩
    · simp [own_last, own_l4, own_l3, own_l2, own_l1, (by decide : (3 : Int32) < 4), (by decide : (2 : Int32) < 4), (by decide : (1 : Int32) < 4), (by decide : (0 : Int32) < 4)]
    · have : i = 0 ∨ i = 1 ∨ i = 2 ∨ i = 3 := by simp at hi; omega
      rcases this with rfl | rfl | rfl | rfl
      · rw [m0]; rfl
      · rw [m1, e0]; rfl
      · rw [m2, e0, e1]; rfl
      · rw [m3, e0, e1, e2]; rfl
end OwnM3b
theorem own_ofnat_ne {j : Nat} (h : j ≤ 4000) (h0 : ¬ j = 0) : ¬ (Int32.ofNat j) = (0 : Int32) := fun q => by
  have := congrArg Int32.toInt q
  rw [own_nat h] at this
  have e : (0 : Int32).toInt = 0 := by decide
  omega

theorem d1_0 : decode method_2_code 0 = .ok (.iload_n 0, 1) := by decide +kernel
theorem d1_1 : decode method_2_code 1 = .ok (.iconst 1, 1) := by decide +kernel
theorem d1_2 : decode method_2_code 2 = .ok (.iand, 1) := by decide +kernel
theorem d1_3 : decode method_2_code 3 = .ok (.ifCond .eq 6, 3) := by decide +kernel
theorem d1_6 : decode method_2_code 6 = .ok (.bipush 58, 2) := by decide +kernel
theorem d1_8 : decode method_2_code 8 = .ok (.ireturn, 1) := by decide +kernel
theorem d1_9 : decode method_2_code 9 = .ok (.iload_n 0, 1) := by decide +kernel
theorem d1_10 : decode method_2_code 10 = .ok (.iconst 1, 1) := by decide +kernel
theorem d1_11 : decode method_2_code 11 = .ok (.iushr, 1) := by decide +kernel
theorem d1_12 : decode method_2_code 12 = .ok (.sipush 255, 3) := by decide +kernel
theorem d1_15 : decode method_2_code 15 = .ok (.iand, 1) := by decide +kernel
theorem d1_16 : decode method_2_code 16 = .ok (.i2c, 1) := by decide +kernel
theorem d1_17 : decode method_2_code 17 = .ok (.ireturn, 1) := by decide +kernel
theorem ef_1 (m : MethodId) (x0 : Int32) : entryFrame m #[(.int x0)] 1 = mkF m 0 #[.val (.int x0)] [] := by first | (simp [entryFrame, mkF, argsToLocals, Value.category]; done) | rfl
def Q1 (Z : State) (x1 : Int32) (h0 : Heap) (n0 : Nat) (v : Option Value) (h : Heap) (L : List Loc) : Prop := v = some (.int (own_ch x1)) ∧ Fr n0 L ∧ h = h0
set_option maxRecDepth 65536 in
set_option maxHeartbeats 40000000 in
theorem rm1 (l : Launch) (Z : State) (a0 : Array Value) (hw : ∀ d ∈ tables_1, d.before a0 Z = true) (ws : List Jvm.Cond) (x1 : Int32) (h0 : Heap) (n0 : Nat) (Z0 : n0 ≤ h0.size) :
    MetFree l (⟨"com/example/culpa/culpa/NamesFunctionPinLaw", "ch", "(I)C"⟩ : MethodName) (head1 (Jvm.Cond.code (⟨"com/example/culpa/culpa/NamesFunctionPinLaw", "ch", "(I)C"⟩ : MethodName) method_2_code 1 (some .char) :: ws) ({ frames := 0, cells := 0, slots := 0, locals := 0 } : Room)) (fun ar_ U_ => ar_ = #[(.int x1)] ∧ Z.Warmed39 U_.vm ∧ U_.heap = h0) (fun _ _ _ _ _ => True) (fun _ U_ oc_ Ue_ => ∃ v_ L_, oc_ = .returned v_ ∧ Q1 Z x1 h0 n0 v_ Ue_.heap L_ ∧ FrameEnd U_ oc_ Ue_ L_ ({ frames := 0, cells := 0, slots := 0, locals := 0 } : Room).cells ({ frames := 0, cells := 0, slots := 0, locals := 0 } : Room).slots) := by
  refine MetFree.of_bodySF (plainFor_of_name pn_0) hisR ?_
  intro p e s m args below meth c s₁ Bd hml0 hP hK
  obtain ⟨rfl, hZ, hh⟩ := hP
  have hx := Bd.exec
  have hby := Bd.bytes
  have hml : c.maxLocals = 1 := hml0
  have hown : s.vm.findClass "com/example/culpa/culpa/NamesFunctionPinLaw" = some m.cls := findClass_of_methodNamed Bd.named
  have hnm := (name_of_methodNamed Bd.named Bd.method).1
  have X0 : Stand p l e ({ frames := 0, cells := 0, slots := 0, locals := 0 } : Room) s m #[(.int x1)] below meth c s₁ [] 0 0 := Stand.of_body Bd
  have e0 : s₁.heap = h0 := by rw [← hh, Bd.state]; rfl
  have N0 := Fr.nil n0
  show OwnEnds p e below s (Q1 Z x1 h0 n0) ({ frames := 0, cells := 0, slots := 0, locals := 0 } : Room).cells ({ frames := 0, cells := 0, slots := 0, locals := 0 } : Room).slots (s₁.setTop (entryFrame m #[(.int x1)] 1))
  rw [ef_1]
  show OwnEnds _ _ _ _ _ _ _ (s₁.setTop (mkF m 0 #[.val (.int x1)] []))
  refine OwnEnds.st (fun t_ k_ => XS.iloadN X0.here hx rfl (hb hby d1_0) rfl k_) ?_
  show OwnEnds _ _ _ _ _ _ _ (s₁.setTop (mkF m 1 #[.val (.int x1)] [(.int x1)]))
  refine OwnEnds.st (fun t_ k_ => XS.iconst X0.here hx rfl (hb hby d1_1) k_) ?_
  show OwnEnds _ _ _ _ _ _ _ (s₁.setTop (mkF m 2 #[.val (.int x1)] [(.int (1 : Int32)), (.int x1)]))
  refine OwnEnds.st (fun t_ k_ => XS.iand X0.here hx rfl (hb hby d1_2) rfl k_) ?_
  show OwnEnds _ _ _ _ _ _ _ (s₁.setTop (mkF m 3 #[.val (.int x1)] [(.int (x1 &&& (1 : Int32)))]))
  by_cases hb1 : (x1 &&& (1 : Int32)) = (0 : Int32)
  · refine OwnEnds.st (fun t_ k_ => XS.ifYes X0.here hx rfl (pc0 := 3) (pc' := 9) rfl (hb hby d1_3) rfl ((if0 _ _).trans (teq (hb1 : (x1 &&& (1 : Int32)) = (0 : Int32))).1) (by decide) (by decide) k_) ?_
    show OwnEnds _ _ _ _ _ _ _ (s₁.setTop (mkF m 9 #[.val (.int x1)] []))
    refine OwnEnds.st (fun t_ k_ => XS.iloadN X0.here hx rfl (hb hby d1_9) rfl k_) ?_
    show OwnEnds _ _ _ _ _ _ _ (s₁.setTop (mkF m 10 #[.val (.int x1)] [(.int x1)]))
    refine OwnEnds.st (fun t_ k_ => XS.iconst X0.here hx rfl (hb hby d1_10) k_) ?_
    show OwnEnds _ _ _ _ _ _ _ (s₁.setTop (mkF m 11 #[.val (.int x1)] [(.int (1 : Int32)), (.int x1)]))
    refine OwnEnds.st (fun t_ k_ => XS.iushr X0.here hx rfl (hb hby d1_11) rfl k_) ?_
    show OwnEnds _ _ _ _ _ _ _ (s₁.setTop (mkF m 12 #[.val (.int x1)] [(.int ((x1.toUInt32 >>> ((1 : Int32) &&& 31).toUInt32).toInt32))]))
    refine OwnEnds.st (fun t_ k_ => XS.sipush X0.here hx rfl (hb hby d1_12) k_) ?_
    show OwnEnds _ _ _ _ _ _ _ (s₁.setTop (mkF m 15 #[.val (.int x1)] [(.int (255 : Int32)), (.int ((x1.toUInt32 >>> ((1 : Int32) &&& 31).toUInt32).toInt32))]))
    refine OwnEnds.st (fun t_ k_ => XS.iand X0.here hx rfl (hb hby d1_15) rfl k_) ?_
    show OwnEnds _ _ _ _ _ _ _ (s₁.setTop (mkF m 16 #[.val (.int x1)] [(.int (((x1.toUInt32 >>> ((1 : Int32) &&& 31).toUInt32).toInt32) &&& (255 : Int32)))]))
    refine OwnEnds.st (fun t_ k_ => XS.i2c X0.here hx rfl (hb hby d1_16) rfl k_) ?_
    show OwnEnds _ _ _ _ _ _ _ (s₁.setTop (mkF m 17 #[.val (.int x1)] [(.int ((((x1.toUInt32 >>> ((1 : Int32) &&& 31).toUInt32).toInt32) &&& (255 : Int32)).toUInt32.toUInt16.toUInt32.toInt32))]))
    refine own_retN (t := .char) X0 hx Bd.returns Bd.notSynchronized (by simp) (hb hby d1_17) ?_ (by decide) (by decide)
    show Q1 Z x1 h0 n0 _ s₁.heap _
    rw [e0]
    exact ⟨congrArg (fun z => some (Value.int z)) (if_pos hb1).symm, N0, rfl⟩
  · refine OwnEnds.st (fun t_ k_ => XS.ifNo X0.here hx rfl (hb hby d1_3) rfl ((if0 _ _).trans (feq (hb1 : ¬ ((x1 &&& (1 : Int32)) = (0 : Int32)))).1) k_) ?_
    show OwnEnds _ _ _ _ _ _ _ (s₁.setTop (mkF m 6 #[.val (.int x1)] []))
    refine OwnEnds.st (fun t_ k_ => XS.bipush X0.here hx rfl (hb hby d1_6) k_) ?_
    show OwnEnds _ _ _ _ _ _ _ (s₁.setTop (mkF m 8 #[.val (.int x1)] [(.int (58 : Int32))]))
    refine own_retN (t := .char) X0 hx Bd.returns Bd.notSynchronized (by simp) (hb hby d1_8) ?_ (by decide) (by decide)
    show Q1 Z x1 h0 n0 _ s₁.heap _
    rw [e0]
    exact ⟨congrArg (fun z => some (Value.int z)) (if_neg hb1).symm, N0, rfl⟩
theorem d4_0 : decode jdk_42_method_149_code 0 = .ok (.aload_n 0, 1) := by decide +kernel
theorem d4_1 : decode jdk_42_method_149_code 1 = .ok (.invokespecial 1, 3) := by decide +kernel
theorem d4_4 : decode jdk_42_method_149_code 4 = .ok (.iload_n 3, 1) := by decide +kernel
theorem d4_5 : decode jdk_42_method_149_code 5 = .ok (.ifCond .ne 22, 3) := by decide +kernel
theorem d4_8 : decode jdk_42_method_149_code 8 = .ok (.aload_n 0, 1) := by decide +kernel
theorem d4_9 : decode jdk_42_method_149_code 9 = .ok (.ldc 7, 2) := by decide +kernel
theorem d4_11 : decode jdk_42_method_149_code 11 = .ok (.getfield 9, 3) := by decide +kernel
theorem d4_14 : decode jdk_42_method_149_code 14 = .ok (.putfield 9, 3) := by decide +kernel
theorem d4_17 : decode jdk_42_method_149_code 17 = .ok (.aload_n 0, 1) := by decide +kernel
theorem d4_18 : decode jdk_42_method_149_code 18 = .ok (.ldc 7, 2) := by decide +kernel
theorem d4_20 : decode jdk_42_method_149_code 20 = .ok (.getfield 15, 3) := by decide +kernel
theorem d4_23 : decode jdk_42_method_149_code 23 = .ok (.putfield 15, 3) := by decide +kernel
theorem d4_26 : decode jdk_42_method_149_code 26 = .ok (.return_, 1) := by decide +kernel
theorem ef_4 (m : MethodId) (x0 : Addr) (x1 : Addr) (x2 : Int32) (x3 : Int32) : entryFrame m #[(.ref x0), (.ref x1), (.int x2), (.int x3), .null] 6 = mkF m 0 #[.val (.ref x0), .val (.ref x1), .val (.int x2), .val (.int x3), .val .null, .unset] [] := by first | (simp [entryFrame, mkF, argsToLocals, Value.category]; done) | rfl
def Q4 (Z : State) (b1 : Addr) (y1 : Addr) (kE : Nat) (h0 : Heap) (n0 : Nat) (v : Option Value) (vm : Vm) (h : Heap) (L : List Loc) : Prop := v = none ∧ Fr n0 L ∧ Keep h0 h [b1] ∧ OStr Z h b1 [] h.size ∧ Em Z vm h h.size
set_option maxRecDepth 65536 in
set_option maxHeartbeats 40000000 in
theorem rm4 (l : Launch) (Z : State) (a0 : Array Value) (hw : ∀ d ∈ tables_1, d.before a0 Z = true) (ws : List Jvm.Cond) (b1 : Addr) (y1 : Addr) (kE : Nat) (h0 : Heap) (n0 : Nat) (Z0 : n0 ≤ h0.size) (gb1 : n0 ≤ b1) (gk1 : kE ≤ b1) (Exb : Exa Z h0 b1 "java/lang/String") (Fvb : Fld Z h0 b1 "java/lang/String" "value" "[B" .null) (Fcb : Fld Z h0 b1 "java/lang/String" "coder" "B" (.int 0)) (hEL : EW Z a0 consts_1) :
    MetFree l (⟨"java/lang/String", "<init>", "([CIILjava/lang/Void;)V"⟩ : MethodName) (head1 (Jvm.Cond.code (⟨"java/lang/String", "<init>", "([CIILjava/lang/Void;)V"⟩ : MethodName) jdk_42_method_149_code 6 none :: ws) ({ frames := 1, cells := 2, slots := 4, locals := 12 } : Room)) (fun ar_ U_ => ar_ = #[(.ref b1), (.ref y1), (.int (0 : Int32)), (.int (0 : Int32)), .null] ∧ Z.Warmed39 U_.vm ∧ U_.heap = h0 ∧ Em Z U_.vm h0 kE) (fun _ _ _ _ _ => True) (fun _ U_ oc_ Ue_ => ∃ v_ L_, oc_ = .returned v_ ∧ Q4 Z b1 y1 kE h0 n0 v_ Ue_.vm Ue_.heap L_ ∧ ReturnedEndW U_ oc_ Ue_ L_ ({ frames := 1, cells := 2, slots := 4, locals := 12 } : Room).cells ({ frames := 1, cells := 2, slots := 4, locals := 12 } : Room).slots) := by
  refine MetFree.of_bodySF (plainFor_of_name pn_1) hisR ?_
  intro p e s m args below meth c s₁ Bd hml0 hP hK
  obtain ⟨rfl, hZ, hh, I0⟩ := hP
  have hx := Bd.exec
  have hby := Bd.bytes
  have hml : c.maxLocals = 6 := hml0
  have hown : s.vm.findClass "java/lang/String" = some m.cls := findClass_of_methodNamed Bd.named
  have hnm := (name_of_methodNamed Bd.named Bd.method).1
  have X0 : Stand p l e ({ frames := 1, cells := 2, slots := 4, locals := 12 } : Room) s m #[(.ref b1), (.ref y1), (.int (0 : Int32)), (.int (0 : Int32)), .null] below meth c s₁ [] 0 0 := Stand.of_body Bd
  have e0 : s₁.heap = h0 := by rw [← hh, Bd.state]; rfl
  have N0 := Fr.nil n0
  have F0 : Shelf s s h0.size := Shelf.start s _
  show OwnEndsW p e below s (Q4 Z b1 y1 kE h0 n0) ({ frames := 1, cells := 2, slots := 4, locals := 12 } : Room).cells ({ frames := 1, cells := 2, slots := 4, locals := 12 } : Room).slots (s₁.setTop (entryFrame m #[(.ref b1), (.ref y1), (.int (0 : Int32)), (.int (0 : Int32)), .null] 6))
  rw [ef_4]
  show OwnEndsW _ _ _ _ _ _ _ (s₁.setTop (mkF m 0 #[.val (.ref b1), .val (.ref y1), .val (.int (0 : Int32)), .val (.int (0 : Int32)), .val .null, .unset] []))
  have hSt : ∀ a ∈ Bundle.stringAtoms, a.before a0 Z = true := fun d hd => hw d ((by decide +kernel : ∀ d ∈ Bundle.stringAtoms, d ∈ tables_1) d hd)
  refine OwnEndsW.st (fun t_ k_ => XS.aloadN X0.here hx rfl (hb hby d4_0) rfl rfl k_) ?_
  show OwnEndsW _ _ _ _ _ _ _ (s₁.setTop (mkF m 1 #[.val (.ref b1), .val (.ref y1), .val (.int (0 : Int32)), .val (.int (0 : Int32)), .val .null, .unset] [(.ref b1)]))
  obtain ⟨T1, X1, e1, st1⟩ := initO X0 hx hZ hown (hw _ (List.mem_of_getElem? (i := 19) rfl)) (hw _ (List.mem_of_getElem? (i := 20) rfl)) (hw _ (List.mem_of_getElem? (i := 21) rfl)) e0 (g := (mkF m 1 #[.val (.ref b1), .val (.ref y1), .val (.int (0 : Int32)), .val (.int (0 : Int32)), .val .null, .unset] [(.ref b1)])) rfl (by rw [hml]; rfl) rfl (hb hby d4_1) (by decide) (W := 0) (by show 2 * 0 + _ ≤ _; exact Nat.le_of_eq rfl) (by decide)
  refine OwnEndsW.st st1 ?_
  show OwnEndsW _ _ _ _ _ _ _ (T1.setTop (mkF m 4 #[.val (.ref b1), .val (.ref y1), .val (.int (0 : Int32)), .val (.int (0 : Int32)), .val .null, .unset] []))
  refine OwnEndsW.st (fun t_ k_ => XS.iloadN X1.here hx rfl (hb hby d4_4) rfl k_) ?_
  show OwnEndsW _ _ _ _ _ _ _ (T1.setTop (mkF m 5 #[.val (.ref b1), .val (.ref y1), .val (.int (0 : Int32)), .val (.int (0 : Int32)), .val .null, .unset] [(.int (0 : Int32))]))
  refine OwnEndsW.st (fun t_ k_ => XS.ifNo X1.here hx rfl (hb hby d4_5) rfl ((if0 _ _).trans (teq ((by decide) : (0 : Int32) = (0 : Int32))).2) k_) ?_
  show OwnEndsW _ _ _ _ _ _ _ (T1.setTop (mkF m 8 #[.val (.ref b1), .val (.ref y1), .val (.int (0 : Int32)), .val (.int (0 : Int32)), .val .null, .unset] []))
  refine OwnEndsW.st (fun t_ k_ => XS.aloadN X1.here hx rfl (hb hby d4_8) rfl rfl k_) ?_
  show OwnEndsW _ _ _ _ _ _ _ (T1.setTop (mkF m 9 #[.val (.ref b1), .val (.ref y1), .val (.int (0 : Int32)), .val (.int (0 : Int32)), .val .null, .unset] [(.ref b1)]))
  obtain ⟨a2, T2, h2, sb2, X2, e2, E2, F2, hZ, hown, Lt2, Ol2, CH2, Sf2, st2⟩ := own_ldcE X1 hx hZ hown (hw _ (List.mem_of_getElem? (i := 22) rfl)) hSt e1 F0 (Nat.le_refl _) hEL (by decide) I0 (g := (mkF m 9 #[.val (.ref b1), .val (.ref y1), .val (.int (0 : Int32)), .val (.int (0 : Int32)), .val .null, .unset] [(.ref b1)])) rfl (hb hby d4_9) (by decide) (by decide)
  have Ic2 := Em.of CH2
  refine OwnEndsW.st st2 ?_
  show OwnEndsW _ _ _ _ _ _ _ (T2.setTop (mkF m 11 #[.val (.ref b1), .val (.ref y1), .val (.int (0 : Int32)), .val (.int (0 : Int32)), .val .null, .unset] [(.ref a2), (.ref b1)]))
  obtain ⟨t2, kt2, alt2, tlt2, Exl2, Fvl2, Fcl2, Avl2⟩ := own_emS Ol2
  have neab2 : a2 ≠ b1 := Fld.ne Fvl2 (Fld.ext E2 Fvb) (by simp)
  have netb2 : t2 ≠ b1 := Ne.symm (Exa.neArv (Exa.ext E2 Exb) Avl2 (hw _ (List.mem_of_getElem? (i := 9) rfl)))
  have Sb2 := Sf2 b1 gk1 Exb.lt
  obtain ⟨T3, X3, e3, st3⟩ := getF X2 hx hZ hown (host := "") (Or.inl (hw _ (List.mem_of_getElem? (i := 28) rfl))) Via.refl e2 Fvl2 (g := (mkF m 11 #[.val (.ref b1), .val (.ref y1), .val (.int (0 : Int32)), .val (.int (0 : Int32)), .val .null, .unset] [(.ref a2), (.ref b1)])) rfl rfl (hb hby d4_11)
  refine OwnEndsW.st st3 ?_
  show OwnEndsW _ _ _ _ _ _ _ (T3.setTop (mkF m 14 #[.val (.ref b1), .val (.ref y1), .val (.int (0 : Int32)), .val (.int (0 : Int32)), .val .null, .unset] [(.ref t2), (.ref b1)]))
  obtain ⟨T4, h4, X4, e4, W4, st4⟩ := putF X3 hx hZ hown (host := "") (Or.inl (hw _ (List.mem_of_getElem? (i := 28) rfl))) Via.refl e3 (Fvb.ext E2) (Exb.ext E2) (Or.inr ⟨(hw _ (List.mem_of_getElem? (i := 24) rfl)), rfl, hnm⟩) (hw _ (List.mem_of_getElem? (i := 9) rfl)) (ty := (.array .byte)) (by decide) rfl rfl (g := (mkF m 14 #[.val (.ref b1), .val (.ref y1), .val (.int (0 : Int32)), .val (.int (0 : Int32)), .val .null, .unset] [(.ref t2), (.ref b1)])) rfl rfl (hb hby d4_14)
  have N4 := Fr.snoc X4 N0 gb1
  refine OwnEndsW.st st4 ?_
  show OwnEndsW _ _ _ _ _ _ _ (T4.setTop (mkF m 17 #[.val (.ref b1), .val (.ref y1), .val (.int (0 : Int32)), .val (.int (0 : Int32)), .val .null, .unset] []))
  have Fn4 := Fld.same W4 (Fvb.ext E2)
  have CHw4 := CHv.wr W4 Sb2 CH2
  have Sbw4 := Safe.wr W4 Sb2 CH2 Sb2
  refine OwnEndsW.st (fun t_ k_ => XS.aloadN X4.here hx rfl (hb hby d4_17) rfl rfl k_) ?_
  show OwnEndsW _ _ _ _ _ _ _ (T4.setTop (mkF m 18 #[.val (.ref b1), .val (.ref y1), .val (.int (0 : Int32)), .val (.int (0 : Int32)), .val .null, .unset] [(.ref b1)]))
  refine OwnEndsW.st (fun t_ k_ => own_ldcE2 X4 hx hZ hown (hw _ (List.mem_of_getElem? (i := 22) rfl)) Lt2 (g := (mkF m 18 #[.val (.ref b1), .val (.ref y1), .val (.int (0 : Int32)), .val (.int (0 : Int32)), .val .null, .unset] [(.ref b1)])) rfl (hb hby d4_18) t_ k_) ?_
  show OwnEndsW _ _ _ _ _ _ _ (T4.setTop (mkF m 20 #[.val (.ref b1), .val (.ref y1), .val (.int (0 : Int32)), .val (.int (0 : Int32)), .val .null, .unset] [(.ref a2), (.ref b1)]))
  obtain ⟨T5, X5, e5, st5⟩ := getF X4 hx hZ hown (host := "") (Or.inl (hw _ (List.mem_of_getElem? (i := 29) rfl))) Via.refl e4 (Fcl2.other W4 (Or.inl neab2)) (g := (mkF m 20 #[.val (.ref b1), .val (.ref y1), .val (.int (0 : Int32)), .val (.int (0 : Int32)), .val .null, .unset] [(.ref a2), (.ref b1)])) rfl rfl (hb hby d4_20)
  refine OwnEndsW.st st5 ?_
  show OwnEndsW _ _ _ _ _ _ _ (T5.setTop (mkF m 23 #[.val (.ref b1), .val (.ref y1), .val (.int (0 : Int32)), .val (.int (0 : Int32)), .val .null, .unset] [(.int (0 : Int32)), (.ref b1)]))
  obtain ⟨T6, h6, X6, e6, W6, st6⟩ := putF X5 hx hZ hown (host := "") (Or.inl (hw _ (List.mem_of_getElem? (i := 29) rfl))) Via.refl e5 ((Fcb.ext E2).other W4 (Or.inr (slot_ne (Or.inr (hw _ (List.mem_of_getElem? (i := 25) rfl))) (Or.inr (hw _ (List.mem_of_getElem? (i := 24) rfl))) (by decide) (t := .byte) (t' := (.array .byte)) (by decide) (by decide)))) ((Exb.ext E2).wr W4) (Or.inr ⟨(hw _ (List.mem_of_getElem? (i := 25) rfl)), rfl, hnm⟩) (hw _ (List.mem_of_getElem? (i := 9) rfl)) (ty := .byte) (by decide) rfl rfl (g := (mkF m 23 #[.val (.ref b1), .val (.ref y1), .val (.int (0 : Int32)), .val (.int (0 : Int32)), .val .null, .unset] [(.int (0 : Int32)), (.ref b1)])) rfl rfl (hb hby d4_23)
  have N6 := Fr.snoc X6 N4 gb1
  refine OwnEndsW.st st6 ?_
  show OwnEndsW _ _ _ _ _ _ _ (T6.setTop (mkF m 26 #[.val (.ref b1), .val (.ref y1), .val (.int (0 : Int32)), .val (.int (0 : Int32)), .val .null, .unset] []))
  have Fn6 := Fld.same W6 ((Fcb.ext E2).other W4 (Or.inr (slot_ne (Or.inr (hw _ (List.mem_of_getElem? (i := 25) rfl))) (Or.inr (hw _ (List.mem_of_getElem? (i := 24) rfl))) (by decide) (t := .byte) (t' := (.array .byte)) (by decide) (by decide))))
  have CHw6 := CHv.wr W6 Sbw4 CHw4
  have Sbw6 := Safe.wr W6 Sbw4 CHw4 Sbw4
  have Obq : OStr Z h6 b1 [] h6.size := OStr.made (cs := []) (n := 0) (((Exb.ext E2).wr W4).wr W6) Fn6 (Fn4.other W6 (Or.inr (slot_ne (Or.inr (hw _ (List.mem_of_getElem? (i := 24) rfl))) (Or.inr (hw _ (List.mem_of_getElem? (i := 25) rfl))) (by decide) (t := (.array .byte)) (t' := .byte) (by decide) (by decide)))) ((Avl2.other W4 netb2).other W6 netb2) rfl rfl (by simp) (by decide)
  refine own_retWV F2 X6 (by rw [e6]; exact (Nat.le_trans (Nat.le_trans (Nat.le_refl _) (Keep.of_wr W4).1) (Keep.of_wr W6).1)) hx Bd.returns Bd.notSynchronized (hb hby d4_26) ?_ (by decide) (by decide)
  show Q4 Z b1 y1 kE h0 n0 _ T6.vm T6.heap _
  rw [e6]
  exact ⟨rfl, N6, ((((Keep.refl h0 [b1]).ext E2).wr W4 (Or.inl (List.mem_cons_self ..))).wr W6 (Or.inl (List.mem_cons_self ..))), Obq, Em.warm hEL hZ (Em.of CHw6) X6.warmed⟩
theorem d3_0 : decode jdk_42_method_3_code 0 = .ok (.aload_n 0, 1) := by decide +kernel
theorem d3_1 : decode jdk_42_method_3_code 1 = .ok (.aload_n 1, 1) := by decide +kernel
theorem d3_2 : decode jdk_42_method_3_code 2 = .ok (.iconst 0, 1) := by decide +kernel
theorem d3_3 : decode jdk_42_method_3_code 3 = .ok (.aload_n 1, 1) := by decide +kernel
theorem d3_4 : decode jdk_42_method_3_code 4 = .ok (.arraylength, 1) := by decide +kernel
theorem d3_5 : decode jdk_42_method_3_code 5 = .ok (.aconst_null, 1) := by decide +kernel
theorem d3_6 : decode jdk_42_method_3_code 6 = .ok (.invokespecial 27, 3) := by decide +kernel
theorem d3_9 : decode jdk_42_method_3_code 9 = .ok (.return_, 1) := by decide +kernel
theorem ef_3 (m : MethodId) (x0 : Addr) (x1 : Addr) : entryFrame m #[(.ref x0), (.ref x1)] 2 = mkF m 0 #[.val (.ref x0), .val (.ref x1)] [] := by first | (simp [entryFrame, mkF, argsToLocals, Value.category]; done) | rfl
def Q3 (Z : State) (b1 : Addr) (y1 : Addr) (kE : Nat) (ky : ClassId) (h0 : Heap) (n0 : Nat) (v : Option Value) (vm : Vm) (h : Heap) (L : List Loc) : Prop := v = none ∧ Fr n0 L ∧ Keep h0 h [b1] ∧ OStr Z h b1 [] h.size ∧ Em Z vm h h.size
set_option maxRecDepth 65536 in
set_option maxHeartbeats 40000000 in
theorem rm3 (l : Launch) (Z : State) (a0 : Array Value) (hw : ∀ d ∈ tables_1, d.before a0 Z = true) (ws : List Jvm.Cond) (b1 : Addr) (y1 : Addr) (kE : Nat) (ky : ClassId) (h0 : Heap) (n0 : Nat) (Z0 : n0 ≤ h0.size) (gb1 : n0 ≤ b1) (gk1 : kE ≤ b1) (Exb : Exa Z h0 b1 "java/lang/String") (Fvb : Fld Z h0 b1 "java/lang/String" "value" "[B" .null) (Fcb : Fld Z h0 b1 "java/lang/String" "coder" "B" (.int 0)) (Aa : Arv Z h0 y1 ky .char 0 [] (.int 0)) (hEL : EW Z a0 consts_1) :
    MetFree l (⟨"java/lang/String", "<init>", "([C)V"⟩ : MethodName) (head1 (Jvm.Cond.code (⟨"java/lang/String", "<init>", "([C)V"⟩ : MethodName) jdk_42_method_3_code 2 none :: ws) ({ frames := 2, cells := 2, slots := 4, locals := 29 } : Room)) (fun ar_ U_ => ar_ = #[(.ref b1), (.ref y1)] ∧ Z.Warmed39 U_.vm ∧ U_.heap = h0 ∧ Em Z U_.vm h0 kE) (fun _ _ _ _ _ => True) (fun _ U_ oc_ Ue_ => ∃ v_ L_, oc_ = .returned v_ ∧ Q3 Z b1 y1 kE ky h0 n0 v_ Ue_.vm Ue_.heap L_ ∧ ReturnedEndW U_ oc_ Ue_ L_ ({ frames := 2, cells := 2, slots := 4, locals := 29 } : Room).cells ({ frames := 2, cells := 2, slots := 4, locals := 29 } : Room).slots) := by
  refine MetFree.of_bodySF (plainFor_of_name pn_1) hisR ?_
  intro p e s m args below meth c s₁ Bd hml0 hP hK
  obtain ⟨rfl, hZ, hh, I0⟩ := hP
  have hx := Bd.exec
  have hby := Bd.bytes
  have hml : c.maxLocals = 2 := hml0
  have hown : s.vm.findClass "java/lang/String" = some m.cls := findClass_of_methodNamed Bd.named
  have hnm := (name_of_methodNamed Bd.named Bd.method).1
  have X0 : Stand p l e ({ frames := 2, cells := 2, slots := 4, locals := 29 } : Room) s m #[(.ref b1), (.ref y1)] below meth c s₁ [] 0 0 := Stand.of_body Bd
  have e0 : s₁.heap = h0 := by rw [← hh, Bd.state]; rfl
  have N0 := Fr.nil n0
  have F0 : Shelf s s h0.size := Shelf.start s _
  show OwnEndsW p e below s (Q3 Z b1 y1 kE ky h0 n0) ({ frames := 2, cells := 2, slots := 4, locals := 29 } : Room).cells ({ frames := 2, cells := 2, slots := 4, locals := 29 } : Room).slots (s₁.setTop (entryFrame m #[(.ref b1), (.ref y1)] 2))
  rw [ef_3]
  show OwnEndsW _ _ _ _ _ _ _ (s₁.setTop (mkF m 0 #[.val (.ref b1), .val (.ref y1)] []))
  refine OwnEndsW.st (fun t_ k_ => XS.aloadN X0.here hx rfl (hb hby d3_0) rfl rfl k_) ?_
  show OwnEndsW _ _ _ _ _ _ _ (s₁.setTop (mkF m 1 #[.val (.ref b1), .val (.ref y1)] [(.ref b1)]))
  refine OwnEndsW.st (fun t_ k_ => XS.aloadN X0.here hx rfl (hb hby d3_1) rfl rfl k_) ?_
  show OwnEndsW _ _ _ _ _ _ _ (s₁.setTop (mkF m 2 #[.val (.ref b1), .val (.ref y1)] [(.ref y1), (.ref b1)]))
  refine OwnEndsW.st (fun t_ k_ => XS.iconst X0.here hx rfl (hb hby d3_2) k_) ?_
  show OwnEndsW _ _ _ _ _ _ _ (s₁.setTop (mkF m 3 #[.val (.ref b1), .val (.ref y1)] [(.int (0 : Int32)), (.ref y1), (.ref b1)]))
  refine OwnEndsW.st (fun t_ k_ => XS.aloadN X0.here hx rfl (hb hby d3_3) rfl rfl k_) ?_
  show OwnEndsW _ _ _ _ _ _ _ (s₁.setTop (mkF m 4 #[.val (.ref b1), .val (.ref y1)] [(.ref y1), (.int (0 : Int32)), (.ref y1), (.ref b1)]))
  obtain ⟨cl1, Ar1, -, S1, N1', -, -⟩ := id Aa
  refine OwnEndsW.st (fun t_ k_ => X0.arraylength hx (heq_ e0 Ar1.1) (State.isArrayOf_alike hZ.alike Ar1.2.1) (g := (mkF m 4 #[.val (.ref b1), .val (.ref y1)] [(.ref y1), (.int (0 : Int32)), (.ref y1), (.ref b1)])) rfl rfl (hb hby d3_4) t_ k_) ?_
  rw [len_of S1 N1']
  show OwnEndsW _ _ _ _ _ _ _ (s₁.setTop (mkF m 5 #[.val (.ref b1), .val (.ref y1)] [(.int (0 : Int32)), (.int (0 : Int32)), (.ref y1), (.ref b1)]))
  refine OwnEndsW.st (fun t_ k_ => XS.aconstNull X0.here hx rfl (hb hby d3_5) k_) ?_
  show OwnEndsW _ _ _ _ _ _ _ (s₁.setTop (mkF m 6 #[.val (.ref b1), .val (.ref y1)] [.null, (.int (0 : Int32)), (.int (0 : Int32)), (.ref y1), (.ref b1)]))
  obtain ⟨_, _, ⟨T2, L2, k2, n2⟩, -, X2p, hS2, hg2, ⟨Lc2, hQ2, l2, y2, z2⟩, st2⟩ := X0.specialBackS hx (y := (⟨"java/lang/String", "<init>", "([CIILjava/lang/Void;)V"⟩ : MethodName)) rfl hown (mvT hZ (hw _ (List.mem_of_getElem? (i := 15) rfl))) (mvT hZ (hw _ (List.mem_of_getElem? (i := 16) rfl))) (mvT hZ (hw _ (List.mem_of_getElem? (i := 18) rfl))) (by decide) (backOfW (W := 0) (P := fun vm_ => Em Z vm_ h0 kE) (rm4 l Z a0 hw [] b1 y1 kE h0 n0 Z0 gb1 gk1 Exb Fvb Fcb hEL) hZ (fun vm_ hv_ => Em.warm hEL hZ I0 hv_) (hw _ (List.mem_of_getElem? (i := 18) rfl)) (hw _ (List.mem_of_getElem? (i := 10) rfl)) (by decide) (by decide)) (g := (mkF m 6 #[.val (.ref b1), .val (.ref y1)] [.null, (.int (0 : Int32)), (.int (0 : Int32)), (.ref y1), (.ref b1)])) rfl (by rw [hml]; rfl) (Steps.refl _) (a := b1) (argsL := [(.ref y1), (.int (0 : Int32)), (.int (0 : Int32)), .null]) (rest := []) (lenOf pd_0 rfl) rfl (by show 2 * 0 + _ ≤ _; exact Nat.le_of_eq rfl) (hb hby d3_6) (fun _ _ => ⟨rfl, e0, (by decide : 0 + 2 ≤ _), (by decide : 0 + 4 ≤ _)⟩)
  dsimp only [Pt.U, Pt.locs, Pt.cells, Pt.slots] at X2p hS2 hg2 l2 y2 z2 st2 hQ2
  subst l2 y2 z2
  obtain ⟨rfl, N2q, K2, Ob2, Iq2⟩ := hQ2
  have N2 := Fr.app N0 N2q
  obtain ⟨sb2, ev2, X2, F2, hZ, hown⟩ := own_reb F0 (by rw [e0]; exact (Nat.le_refl _)) hZ hown X2p hS2 hg2
  have I2 : Em Z sb2.vm T2.heap T2.heap.size := by rw [ev2]; exact Iq2
  refine OwnEndsW.go st2 ?_
  show OwnEndsW _ _ _ _ _ _ _ (T2.setTop (mkF m 9 #[.val (.ref b1), .val (.ref y1)] []))
  refine own_retWV F2 X2 (Nat.le_refl _) hx Bd.returns Bd.notSynchronized (hb hby d3_9) ?_ (by decide) (by decide)
  show Q3 Z b1 y1 kE ky h0 n0 _ T2.vm T2.heap _
  exact ⟨rfl, N2, K2, Ob2, (Em.warm hEL hZ I2.top X2.warmed)⟩
theorem d2_0 : decode method_3_code 0 = .ok (.iload_n 0, 1) := by decide +kernel
theorem d2_1 : decode method_3_code 1 = .ok (.ifCond .gt 14, 3) := by decide +kernel
theorem d2_4 : decode method_3_code 4 = .ok (.new 7, 3) := by decide +kernel
theorem d2_7 : decode method_3_code 7 = .ok (.dup, 1) := by decide +kernel
theorem d2_8 : decode method_3_code 8 = .ok (.iconst 0, 1) := by decide +kernel
theorem d2_9 : decode method_3_code 9 = .ok (.newarray .char, 2) := by decide +kernel
theorem d2_11 : decode method_3_code 11 = .ok (.invokespecial 9, 3) := by decide +kernel
theorem d2_14 : decode method_3_code 14 = .ok (.areturn, 1) := by decide +kernel
theorem d2_15 : decode method_3_code 15 = .ok (.iload_n 0, 1) := by decide +kernel
theorem d2_16 : decode method_3_code 16 = .ok (.iconst 1, 1) := by decide +kernel
theorem d2_17 : decode method_3_code 17 = .ok (.if_icmp .ne 18, 3) := by decide +kernel
theorem d2_20 : decode method_3_code 20 = .ok (.new 7, 3) := by decide +kernel
theorem d2_23 : decode method_3_code 23 = .ok (.dup, 1) := by decide +kernel
theorem d2_24 : decode method_3_code 24 = .ok (.iconst 1, 1) := by decide +kernel
theorem d2_25 : decode method_3_code 25 = .ok (.newarray .char, 2) := by decide +kernel
theorem d2_27 : decode method_3_code 27 = .ok (.dup, 1) := by decide +kernel
theorem d2_28 : decode method_3_code 28 = .ok (.iconst 0, 1) := by decide +kernel
theorem d2_29 : decode method_3_code 29 = .ok (.iload_n 1, 1) := by decide +kernel
theorem d2_30 : decode method_3_code 30 = .ok (.castore, 1) := by decide +kernel
theorem d2_31 : decode method_3_code 31 = .ok (.invokespecial 9, 3) := by decide +kernel
theorem d2_34 : decode method_3_code 34 = .ok (.areturn, 1) := by decide +kernel
theorem d2_35 : decode method_3_code 35 = .ok (.iload_n 0, 1) := by decide +kernel
theorem d2_36 : decode method_3_code 36 = .ok (.iconst 2, 1) := by decide +kernel
theorem d2_37 : decode method_3_code 37 = .ok (.if_icmp .ne 22, 3) := by decide +kernel
theorem d2_40 : decode method_3_code 40 = .ok (.new 7, 3) := by decide +kernel
theorem d2_43 : decode method_3_code 43 = .ok (.dup, 1) := by decide +kernel
theorem d2_44 : decode method_3_code 44 = .ok (.iconst 2, 1) := by decide +kernel
theorem d2_45 : decode method_3_code 45 = .ok (.newarray .char, 2) := by decide +kernel
theorem d2_47 : decode method_3_code 47 = .ok (.dup, 1) := by decide +kernel
theorem d2_48 : decode method_3_code 48 = .ok (.iconst 0, 1) := by decide +kernel
theorem d2_49 : decode method_3_code 49 = .ok (.iload_n 1, 1) := by decide +kernel
theorem d2_50 : decode method_3_code 50 = .ok (.castore, 1) := by decide +kernel
theorem d2_51 : decode method_3_code 51 = .ok (.dup, 1) := by decide +kernel
theorem d2_52 : decode method_3_code 52 = .ok (.iconst 1, 1) := by decide +kernel
theorem d2_53 : decode method_3_code 53 = .ok (.iload_n 2, 1) := by decide +kernel
theorem d2_54 : decode method_3_code 54 = .ok (.castore, 1) := by decide +kernel
theorem d2_55 : decode method_3_code 55 = .ok (.invokespecial 9, 3) := by decide +kernel
theorem d2_58 : decode method_3_code 58 = .ok (.areturn, 1) := by decide +kernel
theorem d2_59 : decode method_3_code 59 = .ok (.iload_n 0, 1) := by decide +kernel
theorem d2_60 : decode method_3_code 60 = .ok (.iconst 3, 1) := by decide +kernel
theorem d2_61 : decode method_3_code 61 = .ok (.if_icmp .ne 26, 3) := by decide +kernel
theorem d2_64 : decode method_3_code 64 = .ok (.new 7, 3) := by decide +kernel
theorem d2_67 : decode method_3_code 67 = .ok (.dup, 1) := by decide +kernel
theorem d2_68 : decode method_3_code 68 = .ok (.iconst 3, 1) := by decide +kernel
theorem d2_69 : decode method_3_code 69 = .ok (.newarray .char, 2) := by decide +kernel
theorem d2_71 : decode method_3_code 71 = .ok (.dup, 1) := by decide +kernel
theorem d2_72 : decode method_3_code 72 = .ok (.iconst 0, 1) := by decide +kernel
theorem d2_73 : decode method_3_code 73 = .ok (.iload_n 1, 1) := by decide +kernel
theorem d2_74 : decode method_3_code 74 = .ok (.castore, 1) := by decide +kernel
theorem d2_75 : decode method_3_code 75 = .ok (.dup, 1) := by decide +kernel
theorem d2_76 : decode method_3_code 76 = .ok (.iconst 1, 1) := by decide +kernel
theorem d2_77 : decode method_3_code 77 = .ok (.iload_n 2, 1) := by decide +kernel
theorem d2_78 : decode method_3_code 78 = .ok (.castore, 1) := by decide +kernel
theorem d2_79 : decode method_3_code 79 = .ok (.dup, 1) := by decide +kernel
theorem d2_80 : decode method_3_code 80 = .ok (.iconst 2, 1) := by decide +kernel
theorem d2_81 : decode method_3_code 81 = .ok (.iload_n 3, 1) := by decide +kernel
theorem d2_82 : decode method_3_code 82 = .ok (.castore, 1) := by decide +kernel
theorem d2_83 : decode method_3_code 83 = .ok (.invokespecial 9, 3) := by decide +kernel
theorem d2_86 : decode method_3_code 86 = .ok (.areturn, 1) := by decide +kernel
theorem d2_87 : decode method_3_code 87 = .ok (.new 7, 3) := by decide +kernel
theorem d2_90 : decode method_3_code 90 = .ok (.dup, 1) := by decide +kernel
theorem d2_91 : decode method_3_code 91 = .ok (.iconst 4, 1) := by decide +kernel
theorem d2_92 : decode method_3_code 92 = .ok (.newarray .char, 2) := by decide +kernel
theorem d2_94 : decode method_3_code 94 = .ok (.dup, 1) := by decide +kernel
theorem d2_95 : decode method_3_code 95 = .ok (.iconst 0, 1) := by decide +kernel
theorem d2_96 : decode method_3_code 96 = .ok (.iload_n 1, 1) := by decide +kernel
theorem d2_97 : decode method_3_code 97 = .ok (.castore, 1) := by decide +kernel
theorem d2_98 : decode method_3_code 98 = .ok (.dup, 1) := by decide +kernel
theorem d2_99 : decode method_3_code 99 = .ok (.iconst 1, 1) := by decide +kernel
theorem d2_100 : decode method_3_code 100 = .ok (.iload_n 2, 1) := by decide +kernel
theorem d2_101 : decode method_3_code 101 = .ok (.castore, 1) := by decide +kernel
theorem d2_102 : decode method_3_code 102 = .ok (.dup, 1) := by decide +kernel
theorem d2_103 : decode method_3_code 103 = .ok (.iconst 2, 1) := by decide +kernel
theorem d2_104 : decode method_3_code 104 = .ok (.iload_n 3, 1) := by decide +kernel
theorem d2_105 : decode method_3_code 105 = .ok (.castore, 1) := by decide +kernel
theorem d2_106 : decode method_3_code 106 = .ok (.dup, 1) := by decide +kernel
theorem d2_107 : decode method_3_code 107 = .ok (.iconst 3, 1) := by decide +kernel
theorem d2_108 : decode method_3_code 108 = .ok (.iload 4, 2) := by decide +kernel
theorem d2_110 : decode method_3_code 110 = .ok (.castore, 1) := by decide +kernel
theorem d2_111 : decode method_3_code 111 = .ok (.invokespecial 9, 3) := by decide +kernel
theorem d2_114 : decode method_3_code 114 = .ok (.areturn, 1) := by decide +kernel
theorem ef_2 (m : MethodId) (x0 : Int32) (x1 : Int32) (x2 : Int32) (x3 : Int32) (x4 : Int32) : entryFrame m #[(.int x0), (.int x1), (.int x2), (.int x3), (.int x4)] 5 = mkF m 0 #[.val (.int x0), .val (.int x1), .val (.int x2), .val (.int x3), .val (.int x4)] [] := by first | (simp [entryFrame, mkF, argsToLocals, Value.category]; done) | rfl
def Q2 (Z : State) (n1 : Int32) (c0 : Int32) (c1 : Int32) (c2 : Int32) (c3 : Int32) (cz : Int32) (h0 : Heap) (n0 : Nat) (v : Option Value) (vm : Vm) (h : Heap) (L : List Loc) : Prop := ∃ b, v = some (.ref b) ∧ Fr n0 L ∧ Keep h0 h [] ∧ h0.size ≤ b ∧ OStr Z h b (own_mkcs n1 c0 c1 c2 c3) h.size ∧ Em Z vm h h.size
set_option maxRecDepth 65536 in
set_option maxHeartbeats 40000000 in
theorem rm2 (l : Launch) (Z : State) (a0 : Array Value) (hw : ∀ d ∈ tables_1, d.before a0 Z = true) (ws : List Jvm.Cond) (n1 : Int32) (c0 : Int32) (c1 : Int32) (c2 : Int32) (c3 : Int32) (cz : Int32) (h0 : Heap) (n0 : Nat) (Z0 : n0 ≤ h0.size) (hp1 : ∀ c ∈ ([nar .char c0] : List Int32), ¬ c < 0 ∧ ¬ (255 : Int32) < c) (hp2 : ∀ c ∈ ([nar .char c0, nar .char c1] : List Int32), ¬ c < 0 ∧ ¬ (255 : Int32) < c) (hp3 : ∀ c ∈ ([nar .char c0, nar .char c1, nar .char c2] : List Int32), ¬ c < 0 ∧ ¬ (255 : Int32) < c) (hp4 : ∀ c ∈ ([nar .char c0, nar .char c1, nar .char c2, nar .char c3] : List Int32), ¬ c < 0 ∧ ¬ (255 : Int32) < c) (S_cs : Sta Z Z.heap "java/lang/String" "COMPACT_STRINGS" "Z" (.int cz)) (hcz : ¬ cz = 0) (O0 : Old Z n0 h0) (hEL : EW Z a0 consts_1) :
    MetFree l (⟨"com/example/culpa/culpa/NamesFunctionPinLaw", "mk", "(ICCCC)Ljava/lang/String;"⟩ : MethodName) (head1 (Jvm.Cond.code (⟨"com/example/culpa/culpa/NamesFunctionPinLaw", "mk", "(ICCCC)Ljava/lang/String;"⟩ : MethodName) method_3_code 5 (some (.object "java/lang/String")) :: ws) ({ frames := 4, cells := 4, slots := 12, locals := 66 } : Room)) (fun ar_ U_ => ar_ = #[(.int n1), (.int c0), (.int c1), (.int c2), (.int c3)] ∧ Z.Warmed39 U_.vm ∧ U_.heap = h0 ∧ Em Z U_.vm h0 h0.size) (fun _ _ _ _ _ => True) (fun _ U_ oc_ Ue_ => ∃ v_ L_, oc_ = .returned v_ ∧ Q2 Z n1 c0 c1 c2 c3 cz h0 n0 v_ Ue_.vm Ue_.heap L_ ∧ ReturnedEndW U_ oc_ Ue_ L_ ({ frames := 4, cells := 4, slots := 12, locals := 66 } : Room).cells ({ frames := 4, cells := 4, slots := 12, locals := 66 } : Room).slots) := by
  refine MetFree.of_bodySF (plainFor_of_name pn_0) hisR ?_
  intro p e s m args below meth c s₁ Bd hml0 hP hK
  obtain ⟨rfl, hZ, hh, I0⟩ := hP
  have hx := Bd.exec
  have hby := Bd.bytes
  have hml : c.maxLocals = 5 := hml0
  have hown : s.vm.findClass "com/example/culpa/culpa/NamesFunctionPinLaw" = some m.cls := findClass_of_methodNamed Bd.named
  have hnm := (name_of_methodNamed Bd.named Bd.method).1
  have X0 : Stand p l e ({ frames := 4, cells := 4, slots := 12, locals := 66 } : Room) s m #[(.int n1), (.int c0), (.int c1), (.int c2), (.int c3)] below meth c s₁ [] 0 0 := Stand.of_body Bd
  have e0 : s₁.heap = h0 := by rw [← hh, Bd.state]; rfl
  have N0 := Fr.nil n0
  have F0 : Shelf s s h0.size := Shelf.start s _
  show OwnEndsW p e below s (Q2 Z n1 c0 c1 c2 c3 cz h0 n0) ({ frames := 4, cells := 4, slots := 12, locals := 66 } : Room).cells ({ frames := 4, cells := 4, slots := 12, locals := 66 } : Room).slots (s₁.setTop (entryFrame m #[(.int n1), (.int c0), (.int c1), (.int c2), (.int c3)] 5))
  rw [ef_2]
  show OwnEndsW _ _ _ _ _ _ _ (s₁.setTop (mkF m 0 #[.val (.int n1), .val (.int c0), .val (.int c1), .val (.int c2), .val (.int c3)] []))
  have hws : ∀ d ∈ StrChars.Road.words, d.before a0 Z = true := fun d hd => hw d ((by decide +kernel : ∀ d ∈ StrChars.Road.words, d ∈ tables_1) d hd)
  refine OwnEndsW.st (fun t_ k_ => XS.iloadN X0.here hx rfl (hb hby d2_0) rfl k_) ?_
  show OwnEndsW _ _ _ _ _ _ _ (s₁.setTop (mkF m 1 #[.val (.int n1), .val (.int c0), .val (.int c1), .val (.int c2), .val (.int c3)] [(.int n1)]))
  by_cases h0n : (0 : Int32) < n1
  · refine OwnEndsW.st (fun t_ k_ => XS.ifYes X0.here hx rfl (pc0 := 1) (pc' := 15) rfl (hb hby d2_1) rfl ((if0 _ _).trans (tlt (h0n : (0 : Int32) < n1)).2.2.1) (by decide) (by decide) k_) ?_
    show OwnEndsW _ _ _ _ _ _ _ (s₁.setTop (mkF m 15 #[.val (.int n1), .val (.int c0), .val (.int c1), .val (.int c2), .val (.int c3)] []))
    refine OwnEndsW.st (fun t_ k_ => XS.iloadN X0.here hx rfl (hb hby d2_15) rfl k_) ?_
    show OwnEndsW _ _ _ _ _ _ _ (s₁.setTop (mkF m 16 #[.val (.int n1), .val (.int c0), .val (.int c1), .val (.int c2), .val (.int c3)] [(.int n1)]))
    refine OwnEndsW.st (fun t_ k_ => XS.iconst X0.here hx rfl (hb hby d2_16) k_) ?_
    show OwnEndsW _ _ _ _ _ _ _ (s₁.setTop (mkF m 17 #[.val (.int n1), .val (.int c0), .val (.int c1), .val (.int c2), .val (.int c3)] [(.int (1 : Int32)), (.int n1)]))
    by_cases h1n : n1 = (1 : Int32)
    · refine OwnEndsW.st (fun t_ k_ => XS.icmpNo X0.here hx rfl (hb hby d2_17) rfl (teq (h1n : n1 = (1 : Int32))).2 k_) ?_
      show OwnEndsW _ _ _ _ _ _ _ (s₁.setTop (mkF m 20 #[.val (.int n1), .val (.int c0), .val (.int c1), .val (.int c2), .val (.int c3)] []))
      obtain ⟨T1, h1, X1, e1, E1, A1, D1, -, st1⟩ := newO X0 hx hZ hown (hw _ (List.mem_of_getElem? (i := 8) rfl)) (hw _ (List.mem_of_getElem? (i := 9) rfl)) (hw _ (List.mem_of_getElem? (i := 10) rfl)) e0 (g := (mkF m 20 #[.val (.int n1), .val (.int c0), .val (.int c1), .val (.int c2), .val (.int c3)] [])) rfl (hb hby d2_20) (by decide) (by decide)
      obtain ⟨b1, g1⟩ : ∃ z, z = h0.size := ⟨_, rfl⟩
      rw [← g1] at A1 D1 st1
      refine OwnEndsW.st st1 ?_
      show OwnEndsW _ _ _ _ _ _ _ (T1.setTop (mkF m 23 #[.val (.int n1), .val (.int c0), .val (.int c1), .val (.int c2), .val (.int c3)] [(.ref b1)]))
      have F_value_b1 : Fld Z h1 b1 "java/lang/String" "value" "[B" .null := D1 (Or.inr (hw _ (List.mem_of_getElem? (i := 24) rfl))) (ty := (.array .byte)) (by decide)
      have F_coder_b1 : Fld Z h1 b1 "java/lang/String" "coder" "B" (.int (0 : Int32)) := D1 (Or.inr (hw _ (List.mem_of_getElem? (i := 25) rfl))) (ty := .byte) (by decide)
      refine OwnEndsW.st (fun t_ k_ => XS.dup X1.here hx rfl (hb hby d2_23) rfl rfl k_) ?_
      show OwnEndsW _ _ _ _ _ _ _ (T1.setTop (mkF m 24 #[.val (.int n1), .val (.int c0), .val (.int c1), .val (.int c2), .val (.int c3)] [(.ref b1), (.ref b1)]))
      refine OwnEndsW.st (fun t_ k_ => XS.iconst X1.here hx rfl (hb hby d2_24) k_) ?_
      show OwnEndsW _ _ _ _ _ _ _ (T1.setTop (mkF m 25 #[.val (.int n1), .val (.int c0), .val (.int c1), .val (.int c2), .val (.int c3)] [(.int (1 : Int32)), (.ref b1), (.ref b1)]))
      obtain ⟨T2, h2, k2, X2, e2, E2, A2, st2⟩ := newP X1 hx hZ (hw _ (List.mem_of_getElem? (i := 11) rfl)) e1 (g := (mkF m 25 #[.val (.int n1), .val (.int c0), .val (.int c1), .val (.int c2), .val (.int c3)] [(.int (1 : Int32)), (.ref b1), (.ref b1)])) rfl (hb hby d2_25) rfl (by decide) (cap := 1) (by decide) (by decide) (by decide) (by decide)
      obtain ⟨b2, g2⟩ : ∃ z, z = h1.size := ⟨_, rfl⟩
      rw [← g2] at A2 st2
      have V_b2 : Arv Z h2 b2 k2 .char (1 : Int32) [(.int (0 : Int32))] (.int (0 : Int32)) := (Arv.new A2 (by decide)).pad (pad_rep [] (.int (0 : Int32)) 1)
      refine OwnEndsW.st st2 ?_
      show OwnEndsW _ _ _ _ _ _ _ (T2.setTop (mkF m 27 #[.val (.int n1), .val (.int c0), .val (.int c1), .val (.int c2), .val (.int c3)] [(.ref b2), (.ref b1), (.ref b1)]))
      refine OwnEndsW.st (fun t_ k_ => XS.dup X2.here hx rfl (hb hby d2_27) rfl rfl k_) ?_
      show OwnEndsW _ _ _ _ _ _ _ (T2.setTop (mkF m 28 #[.val (.int n1), .val (.int c0), .val (.int c1), .val (.int c2), .val (.int c3)] [(.ref b2), (.ref b2), (.ref b1), (.ref b1)]))
      refine OwnEndsW.st (fun t_ k_ => XS.iconst X2.here hx rfl (hb hby d2_28) k_) ?_
      show OwnEndsW _ _ _ _ _ _ _ (T2.setTop (mkF m 29 #[.val (.int n1), .val (.int c0), .val (.int c1), .val (.int c2), .val (.int c3)] [(.int (0 : Int32)), (.ref b2), (.ref b2), (.ref b1), (.ref b1)]))
      refine OwnEndsW.st (fun t_ k_ => XS.iloadN X2.here hx rfl (hb hby d2_29) rfl k_) ?_
      show OwnEndsW _ _ _ _ _ _ _ (T2.setTop (mkF m 30 #[.val (.int n1), .val (.int c0), .val (.int c1), .val (.int c2), .val (.int c3)] [(.int c0), (.int (0 : Int32)), (.ref b2), (.ref b2), (.ref b1), (.ref b1)]))
      obtain ⟨cl3, Ar3, q3, S3, N3', H3, G3⟩ := id V_b2
      have hin3 : ¬ ((0 : Int32) < 0 ∨ cl3.slots.size ≤ ((0 : Int32)).toNatClampNeg) := inb_of S3 ⟨by decide, by decide⟩
      obtain ⟨T3, h3, X3, e3, W3, st3⟩ := stC X2 hx hZ e2 Ar3 (j := (0 : Int32)) hin3 (g := (mkF m 30 #[.val (.int n1), .val (.int c0), .val (.int c1), .val (.int c2), .val (.int c3)] [(.int c0), (.int (0 : Int32)), (.ref b2), (.ref b2), (.ref b1), (.ref b1)])) rfl rfl (hb hby d2_30)
      have V_b2_3 := Arv.set Ar3 q3 S3 N3' H3 G3 (fits_nar_char _) W3 0 rfl (Nat.le_of_ble_eq_true rfl)
      have N3 := Fr.snoc X3 N0 (Nat.le_trans (Nat.le_trans Z0 (Nat.le_trans (Nat.le_refl _) E1.1)) (Nat.le_of_eq g2.symm))
      refine OwnEndsW.st st3 ?_
      show OwnEndsW _ _ _ _ _ _ _ (T3.setTop (mkF m 31 #[.val (.int n1), .val (.int c0), .val (.int c1), .val (.int c2), .val (.int c3)] [(.ref b2), (.ref b1), (.ref b1)]))
      have Zs3 : n0 ≤ h3.size := (Nat.le_trans Z0 (Nat.le_trans (Nat.le_trans (Nat.le_trans (Nat.le_refl _) E1.1) E2.1) (Keep.of_wr W3).1))
      obtain ⟨_, _, ⟨T4, L4, k4, n4⟩, -, X4, ⟨Lc4, hQ4, l4, y4, z4⟩, st4⟩ := X3.specialBack hx (y := (⟨"java/lang/String", "<init>", "([C)V"⟩ : MethodName)) rfl hown (mvT hZ (hw _ (List.mem_of_getElem? (i := 12) rfl))) (mvT hZ (hw _ (List.mem_of_getElem? (i := 13) rfl))) (mvT hZ (hw _ (List.mem_of_getElem? (i := 14) rfl))) (by decide) (StrChars.Road.backV (W := 1) hZ hws (kI := 4) (hw _ (List.mem_of_getElem? (i := 9) rfl)) (cs := ([nar .char c0] : List Int32)) (bs := (([nar .char c0] : List Int32)).map (fun c => c.toInt8.toInt32)) (n := 1) (Nat.le_trans (Nat.le_trans Z0 (Nat.le_refl _)) (Nat.le_of_eq g1.symm)) Zs3 ((A1.ext E2).wr W3) ((F_value_b1.ext E2).other W3 (Or.inl (Nat.ne_of_lt (Nat.lt_of_lt_of_le (A1).lt (Nat.le_of_eq g2.symm))))) ((F_coder_b1.ext E2).other W3 (Or.inl (Nat.ne_of_lt (Nat.lt_of_lt_of_le (A1).lt (Nat.le_of_eq g2.symm))))) V_b2_3 (S_cs.ext (((O0.ext E1).ext E2).wr W3 (Nat.le_trans (Nat.le_trans Z0 (Nat.le_trans (Nat.le_refl _) E1.1)) (Nat.le_of_eq g2.symm))).2) hcz rfl rfl (by decide) (by decide) hp1 rfl (by decide) (by decide)) (g := (mkF m 31 #[.val (.int n1), .val (.int c0), .val (.int c1), .val (.int c2), .val (.int c3)] [(.ref b2), (.ref b1), (.ref b1)])) rfl (by rw [hml]; rfl) (Steps.refl _) (a := b1) (argsL := [(.ref b2)]) (rest := [(.ref b1)]) (lenOf pd_1 rfl) rfl (by show 2 * 0 + _ ≤ _; exact Nat.le_of_eq rfl) (hb hby d2_31) (fun _ _ => ⟨rfl, e3, (by decide : 2 + 1 ≤ _), (by decide : 5 + 1 ≤ _)⟩)
      dsimp only [Pt.U, Pt.locs, Pt.cells, Pt.slots] at X4 l4 y4 z4 st4 hQ4
      subst l4 y4 z4
      obtain ⟨rfl, N4q, K4, Es4, Cs4, t4, kb4, u4, v4, w4, Vs4, As4⟩ := hQ4
      have N4 := Fr.app N3 N4q
      refine OwnEndsW.go st4 ?_
      show OwnEndsW _ _ _ _ _ _ _ (T4.setTop (mkF m 34 #[.val (.int n1), .val (.int c0), .val (.int c1), .val (.int c2), .val (.int c3)] [(.ref b1)]))
      have OS4 : OStr Z T4.heap b1 ([nar .char c0] : List Int32) T4.heap.size := OStr.made Es4 Cs4 Vs4 As4 rfl rfl hp1 (Nat.le_of_ble_eq_true rfl)
      refine own_retWA F0 X4 (Nat.le_trans (Nat.le_trans (Nat.le_trans (Nat.le_trans (Nat.le_refl _) E1.1) E2.1) (Keep.of_wr W3).1) K4.1) hx Bd.returns Bd.notSynchronized rfl rfl (hb hby d2_34) ?_ (by decide) (by decide)
      show Q2 Z n1 c0 c1 c2 c3 cz h0 n0 _ T4.vm T4.heap _
      exact ⟨b1, rfl, N4, (((((Keep.refl h0 []).ext E1).ext E2).wr W3 (Or.inr (Nat.le_trans (Nat.le_trans (Nat.le_refl _) E1.1) (Nat.le_of_eq g2.symm)))).trans K4 (allS (Or.inr (Nat.le_trans (Nat.le_refl _) (Nat.le_of_eq g1.symm))) all0)), (Nat.le_trans (Nat.le_refl _) (Nat.le_of_eq g1.symm)), by rw [own_mk1 h0n h1n]; exact OS4.top, (Em.warm hEL hZ ((((I0.ext E1).ext E2).wr W3 (Nat.le_trans (Nat.le_trans (Nat.le_refl _) E1.1) (Nat.le_of_eq g2.symm))).keep K4 (allS (Nat.le_trans (Nat.le_refl _) (Nat.le_of_eq g1.symm)) all0)).top X4.warmed)⟩
    · refine OwnEndsW.st (fun t_ k_ => XS.icmpYes X0.here hx rfl (pc0 := 17) (pc' := 35) rfl (hb hby d2_17) rfl (feq (h1n : ¬ (n1 = (1 : Int32)))).2 (by decide) (by decide) k_) ?_
      show OwnEndsW _ _ _ _ _ _ _ (s₁.setTop (mkF m 35 #[.val (.int n1), .val (.int c0), .val (.int c1), .val (.int c2), .val (.int c3)] []))
      refine OwnEndsW.st (fun t_ k_ => XS.iloadN X0.here hx rfl (hb hby d2_35) rfl k_) ?_
      show OwnEndsW _ _ _ _ _ _ _ (s₁.setTop (mkF m 36 #[.val (.int n1), .val (.int c0), .val (.int c1), .val (.int c2), .val (.int c3)] [(.int n1)]))
      refine OwnEndsW.st (fun t_ k_ => XS.iconst X0.here hx rfl (hb hby d2_36) k_) ?_
      show OwnEndsW _ _ _ _ _ _ _ (s₁.setTop (mkF m 37 #[.val (.int n1), .val (.int c0), .val (.int c1), .val (.int c2), .val (.int c3)] [(.int (2 : Int32)), (.int n1)]))
      by_cases h2n : n1 = (2 : Int32)
      · refine OwnEndsW.st (fun t_ k_ => XS.icmpNo X0.here hx rfl (hb hby d2_37) rfl (teq (h2n : n1 = (2 : Int32))).2 k_) ?_
        show OwnEndsW _ _ _ _ _ _ _ (s₁.setTop (mkF m 40 #[.val (.int n1), .val (.int c0), .val (.int c1), .val (.int c2), .val (.int c3)] []))
        obtain ⟨T5, h5, X5, e5, E5, A5, D5, -, st5⟩ := newO X0 hx hZ hown (hw _ (List.mem_of_getElem? (i := 8) rfl)) (hw _ (List.mem_of_getElem? (i := 9) rfl)) (hw _ (List.mem_of_getElem? (i := 10) rfl)) e0 (g := (mkF m 40 #[.val (.int n1), .val (.int c0), .val (.int c1), .val (.int c2), .val (.int c3)] [])) rfl (hb hby d2_40) (by decide) (by decide)
        obtain ⟨b5, g5⟩ : ∃ z, z = h0.size := ⟨_, rfl⟩
        rw [← g5] at A5 D5 st5
        refine OwnEndsW.st st5 ?_
        show OwnEndsW _ _ _ _ _ _ _ (T5.setTop (mkF m 43 #[.val (.int n1), .val (.int c0), .val (.int c1), .val (.int c2), .val (.int c3)] [(.ref b5)]))
        have F_value_b5 : Fld Z h5 b5 "java/lang/String" "value" "[B" .null := D5 (Or.inr (hw _ (List.mem_of_getElem? (i := 24) rfl))) (ty := (.array .byte)) (by decide)
        have F_coder_b5 : Fld Z h5 b5 "java/lang/String" "coder" "B" (.int (0 : Int32)) := D5 (Or.inr (hw _ (List.mem_of_getElem? (i := 25) rfl))) (ty := .byte) (by decide)
        refine OwnEndsW.st (fun t_ k_ => XS.dup X5.here hx rfl (hb hby d2_43) rfl rfl k_) ?_
        show OwnEndsW _ _ _ _ _ _ _ (T5.setTop (mkF m 44 #[.val (.int n1), .val (.int c0), .val (.int c1), .val (.int c2), .val (.int c3)] [(.ref b5), (.ref b5)]))
        refine OwnEndsW.st (fun t_ k_ => XS.iconst X5.here hx rfl (hb hby d2_44) k_) ?_
        show OwnEndsW _ _ _ _ _ _ _ (T5.setTop (mkF m 45 #[.val (.int n1), .val (.int c0), .val (.int c1), .val (.int c2), .val (.int c3)] [(.int (2 : Int32)), (.ref b5), (.ref b5)]))
        obtain ⟨T6, h6, k6, X6, e6, E6, A6, st6⟩ := newP X5 hx hZ (hw _ (List.mem_of_getElem? (i := 11) rfl)) e5 (g := (mkF m 45 #[.val (.int n1), .val (.int c0), .val (.int c1), .val (.int c2), .val (.int c3)] [(.int (2 : Int32)), (.ref b5), (.ref b5)])) rfl (hb hby d2_45) rfl (by decide) (cap := 2) (by decide) (by decide) (by decide) (by decide)
        obtain ⟨b6, g6⟩ : ∃ z, z = h5.size := ⟨_, rfl⟩
        rw [← g6] at A6 st6
        have V_b6 : Arv Z h6 b6 k6 .char (2 : Int32) [(.int (0 : Int32)), (.int (0 : Int32))] (.int (0 : Int32)) := (Arv.new A6 (by decide)).pad (pad_rep [] (.int (0 : Int32)) 2)
        refine OwnEndsW.st st6 ?_
        show OwnEndsW _ _ _ _ _ _ _ (T6.setTop (mkF m 47 #[.val (.int n1), .val (.int c0), .val (.int c1), .val (.int c2), .val (.int c3)] [(.ref b6), (.ref b5), (.ref b5)]))
        refine OwnEndsW.st (fun t_ k_ => XS.dup X6.here hx rfl (hb hby d2_47) rfl rfl k_) ?_
        show OwnEndsW _ _ _ _ _ _ _ (T6.setTop (mkF m 48 #[.val (.int n1), .val (.int c0), .val (.int c1), .val (.int c2), .val (.int c3)] [(.ref b6), (.ref b6), (.ref b5), (.ref b5)]))
        refine OwnEndsW.st (fun t_ k_ => XS.iconst X6.here hx rfl (hb hby d2_48) k_) ?_
        show OwnEndsW _ _ _ _ _ _ _ (T6.setTop (mkF m 49 #[.val (.int n1), .val (.int c0), .val (.int c1), .val (.int c2), .val (.int c3)] [(.int (0 : Int32)), (.ref b6), (.ref b6), (.ref b5), (.ref b5)]))
        refine OwnEndsW.st (fun t_ k_ => XS.iloadN X6.here hx rfl (hb hby d2_49) rfl k_) ?_
        show OwnEndsW _ _ _ _ _ _ _ (T6.setTop (mkF m 50 #[.val (.int n1), .val (.int c0), .val (.int c1), .val (.int c2), .val (.int c3)] [(.int c0), (.int (0 : Int32)), (.ref b6), (.ref b6), (.ref b5), (.ref b5)]))
        obtain ⟨cl7, Ar7, q7, S7, N7', H7, G7⟩ := id V_b6
        have hin7 : ¬ ((0 : Int32) < 0 ∨ cl7.slots.size ≤ ((0 : Int32)).toNatClampNeg) := inb_of S7 ⟨by decide, by decide⟩
        obtain ⟨T7, h7, X7, e7, W7, st7⟩ := stC X6 hx hZ e6 Ar7 (j := (0 : Int32)) hin7 (g := (mkF m 50 #[.val (.int n1), .val (.int c0), .val (.int c1), .val (.int c2), .val (.int c3)] [(.int c0), (.int (0 : Int32)), (.ref b6), (.ref b6), (.ref b5), (.ref b5)])) rfl rfl (hb hby d2_50)
        have V_b6_7 := Arv.set Ar7 q7 S7 N7' H7 G7 (fits_nar_char _) W7 0 rfl (Nat.le_of_ble_eq_true rfl)
        have N7 := Fr.snoc X7 N0 (Nat.le_trans (Nat.le_trans Z0 (Nat.le_trans (Nat.le_refl _) E5.1)) (Nat.le_of_eq g6.symm))
        refine OwnEndsW.st st7 ?_
        show OwnEndsW _ _ _ _ _ _ _ (T7.setTop (mkF m 51 #[.val (.int n1), .val (.int c0), .val (.int c1), .val (.int c2), .val (.int c3)] [(.ref b6), (.ref b5), (.ref b5)]))
        refine OwnEndsW.st (fun t_ k_ => XS.dup X7.here hx rfl (hb hby d2_51) rfl rfl k_) ?_
        show OwnEndsW _ _ _ _ _ _ _ (T7.setTop (mkF m 52 #[.val (.int n1), .val (.int c0), .val (.int c1), .val (.int c2), .val (.int c3)] [(.ref b6), (.ref b6), (.ref b5), (.ref b5)]))
        refine OwnEndsW.st (fun t_ k_ => XS.iconst X7.here hx rfl (hb hby d2_52) k_) ?_
        show OwnEndsW _ _ _ _ _ _ _ (T7.setTop (mkF m 53 #[.val (.int n1), .val (.int c0), .val (.int c1), .val (.int c2), .val (.int c3)] [(.int (1 : Int32)), (.ref b6), (.ref b6), (.ref b5), (.ref b5)]))
        refine OwnEndsW.st (fun t_ k_ => XS.iloadN X7.here hx rfl (hb hby d2_53) rfl k_) ?_
        show OwnEndsW _ _ _ _ _ _ _ (T7.setTop (mkF m 54 #[.val (.int n1), .val (.int c0), .val (.int c1), .val (.int c2), .val (.int c3)] [(.int c1), (.int (1 : Int32)), (.ref b6), (.ref b6), (.ref b5), (.ref b5)]))
        obtain ⟨cl8, Ar8, q8, S8, N8', H8, G8⟩ := id V_b6_7
        have hin8 : ¬ ((1 : Int32) < 0 ∨ cl8.slots.size ≤ ((1 : Int32)).toNatClampNeg) := inb_of S8 ⟨by decide, by decide⟩
        obtain ⟨T8, h8, X8, e8, W8, st8⟩ := stC X7 hx hZ e7 Ar8 (j := (1 : Int32)) hin8 (g := (mkF m 54 #[.val (.int n1), .val (.int c0), .val (.int c1), .val (.int c2), .val (.int c3)] [(.int c1), (.int (1 : Int32)), (.ref b6), (.ref b6), (.ref b5), (.ref b5)])) rfl rfl (hb hby d2_54)
        have V_b6_8 := Arv.set Ar8 q8 S8 N8' H8 G8 (fits_nar_char _) W8 1 rfl (Nat.le_of_ble_eq_true rfl)
        have N8 := Fr.snoc X8 N7 (Nat.le_trans (Nat.le_trans Z0 (Nat.le_trans (Nat.le_refl _) E5.1)) (Nat.le_of_eq g6.symm))
        refine OwnEndsW.st st8 ?_
        show OwnEndsW _ _ _ _ _ _ _ (T8.setTop (mkF m 55 #[.val (.int n1), .val (.int c0), .val (.int c1), .val (.int c2), .val (.int c3)] [(.ref b6), (.ref b5), (.ref b5)]))
        have Zs8 : n0 ≤ h8.size := (Nat.le_trans Z0 (Nat.le_trans (Nat.le_trans (Nat.le_trans (Nat.le_trans (Nat.le_refl _) E5.1) E6.1) (Keep.of_wr W7).1) (Keep.of_wr W8).1))
        obtain ⟨_, _, ⟨T9, L9, k9, n9⟩, -, X9, ⟨Lc9, hQ9, l9, y9, z9⟩, st9⟩ := X8.specialBack hx (y := (⟨"java/lang/String", "<init>", "([C)V"⟩ : MethodName)) rfl hown (mvT hZ (hw _ (List.mem_of_getElem? (i := 12) rfl))) (mvT hZ (hw _ (List.mem_of_getElem? (i := 13) rfl))) (mvT hZ (hw _ (List.mem_of_getElem? (i := 14) rfl))) (by decide) (StrChars.Road.backV (W := 1) hZ hws (kI := 4) (hw _ (List.mem_of_getElem? (i := 9) rfl)) (cs := ([nar .char c0, nar .char c1] : List Int32)) (bs := (([nar .char c0, nar .char c1] : List Int32)).map (fun c => c.toInt8.toInt32)) (n := 2) (Nat.le_trans (Nat.le_trans Z0 (Nat.le_refl _)) (Nat.le_of_eq g5.symm)) Zs8 (((A5.ext E6).wr W7).wr W8) (((F_value_b5.ext E6).other W7 (Or.inl (Nat.ne_of_lt (Nat.lt_of_lt_of_le (A5).lt (Nat.le_of_eq g6.symm))))).other W8 (Or.inl (Nat.ne_of_lt (Nat.lt_of_lt_of_le (A5).lt (Nat.le_of_eq g6.symm))))) (((F_coder_b5.ext E6).other W7 (Or.inl (Nat.ne_of_lt (Nat.lt_of_lt_of_le (A5).lt (Nat.le_of_eq g6.symm))))).other W8 (Or.inl (Nat.ne_of_lt (Nat.lt_of_lt_of_le (A5).lt (Nat.le_of_eq g6.symm))))) V_b6_8 (S_cs.ext ((((O0.ext E5).ext E6).wr W7 (Nat.le_trans (Nat.le_trans Z0 (Nat.le_trans (Nat.le_refl _) E5.1)) (Nat.le_of_eq g6.symm))).wr W8 (Nat.le_trans (Nat.le_trans Z0 (Nat.le_trans (Nat.le_refl _) E5.1)) (Nat.le_of_eq g6.symm))).2) hcz rfl rfl (by decide) (by decide) hp2 rfl (by decide) (by decide)) (g := (mkF m 55 #[.val (.int n1), .val (.int c0), .val (.int c1), .val (.int c2), .val (.int c3)] [(.ref b6), (.ref b5), (.ref b5)])) rfl (by rw [hml]; rfl) (Steps.refl _) (a := b5) (argsL := [(.ref b6)]) (rest := [(.ref b5)]) (lenOf pd_1 rfl) rfl (by show 2 * 0 + _ ≤ _; exact Nat.le_of_eq rfl) (hb hby d2_55) (fun _ _ => ⟨rfl, e8, (by decide : 2 + 1 ≤ _), (by decide : 6 + 2 ≤ _)⟩)
        dsimp only [Pt.U, Pt.locs, Pt.cells, Pt.slots] at X9 l9 y9 z9 st9 hQ9
        subst l9 y9 z9
        obtain ⟨rfl, N9q, K9, Es9, Cs9, t9, kb9, u9, v9, w9, Vs9, As9⟩ := hQ9
        have N9 := Fr.app N8 N9q
        refine OwnEndsW.go st9 ?_
        show OwnEndsW _ _ _ _ _ _ _ (T9.setTop (mkF m 58 #[.val (.int n1), .val (.int c0), .val (.int c1), .val (.int c2), .val (.int c3)] [(.ref b5)]))
        have OS9 : OStr Z T9.heap b5 ([nar .char c0, nar .char c1] : List Int32) T9.heap.size := OStr.made Es9 Cs9 Vs9 As9 rfl rfl hp2 (Nat.le_of_ble_eq_true rfl)
        refine own_retWA F0 X9 (Nat.le_trans (Nat.le_trans (Nat.le_trans (Nat.le_trans (Nat.le_trans (Nat.le_refl _) E5.1) E6.1) (Keep.of_wr W7).1) (Keep.of_wr W8).1) K9.1) hx Bd.returns Bd.notSynchronized rfl rfl (hb hby d2_58) ?_ (by decide) (by decide)
        show Q2 Z n1 c0 c1 c2 c3 cz h0 n0 _ T9.vm T9.heap _
        exact ⟨b5, rfl, N9, ((((((Keep.refl h0 []).ext E5).ext E6).wr W7 (Or.inr (Nat.le_trans (Nat.le_trans (Nat.le_refl _) E5.1) (Nat.le_of_eq g6.symm)))).wr W8 (Or.inr (Nat.le_trans (Nat.le_trans (Nat.le_refl _) E5.1) (Nat.le_of_eq g6.symm)))).trans K9 (allS (Or.inr (Nat.le_trans (Nat.le_refl _) (Nat.le_of_eq g5.symm))) all0)), (Nat.le_trans (Nat.le_refl _) (Nat.le_of_eq g5.symm)), by rw [own_mk2 h0n h1n h2n]; exact OS9.top, (Em.warm hEL hZ (((((I0.ext E5).ext E6).wr W7 (Nat.le_trans (Nat.le_trans (Nat.le_refl _) E5.1) (Nat.le_of_eq g6.symm))).wr W8 (Nat.le_trans (Nat.le_trans (Nat.le_refl _) E5.1) (Nat.le_of_eq g6.symm))).keep K9 (allS (Nat.le_trans (Nat.le_refl _) (Nat.le_of_eq g5.symm)) all0)).top X9.warmed)⟩
      · refine OwnEndsW.st (fun t_ k_ => XS.icmpYes X0.here hx rfl (pc0 := 37) (pc' := 59) rfl (hb hby d2_37) rfl (feq (h2n : ¬ (n1 = (2 : Int32)))).2 (by decide) (by decide) k_) ?_
        show OwnEndsW _ _ _ _ _ _ _ (s₁.setTop (mkF m 59 #[.val (.int n1), .val (.int c0), .val (.int c1), .val (.int c2), .val (.int c3)] []))
        refine OwnEndsW.st (fun t_ k_ => XS.iloadN X0.here hx rfl (hb hby d2_59) rfl k_) ?_
        show OwnEndsW _ _ _ _ _ _ _ (s₁.setTop (mkF m 60 #[.val (.int n1), .val (.int c0), .val (.int c1), .val (.int c2), .val (.int c3)] [(.int n1)]))
        refine OwnEndsW.st (fun t_ k_ => XS.iconst X0.here hx rfl (hb hby d2_60) k_) ?_
        show OwnEndsW _ _ _ _ _ _ _ (s₁.setTop (mkF m 61 #[.val (.int n1), .val (.int c0), .val (.int c1), .val (.int c2), .val (.int c3)] [(.int (3 : Int32)), (.int n1)]))
        by_cases h3n : n1 = (3 : Int32)
        · refine OwnEndsW.st (fun t_ k_ => XS.icmpNo X0.here hx rfl (hb hby d2_61) rfl (teq (h3n : n1 = (3 : Int32))).2 k_) ?_
          show OwnEndsW _ _ _ _ _ _ _ (s₁.setTop (mkF m 64 #[.val (.int n1), .val (.int c0), .val (.int c1), .val (.int c2), .val (.int c3)] []))
          obtain ⟨T10, h10, X10, e10, E10, A10, D10, -, st10⟩ := newO X0 hx hZ hown (hw _ (List.mem_of_getElem? (i := 8) rfl)) (hw _ (List.mem_of_getElem? (i := 9) rfl)) (hw _ (List.mem_of_getElem? (i := 10) rfl)) e0 (g := (mkF m 64 #[.val (.int n1), .val (.int c0), .val (.int c1), .val (.int c2), .val (.int c3)] [])) rfl (hb hby d2_64) (by decide) (by decide)
          obtain ⟨b10, g10⟩ : ∃ z, z = h0.size := ⟨_, rfl⟩
          rw [← g10] at A10 D10 st10
          refine OwnEndsW.st st10 ?_
          show OwnEndsW _ _ _ _ _ _ _ (T10.setTop (mkF m 67 #[.val (.int n1), .val (.int c0), .val (.int c1), .val (.int c2), .val (.int c3)] [(.ref b10)]))
          have F_value_b10 : Fld Z h10 b10 "java/lang/String" "value" "[B" .null := D10 (Or.inr (hw _ (List.mem_of_getElem? (i := 24) rfl))) (ty := (.array .byte)) (by decide)
          have F_coder_b10 : Fld Z h10 b10 "java/lang/String" "coder" "B" (.int (0 : Int32)) := D10 (Or.inr (hw _ (List.mem_of_getElem? (i := 25) rfl))) (ty := .byte) (by decide)
          refine OwnEndsW.st (fun t_ k_ => XS.dup X10.here hx rfl (hb hby d2_67) rfl rfl k_) ?_
          show OwnEndsW _ _ _ _ _ _ _ (T10.setTop (mkF m 68 #[.val (.int n1), .val (.int c0), .val (.int c1), .val (.int c2), .val (.int c3)] [(.ref b10), (.ref b10)]))
          refine OwnEndsW.st (fun t_ k_ => XS.iconst X10.here hx rfl (hb hby d2_68) k_) ?_
          show OwnEndsW _ _ _ _ _ _ _ (T10.setTop (mkF m 69 #[.val (.int n1), .val (.int c0), .val (.int c1), .val (.int c2), .val (.int c3)] [(.int (3 : Int32)), (.ref b10), (.ref b10)]))
          obtain ⟨T11, h11, k11, X11, e11, E11, A11, st11⟩ := newP X10 hx hZ (hw _ (List.mem_of_getElem? (i := 11) rfl)) e10 (g := (mkF m 69 #[.val (.int n1), .val (.int c0), .val (.int c1), .val (.int c2), .val (.int c3)] [(.int (3 : Int32)), (.ref b10), (.ref b10)])) rfl (hb hby d2_69) rfl (by decide) (cap := 3) (by decide) (by decide) (by decide) (by decide)
          obtain ⟨b11, g11⟩ : ∃ z, z = h10.size := ⟨_, rfl⟩
          rw [← g11] at A11 st11
          have V_b11 : Arv Z h11 b11 k11 .char (3 : Int32) [(.int (0 : Int32)), (.int (0 : Int32)), (.int (0 : Int32))] (.int (0 : Int32)) := (Arv.new A11 (by decide)).pad (pad_rep [] (.int (0 : Int32)) 3)
          refine OwnEndsW.st st11 ?_
          show OwnEndsW _ _ _ _ _ _ _ (T11.setTop (mkF m 71 #[.val (.int n1), .val (.int c0), .val (.int c1), .val (.int c2), .val (.int c3)] [(.ref b11), (.ref b10), (.ref b10)]))
          refine OwnEndsW.st (fun t_ k_ => XS.dup X11.here hx rfl (hb hby d2_71) rfl rfl k_) ?_
          show OwnEndsW _ _ _ _ _ _ _ (T11.setTop (mkF m 72 #[.val (.int n1), .val (.int c0), .val (.int c1), .val (.int c2), .val (.int c3)] [(.ref b11), (.ref b11), (.ref b10), (.ref b10)]))
          refine OwnEndsW.st (fun t_ k_ => XS.iconst X11.here hx rfl (hb hby d2_72) k_) ?_
          show OwnEndsW _ _ _ _ _ _ _ (T11.setTop (mkF m 73 #[.val (.int n1), .val (.int c0), .val (.int c1), .val (.int c2), .val (.int c3)] [(.int (0 : Int32)), (.ref b11), (.ref b11), (.ref b10), (.ref b10)]))
          refine OwnEndsW.st (fun t_ k_ => XS.iloadN X11.here hx rfl (hb hby d2_73) rfl k_) ?_
          show OwnEndsW _ _ _ _ _ _ _ (T11.setTop (mkF m 74 #[.val (.int n1), .val (.int c0), .val (.int c1), .val (.int c2), .val (.int c3)] [(.int c0), (.int (0 : Int32)), (.ref b11), (.ref b11), (.ref b10), (.ref b10)]))
          obtain ⟨cl12, Ar12, q12, S12, N12', H12, G12⟩ := id V_b11
          have hin12 : ¬ ((0 : Int32) < 0 ∨ cl12.slots.size ≤ ((0 : Int32)).toNatClampNeg) := inb_of S12 ⟨by decide, by decide⟩
          obtain ⟨T12, h12, X12, e12, W12, st12⟩ := stC X11 hx hZ e11 Ar12 (j := (0 : Int32)) hin12 (g := (mkF m 74 #[.val (.int n1), .val (.int c0), .val (.int c1), .val (.int c2), .val (.int c3)] [(.int c0), (.int (0 : Int32)), (.ref b11), (.ref b11), (.ref b10), (.ref b10)])) rfl rfl (hb hby d2_74)
          have V_b11_12 := Arv.set Ar12 q12 S12 N12' H12 G12 (fits_nar_char _) W12 0 rfl (Nat.le_of_ble_eq_true rfl)
          have N12 := Fr.snoc X12 N0 (Nat.le_trans (Nat.le_trans Z0 (Nat.le_trans (Nat.le_refl _) E10.1)) (Nat.le_of_eq g11.symm))
          refine OwnEndsW.st st12 ?_
          show OwnEndsW _ _ _ _ _ _ _ (T12.setTop (mkF m 75 #[.val (.int n1), .val (.int c0), .val (.int c1), .val (.int c2), .val (.int c3)] [(.ref b11), (.ref b10), (.ref b10)]))
          refine OwnEndsW.st (fun t_ k_ => XS.dup X12.here hx rfl (hb hby d2_75) rfl rfl k_) ?_
          show OwnEndsW _ _ _ _ _ _ _ (T12.setTop (mkF m 76 #[.val (.int n1), .val (.int c0), .val (.int c1), .val (.int c2), .val (.int c3)] [(.ref b11), (.ref b11), (.ref b10), (.ref b10)]))
          refine OwnEndsW.st (fun t_ k_ => XS.iconst X12.here hx rfl (hb hby d2_76) k_) ?_
          show OwnEndsW _ _ _ _ _ _ _ (T12.setTop (mkF m 77 #[.val (.int n1), .val (.int c0), .val (.int c1), .val (.int c2), .val (.int c3)] [(.int (1 : Int32)), (.ref b11), (.ref b11), (.ref b10), (.ref b10)]))
          refine OwnEndsW.st (fun t_ k_ => XS.iloadN X12.here hx rfl (hb hby d2_77) rfl k_) ?_
          show OwnEndsW _ _ _ _ _ _ _ (T12.setTop (mkF m 78 #[.val (.int n1), .val (.int c0), .val (.int c1), .val (.int c2), .val (.int c3)] [(.int c1), (.int (1 : Int32)), (.ref b11), (.ref b11), (.ref b10), (.ref b10)]))
          obtain ⟨cl13, Ar13, q13, S13, N13', H13, G13⟩ := id V_b11_12
          have hin13 : ¬ ((1 : Int32) < 0 ∨ cl13.slots.size ≤ ((1 : Int32)).toNatClampNeg) := inb_of S13 ⟨by decide, by decide⟩
          obtain ⟨T13, h13, X13, e13, W13, st13⟩ := stC X12 hx hZ e12 Ar13 (j := (1 : Int32)) hin13 (g := (mkF m 78 #[.val (.int n1), .val (.int c0), .val (.int c1), .val (.int c2), .val (.int c3)] [(.int c1), (.int (1 : Int32)), (.ref b11), (.ref b11), (.ref b10), (.ref b10)])) rfl rfl (hb hby d2_78)
          have V_b11_13 := Arv.set Ar13 q13 S13 N13' H13 G13 (fits_nar_char _) W13 1 rfl (Nat.le_of_ble_eq_true rfl)
          have N13 := Fr.snoc X13 N12 (Nat.le_trans (Nat.le_trans Z0 (Nat.le_trans (Nat.le_refl _) E10.1)) (Nat.le_of_eq g11.symm))
          refine OwnEndsW.st st13 ?_
          show OwnEndsW _ _ _ _ _ _ _ (T13.setTop (mkF m 79 #[.val (.int n1), .val (.int c0), .val (.int c1), .val (.int c2), .val (.int c3)] [(.ref b11), (.ref b10), (.ref b10)]))
          refine OwnEndsW.st (fun t_ k_ => XS.dup X13.here hx rfl (hb hby d2_79) rfl rfl k_) ?_
          show OwnEndsW _ _ _ _ _ _ _ (T13.setTop (mkF m 80 #[.val (.int n1), .val (.int c0), .val (.int c1), .val (.int c2), .val (.int c3)] [(.ref b11), (.ref b11), (.ref b10), (.ref b10)]))
          refine OwnEndsW.st (fun t_ k_ => XS.iconst X13.here hx rfl (hb hby d2_80) k_) ?_
          show OwnEndsW _ _ _ _ _ _ _ (T13.setTop (mkF m 81 #[.val (.int n1), .val (.int c0), .val (.int c1), .val (.int c2), .val (.int c3)] [(.int (2 : Int32)), (.ref b11), (.ref b11), (.ref b10), (.ref b10)]))
          refine OwnEndsW.st (fun t_ k_ => XS.iloadN X13.here hx rfl (hb hby d2_81) rfl k_) ?_
          show OwnEndsW _ _ _ _ _ _ _ (T13.setTop (mkF m 82 #[.val (.int n1), .val (.int c0), .val (.int c1), .val (.int c2), .val (.int c3)] [(.int c2), (.int (2 : Int32)), (.ref b11), (.ref b11), (.ref b10), (.ref b10)]))
          obtain ⟨cl14, Ar14, q14, S14, N14', H14, G14⟩ := id V_b11_13
          have hin14 : ¬ ((2 : Int32) < 0 ∨ cl14.slots.size ≤ ((2 : Int32)).toNatClampNeg) := inb_of S14 ⟨by decide, by decide⟩
          obtain ⟨T14, h14, X14, e14, W14, st14⟩ := stC X13 hx hZ e13 Ar14 (j := (2 : Int32)) hin14 (g := (mkF m 82 #[.val (.int n1), .val (.int c0), .val (.int c1), .val (.int c2), .val (.int c3)] [(.int c2), (.int (2 : Int32)), (.ref b11), (.ref b11), (.ref b10), (.ref b10)])) rfl rfl (hb hby d2_82)
          have V_b11_14 := Arv.set Ar14 q14 S14 N14' H14 G14 (fits_nar_char _) W14 2 rfl (Nat.le_of_ble_eq_true rfl)
          have N14 := Fr.snoc X14 N13 (Nat.le_trans (Nat.le_trans Z0 (Nat.le_trans (Nat.le_refl _) E10.1)) (Nat.le_of_eq g11.symm))
          refine OwnEndsW.st st14 ?_
          show OwnEndsW _ _ _ _ _ _ _ (T14.setTop (mkF m 83 #[.val (.int n1), .val (.int c0), .val (.int c1), .val (.int c2), .val (.int c3)] [(.ref b11), (.ref b10), (.ref b10)]))
          have Zs14 : n0 ≤ h14.size := (Nat.le_trans Z0 (Nat.le_trans (Nat.le_trans (Nat.le_trans (Nat.le_trans (Nat.le_trans (Nat.le_refl _) E10.1) E11.1) (Keep.of_wr W12).1) (Keep.of_wr W13).1) (Keep.of_wr W14).1))
          obtain ⟨_, _, ⟨T15, L15, k15, n15⟩, -, X15, ⟨Lc15, hQ15, l15, y15, z15⟩, st15⟩ := X14.specialBack hx (y := (⟨"java/lang/String", "<init>", "([C)V"⟩ : MethodName)) rfl hown (mvT hZ (hw _ (List.mem_of_getElem? (i := 12) rfl))) (mvT hZ (hw _ (List.mem_of_getElem? (i := 13) rfl))) (mvT hZ (hw _ (List.mem_of_getElem? (i := 14) rfl))) (by decide) (StrChars.Road.backV (W := 1) hZ hws (kI := 4) (hw _ (List.mem_of_getElem? (i := 9) rfl)) (cs := ([nar .char c0, nar .char c1, nar .char c2] : List Int32)) (bs := (([nar .char c0, nar .char c1, nar .char c2] : List Int32)).map (fun c => c.toInt8.toInt32)) (n := 3) (Nat.le_trans (Nat.le_trans Z0 (Nat.le_refl _)) (Nat.le_of_eq g10.symm)) Zs14 ((((A10.ext E11).wr W12).wr W13).wr W14) ((((F_value_b10.ext E11).other W12 (Or.inl (Nat.ne_of_lt (Nat.lt_of_lt_of_le (A10).lt (Nat.le_of_eq g11.symm))))).other W13 (Or.inl (Nat.ne_of_lt (Nat.lt_of_lt_of_le (A10).lt (Nat.le_of_eq g11.symm))))).other W14 (Or.inl (Nat.ne_of_lt (Nat.lt_of_lt_of_le (A10).lt (Nat.le_of_eq g11.symm))))) ((((F_coder_b10.ext E11).other W12 (Or.inl (Nat.ne_of_lt (Nat.lt_of_lt_of_le (A10).lt (Nat.le_of_eq g11.symm))))).other W13 (Or.inl (Nat.ne_of_lt (Nat.lt_of_lt_of_le (A10).lt (Nat.le_of_eq g11.symm))))).other W14 (Or.inl (Nat.ne_of_lt (Nat.lt_of_lt_of_le (A10).lt (Nat.le_of_eq g11.symm))))) V_b11_14 (S_cs.ext (((((O0.ext E10).ext E11).wr W12 (Nat.le_trans (Nat.le_trans Z0 (Nat.le_trans (Nat.le_refl _) E10.1)) (Nat.le_of_eq g11.symm))).wr W13 (Nat.le_trans (Nat.le_trans Z0 (Nat.le_trans (Nat.le_refl _) E10.1)) (Nat.le_of_eq g11.symm))).wr W14 (Nat.le_trans (Nat.le_trans Z0 (Nat.le_trans (Nat.le_refl _) E10.1)) (Nat.le_of_eq g11.symm))).2) hcz rfl rfl (by decide) (by decide) hp3 rfl (by decide) (by decide)) (g := (mkF m 83 #[.val (.int n1), .val (.int c0), .val (.int c1), .val (.int c2), .val (.int c3)] [(.ref b11), (.ref b10), (.ref b10)])) rfl (by rw [hml]; rfl) (Steps.refl _) (a := b10) (argsL := [(.ref b11)]) (rest := [(.ref b10)]) (lenOf pd_1 rfl) rfl (by show 2 * 0 + _ ≤ _; exact Nat.le_of_eq rfl) (hb hby d2_83) (fun _ _ => ⟨rfl, e14, (by decide : 2 + 1 ≤ _), (by decide : 7 + 3 ≤ _)⟩)
          dsimp only [Pt.U, Pt.locs, Pt.cells, Pt.slots] at X15 l15 y15 z15 st15 hQ15
          subst l15 y15 z15
          obtain ⟨rfl, N15q, K15, Es15, Cs15, t15, kb15, u15, v15, w15, Vs15, As15⟩ := hQ15
          have N15 := Fr.app N14 N15q
          refine OwnEndsW.go st15 ?_
          show OwnEndsW _ _ _ _ _ _ _ (T15.setTop (mkF m 86 #[.val (.int n1), .val (.int c0), .val (.int c1), .val (.int c2), .val (.int c3)] [(.ref b10)]))
          have OS15 : OStr Z T15.heap b10 ([nar .char c0, nar .char c1, nar .char c2] : List Int32) T15.heap.size := OStr.made Es15 Cs15 Vs15 As15 rfl rfl hp3 (Nat.le_of_ble_eq_true rfl)
          refine own_retWA F0 X15 (Nat.le_trans (Nat.le_trans (Nat.le_trans (Nat.le_trans (Nat.le_trans (Nat.le_trans (Nat.le_refl _) E10.1) E11.1) (Keep.of_wr W12).1) (Keep.of_wr W13).1) (Keep.of_wr W14).1) K15.1) hx Bd.returns Bd.notSynchronized rfl rfl (hb hby d2_86) ?_ (by decide) (by decide)
          show Q2 Z n1 c0 c1 c2 c3 cz h0 n0 _ T15.vm T15.heap _
          exact ⟨b10, rfl, N15, (((((((Keep.refl h0 []).ext E10).ext E11).wr W12 (Or.inr (Nat.le_trans (Nat.le_trans (Nat.le_refl _) E10.1) (Nat.le_of_eq g11.symm)))).wr W13 (Or.inr (Nat.le_trans (Nat.le_trans (Nat.le_refl _) E10.1) (Nat.le_of_eq g11.symm)))).wr W14 (Or.inr (Nat.le_trans (Nat.le_trans (Nat.le_refl _) E10.1) (Nat.le_of_eq g11.symm)))).trans K15 (allS (Or.inr (Nat.le_trans (Nat.le_refl _) (Nat.le_of_eq g10.symm))) all0)), (Nat.le_trans (Nat.le_refl _) (Nat.le_of_eq g10.symm)), by rw [own_mk3 h0n h1n h2n h3n]; exact OS15.top, (Em.warm hEL hZ ((((((I0.ext E10).ext E11).wr W12 (Nat.le_trans (Nat.le_trans (Nat.le_refl _) E10.1) (Nat.le_of_eq g11.symm))).wr W13 (Nat.le_trans (Nat.le_trans (Nat.le_refl _) E10.1) (Nat.le_of_eq g11.symm))).wr W14 (Nat.le_trans (Nat.le_trans (Nat.le_refl _) E10.1) (Nat.le_of_eq g11.symm))).keep K15 (allS (Nat.le_trans (Nat.le_refl _) (Nat.le_of_eq g10.symm)) all0)).top X15.warmed)⟩
        · refine OwnEndsW.st (fun t_ k_ => XS.icmpYes X0.here hx rfl (pc0 := 61) (pc' := 87) rfl (hb hby d2_61) rfl (feq (h3n : ¬ (n1 = (3 : Int32)))).2 (by decide) (by decide) k_) ?_
          show OwnEndsW _ _ _ _ _ _ _ (s₁.setTop (mkF m 87 #[.val (.int n1), .val (.int c0), .val (.int c1), .val (.int c2), .val (.int c3)] []))
          obtain ⟨T16, h16, X16, e16, E16, A16, D16, -, st16⟩ := newO X0 hx hZ hown (hw _ (List.mem_of_getElem? (i := 8) rfl)) (hw _ (List.mem_of_getElem? (i := 9) rfl)) (hw _ (List.mem_of_getElem? (i := 10) rfl)) e0 (g := (mkF m 87 #[.val (.int n1), .val (.int c0), .val (.int c1), .val (.int c2), .val (.int c3)] [])) rfl (hb hby d2_87) (by decide) (by decide)
          obtain ⟨b16, g16⟩ : ∃ z, z = h0.size := ⟨_, rfl⟩
          rw [← g16] at A16 D16 st16
          refine OwnEndsW.st st16 ?_
          show OwnEndsW _ _ _ _ _ _ _ (T16.setTop (mkF m 90 #[.val (.int n1), .val (.int c0), .val (.int c1), .val (.int c2), .val (.int c3)] [(.ref b16)]))
          have F_value_b16 : Fld Z h16 b16 "java/lang/String" "value" "[B" .null := D16 (Or.inr (hw _ (List.mem_of_getElem? (i := 24) rfl))) (ty := (.array .byte)) (by decide)
          have F_coder_b16 : Fld Z h16 b16 "java/lang/String" "coder" "B" (.int (0 : Int32)) := D16 (Or.inr (hw _ (List.mem_of_getElem? (i := 25) rfl))) (ty := .byte) (by decide)
          refine OwnEndsW.st (fun t_ k_ => XS.dup X16.here hx rfl (hb hby d2_90) rfl rfl k_) ?_
          show OwnEndsW _ _ _ _ _ _ _ (T16.setTop (mkF m 91 #[.val (.int n1), .val (.int c0), .val (.int c1), .val (.int c2), .val (.int c3)] [(.ref b16), (.ref b16)]))
          refine OwnEndsW.st (fun t_ k_ => XS.iconst X16.here hx rfl (hb hby d2_91) k_) ?_
          show OwnEndsW _ _ _ _ _ _ _ (T16.setTop (mkF m 92 #[.val (.int n1), .val (.int c0), .val (.int c1), .val (.int c2), .val (.int c3)] [(.int (4 : Int32)), (.ref b16), (.ref b16)]))
          obtain ⟨T17, h17, k17, X17, e17, E17, A17, st17⟩ := newP X16 hx hZ (hw _ (List.mem_of_getElem? (i := 11) rfl)) e16 (g := (mkF m 92 #[.val (.int n1), .val (.int c0), .val (.int c1), .val (.int c2), .val (.int c3)] [(.int (4 : Int32)), (.ref b16), (.ref b16)])) rfl (hb hby d2_92) rfl (by decide) (cap := 4) (by decide) (by decide) (by decide) (by decide)
          obtain ⟨b17, g17⟩ : ∃ z, z = h16.size := ⟨_, rfl⟩
          rw [← g17] at A17 st17
          have V_b17 : Arv Z h17 b17 k17 .char (4 : Int32) [(.int (0 : Int32)), (.int (0 : Int32)), (.int (0 : Int32)), (.int (0 : Int32))] (.int (0 : Int32)) := (Arv.new A17 (by decide)).pad (pad_rep [] (.int (0 : Int32)) 4)
          refine OwnEndsW.st st17 ?_
          show OwnEndsW _ _ _ _ _ _ _ (T17.setTop (mkF m 94 #[.val (.int n1), .val (.int c0), .val (.int c1), .val (.int c2), .val (.int c3)] [(.ref b17), (.ref b16), (.ref b16)]))
          refine OwnEndsW.st (fun t_ k_ => XS.dup X17.here hx rfl (hb hby d2_94) rfl rfl k_) ?_
          show OwnEndsW _ _ _ _ _ _ _ (T17.setTop (mkF m 95 #[.val (.int n1), .val (.int c0), .val (.int c1), .val (.int c2), .val (.int c3)] [(.ref b17), (.ref b17), (.ref b16), (.ref b16)]))
          refine OwnEndsW.st (fun t_ k_ => XS.iconst X17.here hx rfl (hb hby d2_95) k_) ?_
          show OwnEndsW _ _ _ _ _ _ _ (T17.setTop (mkF m 96 #[.val (.int n1), .val (.int c0), .val (.int c1), .val (.int c2), .val (.int c3)] [(.int (0 : Int32)), (.ref b17), (.ref b17), (.ref b16), (.ref b16)]))
          refine OwnEndsW.st (fun t_ k_ => XS.iloadN X17.here hx rfl (hb hby d2_96) rfl k_) ?_
          show OwnEndsW _ _ _ _ _ _ _ (T17.setTop (mkF m 97 #[.val (.int n1), .val (.int c0), .val (.int c1), .val (.int c2), .val (.int c3)] [(.int c0), (.int (0 : Int32)), (.ref b17), (.ref b17), (.ref b16), (.ref b16)]))
          obtain ⟨cl18, Ar18, q18, S18, N18', H18, G18⟩ := id V_b17
          have hin18 : ¬ ((0 : Int32) < 0 ∨ cl18.slots.size ≤ ((0 : Int32)).toNatClampNeg) := inb_of S18 ⟨by decide, by decide⟩
          obtain ⟨T18, h18, X18, e18, W18, st18⟩ := stC X17 hx hZ e17 Ar18 (j := (0 : Int32)) hin18 (g := (mkF m 97 #[.val (.int n1), .val (.int c0), .val (.int c1), .val (.int c2), .val (.int c3)] [(.int c0), (.int (0 : Int32)), (.ref b17), (.ref b17), (.ref b16), (.ref b16)])) rfl rfl (hb hby d2_97)
          have V_b17_18 := Arv.set Ar18 q18 S18 N18' H18 G18 (fits_nar_char _) W18 0 rfl (Nat.le_of_ble_eq_true rfl)
          have N18 := Fr.snoc X18 N0 (Nat.le_trans (Nat.le_trans Z0 (Nat.le_trans (Nat.le_refl _) E16.1)) (Nat.le_of_eq g17.symm))
          refine OwnEndsW.st st18 ?_
          show OwnEndsW _ _ _ _ _ _ _ (T18.setTop (mkF m 98 #[.val (.int n1), .val (.int c0), .val (.int c1), .val (.int c2), .val (.int c3)] [(.ref b17), (.ref b16), (.ref b16)]))
          refine OwnEndsW.st (fun t_ k_ => XS.dup X18.here hx rfl (hb hby d2_98) rfl rfl k_) ?_
          show OwnEndsW _ _ _ _ _ _ _ (T18.setTop (mkF m 99 #[.val (.int n1), .val (.int c0), .val (.int c1), .val (.int c2), .val (.int c3)] [(.ref b17), (.ref b17), (.ref b16), (.ref b16)]))
          refine OwnEndsW.st (fun t_ k_ => XS.iconst X18.here hx rfl (hb hby d2_99) k_) ?_
          show OwnEndsW _ _ _ _ _ _ _ (T18.setTop (mkF m 100 #[.val (.int n1), .val (.int c0), .val (.int c1), .val (.int c2), .val (.int c3)] [(.int (1 : Int32)), (.ref b17), (.ref b17), (.ref b16), (.ref b16)]))
          refine OwnEndsW.st (fun t_ k_ => XS.iloadN X18.here hx rfl (hb hby d2_100) rfl k_) ?_
          show OwnEndsW _ _ _ _ _ _ _ (T18.setTop (mkF m 101 #[.val (.int n1), .val (.int c0), .val (.int c1), .val (.int c2), .val (.int c3)] [(.int c1), (.int (1 : Int32)), (.ref b17), (.ref b17), (.ref b16), (.ref b16)]))
          obtain ⟨cl19, Ar19, q19, S19, N19', H19, G19⟩ := id V_b17_18
          have hin19 : ¬ ((1 : Int32) < 0 ∨ cl19.slots.size ≤ ((1 : Int32)).toNatClampNeg) := inb_of S19 ⟨by decide, by decide⟩
          obtain ⟨T19, h19, X19, e19, W19, st19⟩ := stC X18 hx hZ e18 Ar19 (j := (1 : Int32)) hin19 (g := (mkF m 101 #[.val (.int n1), .val (.int c0), .val (.int c1), .val (.int c2), .val (.int c3)] [(.int c1), (.int (1 : Int32)), (.ref b17), (.ref b17), (.ref b16), (.ref b16)])) rfl rfl (hb hby d2_101)
          have V_b17_19 := Arv.set Ar19 q19 S19 N19' H19 G19 (fits_nar_char _) W19 1 rfl (Nat.le_of_ble_eq_true rfl)
          have N19 := Fr.snoc X19 N18 (Nat.le_trans (Nat.le_trans Z0 (Nat.le_trans (Nat.le_refl _) E16.1)) (Nat.le_of_eq g17.symm))
          refine OwnEndsW.st st19 ?_
          show OwnEndsW _ _ _ _ _ _ _ (T19.setTop (mkF m 102 #[.val (.int n1), .val (.int c0), .val (.int c1), .val (.int c2), .val (.int c3)] [(.ref b17), (.ref b16), (.ref b16)]))
          refine OwnEndsW.st (fun t_ k_ => XS.dup X19.here hx rfl (hb hby d2_102) rfl rfl k_) ?_
          show OwnEndsW _ _ _ _ _ _ _ (T19.setTop (mkF m 103 #[.val (.int n1), .val (.int c0), .val (.int c1), .val (.int c2), .val (.int c3)] [(.ref b17), (.ref b17), (.ref b16), (.ref b16)]))
          refine OwnEndsW.st (fun t_ k_ => XS.iconst X19.here hx rfl (hb hby d2_103) k_) ?_
          show OwnEndsW _ _ _ _ _ _ _ (T19.setTop (mkF m 104 #[.val (.int n1), .val (.int c0), .val (.int c1), .val (.int c2), .val (.int c3)] [(.int (2 : Int32)), (.ref b17), (.ref b17), (.ref b16), (.ref b16)]))
          refine OwnEndsW.st (fun t_ k_ => XS.iloadN X19.here hx rfl (hb hby d2_104) rfl k_) ?_
          show OwnEndsW _ _ _ _ _ _ _ (T19.setTop (mkF m 105 #[.val (.int n1), .val (.int c0), .val (.int c1), .val (.int c2), .val (.int c3)] [(.int c2), (.int (2 : Int32)), (.ref b17), (.ref b17), (.ref b16), (.ref b16)]))
          obtain ⟨cl20, Ar20, q20, S20, N20', H20, G20⟩ := id V_b17_19
          have hin20 : ¬ ((2 : Int32) < 0 ∨ cl20.slots.size ≤ ((2 : Int32)).toNatClampNeg) := inb_of S20 ⟨by decide, by decide⟩
          obtain ⟨T20, h20, X20, e20, W20, st20⟩ := stC X19 hx hZ e19 Ar20 (j := (2 : Int32)) hin20 (g := (mkF m 105 #[.val (.int n1), .val (.int c0), .val (.int c1), .val (.int c2), .val (.int c3)] [(.int c2), (.int (2 : Int32)), (.ref b17), (.ref b17), (.ref b16), (.ref b16)])) rfl rfl (hb hby d2_105)
          have V_b17_20 := Arv.set Ar20 q20 S20 N20' H20 G20 (fits_nar_char _) W20 2 rfl (Nat.le_of_ble_eq_true rfl)
          have N20 := Fr.snoc X20 N19 (Nat.le_trans (Nat.le_trans Z0 (Nat.le_trans (Nat.le_refl _) E16.1)) (Nat.le_of_eq g17.symm))
          refine OwnEndsW.st st20 ?_
          show OwnEndsW _ _ _ _ _ _ _ (T20.setTop (mkF m 106 #[.val (.int n1), .val (.int c0), .val (.int c1), .val (.int c2), .val (.int c3)] [(.ref b17), (.ref b16), (.ref b16)]))
          refine OwnEndsW.st (fun t_ k_ => XS.dup X20.here hx rfl (hb hby d2_106) rfl rfl k_) ?_
          show OwnEndsW _ _ _ _ _ _ _ (T20.setTop (mkF m 107 #[.val (.int n1), .val (.int c0), .val (.int c1), .val (.int c2), .val (.int c3)] [(.ref b17), (.ref b17), (.ref b16), (.ref b16)]))
          refine OwnEndsW.st (fun t_ k_ => XS.iconst X20.here hx rfl (hb hby d2_107) k_) ?_
          show OwnEndsW _ _ _ _ _ _ _ (T20.setTop (mkF m 108 #[.val (.int n1), .val (.int c0), .val (.int c1), .val (.int c2), .val (.int c3)] [(.int (3 : Int32)), (.ref b17), (.ref b17), (.ref b16), (.ref b16)]))
          refine OwnEndsW.st (fun t_ k_ => XS.iload X20.here hx rfl (hb hby d2_108) rfl k_) ?_
          show OwnEndsW _ _ _ _ _ _ _ (T20.setTop (mkF m 110 #[.val (.int n1), .val (.int c0), .val (.int c1), .val (.int c2), .val (.int c3)] [(.int c3), (.int (3 : Int32)), (.ref b17), (.ref b17), (.ref b16), (.ref b16)]))
          obtain ⟨cl21, Ar21, q21, S21, N21', H21, G21⟩ := id V_b17_20
          have hin21 : ¬ ((3 : Int32) < 0 ∨ cl21.slots.size ≤ ((3 : Int32)).toNatClampNeg) := inb_of S21 ⟨by decide, by decide⟩
          obtain ⟨T21, h21, X21, e21, W21, st21⟩ := stC X20 hx hZ e20 Ar21 (j := (3 : Int32)) hin21 (g := (mkF m 110 #[.val (.int n1), .val (.int c0), .val (.int c1), .val (.int c2), .val (.int c3)] [(.int c3), (.int (3 : Int32)), (.ref b17), (.ref b17), (.ref b16), (.ref b16)])) rfl rfl (hb hby d2_110)
          have V_b17_21 := Arv.set Ar21 q21 S21 N21' H21 G21 (fits_nar_char _) W21 3 rfl (Nat.le_of_ble_eq_true rfl)
          have N21 := Fr.snoc X21 N20 (Nat.le_trans (Nat.le_trans Z0 (Nat.le_trans (Nat.le_refl _) E16.1)) (Nat.le_of_eq g17.symm))
          refine OwnEndsW.st st21 ?_
          show OwnEndsW _ _ _ _ _ _ _ (T21.setTop (mkF m 111 #[.val (.int n1), .val (.int c0), .val (.int c1), .val (.int c2), .val (.int c3)] [(.ref b17), (.ref b16), (.ref b16)]))
          have Zs21 : n0 ≤ h21.size := (Nat.le_trans Z0 (Nat.le_trans (Nat.le_trans (Nat.le_trans (Nat.le_trans (Nat.le_trans (Nat.le_trans (Nat.le_refl _) E16.1) E17.1) (Keep.of_wr W18).1) (Keep.of_wr W19).1) (Keep.of_wr W20).1) (Keep.of_wr W21).1))
          obtain ⟨_, _, ⟨T22, L22, k22, n22⟩, -, X22, ⟨Lc22, hQ22, l22, y22, z22⟩, st22⟩ := X21.specialBack hx (y := (⟨"java/lang/String", "<init>", "([C)V"⟩ : MethodName)) rfl hown (mvT hZ (hw _ (List.mem_of_getElem? (i := 12) rfl))) (mvT hZ (hw _ (List.mem_of_getElem? (i := 13) rfl))) (mvT hZ (hw _ (List.mem_of_getElem? (i := 14) rfl))) (by decide) (StrChars.Road.backV (W := 1) hZ hws (kI := 4) (hw _ (List.mem_of_getElem? (i := 9) rfl)) (cs := ([nar .char c0, nar .char c1, nar .char c2, nar .char c3] : List Int32)) (bs := (([nar .char c0, nar .char c1, nar .char c2, nar .char c3] : List Int32)).map (fun c => c.toInt8.toInt32)) (n := 4) (Nat.le_trans (Nat.le_trans Z0 (Nat.le_refl _)) (Nat.le_of_eq g16.symm)) Zs21 (((((A16.ext E17).wr W18).wr W19).wr W20).wr W21) (((((F_value_b16.ext E17).other W18 (Or.inl (Nat.ne_of_lt (Nat.lt_of_lt_of_le (A16).lt (Nat.le_of_eq g17.symm))))).other W19 (Or.inl (Nat.ne_of_lt (Nat.lt_of_lt_of_le (A16).lt (Nat.le_of_eq g17.symm))))).other W20 (Or.inl (Nat.ne_of_lt (Nat.lt_of_lt_of_le (A16).lt (Nat.le_of_eq g17.symm))))).other W21 (Or.inl (Nat.ne_of_lt (Nat.lt_of_lt_of_le (A16).lt (Nat.le_of_eq g17.symm))))) (((((F_coder_b16.ext E17).other W18 (Or.inl (Nat.ne_of_lt (Nat.lt_of_lt_of_le (A16).lt (Nat.le_of_eq g17.symm))))).other W19 (Or.inl (Nat.ne_of_lt (Nat.lt_of_lt_of_le (A16).lt (Nat.le_of_eq g17.symm))))).other W20 (Or.inl (Nat.ne_of_lt (Nat.lt_of_lt_of_le (A16).lt (Nat.le_of_eq g17.symm))))).other W21 (Or.inl (Nat.ne_of_lt (Nat.lt_of_lt_of_le (A16).lt (Nat.le_of_eq g17.symm))))) V_b17_21 (S_cs.ext ((((((O0.ext E16).ext E17).wr W18 (Nat.le_trans (Nat.le_trans Z0 (Nat.le_trans (Nat.le_refl _) E16.1)) (Nat.le_of_eq g17.symm))).wr W19 (Nat.le_trans (Nat.le_trans Z0 (Nat.le_trans (Nat.le_refl _) E16.1)) (Nat.le_of_eq g17.symm))).wr W20 (Nat.le_trans (Nat.le_trans Z0 (Nat.le_trans (Nat.le_refl _) E16.1)) (Nat.le_of_eq g17.symm))).wr W21 (Nat.le_trans (Nat.le_trans Z0 (Nat.le_trans (Nat.le_refl _) E16.1)) (Nat.le_of_eq g17.symm))).2) hcz rfl rfl (by decide) (by decide) hp4 rfl (by decide) (by decide)) (g := (mkF m 111 #[.val (.int n1), .val (.int c0), .val (.int c1), .val (.int c2), .val (.int c3)] [(.ref b17), (.ref b16), (.ref b16)])) rfl (by rw [hml]; rfl) (Steps.refl _) (a := b16) (argsL := [(.ref b17)]) (rest := [(.ref b16)]) (lenOf pd_1 rfl) rfl (by show 2 * 0 + _ ≤ _; exact Nat.le_of_eq rfl) (hb hby d2_111) (fun _ _ => ⟨rfl, e21, (by decide : 2 + 1 ≤ _), (by decide : 8 + 4 ≤ _)⟩)
          dsimp only [Pt.U, Pt.locs, Pt.cells, Pt.slots] at X22 l22 y22 z22 st22 hQ22
          subst l22 y22 z22
          obtain ⟨rfl, N22q, K22, Es22, Cs22, t22, kb22, u22, v22, w22, Vs22, As22⟩ := hQ22
          have N22 := Fr.app N21 N22q
          refine OwnEndsW.go st22 ?_
          show OwnEndsW _ _ _ _ _ _ _ (T22.setTop (mkF m 114 #[.val (.int n1), .val (.int c0), .val (.int c1), .val (.int c2), .val (.int c3)] [(.ref b16)]))
          have OS22 : OStr Z T22.heap b16 ([nar .char c0, nar .char c1, nar .char c2, nar .char c3] : List Int32) T22.heap.size := OStr.made Es22 Cs22 Vs22 As22 rfl rfl hp4 (Nat.le_of_ble_eq_true rfl)
          refine own_retWA F0 X22 (Nat.le_trans (Nat.le_trans (Nat.le_trans (Nat.le_trans (Nat.le_trans (Nat.le_trans (Nat.le_trans (Nat.le_refl _) E16.1) E17.1) (Keep.of_wr W18).1) (Keep.of_wr W19).1) (Keep.of_wr W20).1) (Keep.of_wr W21).1) K22.1) hx Bd.returns Bd.notSynchronized rfl rfl (hb hby d2_114) ?_ (by decide) (by decide)
          show Q2 Z n1 c0 c1 c2 c3 cz h0 n0 _ T22.vm T22.heap _
          exact ⟨b16, rfl, N22, ((((((((Keep.refl h0 []).ext E16).ext E17).wr W18 (Or.inr (Nat.le_trans (Nat.le_trans (Nat.le_refl _) E16.1) (Nat.le_of_eq g17.symm)))).wr W19 (Or.inr (Nat.le_trans (Nat.le_trans (Nat.le_refl _) E16.1) (Nat.le_of_eq g17.symm)))).wr W20 (Or.inr (Nat.le_trans (Nat.le_trans (Nat.le_refl _) E16.1) (Nat.le_of_eq g17.symm)))).wr W21 (Or.inr (Nat.le_trans (Nat.le_trans (Nat.le_refl _) E16.1) (Nat.le_of_eq g17.symm)))).trans K22 (allS (Or.inr (Nat.le_trans (Nat.le_refl _) (Nat.le_of_eq g16.symm))) all0)), (Nat.le_trans (Nat.le_refl _) (Nat.le_of_eq g16.symm)), by rw [own_mk4 h0n h1n h2n h3n]; exact OS22.top, (Em.warm hEL hZ (((((((I0.ext E16).ext E17).wr W18 (Nat.le_trans (Nat.le_trans (Nat.le_refl _) E16.1) (Nat.le_of_eq g17.symm))).wr W19 (Nat.le_trans (Nat.le_trans (Nat.le_refl _) E16.1) (Nat.le_of_eq g17.symm))).wr W20 (Nat.le_trans (Nat.le_trans (Nat.le_refl _) E16.1) (Nat.le_of_eq g17.symm))).wr W21 (Nat.le_trans (Nat.le_trans (Nat.le_refl _) E16.1) (Nat.le_of_eq g17.symm))).keep K22 (allS (Nat.le_trans (Nat.le_refl _) (Nat.le_of_eq g16.symm)) all0)).top X22.warmed)⟩
  · refine OwnEndsW.st (fun t_ k_ => XS.ifNo X0.here hx rfl (hb hby d2_1) rfl ((if0 _ _).trans (flt (h0n : ¬ ((0 : Int32) < n1))).2.2.1) k_) ?_
    show OwnEndsW _ _ _ _ _ _ _ (s₁.setTop (mkF m 4 #[.val (.int n1), .val (.int c0), .val (.int c1), .val (.int c2), .val (.int c3)] []))
    obtain ⟨T23, h23, X23, e23, E23, A23, D23, -, st23⟩ := newO X0 hx hZ hown (hw _ (List.mem_of_getElem? (i := 8) rfl)) (hw _ (List.mem_of_getElem? (i := 9) rfl)) (hw _ (List.mem_of_getElem? (i := 10) rfl)) e0 (g := (mkF m 4 #[.val (.int n1), .val (.int c0), .val (.int c1), .val (.int c2), .val (.int c3)] [])) rfl (hb hby d2_4) (by decide) (by decide)
    obtain ⟨b23, g23⟩ : ∃ z, z = h0.size := ⟨_, rfl⟩
    rw [← g23] at A23 D23 st23
    refine OwnEndsW.st st23 ?_
    show OwnEndsW _ _ _ _ _ _ _ (T23.setTop (mkF m 7 #[.val (.int n1), .val (.int c0), .val (.int c1), .val (.int c2), .val (.int c3)] [(.ref b23)]))
    have F_value_b23 : Fld Z h23 b23 "java/lang/String" "value" "[B" .null := D23 (Or.inr (hw _ (List.mem_of_getElem? (i := 24) rfl))) (ty := (.array .byte)) (by decide)
    have F_coder_b23 : Fld Z h23 b23 "java/lang/String" "coder" "B" (.int (0 : Int32)) := D23 (Or.inr (hw _ (List.mem_of_getElem? (i := 25) rfl))) (ty := .byte) (by decide)
    refine OwnEndsW.st (fun t_ k_ => XS.dup X23.here hx rfl (hb hby d2_7) rfl rfl k_) ?_
    show OwnEndsW _ _ _ _ _ _ _ (T23.setTop (mkF m 8 #[.val (.int n1), .val (.int c0), .val (.int c1), .val (.int c2), .val (.int c3)] [(.ref b23), (.ref b23)]))
    refine OwnEndsW.st (fun t_ k_ => XS.iconst X23.here hx rfl (hb hby d2_8) k_) ?_
    show OwnEndsW _ _ _ _ _ _ _ (T23.setTop (mkF m 9 #[.val (.int n1), .val (.int c0), .val (.int c1), .val (.int c2), .val (.int c3)] [(.int (0 : Int32)), (.ref b23), (.ref b23)]))
    obtain ⟨T24, h24, k24, X24, e24, E24, A24, st24⟩ := newP X23 hx hZ (hw _ (List.mem_of_getElem? (i := 11) rfl)) e23 (g := (mkF m 9 #[.val (.int n1), .val (.int c0), .val (.int c1), .val (.int c2), .val (.int c3)] [(.int (0 : Int32)), (.ref b23), (.ref b23)])) rfl (hb hby d2_9) rfl (by decide) (cap := 0) (by decide) (by decide) (by decide) (by decide)
    obtain ⟨b24, g24⟩ : ∃ z, z = h23.size := ⟨_, rfl⟩
    rw [← g24] at A24 st24
    have V_b24 : Arv Z h24 b24 k24 .char (0 : Int32) [] (.int (0 : Int32)) := Arv.new A24 (by decide)
    refine OwnEndsW.st st24 ?_
    show OwnEndsW _ _ _ _ _ _ _ (T24.setTop (mkF m 11 #[.val (.int n1), .val (.int c0), .val (.int c1), .val (.int c2), .val (.int c3)] [(.ref b24), (.ref b23), (.ref b23)]))
    have Zc24 : n0 ≤ h24.size := (Nat.le_trans Z0 (Nat.le_trans (Nat.le_trans (Nat.le_refl _) E23.1) E24.1))
    obtain ⟨_, _, ⟨T25, L25, k25, n25⟩, -, X25p, hS25, hg25, ⟨Lc25, hQ25, l25, y25, z25⟩, st25⟩ := X24.specialBackS hx (y := (⟨"java/lang/String", "<init>", "([C)V"⟩ : MethodName)) rfl hown (mvT hZ (hw _ (List.mem_of_getElem? (i := 12) rfl))) (mvT hZ (hw _ (List.mem_of_getElem? (i := 13) rfl))) (mvT hZ (hw _ (List.mem_of_getElem? (i := 14) rfl))) (by decide) (backOfW (W := 1) (P := fun vm_ => Em Z vm_ h24 h0.size) (rm3 l Z a0 hw [] b23 b24 h0.size _ h24 n0 Zc24 (Nat.le_trans (Nat.le_trans Z0 (Nat.le_refl _)) (Nat.le_of_eq g23.symm)) (Nat.le_trans (Nat.le_refl _) (Nat.le_of_eq g23.symm)) (A23.ext E24) (F_value_b23.ext E24) (F_coder_b23.ext E24) V_b24 hEL) hZ (fun vm_ hv_ => Em.warm hEL hZ ((I0.ext E23).ext E24) hv_) (hw _ (List.mem_of_getElem? (i := 14) rfl)) (hw _ (List.mem_of_getElem? (i := 10) rfl)) (by decide) (by decide)) (g := (mkF m 11 #[.val (.int n1), .val (.int c0), .val (.int c1), .val (.int c2), .val (.int c3)] [(.ref b24), (.ref b23), (.ref b23)])) rfl (by rw [hml]; rfl) (Steps.refl _) (a := b23) (argsL := [(.ref b24)]) (rest := [(.ref b23)]) (lenOf pd_1 rfl) rfl (by show 2 * 0 + _ ≤ _; exact Nat.le_of_eq rfl) (hb hby d2_11) (fun _ _ => ⟨rfl, e24, (by decide : 2 + 2 ≤ _), (by decide : 4 + 4 ≤ _)⟩)
    dsimp only [Pt.U, Pt.locs, Pt.cells, Pt.slots] at X25p hS25 hg25 l25 y25 z25 st25 hQ25
    subst l25 y25 z25
    obtain ⟨rfl, N25q, K25, Ob25, Iq25⟩ := hQ25
    have N25 := Fr.app N0 N25q
    obtain ⟨sb25, ev25, X25, F25, hZ, hown⟩ := own_reb F0 (by rw [e24]; exact (Nat.le_trans (Nat.le_trans (Nat.le_refl _) E23.1) E24.1)) hZ hown X25p hS25 hg25
    have I25 : Em Z sb25.vm T25.heap T25.heap.size := by rw [ev25]; exact Iq25
    refine OwnEndsW.go st25 ?_
    show OwnEndsW _ _ _ _ _ _ _ (T25.setTop (mkF m 14 #[.val (.int n1), .val (.int c0), .val (.int c1), .val (.int c2), .val (.int c3)] [(.ref b23)]))
    refine own_retWA F25 X25 (Nat.le_refl _) hx Bd.returns Bd.notSynchronized rfl rfl (hb hby d2_14) ?_ (by decide) (by decide)
    show Q2 Z n1 c0 c1 c2 c3 cz h0 n0 _ T25.vm T25.heap _
    exact ⟨b23, rfl, N25, ((((Keep.refl h0 []).ext E23).ext E24).trans K25 (allS (Or.inr (Nat.le_trans (Nat.le_refl _) (Nat.le_of_eq g23.symm))) all0)), (Nat.le_trans (Nat.le_refl _) (Nat.le_of_eq g23.symm)), by rw [own_mk0 h0n]; exact Ob25.top, (Em.warm hEL hZ I25.top X25.warmed)⟩
theorem d9_0 : decode jdk_42_method_152_code 0 = .ok (.getstatic 38, 3) := by decide +kernel
theorem d9_3 : decode jdk_42_method_152_code 3 = .ok (.ifCond .eq 10, 3) := by decide +kernel
theorem d9_6 : decode jdk_42_method_152_code 6 = .ok (.aload_n 0, 1) := by decide +kernel
theorem d9_7 : decode jdk_42_method_152_code 7 = .ok (.getfield 15, 3) := by decide +kernel
theorem d9_10 : decode jdk_42_method_152_code 10 = .ok (.goto 4, 3) := by decide +kernel
theorem d9_14 : decode jdk_42_method_152_code 14 = .ok (.ireturn, 1) := by decide +kernel
theorem ef_9 (m : MethodId) (x0 : Addr) : entryFrame m #[(.ref x0)] 1 = mkF m 0 #[.val (.ref x0)] [] := by first | (simp [entryFrame, mkF, argsToLocals, Value.category]; done) | rfl
def Q9 (Z : State) (s1 : Addr) (cz : Int32) (h0 : Heap) (n0 : Nat) (v : Option Value) (h : Heap) (L : List Loc) : Prop := v = some (.int 0) ∧ Fr n0 L ∧ h = h0
set_option maxRecDepth 65536 in
set_option maxHeartbeats 40000000 in
theorem rm9 (l : Launch) (Z : State) (a0 : Array Value) (hw : ∀ d ∈ tables_1, d.before a0 Z = true) (ws : List Jvm.Cond) (s1 : Addr) (cz : Int32) (h0 : Heap) (n0 : Nat) (Z0 : n0 ≤ h0.size) (Cs : Fld Z h0 s1 "java/lang/String" "coder" "B" (.int 0)) (S_cs : Sta Z Z.heap "java/lang/String" "COMPACT_STRINGS" "Z" (.int cz)) (hcz : ¬ cz = 0) (O0 : Old Z n0 h0) :
    MetFree l (⟨"java/lang/String", "coder", "()B"⟩ : MethodName) (head1 (Jvm.Cond.code (⟨"java/lang/String", "coder", "()B"⟩ : MethodName) jdk_42_method_152_code 1 (some .byte) :: ws) ({ frames := 0, cells := 0, slots := 0, locals := 0 } : Room)) (fun ar_ U_ => ar_ = #[(.ref s1)] ∧ Z.Warmed39 U_.vm ∧ U_.heap = h0) (fun _ _ _ _ _ => True) (fun _ U_ oc_ Ue_ => ∃ v_ L_, oc_ = .returned v_ ∧ Q9 Z s1 cz h0 n0 v_ Ue_.heap L_ ∧ FrameEnd U_ oc_ Ue_ L_ ({ frames := 0, cells := 0, slots := 0, locals := 0 } : Room).cells ({ frames := 0, cells := 0, slots := 0, locals := 0 } : Room).slots) := by
  refine MetFree.of_bodySF (plainFor_of_name pn_1) hisR ?_
  intro p e s m args below meth c s₁ Bd hml0 hP hK
  obtain ⟨rfl, hZ, hh⟩ := hP
  have hx := Bd.exec
  have hby := Bd.bytes
  have hml : c.maxLocals = 1 := hml0
  have hown : s.vm.findClass "java/lang/String" = some m.cls := findClass_of_methodNamed Bd.named
  have hnm := (name_of_methodNamed Bd.named Bd.method).1
  have X0 : Stand p l e ({ frames := 0, cells := 0, slots := 0, locals := 0 } : Room) s m #[(.ref s1)] below meth c s₁ [] 0 0 := Stand.of_body Bd
  have e0 : s₁.heap = h0 := by rw [← hh, Bd.state]; rfl
  have N0 := Fr.nil n0
  show OwnEnds p e below s (Q9 Z s1 cz h0 n0) ({ frames := 0, cells := 0, slots := 0, locals := 0 } : Room).cells ({ frames := 0, cells := 0, slots := 0, locals := 0 } : Room).slots (s₁.setTop (entryFrame m #[(.ref s1)] 1))
  rw [ef_9]
  show OwnEnds _ _ _ _ _ _ _ (s₁.setTop (mkF m 0 #[.val (.ref s1)] []))
  obtain ⟨T1, X1, e1, st1⟩ := getS2 X0 hx hZ hown (host := "") (Or.inl (hw _ (List.mem_of_getElem? (i := 49) rfl))) Via.refl e0 (S_cs.ext O0.2) (g := (mkF m 0 #[.val (.ref s1)] [])) rfl (hb hby d9_0)
  refine OwnEnds.st st1 ?_
  show OwnEnds _ _ _ _ _ _ _ (T1.setTop (mkF m 3 #[.val (.ref s1)] [(.int cz)]))
  refine OwnEnds.st (fun t_ k_ => XS.ifNo X1.here hx rfl (hb hby d9_3) rfl ((if0 _ _).trans (feq (hcz : ¬ (cz = (0 : Int32)))).1) k_) ?_
  show OwnEnds _ _ _ _ _ _ _ (T1.setTop (mkF m 6 #[.val (.ref s1)] []))
  refine OwnEnds.st (fun t_ k_ => XS.aloadN X1.here hx rfl (hb hby d9_6) rfl rfl k_) ?_
  show OwnEnds _ _ _ _ _ _ _ (T1.setTop (mkF m 7 #[.val (.ref s1)] [(.ref s1)]))
  obtain ⟨T2, X2, e2, st2⟩ := getF X1 hx hZ hown (host := "") (Or.inl (hw _ (List.mem_of_getElem? (i := 29) rfl))) Via.refl e1 Cs (g := (mkF m 7 #[.val (.ref s1)] [(.ref s1)])) rfl rfl (hb hby d9_7)
  refine OwnEnds.st st2 ?_
  show OwnEnds _ _ _ _ _ _ _ (T2.setTop (mkF m 10 #[.val (.ref s1)] [(.int (0 : Int32))]))
  refine OwnEnds.st (fun t_ k_ => XS.goto X2.here hx rfl (pc0 := 10) (pc' := 14) rfl (hb hby d9_10) (by decide) (by decide) k_) ?_
  show OwnEnds _ _ _ _ _ _ _ (T2.setTop (mkF m 14 #[.val (.ref s1)] [(.int (0 : Int32))]))
  refine own_retN (t := .byte) X2 hx Bd.returns Bd.notSynchronized (by simp) (hb hby d9_14) ?_ (by decide) (by decide)
  show Q9 Z s1 cz h0 n0 _ T2.heap _
  rw [e2]
  exact ⟨rfl, N0, rfl⟩
theorem d11_0 : decode jdk_42_method_154_code 0 = .ok (.getstatic 38, 3) := by decide +kernel
theorem d11_3 : decode jdk_42_method_154_code 3 = .ok (.ifCond .eq 14, 3) := by decide +kernel
theorem d11_6 : decode jdk_42_method_154_code 6 = .ok (.aload_n 0, 1) := by decide +kernel
theorem d11_7 : decode jdk_42_method_154_code 7 = .ok (.getfield 15, 3) := by decide +kernel
theorem d11_10 : decode jdk_42_method_154_code 10 = .ok (.ifCond .ne 7, 3) := by decide +kernel
theorem d11_13 : decode jdk_42_method_154_code 13 = .ok (.iconst 1, 1) := by decide +kernel
theorem d11_14 : decode jdk_42_method_154_code 14 = .ok (.goto 4, 3) := by decide +kernel
theorem d11_18 : decode jdk_42_method_154_code 18 = .ok (.ireturn, 1) := by decide +kernel
theorem ef_11 (m : MethodId) (x0 : Addr) : entryFrame m #[(.ref x0)] 1 = mkF m 0 #[.val (.ref x0)] [] := by first | (simp [entryFrame, mkF, argsToLocals, Value.category]; done) | rfl
def Q11 (Z : State) (s1 : Addr) (cz : Int32) (h0 : Heap) (n0 : Nat) (v : Option Value) (h : Heap) (L : List Loc) : Prop := v = some (.int 1) ∧ Fr n0 L ∧ h = h0
set_option maxRecDepth 65536 in
set_option maxHeartbeats 40000000 in
theorem rm11 (l : Launch) (Z : State) (a0 : Array Value) (hw : ∀ d ∈ tables_1, d.before a0 Z = true) (ws : List Jvm.Cond) (s1 : Addr) (cz : Int32) (h0 : Heap) (n0 : Nat) (Z0 : n0 ≤ h0.size) (Cs : Fld Z h0 s1 "java/lang/String" "coder" "B" (.int 0)) (S_cs : Sta Z Z.heap "java/lang/String" "COMPACT_STRINGS" "Z" (.int cz)) (hcz : ¬ cz = 0) (O0 : Old Z n0 h0) :
    MetFree l (⟨"java/lang/String", "isLatin1", "()Z"⟩ : MethodName) (head1 (Jvm.Cond.code (⟨"java/lang/String", "isLatin1", "()Z"⟩ : MethodName) jdk_42_method_154_code 1 (some .boolean) :: ws) ({ frames := 0, cells := 0, slots := 0, locals := 0 } : Room)) (fun ar_ U_ => ar_ = #[(.ref s1)] ∧ Z.Warmed39 U_.vm ∧ U_.heap = h0) (fun _ _ _ _ _ => True) (fun _ U_ oc_ Ue_ => ∃ v_ L_, oc_ = .returned v_ ∧ Q11 Z s1 cz h0 n0 v_ Ue_.heap L_ ∧ FrameEnd U_ oc_ Ue_ L_ ({ frames := 0, cells := 0, slots := 0, locals := 0 } : Room).cells ({ frames := 0, cells := 0, slots := 0, locals := 0 } : Room).slots) := by
  refine MetFree.of_bodySF (plainFor_of_name pn_1) hisR ?_
  intro p e s m args below meth c s₁ Bd hml0 hP hK
  obtain ⟨rfl, hZ, hh⟩ := hP
  have hx := Bd.exec
  have hby := Bd.bytes
  have hml : c.maxLocals = 1 := hml0
  have hown : s.vm.findClass "java/lang/String" = some m.cls := findClass_of_methodNamed Bd.named
  have hnm := (name_of_methodNamed Bd.named Bd.method).1
  have X0 : Stand p l e ({ frames := 0, cells := 0, slots := 0, locals := 0 } : Room) s m #[(.ref s1)] below meth c s₁ [] 0 0 := Stand.of_body Bd
  have e0 : s₁.heap = h0 := by rw [← hh, Bd.state]; rfl
  have N0 := Fr.nil n0
  show OwnEnds p e below s (Q11 Z s1 cz h0 n0) ({ frames := 0, cells := 0, slots := 0, locals := 0 } : Room).cells ({ frames := 0, cells := 0, slots := 0, locals := 0 } : Room).slots (s₁.setTop (entryFrame m #[(.ref s1)] 1))
  rw [ef_11]
  show OwnEnds _ _ _ _ _ _ _ (s₁.setTop (mkF m 0 #[.val (.ref s1)] []))
  obtain ⟨T1, X1, e1, st1⟩ := getS2 X0 hx hZ hown (host := "") (Or.inl (hw _ (List.mem_of_getElem? (i := 49) rfl))) Via.refl e0 (S_cs.ext O0.2) (g := (mkF m 0 #[.val (.ref s1)] [])) rfl (hb hby d11_0)
  refine OwnEnds.st st1 ?_
  show OwnEnds _ _ _ _ _ _ _ (T1.setTop (mkF m 3 #[.val (.ref s1)] [(.int cz)]))
  refine OwnEnds.st (fun t_ k_ => XS.ifNo X1.here hx rfl (hb hby d11_3) rfl ((if0 _ _).trans (feq (hcz : ¬ (cz = (0 : Int32)))).1) k_) ?_
  show OwnEnds _ _ _ _ _ _ _ (T1.setTop (mkF m 6 #[.val (.ref s1)] []))
  refine OwnEnds.st (fun t_ k_ => XS.aloadN X1.here hx rfl (hb hby d11_6) rfl rfl k_) ?_
  show OwnEnds _ _ _ _ _ _ _ (T1.setTop (mkF m 7 #[.val (.ref s1)] [(.ref s1)]))
  obtain ⟨T2, X2, e2, st2⟩ := getF X1 hx hZ hown (host := "") (Or.inl (hw _ (List.mem_of_getElem? (i := 29) rfl))) Via.refl e1 Cs (g := (mkF m 7 #[.val (.ref s1)] [(.ref s1)])) rfl rfl (hb hby d11_7)
  refine OwnEnds.st st2 ?_
  show OwnEnds _ _ _ _ _ _ _ (T2.setTop (mkF m 10 #[.val (.ref s1)] [(.int (0 : Int32))]))
  refine OwnEnds.st (fun t_ k_ => XS.ifNo X2.here hx rfl (hb hby d11_10) rfl ((if0 _ _).trans (teq (rfl : (0 : Int32) = (0 : Int32))).2) k_) ?_
  show OwnEnds _ _ _ _ _ _ _ (T2.setTop (mkF m 13 #[.val (.ref s1)] []))
  refine OwnEnds.st (fun t_ k_ => XS.iconst X2.here hx rfl (hb hby d11_13) k_) ?_
  show OwnEnds _ _ _ _ _ _ _ (T2.setTop (mkF m 14 #[.val (.ref s1)] [(.int (1 : Int32))]))
  refine OwnEnds.st (fun t_ k_ => XS.goto X2.here hx rfl (pc0 := 14) (pc' := 18) rfl (hb hby d11_14) (by decide) (by decide) k_) ?_
  show OwnEnds _ _ _ _ _ _ _ (T2.setTop (mkF m 18 #[.val (.ref s1)] [(.int (1 : Int32))]))
  refine own_retN (t := .boolean) X2 hx Bd.returns Bd.notSynchronized (by simp) (hb hby d11_18) ?_ (by decide) (by decide)
  show Q11 Z s1 cz h0 n0 _ T2.heap _
  rw [e2]
  exact ⟨rfl, N0, rfl⟩
theorem d8_0 : decode jdk_42_method_54_code 0 = .ok (.aload_n 0, 1) := by decide +kernel
theorem d8_1 : decode jdk_42_method_54_code 1 = .ok (.getfield 9, 3) := by decide +kernel
theorem d8_4 : decode jdk_42_method_54_code 4 = .ok (.arraylength, 1) := by decide +kernel
theorem d8_5 : decode jdk_42_method_54_code 5 = .ok (.aload_n 0, 1) := by decide +kernel
theorem d8_6 : decode jdk_42_method_54_code 6 = .ok (.invokevirtual 335, 3) := by decide +kernel
theorem d8_9 : decode jdk_42_method_54_code 9 = .ok (.ishr, 1) := by decide +kernel
theorem d8_10 : decode jdk_42_method_54_code 10 = .ok (.ireturn, 1) := by decide +kernel
theorem ef_8 (m : MethodId) (x0 : Addr) : entryFrame m #[(.ref x0)] 1 = mkF m 0 #[.val (.ref x0)] [] := by first | (simp [entryFrame, mkF, argsToLocals, Value.category]; done) | rfl
def Q8 (Z : State) (s1 : Addr) (t1 : Addr) (kb : ClassId) (cs : List Int32) (nn : Nat) (cz : Int32) (h0 : Heap) (n0 : Nat) (v : Option Value) (h : Heap) (L : List Loc) : Prop := v = some (.int (Int32.ofNat nn)) ∧ Fr n0 L ∧ h = h0
set_option maxRecDepth 65536 in
set_option maxHeartbeats 40000000 in
theorem rm8 (l : Launch) (Z : State) (a0 : Array Value) (hw : ∀ d ∈ tables_1, d.before a0 Z = true) (ws : List Jvm.Cond) (s1 : Addr) (t1 : Addr) (kb : ClassId) (cs : List Int32) (nn : Nat) (cz : Int32) (h0 : Heap) (n0 : Nat) (Z0 : n0 ≤ h0.size) (Es : Exa Z h0 s1 "java/lang/String") (Vs : Fld Z h0 s1 "java/lang/String" "value" "[B" (.ref t1)) (Cs : Fld Z h0 s1 "java/lang/String" "coder" "B" (.int 0)) (At : Arv Z h0 t1 kb .byte (Int32.ofNat nn) ((cs.map (fun c => c.toInt8.toInt32)).map Value.int) (.int 0)) (S_cs : Sta Z Z.heap "java/lang/String" "COMPACT_STRINGS" "Z" (.int cz)) (hcz : ¬ cz = 0) (O0 : Old Z n0 h0) :
    MetFree l (⟨"java/lang/String", "length", "()I"⟩ : MethodName) (head1 (Jvm.Cond.code (⟨"java/lang/String", "length", "()I"⟩ : MethodName) jdk_42_method_54_code 1 (some .int) :: ws) ({ frames := 1, cells := 0, slots := 0, locals := 13 } : Room)) (fun ar_ U_ => ar_ = #[(.ref s1)] ∧ Z.Warmed39 U_.vm ∧ U_.heap = h0) (fun _ _ _ _ _ => True) (fun _ U_ oc_ Ue_ => ∃ v_ L_, oc_ = .returned v_ ∧ Q8 Z s1 t1 kb cs nn cz h0 n0 v_ Ue_.heap L_ ∧ FrameEnd U_ oc_ Ue_ L_ ({ frames := 1, cells := 0, slots := 0, locals := 13 } : Room).cells ({ frames := 1, cells := 0, slots := 0, locals := 13 } : Room).slots) := by
  refine MetFree.of_bodySF (plainFor_of_name pn_1) hisR ?_
  intro p e s m args below meth c s₁ Bd hml0 hP hK
  obtain ⟨rfl, hZ, hh⟩ := hP
  have hx := Bd.exec
  have hby := Bd.bytes
  have hml : c.maxLocals = 1 := hml0
  have hown : s.vm.findClass "java/lang/String" = some m.cls := findClass_of_methodNamed Bd.named
  have hnm := (name_of_methodNamed Bd.named Bd.method).1
  have X0 : Stand p l e ({ frames := 1, cells := 0, slots := 0, locals := 13 } : Room) s m #[(.ref s1)] below meth c s₁ [] 0 0 := Stand.of_body Bd
  have e0 : s₁.heap = h0 := by rw [← hh, Bd.state]; rfl
  have N0 := Fr.nil n0
  show OwnEnds p e below s (Q8 Z s1 t1 kb cs nn cz h0 n0) ({ frames := 1, cells := 0, slots := 0, locals := 13 } : Room).cells ({ frames := 1, cells := 0, slots := 0, locals := 13 } : Room).slots (s₁.setTop (entryFrame m #[(.ref s1)] 1))
  rw [ef_8]
  show OwnEnds _ _ _ _ _ _ _ (s₁.setTop (mkF m 0 #[.val (.ref s1)] []))
  refine OwnEnds.st (fun t_ k_ => XS.aloadN X0.here hx rfl (hb hby d8_0) rfl rfl k_) ?_
  show OwnEnds _ _ _ _ _ _ _ (s₁.setTop (mkF m 1 #[.val (.ref s1)] [(.ref s1)]))
  obtain ⟨T1, X1, e1, st1⟩ := getF X0 hx hZ hown (host := "") (Or.inl (hw _ (List.mem_of_getElem? (i := 28) rfl))) Via.refl e0 Vs (g := (mkF m 1 #[.val (.ref s1)] [(.ref s1)])) rfl rfl (hb hby d8_1)
  refine OwnEnds.st st1 ?_
  show OwnEnds _ _ _ _ _ _ _ (T1.setTop (mkF m 4 #[.val (.ref s1)] [(.ref t1)]))
  obtain ⟨cl2, Ar2, -, S2, N2', -, -⟩ := id At
  refine OwnEnds.st (fun t_ k_ => X1.arraylength hx (heq_ e1 Ar2.1) (State.isArrayOf_alike hZ.alike Ar2.2.1) (g := (mkF m 4 #[.val (.ref s1)] [(.ref t1)])) rfl rfl (hb hby d8_4) t_ k_) ?_
  rw [len_of S2 N2']
  show OwnEnds _ _ _ _ _ _ _ (T1.setTop (mkF m 5 #[.val (.ref s1)] [(.int (Int32.ofNat nn))]))
  refine OwnEnds.st (fun t_ k_ => XS.aloadN X1.here hx rfl (hb hby d8_5) rfl rfl k_) ?_
  show OwnEnds _ _ _ _ _ _ _ (T1.setTop (mkF m 6 #[.val (.ref s1)] [(.ref s1), (.int (Int32.ofNat nn))]))
  obtain ⟨cq3, kq3, q3a, q3b, q3c⟩ := isOf hZ e1 (Es)
  obtain ⟨_, _, ⟨T3, L3, k3, n3⟩, -, X3, ⟨Lc3, hQ3, l3, y3, z3⟩, st3⟩ := X1.virtualBack hx (y := (⟨"java/lang/String", "coder", "()B"⟩ : MethodName)) (z := (⟨"java/lang/String", "coder", "()B"⟩ : MethodName)) hown (mvT hZ (hw _ (List.mem_of_getElem? (i := 44) rfl))) (mvT hZ (hw _ (List.mem_of_getElem? (i := 45) rfl))) (notFace_of_selects (args := #[]) (mvT hZ (hw _ (List.mem_of_getElem? (i := 47) rfl)))) (mvT hZ (hw _ (List.mem_of_getElem? (i := 47) rfl))) (mvT hZ (hw _ (List.mem_of_getElem? (i := 46) rfl))) (by decide) (backOf (W := 1) (rm9 l Z a0 hw [] s1 cz h0 n0 Z0 Cs S_cs hcz O0) hZ (hw _ (List.mem_of_getElem? (i := 48) rfl)) (hw _ (List.mem_of_getElem? (i := 10) rfl)) (by decide) (by decide)) q3a q3c (g := (mkF m 6 #[.val (.ref s1)] [(.ref s1), (.int (Int32.ofNat nn))])) rfl (by rw [hml]; rfl) (Steps.refl _) (argsL := []) (rest := [(.int (Int32.ofNat nn))]) (lenOf pd_2 rfl) rfl (by show 2 * 0 + _ ≤ _; exact Nat.le_of_eq rfl) (hb hby d8_6) (fun _ _ => ⟨rfl, e1, (by decide : 0 + 0 ≤ _), (by decide : 0 + 0 ≤ _)⟩)
  dsimp only [Pt.U, Pt.locs, Pt.cells, Pt.slots] at X3 l3 y3 z3 st3 hQ3
  subst l3 y3 z3
  obtain ⟨rfl, N3q, hh3⟩ := hQ3
  have N3 := Fr.app N0 N3q
  refine OwnEnds.go st3 ?_
  show OwnEnds _ _ _ _ _ _ _ (T3.setTop (mkF m 9 #[.val (.ref s1)] [(.int (0 : Int32)), (.int (Int32.ofNat nn))]))
  refine OwnEnds.st (fun t_ k_ => XS.ishr X3.here hx rfl (hb hby d8_9) rfl k_) ?_
  show OwnEnds _ _ _ _ _ _ _ (T3.setTop (mkF m 10 #[.val (.ref s1)] [(.int ((Int32.ofNat nn) >>> ((0 : Int32) &&& 31)))]))
  refine own_retI X3 hx Bd.returns Bd.notSynchronized (hb hby d8_10) ?_ (by decide) (by decide)
  show Q8 Z s1 t1 kb cs nn cz h0 n0 _ T3.heap _
  rw [hh3]
  exact ⟨congrArg (fun z => some (Value.int z)) (own_shr0 _), N3, rfl⟩
theorem d13_0 : decode jdk_43_method_4_code 0 = .ok (.iload_n 0, 1) := by decide +kernel
theorem d13_1 : decode jdk_43_method_4_code 1 = .ok (.ifCond .lt 14, 3) := by decide +kernel
theorem d13_4 : decode jdk_43_method_4_code 4 = .ok (.iload_n 0, 1) := by decide +kernel
theorem d13_5 : decode jdk_43_method_4_code 5 = .ok (.sipush 255, 3) := by decide +kernel
theorem d13_8 : decode jdk_43_method_4_code 8 = .ok (.if_icmp .gt 7, 3) := by decide +kernel
theorem d13_11 : decode jdk_43_method_4_code 11 = .ok (.iconst 1, 1) := by decide +kernel
theorem d13_12 : decode jdk_43_method_4_code 12 = .ok (.goto 4, 3) := by decide +kernel
theorem d13_16 : decode jdk_43_method_4_code 16 = .ok (.ireturn, 1) := by decide +kernel
theorem ef_13 (m : MethodId) (x0 : Int32) : entryFrame m #[(.int x0)] 1 = mkF m 0 #[.val (.int x0)] [] := by first | (simp [entryFrame, mkF, argsToLocals, Value.category]; done) | rfl
def Q13 (Z : State)  (h0 : Heap) (n0 : Nat) (v : Option Value) (h : Heap) (L : List Loc) : Prop := v = some (.int 1) ∧ Fr n0 L ∧ h = h0
set_option maxRecDepth 65536 in
set_option maxHeartbeats 40000000 in
theorem rm13 (l : Launch) (Z : State) (a0 : Array Value) (hw : ∀ d ∈ tables_1, d.before a0 Z = true) (ws : List Jvm.Cond)  (h0 : Heap) (n0 : Nat) (Z0 : n0 ≤ h0.size) :
    MetFree l (⟨"java/lang/StringLatin1", "canEncode", "(I)Z"⟩ : MethodName) (head1 (Jvm.Cond.code (⟨"java/lang/StringLatin1", "canEncode", "(I)Z"⟩ : MethodName) jdk_43_method_4_code 1 (some .boolean) :: ws) ({ frames := 0, cells := 0, slots := 0, locals := 0 } : Room)) (fun ar_ U_ => ar_ = #[(.int (58 : Int32))] ∧ Z.Warmed39 U_.vm ∧ U_.heap = h0) (fun _ _ _ _ _ => True) (fun _ U_ oc_ Ue_ => ∃ v_ L_, oc_ = .returned v_ ∧ Q13 Z h0 n0 v_ Ue_.heap L_ ∧ FrameEnd U_ oc_ Ue_ L_ ({ frames := 0, cells := 0, slots := 0, locals := 0 } : Room).cells ({ frames := 0, cells := 0, slots := 0, locals := 0 } : Room).slots) := by
  refine MetFree.of_bodySF (plainFor_of_name pn_2) hisR ?_
  intro p e s m args below meth c s₁ Bd hml0 hP hK
  obtain ⟨rfl, hZ, hh⟩ := hP
  have hx := Bd.exec
  have hby := Bd.bytes
  have hml : c.maxLocals = 1 := hml0
  have hown : s.vm.findClass "java/lang/StringLatin1" = some m.cls := findClass_of_methodNamed Bd.named
  have hnm := (name_of_methodNamed Bd.named Bd.method).1
  have X0 : Stand p l e ({ frames := 0, cells := 0, slots := 0, locals := 0 } : Room) s m #[(.int (58 : Int32))] below meth c s₁ [] 0 0 := Stand.of_body Bd
  have e0 : s₁.heap = h0 := by rw [← hh, Bd.state]; rfl
  have N0 := Fr.nil n0
  show OwnEnds p e below s (Q13 Z h0 n0) ({ frames := 0, cells := 0, slots := 0, locals := 0 } : Room).cells ({ frames := 0, cells := 0, slots := 0, locals := 0 } : Room).slots (s₁.setTop (entryFrame m #[(.int (58 : Int32))] 1))
  rw [ef_13]
  show OwnEnds _ _ _ _ _ _ _ (s₁.setTop (mkF m 0 #[.val (.int (58 : Int32))] []))
  refine OwnEnds.st (fun t_ k_ => XS.iloadN X0.here hx rfl (hb hby d13_0) rfl k_) ?_
  show OwnEnds _ _ _ _ _ _ _ (s₁.setTop (mkF m 1 #[.val (.int (58 : Int32))] [(.int (58 : Int32))]))
  refine OwnEnds.st (fun t_ k_ => XS.ifNo X0.here hx rfl (hb hby d13_1) rfl ((if0 _ _).trans (flt ((by decide) : ¬ ((58 : Int32) < (0 : Int32)))).1) k_) ?_
  show OwnEnds _ _ _ _ _ _ _ (s₁.setTop (mkF m 4 #[.val (.int (58 : Int32))] []))
  refine OwnEnds.st (fun t_ k_ => XS.iloadN X0.here hx rfl (hb hby d13_4) rfl k_) ?_
  show OwnEnds _ _ _ _ _ _ _ (s₁.setTop (mkF m 5 #[.val (.int (58 : Int32))] [(.int (58 : Int32))]))
  refine OwnEnds.st (fun t_ k_ => XS.sipush X0.here hx rfl (hb hby d13_5) k_) ?_
  show OwnEnds _ _ _ _ _ _ _ (s₁.setTop (mkF m 8 #[.val (.int (58 : Int32))] [(.int (255 : Int32)), (.int (58 : Int32))]))
  refine OwnEnds.st (fun t_ k_ => XS.icmpNo X0.here hx rfl (hb hby d13_8) rfl (flt ((by decide) : ¬ ((255 : Int32) < (58 : Int32)))).2.2.1 k_) ?_
  show OwnEnds _ _ _ _ _ _ _ (s₁.setTop (mkF m 11 #[.val (.int (58 : Int32))] []))
  refine OwnEnds.st (fun t_ k_ => XS.iconst X0.here hx rfl (hb hby d13_11) k_) ?_
  show OwnEnds _ _ _ _ _ _ _ (s₁.setTop (mkF m 12 #[.val (.int (58 : Int32))] [(.int (1 : Int32))]))
  refine OwnEnds.st (fun t_ k_ => XS.goto X0.here hx rfl (pc0 := 12) (pc' := 16) rfl (hb hby d13_12) (by decide) (by decide) k_) ?_
  show OwnEnds _ _ _ _ _ _ _ (s₁.setTop (mkF m 16 #[.val (.int (58 : Int32))] [(.int (1 : Int32))]))
  refine own_retN (t := .boolean) X0 hx Bd.returns Bd.notSynchronized (by simp) (hb hby d13_16) ?_ (by decide) (by decide)
  show Q13 Z h0 n0 _ s₁.heap _
  rw [e0]
  exact ⟨rfl, N0, rfl⟩
theorem d14_0 : decode jdk_29_method_69_code 0 = .ok (.iload_n 0, 1) := by decide +kernel
theorem d14_1 : decode jdk_29_method_69_code 1 = .ok (.iload_n 1, 1) := by decide +kernel
theorem d14_2 : decode jdk_29_method_69_code 2 = .ok (.if_icmp .gt 7, 3) := by decide +kernel
theorem d14_5 : decode jdk_29_method_69_code 5 = .ok (.iload_n 0, 1) := by decide +kernel
theorem d14_6 : decode jdk_29_method_69_code 6 = .ok (.goto 4, 3) := by decide +kernel
theorem d14_9 : decode jdk_29_method_69_code 9 = .ok (.iload_n 1, 1) := by decide +kernel
theorem d14_10 : decode jdk_29_method_69_code 10 = .ok (.ireturn, 1) := by decide +kernel
theorem ef_14 (m : MethodId) (x0 : Int32) (x1 : Int32) : entryFrame m #[(.int x0), (.int x1)] 2 = mkF m 0 #[.val (.int x0), .val (.int x1)] [] := by first | (simp [entryFrame, mkF, argsToLocals, Value.category]; done) | rfl
def Q14 (Z : State) (x1 : Int32) (x2 : Int32) (h0 : Heap) (n0 : Nat) (v : Option Value) (h : Heap) (L : List Loc) : Prop := v = some (.int (if x2 < x1 then x2 else x1)) ∧ Fr n0 L ∧ h = h0
set_option maxRecDepth 65536 in
set_option maxHeartbeats 40000000 in
theorem rm14 (l : Launch) (Z : State) (a0 : Array Value) (hw : ∀ d ∈ tables_1, d.before a0 Z = true) (ws : List Jvm.Cond) (x1 : Int32) (x2 : Int32) (h0 : Heap) (n0 : Nat) (Z0 : n0 ≤ h0.size) :
    MetFree l (⟨"java/lang/Math", "min", "(II)I"⟩ : MethodName) (head1 (Jvm.Cond.code (⟨"java/lang/Math", "min", "(II)I"⟩ : MethodName) jdk_29_method_69_code 2 (some .int) :: ws) ({ frames := 0, cells := 0, slots := 0, locals := 0 } : Room)) (fun ar_ U_ => ar_ = #[(.int x1), (.int x2)] ∧ Z.Warmed39 U_.vm ∧ U_.heap = h0) (fun _ _ _ _ _ => True) (fun _ U_ oc_ Ue_ => ∃ v_ L_, oc_ = .returned v_ ∧ Q14 Z x1 x2 h0 n0 v_ Ue_.heap L_ ∧ FrameEnd U_ oc_ Ue_ L_ ({ frames := 0, cells := 0, slots := 0, locals := 0 } : Room).cells ({ frames := 0, cells := 0, slots := 0, locals := 0 } : Room).slots) := by
  refine MetFree.of_bodySF (Jvm.Free.JP.mathPlain rfl (by decide +kernel)) hisR ?_
  intro p e s m args below meth c s₁ Bd hml0 hP hK
  obtain ⟨rfl, hZ, hh⟩ := hP
  have hx := Bd.exec
  have hby := Bd.bytes
  have hml : c.maxLocals = 2 := hml0
  have hown : s.vm.findClass "java/lang/Math" = some m.cls := findClass_of_methodNamed Bd.named
  have hnm := (name_of_methodNamed Bd.named Bd.method).1
  have X0 : Stand p l e ({ frames := 0, cells := 0, slots := 0, locals := 0 } : Room) s m #[(.int x1), (.int x2)] below meth c s₁ [] 0 0 := Stand.of_body Bd
  have e0 : s₁.heap = h0 := by rw [← hh, Bd.state]; rfl
  have N0 := Fr.nil n0
  show OwnEnds p e below s (Q14 Z x1 x2 h0 n0) ({ frames := 0, cells := 0, slots := 0, locals := 0 } : Room).cells ({ frames := 0, cells := 0, slots := 0, locals := 0 } : Room).slots (s₁.setTop (entryFrame m #[(.int x1), (.int x2)] 2))
  rw [ef_14]
  show OwnEnds _ _ _ _ _ _ _ (s₁.setTop (mkF m 0 #[.val (.int x1), .val (.int x2)] []))
  refine OwnEnds.st (fun t_ k_ => XS.iloadN X0.here hx rfl (hb hby d14_0) rfl k_) ?_
  show OwnEnds _ _ _ _ _ _ _ (s₁.setTop (mkF m 1 #[.val (.int x1), .val (.int x2)] [(.int x1)]))
  refine OwnEnds.st (fun t_ k_ => XS.iloadN X0.here hx rfl (hb hby d14_1) rfl k_) ?_
  show OwnEnds _ _ _ _ _ _ _ (s₁.setTop (mkF m 2 #[.val (.int x1), .val (.int x2)] [(.int x2), (.int x1)]))
  by_cases hm : x2 < x1
  · refine OwnEnds.st (fun t_ k_ => XS.icmpYes X0.here hx rfl (pc0 := 2) (pc' := 9) rfl (hb hby d14_2) rfl (tlt (hm : x2 < x1)).2.2.1 (by decide) (by decide) k_) ?_
    show OwnEnds _ _ _ _ _ _ _ (s₁.setTop (mkF m 9 #[.val (.int x1), .val (.int x2)] []))
    refine OwnEnds.st (fun t_ k_ => XS.iloadN X0.here hx rfl (hb hby d14_9) rfl k_) ?_
    show OwnEnds _ _ _ _ _ _ _ (s₁.setTop (mkF m 10 #[.val (.int x1), .val (.int x2)] [(.int x2)]))
    refine own_retI X0 hx Bd.returns Bd.notSynchronized (hb hby d14_10) ?_ (by decide) (by decide)
    show Q14 Z x1 x2 h0 n0 _ s₁.heap _
    rw [e0]
    exact ⟨congrArg (fun z => some (Value.int z)) (if_pos hm).symm, N0, rfl⟩
  · refine OwnEnds.st (fun t_ k_ => XS.icmpNo X0.here hx rfl (hb hby d14_2) rfl (flt (hm : ¬ (x2 < x1))).2.2.1 k_) ?_
    show OwnEnds _ _ _ _ _ _ _ (s₁.setTop (mkF m 5 #[.val (.int x1), .val (.int x2)] []))
    refine OwnEnds.st (fun t_ k_ => XS.iloadN X0.here hx rfl (hb hby d14_5) rfl k_) ?_
    show OwnEnds _ _ _ _ _ _ _ (s₁.setTop (mkF m 6 #[.val (.int x1), .val (.int x2)] [(.int x1)]))
    refine OwnEnds.st (fun t_ k_ => XS.goto X0.here hx rfl (pc0 := 6) (pc' := 10) rfl (hb hby d14_6) (by decide) (by decide) k_) ?_
    show OwnEnds _ _ _ _ _ _ _ (s₁.setTop (mkF m 10 #[.val (.int x1), .val (.int x2)] [(.int x1)]))
    refine own_retI X0 hx Bd.returns Bd.notSynchronized (hb hby d14_10) ?_ (by decide) (by decide)
    show Q14 Z x1 x2 h0 n0 _ s₁.heap _
    rw [e0]
    exact ⟨congrArg (fun z => some (Value.int z)) (if_neg hm).symm, N0, rfl⟩
theorem d12_0 : decode jdk_43_method_27_code 0 = .ok (.iload_n 1, 1) := by decide +kernel
theorem d12_1 : decode jdk_43_method_27_code 1 = .ok (.invokestatic 88, 3) := by decide +kernel
theorem d12_4 : decode jdk_43_method_27_code 4 = .ok (.ifCond .ne 5, 3) := by decide +kernel
theorem d12_9 : decode jdk_43_method_27_code 9 = .ok (.iload_n 2, 1) := by decide +kernel
theorem d12_10 : decode jdk_43_method_27_code 10 = .ok (.aload_n 0, 1) := by decide +kernel
theorem d12_11 : decode jdk_43_method_27_code 11 = .ok (.arraylength, 1) := by decide +kernel
theorem d12_12 : decode jdk_43_method_27_code 12 = .ok (.iconst 1, 1) := by decide +kernel
theorem d12_13 : decode jdk_43_method_27_code 13 = .ok (.isub, 1) := by decide +kernel
theorem d12_14 : decode jdk_43_method_27_code 14 = .ok (.invokestatic 38, 3) := by decide +kernel
theorem d12_17 : decode jdk_43_method_27_code 17 = .ok (.istore_n 3, 1) := by decide +kernel
theorem d12_18 : decode jdk_43_method_27_code 18 = .ok (.iload_n 3, 1) := by decide +kernel
theorem d12_19 : decode jdk_43_method_27_code 19 = .ok (.ifCond .lt 19, 3) := by decide +kernel
theorem d12_22 : decode jdk_43_method_27_code 22 = .ok (.aload_n 0, 1) := by decide +kernel
theorem d12_23 : decode jdk_43_method_27_code 23 = .ok (.iload_n 3, 1) := by decide +kernel
theorem d12_24 : decode jdk_43_method_27_code 24 = .ok (.baload, 1) := by decide +kernel
theorem d12_25 : decode jdk_43_method_27_code 25 = .ok (.iload_n 1, 1) := by decide +kernel
theorem d12_26 : decode jdk_43_method_27_code 26 = .ok (.i2b, 1) := by decide +kernel
theorem d12_27 : decode jdk_43_method_27_code 27 = .ok (.if_icmp .ne 5, 3) := by decide +kernel
theorem d12_30 : decode jdk_43_method_27_code 30 = .ok (.iload_n 3, 1) := by decide +kernel
theorem d12_31 : decode jdk_43_method_27_code 31 = .ok (.ireturn, 1) := by decide +kernel
theorem d12_32 : decode jdk_43_method_27_code 32 = .ok (.iinc 3 (-1), 3) := by decide +kernel
theorem d12_35 : decode jdk_43_method_27_code 35 = .ok (.goto (-17), 3) := by decide +kernel
theorem d12_38 : decode jdk_43_method_27_code 38 = .ok (.iconst (-1), 1) := by decide +kernel
theorem d12_39 : decode jdk_43_method_27_code 39 = .ok (.ireturn, 1) := by decide +kernel
theorem ef_12 (m : MethodId) (x0 : Addr) (x1 : Int32) (x2 : Int32) : entryFrame m #[(.ref x0), (.int x1), (.int x2)] 4 = mkF m 0 #[.val (.ref x0), .val (.int x1), .val (.int x2), .unset] [] := by first | (simp [entryFrame, mkF, argsToLocals, Value.category]; done) | rfl
def Q12 (Z : State) (t1 : Addr) (kb : ClassId) (cs : List Int32) (nn : Nat) (h0 : Heap) (n0 : Nat) (v : Option Value) (h : Heap) (L : List Loc) : Prop := v = some (.int (own_last cs nn)) ∧ Fr n0 L ∧ h = h0
set_option maxRecDepth 65536 in
set_option maxHeartbeats 40000000 in
theorem rm12 (l : Launch) (Z : State) (a0 : Array Value) (hw : ∀ d ∈ tables_1, d.before a0 Z = true) (ws : List Jvm.Cond) (t1 : Addr) (kb : ClassId) (cs : List Int32) (nn : Nat) (h0 : Heap) (n0 : Nat) (Z0 : n0 ≤ h0.size) (At : Arv Z h0 t1 kb .byte (Int32.ofNat nn) ((cs.map (fun c => c.toInt8.toInt32)).map Value.int) (.int 0)) (hn : cs.length = nn) (hl4 : nn ≤ 4000) (hp : ∀ c ∈ cs, ¬ c < 0 ∧ ¬ (255 : Int32) < c) :
    MetFree l (⟨"java/lang/StringLatin1", "lastIndexOf", "([BII)I"⟩ : MethodName) (head1 (Jvm.Cond.code (⟨"java/lang/StringLatin1", "lastIndexOf", "([BII)I"⟩ : MethodName) jdk_43_method_27_code 4 (some .int) :: ws) ({ frames := 1, cells := 0, slots := 0, locals := 13 } : Room)) (fun ar_ U_ => ar_ = #[(.ref t1), (.int (58 : Int32)), (.int (Int32.ofNat nn - (1 : Int32)))] ∧ Z.Warmed39 U_.vm ∧ U_.heap = h0) (fun _ _ _ _ _ => True) (fun _ U_ oc_ Ue_ => ∃ v_ L_, oc_ = .returned v_ ∧ Q12 Z t1 kb cs nn h0 n0 v_ Ue_.heap L_ ∧ FrameEnd U_ oc_ Ue_ L_ ({ frames := 1, cells := 0, slots := 0, locals := 13 } : Room).cells ({ frames := 1, cells := 0, slots := 0, locals := 13 } : Room).slots) := by
  refine MetFree.of_bodySF (plainFor_of_name pn_2) hisR ?_
  intro p e s m args below meth c s₁ Bd hml0 hP hK
  obtain ⟨rfl, hZ, hh⟩ := hP
  have hx := Bd.exec
  have hby := Bd.bytes
  have hml : c.maxLocals = 4 := hml0
  have hown : s.vm.findClass "java/lang/StringLatin1" = some m.cls := findClass_of_methodNamed Bd.named
  have hnm := (name_of_methodNamed Bd.named Bd.method).1
  have X0 : Stand p l e ({ frames := 1, cells := 0, slots := 0, locals := 13 } : Room) s m #[(.ref t1), (.int (58 : Int32)), (.int (Int32.ofNat nn - (1 : Int32)))] below meth c s₁ [] 0 0 := Stand.of_body Bd
  have e0 : s₁.heap = h0 := by rw [← hh, Bd.state]; rfl
  have N0 := Fr.nil n0
  show OwnEnds p e below s (Q12 Z t1 kb cs nn h0 n0) ({ frames := 1, cells := 0, slots := 0, locals := 13 } : Room).cells ({ frames := 1, cells := 0, slots := 0, locals := 13 } : Room).slots (s₁.setTop (entryFrame m #[(.ref t1), (.int (58 : Int32)), (.int (Int32.ofNat nn - (1 : Int32)))] 4))
  rw [ef_12]
  show OwnEnds _ _ _ _ _ _ _ (s₁.setTop (mkF m 0 #[.val (.ref t1), .val (.int (58 : Int32)), .val (.int (Int32.ofNat nn - (1 : Int32))), .unset] []))
  refine OwnEnds.st (fun t_ k_ => XS.iloadN X0.here hx rfl (hb hby d12_0) rfl k_) ?_
  show OwnEnds _ _ _ _ _ _ _ (s₁.setTop (mkF m 1 #[.val (.ref t1), .val (.int (58 : Int32)), .val (.int (Int32.ofNat nn - (1 : Int32))), .unset] [(.int (58 : Int32))]))
  obtain ⟨_, _, ⟨T1, L1, k1, n1⟩, -, X1, ⟨Lc1, hQ1, l1, y1, z1⟩, st1⟩ := Jvm.LawKit.callS X0 hx (y := (⟨"java/lang/StringLatin1", "canEncode", "(I)Z"⟩ : MethodName)) hown (mvT hZ (hw _ (List.mem_of_getElem? (i := 64) rfl))) (mvT hZ (hw _ (List.mem_of_getElem? (i := 65) rfl))) (mvT hZ (hw _ (List.mem_of_getElem? (i := 62) rfl))) (mvT hZ (hw _ (List.mem_of_getElem? (i := 66) rfl))) (by decide) (backOf (W := 0) (rm13 l Z a0 hw [] h0 n0 Z0) hZ (hw _ (List.mem_of_getElem? (i := 66) rfl)) (hw _ (List.mem_of_getElem? (i := 62) rfl)) (by decide) (by decide)) (g := (mkF m 1 #[.val (.ref t1), .val (.int (58 : Int32)), .val (.int (Int32.ofNat nn - (1 : Int32))), .unset] [(.int (58 : Int32))])) rfl (by rw [hml]; rfl) (argsL := [(.int (58 : Int32))]) (rest := []) (lenOf pd_3 rfl) rfl (by show 2 * 0 + _ ≤ _; exact Nat.le_of_eq rfl) (hb hby d12_1) (fun _ _ => ⟨rfl, e0, (by decide : 0 + 0 ≤ _), (by decide : 0 + 0 ≤ _)⟩)
  dsimp only [Pt.U, Pt.locs, Pt.cells, Pt.slots] at X1 l1 y1 z1 st1 hQ1
  subst l1 y1 z1
  obtain ⟨rfl, N1q, hh1⟩ := hQ1
  have N1 := Fr.app N0 N1q
  refine OwnEnds.st st1 ?_
  show OwnEnds _ _ _ _ _ _ _ (T1.setTop (mkF m 4 #[.val (.ref t1), .val (.int (58 : Int32)), .val (.int (Int32.ofNat nn - (1 : Int32))), .unset] [(.int (1 : Int32))]))
  refine OwnEnds.st (fun t_ k_ => XS.ifYes X1.here hx rfl (pc0 := 4) (pc' := 9) rfl (hb hby d12_4) rfl ((if0 _ _).trans (feq ((by decide) : ¬ ((1 : Int32) = (0 : Int32)))).2) (by decide) (by decide) k_) ?_
  show OwnEnds _ _ _ _ _ _ _ (T1.setTop (mkF m 9 #[.val (.ref t1), .val (.int (58 : Int32)), .val (.int (Int32.ofNat nn - (1 : Int32))), .unset] []))
  refine OwnEnds.st (fun t_ k_ => XS.iloadN X1.here hx rfl (hb hby d12_9) rfl k_) ?_
  show OwnEnds _ _ _ _ _ _ _ (T1.setTop (mkF m 10 #[.val (.ref t1), .val (.int (58 : Int32)), .val (.int (Int32.ofNat nn - (1 : Int32))), .unset] [(.int (Int32.ofNat nn - (1 : Int32)))]))
  refine OwnEnds.st (fun t_ k_ => XS.aloadN X1.here hx rfl (hb hby d12_10) rfl rfl k_) ?_
  show OwnEnds _ _ _ _ _ _ _ (T1.setTop (mkF m 11 #[.val (.ref t1), .val (.int (58 : Int32)), .val (.int (Int32.ofNat nn - (1 : Int32))), .unset] [(.ref t1), (.int (Int32.ofNat nn - (1 : Int32)))]))
  obtain ⟨cl2, Ar2, -, S2, N2', -, -⟩ := id At
  refine OwnEnds.st (fun t_ k_ => X1.arraylength hx (heq_ hh1 Ar2.1) (State.isArrayOf_alike hZ.alike Ar2.2.1) (g := (mkF m 11 #[.val (.ref t1), .val (.int (58 : Int32)), .val (.int (Int32.ofNat nn - (1 : Int32))), .unset] [(.ref t1), (.int (Int32.ofNat nn - (1 : Int32)))])) rfl rfl (hb hby d12_11) t_ k_) ?_
  rw [len_of S2 N2']
  show OwnEnds _ _ _ _ _ _ _ (T1.setTop (mkF m 12 #[.val (.ref t1), .val (.int (58 : Int32)), .val (.int (Int32.ofNat nn - (1 : Int32))), .unset] [(.int (Int32.ofNat nn)), (.int (Int32.ofNat nn - (1 : Int32)))]))
  refine OwnEnds.st (fun t_ k_ => XS.iconst X1.here hx rfl (hb hby d12_12) k_) ?_
  show OwnEnds _ _ _ _ _ _ _ (T1.setTop (mkF m 13 #[.val (.ref t1), .val (.int (58 : Int32)), .val (.int (Int32.ofNat nn - (1 : Int32))), .unset] [(.int (1 : Int32)), (.int (Int32.ofNat nn)), (.int (Int32.ofNat nn - (1 : Int32)))]))
  refine OwnEnds.st (fun t_ k_ => XS.isub X1.here hx rfl (hb hby d12_13) rfl k_) ?_
  show OwnEnds _ _ _ _ _ _ _ (T1.setTop (mkF m 14 #[.val (.ref t1), .val (.int (58 : Int32)), .val (.int (Int32.ofNat nn - (1 : Int32))), .unset] [(.int ((Int32.ofNat nn) - (1 : Int32))), (.int (Int32.ofNat nn - (1 : Int32)))]))
  obtain ⟨_, _, ⟨T3, L3, k3, n3⟩, -, X3, ⟨Lc3, hQ3, l3, y3, z3⟩, st3⟩ := Jvm.LawKit.callS X1 hx (y := (⟨"java/lang/Math", "min", "(II)I"⟩ : MethodName)) hown (mvT hZ (hw _ (List.mem_of_getElem? (i := 67) rfl))) (mvT hZ (hw _ (List.mem_of_getElem? (i := 68) rfl))) (mvT hZ (hw _ (List.mem_of_getElem? (i := 69) rfl))) (mvT hZ (hw _ (List.mem_of_getElem? (i := 70) rfl))) (by decide) (backOf (W := 0) (rm14 l Z a0 hw [] (Int32.ofNat nn - (1 : Int32)) (Int32.ofNat nn - (1 : Int32)) h0 n0 Z0) hZ (hw _ (List.mem_of_getElem? (i := 70) rfl)) (hw _ (List.mem_of_getElem? (i := 69) rfl)) (by decide) (by decide)) (g := (mkF m 14 #[.val (.ref t1), .val (.int (58 : Int32)), .val (.int (Int32.ofNat nn - (1 : Int32))), .unset] [(.int ((Int32.ofNat nn) - (1 : Int32))), (.int (Int32.ofNat nn - (1 : Int32)))])) rfl (by rw [hml]; rfl) (argsL := [(.int (Int32.ofNat nn - (1 : Int32))), (.int ((Int32.ofNat nn) - (1 : Int32)))]) (rest := []) (lenOf pd_4 rfl) rfl (by show 2 * 0 + _ ≤ _; exact Nat.le_of_eq rfl) (hb hby d12_14) (fun _ _ => ⟨rfl, hh1, (by decide : 0 + 0 ≤ _), (by decide : 0 + 0 ≤ _)⟩)
  dsimp only [Pt.U, Pt.locs, Pt.cells, Pt.slots] at X3 l3 y3 z3 st3 hQ3
  subst l3 y3 z3
  obtain ⟨rfl, N3q, hh3⟩ := hQ3
  have N3 := Fr.app N1 N3q
  refine OwnEnds.st st3 ?_
  show OwnEnds _ _ _ _ _ _ _ (T3.setTop (mkF m 17 #[.val (.ref t1), .val (.int (58 : Int32)), .val (.int (Int32.ofNat nn - (1 : Int32))), .unset] [(.int (if (Int32.ofNat nn - (1 : Int32)) < (Int32.ofNat nn - (1 : Int32)) then (Int32.ofNat nn - (1 : Int32)) else (Int32.ofNat nn - (1 : Int32))))]))
  rw [ite_self]
  refine OwnEnds.st (fun t_ k_ => XS.istoreN X3.here hx rfl (hb hby d12_17) rfl (l' := #[.val (.ref t1), .val (.int (58 : Int32)), .val (.int (Int32.ofNat nn - (1 : Int32))), .val (.int (Int32.ofNat nn - (1 : Int32)))]) rfl k_) ?_
  show OwnEnds _ _ _ _ _ _ _ (T3.setTop (mkF m 18 #[.val (.ref t1), .val (.int (58 : Int32)), .val (.int (Int32.ofNat nn - (1 : Int32))), .val (.int (Int32.ofNat nn - (1 : Int32)))] []))
  have J18 : ∀ jj : Nat, jj ≤ nn → own_last cs nn = own_last cs jj → OwnEnds p e below s (Q12 Z t1 kb cs nn h0 n0) ({ frames := 1, cells := 0, slots := 0, locals := 13 } : Room).cells ({ frames := 1, cells := 0, slots := 0, locals := 13 } : Room).slots (T3.setTop (mkF m 18 #[.val (.ref t1), .val (.int (58 : Int32)), .val (.int (Int32.ofNat nn - (1 : Int32))), .val (.int (Int32.ofNat jj - (1 : Int32)))] [])) := by
    intro jj
    induction jj with
    | zero =>
      intro hj hq
      refine OwnEnds.st (fun t_ k_ => XS.iloadN X3.here hx rfl (hb hby d12_18) rfl k_) ?_
      show OwnEnds _ _ _ _ _ _ _ (T3.setTop (mkF m 19 #[.val (.ref t1), .val (.int (58 : Int32)), .val (.int (Int32.ofNat nn - (1 : Int32))), .val (.int (Int32.ofNat 0 - (1 : Int32)))] [(.int (Int32.ofNat 0 - (1 : Int32)))]))
      refine OwnEnds.st (fun t_ k_ => XS.ifYes X3.here hx rfl (pc0 := 19) (pc' := 38) rfl (hb hby d12_19) rfl ((if0 _ _).trans (tlt ((by decide) : (Int32.ofNat 0 - (1 : Int32)) < (0 : Int32))).1) (by decide) (by decide) k_) ?_
      show OwnEnds _ _ _ _ _ _ _ (T3.setTop (mkF m 38 #[.val (.ref t1), .val (.int (58 : Int32)), .val (.int (Int32.ofNat nn - (1 : Int32))), .val (.int (Int32.ofNat 0 - (1 : Int32)))] []))
      refine OwnEnds.st (fun t_ k_ => XS.iconst X3.here hx rfl (hb hby d12_38) k_) ?_
      show OwnEnds _ _ _ _ _ _ _ (T3.setTop (mkF m 39 #[.val (.ref t1), .val (.int (58 : Int32)), .val (.int (Int32.ofNat nn - (1 : Int32))), .val (.int (Int32.ofNat 0 - (1 : Int32)))] [(.int (-1 : Int32))]))
      refine own_retI X3 hx Bd.returns Bd.notSynchronized (hb hby d12_39) ?_ (by decide) (by decide)
      show Q12 Z t1 kb cs nn h0 n0 _ T3.heap _
      rw [hh3]
      exact ⟨congrArg (fun z => some (Value.int z)) hq.symm, N3, rfl⟩
    | succ jj ih =>
      intro hj hq
      rw [own_pred (by omega)]
      have hjn : jj < cs.length := by omega
      have hlt : ¬ Int32.ofNat jj < 0 ∧ Int32.ofNat jj < Int32.ofNat nn := ⟨own_nn (by omega), by rw [Int32.lt_iff_toInt_lt, own_nat (by omega), own_nat (by omega)]; omega⟩
      show OwnEnds _ _ _ _ _ _ _ (T3.setTop (mkF m 18 #[.val (.ref t1), .val (.int (58 : Int32)), .val (.int (Int32.ofNat nn - (1 : Int32))), .val (.int (Int32.ofNat jj))] []))
      refine OwnEnds.st (fun t_ k_ => XS.iloadN X3.here hx rfl (hb hby d12_18) rfl k_) ?_
      show OwnEnds _ _ _ _ _ _ _ (T3.setTop (mkF m 19 #[.val (.ref t1), .val (.int (58 : Int32)), .val (.int (Int32.ofNat nn - (1 : Int32))), .val (.int (Int32.ofNat jj))] [(.int (Int32.ofNat jj))]))
      refine OwnEnds.st (fun t_ k_ => XS.ifNo X3.here hx rfl (hb hby d12_19) rfl ((if0 _ _).trans (flt (hlt.1 : ¬ ((Int32.ofNat jj) < (0 : Int32)))).1) k_) ?_
      show OwnEnds _ _ _ _ _ _ _ (T3.setTop (mkF m 22 #[.val (.ref t1), .val (.int (58 : Int32)), .val (.int (Int32.ofNat nn - (1 : Int32))), .val (.int (Int32.ofNat jj))] []))
      refine OwnEnds.st (fun t_ k_ => XS.aloadN X3.here hx rfl (hb hby d12_22) rfl rfl k_) ?_
      show OwnEnds _ _ _ _ _ _ _ (T3.setTop (mkF m 23 #[.val (.ref t1), .val (.int (58 : Int32)), .val (.int (Int32.ofNat nn - (1 : Int32))), .val (.int (Int32.ofNat jj))] [(.ref t1)]))
      refine OwnEnds.st (fun t_ k_ => XS.iloadN X3.here hx rfl (hb hby d12_23) rfl k_) ?_
      show OwnEnds _ _ _ _ _ _ _ (T3.setTop (mkF m 24 #[.val (.ref t1), .val (.int (58 : Int32)), .val (.int (Int32.ofNat nn - (1 : Int32))), .val (.int (Int32.ofNat jj))] [(.int (Int32.ofNat jj)), (.ref t1)]))
      obtain ⟨cl4, Ar4, -, S4, N4', H4, -⟩ := id At
      have hin4 : ¬ ((Int32.ofNat jj) < 0 ∨ cl4.slots.size ≤ ((Int32.ofNat jj)).toNatClampNeg) := inb_of S4 hlt
      refine OwnEnds.st (fun t_ k_ => X3.baloadBytes hx (j := (Int32.ofNat jj)) (v := (.int ((cs.getD jj 0).toInt8.toInt32))) (heq_ hh3 Ar4.1) (State.isArrayOf_alike hZ.alike Ar4.2.1) Ar4.2.2 hin4 (H4.at hin4 (by rw [own_clamp (by omega)]; exact own_getc hjn)) (g := (mkF m 24 #[.val (.ref t1), .val (.int (58 : Int32)), .val (.int (Int32.ofNat nn - (1 : Int32))), .val (.int (Int32.ofNat jj))] [(.int (Int32.ofNat jj)), (.ref t1)])) rfl rfl (hb hby d12_24) t_ k_) ?_
      show OwnEnds _ _ _ _ _ _ _ (T3.setTop (mkF m 25 #[.val (.ref t1), .val (.int (58 : Int32)), .val (.int (Int32.ofNat nn - (1 : Int32))), .val (.int (Int32.ofNat jj))] [(.int ((cs.getD jj 0).toInt8.toInt32))]))
      refine OwnEnds.st (fun t_ k_ => XS.iloadN X3.here hx rfl (hb hby d12_25) rfl k_) ?_
      show OwnEnds _ _ _ _ _ _ _ (T3.setTop (mkF m 26 #[.val (.ref t1), .val (.int (58 : Int32)), .val (.int (Int32.ofNat nn - (1 : Int32))), .val (.int (Int32.ofNat jj))] [(.int (58 : Int32)), (.int ((cs.getD jj 0).toInt8.toInt32))]))
      refine OwnEnds.st (fun t_ k_ => XS.i2b X3.here hx rfl (hb hby d12_26) rfl k_) ?_
      show OwnEnds _ _ _ _ _ _ _ (T3.setTop (mkF m 27 #[.val (.ref t1), .val (.int (58 : Int32)), .val (.int (Int32.ofNat nn - (1 : Int32))), .val (.int (Int32.ofNat jj))] [(.int ((58 : Int32).toInt8.toInt32)), (.int ((cs.getD jj 0).toInt8.toInt32))]))
      by_cases hcj : cs.getD jj 0 = 58
      · refine OwnEnds.st (fun t_ k_ => XS.icmpNo X3.here hx rfl (hb hby d12_27) rfl (teq ((by rw [hcj]) : ((cs.getD jj 0).toInt8.toInt32) = ((58 : Int32).toInt8.toInt32))).2 k_) ?_
        show OwnEnds _ _ _ _ _ _ _ (T3.setTop (mkF m 30 #[.val (.ref t1), .val (.int (58 : Int32)), .val (.int (Int32.ofNat nn - (1 : Int32))), .val (.int (Int32.ofNat jj))] []))
        refine OwnEnds.st (fun t_ k_ => XS.iloadN X3.here hx rfl (hb hby d12_30) rfl k_) ?_
        show OwnEnds _ _ _ _ _ _ _ (T3.setTop (mkF m 31 #[.val (.ref t1), .val (.int (58 : Int32)), .val (.int (Int32.ofNat nn - (1 : Int32))), .val (.int (Int32.ofNat jj))] [(.int (Int32.ofNat jj))]))
        refine own_retI X3 hx Bd.returns Bd.notSynchronized (hb hby d12_31) ?_ (by decide) (by decide)
        show Q12 Z t1 kb cs nn h0 n0 _ T3.heap _
        rw [hh3]
        exact ⟨congrArg (fun z => some (Value.int z)) (hq.trans (if_pos hcj)).symm, N3, rfl⟩
      · refine OwnEnds.st (fun t_ k_ => XS.icmpYes X3.here hx rfl (pc0 := 27) (pc' := 32) rfl (hb hby d12_27) rfl (feq ((fun q_ => hcj (own_is58 (hp _ (own_mem hjn)) q_)) : ¬ (((cs.getD jj 0).toInt8.toInt32) = ((58 : Int32).toInt8.toInt32)))).2 (by decide) (by decide) k_) ?_
        show OwnEnds _ _ _ _ _ _ _ (T3.setTop (mkF m 32 #[.val (.ref t1), .val (.int (58 : Int32)), .val (.int (Int32.ofNat nn - (1 : Int32))), .val (.int (Int32.ofNat jj))] []))
        refine OwnEnds.st (fun t_ k_ => XS.iinc X3.here hx rfl (hb hby d12_32) rfl (l' := #[.val (.ref t1), .val (.int (58 : Int32)), .val (.int (Int32.ofNat nn - (1 : Int32))), .val (.int ((Int32.ofNat jj) + (-1 : Int32)))]) rfl k_) ?_
        show OwnEnds _ _ _ _ _ _ _ (T3.setTop (mkF m 35 #[.val (.ref t1), .val (.int (58 : Int32)), .val (.int (Int32.ofNat nn - (1 : Int32))), .val (.int ((Int32.ofNat jj) + (-1 : Int32)))] []))
        refine OwnEnds.st (fun t_ k_ => XS.goto X3.here hx rfl (pc0 := 35) (pc' := 18) rfl (hb hby d12_35) (by decide) (by decide) k_) ?_
        show OwnEnds _ _ _ _ _ _ _ (T3.setTop (mkF m 18 #[.val (.ref t1), .val (.int (58 : Int32)), .val (.int (Int32.ofNat nn - (1 : Int32))), .val (.int ((Int32.ofNat jj) + (-1 : Int32)))] []))
        rw [own_dec]
        exact ih (by omega) (hq.trans (if_neg hcj))
  exact J18 nn (Nat.le_refl _) rfl
theorem d10_0 : decode jdk_42_method_83_code 0 = .ok (.aload_n 0, 1) := by decide +kernel
theorem d10_1 : decode jdk_42_method_83_code 1 = .ok (.invokevirtual 492, 3) := by decide +kernel
theorem d10_4 : decode jdk_42_method_83_code 4 = .ok (.ifCond .eq 15, 3) := by decide +kernel
theorem d10_7 : decode jdk_42_method_83_code 7 = .ok (.aload_n 0, 1) := by decide +kernel
theorem d10_8 : decode jdk_42_method_83_code 8 = .ok (.getfield 9, 3) := by decide +kernel
theorem d10_11 : decode jdk_42_method_83_code 11 = .ok (.iload_n 1, 1) := by decide +kernel
theorem d10_12 : decode jdk_42_method_83_code 12 = .ok (.iload_n 2, 1) := by decide +kernel
theorem d10_13 : decode jdk_42_method_83_code 13 = .ok (.invokestatic 644, 3) := by decide +kernel
theorem d10_16 : decode jdk_42_method_83_code 16 = .ok (.goto 12, 3) := by decide +kernel
theorem d10_28 : decode jdk_42_method_83_code 28 = .ok (.ireturn, 1) := by decide +kernel
theorem ef_10 (m : MethodId) (x0 : Addr) (x1 : Int32) (x2 : Int32) : entryFrame m #[(.ref x0), (.int x1), (.int x2)] 3 = mkF m 0 #[.val (.ref x0), .val (.int x1), .val (.int x2)] [] := by first | (simp [entryFrame, mkF, argsToLocals, Value.category]; done) | rfl
def Q10 (Z : State) (s1 : Addr) (t1 : Addr) (kb : ClassId) (cs : List Int32) (nn : Nat) (cz : Int32) (h0 : Heap) (n0 : Nat) (v : Option Value) (h : Heap) (L : List Loc) : Prop := v = some (.int (own_last cs nn)) ∧ Fr n0 L ∧ h = h0
set_option maxRecDepth 65536 in
set_option maxHeartbeats 40000000 in
theorem rm10 (l : Launch) (Z : State) (a0 : Array Value) (hw : ∀ d ∈ tables_1, d.before a0 Z = true) (ws : List Jvm.Cond) (s1 : Addr) (t1 : Addr) (kb : ClassId) (cs : List Int32) (nn : Nat) (cz : Int32) (h0 : Heap) (n0 : Nat) (Z0 : n0 ≤ h0.size) (Es : Exa Z h0 s1 "java/lang/String") (Vs : Fld Z h0 s1 "java/lang/String" "value" "[B" (.ref t1)) (Cs : Fld Z h0 s1 "java/lang/String" "coder" "B" (.int 0)) (At : Arv Z h0 t1 kb .byte (Int32.ofNat nn) ((cs.map (fun c => c.toInt8.toInt32)).map Value.int) (.int 0)) (hn : cs.length = nn) (hl4 : nn ≤ 4000) (hp : ∀ c ∈ cs, ¬ c < 0 ∧ ¬ (255 : Int32) < c) (S_cs : Sta Z Z.heap "java/lang/String" "COMPACT_STRINGS" "Z" (.int cz)) (hcz : ¬ cz = 0) (O0 : Old Z n0 h0) :
    MetFree l (⟨"java/lang/String", "lastIndexOf", "(II)I"⟩ : MethodName) (head1 (Jvm.Cond.code (⟨"java/lang/String", "lastIndexOf", "(II)I"⟩ : MethodName) jdk_42_method_83_code 3 (some .int) :: ws) ({ frames := 2, cells := 0, slots := 0, locals := 28 } : Room)) (fun ar_ U_ => ar_ = #[(.ref s1), (.int (58 : Int32)), (.int (Int32.ofNat nn - (1 : Int32)))] ∧ Z.Warmed39 U_.vm ∧ U_.heap = h0) (fun _ _ _ _ _ => True) (fun _ U_ oc_ Ue_ => ∃ v_ L_, oc_ = .returned v_ ∧ Q10 Z s1 t1 kb cs nn cz h0 n0 v_ Ue_.heap L_ ∧ FrameEnd U_ oc_ Ue_ L_ ({ frames := 2, cells := 0, slots := 0, locals := 28 } : Room).cells ({ frames := 2, cells := 0, slots := 0, locals := 28 } : Room).slots) := by
  refine MetFree.of_bodySF (plainFor_of_name pn_1) hisR ?_
  intro p e s m args below meth c s₁ Bd hml0 hP hK
  obtain ⟨rfl, hZ, hh⟩ := hP
  have hx := Bd.exec
  have hby := Bd.bytes
  have hml : c.maxLocals = 3 := hml0
  have hown : s.vm.findClass "java/lang/String" = some m.cls := findClass_of_methodNamed Bd.named
  have hnm := (name_of_methodNamed Bd.named Bd.method).1
  have X0 : Stand p l e ({ frames := 2, cells := 0, slots := 0, locals := 28 } : Room) s m #[(.ref s1), (.int (58 : Int32)), (.int (Int32.ofNat nn - (1 : Int32)))] below meth c s₁ [] 0 0 := Stand.of_body Bd
  have e0 : s₁.heap = h0 := by rw [← hh, Bd.state]; rfl
  have N0 := Fr.nil n0
  show OwnEnds p e below s (Q10 Z s1 t1 kb cs nn cz h0 n0) ({ frames := 2, cells := 0, slots := 0, locals := 28 } : Room).cells ({ frames := 2, cells := 0, slots := 0, locals := 28 } : Room).slots (s₁.setTop (entryFrame m #[(.ref s1), (.int (58 : Int32)), (.int (Int32.ofNat nn - (1 : Int32)))] 3))
  rw [ef_10]
  show OwnEnds _ _ _ _ _ _ _ (s₁.setTop (mkF m 0 #[.val (.ref s1), .val (.int (58 : Int32)), .val (.int (Int32.ofNat nn - (1 : Int32)))] []))
  refine OwnEnds.st (fun t_ k_ => XS.aloadN X0.here hx rfl (hb hby d10_0) rfl rfl k_) ?_
  show OwnEnds _ _ _ _ _ _ _ (s₁.setTop (mkF m 1 #[.val (.ref s1), .val (.int (58 : Int32)), .val (.int (Int32.ofNat nn - (1 : Int32)))] [(.ref s1)]))
  obtain ⟨cq1, kq1, q1a, q1b, q1c⟩ := isOf hZ e0 (Es)
  obtain ⟨_, _, ⟨T1, L1, k1, n1⟩, -, X1, ⟨Lc1, hQ1, l1, y1, z1⟩, st1⟩ := X0.virtualBack hx (y := (⟨"java/lang/String", "isLatin1", "()Z"⟩ : MethodName)) (z := (⟨"java/lang/String", "isLatin1", "()Z"⟩ : MethodName)) hown (mvT hZ (hw _ (List.mem_of_getElem? (i := 55) rfl))) (mvT hZ (hw _ (List.mem_of_getElem? (i := 56) rfl))) (notFace_of_selects (args := #[]) (mvT hZ (hw _ (List.mem_of_getElem? (i := 58) rfl)))) (mvT hZ (hw _ (List.mem_of_getElem? (i := 58) rfl))) (mvT hZ (hw _ (List.mem_of_getElem? (i := 57) rfl))) (by decide) (backOf (W := 0) (rm11 l Z a0 hw [] s1 cz h0 n0 Z0 Cs S_cs hcz O0) hZ (hw _ (List.mem_of_getElem? (i := 59) rfl)) (hw _ (List.mem_of_getElem? (i := 10) rfl)) (by decide) (by decide)) q1a q1c (g := (mkF m 1 #[.val (.ref s1), .val (.int (58 : Int32)), .val (.int (Int32.ofNat nn - (1 : Int32)))] [(.ref s1)])) rfl (by rw [hml]; rfl) (Steps.refl _) (argsL := []) (rest := []) (lenOf pd_5 rfl) rfl (by show 2 * 0 + _ ≤ _; exact Nat.le_of_eq rfl) (hb hby d10_1) (fun _ _ => ⟨rfl, e0, (by decide : 0 + 0 ≤ _), (by decide : 0 + 0 ≤ _)⟩)
  dsimp only [Pt.U, Pt.locs, Pt.cells, Pt.slots] at X1 l1 y1 z1 st1 hQ1
  subst l1 y1 z1
  obtain ⟨rfl, N1q, hh1⟩ := hQ1
  have N1 := Fr.app N0 N1q
  refine OwnEnds.go st1 ?_
  show OwnEnds _ _ _ _ _ _ _ (T1.setTop (mkF m 4 #[.val (.ref s1), .val (.int (58 : Int32)), .val (.int (Int32.ofNat nn - (1 : Int32)))] [(.int (1 : Int32))]))
  refine OwnEnds.st (fun t_ k_ => XS.ifNo X1.here hx rfl (hb hby d10_4) rfl ((if0 _ _).trans (feq ((by decide) : ¬ ((1 : Int32) = (0 : Int32)))).1) k_) ?_
  show OwnEnds _ _ _ _ _ _ _ (T1.setTop (mkF m 7 #[.val (.ref s1), .val (.int (58 : Int32)), .val (.int (Int32.ofNat nn - (1 : Int32)))] []))
  refine OwnEnds.st (fun t_ k_ => XS.aloadN X1.here hx rfl (hb hby d10_7) rfl rfl k_) ?_
  show OwnEnds _ _ _ _ _ _ _ (T1.setTop (mkF m 8 #[.val (.ref s1), .val (.int (58 : Int32)), .val (.int (Int32.ofNat nn - (1 : Int32)))] [(.ref s1)]))
  obtain ⟨T2, X2, e2, st2⟩ := getF X1 hx hZ hown (host := "") (Or.inl (hw _ (List.mem_of_getElem? (i := 28) rfl))) Via.refl hh1 Vs (g := (mkF m 8 #[.val (.ref s1), .val (.int (58 : Int32)), .val (.int (Int32.ofNat nn - (1 : Int32)))] [(.ref s1)])) rfl rfl (hb hby d10_8)
  refine OwnEnds.st st2 ?_
  show OwnEnds _ _ _ _ _ _ _ (T2.setTop (mkF m 11 #[.val (.ref s1), .val (.int (58 : Int32)), .val (.int (Int32.ofNat nn - (1 : Int32)))] [(.ref t1)]))
  refine OwnEnds.st (fun t_ k_ => XS.iloadN X2.here hx rfl (hb hby d10_11) rfl k_) ?_
  show OwnEnds _ _ _ _ _ _ _ (T2.setTop (mkF m 12 #[.val (.ref s1), .val (.int (58 : Int32)), .val (.int (Int32.ofNat nn - (1 : Int32)))] [(.int (58 : Int32)), (.ref t1)]))
  refine OwnEnds.st (fun t_ k_ => XS.iloadN X2.here hx rfl (hb hby d10_12) rfl k_) ?_
  show OwnEnds _ _ _ _ _ _ _ (T2.setTop (mkF m 13 #[.val (.ref s1), .val (.int (58 : Int32)), .val (.int (Int32.ofNat nn - (1 : Int32)))] [(.int (Int32.ofNat nn - (1 : Int32))), (.int (58 : Int32)), (.ref t1)]))
  obtain ⟨_, _, ⟨T3, L3, k3, n3⟩, -, X3, ⟨Lc3, hQ3, l3, y3, z3⟩, st3⟩ := Jvm.LawKit.callS X2 hx (y := (⟨"java/lang/StringLatin1", "lastIndexOf", "([BII)I"⟩ : MethodName)) hown (mvT hZ (hw _ (List.mem_of_getElem? (i := 60) rfl))) (mvT hZ (hw _ (List.mem_of_getElem? (i := 61) rfl))) (mvT hZ (hw _ (List.mem_of_getElem? (i := 62) rfl))) (mvT hZ (hw _ (List.mem_of_getElem? (i := 63) rfl))) (by decide) (backOf (W := 0) (rm12 l Z a0 hw [] t1 kb cs nn h0 n0 Z0 At hn hl4 hp) hZ (hw _ (List.mem_of_getElem? (i := 63) rfl)) (hw _ (List.mem_of_getElem? (i := 62) rfl)) (by decide) (by decide)) (g := (mkF m 13 #[.val (.ref s1), .val (.int (58 : Int32)), .val (.int (Int32.ofNat nn - (1 : Int32)))] [(.int (Int32.ofNat nn - (1 : Int32))), (.int (58 : Int32)), (.ref t1)])) rfl (by rw [hml]; rfl) (argsL := [(.ref t1), (.int (58 : Int32)), (.int (Int32.ofNat nn - (1 : Int32)))]) (rest := []) (lenOf pd_6 rfl) rfl (by show 2 * 0 + _ ≤ _; exact Nat.le_of_eq rfl) (hb hby d10_13) (fun _ _ => ⟨rfl, e2, (by decide : 0 + 0 ≤ _), (by decide : 0 + 0 ≤ _)⟩)
  dsimp only [Pt.U, Pt.locs, Pt.cells, Pt.slots] at X3 l3 y3 z3 st3 hQ3
  subst l3 y3 z3
  obtain ⟨rfl, N3q, hh3⟩ := hQ3
  have N3 := Fr.app N1 N3q
  refine OwnEnds.st st3 ?_
  show OwnEnds _ _ _ _ _ _ _ (T3.setTop (mkF m 16 #[.val (.ref s1), .val (.int (58 : Int32)), .val (.int (Int32.ofNat nn - (1 : Int32)))] [(.int (own_last cs nn))]))
  refine OwnEnds.st (fun t_ k_ => XS.goto X3.here hx rfl (pc0 := 16) (pc' := 28) rfl (hb hby d10_16) (by decide) (by decide) k_) ?_
  show OwnEnds _ _ _ _ _ _ _ (T3.setTop (mkF m 28 #[.val (.ref s1), .val (.int (58 : Int32)), .val (.int (Int32.ofNat nn - (1 : Int32)))] [(.int (own_last cs nn))]))
  refine own_retI X3 hx Bd.returns Bd.notSynchronized (hb hby d10_28) ?_ (by decide) (by decide)
  show Q10 Z s1 t1 kb cs nn cz h0 n0 _ T3.heap _
  rw [hh3]
  exact ⟨rfl, N3, rfl⟩
theorem d7_0 : decode jdk_42_method_82_code 0 = .ok (.aload_n 0, 1) := by decide +kernel
theorem d7_1 : decode jdk_42_method_82_code 1 = .ok (.iload_n 1, 1) := by decide +kernel
theorem d7_2 : decode jdk_42_method_82_code 2 = .ok (.aload_n 0, 1) := by decide +kernel
theorem d7_3 : decode jdk_42_method_82_code 3 = .ok (.invokevirtual 505, 3) := by decide +kernel
theorem d7_6 : decode jdk_42_method_82_code 6 = .ok (.iconst 1, 1) := by decide +kernel
theorem d7_7 : decode jdk_42_method_82_code 7 = .ok (.isub, 1) := by decide +kernel
theorem d7_8 : decode jdk_42_method_82_code 8 = .ok (.invokevirtual 641, 3) := by decide +kernel
theorem d7_11 : decode jdk_42_method_82_code 11 = .ok (.ireturn, 1) := by decide +kernel
theorem ef_7 (m : MethodId) (x0 : Addr) (x1 : Int32) : entryFrame m #[(.ref x0), (.int x1)] 2 = mkF m 0 #[.val (.ref x0), .val (.int x1)] [] := by first | (simp [entryFrame, mkF, argsToLocals, Value.category]; done) | rfl
def Q7 (Z : State) (s1 : Addr) (t1 : Addr) (kb : ClassId) (cs : List Int32) (nn : Nat) (cz : Int32) (h0 : Heap) (n0 : Nat) (v : Option Value) (h : Heap) (L : List Loc) : Prop := v = some (.int (own_last cs nn)) ∧ Fr n0 L ∧ h = h0
set_option maxRecDepth 65536 in
set_option maxHeartbeats 40000000 in
theorem rm7 (l : Launch) (Z : State) (a0 : Array Value) (hw : ∀ d ∈ tables_1, d.before a0 Z = true) (ws : List Jvm.Cond) (s1 : Addr) (t1 : Addr) (kb : ClassId) (cs : List Int32) (nn : Nat) (cz : Int32) (h0 : Heap) (n0 : Nat) (Z0 : n0 ≤ h0.size) (Es : Exa Z h0 s1 "java/lang/String") (Vs : Fld Z h0 s1 "java/lang/String" "value" "[B" (.ref t1)) (Cs : Fld Z h0 s1 "java/lang/String" "coder" "B" (.int 0)) (At : Arv Z h0 t1 kb .byte (Int32.ofNat nn) ((cs.map (fun c => c.toInt8.toInt32)).map Value.int) (.int 0)) (hn : cs.length = nn) (hl4 : nn ≤ 4000) (hp : ∀ c ∈ cs, ¬ c < 0 ∧ ¬ (255 : Int32) < c) (S_cs : Sta Z Z.heap "java/lang/String" "COMPACT_STRINGS" "Z" (.int cz)) (hcz : ¬ cz = 0) (O0 : Old Z n0 h0) :
    MetFree l (⟨"java/lang/String", "lastIndexOf", "(I)I"⟩ : MethodName) (head1 (Jvm.Cond.code (⟨"java/lang/String", "lastIndexOf", "(I)I"⟩ : MethodName) jdk_42_method_82_code 2 (some .int) :: ws) ({ frames := 3, cells := 0, slots := 0, locals := 42 } : Room)) (fun ar_ U_ => ar_ = #[(.ref s1), (.int (58 : Int32))] ∧ Z.Warmed39 U_.vm ∧ U_.heap = h0) (fun _ _ _ _ _ => True) (fun _ U_ oc_ Ue_ => ∃ v_ L_, oc_ = .returned v_ ∧ Q7 Z s1 t1 kb cs nn cz h0 n0 v_ Ue_.heap L_ ∧ FrameEnd U_ oc_ Ue_ L_ ({ frames := 3, cells := 0, slots := 0, locals := 42 } : Room).cells ({ frames := 3, cells := 0, slots := 0, locals := 42 } : Room).slots) := by
  refine MetFree.of_bodySF (plainFor_of_name pn_1) hisR ?_
  intro p e s m args below meth c s₁ Bd hml0 hP hK
  obtain ⟨rfl, hZ, hh⟩ := hP
  have hx := Bd.exec
  have hby := Bd.bytes
  have hml : c.maxLocals = 2 := hml0
  have hown : s.vm.findClass "java/lang/String" = some m.cls := findClass_of_methodNamed Bd.named
  have hnm := (name_of_methodNamed Bd.named Bd.method).1
  have X0 : Stand p l e ({ frames := 3, cells := 0, slots := 0, locals := 42 } : Room) s m #[(.ref s1), (.int (58 : Int32))] below meth c s₁ [] 0 0 := Stand.of_body Bd
  have e0 : s₁.heap = h0 := by rw [← hh, Bd.state]; rfl
  have N0 := Fr.nil n0
  show OwnEnds p e below s (Q7 Z s1 t1 kb cs nn cz h0 n0) ({ frames := 3, cells := 0, slots := 0, locals := 42 } : Room).cells ({ frames := 3, cells := 0, slots := 0, locals := 42 } : Room).slots (s₁.setTop (entryFrame m #[(.ref s1), (.int (58 : Int32))] 2))
  rw [ef_7]
  show OwnEnds _ _ _ _ _ _ _ (s₁.setTop (mkF m 0 #[.val (.ref s1), .val (.int (58 : Int32))] []))
  refine OwnEnds.st (fun t_ k_ => XS.aloadN X0.here hx rfl (hb hby d7_0) rfl rfl k_) ?_
  show OwnEnds _ _ _ _ _ _ _ (s₁.setTop (mkF m 1 #[.val (.ref s1), .val (.int (58 : Int32))] [(.ref s1)]))
  refine OwnEnds.st (fun t_ k_ => XS.iloadN X0.here hx rfl (hb hby d7_1) rfl k_) ?_
  show OwnEnds _ _ _ _ _ _ _ (s₁.setTop (mkF m 2 #[.val (.ref s1), .val (.int (58 : Int32))] [(.int (58 : Int32)), (.ref s1)]))
  refine OwnEnds.st (fun t_ k_ => XS.aloadN X0.here hx rfl (hb hby d7_2) rfl rfl k_) ?_
  show OwnEnds _ _ _ _ _ _ _ (s₁.setTop (mkF m 3 #[.val (.ref s1), .val (.int (58 : Int32))] [(.ref s1), (.int (58 : Int32)), (.ref s1)]))
  obtain ⟨cq1, kq1, q1a, q1b, q1c⟩ := isOf hZ e0 (Es)
  obtain ⟨_, _, ⟨T1, L1, k1, n1⟩, -, X1, ⟨Lc1, hQ1, l1, y1, z1⟩, st1⟩ := X0.virtualBack hx (y := (⟨"java/lang/String", "length", "()I"⟩ : MethodName)) (z := (⟨"java/lang/String", "length", "()I"⟩ : MethodName)) hown (mvT hZ (hw _ (List.mem_of_getElem? (i := 39) rfl))) (mvT hZ (hw _ (List.mem_of_getElem? (i := 40) rfl))) (notFace_of_selects (args := #[]) (mvT hZ (hw _ (List.mem_of_getElem? (i := 42) rfl)))) (mvT hZ (hw _ (List.mem_of_getElem? (i := 42) rfl))) (mvT hZ (hw _ (List.mem_of_getElem? (i := 41) rfl))) (by decide) (backOf (W := 2) (rm8 l Z a0 hw [] s1 t1 kb cs nn cz h0 n0 Z0 Es Vs Cs At S_cs hcz O0) hZ (hw _ (List.mem_of_getElem? (i := 43) rfl)) (hw _ (List.mem_of_getElem? (i := 10) rfl)) (by decide) (by decide)) q1a q1c (g := (mkF m 3 #[.val (.ref s1), .val (.int (58 : Int32))] [(.ref s1), (.int (58 : Int32)), (.ref s1)])) rfl (by rw [hml]; rfl) (Steps.refl _) (argsL := []) (rest := [(.int (58 : Int32)), (.ref s1)]) (lenOf pd_7 rfl) rfl (by show 2 * 0 + _ ≤ _; exact Nat.le_of_eq rfl) (hb hby d7_3) (fun _ _ => ⟨rfl, e0, (by decide : 0 + 0 ≤ _), (by decide : 0 + 0 ≤ _)⟩)
  dsimp only [Pt.U, Pt.locs, Pt.cells, Pt.slots] at X1 l1 y1 z1 st1 hQ1
  subst l1 y1 z1
  obtain ⟨rfl, N1q, hh1⟩ := hQ1
  have N1 := Fr.app N0 N1q
  refine OwnEnds.go st1 ?_
  show OwnEnds _ _ _ _ _ _ _ (T1.setTop (mkF m 6 #[.val (.ref s1), .val (.int (58 : Int32))] [(.int (Int32.ofNat nn)), (.int (58 : Int32)), (.ref s1)]))
  refine OwnEnds.st (fun t_ k_ => XS.iconst X1.here hx rfl (hb hby d7_6) k_) ?_
  show OwnEnds _ _ _ _ _ _ _ (T1.setTop (mkF m 7 #[.val (.ref s1), .val (.int (58 : Int32))] [(.int (1 : Int32)), (.int (Int32.ofNat nn)), (.int (58 : Int32)), (.ref s1)]))
  refine OwnEnds.st (fun t_ k_ => XS.isub X1.here hx rfl (hb hby d7_7) rfl k_) ?_
  show OwnEnds _ _ _ _ _ _ _ (T1.setTop (mkF m 8 #[.val (.ref s1), .val (.int (58 : Int32))] [(.int ((Int32.ofNat nn) - (1 : Int32))), (.int (58 : Int32)), (.ref s1)]))
  obtain ⟨cq2, kq2, q2a, q2b, q2c⟩ := isOf hZ hh1 (Es)
  obtain ⟨_, _, ⟨T2, L2, k2, n2⟩, -, X2, ⟨Lc2, hQ2, l2, y2, z2⟩, st2⟩ := X1.virtualBack hx (y := (⟨"java/lang/String", "lastIndexOf", "(II)I"⟩ : MethodName)) (z := (⟨"java/lang/String", "lastIndexOf", "(II)I"⟩ : MethodName)) hown (mvT hZ (hw _ (List.mem_of_getElem? (i := 50) rfl))) (mvT hZ (hw _ (List.mem_of_getElem? (i := 51) rfl))) (notFace_of_selects (args := #[]) (mvT hZ (hw _ (List.mem_of_getElem? (i := 53) rfl)))) (mvT hZ (hw _ (List.mem_of_getElem? (i := 53) rfl))) (mvT hZ (hw _ (List.mem_of_getElem? (i := 52) rfl))) (by decide) (backOf (W := 0) (rm10 l Z a0 hw [] s1 t1 kb cs nn cz h0 n0 Z0 Es Vs Cs At hn hl4 hp S_cs hcz O0) hZ (hw _ (List.mem_of_getElem? (i := 54) rfl)) (hw _ (List.mem_of_getElem? (i := 10) rfl)) (by decide) (by decide)) q2a q2c (g := (mkF m 8 #[.val (.ref s1), .val (.int (58 : Int32))] [(.int ((Int32.ofNat nn) - (1 : Int32))), (.int (58 : Int32)), (.ref s1)])) rfl (by rw [hml]; rfl) (Steps.refl _) (argsL := [(.int (58 : Int32)), (.int ((Int32.ofNat nn) - (1 : Int32)))]) (rest := []) (lenOf pd_4 rfl) rfl (by show 2 * 0 + _ ≤ _; exact Nat.le_of_eq rfl) (hb hby d7_8) (fun _ _ => ⟨rfl, hh1, (by decide : 0 + 0 ≤ _), (by decide : 0 + 0 ≤ _)⟩)
  dsimp only [Pt.U, Pt.locs, Pt.cells, Pt.slots] at X2 l2 y2 z2 st2 hQ2
  subst l2 y2 z2
  obtain ⟨rfl, N2q, hh2⟩ := hQ2
  have N2 := Fr.app N1 N2q
  refine OwnEnds.go st2 ?_
  show OwnEnds _ _ _ _ _ _ _ (T2.setTop (mkF m 11 #[.val (.ref s1), .val (.int (58 : Int32))] [(.int (own_last cs nn))]))
  refine own_retI X2 hx Bd.returns Bd.notSynchronized (hb hby d7_11) ?_ (by decide) (by decide)
  show Q7 Z s1 t1 kb cs nn cz h0 n0 _ T2.heap _
  rw [hh2]
  exact ⟨rfl, N2, rfl⟩
theorem d34_0 : decode jdk_41_method_12_code 0 = .ok (.iload_n 0, 1) := by decide +kernel
theorem d34_1 : decode jdk_41_method_12_code 1 = .ok (.ifCond .lt 13, 3) := by decide +kernel
theorem d34_4 : decode jdk_41_method_12_code 4 = .ok (.iload_n 0, 1) := by decide +kernel
theorem d34_5 : decode jdk_41_method_12_code 5 = .ok (.iload_n 1, 1) := by decide +kernel
theorem d34_6 : decode jdk_41_method_12_code 6 = .ok (.if_icmp .gt 8, 3) := by decide +kernel
theorem d34_9 : decode jdk_41_method_12_code 9 = .ok (.iload_n 1, 1) := by decide +kernel
theorem d34_10 : decode jdk_41_method_12_code 10 = .ok (.iload_n 2, 1) := by decide +kernel
theorem d34_11 : decode jdk_41_method_12_code 11 = .ok (.if_icmp .le 11, 3) := by decide +kernel
theorem d34_22 : decode jdk_41_method_12_code 22 = .ok (.iload_n 0, 1) := by decide +kernel
theorem d34_23 : decode jdk_41_method_12_code 23 = .ok (.ireturn, 1) := by decide +kernel
theorem ef_34 (m : MethodId) (x0 : Int32) (x1 : Int32) (x2 : Int32) : entryFrame m #[(.int x0), (.int x1), (.int x2), .null] 4 = mkF m 0 #[.val (.int x0), .val (.int x1), .val (.int x2), .val .null] [] := by first | (simp [entryFrame, mkF, argsToLocals, Value.category]; done) | rfl
def Q34 (Z : State) (jn : Nat) (nn : Nat) (h0 : Heap) (n0 : Nat) (v : Option Value) (h : Heap) (L : List Loc) : Prop := v = some (.int 0) ∧ Fr n0 L ∧ h = h0
set_option maxRecDepth 65536 in
set_option maxHeartbeats 40000000 in
theorem rm34 (l : Launch) (Z : State) (a0 : Array Value) (hw : ∀ d ∈ tables_1, d.before a0 Z = true) (ws : List Jvm.Cond) (jn : Nat) (nn : Nat) (h0 : Heap) (n0 : Nat) (Z0 : n0 ≤ h0.size) (hjn : jn < nn) (hl4 : nn ≤ 4000) :
    MetFree l (⟨"jdk/internal/util/Preconditions", "checkFromToIndex", "(IIILjava/util/function/BiFunction;)I"⟩ : MethodName) (head1 (Jvm.Cond.code (⟨"jdk/internal/util/Preconditions", "checkFromToIndex", "(IIILjava/util/function/BiFunction;)I"⟩ : MethodName) jdk_41_method_12_code 4 (some .int) :: ws) ({ frames := 0, cells := 0, slots := 0, locals := 0 } : Room)) (fun ar_ U_ => ar_ = #[(.int (0 : Int32)), (.int (Int32.ofNat jn)), (.int (Int32.ofNat nn)), .null] ∧ Z.Warmed39 U_.vm ∧ U_.heap = h0) (fun _ _ _ _ _ => True) (fun _ U_ oc_ Ue_ => ∃ v_ L_, oc_ = .returned v_ ∧ Q34 Z jn nn h0 n0 v_ Ue_.heap L_ ∧ FrameEnd U_ oc_ Ue_ L_ ({ frames := 0, cells := 0, slots := 0, locals := 0 } : Room).cells ({ frames := 0, cells := 0, slots := 0, locals := 0 } : Room).slots) := by
  refine MetFree.of_bodySF (plainFor_of_name pn_3) hisR ?_
  intro p e s m args below meth c s₁ Bd hml0 hP hK
  obtain ⟨rfl, hZ, hh⟩ := hP
  have hx := Bd.exec
  have hby := Bd.bytes
  have hml : c.maxLocals = 4 := hml0
  have hown : s.vm.findClass "jdk/internal/util/Preconditions" = some m.cls := findClass_of_methodNamed Bd.named
  have hnm := (name_of_methodNamed Bd.named Bd.method).1
  have X0 : Stand p l e ({ frames := 0, cells := 0, slots := 0, locals := 0 } : Room) s m #[(.int (0 : Int32)), (.int (Int32.ofNat jn)), (.int (Int32.ofNat nn)), .null] below meth c s₁ [] 0 0 := Stand.of_body Bd
  have e0 : s₁.heap = h0 := by rw [← hh, Bd.state]; rfl
  have N0 := Fr.nil n0
  show OwnEnds p e below s (Q34 Z jn nn h0 n0) ({ frames := 0, cells := 0, slots := 0, locals := 0 } : Room).cells ({ frames := 0, cells := 0, slots := 0, locals := 0 } : Room).slots (s₁.setTop (entryFrame m #[(.int (0 : Int32)), (.int (Int32.ofNat jn)), (.int (Int32.ofNat nn)), .null] 4))
  rw [ef_34]
  show OwnEnds _ _ _ _ _ _ _ (s₁.setTop (mkF m 0 #[.val (.int (0 : Int32)), .val (.int (Int32.ofNat jn)), .val (.int (Int32.ofNat nn)), .val .null] []))
  refine OwnEnds.st (fun t_ k_ => XS.iloadN X0.here hx rfl (hb hby d34_0) rfl k_) ?_
  show OwnEnds _ _ _ _ _ _ _ (s₁.setTop (mkF m 1 #[.val (.int (0 : Int32)), .val (.int (Int32.ofNat jn)), .val (.int (Int32.ofNat nn)), .val .null] [(.int (0 : Int32))]))
  refine OwnEnds.st (fun t_ k_ => XS.ifNo X0.here hx rfl (hb hby d34_1) rfl ((if0 _ _).trans (flt ((by decide) : ¬ ((0 : Int32) < (0 : Int32)))).1) k_) ?_
  show OwnEnds _ _ _ _ _ _ _ (s₁.setTop (mkF m 4 #[.val (.int (0 : Int32)), .val (.int (Int32.ofNat jn)), .val (.int (Int32.ofNat nn)), .val .null] []))
  refine OwnEnds.st (fun t_ k_ => XS.iloadN X0.here hx rfl (hb hby d34_4) rfl k_) ?_
  show OwnEnds _ _ _ _ _ _ _ (s₁.setTop (mkF m 5 #[.val (.int (0 : Int32)), .val (.int (Int32.ofNat jn)), .val (.int (Int32.ofNat nn)), .val .null] [(.int (0 : Int32))]))
  refine OwnEnds.st (fun t_ k_ => XS.iloadN X0.here hx rfl (hb hby d34_5) rfl k_) ?_
  show OwnEnds _ _ _ _ _ _ _ (s₁.setTop (mkF m 6 #[.val (.int (0 : Int32)), .val (.int (Int32.ofNat jn)), .val (.int (Int32.ofNat nn)), .val .null] [(.int (Int32.ofNat jn)), (.int (0 : Int32))]))
  refine OwnEnds.st (fun t_ k_ => XS.icmpNo X0.here hx rfl (hb hby d34_6) rfl (flt ((own_nn (by omega)) : ¬ ((Int32.ofNat jn) < (0 : Int32)))).2.2.1 k_) ?_
  show OwnEnds _ _ _ _ _ _ _ (s₁.setTop (mkF m 9 #[.val (.int (0 : Int32)), .val (.int (Int32.ofNat jn)), .val (.int (Int32.ofNat nn)), .val .null] []))
  refine OwnEnds.st (fun t_ k_ => XS.iloadN X0.here hx rfl (hb hby d34_9) rfl k_) ?_
  show OwnEnds _ _ _ _ _ _ _ (s₁.setTop (mkF m 10 #[.val (.int (0 : Int32)), .val (.int (Int32.ofNat jn)), .val (.int (Int32.ofNat nn)), .val .null] [(.int (Int32.ofNat jn))]))
  refine OwnEnds.st (fun t_ k_ => XS.iloadN X0.here hx rfl (hb hby d34_10) rfl k_) ?_
  show OwnEnds _ _ _ _ _ _ _ (s₁.setTop (mkF m 11 #[.val (.int (0 : Int32)), .val (.int (Int32.ofNat jn)), .val (.int (Int32.ofNat nn)), .val .null] [(.int (Int32.ofNat nn)), (.int (Int32.ofNat jn))]))
  refine OwnEnds.st (fun t_ k_ => XS.icmpYes X0.here hx rfl (pc0 := 11) (pc' := 22) rfl (hb hby d34_11) rfl (flt ((fun q_ => by rw [Int32.lt_iff_toInt_lt, own_nat (by omega), own_nat (by omega)] at q_; omega) : ¬ ((Int32.ofNat nn) < (Int32.ofNat jn)))).2.2.2 (by decide) (by decide) k_) ?_
  show OwnEnds _ _ _ _ _ _ _ (s₁.setTop (mkF m 22 #[.val (.int (0 : Int32)), .val (.int (Int32.ofNat jn)), .val (.int (Int32.ofNat nn)), .val .null] []))
  refine OwnEnds.st (fun t_ k_ => XS.iloadN X0.here hx rfl (hb hby d34_22) rfl k_) ?_
  show OwnEnds _ _ _ _ _ _ _ (s₁.setTop (mkF m 23 #[.val (.int (0 : Int32)), .val (.int (Int32.ofNat jn)), .val (.int (Int32.ofNat nn)), .val .null] [(.int (0 : Int32))]))
  refine own_retI X0 hx Bd.returns Bd.notSynchronized (hb hby d34_23) ?_ (by decide) (by decide)
  show Q34 Z jn nn h0 n0 _ s₁.heap _
  rw [e0]
  exact ⟨rfl, N0, rfl⟩
theorem d35_0 : decode jdk_41_method_12_code 0 = .ok (.iload_n 0, 1) := by decide +kernel
theorem d35_1 : decode jdk_41_method_12_code 1 = .ok (.ifCond .lt 13, 3) := by decide +kernel
theorem d35_4 : decode jdk_41_method_12_code 4 = .ok (.iload_n 0, 1) := by decide +kernel
theorem d35_5 : decode jdk_41_method_12_code 5 = .ok (.iload_n 1, 1) := by decide +kernel
theorem d35_6 : decode jdk_41_method_12_code 6 = .ok (.if_icmp .gt 8, 3) := by decide +kernel
theorem d35_9 : decode jdk_41_method_12_code 9 = .ok (.iload_n 1, 1) := by decide +kernel
theorem d35_10 : decode jdk_41_method_12_code 10 = .ok (.iload_n 2, 1) := by decide +kernel
theorem d35_11 : decode jdk_41_method_12_code 11 = .ok (.if_icmp .le 11, 3) := by decide +kernel
theorem d35_22 : decode jdk_41_method_12_code 22 = .ok (.iload_n 0, 1) := by decide +kernel
theorem d35_23 : decode jdk_41_method_12_code 23 = .ok (.ireturn, 1) := by decide +kernel
theorem ef_35 (m : MethodId) (x0 : Int32) (x1 : Int32) (x2 : Int32) (x3 : Addr) : entryFrame m #[(.int x0), (.int x1), (.int x2), (.ref x3)] 4 = mkF m 0 #[.val (.int x0), .val (.int x1), .val (.int x2), .val (.ref x3)] [] := by first | (simp [entryFrame, mkF, argsToLocals, Value.category]; done) | rfl
def Q35 (Z : State) (jn : Nat) (nn : Nat) (fx : Addr) (h0 : Heap) (n0 : Nat) (v : Option Value) (h : Heap) (L : List Loc) : Prop := v = some (.int 0) ∧ Fr n0 L ∧ h = h0
set_option maxRecDepth 65536 in
set_option maxHeartbeats 40000000 in
theorem rm35 (l : Launch) (Z : State) (a0 : Array Value) (hw : ∀ d ∈ tables_1, d.before a0 Z = true) (ws : List Jvm.Cond) (jn : Nat) (nn : Nat) (fx : Addr) (h0 : Heap) (n0 : Nat) (Z0 : n0 ≤ h0.size) (hjn : jn < nn) (hl4 : nn ≤ 4000) :
    MetFree l (⟨"jdk/internal/util/Preconditions", "checkFromToIndex", "(IIILjava/util/function/BiFunction;)I"⟩ : MethodName) (head1 (Jvm.Cond.code (⟨"jdk/internal/util/Preconditions", "checkFromToIndex", "(IIILjava/util/function/BiFunction;)I"⟩ : MethodName) jdk_41_method_12_code 4 (some .int) :: ws) ({ frames := 0, cells := 0, slots := 0, locals := 0 } : Room)) (fun ar_ U_ => ar_ = #[(.int (0 : Int32)), (.int (Int32.ofNat jn)), (.int (Int32.ofNat nn)), (.ref fx)] ∧ Z.Warmed39 U_.vm ∧ U_.heap = h0) (fun _ _ _ _ _ => True) (fun _ U_ oc_ Ue_ => ∃ v_ L_, oc_ = .returned v_ ∧ Q35 Z jn nn fx h0 n0 v_ Ue_.heap L_ ∧ FrameEnd U_ oc_ Ue_ L_ ({ frames := 0, cells := 0, slots := 0, locals := 0 } : Room).cells ({ frames := 0, cells := 0, slots := 0, locals := 0 } : Room).slots) := by
  refine MetFree.of_bodySF (plainFor_of_name pn_3) hisR ?_
  intro p e s m args below meth c s₁ Bd hml0 hP hK
  obtain ⟨rfl, hZ, hh⟩ := hP
  have hx := Bd.exec
  have hby := Bd.bytes
  have hml : c.maxLocals = 4 := hml0
  have hown : s.vm.findClass "jdk/internal/util/Preconditions" = some m.cls := findClass_of_methodNamed Bd.named
  have hnm := (name_of_methodNamed Bd.named Bd.method).1
  have X0 : Stand p l e ({ frames := 0, cells := 0, slots := 0, locals := 0 } : Room) s m #[(.int (0 : Int32)), (.int (Int32.ofNat jn)), (.int (Int32.ofNat nn)), (.ref fx)] below meth c s₁ [] 0 0 := Stand.of_body Bd
  have e0 : s₁.heap = h0 := by rw [← hh, Bd.state]; rfl
  have N0 := Fr.nil n0
  show OwnEnds p e below s (Q35 Z jn nn fx h0 n0) ({ frames := 0, cells := 0, slots := 0, locals := 0 } : Room).cells ({ frames := 0, cells := 0, slots := 0, locals := 0 } : Room).slots (s₁.setTop (entryFrame m #[(.int (0 : Int32)), (.int (Int32.ofNat jn)), (.int (Int32.ofNat nn)), (.ref fx)] 4))
  rw [ef_35]
  show OwnEnds _ _ _ _ _ _ _ (s₁.setTop (mkF m 0 #[.val (.int (0 : Int32)), .val (.int (Int32.ofNat jn)), .val (.int (Int32.ofNat nn)), .val (.ref fx)] []))
  refine OwnEnds.st (fun t_ k_ => XS.iloadN X0.here hx rfl (hb hby d35_0) rfl k_) ?_
  show OwnEnds _ _ _ _ _ _ _ (s₁.setTop (mkF m 1 #[.val (.int (0 : Int32)), .val (.int (Int32.ofNat jn)), .val (.int (Int32.ofNat nn)), .val (.ref fx)] [(.int (0 : Int32))]))
  refine OwnEnds.st (fun t_ k_ => XS.ifNo X0.here hx rfl (hb hby d35_1) rfl ((if0 _ _).trans (flt ((by decide) : ¬ ((0 : Int32) < (0 : Int32)))).1) k_) ?_
  show OwnEnds _ _ _ _ _ _ _ (s₁.setTop (mkF m 4 #[.val (.int (0 : Int32)), .val (.int (Int32.ofNat jn)), .val (.int (Int32.ofNat nn)), .val (.ref fx)] []))
  refine OwnEnds.st (fun t_ k_ => XS.iloadN X0.here hx rfl (hb hby d35_4) rfl k_) ?_
  show OwnEnds _ _ _ _ _ _ _ (s₁.setTop (mkF m 5 #[.val (.int (0 : Int32)), .val (.int (Int32.ofNat jn)), .val (.int (Int32.ofNat nn)), .val (.ref fx)] [(.int (0 : Int32))]))
  refine OwnEnds.st (fun t_ k_ => XS.iloadN X0.here hx rfl (hb hby d35_5) rfl k_) ?_
  show OwnEnds _ _ _ _ _ _ _ (s₁.setTop (mkF m 6 #[.val (.int (0 : Int32)), .val (.int (Int32.ofNat jn)), .val (.int (Int32.ofNat nn)), .val (.ref fx)] [(.int (Int32.ofNat jn)), (.int (0 : Int32))]))
  refine OwnEnds.st (fun t_ k_ => XS.icmpNo X0.here hx rfl (hb hby d35_6) rfl (flt ((own_nn (by omega)) : ¬ ((Int32.ofNat jn) < (0 : Int32)))).2.2.1 k_) ?_
  show OwnEnds _ _ _ _ _ _ _ (s₁.setTop (mkF m 9 #[.val (.int (0 : Int32)), .val (.int (Int32.ofNat jn)), .val (.int (Int32.ofNat nn)), .val (.ref fx)] []))
  refine OwnEnds.st (fun t_ k_ => XS.iloadN X0.here hx rfl (hb hby d35_9) rfl k_) ?_
  show OwnEnds _ _ _ _ _ _ _ (s₁.setTop (mkF m 10 #[.val (.int (0 : Int32)), .val (.int (Int32.ofNat jn)), .val (.int (Int32.ofNat nn)), .val (.ref fx)] [(.int (Int32.ofNat jn))]))
  refine OwnEnds.st (fun t_ k_ => XS.iloadN X0.here hx rfl (hb hby d35_10) rfl k_) ?_
  show OwnEnds _ _ _ _ _ _ _ (s₁.setTop (mkF m 11 #[.val (.int (0 : Int32)), .val (.int (Int32.ofNat jn)), .val (.int (Int32.ofNat nn)), .val (.ref fx)] [(.int (Int32.ofNat nn)), (.int (Int32.ofNat jn))]))
  refine OwnEnds.st (fun t_ k_ => XS.icmpYes X0.here hx rfl (pc0 := 11) (pc' := 22) rfl (hb hby d35_11) rfl (flt ((fun q_ => by rw [Int32.lt_iff_toInt_lt, own_nat (by omega), own_nat (by omega)] at q_; omega) : ¬ ((Int32.ofNat nn) < (Int32.ofNat jn)))).2.2.2 (by decide) (by decide) k_) ?_
  show OwnEnds _ _ _ _ _ _ _ (s₁.setTop (mkF m 22 #[.val (.int (0 : Int32)), .val (.int (Int32.ofNat jn)), .val (.int (Int32.ofNat nn)), .val (.ref fx)] []))
  refine OwnEnds.st (fun t_ k_ => XS.iloadN X0.here hx rfl (hb hby d35_22) rfl k_) ?_
  show OwnEnds _ _ _ _ _ _ _ (s₁.setTop (mkF m 23 #[.val (.int (0 : Int32)), .val (.int (Int32.ofNat jn)), .val (.int (Int32.ofNat nn)), .val (.ref fx)] [(.int (0 : Int32))]))
  refine own_retI X0 hx Bd.returns Bd.notSynchronized (hb hby d35_23) ?_ (by decide) (by decide)
  show Q35 Z jn nn fx h0 n0 _ s₁.heap _
  rw [e0]
  exact ⟨rfl, N0, rfl⟩
theorem d21_0 : decode jdk_42_method_158_code 0 = .ok (.iload_n 0, 1) := by decide +kernel
theorem d21_1 : decode jdk_42_method_158_code 1 = .ok (.iload_n 1, 1) := by decide +kernel
theorem d21_2 : decode jdk_42_method_158_code 2 = .ok (.iload_n 2, 1) := by decide +kernel
theorem d21_3 : decode jdk_42_method_158_code 3 = .ok (.getstatic 1053, 3) := by decide +kernel
theorem d21_6 : decode jdk_42_method_158_code 6 = .ok (.invokestatic 1062, 3) := by decide +kernel
theorem d21_9 : decode jdk_42_method_158_code 9 = .ok (.pop, 1) := by decide +kernel
theorem d21_10 : decode jdk_42_method_158_code 10 = .ok (.return_, 1) := by decide +kernel
theorem ef_21 (m : MethodId) (x0 : Int32) (x1 : Int32) (x2 : Int32) : entryFrame m #[(.int x0), (.int x1), (.int x2)] 3 = mkF m 0 #[.val (.int x0), .val (.int x1), .val (.int x2)] [] := by first | (simp [entryFrame, mkF, argsToLocals, Value.category]; done) | rfl
def Q21 (Z : State) (jn : Nat) (nn : Nat) (fm : Value) (h0 : Heap) (n0 : Nat) (v : Option Value) (h : Heap) (L : List Loc) : Prop := v = none ∧ Fr n0 L ∧ h = h0
set_option maxRecDepth 65536 in
set_option maxHeartbeats 40000000 in
theorem rm21 (l : Launch) (Z : State) (a0 : Array Value) (hw : ∀ d ∈ tables_1, d.before a0 Z = true) (ws : List Jvm.Cond) (jn : Nat) (nn : Nat) (fm : Value) (h0 : Heap) (n0 : Nat) (Z0 : n0 ≤ h0.size) (hjn : jn < nn) (hl4 : nn ≤ 4000) (S_si : Sta Z Z.heap "jdk/internal/util/Preconditions" "SIOOBE_FORMATTER" "Ljava/util/function/BiFunction;" fm) (hfm : fm.isRef = true) (O0 : Old Z n0 h0) :
    MetFree l (⟨"java/lang/String", "checkBoundsBeginEnd", "(III)V"⟩ : MethodName) (head1 (Jvm.Cond.code (⟨"java/lang/String", "checkBoundsBeginEnd", "(III)V"⟩ : MethodName) jdk_42_method_158_code 3 none :: ws) ({ frames := 1, cells := 0, slots := 0, locals := 15 } : Room)) (fun ar_ U_ => ar_ = #[(.int (0 : Int32)), (.int (Int32.ofNat jn)), (.int (Int32.ofNat nn))] ∧ Z.Warmed39 U_.vm ∧ U_.heap = h0) (fun _ _ _ _ _ => True) (fun _ U_ oc_ Ue_ => ∃ v_ L_, oc_ = .returned v_ ∧ Q21 Z jn nn fm h0 n0 v_ Ue_.heap L_ ∧ FrameEnd U_ oc_ Ue_ L_ ({ frames := 1, cells := 0, slots := 0, locals := 15 } : Room).cells ({ frames := 1, cells := 0, slots := 0, locals := 15 } : Room).slots) := by
  refine MetFree.of_bodySF (plainFor_of_name pn_1) hisR ?_
  intro p e s m args below meth c s₁ Bd hml0 hP hK
  obtain ⟨rfl, hZ, hh⟩ := hP
  have hx := Bd.exec
  have hby := Bd.bytes
  have hml : c.maxLocals = 3 := hml0
  have hown : s.vm.findClass "java/lang/String" = some m.cls := findClass_of_methodNamed Bd.named
  have hnm := (name_of_methodNamed Bd.named Bd.method).1
  have X0 : Stand p l e ({ frames := 1, cells := 0, slots := 0, locals := 15 } : Room) s m #[(.int (0 : Int32)), (.int (Int32.ofNat jn)), (.int (Int32.ofNat nn))] below meth c s₁ [] 0 0 := Stand.of_body Bd
  have e0 : s₁.heap = h0 := by rw [← hh, Bd.state]; rfl
  have N0 := Fr.nil n0
  show OwnEnds p e below s (Q21 Z jn nn fm h0 n0) ({ frames := 1, cells := 0, slots := 0, locals := 15 } : Room).cells ({ frames := 1, cells := 0, slots := 0, locals := 15 } : Room).slots (s₁.setTop (entryFrame m #[(.int (0 : Int32)), (.int (Int32.ofNat jn)), (.int (Int32.ofNat nn))] 3))
  rw [ef_21]
  show OwnEnds _ _ _ _ _ _ _ (s₁.setTop (mkF m 0 #[.val (.int (0 : Int32)), .val (.int (Int32.ofNat jn)), .val (.int (Int32.ofNat nn))] []))
  rcases own_isref hfm with rfl | ⟨fx, rfl⟩
  · refine OwnEnds.st (fun t_ k_ => XS.iloadN X0.here hx rfl (hb hby d21_0) rfl k_) ?_
    show OwnEnds _ _ _ _ _ _ _ (s₁.setTop (mkF m 1 #[.val (.int (0 : Int32)), .val (.int (Int32.ofNat jn)), .val (.int (Int32.ofNat nn))] [(.int (0 : Int32))]))
    refine OwnEnds.st (fun t_ k_ => XS.iloadN X0.here hx rfl (hb hby d21_1) rfl k_) ?_
    show OwnEnds _ _ _ _ _ _ _ (s₁.setTop (mkF m 2 #[.val (.int (0 : Int32)), .val (.int (Int32.ofNat jn)), .val (.int (Int32.ofNat nn))] [(.int (Int32.ofNat jn)), (.int (0 : Int32))]))
    refine OwnEnds.st (fun t_ k_ => XS.iloadN X0.here hx rfl (hb hby d21_2) rfl k_) ?_
    show OwnEnds _ _ _ _ _ _ _ (s₁.setTop (mkF m 3 #[.val (.int (0 : Int32)), .val (.int (Int32.ofNat jn)), .val (.int (Int32.ofNat nn))] [(.int (Int32.ofNat nn)), (.int (Int32.ofNat jn)), (.int (0 : Int32))]))
    obtain ⟨T1, X1, e1, st1⟩ := getS2 X0 hx hZ hown (host := "") (Or.inl (hw _ (List.mem_of_getElem? (i := 101) rfl))) Via.refl e0 (S_si.ext O0.2) (g := (mkF m 3 #[.val (.int (0 : Int32)), .val (.int (Int32.ofNat jn)), .val (.int (Int32.ofNat nn))] [(.int (Int32.ofNat nn)), (.int (Int32.ofNat jn)), (.int (0 : Int32))])) rfl (hb hby d21_3)
    refine OwnEnds.st st1 ?_
    show OwnEnds _ _ _ _ _ _ _ (T1.setTop (mkF m 6 #[.val (.int (0 : Int32)), .val (.int (Int32.ofNat jn)), .val (.int (Int32.ofNat nn))] [.null, (.int (Int32.ofNat nn)), (.int (Int32.ofNat jn)), (.int (0 : Int32))]))
    obtain ⟨_, _, ⟨T2, L2, k2, n2⟩, -, X2, ⟨Lc2, hQ2, l2, y2, z2⟩, st2⟩ := Jvm.LawKit.callS X1 hx (y := (⟨"jdk/internal/util/Preconditions", "checkFromToIndex", "(IIILjava/util/function/BiFunction;)I"⟩ : MethodName)) hown (mvT hZ (hw _ (List.mem_of_getElem? (i := 103) rfl))) (mvT hZ (hw _ (List.mem_of_getElem? (i := 104) rfl))) (mvT hZ (hw _ (List.mem_of_getElem? (i := 102) rfl))) (mvT hZ (hw _ (List.mem_of_getElem? (i := 105) rfl))) (by decide) (backOf (W := 0) (rm34 l Z a0 hw [] jn nn h0 n0 Z0 hjn hl4) hZ (hw _ (List.mem_of_getElem? (i := 105) rfl)) (hw _ (List.mem_of_getElem? (i := 102) rfl)) (by decide) (by decide)) (g := (mkF m 6 #[.val (.int (0 : Int32)), .val (.int (Int32.ofNat jn)), .val (.int (Int32.ofNat nn))] [.null, (.int (Int32.ofNat nn)), (.int (Int32.ofNat jn)), (.int (0 : Int32))])) rfl (by rw [hml]; rfl) (argsL := [(.int (0 : Int32)), (.int (Int32.ofNat jn)), (.int (Int32.ofNat nn)), .null]) (rest := []) (lenOf pd_8 rfl) rfl (by show 2 * 0 + _ ≤ _; exact Nat.le_of_eq rfl) (hb hby d21_6) (fun _ _ => ⟨rfl, e1, (by decide : 0 + 0 ≤ _), (by decide : 0 + 0 ≤ _)⟩)
    dsimp only [Pt.U, Pt.locs, Pt.cells, Pt.slots] at X2 l2 y2 z2 st2 hQ2
    subst l2 y2 z2
    obtain ⟨rfl, N2q, hh2⟩ := hQ2
    have N2 := Fr.app N0 N2q
    refine OwnEnds.st st2 ?_
    show OwnEnds _ _ _ _ _ _ _ (T2.setTop (mkF m 9 #[.val (.int (0 : Int32)), .val (.int (Int32.ofNat jn)), .val (.int (Int32.ofNat nn))] [(.int (0 : Int32))]))
    refine OwnEnds.st (fun t_ k_ => XS.pop X2.here hx rfl (hb hby d21_9) rfl rfl k_) ?_
    show OwnEnds _ _ _ _ _ _ _ (T2.setTop (mkF m 10 #[.val (.int (0 : Int32)), .val (.int (Int32.ofNat jn)), .val (.int (Int32.ofNat nn))] []))
    refine own_retV X2 hx Bd.returns Bd.notSynchronized (hb hby d21_10) ?_ (by decide) (by decide)
    show Q21 Z jn nn _ h0 n0 _ T2.heap _
    rw [hh2]
    exact ⟨rfl, N2, rfl⟩
  · refine OwnEnds.st (fun t_ k_ => XS.iloadN X0.here hx rfl (hb hby d21_0) rfl k_) ?_
    show OwnEnds _ _ _ _ _ _ _ (s₁.setTop (mkF m 1 #[.val (.int (0 : Int32)), .val (.int (Int32.ofNat jn)), .val (.int (Int32.ofNat nn))] [(.int (0 : Int32))]))
    refine OwnEnds.st (fun t_ k_ => XS.iloadN X0.here hx rfl (hb hby d21_1) rfl k_) ?_
    show OwnEnds _ _ _ _ _ _ _ (s₁.setTop (mkF m 2 #[.val (.int (0 : Int32)), .val (.int (Int32.ofNat jn)), .val (.int (Int32.ofNat nn))] [(.int (Int32.ofNat jn)), (.int (0 : Int32))]))
    refine OwnEnds.st (fun t_ k_ => XS.iloadN X0.here hx rfl (hb hby d21_2) rfl k_) ?_
    show OwnEnds _ _ _ _ _ _ _ (s₁.setTop (mkF m 3 #[.val (.int (0 : Int32)), .val (.int (Int32.ofNat jn)), .val (.int (Int32.ofNat nn))] [(.int (Int32.ofNat nn)), (.int (Int32.ofNat jn)), (.int (0 : Int32))]))
    obtain ⟨T3, X3, e3, st3⟩ := getS2 X0 hx hZ hown (host := "") (Or.inl (hw _ (List.mem_of_getElem? (i := 101) rfl))) Via.refl e0 (S_si.ext O0.2) (g := (mkF m 3 #[.val (.int (0 : Int32)), .val (.int (Int32.ofNat jn)), .val (.int (Int32.ofNat nn))] [(.int (Int32.ofNat nn)), (.int (Int32.ofNat jn)), (.int (0 : Int32))])) rfl (hb hby d21_3)
    refine OwnEnds.st st3 ?_
    show OwnEnds _ _ _ _ _ _ _ (T3.setTop (mkF m 6 #[.val (.int (0 : Int32)), .val (.int (Int32.ofNat jn)), .val (.int (Int32.ofNat nn))] [(.ref fx), (.int (Int32.ofNat nn)), (.int (Int32.ofNat jn)), (.int (0 : Int32))]))
    obtain ⟨_, _, ⟨T4, L4, k4, n4⟩, -, X4, ⟨Lc4, hQ4, l4, y4, z4⟩, st4⟩ := Jvm.LawKit.callS X3 hx (y := (⟨"jdk/internal/util/Preconditions", "checkFromToIndex", "(IIILjava/util/function/BiFunction;)I"⟩ : MethodName)) hown (mvT hZ (hw _ (List.mem_of_getElem? (i := 103) rfl))) (mvT hZ (hw _ (List.mem_of_getElem? (i := 104) rfl))) (mvT hZ (hw _ (List.mem_of_getElem? (i := 102) rfl))) (mvT hZ (hw _ (List.mem_of_getElem? (i := 105) rfl))) (by decide) (backOf (W := 0) (rm35 l Z a0 hw [] jn nn fx h0 n0 Z0 hjn hl4) hZ (hw _ (List.mem_of_getElem? (i := 105) rfl)) (hw _ (List.mem_of_getElem? (i := 102) rfl)) (by decide) (by decide)) (g := (mkF m 6 #[.val (.int (0 : Int32)), .val (.int (Int32.ofNat jn)), .val (.int (Int32.ofNat nn))] [(.ref fx), (.int (Int32.ofNat nn)), (.int (Int32.ofNat jn)), (.int (0 : Int32))])) rfl (by rw [hml]; rfl) (argsL := [(.int (0 : Int32)), (.int (Int32.ofNat jn)), (.int (Int32.ofNat nn)), (.ref fx)]) (rest := []) (lenOf pd_8 rfl) rfl (by show 2 * 0 + _ ≤ _; exact Nat.le_of_eq rfl) (hb hby d21_6) (fun _ _ => ⟨rfl, e3, (by decide : 0 + 0 ≤ _), (by decide : 0 + 0 ≤ _)⟩)
    dsimp only [Pt.U, Pt.locs, Pt.cells, Pt.slots] at X4 l4 y4 z4 st4 hQ4
    subst l4 y4 z4
    obtain ⟨rfl, N4q, hh4⟩ := hQ4
    have N4 := Fr.app N0 N4q
    refine OwnEnds.st st4 ?_
    show OwnEnds _ _ _ _ _ _ _ (T4.setTop (mkF m 9 #[.val (.int (0 : Int32)), .val (.int (Int32.ofNat jn)), .val (.int (Int32.ofNat nn))] [(.int (0 : Int32))]))
    refine OwnEnds.st (fun t_ k_ => XS.pop X4.here hx rfl (hb hby d21_9) rfl rfl k_) ?_
    show OwnEnds _ _ _ _ _ _ _ (T4.setTop (mkF m 10 #[.val (.int (0 : Int32)), .val (.int (Int32.ofNat jn)), .val (.int (Int32.ofNat nn))] []))
    refine own_retV X4 hx Bd.returns Bd.notSynchronized (hb hby d21_10) ?_ (by decide) (by decide)
    show Q21 Z jn nn _ h0 n0 _ T4.heap _
    rw [hh4]
    exact ⟨rfl, N4, rfl⟩
theorem d26_0 : decode jdk_65_method_131_code 0 = .ok (.iload_n 1, 1) := by decide +kernel
theorem d26_1 : decode jdk_65_method_131_code 1 = .ok (.iload_n 0, 1) := by decide +kernel
theorem d26_2 : decode jdk_65_method_131_code 2 = .ok (.if_icmp .ge 35, 3) := by decide +kernel
theorem d26_37 : decode jdk_65_method_131_code 37 = .ok (.return_, 1) := by decide +kernel
theorem ef_26 (m : MethodId) (x0 : Int32) (x1 : Int32) : entryFrame m #[(.int x0), (.int x1)] 2 = mkF m 0 #[.val (.int x0), .val (.int x1)] [] := by first | (simp [entryFrame, mkF, argsToLocals, Value.category]; done) | rfl
def Q26 (Z : State) (jn : Nat) (h0 : Heap) (n0 : Nat) (v : Option Value) (h : Heap) (L : List Loc) : Prop := v = none ∧ Fr n0 L ∧ h = h0
set_option maxRecDepth 65536 in
set_option maxHeartbeats 40000000 in
theorem rm26 (l : Launch) (Z : State) (a0 : Array Value) (hw : ∀ d ∈ tables_1, d.before a0 Z = true) (ws : List Jvm.Cond) (jn : Nat) (h0 : Heap) (n0 : Nat) (Z0 : n0 ≤ h0.size) (hj4 : jn ≤ 4000) :
    MetFree l (⟨"java/util/Arrays", "checkLength", "(II)V"⟩ : MethodName) (head1 (Jvm.Cond.code (⟨"java/util/Arrays", "checkLength", "(II)V"⟩ : MethodName) jdk_65_method_131_code 2 none :: ws) ({ frames := 0, cells := 0, slots := 0, locals := 0 } : Room)) (fun ar_ U_ => ar_ = #[(.int (0 : Int32)), (.int (Int32.ofNat jn))] ∧ Z.Warmed39 U_.vm ∧ U_.heap = h0) (fun _ _ _ _ _ => True) (fun _ U_ oc_ Ue_ => ∃ v_ L_, oc_ = .returned v_ ∧ Q26 Z jn h0 n0 v_ Ue_.heap L_ ∧ FrameEnd U_ oc_ Ue_ L_ ({ frames := 0, cells := 0, slots := 0, locals := 0 } : Room).cells ({ frames := 0, cells := 0, slots := 0, locals := 0 } : Room).slots) := by
  refine MetFree.of_bodySF (plainFor_of_name pn_4) hisR ?_
  intro p e s m args below meth c s₁ Bd hml0 hP hK
  obtain ⟨rfl, hZ, hh⟩ := hP
  have hx := Bd.exec
  have hby := Bd.bytes
  have hml : c.maxLocals = 2 := hml0
  have hown : s.vm.findClass "java/util/Arrays" = some m.cls := findClass_of_methodNamed Bd.named
  have hnm := (name_of_methodNamed Bd.named Bd.method).1
  have X0 : Stand p l e ({ frames := 0, cells := 0, slots := 0, locals := 0 } : Room) s m #[(.int (0 : Int32)), (.int (Int32.ofNat jn))] below meth c s₁ [] 0 0 := Stand.of_body Bd
  have e0 : s₁.heap = h0 := by rw [← hh, Bd.state]; rfl
  have N0 := Fr.nil n0
  show OwnEnds p e below s (Q26 Z jn h0 n0) ({ frames := 0, cells := 0, slots := 0, locals := 0 } : Room).cells ({ frames := 0, cells := 0, slots := 0, locals := 0 } : Room).slots (s₁.setTop (entryFrame m #[(.int (0 : Int32)), (.int (Int32.ofNat jn))] 2))
  rw [ef_26]
  show OwnEnds _ _ _ _ _ _ _ (s₁.setTop (mkF m 0 #[.val (.int (0 : Int32)), .val (.int (Int32.ofNat jn))] []))
  refine OwnEnds.st (fun t_ k_ => XS.iloadN X0.here hx rfl (hb hby d26_0) rfl k_) ?_
  show OwnEnds _ _ _ _ _ _ _ (s₁.setTop (mkF m 1 #[.val (.int (0 : Int32)), .val (.int (Int32.ofNat jn))] [(.int (Int32.ofNat jn))]))
  refine OwnEnds.st (fun t_ k_ => XS.iloadN X0.here hx rfl (hb hby d26_1) rfl k_) ?_
  show OwnEnds _ _ _ _ _ _ _ (s₁.setTop (mkF m 2 #[.val (.int (0 : Int32)), .val (.int (Int32.ofNat jn))] [(.int (0 : Int32)), (.int (Int32.ofNat jn))]))
  refine OwnEnds.st (fun t_ k_ => XS.icmpYes X0.here hx rfl (pc0 := 2) (pc' := 37) rfl (hb hby d26_2) rfl (flt ((own_nn hj4) : ¬ ((Int32.ofNat jn) < (0 : Int32)))).2.1 (by decide) (by decide) k_) ?_
  show OwnEnds _ _ _ _ _ _ _ (s₁.setTop (mkF m 37 #[.val (.int (0 : Int32)), .val (.int (Int32.ofNat jn))] []))
  refine own_retV X0 hx Bd.returns Bd.notSynchronized (hb hby d26_37) ?_ (by decide) (by decide)
  show Q26 Z jn h0 n0 _ s₁.heap _
  rw [e0]
  exact ⟨rfl, N0, rfl⟩
theorem d25_0 : decode jdk_65_method_133_code 0 = .ok (.iload_n 1, 1) := by decide +kernel
theorem d25_1 : decode jdk_65_method_133_code 1 = .ok (.iload_n 2, 1) := by decide +kernel
theorem d25_2 : decode jdk_65_method_133_code 2 = .ok (.invokestatic 343, 3) := by decide +kernel
theorem d25_5 : decode jdk_65_method_133_code 5 = .ok (.iload_n 2, 1) := by decide +kernel
theorem d25_6 : decode jdk_65_method_133_code 6 = .ok (.iload_n 1, 1) := by decide +kernel
theorem d25_7 : decode jdk_65_method_133_code 7 = .ok (.isub, 1) := by decide +kernel
theorem d25_8 : decode jdk_65_method_133_code 8 = .ok (.istore_n 3, 1) := by decide +kernel
theorem d25_9 : decode jdk_65_method_133_code 9 = .ok (.iload_n 3, 1) := by decide +kernel
theorem d25_10 : decode jdk_65_method_133_code 10 = .ok (.newarray .byte, 2) := by decide +kernel
theorem d25_12 : decode jdk_65_method_133_code 12 = .ok (.astore 4, 2) := by decide +kernel
theorem d25_14 : decode jdk_65_method_133_code 14 = .ok (.aload_n 0, 1) := by decide +kernel
theorem d25_15 : decode jdk_65_method_133_code 15 = .ok (.iload_n 1, 1) := by decide +kernel
theorem d25_16 : decode jdk_65_method_133_code 16 = .ok (.aload 4, 2) := by decide +kernel
theorem d25_18 : decode jdk_65_method_133_code 18 = .ok (.iconst 0, 1) := by decide +kernel
theorem d25_19 : decode jdk_65_method_133_code 19 = .ok (.aload_n 0, 1) := by decide +kernel
theorem d25_20 : decode jdk_65_method_133_code 20 = .ok (.arraylength, 1) := by decide +kernel
theorem d25_21 : decode jdk_65_method_133_code 21 = .ok (.iload_n 1, 1) := by decide +kernel
theorem d25_22 : decode jdk_65_method_133_code 22 = .ok (.isub, 1) := by decide +kernel
theorem d25_23 : decode jdk_65_method_133_code 23 = .ok (.iload_n 3, 1) := by decide +kernel
theorem d25_24 : decode jdk_65_method_133_code 24 = .ok (.invokestatic 304, 3) := by decide +kernel
theorem d25_27 : decode jdk_65_method_133_code 27 = .ok (.invokestatic 150, 3) := by decide +kernel
theorem d25_30 : decode jdk_65_method_133_code 30 = .ok (.aload 4, 2) := by decide +kernel
theorem d25_32 : decode jdk_65_method_133_code 32 = .ok (.areturn, 1) := by decide +kernel
theorem ef_25 (m : MethodId) (x0 : Addr) (x1 : Int32) (x2 : Int32) : entryFrame m #[(.ref x0), (.int x1), (.int x2)] 5 = mkF m 0 #[.val (.ref x0), .val (.int x1), .val (.int x2), .unset, .unset] [] := by first | (simp [entryFrame, mkF, argsToLocals, Value.category]; done) | rfl
def Q25 (Z : State) (t1 : Addr) (kb : ClassId) (cs : List Int32) (nn : Nat) (jn : Nat) (h0 : Heap) (n0 : Nat) (v : Option Value) (h : Heap) (L : List Loc) : Prop := ∃ b k', v = some (.ref b) ∧ Fr n0 L ∧ Keep h0 h [] ∧ h0.size ≤ b ∧ Arv Z h b k' .byte (Int32.ofNat jn) (((cs.take jn).map (fun c => c.toInt8.toInt32)).map Value.int) (.int 0)
set_option maxRecDepth 65536 in
set_option maxHeartbeats 40000000 in
theorem rm25 (l : Launch) (Z : State) (a0 : Array Value) (hw : ∀ d ∈ tables_1, d.before a0 Z = true) (ws : List Jvm.Cond) (t1 : Addr) (kb : ClassId) (cs : List Int32) (nn : Nat) (jn : Nat) (h0 : Heap) (n0 : Nat) (Z0 : n0 ≤ h0.size) (At : Arv Z h0 t1 kb .byte (Int32.ofNat nn) ((cs.map (fun c => c.toInt8.toInt32)).map Value.int) (.int 0)) (hn : cs.length = nn) (hl4 : nn ≤ 4000) (hjn : jn < nn) (hj3 : jn ≤ 3) :
    MetFree l (⟨"java/util/Arrays", "copyOfRangeByte", "([BII)[B"⟩ : MethodName) (head1 (Jvm.Cond.code (⟨"java/util/Arrays", "copyOfRangeByte", "([BII)[B"⟩ : MethodName) jdk_65_method_133_code 5 (some (.array .byte)) :: ws) ({ frames := 1, cells := 1, slots := 4, locals := 80 } : Room)) (fun ar_ U_ => ar_ = #[(.ref t1), (.int (0 : Int32)), (.int (Int32.ofNat jn))] ∧ Z.Warmed39 U_.vm ∧ U_.heap = h0) (fun _ _ _ _ _ => True) (fun _ U_ oc_ Ue_ => ∃ v_ L_, oc_ = .returned v_ ∧ Q25 Z t1 kb cs nn jn h0 n0 v_ Ue_.heap L_ ∧ FrameEnd U_ oc_ Ue_ L_ ({ frames := 1, cells := 1, slots := 4, locals := 80 } : Room).cells ({ frames := 1, cells := 1, slots := 4, locals := 80 } : Room).slots) := by
  refine MetFree.of_bodySF (plainFor_of_name pn_4) hisR ?_
  intro p e s m args below meth c s₁ Bd hml0 hP hK
  obtain ⟨rfl, hZ, hh⟩ := hP
  have hx := Bd.exec
  have hby := Bd.bytes
  have hml : c.maxLocals = 5 := hml0
  have hown : s.vm.findClass "java/util/Arrays" = some m.cls := findClass_of_methodNamed Bd.named
  have hnm := (name_of_methodNamed Bd.named Bd.method).1
  have X0 : Stand p l e ({ frames := 1, cells := 1, slots := 4, locals := 80 } : Room) s m #[(.ref t1), (.int (0 : Int32)), (.int (Int32.ofNat jn))] below meth c s₁ [] 0 0 := Stand.of_body Bd
  have e0 : s₁.heap = h0 := by rw [← hh, Bd.state]; rfl
  have N0 := Fr.nil n0
  show OwnEnds p e below s (Q25 Z t1 kb cs nn jn h0 n0) ({ frames := 1, cells := 1, slots := 4, locals := 80 } : Room).cells ({ frames := 1, cells := 1, slots := 4, locals := 80 } : Room).slots (s₁.setTop (entryFrame m #[(.ref t1), (.int (0 : Int32)), (.int (Int32.ofNat jn))] 5))
  rw [ef_25]
  show OwnEnds _ _ _ _ _ _ _ (s₁.setTop (mkF m 0 #[.val (.ref t1), .val (.int (0 : Int32)), .val (.int (Int32.ofNat jn)), .unset, .unset] []))
  refine OwnEnds.st (fun t_ k_ => XS.iloadN X0.here hx rfl (hb hby d25_0) rfl k_) ?_
  show OwnEnds _ _ _ _ _ _ _ (s₁.setTop (mkF m 1 #[.val (.ref t1), .val (.int (0 : Int32)), .val (.int (Int32.ofNat jn)), .unset, .unset] [(.int (0 : Int32))]))
  refine OwnEnds.st (fun t_ k_ => XS.iloadN X0.here hx rfl (hb hby d25_1) rfl k_) ?_
  show OwnEnds _ _ _ _ _ _ _ (s₁.setTop (mkF m 2 #[.val (.ref t1), .val (.int (0 : Int32)), .val (.int (Int32.ofNat jn)), .unset, .unset] [(.int (Int32.ofNat jn)), (.int (0 : Int32))]))
  obtain ⟨_, _, ⟨T1, L1, k1, n1⟩, -, X1, ⟨Lc1, hQ1, l1, y1, z1⟩, st1⟩ := Jvm.LawKit.callS X0 hx (y := (⟨"java/util/Arrays", "checkLength", "(II)V"⟩ : MethodName)) hown (mvT hZ (hw _ (List.mem_of_getElem? (i := 117) rfl))) (mvT hZ (hw _ (List.mem_of_getElem? (i := 118) rfl))) (mvT hZ (hw _ (List.mem_of_getElem? (i := 112) rfl))) (mvT hZ (hw _ (List.mem_of_getElem? (i := 119) rfl))) (by decide) (backOf (W := 0) (rm26 l Z a0 hw [] jn h0 n0 Z0 (by omega)) hZ (hw _ (List.mem_of_getElem? (i := 119) rfl)) (hw _ (List.mem_of_getElem? (i := 112) rfl)) (by decide) (by decide)) (g := (mkF m 2 #[.val (.ref t1), .val (.int (0 : Int32)), .val (.int (Int32.ofNat jn)), .unset, .unset] [(.int (Int32.ofNat jn)), (.int (0 : Int32))])) rfl (by rw [hml]; rfl) (argsL := [(.int (0 : Int32)), (.int (Int32.ofNat jn))]) (rest := []) (lenOf pd_9 rfl) rfl (by show 2 * 0 + _ ≤ _; exact Nat.le_of_eq rfl) (hb hby d25_2) (fun _ _ => ⟨rfl, e0, (by decide : 0 + 0 ≤ _), (by decide : 0 + 0 ≤ _)⟩)
  dsimp only [Pt.U, Pt.locs, Pt.cells, Pt.slots] at X1 l1 y1 z1 st1 hQ1
  subst l1 y1 z1
  obtain ⟨rfl, N1q, hh1⟩ := hQ1
  have N1 := Fr.app N0 N1q
  refine OwnEnds.st st1 ?_
  show OwnEnds _ _ _ _ _ _ _ (T1.setTop (mkF m 5 #[.val (.ref t1), .val (.int (0 : Int32)), .val (.int (Int32.ofNat jn)), .unset, .unset] []))
  refine OwnEnds.st (fun t_ k_ => XS.iloadN X1.here hx rfl (hb hby d25_5) rfl k_) ?_
  show OwnEnds _ _ _ _ _ _ _ (T1.setTop (mkF m 6 #[.val (.ref t1), .val (.int (0 : Int32)), .val (.int (Int32.ofNat jn)), .unset, .unset] [(.int (Int32.ofNat jn))]))
  refine OwnEnds.st (fun t_ k_ => XS.iloadN X1.here hx rfl (hb hby d25_6) rfl k_) ?_
  show OwnEnds _ _ _ _ _ _ _ (T1.setTop (mkF m 7 #[.val (.ref t1), .val (.int (0 : Int32)), .val (.int (Int32.ofNat jn)), .unset, .unset] [(.int (0 : Int32)), (.int (Int32.ofNat jn))]))
  refine OwnEnds.st (fun t_ k_ => XS.isub X1.here hx rfl (hb hby d25_7) rfl k_) ?_
  show OwnEnds _ _ _ _ _ _ _ (T1.setTop (mkF m 8 #[.val (.ref t1), .val (.int (0 : Int32)), .val (.int (Int32.ofNat jn)), .unset, .unset] [(.int ((Int32.ofNat jn) - (0 : Int32)))]))
  rw [own_sub0]
  refine OwnEnds.st (fun t_ k_ => XS.istoreN X1.here hx rfl (hb hby d25_8) rfl (l' := #[.val (.ref t1), .val (.int (0 : Int32)), .val (.int (Int32.ofNat jn)), .val (.int (Int32.ofNat jn)), .unset]) rfl k_) ?_
  show OwnEnds _ _ _ _ _ _ _ (T1.setTop (mkF m 9 #[.val (.ref t1), .val (.int (0 : Int32)), .val (.int (Int32.ofNat jn)), .val (.int (Int32.ofNat jn)), .unset] []))
  refine OwnEnds.st (fun t_ k_ => XS.iloadN X1.here hx rfl (hb hby d25_9) rfl k_) ?_
  show OwnEnds _ _ _ _ _ _ _ (T1.setTop (mkF m 10 #[.val (.ref t1), .val (.int (0 : Int32)), .val (.int (Int32.ofNat jn)), .val (.int (Int32.ofNat jn)), .unset] [(.int (Int32.ofNat jn))]))
  obtain ⟨T2, h2, k2, X2, e2, E2, A2, st2⟩ := newP X1 hx hZ (hw _ (List.mem_of_getElem? (i := 23) rfl)) hh1 (g := (mkF m 10 #[.val (.ref t1), .val (.int (0 : Int32)), .val (.int (Int32.ofNat jn)), .val (.int (Int32.ofNat jn)), .unset] [(.int (Int32.ofNat jn))])) rfl (hb hby d25_10) rfl (own_nn (by omega)) (cap := 4) (by rw [own_clamp (by omega)]; omega) (by decide) (by decide) (by decide)
  obtain ⟨b2, g2⟩ : ∃ z, z = h0.size := ⟨_, rfl⟩
  rw [← g2] at A2 st2
  have V_b2 : Arv Z h2 b2 k2 .byte (Int32.ofNat jn) ([] ++ List.replicate jn (.int (0 : Int32))) (.int (0 : Int32)) := (Arv.new A2 (own_nn (by omega))).pad (pad_rep [] (.int (0 : Int32)) jn)
  refine OwnEnds.st st2 ?_
  show OwnEnds _ _ _ _ _ _ _ (T2.setTop (mkF m 12 #[.val (.ref t1), .val (.int (0 : Int32)), .val (.int (Int32.ofNat jn)), .val (.int (Int32.ofNat jn)), .unset] [(.ref b2)]))
  refine OwnEnds.st (fun t_ k_ => XS.astore X2.here hx rfl (hb hby d25_12) rfl rfl (l' := #[.val (.ref t1), .val (.int (0 : Int32)), .val (.int (Int32.ofNat jn)), .val (.int (Int32.ofNat jn)), .val (.ref b2)]) rfl k_) ?_
  show OwnEnds _ _ _ _ _ _ _ (T2.setTop (mkF m 14 #[.val (.ref t1), .val (.int (0 : Int32)), .val (.int (Int32.ofNat jn)), .val (.int (Int32.ofNat jn)), .val (.ref b2)] []))
  refine OwnEnds.st (fun t_ k_ => XS.aloadN X2.here hx rfl (hb hby d25_14) rfl rfl k_) ?_
  show OwnEnds _ _ _ _ _ _ _ (T2.setTop (mkF m 15 #[.val (.ref t1), .val (.int (0 : Int32)), .val (.int (Int32.ofNat jn)), .val (.int (Int32.ofNat jn)), .val (.ref b2)] [(.ref t1)]))
  refine OwnEnds.st (fun t_ k_ => XS.iloadN X2.here hx rfl (hb hby d25_15) rfl k_) ?_
  show OwnEnds _ _ _ _ _ _ _ (T2.setTop (mkF m 16 #[.val (.ref t1), .val (.int (0 : Int32)), .val (.int (Int32.ofNat jn)), .val (.int (Int32.ofNat jn)), .val (.ref b2)] [(.int (0 : Int32)), (.ref t1)]))
  refine OwnEnds.st (fun t_ k_ => XS.aload X2.here hx rfl (hb hby d25_16) rfl rfl k_) ?_
  show OwnEnds _ _ _ _ _ _ _ (T2.setTop (mkF m 18 #[.val (.ref t1), .val (.int (0 : Int32)), .val (.int (Int32.ofNat jn)), .val (.int (Int32.ofNat jn)), .val (.ref b2)] [(.ref b2), (.int (0 : Int32)), (.ref t1)]))
  refine OwnEnds.st (fun t_ k_ => XS.iconst X2.here hx rfl (hb hby d25_18) k_) ?_
  show OwnEnds _ _ _ _ _ _ _ (T2.setTop (mkF m 19 #[.val (.ref t1), .val (.int (0 : Int32)), .val (.int (Int32.ofNat jn)), .val (.int (Int32.ofNat jn)), .val (.ref b2)] [(.int (0 : Int32)), (.ref b2), (.int (0 : Int32)), (.ref t1)]))
  refine OwnEnds.st (fun t_ k_ => XS.aloadN X2.here hx rfl (hb hby d25_19) rfl rfl k_) ?_
  show OwnEnds _ _ _ _ _ _ _ (T2.setTop (mkF m 20 #[.val (.ref t1), .val (.int (0 : Int32)), .val (.int (Int32.ofNat jn)), .val (.int (Int32.ofNat jn)), .val (.ref b2)] [(.ref t1), (.int (0 : Int32)), (.ref b2), (.int (0 : Int32)), (.ref t1)]))
  obtain ⟨cl3, Ar3, -, S3, N3', -, -⟩ := id (At.ext E2)
  refine OwnEnds.st (fun t_ k_ => X2.arraylength hx (heq_ e2 Ar3.1) (State.isArrayOf_alike hZ.alike Ar3.2.1) (g := (mkF m 20 #[.val (.ref t1), .val (.int (0 : Int32)), .val (.int (Int32.ofNat jn)), .val (.int (Int32.ofNat jn)), .val (.ref b2)] [(.ref t1), (.int (0 : Int32)), (.ref b2), (.int (0 : Int32)), (.ref t1)])) rfl rfl (hb hby d25_20) t_ k_) ?_
  rw [len_of S3 N3']
  show OwnEnds _ _ _ _ _ _ _ (T2.setTop (mkF m 21 #[.val (.ref t1), .val (.int (0 : Int32)), .val (.int (Int32.ofNat jn)), .val (.int (Int32.ofNat jn)), .val (.ref b2)] [(.int (Int32.ofNat nn)), (.int (0 : Int32)), (.ref b2), (.int (0 : Int32)), (.ref t1)]))
  refine OwnEnds.st (fun t_ k_ => XS.iloadN X2.here hx rfl (hb hby d25_21) rfl k_) ?_
  show OwnEnds _ _ _ _ _ _ _ (T2.setTop (mkF m 22 #[.val (.ref t1), .val (.int (0 : Int32)), .val (.int (Int32.ofNat jn)), .val (.int (Int32.ofNat jn)), .val (.ref b2)] [(.int (0 : Int32)), (.int (Int32.ofNat nn)), (.int (0 : Int32)), (.ref b2), (.int (0 : Int32)), (.ref t1)]))
  refine OwnEnds.st (fun t_ k_ => XS.isub X2.here hx rfl (hb hby d25_22) rfl k_) ?_
  show OwnEnds _ _ _ _ _ _ _ (T2.setTop (mkF m 23 #[.val (.ref t1), .val (.int (0 : Int32)), .val (.int (Int32.ofNat jn)), .val (.int (Int32.ofNat jn)), .val (.ref b2)] [(.int ((Int32.ofNat nn) - (0 : Int32))), (.int (0 : Int32)), (.ref b2), (.int (0 : Int32)), (.ref t1)]))
  rw [own_sub0]
  refine OwnEnds.st (fun t_ k_ => XS.iloadN X2.here hx rfl (hb hby d25_23) rfl k_) ?_
  show OwnEnds _ _ _ _ _ _ _ (T2.setTop (mkF m 24 #[.val (.ref t1), .val (.int (0 : Int32)), .val (.int (Int32.ofNat jn)), .val (.int (Int32.ofNat jn)), .val (.ref b2)] [(.int (Int32.ofNat jn)), (.int (Int32.ofNat nn)), (.int (0 : Int32)), (.ref b2), (.int (0 : Int32)), (.ref t1)]))
  have Zq : n0 ≤ h2.size := (Nat.le_trans Z0 (Nat.le_trans (Nat.le_refl _) E2.1))
  obtain ⟨_, _, ⟨T4, L4, k4, n4⟩, -, X4, ⟨Lc4, hQ4, l4, y4, z4⟩, st4⟩ := Jvm.LawKit.callS X2 hx (y := (⟨"java/lang/Math", "min", "(II)I"⟩ : MethodName)) hown (mvT hZ (hw _ (List.mem_of_getElem? (i := 120) rfl))) (mvT hZ (hw _ (List.mem_of_getElem? (i := 68) rfl))) (mvT hZ (hw _ (List.mem_of_getElem? (i := 69) rfl))) (mvT hZ (hw _ (List.mem_of_getElem? (i := 70) rfl))) (by decide) (backOf (W := 4) (rm14 l Z a0 hw [] (Int32.ofNat nn) (Int32.ofNat jn) h2 n0 Zq) hZ (hw _ (List.mem_of_getElem? (i := 70) rfl)) (hw _ (List.mem_of_getElem? (i := 69) rfl)) (by decide) (by decide)) (g := (mkF m 24 #[.val (.ref t1), .val (.int (0 : Int32)), .val (.int (Int32.ofNat jn)), .val (.int (Int32.ofNat jn)), .val (.ref b2)] [(.int (Int32.ofNat jn)), (.int (Int32.ofNat nn)), (.int (0 : Int32)), (.ref b2), (.int (0 : Int32)), (.ref t1)])) rfl (by rw [hml]; rfl) (argsL := [(.int (Int32.ofNat nn)), (.int (Int32.ofNat jn))]) (rest := [(.int (0 : Int32)), (.ref b2), (.int (0 : Int32)), (.ref t1)]) (lenOf pd_4 rfl) rfl (by show 2 * 0 + _ ≤ _; exact Nat.le_of_eq rfl) (hb hby d25_24) (fun _ _ => ⟨rfl, e2, (by decide : 1 + 0 ≤ _), (by decide : 4 + 0 ≤ _)⟩)
  dsimp only [Pt.U, Pt.locs, Pt.cells, Pt.slots] at X4 l4 y4 z4 st4 hQ4
  subst l4 y4 z4
  obtain ⟨rfl, N4q, hh4⟩ := hQ4
  have N4 := Fr.app N1 N4q
  refine OwnEnds.st st4 ?_
  show OwnEnds _ _ _ _ _ _ _ (T4.setTop (mkF m 27 #[.val (.ref t1), .val (.int (0 : Int32)), .val (.int (Int32.ofNat jn)), .val (.int (Int32.ofNat jn)), .val (.ref b2)] [(.int (if (Int32.ofNat jn) < (Int32.ofNat nn) then (Int32.ofNat jn) else (Int32.ofNat nn))), (.int (0 : Int32)), (.ref b2), (.int (0 : Int32)), (.ref t1)]))
  rw [if_pos (show (Int32.ofNat jn) < (Int32.ofNat nn) by rw [Int32.lt_iff_toInt_lt, own_nat (by omega), own_nat (by omega)]; omega)]
  obtain ⟨T5, h5, Ln5, X5, e5, N5, K5, V5, st5⟩ := cpA X4 hx hZ hown (hw _ (List.mem_of_getElem? (i := 121) rfl)) (hw _ (List.mem_of_getElem? (i := 124) rfl)) (hw _ (List.mem_of_getElem? (i := 122) rfl)) (hw _ (List.mem_of_getElem? (i := 123) rfl)) hh4 (sp := 0) (dp := 0) (nn := (Int32.ofNat jn)) (us := (((cs.take jn).map (fun c => c.toInt8.toInt32)).map Value.int)) (At.ext E2) V_b2 (Or.inl ⟨rfl, rfl⟩) (by decide) (by decide) (own_nn (by omega)) (by rw [own_clamp (by omega), own_clamp (by omega)]; show 0 + jn ≤ nn; omega) (by rw [own_clamp (by omega)]; show 0 + jn ≤ jn; omega) (by rw [own_clamp (by omega)]; exact (own_take (by omega)).symm) (by rw [own_clamp (by omega)]; show 0 + jn ≤ _; simp) N4 (Nat.le_trans (Nat.le_trans Z0 (Nat.le_refl _)) (Nat.le_of_eq g2.symm)) (g := (mkF m 27 #[.val (.ref t1), .val (.int (0 : Int32)), .val (.int (Int32.ofNat jn)), .val (.int (Int32.ofNat jn)), .val (.ref b2)] [(.int (Int32.ofNat jn)), (.int (0 : Int32)), (.ref b2), (.int (0 : Int32)), (.ref t1)])) rfl (by rw [hml]; rfl) rfl (hb hby d25_27) (by decide) (W := 0) (by show 2 * 0 + _ ≤ _; exact Nat.le_of_eq rfl) (by decide)
  have V5' : Arv Z h5 b2 k2 .byte (Int32.ofNat jn) (((cs.take jn).map (fun c => c.toInt8.toInt32)).map Value.int) (.int 0) := by
    have e_ : ([] ++ List.replicate jn (Value.int 0)).take (0 : Int32).toNatClampNeg ++ (((cs.take jn).map (fun c => c.toInt8.toInt32)).map Value.int) ++ ([] ++ List.replicate jn (Value.int 0)).drop ((0 : Int32).toNatClampNeg + (Int32.ofNat jn).toNatClampNeg) = (((cs.take jn).map (fun c => c.toInt8.toInt32)).map Value.int) := by
      rw [own_clamp (by omega)]; simp
    rw [← e_]; exact V5
  refine OwnEnds.st st5 ?_
  show OwnEnds _ _ _ _ _ _ _ (T5.setTop (mkF m 30 #[.val (.ref t1), .val (.int (0 : Int32)), .val (.int (Int32.ofNat jn)), .val (.int (Int32.ofNat jn)), .val (.ref b2)] []))
  refine OwnEnds.st (fun t_ k_ => XS.aload X5.here hx rfl (hb hby d25_30) rfl rfl k_) ?_
  show OwnEnds _ _ _ _ _ _ _ (T5.setTop (mkF m 32 #[.val (.ref t1), .val (.int (0 : Int32)), .val (.int (Int32.ofNat jn)), .val (.int (Int32.ofNat jn)), .val (.ref b2)] [(.ref b2)]))
  refine own_retA X5 hx Bd.returns Bd.notSynchronized rfl rfl (hb hby d25_32) ?_ (by decide) (by decide)
  show Q25 Z t1 kb cs nn jn h0 n0 _ T5.heap _
  rw [e5]
  exact ⟨b2, k2, rfl, N5, (((Keep.refl h0 []).ext E2).trans K5 (allS (Or.inr (Nat.le_trans (Nat.le_refl _) (Nat.le_of_eq g2.symm))) all0)), (Nat.le_trans (Nat.le_refl _) (Nat.le_of_eq g2.symm)), V5'⟩
theorem d24_0 : decode jdk_65_method_132_code 0 = .ok (.iload_n 1, 1) := by decide +kernel
theorem d24_1 : decode jdk_65_method_132_code 1 = .ok (.ifCond .ne 9, 3) := by decide +kernel
theorem d24_4 : decode jdk_65_method_132_code 4 = .ok (.iload_n 2, 1) := by decide +kernel
theorem d24_5 : decode jdk_65_method_132_code 5 = .ok (.aload_n 0, 1) := by decide +kernel
theorem d24_6 : decode jdk_65_method_132_code 6 = .ok (.arraylength, 1) := by decide +kernel
theorem d24_7 : decode jdk_65_method_132_code 7 = .ok (.if_icmp .eq 10, 3) := by decide +kernel
theorem d24_10 : decode jdk_65_method_132_code 10 = .ok (.aload_n 0, 1) := by decide +kernel
theorem d24_11 : decode jdk_65_method_132_code 11 = .ok (.iload_n 1, 1) := by decide +kernel
theorem d24_12 : decode jdk_65_method_132_code 12 = .ok (.iload_n 2, 1) := by decide +kernel
theorem d24_13 : decode jdk_65_method_132_code 13 = .ok (.invokestatic 339, 3) := by decide +kernel
theorem d24_16 : decode jdk_65_method_132_code 16 = .ok (.areturn, 1) := by decide +kernel
theorem ef_24 (m : MethodId) (x0 : Addr) (x1 : Int32) (x2 : Int32) : entryFrame m #[(.ref x0), (.int x1), (.int x2)] 3 = mkF m 0 #[.val (.ref x0), .val (.int x1), .val (.int x2)] [] := by first | (simp [entryFrame, mkF, argsToLocals, Value.category]; done) | rfl
def Q24 (Z : State) (t1 : Addr) (kb : ClassId) (cs : List Int32) (nn : Nat) (jn : Nat) (h0 : Heap) (n0 : Nat) (v : Option Value) (h : Heap) (L : List Loc) : Prop := ∃ b k', v = some (.ref b) ∧ Fr n0 L ∧ Keep h0 h [] ∧ h0.size ≤ b ∧ Arv Z h b k' .byte (Int32.ofNat jn) (((cs.take jn).map (fun c => c.toInt8.toInt32)).map Value.int) (.int 0)
set_option maxRecDepth 65536 in
set_option maxHeartbeats 40000000 in
theorem rm24 (l : Launch) (Z : State) (a0 : Array Value) (hw : ∀ d ∈ tables_1, d.before a0 Z = true) (ws : List Jvm.Cond) (t1 : Addr) (kb : ClassId) (cs : List Int32) (nn : Nat) (jn : Nat) (h0 : Heap) (n0 : Nat) (Z0 : n0 ≤ h0.size) (At : Arv Z h0 t1 kb .byte (Int32.ofNat nn) ((cs.map (fun c => c.toInt8.toInt32)).map Value.int) (.int 0)) (hn : cs.length = nn) (hl4 : nn ≤ 4000) (hjn : jn < nn) (hj3 : jn ≤ 3) :
    MetFree l (⟨"java/util/Arrays", "copyOfRange", "([BII)[B"⟩ : MethodName) (head1 (Jvm.Cond.code (⟨"java/util/Arrays", "copyOfRange", "([BII)[B"⟩ : MethodName) jdk_65_method_132_code 3 (some (.array .byte)) :: ws) ({ frames := 2, cells := 1, slots := 4, locals := 96 } : Room)) (fun ar_ U_ => ar_ = #[(.ref t1), (.int (0 : Int32)), (.int (Int32.ofNat jn))] ∧ Z.Warmed39 U_.vm ∧ U_.heap = h0) (fun _ _ _ _ _ => True) (fun _ U_ oc_ Ue_ => ∃ v_ L_, oc_ = .returned v_ ∧ Q24 Z t1 kb cs nn jn h0 n0 v_ Ue_.heap L_ ∧ FrameEnd U_ oc_ Ue_ L_ ({ frames := 2, cells := 1, slots := 4, locals := 96 } : Room).cells ({ frames := 2, cells := 1, slots := 4, locals := 96 } : Room).slots) := by
  refine MetFree.of_bodySF (plainFor_of_name pn_4) hisR ?_
  intro p e s m args below meth c s₁ Bd hml0 hP hK
  obtain ⟨rfl, hZ, hh⟩ := hP
  have hx := Bd.exec
  have hby := Bd.bytes
  have hml : c.maxLocals = 3 := hml0
  have hown : s.vm.findClass "java/util/Arrays" = some m.cls := findClass_of_methodNamed Bd.named
  have hnm := (name_of_methodNamed Bd.named Bd.method).1
  have X0 : Stand p l e ({ frames := 2, cells := 1, slots := 4, locals := 96 } : Room) s m #[(.ref t1), (.int (0 : Int32)), (.int (Int32.ofNat jn))] below meth c s₁ [] 0 0 := Stand.of_body Bd
  have e0 : s₁.heap = h0 := by rw [← hh, Bd.state]; rfl
  have N0 := Fr.nil n0
  show OwnEnds p e below s (Q24 Z t1 kb cs nn jn h0 n0) ({ frames := 2, cells := 1, slots := 4, locals := 96 } : Room).cells ({ frames := 2, cells := 1, slots := 4, locals := 96 } : Room).slots (s₁.setTop (entryFrame m #[(.ref t1), (.int (0 : Int32)), (.int (Int32.ofNat jn))] 3))
  rw [ef_24]
  show OwnEnds _ _ _ _ _ _ _ (s₁.setTop (mkF m 0 #[.val (.ref t1), .val (.int (0 : Int32)), .val (.int (Int32.ofNat jn))] []))
  refine OwnEnds.st (fun t_ k_ => XS.iloadN X0.here hx rfl (hb hby d24_0) rfl k_) ?_
  show OwnEnds _ _ _ _ _ _ _ (s₁.setTop (mkF m 1 #[.val (.ref t1), .val (.int (0 : Int32)), .val (.int (Int32.ofNat jn))] [(.int (0 : Int32))]))
  refine OwnEnds.st (fun t_ k_ => XS.ifNo X0.here hx rfl (hb hby d24_1) rfl ((if0 _ _).trans (teq (rfl : (0 : Int32) = (0 : Int32))).2) k_) ?_
  show OwnEnds _ _ _ _ _ _ _ (s₁.setTop (mkF m 4 #[.val (.ref t1), .val (.int (0 : Int32)), .val (.int (Int32.ofNat jn))] []))
  refine OwnEnds.st (fun t_ k_ => XS.iloadN X0.here hx rfl (hb hby d24_4) rfl k_) ?_
  show OwnEnds _ _ _ _ _ _ _ (s₁.setTop (mkF m 5 #[.val (.ref t1), .val (.int (0 : Int32)), .val (.int (Int32.ofNat jn))] [(.int (Int32.ofNat jn))]))
  refine OwnEnds.st (fun t_ k_ => XS.aloadN X0.here hx rfl (hb hby d24_5) rfl rfl k_) ?_
  show OwnEnds _ _ _ _ _ _ _ (s₁.setTop (mkF m 6 #[.val (.ref t1), .val (.int (0 : Int32)), .val (.int (Int32.ofNat jn))] [(.ref t1), (.int (Int32.ofNat jn))]))
  obtain ⟨cl1, Ar1, -, S1, N1', -, -⟩ := id At
  refine OwnEnds.st (fun t_ k_ => X0.arraylength hx (heq_ e0 Ar1.1) (State.isArrayOf_alike hZ.alike Ar1.2.1) (g := (mkF m 6 #[.val (.ref t1), .val (.int (0 : Int32)), .val (.int (Int32.ofNat jn))] [(.ref t1), (.int (Int32.ofNat jn))])) rfl rfl (hb hby d24_6) t_ k_) ?_
  rw [len_of S1 N1']
  show OwnEnds _ _ _ _ _ _ _ (s₁.setTop (mkF m 7 #[.val (.ref t1), .val (.int (0 : Int32)), .val (.int (Int32.ofNat jn))] [(.int (Int32.ofNat nn)), (.int (Int32.ofNat jn))]))
  refine OwnEnds.st (fun t_ k_ => XS.icmpNo X0.here hx rfl (hb hby d24_7) rfl (feq ((fun q_ => by have := congrArg Int32.toInt q_; rw [own_nat (by omega), own_nat (by omega)] at this; omega) : ¬ ((Int32.ofNat jn) = (Int32.ofNat nn)))).1 k_) ?_
  show OwnEnds _ _ _ _ _ _ _ (s₁.setTop (mkF m 10 #[.val (.ref t1), .val (.int (0 : Int32)), .val (.int (Int32.ofNat jn))] []))
  refine OwnEnds.st (fun t_ k_ => XS.aloadN X0.here hx rfl (hb hby d24_10) rfl rfl k_) ?_
  show OwnEnds _ _ _ _ _ _ _ (s₁.setTop (mkF m 11 #[.val (.ref t1), .val (.int (0 : Int32)), .val (.int (Int32.ofNat jn))] [(.ref t1)]))
  refine OwnEnds.st (fun t_ k_ => XS.iloadN X0.here hx rfl (hb hby d24_11) rfl k_) ?_
  show OwnEnds _ _ _ _ _ _ _ (s₁.setTop (mkF m 12 #[.val (.ref t1), .val (.int (0 : Int32)), .val (.int (Int32.ofNat jn))] [(.int (0 : Int32)), (.ref t1)]))
  refine OwnEnds.st (fun t_ k_ => XS.iloadN X0.here hx rfl (hb hby d24_12) rfl k_) ?_
  show OwnEnds _ _ _ _ _ _ _ (s₁.setTop (mkF m 13 #[.val (.ref t1), .val (.int (0 : Int32)), .val (.int (Int32.ofNat jn))] [(.int (Int32.ofNat jn)), (.int (0 : Int32)), (.ref t1)]))
  obtain ⟨_, _, ⟨T2, L2, k2, n2⟩, -, X2, ⟨Lc2, hQ2, l2, y2, z2⟩, st2⟩ := Jvm.LawKit.callS X0 hx (y := (⟨"java/util/Arrays", "copyOfRangeByte", "([BII)[B"⟩ : MethodName)) hown (mvT hZ (hw _ (List.mem_of_getElem? (i := 114) rfl))) (mvT hZ (hw _ (List.mem_of_getElem? (i := 115) rfl))) (mvT hZ (hw _ (List.mem_of_getElem? (i := 112) rfl))) (mvT hZ (hw _ (List.mem_of_getElem? (i := 116) rfl))) (by decide) (backOf (W := 0) (rm25 l Z a0 hw [] t1 kb cs nn jn h0 n0 Z0 At hn hl4 hjn hj3) hZ (hw _ (List.mem_of_getElem? (i := 116) rfl)) (hw _ (List.mem_of_getElem? (i := 112) rfl)) (by decide) (by decide)) (g := (mkF m 13 #[.val (.ref t1), .val (.int (0 : Int32)), .val (.int (Int32.ofNat jn))] [(.int (Int32.ofNat jn)), (.int (0 : Int32)), (.ref t1)])) rfl (by rw [hml]; rfl) (argsL := [(.ref t1), (.int (0 : Int32)), (.int (Int32.ofNat jn))]) (rest := []) (lenOf pd_10 rfl) rfl (by show 2 * 0 + _ ≤ _; exact Nat.le_of_eq rfl) (hb hby d24_13) (fun _ _ => ⟨rfl, e0, (by decide : 0 + 1 ≤ _), (by decide : 0 + 4 ≤ _)⟩)
  dsimp only [Pt.U, Pt.locs, Pt.cells, Pt.slots] at X2 l2 y2 z2 st2 hQ2
  subst l2 y2 z2
  obtain ⟨vb2, vk2, rfl, N2q, K2, gb2, V2⟩ := hQ2
  have N2 := Fr.app N0 N2q
  refine OwnEnds.st st2 ?_
  show OwnEnds _ _ _ _ _ _ _ (T2.setTop (mkF m 16 #[.val (.ref t1), .val (.int (0 : Int32)), .val (.int (Int32.ofNat jn))] [(.ref vb2)]))
  refine own_retA X2 hx Bd.returns Bd.notSynchronized rfl rfl (hb hby d24_16) ?_ (by decide) (by decide)
  show Q24 Z t1 kb cs nn jn h0 n0 _ T2.heap _
  exact ⟨vb2, vk2, rfl, N2, K2, gb2, V2⟩
theorem d27_0 : decode jdk_42_method_151_code 0 = .ok (.aload_n 0, 1) := by decide +kernel
theorem d27_1 : decode jdk_42_method_151_code 1 = .ok (.invokespecial 1, 3) := by decide +kernel
theorem d27_4 : decode jdk_42_method_151_code 4 = .ok (.aload_n 0, 1) := by decide +kernel
theorem d27_5 : decode jdk_42_method_151_code 5 = .ok (.aload_n 1, 1) := by decide +kernel
theorem d27_6 : decode jdk_42_method_151_code 6 = .ok (.putfield 9, 3) := by decide +kernel
theorem d27_9 : decode jdk_42_method_151_code 9 = .ok (.aload_n 0, 1) := by decide +kernel
theorem d27_10 : decode jdk_42_method_151_code 10 = .ok (.iload_n 2, 1) := by decide +kernel
theorem d27_11 : decode jdk_42_method_151_code 11 = .ok (.putfield 15, 3) := by decide +kernel
theorem d27_14 : decode jdk_42_method_151_code 14 = .ok (.return_, 1) := by decide +kernel
theorem ef_27 (m : MethodId) (x0 : Addr) (x1 : Addr) (x2 : Int32) : entryFrame m #[(.ref x0), (.ref x1), (.int x2)] 3 = mkF m 0 #[.val (.ref x0), .val (.ref x1), .val (.int x2)] [] := by first | (simp [entryFrame, mkF, argsToLocals, Value.category]; done) | rfl
def Q27 (Z : State) (b1 : Addr) (d1 : Addr) (h0 : Heap) (n0 : Nat) (v : Option Value) (h : Heap) (L : List Loc) : Prop := v = none ∧ Fr n0 L ∧ Keep h0 h [b1] ∧ Exa Z h b1 "java/lang/String" ∧ Fld Z h b1 "java/lang/String" "value" "[B" (.ref d1) ∧ Fld Z h b1 "java/lang/String" "coder" "B" (.int 0)
set_option maxRecDepth 65536 in
set_option maxHeartbeats 40000000 in
theorem rm27 (l : Launch) (Z : State) (a0 : Array Value) (hw : ∀ d ∈ tables_1, d.before a0 Z = true) (ws : List Jvm.Cond) (b1 : Addr) (d1 : Addr) (h0 : Heap) (n0 : Nat) (Z0 : n0 ≤ h0.size) (gb1 : n0 ≤ b1) (Exb : Exa Z h0 b1 "java/lang/String") (Fvb : Fld Z h0 b1 "java/lang/String" "value" "[B" .null) (Fcb : Fld Z h0 b1 "java/lang/String" "coder" "B" (.int 0)) :
    MetFree l (⟨"java/lang/String", "<init>", "([BB)V"⟩ : MethodName) (head1 (Jvm.Cond.code (⟨"java/lang/String", "<init>", "([BB)V"⟩ : MethodName) jdk_42_method_151_code 3 none :: ws) ({ frames := 1, cells := 0, slots := 0, locals := 12 } : Room)) (fun ar_ U_ => ar_ = #[(.ref b1), (.ref d1), (.int (0 : Int32))] ∧ Z.Warmed39 U_.vm ∧ U_.heap = h0) (fun _ _ _ _ _ => True) (fun _ U_ oc_ Ue_ => ∃ v_ L_, oc_ = .returned v_ ∧ Q27 Z b1 d1 h0 n0 v_ Ue_.heap L_ ∧ FrameEnd U_ oc_ Ue_ L_ ({ frames := 1, cells := 0, slots := 0, locals := 12 } : Room).cells ({ frames := 1, cells := 0, slots := 0, locals := 12 } : Room).slots) := by
  refine MetFree.of_bodySF (plainFor_of_name pn_1) hisR ?_
  intro p e s m args below meth c s₁ Bd hml0 hP hK
  obtain ⟨rfl, hZ, hh⟩ := hP
  have hx := Bd.exec
  have hby := Bd.bytes
  have hml : c.maxLocals = 3 := hml0
  have hown : s.vm.findClass "java/lang/String" = some m.cls := findClass_of_methodNamed Bd.named
  have hnm := (name_of_methodNamed Bd.named Bd.method).1
  have X0 : Stand p l e ({ frames := 1, cells := 0, slots := 0, locals := 12 } : Room) s m #[(.ref b1), (.ref d1), (.int (0 : Int32))] below meth c s₁ [] 0 0 := Stand.of_body Bd
  have e0 : s₁.heap = h0 := by rw [← hh, Bd.state]; rfl
  have N0 := Fr.nil n0
  show OwnEnds p e below s (Q27 Z b1 d1 h0 n0) ({ frames := 1, cells := 0, slots := 0, locals := 12 } : Room).cells ({ frames := 1, cells := 0, slots := 0, locals := 12 } : Room).slots (s₁.setTop (entryFrame m #[(.ref b1), (.ref d1), (.int (0 : Int32))] 3))
  rw [ef_27]
  show OwnEnds _ _ _ _ _ _ _ (s₁.setTop (mkF m 0 #[.val (.ref b1), .val (.ref d1), .val (.int (0 : Int32))] []))
  refine OwnEnds.st (fun t_ k_ => XS.aloadN X0.here hx rfl (hb hby d27_0) rfl rfl k_) ?_
  show OwnEnds _ _ _ _ _ _ _ (s₁.setTop (mkF m 1 #[.val (.ref b1), .val (.ref d1), .val (.int (0 : Int32))] [(.ref b1)]))
  obtain ⟨T1, X1, e1, st1⟩ := initO X0 hx hZ hown (hw _ (List.mem_of_getElem? (i := 19) rfl)) (hw _ (List.mem_of_getElem? (i := 20) rfl)) (hw _ (List.mem_of_getElem? (i := 21) rfl)) e0 (g := (mkF m 1 #[.val (.ref b1), .val (.ref d1), .val (.int (0 : Int32))] [(.ref b1)])) rfl (by rw [hml]; rfl) rfl (hb hby d27_1) (by decide) (W := 0) (by show 2 * 0 + _ ≤ _; exact Nat.le_of_eq rfl) (by decide)
  refine OwnEnds.st st1 ?_
  show OwnEnds _ _ _ _ _ _ _ (T1.setTop (mkF m 4 #[.val (.ref b1), .val (.ref d1), .val (.int (0 : Int32))] []))
  refine OwnEnds.st (fun t_ k_ => XS.aloadN X1.here hx rfl (hb hby d27_4) rfl rfl k_) ?_
  show OwnEnds _ _ _ _ _ _ _ (T1.setTop (mkF m 5 #[.val (.ref b1), .val (.ref d1), .val (.int (0 : Int32))] [(.ref b1)]))
  refine OwnEnds.st (fun t_ k_ => XS.aloadN X1.here hx rfl (hb hby d27_5) rfl rfl k_) ?_
  show OwnEnds _ _ _ _ _ _ _ (T1.setTop (mkF m 6 #[.val (.ref b1), .val (.ref d1), .val (.int (0 : Int32))] [(.ref d1), (.ref b1)]))
  obtain ⟨T2, h2, X2, e2, W2, st2⟩ := putF X1 hx hZ hown (host := "") (Or.inl (hw _ (List.mem_of_getElem? (i := 28) rfl))) Via.refl e1 Fvb Exb (Or.inr ⟨(hw _ (List.mem_of_getElem? (i := 24) rfl)), rfl, hnm⟩) (hw _ (List.mem_of_getElem? (i := 9) rfl)) (ty := (.array .byte)) (by decide) rfl rfl (g := (mkF m 6 #[.val (.ref b1), .val (.ref d1), .val (.int (0 : Int32))] [(.ref d1), (.ref b1)])) rfl rfl (hb hby d27_6)
  have N2 := Fr.snoc X2 N0 gb1
  refine OwnEnds.st st2 ?_
  show OwnEnds _ _ _ _ _ _ _ (T2.setTop (mkF m 9 #[.val (.ref b1), .val (.ref d1), .val (.int (0 : Int32))] []))
  have Fn2 := Fld.same W2 Fvb
  refine OwnEnds.st (fun t_ k_ => XS.aloadN X2.here hx rfl (hb hby d27_9) rfl rfl k_) ?_
  show OwnEnds _ _ _ _ _ _ _ (T2.setTop (mkF m 10 #[.val (.ref b1), .val (.ref d1), .val (.int (0 : Int32))] [(.ref b1)]))
  refine OwnEnds.st (fun t_ k_ => XS.iloadN X2.here hx rfl (hb hby d27_10) rfl k_) ?_
  show OwnEnds _ _ _ _ _ _ _ (T2.setTop (mkF m 11 #[.val (.ref b1), .val (.ref d1), .val (.int (0 : Int32))] [(.int (0 : Int32)), (.ref b1)]))
  obtain ⟨T3, h3, X3, e3, W3, st3⟩ := putF X2 hx hZ hown (host := "") (Or.inl (hw _ (List.mem_of_getElem? (i := 29) rfl))) Via.refl e2 (Fcb.other W2 (Or.inr (slot_ne (Or.inr (hw _ (List.mem_of_getElem? (i := 25) rfl))) (Or.inr (hw _ (List.mem_of_getElem? (i := 24) rfl))) (by decide) (t := .byte) (t' := (.array .byte)) (by decide) (by decide)))) (Exb.wr W2) (Or.inr ⟨(hw _ (List.mem_of_getElem? (i := 25) rfl)), rfl, hnm⟩) (hw _ (List.mem_of_getElem? (i := 9) rfl)) (ty := .byte) (by decide) rfl rfl (g := (mkF m 11 #[.val (.ref b1), .val (.ref d1), .val (.int (0 : Int32))] [(.int (0 : Int32)), (.ref b1)])) rfl rfl (hb hby d27_11)
  have N3 := Fr.snoc X3 N2 gb1
  refine OwnEnds.st st3 ?_
  show OwnEnds _ _ _ _ _ _ _ (T3.setTop (mkF m 14 #[.val (.ref b1), .val (.ref d1), .val (.int (0 : Int32))] []))
  have Fn3 := Fld.same W3 (Fcb.other W2 (Or.inr (slot_ne (Or.inr (hw _ (List.mem_of_getElem? (i := 25) rfl))) (Or.inr (hw _ (List.mem_of_getElem? (i := 24) rfl))) (by decide) (t := .byte) (t' := (.array .byte)) (by decide) (by decide))))
  refine own_retV X3 hx Bd.returns Bd.notSynchronized (hb hby d27_14) ?_ (by decide) (by decide)
  show Q27 Z b1 d1 h0 n0 _ T3.heap _
  rw [e3]
  exact ⟨rfl, N3, (((Keep.refl h0 [b1]).wr W2 (Or.inl (List.mem_cons_self ..))).wr W3 (Or.inl (List.mem_cons_self ..))), ((Exb.wr W2).wr W3), (Fn2.other W3 (Or.inr (slot_ne (Or.inr (hw _ (List.mem_of_getElem? (i := 24) rfl))) (Or.inr (hw _ (List.mem_of_getElem? (i := 25) rfl))) (by decide) (t := (.array .byte)) (t' := .byte) (by decide) (by decide)))), Fn3⟩
theorem d23_0 : decode jdk_43_method_47_code 0 = .ok (.iload_n 2, 1) := by decide +kernel
theorem d23_1 : decode jdk_43_method_47_code 1 = .ok (.ifCond .ne 6, 3) := by decide +kernel
theorem d23_4 : decode jdk_43_method_47_code 4 = .ok (.ldc 151, 2) := by decide +kernel
theorem d23_6 : decode jdk_43_method_47_code 6 = .ok (.areturn, 1) := by decide +kernel
theorem d23_7 : decode jdk_43_method_47_code 7 = .ok (.new 1, 3) := by decide +kernel
theorem d23_10 : decode jdk_43_method_47_code 10 = .ok (.dup, 1) := by decide +kernel
theorem d23_11 : decode jdk_43_method_47_code 11 = .ok (.aload_n 0, 1) := by decide +kernel
theorem d23_12 : decode jdk_43_method_47_code 12 = .ok (.iload_n 1, 1) := by decide +kernel
theorem d23_13 : decode jdk_43_method_47_code 13 = .ok (.iload_n 1, 1) := by decide +kernel
theorem d23_14 : decode jdk_43_method_47_code 14 = .ok (.iload_n 2, 1) := by decide +kernel
theorem d23_15 : decode jdk_43_method_47_code 15 = .ok (.iadd, 1) := by decide +kernel
theorem d23_16 : decode jdk_43_method_47_code 16 = .ok (.invokestatic 232, 3) := by decide +kernel
theorem d23_19 : decode jdk_43_method_47_code 19 = .ok (.iconst 0, 1) := by decide +kernel
theorem d23_20 : decode jdk_43_method_47_code 20 = .ok (.invokespecial 112, 3) := by decide +kernel
theorem d23_23 : decode jdk_43_method_47_code 23 = .ok (.areturn, 1) := by decide +kernel
theorem ef_23 (m : MethodId) (x0 : Addr) (x1 : Int32) (x2 : Int32) : entryFrame m #[(.ref x0), (.int x1), (.int x2)] 3 = mkF m 0 #[.val (.ref x0), .val (.int x1), .val (.int x2)] [] := by first | (simp [entryFrame, mkF, argsToLocals, Value.category]; done) | rfl
def Q23 (Z : State) (t1 : Addr) (kb : ClassId) (cs : List Int32) (nn : Nat) (jn : Nat) (h0 : Heap) (n0 : Nat) (v : Option Value) (vm : Vm) (h : Heap) (L : List Loc) : Prop := ∃ b, v = some (.ref b) ∧ Fr n0 L ∧ Keep h0 h [] ∧ OStr Z h b (cs.take jn) h.size ∧ Em Z vm h h.size
set_option maxRecDepth 65536 in
set_option maxHeartbeats 40000000 in
theorem rm23 (l : Launch) (Z : State) (a0 : Array Value) (hw : ∀ d ∈ tables_1, d.before a0 Z = true) (ws : List Jvm.Cond) (t1 : Addr) (kb : ClassId) (cs : List Int32) (nn : Nat) (jn : Nat) (h0 : Heap) (n0 : Nat) (Z0 : n0 ≤ h0.size) (At : Arv Z h0 t1 kb .byte (Int32.ofNat nn) ((cs.map (fun c => c.toInt8.toInt32)).map Value.int) (.int 0)) (hn : cs.length = nn) (hl4 : nn ≤ 4000) (hjn : jn < nn) (hj3 : jn ≤ 3) (hp : ∀ c ∈ cs, ¬ c < 0 ∧ ¬ (255 : Int32) < c) (hEL : EW Z a0 consts_1) (O0 : Old Z n0 h0) :
    MetFree l (⟨"java/lang/StringLatin1", "newString", "([BII)Ljava/lang/String;"⟩ : MethodName) (head1 (Jvm.Cond.code (⟨"java/lang/StringLatin1", "newString", "([BII)Ljava/lang/String;"⟩ : MethodName) jdk_43_method_47_code 3 (some (.object "java/lang/String")) :: ws) ({ frames := 3, cells := 2, slots := 8, locals := 112 } : Room)) (fun ar_ U_ => ar_ = #[(.ref t1), (.int (0 : Int32)), (.int (Int32.ofNat jn))] ∧ Z.Warmed39 U_.vm ∧ U_.heap = h0 ∧ Em Z U_.vm h0 h0.size) (fun _ _ _ _ _ => True) (fun _ U_ oc_ Ue_ => ∃ v_ L_, oc_ = .returned v_ ∧ Q23 Z t1 kb cs nn jn h0 n0 v_ Ue_.vm Ue_.heap L_ ∧ ReturnedEndW U_ oc_ Ue_ L_ ({ frames := 3, cells := 2, slots := 8, locals := 112 } : Room).cells ({ frames := 3, cells := 2, slots := 8, locals := 112 } : Room).slots) := by
  refine MetFree.of_bodySF (plainFor_of_name pn_2) hisR ?_
  intro p e s m args below meth c s₁ Bd hml0 hP hK
  obtain ⟨rfl, hZ, hh, I0⟩ := hP
  have hx := Bd.exec
  have hby := Bd.bytes
  have hml : c.maxLocals = 3 := hml0
  have hown : s.vm.findClass "java/lang/StringLatin1" = some m.cls := findClass_of_methodNamed Bd.named
  have hnm := (name_of_methodNamed Bd.named Bd.method).1
  have X0 : Stand p l e ({ frames := 3, cells := 2, slots := 8, locals := 112 } : Room) s m #[(.ref t1), (.int (0 : Int32)), (.int (Int32.ofNat jn))] below meth c s₁ [] 0 0 := Stand.of_body Bd
  have e0 : s₁.heap = h0 := by rw [← hh, Bd.state]; rfl
  have N0 := Fr.nil n0
  have F0 : Shelf s s h0.size := Shelf.start s _
  show OwnEndsW p e below s (Q23 Z t1 kb cs nn jn h0 n0) ({ frames := 3, cells := 2, slots := 8, locals := 112 } : Room).cells ({ frames := 3, cells := 2, slots := 8, locals := 112 } : Room).slots (s₁.setTop (entryFrame m #[(.ref t1), (.int (0 : Int32)), (.int (Int32.ofNat jn))] 3))
  rw [ef_23]
  show OwnEndsW _ _ _ _ _ _ _ (s₁.setTop (mkF m 0 #[.val (.ref t1), .val (.int (0 : Int32)), .val (.int (Int32.ofNat jn))] []))
  have hSt : ∀ a ∈ Bundle.stringAtoms, a.before a0 Z = true := fun d hd => hw d ((by decide +kernel : ∀ d ∈ Bundle.stringAtoms, d ∈ tables_1) d hd)
  refine OwnEndsW.st (fun t_ k_ => XS.iloadN X0.here hx rfl (hb hby d23_0) rfl k_) ?_
  show OwnEndsW _ _ _ _ _ _ _ (s₁.setTop (mkF m 1 #[.val (.ref t1), .val (.int (0 : Int32)), .val (.int (Int32.ofNat jn))] [(.int (Int32.ofNat jn))]))
  by_cases hj0 : jn = 0
  · refine OwnEndsW.st (fun t_ k_ => XS.ifNo X0.here hx rfl (hb hby d23_1) rfl ((if0 _ _).trans (teq ((by rw [hj0]; rfl) : (Int32.ofNat jn) = (0 : Int32))).2) k_) ?_
    show OwnEndsW _ _ _ _ _ _ _ (s₁.setTop (mkF m 4 #[.val (.ref t1), .val (.int (0 : Int32)), .val (.int (Int32.ofNat jn))] []))
    obtain ⟨a1, T1, h1, sb1, X1, e1, E1, F1, hZ, hown, Lt1, Ol1, CH1, Sf1, st1⟩ := own_ldcE X0 hx hZ hown (hw _ (List.mem_of_getElem? (i := 156) rfl)) hSt e0 F0 (Nat.le_refl _) hEL (by decide) I0 (g := (mkF m 4 #[.val (.ref t1), .val (.int (0 : Int32)), .val (.int (Int32.ofNat jn))] [])) rfl (hb hby d23_4) (by decide) (by decide)
    have Ic1 := Em.of CH1
    refine OwnEndsW.st st1 ?_
    show OwnEndsW _ _ _ _ _ _ _ (T1.setTop (mkF m 6 #[.val (.ref t1), .val (.int (0 : Int32)), .val (.int (Int32.ofNat jn))] [(.ref a1)]))
    have Oq1 : OStr Z h1 a1 (cs.take jn) h1.size := by rw [hj0]; exact Ol1
    refine own_retWA F1 X1 (by rw [e1]; exact (Nat.le_refl _)) hx Bd.returns Bd.notSynchronized rfl rfl (hb hby d23_6) ?_ (by decide) (by decide)
    show Q23 Z t1 kb cs nn jn h0 n0 _ T1.vm T1.heap _
    rw [e1]
    exact ⟨a1, rfl, N0, ((Keep.refl h0 []).ext E1), Oq1.top, (Em.warm hEL hZ Ic1.top X1.warmed)⟩
  · refine OwnEndsW.st (fun t_ k_ => XS.ifYes X0.here hx rfl (pc0 := 1) (pc' := 7) rfl (hb hby d23_1) rfl ((if0 _ _).trans (feq ((own_ofnat_ne (by omega) hj0) : ¬ ((Int32.ofNat jn) = (0 : Int32)))).2) (by decide) (by decide) k_) ?_
    show OwnEndsW _ _ _ _ _ _ _ (s₁.setTop (mkF m 7 #[.val (.ref t1), .val (.int (0 : Int32)), .val (.int (Int32.ofNat jn))] []))
    obtain ⟨T2, h2, X2, e2, E2, A2, D2, -, st2⟩ := newO X0 hx hZ hown (hw _ (List.mem_of_getElem? (i := 109) rfl)) (hw _ (List.mem_of_getElem? (i := 9) rfl)) (hw _ (List.mem_of_getElem? (i := 10) rfl)) e0 (g := (mkF m 7 #[.val (.ref t1), .val (.int (0 : Int32)), .val (.int (Int32.ofNat jn))] [])) rfl (hb hby d23_7) (by decide) (by decide)
    obtain ⟨b2, g2⟩ : ∃ z, z = h0.size := ⟨_, rfl⟩
    rw [← g2] at A2 D2 st2
    refine OwnEndsW.st st2 ?_
    show OwnEndsW _ _ _ _ _ _ _ (T2.setTop (mkF m 10 #[.val (.ref t1), .val (.int (0 : Int32)), .val (.int (Int32.ofNat jn))] [(.ref b2)]))
    have F_value_b2 : Fld Z h2 b2 "java/lang/String" "value" "[B" .null := D2 (Or.inr (hw _ (List.mem_of_getElem? (i := 24) rfl))) (ty := (.array .byte)) (by decide)
    have F_coder_b2 : Fld Z h2 b2 "java/lang/String" "coder" "B" (.int (0 : Int32)) := D2 (Or.inr (hw _ (List.mem_of_getElem? (i := 25) rfl))) (ty := .byte) (by decide)
    refine OwnEndsW.st (fun t_ k_ => XS.dup X2.here hx rfl (hb hby d23_10) rfl rfl k_) ?_
    show OwnEndsW _ _ _ _ _ _ _ (T2.setTop (mkF m 11 #[.val (.ref t1), .val (.int (0 : Int32)), .val (.int (Int32.ofNat jn))] [(.ref b2), (.ref b2)]))
    refine OwnEndsW.st (fun t_ k_ => XS.aloadN X2.here hx rfl (hb hby d23_11) rfl rfl k_) ?_
    show OwnEndsW _ _ _ _ _ _ _ (T2.setTop (mkF m 12 #[.val (.ref t1), .val (.int (0 : Int32)), .val (.int (Int32.ofNat jn))] [(.ref t1), (.ref b2), (.ref b2)]))
    refine OwnEndsW.st (fun t_ k_ => XS.iloadN X2.here hx rfl (hb hby d23_12) rfl k_) ?_
    show OwnEndsW _ _ _ _ _ _ _ (T2.setTop (mkF m 13 #[.val (.ref t1), .val (.int (0 : Int32)), .val (.int (Int32.ofNat jn))] [(.int (0 : Int32)), (.ref t1), (.ref b2), (.ref b2)]))
    refine OwnEndsW.st (fun t_ k_ => XS.iloadN X2.here hx rfl (hb hby d23_13) rfl k_) ?_
    show OwnEndsW _ _ _ _ _ _ _ (T2.setTop (mkF m 14 #[.val (.ref t1), .val (.int (0 : Int32)), .val (.int (Int32.ofNat jn))] [(.int (0 : Int32)), (.int (0 : Int32)), (.ref t1), (.ref b2), (.ref b2)]))
    refine OwnEndsW.st (fun t_ k_ => XS.iloadN X2.here hx rfl (hb hby d23_14) rfl k_) ?_
    show OwnEndsW _ _ _ _ _ _ _ (T2.setTop (mkF m 15 #[.val (.ref t1), .val (.int (0 : Int32)), .val (.int (Int32.ofNat jn))] [(.int (Int32.ofNat jn)), (.int (0 : Int32)), (.int (0 : Int32)), (.ref t1), (.ref b2), (.ref b2)]))
    refine OwnEndsW.st (fun t_ k_ => XS.iadd X2.here hx rfl (hb hby d23_15) rfl k_) ?_
    show OwnEndsW _ _ _ _ _ _ _ (T2.setTop (mkF m 16 #[.val (.ref t1), .val (.int (0 : Int32)), .val (.int (Int32.ofNat jn))] [(.int ((0 : Int32) + (Int32.ofNat jn))), (.int (0 : Int32)), (.ref t1), (.ref b2), (.ref b2)]))
    rw [own_add0]
    show OwnEndsW _ _ _ _ _ _ _ (T2.setTop (mkF m 16 #[.val (.ref t1), .val (.int (0 : Int32)), .val (.int (Int32.ofNat jn))] [(.int (Int32.ofNat jn)), (.int (0 : Int32)), (.ref t1), (.ref b2), (.ref b2)]))
    have Zn_ : n0 ≤ h2.size := (Nat.le_trans Z0 (Nat.le_trans (Nat.le_refl _) E2.1))
    obtain ⟨_, _, ⟨T3, L3, k3, n3⟩, -, X3, ⟨Lc3, hQ3, l3, y3, z3⟩, st3⟩ := Jvm.LawKit.callS X2 hx (y := (⟨"java/util/Arrays", "copyOfRange", "([BII)[B"⟩ : MethodName)) hown (mvT hZ (hw _ (List.mem_of_getElem? (i := 110) rfl))) (mvT hZ (hw _ (List.mem_of_getElem? (i := 111) rfl))) (mvT hZ (hw _ (List.mem_of_getElem? (i := 112) rfl))) (mvT hZ (hw _ (List.mem_of_getElem? (i := 113) rfl))) (by decide) (backOf (W := 2) (rm24 l Z a0 hw [] t1 kb cs nn jn h2 n0 Zn_ (At.ext E2) hn hl4 hjn hj3) hZ (hw _ (List.mem_of_getElem? (i := 113) rfl)) (hw _ (List.mem_of_getElem? (i := 112) rfl)) (by decide) (by decide)) (g := (mkF m 16 #[.val (.ref t1), .val (.int (0 : Int32)), .val (.int (Int32.ofNat jn))] [(.int (Int32.ofNat jn)), (.int (0 : Int32)), (.ref t1), (.ref b2), (.ref b2)])) rfl (by rw [hml]; rfl) (argsL := [(.ref t1), (.int (0 : Int32)), (.int (Int32.ofNat jn))]) (rest := [(.ref b2), (.ref b2)]) (lenOf pd_10 rfl) rfl (by show 2 * 0 + _ ≤ _; exact Nat.le_of_eq rfl) (hb hby d23_16) (fun _ _ => ⟨rfl, e2, (by decide : 1 + 1 ≤ _), (by decide : 4 + 4 ≤ _)⟩)
    dsimp only [Pt.U, Pt.locs, Pt.cells, Pt.slots] at X3 l3 y3 z3 st3 hQ3
    subst l3 y3 z3
    obtain ⟨vb3, vk3, rfl, N3q, K3, gb3, V3⟩ := hQ3
    have N3 := Fr.app N0 N3q
    refine OwnEndsW.st st3 ?_
    show OwnEndsW _ _ _ _ _ _ _ (T3.setTop (mkF m 19 #[.val (.ref t1), .val (.int (0 : Int32)), .val (.int (Int32.ofNat jn))] [(.ref vb3), (.ref b2), (.ref b2)]))
    refine OwnEndsW.st (fun t_ k_ => XS.iconst X3.here hx rfl (hb hby d23_19) k_) ?_
    show OwnEndsW _ _ _ _ _ _ _ (T3.setTop (mkF m 20 #[.val (.ref t1), .val (.int (0 : Int32)), .val (.int (Int32.ofNat jn))] [(.int (0 : Int32)), (.ref vb3), (.ref b2), (.ref b2)]))
    have Zb_ : n0 ≤ T3.heap.size := (Nat.le_trans Z0 (Nat.le_trans (Nat.le_trans (Nat.le_refl _) E2.1) K3.1))
    obtain ⟨_, _, ⟨T4, L4, k4, n4⟩, -, X4, ⟨Lc4, hQ4, l4, y4, z4⟩, st4⟩ := X3.specialBack hx (y := (⟨"java/lang/String", "<init>", "([BB)V"⟩ : MethodName)) rfl hown (mvT hZ (hw _ (List.mem_of_getElem? (i := 125) rfl))) (mvT hZ (hw _ (List.mem_of_getElem? (i := 126) rfl))) (mvT hZ (hw _ (List.mem_of_getElem? (i := 127) rfl))) (by decide) (backOf (W := 1) (rm27 l Z a0 hw [] b2 vb3 T3.heap n0 Zb_ (Nat.le_trans (Nat.le_trans Z0 (Nat.le_refl _)) (Nat.le_of_eq g2.symm)) (A2.keep K3) (F_value_b2.keep K3 nin0) (F_coder_b2.keep K3 nin0)) hZ (hw _ (List.mem_of_getElem? (i := 127) rfl)) (hw _ (List.mem_of_getElem? (i := 10) rfl)) (by decide) (by decide)) (g := (mkF m 20 #[.val (.ref t1), .val (.int (0 : Int32)), .val (.int (Int32.ofNat jn))] [(.int (0 : Int32)), (.ref vb3), (.ref b2), (.ref b2)])) rfl (by rw [hml]; rfl) (Steps.refl _) (a := b2) (argsL := [(.ref vb3), (.int (0 : Int32))]) (rest := [(.ref b2)]) (lenOf pd_11 rfl) rfl (by show 2 * 0 + _ ≤ _; exact Nat.le_of_eq rfl) (hb hby d23_20) (fun _ _ => ⟨rfl, rfl, (by decide : 2 + 0 ≤ _), (by decide : 8 + 0 ≤ _)⟩)
    dsimp only [Pt.U, Pt.locs, Pt.cells, Pt.slots] at X4 l4 y4 z4 st4 hQ4
    subst l4 y4 z4
    obtain ⟨rfl, N4q, K4, Ex4, Fv4, Fc4⟩ := hQ4
    have N4 := Fr.app N3 N4q
    refine OwnEndsW.go st4 ?_
    show OwnEndsW _ _ _ _ _ _ _ (T4.setTop (mkF m 23 #[.val (.ref t1), .val (.int (0 : Int32)), .val (.int (Int32.ofNat jn))] [(.ref b2)]))
    have Oq4 : OStr Z T4.heap b2 (cs.take jn) T4.heap.size := OStr.made (n := jn) Ex4 Fc4 Fv4 (V3.keep K4 (ninS (Ne.symm (Nat.ne_of_lt (Nat.lt_of_lt_of_le (A2).lt gb3))) nin0)) (by rw [List.length_take]; omega) rfl (fun c hc => hp c (List.mem_of_mem_take hc)) (by omega)
    refine own_retWA F0 X4 (Nat.le_trans (Nat.le_trans (Nat.le_trans (Nat.le_refl _) E2.1) K3.1) K4.1) hx Bd.returns Bd.notSynchronized rfl rfl (hb hby d23_23) ?_ (by decide) (by decide)
    show Q23 Z t1 kb cs nn jn h0 n0 _ T4.vm T4.heap _
    exact ⟨b2, rfl, N4, ((((Keep.refl h0 []).ext E2).trans K3 all0).trans K4 (allS (Or.inr (Nat.le_trans (Nat.le_refl _) (Nat.le_of_eq g2.symm))) all0)), Oq4.top, (Em.warm hEL hZ (((I0.ext E2).keep K3 all0).keep K4 (allS (Nat.le_trans (Nat.le_refl _) (Nat.le_of_eq g2.symm)) all0)).top X4.warmed)⟩
theorem d20_0 : decode jdk_42_method_92_code 0 = .ok (.aload_n 0, 1) := by decide +kernel
theorem d20_1 : decode jdk_42_method_92_code 1 = .ok (.invokevirtual 505, 3) := by decide +kernel
theorem d20_4 : decode jdk_42_method_92_code 4 = .ok (.istore_n 3, 1) := by decide +kernel
theorem d20_5 : decode jdk_42_method_92_code 5 = .ok (.iload_n 1, 1) := by decide +kernel
theorem d20_6 : decode jdk_42_method_92_code 6 = .ok (.iload_n 2, 1) := by decide +kernel
theorem d20_7 : decode jdk_42_method_92_code 7 = .ok (.iload_n 3, 1) := by decide +kernel
theorem d20_8 : decode jdk_42_method_92_code 8 = .ok (.invokestatic 521, 3) := by decide +kernel
theorem d20_11 : decode jdk_42_method_92_code 11 = .ok (.iload_n 1, 1) := by decide +kernel
theorem d20_12 : decode jdk_42_method_92_code 12 = .ok (.ifCond .ne 10, 3) := by decide +kernel
theorem d20_15 : decode jdk_42_method_92_code 15 = .ok (.iload_n 2, 1) := by decide +kernel
theorem d20_16 : decode jdk_42_method_92_code 16 = .ok (.iload_n 3, 1) := by decide +kernel
theorem d20_17 : decode jdk_42_method_92_code 17 = .ok (.if_icmp .ne 5, 3) := by decide +kernel
theorem d20_22 : decode jdk_42_method_92_code 22 = .ok (.iload_n 2, 1) := by decide +kernel
theorem d20_23 : decode jdk_42_method_92_code 23 = .ok (.iload_n 1, 1) := by decide +kernel
theorem d20_24 : decode jdk_42_method_92_code 24 = .ok (.isub, 1) := by decide +kernel
theorem d20_25 : decode jdk_42_method_92_code 25 = .ok (.istore 4, 2) := by decide +kernel
theorem d20_27 : decode jdk_42_method_92_code 27 = .ok (.aload_n 0, 1) := by decide +kernel
theorem d20_28 : decode jdk_42_method_92_code 28 = .ok (.invokevirtual 492, 3) := by decide +kernel
theorem d20_31 : decode jdk_42_method_92_code 31 = .ok (.ifCond .eq 16, 3) := by decide +kernel
theorem d20_34 : decode jdk_42_method_92_code 34 = .ok (.aload_n 0, 1) := by decide +kernel
theorem d20_35 : decode jdk_42_method_92_code 35 = .ok (.getfield 9, 3) := by decide +kernel
theorem d20_38 : decode jdk_42_method_92_code 38 = .ok (.iload_n 1, 1) := by decide +kernel
theorem d20_39 : decode jdk_42_method_92_code 39 = .ok (.iload 4, 2) := by decide +kernel
theorem d20_41 : decode jdk_42_method_92_code 41 = .ok (.invokestatic 685, 3) := by decide +kernel
theorem d20_44 : decode jdk_42_method_92_code 44 = .ok (.goto 13, 3) := by decide +kernel
theorem d20_57 : decode jdk_42_method_92_code 57 = .ok (.areturn, 1) := by decide +kernel
theorem ef_20 (m : MethodId) (x0 : Addr) (x1 : Int32) (x2 : Int32) : entryFrame m #[(.ref x0), (.int x1), (.int x2)] 5 = mkF m 0 #[.val (.ref x0), .val (.int x1), .val (.int x2), .unset, .unset] [] := by first | (simp [entryFrame, mkF, argsToLocals, Value.category]; done) | rfl
def Q20 (Z : State) (s1 : Addr) (t1 : Addr) (kb : ClassId) (cs : List Int32) (nn : Nat) (cz : Int32) (jn : Nat) (fm : Value) (h0 : Heap) (n0 : Nat) (v : Option Value) (vm : Vm) (h : Heap) (L : List Loc) : Prop := ∃ b, v = some (.ref b) ∧ Fr n0 L ∧ Keep h0 h [] ∧ OStr Z h b (cs.take jn) h.size ∧ Em Z vm h h.size
set_option maxRecDepth 65536 in
set_option maxHeartbeats 40000000 in
theorem rm20 (l : Launch) (Z : State) (a0 : Array Value) (hw : ∀ d ∈ tables_1, d.before a0 Z = true) (ws : List Jvm.Cond) (s1 : Addr) (t1 : Addr) (kb : ClassId) (cs : List Int32) (nn : Nat) (cz : Int32) (jn : Nat) (fm : Value) (h0 : Heap) (n0 : Nat) (Z0 : n0 ≤ h0.size) (Es : Exa Z h0 s1 "java/lang/String") (Vs : Fld Z h0 s1 "java/lang/String" "value" "[B" (.ref t1)) (Cs : Fld Z h0 s1 "java/lang/String" "coder" "B" (.int 0)) (At : Arv Z h0 t1 kb .byte (Int32.ofNat nn) ((cs.map (fun c => c.toInt8.toInt32)).map Value.int) (.int 0)) (hn : cs.length = nn) (hl4 : nn ≤ 4000) (hjn : jn < nn) (hj3 : jn ≤ 3) (hp : ∀ c ∈ cs, ¬ c < 0 ∧ ¬ (255 : Int32) < c) (S_cs : Sta Z Z.heap "java/lang/String" "COMPACT_STRINGS" "Z" (.int cz)) (hcz : ¬ cz = 0) (S_si : Sta Z Z.heap "jdk/internal/util/Preconditions" "SIOOBE_FORMATTER" "Ljava/util/function/BiFunction;" fm) (hfm : fm.isRef = true) (hEL : EW Z a0 consts_1) (O0 : Old Z n0 h0) :
    MetFree l (⟨"java/lang/String", "substring", "(II)Ljava/lang/String;"⟩ : MethodName) (head1 (Jvm.Cond.code (⟨"java/lang/String", "substring", "(II)Ljava/lang/String;"⟩ : MethodName) jdk_42_method_92_code 5 (some (.object "java/lang/String")) :: ws) ({ frames := 4, cells := 2, slots := 8, locals := 126 } : Room)) (fun ar_ U_ => ar_ = #[(.ref s1), (.int (0 : Int32)), (.int (Int32.ofNat jn))] ∧ Z.Warmed39 U_.vm ∧ U_.heap = h0 ∧ Em Z U_.vm h0 h0.size) (fun _ _ _ _ _ => True) (fun _ U_ oc_ Ue_ => ∃ v_ L_, oc_ = .returned v_ ∧ Q20 Z s1 t1 kb cs nn cz jn fm h0 n0 v_ Ue_.vm Ue_.heap L_ ∧ ReturnedEndW U_ oc_ Ue_ L_ ({ frames := 4, cells := 2, slots := 8, locals := 126 } : Room).cells ({ frames := 4, cells := 2, slots := 8, locals := 126 } : Room).slots) := by
  refine MetFree.of_bodySF (plainFor_of_name pn_1) hisR ?_
  intro p e s m args below meth c s₁ Bd hml0 hP hK
  obtain ⟨rfl, hZ, hh, I0⟩ := hP
  have hx := Bd.exec
  have hby := Bd.bytes
  have hml : c.maxLocals = 5 := hml0
  have hown : s.vm.findClass "java/lang/String" = some m.cls := findClass_of_methodNamed Bd.named
  have hnm := (name_of_methodNamed Bd.named Bd.method).1
  have X0 : Stand p l e ({ frames := 4, cells := 2, slots := 8, locals := 126 } : Room) s m #[(.ref s1), (.int (0 : Int32)), (.int (Int32.ofNat jn))] below meth c s₁ [] 0 0 := Stand.of_body Bd
  have e0 : s₁.heap = h0 := by rw [← hh, Bd.state]; rfl
  have N0 := Fr.nil n0
  have F0 : Shelf s s h0.size := Shelf.start s _
  show OwnEndsW p e below s (Q20 Z s1 t1 kb cs nn cz jn fm h0 n0) ({ frames := 4, cells := 2, slots := 8, locals := 126 } : Room).cells ({ frames := 4, cells := 2, slots := 8, locals := 126 } : Room).slots (s₁.setTop (entryFrame m #[(.ref s1), (.int (0 : Int32)), (.int (Int32.ofNat jn))] 5))
  rw [ef_20]
  show OwnEndsW _ _ _ _ _ _ _ (s₁.setTop (mkF m 0 #[.val (.ref s1), .val (.int (0 : Int32)), .val (.int (Int32.ofNat jn)), .unset, .unset] []))
  refine OwnEndsW.st (fun t_ k_ => XS.aloadN X0.here hx rfl (hb hby d20_0) rfl rfl k_) ?_
  show OwnEndsW _ _ _ _ _ _ _ (s₁.setTop (mkF m 1 #[.val (.ref s1), .val (.int (0 : Int32)), .val (.int (Int32.ofNat jn)), .unset, .unset] [(.ref s1)]))
  obtain ⟨cq1, kq1, q1a, q1b, q1c⟩ := isOf hZ e0 (Es)
  obtain ⟨_, _, ⟨T1, L1, k1, n1⟩, -, X1, ⟨Lc1, hQ1, l1, y1, z1⟩, st1⟩ := X0.virtualBack hx (y := (⟨"java/lang/String", "length", "()I"⟩ : MethodName)) (z := (⟨"java/lang/String", "length", "()I"⟩ : MethodName)) hown (mvT hZ (hw _ (List.mem_of_getElem? (i := 39) rfl))) (mvT hZ (hw _ (List.mem_of_getElem? (i := 40) rfl))) (notFace_of_selects (args := #[]) (mvT hZ (hw _ (List.mem_of_getElem? (i := 42) rfl)))) (mvT hZ (hw _ (List.mem_of_getElem? (i := 42) rfl))) (mvT hZ (hw _ (List.mem_of_getElem? (i := 41) rfl))) (by decide) (backOf (W := 0) (rm8 l Z a0 hw [] s1 t1 kb cs nn cz h0 n0 Z0 Es Vs Cs At S_cs hcz O0) hZ (hw _ (List.mem_of_getElem? (i := 43) rfl)) (hw _ (List.mem_of_getElem? (i := 10) rfl)) (by decide) (by decide)) q1a q1c (g := (mkF m 1 #[.val (.ref s1), .val (.int (0 : Int32)), .val (.int (Int32.ofNat jn)), .unset, .unset] [(.ref s1)])) rfl (by rw [hml]; rfl) (Steps.refl _) (argsL := []) (rest := []) (lenOf pd_7 rfl) rfl (by show 2 * 0 + _ ≤ _; exact Nat.le_of_eq rfl) (hb hby d20_1) (fun _ _ => ⟨rfl, e0, (by decide : 0 + 0 ≤ _), (by decide : 0 + 0 ≤ _)⟩)
  dsimp only [Pt.U, Pt.locs, Pt.cells, Pt.slots] at X1 l1 y1 z1 st1 hQ1
  subst l1 y1 z1
  obtain ⟨rfl, N1q, hh1⟩ := hQ1
  have N1 := Fr.app N0 N1q
  refine OwnEndsW.go st1 ?_
  show OwnEndsW _ _ _ _ _ _ _ (T1.setTop (mkF m 4 #[.val (.ref s1), .val (.int (0 : Int32)), .val (.int (Int32.ofNat jn)), .unset, .unset] [(.int (Int32.ofNat nn))]))
  refine OwnEndsW.st (fun t_ k_ => XS.istoreN X1.here hx rfl (hb hby d20_4) rfl (l' := #[.val (.ref s1), .val (.int (0 : Int32)), .val (.int (Int32.ofNat jn)), .val (.int (Int32.ofNat nn)), .unset]) rfl k_) ?_
  show OwnEndsW _ _ _ _ _ _ _ (T1.setTop (mkF m 5 #[.val (.ref s1), .val (.int (0 : Int32)), .val (.int (Int32.ofNat jn)), .val (.int (Int32.ofNat nn)), .unset] []))
  refine OwnEndsW.st (fun t_ k_ => XS.iloadN X1.here hx rfl (hb hby d20_5) rfl k_) ?_
  show OwnEndsW _ _ _ _ _ _ _ (T1.setTop (mkF m 6 #[.val (.ref s1), .val (.int (0 : Int32)), .val (.int (Int32.ofNat jn)), .val (.int (Int32.ofNat nn)), .unset] [(.int (0 : Int32))]))
  refine OwnEndsW.st (fun t_ k_ => XS.iloadN X1.here hx rfl (hb hby d20_6) rfl k_) ?_
  show OwnEndsW _ _ _ _ _ _ _ (T1.setTop (mkF m 7 #[.val (.ref s1), .val (.int (0 : Int32)), .val (.int (Int32.ofNat jn)), .val (.int (Int32.ofNat nn)), .unset] [(.int (Int32.ofNat jn)), (.int (0 : Int32))]))
  refine OwnEndsW.st (fun t_ k_ => XS.iloadN X1.here hx rfl (hb hby d20_7) rfl k_) ?_
  show OwnEndsW _ _ _ _ _ _ _ (T1.setTop (mkF m 8 #[.val (.ref s1), .val (.int (0 : Int32)), .val (.int (Int32.ofNat jn)), .val (.int (Int32.ofNat nn)), .unset] [(.int (Int32.ofNat nn)), (.int (Int32.ofNat jn)), (.int (0 : Int32))]))
  obtain ⟨_, _, ⟨T2, L2, k2, n2⟩, -, X2, ⟨Lc2, hQ2, l2, y2, z2⟩, st2⟩ := Jvm.LawKit.callS X1 hx (y := (⟨"java/lang/String", "checkBoundsBeginEnd", "(III)V"⟩ : MethodName)) hown (mvT hZ (hw _ (List.mem_of_getElem? (i := 98) rfl))) (mvT hZ (hw _ (List.mem_of_getElem? (i := 99) rfl))) (mvT hZ (hw _ (List.mem_of_getElem? (i := 10) rfl))) (mvT hZ (hw _ (List.mem_of_getElem? (i := 100) rfl))) (by decide) (backOf (W := 0) (rm21 l Z a0 hw [] jn nn fm h0 n0 Z0 hjn hl4 S_si hfm O0) hZ (hw _ (List.mem_of_getElem? (i := 100) rfl)) (hw _ (List.mem_of_getElem? (i := 10) rfl)) (by decide) (by decide)) (g := (mkF m 8 #[.val (.ref s1), .val (.int (0 : Int32)), .val (.int (Int32.ofNat jn)), .val (.int (Int32.ofNat nn)), .unset] [(.int (Int32.ofNat nn)), (.int (Int32.ofNat jn)), (.int (0 : Int32))])) rfl (by rw [hml]; rfl) (argsL := [(.int (0 : Int32)), (.int (Int32.ofNat jn)), (.int (Int32.ofNat nn))]) (rest := []) (lenOf pd_12 rfl) rfl (by show 2 * 0 + _ ≤ _; exact Nat.le_of_eq rfl) (hb hby d20_8) (fun _ _ => ⟨rfl, hh1, (by decide : 0 + 0 ≤ _), (by decide : 0 + 0 ≤ _)⟩)
  dsimp only [Pt.U, Pt.locs, Pt.cells, Pt.slots] at X2 l2 y2 z2 st2 hQ2
  subst l2 y2 z2
  obtain ⟨rfl, N2q, hh2⟩ := hQ2
  have N2 := Fr.app N1 N2q
  refine OwnEndsW.st st2 ?_
  show OwnEndsW _ _ _ _ _ _ _ (T2.setTop (mkF m 11 #[.val (.ref s1), .val (.int (0 : Int32)), .val (.int (Int32.ofNat jn)), .val (.int (Int32.ofNat nn)), .unset] []))
  refine OwnEndsW.st (fun t_ k_ => XS.iloadN X2.here hx rfl (hb hby d20_11) rfl k_) ?_
  show OwnEndsW _ _ _ _ _ _ _ (T2.setTop (mkF m 12 #[.val (.ref s1), .val (.int (0 : Int32)), .val (.int (Int32.ofNat jn)), .val (.int (Int32.ofNat nn)), .unset] [(.int (0 : Int32))]))
  refine OwnEndsW.st (fun t_ k_ => XS.ifNo X2.here hx rfl (hb hby d20_12) rfl ((if0 _ _).trans (teq (rfl : (0 : Int32) = (0 : Int32))).2) k_) ?_
  show OwnEndsW _ _ _ _ _ _ _ (T2.setTop (mkF m 15 #[.val (.ref s1), .val (.int (0 : Int32)), .val (.int (Int32.ofNat jn)), .val (.int (Int32.ofNat nn)), .unset] []))
  refine OwnEndsW.st (fun t_ k_ => XS.iloadN X2.here hx rfl (hb hby d20_15) rfl k_) ?_
  show OwnEndsW _ _ _ _ _ _ _ (T2.setTop (mkF m 16 #[.val (.ref s1), .val (.int (0 : Int32)), .val (.int (Int32.ofNat jn)), .val (.int (Int32.ofNat nn)), .unset] [(.int (Int32.ofNat jn))]))
  refine OwnEndsW.st (fun t_ k_ => XS.iloadN X2.here hx rfl (hb hby d20_16) rfl k_) ?_
  show OwnEndsW _ _ _ _ _ _ _ (T2.setTop (mkF m 17 #[.val (.ref s1), .val (.int (0 : Int32)), .val (.int (Int32.ofNat jn)), .val (.int (Int32.ofNat nn)), .unset] [(.int (Int32.ofNat nn)), (.int (Int32.ofNat jn))]))
  refine OwnEndsW.st (fun t_ k_ => XS.icmpYes X2.here hx rfl (pc0 := 17) (pc' := 22) rfl (hb hby d20_17) rfl (feq ((fun q_ => by have := congrArg Int32.toInt q_; rw [own_nat (by omega), own_nat (by omega)] at this; omega) : ¬ ((Int32.ofNat jn) = (Int32.ofNat nn)))).2 (by decide) (by decide) k_) ?_
  show OwnEndsW _ _ _ _ _ _ _ (T2.setTop (mkF m 22 #[.val (.ref s1), .val (.int (0 : Int32)), .val (.int (Int32.ofNat jn)), .val (.int (Int32.ofNat nn)), .unset] []))
  refine OwnEndsW.st (fun t_ k_ => XS.iloadN X2.here hx rfl (hb hby d20_22) rfl k_) ?_
  show OwnEndsW _ _ _ _ _ _ _ (T2.setTop (mkF m 23 #[.val (.ref s1), .val (.int (0 : Int32)), .val (.int (Int32.ofNat jn)), .val (.int (Int32.ofNat nn)), .unset] [(.int (Int32.ofNat jn))]))
  refine OwnEndsW.st (fun t_ k_ => XS.iloadN X2.here hx rfl (hb hby d20_23) rfl k_) ?_
  show OwnEndsW _ _ _ _ _ _ _ (T2.setTop (mkF m 24 #[.val (.ref s1), .val (.int (0 : Int32)), .val (.int (Int32.ofNat jn)), .val (.int (Int32.ofNat nn)), .unset] [(.int (0 : Int32)), (.int (Int32.ofNat jn))]))
  refine OwnEndsW.st (fun t_ k_ => XS.isub X2.here hx rfl (hb hby d20_24) rfl k_) ?_
  show OwnEndsW _ _ _ _ _ _ _ (T2.setTop (mkF m 25 #[.val (.ref s1), .val (.int (0 : Int32)), .val (.int (Int32.ofNat jn)), .val (.int (Int32.ofNat nn)), .unset] [(.int ((Int32.ofNat jn) - (0 : Int32)))]))
  rw [own_sub0]
  refine OwnEndsW.st (fun t_ k_ => XS.istore X2.here hx rfl (hb hby d20_25) rfl (l' := #[.val (.ref s1), .val (.int (0 : Int32)), .val (.int (Int32.ofNat jn)), .val (.int (Int32.ofNat nn)), .val (.int (Int32.ofNat jn))]) rfl k_) ?_
  show OwnEndsW _ _ _ _ _ _ _ (T2.setTop (mkF m 27 #[.val (.ref s1), .val (.int (0 : Int32)), .val (.int (Int32.ofNat jn)), .val (.int (Int32.ofNat nn)), .val (.int (Int32.ofNat jn))] []))
  refine OwnEndsW.st (fun t_ k_ => XS.aloadN X2.here hx rfl (hb hby d20_27) rfl rfl k_) ?_
  show OwnEndsW _ _ _ _ _ _ _ (T2.setTop (mkF m 28 #[.val (.ref s1), .val (.int (0 : Int32)), .val (.int (Int32.ofNat jn)), .val (.int (Int32.ofNat nn)), .val (.int (Int32.ofNat jn))] [(.ref s1)]))
  obtain ⟨cq3, kq3, q3a, q3b, q3c⟩ := isOf hZ hh2 (Es)
  obtain ⟨_, _, ⟨T3, L3, k3, n3⟩, -, X3, ⟨Lc3, hQ3, l3, y3, z3⟩, st3⟩ := X2.virtualBack hx (y := (⟨"java/lang/String", "isLatin1", "()Z"⟩ : MethodName)) (z := (⟨"java/lang/String", "isLatin1", "()Z"⟩ : MethodName)) hown (mvT hZ (hw _ (List.mem_of_getElem? (i := 55) rfl))) (mvT hZ (hw _ (List.mem_of_getElem? (i := 56) rfl))) (notFace_of_selects (args := #[]) (mvT hZ (hw _ (List.mem_of_getElem? (i := 58) rfl)))) (mvT hZ (hw _ (List.mem_of_getElem? (i := 58) rfl))) (mvT hZ (hw _ (List.mem_of_getElem? (i := 57) rfl))) (by decide) (backOf (W := 0) (rm11 l Z a0 hw [] s1 cz h0 n0 Z0 Cs S_cs hcz O0) hZ (hw _ (List.mem_of_getElem? (i := 59) rfl)) (hw _ (List.mem_of_getElem? (i := 10) rfl)) (by decide) (by decide)) q3a q3c (g := (mkF m 28 #[.val (.ref s1), .val (.int (0 : Int32)), .val (.int (Int32.ofNat jn)), .val (.int (Int32.ofNat nn)), .val (.int (Int32.ofNat jn))] [(.ref s1)])) rfl (by rw [hml]; rfl) (Steps.refl _) (argsL := []) (rest := []) (lenOf pd_5 rfl) rfl (by show 2 * 0 + _ ≤ _; exact Nat.le_of_eq rfl) (hb hby d20_28) (fun _ _ => ⟨rfl, hh2, (by decide : 0 + 0 ≤ _), (by decide : 0 + 0 ≤ _)⟩)
  dsimp only [Pt.U, Pt.locs, Pt.cells, Pt.slots] at X3 l3 y3 z3 st3 hQ3
  subst l3 y3 z3
  obtain ⟨rfl, N3q, hh3⟩ := hQ3
  have N3 := Fr.app N2 N3q
  refine OwnEndsW.go st3 ?_
  show OwnEndsW _ _ _ _ _ _ _ (T3.setTop (mkF m 31 #[.val (.ref s1), .val (.int (0 : Int32)), .val (.int (Int32.ofNat jn)), .val (.int (Int32.ofNat nn)), .val (.int (Int32.ofNat jn))] [(.int (1 : Int32))]))
  refine OwnEndsW.st (fun t_ k_ => XS.ifNo X3.here hx rfl (hb hby d20_31) rfl ((if0 _ _).trans (feq ((by decide) : ¬ ((1 : Int32) = (0 : Int32)))).1) k_) ?_
  show OwnEndsW _ _ _ _ _ _ _ (T3.setTop (mkF m 34 #[.val (.ref s1), .val (.int (0 : Int32)), .val (.int (Int32.ofNat jn)), .val (.int (Int32.ofNat nn)), .val (.int (Int32.ofNat jn))] []))
  refine OwnEndsW.st (fun t_ k_ => XS.aloadN X3.here hx rfl (hb hby d20_34) rfl rfl k_) ?_
  show OwnEndsW _ _ _ _ _ _ _ (T3.setTop (mkF m 35 #[.val (.ref s1), .val (.int (0 : Int32)), .val (.int (Int32.ofNat jn)), .val (.int (Int32.ofNat nn)), .val (.int (Int32.ofNat jn))] [(.ref s1)]))
  obtain ⟨T4, X4, e4, st4⟩ := getF X3 hx hZ hown (host := "") (Or.inl (hw _ (List.mem_of_getElem? (i := 28) rfl))) Via.refl hh3 Vs (g := (mkF m 35 #[.val (.ref s1), .val (.int (0 : Int32)), .val (.int (Int32.ofNat jn)), .val (.int (Int32.ofNat nn)), .val (.int (Int32.ofNat jn))] [(.ref s1)])) rfl rfl (hb hby d20_35)
  refine OwnEndsW.st st4 ?_
  show OwnEndsW _ _ _ _ _ _ _ (T4.setTop (mkF m 38 #[.val (.ref s1), .val (.int (0 : Int32)), .val (.int (Int32.ofNat jn)), .val (.int (Int32.ofNat nn)), .val (.int (Int32.ofNat jn))] [(.ref t1)]))
  refine OwnEndsW.st (fun t_ k_ => XS.iloadN X4.here hx rfl (hb hby d20_38) rfl k_) ?_
  show OwnEndsW _ _ _ _ _ _ _ (T4.setTop (mkF m 39 #[.val (.ref s1), .val (.int (0 : Int32)), .val (.int (Int32.ofNat jn)), .val (.int (Int32.ofNat nn)), .val (.int (Int32.ofNat jn))] [(.int (0 : Int32)), (.ref t1)]))
  refine OwnEndsW.st (fun t_ k_ => XS.iload X4.here hx rfl (hb hby d20_39) rfl k_) ?_
  show OwnEndsW _ _ _ _ _ _ _ (T4.setTop (mkF m 41 #[.val (.ref s1), .val (.int (0 : Int32)), .val (.int (Int32.ofNat jn)), .val (.int (Int32.ofNat nn)), .val (.int (Int32.ofNat jn))] [(.int (Int32.ofNat jn)), (.int (0 : Int32)), (.ref t1)]))
  obtain ⟨_, _, ⟨T5, L5, k5, n5⟩, -, X5p, hS5, hg5, ⟨Lc5, hQ5, l5, y5, z5⟩, st5⟩ := callSS X4 hx (y := (⟨"java/lang/StringLatin1", "newString", "([BII)Ljava/lang/String;"⟩ : MethodName)) hown (mvT hZ (hw _ (List.mem_of_getElem? (i := 106) rfl))) (mvT hZ (hw _ (List.mem_of_getElem? (i := 107) rfl))) (mvT hZ (hw _ (List.mem_of_getElem? (i := 62) rfl))) (mvT hZ (hw _ (List.mem_of_getElem? (i := 108) rfl))) (by decide) (backOfW (W := 0) (P := fun vm_ => Em Z vm_ h0 h0.size) (rm23 l Z a0 hw [] t1 kb cs nn jn h0 n0 Z0 At hn hl4 hjn hj3 hp hEL O0) hZ (fun vm_ hv_ => Em.warm hEL hZ I0.top hv_) (hw _ (List.mem_of_getElem? (i := 108) rfl)) (hw _ (List.mem_of_getElem? (i := 62) rfl)) (by decide) (by decide)) (g := (mkF m 41 #[.val (.ref s1), .val (.int (0 : Int32)), .val (.int (Int32.ofNat jn)), .val (.int (Int32.ofNat nn)), .val (.int (Int32.ofNat jn))] [(.int (Int32.ofNat jn)), (.int (0 : Int32)), (.ref t1)])) rfl (by rw [hml]; rfl) (argsL := [(.ref t1), (.int (0 : Int32)), (.int (Int32.ofNat jn))]) (rest := []) (lenOf pd_13 rfl) rfl (by show 2 * 0 + _ ≤ _; exact Nat.le_of_eq rfl) (hb hby d20_41) (fun _ _ => ⟨rfl, e4, (by decide : 0 + 2 ≤ _), (by decide : 0 + 8 ≤ _)⟩)
  dsimp only [Pt.U, Pt.locs, Pt.cells, Pt.slots] at X5p hS5 hg5 l5 y5 z5 st5 hQ5
  subst l5 y5 z5
  obtain ⟨vb5, rfl, N5q, K5, Ob5, Iq5⟩ := hQ5
  have N5 := Fr.app N3 N5q
  obtain ⟨sb5, ev5, X5, F5, hZ, hown⟩ := own_reb F0 (by rw [e4]; exact (Nat.le_refl _)) hZ hown X5p hS5 hg5
  have I5 : Em Z sb5.vm T5.heap T5.heap.size := by rw [ev5]; exact Iq5
  refine OwnEndsW.go st5 ?_
  show OwnEndsW _ _ _ _ _ _ _ (T5.setTop (mkF m 44 #[.val (.ref s1), .val (.int (0 : Int32)), .val (.int (Int32.ofNat jn)), .val (.int (Int32.ofNat nn)), .val (.int (Int32.ofNat jn))] [(.ref vb5)]))
  refine OwnEndsW.st (fun t_ k_ => XS.goto X5.here hx rfl (pc0 := 44) (pc' := 57) rfl (hb hby d20_44) (by decide) (by decide) k_) ?_
  show OwnEndsW _ _ _ _ _ _ _ (T5.setTop (mkF m 57 #[.val (.ref s1), .val (.int (0 : Int32)), .val (.int (Int32.ofNat jn)), .val (.int (Int32.ofNat nn)), .val (.int (Int32.ofNat jn))] [(.ref vb5)]))
  refine own_retWA F5 X5 (Nat.le_refl _) hx Bd.returns Bd.notSynchronized rfl rfl (hb hby d20_57) ?_ (by decide) (by decide)
  show Q20 Z s1 t1 kb cs nn cz jn fm h0 n0 _ T5.vm T5.heap _
  exact ⟨vb5, rfl, N5, K5, Ob5, (Em.warm hEL hZ I5.top X5.warmed)⟩
theorem d15_0 : decode jdk_32_method_1_code 0 = .ok (.getstatic 1, 3) := by decide +kernel
theorem d15_3 : decode jdk_32_method_1_code 3 = .ok (.astore_n 0, 1) := by decide +kernel
theorem d15_4 : decode jdk_32_method_1_code 4 = .ok (.aload_n 0, 1) := by decide +kernel
theorem d15_5 : decode jdk_32_method_1_code 5 = .ok (.areturn, 1) := by decide +kernel
theorem ef_15 (m : MethodId)  : entryFrame m #[] 1 = mkF m 0 #[.unset] [] := by first | (simp [entryFrame, mkF, argsToLocals, Value.category]; done) | rfl
def Q15 (Z : State) (em : Addr) (h0 : Heap) (n0 : Nat) (v : Option Value) (h : Heap) (L : List Loc) : Prop := v = some (.ref em) ∧ Fr n0 L ∧ h = h0
set_option maxRecDepth 65536 in
set_option maxHeartbeats 40000000 in
theorem rm15 (l : Launch) (Z : State) (a0 : Array Value) (hw : ∀ d ∈ tables_1, d.before a0 Z = true) (ws : List Jvm.Cond) (em : Addr) (h0 : Heap) (n0 : Nat) (Z0 : n0 ≤ h0.size) (S_em : Sta Z Z.heap "java/util/Optional" "EMPTY" "Ljava/util/Optional;" (.ref em)) (O0 : Old Z n0 h0) :
    MetFree l (⟨"java/util/Optional", "empty", "()Ljava/util/Optional;"⟩ : MethodName) (head1 (Jvm.Cond.code (⟨"java/util/Optional", "empty", "()Ljava/util/Optional;"⟩ : MethodName) jdk_32_method_1_code 1 (some (.object "java/util/Optional")) :: ws) ({ frames := 0, cells := 0, slots := 0, locals := 0 } : Room)) (fun ar_ U_ => ar_ = #[] ∧ Z.Warmed39 U_.vm ∧ U_.heap = h0) (fun _ _ _ _ _ => True) (fun _ U_ oc_ Ue_ => ∃ v_ L_, oc_ = .returned v_ ∧ Q15 Z em h0 n0 v_ Ue_.heap L_ ∧ FrameEnd U_ oc_ Ue_ L_ ({ frames := 0, cells := 0, slots := 0, locals := 0 } : Room).cells ({ frames := 0, cells := 0, slots := 0, locals := 0 } : Room).slots) := by
  refine MetFree.of_bodySF (plainFor_of_name pn_5) hisR ?_
  intro p e s m args below meth c s₁ Bd hml0 hP hK
  obtain ⟨rfl, hZ, hh⟩ := hP
  have hx := Bd.exec
  have hby := Bd.bytes
  have hml : c.maxLocals = 1 := hml0
  have hown : s.vm.findClass "java/util/Optional" = some m.cls := findClass_of_methodNamed Bd.named
  have hnm := (name_of_methodNamed Bd.named Bd.method).1
  have X0 : Stand p l e ({ frames := 0, cells := 0, slots := 0, locals := 0 } : Room) s m #[] below meth c s₁ [] 0 0 := Stand.of_body Bd
  have e0 : s₁.heap = h0 := by rw [← hh, Bd.state]; rfl
  have N0 := Fr.nil n0
  show OwnEnds p e below s (Q15 Z em h0 n0) ({ frames := 0, cells := 0, slots := 0, locals := 0 } : Room).cells ({ frames := 0, cells := 0, slots := 0, locals := 0 } : Room).slots (s₁.setTop (entryFrame m #[] 1))
  rw [ef_15]
  show OwnEnds _ _ _ _ _ _ _ (s₁.setTop (mkF m 0 #[.unset] []))
  obtain ⟨T1, X1, e1, st1⟩ := getS2 X0 hx hZ hown (host := "") (Or.inl (hw _ (List.mem_of_getElem? (i := 75) rfl))) Via.refl e0 (S_em.ext O0.2) (g := (mkF m 0 #[.unset] [])) rfl (hb hby d15_0)
  refine OwnEnds.st st1 ?_
  show OwnEnds _ _ _ _ _ _ _ (T1.setTop (mkF m 3 #[.unset] [(.ref em)]))
  refine OwnEnds.st (fun t_ k_ => XS.astoreN X1.here hx rfl (hb hby d15_3) rfl rfl (l' := #[.val (.ref em)]) rfl k_) ?_
  show OwnEnds _ _ _ _ _ _ _ (T1.setTop (mkF m 4 #[.val (.ref em)] []))
  refine OwnEnds.st (fun t_ k_ => XS.aloadN X1.here hx rfl (hb hby d15_4) rfl rfl k_) ?_
  show OwnEnds _ _ _ _ _ _ _ (T1.setTop (mkF m 5 #[.val (.ref em)] [(.ref em)]))
  refine own_retA X1 hx Bd.returns Bd.notSynchronized rfl rfl (hb hby d15_5) ?_ (by decide) (by decide)
  show Q15 Z em h0 n0 _ T1.heap _
  rw [e1]
  exact ⟨rfl, N0, rfl⟩
theorem d29_0 : decode jdk_31_method_10_code 0 = .ok (.aload_n 0, 1) := by decide +kernel
theorem d29_1 : decode jdk_31_method_10_code 1 = .ok (.ifnonnull 11, 3) := by decide +kernel
theorem d29_12 : decode jdk_31_method_10_code 12 = .ok (.aload_n 0, 1) := by decide +kernel
theorem d29_13 : decode jdk_31_method_10_code 13 = .ok (.areturn, 1) := by decide +kernel
theorem ef_29 (m : MethodId) (x0 : Addr) : entryFrame m #[(.ref x0)] 1 = mkF m 0 #[.val (.ref x0)] [] := by first | (simp [entryFrame, mkF, argsToLocals, Value.category]; done) | rfl
def Q29 (Z : State) (x1 : Addr) (h0 : Heap) (n0 : Nat) (v : Option Value) (h : Heap) (L : List Loc) : Prop := v = some (.ref x1) ∧ Fr n0 L ∧ h = h0
set_option maxRecDepth 65536 in
set_option maxHeartbeats 40000000 in
theorem rm29 (l : Launch) (Z : State) (a0 : Array Value) (hw : ∀ d ∈ tables_1, d.before a0 Z = true) (ws : List Jvm.Cond) (x1 : Addr) (h0 : Heap) (n0 : Nat) (Z0 : n0 ≤ h0.size) :
    MetFree l (⟨"java/util/Objects", "requireNonNull", "(Ljava/lang/Object;)Ljava/lang/Object;"⟩ : MethodName) (head1 (Jvm.Cond.code (⟨"java/util/Objects", "requireNonNull", "(Ljava/lang/Object;)Ljava/lang/Object;"⟩ : MethodName) jdk_31_method_10_code 1 (some (.object "java/lang/Object")) :: ws) ({ frames := 0, cells := 0, slots := 0, locals := 0 } : Room)) (fun ar_ U_ => ar_ = #[(.ref x1)] ∧ Z.Warmed39 U_.vm ∧ U_.heap = h0) (fun _ _ _ _ _ => True) (fun _ U_ oc_ Ue_ => ∃ v_ L_, oc_ = .returned v_ ∧ Q29 Z x1 h0 n0 v_ Ue_.heap L_ ∧ FrameEnd U_ oc_ Ue_ L_ ({ frames := 0, cells := 0, slots := 0, locals := 0 } : Room).cells ({ frames := 0, cells := 0, slots := 0, locals := 0 } : Room).slots) := by
  refine MetFree.of_bodySF (plainFor_of_name pn_6) hisR ?_
  intro p e s m args below meth c s₁ Bd hml0 hP hK
  obtain ⟨rfl, hZ, hh⟩ := hP
  have hx := Bd.exec
  have hby := Bd.bytes
  have hml : c.maxLocals = 1 := hml0
  have hown : s.vm.findClass "java/util/Objects" = some m.cls := findClass_of_methodNamed Bd.named
  have hnm := (name_of_methodNamed Bd.named Bd.method).1
  have X0 : Stand p l e ({ frames := 0, cells := 0, slots := 0, locals := 0 } : Room) s m #[(.ref x1)] below meth c s₁ [] 0 0 := Stand.of_body Bd
  have e0 : s₁.heap = h0 := by rw [← hh, Bd.state]; rfl
  have N0 := Fr.nil n0
  show OwnEnds p e below s (Q29 Z x1 h0 n0) ({ frames := 0, cells := 0, slots := 0, locals := 0 } : Room).cells ({ frames := 0, cells := 0, slots := 0, locals := 0 } : Room).slots (s₁.setTop (entryFrame m #[(.ref x1)] 1))
  rw [ef_29]
  show OwnEnds _ _ _ _ _ _ _ (s₁.setTop (mkF m 0 #[.val (.ref x1)] []))
  refine OwnEnds.st (fun t_ k_ => XS.aloadN X0.here hx rfl (hb hby d29_0) rfl rfl k_) ?_
  show OwnEnds _ _ _ _ _ _ _ (s₁.setTop (mkF m 1 #[.val (.ref x1)] [(.ref x1)]))
  refine OwnEnds.st (fun t_ k_ => XS.ifnonnullYes X0.here hx rfl (pc0 := 1) (pc' := 12) rfl (hb hby d29_1) rfl (by decide) (by decide) k_) ?_
  show OwnEnds _ _ _ _ _ _ _ (s₁.setTop (mkF m 12 #[.val (.ref x1)] []))
  refine OwnEnds.st (fun t_ k_ => XS.aloadN X0.here hx rfl (hb hby d29_12) rfl rfl k_) ?_
  show OwnEnds _ _ _ _ _ _ _ (s₁.setTop (mkF m 13 #[.val (.ref x1)] [(.ref x1)]))
  refine own_retA X0 hx Bd.returns Bd.notSynchronized rfl rfl (hb hby d29_13) ?_ (by decide) (by decide)
  show Q29 Z x1 h0 n0 _ s₁.heap _
  rw [e0]
  exact ⟨rfl, N0, rfl⟩
theorem d30_0 : decode jdk_32_method_2_code 0 = .ok (.aload_n 0, 1) := by decide +kernel
theorem d30_1 : decode jdk_32_method_2_code 1 = .ok (.invokespecial 7, 3) := by decide +kernel
theorem d30_4 : decode jdk_32_method_2_code 4 = .ok (.aload_n 0, 1) := by decide +kernel
theorem d30_5 : decode jdk_32_method_2_code 5 = .ok (.aload_n 1, 1) := by decide +kernel
theorem d30_6 : decode jdk_32_method_2_code 6 = .ok (.putfield 13, 3) := by decide +kernel
theorem d30_9 : decode jdk_32_method_2_code 9 = .ok (.return_, 1) := by decide +kernel
theorem ef_30 (m : MethodId) (x0 : Addr) (x1 : Addr) : entryFrame m #[(.ref x0), (.ref x1)] 2 = mkF m 0 #[.val (.ref x0), .val (.ref x1)] [] := by first | (simp [entryFrame, mkF, argsToLocals, Value.category]; done) | rfl
def Q30 (Z : State) (o1 : Addr) (x1 : Addr) (h0 : Heap) (n0 : Nat) (v : Option Value) (h : Heap) (L : List Loc) : Prop := v = none ∧ Fr n0 L ∧ Keep h0 h [o1] ∧ Fld Z h o1 "java/util/Optional" "value" "Ljava/lang/Object;" (.ref x1)
set_option maxRecDepth 65536 in
set_option maxHeartbeats 40000000 in
theorem rm30 (l : Launch) (Z : State) (a0 : Array Value) (hw : ∀ d ∈ tables_1, d.before a0 Z = true) (ws : List Jvm.Cond) (o1 : Addr) (x1 : Addr) (h0 : Heap) (n0 : Nat) (Z0 : n0 ≤ h0.size) (go1 : n0 ≤ o1) (Exo : Exa Z h0 o1 "java/util/Optional") (Fo0 : Fld Z h0 o1 "java/util/Optional" "value" "Ljava/lang/Object;" .null) :
    MetFree l (⟨"java/util/Optional", "<init>", "(Ljava/lang/Object;)V"⟩ : MethodName) (head1 (Jvm.Cond.code (⟨"java/util/Optional", "<init>", "(Ljava/lang/Object;)V"⟩ : MethodName) jdk_32_method_2_code 2 none :: ws) ({ frames := 1, cells := 0, slots := 0, locals := 12 } : Room)) (fun ar_ U_ => ar_ = #[(.ref o1), (.ref x1)] ∧ Z.Warmed39 U_.vm ∧ U_.heap = h0) (fun _ _ _ _ _ => True) (fun _ U_ oc_ Ue_ => ∃ v_ L_, oc_ = .returned v_ ∧ Q30 Z o1 x1 h0 n0 v_ Ue_.heap L_ ∧ FrameEnd U_ oc_ Ue_ L_ ({ frames := 1, cells := 0, slots := 0, locals := 12 } : Room).cells ({ frames := 1, cells := 0, slots := 0, locals := 12 } : Room).slots) := by
  refine MetFree.of_bodySF (plainFor_of_name pn_5) hisR ?_
  intro p e s m args below meth c s₁ Bd hml0 hP hK
  obtain ⟨rfl, hZ, hh⟩ := hP
  have hx := Bd.exec
  have hby := Bd.bytes
  have hml : c.maxLocals = 2 := hml0
  have hown : s.vm.findClass "java/util/Optional" = some m.cls := findClass_of_methodNamed Bd.named
  have hnm := (name_of_methodNamed Bd.named Bd.method).1
  have X0 : Stand p l e ({ frames := 1, cells := 0, slots := 0, locals := 12 } : Room) s m #[(.ref o1), (.ref x1)] below meth c s₁ [] 0 0 := Stand.of_body Bd
  have e0 : s₁.heap = h0 := by rw [← hh, Bd.state]; rfl
  have N0 := Fr.nil n0
  show OwnEnds p e below s (Q30 Z o1 x1 h0 n0) ({ frames := 1, cells := 0, slots := 0, locals := 12 } : Room).cells ({ frames := 1, cells := 0, slots := 0, locals := 12 } : Room).slots (s₁.setTop (entryFrame m #[(.ref o1), (.ref x1)] 2))
  rw [ef_30]
  show OwnEnds _ _ _ _ _ _ _ (s₁.setTop (mkF m 0 #[.val (.ref o1), .val (.ref x1)] []))
  refine OwnEnds.st (fun t_ k_ => XS.aloadN X0.here hx rfl (hb hby d30_0) rfl rfl k_) ?_
  show OwnEnds _ _ _ _ _ _ _ (s₁.setTop (mkF m 1 #[.val (.ref o1), .val (.ref x1)] [(.ref o1)]))
  obtain ⟨T1, X1, e1, st1⟩ := initO X0 hx hZ hown (hw _ (List.mem_of_getElem? (i := 141) rfl)) (hw _ (List.mem_of_getElem? (i := 20) rfl)) (hw _ (List.mem_of_getElem? (i := 21) rfl)) e0 (g := (mkF m 1 #[.val (.ref o1), .val (.ref x1)] [(.ref o1)])) rfl (by rw [hml]; rfl) rfl (hb hby d30_1) (by decide) (W := 0) (by show 2 * 0 + _ ≤ _; exact Nat.le_of_eq rfl) (by decide)
  refine OwnEnds.st st1 ?_
  show OwnEnds _ _ _ _ _ _ _ (T1.setTop (mkF m 4 #[.val (.ref o1), .val (.ref x1)] []))
  refine OwnEnds.st (fun t_ k_ => XS.aloadN X1.here hx rfl (hb hby d30_4) rfl rfl k_) ?_
  show OwnEnds _ _ _ _ _ _ _ (T1.setTop (mkF m 5 #[.val (.ref o1), .val (.ref x1)] [(.ref o1)]))
  refine OwnEnds.st (fun t_ k_ => XS.aloadN X1.here hx rfl (hb hby d30_5) rfl rfl k_) ?_
  show OwnEnds _ _ _ _ _ _ _ (T1.setTop (mkF m 6 #[.val (.ref o1), .val (.ref x1)] [(.ref x1), (.ref o1)]))
  obtain ⟨T2, h2, X2, e2, W2, st2⟩ := putF X1 hx hZ hown (host := "") (Or.inl (hw _ (List.mem_of_getElem? (i := 81) rfl))) Via.refl e1 Fo0 Exo (Or.inr ⟨(hw _ (List.mem_of_getElem? (i := 82) rfl)), rfl, hnm⟩) (hw _ (List.mem_of_getElem? (i := 132) rfl)) (ty := (.object "java/lang/Object")) (by decide) rfl rfl (g := (mkF m 6 #[.val (.ref o1), .val (.ref x1)] [(.ref x1), (.ref o1)])) rfl rfl (hb hby d30_6)
  have N2 := Fr.snoc X2 N0 go1
  refine OwnEnds.st st2 ?_
  show OwnEnds _ _ _ _ _ _ _ (T2.setTop (mkF m 9 #[.val (.ref o1), .val (.ref x1)] []))
  have Fn2 := Fld.same W2 Fo0
  refine own_retV X2 hx Bd.returns Bd.notSynchronized (hb hby d30_9) ?_ (by decide) (by decide)
  show Q30 Z o1 x1 h0 n0 _ T2.heap _
  rw [e2]
  exact ⟨rfl, N2, (Keep.refl h0 [o1]).wr W2 (Or.inl (List.mem_cons_self ..)), Fn2⟩
theorem d28_0 : decode jdk_32_method_3_code 0 = .ok (.new 2, 3) := by decide +kernel
theorem d28_3 : decode jdk_32_method_3_code 3 = .ok (.dup, 1) := by decide +kernel
theorem d28_4 : decode jdk_32_method_3_code 4 = .ok (.aload_n 0, 1) := by decide +kernel
theorem d28_5 : decode jdk_32_method_3_code 5 = .ok (.invokestatic 17, 3) := by decide +kernel
theorem d28_8 : decode jdk_32_method_3_code 8 = .ok (.invokespecial 23, 3) := by decide +kernel
theorem d28_11 : decode jdk_32_method_3_code 11 = .ok (.areturn, 1) := by decide +kernel
theorem ef_28 (m : MethodId) (x0 : Addr) : entryFrame m #[(.ref x0)] 1 = mkF m 0 #[.val (.ref x0)] [] := by first | (simp [entryFrame, mkF, argsToLocals, Value.category]; done) | rfl
def Q28 (Z : State) (x1 : Addr) (h0 : Heap) (n0 : Nat) (v : Option Value) (h : Heap) (L : List Loc) : Prop := ∃ o, v = some (.ref o) ∧ Fr n0 L ∧ Keep h0 h [] ∧ h0.size ≤ o ∧ Exa Z h o "java/util/Optional" ∧ Fld Z h o "java/util/Optional" "value" "Ljava/lang/Object;" (.ref x1)
set_option maxRecDepth 65536 in
set_option maxHeartbeats 40000000 in
theorem rm28 (l : Launch) (Z : State) (a0 : Array Value) (hw : ∀ d ∈ tables_1, d.before a0 Z = true) (ws : List Jvm.Cond) (x1 : Addr) (h0 : Heap) (n0 : Nat) (Z0 : n0 ≤ h0.size) :
    MetFree l (⟨"java/util/Optional", "of", "(Ljava/lang/Object;)Ljava/util/Optional;"⟩ : MethodName) (head1 (Jvm.Cond.code (⟨"java/util/Optional", "of", "(Ljava/lang/Object;)Ljava/util/Optional;"⟩ : MethodName) jdk_32_method_3_code 1 (some (.object "java/util/Optional")) :: ws) ({ frames := 2, cells := 1, slots := 1, locals := 26 } : Room)) (fun ar_ U_ => ar_ = #[(.ref x1)] ∧ Z.Warmed39 U_.vm ∧ U_.heap = h0) (fun _ _ _ _ _ => True) (fun _ U_ oc_ Ue_ => ∃ v_ L_, oc_ = .returned v_ ∧ Q28 Z x1 h0 n0 v_ Ue_.heap L_ ∧ FrameEnd U_ oc_ Ue_ L_ ({ frames := 2, cells := 1, slots := 1, locals := 26 } : Room).cells ({ frames := 2, cells := 1, slots := 1, locals := 26 } : Room).slots) := by
  refine MetFree.of_bodySF (plainFor_of_name pn_5) hisR ?_
  intro p e s m args below meth c s₁ Bd hml0 hP hK
  obtain ⟨rfl, hZ, hh⟩ := hP
  have hx := Bd.exec
  have hby := Bd.bytes
  have hml : c.maxLocals = 1 := hml0
  have hown : s.vm.findClass "java/util/Optional" = some m.cls := findClass_of_methodNamed Bd.named
  have hnm := (name_of_methodNamed Bd.named Bd.method).1
  have X0 : Stand p l e ({ frames := 2, cells := 1, slots := 1, locals := 26 } : Room) s m #[(.ref x1)] below meth c s₁ [] 0 0 := Stand.of_body Bd
  have e0 : s₁.heap = h0 := by rw [← hh, Bd.state]; rfl
  have N0 := Fr.nil n0
  show OwnEnds p e below s (Q28 Z x1 h0 n0) ({ frames := 2, cells := 1, slots := 1, locals := 26 } : Room).cells ({ frames := 2, cells := 1, slots := 1, locals := 26 } : Room).slots (s₁.setTop (entryFrame m #[(.ref x1)] 1))
  rw [ef_28]
  show OwnEnds _ _ _ _ _ _ _ (s₁.setTop (mkF m 0 #[.val (.ref x1)] []))
  obtain ⟨T1, h1, X1, e1, E1, A1, D1, -, st1⟩ := newO X0 hx hZ hown (hw _ (List.mem_of_getElem? (i := 131) rfl)) (hw _ (List.mem_of_getElem? (i := 132) rfl)) (hw _ (List.mem_of_getElem? (i := 73) rfl)) e0 (g := (mkF m 0 #[.val (.ref x1)] [])) rfl (hb hby d28_0) (by decide) (by decide)
  obtain ⟨b1, g1⟩ : ∃ z, z = h0.size := ⟨_, rfl⟩
  rw [← g1] at A1 D1 st1
  refine OwnEnds.st st1 ?_
  show OwnEnds _ _ _ _ _ _ _ (T1.setTop (mkF m 3 #[.val (.ref x1)] [(.ref b1)]))
  have F_v : Fld Z h1 b1 "java/util/Optional" "value" "Ljava/lang/Object;" .null := D1 (Or.inr (hw _ (List.mem_of_getElem? (i := 82) rfl))) (ty := (.object "java/lang/Object")) (by decide)
  refine OwnEnds.st (fun t_ k_ => XS.dup X1.here hx rfl (hb hby d28_3) rfl rfl k_) ?_
  show OwnEnds _ _ _ _ _ _ _ (T1.setTop (mkF m 4 #[.val (.ref x1)] [(.ref b1), (.ref b1)]))
  refine OwnEnds.st (fun t_ k_ => XS.aloadN X1.here hx rfl (hb hby d28_4) rfl rfl k_) ?_
  show OwnEnds _ _ _ _ _ _ _ (T1.setTop (mkF m 5 #[.val (.ref x1)] [(.ref x1), (.ref b1), (.ref b1)]))
  have Zr_ : n0 ≤ h1.size := (Nat.le_trans Z0 (Nat.le_trans (Nat.le_refl _) E1.1))
  obtain ⟨_, _, ⟨T2, L2, k2, n2⟩, -, X2, ⟨Lc2, hQ2, l2, y2, z2⟩, st2⟩ := Jvm.LawKit.callS X1 hx (y := (⟨"java/util/Objects", "requireNonNull", "(Ljava/lang/Object;)Ljava/lang/Object;"⟩ : MethodName)) hown (mvT hZ (hw _ (List.mem_of_getElem? (i := 133) rfl))) (mvT hZ (hw _ (List.mem_of_getElem? (i := 134) rfl))) (mvT hZ (hw _ (List.mem_of_getElem? (i := 135) rfl))) (mvT hZ (hw _ (List.mem_of_getElem? (i := 136) rfl))) (by decide) (backOf (W := 2) (rm29 l Z a0 hw [] x1 h1 n0 Zr_) hZ (hw _ (List.mem_of_getElem? (i := 136) rfl)) (hw _ (List.mem_of_getElem? (i := 135) rfl)) (by decide) (by decide)) (g := (mkF m 5 #[.val (.ref x1)] [(.ref x1), (.ref b1), (.ref b1)])) rfl (by rw [hml]; rfl) (argsL := [(.ref x1)]) (rest := [(.ref b1), (.ref b1)]) (lenOf pd_14 rfl) rfl (by show 2 * 0 + _ ≤ _; exact Nat.le_of_eq rfl) (hb hby d28_5) (fun _ _ => ⟨rfl, e1, (by decide : 1 + 0 ≤ _), (by decide : 1 + 0 ≤ _)⟩)
  dsimp only [Pt.U, Pt.locs, Pt.cells, Pt.slots] at X2 l2 y2 z2 st2 hQ2
  subst l2 y2 z2
  obtain ⟨rfl, N2q, hh2⟩ := hQ2
  have N2 := Fr.app N0 N2q
  refine OwnEnds.st st2 ?_
  show OwnEnds _ _ _ _ _ _ _ (T2.setTop (mkF m 8 #[.val (.ref x1)] [(.ref x1), (.ref b1), (.ref b1)]))
  have Zo_ : n0 ≤ h1.size := (Nat.le_trans Z0 (Nat.le_trans (Nat.le_refl _) E1.1))
  obtain ⟨_, _, ⟨T3, L3, k3, n3⟩, -, X3, ⟨Lc3, hQ3, l3, y3, z3⟩, st3⟩ := X2.specialBack hx (y := (⟨"java/util/Optional", "<init>", "(Ljava/lang/Object;)V"⟩ : MethodName)) rfl hown (mvT hZ (hw _ (List.mem_of_getElem? (i := 137) rfl))) (mvT hZ (hw _ (List.mem_of_getElem? (i := 138) rfl))) (mvT hZ (hw _ (List.mem_of_getElem? (i := 140) rfl))) (by decide) (backOf (W := 1) (rm30 l Z a0 hw [] b1 x1 h1 n0 Zo_ (Nat.le_trans (Nat.le_trans Z0 (Nat.le_refl _)) (Nat.le_of_eq g1.symm)) A1 F_v) hZ (hw _ (List.mem_of_getElem? (i := 140) rfl)) (hw _ (List.mem_of_getElem? (i := 73) rfl)) (by decide) (by decide)) (g := (mkF m 8 #[.val (.ref x1)] [(.ref x1), (.ref b1), (.ref b1)])) rfl (by rw [hml]; rfl) (Steps.refl _) (a := b1) (argsL := [(.ref x1)]) (rest := [(.ref b1)]) (lenOf pd_15 rfl) rfl (by show 2 * 0 + _ ≤ _; exact Nat.le_of_eq rfl) (hb hby d28_8) (fun _ _ => ⟨rfl, hh2, (by decide : 1 + 0 ≤ _), (by decide : 1 + 0 ≤ _)⟩)
  dsimp only [Pt.U, Pt.locs, Pt.cells, Pt.slots] at X3 l3 y3 z3 st3 hQ3
  subst l3 y3 z3
  obtain ⟨rfl, N3q, K3, Fo3⟩ := hQ3
  have N3 := Fr.app N2 N3q
  refine OwnEnds.go st3 ?_
  show OwnEnds _ _ _ _ _ _ _ (T3.setTop (mkF m 11 #[.val (.ref x1)] [(.ref b1)]))
  refine own_retA X3 hx Bd.returns Bd.notSynchronized rfl rfl (hb hby d28_11) ?_ (by decide) (by decide)
  show Q28 Z x1 h0 n0 _ T3.heap _
  exact ⟨b1, rfl, N3, (((Keep.refl h0 []).ext E1).trans K3 (allS (Or.inr (Nat.le_trans (Nat.le_refl _) (Nat.le_of_eq g1.symm))) all0)), (Nat.le_trans (Nat.le_refl _) (Nat.le_of_eq g1.symm)), (A1.keep K3), Fo3⟩
theorem d36_0 : decode jdk_32_method_6_code 0 = .ok (.aload_n 0, 1) := by decide +kernel
theorem d36_1 : decode jdk_32_method_6_code 1 = .ok (.getfield 13, 3) := by decide +kernel
theorem d36_4 : decode jdk_32_method_6_code 4 = .ok (.ifnull 7, 3) := by decide +kernel
theorem d36_11 : decode jdk_32_method_6_code 11 = .ok (.iconst 0, 1) := by decide +kernel
theorem d36_12 : decode jdk_32_method_6_code 12 = .ok (.ireturn, 1) := by decide +kernel
theorem ef_36 (m : MethodId) (x0 : Addr) : entryFrame m #[(.ref x0)] 1 = mkF m 0 #[.val (.ref x0)] [] := by first | (simp [entryFrame, mkF, argsToLocals, Value.category]; done) | rfl
def Q36 (Z : State) (o1 : Addr) (h0 : Heap) (n0 : Nat) (v : Option Value) (h : Heap) (L : List Loc) : Prop := v = some (.int 0) ∧ Fr n0 L ∧ h = h0
set_option maxRecDepth 65536 in
set_option maxHeartbeats 40000000 in
theorem rm36 (l : Launch) (Z : State) (a0 : Array Value) (hw : ∀ d ∈ tables_1, d.before a0 Z = true) (ws : List Jvm.Cond) (o1 : Addr) (h0 : Heap) (n0 : Nat) (Z0 : n0 ≤ h0.size) (Fo : Fld Z h0 o1 "java/util/Optional" "value" "Ljava/lang/Object;" .null) :
    MetFree l (⟨"java/util/Optional", "isPresent", "()Z"⟩ : MethodName) (head1 (Jvm.Cond.code (⟨"java/util/Optional", "isPresent", "()Z"⟩ : MethodName) jdk_32_method_6_code 1 (some .boolean) :: ws) ({ frames := 0, cells := 0, slots := 0, locals := 0 } : Room)) (fun ar_ U_ => ar_ = #[(.ref o1)] ∧ Z.Warmed39 U_.vm ∧ U_.heap = h0) (fun _ _ _ _ _ => True) (fun _ U_ oc_ Ue_ => ∃ v_ L_, oc_ = .returned v_ ∧ Q36 Z o1 h0 n0 v_ Ue_.heap L_ ∧ FrameEnd U_ oc_ Ue_ L_ ({ frames := 0, cells := 0, slots := 0, locals := 0 } : Room).cells ({ frames := 0, cells := 0, slots := 0, locals := 0 } : Room).slots) := by
  refine MetFree.of_bodySF (plainFor_of_name pn_5) hisR ?_
  intro p e s m args below meth c s₁ Bd hml0 hP hK
  obtain ⟨rfl, hZ, hh⟩ := hP
  have hx := Bd.exec
  have hby := Bd.bytes
  have hml : c.maxLocals = 1 := hml0
  have hown : s.vm.findClass "java/util/Optional" = some m.cls := findClass_of_methodNamed Bd.named
  have hnm := (name_of_methodNamed Bd.named Bd.method).1
  have X0 : Stand p l e ({ frames := 0, cells := 0, slots := 0, locals := 0 } : Room) s m #[(.ref o1)] below meth c s₁ [] 0 0 := Stand.of_body Bd
  have e0 : s₁.heap = h0 := by rw [← hh, Bd.state]; rfl
  have N0 := Fr.nil n0
  show OwnEnds p e below s (Q36 Z o1 h0 n0) ({ frames := 0, cells := 0, slots := 0, locals := 0 } : Room).cells ({ frames := 0, cells := 0, slots := 0, locals := 0 } : Room).slots (s₁.setTop (entryFrame m #[(.ref o1)] 1))
  rw [ef_36]
  show OwnEnds _ _ _ _ _ _ _ (s₁.setTop (mkF m 0 #[.val (.ref o1)] []))
  refine OwnEnds.st (fun t_ k_ => XS.aloadN X0.here hx rfl (hb hby d36_0) rfl rfl k_) ?_
  show OwnEnds _ _ _ _ _ _ _ (s₁.setTop (mkF m 1 #[.val (.ref o1)] [(.ref o1)]))
  obtain ⟨T1, X1, e1, st1⟩ := getF X0 hx hZ hown (host := "") (Or.inl (hw _ (List.mem_of_getElem? (i := 81) rfl))) Via.refl e0 Fo (g := (mkF m 1 #[.val (.ref o1)] [(.ref o1)])) rfl rfl (hb hby d36_1)
  refine OwnEnds.st st1 ?_
  show OwnEnds _ _ _ _ _ _ _ (T1.setTop (mkF m 4 #[.val (.ref o1)] [.null]))
  refine OwnEnds.st (fun t_ k_ => XS.ifnullYes X1.here hx rfl (pc0 := 4) (pc' := 11) rfl (hb hby d36_4) rfl (by decide) (by decide) k_) ?_
  show OwnEnds _ _ _ _ _ _ _ (T1.setTop (mkF m 11 #[.val (.ref o1)] []))
  refine OwnEnds.st (fun t_ k_ => XS.iconst X1.here hx rfl (hb hby d36_11) k_) ?_
  show OwnEnds _ _ _ _ _ _ _ (T1.setTop (mkF m 12 #[.val (.ref o1)] [(.int (0 : Int32))]))
  refine own_retN (t := .boolean) X1 hx Bd.returns Bd.notSynchronized (by simp) (hb hby d36_12) ?_ (by decide) (by decide)
  show Q36 Z o1 h0 n0 _ T1.heap _
  rw [e1]
  exact ⟨rfl, N0, rfl⟩
theorem d37_0 : decode jdk_32_method_6_code 0 = .ok (.aload_n 0, 1) := by decide +kernel
theorem d37_1 : decode jdk_32_method_6_code 1 = .ok (.getfield 13, 3) := by decide +kernel
theorem d37_4 : decode jdk_32_method_6_code 4 = .ok (.ifnull 7, 3) := by decide +kernel
theorem d37_7 : decode jdk_32_method_6_code 7 = .ok (.iconst 1, 1) := by decide +kernel
theorem d37_8 : decode jdk_32_method_6_code 8 = .ok (.goto 4, 3) := by decide +kernel
theorem d37_12 : decode jdk_32_method_6_code 12 = .ok (.ireturn, 1) := by decide +kernel
theorem ef_37 (m : MethodId) (x0 : Addr) : entryFrame m #[(.ref x0)] 1 = mkF m 0 #[.val (.ref x0)] [] := by first | (simp [entryFrame, mkF, argsToLocals, Value.category]; done) | rfl
def Q37 (Z : State) (o1 : Addr) (x1 : Addr) (h0 : Heap) (n0 : Nat) (v : Option Value) (h : Heap) (L : List Loc) : Prop := v = some (.int 1) ∧ Fr n0 L ∧ h = h0
set_option maxRecDepth 65536 in
set_option maxHeartbeats 40000000 in
theorem rm37 (l : Launch) (Z : State) (a0 : Array Value) (hw : ∀ d ∈ tables_1, d.before a0 Z = true) (ws : List Jvm.Cond) (o1 : Addr) (x1 : Addr) (h0 : Heap) (n0 : Nat) (Z0 : n0 ≤ h0.size) (Fo : Fld Z h0 o1 "java/util/Optional" "value" "Ljava/lang/Object;" (.ref x1)) :
    MetFree l (⟨"java/util/Optional", "isPresent", "()Z"⟩ : MethodName) (head1 (Jvm.Cond.code (⟨"java/util/Optional", "isPresent", "()Z"⟩ : MethodName) jdk_32_method_6_code 1 (some .boolean) :: ws) ({ frames := 0, cells := 0, slots := 0, locals := 0 } : Room)) (fun ar_ U_ => ar_ = #[(.ref o1)] ∧ Z.Warmed39 U_.vm ∧ U_.heap = h0) (fun _ _ _ _ _ => True) (fun _ U_ oc_ Ue_ => ∃ v_ L_, oc_ = .returned v_ ∧ Q37 Z o1 x1 h0 n0 v_ Ue_.heap L_ ∧ FrameEnd U_ oc_ Ue_ L_ ({ frames := 0, cells := 0, slots := 0, locals := 0 } : Room).cells ({ frames := 0, cells := 0, slots := 0, locals := 0 } : Room).slots) := by
  refine MetFree.of_bodySF (plainFor_of_name pn_5) hisR ?_
  intro p e s m args below meth c s₁ Bd hml0 hP hK
  obtain ⟨rfl, hZ, hh⟩ := hP
  have hx := Bd.exec
  have hby := Bd.bytes
  have hml : c.maxLocals = 1 := hml0
  have hown : s.vm.findClass "java/util/Optional" = some m.cls := findClass_of_methodNamed Bd.named
  have hnm := (name_of_methodNamed Bd.named Bd.method).1
  have X0 : Stand p l e ({ frames := 0, cells := 0, slots := 0, locals := 0 } : Room) s m #[(.ref o1)] below meth c s₁ [] 0 0 := Stand.of_body Bd
  have e0 : s₁.heap = h0 := by rw [← hh, Bd.state]; rfl
  have N0 := Fr.nil n0
  show OwnEnds p e below s (Q37 Z o1 x1 h0 n0) ({ frames := 0, cells := 0, slots := 0, locals := 0 } : Room).cells ({ frames := 0, cells := 0, slots := 0, locals := 0 } : Room).slots (s₁.setTop (entryFrame m #[(.ref o1)] 1))
  rw [ef_37]
  show OwnEnds _ _ _ _ _ _ _ (s₁.setTop (mkF m 0 #[.val (.ref o1)] []))
  refine OwnEnds.st (fun t_ k_ => XS.aloadN X0.here hx rfl (hb hby d37_0) rfl rfl k_) ?_
  show OwnEnds _ _ _ _ _ _ _ (s₁.setTop (mkF m 1 #[.val (.ref o1)] [(.ref o1)]))
  obtain ⟨T1, X1, e1, st1⟩ := getF X0 hx hZ hown (host := "") (Or.inl (hw _ (List.mem_of_getElem? (i := 81) rfl))) Via.refl e0 Fo (g := (mkF m 1 #[.val (.ref o1)] [(.ref o1)])) rfl rfl (hb hby d37_1)
  refine OwnEnds.st st1 ?_
  show OwnEnds _ _ _ _ _ _ _ (T1.setTop (mkF m 4 #[.val (.ref o1)] [(.ref x1)]))
  refine OwnEnds.st (fun t_ k_ => XS.ifnullNo X1.here hx rfl (hb hby d37_4) rfl k_) ?_
  show OwnEnds _ _ _ _ _ _ _ (T1.setTop (mkF m 7 #[.val (.ref o1)] []))
  refine OwnEnds.st (fun t_ k_ => XS.iconst X1.here hx rfl (hb hby d37_7) k_) ?_
  show OwnEnds _ _ _ _ _ _ _ (T1.setTop (mkF m 8 #[.val (.ref o1)] [(.int (1 : Int32))]))
  refine OwnEnds.st (fun t_ k_ => XS.goto X1.here hx rfl (pc0 := 8) (pc' := 12) rfl (hb hby d37_8) (by decide) (by decide) k_) ?_
  show OwnEnds _ _ _ _ _ _ _ (T1.setTop (mkF m 12 #[.val (.ref o1)] [(.int (1 : Int32))]))
  refine own_retN (t := .boolean) X1 hx Bd.returns Bd.notSynchronized (by simp) (hb hby d37_12) ?_ (by decide) (by decide)
  show Q37 Z o1 x1 h0 n0 _ T1.heap _
  rw [e1]
  exact ⟨rfl, N0, rfl⟩
theorem d31_0 : decode jdk_32_method_5_code 0 = .ok (.aload_n 0, 1) := by decide +kernel
theorem d31_1 : decode jdk_32_method_5_code 1 = .ok (.getfield 13, 3) := by decide +kernel
theorem d31_4 : decode jdk_32_method_5_code 4 = .ok (.ifnonnull 13, 3) := by decide +kernel
theorem d31_17 : decode jdk_32_method_5_code 17 = .ok (.aload_n 0, 1) := by decide +kernel
theorem d31_18 : decode jdk_32_method_5_code 18 = .ok (.getfield 13, 3) := by decide +kernel
theorem d31_21 : decode jdk_32_method_5_code 21 = .ok (.areturn, 1) := by decide +kernel
theorem ef_31 (m : MethodId) (x0 : Addr) : entryFrame m #[(.ref x0)] 1 = mkF m 0 #[.val (.ref x0)] [] := by first | (simp [entryFrame, mkF, argsToLocals, Value.category]; done) | rfl
def Q31 (Z : State) (o1 : Addr) (x1 : Addr) (h0 : Heap) (n0 : Nat) (v : Option Value) (h : Heap) (L : List Loc) : Prop := v = some (.ref x1) ∧ Fr n0 L ∧ h = h0
set_option maxRecDepth 65536 in
set_option maxHeartbeats 40000000 in
theorem rm31 (l : Launch) (Z : State) (a0 : Array Value) (hw : ∀ d ∈ tables_1, d.before a0 Z = true) (ws : List Jvm.Cond) (o1 : Addr) (x1 : Addr) (h0 : Heap) (n0 : Nat) (Z0 : n0 ≤ h0.size) (Fo : Fld Z h0 o1 "java/util/Optional" "value" "Ljava/lang/Object;" (.ref x1)) :
    MetFree l (⟨"java/util/Optional", "get", "()Ljava/lang/Object;"⟩ : MethodName) (head1 (Jvm.Cond.code (⟨"java/util/Optional", "get", "()Ljava/lang/Object;"⟩ : MethodName) jdk_32_method_5_code 1 (some (.object "java/lang/Object")) :: ws) ({ frames := 0, cells := 0, slots := 0, locals := 0 } : Room)) (fun ar_ U_ => ar_ = #[(.ref o1)] ∧ Z.Warmed39 U_.vm ∧ U_.heap = h0) (fun _ _ _ _ _ => True) (fun _ U_ oc_ Ue_ => ∃ v_ L_, oc_ = .returned v_ ∧ Q31 Z o1 x1 h0 n0 v_ Ue_.heap L_ ∧ FrameEnd U_ oc_ Ue_ L_ ({ frames := 0, cells := 0, slots := 0, locals := 0 } : Room).cells ({ frames := 0, cells := 0, slots := 0, locals := 0 } : Room).slots) := by
  refine MetFree.of_bodySF (plainFor_of_name pn_5) hisR ?_
  intro p e s m args below meth c s₁ Bd hml0 hP hK
  obtain ⟨rfl, hZ, hh⟩ := hP
  have hx := Bd.exec
  have hby := Bd.bytes
  have hml : c.maxLocals = 1 := hml0
  have hown : s.vm.findClass "java/util/Optional" = some m.cls := findClass_of_methodNamed Bd.named
  have hnm := (name_of_methodNamed Bd.named Bd.method).1
  have X0 : Stand p l e ({ frames := 0, cells := 0, slots := 0, locals := 0 } : Room) s m #[(.ref o1)] below meth c s₁ [] 0 0 := Stand.of_body Bd
  have e0 : s₁.heap = h0 := by rw [← hh, Bd.state]; rfl
  have N0 := Fr.nil n0
  show OwnEnds p e below s (Q31 Z o1 x1 h0 n0) ({ frames := 0, cells := 0, slots := 0, locals := 0 } : Room).cells ({ frames := 0, cells := 0, slots := 0, locals := 0 } : Room).slots (s₁.setTop (entryFrame m #[(.ref o1)] 1))
  rw [ef_31]
  show OwnEnds _ _ _ _ _ _ _ (s₁.setTop (mkF m 0 #[.val (.ref o1)] []))
  refine OwnEnds.st (fun t_ k_ => XS.aloadN X0.here hx rfl (hb hby d31_0) rfl rfl k_) ?_
  show OwnEnds _ _ _ _ _ _ _ (s₁.setTop (mkF m 1 #[.val (.ref o1)] [(.ref o1)]))
  obtain ⟨T1, X1, e1, st1⟩ := getF X0 hx hZ hown (host := "") (Or.inl (hw _ (List.mem_of_getElem? (i := 81) rfl))) Via.refl e0 Fo (g := (mkF m 1 #[.val (.ref o1)] [(.ref o1)])) rfl rfl (hb hby d31_1)
  refine OwnEnds.st st1 ?_
  show OwnEnds _ _ _ _ _ _ _ (T1.setTop (mkF m 4 #[.val (.ref o1)] [(.ref x1)]))
  refine OwnEnds.st (fun t_ k_ => XS.ifnonnullYes X1.here hx rfl (pc0 := 4) (pc' := 17) rfl (hb hby d31_4) rfl (by decide) (by decide) k_) ?_
  show OwnEnds _ _ _ _ _ _ _ (T1.setTop (mkF m 17 #[.val (.ref o1)] []))
  refine OwnEnds.st (fun t_ k_ => XS.aloadN X1.here hx rfl (hb hby d31_17) rfl rfl k_) ?_
  show OwnEnds _ _ _ _ _ _ _ (T1.setTop (mkF m 18 #[.val (.ref o1)] [(.ref o1)]))
  obtain ⟨T2, X2, e2, st2⟩ := getF X1 hx hZ hown (host := "") (Or.inl (hw _ (List.mem_of_getElem? (i := 81) rfl))) Via.refl e1 Fo (g := (mkF m 18 #[.val (.ref o1)] [(.ref o1)])) rfl rfl (hb hby d31_18)
  refine OwnEnds.st st2 ?_
  show OwnEnds _ _ _ _ _ _ _ (T2.setTop (mkF m 21 #[.val (.ref o1)] [(.ref x1)]))
  refine own_retA X2 hx Bd.returns Bd.notSynchronized rfl rfl (hb hby d31_21) ?_ (by decide) (by decide)
  show Q31 Z o1 x1 h0 n0 _ T2.heap _
  rw [e2]
  exact ⟨rfl, N0, rfl⟩
theorem d6_0 : decode prog_39_method_6_code 0 = .ok (.aload_n 0, 1) := by decide +kernel
theorem d6_1 : decode prog_39_method_6_code 1 = .ok (.bipush 58, 2) := by decide +kernel
theorem d6_3 : decode prog_39_method_6_code 3 = .ok (.invokevirtual 92, 3) := by decide +kernel
theorem d6_6 : decode prog_39_method_6_code 6 = .ok (.istore_n 1, 1) := by decide +kernel
theorem d6_7 : decode prog_39_method_6_code 7 = .ok (.iload_n 1, 1) := by decide +kernel
theorem d6_8 : decode prog_39_method_6_code 8 = .ok (.ifCond .ge 9, 3) := by decide +kernel
theorem d6_11 : decode prog_39_method_6_code 11 = .ok (.invokestatic 95, 3) := by decide +kernel
theorem d6_14 : decode prog_39_method_6_code 14 = .ok (.goto 12, 3) := by decide +kernel
theorem d6_17 : decode prog_39_method_6_code 17 = .ok (.aload_n 0, 1) := by decide +kernel
theorem d6_18 : decode prog_39_method_6_code 18 = .ok (.iconst 0, 1) := by decide +kernel
theorem d6_19 : decode prog_39_method_6_code 19 = .ok (.iload_n 1, 1) := by decide +kernel
theorem d6_20 : decode prog_39_method_6_code 20 = .ok (.invokevirtual 101, 3) := by decide +kernel
theorem d6_23 : decode prog_39_method_6_code 23 = .ok (.invokestatic 105, 3) := by decide +kernel
theorem d6_26 : decode prog_39_method_6_code 26 = .ok (.areturn, 1) := by decide +kernel
theorem ef_6 (m : MethodId) (x0 : Addr) : entryFrame m #[(.ref x0)] 2 = mkF m 0 #[.val (.ref x0), .unset] [] := by first | (simp [entryFrame, mkF, argsToLocals, Value.category]; done) | rfl
def Q6 (Z : State) (s1 : Addr) (t1 : Addr) (kb : ClassId) (cs : List Int32) (nn : Nat) (cz : Int32) (fm : Value) (em : Addr) (h0 : Heap) (n0 : Nat) (v : Option Value) (vm : Vm) (h : Heap) (L : List Loc) : Prop := ∃ o, v = some (.ref o) ∧ Fr n0 L ∧ Keep h0 h [] ∧ Em Z vm h h.size ∧ ((own_last cs nn < 0 ∧ o = em) ∨ (∃ jn b, jn < nn ∧ own_last cs nn = Int32.ofNat jn ∧ h0.size ≤ o ∧ Exa Z h o "java/util/Optional" ∧ Fld Z h o "java/util/Optional" "value" "Ljava/lang/Object;" (.ref b) ∧ OStr Z h b (cs.take jn) h.size))
set_option maxRecDepth 65536 in
set_option maxHeartbeats 40000000 in
theorem rm6 (l : Launch) (Z : State) (a0 : Array Value) (hw : ∀ d ∈ tables_1, d.before a0 Z = true) (ws : List Jvm.Cond) (s1 : Addr) (t1 : Addr) (kb : ClassId) (cs : List Int32) (nn : Nat) (cz : Int32) (fm : Value) (em : Addr) (h0 : Heap) (n0 : Nat) (Z0 : n0 ≤ h0.size) (Es : Exa Z h0 s1 "java/lang/String") (Vs : Fld Z h0 s1 "java/lang/String" "value" "[B" (.ref t1)) (Cs : Fld Z h0 s1 "java/lang/String" "coder" "B" (.int 0)) (At : Arv Z h0 t1 kb .byte (Int32.ofNat nn) ((cs.map (fun c => c.toInt8.toInt32)).map Value.int) (.int 0)) (hn : cs.length = nn) (hl4 : nn ≤ 4000) (hn4 : nn ≤ 4) (hp : ∀ c ∈ cs, ¬ c < 0 ∧ ¬ (255 : Int32) < c) (S_cs : Sta Z Z.heap "java/lang/String" "COMPACT_STRINGS" "Z" (.int cz)) (hcz : ¬ cz = 0) (S_si : Sta Z Z.heap "jdk/internal/util/Preconditions" "SIOOBE_FORMATTER" "Ljava/util/function/BiFunction;" fm) (hfm : fm.isRef = true) (S_em : Sta Z Z.heap "java/util/Optional" "EMPTY" "Ljava/util/Optional;" (.ref em)) (hEL : EW Z a0 consts_1) (O0 : Old Z n0 h0) :
    MetFree l (⟨"com/example/culpa/culpa/Names", "function", "(Ljava/lang/String;)Ljava/util/Optional;"⟩ : MethodName) (head1 (Jvm.Cond.code (⟨"com/example/culpa/culpa/Names", "function", "(Ljava/lang/String;)Ljava/util/Optional;"⟩ : MethodName) prog_39_method_6_code 2 (some (.object "java/util/Optional")) :: ws) ({ frames := 5, cells := 3, slots := 9, locals := 142 } : Room)) (fun ar_ U_ => ar_ = #[(.ref s1)] ∧ Z.Warmed39 U_.vm ∧ U_.heap = h0 ∧ Em Z U_.vm h0 h0.size) (fun _ _ _ _ _ => True) (fun _ U_ oc_ Ue_ => ∃ v_ L_, oc_ = .returned v_ ∧ Q6 Z s1 t1 kb cs nn cz fm em h0 n0 v_ Ue_.vm Ue_.heap L_ ∧ ReturnedEndW U_ oc_ Ue_ L_ ({ frames := 5, cells := 3, slots := 9, locals := 142 } : Room).cells ({ frames := 5, cells := 3, slots := 9, locals := 142 } : Room).slots) := by
  refine MetFree.of_bodySF (plainFor_of_name pn_7) hisR ?_
  intro p e s m args below meth c s₁ Bd hml0 hP hK
  obtain ⟨rfl, hZ, hh, I0⟩ := hP
  have hx := Bd.exec
  have hby := Bd.bytes
  have hml : c.maxLocals = 2 := hml0
  have hown : s.vm.findClass "com/example/culpa/culpa/Names" = some m.cls := findClass_of_methodNamed Bd.named
  have hnm := (name_of_methodNamed Bd.named Bd.method).1
  have X0 : Stand p l e ({ frames := 5, cells := 3, slots := 9, locals := 142 } : Room) s m #[(.ref s1)] below meth c s₁ [] 0 0 := Stand.of_body Bd
  have e0 : s₁.heap = h0 := by rw [← hh, Bd.state]; rfl
  have N0 := Fr.nil n0
  have F0 : Shelf s s h0.size := Shelf.start s _
  show OwnEndsW p e below s (Q6 Z s1 t1 kb cs nn cz fm em h0 n0) ({ frames := 5, cells := 3, slots := 9, locals := 142 } : Room).cells ({ frames := 5, cells := 3, slots := 9, locals := 142 } : Room).slots (s₁.setTop (entryFrame m #[(.ref s1)] 2))
  rw [ef_6]
  show OwnEndsW _ _ _ _ _ _ _ (s₁.setTop (mkF m 0 #[.val (.ref s1), .unset] []))
  refine OwnEndsW.st (fun t_ k_ => XS.aloadN X0.here hx rfl (hb hby d6_0) rfl rfl k_) ?_
  show OwnEndsW _ _ _ _ _ _ _ (s₁.setTop (mkF m 1 #[.val (.ref s1), .unset] [(.ref s1)]))
  refine OwnEndsW.st (fun t_ k_ => XS.bipush X0.here hx rfl (hb hby d6_1) k_) ?_
  show OwnEndsW _ _ _ _ _ _ _ (s₁.setTop (mkF m 3 #[.val (.ref s1), .unset] [(.int (58 : Int32)), (.ref s1)]))
  obtain ⟨cq1, kq1, q1a, q1b, q1c⟩ := isOf hZ e0 (Es)
  obtain ⟨_, _, ⟨T1, L1, k1, n1⟩, -, X1, ⟨Lc1, hQ1, l1, y1, z1⟩, st1⟩ := X0.virtualBack hx (y := (⟨"java/lang/String", "lastIndexOf", "(I)I"⟩ : MethodName)) (z := (⟨"java/lang/String", "lastIndexOf", "(I)I"⟩ : MethodName)) hown (mvT hZ (hw _ (List.mem_of_getElem? (i := 34) rfl))) (mvT hZ (hw _ (List.mem_of_getElem? (i := 35) rfl))) (notFace_of_selects (args := #[]) (mvT hZ (hw _ (List.mem_of_getElem? (i := 37) rfl)))) (mvT hZ (hw _ (List.mem_of_getElem? (i := 37) rfl))) (mvT hZ (hw _ (List.mem_of_getElem? (i := 36) rfl))) (by decide) (backOf (W := 0) (rm7 l Z a0 hw [] s1 t1 kb cs nn cz h0 n0 Z0 Es Vs Cs At hn hl4 hp S_cs hcz O0) hZ (hw _ (List.mem_of_getElem? (i := 38) rfl)) (hw _ (List.mem_of_getElem? (i := 10) rfl)) (by decide) (by decide)) q1a q1c (g := (mkF m 3 #[.val (.ref s1), .unset] [(.int (58 : Int32)), (.ref s1)])) rfl (by rw [hml]; rfl) (Steps.refl _) (argsL := [(.int (58 : Int32))]) (rest := []) (lenOf pd_16 rfl) rfl (by show 2 * 0 + _ ≤ _; exact Nat.le_of_eq rfl) (hb hby d6_3) (fun _ _ => ⟨rfl, e0, (by decide : 0 + 0 ≤ _), (by decide : 0 + 0 ≤ _)⟩)
  dsimp only [Pt.U, Pt.locs, Pt.cells, Pt.slots] at X1 l1 y1 z1 st1 hQ1
  subst l1 y1 z1
  obtain ⟨rfl, N1q, hh1⟩ := hQ1
  have N1 := Fr.app N0 N1q
  refine OwnEndsW.go st1 ?_
  show OwnEndsW _ _ _ _ _ _ _ (T1.setTop (mkF m 6 #[.val (.ref s1), .unset] [(.int (own_last cs nn))]))
  refine OwnEndsW.st (fun t_ k_ => XS.istoreN X1.here hx rfl (hb hby d6_6) rfl (l' := #[.val (.ref s1), .val (.int (own_last cs nn))]) rfl k_) ?_
  show OwnEndsW _ _ _ _ _ _ _ (T1.setTop (mkF m 7 #[.val (.ref s1), .val (.int (own_last cs nn))] []))
  refine OwnEndsW.st (fun t_ k_ => XS.iloadN X1.here hx rfl (hb hby d6_7) rfl k_) ?_
  show OwnEndsW _ _ _ _ _ _ _ (T1.setTop (mkF m 8 #[.val (.ref s1), .val (.int (own_last cs nn))] [(.int (own_last cs nn))]))
  by_cases hlt : (own_last cs nn) < (0 : Int32)
  · refine OwnEndsW.st (fun t_ k_ => XS.ifNo X1.here hx rfl (hb hby d6_8) rfl ((if0 _ _).trans (tlt (hlt : (own_last cs nn) < (0 : Int32))).2.1) k_) ?_
    show OwnEndsW _ _ _ _ _ _ _ (T1.setTop (mkF m 11 #[.val (.ref s1), .val (.int (own_last cs nn))] []))
    obtain ⟨_, _, ⟨T2, L2, k2, n2⟩, -, X2, ⟨Lc2, hQ2, l2, y2, z2⟩, st2⟩ := Jvm.LawKit.callS X1 hx (y := (⟨"java/util/Optional", "empty", "()Ljava/util/Optional;"⟩ : MethodName)) hown (mvT hZ (hw _ (List.mem_of_getElem? (i := 71) rfl))) (mvT hZ (hw _ (List.mem_of_getElem? (i := 72) rfl))) (mvT hZ (hw _ (List.mem_of_getElem? (i := 73) rfl))) (mvT hZ (hw _ (List.mem_of_getElem? (i := 74) rfl))) (by decide) (backOf (W := 0) (rm15 l Z a0 hw [] em h0 n0 Z0 S_em O0) hZ (hw _ (List.mem_of_getElem? (i := 74) rfl)) (hw _ (List.mem_of_getElem? (i := 73) rfl)) (by decide) (by decide)) (g := (mkF m 11 #[.val (.ref s1), .val (.int (own_last cs nn))] [])) rfl (by rw [hml]; rfl) (argsL := []) (rest := []) (lenOf pd_17 rfl) rfl (by show 2 * 0 + _ ≤ _; exact Nat.le_of_eq rfl) (hb hby d6_11) (fun _ _ => ⟨rfl, hh1, (by decide : 0 + 0 ≤ _), (by decide : 0 + 0 ≤ _)⟩)
    dsimp only [Pt.U, Pt.locs, Pt.cells, Pt.slots] at X2 l2 y2 z2 st2 hQ2
    subst l2 y2 z2
    obtain ⟨rfl, N2q, hh2⟩ := hQ2
    have N2 := Fr.app N1 N2q
    refine OwnEndsW.st st2 ?_
    show OwnEndsW _ _ _ _ _ _ _ (T2.setTop (mkF m 14 #[.val (.ref s1), .val (.int (own_last cs nn))] [(.ref em)]))
    refine OwnEndsW.st (fun t_ k_ => XS.goto X2.here hx rfl (pc0 := 14) (pc' := 26) rfl (hb hby d6_14) (by decide) (by decide) k_) ?_
    show OwnEndsW _ _ _ _ _ _ _ (T2.setTop (mkF m 26 #[.val (.ref s1), .val (.int (own_last cs nn))] [(.ref em)]))
    refine own_retWA F0 X2 (by rw [hh2]; exact (Nat.le_refl _)) hx Bd.returns Bd.notSynchronized rfl rfl (hb hby d6_26) ?_ (by decide) (by decide)
    show Q6 Z s1 t1 kb cs nn cz fm em h0 n0 _ T2.vm T2.heap _
    rw [hh2]
    exact ⟨em, rfl, N2, Keep.refl h0 [], (Em.warm hEL hZ I0.top X2.warmed), Or.inl ⟨hlt, rfl⟩⟩
  · refine OwnEndsW.st (fun t_ k_ => XS.ifYes X1.here hx rfl (pc0 := 8) (pc' := 17) rfl (hb hby d6_8) rfl ((if0 _ _).trans (flt (hlt : ¬ ((own_last cs nn) < (0 : Int32)))).2.1) (by decide) (by decide) k_) ?_
    show OwnEndsW _ _ _ _ _ _ _ (T1.setTop (mkF m 17 #[.val (.ref s1), .val (.int (own_last cs nn))] []))
    refine OwnEndsW.st (fun t_ k_ => XS.aloadN X1.here hx rfl (hb hby d6_17) rfl rfl k_) ?_
    show OwnEndsW _ _ _ _ _ _ _ (T1.setTop (mkF m 18 #[.val (.ref s1), .val (.int (own_last cs nn))] [(.ref s1)]))
    refine OwnEndsW.st (fun t_ k_ => XS.iconst X1.here hx rfl (hb hby d6_18) k_) ?_
    show OwnEndsW _ _ _ _ _ _ _ (T1.setTop (mkF m 19 #[.val (.ref s1), .val (.int (own_last cs nn))] [(.int (0 : Int32)), (.ref s1)]))
    refine OwnEndsW.st (fun t_ k_ => XS.iloadN X1.here hx rfl (hb hby d6_19) rfl k_) ?_
    show OwnEndsW _ _ _ _ _ _ _ (T1.setTop (mkF m 20 #[.val (.ref s1), .val (.int (own_last cs nn))] [(.int (own_last cs nn)), (.int (0 : Int32)), (.ref s1)]))
    obtain ⟨jn, hjl, hje⟩ : ∃ i, i < nn ∧ own_last cs nn = Int32.ofNat i := (own_last_lt hl4).resolve_left (fun q_ => hlt (by rw [q_]; decide))
    rw [hje]
    show OwnEndsW _ _ _ _ _ _ _ (T1.setTop (mkF m 20 #[.val (.ref s1), .val (.int (Int32.ofNat jn))] [(.int (Int32.ofNat jn)), (.int (0 : Int32)), (.ref s1)]))
    obtain ⟨cq3, kq3, q3a, q3b, q3c⟩ := isOf hZ hh1 (Es)
    obtain ⟨_, _, ⟨T3, L3, k3, n3⟩, -, X3p, hS3, hg3, ⟨Lc3, hQ3, l3, y3, z3⟩, st3⟩ := X1.virtualBackS hx (y := (⟨"java/lang/String", "substring", "(II)Ljava/lang/String;"⟩ : MethodName)) (z := (⟨"java/lang/String", "substring", "(II)Ljava/lang/String;"⟩ : MethodName)) hown (mvT hZ (hw _ (List.mem_of_getElem? (i := 93) rfl))) (mvT hZ (hw _ (List.mem_of_getElem? (i := 94) rfl))) (notFace_of_selects (args := #[]) (mvT hZ (hw _ (List.mem_of_getElem? (i := 96) rfl)))) (mvT hZ (hw _ (List.mem_of_getElem? (i := 96) rfl))) (mvT hZ (hw _ (List.mem_of_getElem? (i := 95) rfl))) (by decide) (backOfW (W := 0) (P := fun vm_ => Em Z vm_ h0 h0.size) (rm20 l Z a0 hw [] s1 t1 kb cs nn cz jn fm h0 n0 Z0 Es Vs Cs At hn hl4 hjl (by omega) hp S_cs hcz S_si hfm hEL O0) hZ (fun vm_ hv_ => Em.warm hEL hZ I0.top hv_) (hw _ (List.mem_of_getElem? (i := 97) rfl)) (hw _ (List.mem_of_getElem? (i := 10) rfl)) (by decide) (by decide)) q3a q3c (g := (mkF m 20 #[.val (.ref s1), .val (.int (Int32.ofNat jn))] [(.int (Int32.ofNat jn)), (.int (0 : Int32)), (.ref s1)])) rfl (by rw [hml]; rfl) (Steps.refl _) (argsL := [(.int (0 : Int32)), (.int (Int32.ofNat jn))]) (rest := []) (lenOf pd_18 rfl) rfl (by show 2 * 0 + _ ≤ _; exact Nat.le_of_eq rfl) (hb hby d6_20) (fun _ _ => ⟨rfl, hh1, (by decide : 0 + 2 ≤ _), (by decide : 0 + 8 ≤ _)⟩)
    dsimp only [Pt.U, Pt.locs, Pt.cells, Pt.slots] at X3p hS3 hg3 l3 y3 z3 st3 hQ3
    subst l3 y3 z3
    obtain ⟨vb3, rfl, N3q, K3, Ob3, Iq3⟩ := hQ3
    have N3 := Fr.app N1 N3q
    obtain ⟨sb3, ev3, X3, F3, hZ, hown⟩ := own_reb F0 (by rw [hh1]; exact (Nat.le_refl _)) hZ hown X3p hS3 hg3
    have I3 : Em Z sb3.vm T3.heap T3.heap.size := by rw [ev3]; exact Iq3
    refine OwnEndsW.go st3 ?_
    show OwnEndsW _ _ _ _ _ _ _ (T3.setTop (mkF m 23 #[.val (.ref s1), .val (.int (Int32.ofNat jn))] [(.ref vb3)]))
    have Zf_ : n0 ≤ T3.heap.size := (Nat.le_trans Z0 (Nat.le_trans (Nat.le_refl _) K3.1))
    obtain ⟨_, _, ⟨T4, L4, k4, n4⟩, -, X4, ⟨Lc4, hQ4, l4, y4, z4⟩, st4⟩ := Jvm.LawKit.callS X3 hx (y := (⟨"java/util/Optional", "of", "(Ljava/lang/Object;)Ljava/util/Optional;"⟩ : MethodName)) hown (mvT hZ (hw _ (List.mem_of_getElem? (i := 128) rfl))) (mvT hZ (hw _ (List.mem_of_getElem? (i := 129) rfl))) (mvT hZ (hw _ (List.mem_of_getElem? (i := 73) rfl))) (mvT hZ (hw _ (List.mem_of_getElem? (i := 130) rfl))) (by decide) (backOf (W := 0) (rm28 l Z a0 hw [] vb3 T3.heap n0 Zf_) hZ (hw _ (List.mem_of_getElem? (i := 130) rfl)) (hw _ (List.mem_of_getElem? (i := 73) rfl)) (by decide) (by decide)) (g := (mkF m 23 #[.val (.ref s1), .val (.int (Int32.ofNat jn))] [(.ref vb3)])) rfl (by rw [hml]; rfl) (argsL := [(.ref vb3)]) (rest := []) (lenOf pd_19 rfl) rfl (by show 2 * 0 + _ ≤ _; exact Nat.le_of_eq rfl) (hb hby d6_23) (fun _ _ => ⟨rfl, rfl, (by decide : 2 + 1 ≤ _), (by decide : 8 + 1 ≤ _)⟩)
    dsimp only [Pt.U, Pt.locs, Pt.cells, Pt.slots] at X4 l4 y4 z4 st4 hQ4
    subst l4 y4 z4
    obtain ⟨o4, rfl, N4q, K4, go4, Eo4, Fo4⟩ := hQ4
    have N4 := Fr.app N3 N4q
    refine OwnEndsW.st st4 ?_
    show OwnEndsW _ _ _ _ _ _ _ (T4.setTop (mkF m 26 #[.val (.ref s1), .val (.int (Int32.ofNat jn))] [(.ref o4)]))
    refine own_retWA F3 X4 (Nat.le_trans (Nat.le_refl _) K4.1) hx Bd.returns Bd.notSynchronized rfl rfl (hb hby d6_26) ?_ (by decide) (by decide)
    show Q6 Z s1 t1 kb cs nn cz fm em h0 n0 _ T4.vm T4.heap _
    exact ⟨o4, rfl, N4, (((Keep.refl h0 []).trans K3 all0).trans K4 all0), (Em.warm hEL hZ (I3.keep K4 all0).top X4.warmed), Or.inr ⟨jn, vb3, hjl, hje, (Nat.le_trans (Nat.le_trans (Nat.le_refl _) K3.1) go4), Eo4, Fo4, (Ob3.keep K4 all0).top⟩⟩
theorem ef_0 (m : MethodId) (x0 : Int32) (x1 : Int32) (x2 : Int32) (x3 : Int32) (x4 : Int32) : entryFrame m #[(.int x0), (.int x1), (.int x2), (.int x3), (.int x4)] maxLocals = mkF m 0 #[.val (.int x0), .val (.int x1), .val (.int x2), .val (.int x3), .val (.int x4), .unset, .unset, .unset, .unset, .unset, .unset, .unset, .unset] [] := by first | (simp [entryFrame, mkF, argsToLocals, Value.category, maxLocals]; done) | rfl
def Q0 (Z : State) (p1 : Int32) (p2 : Int32) (p3 : Int32) (p4 : Int32) (p5 : Int32) (cz : Int32) (fm : Value) (em : Addr) (h0 : Heap) (n0 : Nat) (v : Option Value) (vm : Vm) (h : Heap) (L : List Loc) : Prop := v = some (.int 1) ∧ Fr n0 L
set_option maxRecDepth 65536 in
set_option maxHeartbeats 40000000 in
theorem rm0 (l : Launch) (Z : State) (a0 : Array Value) (hw : ∀ d ∈ tables_1, d.before a0 Z = true) (ws : List Jvm.Cond) (p1 : Int32) (p2 : Int32) (p3 : Int32) (p4 : Int32) (p5 : Int32) (cz : Int32) (fm : Value) (em : Addr) (h0 : Heap) (n0 : Nat) (Z0 : n0 ≤ h0.size) (S_cs : Sta Z Z.heap "java/lang/String" "COMPACT_STRINGS" "Z" (.int cz)) (hcz : ¬ cz = 0) (S_si : Sta Z Z.heap "jdk/internal/util/Preconditions" "SIOOBE_FORMATTER" "Ljava/util/function/BiFunction;" fm) (hfm : fm.isRef = true) (S_em : Sta Z Z.heap "java/util/Optional" "EMPTY" "Ljava/util/Optional;" (.ref em)) (E_em : Exa Z Z.heap em "java/util/Optional") (F_em : Fld Z Z.heap em "java/util/Optional" "value" "Ljava/lang/Object;" .null) (hEL : EW Z a0 consts_1) (O0 : Old Z n0 h0) :
    MetFree l x (head1 (Jvm.Cond.code x code maxLocals ret :: ws) room_1) (fun ar_ U_ => ar_ = #[(.int p1), (.int p2), (.int p3), (.int p4), (.int p5)] ∧ Z.Warmed39 U_.vm ∧ U_.heap = h0 ∧ Em Z U_.vm h0 h0.size) (fun _ _ _ _ _ => True) (fun _ U_ oc_ Ue_ => ∃ v_ L_, oc_ = .returned v_ ∧ Q0 Z p1 p2 p3 p4 p5 cz fm em h0 n0 v_ Ue_.vm Ue_.heap L_ ∧ ReturnedEndW U_ oc_ Ue_ L_ room_1.cells room_1.slots) := by
  refine MetFree.of_bodySF (plainFor_of_name pn_0) hisR ?_
  intro p e s m args below meth c s₁ Bd hml0 hP hK
  obtain ⟨rfl, hZ, hh, I0⟩ := hP
  have hx := Bd.exec
  have hby := Bd.bytes
  have hml : c.maxLocals = 13 := hml0
  have hown : s.vm.findClass "com/example/culpa/culpa/NamesFunctionPinLaw" = some m.cls := findClass_of_methodNamed Bd.named
  have hnm := (name_of_methodNamed Bd.named Bd.method).1
  have X0 : Stand p l e room_1 s m #[(.int p1), (.int p2), (.int p3), (.int p4), (.int p5)] below meth c s₁ [] 0 0 := Stand.of_body Bd
  have e0 : s₁.heap = h0 := by rw [← hh, Bd.state]; rfl
  have N0 := Fr.nil n0
  have F0 : Shelf s s h0.size := Shelf.start s _
  show OwnEndsW p e below s (Q0 Z p1 p2 p3 p4 p5 cz fm em h0 n0) room_1.cells room_1.slots (s₁.setTop (entryFrame m #[(.int p1), (.int p2), (.int p3), (.int p4), (.int p5)] maxLocals))
  rw [ef_0]
  show OwnEndsW _ _ _ _ _ _ _ (s₁.setTop (mkF m 0 #[.val (.int p1), .val (.int p2), .val (.int p3), .val (.int p4), .val (.int p5), .unset, .unset, .unset, .unset, .unset, .unset, .unset, .unset] []))
  have heq : ∀ d ∈ StrChars.Road.wordsEq, d.before a0 Z = true := fun d hd => hw d ((by decide +kernel : ∀ d ∈ StrChars.Road.wordsEq, d ∈ tables_1) d hd)
  have hq1 : ∀ c ∈ ([nar .char (own_ch p2)] : List Int32), ¬ c < 0 ∧ ¬ (255 : Int32) < c := by
    intro c hc
    simp only [own_chn, List.mem_cons, List.not_mem_nil, or_false] at hc
    rcases hc with rfl <;> exact own_chb _
  have hq2 : ∀ c ∈ ([nar .char (own_ch p2), nar .char (own_ch p3)] : List Int32), ¬ c < 0 ∧ ¬ (255 : Int32) < c := by
    intro c hc
    simp only [own_chn, List.mem_cons, List.not_mem_nil, or_false] at hc
    rcases hc with rfl | rfl <;> exact own_chb _
  have hq3 : ∀ c ∈ ([nar .char (own_ch p2), nar .char (own_ch p3), nar .char (own_ch p4)] : List Int32), ¬ c < 0 ∧ ¬ (255 : Int32) < c := by
    intro c hc
    simp only [own_chn, List.mem_cons, List.not_mem_nil, or_false] at hc
    rcases hc with rfl | rfl | rfl <;> exact own_chb _
  have hq4 : ∀ c ∈ ([nar .char (own_ch p2), nar .char (own_ch p3), nar .char (own_ch p4), nar .char (own_ch p5)] : List Int32), ¬ c < 0 ∧ ¬ (255 : Int32) < c := by
    intro c hc
    simp only [own_chn, List.mem_cons, List.not_mem_nil, or_false] at hc
    rcases hc with rfl | rfl | rfl | rfl <;> exact own_chb _
  refine OwnEndsW.st (fun t_ k_ => XS.iloadN X0.here hx rfl (hb hby at_0) rfl k_) ?_
  show OwnEndsW _ _ _ _ _ _ _ (s₁.setTop (mkF m 1 #[.val (.int p1), .val (.int p2), .val (.int p3), .val (.int p4), .val (.int p5), .unset, .unset, .unset, .unset, .unset, .unset, .unset, .unset] [(.int p1)]))
  refine OwnEndsW.st (fun t_ k_ => X0.ldcInt hx hown (mvT hZ (hw _ (List.mem_of_getElem? (i := 0) rfl))) (g := (mkF m 1 #[.val (.int p1), .val (.int p2), .val (.int p3), .val (.int p4), .val (.int p5), .unset, .unset, .unset, .unset, .unset, .unset, .unset, .unset] [(.int p1)])) rfl (hb hby at_1) t_ k_) ?_
  show OwnEndsW _ _ _ _ _ _ _ (s₁.setTop (mkF m 3 #[.val (.int p1), .val (.int p2), .val (.int p3), .val (.int p4), .val (.int p5), .unset, .unset, .unset, .unset, .unset, .unset, .unset, .unset] [(.int (2147483647 : Int32)), (.int p1)]))
  refine OwnEndsW.st (fun t_ k_ => XS.iand X0.here hx rfl (hb hby at_3) rfl k_) ?_
  show OwnEndsW _ _ _ _ _ _ _ (s₁.setTop (mkF m 4 #[.val (.int p1), .val (.int p2), .val (.int p3), .val (.int p4), .val (.int p5), .unset, .unset, .unset, .unset, .unset, .unset, .unset, .unset] [(.int (p1 &&& (2147483647 : Int32)))]))
  refine OwnEndsW.st (fun t_ k_ => XS.iconst X0.here hx rfl (hb hby at_4) k_) ?_
  show OwnEndsW _ _ _ _ _ _ _ (s₁.setTop (mkF m 5 #[.val (.int p1), .val (.int p2), .val (.int p3), .val (.int p4), .val (.int p5), .unset, .unset, .unset, .unset, .unset, .unset, .unset, .unset] [(.int (5 : Int32)), (.int (p1 &&& (2147483647 : Int32)))]))
  refine OwnEndsW.st (fun t_ k_ => iremM X0 hx rfl (hb hby at_5) rfl (by decide) k_) ?_
  show OwnEndsW _ _ _ _ _ _ _ (s₁.setTop (mkF m 6 #[.val (.int p1), .val (.int p2), .val (.int p3), .val (.int p4), .val (.int p5), .unset, .unset, .unset, .unset, .unset, .unset, .unset, .unset] [(.int ((p1 &&& (2147483647 : Int32)) % (5 : Int32)))]))
  show OwnEndsW _ _ _ _ _ _ _ (s₁.setTop (mkF m 6 #[.val (.int p1), .val (.int p2), .val (.int p3), .val (.int p4), .val (.int p5), .unset, .unset, .unset, .unset, .unset, .unset, .unset, .unset] [.int (own_n p1)]))
  refine OwnEndsW.st (fun t_ k_ => XS.istore X0.here hx rfl (hb hby at_6) rfl (l' := #[.val (.int p1), .val (.int p2), .val (.int p3), .val (.int p4), .val (.int p5), .val (.int (own_n p1)), .unset, .unset, .unset, .unset, .unset, .unset, .unset]) rfl k_) ?_
  show OwnEndsW _ _ _ _ _ _ _ (s₁.setTop (mkF m 8 #[.val (.int p1), .val (.int p2), .val (.int p3), .val (.int p4), .val (.int p5), .val (.int (own_n p1)), .unset, .unset, .unset, .unset, .unset, .unset, .unset] []))
  refine OwnEndsW.st (fun t_ k_ => XS.iloadN X0.here hx rfl (hb hby at_8) rfl k_) ?_
  show OwnEndsW _ _ _ _ _ _ _ (s₁.setTop (mkF m 9 #[.val (.int p1), .val (.int p2), .val (.int p3), .val (.int p4), .val (.int p5), .val (.int (own_n p1)), .unset, .unset, .unset, .unset, .unset, .unset, .unset] [(.int p2)]))
  obtain ⟨_, _, ⟨T1, L1, k1, n1⟩, -, X1, ⟨Lc1, hQ1, l1, y1, z1⟩, st1⟩ := Jvm.LawKit.callS X0 hx (y := (⟨"com/example/culpa/culpa/NamesFunctionPinLaw", "ch", "(I)C"⟩ : MethodName)) hown (mvT hZ (hw _ (List.mem_of_getElem? (i := 1) rfl))) (mvT hZ (hw _ (List.mem_of_getElem? (i := 2) rfl))) (mvT hZ (hw _ (List.mem_of_getElem? (i := 3) rfl))) (mvT hZ (hw _ (List.mem_of_getElem? (i := 4) rfl))) (by decide) (backOf (W := 0) (rm1 l Z a0 hw [] p2 h0 n0 Z0) hZ (hw _ (List.mem_of_getElem? (i := 4) rfl)) (hw _ (List.mem_of_getElem? (i := 3) rfl)) (by decide) (by decide)) (g := (mkF m 9 #[.val (.int p1), .val (.int p2), .val (.int p3), .val (.int p4), .val (.int p5), .val (.int (own_n p1)), .unset, .unset, .unset, .unset, .unset, .unset, .unset] [(.int p2)])) rfl (by rw [hml]; rfl) (argsL := [(.int p2)]) (rest := []) (lenOf pd_20 rfl) rfl (by show 2 * 0 + _ ≤ _; exact Nat.le_of_eq rfl) (hb hby at_9) (fun _ _ => ⟨rfl, e0, (by decide : 0 + 0 ≤ _), (by decide : 0 + 0 ≤ _)⟩)
  dsimp only [Pt.U, Pt.locs, Pt.cells, Pt.slots] at X1 l1 y1 z1 st1 hQ1
  subst l1 y1 z1
  obtain ⟨rfl, N1q, hh1⟩ := hQ1
  have N1 := Fr.app N0 N1q
  refine OwnEndsW.st st1 ?_
  show OwnEndsW _ _ _ _ _ _ _ (T1.setTop (mkF m 12 #[.val (.int p1), .val (.int p2), .val (.int p3), .val (.int p4), .val (.int p5), .val (.int (own_n p1)), .unset, .unset, .unset, .unset, .unset, .unset, .unset] [(.int (own_ch p2))]))
  refine OwnEndsW.st (fun t_ k_ => XS.istore X1.here hx rfl (hb hby at_12) rfl (l' := #[.val (.int p1), .val (.int p2), .val (.int p3), .val (.int p4), .val (.int p5), .val (.int (own_n p1)), .val (.int (own_ch p2)), .unset, .unset, .unset, .unset, .unset, .unset]) rfl k_) ?_
  show OwnEndsW _ _ _ _ _ _ _ (T1.setTop (mkF m 14 #[.val (.int p1), .val (.int p2), .val (.int p3), .val (.int p4), .val (.int p5), .val (.int (own_n p1)), .val (.int (own_ch p2)), .unset, .unset, .unset, .unset, .unset, .unset] []))
  refine OwnEndsW.st (fun t_ k_ => XS.iloadN X1.here hx rfl (hb hby at_14) rfl k_) ?_
  show OwnEndsW _ _ _ _ _ _ _ (T1.setTop (mkF m 15 #[.val (.int p1), .val (.int p2), .val (.int p3), .val (.int p4), .val (.int p5), .val (.int (own_n p1)), .val (.int (own_ch p2)), .unset, .unset, .unset, .unset, .unset, .unset] [(.int p3)]))
  obtain ⟨_, _, ⟨T2, L2, k2, n2⟩, -, X2, ⟨Lc2, hQ2, l2, y2, z2⟩, st2⟩ := Jvm.LawKit.callS X1 hx (y := (⟨"com/example/culpa/culpa/NamesFunctionPinLaw", "ch", "(I)C"⟩ : MethodName)) hown (mvT hZ (hw _ (List.mem_of_getElem? (i := 1) rfl))) (mvT hZ (hw _ (List.mem_of_getElem? (i := 2) rfl))) (mvT hZ (hw _ (List.mem_of_getElem? (i := 3) rfl))) (mvT hZ (hw _ (List.mem_of_getElem? (i := 4) rfl))) (by decide) (backOf (W := 0) (rm1 l Z a0 hw [] p3 h0 n0 Z0) hZ (hw _ (List.mem_of_getElem? (i := 4) rfl)) (hw _ (List.mem_of_getElem? (i := 3) rfl)) (by decide) (by decide)) (g := (mkF m 15 #[.val (.int p1), .val (.int p2), .val (.int p3), .val (.int p4), .val (.int p5), .val (.int (own_n p1)), .val (.int (own_ch p2)), .unset, .unset, .unset, .unset, .unset, .unset] [(.int p3)])) rfl (by rw [hml]; rfl) (argsL := [(.int p3)]) (rest := []) (lenOf pd_20 rfl) rfl (by show 2 * 0 + _ ≤ _; exact Nat.le_of_eq rfl) (hb hby at_15) (fun _ _ => ⟨rfl, hh1, (by decide : 0 + 0 ≤ _), (by decide : 0 + 0 ≤ _)⟩)
  dsimp only [Pt.U, Pt.locs, Pt.cells, Pt.slots] at X2 l2 y2 z2 st2 hQ2
  subst l2 y2 z2
  obtain ⟨rfl, N2q, hh2⟩ := hQ2
  have N2 := Fr.app N1 N2q
  refine OwnEndsW.st st2 ?_
  show OwnEndsW _ _ _ _ _ _ _ (T2.setTop (mkF m 18 #[.val (.int p1), .val (.int p2), .val (.int p3), .val (.int p4), .val (.int p5), .val (.int (own_n p1)), .val (.int (own_ch p2)), .unset, .unset, .unset, .unset, .unset, .unset] [(.int (own_ch p3))]))
  refine OwnEndsW.st (fun t_ k_ => XS.istore X2.here hx rfl (hb hby at_18) rfl (l' := #[.val (.int p1), .val (.int p2), .val (.int p3), .val (.int p4), .val (.int p5), .val (.int (own_n p1)), .val (.int (own_ch p2)), .val (.int (own_ch p3)), .unset, .unset, .unset, .unset, .unset]) rfl k_) ?_
  show OwnEndsW _ _ _ _ _ _ _ (T2.setTop (mkF m 20 #[.val (.int p1), .val (.int p2), .val (.int p3), .val (.int p4), .val (.int p5), .val (.int (own_n p1)), .val (.int (own_ch p2)), .val (.int (own_ch p3)), .unset, .unset, .unset, .unset, .unset] []))
  refine OwnEndsW.st (fun t_ k_ => XS.iloadN X2.here hx rfl (hb hby at_20) rfl k_) ?_
  show OwnEndsW _ _ _ _ _ _ _ (T2.setTop (mkF m 21 #[.val (.int p1), .val (.int p2), .val (.int p3), .val (.int p4), .val (.int p5), .val (.int (own_n p1)), .val (.int (own_ch p2)), .val (.int (own_ch p3)), .unset, .unset, .unset, .unset, .unset] [(.int p4)]))
  obtain ⟨_, _, ⟨T3, L3, k3, n3⟩, -, X3, ⟨Lc3, hQ3, l3, y3, z3⟩, st3⟩ := Jvm.LawKit.callS X2 hx (y := (⟨"com/example/culpa/culpa/NamesFunctionPinLaw", "ch", "(I)C"⟩ : MethodName)) hown (mvT hZ (hw _ (List.mem_of_getElem? (i := 1) rfl))) (mvT hZ (hw _ (List.mem_of_getElem? (i := 2) rfl))) (mvT hZ (hw _ (List.mem_of_getElem? (i := 3) rfl))) (mvT hZ (hw _ (List.mem_of_getElem? (i := 4) rfl))) (by decide) (backOf (W := 0) (rm1 l Z a0 hw [] p4 h0 n0 Z0) hZ (hw _ (List.mem_of_getElem? (i := 4) rfl)) (hw _ (List.mem_of_getElem? (i := 3) rfl)) (by decide) (by decide)) (g := (mkF m 21 #[.val (.int p1), .val (.int p2), .val (.int p3), .val (.int p4), .val (.int p5), .val (.int (own_n p1)), .val (.int (own_ch p2)), .val (.int (own_ch p3)), .unset, .unset, .unset, .unset, .unset] [(.int p4)])) rfl (by rw [hml]; rfl) (argsL := [(.int p4)]) (rest := []) (lenOf pd_20 rfl) rfl (by show 2 * 0 + _ ≤ _; exact Nat.le_of_eq rfl) (hb hby at_21) (fun _ _ => ⟨rfl, hh2, (by decide : 0 + 0 ≤ _), (by decide : 0 + 0 ≤ _)⟩)
  dsimp only [Pt.U, Pt.locs, Pt.cells, Pt.slots] at X3 l3 y3 z3 st3 hQ3
  subst l3 y3 z3
  obtain ⟨rfl, N3q, hh3⟩ := hQ3
  have N3 := Fr.app N2 N3q
  refine OwnEndsW.st st3 ?_
  show OwnEndsW _ _ _ _ _ _ _ (T3.setTop (mkF m 24 #[.val (.int p1), .val (.int p2), .val (.int p3), .val (.int p4), .val (.int p5), .val (.int (own_n p1)), .val (.int (own_ch p2)), .val (.int (own_ch p3)), .unset, .unset, .unset, .unset, .unset] [(.int (own_ch p4))]))
  refine OwnEndsW.st (fun t_ k_ => XS.istore X3.here hx rfl (hb hby at_24) rfl (l' := #[.val (.int p1), .val (.int p2), .val (.int p3), .val (.int p4), .val (.int p5), .val (.int (own_n p1)), .val (.int (own_ch p2)), .val (.int (own_ch p3)), .val (.int (own_ch p4)), .unset, .unset, .unset, .unset]) rfl k_) ?_
  show OwnEndsW _ _ _ _ _ _ _ (T3.setTop (mkF m 26 #[.val (.int p1), .val (.int p2), .val (.int p3), .val (.int p4), .val (.int p5), .val (.int (own_n p1)), .val (.int (own_ch p2)), .val (.int (own_ch p3)), .val (.int (own_ch p4)), .unset, .unset, .unset, .unset] []))
  refine OwnEndsW.st (fun t_ k_ => XS.iload X3.here hx rfl (hb hby at_26) rfl k_) ?_
  show OwnEndsW _ _ _ _ _ _ _ (T3.setTop (mkF m 28 #[.val (.int p1), .val (.int p2), .val (.int p3), .val (.int p4), .val (.int p5), .val (.int (own_n p1)), .val (.int (own_ch p2)), .val (.int (own_ch p3)), .val (.int (own_ch p4)), .unset, .unset, .unset, .unset] [(.int p5)]))
  obtain ⟨_, _, ⟨T4, L4, k4, n4⟩, -, X4, ⟨Lc4, hQ4, l4, y4, z4⟩, st4⟩ := Jvm.LawKit.callS X3 hx (y := (⟨"com/example/culpa/culpa/NamesFunctionPinLaw", "ch", "(I)C"⟩ : MethodName)) hown (mvT hZ (hw _ (List.mem_of_getElem? (i := 1) rfl))) (mvT hZ (hw _ (List.mem_of_getElem? (i := 2) rfl))) (mvT hZ (hw _ (List.mem_of_getElem? (i := 3) rfl))) (mvT hZ (hw _ (List.mem_of_getElem? (i := 4) rfl))) (by decide) (backOf (W := 0) (rm1 l Z a0 hw [] p5 h0 n0 Z0) hZ (hw _ (List.mem_of_getElem? (i := 4) rfl)) (hw _ (List.mem_of_getElem? (i := 3) rfl)) (by decide) (by decide)) (g := (mkF m 28 #[.val (.int p1), .val (.int p2), .val (.int p3), .val (.int p4), .val (.int p5), .val (.int (own_n p1)), .val (.int (own_ch p2)), .val (.int (own_ch p3)), .val (.int (own_ch p4)), .unset, .unset, .unset, .unset] [(.int p5)])) rfl (by rw [hml]; rfl) (argsL := [(.int p5)]) (rest := []) (lenOf pd_20 rfl) rfl (by show 2 * 0 + _ ≤ _; exact Nat.le_of_eq rfl) (hb hby at_28) (fun _ _ => ⟨rfl, hh3, (by decide : 0 + 0 ≤ _), (by decide : 0 + 0 ≤ _)⟩)
  dsimp only [Pt.U, Pt.locs, Pt.cells, Pt.slots] at X4 l4 y4 z4 st4 hQ4
  subst l4 y4 z4
  obtain ⟨rfl, N4q, hh4⟩ := hQ4
  have N4 := Fr.app N3 N4q
  refine OwnEndsW.st st4 ?_
  show OwnEndsW _ _ _ _ _ _ _ (T4.setTop (mkF m 31 #[.val (.int p1), .val (.int p2), .val (.int p3), .val (.int p4), .val (.int p5), .val (.int (own_n p1)), .val (.int (own_ch p2)), .val (.int (own_ch p3)), .val (.int (own_ch p4)), .unset, .unset, .unset, .unset] [(.int (own_ch p5))]))
  refine OwnEndsW.st (fun t_ k_ => XS.istore X4.here hx rfl (hb hby at_31) rfl (l' := #[.val (.int p1), .val (.int p2), .val (.int p3), .val (.int p4), .val (.int p5), .val (.int (own_n p1)), .val (.int (own_ch p2)), .val (.int (own_ch p3)), .val (.int (own_ch p4)), .val (.int (own_ch p5)), .unset, .unset, .unset]) rfl k_) ?_
  show OwnEndsW _ _ _ _ _ _ _ (T4.setTop (mkF m 33 #[.val (.int p1), .val (.int p2), .val (.int p3), .val (.int p4), .val (.int p5), .val (.int (own_n p1)), .val (.int (own_ch p2)), .val (.int (own_ch p3)), .val (.int (own_ch p4)), .val (.int (own_ch p5)), .unset, .unset, .unset] []))
  refine OwnEndsW.st (fun t_ k_ => XS.iload X4.here hx rfl (hb hby at_33) rfl k_) ?_
  show OwnEndsW _ _ _ _ _ _ _ (T4.setTop (mkF m 35 #[.val (.int p1), .val (.int p2), .val (.int p3), .val (.int p4), .val (.int p5), .val (.int (own_n p1)), .val (.int (own_ch p2)), .val (.int (own_ch p3)), .val (.int (own_ch p4)), .val (.int (own_ch p5)), .unset, .unset, .unset] [(.int (own_n p1))]))
  refine OwnEndsW.st (fun t_ k_ => XS.iload X4.here hx rfl (hb hby at_35) rfl k_) ?_
  show OwnEndsW _ _ _ _ _ _ _ (T4.setTop (mkF m 37 #[.val (.int p1), .val (.int p2), .val (.int p3), .val (.int p4), .val (.int p5), .val (.int (own_n p1)), .val (.int (own_ch p2)), .val (.int (own_ch p3)), .val (.int (own_ch p4)), .val (.int (own_ch p5)), .unset, .unset, .unset] [(.int (own_ch p2)), (.int (own_n p1))]))
  refine OwnEndsW.st (fun t_ k_ => XS.iload X4.here hx rfl (hb hby at_37) rfl k_) ?_
  show OwnEndsW _ _ _ _ _ _ _ (T4.setTop (mkF m 39 #[.val (.int p1), .val (.int p2), .val (.int p3), .val (.int p4), .val (.int p5), .val (.int (own_n p1)), .val (.int (own_ch p2)), .val (.int (own_ch p3)), .val (.int (own_ch p4)), .val (.int (own_ch p5)), .unset, .unset, .unset] [(.int (own_ch p3)), (.int (own_ch p2)), (.int (own_n p1))]))
  refine OwnEndsW.st (fun t_ k_ => XS.iload X4.here hx rfl (hb hby at_39) rfl k_) ?_
  show OwnEndsW _ _ _ _ _ _ _ (T4.setTop (mkF m 41 #[.val (.int p1), .val (.int p2), .val (.int p3), .val (.int p4), .val (.int p5), .val (.int (own_n p1)), .val (.int (own_ch p2)), .val (.int (own_ch p3)), .val (.int (own_ch p4)), .val (.int (own_ch p5)), .unset, .unset, .unset] [(.int (own_ch p4)), (.int (own_ch p3)), (.int (own_ch p2)), (.int (own_n p1))]))
  refine OwnEndsW.st (fun t_ k_ => XS.iload X4.here hx rfl (hb hby at_41) rfl k_) ?_
  show OwnEndsW _ _ _ _ _ _ _ (T4.setTop (mkF m 43 #[.val (.int p1), .val (.int p2), .val (.int p3), .val (.int p4), .val (.int p5), .val (.int (own_n p1)), .val (.int (own_ch p2)), .val (.int (own_ch p3)), .val (.int (own_ch p4)), .val (.int (own_ch p5)), .unset, .unset, .unset] [(.int (own_ch p5)), (.int (own_ch p4)), (.int (own_ch p3)), (.int (own_ch p2)), (.int (own_n p1))]))
  have Zm4 : n0 ≤ h0.size := (Nat.le_trans Z0 (Nat.le_refl _))
  obtain ⟨_, _, ⟨T5, L5, k5, n5⟩, -, X5p, hS5, hg5, ⟨Lc5, hQ5, l5, y5, z5⟩, st5⟩ := callSS X4 hx (y := (⟨"com/example/culpa/culpa/NamesFunctionPinLaw", "mk", "(ICCCC)Ljava/lang/String;"⟩ : MethodName)) hown (mvT hZ (hw _ (List.mem_of_getElem? (i := 5) rfl))) (mvT hZ (hw _ (List.mem_of_getElem? (i := 6) rfl))) (mvT hZ (hw _ (List.mem_of_getElem? (i := 3) rfl))) (mvT hZ (hw _ (List.mem_of_getElem? (i := 7) rfl))) (by decide) (backOfW (W := 0) (P := fun vm_ => Em Z vm_ h0 h0.size) (rm2 l Z a0 hw [] (own_n p1) (own_ch p2) (own_ch p3) (own_ch p4) (own_ch p5) cz h0 n0 Zm4 hq1 hq2 hq3 hq4 S_cs hcz O0 hEL) hZ (fun vm_ hv_ => Em.warm hEL hZ I0.top hv_) (hw _ (List.mem_of_getElem? (i := 7) rfl)) (hw _ (List.mem_of_getElem? (i := 3) rfl)) (by decide) (by decide)) (g := (mkF m 43 #[.val (.int p1), .val (.int p2), .val (.int p3), .val (.int p4), .val (.int p5), .val (.int (own_n p1)), .val (.int (own_ch p2)), .val (.int (own_ch p3)), .val (.int (own_ch p4)), .val (.int (own_ch p5)), .unset, .unset, .unset] [(.int (own_ch p5)), (.int (own_ch p4)), (.int (own_ch p3)), (.int (own_ch p2)), (.int (own_n p1))])) rfl (by rw [hml]; rfl) (argsL := [(.int (own_n p1)), (.int (own_ch p2)), (.int (own_ch p3)), (.int (own_ch p4)), (.int (own_ch p5))]) (rest := []) (lenOf pd_21 rfl) rfl (by show 2 * 0 + _ ≤ _; exact Nat.le_of_eq rfl) (hb hby at_43) (fun _ _ => ⟨rfl, hh4, (by decide : 0 + 4 ≤ _), (by decide : 0 + 12 ≤ _)⟩)
  dsimp only [Pt.U, Pt.locs, Pt.cells, Pt.slots] at X5p hS5 hg5 l5 y5 z5 st5 hQ5
  subst l5 y5 z5
  obtain ⟨b5, rfl, N5q, K5, gb5, Ob5, Iq5⟩ := hQ5
  have N5 := Fr.app N4 N5q
  obtain ⟨sb5, ev5, X5, F5, hZ, hown⟩ := own_reb F0 (by rw [hh4]; exact (Nat.le_refl _)) hZ hown X5p hS5 hg5
  have I5 : Em Z sb5.vm T5.heap T5.heap.size := by rw [ev5]; exact Iq5
  refine OwnEndsW.go st5 ?_
  show OwnEndsW _ _ _ _ _ _ _ (T5.setTop (mkF m 46 #[.val (.int p1), .val (.int p2), .val (.int p3), .val (.int p4), .val (.int p5), .val (.int (own_n p1)), .val (.int (own_ch p2)), .val (.int (own_ch p3)), .val (.int (own_ch p4)), .val (.int (own_ch p5)), .unset, .unset, .unset] [(.ref b5)]))
  refine OwnEndsW.st (fun t_ k_ => XS.astore X5.here hx rfl (hb hby at_46) rfl rfl (l' := #[.val (.int p1), .val (.int p2), .val (.int p3), .val (.int p4), .val (.int p5), .val (.int (own_n p1)), .val (.int (own_ch p2)), .val (.int (own_ch p3)), .val (.int (own_ch p4)), .val (.int (own_ch p5)), .val (.ref b5), .unset, .unset]) rfl k_) ?_
  show OwnEndsW _ _ _ _ _ _ _ (T5.setTop (mkF m 48 #[.val (.int p1), .val (.int p2), .val (.int p3), .val (.int p4), .val (.int p5), .val (.int (own_n p1)), .val (.int (own_ch p2)), .val (.int (own_ch p3)), .val (.int (own_ch p4)), .val (.int (own_ch p5)), .val (.ref b5), .unset, .unset] []))
  have J114 : ∀ vv : Int32, vv = own_l4 (own_n p1) (own_ch p2) (own_ch p3) (own_ch p4) (own_ch p5) → OwnEndsW p e below s (Q0 Z p1 p2 p3 p4 p5 cz fm em h0 n0) room_1.cells room_1.slots (T5.setTop (mkF m 114 #[.val (.int p1), .val (.int p2), .val (.int p3), .val (.int p4), .val (.int p5), .val (.int (own_n p1)), .val (.int (own_ch p2)), .val (.int (own_ch p3)), .val (.int (own_ch p4)), .val (.int (own_ch p5)), .val (.ref b5), .val (.int vv), .unset] [])) := by
    intro vv hvv
    refine OwnEndsW.st (fun t_ k_ => XS.aload X5.here hx rfl (hb hby at_114) rfl rfl k_) ?_
    show OwnEndsW _ _ _ _ _ _ _ (T5.setTop (mkF m 116 #[.val (.int p1), .val (.int p2), .val (.int p3), .val (.int p4), .val (.int p5), .val (.int (own_n p1)), .val (.int (own_ch p2)), .val (.int (own_ch p3)), .val (.int (own_ch p4)), .val (.int (own_ch p5)), .val (.ref b5), .val (.int vv), .unset] [(.ref b5)]))
    obtain ⟨hlaw, hlen4, htake⟩ := own_law3 (own_n5 p1) (own_chn p2) (own_chn p3) (own_chn p4) (own_chn p5)
    have hpc : ∀ c ∈ (own_mkcs (own_n p1) (own_ch p2) (own_ch p3) (own_ch p4) (own_ch p5)), ¬ c < 0 ∧ ¬ (255 : Int32) < c := own_mkp (own_chb p2) (own_chb p3) (own_chb p4) (own_chb p5) (own_chn p2) (own_chn p3) (own_chn p4) (own_chn p5)
    obtain ⟨t_s, k_s, Es_, Vs_, Cs_, As_⟩ := own_lat Ob5 hpc
    have Zu_ : n0 ≤ T5.heap.size := (Nat.le_trans Z0 (Nat.le_trans (Nat.le_refl _) K5.1))
    obtain ⟨_, _, ⟨T6, L6, k6, n6⟩, -, X6p, hS6, hg6, ⟨Lc6, hQ6, l6, y6, z6⟩, st6⟩ := callSS X5 hx (y := (⟨"com/example/culpa/culpa/Names", "function", "(Ljava/lang/String;)Ljava/util/Optional;"⟩ : MethodName)) hown (mvT hZ (hw _ (List.mem_of_getElem? (i := 30) rfl))) (mvT hZ (hw _ (List.mem_of_getElem? (i := 31) rfl))) (mvT hZ (hw _ (List.mem_of_getElem? (i := 32) rfl))) (mvT hZ (hw _ (List.mem_of_getElem? (i := 33) rfl))) (by decide) (backOfW (W := 0) (P := fun vm_ => Em Z vm_ T5.heap T5.heap.size) (rm6 l Z a0 hw [] b5 t_s k_s (own_mkcs (own_n p1) (own_ch p2) (own_ch p3) (own_ch p4) (own_ch p5)) (own_mkcs (own_n p1) (own_ch p2) (own_ch p3) (own_ch p4) (own_ch p5)).length cz fm em T5.heap n0 Zu_ Es_ Vs_ Cs_ As_ rfl (by omega) hlen4 hpc S_cs hcz S_si hfm S_em hEL (O0.keep K5 all0)) hZ (fun vm_ hv_ => Em.warm hEL hZ I5.top hv_) (hw _ (List.mem_of_getElem? (i := 33) rfl)) (hw _ (List.mem_of_getElem? (i := 32) rfl)) (by decide) (by decide)) (g := (mkF m 116 #[.val (.int p1), .val (.int p2), .val (.int p3), .val (.int p4), .val (.int p5), .val (.int (own_n p1)), .val (.int (own_ch p2)), .val (.int (own_ch p3)), .val (.int (own_ch p4)), .val (.int (own_ch p5)), .val (.ref b5), .val (.int vv), .unset] [(.ref b5)])) rfl (by rw [hml]; rfl) (argsL := [(.ref b5)]) (rest := []) (lenOf pd_22 rfl) rfl (by show 2 * 0 + _ ≤ _; exact Nat.le_of_eq rfl) (hb hby at_116) (fun _ _ => ⟨rfl, rfl, (by decide : 4 + 3 ≤ _), (by decide : 12 + 9 ≤ _)⟩)
    dsimp only [Pt.U, Pt.locs, Pt.cells, Pt.slots] at X6p hS6 hg6 l6 y6 z6 st6 hQ6
    subst l6 y6 z6
    obtain ⟨o6, rfl, N6q, K6, Iq6, Hd6⟩ := hQ6
    have N6 := Fr.app N5 N6q
    obtain ⟨sb6, ev6, X6, F6, hZ, hown⟩ := own_reb F5 (Nat.le_refl _) hZ hown X6p hS6 hg6
    have I6 : Em Z sb6.vm T6.heap T6.heap.size := by rw [ev6]; exact Iq6
    refine OwnEndsW.go st6 ?_
    show OwnEndsW _ _ _ _ _ _ _ (T6.setTop (mkF m 119 #[.val (.int p1), .val (.int p2), .val (.int p3), .val (.int p4), .val (.int p5), .val (.int (own_n p1)), .val (.int (own_ch p2)), .val (.int (own_ch p3)), .val (.int (own_ch p4)), .val (.int (own_ch p5)), .val (.ref b5), .val (.int vv), .unset] [(.ref o6)]))
    refine OwnEndsW.st (fun t_ k_ => XS.astore X6.here hx rfl (hb hby at_119) rfl rfl (l' := #[.val (.int p1), .val (.int p2), .val (.int p3), .val (.int p4), .val (.int p5), .val (.int (own_n p1)), .val (.int (own_ch p2)), .val (.int (own_ch p3)), .val (.int (own_ch p4)), .val (.int (own_ch p5)), .val (.ref b5), .val (.int vv), .val (.ref o6)]) rfl k_) ?_
    show OwnEndsW _ _ _ _ _ _ _ (T6.setTop (mkF m 121 #[.val (.int p1), .val (.int p2), .val (.int p3), .val (.int p4), .val (.int p5), .val (.int (own_n p1)), .val (.int (own_ch p2)), .val (.int (own_ch p3)), .val (.int (own_ch p4)), .val (.int (own_ch p5)), .val (.ref b5), .val (.int vv), .val (.ref o6)] []))
    rcases Hd6 with ⟨hneg, rfl⟩ | ⟨jn, bq, hjl, hje, go_, Eo_, Fo_, Oq_⟩
    · have hneg2 : vv < 0 := by rw [hvv, ← hlaw]; exact hneg
      refine OwnEndsW.st (fun t_ k_ => XS.iload X6.here hx rfl (hb hby at_121) rfl k_) ?_
      show OwnEndsW _ _ _ _ _ _ _ (T6.setTop (mkF m 123 #[.val (.int p1), .val (.int p2), .val (.int p3), .val (.int p4), .val (.int p5), .val (.int (own_n p1)), .val (.int (own_ch p2)), .val (.int (own_ch p3)), .val (.int (own_ch p4)), .val (.int (own_ch p5)), .val (.ref b5), .val (.int vv), .val (.ref o6)] [(.int vv)]))
      refine OwnEndsW.st (fun t_ k_ => XS.ifNo X6.here hx rfl (hb hby at_123) rfl ((if0 _ _).trans (tlt (hneg2 : vv < (0 : Int32))).2.1) k_) ?_
      show OwnEndsW _ _ _ _ _ _ _ (T6.setTop (mkF m 126 #[.val (.int p1), .val (.int p2), .val (.int p3), .val (.int p4), .val (.int p5), .val (.int (own_n p1)), .val (.int (own_ch p2)), .val (.int (own_ch p3)), .val (.int (own_ch p4)), .val (.int (own_ch p5)), .val (.ref b5), .val (.int vv), .val (.ref o6)] []))
      refine OwnEndsW.st (fun t_ k_ => XS.aload X6.here hx rfl (hb hby at_126) rfl rfl k_) ?_
      show OwnEndsW _ _ _ _ _ _ _ (T6.setTop (mkF m 128 #[.val (.int p1), .val (.int p2), .val (.int p3), .val (.int p4), .val (.int p5), .val (.int (own_n p1)), .val (.int (own_ch p2)), .val (.int (own_ch p3)), .val (.int (own_ch p4)), .val (.int (own_ch p5)), .val (.ref b5), .val (.int vv), .val (.ref o6)] [(.ref o6)]))
      obtain ⟨cq7, kq7, q7a, q7b, q7c⟩ := isOf hZ rfl ((E_em.ext ((O0.keep K5 all0).keep K6 all0).2))
      obtain ⟨_, _, ⟨T7, L7, k7, n7⟩, -, X7, ⟨Lc7, hQ7, l7, y7, z7⟩, st7⟩ := X6.virtualBack hx (y := (⟨"java/util/Optional", "isPresent", "()Z"⟩ : MethodName)) (z := (⟨"java/util/Optional", "isPresent", "()Z"⟩ : MethodName)) hown (mvT hZ (hw _ (List.mem_of_getElem? (i := 76) rfl))) (mvT hZ (hw _ (List.mem_of_getElem? (i := 77) rfl))) (notFace_of_selects (args := #[]) (mvT hZ (hw _ (List.mem_of_getElem? (i := 79) rfl)))) (mvT hZ (hw _ (List.mem_of_getElem? (i := 79) rfl))) (mvT hZ (hw _ (List.mem_of_getElem? (i := 78) rfl))) (by decide) (backOf (W := 0) (rm36 l Z a0 hw [] o6 T6.heap n0 ((Nat.le_trans Z0 (Nat.le_trans (Nat.le_trans (Nat.le_refl _) K5.1) K6.1))) (F_em.ext ((O0.keep K5 all0).keep K6 all0).2)) hZ (hw _ (List.mem_of_getElem? (i := 80) rfl)) (hw _ (List.mem_of_getElem? (i := 73) rfl)) (by decide) (by decide)) q7a q7c (g := (mkF m 128 #[.val (.int p1), .val (.int p2), .val (.int p3), .val (.int p4), .val (.int p5), .val (.int (own_n p1)), .val (.int (own_ch p2)), .val (.int (own_ch p3)), .val (.int (own_ch p4)), .val (.int (own_ch p5)), .val (.ref b5), .val (.int vv), .val (.ref o6)] [(.ref o6)])) rfl (by rw [hml]; rfl) (Steps.refl _) (argsL := []) (rest := []) (lenOf pd_5 rfl) rfl (by show 2 * 0 + _ ≤ _; exact Nat.le_of_eq rfl) (hb hby at_128) (fun _ _ => ⟨rfl, rfl, (by decide : 7 + 0 ≤ _), (by decide : 21 + 0 ≤ _)⟩)
      dsimp only [Pt.U, Pt.locs, Pt.cells, Pt.slots] at X7 l7 y7 z7 st7 hQ7
      subst l7 y7 z7
      obtain ⟨rfl, N7q, hh7⟩ := hQ7
      have N7 := Fr.app N6 N7q
      refine OwnEndsW.go st7 ?_
      show OwnEndsW _ _ _ _ _ _ _ (T7.setTop (mkF m 131 #[.val (.int p1), .val (.int p2), .val (.int p3), .val (.int p4), .val (.int p5), .val (.int (own_n p1)), .val (.int (own_ch p2)), .val (.int (own_ch p3)), .val (.int (own_ch p4)), .val (.int (own_ch p5)), .val (.ref b5), .val (.int vv), .val (.ref o6)] [(.int (0 : Int32))]))
      refine OwnEndsW.st (fun t_ k_ => XS.ifNo X7.here hx rfl (hb hby at_131) rfl ((if0 _ _).trans (teq (rfl : (0 : Int32) = (0 : Int32))).2) k_) ?_
      show OwnEndsW _ _ _ _ _ _ _ (T7.setTop (mkF m 134 #[.val (.int p1), .val (.int p2), .val (.int p3), .val (.int p4), .val (.int p5), .val (.int (own_n p1)), .val (.int (own_ch p2)), .val (.int (own_ch p3)), .val (.int (own_ch p4)), .val (.int (own_ch p5)), .val (.ref b5), .val (.int vv), .val (.ref o6)] []))
      refine OwnEndsW.st (fun t_ k_ => XS.iconst X7.here hx rfl (hb hby at_134) k_) ?_
      show OwnEndsW _ _ _ _ _ _ _ (T7.setTop (mkF m 135 #[.val (.int p1), .val (.int p2), .val (.int p3), .val (.int p4), .val (.int p5), .val (.int (own_n p1)), .val (.int (own_ch p2)), .val (.int (own_ch p3)), .val (.int (own_ch p4)), .val (.int (own_ch p5)), .val (.ref b5), .val (.int vv), .val (.ref o6)] [(.int (1 : Int32))]))
      refine OwnEndsW.st (fun t_ k_ => XS.goto X7.here hx rfl (pc0 := 135) (pc' := 139) rfl (hb hby at_135) (by decide) (by decide) k_) ?_
      show OwnEndsW _ _ _ _ _ _ _ (T7.setTop (mkF m 139 #[.val (.int p1), .val (.int p2), .val (.int p3), .val (.int p4), .val (.int p5), .val (.int (own_n p1)), .val (.int (own_ch p2)), .val (.int (own_ch p3)), .val (.int (own_ch p4)), .val (.int (own_ch p5)), .val (.ref b5), .val (.int vv), .val (.ref o6)] [(.int (1 : Int32))]))
      refine own_retWN (t := .boolean) F6 X7 (by rw [hh7]; exact (Nat.le_refl _)) hx Bd.returns Bd.notSynchronized (by simp) (hb hby at_139) ?_ (by decide) (by decide)
      show Q0 Z p1 p2 p3 p4 p5 cz fm _ h0 n0 _ T7.vm T7.heap _
      rw [hh7]
      exact ⟨rfl, N7⟩
    · have hvj : vv = (Int32.ofNat jn) := by rw [hvv, ← hlaw]; exact hje
      rw [hvj]
      show OwnEndsW _ _ _ _ _ _ _ (T6.setTop (mkF m 121 #[.val (.int p1), .val (.int p2), .val (.int p3), .val (.int p4), .val (.int p5), .val (.int (own_n p1)), .val (.int (own_ch p2)), .val (.int (own_ch p3)), .val (.int (own_ch p4)), .val (.int (own_ch p5)), .val (.ref b5), .val (.int (Int32.ofNat jn)), .val (.ref o6)] []))
      refine OwnEndsW.st (fun t_ k_ => XS.iload X6.here hx rfl (hb hby at_121) rfl k_) ?_
      show OwnEndsW _ _ _ _ _ _ _ (T6.setTop (mkF m 123 #[.val (.int p1), .val (.int p2), .val (.int p3), .val (.int p4), .val (.int p5), .val (.int (own_n p1)), .val (.int (own_ch p2)), .val (.int (own_ch p3)), .val (.int (own_ch p4)), .val (.int (own_ch p5)), .val (.ref b5), .val (.int (Int32.ofNat jn)), .val (.ref o6)] [(.int (Int32.ofNat jn))]))
      refine OwnEndsW.st (fun t_ k_ => XS.ifYes X6.here hx rfl (pc0 := 123) (pc' := 140) rfl (hb hby at_123) rfl ((if0 _ _).trans (flt ((own_nn (by omega)) : ¬ ((Int32.ofNat jn) < (0 : Int32)))).2.1) (by decide) (by decide) k_) ?_
      show OwnEndsW _ _ _ _ _ _ _ (T6.setTop (mkF m 140 #[.val (.int p1), .val (.int p2), .val (.int p3), .val (.int p4), .val (.int p5), .val (.int (own_n p1)), .val (.int (own_ch p2)), .val (.int (own_ch p3)), .val (.int (own_ch p4)), .val (.int (own_ch p5)), .val (.ref b5), .val (.int (Int32.ofNat jn)), .val (.ref o6)] []))
      refine OwnEndsW.st (fun t_ k_ => XS.aload X6.here hx rfl (hb hby at_140) rfl rfl k_) ?_
      show OwnEndsW _ _ _ _ _ _ _ (T6.setTop (mkF m 142 #[.val (.int p1), .val (.int p2), .val (.int p3), .val (.int p4), .val (.int p5), .val (.int (own_n p1)), .val (.int (own_ch p2)), .val (.int (own_ch p3)), .val (.int (own_ch p4)), .val (.int (own_ch p5)), .val (.ref b5), .val (.int (Int32.ofNat jn)), .val (.ref o6)] [(.ref o6)]))
      obtain ⟨cq8, kq8, q8a, q8b, q8c⟩ := isOf hZ rfl (Eo_)
      obtain ⟨_, _, ⟨T8, L8, k8, n8⟩, -, X8, ⟨Lc8, hQ8, l8, y8, z8⟩, st8⟩ := X6.virtualBack hx (y := (⟨"java/util/Optional", "isPresent", "()Z"⟩ : MethodName)) (z := (⟨"java/util/Optional", "isPresent", "()Z"⟩ : MethodName)) hown (mvT hZ (hw _ (List.mem_of_getElem? (i := 76) rfl))) (mvT hZ (hw _ (List.mem_of_getElem? (i := 77) rfl))) (notFace_of_selects (args := #[]) (mvT hZ (hw _ (List.mem_of_getElem? (i := 79) rfl)))) (mvT hZ (hw _ (List.mem_of_getElem? (i := 79) rfl))) (mvT hZ (hw _ (List.mem_of_getElem? (i := 78) rfl))) (by decide) (backOf (W := 0) (rm37 l Z a0 hw [] o6 bq T6.heap n0 ((Nat.le_trans Z0 (Nat.le_trans (Nat.le_trans (Nat.le_refl _) K5.1) K6.1))) Fo_) hZ (hw _ (List.mem_of_getElem? (i := 80) rfl)) (hw _ (List.mem_of_getElem? (i := 73) rfl)) (by decide) (by decide)) q8a q8c (g := (mkF m 142 #[.val (.int p1), .val (.int p2), .val (.int p3), .val (.int p4), .val (.int p5), .val (.int (own_n p1)), .val (.int (own_ch p2)), .val (.int (own_ch p3)), .val (.int (own_ch p4)), .val (.int (own_ch p5)), .val (.ref b5), .val (.int (Int32.ofNat jn)), .val (.ref o6)] [(.ref o6)])) rfl (by rw [hml]; rfl) (Steps.refl _) (argsL := []) (rest := []) (lenOf pd_5 rfl) rfl (by show 2 * 0 + _ ≤ _; exact Nat.le_of_eq rfl) (hb hby at_142) (fun _ _ => ⟨rfl, rfl, (by decide : 7 + 0 ≤ _), (by decide : 21 + 0 ≤ _)⟩)
      dsimp only [Pt.U, Pt.locs, Pt.cells, Pt.slots] at X8 l8 y8 z8 st8 hQ8
      subst l8 y8 z8
      obtain ⟨rfl, N8q, hh8⟩ := hQ8
      have N8 := Fr.app N6 N8q
      refine OwnEndsW.go st8 ?_
      show OwnEndsW _ _ _ _ _ _ _ (T8.setTop (mkF m 145 #[.val (.int p1), .val (.int p2), .val (.int p3), .val (.int p4), .val (.int p5), .val (.int (own_n p1)), .val (.int (own_ch p2)), .val (.int (own_ch p3)), .val (.int (own_ch p4)), .val (.int (own_ch p5)), .val (.ref b5), .val (.int (Int32.ofNat jn)), .val (.ref o6)] [(.int (1 : Int32))]))
      refine OwnEndsW.st (fun t_ k_ => XS.ifNo X8.here hx rfl (hb hby at_145) rfl ((if0 _ _).trans (feq ((by decide) : ¬ ((1 : Int32) = (0 : Int32)))).1) k_) ?_
      show OwnEndsW _ _ _ _ _ _ _ (T8.setTop (mkF m 148 #[.val (.int p1), .val (.int p2), .val (.int p3), .val (.int p4), .val (.int p5), .val (.int (own_n p1)), .val (.int (own_ch p2)), .val (.int (own_ch p3)), .val (.int (own_ch p4)), .val (.int (own_ch p5)), .val (.ref b5), .val (.int (Int32.ofNat jn)), .val (.ref o6)] []))
      refine OwnEndsW.st (fun t_ k_ => XS.aload X8.here hx rfl (hb hby at_148) rfl rfl k_) ?_
      show OwnEndsW _ _ _ _ _ _ _ (T8.setTop (mkF m 150 #[.val (.int p1), .val (.int p2), .val (.int p3), .val (.int p4), .val (.int p5), .val (.int (own_n p1)), .val (.int (own_ch p2)), .val (.int (own_ch p3)), .val (.int (own_ch p4)), .val (.int (own_ch p5)), .val (.ref b5), .val (.int (Int32.ofNat jn)), .val (.ref o6)] [(.ref o6)]))
      obtain ⟨cq9, kq9, q9a, q9b, q9c⟩ := isOf hZ hh8 (Eo_)
      obtain ⟨_, _, ⟨T9, L9, k9, n9⟩, -, X9, ⟨Lc9, hQ9, l9, y9, z9⟩, st9⟩ := X8.virtualBack hx (y := (⟨"java/util/Optional", "get", "()Ljava/lang/Object;"⟩ : MethodName)) (z := (⟨"java/util/Optional", "get", "()Ljava/lang/Object;"⟩ : MethodName)) hown (mvT hZ (hw _ (List.mem_of_getElem? (i := 142) rfl))) (mvT hZ (hw _ (List.mem_of_getElem? (i := 143) rfl))) (notFace_of_selects (args := #[]) (mvT hZ (hw _ (List.mem_of_getElem? (i := 145) rfl)))) (mvT hZ (hw _ (List.mem_of_getElem? (i := 145) rfl))) (mvT hZ (hw _ (List.mem_of_getElem? (i := 144) rfl))) (by decide) (backOf (W := 0) (rm31 l Z a0 hw [] o6 bq T6.heap n0 ((Nat.le_trans Z0 (Nat.le_trans (Nat.le_trans (Nat.le_refl _) K5.1) K6.1))) Fo_) hZ (hw _ (List.mem_of_getElem? (i := 146) rfl)) (hw _ (List.mem_of_getElem? (i := 73) rfl)) (by decide) (by decide)) q9a q9c (g := (mkF m 150 #[.val (.int p1), .val (.int p2), .val (.int p3), .val (.int p4), .val (.int p5), .val (.int (own_n p1)), .val (.int (own_ch p2)), .val (.int (own_ch p3)), .val (.int (own_ch p4)), .val (.int (own_ch p5)), .val (.ref b5), .val (.int (Int32.ofNat jn)), .val (.ref o6)] [(.ref o6)])) rfl (by rw [hml]; rfl) (Steps.refl _) (argsL := []) (rest := []) (lenOf pd_23 rfl) rfl (by show 2 * 0 + _ ≤ _; exact Nat.le_of_eq rfl) (hb hby at_150) (fun _ _ => ⟨rfl, hh8, (by decide : 7 + 0 ≤ _), (by decide : 21 + 0 ≤ _)⟩)
      dsimp only [Pt.U, Pt.locs, Pt.cells, Pt.slots] at X9 l9 y9 z9 st9 hQ9
      subst l9 y9 z9
      obtain ⟨rfl, N9q, hh9⟩ := hQ9
      have N9 := Fr.app N8 N9q
      refine OwnEndsW.go st9 ?_
      show OwnEndsW _ _ _ _ _ _ _ (T9.setTop (mkF m 153 #[.val (.int p1), .val (.int p2), .val (.int p3), .val (.int p4), .val (.int p5), .val (.int (own_n p1)), .val (.int (own_ch p2)), .val (.int (own_ch p3)), .val (.int (own_ch p4)), .val (.int (own_ch p5)), .val (.ref b5), .val (.int (Int32.ofNat jn)), .val (.ref o6)] [(.ref bq)]))
      obtain ⟨_, _, _, _, _, -, -, Exq10, -⟩ := id Oq_
      obtain ⟨T10, X10, e10, st10⟩ := castY X9 hx hZ hown (hw _ (List.mem_of_getElem? (i := 8) rfl)) hh9 (Ins.self Exq10) (g := (mkF m 153 #[.val (.int p1), .val (.int p2), .val (.int p3), .val (.int p4), .val (.int p5), .val (.int (own_n p1)), .val (.int (own_ch p2)), .val (.int (own_ch p3)), .val (.int (own_ch p4)), .val (.int (own_ch p5)), .val (.ref b5), .val (.int (Int32.ofNat jn)), .val (.ref o6)] [(.ref bq)])) rfl rfl (hb hby at_153)
      refine OwnEndsW.st st10 ?_
      show OwnEndsW _ _ _ _ _ _ _ (T10.setTop (mkF m 156 #[.val (.int p1), .val (.int p2), .val (.int p3), .val (.int p4), .val (.int p5), .val (.int (own_n p1)), .val (.int (own_ch p2)), .val (.int (own_ch p3)), .val (.int (own_ch p4)), .val (.int (own_ch p5)), .val (.ref b5), .val (.int (Int32.ofNat jn)), .val (.ref o6)] [(.ref bq)]))
      refine OwnEndsW.st (fun t_ k_ => XS.iload X10.here hx rfl (hb hby at_156) rfl k_) ?_
      show OwnEndsW _ _ _ _ _ _ _ (T10.setTop (mkF m 158 #[.val (.int p1), .val (.int p2), .val (.int p3), .val (.int p4), .val (.int p5), .val (.int (own_n p1)), .val (.int (own_ch p2)), .val (.int (own_ch p3)), .val (.int (own_ch p4)), .val (.int (own_ch p5)), .val (.ref b5), .val (.int (Int32.ofNat jn)), .val (.ref o6)] [(.int (Int32.ofNat jn)), (.ref bq)]))
      refine OwnEndsW.st (fun t_ k_ => XS.iload X10.here hx rfl (hb hby at_158) rfl k_) ?_
      show OwnEndsW _ _ _ _ _ _ _ (T10.setTop (mkF m 160 #[.val (.int p1), .val (.int p2), .val (.int p3), .val (.int p4), .val (.int p5), .val (.int (own_n p1)), .val (.int (own_ch p2)), .val (.int (own_ch p3)), .val (.int (own_ch p4)), .val (.int (own_ch p5)), .val (.ref b5), .val (.int (Int32.ofNat jn)), .val (.ref o6)] [(.int (own_ch p2)), (.int (Int32.ofNat jn)), (.ref bq)]))
      refine OwnEndsW.st (fun t_ k_ => XS.iload X10.here hx rfl (hb hby at_160) rfl k_) ?_
      show OwnEndsW _ _ _ _ _ _ _ (T10.setTop (mkF m 162 #[.val (.int p1), .val (.int p2), .val (.int p3), .val (.int p4), .val (.int p5), .val (.int (own_n p1)), .val (.int (own_ch p2)), .val (.int (own_ch p3)), .val (.int (own_ch p4)), .val (.int (own_ch p5)), .val (.ref b5), .val (.int (Int32.ofNat jn)), .val (.ref o6)] [(.int (own_ch p3)), (.int (own_ch p2)), (.int (Int32.ofNat jn)), (.ref bq)]))
      refine OwnEndsW.st (fun t_ k_ => XS.iload X10.here hx rfl (hb hby at_162) rfl k_) ?_
      show OwnEndsW _ _ _ _ _ _ _ (T10.setTop (mkF m 164 #[.val (.int p1), .val (.int p2), .val (.int p3), .val (.int p4), .val (.int p5), .val (.int (own_n p1)), .val (.int (own_ch p2)), .val (.int (own_ch p3)), .val (.int (own_ch p4)), .val (.int (own_ch p5)), .val (.ref b5), .val (.int (Int32.ofNat jn)), .val (.ref o6)] [(.int (own_ch p4)), (.int (own_ch p3)), (.int (own_ch p2)), (.int (Int32.ofNat jn)), (.ref bq)]))
      refine OwnEndsW.st (fun t_ k_ => XS.iload X10.here hx rfl (hb hby at_164) rfl k_) ?_
      show OwnEndsW _ _ _ _ _ _ _ (T10.setTop (mkF m 166 #[.val (.int p1), .val (.int p2), .val (.int p3), .val (.int p4), .val (.int p5), .val (.int (own_n p1)), .val (.int (own_ch p2)), .val (.int (own_ch p3)), .val (.int (own_ch p4)), .val (.int (own_ch p5)), .val (.ref b5), .val (.int (Int32.ofNat jn)), .val (.ref o6)] [(.int (own_ch p5)), (.int (own_ch p4)), (.int (own_ch p3)), (.int (own_ch p2)), (.int (Int32.ofNat jn)), (.ref bq)]))
      have Zm10 : n0 ≤ T6.heap.size := (Nat.le_trans Z0 (Nat.le_trans (Nat.le_trans (Nat.le_refl _) K5.1) K6.1))
      obtain ⟨_, _, ⟨T11, L11, k11, n11⟩, -, X11p, hS11, hg11, ⟨Lc11, hQ11, l11, y11, z11⟩, st11⟩ := callSS X10 hx (y := (⟨"com/example/culpa/culpa/NamesFunctionPinLaw", "mk", "(ICCCC)Ljava/lang/String;"⟩ : MethodName)) hown (mvT hZ (hw _ (List.mem_of_getElem? (i := 5) rfl))) (mvT hZ (hw _ (List.mem_of_getElem? (i := 6) rfl))) (mvT hZ (hw _ (List.mem_of_getElem? (i := 3) rfl))) (mvT hZ (hw _ (List.mem_of_getElem? (i := 7) rfl))) (by decide) (backOfW (W := 1) (P := fun vm_ => Em Z vm_ T6.heap T6.heap.size) (rm2 l Z a0 hw [] (Int32.ofNat jn) (own_ch p2) (own_ch p3) (own_ch p4) (own_ch p5) cz T6.heap n0 Zm10 hq1 hq2 hq3 hq4 S_cs hcz ((O0.keep K5 all0).keep K6 all0) hEL) hZ (fun vm_ hv_ => Em.warm hEL hZ I6.top hv_) (hw _ (List.mem_of_getElem? (i := 7) rfl)) (hw _ (List.mem_of_getElem? (i := 3) rfl)) (by decide) (by decide)) (g := (mkF m 166 #[.val (.int p1), .val (.int p2), .val (.int p3), .val (.int p4), .val (.int p5), .val (.int (own_n p1)), .val (.int (own_ch p2)), .val (.int (own_ch p3)), .val (.int (own_ch p4)), .val (.int (own_ch p5)), .val (.ref b5), .val (.int (Int32.ofNat jn)), .val (.ref o6)] [(.int (own_ch p5)), (.int (own_ch p4)), (.int (own_ch p3)), (.int (own_ch p2)), (.int (Int32.ofNat jn)), (.ref bq)])) rfl (by rw [hml]; rfl) (argsL := [(.int (Int32.ofNat jn)), (.int (own_ch p2)), (.int (own_ch p3)), (.int (own_ch p4)), (.int (own_ch p5))]) (rest := [(.ref bq)]) (lenOf pd_21 rfl) rfl (by show 2 * 0 + _ ≤ _; exact Nat.le_of_eq rfl) (hb hby at_166) (fun _ _ => ⟨rfl, e10, (by decide : 7 + 4 ≤ _), (by decide : 21 + 12 ≤ _)⟩)
      dsimp only [Pt.U, Pt.locs, Pt.cells, Pt.slots] at X11p hS11 hg11 l11 y11 z11 st11 hQ11
      subst l11 y11 z11
      obtain ⟨b11, rfl, N11q, K11, gb11, Ob11, Iq11⟩ := hQ11
      have N11 := Fr.app N9 N11q
      obtain ⟨sb11, ev11, X11, F11, hZ, hown⟩ := own_reb F6 (by rw [e10]; exact (Nat.le_refl _)) hZ hown X11p hS11 hg11
      have I11 : Em Z sb11.vm T11.heap T11.heap.size := by rw [ev11]; exact Iq11
      refine OwnEndsW.go st11 ?_
      show OwnEndsW _ _ _ _ _ _ _ (T11.setTop (mkF m 169 #[.val (.int p1), .val (.int p2), .val (.int p3), .val (.int p4), .val (.int p5), .val (.int (own_n p1)), .val (.int (own_ch p2)), .val (.int (own_ch p3)), .val (.int (own_ch p4)), .val (.int (own_ch p5)), .val (.ref b5), .val (.int (Int32.ofNat jn)), .val (.ref o6)] [(.ref b11), (.ref bq)]))
      obtain ⟨_, _, _, _, _, -, -, Exr_, -⟩ := id (Oq_.keep K11 all0)
      obtain ⟨cq12, kq12, q12a, q12b, q12c⟩ := isOf hZ rfl (Exr_)
      obtain ⟨_, _, ⟨T12, L12, k12, n12⟩, -, X12, ⟨Lc12, hQ12, l12, y12, z12⟩, st12⟩ := X11.virtualBack hx (y := (⟨"java/lang/String", "equals", "(Ljava/lang/Object;)Z"⟩ : MethodName)) (z := (⟨"java/lang/String", "equals", "(Ljava/lang/Object;)Z"⟩ : MethodName)) hown (mvT hZ (hw _ (List.mem_of_getElem? (i := 147) rfl))) (mvT hZ (hw _ (List.mem_of_getElem? (i := 148) rfl))) (notFace_of_selects (args := #[]) (mvT hZ (hw _ (List.mem_of_getElem? (i := 150) rfl)))) (mvT hZ (hw _ (List.mem_of_getElem? (i := 150) rfl))) (mvT hZ (hw _ (List.mem_of_getElem? (i := 149) rfl))) (by decide) (eqO (W := 0) hZ heq (kI := 4) (hw _ (List.mem_of_getElem? (i := 9) rfl)) (Oq_.keep K11 all0) Ob11 (S_cs.ext (((O0.keep K5 all0).keep K6 all0).keep K11 all0).2) hcz (by decide) (by decide)) q12a q12c (g := (mkF m 169 #[.val (.int p1), .val (.int p2), .val (.int p3), .val (.int p4), .val (.int p5), .val (.int (own_n p1)), .val (.int (own_ch p2)), .val (.int (own_ch p3)), .val (.int (own_ch p4)), .val (.int (own_ch p5)), .val (.ref b5), .val (.int (Int32.ofNat jn)), .val (.ref o6)] [(.ref b11), (.ref bq)])) rfl (by rw [hml]; rfl) (Steps.refl _) (argsL := [(.ref b11)]) (rest := []) (lenOf pd_24 rfl) rfl (by show 2 * 0 + _ ≤ _; exact Nat.le_of_eq rfl) (hb hby at_169) (fun _ _ => ⟨rfl, rfl, (by decide : 11 + 0 ≤ _), (by decide : 33 + 0 ≤ _)⟩)
      dsimp only [Pt.U, Pt.locs, Pt.cells, Pt.slots] at X12 l12 y12 z12 st12 hQ12
      subst l12 y12 z12
      obtain ⟨hv12, rfl, he12⟩ := hQ12
      have N12 := Fr.app N11 (Fr.nil n0)
      rcases hv12 with ⟨rfl, hq12⟩ | ⟨rfl, hq12⟩
      · refine OwnEndsW.go st12 ?_
        show OwnEndsW _ _ _ _ _ _ _ (T12.setTop (mkF m 172 #[.val (.int p1), .val (.int p2), .val (.int p3), .val (.int p4), .val (.int p5), .val (.int (own_n p1)), .val (.int (own_ch p2)), .val (.int (own_ch p3)), .val (.int (own_ch p4)), .val (.int (own_ch p5)), .val (.ref b5), .val (.int (Int32.ofNat jn)), .val (.ref o6)] [(.int (1 : Int32))]))
        refine OwnEndsW.st (fun t_ k_ => XS.ifNo X12.here hx rfl (hb hby at_172) rfl ((if0 _ _).trans (feq ((by decide) : ¬ ((1 : Int32) = (0 : Int32)))).1) k_) ?_
        show OwnEndsW _ _ _ _ _ _ _ (T12.setTop (mkF m 175 #[.val (.int p1), .val (.int p2), .val (.int p3), .val (.int p4), .val (.int p5), .val (.int (own_n p1)), .val (.int (own_ch p2)), .val (.int (own_ch p3)), .val (.int (own_ch p4)), .val (.int (own_ch p5)), .val (.ref b5), .val (.int (Int32.ofNat jn)), .val (.ref o6)] []))
        refine OwnEndsW.st (fun t_ k_ => XS.iconst X12.here hx rfl (hb hby at_175) k_) ?_
        show OwnEndsW _ _ _ _ _ _ _ (T12.setTop (mkF m 176 #[.val (.int p1), .val (.int p2), .val (.int p3), .val (.int p4), .val (.int p5), .val (.int (own_n p1)), .val (.int (own_ch p2)), .val (.int (own_ch p3)), .val (.int (own_ch p4)), .val (.int (own_ch p5)), .val (.ref b5), .val (.int (Int32.ofNat jn)), .val (.ref o6)] [(.int (1 : Int32))]))
        refine OwnEndsW.st (fun t_ k_ => XS.goto X12.here hx rfl (pc0 := 176) (pc' := 180) rfl (hb hby at_176) (by decide) (by decide) k_) ?_
        show OwnEndsW _ _ _ _ _ _ _ (T12.setTop (mkF m 180 #[.val (.int p1), .val (.int p2), .val (.int p3), .val (.int p4), .val (.int p5), .val (.int (own_n p1)), .val (.int (own_ch p2)), .val (.int (own_ch p3)), .val (.int (own_ch p4)), .val (.int (own_ch p5)), .val (.ref b5), .val (.int (Int32.ofNat jn)), .val (.ref o6)] [(.int (1 : Int32))]))
        refine own_retWN (t := .boolean) F11 X12 (by rw [he12]; exact (Nat.le_refl _)) hx Bd.returns Bd.notSynchronized (by simp) (hb hby at_180) ?_ (by decide) (by decide)
        show Q0 Z p1 p2 p3 p4 p5 cz fm _ h0 n0 _ T12.vm T12.heap _
        rw [he12]
        exact ⟨rfl, N12⟩
      · exact absurd (htake jn hjl).symm hq12
  have J98 : ∀ vv : Int32, vv = own_l3 (own_n p1) (own_ch p2) (own_ch p3) (own_ch p4) → OwnEndsW p e below s (Q0 Z p1 p2 p3 p4 p5 cz fm em h0 n0) room_1.cells room_1.slots (T5.setTop (mkF m 98 #[.val (.int p1), .val (.int p2), .val (.int p3), .val (.int p4), .val (.int p5), .val (.int (own_n p1)), .val (.int (own_ch p2)), .val (.int (own_ch p3)), .val (.int (own_ch p4)), .val (.int (own_ch p5)), .val (.ref b5), .val (.int vv), .unset] [])) := by
    intro vv hvv
    refine OwnEndsW.st (fun t_ k_ => XS.iload X5.here hx rfl (hb hby at_98) rfl k_) ?_
    show OwnEndsW _ _ _ _ _ _ _ (T5.setTop (mkF m 100 #[.val (.int p1), .val (.int p2), .val (.int p3), .val (.int p4), .val (.int p5), .val (.int (own_n p1)), .val (.int (own_ch p2)), .val (.int (own_ch p3)), .val (.int (own_ch p4)), .val (.int (own_ch p5)), .val (.ref b5), .val (.int vv), .unset] [(.int (own_n p1))]))
    refine OwnEndsW.st (fun t_ k_ => XS.iconst X5.here hx rfl (hb hby at_100) k_) ?_
    show OwnEndsW _ _ _ _ _ _ _ (T5.setTop (mkF m 101 #[.val (.int p1), .val (.int p2), .val (.int p3), .val (.int p4), .val (.int p5), .val (.int (own_n p1)), .val (.int (own_ch p2)), .val (.int (own_ch p3)), .val (.int (own_ch p4)), .val (.int (own_ch p5)), .val (.ref b5), .val (.int vv), .unset] [(.int (3 : Int32)), (.int (own_n p1))]))
    by_cases hn3 : (3 : Int32) < (own_n p1)
    · refine OwnEndsW.st (fun t_ k_ => XS.icmpNo X5.here hx rfl (hb hby at_101) rfl (tlt (hn3 : (3 : Int32) < (own_n p1))).2.2.2 k_) ?_
      show OwnEndsW _ _ _ _ _ _ _ (T5.setTop (mkF m 104 #[.val (.int p1), .val (.int p2), .val (.int p3), .val (.int p4), .val (.int p5), .val (.int (own_n p1)), .val (.int (own_ch p2)), .val (.int (own_ch p3)), .val (.int (own_ch p4)), .val (.int (own_ch p5)), .val (.ref b5), .val (.int vv), .unset] []))
      refine OwnEndsW.st (fun t_ k_ => XS.iload X5.here hx rfl (hb hby at_104) rfl k_) ?_
      show OwnEndsW _ _ _ _ _ _ _ (T5.setTop (mkF m 106 #[.val (.int p1), .val (.int p2), .val (.int p3), .val (.int p4), .val (.int p5), .val (.int (own_n p1)), .val (.int (own_ch p2)), .val (.int (own_ch p3)), .val (.int (own_ch p4)), .val (.int (own_ch p5)), .val (.ref b5), .val (.int vv), .unset] [(.int (own_ch p5))]))
      refine OwnEndsW.st (fun t_ k_ => XS.bipush X5.here hx rfl (hb hby at_106) k_) ?_
      show OwnEndsW _ _ _ _ _ _ _ (T5.setTop (mkF m 108 #[.val (.int p1), .val (.int p2), .val (.int p3), .val (.int p4), .val (.int p5), .val (.int (own_n p1)), .val (.int (own_ch p2)), .val (.int (own_ch p3)), .val (.int (own_ch p4)), .val (.int (own_ch p5)), .val (.ref b5), .val (.int vv), .unset] [(.int (58 : Int32)), (.int (own_ch p5))]))
      by_cases hk3 : (own_ch p5) = (58 : Int32)
      · refine OwnEndsW.st (fun t_ k_ => XS.icmpNo X5.here hx rfl (hb hby at_108) rfl (teq (hk3 : (own_ch p5) = (58 : Int32))).2 k_) ?_
        show OwnEndsW _ _ _ _ _ _ _ (T5.setTop (mkF m 111 #[.val (.int p1), .val (.int p2), .val (.int p3), .val (.int p4), .val (.int p5), .val (.int (own_n p1)), .val (.int (own_ch p2)), .val (.int (own_ch p3)), .val (.int (own_ch p4)), .val (.int (own_ch p5)), .val (.ref b5), .val (.int vv), .unset] []))
        refine OwnEndsW.st (fun t_ k_ => XS.iconst X5.here hx rfl (hb hby at_111) k_) ?_
        show OwnEndsW _ _ _ _ _ _ _ (T5.setTop (mkF m 112 #[.val (.int p1), .val (.int p2), .val (.int p3), .val (.int p4), .val (.int p5), .val (.int (own_n p1)), .val (.int (own_ch p2)), .val (.int (own_ch p3)), .val (.int (own_ch p4)), .val (.int (own_ch p5)), .val (.ref b5), .val (.int vv), .unset] [(.int (3 : Int32))]))
        refine OwnEndsW.st (fun t_ k_ => XS.istore X5.here hx rfl (hb hby at_112) rfl (l' := #[.val (.int p1), .val (.int p2), .val (.int p3), .val (.int p4), .val (.int p5), .val (.int (own_n p1)), .val (.int (own_ch p2)), .val (.int (own_ch p3)), .val (.int (own_ch p4)), .val (.int (own_ch p5)), .val (.ref b5), .val (.int (3 : Int32)), .unset]) rfl k_) ?_
        show OwnEndsW _ _ _ _ _ _ _ (T5.setTop (mkF m 114 #[.val (.int p1), .val (.int p2), .val (.int p3), .val (.int p4), .val (.int p5), .val (.int (own_n p1)), .val (.int (own_ch p2)), .val (.int (own_ch p3)), .val (.int (own_ch p4)), .val (.int (own_ch p5)), .val (.ref b5), .val (.int (3 : Int32)), .unset] []))
        exact J114 (3 : Int32) (by first | exact (if_pos ⟨hn3, hk3⟩).symm | exact hvv.trans (if_neg (fun q_ => hn3 q_.1)).symm | exact hvv.trans (if_neg (fun q_ => hk3 q_.2)).symm)
      · refine OwnEndsW.st (fun t_ k_ => XS.icmpYes X5.here hx rfl (pc0 := 108) (pc' := 114) rfl (hb hby at_108) rfl (feq (hk3 : ¬ ((own_ch p5) = (58 : Int32)))).2 (by decide) (by decide) k_) ?_
        show OwnEndsW _ _ _ _ _ _ _ (T5.setTop (mkF m 114 #[.val (.int p1), .val (.int p2), .val (.int p3), .val (.int p4), .val (.int p5), .val (.int (own_n p1)), .val (.int (own_ch p2)), .val (.int (own_ch p3)), .val (.int (own_ch p4)), .val (.int (own_ch p5)), .val (.ref b5), .val (.int vv), .unset] []))
        exact J114 vv (by first | exact (if_pos ⟨hn3, hk3⟩).symm | exact hvv.trans (if_neg (fun q_ => hn3 q_.1)).symm | exact hvv.trans (if_neg (fun q_ => hk3 q_.2)).symm)
    · refine OwnEndsW.st (fun t_ k_ => XS.icmpYes X5.here hx rfl (pc0 := 101) (pc' := 114) rfl (hb hby at_101) rfl (flt (hn3 : ¬ ((3 : Int32) < (own_n p1)))).2.2.2 (by decide) (by decide) k_) ?_
      show OwnEndsW _ _ _ _ _ _ _ (T5.setTop (mkF m 114 #[.val (.int p1), .val (.int p2), .val (.int p3), .val (.int p4), .val (.int p5), .val (.int (own_n p1)), .val (.int (own_ch p2)), .val (.int (own_ch p3)), .val (.int (own_ch p4)), .val (.int (own_ch p5)), .val (.ref b5), .val (.int vv), .unset] []))
      exact J114 vv (by first | exact (if_pos ⟨hn3, hk3⟩).symm | exact hvv.trans (if_neg (fun q_ => hn3 q_.1)).symm | exact hvv.trans (if_neg (fun q_ => hk3 q_.2)).symm)
  have J82 : ∀ vv : Int32, vv = own_l2 (own_n p1) (own_ch p2) (own_ch p3) → OwnEndsW p e below s (Q0 Z p1 p2 p3 p4 p5 cz fm em h0 n0) room_1.cells room_1.slots (T5.setTop (mkF m 82 #[.val (.int p1), .val (.int p2), .val (.int p3), .val (.int p4), .val (.int p5), .val (.int (own_n p1)), .val (.int (own_ch p2)), .val (.int (own_ch p3)), .val (.int (own_ch p4)), .val (.int (own_ch p5)), .val (.ref b5), .val (.int vv), .unset] [])) := by
    intro vv hvv
    refine OwnEndsW.st (fun t_ k_ => XS.iload X5.here hx rfl (hb hby at_82) rfl k_) ?_
    show OwnEndsW _ _ _ _ _ _ _ (T5.setTop (mkF m 84 #[.val (.int p1), .val (.int p2), .val (.int p3), .val (.int p4), .val (.int p5), .val (.int (own_n p1)), .val (.int (own_ch p2)), .val (.int (own_ch p3)), .val (.int (own_ch p4)), .val (.int (own_ch p5)), .val (.ref b5), .val (.int vv), .unset] [(.int (own_n p1))]))
    refine OwnEndsW.st (fun t_ k_ => XS.iconst X5.here hx rfl (hb hby at_84) k_) ?_
    show OwnEndsW _ _ _ _ _ _ _ (T5.setTop (mkF m 85 #[.val (.int p1), .val (.int p2), .val (.int p3), .val (.int p4), .val (.int p5), .val (.int (own_n p1)), .val (.int (own_ch p2)), .val (.int (own_ch p3)), .val (.int (own_ch p4)), .val (.int (own_ch p5)), .val (.ref b5), .val (.int vv), .unset] [(.int (2 : Int32)), (.int (own_n p1))]))
    by_cases hn2 : (2 : Int32) < (own_n p1)
    · refine OwnEndsW.st (fun t_ k_ => XS.icmpNo X5.here hx rfl (hb hby at_85) rfl (tlt (hn2 : (2 : Int32) < (own_n p1))).2.2.2 k_) ?_
      show OwnEndsW _ _ _ _ _ _ _ (T5.setTop (mkF m 88 #[.val (.int p1), .val (.int p2), .val (.int p3), .val (.int p4), .val (.int p5), .val (.int (own_n p1)), .val (.int (own_ch p2)), .val (.int (own_ch p3)), .val (.int (own_ch p4)), .val (.int (own_ch p5)), .val (.ref b5), .val (.int vv), .unset] []))
      refine OwnEndsW.st (fun t_ k_ => XS.iload X5.here hx rfl (hb hby at_88) rfl k_) ?_
      show OwnEndsW _ _ _ _ _ _ _ (T5.setTop (mkF m 90 #[.val (.int p1), .val (.int p2), .val (.int p3), .val (.int p4), .val (.int p5), .val (.int (own_n p1)), .val (.int (own_ch p2)), .val (.int (own_ch p3)), .val (.int (own_ch p4)), .val (.int (own_ch p5)), .val (.ref b5), .val (.int vv), .unset] [(.int (own_ch p4))]))
      refine OwnEndsW.st (fun t_ k_ => XS.bipush X5.here hx rfl (hb hby at_90) k_) ?_
      show OwnEndsW _ _ _ _ _ _ _ (T5.setTop (mkF m 92 #[.val (.int p1), .val (.int p2), .val (.int p3), .val (.int p4), .val (.int p5), .val (.int (own_n p1)), .val (.int (own_ch p2)), .val (.int (own_ch p3)), .val (.int (own_ch p4)), .val (.int (own_ch p5)), .val (.ref b5), .val (.int vv), .unset] [(.int (58 : Int32)), (.int (own_ch p4))]))
      by_cases hk2 : (own_ch p4) = (58 : Int32)
      · refine OwnEndsW.st (fun t_ k_ => XS.icmpNo X5.here hx rfl (hb hby at_92) rfl (teq (hk2 : (own_ch p4) = (58 : Int32))).2 k_) ?_
        show OwnEndsW _ _ _ _ _ _ _ (T5.setTop (mkF m 95 #[.val (.int p1), .val (.int p2), .val (.int p3), .val (.int p4), .val (.int p5), .val (.int (own_n p1)), .val (.int (own_ch p2)), .val (.int (own_ch p3)), .val (.int (own_ch p4)), .val (.int (own_ch p5)), .val (.ref b5), .val (.int vv), .unset] []))
        refine OwnEndsW.st (fun t_ k_ => XS.iconst X5.here hx rfl (hb hby at_95) k_) ?_
        show OwnEndsW _ _ _ _ _ _ _ (T5.setTop (mkF m 96 #[.val (.int p1), .val (.int p2), .val (.int p3), .val (.int p4), .val (.int p5), .val (.int (own_n p1)), .val (.int (own_ch p2)), .val (.int (own_ch p3)), .val (.int (own_ch p4)), .val (.int (own_ch p5)), .val (.ref b5), .val (.int vv), .unset] [(.int (2 : Int32))]))
        refine OwnEndsW.st (fun t_ k_ => XS.istore X5.here hx rfl (hb hby at_96) rfl (l' := #[.val (.int p1), .val (.int p2), .val (.int p3), .val (.int p4), .val (.int p5), .val (.int (own_n p1)), .val (.int (own_ch p2)), .val (.int (own_ch p3)), .val (.int (own_ch p4)), .val (.int (own_ch p5)), .val (.ref b5), .val (.int (2 : Int32)), .unset]) rfl k_) ?_
        show OwnEndsW _ _ _ _ _ _ _ (T5.setTop (mkF m 98 #[.val (.int p1), .val (.int p2), .val (.int p3), .val (.int p4), .val (.int p5), .val (.int (own_n p1)), .val (.int (own_ch p2)), .val (.int (own_ch p3)), .val (.int (own_ch p4)), .val (.int (own_ch p5)), .val (.ref b5), .val (.int (2 : Int32)), .unset] []))
        exact J98 (2 : Int32) (by first | exact (if_pos ⟨hn2, hk2⟩).symm | exact hvv.trans (if_neg (fun q_ => hn2 q_.1)).symm | exact hvv.trans (if_neg (fun q_ => hk2 q_.2)).symm)
      · refine OwnEndsW.st (fun t_ k_ => XS.icmpYes X5.here hx rfl (pc0 := 92) (pc' := 98) rfl (hb hby at_92) rfl (feq (hk2 : ¬ ((own_ch p4) = (58 : Int32)))).2 (by decide) (by decide) k_) ?_
        show OwnEndsW _ _ _ _ _ _ _ (T5.setTop (mkF m 98 #[.val (.int p1), .val (.int p2), .val (.int p3), .val (.int p4), .val (.int p5), .val (.int (own_n p1)), .val (.int (own_ch p2)), .val (.int (own_ch p3)), .val (.int (own_ch p4)), .val (.int (own_ch p5)), .val (.ref b5), .val (.int vv), .unset] []))
        exact J98 vv (by first | exact (if_pos ⟨hn2, hk2⟩).symm | exact hvv.trans (if_neg (fun q_ => hn2 q_.1)).symm | exact hvv.trans (if_neg (fun q_ => hk2 q_.2)).symm)
    · refine OwnEndsW.st (fun t_ k_ => XS.icmpYes X5.here hx rfl (pc0 := 85) (pc' := 98) rfl (hb hby at_85) rfl (flt (hn2 : ¬ ((2 : Int32) < (own_n p1)))).2.2.2 (by decide) (by decide) k_) ?_
      show OwnEndsW _ _ _ _ _ _ _ (T5.setTop (mkF m 98 #[.val (.int p1), .val (.int p2), .val (.int p3), .val (.int p4), .val (.int p5), .val (.int (own_n p1)), .val (.int (own_ch p2)), .val (.int (own_ch p3)), .val (.int (own_ch p4)), .val (.int (own_ch p5)), .val (.ref b5), .val (.int vv), .unset] []))
      exact J98 vv (by first | exact (if_pos ⟨hn2, hk2⟩).symm | exact hvv.trans (if_neg (fun q_ => hn2 q_.1)).symm | exact hvv.trans (if_neg (fun q_ => hk2 q_.2)).symm)
  have J66 : ∀ vv : Int32, vv = own_l1 (own_n p1) (own_ch p2) → OwnEndsW p e below s (Q0 Z p1 p2 p3 p4 p5 cz fm em h0 n0) room_1.cells room_1.slots (T5.setTop (mkF m 66 #[.val (.int p1), .val (.int p2), .val (.int p3), .val (.int p4), .val (.int p5), .val (.int (own_n p1)), .val (.int (own_ch p2)), .val (.int (own_ch p3)), .val (.int (own_ch p4)), .val (.int (own_ch p5)), .val (.ref b5), .val (.int vv), .unset] [])) := by
    intro vv hvv
    refine OwnEndsW.st (fun t_ k_ => XS.iload X5.here hx rfl (hb hby at_66) rfl k_) ?_
    show OwnEndsW _ _ _ _ _ _ _ (T5.setTop (mkF m 68 #[.val (.int p1), .val (.int p2), .val (.int p3), .val (.int p4), .val (.int p5), .val (.int (own_n p1)), .val (.int (own_ch p2)), .val (.int (own_ch p3)), .val (.int (own_ch p4)), .val (.int (own_ch p5)), .val (.ref b5), .val (.int vv), .unset] [(.int (own_n p1))]))
    refine OwnEndsW.st (fun t_ k_ => XS.iconst X5.here hx rfl (hb hby at_68) k_) ?_
    show OwnEndsW _ _ _ _ _ _ _ (T5.setTop (mkF m 69 #[.val (.int p1), .val (.int p2), .val (.int p3), .val (.int p4), .val (.int p5), .val (.int (own_n p1)), .val (.int (own_ch p2)), .val (.int (own_ch p3)), .val (.int (own_ch p4)), .val (.int (own_ch p5)), .val (.ref b5), .val (.int vv), .unset] [(.int (1 : Int32)), (.int (own_n p1))]))
    by_cases hn1 : (1 : Int32) < (own_n p1)
    · refine OwnEndsW.st (fun t_ k_ => XS.icmpNo X5.here hx rfl (hb hby at_69) rfl (tlt (hn1 : (1 : Int32) < (own_n p1))).2.2.2 k_) ?_
      show OwnEndsW _ _ _ _ _ _ _ (T5.setTop (mkF m 72 #[.val (.int p1), .val (.int p2), .val (.int p3), .val (.int p4), .val (.int p5), .val (.int (own_n p1)), .val (.int (own_ch p2)), .val (.int (own_ch p3)), .val (.int (own_ch p4)), .val (.int (own_ch p5)), .val (.ref b5), .val (.int vv), .unset] []))
      refine OwnEndsW.st (fun t_ k_ => XS.iload X5.here hx rfl (hb hby at_72) rfl k_) ?_
      show OwnEndsW _ _ _ _ _ _ _ (T5.setTop (mkF m 74 #[.val (.int p1), .val (.int p2), .val (.int p3), .val (.int p4), .val (.int p5), .val (.int (own_n p1)), .val (.int (own_ch p2)), .val (.int (own_ch p3)), .val (.int (own_ch p4)), .val (.int (own_ch p5)), .val (.ref b5), .val (.int vv), .unset] [(.int (own_ch p3))]))
      refine OwnEndsW.st (fun t_ k_ => XS.bipush X5.here hx rfl (hb hby at_74) k_) ?_
      show OwnEndsW _ _ _ _ _ _ _ (T5.setTop (mkF m 76 #[.val (.int p1), .val (.int p2), .val (.int p3), .val (.int p4), .val (.int p5), .val (.int (own_n p1)), .val (.int (own_ch p2)), .val (.int (own_ch p3)), .val (.int (own_ch p4)), .val (.int (own_ch p5)), .val (.ref b5), .val (.int vv), .unset] [(.int (58 : Int32)), (.int (own_ch p3))]))
      by_cases hk1 : (own_ch p3) = (58 : Int32)
      · refine OwnEndsW.st (fun t_ k_ => XS.icmpNo X5.here hx rfl (hb hby at_76) rfl (teq (hk1 : (own_ch p3) = (58 : Int32))).2 k_) ?_
        show OwnEndsW _ _ _ _ _ _ _ (T5.setTop (mkF m 79 #[.val (.int p1), .val (.int p2), .val (.int p3), .val (.int p4), .val (.int p5), .val (.int (own_n p1)), .val (.int (own_ch p2)), .val (.int (own_ch p3)), .val (.int (own_ch p4)), .val (.int (own_ch p5)), .val (.ref b5), .val (.int vv), .unset] []))
        refine OwnEndsW.st (fun t_ k_ => XS.iconst X5.here hx rfl (hb hby at_79) k_) ?_
        show OwnEndsW _ _ _ _ _ _ _ (T5.setTop (mkF m 80 #[.val (.int p1), .val (.int p2), .val (.int p3), .val (.int p4), .val (.int p5), .val (.int (own_n p1)), .val (.int (own_ch p2)), .val (.int (own_ch p3)), .val (.int (own_ch p4)), .val (.int (own_ch p5)), .val (.ref b5), .val (.int vv), .unset] [(.int (1 : Int32))]))
        refine OwnEndsW.st (fun t_ k_ => XS.istore X5.here hx rfl (hb hby at_80) rfl (l' := #[.val (.int p1), .val (.int p2), .val (.int p3), .val (.int p4), .val (.int p5), .val (.int (own_n p1)), .val (.int (own_ch p2)), .val (.int (own_ch p3)), .val (.int (own_ch p4)), .val (.int (own_ch p5)), .val (.ref b5), .val (.int (1 : Int32)), .unset]) rfl k_) ?_
        show OwnEndsW _ _ _ _ _ _ _ (T5.setTop (mkF m 82 #[.val (.int p1), .val (.int p2), .val (.int p3), .val (.int p4), .val (.int p5), .val (.int (own_n p1)), .val (.int (own_ch p2)), .val (.int (own_ch p3)), .val (.int (own_ch p4)), .val (.int (own_ch p5)), .val (.ref b5), .val (.int (1 : Int32)), .unset] []))
        exact J82 (1 : Int32) (by first | exact (if_pos ⟨hn1, hk1⟩).symm | exact hvv.trans (if_neg (fun q_ => hn1 q_.1)).symm | exact hvv.trans (if_neg (fun q_ => hk1 q_.2)).symm)
      · refine OwnEndsW.st (fun t_ k_ => XS.icmpYes X5.here hx rfl (pc0 := 76) (pc' := 82) rfl (hb hby at_76) rfl (feq (hk1 : ¬ ((own_ch p3) = (58 : Int32)))).2 (by decide) (by decide) k_) ?_
        show OwnEndsW _ _ _ _ _ _ _ (T5.setTop (mkF m 82 #[.val (.int p1), .val (.int p2), .val (.int p3), .val (.int p4), .val (.int p5), .val (.int (own_n p1)), .val (.int (own_ch p2)), .val (.int (own_ch p3)), .val (.int (own_ch p4)), .val (.int (own_ch p5)), .val (.ref b5), .val (.int vv), .unset] []))
        exact J82 vv (by first | exact (if_pos ⟨hn1, hk1⟩).symm | exact hvv.trans (if_neg (fun q_ => hn1 q_.1)).symm | exact hvv.trans (if_neg (fun q_ => hk1 q_.2)).symm)
    · refine OwnEndsW.st (fun t_ k_ => XS.icmpYes X5.here hx rfl (pc0 := 69) (pc' := 82) rfl (hb hby at_69) rfl (flt (hn1 : ¬ ((1 : Int32) < (own_n p1)))).2.2.2 (by decide) (by decide) k_) ?_
      show OwnEndsW _ _ _ _ _ _ _ (T5.setTop (mkF m 82 #[.val (.int p1), .val (.int p2), .val (.int p3), .val (.int p4), .val (.int p5), .val (.int (own_n p1)), .val (.int (own_ch p2)), .val (.int (own_ch p3)), .val (.int (own_ch p4)), .val (.int (own_ch p5)), .val (.ref b5), .val (.int vv), .unset] []))
      exact J82 vv (by first | exact (if_pos ⟨hn1, hk1⟩).symm | exact hvv.trans (if_neg (fun q_ => hn1 q_.1)).symm | exact hvv.trans (if_neg (fun q_ => hk1 q_.2)).symm)
  refine OwnEndsW.st (fun t_ k_ => XS.iconst X5.here hx rfl (hb hby at_48) k_) ?_
  show OwnEndsW _ _ _ _ _ _ _ (T5.setTop (mkF m 49 #[.val (.int p1), .val (.int p2), .val (.int p3), .val (.int p4), .val (.int p5), .val (.int (own_n p1)), .val (.int (own_ch p2)), .val (.int (own_ch p3)), .val (.int (own_ch p4)), .val (.int (own_ch p5)), .val (.ref b5), .unset, .unset] [(.int (-1 : Int32))]))
  refine OwnEndsW.st (fun t_ k_ => XS.istore X5.here hx rfl (hb hby at_49) rfl (l' := #[.val (.int p1), .val (.int p2), .val (.int p3), .val (.int p4), .val (.int p5), .val (.int (own_n p1)), .val (.int (own_ch p2)), .val (.int (own_ch p3)), .val (.int (own_ch p4)), .val (.int (own_ch p5)), .val (.ref b5), .val (.int (-1 : Int32)), .unset]) rfl k_) ?_
  show OwnEndsW _ _ _ _ _ _ _ (T5.setTop (mkF m 51 #[.val (.int p1), .val (.int p2), .val (.int p3), .val (.int p4), .val (.int p5), .val (.int (own_n p1)), .val (.int (own_ch p2)), .val (.int (own_ch p3)), .val (.int (own_ch p4)), .val (.int (own_ch p5)), .val (.ref b5), .val (.int (-1 : Int32)), .unset] []))
  refine OwnEndsW.st (fun t_ k_ => XS.iload X5.here hx rfl (hb hby at_51) rfl k_) ?_
  show OwnEndsW _ _ _ _ _ _ _ (T5.setTop (mkF m 53 #[.val (.int p1), .val (.int p2), .val (.int p3), .val (.int p4), .val (.int p5), .val (.int (own_n p1)), .val (.int (own_ch p2)), .val (.int (own_ch p3)), .val (.int (own_ch p4)), .val (.int (own_ch p5)), .val (.ref b5), .val (.int (-1 : Int32)), .unset] [(.int (own_n p1))]))
  by_cases hn0 : (0 : Int32) < (own_n p1)
  · refine OwnEndsW.st (fun t_ k_ => XS.ifNo X5.here hx rfl (hb hby at_53) rfl ((if0 _ _).trans (tlt (hn0 : (0 : Int32) < (own_n p1))).2.2.2) k_) ?_
    show OwnEndsW _ _ _ _ _ _ _ (T5.setTop (mkF m 56 #[.val (.int p1), .val (.int p2), .val (.int p3), .val (.int p4), .val (.int p5), .val (.int (own_n p1)), .val (.int (own_ch p2)), .val (.int (own_ch p3)), .val (.int (own_ch p4)), .val (.int (own_ch p5)), .val (.ref b5), .val (.int (-1 : Int32)), .unset] []))
    refine OwnEndsW.st (fun t_ k_ => XS.iload X5.here hx rfl (hb hby at_56) rfl k_) ?_
    show OwnEndsW _ _ _ _ _ _ _ (T5.setTop (mkF m 58 #[.val (.int p1), .val (.int p2), .val (.int p3), .val (.int p4), .val (.int p5), .val (.int (own_n p1)), .val (.int (own_ch p2)), .val (.int (own_ch p3)), .val (.int (own_ch p4)), .val (.int (own_ch p5)), .val (.ref b5), .val (.int (-1 : Int32)), .unset] [(.int (own_ch p2))]))
    refine OwnEndsW.st (fun t_ k_ => XS.bipush X5.here hx rfl (hb hby at_58) k_) ?_
    show OwnEndsW _ _ _ _ _ _ _ (T5.setTop (mkF m 60 #[.val (.int p1), .val (.int p2), .val (.int p3), .val (.int p4), .val (.int p5), .val (.int (own_n p1)), .val (.int (own_ch p2)), .val (.int (own_ch p3)), .val (.int (own_ch p4)), .val (.int (own_ch p5)), .val (.ref b5), .val (.int (-1 : Int32)), .unset] [(.int (58 : Int32)), (.int (own_ch p2))]))
    by_cases hk0 : (own_ch p2) = (58 : Int32)
    · refine OwnEndsW.st (fun t_ k_ => XS.icmpNo X5.here hx rfl (hb hby at_60) rfl (teq (hk0 : (own_ch p2) = (58 : Int32))).2 k_) ?_
      show OwnEndsW _ _ _ _ _ _ _ (T5.setTop (mkF m 63 #[.val (.int p1), .val (.int p2), .val (.int p3), .val (.int p4), .val (.int p5), .val (.int (own_n p1)), .val (.int (own_ch p2)), .val (.int (own_ch p3)), .val (.int (own_ch p4)), .val (.int (own_ch p5)), .val (.ref b5), .val (.int (-1 : Int32)), .unset] []))
      refine OwnEndsW.st (fun t_ k_ => XS.iconst X5.here hx rfl (hb hby at_63) k_) ?_
      show OwnEndsW _ _ _ _ _ _ _ (T5.setTop (mkF m 64 #[.val (.int p1), .val (.int p2), .val (.int p3), .val (.int p4), .val (.int p5), .val (.int (own_n p1)), .val (.int (own_ch p2)), .val (.int (own_ch p3)), .val (.int (own_ch p4)), .val (.int (own_ch p5)), .val (.ref b5), .val (.int (-1 : Int32)), .unset] [(.int (0 : Int32))]))
      refine OwnEndsW.st (fun t_ k_ => XS.istore X5.here hx rfl (hb hby at_64) rfl (l' := #[.val (.int p1), .val (.int p2), .val (.int p3), .val (.int p4), .val (.int p5), .val (.int (own_n p1)), .val (.int (own_ch p2)), .val (.int (own_ch p3)), .val (.int (own_ch p4)), .val (.int (own_ch p5)), .val (.ref b5), .val (.int (0 : Int32)), .unset]) rfl k_) ?_
      show OwnEndsW _ _ _ _ _ _ _ (T5.setTop (mkF m 66 #[.val (.int p1), .val (.int p2), .val (.int p3), .val (.int p4), .val (.int p5), .val (.int (own_n p1)), .val (.int (own_ch p2)), .val (.int (own_ch p3)), .val (.int (own_ch p4)), .val (.int (own_ch p5)), .val (.ref b5), .val (.int (0 : Int32)), .unset] []))
      exact J66 (0 : Int32) (by first | exact (if_pos ⟨hn0, hk0⟩).symm | exact (if_neg (fun q_ => hn0 q_.1)).symm | exact (if_neg (fun q_ => hk0 q_.2)).symm)
    · refine OwnEndsW.st (fun t_ k_ => XS.icmpYes X5.here hx rfl (pc0 := 60) (pc' := 66) rfl (hb hby at_60) rfl (feq (hk0 : ¬ ((own_ch p2) = (58 : Int32)))).2 (by decide) (by decide) k_) ?_
      show OwnEndsW _ _ _ _ _ _ _ (T5.setTop (mkF m 66 #[.val (.int p1), .val (.int p2), .val (.int p3), .val (.int p4), .val (.int p5), .val (.int (own_n p1)), .val (.int (own_ch p2)), .val (.int (own_ch p3)), .val (.int (own_ch p4)), .val (.int (own_ch p5)), .val (.ref b5), .val (.int (-1 : Int32)), .unset] []))
      exact J66 (-1 : Int32) (by first | exact (if_pos ⟨hn0, hk0⟩).symm | exact (if_neg (fun q_ => hn0 q_.1)).symm | exact (if_neg (fun q_ => hk0 q_.2)).symm)
  · refine OwnEndsW.st (fun t_ k_ => XS.ifYes X5.here hx rfl (pc0 := 53) (pc' := 66) rfl (hb hby at_53) rfl ((if0 _ _).trans (flt (hn0 : ¬ ((0 : Int32) < (own_n p1)))).2.2.2) (by decide) (by decide) k_) ?_
    show OwnEndsW _ _ _ _ _ _ _ (T5.setTop (mkF m 66 #[.val (.int p1), .val (.int p2), .val (.int p3), .val (.int p4), .val (.int p5), .val (.int (own_n p1)), .val (.int (own_ch p2)), .val (.int (own_ch p3)), .val (.int (own_ch p4)), .val (.int (own_ch p5)), .val (.ref b5), .val (.int (-1 : Int32)), .unset] []))
    exact J66 (-1 : Int32) (by first | exact (if_pos ⟨hn0, hk0⟩).symm | exact (if_neg (fun q_ => hn0 q_.1)).symm | exact (if_neg (fun q_ => hk0 q_.2)).symm)
set_option maxRecDepth 65536 in
set_option maxHeartbeats 40000000 in
theorem comes_1 {Post : Tables → Env → Array Value → State → Outcome → State → Prop} (hpost : ∀ tb e args s v u, (limb_1_1.after args s (.returned v) u = true ∧ limb_1_2.after args s (.returned v) u = true ∧ True) → ReturnedEndW s (.returned v) u (Jvm.fieldLocs frame_1_writes args s ++ Jvm.arrayLocs frame_1_arrays args s ++ Jvm.staticLocs frame_1_statics s) 32 2240 → Post tb e args s (.returned v) u) :
    ArmFor flags0 classFile x code maxLocals ret World_1 tables_1 room_1 Calls_1 rest_1 Pre_1 Post := by
  intro l hfl _ _ p e ha hc hk s m args below hf hA hF happ hP
  obtain ⟨hcalls, hrest, hpre⟩ := hP
  obtain ⟨-, -, -, hnamed, -, -, -, hat⟩ := (Spec.applies_iff hf).mp happ
  obtain ⟨hg, hn⟩ := and_e (Cond.before_iff.mp (show (Jvm.Cond.and given_1 narrow_1).before args s = true from hpre))
  obtain ⟨hcount, ga0⟩ := and_e hg
  obtain ⟨gb0, ga1⟩ := and_e ga0
  obtain ⟨gb1, ga2⟩ := and_e ga1
  obtain ⟨gb2, ga3⟩ := and_e ga2
  obtain ⟨gb3, ga4⟩ := and_e ga3
  obtain ⟨w0, w1, w2, w3, w4, rfl⟩ : ∃ w0 w1 w2 w3 w4 : Value, args = #[w0, w1, w2, w3, w4] := by
    have hs : args.size = 5 := by simpa [Cond.value, given_1] using hcount
    obtain ⟨L⟩ := args
    match L, hs with
    | [w0, w1, w2, w3, w4], _ => exact ⟨w0, w1, w2, w3, w4, rfl⟩
  have hw := fun d (hd : d ∈ tables_1) => atoms_spec (ws := Jvm.Cond.code x code maxLocals ret :: tables_1) hat d (List.mem_cons_of_mem _ hd)
  have hfit : Fit s := fun {y c} hc i hi => by
    obtain ⟨ha, rfl⟩ := Array.getElem?_eq_some_iff.mp hc
    have q := List.all_eq_true.mp ((Array.all_eq_true_iff_forall_mem.mp hF) _ (Array.getElem_mem ha)) i (List.mem_range.mpr hi)
    simpa [Array.getElem?_eq_getElem hi] using q
  obtain ⟨hsets, hown0⟩ := atoms_of _ (rest_1_c_eq ▸ (show rest_1_c.before _ s = true from hrest))
  have hr0 := Cond.before_iff.mp hown0
  obtain ⟨i0, ei0⟩ := is_v gb0
  obtain rfl : w0 = (.int i0) := Option.some.inj ei0
  obtain ⟨i1, ei1⟩ := is_v gb1
  obtain rfl : w1 = (.int i1) := Option.some.inj ei1
  obtain ⟨i2, ei2⟩ := is_v gb2
  obtain rfl : w2 = (.int i2) := Option.some.inj ei2
  obtain ⟨i3, ei3⟩ := is_v gb3
  obtain rfl : w3 = (.int i3) := Option.some.inj ei3
  obtain ⟨i4, ei4⟩ := is_v ga4
  obtain rfl : w4 = (.int i4) := Option.some.inj ei4
  obtain ⟨em, v_em⟩ := exa_v (Cond.before_iff.mp (hsets _ (List.mem_of_getElem? (i := 11) rfl)))
  have S_em := Sta.start v_em (Or.inl (hsets _ (List.mem_of_getElem? (i := 10) rfl)))
  have E_em := Exa.start v_em (Cond.before_iff.mp (hsets _ (List.mem_of_getElem? (i := 11) rfl)))
  have F_em := Fld.start ((fld_at v_em).symm.trans (null_v (Cond.before_iff.mp (hsets _ (List.mem_of_getElem? (i := 12) rfl)))))
  obtain ⟨cz, ecz⟩ := is_v (Cond.before_iff.mp (hsets _ (List.mem_of_getElem? (i := 1) rfl)))
  have S_cs := Sta.start ecz (Or.inl (hsets _ (List.mem_of_getElem? (i := 0) rfl)))
  have hcz : ¬ cz = 0 := own_not0 ecz (Cond.before_iff.mp (hsets _ (List.mem_of_getElem? (i := 2) rfl)))
  obtain ⟨fm, v_fm, hfm⟩ := isR_v (Cond.before_iff.mp (hsets _ (List.mem_of_getElem? (i := 8) rfl)))
  have S_si := Sta.start v_fm (Or.inl (hsets _ (List.mem_of_getElem? (i := 7) rfl)))
  have hEL : EW s _ consts_1 := EW.cons (hw _ (List.mem_of_getElem? (i := 22) rfl)) (by simp) (EW.cons (hw _ (List.mem_of_getElem? (i := 156) rfl)) (by simp) EW.nil)
  have CH0 := CHv.start hEL (fun p hp => hcalls.1 p hp) (hsets _ (List.mem_of_getElem? (i := 2) rfl)) (hw _ (List.mem_of_getElem? (i := 23) rfl)) (hw _ (List.mem_of_getElem? (i := 9) rfl))
  obtain ⟨n, o, h1, h2, h3, _, L, rfl, ⟨rfl, N⟩, hq⟩ := rm0 l s _ hw tables_1 i0 i1 i2 i3 i4 cz fm em s.heap s.heap.size (Nat.le_refl _) S_cs hcz S_si hfm S_em E_em F_em hEL (Old.start s) p e ha hc hk s m _ below hf ((Spec.applies_iff_loose hf).mp happ).1 ⟨rfl, State.Warmed39.refl s, rfl, Em.of CH0⟩ trivial
  refine ⟨n, _, h1, h2, h3, hpost _ _ _ _ _ _ ⟨Cond.after_iff.mpr rfl, Cond.after_iff.mpr (eq_i res_at (Term.int_eval (1)) rfl), trivial⟩ ⟨hq.1, hq.2.1, hq.2.2.1, (hq.2.2.2.sift fun y hy => Or.inr (N y hy)).mono (by decide) (by decide)⟩⟩
theorem main_1_1 : Claimed_1_1 := comes_1 fun _ _ _ _ _ _ h hF => ⟨h.1, hF⟩
theorem main_1_2 : Claimed_1_2 := comes_1 fun _ _ _ _ _ _ h hF => ⟨h.2.1, hF⟩
end Jvm.Pilot.@@N@@
namespace Jvm.Pilot.@@N@@
open Jvm Jvm.ClassFile Sem Op Lib Jvm.Free Jvm.Stand Jvm.Pilot.@@N@@.Jvm.D
/-! MADE BY PROGRAM (witnessworld.py) out of the Statement's table words and the real class files: 25 classes; the members and pool entries that the words name. The judged class is class 1, her method 3. -/
namespace start1
open Jvm.ClassFile
def u (s : String) : CpInfo := .utf8 (stringToUtf16 s)
/-- a pool by its gaps: so many unusable entries, then the entry; so many at the end -/
def gap : Nat → List CpInfo → List CpInfo
  | 0, r => r
  | n + 1, r => .unusable :: gap n r
def poolList (es : List (Nat × CpInfo)) (last : Nat) : List CpInfo := es.foldr (fun e r => gap e.1 (e.2 :: r)) (gap last [])
def pool (es : List (Nat × CpInfo)) (last : Nat) : Array CpInfo := ⟨poolList es last⟩
def fileOf (pool : Array CpInfo) (this : Nat) (attrs : Array Attribute := #[]) (ms : Array MethodInfo := #[]) (fl : Nat := 33) (sup : Nat := 0) (ifs : Array Nat := #[]) (fds : Array FieldInfo := #[]) : ClassFile where
  minorVersion := 0
  majorVersion := 65
  constantPool := pool
  accessFlags := fl
  thisClass := this
  superClass := sup
  interfaces := ifs
  fields := fds
  methods := ms
  attributes := attrs
def plain (name : String) (sup : Option ClassId) : Class where
  name := name
  kind := .ordinary
  loader := none
  accessFlags := 33
  super := sup
  interfaces := #[]
  cf := none
  fields := #[]
  methods := #[]
  instanceTypes := #[]
  staticTypes := #[]
  resolved := #[]
  callSites := []
  init := .initialized
  statics := none
  mirror := none

def pool0 : Array CpInfo := pool [(5, u "<init>"), (0, u "()V"), (1, .class_ 10), (1, u "java/lang/Object")] 113

def k0c0 : Code := { maxStack := 0, maxLocals := 1, code := object_method_1_code, exceptionTable := #[], attributes := #[] }
def k0m0 : Method := { name := "<init>", desc := "()V", sig := { parameters := [], returnType := none }, accessFlags := 1, code := some k0c0 }
/-- java/lang/Object -/
def k0 : Class := { plain "java/lang/Object" none with
  accessFlags := 33
  interfaces := #[]
  cf := some (fileOf pool0 8 #[] #[{ accessFlags := 1, nameIndex := 5, descriptorIndex := 6, attributes := #[] }] 33 0 #[] #[])
  fields := #[]
  methods := #[k0m0]
  instanceTypes := #[]
  staticTypes := #[]
  resolved := Array.replicate 124 none
  statics := none }

def pool1 : Array CpInfo := pool [(2, .class_ 4), (1, u "java/lang/Object"), (0, u "<init>"), (0, u "()V"), (0, .class_ 8), (0, u "java/lang/String"), (0, .methodref 7 10), (0, .nameAndType 5 11), (0, u "([C)V"), (0, .integer 2147483647), (0, .methodref 14 15), (0, .class_ 16), (0, .nameAndType 17 18), (0, u "com/example/culpa/culpa/NamesFunctionPinLaw"), (0, u "ch"), (0, u "(I)C"), (0, .methodref 14 20), (0, .nameAndType 21 22), (0, u "mk"), (0, u "(ICCCC)Ljava/lang/String;"), (0, .methodref 24 25), (0, .class_ 26), (0, .nameAndType 27 28), (0, u "com/example/culpa/culpa/Names"), (0, u "function"), (0, u "(Ljava/lang/String;)Ljava/util/Optional;"), (0, .methodref 30 31), (0, .class_ 32), (0, .nameAndType 33 34), (0, u "java/util/Optional"), (0, u "isPresent"), (0, u "()Z"), (0, .methodref 30 36), (0, .nameAndType 37 38), (0, u "get"), (0, u "()Ljava/lang/Object;"), (0, .methodref 7 40), (0, .nameAndType 41 42), (0, u "equals"), (0, u "(Ljava/lang/Object;)Z"), (3, u "law"), (0, u "(IIIII)Z")] 2

def k1m0 : Method := { name := "<init>", desc := "()V", sig := { parameters := [], returnType := none }, accessFlags := 1, code := none }
def k1c1 : Code := { maxStack := 2, maxLocals := 1, code := method_2_code, exceptionTable := #[], attributes := #[] }
def k1m1 : Method := { name := "ch", desc := "(I)C", sig := { parameters := [.int], returnType := some .char }, accessFlags := 10, code := some k1c1 }
def k1c2 : Code := { maxStack := 6, maxLocals := 5, code := method_3_code, exceptionTable := #[], attributes := #[] }
def k1m2 : Method := { name := "mk", desc := "(ICCCC)Ljava/lang/String;", sig := { parameters := [.int, .char, .char, .char, .char], returnType := some (.object "java/lang/String") }, accessFlags := 10, code := some k1c2 }
def k1c3 : Code := { maxStack := 6, maxLocals := 13, code := code, exceptionTable := #[], attributes := #[] }
def k1m3 : Method := { name := "law", desc := "(IIIII)Z", sig := { parameters := [.int, .int, .int, .int, .int], returnType := some .boolean }, accessFlags := 9, code := some k1c3 }
/-- com/example/culpa/culpa/NamesFunctionPinLaw -/
def k1 : Class := { plain "com/example/culpa/culpa/NamesFunctionPinLaw" (some 0) with
  accessFlags := 49
  interfaces := #[]
  cf := some (fileOf pool1 14 #[] #[{ accessFlags := 1, nameIndex := 5, descriptorIndex := 6, attributes := #[] }, { accessFlags := 10, nameIndex := 17, descriptorIndex := 18, attributes := #[] }, { accessFlags := 10, nameIndex := 21, descriptorIndex := 22, attributes := #[] }, { accessFlags := 9, nameIndex := 46, descriptorIndex := 47, attributes := #[] }] 49 2 #[] #[])
  fields := #[]
  methods := #[k1m0, k1m1, k1m2, k1m3]
  instanceTypes := #[]
  staticTypes := #[]
  resolved := Array.replicate 50 none
  statics := none }

def pool2 : Array CpInfo := pool [(1, .class_ 2), (0, u "java/io/Serializable"), (0, .class_ 4), (0, u "java/lang/Object")] 2

/-- java/io/Serializable -/
def k2 : Class := { plain "java/io/Serializable" (some 0) with
  accessFlags := 1537
  interfaces := #[]
  cf := some (fileOf pool2 1 #[] #[] 1537 3 #[] #[])
  fields := #[]
  methods := #[]
  instanceTypes := #[]
  staticTypes := #[]
  resolved := Array.replicate 7 none
  statics := none }

def pool3 : Array CpInfo := pool [(1, .class_ 2), (0, u "java/lang/Comparable"), (0, .class_ 4), (0, u "java/lang/Object")] 7

/-- java/lang/Comparable -/
def k3 : Class := { plain "java/lang/Comparable" (some 0) with
  accessFlags := 1537
  interfaces := #[]
  cf := some (fileOf pool3 1 #[] #[] 1537 3 #[] #[])
  fields := #[]
  methods := #[]
  instanceTypes := #[]
  staticTypes := #[]
  resolved := Array.replicate 12 none
  statics := none }

def pool4 : Array CpInfo := pool [(2, .class_ 4), (1, u "java/lang/CharSequence"), (42, .class_ 48), (0, u "java/lang/CharSequence$1CodePointIterator"), (10, .class_ 60), (0, u "java/lang/CharSequence$1CharIterator"), (5, .class_ 67), (0, u "java/lang/Object")] 63

/-- java/lang/CharSequence -/
def k4 : Class := { plain "java/lang/CharSequence" (some 0) with
  accessFlags := 1537
  interfaces := #[]
  cf := some (fileOf pool4 2 #[.nestMembers #[47, 59]] #[] 1537 66 #[] #[])
  fields := #[]
  methods := #[]
  instanceTypes := #[]
  staticTypes := #[]
  resolved := Array.replicate 131 none
  statics := none }

def pool5 : Array CpInfo := pool [(1, .class_ 2), (0, u "java/lang/constant/Constable"), (0, .class_ 4), (0, u "java/lang/Object")] 6

/-- java/lang/constant/Constable -/
def k5 : Class := { plain "java/lang/constant/Constable" (some 0) with
  accessFlags := 1537
  interfaces := #[]
  cf := some (fileOf pool5 1 #[] #[] 1537 3 #[] #[])
  fields := #[]
  methods := #[]
  instanceTypes := #[]
  staticTypes := #[]
  resolved := Array.replicate 11 none
  statics := none }

def pool6 : Array CpInfo := pool [(1, .class_ 2), (0, u "java/lang/constant/ConstantDesc"), (0, .class_ 4), (0, u "java/lang/Object")] 32

/-- java/lang/constant/ConstantDesc -/
def k6 : Class := { plain "java/lang/constant/ConstantDesc" (some 0) with
  accessFlags := 1537
  interfaces := #[]
  cf := some (fileOf pool6 1 #[] #[] 1537 3 #[] #[])
  fields := #[]
  methods := #[]
  instanceTypes := #[]
  staticTypes := #[]
  resolved := Array.replicate 37 none
  statics := none }

def pool7 : Array CpInfo := pool [(1, .methodref 2 3), (0, .class_ 4), (0, .nameAndType 5 6), (0, u "java/lang/Object"), (0, u "<init>"), (0, u "()V"), (0, .string 8), (0, u ""), (0, .fieldref 10 11), (0, .class_ 12), (0, .nameAndType 13 14), (0, u "java/lang/String"), (0, u "value"), (0, u "[B"), (0, .fieldref 10 16), (0, .nameAndType 17 18), (0, u "coder"), (0, u "B"), (2, u "hash"), (0, u "I"), (2, u "hashIsZero"), (0, u "Z"), (0, .methodref 10 28), (0, .nameAndType 5 29), (0, u "([CIILjava/lang/Void;)V"), (8, .fieldref 10 39), (0, .nameAndType 40 26), (0, u "COMPACT_STRINGS"), (1, .class_ 44), (1, u "java/lang/StringUTF16"), (0, u "compress"), (1, .methodref 42 48), (0, .nameAndType 49 50), (0, u "coderFromArrayLen"), (0, u "([BI)B"), (46, u "([BII)I"), (9, .class_ 109), (1, u "java/lang/StringLatin1"), (32, u "()Z"), (34, .methodref 42 178), (0, .nameAndType 45 179), (0, u "([CII)[B"), (31, u "([BB)V"), (122, u "()I"), (0, .methodref 10 336), (0, .nameAndType 17 337), (0, u "()B"), (154, .methodref 10 493), (0, .nameAndType 494 142), (0, u "isLatin1"), (10, .methodref 10 506), (0, .nameAndType 507 334), (0, u "length"), (5, u "checkFromToIndex"), (7, .methodref 10 522), (0, .nameAndType 523 524), (0, u "checkBoundsBeginEnd"), (0, u "(III)V"), (16, .methodref 107 542), (0, .nameAndType 543 544), (0, u "equals"), (0, u "([B[B)Z"), (28, u "(Ljava/lang/Object;)Z"), (1, .class_ 576), (0, u "java/lang/CharSequence"), (22, u "CASE_INSENSITIVE_ORDER"), (0, u "Ljava/util/Comparator;"), (35, u "(II)I"), (4, .methodref 10 642), (0, .nameAndType 643 636), (0, u "lastIndexOf"), (0, .methodref 107 645), (0, .nameAndType 643 97), (37, u "substring"), (0, u "(II)Ljava/lang/String;"), (0, .methodref 107 686), (0, .nameAndType 687 688), (0, u "newString"), (0, u "([BII)Ljava/lang/String;"), (76, u "(I)I"), (244, u "([C)V"), (42, .fieldref 1054 1055), (0, .class_ 1056), (0, .nameAndType 1057 1058), (0, u "jdk/internal/util/Preconditions"), (0, u "SIOOBE_FORMATTER"), (0, u "Ljava/util/function/BiFunction;"), (3, .methodref 1054 1063), (0, .nameAndType 513 1064), (0, u "(IIILjava/util/function/BiFunction;)I"), (36, u "serialPersistentFields"), (0, u "[Ljava/io/ObjectStreamField;"), (0, .class_ 1104), (0, u "java/lang/String$CaseInsensitiveComparator"), (1, .class_ 1107), (0, u "java/io/Serializable"), (0, .class_ 1109), (0, u "java/lang/Comparable"), (0, .class_ 1111), (0, u "java/lang/constant/Constable"), (0, .class_ 1113), (0, u "java/lang/constant/ConstantDesc"), (2, u "serialVersionUID"), (0, u "J"), (3, u "REPL"), (0, u "C"), (2, u "LATIN1"), (1, u "UTF16")] 323

def k7m0 : Method := { name := "<init>", desc := "()V", sig := { parameters := [], returnType := none }, accessFlags := 1, code := none }
def k7c1 : Code := { maxStack := 5, maxLocals := 2, code := jdk_42_method_3_code, exceptionTable := #[], attributes := #[] }
def k7m1 : Method := { name := "<init>", desc := "([C)V", sig := { parameters := [(.array .char)], returnType := none }, accessFlags := 1, code := some k7c1 }
def k7c2 : Code := { maxStack := 2, maxLocals := 1, code := jdk_42_method_54_code, exceptionTable := #[], attributes := #[] }
def k7m2 : Method := { name := "length", desc := "()I", sig := { parameters := [], returnType := some .int }, accessFlags := 1, code := some k7c2 }
def k7c3 : Code := { maxStack := 2, maxLocals := 3, code := jdk_42_method_66_code, exceptionTable := #[], attributes := #[] }
def k7m3 : Method := { name := "equals", desc := "(Ljava/lang/Object;)Z", sig := { parameters := [(.object "java/lang/Object")], returnType := some .boolean }, accessFlags := 1, code := some k7c3 }
def k7c4 : Code := { maxStack := 4, maxLocals := 2, code := jdk_42_method_82_code, exceptionTable := #[], attributes := #[] }
def k7m4 : Method := { name := "lastIndexOf", desc := "(I)I", sig := { parameters := [.int], returnType := some .int }, accessFlags := 1, code := some k7c4 }
def k7c5 : Code := { maxStack := 3, maxLocals := 3, code := jdk_42_method_83_code, exceptionTable := #[], attributes := #[] }
def k7m5 : Method := { name := "lastIndexOf", desc := "(II)I", sig := { parameters := [.int, .int], returnType := some .int }, accessFlags := 1, code := some k7c5 }
def k7c6 : Code := { maxStack := 3, maxLocals := 5, code := jdk_42_method_92_code, exceptionTable := #[], attributes := #[] }
def k7m6 : Method := { name := "substring", desc := "(II)Ljava/lang/String;", sig := { parameters := [.int, .int], returnType := some (.object "java/lang/String") }, accessFlags := 1, code := some k7c6 }
def k7c7 : Code := { maxStack := 4, maxLocals := 6, code := jdk_42_method_149_code, exceptionTable := #[], attributes := #[] }
def k7m7 : Method := { name := "<init>", desc := "([CIILjava/lang/Void;)V", sig := { parameters := [(.array .char), .int, .int, (.object "java/lang/Void")], returnType := none }, accessFlags := 2, code := some k7c7 }
def k7c8 : Code := { maxStack := 2, maxLocals := 3, code := jdk_42_method_151_code, exceptionTable := #[], attributes := #[] }
def k7m8 : Method := { name := "<init>", desc := "([BB)V", sig := { parameters := [(.array .byte), .byte], returnType := none }, accessFlags := 0, code := some k7c8 }
def k7c9 : Code := { maxStack := 1, maxLocals := 1, code := jdk_42_method_152_code, exceptionTable := #[], attributes := #[] }
def k7m9 : Method := { name := "coder", desc := "()B", sig := { parameters := [], returnType := some .byte }, accessFlags := 0, code := some k7c9 }
def k7c10 : Code := { maxStack := 1, maxLocals := 1, code := jdk_42_method_154_code, exceptionTable := #[], attributes := #[] }
def k7m10 : Method := { name := "isLatin1", desc := "()Z", sig := { parameters := [], returnType := some .boolean }, accessFlags := 0, code := some k7c10 }
def k7c11 : Code := { maxStack := 4, maxLocals := 3, code := jdk_42_method_158_code, exceptionTable := #[], attributes := #[] }
def k7m11 : Method := { name := "checkBoundsBeginEnd", desc := "(III)V", sig := { parameters := [.int, .int, .int], returnType := none }, accessFlags := 8, code := some k7c11 }
/-- java/lang/String -/
def k7 : Class := { plain "java/lang/String" (some 0) with
  accessFlags := 49
  interfaces := #[2, 3, 4, 5, 6]
  cf := some (fileOf pool7 10 #[.nestMembers #[1103]] #[{ accessFlags := 1, nameIndex := 5, descriptorIndex := 6, attributes := #[] }, { accessFlags := 1, nameIndex := 5, descriptorIndex := 1010, attributes := #[] }, { accessFlags := 1, nameIndex := 507, descriptorIndex := 334, attributes := #[] }, { accessFlags := 1, nameIndex := 543, descriptorIndex := 573, attributes := #[] }, { accessFlags := 1, nameIndex := 643, descriptorIndex := 765, attributes := #[] }, { accessFlags := 1, nameIndex := 643, descriptorIndex := 636, attributes := #[] }, { accessFlags := 1, nameIndex := 683, descriptorIndex := 684, attributes := #[] }, { accessFlags := 2, nameIndex := 5, descriptorIndex := 29, attributes := #[] }, { accessFlags := 0, nameIndex := 5, descriptorIndex := 211, attributes := #[] }, { accessFlags := 0, nameIndex := 17, descriptorIndex := 337, attributes := #[] }, { accessFlags := 0, nameIndex := 494, descriptorIndex := 142, attributes := #[] }, { accessFlags := 8, nameIndex := 523, descriptorIndex := 524, attributes := #[] }] 49 2 #[1106, 1108, 575, 1110, 1112] #[{ accessFlags := 18, nameIndex := 13, descriptorIndex := 14, attributes := #[] }, { accessFlags := 18, nameIndex := 17, descriptorIndex := 18, attributes := #[] }, { accessFlags := 2, nameIndex := 21, descriptorIndex := 22, attributes := #[] }, { accessFlags := 2, nameIndex := 25, descriptorIndex := 26, attributes := #[] }, { accessFlags := 26, nameIndex := 1116, descriptorIndex := 1117, attributes := #[] }, { accessFlags := 24, nameIndex := 40, descriptorIndex := 26, attributes := #[] }, { accessFlags := 26, nameIndex := 1101, descriptorIndex := 1102, attributes := #[] }, { accessFlags := 26, nameIndex := 1121, descriptorIndex := 1122, attributes := #[] }, { accessFlags := 25, nameIndex := 599, descriptorIndex := 600, attributes := #[] }, { accessFlags := 24, nameIndex := 1125, descriptorIndex := 18, attributes := #[] }, { accessFlags := 24, nameIndex := 1127, descriptorIndex := 18, attributes := #[] }])
  fields := #[{ name := "value", type := (.array .byte), accessFlags := 18, slot := 0, constantValue := 0 }, { name := "coder", type := .byte, accessFlags := 18, slot := 1, constantValue := 0 }, { name := "hash", type := .int, accessFlags := 2, slot := 2, constantValue := 0 }, { name := "hashIsZero", type := .boolean, accessFlags := 2, slot := 3, constantValue := 0 }, { name := "serialVersionUID", type := .long, accessFlags := 26, slot := 0, constantValue := 0 }, { name := "COMPACT_STRINGS", type := .boolean, accessFlags := 24, slot := 1, constantValue := 0 }, { name := "serialPersistentFields", type := (.array (.object "java/io/ObjectStreamField")), accessFlags := 26, slot := 2, constantValue := 0 }, { name := "REPL", type := .char, accessFlags := 26, slot := 3, constantValue := 0 }, { name := "CASE_INSENSITIVE_ORDER", type := (.object "java/util/Comparator"), accessFlags := 25, slot := 4, constantValue := 0 }, { name := "LATIN1", type := .byte, accessFlags := 24, slot := 5, constantValue := 0 }, { name := "UTF16", type := .byte, accessFlags := 24, slot := 6, constantValue := 0 }]
  methods := #[k7m0, k7m1, k7m2, k7m3, k7m4, k7m5, k7m6, k7m7, k7m8, k7m9, k7m10, k7m11]
  instanceTypes := #[(.array .byte), .byte, .int, .boolean]
  staticTypes := #[.long, .boolean, (.array (.object "java/io/ObjectStreamField")), .char, (.object "java/util/Comparator"), .byte, .byte]
  resolved := Array.replicate 1451 none
  statics := some 0 }

def pool8 : Array CpInfo := pool [(2, .class_ 4), (1, u "java/lang/Object"), (6, .class_ 13), (1, u "com/example/culpa/culpa/Names"), (0, u "names"), (0, u "Ljava/util/List;"), (5, u "numbers"), (0, u "Ljava/util/Map;"), (2, u "lineNumbers"), (2, u "kind"), (0, u "Ljava/lang/String;"), (1, .class_ 33), (1, u "java/lang/String"), (15, u "(I)I"), (42, .methodref 31 93), (0, .nameAndType 94 49), (0, u "lastIndexOf"), (0, .methodref 96 97), (0, .class_ 98), (0, .nameAndType 99 100), (0, u "java/util/Optional"), (0, u "empty"), (0, u "()Ljava/util/Optional;"), (0, .methodref 31 102), (0, .nameAndType 103 104), (0, u "substring"), (0, u "(II)Ljava/lang/String;"), (0, .methodref 96 106), (0, .nameAndType 107 108), (0, u "of"), (0, u "(Ljava/lang/Object;)Ljava/util/Optional;"), (17, u "function"), (0, u "(Ljava/lang/String;)Ljava/util/Optional;")] 22

def k8c0 : Code := { maxStack := 3, maxLocals := 2, code := prog_39_method_6_code, exceptionTable := #[], attributes := #[] }
def k8m0 : Method := { name := "function", desc := "(Ljava/lang/String;)Ljava/util/Optional;", sig := { parameters := [(.object "java/lang/String")], returnType := some (.object "java/util/Optional") }, accessFlags := 8, code := some k8c0 }
/-- com/example/culpa/culpa/Names -/
def k8 : Class := { plain "com/example/culpa/culpa/Names" (some 0) with
  accessFlags := 48
  interfaces := #[]
  cf := some (fileOf pool8 11 #[] #[{ accessFlags := 8, nameIndex := 126, descriptorIndex := 127, attributes := #[] }] 48 2 #[] #[{ accessFlags := 18, nameIndex := 28, descriptorIndex := 29, attributes := #[] }, { accessFlags := 18, nameIndex := 14, descriptorIndex := 15, attributes := #[] }, { accessFlags := 18, nameIndex := 21, descriptorIndex := 22, attributes := #[] }, { accessFlags := 18, nameIndex := 25, descriptorIndex := 15, attributes := #[] }])
  fields := #[{ name := "kind", type := (.object "java/lang/String"), accessFlags := 18, slot := 0, constantValue := 0 }, { name := "names", type := (.object "java/util/List"), accessFlags := 18, slot := 1, constantValue := 0 }, { name := "numbers", type := (.object "java/util/Map"), accessFlags := 18, slot := 2, constantValue := 0 }, { name := "lineNumbers", type := (.object "java/util/List"), accessFlags := 18, slot := 3, constantValue := 0 }]
  methods := #[k8m0]
  instanceTypes := #[(.object "java/lang/String"), (.object "java/util/List"), (.object "java/util/Map"), (.object "java/util/List")]
  staticTypes := #[]
  resolved := Array.replicate 150 none
  statics := none }

def pool9 : Array CpInfo := pool [(1, .class_ 2), (0, u "java/lang/String"), (1, .class_ 6), (1, u "java/lang/Object"), (0, u "<init>"), (0, u "()V"), (5, .class_ 16), (1, u "java/lang/StringLatin1"), (21, .methodref 39 40), (0, .class_ 41), (0, .nameAndType 42 43), (0, u "java/lang/Math"), (0, u "min"), (0, u "(II)I"), (44, .methodref 14 89), (0, .nameAndType 90 91), (0, u "canEncode"), (0, u "(I)Z"), (20, .methodref 1 113), (0, .nameAndType 7 114), (0, u "([BB)V"), (6, u "$assertionsDisabled"), (0, u "Z"), (8, .class_ 133), (1, u "java/util/Arrays"), (17, .string 152), (0, u ""), (43, u "newString"), (0, u "([BII)Ljava/lang/String;"), (23, .class_ 223), (1, u "java/lang/StringLatin1$LinesSpliterator"), (8, .methodref 131 233), (0, .nameAndType 234 235), (0, u "copyOfRange"), (0, u "([BII)[B"), (25, u "([BII)I"), (19, u "equals"), (0, u "([B[B)Z"), (26, u "lastIndexOf"), (80, .class_ 391), (0, u "java/lang/StringLatin1$CharsSpliterator")] 3

def k9m0 : Method := { name := "<init>", desc := "()V", sig := { parameters := [], returnType := none }, accessFlags := 0, code := none }
def k9c1 : Code := { maxStack := 2, maxLocals := 1, code := jdk_43_method_4_code, exceptionTable := #[], attributes := #[] }
def k9m1 : Method := { name := "canEncode", desc := "(I)Z", sig := { parameters := [.int], returnType := some .boolean }, accessFlags := 9, code := some k9c1 }
def k9c2 : Code := { maxStack := 3, maxLocals := 3, code := jdk_43_method_13_code, exceptionTable := #[], attributes := #[] }
def k9m2 : Method := { name := "equals", desc := "([B[B)Z", sig := { parameters := [(.array .byte), (.array .byte)], returnType := some .boolean }, accessFlags := 9, code := some k9c2 }
def k9c3 : Code := { maxStack := 3, maxLocals := 4, code := jdk_43_method_27_code, exceptionTable := #[], attributes := #[] }
def k9m3 : Method := { name := "lastIndexOf", desc := "([BII)I", sig := { parameters := [(.array .byte), .int, .int], returnType := some .int }, accessFlags := 9, code := some k9c3 }
def k9c4 : Code := { maxStack := 6, maxLocals := 3, code := jdk_43_method_47_code, exceptionTable := #[], attributes := #[] }
def k9m4 : Method := { name := "newString", desc := "([BII)Ljava/lang/String;", sig := { parameters := [(.array .byte), .int, .int], returnType := some (.object "java/lang/String") }, accessFlags := 9, code := some k9c4 }
/-- java/lang/StringLatin1 -/
def k9 : Class := { plain "java/lang/StringLatin1" (some 0) with
  accessFlags := 48
  interfaces := #[]
  cf := some (fileOf pool9 14 #[.nestMembers #[390, 221]] #[{ accessFlags := 0, nameIndex := 7, descriptorIndex := 8, attributes := #[] }, { accessFlags := 9, nameIndex := 90, descriptorIndex := 91, attributes := #[] }, { accessFlags := 9, nameIndex := 281, descriptorIndex := 282, attributes := #[] }, { accessFlags := 9, nameIndex := 309, descriptorIndex := 261, attributes := #[] }, { accessFlags := 9, nameIndex := 196, descriptorIndex := 197, attributes := #[] }] 48 4 #[] #[{ accessFlags := 4120, nameIndex := 121, descriptorIndex := 122, attributes := #[] }])
  fields := #[{ name := "$assertionsDisabled", type := .boolean, accessFlags := 4120, slot := 0, constantValue := 0 }]
  methods := #[k9m0, k9m1, k9m2, k9m3, k9m4]
  instanceTypes := #[]
  staticTypes := #[.boolean]
  resolved := Array.replicate 395 none
  statics := none }

def pool10 : Array CpInfo := pool [(1, .class_ 2), (0, u "java/lang/Math"), (1, .class_ 6), (1, u "java/lang/Object"), (0, u "<init>"), (0, u "()V"), (89, .class_ 100), (1, u "java/lang/Math$RandomNumberGeneratorHolder"), (71, u "negativeZeroFloatBits"), (0, u "J"), (2, u "negativeZeroDoubleBits"), (24, u "min"), (43, u "$assertionsDisabled"), (0, u "Z"), (88, u "(II)I"), (2, u "twoToTheDoubleScaleDown"), (0, u "D"), (4, u "twoToTheDoubleScaleUp"), (9, u "E"), (3, u "PI"), (2, u "TAU"), (2, u "DEGREES_TO_RADIANS"), (0, u "RADIANS_TO_DEGREES")] 94

def k10m0 : Method := { name := "<init>", desc := "()V", sig := { parameters := [], returnType := none }, accessFlags := 2, code := none }
def k10c1 : Code := { maxStack := 2, maxLocals := 2, code := jdk_29_method_69_code, exceptionTable := #[], attributes := #[] }
def k10m1 : Method := { name := "min", desc := "(II)I", sig := { parameters := [.int, .int], returnType := some .int }, accessFlags := 9, code := some k10c1 }
/-- java/lang/Math -/
def k10 : Class := { plain "java/lang/Math" (some 0) with
  accessFlags := 49
  interfaces := #[]
  cf := some (fileOf pool10 1 #[.nestMembers #[98]] #[{ accessFlags := 2, nameIndex := 7, descriptorIndex := 8, attributes := #[] }, { accessFlags := 9, nameIndex := 201, descriptorIndex := 335, attributes := #[] }] 49 4 #[] #[{ accessFlags := 25, nameIndex := 354, descriptorIndex := 339, attributes := #[] }, { accessFlags := 25, nameIndex := 358, descriptorIndex := 339, attributes := #[] }, { accessFlags := 25, nameIndex := 361, descriptorIndex := 339, attributes := #[] }, { accessFlags := 26, nameIndex := 364, descriptorIndex := 339, attributes := #[] }, { accessFlags := 26, nameIndex := 365, descriptorIndex := 339, attributes := #[] }, { accessFlags := 26, nameIndex := 172, descriptorIndex := 173, attributes := #[] }, { accessFlags := 26, nameIndex := 176, descriptorIndex := 173, attributes := #[] }, { accessFlags := 8, nameIndex := 344, descriptorIndex := 339, attributes := #[] }, { accessFlags := 8, nameIndex := 338, descriptorIndex := 339, attributes := #[] }, { accessFlags := 4120, nameIndex := 245, descriptorIndex := 246, attributes := #[] }])
  fields := #[{ name := "E", type := .double, accessFlags := 25, slot := 0, constantValue := 0 }, { name := "PI", type := .double, accessFlags := 25, slot := 1, constantValue := 0 }, { name := "TAU", type := .double, accessFlags := 25, slot := 2, constantValue := 0 }, { name := "DEGREES_TO_RADIANS", type := .double, accessFlags := 26, slot := 3, constantValue := 0 }, { name := "RADIANS_TO_DEGREES", type := .double, accessFlags := 26, slot := 4, constantValue := 0 }, { name := "negativeZeroFloatBits", type := .long, accessFlags := 26, slot := 5, constantValue := 0 }, { name := "negativeZeroDoubleBits", type := .long, accessFlags := 26, slot := 6, constantValue := 0 }, { name := "twoToTheDoubleScaleUp", type := .double, accessFlags := 8, slot := 7, constantValue := 0 }, { name := "twoToTheDoubleScaleDown", type := .double, accessFlags := 8, slot := 8, constantValue := 0 }, { name := "$assertionsDisabled", type := .boolean, accessFlags := 4120, slot := 9, constantValue := 0 }]
  methods := #[k10m0, k10m1]
  instanceTypes := #[]
  staticTypes := #[.double, .double, .double, .double, .double, .long, .long, .double, .double, .boolean]
  resolved := Array.replicate 460 none
  statics := none }

def pool11 : Array CpInfo := pool [(1, .fieldref 2 3), (0, .class_ 4), (0, .nameAndType 5 6), (0, u "java/util/Optional"), (0, u "EMPTY"), (0, u "Ljava/util/Optional;"), (0, .methodref 8 9), (0, .class_ 10), (0, .nameAndType 11 12), (0, u "java/lang/Object"), (0, u "<init>"), (0, u "()V"), (0, .fieldref 2 14), (0, .nameAndType 15 16), (0, u "value"), (0, u "Ljava/lang/Object;"), (0, .methodref 18 19), (0, .class_ 20), (0, .nameAndType 21 22), (0, u "java/util/Objects"), (0, u "requireNonNull"), (0, u "(Ljava/lang/Object;)Ljava/lang/Object;"), (0, .methodref 2 24), (0, .nameAndType 11 25), (0, u "(Ljava/lang/Object;)V"), (20, u "()Z"), (8, u "empty"), (0, u "()Ljava/util/Optional;"), (8, u "(Ljava/lang/Object;)Ljava/util/Optional;"), (2, u "isPresent"), (4, u "get"), (0, u "()Ljava/lang/Object;"), (7, u "of")] 104

def k11c0 : Code := { maxStack := 1, maxLocals := 1, code := jdk_32_method_1_code, exceptionTable := #[], attributes := #[] }
def k11m0 : Method := { name := "empty", desc := "()Ljava/util/Optional;", sig := { parameters := [], returnType := some (.object "java/util/Optional") }, accessFlags := 9, code := some k11c0 }
def k11c1 : Code := { maxStack := 2, maxLocals := 2, code := jdk_32_method_2_code, exceptionTable := #[], attributes := #[] }
def k11m1 : Method := { name := "<init>", desc := "(Ljava/lang/Object;)V", sig := { parameters := [(.object "java/lang/Object")], returnType := none }, accessFlags := 2, code := some k11c1 }
def k11c2 : Code := { maxStack := 3, maxLocals := 1, code := jdk_32_method_3_code, exceptionTable := #[], attributes := #[] }
def k11m2 : Method := { name := "of", desc := "(Ljava/lang/Object;)Ljava/util/Optional;", sig := { parameters := [(.object "java/lang/Object")], returnType := some (.object "java/util/Optional") }, accessFlags := 9, code := some k11c2 }
def k11c3 : Code := { maxStack := 3, maxLocals := 1, code := jdk_32_method_5_code, exceptionTable := #[], attributes := #[] }
def k11m3 : Method := { name := "get", desc := "()Ljava/lang/Object;", sig := { parameters := [], returnType := some (.object "java/lang/Object") }, accessFlags := 1, code := some k11c3 }
def k11c4 : Code := { maxStack := 1, maxLocals := 1, code := jdk_32_method_6_code, exceptionTable := #[], attributes := #[] }
def k11m4 : Method := { name := "isPresent", desc := "()Z", sig := { parameters := [], returnType := some .boolean }, accessFlags := 1, code := some k11c4 }
/-- java/util/Optional -/
def k11 : Class := { plain "java/util/Optional" (some 0) with
  accessFlags := 49
  interfaces := #[]
  cf := some (fileOf pool11 2 #[] #[{ accessFlags := 9, nameIndex := 55, descriptorIndex := 56, attributes := #[] }, { accessFlags := 2, nameIndex := 11, descriptorIndex := 25, attributes := #[] }, { accessFlags := 9, nameIndex := 82, descriptorIndex := 65, attributes := #[] }, { accessFlags := 1, nameIndex := 73, descriptorIndex := 74, attributes := #[] }, { accessFlags := 1, nameIndex := 68, descriptorIndex := 46, attributes := #[] }] 49 8 #[] #[{ accessFlags := 26, nameIndex := 5, descriptorIndex := 6, attributes := #[] }, { accessFlags := 18, nameIndex := 15, descriptorIndex := 16, attributes := #[] }])
  fields := #[{ name := "EMPTY", type := (.object "java/util/Optional"), accessFlags := 26, slot := 0, constantValue := 0 }, { name := "value", type := (.object "java/lang/Object"), accessFlags := 18, slot := 0, constantValue := 0 }]
  methods := #[k11m0, k11m1, k11m2, k11m3, k11m4]
  instanceTypes := #[(.object "java/lang/Object")]
  staticTypes := #[(.object "java/util/Optional")]
  resolved := Array.replicate 187 none
  statics := some 1 }

def pool12 : Array CpInfo := pool [(6, .class_ 8), (1, u "java/lang/Object"), (0, u "<init>"), (0, u "()V"), (1, .class_ 14), (1, u "java/lang/StringUTF16"), (31, u "$assertionsDisabled"), (0, u "Z"), (13, u "HI_BYTE_SHIFT"), (0, u "I"), (2, u "LO_BYTE_SHIFT"), (49, .methodref 12 116), (0, .nameAndType 117 118), (0, u "compress"), (0, u "([CI[BII)I"), (3, u "([CII)[B"), (138, u "coderFromArrayLen"), (0, u "([BI)B"), (106, .class_ 371), (1, u "java/lang/StringUTF16$LinesSpliterator"), (58, u "MAX_LENGTH"), (196, .class_ 628), (0, u "java/lang/StringUTF16$CodePointsSpliterator"), (0, .class_ 630), (0, u "java/lang/StringUTF16$CharsSpliterator")] 4

def k12m0 : Method := { name := "<init>", desc := "()V", sig := { parameters := [], returnType := none }, accessFlags := 0, code := none }
def k12c1 : Code := { maxStack := 2, maxLocals := 2, code := jdk_52_method_15_code, exceptionTable := #[], attributes := #[] }
def k12m1 : Method := { name := "coderFromArrayLen", desc := "([BI)B", sig := { parameters := [(.array .byte), .int], returnType := some .byte }, accessFlags := 8, code := some k12c1 }
def k12c2 : Code := { maxStack := 5, maxLocals := 6, code := jdk_52_method_16_code, exceptionTable := #[], attributes := #[] }
def k12m2 : Method := { name := "compress", desc := "([CII)[B", sig := { parameters := [(.array .char), .int, .int], returnType := some (.array .byte) }, accessFlags := 9, code := some k12c2 }
def k12c3 : Code := { maxStack := 3, maxLocals := 7, code := jdk_52_method_21_code, exceptionTable := #[], attributes := #[] }
def k12m3 : Method := { name := "compress", desc := "([CI[BII)I", sig := { parameters := [(.array .char), .int, (.array .byte), .int, .int], returnType := some .int }, accessFlags := 9, code := some k12c3 }
/-- java/lang/StringUTF16 -/
def k12 : Class := { plain "java/lang/StringUTF16" (some 0) with
  accessFlags := 48
  interfaces := #[]
  cf := some (fileOf pool12 12 #[.nestMembers #[627, 629, 369]] #[{ accessFlags := 0, nameIndex := 9, descriptorIndex := 10, attributes := #[] }, { accessFlags := 8, nameIndex := 261, descriptorIndex := 262, attributes := #[] }, { accessFlags := 9, nameIndex := 117, descriptorIndex := 122, attributes := #[] }, { accessFlags := 9, nameIndex := 117, descriptorIndex := 118, attributes := #[] }] 48 6 #[] #[{ accessFlags := 26, nameIndex := 61, descriptorIndex := 62, attributes := #[] }, { accessFlags := 26, nameIndex := 65, descriptorIndex := 62, attributes := #[] }, { accessFlags := 24, nameIndex := 430, descriptorIndex := 62, attributes := #[] }, { accessFlags := 4120, nameIndex := 46, descriptorIndex := 47, attributes := #[] }])
  fields := #[{ name := "HI_BYTE_SHIFT", type := .int, accessFlags := 26, slot := 0, constantValue := 0 }, { name := "LO_BYTE_SHIFT", type := .int, accessFlags := 26, slot := 1, constantValue := 0 }, { name := "MAX_LENGTH", type := .int, accessFlags := 24, slot := 2, constantValue := 0 }, { name := "$assertionsDisabled", type := .boolean, accessFlags := 4120, slot := 3, constantValue := 0 }]
  methods := #[k12m0, k12m1, k12m2, k12m3]
  instanceTypes := #[]
  staticTypes := #[.int, .int, .int, .boolean]
  resolved := Array.replicate 635 none
  statics := none }

def pool13 : Array CpInfo := pool [(2, .class_ 4), (1, u "java/lang/Object"), (0, u "<init>"), (0, u "()V"), (17, .class_ 26), (1, u "jdk/internal/util/Preconditions"), (20, u "checkFromToIndex"), (7, .class_ 56), (0, u "jdk/internal/util/Preconditions$4"), (57, .class_ 115), (0, u "jdk/internal/util/Preconditions$1"), (7, u "SIOOBE_FORMATTER"), (0, u "Ljava/util/function/BiFunction;"), (0, .class_ 126), (0, u "jdk/internal/util/Preconditions$2"), (3, u "AIOOBE_FORMATTER"), (0, .class_ 132), (0, u "jdk/internal/util/Preconditions$3"), (3, u "IOOBE_FORMATTER"), (46, u "(IIILjava/util/function/BiFunction;)I")] 10

def k13m0 : Method := { name := "<init>", desc := "()V", sig := { parameters := [], returnType := none }, accessFlags := 1, code := none }
def k13c1 : Code := { maxStack := 4, maxLocals := 4, code := jdk_41_method_12_code, exceptionTable := #[], attributes := #[] }
def k13m1 : Method := { name := "checkFromToIndex", desc := "(IIILjava/util/function/BiFunction;)I", sig := { parameters := [.int, .int, .int, (.object "java/util/function/BiFunction")], returnType := some .int }, accessFlags := 9, code := some k13c1 }
/-- jdk/internal/util/Preconditions -/
def k13 : Class := { plain "jdk/internal/util/Preconditions" (some 0) with
  accessFlags := 33
  interfaces := #[]
  cf := some (fileOf pool13 24 #[.nestMembers #[55, 131, 125, 114]] #[{ accessFlags := 1, nameIndex := 5, descriptorIndex := 6, attributes := #[] }, { accessFlags := 9, nameIndex := 47, descriptorIndex := 183, attributes := #[] }] 33 2 #[] #[{ accessFlags := 25, nameIndex := 123, descriptorIndex := 124, attributes := #[] }, { accessFlags := 25, nameIndex := 130, descriptorIndex := 124, attributes := #[] }, { accessFlags := 25, nameIndex := 136, descriptorIndex := 124, attributes := #[] }])
  fields := #[{ name := "SIOOBE_FORMATTER", type := (.object "java/util/function/BiFunction"), accessFlags := 25, slot := 0, constantValue := 0 }, { name := "AIOOBE_FORMATTER", type := (.object "java/util/function/BiFunction"), accessFlags := 25, slot := 1, constantValue := 0 }, { name := "IOOBE_FORMATTER", type := (.object "java/util/function/BiFunction"), accessFlags := 25, slot := 2, constantValue := 0 }]
  methods := #[k13m0, k13m1]
  instanceTypes := #[]
  staticTypes := #[(.object "java/util/function/BiFunction"), (.object "java/util/function/BiFunction"), (.object "java/util/function/BiFunction")]
  resolved := Array.replicate 194 none
  statics := some 2 }

def pool14 : Array CpInfo := pool [(2, .class_ 4), (1, u "java/lang/Object"), (0, u "<init>"), (0, u "()V"), (7, .class_ 16), (1, u "java/util/Arrays"), (57, .class_ 76), (1, u "java/util/Arrays$NaturalOrder"), (36, .class_ 115), (1, u "java/util/Arrays$LegacyMergeSort"), (1, u "Z"), (21, u "copyOfRange"), (10, .methodref 151 152), (0, .class_ 153), (0, .nameAndType 154 155), (0, u "java/lang/System"), (0, u "arraycopy"), (0, u "(Ljava/lang/Object;ILjava/lang/Object;II)V"), (148, .methodref 305 306), (0, .class_ 307), (0, .nameAndType 308 309), (0, u "java/lang/Math"), (0, u "min"), (0, u "(II)I"), (29, .methodref 14 340), (0, .nameAndType 341 342), (0, u "copyOfRangeByte"), (0, u "([BII)[B"), (0, .methodref 14 344), (0, .nameAndType 345 346), (0, u "checkLength"), (0, u "(II)V"), (28, .class_ 376), (0, u "java/util/Arrays$ArrayList"), (68, u "$assertionsDisabled"), (269, u "MIN_ARRAY_SORT_GRAN"), (0, u "I"), (2, u "INSERTIONSORT_THRESHOLD"), (255, .class_ 976), (0, u "java/util/Arrays$ArrayItr")] 52

def k14m0 : Method := { name := "<init>", desc := "()V", sig := { parameters := [], returnType := none }, accessFlags := 2, code := none }
def k14c1 : Code := { maxStack := 4, maxLocals := 2, code := jdk_65_method_131_code, exceptionTable := #[], attributes := #[] }
def k14m1 : Method := { name := "checkLength", desc := "(II)V", sig := { parameters := [.int, .int], returnType := none }, accessFlags := 10, code := some k14c1 }
def k14c2 : Code := { maxStack := 3, maxLocals := 3, code := jdk_65_method_132_code, exceptionTable := #[], attributes := #[] }
def k14m2 : Method := { name := "copyOfRange", desc := "([BII)[B", sig := { parameters := [(.array .byte), .int, .int], returnType := some (.array .byte) }, accessFlags := 9, code := some k14c2 }
def k14c3 : Code := { maxStack := 6, maxLocals := 5, code := jdk_65_method_133_code, exceptionTable := #[], attributes := #[] }
def k14m3 : Method := { name := "copyOfRangeByte", desc := "([BII)[B", sig := { parameters := [(.array .byte), .int, .int], returnType := some (.array .byte) }, accessFlags := 10, code := some k14c3 }
/-- java/util/Arrays -/
def k14 : Class := { plain "java/util/Arrays" (some 0) with
  accessFlags := 49
  interfaces := #[]
  cf := some (fileOf pool14 14 #[.nestMembers #[975, 375, 113, 74]] #[{ accessFlags := 2, nameIndex := 5, descriptorIndex := 6, attributes := #[] }, { accessFlags := 10, nameIndex := 345, descriptorIndex := 346, attributes := #[] }, { accessFlags := 9, nameIndex := 139, descriptorIndex := 342, attributes := #[] }, { accessFlags := 10, nameIndex := 341, descriptorIndex := 342, attributes := #[] }] 49 2 #[] #[{ accessFlags := 26, nameIndex := 715, descriptorIndex := 716, attributes := #[] }, { accessFlags := 26, nameIndex := 719, descriptorIndex := 716, attributes := #[] }, { accessFlags := 4120, nameIndex := 445, descriptorIndex := 117, attributes := #[] }])
  fields := #[{ name := "MIN_ARRAY_SORT_GRAN", type := .int, accessFlags := 26, slot := 0, constantValue := 0 }, { name := "INSERTIONSORT_THRESHOLD", type := .int, accessFlags := 26, slot := 1, constantValue := 0 }, { name := "$assertionsDisabled", type := .boolean, accessFlags := 4120, slot := 2, constantValue := 0 }]
  methods := #[k14m0, k14m1, k14m2, k14m3]
  instanceTypes := #[]
  staticTypes := #[.int, .int, .boolean]
  resolved := Array.replicate 1029 none
  statics := none }

def pool15 : Array CpInfo := pool [(2, .class_ 4), (1, u "java/lang/Object"), (0, u "<init>"), (0, u "()V"), (1, .class_ 10), (1, u "java/lang/System"), (0, u "allowSecurityManager"), (0, u "I"), (16, u "cons"), (0, u "Ljava/io/Console;"), (77, .class_ 110), (1, u "java/lang/System$CallersHolder"), (43, u "initialErrStream"), (0, u "Ljava/io/PrintStream;"), (19, u "security"), (0, u "Ljava/lang/SecurityManager;"), (31, .class_ 209), (0, u "java/lang/System$1"), (7, u "props"), (0, u "Ljava/util/Properties;"), (2, u "lineSeparator"), (0, u "Ljava/lang/String;"), (96, .class_ 321), (1, u "java/lang/System$LoggerFinder"), (5, .class_ 328), (0, u "java/lang/System$Logger"), (67, u "err"), (2, u "out"), (91, u "notSupportedJnuEncoding"), (15, u "in"), (17, u "initialIn"), (0, u "Ljava/io/InputStream;"), (35, u "bootLayer"), (0, u "Ljava/lang/ModuleLayer;"), (99, .class_ 664), (0, u "java/lang/System$2"), (9, u "NEVER"), (2, u "MAYBE"), (49, u "arraycopy"), (0, u "(Ljava/lang/Object;ILjava/lang/Object;II)V"), (72, .class_ 802), (0, u "java/lang/System$Logger$Level")] 31

def k15m0 : Method := { name := "<init>", desc := "()V", sig := { parameters := [], returnType := none }, accessFlags := 2, code := none }
def k15m1 : Method := { name := "arraycopy", desc := "(Ljava/lang/Object;ILjava/lang/Object;II)V", sig := { parameters := [(.object "java/lang/Object"), .int, (.object "java/lang/Object"), .int, .int], returnType := none }, accessFlags := 265, code := none }
/-- java/lang/System -/
def k15 : Class := { plain "java/lang/System" (some 0) with
  accessFlags := 49
  interfaces := #[]
  cf := some (fileOf pool15 8 #[.nestMembers #[319, 327, 801, 108, 663, 208]] #[{ accessFlags := 2, nameIndex := 5, descriptorIndex := 6, attributes := #[] }, { accessFlags := 265, nameIndex := 727, descriptorIndex := 728, attributes := #[] }] 49 2 #[] #[{ accessFlags := 25, nameIndex := 507, descriptorIndex := 526, attributes := #[] }, { accessFlags := 25, nameIndex := 399, descriptorIndex := 155, attributes := #[] }, { accessFlags := 25, nameIndex := 396, descriptorIndex := 155, attributes := #[] }, { accessFlags := 10, nameIndex := 525, descriptorIndex := 526, attributes := #[] }, { accessFlags := 26, nameIndex := 674, descriptorIndex := 12, attributes := #[] }, { accessFlags := 26, nameIndex := 677, descriptorIndex := 12, attributes := #[] }, { accessFlags := 10, nameIndex := 11, descriptorIndex := 12, attributes := #[] }, { accessFlags := 74, nameIndex := 175, descriptorIndex := 176, attributes := #[] }, { accessFlags := 10, nameIndex := 491, descriptorIndex := 222, attributes := #[] }, { accessFlags := 74, nameIndex := 29, descriptorIndex := 30, attributes := #[] }, { accessFlags := 74, nameIndex := 154, descriptorIndex := 155, attributes := #[] }, { accessFlags := 10, nameIndex := 217, descriptorIndex := 218, attributes := #[] }, { accessFlags := 10, nameIndex := 221, descriptorIndex := 222, attributes := #[] }, { accessFlags := 8, nameIndex := 562, descriptorIndex := 563, attributes := #[] }])
  fields := #[{ name := "in", type := (.object "java/io/InputStream"), accessFlags := 25, slot := 0, constantValue := 0 }, { name := "out", type := (.object "java/io/PrintStream"), accessFlags := 25, slot := 1, constantValue := 0 }, { name := "err", type := (.object "java/io/PrintStream"), accessFlags := 25, slot := 2, constantValue := 0 }, { name := "initialIn", type := (.object "java/io/InputStream"), accessFlags := 10, slot := 3, constantValue := 0 }, { name := "NEVER", type := .int, accessFlags := 26, slot := 4, constantValue := 0 }, { name := "MAYBE", type := .int, accessFlags := 26, slot := 5, constantValue := 0 }, { name := "allowSecurityManager", type := .int, accessFlags := 10, slot := 6, constantValue := 0 }, { name := "security", type := (.object "java/lang/SecurityManager"), accessFlags := 74, slot := 7, constantValue := 0 }, { name := "notSupportedJnuEncoding", type := (.object "java/lang/String"), accessFlags := 10, slot := 8, constantValue := 0 }, { name := "cons", type := (.object "java/io/Console"), accessFlags := 74, slot := 9, constantValue := 0 }, { name := "initialErrStream", type := (.object "java/io/PrintStream"), accessFlags := 74, slot := 10, constantValue := 0 }, { name := "props", type := (.object "java/util/Properties"), accessFlags := 10, slot := 11, constantValue := 0 }, { name := "lineSeparator", type := (.object "java/lang/String"), accessFlags := 10, slot := 12, constantValue := 0 }, { name := "bootLayer", type := (.object "java/lang/ModuleLayer"), accessFlags := 8, slot := 13, constantValue := 0 }]
  methods := #[k15m0, k15m1]
  instanceTypes := #[]
  staticTypes := #[(.object "java/io/InputStream"), (.object "java/io/PrintStream"), (.object "java/io/PrintStream"), (.object "java/io/InputStream"), .int, .int, .int, (.object "java/lang/SecurityManager"), (.object "java/lang/String"), (.object "java/io/Console"), (.object "java/io/PrintStream"), (.object "java/util/Properties"), (.object "java/lang/String"), (.object "java/lang/ModuleLayer")]
  resolved := Array.replicate 834 none
  statics := none }

def pool16 : Array CpInfo := pool [(2, .class_ 4), (1, u "java/lang/Object"), (0, u "<init>"), (0, u "()V"), (35, .class_ 44), (1, u "java/util/Objects"), (0, u "requireNonNull"), (0, u "(Ljava/lang/Object;)Ljava/lang/Object;")] 137

def k16m0 : Method := { name := "<init>", desc := "()V", sig := { parameters := [], returnType := none }, accessFlags := 2, code := none }
def k16c1 : Code := { maxStack := 2, maxLocals := 1, code := jdk_31_method_10_code, exceptionTable := #[], attributes := #[] }
def k16m1 : Method := { name := "requireNonNull", desc := "(Ljava/lang/Object;)Ljava/lang/Object;", sig := { parameters := [(.object "java/lang/Object")], returnType := some (.object "java/lang/Object") }, accessFlags := 9, code := some k16c1 }
/-- java/util/Objects -/
def k16 : Class := { plain "java/util/Objects" (some 0) with
  accessFlags := 49
  interfaces := #[]
  cf := some (fileOf pool16 42 #[] #[{ accessFlags := 2, nameIndex := 5, descriptorIndex := 6, attributes := #[] }, { accessFlags := 9, nameIndex := 45, descriptorIndex := 46, attributes := #[] }] 49 2 #[] #[])
  fields := #[]
  methods := #[k16m0, k16m1]
  instanceTypes := #[]
  staticTypes := #[]
  resolved := Array.replicate 184 none
  statics := none }

def pool17 : Array CpInfo := pool [(9, u "<init>"), (6, .class_ 18), (1, u "java/lang/Object"), (0, u "()V"), (1, .class_ 23), (1, u "jdk/internal/util/ArraysSupport"), (0, u "LOG2_ARRAY_LONG_INDEX_SCALE"), (0, u "I"), (2, u "U"), (0, u "Ljdk/internal/misc/Unsafe;"), (8, u "BIG_ENDIAN"), (0, u "Z"), (8, u "LOG2_BYTE_BIT_SIZE"), (4, u "LOG2_ARRAY_INT_INDEX_SCALE"), (54, u "JLA"), (0, u "Ljdk/internal/access/JavaLangAccess;"), (11, u "LOG2_ARRAY_BOOLEAN_INDEX_SCALE"), (9, u "LOG2_ARRAY_BYTE_INDEX_SCALE"), (5, u "LOG2_ARRAY_CHAR_INDEX_SCALE"), (5, u "LOG2_ARRAY_SHORT_INDEX_SCALE"), (18, u "LOG2_ARRAY_FLOAT_INDEX_SCALE"), (24, u "LOG2_ARRAY_DOUBLE_INDEX_SCALE"), (89, u "T_BOOLEAN"), (2, u "T_CHAR"), (1, u "T_FLOAT"), (1, u "T_DOUBLE"), (1, u "T_BYTE"), (1, u "T_SHORT"), (1, u "T_INT"), (1, u "T_LONG"), (1, u "SOFT_MAX_ARRAY_LENGTH")] 83

def k17m0 : Method := { name := "<init>", desc := "()V", sig := { parameters := [], returnType := none }, accessFlags := 2, code := none }
/-- jdk/internal/util/ArraysSupport -/
def k17 : Class := { plain "jdk/internal/util/ArraysSupport" (some 0) with
  accessFlags := 33
  interfaces := #[]
  cf := some (fileOf pool17 21 #[] #[{ accessFlags := 2, nameIndex := 9, descriptorIndex := 19, attributes := #[] }] 33 16 #[] #[{ accessFlags := 24, nameIndex := 28, descriptorIndex := 29, attributes := #[] }, { accessFlags := 26, nameIndex := 38, descriptorIndex := 39, attributes := #[] }, { accessFlags := 25, nameIndex := 121, descriptorIndex := 25, attributes := #[] }, { accessFlags := 25, nameIndex := 131, descriptorIndex := 25, attributes := #[] }, { accessFlags := 25, nameIndex := 137, descriptorIndex := 25, attributes := #[] }, { accessFlags := 25, nameIndex := 143, descriptorIndex := 25, attributes := #[] }, { accessFlags := 25, nameIndex := 53, descriptorIndex := 25, attributes := #[] }, { accessFlags := 25, nameIndex := 24, descriptorIndex := 25, attributes := #[] }, { accessFlags := 25, nameIndex := 162, descriptorIndex := 25, attributes := #[] }, { accessFlags := 25, nameIndex := 187, descriptorIndex := 25, attributes := #[] }, { accessFlags := 26, nameIndex := 48, descriptorIndex := 25, attributes := #[] }, { accessFlags := 25, nameIndex := 277, descriptorIndex := 25, attributes := #[] }, { accessFlags := 25, nameIndex := 280, descriptorIndex := 25, attributes := #[] }, { accessFlags := 25, nameIndex := 282, descriptorIndex := 25, attributes := #[] }, { accessFlags := 25, nameIndex := 284, descriptorIndex := 25, attributes := #[] }, { accessFlags := 25, nameIndex := 286, descriptorIndex := 25, attributes := #[] }, { accessFlags := 25, nameIndex := 288, descriptorIndex := 25, attributes := #[] }, { accessFlags := 25, nameIndex := 290, descriptorIndex := 25, attributes := #[] }, { accessFlags := 25, nameIndex := 292, descriptorIndex := 25, attributes := #[] }, { accessFlags := 26, nameIndex := 108, descriptorIndex := 109, attributes := #[] }, { accessFlags := 25, nameIndex := 294, descriptorIndex := 25, attributes := #[] }])
  fields := #[{ name := "U", type := (.object "jdk/internal/misc/Unsafe"), accessFlags := 24, slot := 0, constantValue := 0 }, { name := "BIG_ENDIAN", type := .boolean, accessFlags := 26, slot := 1, constantValue := 0 }, { name := "LOG2_ARRAY_BOOLEAN_INDEX_SCALE", type := .int, accessFlags := 25, slot := 2, constantValue := 0 }, { name := "LOG2_ARRAY_BYTE_INDEX_SCALE", type := .int, accessFlags := 25, slot := 3, constantValue := 0 }, { name := "LOG2_ARRAY_CHAR_INDEX_SCALE", type := .int, accessFlags := 25, slot := 4, constantValue := 0 }, { name := "LOG2_ARRAY_SHORT_INDEX_SCALE", type := .int, accessFlags := 25, slot := 5, constantValue := 0 }, { name := "LOG2_ARRAY_INT_INDEX_SCALE", type := .int, accessFlags := 25, slot := 6, constantValue := 0 }, { name := "LOG2_ARRAY_LONG_INDEX_SCALE", type := .int, accessFlags := 25, slot := 7, constantValue := 0 }, { name := "LOG2_ARRAY_FLOAT_INDEX_SCALE", type := .int, accessFlags := 25, slot := 8, constantValue := 0 }, { name := "LOG2_ARRAY_DOUBLE_INDEX_SCALE", type := .int, accessFlags := 25, slot := 9, constantValue := 0 }, { name := "LOG2_BYTE_BIT_SIZE", type := .int, accessFlags := 26, slot := 10, constantValue := 0 }, { name := "T_BOOLEAN", type := .int, accessFlags := 25, slot := 11, constantValue := 0 }, { name := "T_CHAR", type := .int, accessFlags := 25, slot := 12, constantValue := 0 }, { name := "T_FLOAT", type := .int, accessFlags := 25, slot := 13, constantValue := 0 }, { name := "T_DOUBLE", type := .int, accessFlags := 25, slot := 14, constantValue := 0 }, { name := "T_BYTE", type := .int, accessFlags := 25, slot := 15, constantValue := 0 }, { name := "T_SHORT", type := .int, accessFlags := 25, slot := 16, constantValue := 0 }, { name := "T_INT", type := .int, accessFlags := 25, slot := 17, constantValue := 0 }, { name := "T_LONG", type := .int, accessFlags := 25, slot := 18, constantValue := 0 }, { name := "JLA", type := (.object "jdk/internal/access/JavaLangAccess"), accessFlags := 26, slot := 19, constantValue := 0 }, { name := "SOFT_MAX_ARRAY_LENGTH", type := .int, accessFlags := 25, slot := 20, constantValue := 0 }]
  methods := #[k17m0]
  instanceTypes := #[]
  staticTypes := #[(.object "jdk/internal/misc/Unsafe"), .boolean, .int, .int, .int, .int, .int, .int, .int, .int, .int, .int, .int, .int, .int, .int, .int, .int, .int, (.object "jdk/internal/access/JavaLangAccess"), .int]
  resolved := Array.replicate 378 none
  statics := none }

def pool18 : Array CpInfo := pool [(1, u "java/lang/Cloneable"), (0, .class_ 1), (0, u "java/lang/Object"), (0, .class_ 3)] 3

/-- java/lang/Cloneable -/
def k18 : Class := { plain "java/lang/Cloneable" (some 0) with
  accessFlags := 1537
  interfaces := #[]
  cf := some (fileOf pool18 2 #[] #[] 1537 4 #[] #[])
  fields := #[]
  methods := #[]
  instanceTypes := #[]
  staticTypes := #[]
  resolved := Array.replicate 8 none
  statics := none }

/-- the primitive byte -/
def k19 : Class := { plain "byte" none with kind := .primitive 'B', accessFlags := 0x411 }
/-- [B -/
def k20 : Class := { plain "[B" (some 0) with kind := .array 19 .byte, interfaces := #[18, 2], accessFlags := 1041 }

/-- the primitive char -/
def k21 : Class := { plain "char" none with kind := .primitive 'C', accessFlags := 0x411 }
/-- [C -/
def k22 : Class := { plain "[C" (some 0) with kind := .array 21 .char, interfaces := #[18, 2], accessFlags := 1041 }

/-- the primitive int -/
def k23 : Class := { plain "int" none with kind := .primitive 'I', accessFlags := 0x411 }
/-- [I -/
def k24 : Class := { plain "[I" (some 0) with kind := .array 23 .int, interfaces := #[18, 2], accessFlags := 1041 }

def heap : Heap := #[{ cls := 7, slots := #[.long 0, .int 1, .null, .int 0, .null, .int 0, .int 0], vm := .statics 7 },
  { cls := 11, slots := #[.ref 3], vm := .statics 11 },
  { cls := 13, slots := #[.null, .null, .null], vm := .statics 13 },
  { cls := 11, slots := #[.null], vm := .none }]
def classes : Array Class := #[k0, k1, k2, k3, k4, k5, k6, k7, k8, k9, k10, k11, k12, k13, k14, k15, k16, k17, k18, k19, k20, k21, k22, k23, k24]
def interned : List (Array UInt16 × Addr) := []
def slotsUsed : Nat := 12
def theMethod : MethodId := ⟨1, 3⟩
def args0 : Array Value := #[.int 5, .int 6, .int 7, .int 8, .int 9]
def aboutOver (below : List Frame) : State where
  vm := { classes := classes, interned := interned.toArray }
  heap := heap
  slotsUsed := slotsUsed
  threads := #[{ frames := .invoking theMethod args0 :: below }]
def below0 : List Frame := [.native { method := ⟨0, 0⟩, args := #[] }]
def about1 : State := aboutOver below0
def p0 : Program := .bare "" "" ""
def e0 : Env := launch0.env 0 0 0
theorem w_frames : about1.frames = Frame.invoking theMethod args0 :: below0 := rfl
set_option maxRecDepth 65536 in
theorem w_args : argsFit about1.vm theMethod args0 = true := by decide +kernel
set_option maxRecDepth 65536 in
theorem w_heap : heapFits about1 = true := by decide +kernel
set_option maxRecDepth 65536 in
theorem w_runnable : about1.curStatus? = some .runnable := by decide +kernel
set_option maxRecDepth 65536 in
theorem w_alone : about1.alone = true := by decide +kernel
set_option maxRecDepth 65536 in
theorem w_named : about1.methodNamed? x = some theMethod := by decide +kernel
set_option maxRecDepth 65536 in
theorem w_hears : about1.hears theMethod below0 = true := by decide +kernel
set_option maxRecDepth 65536 in
theorem w_ripe : about1.ripe theMethod args0 below0 = true := by decide +kernel
theorem w_running : about1.status = .running := rfl
set_option maxRecDepth 65536 in
theorem w_room : about1.hasRoom e0.platform room_1 = true :=
  launch0.hasRoom_least _ room_1 (by decide +kernel) (by decide +kernel) (by decide +kernel) (by decide +kernel) (by decide +kernel) (by decide +kernel)
theorem allAtoms_all (ts : List Jvm.Cond) (a : Array Jvm.Value) (st : Jvm.State) : (allAtoms ts).before a st = ts.all (fun c => c.before a st) := by
  induction ts with
  | nil => rfl
  | cons c t ih =>
    show (Jvm.Cond.and c (allAtoms t)).before a st = _
    rw [Jvm.Cond.before_and, ih, List.all_cons]
def words1 : List Jvm.Cond := Jvm.Cond.code x code maxLocals ret :: tables_1
/-- a 'code' word, met by the world's own term for the bytes: nothing is compared byte by byte -/
theorem code_word {y : MethodName} {bytes : ByteArray} {mx : Nat} {rt : Option FieldType} {a : Array Value} {s : State} {m : MethodId} {meth : Method} {c : Code} (h1 : s.methodNamed? y = some m) (h2 : s.vm.method? m = some meth) (h3 : meth.code = some c) (h4 : c.code = bytes)
    (h5 : (c.maxLocals == mx && c.exceptionTable.isEmpty && decide (c.maxStack ≤ mostOperands) && decide (meth.sig.returnType = rt) && !meth.locks && decide (parseMethodDescriptor y.desc = some meth.sig)) = true) : (Jvm.Cond.code y bytes mx rt).before a s = true := by
  simp only [Bool.and_eq_true, beq_iff_eq, Bool.not_eq_true', decide_eq_true_eq] at h5
  obtain ⟨⟨⟨⟨⟨g1, g2⟩, g3⟩, g4⟩, g5⟩, g6⟩ := h5
  simp [Cond.before, Cond.holds, Cond.value, h1, h2, h3, h4, g1, g2, g3, g4, g5, g6]
def isCode : Jvm.Cond → Bool
  | .code _ _ _ _ => true
  | _ => false
theorem all_split {L : List Jvm.Cond} {P : Jvm.Cond → Bool} (h1 : L.all (fun c => isCode c || P c) = true) (h2 : ∀ c ∈ L.filter isCode, P c = true) : L.all P = true := by
  refine List.all_eq_true.mpr fun c hc => ?_
  have h := List.all_eq_true.mp h1 c hc
  rcases Bool.eq_false_or_eq_true (isCode c) with hi | hi
  · exact h2 c (List.mem_filter.mpr ⟨hc, hi⟩)
  · simpa [hi] using h
set_option maxRecDepth 65536 in
theorem w_c0 : (Jvm.Cond.code x code maxLocals ret).before args0 about1 = true := code_word (m := ⟨1, 3⟩) (meth := k1m3) (c := k1c3) (by decide +kernel) rfl rfl rfl (by decide +kernel)
set_option maxRecDepth 65536 in
theorem w_c1 : (Jvm.Cond.code ({ cls := "com/example/culpa/culpa/NamesFunctionPinLaw", name := "ch", desc := "(I)C" } : Jvm.MethodName) method_2_code (1 : Nat) (Option.some Jvm.ClassFile.FieldType.char)).before args0 about1 = true := code_word (m := ⟨1, 1⟩) (meth := k1m1) (c := k1c1) (by decide +kernel) rfl rfl rfl (by decide +kernel)
set_option maxRecDepth 65536 in
theorem w_c2 : (Jvm.Cond.code ({ cls := "com/example/culpa/culpa/NamesFunctionPinLaw", name := "mk", desc := "(ICCCC)Ljava/lang/String;" } : Jvm.MethodName) method_3_code (5 : Nat) (Option.some (Jvm.ClassFile.FieldType.object "java/lang/String"))).before args0 about1 = true := code_word (m := ⟨1, 2⟩) (meth := k1m2) (c := k1c2) (by decide +kernel) rfl rfl rfl (by decide +kernel)
set_option maxRecDepth 65536 in
theorem w_c3 : (Jvm.Cond.code ({ cls := "java/lang/String", name := "<init>", desc := "([C)V" } : Jvm.MethodName) jdk_42_method_3_code (2 : Nat) (Option.none : Option Jvm.ClassFile.FieldType)).before args0 about1 = true := code_word (m := ⟨7, 1⟩) (meth := k7m1) (c := k7c1) (by decide +kernel) rfl rfl rfl (by decide +kernel)
set_option maxRecDepth 65536 in
theorem w_c4 : (Jvm.Cond.code ({ cls := "java/lang/String", name := "<init>", desc := "([CIILjava/lang/Void;)V" } : Jvm.MethodName) jdk_42_method_149_code (6 : Nat) (Option.none : Option Jvm.ClassFile.FieldType)).before args0 about1 = true := code_word (m := ⟨7, 7⟩) (meth := k7m7) (c := k7c7) (by decide +kernel) rfl rfl rfl (by decide +kernel)
set_option maxRecDepth 65536 in
theorem w_c5 : (Jvm.Cond.code ({ cls := "java/lang/Object", name := "<init>", desc := "()V" } : Jvm.MethodName) object_method_1_code (1 : Nat) (Option.none : Option Jvm.ClassFile.FieldType)).before args0 about1 = true := code_word (m := ⟨0, 0⟩) (meth := k0m0) (c := k0c0) (by decide +kernel) rfl rfl rfl (by decide +kernel)
set_option maxRecDepth 65536 in
theorem w_c6 : (Jvm.Cond.code ({ cls := "com/example/culpa/culpa/Names", name := "function", desc := "(Ljava/lang/String;)Ljava/util/Optional;" } : Jvm.MethodName) prog_39_method_6_code (2 : Nat) (Option.some (Jvm.ClassFile.FieldType.object "java/util/Optional"))).before args0 about1 = true := code_word (m := ⟨8, 0⟩) (meth := k8m0) (c := k8c0) (by decide +kernel) rfl rfl rfl (by decide +kernel)
set_option maxRecDepth 65536 in
theorem w_c7 : (Jvm.Cond.code ({ cls := "java/lang/String", name := "lastIndexOf", desc := "(I)I" } : Jvm.MethodName) jdk_42_method_82_code (2 : Nat) (Option.some Jvm.ClassFile.FieldType.int)).before args0 about1 = true := code_word (m := ⟨7, 4⟩) (meth := k7m4) (c := k7c4) (by decide +kernel) rfl rfl rfl (by decide +kernel)
set_option maxRecDepth 65536 in
theorem w_c8 : (Jvm.Cond.code ({ cls := "java/lang/String", name := "length", desc := "()I" } : Jvm.MethodName) jdk_42_method_54_code (1 : Nat) (Option.some Jvm.ClassFile.FieldType.int)).before args0 about1 = true := code_word (m := ⟨7, 2⟩) (meth := k7m2) (c := k7c2) (by decide +kernel) rfl rfl rfl (by decide +kernel)
set_option maxRecDepth 65536 in
theorem w_c9 : (Jvm.Cond.code ({ cls := "java/lang/String", name := "coder", desc := "()B" } : Jvm.MethodName) jdk_42_method_152_code (1 : Nat) (Option.some Jvm.ClassFile.FieldType.byte)).before args0 about1 = true := code_word (m := ⟨7, 9⟩) (meth := k7m9) (c := k7c9) (by decide +kernel) rfl rfl rfl (by decide +kernel)
set_option maxRecDepth 65536 in
theorem w_c10 : (Jvm.Cond.code ({ cls := "java/lang/String", name := "lastIndexOf", desc := "(II)I" } : Jvm.MethodName) jdk_42_method_83_code (3 : Nat) (Option.some Jvm.ClassFile.FieldType.int)).before args0 about1 = true := code_word (m := ⟨7, 5⟩) (meth := k7m5) (c := k7c5) (by decide +kernel) rfl rfl rfl (by decide +kernel)
set_option maxRecDepth 65536 in
theorem w_c11 : (Jvm.Cond.code ({ cls := "java/lang/String", name := "isLatin1", desc := "()Z" } : Jvm.MethodName) jdk_42_method_154_code (1 : Nat) (Option.some Jvm.ClassFile.FieldType.boolean)).before args0 about1 = true := code_word (m := ⟨7, 10⟩) (meth := k7m10) (c := k7c10) (by decide +kernel) rfl rfl rfl (by decide +kernel)
set_option maxRecDepth 65536 in
theorem w_c12 : (Jvm.Cond.code ({ cls := "java/lang/StringLatin1", name := "lastIndexOf", desc := "([BII)I" } : Jvm.MethodName) jdk_43_method_27_code (4 : Nat) (Option.some Jvm.ClassFile.FieldType.int)).before args0 about1 = true := code_word (m := ⟨9, 3⟩) (meth := k9m3) (c := k9c3) (by decide +kernel) rfl rfl rfl (by decide +kernel)
set_option maxRecDepth 65536 in
theorem w_c13 : (Jvm.Cond.code ({ cls := "java/lang/StringLatin1", name := "canEncode", desc := "(I)Z" } : Jvm.MethodName) jdk_43_method_4_code (1 : Nat) (Option.some Jvm.ClassFile.FieldType.boolean)).before args0 about1 = true := code_word (m := ⟨9, 1⟩) (meth := k9m1) (c := k9c1) (by decide +kernel) rfl rfl rfl (by decide +kernel)
set_option maxRecDepth 65536 in
theorem w_c14 : (Jvm.Cond.code ({ cls := "java/lang/Math", name := "min", desc := "(II)I" } : Jvm.MethodName) jdk_29_method_69_code (2 : Nat) (Option.some Jvm.ClassFile.FieldType.int)).before args0 about1 = true := code_word (m := ⟨10, 1⟩) (meth := k10m1) (c := k10c1) (by decide +kernel) rfl rfl rfl (by decide +kernel)
set_option maxRecDepth 65536 in
theorem w_c15 : (Jvm.Cond.code ({ cls := "java/util/Optional", name := "empty", desc := "()Ljava/util/Optional;" } : Jvm.MethodName) jdk_32_method_1_code (1 : Nat) (Option.some (Jvm.ClassFile.FieldType.object "java/util/Optional"))).before args0 about1 = true := code_word (m := ⟨11, 0⟩) (meth := k11m0) (c := k11c0) (by decide +kernel) rfl rfl rfl (by decide +kernel)
set_option maxRecDepth 65536 in
theorem w_c16 : (Jvm.Cond.code ({ cls := "java/util/Optional", name := "isPresent", desc := "()Z" } : Jvm.MethodName) jdk_32_method_6_code (1 : Nat) (Option.some Jvm.ClassFile.FieldType.boolean)).before args0 about1 = true := code_word (m := ⟨11, 4⟩) (meth := k11m4) (c := k11c4) (by decide +kernel) rfl rfl rfl (by decide +kernel)
set_option maxRecDepth 65536 in
theorem w_c17 : (Jvm.Cond.code ({ cls := "java/lang/StringUTF16", name := "compress", desc := "([CII)[B" } : Jvm.MethodName) jdk_52_method_16_code (6 : Nat) (Option.some (Jvm.ClassFile.FieldType.array Jvm.ClassFile.FieldType.byte))).before args0 about1 = true := code_word (m := ⟨12, 2⟩) (meth := k12m2) (c := k12c2) (by decide +kernel) rfl rfl rfl (by decide +kernel)
set_option maxRecDepth 65536 in
theorem w_c18 : (Jvm.Cond.code ({ cls := "java/lang/StringUTF16", name := "compress", desc := "([CI[BII)I" } : Jvm.MethodName) jdk_52_method_21_code (7 : Nat) (Option.some Jvm.ClassFile.FieldType.int)).before args0 about1 = true := code_word (m := ⟨12, 3⟩) (meth := k12m3) (c := k12c3) (by decide +kernel) rfl rfl rfl (by decide +kernel)
set_option maxRecDepth 65536 in
theorem w_c19 : (Jvm.Cond.code ({ cls := "java/lang/StringUTF16", name := "coderFromArrayLen", desc := "([BI)B" } : Jvm.MethodName) jdk_52_method_15_code (2 : Nat) (Option.some Jvm.ClassFile.FieldType.byte)).before args0 about1 = true := code_word (m := ⟨12, 1⟩) (meth := k12m1) (c := k12c1) (by decide +kernel) rfl rfl rfl (by decide +kernel)
set_option maxRecDepth 65536 in
theorem w_c20 : (Jvm.Cond.code ({ cls := "java/lang/String", name := "substring", desc := "(II)Ljava/lang/String;" } : Jvm.MethodName) jdk_42_method_92_code (5 : Nat) (Option.some (Jvm.ClassFile.FieldType.object "java/lang/String"))).before args0 about1 = true := code_word (m := ⟨7, 6⟩) (meth := k7m6) (c := k7c6) (by decide +kernel) rfl rfl rfl (by decide +kernel)
set_option maxRecDepth 65536 in
theorem w_c21 : (Jvm.Cond.code ({ cls := "java/lang/String", name := "checkBoundsBeginEnd", desc := "(III)V" } : Jvm.MethodName) jdk_42_method_158_code (3 : Nat) (Option.none : Option Jvm.ClassFile.FieldType)).before args0 about1 = true := code_word (m := ⟨7, 11⟩) (meth := k7m11) (c := k7c11) (by decide +kernel) rfl rfl rfl (by decide +kernel)
set_option maxRecDepth 65536 in
theorem w_c22 : (Jvm.Cond.code ({ cls := "jdk/internal/util/Preconditions", name := "checkFromToIndex", desc := "(IIILjava/util/function/BiFunction;)I" } : Jvm.MethodName) jdk_41_method_12_code (4 : Nat) (Option.some Jvm.ClassFile.FieldType.int)).before args0 about1 = true := code_word (m := ⟨13, 1⟩) (meth := k13m1) (c := k13c1) (by decide +kernel) rfl rfl rfl (by decide +kernel)
set_option maxRecDepth 65536 in
theorem w_c23 : (Jvm.Cond.code ({ cls := "java/lang/StringLatin1", name := "newString", desc := "([BII)Ljava/lang/String;" } : Jvm.MethodName) jdk_43_method_47_code (3 : Nat) (Option.some (Jvm.ClassFile.FieldType.object "java/lang/String"))).before args0 about1 = true := code_word (m := ⟨9, 4⟩) (meth := k9m4) (c := k9c4) (by decide +kernel) rfl rfl rfl (by decide +kernel)
set_option maxRecDepth 65536 in
theorem w_c24 : (Jvm.Cond.code ({ cls := "java/util/Arrays", name := "copyOfRange", desc := "([BII)[B" } : Jvm.MethodName) jdk_65_method_132_code (3 : Nat) (Option.some (Jvm.ClassFile.FieldType.array Jvm.ClassFile.FieldType.byte))).before args0 about1 = true := code_word (m := ⟨14, 2⟩) (meth := k14m2) (c := k14c2) (by decide +kernel) rfl rfl rfl (by decide +kernel)
set_option maxRecDepth 65536 in
theorem w_c25 : (Jvm.Cond.code ({ cls := "java/util/Arrays", name := "copyOfRangeByte", desc := "([BII)[B" } : Jvm.MethodName) jdk_65_method_133_code (5 : Nat) (Option.some (Jvm.ClassFile.FieldType.array Jvm.ClassFile.FieldType.byte))).before args0 about1 = true := code_word (m := ⟨14, 3⟩) (meth := k14m3) (c := k14c3) (by decide +kernel) rfl rfl rfl (by decide +kernel)
set_option maxRecDepth 65536 in
theorem w_c26 : (Jvm.Cond.code ({ cls := "java/util/Arrays", name := "checkLength", desc := "(II)V" } : Jvm.MethodName) jdk_65_method_131_code (2 : Nat) (Option.none : Option Jvm.ClassFile.FieldType)).before args0 about1 = true := code_word (m := ⟨14, 1⟩) (meth := k14m1) (c := k14c1) (by decide +kernel) rfl rfl rfl (by decide +kernel)
set_option maxRecDepth 65536 in
theorem w_c27 : (Jvm.Cond.code ({ cls := "java/lang/String", name := "<init>", desc := "([BB)V" } : Jvm.MethodName) jdk_42_method_151_code (3 : Nat) (Option.none : Option Jvm.ClassFile.FieldType)).before args0 about1 = true := code_word (m := ⟨7, 8⟩) (meth := k7m8) (c := k7c8) (by decide +kernel) rfl rfl rfl (by decide +kernel)
set_option maxRecDepth 65536 in
theorem w_c28 : (Jvm.Cond.code ({ cls := "java/util/Optional", name := "of", desc := "(Ljava/lang/Object;)Ljava/util/Optional;" } : Jvm.MethodName) jdk_32_method_3_code (1 : Nat) (Option.some (Jvm.ClassFile.FieldType.object "java/util/Optional"))).before args0 about1 = true := code_word (m := ⟨11, 2⟩) (meth := k11m2) (c := k11c2) (by decide +kernel) rfl rfl rfl (by decide +kernel)
set_option maxRecDepth 65536 in
theorem w_c29 : (Jvm.Cond.code ({ cls := "java/util/Objects", name := "requireNonNull", desc := "(Ljava/lang/Object;)Ljava/lang/Object;" } : Jvm.MethodName) jdk_31_method_10_code (1 : Nat) (Option.some (Jvm.ClassFile.FieldType.object "java/lang/Object"))).before args0 about1 = true := code_word (m := ⟨16, 1⟩) (meth := k16m1) (c := k16c1) (by decide +kernel) rfl rfl rfl (by decide +kernel)
set_option maxRecDepth 65536 in
theorem w_c30 : (Jvm.Cond.code ({ cls := "java/util/Optional", name := "<init>", desc := "(Ljava/lang/Object;)V" } : Jvm.MethodName) jdk_32_method_2_code (2 : Nat) (Option.none : Option Jvm.ClassFile.FieldType)).before args0 about1 = true := code_word (m := ⟨11, 1⟩) (meth := k11m1) (c := k11c1) (by decide +kernel) rfl rfl rfl (by decide +kernel)
set_option maxRecDepth 65536 in
theorem w_c31 : (Jvm.Cond.code ({ cls := "java/util/Optional", name := "get", desc := "()Ljava/lang/Object;" } : Jvm.MethodName) jdk_32_method_5_code (1 : Nat) (Option.some (Jvm.ClassFile.FieldType.object "java/lang/Object"))).before args0 about1 = true := code_word (m := ⟨11, 3⟩) (meth := k11m3) (c := k11c3) (by decide +kernel) rfl rfl rfl (by decide +kernel)
set_option maxRecDepth 65536 in
theorem w_c32 : (Jvm.Cond.code ({ cls := "java/lang/String", name := "equals", desc := "(Ljava/lang/Object;)Z" } : Jvm.MethodName) jdk_42_method_66_code (3 : Nat) (Option.some Jvm.ClassFile.FieldType.boolean)).before args0 about1 = true := code_word (m := ⟨7, 3⟩) (meth := k7m3) (c := k7c3) (by decide +kernel) rfl rfl rfl (by decide +kernel)
set_option maxRecDepth 65536 in
theorem w_c33 : (Jvm.Cond.code ({ cls := "java/lang/StringLatin1", name := "equals", desc := "([B[B)Z" } : Jvm.MethodName) jdk_43_method_13_code (3 : Nat) (Option.some Jvm.ClassFile.FieldType.boolean)).before args0 about1 = true := code_word (m := ⟨9, 2⟩) (meth := k9m2) (c := k9c2) (by decide +kernel) rfl rfl rfl (by decide +kernel)
def codes1 : List Jvm.Cond := [Jvm.Cond.code x code maxLocals ret, Jvm.Cond.code ({ cls := "com/example/culpa/culpa/NamesFunctionPinLaw", name := "ch", desc := "(I)C" } : Jvm.MethodName) method_2_code (1 : Nat) (Option.some Jvm.ClassFile.FieldType.char), Jvm.Cond.code ({ cls := "com/example/culpa/culpa/NamesFunctionPinLaw", name := "mk", desc := "(ICCCC)Ljava/lang/String;" } : Jvm.MethodName) method_3_code (5 : Nat) (Option.some (Jvm.ClassFile.FieldType.object "java/lang/String")), Jvm.Cond.code ({ cls := "java/lang/String", name := "<init>", desc := "([C)V" } : Jvm.MethodName) jdk_42_method_3_code (2 : Nat) (Option.none : Option Jvm.ClassFile.FieldType), Jvm.Cond.code ({ cls := "java/lang/String", name := "<init>", desc := "([CIILjava/lang/Void;)V" } : Jvm.MethodName) jdk_42_method_149_code (6 : Nat) (Option.none : Option Jvm.ClassFile.FieldType), Jvm.Cond.code ({ cls := "java/lang/Object", name := "<init>", desc := "()V" } : Jvm.MethodName) object_method_1_code (1 : Nat) (Option.none : Option Jvm.ClassFile.FieldType), Jvm.Cond.code ({ cls := "com/example/culpa/culpa/Names", name := "function", desc := "(Ljava/lang/String;)Ljava/util/Optional;" } : Jvm.MethodName) prog_39_method_6_code (2 : Nat) (Option.some (Jvm.ClassFile.FieldType.object "java/util/Optional")), Jvm.Cond.code ({ cls := "java/lang/String", name := "lastIndexOf", desc := "(I)I" } : Jvm.MethodName) jdk_42_method_82_code (2 : Nat) (Option.some Jvm.ClassFile.FieldType.int), Jvm.Cond.code ({ cls := "java/lang/String", name := "length", desc := "()I" } : Jvm.MethodName) jdk_42_method_54_code (1 : Nat) (Option.some Jvm.ClassFile.FieldType.int), Jvm.Cond.code ({ cls := "java/lang/String", name := "coder", desc := "()B" } : Jvm.MethodName) jdk_42_method_152_code (1 : Nat) (Option.some Jvm.ClassFile.FieldType.byte), Jvm.Cond.code ({ cls := "java/lang/String", name := "lastIndexOf", desc := "(II)I" } : Jvm.MethodName) jdk_42_method_83_code (3 : Nat) (Option.some Jvm.ClassFile.FieldType.int), Jvm.Cond.code ({ cls := "java/lang/String", name := "isLatin1", desc := "()Z" } : Jvm.MethodName) jdk_42_method_154_code (1 : Nat) (Option.some Jvm.ClassFile.FieldType.boolean), Jvm.Cond.code ({ cls := "java/lang/StringLatin1", name := "lastIndexOf", desc := "([BII)I" } : Jvm.MethodName) jdk_43_method_27_code (4 : Nat) (Option.some Jvm.ClassFile.FieldType.int), Jvm.Cond.code ({ cls := "java/lang/StringLatin1", name := "canEncode", desc := "(I)Z" } : Jvm.MethodName) jdk_43_method_4_code (1 : Nat) (Option.some Jvm.ClassFile.FieldType.boolean), Jvm.Cond.code ({ cls := "java/lang/Math", name := "min", desc := "(II)I" } : Jvm.MethodName) jdk_29_method_69_code (2 : Nat) (Option.some Jvm.ClassFile.FieldType.int), Jvm.Cond.code ({ cls := "java/util/Optional", name := "empty", desc := "()Ljava/util/Optional;" } : Jvm.MethodName) jdk_32_method_1_code (1 : Nat) (Option.some (Jvm.ClassFile.FieldType.object "java/util/Optional")), Jvm.Cond.code ({ cls := "java/util/Optional", name := "isPresent", desc := "()Z" } : Jvm.MethodName) jdk_32_method_6_code (1 : Nat) (Option.some Jvm.ClassFile.FieldType.boolean), Jvm.Cond.code ({ cls := "java/lang/StringUTF16", name := "compress", desc := "([CII)[B" } : Jvm.MethodName) jdk_52_method_16_code (6 : Nat) (Option.some (Jvm.ClassFile.FieldType.array Jvm.ClassFile.FieldType.byte)), Jvm.Cond.code ({ cls := "java/lang/StringUTF16", name := "compress", desc := "([CI[BII)I" } : Jvm.MethodName) jdk_52_method_21_code (7 : Nat) (Option.some Jvm.ClassFile.FieldType.int), Jvm.Cond.code ({ cls := "java/lang/StringUTF16", name := "coderFromArrayLen", desc := "([BI)B" } : Jvm.MethodName) jdk_52_method_15_code (2 : Nat) (Option.some Jvm.ClassFile.FieldType.byte), Jvm.Cond.code ({ cls := "java/lang/String", name := "substring", desc := "(II)Ljava/lang/String;" } : Jvm.MethodName) jdk_42_method_92_code (5 : Nat) (Option.some (Jvm.ClassFile.FieldType.object "java/lang/String")), Jvm.Cond.code ({ cls := "java/lang/String", name := "checkBoundsBeginEnd", desc := "(III)V" } : Jvm.MethodName) jdk_42_method_158_code (3 : Nat) (Option.none : Option Jvm.ClassFile.FieldType), Jvm.Cond.code ({ cls := "jdk/internal/util/Preconditions", name := "checkFromToIndex", desc := "(IIILjava/util/function/BiFunction;)I" } : Jvm.MethodName) jdk_41_method_12_code (4 : Nat) (Option.some Jvm.ClassFile.FieldType.int), Jvm.Cond.code ({ cls := "java/lang/StringLatin1", name := "newString", desc := "([BII)Ljava/lang/String;" } : Jvm.MethodName) jdk_43_method_47_code (3 : Nat) (Option.some (Jvm.ClassFile.FieldType.object "java/lang/String")), Jvm.Cond.code ({ cls := "java/util/Arrays", name := "copyOfRange", desc := "([BII)[B" } : Jvm.MethodName) jdk_65_method_132_code (3 : Nat) (Option.some (Jvm.ClassFile.FieldType.array Jvm.ClassFile.FieldType.byte)), Jvm.Cond.code ({ cls := "java/util/Arrays", name := "copyOfRangeByte", desc := "([BII)[B" } : Jvm.MethodName) jdk_65_method_133_code (5 : Nat) (Option.some (Jvm.ClassFile.FieldType.array Jvm.ClassFile.FieldType.byte)), Jvm.Cond.code ({ cls := "java/util/Arrays", name := "checkLength", desc := "(II)V" } : Jvm.MethodName) jdk_65_method_131_code (2 : Nat) (Option.none : Option Jvm.ClassFile.FieldType), Jvm.Cond.code ({ cls := "java/lang/String", name := "<init>", desc := "([BB)V" } : Jvm.MethodName) jdk_42_method_151_code (3 : Nat) (Option.none : Option Jvm.ClassFile.FieldType), Jvm.Cond.code ({ cls := "java/util/Optional", name := "of", desc := "(Ljava/lang/Object;)Ljava/util/Optional;" } : Jvm.MethodName) jdk_32_method_3_code (1 : Nat) (Option.some (Jvm.ClassFile.FieldType.object "java/util/Optional")), Jvm.Cond.code ({ cls := "java/util/Objects", name := "requireNonNull", desc := "(Ljava/lang/Object;)Ljava/lang/Object;" } : Jvm.MethodName) jdk_31_method_10_code (1 : Nat) (Option.some (Jvm.ClassFile.FieldType.object "java/lang/Object")), Jvm.Cond.code ({ cls := "java/util/Optional", name := "<init>", desc := "(Ljava/lang/Object;)V" } : Jvm.MethodName) jdk_32_method_2_code (2 : Nat) (Option.none : Option Jvm.ClassFile.FieldType), Jvm.Cond.code ({ cls := "java/util/Optional", name := "get", desc := "()Ljava/lang/Object;" } : Jvm.MethodName) jdk_32_method_5_code (1 : Nat) (Option.some (Jvm.ClassFile.FieldType.object "java/lang/Object")), Jvm.Cond.code ({ cls := "java/lang/String", name := "equals", desc := "(Ljava/lang/Object;)Z" } : Jvm.MethodName) jdk_42_method_66_code (3 : Nat) (Option.some Jvm.ClassFile.FieldType.boolean), Jvm.Cond.code ({ cls := "java/lang/StringLatin1", name := "equals", desc := "([B[B)Z" } : Jvm.MethodName) jdk_43_method_13_code (3 : Nat) (Option.some Jvm.ClassFile.FieldType.boolean)]
set_option maxRecDepth 65536 in
theorem codes_eq : words1.filter isCode = codes1 := rfl
theorem w_codes : ∀ c ∈ words1.filter isCode, c.before args0 about1 = true := by
  rw [codes_eq]
  intro c hc
  simp only [codes1, List.mem_cons, List.not_mem_nil, or_false] at hc
  rcases hc with rfl | rfl | rfl | rfl | rfl | rfl | rfl | rfl | rfl | rfl | rfl | rfl | rfl | rfl | rfl | rfl | rfl | rfl | rfl | rfl | rfl | rfl | rfl | rfl | rfl | rfl | rfl | rfl | rfl | rfl | rfl | rfl | rfl | rfl
  · exact w_c0
  · exact w_c1
  · exact w_c2
  · exact w_c3
  · exact w_c4
  · exact w_c5
  · exact w_c6
  · exact w_c7
  · exact w_c8
  · exact w_c9
  · exact w_c10
  · exact w_c11
  · exact w_c12
  · exact w_c13
  · exact w_c14
  · exact w_c15
  · exact w_c16
  · exact w_c17
  · exact w_c18
  · exact w_c19
  · exact w_c20
  · exact w_c21
  · exact w_c22
  · exact w_c23
  · exact w_c24
  · exact w_c25
  · exact w_c26
  · exact w_c27
  · exact w_c28
  · exact w_c29
  · exact w_c30
  · exact w_c31
  · exact w_c32
  · exact w_c33
set_option maxRecDepth 65536 in
theorem w_t1 : (words1.take 24).all (fun c => isCode c || c.before args0 about1) = true := by decide +kernel
set_option maxRecDepth 65536 in
theorem w_t2 : ((words1.drop 24).take 24).all (fun c => isCode c || c.before args0 about1) = true := by decide +kernel
set_option maxRecDepth 65536 in
theorem w_t3 : (((words1.drop 24).drop 24).take 24).all (fun c => isCode c || c.before args0 about1) = true := by decide +kernel
set_option maxRecDepth 65536 in
theorem w_t4 : ((((words1.drop 24).drop 24).drop 24).take 24).all (fun c => isCode c || c.before args0 about1) = true := by decide +kernel
set_option maxRecDepth 65536 in
theorem w_t5 : (((((words1.drop 24).drop 24).drop 24).drop 24).take 24).all (fun c => isCode c || c.before args0 about1) = true := by decide +kernel
set_option maxRecDepth 65536 in
theorem w_t6 : ((((((words1.drop 24).drop 24).drop 24).drop 24).drop 24).take 24).all (fun c => isCode c || c.before args0 about1) = true := by decide +kernel
set_option maxRecDepth 65536 in
theorem w_t7 : ((((((words1.drop 24).drop 24).drop 24).drop 24).drop 24).drop 24).all (fun c => isCode c || c.before args0 about1) = true := by decide +kernel
theorem w_tables : (allAtoms (Jvm.Cond.code x code maxLocals ret :: tables_1)).before args0 about1 = true := by
  rw [allAtoms_all]
  show words1.all (fun c => c.before args0 about1) = true
  refine all_split ?_ w_codes
  rw [← List.take_append_drop 24 words1, List.all_append, w_t1, ← List.take_append_drop 24 (words1.drop 24), List.all_append, w_t2, ← List.take_append_drop 24 ((words1.drop 24).drop 24), List.all_append, w_t3, ← List.take_append_drop 24 (((words1.drop 24).drop 24).drop 24), List.all_append, w_t4, ← List.take_append_drop 24 ((((words1.drop 24).drop 24).drop 24).drop 24), List.all_append, w_t5, ← List.take_append_drop 24 (((((words1.drop 24).drop 24).drop 24).drop 24).drop 24), List.all_append, w_t6, w_t7]
  rfl
set_option maxRecDepth 65536 in
theorem w_rest : rest_1_c.before args0 about1 = true := by decide +kernel
set_option maxRecDepth 65536 in
theorem w_case : (Jvm.Cond.and given_1 narrow_1).before args0 about1 = true := by decide +kernel
set_option maxRecDepth 65536 in
theorem w_consts : constsHeld consts_1 about1 := Jvm.Lit.constsHeldB_iff.mp (by decide +kernel)
theorem w_applies : (headSpec (Jvm.Cond.code x code maxLocals ret :: tables_1) room_1).applies x e0.platform about1 = true :=
  (Spec.applies_iff w_frames).mpr ⟨w_running, w_runnable, w_alone, w_named, w_hears, w_ripe, w_room, w_tables⟩
theorem atStart : AtStart classFile x code maxLocals ret World_1 tables_1 room_1 Calls_1 rest_1 Pre_1 launch0 p0 e0 about1 theMethod args0 below0 :=
  ⟨lists_1, trivial, launch0.admits_env _ _ _, launch0.least_env, fairChoices_fair.cas, fairChoices_fair.clock, w_frames, w_args, w_heap, w_applies, ⟨w_consts, trivial⟩, w_rest, w_case⟩
end start1
theorem witness_1 : WitnessClaimed_1 := ⟨start1.p0, start1.e0, start1.about1, start1.theMethod, start1.args0, start1.below0, start1.atStart⟩
end Jvm.Pilot.@@N@@
