import JvmDerived
import JvmDerived.Pilot.@@N@@Statement
import JvmDerived.Pilot.@@N@@Code
set_option linter.unusedVariables false
set_option linter.unusedSimpArgs false
namespace Jvm.Pilot.@@N@@
open Jvm Jvm.ClassFile Sem Op Lib Jvm.Free Jvm.Stand Jvm.LawKit Jvm.RoadKit Bundle Jvm.Pilot.@@N@@.Jvm.D
/-! exact doubles: Dy n k a: the double a is the number n * 2^-k -/
section Dyadic
open Jvm.FP
def Dy (n : Int) (k : Nat) (a : UInt64) : Prop := Core.DFin a ∧ k ≤ 1074 ∧ Core.zval Core.b64 (Core.val64 a) = n * ((2 ^ (1074 - k) : Nat) : Int)
theorem own_pow {x y z w : Nat} (h : x + y = z + w) : ((2 ^ x : Nat) : Int) * ((2 ^ y : Nat) : Int) = ((2 ^ z : Nat) : Int) * ((2 ^ w : Nat) : Int) := by
  rw [← Int.natCast_mul, ← Int.natCast_mul, ← Nat.pow_add, ← Nat.pow_add, h]
theorem own_mul4 {n m A B C D : Int} (h : A * B = C * D) : n * A * (m * B) = n * m * C * D := by
  rw [show n * A * (m * B) = n * m * (A * B) by ac_rfl, h]; ac_rfl
theorem own_rep (n : Int) (k : Nat) (hn : n.natAbs < 2 ^ 53) (hk : k ≤ 1074) :
    ∃ s c q, Core.fits Core.b64 (.fin s c q) ∧ Core.zval Core.b64 (.fin s c q) = n * ((2 ^ (1074 - k) : Nat) : Int) := by
  have hq : Core.b64.qmax = 971 := by decide
  obtain ⟨c, q, h1, h2⟩ := Core.round_exact Core.good_b64 (decide (n < 0)) (c := n.natAbs) (q := -(k : Int)) hn (by rw [Core.qmin_b64]; omega) (by omega)
  refine ⟨_, c, q, by rw [← h1]; exact Core.round_fits Core.good_b64 _, ?_⟩
  show Core.signed _ (Core.inUnits c q Core.b64.qmin) = _
  rw [h2]
  show Core.signed _ (n.natAbs * 2 ^ (-(k : Int) - Core.b64.qmin).toNat) = _
  rw [Core.signed_mul, Core.qmin_b64, show (-(k : Int) - -1074).toNat = 1074 - k by omega]
  congr 1
  show (if decide (n < 0) = true then -(n.natAbs : Int) else (n.natAbs : Int)) = n
  by_cases h : n < 0
  · rw [if_pos (decide_eq_true h)]; omega
  · rw [if_neg (by simpa using h)]; omega
theorem own_round_eq {s s' : Bool} {c c' : Nat} {q q' e0 : Int} (hV : Core.fits Core.b64 (.fin s' c' q')) (h0 : e0 ≤ Core.b64.qmin) (h0e : e0 ≤ q)
    (h : Core.signed s (Core.inUnits c q e0) = Core.zval Core.b64 (.fin s' c' q') * ((2 ^ (Core.b64.qmin - e0).toNat : Nat) : Int)) :
    Core.zval Core.b64 (Core.round Core.b64 (.fin s c q)) = Core.zval Core.b64 (.fin s' c' q') :=
  Int.le_antisymm (Core.zval_round_le Core.good_b64 hV nofun h0 h0e (Int.le_of_eq h)) (Core.zval_round_ge Core.good_b64 hV nofun h0 h0e (Int.le_of_eq h.symm))
theorem own_fin_of {x : UInt64} {s : Bool} {c : Nat} {q : Int} (hx : Core.val64 x ≠ .nan) (hV : Core.fits Core.b64 (.fin s c q))
    (hz : Core.zval Core.b64 (Core.val64 x) = Core.zval Core.b64 (.fin s c q)) : Core.DFin x := by
  show ∃ s c q, Core.val64 x = .fin s c q
  cases h : Core.val64 x with
  | nan => exact absurd h hx
  | fin s c q => exact ⟨s, c, q, rfl⟩
  | inf t =>
    exfalso
    rw [h] at hz
    have e1 : Core.zval Core.b64 (.inf t) = Core.signed t (Core.b64.tails * 2 ^ (Core.b64.exps - 2)) := rfl
    have e2 : Core.zval Core.b64 (.fin s c q) = Core.signed s (Core.inUnits c q Core.b64.qmin) := rfl
    rw [e1, e2] at hz
    have h3 := congrArg Int.natAbs hz
    rw [Core.natAbs_signed, Core.natAbs_signed] at h3
    exact absurd h3 (Nat.ne_of_gt (Core.zmag_lt_top Core.good_b64 hV))
theorem own_nn {x : UInt64} (h : Core.DFin x) : Core.val64 x ≠ .nan := by
  obtain ⟨s, c, q, e⟩ := h
  rw [e]; exact nofun
theorem Dy.nn {n : Int} {k : Nat} {a : UInt64} (h : Dy n k a) : Core.val64 a ≠ .nan := own_nn h.1
theorem Dy.noNaN {n : Int} {k : Nat} {a : UInt64} (h : Dy n k a) : Jvm.Free.Fl.NoNaN64 a := (Jvm.Free.Fl.fin64_core.mpr h.1).noNaN
theorem Dy.mul {n m : Int} {k j : Nat} {a b : UInt64} (ha : Dy n k a) (hb : Dy m j b) (hk : k + j ≤ 1074) (h : (n * m).natAbs < 2 ^ 53) : Dy (n * m) (k + j) (FP.dmul a b) := by
  obtain ⟨⟨s, c, q, ea⟩, k1, za⟩ := ha
  obtain ⟨⟨t, d, r, eb⟩, k2, zb⟩ := hb
  have fa : Core.fits Core.b64 (.fin s c q) := ea ▸ Core.val64_fits a
  have fb : Core.fits Core.b64 (.fin t d r) := eb ▸ Core.val64_fits b
  obtain ⟨e1, e2, e3⟩ := Core.product_units fa fb
  have hv : Core.val64 (FP.dmul a b) = Core.round Core.b64 (.fin (s != t) (c * d) (q + r)) := by
    show Core.val64 (Core.dmul a b) = _
    rw [Core.val64_dmul, ea, eb, e1]
  obtain ⟨s', c', q', hV, zV⟩ := own_rep (n * m) (k + j) h hk
  rw [ea] at za
  rw [eb] at zb
  have hz : Core.zval Core.b64 (Core.val64 (FP.dmul a b)) = Core.zval Core.b64 (.fin s' c' q') := by
    rw [hv]
    refine own_round_eq hV (e0 := 2 * Core.b64.qmin) (by rw [Core.qmin_b64]; decide) e2 ?_
    have e4 : Core.signed (s != t) (Core.zmag Core.b64 (.fin s c q) * Core.zmag Core.b64 (.fin t d r)) = Core.zval Core.b64 (.fin s c q) * Core.zval Core.b64 (.fin t d r) := Core.signed_xor s t _ _
    rw [e3, e4, za, zb, zV]
    exact own_mul4 (own_pow (by rw [Core.qmin_b64]; omega))
  refine ⟨own_fin_of ?_ hV hz, hk, hz.trans zV⟩
  rw [hv]
  exact Core.roundRatio_ne_nan _ _ _ _ _
theorem Dy.add {n m : Int} {k : Nat} {a b : UInt64} (ha : Dy n k a) (hb : Dy m k b) (h : (n + m).natAbs < 2 ^ 53) : Dy (n + m) k (FP.dadd a b) := by
  obtain ⟨⟨s, c, q, ea⟩, k1, za⟩ := ha
  obtain ⟨⟨t, d, r, eb⟩, k2, zb⟩ := hb
  have fa : Core.fits Core.b64 (.fin s c q) := ea ▸ Core.val64_fits a
  have fb : Core.fits Core.b64 (.fin t d r) := eb ▸ Core.val64_fits b
  obtain ⟨sg, u, w, e1, e2, e3⟩ := Core.sum_units fa fb
  have hv : Core.val64 (FP.dadd a b) = Core.round Core.b64 (.fin sg u w) := by
    show Core.val64 (Core.dadd a b) = _
    rw [Core.val64_dadd, ea, eb, e1]
  obtain ⟨s', c', q', hV, zV⟩ := own_rep (n + m) k h k1
  rw [ea] at za
  rw [eb] at zb
  have hz : Core.zval Core.b64 (Core.val64 (FP.dadd a b)) = Core.zval Core.b64 (.fin s' c' q') := by
    rw [hv]
    refine own_round_eq hV (e0 := Core.b64.qmin) (Int.le_refl _) e2 ?_
    rw [e3, za, zb, zV, Int.sub_self, ← Int.add_mul]
    exact (Int.mul_one _).symm
  refine ⟨own_fin_of ?_ hV hz, k1, hz.trans zV⟩
  rw [hv]
  exact Core.roundRatio_ne_nan _ _ _ _ _
theorem Dy.cmp {n m : Int} {k : Nat} {a b : UInt64} (ha : Dy n k a) (hb : Dy m k b) : FP.dcmp a b = some (compare n m) := by
  have h := Core.order_zval Core.good_b64 (Core.val64_fits a) (Core.val64_fits b) ha.nn hb.nn
  rw [ha.2.2, hb.2.2, Core.compare_mul_pos _ _ _ (Int.ofNat_lt.mpr (Nat.two_pow_pos _))] at h
  exact h
theorem Dy.up {n : Int} {k : Nat} {a : UInt64} (j : Nat) (h : Dy n k a) (hk : k + j ≤ 1074) : Dy (n * ((2 ^ j : Nat) : Int)) (k + j) a := by
  refine ⟨h.1, hk, ?_⟩
  rw [h.2.2, Int.mul_assoc, ← Int.natCast_mul, ← Nat.pow_add, show j + (1074 - (k + j)) = 1074 - k by omega]
theorem Dy.of_whole {i : Int} {a : UInt64} (h : Core.Whole i (Core.val64 a)) : Dy i 0 a := by
  cases hv : Core.val64 a with
  | nan => rw [hv] at h; exact h.elim
  | inf s => rw [hv] at h; exact h.elim
  | fin s c q =>
    rw [hv] at h
    have f : Core.fits Core.b64 (.fin s c q) := hv ▸ Core.val64_fits a
    have w := Core.whole_units h f.2.1
    refine ⟨⟨s, c, q, hv⟩, Nat.zero_le _, ?_⟩
    rw [hv]
    show Core.signed s (Core.inUnits c q Core.b64.qmin) = _
    rw [show ((2 ^ Core.b64.qmin.toNat : Nat) : Int) = 1 by rw [Core.qmin_b64]; rfl, Int.mul_one, show (-Core.b64.qmin).toNat = 1074 - 0 by rw [Core.qmin_b64]; rfl] at w
    exact w
theorem Dy.i2d (x : Int32) : Dy x.toInt 0 (FP.i2d x) := Dy.of_whole (Core.i2d_int x)
theorem Dy.l2d {x : Int64} (h : x.toInt.natAbs ≤ 2 ^ 53) : Dy x.toInt 0 (FP.l2d x) := Dy.of_whole (Core.l2d_int h)
theorem Dy.abs {n : Int} {k : Nat} {a : UInt64} (h : Dy n k a) : Dy (n.natAbs : Int) k (a &&& 0x7fffffffffffffff) := by
  have hf : Core.DFin (a &&& 0x7fffffffffffffff) := Jvm.Free.Fl.fin64_core.mp (Jvm.RoadKit.abs_fin (Jvm.Free.Fl.fin64_core.mpr h.1))
  have ht := Jvm.Free.Fl.abs_toNat a
  have e1 := Core.sgn_bits (own_nn hf)
  have e2 := Core.zmag_bits (own_nn hf)
  have e3 := Core.zmag_bits h.nn
  refine ⟨hf, h.2.1, ?_⟩
  have hn := congrArg Int.natAbs h.2.2
  rw [show Core.zval Core.b64 (Core.val64 a) = Core.signed (Core.sgn (Core.val64 a)) (Core.zmag Core.b64 (Core.val64 a)) from rfl, Core.natAbs_signed, Int.natAbs_mul, Int.natAbs_natCast] at hn
  rw [show Core.zval Core.b64 (Core.val64 (a &&& 0x7fffffffffffffff)) = Core.signed (Core.sgn (Core.val64 (a &&& 0x7fffffffffffffff))) (Core.zmag Core.b64 (Core.val64 (a &&& 0x7fffffffffffffff))) from rfl, e1, e2, ht,
    show a.toNat % 9223372036854775808 % 2 ^ 63 = a.toNat % 2 ^ 63 by omega, ← e3, hn]
  rw [show decide (2 ^ 63 ≤ a.toNat % 9223372036854775808) = false by rw [decide_eq_false_iff_not]; omega]
  exact Int.natCast_mul _ _
theorem Dy.conv {n m : Int} {k j : Nat} {a : UInt64} (h : Dy n k a) (e1 : n = m) (e2 : k = j) : Dy m j a := by subst e1 e2; exact h
theorem own_cmpV_eq {n m : Int} {k : Nat} {a b : UInt64} (ha : Dy n k a) (hb : Dy m k b) (e : n = m) (o : CmpOp) : cmpValue (FP.dcmp a b) o = 0 := by
  rw [ha.cmp hb, e, Core.compare_self_int]; rfl
theorem own_cmpV {n m : Int} {k : Nat} {a b : UInt64} (ha : Dy n k a) (hb : Dy m k b) (o : CmpOp) : cmpValue (FP.dcmp a b) o = if n < m then -1 else if n = m then 0 else 1 := by
  rw [ha.cmp hb, Core.compare_ite]
  by_cases h1 : n < m
  · rw [if_pos h1, if_pos h1]; rfl
  · rw [if_neg h1, if_neg h1]
    by_cases h2 : n = m
    · rw [if_pos h2, if_pos h2]; rfl
    · rw [if_neg h2, if_neg h2]; rfl
theorem own_d0 : Dy 0 0 FP.dconst0 := ⟨⟨false, 0, -1074, by decide +kernel⟩, by decide, by decide +kernel⟩
theorem own_d1 : Dy 1 0 FP.dconst1 := ⟨⟨false, 2 ^ 52, -52, by decide +kernel⟩, by decide, by decide +kernel⟩
end Dyadic

theorem d1_0 : decode prog_15_method_5_code 0 = .ok (.dload_n 0, 1) := by decide +kernel
theorem d1_1 : decode prog_15_method_5_code 1 = .ok (.dconst 1, 1) := by decide +kernel
theorem d1_2 : decode prog_15_method_5_code 2 = .ok (.dload_n 2, 1) := by decide +kernel
theorem d1_3 : decode prog_15_method_5_code 3 = .ok (.invokestatic 37, 3) := by decide +kernel
theorem d1_6 : decode prog_15_method_5_code 6 = .ok (.dadd, 1) := by decide +kernel
theorem d1_7 : decode prog_15_method_5_code 7 = .ok (.dmul, 1) := by decide +kernel
theorem d1_8 : decode prog_15_method_5_code 8 = .ok (.ldc2_w 68, 3) := by decide +kernel
theorem d1_11 : decode prog_15_method_5_code 11 = .ok (.dmul, 1) := by decide +kernel
theorem d1_12 : decode prog_15_method_5_code 12 = .ok (.dreturn, 1) := by decide +kernel
theorem d2_0 : decode jdk_29_method_61_code 0 = .ok (.lload_n 0, 1) := by decide +kernel
theorem d2_1 : decode jdk_29_method_61_code 1 = .ok (.lconst 0, 1) := by decide +kernel
theorem d2_2 : decode jdk_29_method_61_code 2 = .ok (.lcmp, 1) := by decide +kernel
theorem d2_3 : decode jdk_29_method_61_code 3 = .ok (.ifCond .ge 8, 3) := by decide +kernel
theorem d2_6 : decode jdk_29_method_61_code 6 = .ok (.lload_n 0, 1) := by decide +kernel
theorem d2_7 : decode jdk_29_method_61_code 7 = .ok (.lneg, 1) := by decide +kernel
theorem d2_8 : decode jdk_29_method_61_code 8 = .ok (.goto 4, 3) := by decide +kernel
theorem d2_11 : decode jdk_29_method_61_code 11 = .ok (.lload_n 0, 1) := by decide +kernel
theorem d2_12 : decode jdk_29_method_61_code 12 = .ok (.lreturn, 1) := by decide +kernel
theorem pn_1 : plainName "com/example/focaldate/focaldate/MovedBalance" = true := by first | (simp [plainName, overriddenIn]; done) | decide +kernel
theorem pn_0 : plainName "com/example/focaldate/focaldate/MovedBalanceRoundingPinLaw" = true := by first | (simp [plainName, overriddenIn]; done) | decide +kernel
theorem pd_1 : parseMethodDescriptor "(DD)D" = some ⟨[.double, .double], some .double⟩ := by decide +kernel
theorem pd_2 : parseMethodDescriptor "(J)J" = some ⟨[.long], some .long⟩ := by decide +kernel
theorem pd_3 : parseMethodDescriptor "(D)D" = some ⟨[.double], some .double⟩ := by decide +kernel
/-- what rounding answers -/
def own_rnd (q1 q2 : UInt64) : UInt64 := FP.dmul (FP.dmul q1 (FP.dadd FP.dconst1 (q2 &&& 0x7fffffffffffffff))) (4409024035195715584 : UInt64)
/-- what Math.abs of a long answers -/
def own_absJ (x : Int64) : Int64 := if lcmpW x 0 < 0 then -x else x
theorem own_absCode : jdk_29_method_64_code = Jvm.Free.Fl.Abs.absDCode := by rfl
theorem ef_1 (m : MethodId) (x0 x1 : UInt64) : entryFrame m #[(.double x0), (.double x1)] 4 = mkF m 0 #[.val (.double x0), .second, .val (.double x1), .second] [] := by first | (simp [entryFrame, mkF, argsToLocals, Value.category]; done) | rfl
theorem ef_2 (m : MethodId) (x0 : Int64) : entryFrame m #[(.long x0)] 2 = mkF m 0 #[.val (.long x0), .second] [] := by first | (simp [entryFrame, mkF, argsToLocals, Value.category]; done) | rfl
theorem ef_0 (m : MethodId) (x0 x1 : Int32) : entryFrame m #[(.int x0), (.int x1)] maxLocals = mkF m 0 #[.val (.int x0), .val (.int x1), .unset, .unset, .unset, .unset, .unset, .unset, .unset, .unset, .unset, .unset, .unset] [] := by first | (simp [entryFrame, mkF, argsToLocals, Value.category, maxLocals]; done) | rfl
def Q1 (q1 q2 : UInt64) (h0 : Heap) (n0 : Nat) (v : Option Value) (h : Heap) (L : List Loc) : Prop := v = some (.double (own_rnd q1 q2)) ∧ Fr n0 L ∧ h = h0
set_option maxRecDepth 65536 in
set_option maxHeartbeats 40000000 in
theorem rm1 (l : Launch) (Z : State) (a0 : Array Value) (hw : ∀ d ∈ tables_1, d.before a0 Z = true) (ws : List Jvm.Cond) (q1 q2 : UInt64) (h0 : Heap) (n0 : Nat) (Z0 : n0 ≤ h0.size) (hn0 : Jvm.Free.Fl.NoNaN64 q2) (hn1 : Jvm.Free.Fl.NoNaN64 (FP.dadd FP.dconst1 (q2 &&& 0x7fffffffffffffff))) (hn2 : Jvm.Free.Fl.NoNaN64 (FP.dmul q1 (FP.dadd FP.dconst1 (q2 &&& 0x7fffffffffffffff)))) (hn3 : Jvm.Free.Fl.NoNaN64 (own_rnd q1 q2)) :
    MetFree l (⟨"com/example/focaldate/focaldate/MovedBalance", "rounding", "(DD)D"⟩ : MethodName) (head1 (Jvm.Cond.code (⟨"com/example/focaldate/focaldate/MovedBalance", "rounding", "(DD)D"⟩ : MethodName) prog_15_method_5_code 4 (some .double) :: ws) ({ frames := 1, cells := 0, slots := 0, locals := 17 } : Room)) (fun a U => a = #[(.double q1), (.double q2)] ∧ Z.Warmed39 U.vm ∧ U.heap = h0) (fun _ _ _ _ _ => True) (fun _ U o U' => ∃ v L, o = .returned v ∧ Q1 q1 q2 h0 n0 v U'.heap L ∧ FrameEnd U o U' L ({ frames := 1, cells := 0, slots := 0, locals := 17 } : Room).cells ({ frames := 1, cells := 0, slots := 0, locals := 17 } : Room).slots) := by
  refine MetFree.of_bodySF (plainFor_of_name pn_1) hisR ?_
  intro p e s m args below meth c s₁ Bd hml0 hP hK
  obtain ⟨rfl, hZ, hh⟩ := hP
  have hx := Bd.exec
  have hby := Bd.bytes
  have hml : c.maxLocals = 4 := hml0
  have hown : s.vm.findClass "com/example/focaldate/focaldate/MovedBalance" = some m.cls := findClass_of_methodNamed Bd.named
  have hnm := (name_of_methodNamed Bd.named Bd.method).1
  have X0 : Stand p l e ({ frames := 1, cells := 0, slots := 0, locals := 17 } : Room) s m #[(.double q1), (.double q2)] below meth c s₁ [] 0 0 := Stand.of_body Bd
  have e0 : s₁.heap = h0 := by rw [← hh, Bd.state]; rfl
  have N0 := Fr.nil n0
  have pre0 : ∀ t, Steps p.tables e below (s₁.setTop (mkF m 0 #[.val (.double q1), .second, .val (.double q2), .second] [])) t → Steps p.tables e below (s₁.setTop (entryFrame m #[(.double q1), (.double q2)] 4)) t := fun t k => castTop (ef_1 m q1 q2) k
  obtain ⟨T1, X1, e1, st1⟩ := natS X0 hx hZ (y := (⟨"java/lang/Math", "abs", "(D)D"⟩ : MethodName)) hown (hw _ (List.mem_of_getElem? (i := 6) rfl)) (hw _ (List.mem_of_getElem? (i := 7) rfl)) (hw _ (List.mem_of_getElem? (i := 8) rfl)) (hw _ (List.mem_of_getElem? (i := 9) rfl)) (by decide) e0 (W := 4) (F := fun a' => a' = #[.double q2] ∧ Jvm.Free.Fl.NoNaN64 q2) (val := .double (q2 &&& 0x7fffffffffffffff)) (val' := .double (q2 &&& 0x7fffffffffffffff)) (fun hc => Jvm.Free.Fl.Abs.absD_pays q2 (own_absCode ▸ hc) (by decide) (by decide)) (g := (mkF m 3 #[.val (.double q1), .second, .val (.double q2), .second] [(.double q2), (.double FP.dconst1), (.double q1)])) rfl (by rw [hml]; rfl) (argsL := [(.double q2)]) (rest := [(.double FP.dconst1), (.double q1)]) (lenOf pd_3 rfl) rfl (by show 2 * 0 + _ ≤ _; exact Nat.le_of_eq rfl) (hb hby d1_3) (by decide) (by decide) ⟨rfl, hn0⟩ rfl
  obtain ⟨fs, hr, hrun, hended, hW, hsame⟩ := X1.leave (v := some (.double (own_rnd q1 q2))) (fun h => by rw [Bd.returns] at h; cases h)
  refine ⟨_, _, pre0 _ ?_, hrun, hended, _, _, rfl, ?_, ⟨_, rfl⟩, hW, hsame.mono (by decide) (by decide)⟩
  · show Steps p.tables e below (s₁.setTop (mkF m 0 #[.val (.double q1), .second, .val (.double q2), .second] [])) _
    refine XS.dloadN X0.here hx rfl (hb hby d1_0) rfl ?_
    show Steps p.tables e below (s₁.setTop (mkF m 1 #[.val (.double q1), .second, .val (.double q2), .second] [(.double q1)])) _
    refine XS.dconst1 X0.here hx rfl (hb hby d1_1) rfl ?_
    show Steps p.tables e below (s₁.setTop (mkF m 2 #[.val (.double q1), .second, .val (.double q2), .second] [(.double FP.dconst1), (.double q1)])) _
    refine XS.dloadN X0.here hx rfl (hb hby d1_2) rfl ?_
    show Steps p.tables e below (s₁.setTop (mkF m 3 #[.val (.double q1), .second, .val (.double q2), .second] [(.double q2), (.double FP.dconst1), (.double q1)])) _
    refine st1 _ ?_
    show Steps p.tables e below (T1.setTop (mkF m 6 #[.val (.double q1), .second, .val (.double q2), .second] [(.double (q2 &&& 0x7fffffffffffffff)), (.double FP.dconst1), (.double q1)])) _
    refine XS.daddS X1.here hx rfl (hb hby d1_6) rfl hn1 rfl ?_
    show Steps p.tables e below (T1.setTop (mkF m 7 #[.val (.double q1), .second, .val (.double q2), .second] [(.double (FP.dadd FP.dconst1 (q2 &&& 0x7fffffffffffffff))), (.double q1)])) _
    refine XS.dmulS X1.here hx rfl (hb hby d1_7) rfl hn2 rfl ?_
    show Steps p.tables e below (T1.setTop (mkF m 8 #[.val (.double q1), .second, .val (.double q2), .second] [(.double (FP.dmul q1 (FP.dadd FP.dconst1 (q2 &&& 0x7fffffffffffffff))))])) _
    refine X1.ldc2DoubleC hx hown (mvT hZ (hw _ (List.mem_of_getElem? (i := 10) rfl))) (g := (mkF m 8 #[.val (.double q1), .second, .val (.double q2), .second] [(.double (FP.dmul q1 (FP.dadd FP.dconst1 (q2 &&& 0x7fffffffffffffff))))])) rfl (hb hby d1_8) _ ?_
    show Steps p.tables e below (T1.setTop (mkF m 11 #[.val (.double q1), .second, .val (.double q2), .second] [(.double (4409024035195715584 : UInt64)), (.double (FP.dmul q1 (FP.dadd FP.dconst1 (q2 &&& 0x7fffffffffffffff))))])) _
    refine XS.dmulS X1.here hx rfl (hb hby d1_11) rfl hn3 rfl ?_
    show Steps p.tables e below (T1.setTop (mkF m 12 #[.val (.double q1), .second, .val (.double q2), .second] [(.double (FP.dmul (FP.dmul q1 (FP.dadd FP.dconst1 (q2 &&& 0x7fffffffffffffff))) (4409024035195715584 : UInt64)))])) _
    exact retOut X1 hx Bd.returns rfl (Or.inr (Or.inr (Or.inl ⟨rfl, rfl, _, rfl⟩))) (hb hby d1_12) hr
  · show Q1 q1 q2 h0 n0 _ T1.heap _
    rw [e1]
    exact ⟨rfl, N0, rfl⟩
def Q2 (j1 : Int64) (h0 : Heap) (n0 : Nat) (v : Option Value) (h : Heap) (L : List Loc) : Prop := v = some (.long (own_absJ j1)) ∧ Fr n0 L ∧ h = h0
set_option maxRecDepth 65536 in
set_option maxHeartbeats 40000000 in
theorem rm2 (l : Launch) (Z : State) (a0 : Array Value) (hw : ∀ d ∈ tables_1, d.before a0 Z = true) (ws : List Jvm.Cond) (j1 : Int64) (h0 : Heap) (n0 : Nat) (Z0 : n0 ≤ h0.size)  :
    MetFree l (⟨"java/lang/Math", "abs", "(J)J"⟩ : MethodName) (head1 (Jvm.Cond.code (⟨"java/lang/Math", "abs", "(J)J"⟩ : MethodName) jdk_29_method_61_code 2 (some .long) :: ws) ({ frames := 0, cells := 0, slots := 0, locals := 0 } : Room)) (fun a U => a = #[(.long j1)] ∧ Z.Warmed39 U.vm ∧ U.heap = h0) (fun _ _ _ _ _ => True) (fun _ U o U' => ∃ v L, o = .returned v ∧ Q2 j1 h0 n0 v U'.heap L ∧ FrameEnd U o U' L ({ frames := 0, cells := 0, slots := 0, locals := 0 } : Room).cells ({ frames := 0, cells := 0, slots := 0, locals := 0 } : Room).slots) := by
  refine MetFree.of_bodySF (Jvm.Free.JP.mathPlain rfl (by decide +kernel)) hisR ?_
  intro p e s m args below meth c s₁ Bd hml0 hP hK
  obtain ⟨rfl, hZ, hh⟩ := hP
  have hx := Bd.exec
  have hby := Bd.bytes
  have hml : c.maxLocals = 2 := hml0
  have hown : s.vm.findClass "java/lang/Math" = some m.cls := findClass_of_methodNamed Bd.named
  have hnm := (name_of_methodNamed Bd.named Bd.method).1
  have X0 : Stand p l e ({ frames := 0, cells := 0, slots := 0, locals := 0 } : Room) s m #[(.long j1)] below meth c s₁ [] 0 0 := Stand.of_body Bd
  have e0 : s₁.heap = h0 := by rw [← hh, Bd.state]; rfl
  have N0 := Fr.nil n0
  have pre0 : ∀ t, Steps p.tables e below (s₁.setTop (mkF m 0 #[.val (.long j1), .second] [])) t → Steps p.tables e below (s₁.setTop (entryFrame m #[(.long j1)] 2)) t := fun t k => castTop (ef_2 m j1) k
  by_cases hc : lcmpW j1 (0 : Int64) < 0
  · have hk : own_absJ j1 = (-j1) := by unfold own_absJ; rw [if_pos hc]
    obtain ⟨fs, hr, hrun, hended, hW, hsame⟩ := X0.leave (v := some (.long (-j1))) (fun h => by rw [Bd.returns] at h; cases h)
    refine ⟨_, _, pre0 _ ?_, hrun, hended, _, _, rfl, ?_, ⟨_, rfl⟩, hW, hsame.mono (by decide) (by decide)⟩
    · show Steps p.tables e below (s₁.setTop (mkF m 0 #[.val (.long j1), .second] [])) _
      refine XS.lloadN X0.here hx rfl (hb hby d2_0) rfl ?_
      show Steps p.tables e below (s₁.setTop (mkF m 1 #[.val (.long j1), .second] [(.long j1)])) _
      refine XS.lconst X0.here hx rfl (hb hby d2_1) ?_
      show Steps p.tables e below (s₁.setTop (mkF m 2 #[.val (.long j1), .second] [(.long (0 : Int64)), (.long j1)])) _
      refine XS.lcmp X0.here hx rfl (hb hby d2_2) rfl ?_
      show Steps p.tables e below (s₁.setTop (mkF m 3 #[.val (.long j1), .second] [(.int (lcmpW j1 (0 : Int64)))])) _
      refine XS.ifNo X0.here hx rfl (hb hby d2_3) rfl ((if0 _ _).trans (tlt hc).2.1) ?_
      show Steps p.tables e below (s₁.setTop (mkF m 6 #[.val (.long j1), .second] [])) _
      refine XS.lloadN X0.here hx rfl (hb hby d2_6) rfl ?_
      show Steps p.tables e below (s₁.setTop (mkF m 7 #[.val (.long j1), .second] [(.long j1)])) _
      refine XS.lneg X0.here hx rfl (hb hby d2_7) rfl ?_
      show Steps p.tables e below (s₁.setTop (mkF m 8 #[.val (.long j1), .second] [(.long (-j1))])) _
      refine XS.goto X0.here hx rfl (pc0 := 8) (pc' := 12) rfl (hb hby d2_8) (by decide) (by decide) ?_
      show Steps p.tables e below (s₁.setTop (mkF m 12 #[.val (.long j1), .second] [(.long (-j1))])) _
      exact retOut X0 hx Bd.returns rfl (Or.inr (Or.inl ⟨rfl, rfl, _, rfl⟩)) (hb hby d2_12) hr
    · show Q2 j1 h0 n0 _ s₁.heap _
      rw [e0]
      exact ⟨by rw [hk], N0, rfl⟩
  · have hk : own_absJ j1 = j1 := by unfold own_absJ; rw [if_neg hc]
    obtain ⟨fs, hr, hrun, hended, hW, hsame⟩ := X0.leave (v := some (.long j1)) (fun h => by rw [Bd.returns] at h; cases h)
    refine ⟨_, _, pre0 _ ?_, hrun, hended, _, _, rfl, ?_, ⟨_, rfl⟩, hW, hsame.mono (by decide) (by decide)⟩
    · show Steps p.tables e below (s₁.setTop (mkF m 0 #[.val (.long j1), .second] [])) _
      refine XS.lloadN X0.here hx rfl (hb hby d2_0) rfl ?_
      show Steps p.tables e below (s₁.setTop (mkF m 1 #[.val (.long j1), .second] [(.long j1)])) _
      refine XS.lconst X0.here hx rfl (hb hby d2_1) ?_
      show Steps p.tables e below (s₁.setTop (mkF m 2 #[.val (.long j1), .second] [(.long (0 : Int64)), (.long j1)])) _
      refine XS.lcmp X0.here hx rfl (hb hby d2_2) rfl ?_
      show Steps p.tables e below (s₁.setTop (mkF m 3 #[.val (.long j1), .second] [(.int (lcmpW j1 (0 : Int64)))])) _
      refine XS.ifYes X0.here hx rfl (pc0 := 3) (pc' := 11) rfl (hb hby d2_3) rfl ((if0 _ _).trans (flt hc).2.1) (by decide) (by decide) ?_
      show Steps p.tables e below (s₁.setTop (mkF m 11 #[.val (.long j1), .second] [])) _
      refine XS.lloadN X0.here hx rfl (hb hby d2_11) rfl ?_
      show Steps p.tables e below (s₁.setTop (mkF m 12 #[.val (.long j1), .second] [(.long j1)])) _
      exact retOut X0 hx Bd.returns rfl (Or.inr (Or.inl ⟨rfl, rfl, _, rfl⟩)) (hb hby d2_12) hr
    · show Q2 j1 h0 n0 _ s₁.heap _
      rw [e0]
      exact ⟨by rw [hk], N0, rfl⟩
theorem own_c10 : Dy 1 10 (4562146422526312448 : UInt64) := ⟨⟨false, 2 ^ 52, -62, by decide +kernel⟩, by decide, by decide +kernel⟩
theorem own_c44 : Dy 1 44 (4409024035195715584 : UInt64) := ⟨⟨false, 2 ^ 52, -96, by decide +kernel⟩, by decide, by decide +kernel⟩
theorem own_c54 : Dy 1 54 (4363988038922010624 : UInt64) := ⟨⟨false, 2 ^ 52, -106, by decide +kernel⟩, by decide, by decide +kernel⟩
theorem own_i64 (c : Int32) : c.toInt64.toInt = c.toInt := Int32.toInt_toInt64 c
theorem own_g (r : Int32) : (r % (1048576 : Int32)).toInt.natAbs < 1048576 := by
  rw [Int32.toInt_mod, show (1048576 : Int32).toInt = 1048576 by decide, Int.natAbs_tmod]
  exact Nat.mod_lt _ (by decide)
theorem own_A {g : Int32} (hg : g.toInt.natAbs < 1048576) : Dy g.toInt 10 (FP.dmul (FP.i2d g) (4562146422526312448 : UInt64)) :=
  ((Dy.i2d g).mul own_c10 (by decide) (by rw [Int.mul_one]; omega)).conv (Int.mul_one _) rfl
theorem own_S {g : Int32} (hg : g.toInt.natAbs < 1048576) : Dy (1024 + (g.toInt.natAbs : Int)) 10 (FP.dadd FP.dconst1 (FP.dmul (FP.i2d g) (4562146422526312448 : UInt64) &&& 0x7fffffffffffffff)) :=
  ((own_d1.up 10 (by decide)).conv (show (1 : Int) * ((2 ^ 10 : Nat) : Int) = 1024 from by decide) rfl).add (own_A hg).abs (by omega)
theorem own_bound (p : Int32) {n : Nat} (hn : n < 1048576) : (p.toInt * (1024 + (n : Int))).natAbs < 2 ^ 52 := by
  have h1 := Int32.toInt_lt p; have h2 := Int32.le_toInt p
  rw [Int.natAbs_mul]
  exact Nat.lt_of_le_of_lt (Nat.mul_le_mul (show p.toInt.natAbs ≤ 2147483648 by omega) (show (1024 + (n : Int)).natAbs ≤ 1049600 by omega)) (by decide)
theorem own_M (p : Int32) {g : Int32} (hg : g.toInt.natAbs < 1048576) : Dy (p.toInt * (1024 + (g.toInt.natAbs : Int))) 10 (FP.dmul (FP.i2d p) (FP.dadd FP.dconst1 (FP.dmul (FP.i2d g) (4562146422526312448 : UInt64) &&& 0x7fffffffffffffff))) :=
  ((Dy.i2d p).mul (own_S hg) (by decide) (Nat.lt_trans (own_bound p hg) (by decide))).conv rfl rfl
theorem own_R (p : Int32) {g : Int32} (hg : g.toInt.natAbs < 1048576) : Dy (p.toInt * (1024 + (g.toInt.natAbs : Int))) 54 (own_rnd (FP.i2d p) (FP.dmul (FP.i2d g) (4562146422526312448 : UInt64))) :=
  ((own_M p hg).mul own_c44 (by decide) (by rw [Int.mul_one]; exact Nat.lt_trans (own_bound p hg) (by decide))).conv (Int.mul_one _) rfl
theorem own_abs {g : Int32} (hg : g.toInt.natAbs < 1048576) : (own_absJ g.toInt64).toInt = (g.toInt.natAbs : Int) := by
  unfold own_absJ
  by_cases h : lcmpW g.toInt64 0 < 0
  · have h' : g.toInt < 0 := by
      rw [lcW, lc_lt, Int64.lt_iff_toInt_lt, own_i64] at h; exact h
    rw [if_pos h, Jvm.FP.Core.int64_neg (by rw [own_i64]; omega), own_i64]; omega
  · have h' : ¬ g.toInt < 0 := by
      rw [lcW, lc_lt, Int64.lt_iff_toInt_lt, own_i64] at h; exact h
    rw [if_neg h, own_i64]; omega
theorem own_scaled (p : Int32) {g : Int32} (hg : g.toInt.natAbs < 1048576) : (p.toInt64 * ((1024 : Int64) + own_absJ g.toInt64)).toInt = p.toInt * (1024 + (g.toInt.natAbs : Int)) := by
  have ha := own_abs hg
  have hs : ((1024 : Int64) + own_absJ g.toInt64).toInt = 1024 + (g.toInt.natAbs : Int) := by
    rw [Jvm.FP.Core.int64_add (by rw [ha, show (1024 : Int64).toInt = 1024 by decide]; omega) (by rw [ha, show (1024 : Int64).toInt = 1024 by decide]; omega), ha]; rfl
  have hb := own_bound p hg
  rw [Jvm.FP.Core.int64_mul (by rw [own_i64, hs]; omega) (by rw [own_i64, hs]; omega), own_i64, hs]
theorem own_X (p : Int32) {g : Int32} (hg : g.toInt.natAbs < 1048576) : Dy (p.toInt * (1024 + (g.toInt.natAbs : Int))) 54 (FP.dmul (FP.l2d (p.toInt64 * ((1024 : Int64) + own_absJ g.toInt64))) (4363988038922010624 : UInt64)) := by
  have hb := own_bound p hg
  have h := Dy.l2d (x := p.toInt64 * ((1024 : Int64) + own_absJ g.toInt64)) (by rw [own_scaled p hg]; omega)
  rw [own_scaled p hg] at h
  exact (h.mul own_c54 (by decide) (by rw [Int.mul_one]; omega)).conv (Int.mul_one _) rfl
def Q0 (n0 : Nat) (v : Option Value) (h : Heap) (L : List Loc) : Prop := v = some (.int 1) ∧ Fr n0 L
set_option maxRecDepth 65536 in
set_option maxHeartbeats 40000000 in
theorem rm0 (l : Launch) (Z : State) (a0 : Array Value) (hw : ∀ d ∈ tables_1, d.before a0 Z = true) (ws : List Jvm.Cond) (p1 p2 : Int32) (h0 : Heap) (n0 : Nat) (Z0 : n0 ≤ h0.size)  :
    MetFree l x (head1 (Jvm.Cond.code x code maxLocals ret :: ws) room_1) (fun a U => a = #[(.int p1), (.int p2)] ∧ Z.Warmed39 U.vm ∧ U.heap = h0) (fun _ _ _ _ _ => True) (fun _ U o U' => ∃ v L, o = .returned v ∧ Q0 n0 v U'.heap L ∧ FrameEnd U o U' L room_1.cells room_1.slots) := by
  refine MetFree.of_bodySF (plainFor_of_name pn_0) hisR ?_
  intro p e s m args below meth c s₁ Bd hml0 hP hK
  obtain ⟨rfl, hZ, hh⟩ := hP
  have hx := Bd.exec
  have hby := Bd.bytes
  have hml : c.maxLocals = 13 := hml0
  have hown : s.vm.findClass "com/example/focaldate/focaldate/MovedBalanceRoundingPinLaw" = some m.cls := findClass_of_methodNamed Bd.named
  have hnm := (name_of_methodNamed Bd.named Bd.method).1
  have X0 : Stand p l e room_1 s m #[(.int p1), (.int p2)] below meth c s₁ [] 0 0 := Stand.of_body Bd
  have e0 : s₁.heap = h0 := by rw [← hh, Bd.state]; rfl
  have N0 := Fr.nil n0
  have pre0 : ∀ t, Steps p.tables e below (s₁.setTop (mkF m 0 #[.val (.int p1), .val (.int p2), .unset, .unset, .unset, .unset, .unset, .unset, .unset, .unset, .unset, .unset, .unset] [])) t → Steps p.tables e below (s₁.setTop (entryFrame m #[(.int p1), (.int p2)] maxLocals)) t := fun t k => castTop (ef_0 m p1 p2) k
  have hg := own_g p2
  obtain ⟨_, _, ⟨T1, L1, k1, n1⟩, -, X1, ⟨Lc1, hQ1, l1, y1, z1⟩, st1⟩ := Jvm.LawKit.callS X0 hx (y := (⟨"com/example/focaldate/focaldate/MovedBalance", "rounding", "(DD)D"⟩ : MethodName)) hown (mvT hZ (hw _ (List.mem_of_getElem? (i := 2) rfl))) (mvT hZ (hw _ (List.mem_of_getElem? (i := 3) rfl))) (mvT hZ (hw _ (List.mem_of_getElem? (i := 4) rfl))) (mvT hZ (hw _ (List.mem_of_getElem? (i := 5) rfl))) (by decide) (backOf (W := 0) (rm1 l Z a0 hw [] (FP.i2d p1) (FP.dmul (FP.i2d (p2 % (1048576 : Int32))) (4562146422526312448 : UInt64)) h0 n0 Z0 (own_A hg).noNaN (own_S hg).noNaN (own_M p1 hg).noNaN (own_R p1 hg).noNaN) hZ (hw _ (List.mem_of_getElem? (i := 5) rfl)) (hw _ (List.mem_of_getElem? (i := 4) rfl)) (by decide) (by decide)) (g := (mkF m 19 #[.val (.int p1), .val (.int p2), .val (.int (p2 % (1048576 : Int32))), .val (.double (FP.i2d p1)), .second, .val (.double (FP.dmul (FP.i2d (p2 % (1048576 : Int32))) (4562146422526312448 : UInt64))), .second, .unset, .unset, .unset, .unset, .unset, .unset] [(.double (FP.dmul (FP.i2d (p2 % (1048576 : Int32))) (4562146422526312448 : UInt64))), (.double (FP.i2d p1))])) rfl (by rw [hml]; rfl) (argsL := [(.double (FP.i2d p1)), (.double (FP.dmul (FP.i2d (p2 % (1048576 : Int32))) (4562146422526312448 : UInt64)))]) (rest := []) (lenOf pd_1 rfl) rfl (by show 2 * 0 + _ ≤ _; exact Nat.le_of_eq rfl) (hb hby at_19) (fun _ _ => ⟨rfl, e0, (by decide : 0 + 0 ≤ _), (by decide : 0 + 0 ≤ _)⟩)
  dsimp only [Pt.U, Pt.locs, Pt.cells, Pt.slots] at X1 l1 y1 z1 st1 hQ1
  subst l1 y1 z1
  obtain ⟨rfl, N1q, e1⟩ := hQ1
  have N1 := Fr.app N0 N1q
  have Z1 : n0 ≤ T1.heap.size := by rw [e1]; exact Z0
  obtain ⟨_, _, ⟨T2, L2, k2, n2⟩, -, X2, ⟨Lc2, hQ2, l2, y2, z2⟩, st2⟩ := Jvm.LawKit.callS X1 hx (y := (⟨"java/lang/Math", "abs", "(J)J"⟩ : MethodName)) hown (mvT hZ (hw _ (List.mem_of_getElem? (i := 12) rfl))) (mvT hZ (hw _ (List.mem_of_getElem? (i := 13) rfl))) (mvT hZ (hw _ (List.mem_of_getElem? (i := 8) rfl))) (mvT hZ (hw _ (List.mem_of_getElem? (i := 14) rfl))) (by decide) (backOf (W := 4) (rm2 l Z a0 hw [] (p2 % (1048576 : Int32)).toInt64 T1.heap n0 Z1) hZ (hw _ (List.mem_of_getElem? (i := 14) rfl)) (hw _ (List.mem_of_getElem? (i := 8) rfl)) (by decide) (by decide)) (g := (mkF m 31 #[.val (.int p1), .val (.int p2), .val (.int (p2 % (1048576 : Int32))), .val (.double (FP.i2d p1)), .second, .val (.double (FP.dmul (FP.i2d (p2 % (1048576 : Int32))) (4562146422526312448 : UInt64))), .second, .val (.double (own_rnd (FP.i2d p1) (FP.dmul (FP.i2d (p2 % (1048576 : Int32))) (4562146422526312448 : UInt64)))), .second, .unset, .unset, .unset, .unset] [(.long (p2 % (1048576 : Int32)).toInt64), (.long (1024 : Int64)), (.long p1.toInt64)])) rfl (by rw [hml]; rfl) (argsL := [(.long (p2 % (1048576 : Int32)).toInt64)]) (rest := [(.long (1024 : Int64)), (.long p1.toInt64)]) (lenOf pd_2 rfl) rfl (by show 2 * 0 + _ ≤ _; exact Nat.le_of_eq rfl) (hb hby at_31) (fun _ _ => ⟨rfl, rfl, (by decide : 0 + 0 ≤ _), (by decide : 0 + 0 ≤ _)⟩)
  dsimp only [Pt.U, Pt.locs, Pt.cells, Pt.slots] at X2 l2 y2 z2 st2 hQ2
  subst l2 y2 z2
  obtain ⟨rfl, N2q, e2⟩ := hQ2
  have N2 := Fr.app N1 N2q
  obtain ⟨fs, hr, hrun, hended, hW, hsame⟩ := X2.leave (v := some (.int (1 : Int32))) (fun h => by rw [Bd.returns] at h; cases h)
  refine ⟨_, _, pre0 _ ?_, hrun, hended, _, _, rfl, ?_, ⟨_, rfl⟩, hW, hsame.mono (by decide) (by decide)⟩
  · show Steps p.tables e below (s₁.setTop (mkF m 0 #[.val (.int p1), .val (.int p2), .unset, .unset, .unset, .unset, .unset, .unset, .unset, .unset, .unset, .unset, .unset] [])) _
    refine XS.iloadN X0.here hx rfl (hb hby at_0) rfl ?_
    show Steps p.tables e below (s₁.setTop (mkF m 1 #[.val (.int p1), .val (.int p2), .unset, .unset, .unset, .unset, .unset, .unset, .unset, .unset, .unset, .unset, .unset] [(.int p2)])) _
    refine X0.ldcInt hx hown (mvT hZ (hw _ (List.mem_of_getElem? (i := 0) rfl))) (g := (mkF m 1 #[.val (.int p1), .val (.int p2), .unset, .unset, .unset, .unset, .unset, .unset, .unset, .unset, .unset, .unset, .unset] [(.int p2)])) rfl (hb hby at_1) _ ?_
    show Steps p.tables e below (s₁.setTop (mkF m 3 #[.val (.int p1), .val (.int p2), .unset, .unset, .unset, .unset, .unset, .unset, .unset, .unset, .unset, .unset, .unset] [(.int (1048576 : Int32)), (.int p2)])) _
    refine iremM X0 hx rfl (hb hby at_3) rfl (by decide) ?_
    show Steps p.tables e below (s₁.setTop (mkF m 4 #[.val (.int p1), .val (.int p2), .unset, .unset, .unset, .unset, .unset, .unset, .unset, .unset, .unset, .unset, .unset] [(.int (p2 % (1048576 : Int32)))])) _
    refine XS.istoreN X0.here hx rfl (hb hby at_4) rfl (l' := #[.val (.int p1), .val (.int p2), .val (.int (p2 % (1048576 : Int32))), .unset, .unset, .unset, .unset, .unset, .unset, .unset, .unset, .unset, .unset]) rfl ?_
    show Steps p.tables e below (s₁.setTop (mkF m 5 #[.val (.int p1), .val (.int p2), .val (.int (p2 % (1048576 : Int32))), .unset, .unset, .unset, .unset, .unset, .unset, .unset, .unset, .unset, .unset] [])) _
    refine XS.iloadN X0.here hx rfl (hb hby at_5) rfl ?_
    show Steps p.tables e below (s₁.setTop (mkF m 6 #[.val (.int p1), .val (.int p2), .val (.int (p2 % (1048576 : Int32))), .unset, .unset, .unset, .unset, .unset, .unset, .unset, .unset, .unset, .unset] [(.int p1)])) _
    refine XS.i2dS X0.here hx rfl (hb hby at_6) rfl rfl ?_
    show Steps p.tables e below (s₁.setTop (mkF m 7 #[.val (.int p1), .val (.int p2), .val (.int (p2 % (1048576 : Int32))), .unset, .unset, .unset, .unset, .unset, .unset, .unset, .unset, .unset, .unset] [(.double (FP.i2d p1))])) _
    refine XS.dstoreN X0.here hx rfl (hb hby at_7) rfl (l' := #[.val (.int p1), .val (.int p2), .val (.int (p2 % (1048576 : Int32))), .val (.double (FP.i2d p1)), .second, .unset, .unset, .unset, .unset, .unset, .unset, .unset, .unset]) rfl ?_
    show Steps p.tables e below (s₁.setTop (mkF m 8 #[.val (.int p1), .val (.int p2), .val (.int (p2 % (1048576 : Int32))), .val (.double (FP.i2d p1)), .second, .unset, .unset, .unset, .unset, .unset, .unset, .unset, .unset] [])) _
    refine XS.iloadN X0.here hx rfl (hb hby at_8) rfl ?_
    show Steps p.tables e below (s₁.setTop (mkF m 9 #[.val (.int p1), .val (.int p2), .val (.int (p2 % (1048576 : Int32))), .val (.double (FP.i2d p1)), .second, .unset, .unset, .unset, .unset, .unset, .unset, .unset, .unset] [(.int (p2 % (1048576 : Int32)))])) _
    refine XS.i2dS X0.here hx rfl (hb hby at_9) rfl rfl ?_
    show Steps p.tables e below (s₁.setTop (mkF m 10 #[.val (.int p1), .val (.int p2), .val (.int (p2 % (1048576 : Int32))), .val (.double (FP.i2d p1)), .second, .unset, .unset, .unset, .unset, .unset, .unset, .unset, .unset] [(.double (FP.i2d (p2 % (1048576 : Int32))))])) _
    refine X0.ldc2DoubleC hx hown (mvT hZ (hw _ (List.mem_of_getElem? (i := 1) rfl))) (g := (mkF m 10 #[.val (.int p1), .val (.int p2), .val (.int (p2 % (1048576 : Int32))), .val (.double (FP.i2d p1)), .second, .unset, .unset, .unset, .unset, .unset, .unset, .unset, .unset] [(.double (FP.i2d (p2 % (1048576 : Int32))))])) rfl (hb hby at_10) _ ?_
    show Steps p.tables e below (s₁.setTop (mkF m 13 #[.val (.int p1), .val (.int p2), .val (.int (p2 % (1048576 : Int32))), .val (.double (FP.i2d p1)), .second, .unset, .unset, .unset, .unset, .unset, .unset, .unset, .unset] [(.double (4562146422526312448 : UInt64)), (.double (FP.i2d (p2 % (1048576 : Int32))))])) _
    refine XS.dmulS X0.here hx rfl (hb hby at_13) rfl (own_A hg).noNaN rfl ?_
    show Steps p.tables e below (s₁.setTop (mkF m 14 #[.val (.int p1), .val (.int p2), .val (.int (p2 % (1048576 : Int32))), .val (.double (FP.i2d p1)), .second, .unset, .unset, .unset, .unset, .unset, .unset, .unset, .unset] [(.double (FP.dmul (FP.i2d (p2 % (1048576 : Int32))) (4562146422526312448 : UInt64)))])) _
    refine XS.dstore X0.here hx rfl (hb hby at_14) rfl (l' := #[.val (.int p1), .val (.int p2), .val (.int (p2 % (1048576 : Int32))), .val (.double (FP.i2d p1)), .second, .val (.double (FP.dmul (FP.i2d (p2 % (1048576 : Int32))) (4562146422526312448 : UInt64))), .second, .unset, .unset, .unset, .unset, .unset, .unset]) rfl ?_
    show Steps p.tables e below (s₁.setTop (mkF m 16 #[.val (.int p1), .val (.int p2), .val (.int (p2 % (1048576 : Int32))), .val (.double (FP.i2d p1)), .second, .val (.double (FP.dmul (FP.i2d (p2 % (1048576 : Int32))) (4562146422526312448 : UInt64))), .second, .unset, .unset, .unset, .unset, .unset, .unset] [])) _
    refine XS.dloadN X0.here hx rfl (hb hby at_16) rfl ?_
    show Steps p.tables e below (s₁.setTop (mkF m 17 #[.val (.int p1), .val (.int p2), .val (.int (p2 % (1048576 : Int32))), .val (.double (FP.i2d p1)), .second, .val (.double (FP.dmul (FP.i2d (p2 % (1048576 : Int32))) (4562146422526312448 : UInt64))), .second, .unset, .unset, .unset, .unset, .unset, .unset] [(.double (FP.i2d p1))])) _
    refine XS.dload X0.here hx rfl (hb hby at_17) rfl ?_
    show Steps p.tables e below (s₁.setTop (mkF m 19 #[.val (.int p1), .val (.int p2), .val (.int (p2 % (1048576 : Int32))), .val (.double (FP.i2d p1)), .second, .val (.double (FP.dmul (FP.i2d (p2 % (1048576 : Int32))) (4562146422526312448 : UInt64))), .second, .unset, .unset, .unset, .unset, .unset, .unset] [(.double (FP.dmul (FP.i2d (p2 % (1048576 : Int32))) (4562146422526312448 : UInt64))), (.double (FP.i2d p1))])) _
    refine st1 _ ?_
    show Steps p.tables e below (T1.setTop (mkF m 22 #[.val (.int p1), .val (.int p2), .val (.int (p2 % (1048576 : Int32))), .val (.double (FP.i2d p1)), .second, .val (.double (FP.dmul (FP.i2d (p2 % (1048576 : Int32))) (4562146422526312448 : UInt64))), .second, .unset, .unset, .unset, .unset, .unset, .unset] [(.double (own_rnd (FP.i2d p1) (FP.dmul (FP.i2d (p2 % (1048576 : Int32))) (4562146422526312448 : UInt64))))])) _
    refine XS.dstore X1.here hx rfl (hb hby at_22) rfl (l' := #[.val (.int p1), .val (.int p2), .val (.int (p2 % (1048576 : Int32))), .val (.double (FP.i2d p1)), .second, .val (.double (FP.dmul (FP.i2d (p2 % (1048576 : Int32))) (4562146422526312448 : UInt64))), .second, .val (.double (own_rnd (FP.i2d p1) (FP.dmul (FP.i2d (p2 % (1048576 : Int32))) (4562146422526312448 : UInt64)))), .second, .unset, .unset, .unset, .unset]) rfl ?_
    show Steps p.tables e below (T1.setTop (mkF m 24 #[.val (.int p1), .val (.int p2), .val (.int (p2 % (1048576 : Int32))), .val (.double (FP.i2d p1)), .second, .val (.double (FP.dmul (FP.i2d (p2 % (1048576 : Int32))) (4562146422526312448 : UInt64))), .second, .val (.double (own_rnd (FP.i2d p1) (FP.dmul (FP.i2d (p2 % (1048576 : Int32))) (4562146422526312448 : UInt64)))), .second, .unset, .unset, .unset, .unset] [])) _
    refine XS.iloadN X1.here hx rfl (hb hby at_24) rfl ?_
    show Steps p.tables e below (T1.setTop (mkF m 25 #[.val (.int p1), .val (.int p2), .val (.int (p2 % (1048576 : Int32))), .val (.double (FP.i2d p1)), .second, .val (.double (FP.dmul (FP.i2d (p2 % (1048576 : Int32))) (4562146422526312448 : UInt64))), .second, .val (.double (own_rnd (FP.i2d p1) (FP.dmul (FP.i2d (p2 % (1048576 : Int32))) (4562146422526312448 : UInt64)))), .second, .unset, .unset, .unset, .unset] [(.int p1)])) _
    refine XS.i2l X1.here hx rfl (hb hby at_25) rfl ?_
    show Steps p.tables e below (T1.setTop (mkF m 26 #[.val (.int p1), .val (.int p2), .val (.int (p2 % (1048576 : Int32))), .val (.double (FP.i2d p1)), .second, .val (.double (FP.dmul (FP.i2d (p2 % (1048576 : Int32))) (4562146422526312448 : UInt64))), .second, .val (.double (own_rnd (FP.i2d p1) (FP.dmul (FP.i2d (p2 % (1048576 : Int32))) (4562146422526312448 : UInt64)))), .second, .unset, .unset, .unset, .unset] [(.long p1.toInt64)])) _
    refine X1.ldc2Long hx hown (mvT hZ (hw _ (List.mem_of_getElem? (i := 11) rfl))) (g := (mkF m 26 #[.val (.int p1), .val (.int p2), .val (.int (p2 % (1048576 : Int32))), .val (.double (FP.i2d p1)), .second, .val (.double (FP.dmul (FP.i2d (p2 % (1048576 : Int32))) (4562146422526312448 : UInt64))), .second, .val (.double (own_rnd (FP.i2d p1) (FP.dmul (FP.i2d (p2 % (1048576 : Int32))) (4562146422526312448 : UInt64)))), .second, .unset, .unset, .unset, .unset] [(.long p1.toInt64)])) rfl (hb hby at_26) _ ?_
    show Steps p.tables e below (T1.setTop (mkF m 29 #[.val (.int p1), .val (.int p2), .val (.int (p2 % (1048576 : Int32))), .val (.double (FP.i2d p1)), .second, .val (.double (FP.dmul (FP.i2d (p2 % (1048576 : Int32))) (4562146422526312448 : UInt64))), .second, .val (.double (own_rnd (FP.i2d p1) (FP.dmul (FP.i2d (p2 % (1048576 : Int32))) (4562146422526312448 : UInt64)))), .second, .unset, .unset, .unset, .unset] [(.long (1024 : Int64)), (.long p1.toInt64)])) _
    refine XS.iloadN X1.here hx rfl (hb hby at_29) rfl ?_
    show Steps p.tables e below (T1.setTop (mkF m 30 #[.val (.int p1), .val (.int p2), .val (.int (p2 % (1048576 : Int32))), .val (.double (FP.i2d p1)), .second, .val (.double (FP.dmul (FP.i2d (p2 % (1048576 : Int32))) (4562146422526312448 : UInt64))), .second, .val (.double (own_rnd (FP.i2d p1) (FP.dmul (FP.i2d (p2 % (1048576 : Int32))) (4562146422526312448 : UInt64)))), .second, .unset, .unset, .unset, .unset] [(.int (p2 % (1048576 : Int32))), (.long (1024 : Int64)), (.long p1.toInt64)])) _
    refine XS.i2l X1.here hx rfl (hb hby at_30) rfl ?_
    show Steps p.tables e below (T1.setTop (mkF m 31 #[.val (.int p1), .val (.int p2), .val (.int (p2 % (1048576 : Int32))), .val (.double (FP.i2d p1)), .second, .val (.double (FP.dmul (FP.i2d (p2 % (1048576 : Int32))) (4562146422526312448 : UInt64))), .second, .val (.double (own_rnd (FP.i2d p1) (FP.dmul (FP.i2d (p2 % (1048576 : Int32))) (4562146422526312448 : UInt64)))), .second, .unset, .unset, .unset, .unset] [(.long (p2 % (1048576 : Int32)).toInt64), (.long (1024 : Int64)), (.long p1.toInt64)])) _
    refine st2 _ ?_
    show Steps p.tables e below (T2.setTop (mkF m 34 #[.val (.int p1), .val (.int p2), .val (.int (p2 % (1048576 : Int32))), .val (.double (FP.i2d p1)), .second, .val (.double (FP.dmul (FP.i2d (p2 % (1048576 : Int32))) (4562146422526312448 : UInt64))), .second, .val (.double (own_rnd (FP.i2d p1) (FP.dmul (FP.i2d (p2 % (1048576 : Int32))) (4562146422526312448 : UInt64)))), .second, .unset, .unset, .unset, .unset] [(.long (own_absJ (p2 % (1048576 : Int32)).toInt64)), (.long (1024 : Int64)), (.long p1.toInt64)])) _
    refine XS.ladd X2.here hx rfl (hb hby at_34) rfl ?_
    show Steps p.tables e below (T2.setTop (mkF m 35 #[.val (.int p1), .val (.int p2), .val (.int (p2 % (1048576 : Int32))), .val (.double (FP.i2d p1)), .second, .val (.double (FP.dmul (FP.i2d (p2 % (1048576 : Int32))) (4562146422526312448 : UInt64))), .second, .val (.double (own_rnd (FP.i2d p1) (FP.dmul (FP.i2d (p2 % (1048576 : Int32))) (4562146422526312448 : UInt64)))), .second, .unset, .unset, .unset, .unset] [(.long ((1024 : Int64) + (own_absJ (p2 % (1048576 : Int32)).toInt64))), (.long p1.toInt64)])) _
    refine XS.lmul X2.here hx rfl (hb hby at_35) rfl ?_
    show Steps p.tables e below (T2.setTop (mkF m 36 #[.val (.int p1), .val (.int p2), .val (.int (p2 % (1048576 : Int32))), .val (.double (FP.i2d p1)), .second, .val (.double (FP.dmul (FP.i2d (p2 % (1048576 : Int32))) (4562146422526312448 : UInt64))), .second, .val (.double (own_rnd (FP.i2d p1) (FP.dmul (FP.i2d (p2 % (1048576 : Int32))) (4562146422526312448 : UInt64)))), .second, .unset, .unset, .unset, .unset] [(.long (p1.toInt64 * ((1024 : Int64) + (own_absJ (p2 % (1048576 : Int32)).toInt64))))])) _
    refine XS.lstore X2.here hx rfl (hb hby at_36) rfl (l' := #[.val (.int p1), .val (.int p2), .val (.int (p2 % (1048576 : Int32))), .val (.double (FP.i2d p1)), .second, .val (.double (FP.dmul (FP.i2d (p2 % (1048576 : Int32))) (4562146422526312448 : UInt64))), .second, .val (.double (own_rnd (FP.i2d p1) (FP.dmul (FP.i2d (p2 % (1048576 : Int32))) (4562146422526312448 : UInt64)))), .second, .val (.long (p1.toInt64 * ((1024 : Int64) + (own_absJ (p2 % (1048576 : Int32)).toInt64)))), .second, .unset, .unset]) rfl ?_
    show Steps p.tables e below (T2.setTop (mkF m 38 #[.val (.int p1), .val (.int p2), .val (.int (p2 % (1048576 : Int32))), .val (.double (FP.i2d p1)), .second, .val (.double (FP.dmul (FP.i2d (p2 % (1048576 : Int32))) (4562146422526312448 : UInt64))), .second, .val (.double (own_rnd (FP.i2d p1) (FP.dmul (FP.i2d (p2 % (1048576 : Int32))) (4562146422526312448 : UInt64)))), .second, .val (.long (p1.toInt64 * ((1024 : Int64) + (own_absJ (p2 % (1048576 : Int32)).toInt64)))), .second, .unset, .unset] [])) _
    refine XS.lload X2.here hx rfl (hb hby at_38) rfl ?_
    show Steps p.tables e below (T2.setTop (mkF m 40 #[.val (.int p1), .val (.int p2), .val (.int (p2 % (1048576 : Int32))), .val (.double (FP.i2d p1)), .second, .val (.double (FP.dmul (FP.i2d (p2 % (1048576 : Int32))) (4562146422526312448 : UInt64))), .second, .val (.double (own_rnd (FP.i2d p1) (FP.dmul (FP.i2d (p2 % (1048576 : Int32))) (4562146422526312448 : UInt64)))), .second, .val (.long (p1.toInt64 * ((1024 : Int64) + (own_absJ (p2 % (1048576 : Int32)).toInt64)))), .second, .unset, .unset] [(.long (p1.toInt64 * ((1024 : Int64) + (own_absJ (p2 % (1048576 : Int32)).toInt64))))])) _
    refine XS.l2dS X2.here hx rfl (hb hby at_40) rfl rfl ?_
    show Steps p.tables e below (T2.setTop (mkF m 41 #[.val (.int p1), .val (.int p2), .val (.int (p2 % (1048576 : Int32))), .val (.double (FP.i2d p1)), .second, .val (.double (FP.dmul (FP.i2d (p2 % (1048576 : Int32))) (4562146422526312448 : UInt64))), .second, .val (.double (own_rnd (FP.i2d p1) (FP.dmul (FP.i2d (p2 % (1048576 : Int32))) (4562146422526312448 : UInt64)))), .second, .val (.long (p1.toInt64 * ((1024 : Int64) + (own_absJ (p2 % (1048576 : Int32)).toInt64)))), .second, .unset, .unset] [(.double (FP.l2d (p1.toInt64 * ((1024 : Int64) + (own_absJ (p2 % (1048576 : Int32)).toInt64)))))])) _
    refine X2.ldc2DoubleC hx hown (mvT hZ (hw _ (List.mem_of_getElem? (i := 15) rfl))) (g := (mkF m 41 #[.val (.int p1), .val (.int p2), .val (.int (p2 % (1048576 : Int32))), .val (.double (FP.i2d p1)), .second, .val (.double (FP.dmul (FP.i2d (p2 % (1048576 : Int32))) (4562146422526312448 : UInt64))), .second, .val (.double (own_rnd (FP.i2d p1) (FP.dmul (FP.i2d (p2 % (1048576 : Int32))) (4562146422526312448 : UInt64)))), .second, .val (.long (p1.toInt64 * ((1024 : Int64) + (own_absJ (p2 % (1048576 : Int32)).toInt64)))), .second, .unset, .unset] [(.double (FP.l2d (p1.toInt64 * ((1024 : Int64) + (own_absJ (p2 % (1048576 : Int32)).toInt64)))))])) rfl (hb hby at_41) _ ?_
    show Steps p.tables e below (T2.setTop (mkF m 44 #[.val (.int p1), .val (.int p2), .val (.int (p2 % (1048576 : Int32))), .val (.double (FP.i2d p1)), .second, .val (.double (FP.dmul (FP.i2d (p2 % (1048576 : Int32))) (4562146422526312448 : UInt64))), .second, .val (.double (own_rnd (FP.i2d p1) (FP.dmul (FP.i2d (p2 % (1048576 : Int32))) (4562146422526312448 : UInt64)))), .second, .val (.long (p1.toInt64 * ((1024 : Int64) + (own_absJ (p2 % (1048576 : Int32)).toInt64)))), .second, .unset, .unset] [(.double (4363988038922010624 : UInt64)), (.double (FP.l2d (p1.toInt64 * ((1024 : Int64) + (own_absJ (p2 % (1048576 : Int32)).toInt64)))))])) _
    refine XS.dmulS X2.here hx rfl (hb hby at_44) rfl (own_X p1 hg).noNaN rfl ?_
    show Steps p.tables e below (T2.setTop (mkF m 45 #[.val (.int p1), .val (.int p2), .val (.int (p2 % (1048576 : Int32))), .val (.double (FP.i2d p1)), .second, .val (.double (FP.dmul (FP.i2d (p2 % (1048576 : Int32))) (4562146422526312448 : UInt64))), .second, .val (.double (own_rnd (FP.i2d p1) (FP.dmul (FP.i2d (p2 % (1048576 : Int32))) (4562146422526312448 : UInt64)))), .second, .val (.long (p1.toInt64 * ((1024 : Int64) + (own_absJ (p2 % (1048576 : Int32)).toInt64)))), .second, .unset, .unset] [(.double (FP.dmul (FP.l2d (p1.toInt64 * ((1024 : Int64) + (own_absJ (p2 % (1048576 : Int32)).toInt64)))) (4363988038922010624 : UInt64)))])) _
    refine XS.dstore X2.here hx rfl (hb hby at_45) rfl (l' := #[.val (.int p1), .val (.int p2), .val (.int (p2 % (1048576 : Int32))), .val (.double (FP.i2d p1)), .second, .val (.double (FP.dmul (FP.i2d (p2 % (1048576 : Int32))) (4562146422526312448 : UInt64))), .second, .val (.double (own_rnd (FP.i2d p1) (FP.dmul (FP.i2d (p2 % (1048576 : Int32))) (4562146422526312448 : UInt64)))), .second, .val (.long (p1.toInt64 * ((1024 : Int64) + (own_absJ (p2 % (1048576 : Int32)).toInt64)))), .second, .val (.double (FP.dmul (FP.l2d (p1.toInt64 * ((1024 : Int64) + (own_absJ (p2 % (1048576 : Int32)).toInt64)))) (4363988038922010624 : UInt64))), .second]) rfl ?_
    show Steps p.tables e below (T2.setTop (mkF m 47 #[.val (.int p1), .val (.int p2), .val (.int (p2 % (1048576 : Int32))), .val (.double (FP.i2d p1)), .second, .val (.double (FP.dmul (FP.i2d (p2 % (1048576 : Int32))) (4562146422526312448 : UInt64))), .second, .val (.double (own_rnd (FP.i2d p1) (FP.dmul (FP.i2d (p2 % (1048576 : Int32))) (4562146422526312448 : UInt64)))), .second, .val (.long (p1.toInt64 * ((1024 : Int64) + (own_absJ (p2 % (1048576 : Int32)).toInt64)))), .second, .val (.double (FP.dmul (FP.l2d (p1.toInt64 * ((1024 : Int64) + (own_absJ (p2 % (1048576 : Int32)).toInt64)))) (4363988038922010624 : UInt64))), .second] [])) _
    refine XS.dload X2.here hx rfl (hb hby at_47) rfl ?_
    show Steps p.tables e below (T2.setTop (mkF m 49 #[.val (.int p1), .val (.int p2), .val (.int (p2 % (1048576 : Int32))), .val (.double (FP.i2d p1)), .second, .val (.double (FP.dmul (FP.i2d (p2 % (1048576 : Int32))) (4562146422526312448 : UInt64))), .second, .val (.double (own_rnd (FP.i2d p1) (FP.dmul (FP.i2d (p2 % (1048576 : Int32))) (4562146422526312448 : UInt64)))), .second, .val (.long (p1.toInt64 * ((1024 : Int64) + (own_absJ (p2 % (1048576 : Int32)).toInt64)))), .second, .val (.double (FP.dmul (FP.l2d (p1.toInt64 * ((1024 : Int64) + (own_absJ (p2 % (1048576 : Int32)).toInt64)))) (4363988038922010624 : UInt64))), .second] [(.double (own_rnd (FP.i2d p1) (FP.dmul (FP.i2d (p2 % (1048576 : Int32))) (4562146422526312448 : UInt64))))])) _
    refine XS.dload X2.here hx rfl (hb hby at_49) rfl ?_
    show Steps p.tables e below (T2.setTop (mkF m 51 #[.val (.int p1), .val (.int p2), .val (.int (p2 % (1048576 : Int32))), .val (.double (FP.i2d p1)), .second, .val (.double (FP.dmul (FP.i2d (p2 % (1048576 : Int32))) (4562146422526312448 : UInt64))), .second, .val (.double (own_rnd (FP.i2d p1) (FP.dmul (FP.i2d (p2 % (1048576 : Int32))) (4562146422526312448 : UInt64)))), .second, .val (.long (p1.toInt64 * ((1024 : Int64) + (own_absJ (p2 % (1048576 : Int32)).toInt64)))), .second, .val (.double (FP.dmul (FP.l2d (p1.toInt64 * ((1024 : Int64) + (own_absJ (p2 % (1048576 : Int32)).toInt64)))) (4363988038922010624 : UInt64))), .second] [(.double (FP.dmul (FP.l2d (p1.toInt64 * ((1024 : Int64) + (own_absJ (p2 % (1048576 : Int32)).toInt64)))) (4363988038922010624 : UInt64))), (.double (own_rnd (FP.i2d p1) (FP.dmul (FP.i2d (p2 % (1048576 : Int32))) (4562146422526312448 : UInt64))))])) _
    refine XS.dcmpS X2.here hx rfl (hb hby at_51) rfl rfl ?_
    show Steps p.tables e below (T2.setTop (mkF m 52 #[.val (.int p1), .val (.int p2), .val (.int (p2 % (1048576 : Int32))), .val (.double (FP.i2d p1)), .second, .val (.double (FP.dmul (FP.i2d (p2 % (1048576 : Int32))) (4562146422526312448 : UInt64))), .second, .val (.double (own_rnd (FP.i2d p1) (FP.dmul (FP.i2d (p2 % (1048576 : Int32))) (4562146422526312448 : UInt64)))), .second, .val (.long (p1.toInt64 * ((1024 : Int64) + (own_absJ (p2 % (1048576 : Int32)).toInt64)))), .second, .val (.double (FP.dmul (FP.l2d (p1.toInt64 * ((1024 : Int64) + (own_absJ (p2 % (1048576 : Int32)).toInt64)))) (4363988038922010624 : UInt64))), .second] [(.int (cmpValue (FP.dcmp (own_rnd (FP.i2d p1) (FP.dmul (FP.i2d (p2 % (1048576 : Int32))) (4562146422526312448 : UInt64))) (FP.dmul (FP.l2d (p1.toInt64 * ((1024 : Int64) + (own_absJ (p2 % (1048576 : Int32)).toInt64)))) (4363988038922010624 : UInt64))) .l))])) _
    refine XS.ifNo X2.here hx rfl (hb hby at_52) rfl ((if0 _ _).trans (teq (own_cmpV_eq (own_R p1 hg) (own_X p1 hg) rfl _)).2) ?_
    show Steps p.tables e below (T2.setTop (mkF m 55 #[.val (.int p1), .val (.int p2), .val (.int (p2 % (1048576 : Int32))), .val (.double (FP.i2d p1)), .second, .val (.double (FP.dmul (FP.i2d (p2 % (1048576 : Int32))) (4562146422526312448 : UInt64))), .second, .val (.double (own_rnd (FP.i2d p1) (FP.dmul (FP.i2d (p2 % (1048576 : Int32))) (4562146422526312448 : UInt64)))), .second, .val (.long (p1.toInt64 * ((1024 : Int64) + (own_absJ (p2 % (1048576 : Int32)).toInt64)))), .second, .val (.double (FP.dmul (FP.l2d (p1.toInt64 * ((1024 : Int64) + (own_absJ (p2 % (1048576 : Int32)).toInt64)))) (4363988038922010624 : UInt64))), .second] [])) _
    refine XS.iconst X2.here hx rfl (hb hby at_55) ?_
    show Steps p.tables e below (T2.setTop (mkF m 56 #[.val (.int p1), .val (.int p2), .val (.int (p2 % (1048576 : Int32))), .val (.double (FP.i2d p1)), .second, .val (.double (FP.dmul (FP.i2d (p2 % (1048576 : Int32))) (4562146422526312448 : UInt64))), .second, .val (.double (own_rnd (FP.i2d p1) (FP.dmul (FP.i2d (p2 % (1048576 : Int32))) (4562146422526312448 : UInt64)))), .second, .val (.long (p1.toInt64 * ((1024 : Int64) + (own_absJ (p2 % (1048576 : Int32)).toInt64)))), .second, .val (.double (FP.dmul (FP.l2d (p1.toInt64 * ((1024 : Int64) + (own_absJ (p2 % (1048576 : Int32)).toInt64)))) (4363988038922010624 : UInt64))), .second] [(.int (1 : Int32))])) _
    refine XS.goto X2.here hx rfl (pc0 := 56) (pc' := 60) rfl (hb hby at_56) (by decide) (by decide) ?_
    show Steps p.tables e below (T2.setTop (mkF m 60 #[.val (.int p1), .val (.int p2), .val (.int (p2 % (1048576 : Int32))), .val (.double (FP.i2d p1)), .second, .val (.double (FP.dmul (FP.i2d (p2 % (1048576 : Int32))) (4562146422526312448 : UInt64))), .second, .val (.double (own_rnd (FP.i2d p1) (FP.dmul (FP.i2d (p2 % (1048576 : Int32))) (4562146422526312448 : UInt64)))), .second, .val (.long (p1.toInt64 * ((1024 : Int64) + (own_absJ (p2 % (1048576 : Int32)).toInt64)))), .second, .val (.double (FP.dmul (FP.l2d (p1.toInt64 * ((1024 : Int64) + (own_absJ (p2 % (1048576 : Int32)).toInt64)))) (4363988038922010624 : UInt64))), .second] [(.int (1 : Int32))])) _
    exact retN X2 hx (t := .boolean) Bd.returns (by simp) (hb hby at_60) hr
  · exact ⟨rfl, N2⟩
set_option maxRecDepth 65536 in
set_option maxHeartbeats 40000000 in
theorem comes_1 {Post : Tables → Env → Array Value → State → Outcome → State → Prop} (hpost : ∀ tb e args s v u, (limb_1_1.after args s (.returned v) u = true ∧ limb_1_2.after args s (.returned v) u = true ∧ True) → FrameEnd s (.returned v) u (Jvm.fieldLocs frame_1_writes args s ++ Jvm.arrayLocs frame_1_arrays args s ++ Jvm.staticLocs frame_1_statics s) 0 0 → Post tb e args s (.returned v) u) :
    ArmFor flags0 classFile x code maxLocals ret World_1 tables_1 room_1 Calls_1 rest_1 Pre_1 Post := by
  intro l hfl _ _ p e ha hc hk s m args below hf hA hF happ hP
  obtain ⟨hcalls, hrest, hpre⟩ := hP
  obtain ⟨-, -, -, hnamed, -, -, -, hat⟩ := (Spec.applies_iff hf).mp happ
  obtain ⟨hg, hn⟩ := and_e (Cond.before_iff.mp (show (Jvm.Cond.and given_1 narrow_1).before args s = true from hpre))
  obtain ⟨g1, g2⟩ := and_e hg
  obtain ⟨g3, g4⟩ := and_e g2
  obtain ⟨w0, w1, rfl⟩ : ∃ w0 w1 : Value, args = #[w0, w1] := by
    have hs : args.size = 2 := by simpa [Cond.value, given_1] using g1
    obtain ⟨L⟩ := args
    match L, hs with
    | [w0, w1], _ => exact ⟨w0, w1, rfl⟩
  have hw := fun d (hd : d ∈ tables_1) => atoms_spec (ws := Jvm.Cond.code x code maxLocals ret :: tables_1) hat d (List.mem_cons_of_mem _ hd)
  obtain ⟨i0, ei0⟩ := is_v g3
  obtain rfl : w0 = (.int i0) := Option.some.inj ei0
  obtain ⟨i1, ei1⟩ := is_v g4
  obtain rfl : w1 = (.int i1) := Option.some.inj ei1
  obtain ⟨n, o, h1, h2, h3, _, L, rfl, ⟨rfl, N⟩, hq⟩ := rm0 l s _ hw tables_1 i0 i1 s.heap s.heap.size (Nat.le_refl _) p e ha hc hk s m _ below hf ((Spec.applies_iff_loose hf).mp happ).1 ⟨rfl, State.Warmed39.refl s, rfl⟩ trivial
  refine ⟨n, _, h1, h2, h3, hpost _ _ _ _ _ _ ⟨Cond.after_iff.mpr rfl, Cond.after_iff.mpr (eq_i res_at (Term.int_eval (1)) rfl), trivial⟩ ⟨hq.1, hq.2.1, (hq.2.2.sift fun y hy => Or.inr (N y hy)).mono (by decide) (by decide)⟩⟩
theorem main_1_1 : Claimed_1_1 := comes_1 fun _ _ _ _ _ _ h hF => ⟨h.1, hF⟩
theorem main_1_2 : Claimed_1_2 := comes_1 fun _ _ _ _ _ _ h hF => ⟨h.2.1, hF⟩
end Jvm.Pilot.@@N@@
namespace Jvm.Pilot.@@N@@
open Jvm Jvm.ClassFile Sem Op Lib Jvm.Free Jvm.Stand Jvm.Pilot.@@N@@.Jvm.D
/-! MADE BY PROGRAM (witnessworld.py) out of the Statement's table words and the real class files: 11 classes; the members and pool entries that the words name. The judged class is class 1, her method 1. -/
namespace start1
open Jvm.ClassFile
def u (s : String) : CpInfo := .utf8 (stringToUtf16 s)
/-- a pool by its gaps: so many unusable entries, then the entry; so many at the end -/
def gap : Nat → List CpInfo → List CpInfo
  | 0, r => r
  | n + 1, r => .unusable :: gap n r
def poolList (es : List (Nat × CpInfo)) (last : Nat) : List CpInfo := es.foldr (fun e r => gap e.1 (e.2 :: r)) (gap last [])
def pool (es : List (Nat × CpInfo)) (last : Nat) : Array CpInfo := ⟨poolList es last⟩
def fileOf (pool : Array CpInfo) (this : Nat) (attrs : Array Attribute := #[]) (ms : Array MethodInfo := #[]) (fl : Nat := 33) (sup : Nat := 0) (ifs : Array Nat := #[]) (fds : Array FieldInfo := #[]) : ClassFile where
  minorVersion := 0
  majorVersion := 65
  constantPool := pool
  accessFlags := fl
  thisClass := this
  superClass := sup
  interfaces := ifs
  fields := fds
  methods := ms
  attributes := attrs
def plain (name : String) (sup : Option ClassId) : Class where
  name := name
  kind := .ordinary
  loader := none
  accessFlags := 33
  super := sup
  interfaces := #[]
  cf := none
  fields := #[]
  methods := #[]
  instanceTypes := #[]
  staticTypes := #[]
  resolved := #[]
  callSites := []
  init := .initialized
  statics := none
  mirror := none

def pool0 : Array CpInfo := pool [(5, u "<init>"), (0, u "()V"), (1, .class_ 10), (1, u "java/lang/Object")] 113

def k0m0 : Method := { name := "<init>", desc := "()V", sig := { parameters := [], returnType := none }, accessFlags := 1, code := none }
/-- java/lang/Object -/
def k0 : Class := { plain "java/lang/Object" none with
  accessFlags := 33
  interfaces := #[]
  cf := some (fileOf pool0 8 #[] #[{ accessFlags := 1, nameIndex := 5, descriptorIndex := 6, attributes := #[] }] 33 0 #[] #[])
  fields := #[]
  methods := #[k0m0]
  instanceTypes := #[]
  staticTypes := #[]
  resolved := Array.replicate 124 none
  statics := none }

def pool1 : Array CpInfo := pool [(2, .class_ 4), (1, u "java/lang/Object"), (0, u "<init>"), (0, u "()V"), (0, .integer 1048576), (0, .double 4562146422526312448), (1, .methodref 11 12), (0, .class_ 13), (0, .nameAndType 14 15), (0, u "com/example/focaldate/focaldate/MovedBalance"), (0, u "rounding"), (0, u "(DD)D"), (0, .long 1024), (1, .methodref 19 20), (0, .class_ 21), (0, .nameAndType 22 23), (0, u "java/lang/Math"), (0, u "abs"), (0, u "(J)J"), (0, .double 4363988038922010624), (1, .class_ 27), (0, u "com/example/focaldate/focaldate/MovedBalanceRoundingPinLaw"), (2, u "law"), (0, u "(II)Z")] 3

def k1m0 : Method := { name := "<init>", desc := "()V", sig := { parameters := [], returnType := none }, accessFlags := 1, code := none }
def k1c1 : Code := { maxStack := 6, maxLocals := 13, code := code, exceptionTable := #[], attributes := #[] }
def k1m1 : Method := { name := "law", desc := "(II)Z", sig := { parameters := [.int, .int], returnType := some .boolean }, accessFlags := 9, code := some k1c1 }
/-- com/example/focaldate/focaldate/MovedBalanceRoundingPinLaw -/
def k1 : Class := { plain "com/example/focaldate/focaldate/MovedBalanceRoundingPinLaw" (some 0) with
  accessFlags := 49
  interfaces := #[]
  cf := some (fileOf pool1 26 #[] #[{ accessFlags := 1, nameIndex := 5, descriptorIndex := 6, attributes := #[] }, { accessFlags := 9, nameIndex := 30, descriptorIndex := 31, attributes := #[] }] 49 2 #[] #[])
  fields := #[]
  methods := #[k1m0, k1m1]
  instanceTypes := #[]
  staticTypes := #[]
  resolved := Array.replicate 35 none
  statics := none }

def pool2 : Array CpInfo := pool [(2, .class_ 4), (1, u "java/lang/Object"), (0, u "<init>"), (0, u "()V"), (0, .class_ 8), (0, u "java/lang/Record")] 13

def k2m0 : Method := { name := "<init>", desc := "()V", sig := { parameters := [], returnType := none }, accessFlags := 4, code := none }
/-- java/lang/Record -/
def k2 : Class := { plain "java/lang/Record" (some 0) with
  accessFlags := 1057
  interfaces := #[]
  cf := some (fileOf pool2 7 #[] #[{ accessFlags := 4, nameIndex := 5, descriptorIndex := 6, attributes := #[] }] 1057 2 #[] #[])
  fields := #[]
  methods := #[k2m0]
  instanceTypes := #[]
  staticTypes := #[]
  resolved := Array.replicate 22 none
  statics := none }

def pool3 : Array CpInfo := pool [(2, .class_ 4), (1, u "java/lang/Record"), (3, .class_ 10), (1, u "com/example/focaldate/focaldate/MovedBalance"), (0, u "value"), (0, u "D"), (2, u "parts"), (2, u "power"), (2, u "excessParts"), (1, .class_ 25), (1, u "java/lang/Math"), (1, u "(D)D"), (9, .methodref 23 38), (0, .nameAndType 39 27), (0, u "abs"), (11, u "(DD)D"), (5, u "rounding"), (10, .double 4409024035195715584), (13, u "ROUNDING"), (1, u "SUM_ROUNDING")] 37

def k3c0 : Code := { maxStack := 6, maxLocals := 4, code := prog_15_method_5_code, exceptionTable := #[], attributes := #[] }
def k3m0 : Method := { name := "rounding", desc := "(DD)D", sig := { parameters := [.double, .double], returnType := some .double }, accessFlags := 8, code := some k3c0 }
/-- com/example/focaldate/focaldate/MovedBalance -/
def k3 : Class := { plain "com/example/focaldate/focaldate/MovedBalance" (some 2) with
  accessFlags := 48
  interfaces := #[]
  cf := some (fileOf pool3 8 #[] #[{ accessFlags := 8, nameIndex := 57, descriptorIndex := 51, attributes := #[] }] 48 2 #[] #[{ accessFlags := 18, nameIndex := 11, descriptorIndex := 12, attributes := #[] }, { accessFlags := 18, nameIndex := 15, descriptorIndex := 12, attributes := #[] }, { accessFlags := 18, nameIndex := 18, descriptorIndex := 12, attributes := #[] }, { accessFlags := 18, nameIndex := 21, descriptorIndex := 12, attributes := #[] }, { accessFlags := 26, nameIndex := 82, descriptorIndex := 12, attributes := #[] }, { accessFlags := 26, nameIndex := 84, descriptorIndex := 12, attributes := #[] }])
  fields := #[{ name := "value", type := .double, accessFlags := 18, slot := 0, constantValue := 0 }, { name := "parts", type := .double, accessFlags := 18, slot := 1, constantValue := 0 }, { name := "power", type := .double, accessFlags := 18, slot := 2, constantValue := 0 }, { name := "excessParts", type := .double, accessFlags := 18, slot := 3, constantValue := 0 }, { name := "ROUNDING", type := .double, accessFlags := 26, slot := 0, constantValue := 0 }, { name := "SUM_ROUNDING", type := .double, accessFlags := 26, slot := 1, constantValue := 0 }]
  methods := #[k3m0]
  instanceTypes := #[.double, .double, .double, .double]
  staticTypes := #[.double, .double]
  resolved := Array.replicate 122 none
  statics := none }

def pool4 : Array CpInfo := pool [(1, .class_ 2), (0, u "java/lang/Math"), (1, .class_ 6), (1, u "java/lang/Object"), (0, u "<init>"), (0, u "()V"), (5, u "(D)D"), (83, .class_ 100), (1, u "java/lang/Math$RandomNumberGeneratorHolder"), (23, u "abs"), (0, u "(J)J"), (46, u "negativeZeroFloatBits"), (0, u "J"), (2, u "negativeZeroDoubleBits"), (68, u "$assertionsDisabled"), (0, u "Z"), (91, u "twoToTheDoubleScaleDown"), (0, u "D"), (4, u "twoToTheDoubleScaleUp"), (9, u "E"), (3, u "PI"), (2, u "TAU"), (2, u "DEGREES_TO_RADIANS"), (0, u "RADIANS_TO_DEGREES")] 94

def k4m0 : Method := { name := "<init>", desc := "()V", sig := { parameters := [], returnType := none }, accessFlags := 2, code := none }
def k4c1 : Code := { maxStack := 4, maxLocals := 2, code := jdk_29_method_61_code, exceptionTable := #[], attributes := #[] }
def k4m1 : Method := { name := "abs", desc := "(J)J", sig := { parameters := [.long], returnType := some .long }, accessFlags := 9, code := some k4c1 }
def k4c2 : Code := { maxStack := 4, maxLocals := 2, code := jdk_29_method_64_code, exceptionTable := #[], attributes := #[] }
def k4m2 : Method := { name := "abs", desc := "(D)D", sig := { parameters := [.double], returnType := some .double }, accessFlags := 9, code := some k4c2 }
/-- java/lang/Math -/
def k4 : Class := { plain "java/lang/Math" (some 0) with
  accessFlags := 49
  interfaces := #[]
  cf := some (fileOf pool4 1 #[.nestMembers #[98]] #[{ accessFlags := 2, nameIndex := 7, descriptorIndex := 8, attributes := #[] }, { accessFlags := 9, nameIndex := 124, descriptorIndex := 125, attributes := #[] }, { accessFlags := 9, nameIndex := 124, descriptorIndex := 14, attributes := #[] }] 49 4 #[] #[{ accessFlags := 25, nameIndex := 354, descriptorIndex := 339, attributes := #[] }, { accessFlags := 25, nameIndex := 358, descriptorIndex := 339, attributes := #[] }, { accessFlags := 25, nameIndex := 361, descriptorIndex := 339, attributes := #[] }, { accessFlags := 26, nameIndex := 364, descriptorIndex := 339, attributes := #[] }, { accessFlags := 26, nameIndex := 365, descriptorIndex := 339, attributes := #[] }, { accessFlags := 26, nameIndex := 172, descriptorIndex := 173, attributes := #[] }, { accessFlags := 26, nameIndex := 176, descriptorIndex := 173, attributes := #[] }, { accessFlags := 8, nameIndex := 344, descriptorIndex := 339, attributes := #[] }, { accessFlags := 8, nameIndex := 338, descriptorIndex := 339, attributes := #[] }, { accessFlags := 4120, nameIndex := 245, descriptorIndex := 246, attributes := #[] }])
  fields := #[{ name := "E", type := .double, accessFlags := 25, slot := 0, constantValue := 0 }, { name := "PI", type := .double, accessFlags := 25, slot := 1, constantValue := 0 }, { name := "TAU", type := .double, accessFlags := 25, slot := 2, constantValue := 0 }, { name := "DEGREES_TO_RADIANS", type := .double, accessFlags := 26, slot := 3, constantValue := 0 }, { name := "RADIANS_TO_DEGREES", type := .double, accessFlags := 26, slot := 4, constantValue := 0 }, { name := "negativeZeroFloatBits", type := .long, accessFlags := 26, slot := 5, constantValue := 0 }, { name := "negativeZeroDoubleBits", type := .long, accessFlags := 26, slot := 6, constantValue := 0 }, { name := "twoToTheDoubleScaleUp", type := .double, accessFlags := 8, slot := 7, constantValue := 0 }, { name := "twoToTheDoubleScaleDown", type := .double, accessFlags := 8, slot := 8, constantValue := 0 }, { name := "$assertionsDisabled", type := .boolean, accessFlags := 4120, slot := 9, constantValue := 0 }]
  methods := #[k4m0, k4m1, k4m2]
  instanceTypes := #[]
  staticTypes := #[.double, .double, .double, .double, .double, .long, .long, .double, .double, .boolean]
  resolved := Array.replicate 460 none
  statics := none }

def pool5 : Array CpInfo := pool [(1, u "java/lang/Cloneable"), (0, .class_ 1), (0, u "java/lang/Object"), (0, .class_ 3)] 3

/-- java/lang/Cloneable -/
def k5 : Class := { plain "java/lang/Cloneable" (some 0) with
  accessFlags := 1537
  interfaces := #[]
  cf := some (fileOf pool5 2 #[] #[] 1537 4 #[] #[])
  fields := #[]
  methods := #[]
  instanceTypes := #[]
  staticTypes := #[]
  resolved := Array.replicate 8 none
  statics := none }

def pool6 : Array CpInfo := pool [(1, u "java/io/Serializable"), (0, .class_ 1), (0, u "java/lang/Object"), (0, .class_ 3)] 3

/-- java/io/Serializable -/
def k6 : Class := { plain "java/io/Serializable" (some 0) with
  accessFlags := 1537
  interfaces := #[]
  cf := some (fileOf pool6 2 #[] #[] 1537 4 #[] #[])
  fields := #[]
  methods := #[]
  instanceTypes := #[]
  staticTypes := #[]
  resolved := Array.replicate 8 none
  statics := none }

/-- the primitive byte -/
def k7 : Class := { plain "byte" none with kind := .primitive 'B', accessFlags := 0x411 }
/-- [B -/
def k8 : Class := { plain "[B" (some 0) with kind := .array 7 .byte, interfaces := #[5, 6], accessFlags := 1041 }

/-- the primitive int -/
def k9 : Class := { plain "int" none with kind := .primitive 'I', accessFlags := 0x411 }
/-- [I -/
def k10 : Class := { plain "[I" (some 0) with kind := .array 9 .int, interfaces := #[5, 6], accessFlags := 1041 }

def heap : Heap := #[]
def classes : Array Class := #[k0, k1, k2, k3, k4, k5, k6, k7, k8, k9, k10]
def interned : List (Array UInt16 × Addr) := []
def slotsUsed : Nat := 0
def theMethod : MethodId := ⟨1, 1⟩
def args0 : Array Value := #[.int 5, .int 300]
def aboutOver (below : List Frame) : State where
  vm := { classes := classes, interned := interned.toArray }
  heap := heap
  slotsUsed := slotsUsed
  threads := #[{ frames := .invoking theMethod args0 :: below }]
def below0 : List Frame := [.native { method := ⟨0, 0⟩, args := #[] }]
def about1 : State := aboutOver below0
def p0 : Program := .bare "" "" ""
def e0 : Env := launch0.env 0 0 0
theorem w_frames : about1.frames = Frame.invoking theMethod args0 :: below0 := rfl
set_option maxRecDepth 65536 in
theorem w_args : argsFit about1.vm theMethod args0 = true := by decide +kernel
set_option maxRecDepth 65536 in
theorem w_heap : heapFits about1 = true := by decide +kernel
set_option maxRecDepth 65536 in
theorem w_runnable : about1.curStatus? = some .runnable := by decide +kernel
set_option maxRecDepth 65536 in
theorem w_alone : about1.alone = true := by decide +kernel
set_option maxRecDepth 65536 in
theorem w_named : about1.methodNamed? x = some theMethod := by decide +kernel
set_option maxRecDepth 65536 in
theorem w_hears : about1.hears theMethod below0 = true := by decide +kernel
set_option maxRecDepth 65536 in
theorem w_ripe : about1.ripe theMethod args0 below0 = true := by decide +kernel
theorem w_running : about1.status = .running := rfl
set_option maxRecDepth 65536 in
theorem w_room : about1.hasRoom e0.platform room_1 = true :=
  launch0.hasRoom_least _ room_1 (by decide +kernel) (by decide +kernel) (by decide +kernel) (by decide +kernel) (by decide +kernel) (by decide +kernel)
theorem allAtoms_all (ts : List Jvm.Cond) (a : Array Jvm.Value) (st : Jvm.State) : (allAtoms ts).before a st = ts.all (fun c => c.before a st) := by
  induction ts with
  | nil => rfl
  | cons c t ih =>
    show (Jvm.Cond.and c (allAtoms t)).before a st = _
    rw [Jvm.Cond.before_and, ih, List.all_cons]
def words1 : List Jvm.Cond := Jvm.Cond.code x code maxLocals ret :: tables_1
/-- a 'code' word, met by the world's own term for the bytes: nothing is compared byte by byte -/
theorem code_word {y : MethodName} {bytes : ByteArray} {mx : Nat} {rt : Option FieldType} {a : Array Value} {s : State} {m : MethodId} {meth : Method} {c : Code} (h1 : s.methodNamed? y = some m) (h2 : s.vm.method? m = some meth) (h3 : meth.code = some c) (h4 : c.code = bytes)
    (h5 : (c.maxLocals == mx && c.exceptionTable.isEmpty && decide (c.maxStack ≤ mostOperands) && decide (meth.sig.returnType = rt) && !meth.locks && decide (parseMethodDescriptor y.desc = some meth.sig)) = true) : (Jvm.Cond.code y bytes mx rt).before a s = true := by
  simp only [Bool.and_eq_true, beq_iff_eq, Bool.not_eq_true', decide_eq_true_eq] at h5
  obtain ⟨⟨⟨⟨⟨g1, g2⟩, g3⟩, g4⟩, g5⟩, g6⟩ := h5
  simp [Cond.before, Cond.holds, Cond.value, h1, h2, h3, h4, g1, g2, g3, g4, g5, g6]
def isCode : Jvm.Cond → Bool
  | .code _ _ _ _ => true
  | _ => false
theorem all_split {L : List Jvm.Cond} {P : Jvm.Cond → Bool} (h1 : L.all (fun c => isCode c || P c) = true) (h2 : ∀ c ∈ L.filter isCode, P c = true) : L.all P = true := by
  refine List.all_eq_true.mpr fun c hc => ?_
  have h := List.all_eq_true.mp h1 c hc
  rcases Bool.eq_false_or_eq_true (isCode c) with hi | hi
  · exact h2 c (List.mem_filter.mpr ⟨hc, hi⟩)
  · simpa [hi] using h
set_option maxRecDepth 65536 in
theorem w_c0 : (Jvm.Cond.code x code maxLocals ret).before args0 about1 = true := code_word (m := ⟨1, 1⟩) (meth := k1m1) (c := k1c1) (by decide +kernel) rfl rfl rfl (by decide +kernel)
set_option maxRecDepth 65536 in
theorem w_c1 : (Jvm.Cond.code ({ cls := "com/example/focaldate/focaldate/MovedBalance", name := "rounding", desc := "(DD)D" } : Jvm.MethodName) prog_15_method_5_code (4 : Nat) (Option.some Jvm.ClassFile.FieldType.double)).before args0 about1 = true := code_word (m := ⟨3, 0⟩) (meth := k3m0) (c := k3c0) (by decide +kernel) rfl rfl rfl (by decide +kernel)
set_option maxRecDepth 65536 in
theorem w_c2 : (Jvm.Cond.code ({ cls := "java/lang/Math", name := "abs", desc := "(D)D" } : Jvm.MethodName) jdk_29_method_64_code (2 : Nat) (Option.some Jvm.ClassFile.FieldType.double)).before args0 about1 = true := code_word (m := ⟨4, 2⟩) (meth := k4m2) (c := k4c2) (by decide +kernel) rfl rfl rfl (by decide +kernel)
set_option maxRecDepth 65536 in
theorem w_c3 : (Jvm.Cond.code ({ cls := "java/lang/Math", name := "abs", desc := "(J)J" } : Jvm.MethodName) jdk_29_method_61_code (2 : Nat) (Option.some Jvm.ClassFile.FieldType.long)).before args0 about1 = true := code_word (m := ⟨4, 1⟩) (meth := k4m1) (c := k4c1) (by decide +kernel) rfl rfl rfl (by decide +kernel)
def codes1 : List Jvm.Cond := [Jvm.Cond.code x code maxLocals ret, Jvm.Cond.code ({ cls := "com/example/focaldate/focaldate/MovedBalance", name := "rounding", desc := "(DD)D" } : Jvm.MethodName) prog_15_method_5_code (4 : Nat) (Option.some Jvm.ClassFile.FieldType.double), Jvm.Cond.code ({ cls := "java/lang/Math", name := "abs", desc := "(D)D" } : Jvm.MethodName) jdk_29_method_64_code (2 : Nat) (Option.some Jvm.ClassFile.FieldType.double), Jvm.Cond.code ({ cls := "java/lang/Math", name := "abs", desc := "(J)J" } : Jvm.MethodName) jdk_29_method_61_code (2 : Nat) (Option.some Jvm.ClassFile.FieldType.long)]
set_option maxRecDepth 65536 in
theorem codes_eq : words1.filter isCode = codes1 := rfl
theorem w_codes : ∀ c ∈ words1.filter isCode, c.before args0 about1 = true := by
  rw [codes_eq]
  intro c hc
  simp only [codes1, List.mem_cons, List.not_mem_nil, or_false] at hc
  rcases hc with rfl | rfl | rfl | rfl
  · exact w_c0
  · exact w_c1
  · exact w_c2
  · exact w_c3
set_option maxRecDepth 65536 in
theorem w_t1 : words1.all (fun c => isCode c || c.before args0 about1) = true := by decide +kernel
theorem w_tables : (allAtoms (Jvm.Cond.code x code maxLocals ret :: tables_1)).before args0 about1 = true := by
  rw [allAtoms_all]
  show words1.all (fun c => c.before args0 about1) = true
  refine all_split ?_ w_codes
  rw [w_t1]
set_option maxRecDepth 65536 in
theorem w_case : (Jvm.Cond.and given_1 narrow_1).before args0 about1 = true := by decide +kernel
theorem w_applies : (headSpec (Jvm.Cond.code x code maxLocals ret :: tables_1) room_1).applies x e0.platform about1 = true :=
  (Spec.applies_iff w_frames).mpr ⟨w_running, w_runnable, w_alone, w_named, w_hears, w_ripe, w_room, w_tables⟩
theorem atStart : AtStart classFile x code maxLocals ret World_1 tables_1 room_1 Calls_1 rest_1 Pre_1 launch0 p0 e0 about1 theMethod args0 below0 :=
  ⟨lists_1, trivial, launch0.admits_env _ _ _, launch0.least_env, fairChoices_fair.cas, fairChoices_fair.clock, w_frames, w_args, w_heap, w_applies, trivial, trivial, w_case⟩
end start1
theorem witness_1 : WitnessClaimed_1 := ⟨start1.p0, start1.e0, start1.about1, start1.theMethod, start1.args0, start1.below0, start1.atStart⟩
end Jvm.Pilot.@@N@@
