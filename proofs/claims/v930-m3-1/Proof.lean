import JvmDerived
import JvmDerived.Pilot.@@N@@Statement
import JvmDerived.Pilot.@@N@@Code
set_option linter.unusedVariables false
set_option linter.unusedSimpArgs false
@@BLOCK:NumsL.lean.txt@@
namespace Jvm.Pilot.@@N@@
open Jvm Jvm.ClassFile Sem Op Lib Jvm.Free Jvm.Stand Jvm.LawKit Jvm.RoadKit Bundle Jvm.Pilot.@@N@@.Jvm.D
/-! exact doubles: Dy n k a: the double a is the number n * 2^-k -/
section Dyadic
open Jvm.FP
def Dy (n : Int) (k : Nat) (a : UInt64) : Prop := Core.DFin a ∧ k ≤ 1074 ∧ Core.zval Core.b64 (Core.val64 a) = n * ((2 ^ (1074 - k) : Nat) : Int)
theorem own_pow {x y z w : Nat} (h : x + y = z + w) : ((2 ^ x : Nat) : Int) * ((2 ^ y : Nat) : Int) = ((2 ^ z : Nat) : Int) * ((2 ^ w : Nat) : Int) := by
  rw [← Int.natCast_mul, ← Int.natCast_mul, ← Nat.pow_add, ← Nat.pow_add, h]
theorem own_mul4 {n m A B C D : Int} (h : A * B = C * D) : n * A * (m * B) = n * m * C * D := by
  rw [show n * A * (m * B) = n * m * (A * B) by ac_rfl, h]; ac_rfl
theorem own_rep (n : Int) (k : Nat) (hn : n.natAbs < 2 ^ 53) (hk : k ≤ 1074) :
    ∃ s c q, Core.fits Core.b64 (.fin s c q) ∧ Core.zval Core.b64 (.fin s c q) = n * ((2 ^ (1074 - k) : Nat) : Int) := by
  have hq : Core.b64.qmax = 971 := by decide
  obtain ⟨c, q, h1, h2⟩ := Core.round_exact Core.good_b64 (decide (n < 0)) (c := n.natAbs) (q := -(k : Int)) hn (by rw [Core.qmin_b64]; omega) (by omega)
  refine ⟨_, c, q, by rw [← h1]; exact Core.round_fits Core.good_b64 _, ?_⟩
  show Core.signed _ (Core.inUnits c q Core.b64.qmin) = _
  rw [h2]
  show Core.signed _ (n.natAbs * 2 ^ (-(k : Int) - Core.b64.qmin).toNat) = _
  rw [Core.signed_mul, Core.qmin_b64, show (-(k : Int) - -1074).toNat = 1074 - k by omega]
  congr 1
  show (if decide (n < 0) = true then -(n.natAbs : Int) else (n.natAbs : Int)) = n
  by_cases h : n < 0
  · rw [if_pos (decide_eq_true h)]; omega
  · rw [if_neg (by simpa using h)]; omega
theorem own_round_eq {s s' : Bool} {c c' : Nat} {q q' e0 : Int} (hV : Core.fits Core.b64 (.fin s' c' q')) (h0 : e0 ≤ Core.b64.qmin) (h0e : e0 ≤ q)
    (h : Core.signed s (Core.inUnits c q e0) = Core.zval Core.b64 (.fin s' c' q') * ((2 ^ (Core.b64.qmin - e0).toNat : Nat) : Int)) :
    Core.zval Core.b64 (Core.round Core.b64 (.fin s c q)) = Core.zval Core.b64 (.fin s' c' q') :=
  Int.le_antisymm (Core.zval_round_le Core.good_b64 hV nofun h0 h0e (Int.le_of_eq h)) (Core.zval_round_ge Core.good_b64 hV nofun h0 h0e (Int.le_of_eq h.symm))
theorem own_fin_of {x : UInt64} {s : Bool} {c : Nat} {q : Int} (hx : Core.val64 x ≠ .nan) (hV : Core.fits Core.b64 (.fin s c q))
    (hz : Core.zval Core.b64 (Core.val64 x) = Core.zval Core.b64 (.fin s c q)) : Core.DFin x := by
  show ∃ s c q, Core.val64 x = .fin s c q
  cases h : Core.val64 x with
  | nan => exact absurd h hx
  | fin s c q => exact ⟨s, c, q, rfl⟩
  | inf t =>
    exfalso
    rw [h] at hz
    have e1 : Core.zval Core.b64 (.inf t) = Core.signed t (Core.b64.tails * 2 ^ (Core.b64.exps - 2)) := rfl
    have e2 : Core.zval Core.b64 (.fin s c q) = Core.signed s (Core.inUnits c q Core.b64.qmin) := rfl
    rw [e1, e2] at hz
    have h3 := congrArg Int.natAbs hz
    rw [Core.natAbs_signed, Core.natAbs_signed] at h3
    exact absurd h3 (Nat.ne_of_gt (Core.zmag_lt_top Core.good_b64 hV))
theorem own_nn {x : UInt64} (h : Core.DFin x) : Core.val64 x ≠ .nan := by
  obtain ⟨s, c, q, e⟩ := h
  rw [e]; exact nofun
theorem Dy.nn {n : Int} {k : Nat} {a : UInt64} (h : Dy n k a) : Core.val64 a ≠ .nan := own_nn h.1
theorem Dy.noNaN {n : Int} {k : Nat} {a : UInt64} (h : Dy n k a) : Jvm.Free.Fl.NoNaN64 a := (Jvm.Free.Fl.fin64_core.mpr h.1).noNaN
theorem Dy.mul {n m : Int} {k j : Nat} {a b : UInt64} (ha : Dy n k a) (hb : Dy m j b) (hk : k + j ≤ 1074) (h : (n * m).natAbs < 2 ^ 53) : Dy (n * m) (k + j) (FP.dmul a b) := by
  obtain ⟨⟨s, c, q, ea⟩, k1, za⟩ := ha
  obtain ⟨⟨t, d, r, eb⟩, k2, zb⟩ := hb
  have fa : Core.fits Core.b64 (.fin s c q) := ea ▸ Core.val64_fits a
  have fb : Core.fits Core.b64 (.fin t d r) := eb ▸ Core.val64_fits b
  obtain ⟨e1, e2, e3⟩ := Core.product_units fa fb
  have hv : Core.val64 (FP.dmul a b) = Core.round Core.b64 (.fin (s != t) (c * d) (q + r)) := by
    show Core.val64 (Core.dmul a b) = _
    rw [Core.val64_dmul, ea, eb, e1]
  obtain ⟨s', c', q', hV, zV⟩ := own_rep (n * m) (k + j) h hk
  rw [ea] at za
  rw [eb] at zb
  have hz : Core.zval Core.b64 (Core.val64 (FP.dmul a b)) = Core.zval Core.b64 (.fin s' c' q') := by
    rw [hv]
    refine own_round_eq hV (e0 := 2 * Core.b64.qmin) (by rw [Core.qmin_b64]; decide) e2 ?_
    have e4 : Core.signed (s != t) (Core.zmag Core.b64 (.fin s c q) * Core.zmag Core.b64 (.fin t d r)) = Core.zval Core.b64 (.fin s c q) * Core.zval Core.b64 (.fin t d r) := Core.signed_xor s t _ _
    rw [e3, e4, za, zb, zV]
    exact own_mul4 (own_pow (by rw [Core.qmin_b64]; omega))
  refine ⟨own_fin_of ?_ hV hz, hk, hz.trans zV⟩
  rw [hv]
  exact Core.roundRatio_ne_nan _ _ _ _ _
theorem Dy.add {n m : Int} {k : Nat} {a b : UInt64} (ha : Dy n k a) (hb : Dy m k b) (h : (n + m).natAbs < 2 ^ 53) : Dy (n + m) k (FP.dadd a b) := by
  obtain ⟨⟨s, c, q, ea⟩, k1, za⟩ := ha
  obtain ⟨⟨t, d, r, eb⟩, k2, zb⟩ := hb
  have fa : Core.fits Core.b64 (.fin s c q) := ea ▸ Core.val64_fits a
  have fb : Core.fits Core.b64 (.fin t d r) := eb ▸ Core.val64_fits b
  obtain ⟨sg, u, w, e1, e2, e3⟩ := Core.sum_units fa fb
  have hv : Core.val64 (FP.dadd a b) = Core.round Core.b64 (.fin sg u w) := by
    show Core.val64 (Core.dadd a b) = _
    rw [Core.val64_dadd, ea, eb, e1]
  obtain ⟨s', c', q', hV, zV⟩ := own_rep (n + m) k h k1
  rw [ea] at za
  rw [eb] at zb
  have hz : Core.zval Core.b64 (Core.val64 (FP.dadd a b)) = Core.zval Core.b64 (.fin s' c' q') := by
    rw [hv]
    refine own_round_eq hV (e0 := Core.b64.qmin) (Int.le_refl _) e2 ?_
    rw [e3, za, zb, zV, Int.sub_self, ← Int.add_mul]
    exact (Int.mul_one _).symm
  refine ⟨own_fin_of ?_ hV hz, k1, hz.trans zV⟩
  rw [hv]
  exact Core.roundRatio_ne_nan _ _ _ _ _
theorem Dy.cmp {n m : Int} {k : Nat} {a b : UInt64} (ha : Dy n k a) (hb : Dy m k b) : FP.dcmp a b = some (compare n m) := by
  have h := Core.order_zval Core.good_b64 (Core.val64_fits a) (Core.val64_fits b) ha.nn hb.nn
  rw [ha.2.2, hb.2.2, Core.compare_mul_pos _ _ _ (Int.ofNat_lt.mpr (Nat.two_pow_pos _))] at h
  exact h
theorem Dy.up {n : Int} {k : Nat} {a : UInt64} (j : Nat) (h : Dy n k a) (hk : k + j ≤ 1074) : Dy (n * ((2 ^ j : Nat) : Int)) (k + j) a := by
  refine ⟨h.1, hk, ?_⟩
  rw [h.2.2, Int.mul_assoc, ← Int.natCast_mul, ← Nat.pow_add, show j + (1074 - (k + j)) = 1074 - k by omega]
theorem Dy.of_whole {i : Int} {a : UInt64} (h : Core.Whole i (Core.val64 a)) : Dy i 0 a := by
  cases hv : Core.val64 a with
  | nan => rw [hv] at h; exact h.elim
  | inf s => rw [hv] at h; exact h.elim
  | fin s c q =>
    rw [hv] at h
    have f : Core.fits Core.b64 (.fin s c q) := hv ▸ Core.val64_fits a
    have w := Core.whole_units h f.2.1
    refine ⟨⟨s, c, q, hv⟩, Nat.zero_le _, ?_⟩
    rw [hv]
    show Core.signed s (Core.inUnits c q Core.b64.qmin) = _
    rw [show ((2 ^ Core.b64.qmin.toNat : Nat) : Int) = 1 by rw [Core.qmin_b64]; rfl, Int.mul_one, show (-Core.b64.qmin).toNat = 1074 - 0 by rw [Core.qmin_b64]; rfl] at w
    exact w
theorem Dy.i2d (x : Int32) : Dy x.toInt 0 (FP.i2d x) := Dy.of_whole (Core.i2d_int x)
theorem Dy.l2d {x : Int64} (h : x.toInt.natAbs ≤ 2 ^ 53) : Dy x.toInt 0 (FP.l2d x) := Dy.of_whole (Core.l2d_int h)
theorem Dy.abs {n : Int} {k : Nat} {a : UInt64} (h : Dy n k a) : Dy (n.natAbs : Int) k (a &&& 0x7fffffffffffffff) := by
  have hf : Core.DFin (a &&& 0x7fffffffffffffff) := Jvm.Free.Fl.fin64_core.mp (Jvm.RoadKit.abs_fin (Jvm.Free.Fl.fin64_core.mpr h.1))
  have ht := Jvm.Free.Fl.abs_toNat a
  have e1 := Core.sgn_bits (own_nn hf)
  have e2 := Core.zmag_bits (own_nn hf)
  have e3 := Core.zmag_bits h.nn
  refine ⟨hf, h.2.1, ?_⟩
  have hn := congrArg Int.natAbs h.2.2
  rw [show Core.zval Core.b64 (Core.val64 a) = Core.signed (Core.sgn (Core.val64 a)) (Core.zmag Core.b64 (Core.val64 a)) from rfl, Core.natAbs_signed, Int.natAbs_mul, Int.natAbs_natCast] at hn
  rw [show Core.zval Core.b64 (Core.val64 (a &&& 0x7fffffffffffffff)) = Core.signed (Core.sgn (Core.val64 (a &&& 0x7fffffffffffffff))) (Core.zmag Core.b64 (Core.val64 (a &&& 0x7fffffffffffffff))) from rfl, e1, e2, ht,
    show a.toNat % 9223372036854775808 % 2 ^ 63 = a.toNat % 2 ^ 63 by omega, ← e3, hn]
  rw [show decide (2 ^ 63 ≤ a.toNat % 9223372036854775808) = false by rw [decide_eq_false_iff_not]; omega]
  exact Int.natCast_mul _ _
theorem Dy.conv {n m : Int} {k j : Nat} {a : UInt64} (h : Dy n k a) (e1 : n = m) (e2 : k = j) : Dy m j a := by subst e1 e2; exact h
theorem own_cmpV_eq {n m : Int} {k : Nat} {a b : UInt64} (ha : Dy n k a) (hb : Dy m k b) (e : n = m) (o : CmpOp) : cmpValue (FP.dcmp a b) o = 0 := by
  rw [ha.cmp hb, e, Core.compare_self_int]; rfl
theorem own_cmpV {n m : Int} {k : Nat} {a b : UInt64} (ha : Dy n k a) (hb : Dy m k b) (o : CmpOp) : cmpValue (FP.dcmp a b) o = if n < m then -1 else if n = m then 0 else 1 := by
  rw [ha.cmp hb, Core.compare_ite]
  by_cases h1 : n < m
  · rw [if_pos h1, if_pos h1]; rfl
  · rw [if_neg h1, if_neg h1]
    by_cases h2 : n = m
    · rw [if_pos h2, if_pos h2]; rfl
    · rw [if_neg h2, if_neg h2]; rfl
theorem own_d0 : Dy 0 0 FP.dconst0 := ⟨⟨false, 0, -1074, by decide +kernel⟩, by decide, by decide +kernel⟩
theorem own_d1 : Dy 1 0 FP.dconst1 := ⟨⟨false, 2 ^ 52, -52, by decide +kernel⟩, by decide, by decide +kernel⟩
end Dyadic
/-! quotients of whole numbers, rounded -/
section Quot
open Jvm.FP
theorem own_cross {c d B R : Nat} {q t : Int} (h1 : c * 2 ^ q.toNat = B * 2 ^ (-q).toNat) (h2 : d * 2 ^ t.toNat = R * 2 ^ (-t).toNat) :
    c * R * 2 ^ (q - t - 0).toNat = B * d * 2 ^ (0 - (q - t)).toNat := by
  obtain ⟨x, hx1, hx2⟩ : ∃ x, q.toNat + (-t).toNat = (q - t - 0).toNat + x ∧ (-q).toNat + t.toNat = (0 - (q - t)).toNat + x := ⟨q.toNat + (-t).toNat - (q - t - 0).toNat, by omega, by omega⟩
  apply Nat.eq_of_mul_eq_mul_right (Nat.two_pow_pos x)
  calc c * R * 2 ^ (q - t - 0).toNat * 2 ^ x = c * R * 2 ^ (q.toNat + (-t).toNat) := by rw [hx1, Nat.pow_add, Nat.mul_assoc (c * R)]
    _ = (c * 2 ^ q.toNat) * (R * 2 ^ (-t).toNat) := by rw [Nat.pow_add]; ac_rfl
    _ = (B * 2 ^ (-q).toNat) * (d * 2 ^ t.toNat) := by rw [h1, h2]
    _ = B * d * 2 ^ ((-q).toNat + t.toNat) := by rw [Nat.pow_add]; ac_rfl
    _ = B * d * 2 ^ (0 - (q - t)).toNat * 2 ^ x := by rw [hx2, Nat.pow_add, ← Nat.mul_assoc]
theorem own_div {b r : Int64} (hb0 : 0 ≤ b.toInt) (hb : b.toInt < 9007199254740992) (hr0 : 0 < r.toInt) (hr : r.toInt < 9007199254740992) :
    Core.val64 (FP.ddiv (FP.l2d b) (FP.l2d r)) = Core.roundRatio Core.b64 false b.toInt.toNat r.toInt.toNat 0 := by
  obtain ⟨c, q, eb⟩ := Core.l2d_shape b
  obtain ⟨d, t, er⟩ := Core.l2d_shape r
  have wb := Core.l2d_whole (a := b) ⟨by omega, hb⟩
  have wr := Core.l2d_whole (a := r) ⟨by omega, hr⟩
  rw [eb] at wb
  rw [er] at wr
  have mb := Core.whole_natAbs wb
  have mr := Core.whole_natAbs wr
  rw [show b.toInt.natAbs = b.toInt.toNat by omega] at mb
  rw [show r.toInt.natAbs = r.toInt.toNat by omega] at mr
  have sb : decide (b.toInt < 0) = false := by rw [decide_eq_false_iff_not]; omega
  have sr : decide (r.toInt < 0) = false := by rw [decide_eq_false_iff_not]; omega
  have hd : d ≠ 0 := fun h => by have := (Core.whole_zero wr).mp h; omega
  show Core.val64 (Core.ddiv (Core.l2d b) (Core.l2d r)) = _
  rw [Core.val64_ddiv, eb, er, sb, sr]
  show (if d = 0 then (if c = 0 then Core.Datum.nan else .inf (false != false)) else Core.roundRatio Core.b64 (false != false) c d (q - t)) = _
  rw [if_neg hd]
  exact Core.roundRatio_congr (Nat.pos_of_ne_zero hd) (by omega) (own_cross mb mr)
/-- the rounded quotient, in units of the least double -/
def own_pz (B R : Nat) : Nat := Core.zmag Core.b64 (Core.roundRatio Core.b64 false B R 0)
/-- 2^-50 in those units -/
def own_K : Nat := 2 ^ (1074 - 50)
theorem own_K_pos : 0 < own_K := Nat.two_pow_pos _
theorem own_mag {n : Nat} {k : Nat} {s : Bool} {c : Nat} {q : Int} (zV : Core.zval Core.b64 (.fin s c q) = (n : Int) * ((2 ^ (1074 - k) : Nat) : Int)) : Core.zmag Core.b64 (.fin s c q) = n * 2 ^ (1074 - k) := by
  have h := congrArg Int.natAbs zV
  rw [show Core.zval Core.b64 (.fin s c q) = Core.signed s (Core.zmag Core.b64 (.fin s c q)) from rfl, Core.natAbs_signed, Int.natAbs_mul, Int.natAbs_natCast, Int.natAbs_natCast] at h
  exact h
theorem own_in0 (B E a b : Nat) (h : E = a + b) : B * 2 ^ E = B * 2 ^ a * 2 ^ b := by rw [h, Nat.pow_add, Nat.mul_assoc]
theorem own_in (B : Nat) : Core.inUnits B 0 Core.b64.qmin = B * 2 ^ 50 * own_K :=
  own_in0 B (0 - Core.b64.qmin).toNat 50 (1074 - 50) (by rw [Core.qmin_b64]; rfl)
theorem own_rep50 {n : Nat} (hn : n < 2 ^ 53) : ∃ s c q, Core.fits Core.b64 (.fin s c q) ∧ Core.zmag Core.b64 (.fin s c q) = n * own_K := by
  obtain ⟨s, c, q, hV, zV⟩ := own_rep (n : Int) 50 (by rw [Int.natAbs_natCast]; exact hn) (by decide)
  exact ⟨s, c, q, hV, own_mag zV⟩
theorem own_swap (n K R : Nat) : n * K * 2 ^ 0 * R = n * R * K := by rw [Nat.pow_zero, Nat.mul_one]; ac_rfl
theorem own_le50 {B R n : Nat} (hR : 0 < R) (hn : n < 2 ^ 53) (h : B * 2 ^ 50 ≤ n * R) : own_pz B R ≤ n * own_K := by
  obtain ⟨s, c, q, hV, mV⟩ := own_rep50 hn
  rw [← mV]
  refine Core.zmag_roundRatio_le Core.good_b64 (e0 := Core.b64.qmin) hR hV nofun (Int.le_refl _) (by rw [Core.qmin_b64]; decide) ?_
  rw [own_in, mV, Int.sub_self]
  exact Nat.le_trans (Nat.mul_le_mul_right _ h) (Nat.le_of_eq (own_swap n own_K R).symm)
theorem own_ge50 {B R n : Nat} (hR : 0 < R) (hn : n < 2 ^ 53) (h : n * R ≤ B * 2 ^ 50) : n * own_K ≤ own_pz B R := by
  obtain ⟨s, c, q, hV, mV⟩ := own_rep50 hn
  rw [← mV]
  refine Core.zmag_roundRatio_ge Core.good_b64 (e0 := Core.b64.qmin) hR hV (Int.le_refl _) (by rw [Core.qmin_b64]; decide) ?_
  rw [own_in, mV, Int.sub_self]
  exact Nat.le_trans (Nat.le_of_eq (own_swap n own_K R)) (Nat.mul_le_mul_right _ h)
theorem own_pz_lt {B B' R : Nat} (hR : 0 < R) (hR2 : R ≤ 2 ^ 40) (h1 : B < B') (h2 : B' ≤ R) : own_pz B R < own_pz B' R := by
  have hd := Nat.div_add_mod (B * 2 ^ 50) R
  have hm := Nat.mod_lt (B * 2 ^ 50) hR
  have hle : B * 2 ^ 50 / R ≤ 2 ^ 50 := by
    have : B * 2 ^ 50 ≤ 2 ^ 50 * R := by rw [Nat.mul_comm]; exact Nat.mul_le_mul_left _ (by omega)
    exact Nat.div_le_of_le_mul (by rw [Nat.mul_comm R]; exact this)
  generalize B * 2 ^ 50 / R = d at hd hle
  have a1 := own_le50 (B := B) (n := d + 1) hR (by omega) (by rw [Nat.add_mul, Nat.one_mul, Nat.mul_comm d R]; omega)
  have a2 := own_ge50 (B := B') (n := d + 2) hR (by omega) (by rw [Nat.add_mul, Nat.mul_comm d R]; omega)
  refine Nat.lt_of_le_of_lt a1 (Nat.lt_of_lt_of_le ?_ a2)
  exact Nat.mul_lt_mul_of_pos_right (by omega) own_K_pos
theorem own_pz_exact {B R n : Nat} (hR : 0 < R) (hn : n < 2 ^ 53) (h : B * 2 ^ 50 = n * R) : own_pz B R = n * own_K :=
  Nat.le_antisymm (own_le50 hR hn (Nat.le_of_eq h)) (own_ge50 hR hn (Nat.le_of_eq h.symm))
theorem own_zval {B R : Nat} {x : UInt64} (h : Core.val64 x = Core.roundRatio Core.b64 false B R 0) : Core.zval Core.b64 (Core.val64 x) = (own_pz B R : Int) := by
  rw [h]
  show Core.signed (Core.sgn (Core.roundRatio Core.b64 false B R 0)) _ = _
  rw [Core.sgn_roundRatio]
  rfl
theorem own_qcmp {B R B' R' : Nat} {x y : UInt64} (h : Core.val64 x = Core.roundRatio Core.b64 false B R 0) (h' : Core.val64 y = Core.roundRatio Core.b64 false B' R' 0) :
    FP.dcmp x y = some (compare (own_pz B R : Int) (own_pz B' R' : Int)) := by
  have q := Core.order_zval Core.good_b64 (Core.val64_fits x) (Core.val64_fits y) (by rw [h]; exact Core.roundRatio_ne_nan _ _ _ _ _) (by rw [h']; exact Core.roundRatio_ne_nan _ _ _ _ _)
  rw [own_zval h, own_zval h'] at q
  exact q
theorem own_qnn {B R : Nat} {x : UInt64} (h : Core.val64 x = Core.roundRatio Core.b64 false B R 0) : Jvm.Free.Fl.NoNaN64 x :=
  Jvm.Free.Fl.noNaN64_no.mpr ((Core.notNaN_iff x).mpr (by rw [h]; exact Core.roundRatio_ne_nan _ _ _ _ _))
theorem own_qDy {B R n : Nat} {x : UInt64} (hx : Core.val64 x = Core.roundRatio Core.b64 false B R 0) (hR : 0 < R) (hn : n < 2 ^ 53) (h : B * 2 ^ 50 = n * R) : Dy (n : Int) 50 x := by
  have hz : Core.zval Core.b64 (Core.val64 x) = (n : Int) * (own_K : Int) := by rw [own_zval hx, own_pz_exact hR hn h, Int.natCast_mul]
  obtain ⟨s, c, q, hV, zV⟩ := own_rep (n : Int) 50 (by rw [Int.natAbs_natCast]; exact hn) (by decide)
  exact ⟨own_fin_of (by rw [hx]; exact Core.roundRatio_ne_nan _ _ _ _ _) hV (hz.trans zV.symm), by decide, hz⟩
end Quot

theorem d1_0 : decode method_2_code 0 = .ok (.new 7, 3) := by decide +kernel
theorem d1_3 : decode method_2_code 3 = .ok (.dup, 1) := by decide +kernel
theorem d1_4 : decode method_2_code 4 = .ok (.lload_n 0, 1) := by decide +kernel
theorem d1_5 : decode method_2_code 5 = .ok (.lload_n 2, 1) := by decide +kernel
theorem d1_6 : decode method_2_code 6 = .ok (.dconst 0, 1) := by decide +kernel
theorem d1_7 : decode method_2_code 7 = .ok (.dconst 1, 1) := by decide +kernel
theorem d1_8 : decode method_2_code 8 = .ok (.dconst 0, 1) := by decide +kernel
theorem d1_9 : decode method_2_code 9 = .ok (.lconst 0, 1) := by decide +kernel
theorem d1_10 : decode method_2_code 10 = .ok (.aconst_null, 1) := by decide +kernel
theorem d1_11 : decode method_2_code 11 = .ok (.invokespecial 9, 3) := by decide +kernel
theorem d1_14 : decode method_2_code 14 = .ok (.astore 4, 2) := by decide +kernel
theorem d1_16 : decode method_2_code 16 = .ok (.aload 4, 2) := by decide +kernel
theorem d1_18 : decode method_2_code 18 = .ok (.invokevirtual 12, 3) := by decide +kernel
theorem d1_21 : decode method_2_code 21 = .ok (.dreturn, 1) := by decide +kernel
theorem d2_0 : decode prog_64_method_1_code 0 = .ok (.aload_n 0, 1) := by decide +kernel
theorem d2_1 : decode prog_64_method_1_code 1 = .ok (.invokespecial 1, 3) := by decide +kernel
theorem d2_4 : decode prog_64_method_1_code 4 = .ok (.aload_n 0, 1) := by decide +kernel
theorem d2_5 : decode prog_64_method_1_code 5 = .ok (.lload_n 1, 1) := by decide +kernel
theorem d2_6 : decode prog_64_method_1_code 6 = .ok (.putfield 7, 3) := by decide +kernel
theorem d2_9 : decode prog_64_method_1_code 9 = .ok (.aload_n 0, 1) := by decide +kernel
theorem d2_10 : decode prog_64_method_1_code 10 = .ok (.lload_n 3, 1) := by decide +kernel
theorem d2_11 : decode prog_64_method_1_code 11 = .ok (.putfield 13, 3) := by decide +kernel
theorem d2_14 : decode prog_64_method_1_code 14 = .ok (.aload_n 0, 1) := by decide +kernel
theorem d2_15 : decode prog_64_method_1_code 15 = .ok (.dload 5, 2) := by decide +kernel
theorem d2_17 : decode prog_64_method_1_code 17 = .ok (.putfield 16, 3) := by decide +kernel
theorem d2_20 : decode prog_64_method_1_code 20 = .ok (.aload_n 0, 1) := by decide +kernel
theorem d2_21 : decode prog_64_method_1_code 21 = .ok (.dload 7, 2) := by decide +kernel
theorem d2_23 : decode prog_64_method_1_code 23 = .ok (.putfield 20, 3) := by decide +kernel
theorem d2_26 : decode prog_64_method_1_code 26 = .ok (.aload_n 0, 1) := by decide +kernel
theorem d2_27 : decode prog_64_method_1_code 27 = .ok (.dload 9, 2) := by decide +kernel
theorem d2_29 : decode prog_64_method_1_code 29 = .ok (.putfield 23, 3) := by decide +kernel
theorem d2_32 : decode prog_64_method_1_code 32 = .ok (.aload_n 0, 1) := by decide +kernel
theorem d2_33 : decode prog_64_method_1_code 33 = .ok (.lload 11, 2) := by decide +kernel
theorem d2_35 : decode prog_64_method_1_code 35 = .ok (.putfield 26, 3) := by decide +kernel
theorem d2_38 : decode prog_64_method_1_code 38 = .ok (.aload_n 0, 1) := by decide +kernel
theorem d2_39 : decode prog_64_method_1_code 39 = .ok (.aload 13, 2) := by decide +kernel
theorem d2_41 : decode prog_64_method_1_code 41 = .ok (.putfield 29, 3) := by decide +kernel
theorem d2_44 : decode prog_64_method_1_code 44 = .ok (.return_, 1) := by decide +kernel
theorem d3_0 : decode prog_64_method_3_code 0 = .ok (.aload_n 0, 1) := by decide +kernel
theorem d3_1 : decode prog_64_method_3_code 1 = .ok (.getfield 7, 3) := by decide +kernel
theorem d3_4 : decode prog_64_method_3_code 4 = .ok (.l2d, 1) := by decide +kernel
theorem d3_5 : decode prog_64_method_3_code 5 = .ok (.aload_n 0, 1) := by decide +kernel
theorem d3_6 : decode prog_64_method_3_code 6 = .ok (.getfield 13, 3) := by decide +kernel
theorem d3_9 : decode prog_64_method_3_code 9 = .ok (.l2d, 1) := by decide +kernel
theorem d3_10 : decode prog_64_method_3_code 10 = .ok (.ddiv, 1) := by decide +kernel
theorem d3_11 : decode prog_64_method_3_code 11 = .ok (.dreturn, 1) := by decide +kernel
theorem pn_0 : plainName "com/example/polku/polku/simulator/RunResultGetBlockingProbabilityPinLaw" = true := by first | (simp [plainName, overriddenIn]; done) | decide +kernel
theorem pn_2 : plainName "com/example/polku/polku/simulator/RunResult" = true := by first | (simp [plainName, overriddenIn]; done) | decide +kernel
theorem pd_1 : parseMethodDescriptor "(JJ)D" = some ⟨[.long, .long], some .double⟩ := by decide +kernel
theorem pd_2 : parseMethodDescriptor "(JJDDDJLcom/example/polku/polku/provisioning/FailureCount;)V" = some ⟨[.long, .long, .double, .double, .double, .long, .object "com/example/polku/polku/provisioning/FailureCount"], none⟩ := by decide +kernel
theorem pd_3 : parseMethodDescriptor "()D" = some ⟨[], some .double⟩ := by decide +kernel
theorem ef_2 (m : MethodId) (a1 : Addr) (j1 j2 : Int64) (d1 d2 d3 : UInt64) (j3 : Int64) : entryFrame m #[(.ref a1), (.long j1), (.long j2), (.double d1), (.double d2), (.double d3), (.long j3), .null] 14 = mkF m 0 #[.val (.ref a1), .val (.long j1), .second, .val (.long j2), .second, .val (.double d1), .second, .val (.double d2), .second, .val (.double d3), .second, .val (.long j3), .second, .val .null] [] := by first | (simp [entryFrame, mkF, argsToLocals, Value.category]; done) | rfl
theorem ef_1 (m : MethodId) (j1 j2 : Int64) : entryFrame m #[(.long j1), (.long j2)] 5 = mkF m 0 #[.val (.long j1), .second, .val (.long j2), .second, .unset] [] := by first | (simp [entryFrame, mkF, argsToLocals, Value.category]; done) | rfl
theorem ef_3 (m : MethodId) (a1 : Addr) : entryFrame m #[(.ref a1)] 1 = mkF m 0 #[.val (.ref a1)] [] := by first | (simp [entryFrame, mkF, argsToLocals, Value.category]; done) | rfl
def Q2 (Z : State) (a1 : Addr) (j1 j2 : Int64) (h0 : Heap) (n0 : Nat) (v : Option Value) (h : Heap) (L : List Loc) : Prop := v = none ∧ Fr n0 L ∧ Keep h0 h [a1] ∧ Exa Z h a1 "com/example/polku/polku/simulator/RunResult" ∧ Fld Z h a1 "com/example/polku/polku/simulator/RunResult" "blocked" "J" (.long j1) ∧ Fld Z h a1 "com/example/polku/polku/simulator/RunResult" "requests" "J" (.long j2)
set_option maxRecDepth 65536 in
set_option maxHeartbeats 40000000 in
theorem rm2 (l : Launch) (Z : State) (a0 : Array Value) (hw : ∀ d ∈ tables_1, d.before a0 Z = true) (ws : List Jvm.Cond) (a1 : Addr) (j1 j2 : Int64) (d1 d2 d3 : UInt64) (j3 : Int64) (h0 : Heap) (n0 : Nat) (Z0 : n0 ≤ h0.size) (F1_0 : Fld Z h0 a1 "com/example/polku/polku/simulator/RunResult" "blocked" "J" (.long (0 : Int64))) (F2_0 : Fld Z h0 a1 "com/example/polku/polku/simulator/RunResult" "requests" "J" (.long (0 : Int64))) (F3_0 : Fld Z h0 a1 "com/example/polku/polku/simulator/RunResult" "blockedRateGbps" "D" (.double 0)) (F4_0 : Fld Z h0 a1 "com/example/polku/polku/simulator/RunResult" "offeredRateGbps" "D" (.double 0)) (F5_0 : Fld Z h0 a1 "com/example/polku/polku/simulator/RunResult" "firstRoutesKm" "D" (.double 0)) (F6_0 : Fld Z h0 a1 "com/example/polku/polku/simulator/RunResult" "firstRoutesHops" "J" (.long (0 : Int64))) (F7_0 : Fld Z h0 a1 "com/example/polku/polku/simulator/RunResult" "audit" "Lcom/example/polku/polku/provisioning/FailureCount;" .null) (E0 : Exa Z h0 a1 "com/example/polku/polku/simulator/RunResult") (g1 : n0 ≤ a1) :
    MetFree l (⟨"com/example/polku/polku/simulator/RunResult", "<init>", "(JJDDDJLcom/example/polku/polku/provisioning/FailureCount;)V"⟩ : MethodName) (head1 (Jvm.Cond.code (⟨"com/example/polku/polku/simulator/RunResult", "<init>", "(JJDDDJLcom/example/polku/polku/provisioning/FailureCount;)V"⟩ : MethodName) prog_64_method_1_code 14 none :: ws) ({ frames := 1, cells := 0, slots := 0, locals := 12 } : Room)) (fun a U => a = #[(.ref a1), (.long j1), (.long j2), (.double d1), (.double d2), (.double d3), (.long j3), .null] ∧ Z.Warmed39 U.vm ∧ U.heap = h0) (fun _ _ _ _ _ => True) (fun _ U o U' => ∃ v L, o = .returned v ∧ Q2 Z a1 j1 j2 h0 n0 v U'.heap L ∧ FrameEnd U o U' L ({ frames := 1, cells := 0, slots := 0, locals := 12 } : Room).cells ({ frames := 1, cells := 0, slots := 0, locals := 12 } : Room).slots) := by
  refine MetFree.of_bodySF (plainFor_of_name pn_2) hisR ?_
  intro p e s m args below meth c s₁ Bd hml0 hP hK
  obtain ⟨rfl, hZ, hh⟩ := hP
  have hx := Bd.exec
  have hby := Bd.bytes
  have hml : c.maxLocals = 14 := hml0
  have hown : s.vm.findClass "com/example/polku/polku/simulator/RunResult" = some m.cls := findClass_of_methodNamed Bd.named
  have hnm := (name_of_methodNamed Bd.named Bd.method).1
  have X0 : Stand p l e ({ frames := 1, cells := 0, slots := 0, locals := 12 } : Room) s m #[(.ref a1), (.long j1), (.long j2), (.double d1), (.double d2), (.double d3), (.long j3), .null] below meth c s₁ [] 0 0 := Stand.of_body Bd
  have e0 : s₁.heap = h0 := by rw [← hh, Bd.state]; rfl
  have N0 := Fr.nil n0
  have pre0 : ∀ t, Steps p.tables e below (s₁.setTop (mkF m 0 #[.val (.ref a1), .val (.long j1), .second, .val (.long j2), .second, .val (.double d1), .second, .val (.double d2), .second, .val (.double d3), .second, .val (.long j3), .second, .val .null] [])) t → Steps p.tables e below (s₁.setTop (entryFrame m #[(.ref a1), (.long j1), (.long j2), (.double d1), (.double d2), (.double d3), (.long j3), .null] 14)) t := fun t k => castTop (ef_2 m a1 j1 j2 d1 d2 d3 j3) k
  obtain ⟨T0, X0', e0', st0⟩ := initO X0 hx hZ hown (hw _ (List.mem_of_getElem? (i := 11) rfl)) (hw _ (List.mem_of_getElem? (i := 12) rfl)) (hw _ (List.mem_of_getElem? (i := 13) rfl)) e0 (g := (mkF m 1 #[.val (.ref a1), .val (.long j1), .second, .val (.long j2), .second, .val (.double d1), .second, .val (.double d2), .second, .val (.double d3), .second, .val (.long j3), .second, .val .null] [(.ref a1)])) rfl (by rw [hml]; rfl) rfl (hb hby d2_1) (by decide) (W := 0) (by show 2 * 0 + _ ≤ _; exact Nat.le_of_eq rfl) (by decide)
  obtain ⟨T1, h1, X1, e1, W1, st1⟩ := putF X0' hx hZ hown (host := "") (Or.inl (hw _ (List.mem_of_getElem? (i := 14) rfl))) Via.refl e0' F1_0 E0 (Or.inr ⟨(hw _ (List.mem_of_getElem? (i := 15) rfl)), rfl, hnm⟩) (hw _ (List.mem_of_getElem? (i := 6) rfl)) (ty := .long) (by decide) rfl rfl (g := (mkF m 6 #[.val (.ref a1), .val (.long j1), .second, .val (.long j2), .second, .val (.double d1), .second, .val (.double d2), .second, .val (.double d3), .second, .val (.long j3), .second, .val .null] [(.long j1), (.ref a1)])) rfl rfl (hb hby d2_6)
  have N1 := Fr.snoc X1 N0 g1
  have K1 : Keep h0 h1 [a1] := (Keep.refl _ _).wr W1 (Or.inl (List.mem_of_getElem? (i := 0) rfl))
  have E1 : Exa Z h1 a1 "com/example/polku/polku/simulator/RunResult" := E0.wr W1
  have F1_1 : Fld Z h1 a1 "com/example/polku/polku/simulator/RunResult" "blocked" "J" (.long j1) := F1_0.same W1
  have F2_1 : Fld Z h1 a1 "com/example/polku/polku/simulator/RunResult" "requests" "J" (.long (0 : Int64)) := F2_0.other W1 (Or.inr (slot_ne (Or.inr (hw _ (List.mem_of_getElem? (i := 17) rfl))) (Or.inr (hw _ (List.mem_of_getElem? (i := 15) rfl))) (by decide) (t := .long) (t' := .long) (by decide) (by decide)))
  have F3_1 : Fld Z h1 a1 "com/example/polku/polku/simulator/RunResult" "blockedRateGbps" "D" (.double 0) := F3_0.other W1 (Or.inr (slot_ne (Or.inr (hw _ (List.mem_of_getElem? (i := 19) rfl))) (Or.inr (hw _ (List.mem_of_getElem? (i := 15) rfl))) (by decide) (t := .double) (t' := .long) (by decide) (by decide)))
  have F4_1 : Fld Z h1 a1 "com/example/polku/polku/simulator/RunResult" "offeredRateGbps" "D" (.double 0) := F4_0.other W1 (Or.inr (slot_ne (Or.inr (hw _ (List.mem_of_getElem? (i := 21) rfl))) (Or.inr (hw _ (List.mem_of_getElem? (i := 15) rfl))) (by decide) (t := .double) (t' := .long) (by decide) (by decide)))
  have F5_1 : Fld Z h1 a1 "com/example/polku/polku/simulator/RunResult" "firstRoutesKm" "D" (.double 0) := F5_0.other W1 (Or.inr (slot_ne (Or.inr (hw _ (List.mem_of_getElem? (i := 23) rfl))) (Or.inr (hw _ (List.mem_of_getElem? (i := 15) rfl))) (by decide) (t := .double) (t' := .long) (by decide) (by decide)))
  have F6_1 : Fld Z h1 a1 "com/example/polku/polku/simulator/RunResult" "firstRoutesHops" "J" (.long (0 : Int64)) := F6_0.other W1 (Or.inr (slot_ne (Or.inr (hw _ (List.mem_of_getElem? (i := 25) rfl))) (Or.inr (hw _ (List.mem_of_getElem? (i := 15) rfl))) (by decide) (t := .long) (t' := .long) (by decide) (by decide)))
  have F7_1 : Fld Z h1 a1 "com/example/polku/polku/simulator/RunResult" "audit" "Lcom/example/polku/polku/provisioning/FailureCount;" .null := F7_0.other W1 (Or.inr (slot_ne (Or.inr (hw _ (List.mem_of_getElem? (i := 27) rfl))) (Or.inr (hw _ (List.mem_of_getElem? (i := 15) rfl))) (by decide) (t := (.object "com/example/polku/polku/provisioning/FailureCount")) (t' := .long) (by decide) (by decide)))
  obtain ⟨T2, h2, X2, e2, W2, st2⟩ := putF X1 hx hZ hown (host := "") (Or.inl (hw _ (List.mem_of_getElem? (i := 16) rfl))) Via.refl e1 F2_1 E1 (Or.inr ⟨(hw _ (List.mem_of_getElem? (i := 17) rfl)), rfl, hnm⟩) (hw _ (List.mem_of_getElem? (i := 6) rfl)) (ty := .long) (by decide) rfl rfl (g := (mkF m 11 #[.val (.ref a1), .val (.long j1), .second, .val (.long j2), .second, .val (.double d1), .second, .val (.double d2), .second, .val (.double d3), .second, .val (.long j3), .second, .val .null] [(.long j2), (.ref a1)])) rfl rfl (hb hby d2_11)
  have N2 := Fr.snoc X2 N1 g1
  have K2 : Keep h0 h2 [a1] := K1.wr W2 (Or.inl (List.mem_of_getElem? (i := 0) rfl))
  have E2 : Exa Z h2 a1 "com/example/polku/polku/simulator/RunResult" := E1.wr W2
  have F1_2 : Fld Z h2 a1 "com/example/polku/polku/simulator/RunResult" "blocked" "J" (.long j1) := F1_1.other W2 (Or.inr (slot_ne (Or.inr (hw _ (List.mem_of_getElem? (i := 15) rfl))) (Or.inr (hw _ (List.mem_of_getElem? (i := 17) rfl))) (by decide) (t := .long) (t' := .long) (by decide) (by decide)))
  have F2_2 : Fld Z h2 a1 "com/example/polku/polku/simulator/RunResult" "requests" "J" (.long j2) := F2_1.same W2
  have F3_2 : Fld Z h2 a1 "com/example/polku/polku/simulator/RunResult" "blockedRateGbps" "D" (.double 0) := F3_1.other W2 (Or.inr (slot_ne (Or.inr (hw _ (List.mem_of_getElem? (i := 19) rfl))) (Or.inr (hw _ (List.mem_of_getElem? (i := 17) rfl))) (by decide) (t := .double) (t' := .long) (by decide) (by decide)))
  have F4_2 : Fld Z h2 a1 "com/example/polku/polku/simulator/RunResult" "offeredRateGbps" "D" (.double 0) := F4_1.other W2 (Or.inr (slot_ne (Or.inr (hw _ (List.mem_of_getElem? (i := 21) rfl))) (Or.inr (hw _ (List.mem_of_getElem? (i := 17) rfl))) (by decide) (t := .double) (t' := .long) (by decide) (by decide)))
  have F5_2 : Fld Z h2 a1 "com/example/polku/polku/simulator/RunResult" "firstRoutesKm" "D" (.double 0) := F5_1.other W2 (Or.inr (slot_ne (Or.inr (hw _ (List.mem_of_getElem? (i := 23) rfl))) (Or.inr (hw _ (List.mem_of_getElem? (i := 17) rfl))) (by decide) (t := .double) (t' := .long) (by decide) (by decide)))
  have F6_2 : Fld Z h2 a1 "com/example/polku/polku/simulator/RunResult" "firstRoutesHops" "J" (.long (0 : Int64)) := F6_1.other W2 (Or.inr (slot_ne (Or.inr (hw _ (List.mem_of_getElem? (i := 25) rfl))) (Or.inr (hw _ (List.mem_of_getElem? (i := 17) rfl))) (by decide) (t := .long) (t' := .long) (by decide) (by decide)))
  have F7_2 : Fld Z h2 a1 "com/example/polku/polku/simulator/RunResult" "audit" "Lcom/example/polku/polku/provisioning/FailureCount;" .null := F7_1.other W2 (Or.inr (slot_ne (Or.inr (hw _ (List.mem_of_getElem? (i := 27) rfl))) (Or.inr (hw _ (List.mem_of_getElem? (i := 17) rfl))) (by decide) (t := (.object "com/example/polku/polku/provisioning/FailureCount")) (t' := .long) (by decide) (by decide)))
  obtain ⟨T3, h3, X3, e3, W3, st3⟩ := putF X2 hx hZ hown (host := "") (Or.inl (hw _ (List.mem_of_getElem? (i := 18) rfl))) Via.refl e2 F3_2 E2 (Or.inr ⟨(hw _ (List.mem_of_getElem? (i := 19) rfl)), rfl, hnm⟩) (hw _ (List.mem_of_getElem? (i := 6) rfl)) (ty := .double) (by decide) rfl rfl (g := (mkF m 17 #[.val (.ref a1), .val (.long j1), .second, .val (.long j2), .second, .val (.double d1), .second, .val (.double d2), .second, .val (.double d3), .second, .val (.long j3), .second, .val .null] [(.double d1), (.ref a1)])) rfl rfl (hb hby d2_17)
  have N3 := Fr.snoc X3 N2 g1
  have K3 : Keep h0 h3 [a1] := K2.wr W3 (Or.inl (List.mem_of_getElem? (i := 0) rfl))
  have E3 : Exa Z h3 a1 "com/example/polku/polku/simulator/RunResult" := E2.wr W3
  have F1_3 : Fld Z h3 a1 "com/example/polku/polku/simulator/RunResult" "blocked" "J" (.long j1) := F1_2.other W3 (Or.inr (slot_ne (Or.inr (hw _ (List.mem_of_getElem? (i := 15) rfl))) (Or.inr (hw _ (List.mem_of_getElem? (i := 19) rfl))) (by decide) (t := .long) (t' := .double) (by decide) (by decide)))
  have F2_3 : Fld Z h3 a1 "com/example/polku/polku/simulator/RunResult" "requests" "J" (.long j2) := F2_2.other W3 (Or.inr (slot_ne (Or.inr (hw _ (List.mem_of_getElem? (i := 17) rfl))) (Or.inr (hw _ (List.mem_of_getElem? (i := 19) rfl))) (by decide) (t := .long) (t' := .double) (by decide) (by decide)))
  have F3_3 : Fld Z h3 a1 "com/example/polku/polku/simulator/RunResult" "blockedRateGbps" "D" (.double d1) := F3_2.same W3
  have F4_3 : Fld Z h3 a1 "com/example/polku/polku/simulator/RunResult" "offeredRateGbps" "D" (.double 0) := F4_2.other W3 (Or.inr (slot_ne (Or.inr (hw _ (List.mem_of_getElem? (i := 21) rfl))) (Or.inr (hw _ (List.mem_of_getElem? (i := 19) rfl))) (by decide) (t := .double) (t' := .double) (by decide) (by decide)))
  have F5_3 : Fld Z h3 a1 "com/example/polku/polku/simulator/RunResult" "firstRoutesKm" "D" (.double 0) := F5_2.other W3 (Or.inr (slot_ne (Or.inr (hw _ (List.mem_of_getElem? (i := 23) rfl))) (Or.inr (hw _ (List.mem_of_getElem? (i := 19) rfl))) (by decide) (t := .double) (t' := .double) (by decide) (by decide)))
  have F6_3 : Fld Z h3 a1 "com/example/polku/polku/simulator/RunResult" "firstRoutesHops" "J" (.long (0 : Int64)) := F6_2.other W3 (Or.inr (slot_ne (Or.inr (hw _ (List.mem_of_getElem? (i := 25) rfl))) (Or.inr (hw _ (List.mem_of_getElem? (i := 19) rfl))) (by decide) (t := .long) (t' := .double) (by decide) (by decide)))
  have F7_3 : Fld Z h3 a1 "com/example/polku/polku/simulator/RunResult" "audit" "Lcom/example/polku/polku/provisioning/FailureCount;" .null := F7_2.other W3 (Or.inr (slot_ne (Or.inr (hw _ (List.mem_of_getElem? (i := 27) rfl))) (Or.inr (hw _ (List.mem_of_getElem? (i := 19) rfl))) (by decide) (t := (.object "com/example/polku/polku/provisioning/FailureCount")) (t' := .double) (by decide) (by decide)))
  obtain ⟨T4, h4, X4, e4, W4, st4⟩ := putF X3 hx hZ hown (host := "") (Or.inl (hw _ (List.mem_of_getElem? (i := 20) rfl))) Via.refl e3 F4_3 E3 (Or.inr ⟨(hw _ (List.mem_of_getElem? (i := 21) rfl)), rfl, hnm⟩) (hw _ (List.mem_of_getElem? (i := 6) rfl)) (ty := .double) (by decide) rfl rfl (g := (mkF m 23 #[.val (.ref a1), .val (.long j1), .second, .val (.long j2), .second, .val (.double d1), .second, .val (.double d2), .second, .val (.double d3), .second, .val (.long j3), .second, .val .null] [(.double d2), (.ref a1)])) rfl rfl (hb hby d2_23)
  have N4 := Fr.snoc X4 N3 g1
  have K4 : Keep h0 h4 [a1] := K3.wr W4 (Or.inl (List.mem_of_getElem? (i := 0) rfl))
  have E4 : Exa Z h4 a1 "com/example/polku/polku/simulator/RunResult" := E3.wr W4
  have F1_4 : Fld Z h4 a1 "com/example/polku/polku/simulator/RunResult" "blocked" "J" (.long j1) := F1_3.other W4 (Or.inr (slot_ne (Or.inr (hw _ (List.mem_of_getElem? (i := 15) rfl))) (Or.inr (hw _ (List.mem_of_getElem? (i := 21) rfl))) (by decide) (t := .long) (t' := .double) (by decide) (by decide)))
  have F2_4 : Fld Z h4 a1 "com/example/polku/polku/simulator/RunResult" "requests" "J" (.long j2) := F2_3.other W4 (Or.inr (slot_ne (Or.inr (hw _ (List.mem_of_getElem? (i := 17) rfl))) (Or.inr (hw _ (List.mem_of_getElem? (i := 21) rfl))) (by decide) (t := .long) (t' := .double) (by decide) (by decide)))
  have F4_4 : Fld Z h4 a1 "com/example/polku/polku/simulator/RunResult" "offeredRateGbps" "D" (.double d2) := F4_3.same W4
  have F5_4 : Fld Z h4 a1 "com/example/polku/polku/simulator/RunResult" "firstRoutesKm" "D" (.double 0) := F5_3.other W4 (Or.inr (slot_ne (Or.inr (hw _ (List.mem_of_getElem? (i := 23) rfl))) (Or.inr (hw _ (List.mem_of_getElem? (i := 21) rfl))) (by decide) (t := .double) (t' := .double) (by decide) (by decide)))
  have F6_4 : Fld Z h4 a1 "com/example/polku/polku/simulator/RunResult" "firstRoutesHops" "J" (.long (0 : Int64)) := F6_3.other W4 (Or.inr (slot_ne (Or.inr (hw _ (List.mem_of_getElem? (i := 25) rfl))) (Or.inr (hw _ (List.mem_of_getElem? (i := 21) rfl))) (by decide) (t := .long) (t' := .double) (by decide) (by decide)))
  have F7_4 : Fld Z h4 a1 "com/example/polku/polku/simulator/RunResult" "audit" "Lcom/example/polku/polku/provisioning/FailureCount;" .null := F7_3.other W4 (Or.inr (slot_ne (Or.inr (hw _ (List.mem_of_getElem? (i := 27) rfl))) (Or.inr (hw _ (List.mem_of_getElem? (i := 21) rfl))) (by decide) (t := (.object "com/example/polku/polku/provisioning/FailureCount")) (t' := .double) (by decide) (by decide)))
  obtain ⟨T5, h5, X5, e5, W5, st5⟩ := putF X4 hx hZ hown (host := "") (Or.inl (hw _ (List.mem_of_getElem? (i := 22) rfl))) Via.refl e4 F5_4 E4 (Or.inr ⟨(hw _ (List.mem_of_getElem? (i := 23) rfl)), rfl, hnm⟩) (hw _ (List.mem_of_getElem? (i := 6) rfl)) (ty := .double) (by decide) rfl rfl (g := (mkF m 29 #[.val (.ref a1), .val (.long j1), .second, .val (.long j2), .second, .val (.double d1), .second, .val (.double d2), .second, .val (.double d3), .second, .val (.long j3), .second, .val .null] [(.double d3), (.ref a1)])) rfl rfl (hb hby d2_29)
  have N5 := Fr.snoc X5 N4 g1
  have K5 : Keep h0 h5 [a1] := K4.wr W5 (Or.inl (List.mem_of_getElem? (i := 0) rfl))
  have E5 : Exa Z h5 a1 "com/example/polku/polku/simulator/RunResult" := E4.wr W5
  have F1_5 : Fld Z h5 a1 "com/example/polku/polku/simulator/RunResult" "blocked" "J" (.long j1) := F1_4.other W5 (Or.inr (slot_ne (Or.inr (hw _ (List.mem_of_getElem? (i := 15) rfl))) (Or.inr (hw _ (List.mem_of_getElem? (i := 23) rfl))) (by decide) (t := .long) (t' := .double) (by decide) (by decide)))
  have F2_5 : Fld Z h5 a1 "com/example/polku/polku/simulator/RunResult" "requests" "J" (.long j2) := F2_4.other W5 (Or.inr (slot_ne (Or.inr (hw _ (List.mem_of_getElem? (i := 17) rfl))) (Or.inr (hw _ (List.mem_of_getElem? (i := 23) rfl))) (by decide) (t := .long) (t' := .double) (by decide) (by decide)))
  have F5_5 : Fld Z h5 a1 "com/example/polku/polku/simulator/RunResult" "firstRoutesKm" "D" (.double d3) := F5_4.same W5
  have F6_5 : Fld Z h5 a1 "com/example/polku/polku/simulator/RunResult" "firstRoutesHops" "J" (.long (0 : Int64)) := F6_4.other W5 (Or.inr (slot_ne (Or.inr (hw _ (List.mem_of_getElem? (i := 25) rfl))) (Or.inr (hw _ (List.mem_of_getElem? (i := 23) rfl))) (by decide) (t := .long) (t' := .double) (by decide) (by decide)))
  have F7_5 : Fld Z h5 a1 "com/example/polku/polku/simulator/RunResult" "audit" "Lcom/example/polku/polku/provisioning/FailureCount;" .null := F7_4.other W5 (Or.inr (slot_ne (Or.inr (hw _ (List.mem_of_getElem? (i := 27) rfl))) (Or.inr (hw _ (List.mem_of_getElem? (i := 23) rfl))) (by decide) (t := (.object "com/example/polku/polku/provisioning/FailureCount")) (t' := .double) (by decide) (by decide)))
  obtain ⟨T6, h6, X6, e6, W6, st6⟩ := putF X5 hx hZ hown (host := "") (Or.inl (hw _ (List.mem_of_getElem? (i := 24) rfl))) Via.refl e5 F6_5 E5 (Or.inr ⟨(hw _ (List.mem_of_getElem? (i := 25) rfl)), rfl, hnm⟩) (hw _ (List.mem_of_getElem? (i := 6) rfl)) (ty := .long) (by decide) rfl rfl (g := (mkF m 35 #[.val (.ref a1), .val (.long j1), .second, .val (.long j2), .second, .val (.double d1), .second, .val (.double d2), .second, .val (.double d3), .second, .val (.long j3), .second, .val .null] [(.long j3), (.ref a1)])) rfl rfl (hb hby d2_35)
  have N6 := Fr.snoc X6 N5 g1
  have K6 : Keep h0 h6 [a1] := K5.wr W6 (Or.inl (List.mem_of_getElem? (i := 0) rfl))
  have E6 : Exa Z h6 a1 "com/example/polku/polku/simulator/RunResult" := E5.wr W6
  have F1_6 : Fld Z h6 a1 "com/example/polku/polku/simulator/RunResult" "blocked" "J" (.long j1) := F1_5.other W6 (Or.inr (slot_ne (Or.inr (hw _ (List.mem_of_getElem? (i := 15) rfl))) (Or.inr (hw _ (List.mem_of_getElem? (i := 25) rfl))) (by decide) (t := .long) (t' := .long) (by decide) (by decide)))
  have F2_6 : Fld Z h6 a1 "com/example/polku/polku/simulator/RunResult" "requests" "J" (.long j2) := F2_5.other W6 (Or.inr (slot_ne (Or.inr (hw _ (List.mem_of_getElem? (i := 17) rfl))) (Or.inr (hw _ (List.mem_of_getElem? (i := 25) rfl))) (by decide) (t := .long) (t' := .long) (by decide) (by decide)))
  have F6_6 : Fld Z h6 a1 "com/example/polku/polku/simulator/RunResult" "firstRoutesHops" "J" (.long j3) := F6_5.same W6
  have F7_6 : Fld Z h6 a1 "com/example/polku/polku/simulator/RunResult" "audit" "Lcom/example/polku/polku/provisioning/FailureCount;" .null := F7_5.other W6 (Or.inr (slot_ne (Or.inr (hw _ (List.mem_of_getElem? (i := 27) rfl))) (Or.inr (hw _ (List.mem_of_getElem? (i := 25) rfl))) (by decide) (t := (.object "com/example/polku/polku/provisioning/FailureCount")) (t' := .long) (by decide) (by decide)))
  obtain ⟨T7, h7, X7, e7, W7, st7⟩ := putF X6 hx hZ hown (host := "") (Or.inl (hw _ (List.mem_of_getElem? (i := 26) rfl))) Via.refl e6 F7_6 E6 (Or.inr ⟨(hw _ (List.mem_of_getElem? (i := 27) rfl)), rfl, hnm⟩) (hw _ (List.mem_of_getElem? (i := 6) rfl)) (ty := (.object "com/example/polku/polku/provisioning/FailureCount")) (by decide) rfl rfl (g := (mkF m 41 #[.val (.ref a1), .val (.long j1), .second, .val (.long j2), .second, .val (.double d1), .second, .val (.double d2), .second, .val (.double d3), .second, .val (.long j3), .second, .val .null] [.null, (.ref a1)])) rfl rfl (hb hby d2_41)
  have N7 := Fr.snoc X7 N6 g1
  have K7 : Keep h0 h7 [a1] := K6.wr W7 (Or.inl (List.mem_of_getElem? (i := 0) rfl))
  have E7 : Exa Z h7 a1 "com/example/polku/polku/simulator/RunResult" := E6.wr W7
  have F1_7 : Fld Z h7 a1 "com/example/polku/polku/simulator/RunResult" "blocked" "J" (.long j1) := F1_6.other W7 (Or.inr (slot_ne (Or.inr (hw _ (List.mem_of_getElem? (i := 15) rfl))) (Or.inr (hw _ (List.mem_of_getElem? (i := 27) rfl))) (by decide) (t := .long) (t' := (.object "com/example/polku/polku/provisioning/FailureCount")) (by decide) (by decide)))
  have F2_7 : Fld Z h7 a1 "com/example/polku/polku/simulator/RunResult" "requests" "J" (.long j2) := F2_6.other W7 (Or.inr (slot_ne (Or.inr (hw _ (List.mem_of_getElem? (i := 17) rfl))) (Or.inr (hw _ (List.mem_of_getElem? (i := 27) rfl))) (by decide) (t := .long) (t' := (.object "com/example/polku/polku/provisioning/FailureCount")) (by decide) (by decide)))
  have F7_7 : Fld Z h7 a1 "com/example/polku/polku/simulator/RunResult" "audit" "Lcom/example/polku/polku/provisioning/FailureCount;" .null := F7_6.same W7
  obtain ⟨fs, hr, hrun, hended, hW, hsame⟩ := X7.leave (v := none) (fun _ => rfl)
  refine ⟨_, _, pre0 _ ?_, hrun, hended, _, _, rfl, ?_, ⟨_, rfl⟩, hW, hsame.mono (by decide) (by decide)⟩
  · show Steps p.tables e below (s₁.setTop (mkF m 0 #[.val (.ref a1), .val (.long j1), .second, .val (.long j2), .second, .val (.double d1), .second, .val (.double d2), .second, .val (.double d3), .second, .val (.long j3), .second, .val .null] [])) _
    refine XS.aloadN X0.here hx rfl (hb hby d2_0) rfl rfl ?_
    show Steps p.tables e below (s₁.setTop (mkF m 1 #[.val (.ref a1), .val (.long j1), .second, .val (.long j2), .second, .val (.double d1), .second, .val (.double d2), .second, .val (.double d3), .second, .val (.long j3), .second, .val .null] [(.ref a1)])) _
    refine st0 _ ?_
    show Steps p.tables e below (T0.setTop (mkF m 4 #[.val (.ref a1), .val (.long j1), .second, .val (.long j2), .second, .val (.double d1), .second, .val (.double d2), .second, .val (.double d3), .second, .val (.long j3), .second, .val .null] [])) _
    refine XS.aloadN X0'.here hx rfl (hb hby d2_4) rfl rfl ?_
    show Steps p.tables e below (T0.setTop (mkF m 5 #[.val (.ref a1), .val (.long j1), .second, .val (.long j2), .second, .val (.double d1), .second, .val (.double d2), .second, .val (.double d3), .second, .val (.long j3), .second, .val .null] [(.ref a1)])) _
    refine XS.lloadN X0'.here hx rfl (hb hby d2_5) rfl ?_
    show Steps p.tables e below (T0.setTop (mkF m 6 #[.val (.ref a1), .val (.long j1), .second, .val (.long j2), .second, .val (.double d1), .second, .val (.double d2), .second, .val (.double d3), .second, .val (.long j3), .second, .val .null] [(.long j1), (.ref a1)])) _
    refine st1 _ ?_
    show Steps p.tables e below (T1.setTop (mkF m 9 #[.val (.ref a1), .val (.long j1), .second, .val (.long j2), .second, .val (.double d1), .second, .val (.double d2), .second, .val (.double d3), .second, .val (.long j3), .second, .val .null] [])) _
    refine XS.aloadN X1.here hx rfl (hb hby d2_9) rfl rfl ?_
    show Steps p.tables e below (T1.setTop (mkF m 10 #[.val (.ref a1), .val (.long j1), .second, .val (.long j2), .second, .val (.double d1), .second, .val (.double d2), .second, .val (.double d3), .second, .val (.long j3), .second, .val .null] [(.ref a1)])) _
    refine XS.lloadN X1.here hx rfl (hb hby d2_10) rfl ?_
    show Steps p.tables e below (T1.setTop (mkF m 11 #[.val (.ref a1), .val (.long j1), .second, .val (.long j2), .second, .val (.double d1), .second, .val (.double d2), .second, .val (.double d3), .second, .val (.long j3), .second, .val .null] [(.long j2), (.ref a1)])) _
    refine st2 _ ?_
    show Steps p.tables e below (T2.setTop (mkF m 14 #[.val (.ref a1), .val (.long j1), .second, .val (.long j2), .second, .val (.double d1), .second, .val (.double d2), .second, .val (.double d3), .second, .val (.long j3), .second, .val .null] [])) _
    refine XS.aloadN X2.here hx rfl (hb hby d2_14) rfl rfl ?_
    show Steps p.tables e below (T2.setTop (mkF m 15 #[.val (.ref a1), .val (.long j1), .second, .val (.long j2), .second, .val (.double d1), .second, .val (.double d2), .second, .val (.double d3), .second, .val (.long j3), .second, .val .null] [(.ref a1)])) _
    refine XS.dload X2.here hx rfl (hb hby d2_15) rfl ?_
    show Steps p.tables e below (T2.setTop (mkF m 17 #[.val (.ref a1), .val (.long j1), .second, .val (.long j2), .second, .val (.double d1), .second, .val (.double d2), .second, .val (.double d3), .second, .val (.long j3), .second, .val .null] [(.double d1), (.ref a1)])) _
    refine st3 _ ?_
    show Steps p.tables e below (T3.setTop (mkF m 20 #[.val (.ref a1), .val (.long j1), .second, .val (.long j2), .second, .val (.double d1), .second, .val (.double d2), .second, .val (.double d3), .second, .val (.long j3), .second, .val .null] [])) _
    refine XS.aloadN X3.here hx rfl (hb hby d2_20) rfl rfl ?_
    show Steps p.tables e below (T3.setTop (mkF m 21 #[.val (.ref a1), .val (.long j1), .second, .val (.long j2), .second, .val (.double d1), .second, .val (.double d2), .second, .val (.double d3), .second, .val (.long j3), .second, .val .null] [(.ref a1)])) _
    refine XS.dload X3.here hx rfl (hb hby d2_21) rfl ?_
    show Steps p.tables e below (T3.setTop (mkF m 23 #[.val (.ref a1), .val (.long j1), .second, .val (.long j2), .second, .val (.double d1), .second, .val (.double d2), .second, .val (.double d3), .second, .val (.long j3), .second, .val .null] [(.double d2), (.ref a1)])) _
    refine st4 _ ?_
    show Steps p.tables e below (T4.setTop (mkF m 26 #[.val (.ref a1), .val (.long j1), .second, .val (.long j2), .second, .val (.double d1), .second, .val (.double d2), .second, .val (.double d3), .second, .val (.long j3), .second, .val .null] [])) _
    refine XS.aloadN X4.here hx rfl (hb hby d2_26) rfl rfl ?_
    show Steps p.tables e below (T4.setTop (mkF m 27 #[.val (.ref a1), .val (.long j1), .second, .val (.long j2), .second, .val (.double d1), .second, .val (.double d2), .second, .val (.double d3), .second, .val (.long j3), .second, .val .null] [(.ref a1)])) _
    refine XS.dload X4.here hx rfl (hb hby d2_27) rfl ?_
    show Steps p.tables e below (T4.setTop (mkF m 29 #[.val (.ref a1), .val (.long j1), .second, .val (.long j2), .second, .val (.double d1), .second, .val (.double d2), .second, .val (.double d3), .second, .val (.long j3), .second, .val .null] [(.double d3), (.ref a1)])) _
    refine st5 _ ?_
    show Steps p.tables e below (T5.setTop (mkF m 32 #[.val (.ref a1), .val (.long j1), .second, .val (.long j2), .second, .val (.double d1), .second, .val (.double d2), .second, .val (.double d3), .second, .val (.long j3), .second, .val .null] [])) _
    refine XS.aloadN X5.here hx rfl (hb hby d2_32) rfl rfl ?_
    show Steps p.tables e below (T5.setTop (mkF m 33 #[.val (.ref a1), .val (.long j1), .second, .val (.long j2), .second, .val (.double d1), .second, .val (.double d2), .second, .val (.double d3), .second, .val (.long j3), .second, .val .null] [(.ref a1)])) _
    refine XS.lload X5.here hx rfl (hb hby d2_33) rfl ?_
    show Steps p.tables e below (T5.setTop (mkF m 35 #[.val (.ref a1), .val (.long j1), .second, .val (.long j2), .second, .val (.double d1), .second, .val (.double d2), .second, .val (.double d3), .second, .val (.long j3), .second, .val .null] [(.long j3), (.ref a1)])) _
    refine st6 _ ?_
    show Steps p.tables e below (T6.setTop (mkF m 38 #[.val (.ref a1), .val (.long j1), .second, .val (.long j2), .second, .val (.double d1), .second, .val (.double d2), .second, .val (.double d3), .second, .val (.long j3), .second, .val .null] [])) _
    refine XS.aloadN X6.here hx rfl (hb hby d2_38) rfl rfl ?_
    show Steps p.tables e below (T6.setTop (mkF m 39 #[.val (.ref a1), .val (.long j1), .second, .val (.long j2), .second, .val (.double d1), .second, .val (.double d2), .second, .val (.double d3), .second, .val (.long j3), .second, .val .null] [(.ref a1)])) _
    refine XS.aload X6.here hx rfl (hb hby d2_39) rfl rfl ?_
    show Steps p.tables e below (T6.setTop (mkF m 41 #[.val (.ref a1), .val (.long j1), .second, .val (.long j2), .second, .val (.double d1), .second, .val (.double d2), .second, .val (.double d3), .second, .val (.long j3), .second, .val .null] [.null, (.ref a1)])) _
    refine st7 _ ?_
    show Steps p.tables e below (T7.setTop (mkF m 44 #[.val (.ref a1), .val (.long j1), .second, .val (.long j2), .second, .val (.double d1), .second, .val (.double d2), .second, .val (.double d3), .second, .val (.long j3), .second, .val .null] [])) _
    exact X7.returnOut hx Bd.returns (hb hby d2_44) hr
  · show Q2 Z a1 j1 j2 h0 n0 _ T7.heap _
    rw [e7]
    exact ⟨rfl, N7, K7, E7, F1_7, F2_7⟩
def Q3 (j1 j2 : Int64) (h0 : Heap) (n0 : Nat) (v : Option Value) (h : Heap) (L : List Loc) : Prop := v = some (.double (FP.ddiv (FP.l2d j1) (FP.l2d j2))) ∧ Fr n0 L ∧ h = h0
set_option maxRecDepth 65536 in
set_option maxHeartbeats 40000000 in
theorem rm3 (l : Launch) (Z : State) (a0 : Array Value) (hw : ∀ d ∈ tables_1, d.before a0 Z = true) (ws : List Jvm.Cond) (a1 : Addr) (j1 j2 : Int64) (h0 : Heap) (n0 : Nat) (Z0 : n0 ≤ h0.size) (F1 : Fld Z h0 a1 "com/example/polku/polku/simulator/RunResult" "blocked" "J" (.long j1)) (F2 : Fld Z h0 a1 "com/example/polku/polku/simulator/RunResult" "requests" "J" (.long j2)) (hnn : Jvm.Free.Fl.NoNaN64 (FP.ddiv (FP.l2d j1) (FP.l2d j2))) :
    MetFree l (⟨"com/example/polku/polku/simulator/RunResult", "getBlockingProbability", "()D"⟩ : MethodName) (head1 (Jvm.Cond.code (⟨"com/example/polku/polku/simulator/RunResult", "getBlockingProbability", "()D"⟩ : MethodName) prog_64_method_3_code 1 (some .double) :: ws) ({ frames := 0, cells := 0, slots := 0, locals := 0 } : Room)) (fun a U => a = #[(.ref a1)] ∧ Z.Warmed39 U.vm ∧ U.heap = h0) (fun _ _ _ _ _ => True) (fun _ U o U' => ∃ v L, o = .returned v ∧ Q3 j1 j2 h0 n0 v U'.heap L ∧ FrameEnd U o U' L ({ frames := 0, cells := 0, slots := 0, locals := 0 } : Room).cells ({ frames := 0, cells := 0, slots := 0, locals := 0 } : Room).slots) := by
  refine MetFree.of_bodySF (plainFor_of_name pn_2) hisR ?_
  intro p e s m args below meth c s₁ Bd hml0 hP hK
  obtain ⟨rfl, hZ, hh⟩ := hP
  have hx := Bd.exec
  have hby := Bd.bytes
  have hml : c.maxLocals = 1 := hml0
  have hown : s.vm.findClass "com/example/polku/polku/simulator/RunResult" = some m.cls := findClass_of_methodNamed Bd.named
  have hnm := (name_of_methodNamed Bd.named Bd.method).1
  have X0 : Stand p l e ({ frames := 0, cells := 0, slots := 0, locals := 0 } : Room) s m #[(.ref a1)] below meth c s₁ [] 0 0 := Stand.of_body Bd
  have e0 : s₁.heap = h0 := by rw [← hh, Bd.state]; rfl
  have N0 := Fr.nil n0
  have pre0 : ∀ t, Steps p.tables e below (s₁.setTop (mkF m 0 #[.val (.ref a1)] [])) t → Steps p.tables e below (s₁.setTop (entryFrame m #[(.ref a1)] 1)) t := fun t k => castTop (ef_3 m a1) k
  obtain ⟨T1, X1, e1, st1⟩ := getF X0 hx hZ hown (host := "") (Or.inl (hw _ (List.mem_of_getElem? (i := 14) rfl))) Via.refl e0 F1 (g := (mkF m 1 #[.val (.ref a1)] [(.ref a1)])) rfl rfl (hb hby d3_1)
  obtain ⟨T2, X2, e2, st2⟩ := getF X1 hx hZ hown (host := "") (Or.inl (hw _ (List.mem_of_getElem? (i := 16) rfl))) Via.refl e1 F2 (g := (mkF m 6 #[.val (.ref a1)] [(.ref a1), (.double (FP.l2d j1))])) rfl rfl (hb hby d3_6)
  obtain ⟨fs, hr, hrun, hended, hW, hsame⟩ := X2.leave (v := some (.double (FP.ddiv (FP.l2d j1) (FP.l2d j2)))) (fun h => by rw [Bd.returns] at h; cases h)
  refine ⟨_, _, pre0 _ ?_, hrun, hended, _, _, rfl, ?_, ⟨_, rfl⟩, hW, hsame.mono (by decide) (by decide)⟩
  · show Steps p.tables e below (s₁.setTop (mkF m 0 #[.val (.ref a1)] [])) _
    refine XS.aloadN X0.here hx rfl (hb hby d3_0) rfl rfl ?_
    show Steps p.tables e below (s₁.setTop (mkF m 1 #[.val (.ref a1)] [(.ref a1)])) _
    refine st1 _ ?_
    show Steps p.tables e below (T1.setTop (mkF m 4 #[.val (.ref a1)] [(.long j1)])) _
    refine XS.l2dS X1.here hx rfl (hb hby d3_4) rfl rfl ?_
    show Steps p.tables e below (T1.setTop (mkF m 5 #[.val (.ref a1)] [(.double (FP.l2d j1))])) _
    refine XS.aloadN X1.here hx rfl (hb hby d3_5) rfl rfl ?_
    show Steps p.tables e below (T1.setTop (mkF m 6 #[.val (.ref a1)] [(.ref a1), (.double (FP.l2d j1))])) _
    refine st2 _ ?_
    show Steps p.tables e below (T2.setTop (mkF m 9 #[.val (.ref a1)] [(.long j2), (.double (FP.l2d j1))])) _
    refine XS.l2dS X2.here hx rfl (hb hby d3_9) rfl rfl ?_
    show Steps p.tables e below (T2.setTop (mkF m 10 #[.val (.ref a1)] [(.double (FP.l2d j2)), (.double (FP.l2d j1))])) _
    refine XS.ddivS X2.here hx rfl (hb hby d3_10) rfl hnn rfl ?_
    show Steps p.tables e below (T2.setTop (mkF m 11 #[.val (.ref a1)] [(.double (FP.ddiv (FP.l2d j1) (FP.l2d j2)))])) _
    exact retOut X2 hx Bd.returns rfl (Or.inr (Or.inr (Or.inl ⟨rfl, rfl, _, rfl⟩))) (hb hby d3_11) hr
  · show Q3 j1 j2 h0 n0 _ T2.heap _
    rw [e2]
    exact ⟨rfl, N0, rfl⟩
def Q1 (j1 j2 : Int64) (h0 : Heap) (n0 : Nat) (v : Option Value) (h : Heap) (L : List Loc) : Prop := v = some (.double (FP.ddiv (FP.l2d j1) (FP.l2d j2))) ∧ Fr n0 L ∧ n0 ≤ h.size
set_option maxRecDepth 65536 in
set_option maxHeartbeats 40000000 in
theorem rm1 (l : Launch) (Z : State) (a0 : Array Value) (hw : ∀ d ∈ tables_1, d.before a0 Z = true) (ws : List Jvm.Cond) (j1 j2 : Int64) (h0 : Heap) (n0 : Nat) (Z0 : n0 ≤ h0.size) (hnn : Jvm.Free.Fl.NoNaN64 (FP.ddiv (FP.l2d j1) (FP.l2d j2))) :
    MetFree l (⟨"com/example/polku/polku/simulator/RunResultGetBlockingProbabilityPinLaw", "prob", "(JJ)D"⟩ : MethodName) (head1 (Jvm.Cond.code (⟨"com/example/polku/polku/simulator/RunResultGetBlockingProbabilityPinLaw", "prob", "(JJ)D"⟩ : MethodName) method_2_code 5 (some .double) :: ws) ({ frames := 2, cells := 1, slots := 7, locals := 38 } : Room)) (fun a U => a = #[(.long j1), (.long j2)] ∧ Z.Warmed39 U.vm ∧ U.heap = h0) (fun _ _ _ _ _ => True) (fun _ U o U' => ∃ v L, o = .returned v ∧ Q1 j1 j2 h0 n0 v U'.heap L ∧ FrameEnd U o U' L ({ frames := 2, cells := 1, slots := 7, locals := 38 } : Room).cells ({ frames := 2, cells := 1, slots := 7, locals := 38 } : Room).slots) := by
  refine MetFree.of_bodySF (plainFor_of_name pn_0) hisR ?_
  intro p e s m args below meth c s₁ Bd hml0 hP hK
  obtain ⟨rfl, hZ, hh⟩ := hP
  have hx := Bd.exec
  have hby := Bd.bytes
  have hml : c.maxLocals = 5 := hml0
  have hown : s.vm.findClass "com/example/polku/polku/simulator/RunResultGetBlockingProbabilityPinLaw" = some m.cls := findClass_of_methodNamed Bd.named
  have hnm := (name_of_methodNamed Bd.named Bd.method).1
  have X0 : Stand p l e ({ frames := 2, cells := 1, slots := 7, locals := 38 } : Room) s m #[(.long j1), (.long j2)] below meth c s₁ [] 0 0 := Stand.of_body Bd
  have e0 : s₁.heap = h0 := by rw [← hh, Bd.state]; rfl
  have N0 := Fr.nil n0
  have pre0 : ∀ t, Steps p.tables e below (s₁.setTop (mkF m 0 #[.val (.long j1), .second, .val (.long j2), .second, .unset] [])) t → Steps p.tables e below (s₁.setTop (entryFrame m #[(.long j1), (.long j2)] 5)) t := fun t k => castTop (ef_1 m j1 j2) k
  obtain ⟨T1, h1, X1, e1, E1, A1, D1, -, st1⟩ := newO X0 hx hZ hown (hw _ (List.mem_of_getElem? (i := 5) rfl)) (hw _ (List.mem_of_getElem? (i := 6) rfl)) (hw _ (List.mem_of_getElem? (i := 7) rfl)) e0 (g := (mkF m 0 #[.val (.long j1), .second, .val (.long j2), .second, .unset] [])) rfl (hb hby d1_0) (by decide) (by decide)
  obtain ⟨b1, g1⟩ : ∃ z, z = h0.size := ⟨_, rfl⟩
  rw [← g1] at A1 D1 st1
  have F1 : Fld Z h1 b1 "com/example/polku/polku/simulator/RunResult" "blocked" "J" (.long (0 : Int64)) := D1 (Or.inr (hw _ (List.mem_of_getElem? (i := 15) rfl))) (ty := .long) (by decide)
  have F2 : Fld Z h1 b1 "com/example/polku/polku/simulator/RunResult" "requests" "J" (.long (0 : Int64)) := D1 (Or.inr (hw _ (List.mem_of_getElem? (i := 17) rfl))) (ty := .long) (by decide)
  have F3 : Fld Z h1 b1 "com/example/polku/polku/simulator/RunResult" "blockedRateGbps" "D" (.double 0) := D1 (Or.inr (hw _ (List.mem_of_getElem? (i := 19) rfl))) (ty := .double) (by decide)
  have F4 : Fld Z h1 b1 "com/example/polku/polku/simulator/RunResult" "offeredRateGbps" "D" (.double 0) := D1 (Or.inr (hw _ (List.mem_of_getElem? (i := 21) rfl))) (ty := .double) (by decide)
  have F5 : Fld Z h1 b1 "com/example/polku/polku/simulator/RunResult" "firstRoutesKm" "D" (.double 0) := D1 (Or.inr (hw _ (List.mem_of_getElem? (i := 23) rfl))) (ty := .double) (by decide)
  have F6 : Fld Z h1 b1 "com/example/polku/polku/simulator/RunResult" "firstRoutesHops" "J" (.long (0 : Int64)) := D1 (Or.inr (hw _ (List.mem_of_getElem? (i := 25) rfl))) (ty := .long) (by decide)
  have F7 : Fld Z h1 b1 "com/example/polku/polku/simulator/RunResult" "audit" "Lcom/example/polku/polku/provisioning/FailureCount;" .null := D1 (Or.inr (hw _ (List.mem_of_getElem? (i := 27) rfl))) (ty := (.object "com/example/polku/polku/provisioning/FailureCount")) (by decide)
  have Z1 : n0 ≤ h1.size := Nat.le_trans Z0 E1.1
  obtain ⟨_, _, ⟨T2, L2, k2, n2⟩, -, X2, ⟨Lc2, hQ2, l2, y2, z2⟩, st2⟩ := X1.specialBack hx (y := (⟨"com/example/polku/polku/simulator/RunResult", "<init>", "(JJDDDJLcom/example/polku/polku/provisioning/FailureCount;)V"⟩ : MethodName)) rfl hown (mvT hZ (hw _ (List.mem_of_getElem? (i := 8) rfl))) (mvT hZ (hw _ (List.mem_of_getElem? (i := 9) rfl))) (mvT hZ (hw _ (List.mem_of_getElem? (i := 10) rfl))) (by decide) (backOf (W := 1) (rm2 l Z a0 hw [] b1 j1 j2 FP.dconst0 FP.dconst1 FP.dconst0 (0 : Int64) h1 n0 Z1 F1 F2 F3 F4 F5 F6 F7 A1 (Nat.le_trans Z0 (Nat.le_of_eq g1.symm))) hZ (hw _ (List.mem_of_getElem? (i := 10) rfl)) (hw _ (List.mem_of_getElem? (i := 7) rfl)) (by decide) (by decide)) (g := (mkF m 11 #[.val (.long j1), .second, .val (.long j2), .second, .unset] [.null, (.long (0 : Int64)), (.double FP.dconst0), (.double FP.dconst1), (.double FP.dconst0), (.long j2), (.long j1), (.ref b1), (.ref b1)])) rfl (by rw [hml]; rfl) (Steps.refl _) (a := b1) (argsL := [(.long j1), (.long j2), (.double FP.dconst0), (.double FP.dconst1), (.double FP.dconst0), (.long (0 : Int64)), .null]) (rest := [(.ref b1)]) (lenOf pd_2 rfl) rfl (by show 2 * 0 + _ ≤ _; exact Nat.le_of_eq rfl) (hb hby d1_11) (fun _ _ => ⟨rfl, e1, (by decide : 1 + 0 ≤ _), (by decide : 7 + 0 ≤ _)⟩)
  dsimp only [Pt.U, Pt.locs, Pt.cells, Pt.slots] at X2 l2 y2 z2 st2 hQ2
  subst l2 y2 z2
  obtain ⟨rfl, N2q, K2, A2, B2, C2⟩ := hQ2
  have N2 := Fr.app N0 N2q
  have Z2 : n0 ≤ T2.heap.size := Nat.le_trans Z1 K2.1
  obtain ⟨cq3, kq3, q3a, q3b, q3c⟩ := isOf hZ rfl A2
  obtain ⟨_, _, ⟨T3, L3, k3, n3⟩, -, X3, ⟨Lc3, hQ3, l3, y3, z3⟩, st3⟩ := X2.virtualBack hx (y := (⟨"com/example/polku/polku/simulator/RunResult", "getBlockingProbability", "()D"⟩ : MethodName)) (z := (⟨"com/example/polku/polku/simulator/RunResult", "getBlockingProbability", "()D"⟩ : MethodName)) hown (mvT hZ (hw _ (List.mem_of_getElem? (i := 28) rfl))) (mvT hZ (hw _ (List.mem_of_getElem? (i := 29) rfl))) (notFace_of_selects (args := #[]) (mvT hZ (hw _ (List.mem_of_getElem? (i := 31) rfl)))) (mvT hZ (hw _ (List.mem_of_getElem? (i := 31) rfl))) (mvT hZ (hw _ (List.mem_of_getElem? (i := 30) rfl))) (by decide) (backOf (W := 0) (rm3 l Z a0 hw [] b1 j1 j2 T2.heap n0 Z2 B2 C2 hnn) hZ (hw _ (List.mem_of_getElem? (i := 32) rfl)) (hw _ (List.mem_of_getElem? (i := 7) rfl)) (by decide) (by decide)) q3a q3c (g := (mkF m 18 #[.val (.long j1), .second, .val (.long j2), .second, .val (.ref b1)] [(.ref b1)])) rfl (by rw [hml]; rfl) (Steps.refl _) (argsL := []) (rest := []) (lenOf pd_3 rfl) rfl (by show 2 * 0 + _ ≤ _; exact Nat.le_of_eq rfl) (hb hby d1_18) (fun _ _ => ⟨rfl, rfl, (by decide : 1 + 0 ≤ _), (by decide : 7 + 0 ≤ _)⟩)
  dsimp only [Pt.U, Pt.locs, Pt.cells, Pt.slots] at X3 l3 y3 z3 st3 hQ3
  subst l3 y3 z3
  obtain ⟨rfl, N3q, e3⟩ := hQ3
  have N3 := Fr.app N2 N3q
  obtain ⟨fs, hr, hrun, hended, hW, hsame⟩ := X3.leave (v := some (.double (FP.ddiv (FP.l2d j1) (FP.l2d j2)))) (fun h => by rw [Bd.returns] at h; cases h)
  refine ⟨_, _, pre0 _ ?_, hrun, hended, _, _, rfl, ?_, ⟨_, rfl⟩, hW, hsame.mono (by decide) (by decide)⟩
  · show Steps p.tables e below (s₁.setTop (mkF m 0 #[.val (.long j1), .second, .val (.long j2), .second, .unset] [])) _
    refine st1 _ ?_
    show Steps p.tables e below (T1.setTop (mkF m 3 #[.val (.long j1), .second, .val (.long j2), .second, .unset] [(.ref b1)])) _
    refine XS.dup X1.here hx rfl (hb hby d1_3) rfl rfl ?_
    show Steps p.tables e below (T1.setTop (mkF m 4 #[.val (.long j1), .second, .val (.long j2), .second, .unset] [(.ref b1), (.ref b1)])) _
    refine XS.lloadN X1.here hx rfl (hb hby d1_4) rfl ?_
    show Steps p.tables e below (T1.setTop (mkF m 5 #[.val (.long j1), .second, .val (.long j2), .second, .unset] [(.long j1), (.ref b1), (.ref b1)])) _
    refine XS.lloadN X1.here hx rfl (hb hby d1_5) rfl ?_
    show Steps p.tables e below (T1.setTop (mkF m 6 #[.val (.long j1), .second, .val (.long j2), .second, .unset] [(.long j2), (.long j1), (.ref b1), (.ref b1)])) _
    refine XS.dconst0 X1.here hx rfl (hb hby d1_6) rfl ?_
    show Steps p.tables e below (T1.setTop (mkF m 7 #[.val (.long j1), .second, .val (.long j2), .second, .unset] [(.double FP.dconst0), (.long j2), (.long j1), (.ref b1), (.ref b1)])) _
    refine XS.dconst1 X1.here hx rfl (hb hby d1_7) rfl ?_
    show Steps p.tables e below (T1.setTop (mkF m 8 #[.val (.long j1), .second, .val (.long j2), .second, .unset] [(.double FP.dconst1), (.double FP.dconst0), (.long j2), (.long j1), (.ref b1), (.ref b1)])) _
    refine XS.dconst0 X1.here hx rfl (hb hby d1_8) rfl ?_
    show Steps p.tables e below (T1.setTop (mkF m 9 #[.val (.long j1), .second, .val (.long j2), .second, .unset] [(.double FP.dconst0), (.double FP.dconst1), (.double FP.dconst0), (.long j2), (.long j1), (.ref b1), (.ref b1)])) _
    refine XS.lconst X1.here hx rfl (hb hby d1_9) ?_
    show Steps p.tables e below (T1.setTop (mkF m 10 #[.val (.long j1), .second, .val (.long j2), .second, .unset] [(.long (0 : Int64)), (.double FP.dconst0), (.double FP.dconst1), (.double FP.dconst0), (.long j2), (.long j1), (.ref b1), (.ref b1)])) _
    refine XS.aconstNull X1.here hx rfl (hb hby d1_10) ?_
    show Steps p.tables e below (T1.setTop (mkF m 11 #[.val (.long j1), .second, .val (.long j2), .second, .unset] [.null, (.long (0 : Int64)), (.double FP.dconst0), (.double FP.dconst1), (.double FP.dconst0), (.long j2), (.long j1), (.ref b1), (.ref b1)])) _
    refine st2.trans ?_
    show Steps p.tables e below (T2.setTop (mkF m 14 #[.val (.long j1), .second, .val (.long j2), .second, .unset] [(.ref b1)])) _
    refine XS.astore X2.here hx rfl (hb hby d1_14) rfl rfl (l' := #[.val (.long j1), .second, .val (.long j2), .second, .val (.ref b1)]) rfl ?_
    show Steps p.tables e below (T2.setTop (mkF m 16 #[.val (.long j1), .second, .val (.long j2), .second, .val (.ref b1)] [])) _
    refine XS.aload X2.here hx rfl (hb hby d1_16) rfl rfl ?_
    show Steps p.tables e below (T2.setTop (mkF m 18 #[.val (.long j1), .second, .val (.long j2), .second, .val (.ref b1)] [(.ref b1)])) _
    refine st3.trans ?_
    show Steps p.tables e below (T3.setTop (mkF m 21 #[.val (.long j1), .second, .val (.long j2), .second, .val (.ref b1)] [(.double (FP.ddiv (FP.l2d j1) (FP.l2d j2)))])) _
    exact retOut X3 hx Bd.returns rfl (Or.inr (Or.inr (Or.inl ⟨rfl, rfl, _, rfl⟩))) (hb hby d1_21) hr
  · show Q1 j1 j2 h0 n0 _ T3.heap _
    exact ⟨rfl, N3, by rw [e3]; exact Z2⟩
def Q0 (n0 : Nat) (v : Option Value) (h : Heap) (L : List Loc) : Prop := v = some (.int 1) ∧ Fr n0 L
theorem ef_0 (m : MethodId) (q1 q2 q3 : Int64) (i1 i2 : Int32) : entryFrame m #[(.long q1), (.long q2), (.long q3), (.int i1), (.int i2)] maxLocals = mkF m 0 #[.val (.long q1), .second, .val (.long q2), .second, .val (.long q3), .second, .val (.int i1), .val (.int i2), .unset, .unset, .unset, .unset, .unset, .unset, .unset, .unset, .unset, .unset, .unset, .unset, .unset, .unset, .unset, .unset, .unset, .unset, .unset, .unset, .unset, .unset, .unset, .unset, .unset, .unset, .unset, .unset] [] := by first | (simp [entryFrame, mkF, argsToLocals, Value.category, maxLocals]; done) | rfl
set_option maxRecDepth 65536 in
set_option maxHeartbeats 40000000 in
theorem rm0 (l : Launch) (Z : State) (a0 : Array Value) (hw : ∀ d ∈ tables_1, d.before a0 Z = true) (ws : List Jvm.Cond) (q1 q2 q3 : Int64) (i1 i2 : Int32) (rq bl b2 sc pw b3 sb sr : Int64) (p1 p2 p3 p4 p5 : UInt64) (h0 : Heap) (n0 : Nat) (Z0 : n0 ≤ h0.size) (hrq : (1 : Int64) + (q1 &&& (1099511627775 : Int64)) = rq) (hbl : (q2 &&& (1099511627775 : Int64)) - (q2 &&& (1099511627775 : Int64)) / (rq + (1 : Int64)) * (rq + (1 : Int64)) = bl) (hb2 : (q3 &&& (1099511627775 : Int64)) - (q3 &&& (1099511627775 : Int64)) / (rq + (1 : Int64)) * (rq + (1 : Int64)) = b2) (hsc : (1 : Int64) + (i1 &&& (4095 : Int32)).toInt64 = sc) (hpw : (1 : Int64) <<< ((i2 &&& (31 : Int32)) &&& 0x3f).toInt64 = pw) (hb3 : (q2 &&& (1099511627775 : Int64)) - (q2 &&& (1099511627775 : Int64)) / (pw + (1 : Int64)) * (pw + (1 : Int64)) = b3) (hsb : sc * bl = sb) (hsr : sc * rq = sr) (hp1 : FP.ddiv (FP.l2d bl) (FP.l2d rq) = p1) (hp2 : FP.ddiv (FP.l2d b2) (FP.l2d rq) = p2) (hp3 : FP.ddiv (FP.l2d sb) (FP.l2d sr) = p3) (hp4 : FP.ddiv (FP.l2d b3) (FP.l2d pw) = p4) (hp5 : FP.dmul (FP.l2d b3) (FP.ddiv FP.dconst1 (FP.l2d pw)) = p5) (nrq : rq + (1 : Int64) ≠ 0) (npw : pw + (1 : Int64) ≠ 0) (n1 : Jvm.Free.Fl.NoNaN64 p1) (n2 : Jvm.Free.Fl.NoNaN64 p2) (n3 : Jvm.Free.Fl.NoNaN64 p3) (n4 : Jvm.Free.Fl.NoNaN64 p4) (n5 : Jvm.Free.Fl.NoNaN64 p5) (n6 : Jvm.Free.Fl.NoNaN64 (FP.ddiv FP.dconst1 (FP.l2d pw))) (r0 : ¬ 0 < cmpValue (FP.dcmp FP.dconst0 p1) .g) (r1 : ¬ 0 < cmpValue (FP.dcmp p1 FP.dconst1) .g) (zz : cmpValue (FP.dcmp p1 FP.dconst0) .l = 0 ↔ lcmpW bl (0 : Int64) = 0) (oo : cmpValue (FP.dcmp p1 FP.dconst1) .l = 0 ↔ lcmpW bl rq = 0) (m1 : lcmpW bl b2 < 0 → cmpValue (FP.dcmp p1 p2) .g < 0) (m2 : 0 < lcmpW bl b2 → 0 < cmpValue (FP.dcmp p1 p2) .l) (m3 : ¬ lcmpW bl b2 < 0 → ¬ 0 < lcmpW bl b2 → cmpValue (FP.dcmp p1 p2) .l = 0) (ss : cmpValue (FP.dcmp p3 p1) .l = 0) (dd : cmpValue (FP.dcmp p4 p5) .l = 0) :
    MetFree l x (head1 (Jvm.Cond.code x code maxLocals ret :: ws) room_1) (fun a U => a = #[(.long q1), (.long q2), (.long q3), (.int i1), (.int i2)] ∧ Z.Warmed39 U.vm ∧ U.heap = h0) (fun _ _ _ _ _ => True) (fun _ U o U' => ∃ v L, o = .returned v ∧ Q0 n0 v U'.heap L ∧ FrameEnd U o U' L room_1.cells room_1.slots) := by
  refine MetFree.of_bodySF (plainFor_of_name pn_0) hisR ?_
  intro p e s m args below meth c s₁ Bd hml0 hP hK
  obtain ⟨rfl, hZ, hh⟩ := hP
  have hx := Bd.exec
  have hby := Bd.bytes
  have hml : c.maxLocals = 36 := hml0
  have hown : s.vm.findClass "com/example/polku/polku/simulator/RunResultGetBlockingProbabilityPinLaw" = some m.cls := findClass_of_methodNamed Bd.named
  have hnm := (name_of_methodNamed Bd.named Bd.method).1
  have X0 : Stand p l e room_1 s m #[(.long q1), (.long q2), (.long q3), (.int i1), (.int i2)] below meth c s₁ [] 0 0 := Stand.of_body Bd
  have e0 : s₁.heap = h0 := by rw [← hh, Bd.state]; rfl
  have N0 := Fr.nil n0
  have pre0 : ∀ t, Steps p.tables e below (s₁.setTop (mkF m 0 #[.val (.long q1), .second, .val (.long q2), .second, .val (.long q3), .second, .val (.int i1), .val (.int i2), .unset, .unset, .unset, .unset, .unset, .unset, .unset, .unset, .unset, .unset, .unset, .unset, .unset, .unset, .unset, .unset, .unset, .unset, .unset, .unset, .unset, .unset, .unset, .unset, .unset, .unset, .unset, .unset] [])) t → Steps p.tables e below (s₁.setTop (entryFrame m #[(.long q1), (.long q2), (.long q3), (.int i1), (.int i2)] maxLocals)) t := fun t k => castTop (ef_0 m q1 q2 q3 i1 i2) k
  obtain ⟨_, _, ⟨T1, L1, k1, n1'⟩, -, X1, ⟨Lc1, hQ1, l1, y1, z1⟩, st1⟩ := Jvm.LawKit.callS X0 hx (y := (⟨"com/example/polku/polku/simulator/RunResultGetBlockingProbabilityPinLaw", "prob", "(JJ)D"⟩ : MethodName)) hown (mvT hZ (hw _ (List.mem_of_getElem? (i := 1) rfl))) (mvT hZ (hw _ (List.mem_of_getElem? (i := 2) rfl))) (mvT hZ (hw _ (List.mem_of_getElem? (i := 3) rfl))) (mvT hZ (hw _ (List.mem_of_getElem? (i := 4) rfl))) (by decide) (backOf (W := 0) (rm1 l Z a0 hw [] bl rq h0 n0 Z0 (by rw [hp1]; exact n1)) hZ (hw _ (List.mem_of_getElem? (i := 4) rfl)) (hw _ (List.mem_of_getElem? (i := 3) rfl)) (by decide) (by decide)) (g := (mkF m 71 #[.val (.long q1), .second, .val (.long q2), .second, .val (.long q3), .second, .val (.int i1), .val (.int i2), .val (.long (1099511627775 : Int64)), .second, .val (.long rq), .second, .val (.long bl), .second, .val (.long b2), .second, .val (.long sc), .second, .val (.long pw), .second, .val (.long b3), .second, .unset, .unset, .unset, .unset, .unset, .unset, .unset, .unset, .unset, .unset, .unset, .unset, .unset, .unset] [(.long rq), (.long bl)])) rfl (by rw [hml]; rfl) (argsL := [(.long bl), (.long rq)]) (rest := []) (lenOf pd_1 rfl) rfl (by show 2 * 0 + _ ≤ _; exact Nat.le_of_eq rfl) (hb hby at_71) (fun _ _ => ⟨rfl, e0, (by decide : 0 + 1 ≤ _), (by decide : 0 + 7 ≤ _)⟩)
  dsimp only [Pt.U, Pt.locs, Pt.cells, Pt.slots] at X1 l1 y1 z1 st1 hQ1
  subst l1 y1 z1
  obtain ⟨rfl, N1q, Z1⟩ := hQ1
  rw [hp1] at st1
  have N1 := Fr.app N0 N1q
  obtain ⟨_, _, ⟨T2, L2, k2, n2'⟩, -, X2, ⟨Lc2, hQ2, l2, y2, z2⟩, st2⟩ := Jvm.LawKit.callS X1 hx (y := (⟨"com/example/polku/polku/simulator/RunResultGetBlockingProbabilityPinLaw", "prob", "(JJ)D"⟩ : MethodName)) hown (mvT hZ (hw _ (List.mem_of_getElem? (i := 1) rfl))) (mvT hZ (hw _ (List.mem_of_getElem? (i := 2) rfl))) (mvT hZ (hw _ (List.mem_of_getElem? (i := 3) rfl))) (mvT hZ (hw _ (List.mem_of_getElem? (i := 4) rfl))) (by decide) (backOf (W := 0) (rm1 l Z a0 hw [] b2 rq T1.heap n0 Z1 (by rw [hp2]; exact n2)) hZ (hw _ (List.mem_of_getElem? (i := 4) rfl)) (hw _ (List.mem_of_getElem? (i := 3) rfl)) (by decide) (by decide)) (g := (mkF m 80 #[.val (.long q1), .second, .val (.long q2), .second, .val (.long q3), .second, .val (.int i1), .val (.int i2), .val (.long (1099511627775 : Int64)), .second, .val (.long rq), .second, .val (.long bl), .second, .val (.long b2), .second, .val (.long sc), .second, .val (.long pw), .second, .val (.long b3), .second, .val (.double p1), .second, .unset, .unset, .unset, .unset, .unset, .unset, .unset, .unset, .unset, .unset, .unset, .unset] [(.long rq), (.long b2)])) rfl (by rw [hml]; rfl) (argsL := [(.long b2), (.long rq)]) (rest := []) (lenOf pd_1 rfl) rfl (by show 2 * 0 + _ ≤ _; exact Nat.le_of_eq rfl) (hb hby at_80) (fun _ _ => ⟨rfl, rfl, (by decide : 1 + 1 ≤ _), (by decide : 7 + 7 ≤ _)⟩)
  dsimp only [Pt.U, Pt.locs, Pt.cells, Pt.slots] at X2 l2 y2 z2 st2 hQ2
  subst l2 y2 z2
  obtain ⟨rfl, N2q, Z2⟩ := hQ2
  rw [hp2] at st2
  have N2 := Fr.app N1 N2q
  obtain ⟨_, _, ⟨T3, L3, k3, n3'⟩, -, X3, ⟨Lc3, hQ3, l3, y3, z3⟩, st3⟩ := Jvm.LawKit.callS X2 hx (y := (⟨"com/example/polku/polku/simulator/RunResultGetBlockingProbabilityPinLaw", "prob", "(JJ)D"⟩ : MethodName)) hown (mvT hZ (hw _ (List.mem_of_getElem? (i := 1) rfl))) (mvT hZ (hw _ (List.mem_of_getElem? (i := 2) rfl))) (mvT hZ (hw _ (List.mem_of_getElem? (i := 3) rfl))) (mvT hZ (hw _ (List.mem_of_getElem? (i := 4) rfl))) (by decide) (backOf (W := 0) (rm1 l Z a0 hw [] sb sr T2.heap n0 Z2 (by rw [hp3]; exact n3)) hZ (hw _ (List.mem_of_getElem? (i := 4) rfl)) (hw _ (List.mem_of_getElem? (i := 3) rfl)) (by decide) (by decide)) (g := (mkF m 95 #[.val (.long q1), .second, .val (.long q2), .second, .val (.long q3), .second, .val (.int i1), .val (.int i2), .val (.long (1099511627775 : Int64)), .second, .val (.long rq), .second, .val (.long bl), .second, .val (.long b2), .second, .val (.long sc), .second, .val (.long pw), .second, .val (.long b3), .second, .val (.double p1), .second, .val (.double p2), .second, .unset, .unset, .unset, .unset, .unset, .unset, .unset, .unset, .unset, .unset] [(.long sr), (.long sb)])) rfl (by rw [hml]; rfl) (argsL := [(.long sb), (.long sr)]) (rest := []) (lenOf pd_1 rfl) rfl (by show 2 * 0 + _ ≤ _; exact Nat.le_of_eq rfl) (hb hby at_95) (fun _ _ => ⟨rfl, rfl, (by decide : 2 + 1 ≤ _), (by decide : 14 + 7 ≤ _)⟩)
  dsimp only [Pt.U, Pt.locs, Pt.cells, Pt.slots] at X3 l3 y3 z3 st3 hQ3
  subst l3 y3 z3
  obtain ⟨rfl, N3q, Z3⟩ := hQ3
  rw [hp3] at st3
  have N3 := Fr.app N2 N3q
  obtain ⟨_, _, ⟨T4, L4, k4, n4'⟩, -, X4, ⟨Lc4, hQ4, l4, y4, z4⟩, st4⟩ := Jvm.LawKit.callS X3 hx (y := (⟨"com/example/polku/polku/simulator/RunResultGetBlockingProbabilityPinLaw", "prob", "(JJ)D"⟩ : MethodName)) hown (mvT hZ (hw _ (List.mem_of_getElem? (i := 1) rfl))) (mvT hZ (hw _ (List.mem_of_getElem? (i := 2) rfl))) (mvT hZ (hw _ (List.mem_of_getElem? (i := 3) rfl))) (mvT hZ (hw _ (List.mem_of_getElem? (i := 4) rfl))) (by decide) (backOf (W := 0) (rm1 l Z a0 hw [] b3 pw T3.heap n0 Z3 (by rw [hp4]; exact n4)) hZ (hw _ (List.mem_of_getElem? (i := 4) rfl)) (hw _ (List.mem_of_getElem? (i := 3) rfl)) (by decide) (by decide)) (g := (mkF m 104 #[.val (.long q1), .second, .val (.long q2), .second, .val (.long q3), .second, .val (.int i1), .val (.int i2), .val (.long (1099511627775 : Int64)), .second, .val (.long rq), .second, .val (.long bl), .second, .val (.long b2), .second, .val (.long sc), .second, .val (.long pw), .second, .val (.long b3), .second, .val (.double p1), .second, .val (.double p2), .second, .val (.double p3), .second, .unset, .unset, .unset, .unset, .unset, .unset, .unset, .unset] [(.long pw), (.long b3)])) rfl (by rw [hml]; rfl) (argsL := [(.long b3), (.long pw)]) (rest := []) (lenOf pd_1 rfl) rfl (by show 2 * 0 + _ ≤ _; exact Nat.le_of_eq rfl) (hb hby at_104) (fun _ _ => ⟨rfl, rfl, (by decide : 3 + 1 ≤ _), (by decide : 21 + 7 ≤ _)⟩)
  dsimp only [Pt.U, Pt.locs, Pt.cells, Pt.slots] at X4 l4 y4 z4 st4 hQ4
  subst l4 y4 z4
  obtain ⟨rfl, N4q, Z4⟩ := hQ4
  rw [hp4] at st4
  have N4 := Fr.app N3 N4q
  obtain ⟨fs, hr, hrun, hended, hW, hsame⟩ := X4.leave (v := some (.int (1 : Int32))) (fun h => by rw [Bd.returns] at h; cases h)
  have k269 : Steps p.tables e below (T4.setTop (mkF m 269 #[.val (.long q1), .second, .val (.long q2), .second, .val (.long q3), .second, .val (.int i1), .val (.int i2), .val (.long (1099511627775 : Int64)), .second, .val (.long rq), .second, .val (.long bl), .second, .val (.long b2), .second, .val (.long sc), .second, .val (.long pw), .second, .val (.long b3), .second, .val (.double p1), .second, .val (.double p2), .second, .val (.double p3), .second, .val (.double p4), .second, .val (.int (1 : Int32)), .val (.int (1 : Int32)), .val (.int (1 : Int32)), .val (.int (1 : Int32)), .unset, .unset] [])) (T4.setFrames fs) := by
    show Steps p.tables e below (T4.setTop (mkF m 269 #[.val (.long q1), .second, .val (.long q2), .second, .val (.long q3), .second, .val (.int i1), .val (.int i2), .val (.long (1099511627775 : Int64)), .second, .val (.long rq), .second, .val (.long bl), .second, .val (.long b2), .second, .val (.long sc), .second, .val (.long pw), .second, .val (.long b3), .second, .val (.double p1), .second, .val (.double p2), .second, .val (.double p3), .second, .val (.double p4), .second, .val (.int (1 : Int32)), .val (.int (1 : Int32)), .val (.int (1 : Int32)), .val (.int (1 : Int32)), .unset, .unset] [])) _
    refine XS.dload X4.here hx rfl (hb hby at_269) rfl ?_
    show Steps p.tables e below (T4.setTop (mkF m 271 #[.val (.long q1), .second, .val (.long q2), .second, .val (.long q3), .second, .val (.int i1), .val (.int i2), .val (.long (1099511627775 : Int64)), .second, .val (.long rq), .second, .val (.long bl), .second, .val (.long b2), .second, .val (.long sc), .second, .val (.long pw), .second, .val (.long b3), .second, .val (.double p1), .second, .val (.double p2), .second, .val (.double p3), .second, .val (.double p4), .second, .val (.int (1 : Int32)), .val (.int (1 : Int32)), .val (.int (1 : Int32)), .val (.int (1 : Int32)), .unset, .unset] [(.double p3)])) _
    refine XS.dload X4.here hx rfl (hb hby at_271) rfl ?_
    show Steps p.tables e below (T4.setTop (mkF m 273 #[.val (.long q1), .second, .val (.long q2), .second, .val (.long q3), .second, .val (.int i1), .val (.int i2), .val (.long (1099511627775 : Int64)), .second, .val (.long rq), .second, .val (.long bl), .second, .val (.long b2), .second, .val (.long sc), .second, .val (.long pw), .second, .val (.long b3), .second, .val (.double p1), .second, .val (.double p2), .second, .val (.double p3), .second, .val (.double p4), .second, .val (.int (1 : Int32)), .val (.int (1 : Int32)), .val (.int (1 : Int32)), .val (.int (1 : Int32)), .unset, .unset] [(.double p1), (.double p3)])) _
    refine XS.dcmpS X4.here hx rfl (hb hby at_273) rfl rfl ?_
    show Steps p.tables e below (T4.setTop (mkF m 274 #[.val (.long q1), .second, .val (.long q2), .second, .val (.long q3), .second, .val (.int i1), .val (.int i2), .val (.long (1099511627775 : Int64)), .second, .val (.long rq), .second, .val (.long bl), .second, .val (.long b2), .second, .val (.long sc), .second, .val (.long pw), .second, .val (.long b3), .second, .val (.double p1), .second, .val (.double p2), .second, .val (.double p3), .second, .val (.double p4), .second, .val (.int (1 : Int32)), .val (.int (1 : Int32)), .val (.int (1 : Int32)), .val (.int (1 : Int32)), .unset, .unset] [(.int (cmpValue (FP.dcmp p3 p1) .l))])) _
    refine XS.ifNo X4.here hx rfl (hb hby at_274) rfl ((if0 _ _).trans (teq ss).2) ?_
    show Steps p.tables e below (T4.setTop (mkF m 277 #[.val (.long q1), .second, .val (.long q2), .second, .val (.long q3), .second, .val (.int i1), .val (.int i2), .val (.long (1099511627775 : Int64)), .second, .val (.long rq), .second, .val (.long bl), .second, .val (.long b2), .second, .val (.long sc), .second, .val (.long pw), .second, .val (.long b3), .second, .val (.double p1), .second, .val (.double p2), .second, .val (.double p3), .second, .val (.double p4), .second, .val (.int (1 : Int32)), .val (.int (1 : Int32)), .val (.int (1 : Int32)), .val (.int (1 : Int32)), .unset, .unset] [])) _
    refine XS.iconst X4.here hx rfl (hb hby at_277) ?_
    show Steps p.tables e below (T4.setTop (mkF m 278 #[.val (.long q1), .second, .val (.long q2), .second, .val (.long q3), .second, .val (.int i1), .val (.int i2), .val (.long (1099511627775 : Int64)), .second, .val (.long rq), .second, .val (.long bl), .second, .val (.long b2), .second, .val (.long sc), .second, .val (.long pw), .second, .val (.long b3), .second, .val (.double p1), .second, .val (.double p2), .second, .val (.double p3), .second, .val (.double p4), .second, .val (.int (1 : Int32)), .val (.int (1 : Int32)), .val (.int (1 : Int32)), .val (.int (1 : Int32)), .unset, .unset] [(.int (1 : Int32))])) _
    refine XS.goto X4.here hx rfl (pc0 := 278) (pc' := 282) rfl (hb hby at_278) (by decide) (by decide) ?_
    show Steps p.tables e below (T4.setTop (mkF m 282 #[.val (.long q1), .second, .val (.long q2), .second, .val (.long q3), .second, .val (.int i1), .val (.int i2), .val (.long (1099511627775 : Int64)), .second, .val (.long rq), .second, .val (.long bl), .second, .val (.long b2), .second, .val (.long sc), .second, .val (.long pw), .second, .val (.long b3), .second, .val (.double p1), .second, .val (.double p2), .second, .val (.double p3), .second, .val (.double p4), .second, .val (.int (1 : Int32)), .val (.int (1 : Int32)), .val (.int (1 : Int32)), .val (.int (1 : Int32)), .unset, .unset] [(.int (1 : Int32))])) _
    refine XS.istore X4.here hx rfl (hb hby at_282) rfl (l' := #[.val (.long q1), .second, .val (.long q2), .second, .val (.long q3), .second, .val (.int i1), .val (.int i2), .val (.long (1099511627775 : Int64)), .second, .val (.long rq), .second, .val (.long bl), .second, .val (.long b2), .second, .val (.long sc), .second, .val (.long pw), .second, .val (.long b3), .second, .val (.double p1), .second, .val (.double p2), .second, .val (.double p3), .second, .val (.double p4), .second, .val (.int (1 : Int32)), .val (.int (1 : Int32)), .val (.int (1 : Int32)), .val (.int (1 : Int32)), .val (.int (1 : Int32)), .unset]) rfl ?_
    show Steps p.tables e below (T4.setTop (mkF m 284 #[.val (.long q1), .second, .val (.long q2), .second, .val (.long q3), .second, .val (.int i1), .val (.int i2), .val (.long (1099511627775 : Int64)), .second, .val (.long rq), .second, .val (.long bl), .second, .val (.long b2), .second, .val (.long sc), .second, .val (.long pw), .second, .val (.long b3), .second, .val (.double p1), .second, .val (.double p2), .second, .val (.double p3), .second, .val (.double p4), .second, .val (.int (1 : Int32)), .val (.int (1 : Int32)), .val (.int (1 : Int32)), .val (.int (1 : Int32)), .val (.int (1 : Int32)), .unset] [])) _
    refine XS.dload X4.here hx rfl (hb hby at_284) rfl ?_
    show Steps p.tables e below (T4.setTop (mkF m 286 #[.val (.long q1), .second, .val (.long q2), .second, .val (.long q3), .second, .val (.int i1), .val (.int i2), .val (.long (1099511627775 : Int64)), .second, .val (.long rq), .second, .val (.long bl), .second, .val (.long b2), .second, .val (.long sc), .second, .val (.long pw), .second, .val (.long b3), .second, .val (.double p1), .second, .val (.double p2), .second, .val (.double p3), .second, .val (.double p4), .second, .val (.int (1 : Int32)), .val (.int (1 : Int32)), .val (.int (1 : Int32)), .val (.int (1 : Int32)), .val (.int (1 : Int32)), .unset] [(.double p4)])) _
    refine XS.lload X4.here hx rfl (hb hby at_286) rfl ?_
    show Steps p.tables e below (T4.setTop (mkF m 288 #[.val (.long q1), .second, .val (.long q2), .second, .val (.long q3), .second, .val (.int i1), .val (.int i2), .val (.long (1099511627775 : Int64)), .second, .val (.long rq), .second, .val (.long bl), .second, .val (.long b2), .second, .val (.long sc), .second, .val (.long pw), .second, .val (.long b3), .second, .val (.double p1), .second, .val (.double p2), .second, .val (.double p3), .second, .val (.double p4), .second, .val (.int (1 : Int32)), .val (.int (1 : Int32)), .val (.int (1 : Int32)), .val (.int (1 : Int32)), .val (.int (1 : Int32)), .unset] [(.long b3), (.double p4)])) _
    refine XS.l2dS X4.here hx rfl (hb hby at_288) rfl rfl ?_
    show Steps p.tables e below (T4.setTop (mkF m 289 #[.val (.long q1), .second, .val (.long q2), .second, .val (.long q3), .second, .val (.int i1), .val (.int i2), .val (.long (1099511627775 : Int64)), .second, .val (.long rq), .second, .val (.long bl), .second, .val (.long b2), .second, .val (.long sc), .second, .val (.long pw), .second, .val (.long b3), .second, .val (.double p1), .second, .val (.double p2), .second, .val (.double p3), .second, .val (.double p4), .second, .val (.int (1 : Int32)), .val (.int (1 : Int32)), .val (.int (1 : Int32)), .val (.int (1 : Int32)), .val (.int (1 : Int32)), .unset] [(.double (FP.l2d b3)), (.double p4)])) _
    refine XS.dconst1 X4.here hx rfl (hb hby at_289) rfl ?_
    show Steps p.tables e below (T4.setTop (mkF m 290 #[.val (.long q1), .second, .val (.long q2), .second, .val (.long q3), .second, .val (.int i1), .val (.int i2), .val (.long (1099511627775 : Int64)), .second, .val (.long rq), .second, .val (.long bl), .second, .val (.long b2), .second, .val (.long sc), .second, .val (.long pw), .second, .val (.long b3), .second, .val (.double p1), .second, .val (.double p2), .second, .val (.double p3), .second, .val (.double p4), .second, .val (.int (1 : Int32)), .val (.int (1 : Int32)), .val (.int (1 : Int32)), .val (.int (1 : Int32)), .val (.int (1 : Int32)), .unset] [(.double FP.dconst1), (.double (FP.l2d b3)), (.double p4)])) _
    refine XS.lload X4.here hx rfl (hb hby at_290) rfl ?_
    show Steps p.tables e below (T4.setTop (mkF m 292 #[.val (.long q1), .second, .val (.long q2), .second, .val (.long q3), .second, .val (.int i1), .val (.int i2), .val (.long (1099511627775 : Int64)), .second, .val (.long rq), .second, .val (.long bl), .second, .val (.long b2), .second, .val (.long sc), .second, .val (.long pw), .second, .val (.long b3), .second, .val (.double p1), .second, .val (.double p2), .second, .val (.double p3), .second, .val (.double p4), .second, .val (.int (1 : Int32)), .val (.int (1 : Int32)), .val (.int (1 : Int32)), .val (.int (1 : Int32)), .val (.int (1 : Int32)), .unset] [(.long pw), (.double FP.dconst1), (.double (FP.l2d b3)), (.double p4)])) _
    refine XS.l2dS X4.here hx rfl (hb hby at_292) rfl rfl ?_
    show Steps p.tables e below (T4.setTop (mkF m 293 #[.val (.long q1), .second, .val (.long q2), .second, .val (.long q3), .second, .val (.int i1), .val (.int i2), .val (.long (1099511627775 : Int64)), .second, .val (.long rq), .second, .val (.long bl), .second, .val (.long b2), .second, .val (.long sc), .second, .val (.long pw), .second, .val (.long b3), .second, .val (.double p1), .second, .val (.double p2), .second, .val (.double p3), .second, .val (.double p4), .second, .val (.int (1 : Int32)), .val (.int (1 : Int32)), .val (.int (1 : Int32)), .val (.int (1 : Int32)), .val (.int (1 : Int32)), .unset] [(.double (FP.l2d pw)), (.double FP.dconst1), (.double (FP.l2d b3)), (.double p4)])) _
    refine XS.ddivS X4.here hx rfl (hb hby at_293) rfl n6 rfl ?_
    show Steps p.tables e below (T4.setTop (mkF m 294 #[.val (.long q1), .second, .val (.long q2), .second, .val (.long q3), .second, .val (.int i1), .val (.int i2), .val (.long (1099511627775 : Int64)), .second, .val (.long rq), .second, .val (.long bl), .second, .val (.long b2), .second, .val (.long sc), .second, .val (.long pw), .second, .val (.long b3), .second, .val (.double p1), .second, .val (.double p2), .second, .val (.double p3), .second, .val (.double p4), .second, .val (.int (1 : Int32)), .val (.int (1 : Int32)), .val (.int (1 : Int32)), .val (.int (1 : Int32)), .val (.int (1 : Int32)), .unset] [(.double (FP.ddiv FP.dconst1 (FP.l2d pw))), (.double (FP.l2d b3)), (.double p4)])) _
    refine XS.dmulS X4.here hx rfl (hb hby at_294) rfl (by rw [hp5]; exact n5) rfl ?_
    show Steps p.tables e below (T4.setTop (mkF m 295 #[.val (.long q1), .second, .val (.long q2), .second, .val (.long q3), .second, .val (.int i1), .val (.int i2), .val (.long (1099511627775 : Int64)), .second, .val (.long rq), .second, .val (.long bl), .second, .val (.long b2), .second, .val (.long sc), .second, .val (.long pw), .second, .val (.long b3), .second, .val (.double p1), .second, .val (.double p2), .second, .val (.double p3), .second, .val (.double p4), .second, .val (.int (1 : Int32)), .val (.int (1 : Int32)), .val (.int (1 : Int32)), .val (.int (1 : Int32)), .val (.int (1 : Int32)), .unset] [(.double (FP.dmul (FP.l2d b3) (FP.ddiv FP.dconst1 (FP.l2d pw)))), (.double p4)])) _
    rw [hp5]
    show Steps p.tables e below (T4.setTop (mkF m 295 #[.val (.long q1), .second, .val (.long q2), .second, .val (.long q3), .second, .val (.int i1), .val (.int i2), .val (.long (1099511627775 : Int64)), .second, .val (.long rq), .second, .val (.long bl), .second, .val (.long b2), .second, .val (.long sc), .second, .val (.long pw), .second, .val (.long b3), .second, .val (.double p1), .second, .val (.double p2), .second, .val (.double p3), .second, .val (.double p4), .second, .val (.int (1 : Int32)), .val (.int (1 : Int32)), .val (.int (1 : Int32)), .val (.int (1 : Int32)), .val (.int (1 : Int32)), .unset] [(.double p5), (.double p4)])) _
    refine XS.dcmpS X4.here hx rfl (hb hby at_295) rfl rfl ?_
    show Steps p.tables e below (T4.setTop (mkF m 296 #[.val (.long q1), .second, .val (.long q2), .second, .val (.long q3), .second, .val (.int i1), .val (.int i2), .val (.long (1099511627775 : Int64)), .second, .val (.long rq), .second, .val (.long bl), .second, .val (.long b2), .second, .val (.long sc), .second, .val (.long pw), .second, .val (.long b3), .second, .val (.double p1), .second, .val (.double p2), .second, .val (.double p3), .second, .val (.double p4), .second, .val (.int (1 : Int32)), .val (.int (1 : Int32)), .val (.int (1 : Int32)), .val (.int (1 : Int32)), .val (.int (1 : Int32)), .unset] [(.int (cmpValue (FP.dcmp p4 p5) .l))])) _
    refine XS.ifNo X4.here hx rfl (hb hby at_296) rfl ((if0 _ _).trans (teq dd).2) ?_
    show Steps p.tables e below (T4.setTop (mkF m 299 #[.val (.long q1), .second, .val (.long q2), .second, .val (.long q3), .second, .val (.int i1), .val (.int i2), .val (.long (1099511627775 : Int64)), .second, .val (.long rq), .second, .val (.long bl), .second, .val (.long b2), .second, .val (.long sc), .second, .val (.long pw), .second, .val (.long b3), .second, .val (.double p1), .second, .val (.double p2), .second, .val (.double p3), .second, .val (.double p4), .second, .val (.int (1 : Int32)), .val (.int (1 : Int32)), .val (.int (1 : Int32)), .val (.int (1 : Int32)), .val (.int (1 : Int32)), .unset] [])) _
    refine XS.iconst X4.here hx rfl (hb hby at_299) ?_
    show Steps p.tables e below (T4.setTop (mkF m 300 #[.val (.long q1), .second, .val (.long q2), .second, .val (.long q3), .second, .val (.int i1), .val (.int i2), .val (.long (1099511627775 : Int64)), .second, .val (.long rq), .second, .val (.long bl), .second, .val (.long b2), .second, .val (.long sc), .second, .val (.long pw), .second, .val (.long b3), .second, .val (.double p1), .second, .val (.double p2), .second, .val (.double p3), .second, .val (.double p4), .second, .val (.int (1 : Int32)), .val (.int (1 : Int32)), .val (.int (1 : Int32)), .val (.int (1 : Int32)), .val (.int (1 : Int32)), .unset] [(.int (1 : Int32))])) _
    refine XS.goto X4.here hx rfl (pc0 := 300) (pc' := 304) rfl (hb hby at_300) (by decide) (by decide) ?_
    show Steps p.tables e below (T4.setTop (mkF m 304 #[.val (.long q1), .second, .val (.long q2), .second, .val (.long q3), .second, .val (.int i1), .val (.int i2), .val (.long (1099511627775 : Int64)), .second, .val (.long rq), .second, .val (.long bl), .second, .val (.long b2), .second, .val (.long sc), .second, .val (.long pw), .second, .val (.long b3), .second, .val (.double p1), .second, .val (.double p2), .second, .val (.double p3), .second, .val (.double p4), .second, .val (.int (1 : Int32)), .val (.int (1 : Int32)), .val (.int (1 : Int32)), .val (.int (1 : Int32)), .val (.int (1 : Int32)), .unset] [(.int (1 : Int32))])) _
    refine XS.istore X4.here hx rfl (hb hby at_304) rfl (l' := #[.val (.long q1), .second, .val (.long q2), .second, .val (.long q3), .second, .val (.int i1), .val (.int i2), .val (.long (1099511627775 : Int64)), .second, .val (.long rq), .second, .val (.long bl), .second, .val (.long b2), .second, .val (.long sc), .second, .val (.long pw), .second, .val (.long b3), .second, .val (.double p1), .second, .val (.double p2), .second, .val (.double p3), .second, .val (.double p4), .second, .val (.int (1 : Int32)), .val (.int (1 : Int32)), .val (.int (1 : Int32)), .val (.int (1 : Int32)), .val (.int (1 : Int32)), .val (.int (1 : Int32))]) rfl ?_
    show Steps p.tables e below (T4.setTop (mkF m 306 #[.val (.long q1), .second, .val (.long q2), .second, .val (.long q3), .second, .val (.int i1), .val (.int i2), .val (.long (1099511627775 : Int64)), .second, .val (.long rq), .second, .val (.long bl), .second, .val (.long b2), .second, .val (.long sc), .second, .val (.long pw), .second, .val (.long b3), .second, .val (.double p1), .second, .val (.double p2), .second, .val (.double p3), .second, .val (.double p4), .second, .val (.int (1 : Int32)), .val (.int (1 : Int32)), .val (.int (1 : Int32)), .val (.int (1 : Int32)), .val (.int (1 : Int32)), .val (.int (1 : Int32))] [])) _
    refine XS.iload X4.here hx rfl (hb hby at_306) rfl ?_
    show Steps p.tables e below (T4.setTop (mkF m 308 #[.val (.long q1), .second, .val (.long q2), .second, .val (.long q3), .second, .val (.int i1), .val (.int i2), .val (.long (1099511627775 : Int64)), .second, .val (.long rq), .second, .val (.long bl), .second, .val (.long b2), .second, .val (.long sc), .second, .val (.long pw), .second, .val (.long b3), .second, .val (.double p1), .second, .val (.double p2), .second, .val (.double p3), .second, .val (.double p4), .second, .val (.int (1 : Int32)), .val (.int (1 : Int32)), .val (.int (1 : Int32)), .val (.int (1 : Int32)), .val (.int (1 : Int32)), .val (.int (1 : Int32))] [(.int (1 : Int32))])) _
    refine XS.ifNo X4.here hx rfl (hb hby at_308) rfl ((if0 _ _).trans (feq (by decide : ¬ ((1 : Int32) = 0))).1) ?_
    show Steps p.tables e below (T4.setTop (mkF m 311 #[.val (.long q1), .second, .val (.long q2), .second, .val (.long q3), .second, .val (.int i1), .val (.int i2), .val (.long (1099511627775 : Int64)), .second, .val (.long rq), .second, .val (.long bl), .second, .val (.long b2), .second, .val (.long sc), .second, .val (.long pw), .second, .val (.long b3), .second, .val (.double p1), .second, .val (.double p2), .second, .val (.double p3), .second, .val (.double p4), .second, .val (.int (1 : Int32)), .val (.int (1 : Int32)), .val (.int (1 : Int32)), .val (.int (1 : Int32)), .val (.int (1 : Int32)), .val (.int (1 : Int32))] [])) _
    refine XS.iload X4.here hx rfl (hb hby at_311) rfl ?_
    show Steps p.tables e below (T4.setTop (mkF m 313 #[.val (.long q1), .second, .val (.long q2), .second, .val (.long q3), .second, .val (.int i1), .val (.int i2), .val (.long (1099511627775 : Int64)), .second, .val (.long rq), .second, .val (.long bl), .second, .val (.long b2), .second, .val (.long sc), .second, .val (.long pw), .second, .val (.long b3), .second, .val (.double p1), .second, .val (.double p2), .second, .val (.double p3), .second, .val (.double p4), .second, .val (.int (1 : Int32)), .val (.int (1 : Int32)), .val (.int (1 : Int32)), .val (.int (1 : Int32)), .val (.int (1 : Int32)), .val (.int (1 : Int32))] [(.int (1 : Int32))])) _
    refine XS.ifNo X4.here hx rfl (hb hby at_313) rfl ((if0 _ _).trans (feq (by decide : ¬ ((1 : Int32) = 0))).1) ?_
    show Steps p.tables e below (T4.setTop (mkF m 316 #[.val (.long q1), .second, .val (.long q2), .second, .val (.long q3), .second, .val (.int i1), .val (.int i2), .val (.long (1099511627775 : Int64)), .second, .val (.long rq), .second, .val (.long bl), .second, .val (.long b2), .second, .val (.long sc), .second, .val (.long pw), .second, .val (.long b3), .second, .val (.double p1), .second, .val (.double p2), .second, .val (.double p3), .second, .val (.double p4), .second, .val (.int (1 : Int32)), .val (.int (1 : Int32)), .val (.int (1 : Int32)), .val (.int (1 : Int32)), .val (.int (1 : Int32)), .val (.int (1 : Int32))] [])) _
    refine XS.iload X4.here hx rfl (hb hby at_316) rfl ?_
    show Steps p.tables e below (T4.setTop (mkF m 318 #[.val (.long q1), .second, .val (.long q2), .second, .val (.long q3), .second, .val (.int i1), .val (.int i2), .val (.long (1099511627775 : Int64)), .second, .val (.long rq), .second, .val (.long bl), .second, .val (.long b2), .second, .val (.long sc), .second, .val (.long pw), .second, .val (.long b3), .second, .val (.double p1), .second, .val (.double p2), .second, .val (.double p3), .second, .val (.double p4), .second, .val (.int (1 : Int32)), .val (.int (1 : Int32)), .val (.int (1 : Int32)), .val (.int (1 : Int32)), .val (.int (1 : Int32)), .val (.int (1 : Int32))] [(.int (1 : Int32))])) _
    refine XS.ifNo X4.here hx rfl (hb hby at_318) rfl ((if0 _ _).trans (feq (by decide : ¬ ((1 : Int32) = 0))).1) ?_
    show Steps p.tables e below (T4.setTop (mkF m 321 #[.val (.long q1), .second, .val (.long q2), .second, .val (.long q3), .second, .val (.int i1), .val (.int i2), .val (.long (1099511627775 : Int64)), .second, .val (.long rq), .second, .val (.long bl), .second, .val (.long b2), .second, .val (.long sc), .second, .val (.long pw), .second, .val (.long b3), .second, .val (.double p1), .second, .val (.double p2), .second, .val (.double p3), .second, .val (.double p4), .second, .val (.int (1 : Int32)), .val (.int (1 : Int32)), .val (.int (1 : Int32)), .val (.int (1 : Int32)), .val (.int (1 : Int32)), .val (.int (1 : Int32))] [])) _
    refine XS.iload X4.here hx rfl (hb hby at_321) rfl ?_
    show Steps p.tables e below (T4.setTop (mkF m 323 #[.val (.long q1), .second, .val (.long q2), .second, .val (.long q3), .second, .val (.int i1), .val (.int i2), .val (.long (1099511627775 : Int64)), .second, .val (.long rq), .second, .val (.long bl), .second, .val (.long b2), .second, .val (.long sc), .second, .val (.long pw), .second, .val (.long b3), .second, .val (.double p1), .second, .val (.double p2), .second, .val (.double p3), .second, .val (.double p4), .second, .val (.int (1 : Int32)), .val (.int (1 : Int32)), .val (.int (1 : Int32)), .val (.int (1 : Int32)), .val (.int (1 : Int32)), .val (.int (1 : Int32))] [(.int (1 : Int32))])) _
    refine XS.ifNo X4.here hx rfl (hb hby at_323) rfl ((if0 _ _).trans (feq (by decide : ¬ ((1 : Int32) = 0))).1) ?_
    show Steps p.tables e below (T4.setTop (mkF m 326 #[.val (.long q1), .second, .val (.long q2), .second, .val (.long q3), .second, .val (.int i1), .val (.int i2), .val (.long (1099511627775 : Int64)), .second, .val (.long rq), .second, .val (.long bl), .second, .val (.long b2), .second, .val (.long sc), .second, .val (.long pw), .second, .val (.long b3), .second, .val (.double p1), .second, .val (.double p2), .second, .val (.double p3), .second, .val (.double p4), .second, .val (.int (1 : Int32)), .val (.int (1 : Int32)), .val (.int (1 : Int32)), .val (.int (1 : Int32)), .val (.int (1 : Int32)), .val (.int (1 : Int32))] [])) _
    refine XS.iload X4.here hx rfl (hb hby at_326) rfl ?_
    show Steps p.tables e below (T4.setTop (mkF m 328 #[.val (.long q1), .second, .val (.long q2), .second, .val (.long q3), .second, .val (.int i1), .val (.int i2), .val (.long (1099511627775 : Int64)), .second, .val (.long rq), .second, .val (.long bl), .second, .val (.long b2), .second, .val (.long sc), .second, .val (.long pw), .second, .val (.long b3), .second, .val (.double p1), .second, .val (.double p2), .second, .val (.double p3), .second, .val (.double p4), .second, .val (.int (1 : Int32)), .val (.int (1 : Int32)), .val (.int (1 : Int32)), .val (.int (1 : Int32)), .val (.int (1 : Int32)), .val (.int (1 : Int32))] [(.int (1 : Int32))])) _
    refine XS.ifNo X4.here hx rfl (hb hby at_328) rfl ((if0 _ _).trans (feq (by decide : ¬ ((1 : Int32) = 0))).1) ?_
    show Steps p.tables e below (T4.setTop (mkF m 331 #[.val (.long q1), .second, .val (.long q2), .second, .val (.long q3), .second, .val (.int i1), .val (.int i2), .val (.long (1099511627775 : Int64)), .second, .val (.long rq), .second, .val (.long bl), .second, .val (.long b2), .second, .val (.long sc), .second, .val (.long pw), .second, .val (.long b3), .second, .val (.double p1), .second, .val (.double p2), .second, .val (.double p3), .second, .val (.double p4), .second, .val (.int (1 : Int32)), .val (.int (1 : Int32)), .val (.int (1 : Int32)), .val (.int (1 : Int32)), .val (.int (1 : Int32)), .val (.int (1 : Int32))] [])) _
    refine XS.iload X4.here hx rfl (hb hby at_331) rfl ?_
    show Steps p.tables e below (T4.setTop (mkF m 333 #[.val (.long q1), .second, .val (.long q2), .second, .val (.long q3), .second, .val (.int i1), .val (.int i2), .val (.long (1099511627775 : Int64)), .second, .val (.long rq), .second, .val (.long bl), .second, .val (.long b2), .second, .val (.long sc), .second, .val (.long pw), .second, .val (.long b3), .second, .val (.double p1), .second, .val (.double p2), .second, .val (.double p3), .second, .val (.double p4), .second, .val (.int (1 : Int32)), .val (.int (1 : Int32)), .val (.int (1 : Int32)), .val (.int (1 : Int32)), .val (.int (1 : Int32)), .val (.int (1 : Int32))] [(.int (1 : Int32))])) _
    refine XS.ifNo X4.here hx rfl (hb hby at_333) rfl ((if0 _ _).trans (feq (by decide : ¬ ((1 : Int32) = 0))).1) ?_
    show Steps p.tables e below (T4.setTop (mkF m 336 #[.val (.long q1), .second, .val (.long q2), .second, .val (.long q3), .second, .val (.int i1), .val (.int i2), .val (.long (1099511627775 : Int64)), .second, .val (.long rq), .second, .val (.long bl), .second, .val (.long b2), .second, .val (.long sc), .second, .val (.long pw), .second, .val (.long b3), .second, .val (.double p1), .second, .val (.double p2), .second, .val (.double p3), .second, .val (.double p4), .second, .val (.int (1 : Int32)), .val (.int (1 : Int32)), .val (.int (1 : Int32)), .val (.int (1 : Int32)), .val (.int (1 : Int32)), .val (.int (1 : Int32))] [])) _
    refine XS.iconst X4.here hx rfl (hb hby at_336) ?_
    show Steps p.tables e below (T4.setTop (mkF m 337 #[.val (.long q1), .second, .val (.long q2), .second, .val (.long q3), .second, .val (.int i1), .val (.int i2), .val (.long (1099511627775 : Int64)), .second, .val (.long rq), .second, .val (.long bl), .second, .val (.long b2), .second, .val (.long sc), .second, .val (.long pw), .second, .val (.long b3), .second, .val (.double p1), .second, .val (.double p2), .second, .val (.double p3), .second, .val (.double p4), .second, .val (.int (1 : Int32)), .val (.int (1 : Int32)), .val (.int (1 : Int32)), .val (.int (1 : Int32)), .val (.int (1 : Int32)), .val (.int (1 : Int32))] [(.int (1 : Int32))])) _
    refine XS.goto X4.here hx rfl (pc0 := 337) (pc' := 341) rfl (hb hby at_337) (by decide) (by decide) ?_
    show Steps p.tables e below (T4.setTop (mkF m 341 #[.val (.long q1), .second, .val (.long q2), .second, .val (.long q3), .second, .val (.int i1), .val (.int i2), .val (.long (1099511627775 : Int64)), .second, .val (.long rq), .second, .val (.long bl), .second, .val (.long b2), .second, .val (.long sc), .second, .val (.long pw), .second, .val (.long b3), .second, .val (.double p1), .second, .val (.double p2), .second, .val (.double p3), .second, .val (.double p4), .second, .val (.int (1 : Int32)), .val (.int (1 : Int32)), .val (.int (1 : Int32)), .val (.int (1 : Int32)), .val (.int (1 : Int32)), .val (.int (1 : Int32))] [(.int (1 : Int32))])) _
    exact retN X4 hx (t := .boolean) Bd.returns (by simp) (hb hby at_341) hr
  have k202 : Steps p.tables e below (T4.setTop (mkF m 202 #[.val (.long q1), .second, .val (.long q2), .second, .val (.long q3), .second, .val (.int i1), .val (.int i2), .val (.long (1099511627775 : Int64)), .second, .val (.long rq), .second, .val (.long bl), .second, .val (.long b2), .second, .val (.long sc), .second, .val (.long pw), .second, .val (.long b3), .second, .val (.double p1), .second, .val (.double p2), .second, .val (.double p3), .second, .val (.double p4), .second, .val (.int (1 : Int32)), .val (.int (1 : Int32)), .val (.int (1 : Int32)), .val (.int (1 : Int32)), .unset, .unset] [])) (T4.setFrames fs) := by
    by_cases c1 : lcmpW bl b2 < 0
    · show Steps p.tables e below (T4.setTop (mkF m 202 #[.val (.long q1), .second, .val (.long q2), .second, .val (.long q3), .second, .val (.int i1), .val (.int i2), .val (.long (1099511627775 : Int64)), .second, .val (.long rq), .second, .val (.long bl), .second, .val (.long b2), .second, .val (.long sc), .second, .val (.long pw), .second, .val (.long b3), .second, .val (.double p1), .second, .val (.double p2), .second, .val (.double p3), .second, .val (.double p4), .second, .val (.int (1 : Int32)), .val (.int (1 : Int32)), .val (.int (1 : Int32)), .val (.int (1 : Int32)), .unset, .unset] [])) _
      refine XS.lload X4.here hx rfl (hb hby at_202) rfl ?_
      show Steps p.tables e below (T4.setTop (mkF m 204 #[.val (.long q1), .second, .val (.long q2), .second, .val (.long q3), .second, .val (.int i1), .val (.int i2), .val (.long (1099511627775 : Int64)), .second, .val (.long rq), .second, .val (.long bl), .second, .val (.long b2), .second, .val (.long sc), .second, .val (.long pw), .second, .val (.long b3), .second, .val (.double p1), .second, .val (.double p2), .second, .val (.double p3), .second, .val (.double p4), .second, .val (.int (1 : Int32)), .val (.int (1 : Int32)), .val (.int (1 : Int32)), .val (.int (1 : Int32)), .unset, .unset] [(.long bl)])) _
      refine XS.lload X4.here hx rfl (hb hby at_204) rfl ?_
      show Steps p.tables e below (T4.setTop (mkF m 206 #[.val (.long q1), .second, .val (.long q2), .second, .val (.long q3), .second, .val (.int i1), .val (.int i2), .val (.long (1099511627775 : Int64)), .second, .val (.long rq), .second, .val (.long bl), .second, .val (.long b2), .second, .val (.long sc), .second, .val (.long pw), .second, .val (.long b3), .second, .val (.double p1), .second, .val (.double p2), .second, .val (.double p3), .second, .val (.double p4), .second, .val (.int (1 : Int32)), .val (.int (1 : Int32)), .val (.int (1 : Int32)), .val (.int (1 : Int32)), .unset, .unset] [(.long b2), (.long bl)])) _
      refine XS.lcmp X4.here hx rfl (hb hby at_206) rfl ?_
      show Steps p.tables e below (T4.setTop (mkF m 207 #[.val (.long q1), .second, .val (.long q2), .second, .val (.long q3), .second, .val (.int i1), .val (.int i2), .val (.long (1099511627775 : Int64)), .second, .val (.long rq), .second, .val (.long bl), .second, .val (.long b2), .second, .val (.long sc), .second, .val (.long pw), .second, .val (.long b3), .second, .val (.double p1), .second, .val (.double p2), .second, .val (.double p3), .second, .val (.double p4), .second, .val (.int (1 : Int32)), .val (.int (1 : Int32)), .val (.int (1 : Int32)), .val (.int (1 : Int32)), .unset, .unset] [(.int (lcmpW bl b2))])) _
      refine XS.ifNo X4.here hx rfl (hb hby at_207) rfl ((if0 _ _).trans (tlt c1).2.1) ?_
      show Steps p.tables e below (T4.setTop (mkF m 210 #[.val (.long q1), .second, .val (.long q2), .second, .val (.long q3), .second, .val (.int i1), .val (.int i2), .val (.long (1099511627775 : Int64)), .second, .val (.long rq), .second, .val (.long bl), .second, .val (.long b2), .second, .val (.long sc), .second, .val (.long pw), .second, .val (.long b3), .second, .val (.double p1), .second, .val (.double p2), .second, .val (.double p3), .second, .val (.double p4), .second, .val (.int (1 : Int32)), .val (.int (1 : Int32)), .val (.int (1 : Int32)), .val (.int (1 : Int32)), .unset, .unset] [])) _
      refine XS.dload X4.here hx rfl (hb hby at_210) rfl ?_
      show Steps p.tables e below (T4.setTop (mkF m 212 #[.val (.long q1), .second, .val (.long q2), .second, .val (.long q3), .second, .val (.int i1), .val (.int i2), .val (.long (1099511627775 : Int64)), .second, .val (.long rq), .second, .val (.long bl), .second, .val (.long b2), .second, .val (.long sc), .second, .val (.long pw), .second, .val (.long b3), .second, .val (.double p1), .second, .val (.double p2), .second, .val (.double p3), .second, .val (.double p4), .second, .val (.int (1 : Int32)), .val (.int (1 : Int32)), .val (.int (1 : Int32)), .val (.int (1 : Int32)), .unset, .unset] [(.double p1)])) _
      refine XS.dload X4.here hx rfl (hb hby at_212) rfl ?_
      show Steps p.tables e below (T4.setTop (mkF m 214 #[.val (.long q1), .second, .val (.long q2), .second, .val (.long q3), .second, .val (.int i1), .val (.int i2), .val (.long (1099511627775 : Int64)), .second, .val (.long rq), .second, .val (.long bl), .second, .val (.long b2), .second, .val (.long sc), .second, .val (.long pw), .second, .val (.long b3), .second, .val (.double p1), .second, .val (.double p2), .second, .val (.double p3), .second, .val (.double p4), .second, .val (.int (1 : Int32)), .val (.int (1 : Int32)), .val (.int (1 : Int32)), .val (.int (1 : Int32)), .unset, .unset] [(.double p2), (.double p1)])) _
      refine XS.dcmpS X4.here hx rfl (hb hby at_214) rfl rfl ?_
      show Steps p.tables e below (T4.setTop (mkF m 215 #[.val (.long q1), .second, .val (.long q2), .second, .val (.long q3), .second, .val (.int i1), .val (.int i2), .val (.long (1099511627775 : Int64)), .second, .val (.long rq), .second, .val (.long bl), .second, .val (.long b2), .second, .val (.long sc), .second, .val (.long pw), .second, .val (.long b3), .second, .val (.double p1), .second, .val (.double p2), .second, .val (.double p3), .second, .val (.double p4), .second, .val (.int (1 : Int32)), .val (.int (1 : Int32)), .val (.int (1 : Int32)), .val (.int (1 : Int32)), .unset, .unset] [(.int (cmpValue (FP.dcmp p1 p2) .g))])) _
      refine XS.ifNo X4.here hx rfl (hb hby at_215) rfl ((if0 _ _).trans (tlt (m1 c1)).2.1) ?_
      show Steps p.tables e below (T4.setTop (mkF m 218 #[.val (.long q1), .second, .val (.long q2), .second, .val (.long q3), .second, .val (.int i1), .val (.int i2), .val (.long (1099511627775 : Int64)), .second, .val (.long rq), .second, .val (.long bl), .second, .val (.long b2), .second, .val (.long sc), .second, .val (.long pw), .second, .val (.long b3), .second, .val (.double p1), .second, .val (.double p2), .second, .val (.double p3), .second, .val (.double p4), .second, .val (.int (1 : Int32)), .val (.int (1 : Int32)), .val (.int (1 : Int32)), .val (.int (1 : Int32)), .unset, .unset] [])) _
      refine XS.iconst X4.here hx rfl (hb hby at_218) ?_
      show Steps p.tables e below (T4.setTop (mkF m 219 #[.val (.long q1), .second, .val (.long q2), .second, .val (.long q3), .second, .val (.int i1), .val (.int i2), .val (.long (1099511627775 : Int64)), .second, .val (.long rq), .second, .val (.long bl), .second, .val (.long b2), .second, .val (.long sc), .second, .val (.long pw), .second, .val (.long b3), .second, .val (.double p1), .second, .val (.double p2), .second, .val (.double p3), .second, .val (.double p4), .second, .val (.int (1 : Int32)), .val (.int (1 : Int32)), .val (.int (1 : Int32)), .val (.int (1 : Int32)), .unset, .unset] [(.int (1 : Int32))])) _
      refine XS.goto X4.here hx rfl (pc0 := 219) (pc' := 223) rfl (hb hby at_219) (by decide) (by decide) ?_
      show Steps p.tables e below (T4.setTop (mkF m 223 #[.val (.long q1), .second, .val (.long q2), .second, .val (.long q3), .second, .val (.int i1), .val (.int i2), .val (.long (1099511627775 : Int64)), .second, .val (.long rq), .second, .val (.long bl), .second, .val (.long b2), .second, .val (.long sc), .second, .val (.long pw), .second, .val (.long b3), .second, .val (.double p1), .second, .val (.double p2), .second, .val (.double p3), .second, .val (.double p4), .second, .val (.int (1 : Int32)), .val (.int (1 : Int32)), .val (.int (1 : Int32)), .val (.int (1 : Int32)), .unset, .unset] [(.int (1 : Int32))])) _
      refine XS.istore X4.here hx rfl (hb hby at_223) rfl (l' := #[.val (.long q1), .second, .val (.long q2), .second, .val (.long q3), .second, .val (.int i1), .val (.int i2), .val (.long (1099511627775 : Int64)), .second, .val (.long rq), .second, .val (.long bl), .second, .val (.long b2), .second, .val (.long sc), .second, .val (.long pw), .second, .val (.long b3), .second, .val (.double p1), .second, .val (.double p2), .second, .val (.double p3), .second, .val (.double p4), .second, .val (.int (1 : Int32)), .val (.int (1 : Int32)), .val (.int (1 : Int32)), .val (.int (1 : Int32)), .unset, .unset]) rfl ?_
      show Steps p.tables e below (T4.setTop (mkF m 225 #[.val (.long q1), .second, .val (.long q2), .second, .val (.long q3), .second, .val (.int i1), .val (.int i2), .val (.long (1099511627775 : Int64)), .second, .val (.long rq), .second, .val (.long bl), .second, .val (.long b2), .second, .val (.long sc), .second, .val (.long pw), .second, .val (.long b3), .second, .val (.double p1), .second, .val (.double p2), .second, .val (.double p3), .second, .val (.double p4), .second, .val (.int (1 : Int32)), .val (.int (1 : Int32)), .val (.int (1 : Int32)), .val (.int (1 : Int32)), .unset, .unset] [])) _
      refine XS.goto X4.here hx rfl (pc0 := 225) (pc' := 269) rfl (hb hby at_225) (by decide) (by decide) ?_
      show Steps p.tables e below (T4.setTop (mkF m 269 #[.val (.long q1), .second, .val (.long q2), .second, .val (.long q3), .second, .val (.int i1), .val (.int i2), .val (.long (1099511627775 : Int64)), .second, .val (.long rq), .second, .val (.long bl), .second, .val (.long b2), .second, .val (.long sc), .second, .val (.long pw), .second, .val (.long b3), .second, .val (.double p1), .second, .val (.double p2), .second, .val (.double p3), .second, .val (.double p4), .second, .val (.int (1 : Int32)), .val (.int (1 : Int32)), .val (.int (1 : Int32)), .val (.int (1 : Int32)), .unset, .unset] [])) _
      exact k269
    · by_cases c2 : 0 < lcmpW bl b2
      · show Steps p.tables e below (T4.setTop (mkF m 202 #[.val (.long q1), .second, .val (.long q2), .second, .val (.long q3), .second, .val (.int i1), .val (.int i2), .val (.long (1099511627775 : Int64)), .second, .val (.long rq), .second, .val (.long bl), .second, .val (.long b2), .second, .val (.long sc), .second, .val (.long pw), .second, .val (.long b3), .second, .val (.double p1), .second, .val (.double p2), .second, .val (.double p3), .second, .val (.double p4), .second, .val (.int (1 : Int32)), .val (.int (1 : Int32)), .val (.int (1 : Int32)), .val (.int (1 : Int32)), .unset, .unset] [])) _
        refine XS.lload X4.here hx rfl (hb hby at_202) rfl ?_
        show Steps p.tables e below (T4.setTop (mkF m 204 #[.val (.long q1), .second, .val (.long q2), .second, .val (.long q3), .second, .val (.int i1), .val (.int i2), .val (.long (1099511627775 : Int64)), .second, .val (.long rq), .second, .val (.long bl), .second, .val (.long b2), .second, .val (.long sc), .second, .val (.long pw), .second, .val (.long b3), .second, .val (.double p1), .second, .val (.double p2), .second, .val (.double p3), .second, .val (.double p4), .second, .val (.int (1 : Int32)), .val (.int (1 : Int32)), .val (.int (1 : Int32)), .val (.int (1 : Int32)), .unset, .unset] [(.long bl)])) _
        refine XS.lload X4.here hx rfl (hb hby at_204) rfl ?_
        show Steps p.tables e below (T4.setTop (mkF m 206 #[.val (.long q1), .second, .val (.long q2), .second, .val (.long q3), .second, .val (.int i1), .val (.int i2), .val (.long (1099511627775 : Int64)), .second, .val (.long rq), .second, .val (.long bl), .second, .val (.long b2), .second, .val (.long sc), .second, .val (.long pw), .second, .val (.long b3), .second, .val (.double p1), .second, .val (.double p2), .second, .val (.double p3), .second, .val (.double p4), .second, .val (.int (1 : Int32)), .val (.int (1 : Int32)), .val (.int (1 : Int32)), .val (.int (1 : Int32)), .unset, .unset] [(.long b2), (.long bl)])) _
        refine XS.lcmp X4.here hx rfl (hb hby at_206) rfl ?_
        show Steps p.tables e below (T4.setTop (mkF m 207 #[.val (.long q1), .second, .val (.long q2), .second, .val (.long q3), .second, .val (.int i1), .val (.int i2), .val (.long (1099511627775 : Int64)), .second, .val (.long rq), .second, .val (.long bl), .second, .val (.long b2), .second, .val (.long sc), .second, .val (.long pw), .second, .val (.long b3), .second, .val (.double p1), .second, .val (.double p2), .second, .val (.double p3), .second, .val (.double p4), .second, .val (.int (1 : Int32)), .val (.int (1 : Int32)), .val (.int (1 : Int32)), .val (.int (1 : Int32)), .unset, .unset] [(.int (lcmpW bl b2))])) _
        refine XS.ifYes X4.here hx rfl (pc0 := 207) (pc' := 228) rfl (hb hby at_207) rfl ((if0 _ _).trans (flt c1).2.1) (by decide) (by decide) ?_
        show Steps p.tables e below (T4.setTop (mkF m 228 #[.val (.long q1), .second, .val (.long q2), .second, .val (.long q3), .second, .val (.int i1), .val (.int i2), .val (.long (1099511627775 : Int64)), .second, .val (.long rq), .second, .val (.long bl), .second, .val (.long b2), .second, .val (.long sc), .second, .val (.long pw), .second, .val (.long b3), .second, .val (.double p1), .second, .val (.double p2), .second, .val (.double p3), .second, .val (.double p4), .second, .val (.int (1 : Int32)), .val (.int (1 : Int32)), .val (.int (1 : Int32)), .val (.int (1 : Int32)), .unset, .unset] [])) _
        refine XS.lload X4.here hx rfl (hb hby at_228) rfl ?_
        show Steps p.tables e below (T4.setTop (mkF m 230 #[.val (.long q1), .second, .val (.long q2), .second, .val (.long q3), .second, .val (.int i1), .val (.int i2), .val (.long (1099511627775 : Int64)), .second, .val (.long rq), .second, .val (.long bl), .second, .val (.long b2), .second, .val (.long sc), .second, .val (.long pw), .second, .val (.long b3), .second, .val (.double p1), .second, .val (.double p2), .second, .val (.double p3), .second, .val (.double p4), .second, .val (.int (1 : Int32)), .val (.int (1 : Int32)), .val (.int (1 : Int32)), .val (.int (1 : Int32)), .unset, .unset] [(.long bl)])) _
        refine XS.lload X4.here hx rfl (hb hby at_230) rfl ?_
        show Steps p.tables e below (T4.setTop (mkF m 232 #[.val (.long q1), .second, .val (.long q2), .second, .val (.long q3), .second, .val (.int i1), .val (.int i2), .val (.long (1099511627775 : Int64)), .second, .val (.long rq), .second, .val (.long bl), .second, .val (.long b2), .second, .val (.long sc), .second, .val (.long pw), .second, .val (.long b3), .second, .val (.double p1), .second, .val (.double p2), .second, .val (.double p3), .second, .val (.double p4), .second, .val (.int (1 : Int32)), .val (.int (1 : Int32)), .val (.int (1 : Int32)), .val (.int (1 : Int32)), .unset, .unset] [(.long b2), (.long bl)])) _
        refine XS.lcmp X4.here hx rfl (hb hby at_232) rfl ?_
        show Steps p.tables e below (T4.setTop (mkF m 233 #[.val (.long q1), .second, .val (.long q2), .second, .val (.long q3), .second, .val (.int i1), .val (.int i2), .val (.long (1099511627775 : Int64)), .second, .val (.long rq), .second, .val (.long bl), .second, .val (.long b2), .second, .val (.long sc), .second, .val (.long pw), .second, .val (.long b3), .second, .val (.double p1), .second, .val (.double p2), .second, .val (.double p3), .second, .val (.double p4), .second, .val (.int (1 : Int32)), .val (.int (1 : Int32)), .val (.int (1 : Int32)), .val (.int (1 : Int32)), .unset, .unset] [(.int (lcmpW bl b2))])) _
        refine XS.ifNo X4.here hx rfl (hb hby at_233) rfl ((if0 _ _).trans (tlt c2).2.2.2) ?_
        show Steps p.tables e below (T4.setTop (mkF m 236 #[.val (.long q1), .second, .val (.long q2), .second, .val (.long q3), .second, .val (.int i1), .val (.int i2), .val (.long (1099511627775 : Int64)), .second, .val (.long rq), .second, .val (.long bl), .second, .val (.long b2), .second, .val (.long sc), .second, .val (.long pw), .second, .val (.long b3), .second, .val (.double p1), .second, .val (.double p2), .second, .val (.double p3), .second, .val (.double p4), .second, .val (.int (1 : Int32)), .val (.int (1 : Int32)), .val (.int (1 : Int32)), .val (.int (1 : Int32)), .unset, .unset] [])) _
        refine XS.dload X4.here hx rfl (hb hby at_236) rfl ?_
        show Steps p.tables e below (T4.setTop (mkF m 238 #[.val (.long q1), .second, .val (.long q2), .second, .val (.long q3), .second, .val (.int i1), .val (.int i2), .val (.long (1099511627775 : Int64)), .second, .val (.long rq), .second, .val (.long bl), .second, .val (.long b2), .second, .val (.long sc), .second, .val (.long pw), .second, .val (.long b3), .second, .val (.double p1), .second, .val (.double p2), .second, .val (.double p3), .second, .val (.double p4), .second, .val (.int (1 : Int32)), .val (.int (1 : Int32)), .val (.int (1 : Int32)), .val (.int (1 : Int32)), .unset, .unset] [(.double p1)])) _
        refine XS.dload X4.here hx rfl (hb hby at_238) rfl ?_
        show Steps p.tables e below (T4.setTop (mkF m 240 #[.val (.long q1), .second, .val (.long q2), .second, .val (.long q3), .second, .val (.int i1), .val (.int i2), .val (.long (1099511627775 : Int64)), .second, .val (.long rq), .second, .val (.long bl), .second, .val (.long b2), .second, .val (.long sc), .second, .val (.long pw), .second, .val (.long b3), .second, .val (.double p1), .second, .val (.double p2), .second, .val (.double p3), .second, .val (.double p4), .second, .val (.int (1 : Int32)), .val (.int (1 : Int32)), .val (.int (1 : Int32)), .val (.int (1 : Int32)), .unset, .unset] [(.double p2), (.double p1)])) _
        refine XS.dcmpS X4.here hx rfl (hb hby at_240) rfl rfl ?_
        show Steps p.tables e below (T4.setTop (mkF m 241 #[.val (.long q1), .second, .val (.long q2), .second, .val (.long q3), .second, .val (.int i1), .val (.int i2), .val (.long (1099511627775 : Int64)), .second, .val (.long rq), .second, .val (.long bl), .second, .val (.long b2), .second, .val (.long sc), .second, .val (.long pw), .second, .val (.long b3), .second, .val (.double p1), .second, .val (.double p2), .second, .val (.double p3), .second, .val (.double p4), .second, .val (.int (1 : Int32)), .val (.int (1 : Int32)), .val (.int (1 : Int32)), .val (.int (1 : Int32)), .unset, .unset] [(.int (cmpValue (FP.dcmp p1 p2) .l))])) _
        refine XS.ifNo X4.here hx rfl (hb hby at_241) rfl ((if0 _ _).trans (tlt (m2 c2)).2.2.2) ?_
        show Steps p.tables e below (T4.setTop (mkF m 244 #[.val (.long q1), .second, .val (.long q2), .second, .val (.long q3), .second, .val (.int i1), .val (.int i2), .val (.long (1099511627775 : Int64)), .second, .val (.long rq), .second, .val (.long bl), .second, .val (.long b2), .second, .val (.long sc), .second, .val (.long pw), .second, .val (.long b3), .second, .val (.double p1), .second, .val (.double p2), .second, .val (.double p3), .second, .val (.double p4), .second, .val (.int (1 : Int32)), .val (.int (1 : Int32)), .val (.int (1 : Int32)), .val (.int (1 : Int32)), .unset, .unset] [])) _
        refine XS.iconst X4.here hx rfl (hb hby at_244) ?_
        show Steps p.tables e below (T4.setTop (mkF m 245 #[.val (.long q1), .second, .val (.long q2), .second, .val (.long q3), .second, .val (.int i1), .val (.int i2), .val (.long (1099511627775 : Int64)), .second, .val (.long rq), .second, .val (.long bl), .second, .val (.long b2), .second, .val (.long sc), .second, .val (.long pw), .second, .val (.long b3), .second, .val (.double p1), .second, .val (.double p2), .second, .val (.double p3), .second, .val (.double p4), .second, .val (.int (1 : Int32)), .val (.int (1 : Int32)), .val (.int (1 : Int32)), .val (.int (1 : Int32)), .unset, .unset] [(.int (1 : Int32))])) _
        refine XS.goto X4.here hx rfl (pc0 := 245) (pc' := 249) rfl (hb hby at_245) (by decide) (by decide) ?_
        show Steps p.tables e below (T4.setTop (mkF m 249 #[.val (.long q1), .second, .val (.long q2), .second, .val (.long q3), .second, .val (.int i1), .val (.int i2), .val (.long (1099511627775 : Int64)), .second, .val (.long rq), .second, .val (.long bl), .second, .val (.long b2), .second, .val (.long sc), .second, .val (.long pw), .second, .val (.long b3), .second, .val (.double p1), .second, .val (.double p2), .second, .val (.double p3), .second, .val (.double p4), .second, .val (.int (1 : Int32)), .val (.int (1 : Int32)), .val (.int (1 : Int32)), .val (.int (1 : Int32)), .unset, .unset] [(.int (1 : Int32))])) _
        refine XS.istore X4.here hx rfl (hb hby at_249) rfl (l' := #[.val (.long q1), .second, .val (.long q2), .second, .val (.long q3), .second, .val (.int i1), .val (.int i2), .val (.long (1099511627775 : Int64)), .second, .val (.long rq), .second, .val (.long bl), .second, .val (.long b2), .second, .val (.long sc), .second, .val (.long pw), .second, .val (.long b3), .second, .val (.double p1), .second, .val (.double p2), .second, .val (.double p3), .second, .val (.double p4), .second, .val (.int (1 : Int32)), .val (.int (1 : Int32)), .val (.int (1 : Int32)), .val (.int (1 : Int32)), .unset, .unset]) rfl ?_
        show Steps p.tables e below (T4.setTop (mkF m 251 #[.val (.long q1), .second, .val (.long q2), .second, .val (.long q3), .second, .val (.int i1), .val (.int i2), .val (.long (1099511627775 : Int64)), .second, .val (.long rq), .second, .val (.long bl), .second, .val (.long b2), .second, .val (.long sc), .second, .val (.long pw), .second, .val (.long b3), .second, .val (.double p1), .second, .val (.double p2), .second, .val (.double p3), .second, .val (.double p4), .second, .val (.int (1 : Int32)), .val (.int (1 : Int32)), .val (.int (1 : Int32)), .val (.int (1 : Int32)), .unset, .unset] [])) _
        refine XS.goto X4.here hx rfl (pc0 := 251) (pc' := 269) rfl (hb hby at_251) (by decide) (by decide) ?_
        show Steps p.tables e below (T4.setTop (mkF m 269 #[.val (.long q1), .second, .val (.long q2), .second, .val (.long q3), .second, .val (.int i1), .val (.int i2), .val (.long (1099511627775 : Int64)), .second, .val (.long rq), .second, .val (.long bl), .second, .val (.long b2), .second, .val (.long sc), .second, .val (.long pw), .second, .val (.long b3), .second, .val (.double p1), .second, .val (.double p2), .second, .val (.double p3), .second, .val (.double p4), .second, .val (.int (1 : Int32)), .val (.int (1 : Int32)), .val (.int (1 : Int32)), .val (.int (1 : Int32)), .unset, .unset] [])) _
        exact k269
      · show Steps p.tables e below (T4.setTop (mkF m 202 #[.val (.long q1), .second, .val (.long q2), .second, .val (.long q3), .second, .val (.int i1), .val (.int i2), .val (.long (1099511627775 : Int64)), .second, .val (.long rq), .second, .val (.long bl), .second, .val (.long b2), .second, .val (.long sc), .second, .val (.long pw), .second, .val (.long b3), .second, .val (.double p1), .second, .val (.double p2), .second, .val (.double p3), .second, .val (.double p4), .second, .val (.int (1 : Int32)), .val (.int (1 : Int32)), .val (.int (1 : Int32)), .val (.int (1 : Int32)), .unset, .unset] [])) _
        refine XS.lload X4.here hx rfl (hb hby at_202) rfl ?_
        show Steps p.tables e below (T4.setTop (mkF m 204 #[.val (.long q1), .second, .val (.long q2), .second, .val (.long q3), .second, .val (.int i1), .val (.int i2), .val (.long (1099511627775 : Int64)), .second, .val (.long rq), .second, .val (.long bl), .second, .val (.long b2), .second, .val (.long sc), .second, .val (.long pw), .second, .val (.long b3), .second, .val (.double p1), .second, .val (.double p2), .second, .val (.double p3), .second, .val (.double p4), .second, .val (.int (1 : Int32)), .val (.int (1 : Int32)), .val (.int (1 : Int32)), .val (.int (1 : Int32)), .unset, .unset] [(.long bl)])) _
        refine XS.lload X4.here hx rfl (hb hby at_204) rfl ?_
        show Steps p.tables e below (T4.setTop (mkF m 206 #[.val (.long q1), .second, .val (.long q2), .second, .val (.long q3), .second, .val (.int i1), .val (.int i2), .val (.long (1099511627775 : Int64)), .second, .val (.long rq), .second, .val (.long bl), .second, .val (.long b2), .second, .val (.long sc), .second, .val (.long pw), .second, .val (.long b3), .second, .val (.double p1), .second, .val (.double p2), .second, .val (.double p3), .second, .val (.double p4), .second, .val (.int (1 : Int32)), .val (.int (1 : Int32)), .val (.int (1 : Int32)), .val (.int (1 : Int32)), .unset, .unset] [(.long b2), (.long bl)])) _
        refine XS.lcmp X4.here hx rfl (hb hby at_206) rfl ?_
        show Steps p.tables e below (T4.setTop (mkF m 207 #[.val (.long q1), .second, .val (.long q2), .second, .val (.long q3), .second, .val (.int i1), .val (.int i2), .val (.long (1099511627775 : Int64)), .second, .val (.long rq), .second, .val (.long bl), .second, .val (.long b2), .second, .val (.long sc), .second, .val (.long pw), .second, .val (.long b3), .second, .val (.double p1), .second, .val (.double p2), .second, .val (.double p3), .second, .val (.double p4), .second, .val (.int (1 : Int32)), .val (.int (1 : Int32)), .val (.int (1 : Int32)), .val (.int (1 : Int32)), .unset, .unset] [(.int (lcmpW bl b2))])) _
        refine XS.ifYes X4.here hx rfl (pc0 := 207) (pc' := 228) rfl (hb hby at_207) rfl ((if0 _ _).trans (flt c1).2.1) (by decide) (by decide) ?_
        show Steps p.tables e below (T4.setTop (mkF m 228 #[.val (.long q1), .second, .val (.long q2), .second, .val (.long q3), .second, .val (.int i1), .val (.int i2), .val (.long (1099511627775 : Int64)), .second, .val (.long rq), .second, .val (.long bl), .second, .val (.long b2), .second, .val (.long sc), .second, .val (.long pw), .second, .val (.long b3), .second, .val (.double p1), .second, .val (.double p2), .second, .val (.double p3), .second, .val (.double p4), .second, .val (.int (1 : Int32)), .val (.int (1 : Int32)), .val (.int (1 : Int32)), .val (.int (1 : Int32)), .unset, .unset] [])) _
        refine XS.lload X4.here hx rfl (hb hby at_228) rfl ?_
        show Steps p.tables e below (T4.setTop (mkF m 230 #[.val (.long q1), .second, .val (.long q2), .second, .val (.long q3), .second, .val (.int i1), .val (.int i2), .val (.long (1099511627775 : Int64)), .second, .val (.long rq), .second, .val (.long bl), .second, .val (.long b2), .second, .val (.long sc), .second, .val (.long pw), .second, .val (.long b3), .second, .val (.double p1), .second, .val (.double p2), .second, .val (.double p3), .second, .val (.double p4), .second, .val (.int (1 : Int32)), .val (.int (1 : Int32)), .val (.int (1 : Int32)), .val (.int (1 : Int32)), .unset, .unset] [(.long bl)])) _
        refine XS.lload X4.here hx rfl (hb hby at_230) rfl ?_
        show Steps p.tables e below (T4.setTop (mkF m 232 #[.val (.long q1), .second, .val (.long q2), .second, .val (.long q3), .second, .val (.int i1), .val (.int i2), .val (.long (1099511627775 : Int64)), .second, .val (.long rq), .second, .val (.long bl), .second, .val (.long b2), .second, .val (.long sc), .second, .val (.long pw), .second, .val (.long b3), .second, .val (.double p1), .second, .val (.double p2), .second, .val (.double p3), .second, .val (.double p4), .second, .val (.int (1 : Int32)), .val (.int (1 : Int32)), .val (.int (1 : Int32)), .val (.int (1 : Int32)), .unset, .unset] [(.long b2), (.long bl)])) _
        refine XS.lcmp X4.here hx rfl (hb hby at_232) rfl ?_
        show Steps p.tables e below (T4.setTop (mkF m 233 #[.val (.long q1), .second, .val (.long q2), .second, .val (.long q3), .second, .val (.int i1), .val (.int i2), .val (.long (1099511627775 : Int64)), .second, .val (.long rq), .second, .val (.long bl), .second, .val (.long b2), .second, .val (.long sc), .second, .val (.long pw), .second, .val (.long b3), .second, .val (.double p1), .second, .val (.double p2), .second, .val (.double p3), .second, .val (.double p4), .second, .val (.int (1 : Int32)), .val (.int (1 : Int32)), .val (.int (1 : Int32)), .val (.int (1 : Int32)), .unset, .unset] [(.int (lcmpW bl b2))])) _
        refine XS.ifYes X4.here hx rfl (pc0 := 233) (pc' := 254) rfl (hb hby at_233) rfl ((if0 _ _).trans (flt c2).2.2.2) (by decide) (by decide) ?_
        show Steps p.tables e below (T4.setTop (mkF m 254 #[.val (.long q1), .second, .val (.long q2), .second, .val (.long q3), .second, .val (.int i1), .val (.int i2), .val (.long (1099511627775 : Int64)), .second, .val (.long rq), .second, .val (.long bl), .second, .val (.long b2), .second, .val (.long sc), .second, .val (.long pw), .second, .val (.long b3), .second, .val (.double p1), .second, .val (.double p2), .second, .val (.double p3), .second, .val (.double p4), .second, .val (.int (1 : Int32)), .val (.int (1 : Int32)), .val (.int (1 : Int32)), .val (.int (1 : Int32)), .unset, .unset] [])) _
        refine XS.dload X4.here hx rfl (hb hby at_254) rfl ?_
        show Steps p.tables e below (T4.setTop (mkF m 256 #[.val (.long q1), .second, .val (.long q2), .second, .val (.long q3), .second, .val (.int i1), .val (.int i2), .val (.long (1099511627775 : Int64)), .second, .val (.long rq), .second, .val (.long bl), .second, .val (.long b2), .second, .val (.long sc), .second, .val (.long pw), .second, .val (.long b3), .second, .val (.double p1), .second, .val (.double p2), .second, .val (.double p3), .second, .val (.double p4), .second, .val (.int (1 : Int32)), .val (.int (1 : Int32)), .val (.int (1 : Int32)), .val (.int (1 : Int32)), .unset, .unset] [(.double p1)])) _
        refine XS.dload X4.here hx rfl (hb hby at_256) rfl ?_
        show Steps p.tables e below (T4.setTop (mkF m 258 #[.val (.long q1), .second, .val (.long q2), .second, .val (.long q3), .second, .val (.int i1), .val (.int i2), .val (.long (1099511627775 : Int64)), .second, .val (.long rq), .second, .val (.long bl), .second, .val (.long b2), .second, .val (.long sc), .second, .val (.long pw), .second, .val (.long b3), .second, .val (.double p1), .second, .val (.double p2), .second, .val (.double p3), .second, .val (.double p4), .second, .val (.int (1 : Int32)), .val (.int (1 : Int32)), .val (.int (1 : Int32)), .val (.int (1 : Int32)), .unset, .unset] [(.double p2), (.double p1)])) _
        refine XS.dcmpS X4.here hx rfl (hb hby at_258) rfl rfl ?_
        show Steps p.tables e below (T4.setTop (mkF m 259 #[.val (.long q1), .second, .val (.long q2), .second, .val (.long q3), .second, .val (.int i1), .val (.int i2), .val (.long (1099511627775 : Int64)), .second, .val (.long rq), .second, .val (.long bl), .second, .val (.long b2), .second, .val (.long sc), .second, .val (.long pw), .second, .val (.long b3), .second, .val (.double p1), .second, .val (.double p2), .second, .val (.double p3), .second, .val (.double p4), .second, .val (.int (1 : Int32)), .val (.int (1 : Int32)), .val (.int (1 : Int32)), .val (.int (1 : Int32)), .unset, .unset] [(.int (cmpValue (FP.dcmp p1 p2) .l))])) _
        refine XS.ifNo X4.here hx rfl (hb hby at_259) rfl ((if0 _ _).trans (teq (m3 c1 c2)).2) ?_
        show Steps p.tables e below (T4.setTop (mkF m 262 #[.val (.long q1), .second, .val (.long q2), .second, .val (.long q3), .second, .val (.int i1), .val (.int i2), .val (.long (1099511627775 : Int64)), .second, .val (.long rq), .second, .val (.long bl), .second, .val (.long b2), .second, .val (.long sc), .second, .val (.long pw), .second, .val (.long b3), .second, .val (.double p1), .second, .val (.double p2), .second, .val (.double p3), .second, .val (.double p4), .second, .val (.int (1 : Int32)), .val (.int (1 : Int32)), .val (.int (1 : Int32)), .val (.int (1 : Int32)), .unset, .unset] [])) _
        refine XS.iconst X4.here hx rfl (hb hby at_262) ?_
        show Steps p.tables e below (T4.setTop (mkF m 263 #[.val (.long q1), .second, .val (.long q2), .second, .val (.long q3), .second, .val (.int i1), .val (.int i2), .val (.long (1099511627775 : Int64)), .second, .val (.long rq), .second, .val (.long bl), .second, .val (.long b2), .second, .val (.long sc), .second, .val (.long pw), .second, .val (.long b3), .second, .val (.double p1), .second, .val (.double p2), .second, .val (.double p3), .second, .val (.double p4), .second, .val (.int (1 : Int32)), .val (.int (1 : Int32)), .val (.int (1 : Int32)), .val (.int (1 : Int32)), .unset, .unset] [(.int (1 : Int32))])) _
        refine XS.goto X4.here hx rfl (pc0 := 263) (pc' := 267) rfl (hb hby at_263) (by decide) (by decide) ?_
        show Steps p.tables e below (T4.setTop (mkF m 267 #[.val (.long q1), .second, .val (.long q2), .second, .val (.long q3), .second, .val (.int i1), .val (.int i2), .val (.long (1099511627775 : Int64)), .second, .val (.long rq), .second, .val (.long bl), .second, .val (.long b2), .second, .val (.long sc), .second, .val (.long pw), .second, .val (.long b3), .second, .val (.double p1), .second, .val (.double p2), .second, .val (.double p3), .second, .val (.double p4), .second, .val (.int (1 : Int32)), .val (.int (1 : Int32)), .val (.int (1 : Int32)), .val (.int (1 : Int32)), .unset, .unset] [(.int (1 : Int32))])) _
        refine XS.istore X4.here hx rfl (hb hby at_267) rfl (l' := #[.val (.long q1), .second, .val (.long q2), .second, .val (.long q3), .second, .val (.int i1), .val (.int i2), .val (.long (1099511627775 : Int64)), .second, .val (.long rq), .second, .val (.long bl), .second, .val (.long b2), .second, .val (.long sc), .second, .val (.long pw), .second, .val (.long b3), .second, .val (.double p1), .second, .val (.double p2), .second, .val (.double p3), .second, .val (.double p4), .second, .val (.int (1 : Int32)), .val (.int (1 : Int32)), .val (.int (1 : Int32)), .val (.int (1 : Int32)), .unset, .unset]) rfl ?_
        show Steps p.tables e below (T4.setTop (mkF m 269 #[.val (.long q1), .second, .val (.long q2), .second, .val (.long q3), .second, .val (.int i1), .val (.int i2), .val (.long (1099511627775 : Int64)), .second, .val (.long rq), .second, .val (.long bl), .second, .val (.long b2), .second, .val (.long sc), .second, .val (.long pw), .second, .val (.long b3), .second, .val (.double p1), .second, .val (.double p2), .second, .val (.double p3), .second, .val (.double p4), .second, .val (.int (1 : Int32)), .val (.int (1 : Int32)), .val (.int (1 : Int32)), .val (.int (1 : Int32)), .unset, .unset] [])) _
        exact k269
  have k164 : Steps p.tables e below (T4.setTop (mkF m 164 #[.val (.long q1), .second, .val (.long q2), .second, .val (.long q3), .second, .val (.int i1), .val (.int i2), .val (.long (1099511627775 : Int64)), .second, .val (.long rq), .second, .val (.long bl), .second, .val (.long b2), .second, .val (.long sc), .second, .val (.long pw), .second, .val (.long b3), .second, .val (.double p1), .second, .val (.double p2), .second, .val (.double p3), .second, .val (.double p4), .second, .val (.int (1 : Int32)), .val (.int (1 : Int32)), .unset, .unset, .unset, .unset] [])) (T4.setFrames fs) := by
    by_cases c1 : cmpValue (FP.dcmp p1 FP.dconst1) .l = 0
    · show Steps p.tables e below (T4.setTop (mkF m 164 #[.val (.long q1), .second, .val (.long q2), .second, .val (.long q3), .second, .val (.int i1), .val (.int i2), .val (.long (1099511627775 : Int64)), .second, .val (.long rq), .second, .val (.long bl), .second, .val (.long b2), .second, .val (.long sc), .second, .val (.long pw), .second, .val (.long b3), .second, .val (.double p1), .second, .val (.double p2), .second, .val (.double p3), .second, .val (.double p4), .second, .val (.int (1 : Int32)), .val (.int (1 : Int32)), .unset, .unset, .unset, .unset] [])) _
      refine XS.dload X4.here hx rfl (hb hby at_164) rfl ?_
      show Steps p.tables e below (T4.setTop (mkF m 166 #[.val (.long q1), .second, .val (.long q2), .second, .val (.long q3), .second, .val (.int i1), .val (.int i2), .val (.long (1099511627775 : Int64)), .second, .val (.long rq), .second, .val (.long bl), .second, .val (.long b2), .second, .val (.long sc), .second, .val (.long pw), .second, .val (.long b3), .second, .val (.double p1), .second, .val (.double p2), .second, .val (.double p3), .second, .val (.double p4), .second, .val (.int (1 : Int32)), .val (.int (1 : Int32)), .unset, .unset, .unset, .unset] [(.double p1)])) _
      refine XS.dconst1 X4.here hx rfl (hb hby at_166) rfl ?_
      show Steps p.tables e below (T4.setTop (mkF m 167 #[.val (.long q1), .second, .val (.long q2), .second, .val (.long q3), .second, .val (.int i1), .val (.int i2), .val (.long (1099511627775 : Int64)), .second, .val (.long rq), .second, .val (.long bl), .second, .val (.long b2), .second, .val (.long sc), .second, .val (.long pw), .second, .val (.long b3), .second, .val (.double p1), .second, .val (.double p2), .second, .val (.double p3), .second, .val (.double p4), .second, .val (.int (1 : Int32)), .val (.int (1 : Int32)), .unset, .unset, .unset, .unset] [(.double FP.dconst1), (.double p1)])) _
      refine XS.dcmpS X4.here hx rfl (hb hby at_167) rfl rfl ?_
      show Steps p.tables e below (T4.setTop (mkF m 168 #[.val (.long q1), .second, .val (.long q2), .second, .val (.long q3), .second, .val (.int i1), .val (.int i2), .val (.long (1099511627775 : Int64)), .second, .val (.long rq), .second, .val (.long bl), .second, .val (.long b2), .second, .val (.long sc), .second, .val (.long pw), .second, .val (.long b3), .second, .val (.double p1), .second, .val (.double p2), .second, .val (.double p3), .second, .val (.double p4), .second, .val (.int (1 : Int32)), .val (.int (1 : Int32)), .unset, .unset, .unset, .unset] [(.int (cmpValue (FP.dcmp p1 FP.dconst1) .l))])) _
      refine XS.ifNo X4.here hx rfl (hb hby at_168) rfl ((if0 _ _).trans (teq c1).2) ?_
      show Steps p.tables e below (T4.setTop (mkF m 171 #[.val (.long q1), .second, .val (.long q2), .second, .val (.long q3), .second, .val (.int i1), .val (.int i2), .val (.long (1099511627775 : Int64)), .second, .val (.long rq), .second, .val (.long bl), .second, .val (.long b2), .second, .val (.long sc), .second, .val (.long pw), .second, .val (.long b3), .second, .val (.double p1), .second, .val (.double p2), .second, .val (.double p3), .second, .val (.double p4), .second, .val (.int (1 : Int32)), .val (.int (1 : Int32)), .unset, .unset, .unset, .unset] [])) _
      refine XS.iconst X4.here hx rfl (hb hby at_171) ?_
      show Steps p.tables e below (T4.setTop (mkF m 172 #[.val (.long q1), .second, .val (.long q2), .second, .val (.long q3), .second, .val (.int i1), .val (.int i2), .val (.long (1099511627775 : Int64)), .second, .val (.long rq), .second, .val (.long bl), .second, .val (.long b2), .second, .val (.long sc), .second, .val (.long pw), .second, .val (.long b3), .second, .val (.double p1), .second, .val (.double p2), .second, .val (.double p3), .second, .val (.double p4), .second, .val (.int (1 : Int32)), .val (.int (1 : Int32)), .unset, .unset, .unset, .unset] [(.int (1 : Int32))])) _
      refine XS.goto X4.here hx rfl (pc0 := 172) (pc' := 176) rfl (hb hby at_172) (by decide) (by decide) ?_
      show Steps p.tables e below (T4.setTop (mkF m 176 #[.val (.long q1), .second, .val (.long q2), .second, .val (.long q3), .second, .val (.int i1), .val (.int i2), .val (.long (1099511627775 : Int64)), .second, .val (.long rq), .second, .val (.long bl), .second, .val (.long b2), .second, .val (.long sc), .second, .val (.long pw), .second, .val (.long b3), .second, .val (.double p1), .second, .val (.double p2), .second, .val (.double p3), .second, .val (.double p4), .second, .val (.int (1 : Int32)), .val (.int (1 : Int32)), .unset, .unset, .unset, .unset] [(.int (1 : Int32))])) _
      refine XS.lload X4.here hx rfl (hb hby at_176) rfl ?_
      show Steps p.tables e below (T4.setTop (mkF m 178 #[.val (.long q1), .second, .val (.long q2), .second, .val (.long q3), .second, .val (.int i1), .val (.int i2), .val (.long (1099511627775 : Int64)), .second, .val (.long rq), .second, .val (.long bl), .second, .val (.long b2), .second, .val (.long sc), .second, .val (.long pw), .second, .val (.long b3), .second, .val (.double p1), .second, .val (.double p2), .second, .val (.double p3), .second, .val (.double p4), .second, .val (.int (1 : Int32)), .val (.int (1 : Int32)), .unset, .unset, .unset, .unset] [(.long bl), (.int (1 : Int32))])) _
      refine XS.lload X4.here hx rfl (hb hby at_178) rfl ?_
      show Steps p.tables e below (T4.setTop (mkF m 180 #[.val (.long q1), .second, .val (.long q2), .second, .val (.long q3), .second, .val (.int i1), .val (.int i2), .val (.long (1099511627775 : Int64)), .second, .val (.long rq), .second, .val (.long bl), .second, .val (.long b2), .second, .val (.long sc), .second, .val (.long pw), .second, .val (.long b3), .second, .val (.double p1), .second, .val (.double p2), .second, .val (.double p3), .second, .val (.double p4), .second, .val (.int (1 : Int32)), .val (.int (1 : Int32)), .unset, .unset, .unset, .unset] [(.long rq), (.long bl), (.int (1 : Int32))])) _
      refine XS.lcmp X4.here hx rfl (hb hby at_180) rfl ?_
      show Steps p.tables e below (T4.setTop (mkF m 181 #[.val (.long q1), .second, .val (.long q2), .second, .val (.long q3), .second, .val (.int i1), .val (.int i2), .val (.long (1099511627775 : Int64)), .second, .val (.long rq), .second, .val (.long bl), .second, .val (.long b2), .second, .val (.long sc), .second, .val (.long pw), .second, .val (.long b3), .second, .val (.double p1), .second, .val (.double p2), .second, .val (.double p3), .second, .val (.double p4), .second, .val (.int (1 : Int32)), .val (.int (1 : Int32)), .unset, .unset, .unset, .unset] [(.int (lcmpW bl rq)), (.int (1 : Int32))])) _
      refine XS.ifNo X4.here hx rfl (hb hby at_181) rfl ((if0 _ _).trans (teq (oo.mp c1)).2) ?_
      show Steps p.tables e below (T4.setTop (mkF m 184 #[.val (.long q1), .second, .val (.long q2), .second, .val (.long q3), .second, .val (.int i1), .val (.int i2), .val (.long (1099511627775 : Int64)), .second, .val (.long rq), .second, .val (.long bl), .second, .val (.long b2), .second, .val (.long sc), .second, .val (.long pw), .second, .val (.long b3), .second, .val (.double p1), .second, .val (.double p2), .second, .val (.double p3), .second, .val (.double p4), .second, .val (.int (1 : Int32)), .val (.int (1 : Int32)), .unset, .unset, .unset, .unset] [(.int (1 : Int32))])) _
      refine XS.iconst X4.here hx rfl (hb hby at_184) ?_
      show Steps p.tables e below (T4.setTop (mkF m 185 #[.val (.long q1), .second, .val (.long q2), .second, .val (.long q3), .second, .val (.int i1), .val (.int i2), .val (.long (1099511627775 : Int64)), .second, .val (.long rq), .second, .val (.long bl), .second, .val (.long b2), .second, .val (.long sc), .second, .val (.long pw), .second, .val (.long b3), .second, .val (.double p1), .second, .val (.double p2), .second, .val (.double p3), .second, .val (.double p4), .second, .val (.int (1 : Int32)), .val (.int (1 : Int32)), .unset, .unset, .unset, .unset] [(.int (1 : Int32)), (.int (1 : Int32))])) _
      refine XS.goto X4.here hx rfl (pc0 := 185) (pc' := 189) rfl (hb hby at_185) (by decide) (by decide) ?_
      show Steps p.tables e below (T4.setTop (mkF m 189 #[.val (.long q1), .second, .val (.long q2), .second, .val (.long q3), .second, .val (.int i1), .val (.int i2), .val (.long (1099511627775 : Int64)), .second, .val (.long rq), .second, .val (.long bl), .second, .val (.long b2), .second, .val (.long sc), .second, .val (.long pw), .second, .val (.long b3), .second, .val (.double p1), .second, .val (.double p2), .second, .val (.double p3), .second, .val (.double p4), .second, .val (.int (1 : Int32)), .val (.int (1 : Int32)), .unset, .unset, .unset, .unset] [(.int (1 : Int32)), (.int (1 : Int32))])) _
      refine XS.icmpNo X4.here hx rfl (hb hby at_189) rfl (teq (rfl : (1 : Int32) = 1)).2 ?_
      show Steps p.tables e below (T4.setTop (mkF m 192 #[.val (.long q1), .second, .val (.long q2), .second, .val (.long q3), .second, .val (.int i1), .val (.int i2), .val (.long (1099511627775 : Int64)), .second, .val (.long rq), .second, .val (.long bl), .second, .val (.long b2), .second, .val (.long sc), .second, .val (.long pw), .second, .val (.long b3), .second, .val (.double p1), .second, .val (.double p2), .second, .val (.double p3), .second, .val (.double p4), .second, .val (.int (1 : Int32)), .val (.int (1 : Int32)), .unset, .unset, .unset, .unset] [])) _
      refine XS.iconst X4.here hx rfl (hb hby at_192) ?_
      show Steps p.tables e below (T4.setTop (mkF m 193 #[.val (.long q1), .second, .val (.long q2), .second, .val (.long q3), .second, .val (.int i1), .val (.int i2), .val (.long (1099511627775 : Int64)), .second, .val (.long rq), .second, .val (.long bl), .second, .val (.long b2), .second, .val (.long sc), .second, .val (.long pw), .second, .val (.long b3), .second, .val (.double p1), .second, .val (.double p2), .second, .val (.double p3), .second, .val (.double p4), .second, .val (.int (1 : Int32)), .val (.int (1 : Int32)), .unset, .unset, .unset, .unset] [(.int (1 : Int32))])) _
      refine XS.goto X4.here hx rfl (pc0 := 193) (pc' := 197) rfl (hb hby at_193) (by decide) (by decide) ?_
      show Steps p.tables e below (T4.setTop (mkF m 197 #[.val (.long q1), .second, .val (.long q2), .second, .val (.long q3), .second, .val (.int i1), .val (.int i2), .val (.long (1099511627775 : Int64)), .second, .val (.long rq), .second, .val (.long bl), .second, .val (.long b2), .second, .val (.long sc), .second, .val (.long pw), .second, .val (.long b3), .second, .val (.double p1), .second, .val (.double p2), .second, .val (.double p3), .second, .val (.double p4), .second, .val (.int (1 : Int32)), .val (.int (1 : Int32)), .unset, .unset, .unset, .unset] [(.int (1 : Int32))])) _
      refine XS.istore X4.here hx rfl (hb hby at_197) rfl (l' := #[.val (.long q1), .second, .val (.long q2), .second, .val (.long q3), .second, .val (.int i1), .val (.int i2), .val (.long (1099511627775 : Int64)), .second, .val (.long rq), .second, .val (.long bl), .second, .val (.long b2), .second, .val (.long sc), .second, .val (.long pw), .second, .val (.long b3), .second, .val (.double p1), .second, .val (.double p2), .second, .val (.double p3), .second, .val (.double p4), .second, .val (.int (1 : Int32)), .val (.int (1 : Int32)), .val (.int (1 : Int32)), .unset, .unset, .unset]) rfl ?_
      show Steps p.tables e below (T4.setTop (mkF m 199 #[.val (.long q1), .second, .val (.long q2), .second, .val (.long q3), .second, .val (.int i1), .val (.int i2), .val (.long (1099511627775 : Int64)), .second, .val (.long rq), .second, .val (.long bl), .second, .val (.long b2), .second, .val (.long sc), .second, .val (.long pw), .second, .val (.long b3), .second, .val (.double p1), .second, .val (.double p2), .second, .val (.double p3), .second, .val (.double p4), .second, .val (.int (1 : Int32)), .val (.int (1 : Int32)), .val (.int (1 : Int32)), .unset, .unset, .unset] [])) _
      refine XS.iconst X4.here hx rfl (hb hby at_199) ?_
      show Steps p.tables e below (T4.setTop (mkF m 200 #[.val (.long q1), .second, .val (.long q2), .second, .val (.long q3), .second, .val (.int i1), .val (.int i2), .val (.long (1099511627775 : Int64)), .second, .val (.long rq), .second, .val (.long bl), .second, .val (.long b2), .second, .val (.long sc), .second, .val (.long pw), .second, .val (.long b3), .second, .val (.double p1), .second, .val (.double p2), .second, .val (.double p3), .second, .val (.double p4), .second, .val (.int (1 : Int32)), .val (.int (1 : Int32)), .val (.int (1 : Int32)), .unset, .unset, .unset] [(.int (1 : Int32))])) _
      refine XS.istore X4.here hx rfl (hb hby at_200) rfl (l' := #[.val (.long q1), .second, .val (.long q2), .second, .val (.long q3), .second, .val (.int i1), .val (.int i2), .val (.long (1099511627775 : Int64)), .second, .val (.long rq), .second, .val (.long bl), .second, .val (.long b2), .second, .val (.long sc), .second, .val (.long pw), .second, .val (.long b3), .second, .val (.double p1), .second, .val (.double p2), .second, .val (.double p3), .second, .val (.double p4), .second, .val (.int (1 : Int32)), .val (.int (1 : Int32)), .val (.int (1 : Int32)), .val (.int (1 : Int32)), .unset, .unset]) rfl ?_
      show Steps p.tables e below (T4.setTop (mkF m 202 #[.val (.long q1), .second, .val (.long q2), .second, .val (.long q3), .second, .val (.int i1), .val (.int i2), .val (.long (1099511627775 : Int64)), .second, .val (.long rq), .second, .val (.long bl), .second, .val (.long b2), .second, .val (.long sc), .second, .val (.long pw), .second, .val (.long b3), .second, .val (.double p1), .second, .val (.double p2), .second, .val (.double p3), .second, .val (.double p4), .second, .val (.int (1 : Int32)), .val (.int (1 : Int32)), .val (.int (1 : Int32)), .val (.int (1 : Int32)), .unset, .unset] [])) _
      exact k202
    · show Steps p.tables e below (T4.setTop (mkF m 164 #[.val (.long q1), .second, .val (.long q2), .second, .val (.long q3), .second, .val (.int i1), .val (.int i2), .val (.long (1099511627775 : Int64)), .second, .val (.long rq), .second, .val (.long bl), .second, .val (.long b2), .second, .val (.long sc), .second, .val (.long pw), .second, .val (.long b3), .second, .val (.double p1), .second, .val (.double p2), .second, .val (.double p3), .second, .val (.double p4), .second, .val (.int (1 : Int32)), .val (.int (1 : Int32)), .unset, .unset, .unset, .unset] [])) _
      refine XS.dload X4.here hx rfl (hb hby at_164) rfl ?_
      show Steps p.tables e below (T4.setTop (mkF m 166 #[.val (.long q1), .second, .val (.long q2), .second, .val (.long q3), .second, .val (.int i1), .val (.int i2), .val (.long (1099511627775 : Int64)), .second, .val (.long rq), .second, .val (.long bl), .second, .val (.long b2), .second, .val (.long sc), .second, .val (.long pw), .second, .val (.long b3), .second, .val (.double p1), .second, .val (.double p2), .second, .val (.double p3), .second, .val (.double p4), .second, .val (.int (1 : Int32)), .val (.int (1 : Int32)), .unset, .unset, .unset, .unset] [(.double p1)])) _
      refine XS.dconst1 X4.here hx rfl (hb hby at_166) rfl ?_
      show Steps p.tables e below (T4.setTop (mkF m 167 #[.val (.long q1), .second, .val (.long q2), .second, .val (.long q3), .second, .val (.int i1), .val (.int i2), .val (.long (1099511627775 : Int64)), .second, .val (.long rq), .second, .val (.long bl), .second, .val (.long b2), .second, .val (.long sc), .second, .val (.long pw), .second, .val (.long b3), .second, .val (.double p1), .second, .val (.double p2), .second, .val (.double p3), .second, .val (.double p4), .second, .val (.int (1 : Int32)), .val (.int (1 : Int32)), .unset, .unset, .unset, .unset] [(.double FP.dconst1), (.double p1)])) _
      refine XS.dcmpS X4.here hx rfl (hb hby at_167) rfl rfl ?_
      show Steps p.tables e below (T4.setTop (mkF m 168 #[.val (.long q1), .second, .val (.long q2), .second, .val (.long q3), .second, .val (.int i1), .val (.int i2), .val (.long (1099511627775 : Int64)), .second, .val (.long rq), .second, .val (.long bl), .second, .val (.long b2), .second, .val (.long sc), .second, .val (.long pw), .second, .val (.long b3), .second, .val (.double p1), .second, .val (.double p2), .second, .val (.double p3), .second, .val (.double p4), .second, .val (.int (1 : Int32)), .val (.int (1 : Int32)), .unset, .unset, .unset, .unset] [(.int (cmpValue (FP.dcmp p1 FP.dconst1) .l))])) _
      refine XS.ifYes X4.here hx rfl (pc0 := 168) (pc' := 175) rfl (hb hby at_168) rfl ((if0 _ _).trans (feq c1).2) (by decide) (by decide) ?_
      show Steps p.tables e below (T4.setTop (mkF m 175 #[.val (.long q1), .second, .val (.long q2), .second, .val (.long q3), .second, .val (.int i1), .val (.int i2), .val (.long (1099511627775 : Int64)), .second, .val (.long rq), .second, .val (.long bl), .second, .val (.long b2), .second, .val (.long sc), .second, .val (.long pw), .second, .val (.long b3), .second, .val (.double p1), .second, .val (.double p2), .second, .val (.double p3), .second, .val (.double p4), .second, .val (.int (1 : Int32)), .val (.int (1 : Int32)), .unset, .unset, .unset, .unset] [])) _
      refine XS.iconst X4.here hx rfl (hb hby at_175) ?_
      show Steps p.tables e below (T4.setTop (mkF m 176 #[.val (.long q1), .second, .val (.long q2), .second, .val (.long q3), .second, .val (.int i1), .val (.int i2), .val (.long (1099511627775 : Int64)), .second, .val (.long rq), .second, .val (.long bl), .second, .val (.long b2), .second, .val (.long sc), .second, .val (.long pw), .second, .val (.long b3), .second, .val (.double p1), .second, .val (.double p2), .second, .val (.double p3), .second, .val (.double p4), .second, .val (.int (1 : Int32)), .val (.int (1 : Int32)), .unset, .unset, .unset, .unset] [(.int (0 : Int32))])) _
      refine XS.lload X4.here hx rfl (hb hby at_176) rfl ?_
      show Steps p.tables e below (T4.setTop (mkF m 178 #[.val (.long q1), .second, .val (.long q2), .second, .val (.long q3), .second, .val (.int i1), .val (.int i2), .val (.long (1099511627775 : Int64)), .second, .val (.long rq), .second, .val (.long bl), .second, .val (.long b2), .second, .val (.long sc), .second, .val (.long pw), .second, .val (.long b3), .second, .val (.double p1), .second, .val (.double p2), .second, .val (.double p3), .second, .val (.double p4), .second, .val (.int (1 : Int32)), .val (.int (1 : Int32)), .unset, .unset, .unset, .unset] [(.long bl), (.int (0 : Int32))])) _
      refine XS.lload X4.here hx rfl (hb hby at_178) rfl ?_
      show Steps p.tables e below (T4.setTop (mkF m 180 #[.val (.long q1), .second, .val (.long q2), .second, .val (.long q3), .second, .val (.int i1), .val (.int i2), .val (.long (1099511627775 : Int64)), .second, .val (.long rq), .second, .val (.long bl), .second, .val (.long b2), .second, .val (.long sc), .second, .val (.long pw), .second, .val (.long b3), .second, .val (.double p1), .second, .val (.double p2), .second, .val (.double p3), .second, .val (.double p4), .second, .val (.int (1 : Int32)), .val (.int (1 : Int32)), .unset, .unset, .unset, .unset] [(.long rq), (.long bl), (.int (0 : Int32))])) _
      refine XS.lcmp X4.here hx rfl (hb hby at_180) rfl ?_
      show Steps p.tables e below (T4.setTop (mkF m 181 #[.val (.long q1), .second, .val (.long q2), .second, .val (.long q3), .second, .val (.int i1), .val (.int i2), .val (.long (1099511627775 : Int64)), .second, .val (.long rq), .second, .val (.long bl), .second, .val (.long b2), .second, .val (.long sc), .second, .val (.long pw), .second, .val (.long b3), .second, .val (.double p1), .second, .val (.double p2), .second, .val (.double p3), .second, .val (.double p4), .second, .val (.int (1 : Int32)), .val (.int (1 : Int32)), .unset, .unset, .unset, .unset] [(.int (lcmpW bl rq)), (.int (0 : Int32))])) _
      refine XS.ifYes X4.here hx rfl (pc0 := 181) (pc' := 188) rfl (hb hby at_181) rfl ((if0 _ _).trans (feq (fun h => c1 (oo.mpr h))).2) (by decide) (by decide) ?_
      show Steps p.tables e below (T4.setTop (mkF m 188 #[.val (.long q1), .second, .val (.long q2), .second, .val (.long q3), .second, .val (.int i1), .val (.int i2), .val (.long (1099511627775 : Int64)), .second, .val (.long rq), .second, .val (.long bl), .second, .val (.long b2), .second, .val (.long sc), .second, .val (.long pw), .second, .val (.long b3), .second, .val (.double p1), .second, .val (.double p2), .second, .val (.double p3), .second, .val (.double p4), .second, .val (.int (1 : Int32)), .val (.int (1 : Int32)), .unset, .unset, .unset, .unset] [(.int (0 : Int32))])) _
      refine XS.iconst X4.here hx rfl (hb hby at_188) ?_
      show Steps p.tables e below (T4.setTop (mkF m 189 #[.val (.long q1), .second, .val (.long q2), .second, .val (.long q3), .second, .val (.int i1), .val (.int i2), .val (.long (1099511627775 : Int64)), .second, .val (.long rq), .second, .val (.long bl), .second, .val (.long b2), .second, .val (.long sc), .second, .val (.long pw), .second, .val (.long b3), .second, .val (.double p1), .second, .val (.double p2), .second, .val (.double p3), .second, .val (.double p4), .second, .val (.int (1 : Int32)), .val (.int (1 : Int32)), .unset, .unset, .unset, .unset] [(.int (0 : Int32)), (.int (0 : Int32))])) _
      refine XS.icmpNo X4.here hx rfl (hb hby at_189) rfl (teq (rfl : (0 : Int32) = 0)).2 ?_
      show Steps p.tables e below (T4.setTop (mkF m 192 #[.val (.long q1), .second, .val (.long q2), .second, .val (.long q3), .second, .val (.int i1), .val (.int i2), .val (.long (1099511627775 : Int64)), .second, .val (.long rq), .second, .val (.long bl), .second, .val (.long b2), .second, .val (.long sc), .second, .val (.long pw), .second, .val (.long b3), .second, .val (.double p1), .second, .val (.double p2), .second, .val (.double p3), .second, .val (.double p4), .second, .val (.int (1 : Int32)), .val (.int (1 : Int32)), .unset, .unset, .unset, .unset] [])) _
      refine XS.iconst X4.here hx rfl (hb hby at_192) ?_
      show Steps p.tables e below (T4.setTop (mkF m 193 #[.val (.long q1), .second, .val (.long q2), .second, .val (.long q3), .second, .val (.int i1), .val (.int i2), .val (.long (1099511627775 : Int64)), .second, .val (.long rq), .second, .val (.long bl), .second, .val (.long b2), .second, .val (.long sc), .second, .val (.long pw), .second, .val (.long b3), .second, .val (.double p1), .second, .val (.double p2), .second, .val (.double p3), .second, .val (.double p4), .second, .val (.int (1 : Int32)), .val (.int (1 : Int32)), .unset, .unset, .unset, .unset] [(.int (1 : Int32))])) _
      refine XS.goto X4.here hx rfl (pc0 := 193) (pc' := 197) rfl (hb hby at_193) (by decide) (by decide) ?_
      show Steps p.tables e below (T4.setTop (mkF m 197 #[.val (.long q1), .second, .val (.long q2), .second, .val (.long q3), .second, .val (.int i1), .val (.int i2), .val (.long (1099511627775 : Int64)), .second, .val (.long rq), .second, .val (.long bl), .second, .val (.long b2), .second, .val (.long sc), .second, .val (.long pw), .second, .val (.long b3), .second, .val (.double p1), .second, .val (.double p2), .second, .val (.double p3), .second, .val (.double p4), .second, .val (.int (1 : Int32)), .val (.int (1 : Int32)), .unset, .unset, .unset, .unset] [(.int (1 : Int32))])) _
      refine XS.istore X4.here hx rfl (hb hby at_197) rfl (l' := #[.val (.long q1), .second, .val (.long q2), .second, .val (.long q3), .second, .val (.int i1), .val (.int i2), .val (.long (1099511627775 : Int64)), .second, .val (.long rq), .second, .val (.long bl), .second, .val (.long b2), .second, .val (.long sc), .second, .val (.long pw), .second, .val (.long b3), .second, .val (.double p1), .second, .val (.double p2), .second, .val (.double p3), .second, .val (.double p4), .second, .val (.int (1 : Int32)), .val (.int (1 : Int32)), .val (.int (1 : Int32)), .unset, .unset, .unset]) rfl ?_
      show Steps p.tables e below (T4.setTop (mkF m 199 #[.val (.long q1), .second, .val (.long q2), .second, .val (.long q3), .second, .val (.int i1), .val (.int i2), .val (.long (1099511627775 : Int64)), .second, .val (.long rq), .second, .val (.long bl), .second, .val (.long b2), .second, .val (.long sc), .second, .val (.long pw), .second, .val (.long b3), .second, .val (.double p1), .second, .val (.double p2), .second, .val (.double p3), .second, .val (.double p4), .second, .val (.int (1 : Int32)), .val (.int (1 : Int32)), .val (.int (1 : Int32)), .unset, .unset, .unset] [])) _
      refine XS.iconst X4.here hx rfl (hb hby at_199) ?_
      show Steps p.tables e below (T4.setTop (mkF m 200 #[.val (.long q1), .second, .val (.long q2), .second, .val (.long q3), .second, .val (.int i1), .val (.int i2), .val (.long (1099511627775 : Int64)), .second, .val (.long rq), .second, .val (.long bl), .second, .val (.long b2), .second, .val (.long sc), .second, .val (.long pw), .second, .val (.long b3), .second, .val (.double p1), .second, .val (.double p2), .second, .val (.double p3), .second, .val (.double p4), .second, .val (.int (1 : Int32)), .val (.int (1 : Int32)), .val (.int (1 : Int32)), .unset, .unset, .unset] [(.int (1 : Int32))])) _
      refine XS.istore X4.here hx rfl (hb hby at_200) rfl (l' := #[.val (.long q1), .second, .val (.long q2), .second, .val (.long q3), .second, .val (.int i1), .val (.int i2), .val (.long (1099511627775 : Int64)), .second, .val (.long rq), .second, .val (.long bl), .second, .val (.long b2), .second, .val (.long sc), .second, .val (.long pw), .second, .val (.long b3), .second, .val (.double p1), .second, .val (.double p2), .second, .val (.double p3), .second, .val (.double p4), .second, .val (.int (1 : Int32)), .val (.int (1 : Int32)), .val (.int (1 : Int32)), .val (.int (1 : Int32)), .unset, .unset]) rfl ?_
      show Steps p.tables e below (T4.setTop (mkF m 202 #[.val (.long q1), .second, .val (.long q2), .second, .val (.long q3), .second, .val (.int i1), .val (.int i2), .val (.long (1099511627775 : Int64)), .second, .val (.long rq), .second, .val (.long bl), .second, .val (.long b2), .second, .val (.long sc), .second, .val (.long pw), .second, .val (.long b3), .second, .val (.double p1), .second, .val (.double p2), .second, .val (.double p3), .second, .val (.double p4), .second, .val (.int (1 : Int32)), .val (.int (1 : Int32)), .val (.int (1 : Int32)), .val (.int (1 : Int32)), .unset, .unset] [])) _
      exact k202
  have k130 : Steps p.tables e below (T4.setTop (mkF m 130 #[.val (.long q1), .second, .val (.long q2), .second, .val (.long q3), .second, .val (.int i1), .val (.int i2), .val (.long (1099511627775 : Int64)), .second, .val (.long rq), .second, .val (.long bl), .second, .val (.long b2), .second, .val (.long sc), .second, .val (.long pw), .second, .val (.long b3), .second, .val (.double p1), .second, .val (.double p2), .second, .val (.double p3), .second, .val (.double p4), .second, .val (.int (1 : Int32)), .unset, .unset, .unset, .unset, .unset] [])) (T4.setFrames fs) := by
    by_cases c1 : cmpValue (FP.dcmp p1 FP.dconst0) .l = 0
    · show Steps p.tables e below (T4.setTop (mkF m 130 #[.val (.long q1), .second, .val (.long q2), .second, .val (.long q3), .second, .val (.int i1), .val (.int i2), .val (.long (1099511627775 : Int64)), .second, .val (.long rq), .second, .val (.long bl), .second, .val (.long b2), .second, .val (.long sc), .second, .val (.long pw), .second, .val (.long b3), .second, .val (.double p1), .second, .val (.double p2), .second, .val (.double p3), .second, .val (.double p4), .second, .val (.int (1 : Int32)), .unset, .unset, .unset, .unset, .unset] [])) _
      refine XS.dload X4.here hx rfl (hb hby at_130) rfl ?_
      show Steps p.tables e below (T4.setTop (mkF m 132 #[.val (.long q1), .second, .val (.long q2), .second, .val (.long q3), .second, .val (.int i1), .val (.int i2), .val (.long (1099511627775 : Int64)), .second, .val (.long rq), .second, .val (.long bl), .second, .val (.long b2), .second, .val (.long sc), .second, .val (.long pw), .second, .val (.long b3), .second, .val (.double p1), .second, .val (.double p2), .second, .val (.double p3), .second, .val (.double p4), .second, .val (.int (1 : Int32)), .unset, .unset, .unset, .unset, .unset] [(.double p1)])) _
      refine XS.dconst0 X4.here hx rfl (hb hby at_132) rfl ?_
      show Steps p.tables e below (T4.setTop (mkF m 133 #[.val (.long q1), .second, .val (.long q2), .second, .val (.long q3), .second, .val (.int i1), .val (.int i2), .val (.long (1099511627775 : Int64)), .second, .val (.long rq), .second, .val (.long bl), .second, .val (.long b2), .second, .val (.long sc), .second, .val (.long pw), .second, .val (.long b3), .second, .val (.double p1), .second, .val (.double p2), .second, .val (.double p3), .second, .val (.double p4), .second, .val (.int (1 : Int32)), .unset, .unset, .unset, .unset, .unset] [(.double FP.dconst0), (.double p1)])) _
      refine XS.dcmpS X4.here hx rfl (hb hby at_133) rfl rfl ?_
      show Steps p.tables e below (T4.setTop (mkF m 134 #[.val (.long q1), .second, .val (.long q2), .second, .val (.long q3), .second, .val (.int i1), .val (.int i2), .val (.long (1099511627775 : Int64)), .second, .val (.long rq), .second, .val (.long bl), .second, .val (.long b2), .second, .val (.long sc), .second, .val (.long pw), .second, .val (.long b3), .second, .val (.double p1), .second, .val (.double p2), .second, .val (.double p3), .second, .val (.double p4), .second, .val (.int (1 : Int32)), .unset, .unset, .unset, .unset, .unset] [(.int (cmpValue (FP.dcmp p1 FP.dconst0) .l))])) _
      refine XS.ifNo X4.here hx rfl (hb hby at_134) rfl ((if0 _ _).trans (teq c1).2) ?_
      show Steps p.tables e below (T4.setTop (mkF m 137 #[.val (.long q1), .second, .val (.long q2), .second, .val (.long q3), .second, .val (.int i1), .val (.int i2), .val (.long (1099511627775 : Int64)), .second, .val (.long rq), .second, .val (.long bl), .second, .val (.long b2), .second, .val (.long sc), .second, .val (.long pw), .second, .val (.long b3), .second, .val (.double p1), .second, .val (.double p2), .second, .val (.double p3), .second, .val (.double p4), .second, .val (.int (1 : Int32)), .unset, .unset, .unset, .unset, .unset] [])) _
      refine XS.iconst X4.here hx rfl (hb hby at_137) ?_
      show Steps p.tables e below (T4.setTop (mkF m 138 #[.val (.long q1), .second, .val (.long q2), .second, .val (.long q3), .second, .val (.int i1), .val (.int i2), .val (.long (1099511627775 : Int64)), .second, .val (.long rq), .second, .val (.long bl), .second, .val (.long b2), .second, .val (.long sc), .second, .val (.long pw), .second, .val (.long b3), .second, .val (.double p1), .second, .val (.double p2), .second, .val (.double p3), .second, .val (.double p4), .second, .val (.int (1 : Int32)), .unset, .unset, .unset, .unset, .unset] [(.int (1 : Int32))])) _
      refine XS.goto X4.here hx rfl (pc0 := 138) (pc' := 142) rfl (hb hby at_138) (by decide) (by decide) ?_
      show Steps p.tables e below (T4.setTop (mkF m 142 #[.val (.long q1), .second, .val (.long q2), .second, .val (.long q3), .second, .val (.int i1), .val (.int i2), .val (.long (1099511627775 : Int64)), .second, .val (.long rq), .second, .val (.long bl), .second, .val (.long b2), .second, .val (.long sc), .second, .val (.long pw), .second, .val (.long b3), .second, .val (.double p1), .second, .val (.double p2), .second, .val (.double p3), .second, .val (.double p4), .second, .val (.int (1 : Int32)), .unset, .unset, .unset, .unset, .unset] [(.int (1 : Int32))])) _
      refine XS.lload X4.here hx rfl (hb hby at_142) rfl ?_
      show Steps p.tables e below (T4.setTop (mkF m 144 #[.val (.long q1), .second, .val (.long q2), .second, .val (.long q3), .second, .val (.int i1), .val (.int i2), .val (.long (1099511627775 : Int64)), .second, .val (.long rq), .second, .val (.long bl), .second, .val (.long b2), .second, .val (.long sc), .second, .val (.long pw), .second, .val (.long b3), .second, .val (.double p1), .second, .val (.double p2), .second, .val (.double p3), .second, .val (.double p4), .second, .val (.int (1 : Int32)), .unset, .unset, .unset, .unset, .unset] [(.long bl), (.int (1 : Int32))])) _
      refine XS.lconst X4.here hx rfl (hb hby at_144) ?_
      show Steps p.tables e below (T4.setTop (mkF m 145 #[.val (.long q1), .second, .val (.long q2), .second, .val (.long q3), .second, .val (.int i1), .val (.int i2), .val (.long (1099511627775 : Int64)), .second, .val (.long rq), .second, .val (.long bl), .second, .val (.long b2), .second, .val (.long sc), .second, .val (.long pw), .second, .val (.long b3), .second, .val (.double p1), .second, .val (.double p2), .second, .val (.double p3), .second, .val (.double p4), .second, .val (.int (1 : Int32)), .unset, .unset, .unset, .unset, .unset] [(.long (0 : Int64)), (.long bl), (.int (1 : Int32))])) _
      refine XS.lcmp X4.here hx rfl (hb hby at_145) rfl ?_
      show Steps p.tables e below (T4.setTop (mkF m 146 #[.val (.long q1), .second, .val (.long q2), .second, .val (.long q3), .second, .val (.int i1), .val (.int i2), .val (.long (1099511627775 : Int64)), .second, .val (.long rq), .second, .val (.long bl), .second, .val (.long b2), .second, .val (.long sc), .second, .val (.long pw), .second, .val (.long b3), .second, .val (.double p1), .second, .val (.double p2), .second, .val (.double p3), .second, .val (.double p4), .second, .val (.int (1 : Int32)), .unset, .unset, .unset, .unset, .unset] [(.int (lcmpW bl (0 : Int64))), (.int (1 : Int32))])) _
      refine XS.ifNo X4.here hx rfl (hb hby at_146) rfl ((if0 _ _).trans (teq (zz.mp c1)).2) ?_
      show Steps p.tables e below (T4.setTop (mkF m 149 #[.val (.long q1), .second, .val (.long q2), .second, .val (.long q3), .second, .val (.int i1), .val (.int i2), .val (.long (1099511627775 : Int64)), .second, .val (.long rq), .second, .val (.long bl), .second, .val (.long b2), .second, .val (.long sc), .second, .val (.long pw), .second, .val (.long b3), .second, .val (.double p1), .second, .val (.double p2), .second, .val (.double p3), .second, .val (.double p4), .second, .val (.int (1 : Int32)), .unset, .unset, .unset, .unset, .unset] [(.int (1 : Int32))])) _
      refine XS.iconst X4.here hx rfl (hb hby at_149) ?_
      show Steps p.tables e below (T4.setTop (mkF m 150 #[.val (.long q1), .second, .val (.long q2), .second, .val (.long q3), .second, .val (.int i1), .val (.int i2), .val (.long (1099511627775 : Int64)), .second, .val (.long rq), .second, .val (.long bl), .second, .val (.long b2), .second, .val (.long sc), .second, .val (.long pw), .second, .val (.long b3), .second, .val (.double p1), .second, .val (.double p2), .second, .val (.double p3), .second, .val (.double p4), .second, .val (.int (1 : Int32)), .unset, .unset, .unset, .unset, .unset] [(.int (1 : Int32)), (.int (1 : Int32))])) _
      refine XS.goto X4.here hx rfl (pc0 := 150) (pc' := 154) rfl (hb hby at_150) (by decide) (by decide) ?_
      show Steps p.tables e below (T4.setTop (mkF m 154 #[.val (.long q1), .second, .val (.long q2), .second, .val (.long q3), .second, .val (.int i1), .val (.int i2), .val (.long (1099511627775 : Int64)), .second, .val (.long rq), .second, .val (.long bl), .second, .val (.long b2), .second, .val (.long sc), .second, .val (.long pw), .second, .val (.long b3), .second, .val (.double p1), .second, .val (.double p2), .second, .val (.double p3), .second, .val (.double p4), .second, .val (.int (1 : Int32)), .unset, .unset, .unset, .unset, .unset] [(.int (1 : Int32)), (.int (1 : Int32))])) _
      refine XS.icmpNo X4.here hx rfl (hb hby at_154) rfl (teq (rfl : (1 : Int32) = 1)).2 ?_
      show Steps p.tables e below (T4.setTop (mkF m 157 #[.val (.long q1), .second, .val (.long q2), .second, .val (.long q3), .second, .val (.int i1), .val (.int i2), .val (.long (1099511627775 : Int64)), .second, .val (.long rq), .second, .val (.long bl), .second, .val (.long b2), .second, .val (.long sc), .second, .val (.long pw), .second, .val (.long b3), .second, .val (.double p1), .second, .val (.double p2), .second, .val (.double p3), .second, .val (.double p4), .second, .val (.int (1 : Int32)), .unset, .unset, .unset, .unset, .unset] [])) _
      refine XS.iconst X4.here hx rfl (hb hby at_157) ?_
      show Steps p.tables e below (T4.setTop (mkF m 158 #[.val (.long q1), .second, .val (.long q2), .second, .val (.long q3), .second, .val (.int i1), .val (.int i2), .val (.long (1099511627775 : Int64)), .second, .val (.long rq), .second, .val (.long bl), .second, .val (.long b2), .second, .val (.long sc), .second, .val (.long pw), .second, .val (.long b3), .second, .val (.double p1), .second, .val (.double p2), .second, .val (.double p3), .second, .val (.double p4), .second, .val (.int (1 : Int32)), .unset, .unset, .unset, .unset, .unset] [(.int (1 : Int32))])) _
      refine XS.goto X4.here hx rfl (pc0 := 158) (pc' := 162) rfl (hb hby at_158) (by decide) (by decide) ?_
      show Steps p.tables e below (T4.setTop (mkF m 162 #[.val (.long q1), .second, .val (.long q2), .second, .val (.long q3), .second, .val (.int i1), .val (.int i2), .val (.long (1099511627775 : Int64)), .second, .val (.long rq), .second, .val (.long bl), .second, .val (.long b2), .second, .val (.long sc), .second, .val (.long pw), .second, .val (.long b3), .second, .val (.double p1), .second, .val (.double p2), .second, .val (.double p3), .second, .val (.double p4), .second, .val (.int (1 : Int32)), .unset, .unset, .unset, .unset, .unset] [(.int (1 : Int32))])) _
      refine XS.istore X4.here hx rfl (hb hby at_162) rfl (l' := #[.val (.long q1), .second, .val (.long q2), .second, .val (.long q3), .second, .val (.int i1), .val (.int i2), .val (.long (1099511627775 : Int64)), .second, .val (.long rq), .second, .val (.long bl), .second, .val (.long b2), .second, .val (.long sc), .second, .val (.long pw), .second, .val (.long b3), .second, .val (.double p1), .second, .val (.double p2), .second, .val (.double p3), .second, .val (.double p4), .second, .val (.int (1 : Int32)), .val (.int (1 : Int32)), .unset, .unset, .unset, .unset]) rfl ?_
      show Steps p.tables e below (T4.setTop (mkF m 164 #[.val (.long q1), .second, .val (.long q2), .second, .val (.long q3), .second, .val (.int i1), .val (.int i2), .val (.long (1099511627775 : Int64)), .second, .val (.long rq), .second, .val (.long bl), .second, .val (.long b2), .second, .val (.long sc), .second, .val (.long pw), .second, .val (.long b3), .second, .val (.double p1), .second, .val (.double p2), .second, .val (.double p3), .second, .val (.double p4), .second, .val (.int (1 : Int32)), .val (.int (1 : Int32)), .unset, .unset, .unset, .unset] [])) _
      exact k164
    · show Steps p.tables e below (T4.setTop (mkF m 130 #[.val (.long q1), .second, .val (.long q2), .second, .val (.long q3), .second, .val (.int i1), .val (.int i2), .val (.long (1099511627775 : Int64)), .second, .val (.long rq), .second, .val (.long bl), .second, .val (.long b2), .second, .val (.long sc), .second, .val (.long pw), .second, .val (.long b3), .second, .val (.double p1), .second, .val (.double p2), .second, .val (.double p3), .second, .val (.double p4), .second, .val (.int (1 : Int32)), .unset, .unset, .unset, .unset, .unset] [])) _
      refine XS.dload X4.here hx rfl (hb hby at_130) rfl ?_
      show Steps p.tables e below (T4.setTop (mkF m 132 #[.val (.long q1), .second, .val (.long q2), .second, .val (.long q3), .second, .val (.int i1), .val (.int i2), .val (.long (1099511627775 : Int64)), .second, .val (.long rq), .second, .val (.long bl), .second, .val (.long b2), .second, .val (.long sc), .second, .val (.long pw), .second, .val (.long b3), .second, .val (.double p1), .second, .val (.double p2), .second, .val (.double p3), .second, .val (.double p4), .second, .val (.int (1 : Int32)), .unset, .unset, .unset, .unset, .unset] [(.double p1)])) _
      refine XS.dconst0 X4.here hx rfl (hb hby at_132) rfl ?_
      show Steps p.tables e below (T4.setTop (mkF m 133 #[.val (.long q1), .second, .val (.long q2), .second, .val (.long q3), .second, .val (.int i1), .val (.int i2), .val (.long (1099511627775 : Int64)), .second, .val (.long rq), .second, .val (.long bl), .second, .val (.long b2), .second, .val (.long sc), .second, .val (.long pw), .second, .val (.long b3), .second, .val (.double p1), .second, .val (.double p2), .second, .val (.double p3), .second, .val (.double p4), .second, .val (.int (1 : Int32)), .unset, .unset, .unset, .unset, .unset] [(.double FP.dconst0), (.double p1)])) _
      refine XS.dcmpS X4.here hx rfl (hb hby at_133) rfl rfl ?_
      show Steps p.tables e below (T4.setTop (mkF m 134 #[.val (.long q1), .second, .val (.long q2), .second, .val (.long q3), .second, .val (.int i1), .val (.int i2), .val (.long (1099511627775 : Int64)), .second, .val (.long rq), .second, .val (.long bl), .second, .val (.long b2), .second, .val (.long sc), .second, .val (.long pw), .second, .val (.long b3), .second, .val (.double p1), .second, .val (.double p2), .second, .val (.double p3), .second, .val (.double p4), .second, .val (.int (1 : Int32)), .unset, .unset, .unset, .unset, .unset] [(.int (cmpValue (FP.dcmp p1 FP.dconst0) .l))])) _
      refine XS.ifYes X4.here hx rfl (pc0 := 134) (pc' := 141) rfl (hb hby at_134) rfl ((if0 _ _).trans (feq c1).2) (by decide) (by decide) ?_
      show Steps p.tables e below (T4.setTop (mkF m 141 #[.val (.long q1), .second, .val (.long q2), .second, .val (.long q3), .second, .val (.int i1), .val (.int i2), .val (.long (1099511627775 : Int64)), .second, .val (.long rq), .second, .val (.long bl), .second, .val (.long b2), .second, .val (.long sc), .second, .val (.long pw), .second, .val (.long b3), .second, .val (.double p1), .second, .val (.double p2), .second, .val (.double p3), .second, .val (.double p4), .second, .val (.int (1 : Int32)), .unset, .unset, .unset, .unset, .unset] [])) _
      refine XS.iconst X4.here hx rfl (hb hby at_141) ?_
      show Steps p.tables e below (T4.setTop (mkF m 142 #[.val (.long q1), .second, .val (.long q2), .second, .val (.long q3), .second, .val (.int i1), .val (.int i2), .val (.long (1099511627775 : Int64)), .second, .val (.long rq), .second, .val (.long bl), .second, .val (.long b2), .second, .val (.long sc), .second, .val (.long pw), .second, .val (.long b3), .second, .val (.double p1), .second, .val (.double p2), .second, .val (.double p3), .second, .val (.double p4), .second, .val (.int (1 : Int32)), .unset, .unset, .unset, .unset, .unset] [(.int (0 : Int32))])) _
      refine XS.lload X4.here hx rfl (hb hby at_142) rfl ?_
      show Steps p.tables e below (T4.setTop (mkF m 144 #[.val (.long q1), .second, .val (.long q2), .second, .val (.long q3), .second, .val (.int i1), .val (.int i2), .val (.long (1099511627775 : Int64)), .second, .val (.long rq), .second, .val (.long bl), .second, .val (.long b2), .second, .val (.long sc), .second, .val (.long pw), .second, .val (.long b3), .second, .val (.double p1), .second, .val (.double p2), .second, .val (.double p3), .second, .val (.double p4), .second, .val (.int (1 : Int32)), .unset, .unset, .unset, .unset, .unset] [(.long bl), (.int (0 : Int32))])) _
      refine XS.lconst X4.here hx rfl (hb hby at_144) ?_
      show Steps p.tables e below (T4.setTop (mkF m 145 #[.val (.long q1), .second, .val (.long q2), .second, .val (.long q3), .second, .val (.int i1), .val (.int i2), .val (.long (1099511627775 : Int64)), .second, .val (.long rq), .second, .val (.long bl), .second, .val (.long b2), .second, .val (.long sc), .second, .val (.long pw), .second, .val (.long b3), .second, .val (.double p1), .second, .val (.double p2), .second, .val (.double p3), .second, .val (.double p4), .second, .val (.int (1 : Int32)), .unset, .unset, .unset, .unset, .unset] [(.long (0 : Int64)), (.long bl), (.int (0 : Int32))])) _
      refine XS.lcmp X4.here hx rfl (hb hby at_145) rfl ?_
      show Steps p.tables e below (T4.setTop (mkF m 146 #[.val (.long q1), .second, .val (.long q2), .second, .val (.long q3), .second, .val (.int i1), .val (.int i2), .val (.long (1099511627775 : Int64)), .second, .val (.long rq), .second, .val (.long bl), .second, .val (.long b2), .second, .val (.long sc), .second, .val (.long pw), .second, .val (.long b3), .second, .val (.double p1), .second, .val (.double p2), .second, .val (.double p3), .second, .val (.double p4), .second, .val (.int (1 : Int32)), .unset, .unset, .unset, .unset, .unset] [(.int (lcmpW bl (0 : Int64))), (.int (0 : Int32))])) _
      refine XS.ifYes X4.here hx rfl (pc0 := 146) (pc' := 153) rfl (hb hby at_146) rfl ((if0 _ _).trans (feq (fun h => c1 (zz.mpr h))).2) (by decide) (by decide) ?_
      show Steps p.tables e below (T4.setTop (mkF m 153 #[.val (.long q1), .second, .val (.long q2), .second, .val (.long q3), .second, .val (.int i1), .val (.int i2), .val (.long (1099511627775 : Int64)), .second, .val (.long rq), .second, .val (.long bl), .second, .val (.long b2), .second, .val (.long sc), .second, .val (.long pw), .second, .val (.long b3), .second, .val (.double p1), .second, .val (.double p2), .second, .val (.double p3), .second, .val (.double p4), .second, .val (.int (1 : Int32)), .unset, .unset, .unset, .unset, .unset] [(.int (0 : Int32))])) _
      refine XS.iconst X4.here hx rfl (hb hby at_153) ?_
      show Steps p.tables e below (T4.setTop (mkF m 154 #[.val (.long q1), .second, .val (.long q2), .second, .val (.long q3), .second, .val (.int i1), .val (.int i2), .val (.long (1099511627775 : Int64)), .second, .val (.long rq), .second, .val (.long bl), .second, .val (.long b2), .second, .val (.long sc), .second, .val (.long pw), .second, .val (.long b3), .second, .val (.double p1), .second, .val (.double p2), .second, .val (.double p3), .second, .val (.double p4), .second, .val (.int (1 : Int32)), .unset, .unset, .unset, .unset, .unset] [(.int (0 : Int32)), (.int (0 : Int32))])) _
      refine XS.icmpNo X4.here hx rfl (hb hby at_154) rfl (teq (rfl : (0 : Int32) = 0)).2 ?_
      show Steps p.tables e below (T4.setTop (mkF m 157 #[.val (.long q1), .second, .val (.long q2), .second, .val (.long q3), .second, .val (.int i1), .val (.int i2), .val (.long (1099511627775 : Int64)), .second, .val (.long rq), .second, .val (.long bl), .second, .val (.long b2), .second, .val (.long sc), .second, .val (.long pw), .second, .val (.long b3), .second, .val (.double p1), .second, .val (.double p2), .second, .val (.double p3), .second, .val (.double p4), .second, .val (.int (1 : Int32)), .unset, .unset, .unset, .unset, .unset] [])) _
      refine XS.iconst X4.here hx rfl (hb hby at_157) ?_
      show Steps p.tables e below (T4.setTop (mkF m 158 #[.val (.long q1), .second, .val (.long q2), .second, .val (.long q3), .second, .val (.int i1), .val (.int i2), .val (.long (1099511627775 : Int64)), .second, .val (.long rq), .second, .val (.long bl), .second, .val (.long b2), .second, .val (.long sc), .second, .val (.long pw), .second, .val (.long b3), .second, .val (.double p1), .second, .val (.double p2), .second, .val (.double p3), .second, .val (.double p4), .second, .val (.int (1 : Int32)), .unset, .unset, .unset, .unset, .unset] [(.int (1 : Int32))])) _
      refine XS.goto X4.here hx rfl (pc0 := 158) (pc' := 162) rfl (hb hby at_158) (by decide) (by decide) ?_
      show Steps p.tables e below (T4.setTop (mkF m 162 #[.val (.long q1), .second, .val (.long q2), .second, .val (.long q3), .second, .val (.int i1), .val (.int i2), .val (.long (1099511627775 : Int64)), .second, .val (.long rq), .second, .val (.long bl), .second, .val (.long b2), .second, .val (.long sc), .second, .val (.long pw), .second, .val (.long b3), .second, .val (.double p1), .second, .val (.double p2), .second, .val (.double p3), .second, .val (.double p4), .second, .val (.int (1 : Int32)), .unset, .unset, .unset, .unset, .unset] [(.int (1 : Int32))])) _
      refine XS.istore X4.here hx rfl (hb hby at_162) rfl (l' := #[.val (.long q1), .second, .val (.long q2), .second, .val (.long q3), .second, .val (.int i1), .val (.int i2), .val (.long (1099511627775 : Int64)), .second, .val (.long rq), .second, .val (.long bl), .second, .val (.long b2), .second, .val (.long sc), .second, .val (.long pw), .second, .val (.long b3), .second, .val (.double p1), .second, .val (.double p2), .second, .val (.double p3), .second, .val (.double p4), .second, .val (.int (1 : Int32)), .val (.int (1 : Int32)), .unset, .unset, .unset, .unset]) rfl ?_
      show Steps p.tables e below (T4.setTop (mkF m 164 #[.val (.long q1), .second, .val (.long q2), .second, .val (.long q3), .second, .val (.int i1), .val (.int i2), .val (.long (1099511627775 : Int64)), .second, .val (.long rq), .second, .val (.long bl), .second, .val (.long b2), .second, .val (.long sc), .second, .val (.long pw), .second, .val (.long b3), .second, .val (.double p1), .second, .val (.double p2), .second, .val (.double p3), .second, .val (.double p4), .second, .val (.int (1 : Int32)), .val (.int (1 : Int32)), .unset, .unset, .unset, .unset] [])) _
      exact k164
  refine ⟨_, _, pre0 _ ?_, hrun, hended, _, _, rfl, ?_, ⟨_, rfl⟩, hW, hsame.mono (by decide) (by decide)⟩
  · show Steps p.tables e below (s₁.setTop (mkF m 0 #[.val (.long q1), .second, .val (.long q2), .second, .val (.long q3), .second, .val (.int i1), .val (.int i2), .unset, .unset, .unset, .unset, .unset, .unset, .unset, .unset, .unset, .unset, .unset, .unset, .unset, .unset, .unset, .unset, .unset, .unset, .unset, .unset, .unset, .unset, .unset, .unset, .unset, .unset, .unset, .unset] [])) _
    refine X0.ldc2Long hx hown (mvT hZ (hw _ (List.mem_of_getElem? (i := 0) rfl))) (g := (mkF m 0 #[.val (.long q1), .second, .val (.long q2), .second, .val (.long q3), .second, .val (.int i1), .val (.int i2), .unset, .unset, .unset, .unset, .unset, .unset, .unset, .unset, .unset, .unset, .unset, .unset, .unset, .unset, .unset, .unset, .unset, .unset, .unset, .unset, .unset, .unset, .unset, .unset, .unset, .unset, .unset, .unset] [])) rfl (hb hby at_0) _ ?_
    show Steps p.tables e below (s₁.setTop (mkF m 3 #[.val (.long q1), .second, .val (.long q2), .second, .val (.long q3), .second, .val (.int i1), .val (.int i2), .unset, .unset, .unset, .unset, .unset, .unset, .unset, .unset, .unset, .unset, .unset, .unset, .unset, .unset, .unset, .unset, .unset, .unset, .unset, .unset, .unset, .unset, .unset, .unset, .unset, .unset, .unset, .unset] [(.long (1099511627775 : Int64))])) _
    refine XS.lstore X0.here hx rfl (hb hby at_3) rfl (l' := #[.val (.long q1), .second, .val (.long q2), .second, .val (.long q3), .second, .val (.int i1), .val (.int i2), .val (.long (1099511627775 : Int64)), .second, .unset, .unset, .unset, .unset, .unset, .unset, .unset, .unset, .unset, .unset, .unset, .unset, .unset, .unset, .unset, .unset, .unset, .unset, .unset, .unset, .unset, .unset, .unset, .unset, .unset, .unset]) rfl ?_
    show Steps p.tables e below (s₁.setTop (mkF m 5 #[.val (.long q1), .second, .val (.long q2), .second, .val (.long q3), .second, .val (.int i1), .val (.int i2), .val (.long (1099511627775 : Int64)), .second, .unset, .unset, .unset, .unset, .unset, .unset, .unset, .unset, .unset, .unset, .unset, .unset, .unset, .unset, .unset, .unset, .unset, .unset, .unset, .unset, .unset, .unset, .unset, .unset, .unset, .unset] [])) _
    refine XS.lconst X0.here hx rfl (hb hby at_5) ?_
    show Steps p.tables e below (s₁.setTop (mkF m 6 #[.val (.long q1), .second, .val (.long q2), .second, .val (.long q3), .second, .val (.int i1), .val (.int i2), .val (.long (1099511627775 : Int64)), .second, .unset, .unset, .unset, .unset, .unset, .unset, .unset, .unset, .unset, .unset, .unset, .unset, .unset, .unset, .unset, .unset, .unset, .unset, .unset, .unset, .unset, .unset, .unset, .unset, .unset, .unset] [(.long (1 : Int64))])) _
    refine XS.lloadN X0.here hx rfl (hb hby at_6) rfl ?_
    show Steps p.tables e below (s₁.setTop (mkF m 7 #[.val (.long q1), .second, .val (.long q2), .second, .val (.long q3), .second, .val (.int i1), .val (.int i2), .val (.long (1099511627775 : Int64)), .second, .unset, .unset, .unset, .unset, .unset, .unset, .unset, .unset, .unset, .unset, .unset, .unset, .unset, .unset, .unset, .unset, .unset, .unset, .unset, .unset, .unset, .unset, .unset, .unset, .unset, .unset] [(.long q1), (.long (1 : Int64))])) _
    refine XS.lload X0.here hx rfl (hb hby at_7) rfl ?_
    show Steps p.tables e below (s₁.setTop (mkF m 9 #[.val (.long q1), .second, .val (.long q2), .second, .val (.long q3), .second, .val (.int i1), .val (.int i2), .val (.long (1099511627775 : Int64)), .second, .unset, .unset, .unset, .unset, .unset, .unset, .unset, .unset, .unset, .unset, .unset, .unset, .unset, .unset, .unset, .unset, .unset, .unset, .unset, .unset, .unset, .unset, .unset, .unset, .unset, .unset] [(.long (1099511627775 : Int64)), (.long q1), (.long (1 : Int64))])) _
    refine XS.land X0.here hx rfl (hb hby at_9) rfl ?_
    show Steps p.tables e below (s₁.setTop (mkF m 10 #[.val (.long q1), .second, .val (.long q2), .second, .val (.long q3), .second, .val (.int i1), .val (.int i2), .val (.long (1099511627775 : Int64)), .second, .unset, .unset, .unset, .unset, .unset, .unset, .unset, .unset, .unset, .unset, .unset, .unset, .unset, .unset, .unset, .unset, .unset, .unset, .unset, .unset, .unset, .unset, .unset, .unset, .unset, .unset] [(.long (q1 &&& (1099511627775 : Int64))), (.long (1 : Int64))])) _
    refine XS.ladd X0.here hx rfl (hb hby at_10) rfl ?_
    show Steps p.tables e below (s₁.setTop (mkF m 11 #[.val (.long q1), .second, .val (.long q2), .second, .val (.long q3), .second, .val (.int i1), .val (.int i2), .val (.long (1099511627775 : Int64)), .second, .unset, .unset, .unset, .unset, .unset, .unset, .unset, .unset, .unset, .unset, .unset, .unset, .unset, .unset, .unset, .unset, .unset, .unset, .unset, .unset, .unset, .unset, .unset, .unset, .unset, .unset] [(.long ((1 : Int64) + (q1 &&& (1099511627775 : Int64))))])) _
    rw [hrq]
    show Steps p.tables e below (s₁.setTop (mkF m 11 #[.val (.long q1), .second, .val (.long q2), .second, .val (.long q3), .second, .val (.int i1), .val (.int i2), .val (.long (1099511627775 : Int64)), .second, .unset, .unset, .unset, .unset, .unset, .unset, .unset, .unset, .unset, .unset, .unset, .unset, .unset, .unset, .unset, .unset, .unset, .unset, .unset, .unset, .unset, .unset, .unset, .unset, .unset, .unset] [(.long rq)])) _
    refine XS.lstore X0.here hx rfl (hb hby at_11) rfl (l' := #[.val (.long q1), .second, .val (.long q2), .second, .val (.long q3), .second, .val (.int i1), .val (.int i2), .val (.long (1099511627775 : Int64)), .second, .val (.long rq), .second, .unset, .unset, .unset, .unset, .unset, .unset, .unset, .unset, .unset, .unset, .unset, .unset, .unset, .unset, .unset, .unset, .unset, .unset, .unset, .unset, .unset, .unset, .unset, .unset]) rfl ?_
    show Steps p.tables e below (s₁.setTop (mkF m 13 #[.val (.long q1), .second, .val (.long q2), .second, .val (.long q3), .second, .val (.int i1), .val (.int i2), .val (.long (1099511627775 : Int64)), .second, .val (.long rq), .second, .unset, .unset, .unset, .unset, .unset, .unset, .unset, .unset, .unset, .unset, .unset, .unset, .unset, .unset, .unset, .unset, .unset, .unset, .unset, .unset, .unset, .unset, .unset, .unset] [])) _
    refine XS.lloadN X0.here hx rfl (hb hby at_13) rfl ?_
    show Steps p.tables e below (s₁.setTop (mkF m 14 #[.val (.long q1), .second, .val (.long q2), .second, .val (.long q3), .second, .val (.int i1), .val (.int i2), .val (.long (1099511627775 : Int64)), .second, .val (.long rq), .second, .unset, .unset, .unset, .unset, .unset, .unset, .unset, .unset, .unset, .unset, .unset, .unset, .unset, .unset, .unset, .unset, .unset, .unset, .unset, .unset, .unset, .unset, .unset, .unset] [(.long q2)])) _
    refine XS.lload X0.here hx rfl (hb hby at_14) rfl ?_
    show Steps p.tables e below (s₁.setTop (mkF m 16 #[.val (.long q1), .second, .val (.long q2), .second, .val (.long q3), .second, .val (.int i1), .val (.int i2), .val (.long (1099511627775 : Int64)), .second, .val (.long rq), .second, .unset, .unset, .unset, .unset, .unset, .unset, .unset, .unset, .unset, .unset, .unset, .unset, .unset, .unset, .unset, .unset, .unset, .unset, .unset, .unset, .unset, .unset, .unset, .unset] [(.long (1099511627775 : Int64)), (.long q2)])) _
    refine XS.land X0.here hx rfl (hb hby at_16) rfl ?_
    show Steps p.tables e below (s₁.setTop (mkF m 17 #[.val (.long q1), .second, .val (.long q2), .second, .val (.long q3), .second, .val (.int i1), .val (.int i2), .val (.long (1099511627775 : Int64)), .second, .val (.long rq), .second, .unset, .unset, .unset, .unset, .unset, .unset, .unset, .unset, .unset, .unset, .unset, .unset, .unset, .unset, .unset, .unset, .unset, .unset, .unset, .unset, .unset, .unset, .unset, .unset] [(.long (q2 &&& (1099511627775 : Int64)))])) _
    refine XS.lload X0.here hx rfl (hb hby at_17) rfl ?_
    show Steps p.tables e below (s₁.setTop (mkF m 19 #[.val (.long q1), .second, .val (.long q2), .second, .val (.long q3), .second, .val (.int i1), .val (.int i2), .val (.long (1099511627775 : Int64)), .second, .val (.long rq), .second, .unset, .unset, .unset, .unset, .unset, .unset, .unset, .unset, .unset, .unset, .unset, .unset, .unset, .unset, .unset, .unset, .unset, .unset, .unset, .unset, .unset, .unset, .unset, .unset] [(.long rq), (.long (q2 &&& (1099511627775 : Int64)))])) _
    refine XS.lconst X0.here hx rfl (hb hby at_19) ?_
    show Steps p.tables e below (s₁.setTop (mkF m 20 #[.val (.long q1), .second, .val (.long q2), .second, .val (.long q3), .second, .val (.int i1), .val (.int i2), .val (.long (1099511627775 : Int64)), .second, .val (.long rq), .second, .unset, .unset, .unset, .unset, .unset, .unset, .unset, .unset, .unset, .unset, .unset, .unset, .unset, .unset, .unset, .unset, .unset, .unset, .unset, .unset, .unset, .unset, .unset, .unset] [(.long (1 : Int64)), (.long rq), (.long (q2 &&& (1099511627775 : Int64)))])) _
    refine XS.ladd X0.here hx rfl (hb hby at_20) rfl ?_
    show Steps p.tables e below (s₁.setTop (mkF m 21 #[.val (.long q1), .second, .val (.long q2), .second, .val (.long q3), .second, .val (.int i1), .val (.int i2), .val (.long (1099511627775 : Int64)), .second, .val (.long rq), .second, .unset, .unset, .unset, .unset, .unset, .unset, .unset, .unset, .unset, .unset, .unset, .unset, .unset, .unset, .unset, .unset, .unset, .unset, .unset, .unset, .unset, .unset, .unset, .unset] [(.long (rq + (1 : Int64))), (.long (q2 &&& (1099511627775 : Int64)))])) _
    refine XS.lrem X0.here hx rfl (hb hby at_21) rfl nrq ?_
    show Steps p.tables e below (s₁.setTop (mkF m 22 #[.val (.long q1), .second, .val (.long q2), .second, .val (.long q3), .second, .val (.int i1), .val (.int i2), .val (.long (1099511627775 : Int64)), .second, .val (.long rq), .second, .unset, .unset, .unset, .unset, .unset, .unset, .unset, .unset, .unset, .unset, .unset, .unset, .unset, .unset, .unset, .unset, .unset, .unset, .unset, .unset, .unset, .unset, .unset, .unset] [(.long ((q2 &&& (1099511627775 : Int64)) - (q2 &&& (1099511627775 : Int64)) / (rq + (1 : Int64)) * (rq + (1 : Int64))))])) _
    rw [hbl]
    show Steps p.tables e below (s₁.setTop (mkF m 22 #[.val (.long q1), .second, .val (.long q2), .second, .val (.long q3), .second, .val (.int i1), .val (.int i2), .val (.long (1099511627775 : Int64)), .second, .val (.long rq), .second, .unset, .unset, .unset, .unset, .unset, .unset, .unset, .unset, .unset, .unset, .unset, .unset, .unset, .unset, .unset, .unset, .unset, .unset, .unset, .unset, .unset, .unset, .unset, .unset] [(.long bl)])) _
    refine XS.lstore X0.here hx rfl (hb hby at_22) rfl (l' := #[.val (.long q1), .second, .val (.long q2), .second, .val (.long q3), .second, .val (.int i1), .val (.int i2), .val (.long (1099511627775 : Int64)), .second, .val (.long rq), .second, .val (.long bl), .second, .unset, .unset, .unset, .unset, .unset, .unset, .unset, .unset, .unset, .unset, .unset, .unset, .unset, .unset, .unset, .unset, .unset, .unset, .unset, .unset, .unset, .unset]) rfl ?_
    show Steps p.tables e below (s₁.setTop (mkF m 24 #[.val (.long q1), .second, .val (.long q2), .second, .val (.long q3), .second, .val (.int i1), .val (.int i2), .val (.long (1099511627775 : Int64)), .second, .val (.long rq), .second, .val (.long bl), .second, .unset, .unset, .unset, .unset, .unset, .unset, .unset, .unset, .unset, .unset, .unset, .unset, .unset, .unset, .unset, .unset, .unset, .unset, .unset, .unset, .unset, .unset] [])) _
    refine XS.lload X0.here hx rfl (hb hby at_24) rfl ?_
    show Steps p.tables e below (s₁.setTop (mkF m 26 #[.val (.long q1), .second, .val (.long q2), .second, .val (.long q3), .second, .val (.int i1), .val (.int i2), .val (.long (1099511627775 : Int64)), .second, .val (.long rq), .second, .val (.long bl), .second, .unset, .unset, .unset, .unset, .unset, .unset, .unset, .unset, .unset, .unset, .unset, .unset, .unset, .unset, .unset, .unset, .unset, .unset, .unset, .unset, .unset, .unset] [(.long q3)])) _
    refine XS.lload X0.here hx rfl (hb hby at_26) rfl ?_
    show Steps p.tables e below (s₁.setTop (mkF m 28 #[.val (.long q1), .second, .val (.long q2), .second, .val (.long q3), .second, .val (.int i1), .val (.int i2), .val (.long (1099511627775 : Int64)), .second, .val (.long rq), .second, .val (.long bl), .second, .unset, .unset, .unset, .unset, .unset, .unset, .unset, .unset, .unset, .unset, .unset, .unset, .unset, .unset, .unset, .unset, .unset, .unset, .unset, .unset, .unset, .unset] [(.long (1099511627775 : Int64)), (.long q3)])) _
    refine XS.land X0.here hx rfl (hb hby at_28) rfl ?_
    show Steps p.tables e below (s₁.setTop (mkF m 29 #[.val (.long q1), .second, .val (.long q2), .second, .val (.long q3), .second, .val (.int i1), .val (.int i2), .val (.long (1099511627775 : Int64)), .second, .val (.long rq), .second, .val (.long bl), .second, .unset, .unset, .unset, .unset, .unset, .unset, .unset, .unset, .unset, .unset, .unset, .unset, .unset, .unset, .unset, .unset, .unset, .unset, .unset, .unset, .unset, .unset] [(.long (q3 &&& (1099511627775 : Int64)))])) _
    refine XS.lload X0.here hx rfl (hb hby at_29) rfl ?_
    show Steps p.tables e below (s₁.setTop (mkF m 31 #[.val (.long q1), .second, .val (.long q2), .second, .val (.long q3), .second, .val (.int i1), .val (.int i2), .val (.long (1099511627775 : Int64)), .second, .val (.long rq), .second, .val (.long bl), .second, .unset, .unset, .unset, .unset, .unset, .unset, .unset, .unset, .unset, .unset, .unset, .unset, .unset, .unset, .unset, .unset, .unset, .unset, .unset, .unset, .unset, .unset] [(.long rq), (.long (q3 &&& (1099511627775 : Int64)))])) _
    refine XS.lconst X0.here hx rfl (hb hby at_31) ?_
    show Steps p.tables e below (s₁.setTop (mkF m 32 #[.val (.long q1), .second, .val (.long q2), .second, .val (.long q3), .second, .val (.int i1), .val (.int i2), .val (.long (1099511627775 : Int64)), .second, .val (.long rq), .second, .val (.long bl), .second, .unset, .unset, .unset, .unset, .unset, .unset, .unset, .unset, .unset, .unset, .unset, .unset, .unset, .unset, .unset, .unset, .unset, .unset, .unset, .unset, .unset, .unset] [(.long (1 : Int64)), (.long rq), (.long (q3 &&& (1099511627775 : Int64)))])) _
    refine XS.ladd X0.here hx rfl (hb hby at_32) rfl ?_
    show Steps p.tables e below (s₁.setTop (mkF m 33 #[.val (.long q1), .second, .val (.long q2), .second, .val (.long q3), .second, .val (.int i1), .val (.int i2), .val (.long (1099511627775 : Int64)), .second, .val (.long rq), .second, .val (.long bl), .second, .unset, .unset, .unset, .unset, .unset, .unset, .unset, .unset, .unset, .unset, .unset, .unset, .unset, .unset, .unset, .unset, .unset, .unset, .unset, .unset, .unset, .unset] [(.long (rq + (1 : Int64))), (.long (q3 &&& (1099511627775 : Int64)))])) _
    refine XS.lrem X0.here hx rfl (hb hby at_33) rfl nrq ?_
    show Steps p.tables e below (s₁.setTop (mkF m 34 #[.val (.long q1), .second, .val (.long q2), .second, .val (.long q3), .second, .val (.int i1), .val (.int i2), .val (.long (1099511627775 : Int64)), .second, .val (.long rq), .second, .val (.long bl), .second, .unset, .unset, .unset, .unset, .unset, .unset, .unset, .unset, .unset, .unset, .unset, .unset, .unset, .unset, .unset, .unset, .unset, .unset, .unset, .unset, .unset, .unset] [(.long ((q3 &&& (1099511627775 : Int64)) - (q3 &&& (1099511627775 : Int64)) / (rq + (1 : Int64)) * (rq + (1 : Int64))))])) _
    rw [hb2]
    show Steps p.tables e below (s₁.setTop (mkF m 34 #[.val (.long q1), .second, .val (.long q2), .second, .val (.long q3), .second, .val (.int i1), .val (.int i2), .val (.long (1099511627775 : Int64)), .second, .val (.long rq), .second, .val (.long bl), .second, .unset, .unset, .unset, .unset, .unset, .unset, .unset, .unset, .unset, .unset, .unset, .unset, .unset, .unset, .unset, .unset, .unset, .unset, .unset, .unset, .unset, .unset] [(.long b2)])) _
    refine XS.lstore X0.here hx rfl (hb hby at_34) rfl (l' := #[.val (.long q1), .second, .val (.long q2), .second, .val (.long q3), .second, .val (.int i1), .val (.int i2), .val (.long (1099511627775 : Int64)), .second, .val (.long rq), .second, .val (.long bl), .second, .val (.long b2), .second, .unset, .unset, .unset, .unset, .unset, .unset, .unset, .unset, .unset, .unset, .unset, .unset, .unset, .unset, .unset, .unset, .unset, .unset, .unset, .unset]) rfl ?_
    show Steps p.tables e below (s₁.setTop (mkF m 36 #[.val (.long q1), .second, .val (.long q2), .second, .val (.long q3), .second, .val (.int i1), .val (.int i2), .val (.long (1099511627775 : Int64)), .second, .val (.long rq), .second, .val (.long bl), .second, .val (.long b2), .second, .unset, .unset, .unset, .unset, .unset, .unset, .unset, .unset, .unset, .unset, .unset, .unset, .unset, .unset, .unset, .unset, .unset, .unset, .unset, .unset] [])) _
    refine XS.lconst X0.here hx rfl (hb hby at_36) ?_
    show Steps p.tables e below (s₁.setTop (mkF m 37 #[.val (.long q1), .second, .val (.long q2), .second, .val (.long q3), .second, .val (.int i1), .val (.int i2), .val (.long (1099511627775 : Int64)), .second, .val (.long rq), .second, .val (.long bl), .second, .val (.long b2), .second, .unset, .unset, .unset, .unset, .unset, .unset, .unset, .unset, .unset, .unset, .unset, .unset, .unset, .unset, .unset, .unset, .unset, .unset, .unset, .unset] [(.long (1 : Int64))])) _
    refine XS.iload X0.here hx rfl (hb hby at_37) rfl ?_
    show Steps p.tables e below (s₁.setTop (mkF m 39 #[.val (.long q1), .second, .val (.long q2), .second, .val (.long q3), .second, .val (.int i1), .val (.int i2), .val (.long (1099511627775 : Int64)), .second, .val (.long rq), .second, .val (.long bl), .second, .val (.long b2), .second, .unset, .unset, .unset, .unset, .unset, .unset, .unset, .unset, .unset, .unset, .unset, .unset, .unset, .unset, .unset, .unset, .unset, .unset, .unset, .unset] [(.int i1), (.long (1 : Int64))])) _
    refine XS.sipush X0.here hx rfl (hb hby at_39) ?_
    show Steps p.tables e below (s₁.setTop (mkF m 42 #[.val (.long q1), .second, .val (.long q2), .second, .val (.long q3), .second, .val (.int i1), .val (.int i2), .val (.long (1099511627775 : Int64)), .second, .val (.long rq), .second, .val (.long bl), .second, .val (.long b2), .second, .unset, .unset, .unset, .unset, .unset, .unset, .unset, .unset, .unset, .unset, .unset, .unset, .unset, .unset, .unset, .unset, .unset, .unset, .unset, .unset] [(.int (4095 : Int32)), (.int i1), (.long (1 : Int64))])) _
    refine XS.iand X0.here hx rfl (hb hby at_42) rfl ?_
    show Steps p.tables e below (s₁.setTop (mkF m 43 #[.val (.long q1), .second, .val (.long q2), .second, .val (.long q3), .second, .val (.int i1), .val (.int i2), .val (.long (1099511627775 : Int64)), .second, .val (.long rq), .second, .val (.long bl), .second, .val (.long b2), .second, .unset, .unset, .unset, .unset, .unset, .unset, .unset, .unset, .unset, .unset, .unset, .unset, .unset, .unset, .unset, .unset, .unset, .unset, .unset, .unset] [(.int (i1 &&& (4095 : Int32))), (.long (1 : Int64))])) _
    refine XS.i2l X0.here hx rfl (hb hby at_43) rfl ?_
    show Steps p.tables e below (s₁.setTop (mkF m 44 #[.val (.long q1), .second, .val (.long q2), .second, .val (.long q3), .second, .val (.int i1), .val (.int i2), .val (.long (1099511627775 : Int64)), .second, .val (.long rq), .second, .val (.long bl), .second, .val (.long b2), .second, .unset, .unset, .unset, .unset, .unset, .unset, .unset, .unset, .unset, .unset, .unset, .unset, .unset, .unset, .unset, .unset, .unset, .unset, .unset, .unset] [(.long (i1 &&& (4095 : Int32)).toInt64), (.long (1 : Int64))])) _
    refine XS.ladd X0.here hx rfl (hb hby at_44) rfl ?_
    show Steps p.tables e below (s₁.setTop (mkF m 45 #[.val (.long q1), .second, .val (.long q2), .second, .val (.long q3), .second, .val (.int i1), .val (.int i2), .val (.long (1099511627775 : Int64)), .second, .val (.long rq), .second, .val (.long bl), .second, .val (.long b2), .second, .unset, .unset, .unset, .unset, .unset, .unset, .unset, .unset, .unset, .unset, .unset, .unset, .unset, .unset, .unset, .unset, .unset, .unset, .unset, .unset] [(.long ((1 : Int64) + (i1 &&& (4095 : Int32)).toInt64))])) _
    rw [hsc]
    show Steps p.tables e below (s₁.setTop (mkF m 45 #[.val (.long q1), .second, .val (.long q2), .second, .val (.long q3), .second, .val (.int i1), .val (.int i2), .val (.long (1099511627775 : Int64)), .second, .val (.long rq), .second, .val (.long bl), .second, .val (.long b2), .second, .unset, .unset, .unset, .unset, .unset, .unset, .unset, .unset, .unset, .unset, .unset, .unset, .unset, .unset, .unset, .unset, .unset, .unset, .unset, .unset] [(.long sc)])) _
    refine XS.lstore X0.here hx rfl (hb hby at_45) rfl (l' := #[.val (.long q1), .second, .val (.long q2), .second, .val (.long q3), .second, .val (.int i1), .val (.int i2), .val (.long (1099511627775 : Int64)), .second, .val (.long rq), .second, .val (.long bl), .second, .val (.long b2), .second, .val (.long sc), .second, .unset, .unset, .unset, .unset, .unset, .unset, .unset, .unset, .unset, .unset, .unset, .unset, .unset, .unset, .unset, .unset, .unset, .unset]) rfl ?_
    show Steps p.tables e below (s₁.setTop (mkF m 47 #[.val (.long q1), .second, .val (.long q2), .second, .val (.long q3), .second, .val (.int i1), .val (.int i2), .val (.long (1099511627775 : Int64)), .second, .val (.long rq), .second, .val (.long bl), .second, .val (.long b2), .second, .val (.long sc), .second, .unset, .unset, .unset, .unset, .unset, .unset, .unset, .unset, .unset, .unset, .unset, .unset, .unset, .unset, .unset, .unset, .unset, .unset] [])) _
    refine XS.lconst X0.here hx rfl (hb hby at_47) ?_
    show Steps p.tables e below (s₁.setTop (mkF m 48 #[.val (.long q1), .second, .val (.long q2), .second, .val (.long q3), .second, .val (.int i1), .val (.int i2), .val (.long (1099511627775 : Int64)), .second, .val (.long rq), .second, .val (.long bl), .second, .val (.long b2), .second, .val (.long sc), .second, .unset, .unset, .unset, .unset, .unset, .unset, .unset, .unset, .unset, .unset, .unset, .unset, .unset, .unset, .unset, .unset, .unset, .unset] [(.long (1 : Int64))])) _
    refine XS.iload X0.here hx rfl (hb hby at_48) rfl ?_
    show Steps p.tables e below (s₁.setTop (mkF m 50 #[.val (.long q1), .second, .val (.long q2), .second, .val (.long q3), .second, .val (.int i1), .val (.int i2), .val (.long (1099511627775 : Int64)), .second, .val (.long rq), .second, .val (.long bl), .second, .val (.long b2), .second, .val (.long sc), .second, .unset, .unset, .unset, .unset, .unset, .unset, .unset, .unset, .unset, .unset, .unset, .unset, .unset, .unset, .unset, .unset, .unset, .unset] [(.int i2), (.long (1 : Int64))])) _
    refine XS.bipush X0.here hx rfl (hb hby at_50) ?_
    show Steps p.tables e below (s₁.setTop (mkF m 52 #[.val (.long q1), .second, .val (.long q2), .second, .val (.long q3), .second, .val (.int i1), .val (.int i2), .val (.long (1099511627775 : Int64)), .second, .val (.long rq), .second, .val (.long bl), .second, .val (.long b2), .second, .val (.long sc), .second, .unset, .unset, .unset, .unset, .unset, .unset, .unset, .unset, .unset, .unset, .unset, .unset, .unset, .unset, .unset, .unset, .unset, .unset] [(.int (31 : Int32)), (.int i2), (.long (1 : Int64))])) _
    refine XS.iand X0.here hx rfl (hb hby at_52) rfl ?_
    show Steps p.tables e below (s₁.setTop (mkF m 53 #[.val (.long q1), .second, .val (.long q2), .second, .val (.long q3), .second, .val (.int i1), .val (.int i2), .val (.long (1099511627775 : Int64)), .second, .val (.long rq), .second, .val (.long bl), .second, .val (.long b2), .second, .val (.long sc), .second, .unset, .unset, .unset, .unset, .unset, .unset, .unset, .unset, .unset, .unset, .unset, .unset, .unset, .unset, .unset, .unset, .unset, .unset] [(.int (i2 &&& (31 : Int32))), (.long (1 : Int64))])) _
    refine XS.lshl X0.here hx rfl (hb hby at_53) rfl ?_
    show Steps p.tables e below (s₁.setTop (mkF m 54 #[.val (.long q1), .second, .val (.long q2), .second, .val (.long q3), .second, .val (.int i1), .val (.int i2), .val (.long (1099511627775 : Int64)), .second, .val (.long rq), .second, .val (.long bl), .second, .val (.long b2), .second, .val (.long sc), .second, .unset, .unset, .unset, .unset, .unset, .unset, .unset, .unset, .unset, .unset, .unset, .unset, .unset, .unset, .unset, .unset, .unset, .unset] [(.long ((1 : Int64) <<< ((i2 &&& (31 : Int32)) &&& 0x3f).toInt64))])) _
    rw [hpw]
    show Steps p.tables e below (s₁.setTop (mkF m 54 #[.val (.long q1), .second, .val (.long q2), .second, .val (.long q3), .second, .val (.int i1), .val (.int i2), .val (.long (1099511627775 : Int64)), .second, .val (.long rq), .second, .val (.long bl), .second, .val (.long b2), .second, .val (.long sc), .second, .unset, .unset, .unset, .unset, .unset, .unset, .unset, .unset, .unset, .unset, .unset, .unset, .unset, .unset, .unset, .unset, .unset, .unset] [(.long pw)])) _
    refine XS.lstore X0.here hx rfl (hb hby at_54) rfl (l' := #[.val (.long q1), .second, .val (.long q2), .second, .val (.long q3), .second, .val (.int i1), .val (.int i2), .val (.long (1099511627775 : Int64)), .second, .val (.long rq), .second, .val (.long bl), .second, .val (.long b2), .second, .val (.long sc), .second, .val (.long pw), .second, .unset, .unset, .unset, .unset, .unset, .unset, .unset, .unset, .unset, .unset, .unset, .unset, .unset, .unset, .unset, .unset]) rfl ?_
    show Steps p.tables e below (s₁.setTop (mkF m 56 #[.val (.long q1), .second, .val (.long q2), .second, .val (.long q3), .second, .val (.int i1), .val (.int i2), .val (.long (1099511627775 : Int64)), .second, .val (.long rq), .second, .val (.long bl), .second, .val (.long b2), .second, .val (.long sc), .second, .val (.long pw), .second, .unset, .unset, .unset, .unset, .unset, .unset, .unset, .unset, .unset, .unset, .unset, .unset, .unset, .unset, .unset, .unset] [])) _
    refine XS.lloadN X0.here hx rfl (hb hby at_56) rfl ?_
    show Steps p.tables e below (s₁.setTop (mkF m 57 #[.val (.long q1), .second, .val (.long q2), .second, .val (.long q3), .second, .val (.int i1), .val (.int i2), .val (.long (1099511627775 : Int64)), .second, .val (.long rq), .second, .val (.long bl), .second, .val (.long b2), .second, .val (.long sc), .second, .val (.long pw), .second, .unset, .unset, .unset, .unset, .unset, .unset, .unset, .unset, .unset, .unset, .unset, .unset, .unset, .unset, .unset, .unset] [(.long q2)])) _
    refine XS.lload X0.here hx rfl (hb hby at_57) rfl ?_
    show Steps p.tables e below (s₁.setTop (mkF m 59 #[.val (.long q1), .second, .val (.long q2), .second, .val (.long q3), .second, .val (.int i1), .val (.int i2), .val (.long (1099511627775 : Int64)), .second, .val (.long rq), .second, .val (.long bl), .second, .val (.long b2), .second, .val (.long sc), .second, .val (.long pw), .second, .unset, .unset, .unset, .unset, .unset, .unset, .unset, .unset, .unset, .unset, .unset, .unset, .unset, .unset, .unset, .unset] [(.long (1099511627775 : Int64)), (.long q2)])) _
    refine XS.land X0.here hx rfl (hb hby at_59) rfl ?_
    show Steps p.tables e below (s₁.setTop (mkF m 60 #[.val (.long q1), .second, .val (.long q2), .second, .val (.long q3), .second, .val (.int i1), .val (.int i2), .val (.long (1099511627775 : Int64)), .second, .val (.long rq), .second, .val (.long bl), .second, .val (.long b2), .second, .val (.long sc), .second, .val (.long pw), .second, .unset, .unset, .unset, .unset, .unset, .unset, .unset, .unset, .unset, .unset, .unset, .unset, .unset, .unset, .unset, .unset] [(.long (q2 &&& (1099511627775 : Int64)))])) _
    refine XS.lload X0.here hx rfl (hb hby at_60) rfl ?_
    show Steps p.tables e below (s₁.setTop (mkF m 62 #[.val (.long q1), .second, .val (.long q2), .second, .val (.long q3), .second, .val (.int i1), .val (.int i2), .val (.long (1099511627775 : Int64)), .second, .val (.long rq), .second, .val (.long bl), .second, .val (.long b2), .second, .val (.long sc), .second, .val (.long pw), .second, .unset, .unset, .unset, .unset, .unset, .unset, .unset, .unset, .unset, .unset, .unset, .unset, .unset, .unset, .unset, .unset] [(.long pw), (.long (q2 &&& (1099511627775 : Int64)))])) _
    refine XS.lconst X0.here hx rfl (hb hby at_62) ?_
    show Steps p.tables e below (s₁.setTop (mkF m 63 #[.val (.long q1), .second, .val (.long q2), .second, .val (.long q3), .second, .val (.int i1), .val (.int i2), .val (.long (1099511627775 : Int64)), .second, .val (.long rq), .second, .val (.long bl), .second, .val (.long b2), .second, .val (.long sc), .second, .val (.long pw), .second, .unset, .unset, .unset, .unset, .unset, .unset, .unset, .unset, .unset, .unset, .unset, .unset, .unset, .unset, .unset, .unset] [(.long (1 : Int64)), (.long pw), (.long (q2 &&& (1099511627775 : Int64)))])) _
    refine XS.ladd X0.here hx rfl (hb hby at_63) rfl ?_
    show Steps p.tables e below (s₁.setTop (mkF m 64 #[.val (.long q1), .second, .val (.long q2), .second, .val (.long q3), .second, .val (.int i1), .val (.int i2), .val (.long (1099511627775 : Int64)), .second, .val (.long rq), .second, .val (.long bl), .second, .val (.long b2), .second, .val (.long sc), .second, .val (.long pw), .second, .unset, .unset, .unset, .unset, .unset, .unset, .unset, .unset, .unset, .unset, .unset, .unset, .unset, .unset, .unset, .unset] [(.long (pw + (1 : Int64))), (.long (q2 &&& (1099511627775 : Int64)))])) _
    refine XS.lrem X0.here hx rfl (hb hby at_64) rfl npw ?_
    show Steps p.tables e below (s₁.setTop (mkF m 65 #[.val (.long q1), .second, .val (.long q2), .second, .val (.long q3), .second, .val (.int i1), .val (.int i2), .val (.long (1099511627775 : Int64)), .second, .val (.long rq), .second, .val (.long bl), .second, .val (.long b2), .second, .val (.long sc), .second, .val (.long pw), .second, .unset, .unset, .unset, .unset, .unset, .unset, .unset, .unset, .unset, .unset, .unset, .unset, .unset, .unset, .unset, .unset] [(.long ((q2 &&& (1099511627775 : Int64)) - (q2 &&& (1099511627775 : Int64)) / (pw + (1 : Int64)) * (pw + (1 : Int64))))])) _
    rw [hb3]
    show Steps p.tables e below (s₁.setTop (mkF m 65 #[.val (.long q1), .second, .val (.long q2), .second, .val (.long q3), .second, .val (.int i1), .val (.int i2), .val (.long (1099511627775 : Int64)), .second, .val (.long rq), .second, .val (.long bl), .second, .val (.long b2), .second, .val (.long sc), .second, .val (.long pw), .second, .unset, .unset, .unset, .unset, .unset, .unset, .unset, .unset, .unset, .unset, .unset, .unset, .unset, .unset, .unset, .unset] [(.long b3)])) _
    refine XS.lstore X0.here hx rfl (hb hby at_65) rfl (l' := #[.val (.long q1), .second, .val (.long q2), .second, .val (.long q3), .second, .val (.int i1), .val (.int i2), .val (.long (1099511627775 : Int64)), .second, .val (.long rq), .second, .val (.long bl), .second, .val (.long b2), .second, .val (.long sc), .second, .val (.long pw), .second, .val (.long b3), .second, .unset, .unset, .unset, .unset, .unset, .unset, .unset, .unset, .unset, .unset, .unset, .unset, .unset, .unset]) rfl ?_
    show Steps p.tables e below (s₁.setTop (mkF m 67 #[.val (.long q1), .second, .val (.long q2), .second, .val (.long q3), .second, .val (.int i1), .val (.int i2), .val (.long (1099511627775 : Int64)), .second, .val (.long rq), .second, .val (.long bl), .second, .val (.long b2), .second, .val (.long sc), .second, .val (.long pw), .second, .val (.long b3), .second, .unset, .unset, .unset, .unset, .unset, .unset, .unset, .unset, .unset, .unset, .unset, .unset, .unset, .unset] [])) _
    refine XS.lload X0.here hx rfl (hb hby at_67) rfl ?_
    show Steps p.tables e below (s₁.setTop (mkF m 69 #[.val (.long q1), .second, .val (.long q2), .second, .val (.long q3), .second, .val (.int i1), .val (.int i2), .val (.long (1099511627775 : Int64)), .second, .val (.long rq), .second, .val (.long bl), .second, .val (.long b2), .second, .val (.long sc), .second, .val (.long pw), .second, .val (.long b3), .second, .unset, .unset, .unset, .unset, .unset, .unset, .unset, .unset, .unset, .unset, .unset, .unset, .unset, .unset] [(.long bl)])) _
    refine XS.lload X0.here hx rfl (hb hby at_69) rfl ?_
    show Steps p.tables e below (s₁.setTop (mkF m 71 #[.val (.long q1), .second, .val (.long q2), .second, .val (.long q3), .second, .val (.int i1), .val (.int i2), .val (.long (1099511627775 : Int64)), .second, .val (.long rq), .second, .val (.long bl), .second, .val (.long b2), .second, .val (.long sc), .second, .val (.long pw), .second, .val (.long b3), .second, .unset, .unset, .unset, .unset, .unset, .unset, .unset, .unset, .unset, .unset, .unset, .unset, .unset, .unset] [(.long rq), (.long bl)])) _
    refine st1 _ ?_
    show Steps p.tables e below (T1.setTop (mkF m 74 #[.val (.long q1), .second, .val (.long q2), .second, .val (.long q3), .second, .val (.int i1), .val (.int i2), .val (.long (1099511627775 : Int64)), .second, .val (.long rq), .second, .val (.long bl), .second, .val (.long b2), .second, .val (.long sc), .second, .val (.long pw), .second, .val (.long b3), .second, .unset, .unset, .unset, .unset, .unset, .unset, .unset, .unset, .unset, .unset, .unset, .unset, .unset, .unset] [(.double p1)])) _
    refine XS.dstore X1.here hx rfl (hb hby at_74) rfl (l' := #[.val (.long q1), .second, .val (.long q2), .second, .val (.long q3), .second, .val (.int i1), .val (.int i2), .val (.long (1099511627775 : Int64)), .second, .val (.long rq), .second, .val (.long bl), .second, .val (.long b2), .second, .val (.long sc), .second, .val (.long pw), .second, .val (.long b3), .second, .val (.double p1), .second, .unset, .unset, .unset, .unset, .unset, .unset, .unset, .unset, .unset, .unset, .unset, .unset]) rfl ?_
    show Steps p.tables e below (T1.setTop (mkF m 76 #[.val (.long q1), .second, .val (.long q2), .second, .val (.long q3), .second, .val (.int i1), .val (.int i2), .val (.long (1099511627775 : Int64)), .second, .val (.long rq), .second, .val (.long bl), .second, .val (.long b2), .second, .val (.long sc), .second, .val (.long pw), .second, .val (.long b3), .second, .val (.double p1), .second, .unset, .unset, .unset, .unset, .unset, .unset, .unset, .unset, .unset, .unset, .unset, .unset] [])) _
    refine XS.lload X1.here hx rfl (hb hby at_76) rfl ?_
    show Steps p.tables e below (T1.setTop (mkF m 78 #[.val (.long q1), .second, .val (.long q2), .second, .val (.long q3), .second, .val (.int i1), .val (.int i2), .val (.long (1099511627775 : Int64)), .second, .val (.long rq), .second, .val (.long bl), .second, .val (.long b2), .second, .val (.long sc), .second, .val (.long pw), .second, .val (.long b3), .second, .val (.double p1), .second, .unset, .unset, .unset, .unset, .unset, .unset, .unset, .unset, .unset, .unset, .unset, .unset] [(.long b2)])) _
    refine XS.lload X1.here hx rfl (hb hby at_78) rfl ?_
    show Steps p.tables e below (T1.setTop (mkF m 80 #[.val (.long q1), .second, .val (.long q2), .second, .val (.long q3), .second, .val (.int i1), .val (.int i2), .val (.long (1099511627775 : Int64)), .second, .val (.long rq), .second, .val (.long bl), .second, .val (.long b2), .second, .val (.long sc), .second, .val (.long pw), .second, .val (.long b3), .second, .val (.double p1), .second, .unset, .unset, .unset, .unset, .unset, .unset, .unset, .unset, .unset, .unset, .unset, .unset] [(.long rq), (.long b2)])) _
    refine st2 _ ?_
    show Steps p.tables e below (T2.setTop (mkF m 83 #[.val (.long q1), .second, .val (.long q2), .second, .val (.long q3), .second, .val (.int i1), .val (.int i2), .val (.long (1099511627775 : Int64)), .second, .val (.long rq), .second, .val (.long bl), .second, .val (.long b2), .second, .val (.long sc), .second, .val (.long pw), .second, .val (.long b3), .second, .val (.double p1), .second, .unset, .unset, .unset, .unset, .unset, .unset, .unset, .unset, .unset, .unset, .unset, .unset] [(.double p2)])) _
    refine XS.dstore X2.here hx rfl (hb hby at_83) rfl (l' := #[.val (.long q1), .second, .val (.long q2), .second, .val (.long q3), .second, .val (.int i1), .val (.int i2), .val (.long (1099511627775 : Int64)), .second, .val (.long rq), .second, .val (.long bl), .second, .val (.long b2), .second, .val (.long sc), .second, .val (.long pw), .second, .val (.long b3), .second, .val (.double p1), .second, .val (.double p2), .second, .unset, .unset, .unset, .unset, .unset, .unset, .unset, .unset, .unset, .unset]) rfl ?_
    show Steps p.tables e below (T2.setTop (mkF m 85 #[.val (.long q1), .second, .val (.long q2), .second, .val (.long q3), .second, .val (.int i1), .val (.int i2), .val (.long (1099511627775 : Int64)), .second, .val (.long rq), .second, .val (.long bl), .second, .val (.long b2), .second, .val (.long sc), .second, .val (.long pw), .second, .val (.long b3), .second, .val (.double p1), .second, .val (.double p2), .second, .unset, .unset, .unset, .unset, .unset, .unset, .unset, .unset, .unset, .unset] [])) _
    refine XS.lload X2.here hx rfl (hb hby at_85) rfl ?_
    show Steps p.tables e below (T2.setTop (mkF m 87 #[.val (.long q1), .second, .val (.long q2), .second, .val (.long q3), .second, .val (.int i1), .val (.int i2), .val (.long (1099511627775 : Int64)), .second, .val (.long rq), .second, .val (.long bl), .second, .val (.long b2), .second, .val (.long sc), .second, .val (.long pw), .second, .val (.long b3), .second, .val (.double p1), .second, .val (.double p2), .second, .unset, .unset, .unset, .unset, .unset, .unset, .unset, .unset, .unset, .unset] [(.long sc)])) _
    refine XS.lload X2.here hx rfl (hb hby at_87) rfl ?_
    show Steps p.tables e below (T2.setTop (mkF m 89 #[.val (.long q1), .second, .val (.long q2), .second, .val (.long q3), .second, .val (.int i1), .val (.int i2), .val (.long (1099511627775 : Int64)), .second, .val (.long rq), .second, .val (.long bl), .second, .val (.long b2), .second, .val (.long sc), .second, .val (.long pw), .second, .val (.long b3), .second, .val (.double p1), .second, .val (.double p2), .second, .unset, .unset, .unset, .unset, .unset, .unset, .unset, .unset, .unset, .unset] [(.long bl), (.long sc)])) _
    refine XS.lmul X2.here hx rfl (hb hby at_89) rfl ?_
    show Steps p.tables e below (T2.setTop (mkF m 90 #[.val (.long q1), .second, .val (.long q2), .second, .val (.long q3), .second, .val (.int i1), .val (.int i2), .val (.long (1099511627775 : Int64)), .second, .val (.long rq), .second, .val (.long bl), .second, .val (.long b2), .second, .val (.long sc), .second, .val (.long pw), .second, .val (.long b3), .second, .val (.double p1), .second, .val (.double p2), .second, .unset, .unset, .unset, .unset, .unset, .unset, .unset, .unset, .unset, .unset] [(.long (sc * bl))])) _
    rw [hsb]
    show Steps p.tables e below (T2.setTop (mkF m 90 #[.val (.long q1), .second, .val (.long q2), .second, .val (.long q3), .second, .val (.int i1), .val (.int i2), .val (.long (1099511627775 : Int64)), .second, .val (.long rq), .second, .val (.long bl), .second, .val (.long b2), .second, .val (.long sc), .second, .val (.long pw), .second, .val (.long b3), .second, .val (.double p1), .second, .val (.double p2), .second, .unset, .unset, .unset, .unset, .unset, .unset, .unset, .unset, .unset, .unset] [(.long sb)])) _
    refine XS.lload X2.here hx rfl (hb hby at_90) rfl ?_
    show Steps p.tables e below (T2.setTop (mkF m 92 #[.val (.long q1), .second, .val (.long q2), .second, .val (.long q3), .second, .val (.int i1), .val (.int i2), .val (.long (1099511627775 : Int64)), .second, .val (.long rq), .second, .val (.long bl), .second, .val (.long b2), .second, .val (.long sc), .second, .val (.long pw), .second, .val (.long b3), .second, .val (.double p1), .second, .val (.double p2), .second, .unset, .unset, .unset, .unset, .unset, .unset, .unset, .unset, .unset, .unset] [(.long sc), (.long sb)])) _
    refine XS.lload X2.here hx rfl (hb hby at_92) rfl ?_
    show Steps p.tables e below (T2.setTop (mkF m 94 #[.val (.long q1), .second, .val (.long q2), .second, .val (.long q3), .second, .val (.int i1), .val (.int i2), .val (.long (1099511627775 : Int64)), .second, .val (.long rq), .second, .val (.long bl), .second, .val (.long b2), .second, .val (.long sc), .second, .val (.long pw), .second, .val (.long b3), .second, .val (.double p1), .second, .val (.double p2), .second, .unset, .unset, .unset, .unset, .unset, .unset, .unset, .unset, .unset, .unset] [(.long rq), (.long sc), (.long sb)])) _
    refine XS.lmul X2.here hx rfl (hb hby at_94) rfl ?_
    show Steps p.tables e below (T2.setTop (mkF m 95 #[.val (.long q1), .second, .val (.long q2), .second, .val (.long q3), .second, .val (.int i1), .val (.int i2), .val (.long (1099511627775 : Int64)), .second, .val (.long rq), .second, .val (.long bl), .second, .val (.long b2), .second, .val (.long sc), .second, .val (.long pw), .second, .val (.long b3), .second, .val (.double p1), .second, .val (.double p2), .second, .unset, .unset, .unset, .unset, .unset, .unset, .unset, .unset, .unset, .unset] [(.long (sc * rq)), (.long sb)])) _
    rw [hsr]
    show Steps p.tables e below (T2.setTop (mkF m 95 #[.val (.long q1), .second, .val (.long q2), .second, .val (.long q3), .second, .val (.int i1), .val (.int i2), .val (.long (1099511627775 : Int64)), .second, .val (.long rq), .second, .val (.long bl), .second, .val (.long b2), .second, .val (.long sc), .second, .val (.long pw), .second, .val (.long b3), .second, .val (.double p1), .second, .val (.double p2), .second, .unset, .unset, .unset, .unset, .unset, .unset, .unset, .unset, .unset, .unset] [(.long sr), (.long sb)])) _
    refine st3 _ ?_
    show Steps p.tables e below (T3.setTop (mkF m 98 #[.val (.long q1), .second, .val (.long q2), .second, .val (.long q3), .second, .val (.int i1), .val (.int i2), .val (.long (1099511627775 : Int64)), .second, .val (.long rq), .second, .val (.long bl), .second, .val (.long b2), .second, .val (.long sc), .second, .val (.long pw), .second, .val (.long b3), .second, .val (.double p1), .second, .val (.double p2), .second, .unset, .unset, .unset, .unset, .unset, .unset, .unset, .unset, .unset, .unset] [(.double p3)])) _
    refine XS.dstore X3.here hx rfl (hb hby at_98) rfl (l' := #[.val (.long q1), .second, .val (.long q2), .second, .val (.long q3), .second, .val (.int i1), .val (.int i2), .val (.long (1099511627775 : Int64)), .second, .val (.long rq), .second, .val (.long bl), .second, .val (.long b2), .second, .val (.long sc), .second, .val (.long pw), .second, .val (.long b3), .second, .val (.double p1), .second, .val (.double p2), .second, .val (.double p3), .second, .unset, .unset, .unset, .unset, .unset, .unset, .unset, .unset]) rfl ?_
    show Steps p.tables e below (T3.setTop (mkF m 100 #[.val (.long q1), .second, .val (.long q2), .second, .val (.long q3), .second, .val (.int i1), .val (.int i2), .val (.long (1099511627775 : Int64)), .second, .val (.long rq), .second, .val (.long bl), .second, .val (.long b2), .second, .val (.long sc), .second, .val (.long pw), .second, .val (.long b3), .second, .val (.double p1), .second, .val (.double p2), .second, .val (.double p3), .second, .unset, .unset, .unset, .unset, .unset, .unset, .unset, .unset] [])) _
    refine XS.lload X3.here hx rfl (hb hby at_100) rfl ?_
    show Steps p.tables e below (T3.setTop (mkF m 102 #[.val (.long q1), .second, .val (.long q2), .second, .val (.long q3), .second, .val (.int i1), .val (.int i2), .val (.long (1099511627775 : Int64)), .second, .val (.long rq), .second, .val (.long bl), .second, .val (.long b2), .second, .val (.long sc), .second, .val (.long pw), .second, .val (.long b3), .second, .val (.double p1), .second, .val (.double p2), .second, .val (.double p3), .second, .unset, .unset, .unset, .unset, .unset, .unset, .unset, .unset] [(.long b3)])) _
    refine XS.lload X3.here hx rfl (hb hby at_102) rfl ?_
    show Steps p.tables e below (T3.setTop (mkF m 104 #[.val (.long q1), .second, .val (.long q2), .second, .val (.long q3), .second, .val (.int i1), .val (.int i2), .val (.long (1099511627775 : Int64)), .second, .val (.long rq), .second, .val (.long bl), .second, .val (.long b2), .second, .val (.long sc), .second, .val (.long pw), .second, .val (.long b3), .second, .val (.double p1), .second, .val (.double p2), .second, .val (.double p3), .second, .unset, .unset, .unset, .unset, .unset, .unset, .unset, .unset] [(.long pw), (.long b3)])) _
    refine st4 _ ?_
    show Steps p.tables e below (T4.setTop (mkF m 107 #[.val (.long q1), .second, .val (.long q2), .second, .val (.long q3), .second, .val (.int i1), .val (.int i2), .val (.long (1099511627775 : Int64)), .second, .val (.long rq), .second, .val (.long bl), .second, .val (.long b2), .second, .val (.long sc), .second, .val (.long pw), .second, .val (.long b3), .second, .val (.double p1), .second, .val (.double p2), .second, .val (.double p3), .second, .unset, .unset, .unset, .unset, .unset, .unset, .unset, .unset] [(.double p4)])) _
    refine XS.dstore X4.here hx rfl (hb hby at_107) rfl (l' := #[.val (.long q1), .second, .val (.long q2), .second, .val (.long q3), .second, .val (.int i1), .val (.int i2), .val (.long (1099511627775 : Int64)), .second, .val (.long rq), .second, .val (.long bl), .second, .val (.long b2), .second, .val (.long sc), .second, .val (.long pw), .second, .val (.long b3), .second, .val (.double p1), .second, .val (.double p2), .second, .val (.double p3), .second, .val (.double p4), .second, .unset, .unset, .unset, .unset, .unset, .unset]) rfl ?_
    show Steps p.tables e below (T4.setTop (mkF m 109 #[.val (.long q1), .second, .val (.long q2), .second, .val (.long q3), .second, .val (.int i1), .val (.int i2), .val (.long (1099511627775 : Int64)), .second, .val (.long rq), .second, .val (.long bl), .second, .val (.long b2), .second, .val (.long sc), .second, .val (.long pw), .second, .val (.long b3), .second, .val (.double p1), .second, .val (.double p2), .second, .val (.double p3), .second, .val (.double p4), .second, .unset, .unset, .unset, .unset, .unset, .unset] [])) _
    refine XS.dconst0 X4.here hx rfl (hb hby at_109) rfl ?_
    show Steps p.tables e below (T4.setTop (mkF m 110 #[.val (.long q1), .second, .val (.long q2), .second, .val (.long q3), .second, .val (.int i1), .val (.int i2), .val (.long (1099511627775 : Int64)), .second, .val (.long rq), .second, .val (.long bl), .second, .val (.long b2), .second, .val (.long sc), .second, .val (.long pw), .second, .val (.long b3), .second, .val (.double p1), .second, .val (.double p2), .second, .val (.double p3), .second, .val (.double p4), .second, .unset, .unset, .unset, .unset, .unset, .unset] [(.double FP.dconst0)])) _
    refine XS.dload X4.here hx rfl (hb hby at_110) rfl ?_
    show Steps p.tables e below (T4.setTop (mkF m 112 #[.val (.long q1), .second, .val (.long q2), .second, .val (.long q3), .second, .val (.int i1), .val (.int i2), .val (.long (1099511627775 : Int64)), .second, .val (.long rq), .second, .val (.long bl), .second, .val (.long b2), .second, .val (.long sc), .second, .val (.long pw), .second, .val (.long b3), .second, .val (.double p1), .second, .val (.double p2), .second, .val (.double p3), .second, .val (.double p4), .second, .unset, .unset, .unset, .unset, .unset, .unset] [(.double p1), (.double FP.dconst0)])) _
    refine XS.dcmpS X4.here hx rfl (hb hby at_112) rfl rfl ?_
    show Steps p.tables e below (T4.setTop (mkF m 113 #[.val (.long q1), .second, .val (.long q2), .second, .val (.long q3), .second, .val (.int i1), .val (.int i2), .val (.long (1099511627775 : Int64)), .second, .val (.long rq), .second, .val (.long bl), .second, .val (.long b2), .second, .val (.long sc), .second, .val (.long pw), .second, .val (.long b3), .second, .val (.double p1), .second, .val (.double p2), .second, .val (.double p3), .second, .val (.double p4), .second, .unset, .unset, .unset, .unset, .unset, .unset] [(.int (cmpValue (FP.dcmp FP.dconst0 p1) .g))])) _
    refine XS.ifNo X4.here hx rfl (hb hby at_113) rfl ((if0 _ _).trans (flt r0).2.2.1) ?_
    show Steps p.tables e below (T4.setTop (mkF m 116 #[.val (.long q1), .second, .val (.long q2), .second, .val (.long q3), .second, .val (.int i1), .val (.int i2), .val (.long (1099511627775 : Int64)), .second, .val (.long rq), .second, .val (.long bl), .second, .val (.long b2), .second, .val (.long sc), .second, .val (.long pw), .second, .val (.long b3), .second, .val (.double p1), .second, .val (.double p2), .second, .val (.double p3), .second, .val (.double p4), .second, .unset, .unset, .unset, .unset, .unset, .unset] [])) _
    refine XS.dload X4.here hx rfl (hb hby at_116) rfl ?_
    show Steps p.tables e below (T4.setTop (mkF m 118 #[.val (.long q1), .second, .val (.long q2), .second, .val (.long q3), .second, .val (.int i1), .val (.int i2), .val (.long (1099511627775 : Int64)), .second, .val (.long rq), .second, .val (.long bl), .second, .val (.long b2), .second, .val (.long sc), .second, .val (.long pw), .second, .val (.long b3), .second, .val (.double p1), .second, .val (.double p2), .second, .val (.double p3), .second, .val (.double p4), .second, .unset, .unset, .unset, .unset, .unset, .unset] [(.double p1)])) _
    refine XS.dconst1 X4.here hx rfl (hb hby at_118) rfl ?_
    show Steps p.tables e below (T4.setTop (mkF m 119 #[.val (.long q1), .second, .val (.long q2), .second, .val (.long q3), .second, .val (.int i1), .val (.int i2), .val (.long (1099511627775 : Int64)), .second, .val (.long rq), .second, .val (.long bl), .second, .val (.long b2), .second, .val (.long sc), .second, .val (.long pw), .second, .val (.long b3), .second, .val (.double p1), .second, .val (.double p2), .second, .val (.double p3), .second, .val (.double p4), .second, .unset, .unset, .unset, .unset, .unset, .unset] [(.double FP.dconst1), (.double p1)])) _
    refine XS.dcmpS X4.here hx rfl (hb hby at_119) rfl rfl ?_
    show Steps p.tables e below (T4.setTop (mkF m 120 #[.val (.long q1), .second, .val (.long q2), .second, .val (.long q3), .second, .val (.int i1), .val (.int i2), .val (.long (1099511627775 : Int64)), .second, .val (.long rq), .second, .val (.long bl), .second, .val (.long b2), .second, .val (.long sc), .second, .val (.long pw), .second, .val (.long b3), .second, .val (.double p1), .second, .val (.double p2), .second, .val (.double p3), .second, .val (.double p4), .second, .unset, .unset, .unset, .unset, .unset, .unset] [(.int (cmpValue (FP.dcmp p1 FP.dconst1) .g))])) _
    refine XS.ifNo X4.here hx rfl (hb hby at_120) rfl ((if0 _ _).trans (flt r1).2.2.1) ?_
    show Steps p.tables e below (T4.setTop (mkF m 123 #[.val (.long q1), .second, .val (.long q2), .second, .val (.long q3), .second, .val (.int i1), .val (.int i2), .val (.long (1099511627775 : Int64)), .second, .val (.long rq), .second, .val (.long bl), .second, .val (.long b2), .second, .val (.long sc), .second, .val (.long pw), .second, .val (.long b3), .second, .val (.double p1), .second, .val (.double p2), .second, .val (.double p3), .second, .val (.double p4), .second, .unset, .unset, .unset, .unset, .unset, .unset] [])) _
    refine XS.iconst X4.here hx rfl (hb hby at_123) ?_
    show Steps p.tables e below (T4.setTop (mkF m 124 #[.val (.long q1), .second, .val (.long q2), .second, .val (.long q3), .second, .val (.int i1), .val (.int i2), .val (.long (1099511627775 : Int64)), .second, .val (.long rq), .second, .val (.long bl), .second, .val (.long b2), .second, .val (.long sc), .second, .val (.long pw), .second, .val (.long b3), .second, .val (.double p1), .second, .val (.double p2), .second, .val (.double p3), .second, .val (.double p4), .second, .unset, .unset, .unset, .unset, .unset, .unset] [(.int (1 : Int32))])) _
    refine XS.goto X4.here hx rfl (pc0 := 124) (pc' := 128) rfl (hb hby at_124) (by decide) (by decide) ?_
    show Steps p.tables e below (T4.setTop (mkF m 128 #[.val (.long q1), .second, .val (.long q2), .second, .val (.long q3), .second, .val (.int i1), .val (.int i2), .val (.long (1099511627775 : Int64)), .second, .val (.long rq), .second, .val (.long bl), .second, .val (.long b2), .second, .val (.long sc), .second, .val (.long pw), .second, .val (.long b3), .second, .val (.double p1), .second, .val (.double p2), .second, .val (.double p3), .second, .val (.double p4), .second, .unset, .unset, .unset, .unset, .unset, .unset] [(.int (1 : Int32))])) _
    refine XS.istore X4.here hx rfl (hb hby at_128) rfl (l' := #[.val (.long q1), .second, .val (.long q2), .second, .val (.long q3), .second, .val (.int i1), .val (.int i2), .val (.long (1099511627775 : Int64)), .second, .val (.long rq), .second, .val (.long bl), .second, .val (.long b2), .second, .val (.long sc), .second, .val (.long pw), .second, .val (.long b3), .second, .val (.double p1), .second, .val (.double p2), .second, .val (.double p3), .second, .val (.double p4), .second, .val (.int (1 : Int32)), .unset, .unset, .unset, .unset, .unset]) rfl ?_
    show Steps p.tables e below (T4.setTop (mkF m 130 #[.val (.long q1), .second, .val (.long q2), .second, .val (.long q3), .second, .val (.int i1), .val (.int i2), .val (.long (1099511627775 : Int64)), .second, .val (.long rq), .second, .val (.long bl), .second, .val (.long b2), .second, .val (.long sc), .second, .val (.long pw), .second, .val (.long b3), .second, .val (.double p1), .second, .val (.double p2), .second, .val (.double p3), .second, .val (.double p4), .second, .val (.int (1 : Int32)), .unset, .unset, .unset, .unset, .unset] [])) _
    exact k130
  · exact ⟨rfl, N4⟩
section Plain
open Jvm.FP
theorem own_lc0 {x y : Int64} : lcmpW x y = 0 ↔ x.toInt = y.toInt := by rw [lcW, lc_eq, Int64.toInt_inj]
theorem own_lclt {x y : Int64} : lcmpW x y < 0 ↔ x.toInt < y.toInt := by rw [lcW, lc_lt, Int64.lt_iff_toInt_lt]
theorem own_lcgt {x y : Int64} : 0 < lcmpW x y ↔ y.toInt < x.toInt := by rw [lcW, lc_gt, Int64.lt_iff_toInt_lt]
theorem own_mask (x : Int64) : 0 ≤ (x &&& (1099511627775 : Int64)).toInt ∧ (x &&& (1099511627775 : Int64)).toInt < 1099511627776 := by
  rw [Jvm.Kit.i64_mask x _ (k := 40) (by decide) (by decide)]; omega
theorem own_cmpQ {B R B' R' : Nat} {x y : UInt64} (h : Core.val64 x = Core.roundRatio Core.b64 false B R 0) (h' : Core.val64 y = Core.roundRatio Core.b64 false B' R' 0) (o : CmpOp) :
    cmpValue (FP.dcmp x y) o = if own_pz B R < own_pz B' R' then -1 else if own_pz B R = own_pz B' R' then 0 else 1 := by
  rw [own_qcmp h h', Core.compare_ite]
  by_cases h1 : own_pz B R < own_pz B' R'
  · rw [if_pos h1, if_pos (Int.ofNat_lt.mpr h1)]; rfl
  · rw [if_neg h1, if_neg (fun q => h1 (Int.ofNat_lt.mp q))]
    by_cases h2 : own_pz B R = own_pz B' R'
    · rw [if_pos h2, if_pos (Int.natCast_inj.mpr h2)]; rfl
    · rw [if_neg h2, if_neg (fun q => h2 (Int.natCast_inj.mp q))]; rfl
theorem own_v0 : Core.val64 FP.dconst0 = Core.roundRatio Core.b64 false 0 1 0 := by decide +kernel
theorem own_v1 : Core.val64 FP.dconst1 = Core.roundRatio Core.b64 false 1 1 0 := by decide +kernel
theorem own_pz0 : own_pz 0 1 = 0 := (own_pz_exact (n := 0) (by decide) (by decide) (by decide)).trans (Nat.zero_mul _)
theorem own_pz1 : own_pz 1 1 = 2 ^ 50 * own_K := own_pz_exact (by decide) (by decide) (by decide)
theorem own_rem {x n : Int64} (hx : 0 ≤ x.toInt) (hn : 0 < n.toInt) (hn2 : n.toInt < 9007199254740992) :
    0 ≤ (x - x / (n + (1 : Int64)) * (n + (1 : Int64))).toInt ∧ (x - x / (n + (1 : Int64)) * (n + (1 : Int64))).toInt ≤ n.toInt := by
  have h1 : (n + (1 : Int64)).toInt = n.toInt + 1 := Jvm.Kit.i64_add (by rw [show (1 : Int64).toInt = 1 by decide]; omega) (by rw [show (1 : Int64).toInt = 1 by decide]; omega)
  rw [Jvm.Kit.i64_rem_nonneg hx, h1]
  have a := Int.emod_nonneg x.toInt (show n.toInt + 1 ≠ 0 by omega)
  have b := Int.emod_lt_of_pos x.toInt (show 0 < n.toInt + 1 by omega)
  omega
theorem own_ne {n : Int64} (hn : 0 < n.toInt) (hn2 : n.toInt < 9007199254740992) : n + (1 : Int64) ≠ 0 := fun h => by
  have h1 : (n + (1 : Int64)).toInt = n.toInt + 1 := Jvm.Kit.i64_add (by rw [show (1 : Int64).toInt = 1 by decide]; omega) (by rw [show (1 : Int64).toInt = 1 by decide]; omega)
  rw [h, show (0 : Int64).toInt = 0 by decide] at h1
  omega
theorem own_shl : ∀ n : Fin 32, ((1 : Int64) <<< ((Int32.ofNat n.val) &&& 0x3f).toInt64).toInt = ((2 ^ n.val : Nat) : Int) := by decide +kernel
theorem own_pw (k : Int32) : ∃ j : Nat, j ≤ 31 ∧ ((1 : Int64) <<< ((k &&& (31 : Int32)) &&& 0x3f).toInt64).toInt = ((2 ^ j : Nat) : Int) := by
  have hm : (k &&& (31 : Int32)).toInt = k.toInt % 2 ^ 5 := Jvm.Kit.i32_mask k _ (by decide) (by decide)
  have hj : (k.toInt % 2 ^ 5).toNat < 32 := by omega
  have e : k &&& (31 : Int32) = Int32.ofNat (k.toInt % 2 ^ 5).toNat := by
    apply Int32.toInt_inj.mp
    rw [hm, Int32.toInt_ofNat_small (by omega)]
    omega
  exact ⟨(k.toInt % 2 ^ 5).toNat, by omega, by rw [e]; exact own_shl ⟨_, hj⟩⟩
theorem own_bit {x : Int32} {a b : Prop} [Decidable a] [Decidable b] (h : x = if a then (-1 : Int32) else if b then 0 else 1) : (x < 0 ↔ a) ∧ (x = 0 ↔ ¬ a ∧ b) ∧ (0 < x ↔ ¬ a ∧ ¬ b) := by
  subst h
  by_cases ha : a <;> by_cases hb : b <;> simp [ha, hb]
theorem own_lt1 {B R : Nat} (h : B < R) (hR : R ≤ 2 ^ 40) : B * 2 ^ 50 ≤ (2 ^ 50 - 1) * R := by
  have e : (2 : Nat) ^ 50 = 1125899906842624 := by decide
  rw [e]; omega
set_option maxRecDepth 65536 in
set_option maxHeartbeats 4000000 in
theorem own_plain (q1 q2 q3 : Int64) (i1 i2 : Int32) : ∃ (rq bl b2 sc pw b3 sb sr : Int64) (p1 p2 p3 p4 p5 : UInt64), ((1 : Int64) + (q1 &&& (1099511627775 : Int64)) = rq) ∧ ((q2 &&& (1099511627775 : Int64)) - (q2 &&& (1099511627775 : Int64)) / (rq + (1 : Int64)) * (rq + (1 : Int64)) = bl) ∧ ((q3 &&& (1099511627775 : Int64)) - (q3 &&& (1099511627775 : Int64)) / (rq + (1 : Int64)) * (rq + (1 : Int64)) = b2) ∧ ((1 : Int64) + (i1 &&& (4095 : Int32)).toInt64 = sc) ∧ ((1 : Int64) <<< ((i2 &&& (31 : Int32)) &&& 0x3f).toInt64 = pw) ∧ ((q2 &&& (1099511627775 : Int64)) - (q2 &&& (1099511627775 : Int64)) / (pw + (1 : Int64)) * (pw + (1 : Int64)) = b3) ∧ (sc * bl = sb) ∧ (sc * rq = sr) ∧ (FP.ddiv (FP.l2d bl) (FP.l2d rq) = p1) ∧ (FP.ddiv (FP.l2d b2) (FP.l2d rq) = p2) ∧ (FP.ddiv (FP.l2d sb) (FP.l2d sr) = p3) ∧ (FP.ddiv (FP.l2d b3) (FP.l2d pw) = p4) ∧ (FP.dmul (FP.l2d b3) (FP.ddiv FP.dconst1 (FP.l2d pw)) = p5) ∧ (rq + (1 : Int64) ≠ 0) ∧ (pw + (1 : Int64) ≠ 0) ∧ (Jvm.Free.Fl.NoNaN64 p1) ∧ (Jvm.Free.Fl.NoNaN64 p2) ∧ (Jvm.Free.Fl.NoNaN64 p3) ∧ (Jvm.Free.Fl.NoNaN64 p4) ∧ (Jvm.Free.Fl.NoNaN64 p5) ∧ (Jvm.Free.Fl.NoNaN64 (FP.ddiv FP.dconst1 (FP.l2d pw))) ∧ (¬ 0 < cmpValue (FP.dcmp FP.dconst0 p1) .g) ∧ (¬ 0 < cmpValue (FP.dcmp p1 FP.dconst1) .g) ∧ (cmpValue (FP.dcmp p1 FP.dconst0) .l = 0 ↔ lcmpW bl (0 : Int64) = 0) ∧ (cmpValue (FP.dcmp p1 FP.dconst1) .l = 0 ↔ lcmpW bl rq = 0) ∧ (lcmpW bl b2 < 0 → cmpValue (FP.dcmp p1 p2) .g < 0) ∧ (0 < lcmpW bl b2 → 0 < cmpValue (FP.dcmp p1 p2) .l) ∧ (¬ lcmpW bl b2 < 0 → ¬ 0 < lcmpW bl b2 → cmpValue (FP.dcmp p1 p2) .l = 0) ∧ (cmpValue (FP.dcmp p3 p1) .l = 0) ∧ (cmpValue (FP.dcmp p4 p5) .l = 0) := by
  have one : (1 : Int64).toInt = 1 := by decide
  obtain ⟨a1, a2⟩ := own_mask q1
  obtain ⟨c1, c2⟩ := own_mask q2
  obtain ⟨e1, e2⟩ := own_mask q3
  obtain ⟨rq, hrq⟩ : ∃ z, (1 : Int64) + (q1 &&& (1099511627775 : Int64)) = z := ⟨_, rfl⟩
  have trq : rq.toInt = 1 + (q1 &&& (1099511627775 : Int64)).toInt := by
    rw [← hrq]; exact Jvm.Kit.i64_add (by rw [one]; omega) (by rw [one]; omega)
  have rq1 : 0 < rq.toInt := by omega
  have rq2 : rq.toInt ≤ 1099511627776 := by omega
  obtain ⟨bl, hbl⟩ : ∃ z, (q2 &&& (1099511627775 : Int64)) - (q2 &&& (1099511627775 : Int64)) / (rq + (1 : Int64)) * (rq + (1 : Int64)) = z := ⟨_, rfl⟩
  obtain ⟨bl1, bl2⟩ := own_rem c1 rq1 (by omega)
  rw [hbl] at bl1 bl2
  obtain ⟨b2, hb2⟩ : ∃ z, (q3 &&& (1099511627775 : Int64)) - (q3 &&& (1099511627775 : Int64)) / (rq + (1 : Int64)) * (rq + (1 : Int64)) = z := ⟨_, rfl⟩
  obtain ⟨b21, b22⟩ := own_rem e1 rq1 (by omega)
  rw [hb2] at b21 b22
  have hm : (i1 &&& (4095 : Int32)).toInt = i1.toInt % 2 ^ 12 := Jvm.Kit.i32_mask i1 _ (by decide) (by decide)
  obtain ⟨sc, hsc⟩ : ∃ z, (1 : Int64) + (i1 &&& (4095 : Int32)).toInt64 = z := ⟨_, rfl⟩
  have tsc : sc.toInt = 1 + (i1 &&& (4095 : Int32)).toInt := by
    rw [← hsc, Jvm.Kit.i64_add (by rw [one, Jvm.Kit.i64_of_i32]; omega) (by rw [one, Jvm.Kit.i64_of_i32]; omega), one, Jvm.Kit.i64_of_i32]
  have sc1 : 1 ≤ sc.toInt := by omega
  have sc2 : sc.toInt ≤ 4096 := by omega
  obtain ⟨pw, hpw⟩ : ∃ z, (1 : Int64) <<< ((i2 &&& (31 : Int32)) &&& 0x3f).toInt64 = z := ⟨_, rfl⟩
  obtain ⟨j, hj, tpw⟩ := own_pw i2
  rw [hpw] at tpw
  have pj1 : (1 : Nat) ≤ 2 ^ j := Nat.one_le_two_pow
  have pj2 : (2 : Nat) ^ j ≤ 2 ^ 31 := Nat.pow_le_pow_right (by decide) hj
  have pw1 : 0 < pw.toInt := by omega
  have pw2 : pw.toInt ≤ 2147483648 := by omega
  obtain ⟨b3, hb3⟩ : ∃ z, (q2 &&& (1099511627775 : Int64)) - (q2 &&& (1099511627775 : Int64)) / (pw + (1 : Int64)) * (pw + (1 : Int64)) = z := ⟨_, rfl⟩
  obtain ⟨b31, b32⟩ := own_rem c1 pw1 (by omega)
  rw [hb3] at b31 b32
  obtain ⟨sb, hsb⟩ : ∃ z, sc * bl = z := ⟨_, rfl⟩
  obtain ⟨sr, hsr⟩ : ∃ z, sc * rq = z := ⟨_, rfl⟩
  have ub : sc.toInt * bl.toInt ≤ 4096 * 1099511627776 := Int.mul_le_mul sc2 (by omega) bl1 (by decide)
  have ur : sc.toInt * rq.toInt ≤ 4096 * 1099511627776 := Int.mul_le_mul sc2 rq2 (by omega) (by decide)
  have lb : 0 ≤ sc.toInt * bl.toInt := Int.mul_nonneg (by omega) bl1
  have lr : 0 < sc.toInt * rq.toInt := Int.mul_pos (by omega) rq1
  have tsb : sb.toInt = sc.toInt * bl.toInt := by rw [← hsb]; exact Jvm.Kit.i64_mul (by omega) (by omega)
  have tsr : sr.toInt = sc.toInt * rq.toInt := by rw [← hsr]; exact Jvm.Kit.i64_mul (by omega) (by omega)
  have v1 := own_div (b := bl) (r := rq) bl1 (by omega) rq1 (by omega)
  have v2 := own_div (b := b2) (r := rq) b21 (by omega) rq1 (by omega)
  have v3 := own_div (b := sb) (r := sr) (by omega) (by omega) (by omega) (by omega)
  have v4 := own_div (b := b3) (r := pw) b31 (by omega) pw1 (by omega)
  have v6 := own_div (b := 1) (r := pw) (by decide) (by decide) pw1 (by omega)
  rw [show FP.l2d 1 = FP.dconst1 by decide +kernel, show (1 : Int64).toInt.toNat = 1 by decide] at v6
  obtain ⟨B, hB⟩ : ∃ z, z = bl.toInt.toNat := ⟨_, rfl⟩
  obtain ⟨B2, hB2⟩ : ∃ z, z = b2.toInt.toNat := ⟨_, rfl⟩
  obtain ⟨R, hR⟩ : ∃ z, z = rq.toInt.toNat := ⟨_, rfl⟩
  have R1 : 0 < R := by omega
  have R2 : R ≤ 2 ^ 40 := by omega
  have BR : B ≤ R := by omega
  have v3' : Core.roundRatio Core.b64 false sb.toInt.toNat sr.toInt.toNat 0 = Core.roundRatio Core.b64 false B R 0 := by
    refine Core.roundRatio_congr (by omega) R1 ?_
    rw [Int.sub_self]
    show sb.toInt.toNat * R * 1 = B * sr.toInt.toNat * 1
    rw [Nat.mul_one, Nat.mul_one, tsb, tsr, Int.toNat_mul (by omega) bl1, Int.toNat_mul (by omega) (by omega), ← hB, ← hR]
    ac_rfl
  rw [v3'] at v3
  rw [← hB, ← hR] at v1
  rw [← hB2, ← hR] at v2
  have tpw' : pw.toInt.toNat = 2 ^ j := by omega
  rw [tpw'] at v4 v6
  have hj50 : 2 ^ (50 - j) * 2 ^ j = 2 ^ 50 := by rw [← Nat.pow_add]; congr 1; omega
  have hb3n : b3.toInt.toNat ≤ 2 ^ j := by omega
  have hlt : b3.toInt.toNat * 2 ^ (50 - j) ≤ 2 ^ 50 := by
    rw [← hj50, Nat.mul_comm]; exact Nat.mul_le_mul_left _ hb3n
  have hle : 2 ^ (50 - j) ≤ 2 ^ 50 := Nat.pow_le_pow_right (by decide) (by omega)
  have D4 : Dy ((b3.toInt.toNat * 2 ^ (50 - j) : Nat) : Int) 50 (FP.ddiv (FP.l2d b3) (FP.l2d pw)) :=
    own_qDy v4 (Nat.two_pow_pos _) (Nat.lt_of_le_of_lt hlt (by decide)) (by rw [Nat.mul_assoc, hj50])
  have D6 : Dy ((2 ^ (50 - j) : Nat) : Int) 50 (FP.ddiv FP.dconst1 (FP.l2d pw)) :=
    own_qDy v6 (Nat.two_pow_pos _) (Nat.lt_of_le_of_lt hle (by decide)) (by rw [Nat.one_mul, hj50])
  have D3 : Dy b3.toInt 0 (FP.l2d b3) := Dy.l2d (by omega)
  have hcast : b3.toInt * ((2 ^ (50 - j) : Nat) : Int) = ((b3.toInt.toNat * 2 ^ (50 - j) : Nat) : Int) := by
    rw [Int.natCast_mul, Int.toNat_of_nonneg b31]
  have D5 : Dy ((b3.toInt.toNat * 2 ^ (50 - j) : Nat) : Int) 50 (FP.dmul (FP.l2d b3) (FP.ddiv FP.dconst1 (FP.l2d pw))) :=
    (D3.mul D6 (by decide) (by rw [hcast, Int.natAbs_natCast]; exact Nat.lt_of_le_of_lt hlt (by decide))).conv hcast rfl
  have kpos : 0 < own_K := own_K_pos
  have q0 := own_bit (own_cmpQ own_v0 v1 .g)
  have q1' := own_bit (own_cmpQ v1 own_v1 .g)
  have qz := own_bit (own_cmpQ v1 own_v0 .l)
  have qo := own_bit (own_cmpQ v1 own_v1 .l)
  have qg := own_bit (own_cmpQ v1 v2 .g)
  have ql := own_bit (own_cmpQ v1 v2 .l)
  have qs := own_bit (own_cmpQ v3 v1 .l)
  rw [own_pz0] at q0 qz
  have top : own_pz B R ≤ own_pz 1 1 := by
    rw [own_pz1]; exact own_le50 R1 (by decide) (by rw [Nat.mul_comm]; exact Nat.mul_le_mul_left _ BR)
  have zer : own_pz B R = 0 ↔ B = 0 := by
    constructor
    · intro h
      by_cases hb : B = 0
      · exact hb
      · have := own_ge50 (B := B) (n := 1) R1 (by decide) (by omega)
        generalize own_K = K at kpos this
        omega
    · intro h
      have := own_le50 (B := B) (n := 0) R1 (by decide) (by omega)
      rw [Nat.zero_mul] at this
      omega
  have onn : own_pz B R = own_pz 1 1 ↔ B = R := by
    rw [own_pz1]
    constructor
    · intro h
      by_cases hb : B = R
      · exact hb
      · have := own_le50 (B := B) (R := R) (n := 2 ^ 50 - 1) R1 (by decide) (own_lt1 (by omega) R2)
        have lt : (2 ^ 50 - 1) * own_K < 2 ^ 50 * own_K := Nat.mul_lt_mul_of_pos_right (by decide) kpos
        exact absurd h (Nat.ne_of_lt (Nat.lt_of_le_of_lt this lt))
    · intro h
      exact own_pz_exact R1 (by decide) (by rw [h, Nat.mul_comm])
  refine ⟨rq, bl, b2, sc, pw, b3, sb, sr, _, _, _, _, _, hrq, hbl, hb2, hsc, hpw, hb3, hsb, hsr, rfl, rfl, rfl, rfl, rfl, own_ne rq1 (by omega), own_ne pw1 (by omega), own_qnn v1, own_qnn v2, own_qnn v3, D4.noNaN, D5.noNaN, D6.noNaN, ?_, ?_, ?_, ?_, ?_, ?_, ?_, ?_, ?_⟩
  · rw [q0.2.2]; omega
  · rw [q1'.2.2]; omega
  · rw [qz.2.1, own_lc0, show (0 : Int64).toInt = 0 by decide]
    constructor
    · intro h; have := zer.mp h.2; omega
    · intro h; exact ⟨by omega, zer.mpr (by omega)⟩
  · rw [qo.2.1, own_lc0]
    constructor
    · intro h; have := onn.mp h.2; omega
    · intro h; have := onn.mpr (by omega); exact ⟨by omega, this⟩
  · rw [own_lclt, qg.1]
    intro h; exact own_pz_lt R1 R2 (by omega) (by omega)
  · rw [own_lcgt, ql.2.2]
    intro h; have := own_pz_lt (B := B2) (B' := B) R1 R2 (by omega) BR; omega
  · rw [own_lclt, own_lcgt, ql.2.1]
    intro h1 h2
    have : B = B2 := by omega
    rw [this]; exact ⟨Nat.lt_irrefl _, rfl⟩
  · rw [qs.2.1]; exact ⟨Nat.lt_irrefl _, rfl⟩
  · exact own_cmpV_eq D4 D5 rfl _
end Plain

set_option maxRecDepth 65536 in
set_option maxHeartbeats 40000000 in
theorem comes_1 {Post : Tables → Env → Array Value → State → Outcome → State → Prop} (hpost : ∀ tb e args s v u, (limb_1_1.after args s (.returned v) u = true ∧ limb_1_2.after args s (.returned v) u = true ∧ True) → FrameEnd s (.returned v) u (Jvm.fieldLocs frame_1_writes args s ++ Jvm.arrayLocs frame_1_arrays args s ++ Jvm.staticLocs frame_1_statics s) 16 128 → Post tb e args s (.returned v) u) :
    ArmFor flags0 classFile x code maxLocals ret World_1 tables_1 room_1 Calls_1 rest_1 Pre_1 Post := by
  intro l hfl _ _ p e ha hc hk s m args below hf hA hF happ hP
  obtain ⟨hcalls, hrest, hpre⟩ := hP
  obtain ⟨-, -, -, hnamed, -, -, -, hat⟩ := (Spec.applies_iff hf).mp happ
  obtain ⟨hg, hn⟩ := and_e (Cond.before_iff.mp (show (Jvm.Cond.and given_1 narrow_1).before args s = true from hpre))
  obtain ⟨g1, hg⟩ := and_e hg
  obtain ⟨g2, hg⟩ := and_e hg
  obtain ⟨g3, hg⟩ := and_e hg
  obtain ⟨g4, hg⟩ := and_e hg
  obtain ⟨g5, g6⟩ := and_e hg
  obtain ⟨w0, w1, w2, w3, w4, rfl⟩ : ∃ w0 w1 w2 w3 w4 : Value, args = #[w0, w1, w2, w3, w4] := by
    have hs : args.size = 5 := by simpa [Cond.value, given_1] using g1
    obtain ⟨L⟩ := args
    match L, hs with
    | [w0, w1, w2, w3, w4], _ => exact ⟨w0, w1, w2, w3, w4, rfl⟩
  have hw := fun d (hd : d ∈ tables_1) => atoms_spec (ws := Jvm.Cond.code x code maxLocals ret :: tables_1) hat d (List.mem_cons_of_mem _ hd)
  obtain ⟨i0, ei0⟩ := isL_v g2
  obtain rfl : w0 = (.long i0) := Option.some.inj ei0
  obtain ⟨i1, ei1⟩ := isL_v g3
  obtain rfl : w1 = (.long i1) := Option.some.inj ei1
  obtain ⟨i2, ei2⟩ := isL_v g4
  obtain rfl : w2 = (.long i2) := Option.some.inj ei2
  obtain ⟨i3, ei3⟩ := is_v g5
  obtain rfl : w3 = (.int i3) := Option.some.inj ei3
  obtain ⟨i4, ei4⟩ := is_v g6
  obtain rfl : w4 = (.int i4) := Option.some.inj ei4
  obtain ⟨rq, bl, b2, sc, pw, b3, sb, sr, p1, p2, p3, p4, p5, hrq, hbl, hb2, hsc, hpw, hb3, hsb, hsr, hp1, hp2, hp3, hp4, hp5, nrq, npw, n1, n2, n3, n4, n5, n6, r0, r1, zz, oo, m1, m2, m3, ss, dd⟩ := own_plain i0 i1 i2 i3 i4
  obtain ⟨n, o, h1, h2, h3, _, L, rfl, ⟨rfl, N⟩, hq⟩ := rm0 l s _ hw tables_1 i0 i1 i2 i3 i4 rq bl b2 sc pw b3 sb sr p1 p2 p3 p4 p5 s.heap s.heap.size (Nat.le_refl _) hrq hbl hb2 hsc hpw hb3 hsb hsr hp1 hp2 hp3 hp4 hp5 nrq npw n1 n2 n3 n4 n5 n6 r0 r1 zz oo m1 m2 m3 ss dd p e ha hc hk s m _ below hf ((Spec.applies_iff_loose hf).mp happ).1 ⟨rfl, State.Warmed39.refl s, rfl⟩ trivial
  refine ⟨n, _, h1, h2, h3, hpost _ _ _ _ _ _ ⟨Cond.after_iff.mpr rfl, Cond.after_iff.mpr (eq_i res_at (Term.int_eval (1)) rfl), trivial⟩ ⟨hq.1, hq.2.1, (hq.2.2.sift fun y hy => Or.inr (N y hy)).mono (by decide) (by decide)⟩⟩
theorem main_1_1 : Claimed_1_1 := comes_1 fun _ _ _ _ _ _ h hF => ⟨h.1, hF⟩
theorem main_1_2 : Claimed_1_2 := comes_1 fun _ _ _ _ _ _ h hF => ⟨h.2.1, hF⟩
end Jvm.Pilot.@@N@@
namespace Jvm.Pilot.@@N@@
open Jvm Jvm.ClassFile Sem Op Lib Jvm.Free Jvm.Stand Jvm.Pilot.@@N@@.Jvm.D
/-! MADE BY PROGRAM (witnessworld.py) out of the Statement's table words and the real class files: 9 classes; the members and pool entries that the words name. The judged class is class 1, her method 2. -/
namespace start1
open Jvm.ClassFile
def u (s : String) : CpInfo := .utf8 (stringToUtf16 s)
/-- a pool by its gaps: so many unusable entries, then the entry; so many at the end -/
def gap : Nat → List CpInfo → List CpInfo
  | 0, r => r
  | n + 1, r => .unusable :: gap n r
def poolList (es : List (Nat × CpInfo)) (last : Nat) : List CpInfo := es.foldr (fun e r => gap e.1 (e.2 :: r)) (gap last [])
def pool (es : List (Nat × CpInfo)) (last : Nat) : Array CpInfo := ⟨poolList es last⟩
def fileOf (pool : Array CpInfo) (this : Nat) (attrs : Array Attribute := #[]) (ms : Array MethodInfo := #[]) (fl : Nat := 33) (sup : Nat := 0) (ifs : Array Nat := #[]) (fds : Array FieldInfo := #[]) : ClassFile where
  minorVersion := 0
  majorVersion := 65
  constantPool := pool
  accessFlags := fl
  thisClass := this
  superClass := sup
  interfaces := ifs
  fields := fds
  methods := ms
  attributes := attrs
def plain (name : String) (sup : Option ClassId) : Class where
  name := name
  kind := .ordinary
  loader := none
  accessFlags := 33
  super := sup
  interfaces := #[]
  cf := none
  fields := #[]
  methods := #[]
  instanceTypes := #[]
  staticTypes := #[]
  resolved := #[]
  callSites := []
  init := .initialized
  statics := none
  mirror := none

def pool0 : Array CpInfo := pool [(5, u "<init>"), (0, u "()V"), (1, .class_ 10), (1, u "java/lang/Object")] 113

def k0c0 : Code := { maxStack := 0, maxLocals := 1, code := object_method_1_code, exceptionTable := #[], attributes := #[] }
def k0m0 : Method := { name := "<init>", desc := "()V", sig := { parameters := [], returnType := none }, accessFlags := 1, code := some k0c0 }
/-- java/lang/Object -/
def k0 : Class := { plain "java/lang/Object" none with
  accessFlags := 33
  interfaces := #[]
  cf := some (fileOf pool0 8 #[] #[{ accessFlags := 1, nameIndex := 5, descriptorIndex := 6, attributes := #[] }] 33 0 #[] #[])
  fields := #[]
  methods := #[k0m0]
  instanceTypes := #[]
  staticTypes := #[]
  resolved := Array.replicate 124 none
  statics := none }

def pool1 : Array CpInfo := pool [(2, .class_ 4), (1, u "java/lang/Object"), (0, u "<init>"), (0, u "()V"), (0, .class_ 8), (0, u "com/example/polku/polku/simulator/RunResult"), (0, .methodref 7 10), (0, .nameAndType 5 11), (0, u "(JJDDDJLcom/example/polku/polku/provisioning/FailureCount;)V"), (0, .methodref 7 13), (0, .nameAndType 14 15), (0, u "getBlockingProbability"), (0, u "()D"), (0, .long 1099511627775), (1, .methodref 19 20), (0, .class_ 21), (0, .nameAndType 22 23), (0, u "com/example/polku/polku/simulator/RunResultGetBlockingProbabilityPinLaw"), (0, u "prob"), (0, u "(JJ)D"), (2, u "law"), (0, u "(JJJII)Z")] 3

def k1m0 : Method := { name := "<init>", desc := "()V", sig := { parameters := [], returnType := none }, accessFlags := 1, code := none }
def k1c1 : Code := { maxStack := 15, maxLocals := 5, code := method_2_code, exceptionTable := #[], attributes := #[] }
def k1m1 : Method := { name := "prob", desc := "(JJ)D", sig := { parameters := [.long, .long], returnType := some .double }, accessFlags := 10, code := some k1c1 }
def k1c2 : Code := { maxStack := 8, maxLocals := 36, code := code, exceptionTable := #[], attributes := #[] }
def k1m2 : Method := { name := "law", desc := "(JJJII)Z", sig := { parameters := [.long, .long, .long, .int, .int], returnType := some .boolean }, accessFlags := 9, code := some k1c2 }
/-- com/example/polku/polku/simulator/RunResultGetBlockingProbabilityPinLaw -/
def k1 : Class := { plain "com/example/polku/polku/simulator/RunResultGetBlockingProbabilityPinLaw" (some 0) with
  accessFlags := 49
  interfaces := #[]
  cf := some (fileOf pool1 19 #[] #[{ accessFlags := 1, nameIndex := 5, descriptorIndex := 6, attributes := #[] }, { accessFlags := 10, nameIndex := 22, descriptorIndex := 23, attributes := #[] }, { accessFlags := 9, nameIndex := 26, descriptorIndex := 27, attributes := #[] }] 49 2 #[] #[])
  fields := #[]
  methods := #[k1m0, k1m1, k1m2]
  instanceTypes := #[]
  staticTypes := #[]
  resolved := Array.replicate 31 none
  statics := none }

def pool2 : Array CpInfo := pool [(1, .methodref 2 3), (0, .class_ 4), (0, .nameAndType 5 6), (0, u "java/lang/Object"), (0, u "<init>"), (0, u "()V"), (0, .fieldref 8 9), (0, .class_ 10), (0, .nameAndType 11 12), (0, u "com/example/polku/polku/simulator/RunResult"), (0, u "blocked"), (0, u "J"), (0, .fieldref 8 14), (0, .nameAndType 15 12), (0, u "requests"), (0, .fieldref 8 17), (0, .nameAndType 18 19), (0, u "blockedRateGbps"), (0, u "D"), (0, .fieldref 8 21), (0, .nameAndType 22 19), (0, u "offeredRateGbps"), (0, .fieldref 8 24), (0, .nameAndType 25 19), (0, u "firstRoutesKm"), (0, .fieldref 8 27), (0, .nameAndType 28 12), (0, u "firstRoutesHops"), (0, .fieldref 8 30), (0, .nameAndType 31 32), (0, u "audit"), (0, u "Lcom/example/polku/polku/provisioning/FailureCount;"), (13, u "(JJDDDJLcom/example/polku/polku/provisioning/FailureCount;)V"), (4, u "getBlockingProbability"), (0, u "()D")] 8

def k2c0 : Code := { maxStack := 3, maxLocals := 14, code := prog_64_method_1_code, exceptionTable := #[], attributes := #[] }
def k2m0 : Method := { name := "<init>", desc := "(JJDDDJLcom/example/polku/polku/provisioning/FailureCount;)V", sig := { parameters := [.long, .long, .double, .double, .double, .long, (.object "com/example/polku/polku/provisioning/FailureCount")], returnType := none }, accessFlags := 0, code := some k2c0 }
def k2c1 : Code := { maxStack := 4, maxLocals := 1, code := prog_64_method_3_code, exceptionTable := #[], attributes := #[] }
def k2m1 : Method := { name := "getBlockingProbability", desc := "()D", sig := { parameters := [], returnType := some .double }, accessFlags := 0, code := some k2c1 }
/-- com/example/polku/polku/simulator/RunResult -/
def k2 : Class := { plain "com/example/polku/polku/simulator/RunResult" (some 0) with
  accessFlags := 32
  interfaces := #[]
  cf := some (fileOf pool2 8 #[] #[{ accessFlags := 0, nameIndex := 5, descriptorIndex := 46, attributes := #[] }, { accessFlags := 0, nameIndex := 51, descriptorIndex := 52, attributes := #[] }] 32 2 #[] #[{ accessFlags := 18, nameIndex := 11, descriptorIndex := 12, attributes := #[] }, { accessFlags := 18, nameIndex := 15, descriptorIndex := 12, attributes := #[] }, { accessFlags := 18, nameIndex := 18, descriptorIndex := 19, attributes := #[] }, { accessFlags := 18, nameIndex := 22, descriptorIndex := 19, attributes := #[] }, { accessFlags := 18, nameIndex := 25, descriptorIndex := 19, attributes := #[] }, { accessFlags := 18, nameIndex := 28, descriptorIndex := 12, attributes := #[] }, { accessFlags := 18, nameIndex := 31, descriptorIndex := 32, attributes := #[] }])
  fields := #[{ name := "blocked", type := .long, accessFlags := 18, slot := 0, constantValue := 0 }, { name := "requests", type := .long, accessFlags := 18, slot := 1, constantValue := 0 }, { name := "blockedRateGbps", type := .double, accessFlags := 18, slot := 2, constantValue := 0 }, { name := "offeredRateGbps", type := .double, accessFlags := 18, slot := 3, constantValue := 0 }, { name := "firstRoutesKm", type := .double, accessFlags := 18, slot := 4, constantValue := 0 }, { name := "firstRoutesHops", type := .long, accessFlags := 18, slot := 5, constantValue := 0 }, { name := "audit", type := (.object "com/example/polku/polku/provisioning/FailureCount"), accessFlags := 18, slot := 6, constantValue := 0 }]
  methods := #[k2m0, k2m1]
  instanceTypes := #[.long, .long, .double, .double, .double, .long, (.object "com/example/polku/polku/provisioning/FailureCount")]
  staticTypes := #[]
  resolved := Array.replicate 61 none
  statics := none }

def pool3 : Array CpInfo := pool [(1, u "java/lang/Cloneable"), (0, .class_ 1), (0, u "java/lang/Object"), (0, .class_ 3)] 3

/-- java/lang/Cloneable -/
def k3 : Class := { plain "java/lang/Cloneable" (some 0) with
  accessFlags := 1537
  interfaces := #[]
  cf := some (fileOf pool3 2 #[] #[] 1537 4 #[] #[])
  fields := #[]
  methods := #[]
  instanceTypes := #[]
  staticTypes := #[]
  resolved := Array.replicate 8 none
  statics := none }

def pool4 : Array CpInfo := pool [(1, u "java/io/Serializable"), (0, .class_ 1), (0, u "java/lang/Object"), (0, .class_ 3)] 3

/-- java/io/Serializable -/
def k4 : Class := { plain "java/io/Serializable" (some 0) with
  accessFlags := 1537
  interfaces := #[]
  cf := some (fileOf pool4 2 #[] #[] 1537 4 #[] #[])
  fields := #[]
  methods := #[]
  instanceTypes := #[]
  staticTypes := #[]
  resolved := Array.replicate 8 none
  statics := none }

/-- the primitive byte -/
def k5 : Class := { plain "byte" none with kind := .primitive 'B', accessFlags := 0x411 }
/-- [B -/
def k6 : Class := { plain "[B" (some 0) with kind := .array 5 .byte, interfaces := #[3, 4], accessFlags := 1041 }

/-- the primitive int -/
def k7 : Class := { plain "int" none with kind := .primitive 'I', accessFlags := 0x411 }
/-- [I -/
def k8 : Class := { plain "[I" (some 0) with kind := .array 7 .int, interfaces := #[3, 4], accessFlags := 1041 }

def heap : Heap := #[]
def classes : Array Class := #[k0, k1, k2, k3, k4, k5, k6, k7, k8]
def interned : List (Array UInt16 × Addr) := []
def slotsUsed : Nat := 0
def theMethod : MethodId := ⟨1, 2⟩
def args0 : Array Value := #[.long 5, .long 300, .long 7, .int 3, .int 4]
def aboutOver (below : List Frame) : State where
  vm := { classes := classes, interned := interned.toArray }
  heap := heap
  slotsUsed := slotsUsed
  threads := #[{ frames := .invoking theMethod args0 :: below }]
def below0 : List Frame := [.native { method := ⟨0, 0⟩, args := #[] }]
def about1 : State := aboutOver below0
def p0 : Program := .bare "" "" ""
def e0 : Env := launch0.env 0 0 0
theorem w_frames : about1.frames = Frame.invoking theMethod args0 :: below0 := rfl
set_option maxRecDepth 65536 in
theorem w_args : argsFit about1.vm theMethod args0 = true := by decide +kernel
set_option maxRecDepth 65536 in
theorem w_heap : heapFits about1 = true := by decide +kernel
set_option maxRecDepth 65536 in
theorem w_runnable : about1.curStatus? = some .runnable := by decide +kernel
set_option maxRecDepth 65536 in
theorem w_alone : about1.alone = true := by decide +kernel
set_option maxRecDepth 65536 in
theorem w_named : about1.methodNamed? x = some theMethod := by decide +kernel
set_option maxRecDepth 65536 in
theorem w_hears : about1.hears theMethod below0 = true := by decide +kernel
set_option maxRecDepth 65536 in
theorem w_ripe : about1.ripe theMethod args0 below0 = true := by decide +kernel
theorem w_running : about1.status = .running := rfl
set_option maxRecDepth 65536 in
theorem w_room : about1.hasRoom e0.platform room_1 = true :=
  launch0.hasRoom_least _ room_1 (by decide +kernel) (by decide +kernel) (by decide +kernel) (by decide +kernel) (by decide +kernel) (by decide +kernel)
theorem allAtoms_all (ts : List Jvm.Cond) (a : Array Jvm.Value) (st : Jvm.State) : (allAtoms ts).before a st = ts.all (fun c => c.before a st) := by
  induction ts with
  | nil => rfl
  | cons c t ih =>
    show (Jvm.Cond.and c (allAtoms t)).before a st = _
    rw [Jvm.Cond.before_and, ih, List.all_cons]
def words1 : List Jvm.Cond := Jvm.Cond.code x code maxLocals ret :: tables_1
/-- a 'code' word, met by the world's own term for the bytes: nothing is compared byte by byte -/
theorem code_word {y : MethodName} {bytes : ByteArray} {mx : Nat} {rt : Option FieldType} {a : Array Value} {s : State} {m : MethodId} {meth : Method} {c : Code} (h1 : s.methodNamed? y = some m) (h2 : s.vm.method? m = some meth) (h3 : meth.code = some c) (h4 : c.code = bytes)
    (h5 : (c.maxLocals == mx && c.exceptionTable.isEmpty && decide (c.maxStack ≤ mostOperands) && decide (meth.sig.returnType = rt) && !meth.locks && decide (parseMethodDescriptor y.desc = some meth.sig)) = true) : (Jvm.Cond.code y bytes mx rt).before a s = true := by
  simp only [Bool.and_eq_true, beq_iff_eq, Bool.not_eq_true', decide_eq_true_eq] at h5
  obtain ⟨⟨⟨⟨⟨g1, g2⟩, g3⟩, g4⟩, g5⟩, g6⟩ := h5
  simp [Cond.before, Cond.holds, Cond.value, h1, h2, h3, h4, g1, g2, g3, g4, g5, g6]
def isCode : Jvm.Cond → Bool
  | .code _ _ _ _ => true
  | _ => false
theorem all_split {L : List Jvm.Cond} {P : Jvm.Cond → Bool} (h1 : L.all (fun c => isCode c || P c) = true) (h2 : ∀ c ∈ L.filter isCode, P c = true) : L.all P = true := by
  refine List.all_eq_true.mpr fun c hc => ?_
  have h := List.all_eq_true.mp h1 c hc
  rcases Bool.eq_false_or_eq_true (isCode c) with hi | hi
  · exact h2 c (List.mem_filter.mpr ⟨hc, hi⟩)
  · simpa [hi] using h
set_option maxRecDepth 65536 in
theorem w_c0 : (Jvm.Cond.code x code maxLocals ret).before args0 about1 = true := code_word (m := ⟨1, 2⟩) (meth := k1m2) (c := k1c2) (by decide +kernel) rfl rfl rfl (by decide +kernel)
set_option maxRecDepth 65536 in
theorem w_c1 : (Jvm.Cond.code ({ cls := "com/example/polku/polku/simulator/RunResultGetBlockingProbabilityPinLaw", name := "prob", desc := "(JJ)D" } : Jvm.MethodName) method_2_code (5 : Nat) (Option.some Jvm.ClassFile.FieldType.double)).before args0 about1 = true := code_word (m := ⟨1, 1⟩) (meth := k1m1) (c := k1c1) (by decide +kernel) rfl rfl rfl (by decide +kernel)
set_option maxRecDepth 65536 in
theorem w_c2 : (Jvm.Cond.code ({ cls := "com/example/polku/polku/simulator/RunResult", name := "<init>", desc := "(JJDDDJLcom/example/polku/polku/provisioning/FailureCount;)V" } : Jvm.MethodName) prog_64_method_1_code (14 : Nat) (Option.none : Option Jvm.ClassFile.FieldType)).before args0 about1 = true := code_word (m := ⟨2, 0⟩) (meth := k2m0) (c := k2c0) (by decide +kernel) rfl rfl rfl (by decide +kernel)
set_option maxRecDepth 65536 in
theorem w_c3 : (Jvm.Cond.code ({ cls := "java/lang/Object", name := "<init>", desc := "()V" } : Jvm.MethodName) object_method_1_code (1 : Nat) (Option.none : Option Jvm.ClassFile.FieldType)).before args0 about1 = true := code_word (m := ⟨0, 0⟩) (meth := k0m0) (c := k0c0) (by decide +kernel) rfl rfl rfl (by decide +kernel)
set_option maxRecDepth 65536 in
theorem w_c4 : (Jvm.Cond.code ({ cls := "com/example/polku/polku/simulator/RunResult", name := "getBlockingProbability", desc := "()D" } : Jvm.MethodName) prog_64_method_3_code (1 : Nat) (Option.some Jvm.ClassFile.FieldType.double)).before args0 about1 = true := code_word (m := ⟨2, 1⟩) (meth := k2m1) (c := k2c1) (by decide +kernel) rfl rfl rfl (by decide +kernel)
def codes1 : List Jvm.Cond := [Jvm.Cond.code x code maxLocals ret, Jvm.Cond.code ({ cls := "com/example/polku/polku/simulator/RunResultGetBlockingProbabilityPinLaw", name := "prob", desc := "(JJ)D" } : Jvm.MethodName) method_2_code (5 : Nat) (Option.some Jvm.ClassFile.FieldType.double), Jvm.Cond.code ({ cls := "com/example/polku/polku/simulator/RunResult", name := "<init>", desc := "(JJDDDJLcom/example/polku/polku/provisioning/FailureCount;)V" } : Jvm.MethodName) prog_64_method_1_code (14 : Nat) (Option.none : Option Jvm.ClassFile.FieldType), Jvm.Cond.code ({ cls := "java/lang/Object", name := "<init>", desc := "()V" } : Jvm.MethodName) object_method_1_code (1 : Nat) (Option.none : Option Jvm.ClassFile.FieldType), Jvm.Cond.code ({ cls := "com/example/polku/polku/simulator/RunResult", name := "getBlockingProbability", desc := "()D" } : Jvm.MethodName) prog_64_method_3_code (1 : Nat) (Option.some Jvm.ClassFile.FieldType.double)]
set_option maxRecDepth 65536 in
theorem codes_eq : words1.filter isCode = codes1 := rfl
theorem w_codes : ∀ c ∈ words1.filter isCode, c.before args0 about1 = true := by
  rw [codes_eq]
  intro c hc
  simp only [codes1, List.mem_cons, List.not_mem_nil, or_false] at hc
  rcases hc with rfl | rfl | rfl | rfl | rfl
  · exact w_c0
  · exact w_c1
  · exact w_c2
  · exact w_c3
  · exact w_c4
set_option maxRecDepth 65536 in
theorem w_t1 : (words1.take 24).all (fun c => isCode c || c.before args0 about1) = true := by decide +kernel
set_option maxRecDepth 65536 in
theorem w_t2 : (words1.drop 24).all (fun c => isCode c || c.before args0 about1) = true := by decide +kernel
theorem w_tables : (allAtoms (Jvm.Cond.code x code maxLocals ret :: tables_1)).before args0 about1 = true := by
  rw [allAtoms_all]
  show words1.all (fun c => c.before args0 about1) = true
  refine all_split ?_ w_codes
  rw [← List.take_append_drop 24 words1, List.all_append, w_t1, w_t2]
  rfl
set_option maxRecDepth 65536 in
theorem w_case : (Jvm.Cond.and given_1 narrow_1).before args0 about1 = true := by decide +kernel
theorem w_applies : (headSpec (Jvm.Cond.code x code maxLocals ret :: tables_1) room_1).applies x e0.platform about1 = true :=
  (Spec.applies_iff w_frames).mpr ⟨w_running, w_runnable, w_alone, w_named, w_hears, w_ripe, w_room, w_tables⟩
theorem atStart : AtStart classFile x code maxLocals ret World_1 tables_1 room_1 Calls_1 rest_1 Pre_1 launch0 p0 e0 about1 theMethod args0 below0 :=
  ⟨lists_1, trivial, launch0.admits_env _ _ _, launch0.least_env, fairChoices_fair.cas, fairChoices_fair.clock, w_frames, w_args, w_heap, w_applies, trivial, trivial, w_case⟩
end start1
theorem witness_1 : WitnessClaimed_1 := ⟨start1.p0, start1.e0, start1.about1, start1.theMethod, start1.args0, start1.below0, start1.atStart⟩
end Jvm.Pilot.@@N@@
