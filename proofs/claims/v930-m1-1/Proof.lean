import JvmDerived
import JvmDerived.Pilot.@@N@@Statement
import JvmDerived.Pilot.@@N@@Code
set_option linter.unusedVariables false
set_option linter.unusedSimpArgs false
namespace Jvm.Pilot.@@N@@
open Jvm Jvm.ClassFile Sem Op Lib Jvm.Free Jvm.Stand Jvm.LawKit Jvm.RoadKit Bundle Jvm.Pilot.@@N@@.Jvm.D
/-! exact doubles: Dy n k a: the double a is the number n * 2^-k -/
section Dyadic
open Jvm.FP
def Dy (n : Int) (k : Nat) (a : UInt64) : Prop := Core.DFin a ∧ k ≤ 1074 ∧ Core.zval Core.b64 (Core.val64 a) = n * ((2 ^ (1074 - k) : Nat) : Int)
theorem own_pow {x y z w : Nat} (h : x + y = z + w) : ((2 ^ x : Nat) : Int) * ((2 ^ y : Nat) : Int) = ((2 ^ z : Nat) : Int) * ((2 ^ w : Nat) : Int) := by
  rw [← Int.natCast_mul, ← Int.natCast_mul, ← Nat.pow_add, ← Nat.pow_add, h]
theorem own_mul4 {n m A B C D : Int} (h : A * B = C * D) : n * A * (m * B) = n * m * C * D := by
  rw [show n * A * (m * B) = n * m * (A * B) by ac_rfl, h]; ac_rfl
theorem own_rep (n : Int) (k : Nat) (hn : n.natAbs < 2 ^ 53) (hk : k ≤ 1074) :
    ∃ s c q, Core.fits Core.b64 (.fin s c q) ∧ Core.zval Core.b64 (.fin s c q) = n * ((2 ^ (1074 - k) : Nat) : Int) := by
  have hq : Core.b64.qmax = 971 := by decide
  obtain ⟨c, q, h1, h2⟩ := Core.round_exact Core.good_b64 (decide (n < 0)) (c := n.natAbs) (q := -(k : Int)) hn (by rw [Core.qmin_b64]; omega) (by omega)
  refine ⟨_, c, q, by rw [← h1]; exact Core.round_fits Core.good_b64 _, ?_⟩
  show Core.signed _ (Core.inUnits c q Core.b64.qmin) = _
  rw [h2]
  show Core.signed _ (n.natAbs * 2 ^ (-(k : Int) - Core.b64.qmin).toNat) = _
  rw [Core.signed_mul, Core.qmin_b64, show (-(k : Int) - -1074).toNat = 1074 - k by omega]
  congr 1
  show (if decide (n < 0) = true then -(n.natAbs : Int) else (n.natAbs : Int)) = n
  by_cases h : n < 0
  · rw [if_pos (decide_eq_true h)]; omega
  · rw [if_neg (by simpa using h)]; omega
theorem own_round_eq {s s' : Bool} {c c' : Nat} {q q' e0 : Int} (hV : Core.fits Core.b64 (.fin s' c' q')) (h0 : e0 ≤ Core.b64.qmin) (h0e : e0 ≤ q)
    (h : Core.signed s (Core.inUnits c q e0) = Core.zval Core.b64 (.fin s' c' q') * ((2 ^ (Core.b64.qmin - e0).toNat : Nat) : Int)) :
    Core.zval Core.b64 (Core.round Core.b64 (.fin s c q)) = Core.zval Core.b64 (.fin s' c' q') :=
  Int.le_antisymm (Core.zval_round_le Core.good_b64 hV nofun h0 h0e (Int.le_of_eq h)) (Core.zval_round_ge Core.good_b64 hV nofun h0 h0e (Int.le_of_eq h.symm))
theorem own_fin_of {x : UInt64} {s : Bool} {c : Nat} {q : Int} (hx : Core.val64 x ≠ .nan) (hV : Core.fits Core.b64 (.fin s c q))
    (hz : Core.zval Core.b64 (Core.val64 x) = Core.zval Core.b64 (.fin s c q)) : Core.DFin x := by
  show ∃ s c q, Core.val64 x = .fin s c q
  cases h : Core.val64 x with
  | nan => exact absurd h hx
  | fin s c q => exact ⟨s, c, q, rfl⟩
  | inf t =>
    exfalso
    rw [h] at hz
    have e1 : Core.zval Core.b64 (.inf t) = Core.signed t (Core.b64.tails * 2 ^ (Core.b64.exps - 2)) := rfl
    have e2 : Core.zval Core.b64 (.fin s c q) = Core.signed s (Core.inUnits c q Core.b64.qmin) := rfl
    rw [e1, e2] at hz
    have h3 := congrArg Int.natAbs hz
    rw [Core.natAbs_signed, Core.natAbs_signed] at h3
    exact absurd h3 (Nat.ne_of_gt (Core.zmag_lt_top Core.good_b64 hV))
theorem own_nn {x : UInt64} (h : Core.DFin x) : Core.val64 x ≠ .nan := by
  obtain ⟨s, c, q, e⟩ := h
  rw [e]; exact nofun
theorem Dy.nn {n : Int} {k : Nat} {a : UInt64} (h : Dy n k a) : Core.val64 a ≠ .nan := own_nn h.1
theorem Dy.noNaN {n : Int} {k : Nat} {a : UInt64} (h : Dy n k a) : Jvm.Free.Fl.NoNaN64 a := (Jvm.Free.Fl.fin64_core.mpr h.1).noNaN
theorem Dy.mul {n m : Int} {k j : Nat} {a b : UInt64} (ha : Dy n k a) (hb : Dy m j b) (hk : k + j ≤ 1074) (h : (n * m).natAbs < 2 ^ 53) : Dy (n * m) (k + j) (FP.dmul a b) := by
  obtain ⟨⟨s, c, q, ea⟩, k1, za⟩ := ha
  obtain ⟨⟨t, d, r, eb⟩, k2, zb⟩ := hb
  have fa : Core.fits Core.b64 (.fin s c q) := ea ▸ Core.val64_fits a
  have fb : Core.fits Core.b64 (.fin t d r) := eb ▸ Core.val64_fits b
  obtain ⟨e1, e2, e3⟩ := Core.product_units fa fb
  have hv : Core.val64 (FP.dmul a b) = Core.round Core.b64 (.fin (s != t) (c * d) (q + r)) := by
    show Core.val64 (Core.dmul a b) = _
    rw [Core.val64_dmul, ea, eb, e1]
  obtain ⟨s', c', q', hV, zV⟩ := own_rep (n * m) (k + j) h hk
  rw [ea] at za
  rw [eb] at zb
  have hz : Core.zval Core.b64 (Core.val64 (FP.dmul a b)) = Core.zval Core.b64 (.fin s' c' q') := by
    rw [hv]
    refine own_round_eq hV (e0 := 2 * Core.b64.qmin) (by rw [Core.qmin_b64]; decide) e2 ?_
    have e4 : Core.signed (s != t) (Core.zmag Core.b64 (.fin s c q) * Core.zmag Core.b64 (.fin t d r)) = Core.zval Core.b64 (.fin s c q) * Core.zval Core.b64 (.fin t d r) := Core.signed_xor s t _ _
    rw [e3, e4, za, zb, zV]
    exact own_mul4 (own_pow (by rw [Core.qmin_b64]; omega))
  refine ⟨own_fin_of ?_ hV hz, hk, hz.trans zV⟩
  rw [hv]
  exact Core.roundRatio_ne_nan _ _ _ _ _
theorem Dy.add {n m : Int} {k : Nat} {a b : UInt64} (ha : Dy n k a) (hb : Dy m k b) (h : (n + m).natAbs < 2 ^ 53) : Dy (n + m) k (FP.dadd a b) := by
  obtain ⟨⟨s, c, q, ea⟩, k1, za⟩ := ha
  obtain ⟨⟨t, d, r, eb⟩, k2, zb⟩ := hb
  have fa : Core.fits Core.b64 (.fin s c q) := ea ▸ Core.val64_fits a
  have fb : Core.fits Core.b64 (.fin t d r) := eb ▸ Core.val64_fits b
  obtain ⟨sg, u, w, e1, e2, e3⟩ := Core.sum_units fa fb
  have hv : Core.val64 (FP.dadd a b) = Core.round Core.b64 (.fin sg u w) := by
    show Core.val64 (Core.dadd a b) = _
    rw [Core.val64_dadd, ea, eb, e1]
  obtain ⟨s', c', q', hV, zV⟩ := own_rep (n + m) k h k1
  rw [ea] at za
  rw [eb] at zb
  have hz : Core.zval Core.b64 (Core.val64 (FP.dadd a b)) = Core.zval Core.b64 (.fin s' c' q') := by
    rw [hv]
    refine own_round_eq hV (e0 := Core.b64.qmin) (Int.le_refl _) e2 ?_
    rw [e3, za, zb, zV, Int.sub_self, ← Int.add_mul]
    exact (Int.mul_one _).symm
  refine ⟨own_fin_of ?_ hV hz, k1, hz.trans zV⟩
  rw [hv]
  exact Core.roundRatio_ne_nan _ _ _ _ _
theorem Dy.cmp {n m : Int} {k : Nat} {a b : UInt64} (ha : Dy n k a) (hb : Dy m k b) : FP.dcmp a b = some (compare n m) := by
  have h := Core.order_zval Core.good_b64 (Core.val64_fits a) (Core.val64_fits b) ha.nn hb.nn
  rw [ha.2.2, hb.2.2, Core.compare_mul_pos _ _ _ (Int.ofNat_lt.mpr (Nat.two_pow_pos _))] at h
  exact h
theorem Dy.up {n : Int} {k : Nat} {a : UInt64} (j : Nat) (h : Dy n k a) (hk : k + j ≤ 1074) : Dy (n * ((2 ^ j : Nat) : Int)) (k + j) a := by
  refine ⟨h.1, hk, ?_⟩
  rw [h.2.2, Int.mul_assoc, ← Int.natCast_mul, ← Nat.pow_add, show j + (1074 - (k + j)) = 1074 - k by omega]
theorem Dy.of_whole {i : Int} {a : UInt64} (h : Core.Whole i (Core.val64 a)) : Dy i 0 a := by
  cases hv : Core.val64 a with
  | nan => rw [hv] at h; exact h.elim
  | inf s => rw [hv] at h; exact h.elim
  | fin s c q =>
    rw [hv] at h
    have f : Core.fits Core.b64 (.fin s c q) := hv ▸ Core.val64_fits a
    have w := Core.whole_units h f.2.1
    refine ⟨⟨s, c, q, hv⟩, Nat.zero_le _, ?_⟩
    rw [hv]
    show Core.signed s (Core.inUnits c q Core.b64.qmin) = _
    rw [show ((2 ^ Core.b64.qmin.toNat : Nat) : Int) = 1 by rw [Core.qmin_b64]; rfl, Int.mul_one, show (-Core.b64.qmin).toNat = 1074 - 0 by rw [Core.qmin_b64]; rfl] at w
    exact w
theorem Dy.i2d (x : Int32) : Dy x.toInt 0 (FP.i2d x) := Dy.of_whole (Core.i2d_int x)
theorem Dy.l2d {x : Int64} (h : x.toInt.natAbs ≤ 2 ^ 53) : Dy x.toInt 0 (FP.l2d x) := Dy.of_whole (Core.l2d_int h)
theorem Dy.abs {n : Int} {k : Nat} {a : UInt64} (h : Dy n k a) : Dy (n.natAbs : Int) k (a &&& 0x7fffffffffffffff) := by
  have hf : Core.DFin (a &&& 0x7fffffffffffffff) := Jvm.Free.Fl.fin64_core.mp (Jvm.RoadKit.abs_fin (Jvm.Free.Fl.fin64_core.mpr h.1))
  have ht := Jvm.Free.Fl.abs_toNat a
  have e1 := Core.sgn_bits (own_nn hf)
  have e2 := Core.zmag_bits (own_nn hf)
  have e3 := Core.zmag_bits h.nn
  refine ⟨hf, h.2.1, ?_⟩
  have hn := congrArg Int.natAbs h.2.2
  rw [show Core.zval Core.b64 (Core.val64 a) = Core.signed (Core.sgn (Core.val64 a)) (Core.zmag Core.b64 (Core.val64 a)) from rfl, Core.natAbs_signed, Int.natAbs_mul, Int.natAbs_natCast] at hn
  rw [show Core.zval Core.b64 (Core.val64 (a &&& 0x7fffffffffffffff)) = Core.signed (Core.sgn (Core.val64 (a &&& 0x7fffffffffffffff))) (Core.zmag Core.b64 (Core.val64 (a &&& 0x7fffffffffffffff))) from rfl, e1, e2, ht,
    show a.toNat % 9223372036854775808 % 2 ^ 63 = a.toNat % 2 ^ 63 by omega, ← e3, hn]
  rw [show decide (2 ^ 63 ≤ a.toNat % 9223372036854775808) = false by rw [decide_eq_false_iff_not]; omega]
  exact Int.natCast_mul _ _
theorem Dy.conv {n m : Int} {k j : Nat} {a : UInt64} (h : Dy n k a) (e1 : n = m) (e2 : k = j) : Dy m j a := by subst e1 e2; exact h
theorem own_cmpV_eq {n m : Int} {k : Nat} {a b : UInt64} (ha : Dy n k a) (hb : Dy m k b) (e : n = m) (o : CmpOp) : cmpValue (FP.dcmp a b) o = 0 := by
  rw [ha.cmp hb, e, Core.compare_self_int]; rfl
theorem own_cmpV {n m : Int} {k : Nat} {a b : UInt64} (ha : Dy n k a) (hb : Dy m k b) (o : CmpOp) : cmpValue (FP.dcmp a b) o = if n < m then -1 else if n = m then 0 else 1 := by
  rw [ha.cmp hb, Core.compare_ite]
  by_cases h1 : n < m
  · rw [if_pos h1, if_pos h1]; rfl
  · rw [if_neg h1, if_neg h1]
    by_cases h2 : n = m
    · rw [if_pos h2, if_pos h2]; rfl
    · rw [if_neg h2, if_neg h2]; rfl
theorem own_d0 : Dy 0 0 FP.dconst0 := ⟨⟨false, 0, -1074, by decide +kernel⟩, by decide, by decide +kernel⟩
theorem own_d1 : Dy 1 0 FP.dconst1 := ⟨⟨false, 2 ^ 52, -52, by decide +kernel⟩, by decide, by decide +kernel⟩
end Dyadic

theorem d1_0 : decode prog_51_method_5_code 0 = .ok (.aload_n 0, 1) := by decide +kernel
theorem d1_1 : decode prog_51_method_5_code 1 = .ok (.getfield 32, 3) := by decide +kernel
theorem d1_4 : decode prog_51_method_5_code 4 = .ok (.dconst 0, 1) := by decide +kernel
theorem d1_5 : decode prog_51_method_5_code 5 = .ok (.dcmp .l, 1) := by decide +kernel
theorem d1_6 : decode prog_51_method_5_code 6 = .ok (.ifCond .le 18, 3) := by decide +kernel
theorem d1_9 : decode prog_51_method_5_code 9 = .ok (.dload_n 1, 1) := by decide +kernel
theorem d1_10 : decode prog_51_method_5_code 10 = .ok (.aload_n 0, 1) := by decide +kernel
theorem d1_11 : decode prog_51_method_5_code 11 = .ok (.getfield 32, 3) := by decide +kernel
theorem d1_14 : decode prog_51_method_5_code 14 = .ok (.dload_n 3, 1) := by decide +kernel
theorem d1_15 : decode prog_51_method_5_code 15 = .ok (.dmul, 1) := by decide +kernel
theorem d1_16 : decode prog_51_method_5_code 16 = .ok (.dcmp .l, 1) := by decide +kernel
theorem d1_17 : decode prog_51_method_5_code 17 = .ok (.ifCond .lt 7, 3) := by decide +kernel
theorem d1_20 : decode prog_51_method_5_code 20 = .ok (.iconst 1, 1) := by decide +kernel
theorem d1_21 : decode prog_51_method_5_code 21 = .ok (.goto 4, 3) := by decide +kernel
theorem d1_24 : decode prog_51_method_5_code 24 = .ok (.iconst 0, 1) := by decide +kernel
theorem d1_25 : decode prog_51_method_5_code 25 = .ok (.ireturn, 1) := by decide +kernel
theorem pn_1 : plainName "com/example/polku/polku/provisioning/Promise" = true := by first | (simp [plainName, overriddenIn]; done) | decide +kernel
theorem pn_0 : plainName "com/example/polku/polku/provisioning/PromiseIsKeptPinLaw" = true := by first | (simp [plainName, overriddenIn]; done) | decide +kernel
theorem pd_1 : parseMethodDescriptor "(DD)Z" = some ⟨[.double, .double], some .boolean⟩ := by decide +kernel
/-- what isKept answers -/
def own_kept (sh c r : UInt64) : Int32 := if 0 < cmpValue (FP.dcmp sh FP.dconst0) .l then (if cmpValue (FP.dcmp c (FP.dmul sh r)) .l < 0 then 0 else 1) else 0
theorem ef_1 (m : MethodId) (x0 : Addr) (x1 x2 : UInt64) : entryFrame m #[(.ref x0), (.double x1), (.double x2)] 5 = mkF m 0 #[.val (.ref x0), .val (.double x1), .second, .val (.double x2), .second] [] := by first | (simp [entryFrame, mkF, argsToLocals, Value.category]; done) | rfl
theorem ef_0 (m : MethodId) (x0 x1 x2 : Int32) : entryFrame m #[(.int x0), (.int x1), (.int x2)] maxLocals = mkF m 0 #[.val (.int x0), .val (.int x1), .val (.int x2), .unset, .unset, .unset, .unset] [] := by first | (simp [entryFrame, mkF, argsToLocals, Value.category, maxLocals]; done) | rfl
def Q1 (Z : State) (a1 : Addr) (sh q2 q3 : UInt64) (h0 : Heap) (n0 : Nat) (v : Option Value) (h : Heap) (L : List Loc) : Prop := v = some (.int (own_kept sh q2 q3)) ∧ Fr n0 L ∧ h = h0
set_option maxRecDepth 65536 in
set_option maxHeartbeats 40000000 in
theorem rm1 (l : Launch) (Z : State) (a0 : Array Value) (hw : ∀ d ∈ tables_1, d.before a0 Z = true) (ws : List Jvm.Cond) (a1 : Addr) (sh q2 q3 : UInt64) (h0 : Heap) (n0 : Nat) (Z0 : n0 ≤ h0.size) (F1 : Fld Z h0 a1 "com/example/polku/polku/provisioning/Promise" "share" "D" (.double sh)) (hnn : Jvm.Free.Fl.NoNaN64 (FP.dmul sh q3)) :
    MetFree l (⟨"com/example/polku/polku/provisioning/Promise", "isKept", "(DD)Z"⟩ : MethodName) (head1 (Jvm.Cond.code (⟨"com/example/polku/polku/provisioning/Promise", "isKept", "(DD)Z"⟩ : MethodName) prog_51_method_5_code 5 (some .boolean) :: ws) ({ frames := 0, cells := 0, slots := 0, locals := 0 } : Room)) (fun a U => a = #[(.ref a1), (.double q2), (.double q3)] ∧ Z.Warmed39 U.vm ∧ U.heap = h0) (fun _ _ _ _ _ => True) (fun _ U o U' => ∃ v L, o = .returned v ∧ Q1 Z a1 sh q2 q3 h0 n0 v U'.heap L ∧ FrameEnd U o U' L ({ frames := 0, cells := 0, slots := 0, locals := 0 } : Room).cells ({ frames := 0, cells := 0, slots := 0, locals := 0 } : Room).slots) := by
  refine MetFree.of_bodySF (plainFor_of_name pn_1) hisR ?_
  intro p e s m args below meth c s₁ Bd hml0 hP hK
  obtain ⟨rfl, hZ, hh⟩ := hP
  have hx := Bd.exec
  have hby := Bd.bytes
  have hml : c.maxLocals = 5 := hml0
  have hown : s.vm.findClass "com/example/polku/polku/provisioning/Promise" = some m.cls := findClass_of_methodNamed Bd.named
  have hnm := (name_of_methodNamed Bd.named Bd.method).1
  have X0 : Stand p l e ({ frames := 0, cells := 0, slots := 0, locals := 0 } : Room) s m #[(.ref a1), (.double q2), (.double q3)] below meth c s₁ [] 0 0 := Stand.of_body Bd
  have e0 : s₁.heap = h0 := by rw [← hh, Bd.state]; rfl
  have N0 := Fr.nil n0
  have pre0 : ∀ t, Steps p.tables e below (s₁.setTop (mkF m 0 #[.val (.ref a1), .val (.double q2), .second, .val (.double q3), .second] [])) t → Steps p.tables e below (s₁.setTop (entryFrame m #[(.ref a1), (.double q2), (.double q3)] 5)) t := fun t k => castTop (ef_1 m a1 q2 q3) k
  obtain ⟨T1, X1, e1, st1⟩ := getF X0 hx hZ hown (host := "") (Or.inl (hw _ (List.mem_of_getElem? (i := 9) rfl))) Via.refl e0 F1 (g := (mkF m 1 #[.val (.ref a1), .val (.double q2), .second, .val (.double q3), .second] [(.ref a1)])) rfl rfl (hb hby d1_1)
  obtain ⟨T2, X2, e2, st2⟩ := getF X1 hx hZ hown (host := "") (Or.inl (hw _ (List.mem_of_getElem? (i := 9) rfl))) Via.refl e1 F1 (g := (mkF m 11 #[.val (.ref a1), .val (.double q2), .second, .val (.double q3), .second] [(.ref a1), (.double q2)])) rfl rfl (hb hby d1_11)
  by_cases hA : 0 < cmpValue (FP.dcmp sh FP.dconst0) .l
  · by_cases hB : cmpValue (FP.dcmp q2 (FP.dmul sh q3)) .l < 0
    · have hk : own_kept sh q2 q3 = 0 := by unfold own_kept; rw [if_pos hA, if_pos hB]
      obtain ⟨fs, hr, hrun, hended, hW, hsame⟩ := X2.leave (v := some (.int (0 : Int32))) (fun h => by rw [Bd.returns] at h; cases h)
      refine ⟨_, _, pre0 _ ?_, hrun, hended, _, _, rfl, ?_, ⟨_, rfl⟩, hW, hsame.mono (by decide) (by decide)⟩
      · show Steps p.tables e below (s₁.setTop (mkF m 0 #[.val (.ref a1), .val (.double q2), .second, .val (.double q3), .second] [])) _
        refine XS.aloadN X0.here hx rfl (hb hby d1_0) rfl rfl ?_
        show Steps p.tables e below (s₁.setTop (mkF m 1 #[.val (.ref a1), .val (.double q2), .second, .val (.double q3), .second] [(.ref a1)])) _
        refine st1 _ ?_
        show Steps p.tables e below (T1.setTop (mkF m 4 #[.val (.ref a1), .val (.double q2), .second, .val (.double q3), .second] [(.double sh)])) _
        refine XS.dconst0 X1.here hx rfl (hb hby d1_4) rfl ?_
        show Steps p.tables e below (T1.setTop (mkF m 5 #[.val (.ref a1), .val (.double q2), .second, .val (.double q3), .second] [(.double FP.dconst0), (.double sh)])) _
        refine XS.dcmpS X1.here hx rfl (hb hby d1_5) rfl rfl ?_
        show Steps p.tables e below (T1.setTop (mkF m 6 #[.val (.ref a1), .val (.double q2), .second, .val (.double q3), .second] [(.int (cmpValue (FP.dcmp sh FP.dconst0) .l))])) _
        refine XS.ifNo X1.here hx rfl (hb hby d1_6) rfl ((if0 _ _).trans (tlt hA).2.2.2) ?_
        show Steps p.tables e below (T1.setTop (mkF m 9 #[.val (.ref a1), .val (.double q2), .second, .val (.double q3), .second] [])) _
        refine XS.dloadN X1.here hx rfl (hb hby d1_9) rfl ?_
        show Steps p.tables e below (T1.setTop (mkF m 10 #[.val (.ref a1), .val (.double q2), .second, .val (.double q3), .second] [(.double q2)])) _
        refine XS.aloadN X1.here hx rfl (hb hby d1_10) rfl rfl ?_
        show Steps p.tables e below (T1.setTop (mkF m 11 #[.val (.ref a1), .val (.double q2), .second, .val (.double q3), .second] [(.ref a1), (.double q2)])) _
        refine st2 _ ?_
        show Steps p.tables e below (T2.setTop (mkF m 14 #[.val (.ref a1), .val (.double q2), .second, .val (.double q3), .second] [(.double sh), (.double q2)])) _
        refine XS.dloadN X2.here hx rfl (hb hby d1_14) rfl ?_
        show Steps p.tables e below (T2.setTop (mkF m 15 #[.val (.ref a1), .val (.double q2), .second, .val (.double q3), .second] [(.double q3), (.double sh), (.double q2)])) _
        refine XS.dmulS X2.here hx rfl (hb hby d1_15) rfl hnn rfl ?_
        show Steps p.tables e below (T2.setTop (mkF m 16 #[.val (.ref a1), .val (.double q2), .second, .val (.double q3), .second] [(.double (FP.dmul sh q3)), (.double q2)])) _
        refine XS.dcmpS X2.here hx rfl (hb hby d1_16) rfl rfl ?_
        show Steps p.tables e below (T2.setTop (mkF m 17 #[.val (.ref a1), .val (.double q2), .second, .val (.double q3), .second] [(.int (cmpValue (FP.dcmp q2 (FP.dmul sh q3)) .l))])) _
        refine XS.ifYes X2.here hx rfl (pc0 := 17) (pc' := 24) rfl (hb hby d1_17) rfl ((if0 _ _).trans (tlt hB).1) (by decide) (by decide) ?_
        show Steps p.tables e below (T2.setTop (mkF m 24 #[.val (.ref a1), .val (.double q2), .second, .val (.double q3), .second] [])) _
        refine XS.iconst X2.here hx rfl (hb hby d1_24) ?_
        show Steps p.tables e below (T2.setTop (mkF m 25 #[.val (.ref a1), .val (.double q2), .second, .val (.double q3), .second] [(.int (0 : Int32))])) _
        exact retN X2 hx (t := .boolean) Bd.returns (by simp) (hb hby d1_25) hr
      · show Q1 Z a1 sh q2 q3 h0 n0 _ T2.heap _
        rw [e2]
        exact ⟨by rw [hk], N0, rfl⟩
    · have hk : own_kept sh q2 q3 = 1 := by unfold own_kept; rw [if_pos hA, if_neg hB]
      obtain ⟨fs, hr, hrun, hended, hW, hsame⟩ := X2.leave (v := some (.int (1 : Int32))) (fun h => by rw [Bd.returns] at h; cases h)
      refine ⟨_, _, pre0 _ ?_, hrun, hended, _, _, rfl, ?_, ⟨_, rfl⟩, hW, hsame.mono (by decide) (by decide)⟩
      · show Steps p.tables e below (s₁.setTop (mkF m 0 #[.val (.ref a1), .val (.double q2), .second, .val (.double q3), .second] [])) _
        refine XS.aloadN X0.here hx rfl (hb hby d1_0) rfl rfl ?_
        show Steps p.tables e below (s₁.setTop (mkF m 1 #[.val (.ref a1), .val (.double q2), .second, .val (.double q3), .second] [(.ref a1)])) _
        refine st1 _ ?_
        show Steps p.tables e below (T1.setTop (mkF m 4 #[.val (.ref a1), .val (.double q2), .second, .val (.double q3), .second] [(.double sh)])) _
        refine XS.dconst0 X1.here hx rfl (hb hby d1_4) rfl ?_
        show Steps p.tables e below (T1.setTop (mkF m 5 #[.val (.ref a1), .val (.double q2), .second, .val (.double q3), .second] [(.double FP.dconst0), (.double sh)])) _
        refine XS.dcmpS X1.here hx rfl (hb hby d1_5) rfl rfl ?_
        show Steps p.tables e below (T1.setTop (mkF m 6 #[.val (.ref a1), .val (.double q2), .second, .val (.double q3), .second] [(.int (cmpValue (FP.dcmp sh FP.dconst0) .l))])) _
        refine XS.ifNo X1.here hx rfl (hb hby d1_6) rfl ((if0 _ _).trans (tlt hA).2.2.2) ?_
        show Steps p.tables e below (T1.setTop (mkF m 9 #[.val (.ref a1), .val (.double q2), .second, .val (.double q3), .second] [])) _
        refine XS.dloadN X1.here hx rfl (hb hby d1_9) rfl ?_
        show Steps p.tables e below (T1.setTop (mkF m 10 #[.val (.ref a1), .val (.double q2), .second, .val (.double q3), .second] [(.double q2)])) _
        refine XS.aloadN X1.here hx rfl (hb hby d1_10) rfl rfl ?_
        show Steps p.tables e below (T1.setTop (mkF m 11 #[.val (.ref a1), .val (.double q2), .second, .val (.double q3), .second] [(.ref a1), (.double q2)])) _
        refine st2 _ ?_
        show Steps p.tables e below (T2.setTop (mkF m 14 #[.val (.ref a1), .val (.double q2), .second, .val (.double q3), .second] [(.double sh), (.double q2)])) _
        refine XS.dloadN X2.here hx rfl (hb hby d1_14) rfl ?_
        show Steps p.tables e below (T2.setTop (mkF m 15 #[.val (.ref a1), .val (.double q2), .second, .val (.double q3), .second] [(.double q3), (.double sh), (.double q2)])) _
        refine XS.dmulS X2.here hx rfl (hb hby d1_15) rfl hnn rfl ?_
        show Steps p.tables e below (T2.setTop (mkF m 16 #[.val (.ref a1), .val (.double q2), .second, .val (.double q3), .second] [(.double (FP.dmul sh q3)), (.double q2)])) _
        refine XS.dcmpS X2.here hx rfl (hb hby d1_16) rfl rfl ?_
        show Steps p.tables e below (T2.setTop (mkF m 17 #[.val (.ref a1), .val (.double q2), .second, .val (.double q3), .second] [(.int (cmpValue (FP.dcmp q2 (FP.dmul sh q3)) .l))])) _
        refine XS.ifNo X2.here hx rfl (hb hby d1_17) rfl ((if0 _ _).trans (flt hB).1) ?_
        show Steps p.tables e below (T2.setTop (mkF m 20 #[.val (.ref a1), .val (.double q2), .second, .val (.double q3), .second] [])) _
        refine XS.iconst X2.here hx rfl (hb hby d1_20) ?_
        show Steps p.tables e below (T2.setTop (mkF m 21 #[.val (.ref a1), .val (.double q2), .second, .val (.double q3), .second] [(.int (1 : Int32))])) _
        refine XS.goto X2.here hx rfl (pc0 := 21) (pc' := 25) rfl (hb hby d1_21) (by decide) (by decide) ?_
        show Steps p.tables e below (T2.setTop (mkF m 25 #[.val (.ref a1), .val (.double q2), .second, .val (.double q3), .second] [(.int (1 : Int32))])) _
        exact retN X2 hx (t := .boolean) Bd.returns (by simp) (hb hby d1_25) hr
      · show Q1 Z a1 sh q2 q3 h0 n0 _ T2.heap _
        rw [e2]
        exact ⟨by rw [hk], N0, rfl⟩
  · have hk : own_kept sh q2 q3 = 0 := by unfold own_kept; rw [if_neg hA]
    obtain ⟨fs, hr, hrun, hended, hW, hsame⟩ := X1.leave (v := some (.int (0 : Int32))) (fun h => by rw [Bd.returns] at h; cases h)
    refine ⟨_, _, pre0 _ ?_, hrun, hended, _, _, rfl, ?_, ⟨_, rfl⟩, hW, hsame.mono (by decide) (by decide)⟩
    · show Steps p.tables e below (s₁.setTop (mkF m 0 #[.val (.ref a1), .val (.double q2), .second, .val (.double q3), .second] [])) _
      refine XS.aloadN X0.here hx rfl (hb hby d1_0) rfl rfl ?_
      show Steps p.tables e below (s₁.setTop (mkF m 1 #[.val (.ref a1), .val (.double q2), .second, .val (.double q3), .second] [(.ref a1)])) _
      refine st1 _ ?_
      show Steps p.tables e below (T1.setTop (mkF m 4 #[.val (.ref a1), .val (.double q2), .second, .val (.double q3), .second] [(.double sh)])) _
      refine XS.dconst0 X1.here hx rfl (hb hby d1_4) rfl ?_
      show Steps p.tables e below (T1.setTop (mkF m 5 #[.val (.ref a1), .val (.double q2), .second, .val (.double q3), .second] [(.double FP.dconst0), (.double sh)])) _
      refine XS.dcmpS X1.here hx rfl (hb hby d1_5) rfl rfl ?_
      show Steps p.tables e below (T1.setTop (mkF m 6 #[.val (.ref a1), .val (.double q2), .second, .val (.double q3), .second] [(.int (cmpValue (FP.dcmp sh FP.dconst0) .l))])) _
      refine XS.ifYes X1.here hx rfl (pc0 := 6) (pc' := 24) rfl (hb hby d1_6) rfl ((if0 _ _).trans (flt hA).2.2.2) (by decide) (by decide) ?_
      show Steps p.tables e below (T1.setTop (mkF m 24 #[.val (.ref a1), .val (.double q2), .second, .val (.double q3), .second] [])) _
      refine XS.iconst X1.here hx rfl (hb hby d1_24) ?_
      show Steps p.tables e below (T1.setTop (mkF m 25 #[.val (.ref a1), .val (.double q2), .second, .val (.double q3), .second] [(.int (0 : Int32))])) _
      exact retN X1 hx (t := .boolean) Bd.returns (by simp) (hb hby d1_25) hr
    · show Q1 Z a1 sh q2 q3 h0 n0 _ T1.heap _
      rw [e1]
      exact ⟨by rw [hk], N0, rfl⟩
theorem own_lcmp {x y : Int64} : lcmpW x y < 0 ↔ x.toInt < y.toInt := by rw [lcW, lc_lt, Int64.lt_iff_toInt_lt]
theorem own_i64 (c : Int32) : c.toInt64.toInt = c.toInt := Int32.toInt_toInt64 c
theorem own_twice (c : Int32) : ((2 : Int64) * c.toInt64).toInt = 2 * c.toInt := by
  have h1 := Int32.toInt_lt c; have h2 := Int32.le_toInt c
  rw [Int64.toInt_mul, own_i64, show (2 : Int64).toInt = 2 by decide]
  exact Int.bmod_eq_of_le (by omega) (by omega)
theorem own_half : Dy 1 1 4602678819172646912 := ⟨⟨false, 2 ^ 52, -53, by decide +kernel⟩, by decide, by decide +kernel⟩
theorem own_full : Dy 1 0 4607182418800017408 := own_d1
theorem own_pos {k : Nat} {a : UInt64} (h : Dy 1 k a) : 0 < cmpValue (FP.dcmp a FP.dconst0) .l := by
  have h0 : Dy 0 k FP.dconst0 := ((own_d0.up k (by have := h.2.1; omega)).conv (Int.zero_mul _) (Nat.zero_add _))
  rw [own_cmpV h h0, if_neg (by decide), if_neg (by decide)]; decide
theorem own_if {n m : Int} {x y : Int64} (h : n < m ↔ x.toInt < y.toInt) : (if (if n < m then (-1 : Int32) else if n = m then 0 else 1) < 0 then (0 : Int32) else 1) = if lcmpW x y < 0 then 0 else 1 := by
  by_cases h1 : n < m
  · rw [if_pos h1, if_pos (by decide), if_pos (own_lcmp.mpr (h.mp h1))]
  · rw [if_neg h1, if_neg (fun q => h1 (h.mpr (own_lcmp.mp q)))]
    by_cases h2 : n = m
    · rw [if_pos h2, if_neg (by decide)]
    · rw [if_neg h2, if_neg (by decide)]
theorem own_kept0 (c r : UInt64) : own_kept 0 c r = 0 := by
  unfold own_kept
  rw [if_neg (by rw [own_cmpV_eq (show Dy 0 0 0 from own_d0) own_d0 rfl]; decide)]
theorem own_kept1 (c r : Int32) : own_kept 4602678819172646912 (FP.i2d c) (FP.i2d r) = if lcmpW (2 * c.toInt64) r.toInt64 < 0 then 0 else 1 := by
  have h1 := Int32.toInt_lt r; have h2 := Int32.le_toInt r
  have hp := own_half.mul (Dy.i2d r) (by decide) (by rw [Int.one_mul]; omega)
  have hc := (Dy.i2d c).up 1 (by decide)
  unfold own_kept
  rw [if_pos (own_pos own_half), own_cmpV (hc.conv rfl (show 0 + 1 = 1 + 0 from rfl)) hp]
  exact own_if (by rw [own_twice, own_i64, Int.one_mul, show ((2 ^ 1 : Nat) : Int) = 2 from rfl]; omega)
theorem own_kept2 (c r : Int32) : own_kept 4607182418800017408 (FP.i2d c) (FP.i2d r) = if lcmpW c.toInt64 r.toInt64 < 0 then 0 else 1 := by
  have h1 := Int32.toInt_lt r; have h2 := Int32.le_toInt r
  have hp := own_full.mul (Dy.i2d r) (by decide) (by rw [Int.one_mul]; omega)
  unfold own_kept
  rw [if_pos (own_pos own_full), own_cmpV (Dy.i2d c) (hp.conv rfl rfl)]
  exact own_if (by rw [own_i64, own_i64, Int.one_mul])
def Q0 (n0 : Nat) (v : Option Value) (h : Heap) (L : List Loc) : Prop := v = some (.int 1) ∧ Fr n0 L
set_option maxRecDepth 65536 in
set_option maxHeartbeats 40000000 in
theorem rm0a (l : Launch) (Z : State) (a0 : Array Value) (hw : ∀ d ∈ tables_1, d.before a0 Z = true) (ws : List Jvm.Cond) (p1 p2 p3 : Int32) (a1 : Addr) (sh : UInt64) (E : Int32) (h0 : Heap) (n0 : Nat) (Z0 : n0 ≤ h0.size) (F1 : Fld Z h0 a1 "com/example/polku/polku/provisioning/Promise" "share" "D" (.double sh)) (E1 : Exa Z h0 a1 "com/example/polku/polku/provisioning/Promise") (S1 : Sta Z h0 "com/example/polku/polku/provisioning/Promise" "NOTHING" "Lcom/example/polku/polku/provisioning/Promise;" (.ref a1)) (hnn : Jvm.Free.Fl.NoNaN64 (FP.dmul sh (FP.i2d p3))) (hres : own_kept sh (FP.i2d p2) (FP.i2d p3) = E) (hm : (p1 &&& (2147483647 : Int32)) % (3 : Int32) = 0) (hE : E = 0) :
    MetFree l x (head1 (Jvm.Cond.code x code maxLocals ret :: ws) room_1) (fun a U => a = #[(.int p1), (.int p2), (.int p3)] ∧ Z.Warmed39 U.vm ∧ U.heap = h0) (fun _ _ _ _ _ => True) (fun _ U o U' => ∃ v L, o = .returned v ∧ Q0 n0 v U'.heap L ∧ FrameEnd U o U' L room_1.cells room_1.slots) := by
  refine MetFree.of_bodySF (plainFor_of_name pn_0) hisR ?_
  intro p e s m args below meth c s₁ Bd hml0 hP hK
  obtain ⟨rfl, hZ, hh⟩ := hP
  have hx := Bd.exec
  have hby := Bd.bytes
  have hml : c.maxLocals = 7 := hml0
  have hown : s.vm.findClass "com/example/polku/polku/provisioning/PromiseIsKeptPinLaw" = some m.cls := findClass_of_methodNamed Bd.named
  have hnm := (name_of_methodNamed Bd.named Bd.method).1
  have X0 : Stand p l e room_1 s m #[(.int p1), (.int p2), (.int p3)] below meth c s₁ [] 0 0 := Stand.of_body Bd
  have e0 : s₁.heap = h0 := by rw [← hh, Bd.state]; rfl
  have N0 := Fr.nil n0
  have pre0 : ∀ t, Steps p.tables e below (s₁.setTop (mkF m 0 #[.val (.int p1), .val (.int p2), .val (.int p3), .unset, .unset, .unset, .unset] [])) t → Steps p.tables e below (s₁.setTop (entryFrame m #[(.int p1), (.int p2), (.int p3)] maxLocals)) t := fun t k => castTop (ef_0 m p1 p2 p3) k
  obtain ⟨T1, X1, e1, st1⟩ := getS2 X0 hx hZ hown (host := "") (Or.inl (hw _ (List.mem_of_getElem? (i := 1) rfl))) Via.refl e0 S1 (g := (mkF m 11 #[.val (.int p1), .val (.int p2), .val (.int p3), .val (.int ((p1 &&& (2147483647 : Int32)) % (3 : Int32))), .unset, .unset, .unset] [])) rfl (hb hby at_11)
  obtain ⟨cq2, kq2, q2a, q2b, q2c⟩ := isOf hZ e1 E1
  obtain ⟨_, _, ⟨T2, L2, k2, n2⟩, -, X2, ⟨Lc2, hQ2, l2, y2, z2⟩, st2⟩ := X1.virtualBack hx (y := (⟨"com/example/polku/polku/provisioning/Promise", "isKept", "(DD)Z"⟩ : MethodName)) (z := (⟨"com/example/polku/polku/provisioning/Promise", "isKept", "(DD)Z"⟩ : MethodName)) hown (mvT hZ (hw _ (List.mem_of_getElem? (i := 4) rfl))) (mvT hZ (hw _ (List.mem_of_getElem? (i := 5) rfl))) (notFace_of_selects (args := #[]) (mvT hZ (hw _ (List.mem_of_getElem? (i := 7) rfl)))) (mvT hZ (hw _ (List.mem_of_getElem? (i := 7) rfl))) (mvT hZ (hw _ (List.mem_of_getElem? (i := 6) rfl))) (by decide) (backOf (W := 0) (rm1 l Z a0 hw [] a1 sh (FP.i2d p2) (FP.i2d p3) h0 n0 Z0 F1 hnn) hZ (hw _ (List.mem_of_getElem? (i := 8) rfl)) (hw _ (List.mem_of_getElem? (i := 2) rfl)) (by decide) (by decide)) q2a q2c (g := (mkF m 95 #[.val (.int p1), .val (.int p2), .val (.int p3), .val (.int ((p1 &&& (2147483647 : Int32)) % (3 : Int32))), .val (.ref a1), .val (.int (0 : Int32)), .unset] [(.double (FP.i2d p3)), (.double (FP.i2d p2)), (.ref a1)])) rfl (by rw [hml]; rfl) (Steps.refl _) (argsL := [(.double (FP.i2d p2)), (.double (FP.i2d p3))]) (rest := []) (lenOf pd_1 rfl) rfl (by show 2 * 0 + _ ≤ _; exact Nat.le_of_eq rfl) (hb hby at_95) (fun _ _ => ⟨rfl, e1, (by decide : 0 + 0 ≤ _), (by decide : 0 + 0 ≤ _)⟩)
  dsimp only [Pt.U, Pt.locs, Pt.cells, Pt.slots] at X2 l2 y2 z2 st2 hQ2
  subst l2 y2 z2
  obtain ⟨rfl, N2q, e2⟩ := hQ2
  rw [hres] at st2
  have N2 := Fr.app N0 N2q
  obtain ⟨fs, hr, hrun, hended, hW, hsame⟩ := X2.leave (v := some (.int (1 : Int32))) (fun h => by rw [Bd.returns] at h; cases h)
  refine ⟨_, _, pre0 _ ?_, hrun, hended, _, _, rfl, ?_, ⟨_, rfl⟩, hW, hsame.mono (by decide) (by decide)⟩
  · show Steps p.tables e below (s₁.setTop (mkF m 0 #[.val (.int p1), .val (.int p2), .val (.int p3), .unset, .unset, .unset, .unset] [])) _
    refine XS.iloadN X0.here hx rfl (hb hby at_0) rfl ?_
    show Steps p.tables e below (s₁.setTop (mkF m 1 #[.val (.int p1), .val (.int p2), .val (.int p3), .unset, .unset, .unset, .unset] [(.int p1)])) _
    refine X0.ldcInt hx hown (mvT hZ (hw _ (List.mem_of_getElem? (i := 0) rfl))) (g := (mkF m 1 #[.val (.int p1), .val (.int p2), .val (.int p3), .unset, .unset, .unset, .unset] [(.int p1)])) rfl (hb hby at_1) _ ?_
    show Steps p.tables e below (s₁.setTop (mkF m 3 #[.val (.int p1), .val (.int p2), .val (.int p3), .unset, .unset, .unset, .unset] [(.int (2147483647 : Int32)), (.int p1)])) _
    refine XS.iand X0.here hx rfl (hb hby at_3) rfl ?_
    show Steps p.tables e below (s₁.setTop (mkF m 4 #[.val (.int p1), .val (.int p2), .val (.int p3), .unset, .unset, .unset, .unset] [(.int (p1 &&& (2147483647 : Int32)))])) _
    refine XS.iconst X0.here hx rfl (hb hby at_4) ?_
    show Steps p.tables e below (s₁.setTop (mkF m 5 #[.val (.int p1), .val (.int p2), .val (.int p3), .unset, .unset, .unset, .unset] [(.int (3 : Int32)), (.int (p1 &&& (2147483647 : Int32)))])) _
    refine iremM X0 hx rfl (hb hby at_5) rfl (by decide) ?_
    show Steps p.tables e below (s₁.setTop (mkF m 6 #[.val (.int p1), .val (.int p2), .val (.int p3), .unset, .unset, .unset, .unset] [(.int ((p1 &&& (2147483647 : Int32)) % (3 : Int32)))])) _
    refine XS.istoreN X0.here hx rfl (hb hby at_6) rfl (l' := #[.val (.int p1), .val (.int p2), .val (.int p3), .val (.int ((p1 &&& (2147483647 : Int32)) % (3 : Int32))), .unset, .unset, .unset]) rfl ?_
    show Steps p.tables e below (s₁.setTop (mkF m 7 #[.val (.int p1), .val (.int p2), .val (.int p3), .val (.int ((p1 &&& (2147483647 : Int32)) % (3 : Int32))), .unset, .unset, .unset] [])) _
    refine XS.iloadN X0.here hx rfl (hb hby at_7) rfl ?_
    show Steps p.tables e below (s₁.setTop (mkF m 8 #[.val (.int p1), .val (.int p2), .val (.int p3), .val (.int ((p1 &&& (2147483647 : Int32)) % (3 : Int32))), .unset, .unset, .unset] [(.int ((p1 &&& (2147483647 : Int32)) % (3 : Int32)))])) _
    refine XS.ifNo X0.here hx rfl (hb hby at_8) rfl ((if0 _ _).trans (teq hm).2) ?_
    show Steps p.tables e below (s₁.setTop (mkF m 11 #[.val (.int p1), .val (.int p2), .val (.int p3), .val (.int ((p1 &&& (2147483647 : Int32)) % (3 : Int32))), .unset, .unset, .unset] [])) _
    refine st1 _ ?_
    show Steps p.tables e below (T1.setTop (mkF m 14 #[.val (.int p1), .val (.int p2), .val (.int p3), .val (.int ((p1 &&& (2147483647 : Int32)) % (3 : Int32))), .unset, .unset, .unset] [(.ref a1)])) _
    refine XS.astore X1.here hx rfl (hb hby at_14) rfl rfl (l' := #[.val (.int p1), .val (.int p2), .val (.int p3), .val (.int ((p1 &&& (2147483647 : Int32)) % (3 : Int32))), .val (.ref a1), .unset, .unset]) rfl ?_
    show Steps p.tables e below (T1.setTop (mkF m 16 #[.val (.int p1), .val (.int p2), .val (.int p3), .val (.int ((p1 &&& (2147483647 : Int32)) % (3 : Int32))), .val (.ref a1), .unset, .unset] [])) _
    refine XS.goto X1.here hx rfl (pc0 := 16) (pc' := 37) rfl (hb hby at_16) (by decide) (by decide) ?_
    show Steps p.tables e below (T1.setTop (mkF m 37 #[.val (.int p1), .val (.int p2), .val (.int p3), .val (.int ((p1 &&& (2147483647 : Int32)) % (3 : Int32))), .val (.ref a1), .unset, .unset] [])) _
    refine XS.iloadN X1.here hx rfl (hb hby at_37) rfl ?_
    show Steps p.tables e below (T1.setTop (mkF m 38 #[.val (.int p1), .val (.int p2), .val (.int p3), .val (.int ((p1 &&& (2147483647 : Int32)) % (3 : Int32))), .val (.ref a1), .unset, .unset] [(.int ((p1 &&& (2147483647 : Int32)) % (3 : Int32)))])) _
    refine XS.ifNo X1.here hx rfl (hb hby at_38) rfl ((if0 _ _).trans (teq hm).2) ?_
    show Steps p.tables e below (T1.setTop (mkF m 41 #[.val (.int p1), .val (.int p2), .val (.int p3), .val (.int ((p1 &&& (2147483647 : Int32)) % (3 : Int32))), .val (.ref a1), .unset, .unset] [])) _
    refine XS.iconst X1.here hx rfl (hb hby at_41) ?_
    show Steps p.tables e below (T1.setTop (mkF m 42 #[.val (.int p1), .val (.int p2), .val (.int p3), .val (.int ((p1 &&& (2147483647 : Int32)) % (3 : Int32))), .val (.ref a1), .unset, .unset] [(.int (0 : Int32))])) _
    refine XS.istore X1.here hx rfl (hb hby at_42) rfl (l' := #[.val (.int p1), .val (.int p2), .val (.int p3), .val (.int ((p1 &&& (2147483647 : Int32)) % (3 : Int32))), .val (.ref a1), .val (.int (0 : Int32)), .unset]) rfl ?_
    show Steps p.tables e below (T1.setTop (mkF m 44 #[.val (.int p1), .val (.int p2), .val (.int p3), .val (.int ((p1 &&& (2147483647 : Int32)) % (3 : Int32))), .val (.ref a1), .val (.int (0 : Int32)), .unset] [])) _
    refine XS.goto X1.here hx rfl (pc0 := 44) (pc' := 89) rfl (hb hby at_44) (by decide) (by decide) ?_
    show Steps p.tables e below (T1.setTop (mkF m 89 #[.val (.int p1), .val (.int p2), .val (.int p3), .val (.int ((p1 &&& (2147483647 : Int32)) % (3 : Int32))), .val (.ref a1), .val (.int (0 : Int32)), .unset] [])) _
    refine XS.aload X1.here hx rfl (hb hby at_89) rfl rfl ?_
    show Steps p.tables e below (T1.setTop (mkF m 91 #[.val (.int p1), .val (.int p2), .val (.int p3), .val (.int ((p1 &&& (2147483647 : Int32)) % (3 : Int32))), .val (.ref a1), .val (.int (0 : Int32)), .unset] [(.ref a1)])) _
    refine XS.iloadN X1.here hx rfl (hb hby at_91) rfl ?_
    show Steps p.tables e below (T1.setTop (mkF m 92 #[.val (.int p1), .val (.int p2), .val (.int p3), .val (.int ((p1 &&& (2147483647 : Int32)) % (3 : Int32))), .val (.ref a1), .val (.int (0 : Int32)), .unset] [(.int p2), (.ref a1)])) _
    refine XS.i2dS X1.here hx rfl (hb hby at_92) rfl rfl ?_
    show Steps p.tables e below (T1.setTop (mkF m 93 #[.val (.int p1), .val (.int p2), .val (.int p3), .val (.int ((p1 &&& (2147483647 : Int32)) % (3 : Int32))), .val (.ref a1), .val (.int (0 : Int32)), .unset] [(.double (FP.i2d p2)), (.ref a1)])) _
    refine XS.iloadN X1.here hx rfl (hb hby at_93) rfl ?_
    show Steps p.tables e below (T1.setTop (mkF m 94 #[.val (.int p1), .val (.int p2), .val (.int p3), .val (.int ((p1 &&& (2147483647 : Int32)) % (3 : Int32))), .val (.ref a1), .val (.int (0 : Int32)), .unset] [(.int p3), (.double (FP.i2d p2)), (.ref a1)])) _
    refine XS.i2dS X1.here hx rfl (hb hby at_94) rfl rfl ?_
    show Steps p.tables e below (T1.setTop (mkF m 95 #[.val (.int p1), .val (.int p2), .val (.int p3), .val (.int ((p1 &&& (2147483647 : Int32)) % (3 : Int32))), .val (.ref a1), .val (.int (0 : Int32)), .unset] [(.double (FP.i2d p3)), (.double (FP.i2d p2)), (.ref a1)])) _
    refine st2.trans ?_
    show Steps p.tables e below (T2.setTop (mkF m 98 #[.val (.int p1), .val (.int p2), .val (.int p3), .val (.int ((p1 &&& (2147483647 : Int32)) % (3 : Int32))), .val (.ref a1), .val (.int (0 : Int32)), .unset] [(.int E)])) _
    refine XS.istore X2.here hx rfl (hb hby at_98) rfl (l' := #[.val (.int p1), .val (.int p2), .val (.int p3), .val (.int ((p1 &&& (2147483647 : Int32)) % (3 : Int32))), .val (.ref a1), .val (.int (0 : Int32)), .val (.int E)]) rfl ?_
    show Steps p.tables e below (T2.setTop (mkF m 100 #[.val (.int p1), .val (.int p2), .val (.int p3), .val (.int ((p1 &&& (2147483647 : Int32)) % (3 : Int32))), .val (.ref a1), .val (.int (0 : Int32)), .val (.int E)] [])) _
    refine XS.iload X2.here hx rfl (hb hby at_100) rfl ?_
    show Steps p.tables e below (T2.setTop (mkF m 102 #[.val (.int p1), .val (.int p2), .val (.int p3), .val (.int ((p1 &&& (2147483647 : Int32)) % (3 : Int32))), .val (.ref a1), .val (.int (0 : Int32)), .val (.int E)] [(.int E)])) _
    refine XS.iload X2.here hx rfl (hb hby at_102) rfl ?_
    show Steps p.tables e below (T2.setTop (mkF m 104 #[.val (.int p1), .val (.int p2), .val (.int p3), .val (.int ((p1 &&& (2147483647 : Int32)) % (3 : Int32))), .val (.ref a1), .val (.int (0 : Int32)), .val (.int E)] [(.int (0 : Int32)), (.int E)])) _
    refine XS.icmpNo X2.here hx rfl (hb hby at_104) rfl (teq hE).2 ?_
    show Steps p.tables e below (T2.setTop (mkF m 107 #[.val (.int p1), .val (.int p2), .val (.int p3), .val (.int ((p1 &&& (2147483647 : Int32)) % (3 : Int32))), .val (.ref a1), .val (.int (0 : Int32)), .val (.int E)] [])) _
    refine XS.iconst X2.here hx rfl (hb hby at_107) ?_
    show Steps p.tables e below (T2.setTop (mkF m 108 #[.val (.int p1), .val (.int p2), .val (.int p3), .val (.int ((p1 &&& (2147483647 : Int32)) % (3 : Int32))), .val (.ref a1), .val (.int (0 : Int32)), .val (.int E)] [(.int (1 : Int32))])) _
    refine XS.goto X2.here hx rfl (pc0 := 108) (pc' := 112) rfl (hb hby at_108) (by decide) (by decide) ?_
    show Steps p.tables e below (T2.setTop (mkF m 112 #[.val (.int p1), .val (.int p2), .val (.int p3), .val (.int ((p1 &&& (2147483647 : Int32)) % (3 : Int32))), .val (.ref a1), .val (.int (0 : Int32)), .val (.int E)] [(.int (1 : Int32))])) _
    exact retN X2 hx (t := .boolean) Bd.returns (by simp) (hb hby at_112) hr
  · exact ⟨rfl, N2⟩
set_option maxRecDepth 65536 in
set_option maxHeartbeats 40000000 in
theorem rm0b (l : Launch) (Z : State) (a0 : Array Value) (hw : ∀ d ∈ tables_1, d.before a0 Z = true) (ws : List Jvm.Cond) (p1 p2 p3 : Int32) (a1 : Addr) (sh : UInt64) (E : Int32) (h0 : Heap) (n0 : Nat) (Z0 : n0 ≤ h0.size) (F1 : Fld Z h0 a1 "com/example/polku/polku/provisioning/Promise" "share" "D" (.double sh)) (E1 : Exa Z h0 a1 "com/example/polku/polku/provisioning/Promise") (S1 : Sta Z h0 "com/example/polku/polku/provisioning/Promise" "HALF_RATE" "Lcom/example/polku/polku/provisioning/Promise;" (.ref a1)) (hnn : Jvm.Free.Fl.NoNaN64 (FP.dmul sh (FP.i2d p3))) (hres : own_kept sh (FP.i2d p2) (FP.i2d p3) = E) (hm : ¬ (p1 &&& (2147483647 : Int32)) % (3 : Int32) = 0) (hm1 : (p1 &&& (2147483647 : Int32)) % (3 : Int32) = 1) (hE0 : lcmpW ((2 : Int64) * p2.toInt64) p3.toInt64 < 0 → E = 0) (hE1 : ¬ lcmpW ((2 : Int64) * p2.toInt64) p3.toInt64 < 0 → E = 1) :
    MetFree l x (head1 (Jvm.Cond.code x code maxLocals ret :: ws) room_1) (fun a U => a = #[(.int p1), (.int p2), (.int p3)] ∧ Z.Warmed39 U.vm ∧ U.heap = h0) (fun _ _ _ _ _ => True) (fun _ U o U' => ∃ v L, o = .returned v ∧ Q0 n0 v U'.heap L ∧ FrameEnd U o U' L room_1.cells room_1.slots) := by
  refine MetFree.of_bodySF (plainFor_of_name pn_0) hisR ?_
  intro p e s m args below meth c s₁ Bd hml0 hP hK
  obtain ⟨rfl, hZ, hh⟩ := hP
  have hx := Bd.exec
  have hby := Bd.bytes
  have hml : c.maxLocals = 7 := hml0
  have hown : s.vm.findClass "com/example/polku/polku/provisioning/PromiseIsKeptPinLaw" = some m.cls := findClass_of_methodNamed Bd.named
  have hnm := (name_of_methodNamed Bd.named Bd.method).1
  have X0 : Stand p l e room_1 s m #[(.int p1), (.int p2), (.int p3)] below meth c s₁ [] 0 0 := Stand.of_body Bd
  have e0 : s₁.heap = h0 := by rw [← hh, Bd.state]; rfl
  have N0 := Fr.nil n0
  have pre0 : ∀ t, Steps p.tables e below (s₁.setTop (mkF m 0 #[.val (.int p1), .val (.int p2), .val (.int p3), .unset, .unset, .unset, .unset] [])) t → Steps p.tables e below (s₁.setTop (entryFrame m #[(.int p1), (.int p2), (.int p3)] maxLocals)) t := fun t k => castTop (ef_0 m p1 p2 p3) k
  obtain ⟨T1, X1, e1, st1⟩ := getS2 X0 hx hZ hown (host := "") (Or.inl (hw _ (List.mem_of_getElem? (i := 11) rfl))) Via.refl e0 S1 (g := (mkF m 24 #[.val (.int p1), .val (.int p2), .val (.int p3), .val (.int ((p1 &&& (2147483647 : Int32)) % (3 : Int32))), .unset, .unset, .unset] [])) rfl (hb hby at_24)
  have kE : ∀ target, Steps p.tables e below (T1.setTop (mkF m 89 #[.val (.int p1), .val (.int p2), .val (.int p3), .val (.int ((p1 &&& (2147483647 : Int32)) % (3 : Int32))), .val (.ref a1), .val (.int E), .unset] [])) target → Steps p.tables e below (T1.setTop (mkF m 52 #[.val (.int p1), .val (.int p2), .val (.int p3), .val (.int ((p1 &&& (2147483647 : Int32)) % (3 : Int32))), .val (.ref a1), .unset, .unset] [])) target := by
    intro target k
    by_cases hc : lcmpW ((2 : Int64) * p2.toInt64) p3.toInt64 < 0
    · show Steps p.tables e below (T1.setTop (mkF m 52 #[.val (.int p1), .val (.int p2), .val (.int p3), .val (.int ((p1 &&& (2147483647 : Int32)) % (3 : Int32))), .val (.ref a1), .unset, .unset] [])) _
      refine X1.ldc2Long hx hown (mvT hZ (hw _ (List.mem_of_getElem? (i := 13) rfl))) (g := (mkF m 52 #[.val (.int p1), .val (.int p2), .val (.int p3), .val (.int ((p1 &&& (2147483647 : Int32)) % (3 : Int32))), .val (.ref a1), .unset, .unset] [])) rfl (hb hby at_52) _ ?_
      show Steps p.tables e below (T1.setTop (mkF m 55 #[.val (.int p1), .val (.int p2), .val (.int p3), .val (.int ((p1 &&& (2147483647 : Int32)) % (3 : Int32))), .val (.ref a1), .unset, .unset] [(.long (2 : Int64))])) _
      refine XS.iloadN X1.here hx rfl (hb hby at_55) rfl ?_
      show Steps p.tables e below (T1.setTop (mkF m 56 #[.val (.int p1), .val (.int p2), .val (.int p3), .val (.int ((p1 &&& (2147483647 : Int32)) % (3 : Int32))), .val (.ref a1), .unset, .unset] [(.int p2), (.long (2 : Int64))])) _
      refine XS.i2l X1.here hx rfl (hb hby at_56) rfl ?_
      show Steps p.tables e below (T1.setTop (mkF m 57 #[.val (.int p1), .val (.int p2), .val (.int p3), .val (.int ((p1 &&& (2147483647 : Int32)) % (3 : Int32))), .val (.ref a1), .unset, .unset] [(.long p2.toInt64), (.long (2 : Int64))])) _
      refine XS.lmul X1.here hx rfl (hb hby at_57) rfl ?_
      show Steps p.tables e below (T1.setTop (mkF m 58 #[.val (.int p1), .val (.int p2), .val (.int p3), .val (.int ((p1 &&& (2147483647 : Int32)) % (3 : Int32))), .val (.ref a1), .unset, .unset] [(.long ((2 : Int64) * p2.toInt64))])) _
      refine XS.iloadN X1.here hx rfl (hb hby at_58) rfl ?_
      show Steps p.tables e below (T1.setTop (mkF m 59 #[.val (.int p1), .val (.int p2), .val (.int p3), .val (.int ((p1 &&& (2147483647 : Int32)) % (3 : Int32))), .val (.ref a1), .unset, .unset] [(.int p3), (.long ((2 : Int64) * p2.toInt64))])) _
      refine XS.i2l X1.here hx rfl (hb hby at_59) rfl ?_
      show Steps p.tables e below (T1.setTop (mkF m 60 #[.val (.int p1), .val (.int p2), .val (.int p3), .val (.int ((p1 &&& (2147483647 : Int32)) % (3 : Int32))), .val (.ref a1), .unset, .unset] [(.long p3.toInt64), (.long ((2 : Int64) * p2.toInt64))])) _
      refine XS.lcmp X1.here hx rfl (hb hby at_60) rfl ?_
      show Steps p.tables e below (T1.setTop (mkF m 61 #[.val (.int p1), .val (.int p2), .val (.int p3), .val (.int ((p1 &&& (2147483647 : Int32)) % (3 : Int32))), .val (.ref a1), .unset, .unset] [(.int (lcmpW ((2 : Int64) * p2.toInt64) p3.toInt64))])) _
      refine XS.ifYes X1.here hx rfl (pc0 := 61) (pc' := 68) rfl (hb hby at_61) rfl ((if0 _ _).trans (tlt hc).1) (by decide) (by decide) ?_
      show Steps p.tables e below (T1.setTop (mkF m 68 #[.val (.int p1), .val (.int p2), .val (.int p3), .val (.int ((p1 &&& (2147483647 : Int32)) % (3 : Int32))), .val (.ref a1), .unset, .unset] [])) _
      refine XS.iconst X1.here hx rfl (hb hby at_68) ?_
      show Steps p.tables e below (T1.setTop (mkF m 69 #[.val (.int p1), .val (.int p2), .val (.int p3), .val (.int ((p1 &&& (2147483647 : Int32)) % (3 : Int32))), .val (.ref a1), .unset, .unset] [(.int (0 : Int32))])) _
      refine XS.istore X1.here hx rfl (hb hby at_69) rfl (l' := #[.val (.int p1), .val (.int p2), .val (.int p3), .val (.int ((p1 &&& (2147483647 : Int32)) % (3 : Int32))), .val (.ref a1), .val (.int (0 : Int32)), .unset]) rfl ?_
      show Steps p.tables e below (T1.setTop (mkF m 71 #[.val (.int p1), .val (.int p2), .val (.int p3), .val (.int ((p1 &&& (2147483647 : Int32)) % (3 : Int32))), .val (.ref a1), .val (.int (0 : Int32)), .unset] [])) _
      refine XS.goto X1.here hx rfl (pc0 := 71) (pc' := 89) rfl (hb hby at_71) (by decide) (by decide) ?_
      show Steps p.tables e below (T1.setTop (mkF m 89 #[.val (.int p1), .val (.int p2), .val (.int p3), .val (.int ((p1 &&& (2147483647 : Int32)) % (3 : Int32))), .val (.ref a1), .val (.int (0 : Int32)), .unset] [])) _
      rw [hE0 hc] at k
      exact k
    · show Steps p.tables e below (T1.setTop (mkF m 52 #[.val (.int p1), .val (.int p2), .val (.int p3), .val (.int ((p1 &&& (2147483647 : Int32)) % (3 : Int32))), .val (.ref a1), .unset, .unset] [])) _
      refine X1.ldc2Long hx hown (mvT hZ (hw _ (List.mem_of_getElem? (i := 13) rfl))) (g := (mkF m 52 #[.val (.int p1), .val (.int p2), .val (.int p3), .val (.int ((p1 &&& (2147483647 : Int32)) % (3 : Int32))), .val (.ref a1), .unset, .unset] [])) rfl (hb hby at_52) _ ?_
      show Steps p.tables e below (T1.setTop (mkF m 55 #[.val (.int p1), .val (.int p2), .val (.int p3), .val (.int ((p1 &&& (2147483647 : Int32)) % (3 : Int32))), .val (.ref a1), .unset, .unset] [(.long (2 : Int64))])) _
      refine XS.iloadN X1.here hx rfl (hb hby at_55) rfl ?_
      show Steps p.tables e below (T1.setTop (mkF m 56 #[.val (.int p1), .val (.int p2), .val (.int p3), .val (.int ((p1 &&& (2147483647 : Int32)) % (3 : Int32))), .val (.ref a1), .unset, .unset] [(.int p2), (.long (2 : Int64))])) _
      refine XS.i2l X1.here hx rfl (hb hby at_56) rfl ?_
      show Steps p.tables e below (T1.setTop (mkF m 57 #[.val (.int p1), .val (.int p2), .val (.int p3), .val (.int ((p1 &&& (2147483647 : Int32)) % (3 : Int32))), .val (.ref a1), .unset, .unset] [(.long p2.toInt64), (.long (2 : Int64))])) _
      refine XS.lmul X1.here hx rfl (hb hby at_57) rfl ?_
      show Steps p.tables e below (T1.setTop (mkF m 58 #[.val (.int p1), .val (.int p2), .val (.int p3), .val (.int ((p1 &&& (2147483647 : Int32)) % (3 : Int32))), .val (.ref a1), .unset, .unset] [(.long ((2 : Int64) * p2.toInt64))])) _
      refine XS.iloadN X1.here hx rfl (hb hby at_58) rfl ?_
      show Steps p.tables e below (T1.setTop (mkF m 59 #[.val (.int p1), .val (.int p2), .val (.int p3), .val (.int ((p1 &&& (2147483647 : Int32)) % (3 : Int32))), .val (.ref a1), .unset, .unset] [(.int p3), (.long ((2 : Int64) * p2.toInt64))])) _
      refine XS.i2l X1.here hx rfl (hb hby at_59) rfl ?_
      show Steps p.tables e below (T1.setTop (mkF m 60 #[.val (.int p1), .val (.int p2), .val (.int p3), .val (.int ((p1 &&& (2147483647 : Int32)) % (3 : Int32))), .val (.ref a1), .unset, .unset] [(.long p3.toInt64), (.long ((2 : Int64) * p2.toInt64))])) _
      refine XS.lcmp X1.here hx rfl (hb hby at_60) rfl ?_
      show Steps p.tables e below (T1.setTop (mkF m 61 #[.val (.int p1), .val (.int p2), .val (.int p3), .val (.int ((p1 &&& (2147483647 : Int32)) % (3 : Int32))), .val (.ref a1), .unset, .unset] [(.int (lcmpW ((2 : Int64) * p2.toInt64) p3.toInt64))])) _
      refine XS.ifNo X1.here hx rfl (hb hby at_61) rfl ((if0 _ _).trans (flt hc).1) ?_
      show Steps p.tables e below (T1.setTop (mkF m 64 #[.val (.int p1), .val (.int p2), .val (.int p3), .val (.int ((p1 &&& (2147483647 : Int32)) % (3 : Int32))), .val (.ref a1), .unset, .unset] [])) _
      refine XS.iconst X1.here hx rfl (hb hby at_64) ?_
      show Steps p.tables e below (T1.setTop (mkF m 65 #[.val (.int p1), .val (.int p2), .val (.int p3), .val (.int ((p1 &&& (2147483647 : Int32)) % (3 : Int32))), .val (.ref a1), .unset, .unset] [(.int (1 : Int32))])) _
      refine XS.goto X1.here hx rfl (pc0 := 65) (pc' := 69) rfl (hb hby at_65) (by decide) (by decide) ?_
      show Steps p.tables e below (T1.setTop (mkF m 69 #[.val (.int p1), .val (.int p2), .val (.int p3), .val (.int ((p1 &&& (2147483647 : Int32)) % (3 : Int32))), .val (.ref a1), .unset, .unset] [(.int (1 : Int32))])) _
      refine XS.istore X1.here hx rfl (hb hby at_69) rfl (l' := #[.val (.int p1), .val (.int p2), .val (.int p3), .val (.int ((p1 &&& (2147483647 : Int32)) % (3 : Int32))), .val (.ref a1), .val (.int (1 : Int32)), .unset]) rfl ?_
      show Steps p.tables e below (T1.setTop (mkF m 71 #[.val (.int p1), .val (.int p2), .val (.int p3), .val (.int ((p1 &&& (2147483647 : Int32)) % (3 : Int32))), .val (.ref a1), .val (.int (1 : Int32)), .unset] [])) _
      refine XS.goto X1.here hx rfl (pc0 := 71) (pc' := 89) rfl (hb hby at_71) (by decide) (by decide) ?_
      show Steps p.tables e below (T1.setTop (mkF m 89 #[.val (.int p1), .val (.int p2), .val (.int p3), .val (.int ((p1 &&& (2147483647 : Int32)) % (3 : Int32))), .val (.ref a1), .val (.int (1 : Int32)), .unset] [])) _
      rw [hE1 hc] at k
      exact k
  obtain ⟨cq2, kq2, q2a, q2b, q2c⟩ := isOf hZ e1 E1
  obtain ⟨_, _, ⟨T2, L2, k2, n2⟩, -, X2, ⟨Lc2, hQ2, l2, y2, z2⟩, st2⟩ := X1.virtualBack hx (y := (⟨"com/example/polku/polku/provisioning/Promise", "isKept", "(DD)Z"⟩ : MethodName)) (z := (⟨"com/example/polku/polku/provisioning/Promise", "isKept", "(DD)Z"⟩ : MethodName)) hown (mvT hZ (hw _ (List.mem_of_getElem? (i := 4) rfl))) (mvT hZ (hw _ (List.mem_of_getElem? (i := 5) rfl))) (notFace_of_selects (args := #[]) (mvT hZ (hw _ (List.mem_of_getElem? (i := 7) rfl)))) (mvT hZ (hw _ (List.mem_of_getElem? (i := 7) rfl))) (mvT hZ (hw _ (List.mem_of_getElem? (i := 6) rfl))) (by decide) (backOf (W := 0) (rm1 l Z a0 hw [] a1 sh (FP.i2d p2) (FP.i2d p3) h0 n0 Z0 F1 hnn) hZ (hw _ (List.mem_of_getElem? (i := 8) rfl)) (hw _ (List.mem_of_getElem? (i := 2) rfl)) (by decide) (by decide)) q2a q2c (g := (mkF m 95 #[.val (.int p1), .val (.int p2), .val (.int p3), .val (.int ((p1 &&& (2147483647 : Int32)) % (3 : Int32))), .val (.ref a1), .val (.int E), .unset] [(.double (FP.i2d p3)), (.double (FP.i2d p2)), (.ref a1)])) rfl (by rw [hml]; rfl) (Steps.refl _) (argsL := [(.double (FP.i2d p2)), (.double (FP.i2d p3))]) (rest := []) (lenOf pd_1 rfl) rfl (by show 2 * 0 + _ ≤ _; exact Nat.le_of_eq rfl) (hb hby at_95) (fun _ _ => ⟨rfl, e1, (by decide : 0 + 0 ≤ _), (by decide : 0 + 0 ≤ _)⟩)
  dsimp only [Pt.U, Pt.locs, Pt.cells, Pt.slots] at X2 l2 y2 z2 st2 hQ2
  subst l2 y2 z2
  obtain ⟨rfl, N2q, e2⟩ := hQ2
  rw [hres] at st2
  have N2 := Fr.app N0 N2q
  obtain ⟨fs, hr, hrun, hended, hW, hsame⟩ := X2.leave (v := some (.int (1 : Int32))) (fun h => by rw [Bd.returns] at h; cases h)
  refine ⟨_, _, pre0 _ ?_, hrun, hended, _, _, rfl, ?_, ⟨_, rfl⟩, hW, hsame.mono (by decide) (by decide)⟩
  · show Steps p.tables e below (s₁.setTop (mkF m 0 #[.val (.int p1), .val (.int p2), .val (.int p3), .unset, .unset, .unset, .unset] [])) _
    refine XS.iloadN X0.here hx rfl (hb hby at_0) rfl ?_
    show Steps p.tables e below (s₁.setTop (mkF m 1 #[.val (.int p1), .val (.int p2), .val (.int p3), .unset, .unset, .unset, .unset] [(.int p1)])) _
    refine X0.ldcInt hx hown (mvT hZ (hw _ (List.mem_of_getElem? (i := 0) rfl))) (g := (mkF m 1 #[.val (.int p1), .val (.int p2), .val (.int p3), .unset, .unset, .unset, .unset] [(.int p1)])) rfl (hb hby at_1) _ ?_
    show Steps p.tables e below (s₁.setTop (mkF m 3 #[.val (.int p1), .val (.int p2), .val (.int p3), .unset, .unset, .unset, .unset] [(.int (2147483647 : Int32)), (.int p1)])) _
    refine XS.iand X0.here hx rfl (hb hby at_3) rfl ?_
    show Steps p.tables e below (s₁.setTop (mkF m 4 #[.val (.int p1), .val (.int p2), .val (.int p3), .unset, .unset, .unset, .unset] [(.int (p1 &&& (2147483647 : Int32)))])) _
    refine XS.iconst X0.here hx rfl (hb hby at_4) ?_
    show Steps p.tables e below (s₁.setTop (mkF m 5 #[.val (.int p1), .val (.int p2), .val (.int p3), .unset, .unset, .unset, .unset] [(.int (3 : Int32)), (.int (p1 &&& (2147483647 : Int32)))])) _
    refine iremM X0 hx rfl (hb hby at_5) rfl (by decide) ?_
    show Steps p.tables e below (s₁.setTop (mkF m 6 #[.val (.int p1), .val (.int p2), .val (.int p3), .unset, .unset, .unset, .unset] [(.int ((p1 &&& (2147483647 : Int32)) % (3 : Int32)))])) _
    refine XS.istoreN X0.here hx rfl (hb hby at_6) rfl (l' := #[.val (.int p1), .val (.int p2), .val (.int p3), .val (.int ((p1 &&& (2147483647 : Int32)) % (3 : Int32))), .unset, .unset, .unset]) rfl ?_
    show Steps p.tables e below (s₁.setTop (mkF m 7 #[.val (.int p1), .val (.int p2), .val (.int p3), .val (.int ((p1 &&& (2147483647 : Int32)) % (3 : Int32))), .unset, .unset, .unset] [])) _
    refine XS.iloadN X0.here hx rfl (hb hby at_7) rfl ?_
    show Steps p.tables e below (s₁.setTop (mkF m 8 #[.val (.int p1), .val (.int p2), .val (.int p3), .val (.int ((p1 &&& (2147483647 : Int32)) % (3 : Int32))), .unset, .unset, .unset] [(.int ((p1 &&& (2147483647 : Int32)) % (3 : Int32)))])) _
    refine XS.ifYes X0.here hx rfl (pc0 := 8) (pc' := 19) rfl (hb hby at_8) rfl ((if0 _ _).trans (feq hm).2) (by decide) (by decide) ?_
    show Steps p.tables e below (s₁.setTop (mkF m 19 #[.val (.int p1), .val (.int p2), .val (.int p3), .val (.int ((p1 &&& (2147483647 : Int32)) % (3 : Int32))), .unset, .unset, .unset] [])) _
    refine XS.iloadN X0.here hx rfl (hb hby at_19) rfl ?_
    show Steps p.tables e below (s₁.setTop (mkF m 20 #[.val (.int p1), .val (.int p2), .val (.int p3), .val (.int ((p1 &&& (2147483647 : Int32)) % (3 : Int32))), .unset, .unset, .unset] [(.int ((p1 &&& (2147483647 : Int32)) % (3 : Int32)))])) _
    refine XS.iconst X0.here hx rfl (hb hby at_20) ?_
    show Steps p.tables e below (s₁.setTop (mkF m 21 #[.val (.int p1), .val (.int p2), .val (.int p3), .val (.int ((p1 &&& (2147483647 : Int32)) % (3 : Int32))), .unset, .unset, .unset] [(.int (1 : Int32)), (.int ((p1 &&& (2147483647 : Int32)) % (3 : Int32)))])) _
    refine XS.icmpNo X0.here hx rfl (hb hby at_21) rfl (teq hm1).2 ?_
    show Steps p.tables e below (s₁.setTop (mkF m 24 #[.val (.int p1), .val (.int p2), .val (.int p3), .val (.int ((p1 &&& (2147483647 : Int32)) % (3 : Int32))), .unset, .unset, .unset] [])) _
    refine st1 _ ?_
    show Steps p.tables e below (T1.setTop (mkF m 27 #[.val (.int p1), .val (.int p2), .val (.int p3), .val (.int ((p1 &&& (2147483647 : Int32)) % (3 : Int32))), .unset, .unset, .unset] [(.ref a1)])) _
    refine XS.astore X1.here hx rfl (hb hby at_27) rfl rfl (l' := #[.val (.int p1), .val (.int p2), .val (.int p3), .val (.int ((p1 &&& (2147483647 : Int32)) % (3 : Int32))), .val (.ref a1), .unset, .unset]) rfl ?_
    show Steps p.tables e below (T1.setTop (mkF m 29 #[.val (.int p1), .val (.int p2), .val (.int p3), .val (.int ((p1 &&& (2147483647 : Int32)) % (3 : Int32))), .val (.ref a1), .unset, .unset] [])) _
    refine XS.goto X1.here hx rfl (pc0 := 29) (pc' := 37) rfl (hb hby at_29) (by decide) (by decide) ?_
    show Steps p.tables e below (T1.setTop (mkF m 37 #[.val (.int p1), .val (.int p2), .val (.int p3), .val (.int ((p1 &&& (2147483647 : Int32)) % (3 : Int32))), .val (.ref a1), .unset, .unset] [])) _
    refine XS.iloadN X1.here hx rfl (hb hby at_37) rfl ?_
    show Steps p.tables e below (T1.setTop (mkF m 38 #[.val (.int p1), .val (.int p2), .val (.int p3), .val (.int ((p1 &&& (2147483647 : Int32)) % (3 : Int32))), .val (.ref a1), .unset, .unset] [(.int ((p1 &&& (2147483647 : Int32)) % (3 : Int32)))])) _
    refine XS.ifYes X1.here hx rfl (pc0 := 38) (pc' := 47) rfl (hb hby at_38) rfl ((if0 _ _).trans (feq hm).2) (by decide) (by decide) ?_
    show Steps p.tables e below (T1.setTop (mkF m 47 #[.val (.int p1), .val (.int p2), .val (.int p3), .val (.int ((p1 &&& (2147483647 : Int32)) % (3 : Int32))), .val (.ref a1), .unset, .unset] [])) _
    refine XS.iloadN X1.here hx rfl (hb hby at_47) rfl ?_
    show Steps p.tables e below (T1.setTop (mkF m 48 #[.val (.int p1), .val (.int p2), .val (.int p3), .val (.int ((p1 &&& (2147483647 : Int32)) % (3 : Int32))), .val (.ref a1), .unset, .unset] [(.int ((p1 &&& (2147483647 : Int32)) % (3 : Int32)))])) _
    refine XS.iconst X1.here hx rfl (hb hby at_48) ?_
    show Steps p.tables e below (T1.setTop (mkF m 49 #[.val (.int p1), .val (.int p2), .val (.int p3), .val (.int ((p1 &&& (2147483647 : Int32)) % (3 : Int32))), .val (.ref a1), .unset, .unset] [(.int (1 : Int32)), (.int ((p1 &&& (2147483647 : Int32)) % (3 : Int32)))])) _
    refine XS.icmpNo X1.here hx rfl (hb hby at_49) rfl (teq hm1).2 ?_
    show Steps p.tables e below (T1.setTop (mkF m 52 #[.val (.int p1), .val (.int p2), .val (.int p3), .val (.int ((p1 &&& (2147483647 : Int32)) % (3 : Int32))), .val (.ref a1), .unset, .unset] [])) _
    refine kE _ ?_
    show Steps p.tables e below (T1.setTop (mkF m 89 #[.val (.int p1), .val (.int p2), .val (.int p3), .val (.int ((p1 &&& (2147483647 : Int32)) % (3 : Int32))), .val (.ref a1), .val (.int E), .unset] [])) _
    refine XS.aload X1.here hx rfl (hb hby at_89) rfl rfl ?_
    show Steps p.tables e below (T1.setTop (mkF m 91 #[.val (.int p1), .val (.int p2), .val (.int p3), .val (.int ((p1 &&& (2147483647 : Int32)) % (3 : Int32))), .val (.ref a1), .val (.int E), .unset] [(.ref a1)])) _
    refine XS.iloadN X1.here hx rfl (hb hby at_91) rfl ?_
    show Steps p.tables e below (T1.setTop (mkF m 92 #[.val (.int p1), .val (.int p2), .val (.int p3), .val (.int ((p1 &&& (2147483647 : Int32)) % (3 : Int32))), .val (.ref a1), .val (.int E), .unset] [(.int p2), (.ref a1)])) _
    refine XS.i2dS X1.here hx rfl (hb hby at_92) rfl rfl ?_
    show Steps p.tables e below (T1.setTop (mkF m 93 #[.val (.int p1), .val (.int p2), .val (.int p3), .val (.int ((p1 &&& (2147483647 : Int32)) % (3 : Int32))), .val (.ref a1), .val (.int E), .unset] [(.double (FP.i2d p2)), (.ref a1)])) _
    refine XS.iloadN X1.here hx rfl (hb hby at_93) rfl ?_
    show Steps p.tables e below (T1.setTop (mkF m 94 #[.val (.int p1), .val (.int p2), .val (.int p3), .val (.int ((p1 &&& (2147483647 : Int32)) % (3 : Int32))), .val (.ref a1), .val (.int E), .unset] [(.int p3), (.double (FP.i2d p2)), (.ref a1)])) _
    refine XS.i2dS X1.here hx rfl (hb hby at_94) rfl rfl ?_
    show Steps p.tables e below (T1.setTop (mkF m 95 #[.val (.int p1), .val (.int p2), .val (.int p3), .val (.int ((p1 &&& (2147483647 : Int32)) % (3 : Int32))), .val (.ref a1), .val (.int E), .unset] [(.double (FP.i2d p3)), (.double (FP.i2d p2)), (.ref a1)])) _
    refine st2.trans ?_
    show Steps p.tables e below (T2.setTop (mkF m 98 #[.val (.int p1), .val (.int p2), .val (.int p3), .val (.int ((p1 &&& (2147483647 : Int32)) % (3 : Int32))), .val (.ref a1), .val (.int E), .unset] [(.int E)])) _
    refine XS.istore X2.here hx rfl (hb hby at_98) rfl (l' := #[.val (.int p1), .val (.int p2), .val (.int p3), .val (.int ((p1 &&& (2147483647 : Int32)) % (3 : Int32))), .val (.ref a1), .val (.int E), .val (.int E)]) rfl ?_
    show Steps p.tables e below (T2.setTop (mkF m 100 #[.val (.int p1), .val (.int p2), .val (.int p3), .val (.int ((p1 &&& (2147483647 : Int32)) % (3 : Int32))), .val (.ref a1), .val (.int E), .val (.int E)] [])) _
    refine XS.iload X2.here hx rfl (hb hby at_100) rfl ?_
    show Steps p.tables e below (T2.setTop (mkF m 102 #[.val (.int p1), .val (.int p2), .val (.int p3), .val (.int ((p1 &&& (2147483647 : Int32)) % (3 : Int32))), .val (.ref a1), .val (.int E), .val (.int E)] [(.int E)])) _
    refine XS.iload X2.here hx rfl (hb hby at_102) rfl ?_
    show Steps p.tables e below (T2.setTop (mkF m 104 #[.val (.int p1), .val (.int p2), .val (.int p3), .val (.int ((p1 &&& (2147483647 : Int32)) % (3 : Int32))), .val (.ref a1), .val (.int E), .val (.int E)] [(.int E), (.int E)])) _
    refine XS.icmpNo X2.here hx rfl (hb hby at_104) rfl (teq (rfl : E = E)).2 ?_
    show Steps p.tables e below (T2.setTop (mkF m 107 #[.val (.int p1), .val (.int p2), .val (.int p3), .val (.int ((p1 &&& (2147483647 : Int32)) % (3 : Int32))), .val (.ref a1), .val (.int E), .val (.int E)] [])) _
    refine XS.iconst X2.here hx rfl (hb hby at_107) ?_
    show Steps p.tables e below (T2.setTop (mkF m 108 #[.val (.int p1), .val (.int p2), .val (.int p3), .val (.int ((p1 &&& (2147483647 : Int32)) % (3 : Int32))), .val (.ref a1), .val (.int E), .val (.int E)] [(.int (1 : Int32))])) _
    refine XS.goto X2.here hx rfl (pc0 := 108) (pc' := 112) rfl (hb hby at_108) (by decide) (by decide) ?_
    show Steps p.tables e below (T2.setTop (mkF m 112 #[.val (.int p1), .val (.int p2), .val (.int p3), .val (.int ((p1 &&& (2147483647 : Int32)) % (3 : Int32))), .val (.ref a1), .val (.int E), .val (.int E)] [(.int (1 : Int32))])) _
    exact retN X2 hx (t := .boolean) Bd.returns (by simp) (hb hby at_112) hr
  · exact ⟨rfl, N2⟩
set_option maxRecDepth 65536 in
set_option maxHeartbeats 40000000 in
theorem rm0c (l : Launch) (Z : State) (a0 : Array Value) (hw : ∀ d ∈ tables_1, d.before a0 Z = true) (ws : List Jvm.Cond) (p1 p2 p3 : Int32) (a1 : Addr) (sh : UInt64) (E : Int32) (h0 : Heap) (n0 : Nat) (Z0 : n0 ≤ h0.size) (F1 : Fld Z h0 a1 "com/example/polku/polku/provisioning/Promise" "share" "D" (.double sh)) (E1 : Exa Z h0 a1 "com/example/polku/polku/provisioning/Promise") (S1 : Sta Z h0 "com/example/polku/polku/provisioning/Promise" "FULL_RATE" "Lcom/example/polku/polku/provisioning/Promise;" (.ref a1)) (hnn : Jvm.Free.Fl.NoNaN64 (FP.dmul sh (FP.i2d p3))) (hres : own_kept sh (FP.i2d p2) (FP.i2d p3) = E) (hm : ¬ (p1 &&& (2147483647 : Int32)) % (3 : Int32) = 0) (hm1 : ¬ (p1 &&& (2147483647 : Int32)) % (3 : Int32) = 1) (hE0 : lcmpW p2.toInt64 p3.toInt64 < 0 → E = 0) (hE1 : ¬ lcmpW p2.toInt64 p3.toInt64 < 0 → E = 1) :
    MetFree l x (head1 (Jvm.Cond.code x code maxLocals ret :: ws) room_1) (fun a U => a = #[(.int p1), (.int p2), (.int p3)] ∧ Z.Warmed39 U.vm ∧ U.heap = h0) (fun _ _ _ _ _ => True) (fun _ U o U' => ∃ v L, o = .returned v ∧ Q0 n0 v U'.heap L ∧ FrameEnd U o U' L room_1.cells room_1.slots) := by
  refine MetFree.of_bodySF (plainFor_of_name pn_0) hisR ?_
  intro p e s m args below meth c s₁ Bd hml0 hP hK
  obtain ⟨rfl, hZ, hh⟩ := hP
  have hx := Bd.exec
  have hby := Bd.bytes
  have hml : c.maxLocals = 7 := hml0
  have hown : s.vm.findClass "com/example/polku/polku/provisioning/PromiseIsKeptPinLaw" = some m.cls := findClass_of_methodNamed Bd.named
  have hnm := (name_of_methodNamed Bd.named Bd.method).1
  have X0 : Stand p l e room_1 s m #[(.int p1), (.int p2), (.int p3)] below meth c s₁ [] 0 0 := Stand.of_body Bd
  have e0 : s₁.heap = h0 := by rw [← hh, Bd.state]; rfl
  have N0 := Fr.nil n0
  have pre0 : ∀ t, Steps p.tables e below (s₁.setTop (mkF m 0 #[.val (.int p1), .val (.int p2), .val (.int p3), .unset, .unset, .unset, .unset] [])) t → Steps p.tables e below (s₁.setTop (entryFrame m #[(.int p1), (.int p2), (.int p3)] maxLocals)) t := fun t k => castTop (ef_0 m p1 p2 p3) k
  obtain ⟨T1, X1, e1, st1⟩ := getS2 X0 hx hZ hown (host := "") (Or.inl (hw _ (List.mem_of_getElem? (i := 14) rfl))) Via.refl e0 S1 (g := (mkF m 32 #[.val (.int p1), .val (.int p2), .val (.int p3), .val (.int ((p1 &&& (2147483647 : Int32)) % (3 : Int32))), .unset, .unset, .unset] [])) rfl (hb hby at_32)
  have kE : ∀ target, Steps p.tables e below (T1.setTop (mkF m 89 #[.val (.int p1), .val (.int p2), .val (.int p3), .val (.int ((p1 &&& (2147483647 : Int32)) % (3 : Int32))), .val (.ref a1), .val (.int E), .unset] [])) target → Steps p.tables e below (T1.setTop (mkF m 74 #[.val (.int p1), .val (.int p2), .val (.int p3), .val (.int ((p1 &&& (2147483647 : Int32)) % (3 : Int32))), .val (.ref a1), .unset, .unset] [])) target := by
    intro target k
    by_cases hc : lcmpW p2.toInt64 p3.toInt64 < 0
    · show Steps p.tables e below (T1.setTop (mkF m 74 #[.val (.int p1), .val (.int p2), .val (.int p3), .val (.int ((p1 &&& (2147483647 : Int32)) % (3 : Int32))), .val (.ref a1), .unset, .unset] [])) _
      refine XS.iloadN X1.here hx rfl (hb hby at_74) rfl ?_
      show Steps p.tables e below (T1.setTop (mkF m 75 #[.val (.int p1), .val (.int p2), .val (.int p3), .val (.int ((p1 &&& (2147483647 : Int32)) % (3 : Int32))), .val (.ref a1), .unset, .unset] [(.int p2)])) _
      refine XS.i2l X1.here hx rfl (hb hby at_75) rfl ?_
      show Steps p.tables e below (T1.setTop (mkF m 76 #[.val (.int p1), .val (.int p2), .val (.int p3), .val (.int ((p1 &&& (2147483647 : Int32)) % (3 : Int32))), .val (.ref a1), .unset, .unset] [(.long p2.toInt64)])) _
      refine XS.iloadN X1.here hx rfl (hb hby at_76) rfl ?_
      show Steps p.tables e below (T1.setTop (mkF m 77 #[.val (.int p1), .val (.int p2), .val (.int p3), .val (.int ((p1 &&& (2147483647 : Int32)) % (3 : Int32))), .val (.ref a1), .unset, .unset] [(.int p3), (.long p2.toInt64)])) _
      refine XS.i2l X1.here hx rfl (hb hby at_77) rfl ?_
      show Steps p.tables e below (T1.setTop (mkF m 78 #[.val (.int p1), .val (.int p2), .val (.int p3), .val (.int ((p1 &&& (2147483647 : Int32)) % (3 : Int32))), .val (.ref a1), .unset, .unset] [(.long p3.toInt64), (.long p2.toInt64)])) _
      refine XS.lcmp X1.here hx rfl (hb hby at_78) rfl ?_
      show Steps p.tables e below (T1.setTop (mkF m 79 #[.val (.int p1), .val (.int p2), .val (.int p3), .val (.int ((p1 &&& (2147483647 : Int32)) % (3 : Int32))), .val (.ref a1), .unset, .unset] [(.int (lcmpW p2.toInt64 p3.toInt64))])) _
      refine XS.ifYes X1.here hx rfl (pc0 := 79) (pc' := 86) rfl (hb hby at_79) rfl ((if0 _ _).trans (tlt hc).1) (by decide) (by decide) ?_
      show Steps p.tables e below (T1.setTop (mkF m 86 #[.val (.int p1), .val (.int p2), .val (.int p3), .val (.int ((p1 &&& (2147483647 : Int32)) % (3 : Int32))), .val (.ref a1), .unset, .unset] [])) _
      refine XS.iconst X1.here hx rfl (hb hby at_86) ?_
      show Steps p.tables e below (T1.setTop (mkF m 87 #[.val (.int p1), .val (.int p2), .val (.int p3), .val (.int ((p1 &&& (2147483647 : Int32)) % (3 : Int32))), .val (.ref a1), .unset, .unset] [(.int (0 : Int32))])) _
      refine XS.istore X1.here hx rfl (hb hby at_87) rfl (l' := #[.val (.int p1), .val (.int p2), .val (.int p3), .val (.int ((p1 &&& (2147483647 : Int32)) % (3 : Int32))), .val (.ref a1), .val (.int (0 : Int32)), .unset]) rfl ?_
      show Steps p.tables e below (T1.setTop (mkF m 89 #[.val (.int p1), .val (.int p2), .val (.int p3), .val (.int ((p1 &&& (2147483647 : Int32)) % (3 : Int32))), .val (.ref a1), .val (.int (0 : Int32)), .unset] [])) _
      rw [hE0 hc] at k
      exact k
    · show Steps p.tables e below (T1.setTop (mkF m 74 #[.val (.int p1), .val (.int p2), .val (.int p3), .val (.int ((p1 &&& (2147483647 : Int32)) % (3 : Int32))), .val (.ref a1), .unset, .unset] [])) _
      refine XS.iloadN X1.here hx rfl (hb hby at_74) rfl ?_
      show Steps p.tables e below (T1.setTop (mkF m 75 #[.val (.int p1), .val (.int p2), .val (.int p3), .val (.int ((p1 &&& (2147483647 : Int32)) % (3 : Int32))), .val (.ref a1), .unset, .unset] [(.int p2)])) _
      refine XS.i2l X1.here hx rfl (hb hby at_75) rfl ?_
      show Steps p.tables e below (T1.setTop (mkF m 76 #[.val (.int p1), .val (.int p2), .val (.int p3), .val (.int ((p1 &&& (2147483647 : Int32)) % (3 : Int32))), .val (.ref a1), .unset, .unset] [(.long p2.toInt64)])) _
      refine XS.iloadN X1.here hx rfl (hb hby at_76) rfl ?_
      show Steps p.tables e below (T1.setTop (mkF m 77 #[.val (.int p1), .val (.int p2), .val (.int p3), .val (.int ((p1 &&& (2147483647 : Int32)) % (3 : Int32))), .val (.ref a1), .unset, .unset] [(.int p3), (.long p2.toInt64)])) _
      refine XS.i2l X1.here hx rfl (hb hby at_77) rfl ?_
      show Steps p.tables e below (T1.setTop (mkF m 78 #[.val (.int p1), .val (.int p2), .val (.int p3), .val (.int ((p1 &&& (2147483647 : Int32)) % (3 : Int32))), .val (.ref a1), .unset, .unset] [(.long p3.toInt64), (.long p2.toInt64)])) _
      refine XS.lcmp X1.here hx rfl (hb hby at_78) rfl ?_
      show Steps p.tables e below (T1.setTop (mkF m 79 #[.val (.int p1), .val (.int p2), .val (.int p3), .val (.int ((p1 &&& (2147483647 : Int32)) % (3 : Int32))), .val (.ref a1), .unset, .unset] [(.int (lcmpW p2.toInt64 p3.toInt64))])) _
      refine XS.ifNo X1.here hx rfl (hb hby at_79) rfl ((if0 _ _).trans (flt hc).1) ?_
      show Steps p.tables e below (T1.setTop (mkF m 82 #[.val (.int p1), .val (.int p2), .val (.int p3), .val (.int ((p1 &&& (2147483647 : Int32)) % (3 : Int32))), .val (.ref a1), .unset, .unset] [])) _
      refine XS.iconst X1.here hx rfl (hb hby at_82) ?_
      show Steps p.tables e below (T1.setTop (mkF m 83 #[.val (.int p1), .val (.int p2), .val (.int p3), .val (.int ((p1 &&& (2147483647 : Int32)) % (3 : Int32))), .val (.ref a1), .unset, .unset] [(.int (1 : Int32))])) _
      refine XS.goto X1.here hx rfl (pc0 := 83) (pc' := 87) rfl (hb hby at_83) (by decide) (by decide) ?_
      show Steps p.tables e below (T1.setTop (mkF m 87 #[.val (.int p1), .val (.int p2), .val (.int p3), .val (.int ((p1 &&& (2147483647 : Int32)) % (3 : Int32))), .val (.ref a1), .unset, .unset] [(.int (1 : Int32))])) _
      refine XS.istore X1.here hx rfl (hb hby at_87) rfl (l' := #[.val (.int p1), .val (.int p2), .val (.int p3), .val (.int ((p1 &&& (2147483647 : Int32)) % (3 : Int32))), .val (.ref a1), .val (.int (1 : Int32)), .unset]) rfl ?_
      show Steps p.tables e below (T1.setTop (mkF m 89 #[.val (.int p1), .val (.int p2), .val (.int p3), .val (.int ((p1 &&& (2147483647 : Int32)) % (3 : Int32))), .val (.ref a1), .val (.int (1 : Int32)), .unset] [])) _
      rw [hE1 hc] at k
      exact k
  obtain ⟨cq2, kq2, q2a, q2b, q2c⟩ := isOf hZ e1 E1
  obtain ⟨_, _, ⟨T2, L2, k2, n2⟩, -, X2, ⟨Lc2, hQ2, l2, y2, z2⟩, st2⟩ := X1.virtualBack hx (y := (⟨"com/example/polku/polku/provisioning/Promise", "isKept", "(DD)Z"⟩ : MethodName)) (z := (⟨"com/example/polku/polku/provisioning/Promise", "isKept", "(DD)Z"⟩ : MethodName)) hown (mvT hZ (hw _ (List.mem_of_getElem? (i := 4) rfl))) (mvT hZ (hw _ (List.mem_of_getElem? (i := 5) rfl))) (notFace_of_selects (args := #[]) (mvT hZ (hw _ (List.mem_of_getElem? (i := 7) rfl)))) (mvT hZ (hw _ (List.mem_of_getElem? (i := 7) rfl))) (mvT hZ (hw _ (List.mem_of_getElem? (i := 6) rfl))) (by decide) (backOf (W := 0) (rm1 l Z a0 hw [] a1 sh (FP.i2d p2) (FP.i2d p3) h0 n0 Z0 F1 hnn) hZ (hw _ (List.mem_of_getElem? (i := 8) rfl)) (hw _ (List.mem_of_getElem? (i := 2) rfl)) (by decide) (by decide)) q2a q2c (g := (mkF m 95 #[.val (.int p1), .val (.int p2), .val (.int p3), .val (.int ((p1 &&& (2147483647 : Int32)) % (3 : Int32))), .val (.ref a1), .val (.int E), .unset] [(.double (FP.i2d p3)), (.double (FP.i2d p2)), (.ref a1)])) rfl (by rw [hml]; rfl) (Steps.refl _) (argsL := [(.double (FP.i2d p2)), (.double (FP.i2d p3))]) (rest := []) (lenOf pd_1 rfl) rfl (by show 2 * 0 + _ ≤ _; exact Nat.le_of_eq rfl) (hb hby at_95) (fun _ _ => ⟨rfl, e1, (by decide : 0 + 0 ≤ _), (by decide : 0 + 0 ≤ _)⟩)
  dsimp only [Pt.U, Pt.locs, Pt.cells, Pt.slots] at X2 l2 y2 z2 st2 hQ2
  subst l2 y2 z2
  obtain ⟨rfl, N2q, e2⟩ := hQ2
  rw [hres] at st2
  have N2 := Fr.app N0 N2q
  obtain ⟨fs, hr, hrun, hended, hW, hsame⟩ := X2.leave (v := some (.int (1 : Int32))) (fun h => by rw [Bd.returns] at h; cases h)
  refine ⟨_, _, pre0 _ ?_, hrun, hended, _, _, rfl, ?_, ⟨_, rfl⟩, hW, hsame.mono (by decide) (by decide)⟩
  · show Steps p.tables e below (s₁.setTop (mkF m 0 #[.val (.int p1), .val (.int p2), .val (.int p3), .unset, .unset, .unset, .unset] [])) _
    refine XS.iloadN X0.here hx rfl (hb hby at_0) rfl ?_
    show Steps p.tables e below (s₁.setTop (mkF m 1 #[.val (.int p1), .val (.int p2), .val (.int p3), .unset, .unset, .unset, .unset] [(.int p1)])) _
    refine X0.ldcInt hx hown (mvT hZ (hw _ (List.mem_of_getElem? (i := 0) rfl))) (g := (mkF m 1 #[.val (.int p1), .val (.int p2), .val (.int p3), .unset, .unset, .unset, .unset] [(.int p1)])) rfl (hb hby at_1) _ ?_
    show Steps p.tables e below (s₁.setTop (mkF m 3 #[.val (.int p1), .val (.int p2), .val (.int p3), .unset, .unset, .unset, .unset] [(.int (2147483647 : Int32)), (.int p1)])) _
    refine XS.iand X0.here hx rfl (hb hby at_3) rfl ?_
    show Steps p.tables e below (s₁.setTop (mkF m 4 #[.val (.int p1), .val (.int p2), .val (.int p3), .unset, .unset, .unset, .unset] [(.int (p1 &&& (2147483647 : Int32)))])) _
    refine XS.iconst X0.here hx rfl (hb hby at_4) ?_
    show Steps p.tables e below (s₁.setTop (mkF m 5 #[.val (.int p1), .val (.int p2), .val (.int p3), .unset, .unset, .unset, .unset] [(.int (3 : Int32)), (.int (p1 &&& (2147483647 : Int32)))])) _
    refine iremM X0 hx rfl (hb hby at_5) rfl (by decide) ?_
    show Steps p.tables e below (s₁.setTop (mkF m 6 #[.val (.int p1), .val (.int p2), .val (.int p3), .unset, .unset, .unset, .unset] [(.int ((p1 &&& (2147483647 : Int32)) % (3 : Int32)))])) _
    refine XS.istoreN X0.here hx rfl (hb hby at_6) rfl (l' := #[.val (.int p1), .val (.int p2), .val (.int p3), .val (.int ((p1 &&& (2147483647 : Int32)) % (3 : Int32))), .unset, .unset, .unset]) rfl ?_
    show Steps p.tables e below (s₁.setTop (mkF m 7 #[.val (.int p1), .val (.int p2), .val (.int p3), .val (.int ((p1 &&& (2147483647 : Int32)) % (3 : Int32))), .unset, .unset, .unset] [])) _
    refine XS.iloadN X0.here hx rfl (hb hby at_7) rfl ?_
    show Steps p.tables e below (s₁.setTop (mkF m 8 #[.val (.int p1), .val (.int p2), .val (.int p3), .val (.int ((p1 &&& (2147483647 : Int32)) % (3 : Int32))), .unset, .unset, .unset] [(.int ((p1 &&& (2147483647 : Int32)) % (3 : Int32)))])) _
    refine XS.ifYes X0.here hx rfl (pc0 := 8) (pc' := 19) rfl (hb hby at_8) rfl ((if0 _ _).trans (feq hm).2) (by decide) (by decide) ?_
    show Steps p.tables e below (s₁.setTop (mkF m 19 #[.val (.int p1), .val (.int p2), .val (.int p3), .val (.int ((p1 &&& (2147483647 : Int32)) % (3 : Int32))), .unset, .unset, .unset] [])) _
    refine XS.iloadN X0.here hx rfl (hb hby at_19) rfl ?_
    show Steps p.tables e below (s₁.setTop (mkF m 20 #[.val (.int p1), .val (.int p2), .val (.int p3), .val (.int ((p1 &&& (2147483647 : Int32)) % (3 : Int32))), .unset, .unset, .unset] [(.int ((p1 &&& (2147483647 : Int32)) % (3 : Int32)))])) _
    refine XS.iconst X0.here hx rfl (hb hby at_20) ?_
    show Steps p.tables e below (s₁.setTop (mkF m 21 #[.val (.int p1), .val (.int p2), .val (.int p3), .val (.int ((p1 &&& (2147483647 : Int32)) % (3 : Int32))), .unset, .unset, .unset] [(.int (1 : Int32)), (.int ((p1 &&& (2147483647 : Int32)) % (3 : Int32)))])) _
    refine XS.icmpYes X0.here hx rfl (pc0 := 21) (pc' := 32) rfl (hb hby at_21) rfl (feq hm1).2 (by decide) (by decide) ?_
    show Steps p.tables e below (s₁.setTop (mkF m 32 #[.val (.int p1), .val (.int p2), .val (.int p3), .val (.int ((p1 &&& (2147483647 : Int32)) % (3 : Int32))), .unset, .unset, .unset] [])) _
    refine st1 _ ?_
    show Steps p.tables e below (T1.setTop (mkF m 35 #[.val (.int p1), .val (.int p2), .val (.int p3), .val (.int ((p1 &&& (2147483647 : Int32)) % (3 : Int32))), .unset, .unset, .unset] [(.ref a1)])) _
    refine XS.astore X1.here hx rfl (hb hby at_35) rfl rfl (l' := #[.val (.int p1), .val (.int p2), .val (.int p3), .val (.int ((p1 &&& (2147483647 : Int32)) % (3 : Int32))), .val (.ref a1), .unset, .unset]) rfl ?_
    show Steps p.tables e below (T1.setTop (mkF m 37 #[.val (.int p1), .val (.int p2), .val (.int p3), .val (.int ((p1 &&& (2147483647 : Int32)) % (3 : Int32))), .val (.ref a1), .unset, .unset] [])) _
    refine XS.iloadN X1.here hx rfl (hb hby at_37) rfl ?_
    show Steps p.tables e below (T1.setTop (mkF m 38 #[.val (.int p1), .val (.int p2), .val (.int p3), .val (.int ((p1 &&& (2147483647 : Int32)) % (3 : Int32))), .val (.ref a1), .unset, .unset] [(.int ((p1 &&& (2147483647 : Int32)) % (3 : Int32)))])) _
    refine XS.ifYes X1.here hx rfl (pc0 := 38) (pc' := 47) rfl (hb hby at_38) rfl ((if0 _ _).trans (feq hm).2) (by decide) (by decide) ?_
    show Steps p.tables e below (T1.setTop (mkF m 47 #[.val (.int p1), .val (.int p2), .val (.int p3), .val (.int ((p1 &&& (2147483647 : Int32)) % (3 : Int32))), .val (.ref a1), .unset, .unset] [])) _
    refine XS.iloadN X1.here hx rfl (hb hby at_47) rfl ?_
    show Steps p.tables e below (T1.setTop (mkF m 48 #[.val (.int p1), .val (.int p2), .val (.int p3), .val (.int ((p1 &&& (2147483647 : Int32)) % (3 : Int32))), .val (.ref a1), .unset, .unset] [(.int ((p1 &&& (2147483647 : Int32)) % (3 : Int32)))])) _
    refine XS.iconst X1.here hx rfl (hb hby at_48) ?_
    show Steps p.tables e below (T1.setTop (mkF m 49 #[.val (.int p1), .val (.int p2), .val (.int p3), .val (.int ((p1 &&& (2147483647 : Int32)) % (3 : Int32))), .val (.ref a1), .unset, .unset] [(.int (1 : Int32)), (.int ((p1 &&& (2147483647 : Int32)) % (3 : Int32)))])) _
    refine XS.icmpYes X1.here hx rfl (pc0 := 49) (pc' := 74) rfl (hb hby at_49) rfl (feq hm1).2 (by decide) (by decide) ?_
    show Steps p.tables e below (T1.setTop (mkF m 74 #[.val (.int p1), .val (.int p2), .val (.int p3), .val (.int ((p1 &&& (2147483647 : Int32)) % (3 : Int32))), .val (.ref a1), .unset, .unset] [])) _
    refine kE _ ?_
    show Steps p.tables e below (T1.setTop (mkF m 89 #[.val (.int p1), .val (.int p2), .val (.int p3), .val (.int ((p1 &&& (2147483647 : Int32)) % (3 : Int32))), .val (.ref a1), .val (.int E), .unset] [])) _
    refine XS.aload X1.here hx rfl (hb hby at_89) rfl rfl ?_
    show Steps p.tables e below (T1.setTop (mkF m 91 #[.val (.int p1), .val (.int p2), .val (.int p3), .val (.int ((p1 &&& (2147483647 : Int32)) % (3 : Int32))), .val (.ref a1), .val (.int E), .unset] [(.ref a1)])) _
    refine XS.iloadN X1.here hx rfl (hb hby at_91) rfl ?_
    show Steps p.tables e below (T1.setTop (mkF m 92 #[.val (.int p1), .val (.int p2), .val (.int p3), .val (.int ((p1 &&& (2147483647 : Int32)) % (3 : Int32))), .val (.ref a1), .val (.int E), .unset] [(.int p2), (.ref a1)])) _
    refine XS.i2dS X1.here hx rfl (hb hby at_92) rfl rfl ?_
    show Steps p.tables e below (T1.setTop (mkF m 93 #[.val (.int p1), .val (.int p2), .val (.int p3), .val (.int ((p1 &&& (2147483647 : Int32)) % (3 : Int32))), .val (.ref a1), .val (.int E), .unset] [(.double (FP.i2d p2)), (.ref a1)])) _
    refine XS.iloadN X1.here hx rfl (hb hby at_93) rfl ?_
    show Steps p.tables e below (T1.setTop (mkF m 94 #[.val (.int p1), .val (.int p2), .val (.int p3), .val (.int ((p1 &&& (2147483647 : Int32)) % (3 : Int32))), .val (.ref a1), .val (.int E), .unset] [(.int p3), (.double (FP.i2d p2)), (.ref a1)])) _
    refine XS.i2dS X1.here hx rfl (hb hby at_94) rfl rfl ?_
    show Steps p.tables e below (T1.setTop (mkF m 95 #[.val (.int p1), .val (.int p2), .val (.int p3), .val (.int ((p1 &&& (2147483647 : Int32)) % (3 : Int32))), .val (.ref a1), .val (.int E), .unset] [(.double (FP.i2d p3)), (.double (FP.i2d p2)), (.ref a1)])) _
    refine st2.trans ?_
    show Steps p.tables e below (T2.setTop (mkF m 98 #[.val (.int p1), .val (.int p2), .val (.int p3), .val (.int ((p1 &&& (2147483647 : Int32)) % (3 : Int32))), .val (.ref a1), .val (.int E), .unset] [(.int E)])) _
    refine XS.istore X2.here hx rfl (hb hby at_98) rfl (l' := #[.val (.int p1), .val (.int p2), .val (.int p3), .val (.int ((p1 &&& (2147483647 : Int32)) % (3 : Int32))), .val (.ref a1), .val (.int E), .val (.int E)]) rfl ?_
    show Steps p.tables e below (T2.setTop (mkF m 100 #[.val (.int p1), .val (.int p2), .val (.int p3), .val (.int ((p1 &&& (2147483647 : Int32)) % (3 : Int32))), .val (.ref a1), .val (.int E), .val (.int E)] [])) _
    refine XS.iload X2.here hx rfl (hb hby at_100) rfl ?_
    show Steps p.tables e below (T2.setTop (mkF m 102 #[.val (.int p1), .val (.int p2), .val (.int p3), .val (.int ((p1 &&& (2147483647 : Int32)) % (3 : Int32))), .val (.ref a1), .val (.int E), .val (.int E)] [(.int E)])) _
    refine XS.iload X2.here hx rfl (hb hby at_102) rfl ?_
    show Steps p.tables e below (T2.setTop (mkF m 104 #[.val (.int p1), .val (.int p2), .val (.int p3), .val (.int ((p1 &&& (2147483647 : Int32)) % (3 : Int32))), .val (.ref a1), .val (.int E), .val (.int E)] [(.int E), (.int E)])) _
    refine XS.icmpNo X2.here hx rfl (hb hby at_104) rfl (teq (rfl : E = E)).2 ?_
    show Steps p.tables e below (T2.setTop (mkF m 107 #[.val (.int p1), .val (.int p2), .val (.int p3), .val (.int ((p1 &&& (2147483647 : Int32)) % (3 : Int32))), .val (.ref a1), .val (.int E), .val (.int E)] [])) _
    refine XS.iconst X2.here hx rfl (hb hby at_107) ?_
    show Steps p.tables e below (T2.setTop (mkF m 108 #[.val (.int p1), .val (.int p2), .val (.int p3), .val (.int ((p1 &&& (2147483647 : Int32)) % (3 : Int32))), .val (.ref a1), .val (.int E), .val (.int E)] [(.int (1 : Int32))])) _
    refine XS.goto X2.here hx rfl (pc0 := 108) (pc' := 112) rfl (hb hby at_108) (by decide) (by decide) ?_
    show Steps p.tables e below (T2.setTop (mkF m 112 #[.val (.int p1), .val (.int p2), .val (.int p3), .val (.int ((p1 &&& (2147483647 : Int32)) % (3 : Int32))), .val (.ref a1), .val (.int E), .val (.int E)] [(.int (1 : Int32))])) _
    exact retN X2 hx (t := .boolean) Bd.returns (by simp) (hb hby at_112) hr
  · exact ⟨rfl, N2⟩
theorem own_fldD {args : Array Value} {s : State} {t : Term} {C n : String} {a : Addr} {b : Int64} (h : (Jvm.Cond.eq (Jvm.Term.field t C n "D") (Jvm.Term.op1 Jvm.Unary.bitsD (Jvm.Term.long b))).value args s none s [] = some true) (ht : t.eval args s none [] s = some (.ref a)) : s.fieldOf? a C n "D" = some (.double b.toUInt64) := by
  obtain ⟨x, y, e1, e2, -, -⟩ := cmp_v (Or.inl h)
  have e3 : y = .double b.toUInt64 := (Option.some.inj (e2.symm.trans (show _ = some (Value.double b.toUInt64) from rfl)))
  subst e3
  rw [← fld_at ht, e1]
  simp only [Jvm.Cond.value, e1, e2] at h
  cases x <;> simp at h
  rw [h]
theorem own_nnD {sh : UInt64} (h : Jvm.FP.Core.DFin sh) (r : Int32) : Jvm.Free.Fl.NoNaN64 (FP.dmul sh (FP.i2d r)) := Jvm.Free.Fl.dmul_out (Jvm.Free.Fl.fin64_core.mpr h) (Jvm.Free.Fl.i2d_fin r)
set_option maxRecDepth 65536 in
set_option maxHeartbeats 40000000 in
theorem comes_1 {Post : Tables → Env → Array Value → State → Outcome → State → Prop} (hpost : ∀ tb e args s v u, (limb_1_1.after args s (.returned v) u = true ∧ limb_1_2.after args s (.returned v) u = true ∧ True) → FrameEnd s (.returned v) u (Jvm.fieldLocs frame_1_writes args s ++ Jvm.arrayLocs frame_1_arrays args s ++ Jvm.staticLocs frame_1_statics s) 0 0 → Post tb e args s (.returned v) u) :
    ArmFor flags0 classFile x code maxLocals ret World_1 tables_1 room_1 Calls_1 rest_1 Pre_1 Post := by
  intro l hfl _ _ p e ha hc hk s m args below hf hA hF happ hP
  obtain ⟨hcalls, hrest, hpre⟩ := hP
  obtain ⟨-, -, -, hnamed, -, -, -, hat⟩ := (Spec.applies_iff hf).mp happ
  obtain ⟨hg, hn⟩ := and_e (Cond.before_iff.mp (show (Jvm.Cond.and given_1 narrow_1).before args s = true from hpre))
  obtain ⟨g1, g2⟩ := and_e hg
  obtain ⟨g3, g4⟩ := and_e g2
  obtain ⟨g5, g6⟩ := and_e g4
  obtain ⟨w0, w1, w2, rfl⟩ : ∃ w0 w1 w2 : Value, args = #[w0, w1, w2] := by
    have hs : args.size = 3 := by simpa [Cond.value, given_1] using g1
    obtain ⟨L⟩ := args
    match L, hs with
    | [w0, w1, w2], _ => exact ⟨w0, w1, w2, rfl⟩
  have hw := fun d (hd : d ∈ tables_1) => atoms_spec (ws := Jvm.Cond.code x code maxLocals ret :: tables_1) hat d (List.mem_cons_of_mem _ hd)
  obtain ⟨i0, ei0⟩ := is_v g3
  obtain rfl : w0 = (.int i0) := Option.some.inj ei0
  obtain ⟨i1, ei1⟩ := is_v g5
  obtain rfl : w1 = (.int i1) := Option.some.inj ei1
  obtain ⟨i2, ei2⟩ := is_v g6
  obtain rfl : w2 = (.int i2) := Option.some.inj ei2
  obtain ⟨n1, hn⟩ := and_e hn
  obtain ⟨n2, hn⟩ := and_e hn
  obtain ⟨n3, hn⟩ := and_e hn
  obtain ⟨n4, hn⟩ := and_e hn
  obtain ⟨n5, n6⟩ := and_e hn
  obtain ⟨aN, evN⟩ := exa_v n1
  obtain ⟨aH, evH⟩ := exa_v n3
  obtain ⟨aF, evF⟩ := exa_v n5
  have FN := Fld.start (own_fldD n2 evN)
  have FH := Fld.start (own_fldD n4 evH)
  have FF := Fld.start (own_fldD n6 evF)
  rw [show (0 : Int64).toUInt64 = 0 by decide] at FN
  rw [show (4602678819172646912 : Int64).toUInt64 = 4602678819172646912 by decide] at FH
  rw [show (4607182418800017408 : Int64).toUInt64 = 4607182418800017408 by decide] at FF
  have fin : ∀ (n : Nat) (u : State) (v : Option Value) (L : List Loc), Q0 s.heap.size v u.heap L → FrameEnd s (.returned v) u L room_1.cells room_1.slots → Post p.tables e #[.int i0, .int i1, .int i2] s (.returned v) u := by
    intro n u v L hQ hq
    obtain ⟨rfl, N⟩ := hQ
    exact hpost _ _ _ _ _ _ ⟨Cond.after_iff.mpr rfl, Cond.after_iff.mpr (eq_i res_at (Term.int_eval (1)) rfl), trivial⟩ ⟨hq.1, hq.2.1, (hq.2.2.sift fun y hy => Or.inr (N y hy)).mono (by decide) (by decide)⟩
  by_cases hm : (i0 &&& (2147483647 : Int32)) % (3 : Int32) = 0
  · obtain ⟨n, o, h1, h2, h3, _, L, rfl, hQ, hq⟩ := rm0a l s _ hw tables_1 i0 i1 i2 aN 0 0 s.heap s.heap.size (Nat.le_refl _) FN (Exa.start evN n1) (Sta.start evN (Or.inr ⟨(hw _ (List.mem_of_getElem? (i := 2) rfl)), (hw _ (List.mem_of_getElem? (i := 3) rfl))⟩)) (own_nnD own_d0.1 _) (own_kept0 _ _) hm rfl p e ha hc hk s m _ below hf ((Spec.applies_iff_loose hf).mp happ).1 ⟨rfl, State.Warmed39.refl s, rfl⟩ trivial
    exact ⟨n, _, h1, h2, h3, fin n _ _ L hQ hq⟩
  · by_cases hm1 : (i0 &&& (2147483647 : Int32)) % (3 : Int32) = 1
    · obtain ⟨n, o, h1, h2, h3, _, L, rfl, hQ, hq⟩ := rm0b l s _ hw tables_1 i0 i1 i2 aH 4602678819172646912 _ s.heap s.heap.size (Nat.le_refl _) FH (Exa.start evH n3) (Sta.start evH (Or.inr ⟨(hw _ (List.mem_of_getElem? (i := 2) rfl)), (hw _ (List.mem_of_getElem? (i := 12) rfl))⟩)) (own_nnD own_half.1 _) (own_kept1 _ _) hm hm1 (fun h => if_pos h) (fun h => if_neg h) p e ha hc hk s m _ below hf ((Spec.applies_iff_loose hf).mp happ).1 ⟨rfl, State.Warmed39.refl s, rfl⟩ trivial
      exact ⟨n, _, h1, h2, h3, fin n _ _ L hQ hq⟩
    · obtain ⟨n, o, h1, h2, h3, _, L, rfl, hQ, hq⟩ := rm0c l s _ hw tables_1 i0 i1 i2 aF 4607182418800017408 _ s.heap s.heap.size (Nat.le_refl _) FF (Exa.start evF n5) (Sta.start evF (Or.inr ⟨(hw _ (List.mem_of_getElem? (i := 2) rfl)), (hw _ (List.mem_of_getElem? (i := 15) rfl))⟩)) (own_nnD own_full.1 _) (own_kept2 _ _) hm hm1 (fun h => if_pos h) (fun h => if_neg h) p e ha hc hk s m _ below hf ((Spec.applies_iff_loose hf).mp happ).1 ⟨rfl, State.Warmed39.refl s, rfl⟩ trivial
      exact ⟨n, _, h1, h2, h3, fin n _ _ L hQ hq⟩
theorem main_1_1 : Claimed_1_1 := comes_1 fun _ _ _ _ _ _ h hF => ⟨h.1, hF⟩
theorem main_1_2 : Claimed_1_2 := comes_1 fun _ _ _ _ _ _ h hF => ⟨h.2.1, hF⟩
end Jvm.Pilot.@@N@@
namespace Jvm.Pilot.@@N@@
open Jvm Jvm.ClassFile Sem Op Lib Jvm.Free Jvm.Stand Jvm.Pilot.@@N@@.Jvm.D
/-! MADE BY PROGRAM (witnessworld.py) out of the Statement's table words and the real class files: 12 classes; the members and pool entries that the words name. The judged class is class 1, her method 1. -/
namespace start1
open Jvm.ClassFile
def u (s : String) : CpInfo := .utf8 (stringToUtf16 s)
/-- a pool by its gaps: so many unusable entries, then the entry; so many at the end -/
def gap : Nat → List CpInfo → List CpInfo
  | 0, r => r
  | n + 1, r => .unusable :: gap n r
def poolList (es : List (Nat × CpInfo)) (last : Nat) : List CpInfo := es.foldr (fun e r => gap e.1 (e.2 :: r)) (gap last [])
def pool (es : List (Nat × CpInfo)) (last : Nat) : Array CpInfo := ⟨poolList es last⟩
def fileOf (pool : Array CpInfo) (this : Nat) (attrs : Array Attribute := #[]) (ms : Array MethodInfo := #[]) (fl : Nat := 33) (sup : Nat := 0) (ifs : Array Nat := #[]) (fds : Array FieldInfo := #[]) : ClassFile where
  minorVersion := 0
  majorVersion := 65
  constantPool := pool
  accessFlags := fl
  thisClass := this
  superClass := sup
  interfaces := ifs
  fields := fds
  methods := ms
  attributes := attrs
def plain (name : String) (sup : Option ClassId) : Class where
  name := name
  kind := .ordinary
  loader := none
  accessFlags := 33
  super := sup
  interfaces := #[]
  cf := none
  fields := #[]
  methods := #[]
  instanceTypes := #[]
  staticTypes := #[]
  resolved := #[]
  callSites := []
  init := .initialized
  statics := none
  mirror := none

def pool0 : Array CpInfo := pool [(5, u "<init>"), (0, u "()V"), (1, .class_ 10), (1, u "java/lang/Object")] 113

def k0m0 : Method := { name := "<init>", desc := "()V", sig := { parameters := [], returnType := none }, accessFlags := 1, code := none }
/-- java/lang/Object -/
def k0 : Class := { plain "java/lang/Object" none with
  accessFlags := 33
  interfaces := #[]
  cf := some (fileOf pool0 8 #[] #[{ accessFlags := 1, nameIndex := 5, descriptorIndex := 6, attributes := #[] }] 33 0 #[] #[])
  fields := #[]
  methods := #[k0m0]
  instanceTypes := #[]
  staticTypes := #[]
  resolved := Array.replicate 124 none
  statics := none }

def pool1 : Array CpInfo := pool [(2, .class_ 4), (1, u "java/lang/Object"), (0, u "<init>"), (0, u "()V"), (0, .integer 2147483647), (0, .fieldref 9 10), (0, .class_ 11), (0, .nameAndType 12 13), (0, u "com/example/polku/polku/provisioning/Promise"), (0, u "NOTHING"), (0, u "Lcom/example/polku/polku/provisioning/Promise;"), (0, .fieldref 9 15), (0, .nameAndType 16 13), (0, u "HALF_RATE"), (0, .fieldref 9 18), (0, .nameAndType 19 13), (0, u "FULL_RATE"), (0, .long 2), (1, .methodref 9 23), (0, .nameAndType 24 25), (0, u "isKept"), (0, u "(DD)Z"), (0, .class_ 27), (0, u "com/example/polku/polku/provisioning/PromiseIsKeptPinLaw"), (2, u "law"), (0, u "(III)Z")] 3

def k1m0 : Method := { name := "<init>", desc := "()V", sig := { parameters := [], returnType := none }, accessFlags := 1, code := none }
def k1c1 : Code := { maxStack := 5, maxLocals := 7, code := code, exceptionTable := #[], attributes := #[] }
def k1m1 : Method := { name := "law", desc := "(III)Z", sig := { parameters := [.int, .int, .int], returnType := some .boolean }, accessFlags := 9, code := some k1c1 }
/-- com/example/polku/polku/provisioning/PromiseIsKeptPinLaw -/
def k1 : Class := { plain "com/example/polku/polku/provisioning/PromiseIsKeptPinLaw" (some 0) with
  accessFlags := 49
  interfaces := #[]
  cf := some (fileOf pool1 26 #[] #[{ accessFlags := 1, nameIndex := 5, descriptorIndex := 6, attributes := #[] }, { accessFlags := 9, nameIndex := 30, descriptorIndex := 31, attributes := #[] }] 49 2 #[] #[])
  fields := #[]
  methods := #[k1m0, k1m1]
  instanceTypes := #[]
  staticTypes := #[]
  resolved := Array.replicate 35 none
  statics := none }

def pool2 : Array CpInfo := pool [(1, .class_ 2), (0, u "java/lang/constant/Constable"), (0, .class_ 4), (0, u "java/lang/Object")] 6

/-- java/lang/constant/Constable -/
def k2 : Class := { plain "java/lang/constant/Constable" (some 0) with
  accessFlags := 1537
  interfaces := #[]
  cf := some (fileOf pool2 1 #[] #[] 1537 3 #[] #[])
  fields := #[]
  methods := #[]
  instanceTypes := #[]
  staticTypes := #[]
  resolved := Array.replicate 11 none
  statics := none }

def pool3 : Array CpInfo := pool [(1, .class_ 2), (0, u "java/lang/Comparable"), (0, .class_ 4), (0, u "java/lang/Object")] 7

/-- java/lang/Comparable -/
def k3 : Class := { plain "java/lang/Comparable" (some 0) with
  accessFlags := 1537
  interfaces := #[]
  cf := some (fileOf pool3 1 #[] #[] 1537 3 #[] #[])
  fields := #[]
  methods := #[]
  instanceTypes := #[]
  staticTypes := #[]
  resolved := Array.replicate 12 none
  statics := none }

def pool4 : Array CpInfo := pool [(1, .class_ 2), (0, u "java/io/Serializable"), (0, .class_ 4), (0, u "java/lang/Object")] 2

/-- java/io/Serializable -/
def k4 : Class := { plain "java/io/Serializable" (some 0) with
  accessFlags := 1537
  interfaces := #[]
  cf := some (fileOf pool4 1 #[] #[] 1537 3 #[] #[])
  fields := #[]
  methods := #[]
  instanceTypes := #[]
  staticTypes := #[]
  resolved := Array.replicate 7 none
  statics := none }

def pool5 : Array CpInfo := pool [(2, .class_ 4), (1, u "java/lang/Enum"), (0, u "name"), (0, u "Ljava/lang/String;"), (2, u "ordinal"), (0, u "I"), (1, .class_ 14), (1, u "java/lang/Object"), (4, u "hash"), (86, .class_ 108), (1, u "java/lang/Enum$EnumDesc"), (2, .class_ 112), (0, u "java/lang/constant/Constable"), (0, .class_ 114), (0, u "java/lang/Comparable"), (0, .class_ 116), (0, u "java/io/Serializable")] 87

/-- java/lang/Enum -/
def k5 : Class := { plain "java/lang/Enum" (some 0) with
  accessFlags := 1057
  interfaces := #[2, 3, 4]
  cf := some (fileOf pool5 2 #[.nestMembers #[106]] #[] 1057 12 #[111, 113, 115] #[{ accessFlags := 18, nameIndex := 5, descriptorIndex := 6, attributes := #[] }, { accessFlags := 18, nameIndex := 9, descriptorIndex := 10, attributes := #[] }, { accessFlags := 2, nameIndex := 19, descriptorIndex := 10, attributes := #[] }])
  fields := #[{ name := "name", type := (.object "java/lang/String"), accessFlags := 18, slot := 0, constantValue := 0 }, { name := "ordinal", type := .int, accessFlags := 18, slot := 1, constantValue := 0 }, { name := "hash", type := .int, accessFlags := 2, slot := 2, constantValue := 0 }]
  methods := #[]
  instanceTypes := #[(.object "java/lang/String"), .int, .int]
  staticTypes := #[]
  resolved := Array.replicate 204 none
  statics := none }

def pool6 : Array CpInfo := pool [(1, .class_ 2), (0, u "com/example/polku/polku/provisioning/Promise"), (2, u "NOTHING"), (0, u "Lcom/example/polku/polku/provisioning/Promise;"), (2, u "HALF_RATE"), (2, u "FULL_RATE"), (2, u "$VALUES"), (0, u "[Lcom/example/polku/polku/provisioning/Promise;"), (6, .class_ 25), (1, u "java/lang/Enum"), (6, .fieldref 1 33), (0, .nameAndType 34 35), (0, u "share"), (0, u "D"), (21, u "isKept"), (0, u "(DD)Z")] 6

def k6c0 : Code := { maxStack := 6, maxLocals := 5, code := prog_51_method_5_code, exceptionTable := #[], attributes := #[] }
def k6m0 : Method := { name := "isKept", desc := "(DD)Z", sig := { parameters := [.double, .double], returnType := some .boolean }, accessFlags := 1, code := some k6c0 }
/-- com/example/polku/polku/provisioning/Promise -/
def k6 : Class := { plain "com/example/polku/polku/provisioning/Promise" (some 5) with
  accessFlags := 16433
  interfaces := #[]
  cf := some (fileOf pool6 1 #[] #[{ accessFlags := 1, nameIndex := 57, descriptorIndex := 58, attributes := #[] }] 16433 23 #[] #[{ accessFlags := 16409, nameIndex := 5, descriptorIndex := 6, attributes := #[] }, { accessFlags := 16409, nameIndex := 9, descriptorIndex := 6, attributes := #[] }, { accessFlags := 16409, nameIndex := 12, descriptorIndex := 6, attributes := #[] }, { accessFlags := 18, nameIndex := 34, descriptorIndex := 35, attributes := #[] }, { accessFlags := 4122, nameIndex := 15, descriptorIndex := 16, attributes := #[] }])
  fields := #[{ name := "NOTHING", type := (.object "com/example/polku/polku/provisioning/Promise"), accessFlags := 16409, slot := 0, constantValue := 0 }, { name := "HALF_RATE", type := (.object "com/example/polku/polku/provisioning/Promise"), accessFlags := 16409, slot := 1, constantValue := 0 }, { name := "FULL_RATE", type := (.object "com/example/polku/polku/provisioning/Promise"), accessFlags := 16409, slot := 2, constantValue := 0 }, { name := "share", type := .double, accessFlags := 18, slot := 3, constantValue := 0 }, { name := "$VALUES", type := (.array (.object "com/example/polku/polku/provisioning/Promise")), accessFlags := 4122, slot := 3, constantValue := 0 }]
  methods := #[k6m0]
  instanceTypes := #[(.object "java/lang/String"), .int, .int, .double]
  staticTypes := #[(.object "com/example/polku/polku/provisioning/Promise"), (.object "com/example/polku/polku/provisioning/Promise"), (.object "com/example/polku/polku/provisioning/Promise"), (.array (.object "com/example/polku/polku/provisioning/Promise"))]
  resolved := Array.replicate 65 none
  statics := some 0 }

def pool7 : Array CpInfo := pool [(1, u "java/lang/Cloneable"), (0, .class_ 1), (0, u "java/lang/Object"), (0, .class_ 3)] 3

/-- java/lang/Cloneable -/
def k7 : Class := { plain "java/lang/Cloneable" (some 0) with
  accessFlags := 1537
  interfaces := #[]
  cf := some (fileOf pool7 2 #[] #[] 1537 4 #[] #[])
  fields := #[]
  methods := #[]
  instanceTypes := #[]
  staticTypes := #[]
  resolved := Array.replicate 8 none
  statics := none }

/-- the primitive byte -/
def k8 : Class := { plain "byte" none with kind := .primitive 'B', accessFlags := 0x411 }
/-- [B -/
def k9 : Class := { plain "[B" (some 0) with kind := .array 8 .byte, interfaces := #[7, 4], accessFlags := 1041 }

/-- the primitive int -/
def k10 : Class := { plain "int" none with kind := .primitive 'I', accessFlags := 0x411 }
/-- [I -/
def k11 : Class := { plain "[I" (some 0) with kind := .array 10 .int, interfaces := #[7, 4], accessFlags := 1041 }

def heap : Heap := #[{ cls := 6, slots := #[.ref 1, .ref 2, .ref 3, .null], vm := .statics 6 },
  { cls := 6, slots := #[.null, .int 0, .int 0, .double 0], vm := .none },
  { cls := 6, slots := #[.null, .int 0, .int 0, .double 4602678819172646912], vm := .none },
  { cls := 6, slots := #[.null, .int 0, .int 0, .double 4607182418800017408], vm := .none }]
def classes : Array Class := #[k0, k1, k2, k3, k4, k5, k6, k7, k8, k9, k10, k11]
def interned : List (Array UInt16 × Addr) := []
def slotsUsed : Nat := 16
def theMethod : MethodId := ⟨1, 1⟩
def args0 : Array Value := #[.int 4, .int 5, .int 6]
def aboutOver (below : List Frame) : State where
  vm := { classes := classes, interned := interned.toArray }
  heap := heap
  slotsUsed := slotsUsed
  threads := #[{ frames := .invoking theMethod args0 :: below }]
def below0 : List Frame := [.native { method := ⟨0, 0⟩, args := #[] }]
def about1 : State := aboutOver below0
def p0 : Program := .bare "" "" ""
def e0 : Env := launch0.env 0 0 0
theorem w_frames : about1.frames = Frame.invoking theMethod args0 :: below0 := rfl
set_option maxRecDepth 65536 in
theorem w_args : argsFit about1.vm theMethod args0 = true := by decide +kernel
set_option maxRecDepth 65536 in
theorem w_heap : heapFits about1 = true := by decide +kernel
set_option maxRecDepth 65536 in
theorem w_runnable : about1.curStatus? = some .runnable := by decide +kernel
set_option maxRecDepth 65536 in
theorem w_alone : about1.alone = true := by decide +kernel
set_option maxRecDepth 65536 in
theorem w_named : about1.methodNamed? x = some theMethod := by decide +kernel
set_option maxRecDepth 65536 in
theorem w_hears : about1.hears theMethod below0 = true := by decide +kernel
set_option maxRecDepth 65536 in
theorem w_ripe : about1.ripe theMethod args0 below0 = true := by decide +kernel
theorem w_running : about1.status = .running := rfl
set_option maxRecDepth 65536 in
theorem w_room : about1.hasRoom e0.platform room_1 = true :=
  launch0.hasRoom_least _ room_1 (by decide +kernel) (by decide +kernel) (by decide +kernel) (by decide +kernel) (by decide +kernel) (by decide +kernel)
theorem allAtoms_all (ts : List Jvm.Cond) (a : Array Jvm.Value) (st : Jvm.State) : (allAtoms ts).before a st = ts.all (fun c => c.before a st) := by
  induction ts with
  | nil => rfl
  | cons c t ih =>
    show (Jvm.Cond.and c (allAtoms t)).before a st = _
    rw [Jvm.Cond.before_and, ih, List.all_cons]
def words1 : List Jvm.Cond := Jvm.Cond.code x code maxLocals ret :: tables_1
/-- a 'code' word, met by the world's own term for the bytes: nothing is compared byte by byte -/
theorem code_word {y : MethodName} {bytes : ByteArray} {mx : Nat} {rt : Option FieldType} {a : Array Value} {s : State} {m : MethodId} {meth : Method} {c : Code} (h1 : s.methodNamed? y = some m) (h2 : s.vm.method? m = some meth) (h3 : meth.code = some c) (h4 : c.code = bytes)
    (h5 : (c.maxLocals == mx && c.exceptionTable.isEmpty && decide (c.maxStack ≤ mostOperands) && decide (meth.sig.returnType = rt) && !meth.locks && decide (parseMethodDescriptor y.desc = some meth.sig)) = true) : (Jvm.Cond.code y bytes mx rt).before a s = true := by
  simp only [Bool.and_eq_true, beq_iff_eq, Bool.not_eq_true', decide_eq_true_eq] at h5
  obtain ⟨⟨⟨⟨⟨g1, g2⟩, g3⟩, g4⟩, g5⟩, g6⟩ := h5
  simp [Cond.before, Cond.holds, Cond.value, h1, h2, h3, h4, g1, g2, g3, g4, g5, g6]
def isCode : Jvm.Cond → Bool
  | .code _ _ _ _ => true
  | _ => false
theorem all_split {L : List Jvm.Cond} {P : Jvm.Cond → Bool} (h1 : L.all (fun c => isCode c || P c) = true) (h2 : ∀ c ∈ L.filter isCode, P c = true) : L.all P = true := by
  refine List.all_eq_true.mpr fun c hc => ?_
  have h := List.all_eq_true.mp h1 c hc
  rcases Bool.eq_false_or_eq_true (isCode c) with hi | hi
  · exact h2 c (List.mem_filter.mpr ⟨hc, hi⟩)
  · simpa [hi] using h
set_option maxRecDepth 65536 in
theorem w_c0 : (Jvm.Cond.code x code maxLocals ret).before args0 about1 = true := code_word (m := ⟨1, 1⟩) (meth := k1m1) (c := k1c1) (by decide +kernel) rfl rfl rfl (by decide +kernel)
set_option maxRecDepth 65536 in
theorem w_c1 : (Jvm.Cond.code ({ cls := "com/example/polku/polku/provisioning/Promise", name := "isKept", desc := "(DD)Z" } : Jvm.MethodName) prog_51_method_5_code (5 : Nat) (Option.some Jvm.ClassFile.FieldType.boolean)).before args0 about1 = true := code_word (m := ⟨6, 0⟩) (meth := k6m0) (c := k6c0) (by decide +kernel) rfl rfl rfl (by decide +kernel)
def codes1 : List Jvm.Cond := [Jvm.Cond.code x code maxLocals ret, Jvm.Cond.code ({ cls := "com/example/polku/polku/provisioning/Promise", name := "isKept", desc := "(DD)Z" } : Jvm.MethodName) prog_51_method_5_code (5 : Nat) (Option.some Jvm.ClassFile.FieldType.boolean)]
set_option maxRecDepth 65536 in
theorem codes_eq : words1.filter isCode = codes1 := rfl
theorem w_codes : ∀ c ∈ words1.filter isCode, c.before args0 about1 = true := by
  rw [codes_eq]
  intro c hc
  simp only [codes1, List.mem_cons, List.not_mem_nil, or_false] at hc
  rcases hc with rfl | rfl
  · exact w_c0
  · exact w_c1
set_option maxRecDepth 65536 in
theorem w_t1 : words1.all (fun c => isCode c || c.before args0 about1) = true := by decide +kernel
theorem w_tables : (allAtoms (Jvm.Cond.code x code maxLocals ret :: tables_1)).before args0 about1 = true := by
  rw [allAtoms_all]
  show words1.all (fun c => c.before args0 about1) = true
  refine all_split ?_ w_codes
  rw [w_t1]
set_option maxRecDepth 65536 in
theorem w_case : (Jvm.Cond.and given_1 narrow_1).before args0 about1 = true := by decide +kernel
theorem w_applies : (headSpec (Jvm.Cond.code x code maxLocals ret :: tables_1) room_1).applies x e0.platform about1 = true :=
  (Spec.applies_iff w_frames).mpr ⟨w_running, w_runnable, w_alone, w_named, w_hears, w_ripe, w_room, w_tables⟩
theorem atStart : AtStart classFile x code maxLocals ret World_1 tables_1 room_1 Calls_1 rest_1 Pre_1 launch0 p0 e0 about1 theMethod args0 below0 :=
  ⟨lists_1, trivial, launch0.admits_env _ _ _, launch0.least_env, fairChoices_fair.cas, fairChoices_fair.clock, w_frames, w_args, w_heap, w_applies, trivial, trivial, w_case⟩
end start1
theorem witness_1 : WitnessClaimed_1 := ⟨start1.p0, start1.e0, start1.about1, start1.theMethod, start1.args0, start1.below0, start1.atStart⟩
end Jvm.Pilot.@@N@@
