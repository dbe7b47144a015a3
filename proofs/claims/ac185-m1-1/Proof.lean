import JvmDerived
import JvmDerived.Pilot.@@N@@Statement
import JvmDerived.Pilot.@@N@@Code
set_option linter.unusedVariables false
set_option linter.unusedSimpArgs false
namespace Jvm.Pilot.@@N@@
open Jvm Jvm.ClassFile Sem Op Lib Jvm.Free Jvm.Stand Jvm.LawKit Jvm.RoadKit Bundle Jvm.Pilot.@@N@@.Jvm.D
section OwnFP
open Jvm.FP.Core
theorem fp_near_mono {A A' B : Nat} (hB : 0 < B) (h : A ≤ A') : nearest A B ≤ nearest A' B := by
  have s1 := nearest_spec A B hB
  have s2 := nearest_spec A' B hB
  apply Nat.le_of_not_lt
  intro hlt
  generalize nearest A B = x at *
  generalize nearest A' B = y at *
  obtain ⟨a1, a2, a3⟩ := s1
  obtain ⟨b1, b2, b3⟩ := s2
  have e1 : 2 * x * B ≤ 2 * A + B := a2
  have e2 : 2 * A' ≤ (2 * y + 1) * B := b1
  have e3 : (2 * y + 1) * B + B ≤ 2 * x * B := by
    have : 2 * y + 1 + 1 ≤ 2 * x := by omega
    calc (2 * y + 1) * B + B = (2 * y + 1 + 1) * B := by rw [Nat.add_mul (2 * y + 1) 1 B, Nat.one_mul]
      _ ≤ 2 * x * B := Nat.mul_le_mul_right B this
  have p1 : 2 * x * B = 2 * A + B := by omega
  have p2 : 2 * A' = (2 * y + 1) * B := by omega
  have q1 := a3 (Or.inr p1)
  have q2 := b3 (Or.inl p2)
  have e4 : 2 * x * B = (2 * y + 2) * B := by
    have : (2 * y + 2) * B = (2 * y + 1) * B + B := by rw [show 2 * y + 2 = 2 * y + 1 + 1 by omega, Nat.add_mul (2 * y + 1) 1 B, Nat.one_mul]
    omega
  have e5 := Nat.eq_of_mul_eq_mul_right hB e4
  omega
theorem fp_below_mono {A A' B : Nat} {k : Int} (h : A ≤ A') (hb : Below A' B k) : Below A B k := by
  unfold Below at *
  exact Nat.lt_of_le_of_lt (Nat.mul_le_mul_right _ h) hb
theorem fp_lead_mono {A A' B : Nat} (hA : 0 < A) (hB : 0 < B) (h : A ≤ A') : leading A B ≤ leading A' B := by
  have l1 := (leading_spec hA hB).1
  have l2 := (leading_spec (Nat.lt_of_lt_of_le hA h) hB).2
  have := lt_of_below (fun q => l1 (fp_below_mono h q)) l2
  omega
theorem fp_zmag_settle {s : Bool} {c : Nat} {q : Int} (hc : c ≤ 2 ^ 53) (h1 : b64.qmin ≤ q) (h2 : q + 1 ≤ b64.qmax) : zmag b64 (settle b64 s c q) = c * 2 ^ (q - b64.qmin).toNat := by
  unfold settle bound
  split
  · rw [if_pos (by omega)]; rfl
  · rename_i hn
    have e : c = 2 ^ 53 := by have : ¬ c < 2 ^ 53 := hn; omega
    rw [e]
    try rw [if_pos h2]
    show b64.tails * 2 ^ (q + 1 - b64.qmin).toNat = _
    rw [show (q + 1 - b64.qmin).toNat = 1 + (q - b64.qmin).toNat by omega, Nat.pow_add, ← Nat.mul_assoc]
    rfl
theorem fp_q_small {A B : Nat} (hA : 0 < A) (hB : 0 < B) (h : Below A B 60) : quantum b64 A B 0 ≤ 8 := by
  have l := lt_of_below (leading_spec hA hB).1 h
  unfold quantum
  have : b64.qmin ≤ 8 := by decide
  have : (b64.p : Int) = 53 := rfl
  omega
theorem fp_rr {A B : Nat} (hA : 0 < A) (hB : 0 < B) (h : Below A B 60) : zmag b64 (roundRatio b64 false A B 0) = nearest (unitsNum A 0 (quantum b64 A B 0)) (unitsDen B 0 (quantum b64 A B 0)) * 2 ^ (quantum b64 A B 0 - b64.qmin).toNat := by
  unfold roundRatio roundAt
  rw [if_neg (by omega)]
  have q1 := fp_q_small hA hB h
  have q2 : (8 : Int) + 1 ≤ b64.qmax := by decide
  exact fp_zmag_settle (nearest_units_le hA hB 0) (quantum_ge _ _ _ _) (by omega)
theorem fp_units_iff {A B : Nat} {q : Int} (h : b64.qmin ≤ q) : Below A B (q - 0 + 53) ↔ inUnits A 0 b64.qmin < 2 ^ 53 * 2 ^ (q - b64.qmin).toNat * 2 ^ (b64.qmin - b64.qmin).toNat * B := by
  have hq : b64.qmin ≤ 0 := by decide
  have e : q - 0 + 53 = (((53 + (q - b64.qmin).toNat : Nat) : Int)) - (((0 - b64.qmin).toNat : Nat) : Int) := by omega
  rw [e, below_iff]
  unfold inUnits
  rw [Int.sub_self, Nat.pow_add]
  show _ ↔ _ < _ * 2 ^ 0 * B
  rw [Nat.pow_zero, Nat.mul_one, Nat.mul_comm B]
theorem fp_mono1 {A A' B : Nat} (hA : 0 < A) (hB : 0 < B) (h : A ≤ A') (hb : Below A' B 60) : zmag b64 (roundRatio b64 false A B 0) ≤ zmag b64 (roundRatio b64 false A' B 0) := by
  have hA' : 0 < A' := Nat.lt_of_lt_of_le hA h
  have hl := fp_lead_mono hA hB h
  have hq : quantum b64 A B 0 ≤ quantum b64 A' B 0 := by unfold quantum; omega
  have q8 := fp_q_small hA' hB hb
  by_cases e : quantum b64 A B 0 = quantum b64 A' B 0
  · rw [fp_rr hA hB (fp_below_mono h hb), fp_rr hA' hB hb, e]
    refine Nat.mul_le_mul_right _ (fp_near_mono (unitsDen_pos hB _ _) ?_)
    exact Nat.mul_le_mul_right _ h
  · have lt : quantum b64 A B 0 < quantum b64 A' B 0 := by omega
    have ge1 := quantum_ge b64 A B 0
    have b1 := quantum_below (f := b64) hA hB 0
    have b2 : ¬ Below A' B (quantum b64 A' B 0 - 0 + ((b64.p : Int) - 1)) := by
      rcases quantum_not_below (f := b64) hA' hB 0 with q | q
      · omega
      · exact q
    generalize quantum b64 A B 0 = q at *
    generalize quantum b64 A' B 0 = q' at *
    have hp : (b64.p : Int) = 53 := rfl
    have b3 : ¬ Below A' B (q - 0 + 53) := fun z => b2 (below_mono (by omega) z)
    have b4 : Below A B (q - 0 + 53) := b1
    have hfit : Jvm.FP.Core.fits b64 (.fin false b64.tails (q + 1)) := by
      have : (9 : Int) ≤ b64.qmax := by decide
      exact ⟨by decide, by omega, by omega, Or.inr (Nat.le_refl _)⟩
    have hz : zmag b64 (.fin false b64.tails (q + 1)) = 2 ^ 53 * 2 ^ (q - b64.qmin).toNat := by
      show b64.tails * 2 ^ (q + 1 - b64.qmin).toNat = _
      rw [show (q + 1 - b64.qmin).toNat = 1 + (q - b64.qmin).toNat by omega, Nat.pow_add, ← Nat.mul_assoc]
      rfl
    have hqm : b64.qmin ≤ 0 := by decide
    refine Nat.le_trans (zmag_roundRatio_le (V := .fin false b64.tails (q + 1)) good_b64 hB hfit nofun (Int.le_refl _) hqm ?_) (zmag_roundRatio_ge (V := .fin false b64.tails (q + 1)) good_b64 hB hfit (Int.le_refl _) hqm ?_)
    · rw [hz]; exact Nat.le_of_lt ((fp_units_iff ge1).mp b4)
    · rw [hz]; exact Nat.le_of_not_lt fun z => b3 ((fp_units_iff ge1).mpr z)
/-- the positive number N * 2^E -/
def FPos (N : Nat) (E : Int) (d : Datum) : Prop := ∃ c q, d = .fin false c q ∧ c * 2 ^ (q - E).toNat = N * 2 ^ (E - q).toNat
theorem fp_quot {N D : Nat} {E F : Int} {x y : Datum} (hx : FPos N E x) (hy : FPos D F y) (hD : 0 < D) : quotient b64 x y = roundRatio b64 false N D (E - F) := by
  obtain ⟨c, q, rfl, hc⟩ := hx
  obtain ⟨d, r, rfl, hd⟩ := hy
  have hd0 : 0 < d := by
    rcases Nat.eq_zero_or_pos d with z | z
    · subst z; rw [Nat.zero_mul] at hd
      have := Nat.mul_pos hD (Nat.two_pow_pos (F - r).toNat); omega
    · exact z
  show (if d = 0 then (if c = 0 then Datum.nan else .inf (false != false)) else roundRatio b64 (false != false) c d (q - r)) = _
  rw [if_neg (by omega)]
  refine roundRatio_congr hd0 hD ?_
  have ex : (q - E).toNat + (F - r).toNat + ((E - F) - (q - r)).toNat = (E - q).toNat + (r - F).toNat + ((q - r) - (E - F)).toNat := by omega
  generalize (q - E).toNat = a at *
  generalize (E - q).toNat = a' at *
  generalize (r - F).toNat = b at *
  generalize (F - r).toNat = b' at *
  generalize ((q - r) - (E - F)).toNat = u at *
  generalize ((E - F) - (q - r)).toNat = u' at *
  apply Nat.eq_of_mul_eq_mul_right (Nat.two_pow_pos (a + b'))
  have e1 : c * D * 2 ^ u * 2 ^ (a + b') = (c * 2 ^ a) * (D * 2 ^ b') * 2 ^ u := by rw [Nat.pow_add]; ac_rfl
  have e2 : N * d * 2 ^ u' * 2 ^ (a + b') = N * d * 2 ^ (a + b' + u') := by rw [Nat.pow_add 2 (a + b') u']; ac_rfl
  rw [e1, e2, hc, ← hd, ex, Nat.pow_add, Nat.pow_add]
  ac_rfl
theorem fp_l2d {a : Int64} (h : Small53 a) (h0 : 0 < a.toInt) : FPos a.toInt.toNat 0 (val64 (l2d a)) := by
  obtain ⟨c, q, e⟩ := l2d_shape a
  have w := l2d_whole h
  rw [e] at w ⊢
  have hn : decide (a.toInt < 0) = false := decide_eq_false (by omega)
  rw [hn] at w ⊢
  refine ⟨c, q, rfl, ?_⟩
  have w' : ((c * 2 ^ q.toNat : Nat) : Int) = a.toInt * ((2 ^ (-q).toNat : Nat) : Int) := w
  rw [show (q - 0) = q by omega, show (0 - q) = -q by omega]
  apply Int.ofNat.inj
  show ((c * 2 ^ q.toNat : Nat) : Int) = ((a.toInt.toNat * 2 ^ (-q).toNat : Nat) : Int)
  rw [w', Int.natCast_mul, Int.toNat_of_nonneg (by omega)]
/-- an exact quotient: N = Q * D -/
theorem fp_exact {N D Q : Nat} {E F G : Int} {x y z : Datum} (hx : FPos N E x) (hy : FPos D F y) (hz : FPos Q G z) (fz : Jvm.FP.Core.fits b64 z) (hD : 0 < D) (h : N * 2 ^ (E - F - G).toNat = Q * D * 2 ^ (G - (E - F)).toNat) : quotient b64 x y = z := by
  rw [fp_quot hx hy hD]
  obtain ⟨c, q, rfl, hc⟩ := hz
  refine roundRatio_exact good_b64 hD fz ?_
  generalize E - F = e at *
  have ex : (q - G).toNat + (e - q).toNat + (G - e).toNat = (G - q).toNat + (q - e).toNat + (e - G).toNat := by omega
  generalize (q - G).toNat = a at *
  generalize (G - q).toNat = a' at *
  generalize (e - q).toNat = b at *
  generalize (q - e).toNat = b' at *
  generalize (e - G).toNat = u at *
  generalize (G - e).toNat = u' at *
  apply Nat.eq_of_mul_eq_mul_right (Nat.two_pow_pos (a + u))
  have e1 : N * 2 ^ b * 2 ^ (a + u) = (N * 2 ^ u) * 2 ^ (a + b) := by rw [Nat.pow_add, Nat.pow_add]; ac_rfl
  have e2 : c * D * 2 ^ b' * 2 ^ (a + u) = (c * 2 ^ a) * D * 2 ^ (b' + u) := by rw [Nat.pow_add, Nat.pow_add]; ac_rfl
  have e3 : Q * D * 2 ^ u' * 2 ^ (a + b) = Q * D * 2 ^ (a + b + u') := by rw [Nat.pow_add 2 (a + b) u']; ac_rfl
  rw [e1, e2, h, hc, e3, ex, Nat.pow_add, Nat.pow_add, Nat.pow_add]
  ac_rfl
theorem fp_ddiv_exact {n d q : Int64} (hn : Small53 n) (hd : Small53 d) (hq : Small53 q) (n0 : 0 < n.toInt) (d0 : 0 < d.toInt) (q0 : 0 < q.toInt) (h : n.toInt = q.toInt * d.toInt) : ddiv (l2d n) (l2d d) = l2d q := by
  have e : val64 (ddiv (l2d n) (l2d d)) = val64 (l2d q) := by
    rw [val64_ddiv]
    refine fp_exact (fp_l2d hn n0) (fp_l2d hd d0) (fp_l2d hq q0) (val64_fits _) (by omega) ?_
    show n.toInt.toNat * 1 = q.toInt.toNat * d.toInt.toNat * 1
    rw [Nat.mul_one, Nat.mul_one, h, Int.toNat_mul (by omega) (by omega)]
  have hne : val64 (ddiv (l2d n) (l2d d)) ≠ .nan := by
    rw [e]; obtain ⟨c, r, q'⟩ := l2d_shape q; rw [q']; exact nofun
  exact val64_inj hne e
/-- a smaller quotient rounds to no more -/
theorem fp_mono {n d n' d' : Nat} (hn : 0 < n) (hd : 0 < d) (hd' : 0 < d') (h : n * d' ≤ n' * d) (hb : Below (n' * d) (d * d') 60) : zmag b64 (roundRatio b64 false n d 0) ≤ zmag b64 (roundRatio b64 false n' d' 0) := by
  have e1 : roundRatio b64 false n d 0 = roundRatio b64 false (n * d') (d * d') 0 := roundRatio_congr hd (Nat.mul_pos hd hd') (by show n * (d * d') * 1 = n * d' * d * 1; ac_rfl)
  have e2 : roundRatio b64 false n' d' 0 = roundRatio b64 false (n' * d) (d * d') 0 := roundRatio_congr hd' (Nat.mul_pos hd hd') (by show n' * (d * d') * 1 = n' * d * d' * 1; ac_rfl)
  rw [e1, e2]
  exact fp_mono1 (Nat.mul_pos hn hd') (Nat.mul_pos hd hd') h hb
end OwnFP
section OwnFPL
open Jvm.FP.Core
/-- a quotient of two whole numbers, rounded -/
def OPos (n : Int64) : Prop := 0 < n.toInt ∧ n.toInt < 9007199254740992
theorem OPos.sm {n : Int64} (h : OPos n) : Small53 n := ⟨by have := h.1; omega, h.2⟩
theorem od_val {n d : Int64} (hn : OPos n) (hd : OPos d) : val64 (FP.ddiv (FP.l2d n) (FP.l2d d)) = roundRatio b64 false n.toInt.toNat d.toInt.toNat 0 := by
  have hd0 := hd.1
  have q := fp_quot (fp_l2d hn.sm hn.1) (fp_l2d hd.sm hd.1) (by omega)
  rw [← val64_ddiv, Int.sub_self] at q
  exact q
theorem od_ne {n d : Int64} (hn : OPos n) (hd : OPos d) : val64 (FP.ddiv (FP.l2d n) (FP.l2d d)) ≠ .nan := by rw [od_val hn hd]; exact roundRatio_ne_nan _ _ _ _ _
theorem od_zval {n d : Int64} (hn : OPos n) (hd : OPos d) : zval b64 (val64 (FP.ddiv (FP.l2d n) (FP.l2d d))) = (zmag b64 (roundRatio b64 false n.toInt.toNat d.toInt.toNat 0) : Int) := by
  rw [od_val hn hd]; unfold zval; rw [sgn_roundRatio]; rfl
theorem od_below {a b c : Nat} (h1 : 0 < b) (h2 : a < 9007199254740992) (hc : 0 < c) : Below (a * c) (c * b) 60 := by
  unfold Below
  show a * c * 2 ^ 0 < c * b * 2 ^ 60
  have : a * c < c * 9007199254740992 := by rw [Nat.mul_comm a c]; exact Nat.mul_lt_mul_of_pos_left h2 hc
  have h3 : c * 9007199254740992 ≤ c * b * 2 ^ 60 := by
    rw [Nat.mul_assoc]; exact Nat.mul_le_mul_left c (by have : 1 ≤ b := h1; have : 2 ^ 60 ≤ b * 2 ^ 60 := Nat.le_mul_of_pos_left _ h1; omega)
  omega
theorem od_le {n d n' d' : Int64} (hn : OPos n) (hd : OPos d) (hn' : OPos n') (hd' : OPos d') (h : n.toInt * d'.toInt ≤ n'.toInt * d.toInt) : zval b64 (val64 (FP.ddiv (FP.l2d n) (FP.l2d d))) ≤ zval b64 (val64 (FP.ddiv (FP.l2d n') (FP.l2d d'))) := by
  rw [od_zval hn hd, od_zval hn' hd']
  have a1 := hn.1; have a2 := hd.1; have a3 := hn'.1; have a4 := hd'.1; have a5 := hn'.2
  refine Int.ofNat_le.mpr (fp_mono (by omega) (by omega) (by omega) ?_ ?_)
  · have e1 : ((n.toInt.toNat * d'.toInt.toNat : Nat) : Int) = n.toInt * d'.toInt := by rw [Int.natCast_mul, Int.toNat_of_nonneg (by omega), Int.toNat_of_nonneg (by omega)]
    have e2 : ((n'.toInt.toNat * d.toInt.toNat : Nat) : Int) = n'.toInt * d.toInt := by rw [Int.natCast_mul, Int.toNat_of_nonneg (by omega), Int.toNat_of_nonneg (by omega)]
    exact Int.ofNat_le.mp (by rw [e1, e2]; exact h)
  · exact od_below (by omega) (by omega) (by omega)
theorem od_cmp_le {x y : UInt64} (hx : val64 x ≠ .nan) (hy : val64 y ≠ .nan) (h : zval b64 (val64 x) ≤ zval b64 (val64 y)) (o : CmpOp) : ¬ (0 : Int32) < cmpValue (FP.dcmp x y) o := by
  have e : FP.dcmp x y = some (compare (zval b64 (val64 x)) (zval b64 (val64 y))) := dcmp_zval hx hy
  rw [e]
  have : compare (zval b64 (val64 x)) (zval b64 (val64 y)) ≠ .gt := by
    intro q; rw [Int.compare_eq_gt] at q; omega
  revert this
  cases compare (zval b64 (val64 x)) (zval b64 (val64 y)) <;> cases o <;> intro h <;> first | exact absurd rfl h | decide
theorem od_cmp_lt {x y : UInt64} (hx : val64 x ≠ .nan) (hy : val64 y ≠ .nan) (h : zval b64 (val64 x) < zval b64 (val64 y)) (o : CmpOp) : cmpValue (FP.dcmp x y) o = (-1 : Int32) := by
  have e : FP.dcmp x y = some (compare (zval b64 (val64 x)) (zval b64 (val64 y))) := dcmp_zval hx hy
  rw [e, Int.compare_eq_lt.mpr h]
  cases o <;> rfl
theorem od_exact {n d q : Int64} (hn : OPos n) (hd : OPos d) (hq : OPos q) (h : n.toInt = q.toInt * d.toInt) : FP.ddiv (FP.l2d n) (FP.l2d d) = FP.l2d q := fp_ddiv_exact hn.sm hd.sm hq.sm hn.1 hd.1 hq.1 h
end OwnFPL
section OwnFPH
open Jvm.FP.Core
abbrev oHuge : UInt64 := 9110782046170513408
theorem oh_val : val64 oHuge = .fin false 4503599627370496 948 := by decide +kernel
theorem oh_pos : FPos 1 1000 (val64 oHuge) := by rw [oh_val]; exact ⟨_, _, rfl, by decide +kernel⟩
theorem oh_add : FP.dadd oHuge FP.dconst1 = oHuge := by decide +kernel
theorem oh_inv : FP.dadd FP.dconst1 (FP.ddiv FP.dconst1 oHuge) = FP.dconst1 := by decide +kernel
theorem oh_one : FP.dconst1 = FP.l2d 1 := by decide +kernel
theorem oh_zero : FP.dmul oHuge FP.dconst0 = FP.dconst0 := by decide +kernel
theorem oh_norm {a : Int64} (h : Small53 a) (h0 : 0 < a.toInt) : ∃ c q, val64 (l2d a) = .fin false c q ∧ b64.tails ≤ c ∧ c < 2 ^ 53 ∧ -1074 < q ∧ q ≤ 0 ∧ c * 2 ^ (q - 0).toNat = a.toInt.toNat * 2 ^ (0 - q).toNat := by
  obtain ⟨c, q, e, hc⟩ := fp_l2d h h0
  have hf := val64_fits (l2d a)
  rw [e] at hf
  obtain ⟨f1, f2, f3, f4⟩ := hf
  have hqm : b64.qmin = -1074 := by decide
  have f1' : c < 2 ^ 53 := f1
  have ht : b64.tails = 2 ^ 52 := by decide
  have hpos : 0 < a.toInt.toNat := by omega
  have hq : q ≠ -1074 := by
    rintro rfl
    have hc' : c = a.toInt.toNat * 2 ^ 1074 := by have := hc; simpa using this
    have : 2 ^ 1074 ≤ a.toInt.toNat * 2 ^ 1074 := Nat.le_mul_of_pos_left _ hpos
    have h2 : (2 : Nat) ^ 53 ≤ 2 ^ 1074 := Nat.pow_le_pow_right (by decide) (by decide)
    omega
  have f5 : b64.tails ≤ c := by
    rcases f4 with z | z
    · rw [hqm] at z; exact absurd z hq
    · exact z
  refine ⟨c, q, e, f5, f1', by rw [hqm] at f2; omega, ?_, hc⟩
  apply Int.le_of_not_gt
  intro hp
  have e1 : (0 - q).toNat = 0 := by omega
  rw [e1, Nat.pow_zero, Nat.mul_one] at hc
  have e2 : 2 ≤ 2 ^ (q - 0).toNat := by
    have : 1 ≤ (q - 0).toNat := by omega
    calc 2 = 2 ^ 1 := rfl
      _ ≤ _ := Nat.pow_le_pow_right (by decide) this
  have e3 : b64.tails * 2 ≤ c * 2 ^ (q - 0).toNat := Nat.mul_le_mul f5 e2
  have h2 := h.2
  rw [ht] at e3
  omega
theorem oh_shift {a : Int64} (h : Small53 a) (h0 : 0 < a.toInt) {k : Int} (h1 : -1000 ≤ k) (h2 : k ≤ 1000) (hk : k ≤ 900 ∨ a.toInt < 16777216) : ∃ z, Jvm.FP.Core.fits b64 z ∧ FPos a.toInt.toNat k z := by
  obtain ⟨c, q, -, f1, f2, f3, f4, hc⟩ := oh_norm h h0
  have e0 : (q - 0).toNat = 0 := by omega
  rw [e0, Nat.pow_zero, Nat.mul_one, show (0 - q) = -q by omega] at hc
  have ht : b64.tails = 2 ^ 52 := by decide
  have hqm : b64.qmin = -1074 := by decide
  have hqx : b64.qmax = 971 := by decide
  have hq52 : (-q).toNat ≤ 52 := by
    apply Nat.le_of_not_lt
    intro hl
    have p1 : (2 : Nat) ^ 53 ≤ 2 ^ (-q).toNat := Nat.pow_le_pow_right (by decide) hl
    have p2 : 2 ^ (-q).toNat ≤ a.toInt.toNat * 2 ^ (-q).toNat := Nat.le_mul_of_pos_left _ (by omega)
    omega
  have hqk : q + k ≤ 971 := by
    rcases hk with z | z
    · omega
    · have : 28 < (-q).toNat := by
        apply Nat.lt_of_not_le
        intro hl
        have p1 : 2 ^ (-q).toNat ≤ 2 ^ 28 := Nat.pow_le_pow_right (by decide) hl
        have p2 : a.toInt.toNat * 2 ^ (-q).toNat ≤ 16777215 * 2 ^ 28 := Nat.mul_le_mul (by omega) p1
        rw [ht] at f1; omega
      omega
  refine ⟨.fin false c (q + k), ⟨f2, by rw [hqm]; omega, by rw [hqx]; exact hqk, Or.inr f1⟩, c, q + k, rfl, ?_⟩
  rw [show (q + k - k).toNat = 0 by omega, show (k - (q + k)).toNat = (-q).toNat by omega, Nat.pow_zero, Nat.mul_one, hc]
/-- the exact value of a positive datum decides its rounding -/
theorem fp_round {N A : Nat} {E e : Int} {z : Datum} (hz : FPos N E z) (fz : Jvm.FP.Core.fits b64 z) (hx : A * 2 ^ (e - E).toNat = N * 2 ^ (E - e).toNat) : roundRatio b64 false A 1 e = z := by
  obtain ⟨c, q, rfl, hc⟩ := hz
  refine roundRatio_exact good_b64 (by decide) fz ?_
  rw [Nat.mul_one]
  have ex : (q - E).toNat + (e - q).toNat + (E - e).toNat = (E - q).toNat + (q - e).toNat + (e - E).toNat := by omega
  generalize (q - E).toNat = a at *
  generalize (E - q).toNat = a' at *
  generalize (e - q).toNat = b at *
  generalize (q - e).toNat = b' at *
  generalize (e - E).toNat = u at *
  generalize (E - e).toNat = u' at *
  apply Nat.eq_of_mul_eq_mul_right (Nat.two_pow_pos (a + u))
  have e1 : A * 2 ^ b * 2 ^ (a + u) = (A * 2 ^ u) * 2 ^ (a + b) := by rw [Nat.pow_add, Nat.pow_add]; ac_rfl
  have e2 : c * 2 ^ b' * 2 ^ (a + u) = (c * 2 ^ a) * 2 ^ (b' + u) := by rw [Nat.pow_add, Nat.pow_add]; ac_rfl
  have e3 : N * 2 ^ u' * 2 ^ (a + b) = N * 2 ^ (a + b + u') := by rw [Nat.pow_add 2 (a + b) u']; ac_rfl
  rw [e1, e2, hx, hc, e3, ex, Nat.pow_add, Nat.pow_add, Nat.pow_add]
  ac_rfl
theorem oh_mul {a : Int64} (h : Small53 a) (h0 : 0 < a.toInt) (hs : a.toInt < 16777216) : FPos a.toInt.toNat 1000 (val64 (FP.dmul oHuge (FP.l2d a))) ∧ Jvm.FP.Core.fits b64 (val64 (FP.dmul oHuge (FP.l2d a))) := by
  refine ⟨?_, val64_fits _⟩
  obtain ⟨c, q, e, f1, f2, f3, f4, hc⟩ := oh_norm h h0
  obtain ⟨z, fz, hz⟩ := oh_shift h h0 (k := 1000) (by decide) (by decide) (Or.inr hs)
  have ev : val64 (dmul oHuge (l2d a)) = z := by
    rw [val64_dmul, oh_val, e]
    show roundRatio b64 false (4503599627370496 * c) 1 (948 + q) = z
    refine fp_round hz fz ?_
    rw [show (948 + q - 1000).toNat = 0 by omega, show (1000 - (948 + q)).toNat = 52 + (0 - q).toNat by omega, Nat.pow_zero, Nat.mul_one, Nat.pow_add]
    rw [show (q - 0).toNat = 0 by omega, Nat.pow_zero, Nat.mul_one] at hc
    rw [hc, show (4503599627370496 : Nat) = 2 ^ 52 from rfl]
    ac_rfl
  show FPos _ _ (val64 (dmul oHuge (l2d a)))
  rw [ev]; exact hz
theorem oh_div {a : Int64} (h : Small53 a) (h0 : 0 < a.toInt) : FPos a.toInt.toNat (-1000) (val64 (FP.ddiv (FP.l2d a) oHuge)) := by
  obtain ⟨z, fz, hz⟩ := oh_shift h h0 (k := -1000) (by decide) (by decide) (Or.inl (by decide))
  have ev : val64 (ddiv (l2d a) oHuge) = z := by
    rw [val64_ddiv]
    refine fp_exact (fp_l2d h h0) oh_pos hz fz (by decide) ?_
    rw [show ((0 : Int) - 1000 - -1000).toNat = 0 by decide, show ((-1000 : Int) - (0 - 1000)).toNat = 0 by decide, Nat.mul_one, Nat.pow_zero, Nat.mul_one]
  show FPos _ _ (val64 (ddiv (l2d a) oHuge))
  rw [ev]; exact hz
/-- a small addend is lost -/
theorem fp_absorb {c x k : Nat} {r : Int} {s : Bool} (h1 : b64.tails ≤ c) (h2 : c < 2 ^ 53) (hx : 2 * x < 2 ^ k) (hr : b64.qmin ≤ r + k) (hr2 : r + k ≤ b64.qmax) : roundRatio b64 s (c * 2 ^ k + x) 1 r = .fin s c (r + k) := by
  have ht : b64.tails = 2 ^ 52 := by decide
  have hp : (b64.p : Int) = 53 := rfl
  have h2k : 0 < 2 ^ k := Nat.two_pow_pos k
  have hc : 0 < c * 2 ^ k := Nat.mul_pos (by omega) h2k
  have hA : 0 < c * 2 ^ k + x := by omega
  have hup : c * 2 ^ k + x < 2 ^ 53 * 2 ^ k := by
    have : (c + 1) * 2 ^ k ≤ 2 ^ 53 * 2 ^ k := Nat.mul_le_mul_right _ (by omega)
    rw [Nat.add_mul, Nat.one_mul] at this; omega
  have hlo : 2 ^ 52 * 2 ^ k ≤ c * 2 ^ k + x := by
    have : 2 ^ 52 * 2 ^ k ≤ c * 2 ^ k := Nat.mul_le_mul_right _ (by omega)
    omega
  have hq : quantum b64 (c * 2 ^ k + x) 1 r = r + k := by
    refine quantum_eq hA (by decide) hr ?_ (Or.inr ?_)
    · rw [show (r + k - r + (b64.p : Int)) = ((53 + k : Nat) : Int) - ((0 : Nat) : Int) by omega, below_iff, Nat.pow_zero, Nat.mul_one, Nat.one_mul, Nat.pow_add]
      exact hup
    · rw [show (r + k - r + ((b64.p : Int) - 1)) = ((52 + k : Nat) : Int) - ((0 : Nat) : Int) by omega, below_iff, Nat.pow_zero, Nat.mul_one, Nat.one_mul, Nat.pow_add]
      omega
  unfold roundRatio roundAt
  rw [if_neg (by omega), hq]
  have e1 : unitsNum (c * 2 ^ k + x) r (r + k) = c * 2 ^ k + x := by
    unfold unitsNum; rw [show (r - (r + k)).toNat = 0 by omega, Nat.pow_zero, Nat.mul_one]
  have e2 : unitsDen 1 r (r + k) = 2 ^ k := by
    unfold unitsDen; rw [show (r + k - r).toNat = k by omega, Nat.one_mul]
  rw [e1, e2]
  have e3 : nearest (c * 2 ^ k + x) (2 ^ k) = c := by
    have hm : (c * 2 ^ k + x) % 2 ^ k = x := by rw [Nat.mul_comm, Nat.mul_add_mod, Nat.mod_eq_of_lt (by omega)]
    have hd : (c * 2 ^ k + x) / 2 ^ k = c := by rw [Nat.mul_comm, Nat.mul_add_div h2k, Nat.div_eq_of_lt (by omega), Nat.add_zero]
    unfold nearest
    rw [hm, hd, if_pos hx]
  rw [e3]
  unfold settle bound
  rw [if_pos (show c < 2 ^ b64.p from h2), if_pos hr2]
theorem oh_inf {a : Int64} (h : Small53 a) (h0 : 16777216 ≤ a.toInt) : FP.dmul oHuge (FP.l2d a) = 9218868437227405312 := by
  obtain ⟨c, q, e, f1, f2, f3, f4, hc⟩ := oh_norm h (by omega)
  have hq52 : (0 - q).toNat ≤ 52 := by
    rw [show (q - 0).toNat = 0 by omega, Nat.pow_zero, Nat.mul_one] at hc
    apply Nat.le_of_not_lt
    intro hl
    have p1 : (2 : Nat) ^ 53 ≤ 2 ^ (0 - q).toNat := Nat.pow_le_pow_right (by decide) hl
    have p2 : 2 ^ (0 - q).toNat ≤ a.toInt.toNat * 2 ^ (0 - q).toNat := Nat.le_mul_of_pos_left _ (by omega)
    omega
  have ev : val64 (dmul oHuge (l2d a)) = .inf false := by
    rw [val64_dmul, oh_val, e]
    show roundRatio b64 false (4503599627370496 * c) 1 (948 + q) = .inf false
    rw [roundRatio_inf good_b64 (by decide) (e0 := -1075) (by decide) (by omega)]
    unfold inUnits
    rw [show (q - 0).toNat = 0 by omega, Nat.pow_zero, Nat.mul_one] at hc
    have hk : (948 + q - -1075).toNat + (0 - q).toNat = 2023 := by omega
    have e1 : 4503599627370496 * c * 2 ^ (948 + q - -1075).toNat = 4503599627370496 * a.toInt.toNat * 2 ^ 2023 := by
      rw [hc, ← hk, Nat.pow_add]; ac_rfl
    rw [e1]
    have e2 : (b64.qmax - 1 - -1075).toNat = 22 + 2023 := by decide
    rw [e2, Nat.pow_add 2 22 2023, Nat.mul_one, ← Nat.mul_assoc]
    refine Nat.mul_le_mul_right _ ?_
    have e3 : (2 ^ (b64.p + 1) - 1) * 2 ^ 22 = 75557863725914319224832 := by decide
    have e4 : 16777216 ≤ a.toInt.toNat := by omega
    generalize a.toInt.toNat = X at e4 ⊢
    rw [e3]; omega
  have ei : val64 (9218868437227405312 : UInt64) = .inf false := by decide +kernel
  exact val64_inj (by show val64 (dmul oHuge (l2d a)) ≠ _; rw [ev]; exact nofun) (by show val64 (dmul oHuge (l2d a)) = _; rw [ev, ei])
end OwnFPH
section OwnFPA
open Jvm.FP.Core
theorem fp_small {N : Nat} {E : Int} {z : Datum} (hz : FPos N E z) (fz : Jvm.FP.Core.fits b64 z) (h0 : 0 < N) (h1 : N < 2 ^ 53) (hE : -1000 ≤ E) : ∃ c q, z = .fin false c q ∧ b64.tails ≤ c ∧ c < 2 ^ 53 ∧ E - 53 < q ∧ q ≤ E ∧ q ≤ b64.qmax := by
  obtain ⟨c, q, rfl, hc⟩ := hz
  obtain ⟨f1, f2, f3, f4⟩ := fz
  have hqm : b64.qmin = -1074 := by decide
  have ht : b64.tails = 2 ^ 52 := by decide
  have f1' : c < 2 ^ 53 := f1
  have hlow : E - 53 < q := by
    apply Int.lt_of_not_ge
    intro hl
    rw [show (q - E).toNat = 0 by omega, Nat.pow_zero, Nat.mul_one] at hc
    have p1 : (2 : Nat) ^ 53 ≤ 2 ^ (E - q).toNat := Nat.pow_le_pow_right (by decide) (by omega)
    have p2 : 2 ^ (E - q).toNat ≤ N * 2 ^ (E - q).toNat := Nat.le_mul_of_pos_left _ h0
    omega
  have f5 : b64.tails ≤ c := by
    rcases f4 with z | z
    · rw [hqm] at z; omega
    · exact z
  refine ⟨c, q, rfl, f5, f1', hlow, ?_, f3⟩
  apply Int.le_of_not_gt
  intro hp
  rw [show (E - q).toNat = 0 by omega, Nat.pow_zero, Nat.mul_one] at hc
  have e2 : 2 ≤ 2 ^ (q - E).toNat := by
    have : 1 ≤ (q - E).toNat := by omega
    calc 2 = 2 ^ 1 := rfl
      _ ≤ _ := Nat.pow_le_pow_right (by decide) this
  have e3 : b64.tails * 2 ≤ c * 2 ^ (q - E).toNat := Nat.mul_le_mul f5 e2
  rw [ht] at e3
  omega
theorem fp_absorbD {N M : Nat} {E F : Int} {x y : Datum} (hx : FPos N E x) (fx : Jvm.FP.Core.fits b64 x) (hy : FPos M F y) (fy : Jvm.FP.Core.fits b64 y) (hN : 0 < N) (hN' : N < 2 ^ 53) (hM : 0 < M) (hM' : M < 2 ^ 53) (hE : -1000 ≤ E) (hF : -1000 ≤ F) (hEF : F + 200 ≤ E) : Jvm.FP.Core.round b64 (exactSum x y) = x := by
  obtain ⟨c, q, rfl, c1, c2, c3, c4, c5⟩ := fp_small hx fx hN hN' hE
  obtain ⟨d, r, rfl, d1, d2, d3, d4, d5⟩ := fp_small hy fy hM hM' hF
  have hqm : b64.qmin = -1074 := by decide
  have hm : min q r = r := by omega
  have e0 : inUnits d r r = d := by unfold inUnits; rw [show (r - r).toNat = 0 by omega, Nat.pow_zero, Nat.mul_one]
  have hu : sumUnits false c q false d r r = ((c * 2 ^ (q - r).toNat + d : Nat) : Int) := by
    show ((inUnits c q r : Nat) : Int) + ((inUnits d r r : Nat) : Int) = _
    rw [e0, Int.natCast_add]; rfl
  have hs : sumSign false false ((c * 2 ^ (q - r).toNat + d : Nat) : Int) = false := by
    unfold sumSign
    split
    · rfl
    · exact decide_eq_false (by omega)
  show Jvm.FP.Core.round b64 (.fin (sumSign false false (sumUnits false c q false d r (min q r))) (sumUnits false c q false d r (min q r)).natAbs (min q r)) = _
  rw [hm, hu, hs, Int.natAbs_natCast]
  show roundRatio b64 false (c * 2 ^ (q - r).toNat + d) 1 r = _
  have p1 : (2 : Nat) ^ 54 ≤ 2 ^ (q - r).toNat := Nat.pow_le_pow_right (by decide) (by omega)
  have q1 := fp_absorb (s := false) (x := d) (k := (q - r).toNat) (r := r) c1 c2 (by omega) (by rw [hqm]; omega) (by omega)
  rw [show r + (((q - r).toNat : Nat) : Int) = q by omega] at q1
  exact q1
theorem fp_zmag {N : Nat} {E : Int} {z : Datum} (hz : FPos N E z) (fz : Jvm.FP.Core.fits b64 z) (hE : b64.qmin ≤ E) : zval b64 z = ((N * 2 ^ (E - b64.qmin).toNat : Nat) : Int) := by
  obtain ⟨c, q, rfl, hc⟩ := hz
  obtain ⟨f1, f2, f3, f4⟩ := fz
  show ((c * 2 ^ (q - b64.qmin).toNat : Nat) : Int) = _
  congr 1
  rcases Int.le_total E q with hl | hl
  · rw [show (E - q).toNat = 0 by omega, Nat.pow_zero, Nat.mul_one] at hc
    rw [← hc, show (q - b64.qmin).toNat = (q - E).toNat + (E - b64.qmin).toNat by omega, Nat.pow_add, Nat.mul_assoc]
  · rw [show (q - E).toNat = 0 by omega, Nat.pow_zero, Nat.mul_one] at hc
    rw [hc, show (E - b64.qmin).toNat = (E - q).toNat + (q - b64.qmin).toNat by omega, Nat.pow_add, Nat.mul_assoc]
end OwnFPA
open Jvm.FP Jvm.Free.Fl
section OwnLayer
variable {p : Program} {l : Launch} {e : Env} {R : Room} {s : State} {m : MethodId} {args : Array Value} {below : List Frame} {meth : Method} {c : Code} {T T' : State} {cells slots cells' slots' : Nat} {Z : State} {a0 : Array Value} {EL : List (String × Nat)} {n0 : Nat} {W0 : List Addr} {own : String} {h h' : Heap} {Ow Ow' : List Addr} {Pq : Outcome → State → Prop} {pc pc' : Nat} {L L' : Array Slot} {S S' : List Value}
/-- the run goes on from here to an end that Pq allows -/
def OG (p : Program) (e : Env) (below : List Frame) (m : MethodId) (Pq : Outcome → State → Prop) (T : State) (pc : Nat) (L : Array Slot) (S : List Value) : Prop :=
  ∃ t o, Steps p.tables e below (T.setTop (mkF m pc L S)) t ∧ t.status = .running ∧ Ended t below o ∧ Pq o t
theorem OG.st (st : ∀ t, Steps p.tables e below (T'.setTop (mkF m pc' L' S')) t → Steps p.tables e below (T.setTop (mkF m pc L S)) t) (k : OG p e below m Pq T' pc' L' S') : OG p e below m Pq T pc L S := by
  obtain ⟨t, o, h1, r⟩ := k
  exact ⟨t, o, st t h1, r⟩
/-- an address that this walk may write -/
def OOwn (Z : State) (EL : List (String × Nat)) (n0 : Nat) (W0 : List Addr) (hs : Nat) (vm : Vm) (h : Heap) (x : Addr) : Prop := n0 ≤ x ∧ x < h.size ∧ Safe Z EL vm h x ∧ (x ∈ W0 ∨ hs ≤ x)
/-- the tables since the invocation's start: warmed; with no constant of EL nothing is interned -/
def OSn (EL : List (String × Nat)) (s : State) (vm : Vm) (n : Nat) : Prop := s.Since vm n ∧ (EL = [] → s.WarmedH vm)
theorem OSn.of {vm : Vm} (q : s.WarmedH vm) (n : Nat) : OSn EL s vm n := ⟨q.since n, fun _ => q⟩
theorem OSn.trans {vm₁ vm₂ : Vm} {n₁ n₂ : Nat} (h₁ : OSn EL s vm₁ n₁) (h₂ : OSn EL (s.setVm vm₁) vm₂ n₂) (hn : n₁ ≤ n₂) : OSn EL s vm₂ n₂ := ⟨h₁.1.trans h₂.1 hn, fun e => State.WarmedH.trans (t := s.setVm vm₁) (h₁.2 e) (h₂.2 e)⟩
/-- where the walk stands -/
def OPn (p : Program) (l : Launch) (e : Env) (R : Room) (s : State) (m : MethodId) (args : Array Value) (below : List Frame) (meth : Method) (c : Code) (Z : State) (a0 : Array Value) (EL : List (String × Nat)) (n0 : Nat) (W0 : List Addr) (own : String) (T : State) (h : Heap) (Ow : List Addr) (cells slots : Nat) : Prop :=
  ∃ locs : List Loc, Stand p l e R (s.setVm T.vm) m args below meth c T locs cells slots ∧ p.tables.exec = Jvm.exec ∧ meth.locks = false ∧ OSn EL s T.vm h.size ∧ Z.Warmed39 T.vm ∧ T.vm.findClass own = some m.cls ∧ T.heap = h ∧ Fr n0 locs ∧ EW Z a0 EL ∧ CHr Z EL s.vm s.heap T.vm h ∧ Old Z n0 h ∧ Keep s.heap h W0 ∧ ∀ x ∈ Ow, OOwn Z EL n0 W0 s.heap.size T.vm h x
theorem OPn.here (P : OPn p l e R s m args below meth c Z a0 EL n0 W0 own T h Ow cells slots) : At T m c below := by obtain ⟨_, X, -⟩ := P; exact X.here
theorem OPn.ex (P : OPn p l e R s m args below meth c Z a0 EL n0 W0 own T h Ow cells slots) : p.tables.exec = Jvm.exec := by obtain ⟨_, _, hx, -⟩ := P; exact hx
theorem OPn.old (P : OPn p l e R s m args below meth c Z a0 EL n0 W0 own T h Ow cells slots) : Old Z n0 h := by obtain ⟨_, _, _, _, _, _, _, _, _, _, _, O, -⟩ := P; exact O
theorem OPn.keep0 (P : OPn p l e R s m args below meth c Z a0 EL n0 W0 own T h Ow cells slots) : Keep s.heap h W0 := by obtain ⟨_, _, _, _, _, _, _, _, _, _, _, _, K, -⟩ := P; exact K
theorem OPn.warm (P : OPn p l e R s m args below meth c Z a0 EL n0 W0 own T h Ow cells slots) : Z.Warmed39 T.vm := by obtain ⟨_, _, _, _, _, hZ, -⟩ := P; exact hZ
theorem OPn.n0le (P : OPn p l e R s m args below meth c Z a0 EL n0 W0 own T h Ow cells slots) : n0 ≤ h.size := by have O := P.old; rw [← O.1]; exact O.2.1
theorem OPn.mono (P : OPn p l e R s m args below meth c Z a0 EL n0 W0 own T h Ow cells slots) (hc : cells ≤ cells') (hs : slots ≤ slots') : OPn p l e R s m args below meth c Z a0 EL n0 W0 own T h Ow cells' slots' := by
  obtain ⟨locs, X, r⟩ := P
  exact ⟨locs, X.mono hc hs, r⟩
theorem OPn.less (P : OPn p l e R s m args below meth c Z a0 EL n0 W0 own T h Ow cells slots) (q : ∀ x ∈ Ow', x ∈ Ow) : OPn p l e R s m args below meth c Z a0 EL n0 W0 own T h Ow' cells slots := by
  obtain ⟨locs, X, h1, h2, h3, h4, h5, h6, h7, h8, h9, h10, h11, W⟩ := P
  exact ⟨locs, X, h1, h2, h3, h4, h5, h6, h7, h8, h9, h10, h11, fun x hx => W x (q x hx)⟩
theorem OPn.more (P : OPn p l e R s m args below meth c Z a0 EL n0 W0 own T h Ow cells slots) {x : Addr} (q : n0 ≤ x ∧ x < h.size ∧ Safe Z EL T.vm h x) (r : s.heap.size ≤ x) : OPn p l e R s m args below meth c Z a0 EL n0 W0 own T h (x :: Ow) cells slots := by
  obtain ⟨locs, X, h1, h2, h3, h4, h5, h6, h7, h8, h9, h10, h11, W⟩ := P
  exact ⟨locs, X, h1, h2, h3, h4, h5, h6, h7, h8, h9, h10, h11, fun y hy => (List.mem_cons.mp hy).elim (fun u => u ▸ ⟨q.1, q.2.1, q.2.2, Or.inr r⟩) (W y)⟩
theorem OPn.fin {locs' : List Loc} (hx : p.tables.exec = Jvm.exec) (hlk : meth.locks = false) (hS : OSn EL s T.vm h.size) (hZ : Z.Warmed39 T.vm) (hown : T.vm.findClass own = some m.cls) (hEL : EW Z a0 EL) (X' : Stand p l e R (s.setVm T.vm) m args below meth c T' locs' cells' slots') (eT' : T'.heap = h') (hle : h.size ≤ h'.size) (N' : Fr n0 locs') (C' : CHr Z EL s.vm s.heap T.vm h') (O' : Old Z n0 h') (K' : Keep s.heap h' W0) (W' : ∀ x ∈ Ow', OOwn Z EL n0 W0 s.heap.size T.vm h' x) :
    OPn p l e R s m args below meth c Z a0 EL n0 W0 own T' h' Ow' cells' slots' := by
  have A : CHr Z EL T.vm h' T'.vm h' := CHv.at X' hZ hEL C'.1
  refine ⟨locs', X'.retabled X'.warmed.wide, hx, hlk, hS.trans (OSn.of X'.warmed _) hle, State.Warmed39.trans (t := s.setVm T.vm) hZ X'.warmed.wide, ?_, eT', N', hEL, C'.trans A, O', K', fun x hx => ?_⟩
  · exact (X'.warmed.alike.findClass own _).trans hown
  · obtain ⟨q1, q2, q3, q4⟩ := W' x hx
    exact ⟨q1, q2, A.safe q2 q3, q4⟩
/-- a step that moves the tables alone -/
theorem OPn.tab (P : OPn p l e R s m args below meth c Z a0 EL n0 W0 own T h Ow cells slots) (f : ∀ locs, Stand p l e R (s.setVm T.vm) m args below meth c T locs cells slots → Z.Warmed39 (s.setVm T.vm).vm → (s.setVm T.vm).vm.findClass own = some m.cls → T.heap = h → p.tables.exec = Jvm.exec → ∃ T', Stand p l e R (s.setVm T.vm) m args below meth c T' locs cells slots ∧ T'.heap = h ∧ ∀ target, Steps p.tables e below (T'.setTop (mkF m pc' L' S')) target → Steps p.tables e below (T.setTop (mkF m pc L S)) target)
    (k : ∀ T', OPn p l e R s m args below meth c Z a0 EL n0 W0 own T' h Ow cells slots → OG p e below m Pq T' pc' L' S') : OG p e below m Pq T pc L S := by
  obtain ⟨locs, X, hx, hlk, hS, hZ, hown, eT, N, hEL, C, O, K, W⟩ := P
  obtain ⟨T', X', e', st⟩ := f locs X hZ hown eT hx
  exact OG.st st (k T' (OPn.fin hx hlk hS hZ hown hEL X' e' (Nat.le_refl _) N C O K W))
/-- a step that makes one cell -/
theorem OPn.grow (P : OPn p l e R s m args below meth c Z a0 EL n0 W0 own T h Ow cells slots) {G : Heap → Addr → Prop} (f : ∀ locs, Stand p l e R (s.setVm T.vm) m args below meth c T locs cells slots → Z.Warmed39 (s.setVm T.vm).vm → (s.setVm T.vm).vm.findClass own = some m.cls → T.heap = h → p.tables.exec = Jvm.exec → ∃ T' h', Stand p l e R (s.setVm T.vm) m args below meth c T' locs cells' slots' ∧ T'.heap = h' ∧ Ext h h' ∧ h.size < h'.size ∧ G h' h.size ∧ ∀ target, Steps p.tables e below (T'.setTop (mkF m pc' L' (.ref h.size :: S'))) target → Steps p.tables e below (T.setTop (mkF m pc L S)) target)
    (k : ∀ T' h' b, OPn p l e R s m args below meth c Z a0 EL n0 W0 own T' h' (b :: Ow) cells' slots' → Keep h h' [] → h.size ≤ b → G h' b → OG p e below m Pq T' pc' L' (.ref b :: S')) : OG p e below m Pq T pc L S := by
  have hn := P.n0le
  obtain ⟨locs, X, hx, hlk, hS, hZ, hown, eT, N, hEL, C, O, K, W⟩ := P
  obtain ⟨T', h', X', e', E, hlt, g, st⟩ := f locs X hZ hown eT hx
  refine OG.st st (k T' h' h.size (OPn.fin hx hlk hS hZ hown hEL X' e' E.1 N (C.trans (CHr.ext E C.1)) (O.ext E) (K.ext E) fun x hx => ?_) ((Keep.refl h []).ext E) (Nat.le_refl _) g)
  rcases List.mem_cons.mp hx with rfl | hx
  · exact ⟨hn, hlt, Safe.ext E C.1 (Safe.new (Nat.le_refl _)), Or.inr K.1⟩
  · obtain ⟨q1, q2, q3, q4⟩ := W x hx
    exact ⟨q1, Nat.lt_of_lt_of_le q2 E.1, Safe.ext E C.1 q3, q4⟩
/-- a step that writes one place of an own cell -/
theorem OPn.wr (P : OPn p l e R s m args below meth c Z a0 EL n0 W0 own T h Ow cells slots) {a : Addr} {sl : Nat} {v : Value} (ha : a ∈ Ow) (f : ∀ locs, Stand p l e R (s.setVm T.vm) m args below meth c T locs cells slots → Z.Warmed39 (s.setVm T.vm).vm → (s.setVm T.vm).vm.findClass own = some m.cls → T.heap = h → p.tables.exec = Jvm.exec → ∃ T' h', Stand p l e R (s.setVm T.vm) m args below meth c T' (locs ++ [⟨a, sl⟩]) cells slots ∧ T'.heap = h' ∧ Wr h h' a sl v ∧ ∀ target, Steps p.tables e below (T'.setTop (mkF m pc' L' S')) target → Steps p.tables e below (T.setTop (mkF m pc L S)) target)
    (k : ∀ T' h', OPn p l e R s m args below meth c Z a0 EL n0 W0 own T' h' Ow cells slots → Wr h h' a sl v → OG p e below m Pq T' pc' L' S') : OG p e below m Pq T pc L S := by
  obtain ⟨locs, X, hx, hlk, hS, hZ, hown, eT, N, hEL, C, O, K, W⟩ := P
  obtain ⟨T', h', X', e', Wq, st⟩ := f locs X hZ hown eT hx
  obtain ⟨q1, q2, q3, q4⟩ := W a ha
  refine OG.st st (k T' h' (OPn.fin hx hlk hS hZ hown hEL X' e' (Nat.le_of_eq Wq.size.symm) (Fr.snoc X' N q1) (C.trans (CHr.wr Wq q3 C.1)) (O.wr Wq q1) (K.wr Wq q4) fun x hx => ?_) Wq)
  obtain ⟨r1, r2, r3, r4⟩ := W x hx
  exact ⟨r1, by rw [Wq.size]; exact r2, Safe.wr Wq q3 C.1 r3, r4⟩
/-! the end of a walk -/
def OFq (Z : State) (EL : List (String × Nat)) (n0 : Nat) (s : State) (W0 : List Addr) (R : Room) (Q : Option Value → Vm → Heap → Prop) (o : Outcome) (t : State) : Prop :=
  ∃ v L, o = .returned v ∧ (Q v t.vm t.heap ∧ Keep s.heap t.heap W0 ∧ Fr n0 L) ∧ CHr Z EL s.vm s.heap t.vm t.heap ∧ (EL = [] → s.WarmedH t.vm) ∧ ReturnedEndW s o t L R.cells R.slots
theorem OPn.ret {Q : Option Value → Vm → Heap → Prop} (P : OPn p l e R s m args below meth c Z a0 EL n0 W0 own T h Ow cells slots) {v : Option Value} (hv : meth.sig.returnType = none → v = none) (hc : cells ≤ R.cells) (hs : slots ≤ R.slots) (q : Q v T.vm h)
    (st : ∀ locs, Stand p l e R (s.setVm T.vm) m args below meth c T locs cells slots → p.tables.exec = Jvm.exec → ∀ fs, (∀ (f : JFrame) (acts : List Action), f.method = m → f.locked = none → f.entered = [] → (doReturn e (T.setTop f) acts v).1 = T.setFrames fs) → Steps p.tables e below (T.setTop (mkF m pc L S)) (T.setFrames fs)) : OG p e below m (OFq Z EL n0 s W0 R Q) T pc L S := by
  obtain ⟨locs, X, hx, hlk, hS, hZ, hown, eT, N, hEL, C, O, K, W⟩ := P
  subst eT
  obtain ⟨fs, h1, h2, h3, h4, h5, h6, h7⟩ := X.leaveW hS.1 (Nat.le_refl _) hv hlk
  exact ⟨_, _, st locs X hx fs h1, h2, h3, v, locs, rfl, ⟨q, K, N⟩, C, hS.2, h4, h5, h6, h7.mono hc hs⟩
theorem o_ret0 {Q : Option Value → Vm → Heap → Prop} (P : OPn p l e R s m args below meth c Z a0 EL n0 W0 own T h Ow cells slots) (hret : meth.sig.returnType = none) (hd : decode c.code pc = .ok (.return_, 1)) (hc : cells ≤ R.cells) (hs : slots ≤ R.slots) (q : Q none T.vm h) : OG p e below m (OFq Z EL n0 s W0 R Q) T pc L [] :=
  P.ret (fun _ => rfl) hc hs q fun locs X hx fs hr => X.returnOut hx hret hd hr
theorem o_retI {Q : Option Value → Vm → Heap → Prop} (P : OPn p l e R s m args below meth c Z a0 EL n0 W0 own T h Ow cells slots) {t : FieldType} {z : Int32} (hret : meth.sig.returnType = some t) (ht : t = .int ∨ t = .boolean ∨ t = .byte ∨ t = .char ∨ t = .short) (hn : narrow t (.int z) = .int z) (hd : decode c.code pc = .ok (.ireturn, 1)) (hc : cells ≤ R.cells) (hs : slots ≤ R.slots) (q : Q (some (.int z)) T.vm h) : OG p e below m (OFq Z EL n0 s W0 R Q) T pc L (.int z :: S) :=
  P.ret (fun h => by rw [hret] at h; cases h) hc hs q fun locs X hx fs hr => retOut X hx hret hn (Or.inl ⟨rfl, ht, z, rfl⟩) hd hr
theorem o_retL {Q : Option Value → Vm → Heap → Prop} (P : OPn p l e R s m args below meth c Z a0 EL n0 W0 own T h Ow cells slots) {z : Int64} (hret : meth.sig.returnType = some .long) (hd : decode c.code pc = .ok (.lreturn, 1)) (hc : cells ≤ R.cells) (hs : slots ≤ R.slots) (q : Q (some (.long z)) T.vm h) : OG p e below m (OFq Z EL n0 s W0 R Q) T pc L (.long z :: S) :=
  P.ret (fun h => by rw [hret] at h; cases h) hc hs q fun locs X hx fs hr => retOut X hx hret rfl (Or.inr (Or.inl ⟨rfl, rfl, z, rfl⟩)) hd hr
theorem o_retD {Q : Option Value → Vm → Heap → Prop} (P : OPn p l e R s m args below meth c Z a0 EL n0 W0 own T h Ow cells slots) {z : UInt64} (hret : meth.sig.returnType = some .double) (hd : decode c.code pc = .ok (.dreturn, 1)) (hc : cells ≤ R.cells) (hs : slots ≤ R.slots) (q : Q (some (.double z)) T.vm h) : OG p e below m (OFq Z EL n0 s W0 R Q) T pc L (.double z :: S) :=
  P.ret (fun h => by rw [hret] at h; cases h) hc hs q fun locs X hx fs hr => retOut X hx hret rfl (Or.inr (Or.inr (Or.inl ⟨rfl, rfl, z, rfl⟩))) hd hr
theorem o_retA {Q : Option Value → Vm → Heap → Prop} (P : OPn p l e R s m args below meth c Z a0 EL n0 W0 own T h Ow cells slots) {t : FieldType} {w : Value} (hret : meth.sig.returnType = some t) (ht : t.isReference = true) (hw : w.isRef = true) (hn : narrow t w = w) (hd : decode c.code pc = .ok (.areturn, 1)) (hc : cells ≤ R.cells) (hs : slots ≤ R.slots) (q : Q (some w) T.vm h) : OG p e below m (OFq Z EL n0 s W0 R Q) T pc L (w :: S) :=
  P.ret (fun h => by rw [hret] at h; cases h) hc hs q fun locs X hx fs hr => retOut X hx hret hn (Or.inr (Or.inr (Or.inr (Or.inr ⟨rfl, ht, hw⟩)))) hd hr
/-! a contract -/
def OCt (l : Launch) (Z : State) (a0 : Array Value) (EL : List (String × Nat)) (n0 : Nat) (y : MethodName) (bytes : ByteArray) (maxL : Nat) (ret : Option FieldType) (rm : Room) (ws : List Jvm.Cond) (as' : Array Value) (h : Heap) (Sf : List Addr) (Q : Option Value → Vm → Heap → Prop) : Prop :=
  Old Z n0 h → EW Z a0 EL → (∀ x ∈ Sf, n0 ≤ x ∧ x < h.size) →
  MetFree l y (head1 (Jvm.Cond.code y bytes maxL ret :: ws) rm) (fun a U => a = as' ∧ Z.Warmed39 U.vm ∧ U.heap = h ∧ CHv Z EL U.vm h ∧ ∀ x ∈ Sf, Safe Z EL U.vm h x) (fun _ _ _ _ _ => True) (fun _ U o U' => OFq Z EL n0 U Sf rm Q o U')
theorem OCt.body {y : MethodName} {bytes : ByteArray} {maxL : Nat} {ret : Option FieldType} {rm : Room} {ws : List Jvm.Cond} {as' : Array Value} {Sf : List Addr} {Q : Option Value → Vm → Heap → Prop} {L0 : Array Slot} (hpl : plainFor y = true) (hef : ∀ m, entryFrame m as' maxL = mkF m 0 L0 [])
    (k : ∀ p e s m below meth c T, c.code = bytes → c.maxLocals = maxL → meth.sig.returnType = ret → meth.name = y.name → s.heap = h → OPn p l e rm s m as' below meth c Z a0 EL n0 Sf y.cls T h Sf 0 0 → OG p e below m (OFq Z EL n0 s Sf rm Q) T 0 L0 []) : OCt l Z a0 EL n0 y bytes maxL ret rm ws as' h Sf Q := by
  intro hO hEL hSf
  refine MetFree.of_bodySF hpl hisR ?_
  intro p e s m args below meth c s₁ Bd hml0 hP _
  obtain ⟨rfl, hZ, rfl, hC, hS⟩ := hP
  have X0 : Stand p l e rm s m args below meth c s₁ [] 0 0 := Stand.of_body Bd
  have ev : s₁.vm = s.vm := by rw [Bd.state]; rfl
  have eh : s₁.heap = s.heap := by rw [Bd.state]; rfl
  rw [hef m]
  refine k p e s m below meth c s₁ Bd.bytes hml0 Bd.returns (name_of_methodNamed Bd.named Bd.method).1 rfl ⟨[], X0.retabled X0.warmed.wide, Bd.exec, Bd.notSynchronized, OSn.of X0.warmed _, by rw [ev]; exact hZ, by rw [ev]; exact findClass_of_methodNamed Bd.named, eh, Fr.nil n0, hEL, by rw [ev]; exact CHr.refl hC, hO, Keep.refl _ _, fun x hx => ⟨(hSf x hx).1, (hSf x hx).2, by rw [ev]; exact hS x hx, Or.inl hx⟩⟩
/-! a call by a contract -/
theorem OCt.back {y : MethodName} {bytes : ByteArray} {maxL : Nat} {ret : Option FieldType} {rm : Room} {as' : Array Value} {Sf : List Addr} {Q : Option Value → Vm → Heap → Prop} {len W : Nat} (hO : Old Z n0 h) (hEL : EW Z a0 EL) (hSf : ∀ x ∈ Sf, n0 ≤ x ∧ x < h.size ∧ Safe Z EL T.vm h x) (hM : OCt l Z a0 EL n0 y bytes maxL ret rm [] as' h Sf Q)
    (hZ : Z.Warmed39 T.vm) (wc : (Jvm.Cond.code y bytes maxL ret).before a0 Z = true) (wz : (Jvm.Cond.initialized y.cls).before a0 Z = true) (hf : rm.frames + 1 ≤ R.frames) (hl : W + (maxL + 11) + rm.locals ≤ R.locals) (H : CHv Z EL T.vm h) :
    BackS l R p e below (s.setVm T.vm) args y len W (fun A a => a = as' ∧ A.U.heap = h ∧ A.cells + rm.cells ≤ R.cells ∧ A.slots + rm.slots ≤ R.slots)
      (fun A _ v B => ∃ L, Q v B.U.vm B.U.heap ∧ Keep h B.U.heap Sf ∧ Fr n0 L ∧ B.locs = A.locs ++ L ∧ B.cells = A.cells + rm.cells ∧ B.slots = A.slots + rm.slots ∧ CHr Z EL T.vm h B.U.vm B.U.heap ∧ (EL = [] → (s.setVm T.vm).WarmedH B.U.vm)) :=
  BackS.of_freeW (bytes := bytes) (maxL := maxL) (ret := ret) (E := fun _ first o t L k n => k = rm.cells ∧ n = rm.slots ∧ (∃ v, o = .returned v ∧ Q v t.vm t.heap ∧ Keep first.heap t.heap Sf ∧ Fr n0 L) ∧ CHr Z EL first.vm first.heap t.vm t.heap ∧ (EL = [] → first.WarmedH t.vm)) (hM hO hEL fun x hx => ⟨(hSf x hx).1, (hSf x hx).2.1⟩) hf hl
    (fun m meth c A a Y hp => have hU : Z.Warmed39 A.U.vm := wtrans (s := s.setVm T.vm) hZ Y.warmed
      ⟨by show (Jvm.Cond.and _ .tt).before a A.U = true; rw [Cond.before_and, mv hU wc]; rfl, mv hU wc, mv hU wz, hp.2.2.1, hp.2.2.2⟩)
    (fun m meth c A a g mk Y hp => ⟨hp.1, wtrans (s := s.setVm T.vm) hZ Y.warmed, hp.2.1, (CHv.at Y hZ hEL H).1, fun x hx => (CHv.at Y hZ hEL H).safe (hSf x hx).2.1 (hSf x hx).2.2⟩) (fun _ _ _ _ _ _ _ _ _ => trivial)
    (fun _ _ _ _ ⟨v, L, h1, ⟨h2, h3, h4⟩, h5, h5', h6⟩ => ⟨L, _, _, h6, rfl, rfl, ⟨v, h1, h2, h3, h4⟩, h5, h5'⟩)
    (fun m meth c A a g mk v t L k n Y hp _ _ ⟨e1, e2, ⟨v', e3, e4, e5, e6⟩, e7, e8⟩ => by
      cases e3; subst e1 e2
      have eh : (A.U.calling g mk a).heap = h := hp.2.1
      rw [eh] at e5 e7
      exact ⟨L, e4, e5, e6, rfl, rfl, rfl, (CHv.at Y hZ hEL H).trans e7, fun q => State.WarmedH.trans (t := A.U) Y.warmed (e8 q)⟩)
/-- behind a call: what every kind of call has in common -/
theorem OPn.behind {y : MethodName} {rm : Room} {Sf : List Addr} {Q : Option Value → Vm → Heap → Prop} {locs : List Loc} {v : Option Value} {B : Pt}
    (hx : p.tables.exec = Jvm.exec) (hlk : meth.locks = false) (hS : OSn EL s T.vm h.size) (hZ : Z.Warmed39 T.vm) (hown : T.vm.findClass own = some m.cls) (eT : T.heap = h) (N : Fr n0 locs) (hEL : EW Z a0 EL) (C : CHr Z EL s.vm s.heap T.vm h) (O : Old Z n0 h) (K : Keep s.heap h W0) (W : ∀ x ∈ Ow, OOwn Z EL n0 W0 s.heap.size T.vm h x) (hsf : ∀ x ∈ Sf, x ∈ Ow)
    (X' : Stand p l e R ((s.setVm T.vm).setVm B.U.vm) m args below meth c B.U B.locs B.cells B.slots) (hS' : (s.setVm T.vm).Since B.U.vm B.U.heap.size) (hle : T.heap.size ≤ B.U.heap.size)
    (hq : ∃ L, Q v B.U.vm B.U.heap ∧ Keep h B.U.heap Sf ∧ Fr n0 L ∧ B.locs = locs ++ L ∧ B.cells = cells + rm.cells ∧ B.slots = slots + rm.slots ∧ CHr Z EL T.vm h B.U.vm B.U.heap ∧ (EL = [] → (s.setVm T.vm).WarmedH B.U.vm)) :
    OPn p l e R s m args below meth c Z a0 EL n0 W0 own B.U B.U.heap Ow (cells + rm.cells) (slots + rm.slots) ∧ Keep h B.U.heap Sf ∧ Q v B.U.vm B.U.heap := by
  subst eT
  obtain ⟨Lc, q, Kq, Nq, e1, e2, e3, Cq, hH⟩ := hq
  rw [e1, e2, e3] at X'
  have hal := hS'.1.alike
  refine ⟨⟨locs ++ Lc, X', hx, hlk, hS.trans ⟨hS', hH⟩ hle, State.Warmed39.trans (t := s.setVm T.vm) hZ hS'.1, (hal.findClass own _).trans hown, rfl, N.app Nq, hEL, C.trans Cq, O.keep Kq fun x hx => (W x (hsf x hx)).1, K.trans Kq fun x hx => (W x (hsf x hx)).2.2.2, fun x hx => ?_⟩, Kq, q⟩
  obtain ⟨r1, r2, r3, r4⟩ := W x hx
  exact ⟨r1, Nat.lt_of_lt_of_le r2 hle, Cq.safe r2 r3, r4⟩
theorem o_iload (P : OPn p l e R s m args below meth c Z a0 EL n0 W0 own T h Ow cells slots) {k0 : Nat} {v : Int32} (hd : decode c.code pc = .ok (.iload k0, 2)) (hl : L[k0]? = some (.val (.int v))) (hp : pc + 2 = pc') (k : OG p e below m Pq T pc' L (.int v :: S)) : OG p e below m Pq T pc L S := by
  subst hp; exact OG.st (fun t q => XS.iload P.here P.ex rfl hd hl q) k
theorem o_iloadN (P : OPn p l e R s m args below meth c Z a0 EL n0 W0 own T h Ow cells slots) {k0 : Fin 4} {v : Int32} (hd : decode c.code pc = .ok (.iload_n k0, 1)) (hl : L[k0.val]? = some (.val (.int v))) (hp : pc + 1 = pc') (k : OG p e below m Pq T pc' L (.int v :: S)) : OG p e below m Pq T pc L S := by
  subst hp; exact OG.st (fun t q => XS.iloadN P.here P.ex rfl hd hl q) k
theorem o_istore (P : OPn p l e R s m args below meth c Z a0 EL n0 W0 own T h Ow cells slots) {k0 : Nat} {v : Int32} (hd : decode c.code pc = .ok (.istore k0, 2)) (hl : storeLocals L k0 (.int v) = some L') (hp : pc + 2 = pc') (k : OG p e below m Pq T pc' L' S) : OG p e below m Pq T pc L (.int v :: S) := by
  subst hp; exact OG.st (fun t q => XS.istore P.here P.ex rfl hd rfl hl q) k
theorem o_istoreN (P : OPn p l e R s m args below meth c Z a0 EL n0 W0 own T h Ow cells slots) {k0 : Fin 4} {v : Int32} (hd : decode c.code pc = .ok (.istore_n k0, 1)) (hl : storeLocals L k0.val (.int v) = some L') (hp : pc + 1 = pc') (k : OG p e below m Pq T pc' L' S) : OG p e below m Pq T pc L (.int v :: S) := by
  subst hp; exact OG.st (fun t q => XS.istoreN P.here P.ex rfl hd rfl hl q) k
theorem o_lload (P : OPn p l e R s m args below meth c Z a0 EL n0 W0 own T h Ow cells slots) {k0 : Nat} {v : Int64} (hd : decode c.code pc = .ok (.lload k0, 2)) (hl : L[k0]? = some (.val (.long v))) (hp : pc + 2 = pc') (k : OG p e below m Pq T pc' L (.long v :: S)) : OG p e below m Pq T pc L S := by
  subst hp; exact OG.st (fun t q => XS.lload P.here P.ex rfl hd hl q) k
theorem o_lloadN (P : OPn p l e R s m args below meth c Z a0 EL n0 W0 own T h Ow cells slots) {k0 : Fin 4} {v : Int64} (hd : decode c.code pc = .ok (.lload_n k0, 1)) (hl : L[k0.val]? = some (.val (.long v))) (hp : pc + 1 = pc') (k : OG p e below m Pq T pc' L (.long v :: S)) : OG p e below m Pq T pc L S := by
  subst hp; exact OG.st (fun t q => XS.lloadN P.here P.ex rfl hd hl q) k
theorem o_lstore (P : OPn p l e R s m args below meth c Z a0 EL n0 W0 own T h Ow cells slots) {k0 : Nat} {v : Int64} (hd : decode c.code pc = .ok (.lstore k0, 2)) (hl : storeLocals L k0 (.long v) = some L') (hp : pc + 2 = pc') (k : OG p e below m Pq T pc' L' S) : OG p e below m Pq T pc L (.long v :: S) := by
  subst hp; exact OG.st (fun t q => XS.lstore P.here P.ex rfl hd rfl hl q) k
theorem o_lstoreN (P : OPn p l e R s m args below meth c Z a0 EL n0 W0 own T h Ow cells slots) {k0 : Fin 4} {v : Int64} (hd : decode c.code pc = .ok (.lstore_n k0, 1)) (hl : storeLocals L k0.val (.long v) = some L') (hp : pc + 1 = pc') (k : OG p e below m Pq T pc' L' S) : OG p e below m Pq T pc L (.long v :: S) := by
  subst hp; exact OG.st (fun t q => XS.lstoreN P.here P.ex rfl hd rfl hl q) k
theorem o_dload (P : OPn p l e R s m args below meth c Z a0 EL n0 W0 own T h Ow cells slots) {k0 : Nat} {v : UInt64} (hd : decode c.code pc = .ok (.dload k0, 2)) (hl : L[k0]? = some (.val (.double v))) (hp : pc + 2 = pc') (k : OG p e below m Pq T pc' L (.double v :: S)) : OG p e below m Pq T pc L S := by
  subst hp; exact OG.st (fun t q => XS.dload P.here P.ex rfl hd hl q) k
theorem o_dloadN (P : OPn p l e R s m args below meth c Z a0 EL n0 W0 own T h Ow cells slots) {k0 : Fin 4} {v : UInt64} (hd : decode c.code pc = .ok (.dload_n k0, 1)) (hl : L[k0.val]? = some (.val (.double v))) (hp : pc + 1 = pc') (k : OG p e below m Pq T pc' L (.double v :: S)) : OG p e below m Pq T pc L S := by
  subst hp; exact OG.st (fun t q => XS.dloadN P.here P.ex rfl hd hl q) k
theorem o_dstore (P : OPn p l e R s m args below meth c Z a0 EL n0 W0 own T h Ow cells slots) {k0 : Nat} {v : UInt64} (hd : decode c.code pc = .ok (.dstore k0, 2)) (hl : storeLocals L k0 (.double v) = some L') (hp : pc + 2 = pc') (k : OG p e below m Pq T pc' L' S) : OG p e below m Pq T pc L (.double v :: S) := by
  subst hp; exact OG.st (fun t q => XS.dstore P.here P.ex rfl hd rfl hl q) k
theorem o_dstoreN (P : OPn p l e R s m args below meth c Z a0 EL n0 W0 own T h Ow cells slots) {k0 : Fin 4} {v : UInt64} (hd : decode c.code pc = .ok (.dstore_n k0, 1)) (hl : storeLocals L k0.val (.double v) = some L') (hp : pc + 1 = pc') (k : OG p e below m Pq T pc' L' S) : OG p e below m Pq T pc L (.double v :: S) := by
  subst hp; exact OG.st (fun t q => XS.dstoreN P.here P.ex rfl hd rfl hl q) k
theorem o_aload (P : OPn p l e R s m args below meth c Z a0 EL n0 W0 own T h Ow cells slots) {k0 : Nat} {v : Value} (hd : decode c.code pc = .ok (.aload k0, 2)) (hl : L[k0]? = some (.val v)) (hv : v.isRef = true) (hp : pc + 2 = pc') (k : OG p e below m Pq T pc' L (v :: S)) : OG p e below m Pq T pc L S := by
  subst hp; exact OG.st (fun t q => XS.aload P.here P.ex rfl hd hl hv q) k
theorem o_aloadN (P : OPn p l e R s m args below meth c Z a0 EL n0 W0 own T h Ow cells slots) {k0 : Fin 4} {v : Value} (hd : decode c.code pc = .ok (.aload_n k0, 1)) (hl : L[k0.val]? = some (.val v)) (hv : v.isRef = true) (hp : pc + 1 = pc') (k : OG p e below m Pq T pc' L (v :: S)) : OG p e below m Pq T pc L S := by
  subst hp; exact OG.st (fun t q => XS.aloadN P.here P.ex rfl hd hl hv q) k
theorem o_astore (P : OPn p l e R s m args below meth c Z a0 EL n0 W0 own T h Ow cells slots) {k0 : Nat} {v : Value} (hd : decode c.code pc = .ok (.astore k0, 2)) (hv : v.isRef = true) (hl : storeLocals L k0 v = some L') (hp : pc + 2 = pc') (k : OG p e below m Pq T pc' L' S) : OG p e below m Pq T pc L (v :: S) := by
  subst hp; exact OG.st (fun t q => XS.astore P.here P.ex rfl hd rfl hv hl q) k
theorem o_astoreN (P : OPn p l e R s m args below meth c Z a0 EL n0 W0 own T h Ow cells slots) {k0 : Fin 4} {v : Value} (hd : decode c.code pc = .ok (.astore_n k0, 1)) (hv : v.isRef = true) (hl : storeLocals L k0.val v = some L') (hp : pc + 1 = pc') (k : OG p e below m Pq T pc' L' S) : OG p e below m Pq T pc L (v :: S) := by
  subst hp; exact OG.st (fun t q => XS.astoreN P.here P.ex rfl hd rfl hv hl q) k
theorem o_iconst (P : OPn p l e R s m args below meth c Z a0 EL n0 W0 own T h Ow cells slots) {i : Int} (v : Int32) (hd : decode c.code pc = .ok (.iconst i, 1)) (hv : Int32.ofInt i = v) (hp : pc + 1 = pc') (k : OG p e below m Pq T pc' L (.int v :: S)) : OG p e below m Pq T pc L S := by
  subst hp; exact OG.st (fun t q => XS.iconst P.here P.ex rfl hd (hv ▸ q)) k
theorem o_bipush (P : OPn p l e R s m args below meth c Z a0 EL n0 W0 own T h Ow cells slots) {i : Int} (v : Int32) (hd : decode c.code pc = .ok (.bipush i, 2)) (hv : (Int8.ofInt i).toInt32 = v) (hp : pc + 2 = pc') (k : OG p e below m Pq T pc' L (.int v :: S)) : OG p e below m Pq T pc L S := by
  subst hp; exact OG.st (fun t q => XS.bipush P.here P.ex rfl hd (hv ▸ q)) k
theorem o_sipush (P : OPn p l e R s m args below meth c Z a0 EL n0 W0 own T h Ow cells slots) {i : Int} (v : Int32) (hd : decode c.code pc = .ok (.sipush i, 3)) (hv : (Int16.ofInt i).toInt32 = v) (hp : pc + 3 = pc') (k : OG p e below m Pq T pc' L (.int v :: S)) : OG p e below m Pq T pc L S := by
  subst hp; exact OG.st (fun t q => XS.sipush P.here P.ex rfl hd (hv ▸ q)) k
theorem o_lconst (P : OPn p l e R s m args below meth c Z a0 EL n0 W0 own T h Ow cells slots) {i : Fin 2} (v : Int64) (hd : decode c.code pc = .ok (.lconst i, 1)) (hv : Int64.ofNat i = v) (hp : pc + 1 = pc') (k : OG p e below m Pq T pc' L (.long v :: S)) : OG p e below m Pq T pc L S := by
  subst hp; exact OG.st (fun t q => XS.lconst P.here P.ex rfl hd (hv ▸ q)) k
theorem o_dconst0 (P : OPn p l e R s m args below meth c Z a0 EL n0 W0 own T h Ow cells slots) {v : UInt64} (hd : decode c.code pc = .ok (.dconst 0, 1)) (hv : FP.dconst0 = v) (hp : pc + 1 = pc') (k : OG p e below m Pq T pc' L (.double v :: S)) : OG p e below m Pq T pc L S := by
  subst hp; exact OG.st (fun t q => XS.dconst0 P.here P.ex rfl hd hv q) k
theorem o_dconst1 (P : OPn p l e R s m args below meth c Z a0 EL n0 W0 own T h Ow cells slots) {v : UInt64} (hd : decode c.code pc = .ok (.dconst 1, 1)) (hv : FP.dconst1 = v) (hp : pc + 1 = pc') (k : OG p e below m Pq T pc' L (.double v :: S)) : OG p e below m Pq T pc L S := by
  subst hp; exact OG.st (fun t q => XS.dconst1 P.here P.ex rfl hd hv q) k
theorem o_aconstNull (P : OPn p l e R s m args below meth c Z a0 EL n0 W0 own T h Ow cells slots)  (hd : decode c.code pc = .ok (.aconst_null, 1)) (hp : pc + 1 = pc') (k : OG p e below m Pq T pc' L (.null :: S)) : OG p e below m Pq T pc L S := by
  subst hp; exact OG.st (fun t q => XS.aconstNull P.here P.ex rfl hd q) k
theorem o_iadd (P : OPn p l e R s m args below meth c Z a0 EL n0 W0 own T h Ow cells slots) {x y : Int32} (hd : decode c.code pc = .ok (.iadd, 1)) (hp : pc + 1 = pc') (k : OG p e below m Pq T pc' L (.int (x + y) :: S)) : OG p e below m Pq T pc L (.int y :: .int x :: S) := by
  subst hp; exact OG.st (fun t q => XS.iadd P.here P.ex rfl hd rfl q) k
theorem o_ladd (P : OPn p l e R s m args below meth c Z a0 EL n0 W0 own T h Ow cells slots) {x y : Int64} (hd : decode c.code pc = .ok (.ladd, 1)) (hp : pc + 1 = pc') (k : OG p e below m Pq T pc' L (.long (x + y) :: S)) : OG p e below m Pq T pc L (.long y :: .long x :: S) := by
  subst hp; exact OG.st (fun t q => XS.ladd P.here P.ex rfl hd rfl q) k
theorem o_isub (P : OPn p l e R s m args below meth c Z a0 EL n0 W0 own T h Ow cells slots) {x y : Int32} (hd : decode c.code pc = .ok (.isub, 1)) (hp : pc + 1 = pc') (k : OG p e below m Pq T pc' L (.int (x - y) :: S)) : OG p e below m Pq T pc L (.int y :: .int x :: S) := by
  subst hp; exact OG.st (fun t q => XS.isub P.here P.ex rfl hd rfl q) k
theorem o_lsub (P : OPn p l e R s m args below meth c Z a0 EL n0 W0 own T h Ow cells slots) {x y : Int64} (hd : decode c.code pc = .ok (.lsub, 1)) (hp : pc + 1 = pc') (k : OG p e below m Pq T pc' L (.long (x - y) :: S)) : OG p e below m Pq T pc L (.long y :: .long x :: S) := by
  subst hp; exact OG.st (fun t q => XS.lsub P.here P.ex rfl hd rfl q) k
theorem o_imul (P : OPn p l e R s m args below meth c Z a0 EL n0 W0 own T h Ow cells slots) {x y : Int32} (hd : decode c.code pc = .ok (.imul, 1)) (hp : pc + 1 = pc') (k : OG p e below m Pq T pc' L (.int (x * y) :: S)) : OG p e below m Pq T pc L (.int y :: .int x :: S) := by
  subst hp; exact OG.st (fun t q => XS.imul P.here P.ex rfl hd rfl q) k
theorem o_lmul (P : OPn p l e R s m args below meth c Z a0 EL n0 W0 own T h Ow cells slots) {x y : Int64} (hd : decode c.code pc = .ok (.lmul, 1)) (hp : pc + 1 = pc') (k : OG p e below m Pq T pc' L (.long (x * y) :: S)) : OG p e below m Pq T pc L (.long y :: .long x :: S) := by
  subst hp; exact OG.st (fun t q => XS.lmul P.here P.ex rfl hd rfl q) k
theorem o_iand (P : OPn p l e R s m args below meth c Z a0 EL n0 W0 own T h Ow cells slots) {x y : Int32} (hd : decode c.code pc = .ok (.iand, 1)) (hp : pc + 1 = pc') (k : OG p e below m Pq T pc' L (.int (x &&& y) :: S)) : OG p e below m Pq T pc L (.int y :: .int x :: S) := by
  subst hp; exact OG.st (fun t q => XS.iand P.here P.ex rfl hd rfl q) k
theorem o_land (P : OPn p l e R s m args below meth c Z a0 EL n0 W0 own T h Ow cells slots) {x y : Int64} (hd : decode c.code pc = .ok (.land, 1)) (hp : pc + 1 = pc') (k : OG p e below m Pq T pc' L (.long (x &&& y) :: S)) : OG p e below m Pq T pc L (.long y :: .long x :: S) := by
  subst hp; exact OG.st (fun t q => XS.land P.here P.ex rfl hd rfl q) k
theorem o_ior (P : OPn p l e R s m args below meth c Z a0 EL n0 W0 own T h Ow cells slots) {x y : Int32} (hd : decode c.code pc = .ok (.ior, 1)) (hp : pc + 1 = pc') (k : OG p e below m Pq T pc' L (.int (x ||| y) :: S)) : OG p e below m Pq T pc L (.int y :: .int x :: S) := by
  subst hp; exact OG.st (fun t q => XS.ior P.here P.ex rfl hd rfl q) k
theorem o_lor (P : OPn p l e R s m args below meth c Z a0 EL n0 W0 own T h Ow cells slots) {x y : Int64} (hd : decode c.code pc = .ok (.lor, 1)) (hp : pc + 1 = pc') (k : OG p e below m Pq T pc' L (.long (x ||| y) :: S)) : OG p e below m Pq T pc L (.long y :: .long x :: S) := by
  subst hp; exact OG.st (fun t q => XS.lor P.here P.ex rfl hd rfl q) k
theorem o_ixor (P : OPn p l e R s m args below meth c Z a0 EL n0 W0 own T h Ow cells slots) {x y : Int32} (hd : decode c.code pc = .ok (.ixor, 1)) (hp : pc + 1 = pc') (k : OG p e below m Pq T pc' L (.int (x ^^^ y) :: S)) : OG p e below m Pq T pc L (.int y :: .int x :: S) := by
  subst hp; exact OG.st (fun t q => XS.ixor P.here P.ex rfl hd rfl q) k
theorem o_lxor (P : OPn p l e R s m args below meth c Z a0 EL n0 W0 own T h Ow cells slots) {x y : Int64} (hd : decode c.code pc = .ok (.lxor, 1)) (hp : pc + 1 = pc') (k : OG p e below m Pq T pc' L (.long (x ^^^ y) :: S)) : OG p e below m Pq T pc L (.long y :: .long x :: S) := by
  subst hp; exact OG.st (fun t q => XS.lxor P.here P.ex rfl hd rfl q) k
theorem o_idiv (P : OPn p l e R s m args below meth c Z a0 EL n0 W0 own T h Ow cells slots) {x y : Int32} (hd : decode c.code pc = .ok (.idiv, 1)) (hy : y ≠ 0) (hp : pc + 1 = pc') (k : OG p e below m Pq T pc' L (.int (x / y) :: S)) : OG p e below m Pq T pc L (.int y :: .int x :: S) := by
  subst hp; exact OG.st (fun t q => XS.idiv P.here P.ex rfl hd rfl hy q) k
theorem o_ldiv (P : OPn p l e R s m args below meth c Z a0 EL n0 W0 own T h Ow cells slots) {x y : Int64} (hd : decode c.code pc = .ok (.ldiv, 1)) (hy : y ≠ 0) (hp : pc + 1 = pc') (k : OG p e below m Pq T pc' L (.long (x / y) :: S)) : OG p e below m Pq T pc L (.long y :: .long x :: S) := by
  subst hp; exact OG.st (fun t q => XS.ldiv P.here P.ex rfl hd rfl hy q) k
theorem o_irem (P : OPn p l e R s m args below meth c Z a0 EL n0 W0 own T h Ow cells slots) {x y : Int32} (hd : decode c.code pc = .ok (.irem, 1)) (hy : y ≠ 0) (hp : pc + 1 = pc') (k : OG p e below m Pq T pc' L (.int (x % y) :: S)) : OG p e below m Pq T pc L (.int y :: .int x :: S) := by
  subst hp; exact OG.st (fun t q => XS.irem P.here P.ex rfl hd rfl hy (by rw [irem_eq_mod]; exact q)) k
theorem o_lrem (P : OPn p l e R s m args below meth c Z a0 EL n0 W0 own T h Ow cells slots) {x y : Int64} (hd : decode c.code pc = .ok (.lrem, 1)) (hy : y ≠ 0) (hp : pc + 1 = pc') (k : OG p e below m Pq T pc' L (.long (x % y) :: S)) : OG p e below m Pq T pc L (.long y :: .long x :: S) := by
  subst hp; exact OG.st (fun t q => XS.lrem P.here P.ex rfl hd rfl hy (by rw [lrem_mod]; exact q)) k
theorem o_ineg (P : OPn p l e R s m args below meth c Z a0 EL n0 W0 own T h Ow cells slots) {x : Int32} (hd : decode c.code pc = .ok (.ineg, 1)) (hp : pc + 1 = pc') (k : OG p e below m Pq T pc' L (.int (-x) :: S)) : OG p e below m Pq T pc L (.int x :: S) := by
  subst hp; exact OG.st (fun t q => XS.ineg P.here P.ex rfl hd rfl q) k
theorem o_lneg (P : OPn p l e R s m args below meth c Z a0 EL n0 W0 own T h Ow cells slots) {x : Int64} (hd : decode c.code pc = .ok (.lneg, 1)) (hp : pc + 1 = pc') (k : OG p e below m Pq T pc' L (.long (-x) :: S)) : OG p e below m Pq T pc L (.long x :: S) := by
  subst hp; exact OG.st (fun t q => XS.lneg P.here P.ex rfl hd rfl q) k
theorem o_ishl (P : OPn p l e R s m args below meth c Z a0 EL n0 W0 own T h Ow cells slots) {x y : Int32} (hd : decode c.code pc = .ok (.ishl, 1)) (hp : pc + 1 = pc') (k : OG p e below m Pq T pc' L (.int (x <<< (y &&& 31)) :: S)) : OG p e below m Pq T pc L (.int y :: .int x :: S) := by
  subst hp; exact OG.st (fun t q => XS.ishl P.here P.ex rfl hd rfl q) k
theorem o_ishr (P : OPn p l e R s m args below meth c Z a0 EL n0 W0 own T h Ow cells slots) {x y : Int32} (hd : decode c.code pc = .ok (.ishr, 1)) (hp : pc + 1 = pc') (k : OG p e below m Pq T pc' L (.int (x >>> (y &&& 31)) :: S)) : OG p e below m Pq T pc L (.int y :: .int x :: S) := by
  subst hp; exact OG.st (fun t q => XS.ishr P.here P.ex rfl hd rfl q) k
theorem o_iushr (P : OPn p l e R s m args below meth c Z a0 EL n0 W0 own T h Ow cells slots) {x y : Int32} (hd : decode c.code pc = .ok (.iushr, 1)) (hp : pc + 1 = pc') (k : OG p e below m Pq T pc' L (.int ((x.toUInt32 >>> (y &&& 31).toUInt32).toInt32) :: S)) : OG p e below m Pq T pc L (.int y :: .int x :: S) := by
  subst hp; exact OG.st (fun t q => XS.iushr P.here P.ex rfl hd rfl q) k
theorem o_lshl (P : OPn p l e R s m args below meth c Z a0 EL n0 W0 own T h Ow cells slots) {x : Int64} {y : Int32} (hd : decode c.code pc = .ok (.lshl, 1)) (hp : pc + 1 = pc') (k : OG p e below m Pq T pc' L (.long (x <<< (y &&& 0x3f).toInt64) :: S)) : OG p e below m Pq T pc L (.int y :: .long x :: S) := by
  subst hp; exact OG.st (fun t q => XS.lshl P.here P.ex rfl hd rfl q) k
theorem o_lshr (P : OPn p l e R s m args below meth c Z a0 EL n0 W0 own T h Ow cells slots) {x : Int64} {y : Int32} (hd : decode c.code pc = .ok (.lshr, 1)) (hp : pc + 1 = pc') (k : OG p e below m Pq T pc' L (.long (x >>> (y &&& 0x3f).toInt64) :: S)) : OG p e below m Pq T pc L (.int y :: .long x :: S) := by
  subst hp; exact OG.st (fun t q => XS.lshr P.here P.ex rfl hd rfl q) k
theorem o_lushr (P : OPn p l e R s m args below meth c Z a0 EL n0 W0 own T h Ow cells slots) {x : Int64} {y : Int32} (hd : decode c.code pc = .ok (.lushr, 1)) (hp : pc + 1 = pc') (k : OG p e below m Pq T pc' L (.long ((x.toUInt64 >>> (y &&& 0x3f).toInt64.toUInt64).toInt64) :: S)) : OG p e below m Pq T pc L (.int y :: .long x :: S) := by
  subst hp; exact OG.st (fun t q => XS.lushr P.here P.ex rfl hd rfl q) k
theorem o_i2l (P : OPn p l e R s m args below meth c Z a0 EL n0 W0 own T h Ow cells slots) {x : Int32} (hd : decode c.code pc = .ok (.i2l, 1)) (hp : pc + 1 = pc') (k : OG p e below m Pq T pc' L (.long (x.toInt64) :: S)) : OG p e below m Pq T pc L (.int x :: S) := by
  subst hp; exact OG.st (fun t q => XS.i2l P.here P.ex rfl hd rfl q) k
theorem o_l2i (P : OPn p l e R s m args below meth c Z a0 EL n0 W0 own T h Ow cells slots) {x : Int64} (hd : decode c.code pc = .ok (.l2i, 1)) (hp : pc + 1 = pc') (k : OG p e below m Pq T pc' L (.int (x.toInt32) :: S)) : OG p e below m Pq T pc L (.long x :: S) := by
  subst hp; exact OG.st (fun t q => XS.l2i P.here P.ex rfl hd rfl q) k
theorem o_i2b (P : OPn p l e R s m args below meth c Z a0 EL n0 W0 own T h Ow cells slots) {x : Int32} (hd : decode c.code pc = .ok (.i2b, 1)) (hp : pc + 1 = pc') (k : OG p e below m Pq T pc' L (.int (x.toInt8.toInt32) :: S)) : OG p e below m Pq T pc L (.int x :: S) := by
  subst hp; exact OG.st (fun t q => XS.i2b P.here P.ex rfl hd rfl q) k
theorem o_i2s (P : OPn p l e R s m args below meth c Z a0 EL n0 W0 own T h Ow cells slots) {x : Int32} (hd : decode c.code pc = .ok (.i2s, 1)) (hp : pc + 1 = pc') (k : OG p e below m Pq T pc' L (.int (x.toInt16.toInt32) :: S)) : OG p e below m Pq T pc L (.int x :: S) := by
  subst hp; exact OG.st (fun t q => XS.i2s P.here P.ex rfl hd rfl q) k
theorem o_i2c (P : OPn p l e R s m args below meth c Z a0 EL n0 W0 own T h Ow cells slots) {x : Int32} (hd : decode c.code pc = .ok (.i2c, 1)) (hp : pc + 1 = pc') (k : OG p e below m Pq T pc' L (.int (x.toUInt32.toUInt16.toUInt32.toInt32) :: S)) : OG p e below m Pq T pc L (.int x :: S) := by
  subst hp; exact OG.st (fun t q => XS.i2c P.here P.ex rfl hd rfl q) k
theorem o_lcmp (P : OPn p l e R s m args below meth c Z a0 EL n0 W0 own T h Ow cells slots) {x y : Int64} (hd : decode c.code pc = .ok (.lcmp, 1)) (hp : pc + 1 = pc') (k : OG p e below m Pq T pc' L (.int (lcmpW x y) :: S)) : OG p e below m Pq T pc L (.long y :: .long x :: S) := by
  subst hp; exact OG.st (fun t q => XS.lcmp P.here P.ex rfl hd rfl q) k
theorem o_i2d (P : OPn p l e R s m args below meth c Z a0 EL n0 W0 own T h Ow cells slots) {x : Int32} {v : UInt64} (hd : decode c.code pc = .ok (.i2d, 1)) (hv : FP.i2d x = v) (hp : pc + 1 = pc') (k : OG p e below m Pq T pc' L (.double v :: S)) : OG p e below m Pq T pc L (.int x :: S) := by
  subst hp; exact OG.st (fun t q => XS.i2dS P.here P.ex rfl hd rfl hv q) k
theorem o_dadd (P : OPn p l e R s m args below meth c Z a0 EL n0 W0 own T h Ow cells slots) {x y v : UInt64} (hd : decode c.code pc = .ok (.dadd, 1)) (hn : Jvm.Free.Fl.NoNaN64 (FP.dadd x y)) (hv : FP.dadd x y = v) (hp : pc + 1 = pc') (k : OG p e below m Pq T pc' L (.double v :: S)) : OG p e below m Pq T pc L (.double y :: .double x :: S) := by
  subst hp; exact OG.st (fun t q => XS.daddS P.here P.ex rfl hd rfl hn hv q) k
theorem o_dmul (P : OPn p l e R s m args below meth c Z a0 EL n0 W0 own T h Ow cells slots) {x y v : UInt64} (hd : decode c.code pc = .ok (.dmul, 1)) (hn : Jvm.Free.Fl.NoNaN64 (FP.dmul x y)) (hv : FP.dmul x y = v) (hp : pc + 1 = pc') (k : OG p e below m Pq T pc' L (.double v :: S)) : OG p e below m Pq T pc L (.double y :: .double x :: S) := by
  subst hp; exact OG.st (fun t q => XS.dmulS P.here P.ex rfl hd rfl hn hv q) k
theorem o_ddiv (P : OPn p l e R s m args below meth c Z a0 EL n0 W0 own T h Ow cells slots) {x y v : UInt64} (hd : decode c.code pc = .ok (.ddiv, 1)) (hn : Jvm.Free.Fl.NoNaN64 (FP.ddiv x y)) (hv : FP.ddiv x y = v) (hp : pc + 1 = pc') (k : OG p e below m Pq T pc' L (.double v :: S)) : OG p e below m Pq T pc L (.double y :: .double x :: S) := by
  subst hp; exact OG.st (fun t q => XS.ddivS P.here P.ex rfl hd rfl hn hv q) k
theorem o_dcmp (P : OPn p l e R s m args below meth c Z a0 EL n0 W0 own T h Ow cells slots) {o : CmpOp} {x y : UInt64} {v : Int32} (hd : decode c.code pc = .ok (.dcmp o, 1)) (hv : cmpValue (FP.dcmp x y) o = v) (hp : pc + 1 = pc') (k : OG p e below m Pq T pc' L (.int v :: S)) : OG p e below m Pq T pc L (.double y :: .double x :: S) := by
  subst hp; exact OG.st (fun t q => XS.dcmpS P.here P.ex rfl hd rfl hv q) k
theorem o_dup (P : OPn p l e R s m args below meth c Z a0 EL n0 W0 own T h Ow cells slots) {x : Value} (hd : decode c.code pc = .ok (.dup, 1)) (hc : x.category = 1) (hp : pc + 1 = pc') (k : OG p e below m Pq T pc' L (x :: x :: S)) : OG p e below m Pq T pc L (x :: S) := by
  subst hp; exact OG.st (fun t q => XS.dup P.here P.ex rfl hd rfl hc q) k
theorem o_pop (P : OPn p l e R s m args below meth c Z a0 EL n0 W0 own T h Ow cells slots) {x : Value} (hd : decode c.code pc = .ok (.pop, 1)) (hc : x.category = 1) (hp : pc + 1 = pc') (k : OG p e below m Pq T pc' L S) : OG p e below m Pq T pc L (x :: S) := by
  subst hp; exact OG.st (fun t q => XS.pop P.here P.ex rfl hd rfl hc q) k
theorem o_swap (P : OPn p l e R s m args below meth c Z a0 EL n0 W0 own T h Ow cells slots) {x y : Value} (hd : decode c.code pc = .ok (.swap, 1)) (hc : x.category = 1) (hc2 : y.category = 1) (hp : pc + 1 = pc') (k : OG p e below m Pq T pc' L (y :: x :: S)) : OG p e below m Pq T pc L (x :: y :: S) := by
  subst hp; exact OG.st (fun t q => XS.swap P.here P.ex rfl hd rfl hc hc2 q) k
theorem o_dupX1 (P : OPn p l e R s m args below meth c Z a0 EL n0 W0 own T h Ow cells slots) {x y : Value} (hd : decode c.code pc = .ok (.dup_x1, 1)) (hc : x.category = 1) (hc2 : y.category = 1) (hp : pc + 1 = pc') (k : OG p e below m Pq T pc' L (x :: y :: x :: S)) : OG p e below m Pq T pc L (x :: y :: S) := by
  subst hp; exact OG.st (fun t q => XS.dupX1 P.here P.ex rfl hd rfl hc hc2 q) k
theorem o_dup2 (P : OPn p l e R s m args below meth c Z a0 EL n0 W0 own T h Ow cells slots) {x y : Value} (hd : decode c.code pc = .ok (.dup2, 1)) (hc : x.category = 1) (hc2 : y.category = 1) (hp : pc + 1 = pc') (k : OG p e below m Pq T pc' L (x :: y :: x :: y :: S)) : OG p e below m Pq T pc L (x :: y :: S) := by
  subst hp; exact OG.st (fun t q => Jvm.Free.XT.dup2 P.here P.ex rfl hd rfl hc hc2 q) k
theorem o_dup2L (P : OPn p l e R s m args below meth c Z a0 EL n0 W0 own T h Ow cells slots) {x : Int64} (hd : decode c.code pc = .ok (.dup2, 1)) (hp : pc + 1 = pc') (k : OG p e below m Pq T pc' L (.long x :: .long x :: S)) : OG p e below m Pq T pc L (.long x :: S) := by
  subst hp; exact OG.st (fun t q => Jvm.Free.XT.dup2L P.here P.ex rfl hd rfl q) k
theorem o_iinc (P : OPn p l e R s m args below meth c Z a0 EL n0 W0 own T h Ow cells slots) {k0 : Nat} {i : Int} {x : Int32} (v : Int32) (hd : decode c.code pc = .ok (.iinc k0 i, 3)) (hv : Int32.ofInt i = v) (hl : L[k0]? = some (.val (.int x))) (hl' : storeLocals L k0 (.int (x + v)) = some L') (hp : pc + 3 = pc') (k : OG p e below m Pq T pc' L' S) : OG p e below m Pq T pc L S := by
  subst hp; exact OG.st (fun t q => XS.iinc P.here P.ex rfl hd hl (hv ▸ hl') q) k
theorem o_goto (P : OPn p l e R s m args below meth c Z a0 EL n0 W0 own T h Ow cells slots) {o : Int} (hd : decode c.code pc = .ok (.goto o, 3)) (ho : 0 ≤ (pc : Int) + o) (hp : ((pc : Int) + o).toNat = pc') (k : OG p e below m Pq T pc' L S) : OG p e below m Pq T pc L S :=
  OG.st (fun t q => XS.goto P.here P.ex rfl rfl hd ho hp q) k
theorem o_icmp_lt (P : OPn p l e R s m args below meth c Z a0 EL n0 W0 own T h Ow cells slots) {o : Int} {x y : Int32} {pcf : Nat} (hd : decode c.code pc = .ok (.if_icmp .lt o, 3)) (ho : 0 ≤ (pc : Int) + o) (hp : ((pc : Int) + o).toNat = pc') (hq : pc + 3 = pcf) (k1 : x < y → OG p e below m Pq T pc' L S) (k2 : ¬ x < y → OG p e below m Pq T pcf L S) : OG p e below m Pq T pc L (.int y :: .int x :: S) := by
  by_cases q : x < y
  · exact OG.st (fun t r => XS.icmpYes P.here P.ex rfl rfl hd rfl (tlt q).1 ho hp r) (k1 q)
  · subst hq; exact OG.st (fun t r => XS.icmpNo P.here P.ex rfl hd rfl (flt q).1 r) (k2 q)
theorem o_if_lt (P : OPn p l e R s m args below meth c Z a0 EL n0 W0 own T h Ow cells slots) {o : Int} {x : Int32} {pcf : Nat} (hd : decode c.code pc = .ok (.ifCond .lt o, 3)) (ho : 0 ≤ (pc : Int) + o) (hp : ((pc : Int) + o).toNat = pc') (hq : pc + 3 = pcf) (k1 : x < (0 : Int32) → OG p e below m Pq T pc' L S) (k2 : ¬ x < (0 : Int32) → OG p e below m Pq T pcf L S) : OG p e below m Pq T pc L (.int x :: S) := by
  by_cases q : x < (0 : Int32)
  · exact OG.st (fun t r => XS.ifYes P.here P.ex rfl rfl hd rfl ((if0 _ _).trans (tlt q).1) ho hp r) (k1 q)
  · subst hq; exact OG.st (fun t r => XS.ifNo P.here P.ex rfl hd rfl ((if0 _ _).trans (flt q).1) r) (k2 q)
theorem o_icmp_ge (P : OPn p l e R s m args below meth c Z a0 EL n0 W0 own T h Ow cells slots) {o : Int} {x y : Int32} {pcf : Nat} (hd : decode c.code pc = .ok (.if_icmp .ge o, 3)) (ho : 0 ≤ (pc : Int) + o) (hp : ((pc : Int) + o).toNat = pc') (hq : pc + 3 = pcf) (k1 : ¬ x < y → OG p e below m Pq T pc' L S) (k2 : x < y → OG p e below m Pq T pcf L S) : OG p e below m Pq T pc L (.int y :: .int x :: S) := by
  by_cases q : x < y
  · subst hq; exact OG.st (fun t r => XS.icmpNo P.here P.ex rfl hd rfl (tlt q).2.1 r) (k2 q)
  · exact OG.st (fun t r => XS.icmpYes P.here P.ex rfl rfl hd rfl (flt q).2.1 ho hp r) (k1 q)
theorem o_if_ge (P : OPn p l e R s m args below meth c Z a0 EL n0 W0 own T h Ow cells slots) {o : Int} {x : Int32} {pcf : Nat} (hd : decode c.code pc = .ok (.ifCond .ge o, 3)) (ho : 0 ≤ (pc : Int) + o) (hp : ((pc : Int) + o).toNat = pc') (hq : pc + 3 = pcf) (k1 : ¬ x < (0 : Int32) → OG p e below m Pq T pc' L S) (k2 : x < (0 : Int32) → OG p e below m Pq T pcf L S) : OG p e below m Pq T pc L (.int x :: S) := by
  by_cases q : x < (0 : Int32)
  · subst hq; exact OG.st (fun t r => XS.ifNo P.here P.ex rfl hd rfl ((if0 _ _).trans (tlt q).2.1) r) (k2 q)
  · exact OG.st (fun t r => XS.ifYes P.here P.ex rfl rfl hd rfl ((if0 _ _).trans (flt q).2.1) ho hp r) (k1 q)
theorem o_icmp_gt (P : OPn p l e R s m args below meth c Z a0 EL n0 W0 own T h Ow cells slots) {o : Int} {x y : Int32} {pcf : Nat} (hd : decode c.code pc = .ok (.if_icmp .gt o, 3)) (ho : 0 ≤ (pc : Int) + o) (hp : ((pc : Int) + o).toNat = pc') (hq : pc + 3 = pcf) (k1 : y < x → OG p e below m Pq T pc' L S) (k2 : ¬ y < x → OG p e below m Pq T pcf L S) : OG p e below m Pq T pc L (.int y :: .int x :: S) := by
  by_cases q : y < x
  · exact OG.st (fun t r => XS.icmpYes P.here P.ex rfl rfl hd rfl (tlt q).2.2.1 ho hp r) (k1 q)
  · subst hq; exact OG.st (fun t r => XS.icmpNo P.here P.ex rfl hd rfl (flt q).2.2.1 r) (k2 q)
theorem o_if_gt (P : OPn p l e R s m args below meth c Z a0 EL n0 W0 own T h Ow cells slots) {o : Int} {x : Int32} {pcf : Nat} (hd : decode c.code pc = .ok (.ifCond .gt o, 3)) (ho : 0 ≤ (pc : Int) + o) (hp : ((pc : Int) + o).toNat = pc') (hq : pc + 3 = pcf) (k1 : (0 : Int32) < x → OG p e below m Pq T pc' L S) (k2 : ¬ (0 : Int32) < x → OG p e below m Pq T pcf L S) : OG p e below m Pq T pc L (.int x :: S) := by
  by_cases q : (0 : Int32) < x
  · exact OG.st (fun t r => XS.ifYes P.here P.ex rfl rfl hd rfl ((if0 _ _).trans (tlt q).2.2.1) ho hp r) (k1 q)
  · subst hq; exact OG.st (fun t r => XS.ifNo P.here P.ex rfl hd rfl ((if0 _ _).trans (flt q).2.2.1) r) (k2 q)
theorem o_icmp_le (P : OPn p l e R s m args below meth c Z a0 EL n0 W0 own T h Ow cells slots) {o : Int} {x y : Int32} {pcf : Nat} (hd : decode c.code pc = .ok (.if_icmp .le o, 3)) (ho : 0 ≤ (pc : Int) + o) (hp : ((pc : Int) + o).toNat = pc') (hq : pc + 3 = pcf) (k1 : ¬ y < x → OG p e below m Pq T pc' L S) (k2 : y < x → OG p e below m Pq T pcf L S) : OG p e below m Pq T pc L (.int y :: .int x :: S) := by
  by_cases q : y < x
  · subst hq; exact OG.st (fun t r => XS.icmpNo P.here P.ex rfl hd rfl (tlt q).2.2.2 r) (k2 q)
  · exact OG.st (fun t r => XS.icmpYes P.here P.ex rfl rfl hd rfl (flt q).2.2.2 ho hp r) (k1 q)
theorem o_if_le (P : OPn p l e R s m args below meth c Z a0 EL n0 W0 own T h Ow cells slots) {o : Int} {x : Int32} {pcf : Nat} (hd : decode c.code pc = .ok (.ifCond .le o, 3)) (ho : 0 ≤ (pc : Int) + o) (hp : ((pc : Int) + o).toNat = pc') (hq : pc + 3 = pcf) (k1 : ¬ (0 : Int32) < x → OG p e below m Pq T pc' L S) (k2 : (0 : Int32) < x → OG p e below m Pq T pcf L S) : OG p e below m Pq T pc L (.int x :: S) := by
  by_cases q : (0 : Int32) < x
  · subst hq; exact OG.st (fun t r => XS.ifNo P.here P.ex rfl hd rfl ((if0 _ _).trans (tlt q).2.2.2) r) (k2 q)
  · exact OG.st (fun t r => XS.ifYes P.here P.ex rfl rfl hd rfl ((if0 _ _).trans (flt q).2.2.2) ho hp r) (k1 q)
theorem o_icmp_eq (P : OPn p l e R s m args below meth c Z a0 EL n0 W0 own T h Ow cells slots) {o : Int} {x y : Int32} {pcf : Nat} (hd : decode c.code pc = .ok (.if_icmp .eq o, 3)) (ho : 0 ≤ (pc : Int) + o) (hp : ((pc : Int) + o).toNat = pc') (hq : pc + 3 = pcf) (k1 : x = y → OG p e below m Pq T pc' L S) (k2 : ¬ x = y → OG p e below m Pq T pcf L S) : OG p e below m Pq T pc L (.int y :: .int x :: S) := by
  by_cases q : x = y
  · exact OG.st (fun t r => XS.icmpYes P.here P.ex rfl rfl hd rfl (teq q).1 ho hp r) (k1 q)
  · subst hq; exact OG.st (fun t r => XS.icmpNo P.here P.ex rfl hd rfl (feq q).1 r) (k2 q)
theorem o_if_eq (P : OPn p l e R s m args below meth c Z a0 EL n0 W0 own T h Ow cells slots) {o : Int} {x : Int32} {pcf : Nat} (hd : decode c.code pc = .ok (.ifCond .eq o, 3)) (ho : 0 ≤ (pc : Int) + o) (hp : ((pc : Int) + o).toNat = pc') (hq : pc + 3 = pcf) (k1 : x = (0 : Int32) → OG p e below m Pq T pc' L S) (k2 : ¬ x = (0 : Int32) → OG p e below m Pq T pcf L S) : OG p e below m Pq T pc L (.int x :: S) := by
  by_cases q : x = (0 : Int32)
  · exact OG.st (fun t r => XS.ifYes P.here P.ex rfl rfl hd rfl ((if0 _ _).trans (teq q).1) ho hp r) (k1 q)
  · subst hq; exact OG.st (fun t r => XS.ifNo P.here P.ex rfl hd rfl ((if0 _ _).trans (feq q).1) r) (k2 q)
theorem o_icmp_ne (P : OPn p l e R s m args below meth c Z a0 EL n0 W0 own T h Ow cells slots) {o : Int} {x y : Int32} {pcf : Nat} (hd : decode c.code pc = .ok (.if_icmp .ne o, 3)) (ho : 0 ≤ (pc : Int) + o) (hp : ((pc : Int) + o).toNat = pc') (hq : pc + 3 = pcf) (k1 : ¬ x = y → OG p e below m Pq T pc' L S) (k2 : x = y → OG p e below m Pq T pcf L S) : OG p e below m Pq T pc L (.int y :: .int x :: S) := by
  by_cases q : x = y
  · subst hq; exact OG.st (fun t r => XS.icmpNo P.here P.ex rfl hd rfl (teq q).2 r) (k2 q)
  · exact OG.st (fun t r => XS.icmpYes P.here P.ex rfl rfl hd rfl (feq q).2 ho hp r) (k1 q)
theorem o_if_ne (P : OPn p l e R s m args below meth c Z a0 EL n0 W0 own T h Ow cells slots) {o : Int} {x : Int32} {pcf : Nat} (hd : decode c.code pc = .ok (.ifCond .ne o, 3)) (ho : 0 ≤ (pc : Int) + o) (hp : ((pc : Int) + o).toNat = pc') (hq : pc + 3 = pcf) (k1 : ¬ x = (0 : Int32) → OG p e below m Pq T pc' L S) (k2 : x = (0 : Int32) → OG p e below m Pq T pcf L S) : OG p e below m Pq T pc L (.int x :: S) := by
  by_cases q : x = (0 : Int32)
  · subst hq; exact OG.st (fun t r => XS.ifNo P.here P.ex rfl hd rfl ((if0 _ _).trans (teq q).2) r) (k2 q)
  · exact OG.st (fun t r => XS.ifYes P.here P.ex rfl rfl hd rfl ((if0 _ _).trans (feq q).2) ho hp r) (k1 q)
theorem o_ifnullY (P : OPn p l e R s m args below meth c Z a0 EL n0 W0 own T h Ow cells slots) {o : Int} (hd : decode c.code pc = .ok (.ifnull o, 3)) (ho : 0 ≤ (pc : Int) + o) (hp : ((pc : Int) + o).toNat = pc') (k : OG p e below m Pq T pc' L S) : OG p e below m Pq T pc L (.null :: S) :=
  OG.st (fun t q => XS.ifnullYes P.here P.ex rfl rfl hd rfl ho hp q) k
theorem o_ifnullN (P : OPn p l e R s m args below meth c Z a0 EL n0 W0 own T h Ow cells slots) {o : Int} {b : Addr} (hd : decode c.code pc = .ok (.ifnull o, 3)) (hp : pc + 3 = pc') (k : OG p e below m Pq T pc' L S) : OG p e below m Pq T pc L (.ref b :: S) := by
  subst hp; exact OG.st (fun t q => XS.ifnullNo P.here P.ex rfl hd rfl q) k
theorem o_ifnonnullY (P : OPn p l e R s m args below meth c Z a0 EL n0 W0 own T h Ow cells slots) {o : Int} {b : Addr} (hd : decode c.code pc = .ok (.ifnonnull o, 3)) (ho : 0 ≤ (pc : Int) + o) (hp : ((pc : Int) + o).toNat = pc') (k : OG p e below m Pq T pc' L S) : OG p e below m Pq T pc L (.ref b :: S) :=
  OG.st (fun t q => XS.ifnonnullYes P.here P.ex rfl rfl hd rfl ho hp q) k
theorem o_ifnonnullN (P : OPn p l e R s m args below meth c Z a0 EL n0 W0 own T h Ow cells slots) {o : Int} (hd : decode c.code pc = .ok (.ifnonnull o, 3)) (hp : pc + 3 = pc') (k : OG p e below m Pq T pc' L S) : OG p e below m Pq T pc L (.null :: S) := by
  subst hp; exact OG.st (fun t q => XS.ifnonnullNo P.here P.ex rfl hd rfl q) k
theorem o_acmp (P : OPn p l e R s m args below meth c Z a0 EL n0 W0 own T h Ow cells slots) {cd : ACond} {o : Int} {x y : Value} (same : Bool) (hd : decode c.code pc = .ok (.if_acmp cd o, 3)) (h1 : x.isRef = true) (h2 : y.isRef = true) (hq : decide (x = y) = same) (ho : 0 ≤ (pc : Int) + o) (hp : pc' = if acV cd same = true then ((pc : Int) + o).toNat else pc + 3) (k : OG p e below m Pq T pc' L S) : OG p e below m Pq T pc L (y :: x :: S) := by
  obtain ⟨locs, X, hx, -⟩ := P
  exact OG.st (fun t q => Jvm.RoadKit.acmp X hx rfl h1 h2 rfl hd rfl hq ho hp q) k
/-! objects: class and fields, one fact -/
def OObj (Z : State) (h : Heap) (a : Addr) (C : String) (fs : List (String × String × String × Value)) : Prop :=
  Exa Z h a C ∧ (∀ f ∈ fs, Fld Z h a f.1 f.2.1 f.2.2.1 f.2.2.2) ∧ ∀ (i j : Nat) (f g : String × String × String × Value), i ≠ j → fs[i]? = some f → fs[j]? = some g → Jvm.RoadKit.slotOf Z f.1 f.2.1 f.2.2.1 ≠ Jvm.RoadKit.slotOf Z g.1 g.2.1 g.2.2.1
section OObjs
variable {a b : Addr} {C O nm d : String} {fs : List (String × String × String × Value)} {u v w : Value} {ws : List Addr} {sl : Nat}
theorem OObj.exa (F : OObj Z h a C fs) : Exa Z h a C := F.1
theorem OObj.lt (F : OObj Z h a C fs) : a < h.size := F.1.lt
theorem OObj.keep (F : OObj Z h a C fs) (K : Keep h h' ws) (q : a ∉ ws) : OObj Z h' a C fs := ⟨F.1.keep K, fun f hf => (F.2.1 f hf).keep K q, F.2.2⟩
theorem OObj.oth (F : OObj Z h a C fs) (W : Wr h h' b sl v) (q : a ≠ b) : OObj Z h' a C fs := ⟨F.1.wr W, fun f hf => (F.2.1 f hf).other W (Or.inl q), F.2.2⟩
theorem OObj.fld (F : OObj Z h a C fs) (i : Nat) (hi : fs[i]? = some (O, nm, d, v)) : Fld Z h a O nm d v := F.2.1 _ (List.mem_of_getElem? hi)
theorem OObj.put (F : OObj Z h a C fs) (i : Nat) (hi : fs[i]? = some (O, nm, d, u)) (W : Wr h h' a (Jvm.RoadKit.slotOf Z O nm d) v) : OObj Z h' a C (fs.set i (O, nm, d, v)) := by
  have key : ∀ (j : Nat) (f : String × String × String × Value), (fs.set i (O, nm, d, v))[j]? = some f → (j = i ∧ f = (O, nm, d, v)) ∨ (j ≠ i ∧ fs[j]? = some f) := by
    intro j f hj
    by_cases e : j = i
    · subst e
      have hlt : j < fs.length := (List.getElem?_eq_some_iff.mp hi).1
      rw [List.getElem?_set_self hlt] at hj
      exact Or.inl ⟨rfl, (Option.some.inj hj).symm⟩
    · rw [List.getElem?_set_ne (fun q => e q.symm)] at hj
      exact Or.inr ⟨e, hj⟩
  refine ⟨F.1.wr W, fun f hf => ?_, fun j k f g hjk hj hk => ?_⟩
  · obtain ⟨j, hj⟩ := List.getElem?_of_mem hf
    rcases key j f hj with ⟨rfl, rfl⟩ | ⟨hne, hj'⟩
    · exact (F.fld j hi).same W
    · exact (F.2.1 f (List.mem_of_getElem? hj')).other W (Or.inr (F.2.2 j i f (O, nm, d, u) hne hj' hi))
  · rcases key j f hj with ⟨rfl, rfl⟩ | ⟨hne, hj'⟩ <;> rcases key k g hk with ⟨rfl, rfl⟩ | ⟨hne', hk'⟩
    · exact absurd rfl hjk
    · exact F.2.2 j k (O, nm, d, u) g hjk hi hk'
    · exact F.2.2 j k f (O, nm, d, u) hjk hj' hi
    · exact F.2.2 j k f g hjk hj' hk'
theorem OObj.new (E : Exa Z h a C) (D : ∀ {O nm d : String} {ty : FieldType}, Laid Z a0 C O nm d → parseFieldDescriptor d = some ty → Fld Z h a O nm d (defaultValue ty)) (hL : ∀ f ∈ fs, Laid Z a0 C f.1 f.2.1 f.2.2.1 ∧ ∃ ty, parseFieldDescriptor f.2.2.1 = some ty ∧ defaultValue ty = f.2.2.2) (nd : (fs.map fun f => f.2.1).Nodup) : OObj Z h a C fs := by
  refine ⟨E, fun f hf => ?_, fun i j f g hij hi hj => ?_⟩
  · obtain ⟨L, ty, h1, h2⟩ := hL f hf
    rw [← h2]; exact D L h1
  · obtain ⟨L1, t1, p1, -⟩ := hL f (List.mem_of_getElem? hi)
    obtain ⟨L2, t2, p2, -⟩ := hL g (List.mem_of_getElem? hj)
    refine slot_ne L1 L2 (fun e => hij ?_) p1 p2
    have hi' : (fs.map fun f => f.2.1)[i]? = some f.2.1 := by rw [List.getElem?_map, hi]; rfl
    have hj' : (fs.map fun f => f.2.1)[j]? = some f.2.1 := by rw [List.getElem?_map, hj, e]; rfl
    obtain ⟨li, ei⟩ := List.getElem?_eq_some_iff.mp hi'
    obtain ⟨lj, ej⟩ := List.getElem?_eq_some_iff.mp hj'
    have np := List.pairwise_iff_getElem.mp nd
    rcases Nat.lt_trichotomy i j with q | q | q
    · exact absurd (ei.trans ej.symm) (np i j li lj q)
    · exact q
    · exact absurd (ej.trans ei.symm) (np j i lj li q)
end OObjs
/-- every field of the list is laid, with its first value -/
def OLd (Z : State) (a0 : Array Value) (C : String) (fs : List (String × String × String × Value)) : Prop := ∀ f ∈ fs, Laid Z a0 C f.1 f.2.1 f.2.2.1 ∧ ∃ ty, parseFieldDescriptor f.2.2.1 = some ty ∧ defaultValue ty = f.2.2.2
theorem OLd.nil {C : String} : OLd Z a0 C [] := fun _ q => nomatch q
theorem OLd.cons {C O nm d : String} {v : Value} {ty : FieldType} {fs : List (String × String × String × Value)} (L : Laid Z a0 C O nm d) (h1 : parseFieldDescriptor d = some ty) (h2 : defaultValue ty = v) (r : OLd Z a0 C fs) : OLd Z a0 C ((O, nm, d, v) :: fs) := fun f hf => by
  rcases List.mem_cons.mp hf with rfl | hf
  · exact ⟨L, ty, h1, h2⟩
  · exact r f hf
/-! arrays: the whole content, one fact -/
def OArr (Z : State) (h : Heap) (a : Addr) (ty : FieldType) (vs : List Value) : Prop :=
  ∃ c : Cell, Arr Z h a c ty ∧ c.slots = vs.toArray ∧ vs.length < 2147483648 ∧ ∀ v ∈ vs, fits ty v = true
section OArrs
variable {a b : Addr} {ty : FieldType} {vs : List Value} {u v w : Value} {ws : List Addr} {sl : Nat} {j z : Int32} {k : ClassId} {dv : Value}
theorem OArr.eq {vs' : List Value} (F : OArr Z h a ty vs) (e : vs = vs') : OArr Z h a ty vs' := e ▸ F
theorem OArr.lt (F : OArr Z h a ty vs) : a < h.size := by obtain ⟨c, A, -⟩ := F; exact A.lt
theorem OArr.len (F : OArr Z h a ty vs) : vs.length < 2147483648 := by obtain ⟨c, -, -, q, -⟩ := F; exact q
theorem OArr.keep (F : OArr Z h a ty vs) (K : Keep h h' ws) (q : a ∉ ws) : OArr Z h' a ty vs := by obtain ⟨c, A, r⟩ := F; exact ⟨c, ⟨K.2.1 a c A.1 q, A.2⟩, r⟩
theorem OArr.oth (F : OArr Z h a ty vs) (W : Wr h h' b sl v) (q : a ≠ b) : OArr Z h' a ty vs := by obtain ⟨c, A, r⟩ := F; exact ⟨c, A.other W q, r⟩
theorem OArr.set (F : OArr Z h a ty vs) (W : Wr h h' a sl v) (hv : fits ty v = true) : OArr Z h' a ty (vs.set sl v) := by
  obtain ⟨c, A, e, n, q⟩ := F
  refine ⟨c.setSlot sl v, A.same W, by simp [Cell.setSlot, e], by rw [List.length_set]; exact n, fun x hx => ?_⟩
  rcases List.mem_or_eq_of_mem_set hx with hx | rfl
  · exact q x hx
  · exact hv
theorem OArr.ofArv (F : Arv Z h a k ty z vs dv) (hl : vs.length = z.toNatClampNeg) : OArr Z h a ty vs := by
  obtain ⟨c, A, -, S, q, H, G⟩ := F
  refine ⟨c, A, ?_, by rw [hl]; exact (back32 q).2, fun v hv => ?_⟩
  · apply Array.ext_getElem?
    intro i
    by_cases hi : i < c.slots.size
    · rw [H i hi]
      have hi' : i < vs.length := by rw [hl, ← S]; exact hi
      simp [hi']
    · rw [Array.getElem?_eq_none (by omega)]
      have hi' : ¬ i < vs.length := by rw [hl, ← S]; exact hi
      simp; omega
  · obtain ⟨i, hi⟩ := List.getElem?_of_mem hv
    obtain ⟨hi1, hi2⟩ := List.getElem?_eq_some_iff.mp hi
    have := G i (by rw [S, ← hl]; exact hi1)
    simpa [hi1, hi2] using this
theorem OArr.toArv (F : OArr Z h a ty vs) (hz : ¬ z < 0) (hl : z.toNatClampNeg = vs.length) : ∃ k, Arv Z h a k ty z vs dv := by
  obtain ⟨c, A, e, n, q⟩ := F
  refine ⟨c.cls, c, A, rfl, by rw [e, hl]; simp, hz, fun i hi => ?_, fun i hi => ?_⟩
  · rw [e] at hi ⊢
    have hi' : i < vs.length := by simpa using hi
    simp [hi']
  · rw [e] at hi
    have hi' : i < vs.length := by simpa using hi
    have := q vs[i] (List.getElem_mem hi')
    simpa [hi'] using this
theorem OArr.size (F : OArr Z h a ty vs) {c : Cell} (hc : h[a]? = some c) : c.slots = vs.toArray := by
  obtain ⟨c', A, e, -⟩ := F
  cases hc.symm.trans A.1
  exact e
/-- inside -/
theorem o_in (hj : ¬ j < 0) (hl : j.toNatClampNeg < vs.length) : ¬ (j < 0 ∨ vs.toArray.size ≤ j.toNatClampNeg) := fun q => q.elim hj fun r => by simp at r; omega
end OArrs
/-! fields -/
theorem o_getF (P : OPn p l e R s m args below meth c Z a0 EL n0 W0 own T h Ow cells slots) {R0 O n d : String} {index : Nat} {a : Addr} {v : Value} (w : (Jvm.Cond.fieldLink own index R0 n d).before a0 Z = true) (via : Via Z R0 O n d) (F : Fld Z h a O n d v) (hd : decode c.code pc = .ok (.getfield index, 3)) (hp : pc + 3 = pc')
    (k : ∀ T', OPn p l e R s m args below meth c Z a0 EL n0 W0 own T' h Ow cells slots → OG p e below m Pq T' pc' L (v :: S)) : OG p e below m Pq T pc L (.ref a :: S) := by
  subst hp
  exact P.tab (fun locs X hZ hown eT hx => getF (host := "") X hx hZ hown (Or.inl w) via eT F (g := mkF m pc L (.ref a :: S)) rfl rfl hd) k
theorem o_getFN (P : OPn p l e R s m args below meth c Z a0 EL n0 W0 own T h Ow cells slots) {R0 O n d host : String} {index : Nat} {a : Addr} {v : Value} (w : (Jvm.Cond.fieldLinkNest own index R0 n d host).before a0 Z = true) (via : Via Z R0 O n d) (F : Fld Z h a O n d v) (hd : decode c.code pc = .ok (.getfield index, 3)) (hp : pc + 3 = pc')
    (k : ∀ T', OPn p l e R s m args below meth c Z a0 EL n0 W0 own T' h Ow cells slots → OG p e below m Pq T' pc' L (v :: S)) : OG p e below m Pq T pc L (.ref a :: S) := by
  subst hp
  exact P.tab (fun locs X hZ hown eT hx => getF (host := host) X hx hZ hown (Or.inr w) via eT F (g := mkF m pc L (.ref a :: S)) rfl rfl hd) k
theorem o_getS (P : OPn p l e R s m args below meth c Z a0 EL n0 W0 own T h Ow cells slots) {R0 O n d : String} {index : Nat} {v : Value} (w : (Jvm.Cond.fieldLink own index R0 n d).before a0 Z = true) (via : Via Z R0 O n d) (F : Sta Z Z.heap O n d v) (hd : decode c.code pc = .ok (.getstatic index, 3)) (hp : pc + 3 = pc')
    (k : ∀ T', OPn p l e R s m args below meth c Z a0 EL n0 W0 own T' h Ow cells slots → OG p e below m Pq T' pc' L (v :: S)) : OG p e below m Pq T pc L S := by
  subst hp
  have O := P.old
  exact P.tab (fun locs X hZ hown eT hx => getS2 (host := "") X hx hZ hown (Or.inl w) via eT (F.ext O.2) (g := mkF m pc L S) rfl hd) k
theorem o_getSN (P : OPn p l e R s m args below meth c Z a0 EL n0 W0 own T h Ow cells slots) {R0 O n d host : String} {index : Nat} {v : Value} (w : (Jvm.Cond.fieldLinkNest own index R0 n d host).before a0 Z = true) (via : Via Z R0 O n d) (F : Sta Z Z.heap O n d v) (hd : decode c.code pc = .ok (.getstatic index, 3)) (hp : pc + 3 = pc')
    (k : ∀ T', OPn p l e R s m args below meth c Z a0 EL n0 W0 own T' h Ow cells slots → OG p e below m Pq T' pc' L (v :: S)) : OG p e below m Pq T pc L S := by
  subst hp
  have O := P.old
  exact P.tab (fun locs X hZ hown eT hx => getS2 (host := host) X hx hZ hown (Or.inr w) via eT (F.ext O.2) (g := mkF m pc L S) rfl hd) k
theorem o_putF (P : OPn p l e R s m args below meth c Z a0 EL n0 W0 own T h Ow cells slots) {R0 O n d C : String} {index kk : Nat} {a : Addr} {v v' old : Value} {ty : FieldType} (w : (Jvm.Cond.fieldLink own index R0 n d).before a0 Z = true) (via : Via Z R0 O n d) (F : Fld Z h a O n d old) (E : Exa Z h a C) (Lw : (Jvm.Cond.lays C O n d).before a0 Z = true ∨ ((Jvm.Cond.laysFinal C O n d).before a0 Z = true ∧ own = O ∧ meth.name = "<init>")) (wi : (Jvm.Cond.instantiable C kk).before a0 Z = true) (hty : parseFieldDescriptor d = some ty) (hn : narrow ty v = v') (hf : fits ty v' = true) (ha : a ∈ Ow) (hd : decode c.code pc = .ok (.putfield index, 3)) (hp : pc + 3 = pc')
    (k : ∀ T' h', OPn p l e R s m args below meth c Z a0 EL n0 W0 own T' h' Ow cells slots → Wr h h' a (Jvm.RoadKit.slotOf Z O n d) v' → OG p e below m Pq T' pc' L S) : OG p e below m Pq T pc L (v :: .ref a :: S) := by
  subst hp
  exact P.wr ha (fun locs X hZ hown eT hx => putFN X hx hZ hown w via eT F E Lw wi hty hn hf (g := mkF m pc L (v :: .ref a :: S)) rfl rfl hd) k
/-! new objects and arrays -/
theorem o_new (P : OPn p l e R s m args below meth c Z a0 EL n0 W0 own T h Ow cells slots) {C : String} {index n : Nat} (fs : List (String × String × String × Value)) (w : (Jvm.Cond.classLink own index C).before a0 Z = true) (wi : (Jvm.Cond.instantiable C n).before a0 Z = true) (wz : (Jvm.Cond.initialized C).before a0 Z = true) (hL : OLd Z a0 C fs) (nd : (fs.map fun f => f.2.1).Nodup) (hd : decode c.code pc = .ok (.new index, 3)) (hp : pc + 3 = pc') (hc : cells + 1 ≤ R.cells) (hl : slots + n ≤ R.slots)
    (k : ∀ T' h' b, OPn p l e R s m args below meth c Z a0 EL n0 W0 own T' h' (b :: Ow) (cells + 1) (slots + n) → Keep h h' [] → h.size ≤ b → OObj Z h' b C fs → OG p e below m Pq T' pc' L (.ref b :: S)) : OG p e below m Pq T pc L S := by
  subst hp
  refine P.grow (G := fun h' b => OObj Z h' b C fs) (fun locs X hZ hown eT hx => ?_) k
  obtain ⟨T', h', X', e', E', A', D', -, st⟩ := newO X hx hZ hown w wi wz eT (g := mkF m pc L S) rfl hd hc hl
  exact ⟨T', h', X', e', E', A'.lt, OObj.new A' D' hL nd, st⟩
theorem o_newarr (P : OPn p l e R s m args below meth c Z a0 EL n0 W0 own T h Ow cells slots) {aty : ArrayType} {n : Int32} {cap : Nat} (w : (Jvm.Cond.arrayClass (newarray.typeOf aty)).before a0 Z = true) (hd : decode c.code pc = .ok (.newarray aty, 2)) (hn : ¬ n < 0) (hcap : n.toNatClampNeg ≤ cap) (hb : cap * 8 ≤ 536870912) (hp : pc + 2 = pc') (hc : cells + 1 ≤ R.cells) (hl : slots + cap ≤ R.slots)
    (k : ∀ T' h' b, OPn p l e R s m args below meth c Z a0 EL n0 W0 own T' h' (b :: Ow) (cells + 1) (slots + cap) → Keep h h' [] → h.size ≤ b → OArr Z h' b (newarray.typeOf aty) (List.replicate n.toNatClampNeg (defaultValue (newarray.typeOf aty))) → OG p e below m Pq T' pc' L (.ref b :: S)) : OG p e below m Pq T pc L (.int n :: S) := by
  subst hp
  refine P.grow (G := fun h' b => OArr Z h' b (newarray.typeOf aty) (List.replicate n.toNatClampNeg (defaultValue (newarray.typeOf aty)))) (fun locs X hZ hown eT hx => ?_) k
  obtain ⟨T', h', cA, X', e', E', A', st⟩ := newP X hx hZ w eT (g := mkF m pc L (.int n :: S)) rfl hd rfl hn hcap hb hc hl
  refine ⟨T', h', X', e', E', A'.lt, ⟨_, A', by simp [newA], by simpa using (back32 hn).2, fun v hv => ?_⟩, st⟩
  rw [List.eq_of_mem_replicate hv]; cases (newarray.typeOf aty) <;> rfl
theorem o_anewarr (P : OPn p l e R s m args below meth c Z a0 EL n0 W0 own T h Ow cells slots) {C : String} {index : Nat} {n : Int32} {cap : Nat} (w1 : (Jvm.Cond.classLink own index C).before a0 Z = true) (w2 : (Jvm.Cond.arrayOver (.object C)).before a0 Z = true) (hd : decode c.code pc = .ok (.anewarray index, 3)) (hn : ¬ n < 0) (hcap : n.toNatClampNeg ≤ cap) (hb : cap * 8 ≤ 536870912) (hp : pc + 3 = pc') (hc : cells + 1 ≤ R.cells) (hl : slots + cap ≤ R.slots)
    (k : ∀ T' h' b, OPn p l e R s m args below meth c Z a0 EL n0 W0 own T' h' (b :: Ow) (cells + 1) (slots + cap) → Keep h h' [] → h.size ≤ b → OArr Z h' b (.object C) (List.replicate n.toNatClampNeg .null) → (∃ cell : Cell, h'[b]? = some cell ∧ Ovr Z cell.cls C) → OG p e below m Pq T' pc' L (.ref b :: S)) : OG p e below m Pq T pc L (.int n :: S) := by
  subst hp
  refine P.grow (G := fun h' b => OArr Z h' b (.object C) (List.replicate n.toNatClampNeg .null) ∧ ∃ cell : Cell, h'[b]? = some cell ∧ Ovr Z cell.cls C) (fun locs X hZ hown eT hx => ?_) fun T' h' b P' K hb' q => k T' h' b P' K hb' q.1 q.2
  obtain ⟨T', h', cA, X', e', E', A', O', st⟩ := newR X hx hZ hown w1 w2 eT (g := mkF m pc L (.int n :: S)) rfl hd rfl hn hcap hb hc hl
  refine ⟨T', h', X', e', E', A'.lt, ⟨⟨_, A', by simp [newA, defaultValue], by simpa using (back32 hn).2, fun v hv => ?_⟩, _, A'.1, O'⟩, st⟩
  rw [List.eq_of_mem_replicate hv]; rfl
/-! components -/
theorem o_arrlen (P : OPn p l e R s m args below meth c Z a0 EL n0 W0 own T h Ow cells slots) {a : Addr} {ty : FieldType} {vs : List Value} {n : Int32} (A : OArr Z h a ty vs) (hd : decode c.code pc = .ok (.arraylength, 1)) (hn : vs.length.toInt32 = n) (hp : pc + 1 = pc') (k : OG p e below m Pq T pc' L (.int n :: S)) : OG p e below m Pq T pc L (.ref a :: S) := by
  subst hp hn
  obtain ⟨locs, X, hx, hlk, hS, hZ, hown, eT, r⟩ := P
  obtain ⟨cl, Ar, e1, -⟩ := A
  have st := X.arraylength hx (by rw [eT]; exact Ar.1) (State.isArrayOf_alike hZ.alike Ar.2.1) (g := mkF m pc L (.ref a :: S)) rfl rfl hd
  rw [e1] at st
  exact OG.st (fun t q => st t (by simpa using q)) k
theorem o_iaload (P : OPn p l e R s m args below meth c Z a0 EL n0 W0 own T h Ow cells slots) {a : Addr} {vs : List Value} {j : Int32} {v : Value} (A : OArr Z h a .int vs) (hj : ¬ j < 0) (hv : vs[j.toNatClampNeg]? = some v) (hd : decode c.code pc = .ok (.iaload, 1)) (hp : pc + 1 = pc') (k : OG p e below m Pq T pc' L (v :: S)) : OG p e below m Pq T pc L (.int j :: .ref a :: S) := by
  subst hp
  obtain ⟨locs, X, hx, hlk, hS, hZ, hown, eT, r⟩ := P
  obtain ⟨cl, Ar, e1, -⟩ := A
  have hlt : j.toNatClampNeg < vs.length := (List.getElem?_eq_some_iff.mp hv).1
  exact OG.st (fun t q => X.iaload hx (by rw [eT]; exact Ar.1) (State.isArrayOf_alike hZ.alike Ar.2.1) Ar.2.2 (by rw [e1]; exact o_in hj hlt) (by rw [e1]; simpa using hv) (g := mkF m pc L (.int j :: .ref a :: S)) rfl rfl hd t q) k
theorem o_laload (P : OPn p l e R s m args below meth c Z a0 EL n0 W0 own T h Ow cells slots) {a : Addr} {vs : List Value} {j : Int32} {v : Value} (A : OArr Z h a .long vs) (hj : ¬ j < 0) (hv : vs[j.toNatClampNeg]? = some v) (hd : decode c.code pc = .ok (.laload, 1)) (hp : pc + 1 = pc') (k : OG p e below m Pq T pc' L (v :: S)) : OG p e below m Pq T pc L (.int j :: .ref a :: S) := by
  subst hp
  obtain ⟨locs, X, hx, hlk, hS, hZ, hown, eT, r⟩ := P
  obtain ⟨cl, Ar, e1, -⟩ := A
  have hlt : j.toNatClampNeg < vs.length := (List.getElem?_eq_some_iff.mp hv).1
  exact OG.st (fun t q => X.laload hx (by rw [eT]; exact Ar.1) (State.isArrayOf_alike hZ.alike Ar.2.1) Ar.2.2 (by rw [e1]; exact o_in hj hlt) (by rw [e1]; simpa using hv) (g := mkF m pc L (.int j :: .ref a :: S)) rfl rfl hd t q) k
theorem o_caload (P : OPn p l e R s m args below meth c Z a0 EL n0 W0 own T h Ow cells slots) {a : Addr} {vs : List Value} {j : Int32} {v : Value} (A : OArr Z h a .char vs) (hj : ¬ j < 0) (hv : vs[j.toNatClampNeg]? = some v) (hd : decode c.code pc = .ok (.caload, 1)) (hp : pc + 1 = pc') (k : OG p e below m Pq T pc' L (v :: S)) : OG p e below m Pq T pc L (.int j :: .ref a :: S) := by
  subst hp
  obtain ⟨locs, X, hx, hlk, hS, hZ, hown, eT, r⟩ := P
  obtain ⟨cl, Ar, e1, -⟩ := A
  have hlt : j.toNatClampNeg < vs.length := (List.getElem?_eq_some_iff.mp hv).1
  exact OG.st (fun t q => X.caload hx (by rw [eT]; exact Ar.1) (State.isArrayOf_alike hZ.alike Ar.2.1) Ar.2.2 (by rw [e1]; exact o_in hj hlt) (by rw [e1]; simpa using hv) (g := mkF m pc L (.int j :: .ref a :: S)) rfl rfl hd t q) k
theorem o_baload (P : OPn p l e R s m args below meth c Z a0 EL n0 W0 own T h Ow cells slots) {a : Addr} {vs : List Value} {j : Int32} {v : Value} (A : OArr Z h a .byte vs) (hj : ¬ j < 0) (hv : vs[j.toNatClampNeg]? = some v) (hd : decode c.code pc = .ok (.baload, 1)) (hp : pc + 1 = pc') (k : OG p e below m Pq T pc' L (v :: S)) : OG p e below m Pq T pc L (.int j :: .ref a :: S) := by
  subst hp
  obtain ⟨locs, X, hx, hlk, hS, hZ, hown, eT, r⟩ := P
  obtain ⟨cl, Ar, e1, -⟩ := A
  have hlt : j.toNatClampNeg < vs.length := (List.getElem?_eq_some_iff.mp hv).1
  exact OG.st (fun t q => X.baloadBytes hx (by rw [eT]; exact Ar.1) (State.isArrayOf_alike hZ.alike Ar.2.1) Ar.2.2 (by rw [e1]; exact o_in hj hlt) (by rw [e1]; simpa using hv) (g := mkF m pc L (.int j :: .ref a :: S)) rfl rfl hd t q) k
theorem o_zaload (P : OPn p l e R s m args below meth c Z a0 EL n0 W0 own T h Ow cells slots) {a : Addr} {vs : List Value} {j : Int32} {v : Value} (A : OArr Z h a .boolean vs) (hj : ¬ j < 0) (hv : vs[j.toNatClampNeg]? = some v) (hd : decode c.code pc = .ok (.baload, 1)) (hp : pc + 1 = pc') (k : OG p e below m Pq T pc' L (v :: S)) : OG p e below m Pq T pc L (.int j :: .ref a :: S) := by
  subst hp
  obtain ⟨locs, X, hx, hlk, hS, hZ, hown, eT, r⟩ := P
  obtain ⟨cl, Ar, e1, -⟩ := A
  have hlt : j.toNatClampNeg < vs.length := (List.getElem?_eq_some_iff.mp hv).1
  exact OG.st (fun t q => X.baloadBooleans hx (by rw [eT]; exact Ar.1) (State.isArrayOf_alike hZ.alike Ar.2.1) Ar.2.2 (by rw [e1]; exact o_in hj hlt) (by rw [e1]; simpa using hv) (g := mkF m pc L (.int j :: .ref a :: S)) rfl rfl hd t q) k
theorem o_daload (P : OPn p l e R s m args below meth c Z a0 EL n0 W0 own T h Ow cells slots) {a : Addr} {vs : List Value} {j : Int32} {v : Value} (A : OArr Z h a .double vs) (hj : ¬ j < 0) (hv : vs[j.toNatClampNeg]? = some v) (hd : decode c.code pc = .ok (.daload, 1)) (hp : pc + 1 = pc') (k : OG p e below m Pq T pc' L (v :: S)) : OG p e below m Pq T pc L (.int j :: .ref a :: S) := by
  subst hp
  obtain ⟨locs, X, hx, hlk, hS, hZ, hown, eT, r⟩ := P
  obtain ⟨cl, Ar, e1, -⟩ := A
  have hlt : j.toNatClampNeg < vs.length := (List.getElem?_eq_some_iff.mp hv).1
  exact OG.st (fun t q => X.daload hx (by rw [eT]; exact Ar.1) (State.isArrayOf_alike hZ.alike Ar.2.1) Ar.2.2 (by rw [e1]; exact o_in hj hlt) (by rw [e1]; simpa using hv) (g := mkF m pc L (.int j :: .ref a :: S)) rfl rfl hd t q) k
theorem o_saload (P : OPn p l e R s m args below meth c Z a0 EL n0 W0 own T h Ow cells slots) {a : Addr} {vs : List Value} {j : Int32} {v : Value} (A : OArr Z h a .short vs) (hj : ¬ j < 0) (hv : vs[j.toNatClampNeg]? = some v) (hd : decode c.code pc = .ok (.saload, 1)) (hp : pc + 1 = pc') (k : OG p e below m Pq T pc' L (v :: S)) : OG p e below m Pq T pc L (.int j :: .ref a :: S) := by
  subst hp
  obtain ⟨locs, X, hx, hlk, hS, hZ, hown, eT, r⟩ := P
  obtain ⟨cl, Ar, e1, -⟩ := A
  have hlt : j.toNatClampNeg < vs.length := (List.getElem?_eq_some_iff.mp hv).1
  exact OG.st (fun t q => X.saload hx (by rw [eT]; exact Ar.1) (State.isArrayOf_alike hZ.alike Ar.2.1) Ar.2.2 (by rw [e1]; exact o_in hj hlt) (by rw [e1]; simpa using hv) (g := mkF m pc L (.int j :: .ref a :: S)) rfl rfl hd t q) k
theorem o_aaload (P : OPn p l e R s m args below meth c Z a0 EL n0 W0 own T h Ow cells slots) {a : Addr} {ty : FieldType} {vs : List Value} {j : Int32} {v : Value} (A : OArr Z h a ty vs) (hty : ty.isReference = true) (hj : ¬ j < 0) (hv : vs[j.toNatClampNeg]? = some v) (hd : decode c.code pc = .ok (.aaload, 1)) (hp : pc + 1 = pc') (k : OG p e below m Pq T pc' L (v :: S)) : OG p e below m Pq T pc L (.int j :: .ref a :: S) := by
  subst hp
  obtain ⟨locs, X, hx, hlk, hS, hZ, hown, eT, r⟩ := P
  obtain ⟨cl, Ar, e1, -⟩ := A
  have hlt : j.toNatClampNeg < vs.length := (List.getElem?_eq_some_iff.mp hv).1
  exact OG.st (fun t q => X.aaload hx (by rw [eT]; exact Ar.1) (State.isArrayOf_alike hZ.alike Ar.2.1) hty Ar.2.2 (by rw [e1]; exact o_in hj hlt) (by rw [e1]; simpa using hv) (g := mkF m pc L (.int j :: .ref a :: S)) rfl rfl hd t q) k
theorem o_iastore (P : OPn p l e R s m args below meth c Z a0 EL n0 W0 own T h Ow cells slots) {a : Addr} {vs : List Value} {j : Int32} {x : Int32} {v : Value} (A : OArr Z h a .int vs) (ha : a ∈ Ow) (hj : ¬ j < 0) (hlt : j.toNatClampNeg < vs.length) (hv : Value.int x = v) (hd : decode c.code pc = .ok (.iastore, 1)) (hp : pc + 1 = pc')
    (k : ∀ T' h', OPn p l e R s m args below meth c Z a0 EL n0 W0 own T' h' Ow cells slots → Wr h h' a j.toNatClampNeg v → OArr Z h' a .int (vs.set j.toNatClampNeg v) → OG p e below m Pq T' pc' L S) : OG p e below m Pq T pc L (.int x :: .int j :: .ref a :: S) := by
  subst hp hv
  obtain ⟨cl, Ar, e1, e2⟩ := id A
  exact P.wr ha (fun locs X hZ hown eT hx => stI X hx hZ eT Ar (by rw [e1]; exact o_in hj hlt) (g := mkF m pc L (.int x :: .int j :: .ref a :: S)) rfl rfl hd) fun T' h' P' W' => k T' h' P' W' (A.set W' rfl)
theorem o_lastore (P : OPn p l e R s m args below meth c Z a0 EL n0 W0 own T h Ow cells slots) {a : Addr} {vs : List Value} {j : Int32} {x : Int64} {v : Value} (A : OArr Z h a .long vs) (ha : a ∈ Ow) (hj : ¬ j < 0) (hlt : j.toNatClampNeg < vs.length) (hv : Value.long x = v) (hd : decode c.code pc = .ok (.lastore, 1)) (hp : pc + 1 = pc')
    (k : ∀ T' h', OPn p l e R s m args below meth c Z a0 EL n0 W0 own T' h' Ow cells slots → Wr h h' a j.toNatClampNeg v → OArr Z h' a .long (vs.set j.toNatClampNeg v) → OG p e below m Pq T' pc' L S) : OG p e below m Pq T pc L (.long x :: .int j :: .ref a :: S) := by
  subst hp hv
  obtain ⟨cl, Ar, e1, e2⟩ := id A
  exact P.wr ha (fun locs X hZ hown eT hx => stJ X hx hZ eT Ar (by rw [e1]; exact o_in hj hlt) (g := mkF m pc L (.long x :: .int j :: .ref a :: S)) rfl rfl hd) fun T' h' P' W' => k T' h' P' W' (A.set W' rfl)
theorem o_castore (P : OPn p l e R s m args below meth c Z a0 EL n0 W0 own T h Ow cells slots) {a : Addr} {vs : List Value} {j : Int32} {x : Int32} {v : Value} (A : OArr Z h a .char vs) (ha : a ∈ Ow) (hj : ¬ j < 0) (hlt : j.toNatClampNeg < vs.length) (hv : Value.int (nar .char x) = v) (hd : decode c.code pc = .ok (.castore, 1)) (hp : pc + 1 = pc')
    (k : ∀ T' h', OPn p l e R s m args below meth c Z a0 EL n0 W0 own T' h' Ow cells slots → Wr h h' a j.toNatClampNeg v → OArr Z h' a .char (vs.set j.toNatClampNeg v) → OG p e below m Pq T' pc' L S) : OG p e below m Pq T pc L (.int x :: .int j :: .ref a :: S) := by
  subst hp hv
  obtain ⟨cl, Ar, e1, e2⟩ := id A
  exact P.wr ha (fun locs X hZ hown eT hx => stC X hx hZ eT Ar (by rw [e1]; exact o_in hj hlt) (g := mkF m pc L (.int x :: .int j :: .ref a :: S)) rfl rfl hd) fun T' h' P' W' => k T' h' P' W' (A.set W' (fits_nar_char _))
theorem o_bastore (P : OPn p l e R s m args below meth c Z a0 EL n0 W0 own T h Ow cells slots) {a : Addr} {vs : List Value} {j : Int32} {x : Int32} {v : Value} (A : OArr Z h a .byte vs) (ha : a ∈ Ow) (hj : ¬ j < 0) (hlt : j.toNatClampNeg < vs.length) (hv : Value.int (nar .byte x) = v) (hd : decode c.code pc = .ok (.bastore, 1)) (hp : pc + 1 = pc')
    (k : ∀ T' h', OPn p l e R s m args below meth c Z a0 EL n0 W0 own T' h' Ow cells slots → Wr h h' a j.toNatClampNeg v → OArr Z h' a .byte (vs.set j.toNatClampNeg v) → OG p e below m Pq T' pc' L S) : OG p e below m Pq T pc L (.int x :: .int j :: .ref a :: S) := by
  subst hp hv
  obtain ⟨cl, Ar, e1, e2⟩ := id A
  exact P.wr ha (fun locs X hZ hown eT hx => stB X hx hZ eT Ar (by rw [e1]; exact o_in hj hlt) (g := mkF m pc L (.int x :: .int j :: .ref a :: S)) rfl rfl hd) fun T' h' P' W' => k T' h' P' W' (A.set W' (fits_nar_byte _))
theorem o_zastore (P : OPn p l e R s m args below meth c Z a0 EL n0 W0 own T h Ow cells slots) {a : Addr} {vs : List Value} {j : Int32} {x : Int32} {v : Value} (A : OArr Z h a .boolean vs) (ha : a ∈ Ow) (hj : ¬ j < 0) (hlt : j.toNatClampNeg < vs.length) (hv : Value.int (nar .boolean x) = v) (hd : decode c.code pc = .ok (.bastore, 1)) (hp : pc + 1 = pc')
    (k : ∀ T' h', OPn p l e R s m args below meth c Z a0 EL n0 W0 own T' h' Ow cells slots → Wr h h' a j.toNatClampNeg v → OArr Z h' a .boolean (vs.set j.toNatClampNeg v) → OG p e below m Pq T' pc' L S) : OG p e below m Pq T pc L (.int x :: .int j :: .ref a :: S) := by
  subst hp hv
  obtain ⟨cl, Ar, e1, e2⟩ := id A
  exact P.wr ha (fun locs X hZ hown eT hx => stZ X hx hZ eT Ar (by rw [e1]; exact o_in hj hlt) (g := mkF m pc L (.int x :: .int j :: .ref a :: S)) rfl rfl hd) fun T' h' P' W' => k T' h' P' W' (A.set W' (fits_nar_bool _))
theorem o_dastore (P : OPn p l e R s m args below meth c Z a0 EL n0 W0 own T h Ow cells slots) {a : Addr} {vs : List Value} {j : Int32} {x : UInt64} {v : Value} (A : OArr Z h a .double vs) (ha : a ∈ Ow) (hj : ¬ j < 0) (hlt : j.toNatClampNeg < vs.length) (hv : Value.double x = v) (hd : decode c.code pc = .ok (.dastore, 1)) (hp : pc + 1 = pc')
    (k : ∀ T' h', OPn p l e R s m args below meth c Z a0 EL n0 W0 own T' h' Ow cells slots → Wr h h' a j.toNatClampNeg v → OArr Z h' a .double (vs.set j.toNatClampNeg v) → OG p e below m Pq T' pc' L S) : OG p e below m Pq T pc L (.double x :: .int j :: .ref a :: S) := by
  subst hp hv
  obtain ⟨cl, Ar, e1, e2⟩ := id A
  exact P.wr ha (fun locs X hZ hown eT hx => stD X hx hZ eT Ar (by rw [e1]; exact o_in hj hlt) (g := mkF m pc L (.double x :: .int j :: .ref a :: S)) rfl rfl hd) fun T' h' P' W' => k T' h' P' W' (A.set W' rfl)
theorem o_aastore (P : OPn p l e R s m args below meth c Z a0 EL n0 W0 own T h Ow cells slots) {a : Addr} {ty : FieldType} {vs : List Value} {j : Int32} {v : Value} (A : OArr Z h a ty vs) (ha : a ∈ Ow) (hty : ty.isReference = true) (F : Sto Z h a v) (hfit : fits ty v = true) (hj : ¬ j < 0) (hlt : j.toNatClampNeg < vs.length) (hd : decode c.code pc = .ok (.aastore, 1)) (hp : pc + 1 = pc')
    (k : ∀ T' h', OPn p l e R s m args below meth c Z a0 EL n0 W0 own T' h' Ow cells slots → Wr h h' a j.toNatClampNeg v → OArr Z h' a ty (vs.set j.toNatClampNeg v) → OG p e below m Pq T' pc' L S) : OG p e below m Pq T pc L (v :: .int j :: .ref a :: S) := by
  subst hp
  obtain ⟨cl, Ar, e1, e2⟩ := id A
  exact P.wr ha (fun locs X hZ hown eT hx => stR X hx hZ eT Ar (by rw [e1]; exact o_in hj hlt) hty F (g := mkF m pc L (v :: .int j :: .ref a :: S)) rfl rfl hd) fun T' h' P' W' => k T' h' P' W' (A.set W' hfit)
theorem o_cast (P : OPn p l e R s m args below meth c Z a0 EL n0 W0 own T h Ow cells slots) {K : String} {index : Nat} {a : Addr} (w : (Jvm.Cond.classLink own index K).before a0 Z = true) (F : Ins Z h a K true) (hd : decode c.code pc = .ok (.checkcast index, 3)) (hp : pc + 3 = pc') (k : ∀ T', OPn p l e R s m args below meth c Z a0 EL n0 W0 own T' h Ow cells slots → OG p e below m Pq T' pc' L (.ref a :: S)) : OG p e below m Pq T pc L (.ref a :: S) := by
  subst hp
  exact P.tab (fun locs X hZ hown eT hx => castY X hx hZ hown w eT F (g := mkF m pc L (.ref a :: S)) rfl rfl hd) k
theorem o_instY (P : OPn p l e R s m args below meth c Z a0 EL n0 W0 own T h Ow cells slots) {K : String} {index : Nat} {a : Addr} (w : (Jvm.Cond.classLink own index K).before a0 Z = true) (F : Ins Z h a K true) (hd : decode c.code pc = .ok (.instanceof index, 3)) (hp : pc + 3 = pc') (k : ∀ T', OPn p l e R s m args below meth c Z a0 EL n0 W0 own T' h Ow cells slots → OG p e below m Pq T' pc' L (.int 1 :: S)) : OG p e below m Pq T pc L (.ref a :: S) := by
  subst hp
  exact P.tab (fun locs X hZ hown eT hx => instY X hx hZ hown w eT F (g := mkF m pc L (.ref a :: S)) rfl rfl hd) k
theorem o_instN (P : OPn p l e R s m args below meth c Z a0 EL n0 W0 own T h Ow cells slots) {K C : String} {index : Nat} {a : Addr} (w : (Jvm.Cond.classLink own index K).before a0 Z = true) (E : Exa Z h a C) (F : ∃ c t, Z.vm.findClass C = some c ∧ Z.vm.findClass K = some t ∧ Z.vm.assignable c t = false) (hd : decode c.code pc = .ok (.instanceof index, 3)) (hp : pc + 3 = pc') (k : ∀ T', OPn p l e R s m args below meth c Z a0 EL n0 W0 own T' h Ow cells slots → OG p e below m Pq T' pc' L (.int 0 :: S)) : OG p e below m Pq T pc L (.ref a :: S) := by
  subst hp
  exact P.tab (fun locs X hZ hown eT hx => instNo X hx hZ hown w eT E F (g := mkF m pc L (.ref a :: S)) rfl rfl hd) k
theorem o_castNull (P : OPn p l e R s m args below meth c Z a0 EL n0 W0 own T h Ow cells slots) {index : Nat} (hd : decode c.code pc = .ok (.checkcast index, 3)) (hp : pc + 3 = pc') (k : OG p e below m Pq T pc' L (.null :: S)) : OG p e below m Pq T pc L (.null :: S) := by
  subst hp
  obtain ⟨locs, X, hx, -⟩ := P
  exact OG.st (fun t q => X.checkcastNull hx (g := mkF m pc L (.null :: S)) rfl rfl hd t q) k
theorem o_instNull (P : OPn p l e R s m args below meth c Z a0 EL n0 W0 own T h Ow cells slots) {index : Nat} (hd : decode c.code pc = .ok (.instanceof index, 3)) (hp : pc + 3 = pc') (k : OG p e below m Pq T pc' L (.int 0 :: S)) : OG p e below m Pq T pc L (.null :: S) := by
  subst hp
  obtain ⟨locs, X, hx, -⟩ := P
  exact OG.st (fun t q => X.instanceofNull hx (g := mkF m pc L (.null :: S)) rfl rfl hd t q) k
theorem o_ldcI (P : OPn p l e R s m args below meth c Z a0 EL n0 W0 own T h Ow cells slots) {index : Nat} {v : Int32} (w : (Jvm.Cond.constant own index v).before a0 Z = true) (hd : decode c.code pc = .ok (.ldc index, 2)) (hp : pc + 2 = pc') (k : OG p e below m Pq T pc' L (.int v :: S)) : OG p e below m Pq T pc L S := by
  subst hp
  obtain ⟨locs, X, hx, hlk, hS, hZ, hown, eT, r⟩ := P
  exact OG.st (fun t q => X.ldcInt hx hown (mvT (s := s.setVm T.vm) hZ w) (g := mkF m pc L S) rfl hd t q) k
theorem o_ldc2L (P : OPn p l e R s m args below meth c Z a0 EL n0 W0 own T h Ow cells slots) {index : Nat} {v : Int64} (w : (Jvm.Cond.constantLong own index v).before a0 Z = true) (hd : decode c.code pc = .ok (.ldc2_w index, 3)) (hp : pc + 3 = pc') (k : OG p e below m Pq T pc' L (.long v :: S)) : OG p e below m Pq T pc L S := by
  subst hp
  obtain ⟨locs, X, hx, hlk, hS, hZ, hown, eT, r⟩ := P
  exact OG.st (fun t q => X.ldc2Long hx hown (mvT (s := s.setVm T.vm) hZ w) (g := mkF m pc L S) rfl hd t q) k
/-- what is known of a String of known bytes (Latin-1) -/
def OStr (Z : State) (h : Heap) (a b : Addr) (vs : List Value) : Prop := OObj Z h a "java/lang/String" [("java/lang/String", "value", "[B", .ref b), ("java/lang/String", "coder", "B", .int 0)] ∧ OArr Z h b .byte vs
theorem OStr.keep {a b : Addr} {vs : List Value} {ws : List Addr} (F : OStr Z h a b vs) (K : Keep h h' ws) (q : a ∉ ws) (r : b ∉ ws) : OStr Z h' a b vs := ⟨F.1.keep K q, F.2.keep K r⟩
theorem o_ldcS (P : OPn p l e R s m args below meth c Z a0 EL n0 W0 own T h Ow cells slots) {index : Nat} {text : String} {vs : List Value} {n : Nat} (w : (Jvm.Cond.stringLink own index text).before a0 Z = true) (wS : ∀ a ∈ Bundle.stringAtoms, a.before a0 Z = true) (hmem : (own, index) ∈ EL)
    (lv : Laid Z a0 "java/lang/String" "java/lang/String" "value" "[B") (lc : Laid Z a0 "java/lang/String" "java/lang/String" "coder" "B")
    (ht : (∀ c ∈ text.toList, c.toNat < 256) ∧ text.toList.map (fun c => Value.int (Jvm.Lit.byteI c.toNat.toUInt16)) = vs) (z : Int32) (hz : ¬ z < 0) (hl : z.toNatClampNeg = vs.length) (hd : decode c.code pc = .ok (.ldc index, 2)) (hp : pc + 2 = pc') (hn : 4 * text.toList.length ≤ n) (hbig : n ≤ 536870912) (hc : cells + 2 ≤ R.cells) (hs : slots + (n + 4) ≤ R.slots)
    (k : ∀ T' h' a b, OPn p l e R s m args below meth c Z a0 EL n0 W0 own T' h' Ow (cells + 2) (slots + (n + 4)) → Keep h h' [] → OStr Z h' a b vs → (∀ x ∈ Ow, x ≠ a ∧ x ≠ b) → OG p e below m Pq T' pc' L (.ref a :: S)) : OG p e below m Pq T pc L S := by
  subst hp
  obtain ⟨locs, X, hx, hlk, hS, hZ, hown, eT, N, hEL, C, O, K, W⟩ := P
  obtain ⟨a, T', h', k1, b, kk, X', e', E', hS', hk', hZ', hown', E1, F1, F2, A1, -, -, C', -, hne, st⟩ := ldcCH X hx hZ hown w wS eT hS.1 (Nat.le_refl _) hEL hmem C.1 ht hz hl (g := mkF m pc L S) rfl hd hn hbig hc hs
  have W' : ∀ x ∈ Ow, OOwn Z EL n0 W0 s.heap.size T'.vm h' x := fun x hx => by
    obtain ⟨q1, q2, q3, q4⟩ := W x hx
    exact ⟨q1, Nat.lt_of_lt_of_le q2 E'.1, C'.safe q2 q3, q4⟩
  have hS2 : OSn EL s T'.vm h'.size := ⟨⟨hS'.1, hS'.2.mono hk'⟩, fun e => by rw [e] at hmem; cases hmem⟩
  refine OG.st st (k T' h' a b ⟨locs, X', hx, hlk, hS2, hZ', hown', e', N, hEL, C.trans C', O.ext E', K.ext E', W'⟩ ((Keep.refl h []).ext E') ⟨⟨E1, fun f hf => ?_, fun i j f g hij hi hj => ?_⟩, OArr.ofArv A1 (by rw [hl])⟩ fun x hx => hne x (W' x hx).2.2.1)
  · rcases List.mem_cons.mp hf with rfl | hf
    · exact F2
    · rcases List.mem_cons.mp hf with rfl | hf
      · exact F1
      · cases hf
  · have s1 := slot_ne lv lc (t := .array .byte) (t' := .byte) (by decide) (by decide) (by decide)
    match i, j, hi, hj with
    | 0, 0, _, _ => exact absurd rfl hij
    | 1, 1, _, _ => exact absurd rfl hij
    | 0, 1, hi, hj => cases hi; cases hj; exact s1
    | 1, 0, hi, hj => cases hi; cases hj; exact s1.symm
theorem o_mvMN {Z s : State} {a0 args : Array Value} {own host : String} {y : MethodName} {index : Nat} (hZ : Z.Warmed39 s.vm) (w : (Jvm.Cond.methodLinkNest own index y host).before a0 Z = true) : (Jvm.Cond.methodLinkNest own index y host).before args s = true := (Cond.methodLinkNest_wide hZ w :)
theorem o_mvF {Z s : State} {a0 args : Array Value} {x : MethodName} (hZ : Z.Warmed39 s.vm) (w2 : (Jvm.Cond.declares x).before a0 Z = true) (w : (Jvm.Cond.interfaceMethod x.cls x.cls x.name x.desc).before a0 Z = true) (hy : x.cls ≠ "java/lang/invoke/MethodHandle" ∧ x.cls ≠ "java/lang/invoke/VarHandle") : (Jvm.Cond.interfaceMethod x.cls x.cls x.name x.desc).before args s = true := by
  obtain ⟨r0, r, hn, -⟩ := Cond.declares_spec w2
  have q := Cond.interfaceMethod_setVm (args := a0) (s := Z) (vm' := s.vm) hZ.alike (ref := x.cls) (name := x.name) (desc := x.desc) hn hy
  exact (q.trans w :)
theorem o_callS (P : OPn p l e R s m args below meth c Z a0 EL n0 W0 own T h Ow cells slots) {y : MethodName} {bytes : ByteArray} {maxL : Nat} {ret : Option FieldType} {rm : Room} {as' : Array Value} {Sf : List Addr} {Q : Option Value → Vm → Heap → Prop} {index W : Nat} (w1 : (Jvm.Cond.methodLink own index y).before a0 Z = true) (w2 : (Jvm.Cond.static y).before a0 Z = true) (w3 : (Jvm.Cond.initialized y.cls).before a0 Z = true) (w4 : (Jvm.Cond.code y bytes maxL ret).before a0 Z = true) (hy : y.cls ≠ "java/lang/invoke/MethodHandle" ∧ y.cls ≠ "java/lang/invoke/VarHandle") (hM : OCt l Z a0 EL n0 y bytes maxL ret rm [] as' h Sf Q) (hsf : ∀ x ∈ Sf, x ∈ Ow) (hml : L.size = c.maxLocals) (hf : rm.frames + 1 ≤ R.frames) (hl : W + (maxL + 11) + rm.locals ≤ R.locals) {argsL rest : List Value} (hlen : ∀ sig, parseMethodDescriptor y.desc = some sig → argsL.length = sig.parameters.length) (hst : S = argsL.reverse ++ rest) (has : argsL.toArray = as') (hW : (rest.map fun v => v.category).sum ≤ W) (hd : decode c.code pc = .ok (.invokestatic index, 3)) (hp : pc + 3 = pc') (hc : cells + rm.cells ≤ R.cells) (hs : slots + rm.slots ≤ R.slots)
    (k : ∀ T' h' v, OPn p l e R s m args below meth c Z a0 EL n0 W0 own T' h' Ow (cells + rm.cells) (slots + rm.slots) → Keep h h' Sf → Q v T'.vm h' → OG p e below m Pq T' pc' L (v.toList ++ rest)) : OG p e below m Pq T pc L S := by
  subst hp
  obtain ⟨locs, X, hx, hlk, hS, hZ, hown, eT, N, hEL, C, O, K, W'⟩ := P
  have hb := OCt.back (p := p) (e := e) (below := below) (s := s) (args := args) (T := T) (len := 3) (W := W) (R := R) O hEL (fun x hx => ⟨(W' x (hsf x hx)).1, (W' x (hsf x hx)).2.1, (W' x (hsf x hx)).2.2.1⟩) hM hZ w4 w3 hf hl C.1
  obtain ⟨v, vm₁, B, hW1, X', hSi, hle, hq, st⟩ := callSS X hx (y := y) hown (mvT (s := s.setVm T.vm) hZ w1) (mvT (s := s.setVm T.vm) hZ w2) (mvT (s := s.setVm T.vm) hZ w3) (mvT (s := s.setVm T.vm) hZ w4) hy hb (g := mkF m pc L S) rfl hml (argsL := argsL) (rest := rest) hlen hst (by show 2 * 0 + _ ≤ _; omega) hd (fun _ _ => ⟨has, eT, hc, hs⟩)
  obtain ⟨P', K', q⟩ := OPn.behind (y := y) hx hlk hS hZ hown eT N hEL C O K W' hsf X' hSi hle hq
  exact OG.st (fun t r => st.trans r) (k _ _ v P' K' q)
theorem o_callI (P : OPn p l e R s m args below meth c Z a0 EL n0 W0 own T h Ow cells slots) {y : MethodName} {bytes : ByteArray} {maxL : Nat} {rm : Room} {as' : Array Value} {Sf : List Addr} {Q : Option Value → Vm → Heap → Prop} {index W : Nat} {a : Addr} (hy1 : y.name = "<init>") (w1 : (Jvm.Cond.methodLink own index y).before a0 Z = true) (w2 : (Jvm.Cond.instanceMethod y).before a0 Z = true) (w3 : (Jvm.Cond.initialized y.cls).before a0 Z = true) (w4 : (Jvm.Cond.code y bytes maxL none).before a0 Z = true) (hy : y.cls ≠ "java/lang/invoke/MethodHandle" ∧ y.cls ≠ "java/lang/invoke/VarHandle") (hM : OCt l Z a0 EL n0 y bytes maxL none rm [] as' h Sf Q) (hsf : ∀ x ∈ Sf, x ∈ Ow) (hml : L.size = c.maxLocals) (hf : rm.frames + 1 ≤ R.frames) (hl : W + (maxL + 11) + rm.locals ≤ R.locals) {argsL rest : List Value} (hlen : ∀ sig, parseMethodDescriptor y.desc = some sig → argsL.length = sig.parameters.length) (hst : S = argsL.reverse ++ .ref a :: rest) (has : (.ref a :: argsL).toArray = as') (hW : (rest.map fun v => v.category).sum ≤ W) (hd : decode c.code pc = .ok (.invokespecial index, 3)) (hp : pc + 3 = pc') (hc : cells + rm.cells ≤ R.cells) (hs : slots + rm.slots ≤ R.slots)
    (k : ∀ T' h' v, OPn p l e R s m args below meth c Z a0 EL n0 W0 own T' h' Ow (cells + rm.cells) (slots + rm.slots) → Keep h h' Sf → Q v T'.vm h' → OG p e below m Pq T' pc' L (v.toList ++ rest)) : OG p e below m Pq T pc L S := by
  subst hp
  obtain ⟨locs, X, hx, hlk, hS, hZ, hown, eT, N, hEL, C, O, K, W'⟩ := P
  have hb := OCt.back (p := p) (e := e) (below := below) (s := s) (args := args) (T := T) (len := 3) (W := W) (R := R) O hEL (fun x hx => ⟨(W' x (hsf x hx)).1, (W' x (hsf x hx)).2.1, (W' x (hsf x hx)).2.2.1⟩) hM hZ w4 w3 hf hl C.1
  obtain ⟨v, vm₁, B, hW1, X', hSi, hle, hq, st⟩ := X.specialBackS hx (y := y) hy1 hown (mvT (s := s.setVm T.vm) hZ w1) (mvT (s := s.setVm T.vm) hZ w2) (mvT (s := s.setVm T.vm) hZ w4) hy hb (g := mkF m pc L S) rfl hml (Steps.refl _) (a := a) (argsL := argsL) (rest := rest) hlen hst (by show 2 * 0 + _ ≤ _; omega) hd (fun _ _ => ⟨has, eT, hc, hs⟩)
  obtain ⟨P', K', q⟩ := OPn.behind (y := y) hx hlk hS hZ hown eT N hEL C O K W' hsf X' hSi hle hq
  exact OG.st (fun t r => st.trans r) (k _ _ v P' K' q)
theorem o_callIN (P : OPn p l e R s m args below meth c Z a0 EL n0 W0 own T h Ow cells slots) {y : MethodName} {bytes : ByteArray} {maxL : Nat} {rm : Room} {as' : Array Value} {Sf : List Addr} {Q : Option Value → Vm → Heap → Prop} {index W : Nat} {a : Addr} {host : String} (hy1 : y.name = "<init>") (w1 : (Jvm.Cond.methodLinkNest own index y host).before a0 Z = true) (w2 : (Jvm.Cond.instanceMethod y).before a0 Z = true) (w3 : (Jvm.Cond.initialized y.cls).before a0 Z = true) (w4 : (Jvm.Cond.code y bytes maxL none).before a0 Z = true) (hy : y.cls ≠ "java/lang/invoke/MethodHandle" ∧ y.cls ≠ "java/lang/invoke/VarHandle") (hM : OCt l Z a0 EL n0 y bytes maxL none rm [] as' h Sf Q) (hsf : ∀ x ∈ Sf, x ∈ Ow) (hml : L.size = c.maxLocals) (hf : rm.frames + 1 ≤ R.frames) (hl : W + (maxL + 11) + rm.locals ≤ R.locals) {argsL rest : List Value} (hlen : ∀ sig, parseMethodDescriptor y.desc = some sig → argsL.length = sig.parameters.length) (hst : S = argsL.reverse ++ .ref a :: rest) (has : (.ref a :: argsL).toArray = as') (hW : (rest.map fun v => v.category).sum ≤ W) (hd : decode c.code pc = .ok (.invokespecial index, 3)) (hp : pc + 3 = pc') (hc : cells + rm.cells ≤ R.cells) (hs : slots + rm.slots ≤ R.slots)
    (k : ∀ T' h' v, OPn p l e R s m args below meth c Z a0 EL n0 W0 own T' h' Ow (cells + rm.cells) (slots + rm.slots) → Keep h h' Sf → Q v T'.vm h' → OG p e below m Pq T' pc' L (v.toList ++ rest)) : OG p e below m Pq T pc L S := by
  subst hp
  obtain ⟨locs, X, hx, hlk, hS, hZ, hown, eT, N, hEL, C, O, K, W'⟩ := P
  have hb := OCt.back (p := p) (e := e) (below := below) (s := s) (args := args) (T := T) (len := 3) (W := W) (R := R) O hEL (fun x hx => ⟨(W' x (hsf x hx)).1, (W' x (hsf x hx)).2.1, (W' x (hsf x hx)).2.2.1⟩) hM hZ w4 w3 hf hl C.1
  obtain ⟨v, vm₁, B, hW1, X', hSi, hle, hq, st⟩ := X.specialBackNestS hx (y := y) hy1 hown (o_mvMN (s := s.setVm T.vm) hZ w1) (mvT (s := s.setVm T.vm) hZ w2) (mvT (s := s.setVm T.vm) hZ w4) hy hb (g := mkF m pc L S) rfl hml (Steps.refl _) (a := a) (argsL := argsL) (rest := rest) hlen hst (by show 2 * 0 + _ ≤ _; omega) hd (fun _ _ => ⟨has, eT, hc, hs⟩)
  obtain ⟨P', K', q⟩ := OPn.behind (y := y) hx hlk hS hZ hown eT N hEL C O K W' hsf X' hSi hle hq
  exact OG.st (fun t r => st.trans r) (k _ _ v P' K' q)
theorem o_callV (P : OPn p l e R s m args below meth c Z a0 EL n0 W0 own T h Ow cells slots) {y : MethodName} {bytes : ByteArray} {maxL : Nat} {ret : Option FieldType} {rm : Room} {as' : Array Value} {Sf : List Addr} {Q : Option Value → Vm → Heap → Prop} {index W : Nat} {x : MethodName} {a : Addr} {Cr : String} (w1 : (Jvm.Cond.methodLink own index x).before a0 Z = true) (w2 : (Jvm.Cond.declares x).before a0 Z = true) (nf : ∀ U : State, Z.Warmed39 U.vm → NotFace U x) (w5 : (Jvm.Cond.selects Cr x y).before a0 Z = true) (w6 : (Jvm.Cond.instanceMethod y).before a0 Z = true) (w3 : (Jvm.Cond.initialized y.cls).before a0 Z = true) (w4 : (Jvm.Cond.code y bytes maxL ret).before a0 Z = true) (hy : x.cls ≠ "java/lang/invoke/MethodHandle" ∧ x.cls ≠ "java/lang/invoke/VarHandle") (Er : Exa Z h a Cr) (hM : OCt l Z a0 EL n0 y bytes maxL ret rm [] as' h Sf Q) (hsf : ∀ x ∈ Sf, x ∈ Ow) (hml : L.size = c.maxLocals) (hf : rm.frames + 1 ≤ R.frames) (hl : W + (maxL + 11) + rm.locals ≤ R.locals) {argsL rest : List Value} (hlen : ∀ sig, parseMethodDescriptor x.desc = some sig → argsL.length = sig.parameters.length) (hst : S = argsL.reverse ++ .ref a :: rest) (has : (.ref a :: argsL).toArray = as') (hW : (rest.map fun v => v.category).sum ≤ W) (hd : decode c.code pc = .ok (.invokevirtual index, 3)) (hp : pc + 3 = pc') (hc : cells + rm.cells ≤ R.cells) (hs : slots + rm.slots ≤ R.slots)
    (k : ∀ T' h' v, OPn p l e R s m args below meth c Z a0 EL n0 W0 own T' h' Ow (cells + rm.cells) (slots + rm.slots) → Keep h h' Sf → Q v T'.vm h' → OG p e below m Pq T' pc' L (v.toList ++ rest)) : OG p e below m Pq T pc L S := by
  subst hp
  obtain ⟨locs, X, hx, hlk, hS, hZ, hown, eT, N, hEL, C, O, K, W'⟩ := P
  have hb := OCt.back (p := p) (e := e) (below := below) (s := s) (args := args) (T := T) (len := 3) (W := W) (R := R) O hEL (fun x hx => ⟨(W' x (hsf x hx)).1, (W' x (hsf x hx)).2.1, (W' x (hsf x hx)).2.2.1⟩) hM hZ w4 w3 hf hl C.1
  obtain ⟨cB, kB, q1, q2, q3⟩ := isOf (s := s.setVm T.vm) hZ eT Er
  obtain ⟨v, vm₁, B, hW1, X', hSi, hle, hq, st⟩ := X.virtualBackS hx (y := x) (z := y) hown (mvT (s := s.setVm T.vm) hZ w1) (mvT (s := s.setVm T.vm) hZ w2) (nf (s.setVm T.vm) hZ) (mvT (s := s.setVm T.vm) hZ w5) (mvT (s := s.setVm T.vm) hZ w6) hy hb q1 q3 (g := mkF m pc L S) rfl hml (Steps.refl _) (argsL := argsL) (rest := rest) hlen hst (by show 2 * 0 + _ ≤ _; omega) hd (fun _ _ => ⟨has, eT, hc, hs⟩)
  obtain ⟨P', K', q⟩ := OPn.behind (y := y) hx hlk hS hZ hown eT N hEL C O K W' hsf X' hSi hle hq
  exact OG.st (fun t r => st.trans r) (k _ _ v P' K' q)
theorem o_callF (P : OPn p l e R s m args below meth c Z a0 EL n0 W0 own T h Ow cells slots) {y : MethodName} {bytes : ByteArray} {maxL : Nat} {ret : Option FieldType} {rm : Room} {as' : Array Value} {Sf : List Addr} {Q : Option Value → Vm → Heap → Prop} {index W : Nat} {x : MethodName} {a : Addr} {Cr : String} {count : Nat} (w1 : (Jvm.Cond.methodLink own index x).before a0 Z = true) (w2 : (Jvm.Cond.declares x).before a0 Z = true) (w7 : (Jvm.Cond.interfaceMethod x.cls x.cls x.name x.desc).before a0 Z = true) (w5 : (Jvm.Cond.selects Cr x y).before a0 Z = true) (w6 : (Jvm.Cond.instanceMethod y).before a0 Z = true) (w8 : (Jvm.Cond.publicMethod y).before a0 Z = true) (w9 : (Jvm.Cond.unhidden Cr x.name x.desc).before a0 Z = true) (w10 : (Jvm.Cond.castable Cr x.cls).before a0 Z = true) (w3 : (Jvm.Cond.initialized y.cls).before a0 Z = true) (w4 : (Jvm.Cond.code y bytes maxL ret).before a0 Z = true) (hy : x.cls ≠ "java/lang/invoke/MethodHandle" ∧ x.cls ≠ "java/lang/invoke/VarHandle") (Er : Exa Z h a Cr) (hM : OCt l Z a0 EL n0 y bytes maxL ret rm [] as' h Sf Q) (hsf : ∀ x ∈ Sf, x ∈ Ow) (hml : L.size = c.maxLocals) (hf : rm.frames + 1 ≤ R.frames) (hl : W + (maxL + 11) + rm.locals ≤ R.locals) {argsL rest : List Value} (hlen : ∀ sig, parseMethodDescriptor x.desc = some sig → argsL.length = sig.parameters.length) (hst : S = argsL.reverse ++ .ref a :: rest) (has : (.ref a :: argsL).toArray = as') (hW : (rest.map fun v => v.category).sum ≤ W) (hd : decode c.code pc = .ok (.invokeinterface index count, 5)) (hp : pc + 5 = pc') (hc : cells + rm.cells ≤ R.cells) (hs : slots + rm.slots ≤ R.slots)
    (k : ∀ T' h' v, OPn p l e R s m args below meth c Z a0 EL n0 W0 own T' h' Ow (cells + rm.cells) (slots + rm.slots) → Keep h h' Sf → Q v T'.vm h' → OG p e below m Pq T' pc' L (v.toList ++ rest)) : OG p e below m Pq T pc L S := by
  subst hp
  obtain ⟨locs, X, hx, hlk, hS, hZ, hown, eT, N, hEL, C, O, K, W'⟩ := P
  have hb := OCt.back (p := p) (e := e) (below := below) (s := s) (args := args) (T := T) (len := 5) (W := W) (R := R) O hEL (fun x hx => ⟨(W' x (hsf x hx)).1, (W' x (hsf x hx)).2.1, (W' x (hsf x hx)).2.2.1⟩) hM hZ w4 w3 hf hl C.1
  obtain ⟨cB, kB, q1, q2, q3⟩ := isOf (s := s.setVm T.vm) hZ eT Er
  obtain ⟨v, vm₁, B, hW1, X', hSi, hle, hq, st⟩ := X.interfaceBackS hx (xi := x) (y := y) hown (mvT (s := s.setVm T.vm) hZ w1) (mvT (s := s.setVm T.vm) hZ w2) (o_mvF (s := s.setVm T.vm) hZ w2 w7 hy) (mvT (s := s.setVm T.vm) hZ w5) (mvT (s := s.setVm T.vm) hZ w6) (mvT (s := s.setVm T.vm) hZ w8) (mvT (s := s.setVm T.vm) hZ w9) (mvT (s := s.setVm T.vm) hZ w10) hy hb q1 q2 q3 (g := mkF m pc L S) rfl hml (Steps.refl _) (argsL := argsL) (rest := rest) hlen hst (by show 2 * 0 + _ ≤ _; omega) hd (fun _ _ => ⟨has, eT, hc, hs⟩)
  obtain ⟨P', K', q⟩ := OPn.behind (y := y) hx hlk hS hZ hown eT N hEL C O K W' hsf X' hSi hle hq
  exact OG.st (fun t r => st.trans r) (k _ _ v P' K' q)
theorem o_initO (P : OPn p l e R s m args below meth c Z a0 EL n0 W0 own T h Ow cells slots) {index W : Nat} {a : Addr} (w1 : (Jvm.Cond.methodLink own index Lib.objectInit).before a0 Z = true) (w2 : (Jvm.Cond.instanceMethod Lib.objectInit).before a0 Z = true) (w3 : (Jvm.Cond.code Lib.objectInit ⟨#[0xb1]⟩ 1 none).before a0 Z = true) (hml : L.size = c.maxLocals) (hf : 1 ≤ R.frames) (hW : (S.map fun v => v.category).sum ≤ W) (hl : W + 12 ≤ R.locals) (hd : decode c.code pc = .ok (.invokespecial index, 3)) (hp : pc + 3 = pc') (k : ∀ T', OPn p l e R s m args below meth c Z a0 EL n0 W0 own T' h Ow cells slots → OG p e below m Pq T' pc' L S) : OG p e below m Pq T pc L (.ref a :: S) := by
  subst hp
  exact P.tab (fun locs X hZ hown eT hx => initO X hx hZ hown w1 w2 w3 eT (g := mkF m pc L (.ref a :: S)) rfl hml rfl hd hf (by show 2 * 0 + _ ≤ _; omega) hl) k
theorem o_nfSel {x y : MethodName} {Cr : String} (hxy : x.cls = y.cls) (w : (Jvm.Cond.selects Cr x x).before a0 Z = true) : ∀ U : State, Z.Warmed39 U.vm → NotFace U x := fun U hU => notFace_of_selects (args := #[]) (mvT (s := U) hU w)
theorem o_nfSup {x : MethodName} {K : String} (w : (Jvm.Cond.superclass x.cls K).before a0 Z = true) : ∀ U : State, Z.Warmed39 U.vm → NotFace U x := fun U hU => nf_super (args := #[]) (mvT (s := U) hU w)
theorem o_nfTop {x : MethodName} (w : (Jvm.Cond.noSuperclass x.cls).before a0 Z = true) : ∀ U : State, Z.Warmed39 U.vm → NotFace U x := fun U hU => nf_top (args := #[]) (mvT (s := U) hU w)
theorem o_sf0 : ∀ x ∈ ([] : List Addr), x ∈ Ow := fun _ q => nomatch q
theorem o_sfS {x : Addr} {Sf : List Addr} (h1 : x ∈ Ow) (h2 : ∀ y ∈ Sf, y ∈ Ow) : ∀ y ∈ x :: Sf, y ∈ Ow := fun y q => (List.mem_cons.mp q).elim (fun e => e ▸ h1) (h2 y)
end OwnLayer
theorem o_catR (a : Addr) : (Value.ref a).category = 1 := rfl
theorem o_catN : Value.null.category = 1 := rfl
theorem o_catI (x : Int32) : (Value.int x).category = 1 := rfl
theorem o_catJ (x : Int64) : (Value.long x).category = 2 := rfl
theorem o_catD (x : UInt64) : (Value.double x).category = 2 := rfl
/-! numbers as indices; bytes of chars -/
theorem oi_nat {i : Nat} (h : i < 2147483648) : i.toInt32.toNatClampNeg = i := Int32.toNatClampNeg_ofNat_of_lt h
theorem oi_int {i : Nat} (h : i < 2147483648) : i.toInt32.toInt = i := Int32.toInt_ofNat_of_lt h
theorem oi_nn {i : Nat} (h : i < 2147483648) : ¬ i.toInt32 < 0 := by
  rw [Int32.lt_iff_toInt_lt, oi_int h]; have : (0 : Int32).toInt = 0 := rfl; omega
theorem oi_succ (i : Nat) : i.toInt32 + (1 : Int32) = (i + 1).toInt32 := (Int32.ofNat_add i 1).symm
theorem oi_lt {i j : Nat} (hi : i < 2147483648) (hj : j < 2147483648) : i.toInt32 < j.toInt32 ↔ i < j := by
  rw [Int32.lt_iff_toInt_lt, oi_int hi, oi_int hj]; omega
theorem oi_eq {i j : Nat} (hi : i < 2147483648) (hj : j < 2147483648) : i.toInt32 = j.toInt32 ↔ i = j := by
  constructor
  · intro h
    have := congrArg Int32.toInt h
    rw [oi_int hi, oi_int hj] at this; omega
  · rintro rfl; rfl
abbrev och (cs : List Int32) : List Value := cs.map fun c => .int c
abbrev obyte (c : Int32) : Int32 := c.toInt8.toInt32
/-- Latin-1 chars -/
def OLat (cs : List Int32) : Prop := ∀ c ∈ cs, ¬ c < 0 ∧ ¬ (255 : Int32) < c
theorem OLat.nil : OLat [] := fun _ q => nomatch q
theorem OLat.cons {c : Int32} {cs : List Int32} (h : ¬ c < 0 ∧ ¬ (255 : Int32) < c) (r : OLat cs) : OLat (c :: cs) := fun x hx => (List.mem_cons.mp hx).elim (fun e => e ▸ h) (r x)
theorem obyte_inj {c d : Int32} (hc : ¬ c < 0 ∧ ¬ (255 : Int32) < c) (hd : ¬ d < 0 ∧ ¬ (255 : Int32) < d) (h : obyte c = obyte d) : c = d := by
  have e := congrArg Int32.toInt h
  have q1 := c_i2b c; have q2 := c_i2b d
  obtain ⟨c1, c2⟩ := hc; obtain ⟨d1, d2⟩ := hd
  rw [Int32.lt_iff_toInt_lt] at c1 c2 d1 d2
  have z0 : (0 : Int32).toInt = 0 := rfl
  have z1 : (255 : Int32).toInt = 255 := rfl
  rw [z0] at c1 d1; rw [z1] at c2 d2
  apply Int32.toInt_inj.mp
  show c.toInt = d.toInt
  have e' : c.toInt8.toInt32.toInt = d.toInt8.toInt32.toInt := e
  omega
theorem obytes_inj : ∀ {cs ds : List Int32}, OLat cs → OLat ds → cs.map obyte = ds.map obyte → cs = ds
  | [], [], _, _, _ => rfl
  | [], _ :: _, _, _, h => by cases h
  | _ :: _, [], _, _, h => by cases h
  | c :: cs, d :: ds, hc, hd, h => by
    simp only [List.map_cons, List.cons.injEq] at h
    rw [obyte_inj (hc c (by simp)) (hd d (by simp)) h.1, obytes_inj (fun x hx => hc x (by simp [hx])) (fun x hx => hd x (by simp [hx])) h.2]
theorem och_get {cs : List Int32} {i : Nat} {c : Int32} (h : cs[i]? = some c) : (och cs)[i]? = some (.int c) := by simp [h]
theorem och_inj {us ws : List Int32} (h : och us = och ws) : us = ws := by
  have : us.map (fun c => Value.int c) = ws.map fun c => Value.int c := h
  exact (List.map_inj_right (fun a b e => Value.int.inj e)).mp this
theorem o_nar_char {c : Int32} (h : ¬ c < 0 ∧ ¬ (65535 : Int32) < c) : nar .char c = c := by
  obtain ⟨q1, q2, q3⟩ := c_i2c c
  obtain ⟨c1, c2⟩ := h
  rw [Int32.lt_iff_toInt_lt] at c1 c2
  have z0 : (0 : Int32).toInt = 0 := rfl
  have z1 : (65535 : Int32).toInt = 65535 := rfl
  rw [z0] at c1; rw [z1] at c2
  apply Int32.toInt_inj.mp
  show c.toUInt32.toUInt16.toUInt32.toInt32.toInt = c.toInt
  omega
/-- a mask of eight bits, as a char -/
theorem o_mask8 (y : Int32) : ¬ (y &&& (255 : Int32)).toUInt32.toUInt16.toUInt32.toInt32 < 0 ∧ ¬ (255 : Int32) < (y &&& (255 : Int32)).toUInt32.toUInt16.toUInt32.toInt32 := by
  obtain ⟨q1, q2, q3⟩ := c_i2c (y &&& (255 : Int32))
  have q4 := c_and y 255 (by decide)
  have z0 : (0 : Int32).toInt = 0 := rfl
  have z1 : (255 : Int32).toInt = 255 := rfl
  rw [z1] at q4
  rw [Int32.lt_iff_toInt_lt, Int32.lt_iff_toInt_lt, z0, z1]
  omega
theorem o_c16 {c : Int32} (h : ¬ c < 0 ∧ ¬ (255 : Int32) < c) : ¬ c < 0 ∧ ¬ (65535 : Int32) < c := by
  obtain ⟨h1, h2⟩ := h
  refine ⟨h1, fun q => h2 ?_⟩
  rw [Int32.lt_iff_toInt_lt] at q ⊢
  have z1 : (65535 : Int32).toInt = 65535 := rfl
  have z2 : (255 : Int32).toInt = 255 := rfl
  omega
theorem OObj.uniq {Z : State} {h : Heap} {a : Addr} {C O nm d : String} {fs gs : List (String × String × String × Value)} {v w : Value} (F : OObj Z h a C fs) (G : OObj Z h a C gs) (i j : Nat) (hi : fs[i]? = some (O, nm, d, v)) (hj : gs[j]? = some (O, nm, d, w)) : v = w := Classical.byContradiction fun q => (F.fld i hi).ne (G.fld j hj) q rfl
theorem OArr.uniq {Z : State} {h : Heap} {a : Addr} {ty : FieldType} {vs ws : List Value} (F : OArr Z h a ty vs) (G : OArr Z h a ty ws) : vs = ws := by
  obtain ⟨c, A, e, -⟩ := F
  have q := G.size A.1
  rw [e] at q
  simpa using q
theorem OStr.uniq {Z : State} {h : Heap} {a b b' : Addr} {us ws : List Int32} (F : OStr Z h a b (och us)) (G : OStr Z h a b' (och ws)) : us = ws := by
  have e := Value.ref.inj (F.1.uniq G.1 0 0 rfl rfl)
  subst e
  exact och_inj (F.2.uniq G.2)
theorem OObj.neArr {Z : State} {h : Heap} {a b : Addr} {C : String} {a0 : Array Value} {fs : List (String × String × String × Value)} {ty : FieldType} {vs : List Value} {k : Nat} (F : OObj Z h a C fs) (wi : (Jvm.Cond.instantiable C k).before a0 Z = true) (G : OArr Z h b ty vs) : a ≠ b := by
  obtain ⟨c, A, -⟩ := G
  exact ne_arr F.1 wi A
theorem OObj.neObj {Z : State} {h : Heap} {a b : Addr} {C C' : String} {fs gs : List (String × String × String × Value)} (F : OObj Z h a C fs) (G : OObj Z h b C' gs) (hn : C ≠ C') : a ≠ b := ne_exa F.1 G.1 hn
/-- a String reference that may be null -/
def OSv (Z : State) (h : Heap) (v : Value) (o : Option (List Int32)) : Prop := (v = .null ∧ o = none) ∨ ∃ (a b : Addr) (us : List Int32), v = .ref a ∧ o = some us ∧ OStr Z h a b (och us)
theorem OSv.isRef {Z : State} {h : Heap} {v : Value} {o : Option (List Int32)} (F : OSv Z h v o) : v.isRef = true := by
  rcases F with ⟨rfl, -⟩ | ⟨a, b, us, rfl, -⟩ <;> rfl
theorem OSv.cat {Z : State} {h : Heap} {v : Value} {o : Option (List Int32)} (F : OSv Z h v o) : v.category = 1 := by
  rcases F with ⟨rfl, -⟩ | ⟨a, b, us, rfl, -⟩ <;> rfl
theorem OSv.keep0 {Z : State} {h h' : Heap} {v : Value} {o : Option (List Int32)} (F : OSv Z h v o) (K : Keep h h' []) : OSv Z h' v o := by
  rcases F with F | ⟨a, b, us, e1, e2, F⟩
  · exact Or.inl F
  · exact Or.inr ⟨a, b, us, e1, e2, F.keep K nin0 nin0⟩
theorem OSv.keep1 {Z : State} {h h' : Heap} {v : Value} {o : Option (List Int32)} {c : Addr} {C : String} {a0 : Array Value} {fs : List (String × String × String × Value)} {k : Nat} (F : OSv Z h v o) (G : OObj Z h c C fs) (wi : (Jvm.Cond.instantiable C k).before a0 Z = true) (hC : C ≠ "java/lang/String") (K : Keep h h' [c]) : OSv Z h' v o := by
  rcases F with F | ⟨a, b, us, e1, e2, F⟩
  · exact Or.inl F
  · exact Or.inr ⟨a, b, us, e1, e2, F.keep K (ninS (Ne.symm (G.neObj F.1 hC)) nin0) (ninS (Ne.symm (G.neArr wi F.2)) nin0)⟩
theorem o_fitsRef {v : Value} {C : String} (h : v.isRef = true) : fits (.object C) v = true := by cases v <;> first | rfl | cases h
theorem o_store {l : Array Slot} {i : Nat} {v : Value} {o : Slot} {l' : Array Slot} (hold : l[i]? = some o) (ho : One o) (hv : v.category = 1) (e : l.setIfInBounds i (.val v) = l') : storeLocals l i v = some l' := e ▸ XS.store1 hold ho hv
/-- C is no K: C's superclass is the root; K is a class of objects -/
theorem o_ns1 {Z : State} {a0 : Array Value} {O C K : String} {n : Nat} (w0 : (Jvm.Cond.noSuperclass O).before a0 Z = true) (w : (Jvm.Cond.superclass C O).before a0 Z = true) (wi : (Jvm.Cond.instantiable K n).before a0 Z = true) (h1 : O ≠ K) (h2 : C ≠ K) : ∃ c t, Z.vm.findClass C = some c ∧ Z.vm.findClass K = some t ∧ Z.vm.assignable c t = false := by
  obtain ⟨c0, k0, a1, a2, a3, -, -⟩ := Cond.noSuperclass_spec w0
  obtain ⟨t, kt, g1, g2, g3, g4, -, -⟩ := Cond.instantiable_spec wi
  obtain ⟨c, b0⟩ := found_sup w
  obtain ⟨p, k, kp, b1, b2, b3, b4, b5, -, b7⟩ := Cond.superclass_spec b0 w
  cases b1.symm.trans a1
  have ne0 := ids_ne a1 g1 h1
  have ne1 := ids_ne b0 g1 h2
  have gI : kt.isInterface = false := by
    cases q : kt.isInterface
    · rfl
    · rw [q] at g4; cases g4
  have sub0 : ∀ fuel, Z.vm.isSubclassAux fuel c0 t = false := fun fuel => by
    cases fuel with
    | zero => rfl
    | succ f => simp [Vm.isSubclassAux, ne0, a2, a3]
  have sub : ∀ fuel, Z.vm.isSubclassAux fuel c t = false := fun fuel => by
    cases fuel with
    | zero => rfl
    | succ f => simp [Vm.isSubclassAux, ne1, b2, b4, sub0]
  refine ⟨c, t, b0, g1, ?_⟩
  show Z.vm.assignableAux (255 + 1) c t = false
  simp [Vm.assignableAux, ne1, b2, g2, b5, g3, gI, Vm.isSubclass, sub]
theorem o_nar_byte (c : Int32) : nar .byte (obyte c) = obyte c := by simp [nar, obyte]
theorem OObj.one {Z : State} {h : Heap} {a : Addr} {C O nm d : String} {v : Value} (E : Exa Z h a C) (F : Fld Z h a O nm d v) : OObj Z h a C [(O, nm, d, v)] := by
  refine ⟨E, fun f hf => ?_, fun i j f g hij hi hj => ?_⟩
  · rw [List.mem_singleton.mp hf]; exact F
  · have h1 := (List.getElem?_eq_some_iff.mp hi).1
    have h2 := (List.getElem?_eq_some_iff.mp hj).1
    simp at h1 h2; omega
theorem OObj.zero {Z : State} {h : Heap} {a : Addr} {C : String} (E : Exa Z h a C) : OObj Z h a C [] := ⟨E, fun f hf => (nomatch hf), fun i j f g hij hi hj => by simp at hi⟩
theorem OObj.ext {Z : State} {h h' : Heap} {a : Addr} {C : String} {fs : List (String × String × String × Value)} (F : OObj Z h a C fs) (E : Ext h h') : OObj Z h' a C fs := ⟨F.1.ext E, fun f hf => (F.2.1 f hf).ext E, F.2.2⟩
/-! from the case's words to facts at the start -/
section OStart
variable {Z : State} {args : Array Value} {t F : Term} {a : Addr} {cl : Cell} {ty : FieldType} {n : Int32} {vs : List Value}
theorem o_len (et : t.eval args Z none [] Z = some (.ref a)) (A : Arr Z Z.heap a cl ty) (h : (Jvm.Cond.eq (.length t) (.int n)).value args Z none Z [] = some true) : cl.slots.size < 2 ^ 31 ∧ cl.slots.size.toInt32 = n := by
  have e := eqv_i (Term.int_eval n) h
  have ha := A.fin (Vm.Alike.refl _)
  by_cases q : cl.slots.size < 2 ^ 31
  · rw [len_f et ha q] at e
    exact ⟨q, Value.int.inj (Option.some.inj e)⟩
  · simp [Term.eval, et, ha] at e
    omega
theorem o_fnull {C nm d : String} (et : t.eval args Z none [] Z = some (.ref a)) (h : (Jvm.Cond.eq (.field t C nm d) .null).value args Z none Z [] = some true) : Fld Z Z.heap a C nm d .null := Fld.start ((fld_at et).symm.trans (null_v h))
theorem o_eqr {X : Term} {y : Addr} (hF : F.eval args Z none [] Z = some (.ref y)) (h : (Jvm.Cond.eq X F).value args Z none Z [] = some true) : X.eval args Z none [] Z = some (.ref y) := by
  obtain ⟨x, y', e1, e2, k1, k2⟩ := cmp_v (Or.inl h)
  cases hF.symm.trans e2
  simp only [Cond.value, e1, hF] at h
  cases x <;> simp_all
theorem o_fexa {C nm d : String} {b : Addr} (et : t.eval args Z none [] Z = some (.ref a)) (eb : (Term.field t C nm d).eval args Z none [] Z = some (.ref b)) : Fld Z Z.heap a C nm d (.ref b) := Fld.start ((fld_at et).symm.trans eb)
theorem o_fint {C nm d : String} (et : t.eval args Z none [] Z = some (.ref a)) (h : (Jvm.Cond.eq (.field t C nm d) (.int n)).value args Z none Z [] = some true) : Fld Z Z.heap a C nm d (.int n) := Fld.start ((fld_at et).symm.trans (eqv_i (Term.int_eval n) h))
theorem o_flong {C nm d : String} {x : Int64} (et : t.eval args Z none [] Z = some (.ref a)) (h : (Jvm.Cond.eq (.field t C nm d) (.long x)).value args Z none Z [] = some true) : Fld Z Z.heap a C nm d (.long x) := Fld.start ((fld_at et).symm.trans (eqv_l (long_at x) h))
theorem o_slot {j : Int32} {v : Value} (et : t.eval args Z none [] Z = some (.ref a)) (A : Arr Z Z.heap a cl ty) (hj : ¬ j < 0) (e : (Term.elem t (.int j)).eval args Z none [] Z = some v) : cl.slots[j.toNatClampNeg]? = some v := (elem_f et (Term.int_eval j) (A.fin (Vm.Alike.refl _)) hj).symm.trans e
theorem OArr.start (hf : Fit Z) (A : Arr Z Z.heap a cl ty) (hl : cl.slots.size < 2 ^ 31 ∧ cl.slots.size.toInt32 = n) (hz : ¬ n < 0) (hn : n.toNatClampNeg = vs.length) (H : HasL cl 0 vs) : OArr Z Z.heap a ty vs := OArr.ofArv (dv := .null) (Arv.start hf A hl.1 hl.2 hz hn H) hn.symm
theorem OArr.ext {h h' : Heap} (F : OArr Z h a ty vs) (E : Ext h h') : OArr Z h' a ty vs := by obtain ⟨c, A, r⟩ := F; exact ⟨c, A.ext E, r⟩
theorem OObj.two {h : Heap} {C O nm d O' nm' d' : String} {a0 : Array Value} {v w : Value} {ty ty' : FieldType} (E : Exa Z h a C) (F : Fld Z h a O nm d v) (G : Fld Z h a O' nm' d' w) (L : Laid Z a0 C O nm d) (L' : Laid Z a0 C O' nm' d') (hn : nm ≠ nm') (ht : parseFieldDescriptor d = some ty) (ht' : parseFieldDescriptor d' = some ty') : OObj Z h a C [(O, nm, d, v), (O', nm', d', w)] := by
  have s1 := slot_ne L L' hn ht ht'
  refine ⟨E, fun f hf => ?_, fun i j f g hij hi hj => ?_⟩
  · rcases List.mem_cons.mp hf with rfl | hf
    · exact F
    · rw [List.mem_singleton.mp hf]; exact G
  · match i, j, hi, hj with
    | 0, 0, _, _ => exact absurd rfl hij
    | 1, 1, _, _ => exact absurd rfl hij
    | 0, 1, hi, hj => cases hi; cases hj; exact s1
    | 1, 0, hi, hj => cases hi; cases hj; exact s1.symm
end OStart
section OClone
variable {p : Program} {l : Launch} {e : Env} {R : Room} {s : State} {m : MethodId} {args : Array Value} {below : List Frame} {meth : Method} {c : Code} {T T' : State} {cells slots : Nat} {Z : State} {a0 : Array Value} {EL : List (String × Nat)} {n0 : Nat} {W0 : List Addr} {own : String} {h h' : Heap} {Ow : List Addr} {Pq : Outcome → State → Prop} {pc pc' : Nat} {L : Array Slot} {S : List Value}
theorem o_clone (P : OPn p l e R s m args below meth c Z a0 EL n0 W0 own T h Ow cells slots) {ad : String} {index cap W : Nat} {a : Addr} {ty : FieldType} {vs : List Value} (w1 : (Jvm.Cond.methodLink own index ⟨ad, "clone", "()Ljava/lang/Object;"⟩).before a0 Z = true) (w2 : (Jvm.Cond.sameMethod ad "java/lang/Object" "clone" "()Ljava/lang/Object;").before a0 Z = true) (w3 : (Jvm.Cond.native ⟨"java/lang/Object", "clone", "()Ljava/lang/Object;"⟩).before a0 Z = true) (w4 : (Jvm.Cond.instanceMethod ⟨"java/lang/Object", "clone", "()Ljava/lang/Object;"⟩).before a0 Z = true) (w5 : (Jvm.Cond.selects ad ⟨ad, "clone", "()Ljava/lang/Object;"⟩ ⟨"java/lang/Object", "clone", "()Ljava/lang/Object;"⟩).before a0 Z = true) (w6 : (Jvm.Cond.castable ad "java/lang/Cloneable").before a0 Z = true)
    (A : OArr Z h a ty vs) (E : Exa Z h a ad) (hml : L.size = c.maxLocals) (hd : decode c.code pc = .ok (.invokevirtual index, 3)) (hp : pc + 3 = pc') (hf : 1 ≤ R.frames) (hW : (S.map fun v => v.category).sum ≤ W) (hl : W + 14 ≤ R.locals) (hcap : vs.length ≤ cap) (hc : cells + 1 ≤ R.cells) (hs : slots + cap ≤ R.slots)
    (k : ∀ T' h' b, OPn p l e R s m args below meth c Z a0 EL n0 W0 own T' h' (b :: Ow) (cells + 1) (slots + cap) → Keep h h' [] → h.size ≤ b → OArr Z h' b ty vs → Exa Z h' b ad → OG p e below m Pq T' pc' L (.ref b :: S)) : OG p e below m Pq T pc L (.ref a :: S) := by
  subst hp
  obtain ⟨cl, Ar, e1, e2, e3⟩ := A
  have FC : FitC Z cl := fitC_of Ar fun i hi v hv => e3 v (by rw [e1] at hv; exact List.mem_of_getElem? (by simpa using hv))
  refine P.grow (G := fun h' b => OArr Z h' b ty vs ∧ Exa Z h' b ad) (fun locs X hZ hown eT hx => ?_) fun T' h' b P' K hb q => k T' h' b P' K hb q.1 q.2
  obtain ⟨T', h', X', e', E', A', B', st⟩ := cloneA X hx hZ hown w1 w2 w3 w4 w5 w6 eT Ar E FC (g := mkF m pc L (.ref a :: S)) rfl hml rfl hd hf (by show 2 * 0 + _ ≤ _; omega) hl (by rw [e1]; simpa using hcap) hc hs
  exact ⟨T', h', X', e', E', A'.lt, ⟨⟨_, A', e1, e2, e3⟩, B'⟩, st⟩
end OClone
section OwnLayer7
variable {p : Program} {l : Launch} {e : Env} {R : Room} {s : State} {m : MethodId} {args : Array Value} {below : List Frame} {meth : Method} {c : Code} {T T' : State} {cells slots cells' slots' : Nat} {Z : State} {a0 : Array Value} {EL : List (String × Nat)} {n0 : Nat} {W0 : List Addr} {own : String} {h h' : Heap} {Ow Ow' : List Addr} {Pq : Outcome → State → Prop} {pc pc' : Nat} {L L' : Array Slot} {S S' : List Value}
theorem o_pop2L (P : OPn p l e R s m args below meth c Z a0 EL n0 W0 own T h Ow cells slots) {x : Int64} (hd : decode c.code pc = .ok (.pop2, 1)) (hp : pc + 1 = pc') (k : OG p e below m Pq T pc' L S) : OG p e below m Pq T pc L (.long x :: S) := by
  subst hp
  have hx := P.ex; have X := P.here
  refine OG.st (fun t q => ?_) k
  have hm : (mkF m pc L (.long x :: S)).method = m := rfl
  have hd' : decode c.code (mkF m pc L (.long x :: S)).pc = .ok (.pop2, 1) := hd
  have X' : At T (mkF m pc L (.long x :: S)).method c below := X
  have e1 : (mkF m pc L (.long x :: S)).stack = .long x :: S := rfl
  have hc : (Value.long x).category = 2 := rfl
  jvm_step X' [hx, hd', Op.pop2.wp_sem, e1, hc]
  exact q
theorem o_tsIn (P : OPn p l e R s m args below meth c Z a0 EL n0 W0 own T h Ow cells slots) {k0 : Int32} {df low high : Int} {offs : Array Int} {len : Nat} (hd : decode c.code pc = .ok (.tableswitch df low high offs, len)) (hin : ¬ (k0.toInt < low ∨ k0.toInt > high)) {off : Int} (ho : offs[(k0.toInt - low).toNat]? = some off) (h0 : 0 ≤ (pc : Int) + off) (hp : ((pc : Int) + off).toNat = pc') (k : OG p e below m Pq T pc' L S) : OG p e below m Pq T pc L (.int k0 :: S) := by
  subst hp
  obtain ⟨locs, X, hx, -⟩ := P
  exact OG.st (fun t q => X.tableswitchIn hx (g := mkF m pc L (.int k0 :: S)) rfl rfl hd hin ho h0 t q) k
theorem o_tsOut (P : OPn p l e R s m args below meth c Z a0 EL n0 W0 own T h Ow cells slots) {k0 : Int32} {df low high : Int} {offs : Array Int} {len : Nat} (hd : decode c.code pc = .ok (.tableswitch df low high offs, len)) (hin : k0.toInt < low ∨ k0.toInt > high) (h0 : 0 ≤ (pc : Int) + df) (hp : ((pc : Int) + df).toNat = pc') (k : OG p e below m Pq T pc' L S) : OG p e below m Pq T pc L (.int k0 :: S) := by
  subst hp
  obtain ⟨locs, X, hx, -⟩ := P
  exact OG.st (fun t q => X.tableswitchOut hx (g := mkF m pc L (.int k0 :: S)) rfl rfl hd hin h0 t q) k
/-- C's Class object is made, and it is a -/
def OMir (Z : State) (C : String) (a : Addr) : Prop := ∃ (cC : ClassId) (kC : Class), Z.vm.findClass C = some cC ∧ Z.vm.classes[cC]? = some kC ∧ kC.mirror = some a
theorem OMir.eval {C : String} {a : Addr} {U : State} {as' : Array Value} (H : OMir Z C a) (hZ : Z.Warmed39 U.vm) : (Term.mirror C).eval as' U none [] U = some (.ref a) := by
  obtain ⟨cC, kC, h1, h2, h3⟩ := H
  obtain ⟨k', g1, g2⟩ := hZ.alike.2.2 _ _ h2
  have g3 : k'.mirror = some a := by first | (rw [g2]; exact h3) | (rw [g2.1]; exact h3) | (have := congrArg Class.mirror g2; simpa [h3] using this)
  have g4 : U.vm.findClass C = some cC := (hZ.alike.findClass C _).trans h1
  simp [Term.eval, g4, g1, g3]
theorem o_ldcMir (P : OPn p l e R s m args below meth c Z a0 EL n0 W0 own T h Ow cells slots) {C : String} {index : Nat} {a : Addr} (H : OMir Z C a) (w : (Jvm.Cond.classLink own index C).before a0 Z = true) (hd : decode c.code pc = .ok (.ldc index, 2)) (hp : pc + 2 = pc') (k : ∀ T', OPn p l e R s m args below meth c Z a0 EL n0 W0 own T' h Ow cells slots → OG p e below m Pq T' pc' L (.ref a :: S)) : OG p e below m Pq T pc L S := by
  subst hp
  refine P.tab (fun locs X hZ hown eT hx => ?_) k
  obtain ⟨vm', X', st⟩ := X.ldcMirror hx hown (mvT hZ w) (H.eval hZ) (g := mkF m pc L S) rfl hd
  exact ⟨_, X', eT, st⟩
theorem o_getCls (P : OPn p l e R s m args below meth c Z a0 EL n0 W0 own T h Ow cells slots) {C : String} {index W : Nat} {a b : Addr} (H : OMir Z C a) (E : Exa Z h b C) (w1 : (Jvm.Cond.methodLink own index Jvm.Stand.gcN).before a0 Z = true) (w2 : (Jvm.Cond.declares Jvm.Stand.gcN).before a0 Z = true) (hnf : ∀ U : State, Z.Warmed39 U.vm → NotFace U Jvm.Stand.gcN) (w3 : (Jvm.Cond.selects C Jvm.Stand.gcN Jvm.Stand.gcN).before a0 Z = true) (w4 : (Jvm.Cond.instanceMethod Jvm.Stand.gcN).before a0 Z = true) (w5 : (Jvm.Cond.native Jvm.Stand.gcN).before a0 Z = true) (hml : L.size = c.maxLocals) (hf : 1 ≤ R.frames) (hW : (S.map fun v => v.category).sum ≤ W) (hl : W + 14 ≤ R.locals) (hd : decode c.code pc = .ok (.invokevirtual index, 3)) (hp : pc + 3 = pc') (k : ∀ T', OPn p l e R s m args below meth c Z a0 EL n0 W0 own T' h Ow cells slots → OG p e below m Pq T' pc' L (.ref a :: S)) : OG p e below m Pq T pc L (.ref b :: S) := by
  subst hp
  refine P.tab (fun locs X hZ hown eT hx => ?_) k
  obtain ⟨cC, kC, h1, h2, h3⟩ := id H
  obtain ⟨cell, k0, e1, e2, e3, e4, -⟩ := E
  cases h1.symm.trans e2
  obtain ⟨k', g1, g2⟩ := hZ.alike.2.2 _ _ h2
  have g3 : k'.mirror = some a := by first | (rw [g2]; exact h3) | (rw [g2.1]; exact h3) | (have := congrArg Class.mirror g2; simpa [h3] using this)
  obtain ⟨vm', X', st⟩ := X.getClassOf hx hown (mvT hZ w1) (mvT hZ w2) (hnf _ hZ) (mvT hZ w3) (mvT hZ w4) (mvT hZ w5) ((hZ.alike.findClass C _).trans h1) (b := b) ⟨cell, by rw [eT]; exact e1, rfl, e4⟩ g1 g3 (g := mkF m pc L (.ref b :: S)) rfl hml (rest := S) rfl hd hf (by show 2 * 0 + _ + (nativeFrameWords "java/lang/Object" "getClass" 1 + 11) ≤ _; rw [show nativeFrameWords "java/lang/Object" "getClass" 1 = 3 from by decide]; omega)
  exact ⟨_, X', eT, st⟩
/-- an array of the class N (of C's objects) that takes every C -/
def OAr (Z : State) (h : Heap) (a : Addr) (C N : String) : Prop := Exa Z h a N ∧ ∃ cell : Cell, h[a]? = some cell ∧ Ovr Z cell.cls C
theorem o_anewarrE (P : OPn p l e R s m args below meth c Z a0 EL n0 W0 own T h Ow cells slots) {C N : String} {index : Nat} {n : Int32} {cap : Nat} (w1 : (Jvm.Cond.classLink own index C).before a0 Z = true) (w2 : (Jvm.Cond.arrayOver (.object C)).before a0 Z = true) (hN : "[" ++ (FieldType.object C).toString = N) (hd : decode c.code pc = .ok (.anewarray index, 3)) (hn : ¬ n < 0) (hcap : n.toNatClampNeg ≤ cap) (hb : cap * 8 ≤ 536870912) (hp : pc + 3 = pc') (hc : cells + 1 ≤ R.cells) (hl : slots + cap ≤ R.slots)
    (k : ∀ T' h' b, OPn p l e R s m args below meth c Z a0 EL n0 W0 own T' h' (b :: Ow) (cells + 1) (slots + cap) → Keep h h' [] → h.size ≤ b → OArr Z h' b (.object C) (List.replicate n.toNatClampNeg .null) → OAr Z h' b C N → OG p e below m Pq T' pc' L (.ref b :: S)) : OG p e below m Pq T pc L (.int n :: S) := by
  subst hp
  refine P.grow (G := fun h' b => OArr Z h' b (.object C) (List.replicate n.toNatClampNeg .null) ∧ OAr Z h' b C N) (fun locs X hZ hown eT hx => ?_) fun T' h' b P' K hb' q => k T' h' b P' K hb' q.1 q.2
  have w2' : (Jvm.Cond.arrayOver (.object C)).before args (s.setVm T.vm) = true := Cond.arrayOver_alike hZ.alike w2
  obtain ⟨vm₁, cA, kA, comp, -, h1, h2, h3, h4, X', st⟩ := X.anewarrayRefK hx hown (mv hZ w1) w2' (g := mkF m pc L (.int n :: S)) rfl hd rfl hn (by omega) hc (by omega)
  subst eT
  rw [hZ.alike.findClass] at h1
  obtain ⟨kZ, z1, -⟩ := Vm.findClass_spec h1
  obtain ⟨k', z2, z3⟩ := hZ.alike.2.2 _ _ z1
  cases h2.symm.trans z2
  have hk : kZ.kind = .array comp (.object C) := by rw [← h3, z3]
  have at' : (T.heap.push { cls := cA, slots := Array.replicate n.toNatClampNeg .null, vm := .none })[T.heap.size]? = some { cls := cA, slots := Array.replicate n.toNatClampNeg .null, vm := .none } := by simp
  refine ⟨_, _, X'.more (Nat.le_refl _) (by omega), rfl, ext_of fun a q => Array.getElem?_push_lt q |>.trans (Array.getElem?_eq_getElem q).symm, by show T.heap.size < (T.heap.push _).size; simp, ⟨⟨_, ⟨at', ⟨by simp, kZ, z1, comp, hk⟩, by simp⟩, by simp, by simpa using (back32 hn).2, fun v hv => ?_⟩, ⟨_, kZ, at', hN ▸ h1, z1, rfl, fun q => by rw [hk] at q; cases q⟩, _, at', kZ, comp, z1, hk, by rw [← hZ.alike.findClass]; exact h4⟩, st⟩
  rw [List.eq_of_mem_replicate hv]; rfl
theorem OAr.sto {a y : Addr} {C N : String} {ty : FieldType} {vs : List Value} (A : OArr Z h a ty vs) (O : OAr Z h a C N) (I : Ins Z h y C true) : Sto Z h a (.ref y) := by
  obtain ⟨cl, Ar, -⟩ := A
  obtain ⟨-, cell, h1, h2⟩ := O
  cases h1.symm.trans Ar.1
  exact Sto.of Ar h2 I
theorem OAr.keep {a : Addr} {C N : String} {ws : List Addr} (O : OAr Z h a C N) (K : Keep h h' ws) : OAr Z h' a C N := by
  obtain ⟨E, cell, h1, h2⟩ := O
  obtain ⟨c2, g1, g2, -⟩ := K.2.2 _ _ h1
  exact ⟨E.keep K, c2, g1, by rw [g2]; exact h2⟩
theorem OAr.wr {a b : Addr} {C N : String} {sl : Nat} {v : Value} (O : OAr Z h a C N) (W : Wr h h' b sl v) : OAr Z h' a C N := by
  obtain ⟨E, cell, h1, h2⟩ := O
  refine ⟨Exa.wr W E, ?_⟩
  obtain ⟨c2, g1, g2, -⟩ := (Keep.of_wr W).2.2 _ _ h1
  exact ⟨c2, g1, by rw [g2]; exact h2⟩
/-- a step that rewrites one own array -/
theorem OPn.wrA (P : OPn p l e R s m args below meth c Z a0 EL n0 W0 own T h Ow cells slots) {b : Addr} {G : Heap → Prop} (hb : b ∈ Ow) (f : ∀ locs, Stand p l e R (s.setVm T.vm) m args below meth c T locs cells slots → Z.Warmed39 (s.setVm T.vm).vm → (s.setVm T.vm).vm.findClass own = some m.cls → T.heap = h → p.tables.exec = Jvm.exec → Fr n0 locs → Old Z n0 h → n0 ≤ b → ∃ T' h' L2, Stand p l e R (s.setVm T.vm) m args below meth c T' L2 cells slots ∧ T'.heap = h' ∧ Fr n0 L2 ∧ Keep h h' [b] ∧ G h' ∧ ∀ target, Steps p.tables e below (T'.setTop (mkF m pc' L' S')) target → Steps p.tables e below (T.setTop (mkF m pc L S)) target)
    (k : ∀ T' h', OPn p l e R s m args below meth c Z a0 EL n0 W0 own T' h' Ow cells slots → Keep h h' [b] → G h' → OG p e below m Pq T' pc' L' S') : OG p e below m Pq T pc L S := by
  obtain ⟨locs, X, hx, hlk, hS, hZ, hown, eT, N, hEL, C, O, K, W⟩ := P
  obtain ⟨q1, q2, q3, q4⟩ := W b hb
  obtain ⟨T', h', L2, X', e', N', Kb, g, st⟩ := f locs X hZ hown eT hx N O q1
  have hs : ∀ x ∈ [b], Safe Z EL T.vm h x := fun x hx => by rw [List.mem_singleton.mp hx]; exact q3
  refine OG.st st (k T' h' (OPn.fin hx hlk hS hZ hown hEL X' e' Kb.1 N' (C.trans (CHr.keep Kb hs C.1)) (O.keep Kb fun x hx => by rw [List.mem_singleton.mp hx]; exact q1) (K.trans Kb fun x hx => by rw [List.mem_singleton.mp hx]; exact q4) fun x hx => ?_) Kb g)
  obtain ⟨r1, r2, r3, r4⟩ := W x hx
  exact ⟨r1, Nat.lt_of_lt_of_le r2 Kb.1, Safe.keep Kb hs C.1 r3, r4⟩
theorem o_lenI {n : Nat} (q : n < 2147483648) : ¬ (n.toInt32 < 0) ∧ n.toInt32.toNatClampNeg = n := by
  have e1 : n.toInt32.toInt = n := len_toInt (by simpa using q)
  refine ⟨?_, by simp only [Int32.toNatClampNeg, e1]; rfl⟩
  rw [Int32.lt_iff_toInt_lt, e1]; show ¬ (n : Int) < 0; omega
/-- System.arraycopy into an own array -/
theorem o_cpA (P : OPn p l e R s m args below meth c Z a0 EL n0 W0 own T h Ow cells slots) {index W : Nat} {a b : Addr} {ty ty' : FieldType} {vs vd us : List Value} {sp dp nn : Int32} (w1 : (Jvm.Cond.methodLink own index Jvm.Stand.acN).before a0 Z = true) (w2 : (Jvm.Cond.native Jvm.Stand.acN).before a0 Z = true) (w3 : (Jvm.Cond.static Jvm.Stand.acN).before a0 Z = true) (w4 : (Jvm.Cond.initialized "java/lang/System").before a0 Z = true) (A : OArr Z h a ty vs) (B : OArr Z h b ty' vd) (hb : b ∈ Ow) (hty : (ty = ty' ∧ refKind ty = false) ∨ (refKind ty = true ∧ refKind ty' = true ∧ StoL Z h b us)) (h1 : ¬ sp < 0) (h2 : ¬ dp < 0) (h3 : ¬ nn < 0) (h4 : sp.toNatClampNeg + nn.toNatClampNeg ≤ vs.length) (h5 : dp.toNatClampNeg + nn.toNatClampNeg ≤ vd.length) (hus : us = (vs.drop sp.toNatClampNeg).take nn.toNatClampNeg)
    (hml : L.size = c.maxLocals) (hf : 1 ≤ R.frames) (hW : (S.map fun v => v.category).sum ≤ W) (hl : W + (nativeFrameWords "java/lang/System" "arraycopy" 5 + 11) ≤ R.locals) (hd : decode c.code pc = .ok (.invokestatic index, 3)) (hp : pc + 3 = pc')
    (k : ∀ T' h', OPn p l e R s m args below meth c Z a0 EL n0 W0 own T' h' Ow cells slots → Keep h h' [b] → OArr Z h' b ty' (vd.take dp.toNatClampNeg ++ us ++ vd.drop (dp.toNatClampNeg + nn.toNatClampNeg)) → OG p e below m Pq T' pc' L S) : OG p e below m Pq T pc L (.int nn :: .int dp :: .ref b :: .int sp :: .ref a :: S) := by
  subst hp
  have la := A.len; have lb := B.len
  have za : ¬ (vs.length.toInt32 < 0) ∧ vs.length.toInt32.toNatClampNeg = vs.length := o_lenI la
  have zb : ¬ (vd.length.toInt32 < 0) ∧ vd.length.toInt32.toNatClampNeg = vd.length := o_lenI lb
  obtain ⟨ka, A'⟩ := A.toArv (dv := .null) za.1 za.2
  obtain ⟨kb, B'⟩ := B.toArv (dv := .null) zb.1 zb.2
  have hus' : us = (List.range nn.toNatClampNeg).map fun i => vs.getD (sp.toNatClampNeg + i) .null := by
    rw [hus]; apply List.ext_getElem?; intro i
    by_cases q : i < nn.toNatClampNeg
    · have q2 : sp.toNatClampNeg + i < vs.length := by omega
      simp [List.getElem?_take_of_lt q, List.getElem?_drop, q, List.getD_eq_getElem?_getD, List.getElem?_eq_getElem q2]
    · rw [List.getElem?_eq_none (by simp; omega), List.getElem?_eq_none (by simp; omega)]
  refine P.wrA hb (fun locs X hZ hown eT hx N O ge => ?_) fun T' h' P' K B2 => k T' h' P' K B2
  obtain ⟨T', h', L2, X', e', N', K', B2, st⟩ := cpA X hx hZ hown w1 w2 w3 w4 eT A' B' hty h1 h2 h3 (by rw [za.2]; exact h4) (by rw [zb.2]; exact h5) hus' h5 N ge (g := mkF m pc L (.int nn :: .int dp :: .ref b :: .int sp :: .ref a :: S)) rfl hml rfl hd hf (by show 2 * 0 + _ ≤ _; omega) hl
  refine ⟨T', h', L2, X', e', N', K', OArr.ofArv B2 ?_, st⟩
  rw [zb.2, hus]; simp; omega
/-- an array that a callee has made is owned -/
theorem OPn.moreA (P : OPn p l e R s m args below meth c Z a0 EL n0 W0 own T h Ow cells slots) {x : Addr} {ty : FieldType} {vs : List Value} (A : OArr Z h x ty vs) (ht : ty ≠ .byte) (h1 : n0 ≤ x) (h2 : s.heap.size ≤ x) : OPn p l e R s m args below meth c Z a0 EL n0 W0 own T h (x :: Ow) cells slots := by
  have lt := A.lt
  obtain ⟨cl, Ar, -⟩ := A
  exact P.more ⟨h1, lt, Safe.arr P.warm.alike Ar ht⟩ h2
theorem OPn.moreO (P : OPn p l e R s m args below meth c Z a0 EL n0 W0 own T h Ow cells slots) {x : Addr} {C : String} (E : Exa Z h x C) (g1 : C ≠ "java/lang/String") (g2 : C ≠ "[B") (h1 : n0 ≤ x) (h2 : s.heap.size ≤ x) : OPn p l e R s m args below meth c Z a0 EL n0 W0 own T h (x :: Ow) cells slots :=
  P.more ⟨h1, E.lt, Safe.exa P.warm.alike E g1 g2⟩ h2
theorem o_callP (P : OPn p l e R s m args below meth c Z a0 EL n0 W0 own T h Ow cells slots) {y : MethodName} {bytes : ByteArray} {maxL : Nat} {ret : Option FieldType} {rm : Room} {as' : Array Value} {Sf : List Addr} {Q : Option Value → Vm → Heap → Prop} {index W : Nat} {a : Addr} {Cr : String} (w1 : (Jvm.Cond.methodLink own index y).before a0 Z = true) (w6 : (Jvm.Cond.instanceMethod y).before a0 Z = true) (w5 : (Jvm.Cond.selects y.cls y y).before a0 Z = true) (w7 : (Jvm.Cond.privateMethod y).before a0 Z = true) (w3 : (Jvm.Cond.initialized y.cls).before a0 Z = true) (w4 : (Jvm.Cond.code y bytes maxL ret).before a0 Z = true) (hy : y.cls ≠ "java/lang/invoke/MethodHandle" ∧ y.cls ≠ "java/lang/invoke/VarHandle") (Er : Exa Z h a Cr) (hM : OCt l Z a0 EL n0 y bytes maxL ret rm [] as' h Sf Q) (hsf : ∀ x ∈ Sf, x ∈ Ow) (hml : L.size = c.maxLocals) (hf : rm.frames + 1 ≤ R.frames) (hl : W + (maxL + 11) + rm.locals ≤ R.locals) {argsL rest : List Value} (hlen : ∀ sig, parseMethodDescriptor y.desc = some sig → argsL.length = sig.parameters.length) (hst : S = argsL.reverse ++ .ref a :: rest) (has : (.ref a :: argsL).toArray = as') (hW : (rest.map fun v => v.category).sum ≤ W) (hd : decode c.code pc = .ok (.invokevirtual index, 3)) (hp : pc + 3 = pc') (hc : cells + rm.cells ≤ R.cells) (hs : slots + rm.slots ≤ R.slots)
    (k : ∀ T' h' v, OPn p l e R s m args below meth c Z a0 EL n0 W0 own T' h' Ow (cells + rm.cells) (slots + rm.slots) → Keep h h' Sf → Q v T'.vm h' → OG p e below m Pq T' pc' L (v.toList ++ rest)) : OG p e below m Pq T pc L S := by
  subst hp
  obtain ⟨locs, X, hx, hlk, hS, hZ, hown, eT, N, hEL, C, O, K, W'⟩ := P
  have hb := OCt.back (p := p) (e := e) (below := below) (s := s) (args := args) (T := T) (len := 3) (W := W) (R := R) O hEL (fun x hx => ⟨(W' x (hsf x hx)).1, (W' x (hsf x hx)).2.1, (W' x (hsf x hx)).2.2.1⟩) hM hZ w4 w3 hf hl C.1
  obtain ⟨cl, kc, e1, e2, e3, e4, -⟩ := Er
  obtain ⟨v, vm₁, B, hW1, X', hSi, hle, hq, st⟩ := X.privateBackS hx (y := y) hown (mvT (s := s.setVm T.vm) hZ w1) (mvT (s := s.setVm T.vm) hZ w6) (mvT (s := s.setVm T.vm) hZ w5) (Cond.privateMethod_at (mvP (args := args) (s := s.setVm T.vm) hZ w7)) (mvT (s := s.setVm T.vm) hZ w4) hy hb (g := mkF m pc L S) rfl hml (Steps.refl _) (a := a) (cell := cl) (by rw [eT]; exact e1) (fun q r => by rw [r] at e4; cases e4) (argsL := argsL) (rest := rest) hlen hst (by show 2 * 0 + _ ≤ _; omega) hd (fun _ _ => ⟨has, eT, hc, hs⟩)
  obtain ⟨P', K', q⟩ := OPn.behind (y := y) hx hlk hS hZ hown eT N hEL C O K W' hsf X' hSi hle hq
  exact OG.st (fun t r => st.trans r) (k _ _ v P' K' q)
theorem o_callQ (P : OPn p l e R s m args below meth c Z a0 EL n0 W0 own T h Ow cells slots) {y : MethodName} {bytes : ByteArray} {maxL : Nat} {ret : Option FieldType} {rm : Room} {as' : Array Value} {Sf : List Addr} {Q : Option Value → Vm → Heap → Prop} {index W : Nat} {a : Addr} {Cr : String} (w1 : (Jvm.Cond.methodLink own index y).before a0 Z = true) (w6 : (Jvm.Cond.instanceMethod y).before a0 Z = true) {kk : Nat} (w5 : (Jvm.Cond.instantiable y.cls kk).before a0 Z = true) (w7 : (Jvm.Cond.privateMethod y).before a0 Z = true) (w3 : (Jvm.Cond.initialized y.cls).before a0 Z = true) (w4 : (Jvm.Cond.code y bytes maxL ret).before a0 Z = true) (hy : y.cls ≠ "java/lang/invoke/MethodHandle" ∧ y.cls ≠ "java/lang/invoke/VarHandle") (Er : Exa Z h a Cr) (hM : OCt l Z a0 EL n0 y bytes maxL ret rm [] as' h Sf Q) (hsf : ∀ x ∈ Sf, x ∈ Ow) (hml : L.size = c.maxLocals) (hf : rm.frames + 1 ≤ R.frames) (hl : W + (maxL + 11) + rm.locals ≤ R.locals) {argsL rest : List Value} (hlen : ∀ sig, parseMethodDescriptor y.desc = some sig → argsL.length = sig.parameters.length) (hst : S = argsL.reverse ++ .ref a :: rest) (has : (.ref a :: argsL).toArray = as') (hW : (rest.map fun v => v.category).sum ≤ W) (hd : decode c.code pc = .ok (.invokevirtual index, 3)) (hp : pc + 3 = pc') (hc : cells + rm.cells ≤ R.cells) (hs : slots + rm.slots ≤ R.slots)
    (k : ∀ T' h' v, OPn p l e R s m args below meth c Z a0 EL n0 W0 own T' h' Ow (cells + rm.cells) (slots + rm.slots) → Keep h h' Sf → Q v T'.vm h' → OG p e below m Pq T' pc' L (v.toList ++ rest)) : OG p e below m Pq T pc L S := by
  subst hp
  obtain ⟨locs, X, hx, hlk, hS, hZ, hown, eT, N, hEL, C, O, K, W'⟩ := P
  have hb := OCt.back (p := p) (e := e) (below := below) (s := s) (args := args) (T := T) (len := 3) (W := W) (R := R) O hEL (fun x hx => ⟨(W' x (hsf x hx)).1, (W' x (hsf x hx)).2.1, (W' x (hsf x hx)).2.2.1⟩) hM hZ w4 w3 hf hl C.1
  obtain ⟨cl, kc, e1, e2, e3, e4, -⟩ := Er
  have hinst := mvT (args := args) (s := s.setVm T.vm) hZ w6
  obtain ⟨mk, methM, hnamed, hmethM, hstM, habM⟩ := Cond.instanceMethod_spec hinst
  obtain ⟨methM', cM, hmethM', -, -, -, -, -, -, hsigM⟩ := Cond.code_spec hnamed (mvT (args := args) (s := s.setVm T.vm) hZ w4)
  cases hmethM.symm.trans hmethM'
  obtain ⟨t0, kt, g1, g2, g3, g4, -, -⟩ := Cond.instantiable_spec (mvT (args := args) (s := s.setVm T.vm) hZ w5)
  have hcl : (s.setVm T.vm).vm.findClass y.cls = some mk.cls := findClass_of_methodNamed hnamed
  cases hcl.symm.trans g1
  have gI : kt.isInterface = false := by
    cases q : kt.isInterface
    · rfl
    · rw [q] at g4; cases g4
  have hpr := Cond.privateMethod_at (mvP (args := args) (s := s.setVm T.vm) hZ w7)
  have hselP : selectMethod e.platform (s.setVm T.vm).vm cl.cls mk = .method mk := selectMethod_private hmethM (hpr mk methM hnamed hmethM)
  obtain ⟨vm₁, X₁, hstep₁⟩ := X.invokevirtual hx hown (mvT (s := s.setVm T.vm) hZ w1) hnamed hmethM hstM g2 gI hy (a := a) (cell := cl) (by rw [eT]; exact e1) (fun q r => by rw [r] at e4; cases e4) hselP hmethM habM g2 gI (g := mkF m pc L S) rfl (argsL := argsL) (rest := rest) (hlen _ hsigM) hst hd
  obtain ⟨v, B, X', hSi, hle, hq, hst2⟩ := hb m meth c ⟨T.setVm vm₁, locs, cells, slots⟩ { mkF m pc L S with stack := rest } (.invokevirtual index) mk (.ref a :: argsL).toArray X₁ rfl hml hd (by show 2 * 0 + (rest.map fun v => v.category).sum ≤ W; omega) (X₁.named hnamed) ⟨has, eT, hc, hs⟩
  have st : Steps p.tables e below (T.setTop (mkF m pc L S)) (B.U.setTop { mkF m pc L S with pc := pc + 3, stack := v.toList ++ rest }) := hstep₁ _ fun acts => by rw [doInvoke_state]; exact hst2
  obtain ⟨P', K', q⟩ := OPn.behind (y := y) hx hlk hS hZ hown eT N hEL C O K W' hsf X' hSi hle hq
  exact OG.st (fun t r => st.trans r) (k _ _ v P' K' q)
theorem o_ldcWI (P : OPn p l e R s m args below meth c Z a0 EL n0 W0 own T h Ow cells slots) {index : Nat} {v : Int32} (w : (Jvm.Cond.constant own index v).before a0 Z = true) (hd : decode c.code pc = .ok (.ldc_w index, 3)) (hp : pc + 3 = pc') (k : OG p e below m Pq T pc' L (.int v :: S)) : OG p e below m Pq T pc L S := by
  subst hp
  obtain ⟨locs, X, hx, hlk, hS, hZ, hown, eT, r⟩ := P
  have hwc : (Jvm.Cond.constant own index v).before args (s.setVm T.vm) = true := mvT (s := s.setVm T.vm) hZ w
  have hown' : (s.setVm T.vm).vm.findClass own = some m.cls := hown
  obtain ⟨kc, cf, bytes, hk, hcf, hcp, hbb⟩ := Cond.constant_spec hown' hwc
  obtain ⟨k', hk', he⟩ := X.warmed.alike.2.2 _ _ hk
  refine OG.st (fun t q => ?_) k
  have X' : At T (mkF m pc L S).method c below := X.here
  have hd' : decode c.code (mkF m pc L S).pc = .ok (.ldc_w index, 3) := hd
  jvm_step X' [hx, hd', Op.ldc_w.wp_int (s := T) (f := mkF m pc L S) X.here.top hk' (by rw [he]; exact hcf) hcp, hbb]
  exact q
theorem o_ldc2D (P : OPn p l e R s m args below meth c Z a0 EL n0 W0 own T h Ow cells slots) {index : Nat} {v : UInt64} (w : (Jvm.Cond.constantDouble own index v).before a0 Z = true) (hd : decode c.code pc = .ok (.ldc2_w index, 3)) (hp : pc + 3 = pc') (k : OG p e below m Pq T pc' L (.double v :: S)) : OG p e below m Pq T pc L S := by
  subst hp
  obtain ⟨locs, X, hx, hlk, hS, hZ, hown, eT, r⟩ := P
  exact OG.st (fun t q => X.ldc2DoubleC hx hown (mvT (s := s.setVm T.vm) hZ w) (g := mkF m pc L S) rfl hd t q) k
end OwnLayer7
theorem o_ns3 {Z : State} {a0 : Array Value} {O C1 C2 C K : String} {n : Nat} (w0 : (Jvm.Cond.noSuperclass O).before a0 Z = true) (w1 : (Jvm.Cond.superclass C1 O).before a0 Z = true) (w2 : (Jvm.Cond.superclass C2 C1).before a0 Z = true) (w : (Jvm.Cond.superclass C C2).before a0 Z = true) (wi : (Jvm.Cond.instantiable K n).before a0 Z = true) (h1 : O ≠ K) (h2 : C1 ≠ K) (h3 : C2 ≠ K) (h4 : C ≠ K) : ∃ c t, Z.vm.findClass C = some c ∧ Z.vm.findClass K = some t ∧ Z.vm.assignable c t = false := by
  obtain ⟨c0, k0, a1, a2, a3, -, -⟩ := Cond.noSuperclass_spec w0
  obtain ⟨t, kt, g1, g2, g3, g4, -, -⟩ := Cond.instantiable_spec wi
  obtain ⟨d1, u0⟩ := found_sup w1
  obtain ⟨d2, v0⟩ := found_sup w2
  obtain ⟨c, b0⟩ := found_sup w
  obtain ⟨p1, k1, kp1, u1, u2, u3, u4, u5, -, u7⟩ := Cond.superclass_spec u0 w1
  obtain ⟨p2, k2, kp2, v1, v2, v3, v4, v5, -, v7⟩ := Cond.superclass_spec v0 w2
  obtain ⟨p, k, kp, b1, b2, b3, b4, b5, -, b7⟩ := Cond.superclass_spec b0 w
  cases u1.symm.trans a1
  cases v1.symm.trans u0
  cases b1.symm.trans v0
  have ne0 := ids_ne a1 g1 h1
  have ne1 := ids_ne u0 g1 h2
  have ne2 := ids_ne v0 g1 h3
  have ne3 := ids_ne b0 g1 h4
  have gI : kt.isInterface = false := by
    cases q : kt.isInterface
    · rfl
    · rw [q] at g4; cases g4
  have sub0 : ∀ fuel, Z.vm.isSubclassAux fuel c0 t = false := fun fuel => by
    cases fuel with
    | zero => rfl
    | succ f => simp [Vm.isSubclassAux, ne0, a2, a3]
  have sub1 : ∀ fuel, Z.vm.isSubclassAux fuel d1 t = false := fun fuel => by
    cases fuel with
    | zero => rfl
    | succ f => simp [Vm.isSubclassAux, ne1, u2, u4, sub0]
  have sub2 : ∀ fuel, Z.vm.isSubclassAux fuel d2 t = false := fun fuel => by
    cases fuel with
    | zero => rfl
    | succ f => simp [Vm.isSubclassAux, ne2, v2, v4, sub1]
  have sub : ∀ fuel, Z.vm.isSubclassAux fuel c t = false := fun fuel => by
    cases fuel with
    | zero => rfl
    | succ f => simp [Vm.isSubclassAux, ne3, b2, b4, sub2]
  refine ⟨c, t, b0, g1, ?_⟩
  show Z.vm.assignableAux (255 + 1) c t = false
  simp [Vm.assignableAux, ne3, b2, g2, b5, g3, gI, Vm.isSubclass, sub]
theorem o_nfSl {Z : State} {a0 : Array Value} {x : MethodName} {Cr : String} (w : (Jvm.Cond.selects Cr x x).before a0 Z = true) : ∀ U : State, Z.Warmed39 U.vm → NotFace U x := fun U hU => notFace_of_selects (args := #[]) (mvT (s := U) hU w)
theorem OObj.nb {Z : State} {h : Heap} {a b : Addr} {C : String} {fs : List (String × String × String × Value)} (F : OObj Z h a C fs) (g : h.size ≤ b) : a ≠ b := Nat.ne_of_lt (Nat.lt_of_lt_of_le F.lt g)
theorem OArr.nb {Z : State} {h : Heap} {a b : Addr} {ty : FieldType} {vs : List Value} (F : OArr Z h a ty vs) (g : h.size ≤ b) : a ≠ b := Nat.ne_of_lt (Nat.lt_of_lt_of_le F.lt g)
theorem ow {Z : State} {a0 : Array Value} {d : Jvm.Cond} (hw : ∀ d ∈ tables_1, d.before a0 Z = true) (k : Nat) (h : tables_1[k]? = some d) : d.before a0 Z = true := hw d (List.mem_of_getElem? h)
section OwnFPW
abbrev oInf : UInt64 := 9218868437227405312
def OWa (k1 p tf a num pr den : UInt64) : Prop := FP.dadd k1 FP.dconst1 = a ∧ NoNaN64 a ∧ FP.dmul a tf = num ∧ NoNaN64 num ∧ FP.dmul k1 p = pr ∧ NoNaN64 pr ∧ FP.dadd tf pr = den ∧ NoNaN64 den
def OWt1 (k1 p tf w : UInt64) : Prop := ∃ a num pr den, OWa k1 p tf a num pr den ∧ cmpValue (FP.dcmp num oInf) .g = (-1 : Int32) ∧ cmpValue (FP.dcmp den oInf) .g = (-1 : Int32) ∧ FP.ddiv num den = w ∧ NoNaN64 w
def OWt2 (k1 p tf w : UInt64) : Prop := ∃ a num pr den i j n q d, OWa k1 p tf a num pr den ∧ (cmpValue (FP.dcmp num oInf) .g = (0 : Int32) ∨ (cmpValue (FP.dcmp num oInf) .g = (-1 : Int32) ∧ cmpValue (FP.dcmp den oInf) .g = (0 : Int32))) ∧ FP.ddiv FP.dconst1 k1 = i ∧ NoNaN64 i ∧ FP.dadd FP.dconst1 i = j ∧ NoNaN64 j ∧ FP.dmul j tf = n ∧ NoNaN64 n ∧ FP.ddiv tf k1 = q ∧ NoNaN64 q ∧ FP.dadd q p = d ∧ NoNaN64 d ∧ FP.ddiv n d = w ∧ NoNaN64 w
def OWt (k1 p tf w : UInt64) : Prop := OWt1 k1 p tf w ∨ OWt2 k1 p tf w
def OK20 (k : Int64) : Prop := 0 ≤ k.toInt ∧ k.toInt ≤ 1048575
def OT31 (t : Int64) : Prop := 1 ≤ t.toInt ∧ t.toInt ≤ 2147483647
def OP31 (p : Int64) : Prop := 0 ≤ p.toInt ∧ p.toInt ≤ 2147483648
theorem ow_one : (1 : Int64).toInt = 1 := rfl
theorem ow_zero : (0 : Int64).toInt = 0 := rfl
theorem ow_k1 {k : Int64} (hk : OK20 k) : (k + 1).toInt = k.toInt + 1 := by
  obtain ⟨k1, k2⟩ := hk
  have e := Jvm.RoadKit.add64 (a := k) (b := 1) ⟨by omega, by omega⟩ ⟨by decide, by decide⟩
  rw [e, ow_one]
theorem ow_num {k t : Int64} (hk : OK20 k) (ht : OT31 t) : ((k + 1) * t).toInt = (k.toInt + 1) * t.toInt ∧ OPos ((k + 1) * t) := by
  have e1 := ow_k1 hk
  obtain ⟨k1, k2⟩ := hk
  obtain ⟨t1, t2⟩ := ht
  have b1 : 1 * 1 ≤ (k.toInt + 1) * t.toInt := Int.mul_le_mul (by omega) (by omega) (by omega) (by omega)
  have b2 : (k.toInt + 1) * t.toInt ≤ 1048576 * 2147483647 := Int.mul_le_mul (by omega) (by omega) (by omega) (by omega)
  have e2 : ((k + 1) * t).toInt = (k + 1).toInt * t.toInt := Jvm.FP.Core.int64_mul (by rw [e1]; omega) (by rw [e1]; omega)
  rw [e1] at e2
  exact ⟨e2, by rw [e2]; omega, by rw [e2]; omega⟩
theorem ow_den {k t p : Int64} (hk : OK20 k) (ht : OT31 t) (hp : OP31 p) : (k * p).toInt = k.toInt * p.toInt ∧ 0 ≤ k.toInt * p.toInt ∧ k.toInt * p.toInt ≤ 2251799813685248 ∧ (t + k * p).toInt = t.toInt + k.toInt * p.toInt ∧ OPos (t + k * p) := by
  obtain ⟨k1, k2⟩ := hk
  obtain ⟨t1, t2⟩ := ht
  obtain ⟨p1, p2⟩ := hp
  have b1 : 0 ≤ k.toInt * p.toInt := Int.mul_nonneg k1 p1
  have b2 : k.toInt * p.toInt ≤ 1048575 * 2147483648 := Int.mul_le_mul k2 p2 p1 (by decide)
  have e1 : (k * p).toInt = k.toInt * p.toInt := Jvm.FP.Core.int64_mul (by omega) (by omega)
  have e2 : (t + k * p).toInt = t.toInt + k.toInt * p.toInt := by
    rw [← e1]; exact Jvm.RoadKit.add64 ⟨by omega, by omega⟩ ⟨by rw [e1]; omega, by rw [e1]; omega⟩
  exact ⟨e1, b1, by omega, e2, by rw [e2]; omega, by rw [e2]; omega⟩
/-- the weight of whole numbers -/
abbrev oW (k t p : Int64) : UInt64 := FP.ddiv (FP.l2d ((k + 1) * t)) (FP.l2d (t + k * p))
theorem ow_nn {k t p : Int64} (hk : OK20 k) (ht : OT31 t) (hp : OP31 p) : NoNaN64 (oW k t p) := val64_no.mpr (od_ne (ow_num hk ht).2 (ow_den hk ht hp).2.2.2.2)
theorem ow_add1 {k : Int64} (hk : OK20 k) : FP.dadd (FP.l2d k) FP.dconst1 = FP.l2d (k + 1) := by
  obtain ⟨k1, k2⟩ := hk
  rw [oh_one]; exact dadd_w ⟨by omega, by omega⟩ ⟨by decide, by decide⟩
theorem wt_whole {k t p : Int64} (hk : OK20 k) (ht : OT31 t) (hp : OP31 p) : OWt (FP.l2d k) (FP.l2d p) (FP.l2d t) (oW k t p) := by
  have e1 := ow_add1 hk
  have hw := ow_nn hk ht hp
  have kk := ow_k1 hk
  obtain ⟨m1, m2, m3, -, -⟩ := ow_den hk ht hp
  obtain ⟨k1, k2⟩ := hk
  obtain ⟨t1, t2⟩ := ht
  obtain ⟨p1, p2⟩ := hp
  have z0 := ow_zero
  have e2 : FP.dmul (FP.l2d (k + 1)) (FP.l2d t) = FP.l2d ((k + 1) * t) := dmul_k (A := 1048576) (B := 2147483647) (by omega) (by omega) (by omega) (by omega) (by decide) (by decide) (by decide) (fun q => by have := q.2; rw [Int64.lt_iff_toInt_lt] at this; omega) (fun q => by have := q.2; rw [Int64.lt_iff_toInt_lt] at this; omega)
  have e3 : FP.dmul (FP.l2d k) (FP.l2d p) = FP.l2d (k * p) := dmul_k (A := 1048575) (B := 2147483648) (by omega) (by omega) (by omega) (by omega) (by decide) (by decide) (by decide) (fun q => by have := q.2; rw [Int64.lt_iff_toInt_lt] at this; omega) (fun q => by have := q.2; rw [Int64.lt_iff_toInt_lt] at this; omega)
  have e4 : FP.dadd (FP.l2d t) (FP.l2d (k * p)) = FP.l2d (t + k * p) := dadd_w ⟨by omega, by omega⟩ ⟨by omega, by omega⟩
  exact Or.inl ⟨_, _, _, _, ⟨e1, nn_w rfl, e2, nn_w rfl, e3, nn_w rfl, e4, nn_w rfl⟩, dcmp_pinf (l2d_fin _) .g, dcmp_pinf (l2d_fin _) .g, rfl, hw⟩
theorem ok_zero : OK20 0 := ⟨by decide, by decide⟩
theorem op_zero : OP31 0 := ⟨by decide, by decide⟩
theorem wt_zero {t p : Int64} (ht : OT31 t) (hp : OP31 p) : OWt (FP.l2d 0) (FP.l2d p) (FP.l2d t) (FP.l2d 1) := by
  have h := wt_whole ok_zero ht hp
  have n := ow_num ok_zero ht
  have d := ow_den ok_zero ht hp
  have e : oW 0 t p = FP.l2d 1 := od_exact n.2 d.2.2.2.2 ⟨by decide, by decide⟩ (by rw [n.1, d.2.2.2.1, ow_zero, ow_one]; simp)
  rw [e] at h; exact h
theorem wt_pzero {k t : Int64} (hk : OK20 k) (ht : OT31 t) : OWt (FP.l2d k) (FP.l2d 0) (FP.l2d t) (FP.l2d (k + 1)) := by
  have h := wt_whole hk ht op_zero
  have n := ow_num hk ht
  have d := ow_den hk ht op_zero
  have kk := ow_k1 hk
  have e : oW k t 0 = FP.l2d (k + 1) := od_exact n.2 d.2.2.2.2 ⟨by rw [kk]; have := hk.1; omega, by rw [kk]; have := hk.2; omega⟩ (by rw [n.1, d.2.2.2.1, ow_zero, kk]; simp)
  rw [e] at h; exact h
theorem i32_mul {a b : Int32} (h1 : -2147483648 ≤ a.toInt * b.toInt) (h2 : a.toInt * b.toInt ≤ 2147483647) : (a * b).toInt = a.toInt * b.toInt := by
  rw [Int32.toInt_mul]; exact Int.bmod_eq_of_le (by omega) (by omega)
theorem i32_add {a b : Int32} (h1 : -2147483648 ≤ a.toInt + b.toInt) (h2 : a.toInt + b.toInt ≤ 2147483647) : (a + b).toInt = a.toInt + b.toInt := by
  rw [Int32.toInt_add]; exact Int.bmod_eq_of_le (by omega) (by omega)
theorem i32_sub {a b : Int32} (h1 : -2147483648 ≤ a.toInt - b.toInt) (h2 : a.toInt - b.toInt ≤ 2147483647) : (a - b).toInt = a.toInt - b.toInt := by
  rw [Int32.toInt_sub]; exact Int.bmod_eq_of_le (by omega) (by omega)
theorem i32_one : (1 : Int32).toInt = 1 := rfl
theorem wt_m3 {a c p : Int32} (ha : 1 ≤ a.toInt ∧ a.toInt ≤ 64) (hc : 1 ≤ c.toInt ∧ c.toInt ≤ 64) (hp : 1 ≤ p.toInt ∧ p.toInt ≤ 4096) : OK20 ((a + 1) * c - 1).toInt64 ∧ OWt (FP.l2d ((a + 1) * c - 1).toInt64) (FP.l2d p.toInt64) (FP.l2d (((a + 1) * c - 1) * p * a).toInt64) (FP.l2d (c * a).toInt64) := by
  obtain ⟨a1, a2⟩ := ha
  obtain ⟨c1, c2⟩ := hc
  obtain ⟨p1, p2⟩ := hp
  have o1 := i32_one
  have e1 : (a + 1).toInt = a.toInt + 1 := by rw [i32_add (by omega) (by omega), o1]
  have b1 : 2 * 1 ≤ (a.toInt + 1) * c.toInt := Int.mul_le_mul (by omega) (by omega) (by omega) (by omega)
  have b2 : (a.toInt + 1) * c.toInt ≤ 65 * 64 := Int.mul_le_mul (by omega) (by omega) (by omega) (by omega)
  have e2 : ((a + 1) * c).toInt = (a.toInt + 1) * c.toInt := by rw [i32_mul (by rw [e1]; omega) (by rw [e1]; omega), e1]
  have e3 : ((a + 1) * c - 1).toInt = (a.toInt + 1) * c.toInt - 1 := by rw [i32_sub (by rw [e2, o1]; omega) (by rw [e2, o1]; omega), e2, o1]
  generalize ((a + 1) * c - 1) = k at *
  have k1 : 1 ≤ k.toInt := by omega
  have k2 : k.toInt ≤ 4159 := by omega
  have b3 : 1 * 1 ≤ k.toInt * p.toInt := Int.mul_le_mul (by omega) (by omega) (by omega) (by omega)
  have b4 : k.toInt * p.toInt ≤ 4159 * 4096 := Int.mul_le_mul (by omega) (by omega) (by omega) (by omega)
  have e4 : (k * p).toInt = k.toInt * p.toInt := i32_mul (by omega) (by omega)
  have b5 : 1 * 1 ≤ (k.toInt * p.toInt) * a.toInt := Int.mul_le_mul (by omega) (by omega) (by omega) (by omega)
  have b6 : (k.toInt * p.toInt) * a.toInt ≤ 17035264 * 64 := Int.mul_le_mul (by omega) (by omega) (by omega) (by omega)
  have e5 : (k * p * a).toInt = k.toInt * p.toInt * a.toInt := by rw [i32_mul (by rw [e4]; omega) (by rw [e4]; omega), e4]
  have b7 : 1 * 1 ≤ c.toInt * a.toInt := Int.mul_le_mul (by omega) (by omega) (by omega) (by omega)
  have b8 : c.toInt * a.toInt ≤ 64 * 64 := Int.mul_le_mul (by omega) (by omega) (by omega) (by omega)
  have e6 : (c * a).toInt = c.toInt * a.toInt := i32_mul (by omega) (by omega)
  have hk : OK20 k.toInt64 := ⟨by rw [Int32.toInt_toInt64]; omega, by rw [Int32.toInt_toInt64]; omega⟩
  have ht : OT31 (k * p * a).toInt64 := ⟨by rw [Int32.toInt_toInt64, e5]; omega, by rw [Int32.toInt_toInt64, e5]; omega⟩
  have hpp : OP31 p.toInt64 := ⟨by rw [Int32.toInt_toInt64]; omega, by rw [Int32.toInt_toInt64]; omega⟩
  refine ⟨hk, ?_⟩
  have h := wt_whole hk ht hpp
  have n := ow_num hk ht
  have d := ow_den hk ht hpp
  have e : oW k.toInt64 (k * p * a).toInt64 p.toInt64 = FP.l2d (c * a).toInt64 := by
    refine od_exact n.2 d.2.2.2.2 ⟨by rw [Int32.toInt_toInt64, e6]; omega, by rw [Int32.toInt_toInt64, e6]; omega⟩ ?_
    rw [n.1, d.2.2.2.1, Int32.toInt_toInt64, Int32.toInt_toInt64, Int32.toInt_toInt64, Int32.toInt_toInt64, e5, e6]
    have g1 : k.toInt + 1 = (a.toInt + 1) * c.toInt := by omega
    have g2 : k.toInt * p.toInt * a.toInt + k.toInt * p.toInt = k.toInt * p.toInt * (a.toInt + 1) := by rw [Int.mul_add, Int.mul_one]
    rw [g1, g2]
    generalize a.toInt + 1 = B
    ac_rfl
  rw [e] at h; exact h
/-- the weight is monotone in the exact quotient -/
theorem ow_le {k t p k' t' p' : Int64} (hk : OK20 k) (ht : OT31 t) (hp : OP31 p) (hk' : OK20 k') (ht' : OT31 t') (hp' : OP31 p') (h : (k.toInt + 1) * t.toInt * (t'.toInt + k'.toInt * p'.toInt) ≤ (k'.toInt + 1) * t'.toInt * (t.toInt + k.toInt * p.toInt)) (o : CmpOp) : ¬ (0 : Int32) < cmpValue (FP.dcmp (oW k t p) (oW k' t' p')) o := by
  have n := ow_num hk ht
  have d := ow_den hk ht hp
  have n' := ow_num hk' ht'
  have d' := ow_den hk' ht' hp'
  refine od_cmp_le (od_ne n.2 d.2.2.2.2) (od_ne n'.2 d'.2.2.2.2) (od_le n.2 d.2.2.2.2 n'.2 d'.2.2.2.2 ?_) o
  rw [n.1, n'.1, d.2.2.2.1, d'.2.2.2.1]; exact h
theorem ow_t {k t t' p : Int64} (hk : OK20 k) (ht : OT31 t) (ht' : OT31 t') (hp : OP31 p) (e : t'.toInt = t.toInt + 1) (o : CmpOp) : ¬ (0 : Int32) < cmpValue (FP.dcmp (oW k t p) (oW k t' p)) o := by
  refine ow_le hk ht hp hk ht' hp ?_ o
  have m0 : 0 ≤ k.toInt * p.toInt := Int.mul_nonneg hk.1 hp.1
  have k0 := hk.1
  rw [e, Int.mul_assoc, Int.mul_assoc]
  refine Int.mul_le_mul_of_nonneg_left ?_ (by omega)
  generalize k.toInt * p.toInt = M at *
  generalize t.toInt = A at *
  have e1 : A * (A + 1 + M) = A * A + A + A * M := by rw [Int.mul_add, Int.mul_add, Int.mul_one]
  have e2 : (A + 1) * (A + M) = A * A + A * M + (A + M) := by rw [Int.add_mul, Int.mul_add, Int.one_mul]
  rw [e1, e2]; omega
theorem ow_p {k t p p' : Int64} (hk : OK20 k) (ht : OT31 t) (hp : OP31 p) (hp' : OP31 p') (e : p.toInt ≤ p'.toInt) (o : CmpOp) : ¬ (0 : Int32) < cmpValue (FP.dcmp (oW k t p') (oW k t p)) o := by
  refine ow_le hk ht hp' hk ht hp ?_ o
  have k0 := hk.1
  have t0 := ht.1
  refine Int.mul_le_mul_of_nonneg_left ?_ (Int.mul_nonneg (by omega) (by omega))
  have := Int.mul_le_mul_of_nonneg_left e k0
  omega
theorem ow_eps : (0 : Int) < Jvm.FP.Core.zval Jvm.FP.Core.b64 (Jvm.FP.Core.val64 (FP.ddiv (FP.l2d 1) (FP.l2d 4503599627370496))) := by decide +kernel
theorem ow_z0 : Jvm.FP.Core.zval Jvm.FP.Core.b64 (Jvm.FP.Core.val64 (FP.l2d 0)) = 0 := by decide +kernel
theorem ow_pos {k t p : Int64} (hk : OK20 k) (ht : OT31 t) (hp : OP31 p) (o : CmpOp) : cmpValue (FP.dcmp (FP.l2d 0) (oW k t p)) o = (-1 : Int32) := by
  have n := ow_num hk ht
  have d := ow_den hk ht hp
  refine od_cmp_lt (val64_no.mp (nn_w rfl)) (od_ne n.2 d.2.2.2.2) ?_ o
  rw [ow_z0]
  refine Int.lt_of_lt_of_le ow_eps (od_le ⟨by decide, by decide⟩ ⟨by decide, by decide⟩ n.2 d.2.2.2.2 ?_)
  have q1 : (1 : Int64).toInt = 1 := rfl
  have q2 : (4503599627370496 : Int64).toInt = 4503599627370496 := by decide
  have q3 := n.2.1
  have q4 := d.2.2.2.1
  have q5 := d.2.2.1
  have q6 := ht.2
  rw [q1, q2]
  omega
theorem ow_div1 {k : Int64} (hk : OK20 k) : FP.ddiv (FP.l2d (k + 1)) (FP.l2d 1) = FP.l2d (k + 1) := by
  have kk := ow_k1 hk
  have o : OPos (k + 1) := ⟨by rw [kk]; have := hk.1; omega, by rw [kk]; have := hk.2; omega⟩
  exact od_exact o ⟨by decide, by decide⟩ o (by rw [ow_one, Int.mul_one])
theorem ow_top {k t p : Int64} (hk : OK20 k) (ht : OT31 t) (hp : OP31 p) (o : CmpOp) : ¬ (0 : Int32) < cmpValue (FP.dcmp (oW k t p) (FP.l2d (k + 1))) o := by
  have n := ow_num hk ht
  have d := ow_den hk ht hp
  have kk := ow_k1 hk
  have ok : OPos (k + 1) := ⟨by rw [kk]; have := hk.1; omega, by rw [kk]; have := hk.2; omega⟩
  have o1 : OPos 1 := ⟨by decide, by decide⟩
  rw [← ow_div1 hk]
  refine od_cmp_le (od_ne n.2 d.2.2.2.2) (od_ne ok o1) (od_le n.2 d.2.2.2.2 ok o1 ?_) o
  rw [n.1, d.2.2.2.1, ow_one, kk, Int.mul_one]
  have k0 := hk.1
  exact Int.mul_le_mul_of_nonneg_left (by have := d.2.1; omega) (by omega)
theorem ow_lt {k t p : Int64} (hk : OK20 k) (ht : OT31 t) (hp : OP31 p) (hk0 : k.toInt ≠ 0) (hp0 : p.toInt ≠ 0) (o : CmpOp) : cmpValue (FP.dcmp (oW k t p) (FP.l2d (k + 1))) o = (-1 : Int32) := by
  have n := ow_num hk ht
  have d := ow_den hk ht hp
  have kk := ow_k1 hk
  have k0 := hk.1
  have k2 := hk.2
  have q1 : (4294967295 : Int64).toInt = 4294967295 := by decide
  have q2 : (4294967296 : Int64).toInt = 4294967296 := by decide
  have e1 : ((k + 1) * 4294967295).toInt = (k.toInt + 1) * 4294967295 := by
    rw [Jvm.FP.Core.int64_mul (by rw [kk, q1]; omega) (by rw [kk, q1]; omega), kk, q1]
  have ok : OPos ((k + 1) * 4294967295) := ⟨by rw [e1]; omega, by rw [e1]; omega⟩
  have o1 : OPos 4294967296 := ⟨by decide, by decide⟩
  have okk : OPos (k + 1) := ⟨by rw [kk]; omega, by rw [kk]; omega⟩
  refine od_cmp_lt (od_ne n.2 d.2.2.2.2) (val64_no.mp (nn_w rfl)) (Int.lt_of_le_of_lt (od_le n.2 d.2.2.2.2 ok o1 ?_) ?_) o
  · rw [n.1, d.2.2.2.1, e1, q2, Int.mul_assoc, Int.mul_assoc]
    refine Int.mul_le_mul_of_nonneg_left ?_ (by omega)
    have p0 := hp.1
    have m1 : 1 * 1 ≤ k.toInt * p.toInt := Int.mul_le_mul (by omega) (by omega) (by omega) (by omega)
    have t2 := ht.2
    omega
  · obtain ⟨z, fz, hz⟩ := oh_shift (a := (k + 1) * 4294967295) ok.sm ok.1 (k := -32) (by decide) (by decide) (Or.inl (by decide))
    have ez : Jvm.FP.Core.val64 (FP.ddiv (FP.l2d ((k + 1) * 4294967295)) (FP.l2d 4294967296)) = z := by
      refine (Jvm.FP.Core.val64_ddiv (FP.l2d ((k + 1) * 4294967295)) (FP.l2d 4294967296)).trans (fp_exact (fp_l2d ok.sm ok.1) (fp_l2d o1.sm o1.1) hz fz (by rw [q2]; decide) ?_)
      rw [q2, show ((0 : Int) - 0 - -32).toNat = 32 by decide, show ((-32 : Int) - (0 - 0)).toNat = 0 by decide, Nat.pow_zero, Nat.mul_one, show (4294967296 : Int).toNat = 2 ^ 32 by decide]
    have z1 : Jvm.FP.Core.zval Jvm.FP.Core.b64 (Jvm.FP.Core.val64 (FP.ddiv (FP.l2d ((k + 1) * 4294967295)) (FP.l2d 4294967296))) = _ := (congrArg _ ez).trans (fp_zmag hz fz (by decide))
    have z2 : Jvm.FP.Core.zval Jvm.FP.Core.b64 (Jvm.FP.Core.val64 (FP.l2d (k + 1))) = _ := fp_zmag (fp_l2d okk.sm okk.1) (Jvm.FP.Core.val64_fits _) (by decide)
    rw [z1, z2]
    refine Int.ofNat_lt.mpr ?_
    rw [show ((0 : Int) - Jvm.FP.Core.b64.qmin).toNat = 32 + (-32 - Jvm.FP.Core.b64.qmin).toNat by decide, Nat.pow_add, ← Nat.mul_assoc]
    refine Nat.mul_lt_mul_of_pos_right ?_ (Nat.two_pow_pos _)
    rw [e1, kk, show (2 : Nat) ^ 32 = 4294967296 by decide]
    omega
/-- the great factor -/
theorem oh_fin {N : Nat} {E : Int} {x : UInt64} (h : FPos N E (Jvm.FP.Core.val64 x)) : Fin64 x := fin64_core.mpr (by obtain ⟨c, q, e, -⟩ := h; exact ⟨false, c, q, e⟩)
theorem oh_nn {N : Nat} {E : Int} {x : UInt64} (h : FPos N E (Jvm.FP.Core.val64 x)) : NoNaN64 x := (oh_fin h).noNaN
theorem oh_eq {x y : UInt64} (hy : NoNaN64 y) (h : Jvm.FP.Core.val64 x = Jvm.FP.Core.val64 y) : x = y := Jvm.FP.Core.val64_inj (by rw [h]; exact val64_no.mp hy) h
theorem oh_nh : NoNaN64 oHuge := oh_nn oh_pos
theorem oh_ni : NoNaN64 oInf := by unfold NoNaN64; decide
theorem oh_nv : NoNaN64 (FP.ddiv FP.dconst1 oHuge) := by unfold NoNaN64; decide +kernel
theorem oh_n1 : NoNaN64 FP.dconst1 := by unfold NoNaN64; decide
theorem oh_ii : cmpValue (FP.dcmp oInf oInf) .g = (0 : Int32) := by decide +kernel
theorem oh_vi : Jvm.FP.Core.val64 oInf = .inf false := by decide +kernel
theorem oh_hz : FP.dmul oHuge (FP.l2d 0) = FP.l2d 0 := by decide +kernel
theorem oh_l0 : FP.l2d 0 = FP.dconst0 := by decide +kernel
theorem oh_mul1 {t : Int64} (ht : OT31 t) : FP.dmul FP.dconst1 (FP.l2d t) = FP.l2d t := by
  obtain ⟨t1, t2⟩ := ht
  rw [oh_one, dmul_k (A := 1) (B := 2147483647) (by decide) (by decide) (by omega) (by omega) (by decide) (by decide) (by decide) (fun q => absurd q.1 (by decide)) (fun q => absurd q.2 (by decide)), Int64.one_mul]
theorem oh_ft {t : Int64} (ht : OT31 t) : FPos t.toInt.toNat 0 (Jvm.FP.Core.val64 (FP.l2d t)) := fp_l2d ⟨by have := ht.1; omega, by have := ht.2; omega⟩ (by have := ht.1; omega)
theorem oh_fq {t : Int64} (ht : OT31 t) : FPos t.toInt.toNat (-1000) (Jvm.FP.Core.val64 (FP.ddiv (FP.l2d t) oHuge)) := oh_div ⟨by have := ht.1; omega, by have := ht.2; omega⟩ (by have := ht.1; omega)
theorem oh_sm {t : Int64} (ht : OT31 t) : Jvm.FP.Core.Small53 t := ⟨by have := ht.1; omega, by have := ht.2; omega⟩
theorem oh_xd {x y z : UInt64} {N D : Nat} {E F G : Int} {Q : Nat} (hx : FPos N E (Jvm.FP.Core.val64 x)) (hy : FPos D F (Jvm.FP.Core.val64 y)) (hz : FPos Q G (Jvm.FP.Core.val64 z)) (hD : 0 < D) (h : N * 2 ^ (E - F - G).toNat = Q * D * 2 ^ (G - (E - F)).toNat) : FP.ddiv x y = z :=
  oh_eq (oh_nn hz) ((Jvm.FP.Core.val64_ddiv x y).trans (fp_exact hx hy hz (Jvm.FP.Core.val64_fits z) hD h))
theorem wt_huge0 {t : Int64} (ht : OT31 t) : OWt oHuge (FP.l2d 0) (FP.l2d t) oHuge := by
  have ft := oh_ft ht
  have fq := oh_fq ht
  have sm := oh_sm ht
  have e9 := oh_mul1 ht
  obtain ⟨t1, t2⟩ := ht
  have h0 : 0 < t.toInt := by omega
  have hn : 0 < t.toInt.toNat := by omega
  have e4 : FP.dadd (FP.l2d t) (FP.l2d 0) = FP.l2d t := by rw [dadd_w ⟨by omega, by omega⟩ ⟨by decide, by decide⟩, Int64.add_zero]
  by_cases hs : t.toInt < 16777216
  · obtain ⟨f1, f2⟩ := oh_mul sm h0 hs
    have e7 : FP.ddiv (FP.dmul oHuge (FP.l2d t)) (FP.l2d t) = oHuge := oh_xd f1 ft oh_pos hn (by simp)
    exact Or.inl ⟨oHuge, _, FP.l2d 0, FP.l2d t, ⟨oh_add, oh_nh, rfl, oh_nn f1, oh_hz, nn_w rfl, e4, nn_w rfl⟩, dcmp_pinf (oh_fin f1) .g, dcmp_pinf (l2d_fin _) .g, e7, oh_nh⟩
  · have e2 : FP.dmul oHuge (FP.l2d t) = oInf := oh_inf sm (by omega)
    have e8 : FP.dadd (FP.ddiv (FP.l2d t) oHuge) (FP.l2d 0) = FP.ddiv (FP.l2d t) oHuge := by
      rw [oh_l0]
      refine Jvm.FP.Core.dadd_zero (val64_no.mp (oh_nn fq)) (fun z => ?_)
      obtain ⟨c, q, e, -⟩ := fq
      rw [z, Jvm.FP.Core.val64_dzeroNeg] at e
      cases e
    have e7 : FP.ddiv (FP.l2d t) (FP.ddiv (FP.l2d t) oHuge) = oHuge := oh_xd ft fq oh_pos hn (by simp)
    exact Or.inr ⟨oHuge, oInf, FP.l2d 0, FP.l2d t, _, FP.dconst1, FP.l2d t, _, FP.ddiv (FP.l2d t) oHuge, ⟨oh_add, oh_nh, e2, oh_ni, oh_hz, nn_w rfl, e4, nn_w rfl⟩, Or.inl oh_ii, rfl, oh_nv, oh_inv, oh_n1, e9, nn_w rfl, rfl, oh_nn fq, e8, oh_nn fq, e7, oh_nh⟩
theorem wt_huge {t p : Int64} (ht : OT31 t) (hp : OT31 p) : OWt oHuge (FP.l2d p) (FP.l2d t) (FP.ddiv (FP.l2d t) (FP.l2d p)) := by
  have ft := oh_ft ht
  have fp := oh_ft hp
  have fq := oh_fq ht
  have smt := oh_sm ht
  have smp := oh_sm hp
  have e9 := oh_mul1 ht
  have ot : OPos t := ⟨by have := ht.1; omega, by have := ht.2; omega⟩
  have op : OPos p := ⟨by have := hp.1; omega, by have := hp.2; omega⟩
  obtain ⟨t1, t2⟩ := ht
  obtain ⟨p1, p2⟩ := hp
  have h0t : 0 < t.toInt := by omega
  have h0p : 0 < p.toInt := by omega
  have hnt : 0 < t.toInt.toNat := by omega
  have hnp : 0 < p.toInt.toNat := by omega
  have bt : t.toInt.toNat < 2 ^ 53 := by omega
  have bp : p.toInt.toNat < 2 ^ 53 := by omega
  have nw : NoNaN64 (FP.ddiv (FP.l2d t) (FP.l2d p)) := val64_no.mpr (od_ne ot op)
  have npr : NoNaN64 (FP.dmul oHuge (FP.l2d p)) := dmul_out (oh_fin oh_pos) (l2d_fin _)
  have nden : NoNaN64 (FP.dadd (FP.l2d t) (FP.dmul oHuge (FP.l2d p))) := by
    have q : NoNaN64 (FP.dadd (FP.dmul oHuge (FP.l2d p)) (FP.l2d t)) := dadd_out npr (l2d_fin _)
    rw [show FP.dadd (FP.l2d t) (FP.dmul oHuge (FP.l2d p)) = FP.dadd (FP.dmul oHuge (FP.l2d p)) (FP.l2d t) from Jvm.FP.Core.dadd_comm _ _]; exact q
  have e8 : FP.dadd (FP.ddiv (FP.l2d t) oHuge) (FP.l2d p) = FP.l2d p :=
    (Jvm.FP.Core.dadd_comm (FP.ddiv (FP.l2d t) oHuge) (FP.l2d p)).trans (oh_eq (nn_w rfl) ((Jvm.FP.Core.val64_dadd (FP.l2d p) (FP.ddiv (FP.l2d t) oHuge)).trans (fp_absorbD fp (Jvm.FP.Core.val64_fits _) fq (Jvm.FP.Core.val64_fits _) hnp bp hnt bt (by decide) (by decide) (by decide))))
  have road2 : ∀ num pr den, FP.dmul oHuge (FP.l2d t) = num → NoNaN64 num → FP.dmul oHuge (FP.l2d p) = pr → NoNaN64 pr → FP.dadd (FP.l2d t) pr = den → NoNaN64 den → (cmpValue (FP.dcmp num oInf) .g = (0 : Int32) ∨ (cmpValue (FP.dcmp num oInf) .g = (-1 : Int32) ∧ cmpValue (FP.dcmp den oInf) .g = (0 : Int32))) → OWt oHuge (FP.l2d p) (FP.l2d t) (FP.ddiv (FP.l2d t) (FP.l2d p)) := fun num pr den h1 h2 h3 h4 h5 h6 h7 =>
    Or.inr ⟨oHuge, num, pr, den, _, FP.dconst1, FP.l2d t, _, FP.l2d p, ⟨oh_add, oh_nh, h1, h2, h3, h4, h5, h6⟩, h7, rfl, oh_nv, oh_inv, oh_n1, e9, nn_w rfl, rfl, oh_nn fq, e8, nn_w rfl, rfl, nw⟩
  by_cases hs : t.toInt < 16777216
  · obtain ⟨f1, f2⟩ := oh_mul smt h0t hs
    by_cases hr : p.toInt < 16777216
    · obtain ⟨g1, g2⟩ := oh_mul smp h0p hr
      have e4 : FP.dadd (FP.l2d t) (FP.dmul oHuge (FP.l2d p)) = FP.dmul oHuge (FP.l2d p) :=
        (Jvm.FP.Core.dadd_comm (FP.l2d t) (FP.dmul oHuge (FP.l2d p))).trans (oh_eq npr ((Jvm.FP.Core.val64_dadd (FP.dmul oHuge (FP.l2d p)) (FP.l2d t)).trans (fp_absorbD g1 g2 ft (Jvm.FP.Core.val64_fits _) hnp bp hnt bt (by decide) (by decide) (by decide))))
      have e7 : FP.ddiv (FP.dmul oHuge (FP.l2d t)) (FP.dmul oHuge (FP.l2d p)) = FP.ddiv (FP.l2d t) (FP.l2d p) :=
        oh_eq nw ((Jvm.FP.Core.val64_ddiv (FP.dmul oHuge (FP.l2d t)) (FP.dmul oHuge (FP.l2d p))).trans ((fp_quot f1 g1 hnp).trans (by rw [od_val ot op, Int.sub_self])))
      exact Or.inl ⟨oHuge, _, _, _, ⟨oh_add, oh_nh, rfl, oh_nn f1, rfl, npr, e4, npr⟩, dcmp_pinf (oh_fin f1) .g, dcmp_pinf (oh_fin g1) .g, e7, nw⟩
    · have e3 : FP.dmul oHuge (FP.l2d p) = oInf := oh_inf smp (by omega)
      have e4 : FP.dadd (FP.l2d t) oInf = oInf := oh_eq oh_ni ((Jvm.FP.Core.val64_dadd (FP.l2d t) oInf).trans (by obtain ⟨c, q, e, -⟩ := ft; rw [e, oh_vi]; rfl))
      exact road2 _ oInf oInf rfl (oh_nn f1) e3 oh_ni e4 oh_ni (Or.inr ⟨dcmp_pinf (oh_fin f1) .g, oh_ii⟩)
  · have e2 : FP.dmul oHuge (FP.l2d t) = oInf := oh_inf smt (by omega)
    exact road2 oInf _ _ e2 oh_ni rfl npr rfl nden (Or.inl oh_ii)
/-- what the constructors ask -/
def OBv (bv : UInt64) : Prop := (¬ cmpValue (FP.dcmp bv FP.dconst0) .l < (0 : Int32)) ∧ ¬ (0 : Int32) < cmpValue (FP.dcmp bv FP.dconst1) .g
def OKv (k1 : UInt64) : Prop := (¬ cmpValue (FP.dcmp k1 FP.dconst0) .l < (0 : Int32)) ∧ cmpValue (FP.dcmp k1 oInf) .g < (0 : Int32)
theorem ow_b (z : Int32) : OBv (FP.l2d (z &&& (1 : Int32)).toInt64) := by
  obtain ⟨h1, h2⟩ := c_and z 1 (by decide)
  have o1 := i32_one
  rcases (show (z &&& (1 : Int32)).toInt = 0 ∨ (z &&& (1 : Int32)).toInt = 1 by omega) with h | h
  · rw [show (z &&& (1 : Int32)) = 0 from Int32.toInt_inj.mp h]; exact ⟨by decide +kernel, by decide +kernel⟩
  · rw [show (z &&& (1 : Int32)) = 1 from Int32.toInt_inj.mp h]; exact ⟨by decide +kernel, by decide +kernel⟩
theorem ow_kw {k : Int64} (hk : OK20 k) : OKv (FP.l2d k) := by
  obtain ⟨k1, k2⟩ := hk
  refine ⟨?_, ?_⟩
  · rw [← oh_l0, dcmpV_w ⟨by omega, by omega⟩ ⟨by decide, by decide⟩, lw_lt, Int64.lt_iff_toInt_lt, ow_zero]; omega
  · rw [dcmp_pinf (l2d_fin _) .g]; decide
theorem ow_kh : OKv oHuge := ⟨by decide +kernel, by decide +kernel⟩
/-- the law's own ints -/
def oMax (a b : Int32) : Int32 := if a < b then b else a
theorem ow_max (x : Int32) : OT31 (oMax (1 : Int32) x).toInt64 := by
  have r := rng32 x
  have o1 := i32_one
  unfold OT31 oMax
  rw [Int32.toInt_toInt64]
  split
  · rename_i h; rw [Int32.lt_iff_toInt_lt] at h; omega
  · omega
theorem ow_and31 (x : Int32) : 0 ≤ (x &&& (2147483647 : Int32)).toInt64.toInt ∧ (x &&& (2147483647 : Int32)).toInt64.toInt ≤ 2147483647 := by
  rw [Int32.toInt_toInt64]; exact c_and x 2147483647 (by decide)
theorem ow_p31 (x : Int32) : OP31 (x &&& (2147483647 : Int32)).toInt64 := ⟨(ow_and31 x).1, by have := (ow_and31 x).2; omega⟩
theorem ow_p31' (x : Int32) : OP31 ((x &&& (2147483647 : Int32)).toInt64 + 1) ∧ ((x &&& (2147483647 : Int32)).toInt64 + 1).toInt = (x &&& (2147483647 : Int32)).toInt64.toInt + 1 ∧ FP.dadd (FP.l2d (x &&& (2147483647 : Int32)).toInt64) FP.dconst1 = FP.l2d ((x &&& (2147483647 : Int32)).toInt64 + 1) := by
  obtain ⟨h1, h2⟩ := ow_and31 x
  generalize (x &&& (2147483647 : Int32)).toInt64 = P at *
  have e : (P + 1).toInt = P.toInt + 1 := by rw [Jvm.RoadKit.add64 (a := P) (b := 1) ⟨by omega, by omega⟩ ⟨by decide, by decide⟩, ow_one]
  exact ⟨⟨by rw [e]; omega, by rw [e]; omega⟩, e, by rw [oh_one]; exact dadd_w ⟨by omega, by omega⟩ ⟨by decide, by decide⟩⟩
theorem ow_k20 (x : Int32) : OK20 (x &&& (1048575 : Int32)).toInt64 := by
  have h := c_and x 1048575 (by decide)
  exact ⟨by rw [Int32.toInt_toInt64]; exact h.1, by rw [Int32.toInt_toInt64]; exact h.2⟩
theorem ow_t4 (x : Int32) : OT31 (oMax (1 : Int32) ((x &&& (2147483647 : Int32)) - (1 : Int32)) + (1 : Int32)).toInt64 ∧ (oMax (1 : Int32) ((x &&& (2147483647 : Int32)) - (1 : Int32)) + (1 : Int32)).toInt64.toInt = (oMax (1 : Int32) ((x &&& (2147483647 : Int32)) - (1 : Int32))).toInt64.toInt + 1 := by
  have h := c_and x 2147483647 (by decide)
  have h3 : (2147483647 : Int32).toInt = 2147483647 := rfl
  have o1 := i32_one
  generalize (x &&& (2147483647 : Int32)) = u at *
  have e : (u - 1).toInt = u.toInt - 1 := by rw [i32_sub (by omega) (by omega), o1]
  have b : 1 ≤ (oMax (1 : Int32) (u - 1)).toInt ∧ (oMax (1 : Int32) (u - 1)).toInt ≤ 2147483646 := by
    unfold oMax
    split
    · rename_i q; rw [Int32.lt_iff_toInt_lt] at q; omega
    · omega
  generalize oMax (1 : Int32) (u - 1) = t at *
  have e2 : (t + 1).toInt = t.toInt + 1 := by rw [i32_add (by omega) (by omega), o1]
  exact ⟨⟨by rw [Int32.toInt_toInt64, e2]; omega, by rw [Int32.toInt_toInt64, e2]; omega⟩, by rw [Int32.toInt_toInt64, Int32.toInt_toInt64, e2]⟩
theorem ow_a3 (x : Int32) (k : Int32) (K : Int) (hk : k.toInt = K) (h0 : 0 ≤ K) (h1 : K ≤ 4095) : 1 ≤ ((1 : Int32) + (x &&& k)).toInt ∧ ((1 : Int32) + (x &&& k)).toInt ≤ K + 1 := by
  have h := c_and x k (by omega)
  have o1 := i32_one
  have e : ((1 : Int32) + (x &&& k)).toInt = 1 + (x &&& k).toInt := by rw [i32_add (by omega) (by omega), o1]
  omega
theorem ow_nz {k : Int32} (h : ¬ k = 0) : k.toInt64.toInt ≠ 0 := by
  rw [Int32.toInt_toInt64]; exact fun q => h (Int32.toInt_inj.mp q)
theorem ow_pz {P : Int64} (h : ¬ lcmpW P 0 = 0) : P.toInt ≠ 0 := fun q => h ((lw_eq _ _).mpr (Int64.toInt_inj.mp q))
end OwnFPW
theorem ow_op {t : Int64} (h : OT31 t) : OPos t := ⟨by have := h.1; omega, by have := h.2; omega⟩
theorem ow_b53p {t : Int64} (h : OP31 t) : B53 t := ⟨by have := h.1; omega, by have := h.2; omega⟩
theorem pd_0 : parseMethodDescriptor "(D)V" = some ⟨[.double], none⟩ := by decide +kernel
theorem pd_1 : parseMethodDescriptor "(II)I" = some ⟨[.int, .int], some .int⟩ := by decide +kernel
theorem pd_2 : parseMethodDescriptor "(DD)V" = some ⟨[.double, .double], none⟩ := by decide +kernel
theorem pd_3 : parseMethodDescriptor "(ID)D" = some ⟨[.int, .double], some .double⟩ := by decide +kernel
theorem pn_B : plainName "com/example/busca/busca/rank/Bm25Model" = true := by first | (simp [plainName, overriddenIn]; done) | decide +kernel
theorem pn_N : plainName "com/example/busca/busca/rank/LengthNormalizedModel" = true := by first | (simp [plainName, overriddenIn]; done) | decide +kernel
theorem pn_L : plainName "com/example/busca/busca/rank/Bm25ModelWeightPinLaw" = true := by first | (simp [plainName, overriddenIn]; done) | decide +kernel
theorem dln_0 : decode prog_65_method_1_code 0 = .ok (.aload_n 0, 1) := by decide +kernel
theorem dln_1 : decode prog_65_method_1_code 1 = .ok (.invokespecial 1, 3) := by decide +kernel
theorem dln_4 : decode prog_65_method_1_code 4 = .ok (.dload_n 1, 1) := by decide +kernel
theorem dln_5 : decode prog_65_method_1_code 5 = .ok (.dconst 0, 1) := by decide +kernel
theorem dln_6 : decode prog_65_method_1_code 6 = .ok (.dcmp .l, 1) := by decide +kernel
theorem dln_7 : decode prog_65_method_1_code 7 = .ok (.ifCond .lt 9, 3) := by decide +kernel
theorem dln_10 : decode prog_65_method_1_code 10 = .ok (.dload_n 1, 1) := by decide +kernel
theorem dln_11 : decode prog_65_method_1_code 11 = .ok (.dconst 1, 1) := by decide +kernel
theorem dln_12 : decode prog_65_method_1_code 12 = .ok (.dcmp .g, 1) := by decide +kernel
theorem dln_13 : decode prog_65_method_1_code 13 = .ok (.ifCond .le 17, 3) := by decide +kernel
theorem dln_16 : decode prog_65_method_1_code 16 = .ok (.new 7, 3) := by decide +kernel
theorem dln_19 : decode prog_65_method_1_code 19 = .ok (.dup, 1) := by decide +kernel
theorem dln_20 : decode prog_65_method_1_code 20 = .ok (.dload_n 1, 1) := by decide +kernel
theorem dln_21 : decode prog_65_method_1_code 21 = .ok (.invokedynamic 9, 5) := by decide +kernel
theorem dln_26 : decode prog_65_method_1_code 26 = .ok (.invokespecial 13, 3) := by decide +kernel
theorem dln_29 : decode prog_65_method_1_code 29 = .ok (.athrow, 1) := by decide +kernel
theorem dln_30 : decode prog_65_method_1_code 30 = .ok (.aload_n 0, 1) := by decide +kernel
theorem dln_31 : decode prog_65_method_1_code 31 = .ok (.dload_n 1, 1) := by decide +kernel
theorem dln_32 : decode prog_65_method_1_code 32 = .ok (.putfield 16, 3) := by decide +kernel
theorem dln_35 : decode prog_65_method_1_code 35 = .ok (.return_, 1) := by decide +kernel
theorem ef_ln (a : Addr) (bv : UInt64) (m : MethodId) : entryFrame m #[(.ref a), (.double bv)] 3 = mkF m 0 #[.val (.ref a), .val (.double bv), .second] [] := by first | (simp [entryFrame, mkF, argsToLocals, o_catR, o_catN, o_catI, o_catJ, o_catD]; done) | rfl
set_option maxRecDepth 65536 in
set_option maxHeartbeats 40000000 in
theorem ct_ln (l : Launch) (Z : State) (a0 : Array Value) (hw : ∀ d ∈ tables_1, d.before a0 Z = true) (EL : List (String × Nat)) (n0 : Nat) (a : Addr) (bv : UInt64) (h0 : Heap) (F_a : OObj Z h0 a "com/example/busca/busca/rank/Bm25Model" [("com/example/busca/busca/rank/LengthNormalizedModel", "b", "D", (.double 0)), ("com/example/busca/busca/rank/Bm25Model", "k1", "D", (.double 0))]) (hB : OBv bv) :
    OCt l Z a0 EL n0 (⟨"com/example/busca/busca/rank/LengthNormalizedModel", "<init>", "(D)V"⟩ : MethodName) prog_65_method_1_code 3 none ({ frames := 1, cells := 0, slots := 0, locals := 12 } : Room) [] #[(.ref a), (.double bv)] h0 [a] (fun w vm h => w = none ∧ OObj Z h a "com/example/busca/busca/rank/Bm25Model" [("com/example/busca/busca/rank/LengthNormalizedModel", "b", "D", (.double bv)), ("com/example/busca/busca/rank/Bm25Model", "k1", "D", (.double 0))]) := by
  refine OCt.body (plainFor_of_name pn_N) (ef_ln a bv) ?_
  intro p e s m below meth c T hby hml hret hnm hsh P
  refine o_aloadN P (hb hby dln_0) rfl rfl (pc' := 1) rfl ?_
  refine o_initO P (W := 0) (ow hw 16 rfl) (ow hw 17 rfl) (ow hw 18 rfl) (by rw [hml]; rfl) (by decide) (Nat.le_of_eq rfl) (by decide) (hb hby dln_1) (pc' := 4) rfl ?_
  clear P; intro T P
  refine o_dloadN P (hb hby dln_4) rfl (pc' := 5) rfl ?_
  refine o_dconst0 P (hb hby dln_5) (v := FP.dconst0) rfl (pc' := 6) rfl ?_
  refine o_dcmp P (hb hby dln_6) (v := (cmpValue (FP.dcmp bv FP.dconst0) .l)) rfl (pc' := 7) rfl ?_
  refine o_if_lt P (hb hby dln_7) (by decide) (pc' := 16) (by decide) (pcf := 10) rfl (fun q => absurd q hB.1) (fun _ => ?_)
  refine o_dloadN P (hb hby dln_10) rfl (pc' := 11) rfl ?_
  refine o_dconst1 P (hb hby dln_11) (v := FP.dconst1) rfl (pc' := 12) rfl ?_
  refine o_dcmp P (hb hby dln_12) (v := (cmpValue (FP.dcmp bv FP.dconst1) .g)) rfl (pc' := 13) rfl ?_
  refine o_if_le P (hb hby dln_13) (by decide) (pc' := 30) (by decide) (pcf := 16) rfl (fun _ => ?_) (fun q => absurd q hB.2)
  refine o_aloadN P (hb hby dln_30) rfl rfl (pc' := 31) rfl ?_
  refine o_dloadN P (hb hby dln_31) rfl (pc' := 32) rfl ?_
  refine o_putF P (v' := (.double bv)) (ty := .double) (ow hw 19 rfl) Via.refl (F_a.fld 0 rfl) F_a.exa (Or.inr ⟨(ow hw 20 rfl), rfl, hnm⟩) (ow hw 6 rfl) (by decide) rfl rfl (List.Mem.head _) (hb hby dln_32) (pc' := 35) rfl ?_
  clear P; intro T h1 P W1
  replace F_a : OObj Z h1 a "com/example/busca/busca/rank/Bm25Model" [("com/example/busca/busca/rank/LengthNormalizedModel", "b", "D", (.double bv)), ("com/example/busca/busca/rank/Bm25Model", "k1", "D", (.double 0))] := F_a.put 0 rfl W1
  clear W1
  exact o_ret0 P hret (hb hby dln_35) (by decide) (by decide) ⟨rfl, F_a⟩
theorem dbm_0 : decode prog_60_method_1_code 0 = .ok (.aload_n 0, 1) := by decide +kernel
theorem dbm_1 : decode prog_60_method_1_code 1 = .ok (.dload_n 3, 1) := by decide +kernel
theorem dbm_2 : decode prog_60_method_1_code 2 = .ok (.invokespecial 1, 3) := by decide +kernel
theorem dbm_5 : decode prog_60_method_1_code 5 = .ok (.dload_n 1, 1) := by decide +kernel
theorem dbm_6 : decode prog_60_method_1_code 6 = .ok (.dconst 0, 1) := by decide +kernel
theorem dbm_7 : decode prog_60_method_1_code 7 = .ok (.dcmp .l, 1) := by decide +kernel
theorem dbm_8 : decode prog_60_method_1_code 8 = .ok (.ifCond .lt 11, 3) := by decide +kernel
theorem dbm_11 : decode prog_60_method_1_code 11 = .ok (.dload_n 1, 1) := by decide +kernel
theorem dbm_12 : decode prog_60_method_1_code 12 = .ok (.ldc2_w 9, 3) := by decide +kernel
theorem dbm_15 : decode prog_60_method_1_code 15 = .ok (.dcmp .g, 1) := by decide +kernel
theorem dbm_16 : decode prog_60_method_1_code 16 = .ok (.ifCond .lt 17, 3) := by decide +kernel
theorem dbm_19 : decode prog_60_method_1_code 19 = .ok (.new 11, 3) := by decide +kernel
theorem dbm_22 : decode prog_60_method_1_code 22 = .ok (.dup, 1) := by decide +kernel
theorem dbm_23 : decode prog_60_method_1_code 23 = .ok (.dload_n 1, 1) := by decide +kernel
theorem dbm_24 : decode prog_60_method_1_code 24 = .ok (.invokedynamic 13, 5) := by decide +kernel
theorem dbm_29 : decode prog_60_method_1_code 29 = .ok (.invokespecial 17, 3) := by decide +kernel
theorem dbm_32 : decode prog_60_method_1_code 32 = .ok (.athrow, 1) := by decide +kernel
theorem dbm_33 : decode prog_60_method_1_code 33 = .ok (.aload_n 0, 1) := by decide +kernel
theorem dbm_34 : decode prog_60_method_1_code 34 = .ok (.dload_n 1, 1) := by decide +kernel
theorem dbm_35 : decode prog_60_method_1_code 35 = .ok (.putfield 20, 3) := by decide +kernel
theorem dbm_38 : decode prog_60_method_1_code 38 = .ok (.return_, 1) := by decide +kernel
theorem ef_bm (a : Addr) (kv : UInt64) (bv : UInt64) (m : MethodId) : entryFrame m #[(.ref a), (.double kv), (.double bv)] 5 = mkF m 0 #[.val (.ref a), .val (.double kv), .second, .val (.double bv), .second] [] := by first | (simp [entryFrame, mkF, argsToLocals, o_catR, o_catN, o_catI, o_catJ, o_catD]; done) | rfl
set_option maxRecDepth 65536 in
set_option maxHeartbeats 40000000 in
theorem ct_bm (l : Launch) (Z : State) (a0 : Array Value) (hw : ∀ d ∈ tables_1, d.before a0 Z = true) (EL : List (String × Nat)) (n0 : Nat) (a : Addr) (kv bv : UInt64) (h0 : Heap) (F_a : OObj Z h0 a "com/example/busca/busca/rank/Bm25Model" [("com/example/busca/busca/rank/LengthNormalizedModel", "b", "D", (.double 0)), ("com/example/busca/busca/rank/Bm25Model", "k1", "D", (.double 0))]) (hB : OBv bv) (hK : OKv kv) :
    OCt l Z a0 EL n0 (⟨"com/example/busca/busca/rank/Bm25Model", "<init>", "(DD)V"⟩ : MethodName) prog_60_method_1_code 5 none ({ frames := 2, cells := 0, slots := 0, locals := 26 } : Room) [] #[(.ref a), (.double kv), (.double bv)] h0 [a] (fun w vm h => w = none ∧ OObj Z h a "com/example/busca/busca/rank/Bm25Model" [("com/example/busca/busca/rank/LengthNormalizedModel", "b", "D", (.double bv)), ("com/example/busca/busca/rank/Bm25Model", "k1", "D", (.double kv))]) := by
  refine OCt.body (plainFor_of_name pn_B) (ef_bm a kv bv) ?_
  intro p e s m below meth c T hby hml hret hnm hsh P
  refine o_aloadN P (hb hby dbm_0) rfl rfl (pc' := 1) rfl ?_
  refine o_dloadN P (hb hby dbm_1) rfl (pc' := 2) rfl ?_
  refine o_callI P (W := 0) (a := a) rfl (ow hw 11 rfl) (ow hw 12 rfl) (ow hw 14 rfl) (ow hw 15 rfl) (by decide) (ct_ln l Z a0 hw EL n0 a bv h0 F_a hB) (o_sfS (List.Mem.head _) o_sf0) (by rw [hml]; rfl) (by decide) (by decide) (argsL := [(.double bv)]) (rest := []) (lenOf pd_0 rfl) rfl rfl (Nat.le_of_eq rfl) (hb hby dbm_2) (pc' := 5) rfl (by decide) (by decide) ?_
  clear P; intro T h1 v1 P K1 q1
  obtain ⟨rfl, F_a'⟩ := q1
  clear F_a; have F_a := F_a'; clear F_a'; clear K1
  show OG p e below m _ T 5 _ []
  refine o_dloadN P (hb hby dbm_5) rfl (pc' := 6) rfl ?_
  refine o_dconst0 P (hb hby dbm_6) (v := FP.dconst0) rfl (pc' := 7) rfl ?_
  refine o_dcmp P (hb hby dbm_7) (v := (cmpValue (FP.dcmp kv FP.dconst0) .l)) rfl (pc' := 8) rfl ?_
  refine o_if_lt P (hb hby dbm_8) (by decide) (pc' := 19) (by decide) (pcf := 11) rfl (fun q => absurd q hK.1) (fun _ => ?_)
  refine o_dloadN P (hb hby dbm_11) rfl (pc' := 12) rfl ?_
  refine o_ldc2D P (ow hw 21 rfl) (hb hby dbm_12) (pc' := 15) rfl ?_
  refine o_dcmp P (hb hby dbm_15) (v := (cmpValue (FP.dcmp kv (9218868437227405312 : UInt64)) .g)) rfl (pc' := 16) rfl ?_
  refine o_if_lt P (hb hby dbm_16) (by decide) (pc' := 33) (by decide) (pcf := 19) rfl (fun _ => ?_) (fun q => absurd hK.2 q)
  refine o_aloadN P (hb hby dbm_33) rfl rfl (pc' := 34) rfl ?_
  refine o_dloadN P (hb hby dbm_34) rfl (pc' := 35) rfl ?_
  refine o_putF P (v' := (.double kv)) (ty := .double) (ow hw 22 rfl) Via.refl (F_a.fld 1 rfl) F_a.exa (Or.inr ⟨(ow hw 23 rfl), rfl, hnm⟩) (ow hw 6 rfl) (by decide) rfl rfl (List.Mem.head _) (hb hby dbm_35) (pc' := 38) rfl ?_
  clear P; intro T h2 P W2
  replace F_a : OObj Z h2 a "com/example/busca/busca/rank/Bm25Model" [("com/example/busca/busca/rank/LengthNormalizedModel", "b", "D", (.double bv)), ("com/example/busca/busca/rank/Bm25Model", "k1", "D", (.double kv))] := F_a.put 1 rfl W2
  clear W2
  exact o_ret0 P hret (hb hby dbm_38) (by decide) (by decide) ⟨rfl, F_a⟩
theorem dwt_0 : decode prog_60_method_2_code 0 = .ok (.aload_n 0, 1) := by decide +kernel
theorem dwt_1 : decode prog_60_method_2_code 1 = .ok (.getfield 20, 3) := by decide +kernel
theorem dwt_4 : decode prog_60_method_2_code 4 = .ok (.dconst 1, 1) := by decide +kernel
theorem dwt_5 : decode prog_60_method_2_code 5 = .ok (.dadd, 1) := by decide +kernel
theorem dwt_6 : decode prog_60_method_2_code 6 = .ok (.iload_n 1, 1) := by decide +kernel
theorem dwt_7 : decode prog_60_method_2_code 7 = .ok (.i2d, 1) := by decide +kernel
theorem dwt_8 : decode prog_60_method_2_code 8 = .ok (.dmul, 1) := by decide +kernel
theorem dwt_9 : decode prog_60_method_2_code 9 = .ok (.dstore 4, 2) := by decide +kernel
theorem dwt_11 : decode prog_60_method_2_code 11 = .ok (.iload_n 1, 1) := by decide +kernel
theorem dwt_12 : decode prog_60_method_2_code 12 = .ok (.i2d, 1) := by decide +kernel
theorem dwt_13 : decode prog_60_method_2_code 13 = .ok (.aload_n 0, 1) := by decide +kernel
theorem dwt_14 : decode prog_60_method_2_code 14 = .ok (.getfield 20, 3) := by decide +kernel
theorem dwt_17 : decode prog_60_method_2_code 17 = .ok (.dload_n 2, 1) := by decide +kernel
theorem dwt_18 : decode prog_60_method_2_code 18 = .ok (.dmul, 1) := by decide +kernel
theorem dwt_19 : decode prog_60_method_2_code 19 = .ok (.dadd, 1) := by decide +kernel
theorem dwt_20 : decode prog_60_method_2_code 20 = .ok (.dstore 6, 2) := by decide +kernel
theorem dwt_22 : decode prog_60_method_2_code 22 = .ok (.dload 4, 2) := by decide +kernel
theorem dwt_24 : decode prog_60_method_2_code 24 = .ok (.ldc2_w 9, 3) := by decide +kernel
theorem dwt_27 : decode prog_60_method_2_code 27 = .ok (.dcmp .g, 1) := by decide +kernel
theorem dwt_28 : decode prog_60_method_2_code 28 = .ok (.ifCond .ge 22, 3) := by decide +kernel
theorem dwt_31 : decode prog_60_method_2_code 31 = .ok (.dload 6, 2) := by decide +kernel
theorem dwt_33 : decode prog_60_method_2_code 33 = .ok (.ldc2_w 9, 3) := by decide +kernel
theorem dwt_36 : decode prog_60_method_2_code 36 = .ok (.dcmp .g, 1) := by decide +kernel
theorem dwt_37 : decode prog_60_method_2_code 37 = .ok (.ifCond .ge 13, 3) := by decide +kernel
theorem dwt_40 : decode prog_60_method_2_code 40 = .ok (.dload 4, 2) := by decide +kernel
theorem dwt_42 : decode prog_60_method_2_code 42 = .ok (.dload 6, 2) := by decide +kernel
theorem dwt_44 : decode prog_60_method_2_code 44 = .ok (.ddiv, 1) := by decide +kernel
theorem dwt_45 : decode prog_60_method_2_code 45 = .ok (.dstore 8, 2) := by decide +kernel
theorem dwt_47 : decode prog_60_method_2_code 47 = .ok (.goto 26, 3) := by decide +kernel
theorem dwt_50 : decode prog_60_method_2_code 50 = .ok (.dconst 1, 1) := by decide +kernel
theorem dwt_51 : decode prog_60_method_2_code 51 = .ok (.dconst 1, 1) := by decide +kernel
theorem dwt_52 : decode prog_60_method_2_code 52 = .ok (.aload_n 0, 1) := by decide +kernel
theorem dwt_53 : decode prog_60_method_2_code 53 = .ok (.getfield 20, 3) := by decide +kernel
theorem dwt_56 : decode prog_60_method_2_code 56 = .ok (.ddiv, 1) := by decide +kernel
theorem dwt_57 : decode prog_60_method_2_code 57 = .ok (.dadd, 1) := by decide +kernel
theorem dwt_58 : decode prog_60_method_2_code 58 = .ok (.iload_n 1, 1) := by decide +kernel
theorem dwt_59 : decode prog_60_method_2_code 59 = .ok (.i2d, 1) := by decide +kernel
theorem dwt_60 : decode prog_60_method_2_code 60 = .ok (.dmul, 1) := by decide +kernel
theorem dwt_61 : decode prog_60_method_2_code 61 = .ok (.iload_n 1, 1) := by decide +kernel
theorem dwt_62 : decode prog_60_method_2_code 62 = .ok (.i2d, 1) := by decide +kernel
theorem dwt_63 : decode prog_60_method_2_code 63 = .ok (.aload_n 0, 1) := by decide +kernel
theorem dwt_64 : decode prog_60_method_2_code 64 = .ok (.getfield 20, 3) := by decide +kernel
theorem dwt_67 : decode prog_60_method_2_code 67 = .ok (.ddiv, 1) := by decide +kernel
theorem dwt_68 : decode prog_60_method_2_code 68 = .ok (.dload_n 2, 1) := by decide +kernel
theorem dwt_69 : decode prog_60_method_2_code 69 = .ok (.dadd, 1) := by decide +kernel
theorem dwt_70 : decode prog_60_method_2_code 70 = .ok (.ddiv, 1) := by decide +kernel
theorem dwt_71 : decode prog_60_method_2_code 71 = .ok (.dstore 8, 2) := by decide +kernel
theorem dwt_73 : decode prog_60_method_2_code 73 = .ok (.dload 8, 2) := by decide +kernel
theorem dwt_75 : decode prog_60_method_2_code 75 = .ok (.dreturn, 1) := by decide +kernel
theorem ef_wt (a : Addr) (t : Int32) (pp : UInt64) (m : MethodId) : entryFrame m #[(.ref a), (.int t), (.double pp)] 10 = mkF m 0 #[.val (.ref a), .val (.int t), .val (.double pp), .second, .unset, .unset, .unset, .unset, .unset, .unset] [] := by first | (simp [entryFrame, mkF, argsToLocals, o_catR, o_catN, o_catI, o_catJ, o_catD]; done) | rfl
set_option maxRecDepth 65536 in
set_option maxHeartbeats 40000000 in
theorem ct_wt (l : Launch) (Z : State) (a0 : Array Value) (hw : ∀ d ∈ tables_1, d.before a0 Z = true) (EL : List (String × Nat)) (n0 : Nat) (a : Addr) (t : Int32) (pp kv bv wv : UInt64) (h0 : Heap) (F_a : OObj Z h0 a "com/example/busca/busca/rank/Bm25Model" [("com/example/busca/busca/rank/LengthNormalizedModel", "b", "D", (.double bv)), ("com/example/busca/busca/rank/Bm25Model", "k1", "D", (.double kv))]) (hW : OWt kv pp (FP.l2d t.toInt64) wv) :
    OCt l Z a0 EL n0 (⟨"com/example/busca/busca/rank/Bm25Model", "weight", "(ID)D"⟩ : MethodName) prog_60_method_2_code 10 (some .double) ({ frames := 0, cells := 0, slots := 0, locals := 0 } : Room) [] #[(.ref a), (.int t), (.double pp)] h0 [] (fun w vm h => w = some (.double wv) ∧ h = h0) := by
  refine OCt.body (plainFor_of_name pn_B) (ef_wt a t pp) ?_
  intro p e s m below meth c T hby hml hret hnm hsh P
  rcases hW with ⟨va, vn, vp, vd, ⟨e1, n1, e2, n2, e3, n3, e4, n4⟩, g1, g2, e5, n5⟩ | ⟨va, vn, vp, vd, vi, vj, vt, vq, vr, ⟨e1, n1, e2, n2, e3, n3, e4, n4⟩, g0, e5, n5, e6, n6, e7, n7, e8, n8, e9, n9, e10, n10⟩
  · refine o_aloadN P (hb hby dwt_0) rfl rfl (pc' := 1) rfl ?_
    refine o_getF P (ow hw 22 rfl) Via.refl (F_a.fld 1 rfl) (hb hby dwt_1) (pc' := 4) rfl ?_
    clear P; intro T P
    refine o_dconst1 P (hb hby dwt_4) (v := FP.dconst1) rfl (pc' := 5) rfl ?_
    refine o_dadd P (hb hby dwt_5) (v := va) (by rw [e1]; exact n1) e1 (pc' := 6) rfl ?_
    refine o_iloadN P (hb hby dwt_6) rfl (pc' := 7) rfl ?_
    refine o_i2d P (hb hby dwt_7) (v := FP.l2d t.toInt64) (i2d_w _) (pc' := 8) rfl ?_
    refine o_dmul P (hb hby dwt_8) (v := vn) (by rw [e2]; exact n2) e2 (pc' := 9) rfl ?_
    refine o_dstore P (hb hby dwt_9) (L' := #[.val (.ref a), .val (.int t), .val (.double pp), .second, .val (.double vn), .second, .unset, .unset, .unset, .unset]) rfl (pc' := 11) rfl ?_
    refine o_iloadN P (hb hby dwt_11) rfl (pc' := 12) rfl ?_
    refine o_i2d P (hb hby dwt_12) (v := FP.l2d t.toInt64) (i2d_w _) (pc' := 13) rfl ?_
    refine o_aloadN P (hb hby dwt_13) rfl rfl (pc' := 14) rfl ?_
    refine o_getF P (ow hw 22 rfl) Via.refl (F_a.fld 1 rfl) (hb hby dwt_14) (pc' := 17) rfl ?_
    clear P; intro T P
    refine o_dloadN P (hb hby dwt_17) rfl (pc' := 18) rfl ?_
    refine o_dmul P (hb hby dwt_18) (v := vp) (by rw [e3]; exact n3) e3 (pc' := 19) rfl ?_
    refine o_dadd P (hb hby dwt_19) (v := vd) (by rw [e4]; exact n4) e4 (pc' := 20) rfl ?_
    refine o_dstore P (hb hby dwt_20) (L' := #[.val (.ref a), .val (.int t), .val (.double pp), .second, .val (.double vn), .second, .val (.double vd), .second, .unset, .unset]) rfl (pc' := 22) rfl ?_
    refine o_dload P (hb hby dwt_22) rfl (pc' := 24) rfl ?_
    refine o_ldc2D P (ow hw 21 rfl) (hb hby dwt_24) (pc' := 27) rfl ?_
    refine o_dcmp P (hb hby dwt_27) (v := (-1 : Int32)) g1 (pc' := 28) rfl ?_
    refine o_if_ge P (hb hby dwt_28) (by decide) (pc' := 50) (by decide) (pcf := 31) rfl (fun q => absurd (by decide) q) (fun _ => ?_)
    refine o_dload P (hb hby dwt_31) rfl (pc' := 33) rfl ?_
    refine o_ldc2D P (ow hw 21 rfl) (hb hby dwt_33) (pc' := 36) rfl ?_
    refine o_dcmp P (hb hby dwt_36) (v := (-1 : Int32)) g2 (pc' := 37) rfl ?_
    refine o_if_ge P (hb hby dwt_37) (by decide) (pc' := 50) (by decide) (pcf := 40) rfl (fun q => absurd (by decide) q) (fun _ => ?_)
    refine o_dload P (hb hby dwt_40) rfl (pc' := 42) rfl ?_
    refine o_dload P (hb hby dwt_42) rfl (pc' := 44) rfl ?_
    refine o_ddiv P (hb hby dwt_44) (v := wv) (by rw [e5]; exact n5) e5 (pc' := 45) rfl ?_
    refine o_dstore P (hb hby dwt_45) (L' := #[.val (.ref a), .val (.int t), .val (.double pp), .second, .val (.double vn), .second, .val (.double vd), .second, .val (.double wv), .second]) rfl (pc' := 47) rfl ?_
    refine o_goto P (hb hby dwt_47) (by decide) (pc' := 73) (by decide) ?_
    refine o_dload P (hb hby dwt_73) rfl (pc' := 75) rfl ?_
    exact o_retD P hret (hb hby dwt_75) (by decide) (by decide) ⟨rfl, rfl⟩
  · refine o_aloadN P (hb hby dwt_0) rfl rfl (pc' := 1) rfl ?_
    refine o_getF P (ow hw 22 rfl) Via.refl (F_a.fld 1 rfl) (hb hby dwt_1) (pc' := 4) rfl ?_
    clear P; intro T P
    refine o_dconst1 P (hb hby dwt_4) (v := FP.dconst1) rfl (pc' := 5) rfl ?_
    refine o_dadd P (hb hby dwt_5) (v := va) (by rw [e1]; exact n1) e1 (pc' := 6) rfl ?_
    refine o_iloadN P (hb hby dwt_6) rfl (pc' := 7) rfl ?_
    refine o_i2d P (hb hby dwt_7) (v := FP.l2d t.toInt64) (i2d_w _) (pc' := 8) rfl ?_
    refine o_dmul P (hb hby dwt_8) (v := vn) (by rw [e2]; exact n2) e2 (pc' := 9) rfl ?_
    refine o_dstore P (hb hby dwt_9) (L' := #[.val (.ref a), .val (.int t), .val (.double pp), .second, .val (.double vn), .second, .unset, .unset, .unset, .unset]) rfl (pc' := 11) rfl ?_
    refine o_iloadN P (hb hby dwt_11) rfl (pc' := 12) rfl ?_
    refine o_i2d P (hb hby dwt_12) (v := FP.l2d t.toInt64) (i2d_w _) (pc' := 13) rfl ?_
    refine o_aloadN P (hb hby dwt_13) rfl rfl (pc' := 14) rfl ?_
    refine o_getF P (ow hw 22 rfl) Via.refl (F_a.fld 1 rfl) (hb hby dwt_14) (pc' := 17) rfl ?_
    clear P; intro T P
    refine o_dloadN P (hb hby dwt_17) rfl (pc' := 18) rfl ?_
    refine o_dmul P (hb hby dwt_18) (v := vp) (by rw [e3]; exact n3) e3 (pc' := 19) rfl ?_
    refine o_dadd P (hb hby dwt_19) (v := vd) (by rw [e4]; exact n4) e4 (pc' := 20) rfl ?_
    refine o_dstore P (hb hby dwt_20) (L' := #[.val (.ref a), .val (.int t), .val (.double pp), .second, .val (.double vn), .second, .val (.double vd), .second, .unset, .unset]) rfl (pc' := 22) rfl ?_
    refine o_dload P (hb hby dwt_22) rfl (pc' := 24) rfl ?_
    refine o_ldc2D P (ow hw 21 rfl) (hb hby dwt_24) (pc' := 27) rfl ?_
    rcases g0 with g1 | ⟨g1, g2⟩
    · refine o_dcmp P (hb hby dwt_27) (v := (0 : Int32)) g1 (pc' := 28) rfl ?_
      refine o_if_ge P (hb hby dwt_28) (by decide) (pc' := 50) (by decide) (pcf := 31) rfl (fun _ => ?_) (fun q => absurd q (by decide))
      refine o_dconst1 P (hb hby dwt_50) (v := FP.dconst1) rfl (pc' := 51) rfl ?_
      refine o_dconst1 P (hb hby dwt_51) (v := FP.dconst1) rfl (pc' := 52) rfl ?_
      refine o_aloadN P (hb hby dwt_52) rfl rfl (pc' := 53) rfl ?_
      refine o_getF P (ow hw 22 rfl) Via.refl (F_a.fld 1 rfl) (hb hby dwt_53) (pc' := 56) rfl ?_
      clear P; intro T P
      refine o_ddiv P (hb hby dwt_56) (v := vi) (by rw [e5]; exact n5) e5 (pc' := 57) rfl ?_
      refine o_dadd P (hb hby dwt_57) (v := vj) (by rw [e6]; exact n6) e6 (pc' := 58) rfl ?_
      refine o_iloadN P (hb hby dwt_58) rfl (pc' := 59) rfl ?_
      refine o_i2d P (hb hby dwt_59) (v := FP.l2d t.toInt64) (i2d_w _) (pc' := 60) rfl ?_
      refine o_dmul P (hb hby dwt_60) (v := vt) (by rw [e7]; exact n7) e7 (pc' := 61) rfl ?_
      refine o_iloadN P (hb hby dwt_61) rfl (pc' := 62) rfl ?_
      refine o_i2d P (hb hby dwt_62) (v := FP.l2d t.toInt64) (i2d_w _) (pc' := 63) rfl ?_
      refine o_aloadN P (hb hby dwt_63) rfl rfl (pc' := 64) rfl ?_
      refine o_getF P (ow hw 22 rfl) Via.refl (F_a.fld 1 rfl) (hb hby dwt_64) (pc' := 67) rfl ?_
      clear P; intro T P
      refine o_ddiv P (hb hby dwt_67) (v := vq) (by rw [e8]; exact n8) e8 (pc' := 68) rfl ?_
      refine o_dloadN P (hb hby dwt_68) rfl (pc' := 69) rfl ?_
      refine o_dadd P (hb hby dwt_69) (v := vr) (by rw [e9]; exact n9) e9 (pc' := 70) rfl ?_
      refine o_ddiv P (hb hby dwt_70) (v := wv) (by rw [e10]; exact n10) e10 (pc' := 71) rfl ?_
      refine o_dstore P (hb hby dwt_71) (L' := #[.val (.ref a), .val (.int t), .val (.double pp), .second, .val (.double vn), .second, .val (.double vd), .second, .val (.double wv), .second]) rfl (pc' := 73) rfl ?_
      refine o_dload P (hb hby dwt_73) rfl (pc' := 75) rfl ?_
      exact o_retD P hret (hb hby dwt_75) (by decide) (by decide) ⟨rfl, rfl⟩
    · refine o_dcmp P (hb hby dwt_27) (v := (-1 : Int32)) g1 (pc' := 28) rfl ?_
      refine o_if_ge P (hb hby dwt_28) (by decide) (pc' := 50) (by decide) (pcf := 31) rfl (fun q => absurd (by decide) q) (fun _ => ?_)
      refine o_dload P (hb hby dwt_31) rfl (pc' := 33) rfl ?_
      refine o_ldc2D P (ow hw 21 rfl) (hb hby dwt_33) (pc' := 36) rfl ?_
      refine o_dcmp P (hb hby dwt_36) (v := (0 : Int32)) g2 (pc' := 37) rfl ?_
      refine o_if_ge P (hb hby dwt_37) (by decide) (pc' := 50) (by decide) (pcf := 40) rfl (fun _ => ?_) (fun q => absurd q (by decide))
      refine o_dconst1 P (hb hby dwt_50) (v := FP.dconst1) rfl (pc' := 51) rfl ?_
      refine o_dconst1 P (hb hby dwt_51) (v := FP.dconst1) rfl (pc' := 52) rfl ?_
      refine o_aloadN P (hb hby dwt_52) rfl rfl (pc' := 53) rfl ?_
      refine o_getF P (ow hw 22 rfl) Via.refl (F_a.fld 1 rfl) (hb hby dwt_53) (pc' := 56) rfl ?_
      clear P; intro T P
      refine o_ddiv P (hb hby dwt_56) (v := vi) (by rw [e5]; exact n5) e5 (pc' := 57) rfl ?_
      refine o_dadd P (hb hby dwt_57) (v := vj) (by rw [e6]; exact n6) e6 (pc' := 58) rfl ?_
      refine o_iloadN P (hb hby dwt_58) rfl (pc' := 59) rfl ?_
      refine o_i2d P (hb hby dwt_59) (v := FP.l2d t.toInt64) (i2d_w _) (pc' := 60) rfl ?_
      refine o_dmul P (hb hby dwt_60) (v := vt) (by rw [e7]; exact n7) e7 (pc' := 61) rfl ?_
      refine o_iloadN P (hb hby dwt_61) rfl (pc' := 62) rfl ?_
      refine o_i2d P (hb hby dwt_62) (v := FP.l2d t.toInt64) (i2d_w _) (pc' := 63) rfl ?_
      refine o_aloadN P (hb hby dwt_63) rfl rfl (pc' := 64) rfl ?_
      refine o_getF P (ow hw 22 rfl) Via.refl (F_a.fld 1 rfl) (hb hby dwt_64) (pc' := 67) rfl ?_
      clear P; intro T P
      refine o_ddiv P (hb hby dwt_67) (v := vq) (by rw [e8]; exact n8) e8 (pc' := 68) rfl ?_
      refine o_dloadN P (hb hby dwt_68) rfl (pc' := 69) rfl ?_
      refine o_dadd P (hb hby dwt_69) (v := vr) (by rw [e9]; exact n9) e9 (pc' := 70) rfl ?_
      refine o_ddiv P (hb hby dwt_70) (v := wv) (by rw [e10]; exact n10) e10 (pc' := 71) rfl ?_
      refine o_dstore P (hb hby dwt_71) (L' := #[.val (.ref a), .val (.int t), .val (.double pp), .second, .val (.double vn), .second, .val (.double vd), .second, .val (.double wv), .second]) rfl (pc' := 73) rfl ?_
      refine o_dload P (hb hby dwt_73) rfl (pc' := 75) rfl ?_
      exact o_retD P hret (hb hby dwt_75) (by decide) (by decide) ⟨rfl, rfl⟩
theorem dmx_0 : decode jdk_29_method_65_code 0 = .ok (.iload_n 0, 1) := by decide +kernel
theorem dmx_1 : decode jdk_29_method_65_code 1 = .ok (.iload_n 1, 1) := by decide +kernel
theorem dmx_2 : decode jdk_29_method_65_code 2 = .ok (.if_icmp .lt 7, 3) := by decide +kernel
theorem dmx_5 : decode jdk_29_method_65_code 5 = .ok (.iload_n 0, 1) := by decide +kernel
theorem dmx_6 : decode jdk_29_method_65_code 6 = .ok (.goto 4, 3) := by decide +kernel
theorem dmx_9 : decode jdk_29_method_65_code 9 = .ok (.iload_n 1, 1) := by decide +kernel
theorem dmx_10 : decode jdk_29_method_65_code 10 = .ok (.ireturn, 1) := by decide +kernel
theorem ef_mx (a : Int32) (b : Int32) (m : MethodId) : entryFrame m #[(.int a), (.int b)] 2 = mkF m 0 #[.val (.int a), .val (.int b)] [] := by first | (simp [entryFrame, mkF, argsToLocals, o_catR, o_catN, o_catI, o_catJ, o_catD]; done) | rfl
set_option maxRecDepth 65536 in
set_option maxHeartbeats 40000000 in
theorem ct_max (l : Launch) (Z : State) (a0 : Array Value) (hw : ∀ d ∈ tables_1, d.before a0 Z = true) (EL : List (String × Nat)) (n0 : Nat) (a b : Int32) (h0 : Heap) :
    OCt l Z a0 EL n0 (⟨"java/lang/Math", "max", "(II)I"⟩ : MethodName) jdk_29_method_65_code 2 (some .int) ({ frames := 0, cells := 0, slots := 0, locals := 0 } : Room) [] #[(.int a), (.int b)] h0 [] (fun w vm h => w = some (.int (oMax a b)) ∧ h = h0) := by
  refine OCt.body (Jvm.Free.JP.mathPlain rfl (by decide +kernel)) (ef_mx a b) ?_
  intro p e s m below meth c T hby hml hret hnm hsh P
  refine o_iloadN P (hb hby dmx_0) rfl (pc' := 1) rfl ?_
  refine o_iloadN P (hb hby dmx_1) rfl (pc' := 2) rfl ?_
  refine o_icmp_lt P (hb hby dmx_2) (by decide) (pc' := 9) (by decide) (pcf := 5) rfl (fun hq => ?_) (fun hq => ?_)
  · refine o_iloadN P (hb hby dmx_9) rfl (pc' := 10) rfl ?_
    exact o_retI P hret (by simp) rfl (hb hby dmx_10) (by decide) (by decide) ⟨by unfold oMax; rw [if_pos hq], rfl⟩
  · refine o_iloadN P (hb hby dmx_5) rfl (pc' := 6) rfl ?_
    refine o_goto P (hb hby dmx_6) (by decide) (pc' := 10) (by decide) ?_
    exact o_retI P hret (by simp) rfl (hb hby dmx_10) (by decide) (by decide) ⟨by unfold oMax; rw [if_neg hq], rfl⟩
theorem ef_0 (i0 : Int32) (i1 : Int32) (i2 : Int32) (i3 : Int32) (i4 : Int32) (m : MethodId) : entryFrame m #[(.int i0), (.int i1), (.int i2), (.int i3), (.int i4)] maxLocals = mkF m 0 #[.val (.int i0), .val (.int i1), .val (.int i2), .val (.int i3), .val (.int i4), .unset, .unset, .unset, .unset, .unset, .unset, .unset, .unset, .unset, .unset, .unset, .unset, .unset, .unset, .unset] [] := by first | (simp [entryFrame, mkF, argsToLocals, o_catR, o_catN, o_catI, o_catJ, o_catD, maxLocals]; done) | rfl
set_option maxRecDepth 65536 in
set_option maxHeartbeats 40000000 in
theorem rm0 (l : Launch) (Z : State) (a0 : Array Value) (hw : ∀ d ∈ tables_1, d.before a0 Z = true) (n0 : Nat) (i0 i1 i2 i3 i4 : Int32) (h0 : Heap) :
    OCt l Z a0 [] n0 x code maxLocals ret room_1 tables_1 #[.int i0, .int i1, .int i2, .int i3, .int i4] h0 [] (fun w vm h => w = some (.int 1)) := by
  refine OCt.body (plainFor_of_name pn_L) (ef_0 i0 i1 i2 i3 i4) ?_
  intro p e s m below meth c T hby hml hret hnm hsh P
  refine o_iloadN P (hb hby at_0) rfl (pc' := 1) rfl ?_
  refine o_ldcI P (ow hw 0 rfl) (hb hby at_1) (pc' := 3) rfl ?_
  refine o_iand P (hb hby at_3) (pc' := 4) rfl ?_
  refine o_iconst P (5 : Int32) (hb hby at_4) rfl (pc' := 5) rfl ?_
  refine o_irem P (hb hby at_5) (by decide) (pc' := 6) rfl ?_
  refine o_istore P (hb hby at_6) (L' := #[.val (.int i0), .val (.int i1), .val (.int i2), .val (.int i3), .val (.int i4), .val (.int ((i0 &&& (2147483647 : Int32)) % (5 : Int32))), .unset, .unset, .unset, .unset, .unset, .unset, .unset, .unset, .unset, .unset, .unset, .unset, .unset, .unset]) rfl (pc' := 8) rfl ?_
  refine o_iloadN P (hb hby at_8) rfl (pc' := 9) rfl ?_
  refine o_iconst P (1 : Int32) (hb hby at_9) rfl (pc' := 10) rfl ?_
  refine o_iand P (hb hby at_10) (pc' := 11) rfl ?_
  refine o_i2d P (hb hby at_11) (v := FP.l2d (i3 &&& (1 : Int32)).toInt64) (i2d_w _) (pc' := 12) rfl ?_
  refine o_dstore P (hb hby at_12) (L' := #[.val (.int i0), .val (.int i1), .val (.int i2), .val (.int i3), .val (.int i4), .val (.int ((i0 &&& (2147483647 : Int32)) % (5 : Int32))), .val (.double (FP.l2d (i3 &&& (1 : Int32)).toInt64)), .second, .unset, .unset, .unset, .unset, .unset, .unset, .unset, .unset, .unset, .unset, .unset, .unset]) rfl (pc' := 14) rfl ?_
  refine o_iload P (hb hby at_14) rfl (pc' := 16) rfl ?_
  refine o_if_ne P (hb hby at_16) (by decide) (pc' := 64) (by decide) (pcf := 19) rfl (fun hm0 => ?_) (fun hm0 => ?_)
  · refine o_iload P (hb hby at_64) rfl (pc' := 66) rfl ?_
    refine o_iconst P (1 : Int32) (hb hby at_66) rfl (pc' := 67) rfl ?_
    refine o_icmp_ne P (hb hby at_67) (by decide) (pc' := 134) (by decide) (pcf := 70) rfl (fun hm1 => ?_) (fun hm1 => ?_)
    · refine o_iload P (hb hby at_134) rfl (pc' := 136) rfl ?_
      refine o_iconst P (2 : Int32) (hb hby at_136) rfl (pc' := 137) rfl ?_
      refine o_icmp_ne P (hb hby at_137) (by decide) (pc' := 197) (by decide) (pcf := 140) rfl (fun hm2 => ?_) (fun hm2 => ?_)
      · refine o_iload P (hb hby at_197) rfl (pc' := 199) rfl ?_
        refine o_iconst P (3 : Int32) (hb hby at_199) rfl (pc' := 200) rfl ?_
        refine o_icmp_ne P (hb hby at_200) (by decide) (pc' := 285) (by decide) (pcf := 203) rfl (fun hm3 => ?_) (fun hm3 => ?_)
        · have hk := ow_k20 i4
          have ht : OT31 (oMax (1 : Int32) ((i1 &&& (2147483647 : Int32)) - (1 : Int32))).toInt64 := ow_max _
          obtain ⟨ht1, het⟩ := ow_t4 i1
          have hp := ow_p31 i2
          obtain ⟨hp1, hep, hap⟩ := ow_p31' i2
          refine o_iload P (hb hby at_285) rfl (pc' := 287) rfl ?_
          refine o_ldcI P (ow hw 30 rfl) (hb hby at_287) (pc' := 289) rfl ?_
          refine o_iand P (hb hby at_289) (pc' := 290) rfl ?_
          refine o_istore P (hb hby at_290) (L' := #[.val (.int i0), .val (.int i1), .val (.int i2), .val (.int i3), .val (.int i4), .val (.int ((i0 &&& (2147483647 : Int32)) % (5 : Int32))), .val (.double (FP.l2d (i3 &&& (1 : Int32)).toInt64)), .second, .val (.int (i4 &&& (1048575 : Int32))), .unset, .unset, .unset, .unset, .unset, .unset, .unset, .unset, .unset, .unset, .unset]) rfl (pc' := 292) rfl ?_
          refine o_iconst P (1 : Int32) (hb hby at_292) rfl (pc' := 293) rfl ?_
          refine o_iloadN P (hb hby at_293) rfl (pc' := 294) rfl ?_
          refine o_ldcI P (ow hw 0 rfl) (hb hby at_294) (pc' := 296) rfl ?_
          refine o_iand P (hb hby at_296) (pc' := 297) rfl ?_
          refine o_iconst P (1 : Int32) (hb hby at_297) rfl (pc' := 298) rfl ?_
          refine o_isub P (hb hby at_298) (pc' := 299) rfl ?_
          refine o_callS P (W := 0) (ow hw 1 rfl) (ow hw 2 rfl) (ow hw 3 rfl) (ow hw 4 rfl) (by decide) (ct_max l Z a0 hw [] n0 (1 : Int32) ((i1 &&& (2147483647 : Int32)) - (1 : Int32)) h0) o_sf0 (by rw [hml]; rfl) (by decide) (by decide) (argsL := [(.int 1), (.int ((i1 &&& (2147483647 : Int32)) - (1 : Int32)))]) (rest := []) (lenOf pd_1 rfl) rfl rfl (Nat.le_of_eq rfl) (hb hby at_299) (pc' := 302) rfl (by decide) (by decide) ?_
          clear P; intro T h1 v1 P K1 q1
          obtain ⟨rfl, rfl⟩ := q1; clear K1
          show OG p e below m _ T 302 _ [(.int (oMax (1 : Int32) ((i1 &&& (2147483647 : Int32)) - (1 : Int32))))]
          refine o_istore P (hb hby at_302) (L' := #[.val (.int i0), .val (.int i1), .val (.int i2), .val (.int i3), .val (.int i4), .val (.int ((i0 &&& (2147483647 : Int32)) % (5 : Int32))), .val (.double (FP.l2d (i3 &&& (1 : Int32)).toInt64)), .second, .val (.int (i4 &&& (1048575 : Int32))), .val (.int (oMax (1 : Int32) ((i1 &&& (2147483647 : Int32)) - (1 : Int32)))), .unset, .unset, .unset, .unset, .unset, .unset, .unset, .unset, .unset, .unset]) rfl (pc' := 304) rfl ?_
          refine o_iloadN P (hb hby at_304) rfl (pc' := 305) rfl ?_
          refine o_ldcI P (ow hw 0 rfl) (hb hby at_305) (pc' := 307) rfl ?_
          refine o_iand P (hb hby at_307) (pc' := 308) rfl ?_
          refine o_i2d P (hb hby at_308) (v := FP.l2d (i2 &&& (2147483647 : Int32)).toInt64) (i2d_w _) (pc' := 309) rfl ?_
          refine o_dstore P (hb hby at_309) (L' := #[.val (.int i0), .val (.int i1), .val (.int i2), .val (.int i3), .val (.int i4), .val (.int ((i0 &&& (2147483647 : Int32)) % (5 : Int32))), .val (.double (FP.l2d (i3 &&& (1 : Int32)).toInt64)), .second, .val (.int (i4 &&& (1048575 : Int32))), .val (.int (oMax (1 : Int32) ((i1 &&& (2147483647 : Int32)) - (1 : Int32)))), .val (.double (FP.l2d (i2 &&& (2147483647 : Int32)).toInt64)), .second, .unset, .unset, .unset, .unset, .unset, .unset, .unset, .unset]) rfl (pc' := 311) rfl ?_
          have hz_a := P.keep0.1
          refine o_new P [("com/example/busca/busca/rank/LengthNormalizedModel", "b", "D", (.double 0)), ("com/example/busca/busca/rank/Bm25Model", "k1", "D", (.double 0))] (ow hw 5 rfl) (ow hw 6 rfl) (ow hw 7 rfl) (OLd.cons (Or.inr (ow hw 20 rfl)) (ty := .double) (by decide) rfl (OLd.cons (Or.inr (ow hw 23 rfl)) (ty := .double) (by decide) rfl OLd.nil)) (by decide +kernel) (hb hby at_311) (pc' := 314) rfl (by decide) (by decide) ?_
          clear P; intro T h2 a P K2 hb_a F_a
          have sz_a := Nat.le_trans hz_a hb_a
          clear hz_a
          clear K2
          refine o_dup P (hb hby at_314) rfl (pc' := 315) rfl ?_
          refine o_iload P (hb hby at_315) rfl (pc' := 317) rfl ?_
          refine o_i2d P (hb hby at_317) (v := FP.l2d (i4 &&& (1048575 : Int32)).toInt64) (i2d_w _) (pc' := 318) rfl ?_
          refine o_dload P (hb hby at_318) rfl (pc' := 320) rfl ?_
          refine o_callI P (W := 1) (a := a) rfl (ow hw 8 rfl) (ow hw 9 rfl) (ow hw 7 rfl) (ow hw 10 rfl) (by decide) (ct_bm l Z a0 hw [] n0 a (FP.l2d (i4 &&& (1048575 : Int32)).toInt64) (FP.l2d (i3 &&& (1 : Int32)).toInt64) h2 F_a (ow_b i3) (ow_kw hk)) (o_sfS (List.Mem.head _) o_sf0) (by rw [hml]; rfl) (by decide) (by decide) (argsL := [(.double (FP.l2d (i4 &&& (1048575 : Int32)).toInt64)), (.double (FP.l2d (i3 &&& (1 : Int32)).toInt64))]) (rest := [(.ref a)]) (lenOf pd_2 rfl) rfl rfl (Nat.le_of_eq rfl) (hb hby at_320) (pc' := 323) rfl (by decide) (by decide) ?_
          clear P; intro T h3 v3 P K3 q3
          obtain ⟨rfl, F_a'⟩ := q3
          clear F_a; have F_a := F_a'; clear F_a'; clear K3
          show OG p e below m _ T 323 _ [(.ref a)]
          refine o_astore P (hb hby at_323) rfl (L' := #[.val (.int i0), .val (.int i1), .val (.int i2), .val (.int i3), .val (.int i4), .val (.int ((i0 &&& (2147483647 : Int32)) % (5 : Int32))), .val (.double (FP.l2d (i3 &&& (1 : Int32)).toInt64)), .second, .val (.int (i4 &&& (1048575 : Int32))), .val (.int (oMax (1 : Int32) ((i1 &&& (2147483647 : Int32)) - (1 : Int32)))), .val (.double (FP.l2d (i2 &&& (2147483647 : Int32)).toInt64)), .second, .val (.ref a), .unset, .unset, .unset, .unset, .unset, .unset, .unset]) rfl (pc' := 325) rfl ?_
          refine o_aload P (hb hby at_325) rfl rfl (pc' := 327) rfl ?_
          refine o_iload P (hb hby at_327) rfl (pc' := 329) rfl ?_
          refine o_dload P (hb hby at_329) rfl (pc' := 331) rfl ?_
          refine o_callV P (W := 0) (a := a) (ow hw 24 rfl) (ow hw 25 rfl) (o_nfSl (ow hw 27 rfl)) (ow hw 27 rfl) (ow hw 26 rfl) (ow hw 7 rfl) (ow hw 28 rfl) (by decide) F_a.exa (ct_wt l Z a0 hw [] n0 a (oMax (1 : Int32) ((i1 &&& (2147483647 : Int32)) - (1 : Int32))) (FP.l2d (i2 &&& (2147483647 : Int32)).toInt64) (FP.l2d (i4 &&& (1048575 : Int32)).toInt64) (FP.l2d (i3 &&& (1 : Int32)).toInt64) (oW (i4 &&& (1048575 : Int32)).toInt64 (oMax (1 : Int32) ((i1 &&& (2147483647 : Int32)) - (1 : Int32))).toInt64 (i2 &&& (2147483647 : Int32)).toInt64) h3 F_a (wt_whole hk ht hp)) o_sf0 (by rw [hml]; rfl) (by decide) (by decide) (argsL := [(.int (oMax (1 : Int32) ((i1 &&& (2147483647 : Int32)) - (1 : Int32)))), (.double (FP.l2d (i2 &&& (2147483647 : Int32)).toInt64))]) (rest := []) (lenOf pd_3 rfl) rfl rfl (Nat.le_of_eq rfl) (hb hby at_331) (pc' := 334) rfl (by decide) (by decide) ?_
          clear P; intro T h4 v4 P K4 q4
          obtain ⟨rfl, rfl⟩ := q4; clear K4
          show OG p e below m _ T 334 _ [(.double (oW (i4 &&& (1048575 : Int32)).toInt64 (oMax (1 : Int32) ((i1 &&& (2147483647 : Int32)) - (1 : Int32))).toInt64 (i2 &&& (2147483647 : Int32)).toInt64))]
          refine o_dstore P (hb hby at_334) (L' := #[.val (.int i0), .val (.int i1), .val (.int i2), .val (.int i3), .val (.int i4), .val (.int ((i0 &&& (2147483647 : Int32)) % (5 : Int32))), .val (.double (FP.l2d (i3 &&& (1 : Int32)).toInt64)), .second, .val (.int (i4 &&& (1048575 : Int32))), .val (.int (oMax (1 : Int32) ((i1 &&& (2147483647 : Int32)) - (1 : Int32)))), .val (.double (FP.l2d (i2 &&& (2147483647 : Int32)).toInt64)), .second, .val (.ref a), .val (.double (oW (i4 &&& (1048575 : Int32)).toInt64 (oMax (1 : Int32) ((i1 &&& (2147483647 : Int32)) - (1 : Int32))).toInt64 (i2 &&& (2147483647 : Int32)).toInt64)), .second, .unset, .unset, .unset, .unset, .unset]) rfl (pc' := 336) rfl ?_
          refine o_aload P (hb hby at_336) rfl rfl (pc' := 338) rfl ?_
          refine o_iload P (hb hby at_338) rfl (pc' := 340) rfl ?_
          refine o_iconst P (1 : Int32) (hb hby at_340) rfl (pc' := 341) rfl ?_
          refine o_iadd P (hb hby at_341) (pc' := 342) rfl ?_
          refine o_dload P (hb hby at_342) rfl (pc' := 344) rfl ?_
          refine o_callV P (W := 0) (a := a) (ow hw 24 rfl) (ow hw 25 rfl) (o_nfSl (ow hw 27 rfl)) (ow hw 27 rfl) (ow hw 26 rfl) (ow hw 7 rfl) (ow hw 28 rfl) (by decide) F_a.exa (ct_wt l Z a0 hw [] n0 a ((oMax (1 : Int32) ((i1 &&& (2147483647 : Int32)) - (1 : Int32))) + (1 : Int32)) (FP.l2d (i2 &&& (2147483647 : Int32)).toInt64) (FP.l2d (i4 &&& (1048575 : Int32)).toInt64) (FP.l2d (i3 &&& (1 : Int32)).toInt64) (oW (i4 &&& (1048575 : Int32)).toInt64 ((oMax (1 : Int32) ((i1 &&& (2147483647 : Int32)) - (1 : Int32))) + (1 : Int32)).toInt64 (i2 &&& (2147483647 : Int32)).toInt64) h4 F_a (wt_whole hk ht1 hp)) o_sf0 (by rw [hml]; rfl) (by decide) (by decide) (argsL := [(.int ((oMax (1 : Int32) ((i1 &&& (2147483647 : Int32)) - (1 : Int32))) + (1 : Int32))), (.double (FP.l2d (i2 &&& (2147483647 : Int32)).toInt64))]) (rest := []) (lenOf pd_3 rfl) rfl rfl (Nat.le_of_eq rfl) (hb hby at_344) (pc' := 347) rfl (by decide) (by decide) ?_
          clear P; intro T h5 v5 P K5 q5
          obtain ⟨rfl, rfl⟩ := q5; clear K5
          show OG p e below m _ T 347 _ [(.double (oW (i4 &&& (1048575 : Int32)).toInt64 ((oMax (1 : Int32) ((i1 &&& (2147483647 : Int32)) - (1 : Int32))) + (1 : Int32)).toInt64 (i2 &&& (2147483647 : Int32)).toInt64))]
          refine o_dstore P (hb hby at_347) (L' := #[.val (.int i0), .val (.int i1), .val (.int i2), .val (.int i3), .val (.int i4), .val (.int ((i0 &&& (2147483647 : Int32)) % (5 : Int32))), .val (.double (FP.l2d (i3 &&& (1 : Int32)).toInt64)), .second, .val (.int (i4 &&& (1048575 : Int32))), .val (.int (oMax (1 : Int32) ((i1 &&& (2147483647 : Int32)) - (1 : Int32)))), .val (.double (FP.l2d (i2 &&& (2147483647 : Int32)).toInt64)), .second, .val (.ref a), .val (.double (oW (i4 &&& (1048575 : Int32)).toInt64 (oMax (1 : Int32) ((i1 &&& (2147483647 : Int32)) - (1 : Int32))).toInt64 (i2 &&& (2147483647 : Int32)).toInt64)), .second, .val (.double (oW (i4 &&& (1048575 : Int32)).toInt64 ((oMax (1 : Int32) ((i1 &&& (2147483647 : Int32)) - (1 : Int32))) + (1 : Int32)).toInt64 (i2 &&& (2147483647 : Int32)).toInt64)), .second, .unset, .unset, .unset]) rfl (pc' := 349) rfl ?_
          refine o_aload P (hb hby at_349) rfl rfl (pc' := 351) rfl ?_
          refine o_iload P (hb hby at_351) rfl (pc' := 353) rfl ?_
          refine o_dload P (hb hby at_353) rfl (pc' := 355) rfl ?_
          refine o_dconst1 P (hb hby at_355) (v := FP.dconst1) rfl (pc' := 356) rfl ?_
          refine o_dadd P (hb hby at_356) (v := (FP.l2d ((i2 &&& (2147483647 : Int32)).toInt64 + 1))) (nn_w hap) hap (pc' := 357) rfl ?_
          refine o_callV P (W := 0) (a := a) (ow hw 24 rfl) (ow hw 25 rfl) (o_nfSl (ow hw 27 rfl)) (ow hw 27 rfl) (ow hw 26 rfl) (ow hw 7 rfl) (ow hw 28 rfl) (by decide) F_a.exa (ct_wt l Z a0 hw [] n0 a (oMax (1 : Int32) ((i1 &&& (2147483647 : Int32)) - (1 : Int32))) (FP.l2d ((i2 &&& (2147483647 : Int32)).toInt64 + 1)) (FP.l2d (i4 &&& (1048575 : Int32)).toInt64) (FP.l2d (i3 &&& (1 : Int32)).toInt64) (oW (i4 &&& (1048575 : Int32)).toInt64 (oMax (1 : Int32) ((i1 &&& (2147483647 : Int32)) - (1 : Int32))).toInt64 ((i2 &&& (2147483647 : Int32)).toInt64 + 1)) h5 F_a (wt_whole hk ht hp1)) o_sf0 (by rw [hml]; rfl) (by decide) (by decide) (argsL := [(.int (oMax (1 : Int32) ((i1 &&& (2147483647 : Int32)) - (1 : Int32)))), (.double (FP.l2d ((i2 &&& (2147483647 : Int32)).toInt64 + 1)))]) (rest := []) (lenOf pd_3 rfl) rfl rfl (Nat.le_of_eq rfl) (hb hby at_357) (pc' := 360) rfl (by decide) (by decide) ?_
          clear P; intro T h6 v6 P K6 q6
          obtain ⟨rfl, rfl⟩ := q6; clear K6
          show OG p e below m _ T 360 _ [(.double (oW (i4 &&& (1048575 : Int32)).toInt64 (oMax (1 : Int32) ((i1 &&& (2147483647 : Int32)) - (1 : Int32))).toInt64 ((i2 &&& (2147483647 : Int32)).toInt64 + 1)))]
          refine o_dstore P (hb hby at_360) (L' := #[.val (.int i0), .val (.int i1), .val (.int i2), .val (.int i3), .val (.int i4), .val (.int ((i0 &&& (2147483647 : Int32)) % (5 : Int32))), .val (.double (FP.l2d (i3 &&& (1 : Int32)).toInt64)), .second, .val (.int (i4 &&& (1048575 : Int32))), .val (.int (oMax (1 : Int32) ((i1 &&& (2147483647 : Int32)) - (1 : Int32)))), .val (.double (FP.l2d (i2 &&& (2147483647 : Int32)).toInt64)), .second, .val (.ref a), .val (.double (oW (i4 &&& (1048575 : Int32)).toInt64 (oMax (1 : Int32) ((i1 &&& (2147483647 : Int32)) - (1 : Int32))).toInt64 (i2 &&& (2147483647 : Int32)).toInt64)), .second, .val (.double (oW (i4 &&& (1048575 : Int32)).toInt64 ((oMax (1 : Int32) ((i1 &&& (2147483647 : Int32)) - (1 : Int32))) + (1 : Int32)).toInt64 (i2 &&& (2147483647 : Int32)).toInt64)), .second, .val (.double (oW (i4 &&& (1048575 : Int32)).toInt64 (oMax (1 : Int32) ((i1 &&& (2147483647 : Int32)) - (1 : Int32))).toInt64 ((i2 &&& (2147483647 : Int32)).toInt64 + 1))), .second, .unset]) rfl (pc' := 362) rfl ?_
          refine o_dconst0 P (hb hby at_362) (v := (FP.l2d 0)) oh_l0.symm (pc' := 363) rfl ?_
          refine o_dload P (hb hby at_363) rfl (pc' := 365) rfl ?_
          refine o_dcmp P (hb hby at_365) (v := (-1 : Int32)) (ow_pos hk ht hp .g) (pc' := 366) rfl ?_
          refine o_if_ge P (hb hby at_366) (by decide) (pc' := 407) (by decide) (pcf := 369) rfl (fun q => absurd (by decide) q) (fun _ => ?_)
          refine o_dload P (hb hby at_369) rfl (pc' := 371) rfl ?_
          refine o_iload P (hb hby at_371) rfl (pc' := 373) rfl ?_
          refine o_i2d P (hb hby at_373) (v := FP.l2d (i4 &&& (1048575 : Int32)).toInt64) (i2d_w _) (pc' := 374) rfl ?_
          refine o_dconst1 P (hb hby at_374) (v := FP.dconst1) rfl (pc' := 375) rfl ?_
          refine o_dadd P (hb hby at_375) (v := (FP.l2d ((i4 &&& (1048575 : Int32)).toInt64 + 1))) (nn_w (ow_add1 hk)) (ow_add1 hk) (pc' := 376) rfl ?_
          refine o_dcmp P (hb hby at_376) (v := (cmpValue (FP.dcmp (oW (i4 &&& (1048575 : Int32)).toInt64 (oMax (1 : Int32) ((i1 &&& (2147483647 : Int32)) - (1 : Int32))).toInt64 (i2 &&& (2147483647 : Int32)).toInt64) (FP.l2d ((i4 &&& (1048575 : Int32)).toInt64 + 1))) .g)) rfl (pc' := 377) rfl ?_
          refine o_if_gt P (hb hby at_377) (by decide) (pc' := 407) (by decide) (pcf := 380) rfl (fun q => absurd q (ow_top hk ht hp .g)) (fun _ => ?_)
          refine o_iload P (hb hby at_380) rfl (pc' := 382) rfl ?_
          refine o_if_eq P (hb hby at_382) (by decide) (pc' := 403) (by decide) (pcf := 385) rfl (fun hk0 => ?_) (fun hk0 => ?_)
          · refine o_iconst P (1 : Int32) (hb hby at_403) rfl (pc' := 404) rfl ?_
            refine o_goto P (hb hby at_404) (by decide) (pc' := 408) (by decide) ?_
            refine o_istore P (hb hby at_408) (L' := #[.val (.int i0), .val (.int i1), .val (.int i2), .val (.int i3), .val (.int i4), .val (.int ((i0 &&& (2147483647 : Int32)) % (5 : Int32))), .val (.double (FP.l2d (i3 &&& (1 : Int32)).toInt64)), .second, .val (.int (i4 &&& (1048575 : Int32))), .val (.int (oMax (1 : Int32) ((i1 &&& (2147483647 : Int32)) - (1 : Int32)))), .val (.double (FP.l2d (i2 &&& (2147483647 : Int32)).toInt64)), .second, .val (.ref a), .val (.double (oW (i4 &&& (1048575 : Int32)).toInt64 (oMax (1 : Int32) ((i1 &&& (2147483647 : Int32)) - (1 : Int32))).toInt64 (i2 &&& (2147483647 : Int32)).toInt64)), .second, .val (.double (oW (i4 &&& (1048575 : Int32)).toInt64 ((oMax (1 : Int32) ((i1 &&& (2147483647 : Int32)) - (1 : Int32))) + (1 : Int32)).toInt64 (i2 &&& (2147483647 : Int32)).toInt64)), .second, .val (.double (oW (i4 &&& (1048575 : Int32)).toInt64 (oMax (1 : Int32) ((i1 &&& (2147483647 : Int32)) - (1 : Int32))).toInt64 ((i2 &&& (2147483647 : Int32)).toInt64 + 1))), .second, .val (.int 1)]) rfl (pc' := 410) rfl ?_
            refine o_iload P (hb hby at_410) rfl (pc' := 412) rfl ?_
            refine o_if_eq P (hb hby at_412) (by decide) (pc' := 435) (by decide) (pcf := 415) rfl (fun q => absurd q (by decide)) (fun _ => ?_)
            refine o_dload P (hb hby at_415) rfl (pc' := 417) rfl ?_
            refine o_dload P (hb hby at_417) rfl (pc' := 419) rfl ?_
            refine o_dcmp P (hb hby at_419) (v := (cmpValue (FP.dcmp (oW (i4 &&& (1048575 : Int32)).toInt64 (oMax (1 : Int32) ((i1 &&& (2147483647 : Int32)) - (1 : Int32))).toInt64 (i2 &&& (2147483647 : Int32)).toInt64) (oW (i4 &&& (1048575 : Int32)).toInt64 ((oMax (1 : Int32) ((i1 &&& (2147483647 : Int32)) - (1 : Int32))) + (1 : Int32)).toInt64 (i2 &&& (2147483647 : Int32)).toInt64)) .g)) rfl (pc' := 420) rfl ?_
            refine o_if_gt P (hb hby at_420) (by decide) (pc' := 435) (by decide) (pcf := 423) rfl (fun q => absurd q (ow_t hk ht ht1 hp het .g)) (fun _ => ?_)
            refine o_dload P (hb hby at_423) rfl (pc' := 425) rfl ?_
            refine o_dload P (hb hby at_425) rfl (pc' := 427) rfl ?_
            refine o_dcmp P (hb hby at_427) (v := (cmpValue (FP.dcmp (oW (i4 &&& (1048575 : Int32)).toInt64 (oMax (1 : Int32) ((i1 &&& (2147483647 : Int32)) - (1 : Int32))).toInt64 ((i2 &&& (2147483647 : Int32)).toInt64 + 1)) (oW (i4 &&& (1048575 : Int32)).toInt64 (oMax (1 : Int32) ((i1 &&& (2147483647 : Int32)) - (1 : Int32))).toInt64 (i2 &&& (2147483647 : Int32)).toInt64)) .g)) rfl (pc' := 428) rfl ?_
            refine o_if_gt P (hb hby at_428) (by decide) (pc' := 435) (by decide) (pcf := 431) rfl (fun q => absurd q (ow_p hk ht hp hp1 (by rw [hep]; omega) .g)) (fun _ => ?_)
            refine o_iconst P (1 : Int32) (hb hby at_431) rfl (pc' := 432) rfl ?_
            refine o_goto P (hb hby at_432) (by decide) (pc' := 436) (by decide) ?_
            exact o_retI P hret (by simp) rfl (hb hby at_436) (by decide) (by decide) rfl
          · refine o_dload P (hb hby at_385) rfl (pc' := 387) rfl ?_
            refine o_dconst0 P (hb hby at_387) (v := (FP.l2d 0)) oh_l0.symm (pc' := 388) rfl ?_
            refine o_dcmp P (hb hby at_388) (v := (lcmpW (i2 &&& (2147483647 : Int32)).toInt64 0)) (dcmpV_w (ow_b53p hp) ⟨by decide, by decide⟩ .l) (pc' := 389) rfl ?_
            refine o_if_eq P (hb hby at_389) (by decide) (pc' := 403) (by decide) (pcf := 392) rfl (fun hp0 => ?_) (fun hp0 => ?_)
            · refine o_iconst P (1 : Int32) (hb hby at_403) rfl (pc' := 404) rfl ?_
              refine o_goto P (hb hby at_404) (by decide) (pc' := 408) (by decide) ?_
              refine o_istore P (hb hby at_408) (L' := #[.val (.int i0), .val (.int i1), .val (.int i2), .val (.int i3), .val (.int i4), .val (.int ((i0 &&& (2147483647 : Int32)) % (5 : Int32))), .val (.double (FP.l2d (i3 &&& (1 : Int32)).toInt64)), .second, .val (.int (i4 &&& (1048575 : Int32))), .val (.int (oMax (1 : Int32) ((i1 &&& (2147483647 : Int32)) - (1 : Int32)))), .val (.double (FP.l2d (i2 &&& (2147483647 : Int32)).toInt64)), .second, .val (.ref a), .val (.double (oW (i4 &&& (1048575 : Int32)).toInt64 (oMax (1 : Int32) ((i1 &&& (2147483647 : Int32)) - (1 : Int32))).toInt64 (i2 &&& (2147483647 : Int32)).toInt64)), .second, .val (.double (oW (i4 &&& (1048575 : Int32)).toInt64 ((oMax (1 : Int32) ((i1 &&& (2147483647 : Int32)) - (1 : Int32))) + (1 : Int32)).toInt64 (i2 &&& (2147483647 : Int32)).toInt64)), .second, .val (.double (oW (i4 &&& (1048575 : Int32)).toInt64 (oMax (1 : Int32) ((i1 &&& (2147483647 : Int32)) - (1 : Int32))).toInt64 ((i2 &&& (2147483647 : Int32)).toInt64 + 1))), .second, .val (.int 1)]) rfl (pc' := 410) rfl ?_
              refine o_iload P (hb hby at_410) rfl (pc' := 412) rfl ?_
              refine o_if_eq P (hb hby at_412) (by decide) (pc' := 435) (by decide) (pcf := 415) rfl (fun q => absurd q (by decide)) (fun _ => ?_)
              refine o_dload P (hb hby at_415) rfl (pc' := 417) rfl ?_
              refine o_dload P (hb hby at_417) rfl (pc' := 419) rfl ?_
              refine o_dcmp P (hb hby at_419) (v := (cmpValue (FP.dcmp (oW (i4 &&& (1048575 : Int32)).toInt64 (oMax (1 : Int32) ((i1 &&& (2147483647 : Int32)) - (1 : Int32))).toInt64 (i2 &&& (2147483647 : Int32)).toInt64) (oW (i4 &&& (1048575 : Int32)).toInt64 ((oMax (1 : Int32) ((i1 &&& (2147483647 : Int32)) - (1 : Int32))) + (1 : Int32)).toInt64 (i2 &&& (2147483647 : Int32)).toInt64)) .g)) rfl (pc' := 420) rfl ?_
              refine o_if_gt P (hb hby at_420) (by decide) (pc' := 435) (by decide) (pcf := 423) rfl (fun q => absurd q (ow_t hk ht ht1 hp het .g)) (fun _ => ?_)
              refine o_dload P (hb hby at_423) rfl (pc' := 425) rfl ?_
              refine o_dload P (hb hby at_425) rfl (pc' := 427) rfl ?_
              refine o_dcmp P (hb hby at_427) (v := (cmpValue (FP.dcmp (oW (i4 &&& (1048575 : Int32)).toInt64 (oMax (1 : Int32) ((i1 &&& (2147483647 : Int32)) - (1 : Int32))).toInt64 ((i2 &&& (2147483647 : Int32)).toInt64 + 1)) (oW (i4 &&& (1048575 : Int32)).toInt64 (oMax (1 : Int32) ((i1 &&& (2147483647 : Int32)) - (1 : Int32))).toInt64 (i2 &&& (2147483647 : Int32)).toInt64)) .g)) rfl (pc' := 428) rfl ?_
              refine o_if_gt P (hb hby at_428) (by decide) (pc' := 435) (by decide) (pcf := 431) rfl (fun q => absurd q (ow_p hk ht hp hp1 (by rw [hep]; omega) .g)) (fun _ => ?_)
              refine o_iconst P (1 : Int32) (hb hby at_431) rfl (pc' := 432) rfl ?_
              refine o_goto P (hb hby at_432) (by decide) (pc' := 436) (by decide) ?_
              exact o_retI P hret (by simp) rfl (hb hby at_436) (by decide) (by decide) rfl
            · refine o_dload P (hb hby at_392) rfl (pc' := 394) rfl ?_
              refine o_iload P (hb hby at_394) rfl (pc' := 396) rfl ?_
              refine o_i2d P (hb hby at_396) (v := FP.l2d (i4 &&& (1048575 : Int32)).toInt64) (i2d_w _) (pc' := 397) rfl ?_
              refine o_dconst1 P (hb hby at_397) (v := FP.dconst1) rfl (pc' := 398) rfl ?_
              refine o_dadd P (hb hby at_398) (v := (FP.l2d ((i4 &&& (1048575 : Int32)).toInt64 + 1))) (nn_w (ow_add1 hk)) (ow_add1 hk) (pc' := 399) rfl ?_
              refine o_dcmp P (hb hby at_399) (v := (-1 : Int32)) (ow_lt hk ht hp (ow_nz hk0) (ow_pz hp0) .g) (pc' := 400) rfl ?_
              refine o_if_ge P (hb hby at_400) (by decide) (pc' := 407) (by decide) (pcf := 403) rfl (fun q => absurd (by decide) q) (fun _ => ?_)
              refine o_iconst P (1 : Int32) (hb hby at_403) rfl (pc' := 404) rfl ?_
              refine o_goto P (hb hby at_404) (by decide) (pc' := 408) (by decide) ?_
              refine o_istore P (hb hby at_408) (L' := #[.val (.int i0), .val (.int i1), .val (.int i2), .val (.int i3), .val (.int i4), .val (.int ((i0 &&& (2147483647 : Int32)) % (5 : Int32))), .val (.double (FP.l2d (i3 &&& (1 : Int32)).toInt64)), .second, .val (.int (i4 &&& (1048575 : Int32))), .val (.int (oMax (1 : Int32) ((i1 &&& (2147483647 : Int32)) - (1 : Int32)))), .val (.double (FP.l2d (i2 &&& (2147483647 : Int32)).toInt64)), .second, .val (.ref a), .val (.double (oW (i4 &&& (1048575 : Int32)).toInt64 (oMax (1 : Int32) ((i1 &&& (2147483647 : Int32)) - (1 : Int32))).toInt64 (i2 &&& (2147483647 : Int32)).toInt64)), .second, .val (.double (oW (i4 &&& (1048575 : Int32)).toInt64 ((oMax (1 : Int32) ((i1 &&& (2147483647 : Int32)) - (1 : Int32))) + (1 : Int32)).toInt64 (i2 &&& (2147483647 : Int32)).toInt64)), .second, .val (.double (oW (i4 &&& (1048575 : Int32)).toInt64 (oMax (1 : Int32) ((i1 &&& (2147483647 : Int32)) - (1 : Int32))).toInt64 ((i2 &&& (2147483647 : Int32)).toInt64 + 1))), .second, .val (.int 1)]) rfl (pc' := 410) rfl ?_
              refine o_iload P (hb hby at_410) rfl (pc' := 412) rfl ?_
              refine o_if_eq P (hb hby at_412) (by decide) (pc' := 435) (by decide) (pcf := 415) rfl (fun q => absurd q (by decide)) (fun _ => ?_)
              refine o_dload P (hb hby at_415) rfl (pc' := 417) rfl ?_
              refine o_dload P (hb hby at_417) rfl (pc' := 419) rfl ?_
              refine o_dcmp P (hb hby at_419) (v := (cmpValue (FP.dcmp (oW (i4 &&& (1048575 : Int32)).toInt64 (oMax (1 : Int32) ((i1 &&& (2147483647 : Int32)) - (1 : Int32))).toInt64 (i2 &&& (2147483647 : Int32)).toInt64) (oW (i4 &&& (1048575 : Int32)).toInt64 ((oMax (1 : Int32) ((i1 &&& (2147483647 : Int32)) - (1 : Int32))) + (1 : Int32)).toInt64 (i2 &&& (2147483647 : Int32)).toInt64)) .g)) rfl (pc' := 420) rfl ?_
              refine o_if_gt P (hb hby at_420) (by decide) (pc' := 435) (by decide) (pcf := 423) rfl (fun q => absurd q (ow_t hk ht ht1 hp het .g)) (fun _ => ?_)
              refine o_dload P (hb hby at_423) rfl (pc' := 425) rfl ?_
              refine o_dload P (hb hby at_425) rfl (pc' := 427) rfl ?_
              refine o_dcmp P (hb hby at_427) (v := (cmpValue (FP.dcmp (oW (i4 &&& (1048575 : Int32)).toInt64 (oMax (1 : Int32) ((i1 &&& (2147483647 : Int32)) - (1 : Int32))).toInt64 ((i2 &&& (2147483647 : Int32)).toInt64 + 1)) (oW (i4 &&& (1048575 : Int32)).toInt64 (oMax (1 : Int32) ((i1 &&& (2147483647 : Int32)) - (1 : Int32))).toInt64 (i2 &&& (2147483647 : Int32)).toInt64)) .g)) rfl (pc' := 428) rfl ?_
              refine o_if_gt P (hb hby at_428) (by decide) (pc' := 435) (by decide) (pcf := 431) rfl (fun q => absurd q (ow_p hk ht hp hp1 (by rw [hep]; omega) .g)) (fun _ => ?_)
              refine o_iconst P (1 : Int32) (hb hby at_431) rfl (pc' := 432) rfl ?_
              refine o_goto P (hb hby at_432) (by decide) (pc' := 436) (by decide) ?_
              exact o_retI P hret (by simp) rfl (hb hby at_436) (by decide) (by decide) rfl
        · obtain ⟨hk3, hW3⟩ := wt_m3 (ow_a3 i1 63 63 rfl (by decide) (by decide)) (ow_a3 i3 63 63 rfl (by decide) (by decide)) (ow_a3 i2 4095 4095 rfl (by decide) (by decide))
          refine o_iconst P (1 : Int32) (hb hby at_203) rfl (pc' := 204) rfl ?_
          refine o_iloadN P (hb hby at_204) rfl (pc' := 205) rfl ?_
          refine o_bipush P (63 : Int32) (hb hby at_205) rfl (pc' := 207) rfl ?_
          refine o_iand P (hb hby at_207) (pc' := 208) rfl ?_
          refine o_iadd P (hb hby at_208) (pc' := 209) rfl ?_
          refine o_istore P (hb hby at_209) (L' := #[.val (.int i0), .val (.int i1), .val (.int i2), .val (.int i3), .val (.int i4), .val (.int ((i0 &&& (2147483647 : Int32)) % (5 : Int32))), .val (.double (FP.l2d (i3 &&& (1 : Int32)).toInt64)), .second, .val (.int ((1 : Int32) + (i1 &&& (63 : Int32)))), .unset, .unset, .unset, .unset, .unset, .unset, .unset, .unset, .unset, .unset, .unset]) rfl (pc' := 211) rfl ?_
          refine o_iconst P (1 : Int32) (hb hby at_211) rfl (pc' := 212) rfl ?_
          refine o_iloadN P (hb hby at_212) rfl (pc' := 213) rfl ?_
          refine o_bipush P (63 : Int32) (hb hby at_213) rfl (pc' := 215) rfl ?_
          refine o_iand P (hb hby at_215) (pc' := 216) rfl ?_
          refine o_iadd P (hb hby at_216) (pc' := 217) rfl ?_
          refine o_istore P (hb hby at_217) (L' := #[.val (.int i0), .val (.int i1), .val (.int i2), .val (.int i3), .val (.int i4), .val (.int ((i0 &&& (2147483647 : Int32)) % (5 : Int32))), .val (.double (FP.l2d (i3 &&& (1 : Int32)).toInt64)), .second, .val (.int ((1 : Int32) + (i1 &&& (63 : Int32)))), .val (.int ((1 : Int32) + (i3 &&& (63 : Int32)))), .unset, .unset, .unset, .unset, .unset, .unset, .unset, .unset, .unset, .unset]) rfl (pc' := 219) rfl ?_
          refine o_iconst P (1 : Int32) (hb hby at_219) rfl (pc' := 220) rfl ?_
          refine o_iloadN P (hb hby at_220) rfl (pc' := 221) rfl ?_
          refine o_sipush P (4095 : Int32) (hb hby at_221) rfl (pc' := 224) rfl ?_
          refine o_iand P (hb hby at_224) (pc' := 225) rfl ?_
          refine o_iadd P (hb hby at_225) (pc' := 226) rfl ?_
          refine o_istore P (hb hby at_226) (L' := #[.val (.int i0), .val (.int i1), .val (.int i2), .val (.int i3), .val (.int i4), .val (.int ((i0 &&& (2147483647 : Int32)) % (5 : Int32))), .val (.double (FP.l2d (i3 &&& (1 : Int32)).toInt64)), .second, .val (.int ((1 : Int32) + (i1 &&& (63 : Int32)))), .val (.int ((1 : Int32) + (i3 &&& (63 : Int32)))), .val (.int ((1 : Int32) + (i2 &&& (4095 : Int32)))), .unset, .unset, .unset, .unset, .unset, .unset, .unset, .unset, .unset]) rfl (pc' := 228) rfl ?_
          refine o_iload P (hb hby at_228) rfl (pc' := 230) rfl ?_
          refine o_iconst P (1 : Int32) (hb hby at_230) rfl (pc' := 231) rfl ?_
          refine o_iadd P (hb hby at_231) (pc' := 232) rfl ?_
          refine o_iload P (hb hby at_232) rfl (pc' := 234) rfl ?_
          refine o_imul P (hb hby at_234) (pc' := 235) rfl ?_
          refine o_iconst P (1 : Int32) (hb hby at_235) rfl (pc' := 236) rfl ?_
          refine o_isub P (hb hby at_236) (pc' := 237) rfl ?_
          refine o_istore P (hb hby at_237) (L' := #[.val (.int i0), .val (.int i1), .val (.int i2), .val (.int i3), .val (.int i4), .val (.int ((i0 &&& (2147483647 : Int32)) % (5 : Int32))), .val (.double (FP.l2d (i3 &&& (1 : Int32)).toInt64)), .second, .val (.int ((1 : Int32) + (i1 &&& (63 : Int32)))), .val (.int ((1 : Int32) + (i3 &&& (63 : Int32)))), .val (.int ((1 : Int32) + (i2 &&& (4095 : Int32)))), .val (.int (((((1 : Int32) + (i1 &&& (63 : Int32))) + (1 : Int32)) * ((1 : Int32) + (i3 &&& (63 : Int32)))) - (1 : Int32))), .unset, .unset, .unset, .unset, .unset, .unset, .unset, .unset]) rfl (pc' := 239) rfl ?_
          refine o_iload P (hb hby at_239) rfl (pc' := 241) rfl ?_
          refine o_iload P (hb hby at_241) rfl (pc' := 243) rfl ?_
          refine o_imul P (hb hby at_243) (pc' := 244) rfl ?_
          refine o_iload P (hb hby at_244) rfl (pc' := 246) rfl ?_
          refine o_imul P (hb hby at_246) (pc' := 247) rfl ?_
          refine o_istore P (hb hby at_247) (L' := #[.val (.int i0), .val (.int i1), .val (.int i2), .val (.int i3), .val (.int i4), .val (.int ((i0 &&& (2147483647 : Int32)) % (5 : Int32))), .val (.double (FP.l2d (i3 &&& (1 : Int32)).toInt64)), .second, .val (.int ((1 : Int32) + (i1 &&& (63 : Int32)))), .val (.int ((1 : Int32) + (i3 &&& (63 : Int32)))), .val (.int ((1 : Int32) + (i2 &&& (4095 : Int32)))), .val (.int (((((1 : Int32) + (i1 &&& (63 : Int32))) + (1 : Int32)) * ((1 : Int32) + (i3 &&& (63 : Int32)))) - (1 : Int32))), .val (.int (((((((1 : Int32) + (i1 &&& (63 : Int32))) + (1 : Int32)) * ((1 : Int32) + (i3 &&& (63 : Int32)))) - (1 : Int32)) * ((1 : Int32) + (i2 &&& (4095 : Int32)))) * ((1 : Int32) + (i1 &&& (63 : Int32))))), .unset, .unset, .unset, .unset, .unset, .unset, .unset]) rfl (pc' := 249) rfl ?_
          have hz_a := P.keep0.1
          refine o_new P [("com/example/busca/busca/rank/LengthNormalizedModel", "b", "D", (.double 0)), ("com/example/busca/busca/rank/Bm25Model", "k1", "D", (.double 0))] (ow hw 5 rfl) (ow hw 6 rfl) (ow hw 7 rfl) (OLd.cons (Or.inr (ow hw 20 rfl)) (ty := .double) (by decide) rfl (OLd.cons (Or.inr (ow hw 23 rfl)) (ty := .double) (by decide) rfl OLd.nil)) (by decide +kernel) (hb hby at_249) (pc' := 252) rfl (by decide) (by decide) ?_
          clear P; intro T h1 a P K1 hb_a F_a
          have sz_a := Nat.le_trans hz_a hb_a
          clear hz_a
          clear K1
          refine o_dup P (hb hby at_252) rfl (pc' := 253) rfl ?_
          refine o_iload P (hb hby at_253) rfl (pc' := 255) rfl ?_
          refine o_i2d P (hb hby at_255) (v := FP.l2d (((((1 : Int32) + (i1 &&& (63 : Int32))) + (1 : Int32)) * ((1 : Int32) + (i3 &&& (63 : Int32)))) - (1 : Int32)).toInt64) (i2d_w _) (pc' := 256) rfl ?_
          refine o_dload P (hb hby at_256) rfl (pc' := 258) rfl ?_
          refine o_callI P (W := 1) (a := a) rfl (ow hw 8 rfl) (ow hw 9 rfl) (ow hw 7 rfl) (ow hw 10 rfl) (by decide) (ct_bm l Z a0 hw [] n0 a (FP.l2d (((((1 : Int32) + (i1 &&& (63 : Int32))) + (1 : Int32)) * ((1 : Int32) + (i3 &&& (63 : Int32)))) - (1 : Int32)).toInt64) (FP.l2d (i3 &&& (1 : Int32)).toInt64) h1 F_a (ow_b i3) (ow_kw hk3)) (o_sfS (List.Mem.head _) o_sf0) (by rw [hml]; rfl) (by decide) (by decide) (argsL := [(.double (FP.l2d (((((1 : Int32) + (i1 &&& (63 : Int32))) + (1 : Int32)) * ((1 : Int32) + (i3 &&& (63 : Int32)))) - (1 : Int32)).toInt64)), (.double (FP.l2d (i3 &&& (1 : Int32)).toInt64))]) (rest := [(.ref a)]) (lenOf pd_2 rfl) rfl rfl (Nat.le_of_eq rfl) (hb hby at_258) (pc' := 261) rfl (by decide) (by decide) ?_
          clear P; intro T h2 v2 P K2 q2
          obtain ⟨rfl, F_a'⟩ := q2
          clear F_a; have F_a := F_a'; clear F_a'; clear K2
          show OG p e below m _ T 261 _ [(.ref a)]
          refine o_iload P (hb hby at_261) rfl (pc' := 263) rfl ?_
          refine o_iload P (hb hby at_263) rfl (pc' := 265) rfl ?_
          refine o_i2d P (hb hby at_265) (v := FP.l2d ((1 : Int32) + (i2 &&& (4095 : Int32))).toInt64) (i2d_w _) (pc' := 266) rfl ?_
          refine o_callV P (W := 0) (a := a) (ow hw 24 rfl) (ow hw 25 rfl) (o_nfSl (ow hw 27 rfl)) (ow hw 27 rfl) (ow hw 26 rfl) (ow hw 7 rfl) (ow hw 28 rfl) (by decide) F_a.exa (ct_wt l Z a0 hw [] n0 a (((((((1 : Int32) + (i1 &&& (63 : Int32))) + (1 : Int32)) * ((1 : Int32) + (i3 &&& (63 : Int32)))) - (1 : Int32)) * ((1 : Int32) + (i2 &&& (4095 : Int32)))) * ((1 : Int32) + (i1 &&& (63 : Int32)))) (FP.l2d ((1 : Int32) + (i2 &&& (4095 : Int32))).toInt64) (FP.l2d (((((1 : Int32) + (i1 &&& (63 : Int32))) + (1 : Int32)) * ((1 : Int32) + (i3 &&& (63 : Int32)))) - (1 : Int32)).toInt64) (FP.l2d (i3 &&& (1 : Int32)).toInt64) (FP.l2d (((1 : Int32) + (i3 &&& (63 : Int32))) * ((1 : Int32) + (i1 &&& (63 : Int32)))).toInt64) h2 F_a hW3) o_sf0 (by rw [hml]; rfl) (by decide) (by decide) (argsL := [(.int (((((((1 : Int32) + (i1 &&& (63 : Int32))) + (1 : Int32)) * ((1 : Int32) + (i3 &&& (63 : Int32)))) - (1 : Int32)) * ((1 : Int32) + (i2 &&& (4095 : Int32)))) * ((1 : Int32) + (i1 &&& (63 : Int32))))), (.double (FP.l2d ((1 : Int32) + (i2 &&& (4095 : Int32))).toInt64))]) (rest := []) (lenOf pd_3 rfl) rfl rfl (Nat.le_of_eq rfl) (hb hby at_266) (pc' := 269) rfl (by decide) (by decide) ?_
          clear P; intro T h3 v3 P K3 q3
          obtain ⟨rfl, rfl⟩ := q3; clear K3
          show OG p e below m _ T 269 _ [(.double (FP.l2d (((1 : Int32) + (i3 &&& (63 : Int32))) * ((1 : Int32) + (i1 &&& (63 : Int32)))).toInt64))]
          refine o_iload P (hb hby at_269) rfl (pc' := 271) rfl ?_
          refine o_iload P (hb hby at_271) rfl (pc' := 273) rfl ?_
          refine o_imul P (hb hby at_273) (pc' := 274) rfl ?_
          refine o_i2d P (hb hby at_274) (v := FP.l2d (((1 : Int32) + (i3 &&& (63 : Int32))) * ((1 : Int32) + (i1 &&& (63 : Int32)))).toInt64) (i2d_w _) (pc' := 275) rfl ?_
          refine o_dcmp P (hb hby at_275) (v := (0 : Int32)) (dcmpV_eq rfl (l2d_fin _).noNaN .l) (pc' := 276) rfl ?_
          refine o_if_ne P (hb hby at_276) (by decide) (pc' := 283) (by decide) (pcf := 279) rfl (fun q => absurd (by decide) q) (fun _ => ?_)
          refine o_iconst P (1 : Int32) (hb hby at_279) rfl (pc' := 280) rfl ?_
          refine o_goto P (hb hby at_280) (by decide) (pc' := 284) (by decide) ?_
          exact o_retI P hret (by simp) rfl (hb hby at_284) (by decide) (by decide) rfl
      · refine o_iconst P (1 : Int32) (hb hby at_140) rfl (pc' := 141) rfl ?_
        refine o_iloadN P (hb hby at_141) rfl (pc' := 142) rfl ?_
        refine o_ldcI P (ow hw 0 rfl) (hb hby at_142) (pc' := 144) rfl ?_
        refine o_iand P (hb hby at_144) (pc' := 145) rfl ?_
        refine o_callS P (W := 0) (ow hw 1 rfl) (ow hw 2 rfl) (ow hw 3 rfl) (ow hw 4 rfl) (by decide) (ct_max l Z a0 hw [] n0 (1 : Int32) (i1 &&& (2147483647 : Int32)) h0) o_sf0 (by rw [hml]; rfl) (by decide) (by decide) (argsL := [(.int 1), (.int (i1 &&& (2147483647 : Int32)))]) (rest := []) (lenOf pd_1 rfl) rfl rfl (Nat.le_of_eq rfl) (hb hby at_145) (pc' := 148) rfl (by decide) (by decide) ?_
        clear P; intro T h1 v1 P K1 q1
        obtain ⟨rfl, rfl⟩ := q1; clear K1
        show OG p e below m _ T 148 _ [(.int (oMax (1 : Int32) (i1 &&& (2147483647 : Int32))))]
        refine o_istore P (hb hby at_148) (L' := #[.val (.int i0), .val (.int i1), .val (.int i2), .val (.int i3), .val (.int i4), .val (.int ((i0 &&& (2147483647 : Int32)) % (5 : Int32))), .val (.double (FP.l2d (i3 &&& (1 : Int32)).toInt64)), .second, .val (.int (oMax (1 : Int32) (i1 &&& (2147483647 : Int32)))), .unset, .unset, .unset, .unset, .unset, .unset, .unset, .unset, .unset, .unset, .unset]) rfl (pc' := 150) rfl ?_
        refine o_iconst P (1 : Int32) (hb hby at_150) rfl (pc' := 151) rfl ?_
        refine o_iloadN P (hb hby at_151) rfl (pc' := 152) rfl ?_
        refine o_ldcI P (ow hw 0 rfl) (hb hby at_152) (pc' := 154) rfl ?_
        refine o_iand P (hb hby at_154) (pc' := 155) rfl ?_
        refine o_callS P (W := 0) (ow hw 1 rfl) (ow hw 2 rfl) (ow hw 3 rfl) (ow hw 4 rfl) (by decide) (ct_max l Z a0 hw [] n0 (1 : Int32) (i2 &&& (2147483647 : Int32)) h1) o_sf0 (by rw [hml]; rfl) (by decide) (by decide) (argsL := [(.int 1), (.int (i2 &&& (2147483647 : Int32)))]) (rest := []) (lenOf pd_1 rfl) rfl rfl (Nat.le_of_eq rfl) (hb hby at_155) (pc' := 158) rfl (by decide) (by decide) ?_
        clear P; intro T h2 v2 P K2 q2
        obtain ⟨rfl, rfl⟩ := q2; clear K2
        show OG p e below m _ T 158 _ [(.int (oMax (1 : Int32) (i2 &&& (2147483647 : Int32))))]
        refine o_istore P (hb hby at_158) (L' := #[.val (.int i0), .val (.int i1), .val (.int i2), .val (.int i3), .val (.int i4), .val (.int ((i0 &&& (2147483647 : Int32)) % (5 : Int32))), .val (.double (FP.l2d (i3 &&& (1 : Int32)).toInt64)), .second, .val (.int (oMax (1 : Int32) (i1 &&& (2147483647 : Int32)))), .val (.int (oMax (1 : Int32) (i2 &&& (2147483647 : Int32)))), .unset, .unset, .unset, .unset, .unset, .unset, .unset, .unset, .unset, .unset]) rfl (pc' := 160) rfl ?_
        have hz_a := P.keep0.1
        refine o_new P [("com/example/busca/busca/rank/LengthNormalizedModel", "b", "D", (.double 0)), ("com/example/busca/busca/rank/Bm25Model", "k1", "D", (.double 0))] (ow hw 5 rfl) (ow hw 6 rfl) (ow hw 7 rfl) (OLd.cons (Or.inr (ow hw 20 rfl)) (ty := .double) (by decide) rfl (OLd.cons (Or.inr (ow hw 23 rfl)) (ty := .double) (by decide) rfl OLd.nil)) (by decide +kernel) (hb hby at_160) (pc' := 163) rfl (by decide) (by decide) ?_
        clear P; intro T h3 a P K3 hb_a F_a
        have sz_a := Nat.le_trans hz_a hb_a
        clear hz_a
        clear K3
        refine o_dup P (hb hby at_163) rfl (pc' := 164) rfl ?_
        refine o_ldc2D P (ow hw 29 rfl) (hb hby at_164) (pc' := 167) rfl ?_
        refine o_dload P (hb hby at_167) rfl (pc' := 169) rfl ?_
        refine o_callI P (W := 1) (a := a) rfl (ow hw 8 rfl) (ow hw 9 rfl) (ow hw 7 rfl) (ow hw 10 rfl) (by decide) (ct_bm l Z a0 hw [] n0 a (9110782046170513408 : UInt64) (FP.l2d (i3 &&& (1 : Int32)).toInt64) h3 F_a (ow_b i3) ow_kh) (o_sfS (List.Mem.head _) o_sf0) (by rw [hml]; rfl) (by decide) (by decide) (argsL := [(.double (9110782046170513408 : UInt64)), (.double (FP.l2d (i3 &&& (1 : Int32)).toInt64))]) (rest := [(.ref a)]) (lenOf pd_2 rfl) rfl rfl (Nat.le_of_eq rfl) (hb hby at_169) (pc' := 172) rfl (by decide) (by decide) ?_
        clear P; intro T h4 v4 P K4 q4
        obtain ⟨rfl, F_a'⟩ := q4
        clear F_a; have F_a := F_a'; clear F_a'; clear K4
        show OG p e below m _ T 172 _ [(.ref a)]
        refine o_iload P (hb hby at_172) rfl (pc' := 174) rfl ?_
        refine o_iload P (hb hby at_174) rfl (pc' := 176) rfl ?_
        refine o_i2d P (hb hby at_176) (v := FP.l2d (oMax (1 : Int32) (i2 &&& (2147483647 : Int32))).toInt64) (i2d_w _) (pc' := 177) rfl ?_
        have nw : NoNaN64 (FP.ddiv (FP.l2d (oMax (1 : Int32) (i1 &&& (2147483647 : Int32))).toInt64) (FP.l2d (oMax (1 : Int32) (i2 &&& (2147483647 : Int32))).toInt64)) := val64_no.mpr (od_ne (ow_op (ow_max _)) (ow_op (ow_max _)))
        refine o_callV P (W := 0) (a := a) (ow hw 24 rfl) (ow hw 25 rfl) (o_nfSl (ow hw 27 rfl)) (ow hw 27 rfl) (ow hw 26 rfl) (ow hw 7 rfl) (ow hw 28 rfl) (by decide) F_a.exa (ct_wt l Z a0 hw [] n0 a (oMax (1 : Int32) (i1 &&& (2147483647 : Int32))) (FP.l2d (oMax (1 : Int32) (i2 &&& (2147483647 : Int32))).toInt64) (9110782046170513408 : UInt64) (FP.l2d (i3 &&& (1 : Int32)).toInt64) (FP.ddiv (FP.l2d (oMax (1 : Int32) (i1 &&& (2147483647 : Int32))).toInt64) (FP.l2d (oMax (1 : Int32) (i2 &&& (2147483647 : Int32))).toInt64)) h4 F_a (wt_huge (ow_max _) (ow_max _))) o_sf0 (by rw [hml]; rfl) (by decide) (by decide) (argsL := [(.int (oMax (1 : Int32) (i1 &&& (2147483647 : Int32)))), (.double (FP.l2d (oMax (1 : Int32) (i2 &&& (2147483647 : Int32))).toInt64))]) (rest := []) (lenOf pd_3 rfl) rfl rfl (Nat.le_of_eq rfl) (hb hby at_177) (pc' := 180) rfl (by decide) (by decide) ?_
        clear P; intro T h5 v5 P K5 q5
        obtain ⟨rfl, rfl⟩ := q5; clear K5
        show OG p e below m _ T 180 _ [(.double (FP.ddiv (FP.l2d (oMax (1 : Int32) (i1 &&& (2147483647 : Int32))).toInt64) (FP.l2d (oMax (1 : Int32) (i2 &&& (2147483647 : Int32))).toInt64)))]
        refine o_iload P (hb hby at_180) rfl (pc' := 182) rfl ?_
        refine o_i2d P (hb hby at_182) (v := FP.l2d (oMax (1 : Int32) (i1 &&& (2147483647 : Int32))).toInt64) (i2d_w _) (pc' := 183) rfl ?_
        refine o_iload P (hb hby at_183) rfl (pc' := 185) rfl ?_
        refine o_i2d P (hb hby at_185) (v := FP.l2d (oMax (1 : Int32) (i2 &&& (2147483647 : Int32))).toInt64) (i2d_w _) (pc' := 186) rfl ?_
        refine o_ddiv P (hb hby at_186) (v := (FP.ddiv (FP.l2d (oMax (1 : Int32) (i1 &&& (2147483647 : Int32))).toInt64) (FP.l2d (oMax (1 : Int32) (i2 &&& (2147483647 : Int32))).toInt64))) nw rfl (pc' := 187) rfl ?_
        refine o_dcmp P (hb hby at_187) (v := (0 : Int32)) (dcmpV_eq rfl nw .l) (pc' := 188) rfl ?_
        refine o_if_ne P (hb hby at_188) (by decide) (pc' := 195) (by decide) (pcf := 191) rfl (fun q => absurd (by decide) q) (fun _ => ?_)
        refine o_iconst P (1 : Int32) (hb hby at_191) rfl (pc' := 192) rfl ?_
        refine o_goto P (hb hby at_192) (by decide) (pc' := 196) (by decide) ?_
        exact o_retI P hret (by simp) rfl (hb hby at_196) (by decide) (by decide) rfl
    · refine o_iconst P (1 : Int32) (hb hby at_70) rfl (pc' := 71) rfl ?_
      refine o_iloadN P (hb hby at_71) rfl (pc' := 72) rfl ?_
      refine o_ldcI P (ow hw 0 rfl) (hb hby at_72) (pc' := 74) rfl ?_
      refine o_iand P (hb hby at_74) (pc' := 75) rfl ?_
      refine o_callS P (W := 0) (ow hw 1 rfl) (ow hw 2 rfl) (ow hw 3 rfl) (ow hw 4 rfl) (by decide) (ct_max l Z a0 hw [] n0 (1 : Int32) (i1 &&& (2147483647 : Int32)) h0) o_sf0 (by rw [hml]; rfl) (by decide) (by decide) (argsL := [(.int 1), (.int (i1 &&& (2147483647 : Int32)))]) (rest := []) (lenOf pd_1 rfl) rfl rfl (Nat.le_of_eq rfl) (hb hby at_75) (pc' := 78) rfl (by decide) (by decide) ?_
      clear P; intro T h1 v1 P K1 q1
      obtain ⟨rfl, rfl⟩ := q1; clear K1
      show OG p e below m _ T 78 _ [(.int (oMax (1 : Int32) (i1 &&& (2147483647 : Int32))))]
      refine o_istore P (hb hby at_78) (L' := #[.val (.int i0), .val (.int i1), .val (.int i2), .val (.int i3), .val (.int i4), .val (.int ((i0 &&& (2147483647 : Int32)) % (5 : Int32))), .val (.double (FP.l2d (i3 &&& (1 : Int32)).toInt64)), .second, .val (.int (oMax (1 : Int32) (i1 &&& (2147483647 : Int32)))), .unset, .unset, .unset, .unset, .unset, .unset, .unset, .unset, .unset, .unset, .unset]) rfl (pc' := 80) rfl ?_
      refine o_iload P (hb hby at_80) rfl (pc' := 82) rfl ?_
      refine o_iconst P (1 : Int32) (hb hby at_82) rfl (pc' := 83) rfl ?_
      refine o_iand P (hb hby at_83) (pc' := 84) rfl ?_
      refine o_if_ne P (hb hby at_84) (by decide) (pc' := 98) (by decide) (pcf := 87) rfl (fun hu => ?_) (fun hu => ?_)
      · refine o_ldc2D P (ow hw 29 rfl) (hb hby at_98) (pc' := 101) rfl ?_
        refine o_dstore P (hb hby at_101) (L' := #[.val (.int i0), .val (.int i1), .val (.int i2), .val (.int i3), .val (.int i4), .val (.int ((i0 &&& (2147483647 : Int32)) % (5 : Int32))), .val (.double (FP.l2d (i3 &&& (1 : Int32)).toInt64)), .second, .val (.int (oMax (1 : Int32) (i1 &&& (2147483647 : Int32)))), .val (.double (9110782046170513408 : UInt64)), .second, .unset, .unset, .unset, .unset, .unset, .unset, .unset, .unset, .unset]) rfl (pc' := 103) rfl ?_
        have hz_a := P.keep0.1
        refine o_new P [("com/example/busca/busca/rank/LengthNormalizedModel", "b", "D", (.double 0)), ("com/example/busca/busca/rank/Bm25Model", "k1", "D", (.double 0))] (ow hw 5 rfl) (ow hw 6 rfl) (ow hw 7 rfl) (OLd.cons (Or.inr (ow hw 20 rfl)) (ty := .double) (by decide) rfl (OLd.cons (Or.inr (ow hw 23 rfl)) (ty := .double) (by decide) rfl OLd.nil)) (by decide +kernel) (hb hby at_103) (pc' := 106) rfl (by decide) (by decide) ?_
        clear P; intro T h2 a P K2 hb_a F_a
        have sz_a := Nat.le_trans hz_a hb_a
        clear hz_a
        clear K2
        refine o_dup P (hb hby at_106) rfl (pc' := 107) rfl ?_
        refine o_dload P (hb hby at_107) rfl (pc' := 109) rfl ?_
        refine o_dload P (hb hby at_109) rfl (pc' := 111) rfl ?_
        refine o_callI P (W := 1) (a := a) rfl (ow hw 8 rfl) (ow hw 9 rfl) (ow hw 7 rfl) (ow hw 10 rfl) (by decide) (ct_bm l Z a0 hw [] n0 a (9110782046170513408 : UInt64) (FP.l2d (i3 &&& (1 : Int32)).toInt64) h2 F_a (ow_b i3) ow_kh) (o_sfS (List.Mem.head _) o_sf0) (by rw [hml]; rfl) (by decide) (by decide) (argsL := [(.double (9110782046170513408 : UInt64)), (.double (FP.l2d (i3 &&& (1 : Int32)).toInt64))]) (rest := [(.ref a)]) (lenOf pd_2 rfl) rfl rfl (Nat.le_of_eq rfl) (hb hby at_111) (pc' := 114) rfl (by decide) (by decide) ?_
        clear P; intro T h3 v3 P K3 q3
        obtain ⟨rfl, F_a'⟩ := q3
        clear F_a; have F_a := F_a'; clear F_a'; clear K3
        show OG p e below m _ T 114 _ [(.ref a)]
        refine o_iload P (hb hby at_114) rfl (pc' := 116) rfl ?_
        refine o_dconst0 P (hb hby at_116) (v := (FP.l2d 0)) oh_l0.symm (pc' := 117) rfl ?_
        refine o_callV P (W := 0) (a := a) (ow hw 24 rfl) (ow hw 25 rfl) (o_nfSl (ow hw 27 rfl)) (ow hw 27 rfl) (ow hw 26 rfl) (ow hw 7 rfl) (ow hw 28 rfl) (by decide) F_a.exa (ct_wt l Z a0 hw [] n0 a (oMax (1 : Int32) (i1 &&& (2147483647 : Int32))) (FP.l2d 0) (9110782046170513408 : UInt64) (FP.l2d (i3 &&& (1 : Int32)).toInt64) (9110782046170513408 : UInt64) h3 F_a (wt_huge0 (ow_max _))) o_sf0 (by rw [hml]; rfl) (by decide) (by decide) (argsL := [(.int (oMax (1 : Int32) (i1 &&& (2147483647 : Int32)))), (.double (FP.l2d 0))]) (rest := []) (lenOf pd_3 rfl) rfl rfl (Nat.le_of_eq rfl) (hb hby at_117) (pc' := 120) rfl (by decide) (by decide) ?_
        clear P; intro T h4 v4 P K4 q4
        obtain ⟨rfl, rfl⟩ := q4; clear K4
        show OG p e below m _ T 120 _ [(.double (9110782046170513408 : UInt64))]
        refine o_dload P (hb hby at_120) rfl (pc' := 122) rfl ?_
        refine o_dconst1 P (hb hby at_122) (v := FP.dconst1) rfl (pc' := 123) rfl ?_
        refine o_dadd P (hb hby at_123) (v := (9110782046170513408 : UInt64)) (by rw [oh_add]; exact oh_nh) oh_add (pc' := 124) rfl ?_
        refine o_dcmp P (hb hby at_124) (v := (0 : Int32)) (dcmpV_eq rfl oh_nh .l) (pc' := 125) rfl ?_
        refine o_if_ne P (hb hby at_125) (by decide) (pc' := 132) (by decide) (pcf := 128) rfl (fun q => absurd (by decide) q) (fun _ => ?_)
        refine o_iconst P (1 : Int32) (hb hby at_128) rfl (pc' := 129) rfl ?_
        refine o_goto P (hb hby at_129) (by decide) (pc' := 133) (by decide) ?_
        exact o_retI P hret (by simp) rfl (hb hby at_133) (by decide) (by decide) rfl
      · refine o_iload P (hb hby at_87) rfl (pc' := 89) rfl ?_
        refine o_iconst P (1 : Int32) (hb hby at_89) rfl (pc' := 90) rfl ?_
        refine o_iushr P (hb hby at_90) (pc' := 91) rfl ?_
        refine o_ldcI P (ow hw 30 rfl) (hb hby at_91) (pc' := 93) rfl ?_
        refine o_iand P (hb hby at_93) (pc' := 94) rfl ?_
        refine o_i2d P (hb hby at_94) (v := FP.l2d (((i4.toUInt32 >>> ((1 : Int32) &&& 31).toUInt32).toInt32) &&& (1048575 : Int32)).toInt64) (i2d_w _) (pc' := 95) rfl ?_
        refine o_goto P (hb hby at_95) (by decide) (pc' := 101) (by decide) ?_
        refine o_dstore P (hb hby at_101) (L' := #[.val (.int i0), .val (.int i1), .val (.int i2), .val (.int i3), .val (.int i4), .val (.int ((i0 &&& (2147483647 : Int32)) % (5 : Int32))), .val (.double (FP.l2d (i3 &&& (1 : Int32)).toInt64)), .second, .val (.int (oMax (1 : Int32) (i1 &&& (2147483647 : Int32)))), .val (.double (FP.l2d (((i4.toUInt32 >>> ((1 : Int32) &&& 31).toUInt32).toInt32) &&& (1048575 : Int32)).toInt64)), .second, .unset, .unset, .unset, .unset, .unset, .unset, .unset, .unset, .unset]) rfl (pc' := 103) rfl ?_
        have hz_a := P.keep0.1
        refine o_new P [("com/example/busca/busca/rank/LengthNormalizedModel", "b", "D", (.double 0)), ("com/example/busca/busca/rank/Bm25Model", "k1", "D", (.double 0))] (ow hw 5 rfl) (ow hw 6 rfl) (ow hw 7 rfl) (OLd.cons (Or.inr (ow hw 20 rfl)) (ty := .double) (by decide) rfl (OLd.cons (Or.inr (ow hw 23 rfl)) (ty := .double) (by decide) rfl OLd.nil)) (by decide +kernel) (hb hby at_103) (pc' := 106) rfl (by decide) (by decide) ?_
        clear P; intro T h2 a P K2 hb_a F_a
        have sz_a := Nat.le_trans hz_a hb_a
        clear hz_a
        clear K2
        refine o_dup P (hb hby at_106) rfl (pc' := 107) rfl ?_
        refine o_dload P (hb hby at_107) rfl (pc' := 109) rfl ?_
        refine o_dload P (hb hby at_109) rfl (pc' := 111) rfl ?_
        refine o_callI P (W := 1) (a := a) rfl (ow hw 8 rfl) (ow hw 9 rfl) (ow hw 7 rfl) (ow hw 10 rfl) (by decide) (ct_bm l Z a0 hw [] n0 a (FP.l2d (((i4.toUInt32 >>> ((1 : Int32) &&& 31).toUInt32).toInt32) &&& (1048575 : Int32)).toInt64) (FP.l2d (i3 &&& (1 : Int32)).toInt64) h2 F_a (ow_b i3) (ow_kw (ow_k20 _))) (o_sfS (List.Mem.head _) o_sf0) (by rw [hml]; rfl) (by decide) (by decide) (argsL := [(.double (FP.l2d (((i4.toUInt32 >>> ((1 : Int32) &&& 31).toUInt32).toInt32) &&& (1048575 : Int32)).toInt64)), (.double (FP.l2d (i3 &&& (1 : Int32)).toInt64))]) (rest := [(.ref a)]) (lenOf pd_2 rfl) rfl rfl (Nat.le_of_eq rfl) (hb hby at_111) (pc' := 114) rfl (by decide) (by decide) ?_
        clear P; intro T h3 v3 P K3 q3
        obtain ⟨rfl, F_a'⟩ := q3
        clear F_a; have F_a := F_a'; clear F_a'; clear K3
        show OG p e below m _ T 114 _ [(.ref a)]
        refine o_iload P (hb hby at_114) rfl (pc' := 116) rfl ?_
        refine o_dconst0 P (hb hby at_116) (v := (FP.l2d 0)) oh_l0.symm (pc' := 117) rfl ?_
        refine o_callV P (W := 0) (a := a) (ow hw 24 rfl) (ow hw 25 rfl) (o_nfSl (ow hw 27 rfl)) (ow hw 27 rfl) (ow hw 26 rfl) (ow hw 7 rfl) (ow hw 28 rfl) (by decide) F_a.exa (ct_wt l Z a0 hw [] n0 a (oMax (1 : Int32) (i1 &&& (2147483647 : Int32))) (FP.l2d 0) (FP.l2d (((i4.toUInt32 >>> ((1 : Int32) &&& 31).toUInt32).toInt32) &&& (1048575 : Int32)).toInt64) (FP.l2d (i3 &&& (1 : Int32)).toInt64) (FP.l2d ((((i4.toUInt32 >>> ((1 : Int32) &&& 31).toUInt32).toInt32) &&& (1048575 : Int32)).toInt64 + 1)) h3 F_a (wt_pzero (ow_k20 _) (ow_max _))) o_sf0 (by rw [hml]; rfl) (by decide) (by decide) (argsL := [(.int (oMax (1 : Int32) (i1 &&& (2147483647 : Int32)))), (.double (FP.l2d 0))]) (rest := []) (lenOf pd_3 rfl) rfl rfl (Nat.le_of_eq rfl) (hb hby at_117) (pc' := 120) rfl (by decide) (by decide) ?_
        clear P; intro T h4 v4 P K4 q4
        obtain ⟨rfl, rfl⟩ := q4; clear K4
        show OG p e below m _ T 120 _ [(.double (FP.l2d ((((i4.toUInt32 >>> ((1 : Int32) &&& 31).toUInt32).toInt32) &&& (1048575 : Int32)).toInt64 + 1)))]
        refine o_dload P (hb hby at_120) rfl (pc' := 122) rfl ?_
        refine o_dconst1 P (hb hby at_122) (v := FP.dconst1) rfl (pc' := 123) rfl ?_
        refine o_dadd P (hb hby at_123) (v := (FP.l2d ((((i4.toUInt32 >>> ((1 : Int32) &&& 31).toUInt32).toInt32) &&& (1048575 : Int32)).toInt64 + 1))) (nn_w (ow_add1 (ow_k20 _))) (ow_add1 (ow_k20 _)) (pc' := 124) rfl ?_
        refine o_dcmp P (hb hby at_124) (v := (0 : Int32)) (dcmpV_eq rfl (l2d_fin _).noNaN .l) (pc' := 125) rfl ?_
        refine o_if_ne P (hb hby at_125) (by decide) (pc' := 132) (by decide) (pcf := 128) rfl (fun q => absurd (by decide) q) (fun _ => ?_)
        refine o_iconst P (1 : Int32) (hb hby at_128) rfl (pc' := 129) rfl ?_
        refine o_goto P (hb hby at_129) (by decide) (pc' := 133) (by decide) ?_
        exact o_retI P hret (by simp) rfl (hb hby at_133) (by decide) (by decide) rfl
  · refine o_iconst P (1 : Int32) (hb hby at_19) rfl (pc' := 20) rfl ?_
    refine o_iloadN P (hb hby at_20) rfl (pc' := 21) rfl ?_
    refine o_ldcI P (ow hw 0 rfl) (hb hby at_21) (pc' := 23) rfl ?_
    refine o_iand P (hb hby at_23) (pc' := 24) rfl ?_
    refine o_callS P (W := 0) (ow hw 1 rfl) (ow hw 2 rfl) (ow hw 3 rfl) (ow hw 4 rfl) (by decide) (ct_max l Z a0 hw [] n0 (1 : Int32) (i1 &&& (2147483647 : Int32)) h0) o_sf0 (by rw [hml]; rfl) (by decide) (by decide) (argsL := [(.int 1), (.int (i1 &&& (2147483647 : Int32)))]) (rest := []) (lenOf pd_1 rfl) rfl rfl (Nat.le_of_eq rfl) (hb hby at_24) (pc' := 27) rfl (by decide) (by decide) ?_
    clear P; intro T h1 v1 P K1 q1
    obtain ⟨rfl, rfl⟩ := q1; clear K1
    show OG p e below m _ T 27 _ [(.int (oMax (1 : Int32) (i1 &&& (2147483647 : Int32))))]
    refine o_istore P (hb hby at_27) (L' := #[.val (.int i0), .val (.int i1), .val (.int i2), .val (.int i3), .val (.int i4), .val (.int ((i0 &&& (2147483647 : Int32)) % (5 : Int32))), .val (.double (FP.l2d (i3 &&& (1 : Int32)).toInt64)), .second, .val (.int (oMax (1 : Int32) (i1 &&& (2147483647 : Int32)))), .unset, .unset, .unset, .unset, .unset, .unset, .unset, .unset, .unset, .unset, .unset]) rfl (pc' := 29) rfl ?_
    refine o_iloadN P (hb hby at_29) rfl (pc' := 30) rfl ?_
    refine o_ldcI P (ow hw 0 rfl) (hb hby at_30) (pc' := 32) rfl ?_
    refine o_iand P (hb hby at_32) (pc' := 33) rfl ?_
    refine o_i2d P (hb hby at_33) (v := FP.l2d (i2 &&& (2147483647 : Int32)).toInt64) (i2d_w _) (pc' := 34) rfl ?_
    refine o_dstore P (hb hby at_34) (L' := #[.val (.int i0), .val (.int i1), .val (.int i2), .val (.int i3), .val (.int i4), .val (.int ((i0 &&& (2147483647 : Int32)) % (5 : Int32))), .val (.double (FP.l2d (i3 &&& (1 : Int32)).toInt64)), .second, .val (.int (oMax (1 : Int32) (i1 &&& (2147483647 : Int32)))), .val (.double (FP.l2d (i2 &&& (2147483647 : Int32)).toInt64)), .second, .unset, .unset, .unset, .unset, .unset, .unset, .unset, .unset, .unset]) rfl (pc' := 36) rfl ?_
    have hz_a := P.keep0.1
    refine o_new P [("com/example/busca/busca/rank/LengthNormalizedModel", "b", "D", (.double 0)), ("com/example/busca/busca/rank/Bm25Model", "k1", "D", (.double 0))] (ow hw 5 rfl) (ow hw 6 rfl) (ow hw 7 rfl) (OLd.cons (Or.inr (ow hw 20 rfl)) (ty := .double) (by decide) rfl (OLd.cons (Or.inr (ow hw 23 rfl)) (ty := .double) (by decide) rfl OLd.nil)) (by decide +kernel) (hb hby at_36) (pc' := 39) rfl (by decide) (by decide) ?_
    clear P; intro T h2 a P K2 hb_a F_a
    have sz_a := Nat.le_trans hz_a hb_a
    clear hz_a
    clear K2
    refine o_dup P (hb hby at_39) rfl (pc' := 40) rfl ?_
    refine o_dconst0 P (hb hby at_40) (v := (FP.l2d 0)) oh_l0.symm (pc' := 41) rfl ?_
    refine o_dload P (hb hby at_41) rfl (pc' := 43) rfl ?_
    refine o_callI P (W := 1) (a := a) rfl (ow hw 8 rfl) (ow hw 9 rfl) (ow hw 7 rfl) (ow hw 10 rfl) (by decide) (ct_bm l Z a0 hw [] n0 a (FP.l2d 0) (FP.l2d (i3 &&& (1 : Int32)).toInt64) h2 F_a (ow_b i3) (ow_kw ok_zero)) (o_sfS (List.Mem.head _) o_sf0) (by rw [hml]; rfl) (by decide) (by decide) (argsL := [(.double (FP.l2d 0)), (.double (FP.l2d (i3 &&& (1 : Int32)).toInt64))]) (rest := [(.ref a)]) (lenOf pd_2 rfl) rfl rfl (Nat.le_of_eq rfl) (hb hby at_43) (pc' := 46) rfl (by decide) (by decide) ?_
    clear P; intro T h3 v3 P K3 q3
    obtain ⟨rfl, F_a'⟩ := q3
    clear F_a; have F_a := F_a'; clear F_a'; clear K3
    show OG p e below m _ T 46 _ [(.ref a)]
    refine o_iload P (hb hby at_46) rfl (pc' := 48) rfl ?_
    refine o_dload P (hb hby at_48) rfl (pc' := 50) rfl ?_
    refine o_callV P (W := 0) (a := a) (ow hw 24 rfl) (ow hw 25 rfl) (o_nfSl (ow hw 27 rfl)) (ow hw 27 rfl) (ow hw 26 rfl) (ow hw 7 rfl) (ow hw 28 rfl) (by decide) F_a.exa (ct_wt l Z a0 hw [] n0 a (oMax (1 : Int32) (i1 &&& (2147483647 : Int32))) (FP.l2d (i2 &&& (2147483647 : Int32)).toInt64) (FP.l2d 0) (FP.l2d (i3 &&& (1 : Int32)).toInt64) (FP.l2d 1) h3 F_a (wt_zero (ow_max _) (ow_p31 i2))) o_sf0 (by rw [hml]; rfl) (by decide) (by decide) (argsL := [(.int (oMax (1 : Int32) (i1 &&& (2147483647 : Int32)))), (.double (FP.l2d (i2 &&& (2147483647 : Int32)).toInt64))]) (rest := []) (lenOf pd_3 rfl) rfl rfl (Nat.le_of_eq rfl) (hb hby at_50) (pc' := 53) rfl (by decide) (by decide) ?_
    clear P; intro T h4 v4 P K4 q4
    obtain ⟨rfl, rfl⟩ := q4; clear K4
    show OG p e below m _ T 53 _ [(.double (FP.l2d 1))]
    refine o_dconst1 P (hb hby at_53) (v := (FP.l2d 1)) oh_one (pc' := 54) rfl ?_
    refine o_dcmp P (hb hby at_54) (v := (0 : Int32)) (dcmpV_eq rfl (l2d_fin _).noNaN .l) (pc' := 55) rfl ?_
    refine o_if_ne P (hb hby at_55) (by decide) (pc' := 62) (by decide) (pcf := 58) rfl (fun q => absurd (by decide) q) (fun _ => ?_)
    refine o_iconst P (1 : Int32) (hb hby at_58) rfl (pc' := 59) rfl ?_
    refine o_goto P (hb hby at_59) (by decide) (pc' := 63) (by decide) ?_
    exact o_retI P hret (by simp) rfl (hb hby at_63) (by decide) (by decide) rfl
set_option maxRecDepth 65536 in
set_option maxHeartbeats 40000000 in
theorem comes_1 {Post : Tables → Env → Array Value → State → Outcome → State → Prop} (hpost : ∀ tb e args s v u, (limb_1_1.after args s (.returned v) u = true ∧ limb_1_2.after args s (.returned v) u = true ∧ True) → FrameEnd s (.returned v) u (Jvm.fieldLocs frame_1_writes args s ++ Jvm.arrayLocs frame_1_arrays args s ++ Jvm.staticLocs frame_1_statics s) 16 128 → Post tb e args s (.returned v) u) :
    ArmFor flags0 classFile x code maxLocals ret World_1 tables_1 room_1 Calls_1 rest_1 Pre_1 Post := by
  intro l hfl _ _ p e ha hc hk s m args below hf hA hF happ hP
  obtain ⟨hcalls, hrest, hpre⟩ := hP
  obtain ⟨-, -, -, hnamed, -, -, -, hat⟩ := (Spec.applies_iff hf).mp happ
  obtain ⟨hg, hn⟩ := and_e (Cond.before_iff.mp (show (Jvm.Cond.and given_1 narrow_1).before args s = true from hpre))
  obtain ⟨g0, hg⟩ := and_e hg
  obtain ⟨gv0, hg⟩ := and_e hg
  obtain ⟨gv1, hg⟩ := and_e hg
  obtain ⟨gv2, hg⟩ := and_e hg
  obtain ⟨gv3, hg⟩ := and_e hg
  have gv4 := hg
  obtain ⟨w0, w1, w2, w3, w4, rfl⟩ : ∃ w0 w1 w2 w3 w4 : Value, args = #[w0, w1, w2, w3, w4] := by
    have hs : args.size = 5 := by simpa [Cond.value, given_1] using g0
    obtain ⟨L⟩ := args
    match L, hs with
    | [w0, w1, w2, w3, w4], _ => exact ⟨w0, w1, w2, w3, w4, rfl⟩
  have hw := fun d (hd : d ∈ tables_1) => atoms_spec (ws := Jvm.Cond.code x code maxLocals ret :: tables_1) hat d (List.mem_cons_of_mem _ hd)
  have hfit : Fit s := fun {y c} hc i hi => by
    obtain ⟨ha, rfl⟩ := Array.getElem?_eq_some_iff.mp hc
    have q := List.all_eq_true.mp ((Array.all_eq_true_iff_forall_mem.mp hF) _ (Array.getElem_mem ha)) i (List.mem_range.mpr hi)
    simpa [Array.getElem?_eq_getElem hi] using q
  obtain ⟨i0, ei0⟩ := is_v gv0
  obtain rfl : w0 = (.int i0) := Option.some.inj ei0
  obtain ⟨i1, ei1⟩ := is_v gv1
  obtain rfl : w1 = (.int i1) := Option.some.inj ei1
  obtain ⟨i2, ei2⟩ := is_v gv2
  obtain rfl : w2 = (.int i2) := Option.some.inj ei2
  obtain ⟨i3, ei3⟩ := is_v gv3
  obtain rfl : w3 = (.int i3) := Option.some.inj ei3
  obtain ⟨i4, ei4⟩ := is_v gv4
  obtain rfl : w4 = (.int i4) := Option.some.inj ei4
  have hCH : CHv s [] s.vm s.heap := fun _ q => nomatch q
  obtain ⟨n, o, h1, h2, h3, v, L, rfl, ⟨rfl, K, N⟩, hC, hH, hq⟩ := rm0 l s _ hw s.heap.size i0 i1 i2 i3 i4 s.heap (Old.start s) EW.nil (fun _ q => nomatch q) p e ha hc hk s m _ below hf ((Spec.applies_iff_loose hf).mp happ).1 ⟨rfl, State.Warmed39.refl s, rfl, hCH, fun _ q => nomatch q⟩ trivial
  refine ⟨n, _, h1, h2, h3, hpost _ _ _ _ _ _ ⟨Cond.after_iff.mpr rfl, Cond.after_iff.mpr (eq_i res_at (Term.int_eval (1)) rfl), trivial⟩ ⟨hq.1, hH rfl, (hq.2.2.2.sift fun y hy => Or.inr (N y hy)).mono (by decide) (by decide)⟩⟩
theorem main_1_1 : Claimed_1_1 := comes_1 fun _ _ _ _ _ _ h hF => ⟨h.1, hF⟩
theorem main_1_2 : Claimed_1_2 := comes_1 fun _ _ _ _ _ _ h hF => ⟨h.2.1, hF⟩
end Jvm.Pilot.@@N@@
namespace Jvm.Pilot.@@N@@
open Jvm Jvm.ClassFile Sem Op Lib Jvm.Free Jvm.Stand Jvm.Pilot.@@N@@.Jvm.D
/-! MADE BY PROGRAM (witnessworld.py) out of the Statement's table words and the real class files: 12 classes; the members and pool entries that the words name. The judged class is class 1, her method 1. -/
namespace start1
open Jvm.ClassFile
def u (s : String) : CpInfo := .utf8 (stringToUtf16 s)
/-- a pool by its gaps: so many unusable entries, then the entry; so many at the end -/
def gap : Nat → List CpInfo → List CpInfo
  | 0, r => r
  | n + 1, r => .unusable :: gap n r
def poolList (es : List (Nat × CpInfo)) (last : Nat) : List CpInfo := es.foldr (fun e r => gap e.1 (e.2 :: r)) (gap last [])
def pool (es : List (Nat × CpInfo)) (last : Nat) : Array CpInfo := ⟨poolList es last⟩
def fileOf (pool : Array CpInfo) (this : Nat) (attrs : Array Attribute := #[]) (ms : Array MethodInfo := #[]) (fl : Nat := 33) (sup : Nat := 0) (ifs : Array Nat := #[]) (fds : Array FieldInfo := #[]) : ClassFile where
  minorVersion := 0
  majorVersion := 65
  constantPool := pool
  accessFlags := fl
  thisClass := this
  superClass := sup
  interfaces := ifs
  fields := fds
  methods := ms
  attributes := attrs
def plain (name : String) (sup : Option ClassId) : Class where
  name := name
  kind := .ordinary
  loader := none
  accessFlags := 33
  super := sup
  interfaces := #[]
  cf := none
  fields := #[]
  methods := #[]
  instanceTypes := #[]
  staticTypes := #[]
  resolved := #[]
  callSites := []
  init := .initialized
  statics := none
  mirror := none

def pool0 : Array CpInfo := pool [(5, u "<init>"), (0, u "()V"), (1, .class_ 10), (1, u "java/lang/Object")] 113

def k0c0 : Code := { maxStack := 0, maxLocals := 1, code := object_method_1_code, exceptionTable := #[], attributes := #[] }
def k0m0 : Method := { name := "<init>", desc := "()V", sig := { parameters := [], returnType := none }, accessFlags := 1, code := some k0c0 }
/-- java/lang/Object -/
def k0 : Class := { plain "java/lang/Object" none with
  accessFlags := 33
  interfaces := #[]
  cf := some (fileOf pool0 8 #[] #[{ accessFlags := 1, nameIndex := 5, descriptorIndex := 6, attributes := #[] }] 33 0 #[] #[])
  fields := #[]
  methods := #[k0m0]
  instanceTypes := #[]
  staticTypes := #[]
  resolved := Array.replicate 124 none
  statics := none }

def pool1 : Array CpInfo := pool [(2, .class_ 4), (1, u "java/lang/Object"), (0, u "<init>"), (0, u "()V"), (0, .integer 2147483647), (0, .methodref 9 10), (0, .class_ 11), (0, .nameAndType 12 13), (0, u "java/lang/Math"), (0, u "max"), (0, u "(II)I"), (0, .class_ 15), (0, u "com/example/busca/busca/rank/Bm25Model"), (0, .methodref 14 17), (0, .nameAndType 5 18), (0, u "(DD)V"), (0, .methodref 14 20), (0, .nameAndType 21 22), (0, u "weight"), (0, u "(ID)D"), (0, .integer 1048575), (0, .double 9110782046170513408), (1, .class_ 27), (0, u "com/example/busca/busca/rank/Bm25ModelWeightPinLaw"), (2, u "law"), (0, u "(IIIII)Z")] 3

def k1m0 : Method := { name := "<init>", desc := "()V", sig := { parameters := [], returnType := none }, accessFlags := 2, code := none }
def k1c1 : Code := { maxStack := 6, maxLocals := 20, code := code, exceptionTable := #[], attributes := #[] }
def k1m1 : Method := { name := "law", desc := "(IIIII)Z", sig := { parameters := [.int, .int, .int, .int, .int], returnType := some .boolean }, accessFlags := 9, code := some k1c1 }
/-- com/example/busca/busca/rank/Bm25ModelWeightPinLaw -/
def k1 : Class := { plain "com/example/busca/busca/rank/Bm25ModelWeightPinLaw" (some 0) with
  accessFlags := 49
  interfaces := #[]
  cf := some (fileOf pool1 26 #[] #[{ accessFlags := 2, nameIndex := 5, descriptorIndex := 6, attributes := #[] }, { accessFlags := 9, nameIndex := 30, descriptorIndex := 31, attributes := #[] }] 49 2 #[] #[])
  fields := #[]
  methods := #[k1m0, k1m1]
  instanceTypes := #[]
  staticTypes := #[]
  resolved := Array.replicate 35 none
  statics := none }

def pool2 : Array CpInfo := pool [(1, .class_ 2), (0, u "java/lang/Math"), (1, .class_ 6), (1, u "java/lang/Object"), (0, u "<init>"), (0, u "()V"), (89, .class_ 100), (1, u "java/lang/Math$RandomNumberGeneratorHolder"), (71, u "negativeZeroFloatBits"), (0, u "J"), (2, u "negativeZeroDoubleBits"), (21, u "max"), (46, u "$assertionsDisabled"), (0, u "Z"), (88, u "(II)I"), (2, u "twoToTheDoubleScaleDown"), (0, u "D"), (4, u "twoToTheDoubleScaleUp"), (9, u "E"), (3, u "PI"), (2, u "TAU"), (2, u "DEGREES_TO_RADIANS"), (0, u "RADIANS_TO_DEGREES")] 94

def k2m0 : Method := { name := "<init>", desc := "()V", sig := { parameters := [], returnType := none }, accessFlags := 2, code := none }
def k2c1 : Code := { maxStack := 2, maxLocals := 2, code := jdk_29_method_65_code, exceptionTable := #[], attributes := #[] }
def k2m1 : Method := { name := "max", desc := "(II)I", sig := { parameters := [.int, .int], returnType := some .int }, accessFlags := 9, code := some k2c1 }
/-- java/lang/Math -/
def k2 : Class := { plain "java/lang/Math" (some 0) with
  accessFlags := 49
  interfaces := #[]
  cf := some (fileOf pool2 1 #[.nestMembers #[98]] #[{ accessFlags := 2, nameIndex := 7, descriptorIndex := 8, attributes := #[] }, { accessFlags := 9, nameIndex := 198, descriptorIndex := 335, attributes := #[] }] 49 4 #[] #[{ accessFlags := 25, nameIndex := 354, descriptorIndex := 339, attributes := #[] }, { accessFlags := 25, nameIndex := 358, descriptorIndex := 339, attributes := #[] }, { accessFlags := 25, nameIndex := 361, descriptorIndex := 339, attributes := #[] }, { accessFlags := 26, nameIndex := 364, descriptorIndex := 339, attributes := #[] }, { accessFlags := 26, nameIndex := 365, descriptorIndex := 339, attributes := #[] }, { accessFlags := 26, nameIndex := 172, descriptorIndex := 173, attributes := #[] }, { accessFlags := 26, nameIndex := 176, descriptorIndex := 173, attributes := #[] }, { accessFlags := 8, nameIndex := 344, descriptorIndex := 339, attributes := #[] }, { accessFlags := 8, nameIndex := 338, descriptorIndex := 339, attributes := #[] }, { accessFlags := 4120, nameIndex := 245, descriptorIndex := 246, attributes := #[] }])
  fields := #[{ name := "E", type := .double, accessFlags := 25, slot := 0, constantValue := 0 }, { name := "PI", type := .double, accessFlags := 25, slot := 1, constantValue := 0 }, { name := "TAU", type := .double, accessFlags := 25, slot := 2, constantValue := 0 }, { name := "DEGREES_TO_RADIANS", type := .double, accessFlags := 26, slot := 3, constantValue := 0 }, { name := "RADIANS_TO_DEGREES", type := .double, accessFlags := 26, slot := 4, constantValue := 0 }, { name := "negativeZeroFloatBits", type := .long, accessFlags := 26, slot := 5, constantValue := 0 }, { name := "negativeZeroDoubleBits", type := .long, accessFlags := 26, slot := 6, constantValue := 0 }, { name := "twoToTheDoubleScaleUp", type := .double, accessFlags := 8, slot := 7, constantValue := 0 }, { name := "twoToTheDoubleScaleDown", type := .double, accessFlags := 8, slot := 8, constantValue := 0 }, { name := "$assertionsDisabled", type := .boolean, accessFlags := 4120, slot := 9, constantValue := 0 }]
  methods := #[k2m0, k2m1]
  instanceTypes := #[]
  staticTypes := #[.double, .double, .double, .double, .double, .long, .long, .double, .double, .boolean]
  resolved := Array.replicate 460 none
  statics := none }

def pool3 : Array CpInfo := pool [(1, .class_ 2), (0, u "com/example/busca/busca/rank/RankingModel"), (0, .class_ 4), (0, u "java/lang/Object"), (5, .class_ 11), (0, u "com/example/busca/busca/rank/RankingModel$QueryScorer")] 2

/-- com/example/busca/busca/rank/RankingModel -/
def k3 : Class := { plain "com/example/busca/busca/rank/RankingModel" (some 0) with
  accessFlags := 1537
  interfaces := #[]
  cf := some (fileOf pool3 1 #[.nestMembers #[10]] #[] 1537 3 #[] #[])
  fields := #[]
  methods := #[]
  instanceTypes := #[]
  staticTypes := #[]
  resolved := Array.replicate 14 none
  statics := none }

def pool4 : Array CpInfo := pool [(1, .methodref 2 3), (0, .class_ 4), (0, .nameAndType 5 6), (0, u "java/lang/Object"), (0, u "<init>"), (0, u "()V"), (9, .fieldref 17 18), (0, .class_ 19), (0, .nameAndType 20 21), (0, u "com/example/busca/busca/rank/LengthNormalizedModel"), (0, u "b"), (0, u "D"), (89, .class_ 112), (0, u "com/example/busca/busca/rank/RankingModel"), (0, u "(D)V")] 41

def k4c0 : Code := { maxStack := 4, maxLocals := 3, code := prog_65_method_1_code, exceptionTable := #[], attributes := #[] }
def k4m0 : Method := { name := "<init>", desc := "(D)V", sig := { parameters := [.double], returnType := none }, accessFlags := 0, code := some k4c0 }
/-- com/example/busca/busca/rank/LengthNormalizedModel -/
def k4 : Class := { plain "com/example/busca/busca/rank/LengthNormalizedModel" (some 0) with
  accessFlags := 1056
  interfaces := #[3]
  cf := some (fileOf pool4 17 #[] #[{ accessFlags := 0, nameIndex := 5, descriptorIndex := 113, attributes := #[] }] 1056 2 #[111] #[{ accessFlags := 18, nameIndex := 20, descriptorIndex := 21, attributes := #[] }])
  fields := #[{ name := "b", type := .double, accessFlags := 18, slot := 0, constantValue := 0 }]
  methods := #[k4m0]
  instanceTypes := #[.double]
  staticTypes := #[]
  resolved := Array.replicate 155 none
  statics := none }

def pool5 : Array CpInfo := pool [(1, .methodref 2 3), (0, .class_ 4), (0, .nameAndType 5 6), (0, u "com/example/busca/busca/rank/LengthNormalizedModel"), (0, u "<init>"), (0, u "(D)V"), (2, .double 9218868437227405312), (10, .fieldref 21 22), (0, .class_ 23), (0, .nameAndType 24 25), (0, u "com/example/busca/busca/rank/Bm25Model"), (0, u "k1"), (0, u "D"), (8, u "DEFAULT_K1"), (3, u "DEFAULT_B"), (2, u "(DD)V"), (3, u "weight"), (0, u "(ID)D")] 19

def k5c0 : Code := { maxStack := 4, maxLocals := 5, code := prog_60_method_1_code, exceptionTable := #[], attributes := #[] }
def k5m0 : Method := { name := "<init>", desc := "(DD)V", sig := { parameters := [.double, .double], returnType := none }, accessFlags := 1, code := some k5c0 }
def k5c1 : Code := { maxStack := 6, maxLocals := 10, code := prog_60_method_2_code, exceptionTable := #[], attributes := #[] }
def k5m1 : Method := { name := "weight", desc := "(ID)D", sig := { parameters := [.int, .double], returnType := some .double }, accessFlags := 0, code := some k5c1 }
/-- com/example/busca/busca/rank/Bm25Model -/
def k5 : Class := { plain "com/example/busca/busca/rank/Bm25Model" (some 4) with
  accessFlags := 49
  interfaces := #[]
  cf := some (fileOf pool5 21 #[] #[{ accessFlags := 1, nameIndex := 5, descriptorIndex := 41, attributes := #[] }, { accessFlags := 0, nameIndex := 45, descriptorIndex := 46, attributes := #[] }] 49 2 #[] #[{ accessFlags := 25, nameIndex := 34, descriptorIndex := 25, attributes := #[] }, { accessFlags := 25, nameIndex := 38, descriptorIndex := 25, attributes := #[] }, { accessFlags := 18, nameIndex := 24, descriptorIndex := 25, attributes := #[] }])
  fields := #[{ name := "DEFAULT_K1", type := .double, accessFlags := 25, slot := 0, constantValue := 0 }, { name := "DEFAULT_B", type := .double, accessFlags := 25, slot := 1, constantValue := 0 }, { name := "k1", type := .double, accessFlags := 18, slot := 1, constantValue := 0 }]
  methods := #[k5m0, k5m1]
  instanceTypes := #[.double, .double]
  staticTypes := #[.double, .double]
  resolved := Array.replicate 66 none
  statics := none }

def pool6 : Array CpInfo := pool [(1, u "java/lang/Cloneable"), (0, .class_ 1), (0, u "java/lang/Object"), (0, .class_ 3)] 3

/-- java/lang/Cloneable -/
def k6 : Class := { plain "java/lang/Cloneable" (some 0) with
  accessFlags := 1537
  interfaces := #[]
  cf := some (fileOf pool6 2 #[] #[] 1537 4 #[] #[])
  fields := #[]
  methods := #[]
  instanceTypes := #[]
  staticTypes := #[]
  resolved := Array.replicate 8 none
  statics := none }

def pool7 : Array CpInfo := pool [(1, u "java/io/Serializable"), (0, .class_ 1), (0, u "java/lang/Object"), (0, .class_ 3)] 3

/-- java/io/Serializable -/
def k7 : Class := { plain "java/io/Serializable" (some 0) with
  accessFlags := 1537
  interfaces := #[]
  cf := some (fileOf pool7 2 #[] #[] 1537 4 #[] #[])
  fields := #[]
  methods := #[]
  instanceTypes := #[]
  staticTypes := #[]
  resolved := Array.replicate 8 none
  statics := none }

/-- the primitive byte -/
def k8 : Class := { plain "byte" none with kind := .primitive 'B', accessFlags := 0x411 }
/-- [B -/
def k9 : Class := { plain "[B" (some 0) with kind := .array 8 .byte, interfaces := #[6, 7], accessFlags := 1041 }

/-- the primitive int -/
def k10 : Class := { plain "int" none with kind := .primitive 'I', accessFlags := 0x411 }
/-- [I -/
def k11 : Class := { plain "[I" (some 0) with kind := .array 10 .int, interfaces := #[6, 7], accessFlags := 1041 }

def heap : Heap := #[]
def classes : Array Class := #[k0, k1, k2, k3, k4, k5, k6, k7, k8, k9, k10, k11]
def interned : List (Array UInt16 × Addr) := []
def slotsUsed : Nat := 0
def theMethod : MethodId := ⟨1, 1⟩
def args0 : Array Value := #[.int 0, .int 5, .int 5, .int 1, .int 1]
def aboutOver (below : List Frame) : State where
  vm := { classes := classes, interned := interned.toArray }
  heap := heap
  slotsUsed := slotsUsed
  threads := #[{ frames := .invoking theMethod args0 :: below }]
def below0 : List Frame := [.native { method := ⟨0, 0⟩, args := #[] }]
def about1 : State := aboutOver below0
def p0 : Program := .bare "" "" ""
def e0 : Env := launch0.env 0 0 0
theorem w_frames : about1.frames = Frame.invoking theMethod args0 :: below0 := rfl
set_option maxRecDepth 65536 in
theorem w_args : argsFit about1.vm theMethod args0 = true := by decide +kernel
set_option maxRecDepth 65536 in
theorem w_heap : heapFits about1 = true := by decide +kernel
set_option maxRecDepth 65536 in
theorem w_runnable : about1.curStatus? = some .runnable := by decide +kernel
set_option maxRecDepth 65536 in
theorem w_alone : about1.alone = true := by decide +kernel
set_option maxRecDepth 65536 in
theorem w_named : about1.methodNamed? x = some theMethod := by decide +kernel
set_option maxRecDepth 65536 in
theorem w_hears : about1.hears theMethod below0 = true := by decide +kernel
set_option maxRecDepth 65536 in
theorem w_ripe : about1.ripe theMethod args0 below0 = true := by decide +kernel
theorem w_running : about1.status = .running := rfl
set_option maxRecDepth 65536 in
theorem w_room : about1.hasRoom e0.platform room_1 = true :=
  launch0.hasRoom_least _ room_1 (by decide +kernel) (by decide +kernel) (by decide +kernel) (by decide +kernel) (by decide +kernel) (by decide +kernel)
theorem allAtoms_all (ts : List Jvm.Cond) (a : Array Jvm.Value) (st : Jvm.State) : (allAtoms ts).before a st = ts.all (fun c => c.before a st) := by
  induction ts with
  | nil => rfl
  | cons c t ih =>
    show (Jvm.Cond.and c (allAtoms t)).before a st = _
    rw [Jvm.Cond.before_and, ih, List.all_cons]
def words1 : List Jvm.Cond := Jvm.Cond.code x code maxLocals ret :: tables_1
/-- a 'code' word, met by the world's own term for the bytes: nothing is compared byte by byte -/
theorem code_word {y : MethodName} {bytes : ByteArray} {mx : Nat} {rt : Option FieldType} {a : Array Value} {s : State} {m : MethodId} {meth : Method} {c : Code} (h1 : s.methodNamed? y = some m) (h2 : s.vm.method? m = some meth) (h3 : meth.code = some c) (h4 : c.code = bytes)
    (h5 : (c.maxLocals == mx && c.exceptionTable.isEmpty && decide (c.maxStack ≤ mostOperands) && decide (meth.sig.returnType = rt) && !meth.locks && decide (parseMethodDescriptor y.desc = some meth.sig)) = true) : (Jvm.Cond.code y bytes mx rt).before a s = true := by
  simp only [Bool.and_eq_true, beq_iff_eq, Bool.not_eq_true', decide_eq_true_eq] at h5
  obtain ⟨⟨⟨⟨⟨g1, g2⟩, g3⟩, g4⟩, g5⟩, g6⟩ := h5
  simp [Cond.before, Cond.holds, Cond.value, h1, h2, h3, h4, g1, g2, g3, g4, g5, g6]
def isCode : Jvm.Cond → Bool
  | .code _ _ _ _ => true
  | _ => false
theorem all_split {L : List Jvm.Cond} {P : Jvm.Cond → Bool} (h1 : L.all (fun c => isCode c || P c) = true) (h2 : ∀ c ∈ L.filter isCode, P c = true) : L.all P = true := by
  refine List.all_eq_true.mpr fun c hc => ?_
  have h := List.all_eq_true.mp h1 c hc
  rcases Bool.eq_false_or_eq_true (isCode c) with hi | hi
  · exact h2 c (List.mem_filter.mpr ⟨hc, hi⟩)
  · simpa [hi] using h
set_option maxRecDepth 65536 in
theorem w_c0 : (Jvm.Cond.code x code maxLocals ret).before args0 about1 = true := code_word (m := ⟨1, 1⟩) (meth := k1m1) (c := k1c1) (by decide +kernel) rfl rfl rfl (by decide +kernel)
set_option maxRecDepth 65536 in
theorem w_c1 : (Jvm.Cond.code ({ cls := "java/lang/Math", name := "max", desc := "(II)I" } : Jvm.MethodName) jdk_29_method_65_code (2 : Nat) (Option.some Jvm.ClassFile.FieldType.int)).before args0 about1 = true := code_word (m := ⟨2, 1⟩) (meth := k2m1) (c := k2c1) (by decide +kernel) rfl rfl rfl (by decide +kernel)
set_option maxRecDepth 65536 in
theorem w_c2 : (Jvm.Cond.code ({ cls := "com/example/busca/busca/rank/Bm25Model", name := "<init>", desc := "(DD)V" } : Jvm.MethodName) prog_60_method_1_code (5 : Nat) (Option.none : Option Jvm.ClassFile.FieldType)).before args0 about1 = true := code_word (m := ⟨5, 0⟩) (meth := k5m0) (c := k5c0) (by decide +kernel) rfl rfl rfl (by decide +kernel)
set_option maxRecDepth 65536 in
theorem w_c3 : (Jvm.Cond.code ({ cls := "com/example/busca/busca/rank/LengthNormalizedModel", name := "<init>", desc := "(D)V" } : Jvm.MethodName) prog_65_method_1_code (3 : Nat) (Option.none : Option Jvm.ClassFile.FieldType)).before args0 about1 = true := code_word (m := ⟨4, 0⟩) (meth := k4m0) (c := k4c0) (by decide +kernel) rfl rfl rfl (by decide +kernel)
set_option maxRecDepth 65536 in
theorem w_c4 : (Jvm.Cond.code ({ cls := "java/lang/Object", name := "<init>", desc := "()V" } : Jvm.MethodName) object_method_1_code (1 : Nat) (Option.none : Option Jvm.ClassFile.FieldType)).before args0 about1 = true := code_word (m := ⟨0, 0⟩) (meth := k0m0) (c := k0c0) (by decide +kernel) rfl rfl rfl (by decide +kernel)
set_option maxRecDepth 65536 in
theorem w_c5 : (Jvm.Cond.code ({ cls := "com/example/busca/busca/rank/Bm25Model", name := "weight", desc := "(ID)D" } : Jvm.MethodName) prog_60_method_2_code (10 : Nat) (Option.some Jvm.ClassFile.FieldType.double)).before args0 about1 = true := code_word (m := ⟨5, 1⟩) (meth := k5m1) (c := k5c1) (by decide +kernel) rfl rfl rfl (by decide +kernel)
def codes1 : List Jvm.Cond := [Jvm.Cond.code x code maxLocals ret, Jvm.Cond.code ({ cls := "java/lang/Math", name := "max", desc := "(II)I" } : Jvm.MethodName) jdk_29_method_65_code (2 : Nat) (Option.some Jvm.ClassFile.FieldType.int), Jvm.Cond.code ({ cls := "com/example/busca/busca/rank/Bm25Model", name := "<init>", desc := "(DD)V" } : Jvm.MethodName) prog_60_method_1_code (5 : Nat) (Option.none : Option Jvm.ClassFile.FieldType), Jvm.Cond.code ({ cls := "com/example/busca/busca/rank/LengthNormalizedModel", name := "<init>", desc := "(D)V" } : Jvm.MethodName) prog_65_method_1_code (3 : Nat) (Option.none : Option Jvm.ClassFile.FieldType), Jvm.Cond.code ({ cls := "java/lang/Object", name := "<init>", desc := "()V" } : Jvm.MethodName) object_method_1_code (1 : Nat) (Option.none : Option Jvm.ClassFile.FieldType), Jvm.Cond.code ({ cls := "com/example/busca/busca/rank/Bm25Model", name := "weight", desc := "(ID)D" } : Jvm.MethodName) prog_60_method_2_code (10 : Nat) (Option.some Jvm.ClassFile.FieldType.double)]
set_option maxRecDepth 65536 in
theorem codes_eq : words1.filter isCode = codes1 := rfl
theorem w_codes : ∀ c ∈ words1.filter isCode, c.before args0 about1 = true := by
  rw [codes_eq]
  intro c hc
  simp only [codes1, List.mem_cons, List.not_mem_nil, or_false] at hc
  rcases hc with rfl | rfl | rfl | rfl | rfl | rfl
  · exact w_c0
  · exact w_c1
  · exact w_c2
  · exact w_c3
  · exact w_c4
  · exact w_c5
set_option maxRecDepth 65536 in
theorem w_t1 : (words1.take 24).all (fun c => isCode c || c.before args0 about1) = true := by decide +kernel
set_option maxRecDepth 65536 in
theorem w_t2 : (words1.drop 24).all (fun c => isCode c || c.before args0 about1) = true := by decide +kernel
theorem w_tables : (allAtoms (Jvm.Cond.code x code maxLocals ret :: tables_1)).before args0 about1 = true := by
  rw [allAtoms_all]
  show words1.all (fun c => c.before args0 about1) = true
  refine all_split ?_ w_codes
  rw [← List.take_append_drop 24 words1, List.all_append, w_t1, w_t2]
  rfl
set_option maxRecDepth 65536 in
theorem w_case : (Jvm.Cond.and given_1 narrow_1).before args0 about1 = true := by decide +kernel
theorem w_applies : (headSpec (Jvm.Cond.code x code maxLocals ret :: tables_1) room_1).applies x e0.platform about1 = true :=
  (Spec.applies_iff w_frames).mpr ⟨w_running, w_runnable, w_alone, w_named, w_hears, w_ripe, w_room, w_tables⟩
theorem atStart : AtStart classFile x code maxLocals ret World_1 tables_1 room_1 Calls_1 rest_1 Pre_1 launch0 p0 e0 about1 theMethod args0 below0 :=
  ⟨lists_1, trivial, launch0.admits_env _ _ _, launch0.least_env, fairChoices_fair.cas, fairChoices_fair.clock, w_frames, w_args, w_heap, w_applies, trivial, trivial, w_case⟩
end start1
theorem witness_1 : WitnessClaimed_1 := ⟨start1.p0, start1.e0, start1.about1, start1.theMethod, start1.args0, start1.below0, start1.atStart⟩
end Jvm.Pilot.@@N@@
