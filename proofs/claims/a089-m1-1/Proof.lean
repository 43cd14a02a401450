import JvmDerived
import JvmDerived.Pilot.@@N@@Statement
import JvmDerived.Pilot.@@N@@Code
set_option linter.unusedVariables false
set_option linter.unusedSimpArgs false
namespace Jvm.Pilot.@@N@@
/-! the number layer: own_is (a double is exactly that rational), own_rd (a double is that rational, rounded) -/
section OwnNum
open Jvm.FP.Core Jvm.Free.Fl
theorem own_inv1 : (1 : Rat)⁻¹ = 1 := Rat.inv_eq_of_mul_eq_one (Rat.mul_one 1)
theorem own_p_pos (q : Int) : (0 : Rat) < (2 : Rat) ^ q := Rat.zpow_pos (by decide)
theorem own_p_ne (q : Int) : (2 : Rat) ^ q ≠ 0 := Rat.ne_of_gt (own_p_pos q)
theorem own_p_add (a b : Int) : (2 : Rat) ^ (a + b) = 2 ^ a * 2 ^ b := Rat.zpow_add (by decide) a b
theorem own_p_nat (n : Nat) : ((2 ^ n : Nat) : Rat) = (2 : Rat) ^ (n : Int) := by rw [Rat.natCast_pow]; rfl
theorem own_p_toNat {a : Int} (h : 0 ≤ a) : ((2 ^ a.toNat : Nat) : Rat) = (2 : Rat) ^ a := by rw [own_p_nat, Int.toNat_of_nonneg h]
theorem own_p_neg (a : Int) : (2 : Rat) ^ a * 2 ^ (-a) = 1 := by rw [← own_p_add, Int.add_right_neg]; rfl
def own_is (x : UInt64) (r : Rat) : Prop := ∃ s c q, val64 x = .fin s c q ∧ r = ((signed s c : Int) : Rat) * (2 : Rat) ^ q
def own_rd (x : UInt64) (r : Rat) : Prop := ∃ s A B e, 0 < B ∧ val64 x = roundRatio b64 s A B e ∧ r = ((signed s A : Int) : Rat) / ((B : Nat) : Rat) * (2 : Rat) ^ e
theorem own_signed_cast (s : Bool) (c k : Nat) : ((signed s (c * k) : Int) : Rat) = ((signed s c : Int) : Rat) * ((k : Nat) : Rat) := by
  rw [signed_mul, Rat.intCast_mul]; rfl
theorem own_zmag {s : Bool} {c : Nat} {q : Int} (h : FP.Core.fits b64 (.fin s c q)) : ((zmag b64 (.fin s c q) : Nat) : Rat) = (c : Rat) * 2 ^ q * 2 ^ (1074 : Int) := by
  have h1 : b64.qmin ≤ q := h.2.1
  rw [qmin_b64] at h1
  show ((c * 2 ^ (q - b64.qmin).toNat : Nat) : Rat) = _
  rw [Rat.natCast_mul, own_p_toNat (by rw [qmin_b64]; omega), qmin_b64, show q - (-1074) = q + 1074 by omega, own_p_add, Rat.mul_assoc]
theorem own_zval {x : UInt64} {r : Rat} (h : own_is x r) : ((zval b64 (val64 x) : Int) : Rat) = r * 2 ^ (1074 : Int) := by
  obtain ⟨s, c, q, h1, rfl⟩ := h
  have hf := val64_fits x
  rw [h1] at hf ⊢
  have h2 := own_zmag hf
  show ((signed s (zmag b64 (.fin s c q)) : Int) : Rat) = _
  cases s
  · show ((zmag b64 (.fin false c q) : Nat) : Rat) = ((c : Nat) : Rat) * _ * _
    rw [h2]
  · show ((-(zmag b64 (.fin true c q) : Int) : Int) : Rat) = ((-(c : Int) : Int) : Rat) * _ * _
    rw [Rat.intCast_neg, Rat.intCast_neg, Rat.neg_mul, Rat.neg_mul]
    exact congrArg _ h2
theorem own_is_nn {x : UInt64} {r : Rat} (h : own_is x r) : val64 x ≠ .nan := by
  obtain ⟨s, c, q, h1, -⟩ := h; rw [h1]; exact Datum.noConfusion
theorem own_is_fin {x : UInt64} {r : Rat} (h : own_is x r) : Fin64 x := by
  obtain ⟨s, c, q, h1, -⟩ := h; exact fin64_core.mpr ⟨s, c, q, h1⟩
theorem own_is_no {x : UInt64} {r : Rat} (h : own_is x r) : NoNaN64 x := (own_is_fin h).noNaN
theorem own_lt_of {a b : Rat} (h : a < b) (q : Int) : a * 2 ^ q < b * 2 ^ q := Rat.mul_lt_mul_of_pos_right h (own_p_pos q)
theorem own_is_lt {x y : UInt64} {a b : Rat} (hx : own_is x a) (hy : own_is y b) : FP.dcmp x y = some .lt ↔ a < b := by
  rw [show FP.dcmp x y = FP.Core.dcmp x y from rfl, dcmp_lt]
  constructor
  · rintro ⟨-, -, h⟩
    have h2 := Rat.intCast_lt_intCast.mpr h
    rw [own_zval hx, own_zval hy] at h2
    exact Rat.lt_of_mul_lt_mul_right h2 (Rat.le_of_lt (own_p_pos _))
  · intro h
    refine ⟨own_is_nn hx, own_is_nn hy, Rat.intCast_lt_intCast.mp ?_⟩
    rw [own_zval hx, own_zval hy]
    exact own_lt_of h _
theorem own_is_gt {x y : UInt64} {a b : Rat} (hx : own_is x a) (hy : own_is y b) : FP.dcmp x y = some .gt ↔ b < a := by
  rw [← own_is_lt hy hx, show FP.dcmp x y = FP.Core.dcmp x y from rfl, show FP.dcmp y x = FP.Core.dcmp y x from rfl, dcmp_gt, dcmp_lt]
  exact ⟨fun ⟨h1, h2, h⟩ => ⟨h2, h1, h⟩, fun ⟨h1, h2, h⟩ => ⟨h2, h1, h⟩⟩
theorem own_is_eq {x y : UInt64} {a b : Rat} (hx : own_is x a) (hy : own_is y b) : FP.dcmp x y = some .eq ↔ a = b := by
  rw [show FP.dcmp x y = FP.Core.dcmp x y from rfl, dcmp_eq]
  constructor
  · rintro ⟨-, -, h⟩
    have h2 : ((zval b64 (val64 x) : Int) : Rat) = ((zval b64 (val64 y) : Int) : Rat) := by rw [h]
    rw [own_zval hx, own_zval hy] at h2
    have h3 := own_p_ne 1074
    calc a = a * 2 ^ (1074 : Int) / 2 ^ (1074 : Int) := (Rat.mul_div_cancel h3).symm
      _ = b * 2 ^ (1074 : Int) / 2 ^ (1074 : Int) := by rw [h2]
      _ = b := Rat.mul_div_cancel h3
  · rintro rfl
    exact ⟨own_is_nn hx, own_is_nn hy, Rat.intCast_inj.mp (by rw [own_zval hx, own_zval hy])⟩
theorem own_rd_of {x : UInt64} {r : Rat} (h : own_is x r) : own_rd x r := by
  obtain ⟨s, c, q, h1, rfl⟩ := h
  have hf := val64_fits x
  rw [h1] at hf
  refine ⟨s, c, 1, q, by decide, h1.trans (round_of_fits good_b64 hf).symm, ?_⟩
  rw [show (((1 : Nat) : Rat)) = 1 from rfl, Rat.div_def, own_inv1, Rat.mul_one]
theorem own_rd_nn {x : UInt64} {r : Rat} (h : own_rd x r) : val64 x ≠ .nan := by
  obtain ⟨s, A, B, e, -, h1, -⟩ := h; rw [h1]; exact roundRatio_ne_nan _ _ _ _ _
theorem own_rd_no {x : UInt64} {r : Rat} (h : own_rd x r) : NoNaN64 x := val64_no.mpr (own_rd_nn h)
/-- the magnitude of a ratio -/
theorem own_signed_zero {s : Bool} {A : Nat} : ((signed s A : Int) : Rat) = 0 ↔ A = 0 := by
  rw [Rat.intCast_eq_zero_iff, signed_eq_zero]
theorem own_ratio_zero {s : Bool} {A B : Nat} {e : Int} (hB : 0 < B) : ((signed s A : Int) : Rat) / ((B : Nat) : Rat) * (2 : Rat) ^ e = 0 ↔ A = 0 := by
  have hb : ((B : Nat) : Rat) ≠ 0 := by rw [Ne, Rat.natCast_eq_zero_iff]; omega
  constructor
  · intro h
    rcases Rat.mul_eq_zero.mp h with h | h
    · rw [Rat.div_def] at h
      rcases Rat.mul_eq_zero.mp h with h | h
      · exact own_signed_zero.mp h
      · exact absurd (by rw [← Rat.inv_inv ((B : Nat) : Rat), h, Rat.inv_zero]) hb
    · exact absurd h (own_p_ne e)
  · rintro rfl
    rw [own_signed_zero.mpr rfl, Rat.div_def, Rat.zero_mul, Rat.zero_mul]
end OwnNum
section OwnNum2
open Jvm.FP.Core Jvm.Free.Fl
theorem own_nat_pos {B : Nat} (h : 0 < B) : (0 : Rat) < ((B : Nat) : Rat) := Rat.natCast_pos.mpr h
theorem own_nat_ne {B : Nat} (h : 0 < B) : ((B : Nat) : Rat) ≠ 0 := Rat.ne_of_gt (own_nat_pos h)
theorem own_cross {a b a' b' P P' : Rat} (hb : b ≠ 0) (hb' : b' ≠ 0) (h : a / b * P = a' / b' * P') : a * b' * P = a' * b * P' := by
  have h1 : a = a / b * b := (Rat.div_mul_cancel hb).symm
  have h2 : a' = a' / b' * b' := (Rat.div_mul_cancel hb').symm
  generalize a / b = u at *
  generalize a' / b' = w at *
  subst h1 h2
  grind
theorem own_cancel {a b P : Rat} (hP : P ≠ 0) (h : a * P = b * P) : a = b := by
  rw [← Rat.mul_div_cancel (a := a) hP, h, Rat.mul_div_cancel hP]
theorem own_sig_eq {s s' : Bool} {X Y : Nat} (hX : 0 < X) (h : signed s X = signed s' Y) : s = s' ∧ X = Y := by
  cases s <;> cases s' <;> simp only [signed, Bool.false_eq_true, if_true, if_false] at h <;> first | exact ⟨rfl, by omega⟩ | omega
theorem own_ratio_le {s s' : Bool} {A B A' B' : Nat} {e e' : Int} (hB : 0 < B) (hB' : 0 < B') (hA : 0 < A) (hle : e' ≤ e)
    (h : ((signed s A : Int) : Rat) / ((B : Nat) : Rat) * (2 : Rat) ^ e = ((signed s' A' : Int) : Rat) / ((B' : Nat) : Rat) * (2 : Rat) ^ e') :
    s = s' ∧ A * B' * 2 ^ (e - e').toNat = A' * B := by
  have h1 := own_cross (own_nat_ne hB) (own_nat_ne hB') h
  have h2 : (2 : Rat) ^ e = 2 ^ (e - e') * 2 ^ e' := by rw [← own_p_add]; congr 1; omega
  rw [h2, ← Rat.mul_assoc] at h1
  have h3 := own_cancel (own_p_ne e') h1
  rw [← own_p_toNat (by omega), ← own_signed_cast, ← own_signed_cast, ← own_signed_cast, Rat.intCast_inj] at h3
  exact own_sig_eq (Nat.mul_pos (Nat.mul_pos hA hB') (Nat.two_pow_pos _)) h3
theorem own_ratio_eq {s s' : Bool} {A B A' B' : Nat} {e e' : Int} (hB : 0 < B) (hB' : 0 < B') (hA : 0 < A)
    (h : ((signed s A : Int) : Rat) / ((B : Nat) : Rat) * (2 : Rat) ^ e = ((signed s' A' : Int) : Rat) / ((B' : Nat) : Rat) * (2 : Rat) ^ e') :
    s = s' ∧ roundRatio b64 s A B e = roundRatio b64 s' A' B' e' := by
  have hA' : 0 < A' := by
    rcases Nat.eq_zero_or_pos A' with h0 | h0
    · rw [(own_ratio_zero hB').mpr h0, own_ratio_zero hB] at h; omega
    · exact h0
  rcases Int.le_total e' e with hle | hle
  · obtain ⟨rfl, h1⟩ := own_ratio_le hB hB' hA hle h
    refine ⟨rfl, roundRatio_congr hB hB' ?_⟩
    rw [h1, show (e' - e).toNat = 0 by omega]; simp
  · obtain ⟨rfl, h1⟩ := own_ratio_le hB' hB hA' hle h.symm
    refine ⟨rfl, (roundRatio_congr hB' hB ?_).symm⟩
    rw [h1, show (e - e').toNat = 0 by omega]; simp
theorem own_rd_uniq {x y : UInt64} {r : Rat} (hx : own_rd x r) (hy : own_rd y r) : FP.dcmp x y = some .eq := by
  obtain ⟨s, A, B, e, hB, hv, hr⟩ := hx
  obtain ⟨s', A', B', e', hB', hv', hr'⟩ := hy
  rcases Nat.eq_zero_or_pos A with hA | hA
  · have hA' : A' = 0 := by rw [← own_ratio_zero hB' (s := s') (e := e'), ← hr', hr]; exact (own_ratio_zero hB).mpr hA
    subst hA hA'
    rw [show FP.dcmp x y = FP.Core.dcmp x y from rfl, dcmp_eq, hv, hv']
    refine ⟨roundRatio_ne_nan _ _ _ _ _, roundRatio_ne_nan _ _ _ _ _, ?_⟩
    show zval b64 (.fin s 0 b64.qmin) = zval b64 (.fin s' 0 b64.qmin)
    cases s <;> cases s' <;> decide
  · obtain ⟨-, h1⟩ := own_ratio_eq hB hB' hA (hr.symm.trans hr')
    have h2 : val64 x ≠ .nan := by rw [hv]; exact roundRatio_ne_nan _ _ _ _ _
    have h3 : x = y := val64_inj h2 (by rw [hv, hv', h1])
    subst h3
    exact dcmp_refl ((notNaN_iff x).mpr h2)
/-- exact where the rational has 53 digits -/
theorem own_rd_exact {x : UInt64} {r : Rat} (h : own_rd x r) {m : Int} {k : Int} (hr : r = (m : Rat) * (2 : Rat) ^ k) (hm : m.natAbs < 2 ^ 53) (hk : -1074 ≤ k) (hk2 : k ≤ 971) : own_is x r := by
  obtain ⟨s, A, B, e, hB, hv, hr0⟩ := h
  have hcan : ∀ (t : Bool), ((signed t m.natAbs : Int) : Rat) * (2 : Rat) ^ k = r → roundRatio b64 s A B e = round b64 (.fin t m.natAbs k) → own_is x r := by
    intro t ht hq
    obtain ⟨c', q', h1, h2⟩ := round_exact good_b64 t (c := m.natAbs) (q := k) hm (by rw [qmin_b64]; exact hk) (by exact hk2)
    have hx : val64 x = .fin t c' q' := by rw [hv, hq, h1]
    refine ⟨t, c', q', hx, ?_⟩
    have hf := val64_fits x
    rw [hx] at hf
    have z1 := own_zmag hf
    have z2 : ((inUnits c' q' b64.qmin : Nat) : Rat) = ((m.natAbs : Nat) : Rat) * 2 ^ k * 2 ^ (1074 : Int) := by
      rw [h2]; unfold inUnits
      rw [Rat.natCast_mul, own_p_toNat (by rw [qmin_b64]; omega), qmin_b64, show k - (-1074) = k + 1074 by omega, own_p_add, Rat.mul_assoc]
    have z3 : (c' : Rat) * 2 ^ q' = ((m.natAbs : Nat) : Rat) * 2 ^ k := own_cancel (own_p_ne 1074) (z1.symm.trans z2)
    rw [← ht]
    cases t
    · exact z3.symm
    · show ((-(m.natAbs : Int) : Int) : Rat) * _ = ((-(c' : Int) : Int) : Rat) * _
      rw [Rat.intCast_neg, Rat.intCast_neg, Rat.neg_mul, Rat.neg_mul]
      exact congrArg _ z3.symm
  rcases Nat.eq_zero_or_pos A with hA | hA
  · have h0 : r = 0 := by rw [hr0]; exact (own_ratio_zero hB).mpr hA
    have hm0 : m = 0 := by
      rw [h0] at hr
      rcases Rat.mul_eq_zero.mp hr.symm with h1 | h1
      · exact Rat.intCast_eq_zero_iff.mp h1
      · exact absurd h1 (own_p_ne k)
    subst hm0 hA
    refine hcan s ?_ ?_
    · rw [h0]; cases s <;> simp [signed]
    · show Datum.fin s 0 b64.qmin = Datum.fin s 0 b64.qmin
      rfl
  · have h1 : ((signed s A : Int) : Rat) / ((B : Nat) : Rat) * (2 : Rat) ^ e = ((signed (decide (m < 0)) m.natAbs : Int) : Rat) / (((1 : Nat) : Nat) : Rat) * (2 : Rat) ^ k := by
      rw [← hr0, hr, show (((1 : Nat) : Rat)) = 1 from rfl, Rat.div_def, own_inv1, Rat.mul_one]
      congr 2
      unfold signed
      by_cases hmn : m < 0 <;> simp [hmn] <;> omega
    obtain ⟨-, h2⟩ := own_ratio_eq hB (by decide) hA h1
    refine hcan (decide (m < 0)) ?_ h2
    rw [hr]
    congr 2
    unfold signed
    by_cases hmn : m < 0 <;> simp [hmn] <;> omega
theorem own_add {x y : UInt64} {a b : Rat} (hx : own_is x a) (hy : own_is y b) : own_rd (FP.dadd x y) (a + b) := by
  obtain ⟨s, c, q, h1, rfl⟩ := hx
  obtain ⟨t, d, r, h2, rfl⟩ := hy
  refine ⟨_, _, 1, min q r, by decide, (val64_dadd x y).trans (by rw [h1, h2]; rfl), ?_⟩
  rw [signed_sumSign, show (((1 : Nat) : Rat)) = 1 from rfl, Rat.div_def, own_inv1, Rat.mul_one]
  unfold sumUnits inUnits
  rw [Rat.intCast_add, own_signed_cast, own_signed_cast, own_p_toNat (by omega), own_p_toNat (by omega), Rat.add_mul, Rat.mul_assoc, Rat.mul_assoc, ← own_p_add, ← own_p_add, show q - min q r + min q r = q by omega, show r - min q r + min q r = r by omega]
theorem own_neg {x : UInt64} {a : Rat} (hx : own_is x a) : own_is (FP.dneg x) (-a) := by
  obtain ⟨s, c, q, h1, rfl⟩ := hx
  refine ⟨!s, c, q, (FP.val64_dneg x).trans (by rw [h1]; rfl), ?_⟩
  rw [signed_not, Rat.intCast_neg, Rat.neg_mul]
theorem own_sub {x y : UInt64} {a b : Rat} (hx : own_is x a) (hy : own_is y b) : own_rd (FP.dsub x y) (a - b) := by
  have h : val64 (FP.dsub x y) = val64 (FP.dadd x (FP.dneg y)) := by
    rw [show val64 (FP.dsub x y) = _ from val64_dsub x y, show val64 (FP.dadd x (FP.dneg y)) = _ from val64_dadd x (FP.dneg y), FP.val64_dneg]
  obtain ⟨s, A, B, e, hB, hv, hr⟩ := own_add hx (own_neg hy)
  exact ⟨s, A, B, e, hB, h.trans hv, by rw [Rat.sub_eq_add_neg]; exact hr⟩
theorem own_mul {x y : UInt64} {a b : Rat} (hx : own_is x a) (hy : own_is y b) : own_rd (FP.dmul x y) (a * b) := by
  obtain ⟨s, c, q, h1, rfl⟩ := hx
  obtain ⟨t, d, r, h2, rfl⟩ := hy
  refine ⟨s != t, c * d, 1, q + r, by decide, (val64_dmul x y).trans (by rw [h1, h2]; rfl), ?_⟩
  rw [signed_xor, Rat.intCast_mul, own_p_add, show (((1 : Nat) : Rat)) = 1 from rfl, Rat.div_def, own_inv1, Rat.mul_one]
  grind
theorem own_div {x y : UInt64} {a b : Rat} (hx : own_is x a) (hy : own_is y b) (hb : b ≠ 0) : own_rd (FP.ddiv x y) (a / b) := by
  obtain ⟨s, c, q, h1, rfl⟩ := hx
  obtain ⟨t, d, r, h2, rfl⟩ := hy
  have hd : d ≠ 0 := by
    rintro rfl
    exact hb (by rw [own_signed_zero.mpr rfl, Rat.zero_mul])
  refine ⟨s != t, c, d, q - r, by omega, (val64_ddiv x y).trans (by rw [h1, h2]; show (if d = 0 then _ else _) = _; rw [if_neg hd]), ?_⟩
  have hd' : ((d : Nat) : Rat) ≠ 0 := own_nat_ne (by omega)
  have e1 : (2 : Rat) ^ q = 2 ^ (q - r) * 2 ^ r := by rw [← own_p_add]; congr 1; omega
  have e2 := own_p_ne r
  rw [e1]
  generalize (2 : Rat) ^ (q - r) = P
  generalize (2 : Rat) ^ r = W at *
  cases s <;> cases t <;> simp only [signed, Bool.false_eq_true, if_true, if_false, bne_self_eq_false, Rat.intCast_neg, Rat.intCast_natCast, Bool.bne_true, Bool.bne_false, Bool.not_false, Bool.not_true] <;> grind
theorem own_rdL (a : Int64) : own_rd (FP.l2d a) ((a.toInt : Int) : Rat) := by
  refine ⟨decide (a.toInt < 0), a.toInt.natAbs, 1, 0, by decide, val64_l2d a, ?_⟩
  rw [show (((1 : Nat) : Rat)) = 1 from rfl, Rat.div_def, own_inv1, Rat.mul_one, Rat.zpow_zero, Rat.mul_one]
  congr 1
  unfold signed
  by_cases hmn : a.toInt < 0 <;> simp [hmn] <;> omega
theorem own_isI (a : Int32) : own_is (FP.i2d a) ((a.toInt : Int) : Rat) := by
  have h : FP.i2d a = FP.l2d a.toInt64 := i2d_l2d a
  have h2 := own_rdL a.toInt64
  rw [Int32.toInt_toInt64] at h2
  rw [h]
  refine own_rd_exact h2 (m := a.toInt) (k := 0) (by rw [Rat.zpow_zero, Rat.mul_one]) ?_ (by decide) (by decide)
  have := a.le_toInt; have := a.toInt_lt; omega
end OwnNum2
section OwnNum3
open Jvm.FP.Core Jvm.Free.Fl
theorem own_units {A B : Nat} {e : Int} {c : Nat} {q : Int} {s : Bool} (hf : FP.Core.fits b64 (.fin s c q)) (e0 : Int) (h0 : e0 ≤ b64.qmin) (h0e : e0 ≤ e) :
    (((inUnits A e e0 : Nat) : Rat) = (A : Rat) * 2 ^ e * 2 ^ (-e0)) ∧ (((zmag b64 (.fin s c q) * 2 ^ (b64.qmin - e0).toNat * B : Nat) : Rat) = ((c : Rat) * 2 ^ q) * (B : Rat) * 2 ^ (-e0)) := by
  constructor
  · unfold inUnits
    rw [Rat.natCast_mul, own_p_toNat (by omega), show e - e0 = e + -e0 by omega, own_p_add, Rat.mul_assoc]
  · rw [Rat.natCast_mul, Rat.natCast_mul, own_zmag hf, own_p_toNat (by omega), show b64.qmin - e0 = -1074 + -e0 by rw [qmin_b64]; omega, own_p_add]
    have := own_p_neg 1074
    grind
theorem own_div_le {a b w : Rat} (hb : 0 < b) : a / b ≤ w ↔ a ≤ w * b := by
  have h1 : a = a / b * b := (Rat.div_mul_cancel (Rat.ne_of_gt hb)).symm
  constructor
  · intro h; rw [h1]; exact Rat.mul_le_mul_of_nonneg_right h (Rat.le_of_lt hb)
  · intro h; rw [h1] at h; exact Rat.le_of_mul_le_mul_right h hb
theorem own_le_div {a b w : Rat} (hb : 0 < b) : w ≤ a / b ↔ w * b ≤ a := by
  have h1 : a = a / b * b := (Rat.div_mul_cancel (Rat.ne_of_gt hb)).symm
  constructor
  · intro h; rw [h1]; exact Rat.mul_le_mul_of_nonneg_right h (Rat.le_of_lt hb)
  · intro h; rw [h1] at h; exact Rat.le_of_mul_le_mul_right h hb
theorem own_mag_le {A B : Nat} {e : Int} {s t : Bool} {c : Nat} {q : Int} (hB : 0 < B) (hf : FP.Core.fits b64 (.fin t c q)) (h : (A : Rat) / (B : Rat) * 2 ^ e ≤ (c : Rat) * 2 ^ q) : zmag b64 (roundRatio b64 s A B e) ≤ zmag b64 (.fin t c q) := by
  obtain ⟨u1, u2⟩ := own_units (A := A) (B := B) (e := e) hf (min e b64.qmin) (by omega) (by omega)
  refine zmag_roundRatio_le good_b64 hB hf Datum.noConfusion (e0 := min e b64.qmin) (by omega) (by omega) (Rat.natCast_le_natCast.mp ?_)
  rw [u1, u2]
  refine Rat.mul_le_mul_of_nonneg_right ?_ (Rat.le_of_lt (own_p_pos _))
  have hb := own_nat_pos hB
  have h2 := Rat.mul_le_mul_of_nonneg_right h (Rat.le_of_lt hb)
  have h3 : (A : Rat) / (B : Rat) * 2 ^ e * (B : Rat) = (A : Rat) * 2 ^ e := by
    rw [Rat.mul_assoc, Rat.mul_comm ((2 : Rat) ^ e), ← Rat.mul_assoc, Rat.div_mul_cancel (own_nat_ne hB)]
  rw [h3] at h2
  exact h2
theorem own_mag_ge {A B : Nat} {e : Int} {s t : Bool} {c : Nat} {q : Int} (hB : 0 < B) (hf : FP.Core.fits b64 (.fin t c q)) (h : (c : Rat) * 2 ^ q ≤ (A : Rat) / (B : Rat) * 2 ^ e) : zmag b64 (.fin t c q) ≤ zmag b64 (roundRatio b64 s A B e) := by
  obtain ⟨u1, u2⟩ := own_units (A := A) (B := B) (e := e) hf (min e b64.qmin) (by omega) (by omega)
  refine zmag_roundRatio_ge good_b64 hB hf (e0 := min e b64.qmin) (by omega) (by omega) (Rat.natCast_le_natCast.mp ?_)
  rw [u1, u2]
  refine Rat.mul_le_mul_of_nonneg_right ?_ (Rat.le_of_lt (own_p_pos _))
  have hb := own_nat_pos hB
  have h2 := Rat.mul_le_mul_of_nonneg_right h (Rat.le_of_lt hb)
  have h3 : (A : Rat) / (B : Rat) * 2 ^ e * (B : Rat) = (A : Rat) * 2 ^ e := by
    rw [Rat.mul_assoc, Rat.mul_comm ((2 : Rat) ^ e), ← Rat.mul_assoc, Rat.div_mul_cancel (own_nat_ne hB)]
  rw [h3] at h2
  exact h2
theorem own_signed_ratio (s : Bool) (A B : Nat) (e : Int) : ((signed s A : Int) : Rat) / ((B : Nat) : Rat) * (2 : Rat) ^ e = if s then -((A : Rat) / (B : Rat) * 2 ^ e) else (A : Rat) / (B : Rat) * 2 ^ e := by
  cases s
  · rfl
  · show ((-(A : Int) : Int) : Rat) / _ * _ = _
    rw [Rat.intCast_neg, Rat.div_def, Rat.neg_mul, Rat.neg_mul]; rfl
theorem own_signed_pow (s : Bool) (c : Nat) (q : Int) : ((signed s c : Int) : Rat) * (2 : Rat) ^ q = if s then -((c : Rat) * 2 ^ q) else (c : Rat) * 2 ^ q := by
  cases s
  · rfl
  · show ((-(c : Int) : Int) : Rat) * _ = _
    rw [Rat.intCast_neg, Rat.neg_mul]; rfl
theorem own_ratio_nonneg (A B : Nat) (e : Int) : 0 ≤ (A : Rat) / (B : Rat) * 2 ^ e := by
  refine Rat.mul_nonneg ?_ (Rat.le_of_lt (own_p_pos e))
  rcases Nat.eq_zero_or_pos B with rfl | hB
  · rw [Rat.div_def]; exact Rat.mul_nonneg Rat.natCast_nonneg (by rw [show ((0 : Nat) : Rat) = 0 from rfl, Rat.inv_zero]; exact Rat.le_refl)
  · rw [own_le_div (own_nat_pos hB), Rat.zero_mul]; exact Rat.natCast_nonneg
theorem own_rd_le {x V : UInt64} {r y : Rat} (h : own_rd x r) (hV : own_is V y) (hle : r ≤ y) : zval b64 (val64 x) ≤ zval b64 (val64 V) := by
  obtain ⟨s, A, B, e, hB, hv, hr⟩ := h
  obtain ⟨t, c, q, hVv, hy⟩ := hV
  have hf := val64_fits V
  rw [hVv] at hf
  rw [hv, hVv]
  have m1 := own_mag_le (A := A) (e := e) (s := s) hB hf
  have m2 := own_mag_ge (A := A) (e := e) (s := s) hB hf
  unfold zval
  rw [sgn_roundRatio]
  show _ ≤ signed t (zmag b64 (.fin t c q))
  rw [own_signed_ratio] at hr
  rw [own_signed_pow] at hy
  have p1 := own_ratio_nonneg A B e
  have p2 : 0 ≤ (c : Rat) * 2 ^ q := Rat.mul_nonneg Rat.natCast_nonneg (Rat.le_of_lt (own_p_pos q))
  have hz : (c : Rat) * 2 ^ q ≤ 0 → zmag b64 (.fin t c q) = 0 := by
    intro h0
    have h1 : (c : Rat) * 2 ^ q = 0 := Rat.le_antisymm h0 p2
    have h2 := own_zmag hf
    rw [h1, Rat.zero_mul] at h2
    exact Rat.natCast_eq_zero_iff.mp h2
  generalize (A : Rat) / (B : Rat) * 2 ^ e = ra at *
  generalize (c : Rat) * 2 ^ q = rc at *
  generalize zmag b64 (roundRatio b64 s A B e) = za at *
  generalize zmag b64 (.fin t c q) = zc at *
  cases s <;> cases t <;> simp only [signed, Bool.false_eq_true, if_true, if_false] at hr hy ⊢
  · have := m1 (by grind); omega
  · have := m1 (by grind); have := hz (by grind); omega
  · omega
  · have := m2 (by grind); omega
theorem own_rd_neg {x : UInt64} {r : Rat} (h : own_rd x r) : own_rd (FP.dneg x) (-r) := by
  obtain ⟨s, A, B, e, hB, hv, hr⟩ := h
  refine ⟨!s, A, B, e, hB, (FP.val64_dneg x).trans (by rw [hv, negate_roundRatio]), ?_⟩
  rw [hr, signed_not, Rat.intCast_neg, Rat.div_def, Rat.div_def, Rat.neg_mul, Rat.neg_mul]
theorem own_zval_neg (x : UInt64) : zval b64 (val64 (FP.dneg x)) = -zval b64 (val64 x) := by
  rw [show val64 (FP.dneg x) = negate (val64 x) from FP.val64_dneg x, zval_negate]
theorem own_rd_ge {x V : UInt64} {r y : Rat} (h : own_rd x r) (hV : own_is V y) (hle : y ≤ r) : zval b64 (val64 V) ≤ zval b64 (val64 x) := by
  have h1 := own_rd_le (own_rd_neg h) (own_neg hV) (Rat.neg_le_neg hle)
  rw [own_zval_neg, own_zval_neg] at h1
  omega
theorem own_big : own_is 9110782046170513408 ((2 : Rat) ^ (1000 : Int)) := ⟨false, 2 ^ 52, 948, by decide +kernel, by
  show _ = (((2 ^ 52 : Nat) : Rat)) * _
  rw [own_p_nat, ← own_p_add]; rfl⟩
theorem own_rd_fin {x : UInt64} {r : Rat} (h : own_rd x r) (h1 : r ≤ (2 : Rat) ^ (1000 : Int)) (h2 : -((2 : Rat) ^ (1000 : Int)) ≤ r) : ∃ v, own_is x v := by
  have l1 := own_rd_le h own_big h1
  have l2 := own_rd_ge h (own_neg own_big) h2
  rw [own_zval_neg] at l2
  obtain ⟨s, A, B, e, hB, hv, hr⟩ := h
  rcases roundRatio_cases b64 s A B e with ⟨c, q, hc⟩ | hc
  · exact ⟨_, s, c, q, hv.trans hc, rfl⟩
  · rw [hv, hc] at l1 l2
    cases s
    · exact absurd l1 (by decide +kernel)
    · exact absurd l2 (by decide +kernel)
theorem own_rd_le' {x V : UInt64} {r v y : Rat} (h : own_rd x r) (hx : own_is x v) (hV : own_is V y) (hle : r ≤ y) : v ≤ y := by
  have h1 := own_rd_le h hV hle
  refine Rat.not_lt.mp fun h2 => ?_
  have h3 := (dcmp_lt.mp ((own_is_lt hV hx).mpr h2)).2.2
  omega
theorem own_rd_ge' {x V : UInt64} {r v y : Rat} (h : own_rd x r) (hx : own_is x v) (hV : own_is V y) (hle : y ≤ r) : y ≤ v := by
  have h1 := own_rd_ge h hV hle
  refine Rat.not_lt.mp fun h2 => ?_
  have h3 := (dcmp_lt.mp ((own_is_lt hx hV).mpr h2)).2.2
  omega
/-- every rational of 53 digits is a double -/
theorem own_rep {m k : Int} (hm : m.natAbs < 2 ^ 53) (hk : -1074 ≤ k) (hk2 : k ≤ 971) : ∃ V, own_is V ((m : Rat) * (2 : Rat) ^ k) := by
  have hf : FP.Core.fits b64 (roundRatio b64 (decide (m < 0)) m.natAbs 1 k) := roundRatio_fits good_b64 _ _ (by decide) _
  refine ⟨of64 (roundRatio b64 (decide (m < 0)) m.natAbs 1 k), own_rd_exact ⟨decide (m < 0), m.natAbs, 1, k, by decide, val64_of64 hf, ?_⟩ rfl hm hk hk2⟩
  rw [show (((1 : Nat) : Rat)) = 1 from rfl, Rat.div_def, own_inv1, Rat.mul_one]
  congr 2
  unfold signed
  by_cases hmn : m < 0 <;> simp [hmn] <;> omega
end OwnNum3
section OwnNum4
open Jvm.FP.Core Jvm.Free.Fl
theorem own_two200 : (1606938044258990275541962092341162602522202993782792835301376 : Rat) ≤ (2 : Rat) ^ (1000 : Int) := by decide +kernel
theorem own_rd_finN {x : UInt64} {r : Rat} (h : own_rd x r) (h1 : r ≤ 1606938044258990275541962092341162602522202993782792835301376) (h2 : -1606938044258990275541962092341162602522202993782792835301376 ≤ r) : ∃ v, own_is x v :=
  own_rd_fin h (Rat.le_trans h1 own_two200) (Rat.le_trans (Rat.neg_le_neg own_two200) h2)
theorem own_zero : own_is 0 0 := ⟨false, 0, -1074, by decide +kernel, by decide +kernel⟩
theorem own_one : own_is 4607182418800017408 1 := ⟨false, 2 ^ 52, -52, by decide +kernel, by decide +kernel⟩
theorem own_rep' {m k : Int} {r : Rat} (hr : r = (m : Rat) * (2 : Rat) ^ k) (hm : m.natAbs < 2 ^ 53) (hk : -1074 ≤ k) (hk2 : k ≤ 971) : ∃ V, own_is V r := by rw [hr]; exact own_rep hm hk hk2
theorem own_cmpv {x y : UInt64} {a b : Rat} (hx : own_is x a) (hy : own_is y b) (o : ClassFile.CmpOp) : Op.cmpValue (FP.dcmp x y) o = if a < b then -1 else if a = b then 0 else 1 := by
  by_cases h1 : a < b
  · rw [(own_is_lt hx hy).mpr h1, if_pos h1]; rfl
  · by_cases h2 : a = b
    · rw [(own_is_eq hx hy).mpr h2, if_neg h1, if_pos h2]; rfl
    · have h3 : b < a := by grind
      rw [(own_is_gt hx hy).mpr h3, if_neg h1, if_neg h2]; rfl
theorem own_c_lt {x y : UInt64} {a b : Rat} (hx : own_is x a) (hy : own_is y b) (o : ClassFile.CmpOp) : Op.ifCond.holds .lt (Op.cmpValue (FP.dcmp x y) o) = decide (a < b) := by
  rw [own_cmpv hx hy]; by_cases h1 : a < b <;> by_cases h2 : a = b <;> simp [h1, h2, Op.ifCond.holds]
theorem own_c_ge {x y : UInt64} {a b : Rat} (hx : own_is x a) (hy : own_is y b) (o : ClassFile.CmpOp) : Op.ifCond.holds .ge (Op.cmpValue (FP.dcmp x y) o) = decide (b ≤ a) := by
  rw [own_cmpv hx hy]
  by_cases h1 : a < b
  · simp [h1, Rat.not_le.mpr h1, Op.ifCond.holds]
  · by_cases h2 : a = b <;> simp [h1, h2, Rat.not_lt.mp h1, Op.ifCond.holds, Rat.le_refl]
theorem own_c_gt {x y : UInt64} {a b : Rat} (hx : own_is x a) (hy : own_is y b) (o : ClassFile.CmpOp) : Op.ifCond.holds .gt (Op.cmpValue (FP.dcmp x y) o) = decide (b < a) := by
  rw [own_cmpv hx hy]
  by_cases h1 : a < b
  · have : ¬ b < a := by grind
    simp [h1, this, Op.ifCond.holds]
  · by_cases h2 : a = b
    · subst h2; simp [Rat.lt_irrefl, Op.ifCond.holds]
    · have : b < a := by grind
      simp [h1, h2, this, Op.ifCond.holds]
theorem own_c_le {x y : UInt64} {a b : Rat} (hx : own_is x a) (hy : own_is y b) (o : ClassFile.CmpOp) : Op.ifCond.holds .le (Op.cmpValue (FP.dcmp x y) o) = decide (a ≤ b) := by
  rw [own_cmpv hx hy]
  by_cases h1 : a < b
  · simp [h1, Rat.le_of_lt h1, Op.ifCond.holds]
  · by_cases h2 : a = b
    · subst h2; simp [Rat.lt_irrefl, Rat.le_refl, Op.ifCond.holds]
    · have : ¬ a ≤ b := by grind
      simp [h1, h2, this, Op.ifCond.holds]
theorem own_c_eq {x y : UInt64} {a b : Rat} (hx : own_is x a) (hy : own_is y b) (o : ClassFile.CmpOp) : Op.ifCond.holds .eq (Op.cmpValue (FP.dcmp x y) o) = decide (a = b) := by
  rw [own_cmpv hx hy]
  by_cases h1 : a < b
  · have : ¬ a = b := by grind
    simp [h1, this, Op.ifCond.holds]
  · by_cases h2 : a = b <;> simp [h1, h2, Op.ifCond.holds]
theorem own_c_ne {x y : UInt64} {a b : Rat} (hx : own_is x a) (hy : own_is y b) (o : ClassFile.CmpOp) : Op.ifCond.holds .ne (Op.cmpValue (FP.dcmp x y) o) = decide (a ≠ b) := by
  rw [own_cmpv hx hy]
  by_cases h1 : a < b
  · have : ¬ a = b := by grind
    simp [h1, this, Op.ifCond.holds]
  · by_cases h2 : a = b <;> simp [h1, h2, Op.ifCond.holds]
/-- ints by their values -/
theorem own_i_lt (x y : Int32) : Op.if_icmp.holds .lt x y = decide (x.toInt < y.toInt) := by simp only [Op.if_icmp.holds, Int32.lt_iff_toInt_lt]
theorem own_i_gt (x y : Int32) : Op.if_icmp.holds .gt x y = decide (y.toInt < x.toInt) := by simp only [Op.if_icmp.holds, GT.gt, Int32.lt_iff_toInt_lt]
theorem own_i_le (x y : Int32) : Op.if_icmp.holds .le x y = decide (x.toInt ≤ y.toInt) := by simp only [Op.if_icmp.holds, Int32.le_iff_toInt_le]
theorem own_i_ge (x y : Int32) : Op.if_icmp.holds .ge x y = decide (y.toInt ≤ x.toInt) := by simp only [Op.if_icmp.holds, GE.ge, Int32.le_iff_toInt_le]
theorem own_i_eq (x y : Int32) : Op.if_icmp.holds .eq x y = decide (x = y) := by rw [Bool.eq_iff_iff]; simp [Op.if_icmp.holds]
theorem own_i_ne (x y : Int32) : Op.if_icmp.holds .ne x y = decide (x ≠ y) := by rw [Bool.eq_iff_iff]; simp [Op.if_icmp.holds]
theorem own_z_lt (x : Int32) : Op.ifCond.holds .lt x = decide (x.toInt < 0) := by simp only [Op.ifCond.holds, Int32.lt_iff_toInt_lt]; rfl
theorem own_z_gt (x : Int32) : Op.ifCond.holds .gt x = decide (0 < x.toInt) := by simp only [Op.ifCond.holds, GT.gt, Int32.lt_iff_toInt_lt]; rfl
theorem own_z_le (x : Int32) : Op.ifCond.holds .le x = decide (x.toInt ≤ 0) := by simp only [Op.ifCond.holds, Int32.le_iff_toInt_le]; rfl
theorem own_z_ge (x : Int32) : Op.ifCond.holds .ge x = decide (0 ≤ x.toInt) := by simp only [Op.ifCond.holds, GE.ge, Int32.le_iff_toInt_le]; rfl
theorem own_z_eq (x : Int32) : Op.ifCond.holds .eq x = decide (x = 0) := by rw [Bool.eq_iff_iff]; simp [Op.ifCond.holds]
theorem own_z_ne (x : Int32) : Op.ifCond.holds .ne x = decide (x ≠ 0) := by rw [Bool.eq_iff_iff]; simp [Op.ifCond.holds]
theorem own_lc_lt (x y : Int64) : Op.ifCond.holds .lt (if x > y then (1 : Int32) else if x = y then 0 else -1) = decide (x.toInt < y.toInt) := by
  simp only [GT.gt, Int64.lt_iff_toInt_lt, ← Int64.toInt_inj]
  by_cases h1 : y.toInt < x.toInt
  · simp [h1, Op.ifCond.holds, show ¬ x.toInt < y.toInt by omega]
  · by_cases h2 : x.toInt = y.toInt
    · simp [h2, Op.ifCond.holds]
    · simp [h1, h2, Op.ifCond.holds, show x.toInt < y.toInt by omega]
theorem own_lc_ge (x y : Int64) : Op.ifCond.holds .ge (if x > y then (1 : Int32) else if x = y then 0 else -1) = decide (y.toInt ≤ x.toInt) := by
  simp only [GT.gt, Int64.lt_iff_toInt_lt, ← Int64.toInt_inj]
  by_cases h1 : y.toInt < x.toInt
  · simp [h1, Op.ifCond.holds, show y.toInt ≤ x.toInt by omega]
  · by_cases h2 : x.toInt = y.toInt
    · simp [h2, Op.ifCond.holds]
    · simp [h1, h2, Op.ifCond.holds, show ¬ y.toInt ≤ x.toInt by omega]
theorem own_lc_gt (x y : Int64) : Op.ifCond.holds .gt (if x > y then (1 : Int32) else if x = y then 0 else -1) = decide (y.toInt < x.toInt) := by
  simp only [GT.gt, Int64.lt_iff_toInt_lt, ← Int64.toInt_inj]
  by_cases h1 : y.toInt < x.toInt
  · simp [h1, Op.ifCond.holds]
  · by_cases h2 : x.toInt = y.toInt
    · simp [h2, Op.ifCond.holds]
    · simp [h1, h2, Op.ifCond.holds]
theorem own_lc_le (x y : Int64) : Op.ifCond.holds .le (if x > y then (1 : Int32) else if x = y then 0 else -1) = decide (x.toInt ≤ y.toInt) := by
  simp only [GT.gt, Int64.lt_iff_toInt_lt, ← Int64.toInt_inj]
  by_cases h1 : y.toInt < x.toInt
  · simp [h1, Op.ifCond.holds, show ¬ x.toInt ≤ y.toInt by omega]
  · by_cases h2 : x.toInt = y.toInt
    · simp [h2, Op.ifCond.holds]
    · simp [h1, h2, Op.ifCond.holds, show x.toInt ≤ y.toInt by omega]
theorem own_lc_eq (x y : Int64) : Op.ifCond.holds .eq (if x > y then (1 : Int32) else if x = y then 0 else -1) = decide (x.toInt = y.toInt) := by
  simp only [GT.gt, Int64.lt_iff_toInt_lt, ← Int64.toInt_inj]
  by_cases h1 : y.toInt < x.toInt
  · simp [h1, Op.ifCond.holds, show ¬ x.toInt = y.toInt by omega]
  · by_cases h2 : x.toInt = y.toInt
    · simp [h2, Op.ifCond.holds]
    · simp [h1, h2, Op.ifCond.holds]
theorem own_lc_ne (x y : Int64) : Op.ifCond.holds .ne (if x > y then (1 : Int32) else if x = y then 0 else -1) = decide (x.toInt ≠ y.toInt) := by
  simp only [GT.gt, Int64.lt_iff_toInt_lt, ← Int64.toInt_inj]
  by_cases h1 : y.toInt < x.toInt
  · simp [h1, Op.ifCond.holds, show ¬ x.toInt = y.toInt by omega]
  · by_cases h2 : x.toInt = y.toInt
    · simp [h2, Op.ifCond.holds]
    · simp [h1, h2, Op.ifCond.holds]
end OwnNum4
open Jvm Jvm.ClassFile Sem Op Lib Jvm.Free Jvm.Stand Jvm.LawKit Jvm.RoadKit Bundle Jvm.Pilot.@@N@@.Jvm.D
/-! the walk layer: own_Go says that from one frame another one is reached, whatever the heap; one rule an instruction -/
section OwnWalk
open Jvm.Free Jvm.Free.Fl
def own_Ldc (tb : Tables) (e : Env) (below : List Frame) (T : State) (m : MethodId) (c : Code) (i : Nat) (v : Value) : Prop :=
  ∀ (g : JFrame) (target : State), g.method = m →
    ((∃ x, v = .int x) → decode c.code g.pc = .ok (.ldc i, 2) → Steps tb e below (T.setTop { g with pc := g.pc + 2, stack := v :: g.stack }) target → Steps tb e below (T.setTop g) target) ∧
    ((∃ x, v = .int x) → decode c.code g.pc = .ok (.ldc_w i, 3) → Steps tb e below (T.setTop { g with pc := g.pc + 3, stack := v :: g.stack }) target → Steps tb e below (T.setTop g) target) ∧
    (((∃ x, v = .long x) ∨ ∃ x, v = .double x) → decode c.code g.pc = .ok (.ldc2_w i, 3) → Steps tb e below (T.setTop { g with pc := g.pc + 3, stack := v :: g.stack }) target → Steps tb e below (T.setTop g) target)
def own_Go (P : List (Nat × Value)) (b : ByteArray) (pc : Nat) (L : Array Slot) (S : List Value) (pc' : Nat) (L' : Array Slot) (S' : List Value) : Prop :=
  ∀ (tb : Tables) [Ours tb] (e : Env) (below : List Frame) (T target : State) (m : MethodId) (c : Code), At T m c below → tb.exec = Jvm.exec → c.code = b →
    (∀ q ∈ P, own_Ldc tb e below T m c q.1 q.2) → Steps tb e below (T.setTop (mkF m pc' L' S')) target → Steps tb e below (T.setTop (mkF m pc L S)) target
variable {P : List (Nat × Value)} {b : ByteArray} {pc pcE : Nat} {L L' LE : Array Slot} {S SE : List Value}
theorem own_refl : own_Go P b pc L S pc L S := fun tb _ e below T target m c h hx hy hP k => k
theorem own_trans {pcM : Nat} {LM : Array Slot} {SM : List Value} (r1 : own_Go P b pc L S pcM LM SM) (r2 : own_Go P b pcM LM SM pcE LE SE) : own_Go P b pc L S pcE LE SE :=
  fun tb _ e below T target m c h hx hy hP k => r1 tb e below T target m c h hx hy hP (r2 tb e below T target m c h hx hy hP k)
theorem own_at {pc2 : Nat} {L2 : Array Slot} {S2 : List Value} (h1 : pc = pc2) (h2 : L = L2) (h3 : S = S2) (r : own_Go P b pc L S pcE LE SE) : own_Go P b pc2 L2 S2 pcE LE SE := by subst h1 h2 h3; exact r
theorem own_end {pc2 : Nat} {L2 : Array Slot} {S2 : List Value} (h1 : pcE = pc2) (h2 : LE = L2) (h3 : SE = S2) (r : own_Go P b pc L S pcE LE SE) : own_Go P b pc L S pc2 L2 S2 := by subst h1 h2 h3; exact r
theorem own_iload {j : Nat} {v : Int32} {pc2 : Nat} (hd : decode b pc = .ok (.iload j, 2)) (hpc : pc + 2 = pc2) (hl : L[j]? = some (.val (.int v))) (r : own_Go P b pc2 L (.int v :: S) pcE LE SE) : own_Go P b pc L (S) pcE LE SE := by
  intro tb _ e below T target m c h hx hy hP k; subst hpc; exact XS.iload h hx rfl (hb hy hd) hl (r tb e below T target m c h hx hy hP k)
theorem own_iloadN {j : Fin 4} {v : Int32} {pc2 : Nat} (hd : decode b pc = .ok (.iload_n j, 1)) (hpc : pc + 1 = pc2) (hl : L[j.val]? = some (.val (.int v))) (r : own_Go P b pc2 L (.int v :: S) pcE LE SE) : own_Go P b pc L (S) pcE LE SE := by
  intro tb _ e below T target m c h hx hy hP k; subst hpc; exact XS.iloadN h hx rfl (hb hy hd) hl (r tb e below T target m c h hx hy hP k)
theorem own_istore {j : Nat} {v : Int32} {rest : List Value} {pc2 : Nat} (hd : decode b pc = .ok (.istore j, 2)) (hpc : pc + 2 = pc2) (hl : storeLocals L j (.int v) = some L') (r : own_Go P b pc2 L' (rest) pcE LE SE) : own_Go P b pc L (.int v :: rest) pcE LE SE := by
  intro tb _ e below T target m c h hx hy hP k; subst hpc; exact XS.istore h hx rfl (hb hy hd) rfl hl (r tb e below T target m c h hx hy hP k)
theorem own_istoreN {j : Fin 4} {v : Int32} {rest : List Value} {pc2 : Nat} (hd : decode b pc = .ok (.istore_n j, 1)) (hpc : pc + 1 = pc2) (hl : storeLocals L j.val (.int v) = some L') (r : own_Go P b pc2 L' (rest) pcE LE SE) : own_Go P b pc L (.int v :: rest) pcE LE SE := by
  intro tb _ e below T target m c h hx hy hP k; subst hpc; exact XS.istoreN h hx rfl (hb hy hd) rfl hl (r tb e below T target m c h hx hy hP k)
theorem own_lload {j : Nat} {v : Int64} {pc2 : Nat} (hd : decode b pc = .ok (.lload j, 2)) (hpc : pc + 2 = pc2) (hl : L[j]? = some (.val (.long v))) (r : own_Go P b pc2 L (.long v :: S) pcE LE SE) : own_Go P b pc L (S) pcE LE SE := by
  intro tb _ e below T target m c h hx hy hP k; subst hpc; exact XS.lload h hx rfl (hb hy hd) hl (r tb e below T target m c h hx hy hP k)
theorem own_lloadN {j : Fin 4} {v : Int64} {pc2 : Nat} (hd : decode b pc = .ok (.lload_n j, 1)) (hpc : pc + 1 = pc2) (hl : L[j.val]? = some (.val (.long v))) (r : own_Go P b pc2 L (.long v :: S) pcE LE SE) : own_Go P b pc L (S) pcE LE SE := by
  intro tb _ e below T target m c h hx hy hP k; subst hpc; exact XS.lloadN h hx rfl (hb hy hd) hl (r tb e below T target m c h hx hy hP k)
theorem own_lstore {j : Nat} {v : Int64} {rest : List Value} {pc2 : Nat} (hd : decode b pc = .ok (.lstore j, 2)) (hpc : pc + 2 = pc2) (hl : storeLocals L j (.long v) = some L') (r : own_Go P b pc2 L' (rest) pcE LE SE) : own_Go P b pc L (.long v :: rest) pcE LE SE := by
  intro tb _ e below T target m c h hx hy hP k; subst hpc; exact XS.lstore h hx rfl (hb hy hd) rfl hl (r tb e below T target m c h hx hy hP k)
theorem own_lstoreN {j : Fin 4} {v : Int64} {rest : List Value} {pc2 : Nat} (hd : decode b pc = .ok (.lstore_n j, 1)) (hpc : pc + 1 = pc2) (hl : storeLocals L j.val (.long v) = some L') (r : own_Go P b pc2 L' (rest) pcE LE SE) : own_Go P b pc L (.long v :: rest) pcE LE SE := by
  intro tb _ e below T target m c h hx hy hP k; subst hpc; exact XS.lstoreN h hx rfl (hb hy hd) rfl hl (r tb e below T target m c h hx hy hP k)
theorem own_dload {j : Nat} {v : UInt64} {pc2 : Nat} (hd : decode b pc = .ok (.dload j, 2)) (hpc : pc + 2 = pc2) (hl : L[j]? = some (.val (.double v))) (r : own_Go P b pc2 L (.double v :: S) pcE LE SE) : own_Go P b pc L (S) pcE LE SE := by
  intro tb _ e below T target m c h hx hy hP k; subst hpc; exact XS.dload h hx rfl (hb hy hd) hl (r tb e below T target m c h hx hy hP k)
theorem own_dloadN {j : Fin 4} {v : UInt64} {pc2 : Nat} (hd : decode b pc = .ok (.dload_n j, 1)) (hpc : pc + 1 = pc2) (hl : L[j.val]? = some (.val (.double v))) (r : own_Go P b pc2 L (.double v :: S) pcE LE SE) : own_Go P b pc L (S) pcE LE SE := by
  intro tb _ e below T target m c h hx hy hP k; subst hpc; exact XS.dloadN h hx rfl (hb hy hd) hl (r tb e below T target m c h hx hy hP k)
theorem own_dstore {j : Nat} {v : UInt64} {rest : List Value} {pc2 : Nat} (hd : decode b pc = .ok (.dstore j, 2)) (hpc : pc + 2 = pc2) (hl : storeLocals L j (.double v) = some L') (r : own_Go P b pc2 L' (rest) pcE LE SE) : own_Go P b pc L (.double v :: rest) pcE LE SE := by
  intro tb _ e below T target m c h hx hy hP k; subst hpc; exact XS.dstore h hx rfl (hb hy hd) rfl hl (r tb e below T target m c h hx hy hP k)
theorem own_dstoreN {j : Fin 4} {v : UInt64} {rest : List Value} {pc2 : Nat} (hd : decode b pc = .ok (.dstore_n j, 1)) (hpc : pc + 1 = pc2) (hl : storeLocals L j.val (.double v) = some L') (r : own_Go P b pc2 L' (rest) pcE LE SE) : own_Go P b pc L (.double v :: rest) pcE LE SE := by
  intro tb _ e below T target m c h hx hy hP k; subst hpc; exact XS.dstoreN h hx rfl (hb hy hd) rfl hl (r tb e below T target m c h hx hy hP k)
theorem own_aload {j : Nat} {v : Value} {pc2 : Nat} (hd : decode b pc = .ok (.aload j, 2)) (hpc : pc + 2 = pc2) (hl : L[j]? = some (.val v)) (hr : v.isRef = true) (r : own_Go P b pc2 L (v :: S) pcE LE SE) : own_Go P b pc L (S) pcE LE SE := by
  intro tb _ e below T target m c h hx hy hP k; subst hpc; exact XS.aload h hx rfl (hb hy hd) hl hr (r tb e below T target m c h hx hy hP k)
theorem own_aloadN {j : Fin 4} {v : Value} {pc2 : Nat} (hd : decode b pc = .ok (.aload_n j, 1)) (hpc : pc + 1 = pc2) (hl : L[j.val]? = some (.val v)) (hr : v.isRef = true) (r : own_Go P b pc2 L (v :: S) pcE LE SE) : own_Go P b pc L (S) pcE LE SE := by
  intro tb _ e below T target m c h hx hy hP k; subst hpc; exact XS.aloadN h hx rfl (hb hy hd) hl hr (r tb e below T target m c h hx hy hP k)
theorem own_astore {j : Nat} {v : Value} {rest : List Value} {pc2 : Nat} (hd : decode b pc = .ok (.astore j, 2)) (hpc : pc + 2 = pc2) (hr : v.isRef = true) (hl : storeLocals L j v = some L') (r : own_Go P b pc2 L' (rest) pcE LE SE) : own_Go P b pc L (v :: rest) pcE LE SE := by
  intro tb _ e below T target m c h hx hy hP k; subst hpc; exact XS.astore h hx rfl (hb hy hd) rfl hr hl (r tb e below T target m c h hx hy hP k)
theorem own_astoreN {j : Fin 4} {v : Value} {rest : List Value} {pc2 : Nat} (hd : decode b pc = .ok (.astore_n j, 1)) (hpc : pc + 1 = pc2) (hr : v.isRef = true) (hl : storeLocals L j.val v = some L') (r : own_Go P b pc2 L' (rest) pcE LE SE) : own_Go P b pc L (v :: rest) pcE LE SE := by
  intro tb _ e below T target m c h hx hy hP k; subst hpc; exact XS.astoreN h hx rfl (hb hy hd) rfl hr hl (r tb e below T target m c h hx hy hP k)
theorem own_iconst {i : Int} {v : Int32} {pc2 : Nat} (hd : decode b pc = .ok (.iconst i, 1)) (hpc : pc + 1 = pc2) (hv : Int32.ofInt i = v) (r : own_Go P b pc2 L (.int v :: S) pcE LE SE) : own_Go P b pc L (S) pcE LE SE := by
  intro tb _ e below T target m c h hx hy hP k; subst hpc; subst hv; exact XS.iconst h hx rfl (hb hy hd) (r tb e below T target m c h hx hy hP k)
theorem own_bipush {i : Int} {v : Int32} {pc2 : Nat} (hd : decode b pc = .ok (.bipush i, 2)) (hpc : pc + 2 = pc2) (hv : (Int8.ofInt i).toInt32 = v) (r : own_Go P b pc2 L (.int v :: S) pcE LE SE) : own_Go P b pc L (S) pcE LE SE := by
  intro tb _ e below T target m c h hx hy hP k; subst hpc; subst hv; exact XS.bipush h hx rfl (hb hy hd) (r tb e below T target m c h hx hy hP k)
theorem own_sipush {i : Int} {v : Int32} {pc2 : Nat} (hd : decode b pc = .ok (.sipush i, 3)) (hpc : pc + 3 = pc2) (hv : (Int16.ofInt i).toInt32 = v) (r : own_Go P b pc2 L (.int v :: S) pcE LE SE) : own_Go P b pc L (S) pcE LE SE := by
  intro tb _ e below T target m c h hx hy hP k; subst hpc; subst hv; exact XS.sipush h hx rfl (hb hy hd) (r tb e below T target m c h hx hy hP k)
theorem own_lconst {j : Fin 2} {v : Int64} {pc2 : Nat} (hd : decode b pc = .ok (.lconst j, 1)) (hpc : pc + 1 = pc2) (hv : Int64.ofNat j = v) (r : own_Go P b pc2 L (.long v :: S) pcE LE SE) : own_Go P b pc L (S) pcE LE SE := by
  intro tb _ e below T target m c h hx hy hP k; subst hpc; subst hv; exact XS.lconst h hx rfl (hb hy hd) (r tb e below T target m c h hx hy hP k)
theorem own_dconst0  {v : UInt64} {pc2 : Nat} (hd : decode b pc = .ok (.dconst 0, 1)) (hpc : pc + 1 = pc2) (hv : FP.dconst0 = v) (r : own_Go P b pc2 L (.double v :: S) pcE LE SE) : own_Go P b pc L (S) pcE LE SE := by
  intro tb _ e below T target m c h hx hy hP k; subst hpc; subst hv; exact XS.dconst0 h hx rfl (hb hy hd) rfl (r tb e below T target m c h hx hy hP k)
theorem own_dconst1  {v : UInt64} {pc2 : Nat} (hd : decode b pc = .ok (.dconst 1, 1)) (hpc : pc + 1 = pc2) (hv : FP.dconst1 = v) (r : own_Go P b pc2 L (.double v :: S) pcE LE SE) : own_Go P b pc L (S) pcE LE SE := by
  intro tb _ e below T target m c h hx hy hP k; subst hpc; subst hv; exact XS.dconst1 h hx rfl (hb hy hd) rfl (r tb e below T target m c h hx hy hP k)
theorem own_aconstNull  {pc2 : Nat} (hd : decode b pc = .ok (.aconst_null, 1)) (hpc : pc + 1 = pc2) (r : own_Go P b pc2 L (.null :: S) pcE LE SE) : own_Go P b pc L (S) pcE LE SE := by
  intro tb _ e below T target m c h hx hy hP k; subst hpc; exact XS.aconstNull h hx rfl (hb hy hd) (r tb e below T target m c h hx hy hP k)
theorem own_iadd {x y : Int32} {v : Int32} {rest : List Value} {pc2 : Nat} (hd : decode b pc = .ok (.iadd, 1)) (hpc : pc + 1 = pc2) (hv : x + y = v) (r : own_Go P b pc2 L (.int v :: rest) pcE LE SE) : own_Go P b pc L (.int y :: .int x :: rest) pcE LE SE := by
  intro tb _ e below T target m c h hx hy hP k; subst hpc; subst hv; exact XS.iadd h hx rfl (hb hy hd) rfl (r tb e below T target m c h hx hy hP k)
theorem own_isub {x y : Int32} {v : Int32} {rest : List Value} {pc2 : Nat} (hd : decode b pc = .ok (.isub, 1)) (hpc : pc + 1 = pc2) (hv : x - y = v) (r : own_Go P b pc2 L (.int v :: rest) pcE LE SE) : own_Go P b pc L (.int y :: .int x :: rest) pcE LE SE := by
  intro tb _ e below T target m c h hx hy hP k; subst hpc; subst hv; exact XS.isub h hx rfl (hb hy hd) rfl (r tb e below T target m c h hx hy hP k)
theorem own_imul {x y : Int32} {v : Int32} {rest : List Value} {pc2 : Nat} (hd : decode b pc = .ok (.imul, 1)) (hpc : pc + 1 = pc2) (hv : x * y = v) (r : own_Go P b pc2 L (.int v :: rest) pcE LE SE) : own_Go P b pc L (.int y :: .int x :: rest) pcE LE SE := by
  intro tb _ e below T target m c h hx hy hP k; subst hpc; subst hv; exact XS.imul h hx rfl (hb hy hd) rfl (r tb e below T target m c h hx hy hP k)
theorem own_iand {x y : Int32} {v : Int32} {rest : List Value} {pc2 : Nat} (hd : decode b pc = .ok (.iand, 1)) (hpc : pc + 1 = pc2) (hv : x &&& y = v) (r : own_Go P b pc2 L (.int v :: rest) pcE LE SE) : own_Go P b pc L (.int y :: .int x :: rest) pcE LE SE := by
  intro tb _ e below T target m c h hx hy hP k; subst hpc; subst hv; exact XS.iand h hx rfl (hb hy hd) rfl (r tb e below T target m c h hx hy hP k)
theorem own_ior {x y : Int32} {v : Int32} {rest : List Value} {pc2 : Nat} (hd : decode b pc = .ok (.ior, 1)) (hpc : pc + 1 = pc2) (hv : x ||| y = v) (r : own_Go P b pc2 L (.int v :: rest) pcE LE SE) : own_Go P b pc L (.int y :: .int x :: rest) pcE LE SE := by
  intro tb _ e below T target m c h hx hy hP k; subst hpc; subst hv; exact XS.ior h hx rfl (hb hy hd) rfl (r tb e below T target m c h hx hy hP k)
theorem own_ixor {x y : Int32} {v : Int32} {rest : List Value} {pc2 : Nat} (hd : decode b pc = .ok (.ixor, 1)) (hpc : pc + 1 = pc2) (hv : x ^^^ y = v) (r : own_Go P b pc2 L (.int v :: rest) pcE LE SE) : own_Go P b pc L (.int y :: .int x :: rest) pcE LE SE := by
  intro tb _ e below T target m c h hx hy hP k; subst hpc; subst hv; exact XS.ixor h hx rfl (hb hy hd) rfl (r tb e below T target m c h hx hy hP k)
theorem own_ishl {x y : Int32} {v : Int32} {rest : List Value} {pc2 : Nat} (hd : decode b pc = .ok (.ishl, 1)) (hpc : pc + 1 = pc2) (hv : x <<< (y &&& 31) = v) (r : own_Go P b pc2 L (.int v :: rest) pcE LE SE) : own_Go P b pc L (.int y :: .int x :: rest) pcE LE SE := by
  intro tb _ e below T target m c h hx hy hP k; subst hpc; subst hv; exact XS.ishl h hx rfl (hb hy hd) rfl (r tb e below T target m c h hx hy hP k)
theorem own_ishr {x y : Int32} {v : Int32} {rest : List Value} {pc2 : Nat} (hd : decode b pc = .ok (.ishr, 1)) (hpc : pc + 1 = pc2) (hv : x >>> (y &&& 31) = v) (r : own_Go P b pc2 L (.int v :: rest) pcE LE SE) : own_Go P b pc L (.int y :: .int x :: rest) pcE LE SE := by
  intro tb _ e below T target m c h hx hy hP k; subst hpc; subst hv; exact XS.ishr h hx rfl (hb hy hd) rfl (r tb e below T target m c h hx hy hP k)
theorem own_iushr {x y : Int32} {v : Int32} {rest : List Value} {pc2 : Nat} (hd : decode b pc = .ok (.iushr, 1)) (hpc : pc + 1 = pc2) (hv : (x.toUInt32 >>> (y &&& 31).toUInt32).toInt32 = v) (r : own_Go P b pc2 L (.int v :: rest) pcE LE SE) : own_Go P b pc L (.int y :: .int x :: rest) pcE LE SE := by
  intro tb _ e below T target m c h hx hy hP k; subst hpc; subst hv; exact XS.iushr h hx rfl (hb hy hd) rfl (r tb e below T target m c h hx hy hP k)
theorem own_idiv {x y : Int32} {v : Int32} {rest : List Value} {pc2 : Nat} (hd : decode b pc = .ok (.idiv, 1)) (hpc : pc + 1 = pc2) (hn : y ≠ 0) (hv : x / y = v) (r : own_Go P b pc2 L (.int v :: rest) pcE LE SE) : own_Go P b pc L (.int y :: .int x :: rest) pcE LE SE := by
  intro tb _ e below T target m c h hx hy hP k; subst hpc; subst hv; exact XS.idiv h hx rfl (hb hy hd) rfl hn (r tb e below T target m c h hx hy hP k)
theorem own_irem {x y : Int32} {v : Int32} {rest : List Value} {pc2 : Nat} (hd : decode b pc = .ok (.irem, 1)) (hpc : pc + 1 = pc2) (hn : y ≠ 0) (hv : x - (x / y) * y = v) (r : own_Go P b pc2 L (.int v :: rest) pcE LE SE) : own_Go P b pc L (.int y :: .int x :: rest) pcE LE SE := by
  intro tb _ e below T target m c h hx hy hP k; subst hpc; subst hv; exact XS.irem h hx rfl (hb hy hd) rfl hn (r tb e below T target m c h hx hy hP k)
theorem own_ladd {x y : Int64} {v : Int64} {rest : List Value} {pc2 : Nat} (hd : decode b pc = .ok (.ladd, 1)) (hpc : pc + 1 = pc2) (hv : x + y = v) (r : own_Go P b pc2 L (.long v :: rest) pcE LE SE) : own_Go P b pc L (.long y :: .long x :: rest) pcE LE SE := by
  intro tb _ e below T target m c h hx hy hP k; subst hpc; subst hv; exact XS.ladd h hx rfl (hb hy hd) rfl (r tb e below T target m c h hx hy hP k)
theorem own_lsub {x y : Int64} {v : Int64} {rest : List Value} {pc2 : Nat} (hd : decode b pc = .ok (.lsub, 1)) (hpc : pc + 1 = pc2) (hv : x - y = v) (r : own_Go P b pc2 L (.long v :: rest) pcE LE SE) : own_Go P b pc L (.long y :: .long x :: rest) pcE LE SE := by
  intro tb _ e below T target m c h hx hy hP k; subst hpc; subst hv; exact XS.lsub h hx rfl (hb hy hd) rfl (r tb e below T target m c h hx hy hP k)
theorem own_lmul {x y : Int64} {v : Int64} {rest : List Value} {pc2 : Nat} (hd : decode b pc = .ok (.lmul, 1)) (hpc : pc + 1 = pc2) (hv : x * y = v) (r : own_Go P b pc2 L (.long v :: rest) pcE LE SE) : own_Go P b pc L (.long y :: .long x :: rest) pcE LE SE := by
  intro tb _ e below T target m c h hx hy hP k; subst hpc; subst hv; exact XS.lmul h hx rfl (hb hy hd) rfl (r tb e below T target m c h hx hy hP k)
theorem own_land {x y : Int64} {v : Int64} {rest : List Value} {pc2 : Nat} (hd : decode b pc = .ok (.land, 1)) (hpc : pc + 1 = pc2) (hv : x &&& y = v) (r : own_Go P b pc2 L (.long v :: rest) pcE LE SE) : own_Go P b pc L (.long y :: .long x :: rest) pcE LE SE := by
  intro tb _ e below T target m c h hx hy hP k; subst hpc; subst hv; exact XS.land h hx rfl (hb hy hd) rfl (r tb e below T target m c h hx hy hP k)
theorem own_lor {x y : Int64} {v : Int64} {rest : List Value} {pc2 : Nat} (hd : decode b pc = .ok (.lor, 1)) (hpc : pc + 1 = pc2) (hv : x ||| y = v) (r : own_Go P b pc2 L (.long v :: rest) pcE LE SE) : own_Go P b pc L (.long y :: .long x :: rest) pcE LE SE := by
  intro tb _ e below T target m c h hx hy hP k; subst hpc; subst hv; exact XS.lor h hx rfl (hb hy hd) rfl (r tb e below T target m c h hx hy hP k)
theorem own_lxor {x y : Int64} {v : Int64} {rest : List Value} {pc2 : Nat} (hd : decode b pc = .ok (.lxor, 1)) (hpc : pc + 1 = pc2) (hv : x ^^^ y = v) (r : own_Go P b pc2 L (.long v :: rest) pcE LE SE) : own_Go P b pc L (.long y :: .long x :: rest) pcE LE SE := by
  intro tb _ e below T target m c h hx hy hP k; subst hpc; subst hv; exact XS.lxor h hx rfl (hb hy hd) rfl (r tb e below T target m c h hx hy hP k)
theorem own_ldiv {x y : Int64} {v : Int64} {rest : List Value} {pc2 : Nat} (hd : decode b pc = .ok (.ldiv, 1)) (hpc : pc + 1 = pc2) (hn : y ≠ 0) (hv : x / y = v) (r : own_Go P b pc2 L (.long v :: rest) pcE LE SE) : own_Go P b pc L (.long y :: .long x :: rest) pcE LE SE := by
  intro tb _ e below T target m c h hx hy hP k; subst hpc; subst hv; exact XS.ldiv h hx rfl (hb hy hd) rfl hn (r tb e below T target m c h hx hy hP k)
theorem own_lrem {x y : Int64} {v : Int64} {rest : List Value} {pc2 : Nat} (hd : decode b pc = .ok (.lrem, 1)) (hpc : pc + 1 = pc2) (hn : y ≠ 0) (hv : x - (x / y) * y = v) (r : own_Go P b pc2 L (.long v :: rest) pcE LE SE) : own_Go P b pc L (.long y :: .long x :: rest) pcE LE SE := by
  intro tb _ e below T target m c h hx hy hP k; subst hpc; subst hv; exact XS.lrem h hx rfl (hb hy hd) rfl hn (r tb e below T target m c h hx hy hP k)
theorem own_lshl {x : Int64} {y : Int32} {v : Int64} {rest : List Value} {pc2 : Nat} (hd : decode b pc = .ok (.lshl, 1)) (hpc : pc + 1 = pc2) (hv : x <<< (y &&& 0x3f).toInt64 = v) (r : own_Go P b pc2 L (.long v :: rest) pcE LE SE) : own_Go P b pc L (.int y :: .long x :: rest) pcE LE SE := by
  intro tb _ e below T target m c h hx hy hP k; subst hpc; subst hv; exact XS.lshl h hx rfl (hb hy hd) rfl (r tb e below T target m c h hx hy hP k)
theorem own_lshr {x : Int64} {y : Int32} {v : Int64} {rest : List Value} {pc2 : Nat} (hd : decode b pc = .ok (.lshr, 1)) (hpc : pc + 1 = pc2) (hv : x >>> (y &&& 0x3f).toInt64 = v) (r : own_Go P b pc2 L (.long v :: rest) pcE LE SE) : own_Go P b pc L (.int y :: .long x :: rest) pcE LE SE := by
  intro tb _ e below T target m c h hx hy hP k; subst hpc; subst hv; exact XS.lshr h hx rfl (hb hy hd) rfl (r tb e below T target m c h hx hy hP k)
theorem own_lushr {x : Int64} {y : Int32} {v : Int64} {rest : List Value} {pc2 : Nat} (hd : decode b pc = .ok (.lushr, 1)) (hpc : pc + 1 = pc2) (hv : (x.toUInt64 >>> (y &&& 0x3f).toInt64.toUInt64).toInt64 = v) (r : own_Go P b pc2 L (.long v :: rest) pcE LE SE) : own_Go P b pc L (.int y :: .long x :: rest) pcE LE SE := by
  intro tb _ e below T target m c h hx hy hP k; subst hpc; subst hv; exact XS.lushr h hx rfl (hb hy hd) rfl (r tb e below T target m c h hx hy hP k)
theorem own_lcmp {x y : Int64} {v : Int32} {rest : List Value} {pc2 : Nat} (hd : decode b pc = .ok (.lcmp, 1)) (hpc : pc + 1 = pc2) (hv : (if x > y then 1 else if x = y then 0 else -1) = v) (r : own_Go P b pc2 L (.int v :: rest) pcE LE SE) : own_Go P b pc L (.long y :: .long x :: rest) pcE LE SE := by
  intro tb _ e below T target m c h hx hy hP k; subst hpc; subst hv; exact XS.lcmp h hx rfl (hb hy hd) rfl (r tb e below T target m c h hx hy hP k)
theorem own_ineg {x : Int32} {v : Int32} {rest : List Value} {pc2 : Nat} (hd : decode b pc = .ok (.ineg, 1)) (hpc : pc + 1 = pc2) (hv : -x = v) (r : own_Go P b pc2 L (.int v :: rest) pcE LE SE) : own_Go P b pc L (.int x :: rest) pcE LE SE := by
  intro tb _ e below T target m c h hx hy hP k; subst hpc; subst hv; exact XS.ineg h hx rfl (hb hy hd) rfl (r tb e below T target m c h hx hy hP k)
theorem own_lneg {x : Int64} {v : Int64} {rest : List Value} {pc2 : Nat} (hd : decode b pc = .ok (.lneg, 1)) (hpc : pc + 1 = pc2) (hv : -x = v) (r : own_Go P b pc2 L (.long v :: rest) pcE LE SE) : own_Go P b pc L (.long x :: rest) pcE LE SE := by
  intro tb _ e below T target m c h hx hy hP k; subst hpc; subst hv; exact XS.lneg h hx rfl (hb hy hd) rfl (r tb e below T target m c h hx hy hP k)
theorem own_i2l {x : Int32} {v : Int64} {rest : List Value} {pc2 : Nat} (hd : decode b pc = .ok (.i2l, 1)) (hpc : pc + 1 = pc2) (hv : x.toInt64 = v) (r : own_Go P b pc2 L (.long v :: rest) pcE LE SE) : own_Go P b pc L (.int x :: rest) pcE LE SE := by
  intro tb _ e below T target m c h hx hy hP k; subst hpc; subst hv; exact XS.i2l h hx rfl (hb hy hd) rfl (r tb e below T target m c h hx hy hP k)
theorem own_l2i {x : Int64} {v : Int32} {rest : List Value} {pc2 : Nat} (hd : decode b pc = .ok (.l2i, 1)) (hpc : pc + 1 = pc2) (hv : x.toInt32 = v) (r : own_Go P b pc2 L (.int v :: rest) pcE LE SE) : own_Go P b pc L (.long x :: rest) pcE LE SE := by
  intro tb _ e below T target m c h hx hy hP k; subst hpc; subst hv; exact XS.l2i h hx rfl (hb hy hd) rfl (r tb e below T target m c h hx hy hP k)
theorem own_i2b {x : Int32} {v : Int32} {rest : List Value} {pc2 : Nat} (hd : decode b pc = .ok (.i2b, 1)) (hpc : pc + 1 = pc2) (hv : x.toInt8.toInt32 = v) (r : own_Go P b pc2 L (.int v :: rest) pcE LE SE) : own_Go P b pc L (.int x :: rest) pcE LE SE := by
  intro tb _ e below T target m c h hx hy hP k; subst hpc; subst hv; exact XS.i2b h hx rfl (hb hy hd) rfl (r tb e below T target m c h hx hy hP k)
theorem own_i2c {x : Int32} {v : Int32} {rest : List Value} {pc2 : Nat} (hd : decode b pc = .ok (.i2c, 1)) (hpc : pc + 1 = pc2) (hv : x.toUInt32.toUInt16.toUInt32.toInt32 = v) (r : own_Go P b pc2 L (.int v :: rest) pcE LE SE) : own_Go P b pc L (.int x :: rest) pcE LE SE := by
  intro tb _ e below T target m c h hx hy hP k; subst hpc; subst hv; exact XS.i2c h hx rfl (hb hy hd) rfl (r tb e below T target m c h hx hy hP k)
theorem own_i2d {x : Int32} {v : UInt64} {rest : List Value} {pc2 : Nat} (hd : decode b pc = .ok (.i2d, 1)) (hpc : pc + 1 = pc2) (hv : FP.i2d x = v) (r : own_Go P b pc2 L (.double v :: rest) pcE LE SE) : own_Go P b pc L (.int x :: rest) pcE LE SE := by
  intro tb _ e below T target m c h hx hy hP k; subst hpc; subst hv; exact XS.i2dS h hx rfl (hb hy hd) rfl rfl (r tb e below T target m c h hx hy hP k)
theorem own_l2d {x : Int64} {v : UInt64} {rest : List Value} {pc2 : Nat} (hd : decode b pc = .ok (.l2d, 1)) (hpc : pc + 1 = pc2) (hv : FP.l2d x = v) (r : own_Go P b pc2 L (.double v :: rest) pcE LE SE) : own_Go P b pc L (.long x :: rest) pcE LE SE := by
  intro tb _ e below T target m c h hx hy hP k; subst hpc; subst hv; exact XS.l2dS h hx rfl (hb hy hd) rfl rfl (r tb e below T target m c h hx hy hP k)
theorem own_d2i {x : UInt64} {v : Int32} {rest : List Value} {pc2 : Nat} (hd : decode b pc = .ok (.d2i, 1)) (hpc : pc + 1 = pc2) (hv : FP.d2i x = v) (r : own_Go P b pc2 L (.int v :: rest) pcE LE SE) : own_Go P b pc L (.double x :: rest) pcE LE SE := by
  intro tb _ e below T target m c h hx hy hP k; subst hpc; subst hv; exact XS.d2iS h hx rfl (hb hy hd) rfl rfl (r tb e below T target m c h hx hy hP k)
theorem own_d2l {x : UInt64} {v : Int64} {rest : List Value} {pc2 : Nat} (hd : decode b pc = .ok (.d2l, 1)) (hpc : pc + 1 = pc2) (hv : FP.d2l x = v) (r : own_Go P b pc2 L (.long v :: rest) pcE LE SE) : own_Go P b pc L (.double x :: rest) pcE LE SE := by
  intro tb _ e below T target m c h hx hy hP k; subst hpc; subst hv; exact XS.d2lS h hx rfl (hb hy hd) rfl rfl (r tb e below T target m c h hx hy hP k)
theorem own_dneg {x : UInt64} {v : UInt64} {rest : List Value} {pc2 : Nat} (hd : decode b pc = .ok (.dneg, 1)) (hpc : pc + 1 = pc2) (hv : FP.dneg x = v) (r : own_Go P b pc2 L (.double v :: rest) pcE LE SE) : own_Go P b pc L (.double x :: rest) pcE LE SE := by
  intro tb _ e below T target m c h hx hy hP k; subst hpc; subst hv; exact XS.dnegS h hx rfl (hb hy hd) rfl rfl (r tb e below T target m c h hx hy hP k)
theorem own_dcmp {o : CmpOp} {x y : UInt64} {v : Int32} {rest : List Value} {pc2 : Nat} (hd : decode b pc = .ok (.dcmp o, 1)) (hpc : pc + 1 = pc2) (hv : cmpValue (FP.dcmp x y) o = v) (r : own_Go P b pc2 L (.int v :: rest) pcE LE SE) : own_Go P b pc L (.double y :: .double x :: rest) pcE LE SE := by
  intro tb _ e below T target m c h hx hy hP k; subst hpc; subst hv; exact XS.dcmpS h hx rfl (hb hy hd) rfl rfl (r tb e below T target m c h hx hy hP k)
theorem own_dadd {x y : UInt64} {v : UInt64} {rest : List Value} {pc2 : Nat} (hd : decode b pc = .ok (.dadd, 1)) (hpc : pc + 1 = pc2) (hn : NoNaN64 (FP.dadd x y)) (hv : FP.dadd x y = v) (r : own_Go P b pc2 L (.double v :: rest) pcE LE SE) : own_Go P b pc L (.double y :: .double x :: rest) pcE LE SE := by
  intro tb _ e below T target m c h hx hy hP k; subst hpc; subst hv; exact XS.daddS h hx rfl (hb hy hd) rfl hn rfl (r tb e below T target m c h hx hy hP k)
theorem own_dsub {x y : UInt64} {v : UInt64} {rest : List Value} {pc2 : Nat} (hd : decode b pc = .ok (.dsub, 1)) (hpc : pc + 1 = pc2) (hn : NoNaN64 (FP.dsub x y)) (hv : FP.dsub x y = v) (r : own_Go P b pc2 L (.double v :: rest) pcE LE SE) : own_Go P b pc L (.double y :: .double x :: rest) pcE LE SE := by
  intro tb _ e below T target m c h hx hy hP k; subst hpc; subst hv; exact XS.dsubS h hx rfl (hb hy hd) rfl hn rfl (r tb e below T target m c h hx hy hP k)
theorem own_dmul {x y : UInt64} {v : UInt64} {rest : List Value} {pc2 : Nat} (hd : decode b pc = .ok (.dmul, 1)) (hpc : pc + 1 = pc2) (hn : NoNaN64 (FP.dmul x y)) (hv : FP.dmul x y = v) (r : own_Go P b pc2 L (.double v :: rest) pcE LE SE) : own_Go P b pc L (.double y :: .double x :: rest) pcE LE SE := by
  intro tb _ e below T target m c h hx hy hP k; subst hpc; subst hv; exact XS.dmulS h hx rfl (hb hy hd) rfl hn rfl (r tb e below T target m c h hx hy hP k)
theorem own_ddiv {x y : UInt64} {v : UInt64} {rest : List Value} {pc2 : Nat} (hd : decode b pc = .ok (.ddiv, 1)) (hpc : pc + 1 = pc2) (hn : NoNaN64 (FP.ddiv x y)) (hv : FP.ddiv x y = v) (r : own_Go P b pc2 L (.double v :: rest) pcE LE SE) : own_Go P b pc L (.double y :: .double x :: rest) pcE LE SE := by
  intro tb _ e below T target m c h hx hy hP k; subst hpc; subst hv; exact XS.ddivS h hx rfl (hb hy hd) rfl hn rfl (r tb e below T target m c h hx hy hP k)
theorem own_dup {v : Value} {rest : List Value} {pc2 : Nat} (hd : decode b pc = .ok (.dup, 1)) (hpc : pc + 1 = pc2) (hc : v.category = 1) (r : own_Go P b pc2 L (v :: v :: rest) pcE LE SE) : own_Go P b pc L (v :: rest) pcE LE SE := by
  intro tb _ e below T target m c h hx hy hP k; subst hpc; exact XS.dup h hx rfl (hb hy hd) rfl hc (r tb e below T target m c h hx hy hP k)
theorem own_pop {v : Value} {rest : List Value} {pc2 : Nat} (hd : decode b pc = .ok (.pop, 1)) (hpc : pc + 1 = pc2) (hc : v.category = 1) (r : own_Go P b pc2 L (rest) pcE LE SE) : own_Go P b pc L (v :: rest) pcE LE SE := by
  intro tb _ e below T target m c h hx hy hP k; subst hpc; exact XS.pop h hx rfl (hb hy hd) rfl hc (r tb e below T target m c h hx hy hP k)
theorem own_dupX1 {v w : Value} {rest : List Value} {pc2 : Nat} (hd : decode b pc = .ok (.dup_x1, 1)) (hpc : pc + 1 = pc2) (hc : v.category = 1) (hc' : w.category = 1) (r : own_Go P b pc2 L (v :: w :: v :: rest) pcE LE SE) : own_Go P b pc L (v :: w :: rest) pcE LE SE := by
  intro tb _ e below T target m c h hx hy hP k; subst hpc; exact XS.dupX1 h hx rfl (hb hy hd) rfl hc hc' (r tb e below T target m c h hx hy hP k)
theorem own_dup2 {v w : Value} {rest : List Value} {pc2 : Nat} (hd : decode b pc = .ok (.dup2, 1)) (hpc : pc + 1 = pc2) (hc : v.category = 1) (hc' : w.category = 1) (r : own_Go P b pc2 L (v :: w :: v :: w :: rest) pcE LE SE) : own_Go P b pc L (v :: w :: rest) pcE LE SE := by
  intro tb _ e below T target m c h hx hy hP k; subst hpc; exact XT.dup2 h hx rfl (hb hy hd) rfl hc hc' (r tb e below T target m c h hx hy hP k)
theorem own_ifYes {cd : ClassFile.Cond} {x : Int32} {o : Int} {pc' : Nat} {rest : List Value} (hd : decode b pc = .ok (.ifCond cd o, 3)) (hc : ifCond.holds cd x = true) (ho : 0 ≤ (pc : Int) + o) (hp : ((pc : Int) + o).toNat = pc') (r : own_Go P b pc' L rest pcE LE SE) : own_Go P b pc L (.int x :: rest) pcE LE SE := by
  intro tb _ e below T target m c h hx hy hP k; exact XS.ifYes h hx rfl rfl (hb hy hd) rfl hc ho hp (r tb e below T target m c h hx hy hP k)
theorem own_ifNo {cd : ClassFile.Cond} {x : Int32} {o : Int} {rest : List Value} {pc2 : Nat} (hd : decode b pc = .ok (.ifCond cd o, 3)) (hpc : pc + 3 = pc2) (hc : ifCond.holds cd x = false) (r : own_Go P b pc2 L rest pcE LE SE) : own_Go P b pc L (.int x :: rest) pcE LE SE := by
  intro tb _ e below T target m c h hx hy hP k; subst hpc; exact XS.ifNo h hx rfl (hb hy hd) rfl hc (r tb e below T target m c h hx hy hP k)
theorem own_icmpYes {cd : ClassFile.Cond} {x y : Int32} {o : Int} {pc' : Nat} {rest : List Value} (hd : decode b pc = .ok (.if_icmp cd o, 3)) (hc : if_icmp.holds cd x y = true) (ho : 0 ≤ (pc : Int) + o) (hp : ((pc : Int) + o).toNat = pc') (r : own_Go P b pc' L rest pcE LE SE) : own_Go P b pc L (.int y :: .int x :: rest) pcE LE SE := by
  intro tb _ e below T target m c h hx hy hP k; exact XS.icmpYes h hx rfl rfl (hb hy hd) rfl hc ho hp (r tb e below T target m c h hx hy hP k)
theorem own_icmpNo {cd : ClassFile.Cond} {x y : Int32} {o : Int} {rest : List Value} {pc2 : Nat} (hd : decode b pc = .ok (.if_icmp cd o, 3)) (hpc : pc + 3 = pc2) (hc : if_icmp.holds cd x y = false) (r : own_Go P b pc2 L rest pcE LE SE) : own_Go P b pc L (.int y :: .int x :: rest) pcE LE SE := by
  intro tb _ e below T target m c h hx hy hP k; subst hpc; exact XS.icmpNo h hx rfl (hb hy hd) rfl hc (r tb e below T target m c h hx hy hP k)
theorem own_ifnullYes {o : Int} {pc' : Nat} {rest : List Value} (hd : decode b pc = .ok (.ifnull o, 3)) (ho : 0 ≤ (pc : Int) + o) (hp : ((pc : Int) + o).toNat = pc') (r : own_Go P b pc' L rest pcE LE SE) : own_Go P b pc L (.null :: rest) pcE LE SE := by
  intro tb _ e below T target m c h hx hy hP k; exact XS.ifnullYes h hx rfl rfl (hb hy hd) rfl ho hp (r tb e below T target m c h hx hy hP k)
theorem own_ifnullNo {o : Int} {a : Addr} {rest : List Value} {pc2 : Nat} (hd : decode b pc = .ok (.ifnull o, 3)) (hpc : pc + 3 = pc2) (r : own_Go P b pc2 L rest pcE LE SE) : own_Go P b pc L (.ref a :: rest) pcE LE SE := by
  intro tb _ e below T target m c h hx hy hP k; subst hpc; exact XS.ifnullNo h hx rfl (hb hy hd) rfl (r tb e below T target m c h hx hy hP k)
theorem own_ifnonnullYes {o : Int} {pc' : Nat} {a : Addr} {rest : List Value} (hd : decode b pc = .ok (.ifnonnull o, 3)) (ho : 0 ≤ (pc : Int) + o) (hp : ((pc : Int) + o).toNat = pc') (r : own_Go P b pc' L rest pcE LE SE) : own_Go P b pc L (.ref a :: rest) pcE LE SE := by
  intro tb _ e below T target m c h hx hy hP k; exact XS.ifnonnullYes h hx rfl rfl (hb hy hd) rfl ho hp (r tb e below T target m c h hx hy hP k)
theorem own_ifnonnullNo {o : Int} {rest : List Value} {pc2 : Nat} (hd : decode b pc = .ok (.ifnonnull o, 3)) (hpc : pc + 3 = pc2) (r : own_Go P b pc2 L rest pcE LE SE) : own_Go P b pc L (.null :: rest) pcE LE SE := by
  intro tb _ e below T target m c h hx hy hP k; subst hpc; exact XS.ifnonnullNo h hx rfl (hb hy hd) rfl (r tb e below T target m c h hx hy hP k)
theorem own_acmpYes {cd : ClassFile.ACond} {x y : Addr} {o : Int} {pc' : Nat} {rest : List Value} (hd : decode b pc = .ok (.if_acmp cd o, 3)) (hc : if_acmp.holds cd (some x) (some y) = true) (ho : 0 ≤ (pc : Int) + o) (hp : ((pc : Int) + o).toNat = pc') (r : own_Go P b pc' L rest pcE LE SE) : own_Go P b pc L (.ref y :: .ref x :: rest) pcE LE SE := by
  intro tb _ e below T target m c h hx hy hP k; exact XS.acmpYes h hx rfl rfl (hb hy hd) rfl hc ho hp (r tb e below T target m c h hx hy hP k)
theorem own_acmpNo {cd : ClassFile.ACond} {x y : Addr} {o : Int} {rest : List Value} {pc2 : Nat} (hd : decode b pc = .ok (.if_acmp cd o, 3)) (hpc : pc + 3 = pc2) (hc : if_acmp.holds cd (some x) (some y) = false) (r : own_Go P b pc2 L rest pcE LE SE) : own_Go P b pc L (.ref y :: .ref x :: rest) pcE LE SE := by
  intro tb _ e below T target m c h hx hy hP k; subst hpc; exact XS.acmpNo h hx rfl (hb hy hd) rfl hc (r tb e below T target m c h hx hy hP k)
theorem own_goto {o : Int} {pc' : Nat} (hd : decode b pc = .ok (.goto o, 3)) (ho : 0 ≤ (pc : Int) + o) (hp : ((pc : Int) + o).toNat = pc') (r : own_Go P b pc' L S pcE LE SE) : own_Go P b pc L S pcE LE SE := by
  intro tb _ e below T target m c h hx hy hP k; exact XS.goto h hx rfl rfl (hb hy hd) ho hp (r tb e below T target m c h hx hy hP k)
theorem own_iinc {j : Nat} {cst : Int} {x v : Int32} {pc2 : Nat} (hd : decode b pc = .ok (.iinc j cst, 3)) (hpc : pc + 3 = pc2) (hl : L[j]? = some (.val (.int x))) (hv : x + Int32.ofInt cst = v) (hl' : storeLocals L j (.int v) = some L') (r : own_Go P b pc2 L' S pcE LE SE) : own_Go P b pc L S pcE LE SE := by
  intro tb _ e below T target m c h hx hy hP k; subst hpc; subst hv; exact XS.iinc h hx rfl (hb hy hd) hl hl' (r tb e below T target m c h hx hy hP k)
theorem own_ldc {i : Nat} {v : Int32} {pc2 : Nat} (hd : decode b pc = .ok (.ldc i, 2)) (hpc : pc + 2 = pc2) (hk : (i, Value.int v) ∈ P) (r : own_Go P b pc2 L (.int v :: S) pcE LE SE) : own_Go P b pc L S pcE LE SE := by
  intro tb _ e below T target m c h hx hy hP k; subst hpc; exact (hP _ hk (mkF m pc L S) target rfl).1 ⟨_, rfl⟩ (hb hy hd) (r tb e below T target m c h hx hy hP k)
theorem own_ldcW {i : Nat} {v : Int32} {pc2 : Nat} (hd : decode b pc = .ok (.ldc_w i, 3)) (hpc : pc + 3 = pc2) (hk : (i, Value.int v) ∈ P) (r : own_Go P b pc2 L (.int v :: S) pcE LE SE) : own_Go P b pc L S pcE LE SE := by
  intro tb _ e below T target m c h hx hy hP k; subst hpc; exact (hP _ hk (mkF m pc L S) target rfl).2.1 ⟨_, rfl⟩ (hb hy hd) (r tb e below T target m c h hx hy hP k)
theorem own_ldc2L {i : Nat} {v : Int64} {pc2 : Nat} (hd : decode b pc = .ok (.ldc2_w i, 3)) (hpc : pc + 3 = pc2) (hk : (i, Value.long v) ∈ P) (r : own_Go P b pc2 L (.long v :: S) pcE LE SE) : own_Go P b pc L S pcE LE SE := by
  intro tb _ e below T target m c h hx hy hP k; subst hpc; exact (hP _ hk (mkF m pc L S) target rfl).2.2 (Or.inl ⟨_, rfl⟩) (hb hy hd) (r tb e below T target m c h hx hy hP k)
theorem own_ldc2D {i : Nat} {v : UInt64} {pc2 : Nat} (hd : decode b pc = .ok (.ldc2_w i, 3)) (hpc : pc + 3 = pc2) (hk : (i, Value.double v) ∈ P) (r : own_Go P b pc2 L (.double v :: S) pcE LE SE) : own_Go P b pc L S pcE LE SE := by
  intro tb _ e below T target m c h hx hy hP k; subst hpc; exact (hP _ hk (mkF m pc L S) target rfl).2.2 (Or.inr ⟨_, rfl⟩) (hb hy hd) (r tb e below T target m c h hx hy hP k)
end OwnWalk
section OwnPool
open Jvm.Free Jvm.Stand
variable {p : Program} {l : Launch} {e : Env} {R : Room} {s : State} {m : MethodId} {args : Array Value} {below : List Frame} {meth : Method} {c : Code} {T : State} {locs : List Loc} {cells slots : Nat} {Z : State} {a0 : Array Value}
def own_Word (own : String) (i : Nat) : Value → Jvm.Cond → Prop
  | .int v, w => w = .constant own i v
  | .long v, w => w = .constantLong own i v
  | .double v, w => w = .constantDouble own i v
  | _, _ => False
theorem own_pool1 (X : Stand p l e R s m args below meth c T locs cells slots) (hx : p.tables.exec = Jvm.exec) (hZ : Z.Warmed39 s.vm) {own : String} (hown : s.vm.findClass own = some m.cls) {i : Nat} {v : Value} {w : Jvm.Cond} (hv : own_Word own i v w) (hw : w.before a0 Z = true) : own_Ldc p.tables e below T m c i v := by
  intro g target hg
  cases v with
  | int v =>
    cases (show w = .constant own i v from hv)
    exact ⟨fun _ hd k => X.ldcInt hx hown (mvT hZ hw) hg hd target k, fun _ hd k => X.ldcwInt hx hown (mvT hZ hw) hg hd target k, fun h => (by rcases h with ⟨_, h⟩ | ⟨_, h⟩ <;> cases h)⟩
  | long v =>
    cases (show w = .constantLong own i v from hv)
    exact ⟨fun h => (by obtain ⟨_, h⟩ := h; cases h), fun h => (by obtain ⟨_, h⟩ := h; cases h), fun _ hd k => X.ldc2Long hx hown (mvT hZ hw) hg hd target k⟩
  | double v =>
    cases (show w = .constantDouble own i v from hv)
    exact ⟨fun h => (by obtain ⟨_, h⟩ := h; cases h), fun h => (by obtain ⟨_, h⟩ := h; cases h), fun _ hd k => X.ldc2DoubleC hx hown (mvT hZ hw) hg hd target k⟩
  | _ => exact absurd hv (fun h => h)
theorem own_pool (X : Stand p l e R s m args below meth c T locs cells slots) (hx : p.tables.exec = Jvm.exec) (hZ : Z.Warmed39 s.vm) {own : String} (hown : s.vm.findClass own = some m.cls) {ws : List Jvm.Cond} (hw : ∀ d ∈ ws, d.before a0 Z = true) {P : List (Nat × Value)} (hP : ∀ q ∈ P, ∃ w ∈ ws, own_Word own q.1 q.2 w) : ∀ q ∈ P, own_Ldc p.tables e below T m c q.1 q.2 := by
  intro q hq
  obtain ⟨w, h1, h2⟩ := hP q hq
  exact own_pool1 X hx hZ hown h2 (hw w h1)
end OwnPool
/-! the call layer: a method that leaves the heap as it was, and its call -/
section OwnCall
open Jvm.Free Jvm.Stand Jvm.LawKit Jvm.RoadKit
variable {p : Program} {l : Launch} {e : Env} {R : Room} {s : State} {m : MethodId} {args : Array Value} {below : List Frame} {meth : Method} {c : Code} {T : State} {locs : List Loc} {cells slots : Nat} {Z : State} {a0 : Array Value} {h : Heap}
abbrev own_room (fr lo : Nat) : Room := { frames := fr, cells := 0, slots := 0, locals := lo }
def own_Pure (l : Launch) (Z : State) (y : MethodName) (bytes : ByteArray) (maxL : Nat) (ret : Option FieldType) (fr lo : Nat) (as' : Array Value) (h : Heap) (v : Option Value) : Prop :=
  MetFree l y (head1 [Jvm.Cond.code y bytes maxL ret] (own_room fr lo)) (fun a U => a = as' ∧ Z.Warmed39 U.vm ∧ U.heap = h) (fun _ _ _ _ _ => True) (fun _ U o U' => ∃ w L, o = .returned w ∧ (w = v ∧ L = [] ∧ U'.heap = h) ∧ FrameEnd U o U' L (own_room fr lo).cells (own_room fr lo).slots)
def own_Ret (i : Instr) (t : FieldType) (w : Value) : Prop := narrow t w = w ∧ ((i = .ireturn ∧ (t = .int ∨ t = .boolean ∨ t = .byte ∨ t = .char ∨ t = .short) ∧ ∃ z, w = .int z) ∨ (i = .lreturn ∧ t = .long ∧ ∃ z, w = .long z) ∨ (i = .dreturn ∧ t = .double ∧ ∃ z, w = .double z) ∨ (i = .freturn ∧ t = .float ∧ ∃ z, w = .float z) ∨ (i = .areturn ∧ t.isReference = true ∧ w.isRef = true))
theorem own_retD (x : UInt64) : own_Ret .dreturn .double (.double x) := ⟨rfl, Or.inr (Or.inr (Or.inl ⟨rfl, rfl, x, rfl⟩))⟩
theorem own_retI (x : Int32) : own_Ret .ireturn .int (.int x) := ⟨rfl, Or.inl ⟨rfl, Or.inl rfl, x, rfl⟩⟩
theorem own_retJ (x : Int64) : own_Ret .lreturn .long (.long x) := ⟨rfl, Or.inr (Or.inl ⟨rfl, rfl, x, rfl⟩)⟩
theorem own_retZ {x : Int32} (hx : x = 0 ∨ x = 1) : own_Ret .ireturn .boolean (.int x) := ⟨by rcases hx with rfl | rfl <;> rfl, Or.inl ⟨rfl, Or.inr (Or.inl rfl), x, rfl⟩⟩
theorem own_pure_go {y : MethodName} {bytes : ByteArray} {maxL : Nat} {t : FieldType} {as' : Array Value} {P : List (Nat × Value)} {L0 LR : Array Slot} {SR : List Value} {pcR : Nat} {val : Value} {i : Instr} {ws : List Jvm.Cond} (hpl : plainName y.cls = true) (hw : ∀ d ∈ ws, d.before a0 Z = true) (hP : ∀ q ∈ P, ∃ w ∈ ws, own_Word y.cls q.1 q.2 w)
    (hef : ∀ m, entryFrame m as' maxL = mkF m 0 L0 []) (body : own_Go P bytes 0 L0 [] pcR LR (val :: SR)) (hd : decode bytes pcR = .ok (i, 1)) (hr : own_Ret i t val) : own_Pure l Z y bytes maxL (some t) 0 0 as' h (some val) := by
  refine MetFree.of_bodySF (plainFor_of_name hpl) hisR ?_
  intro p e s m args below meth c s₁ Bd hml0 hPP hK
  obtain ⟨rfl, hZ, hh⟩ := hPP
  have hx := Bd.exec
  have hby := Bd.bytes
  have hown : s.vm.findClass y.cls = some m.cls := findClass_of_methodNamed Bd.named
  have X0 : Stand p l e (own_room 0 0) s m _ below meth c s₁ [] 0 0 := Stand.of_body Bd
  have e0 : s₁.heap = h := by rw [← hh, Bd.state]; rfl
  obtain ⟨fs, hr', hrun, hended, hW, hsame⟩ := X0.leave (v := some val) (fun h => by rw [Bd.returns] at h; cases h)
  refine ⟨_, _, castTop (hef m) (body p.tables e below s₁ _ m c X0.here hx hby (own_pool X0 hx hZ hown hw hP) (retOut X0 hx Bd.returns hr.1 hr.2 (hb hby hd) hr')), hrun, hended, _, _, rfl, ⟨rfl, rfl, ?_⟩, ⟨_, rfl⟩, hW, hsame⟩
  exact e0
theorem own_callP (X : Stand p l e R s m args below meth c T locs cells slots) (hx : p.tables.exec = Jvm.exec) (hZ : Z.Warmed39 s.vm) {own : String} {index : Nat} {y : MethodName} {bytes : ByteArray} {maxL : Nat} {ret : Option FieldType} (hown : s.vm.findClass own = some m.cls)
    (w1 : (Jvm.Cond.methodLink own index y).before a0 Z = true) (w2 : (Jvm.Cond.static y).before a0 Z = true) (w3 : (Jvm.Cond.initialized y.cls).before a0 Z = true) (w4 : (Jvm.Cond.code y bytes maxL ret).before a0 Z = true) (hy : y.cls ≠ "java/lang/invoke/MethodHandle" ∧ y.cls ≠ "java/lang/invoke/VarHandle")
    (eT : T.heap = h) {fr lo W : Nat} {argsL rest : List Value} {v : Option Value} (hM : own_Pure l Z y bytes maxL ret fr lo argsL.toArray h v) (hf : fr + 1 ≤ R.frames) (hl : W + (maxL + 11) + lo ≤ R.locals) (hc : cells ≤ R.cells) (hs : slots ≤ R.slots)
    {g : JFrame} (hg : g.method = m) (hsize : g.locals.size = c.maxLocals) (hlen : ∀ sig, parseMethodDescriptor y.desc = some sig → argsL.length = sig.parameters.length) (hst : g.stack = argsL.reverse ++ rest) (hW : 2 * g.monitorRoom + (rest.map fun v => v.category).sum ≤ W) (hd : decode c.code g.pc = .ok (.invokestatic index, 3)) :
    ∃ T', Stand p l e R s m args below meth c T' locs cells slots ∧ T'.heap = h ∧ ∀ target, Steps p.tables e below (T'.setTop { g with pc := g.pc + 3, stack := v.toList ++ rest }) target → Steps p.tables e below (T.setTop g) target := by
  obtain ⟨v', vm1, ⟨T2, L2, k2, n2⟩, -, X2, ⟨Lc, hQ, l2, y2, z2⟩, st⟩ := Jvm.LawKit.callS X hx hown (mvT hZ w1) (mvT hZ w2) (mvT hZ w3) (mvT hZ w4) hy (backOf (W := W) (rm := own_room fr lo) (Q := fun w H L => w = v ∧ L = [] ∧ H = h) hM hZ w4 w3 hf hl) hg hsize hlen hst hW hd (fun _ _ => ⟨rfl, eT, hc, hs⟩)
  dsimp only [Pt.U, Pt.locs, Pt.cells, Pt.slots] at X2 l2 y2 z2 st hQ
  obtain ⟨rfl, rfl, e2⟩ := hQ
  subst l2 y2 z2
  rw [List.append_nil] at X2
  exact ⟨T2, X2, e2, st⟩
end OwnCall
section OwnClaim
open Jvm.Free.Fl
theorem d1_0 : decode prog_53_method_4_code 0 = .ok (.dload_n 0, 1) := by decide +kernel
theorem d1_1 : decode prog_53_method_4_code 1 = .ok (.dconst 0, 1) := by decide +kernel
theorem d1_2 : decode prog_53_method_4_code 2 = .ok (.dcmp .l, 1) := by decide +kernel
theorem d1_3 : decode prog_53_method_4_code 3 = .ok (.ifCond .lt 15, 3) := by decide +kernel
theorem d1_6 : decode prog_53_method_4_code 6 = .ok (.dload_n 0, 1) := by decide +kernel
theorem d1_7 : decode prog_53_method_4_code 7 = .ok (.ldc2_w 184, 3) := by decide +kernel
theorem d1_10 : decode prog_53_method_4_code 10 = .ok (.dcmp .g, 1) := by decide +kernel
theorem d1_11 : decode prog_53_method_4_code 11 = .ok (.ifCond .ge 7, 3) := by decide +kernel
theorem d1_14 : decode prog_53_method_4_code 14 = .ok (.iconst 1, 1) := by decide +kernel
theorem d1_15 : decode prog_53_method_4_code 15 = .ok (.goto 4, 3) := by decide +kernel
theorem d1_18 : decode prog_53_method_4_code 18 = .ok (.iconst 0, 1) := by decide +kernel
theorem d1_19 : decode prog_53_method_4_code 19 = .ok (.ireturn, 1) := by decide +kernel
def own_K0 : List (Nat × Value) := [(7, .double 4652218415073722368), (21, .double 9223372036854775809), (9, .double 9218868437227405312), (11, .double 18442240474082181120), (19, .double 1), (13, .double 9223372036854775808), (17, .double 18442240474082181119), (15, .double 9218868437227405311)]
theorem own_K0_ok : ∀ q ∈ own_K0, ∃ w ∈ tables_1, own_Word "com/example/glacis/glacis/solvers/SpanningTreeGameIsCostPinLaw" q.1 q.2 w := by
  intro q hq
  simp only [own_K0, List.mem_cons, List.not_mem_nil, or_false] at hq
  rcases hq with rfl | rfl | rfl | rfl | rfl | rfl | rfl | rfl
  · exact ⟨_, List.mem_of_getElem? (i := 5) rfl, rfl⟩
  · exact ⟨_, List.mem_of_getElem? (i := 6) rfl, rfl⟩
  · exact ⟨_, List.mem_of_getElem? (i := 7) rfl, rfl⟩
  · exact ⟨_, List.mem_of_getElem? (i := 8) rfl, rfl⟩
  · exact ⟨_, List.mem_of_getElem? (i := 9) rfl, rfl⟩
  · exact ⟨_, List.mem_of_getElem? (i := 10) rfl, rfl⟩
  · exact ⟨_, List.mem_of_getElem? (i := 11) rfl, rfl⟩
  · exact ⟨_, List.mem_of_getElem? (i := 12) rfl, rfl⟩
def own_K1 : List (Nat × Value) := [(184, .double 9218868437227405312)]
theorem own_K1_ok : ∀ q ∈ own_K1, ∃ w ∈ tables_1, own_Word "com/example/glacis/glacis/solvers/SpanningTreeGame" q.1 q.2 w := by
  intro q hq
  simp only [own_K1, List.mem_cons, List.not_mem_nil, or_false] at hq
  rcases hq with rfl
  · exact ⟨_, List.mem_of_getElem? (i := 4) rfl, rfl⟩
theorem own_pn0 : plainName "com/example/glacis/glacis/solvers/SpanningTreeGameIsCostPinLaw" = true := by first | (simp [plainName, overriddenIn]; done) | decide +kernel
theorem own_pn1 : plainName "com/example/glacis/glacis/solvers/SpanningTreeGame" = true := by first | (simp [plainName, overriddenIn]; done) | decide +kernel
theorem own_pd1 : parseMethodDescriptor "(D)Z" = some ⟨[.double], some .boolean⟩ := by decide +kernel
theorem own_ef0 (m : MethodId) (x0 : Int32) (x1 : Int64) : entryFrame m #[(.int x0), (.long x1)] maxLocals = mkF m 0 #[.val (.int x0), .val (.long x1), .second, .unset, .unset, .unset, .unset, .unset] [] := by first | (simp [entryFrame, mkF, argsToLocals, Value.category, maxLocals]; done) | rfl
theorem own_ef1 (m : MethodId) (x0 : UInt64) : entryFrame m #[(.double x0)] 2 = mkF m 0 #[.val (.double x0), .second] [] := by first | (simp [entryFrame, mkF, argsToLocals, Value.category]; done) | rfl
theorem own_s0 (kd : Int32) (x : Int64) (k : Int32) (hk : (kd &&& (7 : Int32)) = k) (b : Int64) (hb : (x &&& (1 : Int64)) = b) (cb : Int32) (hcb : (if b > (0 : Int64) then (1 : Int32) else if b = (0 : Int64) then 0 else -1) = cb) :
    own_Go own_K0 code 0 #[.val (.int kd), .val (.long x), .second, .unset, .unset, .unset, .unset, .unset] [] 20 #[.val (.int kd), .val (.long x), .second, .val (.int k), .val (.int (bif ifCond.holds .ne cb then (0 : Int32) else (1 : Int32))), .unset, .unset, .unset] [] := by
  refine own_iloadN (pc2 := 1) at_0 rfl rfl ?_
  refine own_bipush (v := 7) (pc2 := 3) at_1 rfl rfl ?_
  refine own_iand (pc2 := 4) at_3 rfl (v := k) hk ?_
  refine own_istoreN (pc2 := 5) at_4 rfl (L' := #[.val (.int kd), .val (.long x), .second, .val (.int k), .unset, .unset, .unset, .unset]) rfl ?_
  refine own_lloadN (pc2 := 6) at_5 rfl rfl ?_
  refine own_lconst (v := 1) (pc2 := 7) at_6 rfl rfl ?_
  refine own_land (pc2 := 8) at_7 rfl (v := b) hb ?_
  refine own_lconst (v := 0) (pc2 := 9) at_8 rfl rfl ?_
  refine own_lcmp (pc2 := 10) at_9 rfl (v := cb) hcb ?_
  cases hb10 : ifCond.holds .ne cb
  · refine own_ifNo (pc2 := 13) at_10 rfl hb10 ?_
    refine own_iconst (v := 1) (pc2 := 14) at_13 rfl rfl ?_
    refine own_goto (pc' := 18) at_14 (by decide) (by decide) ?_
    refine own_istore (pc2 := 20) at_18 rfl (L' := #[.val (.int kd), .val (.long x), .second, .val (.int k), .val (.int (1 : Int32)), .unset, .unset, .unset]) rfl ?_
    exact own_refl
  · refine own_ifYes (pc' := 17) at_10 hb10 (by decide) (by decide) ?_
    refine own_iconst (v := 0) (pc2 := 18) at_17 rfl rfl ?_
    refine own_istore (pc2 := 20) at_18 rfl (L' := #[.val (.int kd), .val (.long x), .second, .val (.int k), .val (.int (0 : Int32)), .unset, .unset, .unset]) rfl ?_
    exact own_refl
def own_ev (cb : Int32) : Int32 := (bif ifCond.holds .ne cb then (0 : Int32) else (1 : Int32))
theorem own_s1 (kd k ev : Int32) (x : Int64) (nn55 : NoNaN64 (FP.ddiv (FP.l2d x) (4652218415073722368 : UInt64))) :
    own_Go own_K0 code 20 #[.val (.int kd), .val (.long x), .second, .val (.int k), .val (.int ev), .unset, .unset, .unset] [] 182 #[.val (.int kd), .val (.long x), .second, .val (.int k), .val (.int ev), .val (.double (bif if_icmp.holds .gt k (1 : Int32) then (bif if_icmp.holds .ne k (2 : Int32) then (bif if_icmp.holds .ne k (3 : Int32) then (bif if_icmp.holds .ne k (4 : Int32) then (bif if_icmp.holds .ne k (5 : Int32) then (bif if_icmp.holds .ne k (6 : Int32) then (bif ifCond.holds .eq ev then (9223372036854775809 : UInt64) else (1 : UInt64)) else (bif ifCond.holds .eq ev then (18442240474082181119 : UInt64) else (9218868437227405311 : UInt64))) else (bif ifCond.holds .eq ev then (0 : UInt64) else (9223372036854775808 : UInt64))) else (18442240474082181120 : UInt64)) else (9218868437227405312 : UInt64)) else (FP.ddiv (FP.l2d x) (4652218415073722368 : UInt64))) else (FP.l2d x))), .second, .val (.int (bif if_icmp.holds .gt k (1 : Int32) then (bif if_icmp.holds .ne k (2 : Int32) then (bif if_icmp.holds .ne k (3 : Int32) then (bif if_icmp.holds .ne k (4 : Int32) then (bif if_icmp.holds .ne k (5 : Int32) then ev else (1 : Int32)) else (0 : Int32)) else (0 : Int32)) else (bif ifCond.holds .lt (if x > (0 : Int64) then (1 : Int32) else if x = (0 : Int64) then 0 else -1) then (0 : Int32) else (1 : Int32))) else (bif ifCond.holds .lt (if x > (0 : Int64) then (1 : Int32) else if x = (0 : Int64) then 0 else -1) then (0 : Int32) else (1 : Int32))))] [(.double (bif if_icmp.holds .gt k (1 : Int32) then (bif if_icmp.holds .ne k (2 : Int32) then (bif if_icmp.holds .ne k (3 : Int32) then (bif if_icmp.holds .ne k (4 : Int32) then (bif if_icmp.holds .ne k (5 : Int32) then (bif if_icmp.holds .ne k (6 : Int32) then (bif ifCond.holds .eq ev then (9223372036854775809 : UInt64) else (1 : UInt64)) else (bif ifCond.holds .eq ev then (18442240474082181119 : UInt64) else (9218868437227405311 : UInt64))) else (bif ifCond.holds .eq ev then (0 : UInt64) else (9223372036854775808 : UInt64))) else (18442240474082181120 : UInt64)) else (9218868437227405312 : UInt64)) else (FP.ddiv (FP.l2d x) (4652218415073722368 : UInt64))) else (FP.l2d x)))] := by
  refine own_iloadN (pc2 := 21) at_20 rfl rfl ?_
  refine own_iconst (v := 1) (pc2 := 22) at_21 rfl rfl ?_
  cases hb22 : if_icmp.holds .gt k (1 : Int32)
  · refine own_icmpNo (pc2 := 25) at_22 rfl hb22 ?_
    refine own_lloadN (pc2 := 26) at_25 rfl rfl ?_
    refine own_l2d (pc2 := 27) at_26 rfl (v := (FP.l2d x)) rfl ?_
    refine own_dstore (pc2 := 29) at_27 rfl (L' := #[.val (.int kd), .val (.long x), .second, .val (.int k), .val (.int ev), .val (.double (FP.l2d x)), .second, .unset]) rfl ?_
    refine own_lloadN (pc2 := 30) at_29 rfl rfl ?_
    refine own_lconst (v := 0) (pc2 := 31) at_30 rfl rfl ?_
    refine own_lcmp (pc2 := 32) at_31 rfl (v := (if x > (0 : Int64) then (1 : Int32) else if x = (0 : Int64) then 0 else -1)) rfl ?_
    cases hb32 : ifCond.holds .lt (if x > (0 : Int64) then (1 : Int32) else if x = (0 : Int64) then 0 else -1)
    · refine own_ifNo (pc2 := 35) at_32 rfl hb32 ?_
      refine own_iconst (v := 1) (pc2 := 36) at_35 rfl rfl ?_
      refine own_goto (pc' := 40) at_36 (by decide) (by decide) ?_
      refine own_istore (pc2 := 42) at_40 rfl (L' := #[.val (.int kd), .val (.long x), .second, .val (.int k), .val (.int ev), .val (.double (FP.l2d x)), .second, .val (.int (1 : Int32))]) rfl ?_
      refine own_goto (pc' := 180) at_42 (by decide) (by decide) ?_
      refine own_dload (pc2 := 182) at_180 rfl rfl ?_
      exact own_refl
    · refine own_ifYes (pc' := 39) at_32 hb32 (by decide) (by decide) ?_
      refine own_iconst (v := 0) (pc2 := 40) at_39 rfl rfl ?_
      refine own_istore (pc2 := 42) at_40 rfl (L' := #[.val (.int kd), .val (.long x), .second, .val (.int k), .val (.int ev), .val (.double (FP.l2d x)), .second, .val (.int (0 : Int32))]) rfl ?_
      refine own_goto (pc' := 180) at_42 (by decide) (by decide) ?_
      refine own_dload (pc2 := 182) at_180 rfl rfl ?_
      exact own_refl
  · refine own_icmpYes (pc' := 45) at_22 hb22 (by decide) (by decide) ?_
    refine own_iloadN (pc2 := 46) at_45 rfl rfl ?_
    refine own_iconst (v := 2) (pc2 := 47) at_46 rfl rfl ?_
    cases hb47 : if_icmp.holds .ne k (2 : Int32)
    · refine own_icmpNo (pc2 := 50) at_47 rfl hb47 ?_
      refine own_lloadN (pc2 := 51) at_50 rfl rfl ?_
      refine own_l2d (pc2 := 52) at_51 rfl (v := (FP.l2d x)) rfl ?_
      refine own_ldc2D (v := (4652218415073722368 : UInt64)) (pc2 := 55) at_52 rfl (List.mem_of_getElem? (i := 0) rfl) ?_
      refine own_ddiv (pc2 := 56) at_55 rfl nn55 (v := (FP.ddiv (FP.l2d x) (4652218415073722368 : UInt64))) rfl ?_
      refine own_dstore (pc2 := 58) at_56 rfl (L' := #[.val (.int kd), .val (.long x), .second, .val (.int k), .val (.int ev), .val (.double (FP.ddiv (FP.l2d x) (4652218415073722368 : UInt64))), .second, .unset]) rfl ?_
      refine own_lloadN (pc2 := 59) at_58 rfl rfl ?_
      refine own_lconst (v := 0) (pc2 := 60) at_59 rfl rfl ?_
      refine own_lcmp (pc2 := 61) at_60 rfl (v := (if x > (0 : Int64) then (1 : Int32) else if x = (0 : Int64) then 0 else -1)) rfl ?_
      cases hb61 : ifCond.holds .lt (if x > (0 : Int64) then (1 : Int32) else if x = (0 : Int64) then 0 else -1)
      · refine own_ifNo (pc2 := 64) at_61 rfl hb61 ?_
        refine own_iconst (v := 1) (pc2 := 65) at_64 rfl rfl ?_
        refine own_goto (pc' := 69) at_65 (by decide) (by decide) ?_
        refine own_istore (pc2 := 71) at_69 rfl (L' := #[.val (.int kd), .val (.long x), .second, .val (.int k), .val (.int ev), .val (.double (FP.ddiv (FP.l2d x) (4652218415073722368 : UInt64))), .second, .val (.int (1 : Int32))]) rfl ?_
        refine own_goto (pc' := 180) at_71 (by decide) (by decide) ?_
        refine own_dload (pc2 := 182) at_180 rfl rfl ?_
        exact own_refl
      · refine own_ifYes (pc' := 68) at_61 hb61 (by decide) (by decide) ?_
        refine own_iconst (v := 0) (pc2 := 69) at_68 rfl rfl ?_
        refine own_istore (pc2 := 71) at_69 rfl (L' := #[.val (.int kd), .val (.long x), .second, .val (.int k), .val (.int ev), .val (.double (FP.ddiv (FP.l2d x) (4652218415073722368 : UInt64))), .second, .val (.int (0 : Int32))]) rfl ?_
        refine own_goto (pc' := 180) at_71 (by decide) (by decide) ?_
        refine own_dload (pc2 := 182) at_180 rfl rfl ?_
        exact own_refl
    · refine own_icmpYes (pc' := 74) at_47 hb47 (by decide) (by decide) ?_
      refine own_iloadN (pc2 := 75) at_74 rfl rfl ?_
      refine own_iconst (v := 3) (pc2 := 76) at_75 rfl rfl ?_
      cases hb76 : if_icmp.holds .ne k (3 : Int32)
      · refine own_icmpNo (pc2 := 79) at_76 rfl hb76 ?_
        refine own_ldc2D (v := (9218868437227405312 : UInt64)) (pc2 := 82) at_79 rfl (List.mem_of_getElem? (i := 2) rfl) ?_
        refine own_dstore (pc2 := 84) at_82 rfl (L' := #[.val (.int kd), .val (.long x), .second, .val (.int k), .val (.int ev), .val (.double (9218868437227405312 : UInt64)), .second, .unset]) rfl ?_
        refine own_iconst (v := 0) (pc2 := 85) at_84 rfl rfl ?_
        refine own_istore (pc2 := 87) at_85 rfl (L' := #[.val (.int kd), .val (.long x), .second, .val (.int k), .val (.int ev), .val (.double (9218868437227405312 : UInt64)), .second, .val (.int (0 : Int32))]) rfl ?_
        refine own_goto (pc' := 180) at_87 (by decide) (by decide) ?_
        refine own_dload (pc2 := 182) at_180 rfl rfl ?_
        exact own_refl
      · refine own_icmpYes (pc' := 90) at_76 hb76 (by decide) (by decide) ?_
        refine own_iloadN (pc2 := 91) at_90 rfl rfl ?_
        refine own_iconst (v := 4) (pc2 := 92) at_91 rfl rfl ?_
        cases hb92 : if_icmp.holds .ne k (4 : Int32)
        · refine own_icmpNo (pc2 := 95) at_92 rfl hb92 ?_
          refine own_ldc2D (v := (18442240474082181120 : UInt64)) (pc2 := 98) at_95 rfl (List.mem_of_getElem? (i := 3) rfl) ?_
          refine own_dstore (pc2 := 100) at_98 rfl (L' := #[.val (.int kd), .val (.long x), .second, .val (.int k), .val (.int ev), .val (.double (18442240474082181120 : UInt64)), .second, .unset]) rfl ?_
          refine own_iconst (v := 0) (pc2 := 101) at_100 rfl rfl ?_
          refine own_istore (pc2 := 103) at_101 rfl (L' := #[.val (.int kd), .val (.long x), .second, .val (.int k), .val (.int ev), .val (.double (18442240474082181120 : UInt64)), .second, .val (.int (0 : Int32))]) rfl ?_
          refine own_goto (pc' := 180) at_103 (by decide) (by decide) ?_
          refine own_dload (pc2 := 182) at_180 rfl rfl ?_
          exact own_refl
        · refine own_icmpYes (pc' := 106) at_92 hb92 (by decide) (by decide) ?_
          refine own_iloadN (pc2 := 107) at_106 rfl rfl ?_
          refine own_iconst (v := 5) (pc2 := 108) at_107 rfl rfl ?_
          cases hb108 : if_icmp.holds .ne k (5 : Int32)
          · refine own_icmpNo (pc2 := 111) at_108 rfl hb108 ?_
            refine own_iload (pc2 := 113) at_111 rfl rfl ?_
            cases hb113 : ifCond.holds .eq ev
            · refine own_ifNo (pc2 := 116) at_113 rfl hb113 ?_
              refine own_ldc2D (v := (9223372036854775808 : UInt64)) (pc2 := 119) at_116 rfl (List.mem_of_getElem? (i := 5) rfl) ?_
              refine own_goto (pc' := 123) at_119 (by decide) (by decide) ?_
              refine own_dstore (pc2 := 125) at_123 rfl (L' := #[.val (.int kd), .val (.long x), .second, .val (.int k), .val (.int ev), .val (.double (9223372036854775808 : UInt64)), .second, .unset]) rfl ?_
              refine own_iconst (v := 1) (pc2 := 126) at_125 rfl rfl ?_
              refine own_istore (pc2 := 128) at_126 rfl (L' := #[.val (.int kd), .val (.long x), .second, .val (.int k), .val (.int ev), .val (.double (9223372036854775808 : UInt64)), .second, .val (.int (1 : Int32))]) rfl ?_
              refine own_goto (pc' := 180) at_128 (by decide) (by decide) ?_
              refine own_dload (pc2 := 182) at_180 rfl rfl ?_
              exact own_refl
            · refine own_ifYes (pc' := 122) at_113 hb113 (by decide) (by decide) ?_
              refine own_dconst0 (v := 0) (pc2 := 123) at_122 rfl rfl ?_
              refine own_dstore (pc2 := 125) at_123 rfl (L' := #[.val (.int kd), .val (.long x), .second, .val (.int k), .val (.int ev), .val (.double (0 : UInt64)), .second, .unset]) rfl ?_
              refine own_iconst (v := 1) (pc2 := 126) at_125 rfl rfl ?_
              refine own_istore (pc2 := 128) at_126 rfl (L' := #[.val (.int kd), .val (.long x), .second, .val (.int k), .val (.int ev), .val (.double (0 : UInt64)), .second, .val (.int (1 : Int32))]) rfl ?_
              refine own_goto (pc' := 180) at_128 (by decide) (by decide) ?_
              refine own_dload (pc2 := 182) at_180 rfl rfl ?_
              exact own_refl
          · refine own_icmpYes (pc' := 131) at_108 hb108 (by decide) (by decide) ?_
            refine own_iloadN (pc2 := 132) at_131 rfl rfl ?_
            refine own_bipush (v := 6) (pc2 := 134) at_132 rfl rfl ?_
            cases hb134 : if_icmp.holds .ne k (6 : Int32)
            · refine own_icmpNo (pc2 := 137) at_134 rfl hb134 ?_
              refine own_iload (pc2 := 139) at_137 rfl rfl ?_
              cases hb139 : ifCond.holds .eq ev
              · refine own_ifNo (pc2 := 142) at_139 rfl hb139 ?_
                refine own_ldc2D (v := (9218868437227405311 : UInt64)) (pc2 := 145) at_142 rfl (List.mem_of_getElem? (i := 7) rfl) ?_
                refine own_goto (pc' := 151) at_145 (by decide) (by decide) ?_
                refine own_dstore (pc2 := 153) at_151 rfl (L' := #[.val (.int kd), .val (.long x), .second, .val (.int k), .val (.int ev), .val (.double (9218868437227405311 : UInt64)), .second, .unset]) rfl ?_
                refine own_iload (pc2 := 155) at_153 rfl rfl ?_
                refine own_istore (pc2 := 157) at_155 rfl (L' := #[.val (.int kd), .val (.long x), .second, .val (.int k), .val (.int ev), .val (.double (9218868437227405311 : UInt64)), .second, .val (.int ev)]) rfl ?_
                refine own_goto (pc' := 180) at_157 (by decide) (by decide) ?_
                refine own_dload (pc2 := 182) at_180 rfl rfl ?_
                exact own_refl
              · refine own_ifYes (pc' := 148) at_139 hb139 (by decide) (by decide) ?_
                refine own_ldc2D (v := (18442240474082181119 : UInt64)) (pc2 := 151) at_148 rfl (List.mem_of_getElem? (i := 6) rfl) ?_
                refine own_dstore (pc2 := 153) at_151 rfl (L' := #[.val (.int kd), .val (.long x), .second, .val (.int k), .val (.int ev), .val (.double (18442240474082181119 : UInt64)), .second, .unset]) rfl ?_
                refine own_iload (pc2 := 155) at_153 rfl rfl ?_
                refine own_istore (pc2 := 157) at_155 rfl (L' := #[.val (.int kd), .val (.long x), .second, .val (.int k), .val (.int ev), .val (.double (18442240474082181119 : UInt64)), .second, .val (.int ev)]) rfl ?_
                refine own_goto (pc' := 180) at_157 (by decide) (by decide) ?_
                refine own_dload (pc2 := 182) at_180 rfl rfl ?_
                exact own_refl
            · refine own_icmpYes (pc' := 160) at_134 hb134 (by decide) (by decide) ?_
              refine own_iload (pc2 := 162) at_160 rfl rfl ?_
              cases hb162 : ifCond.holds .eq ev
              · refine own_ifNo (pc2 := 165) at_162 rfl hb162 ?_
                refine own_ldc2D (v := (1 : UInt64)) (pc2 := 168) at_165 rfl (List.mem_of_getElem? (i := 4) rfl) ?_
                refine own_goto (pc' := 174) at_168 (by decide) (by decide) ?_
                refine own_dstore (pc2 := 176) at_174 rfl (L' := #[.val (.int kd), .val (.long x), .second, .val (.int k), .val (.int ev), .val (.double (1 : UInt64)), .second, .unset]) rfl ?_
                refine own_iload (pc2 := 178) at_176 rfl rfl ?_
                refine own_istore (pc2 := 180) at_178 rfl (L' := #[.val (.int kd), .val (.long x), .second, .val (.int k), .val (.int ev), .val (.double (1 : UInt64)), .second, .val (.int ev)]) rfl ?_
                refine own_dload (pc2 := 182) at_180 rfl rfl ?_
                exact own_refl
              · refine own_ifYes (pc' := 171) at_162 hb162 (by decide) (by decide) ?_
                refine own_ldc2D (v := (9223372036854775809 : UInt64)) (pc2 := 174) at_171 rfl (List.mem_of_getElem? (i := 1) rfl) ?_
                refine own_dstore (pc2 := 176) at_174 rfl (L' := #[.val (.int kd), .val (.long x), .second, .val (.int k), .val (.int ev), .val (.double (9223372036854775809 : UInt64)), .second, .unset]) rfl ?_
                refine own_iload (pc2 := 178) at_176 rfl rfl ?_
                refine own_istore (pc2 := 180) at_178 rfl (L' := #[.val (.int kd), .val (.long x), .second, .val (.int k), .val (.int ev), .val (.double (9223372036854775809 : UInt64)), .second, .val (.int ev)]) rfl ?_
                refine own_dload (pc2 := 182) at_180 rfl rfl ?_
                exact own_refl
def own_cval (k ev : Int32) (x : Int64) : UInt64 := (bif if_icmp.holds .gt k (1 : Int32) then (bif if_icmp.holds .ne k (2 : Int32) then (bif if_icmp.holds .ne k (3 : Int32) then (bif if_icmp.holds .ne k (4 : Int32) then (bif if_icmp.holds .ne k (5 : Int32) then (bif if_icmp.holds .ne k (6 : Int32) then (bif ifCond.holds .eq ev then (9223372036854775809 : UInt64) else (1 : UInt64)) else (bif ifCond.holds .eq ev then (18442240474082181119 : UInt64) else (9218868437227405311 : UInt64))) else (bif ifCond.holds .eq ev then (0 : UInt64) else (9223372036854775808 : UInt64))) else (18442240474082181120 : UInt64)) else (9218868437227405312 : UInt64)) else (FP.ddiv (FP.l2d x) (4652218415073722368 : UInt64))) else (FP.l2d x))
def own_exp (k ev : Int32) (x : Int64) : Int32 := (bif if_icmp.holds .gt k (1 : Int32) then (bif if_icmp.holds .ne k (2 : Int32) then (bif if_icmp.holds .ne k (3 : Int32) then (bif if_icmp.holds .ne k (4 : Int32) then (bif if_icmp.holds .ne k (5 : Int32) then ev else (1 : Int32)) else (0 : Int32)) else (0 : Int32)) else (bif ifCond.holds .lt (if x > (0 : Int64) then (1 : Int32) else if x = (0 : Int64) then 0 else -1) then (0 : Int32) else (1 : Int32))) else (bif ifCond.holds .lt (if x > (0 : Int64) then (1 : Int32) else if x = (0 : Int64) then 0 else -1) then (0 : Int32) else (1 : Int32)))
theorem own_t (x : UInt64) :
    own_Go own_K1 prog_53_method_4_code 0 #[.val (.double x), .second] [] 19 #[.val (.double x), .second] [(.int (bif ifCond.holds .lt (cmpValue (FP.dcmp x (0 : UInt64)) .l) then (0 : Int32) else (bif ifCond.holds .ge (cmpValue (FP.dcmp x (9218868437227405312 : UInt64)) .g) then (0 : Int32) else (1 : Int32))))] := by
  refine own_dloadN (pc2 := 1) d1_0 rfl rfl ?_
  refine own_dconst0 (v := 0) (pc2 := 2) d1_1 rfl rfl ?_
  refine own_dcmp (pc2 := 3) d1_2 rfl (v := (cmpValue (FP.dcmp x (0 : UInt64)) .l)) rfl ?_
  cases hb3 : ifCond.holds .lt (cmpValue (FP.dcmp x (0 : UInt64)) .l)
  · refine own_ifNo (pc2 := 6) d1_3 rfl hb3 ?_
    refine own_dloadN (pc2 := 7) d1_6 rfl rfl ?_
    refine own_ldc2D (v := (9218868437227405312 : UInt64)) (pc2 := 10) d1_7 rfl (List.mem_of_getElem? (i := 0) rfl) ?_
    refine own_dcmp (pc2 := 11) d1_10 rfl (v := (cmpValue (FP.dcmp x (9218868437227405312 : UInt64)) .g)) rfl ?_
    cases hb11 : ifCond.holds .ge (cmpValue (FP.dcmp x (9218868437227405312 : UInt64)) .g)
    · refine own_ifNo (pc2 := 14) d1_11 rfl hb11 ?_
      refine own_iconst (v := 1) (pc2 := 15) d1_14 rfl rfl ?_
      refine own_goto (pc' := 19) d1_15 (by decide) (by decide) ?_
      exact own_refl
    · refine own_ifYes (pc' := 18) d1_11 hb11 (by decide) (by decide) ?_
      refine own_iconst (v := 0) (pc2 := 19) d1_18 rfl rfl ?_
      exact own_refl
  · refine own_ifYes (pc' := 18) d1_3 hb3 (by decide) (by decide) ?_
    refine own_iconst (v := 0) (pc2 := 19) d1_18 rfl rfl ?_
    exact own_refl
def own_cost (x : UInt64) : Int32 := (bif ifCond.holds .lt (cmpValue (FP.dcmp x (0 : UInt64)) .l) then (0 : Int32) else (bif ifCond.holds .ge (cmpValue (FP.dcmp x (9218868437227405312 : UInt64)) .g) then (0 : Int32) else (1 : Int32)))
theorem own_s2 (kd k ev e r : Int32) (x : Int64) (c : UInt64) :
    own_Go own_K0 code 185 #[.val (.int kd), .val (.long x), .second, .val (.int k), .val (.int ev), .val (.double c), .second, .val (.int e)] [(.int r)] 195 #[.val (.int kd), .val (.long x), .second, .val (.int k), .val (.int ev), .val (.double c), .second, .val (.int e)] [(.int (bif if_icmp.holds .ne r e then (0 : Int32) else (1 : Int32)))] := by
  refine own_iload (pc2 := 187) at_185 rfl rfl ?_
  cases hb187 : if_icmp.holds .ne r e
  · refine own_icmpNo (pc2 := 190) at_187 rfl hb187 ?_
    refine own_iconst (v := 1) (pc2 := 191) at_190 rfl rfl ?_
    refine own_goto (pc' := 195) at_191 (by decide) (by decide) ?_
    exact own_refl
  · refine own_icmpYes (pc' := 194) at_187 hb187 (by decide) (by decide) ?_
    refine own_iconst (v := 0) (pc2 := 195) at_194 rfl rfl ?_
    exact own_refl

theorem own_bits {b b' : Bool} : (bif b then (0 : Int32) else (bif b' then (0 : Int32) else (1 : Int32))) = 0 ∨ (bif b then (0 : Int32) else (bif b' then (0 : Int32) else (1 : Int32))) = 1 := by cases b <;> cases b' <;> decide
theorem own_cost01 (x : UInt64) : own_cost x = 0 ∨ own_cost x = 1 := own_bits
theorem own_met (l : Launch) (Z : State) (a0 : Array Value) (hw : ∀ d ∈ tables_1, d.before a0 Z = true) (h : Heap) (x : UInt64) : own_Pure l Z (⟨"com/example/glacis/glacis/solvers/SpanningTreeGame", "isCost", "(D)Z"⟩ : MethodName) prog_53_method_4_code 2 (some .boolean) 0 0 #[.double x] h (some (.int (own_cost x))) :=
  own_pure_go own_pn1 hw own_K1_ok (fun m => own_ef1 m x) (own_t x) d1_19 (own_retZ (own_cost01 x))
theorem own_cost_is {c : UInt64} {v : Rat} (h : own_is c v) : own_cost c = bif decide (v < 0) then 0 else 1 := by
  unfold own_cost
  rw [own_c_lt h own_zero, dcmp_pinf (own_is_fin h)]
  rfl
theorem own_1024 : own_is 4652218415073722368 1024 := ⟨false, 2 ^ 52, -42, by decide +kernel, by decide +kernel⟩
theorem own_rdx {c : UInt64} {r : Rat} (h : own_rd c r) (u1 : r ≤ 9223372036854775808) (u2 : -9223372036854775808 ≤ r) (u3 : r < 0 → r ≤ -1 / 1024) : ∃ v, own_is c v ∧ (v < 0 ↔ r < 0) ∧ own_cost c = bif decide (r < 0) then 0 else 1 := by
  obtain ⟨v, hv⟩ := own_rd_finN h (by grind) (by grind)
  have key : v < 0 ↔ r < 0 := by
    obtain ⟨V, hV⟩ := own_rep (m := -1) (k := -10) (by decide) (by decide) (by decide)
    have e10 : ((-1 : Int) : Rat) * (2 : Rat) ^ (-10 : Int) = -1 / 1024 := by decide +kernel
    rw [e10] at hV
    constructor
    · intro q
      refine Rat.not_le.mp fun q2 => ?_
      have := own_rd_ge' h hv own_zero q2
      grind
    · intro q
      have := own_rd_le' h hv hV (u3 q)
      grind
  refine ⟨v, hv, key, ?_⟩
  rw [own_cost_is hv]
  congr 1
  exact decide_eq_decide.mpr key
theorem own_lval (x : Int64) : ∃ v, own_is (FP.l2d x) v ∧ (v < 0 ↔ x.toInt < 0) ∧ own_cost (FP.l2d x) = (bif decide (x.toInt < 0) then 0 else 1) ∧ v ≤ 9223372036854775808 ∧ -9223372036854775808 ≤ v ∧ (v < 0 → v ≤ -1) := by
  have h := own_rdL x
  have h1 := x.le_toInt
  have h2 := x.toInt_lt
  generalize x.toInt = a at *
  have a1 : (-9223372036854775808 : Rat) ≤ ((a : Int) : Rat) := (show ((-9223372036854775808 : Int) : Rat) ≤ ((a : Int) : Rat) from Rat.intCast_le_intCast.mpr (by omega))
  have a2 : ((a : Int) : Rat) ≤ 9223372036854775808 := (show ((a : Int) : Rat) ≤ ((9223372036854775808 : Int) : Rat) from Rat.intCast_le_intCast.mpr (by omega))
  have a3 : ((a : Int) : Rat) < 0 → ((a : Int) : Rat) ≤ -1 := fun q => by
    have q1 : a < 0 := Rat.intCast_neg_iff.mp q
    exact (show ((a : Int) : Rat) ≤ ((-1 : Int) : Rat) from Rat.intCast_le_intCast.mpr (by omega))
  have a4 : ((a : Int) : Rat) < 0 ↔ a < 0 := Rat.intCast_neg_iff
  obtain ⟨v, hv, k1, k2⟩ := own_rdx h a2 a1 (fun q => by have := a3 q; grind)
  obtain ⟨V, hV⟩ := own_rep' (r := 9223372036854775808) (m := 1) (k := 63) (by decide +kernel) (by decide) (by decide) (by decide)
  obtain ⟨W, hW⟩ := own_rep' (r := -1) (m := -1) (k := 0) (by decide +kernel) (by decide) (by decide) (by decide)
  refine ⟨v, hv, k1.trans a4, ?_, own_rd_le' h hv hV a2, own_rd_ge' h hv (own_neg hV) a1, fun q => own_rd_le' h hv hW (a3 (k1.mp q))⟩
  rw [k2]
  congr 1
  exact decide_eq_decide.mpr a4
theorem own_qval (x : Int64) : ∃ r, own_rd (FP.ddiv (FP.l2d x) 4652218415073722368) r ∧ own_cost (FP.ddiv (FP.l2d x) 4652218415073722368) = (bif decide (x.toInt < 0) then 0 else 1) := by
  obtain ⟨v, hv, k1, -, k3, k4, k5⟩ := own_lval x
  have h := own_div hv own_1024 (by decide)
  refine ⟨_, h, ?_⟩
  have hp : (0 : Rat) < 1024 := by decide
  have e : v / 1024 < 0 ↔ v < 0 := by
    rw [Rat.div_lt_iff hp, Rat.zero_mul]
  obtain ⟨-, -, -, k2⟩ := own_rdx h (by rw [own_div_le hp]; grind) (by rw [own_le_div hp]; grind) (fun q => by rw [own_div_le hp]; have := k5 (e.mp q); grind)
  rw [k2]
  congr 1
  exact decide_eq_decide.mpr (e.trans k1)
theorem own_cost_l (x : Int64) : own_cost (FP.l2d x) = bif decide (x.toInt < 0) then 0 else 1 := by
  obtain ⟨v, -, -, h, -⟩ := own_lval x; exact h
theorem own_cost_q (x : Int64) : own_cost (FP.ddiv (FP.l2d x) 4652218415073722368) = bif decide (x.toInt < 0) then 0 else 1 := by
  obtain ⟨v, -, h⟩ := own_qval x; exact h
theorem own_q_no (x : Int64) : NoNaN64 (FP.ddiv (FP.l2d x) 4652218415073722368) := by
  obtain ⟨v, h, -⟩ := own_qval x; exact own_rd_no h
theorem own_plain (k ev : Int32) (x : Int64) (h : ev = 0 ∨ ev = 1) : own_cost (own_cval k ev x) = own_exp k ev x := by
  have c1 : own_cost 9218868437227405312 = 0 := by decide +kernel
  have c2 : own_cost 18442240474082181120 = 0 := by decide +kernel
  have c3 : own_cost 9223372036854775808 = 1 := by decide +kernel
  have c4 : own_cost 0 = 1 := by decide +kernel
  have c5 : own_cost 9218868437227405311 = 1 := by decide +kernel
  have c6 : own_cost 18442240474082181119 = 0 := by decide +kernel
  have c7 : own_cost 1 = 1 := by decide +kernel
  have c8 : own_cost 9223372036854775809 = 0 := by decide +kernel
  have c9 := own_cost_l x
  have c10 := own_cost_q x
  unfold own_cval own_exp
  rw [own_lc_lt]
  rw [show (0 : Int64).toInt = 0 from rfl]
  have z1 : Op.ifCond.holds .eq (0 : Int32) = true := rfl
  have z2 : Op.ifCond.holds .eq (1 : Int32) = false := rfl
  rcases h with rfl | rfl
  all_goals
    simp only [z1, z2]
    cases Op.if_icmp.holds .gt k (1 : Int32) <;> cases Op.if_icmp.holds .ne k (2 : Int32) <;> cases Op.if_icmp.holds .ne k (3 : Int32) <;> cases Op.if_icmp.holds .ne k (4 : Int32) <;> cases Op.if_icmp.holds .ne k (5 : Int32) <;> cases Op.if_icmp.holds .ne k (6 : Int32) <;> simp only [cond_true, cond_false, c1, c2, c3, c4, c5, c6, c7, c8, c9, c10]
set_option maxRecDepth 65536 in
set_option maxHeartbeats 40000000 in
theorem own_law (l : Launch) (Z : State) (a0 : Array Value) (hw : ∀ d ∈ tables_1, d.before a0 Z = true) (ws : List Jvm.Cond) (kd : Int32) (xx : Int64) (h0 : Heap) (n0 : Nat) (Z0 : n0 ≤ h0.size) :
    MetFree l x (head1 (Jvm.Cond.code x code maxLocals ret :: ws) room_1) (fun a U => a = #[(.int kd), (.long xx)] ∧ Z.Warmed39 U.vm ∧ U.heap = h0) (fun _ _ _ _ _ => True) (fun _ U o U' => ∃ v L, o = .returned v ∧ (v = some (.int 1) ∧ Fr n0 L) ∧ FrameEnd U o U' L room_1.cells room_1.slots) := by
  refine MetFree.of_bodySF (plainFor_of_name own_pn0) hisR ?_
  intro p e s m args below meth c s₁ Bd hml0 hP hK
  obtain ⟨rfl, hZ, hh⟩ := hP
  have hx := Bd.exec
  have hby := Bd.bytes
  have hml : c.maxLocals = 8 := hml0
  have hown : s.vm.findClass "com/example/glacis/glacis/solvers/SpanningTreeGameIsCostPinLaw" = some m.cls := findClass_of_methodNamed Bd.named
  have hnm := (name_of_methodNamed Bd.named Bd.method).1
  have X0 : Stand p l e room_1 s m #[(.int kd), (.long xx)] below meth c s₁ [] 0 0 := Stand.of_body Bd
  have e0 : s₁.heap = h0 := by rw [← hh, Bd.state]; rfl
  have N0 := Fr.nil n0
  have pre0 : ∀ t, Steps p.tables e below (s₁.setTop (mkF m 0 #[.val (.int kd), .val (.long xx), .second, .unset, .unset, .unset, .unset, .unset] [])) t → Steps p.tables e below (s₁.setTop (entryFrame m #[(.int kd), (.long xx)] maxLocals)) t := fun t k => castTop (own_ef0 m kd xx) k
  obtain ⟨k, hk⟩ : ∃ k, (kd &&& (7 : Int32)) = k := ⟨_, rfl⟩
  obtain ⟨ev, hev⟩ : ∃ ev, own_ev (if (xx &&& (1 : Int64)) > (0 : Int64) then (1 : Int32) else if (xx &&& (1 : Int64)) = (0 : Int64) then 0 else -1) = ev := ⟨_, rfl⟩
  have h01 : ev = 0 ∨ ev = 1 := by rw [← hev]; unfold own_ev; cases Op.ifCond.holds .ne _ <;> simp
  have hq := own_plain k ev xx h01
  obtain ⟨T1, X1, e1, st1⟩ := own_callP X0 hx hZ hown (hw _ (List.mem_of_getElem? (i := 0) rfl)) (hw _ (List.mem_of_getElem? (i := 1) rfl)) (hw _ (List.mem_of_getElem? (i := 2) rfl)) (hw _ (List.mem_of_getElem? (i := 3) rfl)) (by decide) e0 (argsL := [.double (own_cval k ev xx)]) (rest := []) (W := 0) (own_met l Z a0 hw h0 (own_cval k ev xx)) (by decide) (by decide) (by decide) (by decide) (g := mkF m 182 #[.val (.int kd), .val (.long xx), .second, .val (.int k), .val (.int ev), .val (.double (own_cval k ev xx)), .second, .val (.int (own_exp k ev xx))] [.double (own_cval k ev xx)]) rfl (by rw [hml]; rfl) (lenOf own_pd1 rfl) rfl (by show 2 * 0 + _ ≤ _; exact Nat.le_of_eq rfl) (hb hby at_182)
  obtain ⟨fs, hr, hrun, hended, hW, hsame⟩ := X1.leave (v := some (.int (1 : Int32))) (fun h => by rw [Bd.returns] at h; cases h)
  refine ⟨_, _, pre0 _ ?_, hrun, hended, _, _, rfl, ⟨rfl, N0⟩, ⟨_, rfl⟩, hW, hsame.mono (by decide) (by decide)⟩
  refine own_s0 kd xx k hk _ rfl _ rfl p.tables e below s₁ _ m c X0.here hx hby (own_pool X0 hx hZ hown hw own_K0_ok) ?_
  rw [show (bif Op.ifCond.holds .ne (if (xx &&& (1 : Int64)) > (0 : Int64) then (1 : Int32) else if (xx &&& (1 : Int64)) = (0 : Int64) then 0 else -1) then (0 : Int32) else (1 : Int32)) = ev from hev]
  refine own_s1 kd k ev xx (own_q_no xx) p.tables e below s₁ _ m c X0.here hx hby (own_pool X0 hx hZ hown hw own_K0_ok) ?_
  refine st1 _ ?_
  refine own_s2 kd k ev (own_exp k ev xx) (own_cost (own_cval k ev xx)) xx (own_cval k ev xx) p.tables e below T1 _ m c X1.here hx hby (own_pool X1 hx hZ hown hw own_K0_ok) ?_
  rw [hq, (teq (rfl : own_exp k ev xx = own_exp k ev xx)).2]
  exact retN X1 hx (t := .boolean) Bd.returns (by simp) (hb hby at_195) hr
set_option maxRecDepth 65536 in
set_option maxHeartbeats 40000000 in
theorem own_comes {Post : Tables → Env → Array Value → State → Outcome → State → Prop} (hpost : ∀ tb e args s v u, (limb_1_1.after args s (.returned v) u = true ∧ limb_1_2.after args s (.returned v) u = true ∧ True) → FrameEnd s (.returned v) u (Jvm.fieldLocs frame_1_writes args s ++ Jvm.arrayLocs frame_1_arrays args s ++ Jvm.staticLocs frame_1_statics s) 0 0 → Post tb e args s (.returned v) u) :
    ArmFor flags0 classFile x code maxLocals ret World_1 tables_1 room_1 Calls_1 rest_1 Pre_1 Post := by
  intro l hfl _ _ p e ha hc hk s m args below hf hA hF happ hP
  obtain ⟨hcalls, hrest, hpre⟩ := hP
  obtain ⟨-, -, -, hnamed, -, -, -, hat⟩ := (Spec.applies_iff hf).mp happ
  obtain ⟨hg, hn⟩ := and_e (Cond.before_iff.mp (show (Jvm.Cond.and given_1 narrow_1).before args s = true from hpre))
  obtain ⟨h1, g0⟩ := and_e hg
  obtain ⟨w0, w1, rfl⟩ : ∃ w0 w1 : Value, args = #[w0, w1] := by
    have hs : args.size = 2 := by simpa [Cond.value, given_1] using h1
    obtain ⟨L⟩ := args
    match L, hs with
    | [w0, w1], _ => exact ⟨w0, w1, rfl⟩
  have hw := fun d (hd : d ∈ tables_1) => atoms_spec (ws := Jvm.Cond.code x code maxLocals ret :: tables_1) hat d (List.mem_cons_of_mem _ hd)
  have hfit : Fit s := fun {y c} hc i hi => by
    obtain ⟨ha, rfl⟩ := Array.getElem?_eq_some_iff.mp hc
    have q := List.all_eq_true.mp ((Array.all_eq_true_iff_forall_mem.mp hF) _ (Array.getElem_mem ha)) i (List.mem_range.mpr hi)
    simpa [Array.getElem?_eq_getElem hi] using q
  obtain ⟨f0, g1⟩ := and_e g0
  obtain ⟨i0, e0⟩ := is_v f0
  obtain rfl : w0 = (.int i0) := Option.some.inj e0
  obtain ⟨i1, e1⟩ := isL_v g1
  obtain rfl : w1 = (.long i1) := Option.some.inj e1
  obtain ⟨n, o, h1, h2, h3, _, L, rfl, ⟨rfl, N⟩, hq⟩ := own_law l s _ hw tables_1 i0 i1 s.heap s.heap.size (Nat.le_refl _) p e ha hc hk s m _ below hf ((Spec.applies_iff_loose hf).mp happ).1 ⟨rfl, State.Warmed39.refl s, rfl⟩ trivial
  refine ⟨n, _, h1, h2, h3, hpost _ _ _ _ _ _ ⟨Cond.after_iff.mpr rfl, Cond.after_iff.mpr (eq_i res_at (Term.int_eval (1)) rfl), trivial⟩ ⟨hq.1, hq.2.1, (hq.2.2.sift fun y hy => Or.inr (N y hy)).mono (by decide) (by decide)⟩⟩
theorem main_1_1 : Claimed_1_1 := own_comes fun _ _ _ _ _ _ h hF => ⟨h.1, hF⟩
theorem main_1_2 : Claimed_1_2 := own_comes fun _ _ _ _ _ _ h hF => ⟨h.2.1, hF⟩
end OwnClaim
end Jvm.Pilot.@@N@@
namespace Jvm.Pilot.@@N@@
open Jvm Jvm.ClassFile Sem Op Lib Jvm.Free Jvm.Stand Jvm.Pilot.@@N@@.Jvm.D
/-! MADE BY PROGRAM (witnessworld.py) out of the Statement's table words and the real class files: 9 classes; the members and pool entries that the words name. The judged class is class 1, her method 1. -/
namespace start1
open Jvm.ClassFile
def u (s : String) : CpInfo := .utf8 (stringToUtf16 s)
/-- a pool by its gaps: so many unusable entries, then the entry; so many at the end -/
def gap : Nat → List CpInfo → List CpInfo
  | 0, r => r
  | n + 1, r => .unusable :: gap n r
def poolList (es : List (Nat × CpInfo)) (last : Nat) : List CpInfo := es.foldr (fun e r => gap e.1 (e.2 :: r)) (gap last [])
def pool (es : List (Nat × CpInfo)) (last : Nat) : Array CpInfo := ⟨poolList es last⟩
def fileOf (pool : Array CpInfo) (this : Nat) (attrs : Array Attribute := #[]) (ms : Array MethodInfo := #[]) (fl : Nat := 33) (sup : Nat := 0) (ifs : Array Nat := #[]) (fds : Array FieldInfo := #[]) : ClassFile where
  minorVersion := 0
  majorVersion := 65
  constantPool := pool
  accessFlags := fl
  thisClass := this
  superClass := sup
  interfaces := ifs
  fields := fds
  methods := ms
  attributes := attrs
def plain (name : String) (sup : Option ClassId) : Class where
  name := name
  kind := .ordinary
  loader := none
  accessFlags := 33
  super := sup
  interfaces := #[]
  cf := none
  fields := #[]
  methods := #[]
  instanceTypes := #[]
  staticTypes := #[]
  resolved := #[]
  callSites := []
  init := .initialized
  statics := none
  mirror := none

def pool0 : Array CpInfo := pool [(5, u "<init>"), (0, u "()V"), (1, .class_ 10), (1, u "java/lang/Object")] 113

def k0m0 : Method := { name := "<init>", desc := "()V", sig := { parameters := [], returnType := none }, accessFlags := 1, code := none }
/-- java/lang/Object -/
def k0 : Class := { plain "java/lang/Object" none with
  accessFlags := 33
  interfaces := #[]
  cf := some (fileOf pool0 8 #[] #[{ accessFlags := 1, nameIndex := 5, descriptorIndex := 6, attributes := #[] }] 33 0 #[] #[])
  fields := #[]
  methods := #[k0m0]
  instanceTypes := #[]
  staticTypes := #[]
  resolved := Array.replicate 124 none
  statics := none }

def pool1 : Array CpInfo := pool [(2, .class_ 4), (1, u "java/lang/Object"), (0, u "<init>"), (0, u "()V"), (0, .double 4652218415073722368), (1, .double 9218868437227405312), (1, .double 18442240474082181120), (1, .double 9223372036854775808), (1, .double 9218868437227405311), (1, .double 18442240474082181119), (1, .double 1), (1, .double 9223372036854775809), (1, .methodref 24 25), (0, .class_ 26), (0, .nameAndType 27 28), (0, u "com/example/glacis/glacis/solvers/SpanningTreeGame"), (0, u "isCost"), (0, u "(D)Z"), (0, .class_ 30), (0, u "com/example/glacis/glacis/solvers/SpanningTreeGameIsCostPinLaw"), (2, u "law"), (0, u "(IJ)Z")] 3

def k1m0 : Method := { name := "<init>", desc := "()V", sig := { parameters := [], returnType := none }, accessFlags := 1, code := none }
def k1c1 : Code := { maxStack := 4, maxLocals := 8, code := code, exceptionTable := #[], attributes := #[] }
def k1m1 : Method := { name := "law", desc := "(IJ)Z", sig := { parameters := [.int, .long], returnType := some .boolean }, accessFlags := 9, code := some k1c1 }
/-- com/example/glacis/glacis/solvers/SpanningTreeGameIsCostPinLaw -/
def k1 : Class := { plain "com/example/glacis/glacis/solvers/SpanningTreeGameIsCostPinLaw" (some 0) with
  accessFlags := 49
  interfaces := #[]
  cf := some (fileOf pool1 29 #[] #[{ accessFlags := 1, nameIndex := 5, descriptorIndex := 6, attributes := #[] }, { accessFlags := 9, nameIndex := 33, descriptorIndex := 34, attributes := #[] }] 49 2 #[] #[])
  fields := #[]
  methods := #[k1m0, k1m1]
  instanceTypes := #[]
  staticTypes := #[]
  resolved := Array.replicate 38 none
  statics := none }

def pool2 : Array CpInfo := pool [(2, .class_ 4), (1, u "java/lang/Object"), (3, .class_ 10), (1, u "com/example/glacis/glacis/solvers/SpanningTreeGame"), (0, u "value"), (0, u "D"), (2, u "partition"), (0, u "Lcom/example/glacis/glacis/core/Partition;"), (8, u "attacker"), (0, u "Ljava/util/List;"), (2, u "defender"), (0, u "Lcom/example/glacis/glacis/core/TreePacking;"), (36, u "isCost"), (0, u "(D)Z"), (3, .class_ 73), (0, u "com/example/glacis/glacis/solvers/SpanningTreeGame$Attack"), (6, .class_ 81), (0, u "com/example/glacis/glacis/solvers/SpanningTreeGame$Tap"), (102, .double 9218868437227405312), (14, u "SLACK")] 37

def k2c0 : Code := { maxStack := 4, maxLocals := 2, code := prog_53_method_4_code, exceptionTable := #[], attributes := #[] }
def k2m0 : Method := { name := "isCost", desc := "(D)Z", sig := { parameters := [.double], returnType := some .boolean }, accessFlags := 9, code := some k2c0 }
/-- com/example/glacis/glacis/solvers/SpanningTreeGame -/
def k2 : Class := { plain "com/example/glacis/glacis/solvers/SpanningTreeGame" (some 0) with
  accessFlags := 49
  interfaces := #[]
  cf := some (fileOf pool2 8 #[.nestMembers #[72, 80]] #[{ accessFlags := 9, nameIndex := 67, descriptorIndex := 68, attributes := #[] }] 49 2 #[] #[{ accessFlags := 26, nameIndex := 199, descriptorIndex := 12, attributes := #[] }, { accessFlags := 18, nameIndex := 11, descriptorIndex := 12, attributes := #[] }, { accessFlags := 18, nameIndex := 15, descriptorIndex := 16, attributes := #[] }, { accessFlags := 18, nameIndex := 25, descriptorIndex := 26, attributes := #[] }, { accessFlags := 18, nameIndex := 29, descriptorIndex := 30, attributes := #[] }])
  fields := #[{ name := "SLACK", type := .double, accessFlags := 26, slot := 0, constantValue := 0 }, { name := "value", type := .double, accessFlags := 18, slot := 0, constantValue := 0 }, { name := "partition", type := (.object "com/example/glacis/glacis/core/Partition"), accessFlags := 18, slot := 1, constantValue := 0 }, { name := "attacker", type := (.object "java/util/List"), accessFlags := 18, slot := 2, constantValue := 0 }, { name := "defender", type := (.object "com/example/glacis/glacis/core/TreePacking"), accessFlags := 18, slot := 3, constantValue := 0 }]
  methods := #[k2m0]
  instanceTypes := #[.double, (.object "com/example/glacis/glacis/core/Partition"), (.object "java/util/List"), (.object "com/example/glacis/glacis/core/TreePacking")]
  staticTypes := #[.double]
  resolved := Array.replicate 237 none
  statics := none }

def pool3 : Array CpInfo := pool [(1, u "java/lang/Cloneable"), (0, .class_ 1), (0, u "java/lang/Object"), (0, .class_ 3)] 3

/-- java/lang/Cloneable -/
def k3 : Class := { plain "java/lang/Cloneable" (some 0) with
  accessFlags := 1537
  interfaces := #[]
  cf := some (fileOf pool3 2 #[] #[] 1537 4 #[] #[])
  fields := #[]
  methods := #[]
  instanceTypes := #[]
  staticTypes := #[]
  resolved := Array.replicate 8 none
  statics := none }

def pool4 : Array CpInfo := pool [(1, u "java/io/Serializable"), (0, .class_ 1), (0, u "java/lang/Object"), (0, .class_ 3)] 3

/-- java/io/Serializable -/
def k4 : Class := { plain "java/io/Serializable" (some 0) with
  accessFlags := 1537
  interfaces := #[]
  cf := some (fileOf pool4 2 #[] #[] 1537 4 #[] #[])
  fields := #[]
  methods := #[]
  instanceTypes := #[]
  staticTypes := #[]
  resolved := Array.replicate 8 none
  statics := none }

/-- the primitive byte -/
def k5 : Class := { plain "byte" none with kind := .primitive 'B', accessFlags := 0x411 }
/-- [B -/
def k6 : Class := { plain "[B" (some 0) with kind := .array 5 .byte, interfaces := #[3, 4], accessFlags := 1041 }

/-- the primitive int -/
def k7 : Class := { plain "int" none with kind := .primitive 'I', accessFlags := 0x411 }
/-- [I -/
def k8 : Class := { plain "[I" (some 0) with kind := .array 7 .int, interfaces := #[3, 4], accessFlags := 1041 }

def heap : Heap := #[]
def classes : Array Class := #[k0, k1, k2, k3, k4, k5, k6, k7, k8]
def interned : List (Array UInt16 × Addr) := []
def slotsUsed : Nat := 0
def theMethod : MethodId := ⟨1, 1⟩
def args0 : Array Value := #[.int 5, .long 7]
def aboutOver (below : List Frame) : State where
  vm := { classes := classes, interned := interned.toArray }
  heap := heap
  slotsUsed := slotsUsed
  threads := #[{ frames := .invoking theMethod args0 :: below }]
def below0 : List Frame := [.native { method := ⟨0, 0⟩, args := #[] }]
def about1 : State := aboutOver below0
def p0 : Program := .bare "" "" ""
def e0 : Env := launch0.env 0 0 0
theorem w_frames : about1.frames = Frame.invoking theMethod args0 :: below0 := rfl
set_option maxRecDepth 65536 in
theorem w_args : argsFit about1.vm theMethod args0 = true := by decide +kernel
set_option maxRecDepth 65536 in
theorem w_heap : heapFits about1 = true := by decide +kernel
set_option maxRecDepth 65536 in
theorem w_runnable : about1.curStatus? = some .runnable := by decide +kernel
set_option maxRecDepth 65536 in
theorem w_alone : about1.alone = true := by decide +kernel
set_option maxRecDepth 65536 in
theorem w_named : about1.methodNamed? x = some theMethod := by decide +kernel
set_option maxRecDepth 65536 in
theorem w_hears : about1.hears theMethod below0 = true := by decide +kernel
set_option maxRecDepth 65536 in
theorem w_ripe : about1.ripe theMethod args0 below0 = true := by decide +kernel
theorem w_running : about1.status = .running := rfl
set_option maxRecDepth 65536 in
theorem w_room : about1.hasRoom e0.platform room_1 = true :=
  launch0.hasRoom_least _ room_1 (by decide +kernel) (by decide +kernel) (by decide +kernel) (by decide +kernel) (by decide +kernel) (by decide +kernel)
theorem allAtoms_all (ts : List Jvm.Cond) (a : Array Jvm.Value) (st : Jvm.State) : (allAtoms ts).before a st = ts.all (fun c => c.before a st) := by
  induction ts with
  | nil => rfl
  | cons c t ih =>
    show (Jvm.Cond.and c (allAtoms t)).before a st = _
    rw [Jvm.Cond.before_and, ih, List.all_cons]
def words1 : List Jvm.Cond := Jvm.Cond.code x code maxLocals ret :: tables_1
/-- a 'code' word, met by the world's own term for the bytes: nothing is compared byte by byte -/
theorem code_word {y : MethodName} {bytes : ByteArray} {mx : Nat} {rt : Option FieldType} {a : Array Value} {s : State} {m : MethodId} {meth : Method} {c : Code} (h1 : s.methodNamed? y = some m) (h2 : s.vm.method? m = some meth) (h3 : meth.code = some c) (h4 : c.code = bytes)
    (h5 : (c.maxLocals == mx && c.exceptionTable.isEmpty && decide (c.maxStack ≤ mostOperands) && decide (meth.sig.returnType = rt) && !meth.locks && decide (parseMethodDescriptor y.desc = some meth.sig)) = true) : (Jvm.Cond.code y bytes mx rt).before a s = true := by
  simp only [Bool.and_eq_true, beq_iff_eq, Bool.not_eq_true', decide_eq_true_eq] at h5
  obtain ⟨⟨⟨⟨⟨g1, g2⟩, g3⟩, g4⟩, g5⟩, g6⟩ := h5
  simp [Cond.before, Cond.holds, Cond.value, h1, h2, h3, h4, g1, g2, g3, g4, g5, g6]
def isCode : Jvm.Cond → Bool
  | .code _ _ _ _ => true
  | _ => false
theorem all_split {L : List Jvm.Cond} {P : Jvm.Cond → Bool} (h1 : L.all (fun c => isCode c || P c) = true) (h2 : ∀ c ∈ L.filter isCode, P c = true) : L.all P = true := by
  refine List.all_eq_true.mpr fun c hc => ?_
  have h := List.all_eq_true.mp h1 c hc
  rcases Bool.eq_false_or_eq_true (isCode c) with hi | hi
  · exact h2 c (List.mem_filter.mpr ⟨hc, hi⟩)
  · simpa [hi] using h
set_option maxRecDepth 65536 in
theorem w_c0 : (Jvm.Cond.code x code maxLocals ret).before args0 about1 = true := code_word (m := ⟨1, 1⟩) (meth := k1m1) (c := k1c1) (by decide +kernel) rfl rfl rfl (by decide +kernel)
set_option maxRecDepth 65536 in
theorem w_c1 : (Jvm.Cond.code ({ cls := "com/example/glacis/glacis/solvers/SpanningTreeGame", name := "isCost", desc := "(D)Z" } : Jvm.MethodName) prog_53_method_4_code (2 : Nat) (Option.some Jvm.ClassFile.FieldType.boolean)).before args0 about1 = true := code_word (m := ⟨2, 0⟩) (meth := k2m0) (c := k2c0) (by decide +kernel) rfl rfl rfl (by decide +kernel)
def codes1 : List Jvm.Cond := [Jvm.Cond.code x code maxLocals ret, Jvm.Cond.code ({ cls := "com/example/glacis/glacis/solvers/SpanningTreeGame", name := "isCost", desc := "(D)Z" } : Jvm.MethodName) prog_53_method_4_code (2 : Nat) (Option.some Jvm.ClassFile.FieldType.boolean)]
set_option maxRecDepth 65536 in
theorem codes_eq : words1.filter isCode = codes1 := rfl
theorem w_codes : ∀ c ∈ words1.filter isCode, c.before args0 about1 = true := by
  rw [codes_eq]
  intro c hc
  simp only [codes1, List.mem_cons, List.not_mem_nil, or_false] at hc
  rcases hc with rfl | rfl
  · exact w_c0
  · exact w_c1
set_option maxRecDepth 65536 in
theorem w_t1 : words1.all (fun c => isCode c || c.before args0 about1) = true := by decide +kernel
theorem w_tables : (allAtoms (Jvm.Cond.code x code maxLocals ret :: tables_1)).before args0 about1 = true := by
  rw [allAtoms_all]
  show words1.all (fun c => c.before args0 about1) = true
  refine all_split ?_ w_codes
  rw [w_t1]
set_option maxRecDepth 65536 in
theorem w_case : (Jvm.Cond.and given_1 narrow_1).before args0 about1 = true := by decide +kernel
theorem w_applies : (headSpec (Jvm.Cond.code x code maxLocals ret :: tables_1) room_1).applies x e0.platform about1 = true :=
  (Spec.applies_iff w_frames).mpr ⟨w_running, w_runnable, w_alone, w_named, w_hears, w_ripe, w_room, w_tables⟩
theorem atStart : AtStart classFile x code maxLocals ret World_1 tables_1 room_1 Calls_1 rest_1 Pre_1 launch0 p0 e0 about1 theMethod args0 below0 :=
  ⟨lists_1, trivial, launch0.admits_env _ _ _, launch0.least_env, fairChoices_fair.cas, fairChoices_fair.clock, w_frames, w_args, w_heap, w_applies, trivial, trivial, w_case⟩
end start1
theorem witness_1 : WitnessClaimed_1 := ⟨start1.p0, start1.e0, start1.about1, start1.theMethod, start1.args0, start1.below0, start1.atStart⟩
end Jvm.Pilot.@@N@@
