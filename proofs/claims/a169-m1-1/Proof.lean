import JvmDerived
import JvmDerived.Pilot.@@N@@Statement
import JvmDerived.Pilot.@@N@@Code
set_option linter.unusedVariables false
set_option linter.unusedSimpArgs false
namespace Jvm.Pilot.@@N@@
/-! the number layer: own_is (a double is exactly that rational), own_rd (a double is that rational, rounded) -/
section OwnNum
open Jvm.FP.Core Jvm.Free.Fl
theorem own_inv1 : (1 : Rat)⁻¹ = 1 := Rat.inv_eq_of_mul_eq_one (Rat.mul_one 1)
theorem own_p_pos (q : Int) : (0 : Rat) < (2 : Rat) ^ q := Rat.zpow_pos (by decide)
theorem own_p_ne (q : Int) : (2 : Rat) ^ q ≠ 0 := Rat.ne_of_gt (own_p_pos q)
theorem own_p_add (a b : Int) : (2 : Rat) ^ (a + b) = 2 ^ a * 2 ^ b := Rat.zpow_add (by decide) a b
theorem own_p_nat (n : Nat) : ((2 ^ n : Nat) : Rat) = (2 : Rat) ^ (n : Int) := by rw [Rat.natCast_pow]; rfl
theorem own_p_toNat {a : Int} (h : 0 ≤ a) : ((2 ^ a.toNat : Nat) : Rat) = (2 : Rat) ^ a := by rw [own_p_nat, Int.toNat_of_nonneg h]
theorem own_p_neg (a : Int) : (2 : Rat) ^ a * 2 ^ (-a) = 1 := by rw [← own_p_add, Int.add_right_neg]; rfl
def own_is (x : UInt64) (r : Rat) : Prop := ∃ s c q, val64 x = .fin s c q ∧ r = ((signed s c : Int) : Rat) * (2 : Rat) ^ q
def own_rd (x : UInt64) (r : Rat) : Prop := ∃ s A B e, 0 < B ∧ val64 x = roundRatio b64 s A B e ∧ r = ((signed s A : Int) : Rat) / ((B : Nat) : Rat) * (2 : Rat) ^ e
theorem own_signed_cast (s : Bool) (c k : Nat) : ((signed s (c * k) : Int) : Rat) = ((signed s c : Int) : Rat) * ((k : Nat) : Rat) := by
  rw [signed_mul, Rat.intCast_mul]; rfl
theorem own_zmag {s : Bool} {c : Nat} {q : Int} (h : FP.Core.fits b64 (.fin s c q)) : ((zmag b64 (.fin s c q) : Nat) : Rat) = (c : Rat) * 2 ^ q * 2 ^ (1074 : Int) := by
  have h1 : b64.qmin ≤ q := h.2.1
  rw [qmin_b64] at h1
  show ((c * 2 ^ (q - b64.qmin).toNat : Nat) : Rat) = _
  rw [Rat.natCast_mul, own_p_toNat (by rw [qmin_b64]; omega), qmin_b64, show q - (-1074) = q + 1074 by omega, own_p_add, Rat.mul_assoc]
theorem own_zval {x : UInt64} {r : Rat} (h : own_is x r) : ((zval b64 (val64 x) : Int) : Rat) = r * 2 ^ (1074 : Int) := by
  obtain ⟨s, c, q, h1, rfl⟩ := h
  have hf := val64_fits x
  rw [h1] at hf ⊢
  have h2 := own_zmag hf
  show ((signed s (zmag b64 (.fin s c q)) : Int) : Rat) = _
  cases s
  · show ((zmag b64 (.fin false c q) : Nat) : Rat) = ((c : Nat) : Rat) * _ * _
    rw [h2]
  · show ((-(zmag b64 (.fin true c q) : Int) : Int) : Rat) = ((-(c : Int) : Int) : Rat) * _ * _
    rw [Rat.intCast_neg, Rat.intCast_neg, Rat.neg_mul, Rat.neg_mul]
    exact congrArg _ h2
theorem own_is_nn {x : UInt64} {r : Rat} (h : own_is x r) : val64 x ≠ .nan := by
  obtain ⟨s, c, q, h1, -⟩ := h; rw [h1]; exact Datum.noConfusion
theorem own_is_fin {x : UInt64} {r : Rat} (h : own_is x r) : Fin64 x := by
  obtain ⟨s, c, q, h1, -⟩ := h; exact fin64_core.mpr ⟨s, c, q, h1⟩
theorem own_is_no {x : UInt64} {r : Rat} (h : own_is x r) : NoNaN64 x := (own_is_fin h).noNaN
theorem own_lt_of {a b : Rat} (h : a < b) (q : Int) : a * 2 ^ q < b * 2 ^ q := Rat.mul_lt_mul_of_pos_right h (own_p_pos q)
theorem own_is_lt {x y : UInt64} {a b : Rat} (hx : own_is x a) (hy : own_is y b) : FP.dcmp x y = some .lt ↔ a < b := by
  rw [show FP.dcmp x y = FP.Core.dcmp x y from rfl, dcmp_lt]
  constructor
  · rintro ⟨-, -, h⟩
    have h2 := Rat.intCast_lt_intCast.mpr h
    rw [own_zval hx, own_zval hy] at h2
    exact Rat.lt_of_mul_lt_mul_right h2 (Rat.le_of_lt (own_p_pos _))
  · intro h
    refine ⟨own_is_nn hx, own_is_nn hy, Rat.intCast_lt_intCast.mp ?_⟩
    rw [own_zval hx, own_zval hy]
    exact own_lt_of h _
theorem own_is_gt {x y : UInt64} {a b : Rat} (hx : own_is x a) (hy : own_is y b) : FP.dcmp x y = some .gt ↔ b < a := by
  rw [← own_is_lt hy hx, show FP.dcmp x y = FP.Core.dcmp x y from rfl, show FP.dcmp y x = FP.Core.dcmp y x from rfl, dcmp_gt, dcmp_lt]
  exact ⟨fun ⟨h1, h2, h⟩ => ⟨h2, h1, h⟩, fun ⟨h1, h2, h⟩ => ⟨h2, h1, h⟩⟩
theorem own_is_eq {x y : UInt64} {a b : Rat} (hx : own_is x a) (hy : own_is y b) : FP.dcmp x y = some .eq ↔ a = b := by
  rw [show FP.dcmp x y = FP.Core.dcmp x y from rfl, dcmp_eq]
  constructor
  · rintro ⟨-, -, h⟩
    have h2 : ((zval b64 (val64 x) : Int) : Rat) = ((zval b64 (val64 y) : Int) : Rat) := by rw [h]
    rw [own_zval hx, own_zval hy] at h2
    have h3 := own_p_ne 1074
    calc a = a * 2 ^ (1074 : Int) / 2 ^ (1074 : Int) := (Rat.mul_div_cancel h3).symm
      _ = b * 2 ^ (1074 : Int) / 2 ^ (1074 : Int) := by rw [h2]
      _ = b := Rat.mul_div_cancel h3
  · rintro rfl
    exact ⟨own_is_nn hx, own_is_nn hy, Rat.intCast_inj.mp (by rw [own_zval hx, own_zval hy])⟩
theorem own_rd_of {x : UInt64} {r : Rat} (h : own_is x r) : own_rd x r := by
  obtain ⟨s, c, q, h1, rfl⟩ := h
  have hf := val64_fits x
  rw [h1] at hf
  refine ⟨s, c, 1, q, by decide, h1.trans (round_of_fits good_b64 hf).symm, ?_⟩
  rw [show (((1 : Nat) : Rat)) = 1 from rfl, Rat.div_def, own_inv1, Rat.mul_one]
theorem own_rd_nn {x : UInt64} {r : Rat} (h : own_rd x r) : val64 x ≠ .nan := by
  obtain ⟨s, A, B, e, -, h1, -⟩ := h; rw [h1]; exact roundRatio_ne_nan _ _ _ _ _
theorem own_rd_no {x : UInt64} {r : Rat} (h : own_rd x r) : NoNaN64 x := val64_no.mpr (own_rd_nn h)
/-- the magnitude of a ratio -/
theorem own_signed_zero {s : Bool} {A : Nat} : ((signed s A : Int) : Rat) = 0 ↔ A = 0 := by
  rw [Rat.intCast_eq_zero_iff, signed_eq_zero]
theorem own_ratio_zero {s : Bool} {A B : Nat} {e : Int} (hB : 0 < B) : ((signed s A : Int) : Rat) / ((B : Nat) : Rat) * (2 : Rat) ^ e = 0 ↔ A = 0 := by
  have hb : ((B : Nat) : Rat) ≠ 0 := by rw [Ne, Rat.natCast_eq_zero_iff]; omega
  constructor
  · intro h
    rcases Rat.mul_eq_zero.mp h with h | h
    · rw [Rat.div_def] at h
      rcases Rat.mul_eq_zero.mp h with h | h
      · exact own_signed_zero.mp h
      · exact absurd (by rw [← Rat.inv_inv ((B : Nat) : Rat), h, Rat.inv_zero]) hb
    · exact absurd h (own_p_ne e)
  · rintro rfl
    rw [own_signed_zero.mpr rfl, Rat.div_def, Rat.zero_mul, Rat.zero_mul]
end OwnNum
section OwnNum2
open Jvm.FP.Core Jvm.Free.Fl
theorem own_nat_pos {B : Nat} (h : 0 < B) : (0 : Rat) < ((B : Nat) : Rat) := Rat.natCast_pos.mpr h
theorem own_nat_ne {B : Nat} (h : 0 < B) : ((B : Nat) : Rat) ≠ 0 := Rat.ne_of_gt (own_nat_pos h)
theorem own_cross {a b a' b' P P' : Rat} (hb : b ≠ 0) (hb' : b' ≠ 0) (h : a / b * P = a' / b' * P') : a * b' * P = a' * b * P' := by
  have h1 : a = a / b * b := (Rat.div_mul_cancel hb).symm
  have h2 : a' = a' / b' * b' := (Rat.div_mul_cancel hb').symm
  generalize a / b = u at *
  generalize a' / b' = w at *
  subst h1 h2
  grind
theorem own_cancel {a b P : Rat} (hP : P ≠ 0) (h : a * P = b * P) : a = b := by
  rw [← Rat.mul_div_cancel (a := a) hP, h, Rat.mul_div_cancel hP]
theorem own_sig_eq {s s' : Bool} {X Y : Nat} (hX : 0 < X) (h : signed s X = signed s' Y) : s = s' ∧ X = Y := by
  cases s <;> cases s' <;> simp only [signed, Bool.false_eq_true, if_true, if_false] at h <;> first | exact ⟨rfl, by omega⟩ | omega
theorem own_ratio_le {s s' : Bool} {A B A' B' : Nat} {e e' : Int} (hB : 0 < B) (hB' : 0 < B') (hA : 0 < A) (hle : e' ≤ e)
    (h : ((signed s A : Int) : Rat) / ((B : Nat) : Rat) * (2 : Rat) ^ e = ((signed s' A' : Int) : Rat) / ((B' : Nat) : Rat) * (2 : Rat) ^ e') :
    s = s' ∧ A * B' * 2 ^ (e - e').toNat = A' * B := by
  have h1 := own_cross (own_nat_ne hB) (own_nat_ne hB') h
  have h2 : (2 : Rat) ^ e = 2 ^ (e - e') * 2 ^ e' := by rw [← own_p_add]; congr 1; omega
  rw [h2, ← Rat.mul_assoc] at h1
  have h3 := own_cancel (own_p_ne e') h1
  rw [← own_p_toNat (by omega), ← own_signed_cast, ← own_signed_cast, ← own_signed_cast, Rat.intCast_inj] at h3
  exact own_sig_eq (Nat.mul_pos (Nat.mul_pos hA hB') (Nat.two_pow_pos _)) h3
theorem own_ratio_eq {s s' : Bool} {A B A' B' : Nat} {e e' : Int} (hB : 0 < B) (hB' : 0 < B') (hA : 0 < A)
    (h : ((signed s A : Int) : Rat) / ((B : Nat) : Rat) * (2 : Rat) ^ e = ((signed s' A' : Int) : Rat) / ((B' : Nat) : Rat) * (2 : Rat) ^ e') :
    s = s' ∧ roundRatio b64 s A B e = roundRatio b64 s' A' B' e' := by
  have hA' : 0 < A' := by
    rcases Nat.eq_zero_or_pos A' with h0 | h0
    · rw [(own_ratio_zero hB').mpr h0, own_ratio_zero hB] at h; omega
    · exact h0
  rcases Int.le_total e' e with hle | hle
  · obtain ⟨rfl, h1⟩ := own_ratio_le hB hB' hA hle h
    refine ⟨rfl, roundRatio_congr hB hB' ?_⟩
    rw [h1, show (e' - e).toNat = 0 by omega]; simp
  · obtain ⟨rfl, h1⟩ := own_ratio_le hB' hB hA' hle h.symm
    refine ⟨rfl, (roundRatio_congr hB' hB ?_).symm⟩
    rw [h1, show (e - e').toNat = 0 by omega]; simp
theorem own_rd_uniq {x y : UInt64} {r : Rat} (hx : own_rd x r) (hy : own_rd y r) : FP.dcmp x y = some .eq := by
  obtain ⟨s, A, B, e, hB, hv, hr⟩ := hx
  obtain ⟨s', A', B', e', hB', hv', hr'⟩ := hy
  rcases Nat.eq_zero_or_pos A with hA | hA
  · have hA' : A' = 0 := by rw [← own_ratio_zero hB' (s := s') (e := e'), ← hr', hr]; exact (own_ratio_zero hB).mpr hA
    subst hA hA'
    rw [show FP.dcmp x y = FP.Core.dcmp x y from rfl, dcmp_eq, hv, hv']
    refine ⟨roundRatio_ne_nan _ _ _ _ _, roundRatio_ne_nan _ _ _ _ _, ?_⟩
    show zval b64 (.fin s 0 b64.qmin) = zval b64 (.fin s' 0 b64.qmin)
    cases s <;> cases s' <;> decide
  · obtain ⟨-, h1⟩ := own_ratio_eq hB hB' hA (hr.symm.trans hr')
    have h2 : val64 x ≠ .nan := by rw [hv]; exact roundRatio_ne_nan _ _ _ _ _
    have h3 : x = y := val64_inj h2 (by rw [hv, hv', h1])
    subst h3
    exact dcmp_refl ((notNaN_iff x).mpr h2)
/-- exact where the rational has 53 digits -/
theorem own_rd_exact {x : UInt64} {r : Rat} (h : own_rd x r) {m : Int} {k : Int} (hr : r = (m : Rat) * (2 : Rat) ^ k) (hm : m.natAbs < 2 ^ 53) (hk : -1074 ≤ k) (hk2 : k ≤ 971) : own_is x r := by
  obtain ⟨s, A, B, e, hB, hv, hr0⟩ := h
  have hcan : ∀ (t : Bool), ((signed t m.natAbs : Int) : Rat) * (2 : Rat) ^ k = r → roundRatio b64 s A B e = round b64 (.fin t m.natAbs k) → own_is x r := by
    intro t ht hq
    obtain ⟨c', q', h1, h2⟩ := round_exact good_b64 t (c := m.natAbs) (q := k) hm (by rw [qmin_b64]; exact hk) (by exact hk2)
    have hx : val64 x = .fin t c' q' := by rw [hv, hq, h1]
    refine ⟨t, c', q', hx, ?_⟩
    have hf := val64_fits x
    rw [hx] at hf
    have z1 := own_zmag hf
    have z2 : ((inUnits c' q' b64.qmin : Nat) : Rat) = ((m.natAbs : Nat) : Rat) * 2 ^ k * 2 ^ (1074 : Int) := by
      rw [h2]; unfold inUnits
      rw [Rat.natCast_mul, own_p_toNat (by rw [qmin_b64]; omega), qmin_b64, show k - (-1074) = k + 1074 by omega, own_p_add, Rat.mul_assoc]
    have z3 : (c' : Rat) * 2 ^ q' = ((m.natAbs : Nat) : Rat) * 2 ^ k := own_cancel (own_p_ne 1074) (z1.symm.trans z2)
    rw [← ht]
    cases t
    · exact z3.symm
    · show ((-(m.natAbs : Int) : Int) : Rat) * _ = ((-(c' : Int) : Int) : Rat) * _
      rw [Rat.intCast_neg, Rat.intCast_neg, Rat.neg_mul, Rat.neg_mul]
      exact congrArg _ z3.symm
  rcases Nat.eq_zero_or_pos A with hA | hA
  · have h0 : r = 0 := by rw [hr0]; exact (own_ratio_zero hB).mpr hA
    have hm0 : m = 0 := by
      rw [h0] at hr
      rcases Rat.mul_eq_zero.mp hr.symm with h1 | h1
      · exact Rat.intCast_eq_zero_iff.mp h1
      · exact absurd h1 (own_p_ne k)
    subst hm0 hA
    refine hcan s ?_ ?_
    · rw [h0]; cases s <;> simp [signed]
    · show Datum.fin s 0 b64.qmin = Datum.fin s 0 b64.qmin
      rfl
  · have h1 : ((signed s A : Int) : Rat) / ((B : Nat) : Rat) * (2 : Rat) ^ e = ((signed (decide (m < 0)) m.natAbs : Int) : Rat) / (((1 : Nat) : Nat) : Rat) * (2 : Rat) ^ k := by
      rw [← hr0, hr, show (((1 : Nat) : Rat)) = 1 from rfl, Rat.div_def, own_inv1, Rat.mul_one]
      congr 2
      unfold signed
      by_cases hmn : m < 0 <;> simp [hmn] <;> omega
    obtain ⟨-, h2⟩ := own_ratio_eq hB (by decide) hA h1
    refine hcan (decide (m < 0)) ?_ h2
    rw [hr]
    congr 2
    unfold signed
    by_cases hmn : m < 0 <;> simp [hmn] <;> omega
theorem own_add {x y : UInt64} {a b : Rat} (hx : own_is x a) (hy : own_is y b) : own_rd (FP.dadd x y) (a + b) := by
  obtain ⟨s, c, q, h1, rfl⟩ := hx
  obtain ⟨t, d, r, h2, rfl⟩ := hy
  refine ⟨_, _, 1, min q r, by decide, (val64_dadd x y).trans (by rw [h1, h2]; rfl), ?_⟩
  rw [signed_sumSign, show (((1 : Nat) : Rat)) = 1 from rfl, Rat.div_def, own_inv1, Rat.mul_one]
  unfold sumUnits inUnits
  rw [Rat.intCast_add, own_signed_cast, own_signed_cast, own_p_toNat (by omega), own_p_toNat (by omega), Rat.add_mul, Rat.mul_assoc, Rat.mul_assoc, ← own_p_add, ← own_p_add, show q - min q r + min q r = q by omega, show r - min q r + min q r = r by omega]
theorem own_neg {x : UInt64} {a : Rat} (hx : own_is x a) : own_is (FP.dneg x) (-a) := by
  obtain ⟨s, c, q, h1, rfl⟩ := hx
  refine ⟨!s, c, q, (FP.val64_dneg x).trans (by rw [h1]; rfl), ?_⟩
  rw [signed_not, Rat.intCast_neg, Rat.neg_mul]
theorem own_sub {x y : UInt64} {a b : Rat} (hx : own_is x a) (hy : own_is y b) : own_rd (FP.dsub x y) (a - b) := by
  have h : val64 (FP.dsub x y) = val64 (FP.dadd x (FP.dneg y)) := by
    rw [show val64 (FP.dsub x y) = _ from val64_dsub x y, show val64 (FP.dadd x (FP.dneg y)) = _ from val64_dadd x (FP.dneg y), FP.val64_dneg]
  obtain ⟨s, A, B, e, hB, hv, hr⟩ := own_add hx (own_neg hy)
  exact ⟨s, A, B, e, hB, h.trans hv, by rw [Rat.sub_eq_add_neg]; exact hr⟩
theorem own_mul {x y : UInt64} {a b : Rat} (hx : own_is x a) (hy : own_is y b) : own_rd (FP.dmul x y) (a * b) := by
  obtain ⟨s, c, q, h1, rfl⟩ := hx
  obtain ⟨t, d, r, h2, rfl⟩ := hy
  refine ⟨s != t, c * d, 1, q + r, by decide, (val64_dmul x y).trans (by rw [h1, h2]; rfl), ?_⟩
  rw [signed_xor, Rat.intCast_mul, own_p_add, show (((1 : Nat) : Rat)) = 1 from rfl, Rat.div_def, own_inv1, Rat.mul_one]
  grind
theorem own_div {x y : UInt64} {a b : Rat} (hx : own_is x a) (hy : own_is y b) (hb : b ≠ 0) : own_rd (FP.ddiv x y) (a / b) := by
  obtain ⟨s, c, q, h1, rfl⟩ := hx
  obtain ⟨t, d, r, h2, rfl⟩ := hy
  have hd : d ≠ 0 := by
    rintro rfl
    exact hb (by rw [own_signed_zero.mpr rfl, Rat.zero_mul])
  refine ⟨s != t, c, d, q - r, by omega, (val64_ddiv x y).trans (by rw [h1, h2]; show (if d = 0 then _ else _) = _; rw [if_neg hd]), ?_⟩
  have hd' : ((d : Nat) : Rat) ≠ 0 := own_nat_ne (by omega)
  have e1 : (2 : Rat) ^ q = 2 ^ (q - r) * 2 ^ r := by rw [← own_p_add]; congr 1; omega
  have e2 := own_p_ne r
  rw [e1]
  generalize (2 : Rat) ^ (q - r) = P
  generalize (2 : Rat) ^ r = W at *
  cases s <;> cases t <;> simp only [signed, Bool.false_eq_true, if_true, if_false, bne_self_eq_false, Rat.intCast_neg, Rat.intCast_natCast, Bool.bne_true, Bool.bne_false, Bool.not_false, Bool.not_true] <;> grind
theorem own_rdL (a : Int64) : own_rd (FP.l2d a) ((a.toInt : Int) : Rat) := by
  refine ⟨decide (a.toInt < 0), a.toInt.natAbs, 1, 0, by decide, val64_l2d a, ?_⟩
  rw [show (((1 : Nat) : Rat)) = 1 from rfl, Rat.div_def, own_inv1, Rat.mul_one, Rat.zpow_zero, Rat.mul_one]
  congr 1
  unfold signed
  by_cases hmn : a.toInt < 0 <;> simp [hmn] <;> omega
theorem own_isI (a : Int32) : own_is (FP.i2d a) ((a.toInt : Int) : Rat) := by
  have h : FP.i2d a = FP.l2d a.toInt64 := i2d_l2d a
  have h2 := own_rdL a.toInt64
  rw [Int32.toInt_toInt64] at h2
  rw [h]
  refine own_rd_exact h2 (m := a.toInt) (k := 0) (by rw [Rat.zpow_zero, Rat.mul_one]) ?_ (by decide) (by decide)
  have := a.le_toInt; have := a.toInt_lt; omega
end OwnNum2
section OwnNum3
open Jvm.FP.Core Jvm.Free.Fl
theorem own_units {A B : Nat} {e : Int} {c : Nat} {q : Int} {s : Bool} (hf : FP.Core.fits b64 (.fin s c q)) (e0 : Int) (h0 : e0 ≤ b64.qmin) (h0e : e0 ≤ e) :
    (((inUnits A e e0 : Nat) : Rat) = (A : Rat) * 2 ^ e * 2 ^ (-e0)) ∧ (((zmag b64 (.fin s c q) * 2 ^ (b64.qmin - e0).toNat * B : Nat) : Rat) = ((c : Rat) * 2 ^ q) * (B : Rat) * 2 ^ (-e0)) := by
  constructor
  · unfold inUnits
    rw [Rat.natCast_mul, own_p_toNat (by omega), show e - e0 = e + -e0 by omega, own_p_add, Rat.mul_assoc]
  · rw [Rat.natCast_mul, Rat.natCast_mul, own_zmag hf, own_p_toNat (by omega), show b64.qmin - e0 = -1074 + -e0 by rw [qmin_b64]; omega, own_p_add]
    have := own_p_neg 1074
    grind
theorem own_div_le {a b w : Rat} (hb : 0 < b) : a / b ≤ w ↔ a ≤ w * b := by
  have h1 : a = a / b * b := (Rat.div_mul_cancel (Rat.ne_of_gt hb)).symm
  constructor
  · intro h; rw [h1]; exact Rat.mul_le_mul_of_nonneg_right h (Rat.le_of_lt hb)
  · intro h; rw [h1] at h; exact Rat.le_of_mul_le_mul_right h hb
theorem own_le_div {a b w : Rat} (hb : 0 < b) : w ≤ a / b ↔ w * b ≤ a := by
  have h1 : a = a / b * b := (Rat.div_mul_cancel (Rat.ne_of_gt hb)).symm
  constructor
  · intro h; rw [h1]; exact Rat.mul_le_mul_of_nonneg_right h (Rat.le_of_lt hb)
  · intro h; rw [h1] at h; exact Rat.le_of_mul_le_mul_right h hb
theorem own_mag_le {A B : Nat} {e : Int} {s t : Bool} {c : Nat} {q : Int} (hB : 0 < B) (hf : FP.Core.fits b64 (.fin t c q)) (h : (A : Rat) / (B : Rat) * 2 ^ e ≤ (c : Rat) * 2 ^ q) : zmag b64 (roundRatio b64 s A B e) ≤ zmag b64 (.fin t c q) := by
  obtain ⟨u1, u2⟩ := own_units (A := A) (B := B) (e := e) hf (min e b64.qmin) (by omega) (by omega)
  refine zmag_roundRatio_le good_b64 hB hf Datum.noConfusion (e0 := min e b64.qmin) (by omega) (by omega) (Rat.natCast_le_natCast.mp ?_)
  rw [u1, u2]
  refine Rat.mul_le_mul_of_nonneg_right ?_ (Rat.le_of_lt (own_p_pos _))
  have hb := own_nat_pos hB
  have h2 := Rat.mul_le_mul_of_nonneg_right h (Rat.le_of_lt hb)
  have h3 : (A : Rat) / (B : Rat) * 2 ^ e * (B : Rat) = (A : Rat) * 2 ^ e := by
    rw [Rat.mul_assoc, Rat.mul_comm ((2 : Rat) ^ e), ← Rat.mul_assoc, Rat.div_mul_cancel (own_nat_ne hB)]
  rw [h3] at h2
  exact h2
theorem own_mag_ge {A B : Nat} {e : Int} {s t : Bool} {c : Nat} {q : Int} (hB : 0 < B) (hf : FP.Core.fits b64 (.fin t c q)) (h : (c : Rat) * 2 ^ q ≤ (A : Rat) / (B : Rat) * 2 ^ e) : zmag b64 (.fin t c q) ≤ zmag b64 (roundRatio b64 s A B e) := by
  obtain ⟨u1, u2⟩ := own_units (A := A) (B := B) (e := e) hf (min e b64.qmin) (by omega) (by omega)
  refine zmag_roundRatio_ge good_b64 hB hf (e0 := min e b64.qmin) (by omega) (by omega) (Rat.natCast_le_natCast.mp ?_)
  rw [u1, u2]
  refine Rat.mul_le_mul_of_nonneg_right ?_ (Rat.le_of_lt (own_p_pos _))
  have hb := own_nat_pos hB
  have h2 := Rat.mul_le_mul_of_nonneg_right h (Rat.le_of_lt hb)
  have h3 : (A : Rat) / (B : Rat) * 2 ^ e * (B : Rat) = (A : Rat) * 2 ^ e := by
    rw [Rat.mul_assoc, Rat.mul_comm ((2 : Rat) ^ e), ← Rat.mul_assoc, Rat.div_mul_cancel (own_nat_ne hB)]
  rw [h3] at h2
  exact h2
theorem own_signed_ratio (s : Bool) (A B : Nat) (e : Int) : ((signed s A : Int) : Rat) / ((B : Nat) : Rat) * (2 : Rat) ^ e = if s then -((A : Rat) / (B : Rat) * 2 ^ e) else (A : Rat) / (B : Rat) * 2 ^ e := by
  cases s
  · rfl
  · show ((-(A : Int) : Int) : Rat) / _ * _ = _
    rw [Rat.intCast_neg, Rat.div_def, Rat.neg_mul, Rat.neg_mul]; rfl
theorem own_signed_pow (s : Bool) (c : Nat) (q : Int) : ((signed s c : Int) : Rat) * (2 : Rat) ^ q = if s then -((c : Rat) * 2 ^ q) else (c : Rat) * 2 ^ q := by
  cases s
  · rfl
  · show ((-(c : Int) : Int) : Rat) * _ = _
    rw [Rat.intCast_neg, Rat.neg_mul]; rfl
theorem own_ratio_nonneg (A B : Nat) (e : Int) : 0 ≤ (A : Rat) / (B : Rat) * 2 ^ e := by
  refine Rat.mul_nonneg ?_ (Rat.le_of_lt (own_p_pos e))
  rcases Nat.eq_zero_or_pos B with rfl | hB
  · rw [Rat.div_def]; exact Rat.mul_nonneg Rat.natCast_nonneg (by rw [show ((0 : Nat) : Rat) = 0 from rfl, Rat.inv_zero]; exact Rat.le_refl)
  · rw [own_le_div (own_nat_pos hB), Rat.zero_mul]; exact Rat.natCast_nonneg
theorem own_rd_le {x V : UInt64} {r y : Rat} (h : own_rd x r) (hV : own_is V y) (hle : r ≤ y) : zval b64 (val64 x) ≤ zval b64 (val64 V) := by
  obtain ⟨s, A, B, e, hB, hv, hr⟩ := h
  obtain ⟨t, c, q, hVv, hy⟩ := hV
  have hf := val64_fits V
  rw [hVv] at hf
  rw [hv, hVv]
  have m1 := own_mag_le (A := A) (e := e) (s := s) hB hf
  have m2 := own_mag_ge (A := A) (e := e) (s := s) hB hf
  unfold zval
  rw [sgn_roundRatio]
  show _ ≤ signed t (zmag b64 (.fin t c q))
  rw [own_signed_ratio] at hr
  rw [own_signed_pow] at hy
  have p1 := own_ratio_nonneg A B e
  have p2 : 0 ≤ (c : Rat) * 2 ^ q := Rat.mul_nonneg Rat.natCast_nonneg (Rat.le_of_lt (own_p_pos q))
  have hz : (c : Rat) * 2 ^ q ≤ 0 → zmag b64 (.fin t c q) = 0 := by
    intro h0
    have h1 : (c : Rat) * 2 ^ q = 0 := Rat.le_antisymm h0 p2
    have h2 := own_zmag hf
    rw [h1, Rat.zero_mul] at h2
    exact Rat.natCast_eq_zero_iff.mp h2
  generalize (A : Rat) / (B : Rat) * 2 ^ e = ra at *
  generalize (c : Rat) * 2 ^ q = rc at *
  generalize zmag b64 (roundRatio b64 s A B e) = za at *
  generalize zmag b64 (.fin t c q) = zc at *
  cases s <;> cases t <;> simp only [signed, Bool.false_eq_true, if_true, if_false] at hr hy ⊢
  · have := m1 (by grind); omega
  · have := m1 (by grind); have := hz (by grind); omega
  · omega
  · have := m2 (by grind); omega
theorem own_rd_neg {x : UInt64} {r : Rat} (h : own_rd x r) : own_rd (FP.dneg x) (-r) := by
  obtain ⟨s, A, B, e, hB, hv, hr⟩ := h
  refine ⟨!s, A, B, e, hB, (FP.val64_dneg x).trans (by rw [hv, negate_roundRatio]), ?_⟩
  rw [hr, signed_not, Rat.intCast_neg, Rat.div_def, Rat.div_def, Rat.neg_mul, Rat.neg_mul]
theorem own_zval_neg (x : UInt64) : zval b64 (val64 (FP.dneg x)) = -zval b64 (val64 x) := by
  rw [show val64 (FP.dneg x) = negate (val64 x) from FP.val64_dneg x, zval_negate]
theorem own_rd_ge {x V : UInt64} {r y : Rat} (h : own_rd x r) (hV : own_is V y) (hle : y ≤ r) : zval b64 (val64 V) ≤ zval b64 (val64 x) := by
  have h1 := own_rd_le (own_rd_neg h) (own_neg hV) (Rat.neg_le_neg hle)
  rw [own_zval_neg, own_zval_neg] at h1
  omega
theorem own_big : own_is 9110782046170513408 ((2 : Rat) ^ (1000 : Int)) := ⟨false, 2 ^ 52, 948, by decide +kernel, by
  show _ = (((2 ^ 52 : Nat) : Rat)) * _
  rw [own_p_nat, ← own_p_add]; rfl⟩
theorem own_rd_fin {x : UInt64} {r : Rat} (h : own_rd x r) (h1 : r ≤ (2 : Rat) ^ (1000 : Int)) (h2 : -((2 : Rat) ^ (1000 : Int)) ≤ r) : ∃ v, own_is x v := by
  have l1 := own_rd_le h own_big h1
  have l2 := own_rd_ge h (own_neg own_big) h2
  rw [own_zval_neg] at l2
  obtain ⟨s, A, B, e, hB, hv, hr⟩ := h
  rcases roundRatio_cases b64 s A B e with ⟨c, q, hc⟩ | hc
  · exact ⟨_, s, c, q, hv.trans hc, rfl⟩
  · rw [hv, hc] at l1 l2
    cases s
    · exact absurd l1 (by decide +kernel)
    · exact absurd l2 (by decide +kernel)
theorem own_rd_le' {x V : UInt64} {r v y : Rat} (h : own_rd x r) (hx : own_is x v) (hV : own_is V y) (hle : r ≤ y) : v ≤ y := by
  have h1 := own_rd_le h hV hle
  refine Rat.not_lt.mp fun h2 => ?_
  have h3 := (dcmp_lt.mp ((own_is_lt hV hx).mpr h2)).2.2
  omega
theorem own_rd_ge' {x V : UInt64} {r v y : Rat} (h : own_rd x r) (hx : own_is x v) (hV : own_is V y) (hle : y ≤ r) : y ≤ v := by
  have h1 := own_rd_ge h hV hle
  refine Rat.not_lt.mp fun h2 => ?_
  have h3 := (dcmp_lt.mp ((own_is_lt hx hV).mpr h2)).2.2
  omega
/-- every rational of 53 digits is a double -/
theorem own_rep {m k : Int} (hm : m.natAbs < 2 ^ 53) (hk : -1074 ≤ k) (hk2 : k ≤ 971) : ∃ V, own_is V ((m : Rat) * (2 : Rat) ^ k) := by
  have hf : FP.Core.fits b64 (roundRatio b64 (decide (m < 0)) m.natAbs 1 k) := roundRatio_fits good_b64 _ _ (by decide) _
  refine ⟨of64 (roundRatio b64 (decide (m < 0)) m.natAbs 1 k), own_rd_exact ⟨decide (m < 0), m.natAbs, 1, k, by decide, val64_of64 hf, ?_⟩ rfl hm hk hk2⟩
  rw [show (((1 : Nat) : Rat)) = 1 from rfl, Rat.div_def, own_inv1, Rat.mul_one]
  congr 2
  unfold signed
  by_cases hmn : m < 0 <;> simp [hmn] <;> omega
end OwnNum3
section OwnNum4
open Jvm.FP.Core Jvm.Free.Fl
theorem own_two200 : (1606938044258990275541962092341162602522202993782792835301376 : Rat) ≤ (2 : Rat) ^ (1000 : Int) := by decide +kernel
theorem own_rd_finN {x : UInt64} {r : Rat} (h : own_rd x r) (h1 : r ≤ 1606938044258990275541962092341162602522202993782792835301376) (h2 : -1606938044258990275541962092341162602522202993782792835301376 ≤ r) : ∃ v, own_is x v :=
  own_rd_fin h (Rat.le_trans h1 own_two200) (Rat.le_trans (Rat.neg_le_neg own_two200) h2)
theorem own_zero : own_is 0 0 := ⟨false, 0, -1074, by decide +kernel, by decide +kernel⟩
theorem own_one : own_is 4607182418800017408 1 := ⟨false, 2 ^ 52, -52, by decide +kernel, by decide +kernel⟩
theorem own_rep' {m k : Int} {r : Rat} (hr : r = (m : Rat) * (2 : Rat) ^ k) (hm : m.natAbs < 2 ^ 53) (hk : -1074 ≤ k) (hk2 : k ≤ 971) : ∃ V, own_is V r := by rw [hr]; exact own_rep hm hk hk2
theorem own_cmpv {x y : UInt64} {a b : Rat} (hx : own_is x a) (hy : own_is y b) (o : ClassFile.CmpOp) : Op.cmpValue (FP.dcmp x y) o = if a < b then -1 else if a = b then 0 else 1 := by
  by_cases h1 : a < b
  · rw [(own_is_lt hx hy).mpr h1, if_pos h1]; rfl
  · by_cases h2 : a = b
    · rw [(own_is_eq hx hy).mpr h2, if_neg h1, if_pos h2]; rfl
    · have h3 : b < a := by grind
      rw [(own_is_gt hx hy).mpr h3, if_neg h1, if_neg h2]; rfl
theorem own_c_lt {x y : UInt64} {a b : Rat} (hx : own_is x a) (hy : own_is y b) (o : ClassFile.CmpOp) : Op.ifCond.holds .lt (Op.cmpValue (FP.dcmp x y) o) = decide (a < b) := by
  rw [own_cmpv hx hy]; by_cases h1 : a < b <;> by_cases h2 : a = b <;> simp [h1, h2, Op.ifCond.holds]
theorem own_c_ge {x y : UInt64} {a b : Rat} (hx : own_is x a) (hy : own_is y b) (o : ClassFile.CmpOp) : Op.ifCond.holds .ge (Op.cmpValue (FP.dcmp x y) o) = decide (b ≤ a) := by
  rw [own_cmpv hx hy]
  by_cases h1 : a < b
  · simp [h1, Rat.not_le.mpr h1, Op.ifCond.holds]
  · by_cases h2 : a = b <;> simp [h1, h2, Rat.not_lt.mp h1, Op.ifCond.holds, Rat.le_refl]
theorem own_c_gt {x y : UInt64} {a b : Rat} (hx : own_is x a) (hy : own_is y b) (o : ClassFile.CmpOp) : Op.ifCond.holds .gt (Op.cmpValue (FP.dcmp x y) o) = decide (b < a) := by
  rw [own_cmpv hx hy]
  by_cases h1 : a < b
  · have : ¬ b < a := by grind
    simp [h1, this, Op.ifCond.holds]
  · by_cases h2 : a = b
    · subst h2; simp [Rat.lt_irrefl, Op.ifCond.holds]
    · have : b < a := by grind
      simp [h1, h2, this, Op.ifCond.holds]
theorem own_c_le {x y : UInt64} {a b : Rat} (hx : own_is x a) (hy : own_is y b) (o : ClassFile.CmpOp) : Op.ifCond.holds .le (Op.cmpValue (FP.dcmp x y) o) = decide (a ≤ b) := by
  rw [own_cmpv hx hy]
  by_cases h1 : a < b
  · simp [h1, Rat.le_of_lt h1, Op.ifCond.holds]
  · by_cases h2 : a = b
    · subst h2; simp [Rat.lt_irrefl, Rat.le_refl, Op.ifCond.holds]
    · have : ¬ a ≤ b := by grind
      simp [h1, h2, this, Op.ifCond.holds]
theorem own_c_eq {x y : UInt64} {a b : Rat} (hx : own_is x a) (hy : own_is y b) (o : ClassFile.CmpOp) : Op.ifCond.holds .eq (Op.cmpValue (FP.dcmp x y) o) = decide (a = b) := by
  rw [own_cmpv hx hy]
  by_cases h1 : a < b
  · have : ¬ a = b := by grind
    simp [h1, this, Op.ifCond.holds]
  · by_cases h2 : a = b <;> simp [h1, h2, Op.ifCond.holds]
theorem own_c_ne {x y : UInt64} {a b : Rat} (hx : own_is x a) (hy : own_is y b) (o : ClassFile.CmpOp) : Op.ifCond.holds .ne (Op.cmpValue (FP.dcmp x y) o) = decide (a ≠ b) := by
  rw [own_cmpv hx hy]
  by_cases h1 : a < b
  · have : ¬ a = b := by grind
    simp [h1, this, Op.ifCond.holds]
  · by_cases h2 : a = b <;> simp [h1, h2, Op.ifCond.holds]
/-- ints by their values -/
theorem own_i_lt (x y : Int32) : Op.if_icmp.holds .lt x y = decide (x.toInt < y.toInt) := by simp only [Op.if_icmp.holds, Int32.lt_iff_toInt_lt]
theorem own_i_gt (x y : Int32) : Op.if_icmp.holds .gt x y = decide (y.toInt < x.toInt) := by simp only [Op.if_icmp.holds, GT.gt, Int32.lt_iff_toInt_lt]
theorem own_i_le (x y : Int32) : Op.if_icmp.holds .le x y = decide (x.toInt ≤ y.toInt) := by simp only [Op.if_icmp.holds, Int32.le_iff_toInt_le]
theorem own_i_ge (x y : Int32) : Op.if_icmp.holds .ge x y = decide (y.toInt ≤ x.toInt) := by simp only [Op.if_icmp.holds, GE.ge, Int32.le_iff_toInt_le]
theorem own_i_eq (x y : Int32) : Op.if_icmp.holds .eq x y = decide (x = y) := by rw [Bool.eq_iff_iff]; simp [Op.if_icmp.holds]
theorem own_i_ne (x y : Int32) : Op.if_icmp.holds .ne x y = decide (x ≠ y) := by rw [Bool.eq_iff_iff]; simp [Op.if_icmp.holds]
theorem own_z_lt (x : Int32) : Op.ifCond.holds .lt x = decide (x.toInt < 0) := by simp only [Op.ifCond.holds, Int32.lt_iff_toInt_lt]; rfl
theorem own_z_gt (x : Int32) : Op.ifCond.holds .gt x = decide (0 < x.toInt) := by simp only [Op.ifCond.holds, GT.gt, Int32.lt_iff_toInt_lt]; rfl
theorem own_z_le (x : Int32) : Op.ifCond.holds .le x = decide (x.toInt ≤ 0) := by simp only [Op.ifCond.holds, Int32.le_iff_toInt_le]; rfl
theorem own_z_ge (x : Int32) : Op.ifCond.holds .ge x = decide (0 ≤ x.toInt) := by simp only [Op.ifCond.holds, GE.ge, Int32.le_iff_toInt_le]; rfl
theorem own_z_eq (x : Int32) : Op.ifCond.holds .eq x = decide (x = 0) := by rw [Bool.eq_iff_iff]; simp [Op.ifCond.holds]
theorem own_z_ne (x : Int32) : Op.ifCond.holds .ne x = decide (x ≠ 0) := by rw [Bool.eq_iff_iff]; simp [Op.ifCond.holds]
theorem own_lc_lt (x y : Int64) : Op.ifCond.holds .lt (if x > y then (1 : Int32) else if x = y then 0 else -1) = decide (x.toInt < y.toInt) := by
  simp only [GT.gt, Int64.lt_iff_toInt_lt, ← Int64.toInt_inj]
  by_cases h1 : y.toInt < x.toInt
  · simp [h1, Op.ifCond.holds, show ¬ x.toInt < y.toInt by omega]
  · by_cases h2 : x.toInt = y.toInt
    · simp [h2, Op.ifCond.holds]
    · simp [h1, h2, Op.ifCond.holds, show x.toInt < y.toInt by omega]
theorem own_lc_ge (x y : Int64) : Op.ifCond.holds .ge (if x > y then (1 : Int32) else if x = y then 0 else -1) = decide (y.toInt ≤ x.toInt) := by
  simp only [GT.gt, Int64.lt_iff_toInt_lt, ← Int64.toInt_inj]
  by_cases h1 : y.toInt < x.toInt
  · simp [h1, Op.ifCond.holds, show y.toInt ≤ x.toInt by omega]
  · by_cases h2 : x.toInt = y.toInt
    · simp [h2, Op.ifCond.holds]
    · simp [h1, h2, Op.ifCond.holds, show ¬ y.toInt ≤ x.toInt by omega]
theorem own_lc_gt (x y : Int64) : Op.ifCond.holds .gt (if x > y then (1 : Int32) else if x = y then 0 else -1) = decide (y.toInt < x.toInt) := by
  simp only [GT.gt, Int64.lt_iff_toInt_lt, ← Int64.toInt_inj]
  by_cases h1 : y.toInt < x.toInt
  · simp [h1, Op.ifCond.holds]
  · by_cases h2 : x.toInt = y.toInt
    · simp [h2, Op.ifCond.holds]
    · simp [h1, h2, Op.ifCond.holds]
theorem own_lc_le (x y : Int64) : Op.ifCond.holds .le (if x > y then (1 : Int32) else if x = y then 0 else -1) = decide (x.toInt ≤ y.toInt) := by
  simp only [GT.gt, Int64.lt_iff_toInt_lt, ← Int64.toInt_inj]
  by_cases h1 : y.toInt < x.toInt
  · simp [h1, Op.ifCond.holds, show ¬ x.toInt ≤ y.toInt by omega]
  · by_cases h2 : x.toInt = y.toInt
    · simp [h2, Op.ifCond.holds]
    · simp [h1, h2, Op.ifCond.holds, show x.toInt ≤ y.toInt by omega]
theorem own_lc_eq (x y : Int64) : Op.ifCond.holds .eq (if x > y then (1 : Int32) else if x = y then 0 else -1) = decide (x.toInt = y.toInt) := by
  simp only [GT.gt, Int64.lt_iff_toInt_lt, ← Int64.toInt_inj]
  by_cases h1 : y.toInt < x.toInt
  · simp [h1, Op.ifCond.holds, show ¬ x.toInt = y.toInt by omega]
  · by_cases h2 : x.toInt = y.toInt
    · simp [h2, Op.ifCond.holds]
    · simp [h1, h2, Op.ifCond.holds]
theorem own_lc_ne (x y : Int64) : Op.ifCond.holds .ne (if x > y then (1 : Int32) else if x = y then 0 else -1) = decide (x.toInt ≠ y.toInt) := by
  simp only [GT.gt, Int64.lt_iff_toInt_lt, ← Int64.toInt_inj]
  by_cases h1 : y.toInt < x.toInt
  · simp [h1, Op.ifCond.holds, show ¬ x.toInt = y.toInt by omega]
  · by_cases h2 : x.toInt = y.toInt
    · simp [h2, Op.ifCond.holds]
    · simp [h1, h2, Op.ifCond.holds]
end OwnNum4
section OwnNum5
open Jvm.FP.Core Jvm.Free.Fl
/-- no number of 53 digits is nearer than the rounded one -/
theorem own_near {s : Bool} {A B : Nat} {e : Int} {c : Nat} {q : Int} (hB : 0 < B) (hR : roundRatio b64 s A B e = .fin s c q) {c' : Nat} {q' : Int} (hc' : c' < 2 ^ 53) (hq' : -1074 ≤ q') {D : Rat}
    (h1 : (c' : Rat) * 2 ^ q' - (A : Rat) / (B : Rat) * 2 ^ e ≤ D) (h2 : (A : Rat) / (B : Rat) * 2 ^ e - (c' : Rat) * 2 ^ q' ≤ D) :
    (c : Rat) * 2 ^ q - (A : Rat) / (B : Rat) * 2 ^ e ≤ D ∧ (A : Rat) / (B : Rat) * 2 ^ e - (c : Rat) * 2 ^ q ≤ D := by
  have hfit : FP.Core.fits b64 (.fin s c q) := hR ▸ roundRatio_fits good_b64 s A hB e
  have hqm : (-1074 : Int) ≤ q := by have := hfit.2.1; rw [qmin_b64] at this; exact this
  obtain ⟨e0, he0, he1⟩ : ∃ e0 : Int, e0 ≤ -1074 ∧ e0 ≤ e := ⟨min e (-1074), by omega, by omega⟩
  have hd := roundRatio_nearest good_b64 hB hR hc' (by rw [qmin_b64]; exact hq') (e0 := e0) (by rw [qmin_b64]; exact he0) he1
  unfold distance at hd
  have hb := own_nat_pos hB
  have hp := own_p_pos (-e0)
  have cU : ∀ (n : Nat) (j : Int), e0 ≤ j → ((inUnits n j e0 : Nat) : Rat) = (n : Rat) * 2 ^ j * 2 ^ (-e0) := by
    intro n j hj
    unfold inUnits
    rw [Rat.natCast_mul, own_p_toNat (by omega), show j - e0 = j + -e0 by omega, own_p_add, Rat.mul_assoc]
  have uA := cU A e he1
  have uc := cU c q (by omega)
  have uc' := cU c' q' (by omega)
  have hA : (A : Rat) / (B : Rat) * 2 ^ e * (B : Rat) = (A : Rat) * 2 ^ e := by
    rw [Rat.mul_assoc, Rat.mul_comm ((2 : Rat) ^ e), ← Rat.mul_assoc, Rat.div_mul_cancel (own_nat_ne hB)]
  generalize (A : Rat) / (B : Rat) * 2 ^ e = a at *
  generalize hx : ((inUnits A e e0 : Nat) : Int) - ((inUnits c q e0 : Nat) : Int) * (B : Int) = x at hd
  generalize hy : ((inUnits A e e0 : Nat) : Int) - ((inUnits c' q' e0 : Nat) : Int) * (B : Int) = y at hd
  have ex : (x : Rat) = (a - (c : Rat) * 2 ^ q) * ((B : Rat) * 2 ^ (-e0)) := by
    rw [← hx, Rat.intCast_sub, Rat.intCast_mul, Rat.intCast_natCast, Rat.intCast_natCast, Rat.intCast_natCast, uA, uc, ← hA]
    grind
  have ey : (y : Rat) = (a - (c' : Rat) * 2 ^ q') * ((B : Rat) * 2 ^ (-e0)) := by
    rw [← hy, Rat.intCast_sub, Rat.intCast_mul, Rat.intCast_natCast, Rat.intCast_natCast, Rat.intCast_natCast, uA, uc', ← hA]
    grind
  have hK : (0 : Rat) < (B : Rat) * 2 ^ (-e0) := Rat.mul_pos hb hp
  generalize (B : Rat) * 2 ^ (-e0) = K at *
  generalize (c : Rat) * 2 ^ q = u at *
  generalize (c' : Rat) * 2 ^ q' = w at *
  have yD1 : (y : Rat) ≤ D * K := by rw [ey]; exact Rat.mul_le_mul_of_nonneg_right h2 (Rat.le_of_lt hK)
  have yD2 : -(y : Rat) ≤ D * K := by
    rw [ey]
    have := Rat.mul_le_mul_of_nonneg_right h1 (Rat.le_of_lt hK)
    grind
  have k1 : (x ≤ y ∨ x ≤ -y) ∧ (-x ≤ y ∨ -x ≤ -y) := by omega
  have x1 : (x : Rat) ≤ D * K := by
    rcases k1.1 with k | k
    · exact Rat.le_trans (Rat.intCast_le_intCast.mpr k) yD1
    · have := Rat.intCast_le_intCast.mpr k
      rw [Rat.intCast_neg] at this
      exact Rat.le_trans this yD2
  have x2 : -(x : Rat) ≤ D * K := by
    rw [← Rat.intCast_neg]
    rcases k1.2 with k | k
    · exact Rat.le_trans (Rat.intCast_le_intCast.mpr k) yD1
    · have := Rat.intCast_le_intCast.mpr k
      rw [Rat.intCast_neg y] at this
      exact Rat.le_trans this yD2
  rw [ex] at x1 x2
  constructor
  · refine Rat.le_of_mul_le_mul_right ?_ hK
    grind
  · refine Rat.le_of_mul_le_mul_right ?_ hK
    exact x1
theorem own_grid {a : Rat} {k : Int} (h0 : 0 ≤ a) (hk : a ≤ (2 : Rat) ^ k) : ∃ n : Nat, n ≤ 2 ^ 53 ∧ (n : Rat) * 2 ^ (k - 53) - a ≤ 2 ^ (k - 54) ∧ a - (n : Rat) * 2 ^ (k - 53) ≤ 2 ^ (k - 54) := by
  have hu := own_p_pos (k - 53)
  have e1 : (2 : Rat) ^ k = 2 ^ (k - 53) * 9007199254740992 := by
    rw [show (9007199254740992 : Rat) = (2 : Rat) ^ (53 : Int) by decide +kernel, ← own_p_add]; congr 1; omega
  have e2 : (2 : Rat) ^ (k - 53) = 2 ^ (k - 54) * 2 := by
    have := own_p_add (k - 54) 1
    rw [Rat.zpow_one, show k - 54 + 1 = k - 53 by omega] at this
    exact this
  have hv := own_p_pos (k - 54)
  rw [e1] at hk
  generalize (2 : Rat) ^ (k - 54) = g at *
  generalize (2 : Rat) ^ (k - 53) = u at *
  obtain ⟨f, hf⟩ : ∃ f : Int, f = (a / u + 1 / 2).floor := ⟨_, rfl⟩
  have f1 : (f : Rat) ≤ a / u + 1 / 2 := by rw [hf]; exact Rat.floor_le _
  have f2 : a / u + 1 / 2 < ((f + 1 : Int) : Rat) := by rw [hf]; exact Rat.lt_floor_add_one _
  rw [Rat.intCast_add, show ((1 : Int) : Rat) = 1 from rfl] at f2
  have ha : a = a / u * u := (Rat.div_mul_cancel (Rat.ne_of_gt hu)).symm
  have hb1 : a / u ≤ 9007199254740992 := by rw [own_div_le hu]; grind
  have hb0 : 0 ≤ a / u := by rw [own_le_div hu]; grind
  generalize a / u = t at *
  have n0 : 0 ≤ f := by
    refine Int.not_lt.mp fun q => ?_
    have : (f : Rat) ≤ -1 := (show ((f : Int) : Rat) ≤ ((-1 : Int) : Rat) from Rat.intCast_le_intCast.mpr (by omega))
    grind
  have n1 : f ≤ 9007199254740992 := by
    refine Int.not_lt.mp fun q => ?_
    have : (9007199254740993 : Rat) ≤ (f : Rat) := (show ((9007199254740993 : Int) : Rat) ≤ ((f : Int) : Rat) from Rat.intCast_le_intCast.mpr (by omega))
    grind
  refine ⟨f.toNat, by omega, ?_⟩
  have ec : ((f.toNat : Nat) : Rat) = (f : Rat) := by rw [← Rat.intCast_natCast, Int.toNat_of_nonneg n0]
  rw [ec, ha]
  have m1 : ((f : Rat) - t) * u ≤ (1 / 2) * u := Rat.mul_le_mul_of_nonneg_right (by grind) (Rat.le_of_lt hu)
  have m2 : (t - (f : Rat)) * u ≤ (1 / 2) * u := Rat.mul_le_mul_of_nonneg_right (by grind) (Rat.le_of_lt hu)
  constructor <;> grind
theorem own_err0 {s : Bool} {A B : Nat} {e : Int} {c : Nat} {q : Int} (hB : 0 < B) (hR : roundRatio b64 s A B e = .fin s c q) {k : Int} (hk1 : -1000 ≤ k) (hle : (A : Rat) / (B : Rat) * 2 ^ e ≤ 2 ^ k) :
    (c : Rat) * 2 ^ q - (A : Rat) / (B : Rat) * 2 ^ e ≤ 2 ^ (k - 54) ∧ (A : Rat) / (B : Rat) * 2 ^ e - (c : Rat) * 2 ^ q ≤ 2 ^ (k - 54) := by
  obtain ⟨n, hn, h1, h2⟩ := own_grid (own_ratio_nonneg A B e) hle
  rcases Nat.lt_or_eq_of_le hn with hlt | heq
  · exact own_near hB hR (c' := n) (q' := k - 53) hlt (by omega) h1 h2
  · subst heq
    have e3 : ((2 ^ 53 : Nat) : Rat) * 2 ^ (k - 53) = ((2 ^ 52 : Nat) : Rat) * 2 ^ (k - 52) := by
      rw [own_p_nat, own_p_nat, ← own_p_add, ← own_p_add]; congr 1
      show (53 : Int) + (k - 53) = 52 + (k - 52); omega
    rw [e3] at h1 h2
    exact own_near hB hR (c' := 2 ^ 52) (q' := k - 52) (by decide) (by omega) h1 h2
theorem own_p_mono {a b : Int} (h : a ≤ b) : (2 : Rat) ^ a ≤ 2 ^ b := by
  have e : (2 : Rat) ^ b = 2 ^ a * 2 ^ (b - a) := by rw [← own_p_add]; congr 1; omega
  have h1 : (1 : Rat) ≤ 2 ^ (b - a) := by
    rw [← own_p_toNat (by omega)]
    exact (show ((1 : Nat) : Rat) ≤ _ from Rat.natCast_le_natCast.mpr (Nat.one_le_two_pow))
  rw [e]
  have := Rat.mul_le_mul_of_nonneg_left h1 (Rat.le_of_lt (own_p_pos a))
  grind
/-- the error of a rounding, by a bound of what is rounded -/
theorem own_rd_err {x : UInt64} {r : Rat} (h : own_rd x r) {k : Int} (hk1 : -1000 ≤ k) (hk2 : k ≤ 1000) (h1 : r ≤ (2 : Rat) ^ k) (h2 : -((2 : Rat) ^ k) ≤ r) : ∃ v, own_is x v ∧ v - r ≤ 2 ^ (k - 54) ∧ r - v ≤ 2 ^ (k - 54) := by
  have hm := own_p_mono hk2
  obtain ⟨v, hv⟩ := own_rd_fin h (Rat.le_trans h1 hm) (Rat.le_trans (Rat.neg_le_neg hm) h2)
  refine ⟨v, hv, ?_⟩
  obtain ⟨s, A, B, e, hB, hx, hr⟩ := h
  obtain ⟨s', c, q, hx', hv'⟩ := hv
  rcases roundRatio_cases b64 s A B e with ⟨c2, q2, hc⟩ | hc
  · rw [hx, hc] at hx'
    cases hx'
    rw [own_signed_ratio] at hr
    rw [own_signed_pow] at hv'
    have hle : (A : Rat) / (B : Rat) * 2 ^ e ≤ 2 ^ k := by
      cases s
      · rw [if_neg (by decide)] at hr; rw [← hr]; exact h1
      · rw [if_pos rfl] at hr
        have : (A : Rat) / (B : Rat) * 2 ^ e = -r := by rw [hr, Rat.neg_neg]
        rw [this]; grind
    obtain ⟨g1, g2⟩ := own_err0 hB hc hk1 hle
    cases s
    · rw [if_neg (by decide)] at hr hv'; rw [hr, hv']; exact ⟨g1, g2⟩
    · rw [if_pos rfl] at hr hv'; rw [hr, hv']; constructor <;> grind
  · rw [hx, hc] at hx'; cases hx'
/-- a double that is a whole number, as the library says it -/
theorem own_whole {x : UInt64} {i : Int} (h : own_is x (i : Rat)) : DInt i x := by
  obtain ⟨s, c, q, hx, hr⟩ := h
  show Whole i (val64 x)
  rw [hx]
  show signed s (c * 2 ^ q.toNat) = i * ((2 ^ (-q).toNat : Nat) : Int)
  rw [← Rat.intCast_inj, own_signed_cast, Rat.intCast_mul, Rat.intCast_natCast]
  rcases Int.le_total 0 q with h0 | h0
  · rw [own_p_toNat h0, show (-q).toNat = 0 by omega, hr]
    rw [show ((2 ^ 0 : Nat) : Rat) = 1 from rfl, Rat.mul_one]
  · rw [own_p_toNat (a := -q) (by omega), show q.toNat = 0 by omega, hr, show ((2 ^ 0 : Nat) : Rat) = 1 from rfl, Rat.mul_one, Rat.mul_assoc, own_p_neg, Rat.mul_one]
theorem own_isd2l {x : UInt64} {a : Int64} (h : own_is x ((a.toInt : Int) : Rat)) : FP.d2l x = a := d2l_int (own_whole h)
/-- a whole number below 2^63, rounded: a whole number, at most 512 off -/
theorem own_rd_int {x : UInt64} {i : Int} (h : own_rd x (i : Rat)) (h1 : i ≤ 9223372036854775807) (h2 : -9223372036854775807 ≤ i) : ∃ j : Int, own_is x (j : Rat) ∧ j - i ≤ 512 ∧ i - j ≤ 512 := by
  rcases Nat.lt_or_ge i.natAbs (2 ^ 53) with hs | hs
  · exact ⟨i, own_rd_exact h (m := i) (k := 0) (by rw [Rat.zpow_zero, Rat.mul_one]) hs (by decide) (by decide), by omega, by omega⟩
  · have e63 : (2 : Rat) ^ (63 : Int) = 9223372036854775808 := by decide +kernel
    have e9 : (2 : Rat) ^ ((63 : Int) - 54) = 512 := by decide +kernel
    have i1 : ((i : Int) : Rat) ≤ 9223372036854775808 := (show ((i : Int) : Rat) ≤ ((9223372036854775808 : Int) : Rat) from Rat.intCast_le_intCast.mpr (by omega))
    have i2 : (-9223372036854775808 : Rat) ≤ ((i : Int) : Rat) := (show ((-9223372036854775808 : Int) : Rat) ≤ ((i : Int) : Rat) from Rat.intCast_le_intCast.mpr (by omega))
    obtain ⟨v, hv, g1, g2⟩ := own_rd_err h (k := 63) (by decide) (by decide) (by rw [e63]; exact i1) (by rw [e63]; exact i2)
    rw [e9] at g1 g2
    have hv0 := hv
    obtain ⟨s, c, q, hx, hr⟩ := hv0
    have hf := val64_fits x
    rw [hx] at hf
    have hc : c < 2 ^ 53 := hf.1
    obtain ⟨V, hV⟩ := own_rep' (r := 9007199254740992) (m := 1) (k := 53) (by decide +kernel) (by decide) (by decide) (by decide)
    have hq : 0 ≤ q := by
      refine Int.not_lt.mp fun q0 => ?_
      have c1 : (c : Rat) * 2 ^ q < 9007199254740992 := by
        have c2 : ((c : Nat) : Rat) < 9007199254740992 := (show ((c : Nat) : Rat) < ((9007199254740992 : Nat) : Rat) from Rat.natCast_lt_natCast.mpr hc)
        have c3 : (2 : Rat) ^ q ≤ 1 := by
          have := own_p_mono (show q ≤ 0 by omega)
          rw [Rat.zpow_zero] at this; exact this
        have c4 : (0 : Rat) ≤ ((c : Nat) : Rat) := Rat.natCast_nonneg
        have := Rat.mul_le_mul_of_nonneg_left c3 c4
        grind
      have cneg : (0 : Rat) ≤ (c : Rat) * 2 ^ q := Rat.mul_nonneg Rat.natCast_nonneg (Rat.le_of_lt (own_p_pos q))
      rw [own_signed_pow] at hr
      rcases Int.le_total 0 i with hi | hi
      · have : (9007199254740992 : Rat) ≤ ((i : Int) : Rat) := (show ((9007199254740992 : Int) : Rat) ≤ ((i : Int) : Rat) from Rat.intCast_le_intCast.mpr (by omega))
        have := own_rd_ge' h hv hV this
        cases s <;> simp only [Bool.false_eq_true, if_true, if_false] at hr <;> grind
      · have : ((i : Int) : Rat) ≤ -9007199254740992 := (show ((i : Int) : Rat) ≤ ((-9007199254740992 : Int) : Rat) from Rat.intCast_le_intCast.mpr (by omega))
        have := own_rd_le' h hv (own_neg hV) this
        cases s <;> simp only [Bool.false_eq_true, if_true, if_false] at hr <;> grind
    have hj : v = ((signed s (c * 2 ^ q.toNat) : Int) : Rat) := by rw [own_signed_cast, own_p_toNat hq]; exact hr
    refine ⟨signed s (c * 2 ^ q.toNat), hj ▸ hv, ?_, ?_⟩
    · rw [hj, ← Rat.intCast_sub] at g1
      exact Rat.intCast_le_intCast.mp (show _ ≤ ((512 : Int) : Rat) from g1)
    · rw [hj, ← Rat.intCast_sub] at g2
      exact Rat.intCast_le_intCast.mp (show _ ≤ ((512 : Int) : Rat) from g2)
theorem own_rd_small {x : UInt64} {i : Int} (h : own_rd x (i : Rat)) (hs : i.natAbs < 2 ^ 53) : own_is x (i : Rat) :=
  own_rd_exact h (m := i) (k := 0) (by rw [Rat.zpow_zero, Rat.mul_one]) hs (by decide) (by decide)
end OwnNum5
section OwnNum6
open Jvm.FP.Core Jvm.Free.Fl
/-- a rational that is a double -/
def own_Rep (r : Rat) : Prop := ∃ m k : Int, r = (m : Rat) * (2 : Rat) ^ k ∧ m.natAbs < 2 ^ 53 ∧ -1074 ≤ k ∧ k ≤ 971
theorem own_rd_rep {x : UInt64} {r : Rat} (h : own_rd x r) (hr : own_Rep r) : own_is x r := by
  obtain ⟨m, k, h1, h2, h3, h4⟩ := hr
  exact own_rd_exact h h1 h2 h3 h4
theorem own_rep_int {i : Int} (h : i.natAbs < 2 ^ 53) : own_Rep (i : Rat) := ⟨i, 0, by rw [Rat.zpow_zero, Rat.mul_one], h, by decide, by decide⟩
/-- in halves, quarters ..: j binary places -/
theorem own_rep_fix {r : Rat} (m : Int) (j : Nat) (hj : j ≤ 1000) (hr : r * ((2 ^ j : Nat) : Rat) = (m : Rat)) (hm : m.natAbs < 2 ^ 53) : own_Rep r := by
  refine ⟨m, -(j : Int), ?_, hm, by omega, by omega⟩
  rw [← hr, own_p_nat, Rat.mul_assoc, own_p_neg, Rat.mul_one]
theorem own_nb {x y : Int} {X Y : Nat} (hx : x.natAbs ≤ X) (hy : y.natAbs ≤ Y) : (x * y).natAbs ≤ X * Y := by rw [Int.natAbs_mul]; exact Nat.mul_le_mul hx hy
theorem own_rd_self {z x : UInt64} {r : Rat} (h : own_rd z r) (hx : own_is x r) (h1 : r ≤ 1606938044258990275541962092341162602522202993782792835301376) (h2 : -1606938044258990275541962092341162602522202993782792835301376 ≤ r) : own_is z r := by
  obtain ⟨v, hv⟩ := own_rd_finN h h1 h2
  have : v = r := Rat.le_antisymm (own_rd_le' h hv hx Rat.le_refl) (own_rd_ge' h hv hx Rat.le_refl)
  exact this ▸ hv
/-- two roundings of one rational are one number -/
theorem own_rd_same {z x : UInt64} {r a b : Rat} (h : own_rd z r) (h' : own_rd x r) (ha : own_is z a) (hb : own_is x b) : a = b := (own_is_eq ha hb).mp (own_rd_uniq h h')
theorem own_cle {a b : Int} (h : a ≤ b) : ((a : Int) : Rat) ≤ ((b : Int) : Rat) := Rat.intCast_le_intCast.mpr h
end OwnNum6
/-! relative errors: own_Q x r n says that x is r but for n units of 2^-52 of r -/
section OwnRel
open Jvm.FP.Core Jvm.Free.Fl
def own_e : Rat := 1 / 4503599627370496
theorem own_k {B : Rat} (h0 : (2 : Rat) ^ (-200 : Int) ≤ B) (h1 : B ≤ (2 : Rat) ^ (200 : Int)) : ∃ k : Int, -200 ≤ k ∧ k ≤ 200 ∧ B ≤ (2 : Rat) ^ k ∧ (2 : Rat) ^ (k - 1) ≤ B := by
  have H : ∀ n : Nat, B ≤ (2 : Rat) ^ ((n : Int) - 200) → ∃ k : Int, -200 ≤ k ∧ k ≤ (n : Int) - 200 ∧ B ≤ (2 : Rat) ^ k ∧ (2 : Rat) ^ (k - 1) ≤ B := by
    intro n
    induction n with
    | zero => intro h; exact ⟨-200, by omega, by omega, by simpa using h, Rat.le_trans (own_p_mono (by omega)) h0⟩
    | succ n ih =>
      intro h
      by_cases hc : B ≤ (2 : Rat) ^ ((n : Int) - 200)
      · obtain ⟨k, k1, k2, k3, k4⟩ := ih hc
        exact ⟨k, k1, by omega, k3, k4⟩
      · refine ⟨((n + 1 : Nat) : Int) - 200, by omega, by omega, h, ?_⟩
        rw [show ((n + 1 : Nat) : Int) - 200 - 1 = (n : Int) - 200 by omega]
        exact Rat.le_of_lt (Rat.not_le.mp hc)
  obtain ⟨k, k1, k2, k3, k4⟩ := H 400 h1
  exact ⟨k, k1, by omega, k3, k4⟩
theorem own_c100 : (2 : Rat) ^ (-200 : Int) ≤ 1 / 1267650600228229401496703205376 := by decide +kernel
theorem own_c101 : (2535301200456458802993406410752 : Rat) ≤ (2 : Rat) ^ (200 : Int) := by decide +kernel
theorem own_relB {x : UInt64} {r B : Rat} (h : own_rd x r) (h0 : 1 / 2535301200456458802993406410752 ≤ B) (h1 : B ≤ 2535301200456458802993406410752) (h2 : r ≤ B) (h3 : -B ≤ r) : ∃ v, own_is x v ∧ v - r ≤ own_e * B ∧ r - v ≤ own_e * B := by
  obtain ⟨k, k1, k2, k3, k4⟩ := own_k (B := B) (Rat.le_trans (by decide +kernel) h0) (Rat.le_trans h1 own_c101)
  obtain ⟨v, v1, v2, v3⟩ := own_rd_err h (k := k) (by omega) (by omega) (Rat.le_trans h2 k3) (by grind)
  have e : (2 : Rat) ^ (k - 54) ≤ own_e * B := by
    rw [show k - 54 = (-53 : Int) + (k - 1) by omega, own_p_add]
    have c : (2 : Rat) ^ (-53 : Int) ≤ own_e := by decide +kernel
    have p := own_p_pos (k - 1)
    exact Rat.le_trans (Rat.mul_le_mul_of_nonneg_right c (Rat.le_of_lt p)) (Rat.mul_le_mul_of_nonneg_left k4 (by decide +kernel))
  exact ⟨v, v1, Rat.le_trans v2 e, Rat.le_trans v3 e⟩
theorem own_pb {x y a b : Rat} (x1 : x ≤ a) (x2 : -a ≤ x) (y1 : y ≤ b) (y2 : -b ≤ y) : x * y ≤ a * b ∧ -(a * b) ≤ x * y := by
  have p1 := Rat.mul_nonneg (show 0 ≤ a - x by grind) (show 0 ≤ b + y by grind)
  have p2 := Rat.mul_nonneg (show 0 ≤ a + x by grind) (show 0 ≤ b - y by grind)
  have p3 := Rat.mul_nonneg (show 0 ≤ a - x by grind) (show 0 ≤ b - y by grind)
  have p4 := Rat.mul_nonneg (show 0 ≤ a + x by grind) (show 0 ≤ b + y by grind)
  constructor <;> grind
def own_rg (r : Rat) : Prop := r = 0 ∨ (1 / 1267650600228229401496703205376 ≤ r ∧ r ≤ 1267650600228229401496703205376) ∨ (1 / 1267650600228229401496703205376 ≤ -r ∧ -r ≤ 1267650600228229401496703205376)
def own_rh (r : Rat) : Prop := r = 0 ∨ (1 / 2535301200456458802993406410752 ≤ r ∧ r ≤ 2535301200456458802993406410752) ∨ (1 / 2535301200456458802993406410752 ≤ -r ∧ -r ≤ 2535301200456458802993406410752)
theorem own_th {x : UInt64} {v : Rat} (h : own_rd x v) (hv : own_rh v) : ∃ t, own_is x (v * (1 + t)) ∧ -own_e ≤ t ∧ t ≤ own_e := by
  rcases hv with rfl | ⟨h0, h1⟩ | ⟨h0, h1⟩
  · exact ⟨0, by rw [Rat.zero_mul]; exact own_rd_exact h (m := 0) (k := 0) (by decide +kernel) (by decide +kernel) (by decide +kernel) (by decide +kernel), by decide +kernel, by decide +kernel⟩
  · obtain ⟨w, w1, w2, w3⟩ := own_relB h h0 h1 Rat.le_refl (by grind)
    have hp : 0 < v := by grind
    have hne : v ≠ 0 := Rat.ne_of_gt hp
    refine ⟨(w - v) / v, ?_, (own_le_div hp).mpr (by grind), (own_div_le hp).mpr (by grind)⟩
    rw [show v * (1 + (w - v) / v) = w by grind]
    exact w1
  · obtain ⟨w, w1, w2, w3⟩ := own_relB (B := -v) h h0 h1 (by grind) (by grind)
    have hp : 0 < -v := by grind
    have hne : v ≠ 0 := by grind
    refine ⟨(v - w) / (-v), ?_, (own_le_div hp).mpr (by grind), (own_div_le hp).mpr (by grind)⟩
    rw [show v * (1 + (v - w) / (-v)) = w by grind]
    exact w1
def own_Q (x : UInt64) (r n : Rat) : Prop := ∃ t, own_is x (r * (1 + t)) ∧ -(n * own_e) ≤ t ∧ t ≤ n * own_e
theorem own_Q_ex {x : UInt64} {r : Rat} (h : own_is x r) : own_Q x r 0 := ⟨0, by rw [Rat.add_zero, Rat.mul_one]; exact h, by decide +kernel, by decide +kernel⟩
theorem own_Q_le {x : UInt64} {r n m : Rat} (h : own_Q x r n) (hm : n ≤ m) : own_Q x r m := by
  obtain ⟨t, h1, h2, h3⟩ := h
  have := Rat.mul_le_mul_of_nonneg_right hm (show (0 : Rat) ≤ own_e by decide +kernel)
  exact ⟨t, h1, by grind, by grind⟩
theorem own_Q_no {x : UInt64} {r n : Rat} (h : own_Q x r n) : NoNaN64 x := by
  obtain ⟨t, h1, -⟩ := h
  exact own_is_no h1
theorem own_one_t {t n : Rat} (hn : n ≤ 1000) (h2 : -(n * own_e) ≤ t) (h3 : t ≤ n * own_e) : -(1 / 4) ≤ t ∧ t ≤ 1 / 4 := by
  have := Rat.mul_le_mul_of_nonneg_right hn (show (0 : Rat) ≤ own_e by decide +kernel)
  have c : 1000 * own_e ≤ 1 / 4 := by decide +kernel
  constructor <;> grind
theorem own_rh_of {r t : Rat} (hr : own_rg r) (h2 : -(1 / 4) ≤ t) (h3 : t ≤ 1 / 4) : own_rh (r * (1 + t)) := by
  rcases hr with rfl | ⟨a, b⟩ | ⟨a, b⟩
  · exact Or.inl (Rat.zero_mul _)
  · refine Or.inr (Or.inl ?_)
    have p1 := Rat.mul_nonneg (show 0 ≤ r by grind) (show 0 ≤ 1 / 4 - t by grind)
    have p2 := Rat.mul_nonneg (show 0 ≤ r by grind) (show 0 ≤ t + 1 / 4 by grind)
    constructor <;> grind
  · refine Or.inr (Or.inr ?_)
    have p1 := Rat.mul_nonneg (show 0 ≤ -r by grind) (show 0 ≤ 1 / 4 - t by grind)
    have p2 := Rat.mul_nonneg (show 0 ≤ -r by grind) (show 0 ≤ t + 1 / 4 by grind)
    constructor <;> grind
theorem own_Q_rd {x : UInt64} {v r n t : Rat} (h : own_rd x v) (hv : v = r * (1 + t)) (hr : own_rg r) (h2 : -(n * own_e) ≤ t) (h3 : t ≤ n * own_e) (hn : n ≤ 1000) : own_Q x r (n + 2) := by
  have b := own_one_t hn h2 h3
  subst hv
  obtain ⟨s, s1, s2, s3⟩ := own_th h (own_rh_of hr b.1 b.2)
  refine ⟨t + s + t * s, ?_, ?_, ?_⟩
  · rw [show r * (1 + (t + s + t * s)) = r * (1 + t) * (1 + s) by grind]
    exact s1
  · have p := own_pb b.2 b.1 s3 s2
    have q : (n + 2) * own_e = n * own_e + 2 * own_e := by grind
    have e0 : 0 ≤ own_e := by decide +kernel
    grind
  · have p := own_pb b.2 b.1 s3 s2
    have q : (n + 2) * own_e = n * own_e + 2 * own_e := by grind
    have e0 : 0 ≤ own_e := by decide +kernel
    grind
theorem own_tt {t s n m : Rat} (h2 : -(n * own_e) ≤ t) (h3 : t ≤ n * own_e) (g2 : -(m * own_e) ≤ s) (g3 : s ≤ m * own_e) (hn0 : 0 ≤ n) (hm0 : 0 ≤ m) (hn : n ≤ 400) (hm : m ≤ 400) : -((n + m + 1) * own_e) ≤ t + s + t * s ∧ t + s + t * s ≤ (n + m + 1) * own_e := by
  have p := own_pb h3 h2 g3 g2
  have a : n * own_e * (m * own_e) ≤ own_e := by
    have e0 : 0 ≤ own_e := by decide +kernel
    have c1 : n * own_e ≤ 400 * own_e := Rat.mul_le_mul_of_nonneg_right hn e0
    have c2 : m * own_e ≤ 400 * own_e := Rat.mul_le_mul_of_nonneg_right hm e0
    have c3 : 0 ≤ n * own_e := Rat.mul_nonneg hn0 e0
    have c4 : 0 ≤ m * own_e := Rat.mul_nonneg hm0 e0
    exact Rat.le_trans (Rat.mul_le_mul_of_nonneg_right c1 c4) (Rat.le_trans (Rat.mul_le_mul_of_nonneg_left c2 (by decide +kernel)) (by decide +kernel))
  have q : (n + m + 1) * own_e = n * own_e + m * own_e + own_e := by grind
  constructor <;> grind
theorem own_Q_mul {x y : UInt64} {r s n m : Rat} (hx : own_Q x r n) (hy : own_Q y s m) (hr : own_rg (r * s)) (hn0 : 0 ≤ n) (hm0 : 0 ≤ m) (hn : n ≤ 400) (hm : m ≤ 400) : own_Q (FP.dmul x y) (r * s) (n + m + 3) := by
  obtain ⟨t, h1, h2, h3⟩ := hx
  obtain ⟨u, g1, g2, g3⟩ := hy
  have b := own_tt h2 h3 g2 g3 hn0 hm0 hn hm
  have q := own_Q_rd (own_mul h1 g1) (r := r * s) (t := t + u + t * u) (n := n + m + 1) (by grind) hr b.1 b.2 (by grind)
  rw [show n + m + 3 = n + m + 1 + 2 by grind]
  exact q
theorem own_Q_div {x y : UInt64} {r s n m : Rat} (hx : own_Q x r n) (hy : own_Q y s m) (hs : s ≠ 0) (hr : own_rg (r / s)) (hn0 : 0 ≤ n) (hm0 : 0 ≤ m) (hn : n ≤ 100) (hm : m ≤ 100) : own_Q (FP.ddiv x y) (r / s) (2 * n + 2 * m + 2) := by
  obtain ⟨t, h1, h2, h3⟩ := hx
  obtain ⟨u, g1, g2, g3⟩ := hy
  have b := own_one_t (t := u) (n := m) (by grind) g2 g3
  have hu : 0 < 1 + u := by grind
  have hune : 1 + u ≠ 0 := Rat.ne_of_gt hu
  have hne : s * (1 + u) ≠ 0 := (by intro h; rcases Rat.mul_eq_zero.mp h with h | h; exact hs h; exact hune h)
  have d := own_div h1 g1 hne
  have e0 : 0 ≤ own_e := by decide +kernel
  have c3 : 0 ≤ n * own_e := Rat.mul_nonneg hn0 e0
  have c4 : 0 ≤ m * own_e := Rat.mul_nonneg hm0 e0
  have q : (2 * n + 2 * m) * own_e = 2 * (n * own_e) + 2 * (m * own_e) := by grind
  have k1 : (t - u) / (1 + u) ≤ (2 * n + 2 * m) * own_e := (own_div_le hu).mpr (by
    have p := Rat.mul_nonneg (show 0 ≤ (2 * n + 2 * m) * own_e by grind) (show 0 ≤ u + 1 / 4 by grind)
    grind)
  have k2 : -((2 * n + 2 * m) * own_e) ≤ (t - u) / (1 + u) := (own_le_div hu).mpr (by
    have p := Rat.mul_nonneg (show 0 ≤ (2 * n + 2 * m) * own_e by grind) (show 0 ≤ u + 1 / 4 by grind)
    grind)
  exact own_Q_rd d (r := r / s) (t := (t - u) / (1 + u)) (n := 2 * n + 2 * m) (by grind) hr k2 k1 (by grind)
theorem own_Q_add {x y : UInt64} {r s n : Rat} (hx : own_Q x r n) (hy : own_Q y s n) (h0 : 0 ≤ r) (h0' : 0 ≤ s) (hr : own_rg (r + s)) (hn0 : 0 ≤ n) (hn : n ≤ 400) : own_Q (FP.dadd x y) (r + s) (n + 2) := by
  obtain ⟨t, h1, h2, h3⟩ := hx
  obtain ⟨u, g1, g2, g3⟩ := hy
  by_cases hz : r + s = 0
  · have e1 : r = 0 := by grind
    have e2 : s = 0 := by grind
    subst e1 e2
    have d := own_add h1 g1
    exact own_Q_rd d (r := 0 + 0) (t := t) (n := n) (by grind) hr h2 h3 (by grind)
  · have hp : 0 < r + s := by grind
    have d := own_add h1 g1
    have k1 : (r * t + s * u) / (r + s) ≤ n * own_e := (own_div_le hp).mpr (by
      have p1 := Rat.mul_le_mul_of_nonneg_left h3 h0
      have p2 := Rat.mul_le_mul_of_nonneg_left g3 h0'
      grind)
    have k2 : -(n * own_e) ≤ (r * t + s * u) / (r + s) := (own_le_div hp).mpr (by
      have p1 := Rat.mul_le_mul_of_nonneg_left h2 h0
      have p2 := Rat.mul_le_mul_of_nonneg_left g2 h0'
      grind)
    exact own_Q_rd d (r := r + s) (t := (r * t + s * u) / (r + s)) (n := n) (by grind) hr k2 k1 (by grind)
theorem own_Q_neg {x : UInt64} {r n : Rat} (hx : own_Q x r n) : own_Q (FP.dneg x) (-r) n := by
  obtain ⟨t, h1, h2, h3⟩ := hx
  exact ⟨t, by rw [show -r * (1 + t) = -(r * (1 + t)) by grind]; exact own_neg h1, h2, h3⟩
/-- what 'near' needs -/
def own_N (x : UInt64) (g W : Rat) : Prop := ∃ v, own_is x v ∧ v - g ≤ 100 * own_e * W ∧ g - v ≤ 100 * own_e * W
theorem own_N_Q {x : UInt64} {r n W : Rat} (hx : own_Q x r n) (hn0 : 0 ≤ n) (hn : n ≤ 100) (h1 : r ≤ W) (h2 : -W ≤ r) : own_N x r W := by
  obtain ⟨t, g1, g2, g3⟩ := hx
  have e0 : 0 ≤ own_e := by decide +kernel
  have W0 : 0 ≤ W := by grind
  have p := own_pb h1 h2 g3 g2
  have c := Rat.mul_le_mul_of_nonneg_left (Rat.mul_le_mul_of_nonneg_right hn e0) W0
  exact ⟨_, g1, by grind, by grind⟩
theorem own_N_c {x y : UInt64} {c X n W : Rat} (hg : ∀ v, own_is y v → own_rd x (c + v)) (hy : own_Q y X n) (hn0 : 0 ≤ n) (hn : n ≤ 90) (h1 : X ≤ W) (h2 : -W ≤ X) (hc1 : c ≤ 1) (hc2 : -1 ≤ c) (hW : W ≤ 100000000000000000000) : own_N x (c + X) (1 + W) := by
  obtain ⟨t, g1, g2, g3⟩ := hy
  have b := own_one_t (by grind) g2 g3
  have e0 : 0 ≤ own_e := by decide +kernel
  have W0 : 0 ≤ W := by grind
  have p := own_pb h1 h2 g3 g2
  have p' := own_pb h1 h2 b.2 b.1
  have cc := Rat.mul_le_mul_of_nonneg_left (Rat.mul_le_mul_of_nonneg_right hn e0) W0
  have ew : 0 ≤ W * own_e := Rat.mul_nonneg W0 e0
  obtain ⟨v, v1, v2, v3⟩ := own_relB (B := 2 * (1 + W)) (hg _ g1) (by grind) (by grind) (by grind) (by grind)
  exact ⟨v, v1, by grind, by grind⟩
theorem own_near_ok {g ad nd sd tl : UInt64} {G W A N S : Rat} (hg : own_N g G W) (ha : own_is ad A) (hA : 0 ≤ A) (hN : A * G = N) (hS : A * W = S) (hn : own_rd nd N) (hs : own_rd sd S) (n1 : N ≤ S) (n2 : -S ≤ N) (s1 : 1 ≤ S) (s2 : S ≤ 1152921504606846976) (htl : own_is tl ((4835703278458517 : Rat) / 4835703278458516698824704)) :
    NoNaN64 (FP.dmul g ad) ∧ NoNaN64 (FP.dsub (FP.dmul g ad) nd) ∧ NoNaN64 (FP.dmul tl sd) ∧ ∃ D b, own_is (FP.dsub (FP.dmul g ad) nd) D ∧ own_is (FP.dmul tl sd) b ∧ D ≤ b ∧ -D ≤ b := by
  obtain ⟨v, g1, g2, g3⟩ := hg
  have e : own_e = 1 / 4503599627370496 := rfl
  rw [e] at g2 g3
  have q2 := Rat.mul_le_mul_of_nonneg_left g2 hA
  have q3 := Rat.mul_le_mul_of_nonneg_left g3 hA
  have k2 : v * A - N ≤ 100 / 4503599627370496 * S := by grind
  have k3 : N - v * A ≤ 100 / 4503599627370496 * S := by grind
  have m := own_mul g1 ha
  obtain ⟨P, P1, P2, P3⟩ := own_relB (B := 2 * S) m (by grind) (by grind) (by grind) (by grind)
  obtain ⟨N', N1, N2, N3⟩ := own_relB (B := S) hn (by grind) (by grind) n1 n2
  rw [e] at P2 P3 N2 N3
  have d := own_sub P1 N1
  obtain ⟨D, D1, D2, D3⟩ := own_relB (B := S) d (by grind) (by grind) (by grind) (by grind)
  obtain ⟨S', S1, S2, S3⟩ := own_relB (B := S) hs (by grind) (by grind) Rat.le_refl (by grind)
  rw [e] at D2 D3 S2 S3
  have f := own_mul htl S1
  obtain ⟨b, b1, b2, b3⟩ := own_relB (B := S) f (by grind) (by grind) (by grind) (by grind)
  rw [e] at b2 b3
  exact ⟨own_rd_no m, own_rd_no d, own_rd_no f, D, b, D1, b1, by grind, by grind⟩
end OwnRel
section OwnVogel
open Jvm.FP.Core Jvm.Free.Fl
theorem own_N_s {x y : UInt64} {c X n W : Rat} (hg : ∀ v, own_is y v → own_rd x (c - v)) (hy : own_Q y X n) (hn0 : 0 ≤ n) (hn : n ≤ 90) (h1 : X ≤ W) (h2 : -W ≤ X) (hc1 : c ≤ 1) (hc2 : -1 ≤ c) (hW : W ≤ 100000000000000000000) : own_N x (c - X) (1 + W) := by
  obtain ⟨t, g1, g2, g3⟩ := hy
  have b := own_one_t (by grind) g2 g3
  have e0 : 0 ≤ own_e := by decide +kernel
  have W0 : 0 ≤ W := by grind
  have p := own_pb h1 h2 g3 g2
  have p' := own_pb h1 h2 b.2 b.1
  have cc := Rat.mul_le_mul_of_nonneg_left (Rat.mul_le_mul_of_nonneg_right hn e0) W0
  have ew : 0 ≤ W * own_e := Rat.mul_nonneg W0 e0
  obtain ⟨v, v1, v2, v3⟩ := own_relB (B := 2 * (1 + W)) (hg _ g1) (by grind) (by grind) (by grind) (by grind)
  exact ⟨v, v1, by grind, by grind⟩
theorem own_N_no {x : UInt64} {g W : Rat} (h : own_N x g W) : NoNaN64 x := by
  obtain ⟨v, h1, -⟩ := h
  exact own_is_no h1
/-- zero, or between a and b in size -/
def own_rb (r a b : Rat) : Prop := r = 0 ∨ (a ≤ r ∧ r ≤ b) ∨ (a ≤ -r ∧ -r ≤ b)
theorem own_rb_mul {r s a b c d : Rat} (h : own_rb r a b) (g : own_rb s c d) (a0 : 0 < a) (c0 : 0 < c) : own_rb (r * s) (a * c) (b * d) := by
  have key : ∀ {x y : Rat}, a ≤ x → x ≤ b → c ≤ y → y ≤ d → a * c ≤ x * y ∧ x * y ≤ b * d := by
    intro x y x1 x2 y1 y2
    have p1 := Rat.mul_le_mul_of_nonneg_right x1 (show 0 ≤ c by grind)
    have p2 := Rat.mul_le_mul_of_nonneg_left y1 (show 0 ≤ x by grind)
    have p3 := Rat.mul_le_mul_of_nonneg_right x2 (show 0 ≤ y by grind)
    have p4 := Rat.mul_le_mul_of_nonneg_left y2 (show 0 ≤ b by grind)
    exact ⟨Rat.le_trans p1 p2, Rat.le_trans p3 p4⟩
  rcases h with rfl | ⟨h1, h2⟩ | ⟨h1, h2⟩
  · exact Or.inl (Rat.zero_mul _)
  · rcases g with rfl | ⟨g1, g2⟩ | ⟨g1, g2⟩
    · exact Or.inl (Rat.mul_zero _)
    · exact Or.inr (Or.inl (key h1 h2 g1 g2))
    · have := key h1 h2 g1 g2
      exact Or.inr (Or.inr ⟨by grind, by grind⟩)
  · rcases g with rfl | ⟨g1, g2⟩ | ⟨g1, g2⟩
    · exact Or.inl (Rat.mul_zero _)
    · have := key h1 h2 g1 g2
      exact Or.inr (Or.inr ⟨by grind, by grind⟩)
    · have := key h1 h2 g1 g2
      exact Or.inr (Or.inl ⟨by grind, by grind⟩)
theorem own_rb_div {r s a b c d : Rat} (h : own_rb r a b) (a0 : 0 < a) (c0 : 0 < c) (s1 : c ≤ s) (s2 : s ≤ d) : own_rb (r / s) (a / d) (b / c) := by
  have hs : 0 < s := by grind
  have hd : 0 < d := by grind
  have key : ∀ {x : Rat}, a ≤ x → x ≤ b → a / d ≤ x / s ∧ x / s ≤ b / c := by
    intro x x1 x2
    have hx : 0 ≤ x := by grind
    constructor
    · refine (own_le_div hs).mpr ?_
      have e : a / d * s = a * s / d := by grind
      rw [e]
      refine (own_div_le hd).mpr ?_
      have p1 := Rat.mul_le_mul_of_nonneg_left s2 (show 0 ≤ a by grind)
      have p2 := Rat.mul_le_mul_of_nonneg_right x1 (show 0 ≤ d by grind)
      exact Rat.le_trans p1 p2
    · refine (own_div_le hs).mpr ?_
      have e : b / c * s = b * s / c := by grind
      rw [e]
      refine (own_le_div c0).mpr ?_
      have p1 := Rat.mul_le_mul_of_nonneg_left s1 (show 0 ≤ x by grind)
      have p2 := Rat.mul_le_mul_of_nonneg_right x2 (show 0 ≤ s by grind)
      exact Rat.le_trans p1 p2
  rcases h with rfl | ⟨h1, h2⟩ | ⟨h1, h2⟩
  · exact Or.inl (by grind)
  · exact Or.inr (Or.inl (key h1 h2))
  · have := key h1 h2
    exact Or.inr (Or.inr ⟨by grind, by grind⟩)
theorem own_rb_pos {s c d : Rat} (h1 : c ≤ s) (h2 : s ≤ d) : own_rb s c d := Or.inr (Or.inl ⟨h1, h2⟩)
theorem own_rb_neg {r a b : Rat} (h : own_rb r a b) : own_rb (-r) a b := by
  rcases h with rfl | h | h
  · exact Or.inl (by decide +kernel)
  · exact Or.inr (Or.inr ⟨by grind, by grind⟩)
  · exact Or.inr (Or.inl h)
theorem own_rg_of {r a b : Rat} (h : own_rb r a b) (ha : 1 / 1267650600228229401496703205376 ≤ a) (hb : b ≤ 1267650600228229401496703205376) : own_rg r := by
  rcases h with h | ⟨h1, h2⟩ | ⟨h1, h2⟩
  · exact Or.inl h
  · exact Or.inr (Or.inl ⟨Rat.le_trans ha h1, Rat.le_trans h2 hb⟩)
  · exact Or.inr (Or.inr ⟨Rat.le_trans ha h1, Rat.le_trans h2 hb⟩)
theorem own_c8 : own_Q 4605380978949069210 (4 / 5) 1 := ⟨1 / 18014398509481984, ⟨false, 7205759403792794, -53, by decide +kernel, by decide +kernel⟩, by decide +kernel, by decide +kernel⟩
theorem own_c16 : own_Q 4609884578576439706 (8 / 5) 1 := ⟨1 / 18014398509481984, ⟨false, 7205759403792794, -52, by decide +kernel, by decide +kernel⟩, by decide +kernel, by decide +kernel⟩
theorem own_m1 : own_is 13830554455654793216 (-1) := ⟨true, 2 ^ 52, -52, by decide +kernel, by decide +kernel⟩
theorem own_Qm {x y : UInt64} {r s n m z n' : Rat} (hx : own_Q x r n) (hy : own_Q y s m) (he : r * s = z) (hr : own_rg z) (hn0 : 0 ≤ n) (hm0 : 0 ≤ m) (hn : n ≤ 400) (hm : m ≤ 400) (h' : n + m + 3 ≤ n') : own_Q (FP.dmul x y) z n' := by
  subst he
  exact own_Q_le (own_Q_mul hx hy hr hn0 hm0 hn hm) h'
theorem own_Qd {x y : UInt64} {r s n m z n' : Rat} (hx : own_Q x r n) (hy : own_Q y s m) (hs : s ≠ 0) (he : r / s = z) (hr : own_rg z) (hn0 : 0 ≤ n) (hm0 : 0 ≤ m) (hn : n ≤ 100) (hm : m ≤ 100) (h' : 2 * n + 2 * m + 2 ≤ n') : own_Q (FP.ddiv x y) z n' := by
  subst he
  exact own_Q_le (own_Q_div hx hy hs hr hn0 hm0 hn hm) h'
theorem own_Qa {x y : UInt64} {r s n m k z n' : Rat} (hx : own_Q x r n) (hy : own_Q y s m) (h0 : 0 ≤ r) (h0' : 0 ≤ s) (he : r + s = z) (hr : own_rg z) (hn0 : 0 ≤ k) (hn : k ≤ 400) (kn : n ≤ k) (km : m ≤ k) (h' : k + 2 ≤ n') : own_Q (FP.dadd x y) z n' := by
  subst he
  exact own_Q_le (own_Q_add (own_Q_le hx kn) (own_Q_le hy km) h0 h0' hr hn0 hn) h'
theorem own_vogel {qd rd pd td v5 v14 v15 v20 v30 v37 v38 v46 v53 v54 v55 v60 v61 v62 v74 v77 v82 v83 v84 : UInt64} {q r p k R : Rat}
    (hq : own_is qd q) (hr : own_is rd r) (hp : own_is pd p) (ht : own_is td (5 * k)) (q1 : 1 ≤ q) (q2 : q ≤ 65536) (rb : own_rb r 1 2147483648) (p1 : 1 ≤ p) (p2 : p ≤ 4096) (kb : own_rb k 1 1023) (k0 : 0 ≤ k) (R1 : r ≤ R) (R2 : -R ≤ r) (R3 : R ≤ 2147483648)
    (h5 : FP.ddiv rd qd = v5) (h14 : FP.dmul 4605380978949069210 td = v14) (h15 : FP.dadd pd v14 = v15) (h20 : FP.dmul pd pd = v20) (h30 : FP.dneg v20 = v30) (h37 : FP.dmul qd v15 = v37) (h38 : FP.ddiv v30 v37 = v38)
    (h46 : FP.dmul v5 pd = v46) (h53 : FP.dmul 4609884578576439706 td = v53) (h54 : FP.dadd pd v53 = v54) (h55 : FP.dmul v46 v54 = v55) (h60 : FP.dmul v15 v15 = v60) (h61 : FP.ddiv v55 v60 = v61) (h62 : FP.dsub 4607182418800017408 v61 = v62)
    (h74 : FP.dmul v5 4605380978949069210 = v74) (h77 : FP.dmul v74 v20 = v77) (h82 : FP.dmul v15 v15 = v82) (h83 : FP.ddiv v77 v82 = v83) (h84 : FP.dadd 13830554455654793216 v83 = v84) :
    (NoNaN64 v5 ∧ NoNaN64 v14 ∧ NoNaN64 v15 ∧ NoNaN64 v20 ∧ NoNaN64 v37 ∧ NoNaN64 v38 ∧ NoNaN64 v46 ∧ NoNaN64 v53 ∧ NoNaN64 v54 ∧ NoNaN64 v55 ∧ NoNaN64 v60 ∧ NoNaN64 v61 ∧ NoNaN64 v62 ∧ NoNaN64 v74 ∧ NoNaN64 v77 ∧ NoNaN64 v82 ∧ NoNaN64 v83 ∧ NoNaN64 v84) ∧
    own_N v38 (-(p * p) / (q * (p + 4 * k))) (p * p / (q * (p + 4 * k))) ∧
    own_N v62 (1 - r / q * p * (p + 8 * k) / ((p + 4 * k) * (p + 4 * k))) (1 + R / q * p * (p + 8 * k) / ((p + 4 * k) * (p + 4 * k))) ∧
    own_N v84 (-1 + r / q * (4 / 5) * (p * p) / ((p + 4 * k) * (p + 4 * k))) (1 + R / q * (4 / 5) * (p * p) / ((p + 4 * k) * (p + 4 * k))) := by
  have kmax : k ≤ 1023 := by rcases kb with h | h | h <;> grind
  have qne : q ≠ 0 := by grind
  have R0 : 0 ≤ R := by grind
  have Rb : own_rb R 0 2147483648 := Or.inr (Or.inl ⟨R0, R3⟩)
  have D1 : 1 ≤ p + 4 * k := by grind
  have D2 : p + 4 * k ≤ 8188 := by grind
  have E1 : 1 ≤ p + 8 * k := by grind
  have E2 : p + 8 * k ≤ 12280 := by grind
  have Dne : p + 4 * k ≠ 0 := by grind
  have DD1 : 1 ≤ (p + 4 * k) * (p + 4 * k) := by
    have := Rat.mul_le_mul_of_nonneg_right D1 (show 0 ≤ p + 4 * k by grind)
    grind
  have DD2 : (p + 4 * k) * (p + 4 * k) ≤ 67043344 := by
    have := Rat.mul_le_mul_of_nonneg_right D2 (show 0 ≤ p + 4 * k by grind)
    grind
  have DDne : (p + 4 * k) * (p + 4 * k) ≠ 0 := by grind
  have Bp : own_rb p 1 4096 := own_rb_pos p1 p2
  have Bu := own_rb_div rb (by decide +kernel) (by decide +kernel) q1 q2
  have B5 : own_rb (5 * k) 5 5115 := by
    rcases kb with h | h | h
    · exact Or.inl (by grind)
    · exact Or.inr (Or.inl ⟨by grind, by grind⟩)
    · exact Or.inr (Or.inr ⟨by grind, by grind⟩)
  have Q5 : own_Q v5 (r / q) 2 := by
    rw [← h5]
    exact own_Qd (own_Q_ex hr) (own_Q_ex hq) qne rfl (own_rg_of Bu (by decide +kernel) (by decide +kernel)) (by decide +kernel) (by decide +kernel) (by decide +kernel) (by decide +kernel) (by decide +kernel)
  have B4k : own_rb (4 * k) 4 4092 := by
    rcases kb with h | h | h
    · exact Or.inl (by grind)
    · exact Or.inr (Or.inl ⟨by grind, by grind⟩)
    · exact Or.inr (Or.inr ⟨by grind, by grind⟩)
  have B8k : own_rb (8 * k) 8 8184 := by
    rcases kb with h | h | h
    · exact Or.inl (by grind)
    · exact Or.inr (Or.inl ⟨by grind, by grind⟩)
    · exact Or.inr (Or.inr ⟨by grind, by grind⟩)
  have Q14 : own_Q v14 (4 * k) 4 := by
    rw [← h14]
    exact own_Qm own_c8 (own_Q_ex ht) (by grind) (own_rg_of B4k (by decide +kernel) (by decide +kernel)) (by decide +kernel) (by decide +kernel) (by decide +kernel) (by decide +kernel) (by decide +kernel)
  have Q15 : own_Q v15 (p + 4 * k) 6 := by
    rw [← h15]
    exact own_Qa (k := 4) (own_Q_ex hp) Q14 (by grind) (by grind) rfl (own_rg_of (own_rb_pos D1 D2) (by decide +kernel) (by decide +kernel)) (by decide +kernel) (by decide +kernel) (by decide +kernel) (by decide +kernel) (by decide +kernel)
  have Bpp := own_rb_mul Bp Bp (by decide +kernel) (by decide +kernel)
  have Q20 : own_Q v20 (p * p) 3 := by
    rw [← h20]
    exact own_Qm (own_Q_ex hp) (own_Q_ex hp) rfl (own_rg_of Bpp (by decide +kernel) (by decide +kernel)) (by decide +kernel) (by decide +kernel) (by decide +kernel) (by decide +kernel) (by decide +kernel)
  have Q30 : own_Q v30 (-(p * p)) 3 := by rw [← h30]; exact own_Q_neg Q20
  have BqD := own_rb_mul (own_rb_pos q1 q2) (own_rb_pos D1 D2) (by decide +kernel) (by decide +kernel)
  have qD1 : 1 ≤ q * (p + 4 * k) := by
    have := Rat.mul_le_mul_of_nonneg_right q1 (show 0 ≤ p + 4 * k by grind)
    grind
  have qD2 : q * (p + 4 * k) ≤ 536608768 := by
    have a1 := Rat.mul_le_mul_of_nonneg_right q2 (show 0 ≤ p + 4 * k by grind)
    grind
  have qDne : q * (p + 4 * k) ≠ 0 := by grind
  have Q37 : own_Q v37 (q * (p + 4 * k)) 9 := by
    rw [← h37]
    exact own_Qm (own_Q_ex hq) Q15 rfl (own_rg_of BqD (by decide +kernel) (by decide +kernel)) (by decide +kernel) (by decide +kernel) (by decide +kernel) (by decide +kernel) (by decide +kernel)
  have Q38 : own_Q v38 (-(p * p) / (q * (p + 4 * k))) 26 := by
    rw [← h38]
    exact own_Qd Q30 Q37 qDne rfl (own_rg_of (own_rb_div (own_rb_neg Bpp) (by decide +kernel) (by decide +kernel) qD1 qD2) (by decide +kernel) (by decide +kernel)) (by decide +kernel) (by decide +kernel) (by decide +kernel) (by decide +kernel) (by decide +kernel)
  have Bup := own_rb_mul Bu Bp (by decide +kernel) (by decide +kernel)
  have Q46 : own_Q v46 (r / q * p) 5 := by
    rw [← h46]
    exact own_Qm Q5 (own_Q_ex hp) rfl (own_rg_of Bup (by decide +kernel) (by decide +kernel)) (by decide +kernel) (by decide +kernel) (by decide +kernel) (by decide +kernel) (by decide +kernel)
  have Q53 : own_Q v53 (8 * k) 4 := by
    rw [← h53]
    exact own_Qm own_c16 (own_Q_ex ht) (by grind) (own_rg_of B8k (by decide +kernel) (by decide +kernel)) (by decide +kernel) (by decide +kernel) (by decide +kernel) (by decide +kernel) (by decide +kernel)
  have Q54 : own_Q v54 (p + 8 * k) 6 := by
    rw [← h54]
    exact own_Qa (k := 4) (own_Q_ex hp) Q53 (by grind) (by grind) rfl (own_rg_of (own_rb_pos E1 E2) (by decide +kernel) (by decide +kernel)) (by decide +kernel) (by decide +kernel) (by decide +kernel) (by decide +kernel) (by decide +kernel)
  have B55 := own_rb_mul Bup (own_rb_pos E1 E2) (by decide +kernel) (by decide +kernel)
  have Q55 : own_Q v55 (r / q * p * (p + 8 * k)) 14 := by
    rw [← h55]
    exact own_Qm Q46 Q54 rfl (own_rg_of B55 (by decide +kernel) (by decide +kernel)) (by decide +kernel) (by decide +kernel) (by decide +kernel) (by decide +kernel) (by decide +kernel)
  have Q60 : own_Q v60 ((p + 4 * k) * (p + 4 * k)) 15 := by
    rw [← h60]
    exact own_Qm Q15 Q15 rfl (own_rg_of (own_rb_pos DD1 DD2) (by decide +kernel) (by decide +kernel)) (by decide +kernel) (by decide +kernel) (by decide +kernel) (by decide +kernel) (by decide +kernel)
  have Q61 : own_Q v61 (r / q * p * (p + 8 * k) / ((p + 4 * k) * (p + 4 * k))) 60 := by
    rw [← h61]
    exact own_Qd Q55 Q60 DDne rfl (own_rg_of (own_rb_div B55 (by decide +kernel) (by decide +kernel) DD1 DD2) (by decide +kernel) (by decide +kernel)) (by decide +kernel) (by decide +kernel) (by decide +kernel) (by decide +kernel) (by decide +kernel)
  have B45 : own_rb (4 / 5 : Rat) (4 / 5) (4 / 5) := own_rb_pos Rat.le_refl Rat.le_refl
  have B74 := own_rb_mul Bu B45 (by decide +kernel) (by decide +kernel)
  have Q74 : own_Q v74 (r / q * (4 / 5)) 6 := by
    rw [← h74]
    exact own_Qm Q5 own_c8 rfl (own_rg_of B74 (by decide +kernel) (by decide +kernel)) (by decide +kernel) (by decide +kernel) (by decide +kernel) (by decide +kernel) (by decide +kernel)
  have B77 := own_rb_mul B74 Bpp (by decide +kernel) (by decide +kernel)
  have Q77 : own_Q v77 (r / q * (4 / 5) * (p * p)) 12 := by
    rw [← h77]
    exact own_Qm Q74 Q20 rfl (own_rg_of B77 (by decide +kernel) (by decide +kernel)) (by decide +kernel) (by decide +kernel) (by decide +kernel) (by decide +kernel) (by decide +kernel)
  have Q82 : own_Q v82 ((p + 4 * k) * (p + 4 * k)) 15 := by rw [← h82, h60]; exact Q60
  have Q83 : own_Q v83 (r / q * (4 / 5) * (p * p) / ((p + 4 * k) * (p + 4 * k))) 56 := by
    rw [← h83]
    exact own_Qd Q77 Q82 DDne rfl (own_rg_of (own_rb_div B77 (by decide +kernel) (by decide +kernel) DD1 DD2) (by decide +kernel) (by decide +kernel)) (by decide +kernel) (by decide +kernel) (by decide +kernel) (by decide +kernel) (by decide +kernel)
  have qi : 0 ≤ q⁻¹ := Rat.le_of_lt (Rat.inv_pos.mpr (by grind))
  have DDi : 0 ≤ ((p + 4 * k) * (p + 4 * k))⁻¹ := Rat.le_of_lt (Rat.inv_pos.mpr (by grind))
  have pp0 : 0 ≤ p * p := Rat.mul_nonneg (by grind) (by grind)
  have F1 : 0 ≤ q⁻¹ * p * (p + 8 * k) * ((p + 4 * k) * (p + 4 * k))⁻¹ := Rat.mul_nonneg (Rat.mul_nonneg (Rat.mul_nonneg qi (by grind)) (by grind)) DDi
  have F2 : 0 ≤ q⁻¹ * (4 / 5) * (p * p) * ((p + 4 * k) * (p + 4 * k))⁻¹ := Rat.mul_nonneg (Rat.mul_nonneg (Rat.mul_nonneg qi (by decide +kernel)) pp0) DDi
  have T1 : ∀ z : Rat, z / q * p * (p + 8 * k) / ((p + 4 * k) * (p + 4 * k)) = z * (q⁻¹ * p * (p + 8 * k) * ((p + 4 * k) * (p + 4 * k))⁻¹) := by intro z; rw [Rat.div_def, Rat.div_def]; grind
  have T2 : ∀ z : Rat, z / q * (4 / 5) * (p * p) / ((p + 4 * k) * (p + 4 * k)) = z * (q⁻¹ * (4 / 5) * (p * p) * ((p + 4 * k) * (p + 4 * k))⁻¹) := by intro z; rw [Rat.div_def z q, Rat.div_def _ ((p + 4 * k) * (p + 4 * k))]; grind
  have U1 := Rat.mul_le_mul_of_nonneg_right R1 F1
  have U2 := Rat.mul_le_mul_of_nonneg_right R2 F1
  have U3 := Rat.mul_le_mul_of_nonneg_right R1 F2
  have U4 := Rat.mul_le_mul_of_nonneg_right R2 F2
  rw [← T1, ← T1] at U1 U2
  rw [← T2, ← T2] at U3 U4
  have G1 : R / q * p * (p + 8 * k) / ((p + 4 * k) * (p + 4 * k)) ≤ 100000000000000000000 := by
    refine (own_div_le (by grind)).mpr ?_
    have a1 : R / q ≤ 2147483648 := (own_div_le (by grind)).mpr (by grind)
    have a0 : 0 ≤ R / q := (own_le_div (by grind)).mpr (by grind)
    have a2 := Rat.mul_le_mul_of_nonneg_right a1 (show 0 ≤ p by grind)
    have a3 := Rat.mul_le_mul_of_nonneg_right a2 (show 0 ≤ p + 8 * k by grind)
    have a4 := Rat.mul_le_mul_of_nonneg_right p2 (show 0 ≤ p + 8 * k by grind)
    grind
  have G2 : R / q * (4 / 5) * (p * p) / ((p + 4 * k) * (p + 4 * k)) ≤ 100000000000000000000 := by
    refine (own_div_le (by grind)).mpr ?_
    have a1 : R / q ≤ 2147483648 := (own_div_le (by grind)).mpr (by grind)
    have a0 : 0 ≤ R / q := (own_le_div (by grind)).mpr (by grind)
    have a2 := Rat.mul_le_mul_of_nonneg_right a1 pp0
    have a4 := Rat.mul_le_mul_of_nonneg_right p2 (show 0 ≤ p by grind)
    grind
  have N62 := own_N_s (x := v62) (c := 1) (W := R / q * p * (p + 8 * k) / ((p + 4 * k) * (p + 4 * k))) (fun v hv => by rw [← h62]; exact own_sub own_one hv) Q61 (by decide +kernel) (by decide +kernel) U1 (by rw [T1] at U2 ⊢; rw [T1]; grind) (by decide +kernel) (by decide +kernel) G1
  have N84 := own_N_c (x := v84) (c := -1) (W := R / q * (4 / 5) * (p * p) / ((p + 4 * k) * (p + 4 * k))) (fun v hv => by rw [← h84]; exact own_add own_m1 hv) Q83 (by decide +kernel) (by decide +kernel) U3 (by rw [T2] at U4 ⊢; rw [T2]; grind) (by decide +kernel) (by decide +kernel) G2
  have N38 : own_N v38 (-(p * p) / (q * (p + 4 * k))) (p * p / (q * (p + 4 * k))) := own_N_Q Q38 (by decide +kernel) (by decide +kernel) (by
    have h0 : 0 ≤ p * p / (q * (p + 4 * k)) := (own_le_div (by grind)).mpr (by grind)
    have e : -(p * p) / (q * (p + 4 * k)) = -(p * p / (q * (p + 4 * k))) := by grind
    grind) (by
    have e : -(p * p) / (q * (p + 4 * k)) = -(p * p / (q * (p + 4 * k))) := by grind
    rw [e]; exact Rat.le_refl)
  exact ⟨⟨own_Q_no Q5, own_Q_no Q14, own_Q_no Q15, own_Q_no Q20, own_Q_no Q37, own_Q_no Q38, own_Q_no Q46, own_Q_no Q53, own_Q_no Q54, own_Q_no Q55, own_Q_no Q60, own_Q_no Q61, own_N_no N62, own_Q_no Q74, own_Q_no Q77, own_Q_no Q82, own_Q_no Q83, own_N_no N84⟩, N38, N62, N84⟩
end OwnVogel
open Jvm Jvm.ClassFile Sem Op Lib Jvm.Free Jvm.Stand Jvm.LawKit Jvm.RoadKit Bundle Jvm.Pilot.@@N@@.Jvm.D
/-! the walk layer: own_Go says that from one frame another one is reached, whatever the heap; one rule an instruction -/
section OwnWalk
open Jvm.Free Jvm.Free.Fl
def own_Ldc (tb : Tables) (e : Env) (below : List Frame) (T : State) (m : MethodId) (c : Code) (i : Nat) (v : Value) : Prop :=
  ∀ (g : JFrame) (target : State), g.method = m →
    ((∃ x, v = .int x) → decode c.code g.pc = .ok (.ldc i, 2) → Steps tb e below (T.setTop { g with pc := g.pc + 2, stack := v :: g.stack }) target → Steps tb e below (T.setTop g) target) ∧
    ((∃ x, v = .int x) → decode c.code g.pc = .ok (.ldc_w i, 3) → Steps tb e below (T.setTop { g with pc := g.pc + 3, stack := v :: g.stack }) target → Steps tb e below (T.setTop g) target) ∧
    (((∃ x, v = .long x) ∨ ∃ x, v = .double x) → decode c.code g.pc = .ok (.ldc2_w i, 3) → Steps tb e below (T.setTop { g with pc := g.pc + 3, stack := v :: g.stack }) target → Steps tb e below (T.setTop g) target)
def own_Go (P : List (Nat × Value)) (b : ByteArray) (pc : Nat) (L : Array Slot) (S : List Value) (pc' : Nat) (L' : Array Slot) (S' : List Value) : Prop :=
  ∀ (tb : Tables) [Ours tb] (e : Env) (below : List Frame) (T target : State) (m : MethodId) (c : Code), At T m c below → tb.exec = Jvm.exec → c.code = b →
    (∀ q ∈ P, own_Ldc tb e below T m c q.1 q.2) → Steps tb e below (T.setTop (mkF m pc' L' S')) target → Steps tb e below (T.setTop (mkF m pc L S)) target
variable {P : List (Nat × Value)} {b : ByteArray} {pc pcE : Nat} {L L' LE : Array Slot} {S SE : List Value}
theorem own_refl : own_Go P b pc L S pc L S := fun tb _ e below T target m c h hx hy hP k => k
theorem own_trans {pcM : Nat} {LM : Array Slot} {SM : List Value} (r1 : own_Go P b pc L S pcM LM SM) (r2 : own_Go P b pcM LM SM pcE LE SE) : own_Go P b pc L S pcE LE SE :=
  fun tb _ e below T target m c h hx hy hP k => r1 tb e below T target m c h hx hy hP (r2 tb e below T target m c h hx hy hP k)
theorem own_at {pc2 : Nat} {L2 : Array Slot} {S2 : List Value} (h1 : pc = pc2) (h2 : L = L2) (h3 : S = S2) (r : own_Go P b pc L S pcE LE SE) : own_Go P b pc2 L2 S2 pcE LE SE := by subst h1 h2 h3; exact r
theorem own_end {pc2 : Nat} {L2 : Array Slot} {S2 : List Value} (h1 : pcE = pc2) (h2 : LE = L2) (h3 : SE = S2) (r : own_Go P b pc L S pcE LE SE) : own_Go P b pc L S pc2 L2 S2 := by subst h1 h2 h3; exact r
theorem own_iload {j : Nat} {v : Int32} {pc2 : Nat} (hd : decode b pc = .ok (.iload j, 2)) (hpc : pc + 2 = pc2) (hl : L[j]? = some (.val (.int v))) (r : own_Go P b pc2 L (.int v :: S) pcE LE SE) : own_Go P b pc L (S) pcE LE SE := by
  intro tb _ e below T target m c h hx hy hP k; subst hpc; exact XS.iload h hx rfl (hb hy hd) hl (r tb e below T target m c h hx hy hP k)
theorem own_iloadN {j : Fin 4} {v : Int32} {pc2 : Nat} (hd : decode b pc = .ok (.iload_n j, 1)) (hpc : pc + 1 = pc2) (hl : L[j.val]? = some (.val (.int v))) (r : own_Go P b pc2 L (.int v :: S) pcE LE SE) : own_Go P b pc L (S) pcE LE SE := by
  intro tb _ e below T target m c h hx hy hP k; subst hpc; exact XS.iloadN h hx rfl (hb hy hd) hl (r tb e below T target m c h hx hy hP k)
theorem own_istore {j : Nat} {v : Int32} {rest : List Value} {pc2 : Nat} (hd : decode b pc = .ok (.istore j, 2)) (hpc : pc + 2 = pc2) (hl : storeLocals L j (.int v) = some L') (r : own_Go P b pc2 L' (rest) pcE LE SE) : own_Go P b pc L (.int v :: rest) pcE LE SE := by
  intro tb _ e below T target m c h hx hy hP k; subst hpc; exact XS.istore h hx rfl (hb hy hd) rfl hl (r tb e below T target m c h hx hy hP k)
theorem own_istoreN {j : Fin 4} {v : Int32} {rest : List Value} {pc2 : Nat} (hd : decode b pc = .ok (.istore_n j, 1)) (hpc : pc + 1 = pc2) (hl : storeLocals L j.val (.int v) = some L') (r : own_Go P b pc2 L' (rest) pcE LE SE) : own_Go P b pc L (.int v :: rest) pcE LE SE := by
  intro tb _ e below T target m c h hx hy hP k; subst hpc; exact XS.istoreN h hx rfl (hb hy hd) rfl hl (r tb e below T target m c h hx hy hP k)
theorem own_lload {j : Nat} {v : Int64} {pc2 : Nat} (hd : decode b pc = .ok (.lload j, 2)) (hpc : pc + 2 = pc2) (hl : L[j]? = some (.val (.long v))) (r : own_Go P b pc2 L (.long v :: S) pcE LE SE) : own_Go P b pc L (S) pcE LE SE := by
  intro tb _ e below T target m c h hx hy hP k; subst hpc; exact XS.lload h hx rfl (hb hy hd) hl (r tb e below T target m c h hx hy hP k)
theorem own_lloadN {j : Fin 4} {v : Int64} {pc2 : Nat} (hd : decode b pc = .ok (.lload_n j, 1)) (hpc : pc + 1 = pc2) (hl : L[j.val]? = some (.val (.long v))) (r : own_Go P b pc2 L (.long v :: S) pcE LE SE) : own_Go P b pc L (S) pcE LE SE := by
  intro tb _ e below T target m c h hx hy hP k; subst hpc; exact XS.lloadN h hx rfl (hb hy hd) hl (r tb e below T target m c h hx hy hP k)
theorem own_lstore {j : Nat} {v : Int64} {rest : List Value} {pc2 : Nat} (hd : decode b pc = .ok (.lstore j, 2)) (hpc : pc + 2 = pc2) (hl : storeLocals L j (.long v) = some L') (r : own_Go P b pc2 L' (rest) pcE LE SE) : own_Go P b pc L (.long v :: rest) pcE LE SE := by
  intro tb _ e below T target m c h hx hy hP k; subst hpc; exact XS.lstore h hx rfl (hb hy hd) rfl hl (r tb e below T target m c h hx hy hP k)
theorem own_lstoreN {j : Fin 4} {v : Int64} {rest : List Value} {pc2 : Nat} (hd : decode b pc = .ok (.lstore_n j, 1)) (hpc : pc + 1 = pc2) (hl : storeLocals L j.val (.long v) = some L') (r : own_Go P b pc2 L' (rest) pcE LE SE) : own_Go P b pc L (.long v :: rest) pcE LE SE := by
  intro tb _ e below T target m c h hx hy hP k; subst hpc; exact XS.lstoreN h hx rfl (hb hy hd) rfl hl (r tb e below T target m c h hx hy hP k)
theorem own_dload {j : Nat} {v : UInt64} {pc2 : Nat} (hd : decode b pc = .ok (.dload j, 2)) (hpc : pc + 2 = pc2) (hl : L[j]? = some (.val (.double v))) (r : own_Go P b pc2 L (.double v :: S) pcE LE SE) : own_Go P b pc L (S) pcE LE SE := by
  intro tb _ e below T target m c h hx hy hP k; subst hpc; exact XS.dload h hx rfl (hb hy hd) hl (r tb e below T target m c h hx hy hP k)
theorem own_dloadN {j : Fin 4} {v : UInt64} {pc2 : Nat} (hd : decode b pc = .ok (.dload_n j, 1)) (hpc : pc + 1 = pc2) (hl : L[j.val]? = some (.val (.double v))) (r : own_Go P b pc2 L (.double v :: S) pcE LE SE) : own_Go P b pc L (S) pcE LE SE := by
  intro tb _ e below T target m c h hx hy hP k; subst hpc; exact XS.dloadN h hx rfl (hb hy hd) hl (r tb e below T target m c h hx hy hP k)
theorem own_dstore {j : Nat} {v : UInt64} {rest : List Value} {pc2 : Nat} (hd : decode b pc = .ok (.dstore j, 2)) (hpc : pc + 2 = pc2) (hl : storeLocals L j (.double v) = some L') (r : own_Go P b pc2 L' (rest) pcE LE SE) : own_Go P b pc L (.double v :: rest) pcE LE SE := by
  intro tb _ e below T target m c h hx hy hP k; subst hpc; exact XS.dstore h hx rfl (hb hy hd) rfl hl (r tb e below T target m c h hx hy hP k)
theorem own_dstoreN {j : Fin 4} {v : UInt64} {rest : List Value} {pc2 : Nat} (hd : decode b pc = .ok (.dstore_n j, 1)) (hpc : pc + 1 = pc2) (hl : storeLocals L j.val (.double v) = some L') (r : own_Go P b pc2 L' (rest) pcE LE SE) : own_Go P b pc L (.double v :: rest) pcE LE SE := by
  intro tb _ e below T target m c h hx hy hP k; subst hpc; exact XS.dstoreN h hx rfl (hb hy hd) rfl hl (r tb e below T target m c h hx hy hP k)
theorem own_aload {j : Nat} {v : Value} {pc2 : Nat} (hd : decode b pc = .ok (.aload j, 2)) (hpc : pc + 2 = pc2) (hl : L[j]? = some (.val v)) (hr : v.isRef = true) (r : own_Go P b pc2 L (v :: S) pcE LE SE) : own_Go P b pc L (S) pcE LE SE := by
  intro tb _ e below T target m c h hx hy hP k; subst hpc; exact XS.aload h hx rfl (hb hy hd) hl hr (r tb e below T target m c h hx hy hP k)
theorem own_aloadN {j : Fin 4} {v : Value} {pc2 : Nat} (hd : decode b pc = .ok (.aload_n j, 1)) (hpc : pc + 1 = pc2) (hl : L[j.val]? = some (.val v)) (hr : v.isRef = true) (r : own_Go P b pc2 L (v :: S) pcE LE SE) : own_Go P b pc L (S) pcE LE SE := by
  intro tb _ e below T target m c h hx hy hP k; subst hpc; exact XS.aloadN h hx rfl (hb hy hd) hl hr (r tb e below T target m c h hx hy hP k)
theorem own_astore {j : Nat} {v : Value} {rest : List Value} {pc2 : Nat} (hd : decode b pc = .ok (.astore j, 2)) (hpc : pc + 2 = pc2) (hr : v.isRef = true) (hl : storeLocals L j v = some L') (r : own_Go P b pc2 L' (rest) pcE LE SE) : own_Go P b pc L (v :: rest) pcE LE SE := by
  intro tb _ e below T target m c h hx hy hP k; subst hpc; exact XS.astore h hx rfl (hb hy hd) rfl hr hl (r tb e below T target m c h hx hy hP k)
theorem own_astoreN {j : Fin 4} {v : Value} {rest : List Value} {pc2 : Nat} (hd : decode b pc = .ok (.astore_n j, 1)) (hpc : pc + 1 = pc2) (hr : v.isRef = true) (hl : storeLocals L j.val v = some L') (r : own_Go P b pc2 L' (rest) pcE LE SE) : own_Go P b pc L (v :: rest) pcE LE SE := by
  intro tb _ e below T target m c h hx hy hP k; subst hpc; exact XS.astoreN h hx rfl (hb hy hd) rfl hr hl (r tb e below T target m c h hx hy hP k)
theorem own_iconst {i : Int} {v : Int32} {pc2 : Nat} (hd : decode b pc = .ok (.iconst i, 1)) (hpc : pc + 1 = pc2) (hv : Int32.ofInt i = v) (r : own_Go P b pc2 L (.int v :: S) pcE LE SE) : own_Go P b pc L (S) pcE LE SE := by
  intro tb _ e below T target m c h hx hy hP k; subst hpc; subst hv; exact XS.iconst h hx rfl (hb hy hd) (r tb e below T target m c h hx hy hP k)
theorem own_bipush {i : Int} {v : Int32} {pc2 : Nat} (hd : decode b pc = .ok (.bipush i, 2)) (hpc : pc + 2 = pc2) (hv : (Int8.ofInt i).toInt32 = v) (r : own_Go P b pc2 L (.int v :: S) pcE LE SE) : own_Go P b pc L (S) pcE LE SE := by
  intro tb _ e below T target m c h hx hy hP k; subst hpc; subst hv; exact XS.bipush h hx rfl (hb hy hd) (r tb e below T target m c h hx hy hP k)
theorem own_sipush {i : Int} {v : Int32} {pc2 : Nat} (hd : decode b pc = .ok (.sipush i, 3)) (hpc : pc + 3 = pc2) (hv : (Int16.ofInt i).toInt32 = v) (r : own_Go P b pc2 L (.int v :: S) pcE LE SE) : own_Go P b pc L (S) pcE LE SE := by
  intro tb _ e below T target m c h hx hy hP k; subst hpc; subst hv; exact XS.sipush h hx rfl (hb hy hd) (r tb e below T target m c h hx hy hP k)
theorem own_lconst {j : Fin 2} {v : Int64} {pc2 : Nat} (hd : decode b pc = .ok (.lconst j, 1)) (hpc : pc + 1 = pc2) (hv : Int64.ofNat j = v) (r : own_Go P b pc2 L (.long v :: S) pcE LE SE) : own_Go P b pc L (S) pcE LE SE := by
  intro tb _ e below T target m c h hx hy hP k; subst hpc; subst hv; exact XS.lconst h hx rfl (hb hy hd) (r tb e below T target m c h hx hy hP k)
theorem own_dconst0  {v : UInt64} {pc2 : Nat} (hd : decode b pc = .ok (.dconst 0, 1)) (hpc : pc + 1 = pc2) (hv : FP.dconst0 = v) (r : own_Go P b pc2 L (.double v :: S) pcE LE SE) : own_Go P b pc L (S) pcE LE SE := by
  intro tb _ e below T target m c h hx hy hP k; subst hpc; subst hv; exact XS.dconst0 h hx rfl (hb hy hd) rfl (r tb e below T target m c h hx hy hP k)
theorem own_dconst1  {v : UInt64} {pc2 : Nat} (hd : decode b pc = .ok (.dconst 1, 1)) (hpc : pc + 1 = pc2) (hv : FP.dconst1 = v) (r : own_Go P b pc2 L (.double v :: S) pcE LE SE) : own_Go P b pc L (S) pcE LE SE := by
  intro tb _ e below T target m c h hx hy hP k; subst hpc; subst hv; exact XS.dconst1 h hx rfl (hb hy hd) rfl (r tb e below T target m c h hx hy hP k)
theorem own_aconstNull  {pc2 : Nat} (hd : decode b pc = .ok (.aconst_null, 1)) (hpc : pc + 1 = pc2) (r : own_Go P b pc2 L (.null :: S) pcE LE SE) : own_Go P b pc L (S) pcE LE SE := by
  intro tb _ e below T target m c h hx hy hP k; subst hpc; exact XS.aconstNull h hx rfl (hb hy hd) (r tb e below T target m c h hx hy hP k)
theorem own_iadd {x y : Int32} {v : Int32} {rest : List Value} {pc2 : Nat} (hd : decode b pc = .ok (.iadd, 1)) (hpc : pc + 1 = pc2) (hv : x + y = v) (r : own_Go P b pc2 L (.int v :: rest) pcE LE SE) : own_Go P b pc L (.int y :: .int x :: rest) pcE LE SE := by
  intro tb _ e below T target m c h hx hy hP k; subst hpc; subst hv; exact XS.iadd h hx rfl (hb hy hd) rfl (r tb e below T target m c h hx hy hP k)
theorem own_isub {x y : Int32} {v : Int32} {rest : List Value} {pc2 : Nat} (hd : decode b pc = .ok (.isub, 1)) (hpc : pc + 1 = pc2) (hv : x - y = v) (r : own_Go P b pc2 L (.int v :: rest) pcE LE SE) : own_Go P b pc L (.int y :: .int x :: rest) pcE LE SE := by
  intro tb _ e below T target m c h hx hy hP k; subst hpc; subst hv; exact XS.isub h hx rfl (hb hy hd) rfl (r tb e below T target m c h hx hy hP k)
theorem own_imul {x y : Int32} {v : Int32} {rest : List Value} {pc2 : Nat} (hd : decode b pc = .ok (.imul, 1)) (hpc : pc + 1 = pc2) (hv : x * y = v) (r : own_Go P b pc2 L (.int v :: rest) pcE LE SE) : own_Go P b pc L (.int y :: .int x :: rest) pcE LE SE := by
  intro tb _ e below T target m c h hx hy hP k; subst hpc; subst hv; exact XS.imul h hx rfl (hb hy hd) rfl (r tb e below T target m c h hx hy hP k)
theorem own_iand {x y : Int32} {v : Int32} {rest : List Value} {pc2 : Nat} (hd : decode b pc = .ok (.iand, 1)) (hpc : pc + 1 = pc2) (hv : x &&& y = v) (r : own_Go P b pc2 L (.int v :: rest) pcE LE SE) : own_Go P b pc L (.int y :: .int x :: rest) pcE LE SE := by
  intro tb _ e below T target m c h hx hy hP k; subst hpc; subst hv; exact XS.iand h hx rfl (hb hy hd) rfl (r tb e below T target m c h hx hy hP k)
theorem own_ior {x y : Int32} {v : Int32} {rest : List Value} {pc2 : Nat} (hd : decode b pc = .ok (.ior, 1)) (hpc : pc + 1 = pc2) (hv : x ||| y = v) (r : own_Go P b pc2 L (.int v :: rest) pcE LE SE) : own_Go P b pc L (.int y :: .int x :: rest) pcE LE SE := by
  intro tb _ e below T target m c h hx hy hP k; subst hpc; subst hv; exact XS.ior h hx rfl (hb hy hd) rfl (r tb e below T target m c h hx hy hP k)
theorem own_ixor {x y : Int32} {v : Int32} {rest : List Value} {pc2 : Nat} (hd : decode b pc = .ok (.ixor, 1)) (hpc : pc + 1 = pc2) (hv : x ^^^ y = v) (r : own_Go P b pc2 L (.int v :: rest) pcE LE SE) : own_Go P b pc L (.int y :: .int x :: rest) pcE LE SE := by
  intro tb _ e below T target m c h hx hy hP k; subst hpc; subst hv; exact XS.ixor h hx rfl (hb hy hd) rfl (r tb e below T target m c h hx hy hP k)
theorem own_ishl {x y : Int32} {v : Int32} {rest : List Value} {pc2 : Nat} (hd : decode b pc = .ok (.ishl, 1)) (hpc : pc + 1 = pc2) (hv : x <<< (y &&& 31) = v) (r : own_Go P b pc2 L (.int v :: rest) pcE LE SE) : own_Go P b pc L (.int y :: .int x :: rest) pcE LE SE := by
  intro tb _ e below T target m c h hx hy hP k; subst hpc; subst hv; exact XS.ishl h hx rfl (hb hy hd) rfl (r tb e below T target m c h hx hy hP k)
theorem own_ishr {x y : Int32} {v : Int32} {rest : List Value} {pc2 : Nat} (hd : decode b pc = .ok (.ishr, 1)) (hpc : pc + 1 = pc2) (hv : x >>> (y &&& 31) = v) (r : own_Go P b pc2 L (.int v :: rest) pcE LE SE) : own_Go P b pc L (.int y :: .int x :: rest) pcE LE SE := by
  intro tb _ e below T target m c h hx hy hP k; subst hpc; subst hv; exact XS.ishr h hx rfl (hb hy hd) rfl (r tb e below T target m c h hx hy hP k)
theorem own_iushr {x y : Int32} {v : Int32} {rest : List Value} {pc2 : Nat} (hd : decode b pc = .ok (.iushr, 1)) (hpc : pc + 1 = pc2) (hv : (x.toUInt32 >>> (y &&& 31).toUInt32).toInt32 = v) (r : own_Go P b pc2 L (.int v :: rest) pcE LE SE) : own_Go P b pc L (.int y :: .int x :: rest) pcE LE SE := by
  intro tb _ e below T target m c h hx hy hP k; subst hpc; subst hv; exact XS.iushr h hx rfl (hb hy hd) rfl (r tb e below T target m c h hx hy hP k)
theorem own_idiv {x y : Int32} {v : Int32} {rest : List Value} {pc2 : Nat} (hd : decode b pc = .ok (.idiv, 1)) (hpc : pc + 1 = pc2) (hn : y ≠ 0) (hv : x / y = v) (r : own_Go P b pc2 L (.int v :: rest) pcE LE SE) : own_Go P b pc L (.int y :: .int x :: rest) pcE LE SE := by
  intro tb _ e below T target m c h hx hy hP k; subst hpc; subst hv; exact XS.idiv h hx rfl (hb hy hd) rfl hn (r tb e below T target m c h hx hy hP k)
theorem own_irem {x y : Int32} {v : Int32} {rest : List Value} {pc2 : Nat} (hd : decode b pc = .ok (.irem, 1)) (hpc : pc + 1 = pc2) (hn : y ≠ 0) (hv : x - (x / y) * y = v) (r : own_Go P b pc2 L (.int v :: rest) pcE LE SE) : own_Go P b pc L (.int y :: .int x :: rest) pcE LE SE := by
  intro tb _ e below T target m c h hx hy hP k; subst hpc; subst hv; exact XS.irem h hx rfl (hb hy hd) rfl hn (r tb e below T target m c h hx hy hP k)
theorem own_ladd {x y : Int64} {v : Int64} {rest : List Value} {pc2 : Nat} (hd : decode b pc = .ok (.ladd, 1)) (hpc : pc + 1 = pc2) (hv : x + y = v) (r : own_Go P b pc2 L (.long v :: rest) pcE LE SE) : own_Go P b pc L (.long y :: .long x :: rest) pcE LE SE := by
  intro tb _ e below T target m c h hx hy hP k; subst hpc; subst hv; exact XS.ladd h hx rfl (hb hy hd) rfl (r tb e below T target m c h hx hy hP k)
theorem own_lsub {x y : Int64} {v : Int64} {rest : List Value} {pc2 : Nat} (hd : decode b pc = .ok (.lsub, 1)) (hpc : pc + 1 = pc2) (hv : x - y = v) (r : own_Go P b pc2 L (.long v :: rest) pcE LE SE) : own_Go P b pc L (.long y :: .long x :: rest) pcE LE SE := by
  intro tb _ e below T target m c h hx hy hP k; subst hpc; subst hv; exact XS.lsub h hx rfl (hb hy hd) rfl (r tb e below T target m c h hx hy hP k)
theorem own_lmul {x y : Int64} {v : Int64} {rest : List Value} {pc2 : Nat} (hd : decode b pc = .ok (.lmul, 1)) (hpc : pc + 1 = pc2) (hv : x * y = v) (r : own_Go P b pc2 L (.long v :: rest) pcE LE SE) : own_Go P b pc L (.long y :: .long x :: rest) pcE LE SE := by
  intro tb _ e below T target m c h hx hy hP k; subst hpc; subst hv; exact XS.lmul h hx rfl (hb hy hd) rfl (r tb e below T target m c h hx hy hP k)
theorem own_land {x y : Int64} {v : Int64} {rest : List Value} {pc2 : Nat} (hd : decode b pc = .ok (.land, 1)) (hpc : pc + 1 = pc2) (hv : x &&& y = v) (r : own_Go P b pc2 L (.long v :: rest) pcE LE SE) : own_Go P b pc L (.long y :: .long x :: rest) pcE LE SE := by
  intro tb _ e below T target m c h hx hy hP k; subst hpc; subst hv; exact XS.land h hx rfl (hb hy hd) rfl (r tb e below T target m c h hx hy hP k)
theorem own_lor {x y : Int64} {v : Int64} {rest : List Value} {pc2 : Nat} (hd : decode b pc = .ok (.lor, 1)) (hpc : pc + 1 = pc2) (hv : x ||| y = v) (r : own_Go P b pc2 L (.long v :: rest) pcE LE SE) : own_Go P b pc L (.long y :: .long x :: rest) pcE LE SE := by
  intro tb _ e below T target m c h hx hy hP k; subst hpc; subst hv; exact XS.lor h hx rfl (hb hy hd) rfl (r tb e below T target m c h hx hy hP k)
theorem own_lxor {x y : Int64} {v : Int64} {rest : List Value} {pc2 : Nat} (hd : decode b pc = .ok (.lxor, 1)) (hpc : pc + 1 = pc2) (hv : x ^^^ y = v) (r : own_Go P b pc2 L (.long v :: rest) pcE LE SE) : own_Go P b pc L (.long y :: .long x :: rest) pcE LE SE := by
  intro tb _ e below T target m c h hx hy hP k; subst hpc; subst hv; exact XS.lxor h hx rfl (hb hy hd) rfl (r tb e below T target m c h hx hy hP k)
theorem own_ldiv {x y : Int64} {v : Int64} {rest : List Value} {pc2 : Nat} (hd : decode b pc = .ok (.ldiv, 1)) (hpc : pc + 1 = pc2) (hn : y ≠ 0) (hv : x / y = v) (r : own_Go P b pc2 L (.long v :: rest) pcE LE SE) : own_Go P b pc L (.long y :: .long x :: rest) pcE LE SE := by
  intro tb _ e below T target m c h hx hy hP k; subst hpc; subst hv; exact XS.ldiv h hx rfl (hb hy hd) rfl hn (r tb e below T target m c h hx hy hP k)
theorem own_lrem {x y : Int64} {v : Int64} {rest : List Value} {pc2 : Nat} (hd : decode b pc = .ok (.lrem, 1)) (hpc : pc + 1 = pc2) (hn : y ≠ 0) (hv : x - (x / y) * y = v) (r : own_Go P b pc2 L (.long v :: rest) pcE LE SE) : own_Go P b pc L (.long y :: .long x :: rest) pcE LE SE := by
  intro tb _ e below T target m c h hx hy hP k; subst hpc; subst hv; exact XS.lrem h hx rfl (hb hy hd) rfl hn (r tb e below T target m c h hx hy hP k)
theorem own_lshl {x : Int64} {y : Int32} {v : Int64} {rest : List Value} {pc2 : Nat} (hd : decode b pc = .ok (.lshl, 1)) (hpc : pc + 1 = pc2) (hv : x <<< (y &&& 0x3f).toInt64 = v) (r : own_Go P b pc2 L (.long v :: rest) pcE LE SE) : own_Go P b pc L (.int y :: .long x :: rest) pcE LE SE := by
  intro tb _ e below T target m c h hx hy hP k; subst hpc; subst hv; exact XS.lshl h hx rfl (hb hy hd) rfl (r tb e below T target m c h hx hy hP k)
theorem own_lshr {x : Int64} {y : Int32} {v : Int64} {rest : List Value} {pc2 : Nat} (hd : decode b pc = .ok (.lshr, 1)) (hpc : pc + 1 = pc2) (hv : x >>> (y &&& 0x3f).toInt64 = v) (r : own_Go P b pc2 L (.long v :: rest) pcE LE SE) : own_Go P b pc L (.int y :: .long x :: rest) pcE LE SE := by
  intro tb _ e below T target m c h hx hy hP k; subst hpc; subst hv; exact XS.lshr h hx rfl (hb hy hd) rfl (r tb e below T target m c h hx hy hP k)
theorem own_lushr {x : Int64} {y : Int32} {v : Int64} {rest : List Value} {pc2 : Nat} (hd : decode b pc = .ok (.lushr, 1)) (hpc : pc + 1 = pc2) (hv : (x.toUInt64 >>> (y &&& 0x3f).toInt64.toUInt64).toInt64 = v) (r : own_Go P b pc2 L (.long v :: rest) pcE LE SE) : own_Go P b pc L (.int y :: .long x :: rest) pcE LE SE := by
  intro tb _ e below T target m c h hx hy hP k; subst hpc; subst hv; exact XS.lushr h hx rfl (hb hy hd) rfl (r tb e below T target m c h hx hy hP k)
theorem own_lcmp {x y : Int64} {v : Int32} {rest : List Value} {pc2 : Nat} (hd : decode b pc = .ok (.lcmp, 1)) (hpc : pc + 1 = pc2) (hv : (if x > y then 1 else if x = y then 0 else -1) = v) (r : own_Go P b pc2 L (.int v :: rest) pcE LE SE) : own_Go P b pc L (.long y :: .long x :: rest) pcE LE SE := by
  intro tb _ e below T target m c h hx hy hP k; subst hpc; subst hv; exact XS.lcmp h hx rfl (hb hy hd) rfl (r tb e below T target m c h hx hy hP k)
theorem own_ineg {x : Int32} {v : Int32} {rest : List Value} {pc2 : Nat} (hd : decode b pc = .ok (.ineg, 1)) (hpc : pc + 1 = pc2) (hv : -x = v) (r : own_Go P b pc2 L (.int v :: rest) pcE LE SE) : own_Go P b pc L (.int x :: rest) pcE LE SE := by
  intro tb _ e below T target m c h hx hy hP k; subst hpc; subst hv; exact XS.ineg h hx rfl (hb hy hd) rfl (r tb e below T target m c h hx hy hP k)
theorem own_lneg {x : Int64} {v : Int64} {rest : List Value} {pc2 : Nat} (hd : decode b pc = .ok (.lneg, 1)) (hpc : pc + 1 = pc2) (hv : -x = v) (r : own_Go P b pc2 L (.long v :: rest) pcE LE SE) : own_Go P b pc L (.long x :: rest) pcE LE SE := by
  intro tb _ e below T target m c h hx hy hP k; subst hpc; subst hv; exact XS.lneg h hx rfl (hb hy hd) rfl (r tb e below T target m c h hx hy hP k)
theorem own_i2l {x : Int32} {v : Int64} {rest : List Value} {pc2 : Nat} (hd : decode b pc = .ok (.i2l, 1)) (hpc : pc + 1 = pc2) (hv : x.toInt64 = v) (r : own_Go P b pc2 L (.long v :: rest) pcE LE SE) : own_Go P b pc L (.int x :: rest) pcE LE SE := by
  intro tb _ e below T target m c h hx hy hP k; subst hpc; subst hv; exact XS.i2l h hx rfl (hb hy hd) rfl (r tb e below T target m c h hx hy hP k)
theorem own_l2i {x : Int64} {v : Int32} {rest : List Value} {pc2 : Nat} (hd : decode b pc = .ok (.l2i, 1)) (hpc : pc + 1 = pc2) (hv : x.toInt32 = v) (r : own_Go P b pc2 L (.int v :: rest) pcE LE SE) : own_Go P b pc L (.long x :: rest) pcE LE SE := by
  intro tb _ e below T target m c h hx hy hP k; subst hpc; subst hv; exact XS.l2i h hx rfl (hb hy hd) rfl (r tb e below T target m c h hx hy hP k)
theorem own_i2b {x : Int32} {v : Int32} {rest : List Value} {pc2 : Nat} (hd : decode b pc = .ok (.i2b, 1)) (hpc : pc + 1 = pc2) (hv : x.toInt8.toInt32 = v) (r : own_Go P b pc2 L (.int v :: rest) pcE LE SE) : own_Go P b pc L (.int x :: rest) pcE LE SE := by
  intro tb _ e below T target m c h hx hy hP k; subst hpc; subst hv; exact XS.i2b h hx rfl (hb hy hd) rfl (r tb e below T target m c h hx hy hP k)
theorem own_i2c {x : Int32} {v : Int32} {rest : List Value} {pc2 : Nat} (hd : decode b pc = .ok (.i2c, 1)) (hpc : pc + 1 = pc2) (hv : x.toUInt32.toUInt16.toUInt32.toInt32 = v) (r : own_Go P b pc2 L (.int v :: rest) pcE LE SE) : own_Go P b pc L (.int x :: rest) pcE LE SE := by
  intro tb _ e below T target m c h hx hy hP k; subst hpc; subst hv; exact XS.i2c h hx rfl (hb hy hd) rfl (r tb e below T target m c h hx hy hP k)
theorem own_i2d {x : Int32} {v : UInt64} {rest : List Value} {pc2 : Nat} (hd : decode b pc = .ok (.i2d, 1)) (hpc : pc + 1 = pc2) (hv : FP.i2d x = v) (r : own_Go P b pc2 L (.double v :: rest) pcE LE SE) : own_Go P b pc L (.int x :: rest) pcE LE SE := by
  intro tb _ e below T target m c h hx hy hP k; subst hpc; subst hv; exact XS.i2dS h hx rfl (hb hy hd) rfl rfl (r tb e below T target m c h hx hy hP k)
theorem own_l2d {x : Int64} {v : UInt64} {rest : List Value} {pc2 : Nat} (hd : decode b pc = .ok (.l2d, 1)) (hpc : pc + 1 = pc2) (hv : FP.l2d x = v) (r : own_Go P b pc2 L (.double v :: rest) pcE LE SE) : own_Go P b pc L (.long x :: rest) pcE LE SE := by
  intro tb _ e below T target m c h hx hy hP k; subst hpc; subst hv; exact XS.l2dS h hx rfl (hb hy hd) rfl rfl (r tb e below T target m c h hx hy hP k)
theorem own_d2i {x : UInt64} {v : Int32} {rest : List Value} {pc2 : Nat} (hd : decode b pc = .ok (.d2i, 1)) (hpc : pc + 1 = pc2) (hv : FP.d2i x = v) (r : own_Go P b pc2 L (.int v :: rest) pcE LE SE) : own_Go P b pc L (.double x :: rest) pcE LE SE := by
  intro tb _ e below T target m c h hx hy hP k; subst hpc; subst hv; exact XS.d2iS h hx rfl (hb hy hd) rfl rfl (r tb e below T target m c h hx hy hP k)
theorem own_d2l {x : UInt64} {v : Int64} {rest : List Value} {pc2 : Nat} (hd : decode b pc = .ok (.d2l, 1)) (hpc : pc + 1 = pc2) (hv : FP.d2l x = v) (r : own_Go P b pc2 L (.long v :: rest) pcE LE SE) : own_Go P b pc L (.double x :: rest) pcE LE SE := by
  intro tb _ e below T target m c h hx hy hP k; subst hpc; subst hv; exact XS.d2lS h hx rfl (hb hy hd) rfl rfl (r tb e below T target m c h hx hy hP k)
theorem own_dneg {x : UInt64} {v : UInt64} {rest : List Value} {pc2 : Nat} (hd : decode b pc = .ok (.dneg, 1)) (hpc : pc + 1 = pc2) (hv : FP.dneg x = v) (r : own_Go P b pc2 L (.double v :: rest) pcE LE SE) : own_Go P b pc L (.double x :: rest) pcE LE SE := by
  intro tb _ e below T target m c h hx hy hP k; subst hpc; subst hv; exact XS.dnegS h hx rfl (hb hy hd) rfl rfl (r tb e below T target m c h hx hy hP k)
theorem own_dcmp {o : CmpOp} {x y : UInt64} {v : Int32} {rest : List Value} {pc2 : Nat} (hd : decode b pc = .ok (.dcmp o, 1)) (hpc : pc + 1 = pc2) (hv : cmpValue (FP.dcmp x y) o = v) (r : own_Go P b pc2 L (.int v :: rest) pcE LE SE) : own_Go P b pc L (.double y :: .double x :: rest) pcE LE SE := by
  intro tb _ e below T target m c h hx hy hP k; subst hpc; subst hv; exact XS.dcmpS h hx rfl (hb hy hd) rfl rfl (r tb e below T target m c h hx hy hP k)
theorem own_dadd {x y : UInt64} {v : UInt64} {rest : List Value} {pc2 : Nat} (hd : decode b pc = .ok (.dadd, 1)) (hpc : pc + 1 = pc2) (hn : NoNaN64 (FP.dadd x y)) (hv : FP.dadd x y = v) (r : own_Go P b pc2 L (.double v :: rest) pcE LE SE) : own_Go P b pc L (.double y :: .double x :: rest) pcE LE SE := by
  intro tb _ e below T target m c h hx hy hP k; subst hpc; subst hv; exact XS.daddS h hx rfl (hb hy hd) rfl hn rfl (r tb e below T target m c h hx hy hP k)
theorem own_dsub {x y : UInt64} {v : UInt64} {rest : List Value} {pc2 : Nat} (hd : decode b pc = .ok (.dsub, 1)) (hpc : pc + 1 = pc2) (hn : NoNaN64 (FP.dsub x y)) (hv : FP.dsub x y = v) (r : own_Go P b pc2 L (.double v :: rest) pcE LE SE) : own_Go P b pc L (.double y :: .double x :: rest) pcE LE SE := by
  intro tb _ e below T target m c h hx hy hP k; subst hpc; subst hv; exact XS.dsubS h hx rfl (hb hy hd) rfl hn rfl (r tb e below T target m c h hx hy hP k)
theorem own_dmul {x y : UInt64} {v : UInt64} {rest : List Value} {pc2 : Nat} (hd : decode b pc = .ok (.dmul, 1)) (hpc : pc + 1 = pc2) (hn : NoNaN64 (FP.dmul x y)) (hv : FP.dmul x y = v) (r : own_Go P b pc2 L (.double v :: rest) pcE LE SE) : own_Go P b pc L (.double y :: .double x :: rest) pcE LE SE := by
  intro tb _ e below T target m c h hx hy hP k; subst hpc; subst hv; exact XS.dmulS h hx rfl (hb hy hd) rfl hn rfl (r tb e below T target m c h hx hy hP k)
theorem own_ddiv {x y : UInt64} {v : UInt64} {rest : List Value} {pc2 : Nat} (hd : decode b pc = .ok (.ddiv, 1)) (hpc : pc + 1 = pc2) (hn : NoNaN64 (FP.ddiv x y)) (hv : FP.ddiv x y = v) (r : own_Go P b pc2 L (.double v :: rest) pcE LE SE) : own_Go P b pc L (.double y :: .double x :: rest) pcE LE SE := by
  intro tb _ e below T target m c h hx hy hP k; subst hpc; subst hv; exact XS.ddivS h hx rfl (hb hy hd) rfl hn rfl (r tb e below T target m c h hx hy hP k)
theorem own_dup {v : Value} {rest : List Value} {pc2 : Nat} (hd : decode b pc = .ok (.dup, 1)) (hpc : pc + 1 = pc2) (hc : v.category = 1) (r : own_Go P b pc2 L (v :: v :: rest) pcE LE SE) : own_Go P b pc L (v :: rest) pcE LE SE := by
  intro tb _ e below T target m c h hx hy hP k; subst hpc; exact XS.dup h hx rfl (hb hy hd) rfl hc (r tb e below T target m c h hx hy hP k)
theorem own_pop {v : Value} {rest : List Value} {pc2 : Nat} (hd : decode b pc = .ok (.pop, 1)) (hpc : pc + 1 = pc2) (hc : v.category = 1) (r : own_Go P b pc2 L (rest) pcE LE SE) : own_Go P b pc L (v :: rest) pcE LE SE := by
  intro tb _ e below T target m c h hx hy hP k; subst hpc; exact XS.pop h hx rfl (hb hy hd) rfl hc (r tb e below T target m c h hx hy hP k)
theorem own_dupX1 {v w : Value} {rest : List Value} {pc2 : Nat} (hd : decode b pc = .ok (.dup_x1, 1)) (hpc : pc + 1 = pc2) (hc : v.category = 1) (hc' : w.category = 1) (r : own_Go P b pc2 L (v :: w :: v :: rest) pcE LE SE) : own_Go P b pc L (v :: w :: rest) pcE LE SE := by
  intro tb _ e below T target m c h hx hy hP k; subst hpc; exact XS.dupX1 h hx rfl (hb hy hd) rfl hc hc' (r tb e below T target m c h hx hy hP k)
theorem own_dup2 {v w : Value} {rest : List Value} {pc2 : Nat} (hd : decode b pc = .ok (.dup2, 1)) (hpc : pc + 1 = pc2) (hc : v.category = 1) (hc' : w.category = 1) (r : own_Go P b pc2 L (v :: w :: v :: w :: rest) pcE LE SE) : own_Go P b pc L (v :: w :: rest) pcE LE SE := by
  intro tb _ e below T target m c h hx hy hP k; subst hpc; exact XT.dup2 h hx rfl (hb hy hd) rfl hc hc' (r tb e below T target m c h hx hy hP k)
theorem own_ifYes {cd : ClassFile.Cond} {x : Int32} {o : Int} {pc' : Nat} {rest : List Value} (hd : decode b pc = .ok (.ifCond cd o, 3)) (hc : ifCond.holds cd x = true) (ho : 0 ≤ (pc : Int) + o) (hp : ((pc : Int) + o).toNat = pc') (r : own_Go P b pc' L rest pcE LE SE) : own_Go P b pc L (.int x :: rest) pcE LE SE := by
  intro tb _ e below T target m c h hx hy hP k; exact XS.ifYes h hx rfl rfl (hb hy hd) rfl hc ho hp (r tb e below T target m c h hx hy hP k)
theorem own_ifNo {cd : ClassFile.Cond} {x : Int32} {o : Int} {rest : List Value} {pc2 : Nat} (hd : decode b pc = .ok (.ifCond cd o, 3)) (hpc : pc + 3 = pc2) (hc : ifCond.holds cd x = false) (r : own_Go P b pc2 L rest pcE LE SE) : own_Go P b pc L (.int x :: rest) pcE LE SE := by
  intro tb _ e below T target m c h hx hy hP k; subst hpc; exact XS.ifNo h hx rfl (hb hy hd) rfl hc (r tb e below T target m c h hx hy hP k)
theorem own_icmpYes {cd : ClassFile.Cond} {x y : Int32} {o : Int} {pc' : Nat} {rest : List Value} (hd : decode b pc = .ok (.if_icmp cd o, 3)) (hc : if_icmp.holds cd x y = true) (ho : 0 ≤ (pc : Int) + o) (hp : ((pc : Int) + o).toNat = pc') (r : own_Go P b pc' L rest pcE LE SE) : own_Go P b pc L (.int y :: .int x :: rest) pcE LE SE := by
  intro tb _ e below T target m c h hx hy hP k; exact XS.icmpYes h hx rfl rfl (hb hy hd) rfl hc ho hp (r tb e below T target m c h hx hy hP k)
theorem own_icmpNo {cd : ClassFile.Cond} {x y : Int32} {o : Int} {rest : List Value} {pc2 : Nat} (hd : decode b pc = .ok (.if_icmp cd o, 3)) (hpc : pc + 3 = pc2) (hc : if_icmp.holds cd x y = false) (r : own_Go P b pc2 L rest pcE LE SE) : own_Go P b pc L (.int y :: .int x :: rest) pcE LE SE := by
  intro tb _ e below T target m c h hx hy hP k; subst hpc; exact XS.icmpNo h hx rfl (hb hy hd) rfl hc (r tb e below T target m c h hx hy hP k)
theorem own_ifnullYes {o : Int} {pc' : Nat} {rest : List Value} (hd : decode b pc = .ok (.ifnull o, 3)) (ho : 0 ≤ (pc : Int) + o) (hp : ((pc : Int) + o).toNat = pc') (r : own_Go P b pc' L rest pcE LE SE) : own_Go P b pc L (.null :: rest) pcE LE SE := by
  intro tb _ e below T target m c h hx hy hP k; exact XS.ifnullYes h hx rfl rfl (hb hy hd) rfl ho hp (r tb e below T target m c h hx hy hP k)
theorem own_ifnullNo {o : Int} {a : Addr} {rest : List Value} {pc2 : Nat} (hd : decode b pc = .ok (.ifnull o, 3)) (hpc : pc + 3 = pc2) (r : own_Go P b pc2 L rest pcE LE SE) : own_Go P b pc L (.ref a :: rest) pcE LE SE := by
  intro tb _ e below T target m c h hx hy hP k; subst hpc; exact XS.ifnullNo h hx rfl (hb hy hd) rfl (r tb e below T target m c h hx hy hP k)
theorem own_ifnonnullYes {o : Int} {pc' : Nat} {a : Addr} {rest : List Value} (hd : decode b pc = .ok (.ifnonnull o, 3)) (ho : 0 ≤ (pc : Int) + o) (hp : ((pc : Int) + o).toNat = pc') (r : own_Go P b pc' L rest pcE LE SE) : own_Go P b pc L (.ref a :: rest) pcE LE SE := by
  intro tb _ e below T target m c h hx hy hP k; exact XS.ifnonnullYes h hx rfl rfl (hb hy hd) rfl ho hp (r tb e below T target m c h hx hy hP k)
theorem own_ifnonnullNo {o : Int} {rest : List Value} {pc2 : Nat} (hd : decode b pc = .ok (.ifnonnull o, 3)) (hpc : pc + 3 = pc2) (r : own_Go P b pc2 L rest pcE LE SE) : own_Go P b pc L (.null :: rest) pcE LE SE := by
  intro tb _ e below T target m c h hx hy hP k; subst hpc; exact XS.ifnonnullNo h hx rfl (hb hy hd) rfl (r tb e below T target m c h hx hy hP k)
theorem own_acmpYes {cd : ClassFile.ACond} {x y : Addr} {o : Int} {pc' : Nat} {rest : List Value} (hd : decode b pc = .ok (.if_acmp cd o, 3)) (hc : if_acmp.holds cd (some x) (some y) = true) (ho : 0 ≤ (pc : Int) + o) (hp : ((pc : Int) + o).toNat = pc') (r : own_Go P b pc' L rest pcE LE SE) : own_Go P b pc L (.ref y :: .ref x :: rest) pcE LE SE := by
  intro tb _ e below T target m c h hx hy hP k; exact XS.acmpYes h hx rfl rfl (hb hy hd) rfl hc ho hp (r tb e below T target m c h hx hy hP k)
theorem own_acmpNo {cd : ClassFile.ACond} {x y : Addr} {o : Int} {rest : List Value} {pc2 : Nat} (hd : decode b pc = .ok (.if_acmp cd o, 3)) (hpc : pc + 3 = pc2) (hc : if_acmp.holds cd (some x) (some y) = false) (r : own_Go P b pc2 L rest pcE LE SE) : own_Go P b pc L (.ref y :: .ref x :: rest) pcE LE SE := by
  intro tb _ e below T target m c h hx hy hP k; subst hpc; exact XS.acmpNo h hx rfl (hb hy hd) rfl hc (r tb e below T target m c h hx hy hP k)
theorem own_goto {o : Int} {pc' : Nat} (hd : decode b pc = .ok (.goto o, 3)) (ho : 0 ≤ (pc : Int) + o) (hp : ((pc : Int) + o).toNat = pc') (r : own_Go P b pc' L S pcE LE SE) : own_Go P b pc L S pcE LE SE := by
  intro tb _ e below T target m c h hx hy hP k; exact XS.goto h hx rfl rfl (hb hy hd) ho hp (r tb e below T target m c h hx hy hP k)
theorem own_iinc {j : Nat} {cst : Int} {x v : Int32} {pc2 : Nat} (hd : decode b pc = .ok (.iinc j cst, 3)) (hpc : pc + 3 = pc2) (hl : L[j]? = some (.val (.int x))) (hv : x + Int32.ofInt cst = v) (hl' : storeLocals L j (.int v) = some L') (r : own_Go P b pc2 L' S pcE LE SE) : own_Go P b pc L S pcE LE SE := by
  intro tb _ e below T target m c h hx hy hP k; subst hpc; subst hv; exact XS.iinc h hx rfl (hb hy hd) hl hl' (r tb e below T target m c h hx hy hP k)
theorem own_ldc {i : Nat} {v : Int32} {pc2 : Nat} (hd : decode b pc = .ok (.ldc i, 2)) (hpc : pc + 2 = pc2) (hk : (i, Value.int v) ∈ P) (r : own_Go P b pc2 L (.int v :: S) pcE LE SE) : own_Go P b pc L S pcE LE SE := by
  intro tb _ e below T target m c h hx hy hP k; subst hpc; exact (hP _ hk (mkF m pc L S) target rfl).1 ⟨_, rfl⟩ (hb hy hd) (r tb e below T target m c h hx hy hP k)
theorem own_ldcW {i : Nat} {v : Int32} {pc2 : Nat} (hd : decode b pc = .ok (.ldc_w i, 3)) (hpc : pc + 3 = pc2) (hk : (i, Value.int v) ∈ P) (r : own_Go P b pc2 L (.int v :: S) pcE LE SE) : own_Go P b pc L S pcE LE SE := by
  intro tb _ e below T target m c h hx hy hP k; subst hpc; exact (hP _ hk (mkF m pc L S) target rfl).2.1 ⟨_, rfl⟩ (hb hy hd) (r tb e below T target m c h hx hy hP k)
theorem own_ldc2L {i : Nat} {v : Int64} {pc2 : Nat} (hd : decode b pc = .ok (.ldc2_w i, 3)) (hpc : pc + 3 = pc2) (hk : (i, Value.long v) ∈ P) (r : own_Go P b pc2 L (.long v :: S) pcE LE SE) : own_Go P b pc L S pcE LE SE := by
  intro tb _ e below T target m c h hx hy hP k; subst hpc; exact (hP _ hk (mkF m pc L S) target rfl).2.2 (Or.inl ⟨_, rfl⟩) (hb hy hd) (r tb e below T target m c h hx hy hP k)
theorem own_ldc2D {i : Nat} {v : UInt64} {pc2 : Nat} (hd : decode b pc = .ok (.ldc2_w i, 3)) (hpc : pc + 3 = pc2) (hk : (i, Value.double v) ∈ P) (r : own_Go P b pc2 L (.double v :: S) pcE LE SE) : own_Go P b pc L S pcE LE SE := by
  intro tb _ e below T target m c h hx hy hP k; subst hpc; exact (hP _ hk (mkF m pc L S) target rfl).2.2 (Or.inr ⟨_, rfl⟩) (hb hy hd) (r tb e below T target m c h hx hy hP k)
end OwnWalk
section OwnPool
open Jvm.Free Jvm.Stand
variable {p : Program} {l : Launch} {e : Env} {R : Room} {s : State} {m : MethodId} {args : Array Value} {below : List Frame} {meth : Method} {c : Code} {T : State} {locs : List Loc} {cells slots : Nat} {Z : State} {a0 : Array Value}
def own_Word (own : String) (i : Nat) : Value → Jvm.Cond → Prop
  | .int v, w => w = .constant own i v
  | .long v, w => w = .constantLong own i v
  | .double v, w => w = .constantDouble own i v
  | _, _ => False
theorem own_pool1 (X : Stand p l e R s m args below meth c T locs cells slots) (hx : p.tables.exec = Jvm.exec) (hZ : Z.Warmed39 s.vm) {own : String} (hown : s.vm.findClass own = some m.cls) {i : Nat} {v : Value} {w : Jvm.Cond} (hv : own_Word own i v w) (hw : w.before a0 Z = true) : own_Ldc p.tables e below T m c i v := by
  intro g target hg
  cases v with
  | int v =>
    cases (show w = .constant own i v from hv)
    exact ⟨fun _ hd k => X.ldcInt hx hown (mvT hZ hw) hg hd target k, fun _ hd k => X.ldcwInt hx hown (mvT hZ hw) hg hd target k, fun h => (by rcases h with ⟨_, h⟩ | ⟨_, h⟩ <;> cases h)⟩
  | long v =>
    cases (show w = .constantLong own i v from hv)
    exact ⟨fun h => (by obtain ⟨_, h⟩ := h; cases h), fun h => (by obtain ⟨_, h⟩ := h; cases h), fun _ hd k => X.ldc2Long hx hown (mvT hZ hw) hg hd target k⟩
  | double v =>
    cases (show w = .constantDouble own i v from hv)
    exact ⟨fun h => (by obtain ⟨_, h⟩ := h; cases h), fun h => (by obtain ⟨_, h⟩ := h; cases h), fun _ hd k => X.ldc2DoubleC hx hown (mvT hZ hw) hg hd target k⟩
  | _ => exact absurd hv (fun h => h)
theorem own_pool (X : Stand p l e R s m args below meth c T locs cells slots) (hx : p.tables.exec = Jvm.exec) (hZ : Z.Warmed39 s.vm) {own : String} (hown : s.vm.findClass own = some m.cls) {ws : List Jvm.Cond} (hw : ∀ d ∈ ws, d.before a0 Z = true) {P : List (Nat × Value)} (hP : ∀ q ∈ P, ∃ w ∈ ws, own_Word own q.1 q.2 w) : ∀ q ∈ P, own_Ldc p.tables e below T m c q.1 q.2 := by
  intro q hq
  obtain ⟨w, h1, h2⟩ := hP q hq
  exact own_pool1 X hx hZ hown h2 (hw w h1)
end OwnPool
/-! the call layer: a method that leaves the heap as it was, and its call -/
section OwnCall
open Jvm.Free Jvm.Stand Jvm.LawKit Jvm.RoadKit
variable {p : Program} {l : Launch} {e : Env} {R : Room} {s : State} {m : MethodId} {args : Array Value} {below : List Frame} {meth : Method} {c : Code} {T : State} {locs : List Loc} {cells slots : Nat} {Z : State} {a0 : Array Value} {h : Heap}
abbrev own_room (fr lo : Nat) : Room := { frames := fr, cells := 0, slots := 0, locals := lo }
def own_Pure (l : Launch) (Z : State) (y : MethodName) (bytes : ByteArray) (maxL : Nat) (ret : Option FieldType) (fr lo : Nat) (as' : Array Value) (h : Heap) (v : Option Value) : Prop :=
  MetFree l y (head1 [Jvm.Cond.code y bytes maxL ret] (own_room fr lo)) (fun a U => a = as' ∧ Z.Warmed39 U.vm ∧ U.heap = h) (fun _ _ _ _ _ => True) (fun _ U o U' => ∃ w L, o = .returned w ∧ (w = v ∧ L = [] ∧ U'.heap = h) ∧ FrameEnd U o U' L (own_room fr lo).cells (own_room fr lo).slots)
def own_Ret (i : Instr) (t : FieldType) (w : Value) : Prop := narrow t w = w ∧ ((i = .ireturn ∧ (t = .int ∨ t = .boolean ∨ t = .byte ∨ t = .char ∨ t = .short) ∧ ∃ z, w = .int z) ∨ (i = .lreturn ∧ t = .long ∧ ∃ z, w = .long z) ∨ (i = .dreturn ∧ t = .double ∧ ∃ z, w = .double z) ∨ (i = .freturn ∧ t = .float ∧ ∃ z, w = .float z) ∨ (i = .areturn ∧ t.isReference = true ∧ w.isRef = true))
theorem own_retD (x : UInt64) : own_Ret .dreturn .double (.double x) := ⟨rfl, Or.inr (Or.inr (Or.inl ⟨rfl, rfl, x, rfl⟩))⟩
theorem own_retI (x : Int32) : own_Ret .ireturn .int (.int x) := ⟨rfl, Or.inl ⟨rfl, Or.inl rfl, x, rfl⟩⟩
theorem own_retJ (x : Int64) : own_Ret .lreturn .long (.long x) := ⟨rfl, Or.inr (Or.inl ⟨rfl, rfl, x, rfl⟩)⟩
theorem own_retZ {x : Int32} (hx : x = 0 ∨ x = 1) : own_Ret .ireturn .boolean (.int x) := ⟨by rcases hx with rfl | rfl <;> rfl, Or.inl ⟨rfl, Or.inr (Or.inl rfl), x, rfl⟩⟩
theorem own_pure_go {y : MethodName} {bytes : ByteArray} {maxL : Nat} {t : FieldType} {as' : Array Value} {P : List (Nat × Value)} {L0 LR : Array Slot} {SR : List Value} {pcR : Nat} {val : Value} {i : Instr} {ws : List Jvm.Cond} (hpl : plainName y.cls = true) (hw : ∀ d ∈ ws, d.before a0 Z = true) (hP : ∀ q ∈ P, ∃ w ∈ ws, own_Word y.cls q.1 q.2 w)
    (hef : ∀ m, entryFrame m as' maxL = mkF m 0 L0 []) (body : own_Go P bytes 0 L0 [] pcR LR (val :: SR)) (hd : decode bytes pcR = .ok (i, 1)) (hr : own_Ret i t val) : own_Pure l Z y bytes maxL (some t) 0 0 as' h (some val) := by
  refine MetFree.of_bodySF (plainFor_of_name hpl) hisR ?_
  intro p e s m args below meth c s₁ Bd hml0 hPP hK
  obtain ⟨rfl, hZ, hh⟩ := hPP
  have hx := Bd.exec
  have hby := Bd.bytes
  have hown : s.vm.findClass y.cls = some m.cls := findClass_of_methodNamed Bd.named
  have X0 : Stand p l e (own_room 0 0) s m _ below meth c s₁ [] 0 0 := Stand.of_body Bd
  have e0 : s₁.heap = h := by rw [← hh, Bd.state]; rfl
  obtain ⟨fs, hr', hrun, hended, hW, hsame⟩ := X0.leave (v := some val) (fun h => by rw [Bd.returns] at h; cases h)
  refine ⟨_, _, castTop (hef m) (body p.tables e below s₁ _ m c X0.here hx hby (own_pool X0 hx hZ hown hw hP) (retOut X0 hx Bd.returns hr.1 hr.2 (hb hby hd) hr')), hrun, hended, _, _, rfl, ⟨rfl, rfl, ?_⟩, ⟨_, rfl⟩, hW, hsame⟩
  exact e0
theorem own_callP (X : Stand p l e R s m args below meth c T locs cells slots) (hx : p.tables.exec = Jvm.exec) (hZ : Z.Warmed39 s.vm) {own : String} {index : Nat} {y : MethodName} {bytes : ByteArray} {maxL : Nat} {ret : Option FieldType} (hown : s.vm.findClass own = some m.cls)
    (w1 : (Jvm.Cond.methodLink own index y).before a0 Z = true) (w2 : (Jvm.Cond.static y).before a0 Z = true) (w3 : (Jvm.Cond.initialized y.cls).before a0 Z = true) (w4 : (Jvm.Cond.code y bytes maxL ret).before a0 Z = true) (hy : y.cls ≠ "java/lang/invoke/MethodHandle" ∧ y.cls ≠ "java/lang/invoke/VarHandle")
    (eT : T.heap = h) {fr lo W : Nat} {argsL rest : List Value} {v : Option Value} (hM : own_Pure l Z y bytes maxL ret fr lo argsL.toArray h v) (hf : fr + 1 ≤ R.frames) (hl : W + (maxL + 11) + lo ≤ R.locals) (hc : cells ≤ R.cells) (hs : slots ≤ R.slots)
    {g : JFrame} (hg : g.method = m) (hsize : g.locals.size = c.maxLocals) (hlen : ∀ sig, parseMethodDescriptor y.desc = some sig → argsL.length = sig.parameters.length) (hst : g.stack = argsL.reverse ++ rest) (hW : 2 * g.monitorRoom + (rest.map fun v => v.category).sum ≤ W) (hd : decode c.code g.pc = .ok (.invokestatic index, 3)) :
    ∃ T', Stand p l e R s m args below meth c T' locs cells slots ∧ T'.heap = h ∧ ∀ target, Steps p.tables e below (T'.setTop { g with pc := g.pc + 3, stack := v.toList ++ rest }) target → Steps p.tables e below (T.setTop g) target := by
  obtain ⟨v', vm1, ⟨T2, L2, k2, n2⟩, -, X2, ⟨Lc, hQ, l2, y2, z2⟩, st⟩ := Jvm.LawKit.callS X hx hown (mvT hZ w1) (mvT hZ w2) (mvT hZ w3) (mvT hZ w4) hy (backOf (W := W) (rm := own_room fr lo) (Q := fun w H L => w = v ∧ L = [] ∧ H = h) hM hZ w4 w3 hf hl) hg hsize hlen hst hW hd (fun _ _ => ⟨rfl, eT, hc, hs⟩)
  dsimp only [Pt.U, Pt.locs, Pt.cells, Pt.slots] at X2 l2 y2 z2 st hQ
  obtain ⟨rfl, rfl, e2⟩ := hQ
  subst l2 y2 z2
  rw [List.append_nil] at X2
  exact ⟨T2, X2, e2, st⟩
end OwnCall
/-! the heap layer: own_Hp says what the cells made since the start hold; one rule a step -/
section OwnHeap
open Jvm.Free Jvm.Stand Jvm.LawKit Jvm.RoadKit
abbrev own_Cel := (String × List (String × String × String × Value)) ⊕ (FieldType × List Value)
abbrev own_O (C : String) (fs : List (String × String × String × Value)) : own_Cel := Sum.inl (C, fs)
abbrev own_A (ty : FieldType) (vs : List Value) : own_Cel := Sum.inr (ty, vs)
/-- what is known of an array's class -/
def own_AC (Z : State) (h : Heap) (a : Addr) (c : Cell) (ty : FieldType) : Prop :=
  match ty with
  | .object C => Ovr Z c.cls C
  | .array t => OvrA Z c.cls t (FieldType.array t).toString ∧ Exa Z h a ("[" ++ (FieldType.array t).toString)
  | t => Exa Z h a ("[" ++ t.toString)
theorem own_AC_map {Z : State} {h h' : Heap} {a : Addr} {c c' : Cell} {ty : FieldType} (hc : c'.cls = c.cls) (hE : ∀ C, Exa Z h a C → Exa Z h' a C) (H : own_AC Z h a c ty) : own_AC Z h' a c' ty := by
  cases ty <;> simp only [own_AC, hc] at H ⊢ <;> first | exact H | exact hE _ H | exact ⟨H.1, hE _ H.2⟩
def own_Is (Z : State) (a0 : Array Value) (h : Heap) (a : Addr) (q : own_Cel) : Prop :=
  match q with
  | .inl (C, fs) => Exa Z h a C ∧ (∀ f ∈ fs, Fld Z h a f.1 f.2.1 f.2.2.1 f.2.2.2 ∧ Laid Z a0 C f.1 f.2.1 f.2.2.1 ∧ ∃ t, parseFieldDescriptor f.2.2.1 = some t) ∧ (fs.map fun f => f.2.1).Nodup
  | .inr (ty, vs) => ∃ c : Cell, Arr Z h a c ty ∧ c.slots.toList = vs ∧ own_AC Z h a c ty
/-- the start's heap, and a floor that the heap has not fallen below -/
abbrev own_Base : Type := Heap × Nat
abbrev own_Base.b (hb : own_Base) : Heap := hb.1
abbrev own_Base.fl (hb : own_Base) : Nat := hb.2
abbrev own_Base.size (hb : own_Base) : Nat := hb.b.size
def own_Bx (hb : own_Base) (h : Heap) : Prop := Ext hb.b h ∧ hb.fl ≤ h.size
def own_Hp (Z : State) (a0 : Array Value) (hb : own_Base) (h : Heap) (cs : List (Addr × own_Cel)) : Prop := own_Bx hb h ∧ (∀ q ∈ cs, own_Is Z a0 h q.1 q.2 ∧ hb.size ≤ q.1) ∧ (cs.map Prod.fst).Nodup
section Facts
variable {Z : State} {a0 : Array Value} {hb : own_Base} {h h' : Heap} {cs : List (Addr × own_Cel)} {a b : Addr} {q : own_Cel}
theorem own_Is_lt (H : own_Is Z a0 h a q) : a < h.size := by
  match q, H with
  | .inl (C, fs), H => exact H.1.lt
  | .inr (ty, vs), ⟨c, A, _⟩ => exact A.lt
theorem own_Is_ext (E : Ext h h') (H : own_Is Z a0 h a q) : own_Is Z a0 h' a q := by
  match q, H with
  | .inl (C, fs), H => exact ⟨H.1.ext E, fun f hf => ⟨(H.2.1 f hf).1.ext E, (H.2.1 f hf).2⟩, H.2.2⟩
  | .inr (ty, vs), ⟨c, A, e⟩ => exact ⟨c, A.ext E, e.1, own_AC_map rfl (fun C F => F.ext E) e.2⟩
theorem own_Is_wr {sl : Nat} {v : Value} (W : Wr h h' b sl v) (hne : a ≠ b) (H : own_Is Z a0 h a q) : own_Is Z a0 h' a q := by
  match q, H with
  | .inl (C, fs), H => exact ⟨H.1.wr W, fun f hf => ⟨(H.2.1 f hf).1.other W (Or.inl hne), (H.2.1 f hf).2⟩, H.2.2⟩
  | .inr (ty, vs), ⟨c, A, e⟩ => exact ⟨c, A.other W hne, e.1, own_AC_map rfl (fun C F => F.wr W) e.2⟩
theorem own_ext_trans {h1 h2 h3 : Heap} (E : Ext h1 h2) (F : Ext h2 h3) : Ext h1 h3 := ⟨Nat.le_trans E.1 F.1, fun a c q => F.2 a c (E.2 a c q)⟩
theorem own_ext_refl (h1 : Heap) : Ext h1 h1 := ⟨Nat.le_refl _, fun _ _ q => q⟩
theorem own_bx_trans (E : own_Bx hb h) (F : Ext h h') : own_Bx hb h' := ⟨own_ext_trans E.1 F, Nat.le_trans E.2 F.1⟩
theorem own_ext_wr {sl : Nat} {v : Value} (E0 : own_Bx hb h) (W : Wr h h' b sl v) (hn : hb.size ≤ b) : own_Bx hb h' := by
  obtain ⟨E, E2⟩ := E0
  refine ⟨⟨by rw [W.size]; exact E.1, fun x c q => ?_⟩, by rw [W.size]; exact E2⟩
  have hx : x < hb.size := (Array.getElem?_eq_some_iff.mp q).1
  obtain ⟨cb, h1, -, -, -, h5, -⟩ := wr_at W (E.2 x c q)
  rw [h1, h5 (Nat.ne_of_lt (Nat.lt_of_lt_of_le hx hn))]
theorem own_Hp_start (Z : State) (a0 : Array Value) (hb : Heap) : own_Hp Z a0 ⟨hb, 0⟩ hb [] := ⟨⟨own_ext_refl hb, Nat.zero_le _⟩, fun q hq => absurd hq List.not_mem_nil, List.nodup_nil⟩
theorem own_Hp_new (H : own_Hp Z a0 hb h cs) (E : Ext h h') (N : own_Is Z a0 h' h.size q) : own_Hp Z a0 hb h' (cs ++ [(h.size, q)]) := by
  refine ⟨own_bx_trans H.1 E, fun p hp => ?_, ?_⟩
  · rcases List.mem_append.mp hp with hp | hp
    · exact ⟨own_Is_ext E (H.2.1 p hp).1, (H.2.1 p hp).2⟩
    · cases List.mem_singleton.mp hp
      exact ⟨N, H.1.1.1⟩
  · rw [List.map_append, List.nodup_append]
    refine ⟨H.2.2, by simp, fun x hx y hy => ?_⟩
    simp only [List.map_cons, List.map_nil, List.mem_singleton] at hy
    subst hy
    obtain ⟨p, hp, rfl⟩ := List.mem_map.mp hx
    exact Nat.ne_of_lt (own_Is_lt (H.2.1 p hp).1)
theorem own_Hp_ext (H : own_Hp Z a0 hb h cs) (E : Ext h h') : own_Hp Z a0 hb h' cs :=
  ⟨own_bx_trans H.1 E, fun p hp => ⟨own_Is_ext E (H.2.1 p hp).1, (H.2.1 p hp).2⟩, H.2.2⟩
theorem own_get (H : own_Hp Z a0 hb h cs) {i : Nat} (hi : cs[i]? = some (a, q)) : own_Is Z a0 h a q ∧ hb.size ≤ a := H.2.1 _ (List.mem_of_getElem? hi)
theorem own_ne (H : own_Hp Z a0 hb h cs) {i j : Nat} {q' : own_Cel} (hi : cs[i]? = some (a, q)) (hj : cs[j]? = some (b, q')) (hne : i ≠ j) : a ≠ b := by
  rintro rfl
  have hN := H.2.2
  obtain ⟨hi1, hi2⟩ := List.getElem?_eq_some_iff.mp hi
  obtain ⟨hj1, hj2⟩ := List.getElem?_eq_some_iff.mp hj
  have := (List.getElem_inj (xs := cs.map Prod.fst) (i := i) (j := j) (h₀ := by simpa using hi1) (h₁ := by simpa using hj1) hN).mp (by simp [hi2, hj2])
  exact hne this
theorem own_Hp_set (H : own_Hp Z a0 hb h cs) {i : Nat} {q' : own_Cel} {sl : Nat} {v : Value} (hi : cs[i]? = some (a, q)) (W : Wr h h' a sl v) (N : own_Is Z a0 h' a q') : own_Hp Z a0 hb h' (cs.set i (a, q')) := by
  obtain ⟨hi1, hi2⟩ := List.getElem?_eq_some_iff.mp hi
  refine ⟨own_ext_wr H.1 W (own_get H hi).2, fun p hp => ?_, ?_⟩
  · obtain ⟨j, hj, rfl⟩ := List.mem_iff_getElem.mp hp
    rw [List.getElem_set]
    split
    · exact ⟨N, (own_get H hi).2⟩
    · rename_i hne
      have hj' : j < cs.length := by simpa using hj
      have hm := H.2.1 cs[j] (List.getElem_mem hj')
      refine ⟨own_Is_wr W ?_ hm.1, hm.2⟩
      intro e
      exact own_ne H hi (j := j) (b := cs[j].1) (q' := cs[j].2) (List.getElem?_eq_getElem hj') hne e.symm
  · rw [List.map_set, show (a, q').fst = (cs.map Prod.fst)[i]'(by simpa using hi1) by simp [hi2], List.set_getElem_self]
    exact H.2.2
theorem own_Is_fld {C : String} {fs : List (String × String × String × Value)} {j : Nat} {O n d : String} {old v : Value} (H : own_Is Z a0 h a (own_O C fs)) (hj : fs[j]? = some (O, n, d, old)) (W : Wr h h' a (RoadKit.slotOf Z O n d) v) : own_Is Z a0 h' a (own_O C (fs.set j (O, n, d, v))) := by
  obtain ⟨h1, h2, h3⟩ := H
  obtain ⟨hj1, hj2⟩ := List.getElem?_eq_some_iff.mp hj
  refine ⟨h1.wr W, fun f hf => ?_, ?_⟩
  · obtain ⟨k, hk, rfl⟩ := List.mem_iff_getElem.mp hf
    have hm := h2 _ (List.mem_of_getElem? hj)
    rw [List.getElem_set]
    split
    · exact ⟨hm.1.same W, hm.2⟩
    · rename_i hne
      have hk' : k < fs.length := by simpa using hk
      have hk2 := h2 fs[k] (List.getElem_mem hk')
      obtain ⟨t, ht⟩ := hk2.2.2
      obtain ⟨t', ht'⟩ := hm.2.2
      refine ⟨hk2.1.other W (Or.inr (slot_ne hk2.2.1 hm.2.1 (fun e => ?_) ht ht')), hk2.2⟩
      have := (List.getElem_inj (xs := fs.map fun f => f.2.1) (i := k) (j := j) (h₀ := by simpa using hk') (h₁ := by simpa using hj1) h3).mp (by simp [hj2]; exact e)
      exact hne this.symm
  · rw [List.map_set, show (O, n, d, v).2.1 = (fs.map fun f => f.2.1)[j]'(by simpa using hj1) by simp [hj2], List.set_getElem_self]
    exact h3
theorem own_Is_elt {ty : FieldType} {vs : List Value} {j : Nat} {v : Value} (H : own_Is Z a0 h a (own_A ty vs)) (W : Wr h h' a j v) : own_Is Z a0 h' a (own_A ty (vs.set j v)) := by
  obtain ⟨c, A, e⟩ := H
  refine ⟨_, A.same W, ?_, own_AC_map rfl (fun C F => F.wr W) e.2⟩
  rw [← e.1]
  simp [Cell.setSlot]
end Facts
def own_S (p : Program) (l : Launch) (e : Env) (R : Room) (s : State) (m : MethodId) (args : Array Value) (below : List Frame) (meth : Method) (c : Code) (Z : State) (a0 : Array Value) (hb : own_Base) (T : State) (cs : List (Addr × own_Cel)) (k n : Nat) : Prop :=
  ∃ locs, Stand p l e R s m args below meth c T locs k n ∧ Fr hb.size locs ∧ own_Hp Z a0 hb T.heap cs
section Rules
variable {p : Program} {l : Launch} {e : Env} {R : Room} {s : State} {m : MethodId} {args : Array Value} {below : List Frame} {meth : Method} {c : Code} {T : State} {Z : State} {a0 : Array Value} {hb : own_Base} {cs : List (Addr × own_Cel)} {k n : Nat}
theorem own_go (H : own_S p l e R s m args below meth c Z a0 hb T cs k n) (hx : p.tables.exec = Jvm.exec) (hZ : Z.Warmed39 s.vm) {own : String} (hown : s.vm.findClass own = some m.cls) {bytes : ByteArray} (hby : c.code = bytes) {ws : List Jvm.Cond} (hw : ∀ d ∈ ws, d.before a0 Z = true) {P : List (Nat × Value)} (hP : ∀ q ∈ P, ∃ w ∈ ws, own_Word own q.1 q.2 w)
    {pc pc' : Nat} {L L' : Array Slot} {S S' : List Value} (r : own_Go P bytes pc L S pc' L' S') : ∀ target, Steps p.tables e below (T.setTop (mkF m pc' L' S')) target → Steps p.tables e below (T.setTop (mkF m pc L S)) target := by
  obtain ⟨locs, X, -, -⟩ := H
  exact fun target q => r p.tables e below T target m c X.here hx hby (own_pool X hx hZ hown hw hP) q
theorem own_newO (H : own_S p l e R s m args below meth c Z a0 hb T cs k n) (hx : p.tables.exec = Jvm.exec) (hZ : Z.Warmed39 s.vm) {own C : String} {index nn : Nat} (hown : s.vm.findClass own = some m.cls) (w : (Jvm.Cond.classLink own index C).before a0 Z = true) (wi : (Jvm.Cond.instantiable C nn).before a0 Z = true) (wz : (Jvm.Cond.initialized C).before a0 Z = true)
    (fs : List (String × String × String × Value)) (hfs : ∀ f ∈ fs, Laid Z a0 C f.1 f.2.1 f.2.2.1 ∧ ∃ t, parseFieldDescriptor f.2.2.1 = some t ∧ defaultValue t = f.2.2.2) (hN : (fs.map fun f => f.2.1).Nodup)
    {g : JFrame} (hg : g.method = m) (hd : decode c.code g.pc = .ok (.new index, 3)) (hc : k + 1 ≤ R.cells) (hl : n + nn ≤ R.slots) :
    ∃ T' x, own_S p l e R s m args below meth c Z a0 hb T' (cs ++ [(x, own_O C fs)]) (k + 1) (n + nn) ∧ ∀ target, Steps p.tables e below (T'.setTop { g with pc := g.pc + 3, stack := .ref x :: g.stack }) target → Steps p.tables e below (T.setTop g) target := by
  obtain ⟨locs, X, N, hH⟩ := H
  obtain ⟨T', h', X', e', E, A, D, -, st⟩ := newO X hx hZ hown w wi wz rfl hg hd hc hl
  refine ⟨T', T.heap.size, ⟨locs, X', N, ?_⟩, st⟩
  rw [e']
  refine own_Hp_new hH E ⟨A, fun f hf => ?_, hN⟩
  obtain ⟨h1, t, h2, h3⟩ := hfs f hf
  exact ⟨h3 ▸ D h1 h2, h1, t, h2⟩
theorem own_newA (H : own_S p l e R s m args below meth c Z a0 hb T cs k n) (hx : p.tables.exec = Jvm.exec) (hZ : Z.Warmed39 s.vm) {aty : ArrayType} (w : (Jvm.Cond.arrayClass (newarray.typeOf aty)).before a0 Z = true) {g : JFrame} (hg : g.method = m) (hd : decode c.code g.pc = .ok (.newarray aty, 2)) {z : Int32} {rest : List Value} (hs : g.stack = .int z :: rest)
    (hn : ¬ z < 0) {cap : Nat} (hcap : z.toNatClampNeg ≤ cap) (hb8 : cap * 8 ≤ 536870912) (hc : k + 1 ≤ R.cells) (hl : n + cap ≤ R.slots) :
    ∃ T' x, own_S p l e R s m args below meth c Z a0 hb T' (cs ++ [(x, own_A (newarray.typeOf aty) (List.replicate z.toNatClampNeg (defaultValue (newarray.typeOf aty))))]) (k + 1) (n + cap) ∧ ∀ target, Steps p.tables e below (T'.setTop { g with pc := g.pc + 2, stack := .ref x :: rest }) target → Steps p.tables e below (T.setTop g) target := by
  obtain ⟨locs, X, N, hH⟩ := H
  obtain ⟨T', h', cA, X', e', E, A, F, st⟩ := newPE X hx hZ w rfl hg hd hs hn hcap hb8 hc hl rfl
  refine ⟨T', T.heap.size, ⟨locs, X', N, ?_⟩, st⟩
  rw [e']
  exact own_Hp_new hH E ⟨_, A, by simp [newA], by cases aty <;> exact F⟩
theorem own_getF (H : own_S p l e R s m args below meth c Z a0 hb T cs k n) (hx : p.tables.exec = Jvm.exec) (hZ : Z.Warmed39 s.vm) {own O nm d : String} {index : Nat} (hown : s.vm.findClass own = some m.cls) (w : (Jvm.Cond.fieldLink own index O nm d).before a0 Z = true)
    {x : Addr} {C : String} {fs : List (String × String × String × Value)} {v : Value} (i j : Nat) (hi : cs[i]? = some (x, own_O C fs)) (hj : fs[j]? = some (O, nm, d, v)) {g : JFrame} (hg : g.method = m) {rest : List Value} (hs : g.stack = .ref x :: rest) (hd : decode c.code g.pc = .ok (.getfield index, 3)) :
    ∃ T', own_S p l e R s m args below meth c Z a0 hb T' cs k n ∧ ∀ target, Steps p.tables e below (T'.setTop { g with pc := g.pc + 3, stack := v :: rest }) target → Steps p.tables e below (T.setTop g) target := by
  obtain ⟨locs, X, N, hH⟩ := H
  have F := ((own_get hH hi).1.2.1 _ (List.mem_of_getElem? hj)).1
  obtain ⟨T', X', e', st⟩ := getF X hx hZ hown (host := "") (Or.inl w) Via.refl rfl F hg hs hd
  exact ⟨T', ⟨locs, X', N, e' ▸ hH⟩, st⟩
theorem own_putF (H : own_S p l e R s m args below meth c Z a0 hb T cs k n) (hx : p.tables.exec = Jvm.exec) (hZ : Z.Warmed39 s.vm) {own O nm d : String} {index kk : Nat} {ty : FieldType} (hown : s.vm.findClass own = some m.cls) (w : (Jvm.Cond.fieldLink own index O nm d).before a0 Z = true)
    {x : Addr} {C : String} {fs : List (String × String × String × Value)} {v old : Value} (i j : Nat) (hi : cs[i]? = some (x, own_O C fs)) (hj : fs[j]? = some (O, nm, d, old)) (L : (Jvm.Cond.lays C O nm d).before a0 Z = true ∨ ((Jvm.Cond.laysFinal C O nm d).before a0 Z = true ∧ own = O ∧ meth.name = "<init>")) (wi : (Jvm.Cond.instantiable C kk).before a0 Z = true)
    (hty : parseFieldDescriptor d = some ty) (hn : narrow ty v = v) (hf : fits ty v = true) {g : JFrame} (hg : g.method = m) {rest : List Value} (hs : g.stack = v :: .ref x :: rest) (hd : decode c.code g.pc = .ok (.putfield index, 3)) :
    ∃ T', own_S p l e R s m args below meth c Z a0 hb T' (cs.set i (x, own_O C (fs.set j (O, nm, d, v)))) k n ∧ ∀ target, Steps p.tables e below (T'.setTop { g with pc := g.pc + 3, stack := rest }) target → Steps p.tables e below (T.setTop g) target := by
  obtain ⟨locs, X, N, hH⟩ := H
  have I := own_get hH hi
  have F := (I.1.2.1 _ (List.mem_of_getElem? hj)).1
  obtain ⟨T', h', X', e', W, st⟩ := putF X hx hZ hown (host := "") (Or.inl w) Via.refl rfl F I.1.1 L wi hty hn hf hg hs hd
  refine ⟨T', ⟨_, X', Fr.snoc X' N I.2, ?_⟩, st⟩
  rw [e']
  exact own_Hp_set hH hi W (own_Is_fld I.1 hj W)
theorem own_initO (H : own_S p l e R s m args below meth c Z a0 hb T cs k n) (hx : p.tables.exec = Jvm.exec) (hZ : Z.Warmed39 s.vm) {own : String} {idx : Nat} (hown : s.vm.findClass own = some m.cls) (w1 : (Jvm.Cond.methodLink own idx Lib.objectInit).before a0 Z = true) (w2 : (Jvm.Cond.instanceMethod Lib.objectInit).before a0 Z = true)
    (w3 : (Jvm.Cond.code Lib.objectInit ⟨#[0xb1]⟩ 1 none).before a0 Z = true) {g : JFrame} (hg : g.method = m) (hsize : g.locals.size = c.maxLocals) {a : Addr} {rest : List Value} (hs : g.stack = .ref a :: rest) (hd : decode c.code g.pc = .ok (.invokespecial idx, 3))
    (hf : 1 ≤ R.frames) {W : Nat} (hW : 2 * g.monitorRoom + (rest.map fun v => v.category).sum ≤ W) (hl : W + 12 ≤ R.locals) :
    ∃ T', own_S p l e R s m args below meth c Z a0 hb T' cs k n ∧ ∀ target, Steps p.tables e below (T'.setTop { g with pc := g.pc + 3, stack := rest }) target → Steps p.tables e below (T.setTop g) target := by
  obtain ⟨locs, X, N, hH⟩ := H
  obtain ⟨T', X', e', st⟩ := initO X hx hZ hown w1 w2 w3 rfl hg hsize hs hd hf hW hl
  exact ⟨T', ⟨locs, X', N, e' ▸ hH⟩, st⟩
theorem own_idx {j : Int32} {vs : List Value} {cl : Cell} (e : cl.slots.toList = vs) (h0 : 0 ≤ j.toInt) (h1 : j.toInt < vs.length) : ¬ (j < 0 ∨ cl.slots.size ≤ j.toNatClampNeg) := by
  have hl : cl.slots.size = vs.length := by rw [← e]; simp
  rintro (q | q)
  · rw [Int32.lt_iff_toInt_lt] at q; rw [show (0 : Int32).toInt = 0 from rfl] at q; omega
  · have : j.toNatClampNeg = j.toInt.toNat := rfl
    omega
theorem own_at_idx {j : Int32} {vs : List Value} {cl : Cell} {v : Value} (e : cl.slots.toList = vs) {i : Nat} (hi : j.toInt = i) (hv : vs[i]? = some v) : cl.slots[j.toNatClampNeg]? = some v := by
  have : j.toNatClampNeg = i := by show j.toInt.toNat = i; omega
  rw [this, ← Array.getElem?_toList, e]; exact hv
theorem own_daload (H : own_S p l e R s m args below meth c Z a0 hb T cs k n) (hx : p.tables.exec = Jvm.exec) (hZ : Z.Warmed39 s.vm) {x : Addr} {vs : List Value} {j : Int32} {v : Value} (i jj : Nat) (hi : cs[i]? = some (x, own_A .double vs)) (hj : j.toInt = jj) (hv : vs[jj]? = some v)
    {g : JFrame} (hg : g.method = m) {rest : List Value} (hs : g.stack = .int j :: .ref x :: rest) (hd : decode c.code g.pc = .ok (.daload, 1)) :
    ∀ target, Steps p.tables e below (T.setTop { g with pc := g.pc + 1, stack := v :: rest }) target → Steps p.tables e below (T.setTop g) target := by
  obtain ⟨locs, X, N, hH⟩ := H
  obtain ⟨cl, A, hc, -⟩ := (own_get hH hi).1
  have hlt : jj < vs.length := (List.getElem?_eq_some_iff.mp hv).1
  exact fun target q => X.daload hx A.1 (State.isArrayOf_alike hZ.alike A.2.1) A.2.2 (own_idx hc (by omega) (by omega)) (own_at_idx hc hj hv) hg hs hd target q
theorem own_iaload (H : own_S p l e R s m args below meth c Z a0 hb T cs k n) (hx : p.tables.exec = Jvm.exec) (hZ : Z.Warmed39 s.vm) {x : Addr} {vs : List Value} {j : Int32} {v : Value} (i jj : Nat) (hi : cs[i]? = some (x, own_A .int vs)) (hj : j.toInt = jj) (hv : vs[jj]? = some v)
    {g : JFrame} (hg : g.method = m) {rest : List Value} (hs : g.stack = .int j :: .ref x :: rest) (hd : decode c.code g.pc = .ok (.iaload, 1)) :
    ∀ target, Steps p.tables e below (T.setTop { g with pc := g.pc + 1, stack := v :: rest }) target → Steps p.tables e below (T.setTop g) target := by
  obtain ⟨locs, X, N, hH⟩ := H
  obtain ⟨cl, A, hc, -⟩ := (own_get hH hi).1
  have hlt : jj < vs.length := (List.getElem?_eq_some_iff.mp hv).1
  exact fun target q => X.iaload hx A.1 (State.isArrayOf_alike hZ.alike A.2.1) A.2.2 (own_idx hc (by omega) (by omega)) (own_at_idx hc hj hv) hg hs hd target q
theorem own_laload (H : own_S p l e R s m args below meth c Z a0 hb T cs k n) (hx : p.tables.exec = Jvm.exec) (hZ : Z.Warmed39 s.vm) {x : Addr} {vs : List Value} {j : Int32} {v : Value} (i jj : Nat) (hi : cs[i]? = some (x, own_A .long vs)) (hj : j.toInt = jj) (hv : vs[jj]? = some v)
    {g : JFrame} (hg : g.method = m) {rest : List Value} (hs : g.stack = .int j :: .ref x :: rest) (hd : decode c.code g.pc = .ok (.laload, 1)) :
    ∀ target, Steps p.tables e below (T.setTop { g with pc := g.pc + 1, stack := v :: rest }) target → Steps p.tables e below (T.setTop g) target := by
  obtain ⟨locs, X, N, hH⟩ := H
  obtain ⟨cl, A, hc, -⟩ := (own_get hH hi).1
  have hlt : jj < vs.length := (List.getElem?_eq_some_iff.mp hv).1
  exact fun target q => X.laload hx A.1 (State.isArrayOf_alike hZ.alike A.2.1) A.2.2 (own_idx hc (by omega) (by omega)) (own_at_idx hc hj hv) hg hs hd target q
theorem own_aaload (H : own_S p l e R s m args below meth c Z a0 hb T cs k n) (hx : p.tables.exec = Jvm.exec) (hZ : Z.Warmed39 s.vm) {x : Addr} {ty : FieldType} {vs : List Value} {j : Int32} {v : Value} (i jj : Nat) (hi : cs[i]? = some (x, own_A ty vs)) (hty : ty.isReference = true) (hj : j.toInt = jj) (hv : vs[jj]? = some v)
    {g : JFrame} (hg : g.method = m) {rest : List Value} (hs : g.stack = .int j :: .ref x :: rest) (hd : decode c.code g.pc = .ok (.aaload, 1)) :
    ∀ target, Steps p.tables e below (T.setTop { g with pc := g.pc + 1, stack := v :: rest }) target → Steps p.tables e below (T.setTop g) target := by
  obtain ⟨locs, X, N, hH⟩ := H
  obtain ⟨cl, A, hc, -⟩ := (own_get hH hi).1
  have hlt : jj < vs.length := (List.getElem?_eq_some_iff.mp hv).1
  exact fun target q => X.aaload hx A.1 (State.isArrayOf_alike hZ.alike A.2.1) hty A.2.2 (own_idx hc (by omega) (by omega)) (own_at_idx hc hj hv) hg hs hd target q
theorem own_arrlen (H : own_S p l e R s m args below meth c Z a0 hb T cs k n) (hx : p.tables.exec = Jvm.exec) (hZ : Z.Warmed39 s.vm) {x : Addr} {ty : FieldType} {vs : List Value} (i : Nat) (hi : cs[i]? = some (x, own_A ty vs)) {z : Int32} (hz : vs.length.toInt32 = z)
    {g : JFrame} (hg : g.method = m) {rest : List Value} (hs : g.stack = .ref x :: rest) (hd : decode c.code g.pc = .ok (.arraylength, 1)) :
    ∀ target, Steps p.tables e below (T.setTop { g with pc := g.pc + 1, stack := .int z :: rest }) target → Steps p.tables e below (T.setTop g) target := by
  obtain ⟨locs, X, N, hH⟩ := H
  obtain ⟨cl, A, hc, -⟩ := (own_get hH hi).1
  have hl : cl.slots.size = vs.length := by rw [← hc]; simp
  refine fun target q => X.arraylength hx A.1 (State.isArrayOf_alike hZ.alike A.2.1) hg hs hd target ?_
  rw [hl, hz]; exact q
theorem own_dastore (H : own_S p l e R s m args below meth c Z a0 hb T cs k n) (hx : p.tables.exec = Jvm.exec) (hZ : Z.Warmed39 s.vm) {x : Addr} {vs : List Value} {j : Int32} {v : UInt64} (i jj : Nat) (hi : cs[i]? = some (x, own_A .double vs)) (hj : j.toInt = jj) (hlt : jj < vs.length)
    {g : JFrame} (hg : g.method = m) {rest : List Value} (hs : g.stack = .double v :: .int j :: .ref x :: rest) (hd : decode c.code g.pc = .ok (.dastore, 1)) :
    ∃ T', own_S p l e R s m args below meth c Z a0 hb T' (cs.set i (x, own_A .double (vs.set jj (.double v)))) k n ∧ ∀ target, Steps p.tables e below (T'.setTop { g with pc := g.pc + 1, stack := rest }) target → Steps p.tables e below (T.setTop g) target := by
  obtain ⟨locs, X, N, hH⟩ := H
  have I := own_get hH hi
  obtain ⟨cl, A, hc, -⟩ := I.1
  obtain ⟨T', h', X', e', W, st⟩ := stD X hx hZ rfl A (own_idx hc (by omega) (by omega)) hg hs hd
  have hjj : j.toNatClampNeg = jj := by show j.toInt.toNat = jj; omega
  rw [hjj] at W
  refine ⟨T', ⟨_, X', Fr.snoc X' N I.2, ?_⟩, st⟩
  rw [e']
  exact own_Hp_set hH hi W (own_Is_elt I.1 W)
theorem own_iastore (H : own_S p l e R s m args below meth c Z a0 hb T cs k n) (hx : p.tables.exec = Jvm.exec) (hZ : Z.Warmed39 s.vm) {x : Addr} {vs : List Value} {j : Int32} {v : Int32} (i jj : Nat) (hi : cs[i]? = some (x, own_A .int vs)) (hj : j.toInt = jj) (hlt : jj < vs.length)
    {g : JFrame} (hg : g.method = m) {rest : List Value} (hs : g.stack = .int v :: .int j :: .ref x :: rest) (hd : decode c.code g.pc = .ok (.iastore, 1)) :
    ∃ T', own_S p l e R s m args below meth c Z a0 hb T' (cs.set i (x, own_A .int (vs.set jj (.int v)))) k n ∧ ∀ target, Steps p.tables e below (T'.setTop { g with pc := g.pc + 1, stack := rest }) target → Steps p.tables e below (T.setTop g) target := by
  obtain ⟨locs, X, N, hH⟩ := H
  have I := own_get hH hi
  obtain ⟨cl, A, hc, -⟩ := I.1
  obtain ⟨T', h', X', e', W, st⟩ := stI X hx hZ rfl A (own_idx hc (by omega) (by omega)) hg hs hd
  have hjj : j.toNatClampNeg = jj := by show j.toInt.toNat = jj; omega
  rw [hjj] at W
  refine ⟨T', ⟨_, X', Fr.snoc X' N I.2, ?_⟩, st⟩
  rw [e']
  exact own_Hp_set hH hi W (own_Is_elt I.1 W)
theorem own_lastore (H : own_S p l e R s m args below meth c Z a0 hb T cs k n) (hx : p.tables.exec = Jvm.exec) (hZ : Z.Warmed39 s.vm) {x : Addr} {vs : List Value} {j : Int32} {v : Int64} (i jj : Nat) (hi : cs[i]? = some (x, own_A .long vs)) (hj : j.toInt = jj) (hlt : jj < vs.length)
    {g : JFrame} (hg : g.method = m) {rest : List Value} (hs : g.stack = .long v :: .int j :: .ref x :: rest) (hd : decode c.code g.pc = .ok (.lastore, 1)) :
    ∃ T', own_S p l e R s m args below meth c Z a0 hb T' (cs.set i (x, own_A .long (vs.set jj (.long v)))) k n ∧ ∀ target, Steps p.tables e below (T'.setTop { g with pc := g.pc + 1, stack := rest }) target → Steps p.tables e below (T.setTop g) target := by
  obtain ⟨locs, X, N, hH⟩ := H
  have I := own_get hH hi
  obtain ⟨cl, A, hc, -⟩ := I.1
  obtain ⟨T', h', X', e', W, st⟩ := stJ X hx hZ rfl A (own_idx hc (by omega) (by omega)) hg hs hd
  have hjj : j.toNatClampNeg = jj := by show j.toInt.toNat = jj; omega
  rw [hjj] at W
  refine ⟨T', ⟨_, X', Fr.snoc X' N I.2, ?_⟩, st⟩
  rw [e']
  exact own_Hp_set hH hi W (own_Is_elt I.1 W)
theorem own_aastore (H : own_S p l e R s m args below meth c Z a0 hb T cs k n) (hx : p.tables.exec = Jvm.exec) (hZ : Z.Warmed39 s.vm) {x y : Addr} {t ty : FieldType} {vs ws : List Value} {j : Int32} (i iy jj : Nat) (hi : cs[i]? = some (x, own_A (.array t) vs)) (hy : cs[iy]? = some (y, own_A ty ws)) (hE : ∀ h c, own_AC Z h y c ty → Exa Z h y (FieldType.array t).toString) (hj : j.toInt = jj) (hlt : jj < vs.length)
    {g : JFrame} (hg : g.method = m) {rest : List Value} (hs : g.stack = .ref y :: .int j :: .ref x :: rest) (hd : decode c.code g.pc = .ok (.aastore, 1)) :
    ∃ T', own_S p l e R s m args below meth c Z a0 hb T' (cs.set i (x, own_A (.array t) (vs.set jj (.ref y)))) k n ∧ ∀ target, Steps p.tables e below (T'.setTop { g with pc := g.pc + 1, stack := rest }) target → Steps p.tables e below (T.setTop g) target := by
  obtain ⟨locs, X, N, hH⟩ := H
  have I := own_get hH hi
  obtain ⟨cl, A, hc, hO⟩ := I.1
  obtain ⟨cy, Ay, -, hF⟩ := (own_get hH hy).1
  obtain ⟨T', h', X', e', W, st⟩ := stR X hx hZ rfl A (own_idx hc (by omega) (by omega)) rfl (Sto.ofVA A rfl hO.1 (Ins.self (hE _ _ hF))) hg hs hd
  have hjj : j.toNatClampNeg = jj := by show j.toInt.toNat = jj; omega
  rw [hjj] at W
  refine ⟨T', ⟨_, X', Fr.snoc X' N I.2, ?_⟩, st⟩
  rw [e']
  exact own_Hp_set hH hi W (own_Is_elt I.1 W)
theorem own_newRA (H : own_S p l e R s m args below meth c Z a0 hb T cs k n) (hx : p.tables.exec = Jvm.exec) (hZ : Z.Warmed39 s.vm) {own C : String} {ty : FieldType} {index : Nat} (hown : s.vm.findClass own = some m.cls) (hC : (FieldType.array ty).toString = C) (w1 : (Jvm.Cond.classLink own index C).before a0 Z = true) (w2 : (Jvm.Cond.arrayOver (.array ty)).before a0 Z = true)
    {g : JFrame} (hg : g.method = m) (hd : decode c.code g.pc = .ok (.anewarray index, 3)) {z : Int32} {rest : List Value} (hs : g.stack = .int z :: rest) (hn : ¬ z < 0) {cap : Nat} (hcap : z.toNatClampNeg ≤ cap) (hb8 : cap * 8 ≤ 536870912) (hc : k + 1 ≤ R.cells) (hl : n + cap ≤ R.slots) :
    ∃ T' x, own_S p l e R s m args below meth c Z a0 hb T' (cs ++ [(x, own_A (.array ty) (List.replicate z.toNatClampNeg .null))]) (k + 1) (n + cap) ∧ ∀ target, Steps p.tables e below (T'.setTop { g with pc := g.pc + 3, stack := .ref x :: rest }) target → Steps p.tables e below (T.setTop g) target := by
  obtain ⟨locs, X, N, hH⟩ := H
  obtain ⟨T', h', cA, X', e', E, A, F, O, st⟩ := newRA X hx hZ hown hC w1 w2 rfl hg hd hs hn hcap hb8 hc hl rfl
  subst hC
  refine ⟨T', T.heap.size, ⟨locs, X', N, ?_⟩, st⟩
  rw [e']
  exact own_Hp_new hH E ⟨_, A, by simp [newA, defaultValue], O, F⟩
theorem own_cloneA (H : own_S p l e R s m args below meth c Z a0 hb T cs k n) (hx : p.tables.exec = Jvm.exec) (hZ : Z.Warmed39 s.vm) {own ad : String} {index : Nat} (hown : s.vm.findClass own = some m.cls)
    (w1 : (Jvm.Cond.methodLink own index ⟨ad, "clone", "()Ljava/lang/Object;"⟩).before a0 Z = true) (w2 : (Jvm.Cond.sameMethod ad "java/lang/Object" "clone" "()Ljava/lang/Object;").before a0 Z = true) (w3 : (Jvm.Cond.native ⟨"java/lang/Object", "clone", "()Ljava/lang/Object;"⟩).before a0 Z = true)
    (w4 : (Jvm.Cond.instanceMethod ⟨"java/lang/Object", "clone", "()Ljava/lang/Object;"⟩).before a0 Z = true) (w5 : (Jvm.Cond.selects ad ⟨ad, "clone", "()Ljava/lang/Object;"⟩ ⟨"java/lang/Object", "clone", "()Ljava/lang/Object;"⟩).before a0 Z = true) (w6 : (Jvm.Cond.castable ad "java/lang/Cloneable").before a0 Z = true)
    {x : Addr} {ty : FieldType} {vs : List Value} (i : Nat) (hi : cs[i]? = some (x, own_A ty vs)) (hE : ∀ h x c, own_AC Z h x c ty → Exa Z h x ad) (hA : ∀ h x c, Exa Z h x ad → own_AC Z h x c ty) (hfit : ∀ v ∈ vs, fits ty v = true)
    {g : JFrame} (hg : g.method = m) (hsize : g.locals.size = c.maxLocals) {rest : List Value} (hs : g.stack = .ref x :: rest) (hd : decode c.code g.pc = .ok (.invokevirtual index, 3))
    (hf : 1 ≤ R.frames) {W cap : Nat} (hW : 2 * g.monitorRoom + (rest.map fun v => v.category).sum ≤ W) (hl : W + 14 ≤ R.locals) (hcap : vs.length ≤ cap) (hc : k + 1 ≤ R.cells) (hsl : n + cap ≤ R.slots) :
    ∃ T' y, own_S p l e R s m args below meth c Z a0 hb T' (cs ++ [(y, own_A ty vs)]) (k + 1) (n + cap) ∧ ∀ target, Steps p.tables e below (T'.setTop { g with pc := g.pc + 3, stack := .ref y :: rest }) target → Steps p.tables e below (T.setTop g) target := by
  obtain ⟨locs, X, N, hH⟩ := H
  obtain ⟨cl, A, hc', hF⟩ := (own_get hH hi).1
  have FC : FitC Z cl := fitC_of A fun i hi v hv => hfit v (by rw [← hc']; rw [← Array.getElem?_toList] at hv; exact List.mem_of_getElem? hv)
  have hlen : cl.slots.size = vs.length := by rw [← hc']; simp
  obtain ⟨T', h', X', e', E, A', F', st⟩ := cloneA X hx hZ hown w1 w2 w3 w4 w5 w6 rfl A (hE _ _ _ hF) FC hg hsize hs hd hf hW hl (by rw [hlen]; exact hcap) hc hsl
  refine ⟨T', T.heap.size, ⟨locs, X', N, ?_⟩, st⟩
  rw [e']
  exact own_Hp_new hH E ⟨_, A', hc', hA _ _ _ F'⟩
theorem own_castA (H : own_S p l e R s m args below meth c Z a0 hb T cs k n) (hx : p.tables.exec = Jvm.exec) (hZ : Z.Warmed39 s.vm) {own ad : String} {index : Nat} (hown : s.vm.findClass own = some m.cls) (w : (Jvm.Cond.classLink own index ad).before a0 Z = true)
    {x : Addr} {ty : FieldType} {vs : List Value} (i : Nat) (hi : cs[i]? = some (x, own_A ty vs)) (hE : ∀ h x c, own_AC Z h x c ty → Exa Z h x ad) {g : JFrame} (hg : g.method = m) {rest : List Value} (hs : g.stack = .ref x :: rest) (hd : decode c.code g.pc = .ok (.checkcast index, 3)) :
    ∃ T', own_S p l e R s m args below meth c Z a0 hb T' cs k n ∧ ∀ target, Steps p.tables e below (T'.setTop { g with pc := g.pc + 3 }) target → Steps p.tables e below (T.setTop g) target := by
  obtain ⟨locs, X, N, hH⟩ := H
  obtain ⟨cl, A, -, hF⟩ := (own_get hH hi).1
  obtain ⟨T', X', e', st⟩ := castY X hx hZ hown w rfl (Ins.self (hE _ _ _ hF)) hg hs hd
  exact ⟨T', ⟨locs, X', N, e' ▸ hH⟩, st⟩
theorem own_castO (H : own_S p l e R s m args below meth c Z a0 hb T cs k n) (hx : p.tables.exec = Jvm.exec) (hZ : Z.Warmed39 s.vm) {own C : String} {index : Nat} (hown : s.vm.findClass own = some m.cls) (w : (Jvm.Cond.classLink own index C).before a0 Z = true)
    {x : Addr} {fs : List (String × String × String × Value)} (i : Nat) (hi : cs[i]? = some (x, own_O C fs)) {g : JFrame} (hg : g.method = m) {rest : List Value} (hs : g.stack = .ref x :: rest) (hd : decode c.code g.pc = .ok (.checkcast index, 3)) :
    ∃ T', own_S p l e R s m args below meth c Z a0 hb T' cs k n ∧ ∀ target, Steps p.tables e below (T'.setTop { g with pc := g.pc + 3 }) target → Steps p.tables e below (T.setTop g) target := by
  obtain ⟨locs, X, N, hH⟩ := H
  obtain ⟨T', X', e', st⟩ := castY X hx hZ hown w rfl (Ins.self (own_get hH hi).1.1) hg hs hd
  exact ⟨T', ⟨locs, X', N, e' ▸ hH⟩, st⟩
theorem own_instO (H : own_S p l e R s m args below meth c Z a0 hb T cs k n) (hx : p.tables.exec = Jvm.exec) (hZ : Z.Warmed39 s.vm) {own C : String} {index : Nat} (hown : s.vm.findClass own = some m.cls) (w : (Jvm.Cond.classLink own index C).before a0 Z = true)
    {x : Addr} {fs : List (String × String × String × Value)} (i : Nat) (hi : cs[i]? = some (x, own_O C fs)) {g : JFrame} (hg : g.method = m) {rest : List Value} (hs : g.stack = .ref x :: rest) (hd : decode c.code g.pc = .ok (.instanceof index, 3)) :
    ∃ T', own_S p l e R s m args below meth c Z a0 hb T' cs k n ∧ ∀ target, Steps p.tables e below (T'.setTop { g with pc := g.pc + 3, stack := .int 1 :: rest }) target → Steps p.tables e below (T.setTop g) target := by
  obtain ⟨locs, X, N, hH⟩ := H
  obtain ⟨T', X', e', st⟩ := instY X hx hZ hown w rfl (Ins.self (own_get hH hi).1.1) hg hs hd
  exact ⟨T', ⟨locs, X', N, e' ▸ hH⟩, st⟩
end Rules
/-- what a method does: from the cells cs and these arguments it returns a value and leaves cells of which Q holds -/
def own_Met (l : Launch) (Z : State) (a0 : Array Value) (hb : own_Base) (y : MethodName) (bytes : ByteArray) (maxL : Nat) (ret : Option FieldType) (ws : List Jvm.Cond) (rm : Room) (as' : Array Value) (cs : List (Addr × own_Cel)) (Q : Option Value → List (Addr × own_Cel) → Prop) : Prop :=
  ∀ h, own_Hp Z a0 hb h cs → MetFree l y (head1 (Jvm.Cond.code y bytes maxL ret :: ws) rm) (fun a U => a = as' ∧ Z.Warmed39 U.vm ∧ U.heap = h) (fun _ _ _ _ _ => True) (fun _ U o U' => ∃ w L, o = .returned w ∧ (Fr hb.size L ∧ ∃ cs', Q w cs' ∧ own_Hp Z a0 hb U'.heap cs') ∧ FrameEnd U o U' L rm.cells rm.slots)
/-- from the frame g the method runs to its return -/
def own_Ends (p : Program) (l : Launch) (e : Env) (R : Room) (s : State) (m : MethodId) (args : Array Value) (below : List Frame) (meth : Method) (c : Code) (Z : State) (a0 : Array Value) (hb : own_Base) (bytes : ByteArray) (ret : Option FieldType) (Q : Option Value → List (Addr × own_Cel) → Prop) (T : State) (g : JFrame) : Prop :=
  ∃ T' cs' k n pc L, own_S p l e R s m args below meth c Z a0 hb T' cs' k n ∧ k ≤ R.cells ∧ n ≤ R.slots ∧
    ((ret = none ∧ Q none cs' ∧ decode bytes pc = .ok (.return_, 1) ∧ ∀ target, Steps p.tables e below (T'.setTop (mkF m pc L [])) target → Steps p.tables e below (T.setTop g) target) ∨
     (∃ t v S i, ret = some t ∧ Q (some v) cs' ∧ decode bytes pc = .ok (i, 1) ∧ own_Ret i t v ∧ ∀ target, Steps p.tables e below (T'.setTop (mkF m pc L (v :: S))) target → Steps p.tables e below (T.setTop g) target))
theorem own_met_of {l : Launch} {Z : State} {a0 : Array Value} {hb : own_Base} {y : MethodName} {bytes : ByteArray} {maxL : Nat} {ret : Option FieldType} {ws : List Jvm.Cond} {rm : Room} {as' : Array Value} {cs : List (Addr × own_Cel)} {Q : Option Value → List (Addr × own_Cel) → Prop} {L0 : Array Slot} (hpl : plainFor y = true) (hef : ∀ m, entryFrame m as' maxL = mkF m 0 L0 [])
    (body : ∀ (p : Program) (e : Env) (s : State) (m : MethodId) (below : List Frame) (meth : Method) (c : Code) (T : State), p.tables.exec = Jvm.exec → Z.Warmed39 s.vm → s.vm.findClass y.cls = some m.cls → c.code = bytes → c.maxLocals = maxL → meth.name = y.name → own_S p l e rm s m as' below meth c Z a0 hb T cs 0 0 → own_Ends p l e rm s m as' below meth c Z a0 hb bytes ret Q T (mkF m 0 L0 [])) :
    own_Met l Z a0 hb y bytes maxL ret ws rm as' cs Q := by
  intro h hH
  refine MetFree.of_bodySF hpl hisR ?_
  intro p e s m args below meth c s₁ Bd hml0 hPP hK
  obtain ⟨rfl, hZ, hh⟩ := hPP
  have hown : s.vm.findClass y.cls = some m.cls := findClass_of_methodNamed Bd.named
  have hnm := (name_of_methodNamed Bd.named Bd.method).1
  have X0 : Stand p l e rm s m _ below meth c s₁ [] 0 0 := Stand.of_body Bd
  have e0 : s₁.heap = h := by rw [← hh, Bd.state]; rfl
  obtain ⟨T', cs', k, n, pc, L, ⟨locs, X, N, hH'⟩, hk, hn, hE⟩ := body p e s m below meth c s₁ Bd.exec hZ hown Bd.bytes hml0 hnm ⟨[], X0, Fr.nil _, e0 ▸ hH⟩
  rcases hE with ⟨rfl, hQ, hd, st⟩ | ⟨t, v, S, i, rfl, hQ, hd, hr, st⟩
  · obtain ⟨fs, hr', hrun, hended, hW, hsame⟩ := X.leave (v := none) (fun _ => rfl)
    exact ⟨_, _, castTop (hef m) (st _ (X.returnOut Bd.exec Bd.returns (Jvm.hb Bd.bytes hd) hr')), hrun, hended, _, _, rfl, ⟨N, cs', hQ, hH'⟩, ⟨_, rfl⟩, hW, hsame.mono hk hn⟩
  · obtain ⟨fs, hr', hrun, hended, hW, hsame⟩ := X.leave (v := some v) (fun h => by rw [Bd.returns] at h; cases h)
    exact ⟨_, _, castTop (hef m) (st _ (retOut X Bd.exec Bd.returns hr.1 hr.2 (Jvm.hb Bd.bytes hd) hr')), hrun, hended, _, _, rfl, ⟨N, cs', hQ, hH'⟩, ⟨_, rfl⟩, hW, hsame.mono hk hn⟩
section Calls
variable {p : Program} {l : Launch} {e : Env} {R : Room} {s : State} {m : MethodId} {args : Array Value} {below : List Frame} {meth : Method} {c : Code} {T : State} {Z : State} {a0 : Array Value} {hb : own_Base} {cs : List (Addr × own_Cel)} {k n : Nat}
theorem own_callS (H : own_S p l e R s m args below meth c Z a0 hb T cs k n) (hx : p.tables.exec = Jvm.exec) (hZ : Z.Warmed39 s.vm) {own : String} {index : Nat} {y : MethodName} {bytes : ByteArray} {maxL : Nat} {ret : Option FieldType} (hown : s.vm.findClass own = some m.cls)
    (w1 : (Jvm.Cond.methodLink own index y).before a0 Z = true) (w2 : (Jvm.Cond.static y).before a0 Z = true) (w3 : (Jvm.Cond.initialized y.cls).before a0 Z = true) (w4 : (Jvm.Cond.code y bytes maxL ret).before a0 Z = true) (hy : y.cls ≠ "java/lang/invoke/MethodHandle" ∧ y.cls ≠ "java/lang/invoke/VarHandle")
    {rm : Room} {W : Nat} {argsL rest : List Value} {Q : Option Value → List (Addr × own_Cel) → Prop} (hM : own_Met l Z a0 hb y bytes maxL ret [] rm argsL.toArray cs Q) (hf : rm.frames + 1 ≤ R.frames) (hl : W + (maxL + 11) + rm.locals ≤ R.locals) (hc : k + rm.cells ≤ R.cells) (hs : n + rm.slots ≤ R.slots)
    {g : JFrame} (hg : g.method = m) (hsize : g.locals.size = c.maxLocals) (hlen : ∀ sig, parseMethodDescriptor y.desc = some sig → argsL.length = sig.parameters.length) (hst : g.stack = argsL.reverse ++ rest) (hW : 2 * g.monitorRoom + (rest.map fun v => v.category).sum ≤ W) (hd : decode c.code g.pc = .ok (.invokestatic index, 3)) :
    ∃ T' v cs', Q v cs' ∧ own_S p l e R s m args below meth c Z a0 hb T' cs' (k + rm.cells) (n + rm.slots) ∧ ∀ target, Steps p.tables e below (T'.setTop { g with pc := g.pc + 3, stack := v.toList ++ rest }) target → Steps p.tables e below (T.setTop g) target := by
  obtain ⟨locs, X, N, hH⟩ := H
  obtain ⟨v', vm1, ⟨T2, L2, k2, n2⟩, -, X2, ⟨Lc, hQ, l2, y2, z2⟩, st⟩ := Jvm.LawKit.callS X hx hown (mvT hZ w1) (mvT hZ w2) (mvT hZ w3) (mvT hZ w4) hy (backOf (W := W) (rm := rm) (Q := fun w H L => Fr hb.size L ∧ ∃ cs', Q w cs' ∧ own_Hp Z a0 hb H cs') (hM _ hH) hZ w4 w3 hf hl) hg hsize hlen hst hW hd (fun _ _ => ⟨rfl, rfl, hc, hs⟩)
  dsimp only [Pt.U, Pt.locs, Pt.cells, Pt.slots] at X2 l2 y2 z2 st hQ
  obtain ⟨N2, cs', hQ', hH'⟩ := hQ
  subst l2 y2 z2
  exact ⟨T2, v', cs', hQ', ⟨_, X2, N.app N2, hH'⟩, st⟩
theorem own_callI (H : own_S p l e R s m args below meth c Z a0 hb T cs k n) (hx : p.tables.exec = Jvm.exec) (hZ : Z.Warmed39 s.vm) {own : String} {index : Nat} {y : MethodName} {bytes : ByteArray} {maxL : Nat} (hown : s.vm.findClass own = some m.cls) (hy1 : y.name = "<init>")
    (w1 : (Jvm.Cond.methodLink own index y).before a0 Z = true) (w2 : (Jvm.Cond.instanceMethod y).before a0 Z = true) (w3 : (Jvm.Cond.initialized y.cls).before a0 Z = true) (w4 : (Jvm.Cond.code y bytes maxL none).before a0 Z = true) (hy : y.cls ≠ "java/lang/invoke/MethodHandle" ∧ y.cls ≠ "java/lang/invoke/VarHandle")
    {rm : Room} {W : Nat} {x : Addr} {argsL rest : List Value} {Q : Option Value → List (Addr × own_Cel) → Prop} (hM : own_Met l Z a0 hb y bytes maxL none [] rm (Value.ref x :: argsL).toArray cs Q) (hf : rm.frames + 1 ≤ R.frames) (hl : W + (maxL + 11) + rm.locals ≤ R.locals) (hc : k + rm.cells ≤ R.cells) (hs : n + rm.slots ≤ R.slots)
    {g : JFrame} (hg : g.method = m) (hsize : g.locals.size = c.maxLocals) (hlen : ∀ sig, parseMethodDescriptor y.desc = some sig → argsL.length = sig.parameters.length) (hst : g.stack = argsL.reverse ++ .ref x :: rest) (hW : 2 * g.monitorRoom + (rest.map fun v => v.category).sum ≤ W) (hd : decode c.code g.pc = .ok (.invokespecial index, 3)) :
    ∃ T' v cs', Q v cs' ∧ own_S p l e R s m args below meth c Z a0 hb T' cs' (k + rm.cells) (n + rm.slots) ∧ ∀ target, Steps p.tables e below (T'.setTop { g with pc := g.pc + 3, stack := v.toList ++ rest }) target → Steps p.tables e below (T.setTop g) target := by
  obtain ⟨locs, X, N, hH⟩ := H
  obtain ⟨v', vm1, ⟨T2, L2, k2, n2⟩, -, X2, ⟨Lc, hQ, l2, y2, z2⟩, st⟩ := X.specialBack hx hy1 hown (mvT hZ w1) (mvT hZ w2) (mvT hZ w4) hy (backOf (W := W) (rm := rm) (Q := fun w H L => Fr hb.size L ∧ ∃ cs', Q w cs' ∧ own_Hp Z a0 hb H cs') (hM _ hH) hZ w4 w3 hf hl) hg hsize (Steps.refl _) hlen hst hW hd (fun _ _ => ⟨rfl, rfl, hc, hs⟩)
  dsimp only [Pt.U, Pt.locs, Pt.cells, Pt.slots] at X2 l2 y2 z2 st hQ
  obtain ⟨N2, cs', hQ', hH'⟩ := hQ
  subst l2 y2 z2
  exact ⟨T2, v', cs', hQ', ⟨_, X2, N.app N2, hH'⟩, fun target q => st.trans q⟩
theorem own_callV (H : own_S p l e R s m args below meth c Z a0 hb T cs k n) (hx : p.tables.exec = Jvm.exec) (hZ : Z.Warmed39 s.vm) {own C : String} {index : Nat} {y : MethodName} {bytes : ByteArray} {maxL : Nat} {ret : Option FieldType} (hown : s.vm.findClass own = some m.cls)
    (w1 : (Jvm.Cond.methodLink own index y).before a0 Z = true) (w2 : (Jvm.Cond.declares y).before a0 Z = true) (w5 : (Jvm.Cond.selects C y y).before a0 Z = true) (w6 : (Jvm.Cond.instanceMethod y).before a0 Z = true) (w3 : (Jvm.Cond.initialized y.cls).before a0 Z = true) (w4 : (Jvm.Cond.code y bytes maxL ret).before a0 Z = true) (hy : y.cls ≠ "java/lang/invoke/MethodHandle" ∧ y.cls ≠ "java/lang/invoke/VarHandle")
    {rm : Room} {W : Nat} {x : Addr} {fs : List (String × String × String × Value)} (i : Nat) (hi : cs[i]? = some (x, own_O C fs)) {argsL rest : List Value} {Q : Option Value → List (Addr × own_Cel) → Prop} (hM : own_Met l Z a0 hb y bytes maxL ret [] rm (Value.ref x :: argsL).toArray cs Q) (hf : rm.frames + 1 ≤ R.frames) (hl : W + (maxL + 11) + rm.locals ≤ R.locals) (hc : k + rm.cells ≤ R.cells) (hs : n + rm.slots ≤ R.slots)
    {g : JFrame} (hg : g.method = m) (hsize : g.locals.size = c.maxLocals) (hlen : ∀ sig, parseMethodDescriptor y.desc = some sig → argsL.length = sig.parameters.length) (hst : g.stack = argsL.reverse ++ .ref x :: rest) (hW : 2 * g.monitorRoom + (rest.map fun v => v.category).sum ≤ W) (hd : decode c.code g.pc = .ok (.invokevirtual index, 3)) :
    ∃ T' v cs', Q v cs' ∧ own_S p l e R s m args below meth c Z a0 hb T' cs' (k + rm.cells) (n + rm.slots) ∧ ∀ target, Steps p.tables e below (T'.setTop { g with pc := g.pc + 3, stack := v.toList ++ rest }) target → Steps p.tables e below (T.setTop g) target := by
  obtain ⟨locs, X, N, hH⟩ := H
  obtain ⟨cq, kq, qa, qb, qc⟩ := isOf hZ rfl (own_get hH hi).1.1
  obtain ⟨v', vm1, ⟨T2, L2, k2, n2⟩, -, X2, ⟨Lc, hQ, l2, y2, z2⟩, st⟩ := X.virtualBack hx hown (mvT hZ w1) (mvT hZ w2) (notFace_of_selects (args := #[]) (mvT hZ w5)) (mvT hZ w5) (mvT hZ w6) hy (backOf (W := W) (rm := rm) (Q := fun w H L => Fr hb.size L ∧ ∃ cs', Q w cs' ∧ own_Hp Z a0 hb H cs') (hM _ hH) hZ w4 w3 hf hl) qa qc hg hsize (Steps.refl _) hlen hst hW hd (fun _ _ => ⟨rfl, rfl, hc, hs⟩)
  dsimp only [Pt.U, Pt.locs, Pt.cells, Pt.slots] at X2 l2 y2 z2 st hQ
  obtain ⟨N2, cs', hQ', hH'⟩ := hQ
  subst l2 y2 z2
  exact ⟨T2, v', cs', hQ', ⟨_, X2, N.app N2, hH'⟩, fun target q => st.trans q⟩
end Calls
theorem own_ACd {Z : State} {h : Heap} {x : Addr} {c : Cell} : own_AC Z h x c .double ↔ Exa Z h x "[D" := by
  show Exa Z h x ("[" ++ FieldType.double.toString) ↔ _
  rw [show "[" ++ FieldType.double.toString = "[D" from by decide]
end OwnHeap
section OwnInts
open Jvm.Free Jvm.Stand Jvm.LawKit Jvm.RoadKit
theorem own_lm {x y : Int64} {a b : Int} {X Y : Nat} (hx : x.toInt = a) (hy : y.toInt = b) (ka : a.natAbs ≤ X) (kb : b.natAbs ≤ Y) (h : X * Y < 9223372036854775808) : (x * y).toInt = a * b := by
  have h1 := c_lmul x y
  have h2 := rng64 (x * y)
  have h3 := own_nb ka kb
  rw [hx, hy] at h1
  generalize a * b = w at *
  generalize X * Y = W at *
  omega
theorem own_la {x y : Int64} {a b : Int} (hx : x.toInt = a) (hy : y.toInt = b) (h1 : a + b ≤ 9223372036854775807) (h2 : -9223372036854775808 ≤ a + b) : (x + y).toInt = a + b := by
  have q1 := c_ladd x y
  have q2 := rng64 (x + y)
  rw [hx, hy] at q1
  omega
theorem own_lsb {x y : Int64} {a b : Int} (hx : x.toInt = a) (hy : y.toInt = b) (h1 : a - b ≤ 9223372036854775807) (h2 : -9223372036854775808 ≤ a - b) : (x - y).toInt = a - b := by
  have q1 := c_lsub x y
  have q2 := rng64 (x - y)
  rw [hx, hy] at q1
  omega
theorem own_feq {a b c d : Int} (hb : b ≠ 0) (hd : d ≠ 0) (h : a * d = c * b) : (a : Rat) / (b : Rat) = (c : Rat) / (d : Rat) := by
  have hb' : (b : Rat) ≠ 0 := by rw [Ne, Rat.intCast_eq_zero_iff]; exact hb
  have hd' : (d : Rat) ≠ 0 := by rw [Ne, Rat.intCast_eq_zero_iff]; exact hd
  have h' : (a : Rat) * (d : Rat) = (c : Rat) * (b : Rat) := by rw [← Rat.intCast_mul, ← Rat.intCast_mul, h]
  refine own_cancel hb' (own_cancel hd' ?_)
  rw [Rat.div_mul_cancel hb', h', Rat.mul_assoc, Rat.mul_comm (b : Rat), ← Rat.mul_assoc, Rat.div_mul_cancel hd']
end OwnInts
section OwnClaim
open Jvm.Free.Fl
def own_K0 : List (Nat × Value) := [(7, .int 65535), (8, .long 5), (19, .long 4), (35, .double 4472406533629990549), (27, .long 8)]
theorem own_K0_ok : ∀ q ∈ own_K0, ∃ w ∈ tables_1, own_Word "com/example/beanflow/beanflow/VogelInflowGradientPinLaw" q.1 q.2 w := by
  intro q hq
  simp only [own_K0, List.mem_cons, List.not_mem_nil, or_false] at hq
  rcases hq with rfl | rfl | rfl | rfl | rfl
  · exact ⟨_, List.mem_of_getElem? (i := 0) rfl, rfl⟩
  · exact ⟨_, List.mem_of_getElem? (i := 1) rfl, rfl⟩
  · exact ⟨_, List.mem_of_getElem? (i := 27) rfl, rfl⟩
  · exact ⟨_, List.mem_of_getElem? (i := 32) rfl, rfl⟩
  · exact ⟨_, List.mem_of_getElem? (i := 33) rfl, rfl⟩
theorem own_pn0 : plainName "com/example/beanflow/beanflow/VogelInflowGradientPinLaw" = true := by first | (simp [plainName, overriddenIn]; done) | decide +kernel
theorem d1_0 : decode prog_40_method_1_code 0 = .ok (.aload_n 0, 1) := by decide +kernel
theorem d1_1 : decode prog_40_method_1_code 1 = .ok (.invokespecial 1, 3) := by decide +kernel
theorem d1_4 : decode prog_40_method_1_code 4 = .ok (.aload_n 0, 1) := by decide +kernel
theorem d1_5 : decode prog_40_method_1_code 5 = .ok (.dload_n 1, 1) := by decide +kernel
theorem d1_6 : decode prog_40_method_1_code 6 = .ok (.putfield 7, 3) := by decide +kernel
theorem d1_9 : decode prog_40_method_1_code 9 = .ok (.return_, 1) := by decide +kernel
def own_K1 : List (Nat × Value) := [(17, .double 4605380978949069210), (19, .double 4609884578576439706), (21, .double 13830554455654793216)]
theorem own_K1_ok : ∀ q ∈ own_K1, ∃ w ∈ tables_1, own_Word "com/example/beanflow/beanflow/VogelInflow" q.1 q.2 w := by
  intro q hq
  simp only [own_K1, List.mem_cons, List.not_mem_nil, or_false] at hq
  rcases hq with rfl | rfl | rfl
  · exact ⟨_, List.mem_of_getElem? (i := 23) rfl, rfl⟩
  · exact ⟨_, List.mem_of_getElem? (i := 25) rfl, rfl⟩
  · exact ⟨_, List.mem_of_getElem? (i := 26) rfl, rfl⟩
theorem own_pn1 : plainName "com/example/beanflow/beanflow/VogelInflow" = true := by first | (simp [plainName, overriddenIn]; done) | decide +kernel
theorem d2_0 : decode jdk_30_method_1_code 0 = .ok (.aload_n 0, 1) := by decide +kernel
theorem d2_1 : decode jdk_30_method_1_code 1 = .ok (.invokespecial 1, 3) := by decide +kernel
theorem d2_4 : decode jdk_30_method_1_code 4 = .ok (.return_, 1) := by decide +kernel
def own_K2 : List (Nat × Value) := []
theorem own_K2_ok : ∀ q ∈ own_K2, ∃ w ∈ tables_1, own_Word "java/lang/Record" q.1 q.2 w := by
  intro q hq
  exact absurd hq (List.not_mem_nil)
theorem own_pn2 : plainName "java/lang/Record" = true := by first | (simp [plainName, overriddenIn]; done) | decide +kernel
theorem d4_0 : decode prog_40_method_4_code 0 = .ok (.dload_n 1, 1) := by decide +kernel
theorem d4_1 : decode prog_40_method_4_code 1 = .ok (.aload_n 0, 1) := by decide +kernel
theorem d4_2 : decode prog_40_method_4_code 2 = .ok (.getfield 7, 3) := by decide +kernel
theorem d4_5 : decode prog_40_method_4_code 5 = .ok (.ddiv, 1) := by decide +kernel
theorem d4_6 : decode prog_40_method_4_code 6 = .ok (.dstore 7, 2) := by decide +kernel
theorem d4_8 : decode prog_40_method_4_code 8 = .ok (.dload_n 3, 1) := by decide +kernel
theorem d4_9 : decode prog_40_method_4_code 9 = .ok (.ldc2_w 17, 3) := by decide +kernel
theorem d4_12 : decode prog_40_method_4_code 12 = .ok (.dload 5, 2) := by decide +kernel
theorem d4_14 : decode prog_40_method_4_code 14 = .ok (.dmul, 1) := by decide +kernel
theorem d4_15 : decode prog_40_method_4_code 15 = .ok (.dadd, 1) := by decide +kernel
theorem d4_16 : decode prog_40_method_4_code 16 = .ok (.dstore 9, 2) := by decide +kernel
theorem d4_18 : decode prog_40_method_4_code 18 = .ok (.dload_n 3, 1) := by decide +kernel
theorem d4_19 : decode prog_40_method_4_code 19 = .ok (.dload_n 3, 1) := by decide +kernel
theorem d4_20 : decode prog_40_method_4_code 20 = .ok (.dmul, 1) := by decide +kernel
theorem d4_21 : decode prog_40_method_4_code 21 = .ok (.dstore 11, 2) := by decide +kernel
theorem d4_23 : decode prog_40_method_4_code 23 = .ok (.iconst 3, 1) := by decide +kernel
theorem d4_24 : decode prog_40_method_4_code 24 = .ok (.newarray .double, 2) := by decide +kernel
theorem d4_26 : decode prog_40_method_4_code 26 = .ok (.dup, 1) := by decide +kernel
theorem d4_27 : decode prog_40_method_4_code 27 = .ok (.iconst 0, 1) := by decide +kernel
theorem d4_28 : decode prog_40_method_4_code 28 = .ok (.dload 11, 2) := by decide +kernel
theorem d4_30 : decode prog_40_method_4_code 30 = .ok (.dneg, 1) := by decide +kernel
theorem d4_31 : decode prog_40_method_4_code 31 = .ok (.aload_n 0, 1) := by decide +kernel
theorem d4_32 : decode prog_40_method_4_code 32 = .ok (.getfield 7, 3) := by decide +kernel
theorem d4_35 : decode prog_40_method_4_code 35 = .ok (.dload 9, 2) := by decide +kernel
theorem d4_37 : decode prog_40_method_4_code 37 = .ok (.dmul, 1) := by decide +kernel
theorem d4_38 : decode prog_40_method_4_code 38 = .ok (.ddiv, 1) := by decide +kernel
theorem d4_39 : decode prog_40_method_4_code 39 = .ok (.dastore, 1) := by decide +kernel
theorem d4_40 : decode prog_40_method_4_code 40 = .ok (.dup, 1) := by decide +kernel
theorem d4_41 : decode prog_40_method_4_code 41 = .ok (.iconst 1, 1) := by decide +kernel
theorem d4_42 : decode prog_40_method_4_code 42 = .ok (.dconst 1, 1) := by decide +kernel
theorem d4_43 : decode prog_40_method_4_code 43 = .ok (.dload 7, 2) := by decide +kernel
theorem d4_45 : decode prog_40_method_4_code 45 = .ok (.dload_n 3, 1) := by decide +kernel
theorem d4_46 : decode prog_40_method_4_code 46 = .ok (.dmul, 1) := by decide +kernel
theorem d4_47 : decode prog_40_method_4_code 47 = .ok (.dload_n 3, 1) := by decide +kernel
theorem d4_48 : decode prog_40_method_4_code 48 = .ok (.ldc2_w 19, 3) := by decide +kernel
theorem d4_51 : decode prog_40_method_4_code 51 = .ok (.dload 5, 2) := by decide +kernel
theorem d4_53 : decode prog_40_method_4_code 53 = .ok (.dmul, 1) := by decide +kernel
theorem d4_54 : decode prog_40_method_4_code 54 = .ok (.dadd, 1) := by decide +kernel
theorem d4_55 : decode prog_40_method_4_code 55 = .ok (.dmul, 1) := by decide +kernel
theorem d4_56 : decode prog_40_method_4_code 56 = .ok (.dload 9, 2) := by decide +kernel
theorem d4_58 : decode prog_40_method_4_code 58 = .ok (.dload 9, 2) := by decide +kernel
theorem d4_60 : decode prog_40_method_4_code 60 = .ok (.dmul, 1) := by decide +kernel
theorem d4_61 : decode prog_40_method_4_code 61 = .ok (.ddiv, 1) := by decide +kernel
theorem d4_62 : decode prog_40_method_4_code 62 = .ok (.dsub, 1) := by decide +kernel
theorem d4_63 : decode prog_40_method_4_code 63 = .ok (.dastore, 1) := by decide +kernel
theorem d4_64 : decode prog_40_method_4_code 64 = .ok (.dup, 1) := by decide +kernel
theorem d4_65 : decode prog_40_method_4_code 65 = .ok (.iconst 2, 1) := by decide +kernel
theorem d4_66 : decode prog_40_method_4_code 66 = .ok (.ldc2_w 21, 3) := by decide +kernel
theorem d4_69 : decode prog_40_method_4_code 69 = .ok (.dload 7, 2) := by decide +kernel
theorem d4_71 : decode prog_40_method_4_code 71 = .ok (.ldc2_w 17, 3) := by decide +kernel
theorem d4_74 : decode prog_40_method_4_code 74 = .ok (.dmul, 1) := by decide +kernel
theorem d4_75 : decode prog_40_method_4_code 75 = .ok (.dload 11, 2) := by decide +kernel
theorem d4_77 : decode prog_40_method_4_code 77 = .ok (.dmul, 1) := by decide +kernel
theorem d4_78 : decode prog_40_method_4_code 78 = .ok (.dload 9, 2) := by decide +kernel
theorem d4_80 : decode prog_40_method_4_code 80 = .ok (.dload 9, 2) := by decide +kernel
theorem d4_82 : decode prog_40_method_4_code 82 = .ok (.dmul, 1) := by decide +kernel
theorem d4_83 : decode prog_40_method_4_code 83 = .ok (.ddiv, 1) := by decide +kernel
theorem d4_84 : decode prog_40_method_4_code 84 = .ok (.dadd, 1) := by decide +kernel
theorem d4_85 : decode prog_40_method_4_code 85 = .ok (.dastore, 1) := by decide +kernel
theorem d4_86 : decode prog_40_method_4_code 86 = .ok (.areturn, 1) := by decide +kernel
def own_K4 : List (Nat × Value) := [(17, .double 4605380978949069210), (19, .double 4609884578576439706), (21, .double 13830554455654793216)]
theorem own_K4_ok : ∀ q ∈ own_K4, ∃ w ∈ tables_1, own_Word "com/example/beanflow/beanflow/VogelInflow" q.1 q.2 w := by
  intro q hq
  simp only [own_K4, List.mem_cons, List.not_mem_nil, or_false] at hq
  rcases hq with rfl | rfl | rfl
  · exact ⟨_, List.mem_of_getElem? (i := 23) rfl, rfl⟩
  · exact ⟨_, List.mem_of_getElem? (i := 25) rfl, rfl⟩
  · exact ⟨_, List.mem_of_getElem? (i := 26) rfl, rfl⟩
theorem own_pn4 : plainName "com/example/beanflow/beanflow/VogelInflow" = true := by first | (simp [plainName, overriddenIn]; done) | decide +kernel
theorem d5_0 : decode method_3_code 0 = .ok (.dload_n 0, 1) := by decide +kernel
theorem d5_1 : decode method_3_code 1 = .ok (.lload_n 2, 1) := by decide +kernel
theorem d5_2 : decode method_3_code 2 = .ok (.l2d, 1) := by decide +kernel
theorem d5_3 : decode method_3_code 3 = .ok (.dmul, 1) := by decide +kernel
theorem d5_4 : decode method_3_code 4 = .ok (.lload 4, 2) := by decide +kernel
theorem d5_6 : decode method_3_code 6 = .ok (.l2d, 1) := by decide +kernel
theorem d5_7 : decode method_3_code 7 = .ok (.dsub, 1) := by decide +kernel
theorem d5_8 : decode method_3_code 8 = .ok (.dstore 8, 2) := by decide +kernel
theorem d5_10 : decode method_3_code 10 = .ok (.ldc2_w 35, 3) := by decide +kernel
theorem d5_13 : decode method_3_code 13 = .ok (.lload 6, 2) := by decide +kernel
theorem d5_15 : decode method_3_code 15 = .ok (.l2d, 1) := by decide +kernel
theorem d5_16 : decode method_3_code 16 = .ok (.dmul, 1) := by decide +kernel
theorem d5_17 : decode method_3_code 17 = .ok (.dstore 10, 2) := by decide +kernel
theorem d5_19 : decode method_3_code 19 = .ok (.dload 8, 2) := by decide +kernel
theorem d5_21 : decode method_3_code 21 = .ok (.dload 10, 2) := by decide +kernel
theorem d5_23 : decode method_3_code 23 = .ok (.dcmp .g, 1) := by decide +kernel
theorem d5_24 : decode method_3_code 24 = .ok (.ifCond .gt 16, 3) := by decide +kernel
theorem d5_27 : decode method_3_code 27 = .ok (.dload 8, 2) := by decide +kernel
theorem d5_29 : decode method_3_code 29 = .ok (.dneg, 1) := by decide +kernel
theorem d5_30 : decode method_3_code 30 = .ok (.dload 10, 2) := by decide +kernel
theorem d5_32 : decode method_3_code 32 = .ok (.dcmp .g, 1) := by decide +kernel
theorem d5_33 : decode method_3_code 33 = .ok (.ifCond .gt 7, 3) := by decide +kernel
theorem d5_36 : decode method_3_code 36 = .ok (.iconst 1, 1) := by decide +kernel
theorem d5_37 : decode method_3_code 37 = .ok (.goto 4, 3) := by decide +kernel
theorem d5_40 : decode method_3_code 40 = .ok (.iconst 0, 1) := by decide +kernel
theorem d5_41 : decode method_3_code 41 = .ok (.ireturn, 1) := by decide +kernel
def own_K5 : List (Nat × Value) := [(7, .int 65535), (8, .long 5), (19, .long 4), (35, .double 4472406533629990549), (27, .long 8)]
theorem own_K5_ok : ∀ q ∈ own_K5, ∃ w ∈ tables_1, own_Word "com/example/beanflow/beanflow/VogelInflowGradientPinLaw" q.1 q.2 w := by
  intro q hq
  simp only [own_K5, List.mem_cons, List.not_mem_nil, or_false] at hq
  rcases hq with rfl | rfl | rfl | rfl | rfl
  · exact ⟨_, List.mem_of_getElem? (i := 0) rfl, rfl⟩
  · exact ⟨_, List.mem_of_getElem? (i := 1) rfl, rfl⟩
  · exact ⟨_, List.mem_of_getElem? (i := 27) rfl, rfl⟩
  · exact ⟨_, List.mem_of_getElem? (i := 32) rfl, rfl⟩
  · exact ⟨_, List.mem_of_getElem? (i := 33) rfl, rfl⟩
theorem own_pn5 : plainName "com/example/beanflow/beanflow/VogelInflowGradientPinLaw" = true := by first | (simp [plainName, overriddenIn]; done) | decide +kernel
theorem d6_0 : decode jdk_29_method_61_code 0 = .ok (.lload_n 0, 1) := by decide +kernel
theorem d6_1 : decode jdk_29_method_61_code 1 = .ok (.lconst 0, 1) := by decide +kernel
theorem d6_2 : decode jdk_29_method_61_code 2 = .ok (.lcmp, 1) := by decide +kernel
theorem d6_3 : decode jdk_29_method_61_code 3 = .ok (.ifCond .ge 8, 3) := by decide +kernel
theorem d6_6 : decode jdk_29_method_61_code 6 = .ok (.lload_n 0, 1) := by decide +kernel
theorem d6_7 : decode jdk_29_method_61_code 7 = .ok (.lneg, 1) := by decide +kernel
theorem d6_8 : decode jdk_29_method_61_code 8 = .ok (.goto 4, 3) := by decide +kernel
theorem d6_11 : decode jdk_29_method_61_code 11 = .ok (.lload_n 0, 1) := by decide +kernel
theorem d6_12 : decode jdk_29_method_61_code 12 = .ok (.lreturn, 1) := by decide +kernel
def own_K6 : List (Nat × Value) := []
theorem own_K6_ok : ∀ q ∈ own_K6, ∃ w ∈ tables_1, own_Word "java/lang/Math" q.1 q.2 w := by
  intro q hq
  exact absurd hq (List.not_mem_nil)
theorem own_pd0 : parseMethodDescriptor "()V" = some ⟨[], none⟩ := by decide +kernel
theorem own_pd1 : parseMethodDescriptor "(D)V" = some ⟨[.double], none⟩ := by decide +kernel
theorem own_pd2 : parseMethodDescriptor "(DDD)[D" = some ⟨[.double, .double, .double], some (.array .double)⟩ := by decide +kernel
theorem own_pd3 : parseMethodDescriptor "(DJJJ)Z" = some ⟨[.double, .long, .long, .long], some .boolean⟩ := by decide +kernel
theorem own_pd4 : parseMethodDescriptor "(J)J" = some ⟨[.long], some .long⟩ := by decide +kernel
theorem own_ef0 (m : MethodId) (x0 : Int32) (x1 : Int32) (x2 : Int32) (x3 : Int32) : entryFrame m #[(.int x0), (.int x1), (.int x2), (.int x3)] maxLocals = mkF m 0 (List.toArray ((.val (.int x0)) :: (.val (.int x1)) :: (.val (.int x2)) :: (.val (.int x3)) :: .unset :: .unset :: .unset :: .unset :: .unset :: .unset :: .unset :: .unset :: .unset :: .unset :: .unset :: .unset :: .unset :: .unset :: .unset :: .unset :: .unset :: .unset :: .unset :: .unset :: .unset :: .unset :: .unset :: .unset :: .unset :: .unset :: .unset :: [])) [] := by first | (simp [entryFrame, mkF, argsToLocals, Value.category, maxLocals]; done) | rfl
theorem own_ef1 (m : MethodId) (x0 : Addr) (x1 : UInt64) : entryFrame m #[(.ref x0), (.double x1)] 3 = mkF m 0 #[.val (.ref x0), .val (.double x1), .second] [] := by first | (simp [entryFrame, mkF, argsToLocals, Value.category]; done) | rfl
theorem own_ef2 (m : MethodId) (x0 : Addr) : entryFrame m #[(.ref x0)] 1 = mkF m 0 #[.val (.ref x0)] [] := by first | (simp [entryFrame, mkF, argsToLocals, Value.category]; done) | rfl
theorem own_ef4 (m : MethodId) (x0 : Addr) (x1 : UInt64) (x2 : UInt64) (x3 : UInt64) : entryFrame m #[(.ref x0), (.double x1), (.double x2), (.double x3)] 13 = mkF m 0 #[.val (.ref x0), .val (.double x1), .second, .val (.double x2), .second, .val (.double x3), .second, .unset, .unset, .unset, .unset, .unset, .unset] [] := by first | (simp [entryFrame, mkF, argsToLocals, Value.category]; done) | rfl
theorem own_ef5 (m : MethodId) (x0 : UInt64) (x1 : Int64) (x2 : Int64) (x3 : Int64) : entryFrame m #[(.double x0), (.long x1), (.long x2), (.long x3)] 12 = mkF m 0 #[.val (.double x0), .second, .val (.long x1), .second, .val (.long x2), .second, .val (.long x3), .second, .unset, .unset, .unset, .unset] [] := by first | (simp [entryFrame, mkF, argsToLocals, Value.category]; done) | rfl
theorem own_ef6 (m : MethodId) (x0 : Int64) : entryFrame m #[(.long x0)] 2 = mkF m 0 #[.val (.long x0), .second] [] := by first | (simp [entryFrame, mkF, argsToLocals, Value.category]; done) | rfl

theorem own_retA {t : FieldType} (x : Addr) : own_Ret .areturn (.array t) (.ref x) := ⟨rfl, Or.inr (Or.inr (Or.inr (Or.inr ⟨rfl, rfl, rfl⟩)))⟩
theorem own_tl : own_is 4472406533629990549 ((4835703278458517 : Rat) / 4835703278458516698824704) := ⟨false, 4835703278458517, -82, by decide +kernel, by decide +kernel⟩
theorem own_a0 (x : Addr) :
    own_Go own_K2 jdk_30_method_1_code 0 #[.val (.ref x)] [] 1 #[.val (.ref x)] [(.ref x)] := by
  refine own_aloadN (pc2 := 1) d2_0 rfl rfl rfl ?_
  exact own_refl
set_option maxRecDepth 65536 in
set_option maxHeartbeats 4000000 in
theorem own_rec (l : Launch) (Z : State) (a0 : Array Value) (hb0 : own_Base) (hw : ∀ d ∈ tables_1, d.before a0 Z = true) (x : Addr) (cs : List (Addr × own_Cel)) :
    own_Met l Z a0 hb0 (⟨"java/lang/Record", "<init>", "()V"⟩ : MethodName) jdk_30_method_1_code 1 none [] ({ frames := 1, cells := 0, slots := 0, locals := 12 } : Room) #[(.ref x)] cs (fun v cs' => v = none ∧ cs' = cs) := by
  refine own_met_of (L0 := #[.val (.ref x)]) (plainFor_of_name own_pn2) (fun m => own_ef2 m x) ?_
  intro p e s m below meth c T0 hx hZ hown hby hml hnm H0
  obtain ⟨Ta1, Ha1, sta1⟩ := own_initO H0 hx hZ hown (hw _ (List.mem_of_getElem? (i := 13) rfl)) (hw _ (List.mem_of_getElem? (i := 14) rfl)) (hw _ (List.mem_of_getElem? (i := 15) rfl)) (g := (mkF m 1 #[.val (.ref x)] [(.ref x)])) rfl (by rw [hml]; rfl) rfl (hb hby d2_1) (by decide) (W := 0) (by show 2 * 0 + _ ≤ _; exact Nat.le_of_eq rfl) (by decide)
  refine ⟨_, _, _, _, 4, #[.val (.ref x)], Ha1, by decide, by decide, Or.inl ⟨rfl, ⟨rfl, rfl⟩, d2_4, fun target q => ?_⟩⟩
  refine own_go H0 hx hZ hown hby hw own_K2_ok (own_a0 x) _ ?_
  refine sta1 _ ?_
  exact q
theorem own_b0 (x : Addr) (qd : UInt64) :
    own_Go own_K1 prog_40_method_1_code 0 #[.val (.ref x), .val (.double qd), .second] [] 1 #[.val (.ref x), .val (.double qd), .second] [(.ref x)] := by
  refine own_aloadN (pc2 := 1) d1_0 rfl rfl rfl ?_
  exact own_refl
theorem own_b1 (x : Addr) (qd : UInt64) :
    own_Go own_K1 prog_40_method_1_code 4 #[.val (.ref x), .val (.double qd), .second] [] 6 #[.val (.ref x), .val (.double qd), .second] [(.double qd), (.ref x)] := by
  refine own_aloadN (pc2 := 5) d1_4 rfl rfl rfl ?_
  refine own_dloadN (pc2 := 6) d1_5 rfl rfl ?_
  exact own_refl
set_option maxRecDepth 65536 in
set_option maxHeartbeats 4000000 in
theorem own_init (l : Launch) (Z : State) (a0 : Array Value) (hb0 : own_Base) (hw : ∀ d ∈ tables_1, d.before a0 Z = true) (x : Addr) (qd : UInt64)  :
    own_Met l Z a0 hb0 (⟨"com/example/beanflow/beanflow/VogelInflow", "<init>", "(D)V"⟩ : MethodName) prog_40_method_1_code 3 none [] ({ frames := 2, cells := 0, slots := 0, locals := 24 } : Room) #[(.ref x), (.double qd)] [(x, own_O "com/example/beanflow/beanflow/VogelInflow" [("com/example/beanflow/beanflow/VogelInflow", "qmaxKgS", "D", .double 0)])] (fun r cs' => r = none ∧ cs' = [(x, own_O "com/example/beanflow/beanflow/VogelInflow" [("com/example/beanflow/beanflow/VogelInflow", "qmaxKgS", "D", .double qd)])]) := by
  refine own_met_of (L0 := #[.val (.ref x), .val (.double qd), .second]) (plainFor_of_name own_pn1) (fun m => own_ef1 m x qd) ?_
  intro p e s m below meth c T0 hx hZ hown hby hml hnm H0
  obtain ⟨Tb1, vb1_, csb1_, qb1, Hb1, stb1⟩ := own_callI H0 hx hZ hown rfl (hw _ (List.mem_of_getElem? (i := 8) rfl)) (hw _ (List.mem_of_getElem? (i := 9) rfl)) (hw _ (List.mem_of_getElem? (i := 11) rfl)) (hw _ (List.mem_of_getElem? (i := 12) rfl)) (by decide) (x := x) (argsL := []) (rest := []) (W := 0) (own_rec l Z a0 hb0 hw x _) (by decide) (by decide) (by decide) (by decide) (g := (mkF m 1 #[.val (.ref x), .val (.double qd), .second] [(.ref x)])) rfl (by rw [hml]; rfl) (lenOf own_pd0 rfl) rfl (by show 2 * 0 + _ ≤ _; exact Nat.le_of_eq rfl) (hb hby d1_1)
  obtain ⟨rfl, rfl⟩ := qb1
  change own_S _ _ _ _ _ _ _ _ _ _ _ _ _ _ [(x, own_O "com/example/beanflow/beanflow/VogelInflow" [("com/example/beanflow/beanflow/VogelInflow", "qmaxKgS", "D", .double 0)])] _ _ at Hb1
  obtain ⟨Tb2, Hb2, stb2⟩ := own_putF Hb1 hx hZ hown (hw _ (List.mem_of_getElem? (i := 16) rfl)) 0 0 rfl rfl (Or.inr ⟨(hw _ (List.mem_of_getElem? (i := 17) rfl)), rfl, hnm⟩) (hw _ (List.mem_of_getElem? (i := 3) rfl)) (ty := .double) (by decide) rfl rfl (g := (mkF m 6 #[.val (.ref x), .val (.double qd), .second] [(.double qd), (.ref x)])) rfl rfl (hb hby d1_6)
  change own_S _ _ _ _ _ _ _ _ _ _ _ _ _ _ [(x, own_O "com/example/beanflow/beanflow/VogelInflow" [("com/example/beanflow/beanflow/VogelInflow", "qmaxKgS", "D", .double qd)])] _ _ at Hb2
  refine ⟨_, _, _, _, 9, #[.val (.ref x), .val (.double qd), .second], Hb2, by decide, by decide, Or.inl ⟨rfl, ⟨rfl, rfl⟩, d1_9, fun target q => ?_⟩⟩
  refine own_go H0 hx hZ hown hby hw own_K1_ok (own_b0 x qd) _ ?_
  refine stb1 _ ?_
  refine own_go Hb1 hx hZ hown hby hw own_K1_ok (own_b1 x qd) _ ?_
  refine stb2 _ ?_
  exact q
theorem own_g0 (x : Addr) (rd : UInt64) (pd : UInt64) (td : UInt64) :
    own_Go own_K4 prog_40_method_4_code 0 #[.val (.ref x), .val (.double rd), .second, .val (.double pd), .second, .val (.double td), .second, .unset, .unset, .unset, .unset, .unset, .unset] [] 2 #[.val (.ref x), .val (.double rd), .second, .val (.double pd), .second, .val (.double td), .second, .unset, .unset, .unset, .unset, .unset, .unset] [(.ref x), (.double rd)] := by
  refine own_dloadN (pc2 := 1) d4_0 rfl rfl ?_
  refine own_aloadN (pc2 := 2) d4_1 rfl rfl rfl ?_
  exact own_refl
theorem own_g1 (x : Addr) (rd : UInt64) (pd : UInt64) (td : UInt64) (qd : UInt64) (v5 : UInt64) (hv5 : (FP.ddiv rd qd) = v5) (nn5 : NoNaN64 (FP.ddiv rd qd)) (v14 : UInt64) (hv14 : (FP.dmul (4605380978949069210 : UInt64) td) = v14) (nn14 : NoNaN64 (FP.dmul (4605380978949069210 : UInt64) td)) (v15 : UInt64) (hv15 : (FP.dadd pd v14) = v15) (nn15 : NoNaN64 (FP.dadd pd v14)) (v20 : UInt64) (hv20 : (FP.dmul pd pd) = v20) (nn20 : NoNaN64 (FP.dmul pd pd)) :
    own_Go own_K4 prog_40_method_4_code 5 #[.val (.ref x), .val (.double rd), .second, .val (.double pd), .second, .val (.double td), .second, .unset, .unset, .unset, .unset, .unset, .unset] [(.double qd), (.double rd)] 24 #[.val (.ref x), .val (.double rd), .second, .val (.double pd), .second, .val (.double td), .second, .val (.double v5), .second, .val (.double v15), .second, .val (.double v20), .second] [(.int (3 : Int32))] := by
  refine own_ddiv (pc2 := 6) d4_5 rfl nn5 (v := v5) hv5 ?_
  refine own_dstore (pc2 := 8) d4_6 rfl (L' := #[.val (.ref x), .val (.double rd), .second, .val (.double pd), .second, .val (.double td), .second, .val (.double v5), .second, .unset, .unset, .unset, .unset]) rfl ?_
  refine own_dloadN (pc2 := 9) d4_8 rfl rfl ?_
  refine own_ldc2D (v := (4605380978949069210 : UInt64)) (pc2 := 12) d4_9 rfl (List.mem_of_getElem? (i := 0) rfl) ?_
  refine own_dload (pc2 := 14) d4_12 rfl rfl ?_
  refine own_dmul (pc2 := 15) d4_14 rfl nn14 (v := v14) hv14 ?_
  refine own_dadd (pc2 := 16) d4_15 rfl nn15 (v := v15) hv15 ?_
  refine own_dstore (pc2 := 18) d4_16 rfl (L' := #[.val (.ref x), .val (.double rd), .second, .val (.double pd), .second, .val (.double td), .second, .val (.double v5), .second, .val (.double v15), .second, .unset, .unset]) rfl ?_
  refine own_dloadN (pc2 := 19) d4_18 rfl rfl ?_
  refine own_dloadN (pc2 := 20) d4_19 rfl rfl ?_
  refine own_dmul (pc2 := 21) d4_20 rfl nn20 (v := v20) hv20 ?_
  refine own_dstore (pc2 := 23) d4_21 rfl (L' := #[.val (.ref x), .val (.double rd), .second, .val (.double pd), .second, .val (.double td), .second, .val (.double v5), .second, .val (.double v15), .second, .val (.double v20), .second]) rfl ?_
  refine own_iconst (v := 3) (pc2 := 24) d4_23 rfl rfl ?_
  exact own_refl
theorem own_g2 (x : Addr) (rd : UInt64) (pd : UInt64) (td : UInt64) (v5 : UInt64) (v15 : UInt64) (v20 : UInt64) (y : Addr) (v30 : UInt64) (hv30 : (FP.dneg v20) = v30) :
    own_Go own_K4 prog_40_method_4_code 26 #[.val (.ref x), .val (.double rd), .second, .val (.double pd), .second, .val (.double td), .second, .val (.double v5), .second, .val (.double v15), .second, .val (.double v20), .second] [(.ref y)] 32 #[.val (.ref x), .val (.double rd), .second, .val (.double pd), .second, .val (.double td), .second, .val (.double v5), .second, .val (.double v15), .second, .val (.double v20), .second] [(.ref x), (.double v30), (.int (0 : Int32)), (.ref y), (.ref y)] := by
  refine own_dup (pc2 := 27) d4_26 rfl rfl ?_
  refine own_iconst (v := 0) (pc2 := 28) d4_27 rfl rfl ?_
  refine own_dload (pc2 := 30) d4_28 rfl rfl ?_
  refine own_dneg (pc2 := 31) d4_30 rfl (v := v30) hv30 ?_
  refine own_aloadN (pc2 := 32) d4_31 rfl rfl rfl ?_
  exact own_refl
theorem own_g3 (x : Addr) (rd : UInt64) (pd : UInt64) (td : UInt64) (v5 : UInt64) (v15 : UInt64) (v20 : UInt64) (qd : UInt64) (v30 : UInt64) (y : Addr) (v37 : UInt64) (hv37 : (FP.dmul qd v15) = v37) (nn37 : NoNaN64 (FP.dmul qd v15)) (v38 : UInt64) (hv38 : (FP.ddiv v30 v37) = v38) (nn38 : NoNaN64 (FP.ddiv v30 v37)) :
    own_Go own_K4 prog_40_method_4_code 35 #[.val (.ref x), .val (.double rd), .second, .val (.double pd), .second, .val (.double td), .second, .val (.double v5), .second, .val (.double v15), .second, .val (.double v20), .second] [(.double qd), (.double v30), (.int (0 : Int32)), (.ref y), (.ref y)] 39 #[.val (.ref x), .val (.double rd), .second, .val (.double pd), .second, .val (.double td), .second, .val (.double v5), .second, .val (.double v15), .second, .val (.double v20), .second] [(.double v38), (.int (0 : Int32)), (.ref y), (.ref y)] := by
  refine own_dload (pc2 := 37) d4_35 rfl rfl ?_
  refine own_dmul (pc2 := 38) d4_37 rfl nn37 (v := v37) hv37 ?_
  refine own_ddiv (pc2 := 39) d4_38 rfl nn38 (v := v38) hv38 ?_
  exact own_refl
theorem own_g4 (x : Addr) (rd : UInt64) (pd : UInt64) (td : UInt64) (v5 : UInt64) (v15 : UInt64) (v20 : UInt64) (y : Addr) (v46 : UInt64) (hv46 : (FP.dmul v5 pd) = v46) (nn46 : NoNaN64 (FP.dmul v5 pd)) (v53 : UInt64) (hv53 : (FP.dmul (4609884578576439706 : UInt64) td) = v53) (nn53 : NoNaN64 (FP.dmul (4609884578576439706 : UInt64) td)) (v54 : UInt64) (hv54 : (FP.dadd pd v53) = v54) (nn54 : NoNaN64 (FP.dadd pd v53)) (v55 : UInt64) (hv55 : (FP.dmul v46 v54) = v55) (nn55 : NoNaN64 (FP.dmul v46 v54)) (v60 : UInt64) (hv60 : (FP.dmul v15 v15) = v60) (nn60 : NoNaN64 (FP.dmul v15 v15)) (v61 : UInt64) (hv61 : (FP.ddiv v55 v60) = v61) (nn61 : NoNaN64 (FP.ddiv v55 v60)) (v62 : UInt64) (hv62 : (FP.dsub (4607182418800017408 : UInt64) v61) = v62) (nn62 : NoNaN64 (FP.dsub (4607182418800017408 : UInt64) v61)) :
    own_Go own_K4 prog_40_method_4_code 40 #[.val (.ref x), .val (.double rd), .second, .val (.double pd), .second, .val (.double td), .second, .val (.double v5), .second, .val (.double v15), .second, .val (.double v20), .second] [(.ref y)] 63 #[.val (.ref x), .val (.double rd), .second, .val (.double pd), .second, .val (.double td), .second, .val (.double v5), .second, .val (.double v15), .second, .val (.double v20), .second] [(.double v62), (.int (1 : Int32)), (.ref y), (.ref y)] := by
  refine own_dup (pc2 := 41) d4_40 rfl rfl ?_
  refine own_iconst (v := 1) (pc2 := 42) d4_41 rfl rfl ?_
  refine own_dconst1 (v := 4607182418800017408) (pc2 := 43) d4_42 rfl rfl ?_
  refine own_dload (pc2 := 45) d4_43 rfl rfl ?_
  refine own_dloadN (pc2 := 46) d4_45 rfl rfl ?_
  refine own_dmul (pc2 := 47) d4_46 rfl nn46 (v := v46) hv46 ?_
  refine own_dloadN (pc2 := 48) d4_47 rfl rfl ?_
  refine own_ldc2D (v := (4609884578576439706 : UInt64)) (pc2 := 51) d4_48 rfl (List.mem_of_getElem? (i := 1) rfl) ?_
  refine own_dload (pc2 := 53) d4_51 rfl rfl ?_
  refine own_dmul (pc2 := 54) d4_53 rfl nn53 (v := v53) hv53 ?_
  refine own_dadd (pc2 := 55) d4_54 rfl nn54 (v := v54) hv54 ?_
  refine own_dmul (pc2 := 56) d4_55 rfl nn55 (v := v55) hv55 ?_
  refine own_dload (pc2 := 58) d4_56 rfl rfl ?_
  refine own_dload (pc2 := 60) d4_58 rfl rfl ?_
  refine own_dmul (pc2 := 61) d4_60 rfl nn60 (v := v60) hv60 ?_
  refine own_ddiv (pc2 := 62) d4_61 rfl nn61 (v := v61) hv61 ?_
  refine own_dsub (pc2 := 63) d4_62 rfl nn62 (v := v62) hv62 ?_
  exact own_refl
theorem own_g5 (x : Addr) (rd : UInt64) (pd : UInt64) (td : UInt64) (v5 : UInt64) (v15 : UInt64) (v20 : UInt64) (y : Addr) (v74 : UInt64) (hv74 : (FP.dmul v5 (4605380978949069210 : UInt64)) = v74) (nn74 : NoNaN64 (FP.dmul v5 (4605380978949069210 : UInt64))) (v77 : UInt64) (hv77 : (FP.dmul v74 v20) = v77) (nn77 : NoNaN64 (FP.dmul v74 v20)) (v82 : UInt64) (hv82 : (FP.dmul v15 v15) = v82) (nn82 : NoNaN64 (FP.dmul v15 v15)) (v83 : UInt64) (hv83 : (FP.ddiv v77 v82) = v83) (nn83 : NoNaN64 (FP.ddiv v77 v82)) (v84 : UInt64) (hv84 : (FP.dadd (13830554455654793216 : UInt64) v83) = v84) (nn84 : NoNaN64 (FP.dadd (13830554455654793216 : UInt64) v83)) :
    own_Go own_K4 prog_40_method_4_code 64 #[.val (.ref x), .val (.double rd), .second, .val (.double pd), .second, .val (.double td), .second, .val (.double v5), .second, .val (.double v15), .second, .val (.double v20), .second] [(.ref y)] 85 #[.val (.ref x), .val (.double rd), .second, .val (.double pd), .second, .val (.double td), .second, .val (.double v5), .second, .val (.double v15), .second, .val (.double v20), .second] [(.double v84), (.int (2 : Int32)), (.ref y), (.ref y)] := by
  refine own_dup (pc2 := 65) d4_64 rfl rfl ?_
  refine own_iconst (v := 2) (pc2 := 66) d4_65 rfl rfl ?_
  refine own_ldc2D (v := (13830554455654793216 : UInt64)) (pc2 := 69) d4_66 rfl (List.mem_of_getElem? (i := 2) rfl) ?_
  refine own_dload (pc2 := 71) d4_69 rfl rfl ?_
  refine own_ldc2D (v := (4605380978949069210 : UInt64)) (pc2 := 74) d4_71 rfl (List.mem_of_getElem? (i := 0) rfl) ?_
  refine own_dmul (pc2 := 75) d4_74 rfl nn74 (v := v74) hv74 ?_
  refine own_dload (pc2 := 77) d4_75 rfl rfl ?_
  refine own_dmul (pc2 := 78) d4_77 rfl nn77 (v := v77) hv77 ?_
  refine own_dload (pc2 := 80) d4_78 rfl rfl ?_
  refine own_dload (pc2 := 82) d4_80 rfl rfl ?_
  refine own_dmul (pc2 := 83) d4_82 rfl nn82 (v := v82) hv82 ?_
  refine own_ddiv (pc2 := 84) d4_83 rfl nn83 (v := v83) hv83 ?_
  refine own_dadd (pc2 := 85) d4_84 rfl nn84 (v := v84) hv84 ?_
  exact own_refl
set_option maxRecDepth 65536 in
set_option maxHeartbeats 4000000 in
theorem own_grad (l : Launch) (Z : State) (a0 : Array Value) (hb0 : own_Base) (hw : ∀ d ∈ tables_1, d.before a0 Z = true) (x : Addr) (rd : UInt64) (pd : UInt64) (td : UInt64) (qd : UInt64) (q r p k R : Rat) (hq : own_is qd q) (hr : own_is rd r) (hp : own_is pd p) (ht : own_is td (5 * k)) (q1 : 1 ≤ q) (q2 : q ≤ 65536) (rb : own_rb r 1 2147483648) (p1 : 1 ≤ p) (p2 : p ≤ 4096) (kb : own_rb k 1 1023) (k0 : 0 ≤ k) (R1 : r ≤ R) (R2 : -R ≤ r) (R3 : R ≤ 2147483648) :
    own_Met l Z a0 hb0 (⟨"com/example/beanflow/beanflow/VogelInflow", "gradient", "(DDD)[D"⟩ : MethodName) prog_40_method_4_code 13 (some (.array .double)) [] ({ frames := 0, cells := 1, slots := 3, locals := 0 } : Room) #[(.ref x), (.double rd), (.double pd), (.double td)] [(x, own_O "com/example/beanflow/beanflow/VogelInflow" [("com/example/beanflow/beanflow/VogelInflow", "qmaxKgS", "D", .double qd)])] (fun v cs' => ∃ y g0 g1 g2, own_N g0 (-(p * p) / (q * (p + 4 * k))) (p * p / (q * (p + 4 * k))) ∧ own_N g1 (1 - r / q * p * (p + 8 * k) / ((p + 4 * k) * (p + 4 * k))) (1 + R / q * p * (p + 8 * k) / ((p + 4 * k) * (p + 4 * k))) ∧ own_N g2 (-1 + r / q * (4 / 5) * (p * p) / ((p + 4 * k) * (p + 4 * k))) (1 + R / q * (4 / 5) * (p * p) / ((p + 4 * k) * (p + 4 * k))) ∧ v = some (.ref y) ∧ cs' = [(x, own_O "com/example/beanflow/beanflow/VogelInflow" [("com/example/beanflow/beanflow/VogelInflow", "qmaxKgS", "D", .double qd)]), (y, own_A .double [.double g0, .double g1, .double g2])]) := by
  refine own_met_of (L0 := #[.val (.ref x), .val (.double rd), .second, .val (.double pd), .second, .val (.double td), .second, .unset, .unset, .unset, .unset, .unset, .unset]) (plainFor_of_name own_pn4) (fun m => own_ef4 m x rd pd td) ?_
  intro p e s m below meth c T0 hx hZ hown hby hml hnm H0
  obtain ⟨Tg1, Hg1, stg1⟩ := own_getF H0 hx hZ hown (hw _ (List.mem_of_getElem? (i := 16) rfl)) 0 0 rfl rfl (g := (mkF m 2 #[.val (.ref x), .val (.double rd), .second, .val (.double pd), .second, .val (.double td), .second, .unset, .unset, .unset, .unset, .unset, .unset] [(.ref x), (.double rd)])) rfl rfl (hb hby d4_2)
  change own_S _ _ _ _ _ _ _ _ _ _ _ _ _ _ [(x, own_O "com/example/beanflow/beanflow/VogelInflow" [("com/example/beanflow/beanflow/VogelInflow", "qmaxKgS", "D", .double qd)])] _ _ at Hg1
  obtain ⟨v5, hv5⟩ : ∃ z : UInt64, (FP.ddiv rd qd) = z := ⟨_, rfl⟩
  obtain ⟨v14, hv14⟩ : ∃ z : UInt64, (FP.dmul (4605380978949069210 : UInt64) td) = z := ⟨_, rfl⟩
  obtain ⟨v15, hv15⟩ : ∃ z : UInt64, (FP.dadd pd v14) = z := ⟨_, rfl⟩
  obtain ⟨v20, hv20⟩ : ∃ z : UInt64, (FP.dmul pd pd) = z := ⟨_, rfl⟩
  obtain ⟨Tg2, y, Hg2, stg2⟩ := own_newA Hg1 hx hZ (hw _ (List.mem_of_getElem? (i := 24) rfl)) (g := (mkF m 24 #[.val (.ref x), .val (.double rd), .second, .val (.double pd), .second, .val (.double td), .second, .val (.double v5), .second, .val (.double v15), .second, .val (.double v20), .second] [(.int (3 : Int32))])) rfl (hb hby d4_24) rfl (by decide) (cap := 3) (by decide) (by decide) (by decide) (by decide)
  change own_S _ _ _ _ _ _ _ _ _ _ _ _ _ _ [(x, own_O "com/example/beanflow/beanflow/VogelInflow" [("com/example/beanflow/beanflow/VogelInflow", "qmaxKgS", "D", .double qd)]), (y, own_A .double [.double 0, .double 0, .double 0])] _ _ at Hg2
  obtain ⟨v30, hv30⟩ : ∃ z : UInt64, (FP.dneg v20) = z := ⟨_, rfl⟩
  obtain ⟨Tg3, Hg3, stg3⟩ := own_getF Hg2 hx hZ hown (hw _ (List.mem_of_getElem? (i := 16) rfl)) 0 0 rfl rfl (g := (mkF m 32 #[.val (.ref x), .val (.double rd), .second, .val (.double pd), .second, .val (.double td), .second, .val (.double v5), .second, .val (.double v15), .second, .val (.double v20), .second] [(.ref x), (.double v30), (.int (0 : Int32)), (.ref y), (.ref y)])) rfl rfl (hb hby d4_32)
  change own_S _ _ _ _ _ _ _ _ _ _ _ _ _ _ [(x, own_O "com/example/beanflow/beanflow/VogelInflow" [("com/example/beanflow/beanflow/VogelInflow", "qmaxKgS", "D", .double qd)]), (y, own_A .double [.double 0, .double 0, .double 0])] _ _ at Hg3
  obtain ⟨v37, hv37⟩ : ∃ z : UInt64, (FP.dmul qd v15) = z := ⟨_, rfl⟩
  obtain ⟨v38, hv38⟩ : ∃ z : UInt64, (FP.ddiv v30 v37) = z := ⟨_, rfl⟩
  obtain ⟨Tg4, Hg4, stg4⟩ := own_dastore Hg3 hx hZ 1 0 rfl (by decide) (Nat.le_of_ble_eq_true rfl) (g := (mkF m 39 #[.val (.ref x), .val (.double rd), .second, .val (.double pd), .second, .val (.double td), .second, .val (.double v5), .second, .val (.double v15), .second, .val (.double v20), .second] [(.double v38), (.int (0 : Int32)), (.ref y), (.ref y)])) rfl rfl (hb hby d4_39)
  change own_S _ _ _ _ _ _ _ _ _ _ _ _ _ _ [(x, own_O "com/example/beanflow/beanflow/VogelInflow" [("com/example/beanflow/beanflow/VogelInflow", "qmaxKgS", "D", .double qd)]), (y, own_A .double [.double v38, .double 0, .double 0])] _ _ at Hg4
  obtain ⟨v46, hv46⟩ : ∃ z : UInt64, (FP.dmul v5 pd) = z := ⟨_, rfl⟩
  obtain ⟨v53, hv53⟩ : ∃ z : UInt64, (FP.dmul (4609884578576439706 : UInt64) td) = z := ⟨_, rfl⟩
  obtain ⟨v54, hv54⟩ : ∃ z : UInt64, (FP.dadd pd v53) = z := ⟨_, rfl⟩
  obtain ⟨v55, hv55⟩ : ∃ z : UInt64, (FP.dmul v46 v54) = z := ⟨_, rfl⟩
  obtain ⟨v60, hv60⟩ : ∃ z : UInt64, (FP.dmul v15 v15) = z := ⟨_, rfl⟩
  obtain ⟨v61, hv61⟩ : ∃ z : UInt64, (FP.ddiv v55 v60) = z := ⟨_, rfl⟩
  obtain ⟨v62, hv62⟩ : ∃ z : UInt64, (FP.dsub (4607182418800017408 : UInt64) v61) = z := ⟨_, rfl⟩
  obtain ⟨Tg5, Hg5, stg5⟩ := own_dastore Hg4 hx hZ 1 1 rfl (by decide) (Nat.le_of_ble_eq_true rfl) (g := (mkF m 63 #[.val (.ref x), .val (.double rd), .second, .val (.double pd), .second, .val (.double td), .second, .val (.double v5), .second, .val (.double v15), .second, .val (.double v20), .second] [(.double v62), (.int (1 : Int32)), (.ref y), (.ref y)])) rfl rfl (hb hby d4_63)
  change own_S _ _ _ _ _ _ _ _ _ _ _ _ _ _ [(x, own_O "com/example/beanflow/beanflow/VogelInflow" [("com/example/beanflow/beanflow/VogelInflow", "qmaxKgS", "D", .double qd)]), (y, own_A .double [.double v38, .double v62, .double 0])] _ _ at Hg5
  obtain ⟨v74, hv74⟩ : ∃ z : UInt64, (FP.dmul v5 (4605380978949069210 : UInt64)) = z := ⟨_, rfl⟩
  obtain ⟨v77, hv77⟩ : ∃ z : UInt64, (FP.dmul v74 v20) = z := ⟨_, rfl⟩
  obtain ⟨v82, hv82⟩ : ∃ z : UInt64, (FP.dmul v15 v15) = z := ⟨_, rfl⟩
  obtain ⟨v83, hv83⟩ : ∃ z : UInt64, (FP.ddiv v77 v82) = z := ⟨_, rfl⟩
  obtain ⟨v84, hv84⟩ : ∃ z : UInt64, (FP.dadd (13830554455654793216 : UInt64) v83) = z := ⟨_, rfl⟩
  obtain ⟨Tg6, Hg6, stg6⟩ := own_dastore Hg5 hx hZ 1 2 rfl (by decide) (Nat.le_of_ble_eq_true rfl) (g := (mkF m 85 #[.val (.ref x), .val (.double rd), .second, .val (.double pd), .second, .val (.double td), .second, .val (.double v5), .second, .val (.double v15), .second, .val (.double v20), .second] [(.double v84), (.int (2 : Int32)), (.ref y), (.ref y)])) rfl rfl (hb hby d4_85)
  change own_S _ _ _ _ _ _ _ _ _ _ _ _ _ _ [(x, own_O "com/example/beanflow/beanflow/VogelInflow" [("com/example/beanflow/beanflow/VogelInflow", "qmaxKgS", "D", .double qd)]), (y, own_A .double [.double v38, .double v62, .double v84])] _ _ at Hg6
  obtain ⟨⟨z5, z14, z15, z20, z37, z38, z46, z53, z54, z55, z60, z61, z62, z74, z77, z82, z83, z84⟩, N38, N62, N84⟩ := own_vogel hq hr hp ht q1 q2 rb p1 p2 kb k0 R1 R2 R3 hv5 hv14 hv15 hv20 hv30 hv37 hv38 hv46 hv53 hv54 hv55 hv60 hv61 hv62 hv74 hv77 hv82 hv83 hv84
  have nn5 : NoNaN64 (FP.ddiv rd qd) := by rw [hv5]; exact z5
  have nn14 : NoNaN64 (FP.dmul (4605380978949069210 : UInt64) td) := by rw [hv14]; exact z14
  have nn15 : NoNaN64 (FP.dadd pd v14) := by rw [hv15]; exact z15
  have nn20 : NoNaN64 (FP.dmul pd pd) := by rw [hv20]; exact z20
  have nn37 : NoNaN64 (FP.dmul qd v15) := by rw [hv37]; exact z37
  have nn38 : NoNaN64 (FP.ddiv v30 v37) := by rw [hv38]; exact z38
  have nn46 : NoNaN64 (FP.dmul v5 pd) := by rw [hv46]; exact z46
  have nn53 : NoNaN64 (FP.dmul (4609884578576439706 : UInt64) td) := by rw [hv53]; exact z53
  have nn54 : NoNaN64 (FP.dadd pd v53) := by rw [hv54]; exact z54
  have nn55 : NoNaN64 (FP.dmul v46 v54) := by rw [hv55]; exact z55
  have nn60 : NoNaN64 (FP.dmul v15 v15) := by rw [hv60]; exact z60
  have nn61 : NoNaN64 (FP.ddiv v55 v60) := by rw [hv61]; exact z61
  have nn62 : NoNaN64 (FP.dsub (4607182418800017408 : UInt64) v61) := by rw [hv62]; exact z62
  have nn74 : NoNaN64 (FP.dmul v5 (4605380978949069210 : UInt64)) := by rw [hv74]; exact z74
  have nn77 : NoNaN64 (FP.dmul v74 v20) := by rw [hv77]; exact z77
  have nn82 : NoNaN64 (FP.dmul v15 v15) := by rw [hv82]; exact z82
  have nn83 : NoNaN64 (FP.ddiv v77 v82) := by rw [hv83]; exact z83
  have nn84 : NoNaN64 (FP.dadd (13830554455654793216 : UInt64) v83) := by rw [hv84]; exact z84
  refine ⟨_, _, _, _, 86, #[.val (.ref x), .val (.double rd), .second, .val (.double pd), .second, .val (.double td), .second, .val (.double v5), .second, .val (.double v15), .second, .val (.double v20), .second], Hg6, by decide, by decide, Or.inr ⟨(.array .double), (.ref y), [], .areturn, rfl, ⟨y, v38, v62, v84, N38, N62, N84, rfl, rfl⟩, d4_86, own_retA _, fun target q => ?_⟩⟩
  refine own_go H0 hx hZ hown hby hw own_K4_ok (own_g0 x rd pd td) _ ?_
  refine stg1 _ ?_
  refine own_go Hg1 hx hZ hown hby hw own_K4_ok (own_g1 x rd pd td qd v5 hv5 nn5 v14 hv14 nn14 v15 hv15 nn15 v20 hv20 nn20) _ ?_
  refine stg2 _ ?_
  refine own_go Hg2 hx hZ hown hby hw own_K4_ok (own_g2 x rd pd td v5 v15 v20 y v30 hv30) _ ?_
  refine stg3 _ ?_
  refine own_go Hg3 hx hZ hown hby hw own_K4_ok (own_g3 x rd pd td v5 v15 v20 qd v30 y v37 hv37 nn37 v38 hv38 nn38) _ ?_
  refine stg4 _ ?_
  refine own_go Hg4 hx hZ hown hby hw own_K4_ok (own_g4 x rd pd td v5 v15 v20 y v46 hv46 nn46 v53 hv53 nn53 v54 hv54 nn54 v55 hv55 nn55 v60 hv60 nn60 v61 hv61 nn61 v62 hv62 nn62) _ ?_
  refine stg5 _ ?_
  refine own_go Hg5 hx hZ hown hby hw own_K4_ok (own_g5 x rd pd td v5 v15 v20 y v74 hv74 nn74 v77 hv77 nn77 v82 hv82 nn82 v83 hv83 nn83 v84 hv84 nn84) _ ?_
  refine stg6 _ ?_
  exact q
theorem own_n0 (gd : UInt64) (ja : Int64) (jn : Int64) (js : Int64) (v2 : UInt64) (hv2 : (FP.l2d ja) = v2) (v3 : UInt64) (hv3 : (FP.dmul gd v2) = v3) (nn3 : NoNaN64 (FP.dmul gd v2)) (v6 : UInt64) (hv6 : (FP.l2d jn) = v6) (v7 : UInt64) (hv7 : (FP.dsub v3 v6) = v7) (nn7 : NoNaN64 (FP.dsub v3 v6)) (v15 : UInt64) (hv15 : (FP.l2d js) = v15) (v16 : UInt64) (hv16 : (FP.dmul (4472406533629990549 : UInt64) v15) = v16) (nn16 : NoNaN64 (FP.dmul (4472406533629990549 : UInt64) v15)) (v23 : Int32) (hv23 : (cmpValue (FP.dcmp v7 v16) .g) = v23) (hb24 : ifCond.holds .gt v23 = false) (v29 : UInt64) (hv29 : (FP.dneg v7) = v29) (v32 : Int32) (hv32 : (cmpValue (FP.dcmp v29 v16) .g) = v32) (hb33 : ifCond.holds .gt v32 = false) :
    own_Go own_K5 method_3_code 0 #[.val (.double gd), .second, .val (.long ja), .second, .val (.long jn), .second, .val (.long js), .second, .unset, .unset, .unset, .unset] [] 41 #[.val (.double gd), .second, .val (.long ja), .second, .val (.long jn), .second, .val (.long js), .second, .val (.double v7), .second, .val (.double v16), .second] [(.int (1 : Int32))] := by
  refine own_dloadN (pc2 := 1) d5_0 rfl rfl ?_
  refine own_lloadN (pc2 := 2) d5_1 rfl rfl ?_
  refine own_l2d (pc2 := 3) d5_2 rfl (v := v2) hv2 ?_
  refine own_dmul (pc2 := 4) d5_3 rfl nn3 (v := v3) hv3 ?_
  refine own_lload (pc2 := 6) d5_4 rfl rfl ?_
  refine own_l2d (pc2 := 7) d5_6 rfl (v := v6) hv6 ?_
  refine own_dsub (pc2 := 8) d5_7 rfl nn7 (v := v7) hv7 ?_
  refine own_dstore (pc2 := 10) d5_8 rfl (L' := #[.val (.double gd), .second, .val (.long ja), .second, .val (.long jn), .second, .val (.long js), .second, .val (.double v7), .second, .unset, .unset]) rfl ?_
  refine own_ldc2D (v := (4472406533629990549 : UInt64)) (pc2 := 13) d5_10 rfl (List.mem_of_getElem? (i := 3) rfl) ?_
  refine own_lload (pc2 := 15) d5_13 rfl rfl ?_
  refine own_l2d (pc2 := 16) d5_15 rfl (v := v15) hv15 ?_
  refine own_dmul (pc2 := 17) d5_16 rfl nn16 (v := v16) hv16 ?_
  refine own_dstore (pc2 := 19) d5_17 rfl (L' := #[.val (.double gd), .second, .val (.long ja), .second, .val (.long jn), .second, .val (.long js), .second, .val (.double v7), .second, .val (.double v16), .second]) rfl ?_
  refine own_dload (pc2 := 21) d5_19 rfl rfl ?_
  refine own_dload (pc2 := 23) d5_21 rfl rfl ?_
  refine own_dcmp (pc2 := 24) d5_23 rfl (v := v23) hv23 ?_
  refine own_ifNo (pc2 := 27) d5_24 rfl hb24 ?_
  refine own_dload (pc2 := 29) d5_27 rfl rfl ?_
  refine own_dneg (pc2 := 30) d5_29 rfl (v := v29) hv29 ?_
  refine own_dload (pc2 := 32) d5_30 rfl rfl ?_
  refine own_dcmp (pc2 := 33) d5_32 rfl (v := v32) hv32 ?_
  refine own_ifNo (pc2 := 36) d5_33 rfl hb33 ?_
  refine own_iconst (v := 1) (pc2 := 37) d5_36 rfl rfl ?_
  refine own_goto (pc' := 41) d5_37 (by decide) (by decide) ?_
  exact own_refl
set_option maxRecDepth 65536 in
set_option maxHeartbeats 4000000 in
theorem own_near_ (l : Launch) (Z : State) (a0 : Array Value) (hb0 : own_Base) (hw : ∀ d ∈ tables_1, d.before a0 Z = true) (gd : UInt64) (ja : Int64) (jn : Int64) (js : Int64) (cs : List (Addr × own_Cel)) (G W : Rat) (hg : own_N gd G W) (ha : ja.toInt.natAbs < 2 ^ 53) (ha0 : 0 ≤ ja.toInt) (hN : ((ja.toInt : Int) : Rat) * G = ((jn.toInt : Int) : Rat)) (hS : ((ja.toInt : Int) : Rat) * W = ((js.toInt : Int) : Rat)) (n1 : jn.toInt ≤ js.toInt) (n2 : -js.toInt ≤ jn.toInt) (s1 : 1 ≤ js.toInt) (s2 : js.toInt ≤ 1152921504606846976) :
    own_Met l Z a0 hb0 (⟨"com/example/beanflow/beanflow/VogelInflowGradientPinLaw", "near", "(DJJJ)Z"⟩ : MethodName) method_3_code 12 (some .boolean) [] ({ frames := 0, cells := 0, slots := 0, locals := 0 } : Room) #[(.double gd), (.long ja), (.long jn), (.long js)] cs (fun r cs' => r = some (.int 1) ∧ cs' = cs) := by
  refine own_met_of (L0 := #[.val (.double gd), .second, .val (.long ja), .second, .val (.long jn), .second, .val (.long js), .second, .unset, .unset, .unset, .unset]) (plainFor_of_name own_pn5) (fun m => own_ef5 m gd ja jn js) ?_
  intro p e s m below meth c T0 hx hZ hown hby hml hnm H0
  obtain ⟨v2, hv2⟩ : ∃ z : UInt64, (FP.l2d ja) = z := ⟨_, rfl⟩
  obtain ⟨v3, hv3⟩ : ∃ z : UInt64, (FP.dmul gd v2) = z := ⟨_, rfl⟩
  obtain ⟨v6, hv6⟩ : ∃ z : UInt64, (FP.l2d jn) = z := ⟨_, rfl⟩
  obtain ⟨v7, hv7⟩ : ∃ z : UInt64, (FP.dsub v3 v6) = z := ⟨_, rfl⟩
  obtain ⟨v15, hv15⟩ : ∃ z : UInt64, (FP.l2d js) = z := ⟨_, rfl⟩
  obtain ⟨v16, hv16⟩ : ∃ z : UInt64, (FP.dmul (4472406533629990549 : UInt64) v15) = z := ⟨_, rfl⟩
  obtain ⟨v23, hv23⟩ : ∃ z : Int32, (cmpValue (FP.dcmp v7 v16) .g) = z := ⟨_, rfl⟩
  obtain ⟨v29, hv29⟩ : ∃ z : UInt64, (FP.dneg v7) = z := ⟨_, rfl⟩
  obtain ⟨v32, hv32⟩ : ∃ z : Int32, (cmpValue (FP.dcmp v29 v16) .g) = z := ⟨_, rfl⟩
  obtain ⟨z3, z7, z16, D, b, i7, i16, le1, le2⟩ := own_near_ok hg (own_rd_small (own_rdL ja) ha) (own_cle ha0) hN hS (own_rdL jn) (own_rdL js) (own_cle n1) (by have := own_cle n2; rwa [Rat.intCast_neg] at this) (own_cle s1) (own_cle s2) own_tl
  rw [hv2, hv3, hv6, hv7] at i7
  rw [hv15, hv16] at i16
  have nn3 : NoNaN64 (FP.dmul gd v2) := by rw [← hv2]; exact z3
  have nn7 : NoNaN64 (FP.dsub v3 v6) := by rw [← hv3, ← hv2, ← hv6]; exact z7
  have nn16 : NoNaN64 (FP.dmul (4472406533629990549 : UInt64) v15) := by rw [← hv15]; exact z16
  have hb24 : ifCond.holds .gt v23 = false := by rw [← hv23, own_c_gt i7 i16]; exact decide_eq_false (Rat.not_lt.mpr le1)
  have hb33 : ifCond.holds .gt v32 = false := by rw [← hv32, ← hv29, own_c_gt (own_neg i7) i16]; exact decide_eq_false (Rat.not_lt.mpr le2)
  refine ⟨_, _, _, _, 41, #[.val (.double gd), .second, .val (.long ja), .second, .val (.long jn), .second, .val (.long js), .second, .val (.double v7), .second, .val (.double v16), .second], H0, by decide, by decide, Or.inr ⟨.boolean, (.int (1 : Int32)), [], .ireturn, rfl, ⟨rfl, rfl⟩, d5_41, own_retZ (Or.inr rfl), fun target q => ?_⟩⟩
  refine own_go H0 hx hZ hown hby hw own_K5_ok (own_n0 gd ja jn js v2 hv2 v3 hv3 nn3 v6 hv6 v7 hv7 nn7 v15 hv15 v16 hv16 nn16 v23 hv23 hb24 v29 hv29 v32 hv32 hb33) _ ?_
  exact q
theorem own_ab0 (jv : Int64) (v2 : Int32) (hv2 : (if jv > (0 : Int64) then (1 : Int32) else if jv = (0 : Int64) then 0 else -1) = v2) (v7 : Int64) (hv7 : (-jv) = v7) (t12_0 : Int64) (ht12_0 : (bif ifCond.holds .ge v2 then jv else v7) = t12_0) :
    own_Go own_K6 jdk_29_method_61_code 0 #[.val (.long jv), .second] [] 12 #[.val (.long jv), .second] [(.long t12_0)] := by
  subst ht12_0
  refine own_lloadN (pc2 := 1) d6_0 rfl rfl ?_
  refine own_lconst (v := 0) (pc2 := 2) d6_1 rfl rfl ?_
  refine own_lcmp (pc2 := 3) d6_2 rfl (v := v2) hv2 ?_
  cases hb3 : ifCond.holds .ge v2
  · refine own_ifNo (pc2 := 6) d6_3 rfl hb3 ?_
    refine own_lloadN (pc2 := 7) d6_6 rfl rfl ?_
    refine own_lneg (pc2 := 8) d6_7 rfl (v := v7) hv7 ?_
    refine own_goto (pc' := 12) d6_8 (by decide) (by decide) ?_
    exact own_refl
  · refine own_ifYes (pc' := 11) d6_3 hb3 (by decide) (by decide) ?_
    refine own_lloadN (pc2 := 12) d6_11 rfl rfl ?_
    exact own_refl
set_option maxRecDepth 65536 in
set_option maxHeartbeats 4000000 in
theorem own_abs (l : Launch) (Z : State) (a0 : Array Value) (hb0 : own_Base) (hw : ∀ d ∈ tables_1, d.before a0 Z = true) (jv : Int64) (cs : List (Addr × own_Cel)) (hb_ : -9223372036854775807 ≤ jv.toInt) :
    own_Met l Z a0 hb0 (⟨"java/lang/Math", "abs", "(J)J"⟩ : MethodName) jdk_29_method_61_code 2 (some .long) [] ({ frames := 0, cells := 0, slots := 0, locals := 0 } : Room) #[(.long jv)] cs (fun r cs' => ∃ z : Int64, z.toInt = (jv.toInt.natAbs : Int) ∧ r = some (.long z) ∧ cs' = cs) := by
  refine own_met_of (L0 := #[.val (.long jv), .second]) (by decide +kernel) (fun m => own_ef6 m jv) ?_
  intro p e s m below meth c T0 hx hZ hown hby hml hnm H0
  obtain ⟨v2, hv2⟩ : ∃ z : Int32, (if jv > (0 : Int64) then (1 : Int32) else if jv = (0 : Int64) then 0 else -1) = z := ⟨_, rfl⟩
  obtain ⟨v7, hv7⟩ : ∃ z : Int64, (-jv) = z := ⟨_, rfl⟩
  obtain ⟨t12_0, ht12_0⟩ : ∃ z : Int64, (bif ifCond.holds .ge v2 then jv else v7) = z := ⟨_, rfl⟩
  have e : t12_0.toInt = (jv.toInt.natAbs : Int) := by
    rw [← ht12_0, ← hv2, own_lc_ge]
    have z0 : (0 : Int64).toInt = 0 := rfl
    by_cases h : (0 : Int64).toInt ≤ jv.toInt
    · rw [decide_eq_true h]
      show jv.toInt = _
      omega
    · rw [decide_eq_false h]
      show v7.toInt = _
      have q := c_lneg jv
      have := rng64 v7
      rw [hv7] at q
      omega
  refine ⟨_, _, _, _, 12, #[.val (.long jv), .second], H0, by decide, by decide, Or.inr ⟨.long, (.long t12_0), [], .lreturn, rfl, ⟨_, e, rfl, rfl⟩, d6_12, own_retJ _, fun target q => ?_⟩⟩
  refine own_go H0 hx hZ hown hby hw own_K6_ok (own_ab0 jv v2 hv2 v7 hv7 t12_0 ht12_0) _ ?_
  exact q

theorem own_r0 {q p k : Int} (hq : 1 ≤ q) (hp : 1 ≤ p) (hk : 0 ≤ k) : ((q * (p + 4 * k) : Int) : Rat) * (-((p : Rat) * (p : Rat)) / ((q : Rat) * ((p : Rat) + 4 * (k : Rat)))) = ((-(p * p) : Int) : Rat) ∧ ((q * (p + 4 * k) : Int) : Rat) * ((p : Rat) * (p : Rat) / ((q : Rat) * ((p : Rat) + 4 * (k : Rat)))) = ((p * p : Int) : Rat) := by
  have h1 : (1 : Rat) ≤ (q : Rat) := own_cle (a := 1) hq
  have h2 : (1 : Rat) ≤ (p : Rat) := own_cle (a := 1) hp
  have h3 : (0 : Rat) ≤ (k : Rat) := own_cle (a := 0) hk
  simp only [Rat.intCast_mul, Rat.intCast_add, Rat.intCast_neg, show ((4 : Int) : Rat) = 4 from rfl]
  have n1 : (q : Rat) ≠ 0 := by grind
  have n2 : (p : Rat) + 4 * (k : Rat) ≠ 0 := by grind
  generalize (q : Rat) = Q at *
  generalize (p : Rat) = P at *
  generalize (k : Rat) = K at *
  constructor <;> grind
theorem own_r1 {q p k r R : Int} (hq : 1 ≤ q) (hp : 1 ≤ p) (hk : 0 ≤ k) : ((q * ((p + 4 * k) * (p + 4 * k)) : Int) : Rat) * (1 - (r : Rat) / (q : Rat) * (p : Rat) * ((p : Rat) + 8 * (k : Rat)) / (((p : Rat) + 4 * (k : Rat)) * ((p : Rat) + 4 * (k : Rat)))) = ((q * ((p + 4 * k) * (p + 4 * k)) - r * p * (p + 8 * k) : Int) : Rat) ∧ ((q * ((p + 4 * k) * (p + 4 * k)) : Int) : Rat) * (1 + (R : Rat) / (q : Rat) * (p : Rat) * ((p : Rat) + 8 * (k : Rat)) / (((p : Rat) + 4 * (k : Rat)) * ((p : Rat) + 4 * (k : Rat)))) = ((q * ((p + 4 * k) * (p + 4 * k)) + R * p * (p + 8 * k) : Int) : Rat) := by
  have h1 : (1 : Rat) ≤ (q : Rat) := own_cle (a := 1) hq
  have h2 : (1 : Rat) ≤ (p : Rat) := own_cle (a := 1) hp
  have h3 : (0 : Rat) ≤ (k : Rat) := own_cle (a := 0) hk
  simp only [Rat.intCast_mul, Rat.intCast_add, Rat.intCast_sub, show ((4 : Int) : Rat) = 4 from rfl, show ((8 : Int) : Rat) = 8 from rfl]
  have n1 : (q : Rat) ≠ 0 := by grind
  have n2 : (p : Rat) + 4 * (k : Rat) ≠ 0 := by grind
  generalize (q : Rat) = Q at *
  generalize (p : Rat) = P at *
  generalize (k : Rat) = K at *
  generalize (r : Rat) = V at *
  generalize (R : Rat) = W at *
  generalize P + 4 * K = D at *
  constructor <;> grind
theorem own_r2 {q p k r R : Int} (hq : 1 ≤ q) (hp : 1 ≤ p) (hk : 0 ≤ k) : ((5 * q * ((p + 4 * k) * (p + 4 * k)) : Int) : Rat) * (-1 + (r : Rat) / (q : Rat) * (4 / 5) * ((p : Rat) * (p : Rat)) / (((p : Rat) + 4 * (k : Rat)) * ((p : Rat) + 4 * (k : Rat)))) = ((4 * r * p * p - 5 * q * ((p + 4 * k) * (p + 4 * k)) : Int) : Rat) ∧ ((5 * q * ((p + 4 * k) * (p + 4 * k)) : Int) : Rat) * (1 + (R : Rat) / (q : Rat) * (4 / 5) * ((p : Rat) * (p : Rat)) / (((p : Rat) + 4 * (k : Rat)) * ((p : Rat) + 4 * (k : Rat)))) = ((5 * q * ((p + 4 * k) * (p + 4 * k)) + 4 * R * p * p : Int) : Rat) := by
  have h1 : (1 : Rat) ≤ (q : Rat) := own_cle (a := 1) hq
  have h2 : (1 : Rat) ≤ (p : Rat) := own_cle (a := 1) hp
  have h3 : (0 : Rat) ≤ (k : Rat) := own_cle (a := 0) hk
  simp only [Rat.intCast_mul, Rat.intCast_add, Rat.intCast_sub, show ((4 : Int) : Rat) = 4 from rfl, show ((5 : Int) : Rat) = 5 from rfl]
  have n1 : (q : Rat) ≠ 0 := by grind
  have n2 : (p : Rat) + 4 * (k : Rat) ≠ 0 := by grind
  generalize (q : Rat) = Q at *
  generalize (p : Rat) = P at *
  generalize (k : Rat) = K at *
  generalize (r : Rat) = V at *
  generalize (R : Rat) = W at *
  generalize P + 4 * K = D at *
  constructor <;> grind
def own_nearP (ja jn js : Int64) (G W : Rat) : Prop := ja.toInt.natAbs < 2 ^ 53 ∧ 0 ≤ ja.toInt ∧ ((ja.toInt : Int) : Rat) * G = ((jn.toInt : Int) : Rat) ∧ ((ja.toInt : Int) : Rat) * W = ((js.toInt : Int) : Rat) ∧ jn.toInt ≤ js.toInt ∧ -js.toInt ≤ jn.toInt ∧ 1 ≤ js.toInt ∧ js.toInt ≤ 1152921504606846976
theorem own_L {v6 v16 v24 v36 v88 v89 v96 : Int64} (bq : 1 ≤ v6.toInt ∧ v6.toInt ≤ 65536) (bp : 1 ≤ v16.toInt ∧ v16.toInt ≤ 4096) (bk : 0 ≤ v24.toInt ∧ v24.toInt ≤ 1023) (br : -2147483648 ≤ v36.toInt ∧ v36.toInt < 2147483648) (h88 : (4 : Int64) * v24 = v88) (h89 : v16 + v88 = v89) (h96 : v89 * v89 = v96) : v89.toInt = v16.toInt + 4 * v24.toInt ∧ v96.toInt = (v16.toInt + 4 * v24.toInt) * (v16.toInt + 4 * v24.toInt) ∧ v96.toInt.natAbs ≤ 67043344 ∧ 1 ≤ v96.toInt := by
  have e88 : v88.toInt = 4 * v24.toInt := by rw [← h88]; exact own_lm (X := 4) (Y := 1023) rfl rfl (by decide) (by omega) (by decide)
  have e89 : v89.toInt = v16.toInt + 4 * v24.toInt := by rw [← h89]; exact own_la rfl e88 (by omega) (by omega)
  have e96 : v96.toInt = (v16.toInt + 4 * v24.toInt) * (v16.toInt + 4 * v24.toInt) := by rw [← h96]; exact own_lm (X := 8188) (Y := 8188) e89 e89 (by omega) (by omega) (by decide)
  refine ⟨e89, e96, ?_, ?_⟩
  · rw [e96]; exact own_nb (X := 8188) (Y := 8188) (by omega) (by omega)
  · rw [e96]
    have : 0 < (v16.toInt + 4 * v24.toInt) * (v16.toInt + 4 * v24.toInt) := Int.mul_pos (by omega) (by omega)
    omega
theorem own_L0 {v6 v16 v24 v36 v88 v89 v96 : Int64} (bq : 1 ≤ v6.toInt ∧ v6.toInt ≤ 65536) (bp : 1 ≤ v16.toInt ∧ v16.toInt ≤ 4096) (bk : 0 ≤ v24.toInt ∧ v24.toInt ≤ 1023) (br : -2147483648 ≤ v36.toInt ∧ v36.toInt < 2147483648) (h88 : (4 : Int64) * v24 = v88) (h89 : v16 + v88 = v89) (h96 : v89 * v89 = v96) {v107 v112 v113 v118 : Int64} (h107 : v6 * v89 = v107) (h112 : v16 * v16 = v112) (h113 : -v112 = v113) (h118 : v16 * v16 = v118) : own_nearP v107 v113 v118 (-(((v16.toInt : Int) : Rat) * ((v16.toInt : Int) : Rat)) / (((v6.toInt : Int) : Rat) * (((v16.toInt : Int) : Rat) + 4 * ((v24.toInt : Int) : Rat)))) (((v16.toInt : Int) : Rat) * ((v16.toInt : Int) : Rat) / (((v6.toInt : Int) : Rat) * (((v16.toInt : Int) : Rat) + 4 * ((v24.toInt : Int) : Rat)))) := by
  obtain ⟨e89, e96, -, -⟩ := own_L bq bp bk br h88 h89 h96
  have e107 : v107.toInt = v6.toInt * (v16.toInt + 4 * v24.toInt) := by rw [← h107]; exact own_lm (X := 65536) (Y := 8188) rfl e89 (by omega) (by omega) (by decide)
  have e118 : v118.toInt = v16.toInt * v16.toInt := by rw [← h118]; exact own_lm (X := 4096) (Y := 4096) rfl rfl (by omega) (by omega) (by decide)
  have e112 : v112.toInt = v16.toInt * v16.toInt := by rw [← h112, h118]; exact e118
  have p1 : 0 < v16.toInt * v16.toInt := Int.mul_pos (by omega) (by omega)
  have p2 : (v16.toInt * v16.toInt).natAbs ≤ 4096 * 4096 := own_nb (by omega) (by omega)
  have e113 : v113.toInt = -(v16.toInt * v16.toInt) := by
    have q := c_lneg v112
    have := rng64 v113
    rw [h113, e112] at q
    omega
  have r := own_r0 bq.1 bp.1 bk.1
  refine ⟨?_, ?_, ?_, ?_, by omega, by omega, by omega, by omega⟩
  · rw [e107]; exact Nat.lt_of_le_of_lt (own_nb (X := 65536) (Y := 8188) (by omega) (by omega)) (by decide)
  · rw [e107]; exact Int.mul_nonneg (by omega) (by omega)
  · rw [e107, e113]; exact r.1
  · rw [e107, e118]; exact r.2
theorem own_L1a {v6 v16 v24 v36 v88 v89 v96 : Int64} (bq : 1 ≤ v6.toInt ∧ v6.toInt ≤ 65536) (bp : 1 ≤ v16.toInt ∧ v16.toInt ≤ 4096) (bk : 0 ≤ v24.toInt ∧ v24.toInt ≤ 1023) (br : -2147483648 ≤ v36.toInt ∧ v36.toInt < 2147483648) (h88 : (4 : Int64) * v24 = v88) (h89 : v16 + v88 = v89) (h96 : v89 * v89 = v96) {v135 v143 v144 v145 : Int64} (h135 : v36 * v16 = v135) (h143 : (8 : Int64) * v24 = v143) (h144 : v16 + v143 = v144) (h145 : v135 * v144 = v145) : v145.toInt = v36.toInt * v16.toInt * (v16.toInt + 8 * v24.toInt) ∧ v145.toInt.natAbs ≤ 109000000000000000 ∧ (v145.toInt.natAbs : Int) = (v36.toInt.natAbs : Int) * v16.toInt * (v16.toInt + 8 * v24.toInt) := by
  have e135 : v135.toInt = v36.toInt * v16.toInt := by rw [← h135]; exact own_lm (X := 2147483648) (Y := 4096) rfl rfl (by omega) (by omega) (by decide)
  have e143 : v143.toInt = 8 * v24.toInt := by rw [← h143]; exact own_lm (X := 8) (Y := 1023) rfl rfl (by decide) (by omega) (by decide)
  have e144 : v144.toInt = v16.toInt + 8 * v24.toInt := by rw [← h144]; exact own_la rfl e143 (by omega) (by omega)
  have n1 : (v36.toInt * v16.toInt).natAbs ≤ 2147483648 * 4096 := own_nb (by omega) (by omega)
  have e145 : v145.toInt = v36.toInt * v16.toInt * (v16.toInt + 8 * v24.toInt) := by rw [← h145]; exact own_lm (X := 2147483648 * 4096) (Y := 12280) e135 e144 n1 (by omega) (by decide)
  refine ⟨e145, ?_, ?_⟩
  · rw [e145]; exact Nat.le_trans (own_nb n1 (show (v16.toInt + 8 * v24.toInt).natAbs ≤ 12280 by omega)) (by decide)
  · rw [e145, Int.natAbs_mul, Int.natAbs_mul, Int.natCast_mul, Int.natCast_mul, Int.natAbs_of_nonneg (a := v16.toInt) (by omega), Int.natAbs_of_nonneg (a := v16.toInt + 8 * v24.toInt) (by omega)]
theorem own_L1 {v6 v16 v24 v36 v88 v89 v96 : Int64} (bq : 1 ≤ v6.toInt ∧ v6.toInt ≤ 65536) (bp : 1 ≤ v16.toInt ∧ v16.toInt ≤ 4096) (bk : 0 ≤ v24.toInt ∧ v24.toInt ≤ 1023) (br : -2147483648 ≤ v36.toInt ∧ v36.toInt < 2147483648) (h88 : (4 : Int64) * v24 = v88) (h89 : v16 + v88 = v89) (h96 : v89 * v89 = v96) {v128 v135 v143 v144 v145 v158 v166 ab : Int64} (h128 : v6 * v96 = v128) (h135 : v36 * v16 = v135) (h143 : (8 : Int64) * v24 = v143) (h144 : v16 + v143 = v144) (h145 : v135 * v144 = v145) (h158 : v128 - v145 = v158) (hab : ab.toInt = (v145.toInt.natAbs : Int)) (h166 : v128 + ab = v166) : own_nearP v128 v158 v166 (1 - ((v36.toInt : Int) : Rat) / ((v6.toInt : Int) : Rat) * ((v16.toInt : Int) : Rat) * (((v16.toInt : Int) : Rat) + 8 * ((v24.toInt : Int) : Rat)) / ((((v16.toInt : Int) : Rat) + 4 * ((v24.toInt : Int) : Rat)) * (((v16.toInt : Int) : Rat) + 4 * ((v24.toInt : Int) : Rat)))) (1 + (((v36.toInt.natAbs : Nat) : Int) : Rat) / ((v6.toInt : Int) : Rat) * ((v16.toInt : Int) : Rat) * (((v16.toInt : Int) : Rat) + 8 * ((v24.toInt : Int) : Rat)) / ((((v16.toInt : Int) : Rat) + 4 * ((v24.toInt : Int) : Rat)) * (((v16.toInt : Int) : Rat) + 4 * ((v24.toInt : Int) : Rat)))) := by
  obtain ⟨e89, e96, b96, c96⟩ := own_L bq bp bk br h88 h89 h96
  obtain ⟨e145, b145, a145⟩ := own_L1a bq bp bk br h88 h89 h96 h135 h143 h144 h145
  have e128 : v128.toInt = v6.toInt * v96.toInt := by rw [← h128]; exact own_lm (X := 65536) (Y := 67043344) rfl rfl (by omega) b96 (by decide)
  have n128 : v128.toInt.natAbs ≤ 65536 * 67043344 := by rw [e128]; exact own_nb (by omega) b96
  have p128 : 0 < v128.toInt := by rw [e128]; exact Int.mul_pos (by omega) (by omega)
  have e158 : v158.toInt = v128.toInt - v145.toInt := by rw [← h158]; exact own_lsb rfl rfl (by omega) (by omega)
  have e166 : v166.toInt = v128.toInt + (v145.toInt.natAbs : Int) := by rw [← h166]; exact own_la rfl hab (by omega) (by omega)
  have r := own_r1 (r := v36.toInt) (R := (v36.toInt.natAbs : Int)) bq.1 bp.1 bk.1
  refine ⟨by omega, by omega, ?_, ?_, by omega, by omega, by omega, by omega⟩
  · rw [e158, e145, e128, e96]; exact r.1
  · rw [e166, a145, e128, e96]; exact r.2
theorem own_L2a {v6 v16 v24 v36 v88 v89 v96 : Int64} (bq : 1 ≤ v6.toInt ∧ v6.toInt ≤ 65536) (bp : 1 ≤ v16.toInt ∧ v16.toInt ≤ 4096) (bk : 0 ≤ v24.toInt ∧ v24.toInt ≤ 1023) (br : -2147483648 ≤ v36.toInt ∧ v36.toInt < 2147483648) (h88 : (4 : Int64) * v24 = v88) (h89 : v16 + v88 = v89) (h96 : v89 * v89 = v96) {v188 v191 v194 : Int64} (h188 : (4 : Int64) * v36 = v188) (h191 : v188 * v16 = v191) (h194 : v191 * v16 = v194) : v194.toInt = 4 * v36.toInt * v16.toInt * v16.toInt ∧ v194.toInt.natAbs ≤ 144115188075855872 ∧ (v194.toInt.natAbs : Int) = 4 * (v36.toInt.natAbs : Int) * v16.toInt * v16.toInt := by
  have e188 : v188.toInt = 4 * v36.toInt := by rw [← h188]; exact own_lm (X := 4) (Y := 2147483648) rfl rfl (by decide) (by omega) (by decide)
  have n1 : (4 * v36.toInt).natAbs ≤ 8589934592 := by omega
  have e191 : v191.toInt = 4 * v36.toInt * v16.toInt := by rw [← h191]; exact own_lm (X := 8589934592) (Y := 4096) e188 rfl n1 (by omega) (by decide)
  have n2 : (4 * v36.toInt * v16.toInt).natAbs ≤ 8589934592 * 4096 := own_nb n1 (by omega)
  have e194 : v194.toInt = 4 * v36.toInt * v16.toInt * v16.toInt := by rw [← h194]; exact own_lm (X := 8589934592 * 4096) (Y := 4096) e191 rfl n2 (by omega) (by decide)
  refine ⟨e194, ?_, ?_⟩
  · rw [e194]; exact Nat.le_trans (own_nb n2 (show v16.toInt.natAbs ≤ 4096 by omega)) (by decide)
  · rw [e194, Int.natAbs_mul, Int.natAbs_mul, Int.natAbs_mul, Int.natCast_mul, Int.natCast_mul, Int.natCast_mul, Int.natAbs_of_nonneg (a := v16.toInt) (by omega)]
    rfl
theorem own_L2 {v6 v16 v24 v36 v88 v89 v96 : Int64} (bq : 1 ≤ v6.toInt ∧ v6.toInt ≤ 65536) (bp : 1 ≤ v16.toInt ∧ v16.toInt ≤ 4096) (bk : 0 ≤ v24.toInt ∧ v24.toInt ≤ 1023) (br : -2147483648 ≤ v36.toInt ∧ v36.toInt < 2147483648) (h88 : (4 : Int64) * v24 = v88) (h89 : v16 + v88 = v89) (h96 : v89 * v89 = v96) {v177 v180 v188 v191 v194 v207 v215 ab : Int64} (h177 : (5 : Int64) * v6 = v177) (h180 : v177 * v96 = v180) (h188 : (4 : Int64) * v36 = v188) (h191 : v188 * v16 = v191) (h194 : v191 * v16 = v194) (h207 : v194 - v180 = v207) (hab : ab.toInt = (v194.toInt.natAbs : Int)) (h215 : v180 + ab = v215) : own_nearP v180 v207 v215 (-1 + ((v36.toInt : Int) : Rat) / ((v6.toInt : Int) : Rat) * (4 / 5) * (((v16.toInt : Int) : Rat) * ((v16.toInt : Int) : Rat)) / ((((v16.toInt : Int) : Rat) + 4 * ((v24.toInt : Int) : Rat)) * (((v16.toInt : Int) : Rat) + 4 * ((v24.toInt : Int) : Rat)))) (1 + (((v36.toInt.natAbs : Nat) : Int) : Rat) / ((v6.toInt : Int) : Rat) * (4 / 5) * (((v16.toInt : Int) : Rat) * ((v16.toInt : Int) : Rat)) / ((((v16.toInt : Int) : Rat) + 4 * ((v24.toInt : Int) : Rat)) * (((v16.toInt : Int) : Rat) + 4 * ((v24.toInt : Int) : Rat)))) := by
  obtain ⟨e89, e96, b96, c96⟩ := own_L bq bp bk br h88 h89 h96
  obtain ⟨e194, b194, a194⟩ := own_L2a bq bp bk br h88 h89 h96 h188 h191 h194
  have e177 : v177.toInt = 5 * v6.toInt := by rw [← h177]; exact own_lm (X := 5) (Y := 65536) rfl rfl (by decide) (by omega) (by decide)
  have e180 : v180.toInt = 5 * v6.toInt * v96.toInt := by rw [← h180]; exact own_lm (X := 327680) (Y := 67043344) e177 rfl (by omega) b96 (by decide)
  have n180 : v180.toInt.natAbs ≤ 327680 * 67043344 := by rw [e180]; exact own_nb (by omega) b96
  have p180 : 0 < v180.toInt := by rw [e180]; exact Int.mul_pos (by omega) (by omega)
  have e207 : v207.toInt = v194.toInt - v180.toInt := by rw [← h207]; exact own_lsb rfl rfl (by omega) (by omega)
  have e215 : v215.toInt = v180.toInt + (v194.toInt.natAbs : Int) := by rw [← h215]; exact own_la rfl hab (by omega) (by omega)
  have r := own_r2 (r := v36.toInt) (R := (v36.toInt.natAbs : Int)) bq.1 bp.1 bk.1
  refine ⟨by omega, by omega, ?_, ?_, by omega, by omega, by omega, by omega⟩
  · rw [e207, e194, e180, e96]; exact r.1
  · rw [e215, a194, e180, e96]; exact r.2
theorem own_rbi {r b : Int} (h1 : r ≤ b) (h2 : -b ≤ r) : own_rb ((r : Int) : Rat) 1 ((b : Int) : Rat) := by
  rcases Int.lt_trichotomy r 0 with h | h | h
  · refine Or.inr (Or.inr ?_)
    rw [← Rat.intCast_neg]
    exact ⟨own_cle (a := 1) (by omega), own_cle (by omega)⟩
  · rw [h]
    exact Or.inl rfl
  · exact Or.inr (Or.inl ⟨own_cle (a := 1) (by omega), own_cle h1⟩)
theorem own_s0 (xq : Int32) (xp : Int32) (xk : Int32) (xr : Int32) (v3 : Int32) (hv3 : (xq &&& (65535 : Int32)) = v3) (v5 : Int32) (hv5 : (v3 + (1 : Int32)) = v5) (v6 : Int64) (hv6 : v5.toInt64 = v6) (v13 : Int32) (hv13 : (xp &&& (4095 : Int32)) = v13) (v15 : Int32) (hv15 : (v13 + (1 : Int32)) = v15) (v16 : Int64) (hv16 : v15.toInt64 = v16) (v23 : Int32) (hv23 : (xk &&& (1023 : Int32)) = v23) (v24 : Int64) (hv24 : v23.toInt64 = v24) (v32 : Int64) (hv32 : ((5 : Int64) * v24) = v32) (v36 : Int64) (hv36 : xr.toInt64 = v36) :
    own_Go own_K0 code 0 (List.toArray ((.val (.int xq)) :: (.val (.int xp)) :: (.val (.int xk)) :: (.val (.int xr)) :: .unset :: .unset :: .unset :: .unset :: .unset :: .unset :: .unset :: .unset :: .unset :: .unset :: .unset :: .unset :: .unset :: .unset :: .unset :: .unset :: .unset :: .unset :: .unset :: .unset :: .unset :: .unset :: .unset :: .unset :: .unset :: .unset :: .unset :: [])) [] 39 (List.toArray ((.val (.int xq)) :: (.val (.int xp)) :: (.val (.int xk)) :: (.val (.int xr)) :: (.val (.long v6)) :: .second :: (.val (.long v16)) :: .second :: (.val (.long v24)) :: .second :: (.val (.long v32)) :: .second :: (.val (.long v36)) :: .second :: .unset :: .unset :: .unset :: .unset :: .unset :: .unset :: .unset :: .unset :: .unset :: .unset :: .unset :: .unset :: .unset :: .unset :: .unset :: .unset :: .unset :: [])) [] := by
  refine own_iloadN (pc2 := 1) at_0 rfl rfl ?_
  refine own_ldc (v := (65535 : Int32)) (pc2 := 3) at_1 rfl (List.mem_of_getElem? (i := 0) rfl) ?_
  refine own_iand (pc2 := 4) at_3 rfl (v := v3) hv3 ?_
  refine own_iconst (v := 1) (pc2 := 5) at_4 rfl rfl ?_
  refine own_iadd (pc2 := 6) at_5 rfl (v := v5) hv5 ?_
  refine own_i2l (pc2 := 7) at_6 rfl (v := v6) hv6 ?_
  refine own_lstore (pc2 := 9) at_7 rfl (L' := (List.toArray ((.val (.int xq)) :: (.val (.int xp)) :: (.val (.int xk)) :: (.val (.int xr)) :: (.val (.long v6)) :: .second :: .unset :: .unset :: .unset :: .unset :: .unset :: .unset :: .unset :: .unset :: .unset :: .unset :: .unset :: .unset :: .unset :: .unset :: .unset :: .unset :: .unset :: .unset :: .unset :: .unset :: .unset :: .unset :: .unset :: .unset :: .unset :: []))) rfl ?_
  refine own_iloadN (pc2 := 10) at_9 rfl rfl ?_
  refine own_sipush (v := 4095) (pc2 := 13) at_10 rfl rfl ?_
  refine own_iand (pc2 := 14) at_13 rfl (v := v13) hv13 ?_
  refine own_iconst (v := 1) (pc2 := 15) at_14 rfl rfl ?_
  refine own_iadd (pc2 := 16) at_15 rfl (v := v15) hv15 ?_
  refine own_i2l (pc2 := 17) at_16 rfl (v := v16) hv16 ?_
  refine own_lstore (pc2 := 19) at_17 rfl (L' := (List.toArray ((.val (.int xq)) :: (.val (.int xp)) :: (.val (.int xk)) :: (.val (.int xr)) :: (.val (.long v6)) :: .second :: (.val (.long v16)) :: .second :: .unset :: .unset :: .unset :: .unset :: .unset :: .unset :: .unset :: .unset :: .unset :: .unset :: .unset :: .unset :: .unset :: .unset :: .unset :: .unset :: .unset :: .unset :: .unset :: .unset :: .unset :: .unset :: .unset :: []))) rfl ?_
  refine own_iloadN (pc2 := 20) at_19 rfl rfl ?_
  refine own_sipush (v := 1023) (pc2 := 23) at_20 rfl rfl ?_
  refine own_iand (pc2 := 24) at_23 rfl (v := v23) hv23 ?_
  refine own_i2l (pc2 := 25) at_24 rfl (v := v24) hv24 ?_
  refine own_lstore (pc2 := 27) at_25 rfl (L' := (List.toArray ((.val (.int xq)) :: (.val (.int xp)) :: (.val (.int xk)) :: (.val (.int xr)) :: (.val (.long v6)) :: .second :: (.val (.long v16)) :: .second :: (.val (.long v24)) :: .second :: .unset :: .unset :: .unset :: .unset :: .unset :: .unset :: .unset :: .unset :: .unset :: .unset :: .unset :: .unset :: .unset :: .unset :: .unset :: .unset :: .unset :: .unset :: .unset :: .unset :: .unset :: []))) rfl ?_
  refine own_ldc2L (v := (5 : Int64)) (pc2 := 30) at_27 rfl (List.mem_of_getElem? (i := 1) rfl) ?_
  refine own_lload (pc2 := 32) at_30 rfl rfl ?_
  refine own_lmul (pc2 := 33) at_32 rfl (v := v32) hv32 ?_
  refine own_lstore (pc2 := 35) at_33 rfl (L' := (List.toArray ((.val (.int xq)) :: (.val (.int xp)) :: (.val (.int xk)) :: (.val (.int xr)) :: (.val (.long v6)) :: .second :: (.val (.long v16)) :: .second :: (.val (.long v24)) :: .second :: (.val (.long v32)) :: .second :: .unset :: .unset :: .unset :: .unset :: .unset :: .unset :: .unset :: .unset :: .unset :: .unset :: .unset :: .unset :: .unset :: .unset :: .unset :: .unset :: .unset :: .unset :: .unset :: []))) rfl ?_
  refine own_iloadN (pc2 := 36) at_35 rfl rfl ?_
  refine own_i2l (pc2 := 37) at_36 rfl (v := v36) hv36 ?_
  refine own_lstore (pc2 := 39) at_37 rfl (L' := (List.toArray ((.val (.int xq)) :: (.val (.int xp)) :: (.val (.int xk)) :: (.val (.int xr)) :: (.val (.long v6)) :: .second :: (.val (.long v16)) :: .second :: (.val (.long v24)) :: .second :: (.val (.long v32)) :: .second :: (.val (.long v36)) :: .second :: .unset :: .unset :: .unset :: .unset :: .unset :: .unset :: .unset :: .unset :: .unset :: .unset :: .unset :: .unset :: .unset :: .unset :: .unset :: .unset :: .unset :: []))) rfl ?_
  exact own_refl
theorem own_s1 (xq : Int32) (xp : Int32) (xk : Int32) (xr : Int32) (v6 : Int64) (v16 : Int64) (v24 : Int64) (v32 : Int64) (v36 : Int64) (x : Addr) (v45 : UInt64) (hv45 : (FP.l2d v6) = v45) :
    own_Go own_K0 code 42 (List.toArray ((.val (.int xq)) :: (.val (.int xp)) :: (.val (.int xk)) :: (.val (.int xr)) :: (.val (.long v6)) :: .second :: (.val (.long v16)) :: .second :: (.val (.long v24)) :: .second :: (.val (.long v32)) :: .second :: (.val (.long v36)) :: .second :: .unset :: .unset :: .unset :: .unset :: .unset :: .unset :: .unset :: .unset :: .unset :: .unset :: .unset :: .unset :: .unset :: .unset :: .unset :: .unset :: .unset :: [])) [(.ref x)] 46 (List.toArray ((.val (.int xq)) :: (.val (.int xp)) :: (.val (.int xk)) :: (.val (.int xr)) :: (.val (.long v6)) :: .second :: (.val (.long v16)) :: .second :: (.val (.long v24)) :: .second :: (.val (.long v32)) :: .second :: (.val (.long v36)) :: .second :: .unset :: .unset :: .unset :: .unset :: .unset :: .unset :: .unset :: .unset :: .unset :: .unset :: .unset :: .unset :: .unset :: .unset :: .unset :: .unset :: .unset :: [])) [(.double v45), (.ref x), (.ref x)] := by
  refine own_dup (pc2 := 43) at_42 rfl rfl ?_
  refine own_lload (pc2 := 45) at_43 rfl rfl ?_
  refine own_l2d (pc2 := 46) at_45 rfl (v := v45) hv45 ?_
  exact own_refl
theorem own_s2 (xq : Int32) (xp : Int32) (xk : Int32) (xr : Int32) (v6 : Int64) (v16 : Int64) (v24 : Int64) (v32 : Int64) (v36 : Int64) (x : Addr) (v55 : UInt64) (hv55 : (FP.l2d v36) = v55) (v58 : UInt64) (hv58 : (FP.l2d v16) = v58) (v61 : UInt64) (hv61 : (FP.l2d v32) = v61) :
    own_Go own_K0 code 49 (List.toArray ((.val (.int xq)) :: (.val (.int xp)) :: (.val (.int xk)) :: (.val (.int xr)) :: (.val (.long v6)) :: .second :: (.val (.long v16)) :: .second :: (.val (.long v24)) :: .second :: (.val (.long v32)) :: .second :: (.val (.long v36)) :: .second :: .unset :: .unset :: .unset :: .unset :: .unset :: .unset :: .unset :: .unset :: .unset :: .unset :: .unset :: .unset :: .unset :: .unset :: .unset :: .unset :: .unset :: [])) [(.ref x)] 62 (List.toArray ((.val (.int xq)) :: (.val (.int xp)) :: (.val (.int xk)) :: (.val (.int xr)) :: (.val (.long v6)) :: .second :: (.val (.long v16)) :: .second :: (.val (.long v24)) :: .second :: (.val (.long v32)) :: .second :: (.val (.long v36)) :: .second :: (.val (.ref x)) :: .unset :: .unset :: .unset :: .unset :: .unset :: .unset :: .unset :: .unset :: .unset :: .unset :: .unset :: .unset :: .unset :: .unset :: .unset :: .unset :: [])) [(.double v61), (.double v58), (.double v55), (.ref x)] := by
  refine own_astore (pc2 := 51) at_49 rfl rfl (L' := (List.toArray ((.val (.int xq)) :: (.val (.int xp)) :: (.val (.int xk)) :: (.val (.int xr)) :: (.val (.long v6)) :: .second :: (.val (.long v16)) :: .second :: (.val (.long v24)) :: .second :: (.val (.long v32)) :: .second :: (.val (.long v36)) :: .second :: (.val (.ref x)) :: .unset :: .unset :: .unset :: .unset :: .unset :: .unset :: .unset :: .unset :: .unset :: .unset :: .unset :: .unset :: .unset :: .unset :: .unset :: .unset :: []))) rfl ?_
  refine own_aload (pc2 := 53) at_51 rfl rfl rfl ?_
  refine own_lload (pc2 := 55) at_53 rfl rfl ?_
  refine own_l2d (pc2 := 56) at_55 rfl (v := v55) hv55 ?_
  refine own_lload (pc2 := 58) at_56 rfl rfl ?_
  refine own_l2d (pc2 := 59) at_58 rfl (v := v58) hv58 ?_
  refine own_lload (pc2 := 61) at_59 rfl rfl ?_
  refine own_l2d (pc2 := 62) at_61 rfl (v := v61) hv61 ?_
  exact own_refl
theorem own_s3 (xq : Int32) (xp : Int32) (xk : Int32) (xr : Int32) (v6 : Int64) (v16 : Int64) (v24 : Int64) (v32 : Int64) (v36 : Int64) (x : Addr) (y : Addr) :
    own_Go own_K0 code 65 (List.toArray ((.val (.int xq)) :: (.val (.int xp)) :: (.val (.int xk)) :: (.val (.int xr)) :: (.val (.long v6)) :: .second :: (.val (.long v16)) :: .second :: (.val (.long v24)) :: .second :: (.val (.long v32)) :: .second :: (.val (.long v36)) :: .second :: (.val (.ref x)) :: .unset :: .unset :: .unset :: .unset :: .unset :: .unset :: .unset :: .unset :: .unset :: .unset :: .unset :: .unset :: .unset :: .unset :: .unset :: .unset :: [])) [(.ref y)] 74 (List.toArray ((.val (.int xq)) :: (.val (.int xp)) :: (.val (.int xk)) :: (.val (.int xr)) :: (.val (.long v6)) :: .second :: (.val (.long v16)) :: .second :: (.val (.long v24)) :: .second :: (.val (.long v32)) :: .second :: (.val (.long v36)) :: .second :: (.val (.ref x)) :: (.val (.ref y)) :: .unset :: .unset :: .unset :: .unset :: .unset :: .unset :: .unset :: .unset :: .unset :: .unset :: .unset :: .unset :: .unset :: .unset :: .unset :: [])) [(.ref y)] := by
  refine own_astore (pc2 := 67) at_65 rfl rfl (L' := (List.toArray ((.val (.int xq)) :: (.val (.int xp)) :: (.val (.int xk)) :: (.val (.int xr)) :: (.val (.long v6)) :: .second :: (.val (.long v16)) :: .second :: (.val (.long v24)) :: .second :: (.val (.long v32)) :: .second :: (.val (.long v36)) :: .second :: (.val (.ref x)) :: (.val (.ref y)) :: .unset :: .unset :: .unset :: .unset :: .unset :: .unset :: .unset :: .unset :: .unset :: .unset :: .unset :: .unset :: .unset :: .unset :: .unset :: []))) rfl ?_
  refine own_aload (pc2 := 69) at_67 rfl rfl rfl ?_
  refine own_ifnullNo (pc2 := 72) at_69 rfl ?_
  refine own_aload (pc2 := 74) at_72 rfl rfl rfl ?_
  exact own_refl
theorem own_s4 (xq : Int32) (xp : Int32) (xk : Int32) (xr : Int32) (v6 : Int64) (v16 : Int64) (v24 : Int64) (v32 : Int64) (v36 : Int64) (x : Addr) (y : Addr) (v88 : Int64) (hv88 : ((4 : Int64) * v24) = v88) (v89 : Int64) (hv89 : (v16 + v88) = v89) (v96 : Int64) (hv96 : (v89 * v89) = v96) :
    own_Go own_K0 code 75 (List.toArray ((.val (.int xq)) :: (.val (.int xp)) :: (.val (.int xk)) :: (.val (.int xr)) :: (.val (.long v6)) :: .second :: (.val (.long v16)) :: .second :: (.val (.long v24)) :: .second :: (.val (.long v32)) :: .second :: (.val (.long v36)) :: .second :: (.val (.ref x)) :: (.val (.ref y)) :: .unset :: .unset :: .unset :: .unset :: .unset :: .unset :: .unset :: .unset :: .unset :: .unset :: .unset :: .unset :: .unset :: .unset :: .unset :: [])) [(.int (3 : Int32))] 102 (List.toArray ((.val (.int xq)) :: (.val (.int xp)) :: (.val (.int xk)) :: (.val (.int xr)) :: (.val (.long v6)) :: .second :: (.val (.long v16)) :: .second :: (.val (.long v24)) :: .second :: (.val (.long v32)) :: .second :: (.val (.long v36)) :: .second :: (.val (.ref x)) :: (.val (.ref y)) :: (.val (.long v89)) :: .second :: (.val (.long v96)) :: .second :: .unset :: .unset :: .unset :: .unset :: .unset :: .unset :: .unset :: .unset :: .unset :: .unset :: .unset :: [])) [(.int (0 : Int32)), (.ref y)] := by
  refine own_iconst (v := 3) (pc2 := 76) at_75 rfl rfl ?_
  refine own_icmpYes (pc' := 81) at_76 (by decide) (by decide) (by decide) ?_
  refine own_lload (pc2 := 83) at_81 rfl rfl ?_
  refine own_ldc2L (v := (4 : Int64)) (pc2 := 86) at_83 rfl (List.mem_of_getElem? (i := 2) rfl) ?_
  refine own_lload (pc2 := 88) at_86 rfl rfl ?_
  refine own_lmul (pc2 := 89) at_88 rfl (v := v88) hv88 ?_
  refine own_ladd (pc2 := 90) at_89 rfl (v := v89) hv89 ?_
  refine own_lstore (pc2 := 92) at_90 rfl (L' := (List.toArray ((.val (.int xq)) :: (.val (.int xp)) :: (.val (.int xk)) :: (.val (.int xr)) :: (.val (.long v6)) :: .second :: (.val (.long v16)) :: .second :: (.val (.long v24)) :: .second :: (.val (.long v32)) :: .second :: (.val (.long v36)) :: .second :: (.val (.ref x)) :: (.val (.ref y)) :: (.val (.long v89)) :: .second :: .unset :: .unset :: .unset :: .unset :: .unset :: .unset :: .unset :: .unset :: .unset :: .unset :: .unset :: .unset :: .unset :: []))) rfl ?_
  refine own_lload (pc2 := 94) at_92 rfl rfl ?_
  refine own_lload (pc2 := 96) at_94 rfl rfl ?_
  refine own_lmul (pc2 := 97) at_96 rfl (v := v96) hv96 ?_
  refine own_lstore (pc2 := 99) at_97 rfl (L' := (List.toArray ((.val (.int xq)) :: (.val (.int xp)) :: (.val (.int xk)) :: (.val (.int xr)) :: (.val (.long v6)) :: .second :: (.val (.long v16)) :: .second :: (.val (.long v24)) :: .second :: (.val (.long v32)) :: .second :: (.val (.long v36)) :: .second :: (.val (.ref x)) :: (.val (.ref y)) :: (.val (.long v89)) :: .second :: (.val (.long v96)) :: .second :: .unset :: .unset :: .unset :: .unset :: .unset :: .unset :: .unset :: .unset :: .unset :: .unset :: .unset :: []))) rfl ?_
  refine own_aload (pc2 := 101) at_99 rfl rfl rfl ?_
  refine own_iconst (v := 0) (pc2 := 102) at_101 rfl rfl ?_
  exact own_refl
theorem own_s5 (xq : Int32) (xp : Int32) (xk : Int32) (xr : Int32) (v6 : Int64) (v16 : Int64) (v24 : Int64) (v32 : Int64) (v36 : Int64) (x : Addr) (y : Addr) (v89 : Int64) (v96 : Int64) (g0 : UInt64) (v107 : Int64) (hv107 : (v6 * v89) = v107) (v112 : Int64) (hv112 : (v16 * v16) = v112) (v113 : Int64) (hv113 : (-v112) = v113) (v118 : Int64) (hv118 : (v16 * v16) = v118) :
    own_Go own_K0 code 103 (List.toArray ((.val (.int xq)) :: (.val (.int xp)) :: (.val (.int xk)) :: (.val (.int xr)) :: (.val (.long v6)) :: .second :: (.val (.long v16)) :: .second :: (.val (.long v24)) :: .second :: (.val (.long v32)) :: .second :: (.val (.long v36)) :: .second :: (.val (.ref x)) :: (.val (.ref y)) :: (.val (.long v89)) :: .second :: (.val (.long v96)) :: .second :: .unset :: .unset :: .unset :: .unset :: .unset :: .unset :: .unset :: .unset :: .unset :: .unset :: .unset :: [])) [(.double g0)] 119 (List.toArray ((.val (.int xq)) :: (.val (.int xp)) :: (.val (.int xk)) :: (.val (.int xr)) :: (.val (.long v6)) :: .second :: (.val (.long v16)) :: .second :: (.val (.long v24)) :: .second :: (.val (.long v32)) :: .second :: (.val (.long v36)) :: .second :: (.val (.ref x)) :: (.val (.ref y)) :: (.val (.long v89)) :: .second :: (.val (.long v96)) :: .second :: .unset :: .unset :: .unset :: .unset :: .unset :: .unset :: .unset :: .unset :: .unset :: .unset :: .unset :: [])) [(.long v118), (.long v113), (.long v107), (.double g0)] := by
  refine own_lload (pc2 := 105) at_103 rfl rfl ?_
  refine own_lload (pc2 := 107) at_105 rfl rfl ?_
  refine own_lmul (pc2 := 108) at_107 rfl (v := v107) hv107 ?_
  refine own_lload (pc2 := 110) at_108 rfl rfl ?_
  refine own_lload (pc2 := 112) at_110 rfl rfl ?_
  refine own_lmul (pc2 := 113) at_112 rfl (v := v112) hv112 ?_
  refine own_lneg (pc2 := 114) at_113 rfl (v := v113) hv113 ?_
  refine own_lload (pc2 := 116) at_114 rfl rfl ?_
  refine own_lload (pc2 := 118) at_116 rfl rfl ?_
  refine own_lmul (pc2 := 119) at_118 rfl (v := v118) hv118 ?_
  exact own_refl
theorem own_s6 (xq : Int32) (xp : Int32) (xk : Int32) (xr : Int32) (v6 : Int64) (v16 : Int64) (v24 : Int64) (v32 : Int64) (v36 : Int64) (x : Addr) (y : Addr) (v89 : Int64) (v96 : Int64) (v128 : Int64) (hv128 : (v6 * v96) = v128) (v135 : Int64) (hv135 : (v36 * v16) = v135) (v143 : Int64) (hv143 : ((8 : Int64) * v24) = v143) (v144 : Int64) (hv144 : (v16 + v143) = v144) (v145 : Int64) (hv145 : (v135 * v144) = v145) :
    own_Go own_K0 code 122 (List.toArray ((.val (.int xq)) :: (.val (.int xp)) :: (.val (.int xk)) :: (.val (.int xr)) :: (.val (.long v6)) :: .second :: (.val (.long v16)) :: .second :: (.val (.long v24)) :: .second :: (.val (.long v32)) :: .second :: (.val (.long v36)) :: .second :: (.val (.ref x)) :: (.val (.ref y)) :: (.val (.long v89)) :: .second :: (.val (.long v96)) :: .second :: .unset :: .unset :: .unset :: .unset :: .unset :: .unset :: .unset :: .unset :: .unset :: .unset :: .unset :: [])) [(.int (1 : Int32))] 151 (List.toArray ((.val (.int xq)) :: (.val (.int xp)) :: (.val (.int xk)) :: (.val (.int xr)) :: (.val (.long v6)) :: .second :: (.val (.long v16)) :: .second :: (.val (.long v24)) :: .second :: (.val (.long v32)) :: .second :: (.val (.long v36)) :: .second :: (.val (.ref x)) :: (.val (.ref y)) :: (.val (.long v89)) :: .second :: (.val (.long v96)) :: .second :: (.val (.int (1 : Int32))) :: (.val (.long v128)) :: .second :: (.val (.long v145)) :: .second :: .unset :: .unset :: .unset :: .unset :: .unset :: .unset :: [])) [(.int (1 : Int32)), (.ref y)] := by
  refine own_istore (pc2 := 124) at_122 rfl (L' := (List.toArray ((.val (.int xq)) :: (.val (.int xp)) :: (.val (.int xk)) :: (.val (.int xr)) :: (.val (.long v6)) :: .second :: (.val (.long v16)) :: .second :: (.val (.long v24)) :: .second :: (.val (.long v32)) :: .second :: (.val (.long v36)) :: .second :: (.val (.ref x)) :: (.val (.ref y)) :: (.val (.long v89)) :: .second :: (.val (.long v96)) :: .second :: (.val (.int (1 : Int32))) :: .unset :: .unset :: .unset :: .unset :: .unset :: .unset :: .unset :: .unset :: .unset :: .unset :: []))) rfl ?_
  refine own_lload (pc2 := 126) at_124 rfl rfl ?_
  refine own_lload (pc2 := 128) at_126 rfl rfl ?_
  refine own_lmul (pc2 := 129) at_128 rfl (v := v128) hv128 ?_
  refine own_lstore (pc2 := 131) at_129 rfl (L' := (List.toArray ((.val (.int xq)) :: (.val (.int xp)) :: (.val (.int xk)) :: (.val (.int xr)) :: (.val (.long v6)) :: .second :: (.val (.long v16)) :: .second :: (.val (.long v24)) :: .second :: (.val (.long v32)) :: .second :: (.val (.long v36)) :: .second :: (.val (.ref x)) :: (.val (.ref y)) :: (.val (.long v89)) :: .second :: (.val (.long v96)) :: .second :: (.val (.int (1 : Int32))) :: (.val (.long v128)) :: .second :: .unset :: .unset :: .unset :: .unset :: .unset :: .unset :: .unset :: .unset :: []))) rfl ?_
  refine own_lload (pc2 := 133) at_131 rfl rfl ?_
  refine own_lload (pc2 := 135) at_133 rfl rfl ?_
  refine own_lmul (pc2 := 136) at_135 rfl (v := v135) hv135 ?_
  refine own_lload (pc2 := 138) at_136 rfl rfl ?_
  refine own_ldc2L (v := (8 : Int64)) (pc2 := 141) at_138 rfl (List.mem_of_getElem? (i := 4) rfl) ?_
  refine own_lload (pc2 := 143) at_141 rfl rfl ?_
  refine own_lmul (pc2 := 144) at_143 rfl (v := v143) hv143 ?_
  refine own_ladd (pc2 := 145) at_144 rfl (v := v144) hv144 ?_
  refine own_lmul (pc2 := 146) at_145 rfl (v := v145) hv145 ?_
  refine own_lstore (pc2 := 148) at_146 rfl (L' := (List.toArray ((.val (.int xq)) :: (.val (.int xp)) :: (.val (.int xk)) :: (.val (.int xr)) :: (.val (.long v6)) :: .second :: (.val (.long v16)) :: .second :: (.val (.long v24)) :: .second :: (.val (.long v32)) :: .second :: (.val (.long v36)) :: .second :: (.val (.ref x)) :: (.val (.ref y)) :: (.val (.long v89)) :: .second :: (.val (.long v96)) :: .second :: (.val (.int (1 : Int32))) :: (.val (.long v128)) :: .second :: (.val (.long v145)) :: .second :: .unset :: .unset :: .unset :: .unset :: .unset :: .unset :: []))) rfl ?_
  refine own_aload (pc2 := 150) at_148 rfl rfl rfl ?_
  refine own_iconst (v := 1) (pc2 := 151) at_150 rfl rfl ?_
  exact own_refl
theorem own_s7 (xq : Int32) (xp : Int32) (xk : Int32) (xr : Int32) (v6 : Int64) (v16 : Int64) (v24 : Int64) (v32 : Int64) (v36 : Int64) (x : Addr) (y : Addr) (v89 : Int64) (v96 : Int64) (v128 : Int64) (v145 : Int64) (g1 : UInt64) (v158 : Int64) (hv158 : (v128 - v145) = v158) :
    own_Go own_K0 code 152 (List.toArray ((.val (.int xq)) :: (.val (.int xp)) :: (.val (.int xk)) :: (.val (.int xr)) :: (.val (.long v6)) :: .second :: (.val (.long v16)) :: .second :: (.val (.long v24)) :: .second :: (.val (.long v32)) :: .second :: (.val (.long v36)) :: .second :: (.val (.ref x)) :: (.val (.ref y)) :: (.val (.long v89)) :: .second :: (.val (.long v96)) :: .second :: (.val (.int (1 : Int32))) :: (.val (.long v128)) :: .second :: (.val (.long v145)) :: .second :: .unset :: .unset :: .unset :: .unset :: .unset :: .unset :: [])) [(.double g1)] 163 (List.toArray ((.val (.int xq)) :: (.val (.int xp)) :: (.val (.int xk)) :: (.val (.int xr)) :: (.val (.long v6)) :: .second :: (.val (.long v16)) :: .second :: (.val (.long v24)) :: .second :: (.val (.long v32)) :: .second :: (.val (.long v36)) :: .second :: (.val (.ref x)) :: (.val (.ref y)) :: (.val (.long v89)) :: .second :: (.val (.long v96)) :: .second :: (.val (.int (1 : Int32))) :: (.val (.long v128)) :: .second :: (.val (.long v145)) :: .second :: .unset :: .unset :: .unset :: .unset :: .unset :: .unset :: [])) [(.long v145), (.long v128), (.long v158), (.long v128), (.double g1)] := by
  refine own_lload (pc2 := 154) at_152 rfl rfl ?_
  refine own_lload (pc2 := 156) at_154 rfl rfl ?_
  refine own_lload (pc2 := 158) at_156 rfl rfl ?_
  refine own_lsub (pc2 := 159) at_158 rfl (v := v158) hv158 ?_
  refine own_lload (pc2 := 161) at_159 rfl rfl ?_
  refine own_lload (pc2 := 163) at_161 rfl rfl ?_
  exact own_refl
theorem own_s8 (xq : Int32) (xp : Int32) (xk : Int32) (xr : Int32) (v6 : Int64) (v16 : Int64) (v24 : Int64) (v32 : Int64) (v36 : Int64) (x : Addr) (y : Addr) (v89 : Int64) (v96 : Int64) (v128 : Int64) (v145 : Int64) (ab1 : Int64) (v158 : Int64) (g1 : UInt64) (v166 : Int64) (hv166 : (v128 + ab1) = v166) :
    own_Go own_K0 code 166 (List.toArray ((.val (.int xq)) :: (.val (.int xp)) :: (.val (.int xk)) :: (.val (.int xr)) :: (.val (.long v6)) :: .second :: (.val (.long v16)) :: .second :: (.val (.long v24)) :: .second :: (.val (.long v32)) :: .second :: (.val (.long v36)) :: .second :: (.val (.ref x)) :: (.val (.ref y)) :: (.val (.long v89)) :: .second :: (.val (.long v96)) :: .second :: (.val (.int (1 : Int32))) :: (.val (.long v128)) :: .second :: (.val (.long v145)) :: .second :: .unset :: .unset :: .unset :: .unset :: .unset :: .unset :: [])) [(.long ab1), (.long v128), (.long v158), (.long v128), (.double g1)] 167 (List.toArray ((.val (.int xq)) :: (.val (.int xp)) :: (.val (.int xk)) :: (.val (.int xr)) :: (.val (.long v6)) :: .second :: (.val (.long v16)) :: .second :: (.val (.long v24)) :: .second :: (.val (.long v32)) :: .second :: (.val (.long v36)) :: .second :: (.val (.ref x)) :: (.val (.ref y)) :: (.val (.long v89)) :: .second :: (.val (.long v96)) :: .second :: (.val (.int (1 : Int32))) :: (.val (.long v128)) :: .second :: (.val (.long v145)) :: .second :: .unset :: .unset :: .unset :: .unset :: .unset :: .unset :: [])) [(.long v166), (.long v158), (.long v128), (.double g1)] := by
  refine own_ladd (pc2 := 167) at_166 rfl (v := v166) hv166 ?_
  exact own_refl
theorem own_s9 (xq : Int32) (xp : Int32) (xk : Int32) (xr : Int32) (v6 : Int64) (v16 : Int64) (v24 : Int64) (v32 : Int64) (v36 : Int64) (x : Addr) (y : Addr) (v89 : Int64) (v96 : Int64) (v128 : Int64) (v145 : Int64) (v177 : Int64) (hv177 : ((5 : Int64) * v6) = v177) (v180 : Int64) (hv180 : (v177 * v96) = v180) (v188 : Int64) (hv188 : ((4 : Int64) * v36) = v188) (v191 : Int64) (hv191 : (v188 * v16) = v191) (v194 : Int64) (hv194 : (v191 * v16) = v194) :
    own_Go own_K0 code 170 (List.toArray ((.val (.int xq)) :: (.val (.int xp)) :: (.val (.int xk)) :: (.val (.int xr)) :: (.val (.long v6)) :: .second :: (.val (.long v16)) :: .second :: (.val (.long v24)) :: .second :: (.val (.long v32)) :: .second :: (.val (.long v36)) :: .second :: (.val (.ref x)) :: (.val (.ref y)) :: (.val (.long v89)) :: .second :: (.val (.long v96)) :: .second :: (.val (.int (1 : Int32))) :: (.val (.long v128)) :: .second :: (.val (.long v145)) :: .second :: .unset :: .unset :: .unset :: .unset :: .unset :: .unset :: [])) [(.int (1 : Int32))] 200 (List.toArray ((.val (.int xq)) :: (.val (.int xp)) :: (.val (.int xk)) :: (.val (.int xr)) :: (.val (.long v6)) :: .second :: (.val (.long v16)) :: .second :: (.val (.long v24)) :: .second :: (.val (.long v32)) :: .second :: (.val (.long v36)) :: .second :: (.val (.ref x)) :: (.val (.ref y)) :: (.val (.long v89)) :: .second :: (.val (.long v96)) :: .second :: (.val (.int (1 : Int32))) :: (.val (.long v128)) :: .second :: (.val (.long v145)) :: .second :: (.val (.int (1 : Int32))) :: (.val (.long v180)) :: .second :: (.val (.long v194)) :: .second :: .unset :: [])) [(.int (2 : Int32)), (.ref y)] := by
  refine own_istore (pc2 := 172) at_170 rfl (L' := (List.toArray ((.val (.int xq)) :: (.val (.int xp)) :: (.val (.int xk)) :: (.val (.int xr)) :: (.val (.long v6)) :: .second :: (.val (.long v16)) :: .second :: (.val (.long v24)) :: .second :: (.val (.long v32)) :: .second :: (.val (.long v36)) :: .second :: (.val (.ref x)) :: (.val (.ref y)) :: (.val (.long v89)) :: .second :: (.val (.long v96)) :: .second :: (.val (.int (1 : Int32))) :: (.val (.long v128)) :: .second :: (.val (.long v145)) :: .second :: (.val (.int (1 : Int32))) :: .unset :: .unset :: .unset :: .unset :: .unset :: []))) rfl ?_
  refine own_ldc2L (v := (5 : Int64)) (pc2 := 175) at_172 rfl (List.mem_of_getElem? (i := 1) rfl) ?_
  refine own_lload (pc2 := 177) at_175 rfl rfl ?_
  refine own_lmul (pc2 := 178) at_177 rfl (v := v177) hv177 ?_
  refine own_lload (pc2 := 180) at_178 rfl rfl ?_
  refine own_lmul (pc2 := 181) at_180 rfl (v := v180) hv180 ?_
  refine own_lstore (pc2 := 183) at_181 rfl (L' := (List.toArray ((.val (.int xq)) :: (.val (.int xp)) :: (.val (.int xk)) :: (.val (.int xr)) :: (.val (.long v6)) :: .second :: (.val (.long v16)) :: .second :: (.val (.long v24)) :: .second :: (.val (.long v32)) :: .second :: (.val (.long v36)) :: .second :: (.val (.ref x)) :: (.val (.ref y)) :: (.val (.long v89)) :: .second :: (.val (.long v96)) :: .second :: (.val (.int (1 : Int32))) :: (.val (.long v128)) :: .second :: (.val (.long v145)) :: .second :: (.val (.int (1 : Int32))) :: (.val (.long v180)) :: .second :: .unset :: .unset :: .unset :: []))) rfl ?_
  refine own_ldc2L (v := (4 : Int64)) (pc2 := 186) at_183 rfl (List.mem_of_getElem? (i := 2) rfl) ?_
  refine own_lload (pc2 := 188) at_186 rfl rfl ?_
  refine own_lmul (pc2 := 189) at_188 rfl (v := v188) hv188 ?_
  refine own_lload (pc2 := 191) at_189 rfl rfl ?_
  refine own_lmul (pc2 := 192) at_191 rfl (v := v191) hv191 ?_
  refine own_lload (pc2 := 194) at_192 rfl rfl ?_
  refine own_lmul (pc2 := 195) at_194 rfl (v := v194) hv194 ?_
  refine own_lstore (pc2 := 197) at_195 rfl (L' := (List.toArray ((.val (.int xq)) :: (.val (.int xp)) :: (.val (.int xk)) :: (.val (.int xr)) :: (.val (.long v6)) :: .second :: (.val (.long v16)) :: .second :: (.val (.long v24)) :: .second :: (.val (.long v32)) :: .second :: (.val (.long v36)) :: .second :: (.val (.ref x)) :: (.val (.ref y)) :: (.val (.long v89)) :: .second :: (.val (.long v96)) :: .second :: (.val (.int (1 : Int32))) :: (.val (.long v128)) :: .second :: (.val (.long v145)) :: .second :: (.val (.int (1 : Int32))) :: (.val (.long v180)) :: .second :: (.val (.long v194)) :: .second :: .unset :: []))) rfl ?_
  refine own_aload (pc2 := 199) at_197 rfl rfl rfl ?_
  refine own_iconst (v := 2) (pc2 := 200) at_199 rfl rfl ?_
  exact own_refl
theorem own_s10 (xq : Int32) (xp : Int32) (xk : Int32) (xr : Int32) (v6 : Int64) (v16 : Int64) (v24 : Int64) (v32 : Int64) (v36 : Int64) (x : Addr) (y : Addr) (v89 : Int64) (v96 : Int64) (v128 : Int64) (v145 : Int64) (v180 : Int64) (v194 : Int64) (g2 : UInt64) (v207 : Int64) (hv207 : (v194 - v180) = v207) :
    own_Go own_K0 code 201 (List.toArray ((.val (.int xq)) :: (.val (.int xp)) :: (.val (.int xk)) :: (.val (.int xr)) :: (.val (.long v6)) :: .second :: (.val (.long v16)) :: .second :: (.val (.long v24)) :: .second :: (.val (.long v32)) :: .second :: (.val (.long v36)) :: .second :: (.val (.ref x)) :: (.val (.ref y)) :: (.val (.long v89)) :: .second :: (.val (.long v96)) :: .second :: (.val (.int (1 : Int32))) :: (.val (.long v128)) :: .second :: (.val (.long v145)) :: .second :: (.val (.int (1 : Int32))) :: (.val (.long v180)) :: .second :: (.val (.long v194)) :: .second :: .unset :: [])) [(.double g2)] 212 (List.toArray ((.val (.int xq)) :: (.val (.int xp)) :: (.val (.int xk)) :: (.val (.int xr)) :: (.val (.long v6)) :: .second :: (.val (.long v16)) :: .second :: (.val (.long v24)) :: .second :: (.val (.long v32)) :: .second :: (.val (.long v36)) :: .second :: (.val (.ref x)) :: (.val (.ref y)) :: (.val (.long v89)) :: .second :: (.val (.long v96)) :: .second :: (.val (.int (1 : Int32))) :: (.val (.long v128)) :: .second :: (.val (.long v145)) :: .second :: (.val (.int (1 : Int32))) :: (.val (.long v180)) :: .second :: (.val (.long v194)) :: .second :: .unset :: [])) [(.long v194), (.long v180), (.long v207), (.long v180), (.double g2)] := by
  refine own_lload (pc2 := 203) at_201 rfl rfl ?_
  refine own_lload (pc2 := 205) at_203 rfl rfl ?_
  refine own_lload (pc2 := 207) at_205 rfl rfl ?_
  refine own_lsub (pc2 := 208) at_207 rfl (v := v207) hv207 ?_
  refine own_lload (pc2 := 210) at_208 rfl rfl ?_
  refine own_lload (pc2 := 212) at_210 rfl rfl ?_
  exact own_refl
theorem own_s11 (xq : Int32) (xp : Int32) (xk : Int32) (xr : Int32) (v6 : Int64) (v16 : Int64) (v24 : Int64) (v32 : Int64) (v36 : Int64) (x : Addr) (y : Addr) (v89 : Int64) (v96 : Int64) (v128 : Int64) (v145 : Int64) (v180 : Int64) (v194 : Int64) (ab2 : Int64) (v207 : Int64) (g2 : UInt64) (v215 : Int64) (hv215 : (v180 + ab2) = v215) :
    own_Go own_K0 code 215 (List.toArray ((.val (.int xq)) :: (.val (.int xp)) :: (.val (.int xk)) :: (.val (.int xr)) :: (.val (.long v6)) :: .second :: (.val (.long v16)) :: .second :: (.val (.long v24)) :: .second :: (.val (.long v32)) :: .second :: (.val (.long v36)) :: .second :: (.val (.ref x)) :: (.val (.ref y)) :: (.val (.long v89)) :: .second :: (.val (.long v96)) :: .second :: (.val (.int (1 : Int32))) :: (.val (.long v128)) :: .second :: (.val (.long v145)) :: .second :: (.val (.int (1 : Int32))) :: (.val (.long v180)) :: .second :: (.val (.long v194)) :: .second :: .unset :: [])) [(.long ab2), (.long v180), (.long v207), (.long v180), (.double g2)] 216 (List.toArray ((.val (.int xq)) :: (.val (.int xp)) :: (.val (.int xk)) :: (.val (.int xr)) :: (.val (.long v6)) :: .second :: (.val (.long v16)) :: .second :: (.val (.long v24)) :: .second :: (.val (.long v32)) :: .second :: (.val (.long v36)) :: .second :: (.val (.ref x)) :: (.val (.ref y)) :: (.val (.long v89)) :: .second :: (.val (.long v96)) :: .second :: (.val (.int (1 : Int32))) :: (.val (.long v128)) :: .second :: (.val (.long v145)) :: .second :: (.val (.int (1 : Int32))) :: (.val (.long v180)) :: .second :: (.val (.long v194)) :: .second :: .unset :: [])) [(.long v215), (.long v207), (.long v180), (.double g2)] := by
  refine own_ladd (pc2 := 216) at_215 rfl (v := v215) hv215 ?_
  exact own_refl
theorem own_s12 (xq : Int32) (xp : Int32) (xk : Int32) (xr : Int32) (v6 : Int64) (v16 : Int64) (v24 : Int64) (v32 : Int64) (v36 : Int64) (x : Addr) (y : Addr) (v89 : Int64) (v96 : Int64) (v128 : Int64) (v145 : Int64) (v180 : Int64) (v194 : Int64) :
    own_Go own_K0 code 219 (List.toArray ((.val (.int xq)) :: (.val (.int xp)) :: (.val (.int xk)) :: (.val (.int xr)) :: (.val (.long v6)) :: .second :: (.val (.long v16)) :: .second :: (.val (.long v24)) :: .second :: (.val (.long v32)) :: .second :: (.val (.long v36)) :: .second :: (.val (.ref x)) :: (.val (.ref y)) :: (.val (.long v89)) :: .second :: (.val (.long v96)) :: .second :: (.val (.int (1 : Int32))) :: (.val (.long v128)) :: .second :: (.val (.long v145)) :: .second :: (.val (.int (1 : Int32))) :: (.val (.long v180)) :: .second :: (.val (.long v194)) :: .second :: .unset :: [])) [(.int (1 : Int32))] 241 (List.toArray ((.val (.int xq)) :: (.val (.int xp)) :: (.val (.int xk)) :: (.val (.int xr)) :: (.val (.long v6)) :: .second :: (.val (.long v16)) :: .second :: (.val (.long v24)) :: .second :: (.val (.long v32)) :: .second :: (.val (.long v36)) :: .second :: (.val (.ref x)) :: (.val (.ref y)) :: (.val (.long v89)) :: .second :: (.val (.long v96)) :: .second :: (.val (.int (1 : Int32))) :: (.val (.long v128)) :: .second :: (.val (.long v145)) :: .second :: (.val (.int (1 : Int32))) :: (.val (.long v180)) :: .second :: (.val (.long v194)) :: .second :: (.val (.int (1 : Int32))) :: [])) [(.int (1 : Int32))] := by
  refine own_istore (pc2 := 221) at_219 rfl (L' := (List.toArray ((.val (.int xq)) :: (.val (.int xp)) :: (.val (.int xk)) :: (.val (.int xr)) :: (.val (.long v6)) :: .second :: (.val (.long v16)) :: .second :: (.val (.long v24)) :: .second :: (.val (.long v32)) :: .second :: (.val (.long v36)) :: .second :: (.val (.ref x)) :: (.val (.ref y)) :: (.val (.long v89)) :: .second :: (.val (.long v96)) :: .second :: (.val (.int (1 : Int32))) :: (.val (.long v128)) :: .second :: (.val (.long v145)) :: .second :: (.val (.int (1 : Int32))) :: (.val (.long v180)) :: .second :: (.val (.long v194)) :: .second :: (.val (.int (1 : Int32))) :: []))) rfl ?_
  refine own_iload (pc2 := 223) at_221 rfl rfl ?_
  refine own_ifNo (pc2 := 226) at_223 rfl (by decide) ?_
  refine own_iload (pc2 := 228) at_226 rfl rfl ?_
  refine own_ifNo (pc2 := 231) at_228 rfl (by decide) ?_
  refine own_iload (pc2 := 233) at_231 rfl rfl ?_
  refine own_ifNo (pc2 := 236) at_233 rfl (by decide) ?_
  refine own_iconst (v := 1) (pc2 := 237) at_236 rfl rfl ?_
  refine own_goto (pc' := 241) at_237 (by decide) (by decide) ?_
  exact own_refl
set_option maxRecDepth 65536 in
set_option maxHeartbeats 40000000 in
theorem own_law (l : Launch) (Z : State) (a0 : Array Value) (hb0 : own_Base) (hw : ∀ d ∈ tables_1, d.before a0 Z = true) (xq : Int32) (xp : Int32) (xk : Int32) (xr : Int32) :
    own_Met l Z a0 hb0 x code maxLocals ret tables_1 room_1 #[(.int xq), (.int xp), (.int xk), (.int xr)] [] (fun v _ => v = some (.int 1)) := by
  refine own_met_of (L0 := (List.toArray ((.val (.int xq)) :: (.val (.int xp)) :: (.val (.int xk)) :: (.val (.int xr)) :: .unset :: .unset :: .unset :: .unset :: .unset :: .unset :: .unset :: .unset :: .unset :: .unset :: .unset :: .unset :: .unset :: .unset :: .unset :: .unset :: .unset :: .unset :: .unset :: .unset :: .unset :: .unset :: .unset :: .unset :: .unset :: .unset :: .unset :: []))) (plainFor_of_name own_pn0) (fun m => own_ef0 m xq xp xk xr) ?_
  intro p e s m below meth c T0 hx hZ hown hby hml hnm H0
  have hown : s.vm.findClass "com/example/beanflow/beanflow/VogelInflowGradientPinLaw" = some m.cls := hown
  have hml : c.maxLocals = 31 := hml
  obtain ⟨v3, hv3⟩ : ∃ z : Int32, (xq &&& (65535 : Int32)) = z := ⟨_, rfl⟩
  obtain ⟨v5, hv5⟩ : ∃ z : Int32, (v3 + (1 : Int32)) = z := ⟨_, rfl⟩
  obtain ⟨v6, hv6⟩ : ∃ z : Int64, v5.toInt64 = z := ⟨_, rfl⟩
  obtain ⟨v13, hv13⟩ : ∃ z : Int32, (xp &&& (4095 : Int32)) = z := ⟨_, rfl⟩
  obtain ⟨v15, hv15⟩ : ∃ z : Int32, (v13 + (1 : Int32)) = z := ⟨_, rfl⟩
  obtain ⟨v16, hv16⟩ : ∃ z : Int64, v15.toInt64 = z := ⟨_, rfl⟩
  obtain ⟨v23, hv23⟩ : ∃ z : Int32, (xk &&& (1023 : Int32)) = z := ⟨_, rfl⟩
  obtain ⟨v24, hv24⟩ : ∃ z : Int64, v23.toInt64 = z := ⟨_, rfl⟩
  obtain ⟨v32, hv32⟩ : ∃ z : Int64, ((5 : Int64) * v24) = z := ⟨_, rfl⟩
  obtain ⟨v36, hv36⟩ : ∃ z : Int64, xr.toInt64 = z := ⟨_, rfl⟩
  obtain ⟨Ts1, x, Hs1, sts1⟩ := own_newO H0 hx hZ hown (hw _ (List.mem_of_getElem? (i := 2) rfl)) (hw _ (List.mem_of_getElem? (i := 3) rfl)) (hw _ (List.mem_of_getElem? (i := 4) rfl)) [("com/example/beanflow/beanflow/VogelInflow", "qmaxKgS", "D", .double 0)] (by intro f hf; cases List.mem_singleton.mp hf; exact ⟨Or.inr (hw _ (List.mem_of_getElem? (i := 17) rfl)), .double, by decide, rfl⟩) (by decide) (g := (mkF m 39 (List.toArray ((.val (.int xq)) :: (.val (.int xp)) :: (.val (.int xk)) :: (.val (.int xr)) :: (.val (.long v6)) :: .second :: (.val (.long v16)) :: .second :: (.val (.long v24)) :: .second :: (.val (.long v32)) :: .second :: (.val (.long v36)) :: .second :: .unset :: .unset :: .unset :: .unset :: .unset :: .unset :: .unset :: .unset :: .unset :: .unset :: .unset :: .unset :: .unset :: .unset :: .unset :: .unset :: .unset :: [])) [])) rfl (hb hby at_39) (by decide) (by decide)
  change own_S _ _ _ _ _ _ _ _ _ _ _ _ _ _ [(x, own_O "com/example/beanflow/beanflow/VogelInflow" [("com/example/beanflow/beanflow/VogelInflow", "qmaxKgS", "D", .double 0)])] _ _ at Hs1
  obtain ⟨v45, hv45⟩ : ∃ z : UInt64, (FP.l2d v6) = z := ⟨_, rfl⟩
  have bq : 1 ≤ v5.toInt ∧ v5.toInt ≤ 65536 := by
    have h := c_mask xq 65535 16 (by decide) (by decide)
    have h2 := c_iadd v3 1
    have := rng32 v5
    rw [hv3] at h
    rw [hv5, show (1 : Int32).toInt = 1 from rfl] at h2
    omega
  have bp : 1 ≤ v15.toInt ∧ v15.toInt ≤ 4096 := by
    have h := c_mask xp 4095 12 (by decide) (by decide)
    have h2 := c_iadd v13 1
    have := rng32 v15
    rw [hv13] at h
    rw [hv15, show (1 : Int32).toInt = 1 from rfl] at h2
    omega
  have bk : 0 ≤ v23.toInt ∧ v23.toInt ≤ 1023 := by
    have h := c_mask xk 1023 10 (by decide) (by decide)
    rw [hv23] at h
    omega
  have br := rng32 xr
  have ev6 : v6.toInt = v5.toInt := by rw [← hv6]; exact c_i2l _
  have ev16 : v16.toInt = v15.toInt := by rw [← hv16]; exact c_i2l _
  have ev24 : v24.toInt = v23.toInt := by rw [← hv24]; exact c_i2l _
  have ev36 : v36.toInt = xr.toInt := by rw [← hv36]; exact c_i2l _
  have e32 : v32.toInt = 5 * v24.toInt := by rw [← hv32]; exact own_lm (X := 5) (Y := 1023) rfl rfl (by decide) (by omega) (by decide)
  have iq : own_is v45 ((v6.toInt : Int) : Rat) := by rw [← hv45]; exact own_rd_small (own_rdL v6) (by omega)
  obtain ⟨Ts2, vs2_, css2_, qs2, Hs2, sts2⟩ := own_callI Hs1 hx hZ hown rfl (hw _ (List.mem_of_getElem? (i := 5) rfl)) (hw _ (List.mem_of_getElem? (i := 6) rfl)) (hw _ (List.mem_of_getElem? (i := 4) rfl)) (hw _ (List.mem_of_getElem? (i := 7) rfl)) (by decide) (x := x) (argsL := [(.double v45)]) (rest := [(.ref x)]) (W := 1) (own_init l Z a0 hb0 hw x v45) (by decide) (by decide) (by decide) (by decide) (g := (mkF m 46 (List.toArray ((.val (.int xq)) :: (.val (.int xp)) :: (.val (.int xk)) :: (.val (.int xr)) :: (.val (.long v6)) :: .second :: (.val (.long v16)) :: .second :: (.val (.long v24)) :: .second :: (.val (.long v32)) :: .second :: (.val (.long v36)) :: .second :: .unset :: .unset :: .unset :: .unset :: .unset :: .unset :: .unset :: .unset :: .unset :: .unset :: .unset :: .unset :: .unset :: .unset :: .unset :: .unset :: .unset :: [])) [(.double v45), (.ref x), (.ref x)])) rfl (by rw [hml]; rfl) (lenOf own_pd1 rfl) rfl (by show 2 * 0 + _ ≤ _; exact Nat.le_of_eq rfl) (hb hby at_46)
  obtain ⟨rfl, rfl⟩ := qs2
  change own_S _ _ _ _ _ _ _ _ _ _ _ _ _ _ [(x, own_O "com/example/beanflow/beanflow/VogelInflow" [("com/example/beanflow/beanflow/VogelInflow", "qmaxKgS", "D", .double v45)])] _ _ at Hs2
  obtain ⟨v55, hv55⟩ : ∃ z : UInt64, (FP.l2d v36) = z := ⟨_, rfl⟩
  obtain ⟨v58, hv58⟩ : ∃ z : UInt64, (FP.l2d v16) = z := ⟨_, rfl⟩
  obtain ⟨v61, hv61⟩ : ∃ z : UInt64, (FP.l2d v32) = z := ⟨_, rfl⟩
  have ir : own_is v55 ((v36.toInt : Int) : Rat) := by rw [← hv55]; exact own_rd_small (own_rdL v36) (by omega)
  have ip : own_is v58 ((v16.toInt : Int) : Rat) := by rw [← hv58]; exact own_rd_small (own_rdL v16) (by omega)
  have it : own_is v61 (5 * ((v24.toInt : Int) : Rat)) := by
    have h : own_is v61 ((v32.toInt : Int) : Rat) := by rw [← hv61]; exact own_rd_small (own_rdL v32) (by omega)
    rw [e32, Rat.intCast_mul] at h
    exact h
  have kb : own_rb ((v24.toInt : Int) : Rat) 1 1023 := own_rbi (b := 1023) (by omega) (by omega)
  have rb : own_rb ((v36.toInt : Int) : Rat) 1 2147483648 := own_rbi (b := 2147483648) (by omega) (by omega)
  have R1 : ((v36.toInt : Int) : Rat) ≤ (((v36.toInt.natAbs : Nat) : Int) : Rat) := own_cle (by omega)
  have R2 : -(((v36.toInt.natAbs : Nat) : Int) : Rat) ≤ ((v36.toInt : Int) : Rat) := by rw [← Rat.intCast_neg]; exact own_cle (by omega)
  have R3 : (((v36.toInt.natAbs : Nat) : Int) : Rat) ≤ 2147483648 := own_cle (b := 2147483648) (by omega)
  obtain ⟨Ts3, vs3_, css3_, qs3, Hs3, sts3⟩ := own_callV Hs2 hx hZ hown (hw _ (List.mem_of_getElem? (i := 18) rfl)) (hw _ (List.mem_of_getElem? (i := 19) rfl)) (hw _ (List.mem_of_getElem? (i := 21) rfl)) (hw _ (List.mem_of_getElem? (i := 20) rfl)) (hw _ (List.mem_of_getElem? (i := 4) rfl)) (hw _ (List.mem_of_getElem? (i := 22) rfl)) (by decide) (x := x) 0 rfl (argsL := [(.double v55), (.double v58), (.double v61)]) (rest := []) (W := 0) (own_grad l Z a0 hb0 hw x v55 v58 v61 v45 _ _ _ _ _ iq ir ip it (own_cle (a := 1) (by omega)) (own_cle (b := 65536) (by omega)) rb (own_cle (a := 1) (by omega)) (own_cle (b := 4096) (by omega)) kb (own_cle (a := 0) (by omega)) R1 R2 R3) (by decide) (by decide) (by decide) (by decide) (g := (mkF m 62 (List.toArray ((.val (.int xq)) :: (.val (.int xp)) :: (.val (.int xk)) :: (.val (.int xr)) :: (.val (.long v6)) :: .second :: (.val (.long v16)) :: .second :: (.val (.long v24)) :: .second :: (.val (.long v32)) :: .second :: (.val (.long v36)) :: .second :: (.val (.ref x)) :: .unset :: .unset :: .unset :: .unset :: .unset :: .unset :: .unset :: .unset :: .unset :: .unset :: .unset :: .unset :: .unset :: .unset :: .unset :: .unset :: [])) [(.double v61), (.double v58), (.double v55), (.ref x)])) rfl (by rw [hml]; rfl) (lenOf own_pd2 rfl) rfl (by show 2 * 0 + _ ≤ _; exact Nat.le_of_eq rfl) (hb hby at_62)
  obtain ⟨y, g0, g1, g2, N0, N1, N2, rfl, rfl⟩ := qs3
  change own_S _ _ _ _ _ _ _ _ _ _ _ _ _ _ [(x, own_O "com/example/beanflow/beanflow/VogelInflow" [("com/example/beanflow/beanflow/VogelInflow", "qmaxKgS", "D", .double v45)]), (y, own_A .double [.double g0, .double g1, .double g2])] _ _ at Hs3
  obtain ⟨v88, hv88⟩ : ∃ z : Int64, ((4 : Int64) * v24) = z := ⟨_, rfl⟩
  obtain ⟨v89, hv89⟩ : ∃ z : Int64, (v16 + v88) = z := ⟨_, rfl⟩
  obtain ⟨v96, hv96⟩ : ∃ z : Int64, (v89 * v89) = z := ⟨_, rfl⟩
  obtain ⟨v107, hv107⟩ : ∃ z : Int64, (v6 * v89) = z := ⟨_, rfl⟩
  obtain ⟨v112, hv112⟩ : ∃ z : Int64, (v16 * v16) = z := ⟨_, rfl⟩
  obtain ⟨v113, hv113⟩ : ∃ z : Int64, (-v112) = z := ⟨_, rfl⟩
  obtain ⟨v118, hv118⟩ : ∃ z : Int64, (v16 * v16) = z := ⟨_, rfl⟩
  have bq' : 1 ≤ v6.toInt ∧ v6.toInt ≤ 65536 := by omega
  have bp' : 1 ≤ v16.toInt ∧ v16.toInt ≤ 4096 := by omega
  have bk' : 0 ≤ v24.toInt ∧ v24.toInt ≤ 1023 := by omega
  have br' : -2147483648 ≤ v36.toInt ∧ v36.toInt < 2147483648 := by omega
  have P0 := own_L0 bq' bp' bk' br' hv88 hv89 hv96 hv107 hv112 hv113 hv118
  obtain ⟨Ts6, vs6_, css6_, qs6, Hs6, sts6⟩ := own_callS Hs3 hx hZ hown (hw _ (List.mem_of_getElem? (i := 28) rfl)) (hw _ (List.mem_of_getElem? (i := 29) rfl)) (hw _ (List.mem_of_getElem? (i := 30) rfl)) (hw _ (List.mem_of_getElem? (i := 31) rfl)) (by decide) (argsL := [(.double g0), (.long v107), (.long v113), (.long v118)]) (rest := []) (W := 0) (own_near_ l Z a0 hb0 hw g0 v107 v113 v118 _ _ _ N0 P0.1 P0.2.1 P0.2.2.1 P0.2.2.2.1 P0.2.2.2.2.1 P0.2.2.2.2.2.1 P0.2.2.2.2.2.2.1 P0.2.2.2.2.2.2.2) (by decide) (by decide) (by decide) (by decide) (g := (mkF m 119 (List.toArray ((.val (.int xq)) :: (.val (.int xp)) :: (.val (.int xk)) :: (.val (.int xr)) :: (.val (.long v6)) :: .second :: (.val (.long v16)) :: .second :: (.val (.long v24)) :: .second :: (.val (.long v32)) :: .second :: (.val (.long v36)) :: .second :: (.val (.ref x)) :: (.val (.ref y)) :: (.val (.long v89)) :: .second :: (.val (.long v96)) :: .second :: .unset :: .unset :: .unset :: .unset :: .unset :: .unset :: .unset :: .unset :: .unset :: .unset :: .unset :: [])) [(.long v118), (.long v113), (.long v107), (.double g0)])) rfl (by rw [hml]; rfl) (lenOf own_pd3 rfl) rfl (by show 2 * 0 + _ ≤ _; exact Nat.le_of_eq rfl) (hb hby at_119)
  obtain ⟨rfl, rfl⟩ := qs6
  change own_S _ _ _ _ _ _ _ _ _ _ _ _ _ _ [(x, own_O "com/example/beanflow/beanflow/VogelInflow" [("com/example/beanflow/beanflow/VogelInflow", "qmaxKgS", "D", .double v45)]), (y, own_A .double [.double g0, .double g1, .double g2])] _ _ at Hs6
  obtain ⟨v128, hv128⟩ : ∃ z : Int64, (v6 * v96) = z := ⟨_, rfl⟩
  obtain ⟨v135, hv135⟩ : ∃ z : Int64, (v36 * v16) = z := ⟨_, rfl⟩
  obtain ⟨v143, hv143⟩ : ∃ z : Int64, ((8 : Int64) * v24) = z := ⟨_, rfl⟩
  obtain ⟨v144, hv144⟩ : ∃ z : Int64, (v16 + v143) = z := ⟨_, rfl⟩
  obtain ⟨v145, hv145⟩ : ∃ z : Int64, (v135 * v144) = z := ⟨_, rfl⟩
  obtain ⟨v158, hv158⟩ : ∃ z : Int64, (v128 - v145) = z := ⟨_, rfl⟩
  have q1 := own_L1a bq' bp' bk' br' hv88 hv89 hv96 hv135 hv143 hv144 hv145
  obtain ⟨Ts8, vs8_, css8_, qs8, Hs8, sts8⟩ := own_callS Hs6 hx hZ hown (hw _ (List.mem_of_getElem? (i := 34) rfl)) (hw _ (List.mem_of_getElem? (i := 35) rfl)) (hw _ (List.mem_of_getElem? (i := 36) rfl)) (hw _ (List.mem_of_getElem? (i := 37) rfl)) (by decide) (argsL := [(.long v145)]) (rest := [(.long v128), (.long v158), (.long v128), (.double g1)]) (W := 8) (own_abs l Z a0 hb0 hw v145 _ (by omega)) (by decide) (by decide) (by decide) (by decide) (g := (mkF m 163 (List.toArray ((.val (.int xq)) :: (.val (.int xp)) :: (.val (.int xk)) :: (.val (.int xr)) :: (.val (.long v6)) :: .second :: (.val (.long v16)) :: .second :: (.val (.long v24)) :: .second :: (.val (.long v32)) :: .second :: (.val (.long v36)) :: .second :: (.val (.ref x)) :: (.val (.ref y)) :: (.val (.long v89)) :: .second :: (.val (.long v96)) :: .second :: (.val (.int (1 : Int32))) :: (.val (.long v128)) :: .second :: (.val (.long v145)) :: .second :: .unset :: .unset :: .unset :: .unset :: .unset :: .unset :: [])) [(.long v145), (.long v128), (.long v158), (.long v128), (.double g1)])) rfl (by rw [hml]; rfl) (lenOf own_pd4 rfl) rfl (by show 2 * 0 + _ ≤ _; exact Nat.le_of_eq rfl) (hb hby at_163)
  obtain ⟨ab1, ea1, rfl, rfl⟩ := qs8
  change own_S _ _ _ _ _ _ _ _ _ _ _ _ _ _ [(x, own_O "com/example/beanflow/beanflow/VogelInflow" [("com/example/beanflow/beanflow/VogelInflow", "qmaxKgS", "D", .double v45)]), (y, own_A .double [.double g0, .double g1, .double g2])] _ _ at Hs8
  obtain ⟨v166, hv166⟩ : ∃ z : Int64, (v128 + ab1) = z := ⟨_, rfl⟩
  have P1 := own_L1 bq' bp' bk' br' hv88 hv89 hv96 hv128 hv135 hv143 hv144 hv145 hv158 ea1 hv166
  obtain ⟨Ts9, vs9_, css9_, qs9, Hs9, sts9⟩ := own_callS Hs8 hx hZ hown (hw _ (List.mem_of_getElem? (i := 28) rfl)) (hw _ (List.mem_of_getElem? (i := 29) rfl)) (hw _ (List.mem_of_getElem? (i := 30) rfl)) (hw _ (List.mem_of_getElem? (i := 31) rfl)) (by decide) (argsL := [(.double g1), (.long v128), (.long v158), (.long v166)]) (rest := []) (W := 0) (own_near_ l Z a0 hb0 hw g1 v128 v158 v166 _ _ _ N1 P1.1 P1.2.1 P1.2.2.1 P1.2.2.2.1 P1.2.2.2.2.1 P1.2.2.2.2.2.1 P1.2.2.2.2.2.2.1 P1.2.2.2.2.2.2.2) (by decide) (by decide) (by decide) (by decide) (g := (mkF m 167 (List.toArray ((.val (.int xq)) :: (.val (.int xp)) :: (.val (.int xk)) :: (.val (.int xr)) :: (.val (.long v6)) :: .second :: (.val (.long v16)) :: .second :: (.val (.long v24)) :: .second :: (.val (.long v32)) :: .second :: (.val (.long v36)) :: .second :: (.val (.ref x)) :: (.val (.ref y)) :: (.val (.long v89)) :: .second :: (.val (.long v96)) :: .second :: (.val (.int (1 : Int32))) :: (.val (.long v128)) :: .second :: (.val (.long v145)) :: .second :: .unset :: .unset :: .unset :: .unset :: .unset :: .unset :: [])) [(.long v166), (.long v158), (.long v128), (.double g1)])) rfl (by rw [hml]; rfl) (lenOf own_pd3 rfl) rfl (by show 2 * 0 + _ ≤ _; exact Nat.le_of_eq rfl) (hb hby at_167)
  obtain ⟨rfl, rfl⟩ := qs9
  change own_S _ _ _ _ _ _ _ _ _ _ _ _ _ _ [(x, own_O "com/example/beanflow/beanflow/VogelInflow" [("com/example/beanflow/beanflow/VogelInflow", "qmaxKgS", "D", .double v45)]), (y, own_A .double [.double g0, .double g1, .double g2])] _ _ at Hs9
  obtain ⟨v177, hv177⟩ : ∃ z : Int64, ((5 : Int64) * v6) = z := ⟨_, rfl⟩
  obtain ⟨v180, hv180⟩ : ∃ z : Int64, (v177 * v96) = z := ⟨_, rfl⟩
  obtain ⟨v188, hv188⟩ : ∃ z : Int64, ((4 : Int64) * v36) = z := ⟨_, rfl⟩
  obtain ⟨v191, hv191⟩ : ∃ z : Int64, (v188 * v16) = z := ⟨_, rfl⟩
  obtain ⟨v194, hv194⟩ : ∃ z : Int64, (v191 * v16) = z := ⟨_, rfl⟩
  obtain ⟨v207, hv207⟩ : ∃ z : Int64, (v194 - v180) = z := ⟨_, rfl⟩
  have q2 := own_L2a bq' bp' bk' br' hv88 hv89 hv96 hv188 hv191 hv194
  obtain ⟨Ts11, vs11_, css11_, qs11, Hs11, sts11⟩ := own_callS Hs9 hx hZ hown (hw _ (List.mem_of_getElem? (i := 34) rfl)) (hw _ (List.mem_of_getElem? (i := 35) rfl)) (hw _ (List.mem_of_getElem? (i := 36) rfl)) (hw _ (List.mem_of_getElem? (i := 37) rfl)) (by decide) (argsL := [(.long v194)]) (rest := [(.long v180), (.long v207), (.long v180), (.double g2)]) (W := 8) (own_abs l Z a0 hb0 hw v194 _ (by omega)) (by decide) (by decide) (by decide) (by decide) (g := (mkF m 212 (List.toArray ((.val (.int xq)) :: (.val (.int xp)) :: (.val (.int xk)) :: (.val (.int xr)) :: (.val (.long v6)) :: .second :: (.val (.long v16)) :: .second :: (.val (.long v24)) :: .second :: (.val (.long v32)) :: .second :: (.val (.long v36)) :: .second :: (.val (.ref x)) :: (.val (.ref y)) :: (.val (.long v89)) :: .second :: (.val (.long v96)) :: .second :: (.val (.int (1 : Int32))) :: (.val (.long v128)) :: .second :: (.val (.long v145)) :: .second :: (.val (.int (1 : Int32))) :: (.val (.long v180)) :: .second :: (.val (.long v194)) :: .second :: .unset :: [])) [(.long v194), (.long v180), (.long v207), (.long v180), (.double g2)])) rfl (by rw [hml]; rfl) (lenOf own_pd4 rfl) rfl (by show 2 * 0 + _ ≤ _; exact Nat.le_of_eq rfl) (hb hby at_212)
  obtain ⟨ab2, ea2, rfl, rfl⟩ := qs11
  change own_S _ _ _ _ _ _ _ _ _ _ _ _ _ _ [(x, own_O "com/example/beanflow/beanflow/VogelInflow" [("com/example/beanflow/beanflow/VogelInflow", "qmaxKgS", "D", .double v45)]), (y, own_A .double [.double g0, .double g1, .double g2])] _ _ at Hs11
  obtain ⟨v215, hv215⟩ : ∃ z : Int64, (v180 + ab2) = z := ⟨_, rfl⟩
  have P2 := own_L2 bq' bp' bk' br' hv88 hv89 hv96 hv177 hv180 hv188 hv191 hv194 hv207 ea2 hv215
  obtain ⟨Ts12, vs12_, css12_, qs12, Hs12, sts12⟩ := own_callS Hs11 hx hZ hown (hw _ (List.mem_of_getElem? (i := 28) rfl)) (hw _ (List.mem_of_getElem? (i := 29) rfl)) (hw _ (List.mem_of_getElem? (i := 30) rfl)) (hw _ (List.mem_of_getElem? (i := 31) rfl)) (by decide) (argsL := [(.double g2), (.long v180), (.long v207), (.long v215)]) (rest := []) (W := 0) (own_near_ l Z a0 hb0 hw g2 v180 v207 v215 _ _ _ N2 P2.1 P2.2.1 P2.2.2.1 P2.2.2.2.1 P2.2.2.2.2.1 P2.2.2.2.2.2.1 P2.2.2.2.2.2.2.1 P2.2.2.2.2.2.2.2) (by decide) (by decide) (by decide) (by decide) (g := (mkF m 216 (List.toArray ((.val (.int xq)) :: (.val (.int xp)) :: (.val (.int xk)) :: (.val (.int xr)) :: (.val (.long v6)) :: .second :: (.val (.long v16)) :: .second :: (.val (.long v24)) :: .second :: (.val (.long v32)) :: .second :: (.val (.long v36)) :: .second :: (.val (.ref x)) :: (.val (.ref y)) :: (.val (.long v89)) :: .second :: (.val (.long v96)) :: .second :: (.val (.int (1 : Int32))) :: (.val (.long v128)) :: .second :: (.val (.long v145)) :: .second :: (.val (.int (1 : Int32))) :: (.val (.long v180)) :: .second :: (.val (.long v194)) :: .second :: .unset :: [])) [(.long v215), (.long v207), (.long v180), (.double g2)])) rfl (by rw [hml]; rfl) (lenOf own_pd3 rfl) rfl (by show 2 * 0 + _ ≤ _; exact Nat.le_of_eq rfl) (hb hby at_216)
  obtain ⟨rfl, rfl⟩ := qs12
  change own_S _ _ _ _ _ _ _ _ _ _ _ _ _ _ [(x, own_O "com/example/beanflow/beanflow/VogelInflow" [("com/example/beanflow/beanflow/VogelInflow", "qmaxKgS", "D", .double v45)]), (y, own_A .double [.double g0, .double g1, .double g2])] _ _ at Hs12
  refine ⟨_, _, _, _, 241, (List.toArray ((.val (.int xq)) :: (.val (.int xp)) :: (.val (.int xk)) :: (.val (.int xr)) :: (.val (.long v6)) :: .second :: (.val (.long v16)) :: .second :: (.val (.long v24)) :: .second :: (.val (.long v32)) :: .second :: (.val (.long v36)) :: .second :: (.val (.ref x)) :: (.val (.ref y)) :: (.val (.long v89)) :: .second :: (.val (.long v96)) :: .second :: (.val (.int (1 : Int32))) :: (.val (.long v128)) :: .second :: (.val (.long v145)) :: .second :: (.val (.int (1 : Int32))) :: (.val (.long v180)) :: .second :: (.val (.long v194)) :: .second :: (.val (.int (1 : Int32))) :: [])), Hs12, by decide, by decide, Or.inr ⟨.boolean, (.int (1 : Int32)), [], .ireturn, rfl, rfl, at_241, own_retZ (Or.inr rfl), fun target q => ?_⟩⟩
  refine own_go H0 hx hZ hown hby hw own_K0_ok (own_s0 xq xp xk xr v3 hv3 v5 hv5 v6 hv6 v13 hv13 v15 hv15 v16 hv16 v23 hv23 v24 hv24 v32 hv32 v36 hv36) _ ?_
  refine sts1 _ ?_
  refine own_go Hs1 hx hZ hown hby hw own_K0_ok (own_s1 xq xp xk xr v6 v16 v24 v32 v36 x v45 hv45) _ ?_
  refine sts2 _ ?_
  refine own_go Hs2 hx hZ hown hby hw own_K0_ok (own_s2 xq xp xk xr v6 v16 v24 v32 v36 x v55 hv55 v58 hv58 v61 hv61) _ ?_
  refine sts3 _ ?_
  refine own_go Hs3 hx hZ hown hby hw own_K0_ok (own_s3 xq xp xk xr v6 v16 v24 v32 v36 x y) _ ?_
  refine own_arrlen Hs3 hx hZ 1 rfl (z := (3 : Int32)) rfl (g := (mkF m 74 (List.toArray ((.val (.int xq)) :: (.val (.int xp)) :: (.val (.int xk)) :: (.val (.int xr)) :: (.val (.long v6)) :: .second :: (.val (.long v16)) :: .second :: (.val (.long v24)) :: .second :: (.val (.long v32)) :: .second :: (.val (.long v36)) :: .second :: (.val (.ref x)) :: (.val (.ref y)) :: .unset :: .unset :: .unset :: .unset :: .unset :: .unset :: .unset :: .unset :: .unset :: .unset :: .unset :: .unset :: .unset :: .unset :: .unset :: [])) [(.ref y)])) rfl rfl (hb hby at_74) _ ?_
  refine own_go Hs3 hx hZ hown hby hw own_K0_ok (own_s4 xq xp xk xr v6 v16 v24 v32 v36 x y v88 hv88 v89 hv89 v96 hv96) _ ?_
  refine own_daload Hs3 hx hZ 1 0 rfl (by decide) rfl (g := (mkF m 102 (List.toArray ((.val (.int xq)) :: (.val (.int xp)) :: (.val (.int xk)) :: (.val (.int xr)) :: (.val (.long v6)) :: .second :: (.val (.long v16)) :: .second :: (.val (.long v24)) :: .second :: (.val (.long v32)) :: .second :: (.val (.long v36)) :: .second :: (.val (.ref x)) :: (.val (.ref y)) :: (.val (.long v89)) :: .second :: (.val (.long v96)) :: .second :: .unset :: .unset :: .unset :: .unset :: .unset :: .unset :: .unset :: .unset :: .unset :: .unset :: .unset :: [])) [(.int (0 : Int32)), (.ref y)])) rfl rfl (hb hby at_102) _ ?_
  refine own_go Hs3 hx hZ hown hby hw own_K0_ok (own_s5 xq xp xk xr v6 v16 v24 v32 v36 x y v89 v96 g0 v107 hv107 v112 hv112 v113 hv113 v118 hv118) _ ?_
  refine sts6 _ ?_
  refine own_go Hs6 hx hZ hown hby hw own_K0_ok (own_s6 xq xp xk xr v6 v16 v24 v32 v36 x y v89 v96 v128 hv128 v135 hv135 v143 hv143 v144 hv144 v145 hv145) _ ?_
  refine own_daload Hs6 hx hZ 1 1 rfl (by decide) rfl (g := (mkF m 151 (List.toArray ((.val (.int xq)) :: (.val (.int xp)) :: (.val (.int xk)) :: (.val (.int xr)) :: (.val (.long v6)) :: .second :: (.val (.long v16)) :: .second :: (.val (.long v24)) :: .second :: (.val (.long v32)) :: .second :: (.val (.long v36)) :: .second :: (.val (.ref x)) :: (.val (.ref y)) :: (.val (.long v89)) :: .second :: (.val (.long v96)) :: .second :: (.val (.int (1 : Int32))) :: (.val (.long v128)) :: .second :: (.val (.long v145)) :: .second :: .unset :: .unset :: .unset :: .unset :: .unset :: .unset :: [])) [(.int (1 : Int32)), (.ref y)])) rfl rfl (hb hby at_151) _ ?_
  refine own_go Hs6 hx hZ hown hby hw own_K0_ok (own_s7 xq xp xk xr v6 v16 v24 v32 v36 x y v89 v96 v128 v145 g1 v158 hv158) _ ?_
  refine sts8 _ ?_
  refine own_go Hs8 hx hZ hown hby hw own_K0_ok (own_s8 xq xp xk xr v6 v16 v24 v32 v36 x y v89 v96 v128 v145 ab1 v158 g1 v166 hv166) _ ?_
  refine sts9 _ ?_
  refine own_go Hs9 hx hZ hown hby hw own_K0_ok (own_s9 xq xp xk xr v6 v16 v24 v32 v36 x y v89 v96 v128 v145 v177 hv177 v180 hv180 v188 hv188 v191 hv191 v194 hv194) _ ?_
  refine own_daload Hs9 hx hZ 1 2 rfl (by decide) rfl (g := (mkF m 200 (List.toArray ((.val (.int xq)) :: (.val (.int xp)) :: (.val (.int xk)) :: (.val (.int xr)) :: (.val (.long v6)) :: .second :: (.val (.long v16)) :: .second :: (.val (.long v24)) :: .second :: (.val (.long v32)) :: .second :: (.val (.long v36)) :: .second :: (.val (.ref x)) :: (.val (.ref y)) :: (.val (.long v89)) :: .second :: (.val (.long v96)) :: .second :: (.val (.int (1 : Int32))) :: (.val (.long v128)) :: .second :: (.val (.long v145)) :: .second :: (.val (.int (1 : Int32))) :: (.val (.long v180)) :: .second :: (.val (.long v194)) :: .second :: .unset :: [])) [(.int (2 : Int32)), (.ref y)])) rfl rfl (hb hby at_200) _ ?_
  refine own_go Hs9 hx hZ hown hby hw own_K0_ok (own_s10 xq xp xk xr v6 v16 v24 v32 v36 x y v89 v96 v128 v145 v180 v194 g2 v207 hv207) _ ?_
  refine sts11 _ ?_
  refine own_go Hs11 hx hZ hown hby hw own_K0_ok (own_s11 xq xp xk xr v6 v16 v24 v32 v36 x y v89 v96 v128 v145 v180 v194 ab2 v207 g2 v215 hv215) _ ?_
  refine sts12 _ ?_
  refine own_go Hs12 hx hZ hown hby hw own_K0_ok (own_s12 xq xp xk xr v6 v16 v24 v32 v36 x y v89 v96 v128 v145 v180 v194) _ ?_
  exact q
set_option maxRecDepth 65536 in
set_option maxHeartbeats 40000000 in
theorem own_comes {Post : Tables → Env → Array Value → State → Outcome → State → Prop} (hpost : ∀ tb e args s v u, (limb_1_1.after args s (.returned v) u = true ∧ limb_1_2.after args s (.returned v) u = true ∧ True) → FrameEnd s (.returned v) u (Jvm.fieldLocs frame_1_writes args s ++ Jvm.arrayLocs frame_1_arrays args s ++ Jvm.staticLocs frame_1_statics s) 16 128 → Post tb e args s (.returned v) u) :
    ArmFor flags0 classFile x code maxLocals ret World_1 tables_1 room_1 Calls_1 rest_1 Pre_1 Post := by
  intro l hfl _ _ p e ha hc hk s m args below hf hA hF happ hP
  obtain ⟨hcalls, hrest, hpre⟩ := hP
  obtain ⟨-, -, -, hnamed, -, -, -, hat⟩ := (Spec.applies_iff hf).mp happ
  obtain ⟨hg, hn⟩ := and_e (Cond.before_iff.mp (show (Jvm.Cond.and given_1 narrow_1).before args s = true from hpre))
  obtain ⟨h1, g0⟩ := and_e hg
  obtain ⟨w0, w1, w2, w3, rfl⟩ : ∃ w0 w1 w2 w3 : Value, args = #[w0, w1, w2, w3] := by
    have hs : args.size = 4 := by simpa [Cond.value, given_1] using h1
    obtain ⟨L⟩ := args
    match L, hs with
    | [w0, w1, w2, w3], _ => exact ⟨w0, w1, w2, w3, rfl⟩
  have hw := fun d (hd : d ∈ tables_1) => atoms_spec (ws := Jvm.Cond.code x code maxLocals ret :: tables_1) hat d (List.mem_cons_of_mem _ hd)
  have hfit : Fit s := fun {y c} hc i hi => by
    obtain ⟨ha, rfl⟩ := Array.getElem?_eq_some_iff.mp hc
    have q := List.all_eq_true.mp ((Array.all_eq_true_iff_forall_mem.mp hF) _ (Array.getElem_mem ha)) i (List.mem_range.mpr hi)
    simpa [Array.getElem?_eq_getElem hi] using q
  obtain ⟨f0, g1⟩ := and_e g0
  obtain ⟨i0, e0⟩ := is_v f0
  obtain rfl : w0 = (.int i0) := Option.some.inj e0
  obtain ⟨f1, g2⟩ := and_e g1
  obtain ⟨i1, e1⟩ := is_v f1
  obtain rfl : w1 = (.int i1) := Option.some.inj e1
  obtain ⟨f2, g3⟩ := and_e g2
  obtain ⟨i2, e2⟩ := is_v f2
  obtain rfl : w2 = (.int i2) := Option.some.inj e2
  obtain ⟨i3, e3⟩ := is_v g3
  obtain rfl : w3 = (.int i3) := Option.some.inj e3
  obtain ⟨n, o, h1, h2, h3, _, L, rfl, ⟨N, cs', rfl, -⟩, hq⟩ := own_law l s _ ⟨s.heap, 0⟩ hw i0 i1 i2 i3  s.heap (own_Hp_start s _ s.heap) p e ha hc hk s m _ below hf ((Spec.applies_iff_loose hf).mp happ).1 ⟨rfl, State.Warmed39.refl s, rfl⟩ trivial
  refine ⟨n, _, h1, h2, h3, hpost _ _ _ _ _ _ ⟨Cond.after_iff.mpr rfl, Cond.after_iff.mpr (eq_i res_at (Term.int_eval (1)) rfl), trivial⟩ ⟨hq.1, hq.2.1, (hq.2.2.sift fun y hy => Or.inr (N y hy)).mono (by decide) (by decide)⟩⟩
theorem main_1_1 : Claimed_1_1 := own_comes fun _ _ _ _ _ _ h hF => ⟨h.1, hF⟩
theorem main_1_2 : Claimed_1_2 := own_comes fun _ _ _ _ _ _ h hF => ⟨h.2.1, hF⟩
end OwnClaim
end Jvm.Pilot.@@N@@
namespace Jvm.Pilot.@@N@@
open Jvm Jvm.ClassFile Sem Op Lib Jvm.Free Jvm.Stand Jvm.Pilot.@@N@@.Jvm.D
/-! MADE BY PROGRAM (witnessworld.py) out of the Statement's table words and the real class files: 14 classes; the members and pool entries that the words name. The judged class is class 1, her method 1. -/
namespace start1
open Jvm.ClassFile
def u (s : String) : CpInfo := .utf8 (stringToUtf16 s)
/-- a pool by its gaps: so many unusable entries, then the entry; so many at the end -/
def gap : Nat → List CpInfo → List CpInfo
  | 0, r => r
  | n + 1, r => .unusable :: gap n r
def poolList (es : List (Nat × CpInfo)) (last : Nat) : List CpInfo := es.foldr (fun e r => gap e.1 (e.2 :: r)) (gap last [])
def pool (es : List (Nat × CpInfo)) (last : Nat) : Array CpInfo := ⟨poolList es last⟩
def fileOf (pool : Array CpInfo) (this : Nat) (attrs : Array Attribute := #[]) (ms : Array MethodInfo := #[]) (fl : Nat := 33) (sup : Nat := 0) (ifs : Array Nat := #[]) (fds : Array FieldInfo := #[]) : ClassFile where
  minorVersion := 0
  majorVersion := 65
  constantPool := pool
  accessFlags := fl
  thisClass := this
  superClass := sup
  interfaces := ifs
  fields := fds
  methods := ms
  attributes := attrs
def plain (name : String) (sup : Option ClassId) : Class where
  name := name
  kind := .ordinary
  loader := none
  accessFlags := 33
  super := sup
  interfaces := #[]
  cf := none
  fields := #[]
  methods := #[]
  instanceTypes := #[]
  staticTypes := #[]
  resolved := #[]
  callSites := []
  init := .initialized
  statics := none
  mirror := none

def pool0 : Array CpInfo := pool [(5, u "<init>"), (0, u "()V"), (1, .class_ 10), (1, u "java/lang/Object")] 113

def k0c0 : Code := { maxStack := 0, maxLocals := 1, code := object_method_1_code, exceptionTable := #[], attributes := #[] }
def k0m0 : Method := { name := "<init>", desc := "()V", sig := { parameters := [], returnType := none }, accessFlags := 1, code := some k0c0 }
/-- java/lang/Object -/
def k0 : Class := { plain "java/lang/Object" none with
  accessFlags := 33
  interfaces := #[]
  cf := some (fileOf pool0 8 #[] #[{ accessFlags := 1, nameIndex := 5, descriptorIndex := 6, attributes := #[] }] 33 0 #[] #[])
  fields := #[]
  methods := #[k0m0]
  instanceTypes := #[]
  staticTypes := #[]
  resolved := Array.replicate 124 none
  statics := none }

def pool1 : Array CpInfo := pool [(2, .class_ 4), (1, u "java/lang/Object"), (0, u "<init>"), (0, u "()V"), (0, .integer 65535), (0, .long 5), (1, .class_ 11), (0, u "com/example/beanflow/beanflow/VogelInflow"), (0, .methodref 10 13), (0, .nameAndType 5 14), (0, u "(D)V"), (0, .methodref 10 16), (0, .nameAndType 17 18), (0, u "gradient"), (0, u "(DDD)[D"), (0, .long 4), (1, .methodref 22 23), (0, .class_ 24), (0, .nameAndType 25 26), (0, u "com/example/beanflow/beanflow/VogelInflowGradientPinLaw"), (0, u "near"), (0, u "(DJJJ)Z"), (0, .long 8), (1, .methodref 30 31), (0, .class_ 32), (0, .nameAndType 33 34), (0, u "java/lang/Math"), (0, u "abs"), (0, u "(J)J"), (0, .double 4472406533629990549), (3, u "law"), (0, u "(IIII)Z")] 5

def k1m0 : Method := { name := "<init>", desc := "()V", sig := { parameters := [], returnType := none }, accessFlags := 2, code := none }
def k1c1 : Code := { maxStack := 10, maxLocals := 31, code := code, exceptionTable := #[], attributes := #[] }
def k1m1 : Method := { name := "law", desc := "(IIII)Z", sig := { parameters := [.int, .int, .int, .int], returnType := some .boolean }, accessFlags := 9, code := some k1c1 }
def k1c2 : Code := { maxStack := 4, maxLocals := 12, code := method_3_code, exceptionTable := #[], attributes := #[] }
def k1m2 : Method := { name := "near", desc := "(DJJJ)Z", sig := { parameters := [.double, .long, .long, .long], returnType := some .boolean }, accessFlags := 10, code := some k1c2 }
/-- com/example/beanflow/beanflow/VogelInflowGradientPinLaw -/
def k1 : Class := { plain "com/example/beanflow/beanflow/VogelInflowGradientPinLaw" (some 0) with
  accessFlags := 49
  interfaces := #[]
  cf := some (fileOf pool1 22 #[] #[{ accessFlags := 2, nameIndex := 5, descriptorIndex := 6, attributes := #[] }, { accessFlags := 9, nameIndex := 39, descriptorIndex := 40, attributes := #[] }, { accessFlags := 10, nameIndex := 25, descriptorIndex := 26, attributes := #[] }] 49 2 #[] #[])
  fields := #[]
  methods := #[k1m0, k1m1, k1m2]
  instanceTypes := #[]
  staticTypes := #[]
  resolved := Array.replicate 46 none
  statics := none }

def pool2 : Array CpInfo := pool [(1, .methodref 2 3), (0, .class_ 4), (0, .nameAndType 5 6), (0, u "java/lang/Object"), (0, u "<init>"), (0, u "()V"), (0, .class_ 8), (0, u "java/lang/Record")] 13

def k2c0 : Code := { maxStack := 1, maxLocals := 1, code := jdk_30_method_1_code, exceptionTable := #[], attributes := #[] }
def k2m0 : Method := { name := "<init>", desc := "()V", sig := { parameters := [], returnType := none }, accessFlags := 4, code := some k2c0 }
/-- java/lang/Record -/
def k2 : Class := { plain "java/lang/Record" (some 0) with
  accessFlags := 1057
  interfaces := #[]
  cf := some (fileOf pool2 7 #[] #[{ accessFlags := 4, nameIndex := 5, descriptorIndex := 6, attributes := #[] }] 1057 2 #[] #[])
  fields := #[]
  methods := #[k2m0]
  instanceTypes := #[]
  staticTypes := #[]
  resolved := Array.replicate 22 none
  statics := none }

def pool3 : Array CpInfo := pool [(2, .class_ 4), (1, u "com/example/beanflow/beanflow/ElementLaw"), (8, .class_ 14), (0, u "java/lang/Object"), (0, u "SLOPE_FLOOR_KG_S"), (0, u "D")] 25

/-- com/example/beanflow/beanflow/ElementLaw -/
def k3 : Class := { plain "com/example/beanflow/beanflow/ElementLaw" (some 0) with
  accessFlags := 1536
  interfaces := #[]
  cf := some (fileOf pool3 2 #[] #[] 1536 13 #[] #[{ accessFlags := 25, nameIndex := 15, descriptorIndex := 16, attributes := #[] }])
  fields := #[{ name := "SLOPE_FLOOR_KG_S", type := .double, accessFlags := 25, slot := 0, constantValue := 0 }]
  methods := #[]
  instanceTypes := #[]
  staticTypes := #[.double]
  resolved := Array.replicate 42 none
  statics := none }

def pool4 : Array CpInfo := pool [(1, .methodref 2 3), (0, .class_ 4), (0, .nameAndType 5 6), (0, u "java/lang/Record"), (0, u "<init>"), (0, u "()V"), (0, .fieldref 8 9), (0, .class_ 10), (0, .nameAndType 11 12), (0, u "com/example/beanflow/beanflow/VogelInflow"), (0, u "qmaxKgS"), (0, u "D"), (4, .double 4605380978949069210), (1, .double 4609884578576439706), (1, .double 13830554455654793216), (13, .class_ 36), (0, u "com/example/beanflow/beanflow/ElementLaw"), (0, u "BOTTOMHOLE_SHARE"), (1, u "(D)V"), (6, u "gradient"), (0, u "(DDD)[D")] 23

def k4c0 : Code := { maxStack := 3, maxLocals := 3, code := prog_40_method_1_code, exceptionTable := #[], attributes := #[] }
def k4m0 : Method := { name := "<init>", desc := "(D)V", sig := { parameters := [.double], returnType := none }, accessFlags := 0, code := some k4c0 }
def k4c1 : Code := { maxStack := 13, maxLocals := 13, code := prog_40_method_4_code, exceptionTable := #[], attributes := #[] }
def k4m1 : Method := { name := "gradient", desc := "(DDD)[D", sig := { parameters := [.double, .double, .double], returnType := some (.array .double) }, accessFlags := 1, code := some k4c1 }
/-- com/example/beanflow/beanflow/VogelInflow -/
def k4 : Class := { plain "com/example/beanflow/beanflow/VogelInflow" (some 2) with
  accessFlags := 48
  interfaces := #[3]
  cf := some (fileOf pool4 8 #[] #[{ accessFlags := 0, nameIndex := 5, descriptorIndex := 39, attributes := #[] }, { accessFlags := 1, nameIndex := 46, descriptorIndex := 47, attributes := #[] }] 48 2 #[35] #[{ accessFlags := 18, nameIndex := 11, descriptorIndex := 12, attributes := #[] }, { accessFlags := 26, nameIndex := 37, descriptorIndex := 12, attributes := #[] }])
  fields := #[{ name := "qmaxKgS", type := .double, accessFlags := 18, slot := 0, constantValue := 0 }, { name := "BOTTOMHOLE_SHARE", type := .double, accessFlags := 26, slot := 0, constantValue := 0 }]
  methods := #[k4m0, k4m1]
  instanceTypes := #[.double]
  staticTypes := #[.double]
  resolved := Array.replicate 71 none
  statics := none }

def pool5 : Array CpInfo := pool [(1, .class_ 2), (0, u "java/lang/Math"), (1, .class_ 6), (1, u "java/lang/Object"), (0, u "<init>"), (0, u "()V"), (89, .class_ 100), (1, u "java/lang/Math$RandomNumberGeneratorHolder"), (23, u "abs"), (0, u "(J)J"), (46, u "negativeZeroFloatBits"), (0, u "J"), (2, u "negativeZeroDoubleBits"), (68, u "$assertionsDisabled"), (0, u "Z"), (91, u "twoToTheDoubleScaleDown"), (0, u "D"), (4, u "twoToTheDoubleScaleUp"), (9, u "E"), (3, u "PI"), (2, u "TAU"), (2, u "DEGREES_TO_RADIANS"), (0, u "RADIANS_TO_DEGREES")] 94

def k5m0 : Method := { name := "<init>", desc := "()V", sig := { parameters := [], returnType := none }, accessFlags := 2, code := none }
def k5c1 : Code := { maxStack := 4, maxLocals := 2, code := jdk_29_method_61_code, exceptionTable := #[], attributes := #[] }
def k5m1 : Method := { name := "abs", desc := "(J)J", sig := { parameters := [.long], returnType := some .long }, accessFlags := 9, code := some k5c1 }
/-- java/lang/Math -/
def k5 : Class := { plain "java/lang/Math" (some 0) with
  accessFlags := 49
  interfaces := #[]
  cf := some (fileOf pool5 1 #[.nestMembers #[98]] #[{ accessFlags := 2, nameIndex := 7, descriptorIndex := 8, attributes := #[] }, { accessFlags := 9, nameIndex := 124, descriptorIndex := 125, attributes := #[] }] 49 4 #[] #[{ accessFlags := 25, nameIndex := 354, descriptorIndex := 339, attributes := #[] }, { accessFlags := 25, nameIndex := 358, descriptorIndex := 339, attributes := #[] }, { accessFlags := 25, nameIndex := 361, descriptorIndex := 339, attributes := #[] }, { accessFlags := 26, nameIndex := 364, descriptorIndex := 339, attributes := #[] }, { accessFlags := 26, nameIndex := 365, descriptorIndex := 339, attributes := #[] }, { accessFlags := 26, nameIndex := 172, descriptorIndex := 173, attributes := #[] }, { accessFlags := 26, nameIndex := 176, descriptorIndex := 173, attributes := #[] }, { accessFlags := 8, nameIndex := 344, descriptorIndex := 339, attributes := #[] }, { accessFlags := 8, nameIndex := 338, descriptorIndex := 339, attributes := #[] }, { accessFlags := 4120, nameIndex := 245, descriptorIndex := 246, attributes := #[] }])
  fields := #[{ name := "E", type := .double, accessFlags := 25, slot := 0, constantValue := 0 }, { name := "PI", type := .double, accessFlags := 25, slot := 1, constantValue := 0 }, { name := "TAU", type := .double, accessFlags := 25, slot := 2, constantValue := 0 }, { name := "DEGREES_TO_RADIANS", type := .double, accessFlags := 26, slot := 3, constantValue := 0 }, { name := "RADIANS_TO_DEGREES", type := .double, accessFlags := 26, slot := 4, constantValue := 0 }, { name := "negativeZeroFloatBits", type := .long, accessFlags := 26, slot := 5, constantValue := 0 }, { name := "negativeZeroDoubleBits", type := .long, accessFlags := 26, slot := 6, constantValue := 0 }, { name := "twoToTheDoubleScaleUp", type := .double, accessFlags := 8, slot := 7, constantValue := 0 }, { name := "twoToTheDoubleScaleDown", type := .double, accessFlags := 8, slot := 8, constantValue := 0 }, { name := "$assertionsDisabled", type := .boolean, accessFlags := 4120, slot := 9, constantValue := 0 }]
  methods := #[k5m0, k5m1]
  instanceTypes := #[]
  staticTypes := #[.double, .double, .double, .double, .double, .long, .long, .double, .double, .boolean]
  resolved := Array.replicate 460 none
  statics := none }

def pool6 : Array CpInfo := pool [(1, u "java/lang/Cloneable"), (0, .class_ 1), (0, u "java/lang/Object"), (0, .class_ 3)] 3

/-- java/lang/Cloneable -/
def k6 : Class := { plain "java/lang/Cloneable" (some 0) with
  accessFlags := 1537
  interfaces := #[]
  cf := some (fileOf pool6 2 #[] #[] 1537 4 #[] #[])
  fields := #[]
  methods := #[]
  instanceTypes := #[]
  staticTypes := #[]
  resolved := Array.replicate 8 none
  statics := none }

def pool7 : Array CpInfo := pool [(1, u "java/io/Serializable"), (0, .class_ 1), (0, u "java/lang/Object"), (0, .class_ 3)] 3

/-- java/io/Serializable -/
def k7 : Class := { plain "java/io/Serializable" (some 0) with
  accessFlags := 1537
  interfaces := #[]
  cf := some (fileOf pool7 2 #[] #[] 1537 4 #[] #[])
  fields := #[]
  methods := #[]
  instanceTypes := #[]
  staticTypes := #[]
  resolved := Array.replicate 8 none
  statics := none }

/-- the primitive byte -/
def k8 : Class := { plain "byte" none with kind := .primitive 'B', accessFlags := 0x411 }
/-- [B -/
def k9 : Class := { plain "[B" (some 0) with kind := .array 8 .byte, interfaces := #[6, 7], accessFlags := 1041 }

/-- the primitive double -/
def k10 : Class := { plain "double" none with kind := .primitive 'D', accessFlags := 0x411 }
/-- [D -/
def k11 : Class := { plain "[D" (some 0) with kind := .array 10 .double, interfaces := #[6, 7], accessFlags := 1041 }

/-- the primitive int -/
def k12 : Class := { plain "int" none with kind := .primitive 'I', accessFlags := 0x411 }
/-- [I -/
def k13 : Class := { plain "[I" (some 0) with kind := .array 12 .int, interfaces := #[6, 7], accessFlags := 1041 }

def heap : Heap := #[]
def classes : Array Class := #[k0, k1, k2, k3, k4, k5, k6, k7, k8, k9, k10, k11, k12, k13]
def interned : List (Array UInt16 × Addr) := []
def slotsUsed : Nat := 0
def theMethod : MethodId := ⟨1, 1⟩
def args0 : Array Value := #[.int 5, .int 7, .int 9, .int 4]
def aboutOver (below : List Frame) : State where
  vm := { classes := classes, interned := interned.toArray }
  heap := heap
  slotsUsed := slotsUsed
  threads := #[{ frames := .invoking theMethod args0 :: below }]
def below0 : List Frame := [.native { method := ⟨0, 0⟩, args := #[] }]
def about1 : State := aboutOver below0
def p0 : Program := .bare "" "" ""
def e0 : Env := launch0.env 0 0 0
theorem w_frames : about1.frames = Frame.invoking theMethod args0 :: below0 := rfl
set_option maxRecDepth 65536 in
theorem w_args : argsFit about1.vm theMethod args0 = true := by decide +kernel
set_option maxRecDepth 65536 in
theorem w_heap : heapFits about1 = true := by decide +kernel
set_option maxRecDepth 65536 in
theorem w_runnable : about1.curStatus? = some .runnable := by decide +kernel
set_option maxRecDepth 65536 in
theorem w_alone : about1.alone = true := by decide +kernel
set_option maxRecDepth 65536 in
theorem w_named : about1.methodNamed? x = some theMethod := by decide +kernel
set_option maxRecDepth 65536 in
theorem w_hears : about1.hears theMethod below0 = true := by decide +kernel
set_option maxRecDepth 65536 in
theorem w_ripe : about1.ripe theMethod args0 below0 = true := by decide +kernel
theorem w_running : about1.status = .running := rfl
set_option maxRecDepth 65536 in
theorem w_room : about1.hasRoom e0.platform room_1 = true :=
  launch0.hasRoom_least _ room_1 (by decide +kernel) (by decide +kernel) (by decide +kernel) (by decide +kernel) (by decide +kernel) (by decide +kernel)
theorem allAtoms_all (ts : List Jvm.Cond) (a : Array Jvm.Value) (st : Jvm.State) : (allAtoms ts).before a st = ts.all (fun c => c.before a st) := by
  induction ts with
  | nil => rfl
  | cons c t ih =>
    show (Jvm.Cond.and c (allAtoms t)).before a st = _
    rw [Jvm.Cond.before_and, ih, List.all_cons]
def words1 : List Jvm.Cond := Jvm.Cond.code x code maxLocals ret :: tables_1
/-- a 'code' word, met by the world's own term for the bytes: nothing is compared byte by byte -/
theorem code_word {y : MethodName} {bytes : ByteArray} {mx : Nat} {rt : Option FieldType} {a : Array Value} {s : State} {m : MethodId} {meth : Method} {c : Code} (h1 : s.methodNamed? y = some m) (h2 : s.vm.method? m = some meth) (h3 : meth.code = some c) (h4 : c.code = bytes)
    (h5 : (c.maxLocals == mx && c.exceptionTable.isEmpty && decide (c.maxStack ≤ mostOperands) && decide (meth.sig.returnType = rt) && !meth.locks && decide (parseMethodDescriptor y.desc = some meth.sig)) = true) : (Jvm.Cond.code y bytes mx rt).before a s = true := by
  simp only [Bool.and_eq_true, beq_iff_eq, Bool.not_eq_true', decide_eq_true_eq] at h5
  obtain ⟨⟨⟨⟨⟨g1, g2⟩, g3⟩, g4⟩, g5⟩, g6⟩ := h5
  simp [Cond.before, Cond.holds, Cond.value, h1, h2, h3, h4, g1, g2, g3, g4, g5, g6]
def isCode : Jvm.Cond → Bool
  | .code _ _ _ _ => true
  | _ => false
theorem all_split {L : List Jvm.Cond} {P : Jvm.Cond → Bool} (h1 : L.all (fun c => isCode c || P c) = true) (h2 : ∀ c ∈ L.filter isCode, P c = true) : L.all P = true := by
  refine List.all_eq_true.mpr fun c hc => ?_
  have h := List.all_eq_true.mp h1 c hc
  rcases Bool.eq_false_or_eq_true (isCode c) with hi | hi
  · exact h2 c (List.mem_filter.mpr ⟨hc, hi⟩)
  · simpa [hi] using h
set_option maxRecDepth 65536 in
theorem w_c0 : (Jvm.Cond.code x code maxLocals ret).before args0 about1 = true := code_word (m := ⟨1, 1⟩) (meth := k1m1) (c := k1c1) (by decide +kernel) rfl rfl rfl (by decide +kernel)
set_option maxRecDepth 65536 in
theorem w_c1 : (Jvm.Cond.code ({ cls := "com/example/beanflow/beanflow/VogelInflow", name := "<init>", desc := "(D)V" } : Jvm.MethodName) prog_40_method_1_code (3 : Nat) (Option.none : Option Jvm.ClassFile.FieldType)).before args0 about1 = true := code_word (m := ⟨4, 0⟩) (meth := k4m0) (c := k4c0) (by decide +kernel) rfl rfl rfl (by decide +kernel)
set_option maxRecDepth 65536 in
theorem w_c2 : (Jvm.Cond.code ({ cls := "java/lang/Record", name := "<init>", desc := "()V" } : Jvm.MethodName) jdk_30_method_1_code (1 : Nat) (Option.none : Option Jvm.ClassFile.FieldType)).before args0 about1 = true := code_word (m := ⟨2, 0⟩) (meth := k2m0) (c := k2c0) (by decide +kernel) rfl rfl rfl (by decide +kernel)
set_option maxRecDepth 65536 in
theorem w_c3 : (Jvm.Cond.code ({ cls := "java/lang/Object", name := "<init>", desc := "()V" } : Jvm.MethodName) object_method_1_code (1 : Nat) (Option.none : Option Jvm.ClassFile.FieldType)).before args0 about1 = true := code_word (m := ⟨0, 0⟩) (meth := k0m0) (c := k0c0) (by decide +kernel) rfl rfl rfl (by decide +kernel)
set_option maxRecDepth 65536 in
theorem w_c4 : (Jvm.Cond.code ({ cls := "com/example/beanflow/beanflow/VogelInflow", name := "gradient", desc := "(DDD)[D" } : Jvm.MethodName) prog_40_method_4_code (13 : Nat) (Option.some (Jvm.ClassFile.FieldType.array Jvm.ClassFile.FieldType.double))).before args0 about1 = true := code_word (m := ⟨4, 1⟩) (meth := k4m1) (c := k4c1) (by decide +kernel) rfl rfl rfl (by decide +kernel)
set_option maxRecDepth 65536 in
theorem w_c5 : (Jvm.Cond.code ({ cls := "com/example/beanflow/beanflow/VogelInflowGradientPinLaw", name := "near", desc := "(DJJJ)Z" } : Jvm.MethodName) method_3_code (12 : Nat) (Option.some Jvm.ClassFile.FieldType.boolean)).before args0 about1 = true := code_word (m := ⟨1, 2⟩) (meth := k1m2) (c := k1c2) (by decide +kernel) rfl rfl rfl (by decide +kernel)
set_option maxRecDepth 65536 in
theorem w_c6 : (Jvm.Cond.code ({ cls := "java/lang/Math", name := "abs", desc := "(J)J" } : Jvm.MethodName) jdk_29_method_61_code (2 : Nat) (Option.some Jvm.ClassFile.FieldType.long)).before args0 about1 = true := code_word (m := ⟨5, 1⟩) (meth := k5m1) (c := k5c1) (by decide +kernel) rfl rfl rfl (by decide +kernel)
def codes1 : List Jvm.Cond := [Jvm.Cond.code x code maxLocals ret, Jvm.Cond.code ({ cls := "com/example/beanflow/beanflow/VogelInflow", name := "<init>", desc := "(D)V" } : Jvm.MethodName) prog_40_method_1_code (3 : Nat) (Option.none : Option Jvm.ClassFile.FieldType), Jvm.Cond.code ({ cls := "java/lang/Record", name := "<init>", desc := "()V" } : Jvm.MethodName) jdk_30_method_1_code (1 : Nat) (Option.none : Option Jvm.ClassFile.FieldType), Jvm.Cond.code ({ cls := "java/lang/Object", name := "<init>", desc := "()V" } : Jvm.MethodName) object_method_1_code (1 : Nat) (Option.none : Option Jvm.ClassFile.FieldType), Jvm.Cond.code ({ cls := "com/example/beanflow/beanflow/VogelInflow", name := "gradient", desc := "(DDD)[D" } : Jvm.MethodName) prog_40_method_4_code (13 : Nat) (Option.some (Jvm.ClassFile.FieldType.array Jvm.ClassFile.FieldType.double)), Jvm.Cond.code ({ cls := "com/example/beanflow/beanflow/VogelInflowGradientPinLaw", name := "near", desc := "(DJJJ)Z" } : Jvm.MethodName) method_3_code (12 : Nat) (Option.some Jvm.ClassFile.FieldType.boolean), Jvm.Cond.code ({ cls := "java/lang/Math", name := "abs", desc := "(J)J" } : Jvm.MethodName) jdk_29_method_61_code (2 : Nat) (Option.some Jvm.ClassFile.FieldType.long)]
set_option maxRecDepth 65536 in
theorem codes_eq : words1.filter isCode = codes1 := rfl
theorem w_codes : ∀ c ∈ words1.filter isCode, c.before args0 about1 = true := by
  rw [codes_eq]
  intro c hc
  simp only [codes1, List.mem_cons, List.not_mem_nil, or_false] at hc
  rcases hc with rfl | rfl | rfl | rfl | rfl | rfl | rfl
  · exact w_c0
  · exact w_c1
  · exact w_c2
  · exact w_c3
  · exact w_c4
  · exact w_c5
  · exact w_c6
set_option maxRecDepth 65536 in
theorem w_t1 : (words1.take 24).all (fun c => isCode c || c.before args0 about1) = true := by decide +kernel
set_option maxRecDepth 65536 in
theorem w_t2 : (words1.drop 24).all (fun c => isCode c || c.before args0 about1) = true := by decide +kernel
theorem w_tables : (allAtoms (Jvm.Cond.code x code maxLocals ret :: tables_1)).before args0 about1 = true := by
  rw [allAtoms_all]
  show words1.all (fun c => c.before args0 about1) = true
  refine all_split ?_ w_codes
  rw [← List.take_append_drop 24 words1, List.all_append, w_t1, w_t2]
  rfl
set_option maxRecDepth 65536 in
theorem w_case : (Jvm.Cond.and given_1 narrow_1).before args0 about1 = true := by decide +kernel
theorem w_applies : (headSpec (Jvm.Cond.code x code maxLocals ret :: tables_1) room_1).applies x e0.platform about1 = true :=
  (Spec.applies_iff w_frames).mpr ⟨w_running, w_runnable, w_alone, w_named, w_hears, w_ripe, w_room, w_tables⟩
theorem atStart : AtStart classFile x code maxLocals ret World_1 tables_1 room_1 Calls_1 rest_1 Pre_1 launch0 p0 e0 about1 theMethod args0 below0 :=
  ⟨lists_1, trivial, launch0.admits_env _ _ _, launch0.least_env, fairChoices_fair.cas, fairChoices_fair.clock, w_frames, w_args, w_heap, w_applies, trivial, trivial, w_case⟩
end start1
theorem witness_1 : WitnessClaimed_1 := ⟨start1.p0, start1.e0, start1.about1, start1.theMethod, start1.args0, start1.below0, start1.atStart⟩
end Jvm.Pilot.@@N@@
