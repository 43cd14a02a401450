import JvmDerived
import JvmDerived.Pilot.@@N@@Statement
import JvmDerived.Pilot.@@N@@Code
set_option linter.unusedVariables false
set_option linter.unusedSimpArgs false
namespace Jvm.Pilot.@@N@@
/-! the number layer: own_is (a double is exactly that rational), own_rd (a double is that rational, rounded) -/
section OwnNum
open Jvm.FP.Core Jvm.Free.Fl
theorem own_inv1 : (1 : Rat)⁻¹ = 1 := Rat.inv_eq_of_mul_eq_one (Rat.mul_one 1)
theorem own_p_pos (q : Int) : (0 : Rat) < (2 : Rat) ^ q := Rat.zpow_pos (by decide)
theorem own_p_ne (q : Int) : (2 : Rat) ^ q ≠ 0 := Rat.ne_of_gt (own_p_pos q)
theorem own_p_add (a b : Int) : (2 : Rat) ^ (a + b) = 2 ^ a * 2 ^ b := Rat.zpow_add (by decide) a b
theorem own_p_nat (n : Nat) : ((2 ^ n : Nat) : Rat) = (2 : Rat) ^ (n : Int) := by rw [Rat.natCast_pow]; rfl
theorem own_p_toNat {a : Int} (h : 0 ≤ a) : ((2 ^ a.toNat : Nat) : Rat) = (2 : Rat) ^ a := by rw [own_p_nat, Int.toNat_of_nonneg h]
theorem own_p_neg (a : Int) : (2 : Rat) ^ a * 2 ^ (-a) = 1 := by rw [← own_p_add, Int.add_right_neg]; rfl
def own_is (x : UInt64) (r : Rat) : Prop := ∃ s c q, val64 x = .fin s c q ∧ r = ((signed s c : Int) : Rat) * (2 : Rat) ^ q
def own_rd (x : UInt64) (r : Rat) : Prop := ∃ s A B e, 0 < B ∧ val64 x = roundRatio b64 s A B e ∧ r = ((signed s A : Int) : Rat) / ((B : Nat) : Rat) * (2 : Rat) ^ e
theorem own_signed_cast (s : Bool) (c k : Nat) : ((signed s (c * k) : Int) : Rat) = ((signed s c : Int) : Rat) * ((k : Nat) : Rat) := by
  rw [signed_mul, Rat.intCast_mul]; rfl
theorem own_zmag {s : Bool} {c : Nat} {q : Int} (h : FP.Core.fits b64 (.fin s c q)) : ((zmag b64 (.fin s c q) : Nat) : Rat) = (c : Rat) * 2 ^ q * 2 ^ (1074 : Int) := by
  have h1 : b64.qmin ≤ q := h.2.1
  rw [qmin_b64] at h1
  show ((c * 2 ^ (q - b64.qmin).toNat : Nat) : Rat) = _
  rw [Rat.natCast_mul, own_p_toNat (by rw [qmin_b64]; omega), qmin_b64, show q - (-1074) = q + 1074 by omega, own_p_add, Rat.mul_assoc]
theorem own_zval {x : UInt64} {r : Rat} (h : own_is x r) : ((zval b64 (val64 x) : Int) : Rat) = r * 2 ^ (1074 : Int) := by
  obtain ⟨s, c, q, h1, rfl⟩ := h
  have hf := val64_fits x
  rw [h1] at hf ⊢
  have h2 := own_zmag hf
  show ((signed s (zmag b64 (.fin s c q)) : Int) : Rat) = _
  cases s
  · show ((zmag b64 (.fin false c q) : Nat) : Rat) = ((c : Nat) : Rat) * _ * _
    rw [h2]
  · show ((-(zmag b64 (.fin true c q) : Int) : Int) : Rat) = ((-(c : Int) : Int) : Rat) * _ * _
    rw [Rat.intCast_neg, Rat.intCast_neg, Rat.neg_mul, Rat.neg_mul]
    exact congrArg _ h2
theorem own_is_nn {x : UInt64} {r : Rat} (h : own_is x r) : val64 x ≠ .nan := by
  obtain ⟨s, c, q, h1, -⟩ := h; rw [h1]; exact Datum.noConfusion
theorem own_is_fin {x : UInt64} {r : Rat} (h : own_is x r) : Fin64 x := by
  obtain ⟨s, c, q, h1, -⟩ := h; exact fin64_core.mpr ⟨s, c, q, h1⟩
theorem own_is_no {x : UInt64} {r : Rat} (h : own_is x r) : NoNaN64 x := (own_is_fin h).noNaN
theorem own_lt_of {a b : Rat} (h : a < b) (q : Int) : a * 2 ^ q < b * 2 ^ q := Rat.mul_lt_mul_of_pos_right h (own_p_pos q)
theorem own_is_lt {x y : UInt64} {a b : Rat} (hx : own_is x a) (hy : own_is y b) : FP.dcmp x y = some .lt ↔ a < b := by
  rw [show FP.dcmp x y = FP.Core.dcmp x y from rfl, dcmp_lt]
  constructor
  · rintro ⟨-, -, h⟩
    have h2 := Rat.intCast_lt_intCast.mpr h
    rw [own_zval hx, own_zval hy] at h2
    exact Rat.lt_of_mul_lt_mul_right h2 (Rat.le_of_lt (own_p_pos _))
  · intro h
    refine ⟨own_is_nn hx, own_is_nn hy, Rat.intCast_lt_intCast.mp ?_⟩
    rw [own_zval hx, own_zval hy]
    exact own_lt_of h _
theorem own_is_gt {x y : UInt64} {a b : Rat} (hx : own_is x a) (hy : own_is y b) : FP.dcmp x y = some .gt ↔ b < a := by
  rw [← own_is_lt hy hx, show FP.dcmp x y = FP.Core.dcmp x y from rfl, show FP.dcmp y x = FP.Core.dcmp y x from rfl, dcmp_gt, dcmp_lt]
  exact ⟨fun ⟨h1, h2, h⟩ => ⟨h2, h1, h⟩, fun ⟨h1, h2, h⟩ => ⟨h2, h1, h⟩⟩
theorem own_is_eq {x y : UInt64} {a b : Rat} (hx : own_is x a) (hy : own_is y b) : FP.dcmp x y = some .eq ↔ a = b := by
  rw [show FP.dcmp x y = FP.Core.dcmp x y from rfl, dcmp_eq]
  constructor
  · rintro ⟨-, -, h⟩
    have h2 : ((zval b64 (val64 x) : Int) : Rat) = ((zval b64 (val64 y) : Int) : Rat) := by rw [h]
    rw [own_zval hx, own_zval hy] at h2
    have h3 := own_p_ne 1074
    calc a = a * 2 ^ (1074 : Int) / 2 ^ (1074 : Int) := (Rat.mul_div_cancel h3).symm
      _ = b * 2 ^ (1074 : Int) / 2 ^ (1074 : Int) := by rw [h2]
      _ = b := Rat.mul_div_cancel h3
  · rintro rfl
    exact ⟨own_is_nn hx, own_is_nn hy, Rat.intCast_inj.mp (by rw [own_zval hx, own_zval hy])⟩
theorem own_rd_of {x : UInt64} {r : Rat} (h : own_is x r) : own_rd x r := by
  obtain ⟨s, c, q, h1, rfl⟩ := h
  have hf := val64_fits x
  rw [h1] at hf
  refine ⟨s, c, 1, q, by decide, h1.trans (round_of_fits good_b64 hf).symm, ?_⟩
  rw [show (((1 : Nat) : Rat)) = 1 from rfl, Rat.div_def, own_inv1, Rat.mul_one]
theorem own_rd_nn {x : UInt64} {r : Rat} (h : own_rd x r) : val64 x ≠ .nan := by
  obtain ⟨s, A, B, e, -, h1, -⟩ := h; rw [h1]; exact roundRatio_ne_nan _ _ _ _ _
theorem own_rd_no {x : UInt64} {r : Rat} (h : own_rd x r) : NoNaN64 x := val64_no.mpr (own_rd_nn h)
/-- the magnitude of a ratio -/
theorem own_signed_zero {s : Bool} {A : Nat} : ((signed s A : Int) : Rat) = 0 ↔ A = 0 := by
  rw [Rat.intCast_eq_zero_iff, signed_eq_zero]
theorem own_ratio_zero {s : Bool} {A B : Nat} {e : Int} (hB : 0 < B) : ((signed s A : Int) : Rat) / ((B : Nat) : Rat) * (2 : Rat) ^ e = 0 ↔ A = 0 := by
  have hb : ((B : Nat) : Rat) ≠ 0 := by rw [Ne, Rat.natCast_eq_zero_iff]; omega
  constructor
  · intro h
    rcases Rat.mul_eq_zero.mp h with h | h
    · rw [Rat.div_def] at h
      rcases Rat.mul_eq_zero.mp h with h | h
      · exact own_signed_zero.mp h
      · exact absurd (by rw [← Rat.inv_inv ((B : Nat) : Rat), h, Rat.inv_zero]) hb
    · exact absurd h (own_p_ne e)
  · rintro rfl
    rw [own_signed_zero.mpr rfl, Rat.div_def, Rat.zero_mul, Rat.zero_mul]
end OwnNum
section OwnNum2
open Jvm.FP.Core Jvm.Free.Fl
theorem own_nat_pos {B : Nat} (h : 0 < B) : (0 : Rat) < ((B : Nat) : Rat) := Rat.natCast_pos.mpr h
theorem own_nat_ne {B : Nat} (h : 0 < B) : ((B : Nat) : Rat) ≠ 0 := Rat.ne_of_gt (own_nat_pos h)
theorem own_cross {a b a' b' P P' : Rat} (hb : b ≠ 0) (hb' : b' ≠ 0) (h : a / b * P = a' / b' * P') : a * b' * P = a' * b * P' := by
  have h1 : a = a / b * b := (Rat.div_mul_cancel hb).symm
  have h2 : a' = a' / b' * b' := (Rat.div_mul_cancel hb').symm
  generalize a / b = u at *
  generalize a' / b' = w at *
  subst h1 h2
  grind
theorem own_cancel {a b P : Rat} (hP : P ≠ 0) (h : a * P = b * P) : a = b := by
  rw [← Rat.mul_div_cancel (a := a) hP, h, Rat.mul_div_cancel hP]
theorem own_sig_eq {s s' : Bool} {X Y : Nat} (hX : 0 < X) (h : signed s X = signed s' Y) : s = s' ∧ X = Y := by
  cases s <;> cases s' <;> simp only [signed, Bool.false_eq_true, if_true, if_false] at h <;> first | exact ⟨rfl, by omega⟩ | omega
theorem own_ratio_le {s s' : Bool} {A B A' B' : Nat} {e e' : Int} (hB : 0 < B) (hB' : 0 < B') (hA : 0 < A) (hle : e' ≤ e)
    (h : ((signed s A : Int) : Rat) / ((B : Nat) : Rat) * (2 : Rat) ^ e = ((signed s' A' : Int) : Rat) / ((B' : Nat) : Rat) * (2 : Rat) ^ e') :
    s = s' ∧ A * B' * 2 ^ (e - e').toNat = A' * B := by
  have h1 := own_cross (own_nat_ne hB) (own_nat_ne hB') h
  have h2 : (2 : Rat) ^ e = 2 ^ (e - e') * 2 ^ e' := by rw [← own_p_add]; congr 1; omega
  rw [h2, ← Rat.mul_assoc] at h1
  have h3 := own_cancel (own_p_ne e') h1
  rw [← own_p_toNat (by omega), ← own_signed_cast, ← own_signed_cast, ← own_signed_cast, Rat.intCast_inj] at h3
  exact own_sig_eq (Nat.mul_pos (Nat.mul_pos hA hB') (Nat.two_pow_pos _)) h3
theorem own_ratio_eq {s s' : Bool} {A B A' B' : Nat} {e e' : Int} (hB : 0 < B) (hB' : 0 < B') (hA : 0 < A)
    (h : ((signed s A : Int) : Rat) / ((B : Nat) : Rat) * (2 : Rat) ^ e = ((signed s' A' : Int) : Rat) / ((B' : Nat) : Rat) * (2 : Rat) ^ e') :
    s = s' ∧ roundRatio b64 s A B e = roundRatio b64 s' A' B' e' := by
  have hA' : 0 < A' := by
    rcases Nat.eq_zero_or_pos A' with h0 | h0
    · rw [(own_ratio_zero hB').mpr h0, own_ratio_zero hB] at h; omega
    · exact h0
  rcases Int.le_total e' e with hle | hle
  · obtain ⟨rfl, h1⟩ := own_ratio_le hB hB' hA hle h
    refine ⟨rfl, roundRatio_congr hB hB' ?_⟩
    rw [h1, show (e' - e).toNat = 0 by omega]; simp
  · obtain ⟨rfl, h1⟩ := own_ratio_le hB' hB hA' hle h.symm
    refine ⟨rfl, (roundRatio_congr hB' hB ?_).symm⟩
    rw [h1, show (e - e').toNat = 0 by omega]; simp
theorem own_rd_uniq {x y : UInt64} {r : Rat} (hx : own_rd x r) (hy : own_rd y r) : FP.dcmp x y = some .eq := by
  obtain ⟨s, A, B, e, hB, hv, hr⟩ := hx
  obtain ⟨s', A', B', e', hB', hv', hr'⟩ := hy
  rcases Nat.eq_zero_or_pos A with hA | hA
  · have hA' : A' = 0 := by rw [← own_ratio_zero hB' (s := s') (e := e'), ← hr', hr]; exact (own_ratio_zero hB).mpr hA
    subst hA hA'
    rw [show FP.dcmp x y = FP.Core.dcmp x y from rfl, dcmp_eq, hv, hv']
    refine ⟨roundRatio_ne_nan _ _ _ _ _, roundRatio_ne_nan _ _ _ _ _, ?_⟩
    show zval b64 (.fin s 0 b64.qmin) = zval b64 (.fin s' 0 b64.qmin)
    cases s <;> cases s' <;> decide
  · obtain ⟨-, h1⟩ := own_ratio_eq hB hB' hA (hr.symm.trans hr')
    have h2 : val64 x ≠ .nan := by rw [hv]; exact roundRatio_ne_nan _ _ _ _ _
    have h3 : x = y := val64_inj h2 (by rw [hv, hv', h1])
    subst h3
    exact dcmp_refl ((notNaN_iff x).mpr h2)
/-- exact where the rational has 53 digits -/
theorem own_rd_exact {x : UInt64} {r : Rat} (h : own_rd x r) {m : Int} {k : Int} (hr : r = (m : Rat) * (2 : Rat) ^ k) (hm : m.natAbs < 2 ^ 53) (hk : -1074 ≤ k) (hk2 : k ≤ 971) : own_is x r := by
  obtain ⟨s, A, B, e, hB, hv, hr0⟩ := h
  have hcan : ∀ (t : Bool), ((signed t m.natAbs : Int) : Rat) * (2 : Rat) ^ k = r → roundRatio b64 s A B e = round b64 (.fin t m.natAbs k) → own_is x r := by
    intro t ht hq
    obtain ⟨c', q', h1, h2⟩ := round_exact good_b64 t (c := m.natAbs) (q := k) hm (by rw [qmin_b64]; exact hk) (by exact hk2)
    have hx : val64 x = .fin t c' q' := by rw [hv, hq, h1]
    refine ⟨t, c', q', hx, ?_⟩
    have hf := val64_fits x
    rw [hx] at hf
    have z1 := own_zmag hf
    have z2 : ((inUnits c' q' b64.qmin : Nat) : Rat) = ((m.natAbs : Nat) : Rat) * 2 ^ k * 2 ^ (1074 : Int) := by
      rw [h2]; unfold inUnits
      rw [Rat.natCast_mul, own_p_toNat (by rw [qmin_b64]; omega), qmin_b64, show k - (-1074) = k + 1074 by omega, own_p_add, Rat.mul_assoc]
    have z3 : (c' : Rat) * 2 ^ q' = ((m.natAbs : Nat) : Rat) * 2 ^ k := own_cancel (own_p_ne 1074) (z1.symm.trans z2)
    rw [← ht]
    cases t
    · exact z3.symm
    · show ((-(m.natAbs : Int) : Int) : Rat) * _ = ((-(c' : Int) : Int) : Rat) * _
      rw [Rat.intCast_neg, Rat.intCast_neg, Rat.neg_mul, Rat.neg_mul]
      exact congrArg _ z3.symm
  rcases Nat.eq_zero_or_pos A with hA | hA
  · have h0 : r = 0 := by rw [hr0]; exact (own_ratio_zero hB).mpr hA
    have hm0 : m = 0 := by
      rw [h0] at hr
      rcases Rat.mul_eq_zero.mp hr.symm with h1 | h1
      · exact Rat.intCast_eq_zero_iff.mp h1
      · exact absurd h1 (own_p_ne k)
    subst hm0 hA
    refine hcan s ?_ ?_
    · rw [h0]; cases s <;> simp [signed]
    · show Datum.fin s 0 b64.qmin = Datum.fin s 0 b64.qmin
      rfl
  · have h1 : ((signed s A : Int) : Rat) / ((B : Nat) : Rat) * (2 : Rat) ^ e = ((signed (decide (m < 0)) m.natAbs : Int) : Rat) / (((1 : Nat) : Nat) : Rat) * (2 : Rat) ^ k := by
      rw [← hr0, hr, show (((1 : Nat) : Rat)) = 1 from rfl, Rat.div_def, own_inv1, Rat.mul_one]
      congr 2
      unfold signed
      by_cases hmn : m < 0 <;> simp [hmn] <;> omega
    obtain ⟨-, h2⟩ := own_ratio_eq hB (by decide) hA h1
    refine hcan (decide (m < 0)) ?_ h2
    rw [hr]
    congr 2
    unfold signed
    by_cases hmn : m < 0 <;> simp [hmn] <;> omega
theorem own_add {x y : UInt64} {a b : Rat} (hx : own_is x a) (hy : own_is y b) : own_rd (FP.dadd x y) (a + b) := by
  obtain ⟨s, c, q, h1, rfl⟩ := hx
  obtain ⟨t, d, r, h2, rfl⟩ := hy
  refine ⟨_, _, 1, min q r, by decide, (val64_dadd x y).trans (by rw [h1, h2]; rfl), ?_⟩
  rw [signed_sumSign, show (((1 : Nat) : Rat)) = 1 from rfl, Rat.div_def, own_inv1, Rat.mul_one]
  unfold sumUnits inUnits
  rw [Rat.intCast_add, own_signed_cast, own_signed_cast, own_p_toNat (by omega), own_p_toNat (by omega), Rat.add_mul, Rat.mul_assoc, Rat.mul_assoc, ← own_p_add, ← own_p_add, show q - min q r + min q r = q by omega, show r - min q r + min q r = r by omega]
theorem own_neg {x : UInt64} {a : Rat} (hx : own_is x a) : own_is (FP.dneg x) (-a) := by
  obtain ⟨s, c, q, h1, rfl⟩ := hx
  refine ⟨!s, c, q, (FP.val64_dneg x).trans (by rw [h1]; rfl), ?_⟩
  rw [signed_not, Rat.intCast_neg, Rat.neg_mul]
theorem own_sub {x y : UInt64} {a b : Rat} (hx : own_is x a) (hy : own_is y b) : own_rd (FP.dsub x y) (a - b) := by
  have h : val64 (FP.dsub x y) = val64 (FP.dadd x (FP.dneg y)) := by
    rw [show val64 (FP.dsub x y) = _ from val64_dsub x y, show val64 (FP.dadd x (FP.dneg y)) = _ from val64_dadd x (FP.dneg y), FP.val64_dneg]
  obtain ⟨s, A, B, e, hB, hv, hr⟩ := own_add hx (own_neg hy)
  exact ⟨s, A, B, e, hB, h.trans hv, by rw [Rat.sub_eq_add_neg]; exact hr⟩
theorem own_mul {x y : UInt64} {a b : Rat} (hx : own_is x a) (hy : own_is y b) : own_rd (FP.dmul x y) (a * b) := by
  obtain ⟨s, c, q, h1, rfl⟩ := hx
  obtain ⟨t, d, r, h2, rfl⟩ := hy
  refine ⟨s != t, c * d, 1, q + r, by decide, (val64_dmul x y).trans (by rw [h1, h2]; rfl), ?_⟩
  rw [signed_xor, Rat.intCast_mul, own_p_add, show (((1 : Nat) : Rat)) = 1 from rfl, Rat.div_def, own_inv1, Rat.mul_one]
  grind
theorem own_div {x y : UInt64} {a b : Rat} (hx : own_is x a) (hy : own_is y b) (hb : b ≠ 0) : own_rd (FP.ddiv x y) (a / b) := by
  obtain ⟨s, c, q, h1, rfl⟩ := hx
  obtain ⟨t, d, r, h2, rfl⟩ := hy
  have hd : d ≠ 0 := by
    rintro rfl
    exact hb (by rw [own_signed_zero.mpr rfl, Rat.zero_mul])
  refine ⟨s != t, c, d, q - r, by omega, (val64_ddiv x y).trans (by rw [h1, h2]; show (if d = 0 then _ else _) = _; rw [if_neg hd]), ?_⟩
  have hd' : ((d : Nat) : Rat) ≠ 0 := own_nat_ne (by omega)
  have e1 : (2 : Rat) ^ q = 2 ^ (q - r) * 2 ^ r := by rw [← own_p_add]; congr 1; omega
  have e2 := own_p_ne r
  rw [e1]
  generalize (2 : Rat) ^ (q - r) = P
  generalize (2 : Rat) ^ r = W at *
  cases s <;> cases t <;> simp only [signed, Bool.false_eq_true, if_true, if_false, bne_self_eq_false, Rat.intCast_neg, Rat.intCast_natCast, Bool.bne_true, Bool.bne_false, Bool.not_false, Bool.not_true] <;> grind
theorem own_rdL (a : Int64) : own_rd (FP.l2d a) ((a.toInt : Int) : Rat) := by
  refine ⟨decide (a.toInt < 0), a.toInt.natAbs, 1, 0, by decide, val64_l2d a, ?_⟩
  rw [show (((1 : Nat) : Rat)) = 1 from rfl, Rat.div_def, own_inv1, Rat.mul_one, Rat.zpow_zero, Rat.mul_one]
  congr 1
  unfold signed
  by_cases hmn : a.toInt < 0 <;> simp [hmn] <;> omega
theorem own_isI (a : Int32) : own_is (FP.i2d a) ((a.toInt : Int) : Rat) := by
  have h : FP.i2d a = FP.l2d a.toInt64 := i2d_l2d a
  have h2 := own_rdL a.toInt64
  rw [Int32.toInt_toInt64] at h2
  rw [h]
  refine own_rd_exact h2 (m := a.toInt) (k := 0) (by rw [Rat.zpow_zero, Rat.mul_one]) ?_ (by decide) (by decide)
  have := a.le_toInt; have := a.toInt_lt; omega
end OwnNum2
section OwnNum3
open Jvm.FP.Core Jvm.Free.Fl
theorem own_units {A B : Nat} {e : Int} {c : Nat} {q : Int} {s : Bool} (hf : FP.Core.fits b64 (.fin s c q)) (e0 : Int) (h0 : e0 ≤ b64.qmin) (h0e : e0 ≤ e) :
    (((inUnits A e e0 : Nat) : Rat) = (A : Rat) * 2 ^ e * 2 ^ (-e0)) ∧ (((zmag b64 (.fin s c q) * 2 ^ (b64.qmin - e0).toNat * B : Nat) : Rat) = ((c : Rat) * 2 ^ q) * (B : Rat) * 2 ^ (-e0)) := by
  constructor
  · unfold inUnits
    rw [Rat.natCast_mul, own_p_toNat (by omega), show e - e0 = e + -e0 by omega, own_p_add, Rat.mul_assoc]
  · rw [Rat.natCast_mul, Rat.natCast_mul, own_zmag hf, own_p_toNat (by omega), show b64.qmin - e0 = -1074 + -e0 by rw [qmin_b64]; omega, own_p_add]
    have := own_p_neg 1074
    grind
theorem own_div_le {a b w : Rat} (hb : 0 < b) : a / b ≤ w ↔ a ≤ w * b := by
  have h1 : a = a / b * b := (Rat.div_mul_cancel (Rat.ne_of_gt hb)).symm
  constructor
  · intro h; rw [h1]; exact Rat.mul_le_mul_of_nonneg_right h (Rat.le_of_lt hb)
  · intro h; rw [h1] at h; exact Rat.le_of_mul_le_mul_right h hb
theorem own_le_div {a b w : Rat} (hb : 0 < b) : w ≤ a / b ↔ w * b ≤ a := by
  have h1 : a = a / b * b := (Rat.div_mul_cancel (Rat.ne_of_gt hb)).symm
  constructor
  · intro h; rw [h1]; exact Rat.mul_le_mul_of_nonneg_right h (Rat.le_of_lt hb)
  · intro h; rw [h1] at h; exact Rat.le_of_mul_le_mul_right h hb
theorem own_mag_le {A B : Nat} {e : Int} {s t : Bool} {c : Nat} {q : Int} (hB : 0 < B) (hf : FP.Core.fits b64 (.fin t c q)) (h : (A : Rat) / (B : Rat) * 2 ^ e ≤ (c : Rat) * 2 ^ q) : zmag b64 (roundRatio b64 s A B e) ≤ zmag b64 (.fin t c q) := by
  obtain ⟨u1, u2⟩ := own_units (A := A) (B := B) (e := e) hf (min e b64.qmin) (by omega) (by omega)
  refine zmag_roundRatio_le good_b64 hB hf Datum.noConfusion (e0 := min e b64.qmin) (by omega) (by omega) (Rat.natCast_le_natCast.mp ?_)
  rw [u1, u2]
  refine Rat.mul_le_mul_of_nonneg_right ?_ (Rat.le_of_lt (own_p_pos _))
  have hb := own_nat_pos hB
  have h2 := Rat.mul_le_mul_of_nonneg_right h (Rat.le_of_lt hb)
  have h3 : (A : Rat) / (B : Rat) * 2 ^ e * (B : Rat) = (A : Rat) * 2 ^ e := by
    rw [Rat.mul_assoc, Rat.mul_comm ((2 : Rat) ^ e), ← Rat.mul_assoc, Rat.div_mul_cancel (own_nat_ne hB)]
  rw [h3] at h2
  exact h2
theorem own_mag_ge {A B : Nat} {e : Int} {s t : Bool} {c : Nat} {q : Int} (hB : 0 < B) (hf : FP.Core.fits b64 (.fin t c q)) (h : (c : Rat) * 2 ^ q ≤ (A : Rat) / (B : Rat) * 2 ^ e) : zmag b64 (.fin t c q) ≤ zmag b64 (roundRatio b64 s A B e) := by
  obtain ⟨u1, u2⟩ := own_units (A := A) (B := B) (e := e) hf (min e b64.qmin) (by omega) (by omega)
  refine zmag_roundRatio_ge good_b64 hB hf (e0 := min e b64.qmin) (by omega) (by omega) (Rat.natCast_le_natCast.mp ?_)
  rw [u1, u2]
  refine Rat.mul_le_mul_of_nonneg_right ?_ (Rat.le_of_lt (own_p_pos _))
  have hb := own_nat_pos hB
  have h2 := Rat.mul_le_mul_of_nonneg_right h (Rat.le_of_lt hb)
  have h3 : (A : Rat) / (B : Rat) * 2 ^ e * (B : Rat) = (A : Rat) * 2 ^ e := by
    rw [Rat.mul_assoc, Rat.mul_comm ((2 : Rat) ^ e), ← Rat.mul_assoc, Rat.div_mul_cancel (own_nat_ne hB)]
  rw [h3] at h2
  exact h2
theorem own_signed_ratio (s : Bool) (A B : Nat) (e : Int) : ((signed s A : Int) : Rat) / ((B : Nat) : Rat) * (2 : Rat) ^ e = if s then -((A : Rat) / (B : Rat) * 2 ^ e) else (A : Rat) / (B : Rat) * 2 ^ e := by
  cases s
  · rfl
  · show ((-(A : Int) : Int) : Rat) / _ * _ = _
    rw [Rat.intCast_neg, Rat.div_def, Rat.neg_mul, Rat.neg_mul]; rfl
theorem own_signed_pow (s : Bool) (c : Nat) (q : Int) : ((signed s c : Int) : Rat) * (2 : Rat) ^ q = if s then -((c : Rat) * 2 ^ q) else (c : Rat) * 2 ^ q := by
  cases s
  · rfl
  · show ((-(c : Int) : Int) : Rat) * _ = _
    rw [Rat.intCast_neg, Rat.neg_mul]; rfl
theorem own_ratio_nonneg (A B : Nat) (e : Int) : 0 ≤ (A : Rat) / (B : Rat) * 2 ^ e := by
  refine Rat.mul_nonneg ?_ (Rat.le_of_lt (own_p_pos e))
  rcases Nat.eq_zero_or_pos B with rfl | hB
  · rw [Rat.div_def]; exact Rat.mul_nonneg Rat.natCast_nonneg (by rw [show ((0 : Nat) : Rat) = 0 from rfl, Rat.inv_zero]; exact Rat.le_refl)
  · rw [own_le_div (own_nat_pos hB), Rat.zero_mul]; exact Rat.natCast_nonneg
theorem own_rd_le {x V : UInt64} {r y : Rat} (h : own_rd x r) (hV : own_is V y) (hle : r ≤ y) : zval b64 (val64 x) ≤ zval b64 (val64 V) := by
  obtain ⟨s, A, B, e, hB, hv, hr⟩ := h
  obtain ⟨t, c, q, hVv, hy⟩ := hV
  have hf := val64_fits V
  rw [hVv] at hf
  rw [hv, hVv]
  have m1 := own_mag_le (A := A) (e := e) (s := s) hB hf
  have m2 := own_mag_ge (A := A) (e := e) (s := s) hB hf
  unfold zval
  rw [sgn_roundRatio]
  show _ ≤ signed t (zmag b64 (.fin t c q))
  rw [own_signed_ratio] at hr
  rw [own_signed_pow] at hy
  have p1 := own_ratio_nonneg A B e
  have p2 : 0 ≤ (c : Rat) * 2 ^ q := Rat.mul_nonneg Rat.natCast_nonneg (Rat.le_of_lt (own_p_pos q))
  have hz : (c : Rat) * 2 ^ q ≤ 0 → zmag b64 (.fin t c q) = 0 := by
    intro h0
    have h1 : (c : Rat) * 2 ^ q = 0 := Rat.le_antisymm h0 p2
    have h2 := own_zmag hf
    rw [h1, Rat.zero_mul] at h2
    exact Rat.natCast_eq_zero_iff.mp h2
  generalize (A : Rat) / (B : Rat) * 2 ^ e = ra at *
  generalize (c : Rat) * 2 ^ q = rc at *
  generalize zmag b64 (roundRatio b64 s A B e) = za at *
  generalize zmag b64 (.fin t c q) = zc at *
  cases s <;> cases t <;> simp only [signed, Bool.false_eq_true, if_true, if_false] at hr hy ⊢
  · have := m1 (by grind); omega
  · have := m1 (by grind); have := hz (by grind); omega
  · omega
  · have := m2 (by grind); omega
theorem own_rd_neg {x : UInt64} {r : Rat} (h : own_rd x r) : own_rd (FP.dneg x) (-r) := by
  obtain ⟨s, A, B, e, hB, hv, hr⟩ := h
  refine ⟨!s, A, B, e, hB, (FP.val64_dneg x).trans (by rw [hv, negate_roundRatio]), ?_⟩
  rw [hr, signed_not, Rat.intCast_neg, Rat.div_def, Rat.div_def, Rat.neg_mul, Rat.neg_mul]
theorem own_zval_neg (x : UInt64) : zval b64 (val64 (FP.dneg x)) = -zval b64 (val64 x) := by
  rw [show val64 (FP.dneg x) = negate (val64 x) from FP.val64_dneg x, zval_negate]
theorem own_rd_ge {x V : UInt64} {r y : Rat} (h : own_rd x r) (hV : own_is V y) (hle : y ≤ r) : zval b64 (val64 V) ≤ zval b64 (val64 x) := by
  have h1 := own_rd_le (own_rd_neg h) (own_neg hV) (Rat.neg_le_neg hle)
  rw [own_zval_neg, own_zval_neg] at h1
  omega
theorem own_big : own_is 9110782046170513408 ((2 : Rat) ^ (1000 : Int)) := ⟨false, 2 ^ 52, 948, by decide +kernel, by
  show _ = (((2 ^ 52 : Nat) : Rat)) * _
  rw [own_p_nat, ← own_p_add]; rfl⟩
theorem own_rd_fin {x : UInt64} {r : Rat} (h : own_rd x r) (h1 : r ≤ (2 : Rat) ^ (1000 : Int)) (h2 : -((2 : Rat) ^ (1000 : Int)) ≤ r) : ∃ v, own_is x v := by
  have l1 := own_rd_le h own_big h1
  have l2 := own_rd_ge h (own_neg own_big) h2
  rw [own_zval_neg] at l2
  obtain ⟨s, A, B, e, hB, hv, hr⟩ := h
  rcases roundRatio_cases b64 s A B e with ⟨c, q, hc⟩ | hc
  · exact ⟨_, s, c, q, hv.trans hc, rfl⟩
  · rw [hv, hc] at l1 l2
    cases s
    · exact absurd l1 (by decide +kernel)
    · exact absurd l2 (by decide +kernel)
theorem own_rd_le' {x V : UInt64} {r v y : Rat} (h : own_rd x r) (hx : own_is x v) (hV : own_is V y) (hle : r ≤ y) : v ≤ y := by
  have h1 := own_rd_le h hV hle
  refine Rat.not_lt.mp fun h2 => ?_
  have h3 := (dcmp_lt.mp ((own_is_lt hV hx).mpr h2)).2.2
  omega
theorem own_rd_ge' {x V : UInt64} {r v y : Rat} (h : own_rd x r) (hx : own_is x v) (hV : own_is V y) (hle : y ≤ r) : y ≤ v := by
  have h1 := own_rd_ge h hV hle
  refine Rat.not_lt.mp fun h2 => ?_
  have h3 := (dcmp_lt.mp ((own_is_lt hx hV).mpr h2)).2.2
  omega
/-- every rational of 53 digits is a double -/
theorem own_rep {m k : Int} (hm : m.natAbs < 2 ^ 53) (hk : -1074 ≤ k) (hk2 : k ≤ 971) : ∃ V, own_is V ((m : Rat) * (2 : Rat) ^ k) := by
  have hf : FP.Core.fits b64 (roundRatio b64 (decide (m < 0)) m.natAbs 1 k) := roundRatio_fits good_b64 _ _ (by decide) _
  refine ⟨of64 (roundRatio b64 (decide (m < 0)) m.natAbs 1 k), own_rd_exact ⟨decide (m < 0), m.natAbs, 1, k, by decide, val64_of64 hf, ?_⟩ rfl hm hk hk2⟩
  rw [show (((1 : Nat) : Rat)) = 1 from rfl, Rat.div_def, own_inv1, Rat.mul_one]
  congr 2
  unfold signed
  by_cases hmn : m < 0 <;> simp [hmn] <;> omega
end OwnNum3
section OwnNum4
open Jvm.FP.Core Jvm.Free.Fl
theorem own_two200 : (1606938044258990275541962092341162602522202993782792835301376 : Rat) ≤ (2 : Rat) ^ (1000 : Int) := by decide +kernel
theorem own_rd_finN {x : UInt64} {r : Rat} (h : own_rd x r) (h1 : r ≤ 1606938044258990275541962092341162602522202993782792835301376) (h2 : -1606938044258990275541962092341162602522202993782792835301376 ≤ r) : ∃ v, own_is x v :=
  own_rd_fin h (Rat.le_trans h1 own_two200) (Rat.le_trans (Rat.neg_le_neg own_two200) h2)
theorem own_zero : own_is 0 0 := ⟨false, 0, -1074, by decide +kernel, by decide +kernel⟩
theorem own_one : own_is 4607182418800017408 1 := ⟨false, 2 ^ 52, -52, by decide +kernel, by decide +kernel⟩
theorem own_rep' {m k : Int} {r : Rat} (hr : r = (m : Rat) * (2 : Rat) ^ k) (hm : m.natAbs < 2 ^ 53) (hk : -1074 ≤ k) (hk2 : k ≤ 971) : ∃ V, own_is V r := by rw [hr]; exact own_rep hm hk hk2
theorem own_cmpv {x y : UInt64} {a b : Rat} (hx : own_is x a) (hy : own_is y b) (o : ClassFile.CmpOp) : Op.cmpValue (FP.dcmp x y) o = if a < b then -1 else if a = b then 0 else 1 := by
  by_cases h1 : a < b
  · rw [(own_is_lt hx hy).mpr h1, if_pos h1]; rfl
  · by_cases h2 : a = b
    · rw [(own_is_eq hx hy).mpr h2, if_neg h1, if_pos h2]; rfl
    · have h3 : b < a := by grind
      rw [(own_is_gt hx hy).mpr h3, if_neg h1, if_neg h2]; rfl
theorem own_c_lt {x y : UInt64} {a b : Rat} (hx : own_is x a) (hy : own_is y b) (o : ClassFile.CmpOp) : Op.ifCond.holds .lt (Op.cmpValue (FP.dcmp x y) o) = decide (a < b) := by
  rw [own_cmpv hx hy]; by_cases h1 : a < b <;> by_cases h2 : a = b <;> simp [h1, h2, Op.ifCond.holds]
theorem own_c_ge {x y : UInt64} {a b : Rat} (hx : own_is x a) (hy : own_is y b) (o : ClassFile.CmpOp) : Op.ifCond.holds .ge (Op.cmpValue (FP.dcmp x y) o) = decide (b ≤ a) := by
  rw [own_cmpv hx hy]
  by_cases h1 : a < b
  · simp [h1, Rat.not_le.mpr h1, Op.ifCond.holds]
  · by_cases h2 : a = b <;> simp [h1, h2, Rat.not_lt.mp h1, Op.ifCond.holds, Rat.le_refl]
theorem own_c_gt {x y : UInt64} {a b : Rat} (hx : own_is x a) (hy : own_is y b) (o : ClassFile.CmpOp) : Op.ifCond.holds .gt (Op.cmpValue (FP.dcmp x y) o) = decide (b < a) := by
  rw [own_cmpv hx hy]
  by_cases h1 : a < b
  · have : ¬ b < a := by grind
    simp [h1, this, Op.ifCond.holds]
  · by_cases h2 : a = b
    · subst h2; simp [Rat.lt_irrefl, Op.ifCond.holds]
    · have : b < a := by grind
      simp [h1, h2, this, Op.ifCond.holds]
theorem own_c_le {x y : UInt64} {a b : Rat} (hx : own_is x a) (hy : own_is y b) (o : ClassFile.CmpOp) : Op.ifCond.holds .le (Op.cmpValue (FP.dcmp x y) o) = decide (a ≤ b) := by
  rw [own_cmpv hx hy]
  by_cases h1 : a < b
  · simp [h1, Rat.le_of_lt h1, Op.ifCond.holds]
  · by_cases h2 : a = b
    · subst h2; simp [Rat.lt_irrefl, Rat.le_refl, Op.ifCond.holds]
    · have : ¬ a ≤ b := by grind
      simp [h1, h2, this, Op.ifCond.holds]
theorem own_c_eq {x y : UInt64} {a b : Rat} (hx : own_is x a) (hy : own_is y b) (o : ClassFile.CmpOp) : Op.ifCond.holds .eq (Op.cmpValue (FP.dcmp x y) o) = decide (a = b) := by
  rw [own_cmpv hx hy]
  by_cases h1 : a < b
  · have : ¬ a = b := by grind
    simp [h1, this, Op.ifCond.holds]
  · by_cases h2 : a = b <;> simp [h1, h2, Op.ifCond.holds]
theorem own_c_ne {x y : UInt64} {a b : Rat} (hx : own_is x a) (hy : own_is y b) (o : ClassFile.CmpOp) : Op.ifCond.holds .ne (Op.cmpValue (FP.dcmp x y) o) = decide (a ≠ b) := by
  rw [own_cmpv hx hy]
  by_cases h1 : a < b
  · have : ¬ a = b := by grind
    simp [h1, this, Op.ifCond.holds]
  · by_cases h2 : a = b <;> simp [h1, h2, Op.ifCond.holds]
/-- ints by their values -/
theorem own_i_lt (x y : Int32) : Op.if_icmp.holds .lt x y = decide (x.toInt < y.toInt) := by simp only [Op.if_icmp.holds, Int32.lt_iff_toInt_lt]
theorem own_i_gt (x y : Int32) : Op.if_icmp.holds .gt x y = decide (y.toInt < x.toInt) := by simp only [Op.if_icmp.holds, GT.gt, Int32.lt_iff_toInt_lt]
theorem own_i_le (x y : Int32) : Op.if_icmp.holds .le x y = decide (x.toInt ≤ y.toInt) := by simp only [Op.if_icmp.holds, Int32.le_iff_toInt_le]
theorem own_i_ge (x y : Int32) : Op.if_icmp.holds .ge x y = decide (y.toInt ≤ x.toInt) := by simp only [Op.if_icmp.holds, GE.ge, Int32.le_iff_toInt_le]
theorem own_i_eq (x y : Int32) : Op.if_icmp.holds .eq x y = decide (x = y) := by rw [Bool.eq_iff_iff]; simp [Op.if_icmp.holds]
theorem own_i_ne (x y : Int32) : Op.if_icmp.holds .ne x y = decide (x ≠ y) := by rw [Bool.eq_iff_iff]; simp [Op.if_icmp.holds]
theorem own_z_lt (x : Int32) : Op.ifCond.holds .lt x = decide (x.toInt < 0) := by simp only [Op.ifCond.holds, Int32.lt_iff_toInt_lt]; rfl
theorem own_z_gt (x : Int32) : Op.ifCond.holds .gt x = decide (0 < x.toInt) := by simp only [Op.ifCond.holds, GT.gt, Int32.lt_iff_toInt_lt]; rfl
theorem own_z_le (x : Int32) : Op.ifCond.holds .le x = decide (x.toInt ≤ 0) := by simp only [Op.ifCond.holds, Int32.le_iff_toInt_le]; rfl
theorem own_z_ge (x : Int32) : Op.ifCond.holds .ge x = decide (0 ≤ x.toInt) := by simp only [Op.ifCond.holds, GE.ge, Int32.le_iff_toInt_le]; rfl
theorem own_z_eq (x : Int32) : Op.ifCond.holds .eq x = decide (x = 0) := by rw [Bool.eq_iff_iff]; simp [Op.ifCond.holds]
theorem own_z_ne (x : Int32) : Op.ifCond.holds .ne x = decide (x ≠ 0) := by rw [Bool.eq_iff_iff]; simp [Op.ifCond.holds]
theorem own_lc_lt (x y : Int64) : Op.ifCond.holds .lt (if x > y then (1 : Int32) else if x = y then 0 else -1) = decide (x.toInt < y.toInt) := by
  simp only [GT.gt, Int64.lt_iff_toInt_lt, ← Int64.toInt_inj]
  by_cases h1 : y.toInt < x.toInt
  · simp [h1, Op.ifCond.holds, show ¬ x.toInt < y.toInt by omega]
  · by_cases h2 : x.toInt = y.toInt
    · simp [h2, Op.ifCond.holds]
    · simp [h1, h2, Op.ifCond.holds, show x.toInt < y.toInt by omega]
theorem own_lc_ge (x y : Int64) : Op.ifCond.holds .ge (if x > y then (1 : Int32) else if x = y then 0 else -1) = decide (y.toInt ≤ x.toInt) := by
  simp only [GT.gt, Int64.lt_iff_toInt_lt, ← Int64.toInt_inj]
  by_cases h1 : y.toInt < x.toInt
  · simp [h1, Op.ifCond.holds, show y.toInt ≤ x.toInt by omega]
  · by_cases h2 : x.toInt = y.toInt
    · simp [h2, Op.ifCond.holds]
    · simp [h1, h2, Op.ifCond.holds, show ¬ y.toInt ≤ x.toInt by omega]
theorem own_lc_gt (x y : Int64) : Op.ifCond.holds .gt (if x > y then (1 : Int32) else if x = y then 0 else -1) = decide (y.toInt < x.toInt) := by
  simp only [GT.gt, Int64.lt_iff_toInt_lt, ← Int64.toInt_inj]
  by_cases h1 : y.toInt < x.toInt
  · simp [h1, Op.ifCond.holds]
  · by_cases h2 : x.toInt = y.toInt
    · simp [h2, Op.ifCond.holds]
    · simp [h1, h2, Op.ifCond.holds]
theorem own_lc_le (x y : Int64) : Op.ifCond.holds .le (if x > y then (1 : Int32) else if x = y then 0 else -1) = decide (x.toInt ≤ y.toInt) := by
  simp only [GT.gt, Int64.lt_iff_toInt_lt, ← Int64.toInt_inj]
  by_cases h1 : y.toInt < x.toInt
  · simp [h1, Op.ifCond.holds, show ¬ x.toInt ≤ y.toInt by omega]
  · by_cases h2 : x.toInt = y.toInt
    · simp [h2, Op.ifCond.holds]
    · simp [h1, h2, Op.ifCond.holds, show x.toInt ≤ y.toInt by omega]
theorem own_lc_eq (x y : Int64) : Op.ifCond.holds .eq (if x > y then (1 : Int32) else if x = y then 0 else -1) = decide (x.toInt = y.toInt) := by
  simp only [GT.gt, Int64.lt_iff_toInt_lt, ← Int64.toInt_inj]
  by_cases h1 : y.toInt < x.toInt
  · simp [h1, Op.ifCond.holds, show ¬ x.toInt = y.toInt by omega]
  · by_cases h2 : x.toInt = y.toInt
    · simp [h2, Op.ifCond.holds]
    · simp [h1, h2, Op.ifCond.holds]
theorem own_lc_ne (x y : Int64) : Op.ifCond.holds .ne (if x > y then (1 : Int32) else if x = y then 0 else -1) = decide (x.toInt ≠ y.toInt) := by
  simp only [GT.gt, Int64.lt_iff_toInt_lt, ← Int64.toInt_inj]
  by_cases h1 : y.toInt < x.toInt
  · simp [h1, Op.ifCond.holds, show ¬ x.toInt = y.toInt by omega]
  · by_cases h2 : x.toInt = y.toInt
    · simp [h2, Op.ifCond.holds]
    · simp [h1, h2, Op.ifCond.holds]
end OwnNum4
section OwnNum5
open Jvm.FP.Core Jvm.Free.Fl
/-- no number of 53 digits is nearer than the rounded one -/
theorem own_near {s : Bool} {A B : Nat} {e : Int} {c : Nat} {q : Int} (hB : 0 < B) (hR : roundRatio b64 s A B e = .fin s c q) {c' : Nat} {q' : Int} (hc' : c' < 2 ^ 53) (hq' : -1074 ≤ q') {D : Rat}
    (h1 : (c' : Rat) * 2 ^ q' - (A : Rat) / (B : Rat) * 2 ^ e ≤ D) (h2 : (A : Rat) / (B : Rat) * 2 ^ e - (c' : Rat) * 2 ^ q' ≤ D) :
    (c : Rat) * 2 ^ q - (A : Rat) / (B : Rat) * 2 ^ e ≤ D ∧ (A : Rat) / (B : Rat) * 2 ^ e - (c : Rat) * 2 ^ q ≤ D := by
  have hfit : FP.Core.fits b64 (.fin s c q) := hR ▸ roundRatio_fits good_b64 s A hB e
  have hqm : (-1074 : Int) ≤ q := by have := hfit.2.1; rw [qmin_b64] at this; exact this
  obtain ⟨e0, he0, he1⟩ : ∃ e0 : Int, e0 ≤ -1074 ∧ e0 ≤ e := ⟨min e (-1074), by omega, by omega⟩
  have hd := roundRatio_nearest good_b64 hB hR hc' (by rw [qmin_b64]; exact hq') (e0 := e0) (by rw [qmin_b64]; exact he0) he1
  unfold distance at hd
  have hb := own_nat_pos hB
  have hp := own_p_pos (-e0)
  have cU : ∀ (n : Nat) (j : Int), e0 ≤ j → ((inUnits n j e0 : Nat) : Rat) = (n : Rat) * 2 ^ j * 2 ^ (-e0) := by
    intro n j hj
    unfold inUnits
    rw [Rat.natCast_mul, own_p_toNat (by omega), show j - e0 = j + -e0 by omega, own_p_add, Rat.mul_assoc]
  have uA := cU A e he1
  have uc := cU c q (by omega)
  have uc' := cU c' q' (by omega)
  have hA : (A : Rat) / (B : Rat) * 2 ^ e * (B : Rat) = (A : Rat) * 2 ^ e := by
    rw [Rat.mul_assoc, Rat.mul_comm ((2 : Rat) ^ e), ← Rat.mul_assoc, Rat.div_mul_cancel (own_nat_ne hB)]
  generalize (A : Rat) / (B : Rat) * 2 ^ e = a at *
  generalize hx : ((inUnits A e e0 : Nat) : Int) - ((inUnits c q e0 : Nat) : Int) * (B : Int) = x at hd
  generalize hy : ((inUnits A e e0 : Nat) : Int) - ((inUnits c' q' e0 : Nat) : Int) * (B : Int) = y at hd
  have ex : (x : Rat) = (a - (c : Rat) * 2 ^ q) * ((B : Rat) * 2 ^ (-e0)) := by
    rw [← hx, Rat.intCast_sub, Rat.intCast_mul, Rat.intCast_natCast, Rat.intCast_natCast, Rat.intCast_natCast, uA, uc, ← hA]
    grind
  have ey : (y : Rat) = (a - (c' : Rat) * 2 ^ q') * ((B : Rat) * 2 ^ (-e0)) := by
    rw [← hy, Rat.intCast_sub, Rat.intCast_mul, Rat.intCast_natCast, Rat.intCast_natCast, Rat.intCast_natCast, uA, uc', ← hA]
    grind
  have hK : (0 : Rat) < (B : Rat) * 2 ^ (-e0) := Rat.mul_pos hb hp
  generalize (B : Rat) * 2 ^ (-e0) = K at *
  generalize (c : Rat) * 2 ^ q = u at *
  generalize (c' : Rat) * 2 ^ q' = w at *
  have yD1 : (y : Rat) ≤ D * K := by rw [ey]; exact Rat.mul_le_mul_of_nonneg_right h2 (Rat.le_of_lt hK)
  have yD2 : -(y : Rat) ≤ D * K := by
    rw [ey]
    have := Rat.mul_le_mul_of_nonneg_right h1 (Rat.le_of_lt hK)
    grind
  have k1 : (x ≤ y ∨ x ≤ -y) ∧ (-x ≤ y ∨ -x ≤ -y) := by omega
  have x1 : (x : Rat) ≤ D * K := by
    rcases k1.1 with k | k
    · exact Rat.le_trans (Rat.intCast_le_intCast.mpr k) yD1
    · have := Rat.intCast_le_intCast.mpr k
      rw [Rat.intCast_neg] at this
      exact Rat.le_trans this yD2
  have x2 : -(x : Rat) ≤ D * K := by
    rw [← Rat.intCast_neg]
    rcases k1.2 with k | k
    · exact Rat.le_trans (Rat.intCast_le_intCast.mpr k) yD1
    · have := Rat.intCast_le_intCast.mpr k
      rw [Rat.intCast_neg y] at this
      exact Rat.le_trans this yD2
  rw [ex] at x1 x2
  constructor
  · refine Rat.le_of_mul_le_mul_right ?_ hK
    grind
  · refine Rat.le_of_mul_le_mul_right ?_ hK
    exact x1
theorem own_grid {a : Rat} {k : Int} (h0 : 0 ≤ a) (hk : a ≤ (2 : Rat) ^ k) : ∃ n : Nat, n ≤ 2 ^ 53 ∧ (n : Rat) * 2 ^ (k - 53) - a ≤ 2 ^ (k - 54) ∧ a - (n : Rat) * 2 ^ (k - 53) ≤ 2 ^ (k - 54) := by
  have hu := own_p_pos (k - 53)
  have e1 : (2 : Rat) ^ k = 2 ^ (k - 53) * 9007199254740992 := by
    rw [show (9007199254740992 : Rat) = (2 : Rat) ^ (53 : Int) by decide +kernel, ← own_p_add]; congr 1; omega
  have e2 : (2 : Rat) ^ (k - 53) = 2 ^ (k - 54) * 2 := by
    have := own_p_add (k - 54) 1
    rw [Rat.zpow_one, show k - 54 + 1 = k - 53 by omega] at this
    exact this
  have hv := own_p_pos (k - 54)
  rw [e1] at hk
  generalize (2 : Rat) ^ (k - 54) = g at *
  generalize (2 : Rat) ^ (k - 53) = u at *
  obtain ⟨f, hf⟩ : ∃ f : Int, f = (a / u + 1 / 2).floor := ⟨_, rfl⟩
  have f1 : (f : Rat) ≤ a / u + 1 / 2 := by rw [hf]; exact Rat.floor_le _
  have f2 : a / u + 1 / 2 < ((f + 1 : Int) : Rat) := by rw [hf]; exact Rat.lt_floor_add_one _
  rw [Rat.intCast_add, show ((1 : Int) : Rat) = 1 from rfl] at f2
  have ha : a = a / u * u := (Rat.div_mul_cancel (Rat.ne_of_gt hu)).symm
  have hb1 : a / u ≤ 9007199254740992 := by rw [own_div_le hu]; grind
  have hb0 : 0 ≤ a / u := by rw [own_le_div hu]; grind
  generalize a / u = t at *
  have n0 : 0 ≤ f := by
    refine Int.not_lt.mp fun q => ?_
    have : (f : Rat) ≤ -1 := (show ((f : Int) : Rat) ≤ ((-1 : Int) : Rat) from Rat.intCast_le_intCast.mpr (by omega))
    grind
  have n1 : f ≤ 9007199254740992 := by
    refine Int.not_lt.mp fun q => ?_
    have : (9007199254740993 : Rat) ≤ (f : Rat) := (show ((9007199254740993 : Int) : Rat) ≤ ((f : Int) : Rat) from Rat.intCast_le_intCast.mpr (by omega))
    grind
  refine ⟨f.toNat, by omega, ?_⟩
  have ec : ((f.toNat : Nat) : Rat) = (f : Rat) := by rw [← Rat.intCast_natCast, Int.toNat_of_nonneg n0]
  rw [ec, ha]
  have m1 : ((f : Rat) - t) * u ≤ (1 / 2) * u := Rat.mul_le_mul_of_nonneg_right (by grind) (Rat.le_of_lt hu)
  have m2 : (t - (f : Rat)) * u ≤ (1 / 2) * u := Rat.mul_le_mul_of_nonneg_right (by grind) (Rat.le_of_lt hu)
  constructor <;> grind
theorem own_err0 {s : Bool} {A B : Nat} {e : Int} {c : Nat} {q : Int} (hB : 0 < B) (hR : roundRatio b64 s A B e = .fin s c q) {k : Int} (hk1 : -1000 ≤ k) (hle : (A : Rat) / (B : Rat) * 2 ^ e ≤ 2 ^ k) :
    (c : Rat) * 2 ^ q - (A : Rat) / (B : Rat) * 2 ^ e ≤ 2 ^ (k - 54) ∧ (A : Rat) / (B : Rat) * 2 ^ e - (c : Rat) * 2 ^ q ≤ 2 ^ (k - 54) := by
  obtain ⟨n, hn, h1, h2⟩ := own_grid (own_ratio_nonneg A B e) hle
  rcases Nat.lt_or_eq_of_le hn with hlt | heq
  · exact own_near hB hR (c' := n) (q' := k - 53) hlt (by omega) h1 h2
  · subst heq
    have e3 : ((2 ^ 53 : Nat) : Rat) * 2 ^ (k - 53) = ((2 ^ 52 : Nat) : Rat) * 2 ^ (k - 52) := by
      rw [own_p_nat, own_p_nat, ← own_p_add, ← own_p_add]; congr 1
      show (53 : Int) + (k - 53) = 52 + (k - 52); omega
    rw [e3] at h1 h2
    exact own_near hB hR (c' := 2 ^ 52) (q' := k - 52) (by decide) (by omega) h1 h2
theorem own_p_mono {a b : Int} (h : a ≤ b) : (2 : Rat) ^ a ≤ 2 ^ b := by
  have e : (2 : Rat) ^ b = 2 ^ a * 2 ^ (b - a) := by rw [← own_p_add]; congr 1; omega
  have h1 : (1 : Rat) ≤ 2 ^ (b - a) := by
    rw [← own_p_toNat (by omega)]
    exact (show ((1 : Nat) : Rat) ≤ _ from Rat.natCast_le_natCast.mpr (Nat.one_le_two_pow))
  rw [e]
  have := Rat.mul_le_mul_of_nonneg_left h1 (Rat.le_of_lt (own_p_pos a))
  grind
/-- the error of a rounding, by a bound of what is rounded -/
theorem own_rd_err {x : UInt64} {r : Rat} (h : own_rd x r) {k : Int} (hk1 : -1000 ≤ k) (hk2 : k ≤ 1000) (h1 : r ≤ (2 : Rat) ^ k) (h2 : -((2 : Rat) ^ k) ≤ r) : ∃ v, own_is x v ∧ v - r ≤ 2 ^ (k - 54) ∧ r - v ≤ 2 ^ (k - 54) := by
  have hm := own_p_mono hk2
  obtain ⟨v, hv⟩ := own_rd_fin h (Rat.le_trans h1 hm) (Rat.le_trans (Rat.neg_le_neg hm) h2)
  refine ⟨v, hv, ?_⟩
  obtain ⟨s, A, B, e, hB, hx, hr⟩ := h
  obtain ⟨s', c, q, hx', hv'⟩ := hv
  rcases roundRatio_cases b64 s A B e with ⟨c2, q2, hc⟩ | hc
  · rw [hx, hc] at hx'
    cases hx'
    rw [own_signed_ratio] at hr
    rw [own_signed_pow] at hv'
    have hle : (A : Rat) / (B : Rat) * 2 ^ e ≤ 2 ^ k := by
      cases s
      · rw [if_neg (by decide)] at hr; rw [← hr]; exact h1
      · rw [if_pos rfl] at hr
        have : (A : Rat) / (B : Rat) * 2 ^ e = -r := by rw [hr, Rat.neg_neg]
        rw [this]; grind
    obtain ⟨g1, g2⟩ := own_err0 hB hc hk1 hle
    cases s
    · rw [if_neg (by decide)] at hr hv'; rw [hr, hv']; exact ⟨g1, g2⟩
    · rw [if_pos rfl] at hr hv'; rw [hr, hv']; constructor <;> grind
  · rw [hx, hc] at hx'; cases hx'
/-- a double that is a whole number, as the library says it -/
theorem own_whole {x : UInt64} {i : Int} (h : own_is x (i : Rat)) : DInt i x := by
  obtain ⟨s, c, q, hx, hr⟩ := h
  show Whole i (val64 x)
  rw [hx]
  show signed s (c * 2 ^ q.toNat) = i * ((2 ^ (-q).toNat : Nat) : Int)
  rw [← Rat.intCast_inj, own_signed_cast, Rat.intCast_mul, Rat.intCast_natCast]
  rcases Int.le_total 0 q with h0 | h0
  · rw [own_p_toNat h0, show (-q).toNat = 0 by omega, hr]
    rw [show ((2 ^ 0 : Nat) : Rat) = 1 from rfl, Rat.mul_one]
  · rw [own_p_toNat (a := -q) (by omega), show q.toNat = 0 by omega, hr, show ((2 ^ 0 : Nat) : Rat) = 1 from rfl, Rat.mul_one, Rat.mul_assoc, own_p_neg, Rat.mul_one]
theorem own_isd2l {x : UInt64} {a : Int64} (h : own_is x ((a.toInt : Int) : Rat)) : FP.d2l x = a := d2l_int (own_whole h)
/-- a whole number below 2^63, rounded: a whole number, at most 512 off -/
theorem own_rd_int {x : UInt64} {i : Int} (h : own_rd x (i : Rat)) (h1 : i ≤ 9223372036854775807) (h2 : -9223372036854775807 ≤ i) : ∃ j : Int, own_is x (j : Rat) ∧ j - i ≤ 512 ∧ i - j ≤ 512 := by
  rcases Nat.lt_or_ge i.natAbs (2 ^ 53) with hs | hs
  · exact ⟨i, own_rd_exact h (m := i) (k := 0) (by rw [Rat.zpow_zero, Rat.mul_one]) hs (by decide) (by decide), by omega, by omega⟩
  · have e63 : (2 : Rat) ^ (63 : Int) = 9223372036854775808 := by decide +kernel
    have e9 : (2 : Rat) ^ ((63 : Int) - 54) = 512 := by decide +kernel
    have i1 : ((i : Int) : Rat) ≤ 9223372036854775808 := (show ((i : Int) : Rat) ≤ ((9223372036854775808 : Int) : Rat) from Rat.intCast_le_intCast.mpr (by omega))
    have i2 : (-9223372036854775808 : Rat) ≤ ((i : Int) : Rat) := (show ((-9223372036854775808 : Int) : Rat) ≤ ((i : Int) : Rat) from Rat.intCast_le_intCast.mpr (by omega))
    obtain ⟨v, hv, g1, g2⟩ := own_rd_err h (k := 63) (by decide) (by decide) (by rw [e63]; exact i1) (by rw [e63]; exact i2)
    rw [e9] at g1 g2
    have hv0 := hv
    obtain ⟨s, c, q, hx, hr⟩ := hv0
    have hf := val64_fits x
    rw [hx] at hf
    have hc : c < 2 ^ 53 := hf.1
    obtain ⟨V, hV⟩ := own_rep' (r := 9007199254740992) (m := 1) (k := 53) (by decide +kernel) (by decide) (by decide) (by decide)
    have hq : 0 ≤ q := by
      refine Int.not_lt.mp fun q0 => ?_
      have c1 : (c : Rat) * 2 ^ q < 9007199254740992 := by
        have c2 : ((c : Nat) : Rat) < 9007199254740992 := (show ((c : Nat) : Rat) < ((9007199254740992 : Nat) : Rat) from Rat.natCast_lt_natCast.mpr hc)
        have c3 : (2 : Rat) ^ q ≤ 1 := by
          have := own_p_mono (show q ≤ 0 by omega)
          rw [Rat.zpow_zero] at this; exact this
        have c4 : (0 : Rat) ≤ ((c : Nat) : Rat) := Rat.natCast_nonneg
        have := Rat.mul_le_mul_of_nonneg_left c3 c4
        grind
      have cneg : (0 : Rat) ≤ (c : Rat) * 2 ^ q := Rat.mul_nonneg Rat.natCast_nonneg (Rat.le_of_lt (own_p_pos q))
      rw [own_signed_pow] at hr
      rcases Int.le_total 0 i with hi | hi
      · have : (9007199254740992 : Rat) ≤ ((i : Int) : Rat) := (show ((9007199254740992 : Int) : Rat) ≤ ((i : Int) : Rat) from Rat.intCast_le_intCast.mpr (by omega))
        have := own_rd_ge' h hv hV this
        cases s <;> simp only [Bool.false_eq_true, if_true, if_false] at hr <;> grind
      · have : ((i : Int) : Rat) ≤ -9007199254740992 := (show ((i : Int) : Rat) ≤ ((-9007199254740992 : Int) : Rat) from Rat.intCast_le_intCast.mpr (by omega))
        have := own_rd_le' h hv (own_neg hV) this
        cases s <;> simp only [Bool.false_eq_true, if_true, if_false] at hr <;> grind
    have hj : v = ((signed s (c * 2 ^ q.toNat) : Int) : Rat) := by rw [own_signed_cast, own_p_toNat hq]; exact hr
    refine ⟨signed s (c * 2 ^ q.toNat), hj ▸ hv, ?_, ?_⟩
    · rw [hj, ← Rat.intCast_sub] at g1
      exact Rat.intCast_le_intCast.mp (show _ ≤ ((512 : Int) : Rat) from g1)
    · rw [hj, ← Rat.intCast_sub] at g2
      exact Rat.intCast_le_intCast.mp (show _ ≤ ((512 : Int) : Rat) from g2)
theorem own_rd_small {x : UInt64} {i : Int} (h : own_rd x (i : Rat)) (hs : i.natAbs < 2 ^ 53) : own_is x (i : Rat) :=
  own_rd_exact h (m := i) (k := 0) (by rw [Rat.zpow_zero, Rat.mul_one]) hs (by decide) (by decide)
end OwnNum5
section OwnNum6
open Jvm.FP.Core Jvm.Free.Fl
/-- a rational that is a double -/
def own_Rep (r : Rat) : Prop := ∃ m k : Int, r = (m : Rat) * (2 : Rat) ^ k ∧ m.natAbs < 2 ^ 53 ∧ -1074 ≤ k ∧ k ≤ 971
theorem own_rd_rep {x : UInt64} {r : Rat} (h : own_rd x r) (hr : own_Rep r) : own_is x r := by
  obtain ⟨m, k, h1, h2, h3, h4⟩ := hr
  exact own_rd_exact h h1 h2 h3 h4
theorem own_rep_int {i : Int} (h : i.natAbs < 2 ^ 53) : own_Rep (i : Rat) := ⟨i, 0, by rw [Rat.zpow_zero, Rat.mul_one], h, by decide, by decide⟩
/-- in halves, quarters ..: j binary places -/
theorem own_rep_fix {r : Rat} (m : Int) (j : Nat) (hj : j ≤ 1000) (hr : r * ((2 ^ j : Nat) : Rat) = (m : Rat)) (hm : m.natAbs < 2 ^ 53) : own_Rep r := by
  refine ⟨m, -(j : Int), ?_, hm, by omega, by omega⟩
  rw [← hr, own_p_nat, Rat.mul_assoc, own_p_neg, Rat.mul_one]
theorem own_nb {x y : Int} {X Y : Nat} (hx : x.natAbs ≤ X) (hy : y.natAbs ≤ Y) : (x * y).natAbs ≤ X * Y := by rw [Int.natAbs_mul]; exact Nat.mul_le_mul hx hy
end OwnNum6
open Jvm Jvm.ClassFile Sem Op Lib Jvm.Free Jvm.Stand Jvm.LawKit Jvm.RoadKit Bundle Jvm.Pilot.@@N@@.Jvm.D
/-! the walk layer: own_Go says that from one frame another one is reached, whatever the heap; one rule an instruction -/
section OwnWalk
open Jvm.Free Jvm.Free.Fl
def own_Ldc (tb : Tables) (e : Env) (below : List Frame) (T : State) (m : MethodId) (c : Code) (i : Nat) (v : Value) : Prop :=
  ∀ (g : JFrame) (target : State), g.method = m →
    ((∃ x, v = .int x) → decode c.code g.pc = .ok (.ldc i, 2) → Steps tb e below (T.setTop { g with pc := g.pc + 2, stack := v :: g.stack }) target → Steps tb e below (T.setTop g) target) ∧
    ((∃ x, v = .int x) → decode c.code g.pc = .ok (.ldc_w i, 3) → Steps tb e below (T.setTop { g with pc := g.pc + 3, stack := v :: g.stack }) target → Steps tb e below (T.setTop g) target) ∧
    (((∃ x, v = .long x) ∨ ∃ x, v = .double x) → decode c.code g.pc = .ok (.ldc2_w i, 3) → Steps tb e below (T.setTop { g with pc := g.pc + 3, stack := v :: g.stack }) target → Steps tb e below (T.setTop g) target)
def own_Go (P : List (Nat × Value)) (b : ByteArray) (pc : Nat) (L : Array Slot) (S : List Value) (pc' : Nat) (L' : Array Slot) (S' : List Value) : Prop :=
  ∀ (tb : Tables) [Ours tb] (e : Env) (below : List Frame) (T target : State) (m : MethodId) (c : Code), At T m c below → tb.exec = Jvm.exec → c.code = b →
    (∀ q ∈ P, own_Ldc tb e below T m c q.1 q.2) → Steps tb e below (T.setTop (mkF m pc' L' S')) target → Steps tb e below (T.setTop (mkF m pc L S)) target
variable {P : List (Nat × Value)} {b : ByteArray} {pc pcE : Nat} {L L' LE : Array Slot} {S SE : List Value}
theorem own_refl : own_Go P b pc L S pc L S := fun tb _ e below T target m c h hx hy hP k => k
theorem own_trans {pcM : Nat} {LM : Array Slot} {SM : List Value} (r1 : own_Go P b pc L S pcM LM SM) (r2 : own_Go P b pcM LM SM pcE LE SE) : own_Go P b pc L S pcE LE SE :=
  fun tb _ e below T target m c h hx hy hP k => r1 tb e below T target m c h hx hy hP (r2 tb e below T target m c h hx hy hP k)
theorem own_at {pc2 : Nat} {L2 : Array Slot} {S2 : List Value} (h1 : pc = pc2) (h2 : L = L2) (h3 : S = S2) (r : own_Go P b pc L S pcE LE SE) : own_Go P b pc2 L2 S2 pcE LE SE := by subst h1 h2 h3; exact r
theorem own_end {pc2 : Nat} {L2 : Array Slot} {S2 : List Value} (h1 : pcE = pc2) (h2 : LE = L2) (h3 : SE = S2) (r : own_Go P b pc L S pcE LE SE) : own_Go P b pc L S pc2 L2 S2 := by subst h1 h2 h3; exact r
theorem own_iload {j : Nat} {v : Int32} {pc2 : Nat} (hd : decode b pc = .ok (.iload j, 2)) (hpc : pc + 2 = pc2) (hl : L[j]? = some (.val (.int v))) (r : own_Go P b pc2 L (.int v :: S) pcE LE SE) : own_Go P b pc L (S) pcE LE SE := by
  intro tb _ e below T target m c h hx hy hP k; subst hpc; exact XS.iload h hx rfl (hb hy hd) hl (r tb e below T target m c h hx hy hP k)
theorem own_iloadN {j : Fin 4} {v : Int32} {pc2 : Nat} (hd : decode b pc = .ok (.iload_n j, 1)) (hpc : pc + 1 = pc2) (hl : L[j.val]? = some (.val (.int v))) (r : own_Go P b pc2 L (.int v :: S) pcE LE SE) : own_Go P b pc L (S) pcE LE SE := by
  intro tb _ e below T target m c h hx hy hP k; subst hpc; exact XS.iloadN h hx rfl (hb hy hd) hl (r tb e below T target m c h hx hy hP k)
theorem own_istore {j : Nat} {v : Int32} {rest : List Value} {pc2 : Nat} (hd : decode b pc = .ok (.istore j, 2)) (hpc : pc + 2 = pc2) (hl : storeLocals L j (.int v) = some L') (r : own_Go P b pc2 L' (rest) pcE LE SE) : own_Go P b pc L (.int v :: rest) pcE LE SE := by
  intro tb _ e below T target m c h hx hy hP k; subst hpc; exact XS.istore h hx rfl (hb hy hd) rfl hl (r tb e below T target m c h hx hy hP k)
theorem own_istoreN {j : Fin 4} {v : Int32} {rest : List Value} {pc2 : Nat} (hd : decode b pc = .ok (.istore_n j, 1)) (hpc : pc + 1 = pc2) (hl : storeLocals L j.val (.int v) = some L') (r : own_Go P b pc2 L' (rest) pcE LE SE) : own_Go P b pc L (.int v :: rest) pcE LE SE := by
  intro tb _ e below T target m c h hx hy hP k; subst hpc; exact XS.istoreN h hx rfl (hb hy hd) rfl hl (r tb e below T target m c h hx hy hP k)
theorem own_lload {j : Nat} {v : Int64} {pc2 : Nat} (hd : decode b pc = .ok (.lload j, 2)) (hpc : pc + 2 = pc2) (hl : L[j]? = some (.val (.long v))) (r : own_Go P b pc2 L (.long v :: S) pcE LE SE) : own_Go P b pc L (S) pcE LE SE := by
  intro tb _ e below T target m c h hx hy hP k; subst hpc; exact XS.lload h hx rfl (hb hy hd) hl (r tb e below T target m c h hx hy hP k)
theorem own_lloadN {j : Fin 4} {v : Int64} {pc2 : Nat} (hd : decode b pc = .ok (.lload_n j, 1)) (hpc : pc + 1 = pc2) (hl : L[j.val]? = some (.val (.long v))) (r : own_Go P b pc2 L (.long v :: S) pcE LE SE) : own_Go P b pc L (S) pcE LE SE := by
  intro tb _ e below T target m c h hx hy hP k; subst hpc; exact XS.lloadN h hx rfl (hb hy hd) hl (r tb e below T target m c h hx hy hP k)
theorem own_lstore {j : Nat} {v : Int64} {rest : List Value} {pc2 : Nat} (hd : decode b pc = .ok (.lstore j, 2)) (hpc : pc + 2 = pc2) (hl : storeLocals L j (.long v) = some L') (r : own_Go P b pc2 L' (rest) pcE LE SE) : own_Go P b pc L (.long v :: rest) pcE LE SE := by
  intro tb _ e below T target m c h hx hy hP k; subst hpc; exact XS.lstore h hx rfl (hb hy hd) rfl hl (r tb e below T target m c h hx hy hP k)
theorem own_lstoreN {j : Fin 4} {v : Int64} {rest : List Value} {pc2 : Nat} (hd : decode b pc = .ok (.lstore_n j, 1)) (hpc : pc + 1 = pc2) (hl : storeLocals L j.val (.long v) = some L') (r : own_Go P b pc2 L' (rest) pcE LE SE) : own_Go P b pc L (.long v :: rest) pcE LE SE := by
  intro tb _ e below T target m c h hx hy hP k; subst hpc; exact XS.lstoreN h hx rfl (hb hy hd) rfl hl (r tb e below T target m c h hx hy hP k)
theorem own_dload {j : Nat} {v : UInt64} {pc2 : Nat} (hd : decode b pc = .ok (.dload j, 2)) (hpc : pc + 2 = pc2) (hl : L[j]? = some (.val (.double v))) (r : own_Go P b pc2 L (.double v :: S) pcE LE SE) : own_Go P b pc L (S) pcE LE SE := by
  intro tb _ e below T target m c h hx hy hP k; subst hpc; exact XS.dload h hx rfl (hb hy hd) hl (r tb e below T target m c h hx hy hP k)
theorem own_dloadN {j : Fin 4} {v : UInt64} {pc2 : Nat} (hd : decode b pc = .ok (.dload_n j, 1)) (hpc : pc + 1 = pc2) (hl : L[j.val]? = some (.val (.double v))) (r : own_Go P b pc2 L (.double v :: S) pcE LE SE) : own_Go P b pc L (S) pcE LE SE := by
  intro tb _ e below T target m c h hx hy hP k; subst hpc; exact XS.dloadN h hx rfl (hb hy hd) hl (r tb e below T target m c h hx hy hP k)
theorem own_dstore {j : Nat} {v : UInt64} {rest : List Value} {pc2 : Nat} (hd : decode b pc = .ok (.dstore j, 2)) (hpc : pc + 2 = pc2) (hl : storeLocals L j (.double v) = some L') (r : own_Go P b pc2 L' (rest) pcE LE SE) : own_Go P b pc L (.double v :: rest) pcE LE SE := by
  intro tb _ e below T target m c h hx hy hP k; subst hpc; exact XS.dstore h hx rfl (hb hy hd) rfl hl (r tb e below T target m c h hx hy hP k)
theorem own_dstoreN {j : Fin 4} {v : UInt64} {rest : List Value} {pc2 : Nat} (hd : decode b pc = .ok (.dstore_n j, 1)) (hpc : pc + 1 = pc2) (hl : storeLocals L j.val (.double v) = some L') (r : own_Go P b pc2 L' (rest) pcE LE SE) : own_Go P b pc L (.double v :: rest) pcE LE SE := by
  intro tb _ e below T target m c h hx hy hP k; subst hpc; exact XS.dstoreN h hx rfl (hb hy hd) rfl hl (r tb e below T target m c h hx hy hP k)
theorem own_aload {j : Nat} {v : Value} {pc2 : Nat} (hd : decode b pc = .ok (.aload j, 2)) (hpc : pc + 2 = pc2) (hl : L[j]? = some (.val v)) (hr : v.isRef = true) (r : own_Go P b pc2 L (v :: S) pcE LE SE) : own_Go P b pc L (S) pcE LE SE := by
  intro tb _ e below T target m c h hx hy hP k; subst hpc; exact XS.aload h hx rfl (hb hy hd) hl hr (r tb e below T target m c h hx hy hP k)
theorem own_aloadN {j : Fin 4} {v : Value} {pc2 : Nat} (hd : decode b pc = .ok (.aload_n j, 1)) (hpc : pc + 1 = pc2) (hl : L[j.val]? = some (.val v)) (hr : v.isRef = true) (r : own_Go P b pc2 L (v :: S) pcE LE SE) : own_Go P b pc L (S) pcE LE SE := by
  intro tb _ e below T target m c h hx hy hP k; subst hpc; exact XS.aloadN h hx rfl (hb hy hd) hl hr (r tb e below T target m c h hx hy hP k)
theorem own_astore {j : Nat} {v : Value} {rest : List Value} {pc2 : Nat} (hd : decode b pc = .ok (.astore j, 2)) (hpc : pc + 2 = pc2) (hr : v.isRef = true) (hl : storeLocals L j v = some L') (r : own_Go P b pc2 L' (rest) pcE LE SE) : own_Go P b pc L (v :: rest) pcE LE SE := by
  intro tb _ e below T target m c h hx hy hP k; subst hpc; exact XS.astore h hx rfl (hb hy hd) rfl hr hl (r tb e below T target m c h hx hy hP k)
theorem own_astoreN {j : Fin 4} {v : Value} {rest : List Value} {pc2 : Nat} (hd : decode b pc = .ok (.astore_n j, 1)) (hpc : pc + 1 = pc2) (hr : v.isRef = true) (hl : storeLocals L j.val v = some L') (r : own_Go P b pc2 L' (rest) pcE LE SE) : own_Go P b pc L (v :: rest) pcE LE SE := by
  intro tb _ e below T target m c h hx hy hP k; subst hpc; exact XS.astoreN h hx rfl (hb hy hd) rfl hr hl (r tb e below T target m c h hx hy hP k)
theorem own_iconst {i : Int} {v : Int32} {pc2 : Nat} (hd : decode b pc = .ok (.iconst i, 1)) (hpc : pc + 1 = pc2) (hv : Int32.ofInt i = v) (r : own_Go P b pc2 L (.int v :: S) pcE LE SE) : own_Go P b pc L (S) pcE LE SE := by
  intro tb _ e below T target m c h hx hy hP k; subst hpc; subst hv; exact XS.iconst h hx rfl (hb hy hd) (r tb e below T target m c h hx hy hP k)
theorem own_bipush {i : Int} {v : Int32} {pc2 : Nat} (hd : decode b pc = .ok (.bipush i, 2)) (hpc : pc + 2 = pc2) (hv : (Int8.ofInt i).toInt32 = v) (r : own_Go P b pc2 L (.int v :: S) pcE LE SE) : own_Go P b pc L (S) pcE LE SE := by
  intro tb _ e below T target m c h hx hy hP k; subst hpc; subst hv; exact XS.bipush h hx rfl (hb hy hd) (r tb e below T target m c h hx hy hP k)
theorem own_sipush {i : Int} {v : Int32} {pc2 : Nat} (hd : decode b pc = .ok (.sipush i, 3)) (hpc : pc + 3 = pc2) (hv : (Int16.ofInt i).toInt32 = v) (r : own_Go P b pc2 L (.int v :: S) pcE LE SE) : own_Go P b pc L (S) pcE LE SE := by
  intro tb _ e below T target m c h hx hy hP k; subst hpc; subst hv; exact XS.sipush h hx rfl (hb hy hd) (r tb e below T target m c h hx hy hP k)
theorem own_lconst {j : Fin 2} {v : Int64} {pc2 : Nat} (hd : decode b pc = .ok (.lconst j, 1)) (hpc : pc + 1 = pc2) (hv : Int64.ofNat j = v) (r : own_Go P b pc2 L (.long v :: S) pcE LE SE) : own_Go P b pc L (S) pcE LE SE := by
  intro tb _ e below T target m c h hx hy hP k; subst hpc; subst hv; exact XS.lconst h hx rfl (hb hy hd) (r tb e below T target m c h hx hy hP k)
theorem own_dconst0  {v : UInt64} {pc2 : Nat} (hd : decode b pc = .ok (.dconst 0, 1)) (hpc : pc + 1 = pc2) (hv : FP.dconst0 = v) (r : own_Go P b pc2 L (.double v :: S) pcE LE SE) : own_Go P b pc L (S) pcE LE SE := by
  intro tb _ e below T target m c h hx hy hP k; subst hpc; subst hv; exact XS.dconst0 h hx rfl (hb hy hd) rfl (r tb e below T target m c h hx hy hP k)
theorem own_dconst1  {v : UInt64} {pc2 : Nat} (hd : decode b pc = .ok (.dconst 1, 1)) (hpc : pc + 1 = pc2) (hv : FP.dconst1 = v) (r : own_Go P b pc2 L (.double v :: S) pcE LE SE) : own_Go P b pc L (S) pcE LE SE := by
  intro tb _ e below T target m c h hx hy hP k; subst hpc; subst hv; exact XS.dconst1 h hx rfl (hb hy hd) rfl (r tb e below T target m c h hx hy hP k)
theorem own_aconstNull  {pc2 : Nat} (hd : decode b pc = .ok (.aconst_null, 1)) (hpc : pc + 1 = pc2) (r : own_Go P b pc2 L (.null :: S) pcE LE SE) : own_Go P b pc L (S) pcE LE SE := by
  intro tb _ e below T target m c h hx hy hP k; subst hpc; exact XS.aconstNull h hx rfl (hb hy hd) (r tb e below T target m c h hx hy hP k)
theorem own_iadd {x y : Int32} {v : Int32} {rest : List Value} {pc2 : Nat} (hd : decode b pc = .ok (.iadd, 1)) (hpc : pc + 1 = pc2) (hv : x + y = v) (r : own_Go P b pc2 L (.int v :: rest) pcE LE SE) : own_Go P b pc L (.int y :: .int x :: rest) pcE LE SE := by
  intro tb _ e below T target m c h hx hy hP k; subst hpc; subst hv; exact XS.iadd h hx rfl (hb hy hd) rfl (r tb e below T target m c h hx hy hP k)
theorem own_isub {x y : Int32} {v : Int32} {rest : List Value} {pc2 : Nat} (hd : decode b pc = .ok (.isub, 1)) (hpc : pc + 1 = pc2) (hv : x - y = v) (r : own_Go P b pc2 L (.int v :: rest) pcE LE SE) : own_Go P b pc L (.int y :: .int x :: rest) pcE LE SE := by
  intro tb _ e below T target m c h hx hy hP k; subst hpc; subst hv; exact XS.isub h hx rfl (hb hy hd) rfl (r tb e below T target m c h hx hy hP k)
theorem own_imul {x y : Int32} {v : Int32} {rest : List Value} {pc2 : Nat} (hd : decode b pc = .ok (.imul, 1)) (hpc : pc + 1 = pc2) (hv : x * y = v) (r : own_Go P b pc2 L (.int v :: rest) pcE LE SE) : own_Go P b pc L (.int y :: .int x :: rest) pcE LE SE := by
  intro tb _ e below T target m c h hx hy hP k; subst hpc; subst hv; exact XS.imul h hx rfl (hb hy hd) rfl (r tb e below T target m c h hx hy hP k)
theorem own_iand {x y : Int32} {v : Int32} {rest : List Value} {pc2 : Nat} (hd : decode b pc = .ok (.iand, 1)) (hpc : pc + 1 = pc2) (hv : x &&& y = v) (r : own_Go P b pc2 L (.int v :: rest) pcE LE SE) : own_Go P b pc L (.int y :: .int x :: rest) pcE LE SE := by
  intro tb _ e below T target m c h hx hy hP k; subst hpc; subst hv; exact XS.iand h hx rfl (hb hy hd) rfl (r tb e below T target m c h hx hy hP k)
theorem own_ior {x y : Int32} {v : Int32} {rest : List Value} {pc2 : Nat} (hd : decode b pc = .ok (.ior, 1)) (hpc : pc + 1 = pc2) (hv : x ||| y = v) (r : own_Go P b pc2 L (.int v :: rest) pcE LE SE) : own_Go P b pc L (.int y :: .int x :: rest) pcE LE SE := by
  intro tb _ e below T target m c h hx hy hP k; subst hpc; subst hv; exact XS.ior h hx rfl (hb hy hd) rfl (r tb e below T target m c h hx hy hP k)
theorem own_ixor {x y : Int32} {v : Int32} {rest : List Value} {pc2 : Nat} (hd : decode b pc = .ok (.ixor, 1)) (hpc : pc + 1 = pc2) (hv : x ^^^ y = v) (r : own_Go P b pc2 L (.int v :: rest) pcE LE SE) : own_Go P b pc L (.int y :: .int x :: rest) pcE LE SE := by
  intro tb _ e below T target m c h hx hy hP k; subst hpc; subst hv; exact XS.ixor h hx rfl (hb hy hd) rfl (r tb e below T target m c h hx hy hP k)
theorem own_ishl {x y : Int32} {v : Int32} {rest : List Value} {pc2 : Nat} (hd : decode b pc = .ok (.ishl, 1)) (hpc : pc + 1 = pc2) (hv : x <<< (y &&& 31) = v) (r : own_Go P b pc2 L (.int v :: rest) pcE LE SE) : own_Go P b pc L (.int y :: .int x :: rest) pcE LE SE := by
  intro tb _ e below T target m c h hx hy hP k; subst hpc; subst hv; exact XS.ishl h hx rfl (hb hy hd) rfl (r tb e below T target m c h hx hy hP k)
theorem own_ishr {x y : Int32} {v : Int32} {rest : List Value} {pc2 : Nat} (hd : decode b pc = .ok (.ishr, 1)) (hpc : pc + 1 = pc2) (hv : x >>> (y &&& 31) = v) (r : own_Go P b pc2 L (.int v :: rest) pcE LE SE) : own_Go P b pc L (.int y :: .int x :: rest) pcE LE SE := by
  intro tb _ e below T target m c h hx hy hP k; subst hpc; subst hv; exact XS.ishr h hx rfl (hb hy hd) rfl (r tb e below T target m c h hx hy hP k)
theorem own_iushr {x y : Int32} {v : Int32} {rest : List Value} {pc2 : Nat} (hd : decode b pc = .ok (.iushr, 1)) (hpc : pc + 1 = pc2) (hv : (x.toUInt32 >>> (y &&& 31).toUInt32).toInt32 = v) (r : own_Go P b pc2 L (.int v :: rest) pcE LE SE) : own_Go P b pc L (.int y :: .int x :: rest) pcE LE SE := by
  intro tb _ e below T target m c h hx hy hP k; subst hpc; subst hv; exact XS.iushr h hx rfl (hb hy hd) rfl (r tb e below T target m c h hx hy hP k)
theorem own_idiv {x y : Int32} {v : Int32} {rest : List Value} {pc2 : Nat} (hd : decode b pc = .ok (.idiv, 1)) (hpc : pc + 1 = pc2) (hn : y ≠ 0) (hv : x / y = v) (r : own_Go P b pc2 L (.int v :: rest) pcE LE SE) : own_Go P b pc L (.int y :: .int x :: rest) pcE LE SE := by
  intro tb _ e below T target m c h hx hy hP k; subst hpc; subst hv; exact XS.idiv h hx rfl (hb hy hd) rfl hn (r tb e below T target m c h hx hy hP k)
theorem own_irem {x y : Int32} {v : Int32} {rest : List Value} {pc2 : Nat} (hd : decode b pc = .ok (.irem, 1)) (hpc : pc + 1 = pc2) (hn : y ≠ 0) (hv : x - (x / y) * y = v) (r : own_Go P b pc2 L (.int v :: rest) pcE LE SE) : own_Go P b pc L (.int y :: .int x :: rest) pcE LE SE := by
  intro tb _ e below T target m c h hx hy hP k; subst hpc; subst hv; exact XS.irem h hx rfl (hb hy hd) rfl hn (r tb e below T target m c h hx hy hP k)
theorem own_ladd {x y : Int64} {v : Int64} {rest : List Value} {pc2 : Nat} (hd : decode b pc = .ok (.ladd, 1)) (hpc : pc + 1 = pc2) (hv : x + y = v) (r : own_Go P b pc2 L (.long v :: rest) pcE LE SE) : own_Go P b pc L (.long y :: .long x :: rest) pcE LE SE := by
  intro tb _ e below T target m c h hx hy hP k; subst hpc; subst hv; exact XS.ladd h hx rfl (hb hy hd) rfl (r tb e below T target m c h hx hy hP k)
theorem own_lsub {x y : Int64} {v : Int64} {rest : List Value} {pc2 : Nat} (hd : decode b pc = .ok (.lsub, 1)) (hpc : pc + 1 = pc2) (hv : x - y = v) (r : own_Go P b pc2 L (.long v :: rest) pcE LE SE) : own_Go P b pc L (.long y :: .long x :: rest) pcE LE SE := by
  intro tb _ e below T target m c h hx hy hP k; subst hpc; subst hv; exact XS.lsub h hx rfl (hb hy hd) rfl (r tb e below T target m c h hx hy hP k)
theorem own_lmul {x y : Int64} {v : Int64} {rest : List Value} {pc2 : Nat} (hd : decode b pc = .ok (.lmul, 1)) (hpc : pc + 1 = pc2) (hv : x * y = v) (r : own_Go P b pc2 L (.long v :: rest) pcE LE SE) : own_Go P b pc L (.long y :: .long x :: rest) pcE LE SE := by
  intro tb _ e below T target m c h hx hy hP k; subst hpc; subst hv; exact XS.lmul h hx rfl (hb hy hd) rfl (r tb e below T target m c h hx hy hP k)
theorem own_land {x y : Int64} {v : Int64} {rest : List Value} {pc2 : Nat} (hd : decode b pc = .ok (.land, 1)) (hpc : pc + 1 = pc2) (hv : x &&& y = v) (r : own_Go P b pc2 L (.long v :: rest) pcE LE SE) : own_Go P b pc L (.long y :: .long x :: rest) pcE LE SE := by
  intro tb _ e below T target m c h hx hy hP k; subst hpc; subst hv; exact XS.land h hx rfl (hb hy hd) rfl (r tb e below T target m c h hx hy hP k)
theorem own_lor {x y : Int64} {v : Int64} {rest : List Value} {pc2 : Nat} (hd : decode b pc = .ok (.lor, 1)) (hpc : pc + 1 = pc2) (hv : x ||| y = v) (r : own_Go P b pc2 L (.long v :: rest) pcE LE SE) : own_Go P b pc L (.long y :: .long x :: rest) pcE LE SE := by
  intro tb _ e below T target m c h hx hy hP k; subst hpc; subst hv; exact XS.lor h hx rfl (hb hy hd) rfl (r tb e below T target m c h hx hy hP k)
theorem own_lxor {x y : Int64} {v : Int64} {rest : List Value} {pc2 : Nat} (hd : decode b pc = .ok (.lxor, 1)) (hpc : pc + 1 = pc2) (hv : x ^^^ y = v) (r : own_Go P b pc2 L (.long v :: rest) pcE LE SE) : own_Go P b pc L (.long y :: .long x :: rest) pcE LE SE := by
  intro tb _ e below T target m c h hx hy hP k; subst hpc; subst hv; exact XS.lxor h hx rfl (hb hy hd) rfl (r tb e below T target m c h hx hy hP k)
theorem own_ldiv {x y : Int64} {v : Int64} {rest : List Value} {pc2 : Nat} (hd : decode b pc = .ok (.ldiv, 1)) (hpc : pc + 1 = pc2) (hn : y ≠ 0) (hv : x / y = v) (r : own_Go P b pc2 L (.long v :: rest) pcE LE SE) : own_Go P b pc L (.long y :: .long x :: rest) pcE LE SE := by
  intro tb _ e below T target m c h hx hy hP k; subst hpc; subst hv; exact XS.ldiv h hx rfl (hb hy hd) rfl hn (r tb e below T target m c h hx hy hP k)
theorem own_lrem {x y : Int64} {v : Int64} {rest : List Value} {pc2 : Nat} (hd : decode b pc = .ok (.lrem, 1)) (hpc : pc + 1 = pc2) (hn : y ≠ 0) (hv : x - (x / y) * y = v) (r : own_Go P b pc2 L (.long v :: rest) pcE LE SE) : own_Go P b pc L (.long y :: .long x :: rest) pcE LE SE := by
  intro tb _ e below T target m c h hx hy hP k; subst hpc; subst hv; exact XS.lrem h hx rfl (hb hy hd) rfl hn (r tb e below T target m c h hx hy hP k)
theorem own_lshl {x : Int64} {y : Int32} {v : Int64} {rest : List Value} {pc2 : Nat} (hd : decode b pc = .ok (.lshl, 1)) (hpc : pc + 1 = pc2) (hv : x <<< (y &&& 0x3f).toInt64 = v) (r : own_Go P b pc2 L (.long v :: rest) pcE LE SE) : own_Go P b pc L (.int y :: .long x :: rest) pcE LE SE := by
  intro tb _ e below T target m c h hx hy hP k; subst hpc; subst hv; exact XS.lshl h hx rfl (hb hy hd) rfl (r tb e below T target m c h hx hy hP k)
theorem own_lshr {x : Int64} {y : Int32} {v : Int64} {rest : List Value} {pc2 : Nat} (hd : decode b pc = .ok (.lshr, 1)) (hpc : pc + 1 = pc2) (hv : x >>> (y &&& 0x3f).toInt64 = v) (r : own_Go P b pc2 L (.long v :: rest) pcE LE SE) : own_Go P b pc L (.int y :: .long x :: rest) pcE LE SE := by
  intro tb _ e below T target m c h hx hy hP k; subst hpc; subst hv; exact XS.lshr h hx rfl (hb hy hd) rfl (r tb e below T target m c h hx hy hP k)
theorem own_lushr {x : Int64} {y : Int32} {v : Int64} {rest : List Value} {pc2 : Nat} (hd : decode b pc = .ok (.lushr, 1)) (hpc : pc + 1 = pc2) (hv : (x.toUInt64 >>> (y &&& 0x3f).toInt64.toUInt64).toInt64 = v) (r : own_Go P b pc2 L (.long v :: rest) pcE LE SE) : own_Go P b pc L (.int y :: .long x :: rest) pcE LE SE := by
  intro tb _ e below T target m c h hx hy hP k; subst hpc; subst hv; exact XS.lushr h hx rfl (hb hy hd) rfl (r tb e below T target m c h hx hy hP k)
theorem own_lcmp {x y : Int64} {v : Int32} {rest : List Value} {pc2 : Nat} (hd : decode b pc = .ok (.lcmp, 1)) (hpc : pc + 1 = pc2) (hv : (if x > y then 1 else if x = y then 0 else -1) = v) (r : own_Go P b pc2 L (.int v :: rest) pcE LE SE) : own_Go P b pc L (.long y :: .long x :: rest) pcE LE SE := by
  intro tb _ e below T target m c h hx hy hP k; subst hpc; subst hv; exact XS.lcmp h hx rfl (hb hy hd) rfl (r tb e below T target m c h hx hy hP k)
theorem own_ineg {x : Int32} {v : Int32} {rest : List Value} {pc2 : Nat} (hd : decode b pc = .ok (.ineg, 1)) (hpc : pc + 1 = pc2) (hv : -x = v) (r : own_Go P b pc2 L (.int v :: rest) pcE LE SE) : own_Go P b pc L (.int x :: rest) pcE LE SE := by
  intro tb _ e below T target m c h hx hy hP k; subst hpc; subst hv; exact XS.ineg h hx rfl (hb hy hd) rfl (r tb e below T target m c h hx hy hP k)
theorem own_lneg {x : Int64} {v : Int64} {rest : List Value} {pc2 : Nat} (hd : decode b pc = .ok (.lneg, 1)) (hpc : pc + 1 = pc2) (hv : -x = v) (r : own_Go P b pc2 L (.long v :: rest) pcE LE SE) : own_Go P b pc L (.long x :: rest) pcE LE SE := by
  intro tb _ e below T target m c h hx hy hP k; subst hpc; subst hv; exact XS.lneg h hx rfl (hb hy hd) rfl (r tb e below T target m c h hx hy hP k)
theorem own_i2l {x : Int32} {v : Int64} {rest : List Value} {pc2 : Nat} (hd : decode b pc = .ok (.i2l, 1)) (hpc : pc + 1 = pc2) (hv : x.toInt64 = v) (r : own_Go P b pc2 L (.long v :: rest) pcE LE SE) : own_Go P b pc L (.int x :: rest) pcE LE SE := by
  intro tb _ e below T target m c h hx hy hP k; subst hpc; subst hv; exact XS.i2l h hx rfl (hb hy hd) rfl (r tb e below T target m c h hx hy hP k)
theorem own_l2i {x : Int64} {v : Int32} {rest : List Value} {pc2 : Nat} (hd : decode b pc = .ok (.l2i, 1)) (hpc : pc + 1 = pc2) (hv : x.toInt32 = v) (r : own_Go P b pc2 L (.int v :: rest) pcE LE SE) : own_Go P b pc L (.long x :: rest) pcE LE SE := by
  intro tb _ e below T target m c h hx hy hP k; subst hpc; subst hv; exact XS.l2i h hx rfl (hb hy hd) rfl (r tb e below T target m c h hx hy hP k)
theorem own_i2b {x : Int32} {v : Int32} {rest : List Value} {pc2 : Nat} (hd : decode b pc = .ok (.i2b, 1)) (hpc : pc + 1 = pc2) (hv : x.toInt8.toInt32 = v) (r : own_Go P b pc2 L (.int v :: rest) pcE LE SE) : own_Go P b pc L (.int x :: rest) pcE LE SE := by
  intro tb _ e below T target m c h hx hy hP k; subst hpc; subst hv; exact XS.i2b h hx rfl (hb hy hd) rfl (r tb e below T target m c h hx hy hP k)
theorem own_i2c {x : Int32} {v : Int32} {rest : List Value} {pc2 : Nat} (hd : decode b pc = .ok (.i2c, 1)) (hpc : pc + 1 = pc2) (hv : x.toUInt32.toUInt16.toUInt32.toInt32 = v) (r : own_Go P b pc2 L (.int v :: rest) pcE LE SE) : own_Go P b pc L (.int x :: rest) pcE LE SE := by
  intro tb _ e below T target m c h hx hy hP k; subst hpc; subst hv; exact XS.i2c h hx rfl (hb hy hd) rfl (r tb e below T target m c h hx hy hP k)
theorem own_i2d {x : Int32} {v : UInt64} {rest : List Value} {pc2 : Nat} (hd : decode b pc = .ok (.i2d, 1)) (hpc : pc + 1 = pc2) (hv : FP.i2d x = v) (r : own_Go P b pc2 L (.double v :: rest) pcE LE SE) : own_Go P b pc L (.int x :: rest) pcE LE SE := by
  intro tb _ e below T target m c h hx hy hP k; subst hpc; subst hv; exact XS.i2dS h hx rfl (hb hy hd) rfl rfl (r tb e below T target m c h hx hy hP k)
theorem own_l2d {x : Int64} {v : UInt64} {rest : List Value} {pc2 : Nat} (hd : decode b pc = .ok (.l2d, 1)) (hpc : pc + 1 = pc2) (hv : FP.l2d x = v) (r : own_Go P b pc2 L (.double v :: rest) pcE LE SE) : own_Go P b pc L (.long x :: rest) pcE LE SE := by
  intro tb _ e below T target m c h hx hy hP k; subst hpc; subst hv; exact XS.l2dS h hx rfl (hb hy hd) rfl rfl (r tb e below T target m c h hx hy hP k)
theorem own_d2i {x : UInt64} {v : Int32} {rest : List Value} {pc2 : Nat} (hd : decode b pc = .ok (.d2i, 1)) (hpc : pc + 1 = pc2) (hv : FP.d2i x = v) (r : own_Go P b pc2 L (.int v :: rest) pcE LE SE) : own_Go P b pc L (.double x :: rest) pcE LE SE := by
  intro tb _ e below T target m c h hx hy hP k; subst hpc; subst hv; exact XS.d2iS h hx rfl (hb hy hd) rfl rfl (r tb e below T target m c h hx hy hP k)
theorem own_d2l {x : UInt64} {v : Int64} {rest : List Value} {pc2 : Nat} (hd : decode b pc = .ok (.d2l, 1)) (hpc : pc + 1 = pc2) (hv : FP.d2l x = v) (r : own_Go P b pc2 L (.long v :: rest) pcE LE SE) : own_Go P b pc L (.double x :: rest) pcE LE SE := by
  intro tb _ e below T target m c h hx hy hP k; subst hpc; subst hv; exact XS.d2lS h hx rfl (hb hy hd) rfl rfl (r tb e below T target m c h hx hy hP k)
theorem own_dneg {x : UInt64} {v : UInt64} {rest : List Value} {pc2 : Nat} (hd : decode b pc = .ok (.dneg, 1)) (hpc : pc + 1 = pc2) (hv : FP.dneg x = v) (r : own_Go P b pc2 L (.double v :: rest) pcE LE SE) : own_Go P b pc L (.double x :: rest) pcE LE SE := by
  intro tb _ e below T target m c h hx hy hP k; subst hpc; subst hv; exact XS.dnegS h hx rfl (hb hy hd) rfl rfl (r tb e below T target m c h hx hy hP k)
theorem own_dcmp {o : CmpOp} {x y : UInt64} {v : Int32} {rest : List Value} {pc2 : Nat} (hd : decode b pc = .ok (.dcmp o, 1)) (hpc : pc + 1 = pc2) (hv : cmpValue (FP.dcmp x y) o = v) (r : own_Go P b pc2 L (.int v :: rest) pcE LE SE) : own_Go P b pc L (.double y :: .double x :: rest) pcE LE SE := by
  intro tb _ e below T target m c h hx hy hP k; subst hpc; subst hv; exact XS.dcmpS h hx rfl (hb hy hd) rfl rfl (r tb e below T target m c h hx hy hP k)
theorem own_dadd {x y : UInt64} {v : UInt64} {rest : List Value} {pc2 : Nat} (hd : decode b pc = .ok (.dadd, 1)) (hpc : pc + 1 = pc2) (hn : NoNaN64 (FP.dadd x y)) (hv : FP.dadd x y = v) (r : own_Go P b pc2 L (.double v :: rest) pcE LE SE) : own_Go P b pc L (.double y :: .double x :: rest) pcE LE SE := by
  intro tb _ e below T target m c h hx hy hP k; subst hpc; subst hv; exact XS.daddS h hx rfl (hb hy hd) rfl hn rfl (r tb e below T target m c h hx hy hP k)
theorem own_dsub {x y : UInt64} {v : UInt64} {rest : List Value} {pc2 : Nat} (hd : decode b pc = .ok (.dsub, 1)) (hpc : pc + 1 = pc2) (hn : NoNaN64 (FP.dsub x y)) (hv : FP.dsub x y = v) (r : own_Go P b pc2 L (.double v :: rest) pcE LE SE) : own_Go P b pc L (.double y :: .double x :: rest) pcE LE SE := by
  intro tb _ e below T target m c h hx hy hP k; subst hpc; subst hv; exact XS.dsubS h hx rfl (hb hy hd) rfl hn rfl (r tb e below T target m c h hx hy hP k)
theorem own_dmul {x y : UInt64} {v : UInt64} {rest : List Value} {pc2 : Nat} (hd : decode b pc = .ok (.dmul, 1)) (hpc : pc + 1 = pc2) (hn : NoNaN64 (FP.dmul x y)) (hv : FP.dmul x y = v) (r : own_Go P b pc2 L (.double v :: rest) pcE LE SE) : own_Go P b pc L (.double y :: .double x :: rest) pcE LE SE := by
  intro tb _ e below T target m c h hx hy hP k; subst hpc; subst hv; exact XS.dmulS h hx rfl (hb hy hd) rfl hn rfl (r tb e below T target m c h hx hy hP k)
theorem own_ddiv {x y : UInt64} {v : UInt64} {rest : List Value} {pc2 : Nat} (hd : decode b pc = .ok (.ddiv, 1)) (hpc : pc + 1 = pc2) (hn : NoNaN64 (FP.ddiv x y)) (hv : FP.ddiv x y = v) (r : own_Go P b pc2 L (.double v :: rest) pcE LE SE) : own_Go P b pc L (.double y :: .double x :: rest) pcE LE SE := by
  intro tb _ e below T target m c h hx hy hP k; subst hpc; subst hv; exact XS.ddivS h hx rfl (hb hy hd) rfl hn rfl (r tb e below T target m c h hx hy hP k)
theorem own_dup {v : Value} {rest : List Value} {pc2 : Nat} (hd : decode b pc = .ok (.dup, 1)) (hpc : pc + 1 = pc2) (hc : v.category = 1) (r : own_Go P b pc2 L (v :: v :: rest) pcE LE SE) : own_Go P b pc L (v :: rest) pcE LE SE := by
  intro tb _ e below T target m c h hx hy hP k; subst hpc; exact XS.dup h hx rfl (hb hy hd) rfl hc (r tb e below T target m c h hx hy hP k)
theorem own_pop {v : Value} {rest : List Value} {pc2 : Nat} (hd : decode b pc = .ok (.pop, 1)) (hpc : pc + 1 = pc2) (hc : v.category = 1) (r : own_Go P b pc2 L (rest) pcE LE SE) : own_Go P b pc L (v :: rest) pcE LE SE := by
  intro tb _ e below T target m c h hx hy hP k; subst hpc; exact XS.pop h hx rfl (hb hy hd) rfl hc (r tb e below T target m c h hx hy hP k)
theorem own_dupX1 {v w : Value} {rest : List Value} {pc2 : Nat} (hd : decode b pc = .ok (.dup_x1, 1)) (hpc : pc + 1 = pc2) (hc : v.category = 1) (hc' : w.category = 1) (r : own_Go P b pc2 L (v :: w :: v :: rest) pcE LE SE) : own_Go P b pc L (v :: w :: rest) pcE LE SE := by
  intro tb _ e below T target m c h hx hy hP k; subst hpc; exact XS.dupX1 h hx rfl (hb hy hd) rfl hc hc' (r tb e below T target m c h hx hy hP k)
theorem own_dup2 {v w : Value} {rest : List Value} {pc2 : Nat} (hd : decode b pc = .ok (.dup2, 1)) (hpc : pc + 1 = pc2) (hc : v.category = 1) (hc' : w.category = 1) (r : own_Go P b pc2 L (v :: w :: v :: w :: rest) pcE LE SE) : own_Go P b pc L (v :: w :: rest) pcE LE SE := by
  intro tb _ e below T target m c h hx hy hP k; subst hpc; exact XT.dup2 h hx rfl (hb hy hd) rfl hc hc' (r tb e below T target m c h hx hy hP k)
theorem own_ifYes {cd : ClassFile.Cond} {x : Int32} {o : Int} {pc' : Nat} {rest : List Value} (hd : decode b pc = .ok (.ifCond cd o, 3)) (hc : ifCond.holds cd x = true) (ho : 0 ≤ (pc : Int) + o) (hp : ((pc : Int) + o).toNat = pc') (r : own_Go P b pc' L rest pcE LE SE) : own_Go P b pc L (.int x :: rest) pcE LE SE := by
  intro tb _ e below T target m c h hx hy hP k; exact XS.ifYes h hx rfl rfl (hb hy hd) rfl hc ho hp (r tb e below T target m c h hx hy hP k)
theorem own_ifNo {cd : ClassFile.Cond} {x : Int32} {o : Int} {rest : List Value} {pc2 : Nat} (hd : decode b pc = .ok (.ifCond cd o, 3)) (hpc : pc + 3 = pc2) (hc : ifCond.holds cd x = false) (r : own_Go P b pc2 L rest pcE LE SE) : own_Go P b pc L (.int x :: rest) pcE LE SE := by
  intro tb _ e below T target m c h hx hy hP k; subst hpc; exact XS.ifNo h hx rfl (hb hy hd) rfl hc (r tb e below T target m c h hx hy hP k)
theorem own_icmpYes {cd : ClassFile.Cond} {x y : Int32} {o : Int} {pc' : Nat} {rest : List Value} (hd : decode b pc = .ok (.if_icmp cd o, 3)) (hc : if_icmp.holds cd x y = true) (ho : 0 ≤ (pc : Int) + o) (hp : ((pc : Int) + o).toNat = pc') (r : own_Go P b pc' L rest pcE LE SE) : own_Go P b pc L (.int y :: .int x :: rest) pcE LE SE := by
  intro tb _ e below T target m c h hx hy hP k; exact XS.icmpYes h hx rfl rfl (hb hy hd) rfl hc ho hp (r tb e below T target m c h hx hy hP k)
theorem own_icmpNo {cd : ClassFile.Cond} {x y : Int32} {o : Int} {rest : List Value} {pc2 : Nat} (hd : decode b pc = .ok (.if_icmp cd o, 3)) (hpc : pc + 3 = pc2) (hc : if_icmp.holds cd x y = false) (r : own_Go P b pc2 L rest pcE LE SE) : own_Go P b pc L (.int y :: .int x :: rest) pcE LE SE := by
  intro tb _ e below T target m c h hx hy hP k; subst hpc; exact XS.icmpNo h hx rfl (hb hy hd) rfl hc (r tb e below T target m c h hx hy hP k)
theorem own_ifnullYes {o : Int} {pc' : Nat} {rest : List Value} (hd : decode b pc = .ok (.ifnull o, 3)) (ho : 0 ≤ (pc : Int) + o) (hp : ((pc : Int) + o).toNat = pc') (r : own_Go P b pc' L rest pcE LE SE) : own_Go P b pc L (.null :: rest) pcE LE SE := by
  intro tb _ e below T target m c h hx hy hP k; exact XS.ifnullYes h hx rfl rfl (hb hy hd) rfl ho hp (r tb e below T target m c h hx hy hP k)
theorem own_ifnullNo {o : Int} {a : Addr} {rest : List Value} {pc2 : Nat} (hd : decode b pc = .ok (.ifnull o, 3)) (hpc : pc + 3 = pc2) (r : own_Go P b pc2 L rest pcE LE SE) : own_Go P b pc L (.ref a :: rest) pcE LE SE := by
  intro tb _ e below T target m c h hx hy hP k; subst hpc; exact XS.ifnullNo h hx rfl (hb hy hd) rfl (r tb e below T target m c h hx hy hP k)
theorem own_ifnonnullYes {o : Int} {pc' : Nat} {a : Addr} {rest : List Value} (hd : decode b pc = .ok (.ifnonnull o, 3)) (ho : 0 ≤ (pc : Int) + o) (hp : ((pc : Int) + o).toNat = pc') (r : own_Go P b pc' L rest pcE LE SE) : own_Go P b pc L (.ref a :: rest) pcE LE SE := by
  intro tb _ e below T target m c h hx hy hP k; exact XS.ifnonnullYes h hx rfl rfl (hb hy hd) rfl ho hp (r tb e below T target m c h hx hy hP k)
theorem own_ifnonnullNo {o : Int} {rest : List Value} {pc2 : Nat} (hd : decode b pc = .ok (.ifnonnull o, 3)) (hpc : pc + 3 = pc2) (r : own_Go P b pc2 L rest pcE LE SE) : own_Go P b pc L (.null :: rest) pcE LE SE := by
  intro tb _ e below T target m c h hx hy hP k; subst hpc; exact XS.ifnonnullNo h hx rfl (hb hy hd) rfl (r tb e below T target m c h hx hy hP k)
theorem own_acmpYes {cd : ClassFile.ACond} {x y : Addr} {o : Int} {pc' : Nat} {rest : List Value} (hd : decode b pc = .ok (.if_acmp cd o, 3)) (hc : if_acmp.holds cd (some x) (some y) = true) (ho : 0 ≤ (pc : Int) + o) (hp : ((pc : Int) + o).toNat = pc') (r : own_Go P b pc' L rest pcE LE SE) : own_Go P b pc L (.ref y :: .ref x :: rest) pcE LE SE := by
  intro tb _ e below T target m c h hx hy hP k; exact XS.acmpYes h hx rfl rfl (hb hy hd) rfl hc ho hp (r tb e below T target m c h hx hy hP k)
theorem own_acmpNo {cd : ClassFile.ACond} {x y : Addr} {o : Int} {rest : List Value} {pc2 : Nat} (hd : decode b pc = .ok (.if_acmp cd o, 3)) (hpc : pc + 3 = pc2) (hc : if_acmp.holds cd (some x) (some y) = false) (r : own_Go P b pc2 L rest pcE LE SE) : own_Go P b pc L (.ref y :: .ref x :: rest) pcE LE SE := by
  intro tb _ e below T target m c h hx hy hP k; subst hpc; exact XS.acmpNo h hx rfl (hb hy hd) rfl hc (r tb e below T target m c h hx hy hP k)
theorem own_goto {o : Int} {pc' : Nat} (hd : decode b pc = .ok (.goto o, 3)) (ho : 0 ≤ (pc : Int) + o) (hp : ((pc : Int) + o).toNat = pc') (r : own_Go P b pc' L S pcE LE SE) : own_Go P b pc L S pcE LE SE := by
  intro tb _ e below T target m c h hx hy hP k; exact XS.goto h hx rfl rfl (hb hy hd) ho hp (r tb e below T target m c h hx hy hP k)
theorem own_iinc {j : Nat} {cst : Int} {x v : Int32} {pc2 : Nat} (hd : decode b pc = .ok (.iinc j cst, 3)) (hpc : pc + 3 = pc2) (hl : L[j]? = some (.val (.int x))) (hv : x + Int32.ofInt cst = v) (hl' : storeLocals L j (.int v) = some L') (r : own_Go P b pc2 L' S pcE LE SE) : own_Go P b pc L S pcE LE SE := by
  intro tb _ e below T target m c h hx hy hP k; subst hpc; subst hv; exact XS.iinc h hx rfl (hb hy hd) hl hl' (r tb e below T target m c h hx hy hP k)
theorem own_ldc {i : Nat} {v : Int32} {pc2 : Nat} (hd : decode b pc = .ok (.ldc i, 2)) (hpc : pc + 2 = pc2) (hk : (i, Value.int v) ∈ P) (r : own_Go P b pc2 L (.int v :: S) pcE LE SE) : own_Go P b pc L S pcE LE SE := by
  intro tb _ e below T target m c h hx hy hP k; subst hpc; exact (hP _ hk (mkF m pc L S) target rfl).1 ⟨_, rfl⟩ (hb hy hd) (r tb e below T target m c h hx hy hP k)
theorem own_ldcW {i : Nat} {v : Int32} {pc2 : Nat} (hd : decode b pc = .ok (.ldc_w i, 3)) (hpc : pc + 3 = pc2) (hk : (i, Value.int v) ∈ P) (r : own_Go P b pc2 L (.int v :: S) pcE LE SE) : own_Go P b pc L S pcE LE SE := by
  intro tb _ e below T target m c h hx hy hP k; subst hpc; exact (hP _ hk (mkF m pc L S) target rfl).2.1 ⟨_, rfl⟩ (hb hy hd) (r tb e below T target m c h hx hy hP k)
theorem own_ldc2L {i : Nat} {v : Int64} {pc2 : Nat} (hd : decode b pc = .ok (.ldc2_w i, 3)) (hpc : pc + 3 = pc2) (hk : (i, Value.long v) ∈ P) (r : own_Go P b pc2 L (.long v :: S) pcE LE SE) : own_Go P b pc L S pcE LE SE := by
  intro tb _ e below T target m c h hx hy hP k; subst hpc; exact (hP _ hk (mkF m pc L S) target rfl).2.2 (Or.inl ⟨_, rfl⟩) (hb hy hd) (r tb e below T target m c h hx hy hP k)
theorem own_ldc2D {i : Nat} {v : UInt64} {pc2 : Nat} (hd : decode b pc = .ok (.ldc2_w i, 3)) (hpc : pc + 3 = pc2) (hk : (i, Value.double v) ∈ P) (r : own_Go P b pc2 L (.double v :: S) pcE LE SE) : own_Go P b pc L S pcE LE SE := by
  intro tb _ e below T target m c h hx hy hP k; subst hpc; exact (hP _ hk (mkF m pc L S) target rfl).2.2 (Or.inr ⟨_, rfl⟩) (hb hy hd) (r tb e below T target m c h hx hy hP k)
end OwnWalk
section OwnPool
open Jvm.Free Jvm.Stand
variable {p : Program} {l : Launch} {e : Env} {R : Room} {s : State} {m : MethodId} {args : Array Value} {below : List Frame} {meth : Method} {c : Code} {T : State} {locs : List Loc} {cells slots : Nat} {Z : State} {a0 : Array Value}
def own_Word (own : String) (i : Nat) : Value → Jvm.Cond → Prop
  | .int v, w => w = .constant own i v
  | .long v, w => w = .constantLong own i v
  | .double v, w => w = .constantDouble own i v
  | _, _ => False
theorem own_pool1 (X : Stand p l e R s m args below meth c T locs cells slots) (hx : p.tables.exec = Jvm.exec) (hZ : Z.Warmed39 s.vm) {own : String} (hown : s.vm.findClass own = some m.cls) {i : Nat} {v : Value} {w : Jvm.Cond} (hv : own_Word own i v w) (hw : w.before a0 Z = true) : own_Ldc p.tables e below T m c i v := by
  intro g target hg
  cases v with
  | int v =>
    cases (show w = .constant own i v from hv)
    exact ⟨fun _ hd k => X.ldcInt hx hown (mvT hZ hw) hg hd target k, fun _ hd k => X.ldcwInt hx hown (mvT hZ hw) hg hd target k, fun h => (by rcases h with ⟨_, h⟩ | ⟨_, h⟩ <;> cases h)⟩
  | long v =>
    cases (show w = .constantLong own i v from hv)
    exact ⟨fun h => (by obtain ⟨_, h⟩ := h; cases h), fun h => (by obtain ⟨_, h⟩ := h; cases h), fun _ hd k => X.ldc2Long hx hown (mvT hZ hw) hg hd target k⟩
  | double v =>
    cases (show w = .constantDouble own i v from hv)
    exact ⟨fun h => (by obtain ⟨_, h⟩ := h; cases h), fun h => (by obtain ⟨_, h⟩ := h; cases h), fun _ hd k => X.ldc2DoubleC hx hown (mvT hZ hw) hg hd target k⟩
  | _ => exact absurd hv (fun h => h)
theorem own_pool (X : Stand p l e R s m args below meth c T locs cells slots) (hx : p.tables.exec = Jvm.exec) (hZ : Z.Warmed39 s.vm) {own : String} (hown : s.vm.findClass own = some m.cls) {ws : List Jvm.Cond} (hw : ∀ d ∈ ws, d.before a0 Z = true) {P : List (Nat × Value)} (hP : ∀ q ∈ P, ∃ w ∈ ws, own_Word own q.1 q.2 w) : ∀ q ∈ P, own_Ldc p.tables e below T m c q.1 q.2 := by
  intro q hq
  obtain ⟨w, h1, h2⟩ := hP q hq
  exact own_pool1 X hx hZ hown h2 (hw w h1)
end OwnPool
/-! the call layer: a method that leaves the heap as it was, and its call -/
section OwnCall
open Jvm.Free Jvm.Stand Jvm.LawKit Jvm.RoadKit
variable {p : Program} {l : Launch} {e : Env} {R : Room} {s : State} {m : MethodId} {args : Array Value} {below : List Frame} {meth : Method} {c : Code} {T : State} {locs : List Loc} {cells slots : Nat} {Z : State} {a0 : Array Value} {h : Heap}
abbrev own_room (fr lo : Nat) : Room := { frames := fr, cells := 0, slots := 0, locals := lo }
def own_Pure (l : Launch) (Z : State) (y : MethodName) (bytes : ByteArray) (maxL : Nat) (ret : Option FieldType) (fr lo : Nat) (as' : Array Value) (h : Heap) (v : Option Value) : Prop :=
  MetFree l y (head1 [Jvm.Cond.code y bytes maxL ret] (own_room fr lo)) (fun a U => a = as' ∧ Z.Warmed39 U.vm ∧ U.heap = h) (fun _ _ _ _ _ => True) (fun _ U o U' => ∃ w L, o = .returned w ∧ (w = v ∧ L = [] ∧ U'.heap = h) ∧ FrameEnd U o U' L (own_room fr lo).cells (own_room fr lo).slots)
def own_Ret (i : Instr) (t : FieldType) (w : Value) : Prop := narrow t w = w ∧ ((i = .ireturn ∧ (t = .int ∨ t = .boolean ∨ t = .byte ∨ t = .char ∨ t = .short) ∧ ∃ z, w = .int z) ∨ (i = .lreturn ∧ t = .long ∧ ∃ z, w = .long z) ∨ (i = .dreturn ∧ t = .double ∧ ∃ z, w = .double z) ∨ (i = .freturn ∧ t = .float ∧ ∃ z, w = .float z) ∨ (i = .areturn ∧ t.isReference = true ∧ w.isRef = true))
theorem own_retD (x : UInt64) : own_Ret .dreturn .double (.double x) := ⟨rfl, Or.inr (Or.inr (Or.inl ⟨rfl, rfl, x, rfl⟩))⟩
theorem own_retI (x : Int32) : own_Ret .ireturn .int (.int x) := ⟨rfl, Or.inl ⟨rfl, Or.inl rfl, x, rfl⟩⟩
theorem own_retJ (x : Int64) : own_Ret .lreturn .long (.long x) := ⟨rfl, Or.inr (Or.inl ⟨rfl, rfl, x, rfl⟩)⟩
theorem own_retZ {x : Int32} (hx : x = 0 ∨ x = 1) : own_Ret .ireturn .boolean (.int x) := ⟨by rcases hx with rfl | rfl <;> rfl, Or.inl ⟨rfl, Or.inr (Or.inl rfl), x, rfl⟩⟩
theorem own_pure_go {y : MethodName} {bytes : ByteArray} {maxL : Nat} {t : FieldType} {as' : Array Value} {P : List (Nat × Value)} {L0 LR : Array Slot} {SR : List Value} {pcR : Nat} {val : Value} {i : Instr} {ws : List Jvm.Cond} (hpl : plainName y.cls = true) (hw : ∀ d ∈ ws, d.before a0 Z = true) (hP : ∀ q ∈ P, ∃ w ∈ ws, own_Word y.cls q.1 q.2 w)
    (hef : ∀ m, entryFrame m as' maxL = mkF m 0 L0 []) (body : own_Go P bytes 0 L0 [] pcR LR (val :: SR)) (hd : decode bytes pcR = .ok (i, 1)) (hr : own_Ret i t val) : own_Pure l Z y bytes maxL (some t) 0 0 as' h (some val) := by
  refine MetFree.of_bodySF (plainFor_of_name hpl) hisR ?_
  intro p e s m args below meth c s₁ Bd hml0 hPP hK
  obtain ⟨rfl, hZ, hh⟩ := hPP
  have hx := Bd.exec
  have hby := Bd.bytes
  have hown : s.vm.findClass y.cls = some m.cls := findClass_of_methodNamed Bd.named
  have X0 : Stand p l e (own_room 0 0) s m _ below meth c s₁ [] 0 0 := Stand.of_body Bd
  have e0 : s₁.heap = h := by rw [← hh, Bd.state]; rfl
  obtain ⟨fs, hr', hrun, hended, hW, hsame⟩ := X0.leave (v := some val) (fun h => by rw [Bd.returns] at h; cases h)
  refine ⟨_, _, castTop (hef m) (body p.tables e below s₁ _ m c X0.here hx hby (own_pool X0 hx hZ hown hw hP) (retOut X0 hx Bd.returns hr.1 hr.2 (hb hby hd) hr')), hrun, hended, _, _, rfl, ⟨rfl, rfl, ?_⟩, ⟨_, rfl⟩, hW, hsame⟩
  exact e0
theorem own_callP (X : Stand p l e R s m args below meth c T locs cells slots) (hx : p.tables.exec = Jvm.exec) (hZ : Z.Warmed39 s.vm) {own : String} {index : Nat} {y : MethodName} {bytes : ByteArray} {maxL : Nat} {ret : Option FieldType} (hown : s.vm.findClass own = some m.cls)
    (w1 : (Jvm.Cond.methodLink own index y).before a0 Z = true) (w2 : (Jvm.Cond.static y).before a0 Z = true) (w3 : (Jvm.Cond.initialized y.cls).before a0 Z = true) (w4 : (Jvm.Cond.code y bytes maxL ret).before a0 Z = true) (hy : y.cls ≠ "java/lang/invoke/MethodHandle" ∧ y.cls ≠ "java/lang/invoke/VarHandle")
    (eT : T.heap = h) {fr lo W : Nat} {argsL rest : List Value} {v : Option Value} (hM : own_Pure l Z y bytes maxL ret fr lo argsL.toArray h v) (hf : fr + 1 ≤ R.frames) (hl : W + (maxL + 11) + lo ≤ R.locals) (hc : cells ≤ R.cells) (hs : slots ≤ R.slots)
    {g : JFrame} (hg : g.method = m) (hsize : g.locals.size = c.maxLocals) (hlen : ∀ sig, parseMethodDescriptor y.desc = some sig → argsL.length = sig.parameters.length) (hst : g.stack = argsL.reverse ++ rest) (hW : 2 * g.monitorRoom + (rest.map fun v => v.category).sum ≤ W) (hd : decode c.code g.pc = .ok (.invokestatic index, 3)) :
    ∃ T', Stand p l e R s m args below meth c T' locs cells slots ∧ T'.heap = h ∧ ∀ target, Steps p.tables e below (T'.setTop { g with pc := g.pc + 3, stack := v.toList ++ rest }) target → Steps p.tables e below (T.setTop g) target := by
  obtain ⟨v', vm1, ⟨T2, L2, k2, n2⟩, -, X2, ⟨Lc, hQ, l2, y2, z2⟩, st⟩ := Jvm.LawKit.callS X hx hown (mvT hZ w1) (mvT hZ w2) (mvT hZ w3) (mvT hZ w4) hy (backOf (W := W) (rm := own_room fr lo) (Q := fun w H L => w = v ∧ L = [] ∧ H = h) hM hZ w4 w3 hf hl) hg hsize hlen hst hW hd (fun _ _ => ⟨rfl, eT, hc, hs⟩)
  dsimp only [Pt.U, Pt.locs, Pt.cells, Pt.slots] at X2 l2 y2 z2 st hQ
  obtain ⟨rfl, rfl, e2⟩ := hQ
  subst l2 y2 z2
  rw [List.append_nil] at X2
  exact ⟨T2, X2, e2, st⟩
end OwnCall
section OwnClaim
open Jvm.Free.Fl
theorem d1_0 : decode prog_33_method_10_code 0 = .ok (.dload_n 0, 1) := by decide +kernel
theorem d1_1 : decode prog_33_method_10_code 1 = .ok (.dload 4, 2) := by decide +kernel
theorem d1_3 : decode prog_33_method_10_code 3 = .ok (.dmul, 1) := by decide +kernel
theorem d1_4 : decode prog_33_method_10_code 4 = .ok (.dload 6, 2) := by decide +kernel
theorem d1_6 : decode prog_33_method_10_code 6 = .ok (.dconst 1, 1) := by decide +kernel
theorem d1_7 : decode prog_33_method_10_code 7 = .ok (.dload_n 0, 1) := by decide +kernel
theorem d1_8 : decode prog_33_method_10_code 8 = .ok (.dsub, 1) := by decide +kernel
theorem d1_9 : decode prog_33_method_10_code 9 = .ok (.dmul, 1) := by decide +kernel
theorem d1_10 : decode prog_33_method_10_code 10 = .ok (.dload_n 2, 1) := by decide +kernel
theorem d1_11 : decode prog_33_method_10_code 11 = .ok (.dmul, 1) := by decide +kernel
theorem d1_12 : decode prog_33_method_10_code 12 = .ok (.dadd, 1) := by decide +kernel
theorem d1_13 : decode prog_33_method_10_code 13 = .ok (.dconst 1, 1) := by decide +kernel
theorem d1_14 : decode prog_33_method_10_code 14 = .ok (.dconst 1, 1) := by decide +kernel
theorem d1_15 : decode prog_33_method_10_code 15 = .ok (.dload_n 0, 1) := by decide +kernel
theorem d1_16 : decode prog_33_method_10_code 16 = .ok (.dsub, 1) := by decide +kernel
theorem d1_17 : decode prog_33_method_10_code 17 = .ok (.dconst 1, 1) := by decide +kernel
theorem d1_18 : decode prog_33_method_10_code 18 = .ok (.dconst 1, 1) := by decide +kernel
theorem d1_19 : decode prog_33_method_10_code 19 = .ok (.dload 6, 2) := by decide +kernel
theorem d1_21 : decode prog_33_method_10_code 21 = .ok (.ddiv, 1) := by decide +kernel
theorem d1_22 : decode prog_33_method_10_code 22 = .ok (.dsub, 1) := by decide +kernel
theorem d1_23 : decode prog_33_method_10_code 23 = .ok (.dmul, 1) := by decide +kernel
theorem d1_24 : decode prog_33_method_10_code 24 = .ok (.dsub, 1) := by decide +kernel
theorem d1_25 : decode prog_33_method_10_code 25 = .ok (.dmul, 1) := by decide +kernel
theorem d1_26 : decode prog_33_method_10_code 26 = .ok (.dreturn, 1) := by decide +kernel
def own_K0 : List (Nat × Value) := [(7, .int 2147483647), (8, .double 4616189618054758400), (10, .double 4620693217682128896), (18, .long 8), (20, .double 4652218415073722368), (22, .long 2147483647)]
theorem own_K0_ok : ∀ q ∈ own_K0, ∃ w ∈ tables_1, own_Word "com/example/beanflow/beanflow/SlipMomentumVolumePinLaw" q.1 q.2 w := by
  intro q hq
  simp only [own_K0, List.mem_cons, List.not_mem_nil, or_false] at hq
  rcases hq with rfl | rfl | rfl | rfl | rfl | rfl
  · exact ⟨_, List.mem_of_getElem? (i := 0) rfl, rfl⟩
  · exact ⟨_, List.mem_of_getElem? (i := 1) rfl, rfl⟩
  · exact ⟨_, List.mem_of_getElem? (i := 2) rfl, rfl⟩
  · exact ⟨_, List.mem_of_getElem? (i := 7) rfl, rfl⟩
  · exact ⟨_, List.mem_of_getElem? (i := 8) rfl, rfl⟩
  · exact ⟨_, List.mem_of_getElem? (i := 9) rfl, rfl⟩
def own_K1 : List (Nat × Value) := []
theorem own_K1_ok : ∀ q ∈ own_K1, ∃ w ∈ tables_1, own_Word "com/example/beanflow/beanflow/Slip" q.1 q.2 w := by
  intro q hq
  exact absurd hq (List.not_mem_nil)
theorem own_pn0 : plainName "com/example/beanflow/beanflow/SlipMomentumVolumePinLaw" = true := by first | (simp [plainName, overriddenIn]; done) | decide +kernel
theorem own_pn1 : plainName "com/example/beanflow/beanflow/Slip" = true := by first | (simp [plainName, overriddenIn]; done) | decide +kernel
theorem own_pd1 : parseMethodDescriptor "(DDDD)D" = some ⟨[.double, .double, .double, .double], some .double⟩ := by decide +kernel
theorem own_ef0 (m : MethodId) (x0 : Int32) (x1 : Int32) (x2 : Int32) (x3 : Int32) (x4 : Int32) : entryFrame m #[(.int x0), (.int x1), (.int x2), (.int x3), (.int x4)] maxLocals = mkF m 0 (List.toArray ((.val (.int x0)) :: (.val (.int x1)) :: (.val (.int x2)) :: (.val (.int x3)) :: (.val (.int x4)) :: .unset :: .unset :: .unset :: .unset :: .unset :: .unset :: .unset :: .unset :: .unset :: .unset :: .unset :: .unset :: .unset :: .unset :: .unset :: .unset :: .unset :: .unset :: .unset :: .unset :: .unset :: .unset :: .unset :: .unset :: .unset :: .unset :: .unset :: .unset :: .unset :: .unset :: [])) [] := by first | (simp [entryFrame, mkF, argsToLocals, Value.category, maxLocals]; done) | rfl
theorem own_ef1 (m : MethodId) (x0 : UInt64) (x1 : UInt64) (x2 : UInt64) (x3 : UInt64) : entryFrame m #[(.double x0), (.double x1), (.double x2), (.double x3)] 8 = mkF m 0 #[.val (.double x0), .second, .val (.double x1), .second, .val (.double x2), .second, .val (.double x3), .second] [] := by first | (simp [entryFrame, mkF, argsToLocals, Value.category]; done) | rfl
theorem own_s0 (xa : Int32) (xe : Int32) (xl : Int32) (xg : Int32) (xx : Int32) (v3 : Int32) (hv3 : (xa &&& (2147483647 : Int32)) = v3) (v5 : Int32) (hv5 : (v3 - (v3 / (5 : Int32)) * (5 : Int32)) = v5) (v11 : Int32) (hv11 : (xe &&& (2147483647 : Int32)) = v11) (v14 : Int32) (hv14 : (v11 - (v11 / (7 : Int32)) * (7 : Int32)) = v14) (v21 : Int32) (hv21 : (xl &&& (255 : Int32)) = v21) (v23 : Int32) (hv23 : (v21 + (1 : Int32)) = v23) (v24 : Int64) (hv24 : v23.toInt64 = v24) (v31 : Int32) (hv31 : (xg &&& (255 : Int32)) = v31) (v33 : Int32) (hv33 : (v31 + (1 : Int32)) = v33) (v34 : Int64) (hv34 : v33.toInt64 = v34) (v39 : UInt64) (hv39 : (FP.i2d v5) = v39) (v43 : UInt64) (hv43 : (FP.ddiv v39 (4616189618054758400 : UInt64)) = v43) (nn43 : NoNaN64 (FP.ddiv v39 (4616189618054758400 : UInt64))) (v49 : Int32) (hv49 : ((1 : Int32) <<< (v14 &&& 31)) = v49) (v50 : UInt64) (hv50 : (FP.i2d v49) = v50) (v54 : UInt64) (hv54 : (FP.ddiv v50 (4620693217682128896 : UInt64)) = v54) (nn54 : NoNaN64 (FP.ddiv v50 (4620693217682128896 : UInt64))) (v61 : UInt64) (hv61 : (FP.l2d v24) = v61) (v64 : UInt64) (hv64 : (FP.l2d v34) = v64) :
    own_Go own_K0 code 0 (List.toArray ((.val (.int xa)) :: (.val (.int xe)) :: (.val (.int xl)) :: (.val (.int xg)) :: (.val (.int xx)) :: .unset :: .unset :: .unset :: .unset :: .unset :: .unset :: .unset :: .unset :: .unset :: .unset :: .unset :: .unset :: .unset :: .unset :: .unset :: .unset :: .unset :: .unset :: .unset :: .unset :: .unset :: .unset :: .unset :: .unset :: .unset :: .unset :: .unset :: .unset :: .unset :: .unset :: [])) [] 67 (List.toArray ((.val (.int xa)) :: (.val (.int xe)) :: (.val (.int xl)) :: (.val (.int xg)) :: (.val (.int xx)) :: (.val (.int v5)) :: (.val (.int v14)) :: (.val (.long v24)) :: .second :: (.val (.long v34)) :: .second :: (.val (.double v43)) :: .second :: (.val (.double v54)) :: .second :: .unset :: .unset :: .unset :: .unset :: .unset :: .unset :: .unset :: .unset :: .unset :: .unset :: .unset :: .unset :: .unset :: .unset :: .unset :: .unset :: .unset :: .unset :: .unset :: .unset :: [])) [(.double v54), (.double v64), (.double v61), (.double v43)] := by
  refine own_iloadN (pc2 := 1) at_0 rfl rfl ?_
  refine own_ldc (v := (2147483647 : Int32)) (pc2 := 3) at_1 rfl (List.mem_of_getElem? (i := 0) rfl) ?_
  refine own_iand (pc2 := 4) at_3 rfl (v := v3) hv3 ?_
  refine own_iconst (v := 5) (pc2 := 5) at_4 rfl rfl ?_
  refine own_irem (pc2 := 6) at_5 rfl (by decide) (v := v5) hv5 ?_
  refine own_istore (pc2 := 8) at_6 rfl (L' := (List.toArray ((.val (.int xa)) :: (.val (.int xe)) :: (.val (.int xl)) :: (.val (.int xg)) :: (.val (.int xx)) :: (.val (.int v5)) :: .unset :: .unset :: .unset :: .unset :: .unset :: .unset :: .unset :: .unset :: .unset :: .unset :: .unset :: .unset :: .unset :: .unset :: .unset :: .unset :: .unset :: .unset :: .unset :: .unset :: .unset :: .unset :: .unset :: .unset :: .unset :: .unset :: .unset :: .unset :: .unset :: []))) rfl ?_
  refine own_iloadN (pc2 := 9) at_8 rfl rfl ?_
  refine own_ldc (v := (2147483647 : Int32)) (pc2 := 11) at_9 rfl (List.mem_of_getElem? (i := 0) rfl) ?_
  refine own_iand (pc2 := 12) at_11 rfl (v := v11) hv11 ?_
  refine own_bipush (v := 7) (pc2 := 14) at_12 rfl rfl ?_
  refine own_irem (pc2 := 15) at_14 rfl (by decide) (v := v14) hv14 ?_
  refine own_istore (pc2 := 17) at_15 rfl (L' := (List.toArray ((.val (.int xa)) :: (.val (.int xe)) :: (.val (.int xl)) :: (.val (.int xg)) :: (.val (.int xx)) :: (.val (.int v5)) :: (.val (.int v14)) :: .unset :: .unset :: .unset :: .unset :: .unset :: .unset :: .unset :: .unset :: .unset :: .unset :: .unset :: .unset :: .unset :: .unset :: .unset :: .unset :: .unset :: .unset :: .unset :: .unset :: .unset :: .unset :: .unset :: .unset :: .unset :: .unset :: .unset :: .unset :: []))) rfl ?_
  refine own_iloadN (pc2 := 18) at_17 rfl rfl ?_
  refine own_sipush (v := 255) (pc2 := 21) at_18 rfl rfl ?_
  refine own_iand (pc2 := 22) at_21 rfl (v := v21) hv21 ?_
  refine own_iconst (v := 1) (pc2 := 23) at_22 rfl rfl ?_
  refine own_iadd (pc2 := 24) at_23 rfl (v := v23) hv23 ?_
  refine own_i2l (pc2 := 25) at_24 rfl (v := v24) hv24 ?_
  refine own_lstore (pc2 := 27) at_25 rfl (L' := (List.toArray ((.val (.int xa)) :: (.val (.int xe)) :: (.val (.int xl)) :: (.val (.int xg)) :: (.val (.int xx)) :: (.val (.int v5)) :: (.val (.int v14)) :: (.val (.long v24)) :: .second :: .unset :: .unset :: .unset :: .unset :: .unset :: .unset :: .unset :: .unset :: .unset :: .unset :: .unset :: .unset :: .unset :: .unset :: .unset :: .unset :: .unset :: .unset :: .unset :: .unset :: .unset :: .unset :: .unset :: .unset :: .unset :: .unset :: []))) rfl ?_
  refine own_iloadN (pc2 := 28) at_27 rfl rfl ?_
  refine own_sipush (v := 255) (pc2 := 31) at_28 rfl rfl ?_
  refine own_iand (pc2 := 32) at_31 rfl (v := v31) hv31 ?_
  refine own_iconst (v := 1) (pc2 := 33) at_32 rfl rfl ?_
  refine own_iadd (pc2 := 34) at_33 rfl (v := v33) hv33 ?_
  refine own_i2l (pc2 := 35) at_34 rfl (v := v34) hv34 ?_
  refine own_lstore (pc2 := 37) at_35 rfl (L' := (List.toArray ((.val (.int xa)) :: (.val (.int xe)) :: (.val (.int xl)) :: (.val (.int xg)) :: (.val (.int xx)) :: (.val (.int v5)) :: (.val (.int v14)) :: (.val (.long v24)) :: .second :: (.val (.long v34)) :: .second :: .unset :: .unset :: .unset :: .unset :: .unset :: .unset :: .unset :: .unset :: .unset :: .unset :: .unset :: .unset :: .unset :: .unset :: .unset :: .unset :: .unset :: .unset :: .unset :: .unset :: .unset :: .unset :: .unset :: .unset :: []))) rfl ?_
  refine own_iload (pc2 := 39) at_37 rfl rfl ?_
  refine own_i2d (pc2 := 40) at_39 rfl (v := v39) hv39 ?_
  refine own_ldc2D (v := (4616189618054758400 : UInt64)) (pc2 := 43) at_40 rfl (List.mem_of_getElem? (i := 1) rfl) ?_
  refine own_ddiv (pc2 := 44) at_43 rfl nn43 (v := v43) hv43 ?_
  refine own_dstore (pc2 := 46) at_44 rfl (L' := (List.toArray ((.val (.int xa)) :: (.val (.int xe)) :: (.val (.int xl)) :: (.val (.int xg)) :: (.val (.int xx)) :: (.val (.int v5)) :: (.val (.int v14)) :: (.val (.long v24)) :: .second :: (.val (.long v34)) :: .second :: (.val (.double v43)) :: .second :: .unset :: .unset :: .unset :: .unset :: .unset :: .unset :: .unset :: .unset :: .unset :: .unset :: .unset :: .unset :: .unset :: .unset :: .unset :: .unset :: .unset :: .unset :: .unset :: .unset :: .unset :: .unset :: []))) rfl ?_
  refine own_iconst (v := 1) (pc2 := 47) at_46 rfl rfl ?_
  refine own_iload (pc2 := 49) at_47 rfl rfl ?_
  refine own_ishl (pc2 := 50) at_49 rfl (v := v49) hv49 ?_
  refine own_i2d (pc2 := 51) at_50 rfl (v := v50) hv50 ?_
  refine own_ldc2D (v := (4620693217682128896 : UInt64)) (pc2 := 54) at_51 rfl (List.mem_of_getElem? (i := 2) rfl) ?_
  refine own_ddiv (pc2 := 55) at_54 rfl nn54 (v := v54) hv54 ?_
  refine own_dstore (pc2 := 57) at_55 rfl (L' := (List.toArray ((.val (.int xa)) :: (.val (.int xe)) :: (.val (.int xl)) :: (.val (.int xg)) :: (.val (.int xx)) :: (.val (.int v5)) :: (.val (.int v14)) :: (.val (.long v24)) :: .second :: (.val (.long v34)) :: .second :: (.val (.double v43)) :: .second :: (.val (.double v54)) :: .second :: .unset :: .unset :: .unset :: .unset :: .unset :: .unset :: .unset :: .unset :: .unset :: .unset :: .unset :: .unset :: .unset :: .unset :: .unset :: .unset :: .unset :: .unset :: .unset :: .unset :: []))) rfl ?_
  refine own_dload (pc2 := 59) at_57 rfl rfl ?_
  refine own_lload (pc2 := 61) at_59 rfl rfl ?_
  refine own_l2d (pc2 := 62) at_61 rfl (v := v61) hv61 ?_
  refine own_lload (pc2 := 64) at_62 rfl rfl ?_
  refine own_l2d (pc2 := 65) at_64 rfl (v := v64) hv64 ?_
  refine own_dload (pc2 := 67) at_65 rfl rfl ?_
  exact own_refl
theorem own_t0 (x : UInt64) (vl : UInt64) (vg : UInt64) (k : UInt64) (v3 : UInt64) (hv3 : (FP.dmul x vg) = v3) (nn3 : NoNaN64 (FP.dmul x vg)) (v8 : UInt64) (hv8 : (FP.dsub (4607182418800017408 : UInt64) x) = v8) (nn8 : NoNaN64 (FP.dsub (4607182418800017408 : UInt64) x)) (v9 : UInt64) (hv9 : (FP.dmul k v8) = v9) (nn9 : NoNaN64 (FP.dmul k v8)) (v11 : UInt64) (hv11 : (FP.dmul v9 vl) = v11) (nn11 : NoNaN64 (FP.dmul v9 vl)) (v12 : UInt64) (hv12 : (FP.dadd v3 v11) = v12) (nn12 : NoNaN64 (FP.dadd v3 v11)) (v16 : UInt64) (hv16 : (FP.dsub (4607182418800017408 : UInt64) x) = v16) (nn16 : NoNaN64 (FP.dsub (4607182418800017408 : UInt64) x)) (v21 : UInt64) (hv21 : (FP.ddiv (4607182418800017408 : UInt64) k) = v21) (nn21 : NoNaN64 (FP.ddiv (4607182418800017408 : UInt64) k)) (v22 : UInt64) (hv22 : (FP.dsub (4607182418800017408 : UInt64) v21) = v22) (nn22 : NoNaN64 (FP.dsub (4607182418800017408 : UInt64) v21)) (v23 : UInt64) (hv23 : (FP.dmul v16 v22) = v23) (nn23 : NoNaN64 (FP.dmul v16 v22)) (v24 : UInt64) (hv24 : (FP.dsub (4607182418800017408 : UInt64) v23) = v24) (nn24 : NoNaN64 (FP.dsub (4607182418800017408 : UInt64) v23)) (v25 : UInt64) (hv25 : (FP.dmul v12 v24) = v25) (nn25 : NoNaN64 (FP.dmul v12 v24)) :
    own_Go own_K1 prog_33_method_10_code 0 #[.val (.double x), .second, .val (.double vl), .second, .val (.double vg), .second, .val (.double k), .second] [] 26 #[.val (.double x), .second, .val (.double vl), .second, .val (.double vg), .second, .val (.double k), .second] [(.double v25)] := by
  refine own_dloadN (pc2 := 1) d1_0 rfl rfl ?_
  refine own_dload (pc2 := 3) d1_1 rfl rfl ?_
  refine own_dmul (pc2 := 4) d1_3 rfl nn3 (v := v3) hv3 ?_
  refine own_dload (pc2 := 6) d1_4 rfl rfl ?_
  refine own_dconst1 (v := 4607182418800017408) (pc2 := 7) d1_6 rfl rfl ?_
  refine own_dloadN (pc2 := 8) d1_7 rfl rfl ?_
  refine own_dsub (pc2 := 9) d1_8 rfl nn8 (v := v8) hv8 ?_
  refine own_dmul (pc2 := 10) d1_9 rfl nn9 (v := v9) hv9 ?_
  refine own_dloadN (pc2 := 11) d1_10 rfl rfl ?_
  refine own_dmul (pc2 := 12) d1_11 rfl nn11 (v := v11) hv11 ?_
  refine own_dadd (pc2 := 13) d1_12 rfl nn12 (v := v12) hv12 ?_
  refine own_dconst1 (v := 4607182418800017408) (pc2 := 14) d1_13 rfl rfl ?_
  refine own_dconst1 (v := 4607182418800017408) (pc2 := 15) d1_14 rfl rfl ?_
  refine own_dloadN (pc2 := 16) d1_15 rfl rfl ?_
  refine own_dsub (pc2 := 17) d1_16 rfl nn16 (v := v16) hv16 ?_
  refine own_dconst1 (v := 4607182418800017408) (pc2 := 18) d1_17 rfl rfl ?_
  refine own_dconst1 (v := 4607182418800017408) (pc2 := 19) d1_18 rfl rfl ?_
  refine own_dload (pc2 := 21) d1_19 rfl rfl ?_
  refine own_ddiv (pc2 := 22) d1_21 rfl nn21 (v := v21) hv21 ?_
  refine own_dsub (pc2 := 23) d1_22 rfl nn22 (v := v22) hv22 ?_
  refine own_dmul (pc2 := 24) d1_23 rfl nn23 (v := v23) hv23 ?_
  refine own_dsub (pc2 := 25) d1_24 rfl nn24 (v := v24) hv24 ?_
  refine own_dmul (pc2 := 26) d1_25 rfl nn25 (v := v25) hv25 ?_
  exact own_refl
theorem own_q0 (xa : Int32) (xe : Int32) (xl : Int32) (xg : Int32) (xx : Int32) (v5 : Int32) (v14 : Int32) (v24 : Int64) (v34 : Int64) (v43 : UInt64) (v54 : UInt64) (got : UInt64) (v77 : Int64) (hv77 : v5.toInt64 = v77) (v78 : Int64) (hv78 : ((8 : Int64) * v77) = v78) (v81 : Int64) (hv81 : (v78 * v34) = v81) (v85 : Int32) (hv85 : ((4 : Int32) - v5) = v85) (v86 : Int64) (hv86 : v85.toInt64 = v86) (v89 : Int64) (hv89 : (v86 * v24) = v89) (v92 : Int64) (hv92 : (v89 <<< (v14 &&& 0x3f).toInt64) = v92) (v93 : Int64) (hv93 : (v81 + v92) = v93) (v101 : Int64) (hv101 : v5.toInt64 = v101) (v102 : Int64) (hv102 : ((8 : Int64) * v101) = v102) (v106 : Int32) (hv106 : ((4 : Int32) - v5) = v106) (v107 : Int64) (hv107 : v106.toInt64 = v107) (v112 : Int32) (hv112 : ((6 : Int32) - v14) = v112) (v113 : Int64) (hv113 : (v107 <<< (v112 &&& 0x3f).toInt64) = v113) (v114 : Int64) (hv114 : (v102 + v113) = v114) (v121 : Int64) (hv121 : (v93 * v114) = v121) (v122 : UInt64) (hv122 : (FP.l2d v121) = v122) (v126 : UInt64) (hv126 : (FP.ddiv v122 (4652218415073722368 : UInt64)) = v126) (nn126 : NoNaN64 (FP.ddiv v122 (4652218415073722368 : UInt64))) (v133 : Int32) (hv133 : (cmpValue (FP.dcmp got v126) .l) = v133) (j144_23 : Int32) (hj144_23 : (bif ifCond.holds .ne v133 then (0 : Int32) else (1 : Int32)) = j144_23) :
    own_Go own_K0 code 70 (List.toArray ((.val (.int xa)) :: (.val (.int xe)) :: (.val (.int xl)) :: (.val (.int xg)) :: (.val (.int xx)) :: (.val (.int v5)) :: (.val (.int v14)) :: (.val (.long v24)) :: .second :: (.val (.long v34)) :: .second :: (.val (.double v43)) :: .second :: (.val (.double v54)) :: .second :: .unset :: .unset :: .unset :: .unset :: .unset :: .unset :: .unset :: .unset :: .unset :: .unset :: .unset :: .unset :: .unset :: .unset :: .unset :: .unset :: .unset :: .unset :: .unset :: .unset :: [])) [(.double got)] 144 (List.toArray ((.val (.int xa)) :: (.val (.int xe)) :: (.val (.int xl)) :: (.val (.int xg)) :: (.val (.int xx)) :: (.val (.int v5)) :: (.val (.int v14)) :: (.val (.long v24)) :: .second :: (.val (.long v34)) :: .second :: (.val (.double v43)) :: .second :: (.val (.double v54)) :: .second :: (.val (.double got)) :: .second :: (.val (.long v93)) :: .second :: (.val (.long v114)) :: .second :: (.val (.double v126)) :: .second :: (.val (.int j144_23)) :: .unset :: .unset :: .unset :: .unset :: .unset :: .unset :: .unset :: .unset :: .unset :: .unset :: .unset :: [])) [] := by
  subst hj144_23
  refine own_dstore (pc2 := 72) at_70 rfl (L' := (List.toArray ((.val (.int xa)) :: (.val (.int xe)) :: (.val (.int xl)) :: (.val (.int xg)) :: (.val (.int xx)) :: (.val (.int v5)) :: (.val (.int v14)) :: (.val (.long v24)) :: .second :: (.val (.long v34)) :: .second :: (.val (.double v43)) :: .second :: (.val (.double v54)) :: .second :: (.val (.double got)) :: .second :: .unset :: .unset :: .unset :: .unset :: .unset :: .unset :: .unset :: .unset :: .unset :: .unset :: .unset :: .unset :: .unset :: .unset :: .unset :: .unset :: .unset :: .unset :: []))) rfl ?_
  refine own_ldc2L (v := (8 : Int64)) (pc2 := 75) at_72 rfl (List.mem_of_getElem? (i := 3) rfl) ?_
  refine own_iload (pc2 := 77) at_75 rfl rfl ?_
  refine own_i2l (pc2 := 78) at_77 rfl (v := v77) hv77 ?_
  refine own_lmul (pc2 := 79) at_78 rfl (v := v78) hv78 ?_
  refine own_lload (pc2 := 81) at_79 rfl rfl ?_
  refine own_lmul (pc2 := 82) at_81 rfl (v := v81) hv81 ?_
  refine own_iconst (v := 4) (pc2 := 83) at_82 rfl rfl ?_
  refine own_iload (pc2 := 85) at_83 rfl rfl ?_
  refine own_isub (pc2 := 86) at_85 rfl (v := v85) hv85 ?_
  refine own_i2l (pc2 := 87) at_86 rfl (v := v86) hv86 ?_
  refine own_lload (pc2 := 89) at_87 rfl rfl ?_
  refine own_lmul (pc2 := 90) at_89 rfl (v := v89) hv89 ?_
  refine own_iload (pc2 := 92) at_90 rfl rfl ?_
  refine own_lshl (pc2 := 93) at_92 rfl (v := v92) hv92 ?_
  refine own_ladd (pc2 := 94) at_93 rfl (v := v93) hv93 ?_
  refine own_lstore (pc2 := 96) at_94 rfl (L' := (List.toArray ((.val (.int xa)) :: (.val (.int xe)) :: (.val (.int xl)) :: (.val (.int xg)) :: (.val (.int xx)) :: (.val (.int v5)) :: (.val (.int v14)) :: (.val (.long v24)) :: .second :: (.val (.long v34)) :: .second :: (.val (.double v43)) :: .second :: (.val (.double v54)) :: .second :: (.val (.double got)) :: .second :: (.val (.long v93)) :: .second :: .unset :: .unset :: .unset :: .unset :: .unset :: .unset :: .unset :: .unset :: .unset :: .unset :: .unset :: .unset :: .unset :: .unset :: .unset :: .unset :: []))) rfl ?_
  refine own_ldc2L (v := (8 : Int64)) (pc2 := 99) at_96 rfl (List.mem_of_getElem? (i := 3) rfl) ?_
  refine own_iload (pc2 := 101) at_99 rfl rfl ?_
  refine own_i2l (pc2 := 102) at_101 rfl (v := v101) hv101 ?_
  refine own_lmul (pc2 := 103) at_102 rfl (v := v102) hv102 ?_
  refine own_iconst (v := 4) (pc2 := 104) at_103 rfl rfl ?_
  refine own_iload (pc2 := 106) at_104 rfl rfl ?_
  refine own_isub (pc2 := 107) at_106 rfl (v := v106) hv106 ?_
  refine own_i2l (pc2 := 108) at_107 rfl (v := v107) hv107 ?_
  refine own_bipush (v := 6) (pc2 := 110) at_108 rfl rfl ?_
  refine own_iload (pc2 := 112) at_110 rfl rfl ?_
  refine own_isub (pc2 := 113) at_112 rfl (v := v112) hv112 ?_
  refine own_lshl (pc2 := 114) at_113 rfl (v := v113) hv113 ?_
  refine own_ladd (pc2 := 115) at_114 rfl (v := v114) hv114 ?_
  refine own_lstore (pc2 := 117) at_115 rfl (L' := (List.toArray ((.val (.int xa)) :: (.val (.int xe)) :: (.val (.int xl)) :: (.val (.int xg)) :: (.val (.int xx)) :: (.val (.int v5)) :: (.val (.int v14)) :: (.val (.long v24)) :: .second :: (.val (.long v34)) :: .second :: (.val (.double v43)) :: .second :: (.val (.double v54)) :: .second :: (.val (.double got)) :: .second :: (.val (.long v93)) :: .second :: (.val (.long v114)) :: .second :: .unset :: .unset :: .unset :: .unset :: .unset :: .unset :: .unset :: .unset :: .unset :: .unset :: .unset :: .unset :: .unset :: .unset :: []))) rfl ?_
  refine own_lload (pc2 := 119) at_117 rfl rfl ?_
  refine own_lload (pc2 := 121) at_119 rfl rfl ?_
  refine own_lmul (pc2 := 122) at_121 rfl (v := v121) hv121 ?_
  refine own_l2d (pc2 := 123) at_122 rfl (v := v122) hv122 ?_
  refine own_ldc2D (v := (4652218415073722368 : UInt64)) (pc2 := 126) at_123 rfl (List.mem_of_getElem? (i := 4) rfl) ?_
  refine own_ddiv (pc2 := 127) at_126 rfl nn126 (v := v126) hv126 ?_
  refine own_dstore (pc2 := 129) at_127 rfl (L' := (List.toArray ((.val (.int xa)) :: (.val (.int xe)) :: (.val (.int xl)) :: (.val (.int xg)) :: (.val (.int xx)) :: (.val (.int v5)) :: (.val (.int v14)) :: (.val (.long v24)) :: .second :: (.val (.long v34)) :: .second :: (.val (.double v43)) :: .second :: (.val (.double v54)) :: .second :: (.val (.double got)) :: .second :: (.val (.long v93)) :: .second :: (.val (.long v114)) :: .second :: (.val (.double v126)) :: .second :: .unset :: .unset :: .unset :: .unset :: .unset :: .unset :: .unset :: .unset :: .unset :: .unset :: .unset :: .unset :: []))) rfl ?_
  refine own_dload (pc2 := 131) at_129 rfl rfl ?_
  refine own_dload (pc2 := 133) at_131 rfl rfl ?_
  refine own_dcmp (pc2 := 134) at_133 rfl (v := v133) hv133 ?_
  cases hb134 : ifCond.holds .ne v133
  · refine own_ifNo (pc2 := 137) at_134 rfl hb134 ?_
    refine own_iconst (v := 1) (pc2 := 138) at_137 rfl rfl ?_
    refine own_goto (pc' := 142) at_138 (by decide) (by decide) ?_
    refine own_istore (pc2 := 144) at_142 rfl (L' := (List.toArray ((.val (.int xa)) :: (.val (.int xe)) :: (.val (.int xl)) :: (.val (.int xg)) :: (.val (.int xx)) :: (.val (.int v5)) :: (.val (.int v14)) :: (.val (.long v24)) :: .second :: (.val (.long v34)) :: .second :: (.val (.double v43)) :: .second :: (.val (.double v54)) :: .second :: (.val (.double got)) :: .second :: (.val (.long v93)) :: .second :: (.val (.long v114)) :: .second :: (.val (.double v126)) :: .second :: (.val (.int (1 : Int32))) :: .unset :: .unset :: .unset :: .unset :: .unset :: .unset :: .unset :: .unset :: .unset :: .unset :: .unset :: []))) rfl ?_
    exact own_refl
  · refine own_ifYes (pc' := 141) at_134 hb134 (by decide) (by decide) ?_
    refine own_iconst (v := 0) (pc2 := 142) at_141 rfl rfl ?_
    refine own_istore (pc2 := 144) at_142 rfl (L' := (List.toArray ((.val (.int xa)) :: (.val (.int xe)) :: (.val (.int xl)) :: (.val (.int xg)) :: (.val (.int xx)) :: (.val (.int v5)) :: (.val (.int v14)) :: (.val (.long v24)) :: .second :: (.val (.long v34)) :: .second :: (.val (.double v43)) :: .second :: (.val (.double v54)) :: .second :: (.val (.double got)) :: .second :: (.val (.long v93)) :: .second :: (.val (.long v114)) :: .second :: (.val (.double v126)) :: .second :: (.val (.int (0 : Int32))) :: .unset :: .unset :: .unset :: .unset :: .unset :: .unset :: .unset :: .unset :: .unset :: .unset :: .unset :: []))) rfl ?_
    exact own_refl
theorem own_q1 (xa : Int32) (xe : Int32) (xl : Int32) (xg : Int32) (xx : Int32) (v5 : Int32) (v14 : Int32) (v24 : Int64) (v34 : Int64) (v43 : UInt64) (v54 : UInt64) (got : UInt64) (v93 : Int64) (v114 : Int64) (v126 : UInt64) (j144_23 : Int32) (v149 : Int32) (hv149 : (xx &&& (1023 : Int32)) = v149) (v150 : UInt64) (hv150 : (FP.i2d v149) = v150) (v154 : UInt64) (hv154 : (FP.ddiv v150 (4652218415073722368 : UInt64)) = v154) (nn154 : NoNaN64 (FP.ddiv v150 (4652218415073722368 : UInt64))) (v158 : Int64) (hv158 : xl.toInt64 = v158) (v162 : Int64) (hv162 : (v158 &&& (2147483647 : Int64)) = v162) (v164 : Int64) (hv164 : (v162 + (1 : Int64)) = v164) (v165 : UInt64) (hv165 : (FP.l2d v164) = v165) (v169 : Int64) (hv169 : xg.toInt64 = v169) (v173 : Int64) (hv173 : (v169 &&& (2147483647 : Int64)) = v173) (v175 : Int64) (hv175 : (v173 + (1 : Int64)) = v175) (v176 : UInt64) (hv176 : (FP.l2d v175) = v176) :
    own_Go own_K0 code 144 (List.toArray ((.val (.int xa)) :: (.val (.int xe)) :: (.val (.int xl)) :: (.val (.int xg)) :: (.val (.int xx)) :: (.val (.int v5)) :: (.val (.int v14)) :: (.val (.long v24)) :: .second :: (.val (.long v34)) :: .second :: (.val (.double v43)) :: .second :: (.val (.double v54)) :: .second :: (.val (.double got)) :: .second :: (.val (.long v93)) :: .second :: (.val (.long v114)) :: .second :: (.val (.double v126)) :: .second :: (.val (.int j144_23)) :: .unset :: .unset :: .unset :: .unset :: .unset :: .unset :: .unset :: .unset :: .unset :: .unset :: .unset :: [])) [] 186 (List.toArray ((.val (.int xa)) :: (.val (.int xe)) :: (.val (.int xl)) :: (.val (.int xg)) :: (.val (.int xx)) :: (.val (.int v5)) :: (.val (.int v14)) :: (.val (.long v24)) :: .second :: (.val (.long v34)) :: .second :: (.val (.double v43)) :: .second :: (.val (.double v54)) :: .second :: (.val (.double got)) :: .second :: (.val (.long v93)) :: .second :: (.val (.long v114)) :: .second :: (.val (.double v126)) :: .second :: (.val (.int j144_23)) :: (.val (.double v154)) :: .second :: (.val (.double v165)) :: .second :: (.val (.double v176)) :: .second :: .unset :: .unset :: .unset :: .unset :: .unset :: [])) [(.double (4607182418800017408 : UInt64)), (.double v176), (.double v165), (.double v154)] := by
  refine own_iload (pc2 := 146) at_144 rfl rfl ?_
  refine own_sipush (v := 1023) (pc2 := 149) at_146 rfl rfl ?_
  refine own_iand (pc2 := 150) at_149 rfl (v := v149) hv149 ?_
  refine own_i2d (pc2 := 151) at_150 rfl (v := v150) hv150 ?_
  refine own_ldc2D (v := (4652218415073722368 : UInt64)) (pc2 := 154) at_151 rfl (List.mem_of_getElem? (i := 4) rfl) ?_
  refine own_ddiv (pc2 := 155) at_154 rfl nn154 (v := v154) hv154 ?_
  refine own_dstore (pc2 := 157) at_155 rfl (L' := (List.toArray ((.val (.int xa)) :: (.val (.int xe)) :: (.val (.int xl)) :: (.val (.int xg)) :: (.val (.int xx)) :: (.val (.int v5)) :: (.val (.int v14)) :: (.val (.long v24)) :: .second :: (.val (.long v34)) :: .second :: (.val (.double v43)) :: .second :: (.val (.double v54)) :: .second :: (.val (.double got)) :: .second :: (.val (.long v93)) :: .second :: (.val (.long v114)) :: .second :: (.val (.double v126)) :: .second :: (.val (.int j144_23)) :: (.val (.double v154)) :: .second :: .unset :: .unset :: .unset :: .unset :: .unset :: .unset :: .unset :: .unset :: .unset :: []))) rfl ?_
  refine own_iloadN (pc2 := 158) at_157 rfl rfl ?_
  refine own_i2l (pc2 := 159) at_158 rfl (v := v158) hv158 ?_
  refine own_ldc2L (v := (2147483647 : Int64)) (pc2 := 162) at_159 rfl (List.mem_of_getElem? (i := 5) rfl) ?_
  refine own_land (pc2 := 163) at_162 rfl (v := v162) hv162 ?_
  refine own_lconst (v := 1) (pc2 := 164) at_163 rfl rfl ?_
  refine own_ladd (pc2 := 165) at_164 rfl (v := v164) hv164 ?_
  refine own_l2d (pc2 := 166) at_165 rfl (v := v165) hv165 ?_
  refine own_dstore (pc2 := 168) at_166 rfl (L' := (List.toArray ((.val (.int xa)) :: (.val (.int xe)) :: (.val (.int xl)) :: (.val (.int xg)) :: (.val (.int xx)) :: (.val (.int v5)) :: (.val (.int v14)) :: (.val (.long v24)) :: .second :: (.val (.long v34)) :: .second :: (.val (.double v43)) :: .second :: (.val (.double v54)) :: .second :: (.val (.double got)) :: .second :: (.val (.long v93)) :: .second :: (.val (.long v114)) :: .second :: (.val (.double v126)) :: .second :: (.val (.int j144_23)) :: (.val (.double v154)) :: .second :: (.val (.double v165)) :: .second :: .unset :: .unset :: .unset :: .unset :: .unset :: .unset :: .unset :: []))) rfl ?_
  refine own_iloadN (pc2 := 169) at_168 rfl rfl ?_
  refine own_i2l (pc2 := 170) at_169 rfl (v := v169) hv169 ?_
  refine own_ldc2L (v := (2147483647 : Int64)) (pc2 := 173) at_170 rfl (List.mem_of_getElem? (i := 5) rfl) ?_
  refine own_land (pc2 := 174) at_173 rfl (v := v173) hv173 ?_
  refine own_lconst (v := 1) (pc2 := 175) at_174 rfl rfl ?_
  refine own_ladd (pc2 := 176) at_175 rfl (v := v175) hv175 ?_
  refine own_l2d (pc2 := 177) at_176 rfl (v := v176) hv176 ?_
  refine own_dstore (pc2 := 179) at_177 rfl (L' := (List.toArray ((.val (.int xa)) :: (.val (.int xe)) :: (.val (.int xl)) :: (.val (.int xg)) :: (.val (.int xx)) :: (.val (.int v5)) :: (.val (.int v14)) :: (.val (.long v24)) :: .second :: (.val (.long v34)) :: .second :: (.val (.double v43)) :: .second :: (.val (.double v54)) :: .second :: (.val (.double got)) :: .second :: (.val (.long v93)) :: .second :: (.val (.long v114)) :: .second :: (.val (.double v126)) :: .second :: (.val (.int j144_23)) :: (.val (.double v154)) :: .second :: (.val (.double v165)) :: .second :: (.val (.double v176)) :: .second :: .unset :: .unset :: .unset :: .unset :: .unset :: []))) rfl ?_
  refine own_dload (pc2 := 181) at_179 rfl rfl ?_
  refine own_dload (pc2 := 183) at_181 rfl rfl ?_
  refine own_dload (pc2 := 185) at_183 rfl rfl ?_
  refine own_dconst1 (v := 4607182418800017408) (pc2 := 186) at_185 rfl rfl ?_
  exact own_refl
theorem own_r0 (xa : Int32) (xe : Int32) (xl : Int32) (xg : Int32) (xx : Int32) (v5 : Int32) (v14 : Int32) (v24 : Int64) (v34 : Int64) (v43 : UInt64) (v54 : UInt64) (got : UInt64) (v93 : Int64) (v114 : Int64) (v126 : UInt64) (j144_23 : Int32) (v154 : UInt64) (v165 : UInt64) (v176 : UInt64) (got2 : UInt64) (v195 : UInt64) (hv195 : (FP.dmul v154 v176) = v195) (nn195 : NoNaN64 (FP.dmul v154 v176)) (v199 : UInt64) (hv199 : (FP.dsub (4607182418800017408 : UInt64) v154) = v199) (nn199 : NoNaN64 (FP.dsub (4607182418800017408 : UInt64) v154)) (v202 : UInt64) (hv202 : (FP.dmul v199 v165) = v202) (nn202 : NoNaN64 (FP.dmul v199 v165)) (v203 : UInt64) (hv203 : (FP.dadd v195 v202) = v203) (nn203 : NoNaN64 (FP.dadd v195 v202)) (v210 : Int32) (hv210 : (cmpValue (FP.dcmp got2 v203) .l) = v210) (j221_34 : Int32) (hj221_34 : (bif ifCond.holds .ne v210 then (0 : Int32) else (1 : Int32)) = j221_34) :
    own_Go own_K0 code 189 (List.toArray ((.val (.int xa)) :: (.val (.int xe)) :: (.val (.int xl)) :: (.val (.int xg)) :: (.val (.int xx)) :: (.val (.int v5)) :: (.val (.int v14)) :: (.val (.long v24)) :: .second :: (.val (.long v34)) :: .second :: (.val (.double v43)) :: .second :: (.val (.double v54)) :: .second :: (.val (.double got)) :: .second :: (.val (.long v93)) :: .second :: (.val (.long v114)) :: .second :: (.val (.double v126)) :: .second :: (.val (.int j144_23)) :: (.val (.double v154)) :: .second :: (.val (.double v165)) :: .second :: (.val (.double v176)) :: .second :: .unset :: .unset :: .unset :: .unset :: .unset :: [])) [(.double got2)] 221 (List.toArray ((.val (.int xa)) :: (.val (.int xe)) :: (.val (.int xl)) :: (.val (.int xg)) :: (.val (.int xx)) :: (.val (.int v5)) :: (.val (.int v14)) :: (.val (.long v24)) :: .second :: (.val (.long v34)) :: .second :: (.val (.double v43)) :: .second :: (.val (.double v54)) :: .second :: (.val (.double got)) :: .second :: (.val (.long v93)) :: .second :: (.val (.long v114)) :: .second :: (.val (.double v126)) :: .second :: (.val (.int j144_23)) :: (.val (.double v154)) :: .second :: (.val (.double v165)) :: .second :: (.val (.double v176)) :: .second :: (.val (.double got2)) :: .second :: (.val (.double v203)) :: .second :: (.val (.int j221_34)) :: [])) [] := by
  subst hj221_34
  refine own_dstore (pc2 := 191) at_189 rfl (L' := (List.toArray ((.val (.int xa)) :: (.val (.int xe)) :: (.val (.int xl)) :: (.val (.int xg)) :: (.val (.int xx)) :: (.val (.int v5)) :: (.val (.int v14)) :: (.val (.long v24)) :: .second :: (.val (.long v34)) :: .second :: (.val (.double v43)) :: .second :: (.val (.double v54)) :: .second :: (.val (.double got)) :: .second :: (.val (.long v93)) :: .second :: (.val (.long v114)) :: .second :: (.val (.double v126)) :: .second :: (.val (.int j144_23)) :: (.val (.double v154)) :: .second :: (.val (.double v165)) :: .second :: (.val (.double v176)) :: .second :: (.val (.double got2)) :: .second :: .unset :: .unset :: .unset :: []))) rfl ?_
  refine own_dload (pc2 := 193) at_191 rfl rfl ?_
  refine own_dload (pc2 := 195) at_193 rfl rfl ?_
  refine own_dmul (pc2 := 196) at_195 rfl nn195 (v := v195) hv195 ?_
  refine own_dconst1 (v := 4607182418800017408) (pc2 := 197) at_196 rfl rfl ?_
  refine own_dload (pc2 := 199) at_197 rfl rfl ?_
  refine own_dsub (pc2 := 200) at_199 rfl nn199 (v := v199) hv199 ?_
  refine own_dload (pc2 := 202) at_200 rfl rfl ?_
  refine own_dmul (pc2 := 203) at_202 rfl nn202 (v := v202) hv202 ?_
  refine own_dadd (pc2 := 204) at_203 rfl nn203 (v := v203) hv203 ?_
  refine own_dstore (pc2 := 206) at_204 rfl (L' := (List.toArray ((.val (.int xa)) :: (.val (.int xe)) :: (.val (.int xl)) :: (.val (.int xg)) :: (.val (.int xx)) :: (.val (.int v5)) :: (.val (.int v14)) :: (.val (.long v24)) :: .second :: (.val (.long v34)) :: .second :: (.val (.double v43)) :: .second :: (.val (.double v54)) :: .second :: (.val (.double got)) :: .second :: (.val (.long v93)) :: .second :: (.val (.long v114)) :: .second :: (.val (.double v126)) :: .second :: (.val (.int j144_23)) :: (.val (.double v154)) :: .second :: (.val (.double v165)) :: .second :: (.val (.double v176)) :: .second :: (.val (.double got2)) :: .second :: (.val (.double v203)) :: .second :: .unset :: []))) rfl ?_
  refine own_dload (pc2 := 208) at_206 rfl rfl ?_
  refine own_dload (pc2 := 210) at_208 rfl rfl ?_
  refine own_dcmp (pc2 := 211) at_210 rfl (v := v210) hv210 ?_
  cases hb211 : ifCond.holds .ne v210
  · refine own_ifNo (pc2 := 214) at_211 rfl hb211 ?_
    refine own_iconst (v := 1) (pc2 := 215) at_214 rfl rfl ?_
    refine own_goto (pc' := 219) at_215 (by decide) (by decide) ?_
    refine own_istore (pc2 := 221) at_219 rfl (L' := (List.toArray ((.val (.int xa)) :: (.val (.int xe)) :: (.val (.int xl)) :: (.val (.int xg)) :: (.val (.int xx)) :: (.val (.int v5)) :: (.val (.int v14)) :: (.val (.long v24)) :: .second :: (.val (.long v34)) :: .second :: (.val (.double v43)) :: .second :: (.val (.double v54)) :: .second :: (.val (.double got)) :: .second :: (.val (.long v93)) :: .second :: (.val (.long v114)) :: .second :: (.val (.double v126)) :: .second :: (.val (.int j144_23)) :: (.val (.double v154)) :: .second :: (.val (.double v165)) :: .second :: (.val (.double v176)) :: .second :: (.val (.double got2)) :: .second :: (.val (.double v203)) :: .second :: (.val (.int (1 : Int32))) :: []))) rfl ?_
    exact own_refl
  · refine own_ifYes (pc' := 218) at_211 hb211 (by decide) (by decide) ?_
    refine own_iconst (v := 0) (pc2 := 219) at_218 rfl rfl ?_
    refine own_istore (pc2 := 221) at_219 rfl (L' := (List.toArray ((.val (.int xa)) :: (.val (.int xe)) :: (.val (.int xl)) :: (.val (.int xg)) :: (.val (.int xx)) :: (.val (.int v5)) :: (.val (.int v14)) :: (.val (.long v24)) :: .second :: (.val (.long v34)) :: .second :: (.val (.double v43)) :: .second :: (.val (.double v54)) :: .second :: (.val (.double got)) :: .second :: (.val (.long v93)) :: .second :: (.val (.long v114)) :: .second :: (.val (.double v126)) :: .second :: (.val (.int j144_23)) :: (.val (.double v154)) :: .second :: (.val (.double v165)) :: .second :: (.val (.double v176)) :: .second :: (.val (.double got2)) :: .second :: (.val (.double v203)) :: .second :: (.val (.int (0 : Int32))) :: []))) rfl ?_
    exact own_refl
theorem own_r1 (xa : Int32) (xe : Int32) (xl : Int32) (xg : Int32) (xx : Int32) (v5 : Int32) (v14 : Int32) (v24 : Int64) (v34 : Int64) (v43 : UInt64) (v54 : UInt64) (got : UInt64) (v93 : Int64) (v114 : Int64) (v126 : UInt64) (j144_23 : Int32) (v154 : UInt64) (v165 : UInt64) (v176 : UInt64) (got2 : UInt64) (v203 : UInt64) (j221_34 : Int32) (t236_0 : Int32) (ht236_0 : (bif ifCond.holds .eq j144_23 then (0 : Int32) else (bif ifCond.holds .eq j221_34 then (0 : Int32) else (1 : Int32))) = t236_0) :
    own_Go own_K0 code 221 (List.toArray ((.val (.int xa)) :: (.val (.int xe)) :: (.val (.int xl)) :: (.val (.int xg)) :: (.val (.int xx)) :: (.val (.int v5)) :: (.val (.int v14)) :: (.val (.long v24)) :: .second :: (.val (.long v34)) :: .second :: (.val (.double v43)) :: .second :: (.val (.double v54)) :: .second :: (.val (.double got)) :: .second :: (.val (.long v93)) :: .second :: (.val (.long v114)) :: .second :: (.val (.double v126)) :: .second :: (.val (.int j144_23)) :: (.val (.double v154)) :: .second :: (.val (.double v165)) :: .second :: (.val (.double v176)) :: .second :: (.val (.double got2)) :: .second :: (.val (.double v203)) :: .second :: (.val (.int j221_34)) :: [])) [] 236 (List.toArray ((.val (.int xa)) :: (.val (.int xe)) :: (.val (.int xl)) :: (.val (.int xg)) :: (.val (.int xx)) :: (.val (.int v5)) :: (.val (.int v14)) :: (.val (.long v24)) :: .second :: (.val (.long v34)) :: .second :: (.val (.double v43)) :: .second :: (.val (.double v54)) :: .second :: (.val (.double got)) :: .second :: (.val (.long v93)) :: .second :: (.val (.long v114)) :: .second :: (.val (.double v126)) :: .second :: (.val (.int j144_23)) :: (.val (.double v154)) :: .second :: (.val (.double v165)) :: .second :: (.val (.double v176)) :: .second :: (.val (.double got2)) :: .second :: (.val (.double v203)) :: .second :: (.val (.int j221_34)) :: [])) [(.int t236_0)] := by
  subst ht236_0
  refine own_iload (pc2 := 223) at_221 rfl rfl ?_
  cases hb223 : ifCond.holds .eq j144_23
  · refine own_ifNo (pc2 := 226) at_223 rfl hb223 ?_
    refine own_iload (pc2 := 228) at_226 rfl rfl ?_
    cases hb228 : ifCond.holds .eq j221_34
    · refine own_ifNo (pc2 := 231) at_228 rfl hb228 ?_
      refine own_iconst (v := 1) (pc2 := 232) at_231 rfl rfl ?_
      refine own_goto (pc' := 236) at_232 (by decide) (by decide) ?_
      exact own_refl
    · refine own_ifYes (pc' := 235) at_228 hb228 (by decide) (by decide) ?_
      refine own_iconst (v := 0) (pc2 := 236) at_235 rfl rfl ?_
      exact own_refl
  · refine own_ifYes (pc' := 235) at_223 hb223 (by decide) (by decide) ?_
    refine own_iconst (v := 0) (pc2 := 236) at_235 rfl rfl ?_
    exact own_refl

def own_one64 : UInt64 := 4607182418800017408
def own_MV (x vl vg k : UInt64) (res : UInt64) (r : Rat) : Prop := ∃ v3 v8 v9 v11 v12 v21 v22 v23 v24, FP.dmul x vg = v3 ∧ FP.dsub (4607182418800017408 : UInt64) x = v8 ∧ FP.dmul k v8 = v9 ∧ FP.dmul v9 vl = v11 ∧ FP.dadd v3 v11 = v12 ∧ FP.ddiv (4607182418800017408 : UInt64) k = v21 ∧ FP.dsub (4607182418800017408 : UInt64) v21 = v22 ∧ FP.dmul v8 v22 = v23 ∧ FP.dsub (4607182418800017408 : UInt64) v23 = v24 ∧ FP.dmul v12 v24 = res ∧
  NoNaN64 v3 ∧ NoNaN64 v8 ∧ NoNaN64 v9 ∧ NoNaN64 v11 ∧ NoNaN64 v12 ∧ NoNaN64 v21 ∧ NoNaN64 v22 ∧ NoNaN64 v23 ∧ NoNaN64 v24 ∧ own_is res r
theorem own_met (l : Launch) (Z : State) (a0 : Array Value) (hw : ∀ d ∈ tables_1, d.before a0 Z = true) (h : Heap) {x vl vg k res : UInt64} {r : Rat} (hE : own_MV x vl vg k res r) : own_Pure l Z (⟨"com/example/beanflow/beanflow/Slip", "momentumVolume", "(DDDD)D"⟩ : MethodName) prog_33_method_10_code 8 (some .double) 0 0 #[.double x, .double vl, .double vg, .double k] h (some (.double res)) := by
  obtain ⟨v3, v8, v9, v11, v12, v21, v22, v23, v24, h3, h8, h9, h11, h12, h21, h22, h23, h24, h25, n3, n8, n9, n11, n12, n21, n22, n23, n24, n25⟩ := hE
  subst h3 h8 h9 h11 h12 h21 h22 h23 h24 h25
  exact own_pure_go own_pn1 hw own_K1_ok (fun m => own_ef1 m x vl vg k) (own_t0 x vl vg k _ rfl n3 _ rfl n8 _ rfl n9 _ rfl n11 _ rfl n12 _ rfl n8 _ rfl n21 _ rfl n22 _ rfl n23 _ rfl n24 _ rfl (own_is_no n25)) d1_26 (own_retD _)
theorem own_mv {x vl vg k : UInt64} {X L G K : Rat} (hx : own_is x X) (hl : own_is vl L) (hg : own_is vg G) (hk : own_is k K) (hK : K ≠ 0)
    (r3 : own_Rep (X * G)) (r8 : own_Rep (1 - X)) (r9 : own_Rep (K * (1 - X))) (r11 : own_Rep (K * (1 - X) * L)) (r12 : own_Rep (X * G + K * (1 - X) * L)) (r21 : own_Rep (1 / K)) (r22 : own_Rep (1 - 1 / K)) (r23 : own_Rep ((1 - X) * (1 - 1 / K))) (r24 : own_Rep (1 - (1 - X) * (1 - 1 / K)))
    (r25 : own_Rep ((X * G + K * (1 - X) * L) * (1 - (1 - X) * (1 - 1 / K)))) : ∃ res, own_MV x vl vg k res ((X * G + K * (1 - X) * L) * (1 - (1 - X) * (1 - 1 / K))) := by
  have i3 := own_rd_rep (own_mul hx hg) r3
  have i8 := own_rd_rep (own_sub own_one hx) r8
  have i9 := own_rd_rep (own_mul hk i8) r9
  have i11 := own_rd_rep (own_mul i9 hl) r11
  have i12 := own_rd_rep (own_add i3 i11) r12
  have i21 := own_rd_rep (own_div own_one hk hK) r21
  have i22 := own_rd_rep (own_sub own_one i21) r22
  have i23 := own_rd_rep (own_mul i8 i22) r23
  have i24 := own_rd_rep (own_sub own_one i23) r24
  have i25 := own_rd_rep (own_mul i12 i24) r25
  exact ⟨_, _, _, _, _, _, _, _, _, _, rfl, rfl, rfl, rfl, rfl, rfl, rfl, rfl, rfl, rfl, own_is_no i3, own_is_no i8, own_is_no i9, own_is_no i11, own_is_no i12, own_is_no i21, own_is_no i22, own_is_no i23, own_is_no i24, i25⟩
theorem own_ik {E F : Rat} (hE : E ≠ 0) (hEF : E * F = 64) : 1 / (E / 8) = F / 8 := by
  have h8 : (8 : Rat) ≠ 0 := by decide
  have : E / 8 ≠ 0 := by
    intro q
    have := Rat.div_mul_cancel (a := E) h8
    rw [q, Rat.zero_mul] at this
    exact hE this.symm
  refine own_cancel this ?_
  rw [Rat.div_mul_cancel this]
  grind
theorem own_gridmv {x vl vg k : UInt64} {a L G E F : Int} (a0 : 0 ≤ a) (a4 : a ≤ 4) (L0 : 1 ≤ L) (L1 : L ≤ 256) (G0 : 1 ≤ G) (G1 : G ≤ 256) (E0 : 1 ≤ E) (E1 : E ≤ 64) (F0 : 1 ≤ F) (F1 : F ≤ 64) (hEF : E * F = 64)
    (hx : own_is x ((a : Rat) / 4)) (hl : own_is vl (L : Rat)) (hg : own_is vg (G : Rat)) (hk : own_is k ((E : Rat) / 8)) : ∃ res, own_MV x vl vg k res ((((8 * a * G + (4 - a) * L * E) * (8 * a + (4 - a) * F) : Int) : Rat) / 1024) := by
  have hEF' : (E : Rat) * (F : Rat) = 64 := by rw [← Rat.intCast_mul, hEF]; rfl
  have hE' : (E : Rat) ≠ 0 := by rw [Ne, Rat.intCast_eq_zero_iff]; omega
  have hik := own_ik hE' hEF'
  have p2 : ((2 ^ 2 : Nat) : Rat) = 4 := rfl
  have p3 : ((2 ^ 3 : Nat) : Rat) = 8 := rfl
  have p5 : ((2 ^ 5 : Nat) : Rat) = 32 := rfl
  have p10 : ((2 ^ 10 : Nat) : Rat) = 1024 := rfl
  have ka : a.natAbs ≤ 4 := by omega
  have kL : L.natAbs ≤ 256 := by omega
  have kG : G.natAbs ≤ 256 := by omega
  have kE : E.natAbs ≤ 64 := by omega
  have kF : F.natAbs ≤ 64 := by omega
  have kb : (4 - a).natAbs ≤ 4 := by omega
  have k1 := own_nb ka kG
  have k2 := own_nb kE kb
  have k3 := own_nb k2 kL
  have k4 := own_nb kb kF
  have k5 : (8 * (a * G) + E * (4 - a) * L).natAbs ≤ 80000 := by omega
  have k6 : (8 * a + (4 - a) * F).natAbs ≤ 300 := by omega
  have k7 := own_nb k5 k6
  have k8 : (8 - F).natAbs ≤ 56 := by omega
  have k9 := own_nb kb k8
  have four : ((4 : Int) : Rat) = 4 := rfl
  have eight : ((8 : Int) : Rat) = 8 := rfl
  obtain ⟨res, hres⟩ := own_mv hx hl hg hk (by intro q; have := Rat.div_mul_cancel (a := (E : Rat)) (show (8 : Rat) ≠ 0 by decide); rw [q, Rat.zero_mul] at this; exact hE' this.symm)
    (own_rep_fix (a * G) 2 (by decide) (by rw [p2, Rat.intCast_mul]; grind) (by omega))
    (own_rep_fix (4 - a) 2 (by decide) (by rw [p2, Rat.intCast_sub, four]; grind) (by omega))
    (own_rep_fix (E * (4 - a)) 5 (by decide) (by rw [p5, Rat.intCast_mul, Rat.intCast_sub, four]; grind) (by omega))
    (own_rep_fix (E * (4 - a) * L) 5 (by decide) (by rw [p5, Rat.intCast_mul, Rat.intCast_mul, Rat.intCast_sub, four]; grind) (by omega))
    (own_rep_fix (8 * (a * G) + E * (4 - a) * L) 5 (by decide) (by rw [p5, Rat.intCast_add, Rat.intCast_mul, Rat.intCast_mul, Rat.intCast_mul, Rat.intCast_mul, Rat.intCast_sub, four, eight]; grind) (by omega))
    (own_rep_fix F 3 (by decide) (by rw [p3, hik]; grind) (by omega))
    (own_rep_fix (8 - F) 3 (by decide) (by rw [p3, hik, Rat.intCast_sub, eight]; grind) (by omega))
    (own_rep_fix ((4 - a) * (8 - F)) 5 (by decide) (by rw [p5, hik, Rat.intCast_mul, Rat.intCast_sub, Rat.intCast_sub, eight, four]; grind) (by omega))
    (own_rep_fix (8 * a + (4 - a) * F) 5 (by decide) (by rw [p5, hik, Rat.intCast_add, Rat.intCast_mul, Rat.intCast_mul, Rat.intCast_sub, eight, four]; grind) (by omega))
    (own_rep_fix ((8 * (a * G) + E * (4 - a) * L) * (8 * a + (4 - a) * F)) 10 (by decide) (by rw [p10, hik]; simp only [Rat.intCast_add, Rat.intCast_mul, Rat.intCast_sub, eight, four]; grind) (by omega))
  refine ⟨res, ?_⟩
  rw [hik] at hres
  have ev : ((a : Rat) / 4 * (G : Rat) + (E : Rat) / 8 * (1 - (a : Rat) / 4) * (L : Rat)) * (1 - (1 - (a : Rat) / 4) * (1 - (F : Rat) / 8)) = (((8 * a * G + (4 - a) * L * E) * (8 * a + (4 - a) * F) : Int) : Rat) / 1024 := by
    simp only [Rat.intCast_add, Rat.intCast_mul, Rat.intCast_sub, eight, four]; grind
  rw [ev] at hres
  exact hres
theorem own_slipmv {x vl vg : UInt64} {J L G : Int} (J0 : 0 ≤ J) (J1 : J ≤ 1023) (L0 : 1 ≤ L) (L1 : L ≤ 2147483648) (G0 : 1 ≤ G) (G1 : G ≤ 2147483648)
    (hx : own_is x ((J : Rat) / 1024)) (hl : own_is vl (L : Rat)) (hg : own_is vg (G : Rat)) : ∃ res, own_MV x vl vg 4607182418800017408 res (((J * G + (1024 - J) * L : Int) : Rat) / 1024) := by
  have p10 : ((2 ^ 10 : Nat) : Rat) = 1024 := rfl
  have kJ : J.natAbs ≤ 1024 := by omega
  have kL : L.natAbs ≤ 2147483648 := by omega
  have kG : G.natAbs ≤ 2147483648 := by omega
  have kb : (1024 - J).natAbs ≤ 1024 := by omega
  have k1 := own_nb kJ kG
  have k2 := own_nb kb kL
  have kk : ((1024 : Int) : Rat) = 1024 := rfl
  have one1 : (1 : Rat) / 1 = 1 := by rw [Rat.div_def, own_inv1, Rat.mul_one]
  have zz : (1 : Rat) - 1 / 1 = ((0 : Int) : Rat) := by rw [one1, Rat.sub_self]; rfl
  obtain ⟨res, hres⟩ := own_mv hx hl hg own_one (by decide)
    (own_rep_fix (J * G) 10 (by decide) (by rw [p10, Rat.intCast_mul]; grind) (by omega))
    (own_rep_fix (1024 - J) 10 (by decide) (by rw [p10, Rat.intCast_sub, kk]; grind) (by omega))
    (own_rep_fix (1024 - J) 10 (by decide) (by rw [p10, Rat.intCast_sub, kk]; grind) (by omega))
    (own_rep_fix ((1024 - J) * L) 10 (by decide) (by rw [p10, Rat.intCast_mul, Rat.intCast_sub, kk]; grind) (by omega))
    (own_rep_fix (J * G + (1024 - J) * L) 10 (by decide) (by rw [p10, Rat.intCast_add, Rat.intCast_mul, Rat.intCast_mul, Rat.intCast_sub, kk]; grind) (by omega))
    (by rw [one1]; exact own_rep_int (i := 1) (by decide))
    (by rw [zz]; exact own_rep_int (by decide))
    (by rw [zz, show ((0 : Int) : Rat) = 0 from rfl, Rat.mul_zero]; exact own_rep_int (i := 0) (by decide))
    (by rw [zz, show ((0 : Int) : Rat) = 0 from rfl, Rat.mul_zero, show (1 : Rat) - 0 = ((1 : Int) : Rat) by grind]; exact own_rep_int (i := 1) (by decide))
    (own_rep_fix (J * G + (1024 - J) * L) 10 (by decide) (by rw [p10, zz, show ((0 : Int) : Rat) = 0 from rfl, Rat.mul_zero, Rat.intCast_add, Rat.intCast_mul, Rat.intCast_mul, Rat.intCast_sub, kk]; grind) (by omega))
  refine ⟨res, ?_⟩
  have ev : ((J : Rat) / 1024 * (G : Rat) + 1 * (1 - (J : Rat) / 1024) * (L : Rat)) * (1 - (1 - (J : Rat) / 1024) * (1 - 1 / 1)) = ((J * G + (1024 - J) * L : Int) : Rat) / 1024 := by
    rw [zz, show ((0 : Int) : Rat) = 0 from rfl, Rat.mul_zero, Rat.intCast_add, Rat.intCast_mul, Rat.intCast_mul, Rat.intCast_sub, kk]; grind
  rw [ev] at hres
  exact hres
theorem own_4 : own_is 4616189618054758400 4 := ⟨false, 2 ^ 52, -50, by decide +kernel, by decide +kernel⟩
theorem own_8 : own_is 4620693217682128896 8 := ⟨false, 2 ^ 52, -49, by decide +kernel, by decide +kernel⟩
theorem own_1024 : own_is 4652218415073722368 1024 := ⟨false, 2 ^ 52, -42, by decide +kernel, by decide +kernel⟩
theorem own_rem {z y : Int32} {d : Int} (hz : 0 ≤ z.toInt) (hy : y.toInt = d) (hd : 0 < d) : 0 ≤ (z - (z / y) * y).toInt ∧ (z - (z / y) * y).toInt < d := by
  rw [rem_toInt, hy, (tr z.toInt d).1 hz]
  exact ⟨Int.emod_nonneg _ (by omega), Int.emod_lt_of_pos _ hd⟩
theorem own_pow (v : Int32) (h0 : 0 ≤ v.toInt) (h6 : v.toInt < 7) : ∃ E F : Int, ∃ E' F' : Int64, 1 ≤ E ∧ E ≤ 64 ∧ 1 ≤ F ∧ F ≤ 64 ∧ E * F = 64 ∧ ((1 : Int32) <<< (v &&& 31)).toInt = E ∧ E'.toInt = E ∧ F'.toInt = F ∧ (∀ z : Int64, z <<< (v &&& 0x3f).toInt64 = z * E') ∧ (∀ z : Int64, z <<< (((6 : Int32) - v) &&& 0x3f).toInt64 = z * F') := by
  have hv : v = 0 ∨ v = 1 ∨ v = 2 ∨ v = 3 ∨ v = 4 ∨ v = 5 ∨ v = 6 := by
    have : v.toInt = 0 ∨ v.toInt = 1 ∨ v.toInt = 2 ∨ v.toInt = 3 ∨ v.toInt = 4 ∨ v.toInt = 5 ∨ v.toInt = 6 := by omega
    rcases this with h | h | h | h | h | h | h
    · exact Or.inl (Int32.toInt_inj.mp h)
    · exact Or.inr (Or.inl (Int32.toInt_inj.mp h))
    · exact Or.inr (Or.inr (Or.inl (Int32.toInt_inj.mp h)))
    · exact Or.inr (Or.inr (Or.inr (Or.inl (Int32.toInt_inj.mp h))))
    · exact Or.inr (Or.inr (Or.inr (Or.inr (Or.inl (Int32.toInt_inj.mp h)))))
    · exact Or.inr (Or.inr (Or.inr (Or.inr (Or.inr (Or.inl (Int32.toInt_inj.mp h))))))
    · exact Or.inr (Or.inr (Or.inr (Or.inr (Or.inr (Or.inr (Int32.toInt_inj.mp h))))))
  rcases hv with rfl | rfl | rfl | rfl | rfl | rfl | rfl
  · exact ⟨1, 64, 1, 64, by decide, by decide, by decide, by decide, by decide, by decide, by decide, by decide, fun z => shlmL (by decide), fun z => shlmL (by decide)⟩
  · exact ⟨2, 32, 2, 32, by decide, by decide, by decide, by decide, by decide, by decide, by decide, by decide, fun z => shlmL (by decide), fun z => shlmL (by decide)⟩
  · exact ⟨4, 16, 4, 16, by decide, by decide, by decide, by decide, by decide, by decide, by decide, by decide, fun z => shlmL (by decide), fun z => shlmL (by decide)⟩
  · exact ⟨8, 8, 8, 8, by decide, by decide, by decide, by decide, by decide, by decide, by decide, by decide, fun z => shlmL (by decide), fun z => shlmL (by decide)⟩
  · exact ⟨16, 4, 16, 4, by decide, by decide, by decide, by decide, by decide, by decide, by decide, by decide, fun z => shlmL (by decide), fun z => shlmL (by decide)⟩
  · exact ⟨32, 2, 32, 2, by decide, by decide, by decide, by decide, by decide, by decide, by decide, by decide, fun z => shlmL (by decide), fun z => shlmL (by decide)⟩
  · exact ⟨64, 1, 64, 1, by decide, by decide, by decide, by decide, by decide, by decide, by decide, by decide, fun z => shlmL (by decide), fun z => shlmL (by decide)⟩
theorem own_lm {x y : Int64} {a b : Int} {X Y : Nat} (hx : x.toInt = a) (hy : y.toInt = b) (ka : a.natAbs ≤ X) (kb : b.natAbs ≤ Y) (h : X * Y < 9223372036854775808) : (x * y).toInt = a * b := by
  have h1 := c_lmul x y
  have h2 := rng64 (x * y)
  have h3 := own_nb ka kb
  rw [hx, hy] at h1
  generalize a * b = w at *
  generalize X * Y = W at *
  omega
set_option maxRecDepth 65536 in
set_option maxHeartbeats 40000000 in
theorem own_law (l : Launch) (Z : State) (a0 : Array Value) (hw : ∀ d ∈ tables_1, d.before a0 Z = true) (ws : List Jvm.Cond) (xa : Int32) (xe : Int32) (xl : Int32) (xg : Int32) (xx : Int32) (h0 : Heap) (n0 : Nat) (Z0 : n0 ≤ h0.size) :
    MetFree l x (head1 (Jvm.Cond.code x code maxLocals ret :: ws) room_1) (fun a U => a = #[(.int xa), (.int xe), (.int xl), (.int xg), (.int xx)] ∧ Z.Warmed39 U.vm ∧ U.heap = h0) (fun _ _ _ _ _ => True) (fun _ U o U' => ∃ v L, o = .returned v ∧ (v = some (.int 1) ∧ Fr n0 L) ∧ FrameEnd U o U' L room_1.cells room_1.slots) := by
  refine MetFree.of_bodySF (plainFor_of_name own_pn0) hisR ?_
  intro p e s m args below meth c s₁ Bd hml0 hP hK
  obtain ⟨rfl, hZ, hh⟩ := hP
  have hx := Bd.exec
  have hby := Bd.bytes
  have hml : c.maxLocals = 35 := hml0
  have hown : s.vm.findClass "com/example/beanflow/beanflow/SlipMomentumVolumePinLaw" = some m.cls := findClass_of_methodNamed Bd.named
  have hnm := (name_of_methodNamed Bd.named Bd.method).1
  have X0 : Stand p l e room_1 s m #[(.int xa), (.int xe), (.int xl), (.int xg), (.int xx)] below meth c s₁ [] 0 0 := Stand.of_body Bd
  have e0 : s₁.heap = h0 := by rw [← hh, Bd.state]; rfl
  have N0 := Fr.nil n0
  have pre0 : ∀ t, Steps p.tables e below (s₁.setTop (mkF m 0 (List.toArray ((.val (.int xa)) :: (.val (.int xe)) :: (.val (.int xl)) :: (.val (.int xg)) :: (.val (.int xx)) :: .unset :: .unset :: .unset :: .unset :: .unset :: .unset :: .unset :: .unset :: .unset :: .unset :: .unset :: .unset :: .unset :: .unset :: .unset :: .unset :: .unset :: .unset :: .unset :: .unset :: .unset :: .unset :: .unset :: .unset :: .unset :: .unset :: .unset :: .unset :: .unset :: .unset :: [])) [])) t → Steps p.tables e below (s₁.setTop (entryFrame m #[(.int xa), (.int xe), (.int xl), (.int xg), (.int xx)] maxLocals)) t := fun t k => castTop (own_ef0 m xa xe xl xg xx) k
  obtain ⟨v3, hv3⟩ : ∃ z : Int32, (xa &&& (2147483647 : Int32)) = z := ⟨_, rfl⟩
  obtain ⟨v5, hv5⟩ : ∃ z : Int32, (v3 - (v3 / (5 : Int32)) * (5 : Int32)) = z := ⟨_, rfl⟩
  obtain ⟨v11, hv11⟩ : ∃ z : Int32, (xe &&& (2147483647 : Int32)) = z := ⟨_, rfl⟩
  obtain ⟨v14, hv14⟩ : ∃ z : Int32, (v11 - (v11 / (7 : Int32)) * (7 : Int32)) = z := ⟨_, rfl⟩
  obtain ⟨v21, hv21⟩ : ∃ z : Int32, (xl &&& (255 : Int32)) = z := ⟨_, rfl⟩
  obtain ⟨v23, hv23⟩ : ∃ z : Int32, (v21 + (1 : Int32)) = z := ⟨_, rfl⟩
  obtain ⟨v24, hv24⟩ : ∃ z : Int64, v23.toInt64 = z := ⟨_, rfl⟩
  obtain ⟨v31, hv31⟩ : ∃ z : Int32, (xg &&& (255 : Int32)) = z := ⟨_, rfl⟩
  obtain ⟨v33, hv33⟩ : ∃ z : Int32, (v31 + (1 : Int32)) = z := ⟨_, rfl⟩
  obtain ⟨v34, hv34⟩ : ∃ z : Int64, v33.toInt64 = z := ⟨_, rfl⟩
  obtain ⟨v39, hv39⟩ : ∃ z : UInt64, (FP.i2d v5) = z := ⟨_, rfl⟩
  obtain ⟨v43, hv43⟩ : ∃ z : UInt64, (FP.ddiv v39 (4616189618054758400 : UInt64)) = z := ⟨_, rfl⟩
  obtain ⟨v49, hv49⟩ : ∃ z : Int32, ((1 : Int32) <<< (v14 &&& 31)) = z := ⟨_, rfl⟩
  obtain ⟨v50, hv50⟩ : ∃ z : UInt64, (FP.i2d v49) = z := ⟨_, rfl⟩
  obtain ⟨v54, hv54⟩ : ∃ z : UInt64, (FP.ddiv v50 (4620693217682128896 : UInt64)) = z := ⟨_, rfl⟩
  obtain ⟨v61, hv61⟩ : ∃ z : UInt64, (FP.l2d v24) = z := ⟨_, rfl⟩
  obtain ⟨v64, hv64⟩ : ∃ z : UInt64, (FP.l2d v34) = z := ⟨_, rfl⟩
  have ha : 0 ≤ v5.toInt ∧ v5.toInt < 5 := by
    have q := c_mask xa 2147483647 31 (by decide) (by decide)
    rw [hv3] at q
    rw [← hv5]; exact own_rem (by omega) (by decide) (by decide)
  have he : 0 ≤ v14.toInt ∧ v14.toInt < 7 := by
    have q := c_mask xe 2147483647 31 (by decide) (by decide)
    rw [hv11] at q
    rw [← hv14]; exact own_rem (by omega) (by decide) (by decide)
  have hL : 1 ≤ v24.toInt ∧ v24.toInt ≤ 256 := by
    have q := c_mask xl 255 8 (by decide) (by decide)
    have q2 := c_iadd v21 1
    have q3 := rng32 v23
    rw [hv21] at q; rw [hv23, show (1 : Int32).toInt = 1 by decide] at q2
    rw [← hv24, c_i2l]; omega
  have hG : 1 ≤ v34.toInt ∧ v34.toInt ≤ 256 := by
    have q := c_mask xg 255 8 (by decide) (by decide)
    have q2 := c_iadd v31 1
    have q3 := rng32 v33
    rw [hv31] at q; rw [hv33, show (1 : Int32).toInt = 1 by decide] at q2
    rw [← hv34, c_i2l]; omega
  obtain ⟨E, F, E', F', E0, E1, F0, F1, hEF, hE, hE', hF', sE, sF⟩ := own_pow v14 he.1 he.2
  have i39 : own_is v39 ((v5.toInt : Int) : Rat) := by rw [← hv39]; exact own_isI v5
  have i43 : own_is v43 (((v5.toInt : Int) : Rat) / 4) := by
    rw [← hv43]
    exact own_rd_rep (own_div i39 own_4 (by decide)) (own_rep_fix v5.toInt 2 (by decide) (by rw [show ((2 ^ 2 : Nat) : Rat) = 4 from rfl]; grind) (by omega))
  have i50 : own_is v50 ((E : Int) : Rat) := by rw [← hv50, ← hE, hv49]; exact own_isI v49
  have i54 : own_is v54 ((E : Rat) / 8) := by
    rw [← hv54]
    exact own_rd_rep (own_div i50 own_8 (by decide)) (own_rep_fix E 3 (by decide) (by rw [show ((2 ^ 3 : Nat) : Rat) = 8 from rfl]; grind) (by omega))
  have i61 : own_is v61 ((v24.toInt : Int) : Rat) := by rw [← hv61]; exact own_rd_small (own_rdL _) (by omega)
  have i64 : own_is v64 ((v34.toInt : Int) : Rat) := by rw [← hv64]; exact own_rd_small (own_rdL _) (by omega)
  have nn43 : NoNaN64 (FP.ddiv v39 (4616189618054758400 : UInt64)) := by rw [hv43]; exact own_is_no i43
  have nn54 : NoNaN64 (FP.ddiv v50 (4620693217682128896 : UInt64)) := by rw [hv54]; exact own_is_no i54
  obtain ⟨got, hgot⟩ := own_gridmv ha.1 (by omega) hL.1 hL.2 hG.1 hG.2 E0 E1 F0 F1 hEF i43 i61 i64 i54
  have igot := hgot
  obtain ⟨-, -, -, -, -, -, -, -, -, -, -, -, -, -, -, -, -, -, -, -, -, -, -, -, -, -, -, -, igot⟩ := igot
  obtain ⟨T1, X1, e1, st1⟩ := own_callP X0 hx hZ hown (hw _ (List.mem_of_getElem? (i := 3) rfl)) (hw _ (List.mem_of_getElem? (i := 4) rfl)) (hw _ (List.mem_of_getElem? (i := 5) rfl)) (hw _ (List.mem_of_getElem? (i := 6) rfl)) (by decide) e0 (argsL := [.double v43, .double v61, .double v64, .double v54]) (rest := []) (W := 0) (own_met l Z a0 hw h0 hgot) (by decide) (by decide) (by decide) (by decide) (g := (mkF m 67 (List.toArray ((.val (.int xa)) :: (.val (.int xe)) :: (.val (.int xl)) :: (.val (.int xg)) :: (.val (.int xx)) :: (.val (.int v5)) :: (.val (.int v14)) :: (.val (.long v24)) :: .second :: (.val (.long v34)) :: .second :: (.val (.double v43)) :: .second :: (.val (.double v54)) :: .second :: .unset :: .unset :: .unset :: .unset :: .unset :: .unset :: .unset :: .unset :: .unset :: .unset :: .unset :: .unset :: .unset :: .unset :: .unset :: .unset :: .unset :: .unset :: .unset :: .unset :: [])) [(.double v54), (.double v64), (.double v61), (.double v43)])) rfl (by rw [hml]; rfl) (lenOf own_pd1 rfl) rfl (by show 2 * 0 + _ ≤ _; exact Nat.le_of_eq rfl) (hb hby at_67)
  obtain ⟨v77, hv77⟩ : ∃ z : Int64, v5.toInt64 = z := ⟨_, rfl⟩
  obtain ⟨v78, hv78⟩ : ∃ z : Int64, ((8 : Int64) * v77) = z := ⟨_, rfl⟩
  obtain ⟨v81, hv81⟩ : ∃ z : Int64, (v78 * v34) = z := ⟨_, rfl⟩
  obtain ⟨v85, hv85⟩ : ∃ z : Int32, ((4 : Int32) - v5) = z := ⟨_, rfl⟩
  obtain ⟨v86, hv86⟩ : ∃ z : Int64, v85.toInt64 = z := ⟨_, rfl⟩
  obtain ⟨v89, hv89⟩ : ∃ z : Int64, (v86 * v24) = z := ⟨_, rfl⟩
  obtain ⟨v92, hv92⟩ : ∃ z : Int64, (v89 <<< (v14 &&& 0x3f).toInt64) = z := ⟨_, rfl⟩
  obtain ⟨v93, hv93⟩ : ∃ z : Int64, (v81 + v92) = z := ⟨_, rfl⟩
  obtain ⟨v101, hv101⟩ : ∃ z : Int64, v5.toInt64 = z := ⟨_, rfl⟩
  obtain ⟨v102, hv102⟩ : ∃ z : Int64, ((8 : Int64) * v101) = z := ⟨_, rfl⟩
  obtain ⟨v106, hv106⟩ : ∃ z : Int32, ((4 : Int32) - v5) = z := ⟨_, rfl⟩
  obtain ⟨v107, hv107⟩ : ∃ z : Int64, v106.toInt64 = z := ⟨_, rfl⟩
  obtain ⟨v112, hv112⟩ : ∃ z : Int32, ((6 : Int32) - v14) = z := ⟨_, rfl⟩
  obtain ⟨v113, hv113⟩ : ∃ z : Int64, (v107 <<< (v112 &&& 0x3f).toInt64) = z := ⟨_, rfl⟩
  obtain ⟨v114, hv114⟩ : ∃ z : Int64, (v102 + v113) = z := ⟨_, rfl⟩
  obtain ⟨v121, hv121⟩ : ∃ z : Int64, (v93 * v114) = z := ⟨_, rfl⟩
  obtain ⟨v122, hv122⟩ : ∃ z : UInt64, (FP.l2d v121) = z := ⟨_, rfl⟩
  obtain ⟨v126, hv126⟩ : ∃ z : UInt64, (FP.ddiv v122 (4652218415073722368 : UInt64)) = z := ⟨_, rfl⟩
  obtain ⟨v133, hv133⟩ : ∃ z : Int32, (cmpValue (FP.dcmp got v126) .l) = z := ⟨_, rfl⟩
  obtain ⟨j144_23, hj144_23⟩ : ∃ z : Int32, (bif ifCond.holds .ne v133 then (0 : Int32) else (1 : Int32)) = z := ⟨_, rfl⟩
  obtain ⟨v149, hv149⟩ : ∃ z : Int32, (xx &&& (1023 : Int32)) = z := ⟨_, rfl⟩
  obtain ⟨v150, hv150⟩ : ∃ z : UInt64, (FP.i2d v149) = z := ⟨_, rfl⟩
  obtain ⟨v154, hv154⟩ : ∃ z : UInt64, (FP.ddiv v150 (4652218415073722368 : UInt64)) = z := ⟨_, rfl⟩
  obtain ⟨v158, hv158⟩ : ∃ z : Int64, xl.toInt64 = z := ⟨_, rfl⟩
  obtain ⟨v162, hv162⟩ : ∃ z : Int64, (v158 &&& (2147483647 : Int64)) = z := ⟨_, rfl⟩
  obtain ⟨v164, hv164⟩ : ∃ z : Int64, (v162 + (1 : Int64)) = z := ⟨_, rfl⟩
  obtain ⟨v165, hv165⟩ : ∃ z : UInt64, (FP.l2d v164) = z := ⟨_, rfl⟩
  obtain ⟨v169, hv169⟩ : ∃ z : Int64, xg.toInt64 = z := ⟨_, rfl⟩
  obtain ⟨v173, hv173⟩ : ∃ z : Int64, (v169 &&& (2147483647 : Int64)) = z := ⟨_, rfl⟩
  obtain ⟨v175, hv175⟩ : ∃ z : Int64, (v173 + (1 : Int64)) = z := ⟨_, rfl⟩
  obtain ⟨v176, hv176⟩ : ∃ z : UInt64, (FP.l2d v175) = z := ⟨_, rfl⟩
  have e77 : v77.toInt = v5.toInt := by rw [← hv77]; exact c_i2l v5
  have e78 : v78.toInt = 8 * v5.toInt := by rw [← hv78]; exact own_lm (X := 8) (Y := 4) (by decide) e77 (by omega) (by omega) (by decide)
  have e81 : v81.toInt = 8 * v5.toInt * v34.toInt := by rw [← hv81]; exact own_lm (X := 32) (Y := 256) e78 rfl (by omega) (by omega) (by decide)
  have e85 : v85.toInt = 4 - v5.toInt := by
    have q := c_isub 4 v5
    have q2 := rng32 v85
    rw [hv85, show (4 : Int32).toInt = 4 by decide] at q; omega
  have e86 : v86.toInt = 4 - v5.toInt := by rw [← hv86, c_i2l]; exact e85
  have e89 : v89.toInt = (4 - v5.toInt) * v24.toInt := by rw [← hv89]; exact own_lm (X := 4) (Y := 256) e86 rfl (by omega) (by omega) (by decide)
  have n89 := own_nb (x := 4 - v5.toInt) (y := v24.toInt) (X := 4) (Y := 256) (by omega) (by omega)
  have e92 : v92.toInt = (4 - v5.toInt) * v24.toInt * E := by rw [← hv92, sE]; exact own_lm (X := 1024) (Y := 64) e89 hE' (by omega) (by omega) (by decide)
  have n81 := own_nb (x := 8 * v5.toInt) (y := v34.toInt) (X := 32) (Y := 256) (by omega) (by omega)
  have n92 := own_nb (x := (4 - v5.toInt) * v24.toInt) (y := E) (X := 1024) (Y := 64) (by omega) (by omega)
  have e93 : v93.toInt = 8 * v5.toInt * v34.toInt + (4 - v5.toInt) * v24.toInt * E := by
    have q := c_ladd v81 v92
    have q2 := rng64 v93
    rw [hv93, e81, e92] at q
    omega
  have e102 : v102.toInt = 8 * v5.toInt := by rw [← hv102]; exact own_lm (X := 8) (Y := 4) (by decide) (by rw [← hv101]; exact c_i2l v5) (by omega) (by omega) (by decide)
  have e106 : v106.toInt = 4 - v5.toInt := by
    have q := c_isub 4 v5
    have q2 := rng32 v106
    rw [hv106, show (4 : Int32).toInt = 4 by decide] at q; omega
  have e107 : v107.toInt = 4 - v5.toInt := by rw [← hv107, c_i2l]; exact e106
  have e113 : v113.toInt = (4 - v5.toInt) * F := by rw [← hv113, ← hv112, sF]; exact own_lm (X := 4) (Y := 64) e107 hF' (by omega) (by omega) (by decide)
  have n113 := own_nb (x := 4 - v5.toInt) (y := F) (X := 4) (Y := 64) (by omega) (by omega)
  have e114 : v114.toInt = 8 * v5.toInt + (4 - v5.toInt) * F := by
    have q := c_ladd v102 v113
    have q2 := rng64 v114
    rw [hv114, e102, e113] at q
    omega
  have e121 : v121.toInt = (8 * v5.toInt * v34.toInt + (4 - v5.toInt) * v24.toInt * E) * (8 * v5.toInt + (4 - v5.toInt) * F) := by rw [← hv121]; exact own_lm (X := 100000) (Y := 300) e93 e114 (by omega) (by omega) (by decide)
  have n121 := own_nb (x := 8 * v5.toInt * v34.toInt + (4 - v5.toInt) * v24.toInt * E) (y := 8 * v5.toInt + (4 - v5.toInt) * F) (X := 100000) (Y := 300) (by omega) (by omega)
  have i122 : own_is v122 ((v121.toInt : Int) : Rat) := by rw [← hv122]; exact own_rd_small (own_rdL _) (by rw [e121]; omega)
  have i126 : own_is v126 (((v121.toInt : Int) : Rat) / 1024) := by
    rw [← hv126]
    exact own_rd_rep (own_div i122 own_1024 (by decide)) (own_rep_fix v121.toInt 10 (by decide) (by rw [show ((2 ^ 10 : Nat) : Rat) = 1024 from rfl]; grind) (by rw [e121]; omega))
  have nn126 : NoNaN64 (FP.ddiv v122 (4652218415073722368 : UInt64)) := by rw [hv126]; exact own_is_no i126
  have one1 : j144_23 = 1 := by
    rw [e121] at i126
    rw [← hj144_23, ← hv133, own_c_ne igot i126]
    simp
  have hJ : 0 ≤ v149.toInt ∧ v149.toInt ≤ 1023 := by
    have q := c_mask xx 1023 10 (by decide) (by decide)
    rw [hv149] at q; omega
  have i154 : own_is v154 (((v149.toInt : Int) : Rat) / 1024) := by
    rw [← hv154, ← hv150]
    exact own_rd_rep (own_div (own_isI v149) own_1024 (by decide)) (own_rep_fix v149.toInt 10 (by decide) (by rw [show ((2 ^ 10 : Nat) : Rat) = 1024 from rfl]; grind) (by omega))
  have nn154 : NoNaN64 (FP.ddiv v150 (4652218415073722368 : UInt64)) := by rw [hv154]; exact own_is_no i154
  have hL2 : 1 ≤ v164.toInt ∧ v164.toInt ≤ 2147483648 := by
    have q := c_maskL v158 2147483647 31 (by decide) (by decide)
    have q2 := c_ladd v162 1
    have q3 := rng64 v164
    rw [hv162] at q; rw [hv164, show (1 : Int64).toInt = 1 by decide] at q2
    omega
  have hG2 : 1 ≤ v175.toInt ∧ v175.toInt ≤ 2147483648 := by
    have q := c_maskL v169 2147483647 31 (by decide) (by decide)
    have q2 := c_ladd v173 1
    have q3 := rng64 v175
    rw [hv173] at q; rw [hv175, show (1 : Int64).toInt = 1 by decide] at q2
    omega
  have i165 : own_is v165 ((v164.toInt : Int) : Rat) := by rw [← hv165]; exact own_rd_small (own_rdL _) (by omega)
  have i176 : own_is v176 ((v175.toInt : Int) : Rat) := by rw [← hv176]; exact own_rd_small (own_rdL _) (by omega)
  obtain ⟨got2, hgot2⟩ := own_slipmv hJ.1 hJ.2 hL2.1 hL2.2 hG2.1 hG2.2 i154 i165 i176
  have igot2 := hgot2
  obtain ⟨-, -, -, -, -, -, -, -, -, -, -, -, -, -, -, -, -, -, -, -, -, -, -, -, -, -, -, -, igot2⟩ := igot2
  obtain ⟨T2, X2, e2, st2⟩ := own_callP X1 hx hZ hown (hw _ (List.mem_of_getElem? (i := 3) rfl)) (hw _ (List.mem_of_getElem? (i := 4) rfl)) (hw _ (List.mem_of_getElem? (i := 5) rfl)) (hw _ (List.mem_of_getElem? (i := 6) rfl)) (by decide) e1 (argsL := [.double v154, .double v165, .double v176, .double (4607182418800017408 : UInt64)]) (rest := []) (W := 0) (own_met l Z a0 hw h0 hgot2) (by decide) (by decide) (by decide) (by decide) (g := (mkF m 186 (List.toArray ((.val (.int xa)) :: (.val (.int xe)) :: (.val (.int xl)) :: (.val (.int xg)) :: (.val (.int xx)) :: (.val (.int v5)) :: (.val (.int v14)) :: (.val (.long v24)) :: .second :: (.val (.long v34)) :: .second :: (.val (.double v43)) :: .second :: (.val (.double v54)) :: .second :: (.val (.double got)) :: .second :: (.val (.long v93)) :: .second :: (.val (.long v114)) :: .second :: (.val (.double v126)) :: .second :: (.val (.int j144_23)) :: (.val (.double v154)) :: .second :: (.val (.double v165)) :: .second :: (.val (.double v176)) :: .second :: .unset :: .unset :: .unset :: .unset :: .unset :: [])) [(.double (4607182418800017408 : UInt64)), (.double v176), (.double v165), (.double v154)])) rfl (by rw [hml]; rfl) (lenOf own_pd1 rfl) rfl (by show 2 * 0 + _ ≤ _; exact Nat.le_of_eq rfl) (hb hby at_186)
  obtain ⟨v195, hv195⟩ : ∃ z : UInt64, (FP.dmul v154 v176) = z := ⟨_, rfl⟩
  obtain ⟨v199, hv199⟩ : ∃ z : UInt64, (FP.dsub (4607182418800017408 : UInt64) v154) = z := ⟨_, rfl⟩
  obtain ⟨v202, hv202⟩ : ∃ z : UInt64, (FP.dmul v199 v165) = z := ⟨_, rfl⟩
  obtain ⟨v203, hv203⟩ : ∃ z : UInt64, (FP.dadd v195 v202) = z := ⟨_, rfl⟩
  obtain ⟨v210, hv210⟩ : ∃ z : Int32, (cmpValue (FP.dcmp got2 v203) .l) = z := ⟨_, rfl⟩
  obtain ⟨j221_34, hj221_34⟩ : ∃ z : Int32, (bif ifCond.holds .ne v210 then (0 : Int32) else (1 : Int32)) = z := ⟨_, rfl⟩
  obtain ⟨t236_0, ht236_0⟩ : ∃ z : Int32, (bif ifCond.holds .eq j144_23 then (0 : Int32) else (bif ifCond.holds .eq j221_34 then (0 : Int32) else (1 : Int32))) = z := ⟨_, rfl⟩
  have kJ : v149.toInt.natAbs ≤ 1024 := by omega
  have kb : (1024 - v149.toInt).natAbs ≤ 1024 := by omega
  have k1 := own_nb (x := v149.toInt) (y := v175.toInt) (X := 1024) (Y := 2147483648) kJ (by omega)
  have k2 := own_nb (x := 1024 - v149.toInt) (y := v164.toInt) (X := 1024) (Y := 2147483648) kb (by omega)
  have p10 : ((2 ^ 10 : Nat) : Rat) = 1024 := rfl
  have kk : ((1024 : Int) : Rat) = 1024 := rfl
  have i195 := own_rd_rep (own_mul i154 i176) (own_rep_fix (v149.toInt * v175.toInt) 10 (by decide) (by rw [p10, Rat.intCast_mul]; grind) (by omega))
  have i199 := own_rd_rep (own_sub own_one i154) (own_rep_fix (1024 - v149.toInt) 10 (by decide) (by rw [p10, Rat.intCast_sub, kk]; grind) (by omega))
  rw [hv195] at i195
  rw [hv199] at i199
  have i202 := own_rd_rep (own_mul i199 i165) (own_rep_fix ((1024 - v149.toInt) * v164.toInt) 10 (by decide) (by rw [p10, Rat.intCast_mul, Rat.intCast_sub, kk]; grind) (by omega))
  rw [hv202] at i202
  have i203 := own_rd_rep (own_add i195 i202) (own_rep_fix (v149.toInt * v175.toInt + (1024 - v149.toInt) * v164.toInt) 10 (by decide) (by rw [p10, Rat.intCast_add, Rat.intCast_mul, Rat.intCast_mul, Rat.intCast_sub, kk]; grind) (by omega))
  rw [hv203] at i203
  have nn195 : NoNaN64 (FP.dmul v154 v176) := by rw [hv195]; exact own_is_no i195
  have nn199 : NoNaN64 (FP.dsub (4607182418800017408 : UInt64) v154) := by rw [hv199]; exact own_is_no i199
  have nn202 : NoNaN64 (FP.dmul v199 v165) := by rw [hv202]; exact own_is_no i202
  have nn203 : NoNaN64 (FP.dadd v195 v202) := by rw [hv203]; exact own_is_no i203
  have one2 : j221_34 = 1 := by
    have ev : ((v149.toInt : Int) : Rat) / 1024 * ((v175.toInt : Int) : Rat) + (1 - ((v149.toInt : Int) : Rat) / 1024) * ((v164.toInt : Int) : Rat) = ((v149.toInt * v175.toInt + (1024 - v149.toInt) * v164.toInt : Int) : Rat) / 1024 := by
      rw [Rat.intCast_add, Rat.intCast_mul, Rat.intCast_mul, Rat.intCast_sub, kk]; grind
    rw [ev] at i203
    rw [← hj221_34, ← hv210, own_c_ne igot2 i203]
    simp
  have hone : t236_0 = 1 := by
    rw [← ht236_0, one1, one2]; decide
  obtain ⟨fs, hr, hrun, hended, hW, hsame⟩ := X2.leave (v := some (.int (1 : Int32))) (fun h => by rw [Bd.returns] at h; cases h)
  refine ⟨_, _, pre0 _ ?_, hrun, hended, _, _, rfl, ⟨rfl, N0⟩, ⟨_, rfl⟩, hW, hsame.mono (by decide) (by decide)⟩
  refine own_s0 xa xe xl xg xx v3 hv3 v5 hv5 v11 hv11 v14 hv14 v21 hv21 v23 hv23 v24 hv24 v31 hv31 v33 hv33 v34 hv34 v39 hv39 v43 hv43 nn43 v49 hv49 v50 hv50 v54 hv54 nn54 v61 hv61 v64 hv64 p.tables e below s₁ _ m c X0.here hx hby (own_pool X0 hx hZ hown hw own_K0_ok) ?_
  refine st1 _ ?_
  refine own_q0 xa xe xl xg xx v5 v14 v24 v34 v43 v54 got v77 hv77 v78 hv78 v81 hv81 v85 hv85 v86 hv86 v89 hv89 v92 hv92 v93 hv93 v101 hv101 v102 hv102 v106 hv106 v107 hv107 v112 hv112 v113 hv113 v114 hv114 v121 hv121 v122 hv122 v126 hv126 nn126 v133 hv133 j144_23 hj144_23 p.tables e below T1 _ m c X1.here hx hby (own_pool X1 hx hZ hown hw own_K0_ok) ?_
  refine own_q1 xa xe xl xg xx v5 v14 v24 v34 v43 v54 got v93 v114 v126 j144_23 v149 hv149 v150 hv150 v154 hv154 nn154 v158 hv158 v162 hv162 v164 hv164 v165 hv165 v169 hv169 v173 hv173 v175 hv175 v176 hv176 p.tables e below T1 _ m c X1.here hx hby (own_pool X1 hx hZ hown hw own_K0_ok) ?_
  refine st2 _ ?_
  refine own_r0 xa xe xl xg xx v5 v14 v24 v34 v43 v54 got v93 v114 v126 j144_23 v154 v165 v176 got2 v195 hv195 nn195 v199 hv199 nn199 v202 hv202 nn202 v203 hv203 nn203 v210 hv210 j221_34 hj221_34 p.tables e below T2 _ m c X2.here hx hby (own_pool X2 hx hZ hown hw own_K0_ok) ?_
  refine own_r1 xa xe xl xg xx v5 v14 v24 v34 v43 v54 got v93 v114 v126 j144_23 v154 v165 v176 got2 v203 j221_34 t236_0 ht236_0 p.tables e below T2 _ m c X2.here hx hby (own_pool X2 hx hZ hown hw own_K0_ok) ?_
  rw [hone]
  exact retN X2 hx (t := .boolean) Bd.returns (by simp) (hb hby at_236) hr
set_option maxRecDepth 65536 in
set_option maxHeartbeats 40000000 in
theorem own_comes {Post : Tables → Env → Array Value → State → Outcome → State → Prop} (hpost : ∀ tb e args s v u, (limb_1_1.after args s (.returned v) u = true ∧ limb_1_2.after args s (.returned v) u = true ∧ True) → FrameEnd s (.returned v) u (Jvm.fieldLocs frame_1_writes args s ++ Jvm.arrayLocs frame_1_arrays args s ++ Jvm.staticLocs frame_1_statics s) 0 0 → Post tb e args s (.returned v) u) :
    ArmFor flags0 classFile x code maxLocals ret World_1 tables_1 room_1 Calls_1 rest_1 Pre_1 Post := by
  intro l hfl _ _ p e ha hc hk s m args below hf hA hF happ hP
  obtain ⟨hcalls, hrest, hpre⟩ := hP
  obtain ⟨-, -, -, hnamed, -, -, -, hat⟩ := (Spec.applies_iff hf).mp happ
  obtain ⟨hg, hn⟩ := and_e (Cond.before_iff.mp (show (Jvm.Cond.and given_1 narrow_1).before args s = true from hpre))
  obtain ⟨h1, g0⟩ := and_e hg
  obtain ⟨w0, w1, w2, w3, w4, rfl⟩ : ∃ w0 w1 w2 w3 w4 : Value, args = #[w0, w1, w2, w3, w4] := by
    have hs : args.size = 5 := by simpa [Cond.value, given_1] using h1
    obtain ⟨L⟩ := args
    match L, hs with
    | [w0, w1, w2, w3, w4], _ => exact ⟨w0, w1, w2, w3, w4, rfl⟩
  have hw := fun d (hd : d ∈ tables_1) => atoms_spec (ws := Jvm.Cond.code x code maxLocals ret :: tables_1) hat d (List.mem_cons_of_mem _ hd)
  have hfit : Fit s := fun {y c} hc i hi => by
    obtain ⟨ha, rfl⟩ := Array.getElem?_eq_some_iff.mp hc
    have q := List.all_eq_true.mp ((Array.all_eq_true_iff_forall_mem.mp hF) _ (Array.getElem_mem ha)) i (List.mem_range.mpr hi)
    simpa [Array.getElem?_eq_getElem hi] using q
  obtain ⟨f0, g1⟩ := and_e g0
  obtain ⟨i0, e0⟩ := is_v f0
  obtain rfl : w0 = (.int i0) := Option.some.inj e0
  obtain ⟨f1, g2⟩ := and_e g1
  obtain ⟨i1, e1⟩ := is_v f1
  obtain rfl : w1 = (.int i1) := Option.some.inj e1
  obtain ⟨f2, g3⟩ := and_e g2
  obtain ⟨i2, e2⟩ := is_v f2
  obtain rfl : w2 = (.int i2) := Option.some.inj e2
  obtain ⟨f3, g4⟩ := and_e g3
  obtain ⟨i3, e3⟩ := is_v f3
  obtain rfl : w3 = (.int i3) := Option.some.inj e3
  obtain ⟨i4, e4⟩ := is_v g4
  obtain rfl : w4 = (.int i4) := Option.some.inj e4
  obtain ⟨n, o, h1, h2, h3, _, L, rfl, ⟨rfl, N⟩, hq⟩ := own_law l s _ hw tables_1 i0 i1 i2 i3 i4 s.heap s.heap.size (Nat.le_refl _) p e ha hc hk s m _ below hf ((Spec.applies_iff_loose hf).mp happ).1 ⟨rfl, State.Warmed39.refl s, rfl⟩ trivial
  refine ⟨n, _, h1, h2, h3, hpost _ _ _ _ _ _ ⟨Cond.after_iff.mpr rfl, Cond.after_iff.mpr (eq_i res_at (Term.int_eval (1)) rfl), trivial⟩ ⟨hq.1, hq.2.1, (hq.2.2.sift fun y hy => Or.inr (N y hy)).mono (by decide) (by decide)⟩⟩
theorem main_1_1 : Claimed_1_1 := own_comes fun _ _ _ _ _ _ h hF => ⟨h.1, hF⟩
theorem main_1_2 : Claimed_1_2 := own_comes fun _ _ _ _ _ _ h hF => ⟨h.2.1, hF⟩
end OwnClaim
end Jvm.Pilot.@@N@@
namespace Jvm.Pilot.@@N@@
open Jvm Jvm.ClassFile Sem Op Lib Jvm.Free Jvm.Stand Jvm.Pilot.@@N@@.Jvm.D
/-! MADE BY PROGRAM (witnessworld.py) out of the Statement's table words and the real class files: 12 classes; the members and pool entries that the words name. The judged class is class 1, her method 1. -/
namespace start1
open Jvm.ClassFile
def u (s : String) : CpInfo := .utf8 (stringToUtf16 s)
/-- a pool by its gaps: so many unusable entries, then the entry; so many at the end -/
def gap : Nat → List CpInfo → List CpInfo
  | 0, r => r
  | n + 1, r => .unusable :: gap n r
def poolList (es : List (Nat × CpInfo)) (last : Nat) : List CpInfo := es.foldr (fun e r => gap e.1 (e.2 :: r)) (gap last [])
def pool (es : List (Nat × CpInfo)) (last : Nat) : Array CpInfo := ⟨poolList es last⟩
def fileOf (pool : Array CpInfo) (this : Nat) (attrs : Array Attribute := #[]) (ms : Array MethodInfo := #[]) (fl : Nat := 33) (sup : Nat := 0) (ifs : Array Nat := #[]) (fds : Array FieldInfo := #[]) : ClassFile where
  minorVersion := 0
  majorVersion := 65
  constantPool := pool
  accessFlags := fl
  thisClass := this
  superClass := sup
  interfaces := ifs
  fields := fds
  methods := ms
  attributes := attrs
def plain (name : String) (sup : Option ClassId) : Class where
  name := name
  kind := .ordinary
  loader := none
  accessFlags := 33
  super := sup
  interfaces := #[]
  cf := none
  fields := #[]
  methods := #[]
  instanceTypes := #[]
  staticTypes := #[]
  resolved := #[]
  callSites := []
  init := .initialized
  statics := none
  mirror := none

def pool0 : Array CpInfo := pool [(5, u "<init>"), (0, u "()V"), (1, .class_ 10), (1, u "java/lang/Object")] 113

def k0m0 : Method := { name := "<init>", desc := "()V", sig := { parameters := [], returnType := none }, accessFlags := 1, code := none }
/-- java/lang/Object -/
def k0 : Class := { plain "java/lang/Object" none with
  accessFlags := 33
  interfaces := #[]
  cf := some (fileOf pool0 8 #[] #[{ accessFlags := 1, nameIndex := 5, descriptorIndex := 6, attributes := #[] }] 33 0 #[] #[])
  fields := #[]
  methods := #[k0m0]
  instanceTypes := #[]
  staticTypes := #[]
  resolved := Array.replicate 124 none
  statics := none }

def pool1 : Array CpInfo := pool [(2, .class_ 4), (1, u "java/lang/Object"), (0, u "<init>"), (0, u "()V"), (0, .integer 2147483647), (0, .double 4616189618054758400), (1, .double 4620693217682128896), (1, .methodref 13 14), (0, .class_ 15), (0, .nameAndType 16 17), (0, u "com/example/beanflow/beanflow/Slip"), (0, u "momentumVolume"), (0, u "(DDDD)D"), (0, .long 8), (1, .double 4652218415073722368), (1, .long 2147483647), (1, .class_ 25), (0, u "com/example/beanflow/beanflow/SlipMomentumVolumePinLaw"), (2, u "law"), (0, u "(IIIII)Z")] 3

def k1m0 : Method := { name := "<init>", desc := "()V", sig := { parameters := [], returnType := none }, accessFlags := 1, code := none }
def k1c1 : Code := { maxStack := 8, maxLocals := 35, code := code, exceptionTable := #[], attributes := #[] }
def k1m1 : Method := { name := "law", desc := "(IIIII)Z", sig := { parameters := [.int, .int, .int, .int, .int], returnType := some .boolean }, accessFlags := 9, code := some k1c1 }
/-- com/example/beanflow/beanflow/SlipMomentumVolumePinLaw -/
def k1 : Class := { plain "com/example/beanflow/beanflow/SlipMomentumVolumePinLaw" (some 0) with
  accessFlags := 49
  interfaces := #[]
  cf := some (fileOf pool1 24 #[] #[{ accessFlags := 1, nameIndex := 5, descriptorIndex := 6, attributes := #[] }, { accessFlags := 9, nameIndex := 28, descriptorIndex := 29, attributes := #[] }] 49 2 #[] #[])
  fields := #[]
  methods := #[k1m0, k1m1]
  instanceTypes := #[]
  staticTypes := #[]
  resolved := Array.replicate 33 none
  statics := none }

def pool2 : Array CpInfo := pool [(1, .class_ 2), (0, u "java/lang/constant/Constable"), (0, .class_ 4), (0, u "java/lang/Object")] 6

/-- java/lang/constant/Constable -/
def k2 : Class := { plain "java/lang/constant/Constable" (some 0) with
  accessFlags := 1537
  interfaces := #[]
  cf := some (fileOf pool2 1 #[] #[] 1537 3 #[] #[])
  fields := #[]
  methods := #[]
  instanceTypes := #[]
  staticTypes := #[]
  resolved := Array.replicate 11 none
  statics := none }

def pool3 : Array CpInfo := pool [(1, .class_ 2), (0, u "java/lang/Comparable"), (0, .class_ 4), (0, u "java/lang/Object")] 7

/-- java/lang/Comparable -/
def k3 : Class := { plain "java/lang/Comparable" (some 0) with
  accessFlags := 1537
  interfaces := #[]
  cf := some (fileOf pool3 1 #[] #[] 1537 3 #[] #[])
  fields := #[]
  methods := #[]
  instanceTypes := #[]
  staticTypes := #[]
  resolved := Array.replicate 12 none
  statics := none }

def pool4 : Array CpInfo := pool [(1, .class_ 2), (0, u "java/io/Serializable"), (0, .class_ 4), (0, u "java/lang/Object")] 2

/-- java/io/Serializable -/
def k4 : Class := { plain "java/io/Serializable" (some 0) with
  accessFlags := 1537
  interfaces := #[]
  cf := some (fileOf pool4 1 #[] #[] 1537 3 #[] #[])
  fields := #[]
  methods := #[]
  instanceTypes := #[]
  staticTypes := #[]
  resolved := Array.replicate 7 none
  statics := none }

def pool5 : Array CpInfo := pool [(2, .class_ 4), (1, u "java/lang/Enum"), (0, u "name"), (0, u "Ljava/lang/String;"), (2, u "ordinal"), (0, u "I"), (1, .class_ 14), (1, u "java/lang/Object"), (4, u "hash"), (86, .class_ 108), (1, u "java/lang/Enum$EnumDesc"), (2, .class_ 112), (0, u "java/lang/constant/Constable"), (0, .class_ 114), (0, u "java/lang/Comparable"), (0, .class_ 116), (0, u "java/io/Serializable")] 87

/-- java/lang/Enum -/
def k5 : Class := { plain "java/lang/Enum" (some 0) with
  accessFlags := 1057
  interfaces := #[2, 3, 4]
  cf := some (fileOf pool5 2 #[.nestMembers #[106]] #[] 1057 12 #[111, 113, 115] #[{ accessFlags := 18, nameIndex := 5, descriptorIndex := 6, attributes := #[] }, { accessFlags := 18, nameIndex := 9, descriptorIndex := 10, attributes := #[] }, { accessFlags := 2, nameIndex := 19, descriptorIndex := 10, attributes := #[] }])
  fields := #[{ name := "name", type := (.object "java/lang/String"), accessFlags := 18, slot := 0, constantValue := 0 }, { name := "ordinal", type := .int, accessFlags := 18, slot := 1, constantValue := 0 }, { name := "hash", type := .int, accessFlags := 2, slot := 2, constantValue := 0 }]
  methods := #[]
  instanceTypes := #[(.object "java/lang/String"), .int, .int]
  staticTypes := #[]
  resolved := Array.replicate 204 none
  statics := none }

def pool6 : Array CpInfo := pool [(1, .class_ 2), (0, u "com/example/beanflow/beanflow/Slip"), (2, u "NONE"), (0, u "Lcom/example/beanflow/beanflow/Slip;"), (2, u "CHISHOLM"), (2, u "LOW_QUALITY"), (2, u "FAUSKE"), (2, u "$VALUES"), (0, u "[Lcom/example/beanflow/beanflow/Slip;"), (6, .class_ 28), (1, u "java/lang/Enum"), (8, u "key"), (0, u "Ljava/lang/String;"), (10, u "momentumVolume"), (0, u "(DDDD)D"), (34, .class_ 86), (0, u "com/example/beanflow/beanflow/Slip$1"), (6, .class_ 94), (0, u "com/example/beanflow/beanflow/Slip$2"), (4, .class_ 100), (0, u "com/example/beanflow/beanflow/Slip$3"), (4, .class_ 106), (0, u "com/example/beanflow/beanflow/Slip$4"), (8, u "LOW_QUALITY_RISE"), (0, u "D"), (1, u "LOW_QUALITY_DECAY")] 26

def k6c0 : Code := { maxStack := 12, maxLocals := 8, code := prog_33_method_10_code, exceptionTable := #[], attributes := #[] }
def k6m0 : Method := { name := "momentumVolume", desc := "(DDDD)D", sig := { parameters := [.double, .double, .double, .double], returnType := some .double }, accessFlags := 8, code := some k6c0 }
/-- com/example/beanflow/beanflow/Slip -/
def k6 : Class := { plain "com/example/beanflow/beanflow/Slip" (some 5) with
  accessFlags := 17441
  interfaces := #[]
  cf := some (fileOf pool6 1 #[.nestMembers #[105, 99, 93, 85]] #[{ accessFlags := 8, nameIndex := 49, descriptorIndex := 50, attributes := #[] }] 17441 26 #[] #[{ accessFlags := 16409, nameIndex := 5, descriptorIndex := 6, attributes := #[] }, { accessFlags := 16409, nameIndex := 9, descriptorIndex := 6, attributes := #[] }, { accessFlags := 16409, nameIndex := 12, descriptorIndex := 6, attributes := #[] }, { accessFlags := 16409, nameIndex := 15, descriptorIndex := 6, attributes := #[] }, { accessFlags := 26, nameIndex := 115, descriptorIndex := 116, attributes := #[] }, { accessFlags := 26, nameIndex := 118, descriptorIndex := 116, attributes := #[] }, { accessFlags := 18, nameIndex := 37, descriptorIndex := 38, attributes := #[] }, { accessFlags := 4122, nameIndex := 18, descriptorIndex := 19, attributes := #[] }])
  fields := #[{ name := "NONE", type := (.object "com/example/beanflow/beanflow/Slip"), accessFlags := 16409, slot := 0, constantValue := 0 }, { name := "CHISHOLM", type := (.object "com/example/beanflow/beanflow/Slip"), accessFlags := 16409, slot := 1, constantValue := 0 }, { name := "LOW_QUALITY", type := (.object "com/example/beanflow/beanflow/Slip"), accessFlags := 16409, slot := 2, constantValue := 0 }, { name := "FAUSKE", type := (.object "com/example/beanflow/beanflow/Slip"), accessFlags := 16409, slot := 3, constantValue := 0 }, { name := "LOW_QUALITY_RISE", type := .double, accessFlags := 26, slot := 4, constantValue := 0 }, { name := "LOW_QUALITY_DECAY", type := .double, accessFlags := 26, slot := 5, constantValue := 0 }, { name := "key", type := (.object "java/lang/String"), accessFlags := 18, slot := 3, constantValue := 0 }, { name := "$VALUES", type := (.array (.object "com/example/beanflow/beanflow/Slip")), accessFlags := 4122, slot := 6, constantValue := 0 }]
  methods := #[k6m0]
  instanceTypes := #[(.object "java/lang/String"), .int, .int, (.object "java/lang/String")]
  staticTypes := #[(.object "com/example/beanflow/beanflow/Slip"), (.object "com/example/beanflow/beanflow/Slip"), (.object "com/example/beanflow/beanflow/Slip"), (.object "com/example/beanflow/beanflow/Slip"), .double, .double, (.array (.object "com/example/beanflow/beanflow/Slip"))]
  resolved := Array.replicate 145 none
  statics := none }

def pool7 : Array CpInfo := pool [(1, u "java/lang/Cloneable"), (0, .class_ 1), (0, u "java/lang/Object"), (0, .class_ 3)] 3

/-- java/lang/Cloneable -/
def k7 : Class := { plain "java/lang/Cloneable" (some 0) with
  accessFlags := 1537
  interfaces := #[]
  cf := some (fileOf pool7 2 #[] #[] 1537 4 #[] #[])
  fields := #[]
  methods := #[]
  instanceTypes := #[]
  staticTypes := #[]
  resolved := Array.replicate 8 none
  statics := none }

/-- the primitive byte -/
def k8 : Class := { plain "byte" none with kind := .primitive 'B', accessFlags := 0x411 }
/-- [B -/
def k9 : Class := { plain "[B" (some 0) with kind := .array 8 .byte, interfaces := #[7, 4], accessFlags := 1041 }

/-- the primitive int -/
def k10 : Class := { plain "int" none with kind := .primitive 'I', accessFlags := 0x411 }
/-- [I -/
def k11 : Class := { plain "[I" (some 0) with kind := .array 10 .int, interfaces := #[7, 4], accessFlags := 1041 }

def heap : Heap := #[]
def classes : Array Class := #[k0, k1, k2, k3, k4, k5, k6, k7, k8, k9, k10, k11]
def interned : List (Array UInt16 × Addr) := []
def slotsUsed : Nat := 0
def theMethod : MethodId := ⟨1, 1⟩
def args0 : Array Value := #[.int 5, .int 7, .int 1, .int 2, .int 3]
def aboutOver (below : List Frame) : State where
  vm := { classes := classes, interned := interned.toArray }
  heap := heap
  slotsUsed := slotsUsed
  threads := #[{ frames := .invoking theMethod args0 :: below }]
def below0 : List Frame := [.native { method := ⟨0, 0⟩, args := #[] }]
def about1 : State := aboutOver below0
def p0 : Program := .bare "" "" ""
def e0 : Env := launch0.env 0 0 0
theorem w_frames : about1.frames = Frame.invoking theMethod args0 :: below0 := rfl
set_option maxRecDepth 65536 in
theorem w_args : argsFit about1.vm theMethod args0 = true := by decide +kernel
set_option maxRecDepth 65536 in
theorem w_heap : heapFits about1 = true := by decide +kernel
set_option maxRecDepth 65536 in
theorem w_runnable : about1.curStatus? = some .runnable := by decide +kernel
set_option maxRecDepth 65536 in
theorem w_alone : about1.alone = true := by decide +kernel
set_option maxRecDepth 65536 in
theorem w_named : about1.methodNamed? x = some theMethod := by decide +kernel
set_option maxRecDepth 65536 in
theorem w_hears : about1.hears theMethod below0 = true := by decide +kernel
set_option maxRecDepth 65536 in
theorem w_ripe : about1.ripe theMethod args0 below0 = true := by decide +kernel
theorem w_running : about1.status = .running := rfl
set_option maxRecDepth 65536 in
theorem w_room : about1.hasRoom e0.platform room_1 = true :=
  launch0.hasRoom_least _ room_1 (by decide +kernel) (by decide +kernel) (by decide +kernel) (by decide +kernel) (by decide +kernel) (by decide +kernel)
theorem allAtoms_all (ts : List Jvm.Cond) (a : Array Jvm.Value) (st : Jvm.State) : (allAtoms ts).before a st = ts.all (fun c => c.before a st) := by
  induction ts with
  | nil => rfl
  | cons c t ih =>
    show (Jvm.Cond.and c (allAtoms t)).before a st = _
    rw [Jvm.Cond.before_and, ih, List.all_cons]
def words1 : List Jvm.Cond := Jvm.Cond.code x code maxLocals ret :: tables_1
/-- a 'code' word, met by the world's own term for the bytes: nothing is compared byte by byte -/
theorem code_word {y : MethodName} {bytes : ByteArray} {mx : Nat} {rt : Option FieldType} {a : Array Value} {s : State} {m : MethodId} {meth : Method} {c : Code} (h1 : s.methodNamed? y = some m) (h2 : s.vm.method? m = some meth) (h3 : meth.code = some c) (h4 : c.code = bytes)
    (h5 : (c.maxLocals == mx && c.exceptionTable.isEmpty && decide (c.maxStack ≤ mostOperands) && decide (meth.sig.returnType = rt) && !meth.locks && decide (parseMethodDescriptor y.desc = some meth.sig)) = true) : (Jvm.Cond.code y bytes mx rt).before a s = true := by
  simp only [Bool.and_eq_true, beq_iff_eq, Bool.not_eq_true', decide_eq_true_eq] at h5
  obtain ⟨⟨⟨⟨⟨g1, g2⟩, g3⟩, g4⟩, g5⟩, g6⟩ := h5
  simp [Cond.before, Cond.holds, Cond.value, h1, h2, h3, h4, g1, g2, g3, g4, g5, g6]
def isCode : Jvm.Cond → Bool
  | .code _ _ _ _ => true
  | _ => false
theorem all_split {L : List Jvm.Cond} {P : Jvm.Cond → Bool} (h1 : L.all (fun c => isCode c || P c) = true) (h2 : ∀ c ∈ L.filter isCode, P c = true) : L.all P = true := by
  refine List.all_eq_true.mpr fun c hc => ?_
  have h := List.all_eq_true.mp h1 c hc
  rcases Bool.eq_false_or_eq_true (isCode c) with hi | hi
  · exact h2 c (List.mem_filter.mpr ⟨hc, hi⟩)
  · simpa [hi] using h
set_option maxRecDepth 65536 in
theorem w_c0 : (Jvm.Cond.code x code maxLocals ret).before args0 about1 = true := code_word (m := ⟨1, 1⟩) (meth := k1m1) (c := k1c1) (by decide +kernel) rfl rfl rfl (by decide +kernel)
set_option maxRecDepth 65536 in
theorem w_c1 : (Jvm.Cond.code ({ cls := "com/example/beanflow/beanflow/Slip", name := "momentumVolume", desc := "(DDDD)D" } : Jvm.MethodName) prog_33_method_10_code (8 : Nat) (Option.some Jvm.ClassFile.FieldType.double)).before args0 about1 = true := code_word (m := ⟨6, 0⟩) (meth := k6m0) (c := k6c0) (by decide +kernel) rfl rfl rfl (by decide +kernel)
def codes1 : List Jvm.Cond := [Jvm.Cond.code x code maxLocals ret, Jvm.Cond.code ({ cls := "com/example/beanflow/beanflow/Slip", name := "momentumVolume", desc := "(DDDD)D" } : Jvm.MethodName) prog_33_method_10_code (8 : Nat) (Option.some Jvm.ClassFile.FieldType.double)]
set_option maxRecDepth 65536 in
theorem codes_eq : words1.filter isCode = codes1 := rfl
theorem w_codes : ∀ c ∈ words1.filter isCode, c.before args0 about1 = true := by
  rw [codes_eq]
  intro c hc
  simp only [codes1, List.mem_cons, List.not_mem_nil, or_false] at hc
  rcases hc with rfl | rfl
  · exact w_c0
  · exact w_c1
set_option maxRecDepth 65536 in
theorem w_t1 : words1.all (fun c => isCode c || c.before args0 about1) = true := by decide +kernel
theorem w_tables : (allAtoms (Jvm.Cond.code x code maxLocals ret :: tables_1)).before args0 about1 = true := by
  rw [allAtoms_all]
  show words1.all (fun c => c.before args0 about1) = true
  refine all_split ?_ w_codes
  rw [w_t1]
set_option maxRecDepth 65536 in
theorem w_case : (Jvm.Cond.and given_1 narrow_1).before args0 about1 = true := by decide +kernel
theorem w_applies : (headSpec (Jvm.Cond.code x code maxLocals ret :: tables_1) room_1).applies x e0.platform about1 = true :=
  (Spec.applies_iff w_frames).mpr ⟨w_running, w_runnable, w_alone, w_named, w_hears, w_ripe, w_room, w_tables⟩
theorem atStart : AtStart classFile x code maxLocals ret World_1 tables_1 room_1 Calls_1 rest_1 Pre_1 launch0 p0 e0 about1 theMethod args0 below0 :=
  ⟨lists_1, trivial, launch0.admits_env _ _ _, launch0.least_env, fairChoices_fair.cas, fairChoices_fair.clock, w_frames, w_args, w_heap, w_applies, trivial, trivial, w_case⟩
end start1
theorem witness_1 : WitnessClaimed_1 := ⟨start1.p0, start1.e0, start1.about1, start1.theMethod, start1.args0, start1.below0, start1.atStart⟩
end Jvm.Pilot.@@N@@
