import JvmDerived
import JvmDerived.Pilot.@@N@@Statement
import JvmDerived.Pilot.@@N@@Code
set_option linter.unusedVariables false
set_option linter.unusedSimpArgs false
namespace Jvm.Pilot.@@N@@
/-! the number layer: own_is (a double is exactly that rational), own_rd (a double is that rational, rounded) -/
section OwnNum
open Jvm.FP.Core Jvm.Free.Fl
theorem own_inv1 : (1 : Rat)⁻¹ = 1 := Rat.inv_eq_of_mul_eq_one (Rat.mul_one 1)
theorem own_p_pos (q : Int) : (0 : Rat) < (2 : Rat) ^ q := Rat.zpow_pos (by decide)
theorem own_p_ne (q : Int) : (2 : Rat) ^ q ≠ 0 := Rat.ne_of_gt (own_p_pos q)
theorem own_p_add (a b : Int) : (2 : Rat) ^ (a + b) = 2 ^ a * 2 ^ b := Rat.zpow_add (by decide) a b
theorem own_p_nat (n : Nat) : ((2 ^ n : Nat) : Rat) = (2 : Rat) ^ (n : Int) := by rw [Rat.natCast_pow]; rfl
theorem own_p_toNat {a : Int} (h : 0 ≤ a) : ((2 ^ a.toNat : Nat) : Rat) = (2 : Rat) ^ a := by rw [own_p_nat, Int.toNat_of_nonneg h]
theorem own_p_neg (a : Int) : (2 : Rat) ^ a * 2 ^ (-a) = 1 := by rw [← own_p_add, Int.add_right_neg]; rfl
def own_is (x : UInt64) (r : Rat) : Prop := ∃ s c q, val64 x = .fin s c q ∧ r = ((signed s c : Int) : Rat) * (2 : Rat) ^ q
def own_rd (x : UInt64) (r : Rat) : Prop := ∃ s A B e, 0 < B ∧ val64 x = roundRatio b64 s A B e ∧ r = ((signed s A : Int) : Rat) / ((B : Nat) : Rat) * (2 : Rat) ^ e
theorem own_signed_cast (s : Bool) (c k : Nat) : ((signed s (c * k) : Int) : Rat) = ((signed s c : Int) : Rat) * ((k : Nat) : Rat) := by
  rw [signed_mul, Rat.intCast_mul]; rfl
theorem own_zmag {s : Bool} {c : Nat} {q : Int} (h : FP.Core.fits b64 (.fin s c q)) : ((zmag b64 (.fin s c q) : Nat) : Rat) = (c : Rat) * 2 ^ q * 2 ^ (1074 : Int) := by
  have h1 : b64.qmin ≤ q := h.2.1
  rw [qmin_b64] at h1
  show ((c * 2 ^ (q - b64.qmin).toNat : Nat) : Rat) = _
  rw [Rat.natCast_mul, own_p_toNat (by rw [qmin_b64]; omega), qmin_b64, show q - (-1074) = q + 1074 by omega, own_p_add, Rat.mul_assoc]
theorem own_zval {x : UInt64} {r : Rat} (h : own_is x r) : ((zval b64 (val64 x) : Int) : Rat) = r * 2 ^ (1074 : Int) := by
  obtain ⟨s, c, q, h1, rfl⟩ := h
  have hf := val64_fits x
  rw [h1] at hf ⊢
  have h2 := own_zmag hf
  show ((signed s (zmag b64 (.fin s c q)) : Int) : Rat) = _
  cases s
  · show ((zmag b64 (.fin false c q) : Nat) : Rat) = ((c : Nat) : Rat) * _ * _
    rw [h2]
  · show ((-(zmag b64 (.fin true c q) : Int) : Int) : Rat) = ((-(c : Int) : Int) : Rat) * _ * _
    rw [Rat.intCast_neg, Rat.intCast_neg, Rat.neg_mul, Rat.neg_mul]
    exact congrArg _ h2
theorem own_is_nn {x : UInt64} {r : Rat} (h : own_is x r) : val64 x ≠ .nan := by
  obtain ⟨s, c, q, h1, -⟩ := h; rw [h1]; exact Datum.noConfusion
theorem own_is_fin {x : UInt64} {r : Rat} (h : own_is x r) : Fin64 x := by
  obtain ⟨s, c, q, h1, -⟩ := h; exact fin64_core.mpr ⟨s, c, q, h1⟩
theorem own_is_no {x : UInt64} {r : Rat} (h : own_is x r) : NoNaN64 x := (own_is_fin h).noNaN
theorem own_lt_of {a b : Rat} (h : a < b) (q : Int) : a * 2 ^ q < b * 2 ^ q := Rat.mul_lt_mul_of_pos_right h (own_p_pos q)
theorem own_is_lt {x y : UInt64} {a b : Rat} (hx : own_is x a) (hy : own_is y b) : FP.dcmp x y = some .lt ↔ a < b := by
  rw [show FP.dcmp x y = FP.Core.dcmp x y from rfl, dcmp_lt]
  constructor
  · rintro ⟨-, -, h⟩
    have h2 := Rat.intCast_lt_intCast.mpr h
    rw [own_zval hx, own_zval hy] at h2
    exact Rat.lt_of_mul_lt_mul_right h2 (Rat.le_of_lt (own_p_pos _))
  · intro h
    refine ⟨own_is_nn hx, own_is_nn hy, Rat.intCast_lt_intCast.mp ?_⟩
    rw [own_zval hx, own_zval hy]
    exact own_lt_of h _
theorem own_is_gt {x y : UInt64} {a b : Rat} (hx : own_is x a) (hy : own_is y b) : FP.dcmp x y = some .gt ↔ b < a := by
  rw [← own_is_lt hy hx, show FP.dcmp x y = FP.Core.dcmp x y from rfl, show FP.dcmp y x = FP.Core.dcmp y x from rfl, dcmp_gt, dcmp_lt]
  exact ⟨fun ⟨h1, h2, h⟩ => ⟨h2, h1, h⟩, fun ⟨h1, h2, h⟩ => ⟨h2, h1, h⟩⟩
theorem own_is_eq {x y : UInt64} {a b : Rat} (hx : own_is x a) (hy : own_is y b) : FP.dcmp x y = some .eq ↔ a = b := by
  rw [show FP.dcmp x y = FP.Core.dcmp x y from rfl, dcmp_eq]
  constructor
  · rintro ⟨-, -, h⟩
    have h2 : ((zval b64 (val64 x) : Int) : Rat) = ((zval b64 (val64 y) : Int) : Rat) := by rw [h]
    rw [own_zval hx, own_zval hy] at h2
    have h3 := own_p_ne 1074
    calc a = a * 2 ^ (1074 : Int) / 2 ^ (1074 : Int) := (Rat.mul_div_cancel h3).symm
      _ = b * 2 ^ (1074 : Int) / 2 ^ (1074 : Int) := by rw [h2]
      _ = b := Rat.mul_div_cancel h3
  · rintro rfl
    exact ⟨own_is_nn hx, own_is_nn hy, Rat.intCast_inj.mp (by rw [own_zval hx, own_zval hy])⟩
theorem own_rd_of {x : UInt64} {r : Rat} (h : own_is x r) : own_rd x r := by
  obtain ⟨s, c, q, h1, rfl⟩ := h
  have hf := val64_fits x
  rw [h1] at hf
  refine ⟨s, c, 1, q, by decide, h1.trans (round_of_fits good_b64 hf).symm, ?_⟩
  rw [show (((1 : Nat) : Rat)) = 1 from rfl, Rat.div_def, own_inv1, Rat.mul_one]
theorem own_rd_nn {x : UInt64} {r : Rat} (h : own_rd x r) : val64 x ≠ .nan := by
  obtain ⟨s, A, B, e, -, h1, -⟩ := h; rw [h1]; exact roundRatio_ne_nan _ _ _ _ _
theorem own_rd_no {x : UInt64} {r : Rat} (h : own_rd x r) : NoNaN64 x := val64_no.mpr (own_rd_nn h)
/-- the magnitude of a ratio -/
theorem own_signed_zero {s : Bool} {A : Nat} : ((signed s A : Int) : Rat) = 0 ↔ A = 0 := by
  rw [Rat.intCast_eq_zero_iff, signed_eq_zero]
theorem own_ratio_zero {s : Bool} {A B : Nat} {e : Int} (hB : 0 < B) : ((signed s A : Int) : Rat) / ((B : Nat) : Rat) * (2 : Rat) ^ e = 0 ↔ A = 0 := by
  have hb : ((B : Nat) : Rat) ≠ 0 := by rw [Ne, Rat.natCast_eq_zero_iff]; omega
  constructor
  · intro h
    rcases Rat.mul_eq_zero.mp h with h | h
    · rw [Rat.div_def] at h
      rcases Rat.mul_eq_zero.mp h with h | h
      · exact own_signed_zero.mp h
      · exact absurd (by rw [← Rat.inv_inv ((B : Nat) : Rat), h, Rat.inv_zero]) hb
    · exact absurd h (own_p_ne e)
  · rintro rfl
    rw [own_signed_zero.mpr rfl, Rat.div_def, Rat.zero_mul, Rat.zero_mul]
end OwnNum
section OwnNum2
open Jvm.FP.Core Jvm.Free.Fl
theorem own_nat_pos {B : Nat} (h : 0 < B) : (0 : Rat) < ((B : Nat) : Rat) := Rat.natCast_pos.mpr h
theorem own_nat_ne {B : Nat} (h : 0 < B) : ((B : Nat) : Rat) ≠ 0 := Rat.ne_of_gt (own_nat_pos h)
theorem own_cross {a b a' b' P P' : Rat} (hb : b ≠ 0) (hb' : b' ≠ 0) (h : a / b * P = a' / b' * P') : a * b' * P = a' * b * P' := by
  have h1 : a = a / b * b := (Rat.div_mul_cancel hb).symm
  have h2 : a' = a' / b' * b' := (Rat.div_mul_cancel hb').symm
  generalize a / b = u at *
  generalize a' / b' = w at *
  subst h1 h2
  grind
theorem own_cancel {a b P : Rat} (hP : P ≠ 0) (h : a * P = b * P) : a = b := by
  rw [← Rat.mul_div_cancel (a := a) hP, h, Rat.mul_div_cancel hP]
theorem own_sig_eq {s s' : Bool} {X Y : Nat} (hX : 0 < X) (h : signed s X = signed s' Y) : s = s' ∧ X = Y := by
  cases s <;> cases s' <;> simp only [signed, Bool.false_eq_true, if_true, if_false] at h <;> first | exact ⟨rfl, by omega⟩ | omega
theorem own_ratio_le {s s' : Bool} {A B A' B' : Nat} {e e' : Int} (hB : 0 < B) (hB' : 0 < B') (hA : 0 < A) (hle : e' ≤ e)
    (h : ((signed s A : Int) : Rat) / ((B : Nat) : Rat) * (2 : Rat) ^ e = ((signed s' A' : Int) : Rat) / ((B' : Nat) : Rat) * (2 : Rat) ^ e') :
    s = s' ∧ A * B' * 2 ^ (e - e').toNat = A' * B := by
  have h1 := own_cross (own_nat_ne hB) (own_nat_ne hB') h
  have h2 : (2 : Rat) ^ e = 2 ^ (e - e') * 2 ^ e' := by rw [← own_p_add]; congr 1; omega
  rw [h2, ← Rat.mul_assoc] at h1
  have h3 := own_cancel (own_p_ne e') h1
  rw [← own_p_toNat (by omega), ← own_signed_cast, ← own_signed_cast, ← own_signed_cast, Rat.intCast_inj] at h3
  exact own_sig_eq (Nat.mul_pos (Nat.mul_pos hA hB') (Nat.two_pow_pos _)) h3
theorem own_ratio_eq {s s' : Bool} {A B A' B' : Nat} {e e' : Int} (hB : 0 < B) (hB' : 0 < B') (hA : 0 < A)
    (h : ((signed s A : Int) : Rat) / ((B : Nat) : Rat) * (2 : Rat) ^ e = ((signed s' A' : Int) : Rat) / ((B' : Nat) : Rat) * (2 : Rat) ^ e') :
    s = s' ∧ roundRatio b64 s A B e = roundRatio b64 s' A' B' e' := by
  have hA' : 0 < A' := by
    rcases Nat.eq_zero_or_pos A' with h0 | h0
    · rw [(own_ratio_zero hB').mpr h0, own_ratio_zero hB] at h; omega
    · exact h0
  rcases Int.le_total e' e with hle | hle
  · obtain ⟨rfl, h1⟩ := own_ratio_le hB hB' hA hle h
    refine ⟨rfl, roundRatio_congr hB hB' ?_⟩
    rw [h1, show (e' - e).toNat = 0 by omega]; simp
  · obtain ⟨rfl, h1⟩ := own_ratio_le hB' hB hA' hle h.symm
    refine ⟨rfl, (roundRatio_congr hB' hB ?_).symm⟩
    rw [h1, show (e - e').toNat = 0 by omega]; simp
theorem own_rd_uniq {x y : UInt64} {r : Rat} (hx : own_rd x r) (hy : own_rd y r) : FP.dcmp x y = some .eq := by
  obtain ⟨s, A, B, e, hB, hv, hr⟩ := hx
  obtain ⟨s', A', B', e', hB', hv', hr'⟩ := hy
  rcases Nat.eq_zero_or_pos A with hA | hA
  · have hA' : A' = 0 := by rw [← own_ratio_zero hB' (s := s') (e := e'), ← hr', hr]; exact (own_ratio_zero hB).mpr hA
    subst hA hA'
    rw [show FP.dcmp x y = FP.Core.dcmp x y from rfl, dcmp_eq, hv, hv']
    refine ⟨roundRatio_ne_nan _ _ _ _ _, roundRatio_ne_nan _ _ _ _ _, ?_⟩
    show zval b64 (.fin s 0 b64.qmin) = zval b64 (.fin s' 0 b64.qmin)
    cases s <;> cases s' <;> decide
  · obtain ⟨-, h1⟩ := own_ratio_eq hB hB' hA (hr.symm.trans hr')
    have h2 : val64 x ≠ .nan := by rw [hv]; exact roundRatio_ne_nan _ _ _ _ _
    have h3 : x = y := val64_inj h2 (by rw [hv, hv', h1])
    subst h3
    exact dcmp_refl ((notNaN_iff x).mpr h2)
/-- exact where the rational has 53 digits -/
theorem own_rd_exact {x : UInt64} {r : Rat} (h : own_rd x r) {m : Int} {k : Int} (hr : r = (m : Rat) * (2 : Rat) ^ k) (hm : m.natAbs < 2 ^ 53) (hk : -1074 ≤ k) (hk2 : k ≤ 971) : own_is x r := by
  obtain ⟨s, A, B, e, hB, hv, hr0⟩ := h
  have hcan : ∀ (t : Bool), ((signed t m.natAbs : Int) : Rat) * (2 : Rat) ^ k = r → roundRatio b64 s A B e = round b64 (.fin t m.natAbs k) → own_is x r := by
    intro t ht hq
    obtain ⟨c', q', h1, h2⟩ := round_exact good_b64 t (c := m.natAbs) (q := k) hm (by rw [qmin_b64]; exact hk) (by exact hk2)
    have hx : val64 x = .fin t c' q' := by rw [hv, hq, h1]
    refine ⟨t, c', q', hx, ?_⟩
    have hf := val64_fits x
    rw [hx] at hf
    have z1 := own_zmag hf
    have z2 : ((inUnits c' q' b64.qmin : Nat) : Rat) = ((m.natAbs : Nat) : Rat) * 2 ^ k * 2 ^ (1074 : Int) := by
      rw [h2]; unfold inUnits
      rw [Rat.natCast_mul, own_p_toNat (by rw [qmin_b64]; omega), qmin_b64, show k - (-1074) = k + 1074 by omega, own_p_add, Rat.mul_assoc]
    have z3 : (c' : Rat) * 2 ^ q' = ((m.natAbs : Nat) : Rat) * 2 ^ k := own_cancel (own_p_ne 1074) (z1.symm.trans z2)
    rw [← ht]
    cases t
    · exact z3.symm
    · show ((-(m.natAbs : Int) : Int) : Rat) * _ = ((-(c' : Int) : Int) : Rat) * _
      rw [Rat.intCast_neg, Rat.intCast_neg, Rat.neg_mul, Rat.neg_mul]
      exact congrArg _ z3.symm
  rcases Nat.eq_zero_or_pos A with hA | hA
  · have h0 : r = 0 := by rw [hr0]; exact (own_ratio_zero hB).mpr hA
    have hm0 : m = 0 := by
      rw [h0] at hr
      rcases Rat.mul_eq_zero.mp hr.symm with h1 | h1
      · exact Rat.intCast_eq_zero_iff.mp h1
      · exact absurd h1 (own_p_ne k)
    subst hm0 hA
    refine hcan s ?_ ?_
    · rw [h0]; cases s <;> simp [signed]
    · show Datum.fin s 0 b64.qmin = Datum.fin s 0 b64.qmin
      rfl
  · have h1 : ((signed s A : Int) : Rat) / ((B : Nat) : Rat) * (2 : Rat) ^ e = ((signed (decide (m < 0)) m.natAbs : Int) : Rat) / (((1 : Nat) : Nat) : Rat) * (2 : Rat) ^ k := by
      rw [← hr0, hr, show (((1 : Nat) : Rat)) = 1 from rfl, Rat.div_def, own_inv1, Rat.mul_one]
      congr 2
      unfold signed
      by_cases hmn : m < 0 <;> simp [hmn] <;> omega
    obtain ⟨-, h2⟩ := own_ratio_eq hB (by decide) hA h1
    refine hcan (decide (m < 0)) ?_ h2
    rw [hr]
    congr 2
    unfold signed
    by_cases hmn : m < 0 <;> simp [hmn] <;> omega
theorem own_add {x y : UInt64} {a b : Rat} (hx : own_is x a) (hy : own_is y b) : own_rd (FP.dadd x y) (a + b) := by
  obtain ⟨s, c, q, h1, rfl⟩ := hx
  obtain ⟨t, d, r, h2, rfl⟩ := hy
  refine ⟨_, _, 1, min q r, by decide, (val64_dadd x y).trans (by rw [h1, h2]; rfl), ?_⟩
  rw [signed_sumSign, show (((1 : Nat) : Rat)) = 1 from rfl, Rat.div_def, own_inv1, Rat.mul_one]
  unfold sumUnits inUnits
  rw [Rat.intCast_add, own_signed_cast, own_signed_cast, own_p_toNat (by omega), own_p_toNat (by omega), Rat.add_mul, Rat.mul_assoc, Rat.mul_assoc, ← own_p_add, ← own_p_add, show q - min q r + min q r = q by omega, show r - min q r + min q r = r by omega]
theorem own_neg {x : UInt64} {a : Rat} (hx : own_is x a) : own_is (FP.dneg x) (-a) := by
  obtain ⟨s, c, q, h1, rfl⟩ := hx
  refine ⟨!s, c, q, (FP.val64_dneg x).trans (by rw [h1]; rfl), ?_⟩
  rw [signed_not, Rat.intCast_neg, Rat.neg_mul]
theorem own_sub {x y : UInt64} {a b : Rat} (hx : own_is x a) (hy : own_is y b) : own_rd (FP.dsub x y) (a - b) := by
  have h : val64 (FP.dsub x y) = val64 (FP.dadd x (FP.dneg y)) := by
    rw [show val64 (FP.dsub x y) = _ from val64_dsub x y, show val64 (FP.dadd x (FP.dneg y)) = _ from val64_dadd x (FP.dneg y), FP.val64_dneg]
  obtain ⟨s, A, B, e, hB, hv, hr⟩ := own_add hx (own_neg hy)
  exact ⟨s, A, B, e, hB, h.trans hv, by rw [Rat.sub_eq_add_neg]; exact hr⟩
theorem own_mul {x y : UInt64} {a b : Rat} (hx : own_is x a) (hy : own_is y b) : own_rd (FP.dmul x y) (a * b) := by
  obtain ⟨s, c, q, h1, rfl⟩ := hx
  obtain ⟨t, d, r, h2, rfl⟩ := hy
  refine ⟨s != t, c * d, 1, q + r, by decide, (val64_dmul x y).trans (by rw [h1, h2]; rfl), ?_⟩
  rw [signed_xor, Rat.intCast_mul, own_p_add, show (((1 : Nat) : Rat)) = 1 from rfl, Rat.div_def, own_inv1, Rat.mul_one]
  grind
theorem own_div {x y : UInt64} {a b : Rat} (hx : own_is x a) (hy : own_is y b) (hb : b ≠ 0) : own_rd (FP.ddiv x y) (a / b) := by
  obtain ⟨s, c, q, h1, rfl⟩ := hx
  obtain ⟨t, d, r, h2, rfl⟩ := hy
  have hd : d ≠ 0 := by
    rintro rfl
    exact hb (by rw [own_signed_zero.mpr rfl, Rat.zero_mul])
  refine ⟨s != t, c, d, q - r, by omega, (val64_ddiv x y).trans (by rw [h1, h2]; show (if d = 0 then _ else _) = _; rw [if_neg hd]), ?_⟩
  have hd' : ((d : Nat) : Rat) ≠ 0 := own_nat_ne (by omega)
  have e1 : (2 : Rat) ^ q = 2 ^ (q - r) * 2 ^ r := by rw [← own_p_add]; congr 1; omega
  have e2 := own_p_ne r
  rw [e1]
  generalize (2 : Rat) ^ (q - r) = P
  generalize (2 : Rat) ^ r = W at *
  cases s <;> cases t <;> simp only [signed, Bool.false_eq_true, if_true, if_false, bne_self_eq_false, Rat.intCast_neg, Rat.intCast_natCast, Bool.bne_true, Bool.bne_false, Bool.not_false, Bool.not_true] <;> grind
theorem own_rdL (a : Int64) : own_rd (FP.l2d a) ((a.toInt : Int) : Rat) := by
  refine ⟨decide (a.toInt < 0), a.toInt.natAbs, 1, 0, by decide, val64_l2d a, ?_⟩
  rw [show (((1 : Nat) : Rat)) = 1 from rfl, Rat.div_def, own_inv1, Rat.mul_one, Rat.zpow_zero, Rat.mul_one]
  congr 1
  unfold signed
  by_cases hmn : a.toInt < 0 <;> simp [hmn] <;> omega
theorem own_isI (a : Int32) : own_is (FP.i2d a) ((a.toInt : Int) : Rat) := by
  have h : FP.i2d a = FP.l2d a.toInt64 := i2d_l2d a
  have h2 := own_rdL a.toInt64
  rw [Int32.toInt_toInt64] at h2
  rw [h]
  refine own_rd_exact h2 (m := a.toInt) (k := 0) (by rw [Rat.zpow_zero, Rat.mul_one]) ?_ (by decide) (by decide)
  have := a.le_toInt; have := a.toInt_lt; omega
end OwnNum2
section OwnNum3
open Jvm.FP.Core Jvm.Free.Fl
theorem own_units {A B : Nat} {e : Int} {c : Nat} {q : Int} {s : Bool} (hf : FP.Core.fits b64 (.fin s c q)) (e0 : Int) (h0 : e0 ≤ b64.qmin) (h0e : e0 ≤ e) :
    (((inUnits A e e0 : Nat) : Rat) = (A : Rat) * 2 ^ e * 2 ^ (-e0)) ∧ (((zmag b64 (.fin s c q) * 2 ^ (b64.qmin - e0).toNat * B : Nat) : Rat) = ((c : Rat) * 2 ^ q) * (B : Rat) * 2 ^ (-e0)) := by
  constructor
  · unfold inUnits
    rw [Rat.natCast_mul, own_p_toNat (by omega), show e - e0 = e + -e0 by omega, own_p_add, Rat.mul_assoc]
  · rw [Rat.natCast_mul, Rat.natCast_mul, own_zmag hf, own_p_toNat (by omega), show b64.qmin - e0 = -1074 + -e0 by rw [qmin_b64]; omega, own_p_add]
    have := own_p_neg 1074
    grind
theorem own_div_le {a b w : Rat} (hb : 0 < b) : a / b ≤ w ↔ a ≤ w * b := by
  have h1 : a = a / b * b := (Rat.div_mul_cancel (Rat.ne_of_gt hb)).symm
  constructor
  · intro h; rw [h1]; exact Rat.mul_le_mul_of_nonneg_right h (Rat.le_of_lt hb)
  · intro h; rw [h1] at h; exact Rat.le_of_mul_le_mul_right h hb
theorem own_le_div {a b w : Rat} (hb : 0 < b) : w ≤ a / b ↔ w * b ≤ a := by
  have h1 : a = a / b * b := (Rat.div_mul_cancel (Rat.ne_of_gt hb)).symm
  constructor
  · intro h; rw [h1]; exact Rat.mul_le_mul_of_nonneg_right h (Rat.le_of_lt hb)
  · intro h; rw [h1] at h; exact Rat.le_of_mul_le_mul_right h hb
theorem own_mag_le {A B : Nat} {e : Int} {s t : Bool} {c : Nat} {q : Int} (hB : 0 < B) (hf : FP.Core.fits b64 (.fin t c q)) (h : (A : Rat) / (B : Rat) * 2 ^ e ≤ (c : Rat) * 2 ^ q) : zmag b64 (roundRatio b64 s A B e) ≤ zmag b64 (.fin t c q) := by
  obtain ⟨u1, u2⟩ := own_units (A := A) (B := B) (e := e) hf (min e b64.qmin) (by omega) (by omega)
  refine zmag_roundRatio_le good_b64 hB hf Datum.noConfusion (e0 := min e b64.qmin) (by omega) (by omega) (Rat.natCast_le_natCast.mp ?_)
  rw [u1, u2]
  refine Rat.mul_le_mul_of_nonneg_right ?_ (Rat.le_of_lt (own_p_pos _))
  have hb := own_nat_pos hB
  have h2 := Rat.mul_le_mul_of_nonneg_right h (Rat.le_of_lt hb)
  have h3 : (A : Rat) / (B : Rat) * 2 ^ e * (B : Rat) = (A : Rat) * 2 ^ e := by
    rw [Rat.mul_assoc, Rat.mul_comm ((2 : Rat) ^ e), ← Rat.mul_assoc, Rat.div_mul_cancel (own_nat_ne hB)]
  rw [h3] at h2
  exact h2
theorem own_mag_ge {A B : Nat} {e : Int} {s t : Bool} {c : Nat} {q : Int} (hB : 0 < B) (hf : FP.Core.fits b64 (.fin t c q)) (h : (c : Rat) * 2 ^ q ≤ (A : Rat) / (B : Rat) * 2 ^ e) : zmag b64 (.fin t c q) ≤ zmag b64 (roundRatio b64 s A B e) := by
  obtain ⟨u1, u2⟩ := own_units (A := A) (B := B) (e := e) hf (min e b64.qmin) (by omega) (by omega)
  refine zmag_roundRatio_ge good_b64 hB hf (e0 := min e b64.qmin) (by omega) (by omega) (Rat.natCast_le_natCast.mp ?_)
  rw [u1, u2]
  refine Rat.mul_le_mul_of_nonneg_right ?_ (Rat.le_of_lt (own_p_pos _))
  have hb := own_nat_pos hB
  have h2 := Rat.mul_le_mul_of_nonneg_right h (Rat.le_of_lt hb)
  have h3 : (A : Rat) / (B : Rat) * 2 ^ e * (B : Rat) = (A : Rat) * 2 ^ e := by
    rw [Rat.mul_assoc, Rat.mul_comm ((2 : Rat) ^ e), ← Rat.mul_assoc, Rat.div_mul_cancel (own_nat_ne hB)]
  rw [h3] at h2
  exact h2
theorem own_signed_ratio (s : Bool) (A B : Nat) (e : Int) : ((signed s A : Int) : Rat) / ((B : Nat) : Rat) * (2 : Rat) ^ e = if s then -((A : Rat) / (B : Rat) * 2 ^ e) else (A : Rat) / (B : Rat) * 2 ^ e := by
  cases s
  · rfl
  · show ((-(A : Int) : Int) : Rat) / _ * _ = _
    rw [Rat.intCast_neg, Rat.div_def, Rat.neg_mul, Rat.neg_mul]; rfl
theorem own_signed_pow (s : Bool) (c : Nat) (q : Int) : ((signed s c : Int) : Rat) * (2 : Rat) ^ q = if s then -((c : Rat) * 2 ^ q) else (c : Rat) * 2 ^ q := by
  cases s
  · rfl
  · show ((-(c : Int) : Int) : Rat) * _ = _
    rw [Rat.intCast_neg, Rat.neg_mul]; rfl
theorem own_ratio_nonneg (A B : Nat) (e : Int) : 0 ≤ (A : Rat) / (B : Rat) * 2 ^ e := by
  refine Rat.mul_nonneg ?_ (Rat.le_of_lt (own_p_pos e))
  rcases Nat.eq_zero_or_pos B with rfl | hB
  · rw [Rat.div_def]; exact Rat.mul_nonneg Rat.natCast_nonneg (by rw [show ((0 : Nat) : Rat) = 0 from rfl, Rat.inv_zero]; exact Rat.le_refl)
  · rw [own_le_div (own_nat_pos hB), Rat.zero_mul]; exact Rat.natCast_nonneg
theorem own_rd_le {x V : UInt64} {r y : Rat} (h : own_rd x r) (hV : own_is V y) (hle : r ≤ y) : zval b64 (val64 x) ≤ zval b64 (val64 V) := by
  obtain ⟨s, A, B, e, hB, hv, hr⟩ := h
  obtain ⟨t, c, q, hVv, hy⟩ := hV
  have hf := val64_fits V
  rw [hVv] at hf
  rw [hv, hVv]
  have m1 := own_mag_le (A := A) (e := e) (s := s) hB hf
  have m2 := own_mag_ge (A := A) (e := e) (s := s) hB hf
  unfold zval
  rw [sgn_roundRatio]
  show _ ≤ signed t (zmag b64 (.fin t c q))
  rw [own_signed_ratio] at hr
  rw [own_signed_pow] at hy
  have p1 := own_ratio_nonneg A B e
  have p2 : 0 ≤ (c : Rat) * 2 ^ q := Rat.mul_nonneg Rat.natCast_nonneg (Rat.le_of_lt (own_p_pos q))
  have hz : (c : Rat) * 2 ^ q ≤ 0 → zmag b64 (.fin t c q) = 0 := by
    intro h0
    have h1 : (c : Rat) * 2 ^ q = 0 := Rat.le_antisymm h0 p2
    have h2 := own_zmag hf
    rw [h1, Rat.zero_mul] at h2
    exact Rat.natCast_eq_zero_iff.mp h2
  generalize (A : Rat) / (B : Rat) * 2 ^ e = ra at *
  generalize (c : Rat) * 2 ^ q = rc at *
  generalize zmag b64 (roundRatio b64 s A B e) = za at *
  generalize zmag b64 (.fin t c q) = zc at *
  cases s <;> cases t <;> simp only [signed, Bool.false_eq_true, if_true, if_false] at hr hy ⊢
  · have := m1 (by grind); omega
  · have := m1 (by grind); have := hz (by grind); omega
  · omega
  · have := m2 (by grind); omega
theorem own_rd_neg {x : UInt64} {r : Rat} (h : own_rd x r) : own_rd (FP.dneg x) (-r) := by
  obtain ⟨s, A, B, e, hB, hv, hr⟩ := h
  refine ⟨!s, A, B, e, hB, (FP.val64_dneg x).trans (by rw [hv, negate_roundRatio]), ?_⟩
  rw [hr, signed_not, Rat.intCast_neg, Rat.div_def, Rat.div_def, Rat.neg_mul, Rat.neg_mul]
theorem own_zval_neg (x : UInt64) : zval b64 (val64 (FP.dneg x)) = -zval b64 (val64 x) := by
  rw [show val64 (FP.dneg x) = negate (val64 x) from FP.val64_dneg x, zval_negate]
theorem own_rd_ge {x V : UInt64} {r y : Rat} (h : own_rd x r) (hV : own_is V y) (hle : y ≤ r) : zval b64 (val64 V) ≤ zval b64 (val64 x) := by
  have h1 := own_rd_le (own_rd_neg h) (own_neg hV) (Rat.neg_le_neg hle)
  rw [own_zval_neg, own_zval_neg] at h1
  omega
theorem own_big : own_is 9110782046170513408 ((2 : Rat) ^ (1000 : Int)) := ⟨false, 2 ^ 52, 948, by decide +kernel, by
  show _ = (((2 ^ 52 : Nat) : Rat)) * _
  rw [own_p_nat, ← own_p_add]; rfl⟩
theorem own_rd_fin {x : UInt64} {r : Rat} (h : own_rd x r) (h1 : r ≤ (2 : Rat) ^ (1000 : Int)) (h2 : -((2 : Rat) ^ (1000 : Int)) ≤ r) : ∃ v, own_is x v := by
  have l1 := own_rd_le h own_big h1
  have l2 := own_rd_ge h (own_neg own_big) h2
  rw [own_zval_neg] at l2
  obtain ⟨s, A, B, e, hB, hv, hr⟩ := h
  rcases roundRatio_cases b64 s A B e with ⟨c, q, hc⟩ | hc
  · exact ⟨_, s, c, q, hv.trans hc, rfl⟩
  · rw [hv, hc] at l1 l2
    cases s
    · exact absurd l1 (by decide +kernel)
    · exact absurd l2 (by decide +kernel)
theorem own_rd_le' {x V : UInt64} {r v y : Rat} (h : own_rd x r) (hx : own_is x v) (hV : own_is V y) (hle : r ≤ y) : v ≤ y := by
  have h1 := own_rd_le h hV hle
  refine Rat.not_lt.mp fun h2 => ?_
  have h3 := (dcmp_lt.mp ((own_is_lt hV hx).mpr h2)).2.2
  omega
theorem own_rd_ge' {x V : UInt64} {r v y : Rat} (h : own_rd x r) (hx : own_is x v) (hV : own_is V y) (hle : y ≤ r) : y ≤ v := by
  have h1 := own_rd_ge h hV hle
  refine Rat.not_lt.mp fun h2 => ?_
  have h3 := (dcmp_lt.mp ((own_is_lt hx hV).mpr h2)).2.2
  omega
/-- every rational of 53 digits is a double -/
theorem own_rep {m k : Int} (hm : m.natAbs < 2 ^ 53) (hk : -1074 ≤ k) (hk2 : k ≤ 971) : ∃ V, own_is V ((m : Rat) * (2 : Rat) ^ k) := by
  have hf : FP.Core.fits b64 (roundRatio b64 (decide (m < 0)) m.natAbs 1 k) := roundRatio_fits good_b64 _ _ (by decide) _
  refine ⟨of64 (roundRatio b64 (decide (m < 0)) m.natAbs 1 k), own_rd_exact ⟨decide (m < 0), m.natAbs, 1, k, by decide, val64_of64 hf, ?_⟩ rfl hm hk hk2⟩
  rw [show (((1 : Nat) : Rat)) = 1 from rfl, Rat.div_def, own_inv1, Rat.mul_one]
  congr 2
  unfold signed
  by_cases hmn : m < 0 <;> simp [hmn] <;> omega
end OwnNum3
section OwnNum4
open Jvm.FP.Core Jvm.Free.Fl
theorem own_two200 : (1606938044258990275541962092341162602522202993782792835301376 : Rat) ≤ (2 : Rat) ^ (1000 : Int) := by decide +kernel
theorem own_rd_finN {x : UInt64} {r : Rat} (h : own_rd x r) (h1 : r ≤ 1606938044258990275541962092341162602522202993782792835301376) (h2 : -1606938044258990275541962092341162602522202993782792835301376 ≤ r) : ∃ v, own_is x v :=
  own_rd_fin h (Rat.le_trans h1 own_two200) (Rat.le_trans (Rat.neg_le_neg own_two200) h2)
theorem own_zero : own_is 0 0 := ⟨false, 0, -1074, by decide +kernel, by decide +kernel⟩
theorem own_one : own_is 4607182418800017408 1 := ⟨false, 2 ^ 52, -52, by decide +kernel, by decide +kernel⟩
theorem own_rep' {m k : Int} {r : Rat} (hr : r = (m : Rat) * (2 : Rat) ^ k) (hm : m.natAbs < 2 ^ 53) (hk : -1074 ≤ k) (hk2 : k ≤ 971) : ∃ V, own_is V r := by rw [hr]; exact own_rep hm hk hk2
theorem own_cmpv {x y : UInt64} {a b : Rat} (hx : own_is x a) (hy : own_is y b) (o : ClassFile.CmpOp) : Op.cmpValue (FP.dcmp x y) o = if a < b then -1 else if a = b then 0 else 1 := by
  by_cases h1 : a < b
  · rw [(own_is_lt hx hy).mpr h1, if_pos h1]; rfl
  · by_cases h2 : a = b
    · rw [(own_is_eq hx hy).mpr h2, if_neg h1, if_pos h2]; rfl
    · have h3 : b < a := by grind
      rw [(own_is_gt hx hy).mpr h3, if_neg h1, if_neg h2]; rfl
theorem own_c_lt {x y : UInt64} {a b : Rat} (hx : own_is x a) (hy : own_is y b) (o : ClassFile.CmpOp) : Op.ifCond.holds .lt (Op.cmpValue (FP.dcmp x y) o) = decide (a < b) := by
  rw [own_cmpv hx hy]; by_cases h1 : a < b <;> by_cases h2 : a = b <;> simp [h1, h2, Op.ifCond.holds]
theorem own_c_ge {x y : UInt64} {a b : Rat} (hx : own_is x a) (hy : own_is y b) (o : ClassFile.CmpOp) : Op.ifCond.holds .ge (Op.cmpValue (FP.dcmp x y) o) = decide (b ≤ a) := by
  rw [own_cmpv hx hy]
  by_cases h1 : a < b
  · simp [h1, Rat.not_le.mpr h1, Op.ifCond.holds]
  · by_cases h2 : a = b <;> simp [h1, h2, Rat.not_lt.mp h1, Op.ifCond.holds, Rat.le_refl]
theorem own_c_gt {x y : UInt64} {a b : Rat} (hx : own_is x a) (hy : own_is y b) (o : ClassFile.CmpOp) : Op.ifCond.holds .gt (Op.cmpValue (FP.dcmp x y) o) = decide (b < a) := by
  rw [own_cmpv hx hy]
  by_cases h1 : a < b
  · have : ¬ b < a := by grind
    simp [h1, this, Op.ifCond.holds]
  · by_cases h2 : a = b
    · subst h2; simp [Rat.lt_irrefl, Op.ifCond.holds]
    · have : b < a := by grind
      simp [h1, h2, this, Op.ifCond.holds]
theorem own_c_le {x y : UInt64} {a b : Rat} (hx : own_is x a) (hy : own_is y b) (o : ClassFile.CmpOp) : Op.ifCond.holds .le (Op.cmpValue (FP.dcmp x y) o) = decide (a ≤ b) := by
  rw [own_cmpv hx hy]
  by_cases h1 : a < b
  · simp [h1, Rat.le_of_lt h1, Op.ifCond.holds]
  · by_cases h2 : a = b
    · subst h2; simp [Rat.lt_irrefl, Rat.le_refl, Op.ifCond.holds]
    · have : ¬ a ≤ b := by grind
      simp [h1, h2, this, Op.ifCond.holds]
theorem own_c_eq {x y : UInt64} {a b : Rat} (hx : own_is x a) (hy : own_is y b) (o : ClassFile.CmpOp) : Op.ifCond.holds .eq (Op.cmpValue (FP.dcmp x y) o) = decide (a = b) := by
  rw [own_cmpv hx hy]
  by_cases h1 : a < b
  · have : ¬ a = b := by grind
    simp [h1, this, Op.ifCond.holds]
  · by_cases h2 : a = b <;> simp [h1, h2, Op.ifCond.holds]
theorem own_c_ne {x y : UInt64} {a b : Rat} (hx : own_is x a) (hy : own_is y b) (o : ClassFile.CmpOp) : Op.ifCond.holds .ne (Op.cmpValue (FP.dcmp x y) o) = decide (a ≠ b) := by
  rw [own_cmpv hx hy]
  by_cases h1 : a < b
  · have : ¬ a = b := by grind
    simp [h1, this, Op.ifCond.holds]
  · by_cases h2 : a = b <;> simp [h1, h2, Op.ifCond.holds]
/-- ints by their values -/
theorem own_i_lt (x y : Int32) : Op.if_icmp.holds .lt x y = decide (x.toInt < y.toInt) := by simp only [Op.if_icmp.holds, Int32.lt_iff_toInt_lt]
theorem own_i_gt (x y : Int32) : Op.if_icmp.holds .gt x y = decide (y.toInt < x.toInt) := by simp only [Op.if_icmp.holds, GT.gt, Int32.lt_iff_toInt_lt]
theorem own_i_le (x y : Int32) : Op.if_icmp.holds .le x y = decide (x.toInt ≤ y.toInt) := by simp only [Op.if_icmp.holds, Int32.le_iff_toInt_le]
theorem own_i_ge (x y : Int32) : Op.if_icmp.holds .ge x y = decide (y.toInt ≤ x.toInt) := by simp only [Op.if_icmp.holds, GE.ge, Int32.le_iff_toInt_le]
theorem own_i_eq (x y : Int32) : Op.if_icmp.holds .eq x y = decide (x = y) := by rw [Bool.eq_iff_iff]; simp [Op.if_icmp.holds]
theorem own_i_ne (x y : Int32) : Op.if_icmp.holds .ne x y = decide (x ≠ y) := by rw [Bool.eq_iff_iff]; simp [Op.if_icmp.holds]
theorem own_z_lt (x : Int32) : Op.ifCond.holds .lt x = decide (x.toInt < 0) := by simp only [Op.ifCond.holds, Int32.lt_iff_toInt_lt]; rfl
theorem own_z_gt (x : Int32) : Op.ifCond.holds .gt x = decide (0 < x.toInt) := by simp only [Op.ifCond.holds, GT.gt, Int32.lt_iff_toInt_lt]; rfl
theorem own_z_le (x : Int32) : Op.ifCond.holds .le x = decide (x.toInt ≤ 0) := by simp only [Op.ifCond.holds, Int32.le_iff_toInt_le]; rfl
theorem own_z_ge (x : Int32) : Op.ifCond.holds .ge x = decide (0 ≤ x.toInt) := by simp only [Op.ifCond.holds, GE.ge, Int32.le_iff_toInt_le]; rfl
theorem own_z_eq (x : Int32) : Op.ifCond.holds .eq x = decide (x = 0) := by rw [Bool.eq_iff_iff]; simp [Op.ifCond.holds]
theorem own_z_ne (x : Int32) : Op.ifCond.holds .ne x = decide (x ≠ 0) := by rw [Bool.eq_iff_iff]; simp [Op.ifCond.holds]
theorem own_lc_lt (x y : Int64) : Op.ifCond.holds .lt (if x > y then (1 : Int32) else if x = y then 0 else -1) = decide (x.toInt < y.toInt) := by
  simp only [GT.gt, Int64.lt_iff_toInt_lt, ← Int64.toInt_inj]
  by_cases h1 : y.toInt < x.toInt
  · simp [h1, Op.ifCond.holds, show ¬ x.toInt < y.toInt by omega]
  · by_cases h2 : x.toInt = y.toInt
    · simp [h2, Op.ifCond.holds]
    · simp [h1, h2, Op.ifCond.holds, show x.toInt < y.toInt by omega]
theorem own_lc_ge (x y : Int64) : Op.ifCond.holds .ge (if x > y then (1 : Int32) else if x = y then 0 else -1) = decide (y.toInt ≤ x.toInt) := by
  simp only [GT.gt, Int64.lt_iff_toInt_lt, ← Int64.toInt_inj]
  by_cases h1 : y.toInt < x.toInt
  · simp [h1, Op.ifCond.holds, show y.toInt ≤ x.toInt by omega]
  · by_cases h2 : x.toInt = y.toInt
    · simp [h2, Op.ifCond.holds]
    · simp [h1, h2, Op.ifCond.holds, show ¬ y.toInt ≤ x.toInt by omega]
theorem own_lc_gt (x y : Int64) : Op.ifCond.holds .gt (if x > y then (1 : Int32) else if x = y then 0 else -1) = decide (y.toInt < x.toInt) := by
  simp only [GT.gt, Int64.lt_iff_toInt_lt, ← Int64.toInt_inj]
  by_cases h1 : y.toInt < x.toInt
  · simp [h1, Op.ifCond.holds]
  · by_cases h2 : x.toInt = y.toInt
    · simp [h2, Op.ifCond.holds]
    · simp [h1, h2, Op.ifCond.holds]
theorem own_lc_le (x y : Int64) : Op.ifCond.holds .le (if x > y then (1 : Int32) else if x = y then 0 else -1) = decide (x.toInt ≤ y.toInt) := by
  simp only [GT.gt, Int64.lt_iff_toInt_lt, ← Int64.toInt_inj]
  by_cases h1 : y.toInt < x.toInt
  · simp [h1, Op.ifCond.holds, show ¬ x.toInt ≤ y.toInt by omega]
  · by_cases h2 : x.toInt = y.toInt
    · simp [h2, Op.ifCond.holds]
    · simp [h1, h2, Op.ifCond.holds, show x.toInt ≤ y.toInt by omega]
theorem own_lc_eq (x y : Int64) : Op.ifCond.holds .eq (if x > y then (1 : Int32) else if x = y then 0 else -1) = decide (x.toInt = y.toInt) := by
  simp only [GT.gt, Int64.lt_iff_toInt_lt, ← Int64.toInt_inj]
  by_cases h1 : y.toInt < x.toInt
  · simp [h1, Op.ifCond.holds, show ¬ x.toInt = y.toInt by omega]
  · by_cases h2 : x.toInt = y.toInt
    · simp [h2, Op.ifCond.holds]
    · simp [h1, h2, Op.ifCond.holds]
theorem own_lc_ne (x y : Int64) : Op.ifCond.holds .ne (if x > y then (1 : Int32) else if x = y then 0 else -1) = decide (x.toInt ≠ y.toInt) := by
  simp only [GT.gt, Int64.lt_iff_toInt_lt, ← Int64.toInt_inj]
  by_cases h1 : y.toInt < x.toInt
  · simp [h1, Op.ifCond.holds, show ¬ x.toInt = y.toInt by omega]
  · by_cases h2 : x.toInt = y.toInt
    · simp [h2, Op.ifCond.holds]
    · simp [h1, h2, Op.ifCond.holds]
end OwnNum4
section OwnNum5
open Jvm.FP.Core Jvm.Free.Fl
/-- no number of 53 digits is nearer than the rounded one -/
theorem own_near {s : Bool} {A B : Nat} {e : Int} {c : Nat} {q : Int} (hB : 0 < B) (hR : roundRatio b64 s A B e = .fin s c q) {c' : Nat} {q' : Int} (hc' : c' < 2 ^ 53) (hq' : -1074 ≤ q') {D : Rat}
    (h1 : (c' : Rat) * 2 ^ q' - (A : Rat) / (B : Rat) * 2 ^ e ≤ D) (h2 : (A : Rat) / (B : Rat) * 2 ^ e - (c' : Rat) * 2 ^ q' ≤ D) :
    (c : Rat) * 2 ^ q - (A : Rat) / (B : Rat) * 2 ^ e ≤ D ∧ (A : Rat) / (B : Rat) * 2 ^ e - (c : Rat) * 2 ^ q ≤ D := by
  have hfit : FP.Core.fits b64 (.fin s c q) := hR ▸ roundRatio_fits good_b64 s A hB e
  have hqm : (-1074 : Int) ≤ q := by have := hfit.2.1; rw [qmin_b64] at this; exact this
  obtain ⟨e0, he0, he1⟩ : ∃ e0 : Int, e0 ≤ -1074 ∧ e0 ≤ e := ⟨min e (-1074), by omega, by omega⟩
  have hd := roundRatio_nearest good_b64 hB hR hc' (by rw [qmin_b64]; exact hq') (e0 := e0) (by rw [qmin_b64]; exact he0) he1
  unfold distance at hd
  have hb := own_nat_pos hB
  have hp := own_p_pos (-e0)
  have cU : ∀ (n : Nat) (j : Int), e0 ≤ j → ((inUnits n j e0 : Nat) : Rat) = (n : Rat) * 2 ^ j * 2 ^ (-e0) := by
    intro n j hj
    unfold inUnits
    rw [Rat.natCast_mul, own_p_toNat (by omega), show j - e0 = j + -e0 by omega, own_p_add, Rat.mul_assoc]
  have uA := cU A e he1
  have uc := cU c q (by omega)
  have uc' := cU c' q' (by omega)
  have hA : (A : Rat) / (B : Rat) * 2 ^ e * (B : Rat) = (A : Rat) * 2 ^ e := by
    rw [Rat.mul_assoc, Rat.mul_comm ((2 : Rat) ^ e), ← Rat.mul_assoc, Rat.div_mul_cancel (own_nat_ne hB)]
  generalize (A : Rat) / (B : Rat) * 2 ^ e = a at *
  generalize hx : ((inUnits A e e0 : Nat) : Int) - ((inUnits c q e0 : Nat) : Int) * (B : Int) = x at hd
  generalize hy : ((inUnits A e e0 : Nat) : Int) - ((inUnits c' q' e0 : Nat) : Int) * (B : Int) = y at hd
  have ex : (x : Rat) = (a - (c : Rat) * 2 ^ q) * ((B : Rat) * 2 ^ (-e0)) := by
    rw [← hx, Rat.intCast_sub, Rat.intCast_mul, Rat.intCast_natCast, Rat.intCast_natCast, Rat.intCast_natCast, uA, uc, ← hA]
    grind
  have ey : (y : Rat) = (a - (c' : Rat) * 2 ^ q') * ((B : Rat) * 2 ^ (-e0)) := by
    rw [← hy, Rat.intCast_sub, Rat.intCast_mul, Rat.intCast_natCast, Rat.intCast_natCast, Rat.intCast_natCast, uA, uc', ← hA]
    grind
  have hK : (0 : Rat) < (B : Rat) * 2 ^ (-e0) := Rat.mul_pos hb hp
  generalize (B : Rat) * 2 ^ (-e0) = K at *
  generalize (c : Rat) * 2 ^ q = u at *
  generalize (c' : Rat) * 2 ^ q' = w at *
  have yD1 : (y : Rat) ≤ D * K := by rw [ey]; exact Rat.mul_le_mul_of_nonneg_right h2 (Rat.le_of_lt hK)
  have yD2 : -(y : Rat) ≤ D * K := by
    rw [ey]
    have := Rat.mul_le_mul_of_nonneg_right h1 (Rat.le_of_lt hK)
    grind
  have k1 : (x ≤ y ∨ x ≤ -y) ∧ (-x ≤ y ∨ -x ≤ -y) := by omega
  have x1 : (x : Rat) ≤ D * K := by
    rcases k1.1 with k | k
    · exact Rat.le_trans (Rat.intCast_le_intCast.mpr k) yD1
    · have := Rat.intCast_le_intCast.mpr k
      rw [Rat.intCast_neg] at this
      exact Rat.le_trans this yD2
  have x2 : -(x : Rat) ≤ D * K := by
    rw [← Rat.intCast_neg]
    rcases k1.2 with k | k
    · exact Rat.le_trans (Rat.intCast_le_intCast.mpr k) yD1
    · have := Rat.intCast_le_intCast.mpr k
      rw [Rat.intCast_neg y] at this
      exact Rat.le_trans this yD2
  rw [ex] at x1 x2
  constructor
  · refine Rat.le_of_mul_le_mul_right ?_ hK
    grind
  · refine Rat.le_of_mul_le_mul_right ?_ hK
    exact x1
theorem own_grid {a : Rat} {k : Int} (h0 : 0 ≤ a) (hk : a ≤ (2 : Rat) ^ k) : ∃ n : Nat, n ≤ 2 ^ 53 ∧ (n : Rat) * 2 ^ (k - 53) - a ≤ 2 ^ (k - 54) ∧ a - (n : Rat) * 2 ^ (k - 53) ≤ 2 ^ (k - 54) := by
  have hu := own_p_pos (k - 53)
  have e1 : (2 : Rat) ^ k = 2 ^ (k - 53) * 9007199254740992 := by
    rw [show (9007199254740992 : Rat) = (2 : Rat) ^ (53 : Int) by decide +kernel, ← own_p_add]; congr 1; omega
  have e2 : (2 : Rat) ^ (k - 53) = 2 ^ (k - 54) * 2 := by
    have := own_p_add (k - 54) 1
    rw [Rat.zpow_one, show k - 54 + 1 = k - 53 by omega] at this
    exact this
  have hv := own_p_pos (k - 54)
  rw [e1] at hk
  generalize (2 : Rat) ^ (k - 54) = g at *
  generalize (2 : Rat) ^ (k - 53) = u at *
  obtain ⟨f, hf⟩ : ∃ f : Int, f = (a / u + 1 / 2).floor := ⟨_, rfl⟩
  have f1 : (f : Rat) ≤ a / u + 1 / 2 := by rw [hf]; exact Rat.floor_le _
  have f2 : a / u + 1 / 2 < ((f + 1 : Int) : Rat) := by rw [hf]; exact Rat.lt_floor_add_one _
  rw [Rat.intCast_add, show ((1 : Int) : Rat) = 1 from rfl] at f2
  have ha : a = a / u * u := (Rat.div_mul_cancel (Rat.ne_of_gt hu)).symm
  have hb1 : a / u ≤ 9007199254740992 := by rw [own_div_le hu]; grind
  have hb0 : 0 ≤ a / u := by rw [own_le_div hu]; grind
  generalize a / u = t at *
  have n0 : 0 ≤ f := by
    refine Int.not_lt.mp fun q => ?_
    have : (f : Rat) ≤ -1 := (show ((f : Int) : Rat) ≤ ((-1 : Int) : Rat) from Rat.intCast_le_intCast.mpr (by omega))
    grind
  have n1 : f ≤ 9007199254740992 := by
    refine Int.not_lt.mp fun q => ?_
    have : (9007199254740993 : Rat) ≤ (f : Rat) := (show ((9007199254740993 : Int) : Rat) ≤ ((f : Int) : Rat) from Rat.intCast_le_intCast.mpr (by omega))
    grind
  refine ⟨f.toNat, by omega, ?_⟩
  have ec : ((f.toNat : Nat) : Rat) = (f : Rat) := by rw [← Rat.intCast_natCast, Int.toNat_of_nonneg n0]
  rw [ec, ha]
  have m1 : ((f : Rat) - t) * u ≤ (1 / 2) * u := Rat.mul_le_mul_of_nonneg_right (by grind) (Rat.le_of_lt hu)
  have m2 : (t - (f : Rat)) * u ≤ (1 / 2) * u := Rat.mul_le_mul_of_nonneg_right (by grind) (Rat.le_of_lt hu)
  constructor <;> grind
theorem own_err0 {s : Bool} {A B : Nat} {e : Int} {c : Nat} {q : Int} (hB : 0 < B) (hR : roundRatio b64 s A B e = .fin s c q) {k : Int} (hk1 : -1000 ≤ k) (hle : (A : Rat) / (B : Rat) * 2 ^ e ≤ 2 ^ k) :
    (c : Rat) * 2 ^ q - (A : Rat) / (B : Rat) * 2 ^ e ≤ 2 ^ (k - 54) ∧ (A : Rat) / (B : Rat) * 2 ^ e - (c : Rat) * 2 ^ q ≤ 2 ^ (k - 54) := by
  obtain ⟨n, hn, h1, h2⟩ := own_grid (own_ratio_nonneg A B e) hle
  rcases Nat.lt_or_eq_of_le hn with hlt | heq
  · exact own_near hB hR (c' := n) (q' := k - 53) hlt (by omega) h1 h2
  · subst heq
    have e3 : ((2 ^ 53 : Nat) : Rat) * 2 ^ (k - 53) = ((2 ^ 52 : Nat) : Rat) * 2 ^ (k - 52) := by
      rw [own_p_nat, own_p_nat, ← own_p_add, ← own_p_add]; congr 1
      show (53 : Int) + (k - 53) = 52 + (k - 52); omega
    rw [e3] at h1 h2
    exact own_near hB hR (c' := 2 ^ 52) (q' := k - 52) (by decide) (by omega) h1 h2
theorem own_p_mono {a b : Int} (h : a ≤ b) : (2 : Rat) ^ a ≤ 2 ^ b := by
  have e : (2 : Rat) ^ b = 2 ^ a * 2 ^ (b - a) := by rw [← own_p_add]; congr 1; omega
  have h1 : (1 : Rat) ≤ 2 ^ (b - a) := by
    rw [← own_p_toNat (by omega)]
    exact (show ((1 : Nat) : Rat) ≤ _ from Rat.natCast_le_natCast.mpr (Nat.one_le_two_pow))
  rw [e]
  have := Rat.mul_le_mul_of_nonneg_left h1 (Rat.le_of_lt (own_p_pos a))
  grind
/-- the error of a rounding, by a bound of what is rounded -/
theorem own_rd_err {x : UInt64} {r : Rat} (h : own_rd x r) {k : Int} (hk1 : -1000 ≤ k) (hk2 : k ≤ 1000) (h1 : r ≤ (2 : Rat) ^ k) (h2 : -((2 : Rat) ^ k) ≤ r) : ∃ v, own_is x v ∧ v - r ≤ 2 ^ (k - 54) ∧ r - v ≤ 2 ^ (k - 54) := by
  have hm := own_p_mono hk2
  obtain ⟨v, hv⟩ := own_rd_fin h (Rat.le_trans h1 hm) (Rat.le_trans (Rat.neg_le_neg hm) h2)
  refine ⟨v, hv, ?_⟩
  obtain ⟨s, A, B, e, hB, hx, hr⟩ := h
  obtain ⟨s', c, q, hx', hv'⟩ := hv
  rcases roundRatio_cases b64 s A B e with ⟨c2, q2, hc⟩ | hc
  · rw [hx, hc] at hx'
    cases hx'
    rw [own_signed_ratio] at hr
    rw [own_signed_pow] at hv'
    have hle : (A : Rat) / (B : Rat) * 2 ^ e ≤ 2 ^ k := by
      cases s
      · rw [if_neg (by decide)] at hr; rw [← hr]; exact h1
      · rw [if_pos rfl] at hr
        have : (A : Rat) / (B : Rat) * 2 ^ e = -r := by rw [hr, Rat.neg_neg]
        rw [this]; grind
    obtain ⟨g1, g2⟩ := own_err0 hB hc hk1 hle
    cases s
    · rw [if_neg (by decide)] at hr hv'; rw [hr, hv']; exact ⟨g1, g2⟩
    · rw [if_pos rfl] at hr hv'; rw [hr, hv']; constructor <;> grind
  · rw [hx, hc] at hx'; cases hx'
/-- a double that is a whole number, as the library says it -/
theorem own_whole {x : UInt64} {i : Int} (h : own_is x (i : Rat)) : DInt i x := by
  obtain ⟨s, c, q, hx, hr⟩ := h
  show Whole i (val64 x)
  rw [hx]
  show signed s (c * 2 ^ q.toNat) = i * ((2 ^ (-q).toNat : Nat) : Int)
  rw [← Rat.intCast_inj, own_signed_cast, Rat.intCast_mul, Rat.intCast_natCast]
  rcases Int.le_total 0 q with h0 | h0
  · rw [own_p_toNat h0, show (-q).toNat = 0 by omega, hr]
    rw [show ((2 ^ 0 : Nat) : Rat) = 1 from rfl, Rat.mul_one]
  · rw [own_p_toNat (a := -q) (by omega), show q.toNat = 0 by omega, hr, show ((2 ^ 0 : Nat) : Rat) = 1 from rfl, Rat.mul_one, Rat.mul_assoc, own_p_neg, Rat.mul_one]
theorem own_isd2l {x : UInt64} {a : Int64} (h : own_is x ((a.toInt : Int) : Rat)) : FP.d2l x = a := d2l_int (own_whole h)
/-- a whole number below 2^63, rounded: a whole number, at most 512 off -/
theorem own_rd_int {x : UInt64} {i : Int} (h : own_rd x (i : Rat)) (h1 : i ≤ 9223372036854775807) (h2 : -9223372036854775807 ≤ i) : ∃ j : Int, own_is x (j : Rat) ∧ j - i ≤ 512 ∧ i - j ≤ 512 := by
  rcases Nat.lt_or_ge i.natAbs (2 ^ 53) with hs | hs
  · exact ⟨i, own_rd_exact h (m := i) (k := 0) (by rw [Rat.zpow_zero, Rat.mul_one]) hs (by decide) (by decide), by omega, by omega⟩
  · have e63 : (2 : Rat) ^ (63 : Int) = 9223372036854775808 := by decide +kernel
    have e9 : (2 : Rat) ^ ((63 : Int) - 54) = 512 := by decide +kernel
    have i1 : ((i : Int) : Rat) ≤ 9223372036854775808 := (show ((i : Int) : Rat) ≤ ((9223372036854775808 : Int) : Rat) from Rat.intCast_le_intCast.mpr (by omega))
    have i2 : (-9223372036854775808 : Rat) ≤ ((i : Int) : Rat) := (show ((-9223372036854775808 : Int) : Rat) ≤ ((i : Int) : Rat) from Rat.intCast_le_intCast.mpr (by omega))
    obtain ⟨v, hv, g1, g2⟩ := own_rd_err h (k := 63) (by decide) (by decide) (by rw [e63]; exact i1) (by rw [e63]; exact i2)
    rw [e9] at g1 g2
    have hv0 := hv
    obtain ⟨s, c, q, hx, hr⟩ := hv0
    have hf := val64_fits x
    rw [hx] at hf
    have hc : c < 2 ^ 53 := hf.1
    obtain ⟨V, hV⟩ := own_rep' (r := 9007199254740992) (m := 1) (k := 53) (by decide +kernel) (by decide) (by decide) (by decide)
    have hq : 0 ≤ q := by
      refine Int.not_lt.mp fun q0 => ?_
      have c1 : (c : Rat) * 2 ^ q < 9007199254740992 := by
        have c2 : ((c : Nat) : Rat) < 9007199254740992 := (show ((c : Nat) : Rat) < ((9007199254740992 : Nat) : Rat) from Rat.natCast_lt_natCast.mpr hc)
        have c3 : (2 : Rat) ^ q ≤ 1 := by
          have := own_p_mono (show q ≤ 0 by omega)
          rw [Rat.zpow_zero] at this; exact this
        have c4 : (0 : Rat) ≤ ((c : Nat) : Rat) := Rat.natCast_nonneg
        have := Rat.mul_le_mul_of_nonneg_left c3 c4
        grind
      have cneg : (0 : Rat) ≤ (c : Rat) * 2 ^ q := Rat.mul_nonneg Rat.natCast_nonneg (Rat.le_of_lt (own_p_pos q))
      rw [own_signed_pow] at hr
      rcases Int.le_total 0 i with hi | hi
      · have : (9007199254740992 : Rat) ≤ ((i : Int) : Rat) := (show ((9007199254740992 : Int) : Rat) ≤ ((i : Int) : Rat) from Rat.intCast_le_intCast.mpr (by omega))
        have := own_rd_ge' h hv hV this
        cases s <;> simp only [Bool.false_eq_true, if_true, if_false] at hr <;> grind
      · have : ((i : Int) : Rat) ≤ -9007199254740992 := (show ((i : Int) : Rat) ≤ ((-9007199254740992 : Int) : Rat) from Rat.intCast_le_intCast.mpr (by omega))
        have := own_rd_le' h hv (own_neg hV) this
        cases s <;> simp only [Bool.false_eq_true, if_true, if_false] at hr <;> grind
    have hj : v = ((signed s (c * 2 ^ q.toNat) : Int) : Rat) := by rw [own_signed_cast, own_p_toNat hq]; exact hr
    refine ⟨signed s (c * 2 ^ q.toNat), hj ▸ hv, ?_, ?_⟩
    · rw [hj, ← Rat.intCast_sub] at g1
      exact Rat.intCast_le_intCast.mp (show _ ≤ ((512 : Int) : Rat) from g1)
    · rw [hj, ← Rat.intCast_sub] at g2
      exact Rat.intCast_le_intCast.mp (show _ ≤ ((512 : Int) : Rat) from g2)
theorem own_rd_small {x : UInt64} {i : Int} (h : own_rd x (i : Rat)) (hs : i.natAbs < 2 ^ 53) : own_is x (i : Rat) :=
  own_rd_exact h (m := i) (k := 0) (by rw [Rat.zpow_zero, Rat.mul_one]) hs (by decide) (by decide)
end OwnNum5
open Jvm Jvm.ClassFile Sem Op Lib Jvm.Free Jvm.Stand Jvm.LawKit Jvm.RoadKit Bundle Jvm.Pilot.@@N@@.Jvm.D
/-! the walk layer: own_Go says that from one frame another one is reached, whatever the heap; one rule an instruction -/
section OwnWalk
open Jvm.Free Jvm.Free.Fl
def own_Ldc (tb : Tables) (e : Env) (below : List Frame) (T : State) (m : MethodId) (c : Code) (i : Nat) (v : Value) : Prop :=
  ∀ (g : JFrame) (target : State), g.method = m →
    ((∃ x, v = .int x) → decode c.code g.pc = .ok (.ldc i, 2) → Steps tb e below (T.setTop { g with pc := g.pc + 2, stack := v :: g.stack }) target → Steps tb e below (T.setTop g) target) ∧
    ((∃ x, v = .int x) → decode c.code g.pc = .ok (.ldc_w i, 3) → Steps tb e below (T.setTop { g with pc := g.pc + 3, stack := v :: g.stack }) target → Steps tb e below (T.setTop g) target) ∧
    (((∃ x, v = .long x) ∨ ∃ x, v = .double x) → decode c.code g.pc = .ok (.ldc2_w i, 3) → Steps tb e below (T.setTop { g with pc := g.pc + 3, stack := v :: g.stack }) target → Steps tb e below (T.setTop g) target)
def own_Go (P : List (Nat × Value)) (b : ByteArray) (pc : Nat) (L : Array Slot) (S : List Value) (pc' : Nat) (L' : Array Slot) (S' : List Value) : Prop :=
  ∀ (tb : Tables) [Ours tb] (e : Env) (below : List Frame) (T target : State) (m : MethodId) (c : Code), At T m c below → tb.exec = Jvm.exec → c.code = b →
    (∀ q ∈ P, own_Ldc tb e below T m c q.1 q.2) → Steps tb e below (T.setTop (mkF m pc' L' S')) target → Steps tb e below (T.setTop (mkF m pc L S)) target
variable {P : List (Nat × Value)} {b : ByteArray} {pc pcE : Nat} {L L' LE : Array Slot} {S SE : List Value}
theorem own_refl : own_Go P b pc L S pc L S := fun tb _ e below T target m c h hx hy hP k => k
theorem own_trans {pcM : Nat} {LM : Array Slot} {SM : List Value} (r1 : own_Go P b pc L S pcM LM SM) (r2 : own_Go P b pcM LM SM pcE LE SE) : own_Go P b pc L S pcE LE SE :=
  fun tb _ e below T target m c h hx hy hP k => r1 tb e below T target m c h hx hy hP (r2 tb e below T target m c h hx hy hP k)
theorem own_at {pc2 : Nat} {L2 : Array Slot} {S2 : List Value} (h1 : pc = pc2) (h2 : L = L2) (h3 : S = S2) (r : own_Go P b pc L S pcE LE SE) : own_Go P b pc2 L2 S2 pcE LE SE := by subst h1 h2 h3; exact r
theorem own_end {pc2 : Nat} {L2 : Array Slot} {S2 : List Value} (h1 : pcE = pc2) (h2 : LE = L2) (h3 : SE = S2) (r : own_Go P b pc L S pcE LE SE) : own_Go P b pc L S pc2 L2 S2 := by subst h1 h2 h3; exact r
theorem own_iload {j : Nat} {v : Int32} {pc2 : Nat} (hd : decode b pc = .ok (.iload j, 2)) (hpc : pc + 2 = pc2) (hl : L[j]? = some (.val (.int v))) (r : own_Go P b pc2 L (.int v :: S) pcE LE SE) : own_Go P b pc L (S) pcE LE SE := by
  intro tb _ e below T target m c h hx hy hP k; subst hpc; exact XS.iload h hx rfl (hb hy hd) hl (r tb e below T target m c h hx hy hP k)
theorem own_iloadN {j : Fin 4} {v : Int32} {pc2 : Nat} (hd : decode b pc = .ok (.iload_n j, 1)) (hpc : pc + 1 = pc2) (hl : L[j.val]? = some (.val (.int v))) (r : own_Go P b pc2 L (.int v :: S) pcE LE SE) : own_Go P b pc L (S) pcE LE SE := by
  intro tb _ e below T target m c h hx hy hP k; subst hpc; exact XS.iloadN h hx rfl (hb hy hd) hl (r tb e below T target m c h hx hy hP k)
theorem own_istore {j : Nat} {v : Int32} {rest : List Value} {pc2 : Nat} (hd : decode b pc = .ok (.istore j, 2)) (hpc : pc + 2 = pc2) (hl : storeLocals L j (.int v) = some L') (r : own_Go P b pc2 L' (rest) pcE LE SE) : own_Go P b pc L (.int v :: rest) pcE LE SE := by
  intro tb _ e below T target m c h hx hy hP k; subst hpc; exact XS.istore h hx rfl (hb hy hd) rfl hl (r tb e below T target m c h hx hy hP k)
theorem own_istoreN {j : Fin 4} {v : Int32} {rest : List Value} {pc2 : Nat} (hd : decode b pc = .ok (.istore_n j, 1)) (hpc : pc + 1 = pc2) (hl : storeLocals L j.val (.int v) = some L') (r : own_Go P b pc2 L' (rest) pcE LE SE) : own_Go P b pc L (.int v :: rest) pcE LE SE := by
  intro tb _ e below T target m c h hx hy hP k; subst hpc; exact XS.istoreN h hx rfl (hb hy hd) rfl hl (r tb e below T target m c h hx hy hP k)
theorem own_lload {j : Nat} {v : Int64} {pc2 : Nat} (hd : decode b pc = .ok (.lload j, 2)) (hpc : pc + 2 = pc2) (hl : L[j]? = some (.val (.long v))) (r : own_Go P b pc2 L (.long v :: S) pcE LE SE) : own_Go P b pc L (S) pcE LE SE := by
  intro tb _ e below T target m c h hx hy hP k; subst hpc; exact XS.lload h hx rfl (hb hy hd) hl (r tb e below T target m c h hx hy hP k)
theorem own_lloadN {j : Fin 4} {v : Int64} {pc2 : Nat} (hd : decode b pc = .ok (.lload_n j, 1)) (hpc : pc + 1 = pc2) (hl : L[j.val]? = some (.val (.long v))) (r : own_Go P b pc2 L (.long v :: S) pcE LE SE) : own_Go P b pc L (S) pcE LE SE := by
  intro tb _ e below T target m c h hx hy hP k; subst hpc; exact XS.lloadN h hx rfl (hb hy hd) hl (r tb e below T target m c h hx hy hP k)
theorem own_lstore {j : Nat} {v : Int64} {rest : List Value} {pc2 : Nat} (hd : decode b pc = .ok (.lstore j, 2)) (hpc : pc + 2 = pc2) (hl : storeLocals L j (.long v) = some L') (r : own_Go P b pc2 L' (rest) pcE LE SE) : own_Go P b pc L (.long v :: rest) pcE LE SE := by
  intro tb _ e below T target m c h hx hy hP k; subst hpc; exact XS.lstore h hx rfl (hb hy hd) rfl hl (r tb e below T target m c h hx hy hP k)
theorem own_lstoreN {j : Fin 4} {v : Int64} {rest : List Value} {pc2 : Nat} (hd : decode b pc = .ok (.lstore_n j, 1)) (hpc : pc + 1 = pc2) (hl : storeLocals L j.val (.long v) = some L') (r : own_Go P b pc2 L' (rest) pcE LE SE) : own_Go P b pc L (.long v :: rest) pcE LE SE := by
  intro tb _ e below T target m c h hx hy hP k; subst hpc; exact XS.lstoreN h hx rfl (hb hy hd) rfl hl (r tb e below T target m c h hx hy hP k)
theorem own_dload {j : Nat} {v : UInt64} {pc2 : Nat} (hd : decode b pc = .ok (.dload j, 2)) (hpc : pc + 2 = pc2) (hl : L[j]? = some (.val (.double v))) (r : own_Go P b pc2 L (.double v :: S) pcE LE SE) : own_Go P b pc L (S) pcE LE SE := by
  intro tb _ e below T target m c h hx hy hP k; subst hpc; exact XS.dload h hx rfl (hb hy hd) hl (r tb e below T target m c h hx hy hP k)
theorem own_dloadN {j : Fin 4} {v : UInt64} {pc2 : Nat} (hd : decode b pc = .ok (.dload_n j, 1)) (hpc : pc + 1 = pc2) (hl : L[j.val]? = some (.val (.double v))) (r : own_Go P b pc2 L (.double v :: S) pcE LE SE) : own_Go P b pc L (S) pcE LE SE := by
  intro tb _ e below T target m c h hx hy hP k; subst hpc; exact XS.dloadN h hx rfl (hb hy hd) hl (r tb e below T target m c h hx hy hP k)
theorem own_dstore {j : Nat} {v : UInt64} {rest : List Value} {pc2 : Nat} (hd : decode b pc = .ok (.dstore j, 2)) (hpc : pc + 2 = pc2) (hl : storeLocals L j (.double v) = some L') (r : own_Go P b pc2 L' (rest) pcE LE SE) : own_Go P b pc L (.double v :: rest) pcE LE SE := by
  intro tb _ e below T target m c h hx hy hP k; subst hpc; exact XS.dstore h hx rfl (hb hy hd) rfl hl (r tb e below T target m c h hx hy hP k)
theorem own_dstoreN {j : Fin 4} {v : UInt64} {rest : List Value} {pc2 : Nat} (hd : decode b pc = .ok (.dstore_n j, 1)) (hpc : pc + 1 = pc2) (hl : storeLocals L j.val (.double v) = some L') (r : own_Go P b pc2 L' (rest) pcE LE SE) : own_Go P b pc L (.double v :: rest) pcE LE SE := by
  intro tb _ e below T target m c h hx hy hP k; subst hpc; exact XS.dstoreN h hx rfl (hb hy hd) rfl hl (r tb e below T target m c h hx hy hP k)
theorem own_aload {j : Nat} {v : Value} {pc2 : Nat} (hd : decode b pc = .ok (.aload j, 2)) (hpc : pc + 2 = pc2) (hl : L[j]? = some (.val v)) (hr : v.isRef = true) (r : own_Go P b pc2 L (v :: S) pcE LE SE) : own_Go P b pc L (S) pcE LE SE := by
  intro tb _ e below T target m c h hx hy hP k; subst hpc; exact XS.aload h hx rfl (hb hy hd) hl hr (r tb e below T target m c h hx hy hP k)
theorem own_aloadN {j : Fin 4} {v : Value} {pc2 : Nat} (hd : decode b pc = .ok (.aload_n j, 1)) (hpc : pc + 1 = pc2) (hl : L[j.val]? = some (.val v)) (hr : v.isRef = true) (r : own_Go P b pc2 L (v :: S) pcE LE SE) : own_Go P b pc L (S) pcE LE SE := by
  intro tb _ e below T target m c h hx hy hP k; subst hpc; exact XS.aloadN h hx rfl (hb hy hd) hl hr (r tb e below T target m c h hx hy hP k)
theorem own_astore {j : Nat} {v : Value} {rest : List Value} {pc2 : Nat} (hd : decode b pc = .ok (.astore j, 2)) (hpc : pc + 2 = pc2) (hr : v.isRef = true) (hl : storeLocals L j v = some L') (r : own_Go P b pc2 L' (rest) pcE LE SE) : own_Go P b pc L (v :: rest) pcE LE SE := by
  intro tb _ e below T target m c h hx hy hP k; subst hpc; exact XS.astore h hx rfl (hb hy hd) rfl hr hl (r tb e below T target m c h hx hy hP k)
theorem own_astoreN {j : Fin 4} {v : Value} {rest : List Value} {pc2 : Nat} (hd : decode b pc = .ok (.astore_n j, 1)) (hpc : pc + 1 = pc2) (hr : v.isRef = true) (hl : storeLocals L j.val v = some L') (r : own_Go P b pc2 L' (rest) pcE LE SE) : own_Go P b pc L (v :: rest) pcE LE SE := by
  intro tb _ e below T target m c h hx hy hP k; subst hpc; exact XS.astoreN h hx rfl (hb hy hd) rfl hr hl (r tb e below T target m c h hx hy hP k)
theorem own_iconst {i : Int} {v : Int32} {pc2 : Nat} (hd : decode b pc = .ok (.iconst i, 1)) (hpc : pc + 1 = pc2) (hv : Int32.ofInt i = v) (r : own_Go P b pc2 L (.int v :: S) pcE LE SE) : own_Go P b pc L (S) pcE LE SE := by
  intro tb _ e below T target m c h hx hy hP k; subst hpc; subst hv; exact XS.iconst h hx rfl (hb hy hd) (r tb e below T target m c h hx hy hP k)
theorem own_bipush {i : Int} {v : Int32} {pc2 : Nat} (hd : decode b pc = .ok (.bipush i, 2)) (hpc : pc + 2 = pc2) (hv : (Int8.ofInt i).toInt32 = v) (r : own_Go P b pc2 L (.int v :: S) pcE LE SE) : own_Go P b pc L (S) pcE LE SE := by
  intro tb _ e below T target m c h hx hy hP k; subst hpc; subst hv; exact XS.bipush h hx rfl (hb hy hd) (r tb e below T target m c h hx hy hP k)
theorem own_sipush {i : Int} {v : Int32} {pc2 : Nat} (hd : decode b pc = .ok (.sipush i, 3)) (hpc : pc + 3 = pc2) (hv : (Int16.ofInt i).toInt32 = v) (r : own_Go P b pc2 L (.int v :: S) pcE LE SE) : own_Go P b pc L (S) pcE LE SE := by
  intro tb _ e below T target m c h hx hy hP k; subst hpc; subst hv; exact XS.sipush h hx rfl (hb hy hd) (r tb e below T target m c h hx hy hP k)
theorem own_lconst {j : Fin 2} {v : Int64} {pc2 : Nat} (hd : decode b pc = .ok (.lconst j, 1)) (hpc : pc + 1 = pc2) (hv : Int64.ofNat j = v) (r : own_Go P b pc2 L (.long v :: S) pcE LE SE) : own_Go P b pc L (S) pcE LE SE := by
  intro tb _ e below T target m c h hx hy hP k; subst hpc; subst hv; exact XS.lconst h hx rfl (hb hy hd) (r tb e below T target m c h hx hy hP k)
theorem own_dconst0  {v : UInt64} {pc2 : Nat} (hd : decode b pc = .ok (.dconst 0, 1)) (hpc : pc + 1 = pc2) (hv : FP.dconst0 = v) (r : own_Go P b pc2 L (.double v :: S) pcE LE SE) : own_Go P b pc L (S) pcE LE SE := by
  intro tb _ e below T target m c h hx hy hP k; subst hpc; subst hv; exact XS.dconst0 h hx rfl (hb hy hd) rfl (r tb e below T target m c h hx hy hP k)
theorem own_dconst1  {v : UInt64} {pc2 : Nat} (hd : decode b pc = .ok (.dconst 1, 1)) (hpc : pc + 1 = pc2) (hv : FP.dconst1 = v) (r : own_Go P b pc2 L (.double v :: S) pcE LE SE) : own_Go P b pc L (S) pcE LE SE := by
  intro tb _ e below T target m c h hx hy hP k; subst hpc; subst hv; exact XS.dconst1 h hx rfl (hb hy hd) rfl (r tb e below T target m c h hx hy hP k)
theorem own_aconstNull  {pc2 : Nat} (hd : decode b pc = .ok (.aconst_null, 1)) (hpc : pc + 1 = pc2) (r : own_Go P b pc2 L (.null :: S) pcE LE SE) : own_Go P b pc L (S) pcE LE SE := by
  intro tb _ e below T target m c h hx hy hP k; subst hpc; exact XS.aconstNull h hx rfl (hb hy hd) (r tb e below T target m c h hx hy hP k)
theorem own_iadd {x y : Int32} {v : Int32} {rest : List Value} {pc2 : Nat} (hd : decode b pc = .ok (.iadd, 1)) (hpc : pc + 1 = pc2) (hv : x + y = v) (r : own_Go P b pc2 L (.int v :: rest) pcE LE SE) : own_Go P b pc L (.int y :: .int x :: rest) pcE LE SE := by
  intro tb _ e below T target m c h hx hy hP k; subst hpc; subst hv; exact XS.iadd h hx rfl (hb hy hd) rfl (r tb e below T target m c h hx hy hP k)
theorem own_isub {x y : Int32} {v : Int32} {rest : List Value} {pc2 : Nat} (hd : decode b pc = .ok (.isub, 1)) (hpc : pc + 1 = pc2) (hv : x - y = v) (r : own_Go P b pc2 L (.int v :: rest) pcE LE SE) : own_Go P b pc L (.int y :: .int x :: rest) pcE LE SE := by
  intro tb _ e below T target m c h hx hy hP k; subst hpc; subst hv; exact XS.isub h hx rfl (hb hy hd) rfl (r tb e below T target m c h hx hy hP k)
theorem own_imul {x y : Int32} {v : Int32} {rest : List Value} {pc2 : Nat} (hd : decode b pc = .ok (.imul, 1)) (hpc : pc + 1 = pc2) (hv : x * y = v) (r : own_Go P b pc2 L (.int v :: rest) pcE LE SE) : own_Go P b pc L (.int y :: .int x :: rest) pcE LE SE := by
  intro tb _ e below T target m c h hx hy hP k; subst hpc; subst hv; exact XS.imul h hx rfl (hb hy hd) rfl (r tb e below T target m c h hx hy hP k)
theorem own_iand {x y : Int32} {v : Int32} {rest : List Value} {pc2 : Nat} (hd : decode b pc = .ok (.iand, 1)) (hpc : pc + 1 = pc2) (hv : x &&& y = v) (r : own_Go P b pc2 L (.int v :: rest) pcE LE SE) : own_Go P b pc L (.int y :: .int x :: rest) pcE LE SE := by
  intro tb _ e below T target m c h hx hy hP k; subst hpc; subst hv; exact XS.iand h hx rfl (hb hy hd) rfl (r tb e below T target m c h hx hy hP k)
theorem own_ior {x y : Int32} {v : Int32} {rest : List Value} {pc2 : Nat} (hd : decode b pc = .ok (.ior, 1)) (hpc : pc + 1 = pc2) (hv : x ||| y = v) (r : own_Go P b pc2 L (.int v :: rest) pcE LE SE) : own_Go P b pc L (.int y :: .int x :: rest) pcE LE SE := by
  intro tb _ e below T target m c h hx hy hP k; subst hpc; subst hv; exact XS.ior h hx rfl (hb hy hd) rfl (r tb e below T target m c h hx hy hP k)
theorem own_ixor {x y : Int32} {v : Int32} {rest : List Value} {pc2 : Nat} (hd : decode b pc = .ok (.ixor, 1)) (hpc : pc + 1 = pc2) (hv : x ^^^ y = v) (r : own_Go P b pc2 L (.int v :: rest) pcE LE SE) : own_Go P b pc L (.int y :: .int x :: rest) pcE LE SE := by
  intro tb _ e below T target m c h hx hy hP k; subst hpc; subst hv; exact XS.ixor h hx rfl (hb hy hd) rfl (r tb e below T target m c h hx hy hP k)
theorem own_ishl {x y : Int32} {v : Int32} {rest : List Value} {pc2 : Nat} (hd : decode b pc = .ok (.ishl, 1)) (hpc : pc + 1 = pc2) (hv : x <<< (y &&& 31) = v) (r : own_Go P b pc2 L (.int v :: rest) pcE LE SE) : own_Go P b pc L (.int y :: .int x :: rest) pcE LE SE := by
  intro tb _ e below T target m c h hx hy hP k; subst hpc; subst hv; exact XS.ishl h hx rfl (hb hy hd) rfl (r tb e below T target m c h hx hy hP k)
theorem own_ishr {x y : Int32} {v : Int32} {rest : List Value} {pc2 : Nat} (hd : decode b pc = .ok (.ishr, 1)) (hpc : pc + 1 = pc2) (hv : x >>> (y &&& 31) = v) (r : own_Go P b pc2 L (.int v :: rest) pcE LE SE) : own_Go P b pc L (.int y :: .int x :: rest) pcE LE SE := by
  intro tb _ e below T target m c h hx hy hP k; subst hpc; subst hv; exact XS.ishr h hx rfl (hb hy hd) rfl (r tb e below T target m c h hx hy hP k)
theorem own_iushr {x y : Int32} {v : Int32} {rest : List Value} {pc2 : Nat} (hd : decode b pc = .ok (.iushr, 1)) (hpc : pc + 1 = pc2) (hv : (x.toUInt32 >>> (y &&& 31).toUInt32).toInt32 = v) (r : own_Go P b pc2 L (.int v :: rest) pcE LE SE) : own_Go P b pc L (.int y :: .int x :: rest) pcE LE SE := by
  intro tb _ e below T target m c h hx hy hP k; subst hpc; subst hv; exact XS.iushr h hx rfl (hb hy hd) rfl (r tb e below T target m c h hx hy hP k)
theorem own_idiv {x y : Int32} {v : Int32} {rest : List Value} {pc2 : Nat} (hd : decode b pc = .ok (.idiv, 1)) (hpc : pc + 1 = pc2) (hn : y ≠ 0) (hv : x / y = v) (r : own_Go P b pc2 L (.int v :: rest) pcE LE SE) : own_Go P b pc L (.int y :: .int x :: rest) pcE LE SE := by
  intro tb _ e below T target m c h hx hy hP k; subst hpc; subst hv; exact XS.idiv h hx rfl (hb hy hd) rfl hn (r tb e below T target m c h hx hy hP k)
theorem own_irem {x y : Int32} {v : Int32} {rest : List Value} {pc2 : Nat} (hd : decode b pc = .ok (.irem, 1)) (hpc : pc + 1 = pc2) (hn : y ≠ 0) (hv : x - (x / y) * y = v) (r : own_Go P b pc2 L (.int v :: rest) pcE LE SE) : own_Go P b pc L (.int y :: .int x :: rest) pcE LE SE := by
  intro tb _ e below T target m c h hx hy hP k; subst hpc; subst hv; exact XS.irem h hx rfl (hb hy hd) rfl hn (r tb e below T target m c h hx hy hP k)
theorem own_ladd {x y : Int64} {v : Int64} {rest : List Value} {pc2 : Nat} (hd : decode b pc = .ok (.ladd, 1)) (hpc : pc + 1 = pc2) (hv : x + y = v) (r : own_Go P b pc2 L (.long v :: rest) pcE LE SE) : own_Go P b pc L (.long y :: .long x :: rest) pcE LE SE := by
  intro tb _ e below T target m c h hx hy hP k; subst hpc; subst hv; exact XS.ladd h hx rfl (hb hy hd) rfl (r tb e below T target m c h hx hy hP k)
theorem own_lsub {x y : Int64} {v : Int64} {rest : List Value} {pc2 : Nat} (hd : decode b pc = .ok (.lsub, 1)) (hpc : pc + 1 = pc2) (hv : x - y = v) (r : own_Go P b pc2 L (.long v :: rest) pcE LE SE) : own_Go P b pc L (.long y :: .long x :: rest) pcE LE SE := by
  intro tb _ e below T target m c h hx hy hP k; subst hpc; subst hv; exact XS.lsub h hx rfl (hb hy hd) rfl (r tb e below T target m c h hx hy hP k)
theorem own_lmul {x y : Int64} {v : Int64} {rest : List Value} {pc2 : Nat} (hd : decode b pc = .ok (.lmul, 1)) (hpc : pc + 1 = pc2) (hv : x * y = v) (r : own_Go P b pc2 L (.long v :: rest) pcE LE SE) : own_Go P b pc L (.long y :: .long x :: rest) pcE LE SE := by
  intro tb _ e below T target m c h hx hy hP k; subst hpc; subst hv; exact XS.lmul h hx rfl (hb hy hd) rfl (r tb e below T target m c h hx hy hP k)
theorem own_land {x y : Int64} {v : Int64} {rest : List Value} {pc2 : Nat} (hd : decode b pc = .ok (.land, 1)) (hpc : pc + 1 = pc2) (hv : x &&& y = v) (r : own_Go P b pc2 L (.long v :: rest) pcE LE SE) : own_Go P b pc L (.long y :: .long x :: rest) pcE LE SE := by
  intro tb _ e below T target m c h hx hy hP k; subst hpc; subst hv; exact XS.land h hx rfl (hb hy hd) rfl (r tb e below T target m c h hx hy hP k)
theorem own_lor {x y : Int64} {v : Int64} {rest : List Value} {pc2 : Nat} (hd : decode b pc = .ok (.lor, 1)) (hpc : pc + 1 = pc2) (hv : x ||| y = v) (r : own_Go P b pc2 L (.long v :: rest) pcE LE SE) : own_Go P b pc L (.long y :: .long x :: rest) pcE LE SE := by
  intro tb _ e below T target m c h hx hy hP k; subst hpc; subst hv; exact XS.lor h hx rfl (hb hy hd) rfl (r tb e below T target m c h hx hy hP k)
theorem own_lxor {x y : Int64} {v : Int64} {rest : List Value} {pc2 : Nat} (hd : decode b pc = .ok (.lxor, 1)) (hpc : pc + 1 = pc2) (hv : x ^^^ y = v) (r : own_Go P b pc2 L (.long v :: rest) pcE LE SE) : own_Go P b pc L (.long y :: .long x :: rest) pcE LE SE := by
  intro tb _ e below T target m c h hx hy hP k; subst hpc; subst hv; exact XS.lxor h hx rfl (hb hy hd) rfl (r tb e below T target m c h hx hy hP k)
theorem own_ldiv {x y : Int64} {v : Int64} {rest : List Value} {pc2 : Nat} (hd : decode b pc = .ok (.ldiv, 1)) (hpc : pc + 1 = pc2) (hn : y ≠ 0) (hv : x / y = v) (r : own_Go P b pc2 L (.long v :: rest) pcE LE SE) : own_Go P b pc L (.long y :: .long x :: rest) pcE LE SE := by
  intro tb _ e below T target m c h hx hy hP k; subst hpc; subst hv; exact XS.ldiv h hx rfl (hb hy hd) rfl hn (r tb e below T target m c h hx hy hP k)
theorem own_lrem {x y : Int64} {v : Int64} {rest : List Value} {pc2 : Nat} (hd : decode b pc = .ok (.lrem, 1)) (hpc : pc + 1 = pc2) (hn : y ≠ 0) (hv : x - (x / y) * y = v) (r : own_Go P b pc2 L (.long v :: rest) pcE LE SE) : own_Go P b pc L (.long y :: .long x :: rest) pcE LE SE := by
  intro tb _ e below T target m c h hx hy hP k; subst hpc; subst hv; exact XS.lrem h hx rfl (hb hy hd) rfl hn (r tb e below T target m c h hx hy hP k)
theorem own_lshl {x : Int64} {y : Int32} {v : Int64} {rest : List Value} {pc2 : Nat} (hd : decode b pc = .ok (.lshl, 1)) (hpc : pc + 1 = pc2) (hv : x <<< (y &&& 0x3f).toInt64 = v) (r : own_Go P b pc2 L (.long v :: rest) pcE LE SE) : own_Go P b pc L (.int y :: .long x :: rest) pcE LE SE := by
  intro tb _ e below T target m c h hx hy hP k; subst hpc; subst hv; exact XS.lshl h hx rfl (hb hy hd) rfl (r tb e below T target m c h hx hy hP k)
theorem own_lshr {x : Int64} {y : Int32} {v : Int64} {rest : List Value} {pc2 : Nat} (hd : decode b pc = .ok (.lshr, 1)) (hpc : pc + 1 = pc2) (hv : x >>> (y &&& 0x3f).toInt64 = v) (r : own_Go P b pc2 L (.long v :: rest) pcE LE SE) : own_Go P b pc L (.int y :: .long x :: rest) pcE LE SE := by
  intro tb _ e below T target m c h hx hy hP k; subst hpc; subst hv; exact XS.lshr h hx rfl (hb hy hd) rfl (r tb e below T target m c h hx hy hP k)
theorem own_lushr {x : Int64} {y : Int32} {v : Int64} {rest : List Value} {pc2 : Nat} (hd : decode b pc = .ok (.lushr, 1)) (hpc : pc + 1 = pc2) (hv : (x.toUInt64 >>> (y &&& 0x3f).toInt64.toUInt64).toInt64 = v) (r : own_Go P b pc2 L (.long v :: rest) pcE LE SE) : own_Go P b pc L (.int y :: .long x :: rest) pcE LE SE := by
  intro tb _ e below T target m c h hx hy hP k; subst hpc; subst hv; exact XS.lushr h hx rfl (hb hy hd) rfl (r tb e below T target m c h hx hy hP k)
theorem own_lcmp {x y : Int64} {v : Int32} {rest : List Value} {pc2 : Nat} (hd : decode b pc = .ok (.lcmp, 1)) (hpc : pc + 1 = pc2) (hv : (if x > y then 1 else if x = y then 0 else -1) = v) (r : own_Go P b pc2 L (.int v :: rest) pcE LE SE) : own_Go P b pc L (.long y :: .long x :: rest) pcE LE SE := by
  intro tb _ e below T target m c h hx hy hP k; subst hpc; subst hv; exact XS.lcmp h hx rfl (hb hy hd) rfl (r tb e below T target m c h hx hy hP k)
theorem own_ineg {x : Int32} {v : Int32} {rest : List Value} {pc2 : Nat} (hd : decode b pc = .ok (.ineg, 1)) (hpc : pc + 1 = pc2) (hv : -x = v) (r : own_Go P b pc2 L (.int v :: rest) pcE LE SE) : own_Go P b pc L (.int x :: rest) pcE LE SE := by
  intro tb _ e below T target m c h hx hy hP k; subst hpc; subst hv; exact XS.ineg h hx rfl (hb hy hd) rfl (r tb e below T target m c h hx hy hP k)
theorem own_lneg {x : Int64} {v : Int64} {rest : List Value} {pc2 : Nat} (hd : decode b pc = .ok (.lneg, 1)) (hpc : pc + 1 = pc2) (hv : -x = v) (r : own_Go P b pc2 L (.long v :: rest) pcE LE SE) : own_Go P b pc L (.long x :: rest) pcE LE SE := by
  intro tb _ e below T target m c h hx hy hP k; subst hpc; subst hv; exact XS.lneg h hx rfl (hb hy hd) rfl (r tb e below T target m c h hx hy hP k)
theorem own_i2l {x : Int32} {v : Int64} {rest : List Value} {pc2 : Nat} (hd : decode b pc = .ok (.i2l, 1)) (hpc : pc + 1 = pc2) (hv : x.toInt64 = v) (r : own_Go P b pc2 L (.long v :: rest) pcE LE SE) : own_Go P b pc L (.int x :: rest) pcE LE SE := by
  intro tb _ e below T target m c h hx hy hP k; subst hpc; subst hv; exact XS.i2l h hx rfl (hb hy hd) rfl (r tb e below T target m c h hx hy hP k)
theorem own_l2i {x : Int64} {v : Int32} {rest : List Value} {pc2 : Nat} (hd : decode b pc = .ok (.l2i, 1)) (hpc : pc + 1 = pc2) (hv : x.toInt32 = v) (r : own_Go P b pc2 L (.int v :: rest) pcE LE SE) : own_Go P b pc L (.long x :: rest) pcE LE SE := by
  intro tb _ e below T target m c h hx hy hP k; subst hpc; subst hv; exact XS.l2i h hx rfl (hb hy hd) rfl (r tb e below T target m c h hx hy hP k)
theorem own_i2b {x : Int32} {v : Int32} {rest : List Value} {pc2 : Nat} (hd : decode b pc = .ok (.i2b, 1)) (hpc : pc + 1 = pc2) (hv : x.toInt8.toInt32 = v) (r : own_Go P b pc2 L (.int v :: rest) pcE LE SE) : own_Go P b pc L (.int x :: rest) pcE LE SE := by
  intro tb _ e below T target m c h hx hy hP k; subst hpc; subst hv; exact XS.i2b h hx rfl (hb hy hd) rfl (r tb e below T target m c h hx hy hP k)
theorem own_i2c {x : Int32} {v : Int32} {rest : List Value} {pc2 : Nat} (hd : decode b pc = .ok (.i2c, 1)) (hpc : pc + 1 = pc2) (hv : x.toUInt32.toUInt16.toUInt32.toInt32 = v) (r : own_Go P b pc2 L (.int v :: rest) pcE LE SE) : own_Go P b pc L (.int x :: rest) pcE LE SE := by
  intro tb _ e below T target m c h hx hy hP k; subst hpc; subst hv; exact XS.i2c h hx rfl (hb hy hd) rfl (r tb e below T target m c h hx hy hP k)
theorem own_i2d {x : Int32} {v : UInt64} {rest : List Value} {pc2 : Nat} (hd : decode b pc = .ok (.i2d, 1)) (hpc : pc + 1 = pc2) (hv : FP.i2d x = v) (r : own_Go P b pc2 L (.double v :: rest) pcE LE SE) : own_Go P b pc L (.int x :: rest) pcE LE SE := by
  intro tb _ e below T target m c h hx hy hP k; subst hpc; subst hv; exact XS.i2dS h hx rfl (hb hy hd) rfl rfl (r tb e below T target m c h hx hy hP k)
theorem own_l2d {x : Int64} {v : UInt64} {rest : List Value} {pc2 : Nat} (hd : decode b pc = .ok (.l2d, 1)) (hpc : pc + 1 = pc2) (hv : FP.l2d x = v) (r : own_Go P b pc2 L (.double v :: rest) pcE LE SE) : own_Go P b pc L (.long x :: rest) pcE LE SE := by
  intro tb _ e below T target m c h hx hy hP k; subst hpc; subst hv; exact XS.l2dS h hx rfl (hb hy hd) rfl rfl (r tb e below T target m c h hx hy hP k)
theorem own_d2i {x : UInt64} {v : Int32} {rest : List Value} {pc2 : Nat} (hd : decode b pc = .ok (.d2i, 1)) (hpc : pc + 1 = pc2) (hv : FP.d2i x = v) (r : own_Go P b pc2 L (.int v :: rest) pcE LE SE) : own_Go P b pc L (.double x :: rest) pcE LE SE := by
  intro tb _ e below T target m c h hx hy hP k; subst hpc; subst hv; exact XS.d2iS h hx rfl (hb hy hd) rfl rfl (r tb e below T target m c h hx hy hP k)
theorem own_d2l {x : UInt64} {v : Int64} {rest : List Value} {pc2 : Nat} (hd : decode b pc = .ok (.d2l, 1)) (hpc : pc + 1 = pc2) (hv : FP.d2l x = v) (r : own_Go P b pc2 L (.long v :: rest) pcE LE SE) : own_Go P b pc L (.double x :: rest) pcE LE SE := by
  intro tb _ e below T target m c h hx hy hP k; subst hpc; subst hv; exact XS.d2lS h hx rfl (hb hy hd) rfl rfl (r tb e below T target m c h hx hy hP k)
theorem own_dneg {x : UInt64} {v : UInt64} {rest : List Value} {pc2 : Nat} (hd : decode b pc = .ok (.dneg, 1)) (hpc : pc + 1 = pc2) (hv : FP.dneg x = v) (r : own_Go P b pc2 L (.double v :: rest) pcE LE SE) : own_Go P b pc L (.double x :: rest) pcE LE SE := by
  intro tb _ e below T target m c h hx hy hP k; subst hpc; subst hv; exact XS.dnegS h hx rfl (hb hy hd) rfl rfl (r tb e below T target m c h hx hy hP k)
theorem own_dcmp {o : CmpOp} {x y : UInt64} {v : Int32} {rest : List Value} {pc2 : Nat} (hd : decode b pc = .ok (.dcmp o, 1)) (hpc : pc + 1 = pc2) (hv : cmpValue (FP.dcmp x y) o = v) (r : own_Go P b pc2 L (.int v :: rest) pcE LE SE) : own_Go P b pc L (.double y :: .double x :: rest) pcE LE SE := by
  intro tb _ e below T target m c h hx hy hP k; subst hpc; subst hv; exact XS.dcmpS h hx rfl (hb hy hd) rfl rfl (r tb e below T target m c h hx hy hP k)
theorem own_dadd {x y : UInt64} {v : UInt64} {rest : List Value} {pc2 : Nat} (hd : decode b pc = .ok (.dadd, 1)) (hpc : pc + 1 = pc2) (hn : NoNaN64 (FP.dadd x y)) (hv : FP.dadd x y = v) (r : own_Go P b pc2 L (.double v :: rest) pcE LE SE) : own_Go P b pc L (.double y :: .double x :: rest) pcE LE SE := by
  intro tb _ e below T target m c h hx hy hP k; subst hpc; subst hv; exact XS.daddS h hx rfl (hb hy hd) rfl hn rfl (r tb e below T target m c h hx hy hP k)
theorem own_dsub {x y : UInt64} {v : UInt64} {rest : List Value} {pc2 : Nat} (hd : decode b pc = .ok (.dsub, 1)) (hpc : pc + 1 = pc2) (hn : NoNaN64 (FP.dsub x y)) (hv : FP.dsub x y = v) (r : own_Go P b pc2 L (.double v :: rest) pcE LE SE) : own_Go P b pc L (.double y :: .double x :: rest) pcE LE SE := by
  intro tb _ e below T target m c h hx hy hP k; subst hpc; subst hv; exact XS.dsubS h hx rfl (hb hy hd) rfl hn rfl (r tb e below T target m c h hx hy hP k)
theorem own_dmul {x y : UInt64} {v : UInt64} {rest : List Value} {pc2 : Nat} (hd : decode b pc = .ok (.dmul, 1)) (hpc : pc + 1 = pc2) (hn : NoNaN64 (FP.dmul x y)) (hv : FP.dmul x y = v) (r : own_Go P b pc2 L (.double v :: rest) pcE LE SE) : own_Go P b pc L (.double y :: .double x :: rest) pcE LE SE := by
  intro tb _ e below T target m c h hx hy hP k; subst hpc; subst hv; exact XS.dmulS h hx rfl (hb hy hd) rfl hn rfl (r tb e below T target m c h hx hy hP k)
theorem own_ddiv {x y : UInt64} {v : UInt64} {rest : List Value} {pc2 : Nat} (hd : decode b pc = .ok (.ddiv, 1)) (hpc : pc + 1 = pc2) (hn : NoNaN64 (FP.ddiv x y)) (hv : FP.ddiv x y = v) (r : own_Go P b pc2 L (.double v :: rest) pcE LE SE) : own_Go P b pc L (.double y :: .double x :: rest) pcE LE SE := by
  intro tb _ e below T target m c h hx hy hP k; subst hpc; subst hv; exact XS.ddivS h hx rfl (hb hy hd) rfl hn rfl (r tb e below T target m c h hx hy hP k)
theorem own_dup {v : Value} {rest : List Value} {pc2 : Nat} (hd : decode b pc = .ok (.dup, 1)) (hpc : pc + 1 = pc2) (hc : v.category = 1) (r : own_Go P b pc2 L (v :: v :: rest) pcE LE SE) : own_Go P b pc L (v :: rest) pcE LE SE := by
  intro tb _ e below T target m c h hx hy hP k; subst hpc; exact XS.dup h hx rfl (hb hy hd) rfl hc (r tb e below T target m c h hx hy hP k)
theorem own_pop {v : Value} {rest : List Value} {pc2 : Nat} (hd : decode b pc = .ok (.pop, 1)) (hpc : pc + 1 = pc2) (hc : v.category = 1) (r : own_Go P b pc2 L (rest) pcE LE SE) : own_Go P b pc L (v :: rest) pcE LE SE := by
  intro tb _ e below T target m c h hx hy hP k; subst hpc; exact XS.pop h hx rfl (hb hy hd) rfl hc (r tb e below T target m c h hx hy hP k)
theorem own_dupX1 {v w : Value} {rest : List Value} {pc2 : Nat} (hd : decode b pc = .ok (.dup_x1, 1)) (hpc : pc + 1 = pc2) (hc : v.category = 1) (hc' : w.category = 1) (r : own_Go P b pc2 L (v :: w :: v :: rest) pcE LE SE) : own_Go P b pc L (v :: w :: rest) pcE LE SE := by
  intro tb _ e below T target m c h hx hy hP k; subst hpc; exact XS.dupX1 h hx rfl (hb hy hd) rfl hc hc' (r tb e below T target m c h hx hy hP k)
theorem own_dup2 {v w : Value} {rest : List Value} {pc2 : Nat} (hd : decode b pc = .ok (.dup2, 1)) (hpc : pc + 1 = pc2) (hc : v.category = 1) (hc' : w.category = 1) (r : own_Go P b pc2 L (v :: w :: v :: w :: rest) pcE LE SE) : own_Go P b pc L (v :: w :: rest) pcE LE SE := by
  intro tb _ e below T target m c h hx hy hP k; subst hpc; exact XT.dup2 h hx rfl (hb hy hd) rfl hc hc' (r tb e below T target m c h hx hy hP k)
theorem own_ifYes {cd : ClassFile.Cond} {x : Int32} {o : Int} {pc' : Nat} {rest : List Value} (hd : decode b pc = .ok (.ifCond cd o, 3)) (hc : ifCond.holds cd x = true) (ho : 0 ≤ (pc : Int) + o) (hp : ((pc : Int) + o).toNat = pc') (r : own_Go P b pc' L rest pcE LE SE) : own_Go P b pc L (.int x :: rest) pcE LE SE := by
  intro tb _ e below T target m c h hx hy hP k; exact XS.ifYes h hx rfl rfl (hb hy hd) rfl hc ho hp (r tb e below T target m c h hx hy hP k)
theorem own_ifNo {cd : ClassFile.Cond} {x : Int32} {o : Int} {rest : List Value} {pc2 : Nat} (hd : decode b pc = .ok (.ifCond cd o, 3)) (hpc : pc + 3 = pc2) (hc : ifCond.holds cd x = false) (r : own_Go P b pc2 L rest pcE LE SE) : own_Go P b pc L (.int x :: rest) pcE LE SE := by
  intro tb _ e below T target m c h hx hy hP k; subst hpc; exact XS.ifNo h hx rfl (hb hy hd) rfl hc (r tb e below T target m c h hx hy hP k)
theorem own_icmpYes {cd : ClassFile.Cond} {x y : Int32} {o : Int} {pc' : Nat} {rest : List Value} (hd : decode b pc = .ok (.if_icmp cd o, 3)) (hc : if_icmp.holds cd x y = true) (ho : 0 ≤ (pc : Int) + o) (hp : ((pc : Int) + o).toNat = pc') (r : own_Go P b pc' L rest pcE LE SE) : own_Go P b pc L (.int y :: .int x :: rest) pcE LE SE := by
  intro tb _ e below T target m c h hx hy hP k; exact XS.icmpYes h hx rfl rfl (hb hy hd) rfl hc ho hp (r tb e below T target m c h hx hy hP k)
theorem own_icmpNo {cd : ClassFile.Cond} {x y : Int32} {o : Int} {rest : List Value} {pc2 : Nat} (hd : decode b pc = .ok (.if_icmp cd o, 3)) (hpc : pc + 3 = pc2) (hc : if_icmp.holds cd x y = false) (r : own_Go P b pc2 L rest pcE LE SE) : own_Go P b pc L (.int y :: .int x :: rest) pcE LE SE := by
  intro tb _ e below T target m c h hx hy hP k; subst hpc; exact XS.icmpNo h hx rfl (hb hy hd) rfl hc (r tb e below T target m c h hx hy hP k)
theorem own_ifnullYes {o : Int} {pc' : Nat} {rest : List Value} (hd : decode b pc = .ok (.ifnull o, 3)) (ho : 0 ≤ (pc : Int) + o) (hp : ((pc : Int) + o).toNat = pc') (r : own_Go P b pc' L rest pcE LE SE) : own_Go P b pc L (.null :: rest) pcE LE SE := by
  intro tb _ e below T target m c h hx hy hP k; exact XS.ifnullYes h hx rfl rfl (hb hy hd) rfl ho hp (r tb e below T target m c h hx hy hP k)
theorem own_ifnullNo {o : Int} {a : Addr} {rest : List Value} {pc2 : Nat} (hd : decode b pc = .ok (.ifnull o, 3)) (hpc : pc + 3 = pc2) (r : own_Go P b pc2 L rest pcE LE SE) : own_Go P b pc L (.ref a :: rest) pcE LE SE := by
  intro tb _ e below T target m c h hx hy hP k; subst hpc; exact XS.ifnullNo h hx rfl (hb hy hd) rfl (r tb e below T target m c h hx hy hP k)
theorem own_ifnonnullYes {o : Int} {pc' : Nat} {a : Addr} {rest : List Value} (hd : decode b pc = .ok (.ifnonnull o, 3)) (ho : 0 ≤ (pc : Int) + o) (hp : ((pc : Int) + o).toNat = pc') (r : own_Go P b pc' L rest pcE LE SE) : own_Go P b pc L (.ref a :: rest) pcE LE SE := by
  intro tb _ e below T target m c h hx hy hP k; exact XS.ifnonnullYes h hx rfl rfl (hb hy hd) rfl ho hp (r tb e below T target m c h hx hy hP k)
theorem own_ifnonnullNo {o : Int} {rest : List Value} {pc2 : Nat} (hd : decode b pc = .ok (.ifnonnull o, 3)) (hpc : pc + 3 = pc2) (r : own_Go P b pc2 L rest pcE LE SE) : own_Go P b pc L (.null :: rest) pcE LE SE := by
  intro tb _ e below T target m c h hx hy hP k; subst hpc; exact XS.ifnonnullNo h hx rfl (hb hy hd) rfl (r tb e below T target m c h hx hy hP k)
theorem own_acmpYes {cd : ClassFile.ACond} {x y : Addr} {o : Int} {pc' : Nat} {rest : List Value} (hd : decode b pc = .ok (.if_acmp cd o, 3)) (hc : if_acmp.holds cd (some x) (some y) = true) (ho : 0 ≤ (pc : Int) + o) (hp : ((pc : Int) + o).toNat = pc') (r : own_Go P b pc' L rest pcE LE SE) : own_Go P b pc L (.ref y :: .ref x :: rest) pcE LE SE := by
  intro tb _ e below T target m c h hx hy hP k; exact XS.acmpYes h hx rfl rfl (hb hy hd) rfl hc ho hp (r tb e below T target m c h hx hy hP k)
theorem own_acmpNo {cd : ClassFile.ACond} {x y : Addr} {o : Int} {rest : List Value} {pc2 : Nat} (hd : decode b pc = .ok (.if_acmp cd o, 3)) (hpc : pc + 3 = pc2) (hc : if_acmp.holds cd (some x) (some y) = false) (r : own_Go P b pc2 L rest pcE LE SE) : own_Go P b pc L (.ref y :: .ref x :: rest) pcE LE SE := by
  intro tb _ e below T target m c h hx hy hP k; subst hpc; exact XS.acmpNo h hx rfl (hb hy hd) rfl hc (r tb e below T target m c h hx hy hP k)
theorem own_goto {o : Int} {pc' : Nat} (hd : decode b pc = .ok (.goto o, 3)) (ho : 0 ≤ (pc : Int) + o) (hp : ((pc : Int) + o).toNat = pc') (r : own_Go P b pc' L S pcE LE SE) : own_Go P b pc L S pcE LE SE := by
  intro tb _ e below T target m c h hx hy hP k; exact XS.goto h hx rfl rfl (hb hy hd) ho hp (r tb e below T target m c h hx hy hP k)
theorem own_iinc {j : Nat} {cst : Int} {x v : Int32} {pc2 : Nat} (hd : decode b pc = .ok (.iinc j cst, 3)) (hpc : pc + 3 = pc2) (hl : L[j]? = some (.val (.int x))) (hv : x + Int32.ofInt cst = v) (hl' : storeLocals L j (.int v) = some L') (r : own_Go P b pc2 L' S pcE LE SE) : own_Go P b pc L S pcE LE SE := by
  intro tb _ e below T target m c h hx hy hP k; subst hpc; subst hv; exact XS.iinc h hx rfl (hb hy hd) hl hl' (r tb e below T target m c h hx hy hP k)
theorem own_ldc {i : Nat} {v : Int32} {pc2 : Nat} (hd : decode b pc = .ok (.ldc i, 2)) (hpc : pc + 2 = pc2) (hk : (i, Value.int v) ∈ P) (r : own_Go P b pc2 L (.int v :: S) pcE LE SE) : own_Go P b pc L S pcE LE SE := by
  intro tb _ e below T target m c h hx hy hP k; subst hpc; exact (hP _ hk (mkF m pc L S) target rfl).1 ⟨_, rfl⟩ (hb hy hd) (r tb e below T target m c h hx hy hP k)
theorem own_ldcW {i : Nat} {v : Int32} {pc2 : Nat} (hd : decode b pc = .ok (.ldc_w i, 3)) (hpc : pc + 3 = pc2) (hk : (i, Value.int v) ∈ P) (r : own_Go P b pc2 L (.int v :: S) pcE LE SE) : own_Go P b pc L S pcE LE SE := by
  intro tb _ e below T target m c h hx hy hP k; subst hpc; exact (hP _ hk (mkF m pc L S) target rfl).2.1 ⟨_, rfl⟩ (hb hy hd) (r tb e below T target m c h hx hy hP k)
theorem own_ldc2L {i : Nat} {v : Int64} {pc2 : Nat} (hd : decode b pc = .ok (.ldc2_w i, 3)) (hpc : pc + 3 = pc2) (hk : (i, Value.long v) ∈ P) (r : own_Go P b pc2 L (.long v :: S) pcE LE SE) : own_Go P b pc L S pcE LE SE := by
  intro tb _ e below T target m c h hx hy hP k; subst hpc; exact (hP _ hk (mkF m pc L S) target rfl).2.2 (Or.inl ⟨_, rfl⟩) (hb hy hd) (r tb e below T target m c h hx hy hP k)
theorem own_ldc2D {i : Nat} {v : UInt64} {pc2 : Nat} (hd : decode b pc = .ok (.ldc2_w i, 3)) (hpc : pc + 3 = pc2) (hk : (i, Value.double v) ∈ P) (r : own_Go P b pc2 L (.double v :: S) pcE LE SE) : own_Go P b pc L S pcE LE SE := by
  intro tb _ e below T target m c h hx hy hP k; subst hpc; exact (hP _ hk (mkF m pc L S) target rfl).2.2 (Or.inr ⟨_, rfl⟩) (hb hy hd) (r tb e below T target m c h hx hy hP k)
end OwnWalk
section OwnPool
open Jvm.Free Jvm.Stand
variable {p : Program} {l : Launch} {e : Env} {R : Room} {s : State} {m : MethodId} {args : Array Value} {below : List Frame} {meth : Method} {c : Code} {T : State} {locs : List Loc} {cells slots : Nat} {Z : State} {a0 : Array Value}
def own_Word (own : String) (i : Nat) : Value → Jvm.Cond → Prop
  | .int v, w => w = .constant own i v
  | .long v, w => w = .constantLong own i v
  | .double v, w => w = .constantDouble own i v
  | _, _ => False
theorem own_pool1 (X : Stand p l e R s m args below meth c T locs cells slots) (hx : p.tables.exec = Jvm.exec) (hZ : Z.Warmed39 s.vm) {own : String} (hown : s.vm.findClass own = some m.cls) {i : Nat} {v : Value} {w : Jvm.Cond} (hv : own_Word own i v w) (hw : w.before a0 Z = true) : own_Ldc p.tables e below T m c i v := by
  intro g target hg
  cases v with
  | int v =>
    cases (show w = .constant own i v from hv)
    exact ⟨fun _ hd k => X.ldcInt hx hown (mvT hZ hw) hg hd target k, fun _ hd k => X.ldcwInt hx hown (mvT hZ hw) hg hd target k, fun h => (by rcases h with ⟨_, h⟩ | ⟨_, h⟩ <;> cases h)⟩
  | long v =>
    cases (show w = .constantLong own i v from hv)
    exact ⟨fun h => (by obtain ⟨_, h⟩ := h; cases h), fun h => (by obtain ⟨_, h⟩ := h; cases h), fun _ hd k => X.ldc2Long hx hown (mvT hZ hw) hg hd target k⟩
  | double v =>
    cases (show w = .constantDouble own i v from hv)
    exact ⟨fun h => (by obtain ⟨_, h⟩ := h; cases h), fun h => (by obtain ⟨_, h⟩ := h; cases h), fun _ hd k => X.ldc2DoubleC hx hown (mvT hZ hw) hg hd target k⟩
  | _ => exact absurd hv (fun h => h)
theorem own_pool (X : Stand p l e R s m args below meth c T locs cells slots) (hx : p.tables.exec = Jvm.exec) (hZ : Z.Warmed39 s.vm) {own : String} (hown : s.vm.findClass own = some m.cls) {ws : List Jvm.Cond} (hw : ∀ d ∈ ws, d.before a0 Z = true) {P : List (Nat × Value)} (hP : ∀ q ∈ P, ∃ w ∈ ws, own_Word own q.1 q.2 w) : ∀ q ∈ P, own_Ldc p.tables e below T m c q.1 q.2 := by
  intro q hq
  obtain ⟨w, h1, h2⟩ := hP q hq
  exact own_pool1 X hx hZ hown h2 (hw w h1)
end OwnPool
/-! the call layer: a method that leaves the heap as it was, and its call -/
section OwnCall
open Jvm.Free Jvm.Stand Jvm.LawKit Jvm.RoadKit
variable {p : Program} {l : Launch} {e : Env} {R : Room} {s : State} {m : MethodId} {args : Array Value} {below : List Frame} {meth : Method} {c : Code} {T : State} {locs : List Loc} {cells slots : Nat} {Z : State} {a0 : Array Value} {h : Heap}
abbrev own_room (fr lo : Nat) : Room := { frames := fr, cells := 0, slots := 0, locals := lo }
def own_Pure (l : Launch) (Z : State) (y : MethodName) (bytes : ByteArray) (maxL : Nat) (ret : Option FieldType) (fr lo : Nat) (as' : Array Value) (h : Heap) (v : Option Value) : Prop :=
  MetFree l y (head1 [Jvm.Cond.code y bytes maxL ret] (own_room fr lo)) (fun a U => a = as' ∧ Z.Warmed39 U.vm ∧ U.heap = h) (fun _ _ _ _ _ => True) (fun _ U o U' => ∃ w L, o = .returned w ∧ (w = v ∧ L = [] ∧ U'.heap = h) ∧ FrameEnd U o U' L (own_room fr lo).cells (own_room fr lo).slots)
def own_Ret (i : Instr) (t : FieldType) (w : Value) : Prop := narrow t w = w ∧ ((i = .ireturn ∧ (t = .int ∨ t = .boolean ∨ t = .byte ∨ t = .char ∨ t = .short) ∧ ∃ z, w = .int z) ∨ (i = .lreturn ∧ t = .long ∧ ∃ z, w = .long z) ∨ (i = .dreturn ∧ t = .double ∧ ∃ z, w = .double z) ∨ (i = .freturn ∧ t = .float ∧ ∃ z, w = .float z) ∨ (i = .areturn ∧ t.isReference = true ∧ w.isRef = true))
theorem own_retD (x : UInt64) : own_Ret .dreturn .double (.double x) := ⟨rfl, Or.inr (Or.inr (Or.inl ⟨rfl, rfl, x, rfl⟩))⟩
theorem own_retI (x : Int32) : own_Ret .ireturn .int (.int x) := ⟨rfl, Or.inl ⟨rfl, Or.inl rfl, x, rfl⟩⟩
theorem own_retJ (x : Int64) : own_Ret .lreturn .long (.long x) := ⟨rfl, Or.inr (Or.inl ⟨rfl, rfl, x, rfl⟩)⟩
theorem own_retZ {x : Int32} (hx : x = 0 ∨ x = 1) : own_Ret .ireturn .boolean (.int x) := ⟨by rcases hx with rfl | rfl <;> rfl, Or.inl ⟨rfl, Or.inr (Or.inl rfl), x, rfl⟩⟩
theorem own_pure_go {y : MethodName} {bytes : ByteArray} {maxL : Nat} {t : FieldType} {as' : Array Value} {P : List (Nat × Value)} {L0 LR : Array Slot} {SR : List Value} {pcR : Nat} {val : Value} {i : Instr} {ws : List Jvm.Cond} (hpl : plainName y.cls = true) (hw : ∀ d ∈ ws, d.before a0 Z = true) (hP : ∀ q ∈ P, ∃ w ∈ ws, own_Word y.cls q.1 q.2 w)
    (hef : ∀ m, entryFrame m as' maxL = mkF m 0 L0 []) (body : own_Go P bytes 0 L0 [] pcR LR (val :: SR)) (hd : decode bytes pcR = .ok (i, 1)) (hr : own_Ret i t val) : own_Pure l Z y bytes maxL (some t) 0 0 as' h (some val) := by
  refine MetFree.of_bodySF (plainFor_of_name hpl) hisR ?_
  intro p e s m args below meth c s₁ Bd hml0 hPP hK
  obtain ⟨rfl, hZ, hh⟩ := hPP
  have hx := Bd.exec
  have hby := Bd.bytes
  have hown : s.vm.findClass y.cls = some m.cls := findClass_of_methodNamed Bd.named
  have X0 : Stand p l e (own_room 0 0) s m _ below meth c s₁ [] 0 0 := Stand.of_body Bd
  have e0 : s₁.heap = h := by rw [← hh, Bd.state]; rfl
  obtain ⟨fs, hr', hrun, hended, hW, hsame⟩ := X0.leave (v := some val) (fun h => by rw [Bd.returns] at h; cases h)
  refine ⟨_, _, castTop (hef m) (body p.tables e below s₁ _ m c X0.here hx hby (own_pool X0 hx hZ hown hw hP) (retOut X0 hx Bd.returns hr.1 hr.2 (hb hby hd) hr')), hrun, hended, _, _, rfl, ⟨rfl, rfl, ?_⟩, ⟨_, rfl⟩, hW, hsame⟩
  exact e0
theorem own_callP (X : Stand p l e R s m args below meth c T locs cells slots) (hx : p.tables.exec = Jvm.exec) (hZ : Z.Warmed39 s.vm) {own : String} {index : Nat} {y : MethodName} {bytes : ByteArray} {maxL : Nat} {ret : Option FieldType} (hown : s.vm.findClass own = some m.cls)
    (w1 : (Jvm.Cond.methodLink own index y).before a0 Z = true) (w2 : (Jvm.Cond.static y).before a0 Z = true) (w3 : (Jvm.Cond.initialized y.cls).before a0 Z = true) (w4 : (Jvm.Cond.code y bytes maxL ret).before a0 Z = true) (hy : y.cls ≠ "java/lang/invoke/MethodHandle" ∧ y.cls ≠ "java/lang/invoke/VarHandle")
    (eT : T.heap = h) {fr lo W : Nat} {argsL rest : List Value} {v : Option Value} (hM : own_Pure l Z y bytes maxL ret fr lo argsL.toArray h v) (hf : fr + 1 ≤ R.frames) (hl : W + (maxL + 11) + lo ≤ R.locals) (hc : cells ≤ R.cells) (hs : slots ≤ R.slots)
    {g : JFrame} (hg : g.method = m) (hsize : g.locals.size = c.maxLocals) (hlen : ∀ sig, parseMethodDescriptor y.desc = some sig → argsL.length = sig.parameters.length) (hst : g.stack = argsL.reverse ++ rest) (hW : 2 * g.monitorRoom + (rest.map fun v => v.category).sum ≤ W) (hd : decode c.code g.pc = .ok (.invokestatic index, 3)) :
    ∃ T', Stand p l e R s m args below meth c T' locs cells slots ∧ T'.heap = h ∧ ∀ target, Steps p.tables e below (T'.setTop { g with pc := g.pc + 3, stack := v.toList ++ rest }) target → Steps p.tables e below (T.setTop g) target := by
  obtain ⟨v', vm1, ⟨T2, L2, k2, n2⟩, -, X2, ⟨Lc, hQ, l2, y2, z2⟩, st⟩ := Jvm.LawKit.callS X hx hown (mvT hZ w1) (mvT hZ w2) (mvT hZ w3) (mvT hZ w4) hy (backOf (W := W) (rm := own_room fr lo) (Q := fun w H L => w = v ∧ L = [] ∧ H = h) hM hZ w4 w3 hf hl) hg hsize hlen hst hW hd (fun _ _ => ⟨rfl, eT, hc, hs⟩)
  dsimp only [Pt.U, Pt.locs, Pt.cells, Pt.slots] at X2 l2 y2 z2 st hQ
  obtain ⟨rfl, rfl, e2⟩ := hQ
  subst l2 y2 z2
  rw [List.append_nil] at X2
  exact ⟨T2, X2, e2, st⟩
end OwnCall
section OwnClaim
open Jvm.Free.Fl
theorem d1_0 : decode prog_46_method_2_code 0 = .ok (.dload 4, 2) := by decide +kernel
theorem d1_2 : decode prog_46_method_2_code 2 = .ok (.dload_n 0, 1) := by decide +kernel
theorem d1_3 : decode prog_46_method_2_code 3 = .ok (.dsub, 1) := by decide +kernel
theorem d1_4 : decode prog_46_method_2_code 4 = .ok (.dstore 6, 2) := by decide +kernel
theorem d1_6 : decode prog_46_method_2_code 6 = .ok (.dload 4, 2) := by decide +kernel
theorem d1_8 : decode prog_46_method_2_code 8 = .ok (.dload 6, 2) := by decide +kernel
theorem d1_10 : decode prog_46_method_2_code 10 = .ok (.dsub, 1) := by decide +kernel
theorem d1_11 : decode prog_46_method_2_code 11 = .ok (.dstore 8, 2) := by decide +kernel
theorem d1_13 : decode prog_46_method_2_code 13 = .ok (.dload_n 0, 1) := by decide +kernel
theorem d1_14 : decode prog_46_method_2_code 14 = .ok (.dload 8, 2) := by decide +kernel
theorem d1_16 : decode prog_46_method_2_code 16 = .ok (.dsub, 1) := by decide +kernel
theorem d1_17 : decode prog_46_method_2_code 17 = .ok (.dload_n 2, 1) := by decide +kernel
theorem d1_18 : decode prog_46_method_2_code 18 = .ok (.dload 6, 2) := by decide +kernel
theorem d1_20 : decode prog_46_method_2_code 20 = .ok (.dsub, 1) := by decide +kernel
theorem d1_21 : decode prog_46_method_2_code 21 = .ok (.dadd, 1) := by decide +kernel
theorem d1_22 : decode prog_46_method_2_code 22 = .ok (.dreturn, 1) := by decide +kernel
def own_K0 : List (Nat × Value) := []
theorem own_K0_ok : ∀ q ∈ own_K0, ∃ w ∈ tables_1, own_Word "com/example/recourse/recourse/network/DoubleDoubleErrorPinLaw" q.1 q.2 w := by
  intro q hq
  exact absurd hq (List.not_mem_nil)
def own_K1 : List (Nat × Value) := []
theorem own_K1_ok : ∀ q ∈ own_K1, ∃ w ∈ tables_1, own_Word "com/example/recourse/recourse/network/DoubleDouble" q.1 q.2 w := by
  intro q hq
  exact absurd hq (List.not_mem_nil)
theorem own_pn0 : plainName "com/example/recourse/recourse/network/DoubleDoubleErrorPinLaw" = true := by first | (simp [plainName, overriddenIn]; done) | decide +kernel
theorem own_pn1 : plainName "com/example/recourse/recourse/network/DoubleDouble" = true := by first | (simp [plainName, overriddenIn]; done) | decide +kernel
theorem own_pd1 : parseMethodDescriptor "(DDD)D" = some ⟨[.double, .double, .double], some .double⟩ := by decide +kernel
theorem own_ef0 (m : MethodId) (x0 : Int32) (x1 : Int32) (x2 : Int64) (x3 : Int32) : entryFrame m #[(.int x0), (.int x1), (.long x2), (.int x3)] maxLocals = mkF m 0 #[.val (.int x0), .val (.int x1), .val (.long x2), .second, .val (.int x3), .unset, .unset, .unset, .unset, .unset, .unset, .unset, .unset, .unset, .unset, .unset, .unset, .unset, .unset, .unset, .unset, .unset, .unset, .unset, .unset] [] := by first | (simp [entryFrame, mkF, argsToLocals, Value.category, maxLocals]; done) | rfl
theorem own_ef1 (m : MethodId) (x0 : UInt64) (x1 : UInt64) (x2 : UInt64) : entryFrame m #[(.double x0), (.double x1), (.double x2)] 10 = mkF m 0 #[.val (.double x0), .second, .val (.double x1), .second, .val (.double x2), .second, .unset, .unset, .unset, .unset] [] := by first | (simp [entryFrame, mkF, argsToLocals, Value.category]; done) | rfl
theorem own_s0 (xp : Int32) (xs : Int32) (xr : Int64) (fl : Int32) (v1 : Int64) (hv1 : xp.toInt64 = v1) (v5 : Int32) (hv5 : (xs &&& (31 : Int32)) = v5) (v6 : Int64) (hv6 : (v1 <<< (v5 &&& 0x3f).toInt64) = v6) (v12 : Int64) (hv12 : (xr <<< ((11 : Int32) &&& 0x3f).toInt64) = v12) (v15 : Int64) (hv15 : (v12 >>> ((11 : Int32) &&& 0x3f).toInt64) = v15) (v20 : UInt64) (hv20 : (FP.l2d v6) = v20) (v25 : UInt64) (hv25 : (FP.l2d v15) = v25) (v39 : Int32) (hv39 : (fl &&& (1 : Int32)) = v39) (j51_13 : UInt64) (hj51_13 : (bif ifCond.holds .eq v39 then v20 else v25) = j51_13) (j51_15 : UInt64) (hj51_15 : (bif ifCond.holds .eq v39 then v25 else v20) = j51_15) :
    own_Go own_K0 code 0 #[.val (.int xp), .val (.int xs), .val (.long xr), .second, .val (.int fl), .unset, .unset, .unset, .unset, .unset, .unset, .unset, .unset, .unset, .unset, .unset, .unset, .unset, .unset, .unset, .unset, .unset, .unset, .unset, .unset] [] 51 #[.val (.int xp), .val (.int xs), .val (.long xr), .second, .val (.int fl), .val (.long v6), .second, .val (.long v15), .second, .val (.double v20), .second, .val (.double v25), .second, .val (.double j51_13), .second, .val (.double j51_15), .second, .unset, .unset, .unset, .unset, .unset, .unset, .unset, .unset] [] := by
  subst hj51_13 hj51_15
  refine own_iloadN (pc2 := 1) at_0 rfl rfl ?_
  refine own_i2l (pc2 := 2) at_1 rfl (v := v1) hv1 ?_
  refine own_iloadN (pc2 := 3) at_2 rfl rfl ?_
  refine own_bipush (v := 31) (pc2 := 5) at_3 rfl rfl ?_
  refine own_iand (pc2 := 6) at_5 rfl (v := v5) hv5 ?_
  refine own_lshl (pc2 := 7) at_6 rfl (v := v6) hv6 ?_
  refine own_lstore (pc2 := 9) at_7 rfl (L' := #[.val (.int xp), .val (.int xs), .val (.long xr), .second, .val (.int fl), .val (.long v6), .second, .unset, .unset, .unset, .unset, .unset, .unset, .unset, .unset, .unset, .unset, .unset, .unset, .unset, .unset, .unset, .unset, .unset, .unset]) rfl ?_
  refine own_lloadN (pc2 := 10) at_9 rfl rfl ?_
  refine own_bipush (v := 11) (pc2 := 12) at_10 rfl rfl ?_
  refine own_lshl (pc2 := 13) at_12 rfl (v := v12) hv12 ?_
  refine own_bipush (v := 11) (pc2 := 15) at_13 rfl rfl ?_
  refine own_lshr (pc2 := 16) at_15 rfl (v := v15) hv15 ?_
  refine own_lstore (pc2 := 18) at_16 rfl (L' := #[.val (.int xp), .val (.int xs), .val (.long xr), .second, .val (.int fl), .val (.long v6), .second, .val (.long v15), .second, .unset, .unset, .unset, .unset, .unset, .unset, .unset, .unset, .unset, .unset, .unset, .unset, .unset, .unset, .unset, .unset]) rfl ?_
  refine own_lload (pc2 := 20) at_18 rfl rfl ?_
  refine own_l2d (pc2 := 21) at_20 rfl (v := v20) hv20 ?_
  refine own_dstore (pc2 := 23) at_21 rfl (L' := #[.val (.int xp), .val (.int xs), .val (.long xr), .second, .val (.int fl), .val (.long v6), .second, .val (.long v15), .second, .val (.double v20), .second, .unset, .unset, .unset, .unset, .unset, .unset, .unset, .unset, .unset, .unset, .unset, .unset, .unset, .unset]) rfl ?_
  refine own_lload (pc2 := 25) at_23 rfl rfl ?_
  refine own_l2d (pc2 := 26) at_25 rfl (v := v25) hv25 ?_
  refine own_dstore (pc2 := 28) at_26 rfl (L' := #[.val (.int xp), .val (.int xs), .val (.long xr), .second, .val (.int fl), .val (.long v6), .second, .val (.long v15), .second, .val (.double v20), .second, .val (.double v25), .second, .unset, .unset, .unset, .unset, .unset, .unset, .unset, .unset, .unset, .unset, .unset, .unset]) rfl ?_
  refine own_dload (pc2 := 30) at_28 rfl rfl ?_
  refine own_dstore (pc2 := 32) at_30 rfl (L' := #[.val (.int xp), .val (.int xs), .val (.long xr), .second, .val (.int fl), .val (.long v6), .second, .val (.long v15), .second, .val (.double v20), .second, .val (.double v25), .second, .val (.double v20), .second, .unset, .unset, .unset, .unset, .unset, .unset, .unset, .unset, .unset, .unset]) rfl ?_
  refine own_dload (pc2 := 34) at_32 rfl rfl ?_
  refine own_dstore (pc2 := 36) at_34 rfl (L' := #[.val (.int xp), .val (.int xs), .val (.long xr), .second, .val (.int fl), .val (.long v6), .second, .val (.long v15), .second, .val (.double v20), .second, .val (.double v25), .second, .val (.double v20), .second, .val (.double v25), .second, .unset, .unset, .unset, .unset, .unset, .unset, .unset, .unset]) rfl ?_
  refine own_iload (pc2 := 38) at_36 rfl rfl ?_
  refine own_iconst (v := 1) (pc2 := 39) at_38 rfl rfl ?_
  refine own_iand (pc2 := 40) at_39 rfl (v := v39) hv39 ?_
  cases hb40 : ifCond.holds .eq v39
  · refine own_ifNo (pc2 := 43) at_40 rfl hb40 ?_
    refine own_dload (pc2 := 45) at_43 rfl rfl ?_
    refine own_dstore (pc2 := 47) at_45 rfl (L' := #[.val (.int xp), .val (.int xs), .val (.long xr), .second, .val (.int fl), .val (.long v6), .second, .val (.long v15), .second, .val (.double v20), .second, .val (.double v25), .second, .val (.double v25), .second, .val (.double v25), .second, .unset, .unset, .unset, .unset, .unset, .unset, .unset, .unset]) rfl ?_
    refine own_dload (pc2 := 49) at_47 rfl rfl ?_
    refine own_dstore (pc2 := 51) at_49 rfl (L' := #[.val (.int xp), .val (.int xs), .val (.long xr), .second, .val (.int fl), .val (.long v6), .second, .val (.long v15), .second, .val (.double v20), .second, .val (.double v25), .second, .val (.double v25), .second, .val (.double v20), .second, .unset, .unset, .unset, .unset, .unset, .unset, .unset, .unset]) rfl ?_
    exact own_refl
  · refine own_ifYes (pc' := 51) at_40 hb40 (by decide) (by decide) ?_
    exact own_refl
theorem own_s1 (xp : Int32) (xs : Int32) (xr : Int64) (fl : Int32) (v6 : Int64) (v15 : Int64) (v20 : UInt64) (v25 : UInt64) (j51_13 : UInt64) (j51_15 : UInt64) (v55 : UInt64) (hv55 : (FP.dadd j51_13 j51_15) = v55) (nn55 : NoNaN64 (FP.dadd j51_13 j51_15)) :
    own_Go own_K0 code 51 #[.val (.int xp), .val (.int xs), .val (.long xr), .second, .val (.int fl), .val (.long v6), .second, .val (.long v15), .second, .val (.double v20), .second, .val (.double v25), .second, .val (.double j51_13), .second, .val (.double j51_15), .second, .unset, .unset, .unset, .unset, .unset, .unset, .unset, .unset] [] 64 #[.val (.int xp), .val (.int xs), .val (.long xr), .second, .val (.int fl), .val (.long v6), .second, .val (.long v15), .second, .val (.double v20), .second, .val (.double v25), .second, .val (.double j51_13), .second, .val (.double j51_15), .second, .val (.double v55), .second, .unset, .unset, .unset, .unset, .unset, .unset] [(.double v55), (.double j51_15), (.double j51_13)] := by
  refine own_dload (pc2 := 53) at_51 rfl rfl ?_
  refine own_dload (pc2 := 55) at_53 rfl rfl ?_
  refine own_dadd (pc2 := 56) at_55 rfl nn55 (v := v55) hv55 ?_
  refine own_dstore (pc2 := 58) at_56 rfl (L' := #[.val (.int xp), .val (.int xs), .val (.long xr), .second, .val (.int fl), .val (.long v6), .second, .val (.long v15), .second, .val (.double v20), .second, .val (.double v25), .second, .val (.double j51_13), .second, .val (.double j51_15), .second, .val (.double v55), .second, .unset, .unset, .unset, .unset, .unset, .unset]) rfl ?_
  refine own_dload (pc2 := 60) at_58 rfl rfl ?_
  refine own_dload (pc2 := 62) at_60 rfl rfl ?_
  refine own_dload (pc2 := 64) at_62 rfl rfl ?_
  exact own_refl
theorem own_t0 (x : UInt64) (y : UInt64) (s : UInt64) (v3 : UInt64) (hv3 : (FP.dsub s x) = v3) (nn3 : NoNaN64 (FP.dsub s x)) (v10 : UInt64) (hv10 : (FP.dsub s v3) = v10) (nn10 : NoNaN64 (FP.dsub s v3)) (v16 : UInt64) (hv16 : (FP.dsub x v10) = v16) (nn16 : NoNaN64 (FP.dsub x v10)) (v20 : UInt64) (hv20 : (FP.dsub y v3) = v20) (nn20 : NoNaN64 (FP.dsub y v3)) (v21 : UInt64) (hv21 : (FP.dadd v16 v20) = v21) (nn21 : NoNaN64 (FP.dadd v16 v20)) :
    own_Go own_K1 prog_46_method_2_code 0 #[.val (.double x), .second, .val (.double y), .second, .val (.double s), .second, .unset, .unset, .unset, .unset] [] 22 #[.val (.double x), .second, .val (.double y), .second, .val (.double s), .second, .val (.double v3), .second, .val (.double v10), .second] [(.double v21)] := by
  refine own_dload (pc2 := 2) d1_0 rfl rfl ?_
  refine own_dloadN (pc2 := 3) d1_2 rfl rfl ?_
  refine own_dsub (pc2 := 4) d1_3 rfl nn3 (v := v3) hv3 ?_
  refine own_dstore (pc2 := 6) d1_4 rfl (L' := #[.val (.double x), .second, .val (.double y), .second, .val (.double s), .second, .val (.double v3), .second, .unset, .unset]) rfl ?_
  refine own_dload (pc2 := 8) d1_6 rfl rfl ?_
  refine own_dload (pc2 := 10) d1_8 rfl rfl ?_
  refine own_dsub (pc2 := 11) d1_10 rfl nn10 (v := v10) hv10 ?_
  refine own_dstore (pc2 := 13) d1_11 rfl (L' := #[.val (.double x), .second, .val (.double y), .second, .val (.double s), .second, .val (.double v3), .second, .val (.double v10), .second]) rfl ?_
  refine own_dloadN (pc2 := 14) d1_13 rfl rfl ?_
  refine own_dload (pc2 := 16) d1_14 rfl rfl ?_
  refine own_dsub (pc2 := 17) d1_16 rfl nn16 (v := v16) hv16 ?_
  refine own_dloadN (pc2 := 18) d1_17 rfl rfl ?_
  refine own_dload (pc2 := 20) d1_18 rfl rfl ?_
  refine own_dsub (pc2 := 21) d1_20 rfl nn20 (v := v20) hv20 ?_
  refine own_dadd (pc2 := 22) d1_21 rfl nn21 (v := v21) hv21 ?_
  exact own_refl
theorem own_q0 (xp : Int32) (xs : Int32) (xr : Int64) (fl : Int32) (v6 : Int64) (v15 : Int64) (v20 : UInt64) (v25 : UInt64) (j51_13 : UInt64) (j51_15 : UInt64) (v55 : UInt64) (er : UInt64) (v73 : Int64) (hv73 : (v6 + v15) = v73) (v80 : Int64) (hv80 : (FP.d2l v55) = v80) (v81 : Int64) (hv81 : (v73 - v80) = v81) (v88 : UInt64) (hv88 : (FP.l2d v81) = v88) (v89 : Int32) (hv89 : (cmpValue (FP.dcmp er v88) .l) = v89) (t98_0 : Int32) (ht98_0 : (bif ifCond.holds .ne v89 then (0 : Int32) else (1 : Int32)) = t98_0) :
    own_Go own_K0 code 67 #[.val (.int xp), .val (.int xs), .val (.long xr), .second, .val (.int fl), .val (.long v6), .second, .val (.long v15), .second, .val (.double v20), .second, .val (.double v25), .second, .val (.double j51_13), .second, .val (.double j51_15), .second, .val (.double v55), .second, .unset, .unset, .unset, .unset, .unset, .unset] [(.double er)] 98 #[.val (.int xp), .val (.int xs), .val (.long xr), .second, .val (.int fl), .val (.long v6), .second, .val (.long v15), .second, .val (.double v20), .second, .val (.double v25), .second, .val (.double j51_13), .second, .val (.double j51_15), .second, .val (.double v55), .second, .val (.double er), .second, .val (.long v73), .second, .val (.long v81), .second] [(.int t98_0)] := by
  subst ht98_0
  refine own_dstore (pc2 := 69) at_67 rfl (L' := #[.val (.int xp), .val (.int xs), .val (.long xr), .second, .val (.int fl), .val (.long v6), .second, .val (.long v15), .second, .val (.double v20), .second, .val (.double v25), .second, .val (.double j51_13), .second, .val (.double j51_15), .second, .val (.double v55), .second, .val (.double er), .second, .unset, .unset, .unset, .unset]) rfl ?_
  refine own_lload (pc2 := 71) at_69 rfl rfl ?_
  refine own_lload (pc2 := 73) at_71 rfl rfl ?_
  refine own_ladd (pc2 := 74) at_73 rfl (v := v73) hv73 ?_
  refine own_lstore (pc2 := 76) at_74 rfl (L' := #[.val (.int xp), .val (.int xs), .val (.long xr), .second, .val (.int fl), .val (.long v6), .second, .val (.long v15), .second, .val (.double v20), .second, .val (.double v25), .second, .val (.double j51_13), .second, .val (.double j51_15), .second, .val (.double v55), .second, .val (.double er), .second, .val (.long v73), .second, .unset, .unset]) rfl ?_
  refine own_lload (pc2 := 78) at_76 rfl rfl ?_
  refine own_dload (pc2 := 80) at_78 rfl rfl ?_
  refine own_d2l (pc2 := 81) at_80 rfl (v := v80) hv80 ?_
  refine own_lsub (pc2 := 82) at_81 rfl (v := v81) hv81 ?_
  refine own_lstore (pc2 := 84) at_82 rfl (L' := #[.val (.int xp), .val (.int xs), .val (.long xr), .second, .val (.int fl), .val (.long v6), .second, .val (.long v15), .second, .val (.double v20), .second, .val (.double v25), .second, .val (.double j51_13), .second, .val (.double j51_15), .second, .val (.double v55), .second, .val (.double er), .second, .val (.long v73), .second, .val (.long v81), .second]) rfl ?_
  refine own_dload (pc2 := 86) at_84 rfl rfl ?_
  refine own_lload (pc2 := 88) at_86 rfl rfl ?_
  refine own_l2d (pc2 := 89) at_88 rfl (v := v88) hv88 ?_
  refine own_dcmp (pc2 := 90) at_89 rfl (v := v89) hv89 ?_
  cases hb90 : ifCond.holds .ne v89
  · refine own_ifNo (pc2 := 93) at_90 rfl hb90 ?_
    refine own_iconst (v := 1) (pc2 := 94) at_93 rfl rfl ?_
    refine own_goto (pc' := 98) at_94 (by decide) (by decide) ?_
    exact own_refl
  · refine own_ifYes (pc' := 97) at_90 hb90 (by decide) (by decide) ?_
    refine own_iconst (v := 0) (pc2 := 98) at_97 rfl rfl ?_
    exact own_refl

theorem own_rd_self {z x : UInt64} {r : Rat} (h : own_rd z r) (hx : own_is x r) (h1 : r ≤ 1606938044258990275541962092341162602522202993782792835301376) (h2 : -1606938044258990275541962092341162602522202993782792835301376 ≤ r) : own_is z r := by
  obtain ⟨v, hv⟩ := own_rd_finN h h1 h2
  have : v = r := Rat.le_antisymm (own_rd_le' h hv hx Rat.le_refl) (own_rd_ge' h hv hx Rat.le_refl)
  exact this ▸ hv
def own_b (x s : UInt64) : UInt64 := FP.dsub s x
def own_a (x s : UInt64) : UInt64 := FP.dsub s (own_b x s)
def own_e1 (x s : UInt64) : UInt64 := FP.dsub x (own_a x s)
def own_e2 (x y s : UInt64) : UInt64 := FP.dsub y (own_b x s)
def own_err (x y s : UInt64) : UInt64 := FP.dadd (own_e1 x s) (own_e2 x y s)
def own_Err (x y s : UInt64) (d : Int) : Prop := NoNaN64 (own_b x s) ∧ NoNaN64 (own_a x s) ∧ NoNaN64 (own_e1 x s) ∧ NoNaN64 (own_e2 x y s) ∧ own_is (own_err x y s) (d : Rat)
theorem own_two {x y s : UInt64} {X Y S : Int} (hx : own_is x (X : Rat)) (hy : own_is y (Y : Rat)) (hs : own_is s (S : Rat)) (x1 : -4611686018427387904 ≤ X) (x2 : X ≤ 4611686018427387904) (y1 : -4611686018427387904 ≤ Y) (y2 : Y ≤ 4611686018427387904)
    (h : (-4503599627370496 ≤ X ∧ X ≤ 4503599627370496) ∨ (-4503599627370496 ≤ Y ∧ Y ≤ 4503599627370496)) (d1 : S - (X + Y) ≤ 512) (d2 : (X + Y) - S ≤ 512) : own_Err x y s (X + Y - S) := by
  rcases h with ⟨g1, g2⟩ | ⟨g1, g2⟩
  · have r1 : own_rd (own_b x s) (((S - X : Int)) : Rat) := by rw [Rat.intCast_sub]; exact own_sub hs hx
    obtain ⟨t, ht, t1, t2⟩ := own_rd_int r1 (by omega) (by omega)
    have r2 : own_rd (own_a x s) (((S - t : Int)) : Rat) := by rw [Rat.intCast_sub]; exact own_sub hs ht
    have i2 := own_rd_small r2 (by omega)
    have r3 : own_rd (own_e1 x s) (((X - (S - t) : Int)) : Rat) := by rw [Rat.intCast_sub]; exact own_sub hx i2
    have i3 := own_rd_small r3 (by omega)
    have r4 : own_rd (own_e2 x y s) (((Y - t : Int)) : Rat) := by rw [Rat.intCast_sub]; exact own_sub hy ht
    have i4 := own_rd_small r4 (by omega)
    have r5 : own_rd (own_err x y s) (((X - (S - t) + (Y - t) : Int)) : Rat) := by rw [Rat.intCast_add]; exact own_add i3 i4
    have i5 := own_rd_small r5 (by omega)
    rw [show X - (S - t) + (Y - t) = X + Y - S by omega] at i5
    exact ⟨own_is_no ht, own_is_no i2, own_is_no i3, own_is_no i4, i5⟩
  · have r1 : own_rd (own_b x s) (((S - X : Int)) : Rat) := by rw [Rat.intCast_sub]; exact own_sub hs hx
    have i1 := own_rd_small r1 (by omega)
    have r2 : own_rd (own_a x s) (((S - (S - X) : Int)) : Rat) := by rw [Rat.intCast_sub]; exact own_sub hs i1
    rw [show S - (S - X) = X by omega] at r2
    have u1 : ((X : Int) : Rat) ≤ 4611686018427387904 := (show ((X : Int) : Rat) ≤ ((4611686018427387904 : Int) : Rat) from Rat.intCast_le_intCast.mpr x2)
    have u2 : (-4611686018427387904 : Rat) ≤ ((X : Int) : Rat) := (show ((-4611686018427387904 : Int) : Rat) ≤ ((X : Int) : Rat) from Rat.intCast_le_intCast.mpr x1)
    have i2 := own_rd_self r2 hx (by grind) (by grind)
    have r3 : own_rd (own_e1 x s) (((X - X : Int)) : Rat) := by rw [Rat.intCast_sub]; exact own_sub hx i2
    have i3 := own_rd_small r3 (by omega)
    have r4 : own_rd (own_e2 x y s) (((Y - (S - X) : Int)) : Rat) := by rw [Rat.intCast_sub]; exact own_sub hy i1
    have i4 := own_rd_small r4 (by omega)
    have r5 : own_rd (own_err x y s) (((X - X + (Y - (S - X)) : Int)) : Rat) := by rw [Rat.intCast_add]; exact own_add i3 i4
    have i5 := own_rd_small r5 (by omega)
    rw [show X - X + (Y - (S - X)) = X + Y - S by omega] at i5
    exact ⟨own_is_no i1, own_is_no i2, own_is_no i3, own_is_no i4, i5⟩
theorem own_met (l : Launch) (Z : State) (a0 : Array Value) (hw : ∀ d ∈ tables_1, d.before a0 Z = true) (h : Heap) (x y s : UInt64) {d : Int} (hE : own_Err x y s d) : own_Pure l Z (⟨"com/example/recourse/recourse/network/DoubleDouble", "error", "(DDD)D"⟩ : MethodName) prog_46_method_2_code 10 (some .double) 0 0 #[.double x, .double y, .double s] h (some (.double (own_err x y s))) :=
  own_pure_go own_pn1 hw own_K1_ok (fun m => own_ef1 m x y s) (own_t0 x y s (own_b x s) rfl hE.1 (own_a x s) rfl hE.2.1 (own_e1 x s) rfl hE.2.2.1 (own_e2 x y s) rfl hE.2.2.2.1 (own_err x y s) rfl (own_is_no hE.2.2.2.2)) d1_22 (own_retD _)
theorem own_bigA (p s : Int32) : -4611686018427387904 ≤ (p.toInt64 <<< ((s &&& (31 : Int32)) &&& 0x3f).toInt64).toInt ∧ (p.toInt64 <<< ((s &&& (31 : Int32)) &&& 0x3f).toInt64).toInt ≤ 4611686018427387904 ∧ own_is (FP.l2d (p.toInt64 <<< ((s &&& (31 : Int32)) &&& 0x3f).toInt64)) (((p.toInt64 <<< ((s &&& (31 : Int32)) &&& 0x3f).toInt64).toInt : Int) : Rat) := by
  have h1 := c_mask s 31 5 (by decide) (by decide)
  have h0 : (s &&& (31 : Int32)).toBitVec.toNat = (s &&& (31 : Int32)).toInt.toNat := by
    have := h1
    have h2 : 0 ≤ (s &&& (31 : Int32)).toInt := by omega
    have h3 : (s &&& (31 : Int32)).toInt = (s &&& (31 : Int32)).toBitVec.toInt := rfl
    rw [h3] at h2 ⊢
    rw [BitVec.toInt_eq_toNat_bmod] at h2 ⊢
    have h4 := (s &&& (31 : Int32)).toBitVec.isLt
    rw [Int.bmod_def] at h2 ⊢
    split at h2 <;> split <;> omega
  obtain ⟨k, hk⟩ : ∃ k : Nat, (s &&& (31 : Int32)).toInt = k := ⟨(s &&& (31 : Int32)).toInt.toNat, by omega⟩
  have hk31 : k ≤ 31 := by omega
  have h5 := c_lshl p.toInt64 (s &&& (31 : Int32)) k (by omega)
  have h6 := rng64 (p.toInt64 <<< ((s &&& (31 : Int32)) &&& 0x3f).toInt64)
  rw [c_i2l] at h5
  have h7 := rng32 p
  have h8 : (2 ^ k : Nat) ≤ 2 ^ 31 := Nat.pow_le_pow_right (by decide) hk31
  have h9 : 1 ≤ (2 ^ k : Nat) := Nat.one_le_two_pow
  have h10 : p.toInt * ((2 ^ k : Nat) : Int) ≤ 2147483648 * 2147483648 := by
    have a1 : p.toInt * ((2 ^ k : Nat) : Int) ≤ 2147483648 * ((2 ^ k : Nat) : Int) := Int.mul_le_mul_of_nonneg_right (by omega) (by omega)
    have a2 : (2147483648 : Int) * ((2 ^ k : Nat) : Int) ≤ 2147483648 * 2147483648 := Int.mul_le_mul_of_nonneg_left (by omega) (by decide)
    omega
  have h11 : -(2147483648 * 2147483648) ≤ p.toInt * ((2 ^ k : Nat) : Int) := by
    have a1 : -2147483648 * ((2 ^ k : Nat) : Int) ≤ p.toInt * ((2 ^ k : Nat) : Int) := Int.mul_le_mul_of_nonneg_right (by omega) (by omega)
    have a2 : (2147483648 : Int) * ((2 ^ k : Nat) : Int) ≤ 2147483648 * 2147483648 := Int.mul_le_mul_of_nonneg_left (by omega) (by decide)
    omega
  have h12 : (p.toInt64 <<< ((s &&& (31 : Int32)) &&& 0x3f).toInt64).toInt = p.toInt * ((2 ^ k : Nat) : Int) := by
    generalize p.toInt * ((2 ^ k : Nat) : Int) = w at *
    omega
  refine ⟨by omega, by omega, own_rd_exact (own_rdL _) (m := p.toInt) (k := k) ?_ (by omega) (by omega) (by omega)⟩
  rw [h12, Rat.intCast_mul, Rat.intCast_natCast, own_p_nat]
theorem own_bigB (r : Int64) : -4503599627370496 ≤ ((r <<< ((11 : Int32) &&& 0x3f).toInt64) >>> ((11 : Int32) &&& 0x3f).toInt64).toInt ∧ ((r <<< ((11 : Int32) &&& 0x3f).toInt64) >>> ((11 : Int32) &&& 0x3f).toInt64).toInt ≤ 4503599627370496 := by
  have h1 := c_lshr (r <<< ((11 : Int32) &&& 0x3f).toInt64) 11 11 (by decide)
  have h2 := rng64 (r <<< ((11 : Int32) &&& 0x3f).toInt64)
  rw [h1]
  omega
theorem own_ofInt {i : Int} (h1 : -9223372036854775808 ≤ i) (h2 : i < 9223372036854775808) : (Int64.ofInt i).toInt = i := Int64.toInt_ofInt_of_le (by simpa using h1) (by simpa using h2)
set_option maxRecDepth 65536 in
set_option maxHeartbeats 40000000 in
theorem own_law (l : Launch) (Z : State) (a0 : Array Value) (hw : ∀ d ∈ tables_1, d.before a0 Z = true) (ws : List Jvm.Cond) (xp : Int32) (xs : Int32) (xr : Int64) (fl : Int32) (h0 : Heap) (n0 : Nat) (Z0 : n0 ≤ h0.size) :
    MetFree l x (head1 (Jvm.Cond.code x code maxLocals ret :: ws) room_1) (fun a U => a = #[(.int xp), (.int xs), (.long xr), (.int fl)] ∧ Z.Warmed39 U.vm ∧ U.heap = h0) (fun _ _ _ _ _ => True) (fun _ U o U' => ∃ v L, o = .returned v ∧ (v = some (.int 1) ∧ Fr n0 L) ∧ FrameEnd U o U' L room_1.cells room_1.slots) := by
  refine MetFree.of_bodySF (plainFor_of_name own_pn0) hisR ?_
  intro p e s m args below meth c s₁ Bd hml0 hP hK
  obtain ⟨rfl, hZ, hh⟩ := hP
  have hx := Bd.exec
  have hby := Bd.bytes
  have hml : c.maxLocals = 25 := hml0
  have hown : s.vm.findClass "com/example/recourse/recourse/network/DoubleDoubleErrorPinLaw" = some m.cls := findClass_of_methodNamed Bd.named
  have hnm := (name_of_methodNamed Bd.named Bd.method).1
  have X0 : Stand p l e room_1 s m #[(.int xp), (.int xs), (.long xr), (.int fl)] below meth c s₁ [] 0 0 := Stand.of_body Bd
  have e0 : s₁.heap = h0 := by rw [← hh, Bd.state]; rfl
  have N0 := Fr.nil n0
  have pre0 : ∀ t, Steps p.tables e below (s₁.setTop (mkF m 0 #[.val (.int xp), .val (.int xs), .val (.long xr), .second, .val (.int fl), .unset, .unset, .unset, .unset, .unset, .unset, .unset, .unset, .unset, .unset, .unset, .unset, .unset, .unset, .unset, .unset, .unset, .unset, .unset, .unset] [])) t → Steps p.tables e below (s₁.setTop (entryFrame m #[(.int xp), (.int xs), (.long xr), (.int fl)] maxLocals)) t := fun t k => castTop (own_ef0 m xp xs xr fl) k
  obtain ⟨v1, hv1⟩ : ∃ z : Int64, xp.toInt64 = z := ⟨_, rfl⟩
  obtain ⟨v5, hv5⟩ : ∃ z : Int32, (xs &&& (31 : Int32)) = z := ⟨_, rfl⟩
  obtain ⟨v6, hv6⟩ : ∃ z : Int64, (v1 <<< (v5 &&& 0x3f).toInt64) = z := ⟨_, rfl⟩
  obtain ⟨v12, hv12⟩ : ∃ z : Int64, (xr <<< ((11 : Int32) &&& 0x3f).toInt64) = z := ⟨_, rfl⟩
  obtain ⟨v15, hv15⟩ : ∃ z : Int64, (v12 >>> ((11 : Int32) &&& 0x3f).toInt64) = z := ⟨_, rfl⟩
  obtain ⟨v20, hv20⟩ : ∃ z : UInt64, (FP.l2d v6) = z := ⟨_, rfl⟩
  obtain ⟨v25, hv25⟩ : ∃ z : UInt64, (FP.l2d v15) = z := ⟨_, rfl⟩
  obtain ⟨v39, hv39⟩ : ∃ z : Int32, (fl &&& (1 : Int32)) = z := ⟨_, rfl⟩
  obtain ⟨j51_13, hj51_13⟩ : ∃ z : UInt64, (bif ifCond.holds .eq v39 then v20 else v25) = z := ⟨_, rfl⟩
  obtain ⟨j51_15, hj51_15⟩ : ∃ z : UInt64, (bif ifCond.holds .eq v39 then v25 else v20) = z := ⟨_, rfl⟩
  obtain ⟨v55, hv55⟩ : ∃ z : UInt64, (FP.dadd j51_13 j51_15) = z := ⟨_, rfl⟩
  have hA : -4611686018427387904 ≤ v6.toInt ∧ v6.toInt ≤ 4611686018427387904 ∧ own_is v20 ((v6.toInt : Int) : Rat) := by rw [← hv20, ← hv6, ← hv5, ← hv1]; exact own_bigA xp xs
  have hB : -4503599627370496 ≤ v15.toInt ∧ v15.toInt ≤ 4503599627370496 := by rw [← hv15, ← hv12]; exact own_bigB xr
  have hBi : own_is v25 ((v15.toInt : Int) : Rat) := by rw [← hv25]; exact own_rd_small (own_rdL _) (by omega)
  obtain ⟨S, hS, d1, d2, hE⟩ : ∃ S : Int, own_is v55 (S : Rat) ∧ S - (v6.toInt + v15.toInt) ≤ 512 ∧ (v6.toInt + v15.toInt) - S ≤ 512 ∧ own_Err j51_13 j51_15 v55 (v6.toInt + v15.toInt - S) := by
    cases hb : ifCond.holds .eq v39
    · rw [hb] at hj51_13 hj51_15
      have q1 : v25 = j51_13 := hj51_13
      have q2 : v20 = j51_15 := hj51_15
      have r1 : own_rd v55 (((v15.toInt + v6.toInt : Int)) : Rat) := by rw [← hv55, ← q1, ← q2, Rat.intCast_add]; exact own_add hBi hA.2.2
      obtain ⟨S, hS, d1, d2⟩ := own_rd_int r1 (by omega) (by omega)
      refine ⟨S, hS, by omega, by omega, ?_⟩
      rw [← q1, ← q2, Int.add_comm v6.toInt]
      exact own_two hBi hA.2.2 hS (by omega) (by omega) (by omega) (by omega) (Or.inl ⟨by omega, by omega⟩) (by omega) (by omega)
    · rw [hb] at hj51_13 hj51_15
      have q1 : v20 = j51_13 := hj51_13
      have q2 : v25 = j51_15 := hj51_15
      have r1 : own_rd v55 (((v6.toInt + v15.toInt : Int)) : Rat) := by rw [← hv55, ← q1, ← q2, Rat.intCast_add]; exact own_add hA.2.2 hBi
      obtain ⟨S, hS, d1, d2⟩ := own_rd_int r1 (by omega) (by omega)
      refine ⟨S, hS, by omega, by omega, ?_⟩
      rw [← q1, ← q2]
      exact own_two hA.2.2 hBi hS (by omega) (by omega) (by omega) (by omega) (Or.inr ⟨by omega, by omega⟩) (by omega) (by omega)
  have nn55 : NoNaN64 (FP.dadd j51_13 j51_15) := by rw [hv55]; exact own_is_no hS
  obtain ⟨er, her⟩ : ∃ z, own_err j51_13 j51_15 v55 = z := ⟨_, rfl⟩
  have hEr : own_is er ((v6.toInt + v15.toInt - S : Int) : Rat) := by rw [← her]; exact hE.2.2.2.2
  obtain ⟨T1, X1, e1, st1⟩ := own_callP X0 hx hZ hown (hw _ (List.mem_of_getElem? (i := 0) rfl)) (hw _ (List.mem_of_getElem? (i := 1) rfl)) (hw _ (List.mem_of_getElem? (i := 2) rfl)) (hw _ (List.mem_of_getElem? (i := 3) rfl)) (by decide) e0 (argsL := [.double j51_13, .double j51_15, .double v55]) (rest := []) (W := 0) (own_met l Z a0 hw h0 j51_13 j51_15 v55 hE) (by decide) (by decide) (by decide) (by decide) (g := (mkF m 64 #[.val (.int xp), .val (.int xs), .val (.long xr), .second, .val (.int fl), .val (.long v6), .second, .val (.long v15), .second, .val (.double v20), .second, .val (.double v25), .second, .val (.double j51_13), .second, .val (.double j51_15), .second, .val (.double v55), .second, .unset, .unset, .unset, .unset, .unset, .unset] [(.double v55), (.double j51_15), (.double j51_13)])) rfl (by rw [hml]; rfl) (lenOf own_pd1 rfl) rfl (by show 2 * 0 + _ ≤ _; exact Nat.le_of_eq rfl) (hb hby at_64)
  rw [her] at st1
  obtain ⟨v73, hv73⟩ : ∃ z : Int64, (v6 + v15) = z := ⟨_, rfl⟩
  obtain ⟨v80, hv80⟩ : ∃ z : Int64, (FP.d2l v55) = z := ⟨_, rfl⟩
  obtain ⟨v81, hv81⟩ : ∃ z : Int64, (v73 - v80) = z := ⟨_, rfl⟩
  obtain ⟨v88, hv88⟩ : ∃ z : UInt64, (FP.l2d v81) = z := ⟨_, rfl⟩
  obtain ⟨v89, hv89⟩ : ∃ z : Int32, (cmpValue (FP.dcmp er v88) .l) = z := ⟨_, rfl⟩
  obtain ⟨t98_0, ht98_0⟩ : ∃ z : Int32, (bif ifCond.holds .ne v89 then (0 : Int32) else (1 : Int32)) = z := ⟨_, rfl⟩
  have h80 : v80.toInt = S := by
    have q := own_ofInt (i := S) (by omega) (by omega)
    rw [← hv80, own_isd2l (a := Int64.ofInt S) (by rw [q]; exact hS)]; exact q
  have h81 : v81.toInt = v6.toInt + v15.toInt - S := by
    have q1 := c_ladd v6 v15
    have q2 := rng64 v73
    have q3 := c_lsub v73 v80
    have q4 := rng64 v81
    rw [hv73] at q1
    rw [hv81] at q3
    omega
  have h88 : own_is v88 ((v6.toInt + v15.toInt - S : Int) : Rat) := by
    rw [← hv88, ← h81]
    exact own_rd_small (own_rdL _) (by omega)
  have hone : t98_0 = 1 := by
    rw [← ht98_0, ← hv89, own_c_ne hEr h88]
    simp
  obtain ⟨fs, hr, hrun, hended, hW, hsame⟩ := X1.leave (v := some (.int (1 : Int32))) (fun h => by rw [Bd.returns] at h; cases h)
  refine ⟨_, _, pre0 _ ?_, hrun, hended, _, _, rfl, ⟨rfl, N0⟩, ⟨_, rfl⟩, hW, hsame.mono (by decide) (by decide)⟩
  refine own_s0 xp xs xr fl v1 hv1 v5 hv5 v6 hv6 v12 hv12 v15 hv15 v20 hv20 v25 hv25 v39 hv39 j51_13 hj51_13 j51_15 hj51_15 p.tables e below s₁ _ m c X0.here hx hby (own_pool X0 hx hZ hown hw own_K0_ok) ?_
  refine own_s1 xp xs xr fl v6 v15 v20 v25 j51_13 j51_15 v55 hv55 nn55 p.tables e below s₁ _ m c X0.here hx hby (own_pool X0 hx hZ hown hw own_K0_ok) ?_
  refine st1 _ ?_
  refine own_q0 xp xs xr fl v6 v15 v20 v25 j51_13 j51_15 v55 er v73 hv73 v80 hv80 v81 hv81 v88 hv88 v89 hv89 t98_0 ht98_0 p.tables e below T1 _ m c X1.here hx hby (own_pool X1 hx hZ hown hw own_K0_ok) ?_
  rw [hone]
  exact retN X1 hx (t := .boolean) Bd.returns (by simp) (hb hby at_98) hr
set_option maxRecDepth 65536 in
set_option maxHeartbeats 40000000 in
theorem own_comes {Post : Tables → Env → Array Value → State → Outcome → State → Prop} (hpost : ∀ tb e args s v u, (limb_1_1.after args s (.returned v) u = true ∧ limb_1_2.after args s (.returned v) u = true ∧ True) → FrameEnd s (.returned v) u (Jvm.fieldLocs frame_1_writes args s ++ Jvm.arrayLocs frame_1_arrays args s ++ Jvm.staticLocs frame_1_statics s) 0 0 → Post tb e args s (.returned v) u) :
    ArmFor flags0 classFile x code maxLocals ret World_1 tables_1 room_1 Calls_1 rest_1 Pre_1 Post := by
  intro l hfl _ _ p e ha hc hk s m args below hf hA hF happ hP
  obtain ⟨hcalls, hrest, hpre⟩ := hP
  obtain ⟨-, -, -, hnamed, -, -, -, hat⟩ := (Spec.applies_iff hf).mp happ
  obtain ⟨hg, hn⟩ := and_e (Cond.before_iff.mp (show (Jvm.Cond.and given_1 narrow_1).before args s = true from hpre))
  obtain ⟨h1, g0⟩ := and_e hg
  obtain ⟨w0, w1, w2, w3, rfl⟩ : ∃ w0 w1 w2 w3 : Value, args = #[w0, w1, w2, w3] := by
    have hs : args.size = 4 := by simpa [Cond.value, given_1] using h1
    obtain ⟨L⟩ := args
    match L, hs with
    | [w0, w1, w2, w3], _ => exact ⟨w0, w1, w2, w3, rfl⟩
  have hw := fun d (hd : d ∈ tables_1) => atoms_spec (ws := Jvm.Cond.code x code maxLocals ret :: tables_1) hat d (List.mem_cons_of_mem _ hd)
  have hfit : Fit s := fun {y c} hc i hi => by
    obtain ⟨ha, rfl⟩ := Array.getElem?_eq_some_iff.mp hc
    have q := List.all_eq_true.mp ((Array.all_eq_true_iff_forall_mem.mp hF) _ (Array.getElem_mem ha)) i (List.mem_range.mpr hi)
    simpa [Array.getElem?_eq_getElem hi] using q
  obtain ⟨f0, g1⟩ := and_e g0
  obtain ⟨i0, e0⟩ := is_v f0
  obtain rfl : w0 = (.int i0) := Option.some.inj e0
  obtain ⟨f1, g2⟩ := and_e g1
  obtain ⟨i1, e1⟩ := is_v f1
  obtain rfl : w1 = (.int i1) := Option.some.inj e1
  obtain ⟨f2, g3⟩ := and_e g2
  obtain ⟨i2, e2⟩ := isL_v f2
  obtain rfl : w2 = (.long i2) := Option.some.inj e2
  obtain ⟨i3, e3⟩ := is_v g3
  obtain rfl : w3 = (.int i3) := Option.some.inj e3
  obtain ⟨n, o, h1, h2, h3, _, L, rfl, ⟨rfl, N⟩, hq⟩ := own_law l s _ hw tables_1 i0 i1 i2 i3 s.heap s.heap.size (Nat.le_refl _) p e ha hc hk s m _ below hf ((Spec.applies_iff_loose hf).mp happ).1 ⟨rfl, State.Warmed39.refl s, rfl⟩ trivial
  refine ⟨n, _, h1, h2, h3, hpost _ _ _ _ _ _ ⟨Cond.after_iff.mpr rfl, Cond.after_iff.mpr (eq_i res_at (Term.int_eval (1)) rfl), trivial⟩ ⟨hq.1, hq.2.1, (hq.2.2.sift fun y hy => Or.inr (N y hy)).mono (by decide) (by decide)⟩⟩
theorem main_1_1 : Claimed_1_1 := own_comes fun _ _ _ _ _ _ h hF => ⟨h.1, hF⟩
theorem main_1_2 : Claimed_1_2 := own_comes fun _ _ _ _ _ _ h hF => ⟨h.2.1, hF⟩
end OwnClaim
end Jvm.Pilot.@@N@@
namespace Jvm.Pilot.@@N@@
open Jvm Jvm.ClassFile Sem Op Lib Jvm.Free Jvm.Stand Jvm.Pilot.@@N@@.Jvm.D
/-! MADE BY PROGRAM (witnessworld.py) out of the Statement's table words and the real class files: 9 classes; the members and pool entries that the words name. The judged class is class 1, her method 1. -/
namespace start1
open Jvm.ClassFile
def u (s : String) : CpInfo := .utf8 (stringToUtf16 s)
/-- a pool by its gaps: so many unusable entries, then the entry; so many at the end -/
def gap : Nat → List CpInfo → List CpInfo
  | 0, r => r
  | n + 1, r => .unusable :: gap n r
def poolList (es : List (Nat × CpInfo)) (last : Nat) : List CpInfo := es.foldr (fun e r => gap e.1 (e.2 :: r)) (gap last [])
def pool (es : List (Nat × CpInfo)) (last : Nat) : Array CpInfo := ⟨poolList es last⟩
def fileOf (pool : Array CpInfo) (this : Nat) (attrs : Array Attribute := #[]) (ms : Array MethodInfo := #[]) (fl : Nat := 33) (sup : Nat := 0) (ifs : Array Nat := #[]) (fds : Array FieldInfo := #[]) : ClassFile where
  minorVersion := 0
  majorVersion := 65
  constantPool := pool
  accessFlags := fl
  thisClass := this
  superClass := sup
  interfaces := ifs
  fields := fds
  methods := ms
  attributes := attrs
def plain (name : String) (sup : Option ClassId) : Class where
  name := name
  kind := .ordinary
  loader := none
  accessFlags := 33
  super := sup
  interfaces := #[]
  cf := none
  fields := #[]
  methods := #[]
  instanceTypes := #[]
  staticTypes := #[]
  resolved := #[]
  callSites := []
  init := .initialized
  statics := none
  mirror := none

def pool0 : Array CpInfo := pool [(5, u "<init>"), (0, u "()V"), (1, .class_ 10), (1, u "java/lang/Object")] 113

def k0m0 : Method := { name := "<init>", desc := "()V", sig := { parameters := [], returnType := none }, accessFlags := 1, code := none }
/-- java/lang/Object -/
def k0 : Class := { plain "java/lang/Object" none with
  accessFlags := 33
  interfaces := #[]
  cf := some (fileOf pool0 8 #[] #[{ accessFlags := 1, nameIndex := 5, descriptorIndex := 6, attributes := #[] }] 33 0 #[] #[])
  fields := #[]
  methods := #[k0m0]
  instanceTypes := #[]
  staticTypes := #[]
  resolved := Array.replicate 124 none
  statics := none }

def pool1 : Array CpInfo := pool [(2, .class_ 4), (1, u "java/lang/Object"), (0, u "<init>"), (0, u "()V"), (0, .methodref 8 9), (0, .class_ 10), (0, .nameAndType 11 12), (0, u "com/example/recourse/recourse/network/DoubleDouble"), (0, u "error"), (0, u "(DDD)D"), (0, .class_ 14), (0, u "com/example/recourse/recourse/network/DoubleDoubleErrorPinLaw"), (2, u "law"), (0, u "(IIJI)Z")] 3

def k1m0 : Method := { name := "<init>", desc := "()V", sig := { parameters := [], returnType := none }, accessFlags := 1, code := none }
def k1c1 : Code := { maxStack := 6, maxLocals := 25, code := code, exceptionTable := #[], attributes := #[] }
def k1m1 : Method := { name := "law", desc := "(IIJI)Z", sig := { parameters := [.int, .int, .long, .int], returnType := some .boolean }, accessFlags := 9, code := some k1c1 }
/-- com/example/recourse/recourse/network/DoubleDoubleErrorPinLaw -/
def k1 : Class := { plain "com/example/recourse/recourse/network/DoubleDoubleErrorPinLaw" (some 0) with
  accessFlags := 49
  interfaces := #[]
  cf := some (fileOf pool1 13 #[] #[{ accessFlags := 1, nameIndex := 5, descriptorIndex := 6, attributes := #[] }, { accessFlags := 9, nameIndex := 17, descriptorIndex := 18, attributes := #[] }] 49 2 #[] #[])
  fields := #[]
  methods := #[k1m0, k1m1]
  instanceTypes := #[]
  staticTypes := #[]
  resolved := Array.replicate 22 none
  statics := none }

def pool2 : Array CpInfo := pool [(2, .class_ 4), (1, u "java/lang/Object"), (0, u "<init>"), (0, u "()V"), (1, .class_ 10), (1, u "com/example/recourse/recourse/network/DoubleDouble"), (0, u "error"), (0, u "(DDD)D")] 10

def k2m0 : Method := { name := "<init>", desc := "()V", sig := { parameters := [], returnType := none }, accessFlags := 2, code := none }
def k2c1 : Code := { maxStack := 6, maxLocals := 10, code := prog_46_method_2_code, exceptionTable := #[], attributes := #[] }
def k2m1 : Method := { name := "error", desc := "(DDD)D", sig := { parameters := [.double, .double, .double], returnType := some .double }, accessFlags := 9, code := some k2c1 }
/-- com/example/recourse/recourse/network/DoubleDouble -/
def k2 : Class := { plain "com/example/recourse/recourse/network/DoubleDouble" (some 0) with
  accessFlags := 49
  interfaces := #[]
  cf := some (fileOf pool2 8 #[] #[{ accessFlags := 2, nameIndex := 5, descriptorIndex := 6, attributes := #[] }, { accessFlags := 9, nameIndex := 11, descriptorIndex := 12, attributes := #[] }] 49 2 #[] #[])
  fields := #[]
  methods := #[k2m0, k2m1]
  instanceTypes := #[]
  staticTypes := #[]
  resolved := Array.replicate 23 none
  statics := none }

def pool3 : Array CpInfo := pool [(1, u "java/lang/Cloneable"), (0, .class_ 1), (0, u "java/lang/Object"), (0, .class_ 3)] 3

/-- java/lang/Cloneable -/
def k3 : Class := { plain "java/lang/Cloneable" (some 0) with
  accessFlags := 1537
  interfaces := #[]
  cf := some (fileOf pool3 2 #[] #[] 1537 4 #[] #[])
  fields := #[]
  methods := #[]
  instanceTypes := #[]
  staticTypes := #[]
  resolved := Array.replicate 8 none
  statics := none }

def pool4 : Array CpInfo := pool [(1, u "java/io/Serializable"), (0, .class_ 1), (0, u "java/lang/Object"), (0, .class_ 3)] 3

/-- java/io/Serializable -/
def k4 : Class := { plain "java/io/Serializable" (some 0) with
  accessFlags := 1537
  interfaces := #[]
  cf := some (fileOf pool4 2 #[] #[] 1537 4 #[] #[])
  fields := #[]
  methods := #[]
  instanceTypes := #[]
  staticTypes := #[]
  resolved := Array.replicate 8 none
  statics := none }

/-- the primitive byte -/
def k5 : Class := { plain "byte" none with kind := .primitive 'B', accessFlags := 0x411 }
/-- [B -/
def k6 : Class := { plain "[B" (some 0) with kind := .array 5 .byte, interfaces := #[3, 4], accessFlags := 1041 }

/-- the primitive int -/
def k7 : Class := { plain "int" none with kind := .primitive 'I', accessFlags := 0x411 }
/-- [I -/
def k8 : Class := { plain "[I" (some 0) with kind := .array 7 .int, interfaces := #[3, 4], accessFlags := 1041 }

def heap : Heap := #[]
def classes : Array Class := #[k0, k1, k2, k3, k4, k5, k6, k7, k8]
def interned : List (Array UInt16 × Addr) := []
def slotsUsed : Nat := 0
def theMethod : MethodId := ⟨1, 1⟩
def args0 : Array Value := #[.int 5, .int 7, .long 1, .int 2]
def aboutOver (below : List Frame) : State where
  vm := { classes := classes, interned := interned.toArray }
  heap := heap
  slotsUsed := slotsUsed
  threads := #[{ frames := .invoking theMethod args0 :: below }]
def below0 : List Frame := [.native { method := ⟨0, 0⟩, args := #[] }]
def about1 : State := aboutOver below0
def p0 : Program := .bare "" "" ""
def e0 : Env := launch0.env 0 0 0
theorem w_frames : about1.frames = Frame.invoking theMethod args0 :: below0 := rfl
set_option maxRecDepth 65536 in
theorem w_args : argsFit about1.vm theMethod args0 = true := by decide +kernel
set_option maxRecDepth 65536 in
theorem w_heap : heapFits about1 = true := by decide +kernel
set_option maxRecDepth 65536 in
theorem w_runnable : about1.curStatus? = some .runnable := by decide +kernel
set_option maxRecDepth 65536 in
theorem w_alone : about1.alone = true := by decide +kernel
set_option maxRecDepth 65536 in
theorem w_named : about1.methodNamed? x = some theMethod := by decide +kernel
set_option maxRecDepth 65536 in
theorem w_hears : about1.hears theMethod below0 = true := by decide +kernel
set_option maxRecDepth 65536 in
theorem w_ripe : about1.ripe theMethod args0 below0 = true := by decide +kernel
theorem w_running : about1.status = .running := rfl
set_option maxRecDepth 65536 in
theorem w_room : about1.hasRoom e0.platform room_1 = true :=
  launch0.hasRoom_least _ room_1 (by decide +kernel) (by decide +kernel) (by decide +kernel) (by decide +kernel) (by decide +kernel) (by decide +kernel)
theorem allAtoms_all (ts : List Jvm.Cond) (a : Array Jvm.Value) (st : Jvm.State) : (allAtoms ts).before a st = ts.all (fun c => c.before a st) := by
  induction ts with
  | nil => rfl
  | cons c t ih =>
    show (Jvm.Cond.and c (allAtoms t)).before a st = _
    rw [Jvm.Cond.before_and, ih, List.all_cons]
def words1 : List Jvm.Cond := Jvm.Cond.code x code maxLocals ret :: tables_1
/-- a 'code' word, met by the world's own term for the bytes: nothing is compared byte by byte -/
theorem code_word {y : MethodName} {bytes : ByteArray} {mx : Nat} {rt : Option FieldType} {a : Array Value} {s : State} {m : MethodId} {meth : Method} {c : Code} (h1 : s.methodNamed? y = some m) (h2 : s.vm.method? m = some meth) (h3 : meth.code = some c) (h4 : c.code = bytes)
    (h5 : (c.maxLocals == mx && c.exceptionTable.isEmpty && decide (c.maxStack ≤ mostOperands) && decide (meth.sig.returnType = rt) && !meth.locks && decide (parseMethodDescriptor y.desc = some meth.sig)) = true) : (Jvm.Cond.code y bytes mx rt).before a s = true := by
  simp only [Bool.and_eq_true, beq_iff_eq, Bool.not_eq_true', decide_eq_true_eq] at h5
  obtain ⟨⟨⟨⟨⟨g1, g2⟩, g3⟩, g4⟩, g5⟩, g6⟩ := h5
  simp [Cond.before, Cond.holds, Cond.value, h1, h2, h3, h4, g1, g2, g3, g4, g5, g6]
def isCode : Jvm.Cond → Bool
  | .code _ _ _ _ => true
  | _ => false
theorem all_split {L : List Jvm.Cond} {P : Jvm.Cond → Bool} (h1 : L.all (fun c => isCode c || P c) = true) (h2 : ∀ c ∈ L.filter isCode, P c = true) : L.all P = true := by
  refine List.all_eq_true.mpr fun c hc => ?_
  have h := List.all_eq_true.mp h1 c hc
  rcases Bool.eq_false_or_eq_true (isCode c) with hi | hi
  · exact h2 c (List.mem_filter.mpr ⟨hc, hi⟩)
  · simpa [hi] using h
set_option maxRecDepth 65536 in
theorem w_c0 : (Jvm.Cond.code x code maxLocals ret).before args0 about1 = true := code_word (m := ⟨1, 1⟩) (meth := k1m1) (c := k1c1) (by decide +kernel) rfl rfl rfl (by decide +kernel)
set_option maxRecDepth 65536 in
theorem w_c1 : (Jvm.Cond.code ({ cls := "com/example/recourse/recourse/network/DoubleDouble", name := "error", desc := "(DDD)D" } : Jvm.MethodName) prog_46_method_2_code (10 : Nat) (Option.some Jvm.ClassFile.FieldType.double)).before args0 about1 = true := code_word (m := ⟨2, 1⟩) (meth := k2m1) (c := k2c1) (by decide +kernel) rfl rfl rfl (by decide +kernel)
def codes1 : List Jvm.Cond := [Jvm.Cond.code x code maxLocals ret, Jvm.Cond.code ({ cls := "com/example/recourse/recourse/network/DoubleDouble", name := "error", desc := "(DDD)D" } : Jvm.MethodName) prog_46_method_2_code (10 : Nat) (Option.some Jvm.ClassFile.FieldType.double)]
set_option maxRecDepth 65536 in
theorem codes_eq : words1.filter isCode = codes1 := rfl
theorem w_codes : ∀ c ∈ words1.filter isCode, c.before args0 about1 = true := by
  rw [codes_eq]
  intro c hc
  simp only [codes1, List.mem_cons, List.not_mem_nil, or_false] at hc
  rcases hc with rfl | rfl
  · exact w_c0
  · exact w_c1
set_option maxRecDepth 65536 in
theorem w_t1 : words1.all (fun c => isCode c || c.before args0 about1) = true := by decide +kernel
theorem w_tables : (allAtoms (Jvm.Cond.code x code maxLocals ret :: tables_1)).before args0 about1 = true := by
  rw [allAtoms_all]
  show words1.all (fun c => c.before args0 about1) = true
  refine all_split ?_ w_codes
  rw [w_t1]
set_option maxRecDepth 65536 in
theorem w_case : (Jvm.Cond.and given_1 narrow_1).before args0 about1 = true := by decide +kernel
theorem w_applies : (headSpec (Jvm.Cond.code x code maxLocals ret :: tables_1) room_1).applies x e0.platform about1 = true :=
  (Spec.applies_iff w_frames).mpr ⟨w_running, w_runnable, w_alone, w_named, w_hears, w_ripe, w_room, w_tables⟩
theorem atStart : AtStart classFile x code maxLocals ret World_1 tables_1 room_1 Calls_1 rest_1 Pre_1 launch0 p0 e0 about1 theMethod args0 below0 :=
  ⟨lists_1, trivial, launch0.admits_env _ _ _, launch0.least_env, fairChoices_fair.cas, fairChoices_fair.clock, w_frames, w_args, w_heap, w_applies, trivial, trivial, w_case⟩
end start1
theorem witness_1 : WitnessClaimed_1 := ⟨start1.p0, start1.e0, start1.about1, start1.theMethod, start1.args0, start1.below0, start1.atStart⟩
end Jvm.Pilot.@@N@@
