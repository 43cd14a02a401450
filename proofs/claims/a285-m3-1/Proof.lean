import JvmDerived
import JvmDerived.Pilot.@@N@@Statement
import JvmDerived.Pilot.@@N@@Code
set_option linter.unusedVariables false
set_option linter.unusedSimpArgs false
namespace Jvm.Pilot.@@N@@
/-! the number layer: own_is (a double is exactly that rational), own_rd (a double is that rational, rounded) -/
section OwnNum
open Jvm.FP.Core Jvm.Free.Fl
theorem own_inv1 : (1 : Rat)⁻¹ = 1 := Rat.inv_eq_of_mul_eq_one (Rat.mul_one 1)
theorem own_p_pos (q : Int) : (0 : Rat) < (2 : Rat) ^ q := Rat.zpow_pos (by decide)
theorem own_p_ne (q : Int) : (2 : Rat) ^ q ≠ 0 := Rat.ne_of_gt (own_p_pos q)
theorem own_p_add (a b : Int) : (2 : Rat) ^ (a + b) = 2 ^ a * 2 ^ b := Rat.zpow_add (by decide) a b
theorem own_p_nat (n : Nat) : ((2 ^ n : Nat) : Rat) = (2 : Rat) ^ (n : Int) := by rw [Rat.natCast_pow]; rfl
theorem own_p_toNat {a : Int} (h : 0 ≤ a) : ((2 ^ a.toNat : Nat) : Rat) = (2 : Rat) ^ a := by rw [own_p_nat, Int.toNat_of_nonneg h]
theorem own_p_neg (a : Int) : (2 : Rat) ^ a * 2 ^ (-a) = 1 := by rw [← own_p_add, Int.add_right_neg]; rfl
def own_is (x : UInt64) (r : Rat) : Prop := ∃ s c q, val64 x = .fin s c q ∧ r = ((signed s c : Int) : Rat) * (2 : Rat) ^ q
def own_rd (x : UInt64) (r : Rat) : Prop := ∃ s A B e, 0 < B ∧ val64 x = roundRatio b64 s A B e ∧ r = ((signed s A : Int) : Rat) / ((B : Nat) : Rat) * (2 : Rat) ^ e
theorem own_signed_cast (s : Bool) (c k : Nat) : ((signed s (c * k) : Int) : Rat) = ((signed s c : Int) : Rat) * ((k : Nat) : Rat) := by
  rw [signed_mul, Rat.intCast_mul]; rfl
theorem own_zmag {s : Bool} {c : Nat} {q : Int} (h : FP.Core.fits b64 (.fin s c q)) : ((zmag b64 (.fin s c q) : Nat) : Rat) = (c : Rat) * 2 ^ q * 2 ^ (1074 : Int) := by
  have h1 : b64.qmin ≤ q := h.2.1
  rw [qmin_b64] at h1
  show ((c * 2 ^ (q - b64.qmin).toNat : Nat) : Rat) = _
  rw [Rat.natCast_mul, own_p_toNat (by rw [qmin_b64]; omega), qmin_b64, show q - (-1074) = q + 1074 by omega, own_p_add, Rat.mul_assoc]
theorem own_zval {x : UInt64} {r : Rat} (h : own_is x r) : ((zval b64 (val64 x) : Int) : Rat) = r * 2 ^ (1074 : Int) := by
  obtain ⟨s, c, q, h1, rfl⟩ := h
  have hf := val64_fits x
  rw [h1] at hf ⊢
  have h2 := own_zmag hf
  show ((signed s (zmag b64 (.fin s c q)) : Int) : Rat) = _
  cases s
  · show ((zmag b64 (.fin false c q) : Nat) : Rat) = ((c : Nat) : Rat) * _ * _
    rw [h2]
  · show ((-(zmag b64 (.fin true c q) : Int) : Int) : Rat) = ((-(c : Int) : Int) : Rat) * _ * _
    rw [Rat.intCast_neg, Rat.intCast_neg, Rat.neg_mul, Rat.neg_mul]
    exact congrArg _ h2
theorem own_is_nn {x : UInt64} {r : Rat} (h : own_is x r) : val64 x ≠ .nan := by
  obtain ⟨s, c, q, h1, -⟩ := h; rw [h1]; exact Datum.noConfusion
theorem own_is_fin {x : UInt64} {r : Rat} (h : own_is x r) : Fin64 x := by
  obtain ⟨s, c, q, h1, -⟩ := h; exact fin64_core.mpr ⟨s, c, q, h1⟩
theorem own_is_no {x : UInt64} {r : Rat} (h : own_is x r) : NoNaN64 x := (own_is_fin h).noNaN
theorem own_lt_of {a b : Rat} (h : a < b) (q : Int) : a * 2 ^ q < b * 2 ^ q := Rat.mul_lt_mul_of_pos_right h (own_p_pos q)
theorem own_is_lt {x y : UInt64} {a b : Rat} (hx : own_is x a) (hy : own_is y b) : FP.dcmp x y = some .lt ↔ a < b := by
  rw [show FP.dcmp x y = FP.Core.dcmp x y from rfl, dcmp_lt]
  constructor
  · rintro ⟨-, -, h⟩
    have h2 := Rat.intCast_lt_intCast.mpr h
    rw [own_zval hx, own_zval hy] at h2
    exact Rat.lt_of_mul_lt_mul_right h2 (Rat.le_of_lt (own_p_pos _))
  · intro h
    refine ⟨own_is_nn hx, own_is_nn hy, Rat.intCast_lt_intCast.mp ?_⟩
    rw [own_zval hx, own_zval hy]
    exact own_lt_of h _
theorem own_is_gt {x y : UInt64} {a b : Rat} (hx : own_is x a) (hy : own_is y b) : FP.dcmp x y = some .gt ↔ b < a := by
  rw [← own_is_lt hy hx, show FP.dcmp x y = FP.Core.dcmp x y from rfl, show FP.dcmp y x = FP.Core.dcmp y x from rfl, dcmp_gt, dcmp_lt]
  exact ⟨fun ⟨h1, h2, h⟩ => ⟨h2, h1, h⟩, fun ⟨h1, h2, h⟩ => ⟨h2, h1, h⟩⟩
theorem own_is_eq {x y : UInt64} {a b : Rat} (hx : own_is x a) (hy : own_is y b) : FP.dcmp x y = some .eq ↔ a = b := by
  rw [show FP.dcmp x y = FP.Core.dcmp x y from rfl, dcmp_eq]
  constructor
  · rintro ⟨-, -, h⟩
    have h2 : ((zval b64 (val64 x) : Int) : Rat) = ((zval b64 (val64 y) : Int) : Rat) := by rw [h]
    rw [own_zval hx, own_zval hy] at h2
    have h3 := own_p_ne 1074
    calc a = a * 2 ^ (1074 : Int) / 2 ^ (1074 : Int) := (Rat.mul_div_cancel h3).symm
      _ = b * 2 ^ (1074 : Int) / 2 ^ (1074 : Int) := by rw [h2]
      _ = b := Rat.mul_div_cancel h3
  · rintro rfl
    exact ⟨own_is_nn hx, own_is_nn hy, Rat.intCast_inj.mp (by rw [own_zval hx, own_zval hy])⟩
theorem own_rd_of {x : UInt64} {r : Rat} (h : own_is x r) : own_rd x r := by
  obtain ⟨s, c, q, h1, rfl⟩ := h
  have hf := val64_fits x
  rw [h1] at hf
  refine ⟨s, c, 1, q, by decide, h1.trans (round_of_fits good_b64 hf).symm, ?_⟩
  rw [show (((1 : Nat) : Rat)) = 1 from rfl, Rat.div_def, own_inv1, Rat.mul_one]
theorem own_rd_nn {x : UInt64} {r : Rat} (h : own_rd x r) : val64 x ≠ .nan := by
  obtain ⟨s, A, B, e, -, h1, -⟩ := h; rw [h1]; exact roundRatio_ne_nan _ _ _ _ _
theorem own_rd_no {x : UInt64} {r : Rat} (h : own_rd x r) : NoNaN64 x := val64_no.mpr (own_rd_nn h)
/-- the magnitude of a ratio -/
theorem own_signed_zero {s : Bool} {A : Nat} : ((signed s A : Int) : Rat) = 0 ↔ A = 0 := by
  rw [Rat.intCast_eq_zero_iff, signed_eq_zero]
theorem own_ratio_zero {s : Bool} {A B : Nat} {e : Int} (hB : 0 < B) : ((signed s A : Int) : Rat) / ((B : Nat) : Rat) * (2 : Rat) ^ e = 0 ↔ A = 0 := by
  have hb : ((B : Nat) : Rat) ≠ 0 := by rw [Ne, Rat.natCast_eq_zero_iff]; omega
  constructor
  · intro h
    rcases Rat.mul_eq_zero.mp h with h | h
    · rw [Rat.div_def] at h
      rcases Rat.mul_eq_zero.mp h with h | h
      · exact own_signed_zero.mp h
      · exact absurd (by rw [← Rat.inv_inv ((B : Nat) : Rat), h, Rat.inv_zero]) hb
    · exact absurd h (own_p_ne e)
  · rintro rfl
    rw [own_signed_zero.mpr rfl, Rat.div_def, Rat.zero_mul, Rat.zero_mul]
end OwnNum
section OwnNum2
open Jvm.FP.Core Jvm.Free.Fl
theorem own_nat_pos {B : Nat} (h : 0 < B) : (0 : Rat) < ((B : Nat) : Rat) := Rat.natCast_pos.mpr h
theorem own_nat_ne {B : Nat} (h : 0 < B) : ((B : Nat) : Rat) ≠ 0 := Rat.ne_of_gt (own_nat_pos h)
theorem own_cross {a b a' b' P P' : Rat} (hb : b ≠ 0) (hb' : b' ≠ 0) (h : a / b * P = a' / b' * P') : a * b' * P = a' * b * P' := by
  have h1 : a = a / b * b := (Rat.div_mul_cancel hb).symm
  have h2 : a' = a' / b' * b' := (Rat.div_mul_cancel hb').symm
  generalize a / b = u at *
  generalize a' / b' = w at *
  subst h1 h2
  grind
theorem own_cancel {a b P : Rat} (hP : P ≠ 0) (h : a * P = b * P) : a = b := by
  rw [← Rat.mul_div_cancel (a := a) hP, h, Rat.mul_div_cancel hP]
theorem own_sig_eq {s s' : Bool} {X Y : Nat} (hX : 0 < X) (h : signed s X = signed s' Y) : s = s' ∧ X = Y := by
  cases s <;> cases s' <;> simp only [signed, Bool.false_eq_true, if_true, if_false] at h <;> first | exact ⟨rfl, by omega⟩ | omega
theorem own_ratio_le {s s' : Bool} {A B A' B' : Nat} {e e' : Int} (hB : 0 < B) (hB' : 0 < B') (hA : 0 < A) (hle : e' ≤ e)
    (h : ((signed s A : Int) : Rat) / ((B : Nat) : Rat) * (2 : Rat) ^ e = ((signed s' A' : Int) : Rat) / ((B' : Nat) : Rat) * (2 : Rat) ^ e') :
    s = s' ∧ A * B' * 2 ^ (e - e').toNat = A' * B := by
  have h1 := own_cross (own_nat_ne hB) (own_nat_ne hB') h
  have h2 : (2 : Rat) ^ e = 2 ^ (e - e') * 2 ^ e' := by rw [← own_p_add]; congr 1; omega
  rw [h2, ← Rat.mul_assoc] at h1
  have h3 := own_cancel (own_p_ne e') h1
  rw [← own_p_toNat (by omega), ← own_signed_cast, ← own_signed_cast, ← own_signed_cast, Rat.intCast_inj] at h3
  exact own_sig_eq (Nat.mul_pos (Nat.mul_pos hA hB') (Nat.two_pow_pos _)) h3
theorem own_ratio_eq {s s' : Bool} {A B A' B' : Nat} {e e' : Int} (hB : 0 < B) (hB' : 0 < B') (hA : 0 < A)
    (h : ((signed s A : Int) : Rat) / ((B : Nat) : Rat) * (2 : Rat) ^ e = ((signed s' A' : Int) : Rat) / ((B' : Nat) : Rat) * (2 : Rat) ^ e') :
    s = s' ∧ roundRatio b64 s A B e = roundRatio b64 s' A' B' e' := by
  have hA' : 0 < A' := by
    rcases Nat.eq_zero_or_pos A' with h0 | h0
    · rw [(own_ratio_zero hB').mpr h0, own_ratio_zero hB] at h; omega
    · exact h0
  rcases Int.le_total e' e with hle | hle
  · obtain ⟨rfl, h1⟩ := own_ratio_le hB hB' hA hle h
    refine ⟨rfl, roundRatio_congr hB hB' ?_⟩
    rw [h1, show (e' - e).toNat = 0 by omega]; simp
  · obtain ⟨rfl, h1⟩ := own_ratio_le hB' hB hA' hle h.symm
    refine ⟨rfl, (roundRatio_congr hB' hB ?_).symm⟩
    rw [h1, show (e - e').toNat = 0 by omega]; simp
theorem own_rd_uniq {x y : UInt64} {r : Rat} (hx : own_rd x r) (hy : own_rd y r) : FP.dcmp x y = some .eq := by
  obtain ⟨s, A, B, e, hB, hv, hr⟩ := hx
  obtain ⟨s', A', B', e', hB', hv', hr'⟩ := hy
  rcases Nat.eq_zero_or_pos A with hA | hA
  · have hA' : A' = 0 := by rw [← own_ratio_zero hB' (s := s') (e := e'), ← hr', hr]; exact (own_ratio_zero hB).mpr hA
    subst hA hA'
    rw [show FP.dcmp x y = FP.Core.dcmp x y from rfl, dcmp_eq, hv, hv']
    refine ⟨roundRatio_ne_nan _ _ _ _ _, roundRatio_ne_nan _ _ _ _ _, ?_⟩
    show zval b64 (.fin s 0 b64.qmin) = zval b64 (.fin s' 0 b64.qmin)
    cases s <;> cases s' <;> decide
  · obtain ⟨-, h1⟩ := own_ratio_eq hB hB' hA (hr.symm.trans hr')
    have h2 : val64 x ≠ .nan := by rw [hv]; exact roundRatio_ne_nan _ _ _ _ _
    have h3 : x = y := val64_inj h2 (by rw [hv, hv', h1])
    subst h3
    exact dcmp_refl ((notNaN_iff x).mpr h2)
/-- exact where the rational has 53 digits -/
theorem own_rd_exact {x : UInt64} {r : Rat} (h : own_rd x r) {m : Int} {k : Int} (hr : r = (m : Rat) * (2 : Rat) ^ k) (hm : m.natAbs < 2 ^ 53) (hk : -1074 ≤ k) (hk2 : k ≤ 971) : own_is x r := by
  obtain ⟨s, A, B, e, hB, hv, hr0⟩ := h
  have hcan : ∀ (t : Bool), ((signed t m.natAbs : Int) : Rat) * (2 : Rat) ^ k = r → roundRatio b64 s A B e = round b64 (.fin t m.natAbs k) → own_is x r := by
    intro t ht hq
    obtain ⟨c', q', h1, h2⟩ := round_exact good_b64 t (c := m.natAbs) (q := k) hm (by rw [qmin_b64]; exact hk) (by exact hk2)
    have hx : val64 x = .fin t c' q' := by rw [hv, hq, h1]
    refine ⟨t, c', q', hx, ?_⟩
    have hf := val64_fits x
    rw [hx] at hf
    have z1 := own_zmag hf
    have z2 : ((inUnits c' q' b64.qmin : Nat) : Rat) = ((m.natAbs : Nat) : Rat) * 2 ^ k * 2 ^ (1074 : Int) := by
      rw [h2]; unfold inUnits
      rw [Rat.natCast_mul, own_p_toNat (by rw [qmin_b64]; omega), qmin_b64, show k - (-1074) = k + 1074 by omega, own_p_add, Rat.mul_assoc]
    have z3 : (c' : Rat) * 2 ^ q' = ((m.natAbs : Nat) : Rat) * 2 ^ k := own_cancel (own_p_ne 1074) (z1.symm.trans z2)
    rw [← ht]
    cases t
    · exact z3.symm
    · show ((-(m.natAbs : Int) : Int) : Rat) * _ = ((-(c' : Int) : Int) : Rat) * _
      rw [Rat.intCast_neg, Rat.intCast_neg, Rat.neg_mul, Rat.neg_mul]
      exact congrArg _ z3.symm
  rcases Nat.eq_zero_or_pos A with hA | hA
  · have h0 : r = 0 := by rw [hr0]; exact (own_ratio_zero hB).mpr hA
    have hm0 : m = 0 := by
      rw [h0] at hr
      rcases Rat.mul_eq_zero.mp hr.symm with h1 | h1
      · exact Rat.intCast_eq_zero_iff.mp h1
      · exact absurd h1 (own_p_ne k)
    subst hm0 hA
    refine hcan s ?_ ?_
    · rw [h0]; cases s <;> simp [signed]
    · show Datum.fin s 0 b64.qmin = Datum.fin s 0 b64.qmin
      rfl
  · have h1 : ((signed s A : Int) : Rat) / ((B : Nat) : Rat) * (2 : Rat) ^ e = ((signed (decide (m < 0)) m.natAbs : Int) : Rat) / (((1 : Nat) : Nat) : Rat) * (2 : Rat) ^ k := by
      rw [← hr0, hr, show (((1 : Nat) : Rat)) = 1 from rfl, Rat.div_def, own_inv1, Rat.mul_one]
      congr 2
      unfold signed
      by_cases hmn : m < 0 <;> simp [hmn] <;> omega
    obtain ⟨-, h2⟩ := own_ratio_eq hB (by decide) hA h1
    refine hcan (decide (m < 0)) ?_ h2
    rw [hr]
    congr 2
    unfold signed
    by_cases hmn : m < 0 <;> simp [hmn] <;> omega
theorem own_add {x y : UInt64} {a b : Rat} (hx : own_is x a) (hy : own_is y b) : own_rd (FP.dadd x y) (a + b) := by
  obtain ⟨s, c, q, h1, rfl⟩ := hx
  obtain ⟨t, d, r, h2, rfl⟩ := hy
  refine ⟨_, _, 1, min q r, by decide, (val64_dadd x y).trans (by rw [h1, h2]; rfl), ?_⟩
  rw [signed_sumSign, show (((1 : Nat) : Rat)) = 1 from rfl, Rat.div_def, own_inv1, Rat.mul_one]
  unfold sumUnits inUnits
  rw [Rat.intCast_add, own_signed_cast, own_signed_cast, own_p_toNat (by omega), own_p_toNat (by omega), Rat.add_mul, Rat.mul_assoc, Rat.mul_assoc, ← own_p_add, ← own_p_add, show q - min q r + min q r = q by omega, show r - min q r + min q r = r by omega]
theorem own_neg {x : UInt64} {a : Rat} (hx : own_is x a) : own_is (FP.dneg x) (-a) := by
  obtain ⟨s, c, q, h1, rfl⟩ := hx
  refine ⟨!s, c, q, (FP.val64_dneg x).trans (by rw [h1]; rfl), ?_⟩
  rw [signed_not, Rat.intCast_neg, Rat.neg_mul]
theorem own_sub {x y : UInt64} {a b : Rat} (hx : own_is x a) (hy : own_is y b) : own_rd (FP.dsub x y) (a - b) := by
  have h : val64 (FP.dsub x y) = val64 (FP.dadd x (FP.dneg y)) := by
    rw [show val64 (FP.dsub x y) = _ from val64_dsub x y, show val64 (FP.dadd x (FP.dneg y)) = _ from val64_dadd x (FP.dneg y), FP.val64_dneg]
  obtain ⟨s, A, B, e, hB, hv, hr⟩ := own_add hx (own_neg hy)
  exact ⟨s, A, B, e, hB, h.trans hv, by rw [Rat.sub_eq_add_neg]; exact hr⟩
theorem own_mul {x y : UInt64} {a b : Rat} (hx : own_is x a) (hy : own_is y b) : own_rd (FP.dmul x y) (a * b) := by
  obtain ⟨s, c, q, h1, rfl⟩ := hx
  obtain ⟨t, d, r, h2, rfl⟩ := hy
  refine ⟨s != t, c * d, 1, q + r, by decide, (val64_dmul x y).trans (by rw [h1, h2]; rfl), ?_⟩
  rw [signed_xor, Rat.intCast_mul, own_p_add, show (((1 : Nat) : Rat)) = 1 from rfl, Rat.div_def, own_inv1, Rat.mul_one]
  grind
theorem own_div {x y : UInt64} {a b : Rat} (hx : own_is x a) (hy : own_is y b) (hb : b ≠ 0) : own_rd (FP.ddiv x y) (a / b) := by
  obtain ⟨s, c, q, h1, rfl⟩ := hx
  obtain ⟨t, d, r, h2, rfl⟩ := hy
  have hd : d ≠ 0 := by
    rintro rfl
    exact hb (by rw [own_signed_zero.mpr rfl, Rat.zero_mul])
  refine ⟨s != t, c, d, q - r, by omega, (val64_ddiv x y).trans (by rw [h1, h2]; show (if d = 0 then _ else _) = _; rw [if_neg hd]), ?_⟩
  have hd' : ((d : Nat) : Rat) ≠ 0 := own_nat_ne (by omega)
  have e1 : (2 : Rat) ^ q = 2 ^ (q - r) * 2 ^ r := by rw [← own_p_add]; congr 1; omega
  have e2 := own_p_ne r
  rw [e1]
  generalize (2 : Rat) ^ (q - r) = P
  generalize (2 : Rat) ^ r = W at *
  cases s <;> cases t <;> simp only [signed, Bool.false_eq_true, if_true, if_false, bne_self_eq_false, Rat.intCast_neg, Rat.intCast_natCast, Bool.bne_true, Bool.bne_false, Bool.not_false, Bool.not_true] <;> grind
theorem own_rdL (a : Int64) : own_rd (FP.l2d a) ((a.toInt : Int) : Rat) := by
  refine ⟨decide (a.toInt < 0), a.toInt.natAbs, 1, 0, by decide, val64_l2d a, ?_⟩
  rw [show (((1 : Nat) : Rat)) = 1 from rfl, Rat.div_def, own_inv1, Rat.mul_one, Rat.zpow_zero, Rat.mul_one]
  congr 1
  unfold signed
  by_cases hmn : a.toInt < 0 <;> simp [hmn] <;> omega
theorem own_isI (a : Int32) : own_is (FP.i2d a) ((a.toInt : Int) : Rat) := by
  have h : FP.i2d a = FP.l2d a.toInt64 := i2d_l2d a
  have h2 := own_rdL a.toInt64
  rw [Int32.toInt_toInt64] at h2
  rw [h]
  refine own_rd_exact h2 (m := a.toInt) (k := 0) (by rw [Rat.zpow_zero, Rat.mul_one]) ?_ (by decide) (by decide)
  have := a.le_toInt; have := a.toInt_lt; omega
end OwnNum2
section OwnNum3
open Jvm.FP.Core Jvm.Free.Fl
theorem own_units {A B : Nat} {e : Int} {c : Nat} {q : Int} {s : Bool} (hf : FP.Core.fits b64 (.fin s c q)) (e0 : Int) (h0 : e0 ≤ b64.qmin) (h0e : e0 ≤ e) :
    (((inUnits A e e0 : Nat) : Rat) = (A : Rat) * 2 ^ e * 2 ^ (-e0)) ∧ (((zmag b64 (.fin s c q) * 2 ^ (b64.qmin - e0).toNat * B : Nat) : Rat) = ((c : Rat) * 2 ^ q) * (B : Rat) * 2 ^ (-e0)) := by
  constructor
  · unfold inUnits
    rw [Rat.natCast_mul, own_p_toNat (by omega), show e - e0 = e + -e0 by omega, own_p_add, Rat.mul_assoc]
  · rw [Rat.natCast_mul, Rat.natCast_mul, own_zmag hf, own_p_toNat (by omega), show b64.qmin - e0 = -1074 + -e0 by rw [qmin_b64]; omega, own_p_add]
    have := own_p_neg 1074
    grind
theorem own_div_le {a b w : Rat} (hb : 0 < b) : a / b ≤ w ↔ a ≤ w * b := by
  have h1 : a = a / b * b := (Rat.div_mul_cancel (Rat.ne_of_gt hb)).symm
  constructor
  · intro h; rw [h1]; exact Rat.mul_le_mul_of_nonneg_right h (Rat.le_of_lt hb)
  · intro h; rw [h1] at h; exact Rat.le_of_mul_le_mul_right h hb
theorem own_le_div {a b w : Rat} (hb : 0 < b) : w ≤ a / b ↔ w * b ≤ a := by
  have h1 : a = a / b * b := (Rat.div_mul_cancel (Rat.ne_of_gt hb)).symm
  constructor
  · intro h; rw [h1]; exact Rat.mul_le_mul_of_nonneg_right h (Rat.le_of_lt hb)
  · intro h; rw [h1] at h; exact Rat.le_of_mul_le_mul_right h hb
theorem own_mag_le {A B : Nat} {e : Int} {s t : Bool} {c : Nat} {q : Int} (hB : 0 < B) (hf : FP.Core.fits b64 (.fin t c q)) (h : (A : Rat) / (B : Rat) * 2 ^ e ≤ (c : Rat) * 2 ^ q) : zmag b64 (roundRatio b64 s A B e) ≤ zmag b64 (.fin t c q) := by
  obtain ⟨u1, u2⟩ := own_units (A := A) (B := B) (e := e) hf (min e b64.qmin) (by omega) (by omega)
  refine zmag_roundRatio_le good_b64 hB hf Datum.noConfusion (e0 := min e b64.qmin) (by omega) (by omega) (Rat.natCast_le_natCast.mp ?_)
  rw [u1, u2]
  refine Rat.mul_le_mul_of_nonneg_right ?_ (Rat.le_of_lt (own_p_pos _))
  have hb := own_nat_pos hB
  have h2 := Rat.mul_le_mul_of_nonneg_right h (Rat.le_of_lt hb)
  have h3 : (A : Rat) / (B : Rat) * 2 ^ e * (B : Rat) = (A : Rat) * 2 ^ e := by
    rw [Rat.mul_assoc, Rat.mul_comm ((2 : Rat) ^ e), ← Rat.mul_assoc, Rat.div_mul_cancel (own_nat_ne hB)]
  rw [h3] at h2
  exact h2
theorem own_mag_ge {A B : Nat} {e : Int} {s t : Bool} {c : Nat} {q : Int} (hB : 0 < B) (hf : FP.Core.fits b64 (.fin t c q)) (h : (c : Rat) * 2 ^ q ≤ (A : Rat) / (B : Rat) * 2 ^ e) : zmag b64 (.fin t c q) ≤ zmag b64 (roundRatio b64 s A B e) := by
  obtain ⟨u1, u2⟩ := own_units (A := A) (B := B) (e := e) hf (min e b64.qmin) (by omega) (by omega)
  refine zmag_roundRatio_ge good_b64 hB hf (e0 := min e b64.qmin) (by omega) (by omega) (Rat.natCast_le_natCast.mp ?_)
  rw [u1, u2]
  refine Rat.mul_le_mul_of_nonneg_right ?_ (Rat.le_of_lt (own_p_pos _))
  have hb := own_nat_pos hB
  have h2 := Rat.mul_le_mul_of_nonneg_right h (Rat.le_of_lt hb)
  have h3 : (A : Rat) / (B : Rat) * 2 ^ e * (B : Rat) = (A : Rat) * 2 ^ e := by
    rw [Rat.mul_assoc, Rat.mul_comm ((2 : Rat) ^ e), ← Rat.mul_assoc, Rat.div_mul_cancel (own_nat_ne hB)]
  rw [h3] at h2
  exact h2
theorem own_signed_ratio (s : Bool) (A B : Nat) (e : Int) : ((signed s A : Int) : Rat) / ((B : Nat) : Rat) * (2 : Rat) ^ e = if s then -((A : Rat) / (B : Rat) * 2 ^ e) else (A : Rat) / (B : Rat) * 2 ^ e := by
  cases s
  · rfl
  · show ((-(A : Int) : Int) : Rat) / _ * _ = _
    rw [Rat.intCast_neg, Rat.div_def, Rat.neg_mul, Rat.neg_mul]; rfl
theorem own_signed_pow (s : Bool) (c : Nat) (q : Int) : ((signed s c : Int) : Rat) * (2 : Rat) ^ q = if s then -((c : Rat) * 2 ^ q) else (c : Rat) * 2 ^ q := by
  cases s
  · rfl
  · show ((-(c : Int) : Int) : Rat) * _ = _
    rw [Rat.intCast_neg, Rat.neg_mul]; rfl
theorem own_ratio_nonneg (A B : Nat) (e : Int) : 0 ≤ (A : Rat) / (B : Rat) * 2 ^ e := by
  refine Rat.mul_nonneg ?_ (Rat.le_of_lt (own_p_pos e))
  rcases Nat.eq_zero_or_pos B with rfl | hB
  · rw [Rat.div_def]; exact Rat.mul_nonneg Rat.natCast_nonneg (by rw [show ((0 : Nat) : Rat) = 0 from rfl, Rat.inv_zero]; exact Rat.le_refl)
  · rw [own_le_div (own_nat_pos hB), Rat.zero_mul]; exact Rat.natCast_nonneg
theorem own_rd_le {x V : UInt64} {r y : Rat} (h : own_rd x r) (hV : own_is V y) (hle : r ≤ y) : zval b64 (val64 x) ≤ zval b64 (val64 V) := by
  obtain ⟨s, A, B, e, hB, hv, hr⟩ := h
  obtain ⟨t, c, q, hVv, hy⟩ := hV
  have hf := val64_fits V
  rw [hVv] at hf
  rw [hv, hVv]
  have m1 := own_mag_le (A := A) (e := e) (s := s) hB hf
  have m2 := own_mag_ge (A := A) (e := e) (s := s) hB hf
  unfold zval
  rw [sgn_roundRatio]
  show _ ≤ signed t (zmag b64 (.fin t c q))
  rw [own_signed_ratio] at hr
  rw [own_signed_pow] at hy
  have p1 := own_ratio_nonneg A B e
  have p2 : 0 ≤ (c : Rat) * 2 ^ q := Rat.mul_nonneg Rat.natCast_nonneg (Rat.le_of_lt (own_p_pos q))
  have hz : (c : Rat) * 2 ^ q ≤ 0 → zmag b64 (.fin t c q) = 0 := by
    intro h0
    have h1 : (c : Rat) * 2 ^ q = 0 := Rat.le_antisymm h0 p2
    have h2 := own_zmag hf
    rw [h1, Rat.zero_mul] at h2
    exact Rat.natCast_eq_zero_iff.mp h2
  generalize (A : Rat) / (B : Rat) * 2 ^ e = ra at *
  generalize (c : Rat) * 2 ^ q = rc at *
  generalize zmag b64 (roundRatio b64 s A B e) = za at *
  generalize zmag b64 (.fin t c q) = zc at *
  cases s <;> cases t <;> simp only [signed, Bool.false_eq_true, if_true, if_false] at hr hy ⊢
  · have := m1 (by grind); omega
  · have := m1 (by grind); have := hz (by grind); omega
  · omega
  · have := m2 (by grind); omega
theorem own_rd_neg {x : UInt64} {r : Rat} (h : own_rd x r) : own_rd (FP.dneg x) (-r) := by
  obtain ⟨s, A, B, e, hB, hv, hr⟩ := h
  refine ⟨!s, A, B, e, hB, (FP.val64_dneg x).trans (by rw [hv, negate_roundRatio]), ?_⟩
  rw [hr, signed_not, Rat.intCast_neg, Rat.div_def, Rat.div_def, Rat.neg_mul, Rat.neg_mul]
theorem own_zval_neg (x : UInt64) : zval b64 (val64 (FP.dneg x)) = -zval b64 (val64 x) := by
  rw [show val64 (FP.dneg x) = negate (val64 x) from FP.val64_dneg x, zval_negate]
theorem own_rd_ge {x V : UInt64} {r y : Rat} (h : own_rd x r) (hV : own_is V y) (hle : y ≤ r) : zval b64 (val64 V) ≤ zval b64 (val64 x) := by
  have h1 := own_rd_le (own_rd_neg h) (own_neg hV) (Rat.neg_le_neg hle)
  rw [own_zval_neg, own_zval_neg] at h1
  omega
theorem own_big : own_is 9110782046170513408 ((2 : Rat) ^ (1000 : Int)) := ⟨false, 2 ^ 52, 948, by decide +kernel, by
  show _ = (((2 ^ 52 : Nat) : Rat)) * _
  rw [own_p_nat, ← own_p_add]; rfl⟩
theorem own_rd_fin {x : UInt64} {r : Rat} (h : own_rd x r) (h1 : r ≤ (2 : Rat) ^ (1000 : Int)) (h2 : -((2 : Rat) ^ (1000 : Int)) ≤ r) : ∃ v, own_is x v := by
  have l1 := own_rd_le h own_big h1
  have l2 := own_rd_ge h (own_neg own_big) h2
  rw [own_zval_neg] at l2
  obtain ⟨s, A, B, e, hB, hv, hr⟩ := h
  rcases roundRatio_cases b64 s A B e with ⟨c, q, hc⟩ | hc
  · exact ⟨_, s, c, q, hv.trans hc, rfl⟩
  · rw [hv, hc] at l1 l2
    cases s
    · exact absurd l1 (by decide +kernel)
    · exact absurd l2 (by decide +kernel)
theorem own_rd_le' {x V : UInt64} {r v y : Rat} (h : own_rd x r) (hx : own_is x v) (hV : own_is V y) (hle : r ≤ y) : v ≤ y := by
  have h1 := own_rd_le h hV hle
  refine Rat.not_lt.mp fun h2 => ?_
  have h3 := (dcmp_lt.mp ((own_is_lt hV hx).mpr h2)).2.2
  omega
theorem own_rd_ge' {x V : UInt64} {r v y : Rat} (h : own_rd x r) (hx : own_is x v) (hV : own_is V y) (hle : y ≤ r) : y ≤ v := by
  have h1 := own_rd_ge h hV hle
  refine Rat.not_lt.mp fun h2 => ?_
  have h3 := (dcmp_lt.mp ((own_is_lt hx hV).mpr h2)).2.2
  omega
/-- every rational of 53 digits is a double -/
theorem own_rep {m k : Int} (hm : m.natAbs < 2 ^ 53) (hk : -1074 ≤ k) (hk2 : k ≤ 971) : ∃ V, own_is V ((m : Rat) * (2 : Rat) ^ k) := by
  have hf : FP.Core.fits b64 (roundRatio b64 (decide (m < 0)) m.natAbs 1 k) := roundRatio_fits good_b64 _ _ (by decide) _
  refine ⟨of64 (roundRatio b64 (decide (m < 0)) m.natAbs 1 k), own_rd_exact ⟨decide (m < 0), m.natAbs, 1, k, by decide, val64_of64 hf, ?_⟩ rfl hm hk hk2⟩
  rw [show (((1 : Nat) : Rat)) = 1 from rfl, Rat.div_def, own_inv1, Rat.mul_one]
  congr 2
  unfold signed
  by_cases hmn : m < 0 <;> simp [hmn] <;> omega
end OwnNum3
section OwnNum4
open Jvm.FP.Core Jvm.Free.Fl
theorem own_two200 : (1606938044258990275541962092341162602522202993782792835301376 : Rat) ≤ (2 : Rat) ^ (1000 : Int) := by decide +kernel
theorem own_rd_finN {x : UInt64} {r : Rat} (h : own_rd x r) (h1 : r ≤ 1606938044258990275541962092341162602522202993782792835301376) (h2 : -1606938044258990275541962092341162602522202993782792835301376 ≤ r) : ∃ v, own_is x v :=
  own_rd_fin h (Rat.le_trans h1 own_two200) (Rat.le_trans (Rat.neg_le_neg own_two200) h2)
theorem own_zero : own_is 0 0 := ⟨false, 0, -1074, by decide +kernel, by decide +kernel⟩
theorem own_one : own_is 4607182418800017408 1 := ⟨false, 2 ^ 52, -52, by decide +kernel, by decide +kernel⟩
theorem own_rep' {m k : Int} {r : Rat} (hr : r = (m : Rat) * (2 : Rat) ^ k) (hm : m.natAbs < 2 ^ 53) (hk : -1074 ≤ k) (hk2 : k ≤ 971) : ∃ V, own_is V r := by rw [hr]; exact own_rep hm hk hk2
theorem own_cmpv {x y : UInt64} {a b : Rat} (hx : own_is x a) (hy : own_is y b) (o : ClassFile.CmpOp) : Op.cmpValue (FP.dcmp x y) o = if a < b then -1 else if a = b then 0 else 1 := by
  by_cases h1 : a < b
  · rw [(own_is_lt hx hy).mpr h1, if_pos h1]; rfl
  · by_cases h2 : a = b
    · rw [(own_is_eq hx hy).mpr h2, if_neg h1, if_pos h2]; rfl
    · have h3 : b < a := by grind
      rw [(own_is_gt hx hy).mpr h3, if_neg h1, if_neg h2]; rfl
theorem own_c_lt {x y : UInt64} {a b : Rat} (hx : own_is x a) (hy : own_is y b) (o : ClassFile.CmpOp) : Op.ifCond.holds .lt (Op.cmpValue (FP.dcmp x y) o) = decide (a < b) := by
  rw [own_cmpv hx hy]; by_cases h1 : a < b <;> by_cases h2 : a = b <;> simp [h1, h2, Op.ifCond.holds]
theorem own_c_ge {x y : UInt64} {a b : Rat} (hx : own_is x a) (hy : own_is y b) (o : ClassFile.CmpOp) : Op.ifCond.holds .ge (Op.cmpValue (FP.dcmp x y) o) = decide (b ≤ a) := by
  rw [own_cmpv hx hy]
  by_cases h1 : a < b
  · simp [h1, Rat.not_le.mpr h1, Op.ifCond.holds]
  · by_cases h2 : a = b <;> simp [h1, h2, Rat.not_lt.mp h1, Op.ifCond.holds, Rat.le_refl]
theorem own_c_gt {x y : UInt64} {a b : Rat} (hx : own_is x a) (hy : own_is y b) (o : ClassFile.CmpOp) : Op.ifCond.holds .gt (Op.cmpValue (FP.dcmp x y) o) = decide (b < a) := by
  rw [own_cmpv hx hy]
  by_cases h1 : a < b
  · have : ¬ b < a := by grind
    simp [h1, this, Op.ifCond.holds]
  · by_cases h2 : a = b
    · subst h2; simp [Rat.lt_irrefl, Op.ifCond.holds]
    · have : b < a := by grind
      simp [h1, h2, this, Op.ifCond.holds]
theorem own_c_le {x y : UInt64} {a b : Rat} (hx : own_is x a) (hy : own_is y b) (o : ClassFile.CmpOp) : Op.ifCond.holds .le (Op.cmpValue (FP.dcmp x y) o) = decide (a ≤ b) := by
  rw [own_cmpv hx hy]
  by_cases h1 : a < b
  · simp [h1, Rat.le_of_lt h1, Op.ifCond.holds]
  · by_cases h2 : a = b
    · subst h2; simp [Rat.lt_irrefl, Rat.le_refl, Op.ifCond.holds]
    · have : ¬ a ≤ b := by grind
      simp [h1, h2, this, Op.ifCond.holds]
theorem own_c_eq {x y : UInt64} {a b : Rat} (hx : own_is x a) (hy : own_is y b) (o : ClassFile.CmpOp) : Op.ifCond.holds .eq (Op.cmpValue (FP.dcmp x y) o) = decide (a = b) := by
  rw [own_cmpv hx hy]
  by_cases h1 : a < b
  · have : ¬ a = b := by grind
    simp [h1, this, Op.ifCond.holds]
  · by_cases h2 : a = b <;> simp [h1, h2, Op.ifCond.holds]
theorem own_c_ne {x y : UInt64} {a b : Rat} (hx : own_is x a) (hy : own_is y b) (o : ClassFile.CmpOp) : Op.ifCond.holds .ne (Op.cmpValue (FP.dcmp x y) o) = decide (a ≠ b) := by
  rw [own_cmpv hx hy]
  by_cases h1 : a < b
  · have : ¬ a = b := by grind
    simp [h1, this, Op.ifCond.holds]
  · by_cases h2 : a = b <;> simp [h1, h2, Op.ifCond.holds]
/-- ints by their values -/
theorem own_i_lt (x y : Int32) : Op.if_icmp.holds .lt x y = decide (x.toInt < y.toInt) := by simp only [Op.if_icmp.holds, Int32.lt_iff_toInt_lt]
theorem own_i_gt (x y : Int32) : Op.if_icmp.holds .gt x y = decide (y.toInt < x.toInt) := by simp only [Op.if_icmp.holds, GT.gt, Int32.lt_iff_toInt_lt]
theorem own_i_le (x y : Int32) : Op.if_icmp.holds .le x y = decide (x.toInt ≤ y.toInt) := by simp only [Op.if_icmp.holds, Int32.le_iff_toInt_le]
theorem own_i_ge (x y : Int32) : Op.if_icmp.holds .ge x y = decide (y.toInt ≤ x.toInt) := by simp only [Op.if_icmp.holds, GE.ge, Int32.le_iff_toInt_le]
theorem own_i_eq (x y : Int32) : Op.if_icmp.holds .eq x y = decide (x = y) := by rw [Bool.eq_iff_iff]; simp [Op.if_icmp.holds]
theorem own_i_ne (x y : Int32) : Op.if_icmp.holds .ne x y = decide (x ≠ y) := by rw [Bool.eq_iff_iff]; simp [Op.if_icmp.holds]
theorem own_z_lt (x : Int32) : Op.ifCond.holds .lt x = decide (x.toInt < 0) := by simp only [Op.ifCond.holds, Int32.lt_iff_toInt_lt]; rfl
theorem own_z_gt (x : Int32) : Op.ifCond.holds .gt x = decide (0 < x.toInt) := by simp only [Op.ifCond.holds, GT.gt, Int32.lt_iff_toInt_lt]; rfl
theorem own_z_le (x : Int32) : Op.ifCond.holds .le x = decide (x.toInt ≤ 0) := by simp only [Op.ifCond.holds, Int32.le_iff_toInt_le]; rfl
theorem own_z_ge (x : Int32) : Op.ifCond.holds .ge x = decide (0 ≤ x.toInt) := by simp only [Op.ifCond.holds, GE.ge, Int32.le_iff_toInt_le]; rfl
theorem own_z_eq (x : Int32) : Op.ifCond.holds .eq x = decide (x = 0) := by rw [Bool.eq_iff_iff]; simp [Op.ifCond.holds]
theorem own_z_ne (x : Int32) : Op.ifCond.holds .ne x = decide (x ≠ 0) := by rw [Bool.eq_iff_iff]; simp [Op.ifCond.holds]
theorem own_lc_lt (x y : Int64) : Op.ifCond.holds .lt (if x > y then (1 : Int32) else if x = y then 0 else -1) = decide (x.toInt < y.toInt) := by
  simp only [GT.gt, Int64.lt_iff_toInt_lt, ← Int64.toInt_inj]
  by_cases h1 : y.toInt < x.toInt
  · simp [h1, Op.ifCond.holds, show ¬ x.toInt < y.toInt by omega]
  · by_cases h2 : x.toInt = y.toInt
    · simp [h2, Op.ifCond.holds]
    · simp [h1, h2, Op.ifCond.holds, show x.toInt < y.toInt by omega]
theorem own_lc_ge (x y : Int64) : Op.ifCond.holds .ge (if x > y then (1 : Int32) else if x = y then 0 else -1) = decide (y.toInt ≤ x.toInt) := by
  simp only [GT.gt, Int64.lt_iff_toInt_lt, ← Int64.toInt_inj]
  by_cases h1 : y.toInt < x.toInt
  · simp [h1, Op.ifCond.holds, show y.toInt ≤ x.toInt by omega]
  · by_cases h2 : x.toInt = y.toInt
    · simp [h2, Op.ifCond.holds]
    · simp [h1, h2, Op.ifCond.holds, show ¬ y.toInt ≤ x.toInt by omega]
theorem own_lc_gt (x y : Int64) : Op.ifCond.holds .gt (if x > y then (1 : Int32) else if x = y then 0 else -1) = decide (y.toInt < x.toInt) := by
  simp only [GT.gt, Int64.lt_iff_toInt_lt, ← Int64.toInt_inj]
  by_cases h1 : y.toInt < x.toInt
  · simp [h1, Op.ifCond.holds]
  · by_cases h2 : x.toInt = y.toInt
    · simp [h2, Op.ifCond.holds]
    · simp [h1, h2, Op.ifCond.holds]
theorem own_lc_le (x y : Int64) : Op.ifCond.holds .le (if x > y then (1 : Int32) else if x = y then 0 else -1) = decide (x.toInt ≤ y.toInt) := by
  simp only [GT.gt, Int64.lt_iff_toInt_lt, ← Int64.toInt_inj]
  by_cases h1 : y.toInt < x.toInt
  · simp [h1, Op.ifCond.holds, show ¬ x.toInt ≤ y.toInt by omega]
  · by_cases h2 : x.toInt = y.toInt
    · simp [h2, Op.ifCond.holds]
    · simp [h1, h2, Op.ifCond.holds, show x.toInt ≤ y.toInt by omega]
theorem own_lc_eq (x y : Int64) : Op.ifCond.holds .eq (if x > y then (1 : Int32) else if x = y then 0 else -1) = decide (x.toInt = y.toInt) := by
  simp only [GT.gt, Int64.lt_iff_toInt_lt, ← Int64.toInt_inj]
  by_cases h1 : y.toInt < x.toInt
  · simp [h1, Op.ifCond.holds, show ¬ x.toInt = y.toInt by omega]
  · by_cases h2 : x.toInt = y.toInt
    · simp [h2, Op.ifCond.holds]
    · simp [h1, h2, Op.ifCond.holds]
theorem own_lc_ne (x y : Int64) : Op.ifCond.holds .ne (if x > y then (1 : Int32) else if x = y then 0 else -1) = decide (x.toInt ≠ y.toInt) := by
  simp only [GT.gt, Int64.lt_iff_toInt_lt, ← Int64.toInt_inj]
  by_cases h1 : y.toInt < x.toInt
  · simp [h1, Op.ifCond.holds, show ¬ x.toInt = y.toInt by omega]
  · by_cases h2 : x.toInt = y.toInt
    · simp [h2, Op.ifCond.holds]
    · simp [h1, h2, Op.ifCond.holds]
end OwnNum4
section OwnNum5
open Jvm.FP.Core Jvm.Free.Fl
/-- no number of 53 digits is nearer than the rounded one -/
theorem own_near {s : Bool} {A B : Nat} {e : Int} {c : Nat} {q : Int} (hB : 0 < B) (hR : roundRatio b64 s A B e = .fin s c q) {c' : Nat} {q' : Int} (hc' : c' < 2 ^ 53) (hq' : -1074 ≤ q') {D : Rat}
    (h1 : (c' : Rat) * 2 ^ q' - (A : Rat) / (B : Rat) * 2 ^ e ≤ D) (h2 : (A : Rat) / (B : Rat) * 2 ^ e - (c' : Rat) * 2 ^ q' ≤ D) :
    (c : Rat) * 2 ^ q - (A : Rat) / (B : Rat) * 2 ^ e ≤ D ∧ (A : Rat) / (B : Rat) * 2 ^ e - (c : Rat) * 2 ^ q ≤ D := by
  have hfit : FP.Core.fits b64 (.fin s c q) := hR ▸ roundRatio_fits good_b64 s A hB e
  have hqm : (-1074 : Int) ≤ q := by have := hfit.2.1; rw [qmin_b64] at this; exact this
  obtain ⟨e0, he0, he1⟩ : ∃ e0 : Int, e0 ≤ -1074 ∧ e0 ≤ e := ⟨min e (-1074), by omega, by omega⟩
  have hd := roundRatio_nearest good_b64 hB hR hc' (by rw [qmin_b64]; exact hq') (e0 := e0) (by rw [qmin_b64]; exact he0) he1
  unfold distance at hd
  have hb := own_nat_pos hB
  have hp := own_p_pos (-e0)
  have cU : ∀ (n : Nat) (j : Int), e0 ≤ j → ((inUnits n j e0 : Nat) : Rat) = (n : Rat) * 2 ^ j * 2 ^ (-e0) := by
    intro n j hj
    unfold inUnits
    rw [Rat.natCast_mul, own_p_toNat (by omega), show j - e0 = j + -e0 by omega, own_p_add, Rat.mul_assoc]
  have uA := cU A e he1
  have uc := cU c q (by omega)
  have uc' := cU c' q' (by omega)
  have hA : (A : Rat) / (B : Rat) * 2 ^ e * (B : Rat) = (A : Rat) * 2 ^ e := by
    rw [Rat.mul_assoc, Rat.mul_comm ((2 : Rat) ^ e), ← Rat.mul_assoc, Rat.div_mul_cancel (own_nat_ne hB)]
  generalize (A : Rat) / (B : Rat) * 2 ^ e = a at *
  generalize hx : ((inUnits A e e0 : Nat) : Int) - ((inUnits c q e0 : Nat) : Int) * (B : Int) = x at hd
  generalize hy : ((inUnits A e e0 : Nat) : Int) - ((inUnits c' q' e0 : Nat) : Int) * (B : Int) = y at hd
  have ex : (x : Rat) = (a - (c : Rat) * 2 ^ q) * ((B : Rat) * 2 ^ (-e0)) := by
    rw [← hx, Rat.intCast_sub, Rat.intCast_mul, Rat.intCast_natCast, Rat.intCast_natCast, Rat.intCast_natCast, uA, uc, ← hA]
    grind
  have ey : (y : Rat) = (a - (c' : Rat) * 2 ^ q') * ((B : Rat) * 2 ^ (-e0)) := by
    rw [← hy, Rat.intCast_sub, Rat.intCast_mul, Rat.intCast_natCast, Rat.intCast_natCast, Rat.intCast_natCast, uA, uc', ← hA]
    grind
  have hK : (0 : Rat) < (B : Rat) * 2 ^ (-e0) := Rat.mul_pos hb hp
  generalize (B : Rat) * 2 ^ (-e0) = K at *
  generalize (c : Rat) * 2 ^ q = u at *
  generalize (c' : Rat) * 2 ^ q' = w at *
  have yD1 : (y : Rat) ≤ D * K := by rw [ey]; exact Rat.mul_le_mul_of_nonneg_right h2 (Rat.le_of_lt hK)
  have yD2 : -(y : Rat) ≤ D * K := by
    rw [ey]
    have := Rat.mul_le_mul_of_nonneg_right h1 (Rat.le_of_lt hK)
    grind
  have k1 : (x ≤ y ∨ x ≤ -y) ∧ (-x ≤ y ∨ -x ≤ -y) := by omega
  have x1 : (x : Rat) ≤ D * K := by
    rcases k1.1 with k | k
    · exact Rat.le_trans (Rat.intCast_le_intCast.mpr k) yD1
    · have := Rat.intCast_le_intCast.mpr k
      rw [Rat.intCast_neg] at this
      exact Rat.le_trans this yD2
  have x2 : -(x : Rat) ≤ D * K := by
    rw [← Rat.intCast_neg]
    rcases k1.2 with k | k
    · exact Rat.le_trans (Rat.intCast_le_intCast.mpr k) yD1
    · have := Rat.intCast_le_intCast.mpr k
      rw [Rat.intCast_neg y] at this
      exact Rat.le_trans this yD2
  rw [ex] at x1 x2
  constructor
  · refine Rat.le_of_mul_le_mul_right ?_ hK
    grind
  · refine Rat.le_of_mul_le_mul_right ?_ hK
    exact x1
theorem own_grid {a : Rat} {k : Int} (h0 : 0 ≤ a) (hk : a ≤ (2 : Rat) ^ k) : ∃ n : Nat, n ≤ 2 ^ 53 ∧ (n : Rat) * 2 ^ (k - 53) - a ≤ 2 ^ (k - 54) ∧ a - (n : Rat) * 2 ^ (k - 53) ≤ 2 ^ (k - 54) := by
  have hu := own_p_pos (k - 53)
  have e1 : (2 : Rat) ^ k = 2 ^ (k - 53) * 9007199254740992 := by
    rw [show (9007199254740992 : Rat) = (2 : Rat) ^ (53 : Int) by decide +kernel, ← own_p_add]; congr 1; omega
  have e2 : (2 : Rat) ^ (k - 53) = 2 ^ (k - 54) * 2 := by
    have := own_p_add (k - 54) 1
    rw [Rat.zpow_one, show k - 54 + 1 = k - 53 by omega] at this
    exact this
  have hv := own_p_pos (k - 54)
  rw [e1] at hk
  generalize (2 : Rat) ^ (k - 54) = g at *
  generalize (2 : Rat) ^ (k - 53) = u at *
  obtain ⟨f, hf⟩ : ∃ f : Int, f = (a / u + 1 / 2).floor := ⟨_, rfl⟩
  have f1 : (f : Rat) ≤ a / u + 1 / 2 := by rw [hf]; exact Rat.floor_le _
  have f2 : a / u + 1 / 2 < ((f + 1 : Int) : Rat) := by rw [hf]; exact Rat.lt_floor_add_one _
  rw [Rat.intCast_add, show ((1 : Int) : Rat) = 1 from rfl] at f2
  have ha : a = a / u * u := (Rat.div_mul_cancel (Rat.ne_of_gt hu)).symm
  have hb1 : a / u ≤ 9007199254740992 := by rw [own_div_le hu]; grind
  have hb0 : 0 ≤ a / u := by rw [own_le_div hu]; grind
  generalize a / u = t at *
  have n0 : 0 ≤ f := by
    refine Int.not_lt.mp fun q => ?_
    have : (f : Rat) ≤ -1 := (show ((f : Int) : Rat) ≤ ((-1 : Int) : Rat) from Rat.intCast_le_intCast.mpr (by omega))
    grind
  have n1 : f ≤ 9007199254740992 := by
    refine Int.not_lt.mp fun q => ?_
    have : (9007199254740993 : Rat) ≤ (f : Rat) := (show ((9007199254740993 : Int) : Rat) ≤ ((f : Int) : Rat) from Rat.intCast_le_intCast.mpr (by omega))
    grind
  refine ⟨f.toNat, by omega, ?_⟩
  have ec : ((f.toNat : Nat) : Rat) = (f : Rat) := by rw [← Rat.intCast_natCast, Int.toNat_of_nonneg n0]
  rw [ec, ha]
  have m1 : ((f : Rat) - t) * u ≤ (1 / 2) * u := Rat.mul_le_mul_of_nonneg_right (by grind) (Rat.le_of_lt hu)
  have m2 : (t - (f : Rat)) * u ≤ (1 / 2) * u := Rat.mul_le_mul_of_nonneg_right (by grind) (Rat.le_of_lt hu)
  constructor <;> grind
theorem own_err0 {s : Bool} {A B : Nat} {e : Int} {c : Nat} {q : Int} (hB : 0 < B) (hR : roundRatio b64 s A B e = .fin s c q) {k : Int} (hk1 : -1000 ≤ k) (hle : (A : Rat) / (B : Rat) * 2 ^ e ≤ 2 ^ k) :
    (c : Rat) * 2 ^ q - (A : Rat) / (B : Rat) * 2 ^ e ≤ 2 ^ (k - 54) ∧ (A : Rat) / (B : Rat) * 2 ^ e - (c : Rat) * 2 ^ q ≤ 2 ^ (k - 54) := by
  obtain ⟨n, hn, h1, h2⟩ := own_grid (own_ratio_nonneg A B e) hle
  rcases Nat.lt_or_eq_of_le hn with hlt | heq
  · exact own_near hB hR (c' := n) (q' := k - 53) hlt (by omega) h1 h2
  · subst heq
    have e3 : ((2 ^ 53 : Nat) : Rat) * 2 ^ (k - 53) = ((2 ^ 52 : Nat) : Rat) * 2 ^ (k - 52) := by
      rw [own_p_nat, own_p_nat, ← own_p_add, ← own_p_add]; congr 1
      show (53 : Int) + (k - 53) = 52 + (k - 52); omega
    rw [e3] at h1 h2
    exact own_near hB hR (c' := 2 ^ 52) (q' := k - 52) (by decide) (by omega) h1 h2
theorem own_p_mono {a b : Int} (h : a ≤ b) : (2 : Rat) ^ a ≤ 2 ^ b := by
  have e : (2 : Rat) ^ b = 2 ^ a * 2 ^ (b - a) := by rw [← own_p_add]; congr 1; omega
  have h1 : (1 : Rat) ≤ 2 ^ (b - a) := by
    rw [← own_p_toNat (by omega)]
    exact (show ((1 : Nat) : Rat) ≤ _ from Rat.natCast_le_natCast.mpr (Nat.one_le_two_pow))
  rw [e]
  have := Rat.mul_le_mul_of_nonneg_left h1 (Rat.le_of_lt (own_p_pos a))
  grind
/-- the error of a rounding, by a bound of what is rounded -/
theorem own_rd_err {x : UInt64} {r : Rat} (h : own_rd x r) {k : Int} (hk1 : -1000 ≤ k) (hk2 : k ≤ 1000) (h1 : r ≤ (2 : Rat) ^ k) (h2 : -((2 : Rat) ^ k) ≤ r) : ∃ v, own_is x v ∧ v - r ≤ 2 ^ (k - 54) ∧ r - v ≤ 2 ^ (k - 54) := by
  have hm := own_p_mono hk2
  obtain ⟨v, hv⟩ := own_rd_fin h (Rat.le_trans h1 hm) (Rat.le_trans (Rat.neg_le_neg hm) h2)
  refine ⟨v, hv, ?_⟩
  obtain ⟨s, A, B, e, hB, hx, hr⟩ := h
  obtain ⟨s', c, q, hx', hv'⟩ := hv
  rcases roundRatio_cases b64 s A B e with ⟨c2, q2, hc⟩ | hc
  · rw [hx, hc] at hx'
    cases hx'
    rw [own_signed_ratio] at hr
    rw [own_signed_pow] at hv'
    have hle : (A : Rat) / (B : Rat) * 2 ^ e ≤ 2 ^ k := by
      cases s
      · rw [if_neg (by decide)] at hr; rw [← hr]; exact h1
      · rw [if_pos rfl] at hr
        have : (A : Rat) / (B : Rat) * 2 ^ e = -r := by rw [hr, Rat.neg_neg]
        rw [this]; grind
    obtain ⟨g1, g2⟩ := own_err0 hB hc hk1 hle
    cases s
    · rw [if_neg (by decide)] at hr hv'; rw [hr, hv']; exact ⟨g1, g2⟩
    · rw [if_pos rfl] at hr hv'; rw [hr, hv']; constructor <;> grind
  · rw [hx, hc] at hx'; cases hx'
/-- a double that is a whole number, as the library says it -/
theorem own_whole {x : UInt64} {i : Int} (h : own_is x (i : Rat)) : DInt i x := by
  obtain ⟨s, c, q, hx, hr⟩ := h
  show Whole i (val64 x)
  rw [hx]
  show signed s (c * 2 ^ q.toNat) = i * ((2 ^ (-q).toNat : Nat) : Int)
  rw [← Rat.intCast_inj, own_signed_cast, Rat.intCast_mul, Rat.intCast_natCast]
  rcases Int.le_total 0 q with h0 | h0
  · rw [own_p_toNat h0, show (-q).toNat = 0 by omega, hr]
    rw [show ((2 ^ 0 : Nat) : Rat) = 1 from rfl, Rat.mul_one]
  · rw [own_p_toNat (a := -q) (by omega), show q.toNat = 0 by omega, hr, show ((2 ^ 0 : Nat) : Rat) = 1 from rfl, Rat.mul_one, Rat.mul_assoc, own_p_neg, Rat.mul_one]
theorem own_isd2l {x : UInt64} {a : Int64} (h : own_is x ((a.toInt : Int) : Rat)) : FP.d2l x = a := d2l_int (own_whole h)
/-- a whole number below 2^63, rounded: a whole number, at most 512 off -/
theorem own_rd_int {x : UInt64} {i : Int} (h : own_rd x (i : Rat)) (h1 : i ≤ 9223372036854775807) (h2 : -9223372036854775807 ≤ i) : ∃ j : Int, own_is x (j : Rat) ∧ j - i ≤ 512 ∧ i - j ≤ 512 := by
  rcases Nat.lt_or_ge i.natAbs (2 ^ 53) with hs | hs
  · exact ⟨i, own_rd_exact h (m := i) (k := 0) (by rw [Rat.zpow_zero, Rat.mul_one]) hs (by decide) (by decide), by omega, by omega⟩
  · have e63 : (2 : Rat) ^ (63 : Int) = 9223372036854775808 := by decide +kernel
    have e9 : (2 : Rat) ^ ((63 : Int) - 54) = 512 := by decide +kernel
    have i1 : ((i : Int) : Rat) ≤ 9223372036854775808 := (show ((i : Int) : Rat) ≤ ((9223372036854775808 : Int) : Rat) from Rat.intCast_le_intCast.mpr (by omega))
    have i2 : (-9223372036854775808 : Rat) ≤ ((i : Int) : Rat) := (show ((-9223372036854775808 : Int) : Rat) ≤ ((i : Int) : Rat) from Rat.intCast_le_intCast.mpr (by omega))
    obtain ⟨v, hv, g1, g2⟩ := own_rd_err h (k := 63) (by decide) (by decide) (by rw [e63]; exact i1) (by rw [e63]; exact i2)
    rw [e9] at g1 g2
    have hv0 := hv
    obtain ⟨s, c, q, hx, hr⟩ := hv0
    have hf := val64_fits x
    rw [hx] at hf
    have hc : c < 2 ^ 53 := hf.1
    obtain ⟨V, hV⟩ := own_rep' (r := 9007199254740992) (m := 1) (k := 53) (by decide +kernel) (by decide) (by decide) (by decide)
    have hq : 0 ≤ q := by
      refine Int.not_lt.mp fun q0 => ?_
      have c1 : (c : Rat) * 2 ^ q < 9007199254740992 := by
        have c2 : ((c : Nat) : Rat) < 9007199254740992 := (show ((c : Nat) : Rat) < ((9007199254740992 : Nat) : Rat) from Rat.natCast_lt_natCast.mpr hc)
        have c3 : (2 : Rat) ^ q ≤ 1 := by
          have := own_p_mono (show q ≤ 0 by omega)
          rw [Rat.zpow_zero] at this; exact this
        have c4 : (0 : Rat) ≤ ((c : Nat) : Rat) := Rat.natCast_nonneg
        have := Rat.mul_le_mul_of_nonneg_left c3 c4
        grind
      have cneg : (0 : Rat) ≤ (c : Rat) * 2 ^ q := Rat.mul_nonneg Rat.natCast_nonneg (Rat.le_of_lt (own_p_pos q))
      rw [own_signed_pow] at hr
      rcases Int.le_total 0 i with hi | hi
      · have : (9007199254740992 : Rat) ≤ ((i : Int) : Rat) := (show ((9007199254740992 : Int) : Rat) ≤ ((i : Int) : Rat) from Rat.intCast_le_intCast.mpr (by omega))
        have := own_rd_ge' h hv hV this
        cases s <;> simp only [Bool.false_eq_true, if_true, if_false] at hr <;> grind
      · have : ((i : Int) : Rat) ≤ -9007199254740992 := (show ((i : Int) : Rat) ≤ ((-9007199254740992 : Int) : Rat) from Rat.intCast_le_intCast.mpr (by omega))
        have := own_rd_le' h hv (own_neg hV) this
        cases s <;> simp only [Bool.false_eq_true, if_true, if_false] at hr <;> grind
    have hj : v = ((signed s (c * 2 ^ q.toNat) : Int) : Rat) := by rw [own_signed_cast, own_p_toNat hq]; exact hr
    refine ⟨signed s (c * 2 ^ q.toNat), hj ▸ hv, ?_, ?_⟩
    · rw [hj, ← Rat.intCast_sub] at g1
      exact Rat.intCast_le_intCast.mp (show _ ≤ ((512 : Int) : Rat) from g1)
    · rw [hj, ← Rat.intCast_sub] at g2
      exact Rat.intCast_le_intCast.mp (show _ ≤ ((512 : Int) : Rat) from g2)
theorem own_rd_small {x : UInt64} {i : Int} (h : own_rd x (i : Rat)) (hs : i.natAbs < 2 ^ 53) : own_is x (i : Rat) :=
  own_rd_exact h (m := i) (k := 0) (by rw [Rat.zpow_zero, Rat.mul_one]) hs (by decide) (by decide)
end OwnNum5
section OwnNum6
open Jvm.FP.Core Jvm.Free.Fl
/-- a rational that is a double -/
def own_Rep (r : Rat) : Prop := ∃ m k : Int, r = (m : Rat) * (2 : Rat) ^ k ∧ m.natAbs < 2 ^ 53 ∧ -1074 ≤ k ∧ k ≤ 971
theorem own_rd_rep {x : UInt64} {r : Rat} (h : own_rd x r) (hr : own_Rep r) : own_is x r := by
  obtain ⟨m, k, h1, h2, h3, h4⟩ := hr
  exact own_rd_exact h h1 h2 h3 h4
theorem own_rep_int {i : Int} (h : i.natAbs < 2 ^ 53) : own_Rep (i : Rat) := ⟨i, 0, by rw [Rat.zpow_zero, Rat.mul_one], h, by decide, by decide⟩
/-- in halves, quarters ..: j binary places -/
theorem own_rep_fix {r : Rat} (m : Int) (j : Nat) (hj : j ≤ 1000) (hr : r * ((2 ^ j : Nat) : Rat) = (m : Rat)) (hm : m.natAbs < 2 ^ 53) : own_Rep r := by
  refine ⟨m, -(j : Int), ?_, hm, by omega, by omega⟩
  rw [← hr, own_p_nat, Rat.mul_assoc, own_p_neg, Rat.mul_one]
theorem own_nb {x y : Int} {X Y : Nat} (hx : x.natAbs ≤ X) (hy : y.natAbs ≤ Y) : (x * y).natAbs ≤ X * Y := by rw [Int.natAbs_mul]; exact Nat.mul_le_mul hx hy
theorem own_rd_self {z x : UInt64} {r : Rat} (h : own_rd z r) (hx : own_is x r) (h1 : r ≤ 1606938044258990275541962092341162602522202993782792835301376) (h2 : -1606938044258990275541962092341162602522202993782792835301376 ≤ r) : own_is z r := by
  obtain ⟨v, hv⟩ := own_rd_finN h h1 h2
  have : v = r := Rat.le_antisymm (own_rd_le' h hv hx Rat.le_refl) (own_rd_ge' h hv hx Rat.le_refl)
  exact this ▸ hv
/-- two roundings of one rational are one number -/
theorem own_rd_same {z x : UInt64} {r a b : Rat} (h : own_rd z r) (h' : own_rd x r) (ha : own_is z a) (hb : own_is x b) : a = b := (own_is_eq ha hb).mp (own_rd_uniq h h')
theorem own_cle {a b : Int} (h : a ≤ b) : ((a : Int) : Rat) ≤ ((b : Int) : Rat) := Rat.intCast_le_intCast.mpr h
end OwnNum6
open Jvm Jvm.ClassFile Sem Op Lib Jvm.Free Jvm.Stand Jvm.LawKit Jvm.RoadKit Bundle Jvm.Pilot.@@N@@.Jvm.D
/-! the walk layer: own_Go says that from one frame another one is reached, whatever the heap; one rule an instruction -/
section OwnWalk
open Jvm.Free Jvm.Free.Fl
def own_Ldc (tb : Tables) (e : Env) (below : List Frame) (T : State) (m : MethodId) (c : Code) (i : Nat) (v : Value) : Prop :=
  ∀ (g : JFrame) (target : State), g.method = m →
    ((∃ x, v = .int x) → decode c.code g.pc = .ok (.ldc i, 2) → Steps tb e below (T.setTop { g with pc := g.pc + 2, stack := v :: g.stack }) target → Steps tb e below (T.setTop g) target) ∧
    ((∃ x, v = .int x) → decode c.code g.pc = .ok (.ldc_w i, 3) → Steps tb e below (T.setTop { g with pc := g.pc + 3, stack := v :: g.stack }) target → Steps tb e below (T.setTop g) target) ∧
    (((∃ x, v = .long x) ∨ ∃ x, v = .double x) → decode c.code g.pc = .ok (.ldc2_w i, 3) → Steps tb e below (T.setTop { g with pc := g.pc + 3, stack := v :: g.stack }) target → Steps tb e below (T.setTop g) target)
def own_Go (P : List (Nat × Value)) (b : ByteArray) (pc : Nat) (L : Array Slot) (S : List Value) (pc' : Nat) (L' : Array Slot) (S' : List Value) : Prop :=
  ∀ (tb : Tables) [Ours tb] (e : Env) (below : List Frame) (T target : State) (m : MethodId) (c : Code), At T m c below → tb.exec = Jvm.exec → c.code = b →
    (∀ q ∈ P, own_Ldc tb e below T m c q.1 q.2) → Steps tb e below (T.setTop (mkF m pc' L' S')) target → Steps tb e below (T.setTop (mkF m pc L S)) target
variable {P : List (Nat × Value)} {b : ByteArray} {pc pcE : Nat} {L L' LE : Array Slot} {S SE : List Value}
theorem own_refl : own_Go P b pc L S pc L S := fun tb _ e below T target m c h hx hy hP k => k
theorem own_trans {pcM : Nat} {LM : Array Slot} {SM : List Value} (r1 : own_Go P b pc L S pcM LM SM) (r2 : own_Go P b pcM LM SM pcE LE SE) : own_Go P b pc L S pcE LE SE :=
  fun tb _ e below T target m c h hx hy hP k => r1 tb e below T target m c h hx hy hP (r2 tb e below T target m c h hx hy hP k)
theorem own_at {pc2 : Nat} {L2 : Array Slot} {S2 : List Value} (h1 : pc = pc2) (h2 : L = L2) (h3 : S = S2) (r : own_Go P b pc L S pcE LE SE) : own_Go P b pc2 L2 S2 pcE LE SE := by subst h1 h2 h3; exact r
theorem own_end {pc2 : Nat} {L2 : Array Slot} {S2 : List Value} (h1 : pcE = pc2) (h2 : LE = L2) (h3 : SE = S2) (r : own_Go P b pc L S pcE LE SE) : own_Go P b pc L S pc2 L2 S2 := by subst h1 h2 h3; exact r
theorem own_iload {j : Nat} {v : Int32} {pc2 : Nat} (hd : decode b pc = .ok (.iload j, 2)) (hpc : pc + 2 = pc2) (hl : L[j]? = some (.val (.int v))) (r : own_Go P b pc2 L (.int v :: S) pcE LE SE) : own_Go P b pc L (S) pcE LE SE := by
  intro tb _ e below T target m c h hx hy hP k; subst hpc; exact XS.iload h hx rfl (hb hy hd) hl (r tb e below T target m c h hx hy hP k)
theorem own_iloadN {j : Fin 4} {v : Int32} {pc2 : Nat} (hd : decode b pc = .ok (.iload_n j, 1)) (hpc : pc + 1 = pc2) (hl : L[j.val]? = some (.val (.int v))) (r : own_Go P b pc2 L (.int v :: S) pcE LE SE) : own_Go P b pc L (S) pcE LE SE := by
  intro tb _ e below T target m c h hx hy hP k; subst hpc; exact XS.iloadN h hx rfl (hb hy hd) hl (r tb e below T target m c h hx hy hP k)
theorem own_istore {j : Nat} {v : Int32} {rest : List Value} {pc2 : Nat} (hd : decode b pc = .ok (.istore j, 2)) (hpc : pc + 2 = pc2) (hl : storeLocals L j (.int v) = some L') (r : own_Go P b pc2 L' (rest) pcE LE SE) : own_Go P b pc L (.int v :: rest) pcE LE SE := by
  intro tb _ e below T target m c h hx hy hP k; subst hpc; exact XS.istore h hx rfl (hb hy hd) rfl hl (r tb e below T target m c h hx hy hP k)
theorem own_istoreN {j : Fin 4} {v : Int32} {rest : List Value} {pc2 : Nat} (hd : decode b pc = .ok (.istore_n j, 1)) (hpc : pc + 1 = pc2) (hl : storeLocals L j.val (.int v) = some L') (r : own_Go P b pc2 L' (rest) pcE LE SE) : own_Go P b pc L (.int v :: rest) pcE LE SE := by
  intro tb _ e below T target m c h hx hy hP k; subst hpc; exact XS.istoreN h hx rfl (hb hy hd) rfl hl (r tb e below T target m c h hx hy hP k)
theorem own_lload {j : Nat} {v : Int64} {pc2 : Nat} (hd : decode b pc = .ok (.lload j, 2)) (hpc : pc + 2 = pc2) (hl : L[j]? = some (.val (.long v))) (r : own_Go P b pc2 L (.long v :: S) pcE LE SE) : own_Go P b pc L (S) pcE LE SE := by
  intro tb _ e below T target m c h hx hy hP k; subst hpc; exact XS.lload h hx rfl (hb hy hd) hl (r tb e below T target m c h hx hy hP k)
theorem own_lloadN {j : Fin 4} {v : Int64} {pc2 : Nat} (hd : decode b pc = .ok (.lload_n j, 1)) (hpc : pc + 1 = pc2) (hl : L[j.val]? = some (.val (.long v))) (r : own_Go P b pc2 L (.long v :: S) pcE LE SE) : own_Go P b pc L (S) pcE LE SE := by
  intro tb _ e below T target m c h hx hy hP k; subst hpc; exact XS.lloadN h hx rfl (hb hy hd) hl (r tb e below T target m c h hx hy hP k)
theorem own_lstore {j : Nat} {v : Int64} {rest : List Value} {pc2 : Nat} (hd : decode b pc = .ok (.lstore j, 2)) (hpc : pc + 2 = pc2) (hl : storeLocals L j (.long v) = some L') (r : own_Go P b pc2 L' (rest) pcE LE SE) : own_Go P b pc L (.long v :: rest) pcE LE SE := by
  intro tb _ e below T target m c h hx hy hP k; subst hpc; exact XS.lstore h hx rfl (hb hy hd) rfl hl (r tb e below T target m c h hx hy hP k)
theorem own_lstoreN {j : Fin 4} {v : Int64} {rest : List Value} {pc2 : Nat} (hd : decode b pc = .ok (.lstore_n j, 1)) (hpc : pc + 1 = pc2) (hl : storeLocals L j.val (.long v) = some L') (r : own_Go P b pc2 L' (rest) pcE LE SE) : own_Go P b pc L (.long v :: rest) pcE LE SE := by
  intro tb _ e below T target m c h hx hy hP k; subst hpc; exact XS.lstoreN h hx rfl (hb hy hd) rfl hl (r tb e below T target m c h hx hy hP k)
theorem own_dload {j : Nat} {v : UInt64} {pc2 : Nat} (hd : decode b pc = .ok (.dload j, 2)) (hpc : pc + 2 = pc2) (hl : L[j]? = some (.val (.double v))) (r : own_Go P b pc2 L (.double v :: S) pcE LE SE) : own_Go P b pc L (S) pcE LE SE := by
  intro tb _ e below T target m c h hx hy hP k; subst hpc; exact XS.dload h hx rfl (hb hy hd) hl (r tb e below T target m c h hx hy hP k)
theorem own_dloadN {j : Fin 4} {v : UInt64} {pc2 : Nat} (hd : decode b pc = .ok (.dload_n j, 1)) (hpc : pc + 1 = pc2) (hl : L[j.val]? = some (.val (.double v))) (r : own_Go P b pc2 L (.double v :: S) pcE LE SE) : own_Go P b pc L (S) pcE LE SE := by
  intro tb _ e below T target m c h hx hy hP k; subst hpc; exact XS.dloadN h hx rfl (hb hy hd) hl (r tb e below T target m c h hx hy hP k)
theorem own_dstore {j : Nat} {v : UInt64} {rest : List Value} {pc2 : Nat} (hd : decode b pc = .ok (.dstore j, 2)) (hpc : pc + 2 = pc2) (hl : storeLocals L j (.double v) = some L') (r : own_Go P b pc2 L' (rest) pcE LE SE) : own_Go P b pc L (.double v :: rest) pcE LE SE := by
  intro tb _ e below T target m c h hx hy hP k; subst hpc; exact XS.dstore h hx rfl (hb hy hd) rfl hl (r tb e below T target m c h hx hy hP k)
theorem own_dstoreN {j : Fin 4} {v : UInt64} {rest : List Value} {pc2 : Nat} (hd : decode b pc = .ok (.dstore_n j, 1)) (hpc : pc + 1 = pc2) (hl : storeLocals L j.val (.double v) = some L') (r : own_Go P b pc2 L' (rest) pcE LE SE) : own_Go P b pc L (.double v :: rest) pcE LE SE := by
  intro tb _ e below T target m c h hx hy hP k; subst hpc; exact XS.dstoreN h hx rfl (hb hy hd) rfl hl (r tb e below T target m c h hx hy hP k)
theorem own_aload {j : Nat} {v : Value} {pc2 : Nat} (hd : decode b pc = .ok (.aload j, 2)) (hpc : pc + 2 = pc2) (hl : L[j]? = some (.val v)) (hr : v.isRef = true) (r : own_Go P b pc2 L (v :: S) pcE LE SE) : own_Go P b pc L (S) pcE LE SE := by
  intro tb _ e below T target m c h hx hy hP k; subst hpc; exact XS.aload h hx rfl (hb hy hd) hl hr (r tb e below T target m c h hx hy hP k)
theorem own_aloadN {j : Fin 4} {v : Value} {pc2 : Nat} (hd : decode b pc = .ok (.aload_n j, 1)) (hpc : pc + 1 = pc2) (hl : L[j.val]? = some (.val v)) (hr : v.isRef = true) (r : own_Go P b pc2 L (v :: S) pcE LE SE) : own_Go P b pc L (S) pcE LE SE := by
  intro tb _ e below T target m c h hx hy hP k; subst hpc; exact XS.aloadN h hx rfl (hb hy hd) hl hr (r tb e below T target m c h hx hy hP k)
theorem own_astore {j : Nat} {v : Value} {rest : List Value} {pc2 : Nat} (hd : decode b pc = .ok (.astore j, 2)) (hpc : pc + 2 = pc2) (hr : v.isRef = true) (hl : storeLocals L j v = some L') (r : own_Go P b pc2 L' (rest) pcE LE SE) : own_Go P b pc L (v :: rest) pcE LE SE := by
  intro tb _ e below T target m c h hx hy hP k; subst hpc; exact XS.astore h hx rfl (hb hy hd) rfl hr hl (r tb e below T target m c h hx hy hP k)
theorem own_astoreN {j : Fin 4} {v : Value} {rest : List Value} {pc2 : Nat} (hd : decode b pc = .ok (.astore_n j, 1)) (hpc : pc + 1 = pc2) (hr : v.isRef = true) (hl : storeLocals L j.val v = some L') (r : own_Go P b pc2 L' (rest) pcE LE SE) : own_Go P b pc L (v :: rest) pcE LE SE := by
  intro tb _ e below T target m c h hx hy hP k; subst hpc; exact XS.astoreN h hx rfl (hb hy hd) rfl hr hl (r tb e below T target m c h hx hy hP k)
theorem own_iconst {i : Int} {v : Int32} {pc2 : Nat} (hd : decode b pc = .ok (.iconst i, 1)) (hpc : pc + 1 = pc2) (hv : Int32.ofInt i = v) (r : own_Go P b pc2 L (.int v :: S) pcE LE SE) : own_Go P b pc L (S) pcE LE SE := by
  intro tb _ e below T target m c h hx hy hP k; subst hpc; subst hv; exact XS.iconst h hx rfl (hb hy hd) (r tb e below T target m c h hx hy hP k)
theorem own_bipush {i : Int} {v : Int32} {pc2 : Nat} (hd : decode b pc = .ok (.bipush i, 2)) (hpc : pc + 2 = pc2) (hv : (Int8.ofInt i).toInt32 = v) (r : own_Go P b pc2 L (.int v :: S) pcE LE SE) : own_Go P b pc L (S) pcE LE SE := by
  intro tb _ e below T target m c h hx hy hP k; subst hpc; subst hv; exact XS.bipush h hx rfl (hb hy hd) (r tb e below T target m c h hx hy hP k)
theorem own_sipush {i : Int} {v : Int32} {pc2 : Nat} (hd : decode b pc = .ok (.sipush i, 3)) (hpc : pc + 3 = pc2) (hv : (Int16.ofInt i).toInt32 = v) (r : own_Go P b pc2 L (.int v :: S) pcE LE SE) : own_Go P b pc L (S) pcE LE SE := by
  intro tb _ e below T target m c h hx hy hP k; subst hpc; subst hv; exact XS.sipush h hx rfl (hb hy hd) (r tb e below T target m c h hx hy hP k)
theorem own_lconst {j : Fin 2} {v : Int64} {pc2 : Nat} (hd : decode b pc = .ok (.lconst j, 1)) (hpc : pc + 1 = pc2) (hv : Int64.ofNat j = v) (r : own_Go P b pc2 L (.long v :: S) pcE LE SE) : own_Go P b pc L (S) pcE LE SE := by
  intro tb _ e below T target m c h hx hy hP k; subst hpc; subst hv; exact XS.lconst h hx rfl (hb hy hd) (r tb e below T target m c h hx hy hP k)
theorem own_dconst0  {v : UInt64} {pc2 : Nat} (hd : decode b pc = .ok (.dconst 0, 1)) (hpc : pc + 1 = pc2) (hv : FP.dconst0 = v) (r : own_Go P b pc2 L (.double v :: S) pcE LE SE) : own_Go P b pc L (S) pcE LE SE := by
  intro tb _ e below T target m c h hx hy hP k; subst hpc; subst hv; exact XS.dconst0 h hx rfl (hb hy hd) rfl (r tb e below T target m c h hx hy hP k)
theorem own_dconst1  {v : UInt64} {pc2 : Nat} (hd : decode b pc = .ok (.dconst 1, 1)) (hpc : pc + 1 = pc2) (hv : FP.dconst1 = v) (r : own_Go P b pc2 L (.double v :: S) pcE LE SE) : own_Go P b pc L (S) pcE LE SE := by
  intro tb _ e below T target m c h hx hy hP k; subst hpc; subst hv; exact XS.dconst1 h hx rfl (hb hy hd) rfl (r tb e below T target m c h hx hy hP k)
theorem own_aconstNull  {pc2 : Nat} (hd : decode b pc = .ok (.aconst_null, 1)) (hpc : pc + 1 = pc2) (r : own_Go P b pc2 L (.null :: S) pcE LE SE) : own_Go P b pc L (S) pcE LE SE := by
  intro tb _ e below T target m c h hx hy hP k; subst hpc; exact XS.aconstNull h hx rfl (hb hy hd) (r tb e below T target m c h hx hy hP k)
theorem own_iadd {x y : Int32} {v : Int32} {rest : List Value} {pc2 : Nat} (hd : decode b pc = .ok (.iadd, 1)) (hpc : pc + 1 = pc2) (hv : x + y = v) (r : own_Go P b pc2 L (.int v :: rest) pcE LE SE) : own_Go P b pc L (.int y :: .int x :: rest) pcE LE SE := by
  intro tb _ e below T target m c h hx hy hP k; subst hpc; subst hv; exact XS.iadd h hx rfl (hb hy hd) rfl (r tb e below T target m c h hx hy hP k)
theorem own_isub {x y : Int32} {v : Int32} {rest : List Value} {pc2 : Nat} (hd : decode b pc = .ok (.isub, 1)) (hpc : pc + 1 = pc2) (hv : x - y = v) (r : own_Go P b pc2 L (.int v :: rest) pcE LE SE) : own_Go P b pc L (.int y :: .int x :: rest) pcE LE SE := by
  intro tb _ e below T target m c h hx hy hP k; subst hpc; subst hv; exact XS.isub h hx rfl (hb hy hd) rfl (r tb e below T target m c h hx hy hP k)
theorem own_imul {x y : Int32} {v : Int32} {rest : List Value} {pc2 : Nat} (hd : decode b pc = .ok (.imul, 1)) (hpc : pc + 1 = pc2) (hv : x * y = v) (r : own_Go P b pc2 L (.int v :: rest) pcE LE SE) : own_Go P b pc L (.int y :: .int x :: rest) pcE LE SE := by
  intro tb _ e below T target m c h hx hy hP k; subst hpc; subst hv; exact XS.imul h hx rfl (hb hy hd) rfl (r tb e below T target m c h hx hy hP k)
theorem own_iand {x y : Int32} {v : Int32} {rest : List Value} {pc2 : Nat} (hd : decode b pc = .ok (.iand, 1)) (hpc : pc + 1 = pc2) (hv : x &&& y = v) (r : own_Go P b pc2 L (.int v :: rest) pcE LE SE) : own_Go P b pc L (.int y :: .int x :: rest) pcE LE SE := by
  intro tb _ e below T target m c h hx hy hP k; subst hpc; subst hv; exact XS.iand h hx rfl (hb hy hd) rfl (r tb e below T target m c h hx hy hP k)
theorem own_ior {x y : Int32} {v : Int32} {rest : List Value} {pc2 : Nat} (hd : decode b pc = .ok (.ior, 1)) (hpc : pc + 1 = pc2) (hv : x ||| y = v) (r : own_Go P b pc2 L (.int v :: rest) pcE LE SE) : own_Go P b pc L (.int y :: .int x :: rest) pcE LE SE := by
  intro tb _ e below T target m c h hx hy hP k; subst hpc; subst hv; exact XS.ior h hx rfl (hb hy hd) rfl (r tb e below T target m c h hx hy hP k)
theorem own_ixor {x y : Int32} {v : Int32} {rest : List Value} {pc2 : Nat} (hd : decode b pc = .ok (.ixor, 1)) (hpc : pc + 1 = pc2) (hv : x ^^^ y = v) (r : own_Go P b pc2 L (.int v :: rest) pcE LE SE) : own_Go P b pc L (.int y :: .int x :: rest) pcE LE SE := by
  intro tb _ e below T target m c h hx hy hP k; subst hpc; subst hv; exact XS.ixor h hx rfl (hb hy hd) rfl (r tb e below T target m c h hx hy hP k)
theorem own_ishl {x y : Int32} {v : Int32} {rest : List Value} {pc2 : Nat} (hd : decode b pc = .ok (.ishl, 1)) (hpc : pc + 1 = pc2) (hv : x <<< (y &&& 31) = v) (r : own_Go P b pc2 L (.int v :: rest) pcE LE SE) : own_Go P b pc L (.int y :: .int x :: rest) pcE LE SE := by
  intro tb _ e below T target m c h hx hy hP k; subst hpc; subst hv; exact XS.ishl h hx rfl (hb hy hd) rfl (r tb e below T target m c h hx hy hP k)
theorem own_ishr {x y : Int32} {v : Int32} {rest : List Value} {pc2 : Nat} (hd : decode b pc = .ok (.ishr, 1)) (hpc : pc + 1 = pc2) (hv : x >>> (y &&& 31) = v) (r : own_Go P b pc2 L (.int v :: rest) pcE LE SE) : own_Go P b pc L (.int y :: .int x :: rest) pcE LE SE := by
  intro tb _ e below T target m c h hx hy hP k; subst hpc; subst hv; exact XS.ishr h hx rfl (hb hy hd) rfl (r tb e below T target m c h hx hy hP k)
theorem own_iushr {x y : Int32} {v : Int32} {rest : List Value} {pc2 : Nat} (hd : decode b pc = .ok (.iushr, 1)) (hpc : pc + 1 = pc2) (hv : (x.toUInt32 >>> (y &&& 31).toUInt32).toInt32 = v) (r : own_Go P b pc2 L (.int v :: rest) pcE LE SE) : own_Go P b pc L (.int y :: .int x :: rest) pcE LE SE := by
  intro tb _ e below T target m c h hx hy hP k; subst hpc; subst hv; exact XS.iushr h hx rfl (hb hy hd) rfl (r tb e below T target m c h hx hy hP k)
theorem own_idiv {x y : Int32} {v : Int32} {rest : List Value} {pc2 : Nat} (hd : decode b pc = .ok (.idiv, 1)) (hpc : pc + 1 = pc2) (hn : y ≠ 0) (hv : x / y = v) (r : own_Go P b pc2 L (.int v :: rest) pcE LE SE) : own_Go P b pc L (.int y :: .int x :: rest) pcE LE SE := by
  intro tb _ e below T target m c h hx hy hP k; subst hpc; subst hv; exact XS.idiv h hx rfl (hb hy hd) rfl hn (r tb e below T target m c h hx hy hP k)
theorem own_irem {x y : Int32} {v : Int32} {rest : List Value} {pc2 : Nat} (hd : decode b pc = .ok (.irem, 1)) (hpc : pc + 1 = pc2) (hn : y ≠ 0) (hv : x - (x / y) * y = v) (r : own_Go P b pc2 L (.int v :: rest) pcE LE SE) : own_Go P b pc L (.int y :: .int x :: rest) pcE LE SE := by
  intro tb _ e below T target m c h hx hy hP k; subst hpc; subst hv; exact XS.irem h hx rfl (hb hy hd) rfl hn (r tb e below T target m c h hx hy hP k)
theorem own_ladd {x y : Int64} {v : Int64} {rest : List Value} {pc2 : Nat} (hd : decode b pc = .ok (.ladd, 1)) (hpc : pc + 1 = pc2) (hv : x + y = v) (r : own_Go P b pc2 L (.long v :: rest) pcE LE SE) : own_Go P b pc L (.long y :: .long x :: rest) pcE LE SE := by
  intro tb _ e below T target m c h hx hy hP k; subst hpc; subst hv; exact XS.ladd h hx rfl (hb hy hd) rfl (r tb e below T target m c h hx hy hP k)
theorem own_lsub {x y : Int64} {v : Int64} {rest : List Value} {pc2 : Nat} (hd : decode b pc = .ok (.lsub, 1)) (hpc : pc + 1 = pc2) (hv : x - y = v) (r : own_Go P b pc2 L (.long v :: rest) pcE LE SE) : own_Go P b pc L (.long y :: .long x :: rest) pcE LE SE := by
  intro tb _ e below T target m c h hx hy hP k; subst hpc; subst hv; exact XS.lsub h hx rfl (hb hy hd) rfl (r tb e below T target m c h hx hy hP k)
theorem own_lmul {x y : Int64} {v : Int64} {rest : List Value} {pc2 : Nat} (hd : decode b pc = .ok (.lmul, 1)) (hpc : pc + 1 = pc2) (hv : x * y = v) (r : own_Go P b pc2 L (.long v :: rest) pcE LE SE) : own_Go P b pc L (.long y :: .long x :: rest) pcE LE SE := by
  intro tb _ e below T target m c h hx hy hP k; subst hpc; subst hv; exact XS.lmul h hx rfl (hb hy hd) rfl (r tb e below T target m c h hx hy hP k)
theorem own_land {x y : Int64} {v : Int64} {rest : List Value} {pc2 : Nat} (hd : decode b pc = .ok (.land, 1)) (hpc : pc + 1 = pc2) (hv : x &&& y = v) (r : own_Go P b pc2 L (.long v :: rest) pcE LE SE) : own_Go P b pc L (.long y :: .long x :: rest) pcE LE SE := by
  intro tb _ e below T target m c h hx hy hP k; subst hpc; subst hv; exact XS.land h hx rfl (hb hy hd) rfl (r tb e below T target m c h hx hy hP k)
theorem own_lor {x y : Int64} {v : Int64} {rest : List Value} {pc2 : Nat} (hd : decode b pc = .ok (.lor, 1)) (hpc : pc + 1 = pc2) (hv : x ||| y = v) (r : own_Go P b pc2 L (.long v :: rest) pcE LE SE) : own_Go P b pc L (.long y :: .long x :: rest) pcE LE SE := by
  intro tb _ e below T target m c h hx hy hP k; subst hpc; subst hv; exact XS.lor h hx rfl (hb hy hd) rfl (r tb e below T target m c h hx hy hP k)
theorem own_lxor {x y : Int64} {v : Int64} {rest : List Value} {pc2 : Nat} (hd : decode b pc = .ok (.lxor, 1)) (hpc : pc + 1 = pc2) (hv : x ^^^ y = v) (r : own_Go P b pc2 L (.long v :: rest) pcE LE SE) : own_Go P b pc L (.long y :: .long x :: rest) pcE LE SE := by
  intro tb _ e below T target m c h hx hy hP k; subst hpc; subst hv; exact XS.lxor h hx rfl (hb hy hd) rfl (r tb e below T target m c h hx hy hP k)
theorem own_ldiv {x y : Int64} {v : Int64} {rest : List Value} {pc2 : Nat} (hd : decode b pc = .ok (.ldiv, 1)) (hpc : pc + 1 = pc2) (hn : y ≠ 0) (hv : x / y = v) (r : own_Go P b pc2 L (.long v :: rest) pcE LE SE) : own_Go P b pc L (.long y :: .long x :: rest) pcE LE SE := by
  intro tb _ e below T target m c h hx hy hP k; subst hpc; subst hv; exact XS.ldiv h hx rfl (hb hy hd) rfl hn (r tb e below T target m c h hx hy hP k)
theorem own_lrem {x y : Int64} {v : Int64} {rest : List Value} {pc2 : Nat} (hd : decode b pc = .ok (.lrem, 1)) (hpc : pc + 1 = pc2) (hn : y ≠ 0) (hv : x - (x / y) * y = v) (r : own_Go P b pc2 L (.long v :: rest) pcE LE SE) : own_Go P b pc L (.long y :: .long x :: rest) pcE LE SE := by
  intro tb _ e below T target m c h hx hy hP k; subst hpc; subst hv; exact XS.lrem h hx rfl (hb hy hd) rfl hn (r tb e below T target m c h hx hy hP k)
theorem own_lshl {x : Int64} {y : Int32} {v : Int64} {rest : List Value} {pc2 : Nat} (hd : decode b pc = .ok (.lshl, 1)) (hpc : pc + 1 = pc2) (hv : x <<< (y &&& 0x3f).toInt64 = v) (r : own_Go P b pc2 L (.long v :: rest) pcE LE SE) : own_Go P b pc L (.int y :: .long x :: rest) pcE LE SE := by
  intro tb _ e below T target m c h hx hy hP k; subst hpc; subst hv; exact XS.lshl h hx rfl (hb hy hd) rfl (r tb e below T target m c h hx hy hP k)
theorem own_lshr {x : Int64} {y : Int32} {v : Int64} {rest : List Value} {pc2 : Nat} (hd : decode b pc = .ok (.lshr, 1)) (hpc : pc + 1 = pc2) (hv : x >>> (y &&& 0x3f).toInt64 = v) (r : own_Go P b pc2 L (.long v :: rest) pcE LE SE) : own_Go P b pc L (.int y :: .long x :: rest) pcE LE SE := by
  intro tb _ e below T target m c h hx hy hP k; subst hpc; subst hv; exact XS.lshr h hx rfl (hb hy hd) rfl (r tb e below T target m c h hx hy hP k)
theorem own_lushr {x : Int64} {y : Int32} {v : Int64} {rest : List Value} {pc2 : Nat} (hd : decode b pc = .ok (.lushr, 1)) (hpc : pc + 1 = pc2) (hv : (x.toUInt64 >>> (y &&& 0x3f).toInt64.toUInt64).toInt64 = v) (r : own_Go P b pc2 L (.long v :: rest) pcE LE SE) : own_Go P b pc L (.int y :: .long x :: rest) pcE LE SE := by
  intro tb _ e below T target m c h hx hy hP k; subst hpc; subst hv; exact XS.lushr h hx rfl (hb hy hd) rfl (r tb e below T target m c h hx hy hP k)
theorem own_lcmp {x y : Int64} {v : Int32} {rest : List Value} {pc2 : Nat} (hd : decode b pc = .ok (.lcmp, 1)) (hpc : pc + 1 = pc2) (hv : (if x > y then 1 else if x = y then 0 else -1) = v) (r : own_Go P b pc2 L (.int v :: rest) pcE LE SE) : own_Go P b pc L (.long y :: .long x :: rest) pcE LE SE := by
  intro tb _ e below T target m c h hx hy hP k; subst hpc; subst hv; exact XS.lcmp h hx rfl (hb hy hd) rfl (r tb e below T target m c h hx hy hP k)
theorem own_ineg {x : Int32} {v : Int32} {rest : List Value} {pc2 : Nat} (hd : decode b pc = .ok (.ineg, 1)) (hpc : pc + 1 = pc2) (hv : -x = v) (r : own_Go P b pc2 L (.int v :: rest) pcE LE SE) : own_Go P b pc L (.int x :: rest) pcE LE SE := by
  intro tb _ e below T target m c h hx hy hP k; subst hpc; subst hv; exact XS.ineg h hx rfl (hb hy hd) rfl (r tb e below T target m c h hx hy hP k)
theorem own_lneg {x : Int64} {v : Int64} {rest : List Value} {pc2 : Nat} (hd : decode b pc = .ok (.lneg, 1)) (hpc : pc + 1 = pc2) (hv : -x = v) (r : own_Go P b pc2 L (.long v :: rest) pcE LE SE) : own_Go P b pc L (.long x :: rest) pcE LE SE := by
  intro tb _ e below T target m c h hx hy hP k; subst hpc; subst hv; exact XS.lneg h hx rfl (hb hy hd) rfl (r tb e below T target m c h hx hy hP k)
theorem own_i2l {x : Int32} {v : Int64} {rest : List Value} {pc2 : Nat} (hd : decode b pc = .ok (.i2l, 1)) (hpc : pc + 1 = pc2) (hv : x.toInt64 = v) (r : own_Go P b pc2 L (.long v :: rest) pcE LE SE) : own_Go P b pc L (.int x :: rest) pcE LE SE := by
  intro tb _ e below T target m c h hx hy hP k; subst hpc; subst hv; exact XS.i2l h hx rfl (hb hy hd) rfl (r tb e below T target m c h hx hy hP k)
theorem own_l2i {x : Int64} {v : Int32} {rest : List Value} {pc2 : Nat} (hd : decode b pc = .ok (.l2i, 1)) (hpc : pc + 1 = pc2) (hv : x.toInt32 = v) (r : own_Go P b pc2 L (.int v :: rest) pcE LE SE) : own_Go P b pc L (.long x :: rest) pcE LE SE := by
  intro tb _ e below T target m c h hx hy hP k; subst hpc; subst hv; exact XS.l2i h hx rfl (hb hy hd) rfl (r tb e below T target m c h hx hy hP k)
theorem own_i2b {x : Int32} {v : Int32} {rest : List Value} {pc2 : Nat} (hd : decode b pc = .ok (.i2b, 1)) (hpc : pc + 1 = pc2) (hv : x.toInt8.toInt32 = v) (r : own_Go P b pc2 L (.int v :: rest) pcE LE SE) : own_Go P b pc L (.int x :: rest) pcE LE SE := by
  intro tb _ e below T target m c h hx hy hP k; subst hpc; subst hv; exact XS.i2b h hx rfl (hb hy hd) rfl (r tb e below T target m c h hx hy hP k)
theorem own_i2c {x : Int32} {v : Int32} {rest : List Value} {pc2 : Nat} (hd : decode b pc = .ok (.i2c, 1)) (hpc : pc + 1 = pc2) (hv : x.toUInt32.toUInt16.toUInt32.toInt32 = v) (r : own_Go P b pc2 L (.int v :: rest) pcE LE SE) : own_Go P b pc L (.int x :: rest) pcE LE SE := by
  intro tb _ e below T target m c h hx hy hP k; subst hpc; subst hv; exact XS.i2c h hx rfl (hb hy hd) rfl (r tb e below T target m c h hx hy hP k)
theorem own_i2d {x : Int32} {v : UInt64} {rest : List Value} {pc2 : Nat} (hd : decode b pc = .ok (.i2d, 1)) (hpc : pc + 1 = pc2) (hv : FP.i2d x = v) (r : own_Go P b pc2 L (.double v :: rest) pcE LE SE) : own_Go P b pc L (.int x :: rest) pcE LE SE := by
  intro tb _ e below T target m c h hx hy hP k; subst hpc; subst hv; exact XS.i2dS h hx rfl (hb hy hd) rfl rfl (r tb e below T target m c h hx hy hP k)
theorem own_l2d {x : Int64} {v : UInt64} {rest : List Value} {pc2 : Nat} (hd : decode b pc = .ok (.l2d, 1)) (hpc : pc + 1 = pc2) (hv : FP.l2d x = v) (r : own_Go P b pc2 L (.double v :: rest) pcE LE SE) : own_Go P b pc L (.long x :: rest) pcE LE SE := by
  intro tb _ e below T target m c h hx hy hP k; subst hpc; subst hv; exact XS.l2dS h hx rfl (hb hy hd) rfl rfl (r tb e below T target m c h hx hy hP k)
theorem own_d2i {x : UInt64} {v : Int32} {rest : List Value} {pc2 : Nat} (hd : decode b pc = .ok (.d2i, 1)) (hpc : pc + 1 = pc2) (hv : FP.d2i x = v) (r : own_Go P b pc2 L (.int v :: rest) pcE LE SE) : own_Go P b pc L (.double x :: rest) pcE LE SE := by
  intro tb _ e below T target m c h hx hy hP k; subst hpc; subst hv; exact XS.d2iS h hx rfl (hb hy hd) rfl rfl (r tb e below T target m c h hx hy hP k)
theorem own_d2l {x : UInt64} {v : Int64} {rest : List Value} {pc2 : Nat} (hd : decode b pc = .ok (.d2l, 1)) (hpc : pc + 1 = pc2) (hv : FP.d2l x = v) (r : own_Go P b pc2 L (.long v :: rest) pcE LE SE) : own_Go P b pc L (.double x :: rest) pcE LE SE := by
  intro tb _ e below T target m c h hx hy hP k; subst hpc; subst hv; exact XS.d2lS h hx rfl (hb hy hd) rfl rfl (r tb e below T target m c h hx hy hP k)
theorem own_dneg {x : UInt64} {v : UInt64} {rest : List Value} {pc2 : Nat} (hd : decode b pc = .ok (.dneg, 1)) (hpc : pc + 1 = pc2) (hv : FP.dneg x = v) (r : own_Go P b pc2 L (.double v :: rest) pcE LE SE) : own_Go P b pc L (.double x :: rest) pcE LE SE := by
  intro tb _ e below T target m c h hx hy hP k; subst hpc; subst hv; exact XS.dnegS h hx rfl (hb hy hd) rfl rfl (r tb e below T target m c h hx hy hP k)
theorem own_dcmp {o : CmpOp} {x y : UInt64} {v : Int32} {rest : List Value} {pc2 : Nat} (hd : decode b pc = .ok (.dcmp o, 1)) (hpc : pc + 1 = pc2) (hv : cmpValue (FP.dcmp x y) o = v) (r : own_Go P b pc2 L (.int v :: rest) pcE LE SE) : own_Go P b pc L (.double y :: .double x :: rest) pcE LE SE := by
  intro tb _ e below T target m c h hx hy hP k; subst hpc; subst hv; exact XS.dcmpS h hx rfl (hb hy hd) rfl rfl (r tb e below T target m c h hx hy hP k)
theorem own_dadd {x y : UInt64} {v : UInt64} {rest : List Value} {pc2 : Nat} (hd : decode b pc = .ok (.dadd, 1)) (hpc : pc + 1 = pc2) (hn : NoNaN64 (FP.dadd x y)) (hv : FP.dadd x y = v) (r : own_Go P b pc2 L (.double v :: rest) pcE LE SE) : own_Go P b pc L (.double y :: .double x :: rest) pcE LE SE := by
  intro tb _ e below T target m c h hx hy hP k; subst hpc; subst hv; exact XS.daddS h hx rfl (hb hy hd) rfl hn rfl (r tb e below T target m c h hx hy hP k)
theorem own_dsub {x y : UInt64} {v : UInt64} {rest : List Value} {pc2 : Nat} (hd : decode b pc = .ok (.dsub, 1)) (hpc : pc + 1 = pc2) (hn : NoNaN64 (FP.dsub x y)) (hv : FP.dsub x y = v) (r : own_Go P b pc2 L (.double v :: rest) pcE LE SE) : own_Go P b pc L (.double y :: .double x :: rest) pcE LE SE := by
  intro tb _ e below T target m c h hx hy hP k; subst hpc; subst hv; exact XS.dsubS h hx rfl (hb hy hd) rfl hn rfl (r tb e below T target m c h hx hy hP k)
theorem own_dmul {x y : UInt64} {v : UInt64} {rest : List Value} {pc2 : Nat} (hd : decode b pc = .ok (.dmul, 1)) (hpc : pc + 1 = pc2) (hn : NoNaN64 (FP.dmul x y)) (hv : FP.dmul x y = v) (r : own_Go P b pc2 L (.double v :: rest) pcE LE SE) : own_Go P b pc L (.double y :: .double x :: rest) pcE LE SE := by
  intro tb _ e below T target m c h hx hy hP k; subst hpc; subst hv; exact XS.dmulS h hx rfl (hb hy hd) rfl hn rfl (r tb e below T target m c h hx hy hP k)
theorem own_ddiv {x y : UInt64} {v : UInt64} {rest : List Value} {pc2 : Nat} (hd : decode b pc = .ok (.ddiv, 1)) (hpc : pc + 1 = pc2) (hn : NoNaN64 (FP.ddiv x y)) (hv : FP.ddiv x y = v) (r : own_Go P b pc2 L (.double v :: rest) pcE LE SE) : own_Go P b pc L (.double y :: .double x :: rest) pcE LE SE := by
  intro tb _ e below T target m c h hx hy hP k; subst hpc; subst hv; exact XS.ddivS h hx rfl (hb hy hd) rfl hn rfl (r tb e below T target m c h hx hy hP k)
theorem own_dup {v : Value} {rest : List Value} {pc2 : Nat} (hd : decode b pc = .ok (.dup, 1)) (hpc : pc + 1 = pc2) (hc : v.category = 1) (r : own_Go P b pc2 L (v :: v :: rest) pcE LE SE) : own_Go P b pc L (v :: rest) pcE LE SE := by
  intro tb _ e below T target m c h hx hy hP k; subst hpc; exact XS.dup h hx rfl (hb hy hd) rfl hc (r tb e below T target m c h hx hy hP k)
theorem own_pop {v : Value} {rest : List Value} {pc2 : Nat} (hd : decode b pc = .ok (.pop, 1)) (hpc : pc + 1 = pc2) (hc : v.category = 1) (r : own_Go P b pc2 L (rest) pcE LE SE) : own_Go P b pc L (v :: rest) pcE LE SE := by
  intro tb _ e below T target m c h hx hy hP k; subst hpc; exact XS.pop h hx rfl (hb hy hd) rfl hc (r tb e below T target m c h hx hy hP k)
theorem own_dupX1 {v w : Value} {rest : List Value} {pc2 : Nat} (hd : decode b pc = .ok (.dup_x1, 1)) (hpc : pc + 1 = pc2) (hc : v.category = 1) (hc' : w.category = 1) (r : own_Go P b pc2 L (v :: w :: v :: rest) pcE LE SE) : own_Go P b pc L (v :: w :: rest) pcE LE SE := by
  intro tb _ e below T target m c h hx hy hP k; subst hpc; exact XS.dupX1 h hx rfl (hb hy hd) rfl hc hc' (r tb e below T target m c h hx hy hP k)
theorem own_dup2 {v w : Value} {rest : List Value} {pc2 : Nat} (hd : decode b pc = .ok (.dup2, 1)) (hpc : pc + 1 = pc2) (hc : v.category = 1) (hc' : w.category = 1) (r : own_Go P b pc2 L (v :: w :: v :: w :: rest) pcE LE SE) : own_Go P b pc L (v :: w :: rest) pcE LE SE := by
  intro tb _ e below T target m c h hx hy hP k; subst hpc; exact XT.dup2 h hx rfl (hb hy hd) rfl hc hc' (r tb e below T target m c h hx hy hP k)
theorem own_ifYes {cd : ClassFile.Cond} {x : Int32} {o : Int} {pc' : Nat} {rest : List Value} (hd : decode b pc = .ok (.ifCond cd o, 3)) (hc : ifCond.holds cd x = true) (ho : 0 ≤ (pc : Int) + o) (hp : ((pc : Int) + o).toNat = pc') (r : own_Go P b pc' L rest pcE LE SE) : own_Go P b pc L (.int x :: rest) pcE LE SE := by
  intro tb _ e below T target m c h hx hy hP k; exact XS.ifYes h hx rfl rfl (hb hy hd) rfl hc ho hp (r tb e below T target m c h hx hy hP k)
theorem own_ifNo {cd : ClassFile.Cond} {x : Int32} {o : Int} {rest : List Value} {pc2 : Nat} (hd : decode b pc = .ok (.ifCond cd o, 3)) (hpc : pc + 3 = pc2) (hc : ifCond.holds cd x = false) (r : own_Go P b pc2 L rest pcE LE SE) : own_Go P b pc L (.int x :: rest) pcE LE SE := by
  intro tb _ e below T target m c h hx hy hP k; subst hpc; exact XS.ifNo h hx rfl (hb hy hd) rfl hc (r tb e below T target m c h hx hy hP k)
theorem own_icmpYes {cd : ClassFile.Cond} {x y : Int32} {o : Int} {pc' : Nat} {rest : List Value} (hd : decode b pc = .ok (.if_icmp cd o, 3)) (hc : if_icmp.holds cd x y = true) (ho : 0 ≤ (pc : Int) + o) (hp : ((pc : Int) + o).toNat = pc') (r : own_Go P b pc' L rest pcE LE SE) : own_Go P b pc L (.int y :: .int x :: rest) pcE LE SE := by
  intro tb _ e below T target m c h hx hy hP k; exact XS.icmpYes h hx rfl rfl (hb hy hd) rfl hc ho hp (r tb e below T target m c h hx hy hP k)
theorem own_icmpNo {cd : ClassFile.Cond} {x y : Int32} {o : Int} {rest : List Value} {pc2 : Nat} (hd : decode b pc = .ok (.if_icmp cd o, 3)) (hpc : pc + 3 = pc2) (hc : if_icmp.holds cd x y = false) (r : own_Go P b pc2 L rest pcE LE SE) : own_Go P b pc L (.int y :: .int x :: rest) pcE LE SE := by
  intro tb _ e below T target m c h hx hy hP k; subst hpc; exact XS.icmpNo h hx rfl (hb hy hd) rfl hc (r tb e below T target m c h hx hy hP k)
theorem own_ifnullYes {o : Int} {pc' : Nat} {rest : List Value} (hd : decode b pc = .ok (.ifnull o, 3)) (ho : 0 ≤ (pc : Int) + o) (hp : ((pc : Int) + o).toNat = pc') (r : own_Go P b pc' L rest pcE LE SE) : own_Go P b pc L (.null :: rest) pcE LE SE := by
  intro tb _ e below T target m c h hx hy hP k; exact XS.ifnullYes h hx rfl rfl (hb hy hd) rfl ho hp (r tb e below T target m c h hx hy hP k)
theorem own_ifnullNo {o : Int} {a : Addr} {rest : List Value} {pc2 : Nat} (hd : decode b pc = .ok (.ifnull o, 3)) (hpc : pc + 3 = pc2) (r : own_Go P b pc2 L rest pcE LE SE) : own_Go P b pc L (.ref a :: rest) pcE LE SE := by
  intro tb _ e below T target m c h hx hy hP k; subst hpc; exact XS.ifnullNo h hx rfl (hb hy hd) rfl (r tb e below T target m c h hx hy hP k)
theorem own_ifnonnullYes {o : Int} {pc' : Nat} {a : Addr} {rest : List Value} (hd : decode b pc = .ok (.ifnonnull o, 3)) (ho : 0 ≤ (pc : Int) + o) (hp : ((pc : Int) + o).toNat = pc') (r : own_Go P b pc' L rest pcE LE SE) : own_Go P b pc L (.ref a :: rest) pcE LE SE := by
  intro tb _ e below T target m c h hx hy hP k; exact XS.ifnonnullYes h hx rfl rfl (hb hy hd) rfl ho hp (r tb e below T target m c h hx hy hP k)
theorem own_ifnonnullNo {o : Int} {rest : List Value} {pc2 : Nat} (hd : decode b pc = .ok (.ifnonnull o, 3)) (hpc : pc + 3 = pc2) (r : own_Go P b pc2 L rest pcE LE SE) : own_Go P b pc L (.null :: rest) pcE LE SE := by
  intro tb _ e below T target m c h hx hy hP k; subst hpc; exact XS.ifnonnullNo h hx rfl (hb hy hd) rfl (r tb e below T target m c h hx hy hP k)
theorem own_acmpYes {cd : ClassFile.ACond} {x y : Addr} {o : Int} {pc' : Nat} {rest : List Value} (hd : decode b pc = .ok (.if_acmp cd o, 3)) (hc : if_acmp.holds cd (some x) (some y) = true) (ho : 0 ≤ (pc : Int) + o) (hp : ((pc : Int) + o).toNat = pc') (r : own_Go P b pc' L rest pcE LE SE) : own_Go P b pc L (.ref y :: .ref x :: rest) pcE LE SE := by
  intro tb _ e below T target m c h hx hy hP k; exact XS.acmpYes h hx rfl rfl (hb hy hd) rfl hc ho hp (r tb e below T target m c h hx hy hP k)
theorem own_acmpNo {cd : ClassFile.ACond} {x y : Addr} {o : Int} {rest : List Value} {pc2 : Nat} (hd : decode b pc = .ok (.if_acmp cd o, 3)) (hpc : pc + 3 = pc2) (hc : if_acmp.holds cd (some x) (some y) = false) (r : own_Go P b pc2 L rest pcE LE SE) : own_Go P b pc L (.ref y :: .ref x :: rest) pcE LE SE := by
  intro tb _ e below T target m c h hx hy hP k; subst hpc; exact XS.acmpNo h hx rfl (hb hy hd) rfl hc (r tb e below T target m c h hx hy hP k)
theorem own_goto {o : Int} {pc' : Nat} (hd : decode b pc = .ok (.goto o, 3)) (ho : 0 ≤ (pc : Int) + o) (hp : ((pc : Int) + o).toNat = pc') (r : own_Go P b pc' L S pcE LE SE) : own_Go P b pc L S pcE LE SE := by
  intro tb _ e below T target m c h hx hy hP k; exact XS.goto h hx rfl rfl (hb hy hd) ho hp (r tb e below T target m c h hx hy hP k)
theorem own_iinc {j : Nat} {cst : Int} {x v : Int32} {pc2 : Nat} (hd : decode b pc = .ok (.iinc j cst, 3)) (hpc : pc + 3 = pc2) (hl : L[j]? = some (.val (.int x))) (hv : x + Int32.ofInt cst = v) (hl' : storeLocals L j (.int v) = some L') (r : own_Go P b pc2 L' S pcE LE SE) : own_Go P b pc L S pcE LE SE := by
  intro tb _ e below T target m c h hx hy hP k; subst hpc; subst hv; exact XS.iinc h hx rfl (hb hy hd) hl hl' (r tb e below T target m c h hx hy hP k)
theorem own_ldc {i : Nat} {v : Int32} {pc2 : Nat} (hd : decode b pc = .ok (.ldc i, 2)) (hpc : pc + 2 = pc2) (hk : (i, Value.int v) ∈ P) (r : own_Go P b pc2 L (.int v :: S) pcE LE SE) : own_Go P b pc L S pcE LE SE := by
  intro tb _ e below T target m c h hx hy hP k; subst hpc; exact (hP _ hk (mkF m pc L S) target rfl).1 ⟨_, rfl⟩ (hb hy hd) (r tb e below T target m c h hx hy hP k)
theorem own_ldcW {i : Nat} {v : Int32} {pc2 : Nat} (hd : decode b pc = .ok (.ldc_w i, 3)) (hpc : pc + 3 = pc2) (hk : (i, Value.int v) ∈ P) (r : own_Go P b pc2 L (.int v :: S) pcE LE SE) : own_Go P b pc L S pcE LE SE := by
  intro tb _ e below T target m c h hx hy hP k; subst hpc; exact (hP _ hk (mkF m pc L S) target rfl).2.1 ⟨_, rfl⟩ (hb hy hd) (r tb e below T target m c h hx hy hP k)
theorem own_ldc2L {i : Nat} {v : Int64} {pc2 : Nat} (hd : decode b pc = .ok (.ldc2_w i, 3)) (hpc : pc + 3 = pc2) (hk : (i, Value.long v) ∈ P) (r : own_Go P b pc2 L (.long v :: S) pcE LE SE) : own_Go P b pc L S pcE LE SE := by
  intro tb _ e below T target m c h hx hy hP k; subst hpc; exact (hP _ hk (mkF m pc L S) target rfl).2.2 (Or.inl ⟨_, rfl⟩) (hb hy hd) (r tb e below T target m c h hx hy hP k)
theorem own_ldc2D {i : Nat} {v : UInt64} {pc2 : Nat} (hd : decode b pc = .ok (.ldc2_w i, 3)) (hpc : pc + 3 = pc2) (hk : (i, Value.double v) ∈ P) (r : own_Go P b pc2 L (.double v :: S) pcE LE SE) : own_Go P b pc L S pcE LE SE := by
  intro tb _ e below T target m c h hx hy hP k; subst hpc; exact (hP _ hk (mkF m pc L S) target rfl).2.2 (Or.inr ⟨_, rfl⟩) (hb hy hd) (r tb e below T target m c h hx hy hP k)
end OwnWalk
section OwnPool
open Jvm.Free Jvm.Stand
variable {p : Program} {l : Launch} {e : Env} {R : Room} {s : State} {m : MethodId} {args : Array Value} {below : List Frame} {meth : Method} {c : Code} {T : State} {locs : List Loc} {cells slots : Nat} {Z : State} {a0 : Array Value}
def own_Word (own : String) (i : Nat) : Value → Jvm.Cond → Prop
  | .int v, w => w = .constant own i v
  | .long v, w => w = .constantLong own i v
  | .double v, w => w = .constantDouble own i v
  | _, _ => False
theorem own_pool1 (X : Stand p l e R s m args below meth c T locs cells slots) (hx : p.tables.exec = Jvm.exec) (hZ : Z.Warmed39 s.vm) {own : String} (hown : s.vm.findClass own = some m.cls) {i : Nat} {v : Value} {w : Jvm.Cond} (hv : own_Word own i v w) (hw : w.before a0 Z = true) : own_Ldc p.tables e below T m c i v := by
  intro g target hg
  cases v with
  | int v =>
    cases (show w = .constant own i v from hv)
    exact ⟨fun _ hd k => X.ldcInt hx hown (mvT hZ hw) hg hd target k, fun _ hd k => X.ldcwInt hx hown (mvT hZ hw) hg hd target k, fun h => (by rcases h with ⟨_, h⟩ | ⟨_, h⟩ <;> cases h)⟩
  | long v =>
    cases (show w = .constantLong own i v from hv)
    exact ⟨fun h => (by obtain ⟨_, h⟩ := h; cases h), fun h => (by obtain ⟨_, h⟩ := h; cases h), fun _ hd k => X.ldc2Long hx hown (mvT hZ hw) hg hd target k⟩
  | double v =>
    cases (show w = .constantDouble own i v from hv)
    exact ⟨fun h => (by obtain ⟨_, h⟩ := h; cases h), fun h => (by obtain ⟨_, h⟩ := h; cases h), fun _ hd k => X.ldc2DoubleC hx hown (mvT hZ hw) hg hd target k⟩
  | _ => exact absurd hv (fun h => h)
theorem own_pool (X : Stand p l e R s m args below meth c T locs cells slots) (hx : p.tables.exec = Jvm.exec) (hZ : Z.Warmed39 s.vm) {own : String} (hown : s.vm.findClass own = some m.cls) {ws : List Jvm.Cond} (hw : ∀ d ∈ ws, d.before a0 Z = true) {P : List (Nat × Value)} (hP : ∀ q ∈ P, ∃ w ∈ ws, own_Word own q.1 q.2 w) : ∀ q ∈ P, own_Ldc p.tables e below T m c q.1 q.2 := by
  intro q hq
  obtain ⟨w, h1, h2⟩ := hP q hq
  exact own_pool1 X hx hZ hown h2 (hw w h1)
end OwnPool
/-! the call layer: a method that leaves the heap as it was, and its call -/
section OwnCall
open Jvm.Free Jvm.Stand Jvm.LawKit Jvm.RoadKit
variable {p : Program} {l : Launch} {e : Env} {R : Room} {s : State} {m : MethodId} {args : Array Value} {below : List Frame} {meth : Method} {c : Code} {T : State} {locs : List Loc} {cells slots : Nat} {Z : State} {a0 : Array Value} {h : Heap}
abbrev own_room (fr lo : Nat) : Room := { frames := fr, cells := 0, slots := 0, locals := lo }
def own_Pure (l : Launch) (Z : State) (y : MethodName) (bytes : ByteArray) (maxL : Nat) (ret : Option FieldType) (fr lo : Nat) (as' : Array Value) (h : Heap) (v : Option Value) : Prop :=
  MetFree l y (head1 [Jvm.Cond.code y bytes maxL ret] (own_room fr lo)) (fun a U => a = as' ∧ Z.Warmed39 U.vm ∧ U.heap = h) (fun _ _ _ _ _ => True) (fun _ U o U' => ∃ w L, o = .returned w ∧ (w = v ∧ L = [] ∧ U'.heap = h) ∧ FrameEnd U o U' L (own_room fr lo).cells (own_room fr lo).slots)
def own_Ret (i : Instr) (t : FieldType) (w : Value) : Prop := narrow t w = w ∧ ((i = .ireturn ∧ (t = .int ∨ t = .boolean ∨ t = .byte ∨ t = .char ∨ t = .short) ∧ ∃ z, w = .int z) ∨ (i = .lreturn ∧ t = .long ∧ ∃ z, w = .long z) ∨ (i = .dreturn ∧ t = .double ∧ ∃ z, w = .double z) ∨ (i = .freturn ∧ t = .float ∧ ∃ z, w = .float z) ∨ (i = .areturn ∧ t.isReference = true ∧ w.isRef = true))
theorem own_retD (x : UInt64) : own_Ret .dreturn .double (.double x) := ⟨rfl, Or.inr (Or.inr (Or.inl ⟨rfl, rfl, x, rfl⟩))⟩
theorem own_retI (x : Int32) : own_Ret .ireturn .int (.int x) := ⟨rfl, Or.inl ⟨rfl, Or.inl rfl, x, rfl⟩⟩
theorem own_retJ (x : Int64) : own_Ret .lreturn .long (.long x) := ⟨rfl, Or.inr (Or.inl ⟨rfl, rfl, x, rfl⟩)⟩
theorem own_retZ {x : Int32} (hx : x = 0 ∨ x = 1) : own_Ret .ireturn .boolean (.int x) := ⟨by rcases hx with rfl | rfl <;> rfl, Or.inl ⟨rfl, Or.inr (Or.inl rfl), x, rfl⟩⟩
theorem own_pure_go {y : MethodName} {bytes : ByteArray} {maxL : Nat} {t : FieldType} {as' : Array Value} {P : List (Nat × Value)} {L0 LR : Array Slot} {SR : List Value} {pcR : Nat} {val : Value} {i : Instr} {ws : List Jvm.Cond} (hpl : plainName y.cls = true) (hw : ∀ d ∈ ws, d.before a0 Z = true) (hP : ∀ q ∈ P, ∃ w ∈ ws, own_Word y.cls q.1 q.2 w)
    (hef : ∀ m, entryFrame m as' maxL = mkF m 0 L0 []) (body : own_Go P bytes 0 L0 [] pcR LR (val :: SR)) (hd : decode bytes pcR = .ok (i, 1)) (hr : own_Ret i t val) : own_Pure l Z y bytes maxL (some t) 0 0 as' h (some val) := by
  refine MetFree.of_bodySF (plainFor_of_name hpl) hisR ?_
  intro p e s m args below meth c s₁ Bd hml0 hPP hK
  obtain ⟨rfl, hZ, hh⟩ := hPP
  have hx := Bd.exec
  have hby := Bd.bytes
  have hown : s.vm.findClass y.cls = some m.cls := findClass_of_methodNamed Bd.named
  have X0 : Stand p l e (own_room 0 0) s m _ below meth c s₁ [] 0 0 := Stand.of_body Bd
  have e0 : s₁.heap = h := by rw [← hh, Bd.state]; rfl
  obtain ⟨fs, hr', hrun, hended, hW, hsame⟩ := X0.leave (v := some val) (fun h => by rw [Bd.returns] at h; cases h)
  refine ⟨_, _, castTop (hef m) (body p.tables e below s₁ _ m c X0.here hx hby (own_pool X0 hx hZ hown hw hP) (retOut X0 hx Bd.returns hr.1 hr.2 (hb hby hd) hr')), hrun, hended, _, _, rfl, ⟨rfl, rfl, ?_⟩, ⟨_, rfl⟩, hW, hsame⟩
  exact e0
theorem own_callP (X : Stand p l e R s m args below meth c T locs cells slots) (hx : p.tables.exec = Jvm.exec) (hZ : Z.Warmed39 s.vm) {own : String} {index : Nat} {y : MethodName} {bytes : ByteArray} {maxL : Nat} {ret : Option FieldType} (hown : s.vm.findClass own = some m.cls)
    (w1 : (Jvm.Cond.methodLink own index y).before a0 Z = true) (w2 : (Jvm.Cond.static y).before a0 Z = true) (w3 : (Jvm.Cond.initialized y.cls).before a0 Z = true) (w4 : (Jvm.Cond.code y bytes maxL ret).before a0 Z = true) (hy : y.cls ≠ "java/lang/invoke/MethodHandle" ∧ y.cls ≠ "java/lang/invoke/VarHandle")
    (eT : T.heap = h) {fr lo W : Nat} {argsL rest : List Value} {v : Option Value} (hM : own_Pure l Z y bytes maxL ret fr lo argsL.toArray h v) (hf : fr + 1 ≤ R.frames) (hl : W + (maxL + 11) + lo ≤ R.locals) (hc : cells ≤ R.cells) (hs : slots ≤ R.slots)
    {g : JFrame} (hg : g.method = m) (hsize : g.locals.size = c.maxLocals) (hlen : ∀ sig, parseMethodDescriptor y.desc = some sig → argsL.length = sig.parameters.length) (hst : g.stack = argsL.reverse ++ rest) (hW : 2 * g.monitorRoom + (rest.map fun v => v.category).sum ≤ W) (hd : decode c.code g.pc = .ok (.invokestatic index, 3)) :
    ∃ T', Stand p l e R s m args below meth c T' locs cells slots ∧ T'.heap = h ∧ ∀ target, Steps p.tables e below (T'.setTop { g with pc := g.pc + 3, stack := v.toList ++ rest }) target → Steps p.tables e below (T.setTop g) target := by
  obtain ⟨v', vm1, ⟨T2, L2, k2, n2⟩, -, X2, ⟨Lc, hQ, l2, y2, z2⟩, st⟩ := Jvm.LawKit.callS X hx hown (mvT hZ w1) (mvT hZ w2) (mvT hZ w3) (mvT hZ w4) hy (backOf (W := W) (rm := own_room fr lo) (Q := fun w H L => w = v ∧ L = [] ∧ H = h) hM hZ w4 w3 hf hl) hg hsize hlen hst hW hd (fun _ _ => ⟨rfl, eT, hc, hs⟩)
  dsimp only [Pt.U, Pt.locs, Pt.cells, Pt.slots] at X2 l2 y2 z2 st hQ
  obtain ⟨rfl, rfl, e2⟩ := hQ
  subst l2 y2 z2
  rw [List.append_nil] at X2
  exact ⟨T2, X2, e2, st⟩
end OwnCall
/-! the heap layer: own_Hp says what the cells made since the start hold; one rule a step -/
section OwnHeap
open Jvm.Free Jvm.Stand Jvm.LawKit Jvm.RoadKit
abbrev own_Cel := (String × List (String × String × String × Value)) ⊕ (FieldType × List Value)
abbrev own_O (C : String) (fs : List (String × String × String × Value)) : own_Cel := Sum.inl (C, fs)
abbrev own_A (ty : FieldType) (vs : List Value) : own_Cel := Sum.inr (ty, vs)
/-- what is known of an array's class -/
def own_AC (Z : State) (h : Heap) (a : Addr) (c : Cell) (ty : FieldType) : Prop :=
  match ty with
  | .object C => Ovr Z c.cls C
  | .array t => OvrA Z c.cls t (FieldType.array t).toString ∧ Exa Z h a ("[" ++ (FieldType.array t).toString)
  | t => Exa Z h a ("[" ++ t.toString)
theorem own_AC_map {Z : State} {h h' : Heap} {a : Addr} {c c' : Cell} {ty : FieldType} (hc : c'.cls = c.cls) (hE : ∀ C, Exa Z h a C → Exa Z h' a C) (H : own_AC Z h a c ty) : own_AC Z h' a c' ty := by
  cases ty <;> simp only [own_AC, hc] at H ⊢ <;> first | exact H | exact hE _ H | exact ⟨H.1, hE _ H.2⟩
def own_Is (Z : State) (a0 : Array Value) (h : Heap) (a : Addr) (q : own_Cel) : Prop :=
  match q with
  | .inl (C, fs) => Exa Z h a C ∧ (∀ f ∈ fs, Fld Z h a f.1 f.2.1 f.2.2.1 f.2.2.2 ∧ Laid Z a0 C f.1 f.2.1 f.2.2.1 ∧ ∃ t, parseFieldDescriptor f.2.2.1 = some t) ∧ (fs.map fun f => f.2.1).Nodup
  | .inr (ty, vs) => ∃ c : Cell, Arr Z h a c ty ∧ c.slots.toList = vs ∧ own_AC Z h a c ty
/-- the start's heap, and a floor that the heap has not fallen below -/
abbrev own_Base : Type := Heap × Nat
abbrev own_Base.b (hb : own_Base) : Heap := hb.1
abbrev own_Base.fl (hb : own_Base) : Nat := hb.2
abbrev own_Base.size (hb : own_Base) : Nat := hb.b.size
def own_Bx (hb : own_Base) (h : Heap) : Prop := Ext hb.b h ∧ hb.fl ≤ h.size
def own_Hp (Z : State) (a0 : Array Value) (hb : own_Base) (h : Heap) (cs : List (Addr × own_Cel)) : Prop := own_Bx hb h ∧ (∀ q ∈ cs, own_Is Z a0 h q.1 q.2 ∧ hb.size ≤ q.1) ∧ (cs.map Prod.fst).Nodup
section Facts
variable {Z : State} {a0 : Array Value} {hb : own_Base} {h h' : Heap} {cs : List (Addr × own_Cel)} {a b : Addr} {q : own_Cel}
theorem own_Is_lt (H : own_Is Z a0 h a q) : a < h.size := by
  match q, H with
  | .inl (C, fs), H => exact H.1.lt
  | .inr (ty, vs), ⟨c, A, _⟩ => exact A.lt
theorem own_Is_ext (E : Ext h h') (H : own_Is Z a0 h a q) : own_Is Z a0 h' a q := by
  match q, H with
  | .inl (C, fs), H => exact ⟨H.1.ext E, fun f hf => ⟨(H.2.1 f hf).1.ext E, (H.2.1 f hf).2⟩, H.2.2⟩
  | .inr (ty, vs), ⟨c, A, e⟩ => exact ⟨c, A.ext E, e.1, own_AC_map rfl (fun C F => F.ext E) e.2⟩
theorem own_Is_wr {sl : Nat} {v : Value} (W : Wr h h' b sl v) (hne : a ≠ b) (H : own_Is Z a0 h a q) : own_Is Z a0 h' a q := by
  match q, H with
  | .inl (C, fs), H => exact ⟨H.1.wr W, fun f hf => ⟨(H.2.1 f hf).1.other W (Or.inl hne), (H.2.1 f hf).2⟩, H.2.2⟩
  | .inr (ty, vs), ⟨c, A, e⟩ => exact ⟨c, A.other W hne, e.1, own_AC_map rfl (fun C F => F.wr W) e.2⟩
theorem own_ext_trans {h1 h2 h3 : Heap} (E : Ext h1 h2) (F : Ext h2 h3) : Ext h1 h3 := ⟨Nat.le_trans E.1 F.1, fun a c q => F.2 a c (E.2 a c q)⟩
theorem own_ext_refl (h1 : Heap) : Ext h1 h1 := ⟨Nat.le_refl _, fun _ _ q => q⟩
theorem own_bx_trans (E : own_Bx hb h) (F : Ext h h') : own_Bx hb h' := ⟨own_ext_trans E.1 F, Nat.le_trans E.2 F.1⟩
theorem own_ext_wr {sl : Nat} {v : Value} (E0 : own_Bx hb h) (W : Wr h h' b sl v) (hn : hb.size ≤ b) : own_Bx hb h' := by
  obtain ⟨E, E2⟩ := E0
  refine ⟨⟨by rw [W.size]; exact E.1, fun x c q => ?_⟩, by rw [W.size]; exact E2⟩
  have hx : x < hb.size := (Array.getElem?_eq_some_iff.mp q).1
  obtain ⟨cb, h1, -, -, -, h5, -⟩ := wr_at W (E.2 x c q)
  rw [h1, h5 (Nat.ne_of_lt (Nat.lt_of_lt_of_le hx hn))]
theorem own_Hp_start (Z : State) (a0 : Array Value) (hb : Heap) : own_Hp Z a0 ⟨hb, 0⟩ hb [] := ⟨⟨own_ext_refl hb, Nat.zero_le _⟩, fun q hq => absurd hq List.not_mem_nil, List.nodup_nil⟩
theorem own_Hp_new (H : own_Hp Z a0 hb h cs) (E : Ext h h') (N : own_Is Z a0 h' h.size q) : own_Hp Z a0 hb h' (cs ++ [(h.size, q)]) := by
  refine ⟨own_bx_trans H.1 E, fun p hp => ?_, ?_⟩
  · rcases List.mem_append.mp hp with hp | hp
    · exact ⟨own_Is_ext E (H.2.1 p hp).1, (H.2.1 p hp).2⟩
    · cases List.mem_singleton.mp hp
      exact ⟨N, H.1.1.1⟩
  · rw [List.map_append, List.nodup_append]
    refine ⟨H.2.2, by simp, fun x hx y hy => ?_⟩
    simp only [List.map_cons, List.map_nil, List.mem_singleton] at hy
    subst hy
    obtain ⟨p, hp, rfl⟩ := List.mem_map.mp hx
    exact Nat.ne_of_lt (own_Is_lt (H.2.1 p hp).1)
theorem own_Hp_ext (H : own_Hp Z a0 hb h cs) (E : Ext h h') : own_Hp Z a0 hb h' cs :=
  ⟨own_bx_trans H.1 E, fun p hp => ⟨own_Is_ext E (H.2.1 p hp).1, (H.2.1 p hp).2⟩, H.2.2⟩
theorem own_get (H : own_Hp Z a0 hb h cs) {i : Nat} (hi : cs[i]? = some (a, q)) : own_Is Z a0 h a q ∧ hb.size ≤ a := H.2.1 _ (List.mem_of_getElem? hi)
theorem own_ne (H : own_Hp Z a0 hb h cs) {i j : Nat} {q' : own_Cel} (hi : cs[i]? = some (a, q)) (hj : cs[j]? = some (b, q')) (hne : i ≠ j) : a ≠ b := by
  rintro rfl
  have hN := H.2.2
  obtain ⟨hi1, hi2⟩ := List.getElem?_eq_some_iff.mp hi
  obtain ⟨hj1, hj2⟩ := List.getElem?_eq_some_iff.mp hj
  have := (List.getElem_inj (xs := cs.map Prod.fst) (i := i) (j := j) (h₀ := by simpa using hi1) (h₁ := by simpa using hj1) hN).mp (by simp [hi2, hj2])
  exact hne this
theorem own_Hp_set (H : own_Hp Z a0 hb h cs) {i : Nat} {q' : own_Cel} {sl : Nat} {v : Value} (hi : cs[i]? = some (a, q)) (W : Wr h h' a sl v) (N : own_Is Z a0 h' a q') : own_Hp Z a0 hb h' (cs.set i (a, q')) := by
  obtain ⟨hi1, hi2⟩ := List.getElem?_eq_some_iff.mp hi
  refine ⟨own_ext_wr H.1 W (own_get H hi).2, fun p hp => ?_, ?_⟩
  · obtain ⟨j, hj, rfl⟩ := List.mem_iff_getElem.mp hp
    rw [List.getElem_set]
    split
    · exact ⟨N, (own_get H hi).2⟩
    · rename_i hne
      have hj' : j < cs.length := by simpa using hj
      have hm := H.2.1 cs[j] (List.getElem_mem hj')
      refine ⟨own_Is_wr W ?_ hm.1, hm.2⟩
      intro e
      exact own_ne H hi (j := j) (b := cs[j].1) (q' := cs[j].2) (List.getElem?_eq_getElem hj') hne e.symm
  · rw [List.map_set, show (a, q').fst = (cs.map Prod.fst)[i]'(by simpa using hi1) by simp [hi2], List.set_getElem_self]
    exact H.2.2
theorem own_Is_fld {C : String} {fs : List (String × String × String × Value)} {j : Nat} {O n d : String} {old v : Value} (H : own_Is Z a0 h a (own_O C fs)) (hj : fs[j]? = some (O, n, d, old)) (W : Wr h h' a (RoadKit.slotOf Z O n d) v) : own_Is Z a0 h' a (own_O C (fs.set j (O, n, d, v))) := by
  obtain ⟨h1, h2, h3⟩ := H
  obtain ⟨hj1, hj2⟩ := List.getElem?_eq_some_iff.mp hj
  refine ⟨h1.wr W, fun f hf => ?_, ?_⟩
  · obtain ⟨k, hk, rfl⟩ := List.mem_iff_getElem.mp hf
    have hm := h2 _ (List.mem_of_getElem? hj)
    rw [List.getElem_set]
    split
    · exact ⟨hm.1.same W, hm.2⟩
    · rename_i hne
      have hk' : k < fs.length := by simpa using hk
      have hk2 := h2 fs[k] (List.getElem_mem hk')
      obtain ⟨t, ht⟩ := hk2.2.2
      obtain ⟨t', ht'⟩ := hm.2.2
      refine ⟨hk2.1.other W (Or.inr (slot_ne hk2.2.1 hm.2.1 (fun e => ?_) ht ht')), hk2.2⟩
      have := (List.getElem_inj (xs := fs.map fun f => f.2.1) (i := k) (j := j) (h₀ := by simpa using hk') (h₁ := by simpa using hj1) h3).mp (by simp [hj2]; exact e)
      exact hne this.symm
  · rw [List.map_set, show (O, n, d, v).2.1 = (fs.map fun f => f.2.1)[j]'(by simpa using hj1) by simp [hj2], List.set_getElem_self]
    exact h3
theorem own_Is_elt {ty : FieldType} {vs : List Value} {j : Nat} {v : Value} (H : own_Is Z a0 h a (own_A ty vs)) (W : Wr h h' a j v) : own_Is Z a0 h' a (own_A ty (vs.set j v)) := by
  obtain ⟨c, A, e⟩ := H
  refine ⟨_, A.same W, ?_, own_AC_map rfl (fun C F => F.wr W) e.2⟩
  rw [← e.1]
  simp [Cell.setSlot]
end Facts
def own_S (p : Program) (l : Launch) (e : Env) (R : Room) (s : State) (m : MethodId) (args : Array Value) (below : List Frame) (meth : Method) (c : Code) (Z : State) (a0 : Array Value) (hb : own_Base) (T : State) (cs : List (Addr × own_Cel)) (k n : Nat) : Prop :=
  ∃ locs, Stand p l e R s m args below meth c T locs k n ∧ Fr hb.size locs ∧ own_Hp Z a0 hb T.heap cs
section Rules
variable {p : Program} {l : Launch} {e : Env} {R : Room} {s : State} {m : MethodId} {args : Array Value} {below : List Frame} {meth : Method} {c : Code} {T : State} {Z : State} {a0 : Array Value} {hb : own_Base} {cs : List (Addr × own_Cel)} {k n : Nat}
theorem own_go (H : own_S p l e R s m args below meth c Z a0 hb T cs k n) (hx : p.tables.exec = Jvm.exec) (hZ : Z.Warmed39 s.vm) {own : String} (hown : s.vm.findClass own = some m.cls) {bytes : ByteArray} (hby : c.code = bytes) {ws : List Jvm.Cond} (hw : ∀ d ∈ ws, d.before a0 Z = true) {P : List (Nat × Value)} (hP : ∀ q ∈ P, ∃ w ∈ ws, own_Word own q.1 q.2 w)
    {pc pc' : Nat} {L L' : Array Slot} {S S' : List Value} (r : own_Go P bytes pc L S pc' L' S') : ∀ target, Steps p.tables e below (T.setTop (mkF m pc' L' S')) target → Steps p.tables e below (T.setTop (mkF m pc L S)) target := by
  obtain ⟨locs, X, -, -⟩ := H
  exact fun target q => r p.tables e below T target m c X.here hx hby (own_pool X hx hZ hown hw hP) q
theorem own_newO (H : own_S p l e R s m args below meth c Z a0 hb T cs k n) (hx : p.tables.exec = Jvm.exec) (hZ : Z.Warmed39 s.vm) {own C : String} {index nn : Nat} (hown : s.vm.findClass own = some m.cls) (w : (Jvm.Cond.classLink own index C).before a0 Z = true) (wi : (Jvm.Cond.instantiable C nn).before a0 Z = true) (wz : (Jvm.Cond.initialized C).before a0 Z = true)
    (fs : List (String × String × String × Value)) (hfs : ∀ f ∈ fs, Laid Z a0 C f.1 f.2.1 f.2.2.1 ∧ ∃ t, parseFieldDescriptor f.2.2.1 = some t ∧ defaultValue t = f.2.2.2) (hN : (fs.map fun f => f.2.1).Nodup)
    {g : JFrame} (hg : g.method = m) (hd : decode c.code g.pc = .ok (.new index, 3)) (hc : k + 1 ≤ R.cells) (hl : n + nn ≤ R.slots) :
    ∃ T' x, own_S p l e R s m args below meth c Z a0 hb T' (cs ++ [(x, own_O C fs)]) (k + 1) (n + nn) ∧ ∀ target, Steps p.tables e below (T'.setTop { g with pc := g.pc + 3, stack := .ref x :: g.stack }) target → Steps p.tables e below (T.setTop g) target := by
  obtain ⟨locs, X, N, hH⟩ := H
  obtain ⟨T', h', X', e', E, A, D, -, st⟩ := newO X hx hZ hown w wi wz rfl hg hd hc hl
  refine ⟨T', T.heap.size, ⟨locs, X', N, ?_⟩, st⟩
  rw [e']
  refine own_Hp_new hH E ⟨A, fun f hf => ?_, hN⟩
  obtain ⟨h1, t, h2, h3⟩ := hfs f hf
  exact ⟨h3 ▸ D h1 h2, h1, t, h2⟩
theorem own_newA (H : own_S p l e R s m args below meth c Z a0 hb T cs k n) (hx : p.tables.exec = Jvm.exec) (hZ : Z.Warmed39 s.vm) {aty : ArrayType} (w : (Jvm.Cond.arrayClass (newarray.typeOf aty)).before a0 Z = true) {g : JFrame} (hg : g.method = m) (hd : decode c.code g.pc = .ok (.newarray aty, 2)) {z : Int32} {rest : List Value} (hs : g.stack = .int z :: rest)
    (hn : ¬ z < 0) {cap : Nat} (hcap : z.toNatClampNeg ≤ cap) (hb8 : cap * 8 ≤ 536870912) (hc : k + 1 ≤ R.cells) (hl : n + cap ≤ R.slots) :
    ∃ T' x, own_S p l e R s m args below meth c Z a0 hb T' (cs ++ [(x, own_A (newarray.typeOf aty) (List.replicate z.toNatClampNeg (defaultValue (newarray.typeOf aty))))]) (k + 1) (n + cap) ∧ ∀ target, Steps p.tables e below (T'.setTop { g with pc := g.pc + 2, stack := .ref x :: rest }) target → Steps p.tables e below (T.setTop g) target := by
  obtain ⟨locs, X, N, hH⟩ := H
  obtain ⟨T', h', cA, X', e', E, A, F, st⟩ := newPE X hx hZ w rfl hg hd hs hn hcap hb8 hc hl rfl
  refine ⟨T', T.heap.size, ⟨locs, X', N, ?_⟩, st⟩
  rw [e']
  exact own_Hp_new hH E ⟨_, A, by simp [newA], by cases aty <;> exact F⟩
theorem own_getF (H : own_S p l e R s m args below meth c Z a0 hb T cs k n) (hx : p.tables.exec = Jvm.exec) (hZ : Z.Warmed39 s.vm) {own O nm d : String} {index : Nat} (hown : s.vm.findClass own = some m.cls) (w : (Jvm.Cond.fieldLink own index O nm d).before a0 Z = true)
    {x : Addr} {C : String} {fs : List (String × String × String × Value)} {v : Value} (i j : Nat) (hi : cs[i]? = some (x, own_O C fs)) (hj : fs[j]? = some (O, nm, d, v)) {g : JFrame} (hg : g.method = m) {rest : List Value} (hs : g.stack = .ref x :: rest) (hd : decode c.code g.pc = .ok (.getfield index, 3)) :
    ∃ T', own_S p l e R s m args below meth c Z a0 hb T' cs k n ∧ ∀ target, Steps p.tables e below (T'.setTop { g with pc := g.pc + 3, stack := v :: rest }) target → Steps p.tables e below (T.setTop g) target := by
  obtain ⟨locs, X, N, hH⟩ := H
  have F := ((own_get hH hi).1.2.1 _ (List.mem_of_getElem? hj)).1
  obtain ⟨T', X', e', st⟩ := getF X hx hZ hown (host := "") (Or.inl w) Via.refl rfl F hg hs hd
  exact ⟨T', ⟨locs, X', N, e' ▸ hH⟩, st⟩
theorem own_putF (H : own_S p l e R s m args below meth c Z a0 hb T cs k n) (hx : p.tables.exec = Jvm.exec) (hZ : Z.Warmed39 s.vm) {own O nm d : String} {index kk : Nat} {ty : FieldType} (hown : s.vm.findClass own = some m.cls) (w : (Jvm.Cond.fieldLink own index O nm d).before a0 Z = true)
    {x : Addr} {C : String} {fs : List (String × String × String × Value)} {v old : Value} (i j : Nat) (hi : cs[i]? = some (x, own_O C fs)) (hj : fs[j]? = some (O, nm, d, old)) (L : (Jvm.Cond.lays C O nm d).before a0 Z = true ∨ ((Jvm.Cond.laysFinal C O nm d).before a0 Z = true ∧ own = O ∧ meth.name = "<init>")) (wi : (Jvm.Cond.instantiable C kk).before a0 Z = true)
    (hty : parseFieldDescriptor d = some ty) (hn : narrow ty v = v) (hf : fits ty v = true) {g : JFrame} (hg : g.method = m) {rest : List Value} (hs : g.stack = v :: .ref x :: rest) (hd : decode c.code g.pc = .ok (.putfield index, 3)) :
    ∃ T', own_S p l e R s m args below meth c Z a0 hb T' (cs.set i (x, own_O C (fs.set j (O, nm, d, v)))) k n ∧ ∀ target, Steps p.tables e below (T'.setTop { g with pc := g.pc + 3, stack := rest }) target → Steps p.tables e below (T.setTop g) target := by
  obtain ⟨locs, X, N, hH⟩ := H
  have I := own_get hH hi
  have F := (I.1.2.1 _ (List.mem_of_getElem? hj)).1
  obtain ⟨T', h', X', e', W, st⟩ := putF X hx hZ hown (host := "") (Or.inl w) Via.refl rfl F I.1.1 L wi hty hn hf hg hs hd
  refine ⟨T', ⟨_, X', Fr.snoc X' N I.2, ?_⟩, st⟩
  rw [e']
  exact own_Hp_set hH hi W (own_Is_fld I.1 hj W)
theorem own_initO (H : own_S p l e R s m args below meth c Z a0 hb T cs k n) (hx : p.tables.exec = Jvm.exec) (hZ : Z.Warmed39 s.vm) {own : String} {idx : Nat} (hown : s.vm.findClass own = some m.cls) (w1 : (Jvm.Cond.methodLink own idx Lib.objectInit).before a0 Z = true) (w2 : (Jvm.Cond.instanceMethod Lib.objectInit).before a0 Z = true)
    (w3 : (Jvm.Cond.code Lib.objectInit ⟨#[0xb1]⟩ 1 none).before a0 Z = true) {g : JFrame} (hg : g.method = m) (hsize : g.locals.size = c.maxLocals) {a : Addr} {rest : List Value} (hs : g.stack = .ref a :: rest) (hd : decode c.code g.pc = .ok (.invokespecial idx, 3))
    (hf : 1 ≤ R.frames) {W : Nat} (hW : 2 * g.monitorRoom + (rest.map fun v => v.category).sum ≤ W) (hl : W + 12 ≤ R.locals) :
    ∃ T', own_S p l e R s m args below meth c Z a0 hb T' cs k n ∧ ∀ target, Steps p.tables e below (T'.setTop { g with pc := g.pc + 3, stack := rest }) target → Steps p.tables e below (T.setTop g) target := by
  obtain ⟨locs, X, N, hH⟩ := H
  obtain ⟨T', X', e', st⟩ := initO X hx hZ hown w1 w2 w3 rfl hg hsize hs hd hf hW hl
  exact ⟨T', ⟨locs, X', N, e' ▸ hH⟩, st⟩
theorem own_idx {j : Int32} {vs : List Value} {cl : Cell} (e : cl.slots.toList = vs) (h0 : 0 ≤ j.toInt) (h1 : j.toInt < vs.length) : ¬ (j < 0 ∨ cl.slots.size ≤ j.toNatClampNeg) := by
  have hl : cl.slots.size = vs.length := by rw [← e]; simp
  rintro (q | q)
  · rw [Int32.lt_iff_toInt_lt] at q; rw [show (0 : Int32).toInt = 0 from rfl] at q; omega
  · have : j.toNatClampNeg = j.toInt.toNat := rfl
    omega
theorem own_at_idx {j : Int32} {vs : List Value} {cl : Cell} {v : Value} (e : cl.slots.toList = vs) {i : Nat} (hi : j.toInt = i) (hv : vs[i]? = some v) : cl.slots[j.toNatClampNeg]? = some v := by
  have : j.toNatClampNeg = i := by show j.toInt.toNat = i; omega
  rw [this, ← Array.getElem?_toList, e]; exact hv
theorem own_daload (H : own_S p l e R s m args below meth c Z a0 hb T cs k n) (hx : p.tables.exec = Jvm.exec) (hZ : Z.Warmed39 s.vm) {x : Addr} {vs : List Value} {j : Int32} {v : Value} (i jj : Nat) (hi : cs[i]? = some (x, own_A .double vs)) (hj : j.toInt = jj) (hv : vs[jj]? = some v)
    {g : JFrame} (hg : g.method = m) {rest : List Value} (hs : g.stack = .int j :: .ref x :: rest) (hd : decode c.code g.pc = .ok (.daload, 1)) :
    ∀ target, Steps p.tables e below (T.setTop { g with pc := g.pc + 1, stack := v :: rest }) target → Steps p.tables e below (T.setTop g) target := by
  obtain ⟨locs, X, N, hH⟩ := H
  obtain ⟨cl, A, hc, -⟩ := (own_get hH hi).1
  have hlt : jj < vs.length := (List.getElem?_eq_some_iff.mp hv).1
  exact fun target q => X.daload hx A.1 (State.isArrayOf_alike hZ.alike A.2.1) A.2.2 (own_idx hc (by omega) (by omega)) (own_at_idx hc hj hv) hg hs hd target q
theorem own_iaload (H : own_S p l e R s m args below meth c Z a0 hb T cs k n) (hx : p.tables.exec = Jvm.exec) (hZ : Z.Warmed39 s.vm) {x : Addr} {vs : List Value} {j : Int32} {v : Value} (i jj : Nat) (hi : cs[i]? = some (x, own_A .int vs)) (hj : j.toInt = jj) (hv : vs[jj]? = some v)
    {g : JFrame} (hg : g.method = m) {rest : List Value} (hs : g.stack = .int j :: .ref x :: rest) (hd : decode c.code g.pc = .ok (.iaload, 1)) :
    ∀ target, Steps p.tables e below (T.setTop { g with pc := g.pc + 1, stack := v :: rest }) target → Steps p.tables e below (T.setTop g) target := by
  obtain ⟨locs, X, N, hH⟩ := H
  obtain ⟨cl, A, hc, -⟩ := (own_get hH hi).1
  have hlt : jj < vs.length := (List.getElem?_eq_some_iff.mp hv).1
  exact fun target q => X.iaload hx A.1 (State.isArrayOf_alike hZ.alike A.2.1) A.2.2 (own_idx hc (by omega) (by omega)) (own_at_idx hc hj hv) hg hs hd target q
theorem own_laload (H : own_S p l e R s m args below meth c Z a0 hb T cs k n) (hx : p.tables.exec = Jvm.exec) (hZ : Z.Warmed39 s.vm) {x : Addr} {vs : List Value} {j : Int32} {v : Value} (i jj : Nat) (hi : cs[i]? = some (x, own_A .long vs)) (hj : j.toInt = jj) (hv : vs[jj]? = some v)
    {g : JFrame} (hg : g.method = m) {rest : List Value} (hs : g.stack = .int j :: .ref x :: rest) (hd : decode c.code g.pc = .ok (.laload, 1)) :
    ∀ target, Steps p.tables e below (T.setTop { g with pc := g.pc + 1, stack := v :: rest }) target → Steps p.tables e below (T.setTop g) target := by
  obtain ⟨locs, X, N, hH⟩ := H
  obtain ⟨cl, A, hc, -⟩ := (own_get hH hi).1
  have hlt : jj < vs.length := (List.getElem?_eq_some_iff.mp hv).1
  exact fun target q => X.laload hx A.1 (State.isArrayOf_alike hZ.alike A.2.1) A.2.2 (own_idx hc (by omega) (by omega)) (own_at_idx hc hj hv) hg hs hd target q
theorem own_aaload (H : own_S p l e R s m args below meth c Z a0 hb T cs k n) (hx : p.tables.exec = Jvm.exec) (hZ : Z.Warmed39 s.vm) {x : Addr} {ty : FieldType} {vs : List Value} {j : Int32} {v : Value} (i jj : Nat) (hi : cs[i]? = some (x, own_A ty vs)) (hty : ty.isReference = true) (hj : j.toInt = jj) (hv : vs[jj]? = some v)
    {g : JFrame} (hg : g.method = m) {rest : List Value} (hs : g.stack = .int j :: .ref x :: rest) (hd : decode c.code g.pc = .ok (.aaload, 1)) :
    ∀ target, Steps p.tables e below (T.setTop { g with pc := g.pc + 1, stack := v :: rest }) target → Steps p.tables e below (T.setTop g) target := by
  obtain ⟨locs, X, N, hH⟩ := H
  obtain ⟨cl, A, hc, -⟩ := (own_get hH hi).1
  have hlt : jj < vs.length := (List.getElem?_eq_some_iff.mp hv).1
  exact fun target q => X.aaload hx A.1 (State.isArrayOf_alike hZ.alike A.2.1) hty A.2.2 (own_idx hc (by omega) (by omega)) (own_at_idx hc hj hv) hg hs hd target q
theorem own_arrlen (H : own_S p l e R s m args below meth c Z a0 hb T cs k n) (hx : p.tables.exec = Jvm.exec) (hZ : Z.Warmed39 s.vm) {x : Addr} {ty : FieldType} {vs : List Value} (i : Nat) (hi : cs[i]? = some (x, own_A ty vs)) {z : Int32} (hz : vs.length.toInt32 = z)
    {g : JFrame} (hg : g.method = m) {rest : List Value} (hs : g.stack = .ref x :: rest) (hd : decode c.code g.pc = .ok (.arraylength, 1)) :
    ∀ target, Steps p.tables e below (T.setTop { g with pc := g.pc + 1, stack := .int z :: rest }) target → Steps p.tables e below (T.setTop g) target := by
  obtain ⟨locs, X, N, hH⟩ := H
  obtain ⟨cl, A, hc, -⟩ := (own_get hH hi).1
  have hl : cl.slots.size = vs.length := by rw [← hc]; simp
  refine fun target q => X.arraylength hx A.1 (State.isArrayOf_alike hZ.alike A.2.1) hg hs hd target ?_
  rw [hl, hz]; exact q
theorem own_dastore (H : own_S p l e R s m args below meth c Z a0 hb T cs k n) (hx : p.tables.exec = Jvm.exec) (hZ : Z.Warmed39 s.vm) {x : Addr} {vs : List Value} {j : Int32} {v : UInt64} (i jj : Nat) (hi : cs[i]? = some (x, own_A .double vs)) (hj : j.toInt = jj) (hlt : jj < vs.length)
    {g : JFrame} (hg : g.method = m) {rest : List Value} (hs : g.stack = .double v :: .int j :: .ref x :: rest) (hd : decode c.code g.pc = .ok (.dastore, 1)) :
    ∃ T', own_S p l e R s m args below meth c Z a0 hb T' (cs.set i (x, own_A .double (vs.set jj (.double v)))) k n ∧ ∀ target, Steps p.tables e below (T'.setTop { g with pc := g.pc + 1, stack := rest }) target → Steps p.tables e below (T.setTop g) target := by
  obtain ⟨locs, X, N, hH⟩ := H
  have I := own_get hH hi
  obtain ⟨cl, A, hc, -⟩ := I.1
  obtain ⟨T', h', X', e', W, st⟩ := stD X hx hZ rfl A (own_idx hc (by omega) (by omega)) hg hs hd
  have hjj : j.toNatClampNeg = jj := by show j.toInt.toNat = jj; omega
  rw [hjj] at W
  refine ⟨T', ⟨_, X', Fr.snoc X' N I.2, ?_⟩, st⟩
  rw [e']
  exact own_Hp_set hH hi W (own_Is_elt I.1 W)
theorem own_iastore (H : own_S p l e R s m args below meth c Z a0 hb T cs k n) (hx : p.tables.exec = Jvm.exec) (hZ : Z.Warmed39 s.vm) {x : Addr} {vs : List Value} {j : Int32} {v : Int32} (i jj : Nat) (hi : cs[i]? = some (x, own_A .int vs)) (hj : j.toInt = jj) (hlt : jj < vs.length)
    {g : JFrame} (hg : g.method = m) {rest : List Value} (hs : g.stack = .int v :: .int j :: .ref x :: rest) (hd : decode c.code g.pc = .ok (.iastore, 1)) :
    ∃ T', own_S p l e R s m args below meth c Z a0 hb T' (cs.set i (x, own_A .int (vs.set jj (.int v)))) k n ∧ ∀ target, Steps p.tables e below (T'.setTop { g with pc := g.pc + 1, stack := rest }) target → Steps p.tables e below (T.setTop g) target := by
  obtain ⟨locs, X, N, hH⟩ := H
  have I := own_get hH hi
  obtain ⟨cl, A, hc, -⟩ := I.1
  obtain ⟨T', h', X', e', W, st⟩ := stI X hx hZ rfl A (own_idx hc (by omega) (by omega)) hg hs hd
  have hjj : j.toNatClampNeg = jj := by show j.toInt.toNat = jj; omega
  rw [hjj] at W
  refine ⟨T', ⟨_, X', Fr.snoc X' N I.2, ?_⟩, st⟩
  rw [e']
  exact own_Hp_set hH hi W (own_Is_elt I.1 W)
theorem own_lastore (H : own_S p l e R s m args below meth c Z a0 hb T cs k n) (hx : p.tables.exec = Jvm.exec) (hZ : Z.Warmed39 s.vm) {x : Addr} {vs : List Value} {j : Int32} {v : Int64} (i jj : Nat) (hi : cs[i]? = some (x, own_A .long vs)) (hj : j.toInt = jj) (hlt : jj < vs.length)
    {g : JFrame} (hg : g.method = m) {rest : List Value} (hs : g.stack = .long v :: .int j :: .ref x :: rest) (hd : decode c.code g.pc = .ok (.lastore, 1)) :
    ∃ T', own_S p l e R s m args below meth c Z a0 hb T' (cs.set i (x, own_A .long (vs.set jj (.long v)))) k n ∧ ∀ target, Steps p.tables e below (T'.setTop { g with pc := g.pc + 1, stack := rest }) target → Steps p.tables e below (T.setTop g) target := by
  obtain ⟨locs, X, N, hH⟩ := H
  have I := own_get hH hi
  obtain ⟨cl, A, hc, -⟩ := I.1
  obtain ⟨T', h', X', e', W, st⟩ := stJ X hx hZ rfl A (own_idx hc (by omega) (by omega)) hg hs hd
  have hjj : j.toNatClampNeg = jj := by show j.toInt.toNat = jj; omega
  rw [hjj] at W
  refine ⟨T', ⟨_, X', Fr.snoc X' N I.2, ?_⟩, st⟩
  rw [e']
  exact own_Hp_set hH hi W (own_Is_elt I.1 W)
theorem own_aastore (H : own_S p l e R s m args below meth c Z a0 hb T cs k n) (hx : p.tables.exec = Jvm.exec) (hZ : Z.Warmed39 s.vm) {x y : Addr} {t ty : FieldType} {vs ws : List Value} {j : Int32} (i iy jj : Nat) (hi : cs[i]? = some (x, own_A (.array t) vs)) (hy : cs[iy]? = some (y, own_A ty ws)) (hE : ∀ h c, own_AC Z h y c ty → Exa Z h y (FieldType.array t).toString) (hj : j.toInt = jj) (hlt : jj < vs.length)
    {g : JFrame} (hg : g.method = m) {rest : List Value} (hs : g.stack = .ref y :: .int j :: .ref x :: rest) (hd : decode c.code g.pc = .ok (.aastore, 1)) :
    ∃ T', own_S p l e R s m args below meth c Z a0 hb T' (cs.set i (x, own_A (.array t) (vs.set jj (.ref y)))) k n ∧ ∀ target, Steps p.tables e below (T'.setTop { g with pc := g.pc + 1, stack := rest }) target → Steps p.tables e below (T.setTop g) target := by
  obtain ⟨locs, X, N, hH⟩ := H
  have I := own_get hH hi
  obtain ⟨cl, A, hc, hO⟩ := I.1
  obtain ⟨cy, Ay, -, hF⟩ := (own_get hH hy).1
  obtain ⟨T', h', X', e', W, st⟩ := stR X hx hZ rfl A (own_idx hc (by omega) (by omega)) rfl (Sto.ofVA A rfl hO.1 (Ins.self (hE _ _ hF))) hg hs hd
  have hjj : j.toNatClampNeg = jj := by show j.toInt.toNat = jj; omega
  rw [hjj] at W
  refine ⟨T', ⟨_, X', Fr.snoc X' N I.2, ?_⟩, st⟩
  rw [e']
  exact own_Hp_set hH hi W (own_Is_elt I.1 W)
theorem own_newRA (H : own_S p l e R s m args below meth c Z a0 hb T cs k n) (hx : p.tables.exec = Jvm.exec) (hZ : Z.Warmed39 s.vm) {own C : String} {ty : FieldType} {index : Nat} (hown : s.vm.findClass own = some m.cls) (hC : (FieldType.array ty).toString = C) (w1 : (Jvm.Cond.classLink own index C).before a0 Z = true) (w2 : (Jvm.Cond.arrayOver (.array ty)).before a0 Z = true)
    {g : JFrame} (hg : g.method = m) (hd : decode c.code g.pc = .ok (.anewarray index, 3)) {z : Int32} {rest : List Value} (hs : g.stack = .int z :: rest) (hn : ¬ z < 0) {cap : Nat} (hcap : z.toNatClampNeg ≤ cap) (hb8 : cap * 8 ≤ 536870912) (hc : k + 1 ≤ R.cells) (hl : n + cap ≤ R.slots) :
    ∃ T' x, own_S p l e R s m args below meth c Z a0 hb T' (cs ++ [(x, own_A (.array ty) (List.replicate z.toNatClampNeg .null))]) (k + 1) (n + cap) ∧ ∀ target, Steps p.tables e below (T'.setTop { g with pc := g.pc + 3, stack := .ref x :: rest }) target → Steps p.tables e below (T.setTop g) target := by
  obtain ⟨locs, X, N, hH⟩ := H
  obtain ⟨T', h', cA, X', e', E, A, F, O, st⟩ := newRA X hx hZ hown hC w1 w2 rfl hg hd hs hn hcap hb8 hc hl rfl
  subst hC
  refine ⟨T', T.heap.size, ⟨locs, X', N, ?_⟩, st⟩
  rw [e']
  exact own_Hp_new hH E ⟨_, A, by simp [newA, defaultValue], O, F⟩
theorem own_cloneA (H : own_S p l e R s m args below meth c Z a0 hb T cs k n) (hx : p.tables.exec = Jvm.exec) (hZ : Z.Warmed39 s.vm) {own ad : String} {index : Nat} (hown : s.vm.findClass own = some m.cls)
    (w1 : (Jvm.Cond.methodLink own index ⟨ad, "clone", "()Ljava/lang/Object;"⟩).before a0 Z = true) (w2 : (Jvm.Cond.sameMethod ad "java/lang/Object" "clone" "()Ljava/lang/Object;").before a0 Z = true) (w3 : (Jvm.Cond.native ⟨"java/lang/Object", "clone", "()Ljava/lang/Object;"⟩).before a0 Z = true)
    (w4 : (Jvm.Cond.instanceMethod ⟨"java/lang/Object", "clone", "()Ljava/lang/Object;"⟩).before a0 Z = true) (w5 : (Jvm.Cond.selects ad ⟨ad, "clone", "()Ljava/lang/Object;"⟩ ⟨"java/lang/Object", "clone", "()Ljava/lang/Object;"⟩).before a0 Z = true) (w6 : (Jvm.Cond.castable ad "java/lang/Cloneable").before a0 Z = true)
    {x : Addr} {ty : FieldType} {vs : List Value} (i : Nat) (hi : cs[i]? = some (x, own_A ty vs)) (hE : ∀ h x c, own_AC Z h x c ty → Exa Z h x ad) (hA : ∀ h x c, Exa Z h x ad → own_AC Z h x c ty) (hfit : ∀ v ∈ vs, fits ty v = true)
    {g : JFrame} (hg : g.method = m) (hsize : g.locals.size = c.maxLocals) {rest : List Value} (hs : g.stack = .ref x :: rest) (hd : decode c.code g.pc = .ok (.invokevirtual index, 3))
    (hf : 1 ≤ R.frames) {W cap : Nat} (hW : 2 * g.monitorRoom + (rest.map fun v => v.category).sum ≤ W) (hl : W + 14 ≤ R.locals) (hcap : vs.length ≤ cap) (hc : k + 1 ≤ R.cells) (hsl : n + cap ≤ R.slots) :
    ∃ T' y, own_S p l e R s m args below meth c Z a0 hb T' (cs ++ [(y, own_A ty vs)]) (k + 1) (n + cap) ∧ ∀ target, Steps p.tables e below (T'.setTop { g with pc := g.pc + 3, stack := .ref y :: rest }) target → Steps p.tables e below (T.setTop g) target := by
  obtain ⟨locs, X, N, hH⟩ := H
  obtain ⟨cl, A, hc', hF⟩ := (own_get hH hi).1
  have FC : FitC Z cl := fitC_of A fun i hi v hv => hfit v (by rw [← hc']; rw [← Array.getElem?_toList] at hv; exact List.mem_of_getElem? hv)
  have hlen : cl.slots.size = vs.length := by rw [← hc']; simp
  obtain ⟨T', h', X', e', E, A', F', st⟩ := cloneA X hx hZ hown w1 w2 w3 w4 w5 w6 rfl A (hE _ _ _ hF) FC hg hsize hs hd hf hW hl (by rw [hlen]; exact hcap) hc hsl
  refine ⟨T', T.heap.size, ⟨locs, X', N, ?_⟩, st⟩
  rw [e']
  exact own_Hp_new hH E ⟨_, A', hc', hA _ _ _ F'⟩
theorem own_castA (H : own_S p l e R s m args below meth c Z a0 hb T cs k n) (hx : p.tables.exec = Jvm.exec) (hZ : Z.Warmed39 s.vm) {own ad : String} {index : Nat} (hown : s.vm.findClass own = some m.cls) (w : (Jvm.Cond.classLink own index ad).before a0 Z = true)
    {x : Addr} {ty : FieldType} {vs : List Value} (i : Nat) (hi : cs[i]? = some (x, own_A ty vs)) (hE : ∀ h x c, own_AC Z h x c ty → Exa Z h x ad) {g : JFrame} (hg : g.method = m) {rest : List Value} (hs : g.stack = .ref x :: rest) (hd : decode c.code g.pc = .ok (.checkcast index, 3)) :
    ∃ T', own_S p l e R s m args below meth c Z a0 hb T' cs k n ∧ ∀ target, Steps p.tables e below (T'.setTop { g with pc := g.pc + 3 }) target → Steps p.tables e below (T.setTop g) target := by
  obtain ⟨locs, X, N, hH⟩ := H
  obtain ⟨cl, A, -, hF⟩ := (own_get hH hi).1
  obtain ⟨T', X', e', st⟩ := castY X hx hZ hown w rfl (Ins.self (hE _ _ _ hF)) hg hs hd
  exact ⟨T', ⟨locs, X', N, e' ▸ hH⟩, st⟩
theorem own_castO (H : own_S p l e R s m args below meth c Z a0 hb T cs k n) (hx : p.tables.exec = Jvm.exec) (hZ : Z.Warmed39 s.vm) {own C : String} {index : Nat} (hown : s.vm.findClass own = some m.cls) (w : (Jvm.Cond.classLink own index C).before a0 Z = true)
    {x : Addr} {fs : List (String × String × String × Value)} (i : Nat) (hi : cs[i]? = some (x, own_O C fs)) {g : JFrame} (hg : g.method = m) {rest : List Value} (hs : g.stack = .ref x :: rest) (hd : decode c.code g.pc = .ok (.checkcast index, 3)) :
    ∃ T', own_S p l e R s m args below meth c Z a0 hb T' cs k n ∧ ∀ target, Steps p.tables e below (T'.setTop { g with pc := g.pc + 3 }) target → Steps p.tables e below (T.setTop g) target := by
  obtain ⟨locs, X, N, hH⟩ := H
  obtain ⟨T', X', e', st⟩ := castY X hx hZ hown w rfl (Ins.self (own_get hH hi).1.1) hg hs hd
  exact ⟨T', ⟨locs, X', N, e' ▸ hH⟩, st⟩
theorem own_instO (H : own_S p l e R s m args below meth c Z a0 hb T cs k n) (hx : p.tables.exec = Jvm.exec) (hZ : Z.Warmed39 s.vm) {own C : String} {index : Nat} (hown : s.vm.findClass own = some m.cls) (w : (Jvm.Cond.classLink own index C).before a0 Z = true)
    {x : Addr} {fs : List (String × String × String × Value)} (i : Nat) (hi : cs[i]? = some (x, own_O C fs)) {g : JFrame} (hg : g.method = m) {rest : List Value} (hs : g.stack = .ref x :: rest) (hd : decode c.code g.pc = .ok (.instanceof index, 3)) :
    ∃ T', own_S p l e R s m args below meth c Z a0 hb T' cs k n ∧ ∀ target, Steps p.tables e below (T'.setTop { g with pc := g.pc + 3, stack := .int 1 :: rest }) target → Steps p.tables e below (T.setTop g) target := by
  obtain ⟨locs, X, N, hH⟩ := H
  obtain ⟨T', X', e', st⟩ := instY X hx hZ hown w rfl (Ins.self (own_get hH hi).1.1) hg hs hd
  exact ⟨T', ⟨locs, X', N, e' ▸ hH⟩, st⟩
end Rules
/-- what a method does: from the cells cs and these arguments it returns a value and leaves cells of which Q holds -/
def own_Met (l : Launch) (Z : State) (a0 : Array Value) (hb : own_Base) (y : MethodName) (bytes : ByteArray) (maxL : Nat) (ret : Option FieldType) (ws : List Jvm.Cond) (rm : Room) (as' : Array Value) (cs : List (Addr × own_Cel)) (Q : Option Value → List (Addr × own_Cel) → Prop) : Prop :=
  ∀ h, own_Hp Z a0 hb h cs → MetFree l y (head1 (Jvm.Cond.code y bytes maxL ret :: ws) rm) (fun a U => a = as' ∧ Z.Warmed39 U.vm ∧ U.heap = h) (fun _ _ _ _ _ => True) (fun _ U o U' => ∃ w L, o = .returned w ∧ (Fr hb.size L ∧ ∃ cs', Q w cs' ∧ own_Hp Z a0 hb U'.heap cs') ∧ FrameEnd U o U' L rm.cells rm.slots)
/-- from the frame g the method runs to its return -/
def own_Ends (p : Program) (l : Launch) (e : Env) (R : Room) (s : State) (m : MethodId) (args : Array Value) (below : List Frame) (meth : Method) (c : Code) (Z : State) (a0 : Array Value) (hb : own_Base) (bytes : ByteArray) (ret : Option FieldType) (Q : Option Value → List (Addr × own_Cel) → Prop) (T : State) (g : JFrame) : Prop :=
  ∃ T' cs' k n pc L, own_S p l e R s m args below meth c Z a0 hb T' cs' k n ∧ k ≤ R.cells ∧ n ≤ R.slots ∧
    ((ret = none ∧ Q none cs' ∧ decode bytes pc = .ok (.return_, 1) ∧ ∀ target, Steps p.tables e below (T'.setTop (mkF m pc L [])) target → Steps p.tables e below (T.setTop g) target) ∨
     (∃ t v S i, ret = some t ∧ Q (some v) cs' ∧ decode bytes pc = .ok (i, 1) ∧ own_Ret i t v ∧ ∀ target, Steps p.tables e below (T'.setTop (mkF m pc L (v :: S))) target → Steps p.tables e below (T.setTop g) target))
theorem own_met_of {l : Launch} {Z : State} {a0 : Array Value} {hb : own_Base} {y : MethodName} {bytes : ByteArray} {maxL : Nat} {ret : Option FieldType} {ws : List Jvm.Cond} {rm : Room} {as' : Array Value} {cs : List (Addr × own_Cel)} {Q : Option Value → List (Addr × own_Cel) → Prop} {L0 : Array Slot} (hpl : plainFor y = true) (hef : ∀ m, entryFrame m as' maxL = mkF m 0 L0 [])
    (body : ∀ (p : Program) (e : Env) (s : State) (m : MethodId) (below : List Frame) (meth : Method) (c : Code) (T : State), p.tables.exec = Jvm.exec → Z.Warmed39 s.vm → s.vm.findClass y.cls = some m.cls → c.code = bytes → c.maxLocals = maxL → meth.name = y.name → own_S p l e rm s m as' below meth c Z a0 hb T cs 0 0 → own_Ends p l e rm s m as' below meth c Z a0 hb bytes ret Q T (mkF m 0 L0 [])) :
    own_Met l Z a0 hb y bytes maxL ret ws rm as' cs Q := by
  intro h hH
  refine MetFree.of_bodySF hpl hisR ?_
  intro p e s m args below meth c s₁ Bd hml0 hPP hK
  obtain ⟨rfl, hZ, hh⟩ := hPP
  have hown : s.vm.findClass y.cls = some m.cls := findClass_of_methodNamed Bd.named
  have hnm := (name_of_methodNamed Bd.named Bd.method).1
  have X0 : Stand p l e rm s m _ below meth c s₁ [] 0 0 := Stand.of_body Bd
  have e0 : s₁.heap = h := by rw [← hh, Bd.state]; rfl
  obtain ⟨T', cs', k, n, pc, L, ⟨locs, X, N, hH'⟩, hk, hn, hE⟩ := body p e s m below meth c s₁ Bd.exec hZ hown Bd.bytes hml0 hnm ⟨[], X0, Fr.nil _, e0 ▸ hH⟩
  rcases hE with ⟨rfl, hQ, hd, st⟩ | ⟨t, v, S, i, rfl, hQ, hd, hr, st⟩
  · obtain ⟨fs, hr', hrun, hended, hW, hsame⟩ := X.leave (v := none) (fun _ => rfl)
    exact ⟨_, _, castTop (hef m) (st _ (X.returnOut Bd.exec Bd.returns (Jvm.hb Bd.bytes hd) hr')), hrun, hended, _, _, rfl, ⟨N, cs', hQ, hH'⟩, ⟨_, rfl⟩, hW, hsame.mono hk hn⟩
  · obtain ⟨fs, hr', hrun, hended, hW, hsame⟩ := X.leave (v := some v) (fun h => by rw [Bd.returns] at h; cases h)
    exact ⟨_, _, castTop (hef m) (st _ (retOut X Bd.exec Bd.returns hr.1 hr.2 (Jvm.hb Bd.bytes hd) hr')), hrun, hended, _, _, rfl, ⟨N, cs', hQ, hH'⟩, ⟨_, rfl⟩, hW, hsame.mono hk hn⟩
section Calls
variable {p : Program} {l : Launch} {e : Env} {R : Room} {s : State} {m : MethodId} {args : Array Value} {below : List Frame} {meth : Method} {c : Code} {T : State} {Z : State} {a0 : Array Value} {hb : own_Base} {cs : List (Addr × own_Cel)} {k n : Nat}
theorem own_callS (H : own_S p l e R s m args below meth c Z a0 hb T cs k n) (hx : p.tables.exec = Jvm.exec) (hZ : Z.Warmed39 s.vm) {own : String} {index : Nat} {y : MethodName} {bytes : ByteArray} {maxL : Nat} {ret : Option FieldType} (hown : s.vm.findClass own = some m.cls)
    (w1 : (Jvm.Cond.methodLink own index y).before a0 Z = true) (w2 : (Jvm.Cond.static y).before a0 Z = true) (w3 : (Jvm.Cond.initialized y.cls).before a0 Z = true) (w4 : (Jvm.Cond.code y bytes maxL ret).before a0 Z = true) (hy : y.cls ≠ "java/lang/invoke/MethodHandle" ∧ y.cls ≠ "java/lang/invoke/VarHandle")
    {rm : Room} {W : Nat} {argsL rest : List Value} {Q : Option Value → List (Addr × own_Cel) → Prop} (hM : own_Met l Z a0 hb y bytes maxL ret [] rm argsL.toArray cs Q) (hf : rm.frames + 1 ≤ R.frames) (hl : W + (maxL + 11) + rm.locals ≤ R.locals) (hc : k + rm.cells ≤ R.cells) (hs : n + rm.slots ≤ R.slots)
    {g : JFrame} (hg : g.method = m) (hsize : g.locals.size = c.maxLocals) (hlen : ∀ sig, parseMethodDescriptor y.desc = some sig → argsL.length = sig.parameters.length) (hst : g.stack = argsL.reverse ++ rest) (hW : 2 * g.monitorRoom + (rest.map fun v => v.category).sum ≤ W) (hd : decode c.code g.pc = .ok (.invokestatic index, 3)) :
    ∃ T' v cs', Q v cs' ∧ own_S p l e R s m args below meth c Z a0 hb T' cs' (k + rm.cells) (n + rm.slots) ∧ ∀ target, Steps p.tables e below (T'.setTop { g with pc := g.pc + 3, stack := v.toList ++ rest }) target → Steps p.tables e below (T.setTop g) target := by
  obtain ⟨locs, X, N, hH⟩ := H
  obtain ⟨v', vm1, ⟨T2, L2, k2, n2⟩, -, X2, ⟨Lc, hQ, l2, y2, z2⟩, st⟩ := Jvm.LawKit.callS X hx hown (mvT hZ w1) (mvT hZ w2) (mvT hZ w3) (mvT hZ w4) hy (backOf (W := W) (rm := rm) (Q := fun w H L => Fr hb.size L ∧ ∃ cs', Q w cs' ∧ own_Hp Z a0 hb H cs') (hM _ hH) hZ w4 w3 hf hl) hg hsize hlen hst hW hd (fun _ _ => ⟨rfl, rfl, hc, hs⟩)
  dsimp only [Pt.U, Pt.locs, Pt.cells, Pt.slots] at X2 l2 y2 z2 st hQ
  obtain ⟨N2, cs', hQ', hH'⟩ := hQ
  subst l2 y2 z2
  exact ⟨T2, v', cs', hQ', ⟨_, X2, N.app N2, hH'⟩, st⟩
theorem own_callI (H : own_S p l e R s m args below meth c Z a0 hb T cs k n) (hx : p.tables.exec = Jvm.exec) (hZ : Z.Warmed39 s.vm) {own : String} {index : Nat} {y : MethodName} {bytes : ByteArray} {maxL : Nat} (hown : s.vm.findClass own = some m.cls) (hy1 : y.name = "<init>")
    (w1 : (Jvm.Cond.methodLink own index y).before a0 Z = true) (w2 : (Jvm.Cond.instanceMethod y).before a0 Z = true) (w3 : (Jvm.Cond.initialized y.cls).before a0 Z = true) (w4 : (Jvm.Cond.code y bytes maxL none).before a0 Z = true) (hy : y.cls ≠ "java/lang/invoke/MethodHandle" ∧ y.cls ≠ "java/lang/invoke/VarHandle")
    {rm : Room} {W : Nat} {x : Addr} {argsL rest : List Value} {Q : Option Value → List (Addr × own_Cel) → Prop} (hM : own_Met l Z a0 hb y bytes maxL none [] rm (Value.ref x :: argsL).toArray cs Q) (hf : rm.frames + 1 ≤ R.frames) (hl : W + (maxL + 11) + rm.locals ≤ R.locals) (hc : k + rm.cells ≤ R.cells) (hs : n + rm.slots ≤ R.slots)
    {g : JFrame} (hg : g.method = m) (hsize : g.locals.size = c.maxLocals) (hlen : ∀ sig, parseMethodDescriptor y.desc = some sig → argsL.length = sig.parameters.length) (hst : g.stack = argsL.reverse ++ .ref x :: rest) (hW : 2 * g.monitorRoom + (rest.map fun v => v.category).sum ≤ W) (hd : decode c.code g.pc = .ok (.invokespecial index, 3)) :
    ∃ T' v cs', Q v cs' ∧ own_S p l e R s m args below meth c Z a0 hb T' cs' (k + rm.cells) (n + rm.slots) ∧ ∀ target, Steps p.tables e below (T'.setTop { g with pc := g.pc + 3, stack := v.toList ++ rest }) target → Steps p.tables e below (T.setTop g) target := by
  obtain ⟨locs, X, N, hH⟩ := H
  obtain ⟨v', vm1, ⟨T2, L2, k2, n2⟩, -, X2, ⟨Lc, hQ, l2, y2, z2⟩, st⟩ := X.specialBack hx hy1 hown (mvT hZ w1) (mvT hZ w2) (mvT hZ w4) hy (backOf (W := W) (rm := rm) (Q := fun w H L => Fr hb.size L ∧ ∃ cs', Q w cs' ∧ own_Hp Z a0 hb H cs') (hM _ hH) hZ w4 w3 hf hl) hg hsize (Steps.refl _) hlen hst hW hd (fun _ _ => ⟨rfl, rfl, hc, hs⟩)
  dsimp only [Pt.U, Pt.locs, Pt.cells, Pt.slots] at X2 l2 y2 z2 st hQ
  obtain ⟨N2, cs', hQ', hH'⟩ := hQ
  subst l2 y2 z2
  exact ⟨T2, v', cs', hQ', ⟨_, X2, N.app N2, hH'⟩, fun target q => st.trans q⟩
theorem own_callV (H : own_S p l e R s m args below meth c Z a0 hb T cs k n) (hx : p.tables.exec = Jvm.exec) (hZ : Z.Warmed39 s.vm) {own C : String} {index : Nat} {y : MethodName} {bytes : ByteArray} {maxL : Nat} {ret : Option FieldType} (hown : s.vm.findClass own = some m.cls)
    (w1 : (Jvm.Cond.methodLink own index y).before a0 Z = true) (w2 : (Jvm.Cond.declares y).before a0 Z = true) (w5 : (Jvm.Cond.selects C y y).before a0 Z = true) (w6 : (Jvm.Cond.instanceMethod y).before a0 Z = true) (w3 : (Jvm.Cond.initialized y.cls).before a0 Z = true) (w4 : (Jvm.Cond.code y bytes maxL ret).before a0 Z = true) (hy : y.cls ≠ "java/lang/invoke/MethodHandle" ∧ y.cls ≠ "java/lang/invoke/VarHandle")
    {rm : Room} {W : Nat} {x : Addr} {fs : List (String × String × String × Value)} (i : Nat) (hi : cs[i]? = some (x, own_O C fs)) {argsL rest : List Value} {Q : Option Value → List (Addr × own_Cel) → Prop} (hM : own_Met l Z a0 hb y bytes maxL ret [] rm (Value.ref x :: argsL).toArray cs Q) (hf : rm.frames + 1 ≤ R.frames) (hl : W + (maxL + 11) + rm.locals ≤ R.locals) (hc : k + rm.cells ≤ R.cells) (hs : n + rm.slots ≤ R.slots)
    {g : JFrame} (hg : g.method = m) (hsize : g.locals.size = c.maxLocals) (hlen : ∀ sig, parseMethodDescriptor y.desc = some sig → argsL.length = sig.parameters.length) (hst : g.stack = argsL.reverse ++ .ref x :: rest) (hW : 2 * g.monitorRoom + (rest.map fun v => v.category).sum ≤ W) (hd : decode c.code g.pc = .ok (.invokevirtual index, 3)) :
    ∃ T' v cs', Q v cs' ∧ own_S p l e R s m args below meth c Z a0 hb T' cs' (k + rm.cells) (n + rm.slots) ∧ ∀ target, Steps p.tables e below (T'.setTop { g with pc := g.pc + 3, stack := v.toList ++ rest }) target → Steps p.tables e below (T.setTop g) target := by
  obtain ⟨locs, X, N, hH⟩ := H
  obtain ⟨cq, kq, qa, qb, qc⟩ := isOf hZ rfl (own_get hH hi).1.1
  obtain ⟨v', vm1, ⟨T2, L2, k2, n2⟩, -, X2, ⟨Lc, hQ, l2, y2, z2⟩, st⟩ := X.virtualBack hx hown (mvT hZ w1) (mvT hZ w2) (notFace_of_selects (args := #[]) (mvT hZ w5)) (mvT hZ w5) (mvT hZ w6) hy (backOf (W := W) (rm := rm) (Q := fun w H L => Fr hb.size L ∧ ∃ cs', Q w cs' ∧ own_Hp Z a0 hb H cs') (hM _ hH) hZ w4 w3 hf hl) qa qc hg hsize (Steps.refl _) hlen hst hW hd (fun _ _ => ⟨rfl, rfl, hc, hs⟩)
  dsimp only [Pt.U, Pt.locs, Pt.cells, Pt.slots] at X2 l2 y2 z2 st hQ
  obtain ⟨N2, cs', hQ', hH'⟩ := hQ
  subst l2 y2 z2
  exact ⟨T2, v', cs', hQ', ⟨_, X2, N.app N2, hH'⟩, fun target q => st.trans q⟩
end Calls
theorem own_ACd {Z : State} {h : Heap} {x : Addr} {c : Cell} : own_AC Z h x c .double ↔ Exa Z h x "[D" := by
  show Exa Z h x ("[" ++ FieldType.double.toString) ↔ _
  rw [show "[" ++ FieldType.double.toString = "[D" from by decide]
end OwnHeap
/-! literals: 'ldc' of a String in a walk with a heap; the walk goes on over the re-based start -/
section OwnLit
open Jvm.Free Jvm.Stand Jvm.LawKit Jvm.RoadKit
variable {p : Program} {l : Launch} {e : Env} {R : Room} {s : State} {m : MethodId} {args : Array Value} {below : List Frame} {meth : Method} {c : Code} {T : State} {Z : State} {a0 : Array Value} {hb : own_Base} {cs : List (Addr × own_Cel)} {k n : Nat}
theorem own_ldcS (H : own_S p l e R s m args below meth c Z a0 hb T cs k n) (hx : p.tables.exec = Jvm.exec) (hZ : Z.Warmed39 s.vm) {own text : String} {index : Nat} (hown : s.vm.findClass own = some m.cls) (w : (Jvm.Cond.stringLink own index text).before a0 Z = true) (wS : ∀ a ∈ Bundle.stringAtoms, a.before a0 Z = true)
    {g : JFrame} (hg : g.method = m) (hd : decode c.code g.pc = .ok (.ldc index, 2)) {N : Nat} (hn : 4 * text.toList.length ≤ N) (hbig : N ≤ 536870912) (hc : k + 2 ≤ R.cells) (hl : n + (N + 4) ≤ R.slots) :
    ∃ x T', own_S p l e R (s.setVm T'.vm) m args below meth c Z a0 ⟨hb.b, T'.heap.size⟩ T' cs (k + 2) (n + (N + 4)) ∧ s.Since T'.vm T'.heap.size ∧ hb.fl ≤ T'.heap.size ∧ Z.Warmed39 (s.setVm T'.vm).vm ∧ (s.setVm T'.vm).vm.findClass own = some m.cls ∧
      ∀ target, Steps p.tables e below (T'.setTop { g with pc := g.pc + 2, stack := .ref x :: g.stack }) target → Steps p.tables e below (T.setTop g) target := by
  obtain ⟨locs, X, F, hH⟩ := H
  obtain ⟨x, T', X', hS, -, hkeep, -, -, st⟩ := X.ldcColdN hx hown (mvS hZ w) (fun d hd => by
    have q := wS d hd
    simp only [Bundle.stringAtoms, List.mem_cons, List.not_mem_nil, or_false] at hd
    rcases hd with rfl | rfl | rfl | rfl | rfl | rfl | rfl
    · exact mv hZ q
    · exact mv hZ q
    · exact mvA hZ q
    · exact mv hZ q
    · exact mv hZ q
    · exact mv hZ q
    · exact mv hZ q) hg hd hn hbig hc hl
  have hW : Z.Warmed39 T'.vm := State.Warmed39.trans (t := s) hZ hS.1
  have hH' := own_Hp_ext hH (ext_of hkeep)
  exact ⟨x, T', ⟨locs, X', F, ⟨hH'.1.1, Nat.le_refl _⟩, hH'.2⟩, hS, hH'.1.2, hW, by rw [show (s.setVm T'.vm).vm = T'.vm from rfl, hS.1.alike.findClass]; exact hown, st⟩
def own_MetW (l : Launch) (Z : State) (a0 : Array Value) (hb : own_Base) (y : MethodName) (bytes : ByteArray) (maxL : Nat) (ret : Option FieldType) (ws : List Jvm.Cond) (rm : Room) (as' : Array Value) (cs : List (Addr × own_Cel)) (Q : Option Value → List (Addr × own_Cel) → Prop) : Prop :=
  ∀ h, own_Hp Z a0 hb h cs → MetFree l y (head1 (Jvm.Cond.code y bytes maxL ret :: ws) rm) (fun a U => a = as' ∧ Z.Warmed39 U.vm ∧ U.heap = h) (fun _ _ _ _ _ => True) (fun _ U o U' => ∃ w L, o = .returned w ∧ (Fr hb.size L ∧ ∃ cs', Q w cs' ∧ own_Hp Z a0 hb U'.heap cs') ∧ ReturnedEndW U o U' L rm.cells rm.slots)
def own_EndsW (p : Program) (l : Launch) (e : Env) (R : Room) (s : State) (m : MethodId) (args : Array Value) (below : List Frame) (meth : Method) (c : Code) (Z : State) (a0 : Array Value) (hb : own_Base) (bytes : ByteArray) (ret : Option FieldType) (Q : Option Value → List (Addr × own_Cel) → Prop) (T : State) (g : JFrame) : Prop :=
  ∃ vm fl T' cs' k n pc L, s.Since vm fl ∧ hb.fl ≤ fl ∧ own_S p l e R (s.setVm vm) m args below meth c Z a0 ⟨hb.b, fl⟩ T' cs' k n ∧ k ≤ R.cells ∧ n ≤ R.slots ∧
    ((ret = none ∧ Q none cs' ∧ decode bytes pc = .ok (.return_, 1) ∧ ∀ target, Steps p.tables e below (T'.setTop (mkF m pc L [])) target → Steps p.tables e below (T.setTop g) target) ∨
     (∃ t v S i, ret = some t ∧ Q (some v) cs' ∧ decode bytes pc = .ok (i, 1) ∧ own_Ret i t v ∧ ∀ target, Steps p.tables e below (T'.setTop (mkF m pc L (v :: S))) target → Steps p.tables e below (T.setTop g) target))
theorem own_met_ofW {l : Launch} {Z : State} {a0 : Array Value} {hb : own_Base} {y : MethodName} {bytes : ByteArray} {maxL : Nat} {ret : Option FieldType} {ws : List Jvm.Cond} {rm : Room} {as' : Array Value} {cs : List (Addr × own_Cel)} {Q : Option Value → List (Addr × own_Cel) → Prop} {L0 : Array Slot} (hpl : plainFor y = true) (hef : ∀ m, entryFrame m as' maxL = mkF m 0 L0 [])
    (body : ∀ (p : Program) (e : Env) (s : State) (m : MethodId) (below : List Frame) (meth : Method) (c : Code) (T : State), p.tables.exec = Jvm.exec → Z.Warmed39 s.vm → s.vm.findClass y.cls = some m.cls → c.code = bytes → c.maxLocals = maxL → meth.name = y.name → own_S p l e rm s m as' below meth c Z a0 hb T cs 0 0 → own_EndsW p l e rm s m as' below meth c Z a0 hb bytes ret Q T (mkF m 0 L0 [])) :
    own_MetW l Z a0 hb y bytes maxL ret ws rm as' cs Q := by
  intro h hH
  refine MetFree.of_bodySF hpl hisR ?_
  intro p e s m args below meth c s₁ Bd hml0 hPP hK
  obtain ⟨rfl, hZ, hh⟩ := hPP
  have hown : s.vm.findClass y.cls = some m.cls := findClass_of_methodNamed Bd.named
  have hnm := (name_of_methodNamed Bd.named Bd.method).1
  have X0 : Stand p l e rm s m _ below meth c s₁ [] 0 0 := Stand.of_body Bd
  have e0 : s₁.heap = h := by rw [← hh, Bd.state]; rfl
  obtain ⟨vm, fl, T', cs', k, n, pc, L, hS, hfl, ⟨locs, X, N, hH0⟩, hk, hn, hE⟩ := body p e s m below meth c s₁ Bd.exec hZ hown Bd.bytes hml0 hnm ⟨[], X0, Fr.nil _, e0 ▸ hH⟩
  have hk0 : fl ≤ T'.heap.size := hH0.1.2
  have hH' : own_Hp Z a0 hb T'.heap cs' := ⟨⟨hH0.1.1, Nat.le_trans hfl hk0⟩, hH0.2⟩
  rcases hE with ⟨rfl, hQ, hd, st⟩ | ⟨t, v, S, i, rfl, hQ, hd, hr, st⟩
  · obtain ⟨fs, hr', hrun, hended, hW, hsame⟩ := X.leave (v := none) (fun _ => rfl)
    obtain ⟨q1, q2, q3⟩ := hS.ended hW hk0 hsame
    exact ⟨_, _, castTop (hef m) (st _ (X.returnOut Bd.exec Bd.returns (Jvm.hb Bd.bytes hd) hr')), hrun, hended, _, _, rfl, ⟨N, cs', hQ, hH'⟩, ⟨_, rfl⟩, q1, q2, q3.mono hk hn⟩
  · obtain ⟨fs, hr', hrun, hended, hW, hsame⟩ := X.leave (v := some v) (fun h => by rw [Bd.returns] at h; cases h)
    obtain ⟨q1, q2, q3⟩ := hS.ended hW hk0 hsame
    exact ⟨_, _, castTop (hef m) (st _ (retOut X Bd.exec Bd.returns hr.1 hr.2 (Jvm.hb Bd.bytes hd) hr')), hrun, hended, _, _, rfl, ⟨N, cs', hQ, hH'⟩, ⟨_, rfl⟩, q1, q2, q3.mono hk hn⟩
end OwnLit
section OwnCallW
open Jvm.Free Jvm.Stand Jvm.LawKit Jvm.RoadKit
variable {p : Program} {l : Launch} {e : Env} {R : Room} {s : State} {m : MethodId} {args : Array Value} {below : List Frame} {meth : Method} {c : Code} {T : State} {Z : State} {a0 : Array Value} {hb : own_Base} {cs : List (Addr × own_Cel)} {k n : Nat}
theorem own_callIW (H : own_S p l e R s m args below meth c Z a0 hb T cs k n) (hx : p.tables.exec = Jvm.exec) (hZ : Z.Warmed39 s.vm) {own : String} {index : Nat} {y : MethodName} {bytes : ByteArray} {maxL : Nat} (hown : s.vm.findClass own = some m.cls) (hy1 : y.name = "<init>")
    (w1 : (Jvm.Cond.methodLink own index y).before a0 Z = true) (w2 : (Jvm.Cond.instanceMethod y).before a0 Z = true) (w3 : (Jvm.Cond.initialized y.cls).before a0 Z = true) (w4 : (Jvm.Cond.code y bytes maxL none).before a0 Z = true) (hy : y.cls ≠ "java/lang/invoke/MethodHandle" ∧ y.cls ≠ "java/lang/invoke/VarHandle")
    {rm : Room} {W : Nat} {x : Addr} {argsL rest : List Value} {Q : Option Value → List (Addr × own_Cel) → Prop} (hM : own_MetW l Z a0 hb y bytes maxL none [] rm (Value.ref x :: argsL).toArray cs Q) (hf : rm.frames + 1 ≤ R.frames) (hl : W + (maxL + 11) + rm.locals ≤ R.locals) (hc : k + rm.cells ≤ R.cells) (hs : n + rm.slots ≤ R.slots)
    {g : JFrame} (hg : g.method = m) (hsize : g.locals.size = c.maxLocals) (hlen : ∀ sig, parseMethodDescriptor y.desc = some sig → argsL.length = sig.parameters.length) (hst : g.stack = argsL.reverse ++ .ref x :: rest) (hW : 2 * g.monitorRoom + (rest.map fun v => v.category).sum ≤ W) (hd : decode c.code g.pc = .ok (.invokespecial index, 3)) :
    ∃ T' v cs', Q v cs' ∧ own_S p l e R (s.setVm T'.vm) m args below meth c Z a0 ⟨hb.b, T'.heap.size⟩ T' cs' (k + rm.cells) (n + rm.slots) ∧ s.Since T'.vm T'.heap.size ∧ hb.fl ≤ T'.heap.size ∧ Z.Warmed39 (s.setVm T'.vm).vm ∧ (s.setVm T'.vm).vm.findClass own = some m.cls ∧
      ∀ target, Steps p.tables e below (T'.setTop { g with pc := g.pc + 3, stack := v.toList ++ rest }) target → Steps p.tables e below (T.setTop g) target := by
  obtain ⟨locs, X, N, hH⟩ := H
  obtain ⟨v', vm1, ⟨T2, L2, k2, n2⟩, -, X2, hS, -, ⟨Lc, hQ, l2, y2, z2⟩, st⟩ := X.specialBackS hx hy1 hown (mvT hZ w1) (mvT hZ w2) (mvT hZ w4) hy (backOfS (W := W) (rm := rm) (Q := fun w H L => Fr hb.size L ∧ ∃ cs', Q w cs' ∧ own_Hp Z a0 hb H cs') (hM _ hH) hZ w4 w3 hf hl) hg hsize (Steps.refl _) hlen hst hW hd (fun _ _ => ⟨rfl, rfl, hc, hs⟩)
  dsimp only [Pt.U, Pt.locs, Pt.cells, Pt.slots] at X2 l2 y2 z2 st hQ hS
  obtain ⟨N2, cs', hQ', hH'⟩ := hQ
  subst l2 y2 z2
  have hW : Z.Warmed39 T2.vm := State.Warmed39.trans (t := s) hZ hS.1
  exact ⟨T2, v', cs', hQ', ⟨_, X2, N.app N2, ⟨hH'.1.1, Nat.le_refl _⟩, hH'.2⟩, hS, hH'.1.2, hW, by rw [show (s.setVm T2.vm).vm = T2.vm from rfl, hS.1.alike.findClass]; exact hown, fun target q => st.trans q⟩
end OwnCallW
section OwnInts
open Jvm.Free Jvm.Stand Jvm.LawKit Jvm.RoadKit
theorem own_lm {x y : Int64} {a b : Int} {X Y : Nat} (hx : x.toInt = a) (hy : y.toInt = b) (ka : a.natAbs ≤ X) (kb : b.natAbs ≤ Y) (h : X * Y < 9223372036854775808) : (x * y).toInt = a * b := by
  have h1 := c_lmul x y
  have h2 := rng64 (x * y)
  have h3 := own_nb ka kb
  rw [hx, hy] at h1
  generalize a * b = w at *
  generalize X * Y = W at *
  omega
theorem own_la {x y : Int64} {a b : Int} (hx : x.toInt = a) (hy : y.toInt = b) (h1 : a + b ≤ 9223372036854775807) (h2 : -9223372036854775808 ≤ a + b) : (x + y).toInt = a + b := by
  have q1 := c_ladd x y
  have q2 := rng64 (x + y)
  rw [hx, hy] at q1
  omega
theorem own_lsb {x y : Int64} {a b : Int} (hx : x.toInt = a) (hy : y.toInt = b) (h1 : a - b ≤ 9223372036854775807) (h2 : -9223372036854775808 ≤ a - b) : (x - y).toInt = a - b := by
  have q1 := c_lsub x y
  have q2 := rng64 (x - y)
  rw [hx, hy] at q1
  omega
theorem own_feq {a b c d : Int} (hb : b ≠ 0) (hd : d ≠ 0) (h : a * d = c * b) : (a : Rat) / (b : Rat) = (c : Rat) / (d : Rat) := by
  have hb' : (b : Rat) ≠ 0 := by rw [Ne, Rat.intCast_eq_zero_iff]; exact hb
  have hd' : (d : Rat) ≠ 0 := by rw [Ne, Rat.intCast_eq_zero_iff]; exact hd
  have h' : (a : Rat) * (d : Rat) = (c : Rat) * (b : Rat) := by rw [← Rat.intCast_mul, ← Rat.intCast_mul, h]
  refine own_cancel hb' (own_cancel hd' ?_)
  rw [Rat.div_mul_cancel hb', h', Rat.mul_assoc, Rat.mul_comm (b : Rat), ← Rat.mul_assoc, Rat.div_mul_cancel hd']
end OwnInts
section OwnClaim
open Jvm.Free.Fl
def own_K0 : List (Nat × Value) := [(24, .double 4472406533629990549), (30, .double 4613937818241073152), (26, .double 4611686018427387904), (28, .double 13835058055282163712)]
theorem own_K0_ok : ∀ q ∈ own_K0, ∃ w ∈ tables_1, own_Word "com/example/placewright/placewright/model/MachineTypeHolds334PinLaw" q.1 q.2 w := by
  intro q hq
  simp only [own_K0, List.mem_cons, List.not_mem_nil, or_false] at hq
  rcases hq with rfl | rfl | rfl | rfl
  · exact ⟨_, List.mem_of_getElem? (i := 5) rfl, rfl⟩
  · exact ⟨_, List.mem_of_getElem? (i := 49) rfl, rfl⟩
  · exact ⟨_, List.mem_of_getElem? (i := 50) rfl, rfl⟩
  · exact ⟨_, List.mem_of_getElem? (i := 51) rfl, rfl⟩
theorem own_pn0 : plainName "com/example/placewright/placewright/model/MachineTypeHolds334PinLaw" = true := by first | (simp [plainName, overriddenIn]; done) | decide +kernel
theorem d1_0 : decode method_3_code 0 = .ok (.iload_n 0, 1) := by decide +kernel
theorem d1_1 : decode method_3_code 1 = .ok (.sipush 16383, 3) := by decide +kernel
theorem d1_4 : decode method_3_code 4 = .ok (.iand, 1) := by decide +kernel
theorem d1_5 : decode method_3_code 5 = .ok (.sipush 8192, 3) := by decide +kernel
theorem d1_8 : decode method_3_code 8 = .ok (.isub, 1) := by decide +kernel
theorem d1_9 : decode method_3_code 9 = .ok (.istore 4, 2) := by decide +kernel
theorem d1_11 : decode method_3_code 11 = .ok (.iload_n 0, 1) := by decide +kernel
theorem d1_12 : decode method_3_code 12 = .ok (.bipush 14, 2) := by decide +kernel
theorem d1_14 : decode method_3_code 14 = .ok (.iushr, 1) := by decide +kernel
theorem d1_15 : decode method_3_code 15 = .ok (.bipush 7, 2) := by decide +kernel
theorem d1_17 : decode method_3_code 17 = .ok (.iand, 1) := by decide +kernel
theorem d1_18 : decode method_3_code 18 = .ok (.iconst 4, 1) := by decide +kernel
theorem d1_19 : decode method_3_code 19 = .ok (.isub, 1) := by decide +kernel
theorem d1_20 : decode method_3_code 20 = .ok (.istore 5, 2) := by decide +kernel
theorem d1_22 : decode method_3_code 22 = .ok (.iload_n 0, 1) := by decide +kernel
theorem d1_23 : decode method_3_code 23 = .ok (.bipush 17, 2) := by decide +kernel
theorem d1_25 : decode method_3_code 25 = .ok (.iushr, 1) := by decide +kernel
theorem d1_26 : decode method_3_code 26 = .ok (.bipush 7, 2) := by decide +kernel
theorem d1_28 : decode method_3_code 28 = .ok (.iand, 1) := by decide +kernel
theorem d1_29 : decode method_3_code 29 = .ok (.istore 6, 2) := by decide +kernel
theorem d1_31 : decode method_3_code 31 = .ok (.ldc2_w 24, 3) := by decide +kernel
theorem d1_34 : decode method_3_code 34 = .ok (.dstore 7, 2) := by decide +kernel
theorem d1_36 : decode method_3_code 36 = .ok (.iload 6, 2) := by decide +kernel
theorem d1_38 : decode method_3_code 38 = .ok (.ifCond .ne 9, 3) := by decide +kernel
theorem d1_41 : decode method_3_code 41 = .ok (.dconst 0, 1) := by decide +kernel
theorem d1_42 : decode method_3_code 42 = .ok (.dstore 9, 2) := by decide +kernel
theorem d1_44 : decode method_3_code 44 = .ok (.goto 108, 3) := by decide +kernel
theorem d1_47 : decode method_3_code 47 = .ok (.iload 6, 2) := by decide +kernel
theorem d1_49 : decode method_3_code 49 = .ok (.iconst 1, 1) := by decide +kernel
theorem d1_50 : decode method_3_code 50 = .ok (.if_icmp .ne 14, 3) := by decide +kernel
theorem d1_53 : decode method_3_code 53 = .ok (.dload 7, 2) := by decide +kernel
theorem d1_55 : decode method_3_code 55 = .ok (.ldc2_w 26, 3) := by decide +kernel
theorem d1_58 : decode method_3_code 58 = .ok (.ddiv, 1) := by decide +kernel
theorem d1_59 : decode method_3_code 59 = .ok (.dstore 9, 2) := by decide +kernel
theorem d1_61 : decode method_3_code 61 = .ok (.goto 91, 3) := by decide +kernel
theorem d1_64 : decode method_3_code 64 = .ok (.iload 6, 2) := by decide +kernel
theorem d1_66 : decode method_3_code 66 = .ok (.iconst 2, 1) := by decide +kernel
theorem d1_67 : decode method_3_code 67 = .ok (.if_icmp .ne 10, 3) := by decide +kernel
theorem d1_70 : decode method_3_code 70 = .ok (.dload 7, 2) := by decide +kernel
theorem d1_72 : decode method_3_code 72 = .ok (.dstore 9, 2) := by decide +kernel
theorem d1_74 : decode method_3_code 74 = .ok (.goto 78, 3) := by decide +kernel
theorem d1_77 : decode method_3_code 77 = .ok (.iload 6, 2) := by decide +kernel
theorem d1_79 : decode method_3_code 79 = .ok (.iconst 3, 1) := by decide +kernel
theorem d1_80 : decode method_3_code 80 = .ok (.if_icmp .ne 15, 3) := by decide +kernel
theorem d1_83 : decode method_3_code 83 = .ok (.dload 7, 2) := by decide +kernel
theorem d1_85 : decode method_3_code 85 = .ok (.dneg, 1) := by decide +kernel
theorem d1_86 : decode method_3_code 86 = .ok (.ldc2_w 26, 3) := by decide +kernel
theorem d1_89 : decode method_3_code 89 = .ok (.ddiv, 1) := by decide +kernel
theorem d1_90 : decode method_3_code 90 = .ok (.dstore 9, 2) := by decide +kernel
theorem d1_92 : decode method_3_code 92 = .ok (.goto 60, 3) := by decide +kernel
theorem d1_95 : decode method_3_code 95 = .ok (.iload 6, 2) := by decide +kernel
theorem d1_97 : decode method_3_code 97 = .ok (.iconst 4, 1) := by decide +kernel
theorem d1_98 : decode method_3_code 98 = .ok (.if_icmp .ne 11, 3) := by decide +kernel
theorem d1_101 : decode method_3_code 101 = .ok (.dload 7, 2) := by decide +kernel
theorem d1_103 : decode method_3_code 103 = .ok (.dneg, 1) := by decide +kernel
theorem d1_104 : decode method_3_code 104 = .ok (.dstore 9, 2) := by decide +kernel
theorem d1_106 : decode method_3_code 106 = .ok (.goto 46, 3) := by decide +kernel
theorem d1_109 : decode method_3_code 109 = .ok (.iload 6, 2) := by decide +kernel
theorem d1_111 : decode method_3_code 111 = .ok (.iconst 5, 1) := by decide +kernel
theorem d1_112 : decode method_3_code 112 = .ok (.if_icmp .ne 14, 3) := by decide +kernel
theorem d1_115 : decode method_3_code 115 = .ok (.ldc2_w 28, 3) := by decide +kernel
theorem d1_118 : decode method_3_code 118 = .ok (.dload 7, 2) := by decide +kernel
theorem d1_120 : decode method_3_code 120 = .ok (.dmul, 1) := by decide +kernel
theorem d1_121 : decode method_3_code 121 = .ok (.dstore 9, 2) := by decide +kernel
theorem d1_123 : decode method_3_code 123 = .ok (.goto 29, 3) := by decide +kernel
theorem d1_126 : decode method_3_code 126 = .ok (.iload 6, 2) := by decide +kernel
theorem d1_128 : decode method_3_code 128 = .ok (.bipush 6, 2) := by decide +kernel
theorem d1_130 : decode method_3_code 130 = .ok (.if_icmp .ne 14, 3) := by decide +kernel
theorem d1_133 : decode method_3_code 133 = .ok (.ldc2_w 26, 3) := by decide +kernel
theorem d1_136 : decode method_3_code 136 = .ok (.dload 7, 2) := by decide +kernel
theorem d1_138 : decode method_3_code 138 = .ok (.dmul, 1) := by decide +kernel
theorem d1_139 : decode method_3_code 139 = .ok (.dstore 9, 2) := by decide +kernel
theorem d1_141 : decode method_3_code 141 = .ok (.goto 11, 3) := by decide +kernel
theorem d1_144 : decode method_3_code 144 = .ok (.ldc2_w 30, 3) := by decide +kernel
theorem d1_147 : decode method_3_code 147 = .ok (.dload 7, 2) := by decide +kernel
theorem d1_149 : decode method_3_code 149 = .ok (.dmul, 1) := by decide +kernel
theorem d1_150 : decode method_3_code 150 = .ok (.dstore 9, 2) := by decide +kernel
theorem d1_152 : decode method_3_code 152 = .ok (.aload_n 1, 1) := by decide +kernel
theorem d1_153 : decode method_3_code 153 = .ok (.iload_n 3, 1) := by decide +kernel
theorem d1_154 : decode method_3_code 154 = .ok (.iload 4, 2) := by decide +kernel
theorem d1_156 : decode method_3_code 156 = .ok (.i2d, 1) := by decide +kernel
theorem d1_157 : decode method_3_code 157 = .ok (.dastore, 1) := by decide +kernel
theorem d1_158 : decode method_3_code 158 = .ok (.aload_n 2, 1) := by decide +kernel
theorem d1_159 : decode method_3_code 159 = .ok (.iload_n 3, 1) := by decide +kernel
theorem d1_160 : decode method_3_code 160 = .ok (.iload 4, 2) := by decide +kernel
theorem d1_162 : decode method_3_code 162 = .ok (.iload 5, 2) := by decide +kernel
theorem d1_164 : decode method_3_code 164 = .ok (.iadd, 1) := by decide +kernel
theorem d1_165 : decode method_3_code 165 = .ok (.i2d, 1) := by decide +kernel
theorem d1_166 : decode method_3_code 166 = .ok (.dload 9, 2) := by decide +kernel
theorem d1_168 : decode method_3_code 168 = .ok (.dadd, 1) := by decide +kernel
theorem d1_169 : decode method_3_code 169 = .ok (.dastore, 1) := by decide +kernel
theorem d1_170 : decode method_3_code 170 = .ok (.iload 5, 2) := by decide +kernel
theorem d1_172 : decode method_3_code 172 = .ok (.ifCond .ge 5, 3) := by decide +kernel
theorem d1_175 : decode method_3_code 175 = .ok (.iconst 1, 1) := by decide +kernel
theorem d1_176 : decode method_3_code 176 = .ok (.ireturn, 1) := by decide +kernel
theorem d1_177 : decode method_3_code 177 = .ok (.iload 5, 2) := by decide +kernel
theorem d1_179 : decode method_3_code 179 = .ok (.ifCond .le 5, 3) := by decide +kernel
theorem d1_182 : decode method_3_code 182 = .ok (.iconst 0, 1) := by decide +kernel
theorem d1_183 : decode method_3_code 183 = .ok (.ireturn, 1) := by decide +kernel
theorem d1_184 : decode method_3_code 184 = .ok (.iload 6, 2) := by decide +kernel
theorem d1_186 : decode method_3_code 186 = .ok (.iconst 5, 1) := by decide +kernel
theorem d1_187 : decode method_3_code 187 = .ok (.if_icmp .gt 7, 3) := by decide +kernel
theorem d1_190 : decode method_3_code 190 = .ok (.iconst 1, 1) := by decide +kernel
theorem d1_191 : decode method_3_code 191 = .ok (.goto 4, 3) := by decide +kernel
theorem d1_194 : decode method_3_code 194 = .ok (.iconst 0, 1) := by decide +kernel
theorem d1_195 : decode method_3_code 195 = .ok (.ireturn, 1) := by decide +kernel
def own_K1 : List (Nat × Value) := [(24, .double 4472406533629990549), (30, .double 4613937818241073152), (26, .double 4611686018427387904), (28, .double 13835058055282163712)]
theorem own_K1_ok : ∀ q ∈ own_K1, ∃ w ∈ tables_1, own_Word "com/example/placewright/placewright/model/MachineTypeHolds334PinLaw" q.1 q.2 w := by
  intro q hq
  simp only [own_K1, List.mem_cons, List.not_mem_nil, or_false] at hq
  rcases hq with rfl | rfl | rfl | rfl
  · exact ⟨_, List.mem_of_getElem? (i := 5) rfl, rfl⟩
  · exact ⟨_, List.mem_of_getElem? (i := 49) rfl, rfl⟩
  · exact ⟨_, List.mem_of_getElem? (i := 50) rfl, rfl⟩
  · exact ⟨_, List.mem_of_getElem? (i := 51) rfl, rfl⟩
theorem own_pn1 : plainName "com/example/placewright/placewright/model/MachineTypeHolds334PinLaw" = true := by first | (simp [plainName, overriddenIn]; done) | decide +kernel
theorem d2_0 : decode prog_12_method_1_code 0 = .ok (.aload_n 0, 1) := by decide +kernel
theorem d2_1 : decode prog_12_method_1_code 1 = .ok (.invokespecial 1, 3) := by decide +kernel
theorem d2_4 : decode prog_12_method_1_code 4 = .ok (.aload_n 0, 1) := by decide +kernel
theorem d2_5 : decode prog_12_method_1_code 5 = .ok (.aload_n 1, 1) := by decide +kernel
theorem d2_6 : decode prog_12_method_1_code 6 = .ok (.putfield 7, 3) := by decide +kernel
theorem d2_9 : decode prog_12_method_1_code 9 = .ok (.aload_n 0, 1) := by decide +kernel
theorem d2_10 : decode prog_12_method_1_code 10 = .ok (.aload_n 2, 1) := by decide +kernel
theorem d2_11 : decode prog_12_method_1_code 11 = .ok (.invokevirtual 13, 3) := by decide +kernel
theorem d2_14 : decode prog_12_method_1_code 14 = .ok (.checkcast 14, 3) := by decide +kernel
theorem d2_17 : decode prog_12_method_1_code 17 = .ok (.putfield 19, 3) := by decide +kernel
theorem d2_20 : decode prog_12_method_1_code 20 = .ok (.aload_n 0, 1) := by decide +kernel
theorem d2_21 : decode prog_12_method_1_code 21 = .ok (.dload_n 3, 1) := by decide +kernel
theorem d2_22 : decode prog_12_method_1_code 22 = .ok (.putfield 22, 3) := by decide +kernel
theorem d2_25 : decode prog_12_method_1_code 25 = .ok (.return_, 1) := by decide +kernel
def own_K2 : List (Nat × Value) := [(30, .double 4472406533629990549)]
theorem own_K2_ok : ∀ q ∈ own_K2, ∃ w ∈ tables_1, own_Word "com/example/placewright/placewright/model/MachineType" q.1 q.2 w := by
  intro q hq
  simp only [own_K2, List.mem_cons, List.not_mem_nil, or_false] at hq
  rcases hq with rfl
  · exact ⟨_, List.mem_of_getElem? (i := 48) rfl, rfl⟩
theorem own_pn2 : plainName "com/example/placewright/placewright/model/MachineType" = true := by first | (simp [plainName, overriddenIn]; done) | decide +kernel
theorem d4_0 : decode prog_12_method_5_code 0 = .ok (.iconst 0, 1) := by decide +kernel
theorem d4_1 : decode prog_12_method_5_code 1 = .ok (.istore_n 2, 1) := by decide +kernel
theorem d4_2 : decode prog_12_method_5_code 2 = .ok (.iload_n 2, 1) := by decide +kernel
theorem d4_3 : decode prog_12_method_5_code 3 = .ok (.aload_n 0, 1) := by decide +kernel
theorem d4_4 : decode prog_12_method_5_code 4 = .ok (.getfield 19, 3) := by decide +kernel
theorem d4_7 : decode prog_12_method_5_code 7 = .ok (.arraylength, 1) := by decide +kernel
theorem d4_8 : decode prog_12_method_5_code 8 = .ok (.if_icmp .ge 22, 3) := by decide +kernel
theorem d4_11 : decode prog_12_method_5_code 11 = .ok (.aload_n 0, 1) := by decide +kernel
theorem d4_12 : decode prog_12_method_5_code 12 = .ok (.aload_n 1, 1) := by decide +kernel
theorem d4_13 : decode prog_12_method_5_code 13 = .ok (.iload_n 2, 1) := by decide +kernel
theorem d4_14 : decode prog_12_method_5_code 14 = .ok (.daload, 1) := by decide +kernel
theorem d4_15 : decode prog_12_method_5_code 15 = .ok (.iload_n 2, 1) := by decide +kernel
theorem d4_16 : decode prog_12_method_5_code 16 = .ok (.invokevirtual 26, 3) := by decide +kernel
theorem d4_19 : decode prog_12_method_5_code 19 = .ok (.ifCond .ne 5, 3) := by decide +kernel
theorem d4_22 : decode prog_12_method_5_code 22 = .ok (.iconst 0, 1) := by decide +kernel
theorem d4_23 : decode prog_12_method_5_code 23 = .ok (.ireturn, 1) := by decide +kernel
theorem d4_24 : decode prog_12_method_5_code 24 = .ok (.iinc 2 1, 3) := by decide +kernel
theorem d4_27 : decode prog_12_method_5_code 27 = .ok (.goto (-25), 3) := by decide +kernel
theorem d4_30 : decode prog_12_method_5_code 30 = .ok (.iconst 1, 1) := by decide +kernel
theorem d4_31 : decode prog_12_method_5_code 31 = .ok (.ireturn, 1) := by decide +kernel
def own_K4 : List (Nat × Value) := [(30, .double 4472406533629990549)]
theorem own_K4_ok : ∀ q ∈ own_K4, ∃ w ∈ tables_1, own_Word "com/example/placewright/placewright/model/MachineType" q.1 q.2 w := by
  intro q hq
  simp only [own_K4, List.mem_cons, List.not_mem_nil, or_false] at hq
  rcases hq with rfl
  · exact ⟨_, List.mem_of_getElem? (i := 48) rfl, rfl⟩
theorem own_pn4 : plainName "com/example/placewright/placewright/model/MachineType" = true := by first | (simp [plainName, overriddenIn]; done) | decide +kernel
theorem d5_0 : decode prog_12_method_7_code 0 = .ok (.dload_n 1, 1) := by decide +kernel
theorem d5_1 : decode prog_12_method_7_code 1 = .ok (.aload_n 0, 1) := by decide +kernel
theorem d5_2 : decode prog_12_method_7_code 2 = .ok (.getfield 19, 3) := by decide +kernel
theorem d5_5 : decode prog_12_method_7_code 5 = .ok (.iload_n 3, 1) := by decide +kernel
theorem d5_6 : decode prog_12_method_7_code 6 = .ok (.daload, 1) := by decide +kernel
theorem d5_7 : decode prog_12_method_7_code 7 = .ok (.ldc2_w 30, 3) := by decide +kernel
theorem d5_10 : decode prog_12_method_7_code 10 = .ok (.dadd, 1) := by decide +kernel
theorem d5_11 : decode prog_12_method_7_code 11 = .ok (.dcmp .g, 1) := by decide +kernel
theorem d5_12 : decode prog_12_method_7_code 12 = .ok (.ifCond .gt 7, 3) := by decide +kernel
theorem d5_15 : decode prog_12_method_7_code 15 = .ok (.iconst 1, 1) := by decide +kernel
theorem d5_16 : decode prog_12_method_7_code 16 = .ok (.goto 4, 3) := by decide +kernel
theorem d5_19 : decode prog_12_method_7_code 19 = .ok (.iconst 0, 1) := by decide +kernel
theorem d5_20 : decode prog_12_method_7_code 20 = .ok (.ireturn, 1) := by decide +kernel
def own_K5 : List (Nat × Value) := [(30, .double 4472406533629990549)]
theorem own_K5_ok : ∀ q ∈ own_K5, ∃ w ∈ tables_1, own_Word "com/example/placewright/placewright/model/MachineType" q.1 q.2 w := by
  intro q hq
  simp only [own_K5, List.mem_cons, List.not_mem_nil, or_false] at hq
  rcases hq with rfl
  · exact ⟨_, List.mem_of_getElem? (i := 48) rfl, rfl⟩
theorem own_pn5 : plainName "com/example/placewright/placewright/model/MachineType" = true := by first | (simp [plainName, overriddenIn]; done) | decide +kernel
theorem own_pd0 : parseMethodDescriptor "()V" = some ⟨[], none⟩ := by decide +kernel
theorem own_pd1 : parseMethodDescriptor "(DI)Z" = some ⟨[.double, .int], some .boolean⟩ := by decide +kernel
theorem own_pd2 : parseMethodDescriptor "(I[D[DI)Z" = some ⟨[.int, (.array .double), (.array .double), .int], some .boolean⟩ := by decide +kernel
theorem own_pd3 : parseMethodDescriptor "(Ljava/lang/String;[DD)V" = some ⟨[(.object "java/lang/String"), (.array .double), .double], none⟩ := by decide +kernel
theorem own_pd4 : parseMethodDescriptor "([D)Z" = some ⟨[(.array .double)], some .boolean⟩ := by decide +kernel
theorem own_strAtoms {a0 : Array Value} {Z : State} (hw : ∀ d ∈ tables_1, d.before a0 Z = true) : ∀ a ∈ Bundle.stringAtoms, a.before a0 Z = true := by
  intro d hd
  simp only [Bundle.stringAtoms, List.mem_cons, List.not_mem_nil, or_false] at hd
  rcases hd with rfl | rfl | rfl | rfl | rfl | rfl | rfl
  · exact (hw _ (List.mem_of_getElem? (i := 10) rfl))
  · exact (hw _ (List.mem_of_getElem? (i := 11) rfl))
  · exact (hw _ (List.mem_of_getElem? (i := 12) rfl))
  · exact (hw _ (List.mem_of_getElem? (i := 13) rfl))
  · exact (hw _ (List.mem_of_getElem? (i := 14) rfl))
  · exact (hw _ (List.mem_of_getElem? (i := 15) rfl))
  · exact (hw _ (List.mem_of_getElem? (i := 16) rfl))

theorem own_retA {t : FieldType} (x : Addr) : own_Ret .areturn (.array t) (.ref x) := ⟨rfl, Or.inr (Or.inr (Or.inr (Or.inr ⟨rfl, rfl, rfl⟩)))⟩
def own_t : Rat := (4835703278458517 : Rat) / 4835703278458516698824704
theorem own_ist : own_is 4472406533629990549 own_t := ⟨false, 4835703278458517, -82, by decide +kernel, by decide +kernel⟩
theorem own_t_lo : (4 : Rat) / 4294967296 ≤ own_t := by decide +kernel
theorem own_t_hi : own_t ≤ (9 : Rat) / 8589934592 := by decide +kernel
theorem own_capw {cc : UInt64} {C : Rat} (hc : own_is cc C) (b1 : C ≤ 1267650600228229401496703205376) (b2 : -1267650600228229401496703205376 ≤ C) : ∃ w, own_rd (FP.dadd cc 4472406533629990549) (C + own_t) ∧ own_is (FP.dadd cc 4472406533629990549) w := by
  have h := own_add hc own_ist
  have t1 := own_t_lo
  have t2 := own_t_hi
  obtain ⟨w, hw⟩ := own_rd_finN h (by grind) (by grind)
  exact ⟨w, h, hw⟩
theorem own_fit0 {x cc : UInt64} {u C : Rat} (hx : own_is x u) (hc : own_is cc C) (b1 : C ≤ 1267650600228229401496703205376) (b2 : -1267650600228229401496703205376 ≤ C) (h : u ≤ C + own_t) : ifCond.holds .gt (cmpValue (FP.dcmp x (FP.dadd cc 4472406533629990549)) .g) = false := by
  obtain ⟨w, h1, h2⟩ := own_capw hc b1 b2
  rw [own_c_gt hx h2]
  exact decide_eq_false (Rat.not_lt.mpr (own_rd_ge' h1 h2 hx h))
theorem own_fit1 {x cc : UInt64} {u C z : Rat} (hx : own_is x u) (hc : own_is cc C) (b1 : C ≤ 1267650600228229401496703205376) (b2 : -1267650600228229401496703205376 ≤ C) (hz : own_Rep z) (h1 : C + own_t ≤ z) (h2 : z < u) : ifCond.holds .gt (cmpValue (FP.dcmp x (FP.dadd cc 4472406533629990549)) .g) = true := by
  obtain ⟨w, h3, h4⟩ := own_capw hc b1 b2
  obtain ⟨m, k, e1, e2, e3, e4⟩ := hz
  obtain ⟨V, hV⟩ := own_rep' e1 e2 e3 e4
  rw [own_c_gt hx h4]
  exact decide_eq_true (Std.lt_of_le_of_lt (own_rd_le' h3 h4 hV h1) h2)
theorem own_ef2 (m : MethodId) (x0 : Addr) (x1 : Addr) (x2 : Addr) (x3 : UInt64) : entryFrame m #[(.ref x0), (.ref x1), (.ref x2), (.double x3)] 5 = mkF m 0 #[.val (.ref x0), .val (.ref x1), .val (.ref x2), .val (.double x3), .second] [] := by first | (simp [entryFrame, mkF, argsToLocals, Value.category]; done) | rfl
theorem own_mi0 (x : Addr) (st : Addr) (ai : Addr) (pr : UInt64) :
    own_Go own_K2 prog_12_method_1_code 0 #[.val (.ref x), .val (.ref st), .val (.ref ai), .val (.double pr), .second] [] 1 #[.val (.ref x), .val (.ref st), .val (.ref ai), .val (.double pr), .second] [(.ref x)] := by
  refine own_aloadN (pc2 := 1) d2_0 rfl rfl rfl ?_
  exact own_refl
theorem own_mi1 (x : Addr) (st : Addr) (ai : Addr) (pr : UInt64) :
    own_Go own_K2 prog_12_method_1_code 4 #[.val (.ref x), .val (.ref st), .val (.ref ai), .val (.double pr), .second] [] 6 #[.val (.ref x), .val (.ref st), .val (.ref ai), .val (.double pr), .second] [(.ref st), (.ref x)] := by
  refine own_aloadN (pc2 := 5) d2_4 rfl rfl rfl ?_
  refine own_aloadN (pc2 := 6) d2_5 rfl rfl rfl ?_
  exact own_refl
theorem own_mi2 (x : Addr) (st : Addr) (ai : Addr) (pr : UInt64) :
    own_Go own_K2 prog_12_method_1_code 9 #[.val (.ref x), .val (.ref st), .val (.ref ai), .val (.double pr), .second] [] 11 #[.val (.ref x), .val (.ref st), .val (.ref ai), .val (.double pr), .second] [(.ref ai), (.ref x)] := by
  refine own_aloadN (pc2 := 10) d2_9 rfl rfl rfl ?_
  refine own_aloadN (pc2 := 11) d2_10 rfl rfl rfl ?_
  exact own_refl
theorem own_mi3 (x : Addr) (st : Addr) (ai : Addr) (pr : UInt64) :
    own_Go own_K2 prog_12_method_1_code 20 #[.val (.ref x), .val (.ref st), .val (.ref ai), .val (.double pr), .second] [] 22 #[.val (.ref x), .val (.ref st), .val (.ref ai), .val (.double pr), .second] [(.double pr), (.ref x)] := by
  refine own_aloadN (pc2 := 21) d2_20 rfl rfl rfl ?_
  refine own_dloadN (pc2 := 22) d2_21 rfl rfl ?_
  exact own_refl
set_option maxRecDepth 65536 in
set_option maxHeartbeats 4000000 in
theorem own_mk (l : Launch) (Z : State) (a0 : Array Value) (hb0 : own_Base) (hw : ∀ d ∈ tables_1, d.before a0 Z = true) (x : Addr) (st : Addr) (ai : Addr) (pr : UInt64) (d0 d1 d2 : UInt64) (li : Addr) (ql : own_Cel) :
    own_Met l Z a0 hb0 (⟨"com/example/placewright/placewright/model/MachineType", "<init>", "(Ljava/lang/String;[DD)V"⟩ : MethodName) prog_12_method_1_code 5 none [] ({ frames := 2, cells := 1, slots := 3, locals := 28 } : Room) #[(.ref x), (.ref st), (.ref ai), (.double pr)] [(ai, own_A .double [.double d0, .double d1, .double d2]), (li, ql), (x, own_O "com/example/placewright/placewright/model/MachineType" [("com/example/placewright/placewright/model/MachineType", "name", "Ljava/lang/String;", .null), ("com/example/placewright/placewright/model/MachineType", "capacity", "[D", .null), ("com/example/placewright/placewright/model/MachineType", "pricePerHour", "D", .double 0)])] (fun r cs' => ∃ y, r = none ∧ cs' = [(ai, own_A .double [.double d0, .double d1, .double d2]), (li, ql), (x, own_O "com/example/placewright/placewright/model/MachineType" [("com/example/placewright/placewright/model/MachineType", "name", "Ljava/lang/String;", .ref st), ("com/example/placewright/placewright/model/MachineType", "capacity", "[D", .ref y), ("com/example/placewright/placewright/model/MachineType", "pricePerHour", "D", .double pr)]), (y, own_A .double [.double d0, .double d1, .double d2])]) := by
  refine own_met_of (L0 := #[.val (.ref x), .val (.ref st), .val (.ref ai), .val (.double pr), .second]) (plainFor_of_name own_pn2) (fun m => own_ef2 m x st ai pr) ?_
  intro p e s m below meth c T0 hx hZ hown hby hml hnm H0
  obtain ⟨Tmi1, Hmi1, stmi1⟩ := own_initO H0 hx hZ hown (hw _ (List.mem_of_getElem? (i := 20) rfl)) (hw _ (List.mem_of_getElem? (i := 21) rfl)) (hw _ (List.mem_of_getElem? (i := 22) rfl)) (g := (mkF m 1 #[.val (.ref x), .val (.ref st), .val (.ref ai), .val (.double pr), .second] [(.ref x)])) rfl (by rw [hml]; rfl) rfl (hb hby d2_1) (by decide) (W := 0) (by show 2 * 0 + _ ≤ _; exact Nat.le_of_eq rfl) (by decide)
  change own_S _ _ _ _ _ _ _ _ _ _ _ _ _ _ [(ai, own_A .double [.double d0, .double d1, .double d2]), (li, ql), (x, own_O "com/example/placewright/placewright/model/MachineType" [("com/example/placewright/placewright/model/MachineType", "name", "Ljava/lang/String;", .null), ("com/example/placewright/placewright/model/MachineType", "capacity", "[D", .null), ("com/example/placewright/placewright/model/MachineType", "pricePerHour", "D", .double 0)])] _ _ at Hmi1
  obtain ⟨Tmi2, Hmi2, stmi2⟩ := own_putF Hmi1 hx hZ hown (hw _ (List.mem_of_getElem? (i := 23) rfl)) 2 0 rfl rfl (Or.inr ⟨(hw _ (List.mem_of_getElem? (i := 24) rfl)), rfl, hnm⟩) (hw _ (List.mem_of_getElem? (i := 7) rfl)) (ty := (.object "java/lang/String")) (by decide) rfl rfl (g := (mkF m 6 #[.val (.ref x), .val (.ref st), .val (.ref ai), .val (.double pr), .second] [(.ref st), (.ref x)])) rfl rfl (hb hby d2_6)
  change own_S _ _ _ _ _ _ _ _ _ _ _ _ _ _ [(ai, own_A .double [.double d0, .double d1, .double d2]), (li, ql), (x, own_O "com/example/placewright/placewright/model/MachineType" [("com/example/placewright/placewright/model/MachineType", "name", "Ljava/lang/String;", .ref st), ("com/example/placewright/placewright/model/MachineType", "capacity", "[D", .null), ("com/example/placewright/placewright/model/MachineType", "pricePerHour", "D", .double 0)])] _ _ at Hmi2
  obtain ⟨Tmi3, y, Hmi3, stmi3⟩ := own_cloneA Hmi2 hx hZ hown (hw _ (List.mem_of_getElem? (i := 25) rfl)) (hw _ (List.mem_of_getElem? (i := 26) rfl)) (hw _ (List.mem_of_getElem? (i := 30) rfl)) (hw _ (List.mem_of_getElem? (i := 28) rfl)) (hw _ (List.mem_of_getElem? (i := 29) rfl)) (hw _ (List.mem_of_getElem? (i := 31) rfl)) 0 rfl (fun _ _ _ q => own_ACd.mp q) (fun _ _ _ q => own_ACd.mpr q) (by
      intro v hv
      simp only [List.mem_cons, List.not_mem_nil, or_false] at hv
      rcases hv with rfl | rfl | rfl <;> rfl) (g := (mkF m 11 #[.val (.ref x), .val (.ref st), .val (.ref ai), .val (.double pr), .second] [(.ref ai), (.ref x)])) rfl (by rw [hml]; rfl) rfl (hb hby d2_11) (by decide) (W := 1) (by show 2 * 0 + _ ≤ _; exact Nat.le_of_eq rfl) (by decide) (cap := 3) (Nat.le_of_eq rfl) (by decide) (by decide)
  change own_S _ _ _ _ _ _ _ _ _ _ _ _ _ _ [(ai, own_A .double [.double d0, .double d1, .double d2]), (li, ql), (x, own_O "com/example/placewright/placewright/model/MachineType" [("com/example/placewright/placewright/model/MachineType", "name", "Ljava/lang/String;", .ref st), ("com/example/placewright/placewright/model/MachineType", "capacity", "[D", .null), ("com/example/placewright/placewright/model/MachineType", "pricePerHour", "D", .double 0)]), (y, own_A .double [.double d0, .double d1, .double d2])] _ _ at Hmi3
  obtain ⟨Tmi4, Hmi4, stmi4⟩ := own_castA Hmi3 hx hZ hown (hw _ (List.mem_of_getElem? (i := 32) rfl)) 3 rfl (fun _ _ _ q => own_ACd.mp q) (g := (mkF m 14 #[.val (.ref x), .val (.ref st), .val (.ref ai), .val (.double pr), .second] [(.ref y), (.ref x)])) rfl rfl (hb hby d2_14)
  change own_S _ _ _ _ _ _ _ _ _ _ _ _ _ _ [(ai, own_A .double [.double d0, .double d1, .double d2]), (li, ql), (x, own_O "com/example/placewright/placewright/model/MachineType" [("com/example/placewright/placewright/model/MachineType", "name", "Ljava/lang/String;", .ref st), ("com/example/placewright/placewright/model/MachineType", "capacity", "[D", .null), ("com/example/placewright/placewright/model/MachineType", "pricePerHour", "D", .double 0)]), (y, own_A .double [.double d0, .double d1, .double d2])] _ _ at Hmi4
  obtain ⟨Tmi5, Hmi5, stmi5⟩ := own_putF Hmi4 hx hZ hown (hw _ (List.mem_of_getElem? (i := 34) rfl)) 2 1 rfl rfl (Or.inr ⟨(hw _ (List.mem_of_getElem? (i := 35) rfl)), rfl, hnm⟩) (hw _ (List.mem_of_getElem? (i := 7) rfl)) (ty := (.array .double)) (by decide) rfl rfl (g := (mkF m 17 #[.val (.ref x), .val (.ref st), .val (.ref ai), .val (.double pr), .second] [(.ref y), (.ref x)])) rfl rfl (hb hby d2_17)
  change own_S _ _ _ _ _ _ _ _ _ _ _ _ _ _ [(ai, own_A .double [.double d0, .double d1, .double d2]), (li, ql), (x, own_O "com/example/placewright/placewright/model/MachineType" [("com/example/placewright/placewright/model/MachineType", "name", "Ljava/lang/String;", .ref st), ("com/example/placewright/placewright/model/MachineType", "capacity", "[D", .ref y), ("com/example/placewright/placewright/model/MachineType", "pricePerHour", "D", .double 0)]), (y, own_A .double [.double d0, .double d1, .double d2])] _ _ at Hmi5
  obtain ⟨Tmi6, Hmi6, stmi6⟩ := own_putF Hmi5 hx hZ hown (hw _ (List.mem_of_getElem? (i := 36) rfl)) 2 2 rfl rfl (Or.inr ⟨(hw _ (List.mem_of_getElem? (i := 37) rfl)), rfl, hnm⟩) (hw _ (List.mem_of_getElem? (i := 7) rfl)) (ty := .double) (by decide) rfl rfl (g := (mkF m 22 #[.val (.ref x), .val (.ref st), .val (.ref ai), .val (.double pr), .second] [(.double pr), (.ref x)])) rfl rfl (hb hby d2_22)
  change own_S _ _ _ _ _ _ _ _ _ _ _ _ _ _ [(ai, own_A .double [.double d0, .double d1, .double d2]), (li, ql), (x, own_O "com/example/placewright/placewright/model/MachineType" [("com/example/placewright/placewright/model/MachineType", "name", "Ljava/lang/String;", .ref st), ("com/example/placewright/placewright/model/MachineType", "capacity", "[D", .ref y), ("com/example/placewright/placewright/model/MachineType", "pricePerHour", "D", .double pr)]), (y, own_A .double [.double d0, .double d1, .double d2])] _ _ at Hmi6
  refine ⟨_, _, _, _, 25, #[.val (.ref x), .val (.ref st), .val (.ref ai), .val (.double pr), .second], Hmi6, by decide, by decide, Or.inl ⟨rfl, ⟨y, rfl, rfl⟩, d2_25, fun target q => ?_⟩⟩
  refine own_go H0 hx hZ hown hby hw own_K2_ok (own_mi0 x st ai pr) _ ?_
  refine stmi1 _ ?_
  refine own_go Hmi1 hx hZ hown hby hw own_K2_ok (own_mi1 x st ai pr) _ ?_
  refine stmi2 _ ?_
  refine own_go Hmi2 hx hZ hown hby hw own_K2_ok (own_mi2 x st ai pr) _ ?_
  refine stmi3 _ ?_
  refine stmi4 _ ?_
  refine stmi5 _ ?_
  refine own_go Hmi5 hx hZ hown hby hw own_K2_ok (own_mi3 x st ai pr) _ ?_
  refine stmi6 _ ?_
  exact q
theorem own_ef0 (m : MethodId) (x0 : Int32) (x1 : Int32) (x2 : Int32) : entryFrame m #[(.int x0), (.int x1), (.int x2)] maxLocals = mkF m 0 #[.val (.int x0), .val (.int x1), .val (.int x2), .unset, .unset, .unset, .unset, .unset, .unset] [] := by first | (simp [entryFrame, mkF, argsToLocals, Value.category, maxLocals]; done) | rfl
theorem own_ef5 (m : MethodId) (x0 : Addr) (x1 : UInt64) (x2 : Int32) : entryFrame m #[(.ref x0), (.double x1), (.int x2)] 4 = mkF m 0 #[.val (.ref x0), .val (.double x1), .second, .val (.int x2)] [] := by first | (simp [entryFrame, mkF, argsToLocals, Value.category]; done) | rfl
theorem own_ef4 (m : MethodId) (x0 : Addr) (x1 : Addr) : entryFrame m #[(.ref x0), (.ref x1)] 3 = mkF m 0 #[.val (.ref x0), .val (.ref x1), .unset] [] := by first | (simp [entryFrame, mkF, argsToLocals, Value.category]; done) | rfl
theorem own_ef1 (m : MethodId) (x0 : Int32) (x1 : Addr) (x2 : Addr) (x3 : Int32) : entryFrame m #[(.int x0), (.ref x1), (.ref x2), (.int x3)] 11 = mkF m 0 #[.val (.int x0), .val (.ref x1), .val (.ref x2), .val (.int x3), .unset, .unset, .unset, .unset, .unset, .unset, .unset] [] := by first | (simp [entryFrame, mkF, argsToLocals, Value.category]; done) | rfl
theorem own_f00_0 (x : Addr) (us : UInt64) :
    own_Go own_K5 prog_12_method_7_code 0 #[.val (.ref x), .val (.double us), .second, .val (.int (0 : Int32))] [] 2 #[.val (.ref x), .val (.double us), .second, .val (.int (0 : Int32))] [(.ref x), (.double us)] := by
  refine own_dloadN (pc2 := 1) d5_0 rfl rfl ?_
  refine own_aloadN (pc2 := 2) d5_1 rfl rfl rfl ?_
  exact own_refl
theorem own_f00_1 (x : Addr) (us : UInt64) (y : Addr) :
    own_Go own_K5 prog_12_method_7_code 5 #[.val (.ref x), .val (.double us), .second, .val (.int (0 : Int32))] [(.ref y), (.double us)] 6 #[.val (.ref x), .val (.double us), .second, .val (.int (0 : Int32))] [(.int (0 : Int32)), (.ref y), (.double us)] := by
  refine own_iloadN (pc2 := 6) d5_5 rfl rfl ?_
  exact own_refl
theorem own_f00_2 (x : Addr) (us : UInt64) (d0 : UInt64) (v10 : UInt64) (hv10 : (FP.dadd d0 (4472406533629990549 : UInt64)) = v10) (nn10 : NoNaN64 (FP.dadd d0 (4472406533629990549 : UInt64))) (v11 : Int32) (hv11 : (cmpValue (FP.dcmp us v10) .g) = v11) (hb12 : ifCond.holds .gt v11 = false) :
    own_Go own_K5 prog_12_method_7_code 7 #[.val (.ref x), .val (.double us), .second, .val (.int (0 : Int32))] [(.double d0), (.double us)] 20 #[.val (.ref x), .val (.double us), .second, .val (.int (0 : Int32))] [(.int (1 : Int32))] := by
  refine own_ldc2D (v := (4472406533629990549 : UInt64)) (pc2 := 10) d5_7 rfl (List.mem_of_getElem? (i := 0) rfl) ?_
  refine own_dadd (pc2 := 11) d5_10 rfl nn10 (v := v10) hv10 ?_
  refine own_dcmp (pc2 := 12) d5_11 rfl (v := v11) hv11 ?_
  refine own_ifNo (pc2 := 15) d5_12 rfl hb12 ?_
  refine own_iconst (v := 1) (pc2 := 16) d5_15 rfl rfl ?_
  refine own_goto (pc' := 20) d5_16 (by decide) (by decide) ?_
  exact own_refl
set_option maxRecDepth 65536 in
set_option maxHeartbeats 4000000 in
theorem own_fits00 (l : Launch) (Z : State) (a0 : Array Value) (hb0 : own_Base) (hw : ∀ d ∈ tables_1, d.before a0 Z = true) (x : Addr) (us : UInt64) (ai li st y : Addr) (qa ql : own_Cel) (pr d0 d1 d2 : UInt64) (nn10 : NoNaN64 (FP.dadd d0 (4472406533629990549 : UInt64))) (hC : ifCond.holds .gt (cmpValue (FP.dcmp us (FP.dadd d0 (4472406533629990549 : UInt64))) .g) = false) :
    own_Met l Z a0 hb0 (⟨"com/example/placewright/placewright/model/MachineType", "fits", "(DI)Z"⟩ : MethodName) prog_12_method_7_code 4 (some .boolean) [] ({ frames := 0, cells := 0, slots := 0, locals := 0 } : Room) #[(.ref x), (.double us), (.int (0 : Int32))] [(ai, qa), (li, ql), (x, own_O "com/example/placewright/placewright/model/MachineType" [("com/example/placewright/placewright/model/MachineType", "name", "Ljava/lang/String;", .ref st), ("com/example/placewright/placewright/model/MachineType", "capacity", "[D", .ref y), ("com/example/placewright/placewright/model/MachineType", "pricePerHour", "D", .double pr)]), (y, own_A .double [.double d0, .double d1, .double d2])] (fun r cs' => r = some (.int 1) ∧ cs' = [(ai, qa), (li, ql), (x, own_O "com/example/placewright/placewright/model/MachineType" [("com/example/placewright/placewright/model/MachineType", "name", "Ljava/lang/String;", .ref st), ("com/example/placewright/placewright/model/MachineType", "capacity", "[D", .ref y), ("com/example/placewright/placewright/model/MachineType", "pricePerHour", "D", .double pr)]), (y, own_A .double [.double d0, .double d1, .double d2])]) := by
  refine own_met_of (L0 := #[.val (.ref x), .val (.double us), .second, .val (.int (0 : Int32))]) (plainFor_of_name own_pn5) (fun m => own_ef5 m x us (0 : Int32)) ?_
  intro p e s m below meth c T0 hx hZ hown hby hml hnm H0
  obtain ⟨Tf00_1, Hf00_1, stf00_1⟩ := own_getF H0 hx hZ hown (hw _ (List.mem_of_getElem? (i := 34) rfl)) 2 1 rfl rfl (g := (mkF m 2 #[.val (.ref x), .val (.double us), .second, .val (.int (0 : Int32))] [(.ref x), (.double us)])) rfl rfl (hb hby d5_2)
  change own_S _ _ _ _ _ _ _ _ _ _ _ _ _ _ [(ai, qa), (li, ql), (x, own_O "com/example/placewright/placewright/model/MachineType" [("com/example/placewright/placewright/model/MachineType", "name", "Ljava/lang/String;", .ref st), ("com/example/placewright/placewright/model/MachineType", "capacity", "[D", .ref y), ("com/example/placewright/placewright/model/MachineType", "pricePerHour", "D", .double pr)]), (y, own_A .double [.double d0, .double d1, .double d2])] _ _ at Hf00_1
  obtain ⟨v10, hv10⟩ : ∃ z : UInt64, (FP.dadd d0 (4472406533629990549 : UInt64)) = z := ⟨_, rfl⟩
  obtain ⟨v11, hv11⟩ : ∃ z : Int32, (cmpValue (FP.dcmp us v10) .g) = z := ⟨_, rfl⟩
  have hb12 : ifCond.holds .gt v11 = false := by rw [← hv11, ← hv10]; exact hC
  refine ⟨_, _, _, _, 20, #[.val (.ref x), .val (.double us), .second, .val (.int (0 : Int32))], Hf00_1, by decide, by decide, Or.inr ⟨.boolean, (.int (1 : Int32)), [], .ireturn, rfl, ⟨rfl, rfl⟩, d5_20, own_retZ (Or.inr rfl), fun target q => ?_⟩⟩
  refine own_go H0 hx hZ hown hby hw own_K5_ok (own_f00_0 x us) _ ?_
  refine stf00_1 _ ?_
  refine own_go Hf00_1 hx hZ hown hby hw own_K5_ok (own_f00_1 x us y) _ ?_
  refine own_daload Hf00_1 hx hZ 3 0 rfl (by decide) rfl (g := (mkF m 6 #[.val (.ref x), .val (.double us), .second, .val (.int (0 : Int32))] [(.int (0 : Int32)), (.ref y), (.double us)])) rfl rfl (hb hby d5_6) _ ?_
  refine own_go Hf00_1 hx hZ hown hby hw own_K5_ok (own_f00_2 x us d0 v10 hv10 nn10 v11 hv11 hb12) _ ?_
  exact q
theorem own_f01_0 (x : Addr) (us : UInt64) :
    own_Go own_K5 prog_12_method_7_code 0 #[.val (.ref x), .val (.double us), .second, .val (.int (0 : Int32))] [] 2 #[.val (.ref x), .val (.double us), .second, .val (.int (0 : Int32))] [(.ref x), (.double us)] := by
  refine own_dloadN (pc2 := 1) d5_0 rfl rfl ?_
  refine own_aloadN (pc2 := 2) d5_1 rfl rfl rfl ?_
  exact own_refl
theorem own_f01_1 (x : Addr) (us : UInt64) (y : Addr) :
    own_Go own_K5 prog_12_method_7_code 5 #[.val (.ref x), .val (.double us), .second, .val (.int (0 : Int32))] [(.ref y), (.double us)] 6 #[.val (.ref x), .val (.double us), .second, .val (.int (0 : Int32))] [(.int (0 : Int32)), (.ref y), (.double us)] := by
  refine own_iloadN (pc2 := 6) d5_5 rfl rfl ?_
  exact own_refl
theorem own_f01_2 (x : Addr) (us : UInt64) (d0 : UInt64) (v10 : UInt64) (hv10 : (FP.dadd d0 (4472406533629990549 : UInt64)) = v10) (nn10 : NoNaN64 (FP.dadd d0 (4472406533629990549 : UInt64))) (v11 : Int32) (hv11 : (cmpValue (FP.dcmp us v10) .g) = v11) (hb12 : ifCond.holds .gt v11 = true) :
    own_Go own_K5 prog_12_method_7_code 7 #[.val (.ref x), .val (.double us), .second, .val (.int (0 : Int32))] [(.double d0), (.double us)] 20 #[.val (.ref x), .val (.double us), .second, .val (.int (0 : Int32))] [(.int (0 : Int32))] := by
  refine own_ldc2D (v := (4472406533629990549 : UInt64)) (pc2 := 10) d5_7 rfl (List.mem_of_getElem? (i := 0) rfl) ?_
  refine own_dadd (pc2 := 11) d5_10 rfl nn10 (v := v10) hv10 ?_
  refine own_dcmp (pc2 := 12) d5_11 rfl (v := v11) hv11 ?_
  refine own_ifYes (pc' := 19) d5_12 hb12 (by decide) (by decide) ?_
  refine own_iconst (v := 0) (pc2 := 20) d5_19 rfl rfl ?_
  exact own_refl
set_option maxRecDepth 65536 in
set_option maxHeartbeats 4000000 in
theorem own_fits01 (l : Launch) (Z : State) (a0 : Array Value) (hb0 : own_Base) (hw : ∀ d ∈ tables_1, d.before a0 Z = true) (x : Addr) (us : UInt64) (ai li st y : Addr) (qa ql : own_Cel) (pr d0 d1 d2 : UInt64) (nn10 : NoNaN64 (FP.dadd d0 (4472406533629990549 : UInt64))) (hC : ifCond.holds .gt (cmpValue (FP.dcmp us (FP.dadd d0 (4472406533629990549 : UInt64))) .g) = true) :
    own_Met l Z a0 hb0 (⟨"com/example/placewright/placewright/model/MachineType", "fits", "(DI)Z"⟩ : MethodName) prog_12_method_7_code 4 (some .boolean) [] ({ frames := 0, cells := 0, slots := 0, locals := 0 } : Room) #[(.ref x), (.double us), (.int (0 : Int32))] [(ai, qa), (li, ql), (x, own_O "com/example/placewright/placewright/model/MachineType" [("com/example/placewright/placewright/model/MachineType", "name", "Ljava/lang/String;", .ref st), ("com/example/placewright/placewright/model/MachineType", "capacity", "[D", .ref y), ("com/example/placewright/placewright/model/MachineType", "pricePerHour", "D", .double pr)]), (y, own_A .double [.double d0, .double d1, .double d2])] (fun r cs' => r = some (.int 0) ∧ cs' = [(ai, qa), (li, ql), (x, own_O "com/example/placewright/placewright/model/MachineType" [("com/example/placewright/placewright/model/MachineType", "name", "Ljava/lang/String;", .ref st), ("com/example/placewright/placewright/model/MachineType", "capacity", "[D", .ref y), ("com/example/placewright/placewright/model/MachineType", "pricePerHour", "D", .double pr)]), (y, own_A .double [.double d0, .double d1, .double d2])]) := by
  refine own_met_of (L0 := #[.val (.ref x), .val (.double us), .second, .val (.int (0 : Int32))]) (plainFor_of_name own_pn5) (fun m => own_ef5 m x us (0 : Int32)) ?_
  intro p e s m below meth c T0 hx hZ hown hby hml hnm H0
  obtain ⟨Tf01_1, Hf01_1, stf01_1⟩ := own_getF H0 hx hZ hown (hw _ (List.mem_of_getElem? (i := 34) rfl)) 2 1 rfl rfl (g := (mkF m 2 #[.val (.ref x), .val (.double us), .second, .val (.int (0 : Int32))] [(.ref x), (.double us)])) rfl rfl (hb hby d5_2)
  change own_S _ _ _ _ _ _ _ _ _ _ _ _ _ _ [(ai, qa), (li, ql), (x, own_O "com/example/placewright/placewright/model/MachineType" [("com/example/placewright/placewright/model/MachineType", "name", "Ljava/lang/String;", .ref st), ("com/example/placewright/placewright/model/MachineType", "capacity", "[D", .ref y), ("com/example/placewright/placewright/model/MachineType", "pricePerHour", "D", .double pr)]), (y, own_A .double [.double d0, .double d1, .double d2])] _ _ at Hf01_1
  obtain ⟨v10, hv10⟩ : ∃ z : UInt64, (FP.dadd d0 (4472406533629990549 : UInt64)) = z := ⟨_, rfl⟩
  obtain ⟨v11, hv11⟩ : ∃ z : Int32, (cmpValue (FP.dcmp us v10) .g) = z := ⟨_, rfl⟩
  have hb12 : ifCond.holds .gt v11 = true := by rw [← hv11, ← hv10]; exact hC
  refine ⟨_, _, _, _, 20, #[.val (.ref x), .val (.double us), .second, .val (.int (0 : Int32))], Hf01_1, by decide, by decide, Or.inr ⟨.boolean, (.int (0 : Int32)), [], .ireturn, rfl, ⟨rfl, rfl⟩, d5_20, own_retZ (Or.inl rfl), fun target q => ?_⟩⟩
  refine own_go H0 hx hZ hown hby hw own_K5_ok (own_f01_0 x us) _ ?_
  refine stf01_1 _ ?_
  refine own_go Hf01_1 hx hZ hown hby hw own_K5_ok (own_f01_1 x us y) _ ?_
  refine own_daload Hf01_1 hx hZ 3 0 rfl (by decide) rfl (g := (mkF m 6 #[.val (.ref x), .val (.double us), .second, .val (.int (0 : Int32))] [(.int (0 : Int32)), (.ref y), (.double us)])) rfl rfl (hb hby d5_6) _ ?_
  refine own_go Hf01_1 hx hZ hown hby hw own_K5_ok (own_f01_2 x us d0 v10 hv10 nn10 v11 hv11 hb12) _ ?_
  exact q
theorem own_f10_0 (x : Addr) (us : UInt64) :
    own_Go own_K5 prog_12_method_7_code 0 #[.val (.ref x), .val (.double us), .second, .val (.int (1 : Int32))] [] 2 #[.val (.ref x), .val (.double us), .second, .val (.int (1 : Int32))] [(.ref x), (.double us)] := by
  refine own_dloadN (pc2 := 1) d5_0 rfl rfl ?_
  refine own_aloadN (pc2 := 2) d5_1 rfl rfl rfl ?_
  exact own_refl
theorem own_f10_1 (x : Addr) (us : UInt64) (y : Addr) :
    own_Go own_K5 prog_12_method_7_code 5 #[.val (.ref x), .val (.double us), .second, .val (.int (1 : Int32))] [(.ref y), (.double us)] 6 #[.val (.ref x), .val (.double us), .second, .val (.int (1 : Int32))] [(.int (1 : Int32)), (.ref y), (.double us)] := by
  refine own_iloadN (pc2 := 6) d5_5 rfl rfl ?_
  exact own_refl
theorem own_f10_2 (x : Addr) (us : UInt64) (d1 : UInt64) (v10 : UInt64) (hv10 : (FP.dadd d1 (4472406533629990549 : UInt64)) = v10) (nn10 : NoNaN64 (FP.dadd d1 (4472406533629990549 : UInt64))) (v11 : Int32) (hv11 : (cmpValue (FP.dcmp us v10) .g) = v11) (hb12 : ifCond.holds .gt v11 = false) :
    own_Go own_K5 prog_12_method_7_code 7 #[.val (.ref x), .val (.double us), .second, .val (.int (1 : Int32))] [(.double d1), (.double us)] 20 #[.val (.ref x), .val (.double us), .second, .val (.int (1 : Int32))] [(.int (1 : Int32))] := by
  refine own_ldc2D (v := (4472406533629990549 : UInt64)) (pc2 := 10) d5_7 rfl (List.mem_of_getElem? (i := 0) rfl) ?_
  refine own_dadd (pc2 := 11) d5_10 rfl nn10 (v := v10) hv10 ?_
  refine own_dcmp (pc2 := 12) d5_11 rfl (v := v11) hv11 ?_
  refine own_ifNo (pc2 := 15) d5_12 rfl hb12 ?_
  refine own_iconst (v := 1) (pc2 := 16) d5_15 rfl rfl ?_
  refine own_goto (pc' := 20) d5_16 (by decide) (by decide) ?_
  exact own_refl
set_option maxRecDepth 65536 in
set_option maxHeartbeats 4000000 in
theorem own_fits10 (l : Launch) (Z : State) (a0 : Array Value) (hb0 : own_Base) (hw : ∀ d ∈ tables_1, d.before a0 Z = true) (x : Addr) (us : UInt64) (ai li st y : Addr) (qa ql : own_Cel) (pr d0 d1 d2 : UInt64) (nn10 : NoNaN64 (FP.dadd d1 (4472406533629990549 : UInt64))) (hC : ifCond.holds .gt (cmpValue (FP.dcmp us (FP.dadd d1 (4472406533629990549 : UInt64))) .g) = false) :
    own_Met l Z a0 hb0 (⟨"com/example/placewright/placewright/model/MachineType", "fits", "(DI)Z"⟩ : MethodName) prog_12_method_7_code 4 (some .boolean) [] ({ frames := 0, cells := 0, slots := 0, locals := 0 } : Room) #[(.ref x), (.double us), (.int (1 : Int32))] [(ai, qa), (li, ql), (x, own_O "com/example/placewright/placewright/model/MachineType" [("com/example/placewright/placewright/model/MachineType", "name", "Ljava/lang/String;", .ref st), ("com/example/placewright/placewright/model/MachineType", "capacity", "[D", .ref y), ("com/example/placewright/placewright/model/MachineType", "pricePerHour", "D", .double pr)]), (y, own_A .double [.double d0, .double d1, .double d2])] (fun r cs' => r = some (.int 1) ∧ cs' = [(ai, qa), (li, ql), (x, own_O "com/example/placewright/placewright/model/MachineType" [("com/example/placewright/placewright/model/MachineType", "name", "Ljava/lang/String;", .ref st), ("com/example/placewright/placewright/model/MachineType", "capacity", "[D", .ref y), ("com/example/placewright/placewright/model/MachineType", "pricePerHour", "D", .double pr)]), (y, own_A .double [.double d0, .double d1, .double d2])]) := by
  refine own_met_of (L0 := #[.val (.ref x), .val (.double us), .second, .val (.int (1 : Int32))]) (plainFor_of_name own_pn5) (fun m => own_ef5 m x us (1 : Int32)) ?_
  intro p e s m below meth c T0 hx hZ hown hby hml hnm H0
  obtain ⟨Tf10_1, Hf10_1, stf10_1⟩ := own_getF H0 hx hZ hown (hw _ (List.mem_of_getElem? (i := 34) rfl)) 2 1 rfl rfl (g := (mkF m 2 #[.val (.ref x), .val (.double us), .second, .val (.int (1 : Int32))] [(.ref x), (.double us)])) rfl rfl (hb hby d5_2)
  change own_S _ _ _ _ _ _ _ _ _ _ _ _ _ _ [(ai, qa), (li, ql), (x, own_O "com/example/placewright/placewright/model/MachineType" [("com/example/placewright/placewright/model/MachineType", "name", "Ljava/lang/String;", .ref st), ("com/example/placewright/placewright/model/MachineType", "capacity", "[D", .ref y), ("com/example/placewright/placewright/model/MachineType", "pricePerHour", "D", .double pr)]), (y, own_A .double [.double d0, .double d1, .double d2])] _ _ at Hf10_1
  obtain ⟨v10, hv10⟩ : ∃ z : UInt64, (FP.dadd d1 (4472406533629990549 : UInt64)) = z := ⟨_, rfl⟩
  obtain ⟨v11, hv11⟩ : ∃ z : Int32, (cmpValue (FP.dcmp us v10) .g) = z := ⟨_, rfl⟩
  have hb12 : ifCond.holds .gt v11 = false := by rw [← hv11, ← hv10]; exact hC
  refine ⟨_, _, _, _, 20, #[.val (.ref x), .val (.double us), .second, .val (.int (1 : Int32))], Hf10_1, by decide, by decide, Or.inr ⟨.boolean, (.int (1 : Int32)), [], .ireturn, rfl, ⟨rfl, rfl⟩, d5_20, own_retZ (Or.inr rfl), fun target q => ?_⟩⟩
  refine own_go H0 hx hZ hown hby hw own_K5_ok (own_f10_0 x us) _ ?_
  refine stf10_1 _ ?_
  refine own_go Hf10_1 hx hZ hown hby hw own_K5_ok (own_f10_1 x us y) _ ?_
  refine own_daload Hf10_1 hx hZ 3 1 rfl (by decide) rfl (g := (mkF m 6 #[.val (.ref x), .val (.double us), .second, .val (.int (1 : Int32))] [(.int (1 : Int32)), (.ref y), (.double us)])) rfl rfl (hb hby d5_6) _ ?_
  refine own_go Hf10_1 hx hZ hown hby hw own_K5_ok (own_f10_2 x us d1 v10 hv10 nn10 v11 hv11 hb12) _ ?_
  exact q
theorem own_f11_0 (x : Addr) (us : UInt64) :
    own_Go own_K5 prog_12_method_7_code 0 #[.val (.ref x), .val (.double us), .second, .val (.int (1 : Int32))] [] 2 #[.val (.ref x), .val (.double us), .second, .val (.int (1 : Int32))] [(.ref x), (.double us)] := by
  refine own_dloadN (pc2 := 1) d5_0 rfl rfl ?_
  refine own_aloadN (pc2 := 2) d5_1 rfl rfl rfl ?_
  exact own_refl
theorem own_f11_1 (x : Addr) (us : UInt64) (y : Addr) :
    own_Go own_K5 prog_12_method_7_code 5 #[.val (.ref x), .val (.double us), .second, .val (.int (1 : Int32))] [(.ref y), (.double us)] 6 #[.val (.ref x), .val (.double us), .second, .val (.int (1 : Int32))] [(.int (1 : Int32)), (.ref y), (.double us)] := by
  refine own_iloadN (pc2 := 6) d5_5 rfl rfl ?_
  exact own_refl
theorem own_f11_2 (x : Addr) (us : UInt64) (d1 : UInt64) (v10 : UInt64) (hv10 : (FP.dadd d1 (4472406533629990549 : UInt64)) = v10) (nn10 : NoNaN64 (FP.dadd d1 (4472406533629990549 : UInt64))) (v11 : Int32) (hv11 : (cmpValue (FP.dcmp us v10) .g) = v11) (hb12 : ifCond.holds .gt v11 = true) :
    own_Go own_K5 prog_12_method_7_code 7 #[.val (.ref x), .val (.double us), .second, .val (.int (1 : Int32))] [(.double d1), (.double us)] 20 #[.val (.ref x), .val (.double us), .second, .val (.int (1 : Int32))] [(.int (0 : Int32))] := by
  refine own_ldc2D (v := (4472406533629990549 : UInt64)) (pc2 := 10) d5_7 rfl (List.mem_of_getElem? (i := 0) rfl) ?_
  refine own_dadd (pc2 := 11) d5_10 rfl nn10 (v := v10) hv10 ?_
  refine own_dcmp (pc2 := 12) d5_11 rfl (v := v11) hv11 ?_
  refine own_ifYes (pc' := 19) d5_12 hb12 (by decide) (by decide) ?_
  refine own_iconst (v := 0) (pc2 := 20) d5_19 rfl rfl ?_
  exact own_refl
set_option maxRecDepth 65536 in
set_option maxHeartbeats 4000000 in
theorem own_fits11 (l : Launch) (Z : State) (a0 : Array Value) (hb0 : own_Base) (hw : ∀ d ∈ tables_1, d.before a0 Z = true) (x : Addr) (us : UInt64) (ai li st y : Addr) (qa ql : own_Cel) (pr d0 d1 d2 : UInt64) (nn10 : NoNaN64 (FP.dadd d1 (4472406533629990549 : UInt64))) (hC : ifCond.holds .gt (cmpValue (FP.dcmp us (FP.dadd d1 (4472406533629990549 : UInt64))) .g) = true) :
    own_Met l Z a0 hb0 (⟨"com/example/placewright/placewright/model/MachineType", "fits", "(DI)Z"⟩ : MethodName) prog_12_method_7_code 4 (some .boolean) [] ({ frames := 0, cells := 0, slots := 0, locals := 0 } : Room) #[(.ref x), (.double us), (.int (1 : Int32))] [(ai, qa), (li, ql), (x, own_O "com/example/placewright/placewright/model/MachineType" [("com/example/placewright/placewright/model/MachineType", "name", "Ljava/lang/String;", .ref st), ("com/example/placewright/placewright/model/MachineType", "capacity", "[D", .ref y), ("com/example/placewright/placewright/model/MachineType", "pricePerHour", "D", .double pr)]), (y, own_A .double [.double d0, .double d1, .double d2])] (fun r cs' => r = some (.int 0) ∧ cs' = [(ai, qa), (li, ql), (x, own_O "com/example/placewright/placewright/model/MachineType" [("com/example/placewright/placewright/model/MachineType", "name", "Ljava/lang/String;", .ref st), ("com/example/placewright/placewright/model/MachineType", "capacity", "[D", .ref y), ("com/example/placewright/placewright/model/MachineType", "pricePerHour", "D", .double pr)]), (y, own_A .double [.double d0, .double d1, .double d2])]) := by
  refine own_met_of (L0 := #[.val (.ref x), .val (.double us), .second, .val (.int (1 : Int32))]) (plainFor_of_name own_pn5) (fun m => own_ef5 m x us (1 : Int32)) ?_
  intro p e s m below meth c T0 hx hZ hown hby hml hnm H0
  obtain ⟨Tf11_1, Hf11_1, stf11_1⟩ := own_getF H0 hx hZ hown (hw _ (List.mem_of_getElem? (i := 34) rfl)) 2 1 rfl rfl (g := (mkF m 2 #[.val (.ref x), .val (.double us), .second, .val (.int (1 : Int32))] [(.ref x), (.double us)])) rfl rfl (hb hby d5_2)
  change own_S _ _ _ _ _ _ _ _ _ _ _ _ _ _ [(ai, qa), (li, ql), (x, own_O "com/example/placewright/placewright/model/MachineType" [("com/example/placewright/placewright/model/MachineType", "name", "Ljava/lang/String;", .ref st), ("com/example/placewright/placewright/model/MachineType", "capacity", "[D", .ref y), ("com/example/placewright/placewright/model/MachineType", "pricePerHour", "D", .double pr)]), (y, own_A .double [.double d0, .double d1, .double d2])] _ _ at Hf11_1
  obtain ⟨v10, hv10⟩ : ∃ z : UInt64, (FP.dadd d1 (4472406533629990549 : UInt64)) = z := ⟨_, rfl⟩
  obtain ⟨v11, hv11⟩ : ∃ z : Int32, (cmpValue (FP.dcmp us v10) .g) = z := ⟨_, rfl⟩
  have hb12 : ifCond.holds .gt v11 = true := by rw [← hv11, ← hv10]; exact hC
  refine ⟨_, _, _, _, 20, #[.val (.ref x), .val (.double us), .second, .val (.int (1 : Int32))], Hf11_1, by decide, by decide, Or.inr ⟨.boolean, (.int (0 : Int32)), [], .ireturn, rfl, ⟨rfl, rfl⟩, d5_20, own_retZ (Or.inl rfl), fun target q => ?_⟩⟩
  refine own_go H0 hx hZ hown hby hw own_K5_ok (own_f11_0 x us) _ ?_
  refine stf11_1 _ ?_
  refine own_go Hf11_1 hx hZ hown hby hw own_K5_ok (own_f11_1 x us y) _ ?_
  refine own_daload Hf11_1 hx hZ 3 1 rfl (by decide) rfl (g := (mkF m 6 #[.val (.ref x), .val (.double us), .second, .val (.int (1 : Int32))] [(.int (1 : Int32)), (.ref y), (.double us)])) rfl rfl (hb hby d5_6) _ ?_
  refine own_go Hf11_1 hx hZ hown hby hw own_K5_ok (own_f11_2 x us d1 v10 hv10 nn10 v11 hv11 hb12) _ ?_
  exact q
theorem own_f20_0 (x : Addr) (us : UInt64) :
    own_Go own_K5 prog_12_method_7_code 0 #[.val (.ref x), .val (.double us), .second, .val (.int (2 : Int32))] [] 2 #[.val (.ref x), .val (.double us), .second, .val (.int (2 : Int32))] [(.ref x), (.double us)] := by
  refine own_dloadN (pc2 := 1) d5_0 rfl rfl ?_
  refine own_aloadN (pc2 := 2) d5_1 rfl rfl rfl ?_
  exact own_refl
theorem own_f20_1 (x : Addr) (us : UInt64) (y : Addr) :
    own_Go own_K5 prog_12_method_7_code 5 #[.val (.ref x), .val (.double us), .second, .val (.int (2 : Int32))] [(.ref y), (.double us)] 6 #[.val (.ref x), .val (.double us), .second, .val (.int (2 : Int32))] [(.int (2 : Int32)), (.ref y), (.double us)] := by
  refine own_iloadN (pc2 := 6) d5_5 rfl rfl ?_
  exact own_refl
theorem own_f20_2 (x : Addr) (us : UInt64) (d2 : UInt64) (v10 : UInt64) (hv10 : (FP.dadd d2 (4472406533629990549 : UInt64)) = v10) (nn10 : NoNaN64 (FP.dadd d2 (4472406533629990549 : UInt64))) (v11 : Int32) (hv11 : (cmpValue (FP.dcmp us v10) .g) = v11) (hb12 : ifCond.holds .gt v11 = false) :
    own_Go own_K5 prog_12_method_7_code 7 #[.val (.ref x), .val (.double us), .second, .val (.int (2 : Int32))] [(.double d2), (.double us)] 20 #[.val (.ref x), .val (.double us), .second, .val (.int (2 : Int32))] [(.int (1 : Int32))] := by
  refine own_ldc2D (v := (4472406533629990549 : UInt64)) (pc2 := 10) d5_7 rfl (List.mem_of_getElem? (i := 0) rfl) ?_
  refine own_dadd (pc2 := 11) d5_10 rfl nn10 (v := v10) hv10 ?_
  refine own_dcmp (pc2 := 12) d5_11 rfl (v := v11) hv11 ?_
  refine own_ifNo (pc2 := 15) d5_12 rfl hb12 ?_
  refine own_iconst (v := 1) (pc2 := 16) d5_15 rfl rfl ?_
  refine own_goto (pc' := 20) d5_16 (by decide) (by decide) ?_
  exact own_refl
set_option maxRecDepth 65536 in
set_option maxHeartbeats 4000000 in
theorem own_fits20 (l : Launch) (Z : State) (a0 : Array Value) (hb0 : own_Base) (hw : ∀ d ∈ tables_1, d.before a0 Z = true) (x : Addr) (us : UInt64) (ai li st y : Addr) (qa ql : own_Cel) (pr d0 d1 d2 : UInt64) (nn10 : NoNaN64 (FP.dadd d2 (4472406533629990549 : UInt64))) (hC : ifCond.holds .gt (cmpValue (FP.dcmp us (FP.dadd d2 (4472406533629990549 : UInt64))) .g) = false) :
    own_Met l Z a0 hb0 (⟨"com/example/placewright/placewright/model/MachineType", "fits", "(DI)Z"⟩ : MethodName) prog_12_method_7_code 4 (some .boolean) [] ({ frames := 0, cells := 0, slots := 0, locals := 0 } : Room) #[(.ref x), (.double us), (.int (2 : Int32))] [(ai, qa), (li, ql), (x, own_O "com/example/placewright/placewright/model/MachineType" [("com/example/placewright/placewright/model/MachineType", "name", "Ljava/lang/String;", .ref st), ("com/example/placewright/placewright/model/MachineType", "capacity", "[D", .ref y), ("com/example/placewright/placewright/model/MachineType", "pricePerHour", "D", .double pr)]), (y, own_A .double [.double d0, .double d1, .double d2])] (fun r cs' => r = some (.int 1) ∧ cs' = [(ai, qa), (li, ql), (x, own_O "com/example/placewright/placewright/model/MachineType" [("com/example/placewright/placewright/model/MachineType", "name", "Ljava/lang/String;", .ref st), ("com/example/placewright/placewright/model/MachineType", "capacity", "[D", .ref y), ("com/example/placewright/placewright/model/MachineType", "pricePerHour", "D", .double pr)]), (y, own_A .double [.double d0, .double d1, .double d2])]) := by
  refine own_met_of (L0 := #[.val (.ref x), .val (.double us), .second, .val (.int (2 : Int32))]) (plainFor_of_name own_pn5) (fun m => own_ef5 m x us (2 : Int32)) ?_
  intro p e s m below meth c T0 hx hZ hown hby hml hnm H0
  obtain ⟨Tf20_1, Hf20_1, stf20_1⟩ := own_getF H0 hx hZ hown (hw _ (List.mem_of_getElem? (i := 34) rfl)) 2 1 rfl rfl (g := (mkF m 2 #[.val (.ref x), .val (.double us), .second, .val (.int (2 : Int32))] [(.ref x), (.double us)])) rfl rfl (hb hby d5_2)
  change own_S _ _ _ _ _ _ _ _ _ _ _ _ _ _ [(ai, qa), (li, ql), (x, own_O "com/example/placewright/placewright/model/MachineType" [("com/example/placewright/placewright/model/MachineType", "name", "Ljava/lang/String;", .ref st), ("com/example/placewright/placewright/model/MachineType", "capacity", "[D", .ref y), ("com/example/placewright/placewright/model/MachineType", "pricePerHour", "D", .double pr)]), (y, own_A .double [.double d0, .double d1, .double d2])] _ _ at Hf20_1
  obtain ⟨v10, hv10⟩ : ∃ z : UInt64, (FP.dadd d2 (4472406533629990549 : UInt64)) = z := ⟨_, rfl⟩
  obtain ⟨v11, hv11⟩ : ∃ z : Int32, (cmpValue (FP.dcmp us v10) .g) = z := ⟨_, rfl⟩
  have hb12 : ifCond.holds .gt v11 = false := by rw [← hv11, ← hv10]; exact hC
  refine ⟨_, _, _, _, 20, #[.val (.ref x), .val (.double us), .second, .val (.int (2 : Int32))], Hf20_1, by decide, by decide, Or.inr ⟨.boolean, (.int (1 : Int32)), [], .ireturn, rfl, ⟨rfl, rfl⟩, d5_20, own_retZ (Or.inr rfl), fun target q => ?_⟩⟩
  refine own_go H0 hx hZ hown hby hw own_K5_ok (own_f20_0 x us) _ ?_
  refine stf20_1 _ ?_
  refine own_go Hf20_1 hx hZ hown hby hw own_K5_ok (own_f20_1 x us y) _ ?_
  refine own_daload Hf20_1 hx hZ 3 2 rfl (by decide) rfl (g := (mkF m 6 #[.val (.ref x), .val (.double us), .second, .val (.int (2 : Int32))] [(.int (2 : Int32)), (.ref y), (.double us)])) rfl rfl (hb hby d5_6) _ ?_
  refine own_go Hf20_1 hx hZ hown hby hw own_K5_ok (own_f20_2 x us d2 v10 hv10 nn10 v11 hv11 hb12) _ ?_
  exact q
theorem own_f21_0 (x : Addr) (us : UInt64) :
    own_Go own_K5 prog_12_method_7_code 0 #[.val (.ref x), .val (.double us), .second, .val (.int (2 : Int32))] [] 2 #[.val (.ref x), .val (.double us), .second, .val (.int (2 : Int32))] [(.ref x), (.double us)] := by
  refine own_dloadN (pc2 := 1) d5_0 rfl rfl ?_
  refine own_aloadN (pc2 := 2) d5_1 rfl rfl rfl ?_
  exact own_refl
theorem own_f21_1 (x : Addr) (us : UInt64) (y : Addr) :
    own_Go own_K5 prog_12_method_7_code 5 #[.val (.ref x), .val (.double us), .second, .val (.int (2 : Int32))] [(.ref y), (.double us)] 6 #[.val (.ref x), .val (.double us), .second, .val (.int (2 : Int32))] [(.int (2 : Int32)), (.ref y), (.double us)] := by
  refine own_iloadN (pc2 := 6) d5_5 rfl rfl ?_
  exact own_refl
theorem own_f21_2 (x : Addr) (us : UInt64) (d2 : UInt64) (v10 : UInt64) (hv10 : (FP.dadd d2 (4472406533629990549 : UInt64)) = v10) (nn10 : NoNaN64 (FP.dadd d2 (4472406533629990549 : UInt64))) (v11 : Int32) (hv11 : (cmpValue (FP.dcmp us v10) .g) = v11) (hb12 : ifCond.holds .gt v11 = true) :
    own_Go own_K5 prog_12_method_7_code 7 #[.val (.ref x), .val (.double us), .second, .val (.int (2 : Int32))] [(.double d2), (.double us)] 20 #[.val (.ref x), .val (.double us), .second, .val (.int (2 : Int32))] [(.int (0 : Int32))] := by
  refine own_ldc2D (v := (4472406533629990549 : UInt64)) (pc2 := 10) d5_7 rfl (List.mem_of_getElem? (i := 0) rfl) ?_
  refine own_dadd (pc2 := 11) d5_10 rfl nn10 (v := v10) hv10 ?_
  refine own_dcmp (pc2 := 12) d5_11 rfl (v := v11) hv11 ?_
  refine own_ifYes (pc' := 19) d5_12 hb12 (by decide) (by decide) ?_
  refine own_iconst (v := 0) (pc2 := 20) d5_19 rfl rfl ?_
  exact own_refl
set_option maxRecDepth 65536 in
set_option maxHeartbeats 4000000 in
theorem own_fits21 (l : Launch) (Z : State) (a0 : Array Value) (hb0 : own_Base) (hw : ∀ d ∈ tables_1, d.before a0 Z = true) (x : Addr) (us : UInt64) (ai li st y : Addr) (qa ql : own_Cel) (pr d0 d1 d2 : UInt64) (nn10 : NoNaN64 (FP.dadd d2 (4472406533629990549 : UInt64))) (hC : ifCond.holds .gt (cmpValue (FP.dcmp us (FP.dadd d2 (4472406533629990549 : UInt64))) .g) = true) :
    own_Met l Z a0 hb0 (⟨"com/example/placewright/placewright/model/MachineType", "fits", "(DI)Z"⟩ : MethodName) prog_12_method_7_code 4 (some .boolean) [] ({ frames := 0, cells := 0, slots := 0, locals := 0 } : Room) #[(.ref x), (.double us), (.int (2 : Int32))] [(ai, qa), (li, ql), (x, own_O "com/example/placewright/placewright/model/MachineType" [("com/example/placewright/placewright/model/MachineType", "name", "Ljava/lang/String;", .ref st), ("com/example/placewright/placewright/model/MachineType", "capacity", "[D", .ref y), ("com/example/placewright/placewright/model/MachineType", "pricePerHour", "D", .double pr)]), (y, own_A .double [.double d0, .double d1, .double d2])] (fun r cs' => r = some (.int 0) ∧ cs' = [(ai, qa), (li, ql), (x, own_O "com/example/placewright/placewright/model/MachineType" [("com/example/placewright/placewright/model/MachineType", "name", "Ljava/lang/String;", .ref st), ("com/example/placewright/placewright/model/MachineType", "capacity", "[D", .ref y), ("com/example/placewright/placewright/model/MachineType", "pricePerHour", "D", .double pr)]), (y, own_A .double [.double d0, .double d1, .double d2])]) := by
  refine own_met_of (L0 := #[.val (.ref x), .val (.double us), .second, .val (.int (2 : Int32))]) (plainFor_of_name own_pn5) (fun m => own_ef5 m x us (2 : Int32)) ?_
  intro p e s m below meth c T0 hx hZ hown hby hml hnm H0
  obtain ⟨Tf21_1, Hf21_1, stf21_1⟩ := own_getF H0 hx hZ hown (hw _ (List.mem_of_getElem? (i := 34) rfl)) 2 1 rfl rfl (g := (mkF m 2 #[.val (.ref x), .val (.double us), .second, .val (.int (2 : Int32))] [(.ref x), (.double us)])) rfl rfl (hb hby d5_2)
  change own_S _ _ _ _ _ _ _ _ _ _ _ _ _ _ [(ai, qa), (li, ql), (x, own_O "com/example/placewright/placewright/model/MachineType" [("com/example/placewright/placewright/model/MachineType", "name", "Ljava/lang/String;", .ref st), ("com/example/placewright/placewright/model/MachineType", "capacity", "[D", .ref y), ("com/example/placewright/placewright/model/MachineType", "pricePerHour", "D", .double pr)]), (y, own_A .double [.double d0, .double d1, .double d2])] _ _ at Hf21_1
  obtain ⟨v10, hv10⟩ : ∃ z : UInt64, (FP.dadd d2 (4472406533629990549 : UInt64)) = z := ⟨_, rfl⟩
  obtain ⟨v11, hv11⟩ : ∃ z : Int32, (cmpValue (FP.dcmp us v10) .g) = z := ⟨_, rfl⟩
  have hb12 : ifCond.holds .gt v11 = true := by rw [← hv11, ← hv10]; exact hC
  refine ⟨_, _, _, _, 20, #[.val (.ref x), .val (.double us), .second, .val (.int (2 : Int32))], Hf21_1, by decide, by decide, Or.inr ⟨.boolean, (.int (0 : Int32)), [], .ireturn, rfl, ⟨rfl, rfl⟩, d5_20, own_retZ (Or.inl rfl), fun target q => ?_⟩⟩
  refine own_go H0 hx hZ hown hby hw own_K5_ok (own_f21_0 x us) _ ?_
  refine stf21_1 _ ?_
  refine own_go Hf21_1 hx hZ hown hby hw own_K5_ok (own_f21_1 x us y) _ ?_
  refine own_daload Hf21_1 hx hZ 3 2 rfl (by decide) rfl (g := (mkF m 6 #[.val (.ref x), .val (.double us), .second, .val (.int (2 : Int32))] [(.int (2 : Int32)), (.ref y), (.double us)])) rfl rfl (hb hby d5_6) _ ?_
  refine own_go Hf21_1 hx hZ hown hby hw own_K5_ok (own_f21_2 x us d2 v10 hv10 nn10 v11 hv11 hb12) _ ?_
  exact q
theorem own_h0_0 (x : Addr) (li : Addr) :
    own_Go own_K4 prog_12_method_5_code 0 #[.val (.ref x), .val (.ref li), .unset] [] 4 #[.val (.ref x), .val (.ref li), .val (.int (0 : Int32))] [(.ref x), (.int (0 : Int32))] := by
  refine own_iconst (v := 0) (pc2 := 1) d4_0 rfl rfl ?_
  refine own_istoreN (pc2 := 2) d4_1 rfl (L' := #[.val (.ref x), .val (.ref li), .val (.int (0 : Int32))]) rfl ?_
  refine own_iloadN (pc2 := 3) d4_2 rfl rfl ?_
  refine own_aloadN (pc2 := 4) d4_3 rfl rfl rfl ?_
  exact own_refl
theorem own_h0_1 (x : Addr) (li : Addr) :
    own_Go own_K4 prog_12_method_5_code 8 #[.val (.ref x), .val (.ref li), .val (.int (0 : Int32))] [(.int (3 : Int32)), (.int (0 : Int32))] 14 #[.val (.ref x), .val (.ref li), .val (.int (0 : Int32))] [(.int (0 : Int32)), (.ref li), (.ref x)] := by
  refine own_icmpNo (pc2 := 11) d4_8 rfl (by decide) ?_
  refine own_aloadN (pc2 := 12) d4_11 rfl rfl rfl ?_
  refine own_aloadN (pc2 := 13) d4_12 rfl rfl rfl ?_
  refine own_iloadN (pc2 := 14) d4_13 rfl rfl ?_
  exact own_refl
theorem own_h0_2 (x : Addr) (li : Addr) (e0 : UInt64) :
    own_Go own_K4 prog_12_method_5_code 15 #[.val (.ref x), .val (.ref li), .val (.int (0 : Int32))] [(.double e0), (.ref x)] 16 #[.val (.ref x), .val (.ref li), .val (.int (0 : Int32))] [(.int (0 : Int32)), (.double e0), (.ref x)] := by
  refine own_iloadN (pc2 := 16) d4_15 rfl rfl ?_
  exact own_refl
theorem own_h0_3 (x : Addr) (li : Addr) :
    own_Go own_K4 prog_12_method_5_code 19 #[.val (.ref x), .val (.ref li), .val (.int (0 : Int32))] [(.int (0 : Int32))] 23 #[.val (.ref x), .val (.ref li), .val (.int (0 : Int32))] [(.int (0 : Int32))] := by
  refine own_ifNo (pc2 := 22) d4_19 rfl (by decide) ?_
  refine own_iconst (v := 0) (pc2 := 23) d4_22 rfl rfl ?_
  exact own_refl
set_option maxRecDepth 65536 in
set_option maxHeartbeats 4000000 in
theorem own_holds0 (l : Launch) (Z : State) (a0 : Array Value) (hb0 : own_Base) (hw : ∀ d ∈ tables_1, d.before a0 Z = true) (x : Addr) (li : Addr) (ai st y : Addr) (qa : own_Cel) (pr d0 d1 d2 e0 e1 e2 : UInt64) (n0 : NoNaN64 (FP.dadd d0 (4472406533629990549 : UInt64))) (h0 : ifCond.holds .gt (cmpValue (FP.dcmp e0 (FP.dadd d0 (4472406533629990549 : UInt64))) .g) = true) :
    own_Met l Z a0 hb0 (⟨"com/example/placewright/placewright/model/MachineType", "holds", "([D)Z"⟩ : MethodName) prog_12_method_5_code 3 (some .boolean) [] ({ frames := 1, cells := 0, slots := 0, locals := 30 } : Room) #[(.ref x), (.ref li)] [(ai, qa), (li, own_A .double [.double e0, .double e1, .double e2]), (x, own_O "com/example/placewright/placewright/model/MachineType" [("com/example/placewright/placewright/model/MachineType", "name", "Ljava/lang/String;", .ref st), ("com/example/placewright/placewright/model/MachineType", "capacity", "[D", .ref y), ("com/example/placewright/placewright/model/MachineType", "pricePerHour", "D", .double pr)]), (y, own_A .double [.double d0, .double d1, .double d2])] (fun r cs' => r = some (.int 0) ∧ cs' = [(ai, qa), (li, own_A .double [.double e0, .double e1, .double e2]), (x, own_O "com/example/placewright/placewright/model/MachineType" [("com/example/placewright/placewright/model/MachineType", "name", "Ljava/lang/String;", .ref st), ("com/example/placewright/placewright/model/MachineType", "capacity", "[D", .ref y), ("com/example/placewright/placewright/model/MachineType", "pricePerHour", "D", .double pr)]), (y, own_A .double [.double d0, .double d1, .double d2])]) := by
  refine own_met_of (L0 := #[.val (.ref x), .val (.ref li), .unset]) (plainFor_of_name own_pn4) (fun m => own_ef4 m x li) ?_
  intro p e s m below meth c T0 hx hZ hown hby hml hnm H0
  obtain ⟨Th0_1, Hh0_1, sth0_1⟩ := own_getF H0 hx hZ hown (hw _ (List.mem_of_getElem? (i := 34) rfl)) 2 1 rfl rfl (g := (mkF m 4 #[.val (.ref x), .val (.ref li), .val (.int (0 : Int32))] [(.ref x), (.int (0 : Int32))])) rfl rfl (hb hby d4_4)
  change own_S _ _ _ _ _ _ _ _ _ _ _ _ _ _ [(ai, qa), (li, own_A .double [.double e0, .double e1, .double e2]), (x, own_O "com/example/placewright/placewright/model/MachineType" [("com/example/placewright/placewright/model/MachineType", "name", "Ljava/lang/String;", .ref st), ("com/example/placewright/placewright/model/MachineType", "capacity", "[D", .ref y), ("com/example/placewright/placewright/model/MachineType", "pricePerHour", "D", .double pr)]), (y, own_A .double [.double d0, .double d1, .double d2])] _ _ at Hh0_1
  obtain ⟨Th0_4, vh0_4_, csh0_4_, qh0_4, Hh0_4, sth0_4⟩ := own_callV Hh0_1 hx hZ hown (hw _ (List.mem_of_getElem? (i := 43) rfl)) (hw _ (List.mem_of_getElem? (i := 44) rfl)) (hw _ (List.mem_of_getElem? (i := 46) rfl)) (hw _ (List.mem_of_getElem? (i := 45) rfl)) (hw _ (List.mem_of_getElem? (i := 8) rfl)) (hw _ (List.mem_of_getElem? (i := 47) rfl)) (by decide) (x := x) 2 rfl (argsL := [(.double e0), (.int (0 : Int32))]) (rest := []) (W := 0) (own_fits01 l Z a0 hb0 hw x e0 ai li st y _ _ pr d0 d1 d2 n0 h0) (by decide) (by decide) (by decide) (by decide) (g := (mkF m 16 #[.val (.ref x), .val (.ref li), .val (.int (0 : Int32))] [(.int (0 : Int32)), (.double e0), (.ref x)])) rfl (by rw [hml]; rfl) (lenOf own_pd1 rfl) rfl (by show 2 * 0 + _ ≤ _; exact Nat.le_of_eq rfl) (hb hby d4_16)
  obtain ⟨rfl, rfl⟩ := qh0_4
  change own_S _ _ _ _ _ _ _ _ _ _ _ _ _ _ [(ai, qa), (li, own_A .double [.double e0, .double e1, .double e2]), (x, own_O "com/example/placewright/placewright/model/MachineType" [("com/example/placewright/placewright/model/MachineType", "name", "Ljava/lang/String;", .ref st), ("com/example/placewright/placewright/model/MachineType", "capacity", "[D", .ref y), ("com/example/placewright/placewright/model/MachineType", "pricePerHour", "D", .double pr)]), (y, own_A .double [.double d0, .double d1, .double d2])] _ _ at Hh0_4
  refine ⟨_, _, _, _, 23, #[.val (.ref x), .val (.ref li), .val (.int (0 : Int32))], Hh0_4, by decide, by decide, Or.inr ⟨.boolean, (.int (0 : Int32)), [], .ireturn, rfl, ⟨rfl, rfl⟩, d4_23, own_retZ (Or.inl rfl), fun target q => ?_⟩⟩
  refine own_go H0 hx hZ hown hby hw own_K4_ok (own_h0_0 x li) _ ?_
  refine sth0_1 _ ?_
  refine own_arrlen Hh0_1 hx hZ 3 rfl (z := (3 : Int32)) rfl (g := (mkF m 7 #[.val (.ref x), .val (.ref li), .val (.int (0 : Int32))] [(.ref y), (.int (0 : Int32))])) rfl rfl (hb hby d4_7) _ ?_
  refine own_go Hh0_1 hx hZ hown hby hw own_K4_ok (own_h0_1 x li) _ ?_
  refine own_daload Hh0_1 hx hZ 1 0 rfl (by decide) rfl (g := (mkF m 14 #[.val (.ref x), .val (.ref li), .val (.int (0 : Int32))] [(.int (0 : Int32)), (.ref li), (.ref x)])) rfl rfl (hb hby d4_14) _ ?_
  refine own_go Hh0_1 hx hZ hown hby hw own_K4_ok (own_h0_2 x li e0) _ ?_
  refine sth0_4 _ ?_
  refine own_go Hh0_4 hx hZ hown hby hw own_K4_ok (own_h0_3 x li) _ ?_
  exact q
theorem own_h1_0 (x : Addr) (li : Addr) :
    own_Go own_K4 prog_12_method_5_code 0 #[.val (.ref x), .val (.ref li), .unset] [] 4 #[.val (.ref x), .val (.ref li), .val (.int (0 : Int32))] [(.ref x), (.int (0 : Int32))] := by
  refine own_iconst (v := 0) (pc2 := 1) d4_0 rfl rfl ?_
  refine own_istoreN (pc2 := 2) d4_1 rfl (L' := #[.val (.ref x), .val (.ref li), .val (.int (0 : Int32))]) rfl ?_
  refine own_iloadN (pc2 := 3) d4_2 rfl rfl ?_
  refine own_aloadN (pc2 := 4) d4_3 rfl rfl rfl ?_
  exact own_refl
theorem own_h1_1 (x : Addr) (li : Addr) :
    own_Go own_K4 prog_12_method_5_code 8 #[.val (.ref x), .val (.ref li), .val (.int (0 : Int32))] [(.int (3 : Int32)), (.int (0 : Int32))] 14 #[.val (.ref x), .val (.ref li), .val (.int (0 : Int32))] [(.int (0 : Int32)), (.ref li), (.ref x)] := by
  refine own_icmpNo (pc2 := 11) d4_8 rfl (by decide) ?_
  refine own_aloadN (pc2 := 12) d4_11 rfl rfl rfl ?_
  refine own_aloadN (pc2 := 13) d4_12 rfl rfl rfl ?_
  refine own_iloadN (pc2 := 14) d4_13 rfl rfl ?_
  exact own_refl
theorem own_h1_2 (x : Addr) (li : Addr) (e0 : UInt64) :
    own_Go own_K4 prog_12_method_5_code 15 #[.val (.ref x), .val (.ref li), .val (.int (0 : Int32))] [(.double e0), (.ref x)] 16 #[.val (.ref x), .val (.ref li), .val (.int (0 : Int32))] [(.int (0 : Int32)), (.double e0), (.ref x)] := by
  refine own_iloadN (pc2 := 16) d4_15 rfl rfl ?_
  exact own_refl
theorem own_h1_3 (x : Addr) (li : Addr) :
    own_Go own_K4 prog_12_method_5_code 19 #[.val (.ref x), .val (.ref li), .val (.int (0 : Int32))] [(.int (1 : Int32))] 4 #[.val (.ref x), .val (.ref li), .val (.int (1 : Int32))] [(.ref x), (.int (1 : Int32))] := by
  refine own_ifYes (pc' := 24) d4_19 (by decide) (by decide) (by decide) ?_
  refine own_iinc (pc2 := 27) d4_24 rfl rfl (v := (1 : Int32)) (by decide) (L' := #[.val (.ref x), .val (.ref li), .val (.int (1 : Int32))]) rfl ?_
  refine own_goto (pc' := 2) d4_27 (by decide) (by decide) ?_
  refine own_iloadN (pc2 := 3) d4_2 rfl rfl ?_
  refine own_aloadN (pc2 := 4) d4_3 rfl rfl rfl ?_
  exact own_refl
theorem own_h1_4 (x : Addr) (li : Addr) :
    own_Go own_K4 prog_12_method_5_code 8 #[.val (.ref x), .val (.ref li), .val (.int (1 : Int32))] [(.int (3 : Int32)), (.int (1 : Int32))] 14 #[.val (.ref x), .val (.ref li), .val (.int (1 : Int32))] [(.int (1 : Int32)), (.ref li), (.ref x)] := by
  refine own_icmpNo (pc2 := 11) d4_8 rfl (by decide) ?_
  refine own_aloadN (pc2 := 12) d4_11 rfl rfl rfl ?_
  refine own_aloadN (pc2 := 13) d4_12 rfl rfl rfl ?_
  refine own_iloadN (pc2 := 14) d4_13 rfl rfl ?_
  exact own_refl
theorem own_h1_5 (x : Addr) (li : Addr) (e1 : UInt64) :
    own_Go own_K4 prog_12_method_5_code 15 #[.val (.ref x), .val (.ref li), .val (.int (1 : Int32))] [(.double e1), (.ref x)] 16 #[.val (.ref x), .val (.ref li), .val (.int (1 : Int32))] [(.int (1 : Int32)), (.double e1), (.ref x)] := by
  refine own_iloadN (pc2 := 16) d4_15 rfl rfl ?_
  exact own_refl
theorem own_h1_6 (x : Addr) (li : Addr) :
    own_Go own_K4 prog_12_method_5_code 19 #[.val (.ref x), .val (.ref li), .val (.int (1 : Int32))] [(.int (0 : Int32))] 23 #[.val (.ref x), .val (.ref li), .val (.int (1 : Int32))] [(.int (0 : Int32))] := by
  refine own_ifNo (pc2 := 22) d4_19 rfl (by decide) ?_
  refine own_iconst (v := 0) (pc2 := 23) d4_22 rfl rfl ?_
  exact own_refl
set_option maxRecDepth 65536 in
set_option maxHeartbeats 4000000 in
theorem own_holds1 (l : Launch) (Z : State) (a0 : Array Value) (hb0 : own_Base) (hw : ∀ d ∈ tables_1, d.before a0 Z = true) (x : Addr) (li : Addr) (ai st y : Addr) (qa : own_Cel) (pr d0 d1 d2 e0 e1 e2 : UInt64) (n0 : NoNaN64 (FP.dadd d0 (4472406533629990549 : UInt64))) (h0 : ifCond.holds .gt (cmpValue (FP.dcmp e0 (FP.dadd d0 (4472406533629990549 : UInt64))) .g) = false) (n1 : NoNaN64 (FP.dadd d1 (4472406533629990549 : UInt64))) (h1 : ifCond.holds .gt (cmpValue (FP.dcmp e1 (FP.dadd d1 (4472406533629990549 : UInt64))) .g) = true) :
    own_Met l Z a0 hb0 (⟨"com/example/placewright/placewright/model/MachineType", "holds", "([D)Z"⟩ : MethodName) prog_12_method_5_code 3 (some .boolean) [] ({ frames := 1, cells := 0, slots := 0, locals := 30 } : Room) #[(.ref x), (.ref li)] [(ai, qa), (li, own_A .double [.double e0, .double e1, .double e2]), (x, own_O "com/example/placewright/placewright/model/MachineType" [("com/example/placewright/placewright/model/MachineType", "name", "Ljava/lang/String;", .ref st), ("com/example/placewright/placewright/model/MachineType", "capacity", "[D", .ref y), ("com/example/placewright/placewright/model/MachineType", "pricePerHour", "D", .double pr)]), (y, own_A .double [.double d0, .double d1, .double d2])] (fun r cs' => r = some (.int 0) ∧ cs' = [(ai, qa), (li, own_A .double [.double e0, .double e1, .double e2]), (x, own_O "com/example/placewright/placewright/model/MachineType" [("com/example/placewright/placewright/model/MachineType", "name", "Ljava/lang/String;", .ref st), ("com/example/placewright/placewright/model/MachineType", "capacity", "[D", .ref y), ("com/example/placewright/placewright/model/MachineType", "pricePerHour", "D", .double pr)]), (y, own_A .double [.double d0, .double d1, .double d2])]) := by
  refine own_met_of (L0 := #[.val (.ref x), .val (.ref li), .unset]) (plainFor_of_name own_pn4) (fun m => own_ef4 m x li) ?_
  intro p e s m below meth c T0 hx hZ hown hby hml hnm H0
  obtain ⟨Th1_1, Hh1_1, sth1_1⟩ := own_getF H0 hx hZ hown (hw _ (List.mem_of_getElem? (i := 34) rfl)) 2 1 rfl rfl (g := (mkF m 4 #[.val (.ref x), .val (.ref li), .val (.int (0 : Int32))] [(.ref x), (.int (0 : Int32))])) rfl rfl (hb hby d4_4)
  change own_S _ _ _ _ _ _ _ _ _ _ _ _ _ _ [(ai, qa), (li, own_A .double [.double e0, .double e1, .double e2]), (x, own_O "com/example/placewright/placewright/model/MachineType" [("com/example/placewright/placewright/model/MachineType", "name", "Ljava/lang/String;", .ref st), ("com/example/placewright/placewright/model/MachineType", "capacity", "[D", .ref y), ("com/example/placewright/placewright/model/MachineType", "pricePerHour", "D", .double pr)]), (y, own_A .double [.double d0, .double d1, .double d2])] _ _ at Hh1_1
  obtain ⟨Th1_4, vh1_4_, csh1_4_, qh1_4, Hh1_4, sth1_4⟩ := own_callV Hh1_1 hx hZ hown (hw _ (List.mem_of_getElem? (i := 43) rfl)) (hw _ (List.mem_of_getElem? (i := 44) rfl)) (hw _ (List.mem_of_getElem? (i := 46) rfl)) (hw _ (List.mem_of_getElem? (i := 45) rfl)) (hw _ (List.mem_of_getElem? (i := 8) rfl)) (hw _ (List.mem_of_getElem? (i := 47) rfl)) (by decide) (x := x) 2 rfl (argsL := [(.double e0), (.int (0 : Int32))]) (rest := []) (W := 0) (own_fits00 l Z a0 hb0 hw x e0 ai li st y _ _ pr d0 d1 d2 n0 h0) (by decide) (by decide) (by decide) (by decide) (g := (mkF m 16 #[.val (.ref x), .val (.ref li), .val (.int (0 : Int32))] [(.int (0 : Int32)), (.double e0), (.ref x)])) rfl (by rw [hml]; rfl) (lenOf own_pd1 rfl) rfl (by show 2 * 0 + _ ≤ _; exact Nat.le_of_eq rfl) (hb hby d4_16)
  obtain ⟨rfl, rfl⟩ := qh1_4
  change own_S _ _ _ _ _ _ _ _ _ _ _ _ _ _ [(ai, qa), (li, own_A .double [.double e0, .double e1, .double e2]), (x, own_O "com/example/placewright/placewright/model/MachineType" [("com/example/placewright/placewright/model/MachineType", "name", "Ljava/lang/String;", .ref st), ("com/example/placewright/placewright/model/MachineType", "capacity", "[D", .ref y), ("com/example/placewright/placewright/model/MachineType", "pricePerHour", "D", .double pr)]), (y, own_A .double [.double d0, .double d1, .double d2])] _ _ at Hh1_4
  obtain ⟨Th1_5, Hh1_5, sth1_5⟩ := own_getF Hh1_4 hx hZ hown (hw _ (List.mem_of_getElem? (i := 34) rfl)) 2 1 rfl rfl (g := (mkF m 4 #[.val (.ref x), .val (.ref li), .val (.int (1 : Int32))] [(.ref x), (.int (1 : Int32))])) rfl rfl (hb hby d4_4)
  change own_S _ _ _ _ _ _ _ _ _ _ _ _ _ _ [(ai, qa), (li, own_A .double [.double e0, .double e1, .double e2]), (x, own_O "com/example/placewright/placewright/model/MachineType" [("com/example/placewright/placewright/model/MachineType", "name", "Ljava/lang/String;", .ref st), ("com/example/placewright/placewright/model/MachineType", "capacity", "[D", .ref y), ("com/example/placewright/placewright/model/MachineType", "pricePerHour", "D", .double pr)]), (y, own_A .double [.double d0, .double d1, .double d2])] _ _ at Hh1_5
  obtain ⟨Th1_8, vh1_8_, csh1_8_, qh1_8, Hh1_8, sth1_8⟩ := own_callV Hh1_5 hx hZ hown (hw _ (List.mem_of_getElem? (i := 43) rfl)) (hw _ (List.mem_of_getElem? (i := 44) rfl)) (hw _ (List.mem_of_getElem? (i := 46) rfl)) (hw _ (List.mem_of_getElem? (i := 45) rfl)) (hw _ (List.mem_of_getElem? (i := 8) rfl)) (hw _ (List.mem_of_getElem? (i := 47) rfl)) (by decide) (x := x) 2 rfl (argsL := [(.double e1), (.int (1 : Int32))]) (rest := []) (W := 0) (own_fits11 l Z a0 hb0 hw x e1 ai li st y _ _ pr d0 d1 d2 n1 h1) (by decide) (by decide) (by decide) (by decide) (g := (mkF m 16 #[.val (.ref x), .val (.ref li), .val (.int (1 : Int32))] [(.int (1 : Int32)), (.double e1), (.ref x)])) rfl (by rw [hml]; rfl) (lenOf own_pd1 rfl) rfl (by show 2 * 0 + _ ≤ _; exact Nat.le_of_eq rfl) (hb hby d4_16)
  obtain ⟨rfl, rfl⟩ := qh1_8
  change own_S _ _ _ _ _ _ _ _ _ _ _ _ _ _ [(ai, qa), (li, own_A .double [.double e0, .double e1, .double e2]), (x, own_O "com/example/placewright/placewright/model/MachineType" [("com/example/placewright/placewright/model/MachineType", "name", "Ljava/lang/String;", .ref st), ("com/example/placewright/placewright/model/MachineType", "capacity", "[D", .ref y), ("com/example/placewright/placewright/model/MachineType", "pricePerHour", "D", .double pr)]), (y, own_A .double [.double d0, .double d1, .double d2])] _ _ at Hh1_8
  refine ⟨_, _, _, _, 23, #[.val (.ref x), .val (.ref li), .val (.int (1 : Int32))], Hh1_8, by decide, by decide, Or.inr ⟨.boolean, (.int (0 : Int32)), [], .ireturn, rfl, ⟨rfl, rfl⟩, d4_23, own_retZ (Or.inl rfl), fun target q => ?_⟩⟩
  refine own_go H0 hx hZ hown hby hw own_K4_ok (own_h1_0 x li) _ ?_
  refine sth1_1 _ ?_
  refine own_arrlen Hh1_1 hx hZ 3 rfl (z := (3 : Int32)) rfl (g := (mkF m 7 #[.val (.ref x), .val (.ref li), .val (.int (0 : Int32))] [(.ref y), (.int (0 : Int32))])) rfl rfl (hb hby d4_7) _ ?_
  refine own_go Hh1_1 hx hZ hown hby hw own_K4_ok (own_h1_1 x li) _ ?_
  refine own_daload Hh1_1 hx hZ 1 0 rfl (by decide) rfl (g := (mkF m 14 #[.val (.ref x), .val (.ref li), .val (.int (0 : Int32))] [(.int (0 : Int32)), (.ref li), (.ref x)])) rfl rfl (hb hby d4_14) _ ?_
  refine own_go Hh1_1 hx hZ hown hby hw own_K4_ok (own_h1_2 x li e0) _ ?_
  refine sth1_4 _ ?_
  refine own_go Hh1_4 hx hZ hown hby hw own_K4_ok (own_h1_3 x li) _ ?_
  refine sth1_5 _ ?_
  refine own_arrlen Hh1_5 hx hZ 3 rfl (z := (3 : Int32)) rfl (g := (mkF m 7 #[.val (.ref x), .val (.ref li), .val (.int (1 : Int32))] [(.ref y), (.int (1 : Int32))])) rfl rfl (hb hby d4_7) _ ?_
  refine own_go Hh1_5 hx hZ hown hby hw own_K4_ok (own_h1_4 x li) _ ?_
  refine own_daload Hh1_5 hx hZ 1 1 rfl (by decide) rfl (g := (mkF m 14 #[.val (.ref x), .val (.ref li), .val (.int (1 : Int32))] [(.int (1 : Int32)), (.ref li), (.ref x)])) rfl rfl (hb hby d4_14) _ ?_
  refine own_go Hh1_5 hx hZ hown hby hw own_K4_ok (own_h1_5 x li e1) _ ?_
  refine sth1_8 _ ?_
  refine own_go Hh1_8 hx hZ hown hby hw own_K4_ok (own_h1_6 x li) _ ?_
  exact q
theorem own_h2_0 (x : Addr) (li : Addr) :
    own_Go own_K4 prog_12_method_5_code 0 #[.val (.ref x), .val (.ref li), .unset] [] 4 #[.val (.ref x), .val (.ref li), .val (.int (0 : Int32))] [(.ref x), (.int (0 : Int32))] := by
  refine own_iconst (v := 0) (pc2 := 1) d4_0 rfl rfl ?_
  refine own_istoreN (pc2 := 2) d4_1 rfl (L' := #[.val (.ref x), .val (.ref li), .val (.int (0 : Int32))]) rfl ?_
  refine own_iloadN (pc2 := 3) d4_2 rfl rfl ?_
  refine own_aloadN (pc2 := 4) d4_3 rfl rfl rfl ?_
  exact own_refl
theorem own_h2_1 (x : Addr) (li : Addr) :
    own_Go own_K4 prog_12_method_5_code 8 #[.val (.ref x), .val (.ref li), .val (.int (0 : Int32))] [(.int (3 : Int32)), (.int (0 : Int32))] 14 #[.val (.ref x), .val (.ref li), .val (.int (0 : Int32))] [(.int (0 : Int32)), (.ref li), (.ref x)] := by
  refine own_icmpNo (pc2 := 11) d4_8 rfl (by decide) ?_
  refine own_aloadN (pc2 := 12) d4_11 rfl rfl rfl ?_
  refine own_aloadN (pc2 := 13) d4_12 rfl rfl rfl ?_
  refine own_iloadN (pc2 := 14) d4_13 rfl rfl ?_
  exact own_refl
theorem own_h2_2 (x : Addr) (li : Addr) (e0 : UInt64) :
    own_Go own_K4 prog_12_method_5_code 15 #[.val (.ref x), .val (.ref li), .val (.int (0 : Int32))] [(.double e0), (.ref x)] 16 #[.val (.ref x), .val (.ref li), .val (.int (0 : Int32))] [(.int (0 : Int32)), (.double e0), (.ref x)] := by
  refine own_iloadN (pc2 := 16) d4_15 rfl rfl ?_
  exact own_refl
theorem own_h2_3 (x : Addr) (li : Addr) :
    own_Go own_K4 prog_12_method_5_code 19 #[.val (.ref x), .val (.ref li), .val (.int (0 : Int32))] [(.int (1 : Int32))] 4 #[.val (.ref x), .val (.ref li), .val (.int (1 : Int32))] [(.ref x), (.int (1 : Int32))] := by
  refine own_ifYes (pc' := 24) d4_19 (by decide) (by decide) (by decide) ?_
  refine own_iinc (pc2 := 27) d4_24 rfl rfl (v := (1 : Int32)) (by decide) (L' := #[.val (.ref x), .val (.ref li), .val (.int (1 : Int32))]) rfl ?_
  refine own_goto (pc' := 2) d4_27 (by decide) (by decide) ?_
  refine own_iloadN (pc2 := 3) d4_2 rfl rfl ?_
  refine own_aloadN (pc2 := 4) d4_3 rfl rfl rfl ?_
  exact own_refl
theorem own_h2_4 (x : Addr) (li : Addr) :
    own_Go own_K4 prog_12_method_5_code 8 #[.val (.ref x), .val (.ref li), .val (.int (1 : Int32))] [(.int (3 : Int32)), (.int (1 : Int32))] 14 #[.val (.ref x), .val (.ref li), .val (.int (1 : Int32))] [(.int (1 : Int32)), (.ref li), (.ref x)] := by
  refine own_icmpNo (pc2 := 11) d4_8 rfl (by decide) ?_
  refine own_aloadN (pc2 := 12) d4_11 rfl rfl rfl ?_
  refine own_aloadN (pc2 := 13) d4_12 rfl rfl rfl ?_
  refine own_iloadN (pc2 := 14) d4_13 rfl rfl ?_
  exact own_refl
theorem own_h2_5 (x : Addr) (li : Addr) (e1 : UInt64) :
    own_Go own_K4 prog_12_method_5_code 15 #[.val (.ref x), .val (.ref li), .val (.int (1 : Int32))] [(.double e1), (.ref x)] 16 #[.val (.ref x), .val (.ref li), .val (.int (1 : Int32))] [(.int (1 : Int32)), (.double e1), (.ref x)] := by
  refine own_iloadN (pc2 := 16) d4_15 rfl rfl ?_
  exact own_refl
theorem own_h2_6 (x : Addr) (li : Addr) :
    own_Go own_K4 prog_12_method_5_code 19 #[.val (.ref x), .val (.ref li), .val (.int (1 : Int32))] [(.int (1 : Int32))] 4 #[.val (.ref x), .val (.ref li), .val (.int (2 : Int32))] [(.ref x), (.int (2 : Int32))] := by
  refine own_ifYes (pc' := 24) d4_19 (by decide) (by decide) (by decide) ?_
  refine own_iinc (pc2 := 27) d4_24 rfl rfl (v := (2 : Int32)) (by decide) (L' := #[.val (.ref x), .val (.ref li), .val (.int (2 : Int32))]) rfl ?_
  refine own_goto (pc' := 2) d4_27 (by decide) (by decide) ?_
  refine own_iloadN (pc2 := 3) d4_2 rfl rfl ?_
  refine own_aloadN (pc2 := 4) d4_3 rfl rfl rfl ?_
  exact own_refl
theorem own_h2_7 (x : Addr) (li : Addr) :
    own_Go own_K4 prog_12_method_5_code 8 #[.val (.ref x), .val (.ref li), .val (.int (2 : Int32))] [(.int (3 : Int32)), (.int (2 : Int32))] 14 #[.val (.ref x), .val (.ref li), .val (.int (2 : Int32))] [(.int (2 : Int32)), (.ref li), (.ref x)] := by
  refine own_icmpNo (pc2 := 11) d4_8 rfl (by decide) ?_
  refine own_aloadN (pc2 := 12) d4_11 rfl rfl rfl ?_
  refine own_aloadN (pc2 := 13) d4_12 rfl rfl rfl ?_
  refine own_iloadN (pc2 := 14) d4_13 rfl rfl ?_
  exact own_refl
theorem own_h2_8 (x : Addr) (li : Addr) (e2 : UInt64) :
    own_Go own_K4 prog_12_method_5_code 15 #[.val (.ref x), .val (.ref li), .val (.int (2 : Int32))] [(.double e2), (.ref x)] 16 #[.val (.ref x), .val (.ref li), .val (.int (2 : Int32))] [(.int (2 : Int32)), (.double e2), (.ref x)] := by
  refine own_iloadN (pc2 := 16) d4_15 rfl rfl ?_
  exact own_refl
theorem own_h2_9 (x : Addr) (li : Addr) :
    own_Go own_K4 prog_12_method_5_code 19 #[.val (.ref x), .val (.ref li), .val (.int (2 : Int32))] [(.int (0 : Int32))] 23 #[.val (.ref x), .val (.ref li), .val (.int (2 : Int32))] [(.int (0 : Int32))] := by
  refine own_ifNo (pc2 := 22) d4_19 rfl (by decide) ?_
  refine own_iconst (v := 0) (pc2 := 23) d4_22 rfl rfl ?_
  exact own_refl
set_option maxRecDepth 65536 in
set_option maxHeartbeats 4000000 in
theorem own_holds2 (l : Launch) (Z : State) (a0 : Array Value) (hb0 : own_Base) (hw : ∀ d ∈ tables_1, d.before a0 Z = true) (x : Addr) (li : Addr) (ai st y : Addr) (qa : own_Cel) (pr d0 d1 d2 e0 e1 e2 : UInt64) (n0 : NoNaN64 (FP.dadd d0 (4472406533629990549 : UInt64))) (h0 : ifCond.holds .gt (cmpValue (FP.dcmp e0 (FP.dadd d0 (4472406533629990549 : UInt64))) .g) = false) (n1 : NoNaN64 (FP.dadd d1 (4472406533629990549 : UInt64))) (h1 : ifCond.holds .gt (cmpValue (FP.dcmp e1 (FP.dadd d1 (4472406533629990549 : UInt64))) .g) = false) (n2 : NoNaN64 (FP.dadd d2 (4472406533629990549 : UInt64))) (h2 : ifCond.holds .gt (cmpValue (FP.dcmp e2 (FP.dadd d2 (4472406533629990549 : UInt64))) .g) = true) :
    own_Met l Z a0 hb0 (⟨"com/example/placewright/placewright/model/MachineType", "holds", "([D)Z"⟩ : MethodName) prog_12_method_5_code 3 (some .boolean) [] ({ frames := 1, cells := 0, slots := 0, locals := 30 } : Room) #[(.ref x), (.ref li)] [(ai, qa), (li, own_A .double [.double e0, .double e1, .double e2]), (x, own_O "com/example/placewright/placewright/model/MachineType" [("com/example/placewright/placewright/model/MachineType", "name", "Ljava/lang/String;", .ref st), ("com/example/placewright/placewright/model/MachineType", "capacity", "[D", .ref y), ("com/example/placewright/placewright/model/MachineType", "pricePerHour", "D", .double pr)]), (y, own_A .double [.double d0, .double d1, .double d2])] (fun r cs' => r = some (.int 0) ∧ cs' = [(ai, qa), (li, own_A .double [.double e0, .double e1, .double e2]), (x, own_O "com/example/placewright/placewright/model/MachineType" [("com/example/placewright/placewright/model/MachineType", "name", "Ljava/lang/String;", .ref st), ("com/example/placewright/placewright/model/MachineType", "capacity", "[D", .ref y), ("com/example/placewright/placewright/model/MachineType", "pricePerHour", "D", .double pr)]), (y, own_A .double [.double d0, .double d1, .double d2])]) := by
  refine own_met_of (L0 := #[.val (.ref x), .val (.ref li), .unset]) (plainFor_of_name own_pn4) (fun m => own_ef4 m x li) ?_
  intro p e s m below meth c T0 hx hZ hown hby hml hnm H0
  obtain ⟨Th2_1, Hh2_1, sth2_1⟩ := own_getF H0 hx hZ hown (hw _ (List.mem_of_getElem? (i := 34) rfl)) 2 1 rfl rfl (g := (mkF m 4 #[.val (.ref x), .val (.ref li), .val (.int (0 : Int32))] [(.ref x), (.int (0 : Int32))])) rfl rfl (hb hby d4_4)
  change own_S _ _ _ _ _ _ _ _ _ _ _ _ _ _ [(ai, qa), (li, own_A .double [.double e0, .double e1, .double e2]), (x, own_O "com/example/placewright/placewright/model/MachineType" [("com/example/placewright/placewright/model/MachineType", "name", "Ljava/lang/String;", .ref st), ("com/example/placewright/placewright/model/MachineType", "capacity", "[D", .ref y), ("com/example/placewright/placewright/model/MachineType", "pricePerHour", "D", .double pr)]), (y, own_A .double [.double d0, .double d1, .double d2])] _ _ at Hh2_1
  obtain ⟨Th2_4, vh2_4_, csh2_4_, qh2_4, Hh2_4, sth2_4⟩ := own_callV Hh2_1 hx hZ hown (hw _ (List.mem_of_getElem? (i := 43) rfl)) (hw _ (List.mem_of_getElem? (i := 44) rfl)) (hw _ (List.mem_of_getElem? (i := 46) rfl)) (hw _ (List.mem_of_getElem? (i := 45) rfl)) (hw _ (List.mem_of_getElem? (i := 8) rfl)) (hw _ (List.mem_of_getElem? (i := 47) rfl)) (by decide) (x := x) 2 rfl (argsL := [(.double e0), (.int (0 : Int32))]) (rest := []) (W := 0) (own_fits00 l Z a0 hb0 hw x e0 ai li st y _ _ pr d0 d1 d2 n0 h0) (by decide) (by decide) (by decide) (by decide) (g := (mkF m 16 #[.val (.ref x), .val (.ref li), .val (.int (0 : Int32))] [(.int (0 : Int32)), (.double e0), (.ref x)])) rfl (by rw [hml]; rfl) (lenOf own_pd1 rfl) rfl (by show 2 * 0 + _ ≤ _; exact Nat.le_of_eq rfl) (hb hby d4_16)
  obtain ⟨rfl, rfl⟩ := qh2_4
  change own_S _ _ _ _ _ _ _ _ _ _ _ _ _ _ [(ai, qa), (li, own_A .double [.double e0, .double e1, .double e2]), (x, own_O "com/example/placewright/placewright/model/MachineType" [("com/example/placewright/placewright/model/MachineType", "name", "Ljava/lang/String;", .ref st), ("com/example/placewright/placewright/model/MachineType", "capacity", "[D", .ref y), ("com/example/placewright/placewright/model/MachineType", "pricePerHour", "D", .double pr)]), (y, own_A .double [.double d0, .double d1, .double d2])] _ _ at Hh2_4
  obtain ⟨Th2_5, Hh2_5, sth2_5⟩ := own_getF Hh2_4 hx hZ hown (hw _ (List.mem_of_getElem? (i := 34) rfl)) 2 1 rfl rfl (g := (mkF m 4 #[.val (.ref x), .val (.ref li), .val (.int (1 : Int32))] [(.ref x), (.int (1 : Int32))])) rfl rfl (hb hby d4_4)
  change own_S _ _ _ _ _ _ _ _ _ _ _ _ _ _ [(ai, qa), (li, own_A .double [.double e0, .double e1, .double e2]), (x, own_O "com/example/placewright/placewright/model/MachineType" [("com/example/placewright/placewright/model/MachineType", "name", "Ljava/lang/String;", .ref st), ("com/example/placewright/placewright/model/MachineType", "capacity", "[D", .ref y), ("com/example/placewright/placewright/model/MachineType", "pricePerHour", "D", .double pr)]), (y, own_A .double [.double d0, .double d1, .double d2])] _ _ at Hh2_5
  obtain ⟨Th2_8, vh2_8_, csh2_8_, qh2_8, Hh2_8, sth2_8⟩ := own_callV Hh2_5 hx hZ hown (hw _ (List.mem_of_getElem? (i := 43) rfl)) (hw _ (List.mem_of_getElem? (i := 44) rfl)) (hw _ (List.mem_of_getElem? (i := 46) rfl)) (hw _ (List.mem_of_getElem? (i := 45) rfl)) (hw _ (List.mem_of_getElem? (i := 8) rfl)) (hw _ (List.mem_of_getElem? (i := 47) rfl)) (by decide) (x := x) 2 rfl (argsL := [(.double e1), (.int (1 : Int32))]) (rest := []) (W := 0) (own_fits10 l Z a0 hb0 hw x e1 ai li st y _ _ pr d0 d1 d2 n1 h1) (by decide) (by decide) (by decide) (by decide) (g := (mkF m 16 #[.val (.ref x), .val (.ref li), .val (.int (1 : Int32))] [(.int (1 : Int32)), (.double e1), (.ref x)])) rfl (by rw [hml]; rfl) (lenOf own_pd1 rfl) rfl (by show 2 * 0 + _ ≤ _; exact Nat.le_of_eq rfl) (hb hby d4_16)
  obtain ⟨rfl, rfl⟩ := qh2_8
  change own_S _ _ _ _ _ _ _ _ _ _ _ _ _ _ [(ai, qa), (li, own_A .double [.double e0, .double e1, .double e2]), (x, own_O "com/example/placewright/placewright/model/MachineType" [("com/example/placewright/placewright/model/MachineType", "name", "Ljava/lang/String;", .ref st), ("com/example/placewright/placewright/model/MachineType", "capacity", "[D", .ref y), ("com/example/placewright/placewright/model/MachineType", "pricePerHour", "D", .double pr)]), (y, own_A .double [.double d0, .double d1, .double d2])] _ _ at Hh2_8
  obtain ⟨Th2_9, Hh2_9, sth2_9⟩ := own_getF Hh2_8 hx hZ hown (hw _ (List.mem_of_getElem? (i := 34) rfl)) 2 1 rfl rfl (g := (mkF m 4 #[.val (.ref x), .val (.ref li), .val (.int (2 : Int32))] [(.ref x), (.int (2 : Int32))])) rfl rfl (hb hby d4_4)
  change own_S _ _ _ _ _ _ _ _ _ _ _ _ _ _ [(ai, qa), (li, own_A .double [.double e0, .double e1, .double e2]), (x, own_O "com/example/placewright/placewright/model/MachineType" [("com/example/placewright/placewright/model/MachineType", "name", "Ljava/lang/String;", .ref st), ("com/example/placewright/placewright/model/MachineType", "capacity", "[D", .ref y), ("com/example/placewright/placewright/model/MachineType", "pricePerHour", "D", .double pr)]), (y, own_A .double [.double d0, .double d1, .double d2])] _ _ at Hh2_9
  obtain ⟨Th2_12, vh2_12_, csh2_12_, qh2_12, Hh2_12, sth2_12⟩ := own_callV Hh2_9 hx hZ hown (hw _ (List.mem_of_getElem? (i := 43) rfl)) (hw _ (List.mem_of_getElem? (i := 44) rfl)) (hw _ (List.mem_of_getElem? (i := 46) rfl)) (hw _ (List.mem_of_getElem? (i := 45) rfl)) (hw _ (List.mem_of_getElem? (i := 8) rfl)) (hw _ (List.mem_of_getElem? (i := 47) rfl)) (by decide) (x := x) 2 rfl (argsL := [(.double e2), (.int (2 : Int32))]) (rest := []) (W := 0) (own_fits21 l Z a0 hb0 hw x e2 ai li st y _ _ pr d0 d1 d2 n2 h2) (by decide) (by decide) (by decide) (by decide) (g := (mkF m 16 #[.val (.ref x), .val (.ref li), .val (.int (2 : Int32))] [(.int (2 : Int32)), (.double e2), (.ref x)])) rfl (by rw [hml]; rfl) (lenOf own_pd1 rfl) rfl (by show 2 * 0 + _ ≤ _; exact Nat.le_of_eq rfl) (hb hby d4_16)
  obtain ⟨rfl, rfl⟩ := qh2_12
  change own_S _ _ _ _ _ _ _ _ _ _ _ _ _ _ [(ai, qa), (li, own_A .double [.double e0, .double e1, .double e2]), (x, own_O "com/example/placewright/placewright/model/MachineType" [("com/example/placewright/placewright/model/MachineType", "name", "Ljava/lang/String;", .ref st), ("com/example/placewright/placewright/model/MachineType", "capacity", "[D", .ref y), ("com/example/placewright/placewright/model/MachineType", "pricePerHour", "D", .double pr)]), (y, own_A .double [.double d0, .double d1, .double d2])] _ _ at Hh2_12
  refine ⟨_, _, _, _, 23, #[.val (.ref x), .val (.ref li), .val (.int (2 : Int32))], Hh2_12, by decide, by decide, Or.inr ⟨.boolean, (.int (0 : Int32)), [], .ireturn, rfl, ⟨rfl, rfl⟩, d4_23, own_retZ (Or.inl rfl), fun target q => ?_⟩⟩
  refine own_go H0 hx hZ hown hby hw own_K4_ok (own_h2_0 x li) _ ?_
  refine sth2_1 _ ?_
  refine own_arrlen Hh2_1 hx hZ 3 rfl (z := (3 : Int32)) rfl (g := (mkF m 7 #[.val (.ref x), .val (.ref li), .val (.int (0 : Int32))] [(.ref y), (.int (0 : Int32))])) rfl rfl (hb hby d4_7) _ ?_
  refine own_go Hh2_1 hx hZ hown hby hw own_K4_ok (own_h2_1 x li) _ ?_
  refine own_daload Hh2_1 hx hZ 1 0 rfl (by decide) rfl (g := (mkF m 14 #[.val (.ref x), .val (.ref li), .val (.int (0 : Int32))] [(.int (0 : Int32)), (.ref li), (.ref x)])) rfl rfl (hb hby d4_14) _ ?_
  refine own_go Hh2_1 hx hZ hown hby hw own_K4_ok (own_h2_2 x li e0) _ ?_
  refine sth2_4 _ ?_
  refine own_go Hh2_4 hx hZ hown hby hw own_K4_ok (own_h2_3 x li) _ ?_
  refine sth2_5 _ ?_
  refine own_arrlen Hh2_5 hx hZ 3 rfl (z := (3 : Int32)) rfl (g := (mkF m 7 #[.val (.ref x), .val (.ref li), .val (.int (1 : Int32))] [(.ref y), (.int (1 : Int32))])) rfl rfl (hb hby d4_7) _ ?_
  refine own_go Hh2_5 hx hZ hown hby hw own_K4_ok (own_h2_4 x li) _ ?_
  refine own_daload Hh2_5 hx hZ 1 1 rfl (by decide) rfl (g := (mkF m 14 #[.val (.ref x), .val (.ref li), .val (.int (1 : Int32))] [(.int (1 : Int32)), (.ref li), (.ref x)])) rfl rfl (hb hby d4_14) _ ?_
  refine own_go Hh2_5 hx hZ hown hby hw own_K4_ok (own_h2_5 x li e1) _ ?_
  refine sth2_8 _ ?_
  refine own_go Hh2_8 hx hZ hown hby hw own_K4_ok (own_h2_6 x li) _ ?_
  refine sth2_9 _ ?_
  refine own_arrlen Hh2_9 hx hZ 3 rfl (z := (3 : Int32)) rfl (g := (mkF m 7 #[.val (.ref x), .val (.ref li), .val (.int (2 : Int32))] [(.ref y), (.int (2 : Int32))])) rfl rfl (hb hby d4_7) _ ?_
  refine own_go Hh2_9 hx hZ hown hby hw own_K4_ok (own_h2_7 x li) _ ?_
  refine own_daload Hh2_9 hx hZ 1 2 rfl (by decide) rfl (g := (mkF m 14 #[.val (.ref x), .val (.ref li), .val (.int (2 : Int32))] [(.int (2 : Int32)), (.ref li), (.ref x)])) rfl rfl (hb hby d4_14) _ ?_
  refine own_go Hh2_9 hx hZ hown hby hw own_K4_ok (own_h2_8 x li e2) _ ?_
  refine sth2_12 _ ?_
  refine own_go Hh2_12 hx hZ hown hby hw own_K4_ok (own_h2_9 x li) _ ?_
  exact q
theorem own_h3_0 (x : Addr) (li : Addr) :
    own_Go own_K4 prog_12_method_5_code 0 #[.val (.ref x), .val (.ref li), .unset] [] 4 #[.val (.ref x), .val (.ref li), .val (.int (0 : Int32))] [(.ref x), (.int (0 : Int32))] := by
  refine own_iconst (v := 0) (pc2 := 1) d4_0 rfl rfl ?_
  refine own_istoreN (pc2 := 2) d4_1 rfl (L' := #[.val (.ref x), .val (.ref li), .val (.int (0 : Int32))]) rfl ?_
  refine own_iloadN (pc2 := 3) d4_2 rfl rfl ?_
  refine own_aloadN (pc2 := 4) d4_3 rfl rfl rfl ?_
  exact own_refl
theorem own_h3_1 (x : Addr) (li : Addr) :
    own_Go own_K4 prog_12_method_5_code 8 #[.val (.ref x), .val (.ref li), .val (.int (0 : Int32))] [(.int (3 : Int32)), (.int (0 : Int32))] 14 #[.val (.ref x), .val (.ref li), .val (.int (0 : Int32))] [(.int (0 : Int32)), (.ref li), (.ref x)] := by
  refine own_icmpNo (pc2 := 11) d4_8 rfl (by decide) ?_
  refine own_aloadN (pc2 := 12) d4_11 rfl rfl rfl ?_
  refine own_aloadN (pc2 := 13) d4_12 rfl rfl rfl ?_
  refine own_iloadN (pc2 := 14) d4_13 rfl rfl ?_
  exact own_refl
theorem own_h3_2 (x : Addr) (li : Addr) (e0 : UInt64) :
    own_Go own_K4 prog_12_method_5_code 15 #[.val (.ref x), .val (.ref li), .val (.int (0 : Int32))] [(.double e0), (.ref x)] 16 #[.val (.ref x), .val (.ref li), .val (.int (0 : Int32))] [(.int (0 : Int32)), (.double e0), (.ref x)] := by
  refine own_iloadN (pc2 := 16) d4_15 rfl rfl ?_
  exact own_refl
theorem own_h3_3 (x : Addr) (li : Addr) :
    own_Go own_K4 prog_12_method_5_code 19 #[.val (.ref x), .val (.ref li), .val (.int (0 : Int32))] [(.int (1 : Int32))] 4 #[.val (.ref x), .val (.ref li), .val (.int (1 : Int32))] [(.ref x), (.int (1 : Int32))] := by
  refine own_ifYes (pc' := 24) d4_19 (by decide) (by decide) (by decide) ?_
  refine own_iinc (pc2 := 27) d4_24 rfl rfl (v := (1 : Int32)) (by decide) (L' := #[.val (.ref x), .val (.ref li), .val (.int (1 : Int32))]) rfl ?_
  refine own_goto (pc' := 2) d4_27 (by decide) (by decide) ?_
  refine own_iloadN (pc2 := 3) d4_2 rfl rfl ?_
  refine own_aloadN (pc2 := 4) d4_3 rfl rfl rfl ?_
  exact own_refl
theorem own_h3_4 (x : Addr) (li : Addr) :
    own_Go own_K4 prog_12_method_5_code 8 #[.val (.ref x), .val (.ref li), .val (.int (1 : Int32))] [(.int (3 : Int32)), (.int (1 : Int32))] 14 #[.val (.ref x), .val (.ref li), .val (.int (1 : Int32))] [(.int (1 : Int32)), (.ref li), (.ref x)] := by
  refine own_icmpNo (pc2 := 11) d4_8 rfl (by decide) ?_
  refine own_aloadN (pc2 := 12) d4_11 rfl rfl rfl ?_
  refine own_aloadN (pc2 := 13) d4_12 rfl rfl rfl ?_
  refine own_iloadN (pc2 := 14) d4_13 rfl rfl ?_
  exact own_refl
theorem own_h3_5 (x : Addr) (li : Addr) (e1 : UInt64) :
    own_Go own_K4 prog_12_method_5_code 15 #[.val (.ref x), .val (.ref li), .val (.int (1 : Int32))] [(.double e1), (.ref x)] 16 #[.val (.ref x), .val (.ref li), .val (.int (1 : Int32))] [(.int (1 : Int32)), (.double e1), (.ref x)] := by
  refine own_iloadN (pc2 := 16) d4_15 rfl rfl ?_
  exact own_refl
theorem own_h3_6 (x : Addr) (li : Addr) :
    own_Go own_K4 prog_12_method_5_code 19 #[.val (.ref x), .val (.ref li), .val (.int (1 : Int32))] [(.int (1 : Int32))] 4 #[.val (.ref x), .val (.ref li), .val (.int (2 : Int32))] [(.ref x), (.int (2 : Int32))] := by
  refine own_ifYes (pc' := 24) d4_19 (by decide) (by decide) (by decide) ?_
  refine own_iinc (pc2 := 27) d4_24 rfl rfl (v := (2 : Int32)) (by decide) (L' := #[.val (.ref x), .val (.ref li), .val (.int (2 : Int32))]) rfl ?_
  refine own_goto (pc' := 2) d4_27 (by decide) (by decide) ?_
  refine own_iloadN (pc2 := 3) d4_2 rfl rfl ?_
  refine own_aloadN (pc2 := 4) d4_3 rfl rfl rfl ?_
  exact own_refl
theorem own_h3_7 (x : Addr) (li : Addr) :
    own_Go own_K4 prog_12_method_5_code 8 #[.val (.ref x), .val (.ref li), .val (.int (2 : Int32))] [(.int (3 : Int32)), (.int (2 : Int32))] 14 #[.val (.ref x), .val (.ref li), .val (.int (2 : Int32))] [(.int (2 : Int32)), (.ref li), (.ref x)] := by
  refine own_icmpNo (pc2 := 11) d4_8 rfl (by decide) ?_
  refine own_aloadN (pc2 := 12) d4_11 rfl rfl rfl ?_
  refine own_aloadN (pc2 := 13) d4_12 rfl rfl rfl ?_
  refine own_iloadN (pc2 := 14) d4_13 rfl rfl ?_
  exact own_refl
theorem own_h3_8 (x : Addr) (li : Addr) (e2 : UInt64) :
    own_Go own_K4 prog_12_method_5_code 15 #[.val (.ref x), .val (.ref li), .val (.int (2 : Int32))] [(.double e2), (.ref x)] 16 #[.val (.ref x), .val (.ref li), .val (.int (2 : Int32))] [(.int (2 : Int32)), (.double e2), (.ref x)] := by
  refine own_iloadN (pc2 := 16) d4_15 rfl rfl ?_
  exact own_refl
theorem own_h3_9 (x : Addr) (li : Addr) :
    own_Go own_K4 prog_12_method_5_code 19 #[.val (.ref x), .val (.ref li), .val (.int (2 : Int32))] [(.int (1 : Int32))] 4 #[.val (.ref x), .val (.ref li), .val (.int (3 : Int32))] [(.ref x), (.int (3 : Int32))] := by
  refine own_ifYes (pc' := 24) d4_19 (by decide) (by decide) (by decide) ?_
  refine own_iinc (pc2 := 27) d4_24 rfl rfl (v := (3 : Int32)) (by decide) (L' := #[.val (.ref x), .val (.ref li), .val (.int (3 : Int32))]) rfl ?_
  refine own_goto (pc' := 2) d4_27 (by decide) (by decide) ?_
  refine own_iloadN (pc2 := 3) d4_2 rfl rfl ?_
  refine own_aloadN (pc2 := 4) d4_3 rfl rfl rfl ?_
  exact own_refl
theorem own_h3_10 (x : Addr) (li : Addr) :
    own_Go own_K4 prog_12_method_5_code 8 #[.val (.ref x), .val (.ref li), .val (.int (3 : Int32))] [(.int (3 : Int32)), (.int (3 : Int32))] 31 #[.val (.ref x), .val (.ref li), .val (.int (3 : Int32))] [(.int (1 : Int32))] := by
  refine own_icmpYes (pc' := 30) d4_8 (by decide) (by decide) (by decide) ?_
  refine own_iconst (v := 1) (pc2 := 31) d4_30 rfl rfl ?_
  exact own_refl
set_option maxRecDepth 65536 in
set_option maxHeartbeats 4000000 in
theorem own_holds3 (l : Launch) (Z : State) (a0 : Array Value) (hb0 : own_Base) (hw : ∀ d ∈ tables_1, d.before a0 Z = true) (x : Addr) (li : Addr) (ai st y : Addr) (qa : own_Cel) (pr d0 d1 d2 e0 e1 e2 : UInt64) (n0 : NoNaN64 (FP.dadd d0 (4472406533629990549 : UInt64))) (h0 : ifCond.holds .gt (cmpValue (FP.dcmp e0 (FP.dadd d0 (4472406533629990549 : UInt64))) .g) = false) (n1 : NoNaN64 (FP.dadd d1 (4472406533629990549 : UInt64))) (h1 : ifCond.holds .gt (cmpValue (FP.dcmp e1 (FP.dadd d1 (4472406533629990549 : UInt64))) .g) = false) (n2 : NoNaN64 (FP.dadd d2 (4472406533629990549 : UInt64))) (h2 : ifCond.holds .gt (cmpValue (FP.dcmp e2 (FP.dadd d2 (4472406533629990549 : UInt64))) .g) = false) :
    own_Met l Z a0 hb0 (⟨"com/example/placewright/placewright/model/MachineType", "holds", "([D)Z"⟩ : MethodName) prog_12_method_5_code 3 (some .boolean) [] ({ frames := 1, cells := 0, slots := 0, locals := 30 } : Room) #[(.ref x), (.ref li)] [(ai, qa), (li, own_A .double [.double e0, .double e1, .double e2]), (x, own_O "com/example/placewright/placewright/model/MachineType" [("com/example/placewright/placewright/model/MachineType", "name", "Ljava/lang/String;", .ref st), ("com/example/placewright/placewright/model/MachineType", "capacity", "[D", .ref y), ("com/example/placewright/placewright/model/MachineType", "pricePerHour", "D", .double pr)]), (y, own_A .double [.double d0, .double d1, .double d2])] (fun r cs' => r = some (.int 1) ∧ cs' = [(ai, qa), (li, own_A .double [.double e0, .double e1, .double e2]), (x, own_O "com/example/placewright/placewright/model/MachineType" [("com/example/placewright/placewright/model/MachineType", "name", "Ljava/lang/String;", .ref st), ("com/example/placewright/placewright/model/MachineType", "capacity", "[D", .ref y), ("com/example/placewright/placewright/model/MachineType", "pricePerHour", "D", .double pr)]), (y, own_A .double [.double d0, .double d1, .double d2])]) := by
  refine own_met_of (L0 := #[.val (.ref x), .val (.ref li), .unset]) (plainFor_of_name own_pn4) (fun m => own_ef4 m x li) ?_
  intro p e s m below meth c T0 hx hZ hown hby hml hnm H0
  obtain ⟨Th3_1, Hh3_1, sth3_1⟩ := own_getF H0 hx hZ hown (hw _ (List.mem_of_getElem? (i := 34) rfl)) 2 1 rfl rfl (g := (mkF m 4 #[.val (.ref x), .val (.ref li), .val (.int (0 : Int32))] [(.ref x), (.int (0 : Int32))])) rfl rfl (hb hby d4_4)
  change own_S _ _ _ _ _ _ _ _ _ _ _ _ _ _ [(ai, qa), (li, own_A .double [.double e0, .double e1, .double e2]), (x, own_O "com/example/placewright/placewright/model/MachineType" [("com/example/placewright/placewright/model/MachineType", "name", "Ljava/lang/String;", .ref st), ("com/example/placewright/placewright/model/MachineType", "capacity", "[D", .ref y), ("com/example/placewright/placewright/model/MachineType", "pricePerHour", "D", .double pr)]), (y, own_A .double [.double d0, .double d1, .double d2])] _ _ at Hh3_1
  obtain ⟨Th3_4, vh3_4_, csh3_4_, qh3_4, Hh3_4, sth3_4⟩ := own_callV Hh3_1 hx hZ hown (hw _ (List.mem_of_getElem? (i := 43) rfl)) (hw _ (List.mem_of_getElem? (i := 44) rfl)) (hw _ (List.mem_of_getElem? (i := 46) rfl)) (hw _ (List.mem_of_getElem? (i := 45) rfl)) (hw _ (List.mem_of_getElem? (i := 8) rfl)) (hw _ (List.mem_of_getElem? (i := 47) rfl)) (by decide) (x := x) 2 rfl (argsL := [(.double e0), (.int (0 : Int32))]) (rest := []) (W := 0) (own_fits00 l Z a0 hb0 hw x e0 ai li st y _ _ pr d0 d1 d2 n0 h0) (by decide) (by decide) (by decide) (by decide) (g := (mkF m 16 #[.val (.ref x), .val (.ref li), .val (.int (0 : Int32))] [(.int (0 : Int32)), (.double e0), (.ref x)])) rfl (by rw [hml]; rfl) (lenOf own_pd1 rfl) rfl (by show 2 * 0 + _ ≤ _; exact Nat.le_of_eq rfl) (hb hby d4_16)
  obtain ⟨rfl, rfl⟩ := qh3_4
  change own_S _ _ _ _ _ _ _ _ _ _ _ _ _ _ [(ai, qa), (li, own_A .double [.double e0, .double e1, .double e2]), (x, own_O "com/example/placewright/placewright/model/MachineType" [("com/example/placewright/placewright/model/MachineType", "name", "Ljava/lang/String;", .ref st), ("com/example/placewright/placewright/model/MachineType", "capacity", "[D", .ref y), ("com/example/placewright/placewright/model/MachineType", "pricePerHour", "D", .double pr)]), (y, own_A .double [.double d0, .double d1, .double d2])] _ _ at Hh3_4
  obtain ⟨Th3_5, Hh3_5, sth3_5⟩ := own_getF Hh3_4 hx hZ hown (hw _ (List.mem_of_getElem? (i := 34) rfl)) 2 1 rfl rfl (g := (mkF m 4 #[.val (.ref x), .val (.ref li), .val (.int (1 : Int32))] [(.ref x), (.int (1 : Int32))])) rfl rfl (hb hby d4_4)
  change own_S _ _ _ _ _ _ _ _ _ _ _ _ _ _ [(ai, qa), (li, own_A .double [.double e0, .double e1, .double e2]), (x, own_O "com/example/placewright/placewright/model/MachineType" [("com/example/placewright/placewright/model/MachineType", "name", "Ljava/lang/String;", .ref st), ("com/example/placewright/placewright/model/MachineType", "capacity", "[D", .ref y), ("com/example/placewright/placewright/model/MachineType", "pricePerHour", "D", .double pr)]), (y, own_A .double [.double d0, .double d1, .double d2])] _ _ at Hh3_5
  obtain ⟨Th3_8, vh3_8_, csh3_8_, qh3_8, Hh3_8, sth3_8⟩ := own_callV Hh3_5 hx hZ hown (hw _ (List.mem_of_getElem? (i := 43) rfl)) (hw _ (List.mem_of_getElem? (i := 44) rfl)) (hw _ (List.mem_of_getElem? (i := 46) rfl)) (hw _ (List.mem_of_getElem? (i := 45) rfl)) (hw _ (List.mem_of_getElem? (i := 8) rfl)) (hw _ (List.mem_of_getElem? (i := 47) rfl)) (by decide) (x := x) 2 rfl (argsL := [(.double e1), (.int (1 : Int32))]) (rest := []) (W := 0) (own_fits10 l Z a0 hb0 hw x e1 ai li st y _ _ pr d0 d1 d2 n1 h1) (by decide) (by decide) (by decide) (by decide) (g := (mkF m 16 #[.val (.ref x), .val (.ref li), .val (.int (1 : Int32))] [(.int (1 : Int32)), (.double e1), (.ref x)])) rfl (by rw [hml]; rfl) (lenOf own_pd1 rfl) rfl (by show 2 * 0 + _ ≤ _; exact Nat.le_of_eq rfl) (hb hby d4_16)
  obtain ⟨rfl, rfl⟩ := qh3_8
  change own_S _ _ _ _ _ _ _ _ _ _ _ _ _ _ [(ai, qa), (li, own_A .double [.double e0, .double e1, .double e2]), (x, own_O "com/example/placewright/placewright/model/MachineType" [("com/example/placewright/placewright/model/MachineType", "name", "Ljava/lang/String;", .ref st), ("com/example/placewright/placewright/model/MachineType", "capacity", "[D", .ref y), ("com/example/placewright/placewright/model/MachineType", "pricePerHour", "D", .double pr)]), (y, own_A .double [.double d0, .double d1, .double d2])] _ _ at Hh3_8
  obtain ⟨Th3_9, Hh3_9, sth3_9⟩ := own_getF Hh3_8 hx hZ hown (hw _ (List.mem_of_getElem? (i := 34) rfl)) 2 1 rfl rfl (g := (mkF m 4 #[.val (.ref x), .val (.ref li), .val (.int (2 : Int32))] [(.ref x), (.int (2 : Int32))])) rfl rfl (hb hby d4_4)
  change own_S _ _ _ _ _ _ _ _ _ _ _ _ _ _ [(ai, qa), (li, own_A .double [.double e0, .double e1, .double e2]), (x, own_O "com/example/placewright/placewright/model/MachineType" [("com/example/placewright/placewright/model/MachineType", "name", "Ljava/lang/String;", .ref st), ("com/example/placewright/placewright/model/MachineType", "capacity", "[D", .ref y), ("com/example/placewright/placewright/model/MachineType", "pricePerHour", "D", .double pr)]), (y, own_A .double [.double d0, .double d1, .double d2])] _ _ at Hh3_9
  obtain ⟨Th3_12, vh3_12_, csh3_12_, qh3_12, Hh3_12, sth3_12⟩ := own_callV Hh3_9 hx hZ hown (hw _ (List.mem_of_getElem? (i := 43) rfl)) (hw _ (List.mem_of_getElem? (i := 44) rfl)) (hw _ (List.mem_of_getElem? (i := 46) rfl)) (hw _ (List.mem_of_getElem? (i := 45) rfl)) (hw _ (List.mem_of_getElem? (i := 8) rfl)) (hw _ (List.mem_of_getElem? (i := 47) rfl)) (by decide) (x := x) 2 rfl (argsL := [(.double e2), (.int (2 : Int32))]) (rest := []) (W := 0) (own_fits20 l Z a0 hb0 hw x e2 ai li st y _ _ pr d0 d1 d2 n2 h2) (by decide) (by decide) (by decide) (by decide) (g := (mkF m 16 #[.val (.ref x), .val (.ref li), .val (.int (2 : Int32))] [(.int (2 : Int32)), (.double e2), (.ref x)])) rfl (by rw [hml]; rfl) (lenOf own_pd1 rfl) rfl (by show 2 * 0 + _ ≤ _; exact Nat.le_of_eq rfl) (hb hby d4_16)
  obtain ⟨rfl, rfl⟩ := qh3_12
  change own_S _ _ _ _ _ _ _ _ _ _ _ _ _ _ [(ai, qa), (li, own_A .double [.double e0, .double e1, .double e2]), (x, own_O "com/example/placewright/placewright/model/MachineType" [("com/example/placewright/placewright/model/MachineType", "name", "Ljava/lang/String;", .ref st), ("com/example/placewright/placewright/model/MachineType", "capacity", "[D", .ref y), ("com/example/placewright/placewright/model/MachineType", "pricePerHour", "D", .double pr)]), (y, own_A .double [.double d0, .double d1, .double d2])] _ _ at Hh3_12
  obtain ⟨Th3_13, Hh3_13, sth3_13⟩ := own_getF Hh3_12 hx hZ hown (hw _ (List.mem_of_getElem? (i := 34) rfl)) 2 1 rfl rfl (g := (mkF m 4 #[.val (.ref x), .val (.ref li), .val (.int (3 : Int32))] [(.ref x), (.int (3 : Int32))])) rfl rfl (hb hby d4_4)
  change own_S _ _ _ _ _ _ _ _ _ _ _ _ _ _ [(ai, qa), (li, own_A .double [.double e0, .double e1, .double e2]), (x, own_O "com/example/placewright/placewright/model/MachineType" [("com/example/placewright/placewright/model/MachineType", "name", "Ljava/lang/String;", .ref st), ("com/example/placewright/placewright/model/MachineType", "capacity", "[D", .ref y), ("com/example/placewright/placewright/model/MachineType", "pricePerHour", "D", .double pr)]), (y, own_A .double [.double d0, .double d1, .double d2])] _ _ at Hh3_13
  refine ⟨_, _, _, _, 31, #[.val (.ref x), .val (.ref li), .val (.int (3 : Int32))], Hh3_13, by decide, by decide, Or.inr ⟨.boolean, (.int (1 : Int32)), [], .ireturn, rfl, ⟨rfl, rfl⟩, d4_31, own_retZ (Or.inr rfl), fun target q => ?_⟩⟩
  refine own_go H0 hx hZ hown hby hw own_K4_ok (own_h3_0 x li) _ ?_
  refine sth3_1 _ ?_
  refine own_arrlen Hh3_1 hx hZ 3 rfl (z := (3 : Int32)) rfl (g := (mkF m 7 #[.val (.ref x), .val (.ref li), .val (.int (0 : Int32))] [(.ref y), (.int (0 : Int32))])) rfl rfl (hb hby d4_7) _ ?_
  refine own_go Hh3_1 hx hZ hown hby hw own_K4_ok (own_h3_1 x li) _ ?_
  refine own_daload Hh3_1 hx hZ 1 0 rfl (by decide) rfl (g := (mkF m 14 #[.val (.ref x), .val (.ref li), .val (.int (0 : Int32))] [(.int (0 : Int32)), (.ref li), (.ref x)])) rfl rfl (hb hby d4_14) _ ?_
  refine own_go Hh3_1 hx hZ hown hby hw own_K4_ok (own_h3_2 x li e0) _ ?_
  refine sth3_4 _ ?_
  refine own_go Hh3_4 hx hZ hown hby hw own_K4_ok (own_h3_3 x li) _ ?_
  refine sth3_5 _ ?_
  refine own_arrlen Hh3_5 hx hZ 3 rfl (z := (3 : Int32)) rfl (g := (mkF m 7 #[.val (.ref x), .val (.ref li), .val (.int (1 : Int32))] [(.ref y), (.int (1 : Int32))])) rfl rfl (hb hby d4_7) _ ?_
  refine own_go Hh3_5 hx hZ hown hby hw own_K4_ok (own_h3_4 x li) _ ?_
  refine own_daload Hh3_5 hx hZ 1 1 rfl (by decide) rfl (g := (mkF m 14 #[.val (.ref x), .val (.ref li), .val (.int (1 : Int32))] [(.int (1 : Int32)), (.ref li), (.ref x)])) rfl rfl (hb hby d4_14) _ ?_
  refine own_go Hh3_5 hx hZ hown hby hw own_K4_ok (own_h3_5 x li e1) _ ?_
  refine sth3_8 _ ?_
  refine own_go Hh3_8 hx hZ hown hby hw own_K4_ok (own_h3_6 x li) _ ?_
  refine sth3_9 _ ?_
  refine own_arrlen Hh3_9 hx hZ 3 rfl (z := (3 : Int32)) rfl (g := (mkF m 7 #[.val (.ref x), .val (.ref li), .val (.int (2 : Int32))] [(.ref y), (.int (2 : Int32))])) rfl rfl (hb hby d4_7) _ ?_
  refine own_go Hh3_9 hx hZ hown hby hw own_K4_ok (own_h3_7 x li) _ ?_
  refine own_daload Hh3_9 hx hZ 1 2 rfl (by decide) rfl (g := (mkF m 14 #[.val (.ref x), .val (.ref li), .val (.int (2 : Int32))] [(.int (2 : Int32)), (.ref li), (.ref x)])) rfl rfl (hb hby d4_14) _ ?_
  refine own_go Hh3_9 hx hZ hown hby hw own_K4_ok (own_h3_8 x li e2) _ ?_
  refine sth3_12 _ ?_
  refine own_go Hh3_12 hx hZ hown hby hw own_K4_ok (own_h3_9 x li) _ ?_
  refine sth3_13 _ ?_
  refine own_arrlen Hh3_13 hx hZ 3 rfl (z := (3 : Int32)) rfl (g := (mkF m 7 #[.val (.ref x), .val (.ref li), .val (.int (3 : Int32))] [(.ref y), (.int (3 : Int32))])) rfl rfl (hb hby d4_7) _ ?_
  refine own_go Hh3_13 hx hZ hown hby hw own_K4_ok (own_h3_10 x li) _ ?_
  exact q

theorem own_two : own_is 4611686018427387904 2 := ⟨false, 2 ^ 52, -51, by decide +kernel, by decide +kernel⟩
theorem own_three : own_is 4613937818241073152 3 := ⟨false, 3 * 2 ^ 51, -51, by decide +kernel, by decide +kernel⟩
theorem own_mtwo : own_is 13835058055282163712 (-2) := ⟨true, 2 ^ 52, -51, by decide +kernel, by decide +kernel⟩
theorem own_o1 : own_is (FP.ddiv 4472406533629990549 4611686018427387904) (own_t / 2) := own_rd_exact (own_div own_ist own_two (by decide)) (m := 4835703278458517) (k := -83) (by decide +kernel) (by decide) (by decide) (by decide)
theorem own_o3 : own_is (FP.ddiv (FP.dneg 4472406533629990549) 4611686018427387904) (-own_t / 2) := own_rd_exact (own_div (own_neg own_ist) own_two (by decide)) (m := -4835703278458517) (k := -83) (by decide +kernel) (by decide) (by decide) (by decide)
theorem own_o5 : own_is (FP.dmul 13835058055282163712 4472406533629990549) (-2 * own_t) := own_rd_exact (own_mul own_mtwo own_ist) (m := -4835703278458517) (k := -81) (by decide +kernel) (by decide) (by decide) (by decide)
theorem own_o6 : own_is (FP.dmul 4611686018427387904 4472406533629990549) (2 * own_t) := own_rd_exact (own_mul own_two own_ist) (m := 4835703278458517) (k := -81) (by decide +kernel) (by decide) (by decide) (by decide)
theorem own_o7 : ∃ o, own_is (FP.dmul 4613937818241073152 4472406533629990549) o ∧ 2 * own_t ≤ o ∧ o ≤ 1 := by
  have h := own_mul own_three own_ist
  obtain ⟨w, hw⟩ := own_rd_finN h (by decide +kernel) (by decide +kernel)
  exact ⟨w, hw, own_rd_ge' h hw own_o6 (by decide +kernel), own_rd_le' h hw own_one (by decide +kernel)⟩
def own_off (k : Int32) : UInt64 := (bif ifCond.holds .ne k then (bif if_icmp.holds .ne k (1 : Int32) then (bif if_icmp.holds .ne k (2 : Int32) then (bif if_icmp.holds .ne k (3 : Int32) then (bif if_icmp.holds .ne k (4 : Int32) then (bif if_icmp.holds .ne k (5 : Int32) then (bif if_icmp.holds .ne k (6 : Int32) then (FP.dmul (4613937818241073152 : UInt64) (4472406533629990549 : UInt64)) else (FP.dmul (4611686018427387904 : UInt64) (4472406533629990549 : UInt64))) else (FP.dmul (13835058055282163712 : UInt64) (4472406533629990549 : UInt64))) else (FP.dneg (4472406533629990549 : UInt64))) else (FP.ddiv (FP.dneg (4472406533629990549 : UInt64)) (4611686018427387904 : UInt64))) else (4472406533629990549 : UInt64)) else (FP.ddiv (4472406533629990549 : UInt64) (4611686018427387904 : UInt64))) else (0 : UInt64))
theorem own_offs (k : Int32) (hk : k = 0 ∨ k = 1 ∨ k = 2 ∨ k = 3 ∨ k = 4 ∨ k = 5 ∨ k = 6 ∨ k = 7) : ∃ o, own_is (own_off k) o ∧ -(1 / 4) ≤ o ∧ o ≤ 1 ∧ ((k.toInt ≤ 5 ∧ (o = own_t ∨ o ≤ own_t / 2)) ∨ (5 < k.toInt ∧ 2 * own_t ≤ o)) := by
  rcases hk with rfl | rfl | rfl | rfl | rfl | rfl | rfl | rfl
  · exact ⟨0, own_zero, by decide +kernel, by decide +kernel, Or.inl ⟨by decide, Or.inr (by decide +kernel)⟩⟩
  · exact ⟨_, own_o1, by decide +kernel, by decide +kernel, Or.inl ⟨by decide, Or.inr (by decide +kernel)⟩⟩
  · exact ⟨_, own_ist, by decide +kernel, by decide +kernel, Or.inl ⟨by decide, Or.inl rfl⟩⟩
  · exact ⟨_, own_o3, by decide +kernel, by decide +kernel, Or.inl ⟨by decide, Or.inr (by decide +kernel)⟩⟩
  · exact ⟨_, own_neg own_ist, by decide +kernel, by decide +kernel, Or.inl ⟨by decide, Or.inr (by decide +kernel)⟩⟩
  · exact ⟨_, own_o5, by decide +kernel, by decide +kernel, Or.inl ⟨by decide, Or.inr (by decide +kernel)⟩⟩
  · exact ⟨_, own_o6, by decide +kernel, by decide +kernel, Or.inr ⟨by decide, by decide +kernel⟩⟩
  · obtain ⟨o, h1, h2, h3⟩ := own_o7
    exact ⟨o, h1, Rat.le_trans (by decide +kernel) h2, h3, Or.inr ⟨by decide, h2⟩⟩
theorem own_repc {C : Int} (n : Int) (b : C ≤ 10000 ∧ -10000 ≤ C) (hn : n.natAbs ≤ 4294967296) : own_Rep ((C : Rat) + (n : Rat) / 4294967296) := by
  refine own_rep_fix (C * 4294967296 + n) 32 (by decide) ?_ (by omega)
  rw [Rat.intCast_add, Rat.intCast_mul]
  show ((C : Rat) + (n : Rat) / 4294967296) * 4294967296 = (C : Rat) * 4294967296 + n
  grind
theorem own_bnd {C : Int} (b : C ≤ 10000 ∧ -10000 ≤ C) : (C : Rat) ≤ 10000 ∧ -10000 ≤ (C : Rat) := ⟨own_cle b.1, own_cle b.2⟩
theorem own_ldv {ss of : UInt64} {S : Int} {o : Rat} (hs : own_is ss (S : Rat)) (b : S ≤ 10000 ∧ -10000 ≤ S) (ho : own_is of o) (h1 : -(1 / 4) ≤ o) (h2 : o ≤ 1) : own_rd (FP.dadd ss of) ((S : Rat) + o) ∧ ∃ v, own_is (FP.dadd ss of) v := by
  have h := own_add hs ho
  have := own_bnd b
  exact ⟨h, own_rd_finN h (by grind) (by grind)⟩
theorem own_le_rep {x : UInt64} {r v z : Rat} (h : own_rd x r) (hx : own_is x v) (hz : own_Rep z) (hle : r ≤ z) : v ≤ z := by
  obtain ⟨m, k, e1, e2, e3, e4⟩ := hz
  obtain ⟨V, hV⟩ := own_rep' e1 e2 e3 e4
  exact own_rd_le' h hx hV hle
theorem own_ge_rep {x : UInt64} {r v z : Rat} (h : own_rd x r) (hx : own_is x v) (hz : own_Rep z) (hle : z ≤ r) : z ≤ v := by
  obtain ⟨m, k, e1, e2, e3, e4⟩ := hz
  obtain ⟨V, hV⟩ := own_rep' e1 e2 e3 e4
  exact own_rd_ge' h hx hV hle
theorem own_rA {cc ss of : UInt64} {C d : Int} {o : Rat} (hc : own_is cc (C : Rat)) (hs : own_is ss ((C + d : Int) : Rat)) (ho : own_is of o) (b : C ≤ 9000 ∧ -9000 ≤ C) (bd : d ≤ 4 ∧ -4 ≤ d) (h1 : -(1 / 4) ≤ o) (h2 : o ≤ 1) (hd : d < 0) : ifCond.holds .gt (cmpValue (FP.dcmp (FP.dadd ss of) (FP.dadd cc 4472406533629990549)) .g) = false := by
  obtain ⟨g1, v, g2⟩ := own_ldv hs (by omega) ho h1 h2
  have B := own_bnd (C := C) (by omega)
  have hd' : (d : Rat) ≤ -1 := own_cle (show d ≤ -1 by omega)
  have t1 := own_t_lo
  rw [Rat.intCast_add] at g1
  have q := own_le_rep g1 g2 (own_repc (C := C) 0 (by omega) (by decide)) (by show _ ≤ (C : Rat) + 0 / 4294967296; grind)
  have q' : v ≤ (C : Rat) + 0 / 4294967296 := q
  exact own_fit0 g2 hc (by grind) (by grind) (by grind)
theorem own_rB {cc ss of : UInt64} {C d : Int} {o : Rat} (hc : own_is cc (C : Rat)) (hs : own_is ss ((C + d : Int) : Rat)) (ho : own_is of o) (b : C ≤ 9000 ∧ -9000 ≤ C) (bd : d ≤ 4 ∧ -4 ≤ d) (h1 : -(1 / 4) ≤ o) (h2 : o ≤ 1) (hd : 0 < d) : ifCond.holds .gt (cmpValue (FP.dcmp (FP.dadd ss of) (FP.dadd cc 4472406533629990549)) .g) = true := by
  obtain ⟨g1, v, g2⟩ := own_ldv hs (by omega) ho h1 h2
  have B := own_bnd (C := C) (by omega)
  have hd' : 1 ≤ (d : Rat) := own_cle (show 1 ≤ d by omega)
  have t1 := own_t_hi
  rw [Rat.intCast_add] at g1
  have q : (C : Rat) + (2147483648 : Rat) / 4294967296 ≤ v := own_ge_rep g1 g2 (own_repc (C := C) 2147483648 (by omega) (by decide)) (by show (C : Rat) + 2147483648 / 4294967296 ≤ _; grind)
  exact own_fit1 g2 hc (by grind) (by grind) (own_repc (C := C) 1073741824 (by omega) (by decide)) (by show _ ≤ (C : Rat) + 1073741824 / 4294967296; grind) (by show (C : Rat) + 1073741824 / 4294967296 < _; grind)
theorem own_rC {cc ss of : UInt64} {C d : Int} {o : Rat} (hc : own_is cc (C : Rat)) (hs : own_is ss ((C + d : Int) : Rat)) (ho : own_is of o) (b : C ≤ 9000 ∧ -9000 ≤ C) (bd : d ≤ 4 ∧ -4 ≤ d) (h1 : -(1 / 4) ≤ o) (h2 : o ≤ 1) (hd : d = 0) (hk : o = own_t ∨ o ≤ own_t / 2) : ifCond.holds .gt (cmpValue (FP.dcmp (FP.dadd ss of) (FP.dadd cc 4472406533629990549)) .g) = false := by
  subst hd
  obtain ⟨g1, v, g2⟩ := own_ldv hs (by omega) ho h1 h2
  rw [Int.add_zero] at g1
  have B := own_bnd (C := C) (by omega)
  have t1 := own_t_lo
  have t2 := own_t_hi
  rcases hk with rfl | hk
  · obtain ⟨w, w1, w2⟩ := own_capw hc (by grind) (by grind)
    rw [own_c_gt g2 w2, own_rd_same g1 w1 g2 w2]
    exact decide_eq_false (Rat.not_lt.mpr (Rat.le_refl))
  · have q : v ≤ (C : Rat) + (3 : Rat) / 4294967296 := own_le_rep g1 g2 (own_repc (C := C) 3 (by omega) (by decide)) (by show _ ≤ (C : Rat) + 3 / 4294967296; grind)
    exact own_fit0 g2 hc (by grind) (by grind) (by grind)
theorem own_rD {cc ss of : UInt64} {C d : Int} {o : Rat} (hc : own_is cc (C : Rat)) (hs : own_is ss ((C + d : Int) : Rat)) (ho : own_is of o) (b : C ≤ 9000 ∧ -9000 ≤ C) (bd : d ≤ 4 ∧ -4 ≤ d) (h1 : -(1 / 4) ≤ o) (h2 : o ≤ 1) (hd : d = 0) (hk : 2 * own_t ≤ o) : ifCond.holds .gt (cmpValue (FP.dcmp (FP.dadd ss of) (FP.dadd cc 4472406533629990549)) .g) = true := by
  subst hd
  obtain ⟨g1, v, g2⟩ := own_ldv hs (by omega) ho h1 h2
  rw [Int.add_zero] at g1
  have B := own_bnd (C := C) (by omega)
  have t1 := own_t_lo
  have t2 := own_t_hi
  have q : (C : Rat) + (7 : Rat) / 4294967296 ≤ v := own_ge_rep g1 g2 (own_repc (C := C) 7 (by omega) (by decide)) (by show (C : Rat) + 7 / 4294967296 ≤ _; grind)
  exact own_fit1 g2 hc (by grind) (by grind) (own_repc (C := C) 6 (by omega) (by decide)) (by show _ ≤ (C : Rat) + 6 / 4294967296; grind) (by show (C : Rat) + 6 / 4294967296 < _; grind)
theorem own_m7 (x : Int32) : (x &&& 7) = 0 ∨ (x &&& 7) = 1 ∨ (x &&& 7) = 2 ∨ (x &&& 7) = 3 ∨ (x &&& 7) = 4 ∨ (x &&& 7) = 5 ∨ (x &&& 7) = 6 ∨ (x &&& 7) = 7 := by
  have h := c_mask x 7 3 (by decide) (by decide)
  have hx : (x &&& 7).toInt = 0 ∨ (x &&& 7).toInt = 1 ∨ (x &&& 7).toInt = 2 ∨ (x &&& 7).toInt = 3 ∨ (x &&& 7).toInt = 4 ∨ (x &&& 7).toInt = 5 ∨ (x &&& 7).toInt = 6 ∨ (x &&& 7).toInt = 7 := by omega
  rcases hx with q | q | q | q | q | q | q | q
  · exact Or.inl (Int32.toInt_inj.mp q)
  · exact Or.inr (Or.inl (Int32.toInt_inj.mp q))
  · exact Or.inr (Or.inr (Or.inl (Int32.toInt_inj.mp q)))
  · exact Or.inr (Or.inr (Or.inr (Or.inl (Int32.toInt_inj.mp q))))
  · exact Or.inr (Or.inr (Or.inr (Or.inr (Or.inl (Int32.toInt_inj.mp q)))))
  · exact Or.inr (Or.inr (Or.inr (Or.inr (Or.inr (Or.inl (Int32.toInt_inj.mp q))))))
  · exact Or.inr (Or.inr (Or.inr (Or.inr (Or.inr (Or.inr (Or.inl (Int32.toInt_inj.mp q)))))))
  · exact Or.inr (Or.inr (Or.inr (Or.inr (Or.inr (Or.inr (Or.inr (Int32.toInt_inj.mp q)))))))
def own_T (xp : Int32) : Prop := ((((xp.toUInt32 >>> ((14 : Int32) &&& 31).toUInt32).toInt32) &&& (7 : Int32)) - (4 : Int32)).toInt < 0 ∨ (((((xp.toUInt32 >>> ((14 : Int32) &&& 31).toUInt32).toInt32) &&& (7 : Int32)) - (4 : Int32)).toInt = 0 ∧ (((xp.toUInt32 >>> ((17 : Int32) &&& 31).toUInt32).toInt32) &&& (7 : Int32)).toInt ≤ 5)
theorem own_l0A_0 (xp : Int32) (ai : Addr) (li : Addr) (v4 : Int32) (hv4 : (xp &&& (16383 : Int32)) = v4) (v8 : Int32) (hv8 : (v4 - (8192 : Int32)) = v8) (v14 : Int32) (hv14 : ((xp.toUInt32 >>> ((14 : Int32) &&& 31).toUInt32).toInt32) = v14) (v17 : Int32) (hv17 : (v14 &&& (7 : Int32)) = v17) (v19 : Int32) (hv19 : (v17 - (4 : Int32)) = v19) (v25 : Int32) (hv25 : ((xp.toUInt32 >>> ((17 : Int32) &&& 31).toUInt32).toInt32) = v25) (v28 : Int32) (hv28 : (v25 &&& (7 : Int32)) = v28) (v58 : UInt64) (hv58 : (FP.ddiv (4472406533629990549 : UInt64) (4611686018427387904 : UInt64)) = v58) (nn58 : NoNaN64 (FP.ddiv (4472406533629990549 : UInt64) (4611686018427387904 : UInt64))) (v85 : UInt64) (hv85 : (FP.dneg (4472406533629990549 : UInt64)) = v85) (v89 : UInt64) (hv89 : (FP.ddiv v85 (4611686018427387904 : UInt64)) = v89) (nn89 : NoNaN64 (FP.ddiv v85 (4611686018427387904 : UInt64))) (v103 : UInt64) (hv103 : (FP.dneg (4472406533629990549 : UInt64)) = v103) (v120 : UInt64) (hv120 : (FP.dmul (13835058055282163712 : UInt64) (4472406533629990549 : UInt64)) = v120) (nn120 : NoNaN64 (FP.dmul (13835058055282163712 : UInt64) (4472406533629990549 : UInt64))) (v138 : UInt64) (hv138 : (FP.dmul (4611686018427387904 : UInt64) (4472406533629990549 : UInt64)) = v138) (nn138 : NoNaN64 (FP.dmul (4611686018427387904 : UInt64) (4472406533629990549 : UInt64))) (v149 : UInt64) (hv149 : (FP.dmul (4613937818241073152 : UInt64) (4472406533629990549 : UInt64)) = v149) (nn149 : NoNaN64 (FP.dmul (4613937818241073152 : UInt64) (4472406533629990549 : UInt64))) (j152_9 : UInt64) (hj152_9 : (bif ifCond.holds .ne v28 then (bif if_icmp.holds .ne v28 (1 : Int32) then (bif if_icmp.holds .ne v28 (2 : Int32) then (bif if_icmp.holds .ne v28 (3 : Int32) then (bif if_icmp.holds .ne v28 (4 : Int32) then (bif if_icmp.holds .ne v28 (5 : Int32) then (bif if_icmp.holds .ne v28 (6 : Int32) then v149 else v138) else v120) else v103) else v89) else (4472406533629990549 : UInt64)) else v58) else (0 : UInt64)) = j152_9) :
    own_Go own_K1 method_3_code 0 #[.val (.int xp), .val (.ref ai), .val (.ref li), .val (.int (0 : Int32)), .unset, .unset, .unset, .unset, .unset, .unset, .unset] [] 152 #[.val (.int xp), .val (.ref ai), .val (.ref li), .val (.int (0 : Int32)), .val (.int v8), .val (.int v19), .val (.int v28), .val (.double (4472406533629990549 : UInt64)), .second, .val (.double j152_9), .second] [] := by
  subst hj152_9
  refine own_iloadN (pc2 := 1) d1_0 rfl rfl ?_
  refine own_sipush (v := 16383) (pc2 := 4) d1_1 rfl rfl ?_
  refine own_iand (pc2 := 5) d1_4 rfl (v := v4) hv4 ?_
  refine own_sipush (v := 8192) (pc2 := 8) d1_5 rfl rfl ?_
  refine own_isub (pc2 := 9) d1_8 rfl (v := v8) hv8 ?_
  refine own_istore (pc2 := 11) d1_9 rfl (L' := #[.val (.int xp), .val (.ref ai), .val (.ref li), .val (.int (0 : Int32)), .val (.int v8), .unset, .unset, .unset, .unset, .unset, .unset]) rfl ?_
  refine own_iloadN (pc2 := 12) d1_11 rfl rfl ?_
  refine own_bipush (v := 14) (pc2 := 14) d1_12 rfl rfl ?_
  refine own_iushr (pc2 := 15) d1_14 rfl (v := v14) hv14 ?_
  refine own_bipush (v := 7) (pc2 := 17) d1_15 rfl rfl ?_
  refine own_iand (pc2 := 18) d1_17 rfl (v := v17) hv17 ?_
  refine own_iconst (v := 4) (pc2 := 19) d1_18 rfl rfl ?_
  refine own_isub (pc2 := 20) d1_19 rfl (v := v19) hv19 ?_
  refine own_istore (pc2 := 22) d1_20 rfl (L' := #[.val (.int xp), .val (.ref ai), .val (.ref li), .val (.int (0 : Int32)), .val (.int v8), .val (.int v19), .unset, .unset, .unset, .unset, .unset]) rfl ?_
  refine own_iloadN (pc2 := 23) d1_22 rfl rfl ?_
  refine own_bipush (v := 17) (pc2 := 25) d1_23 rfl rfl ?_
  refine own_iushr (pc2 := 26) d1_25 rfl (v := v25) hv25 ?_
  refine own_bipush (v := 7) (pc2 := 28) d1_26 rfl rfl ?_
  refine own_iand (pc2 := 29) d1_28 rfl (v := v28) hv28 ?_
  refine own_istore (pc2 := 31) d1_29 rfl (L' := #[.val (.int xp), .val (.ref ai), .val (.ref li), .val (.int (0 : Int32)), .val (.int v8), .val (.int v19), .val (.int v28), .unset, .unset, .unset, .unset]) rfl ?_
  refine own_ldc2D (v := (4472406533629990549 : UInt64)) (pc2 := 34) d1_31 rfl (List.mem_of_getElem? (i := 0) rfl) ?_
  refine own_dstore (pc2 := 36) d1_34 rfl (L' := #[.val (.int xp), .val (.ref ai), .val (.ref li), .val (.int (0 : Int32)), .val (.int v8), .val (.int v19), .val (.int v28), .val (.double (4472406533629990549 : UInt64)), .second, .unset, .unset]) rfl ?_
  refine own_iload (pc2 := 38) d1_36 rfl rfl ?_
  cases hb38 : ifCond.holds .ne v28
  · refine own_ifNo (pc2 := 41) d1_38 rfl hb38 ?_
    refine own_dconst0 (v := 0) (pc2 := 42) d1_41 rfl rfl ?_
    refine own_dstore (pc2 := 44) d1_42 rfl (L' := #[.val (.int xp), .val (.ref ai), .val (.ref li), .val (.int (0 : Int32)), .val (.int v8), .val (.int v19), .val (.int v28), .val (.double (4472406533629990549 : UInt64)), .second, .val (.double (0 : UInt64)), .second]) rfl ?_
    refine own_goto (pc' := 152) d1_44 (by decide) (by decide) ?_
    exact own_refl
  · refine own_ifYes (pc' := 47) d1_38 hb38 (by decide) (by decide) ?_
    refine own_iload (pc2 := 49) d1_47 rfl rfl ?_
    refine own_iconst (v := 1) (pc2 := 50) d1_49 rfl rfl ?_
    cases hb50 : if_icmp.holds .ne v28 (1 : Int32)
    · refine own_icmpNo (pc2 := 53) d1_50 rfl hb50 ?_
      refine own_dload (pc2 := 55) d1_53 rfl rfl ?_
      refine own_ldc2D (v := (4611686018427387904 : UInt64)) (pc2 := 58) d1_55 rfl (List.mem_of_getElem? (i := 2) rfl) ?_
      refine own_ddiv (pc2 := 59) d1_58 rfl nn58 (v := v58) hv58 ?_
      refine own_dstore (pc2 := 61) d1_59 rfl (L' := #[.val (.int xp), .val (.ref ai), .val (.ref li), .val (.int (0 : Int32)), .val (.int v8), .val (.int v19), .val (.int v28), .val (.double (4472406533629990549 : UInt64)), .second, .val (.double v58), .second]) rfl ?_
      refine own_goto (pc' := 152) d1_61 (by decide) (by decide) ?_
      exact own_refl
    · refine own_icmpYes (pc' := 64) d1_50 hb50 (by decide) (by decide) ?_
      refine own_iload (pc2 := 66) d1_64 rfl rfl ?_
      refine own_iconst (v := 2) (pc2 := 67) d1_66 rfl rfl ?_
      cases hb67 : if_icmp.holds .ne v28 (2 : Int32)
      · refine own_icmpNo (pc2 := 70) d1_67 rfl hb67 ?_
        refine own_dload (pc2 := 72) d1_70 rfl rfl ?_
        refine own_dstore (pc2 := 74) d1_72 rfl (L' := #[.val (.int xp), .val (.ref ai), .val (.ref li), .val (.int (0 : Int32)), .val (.int v8), .val (.int v19), .val (.int v28), .val (.double (4472406533629990549 : UInt64)), .second, .val (.double (4472406533629990549 : UInt64)), .second]) rfl ?_
        refine own_goto (pc' := 152) d1_74 (by decide) (by decide) ?_
        exact own_refl
      · refine own_icmpYes (pc' := 77) d1_67 hb67 (by decide) (by decide) ?_
        refine own_iload (pc2 := 79) d1_77 rfl rfl ?_
        refine own_iconst (v := 3) (pc2 := 80) d1_79 rfl rfl ?_
        cases hb80 : if_icmp.holds .ne v28 (3 : Int32)
        · refine own_icmpNo (pc2 := 83) d1_80 rfl hb80 ?_
          refine own_dload (pc2 := 85) d1_83 rfl rfl ?_
          refine own_dneg (pc2 := 86) d1_85 rfl (v := v85) hv85 ?_
          refine own_ldc2D (v := (4611686018427387904 : UInt64)) (pc2 := 89) d1_86 rfl (List.mem_of_getElem? (i := 2) rfl) ?_
          refine own_ddiv (pc2 := 90) d1_89 rfl nn89 (v := v89) hv89 ?_
          refine own_dstore (pc2 := 92) d1_90 rfl (L' := #[.val (.int xp), .val (.ref ai), .val (.ref li), .val (.int (0 : Int32)), .val (.int v8), .val (.int v19), .val (.int v28), .val (.double (4472406533629990549 : UInt64)), .second, .val (.double v89), .second]) rfl ?_
          refine own_goto (pc' := 152) d1_92 (by decide) (by decide) ?_
          exact own_refl
        · refine own_icmpYes (pc' := 95) d1_80 hb80 (by decide) (by decide) ?_
          refine own_iload (pc2 := 97) d1_95 rfl rfl ?_
          refine own_iconst (v := 4) (pc2 := 98) d1_97 rfl rfl ?_
          cases hb98 : if_icmp.holds .ne v28 (4 : Int32)
          · refine own_icmpNo (pc2 := 101) d1_98 rfl hb98 ?_
            refine own_dload (pc2 := 103) d1_101 rfl rfl ?_
            refine own_dneg (pc2 := 104) d1_103 rfl (v := v103) hv103 ?_
            refine own_dstore (pc2 := 106) d1_104 rfl (L' := #[.val (.int xp), .val (.ref ai), .val (.ref li), .val (.int (0 : Int32)), .val (.int v8), .val (.int v19), .val (.int v28), .val (.double (4472406533629990549 : UInt64)), .second, .val (.double v103), .second]) rfl ?_
            refine own_goto (pc' := 152) d1_106 (by decide) (by decide) ?_
            exact own_refl
          · refine own_icmpYes (pc' := 109) d1_98 hb98 (by decide) (by decide) ?_
            refine own_iload (pc2 := 111) d1_109 rfl rfl ?_
            refine own_iconst (v := 5) (pc2 := 112) d1_111 rfl rfl ?_
            cases hb112 : if_icmp.holds .ne v28 (5 : Int32)
            · refine own_icmpNo (pc2 := 115) d1_112 rfl hb112 ?_
              refine own_ldc2D (v := (13835058055282163712 : UInt64)) (pc2 := 118) d1_115 rfl (List.mem_of_getElem? (i := 3) rfl) ?_
              refine own_dload (pc2 := 120) d1_118 rfl rfl ?_
              refine own_dmul (pc2 := 121) d1_120 rfl nn120 (v := v120) hv120 ?_
              refine own_dstore (pc2 := 123) d1_121 rfl (L' := #[.val (.int xp), .val (.ref ai), .val (.ref li), .val (.int (0 : Int32)), .val (.int v8), .val (.int v19), .val (.int v28), .val (.double (4472406533629990549 : UInt64)), .second, .val (.double v120), .second]) rfl ?_
              refine own_goto (pc' := 152) d1_123 (by decide) (by decide) ?_
              exact own_refl
            · refine own_icmpYes (pc' := 126) d1_112 hb112 (by decide) (by decide) ?_
              refine own_iload (pc2 := 128) d1_126 rfl rfl ?_
              refine own_bipush (v := 6) (pc2 := 130) d1_128 rfl rfl ?_
              cases hb130 : if_icmp.holds .ne v28 (6 : Int32)
              · refine own_icmpNo (pc2 := 133) d1_130 rfl hb130 ?_
                refine own_ldc2D (v := (4611686018427387904 : UInt64)) (pc2 := 136) d1_133 rfl (List.mem_of_getElem? (i := 2) rfl) ?_
                refine own_dload (pc2 := 138) d1_136 rfl rfl ?_
                refine own_dmul (pc2 := 139) d1_138 rfl nn138 (v := v138) hv138 ?_
                refine own_dstore (pc2 := 141) d1_139 rfl (L' := #[.val (.int xp), .val (.ref ai), .val (.ref li), .val (.int (0 : Int32)), .val (.int v8), .val (.int v19), .val (.int v28), .val (.double (4472406533629990549 : UInt64)), .second, .val (.double v138), .second]) rfl ?_
                refine own_goto (pc' := 152) d1_141 (by decide) (by decide) ?_
                exact own_refl
              · refine own_icmpYes (pc' := 144) d1_130 hb130 (by decide) (by decide) ?_
                refine own_ldc2D (v := (4613937818241073152 : UInt64)) (pc2 := 147) d1_144 rfl (List.mem_of_getElem? (i := 1) rfl) ?_
                refine own_dload (pc2 := 149) d1_147 rfl rfl ?_
                refine own_dmul (pc2 := 150) d1_149 rfl nn149 (v := v149) hv149 ?_
                refine own_dstore (pc2 := 152) d1_150 rfl (L' := #[.val (.int xp), .val (.ref ai), .val (.ref li), .val (.int (0 : Int32)), .val (.int v8), .val (.int v19), .val (.int v28), .val (.double (4472406533629990549 : UInt64)), .second, .val (.double v149), .second]) rfl ?_
                exact own_refl
theorem own_l0A_1 (xp : Int32) (ai : Addr) (li : Addr) (v8 : Int32) (v19 : Int32) (v28 : Int32) (j152_9 : UInt64) (v156 : UInt64) (hv156 : (FP.i2d v8) = v156) :
    own_Go own_K1 method_3_code 152 #[.val (.int xp), .val (.ref ai), .val (.ref li), .val (.int (0 : Int32)), .val (.int v8), .val (.int v19), .val (.int v28), .val (.double (4472406533629990549 : UInt64)), .second, .val (.double j152_9), .second] [] 157 #[.val (.int xp), .val (.ref ai), .val (.ref li), .val (.int (0 : Int32)), .val (.int v8), .val (.int v19), .val (.int v28), .val (.double (4472406533629990549 : UInt64)), .second, .val (.double j152_9), .second] [(.double v156), (.int (0 : Int32)), (.ref ai)] := by
  refine own_aloadN (pc2 := 153) d1_152 rfl rfl rfl ?_
  refine own_iloadN (pc2 := 154) d1_153 rfl rfl ?_
  refine own_iload (pc2 := 156) d1_154 rfl rfl ?_
  refine own_i2d (pc2 := 157) d1_156 rfl (v := v156) hv156 ?_
  exact own_refl
theorem own_l0A_2 (xp : Int32) (ai : Addr) (li : Addr) (v8 : Int32) (v19 : Int32) (v28 : Int32) (j152_9 : UInt64) (v164 : Int32) (hv164 : (v8 + v19) = v164) (v165 : UInt64) (hv165 : (FP.i2d v164) = v165) (v168 : UInt64) (hv168 : (FP.dadd v165 j152_9) = v168) (nn168 : NoNaN64 (FP.dadd v165 j152_9)) :
    own_Go own_K1 method_3_code 158 #[.val (.int xp), .val (.ref ai), .val (.ref li), .val (.int (0 : Int32)), .val (.int v8), .val (.int v19), .val (.int v28), .val (.double (4472406533629990549 : UInt64)), .second, .val (.double j152_9), .second] [] 169 #[.val (.int xp), .val (.ref ai), .val (.ref li), .val (.int (0 : Int32)), .val (.int v8), .val (.int v19), .val (.int v28), .val (.double (4472406533629990549 : UInt64)), .second, .val (.double j152_9), .second] [(.double v168), (.int (0 : Int32)), (.ref li)] := by
  refine own_aloadN (pc2 := 159) d1_158 rfl rfl rfl ?_
  refine own_iloadN (pc2 := 160) d1_159 rfl rfl ?_
  refine own_iload (pc2 := 162) d1_160 rfl rfl ?_
  refine own_iload (pc2 := 164) d1_162 rfl rfl ?_
  refine own_iadd (pc2 := 165) d1_164 rfl (v := v164) hv164 ?_
  refine own_i2d (pc2 := 166) d1_165 rfl (v := v165) hv165 ?_
  refine own_dload (pc2 := 168) d1_166 rfl rfl ?_
  refine own_dadd (pc2 := 169) d1_168 rfl nn168 (v := v168) hv168 ?_
  exact own_refl
theorem own_l0A_3 (xp : Int32) (ai : Addr) (li : Addr) (v8 : Int32) (v19 : Int32) (v28 : Int32) (j152_9 : UInt64) (hb172 : ifCond.holds .ge v19 = false) :
    own_Go own_K1 method_3_code 170 #[.val (.int xp), .val (.ref ai), .val (.ref li), .val (.int (0 : Int32)), .val (.int v8), .val (.int v19), .val (.int v28), .val (.double (4472406533629990549 : UInt64)), .second, .val (.double j152_9), .second] [] 176 #[.val (.int xp), .val (.ref ai), .val (.ref li), .val (.int (0 : Int32)), .val (.int v8), .val (.int v19), .val (.int v28), .val (.double (4472406533629990549 : UInt64)), .second, .val (.double j152_9), .second] [(.int (1 : Int32))] := by
  refine own_iload (pc2 := 172) d1_170 rfl rfl ?_
  refine own_ifNo (pc2 := 175) d1_172 rfl hb172 ?_
  refine own_iconst (v := 1) (pc2 := 176) d1_175 rfl rfl ?_
  exact own_refl
set_option maxRecDepth 65536 in
set_option maxHeartbeats 4000000 in
theorem own_fill0A (l : Launch) (Z : State) (a0 : Array Value) (hb0 : own_Base) (hw : ∀ d ∈ tables_1, d.before a0 Z = true) (xp : Int32) (ai : Addr) (li : Addr) (a0_ a1_ a2_ b0_ b1_ b2_ : UInt64) (hd : ((((xp.toUInt32 >>> ((14 : Int32) &&& 31).toUInt32).toInt32) &&& (7 : Int32)) - (4 : Int32)).toInt < 0) :
    own_Met l Z a0 hb0 (⟨"com/example/placewright/placewright/model/MachineTypeHolds334PinLaw", "fill", "(I[D[DI)Z"⟩ : MethodName) method_3_code 11 (some .boolean) [] ({ frames := 0, cells := 0, slots := 0, locals := 0 } : Room) #[(.int xp), (.ref ai), (.ref li), (.int (0 : Int32))] [(ai, own_A .double [.double a0_, .double a1_, .double a2_]), (li, own_A .double [.double b0_, .double b1_, .double b2_])] (fun r cs' => ∃ ca lo, NoNaN64 (FP.dadd ca (4472406533629990549 : UInt64)) ∧ ifCond.holds .gt (cmpValue (FP.dcmp lo (FP.dadd ca (4472406533629990549 : UInt64))) .g) = false ∧ r = some (.int 1) ∧ cs' = [(ai, own_A .double [.double ca, .double a1_, .double a2_]), (li, own_A .double [.double lo, .double b1_, .double b2_])]) := by
  refine own_met_of (L0 := #[.val (.int xp), .val (.ref ai), .val (.ref li), .val (.int (0 : Int32)), .unset, .unset, .unset, .unset, .unset, .unset, .unset]) (plainFor_of_name own_pn1) (fun m => own_ef1 m xp ai li (0 : Int32)) ?_
  intro p e s m below meth c T0 hx hZ hown hby hml hnm H0
  obtain ⟨v4, hv4⟩ : ∃ z : Int32, (xp &&& (16383 : Int32)) = z := ⟨_, rfl⟩
  obtain ⟨v8, hv8⟩ : ∃ z : Int32, (v4 - (8192 : Int32)) = z := ⟨_, rfl⟩
  obtain ⟨v14, hv14⟩ : ∃ z : Int32, ((xp.toUInt32 >>> ((14 : Int32) &&& 31).toUInt32).toInt32) = z := ⟨_, rfl⟩
  obtain ⟨v17, hv17⟩ : ∃ z : Int32, (v14 &&& (7 : Int32)) = z := ⟨_, rfl⟩
  obtain ⟨v19, hv19⟩ : ∃ z : Int32, (v17 - (4 : Int32)) = z := ⟨_, rfl⟩
  obtain ⟨v25, hv25⟩ : ∃ z : Int32, ((xp.toUInt32 >>> ((17 : Int32) &&& 31).toUInt32).toInt32) = z := ⟨_, rfl⟩
  obtain ⟨v28, hv28⟩ : ∃ z : Int32, (v25 &&& (7 : Int32)) = z := ⟨_, rfl⟩
  obtain ⟨v58, hv58⟩ : ∃ z : UInt64, (FP.ddiv (4472406533629990549 : UInt64) (4611686018427387904 : UInt64)) = z := ⟨_, rfl⟩
  obtain ⟨v85, hv85⟩ : ∃ z : UInt64, (FP.dneg (4472406533629990549 : UInt64)) = z := ⟨_, rfl⟩
  obtain ⟨v89, hv89⟩ : ∃ z : UInt64, (FP.ddiv v85 (4611686018427387904 : UInt64)) = z := ⟨_, rfl⟩
  obtain ⟨v103, hv103⟩ : ∃ z : UInt64, (FP.dneg (4472406533629990549 : UInt64)) = z := ⟨_, rfl⟩
  obtain ⟨v120, hv120⟩ : ∃ z : UInt64, (FP.dmul (13835058055282163712 : UInt64) (4472406533629990549 : UInt64)) = z := ⟨_, rfl⟩
  obtain ⟨v138, hv138⟩ : ∃ z : UInt64, (FP.dmul (4611686018427387904 : UInt64) (4472406533629990549 : UInt64)) = z := ⟨_, rfl⟩
  obtain ⟨v149, hv149⟩ : ∃ z : UInt64, (FP.dmul (4613937818241073152 : UInt64) (4472406533629990549 : UInt64)) = z := ⟨_, rfl⟩
  obtain ⟨j152_9, hj152_9⟩ : ∃ z : UInt64, (bif ifCond.holds .ne v28 then (bif if_icmp.holds .ne v28 (1 : Int32) then (bif if_icmp.holds .ne v28 (2 : Int32) then (bif if_icmp.holds .ne v28 (3 : Int32) then (bif if_icmp.holds .ne v28 (4 : Int32) then (bif if_icmp.holds .ne v28 (5 : Int32) then (bif if_icmp.holds .ne v28 (6 : Int32) then v149 else v138) else v120) else v103) else v89) else (4472406533629990549 : UInt64)) else v58) else (0 : UInt64)) = z := ⟨_, rfl⟩
  obtain ⟨v156, hv156⟩ : ∃ z : UInt64, (FP.i2d v8) = z := ⟨_, rfl⟩
  obtain ⟨Tl0A_1, Hl0A_1, stl0A_1⟩ := own_dastore H0 hx hZ 0 0 rfl (by decide) (Nat.le_of_ble_eq_true rfl) (g := (mkF m 157 #[.val (.int xp), .val (.ref ai), .val (.ref li), .val (.int (0 : Int32)), .val (.int v8), .val (.int v19), .val (.int v28), .val (.double (4472406533629990549 : UInt64)), .second, .val (.double j152_9), .second] [(.double v156), (.int (0 : Int32)), (.ref ai)])) rfl rfl (hb hby d1_157)
  change own_S _ _ _ _ _ _ _ _ _ _ _ _ _ _ [(ai, own_A .double [.double v156, .double a1_, .double a2_]), (li, own_A .double [.double b0_, .double b1_, .double b2_])] _ _ at Hl0A_1
  obtain ⟨v164, hv164⟩ : ∃ z : Int32, (v8 + v19) = z := ⟨_, rfl⟩
  obtain ⟨v165, hv165⟩ : ∃ z : UInt64, (FP.i2d v164) = z := ⟨_, rfl⟩
  obtain ⟨v168, hv168⟩ : ∃ z : UInt64, (FP.dadd v165 j152_9) = z := ⟨_, rfl⟩
  obtain ⟨Tl0A_2, Hl0A_2, stl0A_2⟩ := own_dastore Hl0A_1 hx hZ 1 0 rfl (by decide) (Nat.le_of_ble_eq_true rfl) (g := (mkF m 169 #[.val (.int xp), .val (.ref ai), .val (.ref li), .val (.int (0 : Int32)), .val (.int v8), .val (.int v19), .val (.int v28), .val (.double (4472406533629990549 : UInt64)), .second, .val (.double j152_9), .second] [(.double v168), (.int (0 : Int32)), (.ref li)])) rfl rfl (hb hby d1_169)
  change own_S _ _ _ _ _ _ _ _ _ _ _ _ _ _ [(ai, own_A .double [.double v156, .double a1_, .double a2_]), (li, own_A .double [.double v168, .double b1_, .double b2_])] _ _ at Hl0A_2
  have ec : v8.toInt = (xp.toInt % 16384) - 8192 := by
    have h1 := c_mask xp 16383 14 (by decide) (by decide)
    have h2 := c_isub v4 8192
    have := rng32 v8
    rw [hv4] at h1
    rw [hv8, show (8192 : Int32).toInt = 8192 from rfl] at h2
    omega
  have bd : v19.toInt ≤ 4 ∧ -4 ≤ v19.toInt := by
    have h1 := c_mask v14 7 3 (by decide) (by decide)
    have h2 := c_isub v17 4
    have := rng32 v19
    rw [hv17] at h1
    rw [hv19, show (4 : Int32).toInt = 4 from rfl] at h2
    omega
  have es : v164.toInt = v8.toInt + v19.toInt := by
    have h2 := c_iadd v8 v19
    have := rng32 v164
    rw [hv164] at h2
    omega
  have hd' := hd
  rw [hv14, hv17, hv19] at hd'
  have hk := own_m7 v25
  rw [hv28] at hk
  obtain ⟨o, io, o1, o2, oo⟩ := own_offs v28 hk
  have ej : own_off v28 = j152_9 := by rw [← hj152_9, ← hv149, ← hv138, ← hv120, ← hv103, ← hv89, ← hv85, ← hv58]; rfl
  rw [ej] at io
  have ic : own_is v156 ((v8.toInt : Int) : Rat) := by rw [← hv156]; exact own_isI _
  have is : own_is v165 ((v8.toInt + v19.toInt : Int) : Rat) := by rw [← hv165, ← es]; exact own_isI _
  have nn58 : NoNaN64 (FP.ddiv (4472406533629990549 : UInt64) (4611686018427387904 : UInt64)) := own_is_no own_o1
  have nn89 : NoNaN64 (FP.ddiv v85 (4611686018427387904 : UInt64)) := by rw [← hv85]; exact own_is_no own_o3
  have nn120 : NoNaN64 (FP.dmul (13835058055282163712 : UInt64) (4472406533629990549 : UInt64)) := own_is_no own_o5
  have nn138 : NoNaN64 (FP.dmul (4611686018427387904 : UInt64) (4472406533629990549 : UInt64)) := own_is_no own_o6
  have nn149 : NoNaN64 (FP.dmul (4613937818241073152 : UInt64) (4472406533629990549 : UInt64)) := by obtain ⟨_, h, -⟩ := own_o7; exact own_is_no h
  have nn168 : NoNaN64 (FP.dadd v165 j152_9) := own_rd_no (own_add is io)
  have hR := own_rA ic is io (by omega) bd o1 o2 hd'
  rw [hv168] at hR
  have nR : NoNaN64 (FP.dadd v156 (4472406533629990549 : UInt64)) := own_rd_no (own_add ic own_ist)
  have hb172 : ifCond.holds .ge v19 = false := by rw [own_z_ge]; exact decide_eq_false (by omega)
  refine ⟨_, _, _, _, 176, #[.val (.int xp), .val (.ref ai), .val (.ref li), .val (.int (0 : Int32)), .val (.int v8), .val (.int v19), .val (.int v28), .val (.double (4472406533629990549 : UInt64)), .second, .val (.double j152_9), .second], Hl0A_2, by decide, by decide, Or.inr ⟨.boolean, (.int (1 : Int32)), [], .ireturn, rfl, ⟨v156, v168, nR, hR, rfl, rfl⟩, d1_176, own_retZ (Or.inr rfl), fun target q => ?_⟩⟩
  refine own_go H0 hx hZ hown hby hw own_K1_ok (own_l0A_0 xp ai li v4 hv4 v8 hv8 v14 hv14 v17 hv17 v19 hv19 v25 hv25 v28 hv28 v58 hv58 nn58 v85 hv85 v89 hv89 nn89 v103 hv103 v120 hv120 nn120 v138 hv138 nn138 v149 hv149 nn149 j152_9 hj152_9) _ ?_
  refine own_go H0 hx hZ hown hby hw own_K1_ok (own_l0A_1 xp ai li v8 v19 v28 j152_9 v156 hv156) _ ?_
  refine stl0A_1 _ ?_
  refine own_go Hl0A_1 hx hZ hown hby hw own_K1_ok (own_l0A_2 xp ai li v8 v19 v28 j152_9 v164 hv164 v165 hv165 v168 hv168 nn168) _ ?_
  refine stl0A_2 _ ?_
  refine own_go Hl0A_2 hx hZ hown hby hw own_K1_ok (own_l0A_3 xp ai li v8 v19 v28 j152_9 hb172) _ ?_
  exact q
theorem own_l0B_0 (xp : Int32) (ai : Addr) (li : Addr) (v4 : Int32) (hv4 : (xp &&& (16383 : Int32)) = v4) (v8 : Int32) (hv8 : (v4 - (8192 : Int32)) = v8) (v14 : Int32) (hv14 : ((xp.toUInt32 >>> ((14 : Int32) &&& 31).toUInt32).toInt32) = v14) (v17 : Int32) (hv17 : (v14 &&& (7 : Int32)) = v17) (v19 : Int32) (hv19 : (v17 - (4 : Int32)) = v19) (v25 : Int32) (hv25 : ((xp.toUInt32 >>> ((17 : Int32) &&& 31).toUInt32).toInt32) = v25) (v28 : Int32) (hv28 : (v25 &&& (7 : Int32)) = v28) (v58 : UInt64) (hv58 : (FP.ddiv (4472406533629990549 : UInt64) (4611686018427387904 : UInt64)) = v58) (nn58 : NoNaN64 (FP.ddiv (4472406533629990549 : UInt64) (4611686018427387904 : UInt64))) (v85 : UInt64) (hv85 : (FP.dneg (4472406533629990549 : UInt64)) = v85) (v89 : UInt64) (hv89 : (FP.ddiv v85 (4611686018427387904 : UInt64)) = v89) (nn89 : NoNaN64 (FP.ddiv v85 (4611686018427387904 : UInt64))) (v103 : UInt64) (hv103 : (FP.dneg (4472406533629990549 : UInt64)) = v103) (v120 : UInt64) (hv120 : (FP.dmul (13835058055282163712 : UInt64) (4472406533629990549 : UInt64)) = v120) (nn120 : NoNaN64 (FP.dmul (13835058055282163712 : UInt64) (4472406533629990549 : UInt64))) (v138 : UInt64) (hv138 : (FP.dmul (4611686018427387904 : UInt64) (4472406533629990549 : UInt64)) = v138) (nn138 : NoNaN64 (FP.dmul (4611686018427387904 : UInt64) (4472406533629990549 : UInt64))) (v149 : UInt64) (hv149 : (FP.dmul (4613937818241073152 : UInt64) (4472406533629990549 : UInt64)) = v149) (nn149 : NoNaN64 (FP.dmul (4613937818241073152 : UInt64) (4472406533629990549 : UInt64))) (j152_9 : UInt64) (hj152_9 : (bif ifCond.holds .ne v28 then (bif if_icmp.holds .ne v28 (1 : Int32) then (bif if_icmp.holds .ne v28 (2 : Int32) then (bif if_icmp.holds .ne v28 (3 : Int32) then (bif if_icmp.holds .ne v28 (4 : Int32) then (bif if_icmp.holds .ne v28 (5 : Int32) then (bif if_icmp.holds .ne v28 (6 : Int32) then v149 else v138) else v120) else v103) else v89) else (4472406533629990549 : UInt64)) else v58) else (0 : UInt64)) = j152_9) :
    own_Go own_K1 method_3_code 0 #[.val (.int xp), .val (.ref ai), .val (.ref li), .val (.int (0 : Int32)), .unset, .unset, .unset, .unset, .unset, .unset, .unset] [] 152 #[.val (.int xp), .val (.ref ai), .val (.ref li), .val (.int (0 : Int32)), .val (.int v8), .val (.int v19), .val (.int v28), .val (.double (4472406533629990549 : UInt64)), .second, .val (.double j152_9), .second] [] := by
  subst hj152_9
  refine own_iloadN (pc2 := 1) d1_0 rfl rfl ?_
  refine own_sipush (v := 16383) (pc2 := 4) d1_1 rfl rfl ?_
  refine own_iand (pc2 := 5) d1_4 rfl (v := v4) hv4 ?_
  refine own_sipush (v := 8192) (pc2 := 8) d1_5 rfl rfl ?_
  refine own_isub (pc2 := 9) d1_8 rfl (v := v8) hv8 ?_
  refine own_istore (pc2 := 11) d1_9 rfl (L' := #[.val (.int xp), .val (.ref ai), .val (.ref li), .val (.int (0 : Int32)), .val (.int v8), .unset, .unset, .unset, .unset, .unset, .unset]) rfl ?_
  refine own_iloadN (pc2 := 12) d1_11 rfl rfl ?_
  refine own_bipush (v := 14) (pc2 := 14) d1_12 rfl rfl ?_
  refine own_iushr (pc2 := 15) d1_14 rfl (v := v14) hv14 ?_
  refine own_bipush (v := 7) (pc2 := 17) d1_15 rfl rfl ?_
  refine own_iand (pc2 := 18) d1_17 rfl (v := v17) hv17 ?_
  refine own_iconst (v := 4) (pc2 := 19) d1_18 rfl rfl ?_
  refine own_isub (pc2 := 20) d1_19 rfl (v := v19) hv19 ?_
  refine own_istore (pc2 := 22) d1_20 rfl (L' := #[.val (.int xp), .val (.ref ai), .val (.ref li), .val (.int (0 : Int32)), .val (.int v8), .val (.int v19), .unset, .unset, .unset, .unset, .unset]) rfl ?_
  refine own_iloadN (pc2 := 23) d1_22 rfl rfl ?_
  refine own_bipush (v := 17) (pc2 := 25) d1_23 rfl rfl ?_
  refine own_iushr (pc2 := 26) d1_25 rfl (v := v25) hv25 ?_
  refine own_bipush (v := 7) (pc2 := 28) d1_26 rfl rfl ?_
  refine own_iand (pc2 := 29) d1_28 rfl (v := v28) hv28 ?_
  refine own_istore (pc2 := 31) d1_29 rfl (L' := #[.val (.int xp), .val (.ref ai), .val (.ref li), .val (.int (0 : Int32)), .val (.int v8), .val (.int v19), .val (.int v28), .unset, .unset, .unset, .unset]) rfl ?_
  refine own_ldc2D (v := (4472406533629990549 : UInt64)) (pc2 := 34) d1_31 rfl (List.mem_of_getElem? (i := 0) rfl) ?_
  refine own_dstore (pc2 := 36) d1_34 rfl (L' := #[.val (.int xp), .val (.ref ai), .val (.ref li), .val (.int (0 : Int32)), .val (.int v8), .val (.int v19), .val (.int v28), .val (.double (4472406533629990549 : UInt64)), .second, .unset, .unset]) rfl ?_
  refine own_iload (pc2 := 38) d1_36 rfl rfl ?_
  cases hb38 : ifCond.holds .ne v28
  · refine own_ifNo (pc2 := 41) d1_38 rfl hb38 ?_
    refine own_dconst0 (v := 0) (pc2 := 42) d1_41 rfl rfl ?_
    refine own_dstore (pc2 := 44) d1_42 rfl (L' := #[.val (.int xp), .val (.ref ai), .val (.ref li), .val (.int (0 : Int32)), .val (.int v8), .val (.int v19), .val (.int v28), .val (.double (4472406533629990549 : UInt64)), .second, .val (.double (0 : UInt64)), .second]) rfl ?_
    refine own_goto (pc' := 152) d1_44 (by decide) (by decide) ?_
    exact own_refl
  · refine own_ifYes (pc' := 47) d1_38 hb38 (by decide) (by decide) ?_
    refine own_iload (pc2 := 49) d1_47 rfl rfl ?_
    refine own_iconst (v := 1) (pc2 := 50) d1_49 rfl rfl ?_
    cases hb50 : if_icmp.holds .ne v28 (1 : Int32)
    · refine own_icmpNo (pc2 := 53) d1_50 rfl hb50 ?_
      refine own_dload (pc2 := 55) d1_53 rfl rfl ?_
      refine own_ldc2D (v := (4611686018427387904 : UInt64)) (pc2 := 58) d1_55 rfl (List.mem_of_getElem? (i := 2) rfl) ?_
      refine own_ddiv (pc2 := 59) d1_58 rfl nn58 (v := v58) hv58 ?_
      refine own_dstore (pc2 := 61) d1_59 rfl (L' := #[.val (.int xp), .val (.ref ai), .val (.ref li), .val (.int (0 : Int32)), .val (.int v8), .val (.int v19), .val (.int v28), .val (.double (4472406533629990549 : UInt64)), .second, .val (.double v58), .second]) rfl ?_
      refine own_goto (pc' := 152) d1_61 (by decide) (by decide) ?_
      exact own_refl
    · refine own_icmpYes (pc' := 64) d1_50 hb50 (by decide) (by decide) ?_
      refine own_iload (pc2 := 66) d1_64 rfl rfl ?_
      refine own_iconst (v := 2) (pc2 := 67) d1_66 rfl rfl ?_
      cases hb67 : if_icmp.holds .ne v28 (2 : Int32)
      · refine own_icmpNo (pc2 := 70) d1_67 rfl hb67 ?_
        refine own_dload (pc2 := 72) d1_70 rfl rfl ?_
        refine own_dstore (pc2 := 74) d1_72 rfl (L' := #[.val (.int xp), .val (.ref ai), .val (.ref li), .val (.int (0 : Int32)), .val (.int v8), .val (.int v19), .val (.int v28), .val (.double (4472406533629990549 : UInt64)), .second, .val (.double (4472406533629990549 : UInt64)), .second]) rfl ?_
        refine own_goto (pc' := 152) d1_74 (by decide) (by decide) ?_
        exact own_refl
      · refine own_icmpYes (pc' := 77) d1_67 hb67 (by decide) (by decide) ?_
        refine own_iload (pc2 := 79) d1_77 rfl rfl ?_
        refine own_iconst (v := 3) (pc2 := 80) d1_79 rfl rfl ?_
        cases hb80 : if_icmp.holds .ne v28 (3 : Int32)
        · refine own_icmpNo (pc2 := 83) d1_80 rfl hb80 ?_
          refine own_dload (pc2 := 85) d1_83 rfl rfl ?_
          refine own_dneg (pc2 := 86) d1_85 rfl (v := v85) hv85 ?_
          refine own_ldc2D (v := (4611686018427387904 : UInt64)) (pc2 := 89) d1_86 rfl (List.mem_of_getElem? (i := 2) rfl) ?_
          refine own_ddiv (pc2 := 90) d1_89 rfl nn89 (v := v89) hv89 ?_
          refine own_dstore (pc2 := 92) d1_90 rfl (L' := #[.val (.int xp), .val (.ref ai), .val (.ref li), .val (.int (0 : Int32)), .val (.int v8), .val (.int v19), .val (.int v28), .val (.double (4472406533629990549 : UInt64)), .second, .val (.double v89), .second]) rfl ?_
          refine own_goto (pc' := 152) d1_92 (by decide) (by decide) ?_
          exact own_refl
        · refine own_icmpYes (pc' := 95) d1_80 hb80 (by decide) (by decide) ?_
          refine own_iload (pc2 := 97) d1_95 rfl rfl ?_
          refine own_iconst (v := 4) (pc2 := 98) d1_97 rfl rfl ?_
          cases hb98 : if_icmp.holds .ne v28 (4 : Int32)
          · refine own_icmpNo (pc2 := 101) d1_98 rfl hb98 ?_
            refine own_dload (pc2 := 103) d1_101 rfl rfl ?_
            refine own_dneg (pc2 := 104) d1_103 rfl (v := v103) hv103 ?_
            refine own_dstore (pc2 := 106) d1_104 rfl (L' := #[.val (.int xp), .val (.ref ai), .val (.ref li), .val (.int (0 : Int32)), .val (.int v8), .val (.int v19), .val (.int v28), .val (.double (4472406533629990549 : UInt64)), .second, .val (.double v103), .second]) rfl ?_
            refine own_goto (pc' := 152) d1_106 (by decide) (by decide) ?_
            exact own_refl
          · refine own_icmpYes (pc' := 109) d1_98 hb98 (by decide) (by decide) ?_
            refine own_iload (pc2 := 111) d1_109 rfl rfl ?_
            refine own_iconst (v := 5) (pc2 := 112) d1_111 rfl rfl ?_
            cases hb112 : if_icmp.holds .ne v28 (5 : Int32)
            · refine own_icmpNo (pc2 := 115) d1_112 rfl hb112 ?_
              refine own_ldc2D (v := (13835058055282163712 : UInt64)) (pc2 := 118) d1_115 rfl (List.mem_of_getElem? (i := 3) rfl) ?_
              refine own_dload (pc2 := 120) d1_118 rfl rfl ?_
              refine own_dmul (pc2 := 121) d1_120 rfl nn120 (v := v120) hv120 ?_
              refine own_dstore (pc2 := 123) d1_121 rfl (L' := #[.val (.int xp), .val (.ref ai), .val (.ref li), .val (.int (0 : Int32)), .val (.int v8), .val (.int v19), .val (.int v28), .val (.double (4472406533629990549 : UInt64)), .second, .val (.double v120), .second]) rfl ?_
              refine own_goto (pc' := 152) d1_123 (by decide) (by decide) ?_
              exact own_refl
            · refine own_icmpYes (pc' := 126) d1_112 hb112 (by decide) (by decide) ?_
              refine own_iload (pc2 := 128) d1_126 rfl rfl ?_
              refine own_bipush (v := 6) (pc2 := 130) d1_128 rfl rfl ?_
              cases hb130 : if_icmp.holds .ne v28 (6 : Int32)
              · refine own_icmpNo (pc2 := 133) d1_130 rfl hb130 ?_
                refine own_ldc2D (v := (4611686018427387904 : UInt64)) (pc2 := 136) d1_133 rfl (List.mem_of_getElem? (i := 2) rfl) ?_
                refine own_dload (pc2 := 138) d1_136 rfl rfl ?_
                refine own_dmul (pc2 := 139) d1_138 rfl nn138 (v := v138) hv138 ?_
                refine own_dstore (pc2 := 141) d1_139 rfl (L' := #[.val (.int xp), .val (.ref ai), .val (.ref li), .val (.int (0 : Int32)), .val (.int v8), .val (.int v19), .val (.int v28), .val (.double (4472406533629990549 : UInt64)), .second, .val (.double v138), .second]) rfl ?_
                refine own_goto (pc' := 152) d1_141 (by decide) (by decide) ?_
                exact own_refl
              · refine own_icmpYes (pc' := 144) d1_130 hb130 (by decide) (by decide) ?_
                refine own_ldc2D (v := (4613937818241073152 : UInt64)) (pc2 := 147) d1_144 rfl (List.mem_of_getElem? (i := 1) rfl) ?_
                refine own_dload (pc2 := 149) d1_147 rfl rfl ?_
                refine own_dmul (pc2 := 150) d1_149 rfl nn149 (v := v149) hv149 ?_
                refine own_dstore (pc2 := 152) d1_150 rfl (L' := #[.val (.int xp), .val (.ref ai), .val (.ref li), .val (.int (0 : Int32)), .val (.int v8), .val (.int v19), .val (.int v28), .val (.double (4472406533629990549 : UInt64)), .second, .val (.double v149), .second]) rfl ?_
                exact own_refl
theorem own_l0B_1 (xp : Int32) (ai : Addr) (li : Addr) (v8 : Int32) (v19 : Int32) (v28 : Int32) (j152_9 : UInt64) (v156 : UInt64) (hv156 : (FP.i2d v8) = v156) :
    own_Go own_K1 method_3_code 152 #[.val (.int xp), .val (.ref ai), .val (.ref li), .val (.int (0 : Int32)), .val (.int v8), .val (.int v19), .val (.int v28), .val (.double (4472406533629990549 : UInt64)), .second, .val (.double j152_9), .second] [] 157 #[.val (.int xp), .val (.ref ai), .val (.ref li), .val (.int (0 : Int32)), .val (.int v8), .val (.int v19), .val (.int v28), .val (.double (4472406533629990549 : UInt64)), .second, .val (.double j152_9), .second] [(.double v156), (.int (0 : Int32)), (.ref ai)] := by
  refine own_aloadN (pc2 := 153) d1_152 rfl rfl rfl ?_
  refine own_iloadN (pc2 := 154) d1_153 rfl rfl ?_
  refine own_iload (pc2 := 156) d1_154 rfl rfl ?_
  refine own_i2d (pc2 := 157) d1_156 rfl (v := v156) hv156 ?_
  exact own_refl
theorem own_l0B_2 (xp : Int32) (ai : Addr) (li : Addr) (v8 : Int32) (v19 : Int32) (v28 : Int32) (j152_9 : UInt64) (v164 : Int32) (hv164 : (v8 + v19) = v164) (v165 : UInt64) (hv165 : (FP.i2d v164) = v165) (v168 : UInt64) (hv168 : (FP.dadd v165 j152_9) = v168) (nn168 : NoNaN64 (FP.dadd v165 j152_9)) :
    own_Go own_K1 method_3_code 158 #[.val (.int xp), .val (.ref ai), .val (.ref li), .val (.int (0 : Int32)), .val (.int v8), .val (.int v19), .val (.int v28), .val (.double (4472406533629990549 : UInt64)), .second, .val (.double j152_9), .second] [] 169 #[.val (.int xp), .val (.ref ai), .val (.ref li), .val (.int (0 : Int32)), .val (.int v8), .val (.int v19), .val (.int v28), .val (.double (4472406533629990549 : UInt64)), .second, .val (.double j152_9), .second] [(.double v168), (.int (0 : Int32)), (.ref li)] := by
  refine own_aloadN (pc2 := 159) d1_158 rfl rfl rfl ?_
  refine own_iloadN (pc2 := 160) d1_159 rfl rfl ?_
  refine own_iload (pc2 := 162) d1_160 rfl rfl ?_
  refine own_iload (pc2 := 164) d1_162 rfl rfl ?_
  refine own_iadd (pc2 := 165) d1_164 rfl (v := v164) hv164 ?_
  refine own_i2d (pc2 := 166) d1_165 rfl (v := v165) hv165 ?_
  refine own_dload (pc2 := 168) d1_166 rfl rfl ?_
  refine own_dadd (pc2 := 169) d1_168 rfl nn168 (v := v168) hv168 ?_
  exact own_refl
theorem own_l0B_3 (xp : Int32) (ai : Addr) (li : Addr) (v8 : Int32) (v19 : Int32) (v28 : Int32) (j152_9 : UInt64) (hb172 : ifCond.holds .ge v19 = true) (hb179 : ifCond.holds .le v19 = false) :
    own_Go own_K1 method_3_code 170 #[.val (.int xp), .val (.ref ai), .val (.ref li), .val (.int (0 : Int32)), .val (.int v8), .val (.int v19), .val (.int v28), .val (.double (4472406533629990549 : UInt64)), .second, .val (.double j152_9), .second] [] 183 #[.val (.int xp), .val (.ref ai), .val (.ref li), .val (.int (0 : Int32)), .val (.int v8), .val (.int v19), .val (.int v28), .val (.double (4472406533629990549 : UInt64)), .second, .val (.double j152_9), .second] [(.int (0 : Int32))] := by
  refine own_iload (pc2 := 172) d1_170 rfl rfl ?_
  refine own_ifYes (pc' := 177) d1_172 hb172 (by decide) (by decide) ?_
  refine own_iload (pc2 := 179) d1_177 rfl rfl ?_
  refine own_ifNo (pc2 := 182) d1_179 rfl hb179 ?_
  refine own_iconst (v := 0) (pc2 := 183) d1_182 rfl rfl ?_
  exact own_refl
set_option maxRecDepth 65536 in
set_option maxHeartbeats 4000000 in
theorem own_fill0B (l : Launch) (Z : State) (a0 : Array Value) (hb0 : own_Base) (hw : ∀ d ∈ tables_1, d.before a0 Z = true) (xp : Int32) (ai : Addr) (li : Addr) (a0_ a1_ a2_ b0_ b1_ b2_ : UInt64) (hd : 0 < ((((xp.toUInt32 >>> ((14 : Int32) &&& 31).toUInt32).toInt32) &&& (7 : Int32)) - (4 : Int32)).toInt) :
    own_Met l Z a0 hb0 (⟨"com/example/placewright/placewright/model/MachineTypeHolds334PinLaw", "fill", "(I[D[DI)Z"⟩ : MethodName) method_3_code 11 (some .boolean) [] ({ frames := 0, cells := 0, slots := 0, locals := 0 } : Room) #[(.int xp), (.ref ai), (.ref li), (.int (0 : Int32))] [(ai, own_A .double [.double a0_, .double a1_, .double a2_]), (li, own_A .double [.double b0_, .double b1_, .double b2_])] (fun r cs' => ∃ ca lo, NoNaN64 (FP.dadd ca (4472406533629990549 : UInt64)) ∧ ifCond.holds .gt (cmpValue (FP.dcmp lo (FP.dadd ca (4472406533629990549 : UInt64))) .g) = true ∧ r = some (.int 0) ∧ cs' = [(ai, own_A .double [.double ca, .double a1_, .double a2_]), (li, own_A .double [.double lo, .double b1_, .double b2_])]) := by
  refine own_met_of (L0 := #[.val (.int xp), .val (.ref ai), .val (.ref li), .val (.int (0 : Int32)), .unset, .unset, .unset, .unset, .unset, .unset, .unset]) (plainFor_of_name own_pn1) (fun m => own_ef1 m xp ai li (0 : Int32)) ?_
  intro p e s m below meth c T0 hx hZ hown hby hml hnm H0
  obtain ⟨v4, hv4⟩ : ∃ z : Int32, (xp &&& (16383 : Int32)) = z := ⟨_, rfl⟩
  obtain ⟨v8, hv8⟩ : ∃ z : Int32, (v4 - (8192 : Int32)) = z := ⟨_, rfl⟩
  obtain ⟨v14, hv14⟩ : ∃ z : Int32, ((xp.toUInt32 >>> ((14 : Int32) &&& 31).toUInt32).toInt32) = z := ⟨_, rfl⟩
  obtain ⟨v17, hv17⟩ : ∃ z : Int32, (v14 &&& (7 : Int32)) = z := ⟨_, rfl⟩
  obtain ⟨v19, hv19⟩ : ∃ z : Int32, (v17 - (4 : Int32)) = z := ⟨_, rfl⟩
  obtain ⟨v25, hv25⟩ : ∃ z : Int32, ((xp.toUInt32 >>> ((17 : Int32) &&& 31).toUInt32).toInt32) = z := ⟨_, rfl⟩
  obtain ⟨v28, hv28⟩ : ∃ z : Int32, (v25 &&& (7 : Int32)) = z := ⟨_, rfl⟩
  obtain ⟨v58, hv58⟩ : ∃ z : UInt64, (FP.ddiv (4472406533629990549 : UInt64) (4611686018427387904 : UInt64)) = z := ⟨_, rfl⟩
  obtain ⟨v85, hv85⟩ : ∃ z : UInt64, (FP.dneg (4472406533629990549 : UInt64)) = z := ⟨_, rfl⟩
  obtain ⟨v89, hv89⟩ : ∃ z : UInt64, (FP.ddiv v85 (4611686018427387904 : UInt64)) = z := ⟨_, rfl⟩
  obtain ⟨v103, hv103⟩ : ∃ z : UInt64, (FP.dneg (4472406533629990549 : UInt64)) = z := ⟨_, rfl⟩
  obtain ⟨v120, hv120⟩ : ∃ z : UInt64, (FP.dmul (13835058055282163712 : UInt64) (4472406533629990549 : UInt64)) = z := ⟨_, rfl⟩
  obtain ⟨v138, hv138⟩ : ∃ z : UInt64, (FP.dmul (4611686018427387904 : UInt64) (4472406533629990549 : UInt64)) = z := ⟨_, rfl⟩
  obtain ⟨v149, hv149⟩ : ∃ z : UInt64, (FP.dmul (4613937818241073152 : UInt64) (4472406533629990549 : UInt64)) = z := ⟨_, rfl⟩
  obtain ⟨j152_9, hj152_9⟩ : ∃ z : UInt64, (bif ifCond.holds .ne v28 then (bif if_icmp.holds .ne v28 (1 : Int32) then (bif if_icmp.holds .ne v28 (2 : Int32) then (bif if_icmp.holds .ne v28 (3 : Int32) then (bif if_icmp.holds .ne v28 (4 : Int32) then (bif if_icmp.holds .ne v28 (5 : Int32) then (bif if_icmp.holds .ne v28 (6 : Int32) then v149 else v138) else v120) else v103) else v89) else (4472406533629990549 : UInt64)) else v58) else (0 : UInt64)) = z := ⟨_, rfl⟩
  obtain ⟨v156, hv156⟩ : ∃ z : UInt64, (FP.i2d v8) = z := ⟨_, rfl⟩
  obtain ⟨Tl0B_1, Hl0B_1, stl0B_1⟩ := own_dastore H0 hx hZ 0 0 rfl (by decide) (Nat.le_of_ble_eq_true rfl) (g := (mkF m 157 #[.val (.int xp), .val (.ref ai), .val (.ref li), .val (.int (0 : Int32)), .val (.int v8), .val (.int v19), .val (.int v28), .val (.double (4472406533629990549 : UInt64)), .second, .val (.double j152_9), .second] [(.double v156), (.int (0 : Int32)), (.ref ai)])) rfl rfl (hb hby d1_157)
  change own_S _ _ _ _ _ _ _ _ _ _ _ _ _ _ [(ai, own_A .double [.double v156, .double a1_, .double a2_]), (li, own_A .double [.double b0_, .double b1_, .double b2_])] _ _ at Hl0B_1
  obtain ⟨v164, hv164⟩ : ∃ z : Int32, (v8 + v19) = z := ⟨_, rfl⟩
  obtain ⟨v165, hv165⟩ : ∃ z : UInt64, (FP.i2d v164) = z := ⟨_, rfl⟩
  obtain ⟨v168, hv168⟩ : ∃ z : UInt64, (FP.dadd v165 j152_9) = z := ⟨_, rfl⟩
  obtain ⟨Tl0B_2, Hl0B_2, stl0B_2⟩ := own_dastore Hl0B_1 hx hZ 1 0 rfl (by decide) (Nat.le_of_ble_eq_true rfl) (g := (mkF m 169 #[.val (.int xp), .val (.ref ai), .val (.ref li), .val (.int (0 : Int32)), .val (.int v8), .val (.int v19), .val (.int v28), .val (.double (4472406533629990549 : UInt64)), .second, .val (.double j152_9), .second] [(.double v168), (.int (0 : Int32)), (.ref li)])) rfl rfl (hb hby d1_169)
  change own_S _ _ _ _ _ _ _ _ _ _ _ _ _ _ [(ai, own_A .double [.double v156, .double a1_, .double a2_]), (li, own_A .double [.double v168, .double b1_, .double b2_])] _ _ at Hl0B_2
  have ec : v8.toInt = (xp.toInt % 16384) - 8192 := by
    have h1 := c_mask xp 16383 14 (by decide) (by decide)
    have h2 := c_isub v4 8192
    have := rng32 v8
    rw [hv4] at h1
    rw [hv8, show (8192 : Int32).toInt = 8192 from rfl] at h2
    omega
  have bd : v19.toInt ≤ 4 ∧ -4 ≤ v19.toInt := by
    have h1 := c_mask v14 7 3 (by decide) (by decide)
    have h2 := c_isub v17 4
    have := rng32 v19
    rw [hv17] at h1
    rw [hv19, show (4 : Int32).toInt = 4 from rfl] at h2
    omega
  have es : v164.toInt = v8.toInt + v19.toInt := by
    have h2 := c_iadd v8 v19
    have := rng32 v164
    rw [hv164] at h2
    omega
  have hd' := hd
  rw [hv14, hv17, hv19] at hd'
  have hk := own_m7 v25
  rw [hv28] at hk
  obtain ⟨o, io, o1, o2, oo⟩ := own_offs v28 hk
  have ej : own_off v28 = j152_9 := by rw [← hj152_9, ← hv149, ← hv138, ← hv120, ← hv103, ← hv89, ← hv85, ← hv58]; rfl
  rw [ej] at io
  have ic : own_is v156 ((v8.toInt : Int) : Rat) := by rw [← hv156]; exact own_isI _
  have is : own_is v165 ((v8.toInt + v19.toInt : Int) : Rat) := by rw [← hv165, ← es]; exact own_isI _
  have nn58 : NoNaN64 (FP.ddiv (4472406533629990549 : UInt64) (4611686018427387904 : UInt64)) := own_is_no own_o1
  have nn89 : NoNaN64 (FP.ddiv v85 (4611686018427387904 : UInt64)) := by rw [← hv85]; exact own_is_no own_o3
  have nn120 : NoNaN64 (FP.dmul (13835058055282163712 : UInt64) (4472406533629990549 : UInt64)) := own_is_no own_o5
  have nn138 : NoNaN64 (FP.dmul (4611686018427387904 : UInt64) (4472406533629990549 : UInt64)) := own_is_no own_o6
  have nn149 : NoNaN64 (FP.dmul (4613937818241073152 : UInt64) (4472406533629990549 : UInt64)) := by obtain ⟨_, h, -⟩ := own_o7; exact own_is_no h
  have nn168 : NoNaN64 (FP.dadd v165 j152_9) := own_rd_no (own_add is io)
  have hR := own_rB ic is io (by omega) bd o1 o2 hd'
  rw [hv168] at hR
  have nR : NoNaN64 (FP.dadd v156 (4472406533629990549 : UInt64)) := own_rd_no (own_add ic own_ist)
  have hb172 : ifCond.holds .ge v19 = true := by rw [own_z_ge]; exact decide_eq_true (by omega)
  have hb179 : ifCond.holds .le v19 = false := by rw [own_z_le]; exact decide_eq_false (by omega)
  refine ⟨_, _, _, _, 183, #[.val (.int xp), .val (.ref ai), .val (.ref li), .val (.int (0 : Int32)), .val (.int v8), .val (.int v19), .val (.int v28), .val (.double (4472406533629990549 : UInt64)), .second, .val (.double j152_9), .second], Hl0B_2, by decide, by decide, Or.inr ⟨.boolean, (.int (0 : Int32)), [], .ireturn, rfl, ⟨v156, v168, nR, hR, rfl, rfl⟩, d1_183, own_retZ (Or.inl rfl), fun target q => ?_⟩⟩
  refine own_go H0 hx hZ hown hby hw own_K1_ok (own_l0B_0 xp ai li v4 hv4 v8 hv8 v14 hv14 v17 hv17 v19 hv19 v25 hv25 v28 hv28 v58 hv58 nn58 v85 hv85 v89 hv89 nn89 v103 hv103 v120 hv120 nn120 v138 hv138 nn138 v149 hv149 nn149 j152_9 hj152_9) _ ?_
  refine own_go H0 hx hZ hown hby hw own_K1_ok (own_l0B_1 xp ai li v8 v19 v28 j152_9 v156 hv156) _ ?_
  refine stl0B_1 _ ?_
  refine own_go Hl0B_1 hx hZ hown hby hw own_K1_ok (own_l0B_2 xp ai li v8 v19 v28 j152_9 v164 hv164 v165 hv165 v168 hv168 nn168) _ ?_
  refine stl0B_2 _ ?_
  refine own_go Hl0B_2 hx hZ hown hby hw own_K1_ok (own_l0B_3 xp ai li v8 v19 v28 j152_9 hb172 hb179) _ ?_
  exact q
theorem own_l0C_0 (xp : Int32) (ai : Addr) (li : Addr) (v4 : Int32) (hv4 : (xp &&& (16383 : Int32)) = v4) (v8 : Int32) (hv8 : (v4 - (8192 : Int32)) = v8) (v14 : Int32) (hv14 : ((xp.toUInt32 >>> ((14 : Int32) &&& 31).toUInt32).toInt32) = v14) (v17 : Int32) (hv17 : (v14 &&& (7 : Int32)) = v17) (v19 : Int32) (hv19 : (v17 - (4 : Int32)) = v19) (v25 : Int32) (hv25 : ((xp.toUInt32 >>> ((17 : Int32) &&& 31).toUInt32).toInt32) = v25) (v28 : Int32) (hv28 : (v25 &&& (7 : Int32)) = v28) (v58 : UInt64) (hv58 : (FP.ddiv (4472406533629990549 : UInt64) (4611686018427387904 : UInt64)) = v58) (nn58 : NoNaN64 (FP.ddiv (4472406533629990549 : UInt64) (4611686018427387904 : UInt64))) (v85 : UInt64) (hv85 : (FP.dneg (4472406533629990549 : UInt64)) = v85) (v89 : UInt64) (hv89 : (FP.ddiv v85 (4611686018427387904 : UInt64)) = v89) (nn89 : NoNaN64 (FP.ddiv v85 (4611686018427387904 : UInt64))) (v103 : UInt64) (hv103 : (FP.dneg (4472406533629990549 : UInt64)) = v103) (v120 : UInt64) (hv120 : (FP.dmul (13835058055282163712 : UInt64) (4472406533629990549 : UInt64)) = v120) (nn120 : NoNaN64 (FP.dmul (13835058055282163712 : UInt64) (4472406533629990549 : UInt64))) (v138 : UInt64) (hv138 : (FP.dmul (4611686018427387904 : UInt64) (4472406533629990549 : UInt64)) = v138) (nn138 : NoNaN64 (FP.dmul (4611686018427387904 : UInt64) (4472406533629990549 : UInt64))) (v149 : UInt64) (hv149 : (FP.dmul (4613937818241073152 : UInt64) (4472406533629990549 : UInt64)) = v149) (nn149 : NoNaN64 (FP.dmul (4613937818241073152 : UInt64) (4472406533629990549 : UInt64))) (j152_9 : UInt64) (hj152_9 : (bif ifCond.holds .ne v28 then (bif if_icmp.holds .ne v28 (1 : Int32) then (bif if_icmp.holds .ne v28 (2 : Int32) then (bif if_icmp.holds .ne v28 (3 : Int32) then (bif if_icmp.holds .ne v28 (4 : Int32) then (bif if_icmp.holds .ne v28 (5 : Int32) then (bif if_icmp.holds .ne v28 (6 : Int32) then v149 else v138) else v120) else v103) else v89) else (4472406533629990549 : UInt64)) else v58) else (0 : UInt64)) = j152_9) :
    own_Go own_K1 method_3_code 0 #[.val (.int xp), .val (.ref ai), .val (.ref li), .val (.int (0 : Int32)), .unset, .unset, .unset, .unset, .unset, .unset, .unset] [] 152 #[.val (.int xp), .val (.ref ai), .val (.ref li), .val (.int (0 : Int32)), .val (.int v8), .val (.int v19), .val (.int v28), .val (.double (4472406533629990549 : UInt64)), .second, .val (.double j152_9), .second] [] := by
  subst hj152_9
  refine own_iloadN (pc2 := 1) d1_0 rfl rfl ?_
  refine own_sipush (v := 16383) (pc2 := 4) d1_1 rfl rfl ?_
  refine own_iand (pc2 := 5) d1_4 rfl (v := v4) hv4 ?_
  refine own_sipush (v := 8192) (pc2 := 8) d1_5 rfl rfl ?_
  refine own_isub (pc2 := 9) d1_8 rfl (v := v8) hv8 ?_
  refine own_istore (pc2 := 11) d1_9 rfl (L' := #[.val (.int xp), .val (.ref ai), .val (.ref li), .val (.int (0 : Int32)), .val (.int v8), .unset, .unset, .unset, .unset, .unset, .unset]) rfl ?_
  refine own_iloadN (pc2 := 12) d1_11 rfl rfl ?_
  refine own_bipush (v := 14) (pc2 := 14) d1_12 rfl rfl ?_
  refine own_iushr (pc2 := 15) d1_14 rfl (v := v14) hv14 ?_
  refine own_bipush (v := 7) (pc2 := 17) d1_15 rfl rfl ?_
  refine own_iand (pc2 := 18) d1_17 rfl (v := v17) hv17 ?_
  refine own_iconst (v := 4) (pc2 := 19) d1_18 rfl rfl ?_
  refine own_isub (pc2 := 20) d1_19 rfl (v := v19) hv19 ?_
  refine own_istore (pc2 := 22) d1_20 rfl (L' := #[.val (.int xp), .val (.ref ai), .val (.ref li), .val (.int (0 : Int32)), .val (.int v8), .val (.int v19), .unset, .unset, .unset, .unset, .unset]) rfl ?_
  refine own_iloadN (pc2 := 23) d1_22 rfl rfl ?_
  refine own_bipush (v := 17) (pc2 := 25) d1_23 rfl rfl ?_
  refine own_iushr (pc2 := 26) d1_25 rfl (v := v25) hv25 ?_
  refine own_bipush (v := 7) (pc2 := 28) d1_26 rfl rfl ?_
  refine own_iand (pc2 := 29) d1_28 rfl (v := v28) hv28 ?_
  refine own_istore (pc2 := 31) d1_29 rfl (L' := #[.val (.int xp), .val (.ref ai), .val (.ref li), .val (.int (0 : Int32)), .val (.int v8), .val (.int v19), .val (.int v28), .unset, .unset, .unset, .unset]) rfl ?_
  refine own_ldc2D (v := (4472406533629990549 : UInt64)) (pc2 := 34) d1_31 rfl (List.mem_of_getElem? (i := 0) rfl) ?_
  refine own_dstore (pc2 := 36) d1_34 rfl (L' := #[.val (.int xp), .val (.ref ai), .val (.ref li), .val (.int (0 : Int32)), .val (.int v8), .val (.int v19), .val (.int v28), .val (.double (4472406533629990549 : UInt64)), .second, .unset, .unset]) rfl ?_
  refine own_iload (pc2 := 38) d1_36 rfl rfl ?_
  cases hb38 : ifCond.holds .ne v28
  · refine own_ifNo (pc2 := 41) d1_38 rfl hb38 ?_
    refine own_dconst0 (v := 0) (pc2 := 42) d1_41 rfl rfl ?_
    refine own_dstore (pc2 := 44) d1_42 rfl (L' := #[.val (.int xp), .val (.ref ai), .val (.ref li), .val (.int (0 : Int32)), .val (.int v8), .val (.int v19), .val (.int v28), .val (.double (4472406533629990549 : UInt64)), .second, .val (.double (0 : UInt64)), .second]) rfl ?_
    refine own_goto (pc' := 152) d1_44 (by decide) (by decide) ?_
    exact own_refl
  · refine own_ifYes (pc' := 47) d1_38 hb38 (by decide) (by decide) ?_
    refine own_iload (pc2 := 49) d1_47 rfl rfl ?_
    refine own_iconst (v := 1) (pc2 := 50) d1_49 rfl rfl ?_
    cases hb50 : if_icmp.holds .ne v28 (1 : Int32)
    · refine own_icmpNo (pc2 := 53) d1_50 rfl hb50 ?_
      refine own_dload (pc2 := 55) d1_53 rfl rfl ?_
      refine own_ldc2D (v := (4611686018427387904 : UInt64)) (pc2 := 58) d1_55 rfl (List.mem_of_getElem? (i := 2) rfl) ?_
      refine own_ddiv (pc2 := 59) d1_58 rfl nn58 (v := v58) hv58 ?_
      refine own_dstore (pc2 := 61) d1_59 rfl (L' := #[.val (.int xp), .val (.ref ai), .val (.ref li), .val (.int (0 : Int32)), .val (.int v8), .val (.int v19), .val (.int v28), .val (.double (4472406533629990549 : UInt64)), .second, .val (.double v58), .second]) rfl ?_
      refine own_goto (pc' := 152) d1_61 (by decide) (by decide) ?_
      exact own_refl
    · refine own_icmpYes (pc' := 64) d1_50 hb50 (by decide) (by decide) ?_
      refine own_iload (pc2 := 66) d1_64 rfl rfl ?_
      refine own_iconst (v := 2) (pc2 := 67) d1_66 rfl rfl ?_
      cases hb67 : if_icmp.holds .ne v28 (2 : Int32)
      · refine own_icmpNo (pc2 := 70) d1_67 rfl hb67 ?_
        refine own_dload (pc2 := 72) d1_70 rfl rfl ?_
        refine own_dstore (pc2 := 74) d1_72 rfl (L' := #[.val (.int xp), .val (.ref ai), .val (.ref li), .val (.int (0 : Int32)), .val (.int v8), .val (.int v19), .val (.int v28), .val (.double (4472406533629990549 : UInt64)), .second, .val (.double (4472406533629990549 : UInt64)), .second]) rfl ?_
        refine own_goto (pc' := 152) d1_74 (by decide) (by decide) ?_
        exact own_refl
      · refine own_icmpYes (pc' := 77) d1_67 hb67 (by decide) (by decide) ?_
        refine own_iload (pc2 := 79) d1_77 rfl rfl ?_
        refine own_iconst (v := 3) (pc2 := 80) d1_79 rfl rfl ?_
        cases hb80 : if_icmp.holds .ne v28 (3 : Int32)
        · refine own_icmpNo (pc2 := 83) d1_80 rfl hb80 ?_
          refine own_dload (pc2 := 85) d1_83 rfl rfl ?_
          refine own_dneg (pc2 := 86) d1_85 rfl (v := v85) hv85 ?_
          refine own_ldc2D (v := (4611686018427387904 : UInt64)) (pc2 := 89) d1_86 rfl (List.mem_of_getElem? (i := 2) rfl) ?_
          refine own_ddiv (pc2 := 90) d1_89 rfl nn89 (v := v89) hv89 ?_
          refine own_dstore (pc2 := 92) d1_90 rfl (L' := #[.val (.int xp), .val (.ref ai), .val (.ref li), .val (.int (0 : Int32)), .val (.int v8), .val (.int v19), .val (.int v28), .val (.double (4472406533629990549 : UInt64)), .second, .val (.double v89), .second]) rfl ?_
          refine own_goto (pc' := 152) d1_92 (by decide) (by decide) ?_
          exact own_refl
        · refine own_icmpYes (pc' := 95) d1_80 hb80 (by decide) (by decide) ?_
          refine own_iload (pc2 := 97) d1_95 rfl rfl ?_
          refine own_iconst (v := 4) (pc2 := 98) d1_97 rfl rfl ?_
          cases hb98 : if_icmp.holds .ne v28 (4 : Int32)
          · refine own_icmpNo (pc2 := 101) d1_98 rfl hb98 ?_
            refine own_dload (pc2 := 103) d1_101 rfl rfl ?_
            refine own_dneg (pc2 := 104) d1_103 rfl (v := v103) hv103 ?_
            refine own_dstore (pc2 := 106) d1_104 rfl (L' := #[.val (.int xp), .val (.ref ai), .val (.ref li), .val (.int (0 : Int32)), .val (.int v8), .val (.int v19), .val (.int v28), .val (.double (4472406533629990549 : UInt64)), .second, .val (.double v103), .second]) rfl ?_
            refine own_goto (pc' := 152) d1_106 (by decide) (by decide) ?_
            exact own_refl
          · refine own_icmpYes (pc' := 109) d1_98 hb98 (by decide) (by decide) ?_
            refine own_iload (pc2 := 111) d1_109 rfl rfl ?_
            refine own_iconst (v := 5) (pc2 := 112) d1_111 rfl rfl ?_
            cases hb112 : if_icmp.holds .ne v28 (5 : Int32)
            · refine own_icmpNo (pc2 := 115) d1_112 rfl hb112 ?_
              refine own_ldc2D (v := (13835058055282163712 : UInt64)) (pc2 := 118) d1_115 rfl (List.mem_of_getElem? (i := 3) rfl) ?_
              refine own_dload (pc2 := 120) d1_118 rfl rfl ?_
              refine own_dmul (pc2 := 121) d1_120 rfl nn120 (v := v120) hv120 ?_
              refine own_dstore (pc2 := 123) d1_121 rfl (L' := #[.val (.int xp), .val (.ref ai), .val (.ref li), .val (.int (0 : Int32)), .val (.int v8), .val (.int v19), .val (.int v28), .val (.double (4472406533629990549 : UInt64)), .second, .val (.double v120), .second]) rfl ?_
              refine own_goto (pc' := 152) d1_123 (by decide) (by decide) ?_
              exact own_refl
            · refine own_icmpYes (pc' := 126) d1_112 hb112 (by decide) (by decide) ?_
              refine own_iload (pc2 := 128) d1_126 rfl rfl ?_
              refine own_bipush (v := 6) (pc2 := 130) d1_128 rfl rfl ?_
              cases hb130 : if_icmp.holds .ne v28 (6 : Int32)
              · refine own_icmpNo (pc2 := 133) d1_130 rfl hb130 ?_
                refine own_ldc2D (v := (4611686018427387904 : UInt64)) (pc2 := 136) d1_133 rfl (List.mem_of_getElem? (i := 2) rfl) ?_
                refine own_dload (pc2 := 138) d1_136 rfl rfl ?_
                refine own_dmul (pc2 := 139) d1_138 rfl nn138 (v := v138) hv138 ?_
                refine own_dstore (pc2 := 141) d1_139 rfl (L' := #[.val (.int xp), .val (.ref ai), .val (.ref li), .val (.int (0 : Int32)), .val (.int v8), .val (.int v19), .val (.int v28), .val (.double (4472406533629990549 : UInt64)), .second, .val (.double v138), .second]) rfl ?_
                refine own_goto (pc' := 152) d1_141 (by decide) (by decide) ?_
                exact own_refl
              · refine own_icmpYes (pc' := 144) d1_130 hb130 (by decide) (by decide) ?_
                refine own_ldc2D (v := (4613937818241073152 : UInt64)) (pc2 := 147) d1_144 rfl (List.mem_of_getElem? (i := 1) rfl) ?_
                refine own_dload (pc2 := 149) d1_147 rfl rfl ?_
                refine own_dmul (pc2 := 150) d1_149 rfl nn149 (v := v149) hv149 ?_
                refine own_dstore (pc2 := 152) d1_150 rfl (L' := #[.val (.int xp), .val (.ref ai), .val (.ref li), .val (.int (0 : Int32)), .val (.int v8), .val (.int v19), .val (.int v28), .val (.double (4472406533629990549 : UInt64)), .second, .val (.double v149), .second]) rfl ?_
                exact own_refl
theorem own_l0C_1 (xp : Int32) (ai : Addr) (li : Addr) (v8 : Int32) (v19 : Int32) (v28 : Int32) (j152_9 : UInt64) (v156 : UInt64) (hv156 : (FP.i2d v8) = v156) :
    own_Go own_K1 method_3_code 152 #[.val (.int xp), .val (.ref ai), .val (.ref li), .val (.int (0 : Int32)), .val (.int v8), .val (.int v19), .val (.int v28), .val (.double (4472406533629990549 : UInt64)), .second, .val (.double j152_9), .second] [] 157 #[.val (.int xp), .val (.ref ai), .val (.ref li), .val (.int (0 : Int32)), .val (.int v8), .val (.int v19), .val (.int v28), .val (.double (4472406533629990549 : UInt64)), .second, .val (.double j152_9), .second] [(.double v156), (.int (0 : Int32)), (.ref ai)] := by
  refine own_aloadN (pc2 := 153) d1_152 rfl rfl rfl ?_
  refine own_iloadN (pc2 := 154) d1_153 rfl rfl ?_
  refine own_iload (pc2 := 156) d1_154 rfl rfl ?_
  refine own_i2d (pc2 := 157) d1_156 rfl (v := v156) hv156 ?_
  exact own_refl
theorem own_l0C_2 (xp : Int32) (ai : Addr) (li : Addr) (v8 : Int32) (v19 : Int32) (v28 : Int32) (j152_9 : UInt64) (v164 : Int32) (hv164 : (v8 + v19) = v164) (v165 : UInt64) (hv165 : (FP.i2d v164) = v165) (v168 : UInt64) (hv168 : (FP.dadd v165 j152_9) = v168) (nn168 : NoNaN64 (FP.dadd v165 j152_9)) :
    own_Go own_K1 method_3_code 158 #[.val (.int xp), .val (.ref ai), .val (.ref li), .val (.int (0 : Int32)), .val (.int v8), .val (.int v19), .val (.int v28), .val (.double (4472406533629990549 : UInt64)), .second, .val (.double j152_9), .second] [] 169 #[.val (.int xp), .val (.ref ai), .val (.ref li), .val (.int (0 : Int32)), .val (.int v8), .val (.int v19), .val (.int v28), .val (.double (4472406533629990549 : UInt64)), .second, .val (.double j152_9), .second] [(.double v168), (.int (0 : Int32)), (.ref li)] := by
  refine own_aloadN (pc2 := 159) d1_158 rfl rfl rfl ?_
  refine own_iloadN (pc2 := 160) d1_159 rfl rfl ?_
  refine own_iload (pc2 := 162) d1_160 rfl rfl ?_
  refine own_iload (pc2 := 164) d1_162 rfl rfl ?_
  refine own_iadd (pc2 := 165) d1_164 rfl (v := v164) hv164 ?_
  refine own_i2d (pc2 := 166) d1_165 rfl (v := v165) hv165 ?_
  refine own_dload (pc2 := 168) d1_166 rfl rfl ?_
  refine own_dadd (pc2 := 169) d1_168 rfl nn168 (v := v168) hv168 ?_
  exact own_refl
theorem own_l0C_3 (xp : Int32) (ai : Addr) (li : Addr) (v8 : Int32) (v19 : Int32) (v28 : Int32) (j152_9 : UInt64) (hb172 : ifCond.holds .ge v19 = true) (hb179 : ifCond.holds .le v19 = true) (hb187 : if_icmp.holds .gt v28 (5 : Int32) = false) :
    own_Go own_K1 method_3_code 170 #[.val (.int xp), .val (.ref ai), .val (.ref li), .val (.int (0 : Int32)), .val (.int v8), .val (.int v19), .val (.int v28), .val (.double (4472406533629990549 : UInt64)), .second, .val (.double j152_9), .second] [] 195 #[.val (.int xp), .val (.ref ai), .val (.ref li), .val (.int (0 : Int32)), .val (.int v8), .val (.int v19), .val (.int v28), .val (.double (4472406533629990549 : UInt64)), .second, .val (.double j152_9), .second] [(.int (1 : Int32))] := by
  refine own_iload (pc2 := 172) d1_170 rfl rfl ?_
  refine own_ifYes (pc' := 177) d1_172 hb172 (by decide) (by decide) ?_
  refine own_iload (pc2 := 179) d1_177 rfl rfl ?_
  refine own_ifYes (pc' := 184) d1_179 hb179 (by decide) (by decide) ?_
  refine own_iload (pc2 := 186) d1_184 rfl rfl ?_
  refine own_iconst (v := 5) (pc2 := 187) d1_186 rfl rfl ?_
  refine own_icmpNo (pc2 := 190) d1_187 rfl hb187 ?_
  refine own_iconst (v := 1) (pc2 := 191) d1_190 rfl rfl ?_
  refine own_goto (pc' := 195) d1_191 (by decide) (by decide) ?_
  exact own_refl
set_option maxRecDepth 65536 in
set_option maxHeartbeats 4000000 in
theorem own_fill0C (l : Launch) (Z : State) (a0 : Array Value) (hb0 : own_Base) (hw : ∀ d ∈ tables_1, d.before a0 Z = true) (xp : Int32) (ai : Addr) (li : Addr) (a0_ a1_ a2_ b0_ b1_ b2_ : UInt64) (hd : ((((xp.toUInt32 >>> ((14 : Int32) &&& 31).toUInt32).toInt32) &&& (7 : Int32)) - (4 : Int32)).toInt = 0 ∧ (((xp.toUInt32 >>> ((17 : Int32) &&& 31).toUInt32).toInt32) &&& (7 : Int32)).toInt ≤ 5) :
    own_Met l Z a0 hb0 (⟨"com/example/placewright/placewright/model/MachineTypeHolds334PinLaw", "fill", "(I[D[DI)Z"⟩ : MethodName) method_3_code 11 (some .boolean) [] ({ frames := 0, cells := 0, slots := 0, locals := 0 } : Room) #[(.int xp), (.ref ai), (.ref li), (.int (0 : Int32))] [(ai, own_A .double [.double a0_, .double a1_, .double a2_]), (li, own_A .double [.double b0_, .double b1_, .double b2_])] (fun r cs' => ∃ ca lo, NoNaN64 (FP.dadd ca (4472406533629990549 : UInt64)) ∧ ifCond.holds .gt (cmpValue (FP.dcmp lo (FP.dadd ca (4472406533629990549 : UInt64))) .g) = false ∧ r = some (.int 1) ∧ cs' = [(ai, own_A .double [.double ca, .double a1_, .double a2_]), (li, own_A .double [.double lo, .double b1_, .double b2_])]) := by
  refine own_met_of (L0 := #[.val (.int xp), .val (.ref ai), .val (.ref li), .val (.int (0 : Int32)), .unset, .unset, .unset, .unset, .unset, .unset, .unset]) (plainFor_of_name own_pn1) (fun m => own_ef1 m xp ai li (0 : Int32)) ?_
  intro p e s m below meth c T0 hx hZ hown hby hml hnm H0
  obtain ⟨v4, hv4⟩ : ∃ z : Int32, (xp &&& (16383 : Int32)) = z := ⟨_, rfl⟩
  obtain ⟨v8, hv8⟩ : ∃ z : Int32, (v4 - (8192 : Int32)) = z := ⟨_, rfl⟩
  obtain ⟨v14, hv14⟩ : ∃ z : Int32, ((xp.toUInt32 >>> ((14 : Int32) &&& 31).toUInt32).toInt32) = z := ⟨_, rfl⟩
  obtain ⟨v17, hv17⟩ : ∃ z : Int32, (v14 &&& (7 : Int32)) = z := ⟨_, rfl⟩
  obtain ⟨v19, hv19⟩ : ∃ z : Int32, (v17 - (4 : Int32)) = z := ⟨_, rfl⟩
  obtain ⟨v25, hv25⟩ : ∃ z : Int32, ((xp.toUInt32 >>> ((17 : Int32) &&& 31).toUInt32).toInt32) = z := ⟨_, rfl⟩
  obtain ⟨v28, hv28⟩ : ∃ z : Int32, (v25 &&& (7 : Int32)) = z := ⟨_, rfl⟩
  obtain ⟨v58, hv58⟩ : ∃ z : UInt64, (FP.ddiv (4472406533629990549 : UInt64) (4611686018427387904 : UInt64)) = z := ⟨_, rfl⟩
  obtain ⟨v85, hv85⟩ : ∃ z : UInt64, (FP.dneg (4472406533629990549 : UInt64)) = z := ⟨_, rfl⟩
  obtain ⟨v89, hv89⟩ : ∃ z : UInt64, (FP.ddiv v85 (4611686018427387904 : UInt64)) = z := ⟨_, rfl⟩
  obtain ⟨v103, hv103⟩ : ∃ z : UInt64, (FP.dneg (4472406533629990549 : UInt64)) = z := ⟨_, rfl⟩
  obtain ⟨v120, hv120⟩ : ∃ z : UInt64, (FP.dmul (13835058055282163712 : UInt64) (4472406533629990549 : UInt64)) = z := ⟨_, rfl⟩
  obtain ⟨v138, hv138⟩ : ∃ z : UInt64, (FP.dmul (4611686018427387904 : UInt64) (4472406533629990549 : UInt64)) = z := ⟨_, rfl⟩
  obtain ⟨v149, hv149⟩ : ∃ z : UInt64, (FP.dmul (4613937818241073152 : UInt64) (4472406533629990549 : UInt64)) = z := ⟨_, rfl⟩
  obtain ⟨j152_9, hj152_9⟩ : ∃ z : UInt64, (bif ifCond.holds .ne v28 then (bif if_icmp.holds .ne v28 (1 : Int32) then (bif if_icmp.holds .ne v28 (2 : Int32) then (bif if_icmp.holds .ne v28 (3 : Int32) then (bif if_icmp.holds .ne v28 (4 : Int32) then (bif if_icmp.holds .ne v28 (5 : Int32) then (bif if_icmp.holds .ne v28 (6 : Int32) then v149 else v138) else v120) else v103) else v89) else (4472406533629990549 : UInt64)) else v58) else (0 : UInt64)) = z := ⟨_, rfl⟩
  obtain ⟨v156, hv156⟩ : ∃ z : UInt64, (FP.i2d v8) = z := ⟨_, rfl⟩
  obtain ⟨Tl0C_1, Hl0C_1, stl0C_1⟩ := own_dastore H0 hx hZ 0 0 rfl (by decide) (Nat.le_of_ble_eq_true rfl) (g := (mkF m 157 #[.val (.int xp), .val (.ref ai), .val (.ref li), .val (.int (0 : Int32)), .val (.int v8), .val (.int v19), .val (.int v28), .val (.double (4472406533629990549 : UInt64)), .second, .val (.double j152_9), .second] [(.double v156), (.int (0 : Int32)), (.ref ai)])) rfl rfl (hb hby d1_157)
  change own_S _ _ _ _ _ _ _ _ _ _ _ _ _ _ [(ai, own_A .double [.double v156, .double a1_, .double a2_]), (li, own_A .double [.double b0_, .double b1_, .double b2_])] _ _ at Hl0C_1
  obtain ⟨v164, hv164⟩ : ∃ z : Int32, (v8 + v19) = z := ⟨_, rfl⟩
  obtain ⟨v165, hv165⟩ : ∃ z : UInt64, (FP.i2d v164) = z := ⟨_, rfl⟩
  obtain ⟨v168, hv168⟩ : ∃ z : UInt64, (FP.dadd v165 j152_9) = z := ⟨_, rfl⟩
  obtain ⟨Tl0C_2, Hl0C_2, stl0C_2⟩ := own_dastore Hl0C_1 hx hZ 1 0 rfl (by decide) (Nat.le_of_ble_eq_true rfl) (g := (mkF m 169 #[.val (.int xp), .val (.ref ai), .val (.ref li), .val (.int (0 : Int32)), .val (.int v8), .val (.int v19), .val (.int v28), .val (.double (4472406533629990549 : UInt64)), .second, .val (.double j152_9), .second] [(.double v168), (.int (0 : Int32)), (.ref li)])) rfl rfl (hb hby d1_169)
  change own_S _ _ _ _ _ _ _ _ _ _ _ _ _ _ [(ai, own_A .double [.double v156, .double a1_, .double a2_]), (li, own_A .double [.double v168, .double b1_, .double b2_])] _ _ at Hl0C_2
  have ec : v8.toInt = (xp.toInt % 16384) - 8192 := by
    have h1 := c_mask xp 16383 14 (by decide) (by decide)
    have h2 := c_isub v4 8192
    have := rng32 v8
    rw [hv4] at h1
    rw [hv8, show (8192 : Int32).toInt = 8192 from rfl] at h2
    omega
  have bd : v19.toInt ≤ 4 ∧ -4 ≤ v19.toInt := by
    have h1 := c_mask v14 7 3 (by decide) (by decide)
    have h2 := c_isub v17 4
    have := rng32 v19
    rw [hv17] at h1
    rw [hv19, show (4 : Int32).toInt = 4 from rfl] at h2
    omega
  have es : v164.toInt = v8.toInt + v19.toInt := by
    have h2 := c_iadd v8 v19
    have := rng32 v164
    rw [hv164] at h2
    omega
  have hd' := hd
  rw [hv14, hv17, hv19, hv25, hv28] at hd'
  have hk := own_m7 v25
  rw [hv28] at hk
  obtain ⟨o, io, o1, o2, oo⟩ := own_offs v28 hk
  have ej : own_off v28 = j152_9 := by rw [← hj152_9, ← hv149, ← hv138, ← hv120, ← hv103, ← hv89, ← hv85, ← hv58]; rfl
  rw [ej] at io
  have ic : own_is v156 ((v8.toInt : Int) : Rat) := by rw [← hv156]; exact own_isI _
  have is : own_is v165 ((v8.toInt + v19.toInt : Int) : Rat) := by rw [← hv165, ← es]; exact own_isI _
  have nn58 : NoNaN64 (FP.ddiv (4472406533629990549 : UInt64) (4611686018427387904 : UInt64)) := own_is_no own_o1
  have nn89 : NoNaN64 (FP.ddiv v85 (4611686018427387904 : UInt64)) := by rw [← hv85]; exact own_is_no own_o3
  have nn120 : NoNaN64 (FP.dmul (13835058055282163712 : UInt64) (4472406533629990549 : UInt64)) := own_is_no own_o5
  have nn138 : NoNaN64 (FP.dmul (4611686018427387904 : UInt64) (4472406533629990549 : UInt64)) := own_is_no own_o6
  have nn149 : NoNaN64 (FP.dmul (4613937818241073152 : UInt64) (4472406533629990549 : UInt64)) := by obtain ⟨_, h, -⟩ := own_o7; exact own_is_no h
  have nn168 : NoNaN64 (FP.dadd v165 j152_9) := own_rd_no (own_add is io)
  have hR := own_rC ic is io (by omega) bd o1 o2 hd'.1 (by rcases oo with oo | oo; exact oo.2; omega)
  rw [hv168] at hR
  have nR : NoNaN64 (FP.dadd v156 (4472406533629990549 : UInt64)) := own_rd_no (own_add ic own_ist)
  have hb172 : ifCond.holds .ge v19 = true := by rw [own_z_ge]; exact decide_eq_true (by omega)
  have hb179 : ifCond.holds .le v19 = true := by rw [own_z_le]; exact decide_eq_true (by omega)
  have hb187 : if_icmp.holds .gt v28 (5 : Int32) = false := by rw [own_i_gt, show (5 : Int32).toInt = 5 from rfl]; exact decide_eq_false (by omega)
  refine ⟨_, _, _, _, 195, #[.val (.int xp), .val (.ref ai), .val (.ref li), .val (.int (0 : Int32)), .val (.int v8), .val (.int v19), .val (.int v28), .val (.double (4472406533629990549 : UInt64)), .second, .val (.double j152_9), .second], Hl0C_2, by decide, by decide, Or.inr ⟨.boolean, (.int (1 : Int32)), [], .ireturn, rfl, ⟨v156, v168, nR, hR, rfl, rfl⟩, d1_195, own_retZ (Or.inr rfl), fun target q => ?_⟩⟩
  refine own_go H0 hx hZ hown hby hw own_K1_ok (own_l0C_0 xp ai li v4 hv4 v8 hv8 v14 hv14 v17 hv17 v19 hv19 v25 hv25 v28 hv28 v58 hv58 nn58 v85 hv85 v89 hv89 nn89 v103 hv103 v120 hv120 nn120 v138 hv138 nn138 v149 hv149 nn149 j152_9 hj152_9) _ ?_
  refine own_go H0 hx hZ hown hby hw own_K1_ok (own_l0C_1 xp ai li v8 v19 v28 j152_9 v156 hv156) _ ?_
  refine stl0C_1 _ ?_
  refine own_go Hl0C_1 hx hZ hown hby hw own_K1_ok (own_l0C_2 xp ai li v8 v19 v28 j152_9 v164 hv164 v165 hv165 v168 hv168 nn168) _ ?_
  refine stl0C_2 _ ?_
  refine own_go Hl0C_2 hx hZ hown hby hw own_K1_ok (own_l0C_3 xp ai li v8 v19 v28 j152_9 hb172 hb179 hb187) _ ?_
  exact q
theorem own_l0D_0 (xp : Int32) (ai : Addr) (li : Addr) (v4 : Int32) (hv4 : (xp &&& (16383 : Int32)) = v4) (v8 : Int32) (hv8 : (v4 - (8192 : Int32)) = v8) (v14 : Int32) (hv14 : ((xp.toUInt32 >>> ((14 : Int32) &&& 31).toUInt32).toInt32) = v14) (v17 : Int32) (hv17 : (v14 &&& (7 : Int32)) = v17) (v19 : Int32) (hv19 : (v17 - (4 : Int32)) = v19) (v25 : Int32) (hv25 : ((xp.toUInt32 >>> ((17 : Int32) &&& 31).toUInt32).toInt32) = v25) (v28 : Int32) (hv28 : (v25 &&& (7 : Int32)) = v28) (v58 : UInt64) (hv58 : (FP.ddiv (4472406533629990549 : UInt64) (4611686018427387904 : UInt64)) = v58) (nn58 : NoNaN64 (FP.ddiv (4472406533629990549 : UInt64) (4611686018427387904 : UInt64))) (v85 : UInt64) (hv85 : (FP.dneg (4472406533629990549 : UInt64)) = v85) (v89 : UInt64) (hv89 : (FP.ddiv v85 (4611686018427387904 : UInt64)) = v89) (nn89 : NoNaN64 (FP.ddiv v85 (4611686018427387904 : UInt64))) (v103 : UInt64) (hv103 : (FP.dneg (4472406533629990549 : UInt64)) = v103) (v120 : UInt64) (hv120 : (FP.dmul (13835058055282163712 : UInt64) (4472406533629990549 : UInt64)) = v120) (nn120 : NoNaN64 (FP.dmul (13835058055282163712 : UInt64) (4472406533629990549 : UInt64))) (v138 : UInt64) (hv138 : (FP.dmul (4611686018427387904 : UInt64) (4472406533629990549 : UInt64)) = v138) (nn138 : NoNaN64 (FP.dmul (4611686018427387904 : UInt64) (4472406533629990549 : UInt64))) (v149 : UInt64) (hv149 : (FP.dmul (4613937818241073152 : UInt64) (4472406533629990549 : UInt64)) = v149) (nn149 : NoNaN64 (FP.dmul (4613937818241073152 : UInt64) (4472406533629990549 : UInt64))) (j152_9 : UInt64) (hj152_9 : (bif ifCond.holds .ne v28 then (bif if_icmp.holds .ne v28 (1 : Int32) then (bif if_icmp.holds .ne v28 (2 : Int32) then (bif if_icmp.holds .ne v28 (3 : Int32) then (bif if_icmp.holds .ne v28 (4 : Int32) then (bif if_icmp.holds .ne v28 (5 : Int32) then (bif if_icmp.holds .ne v28 (6 : Int32) then v149 else v138) else v120) else v103) else v89) else (4472406533629990549 : UInt64)) else v58) else (0 : UInt64)) = j152_9) :
    own_Go own_K1 method_3_code 0 #[.val (.int xp), .val (.ref ai), .val (.ref li), .val (.int (0 : Int32)), .unset, .unset, .unset, .unset, .unset, .unset, .unset] [] 152 #[.val (.int xp), .val (.ref ai), .val (.ref li), .val (.int (0 : Int32)), .val (.int v8), .val (.int v19), .val (.int v28), .val (.double (4472406533629990549 : UInt64)), .second, .val (.double j152_9), .second] [] := by
  subst hj152_9
  refine own_iloadN (pc2 := 1) d1_0 rfl rfl ?_
  refine own_sipush (v := 16383) (pc2 := 4) d1_1 rfl rfl ?_
  refine own_iand (pc2 := 5) d1_4 rfl (v := v4) hv4 ?_
  refine own_sipush (v := 8192) (pc2 := 8) d1_5 rfl rfl ?_
  refine own_isub (pc2 := 9) d1_8 rfl (v := v8) hv8 ?_
  refine own_istore (pc2 := 11) d1_9 rfl (L' := #[.val (.int xp), .val (.ref ai), .val (.ref li), .val (.int (0 : Int32)), .val (.int v8), .unset, .unset, .unset, .unset, .unset, .unset]) rfl ?_
  refine own_iloadN (pc2 := 12) d1_11 rfl rfl ?_
  refine own_bipush (v := 14) (pc2 := 14) d1_12 rfl rfl ?_
  refine own_iushr (pc2 := 15) d1_14 rfl (v := v14) hv14 ?_
  refine own_bipush (v := 7) (pc2 := 17) d1_15 rfl rfl ?_
  refine own_iand (pc2 := 18) d1_17 rfl (v := v17) hv17 ?_
  refine own_iconst (v := 4) (pc2 := 19) d1_18 rfl rfl ?_
  refine own_isub (pc2 := 20) d1_19 rfl (v := v19) hv19 ?_
  refine own_istore (pc2 := 22) d1_20 rfl (L' := #[.val (.int xp), .val (.ref ai), .val (.ref li), .val (.int (0 : Int32)), .val (.int v8), .val (.int v19), .unset, .unset, .unset, .unset, .unset]) rfl ?_
  refine own_iloadN (pc2 := 23) d1_22 rfl rfl ?_
  refine own_bipush (v := 17) (pc2 := 25) d1_23 rfl rfl ?_
  refine own_iushr (pc2 := 26) d1_25 rfl (v := v25) hv25 ?_
  refine own_bipush (v := 7) (pc2 := 28) d1_26 rfl rfl ?_
  refine own_iand (pc2 := 29) d1_28 rfl (v := v28) hv28 ?_
  refine own_istore (pc2 := 31) d1_29 rfl (L' := #[.val (.int xp), .val (.ref ai), .val (.ref li), .val (.int (0 : Int32)), .val (.int v8), .val (.int v19), .val (.int v28), .unset, .unset, .unset, .unset]) rfl ?_
  refine own_ldc2D (v := (4472406533629990549 : UInt64)) (pc2 := 34) d1_31 rfl (List.mem_of_getElem? (i := 0) rfl) ?_
  refine own_dstore (pc2 := 36) d1_34 rfl (L' := #[.val (.int xp), .val (.ref ai), .val (.ref li), .val (.int (0 : Int32)), .val (.int v8), .val (.int v19), .val (.int v28), .val (.double (4472406533629990549 : UInt64)), .second, .unset, .unset]) rfl ?_
  refine own_iload (pc2 := 38) d1_36 rfl rfl ?_
  cases hb38 : ifCond.holds .ne v28
  · refine own_ifNo (pc2 := 41) d1_38 rfl hb38 ?_
    refine own_dconst0 (v := 0) (pc2 := 42) d1_41 rfl rfl ?_
    refine own_dstore (pc2 := 44) d1_42 rfl (L' := #[.val (.int xp), .val (.ref ai), .val (.ref li), .val (.int (0 : Int32)), .val (.int v8), .val (.int v19), .val (.int v28), .val (.double (4472406533629990549 : UInt64)), .second, .val (.double (0 : UInt64)), .second]) rfl ?_
    refine own_goto (pc' := 152) d1_44 (by decide) (by decide) ?_
    exact own_refl
  · refine own_ifYes (pc' := 47) d1_38 hb38 (by decide) (by decide) ?_
    refine own_iload (pc2 := 49) d1_47 rfl rfl ?_
    refine own_iconst (v := 1) (pc2 := 50) d1_49 rfl rfl ?_
    cases hb50 : if_icmp.holds .ne v28 (1 : Int32)
    · refine own_icmpNo (pc2 := 53) d1_50 rfl hb50 ?_
      refine own_dload (pc2 := 55) d1_53 rfl rfl ?_
      refine own_ldc2D (v := (4611686018427387904 : UInt64)) (pc2 := 58) d1_55 rfl (List.mem_of_getElem? (i := 2) rfl) ?_
      refine own_ddiv (pc2 := 59) d1_58 rfl nn58 (v := v58) hv58 ?_
      refine own_dstore (pc2 := 61) d1_59 rfl (L' := #[.val (.int xp), .val (.ref ai), .val (.ref li), .val (.int (0 : Int32)), .val (.int v8), .val (.int v19), .val (.int v28), .val (.double (4472406533629990549 : UInt64)), .second, .val (.double v58), .second]) rfl ?_
      refine own_goto (pc' := 152) d1_61 (by decide) (by decide) ?_
      exact own_refl
    · refine own_icmpYes (pc' := 64) d1_50 hb50 (by decide) (by decide) ?_
      refine own_iload (pc2 := 66) d1_64 rfl rfl ?_
      refine own_iconst (v := 2) (pc2 := 67) d1_66 rfl rfl ?_
      cases hb67 : if_icmp.holds .ne v28 (2 : Int32)
      · refine own_icmpNo (pc2 := 70) d1_67 rfl hb67 ?_
        refine own_dload (pc2 := 72) d1_70 rfl rfl ?_
        refine own_dstore (pc2 := 74) d1_72 rfl (L' := #[.val (.int xp), .val (.ref ai), .val (.ref li), .val (.int (0 : Int32)), .val (.int v8), .val (.int v19), .val (.int v28), .val (.double (4472406533629990549 : UInt64)), .second, .val (.double (4472406533629990549 : UInt64)), .second]) rfl ?_
        refine own_goto (pc' := 152) d1_74 (by decide) (by decide) ?_
        exact own_refl
      · refine own_icmpYes (pc' := 77) d1_67 hb67 (by decide) (by decide) ?_
        refine own_iload (pc2 := 79) d1_77 rfl rfl ?_
        refine own_iconst (v := 3) (pc2 := 80) d1_79 rfl rfl ?_
        cases hb80 : if_icmp.holds .ne v28 (3 : Int32)
        · refine own_icmpNo (pc2 := 83) d1_80 rfl hb80 ?_
          refine own_dload (pc2 := 85) d1_83 rfl rfl ?_
          refine own_dneg (pc2 := 86) d1_85 rfl (v := v85) hv85 ?_
          refine own_ldc2D (v := (4611686018427387904 : UInt64)) (pc2 := 89) d1_86 rfl (List.mem_of_getElem? (i := 2) rfl) ?_
          refine own_ddiv (pc2 := 90) d1_89 rfl nn89 (v := v89) hv89 ?_
          refine own_dstore (pc2 := 92) d1_90 rfl (L' := #[.val (.int xp), .val (.ref ai), .val (.ref li), .val (.int (0 : Int32)), .val (.int v8), .val (.int v19), .val (.int v28), .val (.double (4472406533629990549 : UInt64)), .second, .val (.double v89), .second]) rfl ?_
          refine own_goto (pc' := 152) d1_92 (by decide) (by decide) ?_
          exact own_refl
        · refine own_icmpYes (pc' := 95) d1_80 hb80 (by decide) (by decide) ?_
          refine own_iload (pc2 := 97) d1_95 rfl rfl ?_
          refine own_iconst (v := 4) (pc2 := 98) d1_97 rfl rfl ?_
          cases hb98 : if_icmp.holds .ne v28 (4 : Int32)
          · refine own_icmpNo (pc2 := 101) d1_98 rfl hb98 ?_
            refine own_dload (pc2 := 103) d1_101 rfl rfl ?_
            refine own_dneg (pc2 := 104) d1_103 rfl (v := v103) hv103 ?_
            refine own_dstore (pc2 := 106) d1_104 rfl (L' := #[.val (.int xp), .val (.ref ai), .val (.ref li), .val (.int (0 : Int32)), .val (.int v8), .val (.int v19), .val (.int v28), .val (.double (4472406533629990549 : UInt64)), .second, .val (.double v103), .second]) rfl ?_
            refine own_goto (pc' := 152) d1_106 (by decide) (by decide) ?_
            exact own_refl
          · refine own_icmpYes (pc' := 109) d1_98 hb98 (by decide) (by decide) ?_
            refine own_iload (pc2 := 111) d1_109 rfl rfl ?_
            refine own_iconst (v := 5) (pc2 := 112) d1_111 rfl rfl ?_
            cases hb112 : if_icmp.holds .ne v28 (5 : Int32)
            · refine own_icmpNo (pc2 := 115) d1_112 rfl hb112 ?_
              refine own_ldc2D (v := (13835058055282163712 : UInt64)) (pc2 := 118) d1_115 rfl (List.mem_of_getElem? (i := 3) rfl) ?_
              refine own_dload (pc2 := 120) d1_118 rfl rfl ?_
              refine own_dmul (pc2 := 121) d1_120 rfl nn120 (v := v120) hv120 ?_
              refine own_dstore (pc2 := 123) d1_121 rfl (L' := #[.val (.int xp), .val (.ref ai), .val (.ref li), .val (.int (0 : Int32)), .val (.int v8), .val (.int v19), .val (.int v28), .val (.double (4472406533629990549 : UInt64)), .second, .val (.double v120), .second]) rfl ?_
              refine own_goto (pc' := 152) d1_123 (by decide) (by decide) ?_
              exact own_refl
            · refine own_icmpYes (pc' := 126) d1_112 hb112 (by decide) (by decide) ?_
              refine own_iload (pc2 := 128) d1_126 rfl rfl ?_
              refine own_bipush (v := 6) (pc2 := 130) d1_128 rfl rfl ?_
              cases hb130 : if_icmp.holds .ne v28 (6 : Int32)
              · refine own_icmpNo (pc2 := 133) d1_130 rfl hb130 ?_
                refine own_ldc2D (v := (4611686018427387904 : UInt64)) (pc2 := 136) d1_133 rfl (List.mem_of_getElem? (i := 2) rfl) ?_
                refine own_dload (pc2 := 138) d1_136 rfl rfl ?_
                refine own_dmul (pc2 := 139) d1_138 rfl nn138 (v := v138) hv138 ?_
                refine own_dstore (pc2 := 141) d1_139 rfl (L' := #[.val (.int xp), .val (.ref ai), .val (.ref li), .val (.int (0 : Int32)), .val (.int v8), .val (.int v19), .val (.int v28), .val (.double (4472406533629990549 : UInt64)), .second, .val (.double v138), .second]) rfl ?_
                refine own_goto (pc' := 152) d1_141 (by decide) (by decide) ?_
                exact own_refl
              · refine own_icmpYes (pc' := 144) d1_130 hb130 (by decide) (by decide) ?_
                refine own_ldc2D (v := (4613937818241073152 : UInt64)) (pc2 := 147) d1_144 rfl (List.mem_of_getElem? (i := 1) rfl) ?_
                refine own_dload (pc2 := 149) d1_147 rfl rfl ?_
                refine own_dmul (pc2 := 150) d1_149 rfl nn149 (v := v149) hv149 ?_
                refine own_dstore (pc2 := 152) d1_150 rfl (L' := #[.val (.int xp), .val (.ref ai), .val (.ref li), .val (.int (0 : Int32)), .val (.int v8), .val (.int v19), .val (.int v28), .val (.double (4472406533629990549 : UInt64)), .second, .val (.double v149), .second]) rfl ?_
                exact own_refl
theorem own_l0D_1 (xp : Int32) (ai : Addr) (li : Addr) (v8 : Int32) (v19 : Int32) (v28 : Int32) (j152_9 : UInt64) (v156 : UInt64) (hv156 : (FP.i2d v8) = v156) :
    own_Go own_K1 method_3_code 152 #[.val (.int xp), .val (.ref ai), .val (.ref li), .val (.int (0 : Int32)), .val (.int v8), .val (.int v19), .val (.int v28), .val (.double (4472406533629990549 : UInt64)), .second, .val (.double j152_9), .second] [] 157 #[.val (.int xp), .val (.ref ai), .val (.ref li), .val (.int (0 : Int32)), .val (.int v8), .val (.int v19), .val (.int v28), .val (.double (4472406533629990549 : UInt64)), .second, .val (.double j152_9), .second] [(.double v156), (.int (0 : Int32)), (.ref ai)] := by
  refine own_aloadN (pc2 := 153) d1_152 rfl rfl rfl ?_
  refine own_iloadN (pc2 := 154) d1_153 rfl rfl ?_
  refine own_iload (pc2 := 156) d1_154 rfl rfl ?_
  refine own_i2d (pc2 := 157) d1_156 rfl (v := v156) hv156 ?_
  exact own_refl
theorem own_l0D_2 (xp : Int32) (ai : Addr) (li : Addr) (v8 : Int32) (v19 : Int32) (v28 : Int32) (j152_9 : UInt64) (v164 : Int32) (hv164 : (v8 + v19) = v164) (v165 : UInt64) (hv165 : (FP.i2d v164) = v165) (v168 : UInt64) (hv168 : (FP.dadd v165 j152_9) = v168) (nn168 : NoNaN64 (FP.dadd v165 j152_9)) :
    own_Go own_K1 method_3_code 158 #[.val (.int xp), .val (.ref ai), .val (.ref li), .val (.int (0 : Int32)), .val (.int v8), .val (.int v19), .val (.int v28), .val (.double (4472406533629990549 : UInt64)), .second, .val (.double j152_9), .second] [] 169 #[.val (.int xp), .val (.ref ai), .val (.ref li), .val (.int (0 : Int32)), .val (.int v8), .val (.int v19), .val (.int v28), .val (.double (4472406533629990549 : UInt64)), .second, .val (.double j152_9), .second] [(.double v168), (.int (0 : Int32)), (.ref li)] := by
  refine own_aloadN (pc2 := 159) d1_158 rfl rfl rfl ?_
  refine own_iloadN (pc2 := 160) d1_159 rfl rfl ?_
  refine own_iload (pc2 := 162) d1_160 rfl rfl ?_
  refine own_iload (pc2 := 164) d1_162 rfl rfl ?_
  refine own_iadd (pc2 := 165) d1_164 rfl (v := v164) hv164 ?_
  refine own_i2d (pc2 := 166) d1_165 rfl (v := v165) hv165 ?_
  refine own_dload (pc2 := 168) d1_166 rfl rfl ?_
  refine own_dadd (pc2 := 169) d1_168 rfl nn168 (v := v168) hv168 ?_
  exact own_refl
theorem own_l0D_3 (xp : Int32) (ai : Addr) (li : Addr) (v8 : Int32) (v19 : Int32) (v28 : Int32) (j152_9 : UInt64) (hb172 : ifCond.holds .ge v19 = true) (hb179 : ifCond.holds .le v19 = true) (hb187 : if_icmp.holds .gt v28 (5 : Int32) = true) :
    own_Go own_K1 method_3_code 170 #[.val (.int xp), .val (.ref ai), .val (.ref li), .val (.int (0 : Int32)), .val (.int v8), .val (.int v19), .val (.int v28), .val (.double (4472406533629990549 : UInt64)), .second, .val (.double j152_9), .second] [] 195 #[.val (.int xp), .val (.ref ai), .val (.ref li), .val (.int (0 : Int32)), .val (.int v8), .val (.int v19), .val (.int v28), .val (.double (4472406533629990549 : UInt64)), .second, .val (.double j152_9), .second] [(.int (0 : Int32))] := by
  refine own_iload (pc2 := 172) d1_170 rfl rfl ?_
  refine own_ifYes (pc' := 177) d1_172 hb172 (by decide) (by decide) ?_
  refine own_iload (pc2 := 179) d1_177 rfl rfl ?_
  refine own_ifYes (pc' := 184) d1_179 hb179 (by decide) (by decide) ?_
  refine own_iload (pc2 := 186) d1_184 rfl rfl ?_
  refine own_iconst (v := 5) (pc2 := 187) d1_186 rfl rfl ?_
  refine own_icmpYes (pc' := 194) d1_187 hb187 (by decide) (by decide) ?_
  refine own_iconst (v := 0) (pc2 := 195) d1_194 rfl rfl ?_
  exact own_refl
set_option maxRecDepth 65536 in
set_option maxHeartbeats 4000000 in
theorem own_fill0D (l : Launch) (Z : State) (a0 : Array Value) (hb0 : own_Base) (hw : ∀ d ∈ tables_1, d.before a0 Z = true) (xp : Int32) (ai : Addr) (li : Addr) (a0_ a1_ a2_ b0_ b1_ b2_ : UInt64) (hd : ((((xp.toUInt32 >>> ((14 : Int32) &&& 31).toUInt32).toInt32) &&& (7 : Int32)) - (4 : Int32)).toInt = 0 ∧ ¬ (((xp.toUInt32 >>> ((17 : Int32) &&& 31).toUInt32).toInt32) &&& (7 : Int32)).toInt ≤ 5) :
    own_Met l Z a0 hb0 (⟨"com/example/placewright/placewright/model/MachineTypeHolds334PinLaw", "fill", "(I[D[DI)Z"⟩ : MethodName) method_3_code 11 (some .boolean) [] ({ frames := 0, cells := 0, slots := 0, locals := 0 } : Room) #[(.int xp), (.ref ai), (.ref li), (.int (0 : Int32))] [(ai, own_A .double [.double a0_, .double a1_, .double a2_]), (li, own_A .double [.double b0_, .double b1_, .double b2_])] (fun r cs' => ∃ ca lo, NoNaN64 (FP.dadd ca (4472406533629990549 : UInt64)) ∧ ifCond.holds .gt (cmpValue (FP.dcmp lo (FP.dadd ca (4472406533629990549 : UInt64))) .g) = true ∧ r = some (.int 0) ∧ cs' = [(ai, own_A .double [.double ca, .double a1_, .double a2_]), (li, own_A .double [.double lo, .double b1_, .double b2_])]) := by
  refine own_met_of (L0 := #[.val (.int xp), .val (.ref ai), .val (.ref li), .val (.int (0 : Int32)), .unset, .unset, .unset, .unset, .unset, .unset, .unset]) (plainFor_of_name own_pn1) (fun m => own_ef1 m xp ai li (0 : Int32)) ?_
  intro p e s m below meth c T0 hx hZ hown hby hml hnm H0
  obtain ⟨v4, hv4⟩ : ∃ z : Int32, (xp &&& (16383 : Int32)) = z := ⟨_, rfl⟩
  obtain ⟨v8, hv8⟩ : ∃ z : Int32, (v4 - (8192 : Int32)) = z := ⟨_, rfl⟩
  obtain ⟨v14, hv14⟩ : ∃ z : Int32, ((xp.toUInt32 >>> ((14 : Int32) &&& 31).toUInt32).toInt32) = z := ⟨_, rfl⟩
  obtain ⟨v17, hv17⟩ : ∃ z : Int32, (v14 &&& (7 : Int32)) = z := ⟨_, rfl⟩
  obtain ⟨v19, hv19⟩ : ∃ z : Int32, (v17 - (4 : Int32)) = z := ⟨_, rfl⟩
  obtain ⟨v25, hv25⟩ : ∃ z : Int32, ((xp.toUInt32 >>> ((17 : Int32) &&& 31).toUInt32).toInt32) = z := ⟨_, rfl⟩
  obtain ⟨v28, hv28⟩ : ∃ z : Int32, (v25 &&& (7 : Int32)) = z := ⟨_, rfl⟩
  obtain ⟨v58, hv58⟩ : ∃ z : UInt64, (FP.ddiv (4472406533629990549 : UInt64) (4611686018427387904 : UInt64)) = z := ⟨_, rfl⟩
  obtain ⟨v85, hv85⟩ : ∃ z : UInt64, (FP.dneg (4472406533629990549 : UInt64)) = z := ⟨_, rfl⟩
  obtain ⟨v89, hv89⟩ : ∃ z : UInt64, (FP.ddiv v85 (4611686018427387904 : UInt64)) = z := ⟨_, rfl⟩
  obtain ⟨v103, hv103⟩ : ∃ z : UInt64, (FP.dneg (4472406533629990549 : UInt64)) = z := ⟨_, rfl⟩
  obtain ⟨v120, hv120⟩ : ∃ z : UInt64, (FP.dmul (13835058055282163712 : UInt64) (4472406533629990549 : UInt64)) = z := ⟨_, rfl⟩
  obtain ⟨v138, hv138⟩ : ∃ z : UInt64, (FP.dmul (4611686018427387904 : UInt64) (4472406533629990549 : UInt64)) = z := ⟨_, rfl⟩
  obtain ⟨v149, hv149⟩ : ∃ z : UInt64, (FP.dmul (4613937818241073152 : UInt64) (4472406533629990549 : UInt64)) = z := ⟨_, rfl⟩
  obtain ⟨j152_9, hj152_9⟩ : ∃ z : UInt64, (bif ifCond.holds .ne v28 then (bif if_icmp.holds .ne v28 (1 : Int32) then (bif if_icmp.holds .ne v28 (2 : Int32) then (bif if_icmp.holds .ne v28 (3 : Int32) then (bif if_icmp.holds .ne v28 (4 : Int32) then (bif if_icmp.holds .ne v28 (5 : Int32) then (bif if_icmp.holds .ne v28 (6 : Int32) then v149 else v138) else v120) else v103) else v89) else (4472406533629990549 : UInt64)) else v58) else (0 : UInt64)) = z := ⟨_, rfl⟩
  obtain ⟨v156, hv156⟩ : ∃ z : UInt64, (FP.i2d v8) = z := ⟨_, rfl⟩
  obtain ⟨Tl0D_1, Hl0D_1, stl0D_1⟩ := own_dastore H0 hx hZ 0 0 rfl (by decide) (Nat.le_of_ble_eq_true rfl) (g := (mkF m 157 #[.val (.int xp), .val (.ref ai), .val (.ref li), .val (.int (0 : Int32)), .val (.int v8), .val (.int v19), .val (.int v28), .val (.double (4472406533629990549 : UInt64)), .second, .val (.double j152_9), .second] [(.double v156), (.int (0 : Int32)), (.ref ai)])) rfl rfl (hb hby d1_157)
  change own_S _ _ _ _ _ _ _ _ _ _ _ _ _ _ [(ai, own_A .double [.double v156, .double a1_, .double a2_]), (li, own_A .double [.double b0_, .double b1_, .double b2_])] _ _ at Hl0D_1
  obtain ⟨v164, hv164⟩ : ∃ z : Int32, (v8 + v19) = z := ⟨_, rfl⟩
  obtain ⟨v165, hv165⟩ : ∃ z : UInt64, (FP.i2d v164) = z := ⟨_, rfl⟩
  obtain ⟨v168, hv168⟩ : ∃ z : UInt64, (FP.dadd v165 j152_9) = z := ⟨_, rfl⟩
  obtain ⟨Tl0D_2, Hl0D_2, stl0D_2⟩ := own_dastore Hl0D_1 hx hZ 1 0 rfl (by decide) (Nat.le_of_ble_eq_true rfl) (g := (mkF m 169 #[.val (.int xp), .val (.ref ai), .val (.ref li), .val (.int (0 : Int32)), .val (.int v8), .val (.int v19), .val (.int v28), .val (.double (4472406533629990549 : UInt64)), .second, .val (.double j152_9), .second] [(.double v168), (.int (0 : Int32)), (.ref li)])) rfl rfl (hb hby d1_169)
  change own_S _ _ _ _ _ _ _ _ _ _ _ _ _ _ [(ai, own_A .double [.double v156, .double a1_, .double a2_]), (li, own_A .double [.double v168, .double b1_, .double b2_])] _ _ at Hl0D_2
  have ec : v8.toInt = (xp.toInt % 16384) - 8192 := by
    have h1 := c_mask xp 16383 14 (by decide) (by decide)
    have h2 := c_isub v4 8192
    have := rng32 v8
    rw [hv4] at h1
    rw [hv8, show (8192 : Int32).toInt = 8192 from rfl] at h2
    omega
  have bd : v19.toInt ≤ 4 ∧ -4 ≤ v19.toInt := by
    have h1 := c_mask v14 7 3 (by decide) (by decide)
    have h2 := c_isub v17 4
    have := rng32 v19
    rw [hv17] at h1
    rw [hv19, show (4 : Int32).toInt = 4 from rfl] at h2
    omega
  have es : v164.toInt = v8.toInt + v19.toInt := by
    have h2 := c_iadd v8 v19
    have := rng32 v164
    rw [hv164] at h2
    omega
  have hd' := hd
  rw [hv14, hv17, hv19, hv25, hv28] at hd'
  have hk := own_m7 v25
  rw [hv28] at hk
  obtain ⟨o, io, o1, o2, oo⟩ := own_offs v28 hk
  have ej : own_off v28 = j152_9 := by rw [← hj152_9, ← hv149, ← hv138, ← hv120, ← hv103, ← hv89, ← hv85, ← hv58]; rfl
  rw [ej] at io
  have ic : own_is v156 ((v8.toInt : Int) : Rat) := by rw [← hv156]; exact own_isI _
  have is : own_is v165 ((v8.toInt + v19.toInt : Int) : Rat) := by rw [← hv165, ← es]; exact own_isI _
  have nn58 : NoNaN64 (FP.ddiv (4472406533629990549 : UInt64) (4611686018427387904 : UInt64)) := own_is_no own_o1
  have nn89 : NoNaN64 (FP.ddiv v85 (4611686018427387904 : UInt64)) := by rw [← hv85]; exact own_is_no own_o3
  have nn120 : NoNaN64 (FP.dmul (13835058055282163712 : UInt64) (4472406533629990549 : UInt64)) := own_is_no own_o5
  have nn138 : NoNaN64 (FP.dmul (4611686018427387904 : UInt64) (4472406533629990549 : UInt64)) := own_is_no own_o6
  have nn149 : NoNaN64 (FP.dmul (4613937818241073152 : UInt64) (4472406533629990549 : UInt64)) := by obtain ⟨_, h, -⟩ := own_o7; exact own_is_no h
  have nn168 : NoNaN64 (FP.dadd v165 j152_9) := own_rd_no (own_add is io)
  have hR := own_rD ic is io (by omega) bd o1 o2 hd'.1 (by rcases oo with oo | oo; omega; exact oo.2)
  rw [hv168] at hR
  have nR : NoNaN64 (FP.dadd v156 (4472406533629990549 : UInt64)) := own_rd_no (own_add ic own_ist)
  have hb172 : ifCond.holds .ge v19 = true := by rw [own_z_ge]; exact decide_eq_true (by omega)
  have hb179 : ifCond.holds .le v19 = true := by rw [own_z_le]; exact decide_eq_true (by omega)
  have hb187 : if_icmp.holds .gt v28 (5 : Int32) = true := by rw [own_i_gt, show (5 : Int32).toInt = 5 from rfl]; exact decide_eq_true (by omega)
  refine ⟨_, _, _, _, 195, #[.val (.int xp), .val (.ref ai), .val (.ref li), .val (.int (0 : Int32)), .val (.int v8), .val (.int v19), .val (.int v28), .val (.double (4472406533629990549 : UInt64)), .second, .val (.double j152_9), .second], Hl0D_2, by decide, by decide, Or.inr ⟨.boolean, (.int (0 : Int32)), [], .ireturn, rfl, ⟨v156, v168, nR, hR, rfl, rfl⟩, d1_195, own_retZ (Or.inl rfl), fun target q => ?_⟩⟩
  refine own_go H0 hx hZ hown hby hw own_K1_ok (own_l0D_0 xp ai li v4 hv4 v8 hv8 v14 hv14 v17 hv17 v19 hv19 v25 hv25 v28 hv28 v58 hv58 nn58 v85 hv85 v89 hv89 nn89 v103 hv103 v120 hv120 nn120 v138 hv138 nn138 v149 hv149 nn149 j152_9 hj152_9) _ ?_
  refine own_go H0 hx hZ hown hby hw own_K1_ok (own_l0D_1 xp ai li v8 v19 v28 j152_9 v156 hv156) _ ?_
  refine stl0D_1 _ ?_
  refine own_go Hl0D_1 hx hZ hown hby hw own_K1_ok (own_l0D_2 xp ai li v8 v19 v28 j152_9 v164 hv164 v165 hv165 v168 hv168 nn168) _ ?_
  refine stl0D_2 _ ?_
  refine own_go Hl0D_2 hx hZ hown hby hw own_K1_ok (own_l0D_3 xp ai li v8 v19 v28 j152_9 hb172 hb179 hb187) _ ?_
  exact q
theorem own_fill0T (l : Launch) (Z : State) (a0 : Array Value) (hb0 : own_Base) (hw : ∀ d ∈ tables_1, d.before a0 Z = true) (xp : Int32) (ai li : Addr) (a0_ a1_ a2_ b0_ b1_ b2_ : UInt64) (hT : own_T xp) :
    own_Met l Z a0 hb0 (⟨"com/example/placewright/placewright/model/MachineTypeHolds334PinLaw", "fill", "(I[D[DI)Z"⟩ : MethodName) method_3_code 11 (some .boolean) [] ({ frames := 0, cells := 0, slots := 0, locals := 0 } : Room) #[(.int xp), (.ref ai), (.ref li), (.int (0 : Int32))] [(ai, own_A .double [.double a0_, .double a1_, .double a2_]), (li, own_A .double [.double b0_, .double b1_, .double b2_])] (fun r cs' => ∃ ca lo, NoNaN64 (FP.dadd ca (4472406533629990549 : UInt64)) ∧ ifCond.holds .gt (cmpValue (FP.dcmp lo (FP.dadd ca (4472406533629990549 : UInt64))) .g) = false ∧ r = some (.int 1) ∧ cs' = [(ai, own_A .double [.double ca, .double a1_, .double a2_]), (li, own_A .double [.double lo, .double b1_, .double b2_])]) := by
  rcases hT with h | h
  · exact own_fill0A l Z a0 hb0 hw xp ai li _ _ _ _ _ _ h
  · exact own_fill0C l Z a0 hb0 hw xp ai li _ _ _ _ _ _ h
theorem own_fill0F (l : Launch) (Z : State) (a0 : Array Value) (hb0 : own_Base) (hw : ∀ d ∈ tables_1, d.before a0 Z = true) (xp : Int32) (ai li : Addr) (a0_ a1_ a2_ b0_ b1_ b2_ : UInt64) (hT : ¬ own_T xp) :
    own_Met l Z a0 hb0 (⟨"com/example/placewright/placewright/model/MachineTypeHolds334PinLaw", "fill", "(I[D[DI)Z"⟩ : MethodName) method_3_code 11 (some .boolean) [] ({ frames := 0, cells := 0, slots := 0, locals := 0 } : Room) #[(.int xp), (.ref ai), (.ref li), (.int (0 : Int32))] [(ai, own_A .double [.double a0_, .double a1_, .double a2_]), (li, own_A .double [.double b0_, .double b1_, .double b2_])] (fun r cs' => ∃ ca lo, NoNaN64 (FP.dadd ca (4472406533629990549 : UInt64)) ∧ ifCond.holds .gt (cmpValue (FP.dcmp lo (FP.dadd ca (4472406533629990549 : UInt64))) .g) = true ∧ r = some (.int 0) ∧ cs' = [(ai, own_A .double [.double ca, .double a1_, .double a2_]), (li, own_A .double [.double lo, .double b1_, .double b2_])]) := by
  rcases Int.lt_trichotomy ((((xp.toUInt32 >>> ((14 : Int32) &&& 31).toUInt32).toInt32) &&& (7 : Int32)) - (4 : Int32)).toInt 0 with h | h | h
  · exact absurd (Or.inl h) hT
  · exact own_fill0D l Z a0 hb0 hw xp ai li _ _ _ _ _ _ ⟨h, fun k => hT (Or.inr ⟨h, k⟩)⟩
  · exact own_fill0B l Z a0 hb0 hw xp ai li _ _ _ _ _ _ h
theorem own_l1A_0 (xp : Int32) (ai : Addr) (li : Addr) (v4 : Int32) (hv4 : (xp &&& (16383 : Int32)) = v4) (v8 : Int32) (hv8 : (v4 - (8192 : Int32)) = v8) (v14 : Int32) (hv14 : ((xp.toUInt32 >>> ((14 : Int32) &&& 31).toUInt32).toInt32) = v14) (v17 : Int32) (hv17 : (v14 &&& (7 : Int32)) = v17) (v19 : Int32) (hv19 : (v17 - (4 : Int32)) = v19) (v25 : Int32) (hv25 : ((xp.toUInt32 >>> ((17 : Int32) &&& 31).toUInt32).toInt32) = v25) (v28 : Int32) (hv28 : (v25 &&& (7 : Int32)) = v28) (v58 : UInt64) (hv58 : (FP.ddiv (4472406533629990549 : UInt64) (4611686018427387904 : UInt64)) = v58) (nn58 : NoNaN64 (FP.ddiv (4472406533629990549 : UInt64) (4611686018427387904 : UInt64))) (v85 : UInt64) (hv85 : (FP.dneg (4472406533629990549 : UInt64)) = v85) (v89 : UInt64) (hv89 : (FP.ddiv v85 (4611686018427387904 : UInt64)) = v89) (nn89 : NoNaN64 (FP.ddiv v85 (4611686018427387904 : UInt64))) (v103 : UInt64) (hv103 : (FP.dneg (4472406533629990549 : UInt64)) = v103) (v120 : UInt64) (hv120 : (FP.dmul (13835058055282163712 : UInt64) (4472406533629990549 : UInt64)) = v120) (nn120 : NoNaN64 (FP.dmul (13835058055282163712 : UInt64) (4472406533629990549 : UInt64))) (v138 : UInt64) (hv138 : (FP.dmul (4611686018427387904 : UInt64) (4472406533629990549 : UInt64)) = v138) (nn138 : NoNaN64 (FP.dmul (4611686018427387904 : UInt64) (4472406533629990549 : UInt64))) (v149 : UInt64) (hv149 : (FP.dmul (4613937818241073152 : UInt64) (4472406533629990549 : UInt64)) = v149) (nn149 : NoNaN64 (FP.dmul (4613937818241073152 : UInt64) (4472406533629990549 : UInt64))) (j152_9 : UInt64) (hj152_9 : (bif ifCond.holds .ne v28 then (bif if_icmp.holds .ne v28 (1 : Int32) then (bif if_icmp.holds .ne v28 (2 : Int32) then (bif if_icmp.holds .ne v28 (3 : Int32) then (bif if_icmp.holds .ne v28 (4 : Int32) then (bif if_icmp.holds .ne v28 (5 : Int32) then (bif if_icmp.holds .ne v28 (6 : Int32) then v149 else v138) else v120) else v103) else v89) else (4472406533629990549 : UInt64)) else v58) else (0 : UInt64)) = j152_9) :
    own_Go own_K1 method_3_code 0 #[.val (.int xp), .val (.ref ai), .val (.ref li), .val (.int (1 : Int32)), .unset, .unset, .unset, .unset, .unset, .unset, .unset] [] 152 #[.val (.int xp), .val (.ref ai), .val (.ref li), .val (.int (1 : Int32)), .val (.int v8), .val (.int v19), .val (.int v28), .val (.double (4472406533629990549 : UInt64)), .second, .val (.double j152_9), .second] [] := by
  subst hj152_9
  refine own_iloadN (pc2 := 1) d1_0 rfl rfl ?_
  refine own_sipush (v := 16383) (pc2 := 4) d1_1 rfl rfl ?_
  refine own_iand (pc2 := 5) d1_4 rfl (v := v4) hv4 ?_
  refine own_sipush (v := 8192) (pc2 := 8) d1_5 rfl rfl ?_
  refine own_isub (pc2 := 9) d1_8 rfl (v := v8) hv8 ?_
  refine own_istore (pc2 := 11) d1_9 rfl (L' := #[.val (.int xp), .val (.ref ai), .val (.ref li), .val (.int (1 : Int32)), .val (.int v8), .unset, .unset, .unset, .unset, .unset, .unset]) rfl ?_
  refine own_iloadN (pc2 := 12) d1_11 rfl rfl ?_
  refine own_bipush (v := 14) (pc2 := 14) d1_12 rfl rfl ?_
  refine own_iushr (pc2 := 15) d1_14 rfl (v := v14) hv14 ?_
  refine own_bipush (v := 7) (pc2 := 17) d1_15 rfl rfl ?_
  refine own_iand (pc2 := 18) d1_17 rfl (v := v17) hv17 ?_
  refine own_iconst (v := 4) (pc2 := 19) d1_18 rfl rfl ?_
  refine own_isub (pc2 := 20) d1_19 rfl (v := v19) hv19 ?_
  refine own_istore (pc2 := 22) d1_20 rfl (L' := #[.val (.int xp), .val (.ref ai), .val (.ref li), .val (.int (1 : Int32)), .val (.int v8), .val (.int v19), .unset, .unset, .unset, .unset, .unset]) rfl ?_
  refine own_iloadN (pc2 := 23) d1_22 rfl rfl ?_
  refine own_bipush (v := 17) (pc2 := 25) d1_23 rfl rfl ?_
  refine own_iushr (pc2 := 26) d1_25 rfl (v := v25) hv25 ?_
  refine own_bipush (v := 7) (pc2 := 28) d1_26 rfl rfl ?_
  refine own_iand (pc2 := 29) d1_28 rfl (v := v28) hv28 ?_
  refine own_istore (pc2 := 31) d1_29 rfl (L' := #[.val (.int xp), .val (.ref ai), .val (.ref li), .val (.int (1 : Int32)), .val (.int v8), .val (.int v19), .val (.int v28), .unset, .unset, .unset, .unset]) rfl ?_
  refine own_ldc2D (v := (4472406533629990549 : UInt64)) (pc2 := 34) d1_31 rfl (List.mem_of_getElem? (i := 0) rfl) ?_
  refine own_dstore (pc2 := 36) d1_34 rfl (L' := #[.val (.int xp), .val (.ref ai), .val (.ref li), .val (.int (1 : Int32)), .val (.int v8), .val (.int v19), .val (.int v28), .val (.double (4472406533629990549 : UInt64)), .second, .unset, .unset]) rfl ?_
  refine own_iload (pc2 := 38) d1_36 rfl rfl ?_
  cases hb38 : ifCond.holds .ne v28
  · refine own_ifNo (pc2 := 41) d1_38 rfl hb38 ?_
    refine own_dconst0 (v := 0) (pc2 := 42) d1_41 rfl rfl ?_
    refine own_dstore (pc2 := 44) d1_42 rfl (L' := #[.val (.int xp), .val (.ref ai), .val (.ref li), .val (.int (1 : Int32)), .val (.int v8), .val (.int v19), .val (.int v28), .val (.double (4472406533629990549 : UInt64)), .second, .val (.double (0 : UInt64)), .second]) rfl ?_
    refine own_goto (pc' := 152) d1_44 (by decide) (by decide) ?_
    exact own_refl
  · refine own_ifYes (pc' := 47) d1_38 hb38 (by decide) (by decide) ?_
    refine own_iload (pc2 := 49) d1_47 rfl rfl ?_
    refine own_iconst (v := 1) (pc2 := 50) d1_49 rfl rfl ?_
    cases hb50 : if_icmp.holds .ne v28 (1 : Int32)
    · refine own_icmpNo (pc2 := 53) d1_50 rfl hb50 ?_
      refine own_dload (pc2 := 55) d1_53 rfl rfl ?_
      refine own_ldc2D (v := (4611686018427387904 : UInt64)) (pc2 := 58) d1_55 rfl (List.mem_of_getElem? (i := 2) rfl) ?_
      refine own_ddiv (pc2 := 59) d1_58 rfl nn58 (v := v58) hv58 ?_
      refine own_dstore (pc2 := 61) d1_59 rfl (L' := #[.val (.int xp), .val (.ref ai), .val (.ref li), .val (.int (1 : Int32)), .val (.int v8), .val (.int v19), .val (.int v28), .val (.double (4472406533629990549 : UInt64)), .second, .val (.double v58), .second]) rfl ?_
      refine own_goto (pc' := 152) d1_61 (by decide) (by decide) ?_
      exact own_refl
    · refine own_icmpYes (pc' := 64) d1_50 hb50 (by decide) (by decide) ?_
      refine own_iload (pc2 := 66) d1_64 rfl rfl ?_
      refine own_iconst (v := 2) (pc2 := 67) d1_66 rfl rfl ?_
      cases hb67 : if_icmp.holds .ne v28 (2 : Int32)
      · refine own_icmpNo (pc2 := 70) d1_67 rfl hb67 ?_
        refine own_dload (pc2 := 72) d1_70 rfl rfl ?_
        refine own_dstore (pc2 := 74) d1_72 rfl (L' := #[.val (.int xp), .val (.ref ai), .val (.ref li), .val (.int (1 : Int32)), .val (.int v8), .val (.int v19), .val (.int v28), .val (.double (4472406533629990549 : UInt64)), .second, .val (.double (4472406533629990549 : UInt64)), .second]) rfl ?_
        refine own_goto (pc' := 152) d1_74 (by decide) (by decide) ?_
        exact own_refl
      · refine own_icmpYes (pc' := 77) d1_67 hb67 (by decide) (by decide) ?_
        refine own_iload (pc2 := 79) d1_77 rfl rfl ?_
        refine own_iconst (v := 3) (pc2 := 80) d1_79 rfl rfl ?_
        cases hb80 : if_icmp.holds .ne v28 (3 : Int32)
        · refine own_icmpNo (pc2 := 83) d1_80 rfl hb80 ?_
          refine own_dload (pc2 := 85) d1_83 rfl rfl ?_
          refine own_dneg (pc2 := 86) d1_85 rfl (v := v85) hv85 ?_
          refine own_ldc2D (v := (4611686018427387904 : UInt64)) (pc2 := 89) d1_86 rfl (List.mem_of_getElem? (i := 2) rfl) ?_
          refine own_ddiv (pc2 := 90) d1_89 rfl nn89 (v := v89) hv89 ?_
          refine own_dstore (pc2 := 92) d1_90 rfl (L' := #[.val (.int xp), .val (.ref ai), .val (.ref li), .val (.int (1 : Int32)), .val (.int v8), .val (.int v19), .val (.int v28), .val (.double (4472406533629990549 : UInt64)), .second, .val (.double v89), .second]) rfl ?_
          refine own_goto (pc' := 152) d1_92 (by decide) (by decide) ?_
          exact own_refl
        · refine own_icmpYes (pc' := 95) d1_80 hb80 (by decide) (by decide) ?_
          refine own_iload (pc2 := 97) d1_95 rfl rfl ?_
          refine own_iconst (v := 4) (pc2 := 98) d1_97 rfl rfl ?_
          cases hb98 : if_icmp.holds .ne v28 (4 : Int32)
          · refine own_icmpNo (pc2 := 101) d1_98 rfl hb98 ?_
            refine own_dload (pc2 := 103) d1_101 rfl rfl ?_
            refine own_dneg (pc2 := 104) d1_103 rfl (v := v103) hv103 ?_
            refine own_dstore (pc2 := 106) d1_104 rfl (L' := #[.val (.int xp), .val (.ref ai), .val (.ref li), .val (.int (1 : Int32)), .val (.int v8), .val (.int v19), .val (.int v28), .val (.double (4472406533629990549 : UInt64)), .second, .val (.double v103), .second]) rfl ?_
            refine own_goto (pc' := 152) d1_106 (by decide) (by decide) ?_
            exact own_refl
          · refine own_icmpYes (pc' := 109) d1_98 hb98 (by decide) (by decide) ?_
            refine own_iload (pc2 := 111) d1_109 rfl rfl ?_
            refine own_iconst (v := 5) (pc2 := 112) d1_111 rfl rfl ?_
            cases hb112 : if_icmp.holds .ne v28 (5 : Int32)
            · refine own_icmpNo (pc2 := 115) d1_112 rfl hb112 ?_
              refine own_ldc2D (v := (13835058055282163712 : UInt64)) (pc2 := 118) d1_115 rfl (List.mem_of_getElem? (i := 3) rfl) ?_
              refine own_dload (pc2 := 120) d1_118 rfl rfl ?_
              refine own_dmul (pc2 := 121) d1_120 rfl nn120 (v := v120) hv120 ?_
              refine own_dstore (pc2 := 123) d1_121 rfl (L' := #[.val (.int xp), .val (.ref ai), .val (.ref li), .val (.int (1 : Int32)), .val (.int v8), .val (.int v19), .val (.int v28), .val (.double (4472406533629990549 : UInt64)), .second, .val (.double v120), .second]) rfl ?_
              refine own_goto (pc' := 152) d1_123 (by decide) (by decide) ?_
              exact own_refl
            · refine own_icmpYes (pc' := 126) d1_112 hb112 (by decide) (by decide) ?_
              refine own_iload (pc2 := 128) d1_126 rfl rfl ?_
              refine own_bipush (v := 6) (pc2 := 130) d1_128 rfl rfl ?_
              cases hb130 : if_icmp.holds .ne v28 (6 : Int32)
              · refine own_icmpNo (pc2 := 133) d1_130 rfl hb130 ?_
                refine own_ldc2D (v := (4611686018427387904 : UInt64)) (pc2 := 136) d1_133 rfl (List.mem_of_getElem? (i := 2) rfl) ?_
                refine own_dload (pc2 := 138) d1_136 rfl rfl ?_
                refine own_dmul (pc2 := 139) d1_138 rfl nn138 (v := v138) hv138 ?_
                refine own_dstore (pc2 := 141) d1_139 rfl (L' := #[.val (.int xp), .val (.ref ai), .val (.ref li), .val (.int (1 : Int32)), .val (.int v8), .val (.int v19), .val (.int v28), .val (.double (4472406533629990549 : UInt64)), .second, .val (.double v138), .second]) rfl ?_
                refine own_goto (pc' := 152) d1_141 (by decide) (by decide) ?_
                exact own_refl
              · refine own_icmpYes (pc' := 144) d1_130 hb130 (by decide) (by decide) ?_
                refine own_ldc2D (v := (4613937818241073152 : UInt64)) (pc2 := 147) d1_144 rfl (List.mem_of_getElem? (i := 1) rfl) ?_
                refine own_dload (pc2 := 149) d1_147 rfl rfl ?_
                refine own_dmul (pc2 := 150) d1_149 rfl nn149 (v := v149) hv149 ?_
                refine own_dstore (pc2 := 152) d1_150 rfl (L' := #[.val (.int xp), .val (.ref ai), .val (.ref li), .val (.int (1 : Int32)), .val (.int v8), .val (.int v19), .val (.int v28), .val (.double (4472406533629990549 : UInt64)), .second, .val (.double v149), .second]) rfl ?_
                exact own_refl
theorem own_l1A_1 (xp : Int32) (ai : Addr) (li : Addr) (v8 : Int32) (v19 : Int32) (v28 : Int32) (j152_9 : UInt64) (v156 : UInt64) (hv156 : (FP.i2d v8) = v156) :
    own_Go own_K1 method_3_code 152 #[.val (.int xp), .val (.ref ai), .val (.ref li), .val (.int (1 : Int32)), .val (.int v8), .val (.int v19), .val (.int v28), .val (.double (4472406533629990549 : UInt64)), .second, .val (.double j152_9), .second] [] 157 #[.val (.int xp), .val (.ref ai), .val (.ref li), .val (.int (1 : Int32)), .val (.int v8), .val (.int v19), .val (.int v28), .val (.double (4472406533629990549 : UInt64)), .second, .val (.double j152_9), .second] [(.double v156), (.int (1 : Int32)), (.ref ai)] := by
  refine own_aloadN (pc2 := 153) d1_152 rfl rfl rfl ?_
  refine own_iloadN (pc2 := 154) d1_153 rfl rfl ?_
  refine own_iload (pc2 := 156) d1_154 rfl rfl ?_
  refine own_i2d (pc2 := 157) d1_156 rfl (v := v156) hv156 ?_
  exact own_refl
theorem own_l1A_2 (xp : Int32) (ai : Addr) (li : Addr) (v8 : Int32) (v19 : Int32) (v28 : Int32) (j152_9 : UInt64) (v164 : Int32) (hv164 : (v8 + v19) = v164) (v165 : UInt64) (hv165 : (FP.i2d v164) = v165) (v168 : UInt64) (hv168 : (FP.dadd v165 j152_9) = v168) (nn168 : NoNaN64 (FP.dadd v165 j152_9)) :
    own_Go own_K1 method_3_code 158 #[.val (.int xp), .val (.ref ai), .val (.ref li), .val (.int (1 : Int32)), .val (.int v8), .val (.int v19), .val (.int v28), .val (.double (4472406533629990549 : UInt64)), .second, .val (.double j152_9), .second] [] 169 #[.val (.int xp), .val (.ref ai), .val (.ref li), .val (.int (1 : Int32)), .val (.int v8), .val (.int v19), .val (.int v28), .val (.double (4472406533629990549 : UInt64)), .second, .val (.double j152_9), .second] [(.double v168), (.int (1 : Int32)), (.ref li)] := by
  refine own_aloadN (pc2 := 159) d1_158 rfl rfl rfl ?_
  refine own_iloadN (pc2 := 160) d1_159 rfl rfl ?_
  refine own_iload (pc2 := 162) d1_160 rfl rfl ?_
  refine own_iload (pc2 := 164) d1_162 rfl rfl ?_
  refine own_iadd (pc2 := 165) d1_164 rfl (v := v164) hv164 ?_
  refine own_i2d (pc2 := 166) d1_165 rfl (v := v165) hv165 ?_
  refine own_dload (pc2 := 168) d1_166 rfl rfl ?_
  refine own_dadd (pc2 := 169) d1_168 rfl nn168 (v := v168) hv168 ?_
  exact own_refl
theorem own_l1A_3 (xp : Int32) (ai : Addr) (li : Addr) (v8 : Int32) (v19 : Int32) (v28 : Int32) (j152_9 : UInt64) (hb172 : ifCond.holds .ge v19 = false) :
    own_Go own_K1 method_3_code 170 #[.val (.int xp), .val (.ref ai), .val (.ref li), .val (.int (1 : Int32)), .val (.int v8), .val (.int v19), .val (.int v28), .val (.double (4472406533629990549 : UInt64)), .second, .val (.double j152_9), .second] [] 176 #[.val (.int xp), .val (.ref ai), .val (.ref li), .val (.int (1 : Int32)), .val (.int v8), .val (.int v19), .val (.int v28), .val (.double (4472406533629990549 : UInt64)), .second, .val (.double j152_9), .second] [(.int (1 : Int32))] := by
  refine own_iload (pc2 := 172) d1_170 rfl rfl ?_
  refine own_ifNo (pc2 := 175) d1_172 rfl hb172 ?_
  refine own_iconst (v := 1) (pc2 := 176) d1_175 rfl rfl ?_
  exact own_refl
set_option maxRecDepth 65536 in
set_option maxHeartbeats 4000000 in
theorem own_fill1A (l : Launch) (Z : State) (a0 : Array Value) (hb0 : own_Base) (hw : ∀ d ∈ tables_1, d.before a0 Z = true) (xp : Int32) (ai : Addr) (li : Addr) (a0_ a1_ a2_ b0_ b1_ b2_ : UInt64) (hd : ((((xp.toUInt32 >>> ((14 : Int32) &&& 31).toUInt32).toInt32) &&& (7 : Int32)) - (4 : Int32)).toInt < 0) :
    own_Met l Z a0 hb0 (⟨"com/example/placewright/placewright/model/MachineTypeHolds334PinLaw", "fill", "(I[D[DI)Z"⟩ : MethodName) method_3_code 11 (some .boolean) [] ({ frames := 0, cells := 0, slots := 0, locals := 0 } : Room) #[(.int xp), (.ref ai), (.ref li), (.int (1 : Int32))] [(ai, own_A .double [.double a0_, .double a1_, .double a2_]), (li, own_A .double [.double b0_, .double b1_, .double b2_])] (fun r cs' => ∃ ca lo, NoNaN64 (FP.dadd ca (4472406533629990549 : UInt64)) ∧ ifCond.holds .gt (cmpValue (FP.dcmp lo (FP.dadd ca (4472406533629990549 : UInt64))) .g) = false ∧ r = some (.int 1) ∧ cs' = [(ai, own_A .double [.double a0_, .double ca, .double a2_]), (li, own_A .double [.double b0_, .double lo, .double b2_])]) := by
  refine own_met_of (L0 := #[.val (.int xp), .val (.ref ai), .val (.ref li), .val (.int (1 : Int32)), .unset, .unset, .unset, .unset, .unset, .unset, .unset]) (plainFor_of_name own_pn1) (fun m => own_ef1 m xp ai li (1 : Int32)) ?_
  intro p e s m below meth c T0 hx hZ hown hby hml hnm H0
  obtain ⟨v4, hv4⟩ : ∃ z : Int32, (xp &&& (16383 : Int32)) = z := ⟨_, rfl⟩
  obtain ⟨v8, hv8⟩ : ∃ z : Int32, (v4 - (8192 : Int32)) = z := ⟨_, rfl⟩
  obtain ⟨v14, hv14⟩ : ∃ z : Int32, ((xp.toUInt32 >>> ((14 : Int32) &&& 31).toUInt32).toInt32) = z := ⟨_, rfl⟩
  obtain ⟨v17, hv17⟩ : ∃ z : Int32, (v14 &&& (7 : Int32)) = z := ⟨_, rfl⟩
  obtain ⟨v19, hv19⟩ : ∃ z : Int32, (v17 - (4 : Int32)) = z := ⟨_, rfl⟩
  obtain ⟨v25, hv25⟩ : ∃ z : Int32, ((xp.toUInt32 >>> ((17 : Int32) &&& 31).toUInt32).toInt32) = z := ⟨_, rfl⟩
  obtain ⟨v28, hv28⟩ : ∃ z : Int32, (v25 &&& (7 : Int32)) = z := ⟨_, rfl⟩
  obtain ⟨v58, hv58⟩ : ∃ z : UInt64, (FP.ddiv (4472406533629990549 : UInt64) (4611686018427387904 : UInt64)) = z := ⟨_, rfl⟩
  obtain ⟨v85, hv85⟩ : ∃ z : UInt64, (FP.dneg (4472406533629990549 : UInt64)) = z := ⟨_, rfl⟩
  obtain ⟨v89, hv89⟩ : ∃ z : UInt64, (FP.ddiv v85 (4611686018427387904 : UInt64)) = z := ⟨_, rfl⟩
  obtain ⟨v103, hv103⟩ : ∃ z : UInt64, (FP.dneg (4472406533629990549 : UInt64)) = z := ⟨_, rfl⟩
  obtain ⟨v120, hv120⟩ : ∃ z : UInt64, (FP.dmul (13835058055282163712 : UInt64) (4472406533629990549 : UInt64)) = z := ⟨_, rfl⟩
  obtain ⟨v138, hv138⟩ : ∃ z : UInt64, (FP.dmul (4611686018427387904 : UInt64) (4472406533629990549 : UInt64)) = z := ⟨_, rfl⟩
  obtain ⟨v149, hv149⟩ : ∃ z : UInt64, (FP.dmul (4613937818241073152 : UInt64) (4472406533629990549 : UInt64)) = z := ⟨_, rfl⟩
  obtain ⟨j152_9, hj152_9⟩ : ∃ z : UInt64, (bif ifCond.holds .ne v28 then (bif if_icmp.holds .ne v28 (1 : Int32) then (bif if_icmp.holds .ne v28 (2 : Int32) then (bif if_icmp.holds .ne v28 (3 : Int32) then (bif if_icmp.holds .ne v28 (4 : Int32) then (bif if_icmp.holds .ne v28 (5 : Int32) then (bif if_icmp.holds .ne v28 (6 : Int32) then v149 else v138) else v120) else v103) else v89) else (4472406533629990549 : UInt64)) else v58) else (0 : UInt64)) = z := ⟨_, rfl⟩
  obtain ⟨v156, hv156⟩ : ∃ z : UInt64, (FP.i2d v8) = z := ⟨_, rfl⟩
  obtain ⟨Tl1A_1, Hl1A_1, stl1A_1⟩ := own_dastore H0 hx hZ 0 1 rfl (by decide) (Nat.le_of_ble_eq_true rfl) (g := (mkF m 157 #[.val (.int xp), .val (.ref ai), .val (.ref li), .val (.int (1 : Int32)), .val (.int v8), .val (.int v19), .val (.int v28), .val (.double (4472406533629990549 : UInt64)), .second, .val (.double j152_9), .second] [(.double v156), (.int (1 : Int32)), (.ref ai)])) rfl rfl (hb hby d1_157)
  change own_S _ _ _ _ _ _ _ _ _ _ _ _ _ _ [(ai, own_A .double [.double a0_, .double v156, .double a2_]), (li, own_A .double [.double b0_, .double b1_, .double b2_])] _ _ at Hl1A_1
  obtain ⟨v164, hv164⟩ : ∃ z : Int32, (v8 + v19) = z := ⟨_, rfl⟩
  obtain ⟨v165, hv165⟩ : ∃ z : UInt64, (FP.i2d v164) = z := ⟨_, rfl⟩
  obtain ⟨v168, hv168⟩ : ∃ z : UInt64, (FP.dadd v165 j152_9) = z := ⟨_, rfl⟩
  obtain ⟨Tl1A_2, Hl1A_2, stl1A_2⟩ := own_dastore Hl1A_1 hx hZ 1 1 rfl (by decide) (Nat.le_of_ble_eq_true rfl) (g := (mkF m 169 #[.val (.int xp), .val (.ref ai), .val (.ref li), .val (.int (1 : Int32)), .val (.int v8), .val (.int v19), .val (.int v28), .val (.double (4472406533629990549 : UInt64)), .second, .val (.double j152_9), .second] [(.double v168), (.int (1 : Int32)), (.ref li)])) rfl rfl (hb hby d1_169)
  change own_S _ _ _ _ _ _ _ _ _ _ _ _ _ _ [(ai, own_A .double [.double a0_, .double v156, .double a2_]), (li, own_A .double [.double b0_, .double v168, .double b2_])] _ _ at Hl1A_2
  have ec : v8.toInt = (xp.toInt % 16384) - 8192 := by
    have h1 := c_mask xp 16383 14 (by decide) (by decide)
    have h2 := c_isub v4 8192
    have := rng32 v8
    rw [hv4] at h1
    rw [hv8, show (8192 : Int32).toInt = 8192 from rfl] at h2
    omega
  have bd : v19.toInt ≤ 4 ∧ -4 ≤ v19.toInt := by
    have h1 := c_mask v14 7 3 (by decide) (by decide)
    have h2 := c_isub v17 4
    have := rng32 v19
    rw [hv17] at h1
    rw [hv19, show (4 : Int32).toInt = 4 from rfl] at h2
    omega
  have es : v164.toInt = v8.toInt + v19.toInt := by
    have h2 := c_iadd v8 v19
    have := rng32 v164
    rw [hv164] at h2
    omega
  have hd' := hd
  rw [hv14, hv17, hv19] at hd'
  have hk := own_m7 v25
  rw [hv28] at hk
  obtain ⟨o, io, o1, o2, oo⟩ := own_offs v28 hk
  have ej : own_off v28 = j152_9 := by rw [← hj152_9, ← hv149, ← hv138, ← hv120, ← hv103, ← hv89, ← hv85, ← hv58]; rfl
  rw [ej] at io
  have ic : own_is v156 ((v8.toInt : Int) : Rat) := by rw [← hv156]; exact own_isI _
  have is : own_is v165 ((v8.toInt + v19.toInt : Int) : Rat) := by rw [← hv165, ← es]; exact own_isI _
  have nn58 : NoNaN64 (FP.ddiv (4472406533629990549 : UInt64) (4611686018427387904 : UInt64)) := own_is_no own_o1
  have nn89 : NoNaN64 (FP.ddiv v85 (4611686018427387904 : UInt64)) := by rw [← hv85]; exact own_is_no own_o3
  have nn120 : NoNaN64 (FP.dmul (13835058055282163712 : UInt64) (4472406533629990549 : UInt64)) := own_is_no own_o5
  have nn138 : NoNaN64 (FP.dmul (4611686018427387904 : UInt64) (4472406533629990549 : UInt64)) := own_is_no own_o6
  have nn149 : NoNaN64 (FP.dmul (4613937818241073152 : UInt64) (4472406533629990549 : UInt64)) := by obtain ⟨_, h, -⟩ := own_o7; exact own_is_no h
  have nn168 : NoNaN64 (FP.dadd v165 j152_9) := own_rd_no (own_add is io)
  have hR := own_rA ic is io (by omega) bd o1 o2 hd'
  rw [hv168] at hR
  have nR : NoNaN64 (FP.dadd v156 (4472406533629990549 : UInt64)) := own_rd_no (own_add ic own_ist)
  have hb172 : ifCond.holds .ge v19 = false := by rw [own_z_ge]; exact decide_eq_false (by omega)
  refine ⟨_, _, _, _, 176, #[.val (.int xp), .val (.ref ai), .val (.ref li), .val (.int (1 : Int32)), .val (.int v8), .val (.int v19), .val (.int v28), .val (.double (4472406533629990549 : UInt64)), .second, .val (.double j152_9), .second], Hl1A_2, by decide, by decide, Or.inr ⟨.boolean, (.int (1 : Int32)), [], .ireturn, rfl, ⟨v156, v168, nR, hR, rfl, rfl⟩, d1_176, own_retZ (Or.inr rfl), fun target q => ?_⟩⟩
  refine own_go H0 hx hZ hown hby hw own_K1_ok (own_l1A_0 xp ai li v4 hv4 v8 hv8 v14 hv14 v17 hv17 v19 hv19 v25 hv25 v28 hv28 v58 hv58 nn58 v85 hv85 v89 hv89 nn89 v103 hv103 v120 hv120 nn120 v138 hv138 nn138 v149 hv149 nn149 j152_9 hj152_9) _ ?_
  refine own_go H0 hx hZ hown hby hw own_K1_ok (own_l1A_1 xp ai li v8 v19 v28 j152_9 v156 hv156) _ ?_
  refine stl1A_1 _ ?_
  refine own_go Hl1A_1 hx hZ hown hby hw own_K1_ok (own_l1A_2 xp ai li v8 v19 v28 j152_9 v164 hv164 v165 hv165 v168 hv168 nn168) _ ?_
  refine stl1A_2 _ ?_
  refine own_go Hl1A_2 hx hZ hown hby hw own_K1_ok (own_l1A_3 xp ai li v8 v19 v28 j152_9 hb172) _ ?_
  exact q
theorem own_l1B_0 (xp : Int32) (ai : Addr) (li : Addr) (v4 : Int32) (hv4 : (xp &&& (16383 : Int32)) = v4) (v8 : Int32) (hv8 : (v4 - (8192 : Int32)) = v8) (v14 : Int32) (hv14 : ((xp.toUInt32 >>> ((14 : Int32) &&& 31).toUInt32).toInt32) = v14) (v17 : Int32) (hv17 : (v14 &&& (7 : Int32)) = v17) (v19 : Int32) (hv19 : (v17 - (4 : Int32)) = v19) (v25 : Int32) (hv25 : ((xp.toUInt32 >>> ((17 : Int32) &&& 31).toUInt32).toInt32) = v25) (v28 : Int32) (hv28 : (v25 &&& (7 : Int32)) = v28) (v58 : UInt64) (hv58 : (FP.ddiv (4472406533629990549 : UInt64) (4611686018427387904 : UInt64)) = v58) (nn58 : NoNaN64 (FP.ddiv (4472406533629990549 : UInt64) (4611686018427387904 : UInt64))) (v85 : UInt64) (hv85 : (FP.dneg (4472406533629990549 : UInt64)) = v85) (v89 : UInt64) (hv89 : (FP.ddiv v85 (4611686018427387904 : UInt64)) = v89) (nn89 : NoNaN64 (FP.ddiv v85 (4611686018427387904 : UInt64))) (v103 : UInt64) (hv103 : (FP.dneg (4472406533629990549 : UInt64)) = v103) (v120 : UInt64) (hv120 : (FP.dmul (13835058055282163712 : UInt64) (4472406533629990549 : UInt64)) = v120) (nn120 : NoNaN64 (FP.dmul (13835058055282163712 : UInt64) (4472406533629990549 : UInt64))) (v138 : UInt64) (hv138 : (FP.dmul (4611686018427387904 : UInt64) (4472406533629990549 : UInt64)) = v138) (nn138 : NoNaN64 (FP.dmul (4611686018427387904 : UInt64) (4472406533629990549 : UInt64))) (v149 : UInt64) (hv149 : (FP.dmul (4613937818241073152 : UInt64) (4472406533629990549 : UInt64)) = v149) (nn149 : NoNaN64 (FP.dmul (4613937818241073152 : UInt64) (4472406533629990549 : UInt64))) (j152_9 : UInt64) (hj152_9 : (bif ifCond.holds .ne v28 then (bif if_icmp.holds .ne v28 (1 : Int32) then (bif if_icmp.holds .ne v28 (2 : Int32) then (bif if_icmp.holds .ne v28 (3 : Int32) then (bif if_icmp.holds .ne v28 (4 : Int32) then (bif if_icmp.holds .ne v28 (5 : Int32) then (bif if_icmp.holds .ne v28 (6 : Int32) then v149 else v138) else v120) else v103) else v89) else (4472406533629990549 : UInt64)) else v58) else (0 : UInt64)) = j152_9) :
    own_Go own_K1 method_3_code 0 #[.val (.int xp), .val (.ref ai), .val (.ref li), .val (.int (1 : Int32)), .unset, .unset, .unset, .unset, .unset, .unset, .unset] [] 152 #[.val (.int xp), .val (.ref ai), .val (.ref li), .val (.int (1 : Int32)), .val (.int v8), .val (.int v19), .val (.int v28), .val (.double (4472406533629990549 : UInt64)), .second, .val (.double j152_9), .second] [] := by
  subst hj152_9
  refine own_iloadN (pc2 := 1) d1_0 rfl rfl ?_
  refine own_sipush (v := 16383) (pc2 := 4) d1_1 rfl rfl ?_
  refine own_iand (pc2 := 5) d1_4 rfl (v := v4) hv4 ?_
  refine own_sipush (v := 8192) (pc2 := 8) d1_5 rfl rfl ?_
  refine own_isub (pc2 := 9) d1_8 rfl (v := v8) hv8 ?_
  refine own_istore (pc2 := 11) d1_9 rfl (L' := #[.val (.int xp), .val (.ref ai), .val (.ref li), .val (.int (1 : Int32)), .val (.int v8), .unset, .unset, .unset, .unset, .unset, .unset]) rfl ?_
  refine own_iloadN (pc2 := 12) d1_11 rfl rfl ?_
  refine own_bipush (v := 14) (pc2 := 14) d1_12 rfl rfl ?_
  refine own_iushr (pc2 := 15) d1_14 rfl (v := v14) hv14 ?_
  refine own_bipush (v := 7) (pc2 := 17) d1_15 rfl rfl ?_
  refine own_iand (pc2 := 18) d1_17 rfl (v := v17) hv17 ?_
  refine own_iconst (v := 4) (pc2 := 19) d1_18 rfl rfl ?_
  refine own_isub (pc2 := 20) d1_19 rfl (v := v19) hv19 ?_
  refine own_istore (pc2 := 22) d1_20 rfl (L' := #[.val (.int xp), .val (.ref ai), .val (.ref li), .val (.int (1 : Int32)), .val (.int v8), .val (.int v19), .unset, .unset, .unset, .unset, .unset]) rfl ?_
  refine own_iloadN (pc2 := 23) d1_22 rfl rfl ?_
  refine own_bipush (v := 17) (pc2 := 25) d1_23 rfl rfl ?_
  refine own_iushr (pc2 := 26) d1_25 rfl (v := v25) hv25 ?_
  refine own_bipush (v := 7) (pc2 := 28) d1_26 rfl rfl ?_
  refine own_iand (pc2 := 29) d1_28 rfl (v := v28) hv28 ?_
  refine own_istore (pc2 := 31) d1_29 rfl (L' := #[.val (.int xp), .val (.ref ai), .val (.ref li), .val (.int (1 : Int32)), .val (.int v8), .val (.int v19), .val (.int v28), .unset, .unset, .unset, .unset]) rfl ?_
  refine own_ldc2D (v := (4472406533629990549 : UInt64)) (pc2 := 34) d1_31 rfl (List.mem_of_getElem? (i := 0) rfl) ?_
  refine own_dstore (pc2 := 36) d1_34 rfl (L' := #[.val (.int xp), .val (.ref ai), .val (.ref li), .val (.int (1 : Int32)), .val (.int v8), .val (.int v19), .val (.int v28), .val (.double (4472406533629990549 : UInt64)), .second, .unset, .unset]) rfl ?_
  refine own_iload (pc2 := 38) d1_36 rfl rfl ?_
  cases hb38 : ifCond.holds .ne v28
  · refine own_ifNo (pc2 := 41) d1_38 rfl hb38 ?_
    refine own_dconst0 (v := 0) (pc2 := 42) d1_41 rfl rfl ?_
    refine own_dstore (pc2 := 44) d1_42 rfl (L' := #[.val (.int xp), .val (.ref ai), .val (.ref li), .val (.int (1 : Int32)), .val (.int v8), .val (.int v19), .val (.int v28), .val (.double (4472406533629990549 : UInt64)), .second, .val (.double (0 : UInt64)), .second]) rfl ?_
    refine own_goto (pc' := 152) d1_44 (by decide) (by decide) ?_
    exact own_refl
  · refine own_ifYes (pc' := 47) d1_38 hb38 (by decide) (by decide) ?_
    refine own_iload (pc2 := 49) d1_47 rfl rfl ?_
    refine own_iconst (v := 1) (pc2 := 50) d1_49 rfl rfl ?_
    cases hb50 : if_icmp.holds .ne v28 (1 : Int32)
    · refine own_icmpNo (pc2 := 53) d1_50 rfl hb50 ?_
      refine own_dload (pc2 := 55) d1_53 rfl rfl ?_
      refine own_ldc2D (v := (4611686018427387904 : UInt64)) (pc2 := 58) d1_55 rfl (List.mem_of_getElem? (i := 2) rfl) ?_
      refine own_ddiv (pc2 := 59) d1_58 rfl nn58 (v := v58) hv58 ?_
      refine own_dstore (pc2 := 61) d1_59 rfl (L' := #[.val (.int xp), .val (.ref ai), .val (.ref li), .val (.int (1 : Int32)), .val (.int v8), .val (.int v19), .val (.int v28), .val (.double (4472406533629990549 : UInt64)), .second, .val (.double v58), .second]) rfl ?_
      refine own_goto (pc' := 152) d1_61 (by decide) (by decide) ?_
      exact own_refl
    · refine own_icmpYes (pc' := 64) d1_50 hb50 (by decide) (by decide) ?_
      refine own_iload (pc2 := 66) d1_64 rfl rfl ?_
      refine own_iconst (v := 2) (pc2 := 67) d1_66 rfl rfl ?_
      cases hb67 : if_icmp.holds .ne v28 (2 : Int32)
      · refine own_icmpNo (pc2 := 70) d1_67 rfl hb67 ?_
        refine own_dload (pc2 := 72) d1_70 rfl rfl ?_
        refine own_dstore (pc2 := 74) d1_72 rfl (L' := #[.val (.int xp), .val (.ref ai), .val (.ref li), .val (.int (1 : Int32)), .val (.int v8), .val (.int v19), .val (.int v28), .val (.double (4472406533629990549 : UInt64)), .second, .val (.double (4472406533629990549 : UInt64)), .second]) rfl ?_
        refine own_goto (pc' := 152) d1_74 (by decide) (by decide) ?_
        exact own_refl
      · refine own_icmpYes (pc' := 77) d1_67 hb67 (by decide) (by decide) ?_
        refine own_iload (pc2 := 79) d1_77 rfl rfl ?_
        refine own_iconst (v := 3) (pc2 := 80) d1_79 rfl rfl ?_
        cases hb80 : if_icmp.holds .ne v28 (3 : Int32)
        · refine own_icmpNo (pc2 := 83) d1_80 rfl hb80 ?_
          refine own_dload (pc2 := 85) d1_83 rfl rfl ?_
          refine own_dneg (pc2 := 86) d1_85 rfl (v := v85) hv85 ?_
          refine own_ldc2D (v := (4611686018427387904 : UInt64)) (pc2 := 89) d1_86 rfl (List.mem_of_getElem? (i := 2) rfl) ?_
          refine own_ddiv (pc2 := 90) d1_89 rfl nn89 (v := v89) hv89 ?_
          refine own_dstore (pc2 := 92) d1_90 rfl (L' := #[.val (.int xp), .val (.ref ai), .val (.ref li), .val (.int (1 : Int32)), .val (.int v8), .val (.int v19), .val (.int v28), .val (.double (4472406533629990549 : UInt64)), .second, .val (.double v89), .second]) rfl ?_
          refine own_goto (pc' := 152) d1_92 (by decide) (by decide) ?_
          exact own_refl
        · refine own_icmpYes (pc' := 95) d1_80 hb80 (by decide) (by decide) ?_
          refine own_iload (pc2 := 97) d1_95 rfl rfl ?_
          refine own_iconst (v := 4) (pc2 := 98) d1_97 rfl rfl ?_
          cases hb98 : if_icmp.holds .ne v28 (4 : Int32)
          · refine own_icmpNo (pc2 := 101) d1_98 rfl hb98 ?_
            refine own_dload (pc2 := 103) d1_101 rfl rfl ?_
            refine own_dneg (pc2 := 104) d1_103 rfl (v := v103) hv103 ?_
            refine own_dstore (pc2 := 106) d1_104 rfl (L' := #[.val (.int xp), .val (.ref ai), .val (.ref li), .val (.int (1 : Int32)), .val (.int v8), .val (.int v19), .val (.int v28), .val (.double (4472406533629990549 : UInt64)), .second, .val (.double v103), .second]) rfl ?_
            refine own_goto (pc' := 152) d1_106 (by decide) (by decide) ?_
            exact own_refl
          · refine own_icmpYes (pc' := 109) d1_98 hb98 (by decide) (by decide) ?_
            refine own_iload (pc2 := 111) d1_109 rfl rfl ?_
            refine own_iconst (v := 5) (pc2 := 112) d1_111 rfl rfl ?_
            cases hb112 : if_icmp.holds .ne v28 (5 : Int32)
            · refine own_icmpNo (pc2 := 115) d1_112 rfl hb112 ?_
              refine own_ldc2D (v := (13835058055282163712 : UInt64)) (pc2 := 118) d1_115 rfl (List.mem_of_getElem? (i := 3) rfl) ?_
              refine own_dload (pc2 := 120) d1_118 rfl rfl ?_
              refine own_dmul (pc2 := 121) d1_120 rfl nn120 (v := v120) hv120 ?_
              refine own_dstore (pc2 := 123) d1_121 rfl (L' := #[.val (.int xp), .val (.ref ai), .val (.ref li), .val (.int (1 : Int32)), .val (.int v8), .val (.int v19), .val (.int v28), .val (.double (4472406533629990549 : UInt64)), .second, .val (.double v120), .second]) rfl ?_
              refine own_goto (pc' := 152) d1_123 (by decide) (by decide) ?_
              exact own_refl
            · refine own_icmpYes (pc' := 126) d1_112 hb112 (by decide) (by decide) ?_
              refine own_iload (pc2 := 128) d1_126 rfl rfl ?_
              refine own_bipush (v := 6) (pc2 := 130) d1_128 rfl rfl ?_
              cases hb130 : if_icmp.holds .ne v28 (6 : Int32)
              · refine own_icmpNo (pc2 := 133) d1_130 rfl hb130 ?_
                refine own_ldc2D (v := (4611686018427387904 : UInt64)) (pc2 := 136) d1_133 rfl (List.mem_of_getElem? (i := 2) rfl) ?_
                refine own_dload (pc2 := 138) d1_136 rfl rfl ?_
                refine own_dmul (pc2 := 139) d1_138 rfl nn138 (v := v138) hv138 ?_
                refine own_dstore (pc2 := 141) d1_139 rfl (L' := #[.val (.int xp), .val (.ref ai), .val (.ref li), .val (.int (1 : Int32)), .val (.int v8), .val (.int v19), .val (.int v28), .val (.double (4472406533629990549 : UInt64)), .second, .val (.double v138), .second]) rfl ?_
                refine own_goto (pc' := 152) d1_141 (by decide) (by decide) ?_
                exact own_refl
              · refine own_icmpYes (pc' := 144) d1_130 hb130 (by decide) (by decide) ?_
                refine own_ldc2D (v := (4613937818241073152 : UInt64)) (pc2 := 147) d1_144 rfl (List.mem_of_getElem? (i := 1) rfl) ?_
                refine own_dload (pc2 := 149) d1_147 rfl rfl ?_
                refine own_dmul (pc2 := 150) d1_149 rfl nn149 (v := v149) hv149 ?_
                refine own_dstore (pc2 := 152) d1_150 rfl (L' := #[.val (.int xp), .val (.ref ai), .val (.ref li), .val (.int (1 : Int32)), .val (.int v8), .val (.int v19), .val (.int v28), .val (.double (4472406533629990549 : UInt64)), .second, .val (.double v149), .second]) rfl ?_
                exact own_refl
theorem own_l1B_1 (xp : Int32) (ai : Addr) (li : Addr) (v8 : Int32) (v19 : Int32) (v28 : Int32) (j152_9 : UInt64) (v156 : UInt64) (hv156 : (FP.i2d v8) = v156) :
    own_Go own_K1 method_3_code 152 #[.val (.int xp), .val (.ref ai), .val (.ref li), .val (.int (1 : Int32)), .val (.int v8), .val (.int v19), .val (.int v28), .val (.double (4472406533629990549 : UInt64)), .second, .val (.double j152_9), .second] [] 157 #[.val (.int xp), .val (.ref ai), .val (.ref li), .val (.int (1 : Int32)), .val (.int v8), .val (.int v19), .val (.int v28), .val (.double (4472406533629990549 : UInt64)), .second, .val (.double j152_9), .second] [(.double v156), (.int (1 : Int32)), (.ref ai)] := by
  refine own_aloadN (pc2 := 153) d1_152 rfl rfl rfl ?_
  refine own_iloadN (pc2 := 154) d1_153 rfl rfl ?_
  refine own_iload (pc2 := 156) d1_154 rfl rfl ?_
  refine own_i2d (pc2 := 157) d1_156 rfl (v := v156) hv156 ?_
  exact own_refl
theorem own_l1B_2 (xp : Int32) (ai : Addr) (li : Addr) (v8 : Int32) (v19 : Int32) (v28 : Int32) (j152_9 : UInt64) (v164 : Int32) (hv164 : (v8 + v19) = v164) (v165 : UInt64) (hv165 : (FP.i2d v164) = v165) (v168 : UInt64) (hv168 : (FP.dadd v165 j152_9) = v168) (nn168 : NoNaN64 (FP.dadd v165 j152_9)) :
    own_Go own_K1 method_3_code 158 #[.val (.int xp), .val (.ref ai), .val (.ref li), .val (.int (1 : Int32)), .val (.int v8), .val (.int v19), .val (.int v28), .val (.double (4472406533629990549 : UInt64)), .second, .val (.double j152_9), .second] [] 169 #[.val (.int xp), .val (.ref ai), .val (.ref li), .val (.int (1 : Int32)), .val (.int v8), .val (.int v19), .val (.int v28), .val (.double (4472406533629990549 : UInt64)), .second, .val (.double j152_9), .second] [(.double v168), (.int (1 : Int32)), (.ref li)] := by
  refine own_aloadN (pc2 := 159) d1_158 rfl rfl rfl ?_
  refine own_iloadN (pc2 := 160) d1_159 rfl rfl ?_
  refine own_iload (pc2 := 162) d1_160 rfl rfl ?_
  refine own_iload (pc2 := 164) d1_162 rfl rfl ?_
  refine own_iadd (pc2 := 165) d1_164 rfl (v := v164) hv164 ?_
  refine own_i2d (pc2 := 166) d1_165 rfl (v := v165) hv165 ?_
  refine own_dload (pc2 := 168) d1_166 rfl rfl ?_
  refine own_dadd (pc2 := 169) d1_168 rfl nn168 (v := v168) hv168 ?_
  exact own_refl
theorem own_l1B_3 (xp : Int32) (ai : Addr) (li : Addr) (v8 : Int32) (v19 : Int32) (v28 : Int32) (j152_9 : UInt64) (hb172 : ifCond.holds .ge v19 = true) (hb179 : ifCond.holds .le v19 = false) :
    own_Go own_K1 method_3_code 170 #[.val (.int xp), .val (.ref ai), .val (.ref li), .val (.int (1 : Int32)), .val (.int v8), .val (.int v19), .val (.int v28), .val (.double (4472406533629990549 : UInt64)), .second, .val (.double j152_9), .second] [] 183 #[.val (.int xp), .val (.ref ai), .val (.ref li), .val (.int (1 : Int32)), .val (.int v8), .val (.int v19), .val (.int v28), .val (.double (4472406533629990549 : UInt64)), .second, .val (.double j152_9), .second] [(.int (0 : Int32))] := by
  refine own_iload (pc2 := 172) d1_170 rfl rfl ?_
  refine own_ifYes (pc' := 177) d1_172 hb172 (by decide) (by decide) ?_
  refine own_iload (pc2 := 179) d1_177 rfl rfl ?_
  refine own_ifNo (pc2 := 182) d1_179 rfl hb179 ?_
  refine own_iconst (v := 0) (pc2 := 183) d1_182 rfl rfl ?_
  exact own_refl
set_option maxRecDepth 65536 in
set_option maxHeartbeats 4000000 in
theorem own_fill1B (l : Launch) (Z : State) (a0 : Array Value) (hb0 : own_Base) (hw : ∀ d ∈ tables_1, d.before a0 Z = true) (xp : Int32) (ai : Addr) (li : Addr) (a0_ a1_ a2_ b0_ b1_ b2_ : UInt64) (hd : 0 < ((((xp.toUInt32 >>> ((14 : Int32) &&& 31).toUInt32).toInt32) &&& (7 : Int32)) - (4 : Int32)).toInt) :
    own_Met l Z a0 hb0 (⟨"com/example/placewright/placewright/model/MachineTypeHolds334PinLaw", "fill", "(I[D[DI)Z"⟩ : MethodName) method_3_code 11 (some .boolean) [] ({ frames := 0, cells := 0, slots := 0, locals := 0 } : Room) #[(.int xp), (.ref ai), (.ref li), (.int (1 : Int32))] [(ai, own_A .double [.double a0_, .double a1_, .double a2_]), (li, own_A .double [.double b0_, .double b1_, .double b2_])] (fun r cs' => ∃ ca lo, NoNaN64 (FP.dadd ca (4472406533629990549 : UInt64)) ∧ ifCond.holds .gt (cmpValue (FP.dcmp lo (FP.dadd ca (4472406533629990549 : UInt64))) .g) = true ∧ r = some (.int 0) ∧ cs' = [(ai, own_A .double [.double a0_, .double ca, .double a2_]), (li, own_A .double [.double b0_, .double lo, .double b2_])]) := by
  refine own_met_of (L0 := #[.val (.int xp), .val (.ref ai), .val (.ref li), .val (.int (1 : Int32)), .unset, .unset, .unset, .unset, .unset, .unset, .unset]) (plainFor_of_name own_pn1) (fun m => own_ef1 m xp ai li (1 : Int32)) ?_
  intro p e s m below meth c T0 hx hZ hown hby hml hnm H0
  obtain ⟨v4, hv4⟩ : ∃ z : Int32, (xp &&& (16383 : Int32)) = z := ⟨_, rfl⟩
  obtain ⟨v8, hv8⟩ : ∃ z : Int32, (v4 - (8192 : Int32)) = z := ⟨_, rfl⟩
  obtain ⟨v14, hv14⟩ : ∃ z : Int32, ((xp.toUInt32 >>> ((14 : Int32) &&& 31).toUInt32).toInt32) = z := ⟨_, rfl⟩
  obtain ⟨v17, hv17⟩ : ∃ z : Int32, (v14 &&& (7 : Int32)) = z := ⟨_, rfl⟩
  obtain ⟨v19, hv19⟩ : ∃ z : Int32, (v17 - (4 : Int32)) = z := ⟨_, rfl⟩
  obtain ⟨v25, hv25⟩ : ∃ z : Int32, ((xp.toUInt32 >>> ((17 : Int32) &&& 31).toUInt32).toInt32) = z := ⟨_, rfl⟩
  obtain ⟨v28, hv28⟩ : ∃ z : Int32, (v25 &&& (7 : Int32)) = z := ⟨_, rfl⟩
  obtain ⟨v58, hv58⟩ : ∃ z : UInt64, (FP.ddiv (4472406533629990549 : UInt64) (4611686018427387904 : UInt64)) = z := ⟨_, rfl⟩
  obtain ⟨v85, hv85⟩ : ∃ z : UInt64, (FP.dneg (4472406533629990549 : UInt64)) = z := ⟨_, rfl⟩
  obtain ⟨v89, hv89⟩ : ∃ z : UInt64, (FP.ddiv v85 (4611686018427387904 : UInt64)) = z := ⟨_, rfl⟩
  obtain ⟨v103, hv103⟩ : ∃ z : UInt64, (FP.dneg (4472406533629990549 : UInt64)) = z := ⟨_, rfl⟩
  obtain ⟨v120, hv120⟩ : ∃ z : UInt64, (FP.dmul (13835058055282163712 : UInt64) (4472406533629990549 : UInt64)) = z := ⟨_, rfl⟩
  obtain ⟨v138, hv138⟩ : ∃ z : UInt64, (FP.dmul (4611686018427387904 : UInt64) (4472406533629990549 : UInt64)) = z := ⟨_, rfl⟩
  obtain ⟨v149, hv149⟩ : ∃ z : UInt64, (FP.dmul (4613937818241073152 : UInt64) (4472406533629990549 : UInt64)) = z := ⟨_, rfl⟩
  obtain ⟨j152_9, hj152_9⟩ : ∃ z : UInt64, (bif ifCond.holds .ne v28 then (bif if_icmp.holds .ne v28 (1 : Int32) then (bif if_icmp.holds .ne v28 (2 : Int32) then (bif if_icmp.holds .ne v28 (3 : Int32) then (bif if_icmp.holds .ne v28 (4 : Int32) then (bif if_icmp.holds .ne v28 (5 : Int32) then (bif if_icmp.holds .ne v28 (6 : Int32) then v149 else v138) else v120) else v103) else v89) else (4472406533629990549 : UInt64)) else v58) else (0 : UInt64)) = z := ⟨_, rfl⟩
  obtain ⟨v156, hv156⟩ : ∃ z : UInt64, (FP.i2d v8) = z := ⟨_, rfl⟩
  obtain ⟨Tl1B_1, Hl1B_1, stl1B_1⟩ := own_dastore H0 hx hZ 0 1 rfl (by decide) (Nat.le_of_ble_eq_true rfl) (g := (mkF m 157 #[.val (.int xp), .val (.ref ai), .val (.ref li), .val (.int (1 : Int32)), .val (.int v8), .val (.int v19), .val (.int v28), .val (.double (4472406533629990549 : UInt64)), .second, .val (.double j152_9), .second] [(.double v156), (.int (1 : Int32)), (.ref ai)])) rfl rfl (hb hby d1_157)
  change own_S _ _ _ _ _ _ _ _ _ _ _ _ _ _ [(ai, own_A .double [.double a0_, .double v156, .double a2_]), (li, own_A .double [.double b0_, .double b1_, .double b2_])] _ _ at Hl1B_1
  obtain ⟨v164, hv164⟩ : ∃ z : Int32, (v8 + v19) = z := ⟨_, rfl⟩
  obtain ⟨v165, hv165⟩ : ∃ z : UInt64, (FP.i2d v164) = z := ⟨_, rfl⟩
  obtain ⟨v168, hv168⟩ : ∃ z : UInt64, (FP.dadd v165 j152_9) = z := ⟨_, rfl⟩
  obtain ⟨Tl1B_2, Hl1B_2, stl1B_2⟩ := own_dastore Hl1B_1 hx hZ 1 1 rfl (by decide) (Nat.le_of_ble_eq_true rfl) (g := (mkF m 169 #[.val (.int xp), .val (.ref ai), .val (.ref li), .val (.int (1 : Int32)), .val (.int v8), .val (.int v19), .val (.int v28), .val (.double (4472406533629990549 : UInt64)), .second, .val (.double j152_9), .second] [(.double v168), (.int (1 : Int32)), (.ref li)])) rfl rfl (hb hby d1_169)
  change own_S _ _ _ _ _ _ _ _ _ _ _ _ _ _ [(ai, own_A .double [.double a0_, .double v156, .double a2_]), (li, own_A .double [.double b0_, .double v168, .double b2_])] _ _ at Hl1B_2
  have ec : v8.toInt = (xp.toInt % 16384) - 8192 := by
    have h1 := c_mask xp 16383 14 (by decide) (by decide)
    have h2 := c_isub v4 8192
    have := rng32 v8
    rw [hv4] at h1
    rw [hv8, show (8192 : Int32).toInt = 8192 from rfl] at h2
    omega
  have bd : v19.toInt ≤ 4 ∧ -4 ≤ v19.toInt := by
    have h1 := c_mask v14 7 3 (by decide) (by decide)
    have h2 := c_isub v17 4
    have := rng32 v19
    rw [hv17] at h1
    rw [hv19, show (4 : Int32).toInt = 4 from rfl] at h2
    omega
  have es : v164.toInt = v8.toInt + v19.toInt := by
    have h2 := c_iadd v8 v19
    have := rng32 v164
    rw [hv164] at h2
    omega
  have hd' := hd
  rw [hv14, hv17, hv19] at hd'
  have hk := own_m7 v25
  rw [hv28] at hk
  obtain ⟨o, io, o1, o2, oo⟩ := own_offs v28 hk
  have ej : own_off v28 = j152_9 := by rw [← hj152_9, ← hv149, ← hv138, ← hv120, ← hv103, ← hv89, ← hv85, ← hv58]; rfl
  rw [ej] at io
  have ic : own_is v156 ((v8.toInt : Int) : Rat) := by rw [← hv156]; exact own_isI _
  have is : own_is v165 ((v8.toInt + v19.toInt : Int) : Rat) := by rw [← hv165, ← es]; exact own_isI _
  have nn58 : NoNaN64 (FP.ddiv (4472406533629990549 : UInt64) (4611686018427387904 : UInt64)) := own_is_no own_o1
  have nn89 : NoNaN64 (FP.ddiv v85 (4611686018427387904 : UInt64)) := by rw [← hv85]; exact own_is_no own_o3
  have nn120 : NoNaN64 (FP.dmul (13835058055282163712 : UInt64) (4472406533629990549 : UInt64)) := own_is_no own_o5
  have nn138 : NoNaN64 (FP.dmul (4611686018427387904 : UInt64) (4472406533629990549 : UInt64)) := own_is_no own_o6
  have nn149 : NoNaN64 (FP.dmul (4613937818241073152 : UInt64) (4472406533629990549 : UInt64)) := by obtain ⟨_, h, -⟩ := own_o7; exact own_is_no h
  have nn168 : NoNaN64 (FP.dadd v165 j152_9) := own_rd_no (own_add is io)
  have hR := own_rB ic is io (by omega) bd o1 o2 hd'
  rw [hv168] at hR
  have nR : NoNaN64 (FP.dadd v156 (4472406533629990549 : UInt64)) := own_rd_no (own_add ic own_ist)
  have hb172 : ifCond.holds .ge v19 = true := by rw [own_z_ge]; exact decide_eq_true (by omega)
  have hb179 : ifCond.holds .le v19 = false := by rw [own_z_le]; exact decide_eq_false (by omega)
  refine ⟨_, _, _, _, 183, #[.val (.int xp), .val (.ref ai), .val (.ref li), .val (.int (1 : Int32)), .val (.int v8), .val (.int v19), .val (.int v28), .val (.double (4472406533629990549 : UInt64)), .second, .val (.double j152_9), .second], Hl1B_2, by decide, by decide, Or.inr ⟨.boolean, (.int (0 : Int32)), [], .ireturn, rfl, ⟨v156, v168, nR, hR, rfl, rfl⟩, d1_183, own_retZ (Or.inl rfl), fun target q => ?_⟩⟩
  refine own_go H0 hx hZ hown hby hw own_K1_ok (own_l1B_0 xp ai li v4 hv4 v8 hv8 v14 hv14 v17 hv17 v19 hv19 v25 hv25 v28 hv28 v58 hv58 nn58 v85 hv85 v89 hv89 nn89 v103 hv103 v120 hv120 nn120 v138 hv138 nn138 v149 hv149 nn149 j152_9 hj152_9) _ ?_
  refine own_go H0 hx hZ hown hby hw own_K1_ok (own_l1B_1 xp ai li v8 v19 v28 j152_9 v156 hv156) _ ?_
  refine stl1B_1 _ ?_
  refine own_go Hl1B_1 hx hZ hown hby hw own_K1_ok (own_l1B_2 xp ai li v8 v19 v28 j152_9 v164 hv164 v165 hv165 v168 hv168 nn168) _ ?_
  refine stl1B_2 _ ?_
  refine own_go Hl1B_2 hx hZ hown hby hw own_K1_ok (own_l1B_3 xp ai li v8 v19 v28 j152_9 hb172 hb179) _ ?_
  exact q
theorem own_l1C_0 (xp : Int32) (ai : Addr) (li : Addr) (v4 : Int32) (hv4 : (xp &&& (16383 : Int32)) = v4) (v8 : Int32) (hv8 : (v4 - (8192 : Int32)) = v8) (v14 : Int32) (hv14 : ((xp.toUInt32 >>> ((14 : Int32) &&& 31).toUInt32).toInt32) = v14) (v17 : Int32) (hv17 : (v14 &&& (7 : Int32)) = v17) (v19 : Int32) (hv19 : (v17 - (4 : Int32)) = v19) (v25 : Int32) (hv25 : ((xp.toUInt32 >>> ((17 : Int32) &&& 31).toUInt32).toInt32) = v25) (v28 : Int32) (hv28 : (v25 &&& (7 : Int32)) = v28) (v58 : UInt64) (hv58 : (FP.ddiv (4472406533629990549 : UInt64) (4611686018427387904 : UInt64)) = v58) (nn58 : NoNaN64 (FP.ddiv (4472406533629990549 : UInt64) (4611686018427387904 : UInt64))) (v85 : UInt64) (hv85 : (FP.dneg (4472406533629990549 : UInt64)) = v85) (v89 : UInt64) (hv89 : (FP.ddiv v85 (4611686018427387904 : UInt64)) = v89) (nn89 : NoNaN64 (FP.ddiv v85 (4611686018427387904 : UInt64))) (v103 : UInt64) (hv103 : (FP.dneg (4472406533629990549 : UInt64)) = v103) (v120 : UInt64) (hv120 : (FP.dmul (13835058055282163712 : UInt64) (4472406533629990549 : UInt64)) = v120) (nn120 : NoNaN64 (FP.dmul (13835058055282163712 : UInt64) (4472406533629990549 : UInt64))) (v138 : UInt64) (hv138 : (FP.dmul (4611686018427387904 : UInt64) (4472406533629990549 : UInt64)) = v138) (nn138 : NoNaN64 (FP.dmul (4611686018427387904 : UInt64) (4472406533629990549 : UInt64))) (v149 : UInt64) (hv149 : (FP.dmul (4613937818241073152 : UInt64) (4472406533629990549 : UInt64)) = v149) (nn149 : NoNaN64 (FP.dmul (4613937818241073152 : UInt64) (4472406533629990549 : UInt64))) (j152_9 : UInt64) (hj152_9 : (bif ifCond.holds .ne v28 then (bif if_icmp.holds .ne v28 (1 : Int32) then (bif if_icmp.holds .ne v28 (2 : Int32) then (bif if_icmp.holds .ne v28 (3 : Int32) then (bif if_icmp.holds .ne v28 (4 : Int32) then (bif if_icmp.holds .ne v28 (5 : Int32) then (bif if_icmp.holds .ne v28 (6 : Int32) then v149 else v138) else v120) else v103) else v89) else (4472406533629990549 : UInt64)) else v58) else (0 : UInt64)) = j152_9) :
    own_Go own_K1 method_3_code 0 #[.val (.int xp), .val (.ref ai), .val (.ref li), .val (.int (1 : Int32)), .unset, .unset, .unset, .unset, .unset, .unset, .unset] [] 152 #[.val (.int xp), .val (.ref ai), .val (.ref li), .val (.int (1 : Int32)), .val (.int v8), .val (.int v19), .val (.int v28), .val (.double (4472406533629990549 : UInt64)), .second, .val (.double j152_9), .second] [] := by
  subst hj152_9
  refine own_iloadN (pc2 := 1) d1_0 rfl rfl ?_
  refine own_sipush (v := 16383) (pc2 := 4) d1_1 rfl rfl ?_
  refine own_iand (pc2 := 5) d1_4 rfl (v := v4) hv4 ?_
  refine own_sipush (v := 8192) (pc2 := 8) d1_5 rfl rfl ?_
  refine own_isub (pc2 := 9) d1_8 rfl (v := v8) hv8 ?_
  refine own_istore (pc2 := 11) d1_9 rfl (L' := #[.val (.int xp), .val (.ref ai), .val (.ref li), .val (.int (1 : Int32)), .val (.int v8), .unset, .unset, .unset, .unset, .unset, .unset]) rfl ?_
  refine own_iloadN (pc2 := 12) d1_11 rfl rfl ?_
  refine own_bipush (v := 14) (pc2 := 14) d1_12 rfl rfl ?_
  refine own_iushr (pc2 := 15) d1_14 rfl (v := v14) hv14 ?_
  refine own_bipush (v := 7) (pc2 := 17) d1_15 rfl rfl ?_
  refine own_iand (pc2 := 18) d1_17 rfl (v := v17) hv17 ?_
  refine own_iconst (v := 4) (pc2 := 19) d1_18 rfl rfl ?_
  refine own_isub (pc2 := 20) d1_19 rfl (v := v19) hv19 ?_
  refine own_istore (pc2 := 22) d1_20 rfl (L' := #[.val (.int xp), .val (.ref ai), .val (.ref li), .val (.int (1 : Int32)), .val (.int v8), .val (.int v19), .unset, .unset, .unset, .unset, .unset]) rfl ?_
  refine own_iloadN (pc2 := 23) d1_22 rfl rfl ?_
  refine own_bipush (v := 17) (pc2 := 25) d1_23 rfl rfl ?_
  refine own_iushr (pc2 := 26) d1_25 rfl (v := v25) hv25 ?_
  refine own_bipush (v := 7) (pc2 := 28) d1_26 rfl rfl ?_
  refine own_iand (pc2 := 29) d1_28 rfl (v := v28) hv28 ?_
  refine own_istore (pc2 := 31) d1_29 rfl (L' := #[.val (.int xp), .val (.ref ai), .val (.ref li), .val (.int (1 : Int32)), .val (.int v8), .val (.int v19), .val (.int v28), .unset, .unset, .unset, .unset]) rfl ?_
  refine own_ldc2D (v := (4472406533629990549 : UInt64)) (pc2 := 34) d1_31 rfl (List.mem_of_getElem? (i := 0) rfl) ?_
  refine own_dstore (pc2 := 36) d1_34 rfl (L' := #[.val (.int xp), .val (.ref ai), .val (.ref li), .val (.int (1 : Int32)), .val (.int v8), .val (.int v19), .val (.int v28), .val (.double (4472406533629990549 : UInt64)), .second, .unset, .unset]) rfl ?_
  refine own_iload (pc2 := 38) d1_36 rfl rfl ?_
  cases hb38 : ifCond.holds .ne v28
  · refine own_ifNo (pc2 := 41) d1_38 rfl hb38 ?_
    refine own_dconst0 (v := 0) (pc2 := 42) d1_41 rfl rfl ?_
    refine own_dstore (pc2 := 44) d1_42 rfl (L' := #[.val (.int xp), .val (.ref ai), .val (.ref li), .val (.int (1 : Int32)), .val (.int v8), .val (.int v19), .val (.int v28), .val (.double (4472406533629990549 : UInt64)), .second, .val (.double (0 : UInt64)), .second]) rfl ?_
    refine own_goto (pc' := 152) d1_44 (by decide) (by decide) ?_
    exact own_refl
  · refine own_ifYes (pc' := 47) d1_38 hb38 (by decide) (by decide) ?_
    refine own_iload (pc2 := 49) d1_47 rfl rfl ?_
    refine own_iconst (v := 1) (pc2 := 50) d1_49 rfl rfl ?_
    cases hb50 : if_icmp.holds .ne v28 (1 : Int32)
    · refine own_icmpNo (pc2 := 53) d1_50 rfl hb50 ?_
      refine own_dload (pc2 := 55) d1_53 rfl rfl ?_
      refine own_ldc2D (v := (4611686018427387904 : UInt64)) (pc2 := 58) d1_55 rfl (List.mem_of_getElem? (i := 2) rfl) ?_
      refine own_ddiv (pc2 := 59) d1_58 rfl nn58 (v := v58) hv58 ?_
      refine own_dstore (pc2 := 61) d1_59 rfl (L' := #[.val (.int xp), .val (.ref ai), .val (.ref li), .val (.int (1 : Int32)), .val (.int v8), .val (.int v19), .val (.int v28), .val (.double (4472406533629990549 : UInt64)), .second, .val (.double v58), .second]) rfl ?_
      refine own_goto (pc' := 152) d1_61 (by decide) (by decide) ?_
      exact own_refl
    · refine own_icmpYes (pc' := 64) d1_50 hb50 (by decide) (by decide) ?_
      refine own_iload (pc2 := 66) d1_64 rfl rfl ?_
      refine own_iconst (v := 2) (pc2 := 67) d1_66 rfl rfl ?_
      cases hb67 : if_icmp.holds .ne v28 (2 : Int32)
      · refine own_icmpNo (pc2 := 70) d1_67 rfl hb67 ?_
        refine own_dload (pc2 := 72) d1_70 rfl rfl ?_
        refine own_dstore (pc2 := 74) d1_72 rfl (L' := #[.val (.int xp), .val (.ref ai), .val (.ref li), .val (.int (1 : Int32)), .val (.int v8), .val (.int v19), .val (.int v28), .val (.double (4472406533629990549 : UInt64)), .second, .val (.double (4472406533629990549 : UInt64)), .second]) rfl ?_
        refine own_goto (pc' := 152) d1_74 (by decide) (by decide) ?_
        exact own_refl
      · refine own_icmpYes (pc' := 77) d1_67 hb67 (by decide) (by decide) ?_
        refine own_iload (pc2 := 79) d1_77 rfl rfl ?_
        refine own_iconst (v := 3) (pc2 := 80) d1_79 rfl rfl ?_
        cases hb80 : if_icmp.holds .ne v28 (3 : Int32)
        · refine own_icmpNo (pc2 := 83) d1_80 rfl hb80 ?_
          refine own_dload (pc2 := 85) d1_83 rfl rfl ?_
          refine own_dneg (pc2 := 86) d1_85 rfl (v := v85) hv85 ?_
          refine own_ldc2D (v := (4611686018427387904 : UInt64)) (pc2 := 89) d1_86 rfl (List.mem_of_getElem? (i := 2) rfl) ?_
          refine own_ddiv (pc2 := 90) d1_89 rfl nn89 (v := v89) hv89 ?_
          refine own_dstore (pc2 := 92) d1_90 rfl (L' := #[.val (.int xp), .val (.ref ai), .val (.ref li), .val (.int (1 : Int32)), .val (.int v8), .val (.int v19), .val (.int v28), .val (.double (4472406533629990549 : UInt64)), .second, .val (.double v89), .second]) rfl ?_
          refine own_goto (pc' := 152) d1_92 (by decide) (by decide) ?_
          exact own_refl
        · refine own_icmpYes (pc' := 95) d1_80 hb80 (by decide) (by decide) ?_
          refine own_iload (pc2 := 97) d1_95 rfl rfl ?_
          refine own_iconst (v := 4) (pc2 := 98) d1_97 rfl rfl ?_
          cases hb98 : if_icmp.holds .ne v28 (4 : Int32)
          · refine own_icmpNo (pc2 := 101) d1_98 rfl hb98 ?_
            refine own_dload (pc2 := 103) d1_101 rfl rfl ?_
            refine own_dneg (pc2 := 104) d1_103 rfl (v := v103) hv103 ?_
            refine own_dstore (pc2 := 106) d1_104 rfl (L' := #[.val (.int xp), .val (.ref ai), .val (.ref li), .val (.int (1 : Int32)), .val (.int v8), .val (.int v19), .val (.int v28), .val (.double (4472406533629990549 : UInt64)), .second, .val (.double v103), .second]) rfl ?_
            refine own_goto (pc' := 152) d1_106 (by decide) (by decide) ?_
            exact own_refl
          · refine own_icmpYes (pc' := 109) d1_98 hb98 (by decide) (by decide) ?_
            refine own_iload (pc2 := 111) d1_109 rfl rfl ?_
            refine own_iconst (v := 5) (pc2 := 112) d1_111 rfl rfl ?_
            cases hb112 : if_icmp.holds .ne v28 (5 : Int32)
            · refine own_icmpNo (pc2 := 115) d1_112 rfl hb112 ?_
              refine own_ldc2D (v := (13835058055282163712 : UInt64)) (pc2 := 118) d1_115 rfl (List.mem_of_getElem? (i := 3) rfl) ?_
              refine own_dload (pc2 := 120) d1_118 rfl rfl ?_
              refine own_dmul (pc2 := 121) d1_120 rfl nn120 (v := v120) hv120 ?_
              refine own_dstore (pc2 := 123) d1_121 rfl (L' := #[.val (.int xp), .val (.ref ai), .val (.ref li), .val (.int (1 : Int32)), .val (.int v8), .val (.int v19), .val (.int v28), .val (.double (4472406533629990549 : UInt64)), .second, .val (.double v120), .second]) rfl ?_
              refine own_goto (pc' := 152) d1_123 (by decide) (by decide) ?_
              exact own_refl
            · refine own_icmpYes (pc' := 126) d1_112 hb112 (by decide) (by decide) ?_
              refine own_iload (pc2 := 128) d1_126 rfl rfl ?_
              refine own_bipush (v := 6) (pc2 := 130) d1_128 rfl rfl ?_
              cases hb130 : if_icmp.holds .ne v28 (6 : Int32)
              · refine own_icmpNo (pc2 := 133) d1_130 rfl hb130 ?_
                refine own_ldc2D (v := (4611686018427387904 : UInt64)) (pc2 := 136) d1_133 rfl (List.mem_of_getElem? (i := 2) rfl) ?_
                refine own_dload (pc2 := 138) d1_136 rfl rfl ?_
                refine own_dmul (pc2 := 139) d1_138 rfl nn138 (v := v138) hv138 ?_
                refine own_dstore (pc2 := 141) d1_139 rfl (L' := #[.val (.int xp), .val (.ref ai), .val (.ref li), .val (.int (1 : Int32)), .val (.int v8), .val (.int v19), .val (.int v28), .val (.double (4472406533629990549 : UInt64)), .second, .val (.double v138), .second]) rfl ?_
                refine own_goto (pc' := 152) d1_141 (by decide) (by decide) ?_
                exact own_refl
              · refine own_icmpYes (pc' := 144) d1_130 hb130 (by decide) (by decide) ?_
                refine own_ldc2D (v := (4613937818241073152 : UInt64)) (pc2 := 147) d1_144 rfl (List.mem_of_getElem? (i := 1) rfl) ?_
                refine own_dload (pc2 := 149) d1_147 rfl rfl ?_
                refine own_dmul (pc2 := 150) d1_149 rfl nn149 (v := v149) hv149 ?_
                refine own_dstore (pc2 := 152) d1_150 rfl (L' := #[.val (.int xp), .val (.ref ai), .val (.ref li), .val (.int (1 : Int32)), .val (.int v8), .val (.int v19), .val (.int v28), .val (.double (4472406533629990549 : UInt64)), .second, .val (.double v149), .second]) rfl ?_
                exact own_refl
theorem own_l1C_1 (xp : Int32) (ai : Addr) (li : Addr) (v8 : Int32) (v19 : Int32) (v28 : Int32) (j152_9 : UInt64) (v156 : UInt64) (hv156 : (FP.i2d v8) = v156) :
    own_Go own_K1 method_3_code 152 #[.val (.int xp), .val (.ref ai), .val (.ref li), .val (.int (1 : Int32)), .val (.int v8), .val (.int v19), .val (.int v28), .val (.double (4472406533629990549 : UInt64)), .second, .val (.double j152_9), .second] [] 157 #[.val (.int xp), .val (.ref ai), .val (.ref li), .val (.int (1 : Int32)), .val (.int v8), .val (.int v19), .val (.int v28), .val (.double (4472406533629990549 : UInt64)), .second, .val (.double j152_9), .second] [(.double v156), (.int (1 : Int32)), (.ref ai)] := by
  refine own_aloadN (pc2 := 153) d1_152 rfl rfl rfl ?_
  refine own_iloadN (pc2 := 154) d1_153 rfl rfl ?_
  refine own_iload (pc2 := 156) d1_154 rfl rfl ?_
  refine own_i2d (pc2 := 157) d1_156 rfl (v := v156) hv156 ?_
  exact own_refl
theorem own_l1C_2 (xp : Int32) (ai : Addr) (li : Addr) (v8 : Int32) (v19 : Int32) (v28 : Int32) (j152_9 : UInt64) (v164 : Int32) (hv164 : (v8 + v19) = v164) (v165 : UInt64) (hv165 : (FP.i2d v164) = v165) (v168 : UInt64) (hv168 : (FP.dadd v165 j152_9) = v168) (nn168 : NoNaN64 (FP.dadd v165 j152_9)) :
    own_Go own_K1 method_3_code 158 #[.val (.int xp), .val (.ref ai), .val (.ref li), .val (.int (1 : Int32)), .val (.int v8), .val (.int v19), .val (.int v28), .val (.double (4472406533629990549 : UInt64)), .second, .val (.double j152_9), .second] [] 169 #[.val (.int xp), .val (.ref ai), .val (.ref li), .val (.int (1 : Int32)), .val (.int v8), .val (.int v19), .val (.int v28), .val (.double (4472406533629990549 : UInt64)), .second, .val (.double j152_9), .second] [(.double v168), (.int (1 : Int32)), (.ref li)] := by
  refine own_aloadN (pc2 := 159) d1_158 rfl rfl rfl ?_
  refine own_iloadN (pc2 := 160) d1_159 rfl rfl ?_
  refine own_iload (pc2 := 162) d1_160 rfl rfl ?_
  refine own_iload (pc2 := 164) d1_162 rfl rfl ?_
  refine own_iadd (pc2 := 165) d1_164 rfl (v := v164) hv164 ?_
  refine own_i2d (pc2 := 166) d1_165 rfl (v := v165) hv165 ?_
  refine own_dload (pc2 := 168) d1_166 rfl rfl ?_
  refine own_dadd (pc2 := 169) d1_168 rfl nn168 (v := v168) hv168 ?_
  exact own_refl
theorem own_l1C_3 (xp : Int32) (ai : Addr) (li : Addr) (v8 : Int32) (v19 : Int32) (v28 : Int32) (j152_9 : UInt64) (hb172 : ifCond.holds .ge v19 = true) (hb179 : ifCond.holds .le v19 = true) (hb187 : if_icmp.holds .gt v28 (5 : Int32) = false) :
    own_Go own_K1 method_3_code 170 #[.val (.int xp), .val (.ref ai), .val (.ref li), .val (.int (1 : Int32)), .val (.int v8), .val (.int v19), .val (.int v28), .val (.double (4472406533629990549 : UInt64)), .second, .val (.double j152_9), .second] [] 195 #[.val (.int xp), .val (.ref ai), .val (.ref li), .val (.int (1 : Int32)), .val (.int v8), .val (.int v19), .val (.int v28), .val (.double (4472406533629990549 : UInt64)), .second, .val (.double j152_9), .second] [(.int (1 : Int32))] := by
  refine own_iload (pc2 := 172) d1_170 rfl rfl ?_
  refine own_ifYes (pc' := 177) d1_172 hb172 (by decide) (by decide) ?_
  refine own_iload (pc2 := 179) d1_177 rfl rfl ?_
  refine own_ifYes (pc' := 184) d1_179 hb179 (by decide) (by decide) ?_
  refine own_iload (pc2 := 186) d1_184 rfl rfl ?_
  refine own_iconst (v := 5) (pc2 := 187) d1_186 rfl rfl ?_
  refine own_icmpNo (pc2 := 190) d1_187 rfl hb187 ?_
  refine own_iconst (v := 1) (pc2 := 191) d1_190 rfl rfl ?_
  refine own_goto (pc' := 195) d1_191 (by decide) (by decide) ?_
  exact own_refl
set_option maxRecDepth 65536 in
set_option maxHeartbeats 4000000 in
theorem own_fill1C (l : Launch) (Z : State) (a0 : Array Value) (hb0 : own_Base) (hw : ∀ d ∈ tables_1, d.before a0 Z = true) (xp : Int32) (ai : Addr) (li : Addr) (a0_ a1_ a2_ b0_ b1_ b2_ : UInt64) (hd : ((((xp.toUInt32 >>> ((14 : Int32) &&& 31).toUInt32).toInt32) &&& (7 : Int32)) - (4 : Int32)).toInt = 0 ∧ (((xp.toUInt32 >>> ((17 : Int32) &&& 31).toUInt32).toInt32) &&& (7 : Int32)).toInt ≤ 5) :
    own_Met l Z a0 hb0 (⟨"com/example/placewright/placewright/model/MachineTypeHolds334PinLaw", "fill", "(I[D[DI)Z"⟩ : MethodName) method_3_code 11 (some .boolean) [] ({ frames := 0, cells := 0, slots := 0, locals := 0 } : Room) #[(.int xp), (.ref ai), (.ref li), (.int (1 : Int32))] [(ai, own_A .double [.double a0_, .double a1_, .double a2_]), (li, own_A .double [.double b0_, .double b1_, .double b2_])] (fun r cs' => ∃ ca lo, NoNaN64 (FP.dadd ca (4472406533629990549 : UInt64)) ∧ ifCond.holds .gt (cmpValue (FP.dcmp lo (FP.dadd ca (4472406533629990549 : UInt64))) .g) = false ∧ r = some (.int 1) ∧ cs' = [(ai, own_A .double [.double a0_, .double ca, .double a2_]), (li, own_A .double [.double b0_, .double lo, .double b2_])]) := by
  refine own_met_of (L0 := #[.val (.int xp), .val (.ref ai), .val (.ref li), .val (.int (1 : Int32)), .unset, .unset, .unset, .unset, .unset, .unset, .unset]) (plainFor_of_name own_pn1) (fun m => own_ef1 m xp ai li (1 : Int32)) ?_
  intro p e s m below meth c T0 hx hZ hown hby hml hnm H0
  obtain ⟨v4, hv4⟩ : ∃ z : Int32, (xp &&& (16383 : Int32)) = z := ⟨_, rfl⟩
  obtain ⟨v8, hv8⟩ : ∃ z : Int32, (v4 - (8192 : Int32)) = z := ⟨_, rfl⟩
  obtain ⟨v14, hv14⟩ : ∃ z : Int32, ((xp.toUInt32 >>> ((14 : Int32) &&& 31).toUInt32).toInt32) = z := ⟨_, rfl⟩
  obtain ⟨v17, hv17⟩ : ∃ z : Int32, (v14 &&& (7 : Int32)) = z := ⟨_, rfl⟩
  obtain ⟨v19, hv19⟩ : ∃ z : Int32, (v17 - (4 : Int32)) = z := ⟨_, rfl⟩
  obtain ⟨v25, hv25⟩ : ∃ z : Int32, ((xp.toUInt32 >>> ((17 : Int32) &&& 31).toUInt32).toInt32) = z := ⟨_, rfl⟩
  obtain ⟨v28, hv28⟩ : ∃ z : Int32, (v25 &&& (7 : Int32)) = z := ⟨_, rfl⟩
  obtain ⟨v58, hv58⟩ : ∃ z : UInt64, (FP.ddiv (4472406533629990549 : UInt64) (4611686018427387904 : UInt64)) = z := ⟨_, rfl⟩
  obtain ⟨v85, hv85⟩ : ∃ z : UInt64, (FP.dneg (4472406533629990549 : UInt64)) = z := ⟨_, rfl⟩
  obtain ⟨v89, hv89⟩ : ∃ z : UInt64, (FP.ddiv v85 (4611686018427387904 : UInt64)) = z := ⟨_, rfl⟩
  obtain ⟨v103, hv103⟩ : ∃ z : UInt64, (FP.dneg (4472406533629990549 : UInt64)) = z := ⟨_, rfl⟩
  obtain ⟨v120, hv120⟩ : ∃ z : UInt64, (FP.dmul (13835058055282163712 : UInt64) (4472406533629990549 : UInt64)) = z := ⟨_, rfl⟩
  obtain ⟨v138, hv138⟩ : ∃ z : UInt64, (FP.dmul (4611686018427387904 : UInt64) (4472406533629990549 : UInt64)) = z := ⟨_, rfl⟩
  obtain ⟨v149, hv149⟩ : ∃ z : UInt64, (FP.dmul (4613937818241073152 : UInt64) (4472406533629990549 : UInt64)) = z := ⟨_, rfl⟩
  obtain ⟨j152_9, hj152_9⟩ : ∃ z : UInt64, (bif ifCond.holds .ne v28 then (bif if_icmp.holds .ne v28 (1 : Int32) then (bif if_icmp.holds .ne v28 (2 : Int32) then (bif if_icmp.holds .ne v28 (3 : Int32) then (bif if_icmp.holds .ne v28 (4 : Int32) then (bif if_icmp.holds .ne v28 (5 : Int32) then (bif if_icmp.holds .ne v28 (6 : Int32) then v149 else v138) else v120) else v103) else v89) else (4472406533629990549 : UInt64)) else v58) else (0 : UInt64)) = z := ⟨_, rfl⟩
  obtain ⟨v156, hv156⟩ : ∃ z : UInt64, (FP.i2d v8) = z := ⟨_, rfl⟩
  obtain ⟨Tl1C_1, Hl1C_1, stl1C_1⟩ := own_dastore H0 hx hZ 0 1 rfl (by decide) (Nat.le_of_ble_eq_true rfl) (g := (mkF m 157 #[.val (.int xp), .val (.ref ai), .val (.ref li), .val (.int (1 : Int32)), .val (.int v8), .val (.int v19), .val (.int v28), .val (.double (4472406533629990549 : UInt64)), .second, .val (.double j152_9), .second] [(.double v156), (.int (1 : Int32)), (.ref ai)])) rfl rfl (hb hby d1_157)
  change own_S _ _ _ _ _ _ _ _ _ _ _ _ _ _ [(ai, own_A .double [.double a0_, .double v156, .double a2_]), (li, own_A .double [.double b0_, .double b1_, .double b2_])] _ _ at Hl1C_1
  obtain ⟨v164, hv164⟩ : ∃ z : Int32, (v8 + v19) = z := ⟨_, rfl⟩
  obtain ⟨v165, hv165⟩ : ∃ z : UInt64, (FP.i2d v164) = z := ⟨_, rfl⟩
  obtain ⟨v168, hv168⟩ : ∃ z : UInt64, (FP.dadd v165 j152_9) = z := ⟨_, rfl⟩
  obtain ⟨Tl1C_2, Hl1C_2, stl1C_2⟩ := own_dastore Hl1C_1 hx hZ 1 1 rfl (by decide) (Nat.le_of_ble_eq_true rfl) (g := (mkF m 169 #[.val (.int xp), .val (.ref ai), .val (.ref li), .val (.int (1 : Int32)), .val (.int v8), .val (.int v19), .val (.int v28), .val (.double (4472406533629990549 : UInt64)), .second, .val (.double j152_9), .second] [(.double v168), (.int (1 : Int32)), (.ref li)])) rfl rfl (hb hby d1_169)
  change own_S _ _ _ _ _ _ _ _ _ _ _ _ _ _ [(ai, own_A .double [.double a0_, .double v156, .double a2_]), (li, own_A .double [.double b0_, .double v168, .double b2_])] _ _ at Hl1C_2
  have ec : v8.toInt = (xp.toInt % 16384) - 8192 := by
    have h1 := c_mask xp 16383 14 (by decide) (by decide)
    have h2 := c_isub v4 8192
    have := rng32 v8
    rw [hv4] at h1
    rw [hv8, show (8192 : Int32).toInt = 8192 from rfl] at h2
    omega
  have bd : v19.toInt ≤ 4 ∧ -4 ≤ v19.toInt := by
    have h1 := c_mask v14 7 3 (by decide) (by decide)
    have h2 := c_isub v17 4
    have := rng32 v19
    rw [hv17] at h1
    rw [hv19, show (4 : Int32).toInt = 4 from rfl] at h2
    omega
  have es : v164.toInt = v8.toInt + v19.toInt := by
    have h2 := c_iadd v8 v19
    have := rng32 v164
    rw [hv164] at h2
    omega
  have hd' := hd
  rw [hv14, hv17, hv19, hv25, hv28] at hd'
  have hk := own_m7 v25
  rw [hv28] at hk
  obtain ⟨o, io, o1, o2, oo⟩ := own_offs v28 hk
  have ej : own_off v28 = j152_9 := by rw [← hj152_9, ← hv149, ← hv138, ← hv120, ← hv103, ← hv89, ← hv85, ← hv58]; rfl
  rw [ej] at io
  have ic : own_is v156 ((v8.toInt : Int) : Rat) := by rw [← hv156]; exact own_isI _
  have is : own_is v165 ((v8.toInt + v19.toInt : Int) : Rat) := by rw [← hv165, ← es]; exact own_isI _
  have nn58 : NoNaN64 (FP.ddiv (4472406533629990549 : UInt64) (4611686018427387904 : UInt64)) := own_is_no own_o1
  have nn89 : NoNaN64 (FP.ddiv v85 (4611686018427387904 : UInt64)) := by rw [← hv85]; exact own_is_no own_o3
  have nn120 : NoNaN64 (FP.dmul (13835058055282163712 : UInt64) (4472406533629990549 : UInt64)) := own_is_no own_o5
  have nn138 : NoNaN64 (FP.dmul (4611686018427387904 : UInt64) (4472406533629990549 : UInt64)) := own_is_no own_o6
  have nn149 : NoNaN64 (FP.dmul (4613937818241073152 : UInt64) (4472406533629990549 : UInt64)) := by obtain ⟨_, h, -⟩ := own_o7; exact own_is_no h
  have nn168 : NoNaN64 (FP.dadd v165 j152_9) := own_rd_no (own_add is io)
  have hR := own_rC ic is io (by omega) bd o1 o2 hd'.1 (by rcases oo with oo | oo; exact oo.2; omega)
  rw [hv168] at hR
  have nR : NoNaN64 (FP.dadd v156 (4472406533629990549 : UInt64)) := own_rd_no (own_add ic own_ist)
  have hb172 : ifCond.holds .ge v19 = true := by rw [own_z_ge]; exact decide_eq_true (by omega)
  have hb179 : ifCond.holds .le v19 = true := by rw [own_z_le]; exact decide_eq_true (by omega)
  have hb187 : if_icmp.holds .gt v28 (5 : Int32) = false := by rw [own_i_gt, show (5 : Int32).toInt = 5 from rfl]; exact decide_eq_false (by omega)
  refine ⟨_, _, _, _, 195, #[.val (.int xp), .val (.ref ai), .val (.ref li), .val (.int (1 : Int32)), .val (.int v8), .val (.int v19), .val (.int v28), .val (.double (4472406533629990549 : UInt64)), .second, .val (.double j152_9), .second], Hl1C_2, by decide, by decide, Or.inr ⟨.boolean, (.int (1 : Int32)), [], .ireturn, rfl, ⟨v156, v168, nR, hR, rfl, rfl⟩, d1_195, own_retZ (Or.inr rfl), fun target q => ?_⟩⟩
  refine own_go H0 hx hZ hown hby hw own_K1_ok (own_l1C_0 xp ai li v4 hv4 v8 hv8 v14 hv14 v17 hv17 v19 hv19 v25 hv25 v28 hv28 v58 hv58 nn58 v85 hv85 v89 hv89 nn89 v103 hv103 v120 hv120 nn120 v138 hv138 nn138 v149 hv149 nn149 j152_9 hj152_9) _ ?_
  refine own_go H0 hx hZ hown hby hw own_K1_ok (own_l1C_1 xp ai li v8 v19 v28 j152_9 v156 hv156) _ ?_
  refine stl1C_1 _ ?_
  refine own_go Hl1C_1 hx hZ hown hby hw own_K1_ok (own_l1C_2 xp ai li v8 v19 v28 j152_9 v164 hv164 v165 hv165 v168 hv168 nn168) _ ?_
  refine stl1C_2 _ ?_
  refine own_go Hl1C_2 hx hZ hown hby hw own_K1_ok (own_l1C_3 xp ai li v8 v19 v28 j152_9 hb172 hb179 hb187) _ ?_
  exact q
theorem own_l1D_0 (xp : Int32) (ai : Addr) (li : Addr) (v4 : Int32) (hv4 : (xp &&& (16383 : Int32)) = v4) (v8 : Int32) (hv8 : (v4 - (8192 : Int32)) = v8) (v14 : Int32) (hv14 : ((xp.toUInt32 >>> ((14 : Int32) &&& 31).toUInt32).toInt32) = v14) (v17 : Int32) (hv17 : (v14 &&& (7 : Int32)) = v17) (v19 : Int32) (hv19 : (v17 - (4 : Int32)) = v19) (v25 : Int32) (hv25 : ((xp.toUInt32 >>> ((17 : Int32) &&& 31).toUInt32).toInt32) = v25) (v28 : Int32) (hv28 : (v25 &&& (7 : Int32)) = v28) (v58 : UInt64) (hv58 : (FP.ddiv (4472406533629990549 : UInt64) (4611686018427387904 : UInt64)) = v58) (nn58 : NoNaN64 (FP.ddiv (4472406533629990549 : UInt64) (4611686018427387904 : UInt64))) (v85 : UInt64) (hv85 : (FP.dneg (4472406533629990549 : UInt64)) = v85) (v89 : UInt64) (hv89 : (FP.ddiv v85 (4611686018427387904 : UInt64)) = v89) (nn89 : NoNaN64 (FP.ddiv v85 (4611686018427387904 : UInt64))) (v103 : UInt64) (hv103 : (FP.dneg (4472406533629990549 : UInt64)) = v103) (v120 : UInt64) (hv120 : (FP.dmul (13835058055282163712 : UInt64) (4472406533629990549 : UInt64)) = v120) (nn120 : NoNaN64 (FP.dmul (13835058055282163712 : UInt64) (4472406533629990549 : UInt64))) (v138 : UInt64) (hv138 : (FP.dmul (4611686018427387904 : UInt64) (4472406533629990549 : UInt64)) = v138) (nn138 : NoNaN64 (FP.dmul (4611686018427387904 : UInt64) (4472406533629990549 : UInt64))) (v149 : UInt64) (hv149 : (FP.dmul (4613937818241073152 : UInt64) (4472406533629990549 : UInt64)) = v149) (nn149 : NoNaN64 (FP.dmul (4613937818241073152 : UInt64) (4472406533629990549 : UInt64))) (j152_9 : UInt64) (hj152_9 : (bif ifCond.holds .ne v28 then (bif if_icmp.holds .ne v28 (1 : Int32) then (bif if_icmp.holds .ne v28 (2 : Int32) then (bif if_icmp.holds .ne v28 (3 : Int32) then (bif if_icmp.holds .ne v28 (4 : Int32) then (bif if_icmp.holds .ne v28 (5 : Int32) then (bif if_icmp.holds .ne v28 (6 : Int32) then v149 else v138) else v120) else v103) else v89) else (4472406533629990549 : UInt64)) else v58) else (0 : UInt64)) = j152_9) :
    own_Go own_K1 method_3_code 0 #[.val (.int xp), .val (.ref ai), .val (.ref li), .val (.int (1 : Int32)), .unset, .unset, .unset, .unset, .unset, .unset, .unset] [] 152 #[.val (.int xp), .val (.ref ai), .val (.ref li), .val (.int (1 : Int32)), .val (.int v8), .val (.int v19), .val (.int v28), .val (.double (4472406533629990549 : UInt64)), .second, .val (.double j152_9), .second] [] := by
  subst hj152_9
  refine own_iloadN (pc2 := 1) d1_0 rfl rfl ?_
  refine own_sipush (v := 16383) (pc2 := 4) d1_1 rfl rfl ?_
  refine own_iand (pc2 := 5) d1_4 rfl (v := v4) hv4 ?_
  refine own_sipush (v := 8192) (pc2 := 8) d1_5 rfl rfl ?_
  refine own_isub (pc2 := 9) d1_8 rfl (v := v8) hv8 ?_
  refine own_istore (pc2 := 11) d1_9 rfl (L' := #[.val (.int xp), .val (.ref ai), .val (.ref li), .val (.int (1 : Int32)), .val (.int v8), .unset, .unset, .unset, .unset, .unset, .unset]) rfl ?_
  refine own_iloadN (pc2 := 12) d1_11 rfl rfl ?_
  refine own_bipush (v := 14) (pc2 := 14) d1_12 rfl rfl ?_
  refine own_iushr (pc2 := 15) d1_14 rfl (v := v14) hv14 ?_
  refine own_bipush (v := 7) (pc2 := 17) d1_15 rfl rfl ?_
  refine own_iand (pc2 := 18) d1_17 rfl (v := v17) hv17 ?_
  refine own_iconst (v := 4) (pc2 := 19) d1_18 rfl rfl ?_
  refine own_isub (pc2 := 20) d1_19 rfl (v := v19) hv19 ?_
  refine own_istore (pc2 := 22) d1_20 rfl (L' := #[.val (.int xp), .val (.ref ai), .val (.ref li), .val (.int (1 : Int32)), .val (.int v8), .val (.int v19), .unset, .unset, .unset, .unset, .unset]) rfl ?_
  refine own_iloadN (pc2 := 23) d1_22 rfl rfl ?_
  refine own_bipush (v := 17) (pc2 := 25) d1_23 rfl rfl ?_
  refine own_iushr (pc2 := 26) d1_25 rfl (v := v25) hv25 ?_
  refine own_bipush (v := 7) (pc2 := 28) d1_26 rfl rfl ?_
  refine own_iand (pc2 := 29) d1_28 rfl (v := v28) hv28 ?_
  refine own_istore (pc2 := 31) d1_29 rfl (L' := #[.val (.int xp), .val (.ref ai), .val (.ref li), .val (.int (1 : Int32)), .val (.int v8), .val (.int v19), .val (.int v28), .unset, .unset, .unset, .unset]) rfl ?_
  refine own_ldc2D (v := (4472406533629990549 : UInt64)) (pc2 := 34) d1_31 rfl (List.mem_of_getElem? (i := 0) rfl) ?_
  refine own_dstore (pc2 := 36) d1_34 rfl (L' := #[.val (.int xp), .val (.ref ai), .val (.ref li), .val (.int (1 : Int32)), .val (.int v8), .val (.int v19), .val (.int v28), .val (.double (4472406533629990549 : UInt64)), .second, .unset, .unset]) rfl ?_
  refine own_iload (pc2 := 38) d1_36 rfl rfl ?_
  cases hb38 : ifCond.holds .ne v28
  · refine own_ifNo (pc2 := 41) d1_38 rfl hb38 ?_
    refine own_dconst0 (v := 0) (pc2 := 42) d1_41 rfl rfl ?_
    refine own_dstore (pc2 := 44) d1_42 rfl (L' := #[.val (.int xp), .val (.ref ai), .val (.ref li), .val (.int (1 : Int32)), .val (.int v8), .val (.int v19), .val (.int v28), .val (.double (4472406533629990549 : UInt64)), .second, .val (.double (0 : UInt64)), .second]) rfl ?_
    refine own_goto (pc' := 152) d1_44 (by decide) (by decide) ?_
    exact own_refl
  · refine own_ifYes (pc' := 47) d1_38 hb38 (by decide) (by decide) ?_
    refine own_iload (pc2 := 49) d1_47 rfl rfl ?_
    refine own_iconst (v := 1) (pc2 := 50) d1_49 rfl rfl ?_
    cases hb50 : if_icmp.holds .ne v28 (1 : Int32)
    · refine own_icmpNo (pc2 := 53) d1_50 rfl hb50 ?_
      refine own_dload (pc2 := 55) d1_53 rfl rfl ?_
      refine own_ldc2D (v := (4611686018427387904 : UInt64)) (pc2 := 58) d1_55 rfl (List.mem_of_getElem? (i := 2) rfl) ?_
      refine own_ddiv (pc2 := 59) d1_58 rfl nn58 (v := v58) hv58 ?_
      refine own_dstore (pc2 := 61) d1_59 rfl (L' := #[.val (.int xp), .val (.ref ai), .val (.ref li), .val (.int (1 : Int32)), .val (.int v8), .val (.int v19), .val (.int v28), .val (.double (4472406533629990549 : UInt64)), .second, .val (.double v58), .second]) rfl ?_
      refine own_goto (pc' := 152) d1_61 (by decide) (by decide) ?_
      exact own_refl
    · refine own_icmpYes (pc' := 64) d1_50 hb50 (by decide) (by decide) ?_
      refine own_iload (pc2 := 66) d1_64 rfl rfl ?_
      refine own_iconst (v := 2) (pc2 := 67) d1_66 rfl rfl ?_
      cases hb67 : if_icmp.holds .ne v28 (2 : Int32)
      · refine own_icmpNo (pc2 := 70) d1_67 rfl hb67 ?_
        refine own_dload (pc2 := 72) d1_70 rfl rfl ?_
        refine own_dstore (pc2 := 74) d1_72 rfl (L' := #[.val (.int xp), .val (.ref ai), .val (.ref li), .val (.int (1 : Int32)), .val (.int v8), .val (.int v19), .val (.int v28), .val (.double (4472406533629990549 : UInt64)), .second, .val (.double (4472406533629990549 : UInt64)), .second]) rfl ?_
        refine own_goto (pc' := 152) d1_74 (by decide) (by decide) ?_
        exact own_refl
      · refine own_icmpYes (pc' := 77) d1_67 hb67 (by decide) (by decide) ?_
        refine own_iload (pc2 := 79) d1_77 rfl rfl ?_
        refine own_iconst (v := 3) (pc2 := 80) d1_79 rfl rfl ?_
        cases hb80 : if_icmp.holds .ne v28 (3 : Int32)
        · refine own_icmpNo (pc2 := 83) d1_80 rfl hb80 ?_
          refine own_dload (pc2 := 85) d1_83 rfl rfl ?_
          refine own_dneg (pc2 := 86) d1_85 rfl (v := v85) hv85 ?_
          refine own_ldc2D (v := (4611686018427387904 : UInt64)) (pc2 := 89) d1_86 rfl (List.mem_of_getElem? (i := 2) rfl) ?_
          refine own_ddiv (pc2 := 90) d1_89 rfl nn89 (v := v89) hv89 ?_
          refine own_dstore (pc2 := 92) d1_90 rfl (L' := #[.val (.int xp), .val (.ref ai), .val (.ref li), .val (.int (1 : Int32)), .val (.int v8), .val (.int v19), .val (.int v28), .val (.double (4472406533629990549 : UInt64)), .second, .val (.double v89), .second]) rfl ?_
          refine own_goto (pc' := 152) d1_92 (by decide) (by decide) ?_
          exact own_refl
        · refine own_icmpYes (pc' := 95) d1_80 hb80 (by decide) (by decide) ?_
          refine own_iload (pc2 := 97) d1_95 rfl rfl ?_
          refine own_iconst (v := 4) (pc2 := 98) d1_97 rfl rfl ?_
          cases hb98 : if_icmp.holds .ne v28 (4 : Int32)
          · refine own_icmpNo (pc2 := 101) d1_98 rfl hb98 ?_
            refine own_dload (pc2 := 103) d1_101 rfl rfl ?_
            refine own_dneg (pc2 := 104) d1_103 rfl (v := v103) hv103 ?_
            refine own_dstore (pc2 := 106) d1_104 rfl (L' := #[.val (.int xp), .val (.ref ai), .val (.ref li), .val (.int (1 : Int32)), .val (.int v8), .val (.int v19), .val (.int v28), .val (.double (4472406533629990549 : UInt64)), .second, .val (.double v103), .second]) rfl ?_
            refine own_goto (pc' := 152) d1_106 (by decide) (by decide) ?_
            exact own_refl
          · refine own_icmpYes (pc' := 109) d1_98 hb98 (by decide) (by decide) ?_
            refine own_iload (pc2 := 111) d1_109 rfl rfl ?_
            refine own_iconst (v := 5) (pc2 := 112) d1_111 rfl rfl ?_
            cases hb112 : if_icmp.holds .ne v28 (5 : Int32)
            · refine own_icmpNo (pc2 := 115) d1_112 rfl hb112 ?_
              refine own_ldc2D (v := (13835058055282163712 : UInt64)) (pc2 := 118) d1_115 rfl (List.mem_of_getElem? (i := 3) rfl) ?_
              refine own_dload (pc2 := 120) d1_118 rfl rfl ?_
              refine own_dmul (pc2 := 121) d1_120 rfl nn120 (v := v120) hv120 ?_
              refine own_dstore (pc2 := 123) d1_121 rfl (L' := #[.val (.int xp), .val (.ref ai), .val (.ref li), .val (.int (1 : Int32)), .val (.int v8), .val (.int v19), .val (.int v28), .val (.double (4472406533629990549 : UInt64)), .second, .val (.double v120), .second]) rfl ?_
              refine own_goto (pc' := 152) d1_123 (by decide) (by decide) ?_
              exact own_refl
            · refine own_icmpYes (pc' := 126) d1_112 hb112 (by decide) (by decide) ?_
              refine own_iload (pc2 := 128) d1_126 rfl rfl ?_
              refine own_bipush (v := 6) (pc2 := 130) d1_128 rfl rfl ?_
              cases hb130 : if_icmp.holds .ne v28 (6 : Int32)
              · refine own_icmpNo (pc2 := 133) d1_130 rfl hb130 ?_
                refine own_ldc2D (v := (4611686018427387904 : UInt64)) (pc2 := 136) d1_133 rfl (List.mem_of_getElem? (i := 2) rfl) ?_
                refine own_dload (pc2 := 138) d1_136 rfl rfl ?_
                refine own_dmul (pc2 := 139) d1_138 rfl nn138 (v := v138) hv138 ?_
                refine own_dstore (pc2 := 141) d1_139 rfl (L' := #[.val (.int xp), .val (.ref ai), .val (.ref li), .val (.int (1 : Int32)), .val (.int v8), .val (.int v19), .val (.int v28), .val (.double (4472406533629990549 : UInt64)), .second, .val (.double v138), .second]) rfl ?_
                refine own_goto (pc' := 152) d1_141 (by decide) (by decide) ?_
                exact own_refl
              · refine own_icmpYes (pc' := 144) d1_130 hb130 (by decide) (by decide) ?_
                refine own_ldc2D (v := (4613937818241073152 : UInt64)) (pc2 := 147) d1_144 rfl (List.mem_of_getElem? (i := 1) rfl) ?_
                refine own_dload (pc2 := 149) d1_147 rfl rfl ?_
                refine own_dmul (pc2 := 150) d1_149 rfl nn149 (v := v149) hv149 ?_
                refine own_dstore (pc2 := 152) d1_150 rfl (L' := #[.val (.int xp), .val (.ref ai), .val (.ref li), .val (.int (1 : Int32)), .val (.int v8), .val (.int v19), .val (.int v28), .val (.double (4472406533629990549 : UInt64)), .second, .val (.double v149), .second]) rfl ?_
                exact own_refl
theorem own_l1D_1 (xp : Int32) (ai : Addr) (li : Addr) (v8 : Int32) (v19 : Int32) (v28 : Int32) (j152_9 : UInt64) (v156 : UInt64) (hv156 : (FP.i2d v8) = v156) :
    own_Go own_K1 method_3_code 152 #[.val (.int xp), .val (.ref ai), .val (.ref li), .val (.int (1 : Int32)), .val (.int v8), .val (.int v19), .val (.int v28), .val (.double (4472406533629990549 : UInt64)), .second, .val (.double j152_9), .second] [] 157 #[.val (.int xp), .val (.ref ai), .val (.ref li), .val (.int (1 : Int32)), .val (.int v8), .val (.int v19), .val (.int v28), .val (.double (4472406533629990549 : UInt64)), .second, .val (.double j152_9), .second] [(.double v156), (.int (1 : Int32)), (.ref ai)] := by
  refine own_aloadN (pc2 := 153) d1_152 rfl rfl rfl ?_
  refine own_iloadN (pc2 := 154) d1_153 rfl rfl ?_
  refine own_iload (pc2 := 156) d1_154 rfl rfl ?_
  refine own_i2d (pc2 := 157) d1_156 rfl (v := v156) hv156 ?_
  exact own_refl
theorem own_l1D_2 (xp : Int32) (ai : Addr) (li : Addr) (v8 : Int32) (v19 : Int32) (v28 : Int32) (j152_9 : UInt64) (v164 : Int32) (hv164 : (v8 + v19) = v164) (v165 : UInt64) (hv165 : (FP.i2d v164) = v165) (v168 : UInt64) (hv168 : (FP.dadd v165 j152_9) = v168) (nn168 : NoNaN64 (FP.dadd v165 j152_9)) :
    own_Go own_K1 method_3_code 158 #[.val (.int xp), .val (.ref ai), .val (.ref li), .val (.int (1 : Int32)), .val (.int v8), .val (.int v19), .val (.int v28), .val (.double (4472406533629990549 : UInt64)), .second, .val (.double j152_9), .second] [] 169 #[.val (.int xp), .val (.ref ai), .val (.ref li), .val (.int (1 : Int32)), .val (.int v8), .val (.int v19), .val (.int v28), .val (.double (4472406533629990549 : UInt64)), .second, .val (.double j152_9), .second] [(.double v168), (.int (1 : Int32)), (.ref li)] := by
  refine own_aloadN (pc2 := 159) d1_158 rfl rfl rfl ?_
  refine own_iloadN (pc2 := 160) d1_159 rfl rfl ?_
  refine own_iload (pc2 := 162) d1_160 rfl rfl ?_
  refine own_iload (pc2 := 164) d1_162 rfl rfl ?_
  refine own_iadd (pc2 := 165) d1_164 rfl (v := v164) hv164 ?_
  refine own_i2d (pc2 := 166) d1_165 rfl (v := v165) hv165 ?_
  refine own_dload (pc2 := 168) d1_166 rfl rfl ?_
  refine own_dadd (pc2 := 169) d1_168 rfl nn168 (v := v168) hv168 ?_
  exact own_refl
theorem own_l1D_3 (xp : Int32) (ai : Addr) (li : Addr) (v8 : Int32) (v19 : Int32) (v28 : Int32) (j152_9 : UInt64) (hb172 : ifCond.holds .ge v19 = true) (hb179 : ifCond.holds .le v19 = true) (hb187 : if_icmp.holds .gt v28 (5 : Int32) = true) :
    own_Go own_K1 method_3_code 170 #[.val (.int xp), .val (.ref ai), .val (.ref li), .val (.int (1 : Int32)), .val (.int v8), .val (.int v19), .val (.int v28), .val (.double (4472406533629990549 : UInt64)), .second, .val (.double j152_9), .second] [] 195 #[.val (.int xp), .val (.ref ai), .val (.ref li), .val (.int (1 : Int32)), .val (.int v8), .val (.int v19), .val (.int v28), .val (.double (4472406533629990549 : UInt64)), .second, .val (.double j152_9), .second] [(.int (0 : Int32))] := by
  refine own_iload (pc2 := 172) d1_170 rfl rfl ?_
  refine own_ifYes (pc' := 177) d1_172 hb172 (by decide) (by decide) ?_
  refine own_iload (pc2 := 179) d1_177 rfl rfl ?_
  refine own_ifYes (pc' := 184) d1_179 hb179 (by decide) (by decide) ?_
  refine own_iload (pc2 := 186) d1_184 rfl rfl ?_
  refine own_iconst (v := 5) (pc2 := 187) d1_186 rfl rfl ?_
  refine own_icmpYes (pc' := 194) d1_187 hb187 (by decide) (by decide) ?_
  refine own_iconst (v := 0) (pc2 := 195) d1_194 rfl rfl ?_
  exact own_refl
set_option maxRecDepth 65536 in
set_option maxHeartbeats 4000000 in
theorem own_fill1D (l : Launch) (Z : State) (a0 : Array Value) (hb0 : own_Base) (hw : ∀ d ∈ tables_1, d.before a0 Z = true) (xp : Int32) (ai : Addr) (li : Addr) (a0_ a1_ a2_ b0_ b1_ b2_ : UInt64) (hd : ((((xp.toUInt32 >>> ((14 : Int32) &&& 31).toUInt32).toInt32) &&& (7 : Int32)) - (4 : Int32)).toInt = 0 ∧ ¬ (((xp.toUInt32 >>> ((17 : Int32) &&& 31).toUInt32).toInt32) &&& (7 : Int32)).toInt ≤ 5) :
    own_Met l Z a0 hb0 (⟨"com/example/placewright/placewright/model/MachineTypeHolds334PinLaw", "fill", "(I[D[DI)Z"⟩ : MethodName) method_3_code 11 (some .boolean) [] ({ frames := 0, cells := 0, slots := 0, locals := 0 } : Room) #[(.int xp), (.ref ai), (.ref li), (.int (1 : Int32))] [(ai, own_A .double [.double a0_, .double a1_, .double a2_]), (li, own_A .double [.double b0_, .double b1_, .double b2_])] (fun r cs' => ∃ ca lo, NoNaN64 (FP.dadd ca (4472406533629990549 : UInt64)) ∧ ifCond.holds .gt (cmpValue (FP.dcmp lo (FP.dadd ca (4472406533629990549 : UInt64))) .g) = true ∧ r = some (.int 0) ∧ cs' = [(ai, own_A .double [.double a0_, .double ca, .double a2_]), (li, own_A .double [.double b0_, .double lo, .double b2_])]) := by
  refine own_met_of (L0 := #[.val (.int xp), .val (.ref ai), .val (.ref li), .val (.int (1 : Int32)), .unset, .unset, .unset, .unset, .unset, .unset, .unset]) (plainFor_of_name own_pn1) (fun m => own_ef1 m xp ai li (1 : Int32)) ?_
  intro p e s m below meth c T0 hx hZ hown hby hml hnm H0
  obtain ⟨v4, hv4⟩ : ∃ z : Int32, (xp &&& (16383 : Int32)) = z := ⟨_, rfl⟩
  obtain ⟨v8, hv8⟩ : ∃ z : Int32, (v4 - (8192 : Int32)) = z := ⟨_, rfl⟩
  obtain ⟨v14, hv14⟩ : ∃ z : Int32, ((xp.toUInt32 >>> ((14 : Int32) &&& 31).toUInt32).toInt32) = z := ⟨_, rfl⟩
  obtain ⟨v17, hv17⟩ : ∃ z : Int32, (v14 &&& (7 : Int32)) = z := ⟨_, rfl⟩
  obtain ⟨v19, hv19⟩ : ∃ z : Int32, (v17 - (4 : Int32)) = z := ⟨_, rfl⟩
  obtain ⟨v25, hv25⟩ : ∃ z : Int32, ((xp.toUInt32 >>> ((17 : Int32) &&& 31).toUInt32).toInt32) = z := ⟨_, rfl⟩
  obtain ⟨v28, hv28⟩ : ∃ z : Int32, (v25 &&& (7 : Int32)) = z := ⟨_, rfl⟩
  obtain ⟨v58, hv58⟩ : ∃ z : UInt64, (FP.ddiv (4472406533629990549 : UInt64) (4611686018427387904 : UInt64)) = z := ⟨_, rfl⟩
  obtain ⟨v85, hv85⟩ : ∃ z : UInt64, (FP.dneg (4472406533629990549 : UInt64)) = z := ⟨_, rfl⟩
  obtain ⟨v89, hv89⟩ : ∃ z : UInt64, (FP.ddiv v85 (4611686018427387904 : UInt64)) = z := ⟨_, rfl⟩
  obtain ⟨v103, hv103⟩ : ∃ z : UInt64, (FP.dneg (4472406533629990549 : UInt64)) = z := ⟨_, rfl⟩
  obtain ⟨v120, hv120⟩ : ∃ z : UInt64, (FP.dmul (13835058055282163712 : UInt64) (4472406533629990549 : UInt64)) = z := ⟨_, rfl⟩
  obtain ⟨v138, hv138⟩ : ∃ z : UInt64, (FP.dmul (4611686018427387904 : UInt64) (4472406533629990549 : UInt64)) = z := ⟨_, rfl⟩
  obtain ⟨v149, hv149⟩ : ∃ z : UInt64, (FP.dmul (4613937818241073152 : UInt64) (4472406533629990549 : UInt64)) = z := ⟨_, rfl⟩
  obtain ⟨j152_9, hj152_9⟩ : ∃ z : UInt64, (bif ifCond.holds .ne v28 then (bif if_icmp.holds .ne v28 (1 : Int32) then (bif if_icmp.holds .ne v28 (2 : Int32) then (bif if_icmp.holds .ne v28 (3 : Int32) then (bif if_icmp.holds .ne v28 (4 : Int32) then (bif if_icmp.holds .ne v28 (5 : Int32) then (bif if_icmp.holds .ne v28 (6 : Int32) then v149 else v138) else v120) else v103) else v89) else (4472406533629990549 : UInt64)) else v58) else (0 : UInt64)) = z := ⟨_, rfl⟩
  obtain ⟨v156, hv156⟩ : ∃ z : UInt64, (FP.i2d v8) = z := ⟨_, rfl⟩
  obtain ⟨Tl1D_1, Hl1D_1, stl1D_1⟩ := own_dastore H0 hx hZ 0 1 rfl (by decide) (Nat.le_of_ble_eq_true rfl) (g := (mkF m 157 #[.val (.int xp), .val (.ref ai), .val (.ref li), .val (.int (1 : Int32)), .val (.int v8), .val (.int v19), .val (.int v28), .val (.double (4472406533629990549 : UInt64)), .second, .val (.double j152_9), .second] [(.double v156), (.int (1 : Int32)), (.ref ai)])) rfl rfl (hb hby d1_157)
  change own_S _ _ _ _ _ _ _ _ _ _ _ _ _ _ [(ai, own_A .double [.double a0_, .double v156, .double a2_]), (li, own_A .double [.double b0_, .double b1_, .double b2_])] _ _ at Hl1D_1
  obtain ⟨v164, hv164⟩ : ∃ z : Int32, (v8 + v19) = z := ⟨_, rfl⟩
  obtain ⟨v165, hv165⟩ : ∃ z : UInt64, (FP.i2d v164) = z := ⟨_, rfl⟩
  obtain ⟨v168, hv168⟩ : ∃ z : UInt64, (FP.dadd v165 j152_9) = z := ⟨_, rfl⟩
  obtain ⟨Tl1D_2, Hl1D_2, stl1D_2⟩ := own_dastore Hl1D_1 hx hZ 1 1 rfl (by decide) (Nat.le_of_ble_eq_true rfl) (g := (mkF m 169 #[.val (.int xp), .val (.ref ai), .val (.ref li), .val (.int (1 : Int32)), .val (.int v8), .val (.int v19), .val (.int v28), .val (.double (4472406533629990549 : UInt64)), .second, .val (.double j152_9), .second] [(.double v168), (.int (1 : Int32)), (.ref li)])) rfl rfl (hb hby d1_169)
  change own_S _ _ _ _ _ _ _ _ _ _ _ _ _ _ [(ai, own_A .double [.double a0_, .double v156, .double a2_]), (li, own_A .double [.double b0_, .double v168, .double b2_])] _ _ at Hl1D_2
  have ec : v8.toInt = (xp.toInt % 16384) - 8192 := by
    have h1 := c_mask xp 16383 14 (by decide) (by decide)
    have h2 := c_isub v4 8192
    have := rng32 v8
    rw [hv4] at h1
    rw [hv8, show (8192 : Int32).toInt = 8192 from rfl] at h2
    omega
  have bd : v19.toInt ≤ 4 ∧ -4 ≤ v19.toInt := by
    have h1 := c_mask v14 7 3 (by decide) (by decide)
    have h2 := c_isub v17 4
    have := rng32 v19
    rw [hv17] at h1
    rw [hv19, show (4 : Int32).toInt = 4 from rfl] at h2
    omega
  have es : v164.toInt = v8.toInt + v19.toInt := by
    have h2 := c_iadd v8 v19
    have := rng32 v164
    rw [hv164] at h2
    omega
  have hd' := hd
  rw [hv14, hv17, hv19, hv25, hv28] at hd'
  have hk := own_m7 v25
  rw [hv28] at hk
  obtain ⟨o, io, o1, o2, oo⟩ := own_offs v28 hk
  have ej : own_off v28 = j152_9 := by rw [← hj152_9, ← hv149, ← hv138, ← hv120, ← hv103, ← hv89, ← hv85, ← hv58]; rfl
  rw [ej] at io
  have ic : own_is v156 ((v8.toInt : Int) : Rat) := by rw [← hv156]; exact own_isI _
  have is : own_is v165 ((v8.toInt + v19.toInt : Int) : Rat) := by rw [← hv165, ← es]; exact own_isI _
  have nn58 : NoNaN64 (FP.ddiv (4472406533629990549 : UInt64) (4611686018427387904 : UInt64)) := own_is_no own_o1
  have nn89 : NoNaN64 (FP.ddiv v85 (4611686018427387904 : UInt64)) := by rw [← hv85]; exact own_is_no own_o3
  have nn120 : NoNaN64 (FP.dmul (13835058055282163712 : UInt64) (4472406533629990549 : UInt64)) := own_is_no own_o5
  have nn138 : NoNaN64 (FP.dmul (4611686018427387904 : UInt64) (4472406533629990549 : UInt64)) := own_is_no own_o6
  have nn149 : NoNaN64 (FP.dmul (4613937818241073152 : UInt64) (4472406533629990549 : UInt64)) := by obtain ⟨_, h, -⟩ := own_o7; exact own_is_no h
  have nn168 : NoNaN64 (FP.dadd v165 j152_9) := own_rd_no (own_add is io)
  have hR := own_rD ic is io (by omega) bd o1 o2 hd'.1 (by rcases oo with oo | oo; omega; exact oo.2)
  rw [hv168] at hR
  have nR : NoNaN64 (FP.dadd v156 (4472406533629990549 : UInt64)) := own_rd_no (own_add ic own_ist)
  have hb172 : ifCond.holds .ge v19 = true := by rw [own_z_ge]; exact decide_eq_true (by omega)
  have hb179 : ifCond.holds .le v19 = true := by rw [own_z_le]; exact decide_eq_true (by omega)
  have hb187 : if_icmp.holds .gt v28 (5 : Int32) = true := by rw [own_i_gt, show (5 : Int32).toInt = 5 from rfl]; exact decide_eq_true (by omega)
  refine ⟨_, _, _, _, 195, #[.val (.int xp), .val (.ref ai), .val (.ref li), .val (.int (1 : Int32)), .val (.int v8), .val (.int v19), .val (.int v28), .val (.double (4472406533629990549 : UInt64)), .second, .val (.double j152_9), .second], Hl1D_2, by decide, by decide, Or.inr ⟨.boolean, (.int (0 : Int32)), [], .ireturn, rfl, ⟨v156, v168, nR, hR, rfl, rfl⟩, d1_195, own_retZ (Or.inl rfl), fun target q => ?_⟩⟩
  refine own_go H0 hx hZ hown hby hw own_K1_ok (own_l1D_0 xp ai li v4 hv4 v8 hv8 v14 hv14 v17 hv17 v19 hv19 v25 hv25 v28 hv28 v58 hv58 nn58 v85 hv85 v89 hv89 nn89 v103 hv103 v120 hv120 nn120 v138 hv138 nn138 v149 hv149 nn149 j152_9 hj152_9) _ ?_
  refine own_go H0 hx hZ hown hby hw own_K1_ok (own_l1D_1 xp ai li v8 v19 v28 j152_9 v156 hv156) _ ?_
  refine stl1D_1 _ ?_
  refine own_go Hl1D_1 hx hZ hown hby hw own_K1_ok (own_l1D_2 xp ai li v8 v19 v28 j152_9 v164 hv164 v165 hv165 v168 hv168 nn168) _ ?_
  refine stl1D_2 _ ?_
  refine own_go Hl1D_2 hx hZ hown hby hw own_K1_ok (own_l1D_3 xp ai li v8 v19 v28 j152_9 hb172 hb179 hb187) _ ?_
  exact q
theorem own_fill1T (l : Launch) (Z : State) (a0 : Array Value) (hb0 : own_Base) (hw : ∀ d ∈ tables_1, d.before a0 Z = true) (xp : Int32) (ai li : Addr) (a0_ a1_ a2_ b0_ b1_ b2_ : UInt64) (hT : own_T xp) :
    own_Met l Z a0 hb0 (⟨"com/example/placewright/placewright/model/MachineTypeHolds334PinLaw", "fill", "(I[D[DI)Z"⟩ : MethodName) method_3_code 11 (some .boolean) [] ({ frames := 0, cells := 0, slots := 0, locals := 0 } : Room) #[(.int xp), (.ref ai), (.ref li), (.int (1 : Int32))] [(ai, own_A .double [.double a0_, .double a1_, .double a2_]), (li, own_A .double [.double b0_, .double b1_, .double b2_])] (fun r cs' => ∃ ca lo, NoNaN64 (FP.dadd ca (4472406533629990549 : UInt64)) ∧ ifCond.holds .gt (cmpValue (FP.dcmp lo (FP.dadd ca (4472406533629990549 : UInt64))) .g) = false ∧ r = some (.int 1) ∧ cs' = [(ai, own_A .double [.double a0_, .double ca, .double a2_]), (li, own_A .double [.double b0_, .double lo, .double b2_])]) := by
  rcases hT with h | h
  · exact own_fill1A l Z a0 hb0 hw xp ai li _ _ _ _ _ _ h
  · exact own_fill1C l Z a0 hb0 hw xp ai li _ _ _ _ _ _ h
theorem own_fill1F (l : Launch) (Z : State) (a0 : Array Value) (hb0 : own_Base) (hw : ∀ d ∈ tables_1, d.before a0 Z = true) (xp : Int32) (ai li : Addr) (a0_ a1_ a2_ b0_ b1_ b2_ : UInt64) (hT : ¬ own_T xp) :
    own_Met l Z a0 hb0 (⟨"com/example/placewright/placewright/model/MachineTypeHolds334PinLaw", "fill", "(I[D[DI)Z"⟩ : MethodName) method_3_code 11 (some .boolean) [] ({ frames := 0, cells := 0, slots := 0, locals := 0 } : Room) #[(.int xp), (.ref ai), (.ref li), (.int (1 : Int32))] [(ai, own_A .double [.double a0_, .double a1_, .double a2_]), (li, own_A .double [.double b0_, .double b1_, .double b2_])] (fun r cs' => ∃ ca lo, NoNaN64 (FP.dadd ca (4472406533629990549 : UInt64)) ∧ ifCond.holds .gt (cmpValue (FP.dcmp lo (FP.dadd ca (4472406533629990549 : UInt64))) .g) = true ∧ r = some (.int 0) ∧ cs' = [(ai, own_A .double [.double a0_, .double ca, .double a2_]), (li, own_A .double [.double b0_, .double lo, .double b2_])]) := by
  rcases Int.lt_trichotomy ((((xp.toUInt32 >>> ((14 : Int32) &&& 31).toUInt32).toInt32) &&& (7 : Int32)) - (4 : Int32)).toInt 0 with h | h | h
  · exact absurd (Or.inl h) hT
  · exact own_fill1D l Z a0 hb0 hw xp ai li _ _ _ _ _ _ ⟨h, fun k => hT (Or.inr ⟨h, k⟩)⟩
  · exact own_fill1B l Z a0 hb0 hw xp ai li _ _ _ _ _ _ h
theorem own_l2A_0 (xp : Int32) (ai : Addr) (li : Addr) (v4 : Int32) (hv4 : (xp &&& (16383 : Int32)) = v4) (v8 : Int32) (hv8 : (v4 - (8192 : Int32)) = v8) (v14 : Int32) (hv14 : ((xp.toUInt32 >>> ((14 : Int32) &&& 31).toUInt32).toInt32) = v14) (v17 : Int32) (hv17 : (v14 &&& (7 : Int32)) = v17) (v19 : Int32) (hv19 : (v17 - (4 : Int32)) = v19) (v25 : Int32) (hv25 : ((xp.toUInt32 >>> ((17 : Int32) &&& 31).toUInt32).toInt32) = v25) (v28 : Int32) (hv28 : (v25 &&& (7 : Int32)) = v28) (v58 : UInt64) (hv58 : (FP.ddiv (4472406533629990549 : UInt64) (4611686018427387904 : UInt64)) = v58) (nn58 : NoNaN64 (FP.ddiv (4472406533629990549 : UInt64) (4611686018427387904 : UInt64))) (v85 : UInt64) (hv85 : (FP.dneg (4472406533629990549 : UInt64)) = v85) (v89 : UInt64) (hv89 : (FP.ddiv v85 (4611686018427387904 : UInt64)) = v89) (nn89 : NoNaN64 (FP.ddiv v85 (4611686018427387904 : UInt64))) (v103 : UInt64) (hv103 : (FP.dneg (4472406533629990549 : UInt64)) = v103) (v120 : UInt64) (hv120 : (FP.dmul (13835058055282163712 : UInt64) (4472406533629990549 : UInt64)) = v120) (nn120 : NoNaN64 (FP.dmul (13835058055282163712 : UInt64) (4472406533629990549 : UInt64))) (v138 : UInt64) (hv138 : (FP.dmul (4611686018427387904 : UInt64) (4472406533629990549 : UInt64)) = v138) (nn138 : NoNaN64 (FP.dmul (4611686018427387904 : UInt64) (4472406533629990549 : UInt64))) (v149 : UInt64) (hv149 : (FP.dmul (4613937818241073152 : UInt64) (4472406533629990549 : UInt64)) = v149) (nn149 : NoNaN64 (FP.dmul (4613937818241073152 : UInt64) (4472406533629990549 : UInt64))) (j152_9 : UInt64) (hj152_9 : (bif ifCond.holds .ne v28 then (bif if_icmp.holds .ne v28 (1 : Int32) then (bif if_icmp.holds .ne v28 (2 : Int32) then (bif if_icmp.holds .ne v28 (3 : Int32) then (bif if_icmp.holds .ne v28 (4 : Int32) then (bif if_icmp.holds .ne v28 (5 : Int32) then (bif if_icmp.holds .ne v28 (6 : Int32) then v149 else v138) else v120) else v103) else v89) else (4472406533629990549 : UInt64)) else v58) else (0 : UInt64)) = j152_9) :
    own_Go own_K1 method_3_code 0 #[.val (.int xp), .val (.ref ai), .val (.ref li), .val (.int (2 : Int32)), .unset, .unset, .unset, .unset, .unset, .unset, .unset] [] 152 #[.val (.int xp), .val (.ref ai), .val (.ref li), .val (.int (2 : Int32)), .val (.int v8), .val (.int v19), .val (.int v28), .val (.double (4472406533629990549 : UInt64)), .second, .val (.double j152_9), .second] [] := by
  subst hj152_9
  refine own_iloadN (pc2 := 1) d1_0 rfl rfl ?_
  refine own_sipush (v := 16383) (pc2 := 4) d1_1 rfl rfl ?_
  refine own_iand (pc2 := 5) d1_4 rfl (v := v4) hv4 ?_
  refine own_sipush (v := 8192) (pc2 := 8) d1_5 rfl rfl ?_
  refine own_isub (pc2 := 9) d1_8 rfl (v := v8) hv8 ?_
  refine own_istore (pc2 := 11) d1_9 rfl (L' := #[.val (.int xp), .val (.ref ai), .val (.ref li), .val (.int (2 : Int32)), .val (.int v8), .unset, .unset, .unset, .unset, .unset, .unset]) rfl ?_
  refine own_iloadN (pc2 := 12) d1_11 rfl rfl ?_
  refine own_bipush (v := 14) (pc2 := 14) d1_12 rfl rfl ?_
  refine own_iushr (pc2 := 15) d1_14 rfl (v := v14) hv14 ?_
  refine own_bipush (v := 7) (pc2 := 17) d1_15 rfl rfl ?_
  refine own_iand (pc2 := 18) d1_17 rfl (v := v17) hv17 ?_
  refine own_iconst (v := 4) (pc2 := 19) d1_18 rfl rfl ?_
  refine own_isub (pc2 := 20) d1_19 rfl (v := v19) hv19 ?_
  refine own_istore (pc2 := 22) d1_20 rfl (L' := #[.val (.int xp), .val (.ref ai), .val (.ref li), .val (.int (2 : Int32)), .val (.int v8), .val (.int v19), .unset, .unset, .unset, .unset, .unset]) rfl ?_
  refine own_iloadN (pc2 := 23) d1_22 rfl rfl ?_
  refine own_bipush (v := 17) (pc2 := 25) d1_23 rfl rfl ?_
  refine own_iushr (pc2 := 26) d1_25 rfl (v := v25) hv25 ?_
  refine own_bipush (v := 7) (pc2 := 28) d1_26 rfl rfl ?_
  refine own_iand (pc2 := 29) d1_28 rfl (v := v28) hv28 ?_
  refine own_istore (pc2 := 31) d1_29 rfl (L' := #[.val (.int xp), .val (.ref ai), .val (.ref li), .val (.int (2 : Int32)), .val (.int v8), .val (.int v19), .val (.int v28), .unset, .unset, .unset, .unset]) rfl ?_
  refine own_ldc2D (v := (4472406533629990549 : UInt64)) (pc2 := 34) d1_31 rfl (List.mem_of_getElem? (i := 0) rfl) ?_
  refine own_dstore (pc2 := 36) d1_34 rfl (L' := #[.val (.int xp), .val (.ref ai), .val (.ref li), .val (.int (2 : Int32)), .val (.int v8), .val (.int v19), .val (.int v28), .val (.double (4472406533629990549 : UInt64)), .second, .unset, .unset]) rfl ?_
  refine own_iload (pc2 := 38) d1_36 rfl rfl ?_
  cases hb38 : ifCond.holds .ne v28
  · refine own_ifNo (pc2 := 41) d1_38 rfl hb38 ?_
    refine own_dconst0 (v := 0) (pc2 := 42) d1_41 rfl rfl ?_
    refine own_dstore (pc2 := 44) d1_42 rfl (L' := #[.val (.int xp), .val (.ref ai), .val (.ref li), .val (.int (2 : Int32)), .val (.int v8), .val (.int v19), .val (.int v28), .val (.double (4472406533629990549 : UInt64)), .second, .val (.double (0 : UInt64)), .second]) rfl ?_
    refine own_goto (pc' := 152) d1_44 (by decide) (by decide) ?_
    exact own_refl
  · refine own_ifYes (pc' := 47) d1_38 hb38 (by decide) (by decide) ?_
    refine own_iload (pc2 := 49) d1_47 rfl rfl ?_
    refine own_iconst (v := 1) (pc2 := 50) d1_49 rfl rfl ?_
    cases hb50 : if_icmp.holds .ne v28 (1 : Int32)
    · refine own_icmpNo (pc2 := 53) d1_50 rfl hb50 ?_
      refine own_dload (pc2 := 55) d1_53 rfl rfl ?_
      refine own_ldc2D (v := (4611686018427387904 : UInt64)) (pc2 := 58) d1_55 rfl (List.mem_of_getElem? (i := 2) rfl) ?_
      refine own_ddiv (pc2 := 59) d1_58 rfl nn58 (v := v58) hv58 ?_
      refine own_dstore (pc2 := 61) d1_59 rfl (L' := #[.val (.int xp), .val (.ref ai), .val (.ref li), .val (.int (2 : Int32)), .val (.int v8), .val (.int v19), .val (.int v28), .val (.double (4472406533629990549 : UInt64)), .second, .val (.double v58), .second]) rfl ?_
      refine own_goto (pc' := 152) d1_61 (by decide) (by decide) ?_
      exact own_refl
    · refine own_icmpYes (pc' := 64) d1_50 hb50 (by decide) (by decide) ?_
      refine own_iload (pc2 := 66) d1_64 rfl rfl ?_
      refine own_iconst (v := 2) (pc2 := 67) d1_66 rfl rfl ?_
      cases hb67 : if_icmp.holds .ne v28 (2 : Int32)
      · refine own_icmpNo (pc2 := 70) d1_67 rfl hb67 ?_
        refine own_dload (pc2 := 72) d1_70 rfl rfl ?_
        refine own_dstore (pc2 := 74) d1_72 rfl (L' := #[.val (.int xp), .val (.ref ai), .val (.ref li), .val (.int (2 : Int32)), .val (.int v8), .val (.int v19), .val (.int v28), .val (.double (4472406533629990549 : UInt64)), .second, .val (.double (4472406533629990549 : UInt64)), .second]) rfl ?_
        refine own_goto (pc' := 152) d1_74 (by decide) (by decide) ?_
        exact own_refl
      · refine own_icmpYes (pc' := 77) d1_67 hb67 (by decide) (by decide) ?_
        refine own_iload (pc2 := 79) d1_77 rfl rfl ?_
        refine own_iconst (v := 3) (pc2 := 80) d1_79 rfl rfl ?_
        cases hb80 : if_icmp.holds .ne v28 (3 : Int32)
        · refine own_icmpNo (pc2 := 83) d1_80 rfl hb80 ?_
          refine own_dload (pc2 := 85) d1_83 rfl rfl ?_
          refine own_dneg (pc2 := 86) d1_85 rfl (v := v85) hv85 ?_
          refine own_ldc2D (v := (4611686018427387904 : UInt64)) (pc2 := 89) d1_86 rfl (List.mem_of_getElem? (i := 2) rfl) ?_
          refine own_ddiv (pc2 := 90) d1_89 rfl nn89 (v := v89) hv89 ?_
          refine own_dstore (pc2 := 92) d1_90 rfl (L' := #[.val (.int xp), .val (.ref ai), .val (.ref li), .val (.int (2 : Int32)), .val (.int v8), .val (.int v19), .val (.int v28), .val (.double (4472406533629990549 : UInt64)), .second, .val (.double v89), .second]) rfl ?_
          refine own_goto (pc' := 152) d1_92 (by decide) (by decide) ?_
          exact own_refl
        · refine own_icmpYes (pc' := 95) d1_80 hb80 (by decide) (by decide) ?_
          refine own_iload (pc2 := 97) d1_95 rfl rfl ?_
          refine own_iconst (v := 4) (pc2 := 98) d1_97 rfl rfl ?_
          cases hb98 : if_icmp.holds .ne v28 (4 : Int32)
          · refine own_icmpNo (pc2 := 101) d1_98 rfl hb98 ?_
            refine own_dload (pc2 := 103) d1_101 rfl rfl ?_
            refine own_dneg (pc2 := 104) d1_103 rfl (v := v103) hv103 ?_
            refine own_dstore (pc2 := 106) d1_104 rfl (L' := #[.val (.int xp), .val (.ref ai), .val (.ref li), .val (.int (2 : Int32)), .val (.int v8), .val (.int v19), .val (.int v28), .val (.double (4472406533629990549 : UInt64)), .second, .val (.double v103), .second]) rfl ?_
            refine own_goto (pc' := 152) d1_106 (by decide) (by decide) ?_
            exact own_refl
          · refine own_icmpYes (pc' := 109) d1_98 hb98 (by decide) (by decide) ?_
            refine own_iload (pc2 := 111) d1_109 rfl rfl ?_
            refine own_iconst (v := 5) (pc2 := 112) d1_111 rfl rfl ?_
            cases hb112 : if_icmp.holds .ne v28 (5 : Int32)
            · refine own_icmpNo (pc2 := 115) d1_112 rfl hb112 ?_
              refine own_ldc2D (v := (13835058055282163712 : UInt64)) (pc2 := 118) d1_115 rfl (List.mem_of_getElem? (i := 3) rfl) ?_
              refine own_dload (pc2 := 120) d1_118 rfl rfl ?_
              refine own_dmul (pc2 := 121) d1_120 rfl nn120 (v := v120) hv120 ?_
              refine own_dstore (pc2 := 123) d1_121 rfl (L' := #[.val (.int xp), .val (.ref ai), .val (.ref li), .val (.int (2 : Int32)), .val (.int v8), .val (.int v19), .val (.int v28), .val (.double (4472406533629990549 : UInt64)), .second, .val (.double v120), .second]) rfl ?_
              refine own_goto (pc' := 152) d1_123 (by decide) (by decide) ?_
              exact own_refl
            · refine own_icmpYes (pc' := 126) d1_112 hb112 (by decide) (by decide) ?_
              refine own_iload (pc2 := 128) d1_126 rfl rfl ?_
              refine own_bipush (v := 6) (pc2 := 130) d1_128 rfl rfl ?_
              cases hb130 : if_icmp.holds .ne v28 (6 : Int32)
              · refine own_icmpNo (pc2 := 133) d1_130 rfl hb130 ?_
                refine own_ldc2D (v := (4611686018427387904 : UInt64)) (pc2 := 136) d1_133 rfl (List.mem_of_getElem? (i := 2) rfl) ?_
                refine own_dload (pc2 := 138) d1_136 rfl rfl ?_
                refine own_dmul (pc2 := 139) d1_138 rfl nn138 (v := v138) hv138 ?_
                refine own_dstore (pc2 := 141) d1_139 rfl (L' := #[.val (.int xp), .val (.ref ai), .val (.ref li), .val (.int (2 : Int32)), .val (.int v8), .val (.int v19), .val (.int v28), .val (.double (4472406533629990549 : UInt64)), .second, .val (.double v138), .second]) rfl ?_
                refine own_goto (pc' := 152) d1_141 (by decide) (by decide) ?_
                exact own_refl
              · refine own_icmpYes (pc' := 144) d1_130 hb130 (by decide) (by decide) ?_
                refine own_ldc2D (v := (4613937818241073152 : UInt64)) (pc2 := 147) d1_144 rfl (List.mem_of_getElem? (i := 1) rfl) ?_
                refine own_dload (pc2 := 149) d1_147 rfl rfl ?_
                refine own_dmul (pc2 := 150) d1_149 rfl nn149 (v := v149) hv149 ?_
                refine own_dstore (pc2 := 152) d1_150 rfl (L' := #[.val (.int xp), .val (.ref ai), .val (.ref li), .val (.int (2 : Int32)), .val (.int v8), .val (.int v19), .val (.int v28), .val (.double (4472406533629990549 : UInt64)), .second, .val (.double v149), .second]) rfl ?_
                exact own_refl
theorem own_l2A_1 (xp : Int32) (ai : Addr) (li : Addr) (v8 : Int32) (v19 : Int32) (v28 : Int32) (j152_9 : UInt64) (v156 : UInt64) (hv156 : (FP.i2d v8) = v156) :
    own_Go own_K1 method_3_code 152 #[.val (.int xp), .val (.ref ai), .val (.ref li), .val (.int (2 : Int32)), .val (.int v8), .val (.int v19), .val (.int v28), .val (.double (4472406533629990549 : UInt64)), .second, .val (.double j152_9), .second] [] 157 #[.val (.int xp), .val (.ref ai), .val (.ref li), .val (.int (2 : Int32)), .val (.int v8), .val (.int v19), .val (.int v28), .val (.double (4472406533629990549 : UInt64)), .second, .val (.double j152_9), .second] [(.double v156), (.int (2 : Int32)), (.ref ai)] := by
  refine own_aloadN (pc2 := 153) d1_152 rfl rfl rfl ?_
  refine own_iloadN (pc2 := 154) d1_153 rfl rfl ?_
  refine own_iload (pc2 := 156) d1_154 rfl rfl ?_
  refine own_i2d (pc2 := 157) d1_156 rfl (v := v156) hv156 ?_
  exact own_refl
theorem own_l2A_2 (xp : Int32) (ai : Addr) (li : Addr) (v8 : Int32) (v19 : Int32) (v28 : Int32) (j152_9 : UInt64) (v164 : Int32) (hv164 : (v8 + v19) = v164) (v165 : UInt64) (hv165 : (FP.i2d v164) = v165) (v168 : UInt64) (hv168 : (FP.dadd v165 j152_9) = v168) (nn168 : NoNaN64 (FP.dadd v165 j152_9)) :
    own_Go own_K1 method_3_code 158 #[.val (.int xp), .val (.ref ai), .val (.ref li), .val (.int (2 : Int32)), .val (.int v8), .val (.int v19), .val (.int v28), .val (.double (4472406533629990549 : UInt64)), .second, .val (.double j152_9), .second] [] 169 #[.val (.int xp), .val (.ref ai), .val (.ref li), .val (.int (2 : Int32)), .val (.int v8), .val (.int v19), .val (.int v28), .val (.double (4472406533629990549 : UInt64)), .second, .val (.double j152_9), .second] [(.double v168), (.int (2 : Int32)), (.ref li)] := by
  refine own_aloadN (pc2 := 159) d1_158 rfl rfl rfl ?_
  refine own_iloadN (pc2 := 160) d1_159 rfl rfl ?_
  refine own_iload (pc2 := 162) d1_160 rfl rfl ?_
  refine own_iload (pc2 := 164) d1_162 rfl rfl ?_
  refine own_iadd (pc2 := 165) d1_164 rfl (v := v164) hv164 ?_
  refine own_i2d (pc2 := 166) d1_165 rfl (v := v165) hv165 ?_
  refine own_dload (pc2 := 168) d1_166 rfl rfl ?_
  refine own_dadd (pc2 := 169) d1_168 rfl nn168 (v := v168) hv168 ?_
  exact own_refl
theorem own_l2A_3 (xp : Int32) (ai : Addr) (li : Addr) (v8 : Int32) (v19 : Int32) (v28 : Int32) (j152_9 : UInt64) (hb172 : ifCond.holds .ge v19 = false) :
    own_Go own_K1 method_3_code 170 #[.val (.int xp), .val (.ref ai), .val (.ref li), .val (.int (2 : Int32)), .val (.int v8), .val (.int v19), .val (.int v28), .val (.double (4472406533629990549 : UInt64)), .second, .val (.double j152_9), .second] [] 176 #[.val (.int xp), .val (.ref ai), .val (.ref li), .val (.int (2 : Int32)), .val (.int v8), .val (.int v19), .val (.int v28), .val (.double (4472406533629990549 : UInt64)), .second, .val (.double j152_9), .second] [(.int (1 : Int32))] := by
  refine own_iload (pc2 := 172) d1_170 rfl rfl ?_
  refine own_ifNo (pc2 := 175) d1_172 rfl hb172 ?_
  refine own_iconst (v := 1) (pc2 := 176) d1_175 rfl rfl ?_
  exact own_refl
set_option maxRecDepth 65536 in
set_option maxHeartbeats 4000000 in
theorem own_fill2A (l : Launch) (Z : State) (a0 : Array Value) (hb0 : own_Base) (hw : ∀ d ∈ tables_1, d.before a0 Z = true) (xp : Int32) (ai : Addr) (li : Addr) (a0_ a1_ a2_ b0_ b1_ b2_ : UInt64) (hd : ((((xp.toUInt32 >>> ((14 : Int32) &&& 31).toUInt32).toInt32) &&& (7 : Int32)) - (4 : Int32)).toInt < 0) :
    own_Met l Z a0 hb0 (⟨"com/example/placewright/placewright/model/MachineTypeHolds334PinLaw", "fill", "(I[D[DI)Z"⟩ : MethodName) method_3_code 11 (some .boolean) [] ({ frames := 0, cells := 0, slots := 0, locals := 0 } : Room) #[(.int xp), (.ref ai), (.ref li), (.int (2 : Int32))] [(ai, own_A .double [.double a0_, .double a1_, .double a2_]), (li, own_A .double [.double b0_, .double b1_, .double b2_])] (fun r cs' => ∃ ca lo, NoNaN64 (FP.dadd ca (4472406533629990549 : UInt64)) ∧ ifCond.holds .gt (cmpValue (FP.dcmp lo (FP.dadd ca (4472406533629990549 : UInt64))) .g) = false ∧ r = some (.int 1) ∧ cs' = [(ai, own_A .double [.double a0_, .double a1_, .double ca]), (li, own_A .double [.double b0_, .double b1_, .double lo])]) := by
  refine own_met_of (L0 := #[.val (.int xp), .val (.ref ai), .val (.ref li), .val (.int (2 : Int32)), .unset, .unset, .unset, .unset, .unset, .unset, .unset]) (plainFor_of_name own_pn1) (fun m => own_ef1 m xp ai li (2 : Int32)) ?_
  intro p e s m below meth c T0 hx hZ hown hby hml hnm H0
  obtain ⟨v4, hv4⟩ : ∃ z : Int32, (xp &&& (16383 : Int32)) = z := ⟨_, rfl⟩
  obtain ⟨v8, hv8⟩ : ∃ z : Int32, (v4 - (8192 : Int32)) = z := ⟨_, rfl⟩
  obtain ⟨v14, hv14⟩ : ∃ z : Int32, ((xp.toUInt32 >>> ((14 : Int32) &&& 31).toUInt32).toInt32) = z := ⟨_, rfl⟩
  obtain ⟨v17, hv17⟩ : ∃ z : Int32, (v14 &&& (7 : Int32)) = z := ⟨_, rfl⟩
  obtain ⟨v19, hv19⟩ : ∃ z : Int32, (v17 - (4 : Int32)) = z := ⟨_, rfl⟩
  obtain ⟨v25, hv25⟩ : ∃ z : Int32, ((xp.toUInt32 >>> ((17 : Int32) &&& 31).toUInt32).toInt32) = z := ⟨_, rfl⟩
  obtain ⟨v28, hv28⟩ : ∃ z : Int32, (v25 &&& (7 : Int32)) = z := ⟨_, rfl⟩
  obtain ⟨v58, hv58⟩ : ∃ z : UInt64, (FP.ddiv (4472406533629990549 : UInt64) (4611686018427387904 : UInt64)) = z := ⟨_, rfl⟩
  obtain ⟨v85, hv85⟩ : ∃ z : UInt64, (FP.dneg (4472406533629990549 : UInt64)) = z := ⟨_, rfl⟩
  obtain ⟨v89, hv89⟩ : ∃ z : UInt64, (FP.ddiv v85 (4611686018427387904 : UInt64)) = z := ⟨_, rfl⟩
  obtain ⟨v103, hv103⟩ : ∃ z : UInt64, (FP.dneg (4472406533629990549 : UInt64)) = z := ⟨_, rfl⟩
  obtain ⟨v120, hv120⟩ : ∃ z : UInt64, (FP.dmul (13835058055282163712 : UInt64) (4472406533629990549 : UInt64)) = z := ⟨_, rfl⟩
  obtain ⟨v138, hv138⟩ : ∃ z : UInt64, (FP.dmul (4611686018427387904 : UInt64) (4472406533629990549 : UInt64)) = z := ⟨_, rfl⟩
  obtain ⟨v149, hv149⟩ : ∃ z : UInt64, (FP.dmul (4613937818241073152 : UInt64) (4472406533629990549 : UInt64)) = z := ⟨_, rfl⟩
  obtain ⟨j152_9, hj152_9⟩ : ∃ z : UInt64, (bif ifCond.holds .ne v28 then (bif if_icmp.holds .ne v28 (1 : Int32) then (bif if_icmp.holds .ne v28 (2 : Int32) then (bif if_icmp.holds .ne v28 (3 : Int32) then (bif if_icmp.holds .ne v28 (4 : Int32) then (bif if_icmp.holds .ne v28 (5 : Int32) then (bif if_icmp.holds .ne v28 (6 : Int32) then v149 else v138) else v120) else v103) else v89) else (4472406533629990549 : UInt64)) else v58) else (0 : UInt64)) = z := ⟨_, rfl⟩
  obtain ⟨v156, hv156⟩ : ∃ z : UInt64, (FP.i2d v8) = z := ⟨_, rfl⟩
  obtain ⟨Tl2A_1, Hl2A_1, stl2A_1⟩ := own_dastore H0 hx hZ 0 2 rfl (by decide) (Nat.le_of_ble_eq_true rfl) (g := (mkF m 157 #[.val (.int xp), .val (.ref ai), .val (.ref li), .val (.int (2 : Int32)), .val (.int v8), .val (.int v19), .val (.int v28), .val (.double (4472406533629990549 : UInt64)), .second, .val (.double j152_9), .second] [(.double v156), (.int (2 : Int32)), (.ref ai)])) rfl rfl (hb hby d1_157)
  change own_S _ _ _ _ _ _ _ _ _ _ _ _ _ _ [(ai, own_A .double [.double a0_, .double a1_, .double v156]), (li, own_A .double [.double b0_, .double b1_, .double b2_])] _ _ at Hl2A_1
  obtain ⟨v164, hv164⟩ : ∃ z : Int32, (v8 + v19) = z := ⟨_, rfl⟩
  obtain ⟨v165, hv165⟩ : ∃ z : UInt64, (FP.i2d v164) = z := ⟨_, rfl⟩
  obtain ⟨v168, hv168⟩ : ∃ z : UInt64, (FP.dadd v165 j152_9) = z := ⟨_, rfl⟩
  obtain ⟨Tl2A_2, Hl2A_2, stl2A_2⟩ := own_dastore Hl2A_1 hx hZ 1 2 rfl (by decide) (Nat.le_of_ble_eq_true rfl) (g := (mkF m 169 #[.val (.int xp), .val (.ref ai), .val (.ref li), .val (.int (2 : Int32)), .val (.int v8), .val (.int v19), .val (.int v28), .val (.double (4472406533629990549 : UInt64)), .second, .val (.double j152_9), .second] [(.double v168), (.int (2 : Int32)), (.ref li)])) rfl rfl (hb hby d1_169)
  change own_S _ _ _ _ _ _ _ _ _ _ _ _ _ _ [(ai, own_A .double [.double a0_, .double a1_, .double v156]), (li, own_A .double [.double b0_, .double b1_, .double v168])] _ _ at Hl2A_2
  have ec : v8.toInt = (xp.toInt % 16384) - 8192 := by
    have h1 := c_mask xp 16383 14 (by decide) (by decide)
    have h2 := c_isub v4 8192
    have := rng32 v8
    rw [hv4] at h1
    rw [hv8, show (8192 : Int32).toInt = 8192 from rfl] at h2
    omega
  have bd : v19.toInt ≤ 4 ∧ -4 ≤ v19.toInt := by
    have h1 := c_mask v14 7 3 (by decide) (by decide)
    have h2 := c_isub v17 4
    have := rng32 v19
    rw [hv17] at h1
    rw [hv19, show (4 : Int32).toInt = 4 from rfl] at h2
    omega
  have es : v164.toInt = v8.toInt + v19.toInt := by
    have h2 := c_iadd v8 v19
    have := rng32 v164
    rw [hv164] at h2
    omega
  have hd' := hd
  rw [hv14, hv17, hv19] at hd'
  have hk := own_m7 v25
  rw [hv28] at hk
  obtain ⟨o, io, o1, o2, oo⟩ := own_offs v28 hk
  have ej : own_off v28 = j152_9 := by rw [← hj152_9, ← hv149, ← hv138, ← hv120, ← hv103, ← hv89, ← hv85, ← hv58]; rfl
  rw [ej] at io
  have ic : own_is v156 ((v8.toInt : Int) : Rat) := by rw [← hv156]; exact own_isI _
  have is : own_is v165 ((v8.toInt + v19.toInt : Int) : Rat) := by rw [← hv165, ← es]; exact own_isI _
  have nn58 : NoNaN64 (FP.ddiv (4472406533629990549 : UInt64) (4611686018427387904 : UInt64)) := own_is_no own_o1
  have nn89 : NoNaN64 (FP.ddiv v85 (4611686018427387904 : UInt64)) := by rw [← hv85]; exact own_is_no own_o3
  have nn120 : NoNaN64 (FP.dmul (13835058055282163712 : UInt64) (4472406533629990549 : UInt64)) := own_is_no own_o5
  have nn138 : NoNaN64 (FP.dmul (4611686018427387904 : UInt64) (4472406533629990549 : UInt64)) := own_is_no own_o6
  have nn149 : NoNaN64 (FP.dmul (4613937818241073152 : UInt64) (4472406533629990549 : UInt64)) := by obtain ⟨_, h, -⟩ := own_o7; exact own_is_no h
  have nn168 : NoNaN64 (FP.dadd v165 j152_9) := own_rd_no (own_add is io)
  have hR := own_rA ic is io (by omega) bd o1 o2 hd'
  rw [hv168] at hR
  have nR : NoNaN64 (FP.dadd v156 (4472406533629990549 : UInt64)) := own_rd_no (own_add ic own_ist)
  have hb172 : ifCond.holds .ge v19 = false := by rw [own_z_ge]; exact decide_eq_false (by omega)
  refine ⟨_, _, _, _, 176, #[.val (.int xp), .val (.ref ai), .val (.ref li), .val (.int (2 : Int32)), .val (.int v8), .val (.int v19), .val (.int v28), .val (.double (4472406533629990549 : UInt64)), .second, .val (.double j152_9), .second], Hl2A_2, by decide, by decide, Or.inr ⟨.boolean, (.int (1 : Int32)), [], .ireturn, rfl, ⟨v156, v168, nR, hR, rfl, rfl⟩, d1_176, own_retZ (Or.inr rfl), fun target q => ?_⟩⟩
  refine own_go H0 hx hZ hown hby hw own_K1_ok (own_l2A_0 xp ai li v4 hv4 v8 hv8 v14 hv14 v17 hv17 v19 hv19 v25 hv25 v28 hv28 v58 hv58 nn58 v85 hv85 v89 hv89 nn89 v103 hv103 v120 hv120 nn120 v138 hv138 nn138 v149 hv149 nn149 j152_9 hj152_9) _ ?_
  refine own_go H0 hx hZ hown hby hw own_K1_ok (own_l2A_1 xp ai li v8 v19 v28 j152_9 v156 hv156) _ ?_
  refine stl2A_1 _ ?_
  refine own_go Hl2A_1 hx hZ hown hby hw own_K1_ok (own_l2A_2 xp ai li v8 v19 v28 j152_9 v164 hv164 v165 hv165 v168 hv168 nn168) _ ?_
  refine stl2A_2 _ ?_
  refine own_go Hl2A_2 hx hZ hown hby hw own_K1_ok (own_l2A_3 xp ai li v8 v19 v28 j152_9 hb172) _ ?_
  exact q
theorem own_l2B_0 (xp : Int32) (ai : Addr) (li : Addr) (v4 : Int32) (hv4 : (xp &&& (16383 : Int32)) = v4) (v8 : Int32) (hv8 : (v4 - (8192 : Int32)) = v8) (v14 : Int32) (hv14 : ((xp.toUInt32 >>> ((14 : Int32) &&& 31).toUInt32).toInt32) = v14) (v17 : Int32) (hv17 : (v14 &&& (7 : Int32)) = v17) (v19 : Int32) (hv19 : (v17 - (4 : Int32)) = v19) (v25 : Int32) (hv25 : ((xp.toUInt32 >>> ((17 : Int32) &&& 31).toUInt32).toInt32) = v25) (v28 : Int32) (hv28 : (v25 &&& (7 : Int32)) = v28) (v58 : UInt64) (hv58 : (FP.ddiv (4472406533629990549 : UInt64) (4611686018427387904 : UInt64)) = v58) (nn58 : NoNaN64 (FP.ddiv (4472406533629990549 : UInt64) (4611686018427387904 : UInt64))) (v85 : UInt64) (hv85 : (FP.dneg (4472406533629990549 : UInt64)) = v85) (v89 : UInt64) (hv89 : (FP.ddiv v85 (4611686018427387904 : UInt64)) = v89) (nn89 : NoNaN64 (FP.ddiv v85 (4611686018427387904 : UInt64))) (v103 : UInt64) (hv103 : (FP.dneg (4472406533629990549 : UInt64)) = v103) (v120 : UInt64) (hv120 : (FP.dmul (13835058055282163712 : UInt64) (4472406533629990549 : UInt64)) = v120) (nn120 : NoNaN64 (FP.dmul (13835058055282163712 : UInt64) (4472406533629990549 : UInt64))) (v138 : UInt64) (hv138 : (FP.dmul (4611686018427387904 : UInt64) (4472406533629990549 : UInt64)) = v138) (nn138 : NoNaN64 (FP.dmul (4611686018427387904 : UInt64) (4472406533629990549 : UInt64))) (v149 : UInt64) (hv149 : (FP.dmul (4613937818241073152 : UInt64) (4472406533629990549 : UInt64)) = v149) (nn149 : NoNaN64 (FP.dmul (4613937818241073152 : UInt64) (4472406533629990549 : UInt64))) (j152_9 : UInt64) (hj152_9 : (bif ifCond.holds .ne v28 then (bif if_icmp.holds .ne v28 (1 : Int32) then (bif if_icmp.holds .ne v28 (2 : Int32) then (bif if_icmp.holds .ne v28 (3 : Int32) then (bif if_icmp.holds .ne v28 (4 : Int32) then (bif if_icmp.holds .ne v28 (5 : Int32) then (bif if_icmp.holds .ne v28 (6 : Int32) then v149 else v138) else v120) else v103) else v89) else (4472406533629990549 : UInt64)) else v58) else (0 : UInt64)) = j152_9) :
    own_Go own_K1 method_3_code 0 #[.val (.int xp), .val (.ref ai), .val (.ref li), .val (.int (2 : Int32)), .unset, .unset, .unset, .unset, .unset, .unset, .unset] [] 152 #[.val (.int xp), .val (.ref ai), .val (.ref li), .val (.int (2 : Int32)), .val (.int v8), .val (.int v19), .val (.int v28), .val (.double (4472406533629990549 : UInt64)), .second, .val (.double j152_9), .second] [] := by
  subst hj152_9
  refine own_iloadN (pc2 := 1) d1_0 rfl rfl ?_
  refine own_sipush (v := 16383) (pc2 := 4) d1_1 rfl rfl ?_
  refine own_iand (pc2 := 5) d1_4 rfl (v := v4) hv4 ?_
  refine own_sipush (v := 8192) (pc2 := 8) d1_5 rfl rfl ?_
  refine own_isub (pc2 := 9) d1_8 rfl (v := v8) hv8 ?_
  refine own_istore (pc2 := 11) d1_9 rfl (L' := #[.val (.int xp), .val (.ref ai), .val (.ref li), .val (.int (2 : Int32)), .val (.int v8), .unset, .unset, .unset, .unset, .unset, .unset]) rfl ?_
  refine own_iloadN (pc2 := 12) d1_11 rfl rfl ?_
  refine own_bipush (v := 14) (pc2 := 14) d1_12 rfl rfl ?_
  refine own_iushr (pc2 := 15) d1_14 rfl (v := v14) hv14 ?_
  refine own_bipush (v := 7) (pc2 := 17) d1_15 rfl rfl ?_
  refine own_iand (pc2 := 18) d1_17 rfl (v := v17) hv17 ?_
  refine own_iconst (v := 4) (pc2 := 19) d1_18 rfl rfl ?_
  refine own_isub (pc2 := 20) d1_19 rfl (v := v19) hv19 ?_
  refine own_istore (pc2 := 22) d1_20 rfl (L' := #[.val (.int xp), .val (.ref ai), .val (.ref li), .val (.int (2 : Int32)), .val (.int v8), .val (.int v19), .unset, .unset, .unset, .unset, .unset]) rfl ?_
  refine own_iloadN (pc2 := 23) d1_22 rfl rfl ?_
  refine own_bipush (v := 17) (pc2 := 25) d1_23 rfl rfl ?_
  refine own_iushr (pc2 := 26) d1_25 rfl (v := v25) hv25 ?_
  refine own_bipush (v := 7) (pc2 := 28) d1_26 rfl rfl ?_
  refine own_iand (pc2 := 29) d1_28 rfl (v := v28) hv28 ?_
  refine own_istore (pc2 := 31) d1_29 rfl (L' := #[.val (.int xp), .val (.ref ai), .val (.ref li), .val (.int (2 : Int32)), .val (.int v8), .val (.int v19), .val (.int v28), .unset, .unset, .unset, .unset]) rfl ?_
  refine own_ldc2D (v := (4472406533629990549 : UInt64)) (pc2 := 34) d1_31 rfl (List.mem_of_getElem? (i := 0) rfl) ?_
  refine own_dstore (pc2 := 36) d1_34 rfl (L' := #[.val (.int xp), .val (.ref ai), .val (.ref li), .val (.int (2 : Int32)), .val (.int v8), .val (.int v19), .val (.int v28), .val (.double (4472406533629990549 : UInt64)), .second, .unset, .unset]) rfl ?_
  refine own_iload (pc2 := 38) d1_36 rfl rfl ?_
  cases hb38 : ifCond.holds .ne v28
  · refine own_ifNo (pc2 := 41) d1_38 rfl hb38 ?_
    refine own_dconst0 (v := 0) (pc2 := 42) d1_41 rfl rfl ?_
    refine own_dstore (pc2 := 44) d1_42 rfl (L' := #[.val (.int xp), .val (.ref ai), .val (.ref li), .val (.int (2 : Int32)), .val (.int v8), .val (.int v19), .val (.int v28), .val (.double (4472406533629990549 : UInt64)), .second, .val (.double (0 : UInt64)), .second]) rfl ?_
    refine own_goto (pc' := 152) d1_44 (by decide) (by decide) ?_
    exact own_refl
  · refine own_ifYes (pc' := 47) d1_38 hb38 (by decide) (by decide) ?_
    refine own_iload (pc2 := 49) d1_47 rfl rfl ?_
    refine own_iconst (v := 1) (pc2 := 50) d1_49 rfl rfl ?_
    cases hb50 : if_icmp.holds .ne v28 (1 : Int32)
    · refine own_icmpNo (pc2 := 53) d1_50 rfl hb50 ?_
      refine own_dload (pc2 := 55) d1_53 rfl rfl ?_
      refine own_ldc2D (v := (4611686018427387904 : UInt64)) (pc2 := 58) d1_55 rfl (List.mem_of_getElem? (i := 2) rfl) ?_
      refine own_ddiv (pc2 := 59) d1_58 rfl nn58 (v := v58) hv58 ?_
      refine own_dstore (pc2 := 61) d1_59 rfl (L' := #[.val (.int xp), .val (.ref ai), .val (.ref li), .val (.int (2 : Int32)), .val (.int v8), .val (.int v19), .val (.int v28), .val (.double (4472406533629990549 : UInt64)), .second, .val (.double v58), .second]) rfl ?_
      refine own_goto (pc' := 152) d1_61 (by decide) (by decide) ?_
      exact own_refl
    · refine own_icmpYes (pc' := 64) d1_50 hb50 (by decide) (by decide) ?_
      refine own_iload (pc2 := 66) d1_64 rfl rfl ?_
      refine own_iconst (v := 2) (pc2 := 67) d1_66 rfl rfl ?_
      cases hb67 : if_icmp.holds .ne v28 (2 : Int32)
      · refine own_icmpNo (pc2 := 70) d1_67 rfl hb67 ?_
        refine own_dload (pc2 := 72) d1_70 rfl rfl ?_
        refine own_dstore (pc2 := 74) d1_72 rfl (L' := #[.val (.int xp), .val (.ref ai), .val (.ref li), .val (.int (2 : Int32)), .val (.int v8), .val (.int v19), .val (.int v28), .val (.double (4472406533629990549 : UInt64)), .second, .val (.double (4472406533629990549 : UInt64)), .second]) rfl ?_
        refine own_goto (pc' := 152) d1_74 (by decide) (by decide) ?_
        exact own_refl
      · refine own_icmpYes (pc' := 77) d1_67 hb67 (by decide) (by decide) ?_
        refine own_iload (pc2 := 79) d1_77 rfl rfl ?_
        refine own_iconst (v := 3) (pc2 := 80) d1_79 rfl rfl ?_
        cases hb80 : if_icmp.holds .ne v28 (3 : Int32)
        · refine own_icmpNo (pc2 := 83) d1_80 rfl hb80 ?_
          refine own_dload (pc2 := 85) d1_83 rfl rfl ?_
          refine own_dneg (pc2 := 86) d1_85 rfl (v := v85) hv85 ?_
          refine own_ldc2D (v := (4611686018427387904 : UInt64)) (pc2 := 89) d1_86 rfl (List.mem_of_getElem? (i := 2) rfl) ?_
          refine own_ddiv (pc2 := 90) d1_89 rfl nn89 (v := v89) hv89 ?_
          refine own_dstore (pc2 := 92) d1_90 rfl (L' := #[.val (.int xp), .val (.ref ai), .val (.ref li), .val (.int (2 : Int32)), .val (.int v8), .val (.int v19), .val (.int v28), .val (.double (4472406533629990549 : UInt64)), .second, .val (.double v89), .second]) rfl ?_
          refine own_goto (pc' := 152) d1_92 (by decide) (by decide) ?_
          exact own_refl
        · refine own_icmpYes (pc' := 95) d1_80 hb80 (by decide) (by decide) ?_
          refine own_iload (pc2 := 97) d1_95 rfl rfl ?_
          refine own_iconst (v := 4) (pc2 := 98) d1_97 rfl rfl ?_
          cases hb98 : if_icmp.holds .ne v28 (4 : Int32)
          · refine own_icmpNo (pc2 := 101) d1_98 rfl hb98 ?_
            refine own_dload (pc2 := 103) d1_101 rfl rfl ?_
            refine own_dneg (pc2 := 104) d1_103 rfl (v := v103) hv103 ?_
            refine own_dstore (pc2 := 106) d1_104 rfl (L' := #[.val (.int xp), .val (.ref ai), .val (.ref li), .val (.int (2 : Int32)), .val (.int v8), .val (.int v19), .val (.int v28), .val (.double (4472406533629990549 : UInt64)), .second, .val (.double v103), .second]) rfl ?_
            refine own_goto (pc' := 152) d1_106 (by decide) (by decide) ?_
            exact own_refl
          · refine own_icmpYes (pc' := 109) d1_98 hb98 (by decide) (by decide) ?_
            refine own_iload (pc2 := 111) d1_109 rfl rfl ?_
            refine own_iconst (v := 5) (pc2 := 112) d1_111 rfl rfl ?_
            cases hb112 : if_icmp.holds .ne v28 (5 : Int32)
            · refine own_icmpNo (pc2 := 115) d1_112 rfl hb112 ?_
              refine own_ldc2D (v := (13835058055282163712 : UInt64)) (pc2 := 118) d1_115 rfl (List.mem_of_getElem? (i := 3) rfl) ?_
              refine own_dload (pc2 := 120) d1_118 rfl rfl ?_
              refine own_dmul (pc2 := 121) d1_120 rfl nn120 (v := v120) hv120 ?_
              refine own_dstore (pc2 := 123) d1_121 rfl (L' := #[.val (.int xp), .val (.ref ai), .val (.ref li), .val (.int (2 : Int32)), .val (.int v8), .val (.int v19), .val (.int v28), .val (.double (4472406533629990549 : UInt64)), .second, .val (.double v120), .second]) rfl ?_
              refine own_goto (pc' := 152) d1_123 (by decide) (by decide) ?_
              exact own_refl
            · refine own_icmpYes (pc' := 126) d1_112 hb112 (by decide) (by decide) ?_
              refine own_iload (pc2 := 128) d1_126 rfl rfl ?_
              refine own_bipush (v := 6) (pc2 := 130) d1_128 rfl rfl ?_
              cases hb130 : if_icmp.holds .ne v28 (6 : Int32)
              · refine own_icmpNo (pc2 := 133) d1_130 rfl hb130 ?_
                refine own_ldc2D (v := (4611686018427387904 : UInt64)) (pc2 := 136) d1_133 rfl (List.mem_of_getElem? (i := 2) rfl) ?_
                refine own_dload (pc2 := 138) d1_136 rfl rfl ?_
                refine own_dmul (pc2 := 139) d1_138 rfl nn138 (v := v138) hv138 ?_
                refine own_dstore (pc2 := 141) d1_139 rfl (L' := #[.val (.int xp), .val (.ref ai), .val (.ref li), .val (.int (2 : Int32)), .val (.int v8), .val (.int v19), .val (.int v28), .val (.double (4472406533629990549 : UInt64)), .second, .val (.double v138), .second]) rfl ?_
                refine own_goto (pc' := 152) d1_141 (by decide) (by decide) ?_
                exact own_refl
              · refine own_icmpYes (pc' := 144) d1_130 hb130 (by decide) (by decide) ?_
                refine own_ldc2D (v := (4613937818241073152 : UInt64)) (pc2 := 147) d1_144 rfl (List.mem_of_getElem? (i := 1) rfl) ?_
                refine own_dload (pc2 := 149) d1_147 rfl rfl ?_
                refine own_dmul (pc2 := 150) d1_149 rfl nn149 (v := v149) hv149 ?_
                refine own_dstore (pc2 := 152) d1_150 rfl (L' := #[.val (.int xp), .val (.ref ai), .val (.ref li), .val (.int (2 : Int32)), .val (.int v8), .val (.int v19), .val (.int v28), .val (.double (4472406533629990549 : UInt64)), .second, .val (.double v149), .second]) rfl ?_
                exact own_refl
theorem own_l2B_1 (xp : Int32) (ai : Addr) (li : Addr) (v8 : Int32) (v19 : Int32) (v28 : Int32) (j152_9 : UInt64) (v156 : UInt64) (hv156 : (FP.i2d v8) = v156) :
    own_Go own_K1 method_3_code 152 #[.val (.int xp), .val (.ref ai), .val (.ref li), .val (.int (2 : Int32)), .val (.int v8), .val (.int v19), .val (.int v28), .val (.double (4472406533629990549 : UInt64)), .second, .val (.double j152_9), .second] [] 157 #[.val (.int xp), .val (.ref ai), .val (.ref li), .val (.int (2 : Int32)), .val (.int v8), .val (.int v19), .val (.int v28), .val (.double (4472406533629990549 : UInt64)), .second, .val (.double j152_9), .second] [(.double v156), (.int (2 : Int32)), (.ref ai)] := by
  refine own_aloadN (pc2 := 153) d1_152 rfl rfl rfl ?_
  refine own_iloadN (pc2 := 154) d1_153 rfl rfl ?_
  refine own_iload (pc2 := 156) d1_154 rfl rfl ?_
  refine own_i2d (pc2 := 157) d1_156 rfl (v := v156) hv156 ?_
  exact own_refl
theorem own_l2B_2 (xp : Int32) (ai : Addr) (li : Addr) (v8 : Int32) (v19 : Int32) (v28 : Int32) (j152_9 : UInt64) (v164 : Int32) (hv164 : (v8 + v19) = v164) (v165 : UInt64) (hv165 : (FP.i2d v164) = v165) (v168 : UInt64) (hv168 : (FP.dadd v165 j152_9) = v168) (nn168 : NoNaN64 (FP.dadd v165 j152_9)) :
    own_Go own_K1 method_3_code 158 #[.val (.int xp), .val (.ref ai), .val (.ref li), .val (.int (2 : Int32)), .val (.int v8), .val (.int v19), .val (.int v28), .val (.double (4472406533629990549 : UInt64)), .second, .val (.double j152_9), .second] [] 169 #[.val (.int xp), .val (.ref ai), .val (.ref li), .val (.int (2 : Int32)), .val (.int v8), .val (.int v19), .val (.int v28), .val (.double (4472406533629990549 : UInt64)), .second, .val (.double j152_9), .second] [(.double v168), (.int (2 : Int32)), (.ref li)] := by
  refine own_aloadN (pc2 := 159) d1_158 rfl rfl rfl ?_
  refine own_iloadN (pc2 := 160) d1_159 rfl rfl ?_
  refine own_iload (pc2 := 162) d1_160 rfl rfl ?_
  refine own_iload (pc2 := 164) d1_162 rfl rfl ?_
  refine own_iadd (pc2 := 165) d1_164 rfl (v := v164) hv164 ?_
  refine own_i2d (pc2 := 166) d1_165 rfl (v := v165) hv165 ?_
  refine own_dload (pc2 := 168) d1_166 rfl rfl ?_
  refine own_dadd (pc2 := 169) d1_168 rfl nn168 (v := v168) hv168 ?_
  exact own_refl
theorem own_l2B_3 (xp : Int32) (ai : Addr) (li : Addr) (v8 : Int32) (v19 : Int32) (v28 : Int32) (j152_9 : UInt64) (hb172 : ifCond.holds .ge v19 = true) (hb179 : ifCond.holds .le v19 = false) :
    own_Go own_K1 method_3_code 170 #[.val (.int xp), .val (.ref ai), .val (.ref li), .val (.int (2 : Int32)), .val (.int v8), .val (.int v19), .val (.int v28), .val (.double (4472406533629990549 : UInt64)), .second, .val (.double j152_9), .second] [] 183 #[.val (.int xp), .val (.ref ai), .val (.ref li), .val (.int (2 : Int32)), .val (.int v8), .val (.int v19), .val (.int v28), .val (.double (4472406533629990549 : UInt64)), .second, .val (.double j152_9), .second] [(.int (0 : Int32))] := by
  refine own_iload (pc2 := 172) d1_170 rfl rfl ?_
  refine own_ifYes (pc' := 177) d1_172 hb172 (by decide) (by decide) ?_
  refine own_iload (pc2 := 179) d1_177 rfl rfl ?_
  refine own_ifNo (pc2 := 182) d1_179 rfl hb179 ?_
  refine own_iconst (v := 0) (pc2 := 183) d1_182 rfl rfl ?_
  exact own_refl
set_option maxRecDepth 65536 in
set_option maxHeartbeats 4000000 in
theorem own_fill2B (l : Launch) (Z : State) (a0 : Array Value) (hb0 : own_Base) (hw : ∀ d ∈ tables_1, d.before a0 Z = true) (xp : Int32) (ai : Addr) (li : Addr) (a0_ a1_ a2_ b0_ b1_ b2_ : UInt64) (hd : 0 < ((((xp.toUInt32 >>> ((14 : Int32) &&& 31).toUInt32).toInt32) &&& (7 : Int32)) - (4 : Int32)).toInt) :
    own_Met l Z a0 hb0 (⟨"com/example/placewright/placewright/model/MachineTypeHolds334PinLaw", "fill", "(I[D[DI)Z"⟩ : MethodName) method_3_code 11 (some .boolean) [] ({ frames := 0, cells := 0, slots := 0, locals := 0 } : Room) #[(.int xp), (.ref ai), (.ref li), (.int (2 : Int32))] [(ai, own_A .double [.double a0_, .double a1_, .double a2_]), (li, own_A .double [.double b0_, .double b1_, .double b2_])] (fun r cs' => ∃ ca lo, NoNaN64 (FP.dadd ca (4472406533629990549 : UInt64)) ∧ ifCond.holds .gt (cmpValue (FP.dcmp lo (FP.dadd ca (4472406533629990549 : UInt64))) .g) = true ∧ r = some (.int 0) ∧ cs' = [(ai, own_A .double [.double a0_, .double a1_, .double ca]), (li, own_A .double [.double b0_, .double b1_, .double lo])]) := by
  refine own_met_of (L0 := #[.val (.int xp), .val (.ref ai), .val (.ref li), .val (.int (2 : Int32)), .unset, .unset, .unset, .unset, .unset, .unset, .unset]) (plainFor_of_name own_pn1) (fun m => own_ef1 m xp ai li (2 : Int32)) ?_
  intro p e s m below meth c T0 hx hZ hown hby hml hnm H0
  obtain ⟨v4, hv4⟩ : ∃ z : Int32, (xp &&& (16383 : Int32)) = z := ⟨_, rfl⟩
  obtain ⟨v8, hv8⟩ : ∃ z : Int32, (v4 - (8192 : Int32)) = z := ⟨_, rfl⟩
  obtain ⟨v14, hv14⟩ : ∃ z : Int32, ((xp.toUInt32 >>> ((14 : Int32) &&& 31).toUInt32).toInt32) = z := ⟨_, rfl⟩
  obtain ⟨v17, hv17⟩ : ∃ z : Int32, (v14 &&& (7 : Int32)) = z := ⟨_, rfl⟩
  obtain ⟨v19, hv19⟩ : ∃ z : Int32, (v17 - (4 : Int32)) = z := ⟨_, rfl⟩
  obtain ⟨v25, hv25⟩ : ∃ z : Int32, ((xp.toUInt32 >>> ((17 : Int32) &&& 31).toUInt32).toInt32) = z := ⟨_, rfl⟩
  obtain ⟨v28, hv28⟩ : ∃ z : Int32, (v25 &&& (7 : Int32)) = z := ⟨_, rfl⟩
  obtain ⟨v58, hv58⟩ : ∃ z : UInt64, (FP.ddiv (4472406533629990549 : UInt64) (4611686018427387904 : UInt64)) = z := ⟨_, rfl⟩
  obtain ⟨v85, hv85⟩ : ∃ z : UInt64, (FP.dneg (4472406533629990549 : UInt64)) = z := ⟨_, rfl⟩
  obtain ⟨v89, hv89⟩ : ∃ z : UInt64, (FP.ddiv v85 (4611686018427387904 : UInt64)) = z := ⟨_, rfl⟩
  obtain ⟨v103, hv103⟩ : ∃ z : UInt64, (FP.dneg (4472406533629990549 : UInt64)) = z := ⟨_, rfl⟩
  obtain ⟨v120, hv120⟩ : ∃ z : UInt64, (FP.dmul (13835058055282163712 : UInt64) (4472406533629990549 : UInt64)) = z := ⟨_, rfl⟩
  obtain ⟨v138, hv138⟩ : ∃ z : UInt64, (FP.dmul (4611686018427387904 : UInt64) (4472406533629990549 : UInt64)) = z := ⟨_, rfl⟩
  obtain ⟨v149, hv149⟩ : ∃ z : UInt64, (FP.dmul (4613937818241073152 : UInt64) (4472406533629990549 : UInt64)) = z := ⟨_, rfl⟩
  obtain ⟨j152_9, hj152_9⟩ : ∃ z : UInt64, (bif ifCond.holds .ne v28 then (bif if_icmp.holds .ne v28 (1 : Int32) then (bif if_icmp.holds .ne v28 (2 : Int32) then (bif if_icmp.holds .ne v28 (3 : Int32) then (bif if_icmp.holds .ne v28 (4 : Int32) then (bif if_icmp.holds .ne v28 (5 : Int32) then (bif if_icmp.holds .ne v28 (6 : Int32) then v149 else v138) else v120) else v103) else v89) else (4472406533629990549 : UInt64)) else v58) else (0 : UInt64)) = z := ⟨_, rfl⟩
  obtain ⟨v156, hv156⟩ : ∃ z : UInt64, (FP.i2d v8) = z := ⟨_, rfl⟩
  obtain ⟨Tl2B_1, Hl2B_1, stl2B_1⟩ := own_dastore H0 hx hZ 0 2 rfl (by decide) (Nat.le_of_ble_eq_true rfl) (g := (mkF m 157 #[.val (.int xp), .val (.ref ai), .val (.ref li), .val (.int (2 : Int32)), .val (.int v8), .val (.int v19), .val (.int v28), .val (.double (4472406533629990549 : UInt64)), .second, .val (.double j152_9), .second] [(.double v156), (.int (2 : Int32)), (.ref ai)])) rfl rfl (hb hby d1_157)
  change own_S _ _ _ _ _ _ _ _ _ _ _ _ _ _ [(ai, own_A .double [.double a0_, .double a1_, .double v156]), (li, own_A .double [.double b0_, .double b1_, .double b2_])] _ _ at Hl2B_1
  obtain ⟨v164, hv164⟩ : ∃ z : Int32, (v8 + v19) = z := ⟨_, rfl⟩
  obtain ⟨v165, hv165⟩ : ∃ z : UInt64, (FP.i2d v164) = z := ⟨_, rfl⟩
  obtain ⟨v168, hv168⟩ : ∃ z : UInt64, (FP.dadd v165 j152_9) = z := ⟨_, rfl⟩
  obtain ⟨Tl2B_2, Hl2B_2, stl2B_2⟩ := own_dastore Hl2B_1 hx hZ 1 2 rfl (by decide) (Nat.le_of_ble_eq_true rfl) (g := (mkF m 169 #[.val (.int xp), .val (.ref ai), .val (.ref li), .val (.int (2 : Int32)), .val (.int v8), .val (.int v19), .val (.int v28), .val (.double (4472406533629990549 : UInt64)), .second, .val (.double j152_9), .second] [(.double v168), (.int (2 : Int32)), (.ref li)])) rfl rfl (hb hby d1_169)
  change own_S _ _ _ _ _ _ _ _ _ _ _ _ _ _ [(ai, own_A .double [.double a0_, .double a1_, .double v156]), (li, own_A .double [.double b0_, .double b1_, .double v168])] _ _ at Hl2B_2
  have ec : v8.toInt = (xp.toInt % 16384) - 8192 := by
    have h1 := c_mask xp 16383 14 (by decide) (by decide)
    have h2 := c_isub v4 8192
    have := rng32 v8
    rw [hv4] at h1
    rw [hv8, show (8192 : Int32).toInt = 8192 from rfl] at h2
    omega
  have bd : v19.toInt ≤ 4 ∧ -4 ≤ v19.toInt := by
    have h1 := c_mask v14 7 3 (by decide) (by decide)
    have h2 := c_isub v17 4
    have := rng32 v19
    rw [hv17] at h1
    rw [hv19, show (4 : Int32).toInt = 4 from rfl] at h2
    omega
  have es : v164.toInt = v8.toInt + v19.toInt := by
    have h2 := c_iadd v8 v19
    have := rng32 v164
    rw [hv164] at h2
    omega
  have hd' := hd
  rw [hv14, hv17, hv19] at hd'
  have hk := own_m7 v25
  rw [hv28] at hk
  obtain ⟨o, io, o1, o2, oo⟩ := own_offs v28 hk
  have ej : own_off v28 = j152_9 := by rw [← hj152_9, ← hv149, ← hv138, ← hv120, ← hv103, ← hv89, ← hv85, ← hv58]; rfl
  rw [ej] at io
  have ic : own_is v156 ((v8.toInt : Int) : Rat) := by rw [← hv156]; exact own_isI _
  have is : own_is v165 ((v8.toInt + v19.toInt : Int) : Rat) := by rw [← hv165, ← es]; exact own_isI _
  have nn58 : NoNaN64 (FP.ddiv (4472406533629990549 : UInt64) (4611686018427387904 : UInt64)) := own_is_no own_o1
  have nn89 : NoNaN64 (FP.ddiv v85 (4611686018427387904 : UInt64)) := by rw [← hv85]; exact own_is_no own_o3
  have nn120 : NoNaN64 (FP.dmul (13835058055282163712 : UInt64) (4472406533629990549 : UInt64)) := own_is_no own_o5
  have nn138 : NoNaN64 (FP.dmul (4611686018427387904 : UInt64) (4472406533629990549 : UInt64)) := own_is_no own_o6
  have nn149 : NoNaN64 (FP.dmul (4613937818241073152 : UInt64) (4472406533629990549 : UInt64)) := by obtain ⟨_, h, -⟩ := own_o7; exact own_is_no h
  have nn168 : NoNaN64 (FP.dadd v165 j152_9) := own_rd_no (own_add is io)
  have hR := own_rB ic is io (by omega) bd o1 o2 hd'
  rw [hv168] at hR
  have nR : NoNaN64 (FP.dadd v156 (4472406533629990549 : UInt64)) := own_rd_no (own_add ic own_ist)
  have hb172 : ifCond.holds .ge v19 = true := by rw [own_z_ge]; exact decide_eq_true (by omega)
  have hb179 : ifCond.holds .le v19 = false := by rw [own_z_le]; exact decide_eq_false (by omega)
  refine ⟨_, _, _, _, 183, #[.val (.int xp), .val (.ref ai), .val (.ref li), .val (.int (2 : Int32)), .val (.int v8), .val (.int v19), .val (.int v28), .val (.double (4472406533629990549 : UInt64)), .second, .val (.double j152_9), .second], Hl2B_2, by decide, by decide, Or.inr ⟨.boolean, (.int (0 : Int32)), [], .ireturn, rfl, ⟨v156, v168, nR, hR, rfl, rfl⟩, d1_183, own_retZ (Or.inl rfl), fun target q => ?_⟩⟩
  refine own_go H0 hx hZ hown hby hw own_K1_ok (own_l2B_0 xp ai li v4 hv4 v8 hv8 v14 hv14 v17 hv17 v19 hv19 v25 hv25 v28 hv28 v58 hv58 nn58 v85 hv85 v89 hv89 nn89 v103 hv103 v120 hv120 nn120 v138 hv138 nn138 v149 hv149 nn149 j152_9 hj152_9) _ ?_
  refine own_go H0 hx hZ hown hby hw own_K1_ok (own_l2B_1 xp ai li v8 v19 v28 j152_9 v156 hv156) _ ?_
  refine stl2B_1 _ ?_
  refine own_go Hl2B_1 hx hZ hown hby hw own_K1_ok (own_l2B_2 xp ai li v8 v19 v28 j152_9 v164 hv164 v165 hv165 v168 hv168 nn168) _ ?_
  refine stl2B_2 _ ?_
  refine own_go Hl2B_2 hx hZ hown hby hw own_K1_ok (own_l2B_3 xp ai li v8 v19 v28 j152_9 hb172 hb179) _ ?_
  exact q
theorem own_l2C_0 (xp : Int32) (ai : Addr) (li : Addr) (v4 : Int32) (hv4 : (xp &&& (16383 : Int32)) = v4) (v8 : Int32) (hv8 : (v4 - (8192 : Int32)) = v8) (v14 : Int32) (hv14 : ((xp.toUInt32 >>> ((14 : Int32) &&& 31).toUInt32).toInt32) = v14) (v17 : Int32) (hv17 : (v14 &&& (7 : Int32)) = v17) (v19 : Int32) (hv19 : (v17 - (4 : Int32)) = v19) (v25 : Int32) (hv25 : ((xp.toUInt32 >>> ((17 : Int32) &&& 31).toUInt32).toInt32) = v25) (v28 : Int32) (hv28 : (v25 &&& (7 : Int32)) = v28) (v58 : UInt64) (hv58 : (FP.ddiv (4472406533629990549 : UInt64) (4611686018427387904 : UInt64)) = v58) (nn58 : NoNaN64 (FP.ddiv (4472406533629990549 : UInt64) (4611686018427387904 : UInt64))) (v85 : UInt64) (hv85 : (FP.dneg (4472406533629990549 : UInt64)) = v85) (v89 : UInt64) (hv89 : (FP.ddiv v85 (4611686018427387904 : UInt64)) = v89) (nn89 : NoNaN64 (FP.ddiv v85 (4611686018427387904 : UInt64))) (v103 : UInt64) (hv103 : (FP.dneg (4472406533629990549 : UInt64)) = v103) (v120 : UInt64) (hv120 : (FP.dmul (13835058055282163712 : UInt64) (4472406533629990549 : UInt64)) = v120) (nn120 : NoNaN64 (FP.dmul (13835058055282163712 : UInt64) (4472406533629990549 : UInt64))) (v138 : UInt64) (hv138 : (FP.dmul (4611686018427387904 : UInt64) (4472406533629990549 : UInt64)) = v138) (nn138 : NoNaN64 (FP.dmul (4611686018427387904 : UInt64) (4472406533629990549 : UInt64))) (v149 : UInt64) (hv149 : (FP.dmul (4613937818241073152 : UInt64) (4472406533629990549 : UInt64)) = v149) (nn149 : NoNaN64 (FP.dmul (4613937818241073152 : UInt64) (4472406533629990549 : UInt64))) (j152_9 : UInt64) (hj152_9 : (bif ifCond.holds .ne v28 then (bif if_icmp.holds .ne v28 (1 : Int32) then (bif if_icmp.holds .ne v28 (2 : Int32) then (bif if_icmp.holds .ne v28 (3 : Int32) then (bif if_icmp.holds .ne v28 (4 : Int32) then (bif if_icmp.holds .ne v28 (5 : Int32) then (bif if_icmp.holds .ne v28 (6 : Int32) then v149 else v138) else v120) else v103) else v89) else (4472406533629990549 : UInt64)) else v58) else (0 : UInt64)) = j152_9) :
    own_Go own_K1 method_3_code 0 #[.val (.int xp), .val (.ref ai), .val (.ref li), .val (.int (2 : Int32)), .unset, .unset, .unset, .unset, .unset, .unset, .unset] [] 152 #[.val (.int xp), .val (.ref ai), .val (.ref li), .val (.int (2 : Int32)), .val (.int v8), .val (.int v19), .val (.int v28), .val (.double (4472406533629990549 : UInt64)), .second, .val (.double j152_9), .second] [] := by
  subst hj152_9
  refine own_iloadN (pc2 := 1) d1_0 rfl rfl ?_
  refine own_sipush (v := 16383) (pc2 := 4) d1_1 rfl rfl ?_
  refine own_iand (pc2 := 5) d1_4 rfl (v := v4) hv4 ?_
  refine own_sipush (v := 8192) (pc2 := 8) d1_5 rfl rfl ?_
  refine own_isub (pc2 := 9) d1_8 rfl (v := v8) hv8 ?_
  refine own_istore (pc2 := 11) d1_9 rfl (L' := #[.val (.int xp), .val (.ref ai), .val (.ref li), .val (.int (2 : Int32)), .val (.int v8), .unset, .unset, .unset, .unset, .unset, .unset]) rfl ?_
  refine own_iloadN (pc2 := 12) d1_11 rfl rfl ?_
  refine own_bipush (v := 14) (pc2 := 14) d1_12 rfl rfl ?_
  refine own_iushr (pc2 := 15) d1_14 rfl (v := v14) hv14 ?_
  refine own_bipush (v := 7) (pc2 := 17) d1_15 rfl rfl ?_
  refine own_iand (pc2 := 18) d1_17 rfl (v := v17) hv17 ?_
  refine own_iconst (v := 4) (pc2 := 19) d1_18 rfl rfl ?_
  refine own_isub (pc2 := 20) d1_19 rfl (v := v19) hv19 ?_
  refine own_istore (pc2 := 22) d1_20 rfl (L' := #[.val (.int xp), .val (.ref ai), .val (.ref li), .val (.int (2 : Int32)), .val (.int v8), .val (.int v19), .unset, .unset, .unset, .unset, .unset]) rfl ?_
  refine own_iloadN (pc2 := 23) d1_22 rfl rfl ?_
  refine own_bipush (v := 17) (pc2 := 25) d1_23 rfl rfl ?_
  refine own_iushr (pc2 := 26) d1_25 rfl (v := v25) hv25 ?_
  refine own_bipush (v := 7) (pc2 := 28) d1_26 rfl rfl ?_
  refine own_iand (pc2 := 29) d1_28 rfl (v := v28) hv28 ?_
  refine own_istore (pc2 := 31) d1_29 rfl (L' := #[.val (.int xp), .val (.ref ai), .val (.ref li), .val (.int (2 : Int32)), .val (.int v8), .val (.int v19), .val (.int v28), .unset, .unset, .unset, .unset]) rfl ?_
  refine own_ldc2D (v := (4472406533629990549 : UInt64)) (pc2 := 34) d1_31 rfl (List.mem_of_getElem? (i := 0) rfl) ?_
  refine own_dstore (pc2 := 36) d1_34 rfl (L' := #[.val (.int xp), .val (.ref ai), .val (.ref li), .val (.int (2 : Int32)), .val (.int v8), .val (.int v19), .val (.int v28), .val (.double (4472406533629990549 : UInt64)), .second, .unset, .unset]) rfl ?_
  refine own_iload (pc2 := 38) d1_36 rfl rfl ?_
  cases hb38 : ifCond.holds .ne v28
  · refine own_ifNo (pc2 := 41) d1_38 rfl hb38 ?_
    refine own_dconst0 (v := 0) (pc2 := 42) d1_41 rfl rfl ?_
    refine own_dstore (pc2 := 44) d1_42 rfl (L' := #[.val (.int xp), .val (.ref ai), .val (.ref li), .val (.int (2 : Int32)), .val (.int v8), .val (.int v19), .val (.int v28), .val (.double (4472406533629990549 : UInt64)), .second, .val (.double (0 : UInt64)), .second]) rfl ?_
    refine own_goto (pc' := 152) d1_44 (by decide) (by decide) ?_
    exact own_refl
  · refine own_ifYes (pc' := 47) d1_38 hb38 (by decide) (by decide) ?_
    refine own_iload (pc2 := 49) d1_47 rfl rfl ?_
    refine own_iconst (v := 1) (pc2 := 50) d1_49 rfl rfl ?_
    cases hb50 : if_icmp.holds .ne v28 (1 : Int32)
    · refine own_icmpNo (pc2 := 53) d1_50 rfl hb50 ?_
      refine own_dload (pc2 := 55) d1_53 rfl rfl ?_
      refine own_ldc2D (v := (4611686018427387904 : UInt64)) (pc2 := 58) d1_55 rfl (List.mem_of_getElem? (i := 2) rfl) ?_
      refine own_ddiv (pc2 := 59) d1_58 rfl nn58 (v := v58) hv58 ?_
      refine own_dstore (pc2 := 61) d1_59 rfl (L' := #[.val (.int xp), .val (.ref ai), .val (.ref li), .val (.int (2 : Int32)), .val (.int v8), .val (.int v19), .val (.int v28), .val (.double (4472406533629990549 : UInt64)), .second, .val (.double v58), .second]) rfl ?_
      refine own_goto (pc' := 152) d1_61 (by decide) (by decide) ?_
      exact own_refl
    · refine own_icmpYes (pc' := 64) d1_50 hb50 (by decide) (by decide) ?_
      refine own_iload (pc2 := 66) d1_64 rfl rfl ?_
      refine own_iconst (v := 2) (pc2 := 67) d1_66 rfl rfl ?_
      cases hb67 : if_icmp.holds .ne v28 (2 : Int32)
      · refine own_icmpNo (pc2 := 70) d1_67 rfl hb67 ?_
        refine own_dload (pc2 := 72) d1_70 rfl rfl ?_
        refine own_dstore (pc2 := 74) d1_72 rfl (L' := #[.val (.int xp), .val (.ref ai), .val (.ref li), .val (.int (2 : Int32)), .val (.int v8), .val (.int v19), .val (.int v28), .val (.double (4472406533629990549 : UInt64)), .second, .val (.double (4472406533629990549 : UInt64)), .second]) rfl ?_
        refine own_goto (pc' := 152) d1_74 (by decide) (by decide) ?_
        exact own_refl
      · refine own_icmpYes (pc' := 77) d1_67 hb67 (by decide) (by decide) ?_
        refine own_iload (pc2 := 79) d1_77 rfl rfl ?_
        refine own_iconst (v := 3) (pc2 := 80) d1_79 rfl rfl ?_
        cases hb80 : if_icmp.holds .ne v28 (3 : Int32)
        · refine own_icmpNo (pc2 := 83) d1_80 rfl hb80 ?_
          refine own_dload (pc2 := 85) d1_83 rfl rfl ?_
          refine own_dneg (pc2 := 86) d1_85 rfl (v := v85) hv85 ?_
          refine own_ldc2D (v := (4611686018427387904 : UInt64)) (pc2 := 89) d1_86 rfl (List.mem_of_getElem? (i := 2) rfl) ?_
          refine own_ddiv (pc2 := 90) d1_89 rfl nn89 (v := v89) hv89 ?_
          refine own_dstore (pc2 := 92) d1_90 rfl (L' := #[.val (.int xp), .val (.ref ai), .val (.ref li), .val (.int (2 : Int32)), .val (.int v8), .val (.int v19), .val (.int v28), .val (.double (4472406533629990549 : UInt64)), .second, .val (.double v89), .second]) rfl ?_
          refine own_goto (pc' := 152) d1_92 (by decide) (by decide) ?_
          exact own_refl
        · refine own_icmpYes (pc' := 95) d1_80 hb80 (by decide) (by decide) ?_
          refine own_iload (pc2 := 97) d1_95 rfl rfl ?_
          refine own_iconst (v := 4) (pc2 := 98) d1_97 rfl rfl ?_
          cases hb98 : if_icmp.holds .ne v28 (4 : Int32)
          · refine own_icmpNo (pc2 := 101) d1_98 rfl hb98 ?_
            refine own_dload (pc2 := 103) d1_101 rfl rfl ?_
            refine own_dneg (pc2 := 104) d1_103 rfl (v := v103) hv103 ?_
            refine own_dstore (pc2 := 106) d1_104 rfl (L' := #[.val (.int xp), .val (.ref ai), .val (.ref li), .val (.int (2 : Int32)), .val (.int v8), .val (.int v19), .val (.int v28), .val (.double (4472406533629990549 : UInt64)), .second, .val (.double v103), .second]) rfl ?_
            refine own_goto (pc' := 152) d1_106 (by decide) (by decide) ?_
            exact own_refl
          · refine own_icmpYes (pc' := 109) d1_98 hb98 (by decide) (by decide) ?_
            refine own_iload (pc2 := 111) d1_109 rfl rfl ?_
            refine own_iconst (v := 5) (pc2 := 112) d1_111 rfl rfl ?_
            cases hb112 : if_icmp.holds .ne v28 (5 : Int32)
            · refine own_icmpNo (pc2 := 115) d1_112 rfl hb112 ?_
              refine own_ldc2D (v := (13835058055282163712 : UInt64)) (pc2 := 118) d1_115 rfl (List.mem_of_getElem? (i := 3) rfl) ?_
              refine own_dload (pc2 := 120) d1_118 rfl rfl ?_
              refine own_dmul (pc2 := 121) d1_120 rfl nn120 (v := v120) hv120 ?_
              refine own_dstore (pc2 := 123) d1_121 rfl (L' := #[.val (.int xp), .val (.ref ai), .val (.ref li), .val (.int (2 : Int32)), .val (.int v8), .val (.int v19), .val (.int v28), .val (.double (4472406533629990549 : UInt64)), .second, .val (.double v120), .second]) rfl ?_
              refine own_goto (pc' := 152) d1_123 (by decide) (by decide) ?_
              exact own_refl
            · refine own_icmpYes (pc' := 126) d1_112 hb112 (by decide) (by decide) ?_
              refine own_iload (pc2 := 128) d1_126 rfl rfl ?_
              refine own_bipush (v := 6) (pc2 := 130) d1_128 rfl rfl ?_
              cases hb130 : if_icmp.holds .ne v28 (6 : Int32)
              · refine own_icmpNo (pc2 := 133) d1_130 rfl hb130 ?_
                refine own_ldc2D (v := (4611686018427387904 : UInt64)) (pc2 := 136) d1_133 rfl (List.mem_of_getElem? (i := 2) rfl) ?_
                refine own_dload (pc2 := 138) d1_136 rfl rfl ?_
                refine own_dmul (pc2 := 139) d1_138 rfl nn138 (v := v138) hv138 ?_
                refine own_dstore (pc2 := 141) d1_139 rfl (L' := #[.val (.int xp), .val (.ref ai), .val (.ref li), .val (.int (2 : Int32)), .val (.int v8), .val (.int v19), .val (.int v28), .val (.double (4472406533629990549 : UInt64)), .second, .val (.double v138), .second]) rfl ?_
                refine own_goto (pc' := 152) d1_141 (by decide) (by decide) ?_
                exact own_refl
              · refine own_icmpYes (pc' := 144) d1_130 hb130 (by decide) (by decide) ?_
                refine own_ldc2D (v := (4613937818241073152 : UInt64)) (pc2 := 147) d1_144 rfl (List.mem_of_getElem? (i := 1) rfl) ?_
                refine own_dload (pc2 := 149) d1_147 rfl rfl ?_
                refine own_dmul (pc2 := 150) d1_149 rfl nn149 (v := v149) hv149 ?_
                refine own_dstore (pc2 := 152) d1_150 rfl (L' := #[.val (.int xp), .val (.ref ai), .val (.ref li), .val (.int (2 : Int32)), .val (.int v8), .val (.int v19), .val (.int v28), .val (.double (4472406533629990549 : UInt64)), .second, .val (.double v149), .second]) rfl ?_
                exact own_refl
theorem own_l2C_1 (xp : Int32) (ai : Addr) (li : Addr) (v8 : Int32) (v19 : Int32) (v28 : Int32) (j152_9 : UInt64) (v156 : UInt64) (hv156 : (FP.i2d v8) = v156) :
    own_Go own_K1 method_3_code 152 #[.val (.int xp), .val (.ref ai), .val (.ref li), .val (.int (2 : Int32)), .val (.int v8), .val (.int v19), .val (.int v28), .val (.double (4472406533629990549 : UInt64)), .second, .val (.double j152_9), .second] [] 157 #[.val (.int xp), .val (.ref ai), .val (.ref li), .val (.int (2 : Int32)), .val (.int v8), .val (.int v19), .val (.int v28), .val (.double (4472406533629990549 : UInt64)), .second, .val (.double j152_9), .second] [(.double v156), (.int (2 : Int32)), (.ref ai)] := by
  refine own_aloadN (pc2 := 153) d1_152 rfl rfl rfl ?_
  refine own_iloadN (pc2 := 154) d1_153 rfl rfl ?_
  refine own_iload (pc2 := 156) d1_154 rfl rfl ?_
  refine own_i2d (pc2 := 157) d1_156 rfl (v := v156) hv156 ?_
  exact own_refl
theorem own_l2C_2 (xp : Int32) (ai : Addr) (li : Addr) (v8 : Int32) (v19 : Int32) (v28 : Int32) (j152_9 : UInt64) (v164 : Int32) (hv164 : (v8 + v19) = v164) (v165 : UInt64) (hv165 : (FP.i2d v164) = v165) (v168 : UInt64) (hv168 : (FP.dadd v165 j152_9) = v168) (nn168 : NoNaN64 (FP.dadd v165 j152_9)) :
    own_Go own_K1 method_3_code 158 #[.val (.int xp), .val (.ref ai), .val (.ref li), .val (.int (2 : Int32)), .val (.int v8), .val (.int v19), .val (.int v28), .val (.double (4472406533629990549 : UInt64)), .second, .val (.double j152_9), .second] [] 169 #[.val (.int xp), .val (.ref ai), .val (.ref li), .val (.int (2 : Int32)), .val (.int v8), .val (.int v19), .val (.int v28), .val (.double (4472406533629990549 : UInt64)), .second, .val (.double j152_9), .second] [(.double v168), (.int (2 : Int32)), (.ref li)] := by
  refine own_aloadN (pc2 := 159) d1_158 rfl rfl rfl ?_
  refine own_iloadN (pc2 := 160) d1_159 rfl rfl ?_
  refine own_iload (pc2 := 162) d1_160 rfl rfl ?_
  refine own_iload (pc2 := 164) d1_162 rfl rfl ?_
  refine own_iadd (pc2 := 165) d1_164 rfl (v := v164) hv164 ?_
  refine own_i2d (pc2 := 166) d1_165 rfl (v := v165) hv165 ?_
  refine own_dload (pc2 := 168) d1_166 rfl rfl ?_
  refine own_dadd (pc2 := 169) d1_168 rfl nn168 (v := v168) hv168 ?_
  exact own_refl
theorem own_l2C_3 (xp : Int32) (ai : Addr) (li : Addr) (v8 : Int32) (v19 : Int32) (v28 : Int32) (j152_9 : UInt64) (hb172 : ifCond.holds .ge v19 = true) (hb179 : ifCond.holds .le v19 = true) (hb187 : if_icmp.holds .gt v28 (5 : Int32) = false) :
    own_Go own_K1 method_3_code 170 #[.val (.int xp), .val (.ref ai), .val (.ref li), .val (.int (2 : Int32)), .val (.int v8), .val (.int v19), .val (.int v28), .val (.double (4472406533629990549 : UInt64)), .second, .val (.double j152_9), .second] [] 195 #[.val (.int xp), .val (.ref ai), .val (.ref li), .val (.int (2 : Int32)), .val (.int v8), .val (.int v19), .val (.int v28), .val (.double (4472406533629990549 : UInt64)), .second, .val (.double j152_9), .second] [(.int (1 : Int32))] := by
  refine own_iload (pc2 := 172) d1_170 rfl rfl ?_
  refine own_ifYes (pc' := 177) d1_172 hb172 (by decide) (by decide) ?_
  refine own_iload (pc2 := 179) d1_177 rfl rfl ?_
  refine own_ifYes (pc' := 184) d1_179 hb179 (by decide) (by decide) ?_
  refine own_iload (pc2 := 186) d1_184 rfl rfl ?_
  refine own_iconst (v := 5) (pc2 := 187) d1_186 rfl rfl ?_
  refine own_icmpNo (pc2 := 190) d1_187 rfl hb187 ?_
  refine own_iconst (v := 1) (pc2 := 191) d1_190 rfl rfl ?_
  refine own_goto (pc' := 195) d1_191 (by decide) (by decide) ?_
  exact own_refl
set_option maxRecDepth 65536 in
set_option maxHeartbeats 4000000 in
theorem own_fill2C (l : Launch) (Z : State) (a0 : Array Value) (hb0 : own_Base) (hw : ∀ d ∈ tables_1, d.before a0 Z = true) (xp : Int32) (ai : Addr) (li : Addr) (a0_ a1_ a2_ b0_ b1_ b2_ : UInt64) (hd : ((((xp.toUInt32 >>> ((14 : Int32) &&& 31).toUInt32).toInt32) &&& (7 : Int32)) - (4 : Int32)).toInt = 0 ∧ (((xp.toUInt32 >>> ((17 : Int32) &&& 31).toUInt32).toInt32) &&& (7 : Int32)).toInt ≤ 5) :
    own_Met l Z a0 hb0 (⟨"com/example/placewright/placewright/model/MachineTypeHolds334PinLaw", "fill", "(I[D[DI)Z"⟩ : MethodName) method_3_code 11 (some .boolean) [] ({ frames := 0, cells := 0, slots := 0, locals := 0 } : Room) #[(.int xp), (.ref ai), (.ref li), (.int (2 : Int32))] [(ai, own_A .double [.double a0_, .double a1_, .double a2_]), (li, own_A .double [.double b0_, .double b1_, .double b2_])] (fun r cs' => ∃ ca lo, NoNaN64 (FP.dadd ca (4472406533629990549 : UInt64)) ∧ ifCond.holds .gt (cmpValue (FP.dcmp lo (FP.dadd ca (4472406533629990549 : UInt64))) .g) = false ∧ r = some (.int 1) ∧ cs' = [(ai, own_A .double [.double a0_, .double a1_, .double ca]), (li, own_A .double [.double b0_, .double b1_, .double lo])]) := by
  refine own_met_of (L0 := #[.val (.int xp), .val (.ref ai), .val (.ref li), .val (.int (2 : Int32)), .unset, .unset, .unset, .unset, .unset, .unset, .unset]) (plainFor_of_name own_pn1) (fun m => own_ef1 m xp ai li (2 : Int32)) ?_
  intro p e s m below meth c T0 hx hZ hown hby hml hnm H0
  obtain ⟨v4, hv4⟩ : ∃ z : Int32, (xp &&& (16383 : Int32)) = z := ⟨_, rfl⟩
  obtain ⟨v8, hv8⟩ : ∃ z : Int32, (v4 - (8192 : Int32)) = z := ⟨_, rfl⟩
  obtain ⟨v14, hv14⟩ : ∃ z : Int32, ((xp.toUInt32 >>> ((14 : Int32) &&& 31).toUInt32).toInt32) = z := ⟨_, rfl⟩
  obtain ⟨v17, hv17⟩ : ∃ z : Int32, (v14 &&& (7 : Int32)) = z := ⟨_, rfl⟩
  obtain ⟨v19, hv19⟩ : ∃ z : Int32, (v17 - (4 : Int32)) = z := ⟨_, rfl⟩
  obtain ⟨v25, hv25⟩ : ∃ z : Int32, ((xp.toUInt32 >>> ((17 : Int32) &&& 31).toUInt32).toInt32) = z := ⟨_, rfl⟩
  obtain ⟨v28, hv28⟩ : ∃ z : Int32, (v25 &&& (7 : Int32)) = z := ⟨_, rfl⟩
  obtain ⟨v58, hv58⟩ : ∃ z : UInt64, (FP.ddiv (4472406533629990549 : UInt64) (4611686018427387904 : UInt64)) = z := ⟨_, rfl⟩
  obtain ⟨v85, hv85⟩ : ∃ z : UInt64, (FP.dneg (4472406533629990549 : UInt64)) = z := ⟨_, rfl⟩
  obtain ⟨v89, hv89⟩ : ∃ z : UInt64, (FP.ddiv v85 (4611686018427387904 : UInt64)) = z := ⟨_, rfl⟩
  obtain ⟨v103, hv103⟩ : ∃ z : UInt64, (FP.dneg (4472406533629990549 : UInt64)) = z := ⟨_, rfl⟩
  obtain ⟨v120, hv120⟩ : ∃ z : UInt64, (FP.dmul (13835058055282163712 : UInt64) (4472406533629990549 : UInt64)) = z := ⟨_, rfl⟩
  obtain ⟨v138, hv138⟩ : ∃ z : UInt64, (FP.dmul (4611686018427387904 : UInt64) (4472406533629990549 : UInt64)) = z := ⟨_, rfl⟩
  obtain ⟨v149, hv149⟩ : ∃ z : UInt64, (FP.dmul (4613937818241073152 : UInt64) (4472406533629990549 : UInt64)) = z := ⟨_, rfl⟩
  obtain ⟨j152_9, hj152_9⟩ : ∃ z : UInt64, (bif ifCond.holds .ne v28 then (bif if_icmp.holds .ne v28 (1 : Int32) then (bif if_icmp.holds .ne v28 (2 : Int32) then (bif if_icmp.holds .ne v28 (3 : Int32) then (bif if_icmp.holds .ne v28 (4 : Int32) then (bif if_icmp.holds .ne v28 (5 : Int32) then (bif if_icmp.holds .ne v28 (6 : Int32) then v149 else v138) else v120) else v103) else v89) else (4472406533629990549 : UInt64)) else v58) else (0 : UInt64)) = z := ⟨_, rfl⟩
  obtain ⟨v156, hv156⟩ : ∃ z : UInt64, (FP.i2d v8) = z := ⟨_, rfl⟩
  obtain ⟨Tl2C_1, Hl2C_1, stl2C_1⟩ := own_dastore H0 hx hZ 0 2 rfl (by decide) (Nat.le_of_ble_eq_true rfl) (g := (mkF m 157 #[.val (.int xp), .val (.ref ai), .val (.ref li), .val (.int (2 : Int32)), .val (.int v8), .val (.int v19), .val (.int v28), .val (.double (4472406533629990549 : UInt64)), .second, .val (.double j152_9), .second] [(.double v156), (.int (2 : Int32)), (.ref ai)])) rfl rfl (hb hby d1_157)
  change own_S _ _ _ _ _ _ _ _ _ _ _ _ _ _ [(ai, own_A .double [.double a0_, .double a1_, .double v156]), (li, own_A .double [.double b0_, .double b1_, .double b2_])] _ _ at Hl2C_1
  obtain ⟨v164, hv164⟩ : ∃ z : Int32, (v8 + v19) = z := ⟨_, rfl⟩
  obtain ⟨v165, hv165⟩ : ∃ z : UInt64, (FP.i2d v164) = z := ⟨_, rfl⟩
  obtain ⟨v168, hv168⟩ : ∃ z : UInt64, (FP.dadd v165 j152_9) = z := ⟨_, rfl⟩
  obtain ⟨Tl2C_2, Hl2C_2, stl2C_2⟩ := own_dastore Hl2C_1 hx hZ 1 2 rfl (by decide) (Nat.le_of_ble_eq_true rfl) (g := (mkF m 169 #[.val (.int xp), .val (.ref ai), .val (.ref li), .val (.int (2 : Int32)), .val (.int v8), .val (.int v19), .val (.int v28), .val (.double (4472406533629990549 : UInt64)), .second, .val (.double j152_9), .second] [(.double v168), (.int (2 : Int32)), (.ref li)])) rfl rfl (hb hby d1_169)
  change own_S _ _ _ _ _ _ _ _ _ _ _ _ _ _ [(ai, own_A .double [.double a0_, .double a1_, .double v156]), (li, own_A .double [.double b0_, .double b1_, .double v168])] _ _ at Hl2C_2
  have ec : v8.toInt = (xp.toInt % 16384) - 8192 := by
    have h1 := c_mask xp 16383 14 (by decide) (by decide)
    have h2 := c_isub v4 8192
    have := rng32 v8
    rw [hv4] at h1
    rw [hv8, show (8192 : Int32).toInt = 8192 from rfl] at h2
    omega
  have bd : v19.toInt ≤ 4 ∧ -4 ≤ v19.toInt := by
    have h1 := c_mask v14 7 3 (by decide) (by decide)
    have h2 := c_isub v17 4
    have := rng32 v19
    rw [hv17] at h1
    rw [hv19, show (4 : Int32).toInt = 4 from rfl] at h2
    omega
  have es : v164.toInt = v8.toInt + v19.toInt := by
    have h2 := c_iadd v8 v19
    have := rng32 v164
    rw [hv164] at h2
    omega
  have hd' := hd
  rw [hv14, hv17, hv19, hv25, hv28] at hd'
  have hk := own_m7 v25
  rw [hv28] at hk
  obtain ⟨o, io, o1, o2, oo⟩ := own_offs v28 hk
  have ej : own_off v28 = j152_9 := by rw [← hj152_9, ← hv149, ← hv138, ← hv120, ← hv103, ← hv89, ← hv85, ← hv58]; rfl
  rw [ej] at io
  have ic : own_is v156 ((v8.toInt : Int) : Rat) := by rw [← hv156]; exact own_isI _
  have is : own_is v165 ((v8.toInt + v19.toInt : Int) : Rat) := by rw [← hv165, ← es]; exact own_isI _
  have nn58 : NoNaN64 (FP.ddiv (4472406533629990549 : UInt64) (4611686018427387904 : UInt64)) := own_is_no own_o1
  have nn89 : NoNaN64 (FP.ddiv v85 (4611686018427387904 : UInt64)) := by rw [← hv85]; exact own_is_no own_o3
  have nn120 : NoNaN64 (FP.dmul (13835058055282163712 : UInt64) (4472406533629990549 : UInt64)) := own_is_no own_o5
  have nn138 : NoNaN64 (FP.dmul (4611686018427387904 : UInt64) (4472406533629990549 : UInt64)) := own_is_no own_o6
  have nn149 : NoNaN64 (FP.dmul (4613937818241073152 : UInt64) (4472406533629990549 : UInt64)) := by obtain ⟨_, h, -⟩ := own_o7; exact own_is_no h
  have nn168 : NoNaN64 (FP.dadd v165 j152_9) := own_rd_no (own_add is io)
  have hR := own_rC ic is io (by omega) bd o1 o2 hd'.1 (by rcases oo with oo | oo; exact oo.2; omega)
  rw [hv168] at hR
  have nR : NoNaN64 (FP.dadd v156 (4472406533629990549 : UInt64)) := own_rd_no (own_add ic own_ist)
  have hb172 : ifCond.holds .ge v19 = true := by rw [own_z_ge]; exact decide_eq_true (by omega)
  have hb179 : ifCond.holds .le v19 = true := by rw [own_z_le]; exact decide_eq_true (by omega)
  have hb187 : if_icmp.holds .gt v28 (5 : Int32) = false := by rw [own_i_gt, show (5 : Int32).toInt = 5 from rfl]; exact decide_eq_false (by omega)
  refine ⟨_, _, _, _, 195, #[.val (.int xp), .val (.ref ai), .val (.ref li), .val (.int (2 : Int32)), .val (.int v8), .val (.int v19), .val (.int v28), .val (.double (4472406533629990549 : UInt64)), .second, .val (.double j152_9), .second], Hl2C_2, by decide, by decide, Or.inr ⟨.boolean, (.int (1 : Int32)), [], .ireturn, rfl, ⟨v156, v168, nR, hR, rfl, rfl⟩, d1_195, own_retZ (Or.inr rfl), fun target q => ?_⟩⟩
  refine own_go H0 hx hZ hown hby hw own_K1_ok (own_l2C_0 xp ai li v4 hv4 v8 hv8 v14 hv14 v17 hv17 v19 hv19 v25 hv25 v28 hv28 v58 hv58 nn58 v85 hv85 v89 hv89 nn89 v103 hv103 v120 hv120 nn120 v138 hv138 nn138 v149 hv149 nn149 j152_9 hj152_9) _ ?_
  refine own_go H0 hx hZ hown hby hw own_K1_ok (own_l2C_1 xp ai li v8 v19 v28 j152_9 v156 hv156) _ ?_
  refine stl2C_1 _ ?_
  refine own_go Hl2C_1 hx hZ hown hby hw own_K1_ok (own_l2C_2 xp ai li v8 v19 v28 j152_9 v164 hv164 v165 hv165 v168 hv168 nn168) _ ?_
  refine stl2C_2 _ ?_
  refine own_go Hl2C_2 hx hZ hown hby hw own_K1_ok (own_l2C_3 xp ai li v8 v19 v28 j152_9 hb172 hb179 hb187) _ ?_
  exact q
theorem own_l2D_0 (xp : Int32) (ai : Addr) (li : Addr) (v4 : Int32) (hv4 : (xp &&& (16383 : Int32)) = v4) (v8 : Int32) (hv8 : (v4 - (8192 : Int32)) = v8) (v14 : Int32) (hv14 : ((xp.toUInt32 >>> ((14 : Int32) &&& 31).toUInt32).toInt32) = v14) (v17 : Int32) (hv17 : (v14 &&& (7 : Int32)) = v17) (v19 : Int32) (hv19 : (v17 - (4 : Int32)) = v19) (v25 : Int32) (hv25 : ((xp.toUInt32 >>> ((17 : Int32) &&& 31).toUInt32).toInt32) = v25) (v28 : Int32) (hv28 : (v25 &&& (7 : Int32)) = v28) (v58 : UInt64) (hv58 : (FP.ddiv (4472406533629990549 : UInt64) (4611686018427387904 : UInt64)) = v58) (nn58 : NoNaN64 (FP.ddiv (4472406533629990549 : UInt64) (4611686018427387904 : UInt64))) (v85 : UInt64) (hv85 : (FP.dneg (4472406533629990549 : UInt64)) = v85) (v89 : UInt64) (hv89 : (FP.ddiv v85 (4611686018427387904 : UInt64)) = v89) (nn89 : NoNaN64 (FP.ddiv v85 (4611686018427387904 : UInt64))) (v103 : UInt64) (hv103 : (FP.dneg (4472406533629990549 : UInt64)) = v103) (v120 : UInt64) (hv120 : (FP.dmul (13835058055282163712 : UInt64) (4472406533629990549 : UInt64)) = v120) (nn120 : NoNaN64 (FP.dmul (13835058055282163712 : UInt64) (4472406533629990549 : UInt64))) (v138 : UInt64) (hv138 : (FP.dmul (4611686018427387904 : UInt64) (4472406533629990549 : UInt64)) = v138) (nn138 : NoNaN64 (FP.dmul (4611686018427387904 : UInt64) (4472406533629990549 : UInt64))) (v149 : UInt64) (hv149 : (FP.dmul (4613937818241073152 : UInt64) (4472406533629990549 : UInt64)) = v149) (nn149 : NoNaN64 (FP.dmul (4613937818241073152 : UInt64) (4472406533629990549 : UInt64))) (j152_9 : UInt64) (hj152_9 : (bif ifCond.holds .ne v28 then (bif if_icmp.holds .ne v28 (1 : Int32) then (bif if_icmp.holds .ne v28 (2 : Int32) then (bif if_icmp.holds .ne v28 (3 : Int32) then (bif if_icmp.holds .ne v28 (4 : Int32) then (bif if_icmp.holds .ne v28 (5 : Int32) then (bif if_icmp.holds .ne v28 (6 : Int32) then v149 else v138) else v120) else v103) else v89) else (4472406533629990549 : UInt64)) else v58) else (0 : UInt64)) = j152_9) :
    own_Go own_K1 method_3_code 0 #[.val (.int xp), .val (.ref ai), .val (.ref li), .val (.int (2 : Int32)), .unset, .unset, .unset, .unset, .unset, .unset, .unset] [] 152 #[.val (.int xp), .val (.ref ai), .val (.ref li), .val (.int (2 : Int32)), .val (.int v8), .val (.int v19), .val (.int v28), .val (.double (4472406533629990549 : UInt64)), .second, .val (.double j152_9), .second] [] := by
  subst hj152_9
  refine own_iloadN (pc2 := 1) d1_0 rfl rfl ?_
  refine own_sipush (v := 16383) (pc2 := 4) d1_1 rfl rfl ?_
  refine own_iand (pc2 := 5) d1_4 rfl (v := v4) hv4 ?_
  refine own_sipush (v := 8192) (pc2 := 8) d1_5 rfl rfl ?_
  refine own_isub (pc2 := 9) d1_8 rfl (v := v8) hv8 ?_
  refine own_istore (pc2 := 11) d1_9 rfl (L' := #[.val (.int xp), .val (.ref ai), .val (.ref li), .val (.int (2 : Int32)), .val (.int v8), .unset, .unset, .unset, .unset, .unset, .unset]) rfl ?_
  refine own_iloadN (pc2 := 12) d1_11 rfl rfl ?_
  refine own_bipush (v := 14) (pc2 := 14) d1_12 rfl rfl ?_
  refine own_iushr (pc2 := 15) d1_14 rfl (v := v14) hv14 ?_
  refine own_bipush (v := 7) (pc2 := 17) d1_15 rfl rfl ?_
  refine own_iand (pc2 := 18) d1_17 rfl (v := v17) hv17 ?_
  refine own_iconst (v := 4) (pc2 := 19) d1_18 rfl rfl ?_
  refine own_isub (pc2 := 20) d1_19 rfl (v := v19) hv19 ?_
  refine own_istore (pc2 := 22) d1_20 rfl (L' := #[.val (.int xp), .val (.ref ai), .val (.ref li), .val (.int (2 : Int32)), .val (.int v8), .val (.int v19), .unset, .unset, .unset, .unset, .unset]) rfl ?_
  refine own_iloadN (pc2 := 23) d1_22 rfl rfl ?_
  refine own_bipush (v := 17) (pc2 := 25) d1_23 rfl rfl ?_
  refine own_iushr (pc2 := 26) d1_25 rfl (v := v25) hv25 ?_
  refine own_bipush (v := 7) (pc2 := 28) d1_26 rfl rfl ?_
  refine own_iand (pc2 := 29) d1_28 rfl (v := v28) hv28 ?_
  refine own_istore (pc2 := 31) d1_29 rfl (L' := #[.val (.int xp), .val (.ref ai), .val (.ref li), .val (.int (2 : Int32)), .val (.int v8), .val (.int v19), .val (.int v28), .unset, .unset, .unset, .unset]) rfl ?_
  refine own_ldc2D (v := (4472406533629990549 : UInt64)) (pc2 := 34) d1_31 rfl (List.mem_of_getElem? (i := 0) rfl) ?_
  refine own_dstore (pc2 := 36) d1_34 rfl (L' := #[.val (.int xp), .val (.ref ai), .val (.ref li), .val (.int (2 : Int32)), .val (.int v8), .val (.int v19), .val (.int v28), .val (.double (4472406533629990549 : UInt64)), .second, .unset, .unset]) rfl ?_
  refine own_iload (pc2 := 38) d1_36 rfl rfl ?_
  cases hb38 : ifCond.holds .ne v28
  · refine own_ifNo (pc2 := 41) d1_38 rfl hb38 ?_
    refine own_dconst0 (v := 0) (pc2 := 42) d1_41 rfl rfl ?_
    refine own_dstore (pc2 := 44) d1_42 rfl (L' := #[.val (.int xp), .val (.ref ai), .val (.ref li), .val (.int (2 : Int32)), .val (.int v8), .val (.int v19), .val (.int v28), .val (.double (4472406533629990549 : UInt64)), .second, .val (.double (0 : UInt64)), .second]) rfl ?_
    refine own_goto (pc' := 152) d1_44 (by decide) (by decide) ?_
    exact own_refl
  · refine own_ifYes (pc' := 47) d1_38 hb38 (by decide) (by decide) ?_
    refine own_iload (pc2 := 49) d1_47 rfl rfl ?_
    refine own_iconst (v := 1) (pc2 := 50) d1_49 rfl rfl ?_
    cases hb50 : if_icmp.holds .ne v28 (1 : Int32)
    · refine own_icmpNo (pc2 := 53) d1_50 rfl hb50 ?_
      refine own_dload (pc2 := 55) d1_53 rfl rfl ?_
      refine own_ldc2D (v := (4611686018427387904 : UInt64)) (pc2 := 58) d1_55 rfl (List.mem_of_getElem? (i := 2) rfl) ?_
      refine own_ddiv (pc2 := 59) d1_58 rfl nn58 (v := v58) hv58 ?_
      refine own_dstore (pc2 := 61) d1_59 rfl (L' := #[.val (.int xp), .val (.ref ai), .val (.ref li), .val (.int (2 : Int32)), .val (.int v8), .val (.int v19), .val (.int v28), .val (.double (4472406533629990549 : UInt64)), .second, .val (.double v58), .second]) rfl ?_
      refine own_goto (pc' := 152) d1_61 (by decide) (by decide) ?_
      exact own_refl
    · refine own_icmpYes (pc' := 64) d1_50 hb50 (by decide) (by decide) ?_
      refine own_iload (pc2 := 66) d1_64 rfl rfl ?_
      refine own_iconst (v := 2) (pc2 := 67) d1_66 rfl rfl ?_
      cases hb67 : if_icmp.holds .ne v28 (2 : Int32)
      · refine own_icmpNo (pc2 := 70) d1_67 rfl hb67 ?_
        refine own_dload (pc2 := 72) d1_70 rfl rfl ?_
        refine own_dstore (pc2 := 74) d1_72 rfl (L' := #[.val (.int xp), .val (.ref ai), .val (.ref li), .val (.int (2 : Int32)), .val (.int v8), .val (.int v19), .val (.int v28), .val (.double (4472406533629990549 : UInt64)), .second, .val (.double (4472406533629990549 : UInt64)), .second]) rfl ?_
        refine own_goto (pc' := 152) d1_74 (by decide) (by decide) ?_
        exact own_refl
      · refine own_icmpYes (pc' := 77) d1_67 hb67 (by decide) (by decide) ?_
        refine own_iload (pc2 := 79) d1_77 rfl rfl ?_
        refine own_iconst (v := 3) (pc2 := 80) d1_79 rfl rfl ?_
        cases hb80 : if_icmp.holds .ne v28 (3 : Int32)
        · refine own_icmpNo (pc2 := 83) d1_80 rfl hb80 ?_
          refine own_dload (pc2 := 85) d1_83 rfl rfl ?_
          refine own_dneg (pc2 := 86) d1_85 rfl (v := v85) hv85 ?_
          refine own_ldc2D (v := (4611686018427387904 : UInt64)) (pc2 := 89) d1_86 rfl (List.mem_of_getElem? (i := 2) rfl) ?_
          refine own_ddiv (pc2 := 90) d1_89 rfl nn89 (v := v89) hv89 ?_
          refine own_dstore (pc2 := 92) d1_90 rfl (L' := #[.val (.int xp), .val (.ref ai), .val (.ref li), .val (.int (2 : Int32)), .val (.int v8), .val (.int v19), .val (.int v28), .val (.double (4472406533629990549 : UInt64)), .second, .val (.double v89), .second]) rfl ?_
          refine own_goto (pc' := 152) d1_92 (by decide) (by decide) ?_
          exact own_refl
        · refine own_icmpYes (pc' := 95) d1_80 hb80 (by decide) (by decide) ?_
          refine own_iload (pc2 := 97) d1_95 rfl rfl ?_
          refine own_iconst (v := 4) (pc2 := 98) d1_97 rfl rfl ?_
          cases hb98 : if_icmp.holds .ne v28 (4 : Int32)
          · refine own_icmpNo (pc2 := 101) d1_98 rfl hb98 ?_
            refine own_dload (pc2 := 103) d1_101 rfl rfl ?_
            refine own_dneg (pc2 := 104) d1_103 rfl (v := v103) hv103 ?_
            refine own_dstore (pc2 := 106) d1_104 rfl (L' := #[.val (.int xp), .val (.ref ai), .val (.ref li), .val (.int (2 : Int32)), .val (.int v8), .val (.int v19), .val (.int v28), .val (.double (4472406533629990549 : UInt64)), .second, .val (.double v103), .second]) rfl ?_
            refine own_goto (pc' := 152) d1_106 (by decide) (by decide) ?_
            exact own_refl
          · refine own_icmpYes (pc' := 109) d1_98 hb98 (by decide) (by decide) ?_
            refine own_iload (pc2 := 111) d1_109 rfl rfl ?_
            refine own_iconst (v := 5) (pc2 := 112) d1_111 rfl rfl ?_
            cases hb112 : if_icmp.holds .ne v28 (5 : Int32)
            · refine own_icmpNo (pc2 := 115) d1_112 rfl hb112 ?_
              refine own_ldc2D (v := (13835058055282163712 : UInt64)) (pc2 := 118) d1_115 rfl (List.mem_of_getElem? (i := 3) rfl) ?_
              refine own_dload (pc2 := 120) d1_118 rfl rfl ?_
              refine own_dmul (pc2 := 121) d1_120 rfl nn120 (v := v120) hv120 ?_
              refine own_dstore (pc2 := 123) d1_121 rfl (L' := #[.val (.int xp), .val (.ref ai), .val (.ref li), .val (.int (2 : Int32)), .val (.int v8), .val (.int v19), .val (.int v28), .val (.double (4472406533629990549 : UInt64)), .second, .val (.double v120), .second]) rfl ?_
              refine own_goto (pc' := 152) d1_123 (by decide) (by decide) ?_
              exact own_refl
            · refine own_icmpYes (pc' := 126) d1_112 hb112 (by decide) (by decide) ?_
              refine own_iload (pc2 := 128) d1_126 rfl rfl ?_
              refine own_bipush (v := 6) (pc2 := 130) d1_128 rfl rfl ?_
              cases hb130 : if_icmp.holds .ne v28 (6 : Int32)
              · refine own_icmpNo (pc2 := 133) d1_130 rfl hb130 ?_
                refine own_ldc2D (v := (4611686018427387904 : UInt64)) (pc2 := 136) d1_133 rfl (List.mem_of_getElem? (i := 2) rfl) ?_
                refine own_dload (pc2 := 138) d1_136 rfl rfl ?_
                refine own_dmul (pc2 := 139) d1_138 rfl nn138 (v := v138) hv138 ?_
                refine own_dstore (pc2 := 141) d1_139 rfl (L' := #[.val (.int xp), .val (.ref ai), .val (.ref li), .val (.int (2 : Int32)), .val (.int v8), .val (.int v19), .val (.int v28), .val (.double (4472406533629990549 : UInt64)), .second, .val (.double v138), .second]) rfl ?_
                refine own_goto (pc' := 152) d1_141 (by decide) (by decide) ?_
                exact own_refl
              · refine own_icmpYes (pc' := 144) d1_130 hb130 (by decide) (by decide) ?_
                refine own_ldc2D (v := (4613937818241073152 : UInt64)) (pc2 := 147) d1_144 rfl (List.mem_of_getElem? (i := 1) rfl) ?_
                refine own_dload (pc2 := 149) d1_147 rfl rfl ?_
                refine own_dmul (pc2 := 150) d1_149 rfl nn149 (v := v149) hv149 ?_
                refine own_dstore (pc2 := 152) d1_150 rfl (L' := #[.val (.int xp), .val (.ref ai), .val (.ref li), .val (.int (2 : Int32)), .val (.int v8), .val (.int v19), .val (.int v28), .val (.double (4472406533629990549 : UInt64)), .second, .val (.double v149), .second]) rfl ?_
                exact own_refl
theorem own_l2D_1 (xp : Int32) (ai : Addr) (li : Addr) (v8 : Int32) (v19 : Int32) (v28 : Int32) (j152_9 : UInt64) (v156 : UInt64) (hv156 : (FP.i2d v8) = v156) :
    own_Go own_K1 method_3_code 152 #[.val (.int xp), .val (.ref ai), .val (.ref li), .val (.int (2 : Int32)), .val (.int v8), .val (.int v19), .val (.int v28), .val (.double (4472406533629990549 : UInt64)), .second, .val (.double j152_9), .second] [] 157 #[.val (.int xp), .val (.ref ai), .val (.ref li), .val (.int (2 : Int32)), .val (.int v8), .val (.int v19), .val (.int v28), .val (.double (4472406533629990549 : UInt64)), .second, .val (.double j152_9), .second] [(.double v156), (.int (2 : Int32)), (.ref ai)] := by
  refine own_aloadN (pc2 := 153) d1_152 rfl rfl rfl ?_
  refine own_iloadN (pc2 := 154) d1_153 rfl rfl ?_
  refine own_iload (pc2 := 156) d1_154 rfl rfl ?_
  refine own_i2d (pc2 := 157) d1_156 rfl (v := v156) hv156 ?_
  exact own_refl
theorem own_l2D_2 (xp : Int32) (ai : Addr) (li : Addr) (v8 : Int32) (v19 : Int32) (v28 : Int32) (j152_9 : UInt64) (v164 : Int32) (hv164 : (v8 + v19) = v164) (v165 : UInt64) (hv165 : (FP.i2d v164) = v165) (v168 : UInt64) (hv168 : (FP.dadd v165 j152_9) = v168) (nn168 : NoNaN64 (FP.dadd v165 j152_9)) :
    own_Go own_K1 method_3_code 158 #[.val (.int xp), .val (.ref ai), .val (.ref li), .val (.int (2 : Int32)), .val (.int v8), .val (.int v19), .val (.int v28), .val (.double (4472406533629990549 : UInt64)), .second, .val (.double j152_9), .second] [] 169 #[.val (.int xp), .val (.ref ai), .val (.ref li), .val (.int (2 : Int32)), .val (.int v8), .val (.int v19), .val (.int v28), .val (.double (4472406533629990549 : UInt64)), .second, .val (.double j152_9), .second] [(.double v168), (.int (2 : Int32)), (.ref li)] := by
  refine own_aloadN (pc2 := 159) d1_158 rfl rfl rfl ?_
  refine own_iloadN (pc2 := 160) d1_159 rfl rfl ?_
  refine own_iload (pc2 := 162) d1_160 rfl rfl ?_
  refine own_iload (pc2 := 164) d1_162 rfl rfl ?_
  refine own_iadd (pc2 := 165) d1_164 rfl (v := v164) hv164 ?_
  refine own_i2d (pc2 := 166) d1_165 rfl (v := v165) hv165 ?_
  refine own_dload (pc2 := 168) d1_166 rfl rfl ?_
  refine own_dadd (pc2 := 169) d1_168 rfl nn168 (v := v168) hv168 ?_
  exact own_refl
theorem own_l2D_3 (xp : Int32) (ai : Addr) (li : Addr) (v8 : Int32) (v19 : Int32) (v28 : Int32) (j152_9 : UInt64) (hb172 : ifCond.holds .ge v19 = true) (hb179 : ifCond.holds .le v19 = true) (hb187 : if_icmp.holds .gt v28 (5 : Int32) = true) :
    own_Go own_K1 method_3_code 170 #[.val (.int xp), .val (.ref ai), .val (.ref li), .val (.int (2 : Int32)), .val (.int v8), .val (.int v19), .val (.int v28), .val (.double (4472406533629990549 : UInt64)), .second, .val (.double j152_9), .second] [] 195 #[.val (.int xp), .val (.ref ai), .val (.ref li), .val (.int (2 : Int32)), .val (.int v8), .val (.int v19), .val (.int v28), .val (.double (4472406533629990549 : UInt64)), .second, .val (.double j152_9), .second] [(.int (0 : Int32))] := by
  refine own_iload (pc2 := 172) d1_170 rfl rfl ?_
  refine own_ifYes (pc' := 177) d1_172 hb172 (by decide) (by decide) ?_
  refine own_iload (pc2 := 179) d1_177 rfl rfl ?_
  refine own_ifYes (pc' := 184) d1_179 hb179 (by decide) (by decide) ?_
  refine own_iload (pc2 := 186) d1_184 rfl rfl ?_
  refine own_iconst (v := 5) (pc2 := 187) d1_186 rfl rfl ?_
  refine own_icmpYes (pc' := 194) d1_187 hb187 (by decide) (by decide) ?_
  refine own_iconst (v := 0) (pc2 := 195) d1_194 rfl rfl ?_
  exact own_refl
set_option maxRecDepth 65536 in
set_option maxHeartbeats 4000000 in
theorem own_fill2D (l : Launch) (Z : State) (a0 : Array Value) (hb0 : own_Base) (hw : ∀ d ∈ tables_1, d.before a0 Z = true) (xp : Int32) (ai : Addr) (li : Addr) (a0_ a1_ a2_ b0_ b1_ b2_ : UInt64) (hd : ((((xp.toUInt32 >>> ((14 : Int32) &&& 31).toUInt32).toInt32) &&& (7 : Int32)) - (4 : Int32)).toInt = 0 ∧ ¬ (((xp.toUInt32 >>> ((17 : Int32) &&& 31).toUInt32).toInt32) &&& (7 : Int32)).toInt ≤ 5) :
    own_Met l Z a0 hb0 (⟨"com/example/placewright/placewright/model/MachineTypeHolds334PinLaw", "fill", "(I[D[DI)Z"⟩ : MethodName) method_3_code 11 (some .boolean) [] ({ frames := 0, cells := 0, slots := 0, locals := 0 } : Room) #[(.int xp), (.ref ai), (.ref li), (.int (2 : Int32))] [(ai, own_A .double [.double a0_, .double a1_, .double a2_]), (li, own_A .double [.double b0_, .double b1_, .double b2_])] (fun r cs' => ∃ ca lo, NoNaN64 (FP.dadd ca (4472406533629990549 : UInt64)) ∧ ifCond.holds .gt (cmpValue (FP.dcmp lo (FP.dadd ca (4472406533629990549 : UInt64))) .g) = true ∧ r = some (.int 0) ∧ cs' = [(ai, own_A .double [.double a0_, .double a1_, .double ca]), (li, own_A .double [.double b0_, .double b1_, .double lo])]) := by
  refine own_met_of (L0 := #[.val (.int xp), .val (.ref ai), .val (.ref li), .val (.int (2 : Int32)), .unset, .unset, .unset, .unset, .unset, .unset, .unset]) (plainFor_of_name own_pn1) (fun m => own_ef1 m xp ai li (2 : Int32)) ?_
  intro p e s m below meth c T0 hx hZ hown hby hml hnm H0
  obtain ⟨v4, hv4⟩ : ∃ z : Int32, (xp &&& (16383 : Int32)) = z := ⟨_, rfl⟩
  obtain ⟨v8, hv8⟩ : ∃ z : Int32, (v4 - (8192 : Int32)) = z := ⟨_, rfl⟩
  obtain ⟨v14, hv14⟩ : ∃ z : Int32, ((xp.toUInt32 >>> ((14 : Int32) &&& 31).toUInt32).toInt32) = z := ⟨_, rfl⟩
  obtain ⟨v17, hv17⟩ : ∃ z : Int32, (v14 &&& (7 : Int32)) = z := ⟨_, rfl⟩
  obtain ⟨v19, hv19⟩ : ∃ z : Int32, (v17 - (4 : Int32)) = z := ⟨_, rfl⟩
  obtain ⟨v25, hv25⟩ : ∃ z : Int32, ((xp.toUInt32 >>> ((17 : Int32) &&& 31).toUInt32).toInt32) = z := ⟨_, rfl⟩
  obtain ⟨v28, hv28⟩ : ∃ z : Int32, (v25 &&& (7 : Int32)) = z := ⟨_, rfl⟩
  obtain ⟨v58, hv58⟩ : ∃ z : UInt64, (FP.ddiv (4472406533629990549 : UInt64) (4611686018427387904 : UInt64)) = z := ⟨_, rfl⟩
  obtain ⟨v85, hv85⟩ : ∃ z : UInt64, (FP.dneg (4472406533629990549 : UInt64)) = z := ⟨_, rfl⟩
  obtain ⟨v89, hv89⟩ : ∃ z : UInt64, (FP.ddiv v85 (4611686018427387904 : UInt64)) = z := ⟨_, rfl⟩
  obtain ⟨v103, hv103⟩ : ∃ z : UInt64, (FP.dneg (4472406533629990549 : UInt64)) = z := ⟨_, rfl⟩
  obtain ⟨v120, hv120⟩ : ∃ z : UInt64, (FP.dmul (13835058055282163712 : UInt64) (4472406533629990549 : UInt64)) = z := ⟨_, rfl⟩
  obtain ⟨v138, hv138⟩ : ∃ z : UInt64, (FP.dmul (4611686018427387904 : UInt64) (4472406533629990549 : UInt64)) = z := ⟨_, rfl⟩
  obtain ⟨v149, hv149⟩ : ∃ z : UInt64, (FP.dmul (4613937818241073152 : UInt64) (4472406533629990549 : UInt64)) = z := ⟨_, rfl⟩
  obtain ⟨j152_9, hj152_9⟩ : ∃ z : UInt64, (bif ifCond.holds .ne v28 then (bif if_icmp.holds .ne v28 (1 : Int32) then (bif if_icmp.holds .ne v28 (2 : Int32) then (bif if_icmp.holds .ne v28 (3 : Int32) then (bif if_icmp.holds .ne v28 (4 : Int32) then (bif if_icmp.holds .ne v28 (5 : Int32) then (bif if_icmp.holds .ne v28 (6 : Int32) then v149 else v138) else v120) else v103) else v89) else (4472406533629990549 : UInt64)) else v58) else (0 : UInt64)) = z := ⟨_, rfl⟩
  obtain ⟨v156, hv156⟩ : ∃ z : UInt64, (FP.i2d v8) = z := ⟨_, rfl⟩
  obtain ⟨Tl2D_1, Hl2D_1, stl2D_1⟩ := own_dastore H0 hx hZ 0 2 rfl (by decide) (Nat.le_of_ble_eq_true rfl) (g := (mkF m 157 #[.val (.int xp), .val (.ref ai), .val (.ref li), .val (.int (2 : Int32)), .val (.int v8), .val (.int v19), .val (.int v28), .val (.double (4472406533629990549 : UInt64)), .second, .val (.double j152_9), .second] [(.double v156), (.int (2 : Int32)), (.ref ai)])) rfl rfl (hb hby d1_157)
  change own_S _ _ _ _ _ _ _ _ _ _ _ _ _ _ [(ai, own_A .double [.double a0_, .double a1_, .double v156]), (li, own_A .double [.double b0_, .double b1_, .double b2_])] _ _ at Hl2D_1
  obtain ⟨v164, hv164⟩ : ∃ z : Int32, (v8 + v19) = z := ⟨_, rfl⟩
  obtain ⟨v165, hv165⟩ : ∃ z : UInt64, (FP.i2d v164) = z := ⟨_, rfl⟩
  obtain ⟨v168, hv168⟩ : ∃ z : UInt64, (FP.dadd v165 j152_9) = z := ⟨_, rfl⟩
  obtain ⟨Tl2D_2, Hl2D_2, stl2D_2⟩ := own_dastore Hl2D_1 hx hZ 1 2 rfl (by decide) (Nat.le_of_ble_eq_true rfl) (g := (mkF m 169 #[.val (.int xp), .val (.ref ai), .val (.ref li), .val (.int (2 : Int32)), .val (.int v8), .val (.int v19), .val (.int v28), .val (.double (4472406533629990549 : UInt64)), .second, .val (.double j152_9), .second] [(.double v168), (.int (2 : Int32)), (.ref li)])) rfl rfl (hb hby d1_169)
  change own_S _ _ _ _ _ _ _ _ _ _ _ _ _ _ [(ai, own_A .double [.double a0_, .double a1_, .double v156]), (li, own_A .double [.double b0_, .double b1_, .double v168])] _ _ at Hl2D_2
  have ec : v8.toInt = (xp.toInt % 16384) - 8192 := by
    have h1 := c_mask xp 16383 14 (by decide) (by decide)
    have h2 := c_isub v4 8192
    have := rng32 v8
    rw [hv4] at h1
    rw [hv8, show (8192 : Int32).toInt = 8192 from rfl] at h2
    omega
  have bd : v19.toInt ≤ 4 ∧ -4 ≤ v19.toInt := by
    have h1 := c_mask v14 7 3 (by decide) (by decide)
    have h2 := c_isub v17 4
    have := rng32 v19
    rw [hv17] at h1
    rw [hv19, show (4 : Int32).toInt = 4 from rfl] at h2
    omega
  have es : v164.toInt = v8.toInt + v19.toInt := by
    have h2 := c_iadd v8 v19
    have := rng32 v164
    rw [hv164] at h2
    omega
  have hd' := hd
  rw [hv14, hv17, hv19, hv25, hv28] at hd'
  have hk := own_m7 v25
  rw [hv28] at hk
  obtain ⟨o, io, o1, o2, oo⟩ := own_offs v28 hk
  have ej : own_off v28 = j152_9 := by rw [← hj152_9, ← hv149, ← hv138, ← hv120, ← hv103, ← hv89, ← hv85, ← hv58]; rfl
  rw [ej] at io
  have ic : own_is v156 ((v8.toInt : Int) : Rat) := by rw [← hv156]; exact own_isI _
  have is : own_is v165 ((v8.toInt + v19.toInt : Int) : Rat) := by rw [← hv165, ← es]; exact own_isI _
  have nn58 : NoNaN64 (FP.ddiv (4472406533629990549 : UInt64) (4611686018427387904 : UInt64)) := own_is_no own_o1
  have nn89 : NoNaN64 (FP.ddiv v85 (4611686018427387904 : UInt64)) := by rw [← hv85]; exact own_is_no own_o3
  have nn120 : NoNaN64 (FP.dmul (13835058055282163712 : UInt64) (4472406533629990549 : UInt64)) := own_is_no own_o5
  have nn138 : NoNaN64 (FP.dmul (4611686018427387904 : UInt64) (4472406533629990549 : UInt64)) := own_is_no own_o6
  have nn149 : NoNaN64 (FP.dmul (4613937818241073152 : UInt64) (4472406533629990549 : UInt64)) := by obtain ⟨_, h, -⟩ := own_o7; exact own_is_no h
  have nn168 : NoNaN64 (FP.dadd v165 j152_9) := own_rd_no (own_add is io)
  have hR := own_rD ic is io (by omega) bd o1 o2 hd'.1 (by rcases oo with oo | oo; omega; exact oo.2)
  rw [hv168] at hR
  have nR : NoNaN64 (FP.dadd v156 (4472406533629990549 : UInt64)) := own_rd_no (own_add ic own_ist)
  have hb172 : ifCond.holds .ge v19 = true := by rw [own_z_ge]; exact decide_eq_true (by omega)
  have hb179 : ifCond.holds .le v19 = true := by rw [own_z_le]; exact decide_eq_true (by omega)
  have hb187 : if_icmp.holds .gt v28 (5 : Int32) = true := by rw [own_i_gt, show (5 : Int32).toInt = 5 from rfl]; exact decide_eq_true (by omega)
  refine ⟨_, _, _, _, 195, #[.val (.int xp), .val (.ref ai), .val (.ref li), .val (.int (2 : Int32)), .val (.int v8), .val (.int v19), .val (.int v28), .val (.double (4472406533629990549 : UInt64)), .second, .val (.double j152_9), .second], Hl2D_2, by decide, by decide, Or.inr ⟨.boolean, (.int (0 : Int32)), [], .ireturn, rfl, ⟨v156, v168, nR, hR, rfl, rfl⟩, d1_195, own_retZ (Or.inl rfl), fun target q => ?_⟩⟩
  refine own_go H0 hx hZ hown hby hw own_K1_ok (own_l2D_0 xp ai li v4 hv4 v8 hv8 v14 hv14 v17 hv17 v19 hv19 v25 hv25 v28 hv28 v58 hv58 nn58 v85 hv85 v89 hv89 nn89 v103 hv103 v120 hv120 nn120 v138 hv138 nn138 v149 hv149 nn149 j152_9 hj152_9) _ ?_
  refine own_go H0 hx hZ hown hby hw own_K1_ok (own_l2D_1 xp ai li v8 v19 v28 j152_9 v156 hv156) _ ?_
  refine stl2D_1 _ ?_
  refine own_go Hl2D_1 hx hZ hown hby hw own_K1_ok (own_l2D_2 xp ai li v8 v19 v28 j152_9 v164 hv164 v165 hv165 v168 hv168 nn168) _ ?_
  refine stl2D_2 _ ?_
  refine own_go Hl2D_2 hx hZ hown hby hw own_K1_ok (own_l2D_3 xp ai li v8 v19 v28 j152_9 hb172 hb179 hb187) _ ?_
  exact q
theorem own_fill2T (l : Launch) (Z : State) (a0 : Array Value) (hb0 : own_Base) (hw : ∀ d ∈ tables_1, d.before a0 Z = true) (xp : Int32) (ai li : Addr) (a0_ a1_ a2_ b0_ b1_ b2_ : UInt64) (hT : own_T xp) :
    own_Met l Z a0 hb0 (⟨"com/example/placewright/placewright/model/MachineTypeHolds334PinLaw", "fill", "(I[D[DI)Z"⟩ : MethodName) method_3_code 11 (some .boolean) [] ({ frames := 0, cells := 0, slots := 0, locals := 0 } : Room) #[(.int xp), (.ref ai), (.ref li), (.int (2 : Int32))] [(ai, own_A .double [.double a0_, .double a1_, .double a2_]), (li, own_A .double [.double b0_, .double b1_, .double b2_])] (fun r cs' => ∃ ca lo, NoNaN64 (FP.dadd ca (4472406533629990549 : UInt64)) ∧ ifCond.holds .gt (cmpValue (FP.dcmp lo (FP.dadd ca (4472406533629990549 : UInt64))) .g) = false ∧ r = some (.int 1) ∧ cs' = [(ai, own_A .double [.double a0_, .double a1_, .double ca]), (li, own_A .double [.double b0_, .double b1_, .double lo])]) := by
  rcases hT with h | h
  · exact own_fill2A l Z a0 hb0 hw xp ai li _ _ _ _ _ _ h
  · exact own_fill2C l Z a0 hb0 hw xp ai li _ _ _ _ _ _ h
theorem own_fill2F (l : Launch) (Z : State) (a0 : Array Value) (hb0 : own_Base) (hw : ∀ d ∈ tables_1, d.before a0 Z = true) (xp : Int32) (ai li : Addr) (a0_ a1_ a2_ b0_ b1_ b2_ : UInt64) (hT : ¬ own_T xp) :
    own_Met l Z a0 hb0 (⟨"com/example/placewright/placewright/model/MachineTypeHolds334PinLaw", "fill", "(I[D[DI)Z"⟩ : MethodName) method_3_code 11 (some .boolean) [] ({ frames := 0, cells := 0, slots := 0, locals := 0 } : Room) #[(.int xp), (.ref ai), (.ref li), (.int (2 : Int32))] [(ai, own_A .double [.double a0_, .double a1_, .double a2_]), (li, own_A .double [.double b0_, .double b1_, .double b2_])] (fun r cs' => ∃ ca lo, NoNaN64 (FP.dadd ca (4472406533629990549 : UInt64)) ∧ ifCond.holds .gt (cmpValue (FP.dcmp lo (FP.dadd ca (4472406533629990549 : UInt64))) .g) = true ∧ r = some (.int 0) ∧ cs' = [(ai, own_A .double [.double a0_, .double a1_, .double ca]), (li, own_A .double [.double b0_, .double b1_, .double lo])]) := by
  rcases Int.lt_trichotomy ((((xp.toUInt32 >>> ((14 : Int32) &&& 31).toUInt32).toInt32) &&& (7 : Int32)) - (4 : Int32)).toInt 0 with h | h | h
  · exact absurd (Or.inl h) hT
  · exact own_fill2D l Z a0 hb0 hw xp ai li _ _ _ _ _ _ ⟨h, fun k => hT (Or.inr ⟨h, k⟩)⟩
  · exact own_fill2B l Z a0 hb0 hw xp ai li _ _ _ _ _ _ h
theorem own_s0_0 (xa : Int32) (xb : Int32) (xc : Int32) :
    own_Go own_K0 code 0 #[.val (.int xa), .val (.int xb), .val (.int xc), .unset, .unset, .unset, .unset, .unset, .unset] [] 1 #[.val (.int xa), .val (.int xb), .val (.int xc), .unset, .unset, .unset, .unset, .unset, .unset] [(.int (3 : Int32))] := by
  refine own_iconst (v := 3) (pc2 := 1) at_0 rfl rfl ?_
  exact own_refl
theorem own_s0_1 (xa : Int32) (xb : Int32) (xc : Int32) (ai : Addr) :
    own_Go own_K0 code 3 #[.val (.int xa), .val (.int xb), .val (.int xc), .unset, .unset, .unset, .unset, .unset, .unset] [(.ref ai)] 4 #[.val (.int xa), .val (.int xb), .val (.int xc), .val (.ref ai), .unset, .unset, .unset, .unset, .unset] [] := by
  refine own_astoreN (pc2 := 4) at_3 rfl rfl (L' := #[.val (.int xa), .val (.int xb), .val (.int xc), .val (.ref ai), .unset, .unset, .unset, .unset, .unset]) rfl ?_
  exact own_refl
theorem own_s0_2 (xa : Int32) (xb : Int32) (xc : Int32) (ai : Addr) :
    own_Go own_K0 code 4 #[.val (.int xa), .val (.int xb), .val (.int xc), .val (.ref ai), .unset, .unset, .unset, .unset, .unset] [] 5 #[.val (.int xa), .val (.int xb), .val (.int xc), .val (.ref ai), .unset, .unset, .unset, .unset, .unset] [(.int (3 : Int32))] := by
  refine own_iconst (v := 3) (pc2 := 5) at_4 rfl rfl ?_
  exact own_refl
theorem own_s0_3 (xa : Int32) (xb : Int32) (xc : Int32) (ai : Addr) (li : Addr) :
    own_Go own_K0 code 7 #[.val (.int xa), .val (.int xb), .val (.int xc), .val (.ref ai), .unset, .unset, .unset, .unset, .unset] [(.ref li)] 14 #[.val (.int xa), .val (.int xb), .val (.int xc), .val (.ref ai), .val (.ref li), .unset, .unset, .unset, .unset] [(.int (0 : Int32)), (.ref li), (.ref ai), (.int xa)] := by
  refine own_astore (pc2 := 9) at_7 rfl rfl (L' := #[.val (.int xa), .val (.int xb), .val (.int xc), .val (.ref ai), .val (.ref li), .unset, .unset, .unset, .unset]) rfl ?_
  refine own_iloadN (pc2 := 10) at_9 rfl rfl ?_
  refine own_aloadN (pc2 := 11) at_10 rfl rfl rfl ?_
  refine own_aload (pc2 := 13) at_11 rfl rfl rfl ?_
  refine own_iconst (v := 0) (pc2 := 14) at_13 rfl rfl ?_
  exact own_refl
theorem own_s0_4 (xa : Int32) (xb : Int32) (xc : Int32) (ai : Addr) (li : Addr) :
    own_Go own_K0 code 17 #[.val (.int xa), .val (.int xb), .val (.int xc), .val (.ref ai), .val (.ref li), .unset, .unset, .unset, .unset] [(.int (0 : Int32))] 24 #[.val (.int xa), .val (.int xb), .val (.int xc), .val (.ref ai), .val (.ref li), .val (.int (0 : Int32)), .unset, .unset, .unset] [(.int (1 : Int32)), (.ref li), (.ref ai), (.int xb)] := by
  refine own_istore (pc2 := 19) at_17 rfl (L' := #[.val (.int xa), .val (.int xb), .val (.int xc), .val (.ref ai), .val (.ref li), .val (.int (0 : Int32)), .unset, .unset, .unset]) rfl ?_
  refine own_iloadN (pc2 := 20) at_19 rfl rfl ?_
  refine own_aloadN (pc2 := 21) at_20 rfl rfl rfl ?_
  refine own_aload (pc2 := 23) at_21 rfl rfl rfl ?_
  refine own_iconst (v := 1) (pc2 := 24) at_23 rfl rfl ?_
  exact own_refl
theorem own_s0_5 (xa : Int32) (xb : Int32) (xc : Int32) (ai : Addr) (li : Addr) :
    own_Go own_K0 code 27 #[.val (.int xa), .val (.int xb), .val (.int xc), .val (.ref ai), .val (.ref li), .val (.int (0 : Int32)), .unset, .unset, .unset] [(.int (0 : Int32))] 34 #[.val (.int xa), .val (.int xb), .val (.int xc), .val (.ref ai), .val (.ref li), .val (.int (0 : Int32)), .val (.int (0 : Int32)), .unset, .unset] [(.int (2 : Int32)), (.ref li), (.ref ai), (.int xc)] := by
  refine own_istore (pc2 := 29) at_27 rfl (L' := #[.val (.int xa), .val (.int xb), .val (.int xc), .val (.ref ai), .val (.ref li), .val (.int (0 : Int32)), .val (.int (0 : Int32)), .unset, .unset]) rfl ?_
  refine own_iloadN (pc2 := 30) at_29 rfl rfl ?_
  refine own_aloadN (pc2 := 31) at_30 rfl rfl rfl ?_
  refine own_aload (pc2 := 33) at_31 rfl rfl rfl ?_
  refine own_iconst (v := 2) (pc2 := 34) at_33 rfl rfl ?_
  exact own_refl
theorem own_s0_6 (xa : Int32) (xb : Int32) (xc : Int32) (ai : Addr) (li : Addr) :
    own_Go own_K0 code 37 #[.val (.int xa), .val (.int xb), .val (.int xc), .val (.ref ai), .val (.ref li), .val (.int (0 : Int32)), .val (.int (0 : Int32)), .unset, .unset] [(.int (0 : Int32))] 39 #[.val (.int xa), .val (.int xb), .val (.int xc), .val (.ref ai), .val (.ref li), .val (.int (0 : Int32)), .val (.int (0 : Int32)), .val (.int (0 : Int32)), .unset] [] := by
  refine own_istore (pc2 := 39) at_37 rfl (L' := #[.val (.int xa), .val (.int xb), .val (.int xc), .val (.ref ai), .val (.ref li), .val (.int (0 : Int32)), .val (.int (0 : Int32)), .val (.int (0 : Int32)), .unset]) rfl ?_
  exact own_refl
theorem own_s0_7 (xa : Int32) (xb : Int32) (xc : Int32) (ai : Addr) (li : Addr) (x : Addr) :
    own_Go own_K0 code 42 #[.val (.int xa), .val (.int xb), .val (.int xc), .val (.ref ai), .val (.ref li), .val (.int (0 : Int32)), .val (.int (0 : Int32)), .val (.int (0 : Int32)), .unset] [(.ref x)] 43 #[.val (.int xa), .val (.int xb), .val (.int xc), .val (.ref ai), .val (.ref li), .val (.int (0 : Int32)), .val (.int (0 : Int32)), .val (.int (0 : Int32)), .unset] [(.ref x), (.ref x)] := by
  refine own_dup (pc2 := 43) at_42 rfl rfl ?_
  exact own_refl
theorem own_s0_8 (xa : Int32) (xb : Int32) (xc : Int32) (ai : Addr) (li : Addr) (st : Addr) (x : Addr) :
    own_Go own_K0 code 45 #[.val (.int xa), .val (.int xb), .val (.int xc), .val (.ref ai), .val (.ref li), .val (.int (0 : Int32)), .val (.int (0 : Int32)), .val (.int (0 : Int32)), .unset] [(.ref st), (.ref x), (.ref x)] 47 #[.val (.int xa), .val (.int xb), .val (.int xc), .val (.ref ai), .val (.ref li), .val (.int (0 : Int32)), .val (.int (0 : Int32)), .val (.int (0 : Int32)), .unset] [(.double (4607182418800017408 : UInt64)), (.ref ai), (.ref st), (.ref x), (.ref x)] := by
  refine own_aloadN (pc2 := 46) at_45 rfl rfl rfl ?_
  refine own_dconst1 (v := 4607182418800017408) (pc2 := 47) at_46 rfl rfl ?_
  exact own_refl
theorem own_s0_9 (xa : Int32) (xb : Int32) (xc : Int32) (ai : Addr) (li : Addr) (x : Addr) :
    own_Go own_K0 code 50 #[.val (.int xa), .val (.int xb), .val (.int xc), .val (.ref ai), .val (.ref li), .val (.int (0 : Int32)), .val (.int (0 : Int32)), .val (.int (0 : Int32)), .unset] [(.ref x)] 56 #[.val (.int xa), .val (.int xb), .val (.int xc), .val (.ref ai), .val (.ref li), .val (.int (0 : Int32)), .val (.int (0 : Int32)), .val (.int (0 : Int32)), .val (.ref x)] [(.ref li), (.ref x)] := by
  refine own_astore (pc2 := 52) at_50 rfl rfl (L' := #[.val (.int xa), .val (.int xb), .val (.int xc), .val (.ref ai), .val (.ref li), .val (.int (0 : Int32)), .val (.int (0 : Int32)), .val (.int (0 : Int32)), .val (.ref x)]) rfl ?_
  refine own_aload (pc2 := 54) at_52 rfl rfl rfl ?_
  refine own_aload (pc2 := 56) at_54 rfl rfl rfl ?_
  exact own_refl
theorem own_s0_10 (xa : Int32) (xb : Int32) (xc : Int32) (ai : Addr) (li : Addr) (x : Addr) :
    own_Go own_K0 code 59 #[.val (.int xa), .val (.int xb), .val (.int xc), .val (.ref ai), .val (.ref li), .val (.int (0 : Int32)), .val (.int (0 : Int32)), .val (.int (0 : Int32)), .val (.ref x)] [(.int (0 : Int32))] 87 #[.val (.int xa), .val (.int xb), .val (.int xc), .val (.ref ai), .val (.ref li), .val (.int (0 : Int32)), .val (.int (0 : Int32)), .val (.int (0 : Int32)), .val (.ref x)] [(.int (1 : Int32))] := by
  refine own_iload (pc2 := 61) at_59 rfl rfl ?_
  refine own_ifYes (pc' := 78) at_61 (by decide) (by decide) (by decide) ?_
  refine own_iconst (v := 0) (pc2 := 79) at_78 rfl rfl ?_
  refine own_icmpNo (pc2 := 82) at_79 rfl (by decide) ?_
  refine own_iconst (v := 1) (pc2 := 83) at_82 rfl rfl ?_
  refine own_goto (pc' := 87) at_83 (by decide) (by decide) ?_
  exact own_refl
set_option maxRecDepth 65536 in
set_option maxHeartbeats 40000000 in
theorem own_law0 (l : Launch) (Z : State) (a0 : Array Value) (hb0 : own_Base) (hw : ∀ d ∈ tables_1, d.before a0 Z = true) (xa : Int32) (xb : Int32) (xc : Int32) (h0 : ¬ own_T xa) (h1 : ¬ own_T xb) (h2 : ¬ own_T xc) :
    own_MetW l Z a0 hb0 x code maxLocals ret tables_1 room_1 #[(.int xa), (.int xb), (.int xc)] [] (fun v _ => v = some (.int 1)) := by
  refine own_met_ofW (L0 := #[.val (.int xa), .val (.int xb), .val (.int xc), .unset, .unset, .unset, .unset, .unset, .unset]) (plainFor_of_name own_pn0) (fun m => own_ef0 m xa xb xc) ?_
  intro p e s m below meth c T0 hx hZ hown hby hml hnm H0
  have hown : s.vm.findClass "com/example/placewright/placewright/model/MachineTypeHolds334PinLaw" = some m.cls := hown
  have hml : c.maxLocals = 9 := hml
  obtain ⟨Ts0_1, ai, Hs0_1, sts0_1⟩ := own_newA H0 hx hZ (hw _ (List.mem_of_getElem? (i := 0) rfl)) (g := (mkF m 1 #[.val (.int xa), .val (.int xb), .val (.int xc), .unset, .unset, .unset, .unset, .unset, .unset] [(.int (3 : Int32))])) rfl (hb hby at_1) rfl (by decide) (cap := 3) (by decide) (by decide) (by decide) (by decide)
  change own_S _ _ _ _ _ _ _ _ _ _ _ _ _ _ [(ai, own_A .double [.double 0, .double 0, .double 0])] _ _ at Hs0_1
  obtain ⟨Ts0_2, li, Hs0_2, sts0_2⟩ := own_newA Hs0_1 hx hZ (hw _ (List.mem_of_getElem? (i := 0) rfl)) (g := (mkF m 5 #[.val (.int xa), .val (.int xb), .val (.int xc), .val (.ref ai), .unset, .unset, .unset, .unset, .unset] [(.int (3 : Int32))])) rfl (hb hby at_5) rfl (by decide) (cap := 3) (by decide) (by decide) (by decide) (by decide)
  change own_S _ _ _ _ _ _ _ _ _ _ _ _ _ _ [(ai, own_A .double [.double 0, .double 0, .double 0]), (li, own_A .double [.double 0, .double 0, .double 0])] _ _ at Hs0_2
  obtain ⟨Ts0_3, vs0_3_, css0_3_, qs0_3, Hs0_3, sts0_3⟩ := own_callS Hs0_2 hx hZ hown (hw _ (List.mem_of_getElem? (i := 1) rfl)) (hw _ (List.mem_of_getElem? (i := 2) rfl)) (hw _ (List.mem_of_getElem? (i := 3) rfl)) (hw _ (List.mem_of_getElem? (i := 4) rfl)) (by decide) (argsL := [(.int xa), (.ref ai), (.ref li), (.int (0 : Int32))]) (rest := []) (W := 0) (own_fill0F l Z a0 hb0 hw xa ai li (0 : UInt64) (0 : UInt64) (0 : UInt64) (0 : UInt64) (0 : UInt64) (0 : UInt64) h0) (by decide) (by decide) (by decide) (by decide) (g := (mkF m 14 #[.val (.int xa), .val (.int xb), .val (.int xc), .val (.ref ai), .val (.ref li), .unset, .unset, .unset, .unset] [(.int (0 : Int32)), (.ref li), (.ref ai), (.int xa)])) rfl (by rw [hml]; rfl) (lenOf own_pd2 rfl) rfl (by show 2 * 0 + _ ≤ _; exact Nat.le_of_eq rfl) (hb hby at_14)
  obtain ⟨ca0, lo0, nc0, hc0, rfl, rfl⟩ := qs0_3
  change own_S _ _ _ _ _ _ _ _ _ _ _ _ _ _ [(ai, own_A .double [.double ca0, .double (0 : UInt64), .double (0 : UInt64)]), (li, own_A .double [.double lo0, .double (0 : UInt64), .double (0 : UInt64)])] _ _ at Hs0_3
  obtain ⟨Ts0_4, vs0_4_, css0_4_, qs0_4, Hs0_4, sts0_4⟩ := own_callS Hs0_3 hx hZ hown (hw _ (List.mem_of_getElem? (i := 1) rfl)) (hw _ (List.mem_of_getElem? (i := 2) rfl)) (hw _ (List.mem_of_getElem? (i := 3) rfl)) (hw _ (List.mem_of_getElem? (i := 4) rfl)) (by decide) (argsL := [(.int xb), (.ref ai), (.ref li), (.int (1 : Int32))]) (rest := []) (W := 0) (own_fill1F l Z a0 hb0 hw xb ai li ca0 (0 : UInt64) (0 : UInt64) lo0 (0 : UInt64) (0 : UInt64) h1) (by decide) (by decide) (by decide) (by decide) (g := (mkF m 24 #[.val (.int xa), .val (.int xb), .val (.int xc), .val (.ref ai), .val (.ref li), .val (.int (0 : Int32)), .unset, .unset, .unset] [(.int (1 : Int32)), (.ref li), (.ref ai), (.int xb)])) rfl (by rw [hml]; rfl) (lenOf own_pd2 rfl) rfl (by show 2 * 0 + _ ≤ _; exact Nat.le_of_eq rfl) (hb hby at_24)
  obtain ⟨ca1, lo1, nc1, hc1, rfl, rfl⟩ := qs0_4
  change own_S _ _ _ _ _ _ _ _ _ _ _ _ _ _ [(ai, own_A .double [.double ca0, .double ca1, .double (0 : UInt64)]), (li, own_A .double [.double lo0, .double lo1, .double (0 : UInt64)])] _ _ at Hs0_4
  obtain ⟨Ts0_5, vs0_5_, css0_5_, qs0_5, Hs0_5, sts0_5⟩ := own_callS Hs0_4 hx hZ hown (hw _ (List.mem_of_getElem? (i := 1) rfl)) (hw _ (List.mem_of_getElem? (i := 2) rfl)) (hw _ (List.mem_of_getElem? (i := 3) rfl)) (hw _ (List.mem_of_getElem? (i := 4) rfl)) (by decide) (argsL := [(.int xc), (.ref ai), (.ref li), (.int (2 : Int32))]) (rest := []) (W := 0) (own_fill2F l Z a0 hb0 hw xc ai li ca0 ca1 (0 : UInt64) lo0 lo1 (0 : UInt64) h2) (by decide) (by decide) (by decide) (by decide) (g := (mkF m 34 #[.val (.int xa), .val (.int xb), .val (.int xc), .val (.ref ai), .val (.ref li), .val (.int (0 : Int32)), .val (.int (0 : Int32)), .unset, .unset] [(.int (2 : Int32)), (.ref li), (.ref ai), (.int xc)])) rfl (by rw [hml]; rfl) (lenOf own_pd2 rfl) rfl (by show 2 * 0 + _ ≤ _; exact Nat.le_of_eq rfl) (hb hby at_34)
  obtain ⟨ca2, lo2, nc2, hc2, rfl, rfl⟩ := qs0_5
  change own_S _ _ _ _ _ _ _ _ _ _ _ _ _ _ [(ai, own_A .double [.double ca0, .double ca1, .double ca2]), (li, own_A .double [.double lo0, .double lo1, .double lo2])] _ _ at Hs0_5
  obtain ⟨Ts0_6, x, Hs0_6, sts0_6⟩ := own_newO Hs0_5 hx hZ hown (hw _ (List.mem_of_getElem? (i := 6) rfl)) (hw _ (List.mem_of_getElem? (i := 7) rfl)) (hw _ (List.mem_of_getElem? (i := 8) rfl)) [("com/example/placewright/placewright/model/MachineType", "name", "Ljava/lang/String;", .null), ("com/example/placewright/placewright/model/MachineType", "capacity", "[D", .null), ("com/example/placewright/placewright/model/MachineType", "pricePerHour", "D", .double 0)] (by
      intro f hf
      simp only [List.mem_cons, List.not_mem_nil, or_false] at hf
      rcases hf with rfl | rfl | rfl
      · exact ⟨Or.inr (hw _ (List.mem_of_getElem? (i := 24) rfl)), (.object "java/lang/String"), by decide, rfl⟩
      · exact ⟨Or.inr (hw _ (List.mem_of_getElem? (i := 35) rfl)), (.array .double), by decide, rfl⟩
      · exact ⟨Or.inr (hw _ (List.mem_of_getElem? (i := 37) rfl)), .double, by decide, rfl⟩) (by decide) (g := (mkF m 39 #[.val (.int xa), .val (.int xb), .val (.int xc), .val (.ref ai), .val (.ref li), .val (.int (0 : Int32)), .val (.int (0 : Int32)), .val (.int (0 : Int32)), .unset] [])) rfl (hb hby at_39) (by decide) (by decide)
  change own_S _ _ _ _ _ _ _ _ _ _ _ _ _ _ [(ai, own_A .double [.double ca0, .double ca1, .double ca2]), (li, own_A .double [.double lo0, .double lo1, .double lo2]), (x, own_O "com/example/placewright/placewright/model/MachineType" [("com/example/placewright/placewright/model/MachineType", "name", "Ljava/lang/String;", .null), ("com/example/placewright/placewright/model/MachineType", "capacity", "[D", .null), ("com/example/placewright/placewright/model/MachineType", "pricePerHour", "D", .double 0)])] _ _ at Hs0_6
  obtain ⟨st, Ts0_7, Hs0_7, hS1, hfl1, hZ1, hown1, sts0_7⟩ := own_ldcS Hs0_6 hx hZ hown (hw _ (List.mem_of_getElem? (i := 9) rfl)) (own_strAtoms hw) (g := (mkF m 43 #[.val (.int xa), .val (.int xb), .val (.int xc), .val (.ref ai), .val (.ref li), .val (.int (0 : Int32)), .val (.int (0 : Int32)), .val (.int (0 : Int32)), .unset] [(.ref x), (.ref x)])) rfl (hb hby at_43) (N := 4) (by decide) (by decide) (by decide) (by decide)
  obtain ⟨Ts0_8, vs0_8_, css0_8_, qs0_8, Hs0_8, sts0_8⟩ := own_callI Hs0_7 hx hZ1 hown1 rfl (hw _ (List.mem_of_getElem? (i := 17) rfl)) (hw _ (List.mem_of_getElem? (i := 18) rfl)) (hw _ (List.mem_of_getElem? (i := 8) rfl)) (hw _ (List.mem_of_getElem? (i := 19) rfl)) (by decide) (x := x) (argsL := [(.ref st), (.ref ai), (.double (4607182418800017408 : UInt64))]) (rest := [(.ref x)]) (W := 1) (own_mk l Z a0 ⟨hb0.b, Ts0_7.heap.size⟩ hw x st ai 4607182418800017408 ca0 ca1 ca2 li _) (by decide) (by decide) (by decide) (by decide) (g := (mkF m 47 #[.val (.int xa), .val (.int xb), .val (.int xc), .val (.ref ai), .val (.ref li), .val (.int (0 : Int32)), .val (.int (0 : Int32)), .val (.int (0 : Int32)), .unset] [(.double (4607182418800017408 : UInt64)), (.ref ai), (.ref st), (.ref x), (.ref x)])) rfl (by rw [hml]; rfl) (lenOf own_pd3 rfl) rfl (by show 2 * 0 + _ ≤ _; exact Nat.le_of_eq rfl) (hb hby at_47)
  obtain ⟨y, rfl, rfl⟩ := qs0_8
  change own_S _ _ _ _ _ _ _ _ _ _ _ _ _ _ [(ai, own_A .double [.double ca0, .double ca1, .double ca2]), (li, own_A .double [.double lo0, .double lo1, .double lo2]), (x, own_O "com/example/placewright/placewright/model/MachineType" [("com/example/placewright/placewright/model/MachineType", "name", "Ljava/lang/String;", .ref st), ("com/example/placewright/placewright/model/MachineType", "capacity", "[D", .ref y), ("com/example/placewright/placewright/model/MachineType", "pricePerHour", "D", .double (4607182418800017408 : UInt64))]), (y, own_A .double [.double ca0, .double ca1, .double ca2])] _ _ at Hs0_8
  obtain ⟨Ts0_9, vs0_9_, css0_9_, qs0_9, Hs0_9, sts0_9⟩ := own_callV Hs0_8 hx hZ1 hown1 (hw _ (List.mem_of_getElem? (i := 38) rfl)) (hw _ (List.mem_of_getElem? (i := 39) rfl)) (hw _ (List.mem_of_getElem? (i := 41) rfl)) (hw _ (List.mem_of_getElem? (i := 40) rfl)) (hw _ (List.mem_of_getElem? (i := 8) rfl)) (hw _ (List.mem_of_getElem? (i := 42) rfl)) (by decide) (x := x) 2 rfl (argsL := [(.ref li)]) (rest := []) (W := 0) (own_holds0 l Z a0 ⟨hb0.b, Ts0_7.heap.size⟩ hw x li ai st y _ 4607182418800017408 ca0 ca1 ca2 lo0 lo1 lo2 nc0 hc0) (by decide) (by decide) (by decide) (by decide) (g := (mkF m 56 #[.val (.int xa), .val (.int xb), .val (.int xc), .val (.ref ai), .val (.ref li), .val (.int (0 : Int32)), .val (.int (0 : Int32)), .val (.int (0 : Int32)), .val (.ref x)] [(.ref li), (.ref x)])) rfl (by rw [hml]; rfl) (lenOf own_pd4 rfl) rfl (by show 2 * 0 + _ ≤ _; exact Nat.le_of_eq rfl) (hb hby at_56)
  obtain ⟨rfl, rfl⟩ := qs0_9
  change own_S _ _ _ _ _ _ _ _ _ _ _ _ _ _ [(ai, own_A .double [.double ca0, .double ca1, .double ca2]), (li, own_A .double [.double lo0, .double lo1, .double lo2]), (x, own_O "com/example/placewright/placewright/model/MachineType" [("com/example/placewright/placewright/model/MachineType", "name", "Ljava/lang/String;", .ref st), ("com/example/placewright/placewright/model/MachineType", "capacity", "[D", .ref y), ("com/example/placewright/placewright/model/MachineType", "pricePerHour", "D", .double (4607182418800017408 : UInt64))]), (y, own_A .double [.double ca0, .double ca1, .double ca2])] _ _ at Hs0_9
  refine ⟨Ts0_7.vm, Ts0_7.heap.size, _, _, _, _, 87, #[.val (.int xa), .val (.int xb), .val (.int xc), .val (.ref ai), .val (.ref li), .val (.int (0 : Int32)), .val (.int (0 : Int32)), .val (.int (0 : Int32)), .val (.ref x)], hS1, hfl1, Hs0_9, by decide, by decide, Or.inr ⟨.boolean, (.int (1 : Int32)), [], .ireturn, rfl, rfl, at_87, own_retZ (Or.inr rfl), fun target q => ?_⟩⟩
  refine own_go H0 hx hZ hown hby hw own_K0_ok (own_s0_0 xa xb xc) _ ?_
  refine sts0_1 _ ?_
  refine own_go Hs0_1 hx hZ hown hby hw own_K0_ok (own_s0_1 xa xb xc ai) _ ?_
  refine own_go Hs0_1 hx hZ hown hby hw own_K0_ok (own_s0_2 xa xb xc ai) _ ?_
  refine sts0_2 _ ?_
  refine own_go Hs0_2 hx hZ hown hby hw own_K0_ok (own_s0_3 xa xb xc ai li) _ ?_
  refine sts0_3 _ ?_
  refine own_go Hs0_3 hx hZ hown hby hw own_K0_ok (own_s0_4 xa xb xc ai li) _ ?_
  refine sts0_4 _ ?_
  refine own_go Hs0_4 hx hZ hown hby hw own_K0_ok (own_s0_5 xa xb xc ai li) _ ?_
  refine sts0_5 _ ?_
  refine own_go Hs0_5 hx hZ hown hby hw own_K0_ok (own_s0_6 xa xb xc ai li) _ ?_
  refine sts0_6 _ ?_
  refine own_go Hs0_6 hx hZ hown hby hw own_K0_ok (own_s0_7 xa xb xc ai li x) _ ?_
  refine sts0_7 _ ?_
  refine own_go Hs0_7 hx hZ1 hown1 hby hw own_K0_ok (own_s0_8 xa xb xc ai li st x) _ ?_
  refine sts0_8 _ ?_
  refine own_go Hs0_8 hx hZ1 hown1 hby hw own_K0_ok (own_s0_9 xa xb xc ai li x) _ ?_
  refine sts0_9 _ ?_
  refine own_go Hs0_9 hx hZ1 hown1 hby hw own_K0_ok (own_s0_10 xa xb xc ai li x) _ ?_
  exact q
theorem own_s1_0 (xa : Int32) (xb : Int32) (xc : Int32) :
    own_Go own_K0 code 0 #[.val (.int xa), .val (.int xb), .val (.int xc), .unset, .unset, .unset, .unset, .unset, .unset] [] 1 #[.val (.int xa), .val (.int xb), .val (.int xc), .unset, .unset, .unset, .unset, .unset, .unset] [(.int (3 : Int32))] := by
  refine own_iconst (v := 3) (pc2 := 1) at_0 rfl rfl ?_
  exact own_refl
theorem own_s1_1 (xa : Int32) (xb : Int32) (xc : Int32) (ai : Addr) :
    own_Go own_K0 code 3 #[.val (.int xa), .val (.int xb), .val (.int xc), .unset, .unset, .unset, .unset, .unset, .unset] [(.ref ai)] 4 #[.val (.int xa), .val (.int xb), .val (.int xc), .val (.ref ai), .unset, .unset, .unset, .unset, .unset] [] := by
  refine own_astoreN (pc2 := 4) at_3 rfl rfl (L' := #[.val (.int xa), .val (.int xb), .val (.int xc), .val (.ref ai), .unset, .unset, .unset, .unset, .unset]) rfl ?_
  exact own_refl
theorem own_s1_2 (xa : Int32) (xb : Int32) (xc : Int32) (ai : Addr) :
    own_Go own_K0 code 4 #[.val (.int xa), .val (.int xb), .val (.int xc), .val (.ref ai), .unset, .unset, .unset, .unset, .unset] [] 5 #[.val (.int xa), .val (.int xb), .val (.int xc), .val (.ref ai), .unset, .unset, .unset, .unset, .unset] [(.int (3 : Int32))] := by
  refine own_iconst (v := 3) (pc2 := 5) at_4 rfl rfl ?_
  exact own_refl
theorem own_s1_3 (xa : Int32) (xb : Int32) (xc : Int32) (ai : Addr) (li : Addr) :
    own_Go own_K0 code 7 #[.val (.int xa), .val (.int xb), .val (.int xc), .val (.ref ai), .unset, .unset, .unset, .unset, .unset] [(.ref li)] 14 #[.val (.int xa), .val (.int xb), .val (.int xc), .val (.ref ai), .val (.ref li), .unset, .unset, .unset, .unset] [(.int (0 : Int32)), (.ref li), (.ref ai), (.int xa)] := by
  refine own_astore (pc2 := 9) at_7 rfl rfl (L' := #[.val (.int xa), .val (.int xb), .val (.int xc), .val (.ref ai), .val (.ref li), .unset, .unset, .unset, .unset]) rfl ?_
  refine own_iloadN (pc2 := 10) at_9 rfl rfl ?_
  refine own_aloadN (pc2 := 11) at_10 rfl rfl rfl ?_
  refine own_aload (pc2 := 13) at_11 rfl rfl rfl ?_
  refine own_iconst (v := 0) (pc2 := 14) at_13 rfl rfl ?_
  exact own_refl
theorem own_s1_4 (xa : Int32) (xb : Int32) (xc : Int32) (ai : Addr) (li : Addr) :
    own_Go own_K0 code 17 #[.val (.int xa), .val (.int xb), .val (.int xc), .val (.ref ai), .val (.ref li), .unset, .unset, .unset, .unset] [(.int (0 : Int32))] 24 #[.val (.int xa), .val (.int xb), .val (.int xc), .val (.ref ai), .val (.ref li), .val (.int (0 : Int32)), .unset, .unset, .unset] [(.int (1 : Int32)), (.ref li), (.ref ai), (.int xb)] := by
  refine own_istore (pc2 := 19) at_17 rfl (L' := #[.val (.int xa), .val (.int xb), .val (.int xc), .val (.ref ai), .val (.ref li), .val (.int (0 : Int32)), .unset, .unset, .unset]) rfl ?_
  refine own_iloadN (pc2 := 20) at_19 rfl rfl ?_
  refine own_aloadN (pc2 := 21) at_20 rfl rfl rfl ?_
  refine own_aload (pc2 := 23) at_21 rfl rfl rfl ?_
  refine own_iconst (v := 1) (pc2 := 24) at_23 rfl rfl ?_
  exact own_refl
theorem own_s1_5 (xa : Int32) (xb : Int32) (xc : Int32) (ai : Addr) (li : Addr) :
    own_Go own_K0 code 27 #[.val (.int xa), .val (.int xb), .val (.int xc), .val (.ref ai), .val (.ref li), .val (.int (0 : Int32)), .unset, .unset, .unset] [(.int (0 : Int32))] 34 #[.val (.int xa), .val (.int xb), .val (.int xc), .val (.ref ai), .val (.ref li), .val (.int (0 : Int32)), .val (.int (0 : Int32)), .unset, .unset] [(.int (2 : Int32)), (.ref li), (.ref ai), (.int xc)] := by
  refine own_istore (pc2 := 29) at_27 rfl (L' := #[.val (.int xa), .val (.int xb), .val (.int xc), .val (.ref ai), .val (.ref li), .val (.int (0 : Int32)), .val (.int (0 : Int32)), .unset, .unset]) rfl ?_
  refine own_iloadN (pc2 := 30) at_29 rfl rfl ?_
  refine own_aloadN (pc2 := 31) at_30 rfl rfl rfl ?_
  refine own_aload (pc2 := 33) at_31 rfl rfl rfl ?_
  refine own_iconst (v := 2) (pc2 := 34) at_33 rfl rfl ?_
  exact own_refl
theorem own_s1_6 (xa : Int32) (xb : Int32) (xc : Int32) (ai : Addr) (li : Addr) :
    own_Go own_K0 code 37 #[.val (.int xa), .val (.int xb), .val (.int xc), .val (.ref ai), .val (.ref li), .val (.int (0 : Int32)), .val (.int (0 : Int32)), .unset, .unset] [(.int (1 : Int32))] 39 #[.val (.int xa), .val (.int xb), .val (.int xc), .val (.ref ai), .val (.ref li), .val (.int (0 : Int32)), .val (.int (0 : Int32)), .val (.int (1 : Int32)), .unset] [] := by
  refine own_istore (pc2 := 39) at_37 rfl (L' := #[.val (.int xa), .val (.int xb), .val (.int xc), .val (.ref ai), .val (.ref li), .val (.int (0 : Int32)), .val (.int (0 : Int32)), .val (.int (1 : Int32)), .unset]) rfl ?_
  exact own_refl
theorem own_s1_7 (xa : Int32) (xb : Int32) (xc : Int32) (ai : Addr) (li : Addr) (x : Addr) :
    own_Go own_K0 code 42 #[.val (.int xa), .val (.int xb), .val (.int xc), .val (.ref ai), .val (.ref li), .val (.int (0 : Int32)), .val (.int (0 : Int32)), .val (.int (1 : Int32)), .unset] [(.ref x)] 43 #[.val (.int xa), .val (.int xb), .val (.int xc), .val (.ref ai), .val (.ref li), .val (.int (0 : Int32)), .val (.int (0 : Int32)), .val (.int (1 : Int32)), .unset] [(.ref x), (.ref x)] := by
  refine own_dup (pc2 := 43) at_42 rfl rfl ?_
  exact own_refl
theorem own_s1_8 (xa : Int32) (xb : Int32) (xc : Int32) (ai : Addr) (li : Addr) (st : Addr) (x : Addr) :
    own_Go own_K0 code 45 #[.val (.int xa), .val (.int xb), .val (.int xc), .val (.ref ai), .val (.ref li), .val (.int (0 : Int32)), .val (.int (0 : Int32)), .val (.int (1 : Int32)), .unset] [(.ref st), (.ref x), (.ref x)] 47 #[.val (.int xa), .val (.int xb), .val (.int xc), .val (.ref ai), .val (.ref li), .val (.int (0 : Int32)), .val (.int (0 : Int32)), .val (.int (1 : Int32)), .unset] [(.double (4607182418800017408 : UInt64)), (.ref ai), (.ref st), (.ref x), (.ref x)] := by
  refine own_aloadN (pc2 := 46) at_45 rfl rfl rfl ?_
  refine own_dconst1 (v := 4607182418800017408) (pc2 := 47) at_46 rfl rfl ?_
  exact own_refl
theorem own_s1_9 (xa : Int32) (xb : Int32) (xc : Int32) (ai : Addr) (li : Addr) (x : Addr) :
    own_Go own_K0 code 50 #[.val (.int xa), .val (.int xb), .val (.int xc), .val (.ref ai), .val (.ref li), .val (.int (0 : Int32)), .val (.int (0 : Int32)), .val (.int (1 : Int32)), .unset] [(.ref x)] 56 #[.val (.int xa), .val (.int xb), .val (.int xc), .val (.ref ai), .val (.ref li), .val (.int (0 : Int32)), .val (.int (0 : Int32)), .val (.int (1 : Int32)), .val (.ref x)] [(.ref li), (.ref x)] := by
  refine own_astore (pc2 := 52) at_50 rfl rfl (L' := #[.val (.int xa), .val (.int xb), .val (.int xc), .val (.ref ai), .val (.ref li), .val (.int (0 : Int32)), .val (.int (0 : Int32)), .val (.int (1 : Int32)), .val (.ref x)]) rfl ?_
  refine own_aload (pc2 := 54) at_52 rfl rfl rfl ?_
  refine own_aload (pc2 := 56) at_54 rfl rfl rfl ?_
  exact own_refl
theorem own_s1_10 (xa : Int32) (xb : Int32) (xc : Int32) (ai : Addr) (li : Addr) (x : Addr) :
    own_Go own_K0 code 59 #[.val (.int xa), .val (.int xb), .val (.int xc), .val (.ref ai), .val (.ref li), .val (.int (0 : Int32)), .val (.int (0 : Int32)), .val (.int (1 : Int32)), .val (.ref x)] [(.int (0 : Int32))] 87 #[.val (.int xa), .val (.int xb), .val (.int xc), .val (.ref ai), .val (.ref li), .val (.int (0 : Int32)), .val (.int (0 : Int32)), .val (.int (1 : Int32)), .val (.ref x)] [(.int (1 : Int32))] := by
  refine own_iload (pc2 := 61) at_59 rfl rfl ?_
  refine own_ifYes (pc' := 78) at_61 (by decide) (by decide) (by decide) ?_
  refine own_iconst (v := 0) (pc2 := 79) at_78 rfl rfl ?_
  refine own_icmpNo (pc2 := 82) at_79 rfl (by decide) ?_
  refine own_iconst (v := 1) (pc2 := 83) at_82 rfl rfl ?_
  refine own_goto (pc' := 87) at_83 (by decide) (by decide) ?_
  exact own_refl
set_option maxRecDepth 65536 in
set_option maxHeartbeats 40000000 in
theorem own_law1 (l : Launch) (Z : State) (a0 : Array Value) (hb0 : own_Base) (hw : ∀ d ∈ tables_1, d.before a0 Z = true) (xa : Int32) (xb : Int32) (xc : Int32) (h0 : ¬ own_T xa) (h1 : ¬ own_T xb) (h2 : own_T xc) :
    own_MetW l Z a0 hb0 x code maxLocals ret tables_1 room_1 #[(.int xa), (.int xb), (.int xc)] [] (fun v _ => v = some (.int 1)) := by
  refine own_met_ofW (L0 := #[.val (.int xa), .val (.int xb), .val (.int xc), .unset, .unset, .unset, .unset, .unset, .unset]) (plainFor_of_name own_pn0) (fun m => own_ef0 m xa xb xc) ?_
  intro p e s m below meth c T0 hx hZ hown hby hml hnm H0
  have hown : s.vm.findClass "com/example/placewright/placewright/model/MachineTypeHolds334PinLaw" = some m.cls := hown
  have hml : c.maxLocals = 9 := hml
  obtain ⟨Ts1_1, ai, Hs1_1, sts1_1⟩ := own_newA H0 hx hZ (hw _ (List.mem_of_getElem? (i := 0) rfl)) (g := (mkF m 1 #[.val (.int xa), .val (.int xb), .val (.int xc), .unset, .unset, .unset, .unset, .unset, .unset] [(.int (3 : Int32))])) rfl (hb hby at_1) rfl (by decide) (cap := 3) (by decide) (by decide) (by decide) (by decide)
  change own_S _ _ _ _ _ _ _ _ _ _ _ _ _ _ [(ai, own_A .double [.double 0, .double 0, .double 0])] _ _ at Hs1_1
  obtain ⟨Ts1_2, li, Hs1_2, sts1_2⟩ := own_newA Hs1_1 hx hZ (hw _ (List.mem_of_getElem? (i := 0) rfl)) (g := (mkF m 5 #[.val (.int xa), .val (.int xb), .val (.int xc), .val (.ref ai), .unset, .unset, .unset, .unset, .unset] [(.int (3 : Int32))])) rfl (hb hby at_5) rfl (by decide) (cap := 3) (by decide) (by decide) (by decide) (by decide)
  change own_S _ _ _ _ _ _ _ _ _ _ _ _ _ _ [(ai, own_A .double [.double 0, .double 0, .double 0]), (li, own_A .double [.double 0, .double 0, .double 0])] _ _ at Hs1_2
  obtain ⟨Ts1_3, vs1_3_, css1_3_, qs1_3, Hs1_3, sts1_3⟩ := own_callS Hs1_2 hx hZ hown (hw _ (List.mem_of_getElem? (i := 1) rfl)) (hw _ (List.mem_of_getElem? (i := 2) rfl)) (hw _ (List.mem_of_getElem? (i := 3) rfl)) (hw _ (List.mem_of_getElem? (i := 4) rfl)) (by decide) (argsL := [(.int xa), (.ref ai), (.ref li), (.int (0 : Int32))]) (rest := []) (W := 0) (own_fill0F l Z a0 hb0 hw xa ai li (0 : UInt64) (0 : UInt64) (0 : UInt64) (0 : UInt64) (0 : UInt64) (0 : UInt64) h0) (by decide) (by decide) (by decide) (by decide) (g := (mkF m 14 #[.val (.int xa), .val (.int xb), .val (.int xc), .val (.ref ai), .val (.ref li), .unset, .unset, .unset, .unset] [(.int (0 : Int32)), (.ref li), (.ref ai), (.int xa)])) rfl (by rw [hml]; rfl) (lenOf own_pd2 rfl) rfl (by show 2 * 0 + _ ≤ _; exact Nat.le_of_eq rfl) (hb hby at_14)
  obtain ⟨ca0, lo0, nc0, hc0, rfl, rfl⟩ := qs1_3
  change own_S _ _ _ _ _ _ _ _ _ _ _ _ _ _ [(ai, own_A .double [.double ca0, .double (0 : UInt64), .double (0 : UInt64)]), (li, own_A .double [.double lo0, .double (0 : UInt64), .double (0 : UInt64)])] _ _ at Hs1_3
  obtain ⟨Ts1_4, vs1_4_, css1_4_, qs1_4, Hs1_4, sts1_4⟩ := own_callS Hs1_3 hx hZ hown (hw _ (List.mem_of_getElem? (i := 1) rfl)) (hw _ (List.mem_of_getElem? (i := 2) rfl)) (hw _ (List.mem_of_getElem? (i := 3) rfl)) (hw _ (List.mem_of_getElem? (i := 4) rfl)) (by decide) (argsL := [(.int xb), (.ref ai), (.ref li), (.int (1 : Int32))]) (rest := []) (W := 0) (own_fill1F l Z a0 hb0 hw xb ai li ca0 (0 : UInt64) (0 : UInt64) lo0 (0 : UInt64) (0 : UInt64) h1) (by decide) (by decide) (by decide) (by decide) (g := (mkF m 24 #[.val (.int xa), .val (.int xb), .val (.int xc), .val (.ref ai), .val (.ref li), .val (.int (0 : Int32)), .unset, .unset, .unset] [(.int (1 : Int32)), (.ref li), (.ref ai), (.int xb)])) rfl (by rw [hml]; rfl) (lenOf own_pd2 rfl) rfl (by show 2 * 0 + _ ≤ _; exact Nat.le_of_eq rfl) (hb hby at_24)
  obtain ⟨ca1, lo1, nc1, hc1, rfl, rfl⟩ := qs1_4
  change own_S _ _ _ _ _ _ _ _ _ _ _ _ _ _ [(ai, own_A .double [.double ca0, .double ca1, .double (0 : UInt64)]), (li, own_A .double [.double lo0, .double lo1, .double (0 : UInt64)])] _ _ at Hs1_4
  obtain ⟨Ts1_5, vs1_5_, css1_5_, qs1_5, Hs1_5, sts1_5⟩ := own_callS Hs1_4 hx hZ hown (hw _ (List.mem_of_getElem? (i := 1) rfl)) (hw _ (List.mem_of_getElem? (i := 2) rfl)) (hw _ (List.mem_of_getElem? (i := 3) rfl)) (hw _ (List.mem_of_getElem? (i := 4) rfl)) (by decide) (argsL := [(.int xc), (.ref ai), (.ref li), (.int (2 : Int32))]) (rest := []) (W := 0) (own_fill2T l Z a0 hb0 hw xc ai li ca0 ca1 (0 : UInt64) lo0 lo1 (0 : UInt64) h2) (by decide) (by decide) (by decide) (by decide) (g := (mkF m 34 #[.val (.int xa), .val (.int xb), .val (.int xc), .val (.ref ai), .val (.ref li), .val (.int (0 : Int32)), .val (.int (0 : Int32)), .unset, .unset] [(.int (2 : Int32)), (.ref li), (.ref ai), (.int xc)])) rfl (by rw [hml]; rfl) (lenOf own_pd2 rfl) rfl (by show 2 * 0 + _ ≤ _; exact Nat.le_of_eq rfl) (hb hby at_34)
  obtain ⟨ca2, lo2, nc2, hc2, rfl, rfl⟩ := qs1_5
  change own_S _ _ _ _ _ _ _ _ _ _ _ _ _ _ [(ai, own_A .double [.double ca0, .double ca1, .double ca2]), (li, own_A .double [.double lo0, .double lo1, .double lo2])] _ _ at Hs1_5
  obtain ⟨Ts1_6, x, Hs1_6, sts1_6⟩ := own_newO Hs1_5 hx hZ hown (hw _ (List.mem_of_getElem? (i := 6) rfl)) (hw _ (List.mem_of_getElem? (i := 7) rfl)) (hw _ (List.mem_of_getElem? (i := 8) rfl)) [("com/example/placewright/placewright/model/MachineType", "name", "Ljava/lang/String;", .null), ("com/example/placewright/placewright/model/MachineType", "capacity", "[D", .null), ("com/example/placewright/placewright/model/MachineType", "pricePerHour", "D", .double 0)] (by
      intro f hf
      simp only [List.mem_cons, List.not_mem_nil, or_false] at hf
      rcases hf with rfl | rfl | rfl
      · exact ⟨Or.inr (hw _ (List.mem_of_getElem? (i := 24) rfl)), (.object "java/lang/String"), by decide, rfl⟩
      · exact ⟨Or.inr (hw _ (List.mem_of_getElem? (i := 35) rfl)), (.array .double), by decide, rfl⟩
      · exact ⟨Or.inr (hw _ (List.mem_of_getElem? (i := 37) rfl)), .double, by decide, rfl⟩) (by decide) (g := (mkF m 39 #[.val (.int xa), .val (.int xb), .val (.int xc), .val (.ref ai), .val (.ref li), .val (.int (0 : Int32)), .val (.int (0 : Int32)), .val (.int (1 : Int32)), .unset] [])) rfl (hb hby at_39) (by decide) (by decide)
  change own_S _ _ _ _ _ _ _ _ _ _ _ _ _ _ [(ai, own_A .double [.double ca0, .double ca1, .double ca2]), (li, own_A .double [.double lo0, .double lo1, .double lo2]), (x, own_O "com/example/placewright/placewright/model/MachineType" [("com/example/placewright/placewright/model/MachineType", "name", "Ljava/lang/String;", .null), ("com/example/placewright/placewright/model/MachineType", "capacity", "[D", .null), ("com/example/placewright/placewright/model/MachineType", "pricePerHour", "D", .double 0)])] _ _ at Hs1_6
  obtain ⟨st, Ts1_7, Hs1_7, hS1, hfl1, hZ1, hown1, sts1_7⟩ := own_ldcS Hs1_6 hx hZ hown (hw _ (List.mem_of_getElem? (i := 9) rfl)) (own_strAtoms hw) (g := (mkF m 43 #[.val (.int xa), .val (.int xb), .val (.int xc), .val (.ref ai), .val (.ref li), .val (.int (0 : Int32)), .val (.int (0 : Int32)), .val (.int (1 : Int32)), .unset] [(.ref x), (.ref x)])) rfl (hb hby at_43) (N := 4) (by decide) (by decide) (by decide) (by decide)
  obtain ⟨Ts1_8, vs1_8_, css1_8_, qs1_8, Hs1_8, sts1_8⟩ := own_callI Hs1_7 hx hZ1 hown1 rfl (hw _ (List.mem_of_getElem? (i := 17) rfl)) (hw _ (List.mem_of_getElem? (i := 18) rfl)) (hw _ (List.mem_of_getElem? (i := 8) rfl)) (hw _ (List.mem_of_getElem? (i := 19) rfl)) (by decide) (x := x) (argsL := [(.ref st), (.ref ai), (.double (4607182418800017408 : UInt64))]) (rest := [(.ref x)]) (W := 1) (own_mk l Z a0 ⟨hb0.b, Ts1_7.heap.size⟩ hw x st ai 4607182418800017408 ca0 ca1 ca2 li _) (by decide) (by decide) (by decide) (by decide) (g := (mkF m 47 #[.val (.int xa), .val (.int xb), .val (.int xc), .val (.ref ai), .val (.ref li), .val (.int (0 : Int32)), .val (.int (0 : Int32)), .val (.int (1 : Int32)), .unset] [(.double (4607182418800017408 : UInt64)), (.ref ai), (.ref st), (.ref x), (.ref x)])) rfl (by rw [hml]; rfl) (lenOf own_pd3 rfl) rfl (by show 2 * 0 + _ ≤ _; exact Nat.le_of_eq rfl) (hb hby at_47)
  obtain ⟨y, rfl, rfl⟩ := qs1_8
  change own_S _ _ _ _ _ _ _ _ _ _ _ _ _ _ [(ai, own_A .double [.double ca0, .double ca1, .double ca2]), (li, own_A .double [.double lo0, .double lo1, .double lo2]), (x, own_O "com/example/placewright/placewright/model/MachineType" [("com/example/placewright/placewright/model/MachineType", "name", "Ljava/lang/String;", .ref st), ("com/example/placewright/placewright/model/MachineType", "capacity", "[D", .ref y), ("com/example/placewright/placewright/model/MachineType", "pricePerHour", "D", .double (4607182418800017408 : UInt64))]), (y, own_A .double [.double ca0, .double ca1, .double ca2])] _ _ at Hs1_8
  obtain ⟨Ts1_9, vs1_9_, css1_9_, qs1_9, Hs1_9, sts1_9⟩ := own_callV Hs1_8 hx hZ1 hown1 (hw _ (List.mem_of_getElem? (i := 38) rfl)) (hw _ (List.mem_of_getElem? (i := 39) rfl)) (hw _ (List.mem_of_getElem? (i := 41) rfl)) (hw _ (List.mem_of_getElem? (i := 40) rfl)) (hw _ (List.mem_of_getElem? (i := 8) rfl)) (hw _ (List.mem_of_getElem? (i := 42) rfl)) (by decide) (x := x) 2 rfl (argsL := [(.ref li)]) (rest := []) (W := 0) (own_holds0 l Z a0 ⟨hb0.b, Ts1_7.heap.size⟩ hw x li ai st y _ 4607182418800017408 ca0 ca1 ca2 lo0 lo1 lo2 nc0 hc0) (by decide) (by decide) (by decide) (by decide) (g := (mkF m 56 #[.val (.int xa), .val (.int xb), .val (.int xc), .val (.ref ai), .val (.ref li), .val (.int (0 : Int32)), .val (.int (0 : Int32)), .val (.int (1 : Int32)), .val (.ref x)] [(.ref li), (.ref x)])) rfl (by rw [hml]; rfl) (lenOf own_pd4 rfl) rfl (by show 2 * 0 + _ ≤ _; exact Nat.le_of_eq rfl) (hb hby at_56)
  obtain ⟨rfl, rfl⟩ := qs1_9
  change own_S _ _ _ _ _ _ _ _ _ _ _ _ _ _ [(ai, own_A .double [.double ca0, .double ca1, .double ca2]), (li, own_A .double [.double lo0, .double lo1, .double lo2]), (x, own_O "com/example/placewright/placewright/model/MachineType" [("com/example/placewright/placewright/model/MachineType", "name", "Ljava/lang/String;", .ref st), ("com/example/placewright/placewright/model/MachineType", "capacity", "[D", .ref y), ("com/example/placewright/placewright/model/MachineType", "pricePerHour", "D", .double (4607182418800017408 : UInt64))]), (y, own_A .double [.double ca0, .double ca1, .double ca2])] _ _ at Hs1_9
  refine ⟨Ts1_7.vm, Ts1_7.heap.size, _, _, _, _, 87, #[.val (.int xa), .val (.int xb), .val (.int xc), .val (.ref ai), .val (.ref li), .val (.int (0 : Int32)), .val (.int (0 : Int32)), .val (.int (1 : Int32)), .val (.ref x)], hS1, hfl1, Hs1_9, by decide, by decide, Or.inr ⟨.boolean, (.int (1 : Int32)), [], .ireturn, rfl, rfl, at_87, own_retZ (Or.inr rfl), fun target q => ?_⟩⟩
  refine own_go H0 hx hZ hown hby hw own_K0_ok (own_s1_0 xa xb xc) _ ?_
  refine sts1_1 _ ?_
  refine own_go Hs1_1 hx hZ hown hby hw own_K0_ok (own_s1_1 xa xb xc ai) _ ?_
  refine own_go Hs1_1 hx hZ hown hby hw own_K0_ok (own_s1_2 xa xb xc ai) _ ?_
  refine sts1_2 _ ?_
  refine own_go Hs1_2 hx hZ hown hby hw own_K0_ok (own_s1_3 xa xb xc ai li) _ ?_
  refine sts1_3 _ ?_
  refine own_go Hs1_3 hx hZ hown hby hw own_K0_ok (own_s1_4 xa xb xc ai li) _ ?_
  refine sts1_4 _ ?_
  refine own_go Hs1_4 hx hZ hown hby hw own_K0_ok (own_s1_5 xa xb xc ai li) _ ?_
  refine sts1_5 _ ?_
  refine own_go Hs1_5 hx hZ hown hby hw own_K0_ok (own_s1_6 xa xb xc ai li) _ ?_
  refine sts1_6 _ ?_
  refine own_go Hs1_6 hx hZ hown hby hw own_K0_ok (own_s1_7 xa xb xc ai li x) _ ?_
  refine sts1_7 _ ?_
  refine own_go Hs1_7 hx hZ1 hown1 hby hw own_K0_ok (own_s1_8 xa xb xc ai li st x) _ ?_
  refine sts1_8 _ ?_
  refine own_go Hs1_8 hx hZ1 hown1 hby hw own_K0_ok (own_s1_9 xa xb xc ai li x) _ ?_
  refine sts1_9 _ ?_
  refine own_go Hs1_9 hx hZ1 hown1 hby hw own_K0_ok (own_s1_10 xa xb xc ai li x) _ ?_
  exact q
theorem own_s2_0 (xa : Int32) (xb : Int32) (xc : Int32) :
    own_Go own_K0 code 0 #[.val (.int xa), .val (.int xb), .val (.int xc), .unset, .unset, .unset, .unset, .unset, .unset] [] 1 #[.val (.int xa), .val (.int xb), .val (.int xc), .unset, .unset, .unset, .unset, .unset, .unset] [(.int (3 : Int32))] := by
  refine own_iconst (v := 3) (pc2 := 1) at_0 rfl rfl ?_
  exact own_refl
theorem own_s2_1 (xa : Int32) (xb : Int32) (xc : Int32) (ai : Addr) :
    own_Go own_K0 code 3 #[.val (.int xa), .val (.int xb), .val (.int xc), .unset, .unset, .unset, .unset, .unset, .unset] [(.ref ai)] 4 #[.val (.int xa), .val (.int xb), .val (.int xc), .val (.ref ai), .unset, .unset, .unset, .unset, .unset] [] := by
  refine own_astoreN (pc2 := 4) at_3 rfl rfl (L' := #[.val (.int xa), .val (.int xb), .val (.int xc), .val (.ref ai), .unset, .unset, .unset, .unset, .unset]) rfl ?_
  exact own_refl
theorem own_s2_2 (xa : Int32) (xb : Int32) (xc : Int32) (ai : Addr) :
    own_Go own_K0 code 4 #[.val (.int xa), .val (.int xb), .val (.int xc), .val (.ref ai), .unset, .unset, .unset, .unset, .unset] [] 5 #[.val (.int xa), .val (.int xb), .val (.int xc), .val (.ref ai), .unset, .unset, .unset, .unset, .unset] [(.int (3 : Int32))] := by
  refine own_iconst (v := 3) (pc2 := 5) at_4 rfl rfl ?_
  exact own_refl
theorem own_s2_3 (xa : Int32) (xb : Int32) (xc : Int32) (ai : Addr) (li : Addr) :
    own_Go own_K0 code 7 #[.val (.int xa), .val (.int xb), .val (.int xc), .val (.ref ai), .unset, .unset, .unset, .unset, .unset] [(.ref li)] 14 #[.val (.int xa), .val (.int xb), .val (.int xc), .val (.ref ai), .val (.ref li), .unset, .unset, .unset, .unset] [(.int (0 : Int32)), (.ref li), (.ref ai), (.int xa)] := by
  refine own_astore (pc2 := 9) at_7 rfl rfl (L' := #[.val (.int xa), .val (.int xb), .val (.int xc), .val (.ref ai), .val (.ref li), .unset, .unset, .unset, .unset]) rfl ?_
  refine own_iloadN (pc2 := 10) at_9 rfl rfl ?_
  refine own_aloadN (pc2 := 11) at_10 rfl rfl rfl ?_
  refine own_aload (pc2 := 13) at_11 rfl rfl rfl ?_
  refine own_iconst (v := 0) (pc2 := 14) at_13 rfl rfl ?_
  exact own_refl
theorem own_s2_4 (xa : Int32) (xb : Int32) (xc : Int32) (ai : Addr) (li : Addr) :
    own_Go own_K0 code 17 #[.val (.int xa), .val (.int xb), .val (.int xc), .val (.ref ai), .val (.ref li), .unset, .unset, .unset, .unset] [(.int (0 : Int32))] 24 #[.val (.int xa), .val (.int xb), .val (.int xc), .val (.ref ai), .val (.ref li), .val (.int (0 : Int32)), .unset, .unset, .unset] [(.int (1 : Int32)), (.ref li), (.ref ai), (.int xb)] := by
  refine own_istore (pc2 := 19) at_17 rfl (L' := #[.val (.int xa), .val (.int xb), .val (.int xc), .val (.ref ai), .val (.ref li), .val (.int (0 : Int32)), .unset, .unset, .unset]) rfl ?_
  refine own_iloadN (pc2 := 20) at_19 rfl rfl ?_
  refine own_aloadN (pc2 := 21) at_20 rfl rfl rfl ?_
  refine own_aload (pc2 := 23) at_21 rfl rfl rfl ?_
  refine own_iconst (v := 1) (pc2 := 24) at_23 rfl rfl ?_
  exact own_refl
theorem own_s2_5 (xa : Int32) (xb : Int32) (xc : Int32) (ai : Addr) (li : Addr) :
    own_Go own_K0 code 27 #[.val (.int xa), .val (.int xb), .val (.int xc), .val (.ref ai), .val (.ref li), .val (.int (0 : Int32)), .unset, .unset, .unset] [(.int (1 : Int32))] 34 #[.val (.int xa), .val (.int xb), .val (.int xc), .val (.ref ai), .val (.ref li), .val (.int (0 : Int32)), .val (.int (1 : Int32)), .unset, .unset] [(.int (2 : Int32)), (.ref li), (.ref ai), (.int xc)] := by
  refine own_istore (pc2 := 29) at_27 rfl (L' := #[.val (.int xa), .val (.int xb), .val (.int xc), .val (.ref ai), .val (.ref li), .val (.int (0 : Int32)), .val (.int (1 : Int32)), .unset, .unset]) rfl ?_
  refine own_iloadN (pc2 := 30) at_29 rfl rfl ?_
  refine own_aloadN (pc2 := 31) at_30 rfl rfl rfl ?_
  refine own_aload (pc2 := 33) at_31 rfl rfl rfl ?_
  refine own_iconst (v := 2) (pc2 := 34) at_33 rfl rfl ?_
  exact own_refl
theorem own_s2_6 (xa : Int32) (xb : Int32) (xc : Int32) (ai : Addr) (li : Addr) :
    own_Go own_K0 code 37 #[.val (.int xa), .val (.int xb), .val (.int xc), .val (.ref ai), .val (.ref li), .val (.int (0 : Int32)), .val (.int (1 : Int32)), .unset, .unset] [(.int (0 : Int32))] 39 #[.val (.int xa), .val (.int xb), .val (.int xc), .val (.ref ai), .val (.ref li), .val (.int (0 : Int32)), .val (.int (1 : Int32)), .val (.int (0 : Int32)), .unset] [] := by
  refine own_istore (pc2 := 39) at_37 rfl (L' := #[.val (.int xa), .val (.int xb), .val (.int xc), .val (.ref ai), .val (.ref li), .val (.int (0 : Int32)), .val (.int (1 : Int32)), .val (.int (0 : Int32)), .unset]) rfl ?_
  exact own_refl
theorem own_s2_7 (xa : Int32) (xb : Int32) (xc : Int32) (ai : Addr) (li : Addr) (x : Addr) :
    own_Go own_K0 code 42 #[.val (.int xa), .val (.int xb), .val (.int xc), .val (.ref ai), .val (.ref li), .val (.int (0 : Int32)), .val (.int (1 : Int32)), .val (.int (0 : Int32)), .unset] [(.ref x)] 43 #[.val (.int xa), .val (.int xb), .val (.int xc), .val (.ref ai), .val (.ref li), .val (.int (0 : Int32)), .val (.int (1 : Int32)), .val (.int (0 : Int32)), .unset] [(.ref x), (.ref x)] := by
  refine own_dup (pc2 := 43) at_42 rfl rfl ?_
  exact own_refl
theorem own_s2_8 (xa : Int32) (xb : Int32) (xc : Int32) (ai : Addr) (li : Addr) (st : Addr) (x : Addr) :
    own_Go own_K0 code 45 #[.val (.int xa), .val (.int xb), .val (.int xc), .val (.ref ai), .val (.ref li), .val (.int (0 : Int32)), .val (.int (1 : Int32)), .val (.int (0 : Int32)), .unset] [(.ref st), (.ref x), (.ref x)] 47 #[.val (.int xa), .val (.int xb), .val (.int xc), .val (.ref ai), .val (.ref li), .val (.int (0 : Int32)), .val (.int (1 : Int32)), .val (.int (0 : Int32)), .unset] [(.double (4607182418800017408 : UInt64)), (.ref ai), (.ref st), (.ref x), (.ref x)] := by
  refine own_aloadN (pc2 := 46) at_45 rfl rfl rfl ?_
  refine own_dconst1 (v := 4607182418800017408) (pc2 := 47) at_46 rfl rfl ?_
  exact own_refl
theorem own_s2_9 (xa : Int32) (xb : Int32) (xc : Int32) (ai : Addr) (li : Addr) (x : Addr) :
    own_Go own_K0 code 50 #[.val (.int xa), .val (.int xb), .val (.int xc), .val (.ref ai), .val (.ref li), .val (.int (0 : Int32)), .val (.int (1 : Int32)), .val (.int (0 : Int32)), .unset] [(.ref x)] 56 #[.val (.int xa), .val (.int xb), .val (.int xc), .val (.ref ai), .val (.ref li), .val (.int (0 : Int32)), .val (.int (1 : Int32)), .val (.int (0 : Int32)), .val (.ref x)] [(.ref li), (.ref x)] := by
  refine own_astore (pc2 := 52) at_50 rfl rfl (L' := #[.val (.int xa), .val (.int xb), .val (.int xc), .val (.ref ai), .val (.ref li), .val (.int (0 : Int32)), .val (.int (1 : Int32)), .val (.int (0 : Int32)), .val (.ref x)]) rfl ?_
  refine own_aload (pc2 := 54) at_52 rfl rfl rfl ?_
  refine own_aload (pc2 := 56) at_54 rfl rfl rfl ?_
  exact own_refl
theorem own_s2_10 (xa : Int32) (xb : Int32) (xc : Int32) (ai : Addr) (li : Addr) (x : Addr) :
    own_Go own_K0 code 59 #[.val (.int xa), .val (.int xb), .val (.int xc), .val (.ref ai), .val (.ref li), .val (.int (0 : Int32)), .val (.int (1 : Int32)), .val (.int (0 : Int32)), .val (.ref x)] [(.int (0 : Int32))] 87 #[.val (.int xa), .val (.int xb), .val (.int xc), .val (.ref ai), .val (.ref li), .val (.int (0 : Int32)), .val (.int (1 : Int32)), .val (.int (0 : Int32)), .val (.ref x)] [(.int (1 : Int32))] := by
  refine own_iload (pc2 := 61) at_59 rfl rfl ?_
  refine own_ifYes (pc' := 78) at_61 (by decide) (by decide) (by decide) ?_
  refine own_iconst (v := 0) (pc2 := 79) at_78 rfl rfl ?_
  refine own_icmpNo (pc2 := 82) at_79 rfl (by decide) ?_
  refine own_iconst (v := 1) (pc2 := 83) at_82 rfl rfl ?_
  refine own_goto (pc' := 87) at_83 (by decide) (by decide) ?_
  exact own_refl
set_option maxRecDepth 65536 in
set_option maxHeartbeats 40000000 in
theorem own_law2 (l : Launch) (Z : State) (a0 : Array Value) (hb0 : own_Base) (hw : ∀ d ∈ tables_1, d.before a0 Z = true) (xa : Int32) (xb : Int32) (xc : Int32) (h0 : ¬ own_T xa) (h1 : own_T xb) (h2 : ¬ own_T xc) :
    own_MetW l Z a0 hb0 x code maxLocals ret tables_1 room_1 #[(.int xa), (.int xb), (.int xc)] [] (fun v _ => v = some (.int 1)) := by
  refine own_met_ofW (L0 := #[.val (.int xa), .val (.int xb), .val (.int xc), .unset, .unset, .unset, .unset, .unset, .unset]) (plainFor_of_name own_pn0) (fun m => own_ef0 m xa xb xc) ?_
  intro p e s m below meth c T0 hx hZ hown hby hml hnm H0
  have hown : s.vm.findClass "com/example/placewright/placewright/model/MachineTypeHolds334PinLaw" = some m.cls := hown
  have hml : c.maxLocals = 9 := hml
  obtain ⟨Ts2_1, ai, Hs2_1, sts2_1⟩ := own_newA H0 hx hZ (hw _ (List.mem_of_getElem? (i := 0) rfl)) (g := (mkF m 1 #[.val (.int xa), .val (.int xb), .val (.int xc), .unset, .unset, .unset, .unset, .unset, .unset] [(.int (3 : Int32))])) rfl (hb hby at_1) rfl (by decide) (cap := 3) (by decide) (by decide) (by decide) (by decide)
  change own_S _ _ _ _ _ _ _ _ _ _ _ _ _ _ [(ai, own_A .double [.double 0, .double 0, .double 0])] _ _ at Hs2_1
  obtain ⟨Ts2_2, li, Hs2_2, sts2_2⟩ := own_newA Hs2_1 hx hZ (hw _ (List.mem_of_getElem? (i := 0) rfl)) (g := (mkF m 5 #[.val (.int xa), .val (.int xb), .val (.int xc), .val (.ref ai), .unset, .unset, .unset, .unset, .unset] [(.int (3 : Int32))])) rfl (hb hby at_5) rfl (by decide) (cap := 3) (by decide) (by decide) (by decide) (by decide)
  change own_S _ _ _ _ _ _ _ _ _ _ _ _ _ _ [(ai, own_A .double [.double 0, .double 0, .double 0]), (li, own_A .double [.double 0, .double 0, .double 0])] _ _ at Hs2_2
  obtain ⟨Ts2_3, vs2_3_, css2_3_, qs2_3, Hs2_3, sts2_3⟩ := own_callS Hs2_2 hx hZ hown (hw _ (List.mem_of_getElem? (i := 1) rfl)) (hw _ (List.mem_of_getElem? (i := 2) rfl)) (hw _ (List.mem_of_getElem? (i := 3) rfl)) (hw _ (List.mem_of_getElem? (i := 4) rfl)) (by decide) (argsL := [(.int xa), (.ref ai), (.ref li), (.int (0 : Int32))]) (rest := []) (W := 0) (own_fill0F l Z a0 hb0 hw xa ai li (0 : UInt64) (0 : UInt64) (0 : UInt64) (0 : UInt64) (0 : UInt64) (0 : UInt64) h0) (by decide) (by decide) (by decide) (by decide) (g := (mkF m 14 #[.val (.int xa), .val (.int xb), .val (.int xc), .val (.ref ai), .val (.ref li), .unset, .unset, .unset, .unset] [(.int (0 : Int32)), (.ref li), (.ref ai), (.int xa)])) rfl (by rw [hml]; rfl) (lenOf own_pd2 rfl) rfl (by show 2 * 0 + _ ≤ _; exact Nat.le_of_eq rfl) (hb hby at_14)
  obtain ⟨ca0, lo0, nc0, hc0, rfl, rfl⟩ := qs2_3
  change own_S _ _ _ _ _ _ _ _ _ _ _ _ _ _ [(ai, own_A .double [.double ca0, .double (0 : UInt64), .double (0 : UInt64)]), (li, own_A .double [.double lo0, .double (0 : UInt64), .double (0 : UInt64)])] _ _ at Hs2_3
  obtain ⟨Ts2_4, vs2_4_, css2_4_, qs2_4, Hs2_4, sts2_4⟩ := own_callS Hs2_3 hx hZ hown (hw _ (List.mem_of_getElem? (i := 1) rfl)) (hw _ (List.mem_of_getElem? (i := 2) rfl)) (hw _ (List.mem_of_getElem? (i := 3) rfl)) (hw _ (List.mem_of_getElem? (i := 4) rfl)) (by decide) (argsL := [(.int xb), (.ref ai), (.ref li), (.int (1 : Int32))]) (rest := []) (W := 0) (own_fill1T l Z a0 hb0 hw xb ai li ca0 (0 : UInt64) (0 : UInt64) lo0 (0 : UInt64) (0 : UInt64) h1) (by decide) (by decide) (by decide) (by decide) (g := (mkF m 24 #[.val (.int xa), .val (.int xb), .val (.int xc), .val (.ref ai), .val (.ref li), .val (.int (0 : Int32)), .unset, .unset, .unset] [(.int (1 : Int32)), (.ref li), (.ref ai), (.int xb)])) rfl (by rw [hml]; rfl) (lenOf own_pd2 rfl) rfl (by show 2 * 0 + _ ≤ _; exact Nat.le_of_eq rfl) (hb hby at_24)
  obtain ⟨ca1, lo1, nc1, hc1, rfl, rfl⟩ := qs2_4
  change own_S _ _ _ _ _ _ _ _ _ _ _ _ _ _ [(ai, own_A .double [.double ca0, .double ca1, .double (0 : UInt64)]), (li, own_A .double [.double lo0, .double lo1, .double (0 : UInt64)])] _ _ at Hs2_4
  obtain ⟨Ts2_5, vs2_5_, css2_5_, qs2_5, Hs2_5, sts2_5⟩ := own_callS Hs2_4 hx hZ hown (hw _ (List.mem_of_getElem? (i := 1) rfl)) (hw _ (List.mem_of_getElem? (i := 2) rfl)) (hw _ (List.mem_of_getElem? (i := 3) rfl)) (hw _ (List.mem_of_getElem? (i := 4) rfl)) (by decide) (argsL := [(.int xc), (.ref ai), (.ref li), (.int (2 : Int32))]) (rest := []) (W := 0) (own_fill2F l Z a0 hb0 hw xc ai li ca0 ca1 (0 : UInt64) lo0 lo1 (0 : UInt64) h2) (by decide) (by decide) (by decide) (by decide) (g := (mkF m 34 #[.val (.int xa), .val (.int xb), .val (.int xc), .val (.ref ai), .val (.ref li), .val (.int (0 : Int32)), .val (.int (1 : Int32)), .unset, .unset] [(.int (2 : Int32)), (.ref li), (.ref ai), (.int xc)])) rfl (by rw [hml]; rfl) (lenOf own_pd2 rfl) rfl (by show 2 * 0 + _ ≤ _; exact Nat.le_of_eq rfl) (hb hby at_34)
  obtain ⟨ca2, lo2, nc2, hc2, rfl, rfl⟩ := qs2_5
  change own_S _ _ _ _ _ _ _ _ _ _ _ _ _ _ [(ai, own_A .double [.double ca0, .double ca1, .double ca2]), (li, own_A .double [.double lo0, .double lo1, .double lo2])] _ _ at Hs2_5
  obtain ⟨Ts2_6, x, Hs2_6, sts2_6⟩ := own_newO Hs2_5 hx hZ hown (hw _ (List.mem_of_getElem? (i := 6) rfl)) (hw _ (List.mem_of_getElem? (i := 7) rfl)) (hw _ (List.mem_of_getElem? (i := 8) rfl)) [("com/example/placewright/placewright/model/MachineType", "name", "Ljava/lang/String;", .null), ("com/example/placewright/placewright/model/MachineType", "capacity", "[D", .null), ("com/example/placewright/placewright/model/MachineType", "pricePerHour", "D", .double 0)] (by
      intro f hf
      simp only [List.mem_cons, List.not_mem_nil, or_false] at hf
      rcases hf with rfl | rfl | rfl
      · exact ⟨Or.inr (hw _ (List.mem_of_getElem? (i := 24) rfl)), (.object "java/lang/String"), by decide, rfl⟩
      · exact ⟨Or.inr (hw _ (List.mem_of_getElem? (i := 35) rfl)), (.array .double), by decide, rfl⟩
      · exact ⟨Or.inr (hw _ (List.mem_of_getElem? (i := 37) rfl)), .double, by decide, rfl⟩) (by decide) (g := (mkF m 39 #[.val (.int xa), .val (.int xb), .val (.int xc), .val (.ref ai), .val (.ref li), .val (.int (0 : Int32)), .val (.int (1 : Int32)), .val (.int (0 : Int32)), .unset] [])) rfl (hb hby at_39) (by decide) (by decide)
  change own_S _ _ _ _ _ _ _ _ _ _ _ _ _ _ [(ai, own_A .double [.double ca0, .double ca1, .double ca2]), (li, own_A .double [.double lo0, .double lo1, .double lo2]), (x, own_O "com/example/placewright/placewright/model/MachineType" [("com/example/placewright/placewright/model/MachineType", "name", "Ljava/lang/String;", .null), ("com/example/placewright/placewright/model/MachineType", "capacity", "[D", .null), ("com/example/placewright/placewright/model/MachineType", "pricePerHour", "D", .double 0)])] _ _ at Hs2_6
  obtain ⟨st, Ts2_7, Hs2_7, hS1, hfl1, hZ1, hown1, sts2_7⟩ := own_ldcS Hs2_6 hx hZ hown (hw _ (List.mem_of_getElem? (i := 9) rfl)) (own_strAtoms hw) (g := (mkF m 43 #[.val (.int xa), .val (.int xb), .val (.int xc), .val (.ref ai), .val (.ref li), .val (.int (0 : Int32)), .val (.int (1 : Int32)), .val (.int (0 : Int32)), .unset] [(.ref x), (.ref x)])) rfl (hb hby at_43) (N := 4) (by decide) (by decide) (by decide) (by decide)
  obtain ⟨Ts2_8, vs2_8_, css2_8_, qs2_8, Hs2_8, sts2_8⟩ := own_callI Hs2_7 hx hZ1 hown1 rfl (hw _ (List.mem_of_getElem? (i := 17) rfl)) (hw _ (List.mem_of_getElem? (i := 18) rfl)) (hw _ (List.mem_of_getElem? (i := 8) rfl)) (hw _ (List.mem_of_getElem? (i := 19) rfl)) (by decide) (x := x) (argsL := [(.ref st), (.ref ai), (.double (4607182418800017408 : UInt64))]) (rest := [(.ref x)]) (W := 1) (own_mk l Z a0 ⟨hb0.b, Ts2_7.heap.size⟩ hw x st ai 4607182418800017408 ca0 ca1 ca2 li _) (by decide) (by decide) (by decide) (by decide) (g := (mkF m 47 #[.val (.int xa), .val (.int xb), .val (.int xc), .val (.ref ai), .val (.ref li), .val (.int (0 : Int32)), .val (.int (1 : Int32)), .val (.int (0 : Int32)), .unset] [(.double (4607182418800017408 : UInt64)), (.ref ai), (.ref st), (.ref x), (.ref x)])) rfl (by rw [hml]; rfl) (lenOf own_pd3 rfl) rfl (by show 2 * 0 + _ ≤ _; exact Nat.le_of_eq rfl) (hb hby at_47)
  obtain ⟨y, rfl, rfl⟩ := qs2_8
  change own_S _ _ _ _ _ _ _ _ _ _ _ _ _ _ [(ai, own_A .double [.double ca0, .double ca1, .double ca2]), (li, own_A .double [.double lo0, .double lo1, .double lo2]), (x, own_O "com/example/placewright/placewright/model/MachineType" [("com/example/placewright/placewright/model/MachineType", "name", "Ljava/lang/String;", .ref st), ("com/example/placewright/placewright/model/MachineType", "capacity", "[D", .ref y), ("com/example/placewright/placewright/model/MachineType", "pricePerHour", "D", .double (4607182418800017408 : UInt64))]), (y, own_A .double [.double ca0, .double ca1, .double ca2])] _ _ at Hs2_8
  obtain ⟨Ts2_9, vs2_9_, css2_9_, qs2_9, Hs2_9, sts2_9⟩ := own_callV Hs2_8 hx hZ1 hown1 (hw _ (List.mem_of_getElem? (i := 38) rfl)) (hw _ (List.mem_of_getElem? (i := 39) rfl)) (hw _ (List.mem_of_getElem? (i := 41) rfl)) (hw _ (List.mem_of_getElem? (i := 40) rfl)) (hw _ (List.mem_of_getElem? (i := 8) rfl)) (hw _ (List.mem_of_getElem? (i := 42) rfl)) (by decide) (x := x) 2 rfl (argsL := [(.ref li)]) (rest := []) (W := 0) (own_holds0 l Z a0 ⟨hb0.b, Ts2_7.heap.size⟩ hw x li ai st y _ 4607182418800017408 ca0 ca1 ca2 lo0 lo1 lo2 nc0 hc0) (by decide) (by decide) (by decide) (by decide) (g := (mkF m 56 #[.val (.int xa), .val (.int xb), .val (.int xc), .val (.ref ai), .val (.ref li), .val (.int (0 : Int32)), .val (.int (1 : Int32)), .val (.int (0 : Int32)), .val (.ref x)] [(.ref li), (.ref x)])) rfl (by rw [hml]; rfl) (lenOf own_pd4 rfl) rfl (by show 2 * 0 + _ ≤ _; exact Nat.le_of_eq rfl) (hb hby at_56)
  obtain ⟨rfl, rfl⟩ := qs2_9
  change own_S _ _ _ _ _ _ _ _ _ _ _ _ _ _ [(ai, own_A .double [.double ca0, .double ca1, .double ca2]), (li, own_A .double [.double lo0, .double lo1, .double lo2]), (x, own_O "com/example/placewright/placewright/model/MachineType" [("com/example/placewright/placewright/model/MachineType", "name", "Ljava/lang/String;", .ref st), ("com/example/placewright/placewright/model/MachineType", "capacity", "[D", .ref y), ("com/example/placewright/placewright/model/MachineType", "pricePerHour", "D", .double (4607182418800017408 : UInt64))]), (y, own_A .double [.double ca0, .double ca1, .double ca2])] _ _ at Hs2_9
  refine ⟨Ts2_7.vm, Ts2_7.heap.size, _, _, _, _, 87, #[.val (.int xa), .val (.int xb), .val (.int xc), .val (.ref ai), .val (.ref li), .val (.int (0 : Int32)), .val (.int (1 : Int32)), .val (.int (0 : Int32)), .val (.ref x)], hS1, hfl1, Hs2_9, by decide, by decide, Or.inr ⟨.boolean, (.int (1 : Int32)), [], .ireturn, rfl, rfl, at_87, own_retZ (Or.inr rfl), fun target q => ?_⟩⟩
  refine own_go H0 hx hZ hown hby hw own_K0_ok (own_s2_0 xa xb xc) _ ?_
  refine sts2_1 _ ?_
  refine own_go Hs2_1 hx hZ hown hby hw own_K0_ok (own_s2_1 xa xb xc ai) _ ?_
  refine own_go Hs2_1 hx hZ hown hby hw own_K0_ok (own_s2_2 xa xb xc ai) _ ?_
  refine sts2_2 _ ?_
  refine own_go Hs2_2 hx hZ hown hby hw own_K0_ok (own_s2_3 xa xb xc ai li) _ ?_
  refine sts2_3 _ ?_
  refine own_go Hs2_3 hx hZ hown hby hw own_K0_ok (own_s2_4 xa xb xc ai li) _ ?_
  refine sts2_4 _ ?_
  refine own_go Hs2_4 hx hZ hown hby hw own_K0_ok (own_s2_5 xa xb xc ai li) _ ?_
  refine sts2_5 _ ?_
  refine own_go Hs2_5 hx hZ hown hby hw own_K0_ok (own_s2_6 xa xb xc ai li) _ ?_
  refine sts2_6 _ ?_
  refine own_go Hs2_6 hx hZ hown hby hw own_K0_ok (own_s2_7 xa xb xc ai li x) _ ?_
  refine sts2_7 _ ?_
  refine own_go Hs2_7 hx hZ1 hown1 hby hw own_K0_ok (own_s2_8 xa xb xc ai li st x) _ ?_
  refine sts2_8 _ ?_
  refine own_go Hs2_8 hx hZ1 hown1 hby hw own_K0_ok (own_s2_9 xa xb xc ai li x) _ ?_
  refine sts2_9 _ ?_
  refine own_go Hs2_9 hx hZ1 hown1 hby hw own_K0_ok (own_s2_10 xa xb xc ai li x) _ ?_
  exact q
theorem own_s3_0 (xa : Int32) (xb : Int32) (xc : Int32) :
    own_Go own_K0 code 0 #[.val (.int xa), .val (.int xb), .val (.int xc), .unset, .unset, .unset, .unset, .unset, .unset] [] 1 #[.val (.int xa), .val (.int xb), .val (.int xc), .unset, .unset, .unset, .unset, .unset, .unset] [(.int (3 : Int32))] := by
  refine own_iconst (v := 3) (pc2 := 1) at_0 rfl rfl ?_
  exact own_refl
theorem own_s3_1 (xa : Int32) (xb : Int32) (xc : Int32) (ai : Addr) :
    own_Go own_K0 code 3 #[.val (.int xa), .val (.int xb), .val (.int xc), .unset, .unset, .unset, .unset, .unset, .unset] [(.ref ai)] 4 #[.val (.int xa), .val (.int xb), .val (.int xc), .val (.ref ai), .unset, .unset, .unset, .unset, .unset] [] := by
  refine own_astoreN (pc2 := 4) at_3 rfl rfl (L' := #[.val (.int xa), .val (.int xb), .val (.int xc), .val (.ref ai), .unset, .unset, .unset, .unset, .unset]) rfl ?_
  exact own_refl
theorem own_s3_2 (xa : Int32) (xb : Int32) (xc : Int32) (ai : Addr) :
    own_Go own_K0 code 4 #[.val (.int xa), .val (.int xb), .val (.int xc), .val (.ref ai), .unset, .unset, .unset, .unset, .unset] [] 5 #[.val (.int xa), .val (.int xb), .val (.int xc), .val (.ref ai), .unset, .unset, .unset, .unset, .unset] [(.int (3 : Int32))] := by
  refine own_iconst (v := 3) (pc2 := 5) at_4 rfl rfl ?_
  exact own_refl
theorem own_s3_3 (xa : Int32) (xb : Int32) (xc : Int32) (ai : Addr) (li : Addr) :
    own_Go own_K0 code 7 #[.val (.int xa), .val (.int xb), .val (.int xc), .val (.ref ai), .unset, .unset, .unset, .unset, .unset] [(.ref li)] 14 #[.val (.int xa), .val (.int xb), .val (.int xc), .val (.ref ai), .val (.ref li), .unset, .unset, .unset, .unset] [(.int (0 : Int32)), (.ref li), (.ref ai), (.int xa)] := by
  refine own_astore (pc2 := 9) at_7 rfl rfl (L' := #[.val (.int xa), .val (.int xb), .val (.int xc), .val (.ref ai), .val (.ref li), .unset, .unset, .unset, .unset]) rfl ?_
  refine own_iloadN (pc2 := 10) at_9 rfl rfl ?_
  refine own_aloadN (pc2 := 11) at_10 rfl rfl rfl ?_
  refine own_aload (pc2 := 13) at_11 rfl rfl rfl ?_
  refine own_iconst (v := 0) (pc2 := 14) at_13 rfl rfl ?_
  exact own_refl
theorem own_s3_4 (xa : Int32) (xb : Int32) (xc : Int32) (ai : Addr) (li : Addr) :
    own_Go own_K0 code 17 #[.val (.int xa), .val (.int xb), .val (.int xc), .val (.ref ai), .val (.ref li), .unset, .unset, .unset, .unset] [(.int (0 : Int32))] 24 #[.val (.int xa), .val (.int xb), .val (.int xc), .val (.ref ai), .val (.ref li), .val (.int (0 : Int32)), .unset, .unset, .unset] [(.int (1 : Int32)), (.ref li), (.ref ai), (.int xb)] := by
  refine own_istore (pc2 := 19) at_17 rfl (L' := #[.val (.int xa), .val (.int xb), .val (.int xc), .val (.ref ai), .val (.ref li), .val (.int (0 : Int32)), .unset, .unset, .unset]) rfl ?_
  refine own_iloadN (pc2 := 20) at_19 rfl rfl ?_
  refine own_aloadN (pc2 := 21) at_20 rfl rfl rfl ?_
  refine own_aload (pc2 := 23) at_21 rfl rfl rfl ?_
  refine own_iconst (v := 1) (pc2 := 24) at_23 rfl rfl ?_
  exact own_refl
theorem own_s3_5 (xa : Int32) (xb : Int32) (xc : Int32) (ai : Addr) (li : Addr) :
    own_Go own_K0 code 27 #[.val (.int xa), .val (.int xb), .val (.int xc), .val (.ref ai), .val (.ref li), .val (.int (0 : Int32)), .unset, .unset, .unset] [(.int (1 : Int32))] 34 #[.val (.int xa), .val (.int xb), .val (.int xc), .val (.ref ai), .val (.ref li), .val (.int (0 : Int32)), .val (.int (1 : Int32)), .unset, .unset] [(.int (2 : Int32)), (.ref li), (.ref ai), (.int xc)] := by
  refine own_istore (pc2 := 29) at_27 rfl (L' := #[.val (.int xa), .val (.int xb), .val (.int xc), .val (.ref ai), .val (.ref li), .val (.int (0 : Int32)), .val (.int (1 : Int32)), .unset, .unset]) rfl ?_
  refine own_iloadN (pc2 := 30) at_29 rfl rfl ?_
  refine own_aloadN (pc2 := 31) at_30 rfl rfl rfl ?_
  refine own_aload (pc2 := 33) at_31 rfl rfl rfl ?_
  refine own_iconst (v := 2) (pc2 := 34) at_33 rfl rfl ?_
  exact own_refl
theorem own_s3_6 (xa : Int32) (xb : Int32) (xc : Int32) (ai : Addr) (li : Addr) :
    own_Go own_K0 code 37 #[.val (.int xa), .val (.int xb), .val (.int xc), .val (.ref ai), .val (.ref li), .val (.int (0 : Int32)), .val (.int (1 : Int32)), .unset, .unset] [(.int (1 : Int32))] 39 #[.val (.int xa), .val (.int xb), .val (.int xc), .val (.ref ai), .val (.ref li), .val (.int (0 : Int32)), .val (.int (1 : Int32)), .val (.int (1 : Int32)), .unset] [] := by
  refine own_istore (pc2 := 39) at_37 rfl (L' := #[.val (.int xa), .val (.int xb), .val (.int xc), .val (.ref ai), .val (.ref li), .val (.int (0 : Int32)), .val (.int (1 : Int32)), .val (.int (1 : Int32)), .unset]) rfl ?_
  exact own_refl
theorem own_s3_7 (xa : Int32) (xb : Int32) (xc : Int32) (ai : Addr) (li : Addr) (x : Addr) :
    own_Go own_K0 code 42 #[.val (.int xa), .val (.int xb), .val (.int xc), .val (.ref ai), .val (.ref li), .val (.int (0 : Int32)), .val (.int (1 : Int32)), .val (.int (1 : Int32)), .unset] [(.ref x)] 43 #[.val (.int xa), .val (.int xb), .val (.int xc), .val (.ref ai), .val (.ref li), .val (.int (0 : Int32)), .val (.int (1 : Int32)), .val (.int (1 : Int32)), .unset] [(.ref x), (.ref x)] := by
  refine own_dup (pc2 := 43) at_42 rfl rfl ?_
  exact own_refl
theorem own_s3_8 (xa : Int32) (xb : Int32) (xc : Int32) (ai : Addr) (li : Addr) (st : Addr) (x : Addr) :
    own_Go own_K0 code 45 #[.val (.int xa), .val (.int xb), .val (.int xc), .val (.ref ai), .val (.ref li), .val (.int (0 : Int32)), .val (.int (1 : Int32)), .val (.int (1 : Int32)), .unset] [(.ref st), (.ref x), (.ref x)] 47 #[.val (.int xa), .val (.int xb), .val (.int xc), .val (.ref ai), .val (.ref li), .val (.int (0 : Int32)), .val (.int (1 : Int32)), .val (.int (1 : Int32)), .unset] [(.double (4607182418800017408 : UInt64)), (.ref ai), (.ref st), (.ref x), (.ref x)] := by
  refine own_aloadN (pc2 := 46) at_45 rfl rfl rfl ?_
  refine own_dconst1 (v := 4607182418800017408) (pc2 := 47) at_46 rfl rfl ?_
  exact own_refl
theorem own_s3_9 (xa : Int32) (xb : Int32) (xc : Int32) (ai : Addr) (li : Addr) (x : Addr) :
    own_Go own_K0 code 50 #[.val (.int xa), .val (.int xb), .val (.int xc), .val (.ref ai), .val (.ref li), .val (.int (0 : Int32)), .val (.int (1 : Int32)), .val (.int (1 : Int32)), .unset] [(.ref x)] 56 #[.val (.int xa), .val (.int xb), .val (.int xc), .val (.ref ai), .val (.ref li), .val (.int (0 : Int32)), .val (.int (1 : Int32)), .val (.int (1 : Int32)), .val (.ref x)] [(.ref li), (.ref x)] := by
  refine own_astore (pc2 := 52) at_50 rfl rfl (L' := #[.val (.int xa), .val (.int xb), .val (.int xc), .val (.ref ai), .val (.ref li), .val (.int (0 : Int32)), .val (.int (1 : Int32)), .val (.int (1 : Int32)), .val (.ref x)]) rfl ?_
  refine own_aload (pc2 := 54) at_52 rfl rfl rfl ?_
  refine own_aload (pc2 := 56) at_54 rfl rfl rfl ?_
  exact own_refl
theorem own_s3_10 (xa : Int32) (xb : Int32) (xc : Int32) (ai : Addr) (li : Addr) (x : Addr) :
    own_Go own_K0 code 59 #[.val (.int xa), .val (.int xb), .val (.int xc), .val (.ref ai), .val (.ref li), .val (.int (0 : Int32)), .val (.int (1 : Int32)), .val (.int (1 : Int32)), .val (.ref x)] [(.int (0 : Int32))] 87 #[.val (.int xa), .val (.int xb), .val (.int xc), .val (.ref ai), .val (.ref li), .val (.int (0 : Int32)), .val (.int (1 : Int32)), .val (.int (1 : Int32)), .val (.ref x)] [(.int (1 : Int32))] := by
  refine own_iload (pc2 := 61) at_59 rfl rfl ?_
  refine own_ifYes (pc' := 78) at_61 (by decide) (by decide) (by decide) ?_
  refine own_iconst (v := 0) (pc2 := 79) at_78 rfl rfl ?_
  refine own_icmpNo (pc2 := 82) at_79 rfl (by decide) ?_
  refine own_iconst (v := 1) (pc2 := 83) at_82 rfl rfl ?_
  refine own_goto (pc' := 87) at_83 (by decide) (by decide) ?_
  exact own_refl
set_option maxRecDepth 65536 in
set_option maxHeartbeats 40000000 in
theorem own_law3 (l : Launch) (Z : State) (a0 : Array Value) (hb0 : own_Base) (hw : ∀ d ∈ tables_1, d.before a0 Z = true) (xa : Int32) (xb : Int32) (xc : Int32) (h0 : ¬ own_T xa) (h1 : own_T xb) (h2 : own_T xc) :
    own_MetW l Z a0 hb0 x code maxLocals ret tables_1 room_1 #[(.int xa), (.int xb), (.int xc)] [] (fun v _ => v = some (.int 1)) := by
  refine own_met_ofW (L0 := #[.val (.int xa), .val (.int xb), .val (.int xc), .unset, .unset, .unset, .unset, .unset, .unset]) (plainFor_of_name own_pn0) (fun m => own_ef0 m xa xb xc) ?_
  intro p e s m below meth c T0 hx hZ hown hby hml hnm H0
  have hown : s.vm.findClass "com/example/placewright/placewright/model/MachineTypeHolds334PinLaw" = some m.cls := hown
  have hml : c.maxLocals = 9 := hml
  obtain ⟨Ts3_1, ai, Hs3_1, sts3_1⟩ := own_newA H0 hx hZ (hw _ (List.mem_of_getElem? (i := 0) rfl)) (g := (mkF m 1 #[.val (.int xa), .val (.int xb), .val (.int xc), .unset, .unset, .unset, .unset, .unset, .unset] [(.int (3 : Int32))])) rfl (hb hby at_1) rfl (by decide) (cap := 3) (by decide) (by decide) (by decide) (by decide)
  change own_S _ _ _ _ _ _ _ _ _ _ _ _ _ _ [(ai, own_A .double [.double 0, .double 0, .double 0])] _ _ at Hs3_1
  obtain ⟨Ts3_2, li, Hs3_2, sts3_2⟩ := own_newA Hs3_1 hx hZ (hw _ (List.mem_of_getElem? (i := 0) rfl)) (g := (mkF m 5 #[.val (.int xa), .val (.int xb), .val (.int xc), .val (.ref ai), .unset, .unset, .unset, .unset, .unset] [(.int (3 : Int32))])) rfl (hb hby at_5) rfl (by decide) (cap := 3) (by decide) (by decide) (by decide) (by decide)
  change own_S _ _ _ _ _ _ _ _ _ _ _ _ _ _ [(ai, own_A .double [.double 0, .double 0, .double 0]), (li, own_A .double [.double 0, .double 0, .double 0])] _ _ at Hs3_2
  obtain ⟨Ts3_3, vs3_3_, css3_3_, qs3_3, Hs3_3, sts3_3⟩ := own_callS Hs3_2 hx hZ hown (hw _ (List.mem_of_getElem? (i := 1) rfl)) (hw _ (List.mem_of_getElem? (i := 2) rfl)) (hw _ (List.mem_of_getElem? (i := 3) rfl)) (hw _ (List.mem_of_getElem? (i := 4) rfl)) (by decide) (argsL := [(.int xa), (.ref ai), (.ref li), (.int (0 : Int32))]) (rest := []) (W := 0) (own_fill0F l Z a0 hb0 hw xa ai li (0 : UInt64) (0 : UInt64) (0 : UInt64) (0 : UInt64) (0 : UInt64) (0 : UInt64) h0) (by decide) (by decide) (by decide) (by decide) (g := (mkF m 14 #[.val (.int xa), .val (.int xb), .val (.int xc), .val (.ref ai), .val (.ref li), .unset, .unset, .unset, .unset] [(.int (0 : Int32)), (.ref li), (.ref ai), (.int xa)])) rfl (by rw [hml]; rfl) (lenOf own_pd2 rfl) rfl (by show 2 * 0 + _ ≤ _; exact Nat.le_of_eq rfl) (hb hby at_14)
  obtain ⟨ca0, lo0, nc0, hc0, rfl, rfl⟩ := qs3_3
  change own_S _ _ _ _ _ _ _ _ _ _ _ _ _ _ [(ai, own_A .double [.double ca0, .double (0 : UInt64), .double (0 : UInt64)]), (li, own_A .double [.double lo0, .double (0 : UInt64), .double (0 : UInt64)])] _ _ at Hs3_3
  obtain ⟨Ts3_4, vs3_4_, css3_4_, qs3_4, Hs3_4, sts3_4⟩ := own_callS Hs3_3 hx hZ hown (hw _ (List.mem_of_getElem? (i := 1) rfl)) (hw _ (List.mem_of_getElem? (i := 2) rfl)) (hw _ (List.mem_of_getElem? (i := 3) rfl)) (hw _ (List.mem_of_getElem? (i := 4) rfl)) (by decide) (argsL := [(.int xb), (.ref ai), (.ref li), (.int (1 : Int32))]) (rest := []) (W := 0) (own_fill1T l Z a0 hb0 hw xb ai li ca0 (0 : UInt64) (0 : UInt64) lo0 (0 : UInt64) (0 : UInt64) h1) (by decide) (by decide) (by decide) (by decide) (g := (mkF m 24 #[.val (.int xa), .val (.int xb), .val (.int xc), .val (.ref ai), .val (.ref li), .val (.int (0 : Int32)), .unset, .unset, .unset] [(.int (1 : Int32)), (.ref li), (.ref ai), (.int xb)])) rfl (by rw [hml]; rfl) (lenOf own_pd2 rfl) rfl (by show 2 * 0 + _ ≤ _; exact Nat.le_of_eq rfl) (hb hby at_24)
  obtain ⟨ca1, lo1, nc1, hc1, rfl, rfl⟩ := qs3_4
  change own_S _ _ _ _ _ _ _ _ _ _ _ _ _ _ [(ai, own_A .double [.double ca0, .double ca1, .double (0 : UInt64)]), (li, own_A .double [.double lo0, .double lo1, .double (0 : UInt64)])] _ _ at Hs3_4
  obtain ⟨Ts3_5, vs3_5_, css3_5_, qs3_5, Hs3_5, sts3_5⟩ := own_callS Hs3_4 hx hZ hown (hw _ (List.mem_of_getElem? (i := 1) rfl)) (hw _ (List.mem_of_getElem? (i := 2) rfl)) (hw _ (List.mem_of_getElem? (i := 3) rfl)) (hw _ (List.mem_of_getElem? (i := 4) rfl)) (by decide) (argsL := [(.int xc), (.ref ai), (.ref li), (.int (2 : Int32))]) (rest := []) (W := 0) (own_fill2T l Z a0 hb0 hw xc ai li ca0 ca1 (0 : UInt64) lo0 lo1 (0 : UInt64) h2) (by decide) (by decide) (by decide) (by decide) (g := (mkF m 34 #[.val (.int xa), .val (.int xb), .val (.int xc), .val (.ref ai), .val (.ref li), .val (.int (0 : Int32)), .val (.int (1 : Int32)), .unset, .unset] [(.int (2 : Int32)), (.ref li), (.ref ai), (.int xc)])) rfl (by rw [hml]; rfl) (lenOf own_pd2 rfl) rfl (by show 2 * 0 + _ ≤ _; exact Nat.le_of_eq rfl) (hb hby at_34)
  obtain ⟨ca2, lo2, nc2, hc2, rfl, rfl⟩ := qs3_5
  change own_S _ _ _ _ _ _ _ _ _ _ _ _ _ _ [(ai, own_A .double [.double ca0, .double ca1, .double ca2]), (li, own_A .double [.double lo0, .double lo1, .double lo2])] _ _ at Hs3_5
  obtain ⟨Ts3_6, x, Hs3_6, sts3_6⟩ := own_newO Hs3_5 hx hZ hown (hw _ (List.mem_of_getElem? (i := 6) rfl)) (hw _ (List.mem_of_getElem? (i := 7) rfl)) (hw _ (List.mem_of_getElem? (i := 8) rfl)) [("com/example/placewright/placewright/model/MachineType", "name", "Ljava/lang/String;", .null), ("com/example/placewright/placewright/model/MachineType", "capacity", "[D", .null), ("com/example/placewright/placewright/model/MachineType", "pricePerHour", "D", .double 0)] (by
      intro f hf
      simp only [List.mem_cons, List.not_mem_nil, or_false] at hf
      rcases hf with rfl | rfl | rfl
      · exact ⟨Or.inr (hw _ (List.mem_of_getElem? (i := 24) rfl)), (.object "java/lang/String"), by decide, rfl⟩
      · exact ⟨Or.inr (hw _ (List.mem_of_getElem? (i := 35) rfl)), (.array .double), by decide, rfl⟩
      · exact ⟨Or.inr (hw _ (List.mem_of_getElem? (i := 37) rfl)), .double, by decide, rfl⟩) (by decide) (g := (mkF m 39 #[.val (.int xa), .val (.int xb), .val (.int xc), .val (.ref ai), .val (.ref li), .val (.int (0 : Int32)), .val (.int (1 : Int32)), .val (.int (1 : Int32)), .unset] [])) rfl (hb hby at_39) (by decide) (by decide)
  change own_S _ _ _ _ _ _ _ _ _ _ _ _ _ _ [(ai, own_A .double [.double ca0, .double ca1, .double ca2]), (li, own_A .double [.double lo0, .double lo1, .double lo2]), (x, own_O "com/example/placewright/placewright/model/MachineType" [("com/example/placewright/placewright/model/MachineType", "name", "Ljava/lang/String;", .null), ("com/example/placewright/placewright/model/MachineType", "capacity", "[D", .null), ("com/example/placewright/placewright/model/MachineType", "pricePerHour", "D", .double 0)])] _ _ at Hs3_6
  obtain ⟨st, Ts3_7, Hs3_7, hS1, hfl1, hZ1, hown1, sts3_7⟩ := own_ldcS Hs3_6 hx hZ hown (hw _ (List.mem_of_getElem? (i := 9) rfl)) (own_strAtoms hw) (g := (mkF m 43 #[.val (.int xa), .val (.int xb), .val (.int xc), .val (.ref ai), .val (.ref li), .val (.int (0 : Int32)), .val (.int (1 : Int32)), .val (.int (1 : Int32)), .unset] [(.ref x), (.ref x)])) rfl (hb hby at_43) (N := 4) (by decide) (by decide) (by decide) (by decide)
  obtain ⟨Ts3_8, vs3_8_, css3_8_, qs3_8, Hs3_8, sts3_8⟩ := own_callI Hs3_7 hx hZ1 hown1 rfl (hw _ (List.mem_of_getElem? (i := 17) rfl)) (hw _ (List.mem_of_getElem? (i := 18) rfl)) (hw _ (List.mem_of_getElem? (i := 8) rfl)) (hw _ (List.mem_of_getElem? (i := 19) rfl)) (by decide) (x := x) (argsL := [(.ref st), (.ref ai), (.double (4607182418800017408 : UInt64))]) (rest := [(.ref x)]) (W := 1) (own_mk l Z a0 ⟨hb0.b, Ts3_7.heap.size⟩ hw x st ai 4607182418800017408 ca0 ca1 ca2 li _) (by decide) (by decide) (by decide) (by decide) (g := (mkF m 47 #[.val (.int xa), .val (.int xb), .val (.int xc), .val (.ref ai), .val (.ref li), .val (.int (0 : Int32)), .val (.int (1 : Int32)), .val (.int (1 : Int32)), .unset] [(.double (4607182418800017408 : UInt64)), (.ref ai), (.ref st), (.ref x), (.ref x)])) rfl (by rw [hml]; rfl) (lenOf own_pd3 rfl) rfl (by show 2 * 0 + _ ≤ _; exact Nat.le_of_eq rfl) (hb hby at_47)
  obtain ⟨y, rfl, rfl⟩ := qs3_8
  change own_S _ _ _ _ _ _ _ _ _ _ _ _ _ _ [(ai, own_A .double [.double ca0, .double ca1, .double ca2]), (li, own_A .double [.double lo0, .double lo1, .double lo2]), (x, own_O "com/example/placewright/placewright/model/MachineType" [("com/example/placewright/placewright/model/MachineType", "name", "Ljava/lang/String;", .ref st), ("com/example/placewright/placewright/model/MachineType", "capacity", "[D", .ref y), ("com/example/placewright/placewright/model/MachineType", "pricePerHour", "D", .double (4607182418800017408 : UInt64))]), (y, own_A .double [.double ca0, .double ca1, .double ca2])] _ _ at Hs3_8
  obtain ⟨Ts3_9, vs3_9_, css3_9_, qs3_9, Hs3_9, sts3_9⟩ := own_callV Hs3_8 hx hZ1 hown1 (hw _ (List.mem_of_getElem? (i := 38) rfl)) (hw _ (List.mem_of_getElem? (i := 39) rfl)) (hw _ (List.mem_of_getElem? (i := 41) rfl)) (hw _ (List.mem_of_getElem? (i := 40) rfl)) (hw _ (List.mem_of_getElem? (i := 8) rfl)) (hw _ (List.mem_of_getElem? (i := 42) rfl)) (by decide) (x := x) 2 rfl (argsL := [(.ref li)]) (rest := []) (W := 0) (own_holds0 l Z a0 ⟨hb0.b, Ts3_7.heap.size⟩ hw x li ai st y _ 4607182418800017408 ca0 ca1 ca2 lo0 lo1 lo2 nc0 hc0) (by decide) (by decide) (by decide) (by decide) (g := (mkF m 56 #[.val (.int xa), .val (.int xb), .val (.int xc), .val (.ref ai), .val (.ref li), .val (.int (0 : Int32)), .val (.int (1 : Int32)), .val (.int (1 : Int32)), .val (.ref x)] [(.ref li), (.ref x)])) rfl (by rw [hml]; rfl) (lenOf own_pd4 rfl) rfl (by show 2 * 0 + _ ≤ _; exact Nat.le_of_eq rfl) (hb hby at_56)
  obtain ⟨rfl, rfl⟩ := qs3_9
  change own_S _ _ _ _ _ _ _ _ _ _ _ _ _ _ [(ai, own_A .double [.double ca0, .double ca1, .double ca2]), (li, own_A .double [.double lo0, .double lo1, .double lo2]), (x, own_O "com/example/placewright/placewright/model/MachineType" [("com/example/placewright/placewright/model/MachineType", "name", "Ljava/lang/String;", .ref st), ("com/example/placewright/placewright/model/MachineType", "capacity", "[D", .ref y), ("com/example/placewright/placewright/model/MachineType", "pricePerHour", "D", .double (4607182418800017408 : UInt64))]), (y, own_A .double [.double ca0, .double ca1, .double ca2])] _ _ at Hs3_9
  refine ⟨Ts3_7.vm, Ts3_7.heap.size, _, _, _, _, 87, #[.val (.int xa), .val (.int xb), .val (.int xc), .val (.ref ai), .val (.ref li), .val (.int (0 : Int32)), .val (.int (1 : Int32)), .val (.int (1 : Int32)), .val (.ref x)], hS1, hfl1, Hs3_9, by decide, by decide, Or.inr ⟨.boolean, (.int (1 : Int32)), [], .ireturn, rfl, rfl, at_87, own_retZ (Or.inr rfl), fun target q => ?_⟩⟩
  refine own_go H0 hx hZ hown hby hw own_K0_ok (own_s3_0 xa xb xc) _ ?_
  refine sts3_1 _ ?_
  refine own_go Hs3_1 hx hZ hown hby hw own_K0_ok (own_s3_1 xa xb xc ai) _ ?_
  refine own_go Hs3_1 hx hZ hown hby hw own_K0_ok (own_s3_2 xa xb xc ai) _ ?_
  refine sts3_2 _ ?_
  refine own_go Hs3_2 hx hZ hown hby hw own_K0_ok (own_s3_3 xa xb xc ai li) _ ?_
  refine sts3_3 _ ?_
  refine own_go Hs3_3 hx hZ hown hby hw own_K0_ok (own_s3_4 xa xb xc ai li) _ ?_
  refine sts3_4 _ ?_
  refine own_go Hs3_4 hx hZ hown hby hw own_K0_ok (own_s3_5 xa xb xc ai li) _ ?_
  refine sts3_5 _ ?_
  refine own_go Hs3_5 hx hZ hown hby hw own_K0_ok (own_s3_6 xa xb xc ai li) _ ?_
  refine sts3_6 _ ?_
  refine own_go Hs3_6 hx hZ hown hby hw own_K0_ok (own_s3_7 xa xb xc ai li x) _ ?_
  refine sts3_7 _ ?_
  refine own_go Hs3_7 hx hZ1 hown1 hby hw own_K0_ok (own_s3_8 xa xb xc ai li st x) _ ?_
  refine sts3_8 _ ?_
  refine own_go Hs3_8 hx hZ1 hown1 hby hw own_K0_ok (own_s3_9 xa xb xc ai li x) _ ?_
  refine sts3_9 _ ?_
  refine own_go Hs3_9 hx hZ1 hown1 hby hw own_K0_ok (own_s3_10 xa xb xc ai li x) _ ?_
  exact q
theorem own_s4_0 (xa : Int32) (xb : Int32) (xc : Int32) :
    own_Go own_K0 code 0 #[.val (.int xa), .val (.int xb), .val (.int xc), .unset, .unset, .unset, .unset, .unset, .unset] [] 1 #[.val (.int xa), .val (.int xb), .val (.int xc), .unset, .unset, .unset, .unset, .unset, .unset] [(.int (3 : Int32))] := by
  refine own_iconst (v := 3) (pc2 := 1) at_0 rfl rfl ?_
  exact own_refl
theorem own_s4_1 (xa : Int32) (xb : Int32) (xc : Int32) (ai : Addr) :
    own_Go own_K0 code 3 #[.val (.int xa), .val (.int xb), .val (.int xc), .unset, .unset, .unset, .unset, .unset, .unset] [(.ref ai)] 4 #[.val (.int xa), .val (.int xb), .val (.int xc), .val (.ref ai), .unset, .unset, .unset, .unset, .unset] [] := by
  refine own_astoreN (pc2 := 4) at_3 rfl rfl (L' := #[.val (.int xa), .val (.int xb), .val (.int xc), .val (.ref ai), .unset, .unset, .unset, .unset, .unset]) rfl ?_
  exact own_refl
theorem own_s4_2 (xa : Int32) (xb : Int32) (xc : Int32) (ai : Addr) :
    own_Go own_K0 code 4 #[.val (.int xa), .val (.int xb), .val (.int xc), .val (.ref ai), .unset, .unset, .unset, .unset, .unset] [] 5 #[.val (.int xa), .val (.int xb), .val (.int xc), .val (.ref ai), .unset, .unset, .unset, .unset, .unset] [(.int (3 : Int32))] := by
  refine own_iconst (v := 3) (pc2 := 5) at_4 rfl rfl ?_
  exact own_refl
theorem own_s4_3 (xa : Int32) (xb : Int32) (xc : Int32) (ai : Addr) (li : Addr) :
    own_Go own_K0 code 7 #[.val (.int xa), .val (.int xb), .val (.int xc), .val (.ref ai), .unset, .unset, .unset, .unset, .unset] [(.ref li)] 14 #[.val (.int xa), .val (.int xb), .val (.int xc), .val (.ref ai), .val (.ref li), .unset, .unset, .unset, .unset] [(.int (0 : Int32)), (.ref li), (.ref ai), (.int xa)] := by
  refine own_astore (pc2 := 9) at_7 rfl rfl (L' := #[.val (.int xa), .val (.int xb), .val (.int xc), .val (.ref ai), .val (.ref li), .unset, .unset, .unset, .unset]) rfl ?_
  refine own_iloadN (pc2 := 10) at_9 rfl rfl ?_
  refine own_aloadN (pc2 := 11) at_10 rfl rfl rfl ?_
  refine own_aload (pc2 := 13) at_11 rfl rfl rfl ?_
  refine own_iconst (v := 0) (pc2 := 14) at_13 rfl rfl ?_
  exact own_refl
theorem own_s4_4 (xa : Int32) (xb : Int32) (xc : Int32) (ai : Addr) (li : Addr) :
    own_Go own_K0 code 17 #[.val (.int xa), .val (.int xb), .val (.int xc), .val (.ref ai), .val (.ref li), .unset, .unset, .unset, .unset] [(.int (1 : Int32))] 24 #[.val (.int xa), .val (.int xb), .val (.int xc), .val (.ref ai), .val (.ref li), .val (.int (1 : Int32)), .unset, .unset, .unset] [(.int (1 : Int32)), (.ref li), (.ref ai), (.int xb)] := by
  refine own_istore (pc2 := 19) at_17 rfl (L' := #[.val (.int xa), .val (.int xb), .val (.int xc), .val (.ref ai), .val (.ref li), .val (.int (1 : Int32)), .unset, .unset, .unset]) rfl ?_
  refine own_iloadN (pc2 := 20) at_19 rfl rfl ?_
  refine own_aloadN (pc2 := 21) at_20 rfl rfl rfl ?_
  refine own_aload (pc2 := 23) at_21 rfl rfl rfl ?_
  refine own_iconst (v := 1) (pc2 := 24) at_23 rfl rfl ?_
  exact own_refl
theorem own_s4_5 (xa : Int32) (xb : Int32) (xc : Int32) (ai : Addr) (li : Addr) :
    own_Go own_K0 code 27 #[.val (.int xa), .val (.int xb), .val (.int xc), .val (.ref ai), .val (.ref li), .val (.int (1 : Int32)), .unset, .unset, .unset] [(.int (0 : Int32))] 34 #[.val (.int xa), .val (.int xb), .val (.int xc), .val (.ref ai), .val (.ref li), .val (.int (1 : Int32)), .val (.int (0 : Int32)), .unset, .unset] [(.int (2 : Int32)), (.ref li), (.ref ai), (.int xc)] := by
  refine own_istore (pc2 := 29) at_27 rfl (L' := #[.val (.int xa), .val (.int xb), .val (.int xc), .val (.ref ai), .val (.ref li), .val (.int (1 : Int32)), .val (.int (0 : Int32)), .unset, .unset]) rfl ?_
  refine own_iloadN (pc2 := 30) at_29 rfl rfl ?_
  refine own_aloadN (pc2 := 31) at_30 rfl rfl rfl ?_
  refine own_aload (pc2 := 33) at_31 rfl rfl rfl ?_
  refine own_iconst (v := 2) (pc2 := 34) at_33 rfl rfl ?_
  exact own_refl
theorem own_s4_6 (xa : Int32) (xb : Int32) (xc : Int32) (ai : Addr) (li : Addr) :
    own_Go own_K0 code 37 #[.val (.int xa), .val (.int xb), .val (.int xc), .val (.ref ai), .val (.ref li), .val (.int (1 : Int32)), .val (.int (0 : Int32)), .unset, .unset] [(.int (0 : Int32))] 39 #[.val (.int xa), .val (.int xb), .val (.int xc), .val (.ref ai), .val (.ref li), .val (.int (1 : Int32)), .val (.int (0 : Int32)), .val (.int (0 : Int32)), .unset] [] := by
  refine own_istore (pc2 := 39) at_37 rfl (L' := #[.val (.int xa), .val (.int xb), .val (.int xc), .val (.ref ai), .val (.ref li), .val (.int (1 : Int32)), .val (.int (0 : Int32)), .val (.int (0 : Int32)), .unset]) rfl ?_
  exact own_refl
theorem own_s4_7 (xa : Int32) (xb : Int32) (xc : Int32) (ai : Addr) (li : Addr) (x : Addr) :
    own_Go own_K0 code 42 #[.val (.int xa), .val (.int xb), .val (.int xc), .val (.ref ai), .val (.ref li), .val (.int (1 : Int32)), .val (.int (0 : Int32)), .val (.int (0 : Int32)), .unset] [(.ref x)] 43 #[.val (.int xa), .val (.int xb), .val (.int xc), .val (.ref ai), .val (.ref li), .val (.int (1 : Int32)), .val (.int (0 : Int32)), .val (.int (0 : Int32)), .unset] [(.ref x), (.ref x)] := by
  refine own_dup (pc2 := 43) at_42 rfl rfl ?_
  exact own_refl
theorem own_s4_8 (xa : Int32) (xb : Int32) (xc : Int32) (ai : Addr) (li : Addr) (st : Addr) (x : Addr) :
    own_Go own_K0 code 45 #[.val (.int xa), .val (.int xb), .val (.int xc), .val (.ref ai), .val (.ref li), .val (.int (1 : Int32)), .val (.int (0 : Int32)), .val (.int (0 : Int32)), .unset] [(.ref st), (.ref x), (.ref x)] 47 #[.val (.int xa), .val (.int xb), .val (.int xc), .val (.ref ai), .val (.ref li), .val (.int (1 : Int32)), .val (.int (0 : Int32)), .val (.int (0 : Int32)), .unset] [(.double (4607182418800017408 : UInt64)), (.ref ai), (.ref st), (.ref x), (.ref x)] := by
  refine own_aloadN (pc2 := 46) at_45 rfl rfl rfl ?_
  refine own_dconst1 (v := 4607182418800017408) (pc2 := 47) at_46 rfl rfl ?_
  exact own_refl
theorem own_s4_9 (xa : Int32) (xb : Int32) (xc : Int32) (ai : Addr) (li : Addr) (x : Addr) :
    own_Go own_K0 code 50 #[.val (.int xa), .val (.int xb), .val (.int xc), .val (.ref ai), .val (.ref li), .val (.int (1 : Int32)), .val (.int (0 : Int32)), .val (.int (0 : Int32)), .unset] [(.ref x)] 56 #[.val (.int xa), .val (.int xb), .val (.int xc), .val (.ref ai), .val (.ref li), .val (.int (1 : Int32)), .val (.int (0 : Int32)), .val (.int (0 : Int32)), .val (.ref x)] [(.ref li), (.ref x)] := by
  refine own_astore (pc2 := 52) at_50 rfl rfl (L' := #[.val (.int xa), .val (.int xb), .val (.int xc), .val (.ref ai), .val (.ref li), .val (.int (1 : Int32)), .val (.int (0 : Int32)), .val (.int (0 : Int32)), .val (.ref x)]) rfl ?_
  refine own_aload (pc2 := 54) at_52 rfl rfl rfl ?_
  refine own_aload (pc2 := 56) at_54 rfl rfl rfl ?_
  exact own_refl
theorem own_s4_10 (xa : Int32) (xb : Int32) (xc : Int32) (ai : Addr) (li : Addr) (x : Addr) :
    own_Go own_K0 code 59 #[.val (.int xa), .val (.int xb), .val (.int xc), .val (.ref ai), .val (.ref li), .val (.int (1 : Int32)), .val (.int (0 : Int32)), .val (.int (0 : Int32)), .val (.ref x)] [(.int (0 : Int32))] 87 #[.val (.int xa), .val (.int xb), .val (.int xc), .val (.ref ai), .val (.ref li), .val (.int (1 : Int32)), .val (.int (0 : Int32)), .val (.int (0 : Int32)), .val (.ref x)] [(.int (1 : Int32))] := by
  refine own_iload (pc2 := 61) at_59 rfl rfl ?_
  refine own_ifNo (pc2 := 64) at_61 rfl (by decide) ?_
  refine own_iload (pc2 := 66) at_64 rfl rfl ?_
  refine own_ifYes (pc' := 78) at_66 (by decide) (by decide) (by decide) ?_
  refine own_iconst (v := 0) (pc2 := 79) at_78 rfl rfl ?_
  refine own_icmpNo (pc2 := 82) at_79 rfl (by decide) ?_
  refine own_iconst (v := 1) (pc2 := 83) at_82 rfl rfl ?_
  refine own_goto (pc' := 87) at_83 (by decide) (by decide) ?_
  exact own_refl
set_option maxRecDepth 65536 in
set_option maxHeartbeats 40000000 in
theorem own_law4 (l : Launch) (Z : State) (a0 : Array Value) (hb0 : own_Base) (hw : ∀ d ∈ tables_1, d.before a0 Z = true) (xa : Int32) (xb : Int32) (xc : Int32) (h0 : own_T xa) (h1 : ¬ own_T xb) (h2 : ¬ own_T xc) :
    own_MetW l Z a0 hb0 x code maxLocals ret tables_1 room_1 #[(.int xa), (.int xb), (.int xc)] [] (fun v _ => v = some (.int 1)) := by
  refine own_met_ofW (L0 := #[.val (.int xa), .val (.int xb), .val (.int xc), .unset, .unset, .unset, .unset, .unset, .unset]) (plainFor_of_name own_pn0) (fun m => own_ef0 m xa xb xc) ?_
  intro p e s m below meth c T0 hx hZ hown hby hml hnm H0
  have hown : s.vm.findClass "com/example/placewright/placewright/model/MachineTypeHolds334PinLaw" = some m.cls := hown
  have hml : c.maxLocals = 9 := hml
  obtain ⟨Ts4_1, ai, Hs4_1, sts4_1⟩ := own_newA H0 hx hZ (hw _ (List.mem_of_getElem? (i := 0) rfl)) (g := (mkF m 1 #[.val (.int xa), .val (.int xb), .val (.int xc), .unset, .unset, .unset, .unset, .unset, .unset] [(.int (3 : Int32))])) rfl (hb hby at_1) rfl (by decide) (cap := 3) (by decide) (by decide) (by decide) (by decide)
  change own_S _ _ _ _ _ _ _ _ _ _ _ _ _ _ [(ai, own_A .double [.double 0, .double 0, .double 0])] _ _ at Hs4_1
  obtain ⟨Ts4_2, li, Hs4_2, sts4_2⟩ := own_newA Hs4_1 hx hZ (hw _ (List.mem_of_getElem? (i := 0) rfl)) (g := (mkF m 5 #[.val (.int xa), .val (.int xb), .val (.int xc), .val (.ref ai), .unset, .unset, .unset, .unset, .unset] [(.int (3 : Int32))])) rfl (hb hby at_5) rfl (by decide) (cap := 3) (by decide) (by decide) (by decide) (by decide)
  change own_S _ _ _ _ _ _ _ _ _ _ _ _ _ _ [(ai, own_A .double [.double 0, .double 0, .double 0]), (li, own_A .double [.double 0, .double 0, .double 0])] _ _ at Hs4_2
  obtain ⟨Ts4_3, vs4_3_, css4_3_, qs4_3, Hs4_3, sts4_3⟩ := own_callS Hs4_2 hx hZ hown (hw _ (List.mem_of_getElem? (i := 1) rfl)) (hw _ (List.mem_of_getElem? (i := 2) rfl)) (hw _ (List.mem_of_getElem? (i := 3) rfl)) (hw _ (List.mem_of_getElem? (i := 4) rfl)) (by decide) (argsL := [(.int xa), (.ref ai), (.ref li), (.int (0 : Int32))]) (rest := []) (W := 0) (own_fill0T l Z a0 hb0 hw xa ai li (0 : UInt64) (0 : UInt64) (0 : UInt64) (0 : UInt64) (0 : UInt64) (0 : UInt64) h0) (by decide) (by decide) (by decide) (by decide) (g := (mkF m 14 #[.val (.int xa), .val (.int xb), .val (.int xc), .val (.ref ai), .val (.ref li), .unset, .unset, .unset, .unset] [(.int (0 : Int32)), (.ref li), (.ref ai), (.int xa)])) rfl (by rw [hml]; rfl) (lenOf own_pd2 rfl) rfl (by show 2 * 0 + _ ≤ _; exact Nat.le_of_eq rfl) (hb hby at_14)
  obtain ⟨ca0, lo0, nc0, hc0, rfl, rfl⟩ := qs4_3
  change own_S _ _ _ _ _ _ _ _ _ _ _ _ _ _ [(ai, own_A .double [.double ca0, .double (0 : UInt64), .double (0 : UInt64)]), (li, own_A .double [.double lo0, .double (0 : UInt64), .double (0 : UInt64)])] _ _ at Hs4_3
  obtain ⟨Ts4_4, vs4_4_, css4_4_, qs4_4, Hs4_4, sts4_4⟩ := own_callS Hs4_3 hx hZ hown (hw _ (List.mem_of_getElem? (i := 1) rfl)) (hw _ (List.mem_of_getElem? (i := 2) rfl)) (hw _ (List.mem_of_getElem? (i := 3) rfl)) (hw _ (List.mem_of_getElem? (i := 4) rfl)) (by decide) (argsL := [(.int xb), (.ref ai), (.ref li), (.int (1 : Int32))]) (rest := []) (W := 0) (own_fill1F l Z a0 hb0 hw xb ai li ca0 (0 : UInt64) (0 : UInt64) lo0 (0 : UInt64) (0 : UInt64) h1) (by decide) (by decide) (by decide) (by decide) (g := (mkF m 24 #[.val (.int xa), .val (.int xb), .val (.int xc), .val (.ref ai), .val (.ref li), .val (.int (1 : Int32)), .unset, .unset, .unset] [(.int (1 : Int32)), (.ref li), (.ref ai), (.int xb)])) rfl (by rw [hml]; rfl) (lenOf own_pd2 rfl) rfl (by show 2 * 0 + _ ≤ _; exact Nat.le_of_eq rfl) (hb hby at_24)
  obtain ⟨ca1, lo1, nc1, hc1, rfl, rfl⟩ := qs4_4
  change own_S _ _ _ _ _ _ _ _ _ _ _ _ _ _ [(ai, own_A .double [.double ca0, .double ca1, .double (0 : UInt64)]), (li, own_A .double [.double lo0, .double lo1, .double (0 : UInt64)])] _ _ at Hs4_4
  obtain ⟨Ts4_5, vs4_5_, css4_5_, qs4_5, Hs4_5, sts4_5⟩ := own_callS Hs4_4 hx hZ hown (hw _ (List.mem_of_getElem? (i := 1) rfl)) (hw _ (List.mem_of_getElem? (i := 2) rfl)) (hw _ (List.mem_of_getElem? (i := 3) rfl)) (hw _ (List.mem_of_getElem? (i := 4) rfl)) (by decide) (argsL := [(.int xc), (.ref ai), (.ref li), (.int (2 : Int32))]) (rest := []) (W := 0) (own_fill2F l Z a0 hb0 hw xc ai li ca0 ca1 (0 : UInt64) lo0 lo1 (0 : UInt64) h2) (by decide) (by decide) (by decide) (by decide) (g := (mkF m 34 #[.val (.int xa), .val (.int xb), .val (.int xc), .val (.ref ai), .val (.ref li), .val (.int (1 : Int32)), .val (.int (0 : Int32)), .unset, .unset] [(.int (2 : Int32)), (.ref li), (.ref ai), (.int xc)])) rfl (by rw [hml]; rfl) (lenOf own_pd2 rfl) rfl (by show 2 * 0 + _ ≤ _; exact Nat.le_of_eq rfl) (hb hby at_34)
  obtain ⟨ca2, lo2, nc2, hc2, rfl, rfl⟩ := qs4_5
  change own_S _ _ _ _ _ _ _ _ _ _ _ _ _ _ [(ai, own_A .double [.double ca0, .double ca1, .double ca2]), (li, own_A .double [.double lo0, .double lo1, .double lo2])] _ _ at Hs4_5
  obtain ⟨Ts4_6, x, Hs4_6, sts4_6⟩ := own_newO Hs4_5 hx hZ hown (hw _ (List.mem_of_getElem? (i := 6) rfl)) (hw _ (List.mem_of_getElem? (i := 7) rfl)) (hw _ (List.mem_of_getElem? (i := 8) rfl)) [("com/example/placewright/placewright/model/MachineType", "name", "Ljava/lang/String;", .null), ("com/example/placewright/placewright/model/MachineType", "capacity", "[D", .null), ("com/example/placewright/placewright/model/MachineType", "pricePerHour", "D", .double 0)] (by
      intro f hf
      simp only [List.mem_cons, List.not_mem_nil, or_false] at hf
      rcases hf with rfl | rfl | rfl
      · exact ⟨Or.inr (hw _ (List.mem_of_getElem? (i := 24) rfl)), (.object "java/lang/String"), by decide, rfl⟩
      · exact ⟨Or.inr (hw _ (List.mem_of_getElem? (i := 35) rfl)), (.array .double), by decide, rfl⟩
      · exact ⟨Or.inr (hw _ (List.mem_of_getElem? (i := 37) rfl)), .double, by decide, rfl⟩) (by decide) (g := (mkF m 39 #[.val (.int xa), .val (.int xb), .val (.int xc), .val (.ref ai), .val (.ref li), .val (.int (1 : Int32)), .val (.int (0 : Int32)), .val (.int (0 : Int32)), .unset] [])) rfl (hb hby at_39) (by decide) (by decide)
  change own_S _ _ _ _ _ _ _ _ _ _ _ _ _ _ [(ai, own_A .double [.double ca0, .double ca1, .double ca2]), (li, own_A .double [.double lo0, .double lo1, .double lo2]), (x, own_O "com/example/placewright/placewright/model/MachineType" [("com/example/placewright/placewright/model/MachineType", "name", "Ljava/lang/String;", .null), ("com/example/placewright/placewright/model/MachineType", "capacity", "[D", .null), ("com/example/placewright/placewright/model/MachineType", "pricePerHour", "D", .double 0)])] _ _ at Hs4_6
  obtain ⟨st, Ts4_7, Hs4_7, hS1, hfl1, hZ1, hown1, sts4_7⟩ := own_ldcS Hs4_6 hx hZ hown (hw _ (List.mem_of_getElem? (i := 9) rfl)) (own_strAtoms hw) (g := (mkF m 43 #[.val (.int xa), .val (.int xb), .val (.int xc), .val (.ref ai), .val (.ref li), .val (.int (1 : Int32)), .val (.int (0 : Int32)), .val (.int (0 : Int32)), .unset] [(.ref x), (.ref x)])) rfl (hb hby at_43) (N := 4) (by decide) (by decide) (by decide) (by decide)
  obtain ⟨Ts4_8, vs4_8_, css4_8_, qs4_8, Hs4_8, sts4_8⟩ := own_callI Hs4_7 hx hZ1 hown1 rfl (hw _ (List.mem_of_getElem? (i := 17) rfl)) (hw _ (List.mem_of_getElem? (i := 18) rfl)) (hw _ (List.mem_of_getElem? (i := 8) rfl)) (hw _ (List.mem_of_getElem? (i := 19) rfl)) (by decide) (x := x) (argsL := [(.ref st), (.ref ai), (.double (4607182418800017408 : UInt64))]) (rest := [(.ref x)]) (W := 1) (own_mk l Z a0 ⟨hb0.b, Ts4_7.heap.size⟩ hw x st ai 4607182418800017408 ca0 ca1 ca2 li _) (by decide) (by decide) (by decide) (by decide) (g := (mkF m 47 #[.val (.int xa), .val (.int xb), .val (.int xc), .val (.ref ai), .val (.ref li), .val (.int (1 : Int32)), .val (.int (0 : Int32)), .val (.int (0 : Int32)), .unset] [(.double (4607182418800017408 : UInt64)), (.ref ai), (.ref st), (.ref x), (.ref x)])) rfl (by rw [hml]; rfl) (lenOf own_pd3 rfl) rfl (by show 2 * 0 + _ ≤ _; exact Nat.le_of_eq rfl) (hb hby at_47)
  obtain ⟨y, rfl, rfl⟩ := qs4_8
  change own_S _ _ _ _ _ _ _ _ _ _ _ _ _ _ [(ai, own_A .double [.double ca0, .double ca1, .double ca2]), (li, own_A .double [.double lo0, .double lo1, .double lo2]), (x, own_O "com/example/placewright/placewright/model/MachineType" [("com/example/placewright/placewright/model/MachineType", "name", "Ljava/lang/String;", .ref st), ("com/example/placewright/placewright/model/MachineType", "capacity", "[D", .ref y), ("com/example/placewright/placewright/model/MachineType", "pricePerHour", "D", .double (4607182418800017408 : UInt64))]), (y, own_A .double [.double ca0, .double ca1, .double ca2])] _ _ at Hs4_8
  obtain ⟨Ts4_9, vs4_9_, css4_9_, qs4_9, Hs4_9, sts4_9⟩ := own_callV Hs4_8 hx hZ1 hown1 (hw _ (List.mem_of_getElem? (i := 38) rfl)) (hw _ (List.mem_of_getElem? (i := 39) rfl)) (hw _ (List.mem_of_getElem? (i := 41) rfl)) (hw _ (List.mem_of_getElem? (i := 40) rfl)) (hw _ (List.mem_of_getElem? (i := 8) rfl)) (hw _ (List.mem_of_getElem? (i := 42) rfl)) (by decide) (x := x) 2 rfl (argsL := [(.ref li)]) (rest := []) (W := 0) (own_holds1 l Z a0 ⟨hb0.b, Ts4_7.heap.size⟩ hw x li ai st y _ 4607182418800017408 ca0 ca1 ca2 lo0 lo1 lo2 nc0 hc0 nc1 hc1) (by decide) (by decide) (by decide) (by decide) (g := (mkF m 56 #[.val (.int xa), .val (.int xb), .val (.int xc), .val (.ref ai), .val (.ref li), .val (.int (1 : Int32)), .val (.int (0 : Int32)), .val (.int (0 : Int32)), .val (.ref x)] [(.ref li), (.ref x)])) rfl (by rw [hml]; rfl) (lenOf own_pd4 rfl) rfl (by show 2 * 0 + _ ≤ _; exact Nat.le_of_eq rfl) (hb hby at_56)
  obtain ⟨rfl, rfl⟩ := qs4_9
  change own_S _ _ _ _ _ _ _ _ _ _ _ _ _ _ [(ai, own_A .double [.double ca0, .double ca1, .double ca2]), (li, own_A .double [.double lo0, .double lo1, .double lo2]), (x, own_O "com/example/placewright/placewright/model/MachineType" [("com/example/placewright/placewright/model/MachineType", "name", "Ljava/lang/String;", .ref st), ("com/example/placewright/placewright/model/MachineType", "capacity", "[D", .ref y), ("com/example/placewright/placewright/model/MachineType", "pricePerHour", "D", .double (4607182418800017408 : UInt64))]), (y, own_A .double [.double ca0, .double ca1, .double ca2])] _ _ at Hs4_9
  refine ⟨Ts4_7.vm, Ts4_7.heap.size, _, _, _, _, 87, #[.val (.int xa), .val (.int xb), .val (.int xc), .val (.ref ai), .val (.ref li), .val (.int (1 : Int32)), .val (.int (0 : Int32)), .val (.int (0 : Int32)), .val (.ref x)], hS1, hfl1, Hs4_9, by decide, by decide, Or.inr ⟨.boolean, (.int (1 : Int32)), [], .ireturn, rfl, rfl, at_87, own_retZ (Or.inr rfl), fun target q => ?_⟩⟩
  refine own_go H0 hx hZ hown hby hw own_K0_ok (own_s4_0 xa xb xc) _ ?_
  refine sts4_1 _ ?_
  refine own_go Hs4_1 hx hZ hown hby hw own_K0_ok (own_s4_1 xa xb xc ai) _ ?_
  refine own_go Hs4_1 hx hZ hown hby hw own_K0_ok (own_s4_2 xa xb xc ai) _ ?_
  refine sts4_2 _ ?_
  refine own_go Hs4_2 hx hZ hown hby hw own_K0_ok (own_s4_3 xa xb xc ai li) _ ?_
  refine sts4_3 _ ?_
  refine own_go Hs4_3 hx hZ hown hby hw own_K0_ok (own_s4_4 xa xb xc ai li) _ ?_
  refine sts4_4 _ ?_
  refine own_go Hs4_4 hx hZ hown hby hw own_K0_ok (own_s4_5 xa xb xc ai li) _ ?_
  refine sts4_5 _ ?_
  refine own_go Hs4_5 hx hZ hown hby hw own_K0_ok (own_s4_6 xa xb xc ai li) _ ?_
  refine sts4_6 _ ?_
  refine own_go Hs4_6 hx hZ hown hby hw own_K0_ok (own_s4_7 xa xb xc ai li x) _ ?_
  refine sts4_7 _ ?_
  refine own_go Hs4_7 hx hZ1 hown1 hby hw own_K0_ok (own_s4_8 xa xb xc ai li st x) _ ?_
  refine sts4_8 _ ?_
  refine own_go Hs4_8 hx hZ1 hown1 hby hw own_K0_ok (own_s4_9 xa xb xc ai li x) _ ?_
  refine sts4_9 _ ?_
  refine own_go Hs4_9 hx hZ1 hown1 hby hw own_K0_ok (own_s4_10 xa xb xc ai li x) _ ?_
  exact q
theorem own_s5_0 (xa : Int32) (xb : Int32) (xc : Int32) :
    own_Go own_K0 code 0 #[.val (.int xa), .val (.int xb), .val (.int xc), .unset, .unset, .unset, .unset, .unset, .unset] [] 1 #[.val (.int xa), .val (.int xb), .val (.int xc), .unset, .unset, .unset, .unset, .unset, .unset] [(.int (3 : Int32))] := by
  refine own_iconst (v := 3) (pc2 := 1) at_0 rfl rfl ?_
  exact own_refl
theorem own_s5_1 (xa : Int32) (xb : Int32) (xc : Int32) (ai : Addr) :
    own_Go own_K0 code 3 #[.val (.int xa), .val (.int xb), .val (.int xc), .unset, .unset, .unset, .unset, .unset, .unset] [(.ref ai)] 4 #[.val (.int xa), .val (.int xb), .val (.int xc), .val (.ref ai), .unset, .unset, .unset, .unset, .unset] [] := by
  refine own_astoreN (pc2 := 4) at_3 rfl rfl (L' := #[.val (.int xa), .val (.int xb), .val (.int xc), .val (.ref ai), .unset, .unset, .unset, .unset, .unset]) rfl ?_
  exact own_refl
theorem own_s5_2 (xa : Int32) (xb : Int32) (xc : Int32) (ai : Addr) :
    own_Go own_K0 code 4 #[.val (.int xa), .val (.int xb), .val (.int xc), .val (.ref ai), .unset, .unset, .unset, .unset, .unset] [] 5 #[.val (.int xa), .val (.int xb), .val (.int xc), .val (.ref ai), .unset, .unset, .unset, .unset, .unset] [(.int (3 : Int32))] := by
  refine own_iconst (v := 3) (pc2 := 5) at_4 rfl rfl ?_
  exact own_refl
theorem own_s5_3 (xa : Int32) (xb : Int32) (xc : Int32) (ai : Addr) (li : Addr) :
    own_Go own_K0 code 7 #[.val (.int xa), .val (.int xb), .val (.int xc), .val (.ref ai), .unset, .unset, .unset, .unset, .unset] [(.ref li)] 14 #[.val (.int xa), .val (.int xb), .val (.int xc), .val (.ref ai), .val (.ref li), .unset, .unset, .unset, .unset] [(.int (0 : Int32)), (.ref li), (.ref ai), (.int xa)] := by
  refine own_astore (pc2 := 9) at_7 rfl rfl (L' := #[.val (.int xa), .val (.int xb), .val (.int xc), .val (.ref ai), .val (.ref li), .unset, .unset, .unset, .unset]) rfl ?_
  refine own_iloadN (pc2 := 10) at_9 rfl rfl ?_
  refine own_aloadN (pc2 := 11) at_10 rfl rfl rfl ?_
  refine own_aload (pc2 := 13) at_11 rfl rfl rfl ?_
  refine own_iconst (v := 0) (pc2 := 14) at_13 rfl rfl ?_
  exact own_refl
theorem own_s5_4 (xa : Int32) (xb : Int32) (xc : Int32) (ai : Addr) (li : Addr) :
    own_Go own_K0 code 17 #[.val (.int xa), .val (.int xb), .val (.int xc), .val (.ref ai), .val (.ref li), .unset, .unset, .unset, .unset] [(.int (1 : Int32))] 24 #[.val (.int xa), .val (.int xb), .val (.int xc), .val (.ref ai), .val (.ref li), .val (.int (1 : Int32)), .unset, .unset, .unset] [(.int (1 : Int32)), (.ref li), (.ref ai), (.int xb)] := by
  refine own_istore (pc2 := 19) at_17 rfl (L' := #[.val (.int xa), .val (.int xb), .val (.int xc), .val (.ref ai), .val (.ref li), .val (.int (1 : Int32)), .unset, .unset, .unset]) rfl ?_
  refine own_iloadN (pc2 := 20) at_19 rfl rfl ?_
  refine own_aloadN (pc2 := 21) at_20 rfl rfl rfl ?_
  refine own_aload (pc2 := 23) at_21 rfl rfl rfl ?_
  refine own_iconst (v := 1) (pc2 := 24) at_23 rfl rfl ?_
  exact own_refl
theorem own_s5_5 (xa : Int32) (xb : Int32) (xc : Int32) (ai : Addr) (li : Addr) :
    own_Go own_K0 code 27 #[.val (.int xa), .val (.int xb), .val (.int xc), .val (.ref ai), .val (.ref li), .val (.int (1 : Int32)), .unset, .unset, .unset] [(.int (0 : Int32))] 34 #[.val (.int xa), .val (.int xb), .val (.int xc), .val (.ref ai), .val (.ref li), .val (.int (1 : Int32)), .val (.int (0 : Int32)), .unset, .unset] [(.int (2 : Int32)), (.ref li), (.ref ai), (.int xc)] := by
  refine own_istore (pc2 := 29) at_27 rfl (L' := #[.val (.int xa), .val (.int xb), .val (.int xc), .val (.ref ai), .val (.ref li), .val (.int (1 : Int32)), .val (.int (0 : Int32)), .unset, .unset]) rfl ?_
  refine own_iloadN (pc2 := 30) at_29 rfl rfl ?_
  refine own_aloadN (pc2 := 31) at_30 rfl rfl rfl ?_
  refine own_aload (pc2 := 33) at_31 rfl rfl rfl ?_
  refine own_iconst (v := 2) (pc2 := 34) at_33 rfl rfl ?_
  exact own_refl
theorem own_s5_6 (xa : Int32) (xb : Int32) (xc : Int32) (ai : Addr) (li : Addr) :
    own_Go own_K0 code 37 #[.val (.int xa), .val (.int xb), .val (.int xc), .val (.ref ai), .val (.ref li), .val (.int (1 : Int32)), .val (.int (0 : Int32)), .unset, .unset] [(.int (1 : Int32))] 39 #[.val (.int xa), .val (.int xb), .val (.int xc), .val (.ref ai), .val (.ref li), .val (.int (1 : Int32)), .val (.int (0 : Int32)), .val (.int (1 : Int32)), .unset] [] := by
  refine own_istore (pc2 := 39) at_37 rfl (L' := #[.val (.int xa), .val (.int xb), .val (.int xc), .val (.ref ai), .val (.ref li), .val (.int (1 : Int32)), .val (.int (0 : Int32)), .val (.int (1 : Int32)), .unset]) rfl ?_
  exact own_refl
theorem own_s5_7 (xa : Int32) (xb : Int32) (xc : Int32) (ai : Addr) (li : Addr) (x : Addr) :
    own_Go own_K0 code 42 #[.val (.int xa), .val (.int xb), .val (.int xc), .val (.ref ai), .val (.ref li), .val (.int (1 : Int32)), .val (.int (0 : Int32)), .val (.int (1 : Int32)), .unset] [(.ref x)] 43 #[.val (.int xa), .val (.int xb), .val (.int xc), .val (.ref ai), .val (.ref li), .val (.int (1 : Int32)), .val (.int (0 : Int32)), .val (.int (1 : Int32)), .unset] [(.ref x), (.ref x)] := by
  refine own_dup (pc2 := 43) at_42 rfl rfl ?_
  exact own_refl
theorem own_s5_8 (xa : Int32) (xb : Int32) (xc : Int32) (ai : Addr) (li : Addr) (st : Addr) (x : Addr) :
    own_Go own_K0 code 45 #[.val (.int xa), .val (.int xb), .val (.int xc), .val (.ref ai), .val (.ref li), .val (.int (1 : Int32)), .val (.int (0 : Int32)), .val (.int (1 : Int32)), .unset] [(.ref st), (.ref x), (.ref x)] 47 #[.val (.int xa), .val (.int xb), .val (.int xc), .val (.ref ai), .val (.ref li), .val (.int (1 : Int32)), .val (.int (0 : Int32)), .val (.int (1 : Int32)), .unset] [(.double (4607182418800017408 : UInt64)), (.ref ai), (.ref st), (.ref x), (.ref x)] := by
  refine own_aloadN (pc2 := 46) at_45 rfl rfl rfl ?_
  refine own_dconst1 (v := 4607182418800017408) (pc2 := 47) at_46 rfl rfl ?_
  exact own_refl
theorem own_s5_9 (xa : Int32) (xb : Int32) (xc : Int32) (ai : Addr) (li : Addr) (x : Addr) :
    own_Go own_K0 code 50 #[.val (.int xa), .val (.int xb), .val (.int xc), .val (.ref ai), .val (.ref li), .val (.int (1 : Int32)), .val (.int (0 : Int32)), .val (.int (1 : Int32)), .unset] [(.ref x)] 56 #[.val (.int xa), .val (.int xb), .val (.int xc), .val (.ref ai), .val (.ref li), .val (.int (1 : Int32)), .val (.int (0 : Int32)), .val (.int (1 : Int32)), .val (.ref x)] [(.ref li), (.ref x)] := by
  refine own_astore (pc2 := 52) at_50 rfl rfl (L' := #[.val (.int xa), .val (.int xb), .val (.int xc), .val (.ref ai), .val (.ref li), .val (.int (1 : Int32)), .val (.int (0 : Int32)), .val (.int (1 : Int32)), .val (.ref x)]) rfl ?_
  refine own_aload (pc2 := 54) at_52 rfl rfl rfl ?_
  refine own_aload (pc2 := 56) at_54 rfl rfl rfl ?_
  exact own_refl
theorem own_s5_10 (xa : Int32) (xb : Int32) (xc : Int32) (ai : Addr) (li : Addr) (x : Addr) :
    own_Go own_K0 code 59 #[.val (.int xa), .val (.int xb), .val (.int xc), .val (.ref ai), .val (.ref li), .val (.int (1 : Int32)), .val (.int (0 : Int32)), .val (.int (1 : Int32)), .val (.ref x)] [(.int (0 : Int32))] 87 #[.val (.int xa), .val (.int xb), .val (.int xc), .val (.ref ai), .val (.ref li), .val (.int (1 : Int32)), .val (.int (0 : Int32)), .val (.int (1 : Int32)), .val (.ref x)] [(.int (1 : Int32))] := by
  refine own_iload (pc2 := 61) at_59 rfl rfl ?_
  refine own_ifNo (pc2 := 64) at_61 rfl (by decide) ?_
  refine own_iload (pc2 := 66) at_64 rfl rfl ?_
  refine own_ifYes (pc' := 78) at_66 (by decide) (by decide) (by decide) ?_
  refine own_iconst (v := 0) (pc2 := 79) at_78 rfl rfl ?_
  refine own_icmpNo (pc2 := 82) at_79 rfl (by decide) ?_
  refine own_iconst (v := 1) (pc2 := 83) at_82 rfl rfl ?_
  refine own_goto (pc' := 87) at_83 (by decide) (by decide) ?_
  exact own_refl
set_option maxRecDepth 65536 in
set_option maxHeartbeats 40000000 in
theorem own_law5 (l : Launch) (Z : State) (a0 : Array Value) (hb0 : own_Base) (hw : ∀ d ∈ tables_1, d.before a0 Z = true) (xa : Int32) (xb : Int32) (xc : Int32) (h0 : own_T xa) (h1 : ¬ own_T xb) (h2 : own_T xc) :
    own_MetW l Z a0 hb0 x code maxLocals ret tables_1 room_1 #[(.int xa), (.int xb), (.int xc)] [] (fun v _ => v = some (.int 1)) := by
  refine own_met_ofW (L0 := #[.val (.int xa), .val (.int xb), .val (.int xc), .unset, .unset, .unset, .unset, .unset, .unset]) (plainFor_of_name own_pn0) (fun m => own_ef0 m xa xb xc) ?_
  intro p e s m below meth c T0 hx hZ hown hby hml hnm H0
  have hown : s.vm.findClass "com/example/placewright/placewright/model/MachineTypeHolds334PinLaw" = some m.cls := hown
  have hml : c.maxLocals = 9 := hml
  obtain ⟨Ts5_1, ai, Hs5_1, sts5_1⟩ := own_newA H0 hx hZ (hw _ (List.mem_of_getElem? (i := 0) rfl)) (g := (mkF m 1 #[.val (.int xa), .val (.int xb), .val (.int xc), .unset, .unset, .unset, .unset, .unset, .unset] [(.int (3 : Int32))])) rfl (hb hby at_1) rfl (by decide) (cap := 3) (by decide) (by decide) (by decide) (by decide)
  change own_S _ _ _ _ _ _ _ _ _ _ _ _ _ _ [(ai, own_A .double [.double 0, .double 0, .double 0])] _ _ at Hs5_1
  obtain ⟨Ts5_2, li, Hs5_2, sts5_2⟩ := own_newA Hs5_1 hx hZ (hw _ (List.mem_of_getElem? (i := 0) rfl)) (g := (mkF m 5 #[.val (.int xa), .val (.int xb), .val (.int xc), .val (.ref ai), .unset, .unset, .unset, .unset, .unset] [(.int (3 : Int32))])) rfl (hb hby at_5) rfl (by decide) (cap := 3) (by decide) (by decide) (by decide) (by decide)
  change own_S _ _ _ _ _ _ _ _ _ _ _ _ _ _ [(ai, own_A .double [.double 0, .double 0, .double 0]), (li, own_A .double [.double 0, .double 0, .double 0])] _ _ at Hs5_2
  obtain ⟨Ts5_3, vs5_3_, css5_3_, qs5_3, Hs5_3, sts5_3⟩ := own_callS Hs5_2 hx hZ hown (hw _ (List.mem_of_getElem? (i := 1) rfl)) (hw _ (List.mem_of_getElem? (i := 2) rfl)) (hw _ (List.mem_of_getElem? (i := 3) rfl)) (hw _ (List.mem_of_getElem? (i := 4) rfl)) (by decide) (argsL := [(.int xa), (.ref ai), (.ref li), (.int (0 : Int32))]) (rest := []) (W := 0) (own_fill0T l Z a0 hb0 hw xa ai li (0 : UInt64) (0 : UInt64) (0 : UInt64) (0 : UInt64) (0 : UInt64) (0 : UInt64) h0) (by decide) (by decide) (by decide) (by decide) (g := (mkF m 14 #[.val (.int xa), .val (.int xb), .val (.int xc), .val (.ref ai), .val (.ref li), .unset, .unset, .unset, .unset] [(.int (0 : Int32)), (.ref li), (.ref ai), (.int xa)])) rfl (by rw [hml]; rfl) (lenOf own_pd2 rfl) rfl (by show 2 * 0 + _ ≤ _; exact Nat.le_of_eq rfl) (hb hby at_14)
  obtain ⟨ca0, lo0, nc0, hc0, rfl, rfl⟩ := qs5_3
  change own_S _ _ _ _ _ _ _ _ _ _ _ _ _ _ [(ai, own_A .double [.double ca0, .double (0 : UInt64), .double (0 : UInt64)]), (li, own_A .double [.double lo0, .double (0 : UInt64), .double (0 : UInt64)])] _ _ at Hs5_3
  obtain ⟨Ts5_4, vs5_4_, css5_4_, qs5_4, Hs5_4, sts5_4⟩ := own_callS Hs5_3 hx hZ hown (hw _ (List.mem_of_getElem? (i := 1) rfl)) (hw _ (List.mem_of_getElem? (i := 2) rfl)) (hw _ (List.mem_of_getElem? (i := 3) rfl)) (hw _ (List.mem_of_getElem? (i := 4) rfl)) (by decide) (argsL := [(.int xb), (.ref ai), (.ref li), (.int (1 : Int32))]) (rest := []) (W := 0) (own_fill1F l Z a0 hb0 hw xb ai li ca0 (0 : UInt64) (0 : UInt64) lo0 (0 : UInt64) (0 : UInt64) h1) (by decide) (by decide) (by decide) (by decide) (g := (mkF m 24 #[.val (.int xa), .val (.int xb), .val (.int xc), .val (.ref ai), .val (.ref li), .val (.int (1 : Int32)), .unset, .unset, .unset] [(.int (1 : Int32)), (.ref li), (.ref ai), (.int xb)])) rfl (by rw [hml]; rfl) (lenOf own_pd2 rfl) rfl (by show 2 * 0 + _ ≤ _; exact Nat.le_of_eq rfl) (hb hby at_24)
  obtain ⟨ca1, lo1, nc1, hc1, rfl, rfl⟩ := qs5_4
  change own_S _ _ _ _ _ _ _ _ _ _ _ _ _ _ [(ai, own_A .double [.double ca0, .double ca1, .double (0 : UInt64)]), (li, own_A .double [.double lo0, .double lo1, .double (0 : UInt64)])] _ _ at Hs5_4
  obtain ⟨Ts5_5, vs5_5_, css5_5_, qs5_5, Hs5_5, sts5_5⟩ := own_callS Hs5_4 hx hZ hown (hw _ (List.mem_of_getElem? (i := 1) rfl)) (hw _ (List.mem_of_getElem? (i := 2) rfl)) (hw _ (List.mem_of_getElem? (i := 3) rfl)) (hw _ (List.mem_of_getElem? (i := 4) rfl)) (by decide) (argsL := [(.int xc), (.ref ai), (.ref li), (.int (2 : Int32))]) (rest := []) (W := 0) (own_fill2T l Z a0 hb0 hw xc ai li ca0 ca1 (0 : UInt64) lo0 lo1 (0 : UInt64) h2) (by decide) (by decide) (by decide) (by decide) (g := (mkF m 34 #[.val (.int xa), .val (.int xb), .val (.int xc), .val (.ref ai), .val (.ref li), .val (.int (1 : Int32)), .val (.int (0 : Int32)), .unset, .unset] [(.int (2 : Int32)), (.ref li), (.ref ai), (.int xc)])) rfl (by rw [hml]; rfl) (lenOf own_pd2 rfl) rfl (by show 2 * 0 + _ ≤ _; exact Nat.le_of_eq rfl) (hb hby at_34)
  obtain ⟨ca2, lo2, nc2, hc2, rfl, rfl⟩ := qs5_5
  change own_S _ _ _ _ _ _ _ _ _ _ _ _ _ _ [(ai, own_A .double [.double ca0, .double ca1, .double ca2]), (li, own_A .double [.double lo0, .double lo1, .double lo2])] _ _ at Hs5_5
  obtain ⟨Ts5_6, x, Hs5_6, sts5_6⟩ := own_newO Hs5_5 hx hZ hown (hw _ (List.mem_of_getElem? (i := 6) rfl)) (hw _ (List.mem_of_getElem? (i := 7) rfl)) (hw _ (List.mem_of_getElem? (i := 8) rfl)) [("com/example/placewright/placewright/model/MachineType", "name", "Ljava/lang/String;", .null), ("com/example/placewright/placewright/model/MachineType", "capacity", "[D", .null), ("com/example/placewright/placewright/model/MachineType", "pricePerHour", "D", .double 0)] (by
      intro f hf
      simp only [List.mem_cons, List.not_mem_nil, or_false] at hf
      rcases hf with rfl | rfl | rfl
      · exact ⟨Or.inr (hw _ (List.mem_of_getElem? (i := 24) rfl)), (.object "java/lang/String"), by decide, rfl⟩
      · exact ⟨Or.inr (hw _ (List.mem_of_getElem? (i := 35) rfl)), (.array .double), by decide, rfl⟩
      · exact ⟨Or.inr (hw _ (List.mem_of_getElem? (i := 37) rfl)), .double, by decide, rfl⟩) (by decide) (g := (mkF m 39 #[.val (.int xa), .val (.int xb), .val (.int xc), .val (.ref ai), .val (.ref li), .val (.int (1 : Int32)), .val (.int (0 : Int32)), .val (.int (1 : Int32)), .unset] [])) rfl (hb hby at_39) (by decide) (by decide)
  change own_S _ _ _ _ _ _ _ _ _ _ _ _ _ _ [(ai, own_A .double [.double ca0, .double ca1, .double ca2]), (li, own_A .double [.double lo0, .double lo1, .double lo2]), (x, own_O "com/example/placewright/placewright/model/MachineType" [("com/example/placewright/placewright/model/MachineType", "name", "Ljava/lang/String;", .null), ("com/example/placewright/placewright/model/MachineType", "capacity", "[D", .null), ("com/example/placewright/placewright/model/MachineType", "pricePerHour", "D", .double 0)])] _ _ at Hs5_6
  obtain ⟨st, Ts5_7, Hs5_7, hS1, hfl1, hZ1, hown1, sts5_7⟩ := own_ldcS Hs5_6 hx hZ hown (hw _ (List.mem_of_getElem? (i := 9) rfl)) (own_strAtoms hw) (g := (mkF m 43 #[.val (.int xa), .val (.int xb), .val (.int xc), .val (.ref ai), .val (.ref li), .val (.int (1 : Int32)), .val (.int (0 : Int32)), .val (.int (1 : Int32)), .unset] [(.ref x), (.ref x)])) rfl (hb hby at_43) (N := 4) (by decide) (by decide) (by decide) (by decide)
  obtain ⟨Ts5_8, vs5_8_, css5_8_, qs5_8, Hs5_8, sts5_8⟩ := own_callI Hs5_7 hx hZ1 hown1 rfl (hw _ (List.mem_of_getElem? (i := 17) rfl)) (hw _ (List.mem_of_getElem? (i := 18) rfl)) (hw _ (List.mem_of_getElem? (i := 8) rfl)) (hw _ (List.mem_of_getElem? (i := 19) rfl)) (by decide) (x := x) (argsL := [(.ref st), (.ref ai), (.double (4607182418800017408 : UInt64))]) (rest := [(.ref x)]) (W := 1) (own_mk l Z a0 ⟨hb0.b, Ts5_7.heap.size⟩ hw x st ai 4607182418800017408 ca0 ca1 ca2 li _) (by decide) (by decide) (by decide) (by decide) (g := (mkF m 47 #[.val (.int xa), .val (.int xb), .val (.int xc), .val (.ref ai), .val (.ref li), .val (.int (1 : Int32)), .val (.int (0 : Int32)), .val (.int (1 : Int32)), .unset] [(.double (4607182418800017408 : UInt64)), (.ref ai), (.ref st), (.ref x), (.ref x)])) rfl (by rw [hml]; rfl) (lenOf own_pd3 rfl) rfl (by show 2 * 0 + _ ≤ _; exact Nat.le_of_eq rfl) (hb hby at_47)
  obtain ⟨y, rfl, rfl⟩ := qs5_8
  change own_S _ _ _ _ _ _ _ _ _ _ _ _ _ _ [(ai, own_A .double [.double ca0, .double ca1, .double ca2]), (li, own_A .double [.double lo0, .double lo1, .double lo2]), (x, own_O "com/example/placewright/placewright/model/MachineType" [("com/example/placewright/placewright/model/MachineType", "name", "Ljava/lang/String;", .ref st), ("com/example/placewright/placewright/model/MachineType", "capacity", "[D", .ref y), ("com/example/placewright/placewright/model/MachineType", "pricePerHour", "D", .double (4607182418800017408 : UInt64))]), (y, own_A .double [.double ca0, .double ca1, .double ca2])] _ _ at Hs5_8
  obtain ⟨Ts5_9, vs5_9_, css5_9_, qs5_9, Hs5_9, sts5_9⟩ := own_callV Hs5_8 hx hZ1 hown1 (hw _ (List.mem_of_getElem? (i := 38) rfl)) (hw _ (List.mem_of_getElem? (i := 39) rfl)) (hw _ (List.mem_of_getElem? (i := 41) rfl)) (hw _ (List.mem_of_getElem? (i := 40) rfl)) (hw _ (List.mem_of_getElem? (i := 8) rfl)) (hw _ (List.mem_of_getElem? (i := 42) rfl)) (by decide) (x := x) 2 rfl (argsL := [(.ref li)]) (rest := []) (W := 0) (own_holds1 l Z a0 ⟨hb0.b, Ts5_7.heap.size⟩ hw x li ai st y _ 4607182418800017408 ca0 ca1 ca2 lo0 lo1 lo2 nc0 hc0 nc1 hc1) (by decide) (by decide) (by decide) (by decide) (g := (mkF m 56 #[.val (.int xa), .val (.int xb), .val (.int xc), .val (.ref ai), .val (.ref li), .val (.int (1 : Int32)), .val (.int (0 : Int32)), .val (.int (1 : Int32)), .val (.ref x)] [(.ref li), (.ref x)])) rfl (by rw [hml]; rfl) (lenOf own_pd4 rfl) rfl (by show 2 * 0 + _ ≤ _; exact Nat.le_of_eq rfl) (hb hby at_56)
  obtain ⟨rfl, rfl⟩ := qs5_9
  change own_S _ _ _ _ _ _ _ _ _ _ _ _ _ _ [(ai, own_A .double [.double ca0, .double ca1, .double ca2]), (li, own_A .double [.double lo0, .double lo1, .double lo2]), (x, own_O "com/example/placewright/placewright/model/MachineType" [("com/example/placewright/placewright/model/MachineType", "name", "Ljava/lang/String;", .ref st), ("com/example/placewright/placewright/model/MachineType", "capacity", "[D", .ref y), ("com/example/placewright/placewright/model/MachineType", "pricePerHour", "D", .double (4607182418800017408 : UInt64))]), (y, own_A .double [.double ca0, .double ca1, .double ca2])] _ _ at Hs5_9
  refine ⟨Ts5_7.vm, Ts5_7.heap.size, _, _, _, _, 87, #[.val (.int xa), .val (.int xb), .val (.int xc), .val (.ref ai), .val (.ref li), .val (.int (1 : Int32)), .val (.int (0 : Int32)), .val (.int (1 : Int32)), .val (.ref x)], hS1, hfl1, Hs5_9, by decide, by decide, Or.inr ⟨.boolean, (.int (1 : Int32)), [], .ireturn, rfl, rfl, at_87, own_retZ (Or.inr rfl), fun target q => ?_⟩⟩
  refine own_go H0 hx hZ hown hby hw own_K0_ok (own_s5_0 xa xb xc) _ ?_
  refine sts5_1 _ ?_
  refine own_go Hs5_1 hx hZ hown hby hw own_K0_ok (own_s5_1 xa xb xc ai) _ ?_
  refine own_go Hs5_1 hx hZ hown hby hw own_K0_ok (own_s5_2 xa xb xc ai) _ ?_
  refine sts5_2 _ ?_
  refine own_go Hs5_2 hx hZ hown hby hw own_K0_ok (own_s5_3 xa xb xc ai li) _ ?_
  refine sts5_3 _ ?_
  refine own_go Hs5_3 hx hZ hown hby hw own_K0_ok (own_s5_4 xa xb xc ai li) _ ?_
  refine sts5_4 _ ?_
  refine own_go Hs5_4 hx hZ hown hby hw own_K0_ok (own_s5_5 xa xb xc ai li) _ ?_
  refine sts5_5 _ ?_
  refine own_go Hs5_5 hx hZ hown hby hw own_K0_ok (own_s5_6 xa xb xc ai li) _ ?_
  refine sts5_6 _ ?_
  refine own_go Hs5_6 hx hZ hown hby hw own_K0_ok (own_s5_7 xa xb xc ai li x) _ ?_
  refine sts5_7 _ ?_
  refine own_go Hs5_7 hx hZ1 hown1 hby hw own_K0_ok (own_s5_8 xa xb xc ai li st x) _ ?_
  refine sts5_8 _ ?_
  refine own_go Hs5_8 hx hZ1 hown1 hby hw own_K0_ok (own_s5_9 xa xb xc ai li x) _ ?_
  refine sts5_9 _ ?_
  refine own_go Hs5_9 hx hZ1 hown1 hby hw own_K0_ok (own_s5_10 xa xb xc ai li x) _ ?_
  exact q
theorem own_s6_0 (xa : Int32) (xb : Int32) (xc : Int32) :
    own_Go own_K0 code 0 #[.val (.int xa), .val (.int xb), .val (.int xc), .unset, .unset, .unset, .unset, .unset, .unset] [] 1 #[.val (.int xa), .val (.int xb), .val (.int xc), .unset, .unset, .unset, .unset, .unset, .unset] [(.int (3 : Int32))] := by
  refine own_iconst (v := 3) (pc2 := 1) at_0 rfl rfl ?_
  exact own_refl
theorem own_s6_1 (xa : Int32) (xb : Int32) (xc : Int32) (ai : Addr) :
    own_Go own_K0 code 3 #[.val (.int xa), .val (.int xb), .val (.int xc), .unset, .unset, .unset, .unset, .unset, .unset] [(.ref ai)] 4 #[.val (.int xa), .val (.int xb), .val (.int xc), .val (.ref ai), .unset, .unset, .unset, .unset, .unset] [] := by
  refine own_astoreN (pc2 := 4) at_3 rfl rfl (L' := #[.val (.int xa), .val (.int xb), .val (.int xc), .val (.ref ai), .unset, .unset, .unset, .unset, .unset]) rfl ?_
  exact own_refl
theorem own_s6_2 (xa : Int32) (xb : Int32) (xc : Int32) (ai : Addr) :
    own_Go own_K0 code 4 #[.val (.int xa), .val (.int xb), .val (.int xc), .val (.ref ai), .unset, .unset, .unset, .unset, .unset] [] 5 #[.val (.int xa), .val (.int xb), .val (.int xc), .val (.ref ai), .unset, .unset, .unset, .unset, .unset] [(.int (3 : Int32))] := by
  refine own_iconst (v := 3) (pc2 := 5) at_4 rfl rfl ?_
  exact own_refl
theorem own_s6_3 (xa : Int32) (xb : Int32) (xc : Int32) (ai : Addr) (li : Addr) :
    own_Go own_K0 code 7 #[.val (.int xa), .val (.int xb), .val (.int xc), .val (.ref ai), .unset, .unset, .unset, .unset, .unset] [(.ref li)] 14 #[.val (.int xa), .val (.int xb), .val (.int xc), .val (.ref ai), .val (.ref li), .unset, .unset, .unset, .unset] [(.int (0 : Int32)), (.ref li), (.ref ai), (.int xa)] := by
  refine own_astore (pc2 := 9) at_7 rfl rfl (L' := #[.val (.int xa), .val (.int xb), .val (.int xc), .val (.ref ai), .val (.ref li), .unset, .unset, .unset, .unset]) rfl ?_
  refine own_iloadN (pc2 := 10) at_9 rfl rfl ?_
  refine own_aloadN (pc2 := 11) at_10 rfl rfl rfl ?_
  refine own_aload (pc2 := 13) at_11 rfl rfl rfl ?_
  refine own_iconst (v := 0) (pc2 := 14) at_13 rfl rfl ?_
  exact own_refl
theorem own_s6_4 (xa : Int32) (xb : Int32) (xc : Int32) (ai : Addr) (li : Addr) :
    own_Go own_K0 code 17 #[.val (.int xa), .val (.int xb), .val (.int xc), .val (.ref ai), .val (.ref li), .unset, .unset, .unset, .unset] [(.int (1 : Int32))] 24 #[.val (.int xa), .val (.int xb), .val (.int xc), .val (.ref ai), .val (.ref li), .val (.int (1 : Int32)), .unset, .unset, .unset] [(.int (1 : Int32)), (.ref li), (.ref ai), (.int xb)] := by
  refine own_istore (pc2 := 19) at_17 rfl (L' := #[.val (.int xa), .val (.int xb), .val (.int xc), .val (.ref ai), .val (.ref li), .val (.int (1 : Int32)), .unset, .unset, .unset]) rfl ?_
  refine own_iloadN (pc2 := 20) at_19 rfl rfl ?_
  refine own_aloadN (pc2 := 21) at_20 rfl rfl rfl ?_
  refine own_aload (pc2 := 23) at_21 rfl rfl rfl ?_
  refine own_iconst (v := 1) (pc2 := 24) at_23 rfl rfl ?_
  exact own_refl
theorem own_s6_5 (xa : Int32) (xb : Int32) (xc : Int32) (ai : Addr) (li : Addr) :
    own_Go own_K0 code 27 #[.val (.int xa), .val (.int xb), .val (.int xc), .val (.ref ai), .val (.ref li), .val (.int (1 : Int32)), .unset, .unset, .unset] [(.int (1 : Int32))] 34 #[.val (.int xa), .val (.int xb), .val (.int xc), .val (.ref ai), .val (.ref li), .val (.int (1 : Int32)), .val (.int (1 : Int32)), .unset, .unset] [(.int (2 : Int32)), (.ref li), (.ref ai), (.int xc)] := by
  refine own_istore (pc2 := 29) at_27 rfl (L' := #[.val (.int xa), .val (.int xb), .val (.int xc), .val (.ref ai), .val (.ref li), .val (.int (1 : Int32)), .val (.int (1 : Int32)), .unset, .unset]) rfl ?_
  refine own_iloadN (pc2 := 30) at_29 rfl rfl ?_
  refine own_aloadN (pc2 := 31) at_30 rfl rfl rfl ?_
  refine own_aload (pc2 := 33) at_31 rfl rfl rfl ?_
  refine own_iconst (v := 2) (pc2 := 34) at_33 rfl rfl ?_
  exact own_refl
theorem own_s6_6 (xa : Int32) (xb : Int32) (xc : Int32) (ai : Addr) (li : Addr) :
    own_Go own_K0 code 37 #[.val (.int xa), .val (.int xb), .val (.int xc), .val (.ref ai), .val (.ref li), .val (.int (1 : Int32)), .val (.int (1 : Int32)), .unset, .unset] [(.int (0 : Int32))] 39 #[.val (.int xa), .val (.int xb), .val (.int xc), .val (.ref ai), .val (.ref li), .val (.int (1 : Int32)), .val (.int (1 : Int32)), .val (.int (0 : Int32)), .unset] [] := by
  refine own_istore (pc2 := 39) at_37 rfl (L' := #[.val (.int xa), .val (.int xb), .val (.int xc), .val (.ref ai), .val (.ref li), .val (.int (1 : Int32)), .val (.int (1 : Int32)), .val (.int (0 : Int32)), .unset]) rfl ?_
  exact own_refl
theorem own_s6_7 (xa : Int32) (xb : Int32) (xc : Int32) (ai : Addr) (li : Addr) (x : Addr) :
    own_Go own_K0 code 42 #[.val (.int xa), .val (.int xb), .val (.int xc), .val (.ref ai), .val (.ref li), .val (.int (1 : Int32)), .val (.int (1 : Int32)), .val (.int (0 : Int32)), .unset] [(.ref x)] 43 #[.val (.int xa), .val (.int xb), .val (.int xc), .val (.ref ai), .val (.ref li), .val (.int (1 : Int32)), .val (.int (1 : Int32)), .val (.int (0 : Int32)), .unset] [(.ref x), (.ref x)] := by
  refine own_dup (pc2 := 43) at_42 rfl rfl ?_
  exact own_refl
theorem own_s6_8 (xa : Int32) (xb : Int32) (xc : Int32) (ai : Addr) (li : Addr) (st : Addr) (x : Addr) :
    own_Go own_K0 code 45 #[.val (.int xa), .val (.int xb), .val (.int xc), .val (.ref ai), .val (.ref li), .val (.int (1 : Int32)), .val (.int (1 : Int32)), .val (.int (0 : Int32)), .unset] [(.ref st), (.ref x), (.ref x)] 47 #[.val (.int xa), .val (.int xb), .val (.int xc), .val (.ref ai), .val (.ref li), .val (.int (1 : Int32)), .val (.int (1 : Int32)), .val (.int (0 : Int32)), .unset] [(.double (4607182418800017408 : UInt64)), (.ref ai), (.ref st), (.ref x), (.ref x)] := by
  refine own_aloadN (pc2 := 46) at_45 rfl rfl rfl ?_
  refine own_dconst1 (v := 4607182418800017408) (pc2 := 47) at_46 rfl rfl ?_
  exact own_refl
theorem own_s6_9 (xa : Int32) (xb : Int32) (xc : Int32) (ai : Addr) (li : Addr) (x : Addr) :
    own_Go own_K0 code 50 #[.val (.int xa), .val (.int xb), .val (.int xc), .val (.ref ai), .val (.ref li), .val (.int (1 : Int32)), .val (.int (1 : Int32)), .val (.int (0 : Int32)), .unset] [(.ref x)] 56 #[.val (.int xa), .val (.int xb), .val (.int xc), .val (.ref ai), .val (.ref li), .val (.int (1 : Int32)), .val (.int (1 : Int32)), .val (.int (0 : Int32)), .val (.ref x)] [(.ref li), (.ref x)] := by
  refine own_astore (pc2 := 52) at_50 rfl rfl (L' := #[.val (.int xa), .val (.int xb), .val (.int xc), .val (.ref ai), .val (.ref li), .val (.int (1 : Int32)), .val (.int (1 : Int32)), .val (.int (0 : Int32)), .val (.ref x)]) rfl ?_
  refine own_aload (pc2 := 54) at_52 rfl rfl rfl ?_
  refine own_aload (pc2 := 56) at_54 rfl rfl rfl ?_
  exact own_refl
theorem own_s6_10 (xa : Int32) (xb : Int32) (xc : Int32) (ai : Addr) (li : Addr) (x : Addr) :
    own_Go own_K0 code 59 #[.val (.int xa), .val (.int xb), .val (.int xc), .val (.ref ai), .val (.ref li), .val (.int (1 : Int32)), .val (.int (1 : Int32)), .val (.int (0 : Int32)), .val (.ref x)] [(.int (0 : Int32))] 87 #[.val (.int xa), .val (.int xb), .val (.int xc), .val (.ref ai), .val (.ref li), .val (.int (1 : Int32)), .val (.int (1 : Int32)), .val (.int (0 : Int32)), .val (.ref x)] [(.int (1 : Int32))] := by
  refine own_iload (pc2 := 61) at_59 rfl rfl ?_
  refine own_ifNo (pc2 := 64) at_61 rfl (by decide) ?_
  refine own_iload (pc2 := 66) at_64 rfl rfl ?_
  refine own_ifNo (pc2 := 69) at_66 rfl (by decide) ?_
  refine own_iload (pc2 := 71) at_69 rfl rfl ?_
  refine own_ifYes (pc' := 78) at_71 (by decide) (by decide) (by decide) ?_
  refine own_iconst (v := 0) (pc2 := 79) at_78 rfl rfl ?_
  refine own_icmpNo (pc2 := 82) at_79 rfl (by decide) ?_
  refine own_iconst (v := 1) (pc2 := 83) at_82 rfl rfl ?_
  refine own_goto (pc' := 87) at_83 (by decide) (by decide) ?_
  exact own_refl
set_option maxRecDepth 65536 in
set_option maxHeartbeats 40000000 in
theorem own_law6 (l : Launch) (Z : State) (a0 : Array Value) (hb0 : own_Base) (hw : ∀ d ∈ tables_1, d.before a0 Z = true) (xa : Int32) (xb : Int32) (xc : Int32) (h0 : own_T xa) (h1 : own_T xb) (h2 : ¬ own_T xc) :
    own_MetW l Z a0 hb0 x code maxLocals ret tables_1 room_1 #[(.int xa), (.int xb), (.int xc)] [] (fun v _ => v = some (.int 1)) := by
  refine own_met_ofW (L0 := #[.val (.int xa), .val (.int xb), .val (.int xc), .unset, .unset, .unset, .unset, .unset, .unset]) (plainFor_of_name own_pn0) (fun m => own_ef0 m xa xb xc) ?_
  intro p e s m below meth c T0 hx hZ hown hby hml hnm H0
  have hown : s.vm.findClass "com/example/placewright/placewright/model/MachineTypeHolds334PinLaw" = some m.cls := hown
  have hml : c.maxLocals = 9 := hml
  obtain ⟨Ts6_1, ai, Hs6_1, sts6_1⟩ := own_newA H0 hx hZ (hw _ (List.mem_of_getElem? (i := 0) rfl)) (g := (mkF m 1 #[.val (.int xa), .val (.int xb), .val (.int xc), .unset, .unset, .unset, .unset, .unset, .unset] [(.int (3 : Int32))])) rfl (hb hby at_1) rfl (by decide) (cap := 3) (by decide) (by decide) (by decide) (by decide)
  change own_S _ _ _ _ _ _ _ _ _ _ _ _ _ _ [(ai, own_A .double [.double 0, .double 0, .double 0])] _ _ at Hs6_1
  obtain ⟨Ts6_2, li, Hs6_2, sts6_2⟩ := own_newA Hs6_1 hx hZ (hw _ (List.mem_of_getElem? (i := 0) rfl)) (g := (mkF m 5 #[.val (.int xa), .val (.int xb), .val (.int xc), .val (.ref ai), .unset, .unset, .unset, .unset, .unset] [(.int (3 : Int32))])) rfl (hb hby at_5) rfl (by decide) (cap := 3) (by decide) (by decide) (by decide) (by decide)
  change own_S _ _ _ _ _ _ _ _ _ _ _ _ _ _ [(ai, own_A .double [.double 0, .double 0, .double 0]), (li, own_A .double [.double 0, .double 0, .double 0])] _ _ at Hs6_2
  obtain ⟨Ts6_3, vs6_3_, css6_3_, qs6_3, Hs6_3, sts6_3⟩ := own_callS Hs6_2 hx hZ hown (hw _ (List.mem_of_getElem? (i := 1) rfl)) (hw _ (List.mem_of_getElem? (i := 2) rfl)) (hw _ (List.mem_of_getElem? (i := 3) rfl)) (hw _ (List.mem_of_getElem? (i := 4) rfl)) (by decide) (argsL := [(.int xa), (.ref ai), (.ref li), (.int (0 : Int32))]) (rest := []) (W := 0) (own_fill0T l Z a0 hb0 hw xa ai li (0 : UInt64) (0 : UInt64) (0 : UInt64) (0 : UInt64) (0 : UInt64) (0 : UInt64) h0) (by decide) (by decide) (by decide) (by decide) (g := (mkF m 14 #[.val (.int xa), .val (.int xb), .val (.int xc), .val (.ref ai), .val (.ref li), .unset, .unset, .unset, .unset] [(.int (0 : Int32)), (.ref li), (.ref ai), (.int xa)])) rfl (by rw [hml]; rfl) (lenOf own_pd2 rfl) rfl (by show 2 * 0 + _ ≤ _; exact Nat.le_of_eq rfl) (hb hby at_14)
  obtain ⟨ca0, lo0, nc0, hc0, rfl, rfl⟩ := qs6_3
  change own_S _ _ _ _ _ _ _ _ _ _ _ _ _ _ [(ai, own_A .double [.double ca0, .double (0 : UInt64), .double (0 : UInt64)]), (li, own_A .double [.double lo0, .double (0 : UInt64), .double (0 : UInt64)])] _ _ at Hs6_3
  obtain ⟨Ts6_4, vs6_4_, css6_4_, qs6_4, Hs6_4, sts6_4⟩ := own_callS Hs6_3 hx hZ hown (hw _ (List.mem_of_getElem? (i := 1) rfl)) (hw _ (List.mem_of_getElem? (i := 2) rfl)) (hw _ (List.mem_of_getElem? (i := 3) rfl)) (hw _ (List.mem_of_getElem? (i := 4) rfl)) (by decide) (argsL := [(.int xb), (.ref ai), (.ref li), (.int (1 : Int32))]) (rest := []) (W := 0) (own_fill1T l Z a0 hb0 hw xb ai li ca0 (0 : UInt64) (0 : UInt64) lo0 (0 : UInt64) (0 : UInt64) h1) (by decide) (by decide) (by decide) (by decide) (g := (mkF m 24 #[.val (.int xa), .val (.int xb), .val (.int xc), .val (.ref ai), .val (.ref li), .val (.int (1 : Int32)), .unset, .unset, .unset] [(.int (1 : Int32)), (.ref li), (.ref ai), (.int xb)])) rfl (by rw [hml]; rfl) (lenOf own_pd2 rfl) rfl (by show 2 * 0 + _ ≤ _; exact Nat.le_of_eq rfl) (hb hby at_24)
  obtain ⟨ca1, lo1, nc1, hc1, rfl, rfl⟩ := qs6_4
  change own_S _ _ _ _ _ _ _ _ _ _ _ _ _ _ [(ai, own_A .double [.double ca0, .double ca1, .double (0 : UInt64)]), (li, own_A .double [.double lo0, .double lo1, .double (0 : UInt64)])] _ _ at Hs6_4
  obtain ⟨Ts6_5, vs6_5_, css6_5_, qs6_5, Hs6_5, sts6_5⟩ := own_callS Hs6_4 hx hZ hown (hw _ (List.mem_of_getElem? (i := 1) rfl)) (hw _ (List.mem_of_getElem? (i := 2) rfl)) (hw _ (List.mem_of_getElem? (i := 3) rfl)) (hw _ (List.mem_of_getElem? (i := 4) rfl)) (by decide) (argsL := [(.int xc), (.ref ai), (.ref li), (.int (2 : Int32))]) (rest := []) (W := 0) (own_fill2F l Z a0 hb0 hw xc ai li ca0 ca1 (0 : UInt64) lo0 lo1 (0 : UInt64) h2) (by decide) (by decide) (by decide) (by decide) (g := (mkF m 34 #[.val (.int xa), .val (.int xb), .val (.int xc), .val (.ref ai), .val (.ref li), .val (.int (1 : Int32)), .val (.int (1 : Int32)), .unset, .unset] [(.int (2 : Int32)), (.ref li), (.ref ai), (.int xc)])) rfl (by rw [hml]; rfl) (lenOf own_pd2 rfl) rfl (by show 2 * 0 + _ ≤ _; exact Nat.le_of_eq rfl) (hb hby at_34)
  obtain ⟨ca2, lo2, nc2, hc2, rfl, rfl⟩ := qs6_5
  change own_S _ _ _ _ _ _ _ _ _ _ _ _ _ _ [(ai, own_A .double [.double ca0, .double ca1, .double ca2]), (li, own_A .double [.double lo0, .double lo1, .double lo2])] _ _ at Hs6_5
  obtain ⟨Ts6_6, x, Hs6_6, sts6_6⟩ := own_newO Hs6_5 hx hZ hown (hw _ (List.mem_of_getElem? (i := 6) rfl)) (hw _ (List.mem_of_getElem? (i := 7) rfl)) (hw _ (List.mem_of_getElem? (i := 8) rfl)) [("com/example/placewright/placewright/model/MachineType", "name", "Ljava/lang/String;", .null), ("com/example/placewright/placewright/model/MachineType", "capacity", "[D", .null), ("com/example/placewright/placewright/model/MachineType", "pricePerHour", "D", .double 0)] (by
      intro f hf
      simp only [List.mem_cons, List.not_mem_nil, or_false] at hf
      rcases hf with rfl | rfl | rfl
      · exact ⟨Or.inr (hw _ (List.mem_of_getElem? (i := 24) rfl)), (.object "java/lang/String"), by decide, rfl⟩
      · exact ⟨Or.inr (hw _ (List.mem_of_getElem? (i := 35) rfl)), (.array .double), by decide, rfl⟩
      · exact ⟨Or.inr (hw _ (List.mem_of_getElem? (i := 37) rfl)), .double, by decide, rfl⟩) (by decide) (g := (mkF m 39 #[.val (.int xa), .val (.int xb), .val (.int xc), .val (.ref ai), .val (.ref li), .val (.int (1 : Int32)), .val (.int (1 : Int32)), .val (.int (0 : Int32)), .unset] [])) rfl (hb hby at_39) (by decide) (by decide)
  change own_S _ _ _ _ _ _ _ _ _ _ _ _ _ _ [(ai, own_A .double [.double ca0, .double ca1, .double ca2]), (li, own_A .double [.double lo0, .double lo1, .double lo2]), (x, own_O "com/example/placewright/placewright/model/MachineType" [("com/example/placewright/placewright/model/MachineType", "name", "Ljava/lang/String;", .null), ("com/example/placewright/placewright/model/MachineType", "capacity", "[D", .null), ("com/example/placewright/placewright/model/MachineType", "pricePerHour", "D", .double 0)])] _ _ at Hs6_6
  obtain ⟨st, Ts6_7, Hs6_7, hS1, hfl1, hZ1, hown1, sts6_7⟩ := own_ldcS Hs6_6 hx hZ hown (hw _ (List.mem_of_getElem? (i := 9) rfl)) (own_strAtoms hw) (g := (mkF m 43 #[.val (.int xa), .val (.int xb), .val (.int xc), .val (.ref ai), .val (.ref li), .val (.int (1 : Int32)), .val (.int (1 : Int32)), .val (.int (0 : Int32)), .unset] [(.ref x), (.ref x)])) rfl (hb hby at_43) (N := 4) (by decide) (by decide) (by decide) (by decide)
  obtain ⟨Ts6_8, vs6_8_, css6_8_, qs6_8, Hs6_8, sts6_8⟩ := own_callI Hs6_7 hx hZ1 hown1 rfl (hw _ (List.mem_of_getElem? (i := 17) rfl)) (hw _ (List.mem_of_getElem? (i := 18) rfl)) (hw _ (List.mem_of_getElem? (i := 8) rfl)) (hw _ (List.mem_of_getElem? (i := 19) rfl)) (by decide) (x := x) (argsL := [(.ref st), (.ref ai), (.double (4607182418800017408 : UInt64))]) (rest := [(.ref x)]) (W := 1) (own_mk l Z a0 ⟨hb0.b, Ts6_7.heap.size⟩ hw x st ai 4607182418800017408 ca0 ca1 ca2 li _) (by decide) (by decide) (by decide) (by decide) (g := (mkF m 47 #[.val (.int xa), .val (.int xb), .val (.int xc), .val (.ref ai), .val (.ref li), .val (.int (1 : Int32)), .val (.int (1 : Int32)), .val (.int (0 : Int32)), .unset] [(.double (4607182418800017408 : UInt64)), (.ref ai), (.ref st), (.ref x), (.ref x)])) rfl (by rw [hml]; rfl) (lenOf own_pd3 rfl) rfl (by show 2 * 0 + _ ≤ _; exact Nat.le_of_eq rfl) (hb hby at_47)
  obtain ⟨y, rfl, rfl⟩ := qs6_8
  change own_S _ _ _ _ _ _ _ _ _ _ _ _ _ _ [(ai, own_A .double [.double ca0, .double ca1, .double ca2]), (li, own_A .double [.double lo0, .double lo1, .double lo2]), (x, own_O "com/example/placewright/placewright/model/MachineType" [("com/example/placewright/placewright/model/MachineType", "name", "Ljava/lang/String;", .ref st), ("com/example/placewright/placewright/model/MachineType", "capacity", "[D", .ref y), ("com/example/placewright/placewright/model/MachineType", "pricePerHour", "D", .double (4607182418800017408 : UInt64))]), (y, own_A .double [.double ca0, .double ca1, .double ca2])] _ _ at Hs6_8
  obtain ⟨Ts6_9, vs6_9_, css6_9_, qs6_9, Hs6_9, sts6_9⟩ := own_callV Hs6_8 hx hZ1 hown1 (hw _ (List.mem_of_getElem? (i := 38) rfl)) (hw _ (List.mem_of_getElem? (i := 39) rfl)) (hw _ (List.mem_of_getElem? (i := 41) rfl)) (hw _ (List.mem_of_getElem? (i := 40) rfl)) (hw _ (List.mem_of_getElem? (i := 8) rfl)) (hw _ (List.mem_of_getElem? (i := 42) rfl)) (by decide) (x := x) 2 rfl (argsL := [(.ref li)]) (rest := []) (W := 0) (own_holds2 l Z a0 ⟨hb0.b, Ts6_7.heap.size⟩ hw x li ai st y _ 4607182418800017408 ca0 ca1 ca2 lo0 lo1 lo2 nc0 hc0 nc1 hc1 nc2 hc2) (by decide) (by decide) (by decide) (by decide) (g := (mkF m 56 #[.val (.int xa), .val (.int xb), .val (.int xc), .val (.ref ai), .val (.ref li), .val (.int (1 : Int32)), .val (.int (1 : Int32)), .val (.int (0 : Int32)), .val (.ref x)] [(.ref li), (.ref x)])) rfl (by rw [hml]; rfl) (lenOf own_pd4 rfl) rfl (by show 2 * 0 + _ ≤ _; exact Nat.le_of_eq rfl) (hb hby at_56)
  obtain ⟨rfl, rfl⟩ := qs6_9
  change own_S _ _ _ _ _ _ _ _ _ _ _ _ _ _ [(ai, own_A .double [.double ca0, .double ca1, .double ca2]), (li, own_A .double [.double lo0, .double lo1, .double lo2]), (x, own_O "com/example/placewright/placewright/model/MachineType" [("com/example/placewright/placewright/model/MachineType", "name", "Ljava/lang/String;", .ref st), ("com/example/placewright/placewright/model/MachineType", "capacity", "[D", .ref y), ("com/example/placewright/placewright/model/MachineType", "pricePerHour", "D", .double (4607182418800017408 : UInt64))]), (y, own_A .double [.double ca0, .double ca1, .double ca2])] _ _ at Hs6_9
  refine ⟨Ts6_7.vm, Ts6_7.heap.size, _, _, _, _, 87, #[.val (.int xa), .val (.int xb), .val (.int xc), .val (.ref ai), .val (.ref li), .val (.int (1 : Int32)), .val (.int (1 : Int32)), .val (.int (0 : Int32)), .val (.ref x)], hS1, hfl1, Hs6_9, by decide, by decide, Or.inr ⟨.boolean, (.int (1 : Int32)), [], .ireturn, rfl, rfl, at_87, own_retZ (Or.inr rfl), fun target q => ?_⟩⟩
  refine own_go H0 hx hZ hown hby hw own_K0_ok (own_s6_0 xa xb xc) _ ?_
  refine sts6_1 _ ?_
  refine own_go Hs6_1 hx hZ hown hby hw own_K0_ok (own_s6_1 xa xb xc ai) _ ?_
  refine own_go Hs6_1 hx hZ hown hby hw own_K0_ok (own_s6_2 xa xb xc ai) _ ?_
  refine sts6_2 _ ?_
  refine own_go Hs6_2 hx hZ hown hby hw own_K0_ok (own_s6_3 xa xb xc ai li) _ ?_
  refine sts6_3 _ ?_
  refine own_go Hs6_3 hx hZ hown hby hw own_K0_ok (own_s6_4 xa xb xc ai li) _ ?_
  refine sts6_4 _ ?_
  refine own_go Hs6_4 hx hZ hown hby hw own_K0_ok (own_s6_5 xa xb xc ai li) _ ?_
  refine sts6_5 _ ?_
  refine own_go Hs6_5 hx hZ hown hby hw own_K0_ok (own_s6_6 xa xb xc ai li) _ ?_
  refine sts6_6 _ ?_
  refine own_go Hs6_6 hx hZ hown hby hw own_K0_ok (own_s6_7 xa xb xc ai li x) _ ?_
  refine sts6_7 _ ?_
  refine own_go Hs6_7 hx hZ1 hown1 hby hw own_K0_ok (own_s6_8 xa xb xc ai li st x) _ ?_
  refine sts6_8 _ ?_
  refine own_go Hs6_8 hx hZ1 hown1 hby hw own_K0_ok (own_s6_9 xa xb xc ai li x) _ ?_
  refine sts6_9 _ ?_
  refine own_go Hs6_9 hx hZ1 hown1 hby hw own_K0_ok (own_s6_10 xa xb xc ai li x) _ ?_
  exact q
theorem own_s7_0 (xa : Int32) (xb : Int32) (xc : Int32) :
    own_Go own_K0 code 0 #[.val (.int xa), .val (.int xb), .val (.int xc), .unset, .unset, .unset, .unset, .unset, .unset] [] 1 #[.val (.int xa), .val (.int xb), .val (.int xc), .unset, .unset, .unset, .unset, .unset, .unset] [(.int (3 : Int32))] := by
  refine own_iconst (v := 3) (pc2 := 1) at_0 rfl rfl ?_
  exact own_refl
theorem own_s7_1 (xa : Int32) (xb : Int32) (xc : Int32) (ai : Addr) :
    own_Go own_K0 code 3 #[.val (.int xa), .val (.int xb), .val (.int xc), .unset, .unset, .unset, .unset, .unset, .unset] [(.ref ai)] 4 #[.val (.int xa), .val (.int xb), .val (.int xc), .val (.ref ai), .unset, .unset, .unset, .unset, .unset] [] := by
  refine own_astoreN (pc2 := 4) at_3 rfl rfl (L' := #[.val (.int xa), .val (.int xb), .val (.int xc), .val (.ref ai), .unset, .unset, .unset, .unset, .unset]) rfl ?_
  exact own_refl
theorem own_s7_2 (xa : Int32) (xb : Int32) (xc : Int32) (ai : Addr) :
    own_Go own_K0 code 4 #[.val (.int xa), .val (.int xb), .val (.int xc), .val (.ref ai), .unset, .unset, .unset, .unset, .unset] [] 5 #[.val (.int xa), .val (.int xb), .val (.int xc), .val (.ref ai), .unset, .unset, .unset, .unset, .unset] [(.int (3 : Int32))] := by
  refine own_iconst (v := 3) (pc2 := 5) at_4 rfl rfl ?_
  exact own_refl
theorem own_s7_3 (xa : Int32) (xb : Int32) (xc : Int32) (ai : Addr) (li : Addr) :
    own_Go own_K0 code 7 #[.val (.int xa), .val (.int xb), .val (.int xc), .val (.ref ai), .unset, .unset, .unset, .unset, .unset] [(.ref li)] 14 #[.val (.int xa), .val (.int xb), .val (.int xc), .val (.ref ai), .val (.ref li), .unset, .unset, .unset, .unset] [(.int (0 : Int32)), (.ref li), (.ref ai), (.int xa)] := by
  refine own_astore (pc2 := 9) at_7 rfl rfl (L' := #[.val (.int xa), .val (.int xb), .val (.int xc), .val (.ref ai), .val (.ref li), .unset, .unset, .unset, .unset]) rfl ?_
  refine own_iloadN (pc2 := 10) at_9 rfl rfl ?_
  refine own_aloadN (pc2 := 11) at_10 rfl rfl rfl ?_
  refine own_aload (pc2 := 13) at_11 rfl rfl rfl ?_
  refine own_iconst (v := 0) (pc2 := 14) at_13 rfl rfl ?_
  exact own_refl
theorem own_s7_4 (xa : Int32) (xb : Int32) (xc : Int32) (ai : Addr) (li : Addr) :
    own_Go own_K0 code 17 #[.val (.int xa), .val (.int xb), .val (.int xc), .val (.ref ai), .val (.ref li), .unset, .unset, .unset, .unset] [(.int (1 : Int32))] 24 #[.val (.int xa), .val (.int xb), .val (.int xc), .val (.ref ai), .val (.ref li), .val (.int (1 : Int32)), .unset, .unset, .unset] [(.int (1 : Int32)), (.ref li), (.ref ai), (.int xb)] := by
  refine own_istore (pc2 := 19) at_17 rfl (L' := #[.val (.int xa), .val (.int xb), .val (.int xc), .val (.ref ai), .val (.ref li), .val (.int (1 : Int32)), .unset, .unset, .unset]) rfl ?_
  refine own_iloadN (pc2 := 20) at_19 rfl rfl ?_
  refine own_aloadN (pc2 := 21) at_20 rfl rfl rfl ?_
  refine own_aload (pc2 := 23) at_21 rfl rfl rfl ?_
  refine own_iconst (v := 1) (pc2 := 24) at_23 rfl rfl ?_
  exact own_refl
theorem own_s7_5 (xa : Int32) (xb : Int32) (xc : Int32) (ai : Addr) (li : Addr) :
    own_Go own_K0 code 27 #[.val (.int xa), .val (.int xb), .val (.int xc), .val (.ref ai), .val (.ref li), .val (.int (1 : Int32)), .unset, .unset, .unset] [(.int (1 : Int32))] 34 #[.val (.int xa), .val (.int xb), .val (.int xc), .val (.ref ai), .val (.ref li), .val (.int (1 : Int32)), .val (.int (1 : Int32)), .unset, .unset] [(.int (2 : Int32)), (.ref li), (.ref ai), (.int xc)] := by
  refine own_istore (pc2 := 29) at_27 rfl (L' := #[.val (.int xa), .val (.int xb), .val (.int xc), .val (.ref ai), .val (.ref li), .val (.int (1 : Int32)), .val (.int (1 : Int32)), .unset, .unset]) rfl ?_
  refine own_iloadN (pc2 := 30) at_29 rfl rfl ?_
  refine own_aloadN (pc2 := 31) at_30 rfl rfl rfl ?_
  refine own_aload (pc2 := 33) at_31 rfl rfl rfl ?_
  refine own_iconst (v := 2) (pc2 := 34) at_33 rfl rfl ?_
  exact own_refl
theorem own_s7_6 (xa : Int32) (xb : Int32) (xc : Int32) (ai : Addr) (li : Addr) :
    own_Go own_K0 code 37 #[.val (.int xa), .val (.int xb), .val (.int xc), .val (.ref ai), .val (.ref li), .val (.int (1 : Int32)), .val (.int (1 : Int32)), .unset, .unset] [(.int (1 : Int32))] 39 #[.val (.int xa), .val (.int xb), .val (.int xc), .val (.ref ai), .val (.ref li), .val (.int (1 : Int32)), .val (.int (1 : Int32)), .val (.int (1 : Int32)), .unset] [] := by
  refine own_istore (pc2 := 39) at_37 rfl (L' := #[.val (.int xa), .val (.int xb), .val (.int xc), .val (.ref ai), .val (.ref li), .val (.int (1 : Int32)), .val (.int (1 : Int32)), .val (.int (1 : Int32)), .unset]) rfl ?_
  exact own_refl
theorem own_s7_7 (xa : Int32) (xb : Int32) (xc : Int32) (ai : Addr) (li : Addr) (x : Addr) :
    own_Go own_K0 code 42 #[.val (.int xa), .val (.int xb), .val (.int xc), .val (.ref ai), .val (.ref li), .val (.int (1 : Int32)), .val (.int (1 : Int32)), .val (.int (1 : Int32)), .unset] [(.ref x)] 43 #[.val (.int xa), .val (.int xb), .val (.int xc), .val (.ref ai), .val (.ref li), .val (.int (1 : Int32)), .val (.int (1 : Int32)), .val (.int (1 : Int32)), .unset] [(.ref x), (.ref x)] := by
  refine own_dup (pc2 := 43) at_42 rfl rfl ?_
  exact own_refl
theorem own_s7_8 (xa : Int32) (xb : Int32) (xc : Int32) (ai : Addr) (li : Addr) (st : Addr) (x : Addr) :
    own_Go own_K0 code 45 #[.val (.int xa), .val (.int xb), .val (.int xc), .val (.ref ai), .val (.ref li), .val (.int (1 : Int32)), .val (.int (1 : Int32)), .val (.int (1 : Int32)), .unset] [(.ref st), (.ref x), (.ref x)] 47 #[.val (.int xa), .val (.int xb), .val (.int xc), .val (.ref ai), .val (.ref li), .val (.int (1 : Int32)), .val (.int (1 : Int32)), .val (.int (1 : Int32)), .unset] [(.double (4607182418800017408 : UInt64)), (.ref ai), (.ref st), (.ref x), (.ref x)] := by
  refine own_aloadN (pc2 := 46) at_45 rfl rfl rfl ?_
  refine own_dconst1 (v := 4607182418800017408) (pc2 := 47) at_46 rfl rfl ?_
  exact own_refl
theorem own_s7_9 (xa : Int32) (xb : Int32) (xc : Int32) (ai : Addr) (li : Addr) (x : Addr) :
    own_Go own_K0 code 50 #[.val (.int xa), .val (.int xb), .val (.int xc), .val (.ref ai), .val (.ref li), .val (.int (1 : Int32)), .val (.int (1 : Int32)), .val (.int (1 : Int32)), .unset] [(.ref x)] 56 #[.val (.int xa), .val (.int xb), .val (.int xc), .val (.ref ai), .val (.ref li), .val (.int (1 : Int32)), .val (.int (1 : Int32)), .val (.int (1 : Int32)), .val (.ref x)] [(.ref li), (.ref x)] := by
  refine own_astore (pc2 := 52) at_50 rfl rfl (L' := #[.val (.int xa), .val (.int xb), .val (.int xc), .val (.ref ai), .val (.ref li), .val (.int (1 : Int32)), .val (.int (1 : Int32)), .val (.int (1 : Int32)), .val (.ref x)]) rfl ?_
  refine own_aload (pc2 := 54) at_52 rfl rfl rfl ?_
  refine own_aload (pc2 := 56) at_54 rfl rfl rfl ?_
  exact own_refl
theorem own_s7_10 (xa : Int32) (xb : Int32) (xc : Int32) (ai : Addr) (li : Addr) (x : Addr) :
    own_Go own_K0 code 59 #[.val (.int xa), .val (.int xb), .val (.int xc), .val (.ref ai), .val (.ref li), .val (.int (1 : Int32)), .val (.int (1 : Int32)), .val (.int (1 : Int32)), .val (.ref x)] [(.int (1 : Int32))] 87 #[.val (.int xa), .val (.int xb), .val (.int xc), .val (.ref ai), .val (.ref li), .val (.int (1 : Int32)), .val (.int (1 : Int32)), .val (.int (1 : Int32)), .val (.ref x)] [(.int (1 : Int32))] := by
  refine own_iload (pc2 := 61) at_59 rfl rfl ?_
  refine own_ifNo (pc2 := 64) at_61 rfl (by decide) ?_
  refine own_iload (pc2 := 66) at_64 rfl rfl ?_
  refine own_ifNo (pc2 := 69) at_66 rfl (by decide) ?_
  refine own_iload (pc2 := 71) at_69 rfl rfl ?_
  refine own_ifNo (pc2 := 74) at_71 rfl (by decide) ?_
  refine own_iconst (v := 1) (pc2 := 75) at_74 rfl rfl ?_
  refine own_goto (pc' := 79) at_75 (by decide) (by decide) ?_
  refine own_icmpNo (pc2 := 82) at_79 rfl (by decide) ?_
  refine own_iconst (v := 1) (pc2 := 83) at_82 rfl rfl ?_
  refine own_goto (pc' := 87) at_83 (by decide) (by decide) ?_
  exact own_refl
set_option maxRecDepth 65536 in
set_option maxHeartbeats 40000000 in
theorem own_law7 (l : Launch) (Z : State) (a0 : Array Value) (hb0 : own_Base) (hw : ∀ d ∈ tables_1, d.before a0 Z = true) (xa : Int32) (xb : Int32) (xc : Int32) (h0 : own_T xa) (h1 : own_T xb) (h2 : own_T xc) :
    own_MetW l Z a0 hb0 x code maxLocals ret tables_1 room_1 #[(.int xa), (.int xb), (.int xc)] [] (fun v _ => v = some (.int 1)) := by
  refine own_met_ofW (L0 := #[.val (.int xa), .val (.int xb), .val (.int xc), .unset, .unset, .unset, .unset, .unset, .unset]) (plainFor_of_name own_pn0) (fun m => own_ef0 m xa xb xc) ?_
  intro p e s m below meth c T0 hx hZ hown hby hml hnm H0
  have hown : s.vm.findClass "com/example/placewright/placewright/model/MachineTypeHolds334PinLaw" = some m.cls := hown
  have hml : c.maxLocals = 9 := hml
  obtain ⟨Ts7_1, ai, Hs7_1, sts7_1⟩ := own_newA H0 hx hZ (hw _ (List.mem_of_getElem? (i := 0) rfl)) (g := (mkF m 1 #[.val (.int xa), .val (.int xb), .val (.int xc), .unset, .unset, .unset, .unset, .unset, .unset] [(.int (3 : Int32))])) rfl (hb hby at_1) rfl (by decide) (cap := 3) (by decide) (by decide) (by decide) (by decide)
  change own_S _ _ _ _ _ _ _ _ _ _ _ _ _ _ [(ai, own_A .double [.double 0, .double 0, .double 0])] _ _ at Hs7_1
  obtain ⟨Ts7_2, li, Hs7_2, sts7_2⟩ := own_newA Hs7_1 hx hZ (hw _ (List.mem_of_getElem? (i := 0) rfl)) (g := (mkF m 5 #[.val (.int xa), .val (.int xb), .val (.int xc), .val (.ref ai), .unset, .unset, .unset, .unset, .unset] [(.int (3 : Int32))])) rfl (hb hby at_5) rfl (by decide) (cap := 3) (by decide) (by decide) (by decide) (by decide)
  change own_S _ _ _ _ _ _ _ _ _ _ _ _ _ _ [(ai, own_A .double [.double 0, .double 0, .double 0]), (li, own_A .double [.double 0, .double 0, .double 0])] _ _ at Hs7_2
  obtain ⟨Ts7_3, vs7_3_, css7_3_, qs7_3, Hs7_3, sts7_3⟩ := own_callS Hs7_2 hx hZ hown (hw _ (List.mem_of_getElem? (i := 1) rfl)) (hw _ (List.mem_of_getElem? (i := 2) rfl)) (hw _ (List.mem_of_getElem? (i := 3) rfl)) (hw _ (List.mem_of_getElem? (i := 4) rfl)) (by decide) (argsL := [(.int xa), (.ref ai), (.ref li), (.int (0 : Int32))]) (rest := []) (W := 0) (own_fill0T l Z a0 hb0 hw xa ai li (0 : UInt64) (0 : UInt64) (0 : UInt64) (0 : UInt64) (0 : UInt64) (0 : UInt64) h0) (by decide) (by decide) (by decide) (by decide) (g := (mkF m 14 #[.val (.int xa), .val (.int xb), .val (.int xc), .val (.ref ai), .val (.ref li), .unset, .unset, .unset, .unset] [(.int (0 : Int32)), (.ref li), (.ref ai), (.int xa)])) rfl (by rw [hml]; rfl) (lenOf own_pd2 rfl) rfl (by show 2 * 0 + _ ≤ _; exact Nat.le_of_eq rfl) (hb hby at_14)
  obtain ⟨ca0, lo0, nc0, hc0, rfl, rfl⟩ := qs7_3
  change own_S _ _ _ _ _ _ _ _ _ _ _ _ _ _ [(ai, own_A .double [.double ca0, .double (0 : UInt64), .double (0 : UInt64)]), (li, own_A .double [.double lo0, .double (0 : UInt64), .double (0 : UInt64)])] _ _ at Hs7_3
  obtain ⟨Ts7_4, vs7_4_, css7_4_, qs7_4, Hs7_4, sts7_4⟩ := own_callS Hs7_3 hx hZ hown (hw _ (List.mem_of_getElem? (i := 1) rfl)) (hw _ (List.mem_of_getElem? (i := 2) rfl)) (hw _ (List.mem_of_getElem? (i := 3) rfl)) (hw _ (List.mem_of_getElem? (i := 4) rfl)) (by decide) (argsL := [(.int xb), (.ref ai), (.ref li), (.int (1 : Int32))]) (rest := []) (W := 0) (own_fill1T l Z a0 hb0 hw xb ai li ca0 (0 : UInt64) (0 : UInt64) lo0 (0 : UInt64) (0 : UInt64) h1) (by decide) (by decide) (by decide) (by decide) (g := (mkF m 24 #[.val (.int xa), .val (.int xb), .val (.int xc), .val (.ref ai), .val (.ref li), .val (.int (1 : Int32)), .unset, .unset, .unset] [(.int (1 : Int32)), (.ref li), (.ref ai), (.int xb)])) rfl (by rw [hml]; rfl) (lenOf own_pd2 rfl) rfl (by show 2 * 0 + _ ≤ _; exact Nat.le_of_eq rfl) (hb hby at_24)
  obtain ⟨ca1, lo1, nc1, hc1, rfl, rfl⟩ := qs7_4
  change own_S _ _ _ _ _ _ _ _ _ _ _ _ _ _ [(ai, own_A .double [.double ca0, .double ca1, .double (0 : UInt64)]), (li, own_A .double [.double lo0, .double lo1, .double (0 : UInt64)])] _ _ at Hs7_4
  obtain ⟨Ts7_5, vs7_5_, css7_5_, qs7_5, Hs7_5, sts7_5⟩ := own_callS Hs7_4 hx hZ hown (hw _ (List.mem_of_getElem? (i := 1) rfl)) (hw _ (List.mem_of_getElem? (i := 2) rfl)) (hw _ (List.mem_of_getElem? (i := 3) rfl)) (hw _ (List.mem_of_getElem? (i := 4) rfl)) (by decide) (argsL := [(.int xc), (.ref ai), (.ref li), (.int (2 : Int32))]) (rest := []) (W := 0) (own_fill2T l Z a0 hb0 hw xc ai li ca0 ca1 (0 : UInt64) lo0 lo1 (0 : UInt64) h2) (by decide) (by decide) (by decide) (by decide) (g := (mkF m 34 #[.val (.int xa), .val (.int xb), .val (.int xc), .val (.ref ai), .val (.ref li), .val (.int (1 : Int32)), .val (.int (1 : Int32)), .unset, .unset] [(.int (2 : Int32)), (.ref li), (.ref ai), (.int xc)])) rfl (by rw [hml]; rfl) (lenOf own_pd2 rfl) rfl (by show 2 * 0 + _ ≤ _; exact Nat.le_of_eq rfl) (hb hby at_34)
  obtain ⟨ca2, lo2, nc2, hc2, rfl, rfl⟩ := qs7_5
  change own_S _ _ _ _ _ _ _ _ _ _ _ _ _ _ [(ai, own_A .double [.double ca0, .double ca1, .double ca2]), (li, own_A .double [.double lo0, .double lo1, .double lo2])] _ _ at Hs7_5
  obtain ⟨Ts7_6, x, Hs7_6, sts7_6⟩ := own_newO Hs7_5 hx hZ hown (hw _ (List.mem_of_getElem? (i := 6) rfl)) (hw _ (List.mem_of_getElem? (i := 7) rfl)) (hw _ (List.mem_of_getElem? (i := 8) rfl)) [("com/example/placewright/placewright/model/MachineType", "name", "Ljava/lang/String;", .null), ("com/example/placewright/placewright/model/MachineType", "capacity", "[D", .null), ("com/example/placewright/placewright/model/MachineType", "pricePerHour", "D", .double 0)] (by
      intro f hf
      simp only [List.mem_cons, List.not_mem_nil, or_false] at hf
      rcases hf with rfl | rfl | rfl
      · exact ⟨Or.inr (hw _ (List.mem_of_getElem? (i := 24) rfl)), (.object "java/lang/String"), by decide, rfl⟩
      · exact ⟨Or.inr (hw _ (List.mem_of_getElem? (i := 35) rfl)), (.array .double), by decide, rfl⟩
      · exact ⟨Or.inr (hw _ (List.mem_of_getElem? (i := 37) rfl)), .double, by decide, rfl⟩) (by decide) (g := (mkF m 39 #[.val (.int xa), .val (.int xb), .val (.int xc), .val (.ref ai), .val (.ref li), .val (.int (1 : Int32)), .val (.int (1 : Int32)), .val (.int (1 : Int32)), .unset] [])) rfl (hb hby at_39) (by decide) (by decide)
  change own_S _ _ _ _ _ _ _ _ _ _ _ _ _ _ [(ai, own_A .double [.double ca0, .double ca1, .double ca2]), (li, own_A .double [.double lo0, .double lo1, .double lo2]), (x, own_O "com/example/placewright/placewright/model/MachineType" [("com/example/placewright/placewright/model/MachineType", "name", "Ljava/lang/String;", .null), ("com/example/placewright/placewright/model/MachineType", "capacity", "[D", .null), ("com/example/placewright/placewright/model/MachineType", "pricePerHour", "D", .double 0)])] _ _ at Hs7_6
  obtain ⟨st, Ts7_7, Hs7_7, hS1, hfl1, hZ1, hown1, sts7_7⟩ := own_ldcS Hs7_6 hx hZ hown (hw _ (List.mem_of_getElem? (i := 9) rfl)) (own_strAtoms hw) (g := (mkF m 43 #[.val (.int xa), .val (.int xb), .val (.int xc), .val (.ref ai), .val (.ref li), .val (.int (1 : Int32)), .val (.int (1 : Int32)), .val (.int (1 : Int32)), .unset] [(.ref x), (.ref x)])) rfl (hb hby at_43) (N := 4) (by decide) (by decide) (by decide) (by decide)
  obtain ⟨Ts7_8, vs7_8_, css7_8_, qs7_8, Hs7_8, sts7_8⟩ := own_callI Hs7_7 hx hZ1 hown1 rfl (hw _ (List.mem_of_getElem? (i := 17) rfl)) (hw _ (List.mem_of_getElem? (i := 18) rfl)) (hw _ (List.mem_of_getElem? (i := 8) rfl)) (hw _ (List.mem_of_getElem? (i := 19) rfl)) (by decide) (x := x) (argsL := [(.ref st), (.ref ai), (.double (4607182418800017408 : UInt64))]) (rest := [(.ref x)]) (W := 1) (own_mk l Z a0 ⟨hb0.b, Ts7_7.heap.size⟩ hw x st ai 4607182418800017408 ca0 ca1 ca2 li _) (by decide) (by decide) (by decide) (by decide) (g := (mkF m 47 #[.val (.int xa), .val (.int xb), .val (.int xc), .val (.ref ai), .val (.ref li), .val (.int (1 : Int32)), .val (.int (1 : Int32)), .val (.int (1 : Int32)), .unset] [(.double (4607182418800017408 : UInt64)), (.ref ai), (.ref st), (.ref x), (.ref x)])) rfl (by rw [hml]; rfl) (lenOf own_pd3 rfl) rfl (by show 2 * 0 + _ ≤ _; exact Nat.le_of_eq rfl) (hb hby at_47)
  obtain ⟨y, rfl, rfl⟩ := qs7_8
  change own_S _ _ _ _ _ _ _ _ _ _ _ _ _ _ [(ai, own_A .double [.double ca0, .double ca1, .double ca2]), (li, own_A .double [.double lo0, .double lo1, .double lo2]), (x, own_O "com/example/placewright/placewright/model/MachineType" [("com/example/placewright/placewright/model/MachineType", "name", "Ljava/lang/String;", .ref st), ("com/example/placewright/placewright/model/MachineType", "capacity", "[D", .ref y), ("com/example/placewright/placewright/model/MachineType", "pricePerHour", "D", .double (4607182418800017408 : UInt64))]), (y, own_A .double [.double ca0, .double ca1, .double ca2])] _ _ at Hs7_8
  obtain ⟨Ts7_9, vs7_9_, css7_9_, qs7_9, Hs7_9, sts7_9⟩ := own_callV Hs7_8 hx hZ1 hown1 (hw _ (List.mem_of_getElem? (i := 38) rfl)) (hw _ (List.mem_of_getElem? (i := 39) rfl)) (hw _ (List.mem_of_getElem? (i := 41) rfl)) (hw _ (List.mem_of_getElem? (i := 40) rfl)) (hw _ (List.mem_of_getElem? (i := 8) rfl)) (hw _ (List.mem_of_getElem? (i := 42) rfl)) (by decide) (x := x) 2 rfl (argsL := [(.ref li)]) (rest := []) (W := 0) (own_holds3 l Z a0 ⟨hb0.b, Ts7_7.heap.size⟩ hw x li ai st y _ 4607182418800017408 ca0 ca1 ca2 lo0 lo1 lo2 nc0 hc0 nc1 hc1 nc2 hc2) (by decide) (by decide) (by decide) (by decide) (g := (mkF m 56 #[.val (.int xa), .val (.int xb), .val (.int xc), .val (.ref ai), .val (.ref li), .val (.int (1 : Int32)), .val (.int (1 : Int32)), .val (.int (1 : Int32)), .val (.ref x)] [(.ref li), (.ref x)])) rfl (by rw [hml]; rfl) (lenOf own_pd4 rfl) rfl (by show 2 * 0 + _ ≤ _; exact Nat.le_of_eq rfl) (hb hby at_56)
  obtain ⟨rfl, rfl⟩ := qs7_9
  change own_S _ _ _ _ _ _ _ _ _ _ _ _ _ _ [(ai, own_A .double [.double ca0, .double ca1, .double ca2]), (li, own_A .double [.double lo0, .double lo1, .double lo2]), (x, own_O "com/example/placewright/placewright/model/MachineType" [("com/example/placewright/placewright/model/MachineType", "name", "Ljava/lang/String;", .ref st), ("com/example/placewright/placewright/model/MachineType", "capacity", "[D", .ref y), ("com/example/placewright/placewright/model/MachineType", "pricePerHour", "D", .double (4607182418800017408 : UInt64))]), (y, own_A .double [.double ca0, .double ca1, .double ca2])] _ _ at Hs7_9
  refine ⟨Ts7_7.vm, Ts7_7.heap.size, _, _, _, _, 87, #[.val (.int xa), .val (.int xb), .val (.int xc), .val (.ref ai), .val (.ref li), .val (.int (1 : Int32)), .val (.int (1 : Int32)), .val (.int (1 : Int32)), .val (.ref x)], hS1, hfl1, Hs7_9, by decide, by decide, Or.inr ⟨.boolean, (.int (1 : Int32)), [], .ireturn, rfl, rfl, at_87, own_retZ (Or.inr rfl), fun target q => ?_⟩⟩
  refine own_go H0 hx hZ hown hby hw own_K0_ok (own_s7_0 xa xb xc) _ ?_
  refine sts7_1 _ ?_
  refine own_go Hs7_1 hx hZ hown hby hw own_K0_ok (own_s7_1 xa xb xc ai) _ ?_
  refine own_go Hs7_1 hx hZ hown hby hw own_K0_ok (own_s7_2 xa xb xc ai) _ ?_
  refine sts7_2 _ ?_
  refine own_go Hs7_2 hx hZ hown hby hw own_K0_ok (own_s7_3 xa xb xc ai li) _ ?_
  refine sts7_3 _ ?_
  refine own_go Hs7_3 hx hZ hown hby hw own_K0_ok (own_s7_4 xa xb xc ai li) _ ?_
  refine sts7_4 _ ?_
  refine own_go Hs7_4 hx hZ hown hby hw own_K0_ok (own_s7_5 xa xb xc ai li) _ ?_
  refine sts7_5 _ ?_
  refine own_go Hs7_5 hx hZ hown hby hw own_K0_ok (own_s7_6 xa xb xc ai li) _ ?_
  refine sts7_6 _ ?_
  refine own_go Hs7_6 hx hZ hown hby hw own_K0_ok (own_s7_7 xa xb xc ai li x) _ ?_
  refine sts7_7 _ ?_
  refine own_go Hs7_7 hx hZ1 hown1 hby hw own_K0_ok (own_s7_8 xa xb xc ai li st x) _ ?_
  refine sts7_8 _ ?_
  refine own_go Hs7_8 hx hZ1 hown1 hby hw own_K0_ok (own_s7_9 xa xb xc ai li x) _ ?_
  refine sts7_9 _ ?_
  refine own_go Hs7_9 hx hZ1 hown1 hby hw own_K0_ok (own_s7_10 xa xb xc ai li x) _ ?_
  exact q
theorem own_law (l : Launch) (Z : State) (a0 : Array Value) (hb0 : own_Base) (hw : ∀ d ∈ tables_1, d.before a0 Z = true) (xa : Int32) (xb : Int32) (xc : Int32) :
    own_MetW l Z a0 hb0 x code maxLocals ret tables_1 room_1 #[(.int xa), (.int xb), (.int xc)] [] (fun v _ => v = some (.int 1)) := by
  by_cases h0 : own_T xa <;> by_cases h1 : own_T xb <;> by_cases h2 : own_T xc
  · exact own_law7 l Z a0 hb0 hw xa xb xc h0 h1 h2
  · exact own_law6 l Z a0 hb0 hw xa xb xc h0 h1 h2
  · exact own_law5 l Z a0 hb0 hw xa xb xc h0 h1 h2
  · exact own_law4 l Z a0 hb0 hw xa xb xc h0 h1 h2
  · exact own_law3 l Z a0 hb0 hw xa xb xc h0 h1 h2
  · exact own_law2 l Z a0 hb0 hw xa xb xc h0 h1 h2
  · exact own_law1 l Z a0 hb0 hw xa xb xc h0 h1 h2
  · exact own_law0 l Z a0 hb0 hw xa xb xc h0 h1 h2
set_option maxRecDepth 65536 in
set_option maxHeartbeats 40000000 in
theorem own_comes {Post : Tables → Env → Array Value → State → Outcome → State → Prop} (hpost : ∀ tb e args s v u, (limb_1_1.after args s (.returned v) u = true ∧ limb_1_2.after args s (.returned v) u = true ∧ True) → Jvm.D.FramedW s (.returned v) u (Jvm.fieldLocs frame_1_writes args s ++ Jvm.arrayLocs frame_1_arrays args s ++ Jvm.staticLocs frame_1_statics s) 24 1152 → Post tb e args s (.returned v) u) :
    ArmFor flags0 classFile x code maxLocals ret World_1 tables_1 room_1 Calls_1 rest_1 Pre_1 Post := by
  intro l hfl _ _ p e ha hc hk s m args below hf hA hF happ hP
  obtain ⟨hcalls, hrest, hpre⟩ := hP
  obtain ⟨-, -, -, hnamed, -, -, -, hat⟩ := (Spec.applies_iff hf).mp happ
  obtain ⟨hg, hn⟩ := and_e (Cond.before_iff.mp (show (Jvm.Cond.and given_1 narrow_1).before args s = true from hpre))
  obtain ⟨h1, g0⟩ := and_e hg
  obtain ⟨w0, w1, w2, rfl⟩ : ∃ w0 w1 w2 : Value, args = #[w0, w1, w2] := by
    have hs : args.size = 3 := by simpa [Cond.value, given_1] using h1
    obtain ⟨L⟩ := args
    match L, hs with
    | [w0, w1, w2], _ => exact ⟨w0, w1, w2, rfl⟩
  have hw := fun d (hd : d ∈ tables_1) => atoms_spec (ws := Jvm.Cond.code x code maxLocals ret :: tables_1) hat d (List.mem_cons_of_mem _ hd)
  have hfit : Fit s := fun {y c} hc i hi => by
    obtain ⟨ha, rfl⟩ := Array.getElem?_eq_some_iff.mp hc
    have q := List.all_eq_true.mp ((Array.all_eq_true_iff_forall_mem.mp hF) _ (Array.getElem_mem ha)) i (List.mem_range.mpr hi)
    simpa [Array.getElem?_eq_getElem hi] using q
  obtain ⟨f0, g1⟩ := and_e g0
  obtain ⟨i0, e0⟩ := is_v f0
  obtain rfl : w0 = (.int i0) := Option.some.inj e0
  obtain ⟨f1, g2⟩ := and_e g1
  obtain ⟨i1, e1⟩ := is_v f1
  obtain rfl : w1 = (.int i1) := Option.some.inj e1
  obtain ⟨i2, e2⟩ := is_v g2
  obtain rfl : w2 = (.int i2) := Option.some.inj e2
  obtain ⟨n, o, h1, h2, h3, _, L, rfl, ⟨N, cs', rfl, -⟩, hq⟩ := own_law l s _ ⟨s.heap, 0⟩ hw i0 i1 i2  s.heap (own_Hp_start s _ s.heap) p e ha hc hk s m _ below hf ((Spec.applies_iff_loose hf).mp happ).1 ⟨rfl, State.Warmed39.refl s, rfl⟩ trivial
  refine ⟨n, _, h1, h2, h3, hpost _ _ _ _ _ _ ⟨Cond.after_iff.mpr rfl, Cond.after_iff.mpr (eq_i res_at (Term.int_eval (1)) rfl), trivial⟩ ⟨hq.1, hq.2.1, hq.2.2.1, (hq.2.2.2.sift fun y hy => Or.inr (N y hy)).mono (by decide) (by decide)⟩⟩
theorem main_1_1 : Claimed_1_1 := own_comes fun _ _ _ _ _ _ h hF => ⟨h.1, hF⟩
theorem main_1_2 : Claimed_1_2 := own_comes fun _ _ _ _ _ _ h hF => ⟨h.2.1, hF⟩
end OwnClaim
end Jvm.Pilot.@@N@@
namespace Jvm.Pilot.@@N@@
open Jvm Jvm.ClassFile Sem Op Lib Jvm.Free Jvm.Stand Jvm.Pilot.@@N@@.Jvm.D
/-! MADE BY PROGRAM (witnessworld.py) out of the Statement's table words and the real class files: 16 classes; the members and pool entries that the words name. The judged class is class 1, her method 1. -/
namespace start1
open Jvm.ClassFile
def u (s : String) : CpInfo := .utf8 (stringToUtf16 s)
/-- a pool by its gaps: so many unusable entries, then the entry; so many at the end -/
def gap : Nat → List CpInfo → List CpInfo
  | 0, r => r
  | n + 1, r => .unusable :: gap n r
def poolList (es : List (Nat × CpInfo)) (last : Nat) : List CpInfo := es.foldr (fun e r => gap e.1 (e.2 :: r)) (gap last [])
def pool (es : List (Nat × CpInfo)) (last : Nat) : Array CpInfo := ⟨poolList es last⟩
def fileOf (pool : Array CpInfo) (this : Nat) (attrs : Array Attribute := #[]) (ms : Array MethodInfo := #[]) (fl : Nat := 33) (sup : Nat := 0) (ifs : Array Nat := #[]) (fds : Array FieldInfo := #[]) : ClassFile where
  minorVersion := 0
  majorVersion := 65
  constantPool := pool
  accessFlags := fl
  thisClass := this
  superClass := sup
  interfaces := ifs
  fields := fds
  methods := ms
  attributes := attrs
def plain (name : String) (sup : Option ClassId) : Class where
  name := name
  kind := .ordinary
  loader := none
  accessFlags := 33
  super := sup
  interfaces := #[]
  cf := none
  fields := #[]
  methods := #[]
  instanceTypes := #[]
  staticTypes := #[]
  resolved := #[]
  callSites := []
  init := .initialized
  statics := none
  mirror := none

def pool0 : Array CpInfo := pool [(5, u "<init>"), (0, u "()V"), (1, .class_ 10), (1, u "java/lang/Object"), (85, u "clone"), (0, u "()Ljava/lang/Object;")] 26

def k0c0 : Code := { maxStack := 0, maxLocals := 1, code := object_method_1_code, exceptionTable := #[], attributes := #[] }
def k0m0 : Method := { name := "<init>", desc := "()V", sig := { parameters := [], returnType := none }, accessFlags := 1, code := some k0c0 }
def k0m1 : Method := { name := "clone", desc := "()Ljava/lang/Object;", sig := { parameters := [], returnType := some (.object "java/lang/Object") }, accessFlags := 260, code := none }
/-- java/lang/Object -/
def k0 : Class := { plain "java/lang/Object" none with
  accessFlags := 33
  interfaces := #[]
  cf := some (fileOf pool0 8 #[] #[{ accessFlags := 1, nameIndex := 5, descriptorIndex := 6, attributes := #[] }, { accessFlags := 260, nameIndex := 96, descriptorIndex := 97, attributes := #[] }] 33 0 #[] #[])
  fields := #[]
  methods := #[k0m0, k0m1]
  instanceTypes := #[]
  staticTypes := #[]
  resolved := Array.replicate 124 none
  statics := none }

def pool1 : Array CpInfo := pool [(2, .class_ 4), (1, u "java/lang/Object"), (0, u "<init>"), (0, u "()V"), (0, .methodref 8 9), (0, .class_ 10), (0, .nameAndType 11 12), (0, u "com/example/placewright/placewright/model/MachineTypeHolds334PinLaw"), (0, u "fill"), (0, u "(I[D[DI)Z"), (0, .class_ 14), (0, u "com/example/placewright/placewright/model/MachineType"), (0, .string 16), (0, u "m"), (0, .methodref 13 18), (0, .nameAndType 5 19), (0, u "(Ljava/lang/String;[DD)V"), (0, .methodref 13 21), (0, .nameAndType 22 23), (0, u "holds"), (0, u "([D)Z"), (0, .double 4472406533629990549), (1, .double 4611686018427387904), (1, .double 13835058055282163712), (1, .double 4613937818241073152), (3, u "law"), (0, u "(III)Z")] 5

def k1m0 : Method := { name := "<init>", desc := "()V", sig := { parameters := [], returnType := none }, accessFlags := 1, code := none }
def k1c1 : Code := { maxStack := 6, maxLocals := 9, code := code, exceptionTable := #[], attributes := #[] }
def k1m1 : Method := { name := "law", desc := "(III)Z", sig := { parameters := [.int, .int, .int], returnType := some .boolean }, accessFlags := 9, code := some k1c1 }
def k1c2 : Code := { maxStack := 6, maxLocals := 11, code := method_3_code, exceptionTable := #[], attributes := #[] }
def k1m2 : Method := { name := "fill", desc := "(I[D[DI)Z", sig := { parameters := [.int, (.array .double), (.array .double), .int], returnType := some .boolean }, accessFlags := 10, code := some k1c2 }
/-- com/example/placewright/placewright/model/MachineTypeHolds334PinLaw -/
def k1 : Class := { plain "com/example/placewright/placewright/model/MachineTypeHolds334PinLaw" (some 0) with
  accessFlags := 49
  interfaces := #[]
  cf := some (fileOf pool1 8 #[] #[{ accessFlags := 1, nameIndex := 5, descriptorIndex := 6, attributes := #[] }, { accessFlags := 9, nameIndex := 34, descriptorIndex := 35, attributes := #[] }, { accessFlags := 10, nameIndex := 11, descriptorIndex := 12, attributes := #[] }] 49 2 #[] #[])
  fields := #[]
  methods := #[k1m0, k1m1, k1m2]
  instanceTypes := #[]
  staticTypes := #[]
  resolved := Array.replicate 41 none
  statics := none }

def pool2 : Array CpInfo := pool [(1, .methodref 2 3), (0, .class_ 4), (0, .nameAndType 5 6), (0, u "java/lang/Object"), (0, u "<init>"), (0, u "()V"), (0, .fieldref 8 9), (0, .class_ 10), (0, .nameAndType 11 12), (0, u "com/example/placewright/placewright/model/MachineType"), (0, u "name"), (0, u "Ljava/lang/String;"), (0, .methodref 14 15), (0, .class_ 16), (0, .nameAndType 17 18), (0, u "[D"), (0, u "clone"), (0, u "()Ljava/lang/Object;"), (0, .fieldref 8 20), (0, .nameAndType 21 16), (0, u "capacity"), (0, .fieldref 8 23), (0, .nameAndType 24 25), (0, u "pricePerHour"), (0, u "D"), (0, .methodref 8 27), (0, .nameAndType 28 29), (0, u "fits"), (0, u "(DI)Z"), (0, .double 4472406533629990549), (33, u "TOLERANCE"), (1, u "PLACES"), (0, u "I"), (1, u "(Ljava/lang/String;[DD)V"), (5, u "holds"), (0, u "([D)Z")] 7

def k2c0 : Code := { maxStack := 3, maxLocals := 5, code := prog_12_method_1_code, exceptionTable := #[], attributes := #[] }
def k2m0 : Method := { name := "<init>", desc := "(Ljava/lang/String;[DD)V", sig := { parameters := [(.object "java/lang/String"), (.array .double), .double], returnType := none }, accessFlags := 1, code := some k2c0 }
def k2c1 : Code := { maxStack := 4, maxLocals := 3, code := prog_12_method_5_code, exceptionTable := #[], attributes := #[] }
def k2m1 : Method := { name := "holds", desc := "([D)Z", sig := { parameters := [(.array .double)], returnType := some .boolean }, accessFlags := 1, code := some k2c1 }
def k2c2 : Code := { maxStack := 6, maxLocals := 4, code := prog_12_method_7_code, exceptionTable := #[], attributes := #[] }
def k2m2 : Method := { name := "fits", desc := "(DI)Z", sig := { parameters := [.double, .int], returnType := some .boolean }, accessFlags := 1, code := some k2c2 }
/-- com/example/placewright/placewright/model/MachineType -/
def k2 : Class := { plain "com/example/placewright/placewright/model/MachineType" (some 0) with
  accessFlags := 49
  interfaces := #[]
  cf := some (fileOf pool2 8 #[] #[{ accessFlags := 1, nameIndex := 5, descriptorIndex := 69, attributes := #[] }, { accessFlags := 1, nameIndex := 75, descriptorIndex := 76, attributes := #[] }, { accessFlags := 1, nameIndex := 28, descriptorIndex := 29, attributes := #[] }] 49 2 #[] #[{ accessFlags := 25, nameIndex := 64, descriptorIndex := 25, attributes := #[] }, { accessFlags := 26, nameIndex := 66, descriptorIndex := 67, attributes := #[] }, { accessFlags := 18, nameIndex := 11, descriptorIndex := 12, attributes := #[] }, { accessFlags := 18, nameIndex := 21, descriptorIndex := 16, attributes := #[] }, { accessFlags := 18, nameIndex := 24, descriptorIndex := 25, attributes := #[] }])
  fields := #[{ name := "TOLERANCE", type := .double, accessFlags := 25, slot := 0, constantValue := 0 }, { name := "PLACES", type := .int, accessFlags := 26, slot := 1, constantValue := 0 }, { name := "name", type := (.object "java/lang/String"), accessFlags := 18, slot := 0, constantValue := 0 }, { name := "capacity", type := (.array .double), accessFlags := 18, slot := 1, constantValue := 0 }, { name := "pricePerHour", type := .double, accessFlags := 18, slot := 2, constantValue := 0 }]
  methods := #[k2m0, k2m1, k2m2]
  instanceTypes := #[(.object "java/lang/String"), (.array .double), .double]
  staticTypes := #[.double, .int]
  resolved := Array.replicate 84 none
  statics := none }

def pool3 : Array CpInfo := pool [(1, .class_ 2), (0, u "java/io/Serializable"), (0, .class_ 4), (0, u "java/lang/Object")] 2

/-- java/io/Serializable -/
def k3 : Class := { plain "java/io/Serializable" (some 0) with
  accessFlags := 1537
  interfaces := #[]
  cf := some (fileOf pool3 1 #[] #[] 1537 3 #[] #[])
  fields := #[]
  methods := #[]
  instanceTypes := #[]
  staticTypes := #[]
  resolved := Array.replicate 7 none
  statics := none }

def pool4 : Array CpInfo := pool [(1, .class_ 2), (0, u "java/lang/Comparable"), (0, .class_ 4), (0, u "java/lang/Object")] 7

/-- java/lang/Comparable -/
def k4 : Class := { plain "java/lang/Comparable" (some 0) with
  accessFlags := 1537
  interfaces := #[]
  cf := some (fileOf pool4 1 #[] #[] 1537 3 #[] #[])
  fields := #[]
  methods := #[]
  instanceTypes := #[]
  staticTypes := #[]
  resolved := Array.replicate 12 none
  statics := none }

def pool5 : Array CpInfo := pool [(2, .class_ 4), (1, u "java/lang/CharSequence"), (42, .class_ 48), (0, u "java/lang/CharSequence$1CodePointIterator"), (10, .class_ 60), (0, u "java/lang/CharSequence$1CharIterator"), (5, .class_ 67), (0, u "java/lang/Object")] 63

/-- java/lang/CharSequence -/
def k5 : Class := { plain "java/lang/CharSequence" (some 0) with
  accessFlags := 1537
  interfaces := #[]
  cf := some (fileOf pool5 2 #[.nestMembers #[47, 59]] #[] 1537 66 #[] #[])
  fields := #[]
  methods := #[]
  instanceTypes := #[]
  staticTypes := #[]
  resolved := Array.replicate 131 none
  statics := none }

def pool6 : Array CpInfo := pool [(1, .class_ 2), (0, u "java/lang/constant/Constable"), (0, .class_ 4), (0, u "java/lang/Object")] 6

/-- java/lang/constant/Constable -/
def k6 : Class := { plain "java/lang/constant/Constable" (some 0) with
  accessFlags := 1537
  interfaces := #[]
  cf := some (fileOf pool6 1 #[] #[] 1537 3 #[] #[])
  fields := #[]
  methods := #[]
  instanceTypes := #[]
  staticTypes := #[]
  resolved := Array.replicate 11 none
  statics := none }

def pool7 : Array CpInfo := pool [(1, .class_ 2), (0, u "java/lang/constant/ConstantDesc"), (0, .class_ 4), (0, u "java/lang/Object")] 32

/-- java/lang/constant/ConstantDesc -/
def k7 : Class := { plain "java/lang/constant/ConstantDesc" (some 0) with
  accessFlags := 1537
  interfaces := #[]
  cf := some (fileOf pool7 1 #[] #[] 1537 3 #[] #[])
  fields := #[]
  methods := #[]
  instanceTypes := #[]
  staticTypes := #[]
  resolved := Array.replicate 37 none
  statics := none }

def pool8 : Array CpInfo := pool [(2, .class_ 4), (1, u "java/lang/Object"), (0, u "<init>"), (0, u "()V"), (3, .class_ 12), (1, u "java/lang/String"), (0, u "value"), (0, u "[B"), (2, u "coder"), (0, u "B"), (2, u "hash"), (0, u "I"), (2, u "hashIsZero"), (0, u "Z"), (13, u "COMPACT_STRINGS"), (534, .class_ 576), (0, u "java/lang/CharSequence"), (22, u "CASE_INSENSITIVE_ORDER"), (0, u "Ljava/util/Comparator;"), (500, u "serialPersistentFields"), (0, u "[Ljava/io/ObjectStreamField;"), (0, .class_ 1104), (0, u "java/lang/String$CaseInsensitiveComparator"), (1, .class_ 1107), (0, u "java/io/Serializable"), (0, .class_ 1109), (0, u "java/lang/Comparable"), (0, .class_ 1111), (0, u "java/lang/constant/Constable"), (0, .class_ 1113), (0, u "java/lang/constant/ConstantDesc"), (2, u "serialVersionUID"), (0, u "J"), (3, u "REPL"), (0, u "C"), (2, u "LATIN1"), (1, u "UTF16")] 323

def k8m0 : Method := { name := "<init>", desc := "()V", sig := { parameters := [], returnType := none }, accessFlags := 1, code := none }
/-- java/lang/String -/
def k8 : Class := { plain "java/lang/String" (some 0) with
  accessFlags := 49
  interfaces := #[3, 4, 5, 6, 7]
  cf := some (fileOf pool8 10 #[.nestMembers #[1103]] #[{ accessFlags := 1, nameIndex := 5, descriptorIndex := 6, attributes := #[] }] 49 2 #[1106, 1108, 575, 1110, 1112] #[{ accessFlags := 18, nameIndex := 13, descriptorIndex := 14, attributes := #[] }, { accessFlags := 18, nameIndex := 17, descriptorIndex := 18, attributes := #[] }, { accessFlags := 2, nameIndex := 21, descriptorIndex := 22, attributes := #[] }, { accessFlags := 2, nameIndex := 25, descriptorIndex := 26, attributes := #[] }, { accessFlags := 26, nameIndex := 1116, descriptorIndex := 1117, attributes := #[] }, { accessFlags := 24, nameIndex := 40, descriptorIndex := 26, attributes := #[] }, { accessFlags := 26, nameIndex := 1101, descriptorIndex := 1102, attributes := #[] }, { accessFlags := 26, nameIndex := 1121, descriptorIndex := 1122, attributes := #[] }, { accessFlags := 25, nameIndex := 599, descriptorIndex := 600, attributes := #[] }, { accessFlags := 24, nameIndex := 1125, descriptorIndex := 18, attributes := #[] }, { accessFlags := 24, nameIndex := 1127, descriptorIndex := 18, attributes := #[] }])
  fields := #[{ name := "value", type := (.array .byte), accessFlags := 18, slot := 0, constantValue := 0 }, { name := "coder", type := .byte, accessFlags := 18, slot := 1, constantValue := 0 }, { name := "hash", type := .int, accessFlags := 2, slot := 2, constantValue := 0 }, { name := "hashIsZero", type := .boolean, accessFlags := 2, slot := 3, constantValue := 0 }, { name := "serialVersionUID", type := .long, accessFlags := 26, slot := 0, constantValue := 0 }, { name := "COMPACT_STRINGS", type := .boolean, accessFlags := 24, slot := 1, constantValue := 0 }, { name := "serialPersistentFields", type := (.array (.object "java/io/ObjectStreamField")), accessFlags := 26, slot := 2, constantValue := 0 }, { name := "REPL", type := .char, accessFlags := 26, slot := 3, constantValue := 0 }, { name := "CASE_INSENSITIVE_ORDER", type := (.object "java/util/Comparator"), accessFlags := 25, slot := 4, constantValue := 0 }, { name := "LATIN1", type := .byte, accessFlags := 24, slot := 5, constantValue := 0 }, { name := "UTF16", type := .byte, accessFlags := 24, slot := 6, constantValue := 0 }]
  methods := #[k8m0]
  instanceTypes := #[(.array .byte), .byte, .int, .boolean]
  staticTypes := #[.long, .boolean, (.array (.object "java/io/ObjectStreamField")), .char, (.object "java/util/Comparator"), .byte, .byte]
  resolved := Array.replicate 1451 none
  statics := none }

def pool9 : Array CpInfo := pool [(1, .class_ 2), (0, u "java/lang/Cloneable"), (0, .class_ 4), (0, u "java/lang/Object")] 2

/-- java/lang/Cloneable -/
def k9 : Class := { plain "java/lang/Cloneable" (some 0) with
  accessFlags := 1537
  interfaces := #[]
  cf := some (fileOf pool9 1 #[] #[] 1537 3 #[] #[])
  fields := #[]
  methods := #[]
  instanceTypes := #[]
  staticTypes := #[]
  resolved := Array.replicate 7 none
  statics := none }

/-- the primitive byte -/
def k10 : Class := { plain "byte" none with kind := .primitive 'B', accessFlags := 0x411 }
/-- [B -/
def k11 : Class := { plain "[B" (some 0) with kind := .array 10 .byte, interfaces := #[9, 3], accessFlags := 1041 }

/-- the primitive double -/
def k12 : Class := { plain "double" none with kind := .primitive 'D', accessFlags := 0x411 }
/-- [D -/
def k13 : Class := { plain "[D" (some 0) with kind := .array 12 .double, interfaces := #[9, 3], accessFlags := 1041 }

/-- the primitive int -/
def k14 : Class := { plain "int" none with kind := .primitive 'I', accessFlags := 0x411 }
/-- [I -/
def k15 : Class := { plain "[I" (some 0) with kind := .array 14 .int, interfaces := #[9, 3], accessFlags := 1041 }

def heap : Heap := #[]
def classes : Array Class := #[k0, k1, k2, k3, k4, k5, k6, k7, k8, k9, k10, k11, k12, k13, k14, k15]
def interned : List (Array UInt16 × Addr) := []
def slotsUsed : Nat := 0
def theMethod : MethodId := ⟨1, 1⟩
def args0 : Array Value := #[.int 5, .int 7, .int 9]
def aboutOver (below : List Frame) : State where
  vm := { classes := classes, interned := interned.toArray }
  heap := heap
  slotsUsed := slotsUsed
  threads := #[{ frames := .invoking theMethod args0 :: below }]
def below0 : List Frame := [.native { method := ⟨0, 0⟩, args := #[] }]
def about1 : State := aboutOver below0
def p0 : Program := .bare "" "" ""
def e0 : Env := launch0.env 0 0 0
theorem w_frames : about1.frames = Frame.invoking theMethod args0 :: below0 := rfl
set_option maxRecDepth 65536 in
theorem w_args : argsFit about1.vm theMethod args0 = true := by decide +kernel
set_option maxRecDepth 65536 in
theorem w_heap : heapFits about1 = true := by decide +kernel
set_option maxRecDepth 65536 in
theorem w_runnable : about1.curStatus? = some .runnable := by decide +kernel
set_option maxRecDepth 65536 in
theorem w_alone : about1.alone = true := by decide +kernel
set_option maxRecDepth 65536 in
theorem w_named : about1.methodNamed? x = some theMethod := by decide +kernel
set_option maxRecDepth 65536 in
theorem w_hears : about1.hears theMethod below0 = true := by decide +kernel
set_option maxRecDepth 65536 in
theorem w_ripe : about1.ripe theMethod args0 below0 = true := by decide +kernel
theorem w_running : about1.status = .running := rfl
set_option maxRecDepth 65536 in
theorem w_room : about1.hasRoom e0.platform room_1 = true :=
  launch0.hasRoom_least _ room_1 (by decide +kernel) (by decide +kernel) (by decide +kernel) (by decide +kernel) (by decide +kernel) (by decide +kernel)
theorem allAtoms_all (ts : List Jvm.Cond) (a : Array Jvm.Value) (st : Jvm.State) : (allAtoms ts).before a st = ts.all (fun c => c.before a st) := by
  induction ts with
  | nil => rfl
  | cons c t ih =>
    show (Jvm.Cond.and c (allAtoms t)).before a st = _
    rw [Jvm.Cond.before_and, ih, List.all_cons]
def words1 : List Jvm.Cond := Jvm.Cond.code x code maxLocals ret :: tables_1
/-- a 'code' word, met by the world's own term for the bytes: nothing is compared byte by byte -/
theorem code_word {y : MethodName} {bytes : ByteArray} {mx : Nat} {rt : Option FieldType} {a : Array Value} {s : State} {m : MethodId} {meth : Method} {c : Code} (h1 : s.methodNamed? y = some m) (h2 : s.vm.method? m = some meth) (h3 : meth.code = some c) (h4 : c.code = bytes)
    (h5 : (c.maxLocals == mx && c.exceptionTable.isEmpty && decide (c.maxStack ≤ mostOperands) && decide (meth.sig.returnType = rt) && !meth.locks && decide (parseMethodDescriptor y.desc = some meth.sig)) = true) : (Jvm.Cond.code y bytes mx rt).before a s = true := by
  simp only [Bool.and_eq_true, beq_iff_eq, Bool.not_eq_true', decide_eq_true_eq] at h5
  obtain ⟨⟨⟨⟨⟨g1, g2⟩, g3⟩, g4⟩, g5⟩, g6⟩ := h5
  simp [Cond.before, Cond.holds, Cond.value, h1, h2, h3, h4, g1, g2, g3, g4, g5, g6]
def isCode : Jvm.Cond → Bool
  | .code _ _ _ _ => true
  | _ => false
theorem all_split {L : List Jvm.Cond} {P : Jvm.Cond → Bool} (h1 : L.all (fun c => isCode c || P c) = true) (h2 : ∀ c ∈ L.filter isCode, P c = true) : L.all P = true := by
  refine List.all_eq_true.mpr fun c hc => ?_
  have h := List.all_eq_true.mp h1 c hc
  rcases Bool.eq_false_or_eq_true (isCode c) with hi | hi
  · exact h2 c (List.mem_filter.mpr ⟨hc, hi⟩)
  · simpa [hi] using h
set_option maxRecDepth 65536 in
theorem w_c0 : (Jvm.Cond.code x code maxLocals ret).before args0 about1 = true := code_word (m := ⟨1, 1⟩) (meth := k1m1) (c := k1c1) (by decide +kernel) rfl rfl rfl (by decide +kernel)
set_option maxRecDepth 65536 in
theorem w_c1 : (Jvm.Cond.code ({ cls := "com/example/placewright/placewright/model/MachineTypeHolds334PinLaw", name := "fill", desc := "(I[D[DI)Z" } : Jvm.MethodName) method_3_code (11 : Nat) (Option.some Jvm.ClassFile.FieldType.boolean)).before args0 about1 = true := code_word (m := ⟨1, 2⟩) (meth := k1m2) (c := k1c2) (by decide +kernel) rfl rfl rfl (by decide +kernel)
set_option maxRecDepth 65536 in
theorem w_c2 : (Jvm.Cond.code ({ cls := "com/example/placewright/placewright/model/MachineType", name := "<init>", desc := "(Ljava/lang/String;[DD)V" } : Jvm.MethodName) prog_12_method_1_code (5 : Nat) (Option.none : Option Jvm.ClassFile.FieldType)).before args0 about1 = true := code_word (m := ⟨2, 0⟩) (meth := k2m0) (c := k2c0) (by decide +kernel) rfl rfl rfl (by decide +kernel)
set_option maxRecDepth 65536 in
theorem w_c3 : (Jvm.Cond.code ({ cls := "java/lang/Object", name := "<init>", desc := "()V" } : Jvm.MethodName) object_method_1_code (1 : Nat) (Option.none : Option Jvm.ClassFile.FieldType)).before args0 about1 = true := code_word (m := ⟨0, 0⟩) (meth := k0m0) (c := k0c0) (by decide +kernel) rfl rfl rfl (by decide +kernel)
set_option maxRecDepth 65536 in
theorem w_c4 : (Jvm.Cond.code ({ cls := "com/example/placewright/placewright/model/MachineType", name := "holds", desc := "([D)Z" } : Jvm.MethodName) prog_12_method_5_code (3 : Nat) (Option.some Jvm.ClassFile.FieldType.boolean)).before args0 about1 = true := code_word (m := ⟨2, 1⟩) (meth := k2m1) (c := k2c1) (by decide +kernel) rfl rfl rfl (by decide +kernel)
set_option maxRecDepth 65536 in
theorem w_c5 : (Jvm.Cond.code ({ cls := "com/example/placewright/placewright/model/MachineType", name := "fits", desc := "(DI)Z" } : Jvm.MethodName) prog_12_method_7_code (4 : Nat) (Option.some Jvm.ClassFile.FieldType.boolean)).before args0 about1 = true := code_word (m := ⟨2, 2⟩) (meth := k2m2) (c := k2c2) (by decide +kernel) rfl rfl rfl (by decide +kernel)
def codes1 : List Jvm.Cond := [Jvm.Cond.code x code maxLocals ret, Jvm.Cond.code ({ cls := "com/example/placewright/placewright/model/MachineTypeHolds334PinLaw", name := "fill", desc := "(I[D[DI)Z" } : Jvm.MethodName) method_3_code (11 : Nat) (Option.some Jvm.ClassFile.FieldType.boolean), Jvm.Cond.code ({ cls := "com/example/placewright/placewright/model/MachineType", name := "<init>", desc := "(Ljava/lang/String;[DD)V" } : Jvm.MethodName) prog_12_method_1_code (5 : Nat) (Option.none : Option Jvm.ClassFile.FieldType), Jvm.Cond.code ({ cls := "java/lang/Object", name := "<init>", desc := "()V" } : Jvm.MethodName) object_method_1_code (1 : Nat) (Option.none : Option Jvm.ClassFile.FieldType), Jvm.Cond.code ({ cls := "com/example/placewright/placewright/model/MachineType", name := "holds", desc := "([D)Z" } : Jvm.MethodName) prog_12_method_5_code (3 : Nat) (Option.some Jvm.ClassFile.FieldType.boolean), Jvm.Cond.code ({ cls := "com/example/placewright/placewright/model/MachineType", name := "fits", desc := "(DI)Z" } : Jvm.MethodName) prog_12_method_7_code (4 : Nat) (Option.some Jvm.ClassFile.FieldType.boolean)]
set_option maxRecDepth 65536 in
theorem codes_eq : words1.filter isCode = codes1 := rfl
theorem w_codes : ∀ c ∈ words1.filter isCode, c.before args0 about1 = true := by
  rw [codes_eq]
  intro c hc
  simp only [codes1, List.mem_cons, List.not_mem_nil, or_false] at hc
  rcases hc with rfl | rfl | rfl | rfl | rfl | rfl
  · exact w_c0
  · exact w_c1
  · exact w_c2
  · exact w_c3
  · exact w_c4
  · exact w_c5
set_option maxRecDepth 65536 in
theorem w_t1 : (words1.take 24).all (fun c => isCode c || c.before args0 about1) = true := by decide +kernel
set_option maxRecDepth 65536 in
theorem w_t2 : ((words1.drop 24).take 24).all (fun c => isCode c || c.before args0 about1) = true := by decide +kernel
set_option maxRecDepth 65536 in
theorem w_t3 : ((words1.drop 24).drop 24).all (fun c => isCode c || c.before args0 about1) = true := by decide +kernel
theorem w_tables : (allAtoms (Jvm.Cond.code x code maxLocals ret :: tables_1)).before args0 about1 = true := by
  rw [allAtoms_all]
  show words1.all (fun c => c.before args0 about1) = true
  refine all_split ?_ w_codes
  rw [← List.take_append_drop 24 words1, List.all_append, w_t1, ← List.take_append_drop 24 (words1.drop 24), List.all_append, w_t2, w_t3]
  rfl
set_option maxRecDepth 65536 in
theorem w_case : (Jvm.Cond.and given_1 narrow_1).before args0 about1 = true := by decide +kernel
theorem w_applies : (headSpec (Jvm.Cond.code x code maxLocals ret :: tables_1) room_1).applies x e0.platform about1 = true :=
  (Spec.applies_iff w_frames).mpr ⟨w_running, w_runnable, w_alone, w_named, w_hears, w_ripe, w_room, w_tables⟩
theorem atStart : AtStart classFile x code maxLocals ret World_1 tables_1 room_1 Calls_1 rest_1 Pre_1 launch0 p0 e0 about1 theMethod args0 below0 :=
  ⟨lists_1, trivial, launch0.admits_env _ _ _, launch0.least_env, fairChoices_fair.cas, fairChoices_fair.clock, w_frames, w_args, w_heap, w_applies, trivial, trivial, w_case⟩
end start1
theorem witness_1 : WitnessClaimed_1 := ⟨start1.p0, start1.e0, start1.about1, start1.theMethod, start1.args0, start1.below0, start1.atStart⟩
end Jvm.Pilot.@@N@@
