import JvmDerived
import JvmDerived.Pilot.@@N@@Statement
import JvmDerived.Pilot.@@N@@Code
set_option linter.unusedVariables false
set_option linter.unusedSimpArgs false
@@BLOCK:HandJ.lean.txt@@
@@BLOCK:SymMore.lean.txt@@
namespace Jvm.Pilot.@@N@@
/-! the number layer: own_is (a double is exactly that rational), own_rd (a double is that rational, rounded) -/
section OwnNum
open Jvm.FP.Core Jvm.Free.Fl
theorem own_inv1 : (1 : Rat)⁻¹ = 1 := Rat.inv_eq_of_mul_eq_one (Rat.mul_one 1)
theorem own_p_pos (q : Int) : (0 : Rat) < (2 : Rat) ^ q := Rat.zpow_pos (by decide)
theorem own_p_ne (q : Int) : (2 : Rat) ^ q ≠ 0 := Rat.ne_of_gt (own_p_pos q)
theorem own_p_add (a b : Int) : (2 : Rat) ^ (a + b) = 2 ^ a * 2 ^ b := Rat.zpow_add (by decide) a b
theorem own_p_nat (n : Nat) : ((2 ^ n : Nat) : Rat) = (2 : Rat) ^ (n : Int) := by rw [Rat.natCast_pow]; rfl
theorem own_p_toNat {a : Int} (h : 0 ≤ a) : ((2 ^ a.toNat : Nat) : Rat) = (2 : Rat) ^ a := by rw [own_p_nat, Int.toNat_of_nonneg h]
theorem own_p_neg (a : Int) : (2 : Rat) ^ a * 2 ^ (-a) = 1 := by rw [← own_p_add, Int.add_right_neg]; rfl
def own_is (x : UInt64) (r : Rat) : Prop := ∃ s c q, val64 x = .fin s c q ∧ r = ((signed s c : Int) : Rat) * (2 : Rat) ^ q
def own_rd (x : UInt64) (r : Rat) : Prop := ∃ s A B e, 0 < B ∧ val64 x = roundRatio b64 s A B e ∧ r = ((signed s A : Int) : Rat) / ((B : Nat) : Rat) * (2 : Rat) ^ e
theorem own_signed_cast (s : Bool) (c k : Nat) : ((signed s (c * k) : Int) : Rat) = ((signed s c : Int) : Rat) * ((k : Nat) : Rat) := by
  rw [signed_mul, Rat.intCast_mul]; rfl
theorem own_zmag {s : Bool} {c : Nat} {q : Int} (h : FP.Core.fits b64 (.fin s c q)) : ((zmag b64 (.fin s c q) : Nat) : Rat) = (c : Rat) * 2 ^ q * 2 ^ (1074 : Int) := by
  have h1 : b64.qmin ≤ q := h.2.1
  rw [qmin_b64] at h1
  show ((c * 2 ^ (q - b64.qmin).toNat : Nat) : Rat) = _
  rw [Rat.natCast_mul, own_p_toNat (by rw [qmin_b64]; omega), qmin_b64, show q - (-1074) = q + 1074 by omega, own_p_add, Rat.mul_assoc]
theorem own_zval {x : UInt64} {r : Rat} (h : own_is x r) : ((zval b64 (val64 x) : Int) : Rat) = r * 2 ^ (1074 : Int) := by
  obtain ⟨s, c, q, h1, rfl⟩ := h
  have hf := val64_fits x
  rw [h1] at hf ⊢
  have h2 := own_zmag hf
  show ((signed s (zmag b64 (.fin s c q)) : Int) : Rat) = _
  cases s
  · show ((zmag b64 (.fin false c q) : Nat) : Rat) = ((c : Nat) : Rat) * _ * _
    rw [h2]
  · show ((-(zmag b64 (.fin true c q) : Int) : Int) : Rat) = ((-(c : Int) : Int) : Rat) * _ * _
    rw [Rat.intCast_neg, Rat.intCast_neg, Rat.neg_mul, Rat.neg_mul]
    exact congrArg _ h2
theorem own_is_nn {x : UInt64} {r : Rat} (h : own_is x r) : val64 x ≠ .nan := by
  obtain ⟨s, c, q, h1, -⟩ := h; rw [h1]; exact Datum.noConfusion
theorem own_is_fin {x : UInt64} {r : Rat} (h : own_is x r) : Fin64 x := by
  obtain ⟨s, c, q, h1, -⟩ := h; exact fin64_core.mpr ⟨s, c, q, h1⟩
theorem own_is_no {x : UInt64} {r : Rat} (h : own_is x r) : NoNaN64 x := (own_is_fin h).noNaN
theorem own_lt_of {a b : Rat} (h : a < b) (q : Int) : a * 2 ^ q < b * 2 ^ q := Rat.mul_lt_mul_of_pos_right h (own_p_pos q)
theorem own_is_lt {x y : UInt64} {a b : Rat} (hx : own_is x a) (hy : own_is y b) : FP.dcmp x y = some .lt ↔ a < b := by
  rw [show FP.dcmp x y = FP.Core.dcmp x y from rfl, dcmp_lt]
  constructor
  · rintro ⟨-, -, h⟩
    have h2 := Rat.intCast_lt_intCast.mpr h
    rw [own_zval hx, own_zval hy] at h2
    exact Rat.lt_of_mul_lt_mul_right h2 (Rat.le_of_lt (own_p_pos _))
  · intro h
    refine ⟨own_is_nn hx, own_is_nn hy, Rat.intCast_lt_intCast.mp ?_⟩
    rw [own_zval hx, own_zval hy]
    exact own_lt_of h _
theorem own_is_gt {x y : UInt64} {a b : Rat} (hx : own_is x a) (hy : own_is y b) : FP.dcmp x y = some .gt ↔ b < a := by
  rw [← own_is_lt hy hx, show FP.dcmp x y = FP.Core.dcmp x y from rfl, show FP.dcmp y x = FP.Core.dcmp y x from rfl, dcmp_gt, dcmp_lt]
  exact ⟨fun ⟨h1, h2, h⟩ => ⟨h2, h1, h⟩, fun ⟨h1, h2, h⟩ => ⟨h2, h1, h⟩⟩
theorem own_is_eq {x y : UInt64} {a b : Rat} (hx : own_is x a) (hy : own_is y b) : FP.dcmp x y = some .eq ↔ a = b := by
  rw [show FP.dcmp x y = FP.Core.dcmp x y from rfl, dcmp_eq]
  constructor
  · rintro ⟨-, -, h⟩
    have h2 : ((zval b64 (val64 x) : Int) : Rat) = ((zval b64 (val64 y) : Int) : Rat) := by rw [h]
    rw [own_zval hx, own_zval hy] at h2
    have h3 := own_p_ne 1074
    calc a = a * 2 ^ (1074 : Int) / 2 ^ (1074 : Int) := (Rat.mul_div_cancel h3).symm
      _ = b * 2 ^ (1074 : Int) / 2 ^ (1074 : Int) := by rw [h2]
      _ = b := Rat.mul_div_cancel h3
  · rintro rfl
    exact ⟨own_is_nn hx, own_is_nn hy, Rat.intCast_inj.mp (by rw [own_zval hx, own_zval hy])⟩
theorem own_rd_of {x : UInt64} {r : Rat} (h : own_is x r) : own_rd x r := by
  obtain ⟨s, c, q, h1, rfl⟩ := h
  have hf := val64_fits x
  rw [h1] at hf
  refine ⟨s, c, 1, q, by decide, h1.trans (round_of_fits good_b64 hf).symm, ?_⟩
  rw [show (((1 : Nat) : Rat)) = 1 from rfl, Rat.div_def, own_inv1, Rat.mul_one]
theorem own_rd_nn {x : UInt64} {r : Rat} (h : own_rd x r) : val64 x ≠ .nan := by
  obtain ⟨s, A, B, e, -, h1, -⟩ := h; rw [h1]; exact roundRatio_ne_nan _ _ _ _ _
theorem own_rd_no {x : UInt64} {r : Rat} (h : own_rd x r) : NoNaN64 x := val64_no.mpr (own_rd_nn h)
/-- the magnitude of a ratio -/
theorem own_signed_zero {s : Bool} {A : Nat} : ((signed s A : Int) : Rat) = 0 ↔ A = 0 := by
  rw [Rat.intCast_eq_zero_iff, signed_eq_zero]
theorem own_ratio_zero {s : Bool} {A B : Nat} {e : Int} (hB : 0 < B) : ((signed s A : Int) : Rat) / ((B : Nat) : Rat) * (2 : Rat) ^ e = 0 ↔ A = 0 := by
  have hb : ((B : Nat) : Rat) ≠ 0 := by rw [Ne, Rat.natCast_eq_zero_iff]; omega
  constructor
  · intro h
    rcases Rat.mul_eq_zero.mp h with h | h
    · rw [Rat.div_def] at h
      rcases Rat.mul_eq_zero.mp h with h | h
      · exact own_signed_zero.mp h
      · exact absurd (by rw [← Rat.inv_inv ((B : Nat) : Rat), h, Rat.inv_zero]) hb
    · exact absurd h (own_p_ne e)
  · rintro rfl
    rw [own_signed_zero.mpr rfl, Rat.div_def, Rat.zero_mul, Rat.zero_mul]
end OwnNum
section OwnNum2
open Jvm.FP.Core Jvm.Free.Fl
theorem own_nat_pos {B : Nat} (h : 0 < B) : (0 : Rat) < ((B : Nat) : Rat) := Rat.natCast_pos.mpr h
theorem own_nat_ne {B : Nat} (h : 0 < B) : ((B : Nat) : Rat) ≠ 0 := Rat.ne_of_gt (own_nat_pos h)
theorem own_cross {a b a' b' P P' : Rat} (hb : b ≠ 0) (hb' : b' ≠ 0) (h : a / b * P = a' / b' * P') : a * b' * P = a' * b * P' := by
  have h1 : a = a / b * b := (Rat.div_mul_cancel hb).symm
  have h2 : a' = a' / b' * b' := (Rat.div_mul_cancel hb').symm
  generalize a / b = u at *
  generalize a' / b' = w at *
  subst h1 h2
  grind
theorem own_cancel {a b P : Rat} (hP : P ≠ 0) (h : a * P = b * P) : a = b := by
  rw [← Rat.mul_div_cancel (a := a) hP, h, Rat.mul_div_cancel hP]
theorem own_sig_eq {s s' : Bool} {X Y : Nat} (hX : 0 < X) (h : signed s X = signed s' Y) : s = s' ∧ X = Y := by
  cases s <;> cases s' <;> simp only [signed, Bool.false_eq_true, if_true, if_false] at h <;> first | exact ⟨rfl, by omega⟩ | omega
theorem own_ratio_le {s s' : Bool} {A B A' B' : Nat} {e e' : Int} (hB : 0 < B) (hB' : 0 < B') (hA : 0 < A) (hle : e' ≤ e)
    (h : ((signed s A : Int) : Rat) / ((B : Nat) : Rat) * (2 : Rat) ^ e = ((signed s' A' : Int) : Rat) / ((B' : Nat) : Rat) * (2 : Rat) ^ e') :
    s = s' ∧ A * B' * 2 ^ (e - e').toNat = A' * B := by
  have h1 := own_cross (own_nat_ne hB) (own_nat_ne hB') h
  have h2 : (2 : Rat) ^ e = 2 ^ (e - e') * 2 ^ e' := by rw [← own_p_add]; congr 1; omega
  rw [h2, ← Rat.mul_assoc] at h1
  have h3 := own_cancel (own_p_ne e') h1
  rw [← own_p_toNat (by omega), ← own_signed_cast, ← own_signed_cast, ← own_signed_cast, Rat.intCast_inj] at h3
  exact own_sig_eq (Nat.mul_pos (Nat.mul_pos hA hB') (Nat.two_pow_pos _)) h3
theorem own_ratio_eq {s s' : Bool} {A B A' B' : Nat} {e e' : Int} (hB : 0 < B) (hB' : 0 < B') (hA : 0 < A)
    (h : ((signed s A : Int) : Rat) / ((B : Nat) : Rat) * (2 : Rat) ^ e = ((signed s' A' : Int) : Rat) / ((B' : Nat) : Rat) * (2 : Rat) ^ e') :
    s = s' ∧ roundRatio b64 s A B e = roundRatio b64 s' A' B' e' := by
  have hA' : 0 < A' := by
    rcases Nat.eq_zero_or_pos A' with h0 | h0
    · rw [(own_ratio_zero hB').mpr h0, own_ratio_zero hB] at h; omega
    · exact h0
  rcases Int.le_total e' e with hle | hle
  · obtain ⟨rfl, h1⟩ := own_ratio_le hB hB' hA hle h
    refine ⟨rfl, roundRatio_congr hB hB' ?_⟩
    rw [h1, show (e' - e).toNat = 0 by omega]; simp
  · obtain ⟨rfl, h1⟩ := own_ratio_le hB' hB hA' hle h.symm
    refine ⟨rfl, (roundRatio_congr hB' hB ?_).symm⟩
    rw [h1, show (e - e').toNat = 0 by omega]; simp
theorem own_rd_uniq {x y : UInt64} {r : Rat} (hx : own_rd x r) (hy : own_rd y r) : FP.dcmp x y = some .eq := by
  obtain ⟨s, A, B, e, hB, hv, hr⟩ := hx
  obtain ⟨s', A', B', e', hB', hv', hr'⟩ := hy
  rcases Nat.eq_zero_or_pos A with hA | hA
  · have hA' : A' = 0 := by rw [← own_ratio_zero hB' (s := s') (e := e'), ← hr', hr]; exact (own_ratio_zero hB).mpr hA
    subst hA hA'
    rw [show FP.dcmp x y = FP.Core.dcmp x y from rfl, dcmp_eq, hv, hv']
    refine ⟨roundRatio_ne_nan _ _ _ _ _, roundRatio_ne_nan _ _ _ _ _, ?_⟩
    show zval b64 (.fin s 0 b64.qmin) = zval b64 (.fin s' 0 b64.qmin)
    cases s <;> cases s' <;> decide
  · obtain ⟨-, h1⟩ := own_ratio_eq hB hB' hA (hr.symm.trans hr')
    have h2 : val64 x ≠ .nan := by rw [hv]; exact roundRatio_ne_nan _ _ _ _ _
    have h3 : x = y := val64_inj h2 (by rw [hv, hv', h1])
    subst h3
    exact dcmp_refl ((notNaN_iff x).mpr h2)
/-- exact where the rational has 53 digits -/
theorem own_rd_exact {x : UInt64} {r : Rat} (h : own_rd x r) {m : Int} {k : Int} (hr : r = (m : Rat) * (2 : Rat) ^ k) (hm : m.natAbs < 2 ^ 53) (hk : -1074 ≤ k) (hk2 : k ≤ 971) : own_is x r := by
  obtain ⟨s, A, B, e, hB, hv, hr0⟩ := h
  have hcan : ∀ (t : Bool), ((signed t m.natAbs : Int) : Rat) * (2 : Rat) ^ k = r → roundRatio b64 s A B e = round b64 (.fin t m.natAbs k) → own_is x r := by
    intro t ht hq
    obtain ⟨c', q', h1, h2⟩ := round_exact good_b64 t (c := m.natAbs) (q := k) hm (by rw [qmin_b64]; exact hk) (by exact hk2)
    have hx : val64 x = .fin t c' q' := by rw [hv, hq, h1]
    refine ⟨t, c', q', hx, ?_⟩
    have hf := val64_fits x
    rw [hx] at hf
    have z1 := own_zmag hf
    have z2 : ((inUnits c' q' b64.qmin : Nat) : Rat) = ((m.natAbs : Nat) : Rat) * 2 ^ k * 2 ^ (1074 : Int) := by
      rw [h2]; unfold inUnits
      rw [Rat.natCast_mul, own_p_toNat (by rw [qmin_b64]; omega), qmin_b64, show k - (-1074) = k + 1074 by omega, own_p_add, Rat.mul_assoc]
    have z3 : (c' : Rat) * 2 ^ q' = ((m.natAbs : Nat) : Rat) * 2 ^ k := own_cancel (own_p_ne 1074) (z1.symm.trans z2)
    rw [← ht]
    cases t
    · exact z3.symm
    · show ((-(m.natAbs : Int) : Int) : Rat) * _ = ((-(c' : Int) : Int) : Rat) * _
      rw [Rat.intCast_neg, Rat.intCast_neg, Rat.neg_mul, Rat.neg_mul]
      exact congrArg _ z3.symm
  rcases Nat.eq_zero_or_pos A with hA | hA
  · have h0 : r = 0 := by rw [hr0]; exact (own_ratio_zero hB).mpr hA
    have hm0 : m = 0 := by
      rw [h0] at hr
      rcases Rat.mul_eq_zero.mp hr.symm with h1 | h1
      · exact Rat.intCast_eq_zero_iff.mp h1
      · exact absurd h1 (own_p_ne k)
    subst hm0 hA
    refine hcan s ?_ ?_
    · rw [h0]; cases s <;> simp [signed]
    · show Datum.fin s 0 b64.qmin = Datum.fin s 0 b64.qmin
      rfl
  · have h1 : ((signed s A : Int) : Rat) / ((B : Nat) : Rat) * (2 : Rat) ^ e = ((signed (decide (m < 0)) m.natAbs : Int) : Rat) / (((1 : Nat) : Nat) : Rat) * (2 : Rat) ^ k := by
      rw [← hr0, hr, show (((1 : Nat) : Rat)) = 1 from rfl, Rat.div_def, own_inv1, Rat.mul_one]
      congr 2
      unfold signed
      by_cases hmn : m < 0 <;> simp [hmn] <;> omega
    obtain ⟨-, h2⟩ := own_ratio_eq hB (by decide) hA h1
    refine hcan (decide (m < 0)) ?_ h2
    rw [hr]
    congr 2
    unfold signed
    by_cases hmn : m < 0 <;> simp [hmn] <;> omega
theorem own_add {x y : UInt64} {a b : Rat} (hx : own_is x a) (hy : own_is y b) : own_rd (FP.dadd x y) (a + b) := by
  obtain ⟨s, c, q, h1, rfl⟩ := hx
  obtain ⟨t, d, r, h2, rfl⟩ := hy
  refine ⟨_, _, 1, min q r, by decide, (val64_dadd x y).trans (by rw [h1, h2]; rfl), ?_⟩
  rw [signed_sumSign, show (((1 : Nat) : Rat)) = 1 from rfl, Rat.div_def, own_inv1, Rat.mul_one]
  unfold sumUnits inUnits
  rw [Rat.intCast_add, own_signed_cast, own_signed_cast, own_p_toNat (by omega), own_p_toNat (by omega), Rat.add_mul, Rat.mul_assoc, Rat.mul_assoc, ← own_p_add, ← own_p_add, show q - min q r + min q r = q by omega, show r - min q r + min q r = r by omega]
theorem own_neg {x : UInt64} {a : Rat} (hx : own_is x a) : own_is (FP.dneg x) (-a) := by
  obtain ⟨s, c, q, h1, rfl⟩ := hx
  refine ⟨!s, c, q, (FP.val64_dneg x).trans (by rw [h1]; rfl), ?_⟩
  rw [signed_not, Rat.intCast_neg, Rat.neg_mul]
theorem own_sub {x y : UInt64} {a b : Rat} (hx : own_is x a) (hy : own_is y b) : own_rd (FP.dsub x y) (a - b) := by
  have h : val64 (FP.dsub x y) = val64 (FP.dadd x (FP.dneg y)) := by
    rw [show val64 (FP.dsub x y) = _ from val64_dsub x y, show val64 (FP.dadd x (FP.dneg y)) = _ from val64_dadd x (FP.dneg y), FP.val64_dneg]
  obtain ⟨s, A, B, e, hB, hv, hr⟩ := own_add hx (own_neg hy)
  exact ⟨s, A, B, e, hB, h.trans hv, by rw [Rat.sub_eq_add_neg]; exact hr⟩
theorem own_mul {x y : UInt64} {a b : Rat} (hx : own_is x a) (hy : own_is y b) : own_rd (FP.dmul x y) (a * b) := by
  obtain ⟨s, c, q, h1, rfl⟩ := hx
  obtain ⟨t, d, r, h2, rfl⟩ := hy
  refine ⟨s != t, c * d, 1, q + r, by decide, (val64_dmul x y).trans (by rw [h1, h2]; rfl), ?_⟩
  rw [signed_xor, Rat.intCast_mul, own_p_add, show (((1 : Nat) : Rat)) = 1 from rfl, Rat.div_def, own_inv1, Rat.mul_one]
  grind
theorem own_div {x y : UInt64} {a b : Rat} (hx : own_is x a) (hy : own_is y b) (hb : b ≠ 0) : own_rd (FP.ddiv x y) (a / b) := by
  obtain ⟨s, c, q, h1, rfl⟩ := hx
  obtain ⟨t, d, r, h2, rfl⟩ := hy
  have hd : d ≠ 0 := by
    rintro rfl
    exact hb (by rw [own_signed_zero.mpr rfl, Rat.zero_mul])
  refine ⟨s != t, c, d, q - r, by omega, (val64_ddiv x y).trans (by rw [h1, h2]; show (if d = 0 then _ else _) = _; rw [if_neg hd]), ?_⟩
  have hd' : ((d : Nat) : Rat) ≠ 0 := own_nat_ne (by omega)
  have e1 : (2 : Rat) ^ q = 2 ^ (q - r) * 2 ^ r := by rw [← own_p_add]; congr 1; omega
  have e2 := own_p_ne r
  rw [e1]
  generalize (2 : Rat) ^ (q - r) = P
  generalize (2 : Rat) ^ r = W at *
  cases s <;> cases t <;> simp only [signed, Bool.false_eq_true, if_true, if_false, bne_self_eq_false, Rat.intCast_neg, Rat.intCast_natCast, Bool.bne_true, Bool.bne_false, Bool.not_false, Bool.not_true] <;> grind
theorem own_rdL (a : Int64) : own_rd (FP.l2d a) ((a.toInt : Int) : Rat) := by
  refine ⟨decide (a.toInt < 0), a.toInt.natAbs, 1, 0, by decide, val64_l2d a, ?_⟩
  rw [show (((1 : Nat) : Rat)) = 1 from rfl, Rat.div_def, own_inv1, Rat.mul_one, Rat.zpow_zero, Rat.mul_one]
  congr 1
  unfold signed
  by_cases hmn : a.toInt < 0 <;> simp [hmn] <;> omega
theorem own_isI (a : Int32) : own_is (FP.i2d a) ((a.toInt : Int) : Rat) := by
  have h : FP.i2d a = FP.l2d a.toInt64 := i2d_l2d a
  have h2 := own_rdL a.toInt64
  rw [Int32.toInt_toInt64] at h2
  rw [h]
  refine own_rd_exact h2 (m := a.toInt) (k := 0) (by rw [Rat.zpow_zero, Rat.mul_one]) ?_ (by decide) (by decide)
  have := a.le_toInt; have := a.toInt_lt; omega
end OwnNum2
section OwnNum3
open Jvm.FP.Core Jvm.Free.Fl
theorem own_units {A B : Nat} {e : Int} {c : Nat} {q : Int} {s : Bool} (hf : FP.Core.fits b64 (.fin s c q)) (e0 : Int) (h0 : e0 ≤ b64.qmin) (h0e : e0 ≤ e) :
    (((inUnits A e e0 : Nat) : Rat) = (A : Rat) * 2 ^ e * 2 ^ (-e0)) ∧ (((zmag b64 (.fin s c q) * 2 ^ (b64.qmin - e0).toNat * B : Nat) : Rat) = ((c : Rat) * 2 ^ q) * (B : Rat) * 2 ^ (-e0)) := by
  constructor
  · unfold inUnits
    rw [Rat.natCast_mul, own_p_toNat (by omega), show e - e0 = e + -e0 by omega, own_p_add, Rat.mul_assoc]
  · rw [Rat.natCast_mul, Rat.natCast_mul, own_zmag hf, own_p_toNat (by omega), show b64.qmin - e0 = -1074 + -e0 by rw [qmin_b64]; omega, own_p_add]
    have := own_p_neg 1074
    grind
theorem own_div_le {a b w : Rat} (hb : 0 < b) : a / b ≤ w ↔ a ≤ w * b := by
  have h1 : a = a / b * b := (Rat.div_mul_cancel (Rat.ne_of_gt hb)).symm
  constructor
  · intro h; rw [h1]; exact Rat.mul_le_mul_of_nonneg_right h (Rat.le_of_lt hb)
  · intro h; rw [h1] at h; exact Rat.le_of_mul_le_mul_right h hb
theorem own_le_div {a b w : Rat} (hb : 0 < b) : w ≤ a / b ↔ w * b ≤ a := by
  have h1 : a = a / b * b := (Rat.div_mul_cancel (Rat.ne_of_gt hb)).symm
  constructor
  · intro h; rw [h1]; exact Rat.mul_le_mul_of_nonneg_right h (Rat.le_of_lt hb)
  · intro h; rw [h1] at h; exact Rat.le_of_mul_le_mul_right h hb
theorem own_mag_le {A B : Nat} {e : Int} {s t : Bool} {c : Nat} {q : Int} (hB : 0 < B) (hf : FP.Core.fits b64 (.fin t c q)) (h : (A : Rat) / (B : Rat) * 2 ^ e ≤ (c : Rat) * 2 ^ q) : zmag b64 (roundRatio b64 s A B e) ≤ zmag b64 (.fin t c q) := by
  obtain ⟨u1, u2⟩ := own_units (A := A) (B := B) (e := e) hf (min e b64.qmin) (by omega) (by omega)
  refine zmag_roundRatio_le good_b64 hB hf Datum.noConfusion (e0 := min e b64.qmin) (by omega) (by omega) (Rat.natCast_le_natCast.mp ?_)
  rw [u1, u2]
  refine Rat.mul_le_mul_of_nonneg_right ?_ (Rat.le_of_lt (own_p_pos _))
  have hb := own_nat_pos hB
  have h2 := Rat.mul_le_mul_of_nonneg_right h (Rat.le_of_lt hb)
  have h3 : (A : Rat) / (B : Rat) * 2 ^ e * (B : Rat) = (A : Rat) * 2 ^ e := by
    rw [Rat.mul_assoc, Rat.mul_comm ((2 : Rat) ^ e), ← Rat.mul_assoc, Rat.div_mul_cancel (own_nat_ne hB)]
  rw [h3] at h2
  exact h2
theorem own_mag_ge {A B : Nat} {e : Int} {s t : Bool} {c : Nat} {q : Int} (hB : 0 < B) (hf : FP.Core.fits b64 (.fin t c q)) (h : (c : Rat) * 2 ^ q ≤ (A : Rat) / (B : Rat) * 2 ^ e) : zmag b64 (.fin t c q) ≤ zmag b64 (roundRatio b64 s A B e) := by
  obtain ⟨u1, u2⟩ := own_units (A := A) (B := B) (e := e) hf (min e b64.qmin) (by omega) (by omega)
  refine zmag_roundRatio_ge good_b64 hB hf (e0 := min e b64.qmin) (by omega) (by omega) (Rat.natCast_le_natCast.mp ?_)
  rw [u1, u2]
  refine Rat.mul_le_mul_of_nonneg_right ?_ (Rat.le_of_lt (own_p_pos _))
  have hb := own_nat_pos hB
  have h2 := Rat.mul_le_mul_of_nonneg_right h (Rat.le_of_lt hb)
  have h3 : (A : Rat) / (B : Rat) * 2 ^ e * (B : Rat) = (A : Rat) * 2 ^ e := by
    rw [Rat.mul_assoc, Rat.mul_comm ((2 : Rat) ^ e), ← Rat.mul_assoc, Rat.div_mul_cancel (own_nat_ne hB)]
  rw [h3] at h2
  exact h2
theorem own_signed_ratio (s : Bool) (A B : Nat) (e : Int) : ((signed s A : Int) : Rat) / ((B : Nat) : Rat) * (2 : Rat) ^ e = if s then -((A : Rat) / (B : Rat) * 2 ^ e) else (A : Rat) / (B : Rat) * 2 ^ e := by
  cases s
  · rfl
  · show ((-(A : Int) : Int) : Rat) / _ * _ = _
    rw [Rat.intCast_neg, Rat.div_def, Rat.neg_mul, Rat.neg_mul]; rfl
theorem own_signed_pow (s : Bool) (c : Nat) (q : Int) : ((signed s c : Int) : Rat) * (2 : Rat) ^ q = if s then -((c : Rat) * 2 ^ q) else (c : Rat) * 2 ^ q := by
  cases s
  · rfl
  · show ((-(c : Int) : Int) : Rat) * _ = _
    rw [Rat.intCast_neg, Rat.neg_mul]; rfl
theorem own_ratio_nonneg (A B : Nat) (e : Int) : 0 ≤ (A : Rat) / (B : Rat) * 2 ^ e := by
  refine Rat.mul_nonneg ?_ (Rat.le_of_lt (own_p_pos e))
  rcases Nat.eq_zero_or_pos B with rfl | hB
  · rw [Rat.div_def]; exact Rat.mul_nonneg Rat.natCast_nonneg (by rw [show ((0 : Nat) : Rat) = 0 from rfl, Rat.inv_zero]; exact Rat.le_refl)
  · rw [own_le_div (own_nat_pos hB), Rat.zero_mul]; exact Rat.natCast_nonneg
theorem own_rd_le {x V : UInt64} {r y : Rat} (h : own_rd x r) (hV : own_is V y) (hle : r ≤ y) : zval b64 (val64 x) ≤ zval b64 (val64 V) := by
  obtain ⟨s, A, B, e, hB, hv, hr⟩ := h
  obtain ⟨t, c, q, hVv, hy⟩ := hV
  have hf := val64_fits V
  rw [hVv] at hf
  rw [hv, hVv]
  have m1 := own_mag_le (A := A) (e := e) (s := s) hB hf
  have m2 := own_mag_ge (A := A) (e := e) (s := s) hB hf
  unfold zval
  rw [sgn_roundRatio]
  show _ ≤ signed t (zmag b64 (.fin t c q))
  rw [own_signed_ratio] at hr
  rw [own_signed_pow] at hy
  have p1 := own_ratio_nonneg A B e
  have p2 : 0 ≤ (c : Rat) * 2 ^ q := Rat.mul_nonneg Rat.natCast_nonneg (Rat.le_of_lt (own_p_pos q))
  have hz : (c : Rat) * 2 ^ q ≤ 0 → zmag b64 (.fin t c q) = 0 := by
    intro h0
    have h1 : (c : Rat) * 2 ^ q = 0 := Rat.le_antisymm h0 p2
    have h2 := own_zmag hf
    rw [h1, Rat.zero_mul] at h2
    exact Rat.natCast_eq_zero_iff.mp h2
  generalize (A : Rat) / (B : Rat) * 2 ^ e = ra at *
  generalize (c : Rat) * 2 ^ q = rc at *
  generalize zmag b64 (roundRatio b64 s A B e) = za at *
  generalize zmag b64 (.fin t c q) = zc at *
  cases s <;> cases t <;> simp only [signed, Bool.false_eq_true, if_true, if_false] at hr hy ⊢
  · have := m1 (by grind); omega
  · have := m1 (by grind); have := hz (by grind); omega
  · omega
  · have := m2 (by grind); omega
theorem own_rd_neg {x : UInt64} {r : Rat} (h : own_rd x r) : own_rd (FP.dneg x) (-r) := by
  obtain ⟨s, A, B, e, hB, hv, hr⟩ := h
  refine ⟨!s, A, B, e, hB, (FP.val64_dneg x).trans (by rw [hv, negate_roundRatio]), ?_⟩
  rw [hr, signed_not, Rat.intCast_neg, Rat.div_def, Rat.div_def, Rat.neg_mul, Rat.neg_mul]
theorem own_zval_neg (x : UInt64) : zval b64 (val64 (FP.dneg x)) = -zval b64 (val64 x) := by
  rw [show val64 (FP.dneg x) = negate (val64 x) from FP.val64_dneg x, zval_negate]
theorem own_rd_ge {x V : UInt64} {r y : Rat} (h : own_rd x r) (hV : own_is V y) (hle : y ≤ r) : zval b64 (val64 V) ≤ zval b64 (val64 x) := by
  have h1 := own_rd_le (own_rd_neg h) (own_neg hV) (Rat.neg_le_neg hle)
  rw [own_zval_neg, own_zval_neg] at h1
  omega
theorem own_big : own_is 9110782046170513408 ((2 : Rat) ^ (1000 : Int)) := ⟨false, 2 ^ 52, 948, by decide +kernel, by
  show _ = (((2 ^ 52 : Nat) : Rat)) * _
  rw [own_p_nat, ← own_p_add]; rfl⟩
theorem own_rd_fin {x : UInt64} {r : Rat} (h : own_rd x r) (h1 : r ≤ (2 : Rat) ^ (1000 : Int)) (h2 : -((2 : Rat) ^ (1000 : Int)) ≤ r) : ∃ v, own_is x v := by
  have l1 := own_rd_le h own_big h1
  have l2 := own_rd_ge h (own_neg own_big) h2
  rw [own_zval_neg] at l2
  obtain ⟨s, A, B, e, hB, hv, hr⟩ := h
  rcases roundRatio_cases b64 s A B e with ⟨c, q, hc⟩ | hc
  · exact ⟨_, s, c, q, hv.trans hc, rfl⟩
  · rw [hv, hc] at l1 l2
    cases s
    · exact absurd l1 (by decide +kernel)
    · exact absurd l2 (by decide +kernel)
theorem own_rd_le' {x V : UInt64} {r v y : Rat} (h : own_rd x r) (hx : own_is x v) (hV : own_is V y) (hle : r ≤ y) : v ≤ y := by
  have h1 := own_rd_le h hV hle
  refine Rat.not_lt.mp fun h2 => ?_
  have h3 := (dcmp_lt.mp ((own_is_lt hV hx).mpr h2)).2.2
  omega
theorem own_rd_ge' {x V : UInt64} {r v y : Rat} (h : own_rd x r) (hx : own_is x v) (hV : own_is V y) (hle : y ≤ r) : y ≤ v := by
  have h1 := own_rd_ge h hV hle
  refine Rat.not_lt.mp fun h2 => ?_
  have h3 := (dcmp_lt.mp ((own_is_lt hx hV).mpr h2)).2.2
  omega
/-- every rational of 53 digits is a double -/
theorem own_rep {m k : Int} (hm : m.natAbs < 2 ^ 53) (hk : -1074 ≤ k) (hk2 : k ≤ 971) : ∃ V, own_is V ((m : Rat) * (2 : Rat) ^ k) := by
  have hf : FP.Core.fits b64 (roundRatio b64 (decide (m < 0)) m.natAbs 1 k) := roundRatio_fits good_b64 _ _ (by decide) _
  refine ⟨of64 (roundRatio b64 (decide (m < 0)) m.natAbs 1 k), own_rd_exact ⟨decide (m < 0), m.natAbs, 1, k, by decide, val64_of64 hf, ?_⟩ rfl hm hk hk2⟩
  rw [show (((1 : Nat) : Rat)) = 1 from rfl, Rat.div_def, own_inv1, Rat.mul_one]
  congr 2
  unfold signed
  by_cases hmn : m < 0 <;> simp [hmn] <;> omega
end OwnNum3
section OwnNum4
open Jvm.FP.Core Jvm.Free.Fl
theorem own_two200 : (1606938044258990275541962092341162602522202993782792835301376 : Rat) ≤ (2 : Rat) ^ (1000 : Int) := by decide +kernel
theorem own_rd_finN {x : UInt64} {r : Rat} (h : own_rd x r) (h1 : r ≤ 1606938044258990275541962092341162602522202993782792835301376) (h2 : -1606938044258990275541962092341162602522202993782792835301376 ≤ r) : ∃ v, own_is x v :=
  own_rd_fin h (Rat.le_trans h1 own_two200) (Rat.le_trans (Rat.neg_le_neg own_two200) h2)
theorem own_zero : own_is 0 0 := ⟨false, 0, -1074, by decide +kernel, by decide +kernel⟩
theorem own_one : own_is 4607182418800017408 1 := ⟨false, 2 ^ 52, -52, by decide +kernel, by decide +kernel⟩
theorem own_rep' {m k : Int} {r : Rat} (hr : r = (m : Rat) * (2 : Rat) ^ k) (hm : m.natAbs < 2 ^ 53) (hk : -1074 ≤ k) (hk2 : k ≤ 971) : ∃ V, own_is V r := by rw [hr]; exact own_rep hm hk hk2
theorem own_cmpv {x y : UInt64} {a b : Rat} (hx : own_is x a) (hy : own_is y b) (o : ClassFile.CmpOp) : Op.cmpValue (FP.dcmp x y) o = if a < b then -1 else if a = b then 0 else 1 := by
  by_cases h1 : a < b
  · rw [(own_is_lt hx hy).mpr h1, if_pos h1]; rfl
  · by_cases h2 : a = b
    · rw [(own_is_eq hx hy).mpr h2, if_neg h1, if_pos h2]; rfl
    · have h3 : b < a := by grind
      rw [(own_is_gt hx hy).mpr h3, if_neg h1, if_neg h2]; rfl
theorem own_c_lt {x y : UInt64} {a b : Rat} (hx : own_is x a) (hy : own_is y b) (o : ClassFile.CmpOp) : Op.ifCond.holds .lt (Op.cmpValue (FP.dcmp x y) o) = decide (a < b) := by
  rw [own_cmpv hx hy]; by_cases h1 : a < b <;> by_cases h2 : a = b <;> simp [h1, h2, Op.ifCond.holds]
theorem own_c_ge {x y : UInt64} {a b : Rat} (hx : own_is x a) (hy : own_is y b) (o : ClassFile.CmpOp) : Op.ifCond.holds .ge (Op.cmpValue (FP.dcmp x y) o) = decide (b ≤ a) := by
  rw [own_cmpv hx hy]
  by_cases h1 : a < b
  · simp [h1, Rat.not_le.mpr h1, Op.ifCond.holds]
  · by_cases h2 : a = b <;> simp [h1, h2, Rat.not_lt.mp h1, Op.ifCond.holds, Rat.le_refl]
theorem own_c_gt {x y : UInt64} {a b : Rat} (hx : own_is x a) (hy : own_is y b) (o : ClassFile.CmpOp) : Op.ifCond.holds .gt (Op.cmpValue (FP.dcmp x y) o) = decide (b < a) := by
  rw [own_cmpv hx hy]
  by_cases h1 : a < b
  · have : ¬ b < a := by grind
    simp [h1, this, Op.ifCond.holds]
  · by_cases h2 : a = b
    · subst h2; simp [Rat.lt_irrefl, Op.ifCond.holds]
    · have : b < a := by grind
      simp [h1, h2, this, Op.ifCond.holds]
theorem own_c_le {x y : UInt64} {a b : Rat} (hx : own_is x a) (hy : own_is y b) (o : ClassFile.CmpOp) : Op.ifCond.holds .le (Op.cmpValue (FP.dcmp x y) o) = decide (a ≤ b) := by
  rw [own_cmpv hx hy]
  by_cases h1 : a < b
  · simp [h1, Rat.le_of_lt h1, Op.ifCond.holds]
  · by_cases h2 : a = b
    · subst h2; simp [Rat.lt_irrefl, Rat.le_refl, Op.ifCond.holds]
    · have : ¬ a ≤ b := by grind
      simp [h1, h2, this, Op.ifCond.holds]
theorem own_c_eq {x y : UInt64} {a b : Rat} (hx : own_is x a) (hy : own_is y b) (o : ClassFile.CmpOp) : Op.ifCond.holds .eq (Op.cmpValue (FP.dcmp x y) o) = decide (a = b) := by
  rw [own_cmpv hx hy]
  by_cases h1 : a < b
  · have : ¬ a = b := by grind
    simp [h1, this, Op.ifCond.holds]
  · by_cases h2 : a = b <;> simp [h1, h2, Op.ifCond.holds]
theorem own_c_ne {x y : UInt64} {a b : Rat} (hx : own_is x a) (hy : own_is y b) (o : ClassFile.CmpOp) : Op.ifCond.holds .ne (Op.cmpValue (FP.dcmp x y) o) = decide (a ≠ b) := by
  rw [own_cmpv hx hy]
  by_cases h1 : a < b
  · have : ¬ a = b := by grind
    simp [h1, this, Op.ifCond.holds]
  · by_cases h2 : a = b <;> simp [h1, h2, Op.ifCond.holds]
/-- ints by their values -/
theorem own_i_lt (x y : Int32) : Op.if_icmp.holds .lt x y = decide (x.toInt < y.toInt) := by simp only [Op.if_icmp.holds, Int32.lt_iff_toInt_lt]
theorem own_i_gt (x y : Int32) : Op.if_icmp.holds .gt x y = decide (y.toInt < x.toInt) := by simp only [Op.if_icmp.holds, GT.gt, Int32.lt_iff_toInt_lt]
theorem own_i_le (x y : Int32) : Op.if_icmp.holds .le x y = decide (x.toInt ≤ y.toInt) := by simp only [Op.if_icmp.holds, Int32.le_iff_toInt_le]
theorem own_i_ge (x y : Int32) : Op.if_icmp.holds .ge x y = decide (y.toInt ≤ x.toInt) := by simp only [Op.if_icmp.holds, GE.ge, Int32.le_iff_toInt_le]
theorem own_i_eq (x y : Int32) : Op.if_icmp.holds .eq x y = decide (x = y) := by rw [Bool.eq_iff_iff]; simp [Op.if_icmp.holds]
theorem own_i_ne (x y : Int32) : Op.if_icmp.holds .ne x y = decide (x ≠ y) := by rw [Bool.eq_iff_iff]; simp [Op.if_icmp.holds]
theorem own_z_lt (x : Int32) : Op.ifCond.holds .lt x = decide (x.toInt < 0) := by simp only [Op.ifCond.holds, Int32.lt_iff_toInt_lt]; rfl
theorem own_z_gt (x : Int32) : Op.ifCond.holds .gt x = decide (0 < x.toInt) := by simp only [Op.ifCond.holds, GT.gt, Int32.lt_iff_toInt_lt]; rfl
theorem own_z_le (x : Int32) : Op.ifCond.holds .le x = decide (x.toInt ≤ 0) := by simp only [Op.ifCond.holds, Int32.le_iff_toInt_le]; rfl
theorem own_z_ge (x : Int32) : Op.ifCond.holds .ge x = decide (0 ≤ x.toInt) := by simp only [Op.ifCond.holds, GE.ge, Int32.le_iff_toInt_le]; rfl
theorem own_z_eq (x : Int32) : Op.ifCond.holds .eq x = decide (x = 0) := by rw [Bool.eq_iff_iff]; simp [Op.ifCond.holds]
theorem own_z_ne (x : Int32) : Op.ifCond.holds .ne x = decide (x ≠ 0) := by rw [Bool.eq_iff_iff]; simp [Op.ifCond.holds]
theorem own_lc_lt (x y : Int64) : Op.ifCond.holds .lt (if x > y then (1 : Int32) else if x = y then 0 else -1) = decide (x.toInt < y.toInt) := by
  simp only [GT.gt, Int64.lt_iff_toInt_lt, ← Int64.toInt_inj]
  by_cases h1 : y.toInt < x.toInt
  · simp [h1, Op.ifCond.holds, show ¬ x.toInt < y.toInt by omega]
  · by_cases h2 : x.toInt = y.toInt
    · simp [h2, Op.ifCond.holds]
    · simp [h1, h2, Op.ifCond.holds, show x.toInt < y.toInt by omega]
theorem own_lc_ge (x y : Int64) : Op.ifCond.holds .ge (if x > y then (1 : Int32) else if x = y then 0 else -1) = decide (y.toInt ≤ x.toInt) := by
  simp only [GT.gt, Int64.lt_iff_toInt_lt, ← Int64.toInt_inj]
  by_cases h1 : y.toInt < x.toInt
  · simp [h1, Op.ifCond.holds, show y.toInt ≤ x.toInt by omega]
  · by_cases h2 : x.toInt = y.toInt
    · simp [h2, Op.ifCond.holds]
    · simp [h1, h2, Op.ifCond.holds, show ¬ y.toInt ≤ x.toInt by omega]
theorem own_lc_gt (x y : Int64) : Op.ifCond.holds .gt (if x > y then (1 : Int32) else if x = y then 0 else -1) = decide (y.toInt < x.toInt) := by
  simp only [GT.gt, Int64.lt_iff_toInt_lt, ← Int64.toInt_inj]
  by_cases h1 : y.toInt < x.toInt
  · simp [h1, Op.ifCond.holds]
  · by_cases h2 : x.toInt = y.toInt
    · simp [h2, Op.ifCond.holds]
    · simp [h1, h2, Op.ifCond.holds]
theorem own_lc_le (x y : Int64) : Op.ifCond.holds .le (if x > y then (1 : Int32) else if x = y then 0 else -1) = decide (x.toInt ≤ y.toInt) := by
  simp only [GT.gt, Int64.lt_iff_toInt_lt, ← Int64.toInt_inj]
  by_cases h1 : y.toInt < x.toInt
  · simp [h1, Op.ifCond.holds, show ¬ x.toInt ≤ y.toInt by omega]
  · by_cases h2 : x.toInt = y.toInt
    · simp [h2, Op.ifCond.holds]
    · simp [h1, h2, Op.ifCond.holds, show x.toInt ≤ y.toInt by omega]
theorem own_lc_eq (x y : Int64) : Op.ifCond.holds .eq (if x > y then (1 : Int32) else if x = y then 0 else -1) = decide (x.toInt = y.toInt) := by
  simp only [GT.gt, Int64.lt_iff_toInt_lt, ← Int64.toInt_inj]
  by_cases h1 : y.toInt < x.toInt
  · simp [h1, Op.ifCond.holds, show ¬ x.toInt = y.toInt by omega]
  · by_cases h2 : x.toInt = y.toInt
    · simp [h2, Op.ifCond.holds]
    · simp [h1, h2, Op.ifCond.holds]
theorem own_lc_ne (x y : Int64) : Op.ifCond.holds .ne (if x > y then (1 : Int32) else if x = y then 0 else -1) = decide (x.toInt ≠ y.toInt) := by
  simp only [GT.gt, Int64.lt_iff_toInt_lt, ← Int64.toInt_inj]
  by_cases h1 : y.toInt < x.toInt
  · simp [h1, Op.ifCond.holds, show ¬ x.toInt = y.toInt by omega]
  · by_cases h2 : x.toInt = y.toInt
    · simp [h2, Op.ifCond.holds]
    · simp [h1, h2, Op.ifCond.holds]
end OwnNum4
section OwnNum5
open Jvm.FP.Core Jvm.Free.Fl
/-- no number of 53 digits is nearer than the rounded one -/
theorem own_near {s : Bool} {A B : Nat} {e : Int} {c : Nat} {q : Int} (hB : 0 < B) (hR : roundRatio b64 s A B e = .fin s c q) {c' : Nat} {q' : Int} (hc' : c' < 2 ^ 53) (hq' : -1074 ≤ q') {D : Rat}
    (h1 : (c' : Rat) * 2 ^ q' - (A : Rat) / (B : Rat) * 2 ^ e ≤ D) (h2 : (A : Rat) / (B : Rat) * 2 ^ e - (c' : Rat) * 2 ^ q' ≤ D) :
    (c : Rat) * 2 ^ q - (A : Rat) / (B : Rat) * 2 ^ e ≤ D ∧ (A : Rat) / (B : Rat) * 2 ^ e - (c : Rat) * 2 ^ q ≤ D := by
  have hfit : FP.Core.fits b64 (.fin s c q) := hR ▸ roundRatio_fits good_b64 s A hB e
  have hqm : (-1074 : Int) ≤ q := by have := hfit.2.1; rw [qmin_b64] at this; exact this
  obtain ⟨e0, he0, he1⟩ : ∃ e0 : Int, e0 ≤ -1074 ∧ e0 ≤ e := ⟨min e (-1074), by omega, by omega⟩
  have hd := roundRatio_nearest good_b64 hB hR hc' (by rw [qmin_b64]; exact hq') (e0 := e0) (by rw [qmin_b64]; exact he0) he1
  unfold distance at hd
  have hb := own_nat_pos hB
  have hp := own_p_pos (-e0)
  have cU : ∀ (n : Nat) (j : Int), e0 ≤ j → ((inUnits n j e0 : Nat) : Rat) = (n : Rat) * 2 ^ j * 2 ^ (-e0) := by
    intro n j hj
    unfold inUnits
    rw [Rat.natCast_mul, own_p_toNat (by omega), show j - e0 = j + -e0 by omega, own_p_add, Rat.mul_assoc]
  have uA := cU A e he1
  have uc := cU c q (by omega)
  have uc' := cU c' q' (by omega)
  have hA : (A : Rat) / (B : Rat) * 2 ^ e * (B : Rat) = (A : Rat) * 2 ^ e := by
    rw [Rat.mul_assoc, Rat.mul_comm ((2 : Rat) ^ e), ← Rat.mul_assoc, Rat.div_mul_cancel (own_nat_ne hB)]
  generalize (A : Rat) / (B : Rat) * 2 ^ e = a at *
  generalize hx : ((inUnits A e e0 : Nat) : Int) - ((inUnits c q e0 : Nat) : Int) * (B : Int) = x at hd
  generalize hy : ((inUnits A e e0 : Nat) : Int) - ((inUnits c' q' e0 : Nat) : Int) * (B : Int) = y at hd
  have ex : (x : Rat) = (a - (c : Rat) * 2 ^ q) * ((B : Rat) * 2 ^ (-e0)) := by
    rw [← hx, Rat.intCast_sub, Rat.intCast_mul, Rat.intCast_natCast, Rat.intCast_natCast, Rat.intCast_natCast, uA, uc, ← hA]
    grind
  have ey : (y : Rat) = (a - (c' : Rat) * 2 ^ q') * ((B : Rat) * 2 ^ (-e0)) := by
    rw [← hy, Rat.intCast_sub, Rat.intCast_mul, Rat.intCast_natCast, Rat.intCast_natCast, Rat.intCast_natCast, uA, uc', ← hA]
    grind
  have hK : (0 : Rat) < (B : Rat) * 2 ^ (-e0) := Rat.mul_pos hb hp
  generalize (B : Rat) * 2 ^ (-e0) = K at *
  generalize (c : Rat) * 2 ^ q = u at *
  generalize (c' : Rat) * 2 ^ q' = w at *
  have yD1 : (y : Rat) ≤ D * K := by rw [ey]; exact Rat.mul_le_mul_of_nonneg_right h2 (Rat.le_of_lt hK)
  have yD2 : -(y : Rat) ≤ D * K := by
    rw [ey]
    have := Rat.mul_le_mul_of_nonneg_right h1 (Rat.le_of_lt hK)
    grind
  have k1 : (x ≤ y ∨ x ≤ -y) ∧ (-x ≤ y ∨ -x ≤ -y) := by omega
  have x1 : (x : Rat) ≤ D * K := by
    rcases k1.1 with k | k
    · exact Rat.le_trans (Rat.intCast_le_intCast.mpr k) yD1
    · have := Rat.intCast_le_intCast.mpr k
      rw [Rat.intCast_neg] at this
      exact Rat.le_trans this yD2
  have x2 : -(x : Rat) ≤ D * K := by
    rw [← Rat.intCast_neg]
    rcases k1.2 with k | k
    · exact Rat.le_trans (Rat.intCast_le_intCast.mpr k) yD1
    · have := Rat.intCast_le_intCast.mpr k
      rw [Rat.intCast_neg y] at this
      exact Rat.le_trans this yD2
  rw [ex] at x1 x2
  constructor
  · refine Rat.le_of_mul_le_mul_right ?_ hK
    grind
  · refine Rat.le_of_mul_le_mul_right ?_ hK
    exact x1
theorem own_grid {a : Rat} {k : Int} (h0 : 0 ≤ a) (hk : a ≤ (2 : Rat) ^ k) : ∃ n : Nat, n ≤ 2 ^ 53 ∧ (n : Rat) * 2 ^ (k - 53) - a ≤ 2 ^ (k - 54) ∧ a - (n : Rat) * 2 ^ (k - 53) ≤ 2 ^ (k - 54) := by
  have hu := own_p_pos (k - 53)
  have e1 : (2 : Rat) ^ k = 2 ^ (k - 53) * 9007199254740992 := by
    rw [show (9007199254740992 : Rat) = (2 : Rat) ^ (53 : Int) by decide +kernel, ← own_p_add]; congr 1; omega
  have e2 : (2 : Rat) ^ (k - 53) = 2 ^ (k - 54) * 2 := by
    have := own_p_add (k - 54) 1
    rw [Rat.zpow_one, show k - 54 + 1 = k - 53 by omega] at this
    exact this
  have hv := own_p_pos (k - 54)
  rw [e1] at hk
  generalize (2 : Rat) ^ (k - 54) = g at *
  generalize (2 : Rat) ^ (k - 53) = u at *
  obtain ⟨f, hf⟩ : ∃ f : Int, f = (a / u + 1 / 2).floor := ⟨_, rfl⟩
  have f1 : (f : Rat) ≤ a / u + 1 / 2 := by rw [hf]; exact Rat.floor_le _
  have f2 : a / u + 1 / 2 < ((f + 1 : Int) : Rat) := by rw [hf]; exact Rat.lt_floor_add_one _
  rw [Rat.intCast_add, show ((1 : Int) : Rat) = 1 from rfl] at f2
  have ha : a = a / u * u := (Rat.div_mul_cancel (Rat.ne_of_gt hu)).symm
  have hb1 : a / u ≤ 9007199254740992 := by rw [own_div_le hu]; grind
  have hb0 : 0 ≤ a / u := by rw [own_le_div hu]; grind
  generalize a / u = t at *
  have n0 : 0 ≤ f := by
    refine Int.not_lt.mp fun q => ?_
    have : (f : Rat) ≤ -1 := (show ((f : Int) : Rat) ≤ ((-1 : Int) : Rat) from Rat.intCast_le_intCast.mpr (by omega))
    grind
  have n1 : f ≤ 9007199254740992 := by
    refine Int.not_lt.mp fun q => ?_
    have : (9007199254740993 : Rat) ≤ (f : Rat) := (show ((9007199254740993 : Int) : Rat) ≤ ((f : Int) : Rat) from Rat.intCast_le_intCast.mpr (by omega))
    grind
  refine ⟨f.toNat, by omega, ?_⟩
  have ec : ((f.toNat : Nat) : Rat) = (f : Rat) := by rw [← Rat.intCast_natCast, Int.toNat_of_nonneg n0]
  rw [ec, ha]
  have m1 : ((f : Rat) - t) * u ≤ (1 / 2) * u := Rat.mul_le_mul_of_nonneg_right (by grind) (Rat.le_of_lt hu)
  have m2 : (t - (f : Rat)) * u ≤ (1 / 2) * u := Rat.mul_le_mul_of_nonneg_right (by grind) (Rat.le_of_lt hu)
  constructor <;> grind
theorem own_err0 {s : Bool} {A B : Nat} {e : Int} {c : Nat} {q : Int} (hB : 0 < B) (hR : roundRatio b64 s A B e = .fin s c q) {k : Int} (hk1 : -1000 ≤ k) (hle : (A : Rat) / (B : Rat) * 2 ^ e ≤ 2 ^ k) :
    (c : Rat) * 2 ^ q - (A : Rat) / (B : Rat) * 2 ^ e ≤ 2 ^ (k - 54) ∧ (A : Rat) / (B : Rat) * 2 ^ e - (c : Rat) * 2 ^ q ≤ 2 ^ (k - 54) := by
  obtain ⟨n, hn, h1, h2⟩ := own_grid (own_ratio_nonneg A B e) hle
  rcases Nat.lt_or_eq_of_le hn with hlt | heq
  · exact own_near hB hR (c' := n) (q' := k - 53) hlt (by omega) h1 h2
  · subst heq
    have e3 : ((2 ^ 53 : Nat) : Rat) * 2 ^ (k - 53) = ((2 ^ 52 : Nat) : Rat) * 2 ^ (k - 52) := by
      rw [own_p_nat, own_p_nat, ← own_p_add, ← own_p_add]; congr 1
      show (53 : Int) + (k - 53) = 52 + (k - 52); omega
    rw [e3] at h1 h2
    exact own_near hB hR (c' := 2 ^ 52) (q' := k - 52) (by decide) (by omega) h1 h2
theorem own_p_mono {a b : Int} (h : a ≤ b) : (2 : Rat) ^ a ≤ 2 ^ b := by
  have e : (2 : Rat) ^ b = 2 ^ a * 2 ^ (b - a) := by rw [← own_p_add]; congr 1; omega
  have h1 : (1 : Rat) ≤ 2 ^ (b - a) := by
    rw [← own_p_toNat (by omega)]
    exact (show ((1 : Nat) : Rat) ≤ _ from Rat.natCast_le_natCast.mpr (Nat.one_le_two_pow))
  rw [e]
  have := Rat.mul_le_mul_of_nonneg_left h1 (Rat.le_of_lt (own_p_pos a))
  grind
/-- the error of a rounding, by a bound of what is rounded -/
theorem own_rd_err {x : UInt64} {r : Rat} (h : own_rd x r) {k : Int} (hk1 : -1000 ≤ k) (hk2 : k ≤ 1000) (h1 : r ≤ (2 : Rat) ^ k) (h2 : -((2 : Rat) ^ k) ≤ r) : ∃ v, own_is x v ∧ v - r ≤ 2 ^ (k - 54) ∧ r - v ≤ 2 ^ (k - 54) := by
  have hm := own_p_mono hk2
  obtain ⟨v, hv⟩ := own_rd_fin h (Rat.le_trans h1 hm) (Rat.le_trans (Rat.neg_le_neg hm) h2)
  refine ⟨v, hv, ?_⟩
  obtain ⟨s, A, B, e, hB, hx, hr⟩ := h
  obtain ⟨s', c, q, hx', hv'⟩ := hv
  rcases roundRatio_cases b64 s A B e with ⟨c2, q2, hc⟩ | hc
  · rw [hx, hc] at hx'
    cases hx'
    rw [own_signed_ratio] at hr
    rw [own_signed_pow] at hv'
    have hle : (A : Rat) / (B : Rat) * 2 ^ e ≤ 2 ^ k := by
      cases s
      · rw [if_neg (by decide)] at hr; rw [← hr]; exact h1
      · rw [if_pos rfl] at hr
        have : (A : Rat) / (B : Rat) * 2 ^ e = -r := by rw [hr, Rat.neg_neg]
        rw [this]; grind
    obtain ⟨g1, g2⟩ := own_err0 hB hc hk1 hle
    cases s
    · rw [if_neg (by decide)] at hr hv'; rw [hr, hv']; exact ⟨g1, g2⟩
    · rw [if_pos rfl] at hr hv'; rw [hr, hv']; constructor <;> grind
  · rw [hx, hc] at hx'; cases hx'
/-- a double that is a whole number, as the library says it -/
theorem own_whole {x : UInt64} {i : Int} (h : own_is x (i : Rat)) : DInt i x := by
  obtain ⟨s, c, q, hx, hr⟩ := h
  show Whole i (val64 x)
  rw [hx]
  show signed s (c * 2 ^ q.toNat) = i * ((2 ^ (-q).toNat : Nat) : Int)
  rw [← Rat.intCast_inj, own_signed_cast, Rat.intCast_mul, Rat.intCast_natCast]
  rcases Int.le_total 0 q with h0 | h0
  · rw [own_p_toNat h0, show (-q).toNat = 0 by omega, hr]
    rw [show ((2 ^ 0 : Nat) : Rat) = 1 from rfl, Rat.mul_one]
  · rw [own_p_toNat (a := -q) (by omega), show q.toNat = 0 by omega, hr, show ((2 ^ 0 : Nat) : Rat) = 1 from rfl, Rat.mul_one, Rat.mul_assoc, own_p_neg, Rat.mul_one]
theorem own_isd2l {x : UInt64} {a : Int64} (h : own_is x ((a.toInt : Int) : Rat)) : FP.d2l x = a := d2l_int (own_whole h)
/-- a whole number below 2^63, rounded: a whole number, at most 512 off -/
theorem own_rd_int {x : UInt64} {i : Int} (h : own_rd x (i : Rat)) (h1 : i ≤ 9223372036854775807) (h2 : -9223372036854775807 ≤ i) : ∃ j : Int, own_is x (j : Rat) ∧ j - i ≤ 512 ∧ i - j ≤ 512 := by
  rcases Nat.lt_or_ge i.natAbs (2 ^ 53) with hs | hs
  · exact ⟨i, own_rd_exact h (m := i) (k := 0) (by rw [Rat.zpow_zero, Rat.mul_one]) hs (by decide) (by decide), by omega, by omega⟩
  · have e63 : (2 : Rat) ^ (63 : Int) = 9223372036854775808 := by decide +kernel
    have e9 : (2 : Rat) ^ ((63 : Int) - 54) = 512 := by decide +kernel
    have i1 : ((i : Int) : Rat) ≤ 9223372036854775808 := (show ((i : Int) : Rat) ≤ ((9223372036854775808 : Int) : Rat) from Rat.intCast_le_intCast.mpr (by omega))
    have i2 : (-9223372036854775808 : Rat) ≤ ((i : Int) : Rat) := (show ((-9223372036854775808 : Int) : Rat) ≤ ((i : Int) : Rat) from Rat.intCast_le_intCast.mpr (by omega))
    obtain ⟨v, hv, g1, g2⟩ := own_rd_err h (k := 63) (by decide) (by decide) (by rw [e63]; exact i1) (by rw [e63]; exact i2)
    rw [e9] at g1 g2
    have hv0 := hv
    obtain ⟨s, c, q, hx, hr⟩ := hv0
    have hf := val64_fits x
    rw [hx] at hf
    have hc : c < 2 ^ 53 := hf.1
    obtain ⟨V, hV⟩ := own_rep' (r := 9007199254740992) (m := 1) (k := 53) (by decide +kernel) (by decide) (by decide) (by decide)
    have hq : 0 ≤ q := by
      refine Int.not_lt.mp fun q0 => ?_
      have c1 : (c : Rat) * 2 ^ q < 9007199254740992 := by
        have c2 : ((c : Nat) : Rat) < 9007199254740992 := (show ((c : Nat) : Rat) < ((9007199254740992 : Nat) : Rat) from Rat.natCast_lt_natCast.mpr hc)
        have c3 : (2 : Rat) ^ q ≤ 1 := by
          have := own_p_mono (show q ≤ 0 by omega)
          rw [Rat.zpow_zero] at this; exact this
        have c4 : (0 : Rat) ≤ ((c : Nat) : Rat) := Rat.natCast_nonneg
        have := Rat.mul_le_mul_of_nonneg_left c3 c4
        grind
      have cneg : (0 : Rat) ≤ (c : Rat) * 2 ^ q := Rat.mul_nonneg Rat.natCast_nonneg (Rat.le_of_lt (own_p_pos q))
      rw [own_signed_pow] at hr
      rcases Int.le_total 0 i with hi | hi
      · have : (9007199254740992 : Rat) ≤ ((i : Int) : Rat) := (show ((9007199254740992 : Int) : Rat) ≤ ((i : Int) : Rat) from Rat.intCast_le_intCast.mpr (by omega))
        have := own_rd_ge' h hv hV this
        cases s <;> simp only [Bool.false_eq_true, if_true, if_false] at hr <;> grind
      · have : ((i : Int) : Rat) ≤ -9007199254740992 := (show ((i : Int) : Rat) ≤ ((-9007199254740992 : Int) : Rat) from Rat.intCast_le_intCast.mpr (by omega))
        have := own_rd_le' h hv (own_neg hV) this
        cases s <;> simp only [Bool.false_eq_true, if_true, if_false] at hr <;> grind
    have hj : v = ((signed s (c * 2 ^ q.toNat) : Int) : Rat) := by rw [own_signed_cast, own_p_toNat hq]; exact hr
    refine ⟨signed s (c * 2 ^ q.toNat), hj ▸ hv, ?_, ?_⟩
    · rw [hj, ← Rat.intCast_sub] at g1
      exact Rat.intCast_le_intCast.mp (show _ ≤ ((512 : Int) : Rat) from g1)
    · rw [hj, ← Rat.intCast_sub] at g2
      exact Rat.intCast_le_intCast.mp (show _ ≤ ((512 : Int) : Rat) from g2)
theorem own_rd_small {x : UInt64} {i : Int} (h : own_rd x (i : Rat)) (hs : i.natAbs < 2 ^ 53) : own_is x (i : Rat) :=
  own_rd_exact h (m := i) (k := 0) (by rw [Rat.zpow_zero, Rat.mul_one]) hs (by decide) (by decide)
end OwnNum5
section OwnNum6
open Jvm.FP.Core Jvm.Free.Fl
/-- a rational that is a double -/
def own_Rep (r : Rat) : Prop := ∃ m k : Int, r = (m : Rat) * (2 : Rat) ^ k ∧ m.natAbs < 2 ^ 53 ∧ -1074 ≤ k ∧ k ≤ 971
theorem own_rd_rep {x : UInt64} {r : Rat} (h : own_rd x r) (hr : own_Rep r) : own_is x r := by
  obtain ⟨m, k, h1, h2, h3, h4⟩ := hr
  exact own_rd_exact h h1 h2 h3 h4
theorem own_rep_int {i : Int} (h : i.natAbs < 2 ^ 53) : own_Rep (i : Rat) := ⟨i, 0, by rw [Rat.zpow_zero, Rat.mul_one], h, by decide, by decide⟩
/-- in halves, quarters ..: j binary places -/
theorem own_rep_fix {r : Rat} (m : Int) (j : Nat) (hj : j ≤ 1000) (hr : r * ((2 ^ j : Nat) : Rat) = (m : Rat)) (hm : m.natAbs < 2 ^ 53) : own_Rep r := by
  refine ⟨m, -(j : Int), ?_, hm, by omega, by omega⟩
  rw [← hr, own_p_nat, Rat.mul_assoc, own_p_neg, Rat.mul_one]
theorem own_nb {x y : Int} {X Y : Nat} (hx : x.natAbs ≤ X) (hy : y.natAbs ≤ Y) : (x * y).natAbs ≤ X * Y := by rw [Int.natAbs_mul]; exact Nat.mul_le_mul hx hy
theorem own_rd_self {z x : UInt64} {r : Rat} (h : own_rd z r) (hx : own_is x r) (h1 : r ≤ 1606938044258990275541962092341162602522202993782792835301376) (h2 : -1606938044258990275541962092341162602522202993782792835301376 ≤ r) : own_is z r := by
  obtain ⟨v, hv⟩ := own_rd_finN h h1 h2
  have : v = r := Rat.le_antisymm (own_rd_le' h hv hx Rat.le_refl) (own_rd_ge' h hv hx Rat.le_refl)
  exact this ▸ hv
/-- two roundings of one rational are one number -/
theorem own_rd_same {z x : UInt64} {r a b : Rat} (h : own_rd z r) (h' : own_rd x r) (ha : own_is z a) (hb : own_is x b) : a = b := (own_is_eq ha hb).mp (own_rd_uniq h h')
theorem own_cle {a b : Int} (h : a ≤ b) : ((a : Int) : Rat) ≤ ((b : Int) : Rat) := Rat.intCast_le_intCast.mpr h
end OwnNum6
open Jvm Jvm.ClassFile Sem Op Lib Jvm.Free Jvm.Stand Jvm.LawKit Jvm.RoadKit Bundle Jvm.Pilot.@@N@@.Jvm.D
/-! the walk layer: own_Go says that from one frame another one is reached, whatever the heap; one rule an instruction -/
section OwnWalk
open Jvm.Free Jvm.Free.Fl
def own_Ldc (tb : Tables) (e : Env) (below : List Frame) (T : State) (m : MethodId) (c : Code) (i : Nat) (v : Value) : Prop :=
  ∀ (g : JFrame) (target : State), g.method = m →
    ((∃ x, v = .int x) → decode c.code g.pc = .ok (.ldc i, 2) → Steps tb e below (T.setTop { g with pc := g.pc + 2, stack := v :: g.stack }) target → Steps tb e below (T.setTop g) target) ∧
    ((∃ x, v = .int x) → decode c.code g.pc = .ok (.ldc_w i, 3) → Steps tb e below (T.setTop { g with pc := g.pc + 3, stack := v :: g.stack }) target → Steps tb e below (T.setTop g) target) ∧
    (((∃ x, v = .long x) ∨ ∃ x, v = .double x) → decode c.code g.pc = .ok (.ldc2_w i, 3) → Steps tb e below (T.setTop { g with pc := g.pc + 3, stack := v :: g.stack }) target → Steps tb e below (T.setTop g) target)
def own_Go (P : List (Nat × Value)) (b : ByteArray) (pc : Nat) (L : Array Slot) (S : List Value) (pc' : Nat) (L' : Array Slot) (S' : List Value) : Prop :=
  ∀ (tb : Tables) [Ours tb] (e : Env) (below : List Frame) (T target : State) (m : MethodId) (c : Code), At T m c below → tb.exec = Jvm.exec → c.code = b →
    (∀ q ∈ P, own_Ldc tb e below T m c q.1 q.2) → Steps tb e below (T.setTop (mkF m pc' L' S')) target → Steps tb e below (T.setTop (mkF m pc L S)) target
variable {P : List (Nat × Value)} {b : ByteArray} {pc pcE : Nat} {L L' LE : Array Slot} {S SE : List Value}
theorem own_refl : own_Go P b pc L S pc L S := fun tb _ e below T target m c h hx hy hP k => k
theorem own_trans {pcM : Nat} {LM : Array Slot} {SM : List Value} (r1 : own_Go P b pc L S pcM LM SM) (r2 : own_Go P b pcM LM SM pcE LE SE) : own_Go P b pc L S pcE LE SE :=
  fun tb _ e below T target m c h hx hy hP k => r1 tb e below T target m c h hx hy hP (r2 tb e below T target m c h hx hy hP k)
theorem own_at {pc2 : Nat} {L2 : Array Slot} {S2 : List Value} (h1 : pc = pc2) (h2 : L = L2) (h3 : S = S2) (r : own_Go P b pc L S pcE LE SE) : own_Go P b pc2 L2 S2 pcE LE SE := by subst h1 h2 h3; exact r
theorem own_end {pc2 : Nat} {L2 : Array Slot} {S2 : List Value} (h1 : pcE = pc2) (h2 : LE = L2) (h3 : SE = S2) (r : own_Go P b pc L S pcE LE SE) : own_Go P b pc L S pc2 L2 S2 := by subst h1 h2 h3; exact r
theorem own_iload {j : Nat} {v : Int32} {pc2 : Nat} (hd : decode b pc = .ok (.iload j, 2)) (hpc : pc + 2 = pc2) (hl : L[j]? = some (.val (.int v))) (r : own_Go P b pc2 L (.int v :: S) pcE LE SE) : own_Go P b pc L (S) pcE LE SE := by
  intro tb _ e below T target m c h hx hy hP k; subst hpc; exact XS.iload h hx rfl (hb hy hd) hl (r tb e below T target m c h hx hy hP k)
theorem own_iloadN {j : Fin 4} {v : Int32} {pc2 : Nat} (hd : decode b pc = .ok (.iload_n j, 1)) (hpc : pc + 1 = pc2) (hl : L[j.val]? = some (.val (.int v))) (r : own_Go P b pc2 L (.int v :: S) pcE LE SE) : own_Go P b pc L (S) pcE LE SE := by
  intro tb _ e below T target m c h hx hy hP k; subst hpc; exact XS.iloadN h hx rfl (hb hy hd) hl (r tb e below T target m c h hx hy hP k)
theorem own_istore {j : Nat} {v : Int32} {rest : List Value} {pc2 : Nat} (hd : decode b pc = .ok (.istore j, 2)) (hpc : pc + 2 = pc2) (hl : storeLocals L j (.int v) = some L') (r : own_Go P b pc2 L' (rest) pcE LE SE) : own_Go P b pc L (.int v :: rest) pcE LE SE := by
  intro tb _ e below T target m c h hx hy hP k; subst hpc; exact XS.istore h hx rfl (hb hy hd) rfl hl (r tb e below T target m c h hx hy hP k)
theorem own_istoreN {j : Fin 4} {v : Int32} {rest : List Value} {pc2 : Nat} (hd : decode b pc = .ok (.istore_n j, 1)) (hpc : pc + 1 = pc2) (hl : storeLocals L j.val (.int v) = some L') (r : own_Go P b pc2 L' (rest) pcE LE SE) : own_Go P b pc L (.int v :: rest) pcE LE SE := by
  intro tb _ e below T target m c h hx hy hP k; subst hpc; exact XS.istoreN h hx rfl (hb hy hd) rfl hl (r tb e below T target m c h hx hy hP k)
theorem own_lload {j : Nat} {v : Int64} {pc2 : Nat} (hd : decode b pc = .ok (.lload j, 2)) (hpc : pc + 2 = pc2) (hl : L[j]? = some (.val (.long v))) (r : own_Go P b pc2 L (.long v :: S) pcE LE SE) : own_Go P b pc L (S) pcE LE SE := by
  intro tb _ e below T target m c h hx hy hP k; subst hpc; exact XS.lload h hx rfl (hb hy hd) hl (r tb e below T target m c h hx hy hP k)
theorem own_lloadN {j : Fin 4} {v : Int64} {pc2 : Nat} (hd : decode b pc = .ok (.lload_n j, 1)) (hpc : pc + 1 = pc2) (hl : L[j.val]? = some (.val (.long v))) (r : own_Go P b pc2 L (.long v :: S) pcE LE SE) : own_Go P b pc L (S) pcE LE SE := by
  intro tb _ e below T target m c h hx hy hP k; subst hpc; exact XS.lloadN h hx rfl (hb hy hd) hl (r tb e below T target m c h hx hy hP k)
theorem own_lstore {j : Nat} {v : Int64} {rest : List Value} {pc2 : Nat} (hd : decode b pc = .ok (.lstore j, 2)) (hpc : pc + 2 = pc2) (hl : storeLocals L j (.long v) = some L') (r : own_Go P b pc2 L' (rest) pcE LE SE) : own_Go P b pc L (.long v :: rest) pcE LE SE := by
  intro tb _ e below T target m c h hx hy hP k; subst hpc; exact XS.lstore h hx rfl (hb hy hd) rfl hl (r tb e below T target m c h hx hy hP k)
theorem own_lstoreN {j : Fin 4} {v : Int64} {rest : List Value} {pc2 : Nat} (hd : decode b pc = .ok (.lstore_n j, 1)) (hpc : pc + 1 = pc2) (hl : storeLocals L j.val (.long v) = some L') (r : own_Go P b pc2 L' (rest) pcE LE SE) : own_Go P b pc L (.long v :: rest) pcE LE SE := by
  intro tb _ e below T target m c h hx hy hP k; subst hpc; exact XS.lstoreN h hx rfl (hb hy hd) rfl hl (r tb e below T target m c h hx hy hP k)
theorem own_dload {j : Nat} {v : UInt64} {pc2 : Nat} (hd : decode b pc = .ok (.dload j, 2)) (hpc : pc + 2 = pc2) (hl : L[j]? = some (.val (.double v))) (r : own_Go P b pc2 L (.double v :: S) pcE LE SE) : own_Go P b pc L (S) pcE LE SE := by
  intro tb _ e below T target m c h hx hy hP k; subst hpc; exact XS.dload h hx rfl (hb hy hd) hl (r tb e below T target m c h hx hy hP k)
theorem own_dloadN {j : Fin 4} {v : UInt64} {pc2 : Nat} (hd : decode b pc = .ok (.dload_n j, 1)) (hpc : pc + 1 = pc2) (hl : L[j.val]? = some (.val (.double v))) (r : own_Go P b pc2 L (.double v :: S) pcE LE SE) : own_Go P b pc L (S) pcE LE SE := by
  intro tb _ e below T target m c h hx hy hP k; subst hpc; exact XS.dloadN h hx rfl (hb hy hd) hl (r tb e below T target m c h hx hy hP k)
theorem own_dstore {j : Nat} {v : UInt64} {rest : List Value} {pc2 : Nat} (hd : decode b pc = .ok (.dstore j, 2)) (hpc : pc + 2 = pc2) (hl : storeLocals L j (.double v) = some L') (r : own_Go P b pc2 L' (rest) pcE LE SE) : own_Go P b pc L (.double v :: rest) pcE LE SE := by
  intro tb _ e below T target m c h hx hy hP k; subst hpc; exact XS.dstore h hx rfl (hb hy hd) rfl hl (r tb e below T target m c h hx hy hP k)
theorem own_dstoreN {j : Fin 4} {v : UInt64} {rest : List Value} {pc2 : Nat} (hd : decode b pc = .ok (.dstore_n j, 1)) (hpc : pc + 1 = pc2) (hl : storeLocals L j.val (.double v) = some L') (r : own_Go P b pc2 L' (rest) pcE LE SE) : own_Go P b pc L (.double v :: rest) pcE LE SE := by
  intro tb _ e below T target m c h hx hy hP k; subst hpc; exact XS.dstoreN h hx rfl (hb hy hd) rfl hl (r tb e below T target m c h hx hy hP k)
theorem own_aload {j : Nat} {v : Value} {pc2 : Nat} (hd : decode b pc = .ok (.aload j, 2)) (hpc : pc + 2 = pc2) (hl : L[j]? = some (.val v)) (hr : v.isRef = true) (r : own_Go P b pc2 L (v :: S) pcE LE SE) : own_Go P b pc L (S) pcE LE SE := by
  intro tb _ e below T target m c h hx hy hP k; subst hpc; exact XS.aload h hx rfl (hb hy hd) hl hr (r tb e below T target m c h hx hy hP k)
theorem own_aloadN {j : Fin 4} {v : Value} {pc2 : Nat} (hd : decode b pc = .ok (.aload_n j, 1)) (hpc : pc + 1 = pc2) (hl : L[j.val]? = some (.val v)) (hr : v.isRef = true) (r : own_Go P b pc2 L (v :: S) pcE LE SE) : own_Go P b pc L (S) pcE LE SE := by
  intro tb _ e below T target m c h hx hy hP k; subst hpc; exact XS.aloadN h hx rfl (hb hy hd) hl hr (r tb e below T target m c h hx hy hP k)
theorem own_astore {j : Nat} {v : Value} {rest : List Value} {pc2 : Nat} (hd : decode b pc = .ok (.astore j, 2)) (hpc : pc + 2 = pc2) (hr : v.isRef = true) (hl : storeLocals L j v = some L') (r : own_Go P b pc2 L' (rest) pcE LE SE) : own_Go P b pc L (v :: rest) pcE LE SE := by
  intro tb _ e below T target m c h hx hy hP k; subst hpc; exact XS.astore h hx rfl (hb hy hd) rfl hr hl (r tb e below T target m c h hx hy hP k)
theorem own_astoreN {j : Fin 4} {v : Value} {rest : List Value} {pc2 : Nat} (hd : decode b pc = .ok (.astore_n j, 1)) (hpc : pc + 1 = pc2) (hr : v.isRef = true) (hl : storeLocals L j.val v = some L') (r : own_Go P b pc2 L' (rest) pcE LE SE) : own_Go P b pc L (v :: rest) pcE LE SE := by
  intro tb _ e below T target m c h hx hy hP k; subst hpc; exact XS.astoreN h hx rfl (hb hy hd) rfl hr hl (r tb e below T target m c h hx hy hP k)
theorem own_iconst {i : Int} {v : Int32} {pc2 : Nat} (hd : decode b pc = .ok (.iconst i, 1)) (hpc : pc + 1 = pc2) (hv : Int32.ofInt i = v) (r : own_Go P b pc2 L (.int v :: S) pcE LE SE) : own_Go P b pc L (S) pcE LE SE := by
  intro tb _ e below T target m c h hx hy hP k; subst hpc; subst hv; exact XS.iconst h hx rfl (hb hy hd) (r tb e below T target m c h hx hy hP k)
theorem own_bipush {i : Int} {v : Int32} {pc2 : Nat} (hd : decode b pc = .ok (.bipush i, 2)) (hpc : pc + 2 = pc2) (hv : (Int8.ofInt i).toInt32 = v) (r : own_Go P b pc2 L (.int v :: S) pcE LE SE) : own_Go P b pc L (S) pcE LE SE := by
  intro tb _ e below T target m c h hx hy hP k; subst hpc; subst hv; exact XS.bipush h hx rfl (hb hy hd) (r tb e below T target m c h hx hy hP k)
theorem own_sipush {i : Int} {v : Int32} {pc2 : Nat} (hd : decode b pc = .ok (.sipush i, 3)) (hpc : pc + 3 = pc2) (hv : (Int16.ofInt i).toInt32 = v) (r : own_Go P b pc2 L (.int v :: S) pcE LE SE) : own_Go P b pc L (S) pcE LE SE := by
  intro tb _ e below T target m c h hx hy hP k; subst hpc; subst hv; exact XS.sipush h hx rfl (hb hy hd) (r tb e below T target m c h hx hy hP k)
theorem own_lconst {j : Fin 2} {v : Int64} {pc2 : Nat} (hd : decode b pc = .ok (.lconst j, 1)) (hpc : pc + 1 = pc2) (hv : Int64.ofNat j = v) (r : own_Go P b pc2 L (.long v :: S) pcE LE SE) : own_Go P b pc L (S) pcE LE SE := by
  intro tb _ e below T target m c h hx hy hP k; subst hpc; subst hv; exact XS.lconst h hx rfl (hb hy hd) (r tb e below T target m c h hx hy hP k)
theorem own_dconst0  {v : UInt64} {pc2 : Nat} (hd : decode b pc = .ok (.dconst 0, 1)) (hpc : pc + 1 = pc2) (hv : FP.dconst0 = v) (r : own_Go P b pc2 L (.double v :: S) pcE LE SE) : own_Go P b pc L (S) pcE LE SE := by
  intro tb _ e below T target m c h hx hy hP k; subst hpc; subst hv; exact XS.dconst0 h hx rfl (hb hy hd) rfl (r tb e below T target m c h hx hy hP k)
theorem own_dconst1  {v : UInt64} {pc2 : Nat} (hd : decode b pc = .ok (.dconst 1, 1)) (hpc : pc + 1 = pc2) (hv : FP.dconst1 = v) (r : own_Go P b pc2 L (.double v :: S) pcE LE SE) : own_Go P b pc L (S) pcE LE SE := by
  intro tb _ e below T target m c h hx hy hP k; subst hpc; subst hv; exact XS.dconst1 h hx rfl (hb hy hd) rfl (r tb e below T target m c h hx hy hP k)
theorem own_aconstNull  {pc2 : Nat} (hd : decode b pc = .ok (.aconst_null, 1)) (hpc : pc + 1 = pc2) (r : own_Go P b pc2 L (.null :: S) pcE LE SE) : own_Go P b pc L (S) pcE LE SE := by
  intro tb _ e below T target m c h hx hy hP k; subst hpc; exact XS.aconstNull h hx rfl (hb hy hd) (r tb e below T target m c h hx hy hP k)
theorem own_iadd {x y : Int32} {v : Int32} {rest : List Value} {pc2 : Nat} (hd : decode b pc = .ok (.iadd, 1)) (hpc : pc + 1 = pc2) (hv : x + y = v) (r : own_Go P b pc2 L (.int v :: rest) pcE LE SE) : own_Go P b pc L (.int y :: .int x :: rest) pcE LE SE := by
  intro tb _ e below T target m c h hx hy hP k; subst hpc; subst hv; exact XS.iadd h hx rfl (hb hy hd) rfl (r tb e below T target m c h hx hy hP k)
theorem own_isub {x y : Int32} {v : Int32} {rest : List Value} {pc2 : Nat} (hd : decode b pc = .ok (.isub, 1)) (hpc : pc + 1 = pc2) (hv : x - y = v) (r : own_Go P b pc2 L (.int v :: rest) pcE LE SE) : own_Go P b pc L (.int y :: .int x :: rest) pcE LE SE := by
  intro tb _ e below T target m c h hx hy hP k; subst hpc; subst hv; exact XS.isub h hx rfl (hb hy hd) rfl (r tb e below T target m c h hx hy hP k)
theorem own_imul {x y : Int32} {v : Int32} {rest : List Value} {pc2 : Nat} (hd : decode b pc = .ok (.imul, 1)) (hpc : pc + 1 = pc2) (hv : x * y = v) (r : own_Go P b pc2 L (.int v :: rest) pcE LE SE) : own_Go P b pc L (.int y :: .int x :: rest) pcE LE SE := by
  intro tb _ e below T target m c h hx hy hP k; subst hpc; subst hv; exact XS.imul h hx rfl (hb hy hd) rfl (r tb e below T target m c h hx hy hP k)
theorem own_iand {x y : Int32} {v : Int32} {rest : List Value} {pc2 : Nat} (hd : decode b pc = .ok (.iand, 1)) (hpc : pc + 1 = pc2) (hv : x &&& y = v) (r : own_Go P b pc2 L (.int v :: rest) pcE LE SE) : own_Go P b pc L (.int y :: .int x :: rest) pcE LE SE := by
  intro tb _ e below T target m c h hx hy hP k; subst hpc; subst hv; exact XS.iand h hx rfl (hb hy hd) rfl (r tb e below T target m c h hx hy hP k)
theorem own_ior {x y : Int32} {v : Int32} {rest : List Value} {pc2 : Nat} (hd : decode b pc = .ok (.ior, 1)) (hpc : pc + 1 = pc2) (hv : x ||| y = v) (r : own_Go P b pc2 L (.int v :: rest) pcE LE SE) : own_Go P b pc L (.int y :: .int x :: rest) pcE LE SE := by
  intro tb _ e below T target m c h hx hy hP k; subst hpc; subst hv; exact XS.ior h hx rfl (hb hy hd) rfl (r tb e below T target m c h hx hy hP k)
theorem own_ixor {x y : Int32} {v : Int32} {rest : List Value} {pc2 : Nat} (hd : decode b pc = .ok (.ixor, 1)) (hpc : pc + 1 = pc2) (hv : x ^^^ y = v) (r : own_Go P b pc2 L (.int v :: rest) pcE LE SE) : own_Go P b pc L (.int y :: .int x :: rest) pcE LE SE := by
  intro tb _ e below T target m c h hx hy hP k; subst hpc; subst hv; exact XS.ixor h hx rfl (hb hy hd) rfl (r tb e below T target m c h hx hy hP k)
theorem own_ishl {x y : Int32} {v : Int32} {rest : List Value} {pc2 : Nat} (hd : decode b pc = .ok (.ishl, 1)) (hpc : pc + 1 = pc2) (hv : x <<< (y &&& 31) = v) (r : own_Go P b pc2 L (.int v :: rest) pcE LE SE) : own_Go P b pc L (.int y :: .int x :: rest) pcE LE SE := by
  intro tb _ e below T target m c h hx hy hP k; subst hpc; subst hv; exact XS.ishl h hx rfl (hb hy hd) rfl (r tb e below T target m c h hx hy hP k)
theorem own_ishr {x y : Int32} {v : Int32} {rest : List Value} {pc2 : Nat} (hd : decode b pc = .ok (.ishr, 1)) (hpc : pc + 1 = pc2) (hv : x >>> (y &&& 31) = v) (r : own_Go P b pc2 L (.int v :: rest) pcE LE SE) : own_Go P b pc L (.int y :: .int x :: rest) pcE LE SE := by
  intro tb _ e below T target m c h hx hy hP k; subst hpc; subst hv; exact XS.ishr h hx rfl (hb hy hd) rfl (r tb e below T target m c h hx hy hP k)
theorem own_iushr {x y : Int32} {v : Int32} {rest : List Value} {pc2 : Nat} (hd : decode b pc = .ok (.iushr, 1)) (hpc : pc + 1 = pc2) (hv : (x.toUInt32 >>> (y &&& 31).toUInt32).toInt32 = v) (r : own_Go P b pc2 L (.int v :: rest) pcE LE SE) : own_Go P b pc L (.int y :: .int x :: rest) pcE LE SE := by
  intro tb _ e below T target m c h hx hy hP k; subst hpc; subst hv; exact XS.iushr h hx rfl (hb hy hd) rfl (r tb e below T target m c h hx hy hP k)
theorem own_idiv {x y : Int32} {v : Int32} {rest : List Value} {pc2 : Nat} (hd : decode b pc = .ok (.idiv, 1)) (hpc : pc + 1 = pc2) (hn : y ≠ 0) (hv : x / y = v) (r : own_Go P b pc2 L (.int v :: rest) pcE LE SE) : own_Go P b pc L (.int y :: .int x :: rest) pcE LE SE := by
  intro tb _ e below T target m c h hx hy hP k; subst hpc; subst hv; exact XS.idiv h hx rfl (hb hy hd) rfl hn (r tb e below T target m c h hx hy hP k)
theorem own_irem {x y : Int32} {v : Int32} {rest : List Value} {pc2 : Nat} (hd : decode b pc = .ok (.irem, 1)) (hpc : pc + 1 = pc2) (hn : y ≠ 0) (hv : x - (x / y) * y = v) (r : own_Go P b pc2 L (.int v :: rest) pcE LE SE) : own_Go P b pc L (.int y :: .int x :: rest) pcE LE SE := by
  intro tb _ e below T target m c h hx hy hP k; subst hpc; subst hv; exact XS.irem h hx rfl (hb hy hd) rfl hn (r tb e below T target m c h hx hy hP k)
theorem own_ladd {x y : Int64} {v : Int64} {rest : List Value} {pc2 : Nat} (hd : decode b pc = .ok (.ladd, 1)) (hpc : pc + 1 = pc2) (hv : x + y = v) (r : own_Go P b pc2 L (.long v :: rest) pcE LE SE) : own_Go P b pc L (.long y :: .long x :: rest) pcE LE SE := by
  intro tb _ e below T target m c h hx hy hP k; subst hpc; subst hv; exact XS.ladd h hx rfl (hb hy hd) rfl (r tb e below T target m c h hx hy hP k)
theorem own_lsub {x y : Int64} {v : Int64} {rest : List Value} {pc2 : Nat} (hd : decode b pc = .ok (.lsub, 1)) (hpc : pc + 1 = pc2) (hv : x - y = v) (r : own_Go P b pc2 L (.long v :: rest) pcE LE SE) : own_Go P b pc L (.long y :: .long x :: rest) pcE LE SE := by
  intro tb _ e below T target m c h hx hy hP k; subst hpc; subst hv; exact XS.lsub h hx rfl (hb hy hd) rfl (r tb e below T target m c h hx hy hP k)
theorem own_lmul {x y : Int64} {v : Int64} {rest : List Value} {pc2 : Nat} (hd : decode b pc = .ok (.lmul, 1)) (hpc : pc + 1 = pc2) (hv : x * y = v) (r : own_Go P b pc2 L (.long v :: rest) pcE LE SE) : own_Go P b pc L (.long y :: .long x :: rest) pcE LE SE := by
  intro tb _ e below T target m c h hx hy hP k; subst hpc; subst hv; exact XS.lmul h hx rfl (hb hy hd) rfl (r tb e below T target m c h hx hy hP k)
theorem own_land {x y : Int64} {v : Int64} {rest : List Value} {pc2 : Nat} (hd : decode b pc = .ok (.land, 1)) (hpc : pc + 1 = pc2) (hv : x &&& y = v) (r : own_Go P b pc2 L (.long v :: rest) pcE LE SE) : own_Go P b pc L (.long y :: .long x :: rest) pcE LE SE := by
  intro tb _ e below T target m c h hx hy hP k; subst hpc; subst hv; exact XS.land h hx rfl (hb hy hd) rfl (r tb e below T target m c h hx hy hP k)
theorem own_lor {x y : Int64} {v : Int64} {rest : List Value} {pc2 : Nat} (hd : decode b pc = .ok (.lor, 1)) (hpc : pc + 1 = pc2) (hv : x ||| y = v) (r : own_Go P b pc2 L (.long v :: rest) pcE LE SE) : own_Go P b pc L (.long y :: .long x :: rest) pcE LE SE := by
  intro tb _ e below T target m c h hx hy hP k; subst hpc; subst hv; exact XS.lor h hx rfl (hb hy hd) rfl (r tb e below T target m c h hx hy hP k)
theorem own_lxor {x y : Int64} {v : Int64} {rest : List Value} {pc2 : Nat} (hd : decode b pc = .ok (.lxor, 1)) (hpc : pc + 1 = pc2) (hv : x ^^^ y = v) (r : own_Go P b pc2 L (.long v :: rest) pcE LE SE) : own_Go P b pc L (.long y :: .long x :: rest) pcE LE SE := by
  intro tb _ e below T target m c h hx hy hP k; subst hpc; subst hv; exact XS.lxor h hx rfl (hb hy hd) rfl (r tb e below T target m c h hx hy hP k)
theorem own_ldiv {x y : Int64} {v : Int64} {rest : List Value} {pc2 : Nat} (hd : decode b pc = .ok (.ldiv, 1)) (hpc : pc + 1 = pc2) (hn : y ≠ 0) (hv : x / y = v) (r : own_Go P b pc2 L (.long v :: rest) pcE LE SE) : own_Go P b pc L (.long y :: .long x :: rest) pcE LE SE := by
  intro tb _ e below T target m c h hx hy hP k; subst hpc; subst hv; exact XS.ldiv h hx rfl (hb hy hd) rfl hn (r tb e below T target m c h hx hy hP k)
theorem own_lrem {x y : Int64} {v : Int64} {rest : List Value} {pc2 : Nat} (hd : decode b pc = .ok (.lrem, 1)) (hpc : pc + 1 = pc2) (hn : y ≠ 0) (hv : x - (x / y) * y = v) (r : own_Go P b pc2 L (.long v :: rest) pcE LE SE) : own_Go P b pc L (.long y :: .long x :: rest) pcE LE SE := by
  intro tb _ e below T target m c h hx hy hP k; subst hpc; subst hv; exact XS.lrem h hx rfl (hb hy hd) rfl hn (r tb e below T target m c h hx hy hP k)
theorem own_lshl {x : Int64} {y : Int32} {v : Int64} {rest : List Value} {pc2 : Nat} (hd : decode b pc = .ok (.lshl, 1)) (hpc : pc + 1 = pc2) (hv : x <<< (y &&& 0x3f).toInt64 = v) (r : own_Go P b pc2 L (.long v :: rest) pcE LE SE) : own_Go P b pc L (.int y :: .long x :: rest) pcE LE SE := by
  intro tb _ e below T target m c h hx hy hP k; subst hpc; subst hv; exact XS.lshl h hx rfl (hb hy hd) rfl (r tb e below T target m c h hx hy hP k)
theorem own_lshr {x : Int64} {y : Int32} {v : Int64} {rest : List Value} {pc2 : Nat} (hd : decode b pc = .ok (.lshr, 1)) (hpc : pc + 1 = pc2) (hv : x >>> (y &&& 0x3f).toInt64 = v) (r : own_Go P b pc2 L (.long v :: rest) pcE LE SE) : own_Go P b pc L (.int y :: .long x :: rest) pcE LE SE := by
  intro tb _ e below T target m c h hx hy hP k; subst hpc; subst hv; exact XS.lshr h hx rfl (hb hy hd) rfl (r tb e below T target m c h hx hy hP k)
theorem own_lushr {x : Int64} {y : Int32} {v : Int64} {rest : List Value} {pc2 : Nat} (hd : decode b pc = .ok (.lushr, 1)) (hpc : pc + 1 = pc2) (hv : (x.toUInt64 >>> (y &&& 0x3f).toInt64.toUInt64).toInt64 = v) (r : own_Go P b pc2 L (.long v :: rest) pcE LE SE) : own_Go P b pc L (.int y :: .long x :: rest) pcE LE SE := by
  intro tb _ e below T target m c h hx hy hP k; subst hpc; subst hv; exact XS.lushr h hx rfl (hb hy hd) rfl (r tb e below T target m c h hx hy hP k)
theorem own_lcmp {x y : Int64} {v : Int32} {rest : List Value} {pc2 : Nat} (hd : decode b pc = .ok (.lcmp, 1)) (hpc : pc + 1 = pc2) (hv : (if x > y then 1 else if x = y then 0 else -1) = v) (r : own_Go P b pc2 L (.int v :: rest) pcE LE SE) : own_Go P b pc L (.long y :: .long x :: rest) pcE LE SE := by
  intro tb _ e below T target m c h hx hy hP k; subst hpc; subst hv; exact XS.lcmp h hx rfl (hb hy hd) rfl (r tb e below T target m c h hx hy hP k)
theorem own_ineg {x : Int32} {v : Int32} {rest : List Value} {pc2 : Nat} (hd : decode b pc = .ok (.ineg, 1)) (hpc : pc + 1 = pc2) (hv : -x = v) (r : own_Go P b pc2 L (.int v :: rest) pcE LE SE) : own_Go P b pc L (.int x :: rest) pcE LE SE := by
  intro tb _ e below T target m c h hx hy hP k; subst hpc; subst hv; exact XS.ineg h hx rfl (hb hy hd) rfl (r tb e below T target m c h hx hy hP k)
theorem own_lneg {x : Int64} {v : Int64} {rest : List Value} {pc2 : Nat} (hd : decode b pc = .ok (.lneg, 1)) (hpc : pc + 1 = pc2) (hv : -x = v) (r : own_Go P b pc2 L (.long v :: rest) pcE LE SE) : own_Go P b pc L (.long x :: rest) pcE LE SE := by
  intro tb _ e below T target m c h hx hy hP k; subst hpc; subst hv; exact XS.lneg h hx rfl (hb hy hd) rfl (r tb e below T target m c h hx hy hP k)
theorem own_i2l {x : Int32} {v : Int64} {rest : List Value} {pc2 : Nat} (hd : decode b pc = .ok (.i2l, 1)) (hpc : pc + 1 = pc2) (hv : x.toInt64 = v) (r : own_Go P b pc2 L (.long v :: rest) pcE LE SE) : own_Go P b pc L (.int x :: rest) pcE LE SE := by
  intro tb _ e below T target m c h hx hy hP k; subst hpc; subst hv; exact XS.i2l h hx rfl (hb hy hd) rfl (r tb e below T target m c h hx hy hP k)
theorem own_l2i {x : Int64} {v : Int32} {rest : List Value} {pc2 : Nat} (hd : decode b pc = .ok (.l2i, 1)) (hpc : pc + 1 = pc2) (hv : x.toInt32 = v) (r : own_Go P b pc2 L (.int v :: rest) pcE LE SE) : own_Go P b pc L (.long x :: rest) pcE LE SE := by
  intro tb _ e below T target m c h hx hy hP k; subst hpc; subst hv; exact XS.l2i h hx rfl (hb hy hd) rfl (r tb e below T target m c h hx hy hP k)
theorem own_i2b {x : Int32} {v : Int32} {rest : List Value} {pc2 : Nat} (hd : decode b pc = .ok (.i2b, 1)) (hpc : pc + 1 = pc2) (hv : x.toInt8.toInt32 = v) (r : own_Go P b pc2 L (.int v :: rest) pcE LE SE) : own_Go P b pc L (.int x :: rest) pcE LE SE := by
  intro tb _ e below T target m c h hx hy hP k; subst hpc; subst hv; exact XS.i2b h hx rfl (hb hy hd) rfl (r tb e below T target m c h hx hy hP k)
theorem own_i2c {x : Int32} {v : Int32} {rest : List Value} {pc2 : Nat} (hd : decode b pc = .ok (.i2c, 1)) (hpc : pc + 1 = pc2) (hv : x.toUInt32.toUInt16.toUInt32.toInt32 = v) (r : own_Go P b pc2 L (.int v :: rest) pcE LE SE) : own_Go P b pc L (.int x :: rest) pcE LE SE := by
  intro tb _ e below T target m c h hx hy hP k; subst hpc; subst hv; exact XS.i2c h hx rfl (hb hy hd) rfl (r tb e below T target m c h hx hy hP k)
theorem own_i2d {x : Int32} {v : UInt64} {rest : List Value} {pc2 : Nat} (hd : decode b pc = .ok (.i2d, 1)) (hpc : pc + 1 = pc2) (hv : FP.i2d x = v) (r : own_Go P b pc2 L (.double v :: rest) pcE LE SE) : own_Go P b pc L (.int x :: rest) pcE LE SE := by
  intro tb _ e below T target m c h hx hy hP k; subst hpc; subst hv; exact XS.i2dS h hx rfl (hb hy hd) rfl rfl (r tb e below T target m c h hx hy hP k)
theorem own_l2d {x : Int64} {v : UInt64} {rest : List Value} {pc2 : Nat} (hd : decode b pc = .ok (.l2d, 1)) (hpc : pc + 1 = pc2) (hv : FP.l2d x = v) (r : own_Go P b pc2 L (.double v :: rest) pcE LE SE) : own_Go P b pc L (.long x :: rest) pcE LE SE := by
  intro tb _ e below T target m c h hx hy hP k; subst hpc; subst hv; exact XS.l2dS h hx rfl (hb hy hd) rfl rfl (r tb e below T target m c h hx hy hP k)
theorem own_d2i {x : UInt64} {v : Int32} {rest : List Value} {pc2 : Nat} (hd : decode b pc = .ok (.d2i, 1)) (hpc : pc + 1 = pc2) (hv : FP.d2i x = v) (r : own_Go P b pc2 L (.int v :: rest) pcE LE SE) : own_Go P b pc L (.double x :: rest) pcE LE SE := by
  intro tb _ e below T target m c h hx hy hP k; subst hpc; subst hv; exact XS.d2iS h hx rfl (hb hy hd) rfl rfl (r tb e below T target m c h hx hy hP k)
theorem own_d2l {x : UInt64} {v : Int64} {rest : List Value} {pc2 : Nat} (hd : decode b pc = .ok (.d2l, 1)) (hpc : pc + 1 = pc2) (hv : FP.d2l x = v) (r : own_Go P b pc2 L (.long v :: rest) pcE LE SE) : own_Go P b pc L (.double x :: rest) pcE LE SE := by
  intro tb _ e below T target m c h hx hy hP k; subst hpc; subst hv; exact XS.d2lS h hx rfl (hb hy hd) rfl rfl (r tb e below T target m c h hx hy hP k)
theorem own_dneg {x : UInt64} {v : UInt64} {rest : List Value} {pc2 : Nat} (hd : decode b pc = .ok (.dneg, 1)) (hpc : pc + 1 = pc2) (hv : FP.dneg x = v) (r : own_Go P b pc2 L (.double v :: rest) pcE LE SE) : own_Go P b pc L (.double x :: rest) pcE LE SE := by
  intro tb _ e below T target m c h hx hy hP k; subst hpc; subst hv; exact XS.dnegS h hx rfl (hb hy hd) rfl rfl (r tb e below T target m c h hx hy hP k)
theorem own_dcmp {o : CmpOp} {x y : UInt64} {v : Int32} {rest : List Value} {pc2 : Nat} (hd : decode b pc = .ok (.dcmp o, 1)) (hpc : pc + 1 = pc2) (hv : cmpValue (FP.dcmp x y) o = v) (r : own_Go P b pc2 L (.int v :: rest) pcE LE SE) : own_Go P b pc L (.double y :: .double x :: rest) pcE LE SE := by
  intro tb _ e below T target m c h hx hy hP k; subst hpc; subst hv; exact XS.dcmpS h hx rfl (hb hy hd) rfl rfl (r tb e below T target m c h hx hy hP k)
theorem own_dadd {x y : UInt64} {v : UInt64} {rest : List Value} {pc2 : Nat} (hd : decode b pc = .ok (.dadd, 1)) (hpc : pc + 1 = pc2) (hn : NoNaN64 (FP.dadd x y)) (hv : FP.dadd x y = v) (r : own_Go P b pc2 L (.double v :: rest) pcE LE SE) : own_Go P b pc L (.double y :: .double x :: rest) pcE LE SE := by
  intro tb _ e below T target m c h hx hy hP k; subst hpc; subst hv; exact XS.daddS h hx rfl (hb hy hd) rfl hn rfl (r tb e below T target m c h hx hy hP k)
theorem own_dsub {x y : UInt64} {v : UInt64} {rest : List Value} {pc2 : Nat} (hd : decode b pc = .ok (.dsub, 1)) (hpc : pc + 1 = pc2) (hn : NoNaN64 (FP.dsub x y)) (hv : FP.dsub x y = v) (r : own_Go P b pc2 L (.double v :: rest) pcE LE SE) : own_Go P b pc L (.double y :: .double x :: rest) pcE LE SE := by
  intro tb _ e below T target m c h hx hy hP k; subst hpc; subst hv; exact XS.dsubS h hx rfl (hb hy hd) rfl hn rfl (r tb e below T target m c h hx hy hP k)
theorem own_dmul {x y : UInt64} {v : UInt64} {rest : List Value} {pc2 : Nat} (hd : decode b pc = .ok (.dmul, 1)) (hpc : pc + 1 = pc2) (hn : NoNaN64 (FP.dmul x y)) (hv : FP.dmul x y = v) (r : own_Go P b pc2 L (.double v :: rest) pcE LE SE) : own_Go P b pc L (.double y :: .double x :: rest) pcE LE SE := by
  intro tb _ e below T target m c h hx hy hP k; subst hpc; subst hv; exact XS.dmulS h hx rfl (hb hy hd) rfl hn rfl (r tb e below T target m c h hx hy hP k)
theorem own_ddiv {x y : UInt64} {v : UInt64} {rest : List Value} {pc2 : Nat} (hd : decode b pc = .ok (.ddiv, 1)) (hpc : pc + 1 = pc2) (hn : NoNaN64 (FP.ddiv x y)) (hv : FP.ddiv x y = v) (r : own_Go P b pc2 L (.double v :: rest) pcE LE SE) : own_Go P b pc L (.double y :: .double x :: rest) pcE LE SE := by
  intro tb _ e below T target m c h hx hy hP k; subst hpc; subst hv; exact XS.ddivS h hx rfl (hb hy hd) rfl hn rfl (r tb e below T target m c h hx hy hP k)
theorem own_dup {v : Value} {rest : List Value} {pc2 : Nat} (hd : decode b pc = .ok (.dup, 1)) (hpc : pc + 1 = pc2) (hc : v.category = 1) (r : own_Go P b pc2 L (v :: v :: rest) pcE LE SE) : own_Go P b pc L (v :: rest) pcE LE SE := by
  intro tb _ e below T target m c h hx hy hP k; subst hpc; exact XS.dup h hx rfl (hb hy hd) rfl hc (r tb e below T target m c h hx hy hP k)
theorem own_pop {v : Value} {rest : List Value} {pc2 : Nat} (hd : decode b pc = .ok (.pop, 1)) (hpc : pc + 1 = pc2) (hc : v.category = 1) (r : own_Go P b pc2 L (rest) pcE LE SE) : own_Go P b pc L (v :: rest) pcE LE SE := by
  intro tb _ e below T target m c h hx hy hP k; subst hpc; exact XS.pop h hx rfl (hb hy hd) rfl hc (r tb e below T target m c h hx hy hP k)
theorem own_dupX1 {v w : Value} {rest : List Value} {pc2 : Nat} (hd : decode b pc = .ok (.dup_x1, 1)) (hpc : pc + 1 = pc2) (hc : v.category = 1) (hc' : w.category = 1) (r : own_Go P b pc2 L (v :: w :: v :: rest) pcE LE SE) : own_Go P b pc L (v :: w :: rest) pcE LE SE := by
  intro tb _ e below T target m c h hx hy hP k; subst hpc; exact XS.dupX1 h hx rfl (hb hy hd) rfl hc hc' (r tb e below T target m c h hx hy hP k)
theorem own_dup2 {v w : Value} {rest : List Value} {pc2 : Nat} (hd : decode b pc = .ok (.dup2, 1)) (hpc : pc + 1 = pc2) (hc : v.category = 1) (hc' : w.category = 1) (r : own_Go P b pc2 L (v :: w :: v :: w :: rest) pcE LE SE) : own_Go P b pc L (v :: w :: rest) pcE LE SE := by
  intro tb _ e below T target m c h hx hy hP k; subst hpc; exact XT.dup2 h hx rfl (hb hy hd) rfl hc hc' (r tb e below T target m c h hx hy hP k)
theorem own_ifYes {cd : ClassFile.Cond} {x : Int32} {o : Int} {pc' : Nat} {rest : List Value} (hd : decode b pc = .ok (.ifCond cd o, 3)) (hc : ifCond.holds cd x = true) (ho : 0 ≤ (pc : Int) + o) (hp : ((pc : Int) + o).toNat = pc') (r : own_Go P b pc' L rest pcE LE SE) : own_Go P b pc L (.int x :: rest) pcE LE SE := by
  intro tb _ e below T target m c h hx hy hP k; exact XS.ifYes h hx rfl rfl (hb hy hd) rfl hc ho hp (r tb e below T target m c h hx hy hP k)
theorem own_ifNo {cd : ClassFile.Cond} {x : Int32} {o : Int} {rest : List Value} {pc2 : Nat} (hd : decode b pc = .ok (.ifCond cd o, 3)) (hpc : pc + 3 = pc2) (hc : ifCond.holds cd x = false) (r : own_Go P b pc2 L rest pcE LE SE) : own_Go P b pc L (.int x :: rest) pcE LE SE := by
  intro tb _ e below T target m c h hx hy hP k; subst hpc; exact XS.ifNo h hx rfl (hb hy hd) rfl hc (r tb e below T target m c h hx hy hP k)
theorem own_icmpYes {cd : ClassFile.Cond} {x y : Int32} {o : Int} {pc' : Nat} {rest : List Value} (hd : decode b pc = .ok (.if_icmp cd o, 3)) (hc : if_icmp.holds cd x y = true) (ho : 0 ≤ (pc : Int) + o) (hp : ((pc : Int) + o).toNat = pc') (r : own_Go P b pc' L rest pcE LE SE) : own_Go P b pc L (.int y :: .int x :: rest) pcE LE SE := by
  intro tb _ e below T target m c h hx hy hP k; exact XS.icmpYes h hx rfl rfl (hb hy hd) rfl hc ho hp (r tb e below T target m c h hx hy hP k)
theorem own_icmpNo {cd : ClassFile.Cond} {x y : Int32} {o : Int} {rest : List Value} {pc2 : Nat} (hd : decode b pc = .ok (.if_icmp cd o, 3)) (hpc : pc + 3 = pc2) (hc : if_icmp.holds cd x y = false) (r : own_Go P b pc2 L rest pcE LE SE) : own_Go P b pc L (.int y :: .int x :: rest) pcE LE SE := by
  intro tb _ e below T target m c h hx hy hP k; subst hpc; exact XS.icmpNo h hx rfl (hb hy hd) rfl hc (r tb e below T target m c h hx hy hP k)
theorem own_ifnullYes {o : Int} {pc' : Nat} {rest : List Value} (hd : decode b pc = .ok (.ifnull o, 3)) (ho : 0 ≤ (pc : Int) + o) (hp : ((pc : Int) + o).toNat = pc') (r : own_Go P b pc' L rest pcE LE SE) : own_Go P b pc L (.null :: rest) pcE LE SE := by
  intro tb _ e below T target m c h hx hy hP k; exact XS.ifnullYes h hx rfl rfl (hb hy hd) rfl ho hp (r tb e below T target m c h hx hy hP k)
theorem own_ifnullNo {o : Int} {a : Addr} {rest : List Value} {pc2 : Nat} (hd : decode b pc = .ok (.ifnull o, 3)) (hpc : pc + 3 = pc2) (r : own_Go P b pc2 L rest pcE LE SE) : own_Go P b pc L (.ref a :: rest) pcE LE SE := by
  intro tb _ e below T target m c h hx hy hP k; subst hpc; exact XS.ifnullNo h hx rfl (hb hy hd) rfl (r tb e below T target m c h hx hy hP k)
theorem own_ifnonnullYes {o : Int} {pc' : Nat} {a : Addr} {rest : List Value} (hd : decode b pc = .ok (.ifnonnull o, 3)) (ho : 0 ≤ (pc : Int) + o) (hp : ((pc : Int) + o).toNat = pc') (r : own_Go P b pc' L rest pcE LE SE) : own_Go P b pc L (.ref a :: rest) pcE LE SE := by
  intro tb _ e below T target m c h hx hy hP k; exact XS.ifnonnullYes h hx rfl rfl (hb hy hd) rfl ho hp (r tb e below T target m c h hx hy hP k)
theorem own_ifnonnullNo {o : Int} {rest : List Value} {pc2 : Nat} (hd : decode b pc = .ok (.ifnonnull o, 3)) (hpc : pc + 3 = pc2) (r : own_Go P b pc2 L rest pcE LE SE) : own_Go P b pc L (.null :: rest) pcE LE SE := by
  intro tb _ e below T target m c h hx hy hP k; subst hpc; exact XS.ifnonnullNo h hx rfl (hb hy hd) rfl (r tb e below T target m c h hx hy hP k)
theorem own_acmpYes {cd : ClassFile.ACond} {x y : Addr} {o : Int} {pc' : Nat} {rest : List Value} (hd : decode b pc = .ok (.if_acmp cd o, 3)) (hc : if_acmp.holds cd (some x) (some y) = true) (ho : 0 ≤ (pc : Int) + o) (hp : ((pc : Int) + o).toNat = pc') (r : own_Go P b pc' L rest pcE LE SE) : own_Go P b pc L (.ref y :: .ref x :: rest) pcE LE SE := by
  intro tb _ e below T target m c h hx hy hP k; exact XS.acmpYes h hx rfl rfl (hb hy hd) rfl hc ho hp (r tb e below T target m c h hx hy hP k)
theorem own_acmpNo {cd : ClassFile.ACond} {x y : Addr} {o : Int} {rest : List Value} {pc2 : Nat} (hd : decode b pc = .ok (.if_acmp cd o, 3)) (hpc : pc + 3 = pc2) (hc : if_acmp.holds cd (some x) (some y) = false) (r : own_Go P b pc2 L rest pcE LE SE) : own_Go P b pc L (.ref y :: .ref x :: rest) pcE LE SE := by
  intro tb _ e below T target m c h hx hy hP k; subst hpc; exact XS.acmpNo h hx rfl (hb hy hd) rfl hc (r tb e below T target m c h hx hy hP k)
theorem own_goto {o : Int} {pc' : Nat} (hd : decode b pc = .ok (.goto o, 3)) (ho : 0 ≤ (pc : Int) + o) (hp : ((pc : Int) + o).toNat = pc') (r : own_Go P b pc' L S pcE LE SE) : own_Go P b pc L S pcE LE SE := by
  intro tb _ e below T target m c h hx hy hP k; exact XS.goto h hx rfl rfl (hb hy hd) ho hp (r tb e below T target m c h hx hy hP k)
theorem own_iinc {j : Nat} {cst : Int} {x v : Int32} {pc2 : Nat} (hd : decode b pc = .ok (.iinc j cst, 3)) (hpc : pc + 3 = pc2) (hl : L[j]? = some (.val (.int x))) (hv : x + Int32.ofInt cst = v) (hl' : storeLocals L j (.int v) = some L') (r : own_Go P b pc2 L' S pcE LE SE) : own_Go P b pc L S pcE LE SE := by
  intro tb _ e below T target m c h hx hy hP k; subst hpc; subst hv; exact XS.iinc h hx rfl (hb hy hd) hl hl' (r tb e below T target m c h hx hy hP k)
theorem own_ldc {i : Nat} {v : Int32} {pc2 : Nat} (hd : decode b pc = .ok (.ldc i, 2)) (hpc : pc + 2 = pc2) (hk : (i, Value.int v) ∈ P) (r : own_Go P b pc2 L (.int v :: S) pcE LE SE) : own_Go P b pc L S pcE LE SE := by
  intro tb _ e below T target m c h hx hy hP k; subst hpc; exact (hP _ hk (mkF m pc L S) target rfl).1 ⟨_, rfl⟩ (hb hy hd) (r tb e below T target m c h hx hy hP k)
theorem own_ldcW {i : Nat} {v : Int32} {pc2 : Nat} (hd : decode b pc = .ok (.ldc_w i, 3)) (hpc : pc + 3 = pc2) (hk : (i, Value.int v) ∈ P) (r : own_Go P b pc2 L (.int v :: S) pcE LE SE) : own_Go P b pc L S pcE LE SE := by
  intro tb _ e below T target m c h hx hy hP k; subst hpc; exact (hP _ hk (mkF m pc L S) target rfl).2.1 ⟨_, rfl⟩ (hb hy hd) (r tb e below T target m c h hx hy hP k)
theorem own_ldc2L {i : Nat} {v : Int64} {pc2 : Nat} (hd : decode b pc = .ok (.ldc2_w i, 3)) (hpc : pc + 3 = pc2) (hk : (i, Value.long v) ∈ P) (r : own_Go P b pc2 L (.long v :: S) pcE LE SE) : own_Go P b pc L S pcE LE SE := by
  intro tb _ e below T target m c h hx hy hP k; subst hpc; exact (hP _ hk (mkF m pc L S) target rfl).2.2 (Or.inl ⟨_, rfl⟩) (hb hy hd) (r tb e below T target m c h hx hy hP k)
theorem own_ldc2D {i : Nat} {v : UInt64} {pc2 : Nat} (hd : decode b pc = .ok (.ldc2_w i, 3)) (hpc : pc + 3 = pc2) (hk : (i, Value.double v) ∈ P) (r : own_Go P b pc2 L (.double v :: S) pcE LE SE) : own_Go P b pc L S pcE LE SE := by
  intro tb _ e below T target m c h hx hy hP k; subst hpc; exact (hP _ hk (mkF m pc L S) target rfl).2.2 (Or.inr ⟨_, rfl⟩) (hb hy hd) (r tb e below T target m c h hx hy hP k)
end OwnWalk
section OwnPool
open Jvm.Free Jvm.Stand
variable {p : Program} {l : Launch} {e : Env} {R : Room} {s : State} {m : MethodId} {args : Array Value} {below : List Frame} {meth : Method} {c : Code} {T : State} {locs : List Loc} {cells slots : Nat} {Z : State} {a0 : Array Value}
def own_Word (own : String) (i : Nat) : Value → Jvm.Cond → Prop
  | .int v, w => w = .constant own i v
  | .long v, w => w = .constantLong own i v
  | .double v, w => w = .constantDouble own i v
  | _, _ => False
theorem own_pool1 (X : Stand p l e R s m args below meth c T locs cells slots) (hx : p.tables.exec = Jvm.exec) (hZ : Z.Warmed39 s.vm) {own : String} (hown : s.vm.findClass own = some m.cls) {i : Nat} {v : Value} {w : Jvm.Cond} (hv : own_Word own i v w) (hw : w.before a0 Z = true) : own_Ldc p.tables e below T m c i v := by
  intro g target hg
  cases v with
  | int v =>
    cases (show w = .constant own i v from hv)
    exact ⟨fun _ hd k => X.ldcInt hx hown (mvT hZ hw) hg hd target k, fun _ hd k => X.ldcwInt hx hown (mvT hZ hw) hg hd target k, fun h => (by rcases h with ⟨_, h⟩ | ⟨_, h⟩ <;> cases h)⟩
  | long v =>
    cases (show w = .constantLong own i v from hv)
    exact ⟨fun h => (by obtain ⟨_, h⟩ := h; cases h), fun h => (by obtain ⟨_, h⟩ := h; cases h), fun _ hd k => X.ldc2Long hx hown (mvT hZ hw) hg hd target k⟩
  | double v =>
    cases (show w = .constantDouble own i v from hv)
    exact ⟨fun h => (by obtain ⟨_, h⟩ := h; cases h), fun h => (by obtain ⟨_, h⟩ := h; cases h), fun _ hd k => X.ldc2DoubleC hx hown (mvT hZ hw) hg hd target k⟩
  | _ => exact absurd hv (fun h => h)
theorem own_pool (X : Stand p l e R s m args below meth c T locs cells slots) (hx : p.tables.exec = Jvm.exec) (hZ : Z.Warmed39 s.vm) {own : String} (hown : s.vm.findClass own = some m.cls) {ws : List Jvm.Cond} (hw : ∀ d ∈ ws, d.before a0 Z = true) {P : List (Nat × Value)} (hP : ∀ q ∈ P, ∃ w ∈ ws, own_Word own q.1 q.2 w) : ∀ q ∈ P, own_Ldc p.tables e below T m c q.1 q.2 := by
  intro q hq
  obtain ⟨w, h1, h2⟩ := hP q hq
  exact own_pool1 X hx hZ hown h2 (hw w h1)
end OwnPool
/-! the call layer: a method that leaves the heap as it was, and its call -/
section OwnCall
open Jvm.Free Jvm.Stand Jvm.LawKit Jvm.RoadKit
variable {p : Program} {l : Launch} {e : Env} {R : Room} {s : State} {m : MethodId} {args : Array Value} {below : List Frame} {meth : Method} {c : Code} {T : State} {locs : List Loc} {cells slots : Nat} {Z : State} {a0 : Array Value} {h : Heap}
abbrev own_room (fr lo : Nat) : Room := { frames := fr, cells := 0, slots := 0, locals := lo }
def own_Pure (l : Launch) (Z : State) (y : MethodName) (bytes : ByteArray) (maxL : Nat) (ret : Option FieldType) (fr lo : Nat) (as' : Array Value) (h : Heap) (v : Option Value) : Prop :=
  MetFree l y (head1 [Jvm.Cond.code y bytes maxL ret] (own_room fr lo)) (fun a U => a = as' ∧ Z.Warmed39 U.vm ∧ U.heap = h) (fun _ _ _ _ _ => True) (fun _ U o U' => ∃ w L, o = .returned w ∧ (w = v ∧ L = [] ∧ U'.heap = h) ∧ FrameEnd U o U' L (own_room fr lo).cells (own_room fr lo).slots)
def own_Ret (i : Instr) (t : FieldType) (w : Value) : Prop := narrow t w = w ∧ ((i = .ireturn ∧ (t = .int ∨ t = .boolean ∨ t = .byte ∨ t = .char ∨ t = .short) ∧ ∃ z, w = .int z) ∨ (i = .lreturn ∧ t = .long ∧ ∃ z, w = .long z) ∨ (i = .dreturn ∧ t = .double ∧ ∃ z, w = .double z) ∨ (i = .freturn ∧ t = .float ∧ ∃ z, w = .float z) ∨ (i = .areturn ∧ t.isReference = true ∧ w.isRef = true))
theorem own_retD (x : UInt64) : own_Ret .dreturn .double (.double x) := ⟨rfl, Or.inr (Or.inr (Or.inl ⟨rfl, rfl, x, rfl⟩))⟩
theorem own_retI (x : Int32) : own_Ret .ireturn .int (.int x) := ⟨rfl, Or.inl ⟨rfl, Or.inl rfl, x, rfl⟩⟩
theorem own_retJ (x : Int64) : own_Ret .lreturn .long (.long x) := ⟨rfl, Or.inr (Or.inl ⟨rfl, rfl, x, rfl⟩)⟩
theorem own_retZ {x : Int32} (hx : x = 0 ∨ x = 1) : own_Ret .ireturn .boolean (.int x) := ⟨by rcases hx with rfl | rfl <;> rfl, Or.inl ⟨rfl, Or.inr (Or.inl rfl), x, rfl⟩⟩
theorem own_pure_go {y : MethodName} {bytes : ByteArray} {maxL : Nat} {t : FieldType} {as' : Array Value} {P : List (Nat × Value)} {L0 LR : Array Slot} {SR : List Value} {pcR : Nat} {val : Value} {i : Instr} {ws : List Jvm.Cond} (hpl : plainName y.cls = true) (hw : ∀ d ∈ ws, d.before a0 Z = true) (hP : ∀ q ∈ P, ∃ w ∈ ws, own_Word y.cls q.1 q.2 w)
    (hef : ∀ m, entryFrame m as' maxL = mkF m 0 L0 []) (body : own_Go P bytes 0 L0 [] pcR LR (val :: SR)) (hd : decode bytes pcR = .ok (i, 1)) (hr : own_Ret i t val) : own_Pure l Z y bytes maxL (some t) 0 0 as' h (some val) := by
  refine MetFree.of_bodySF (plainFor_of_name hpl) hisR ?_
  intro p e s m args below meth c s₁ Bd hml0 hPP hK
  obtain ⟨rfl, hZ, hh⟩ := hPP
  have hx := Bd.exec
  have hby := Bd.bytes
  have hown : s.vm.findClass y.cls = some m.cls := findClass_of_methodNamed Bd.named
  have X0 : Stand p l e (own_room 0 0) s m _ below meth c s₁ [] 0 0 := Stand.of_body Bd
  have e0 : s₁.heap = h := by rw [← hh, Bd.state]; rfl
  obtain ⟨fs, hr', hrun, hended, hW, hsame⟩ := X0.leave (v := some val) (fun h => by rw [Bd.returns] at h; cases h)
  refine ⟨_, _, castTop (hef m) (body p.tables e below s₁ _ m c X0.here hx hby (own_pool X0 hx hZ hown hw hP) (retOut X0 hx Bd.returns hr.1 hr.2 (hb hby hd) hr')), hrun, hended, _, _, rfl, ⟨rfl, rfl, ?_⟩, ⟨_, rfl⟩, hW, hsame⟩
  exact e0
theorem own_callP (X : Stand p l e R s m args below meth c T locs cells slots) (hx : p.tables.exec = Jvm.exec) (hZ : Z.Warmed39 s.vm) {own : String} {index : Nat} {y : MethodName} {bytes : ByteArray} {maxL : Nat} {ret : Option FieldType} (hown : s.vm.findClass own = some m.cls)
    (w1 : (Jvm.Cond.methodLink own index y).before a0 Z = true) (w2 : (Jvm.Cond.static y).before a0 Z = true) (w3 : (Jvm.Cond.initialized y.cls).before a0 Z = true) (w4 : (Jvm.Cond.code y bytes maxL ret).before a0 Z = true) (hy : y.cls ≠ "java/lang/invoke/MethodHandle" ∧ y.cls ≠ "java/lang/invoke/VarHandle")
    (eT : T.heap = h) {fr lo W : Nat} {argsL rest : List Value} {v : Option Value} (hM : own_Pure l Z y bytes maxL ret fr lo argsL.toArray h v) (hf : fr + 1 ≤ R.frames) (hl : W + (maxL + 11) + lo ≤ R.locals) (hc : cells ≤ R.cells) (hs : slots ≤ R.slots)
    {g : JFrame} (hg : g.method = m) (hsize : g.locals.size = c.maxLocals) (hlen : ∀ sig, parseMethodDescriptor y.desc = some sig → argsL.length = sig.parameters.length) (hst : g.stack = argsL.reverse ++ rest) (hW : 2 * g.monitorRoom + (rest.map fun v => v.category).sum ≤ W) (hd : decode c.code g.pc = .ok (.invokestatic index, 3)) :
    ∃ T', Stand p l e R s m args below meth c T' locs cells slots ∧ T'.heap = h ∧ ∀ target, Steps p.tables e below (T'.setTop { g with pc := g.pc + 3, stack := v.toList ++ rest }) target → Steps p.tables e below (T.setTop g) target := by
  obtain ⟨v', vm1, ⟨T2, L2, k2, n2⟩, -, X2, ⟨Lc, hQ, l2, y2, z2⟩, st⟩ := Jvm.LawKit.callS X hx hown (mvT hZ w1) (mvT hZ w2) (mvT hZ w3) (mvT hZ w4) hy (backOf (W := W) (rm := own_room fr lo) (Q := fun w H L => w = v ∧ L = [] ∧ H = h) hM hZ w4 w3 hf hl) hg hsize hlen hst hW hd (fun _ _ => ⟨rfl, eT, hc, hs⟩)
  dsimp only [Pt.U, Pt.locs, Pt.cells, Pt.slots] at X2 l2 y2 z2 st hQ
  obtain ⟨rfl, rfl, e2⟩ := hQ
  subst l2 y2 z2
  rw [List.append_nil] at X2
  exact ⟨T2, X2, e2, st⟩
end OwnCall
/-! the heap layer: own_Hp says what the cells made since the start hold; one rule a step -/
section OwnHeap
open Jvm.Free Jvm.Stand Jvm.LawKit Jvm.RoadKit
abbrev own_Cel := (String × List (String × String × String × Value)) ⊕ (FieldType × List Value)
abbrev own_O (C : String) (fs : List (String × String × String × Value)) : own_Cel := Sum.inl (C, fs)
abbrev own_A (ty : FieldType) (vs : List Value) : own_Cel := Sum.inr (ty, vs)
def own_Is (Z : State) (a0 : Array Value) (h : Heap) (a : Addr) (q : own_Cel) : Prop :=
  match q with
  | .inl (C, fs) => Exa Z h a C ∧ (∀ f ∈ fs, Fld Z h a f.1 f.2.1 f.2.2.1 f.2.2.2 ∧ Laid Z a0 C f.1 f.2.1 f.2.2.1 ∧ ∃ t, parseFieldDescriptor f.2.2.1 = some t) ∧ (fs.map fun f => f.2.1).Nodup
  | .inr (ty, vs) => ∃ c : Cell, Arr Z h a c ty ∧ c.slots.toList = vs
def own_Hp (Z : State) (a0 : Array Value) (hb h : Heap) (cs : List (Addr × own_Cel)) : Prop := Ext hb h ∧ (∀ q ∈ cs, own_Is Z a0 h q.1 q.2 ∧ hb.size ≤ q.1) ∧ (cs.map Prod.fst).Nodup
section Facts
variable {Z : State} {a0 : Array Value} {hb h h' : Heap} {cs : List (Addr × own_Cel)} {a b : Addr} {q : own_Cel}
theorem own_Is_lt (H : own_Is Z a0 h a q) : a < h.size := by
  match q, H with
  | .inl (C, fs), H => exact H.1.lt
  | .inr (ty, vs), ⟨c, A, _⟩ => exact A.lt
theorem own_Is_ext (E : Ext h h') (H : own_Is Z a0 h a q) : own_Is Z a0 h' a q := by
  match q, H with
  | .inl (C, fs), H => exact ⟨H.1.ext E, fun f hf => ⟨(H.2.1 f hf).1.ext E, (H.2.1 f hf).2⟩, H.2.2⟩
  | .inr (ty, vs), ⟨c, A, e⟩ => exact ⟨c, A.ext E, e⟩
theorem own_Is_wr {sl : Nat} {v : Value} (W : Wr h h' b sl v) (hne : a ≠ b) (H : own_Is Z a0 h a q) : own_Is Z a0 h' a q := by
  match q, H with
  | .inl (C, fs), H => exact ⟨H.1.wr W, fun f hf => ⟨(H.2.1 f hf).1.other W (Or.inl hne), (H.2.1 f hf).2⟩, H.2.2⟩
  | .inr (ty, vs), ⟨c, A, e⟩ => exact ⟨c, A.other W hne, e⟩
theorem own_ext_trans {h1 h2 h3 : Heap} (E : Ext h1 h2) (F : Ext h2 h3) : Ext h1 h3 := ⟨Nat.le_trans E.1 F.1, fun a c q => F.2 a c (E.2 a c q)⟩
theorem own_ext_refl (h1 : Heap) : Ext h1 h1 := ⟨Nat.le_refl _, fun _ _ q => q⟩
theorem own_ext_wr {sl : Nat} {v : Value} (E : Ext hb h) (W : Wr h h' b sl v) (hn : hb.size ≤ b) : Ext hb h' := by
  refine ⟨by rw [W.size]; exact E.1, fun x c q => ?_⟩
  have hx : x < hb.size := (Array.getElem?_eq_some_iff.mp q).1
  obtain ⟨cb, h1, -, -, -, h5, -⟩ := wr_at W (E.2 x c q)
  rw [h1, h5 (Nat.ne_of_lt (Nat.lt_of_lt_of_le hx hn))]
theorem own_Hp_start (Z : State) (a0 : Array Value) (hb : Heap) : own_Hp Z a0 hb hb [] := ⟨own_ext_refl hb, fun q hq => absurd hq List.not_mem_nil, List.nodup_nil⟩
theorem own_Hp_new (H : own_Hp Z a0 hb h cs) (E : Ext h h') (N : own_Is Z a0 h' h.size q) : own_Hp Z a0 hb h' (cs ++ [(h.size, q)]) := by
  refine ⟨own_ext_trans H.1 E, fun p hp => ?_, ?_⟩
  · rcases List.mem_append.mp hp with hp | hp
    · exact ⟨own_Is_ext E (H.2.1 p hp).1, (H.2.1 p hp).2⟩
    · cases List.mem_singleton.mp hp
      exact ⟨N, H.1.1⟩
  · rw [List.map_append, List.nodup_append]
    refine ⟨H.2.2, by simp, fun x hx y hy => ?_⟩
    simp only [List.map_cons, List.map_nil, List.mem_singleton] at hy
    subst hy
    obtain ⟨p, hp, rfl⟩ := List.mem_map.mp hx
    exact Nat.ne_of_lt (own_Is_lt (H.2.1 p hp).1)
theorem own_Hp_ext (H : own_Hp Z a0 hb h cs) (E : Ext h h') : own_Hp Z a0 hb h' cs :=
  ⟨own_ext_trans H.1 E, fun p hp => ⟨own_Is_ext E (H.2.1 p hp).1, (H.2.1 p hp).2⟩, H.2.2⟩
theorem own_get (H : own_Hp Z a0 hb h cs) {i : Nat} (hi : cs[i]? = some (a, q)) : own_Is Z a0 h a q ∧ hb.size ≤ a := H.2.1 _ (List.mem_of_getElem? hi)
theorem own_ne (H : own_Hp Z a0 hb h cs) {i j : Nat} {q' : own_Cel} (hi : cs[i]? = some (a, q)) (hj : cs[j]? = some (b, q')) (hne : i ≠ j) : a ≠ b := by
  rintro rfl
  have hN := H.2.2
  obtain ⟨hi1, hi2⟩ := List.getElem?_eq_some_iff.mp hi
  obtain ⟨hj1, hj2⟩ := List.getElem?_eq_some_iff.mp hj
  have := (List.getElem_inj (xs := cs.map Prod.fst) (i := i) (j := j) (h₀ := by simpa using hi1) (h₁ := by simpa using hj1) hN).mp (by simp [hi2, hj2])
  exact hne this
theorem own_Hp_set (H : own_Hp Z a0 hb h cs) {i : Nat} {q' : own_Cel} {sl : Nat} {v : Value} (hi : cs[i]? = some (a, q)) (W : Wr h h' a sl v) (N : own_Is Z a0 h' a q') : own_Hp Z a0 hb h' (cs.set i (a, q')) := by
  obtain ⟨hi1, hi2⟩ := List.getElem?_eq_some_iff.mp hi
  refine ⟨own_ext_wr H.1 W (own_get H hi).2, fun p hp => ?_, ?_⟩
  · obtain ⟨j, hj, rfl⟩ := List.mem_iff_getElem.mp hp
    rw [List.getElem_set]
    split
    · exact ⟨N, (own_get H hi).2⟩
    · rename_i hne
      have hj' : j < cs.length := by simpa using hj
      have hm := H.2.1 cs[j] (List.getElem_mem hj')
      refine ⟨own_Is_wr W ?_ hm.1, hm.2⟩
      intro e
      exact own_ne H hi (j := j) (b := cs[j].1) (q' := cs[j].2) (List.getElem?_eq_getElem hj') hne e.symm
  · rw [List.map_set, show (a, q').fst = (cs.map Prod.fst)[i]'(by simpa using hi1) by simp [hi2], List.set_getElem_self]
    exact H.2.2
theorem own_Is_fld {C : String} {fs : List (String × String × String × Value)} {j : Nat} {O n d : String} {old v : Value} (H : own_Is Z a0 h a (own_O C fs)) (hj : fs[j]? = some (O, n, d, old)) (W : Wr h h' a (RoadKit.slotOf Z O n d) v) : own_Is Z a0 h' a (own_O C (fs.set j (O, n, d, v))) := by
  obtain ⟨h1, h2, h3⟩ := H
  obtain ⟨hj1, hj2⟩ := List.getElem?_eq_some_iff.mp hj
  refine ⟨h1.wr W, fun f hf => ?_, ?_⟩
  · obtain ⟨k, hk, rfl⟩ := List.mem_iff_getElem.mp hf
    have hm := h2 _ (List.mem_of_getElem? hj)
    rw [List.getElem_set]
    split
    · exact ⟨hm.1.same W, hm.2⟩
    · rename_i hne
      have hk' : k < fs.length := by simpa using hk
      have hk2 := h2 fs[k] (List.getElem_mem hk')
      obtain ⟨t, ht⟩ := hk2.2.2
      obtain ⟨t', ht'⟩ := hm.2.2
      refine ⟨hk2.1.other W (Or.inr (slot_ne hk2.2.1 hm.2.1 (fun e => ?_) ht ht')), hk2.2⟩
      have := (List.getElem_inj (xs := fs.map fun f => f.2.1) (i := k) (j := j) (h₀ := by simpa using hk') (h₁ := by simpa using hj1) h3).mp (by simp [hj2]; exact e)
      exact hne this.symm
  · rw [List.map_set, show (O, n, d, v).2.1 = (fs.map fun f => f.2.1)[j]'(by simpa using hj1) by simp [hj2], List.set_getElem_self]
    exact h3
theorem own_Is_elt {ty : FieldType} {vs : List Value} {j : Nat} {v : Value} (H : own_Is Z a0 h a (own_A ty vs)) (W : Wr h h' a j v) : own_Is Z a0 h' a (own_A ty (vs.set j v)) := by
  obtain ⟨c, A, e⟩ := H
  refine ⟨_, A.same W, ?_⟩
  rw [← e]
  simp [Cell.setSlot]
end Facts
def own_S (p : Program) (l : Launch) (e : Env) (R : Room) (s : State) (m : MethodId) (args : Array Value) (below : List Frame) (meth : Method) (c : Code) (Z : State) (a0 : Array Value) (hb : Heap) (T : State) (cs : List (Addr × own_Cel)) (k n : Nat) : Prop :=
  ∃ locs, Stand p l e R s m args below meth c T locs k n ∧ Fr hb.size locs ∧ own_Hp Z a0 hb T.heap cs
section Rules
variable {p : Program} {l : Launch} {e : Env} {R : Room} {s : State} {m : MethodId} {args : Array Value} {below : List Frame} {meth : Method} {c : Code} {T : State} {Z : State} {a0 : Array Value} {hb : Heap} {cs : List (Addr × own_Cel)} {k n : Nat}
theorem own_go (H : own_S p l e R s m args below meth c Z a0 hb T cs k n) (hx : p.tables.exec = Jvm.exec) (hZ : Z.Warmed39 s.vm) {own : String} (hown : s.vm.findClass own = some m.cls) {bytes : ByteArray} (hby : c.code = bytes) {ws : List Jvm.Cond} (hw : ∀ d ∈ ws, d.before a0 Z = true) {P : List (Nat × Value)} (hP : ∀ q ∈ P, ∃ w ∈ ws, own_Word own q.1 q.2 w)
    {pc pc' : Nat} {L L' : Array Slot} {S S' : List Value} (r : own_Go P bytes pc L S pc' L' S') : ∀ target, Steps p.tables e below (T.setTop (mkF m pc' L' S')) target → Steps p.tables e below (T.setTop (mkF m pc L S)) target := by
  obtain ⟨locs, X, -, -⟩ := H
  exact fun target q => r p.tables e below T target m c X.here hx hby (own_pool X hx hZ hown hw hP) q
theorem own_newO (H : own_S p l e R s m args below meth c Z a0 hb T cs k n) (hx : p.tables.exec = Jvm.exec) (hZ : Z.Warmed39 s.vm) {own C : String} {index nn : Nat} (hown : s.vm.findClass own = some m.cls) (w : (Jvm.Cond.classLink own index C).before a0 Z = true) (wi : (Jvm.Cond.instantiable C nn).before a0 Z = true) (wz : (Jvm.Cond.initialized C).before a0 Z = true)
    (fs : List (String × String × String × Value)) (hfs : ∀ f ∈ fs, Laid Z a0 C f.1 f.2.1 f.2.2.1 ∧ ∃ t, parseFieldDescriptor f.2.2.1 = some t ∧ defaultValue t = f.2.2.2) (hN : (fs.map fun f => f.2.1).Nodup)
    {g : JFrame} (hg : g.method = m) (hd : decode c.code g.pc = .ok (.new index, 3)) (hc : k + 1 ≤ R.cells) (hl : n + nn ≤ R.slots) :
    ∃ T' x, own_S p l e R s m args below meth c Z a0 hb T' (cs ++ [(x, own_O C fs)]) (k + 1) (n + nn) ∧ ∀ target, Steps p.tables e below (T'.setTop { g with pc := g.pc + 3, stack := .ref x :: g.stack }) target → Steps p.tables e below (T.setTop g) target := by
  obtain ⟨locs, X, N, hH⟩ := H
  obtain ⟨T', h', X', e', E, A, D, -, st⟩ := newO X hx hZ hown w wi wz rfl hg hd hc hl
  refine ⟨T', T.heap.size, ⟨locs, X', N, ?_⟩, st⟩
  rw [e']
  refine own_Hp_new hH E ⟨A, fun f hf => ?_, hN⟩
  obtain ⟨h1, t, h2, h3⟩ := hfs f hf
  exact ⟨h3 ▸ D h1 h2, h1, t, h2⟩
theorem own_newA (H : own_S p l e R s m args below meth c Z a0 hb T cs k n) (hx : p.tables.exec = Jvm.exec) (hZ : Z.Warmed39 s.vm) {aty : ArrayType} (w : (Jvm.Cond.arrayClass (newarray.typeOf aty)).before a0 Z = true) {g : JFrame} (hg : g.method = m) (hd : decode c.code g.pc = .ok (.newarray aty, 2)) {z : Int32} {rest : List Value} (hs : g.stack = .int z :: rest)
    (hn : ¬ z < 0) {cap : Nat} (hcap : z.toNatClampNeg ≤ cap) (hb8 : cap * 8 ≤ 536870912) (hc : k + 1 ≤ R.cells) (hl : n + cap ≤ R.slots) :
    ∃ T' x, own_S p l e R s m args below meth c Z a0 hb T' (cs ++ [(x, own_A (newarray.typeOf aty) (List.replicate z.toNatClampNeg (defaultValue (newarray.typeOf aty))))]) (k + 1) (n + cap) ∧ ∀ target, Steps p.tables e below (T'.setTop { g with pc := g.pc + 2, stack := .ref x :: rest }) target → Steps p.tables e below (T.setTop g) target := by
  obtain ⟨locs, X, N, hH⟩ := H
  obtain ⟨T', h', cA, X', e', E, A, st⟩ := newP X hx hZ w rfl hg hd hs hn hcap hb8 hc hl
  refine ⟨T', T.heap.size, ⟨locs, X', N, ?_⟩, st⟩
  rw [e']
  exact own_Hp_new hH E ⟨_, A, by simp [newA]⟩
theorem own_getF (H : own_S p l e R s m args below meth c Z a0 hb T cs k n) (hx : p.tables.exec = Jvm.exec) (hZ : Z.Warmed39 s.vm) {own O nm d : String} {index : Nat} (hown : s.vm.findClass own = some m.cls) (w : (Jvm.Cond.fieldLink own index O nm d).before a0 Z = true)
    {x : Addr} {C : String} {fs : List (String × String × String × Value)} {v : Value} (i j : Nat) (hi : cs[i]? = some (x, own_O C fs)) (hj : fs[j]? = some (O, nm, d, v)) {g : JFrame} (hg : g.method = m) {rest : List Value} (hs : g.stack = .ref x :: rest) (hd : decode c.code g.pc = .ok (.getfield index, 3)) :
    ∃ T', own_S p l e R s m args below meth c Z a0 hb T' cs k n ∧ ∀ target, Steps p.tables e below (T'.setTop { g with pc := g.pc + 3, stack := v :: rest }) target → Steps p.tables e below (T.setTop g) target := by
  obtain ⟨locs, X, N, hH⟩ := H
  have F := ((own_get hH hi).1.2.1 _ (List.mem_of_getElem? hj)).1
  obtain ⟨T', X', e', st⟩ := getF X hx hZ hown (host := "") (Or.inl w) Via.refl rfl F hg hs hd
  exact ⟨T', ⟨locs, X', N, e' ▸ hH⟩, st⟩
theorem own_putF (H : own_S p l e R s m args below meth c Z a0 hb T cs k n) (hx : p.tables.exec = Jvm.exec) (hZ : Z.Warmed39 s.vm) {own O nm d : String} {index kk : Nat} {ty : FieldType} (hown : s.vm.findClass own = some m.cls) (w : (Jvm.Cond.fieldLink own index O nm d).before a0 Z = true)
    {x : Addr} {C : String} {fs : List (String × String × String × Value)} {v old : Value} (i j : Nat) (hi : cs[i]? = some (x, own_O C fs)) (hj : fs[j]? = some (O, nm, d, old)) (L : (Jvm.Cond.lays C O nm d).before a0 Z = true ∨ ((Jvm.Cond.laysFinal C O nm d).before a0 Z = true ∧ own = O ∧ meth.name = "<init>")) (wi : (Jvm.Cond.instantiable C kk).before a0 Z = true)
    (hty : parseFieldDescriptor d = some ty) (hn : narrow ty v = v) (hf : fits ty v = true) {g : JFrame} (hg : g.method = m) {rest : List Value} (hs : g.stack = v :: .ref x :: rest) (hd : decode c.code g.pc = .ok (.putfield index, 3)) :
    ∃ T', own_S p l e R s m args below meth c Z a0 hb T' (cs.set i (x, own_O C (fs.set j (O, nm, d, v)))) k n ∧ ∀ target, Steps p.tables e below (T'.setTop { g with pc := g.pc + 3, stack := rest }) target → Steps p.tables e below (T.setTop g) target := by
  obtain ⟨locs, X, N, hH⟩ := H
  have I := own_get hH hi
  have F := (I.1.2.1 _ (List.mem_of_getElem? hj)).1
  obtain ⟨T', h', X', e', W, st⟩ := putF X hx hZ hown (host := "") (Or.inl w) Via.refl rfl F I.1.1 L wi hty hn hf hg hs hd
  refine ⟨T', ⟨_, X', Fr.snoc X' N I.2, ?_⟩, st⟩
  rw [e']
  exact own_Hp_set hH hi W (own_Is_fld I.1 hj W)
theorem own_initO (H : own_S p l e R s m args below meth c Z a0 hb T cs k n) (hx : p.tables.exec = Jvm.exec) (hZ : Z.Warmed39 s.vm) {own : String} {idx : Nat} (hown : s.vm.findClass own = some m.cls) (w1 : (Jvm.Cond.methodLink own idx Lib.objectInit).before a0 Z = true) (w2 : (Jvm.Cond.instanceMethod Lib.objectInit).before a0 Z = true)
    (w3 : (Jvm.Cond.code Lib.objectInit ⟨#[0xb1]⟩ 1 none).before a0 Z = true) {g : JFrame} (hg : g.method = m) (hsize : g.locals.size = c.maxLocals) {a : Addr} {rest : List Value} (hs : g.stack = .ref a :: rest) (hd : decode c.code g.pc = .ok (.invokespecial idx, 3))
    (hf : 1 ≤ R.frames) {W : Nat} (hW : 2 * g.monitorRoom + (rest.map fun v => v.category).sum ≤ W) (hl : W + 12 ≤ R.locals) :
    ∃ T', own_S p l e R s m args below meth c Z a0 hb T' cs k n ∧ ∀ target, Steps p.tables e below (T'.setTop { g with pc := g.pc + 3, stack := rest }) target → Steps p.tables e below (T.setTop g) target := by
  obtain ⟨locs, X, N, hH⟩ := H
  obtain ⟨T', X', e', st⟩ := initO X hx hZ hown w1 w2 w3 rfl hg hsize hs hd hf hW hl
  exact ⟨T', ⟨locs, X', N, e' ▸ hH⟩, st⟩
theorem own_idx {j : Int32} {vs : List Value} {cl : Cell} (e : cl.slots.toList = vs) (h0 : 0 ≤ j.toInt) (h1 : j.toInt < vs.length) : ¬ (j < 0 ∨ cl.slots.size ≤ j.toNatClampNeg) := by
  have hl : cl.slots.size = vs.length := by rw [← e]; simp
  rintro (q | q)
  · rw [Int32.lt_iff_toInt_lt] at q; rw [show (0 : Int32).toInt = 0 from rfl] at q; omega
  · have : j.toNatClampNeg = j.toInt.toNat := rfl
    omega
theorem own_at_idx {j : Int32} {vs : List Value} {cl : Cell} {v : Value} (e : cl.slots.toList = vs) {i : Nat} (hi : j.toInt = i) (hv : vs[i]? = some v) : cl.slots[j.toNatClampNeg]? = some v := by
  have : j.toNatClampNeg = i := by show j.toInt.toNat = i; omega
  rw [this, ← Array.getElem?_toList, e]; exact hv
theorem own_daload (H : own_S p l e R s m args below meth c Z a0 hb T cs k n) (hx : p.tables.exec = Jvm.exec) (hZ : Z.Warmed39 s.vm) {x : Addr} {vs : List Value} {j : Int32} {v : Value} (i jj : Nat) (hi : cs[i]? = some (x, own_A .double vs)) (hj : j.toInt = jj) (hv : vs[jj]? = some v)
    {g : JFrame} (hg : g.method = m) {rest : List Value} (hs : g.stack = .int j :: .ref x :: rest) (hd : decode c.code g.pc = .ok (.daload, 1)) :
    ∀ target, Steps p.tables e below (T.setTop { g with pc := g.pc + 1, stack := v :: rest }) target → Steps p.tables e below (T.setTop g) target := by
  obtain ⟨locs, X, N, hH⟩ := H
  obtain ⟨cl, A, hc⟩ := (own_get hH hi).1
  have hlt : jj < vs.length := (List.getElem?_eq_some_iff.mp hv).1
  exact fun target q => X.daload hx A.1 (State.isArrayOf_alike hZ.alike A.2.1) A.2.2 (own_idx hc (by omega) (by omega)) (own_at_idx hc hj hv) hg hs hd target q
theorem own_arrlen (H : own_S p l e R s m args below meth c Z a0 hb T cs k n) (hx : p.tables.exec = Jvm.exec) (hZ : Z.Warmed39 s.vm) {x : Addr} {ty : FieldType} {vs : List Value} (i : Nat) (hi : cs[i]? = some (x, own_A ty vs)) {z : Int32} (hz : vs.length.toInt32 = z)
    {g : JFrame} (hg : g.method = m) {rest : List Value} (hs : g.stack = .ref x :: rest) (hd : decode c.code g.pc = .ok (.arraylength, 1)) :
    ∀ target, Steps p.tables e below (T.setTop { g with pc := g.pc + 1, stack := .int z :: rest }) target → Steps p.tables e below (T.setTop g) target := by
  obtain ⟨locs, X, N, hH⟩ := H
  obtain ⟨cl, A, hc⟩ := (own_get hH hi).1
  have hl : cl.slots.size = vs.length := by rw [← hc]; simp
  refine fun target q => X.arraylength hx A.1 (State.isArrayOf_alike hZ.alike A.2.1) hg hs hd target ?_
  rw [hl, hz]; exact q
theorem own_dastore (H : own_S p l e R s m args below meth c Z a0 hb T cs k n) (hx : p.tables.exec = Jvm.exec) (hZ : Z.Warmed39 s.vm) {x : Addr} {vs : List Value} {j : Int32} {v : UInt64} (i jj : Nat) (hi : cs[i]? = some (x, own_A .double vs)) (hj : j.toInt = jj) (hlt : jj < vs.length)
    {g : JFrame} (hg : g.method = m) {rest : List Value} (hs : g.stack = .double v :: .int j :: .ref x :: rest) (hd : decode c.code g.pc = .ok (.dastore, 1)) :
    ∃ T', own_S p l e R s m args below meth c Z a0 hb T' (cs.set i (x, own_A .double (vs.set jj (.double v)))) k n ∧ ∀ target, Steps p.tables e below (T'.setTop { g with pc := g.pc + 1, stack := rest }) target → Steps p.tables e below (T.setTop g) target := by
  obtain ⟨locs, X, N, hH⟩ := H
  have I := own_get hH hi
  obtain ⟨cl, A, hc⟩ := I.1
  obtain ⟨T', h', X', e', W, st⟩ := stD X hx hZ rfl A (own_idx hc (by omega) (by omega)) hg hs hd
  have hjj : j.toNatClampNeg = jj := by show j.toInt.toNat = jj; omega
  rw [hjj] at W
  refine ⟨T', ⟨_, X', Fr.snoc X' N I.2, ?_⟩, st⟩
  rw [e']
  exact own_Hp_set hH hi W (own_Is_elt I.1 W)
theorem own_iastore (H : own_S p l e R s m args below meth c Z a0 hb T cs k n) (hx : p.tables.exec = Jvm.exec) (hZ : Z.Warmed39 s.vm) {x : Addr} {vs : List Value} {j : Int32} {v : Int32} (i jj : Nat) (hi : cs[i]? = some (x, own_A .int vs)) (hj : j.toInt = jj) (hlt : jj < vs.length)
    {g : JFrame} (hg : g.method = m) {rest : List Value} (hs : g.stack = .int v :: .int j :: .ref x :: rest) (hd : decode c.code g.pc = .ok (.iastore, 1)) :
    ∃ T', own_S p l e R s m args below meth c Z a0 hb T' (cs.set i (x, own_A .int (vs.set jj (.int v)))) k n ∧ ∀ target, Steps p.tables e below (T'.setTop { g with pc := g.pc + 1, stack := rest }) target → Steps p.tables e below (T.setTop g) target := by
  obtain ⟨locs, X, N, hH⟩ := H
  have I := own_get hH hi
  obtain ⟨cl, A, hc⟩ := I.1
  obtain ⟨T', h', X', e', W, st⟩ := stI X hx hZ rfl A (own_idx hc (by omega) (by omega)) hg hs hd
  have hjj : j.toNatClampNeg = jj := by show j.toInt.toNat = jj; omega
  rw [hjj] at W
  refine ⟨T', ⟨_, X', Fr.snoc X' N I.2, ?_⟩, st⟩
  rw [e']
  exact own_Hp_set hH hi W (own_Is_elt I.1 W)
end Rules
/-- what a method does: from the cells cs and these arguments it returns a value and leaves cells of which Q holds -/
def own_Met (l : Launch) (Z : State) (a0 : Array Value) (hb : Heap) (y : MethodName) (bytes : ByteArray) (maxL : Nat) (ret : Option FieldType) (ws : List Jvm.Cond) (rm : Room) (as' : Array Value) (cs : List (Addr × own_Cel)) (Q : Option Value → List (Addr × own_Cel) → Prop) : Prop :=
  ∀ h, own_Hp Z a0 hb h cs → MetFree l y (head1 (Jvm.Cond.code y bytes maxL ret :: ws) rm) (fun a U => a = as' ∧ Z.Warmed39 U.vm ∧ U.heap = h) (fun _ _ _ _ _ => True) (fun _ U o U' => ∃ w L, o = .returned w ∧ (Fr hb.size L ∧ ∃ cs', Q w cs' ∧ own_Hp Z a0 hb U'.heap cs') ∧ FrameEnd U o U' L rm.cells rm.slots)
/-- from the frame g the method runs to its return -/
def own_Ends (p : Program) (l : Launch) (e : Env) (R : Room) (s : State) (m : MethodId) (args : Array Value) (below : List Frame) (meth : Method) (c : Code) (Z : State) (a0 : Array Value) (hb : Heap) (bytes : ByteArray) (ret : Option FieldType) (Q : Option Value → List (Addr × own_Cel) → Prop) (T : State) (g : JFrame) : Prop :=
  ∃ T' cs' k n pc L, own_S p l e R s m args below meth c Z a0 hb T' cs' k n ∧ k ≤ R.cells ∧ n ≤ R.slots ∧
    ((ret = none ∧ Q none cs' ∧ decode bytes pc = .ok (.return_, 1) ∧ ∀ target, Steps p.tables e below (T'.setTop (mkF m pc L [])) target → Steps p.tables e below (T.setTop g) target) ∨
     (∃ t v S i, ret = some t ∧ Q (some v) cs' ∧ decode bytes pc = .ok (i, 1) ∧ own_Ret i t v ∧ ∀ target, Steps p.tables e below (T'.setTop (mkF m pc L (v :: S))) target → Steps p.tables e below (T.setTop g) target))
theorem own_met_of {l : Launch} {Z : State} {a0 : Array Value} {hb : Heap} {y : MethodName} {bytes : ByteArray} {maxL : Nat} {ret : Option FieldType} {ws : List Jvm.Cond} {rm : Room} {as' : Array Value} {cs : List (Addr × own_Cel)} {Q : Option Value → List (Addr × own_Cel) → Prop} {L0 : Array Slot} (hpl : plainFor y = true) (hef : ∀ m, entryFrame m as' maxL = mkF m 0 L0 [])
    (body : ∀ (p : Program) (e : Env) (s : State) (m : MethodId) (below : List Frame) (meth : Method) (c : Code) (T : State), p.tables.exec = Jvm.exec → Z.Warmed39 s.vm → s.vm.findClass y.cls = some m.cls → c.code = bytes → c.maxLocals = maxL → meth.name = y.name → own_S p l e rm s m as' below meth c Z a0 hb T cs 0 0 → own_Ends p l e rm s m as' below meth c Z a0 hb bytes ret Q T (mkF m 0 L0 [])) :
    own_Met l Z a0 hb y bytes maxL ret ws rm as' cs Q := by
  intro h hH
  refine MetFree.of_bodySF hpl hisR ?_
  intro p e s m args below meth c s₁ Bd hml0 hPP hK
  obtain ⟨rfl, hZ, hh⟩ := hPP
  have hown : s.vm.findClass y.cls = some m.cls := findClass_of_methodNamed Bd.named
  have hnm := (name_of_methodNamed Bd.named Bd.method).1
  have X0 : Stand p l e rm s m _ below meth c s₁ [] 0 0 := Stand.of_body Bd
  have e0 : s₁.heap = h := by rw [← hh, Bd.state]; rfl
  obtain ⟨T', cs', k, n, pc, L, ⟨locs, X, N, hH'⟩, hk, hn, hE⟩ := body p e s m below meth c s₁ Bd.exec hZ hown Bd.bytes hml0 hnm ⟨[], X0, Fr.nil _, e0 ▸ hH⟩
  rcases hE with ⟨rfl, hQ, hd, st⟩ | ⟨t, v, S, i, rfl, hQ, hd, hr, st⟩
  · obtain ⟨fs, hr', hrun, hended, hW, hsame⟩ := X.leave (v := none) (fun _ => rfl)
    exact ⟨_, _, castTop (hef m) (st _ (X.returnOut Bd.exec Bd.returns (Jvm.hb Bd.bytes hd) hr')), hrun, hended, _, _, rfl, ⟨N, cs', hQ, hH'⟩, ⟨_, rfl⟩, hW, hsame.mono hk hn⟩
  · obtain ⟨fs, hr', hrun, hended, hW, hsame⟩ := X.leave (v := some v) (fun h => by rw [Bd.returns] at h; cases h)
    exact ⟨_, _, castTop (hef m) (st _ (retOut X Bd.exec Bd.returns hr.1 hr.2 (Jvm.hb Bd.bytes hd) hr')), hrun, hended, _, _, rfl, ⟨N, cs', hQ, hH'⟩, ⟨_, rfl⟩, hW, hsame.mono hk hn⟩
section Calls
variable {p : Program} {l : Launch} {e : Env} {R : Room} {s : State} {m : MethodId} {args : Array Value} {below : List Frame} {meth : Method} {c : Code} {T : State} {Z : State} {a0 : Array Value} {hb : Heap} {cs : List (Addr × own_Cel)} {k n : Nat}
theorem own_callS (H : own_S p l e R s m args below meth c Z a0 hb T cs k n) (hx : p.tables.exec = Jvm.exec) (hZ : Z.Warmed39 s.vm) {own : String} {index : Nat} {y : MethodName} {bytes : ByteArray} {maxL : Nat} {ret : Option FieldType} (hown : s.vm.findClass own = some m.cls)
    (w1 : (Jvm.Cond.methodLink own index y).before a0 Z = true) (w2 : (Jvm.Cond.static y).before a0 Z = true) (w3 : (Jvm.Cond.initialized y.cls).before a0 Z = true) (w4 : (Jvm.Cond.code y bytes maxL ret).before a0 Z = true) (hy : y.cls ≠ "java/lang/invoke/MethodHandle" ∧ y.cls ≠ "java/lang/invoke/VarHandle")
    {rm : Room} {W : Nat} {argsL rest : List Value} {Q : Option Value → List (Addr × own_Cel) → Prop} (hM : own_Met l Z a0 hb y bytes maxL ret [] rm argsL.toArray cs Q) (hf : rm.frames + 1 ≤ R.frames) (hl : W + (maxL + 11) + rm.locals ≤ R.locals) (hc : k + rm.cells ≤ R.cells) (hs : n + rm.slots ≤ R.slots)
    {g : JFrame} (hg : g.method = m) (hsize : g.locals.size = c.maxLocals) (hlen : ∀ sig, parseMethodDescriptor y.desc = some sig → argsL.length = sig.parameters.length) (hst : g.stack = argsL.reverse ++ rest) (hW : 2 * g.monitorRoom + (rest.map fun v => v.category).sum ≤ W) (hd : decode c.code g.pc = .ok (.invokestatic index, 3)) :
    ∃ T' v cs', Q v cs' ∧ own_S p l e R s m args below meth c Z a0 hb T' cs' (k + rm.cells) (n + rm.slots) ∧ ∀ target, Steps p.tables e below (T'.setTop { g with pc := g.pc + 3, stack := v.toList ++ rest }) target → Steps p.tables e below (T.setTop g) target := by
  obtain ⟨locs, X, N, hH⟩ := H
  obtain ⟨v', vm1, ⟨T2, L2, k2, n2⟩, -, X2, ⟨Lc, hQ, l2, y2, z2⟩, st⟩ := Jvm.LawKit.callS X hx hown (mvT hZ w1) (mvT hZ w2) (mvT hZ w3) (mvT hZ w4) hy (backOf (W := W) (rm := rm) (Q := fun w H L => Fr hb.size L ∧ ∃ cs', Q w cs' ∧ own_Hp Z a0 hb H cs') (hM _ hH) hZ w4 w3 hf hl) hg hsize hlen hst hW hd (fun _ _ => ⟨rfl, rfl, hc, hs⟩)
  dsimp only [Pt.U, Pt.locs, Pt.cells, Pt.slots] at X2 l2 y2 z2 st hQ
  obtain ⟨N2, cs', hQ', hH'⟩ := hQ
  subst l2 y2 z2
  exact ⟨T2, v', cs', hQ', ⟨_, X2, N.app N2, hH'⟩, st⟩
theorem own_callI (H : own_S p l e R s m args below meth c Z a0 hb T cs k n) (hx : p.tables.exec = Jvm.exec) (hZ : Z.Warmed39 s.vm) {own : String} {index : Nat} {y : MethodName} {bytes : ByteArray} {maxL : Nat} (hown : s.vm.findClass own = some m.cls) (hy1 : y.name = "<init>")
    (w1 : (Jvm.Cond.methodLink own index y).before a0 Z = true) (w2 : (Jvm.Cond.instanceMethod y).before a0 Z = true) (w3 : (Jvm.Cond.initialized y.cls).before a0 Z = true) (w4 : (Jvm.Cond.code y bytes maxL none).before a0 Z = true) (hy : y.cls ≠ "java/lang/invoke/MethodHandle" ∧ y.cls ≠ "java/lang/invoke/VarHandle")
    {rm : Room} {W : Nat} {x : Addr} {argsL rest : List Value} {Q : Option Value → List (Addr × own_Cel) → Prop} (hM : own_Met l Z a0 hb y bytes maxL none [] rm (Value.ref x :: argsL).toArray cs Q) (hf : rm.frames + 1 ≤ R.frames) (hl : W + (maxL + 11) + rm.locals ≤ R.locals) (hc : k + rm.cells ≤ R.cells) (hs : n + rm.slots ≤ R.slots)
    {g : JFrame} (hg : g.method = m) (hsize : g.locals.size = c.maxLocals) (hlen : ∀ sig, parseMethodDescriptor y.desc = some sig → argsL.length = sig.parameters.length) (hst : g.stack = argsL.reverse ++ .ref x :: rest) (hW : 2 * g.monitorRoom + (rest.map fun v => v.category).sum ≤ W) (hd : decode c.code g.pc = .ok (.invokespecial index, 3)) :
    ∃ T' v cs', Q v cs' ∧ own_S p l e R s m args below meth c Z a0 hb T' cs' (k + rm.cells) (n + rm.slots) ∧ ∀ target, Steps p.tables e below (T'.setTop { g with pc := g.pc + 3, stack := v.toList ++ rest }) target → Steps p.tables e below (T.setTop g) target := by
  obtain ⟨locs, X, N, hH⟩ := H
  obtain ⟨v', vm1, ⟨T2, L2, k2, n2⟩, -, X2, ⟨Lc, hQ, l2, y2, z2⟩, st⟩ := X.specialBack hx hy1 hown (mvT hZ w1) (mvT hZ w2) (mvT hZ w4) hy (backOf (W := W) (rm := rm) (Q := fun w H L => Fr hb.size L ∧ ∃ cs', Q w cs' ∧ own_Hp Z a0 hb H cs') (hM _ hH) hZ w4 w3 hf hl) hg hsize (Steps.refl _) hlen hst hW hd (fun _ _ => ⟨rfl, rfl, hc, hs⟩)
  dsimp only [Pt.U, Pt.locs, Pt.cells, Pt.slots] at X2 l2 y2 z2 st hQ
  obtain ⟨N2, cs', hQ', hH'⟩ := hQ
  subst l2 y2 z2
  exact ⟨T2, v', cs', hQ', ⟨_, X2, N.app N2, hH'⟩, fun target q => st.trans q⟩
theorem own_callV (H : own_S p l e R s m args below meth c Z a0 hb T cs k n) (hx : p.tables.exec = Jvm.exec) (hZ : Z.Warmed39 s.vm) {own C : String} {index : Nat} {y : MethodName} {bytes : ByteArray} {maxL : Nat} {ret : Option FieldType} (hown : s.vm.findClass own = some m.cls)
    (w1 : (Jvm.Cond.methodLink own index y).before a0 Z = true) (w2 : (Jvm.Cond.declares y).before a0 Z = true) (w5 : (Jvm.Cond.selects C y y).before a0 Z = true) (w6 : (Jvm.Cond.instanceMethod y).before a0 Z = true) (w3 : (Jvm.Cond.initialized y.cls).before a0 Z = true) (w4 : (Jvm.Cond.code y bytes maxL ret).before a0 Z = true) (hy : y.cls ≠ "java/lang/invoke/MethodHandle" ∧ y.cls ≠ "java/lang/invoke/VarHandle")
    {rm : Room} {W : Nat} {x : Addr} {fs : List (String × String × String × Value)} (i : Nat) (hi : cs[i]? = some (x, own_O C fs)) {argsL rest : List Value} {Q : Option Value → List (Addr × own_Cel) → Prop} (hM : own_Met l Z a0 hb y bytes maxL ret [] rm (Value.ref x :: argsL).toArray cs Q) (hf : rm.frames + 1 ≤ R.frames) (hl : W + (maxL + 11) + rm.locals ≤ R.locals) (hc : k + rm.cells ≤ R.cells) (hs : n + rm.slots ≤ R.slots)
    {g : JFrame} (hg : g.method = m) (hsize : g.locals.size = c.maxLocals) (hlen : ∀ sig, parseMethodDescriptor y.desc = some sig → argsL.length = sig.parameters.length) (hst : g.stack = argsL.reverse ++ .ref x :: rest) (hW : 2 * g.monitorRoom + (rest.map fun v => v.category).sum ≤ W) (hd : decode c.code g.pc = .ok (.invokevirtual index, 3)) :
    ∃ T' v cs', Q v cs' ∧ own_S p l e R s m args below meth c Z a0 hb T' cs' (k + rm.cells) (n + rm.slots) ∧ ∀ target, Steps p.tables e below (T'.setTop { g with pc := g.pc + 3, stack := v.toList ++ rest }) target → Steps p.tables e below (T.setTop g) target := by
  obtain ⟨locs, X, N, hH⟩ := H
  obtain ⟨cq, kq, qa, qb, qc⟩ := isOf hZ rfl (own_get hH hi).1.1
  obtain ⟨v', vm1, ⟨T2, L2, k2, n2⟩, -, X2, ⟨Lc, hQ, l2, y2, z2⟩, st⟩ := X.virtualBack hx hown (mvT hZ w1) (mvT hZ w2) (notFace_of_selects (args := #[]) (mvT hZ w5)) (mvT hZ w5) (mvT hZ w6) hy (backOf (W := W) (rm := rm) (Q := fun w H L => Fr hb.size L ∧ ∃ cs', Q w cs' ∧ own_Hp Z a0 hb H cs') (hM _ hH) hZ w4 w3 hf hl) qa qc hg hsize (Steps.refl _) hlen hst hW hd (fun _ _ => ⟨rfl, rfl, hc, hs⟩)
  dsimp only [Pt.U, Pt.locs, Pt.cells, Pt.slots] at X2 l2 y2 z2 st hQ
  obtain ⟨N2, cs', hQ', hH'⟩ := hQ
  subst l2 y2 z2
  exact ⟨T2, v', cs', hQ', ⟨_, X2, N.app N2, hH'⟩, fun target q => st.trans q⟩
end Calls
end OwnHeap
section OwnHeap2
open Jvm.Free Jvm.Stand Jvm.LawKit Jvm.RoadKit
variable {p : Program} {l : Launch} {e : Env} {R : Room} {s : State} {m : MethodId} {args : Array Value} {below : List Frame} {meth : Method} {c : Code} {T : State} {Z : State} {a0 : Array Value} {hb : Heap} {cs : List (Addr × own_Cel)} {k n : Nat}
/-- a private method, called by invokevirtual -/
theorem own_callPr (H : own_S p l e R s m args below meth c Z a0 hb T cs k n) (hx : p.tables.exec = Jvm.exec) (hZ : Z.Warmed39 s.vm) {own : String} {index nn : Nat} {y : MethodName} {bytes : ByteArray} {maxL : Nat} {ret : Option FieldType} (hown : s.vm.findClass own = some m.cls)
    (w1 : (Jvm.Cond.methodLink own index y).before a0 Z = true) (w2 : (Jvm.Cond.instanceMethod y).before a0 Z = true) (w5 : (Jvm.Cond.privateMethod y).before a0 Z = true) (w6 : (Jvm.Cond.instantiable y.cls nn).before a0 Z = true) (w3 : (Jvm.Cond.initialized y.cls).before a0 Z = true) (w4 : (Jvm.Cond.code y bytes maxL ret).before a0 Z = true) (hy : y.cls ≠ "java/lang/invoke/MethodHandle" ∧ y.cls ≠ "java/lang/invoke/VarHandle")
    {rm : Room} {W : Nat} {x : Addr} {C : String} {fs : List (String × String × String × Value)} (i : Nat) (hi : cs[i]? = some (x, own_O C fs)) {argsL rest : List Value} {Q : Option Value → List (Addr × own_Cel) → Prop} (hM : own_Met l Z a0 hb y bytes maxL ret [] rm (Value.ref x :: argsL).toArray cs Q) (hf : rm.frames + 1 ≤ R.frames) (hl : W + (maxL + 11) + rm.locals ≤ R.locals) (hc : k + rm.cells ≤ R.cells) (hs : n + rm.slots ≤ R.slots)
    {g : JFrame} (hg : g.method = m) (hsize : g.locals.size = c.maxLocals) (hlen : ∀ sig, parseMethodDescriptor y.desc = some sig → argsL.length = sig.parameters.length) (hst : g.stack = argsL.reverse ++ .ref x :: rest) (hW : 2 * g.monitorRoom + (rest.map fun v => v.category).sum ≤ W) (hd : decode c.code g.pc = .ok (.invokevirtual index, 3)) :
    ∃ T' v cs', Q v cs' ∧ own_S p l e R s m args below meth c Z a0 hb T' cs' (k + rm.cells) (n + rm.slots) ∧ ∀ target, Steps p.tables e below (T'.setTop { g with pc := g.pc + 3, stack := v.toList ++ rest }) target → Steps p.tables e below (T.setTop g) target := by
  obtain ⟨locs, X, N, hH⟩ := H
  have hsel : (Jvm.Cond.selects y.cls y y).before a0 Z = true := Jvm.Kit.selects_private hy w6 w5 w2
  obtain ⟨cell, kk, q1, q2, q3, q4, -⟩ := (own_get hH hi).1.1
  obtain ⟨v', vm1, ⟨T2, L2, k2, n2⟩, -, X2, ⟨Lc, hQ, l2, y2, z2⟩, st⟩ := X.privateBack hx hown (mvT hZ w1) (mvT hZ w2) (mvT hZ hsel) (Cond.privateMethod_at (mvP hZ w5 (args := #[]))) (mvT hZ w4) hy (backOf (W := W) (rm := rm) (Q := fun w H L => Fr hb.size L ∧ ∃ cs', Q w cs' ∧ own_Hp Z a0 hb H cs') (hM _ hH) hZ w4 w3 hf hl) hg hsize (Steps.refl _) (a := x) q1 (fun q e => by rw [e] at q4; cases q4) hlen hst hW hd (fun _ _ => ⟨rfl, rfl, hc, hs⟩)
  dsimp only [Pt.U, Pt.locs, Pt.cells, Pt.slots] at X2 l2 y2 z2 st hQ
  obtain ⟨N2, cs', hQ', hH'⟩ := hQ
  subst l2 y2 z2
  exact ⟨T2, v', cs', hQ', ⟨_, X2, N.app N2, hH'⟩, fun target q => st.trans q⟩
/-- Math.abs of a double -/
theorem own_absD (H : own_S p l e R s m args below meth c Z a0 hb T cs k n) (hx : p.tables.exec = Jvm.exec) (hZ : Z.Warmed39 s.vm) {own : String} {index : Nat} (hown : s.vm.findClass own = some m.cls)
    (w1 : (Jvm.Cond.methodLink own index Jvm.Free.Fl.Abs.absDN).before a0 Z = true) (w2 : (Jvm.Cond.static Jvm.Free.Fl.Abs.absDN).before a0 Z = true) (w3 : (Jvm.Cond.initialized "java/lang/Math").before a0 Z = true) (w4 : (Jvm.Cond.code Jvm.Free.Fl.Abs.absDN Jvm.Free.Fl.Abs.absDCode 2 (some .double)).before a0 Z = true)
    {a : UInt64} (ha : Jvm.Free.Fl.NoNaN64 a) {W : Nat} {rest : List Value} (hf : 1 ≤ R.frames) (hl : W + 13 ≤ R.locals) (hc : k ≤ R.cells) (hs : n ≤ R.slots)
    {g : JFrame} (hg : g.method = m) (hsize : g.locals.size = c.maxLocals) (hst : g.stack = .double a :: rest) (hW : 2 * g.monitorRoom + (rest.map fun v => v.category).sum ≤ W) (hd : decode c.code g.pc = .ok (.invokestatic index, 3)) :
    ∃ T', own_S p l e R s m args below meth c Z a0 hb T' cs k n ∧ ∀ target, Steps p.tables e below (T'.setTop { g with pc := g.pc + 3, stack := .double (a &&& 0x7fffffffffffffff) :: rest }) target → Steps p.tables e below (T.setTop g) target := by
  obtain ⟨locs, X, N, hH⟩ := H
  have hpd : parseMethodDescriptor "(D)D" = some ⟨[.double], some .double⟩ := by decide +kernel
  obtain ⟨T', X', e', st⟩ := natS X hx hZ hown w1 w2 w3 w4 (by decide) rfl (F := fun a' => a' = #[.double a] ∧ Jvm.Free.Fl.NoNaN64 a) (fun c4 => Jvm.Free.Fl.Abs.absD_pays (W := W) a c4 hf hl) hg hsize (argsL := [.double a]) (rest := rest) (lenOf hpd rfl) hst hW hd hc hs ⟨rfl, ha⟩ rfl
  exact ⟨T', ⟨locs, X', N, e' ▸ hH⟩, st⟩
end OwnHeap2
section OwnInts
open Jvm.Free Jvm.Stand Jvm.LawKit Jvm.RoadKit
theorem own_lm {x y : Int64} {a b : Int} {X Y : Nat} (hx : x.toInt = a) (hy : y.toInt = b) (ka : a.natAbs ≤ X) (kb : b.natAbs ≤ Y) (h : X * Y < 9223372036854775808) : (x * y).toInt = a * b := by
  have h1 := c_lmul x y
  have h2 := rng64 (x * y)
  have h3 := own_nb ka kb
  rw [hx, hy] at h1
  generalize a * b = w at *
  generalize X * Y = W at *
  omega
theorem own_la {x y : Int64} {a b : Int} (hx : x.toInt = a) (hy : y.toInt = b) (h1 : a + b ≤ 9223372036854775807) (h2 : -9223372036854775808 ≤ a + b) : (x + y).toInt = a + b := by
  have q1 := c_ladd x y
  have q2 := rng64 (x + y)
  rw [hx, hy] at q1
  omega
theorem own_lsb {x y : Int64} {a b : Int} (hx : x.toInt = a) (hy : y.toInt = b) (h1 : a - b ≤ 9223372036854775807) (h2 : -9223372036854775808 ≤ a - b) : (x - y).toInt = a - b := by
  have q1 := c_lsub x y
  have q2 := rng64 (x - y)
  rw [hx, hy] at q1
  omega
theorem own_feq {a b c d : Int} (hb : b ≠ 0) (hd : d ≠ 0) (h : a * d = c * b) : (a : Rat) / (b : Rat) = (c : Rat) / (d : Rat) := by
  have hb' : (b : Rat) ≠ 0 := by rw [Ne, Rat.intCast_eq_zero_iff]; exact hb
  have hd' : (d : Rat) ≠ 0 := by rw [Ne, Rat.intCast_eq_zero_iff]; exact hd
  have h' : (a : Rat) * (d : Rat) = (c : Rat) * (b : Rat) := by rw [← Rat.intCast_mul, ← Rat.intCast_mul, h]
  refine own_cancel hb' (own_cancel hd' ?_)
  rw [Rat.div_mul_cancel hb', h', Rat.mul_assoc, Rat.mul_comm (b : Rat), ← Rat.mul_assoc, Rat.div_mul_cancel hd']
end OwnInts
section OwnClaim
open Jvm.Free.Fl
def own_K0 : List (Nat × Value) := [(7, .int 65535), (8, .long 2)]
theorem own_K0_ok : ∀ q ∈ own_K0, ∃ w ∈ tables_1, own_Word "com/example/hazeline/hazeline/fuzzy/TrapezoidPreferenceRatioPinLaw" q.1 q.2 w := by
  intro q hq
  simp only [own_K0, List.mem_cons, List.not_mem_nil, or_false] at hq
  rcases hq with rfl | rfl
  · exact ⟨_, List.mem_of_getElem? (i := 0) rfl, rfl⟩
  · exact ⟨_, List.mem_of_getElem? (i := 1) rfl, rfl⟩
theorem own_pn0 : plainName "com/example/hazeline/hazeline/fuzzy/TrapezoidPreferenceRatioPinLaw" = true := by first | (simp [plainName, overriddenIn]; done) | decide +kernel
theorem d1_0 : decode prog_5_method_1_code 0 = .ok (.aload_n 0, 1) := by decide +kernel
theorem d1_1 : decode prog_5_method_1_code 1 = .ok (.invokespecial 1, 3) := by decide +kernel
theorem d1_4 : decode prog_5_method_1_code 4 = .ok (.dload_n 1, 1) := by decide +kernel
theorem d1_5 : decode prog_5_method_1_code 5 = .ok (.invokestatic 7, 3) := by decide +kernel
theorem d1_8 : decode prog_5_method_1_code 8 = .ok (.ifCond .eq 26, 3) := by decide +kernel
theorem d1_11 : decode prog_5_method_1_code 11 = .ok (.dload_n 3, 1) := by decide +kernel
theorem d1_12 : decode prog_5_method_1_code 12 = .ok (.invokestatic 7, 3) := by decide +kernel
theorem d1_15 : decode prog_5_method_1_code 15 = .ok (.ifCond .eq 19, 3) := by decide +kernel
theorem d1_18 : decode prog_5_method_1_code 18 = .ok (.dload 5, 2) := by decide +kernel
theorem d1_20 : decode prog_5_method_1_code 20 = .ok (.invokestatic 7, 3) := by decide +kernel
theorem d1_23 : decode prog_5_method_1_code 23 = .ok (.ifCond .eq 11, 3) := by decide +kernel
theorem d1_26 : decode prog_5_method_1_code 26 = .ok (.dload 7, 2) := by decide +kernel
theorem d1_28 : decode prog_5_method_1_code 28 = .ok (.invokestatic 7, 3) := by decide +kernel
theorem d1_31 : decode prog_5_method_1_code 31 = .ok (.ifCond .ne 25, 3) := by decide +kernel
theorem d1_34 : decode prog_5_method_1_code 34 = .ok (.new 13, 3) := by decide +kernel
theorem d1_37 : decode prog_5_method_1_code 37 = .ok (.dup, 1) := by decide +kernel
theorem d1_38 : decode prog_5_method_1_code 38 = .ok (.dload_n 1, 1) := by decide +kernel
theorem d1_39 : decode prog_5_method_1_code 39 = .ok (.dload_n 3, 1) := by decide +kernel
theorem d1_40 : decode prog_5_method_1_code 40 = .ok (.dload 5, 2) := by decide +kernel
theorem d1_42 : decode prog_5_method_1_code 42 = .ok (.dload 7, 2) := by decide +kernel
theorem d1_44 : decode prog_5_method_1_code 44 = .ok (.invokestatic 15, 3) := by decide +kernel
theorem d1_52 : decode prog_5_method_1_code 52 = .ok (.invokespecial 25, 3) := by decide +kernel
theorem d1_55 : decode prog_5_method_1_code 55 = .ok (.athrow, 1) := by decide +kernel
theorem d1_56 : decode prog_5_method_1_code 56 = .ok (.dload_n 1, 1) := by decide +kernel
theorem d1_57 : decode prog_5_method_1_code 57 = .ok (.dload_n 3, 1) := by decide +kernel
theorem d1_58 : decode prog_5_method_1_code 58 = .ok (.dcmp .g, 1) := by decide +kernel
theorem d1_59 : decode prog_5_method_1_code 59 = .ok (.ifCond .gt 18, 3) := by decide +kernel
theorem d1_62 : decode prog_5_method_1_code 62 = .ok (.dload_n 3, 1) := by decide +kernel
theorem d1_63 : decode prog_5_method_1_code 63 = .ok (.dload 5, 2) := by decide +kernel
theorem d1_65 : decode prog_5_method_1_code 65 = .ok (.dcmp .g, 1) := by decide +kernel
theorem d1_66 : decode prog_5_method_1_code 66 = .ok (.ifCond .gt 11, 3) := by decide +kernel
theorem d1_69 : decode prog_5_method_1_code 69 = .ok (.dload 5, 2) := by decide +kernel
theorem d1_71 : decode prog_5_method_1_code 71 = .ok (.dload 7, 2) := by decide +kernel
theorem d1_73 : decode prog_5_method_1_code 73 = .ok (.dcmp .g, 1) := by decide +kernel
theorem d1_74 : decode prog_5_method_1_code 74 = .ok (.ifCond .le 25, 3) := by decide +kernel
theorem d1_77 : decode prog_5_method_1_code 77 = .ok (.new 13, 3) := by decide +kernel
theorem d1_80 : decode prog_5_method_1_code 80 = .ok (.dup, 1) := by decide +kernel
theorem d1_81 : decode prog_5_method_1_code 81 = .ok (.dload_n 1, 1) := by decide +kernel
theorem d1_82 : decode prog_5_method_1_code 82 = .ok (.dload_n 3, 1) := by decide +kernel
theorem d1_83 : decode prog_5_method_1_code 83 = .ok (.dload 5, 2) := by decide +kernel
theorem d1_85 : decode prog_5_method_1_code 85 = .ok (.dload 7, 2) := by decide +kernel
theorem d1_87 : decode prog_5_method_1_code 87 = .ok (.invokestatic 15, 3) := by decide +kernel
theorem d1_95 : decode prog_5_method_1_code 95 = .ok (.invokespecial 25, 3) := by decide +kernel
theorem d1_98 : decode prog_5_method_1_code 98 = .ok (.athrow, 1) := by decide +kernel
theorem d1_99 : decode prog_5_method_1_code 99 = .ok (.aload_n 0, 1) := by decide +kernel
theorem d1_100 : decode prog_5_method_1_code 100 = .ok (.dload_n 1, 1) := by decide +kernel
theorem d1_101 : decode prog_5_method_1_code 101 = .ok (.putfield 29, 3) := by decide +kernel
theorem d1_104 : decode prog_5_method_1_code 104 = .ok (.aload_n 0, 1) := by decide +kernel
theorem d1_105 : decode prog_5_method_1_code 105 = .ok (.dload_n 3, 1) := by decide +kernel
theorem d1_106 : decode prog_5_method_1_code 106 = .ok (.putfield 33, 3) := by decide +kernel
theorem d1_109 : decode prog_5_method_1_code 109 = .ok (.aload_n 0, 1) := by decide +kernel
theorem d1_110 : decode prog_5_method_1_code 110 = .ok (.dload 5, 2) := by decide +kernel
theorem d1_112 : decode prog_5_method_1_code 112 = .ok (.putfield 36, 3) := by decide +kernel
theorem d1_115 : decode prog_5_method_1_code 115 = .ok (.aload_n 0, 1) := by decide +kernel
theorem d1_116 : decode prog_5_method_1_code 116 = .ok (.dload 7, 2) := by decide +kernel
theorem d1_118 : decode prog_5_method_1_code 118 = .ok (.putfield 39, 3) := by decide +kernel
theorem d1_121 : decode prog_5_method_1_code 121 = .ok (.return_, 1) := by decide +kernel
def own_K1 : List (Nat × Value) := [(74, .double 4611686018427387904)]
theorem own_K1_ok : ∀ q ∈ own_K1, ∃ w ∈ tables_1, own_Word "com/example/hazeline/hazeline/fuzzy/Trapezoid" q.1 q.2 w := by
  intro q hq
  simp only [own_K1, List.mem_cons, List.not_mem_nil, or_false] at hq
  rcases hq with rfl
  · exact ⟨_, List.mem_of_getElem? (i := 40) rfl, rfl⟩
theorem own_pn1 : plainName "com/example/hazeline/hazeline/fuzzy/Trapezoid" = true := by first | (simp [plainName, overriddenIn]; done) | decide +kernel
theorem d3_0 : decode jdk_117_method_8_code 0 = .ok (.dload_n 0, 1) := by decide +kernel
theorem d3_1 : decode jdk_117_method_8_code 1 = .ok (.invokestatic 38, 3) := by decide +kernel
theorem d3_4 : decode jdk_117_method_8_code 4 = .ok (.ldc2_w 111, 3) := by decide +kernel
theorem d3_7 : decode jdk_117_method_8_code 7 = .ok (.dcmp .g, 1) := by decide +kernel
theorem d3_8 : decode jdk_117_method_8_code 8 = .ok (.ifCond .gt 7, 3) := by decide +kernel
theorem d3_11 : decode jdk_117_method_8_code 11 = .ok (.iconst 1, 1) := by decide +kernel
theorem d3_12 : decode jdk_117_method_8_code 12 = .ok (.goto 4, 3) := by decide +kernel
theorem d3_15 : decode jdk_117_method_8_code 15 = .ok (.iconst 0, 1) := by decide +kernel
theorem d3_16 : decode jdk_117_method_8_code 16 = .ok (.ireturn, 1) := by decide +kernel
def own_K3 : List (Nat × Value) := [(111, .double 9218868437227405311)]
theorem own_K3_ok : ∀ q ∈ own_K3, ∃ w ∈ tables_1, own_Word "java/lang/Double" q.1 q.2 w := by
  intro q hq
  simp only [own_K3, List.mem_cons, List.not_mem_nil, or_false] at hq
  rcases hq with rfl
  · exact ⟨_, List.mem_of_getElem? (i := 19) rfl, rfl⟩
theorem own_pn3 : plainName "java/lang/Double" = true := by first | (simp [plainName, overriddenIn]; done) | decide +kernel
theorem d5_0 : decode prog_5_method_11_code 0 = .ok (.aload_n 0, 1) := by decide +kernel
theorem d5_1 : decode prog_5_method_11_code 1 = .ok (.getfield 29, 3) := by decide +kernel
theorem d5_4 : decode prog_5_method_11_code 4 = .ok (.aload_n 0, 1) := by decide +kernel
theorem d5_5 : decode prog_5_method_11_code 5 = .ok (.getfield 39, 3) := by decide +kernel
theorem d5_8 : decode prog_5_method_11_code 8 = .ok (.dcmp .l, 1) := by decide +kernel
theorem d5_9 : decode prog_5_method_11_code 9 = .ok (.ifCond .ne 18, 3) := by decide +kernel
theorem d5_12 : decode prog_5_method_11_code 12 = .ok (.aload_n 0, 1) := by decide +kernel
theorem d5_13 : decode prog_5_method_11_code 13 = .ok (.getfield 29, 3) := by decide +kernel
theorem d5_16 : decode prog_5_method_11_code 16 = .ok (.dload_n 1, 1) := by decide +kernel
theorem d5_17 : decode prog_5_method_11_code 17 = .ok (.dcmp .l, 1) := by decide +kernel
theorem d5_18 : decode prog_5_method_11_code 18 = .ok (.ifCond .le 7, 3) := by decide +kernel
theorem d5_21 : decode prog_5_method_11_code 21 = .ok (.dconst 1, 1) := by decide +kernel
theorem d5_22 : decode prog_5_method_11_code 22 = .ok (.goto 4, 3) := by decide +kernel
theorem d5_25 : decode prog_5_method_11_code 25 = .ok (.dconst 0, 1) := by decide +kernel
theorem d5_26 : decode prog_5_method_11_code 26 = .ok (.dreturn, 1) := by decide +kernel
theorem d5_27 : decode prog_5_method_11_code 27 = .ok (.dload_n 1, 1) := by decide +kernel
theorem d5_28 : decode prog_5_method_11_code 28 = .ok (.aload_n 0, 1) := by decide +kernel
theorem d5_29 : decode prog_5_method_11_code 29 = .ok (.getfield 29, 3) := by decide +kernel
theorem d5_32 : decode prog_5_method_11_code 32 = .ok (.dcmp .g, 1) := by decide +kernel
theorem d5_33 : decode prog_5_method_11_code 33 = .ok (.ifCond .gt 5, 3) := by decide +kernel
theorem d5_36 : decode prog_5_method_11_code 36 = .ok (.dconst 1, 1) := by decide +kernel
theorem d5_37 : decode prog_5_method_11_code 37 = .ok (.dreturn, 1) := by decide +kernel
theorem d5_38 : decode prog_5_method_11_code 38 = .ok (.dload_n 1, 1) := by decide +kernel
theorem d5_39 : decode prog_5_method_11_code 39 = .ok (.aload_n 0, 1) := by decide +kernel
theorem d5_40 : decode prog_5_method_11_code 40 = .ok (.getfield 39, 3) := by decide +kernel
theorem d5_43 : decode prog_5_method_11_code 43 = .ok (.dcmp .l, 1) := by decide +kernel
theorem d5_44 : decode prog_5_method_11_code 44 = .ok (.ifCond .lt 5, 3) := by decide +kernel
theorem d5_47 : decode prog_5_method_11_code 47 = .ok (.dconst 0, 1) := by decide +kernel
theorem d5_48 : decode prog_5_method_11_code 48 = .ok (.dreturn, 1) := by decide +kernel
theorem d5_49 : decode prog_5_method_11_code 49 = .ok (.aload_n 0, 1) := by decide +kernel
theorem d5_50 : decode prog_5_method_11_code 50 = .ok (.getfield 39, 3) := by decide +kernel
theorem d5_53 : decode prog_5_method_11_code 53 = .ok (.aload_n 0, 1) := by decide +kernel
theorem d5_54 : decode prog_5_method_11_code 54 = .ok (.getfield 29, 3) := by decide +kernel
theorem d5_57 : decode prog_5_method_11_code 57 = .ok (.dsub, 1) := by decide +kernel
theorem d5_58 : decode prog_5_method_11_code 58 = .ok (.aload_n 0, 1) := by decide +kernel
theorem d5_59 : decode prog_5_method_11_code 59 = .ok (.getfield 36, 3) := by decide +kernel
theorem d5_62 : decode prog_5_method_11_code 62 = .ok (.aload_n 0, 1) := by decide +kernel
theorem d5_63 : decode prog_5_method_11_code 63 = .ok (.getfield 33, 3) := by decide +kernel
theorem d5_66 : decode prog_5_method_11_code 66 = .ok (.dsub, 1) := by decide +kernel
theorem d5_67 : decode prog_5_method_11_code 67 = .ok (.dadd, 1) := by decide +kernel
theorem d5_68 : decode prog_5_method_11_code 68 = .ok (.dstore_n 3, 1) := by decide +kernel
theorem d5_69 : decode prog_5_method_11_code 69 = .ok (.dload_n 1, 1) := by decide +kernel
theorem d5_70 : decode prog_5_method_11_code 70 = .ok (.aload_n 0, 1) := by decide +kernel
theorem d5_71 : decode prog_5_method_11_code 71 = .ok (.getfield 33, 3) := by decide +kernel
theorem d5_74 : decode prog_5_method_11_code 74 = .ok (.dcmp .g, 1) := by decide +kernel
theorem d5_75 : decode prog_5_method_11_code 75 = .ok (.ifCond .ge 36, 3) := by decide +kernel
theorem d5_78 : decode prog_5_method_11_code 78 = .ok (.aload_n 0, 1) := by decide +kernel
theorem d5_79 : decode prog_5_method_11_code 79 = .ok (.getfield 33, 3) := by decide +kernel
theorem d5_82 : decode prog_5_method_11_code 82 = .ok (.aload_n 0, 1) := by decide +kernel
theorem d5_83 : decode prog_5_method_11_code 83 = .ok (.getfield 29, 3) := by decide +kernel
theorem d5_86 : decode prog_5_method_11_code 86 = .ok (.dsub, 1) := by decide +kernel
theorem d5_87 : decode prog_5_method_11_code 87 = .ok (.dload_n 3, 1) := by decide +kernel
theorem d5_88 : decode prog_5_method_11_code 88 = .ok (.dmul, 1) := by decide +kernel
theorem d5_89 : decode prog_5_method_11_code 89 = .ok (.dstore 5, 2) := by decide +kernel
theorem d5_91 : decode prog_5_method_11_code 91 = .ok (.dload 5, 2) := by decide +kernel
theorem d5_93 : decode prog_5_method_11_code 93 = .ok (.dload_n 1, 1) := by decide +kernel
theorem d5_94 : decode prog_5_method_11_code 94 = .ok (.aload_n 0, 1) := by decide +kernel
theorem d5_95 : decode prog_5_method_11_code 95 = .ok (.getfield 29, 3) := by decide +kernel
theorem d5_98 : decode prog_5_method_11_code 98 = .ok (.dsub, 1) := by decide +kernel
theorem d5_99 : decode prog_5_method_11_code 99 = .ok (.dload_n 1, 1) := by decide +kernel
theorem d5_100 : decode prog_5_method_11_code 100 = .ok (.aload_n 0, 1) := by decide +kernel
theorem d5_101 : decode prog_5_method_11_code 101 = .ok (.getfield 29, 3) := by decide +kernel
theorem d5_104 : decode prog_5_method_11_code 104 = .ok (.dsub, 1) := by decide +kernel
theorem d5_105 : decode prog_5_method_11_code 105 = .ok (.dmul, 1) := by decide +kernel
theorem d5_106 : decode prog_5_method_11_code 106 = .ok (.dsub, 1) := by decide +kernel
theorem d5_107 : decode prog_5_method_11_code 107 = .ok (.dload 5, 2) := by decide +kernel
theorem d5_109 : decode prog_5_method_11_code 109 = .ok (.ddiv, 1) := by decide +kernel
theorem d5_110 : decode prog_5_method_11_code 110 = .ok (.dreturn, 1) := by decide +kernel
theorem d5_111 : decode prog_5_method_11_code 111 = .ok (.dload_n 1, 1) := by decide +kernel
theorem d5_112 : decode prog_5_method_11_code 112 = .ok (.aload_n 0, 1) := by decide +kernel
theorem d5_113 : decode prog_5_method_11_code 113 = .ok (.getfield 36, 3) := by decide +kernel
theorem d5_116 : decode prog_5_method_11_code 116 = .ok (.dcmp .g, 1) := by decide +kernel
theorem d5_117 : decode prog_5_method_11_code 117 = .ok (.ifCond .gt 26, 3) := by decide +kernel
theorem d5_120 : decode prog_5_method_11_code 120 = .ok (.ldc2_w 74, 3) := by decide +kernel
theorem d5_123 : decode prog_5_method_11_code 123 = .ok (.aload_n 0, 1) := by decide +kernel
theorem d5_124 : decode prog_5_method_11_code 124 = .ok (.getfield 36, 3) := by decide +kernel
theorem d5_127 : decode prog_5_method_11_code 127 = .ok (.dload_n 1, 1) := by decide +kernel
theorem d5_128 : decode prog_5_method_11_code 128 = .ok (.dsub, 1) := by decide +kernel
theorem d5_129 : decode prog_5_method_11_code 129 = .ok (.dmul, 1) := by decide +kernel
theorem d5_130 : decode prog_5_method_11_code 130 = .ok (.aload_n 0, 1) := by decide +kernel
theorem d5_131 : decode prog_5_method_11_code 131 = .ok (.getfield 39, 3) := by decide +kernel
theorem d5_134 : decode prog_5_method_11_code 134 = .ok (.aload_n 0, 1) := by decide +kernel
theorem d5_135 : decode prog_5_method_11_code 135 = .ok (.getfield 36, 3) := by decide +kernel
theorem d5_138 : decode prog_5_method_11_code 138 = .ok (.dsub, 1) := by decide +kernel
theorem d5_139 : decode prog_5_method_11_code 139 = .ok (.dadd, 1) := by decide +kernel
theorem d5_140 : decode prog_5_method_11_code 140 = .ok (.dload_n 3, 1) := by decide +kernel
theorem d5_141 : decode prog_5_method_11_code 141 = .ok (.ddiv, 1) := by decide +kernel
theorem d5_142 : decode prog_5_method_11_code 142 = .ok (.dreturn, 1) := by decide +kernel
theorem d5_143 : decode prog_5_method_11_code 143 = .ok (.aload_n 0, 1) := by decide +kernel
theorem d5_144 : decode prog_5_method_11_code 144 = .ok (.getfield 39, 3) := by decide +kernel
theorem d5_147 : decode prog_5_method_11_code 147 = .ok (.dload_n 1, 1) := by decide +kernel
theorem d5_148 : decode prog_5_method_11_code 148 = .ok (.dsub, 1) := by decide +kernel
theorem d5_149 : decode prog_5_method_11_code 149 = .ok (.aload_n 0, 1) := by decide +kernel
theorem d5_150 : decode prog_5_method_11_code 150 = .ok (.getfield 39, 3) := by decide +kernel
theorem d5_153 : decode prog_5_method_11_code 153 = .ok (.dload_n 1, 1) := by decide +kernel
theorem d5_154 : decode prog_5_method_11_code 154 = .ok (.dsub, 1) := by decide +kernel
theorem d5_155 : decode prog_5_method_11_code 155 = .ok (.dmul, 1) := by decide +kernel
theorem d5_156 : decode prog_5_method_11_code 156 = .ok (.aload_n 0, 1) := by decide +kernel
theorem d5_157 : decode prog_5_method_11_code 157 = .ok (.getfield 39, 3) := by decide +kernel
theorem d5_160 : decode prog_5_method_11_code 160 = .ok (.aload_n 0, 1) := by decide +kernel
theorem d5_161 : decode prog_5_method_11_code 161 = .ok (.getfield 36, 3) := by decide +kernel
theorem d5_164 : decode prog_5_method_11_code 164 = .ok (.dsub, 1) := by decide +kernel
theorem d5_165 : decode prog_5_method_11_code 165 = .ok (.dload_n 3, 1) := by decide +kernel
theorem d5_166 : decode prog_5_method_11_code 166 = .ok (.dmul, 1) := by decide +kernel
theorem d5_167 : decode prog_5_method_11_code 167 = .ok (.ddiv, 1) := by decide +kernel
theorem d5_168 : decode prog_5_method_11_code 168 = .ok (.dreturn, 1) := by decide +kernel
def own_K5 : List (Nat × Value) := [(74, .double 4611686018427387904)]
theorem own_K5_ok : ∀ q ∈ own_K5, ∃ w ∈ tables_1, own_Word "com/example/hazeline/hazeline/fuzzy/Trapezoid" q.1 q.2 w := by
  intro q hq
  simp only [own_K5, List.mem_cons, List.not_mem_nil, or_false] at hq
  rcases hq with rfl
  · exact ⟨_, List.mem_of_getElem? (i := 40) rfl, rfl⟩
theorem own_pn5 : plainName "com/example/hazeline/hazeline/fuzzy/Trapezoid" = true := by first | (simp [plainName, overriddenIn]; done) | decide +kernel
theorem d6_0 : decode method_3_code 0 = .ok (.lload_n 0, 1) := by decide +kernel
theorem d6_1 : decode method_3_code 1 = .ok (.lload_n 2, 1) := by decide +kernel
theorem d6_2 : decode method_3_code 2 = .ok (.ladd, 1) := by decide +kernel
theorem d6_3 : decode method_3_code 3 = .ok (.lload 4, 2) := by decide +kernel
theorem d6_5 : decode method_3_code 5 = .ok (.ladd, 1) := by decide +kernel
theorem d6_6 : decode method_3_code 6 = .ok (.lstore 8, 2) := by decide +kernel
theorem d6_8 : decode method_3_code 8 = .ok (.lload 8, 2) := by decide +kernel
theorem d6_10 : decode method_3_code 10 = .ok (.lconst 0, 1) := by decide +kernel
theorem d6_11 : decode method_3_code 11 = .ok (.lcmp, 1) := by decide +kernel
theorem d6_12 : decode method_3_code 12 = .ok (.ifCond .ne 16, 3) := by decide +kernel
theorem d6_15 : decode method_3_code 15 = .ok (.lload 6, 2) := by decide +kernel
theorem d6_17 : decode method_3_code 17 = .ok (.lconst 0, 1) := by decide +kernel
theorem d6_18 : decode method_3_code 18 = .ok (.lcmp, 1) := by decide +kernel
theorem d6_19 : decode method_3_code 19 = .ok (.ifCond .ge 7, 3) := by decide +kernel
theorem d6_22 : decode method_3_code 22 = .ok (.dconst 1, 1) := by decide +kernel
theorem d6_23 : decode method_3_code 23 = .ok (.goto 4, 3) := by decide +kernel
theorem d6_26 : decode method_3_code 26 = .ok (.dconst 0, 1) := by decide +kernel
theorem d6_27 : decode method_3_code 27 = .ok (.dreturn, 1) := by decide +kernel
theorem d6_28 : decode method_3_code 28 = .ok (.lload 6, 2) := by decide +kernel
theorem d6_30 : decode method_3_code 30 = .ok (.lconst 0, 1) := by decide +kernel
theorem d6_31 : decode method_3_code 31 = .ok (.lcmp, 1) := by decide +kernel
theorem d6_32 : decode method_3_code 32 = .ok (.ifCond .gt 5, 3) := by decide +kernel
theorem d6_35 : decode method_3_code 35 = .ok (.dconst 1, 1) := by decide +kernel
theorem d6_36 : decode method_3_code 36 = .ok (.dreturn, 1) := by decide +kernel
theorem d6_37 : decode method_3_code 37 = .ok (.lload 6, 2) := by decide +kernel
theorem d6_39 : decode method_3_code 39 = .ok (.lload 8, 2) := by decide +kernel
theorem d6_41 : decode method_3_code 41 = .ok (.lcmp, 1) := by decide +kernel
theorem d6_42 : decode method_3_code 42 = .ok (.ifCond .lt 5, 3) := by decide +kernel
theorem d6_45 : decode method_3_code 45 = .ok (.dconst 0, 1) := by decide +kernel
theorem d6_46 : decode method_3_code 46 = .ok (.dreturn, 1) := by decide +kernel
theorem d6_47 : decode method_3_code 47 = .ok (.lload_n 0, 1) := by decide +kernel
theorem d6_48 : decode method_3_code 48 = .ok (.ldc2_w 8, 3) := by decide +kernel
theorem d6_51 : decode method_3_code 51 = .ok (.lload_n 2, 1) := by decide +kernel
theorem d6_52 : decode method_3_code 52 = .ok (.lmul, 1) := by decide +kernel
theorem d6_53 : decode method_3_code 53 = .ok (.ladd, 1) := by decide +kernel
theorem d6_54 : decode method_3_code 54 = .ok (.lload 4, 2) := by decide +kernel
theorem d6_56 : decode method_3_code 56 = .ok (.ladd, 1) := by decide +kernel
theorem d6_57 : decode method_3_code 57 = .ok (.lstore 10, 2) := by decide +kernel
theorem d6_59 : decode method_3_code 59 = .ok (.lload_n 0, 1) := by decide +kernel
theorem d6_60 : decode method_3_code 60 = .ok (.lconst 1, 1) := by decide +kernel
theorem d6_61 : decode method_3_code 61 = .ok (.invokestatic 25, 3) := by decide +kernel
theorem d6_64 : decode method_3_code 64 = .ok (.lstore 12, 2) := by decide +kernel
theorem d6_66 : decode method_3_code 66 = .ok (.lload 4, 2) := by decide +kernel
theorem d6_68 : decode method_3_code 68 = .ok (.lconst 1, 1) := by decide +kernel
theorem d6_69 : decode method_3_code 69 = .ok (.invokestatic 25, 3) := by decide +kernel
theorem d6_72 : decode method_3_code 72 = .ok (.lstore 14, 2) := by decide +kernel
theorem d6_74 : decode method_3_code 74 = .ok (.lload 10, 2) := by decide +kernel
theorem d6_76 : decode method_3_code 76 = .ok (.lload 12, 2) := by decide +kernel
theorem d6_78 : decode method_3_code 78 = .ok (.lmul, 1) := by decide +kernel
theorem d6_79 : decode method_3_code 79 = .ok (.lload 14, 2) := by decide +kernel
theorem d6_81 : decode method_3_code 81 = .ok (.lmul, 1) := by decide +kernel
theorem d6_82 : decode method_3_code 82 = .ok (.lstore 16, 2) := by decide +kernel
theorem d6_84 : decode method_3_code 84 = .ok (.lload 6, 2) := by decide +kernel
theorem d6_86 : decode method_3_code 86 = .ok (.lload_n 0, 1) := by decide +kernel
theorem d6_87 : decode method_3_code 87 = .ok (.lcmp, 1) := by decide +kernel
theorem d6_88 : decode method_3_code 88 = .ok (.ifCond .gt 16, 3) := by decide +kernel
theorem d6_91 : decode method_3_code 91 = .ok (.lload 6, 2) := by decide +kernel
theorem d6_93 : decode method_3_code 93 = .ok (.lload 6, 2) := by decide +kernel
theorem d6_95 : decode method_3_code 95 = .ok (.lmul, 1) := by decide +kernel
theorem d6_96 : decode method_3_code 96 = .ok (.lload 14, 2) := by decide +kernel
theorem d6_98 : decode method_3_code 98 = .ok (.lmul, 1) := by decide +kernel
theorem d6_99 : decode method_3_code 99 = .ok (.lstore 18, 2) := by decide +kernel
theorem d6_101 : decode method_3_code 101 = .ok (.goto 53, 3) := by decide +kernel
theorem d6_104 : decode method_3_code 104 = .ok (.lload 6, 2) := by decide +kernel
theorem d6_106 : decode method_3_code 106 = .ok (.lload_n 0, 1) := by decide +kernel
theorem d6_107 : decode method_3_code 107 = .ok (.lload_n 2, 1) := by decide +kernel
theorem d6_108 : decode method_3_code 108 = .ok (.ladd, 1) := by decide +kernel
theorem d6_109 : decode method_3_code 109 = .ok (.lcmp, 1) := by decide +kernel
theorem d6_110 : decode method_3_code 110 = .ok (.ifCond .gt 24, 3) := by decide +kernel
theorem d6_113 : decode method_3_code 113 = .ok (.lload_n 0, 1) := by decide +kernel
theorem d6_114 : decode method_3_code 114 = .ok (.ldc2_w 8, 3) := by decide +kernel
theorem d6_117 : decode method_3_code 117 = .ok (.lload 6, 2) := by decide +kernel
theorem d6_119 : decode method_3_code 119 = .ok (.lload_n 0, 1) := by decide +kernel
theorem d6_120 : decode method_3_code 120 = .ok (.lsub, 1) := by decide +kernel
theorem d6_121 : decode method_3_code 121 = .ok (.lmul, 1) := by decide +kernel
theorem d6_122 : decode method_3_code 122 = .ok (.ladd, 1) := by decide +kernel
theorem d6_123 : decode method_3_code 123 = .ok (.lload 12, 2) := by decide +kernel
theorem d6_125 : decode method_3_code 125 = .ok (.lmul, 1) := by decide +kernel
theorem d6_126 : decode method_3_code 126 = .ok (.lload 14, 2) := by decide +kernel
theorem d6_128 : decode method_3_code 128 = .ok (.lmul, 1) := by decide +kernel
theorem d6_129 : decode method_3_code 129 = .ok (.lstore 18, 2) := by decide +kernel
theorem d6_131 : decode method_3_code 131 = .ok (.goto 23, 3) := by decide +kernel
theorem d6_134 : decode method_3_code 134 = .ok (.lload 8, 2) := by decide +kernel
theorem d6_136 : decode method_3_code 136 = .ok (.lload 6, 2) := by decide +kernel
theorem d6_138 : decode method_3_code 138 = .ok (.lsub, 1) := by decide +kernel
theorem d6_139 : decode method_3_code 139 = .ok (.lstore 20, 2) := by decide +kernel
theorem d6_141 : decode method_3_code 141 = .ok (.lload 16, 2) := by decide +kernel
theorem d6_143 : decode method_3_code 143 = .ok (.lload 20, 2) := by decide +kernel
theorem d6_145 : decode method_3_code 145 = .ok (.lload 20, 2) := by decide +kernel
theorem d6_147 : decode method_3_code 147 = .ok (.lmul, 1) := by decide +kernel
theorem d6_148 : decode method_3_code 148 = .ok (.lload 12, 2) := by decide +kernel
theorem d6_150 : decode method_3_code 150 = .ok (.lmul, 1) := by decide +kernel
theorem d6_151 : decode method_3_code 151 = .ok (.lsub, 1) := by decide +kernel
theorem d6_152 : decode method_3_code 152 = .ok (.lstore 18, 2) := by decide +kernel
theorem d6_154 : decode method_3_code 154 = .ok (.lload 16, 2) := by decide +kernel
theorem d6_156 : decode method_3_code 156 = .ok (.lload 18, 2) := by decide +kernel
theorem d6_158 : decode method_3_code 158 = .ok (.lsub, 1) := by decide +kernel
theorem d6_159 : decode method_3_code 159 = .ok (.l2d, 1) := by decide +kernel
theorem d6_160 : decode method_3_code 160 = .ok (.lload 16, 2) := by decide +kernel
theorem d6_162 : decode method_3_code 162 = .ok (.l2d, 1) := by decide +kernel
theorem d6_163 : decode method_3_code 163 = .ok (.ddiv, 1) := by decide +kernel
theorem d6_164 : decode method_3_code 164 = .ok (.dreturn, 1) := by decide +kernel
def own_K6 : List (Nat × Value) := [(7, .int 65535), (8, .long 2)]
theorem own_K6_ok : ∀ q ∈ own_K6, ∃ w ∈ tables_1, own_Word "com/example/hazeline/hazeline/fuzzy/TrapezoidPreferenceRatioPinLaw" q.1 q.2 w := by
  intro q hq
  simp only [own_K6, List.mem_cons, List.not_mem_nil, or_false] at hq
  rcases hq with rfl | rfl
  · exact ⟨_, List.mem_of_getElem? (i := 0) rfl, rfl⟩
  · exact ⟨_, List.mem_of_getElem? (i := 1) rfl, rfl⟩
theorem own_pn6 : plainName "com/example/hazeline/hazeline/fuzzy/TrapezoidPreferenceRatioPinLaw" = true := by first | (simp [plainName, overriddenIn]; done) | decide +kernel
theorem own_pd0 : parseMethodDescriptor "()V" = some ⟨[], none⟩ := by decide +kernel
theorem own_pd1 : parseMethodDescriptor "(D)D" = some ⟨[.double], some .double⟩ := by decide +kernel
theorem own_pd2 : parseMethodDescriptor "(D)Z" = some ⟨[.double], some .boolean⟩ := by decide +kernel
theorem own_pd3 : parseMethodDescriptor "(DDDD)V" = some ⟨[.double, .double, .double, .double], none⟩ := by decide +kernel
theorem own_pd4 : parseMethodDescriptor "(JJ)J" = some ⟨[.long, .long], some .long⟩ := by decide +kernel
theorem own_pd5 : parseMethodDescriptor "(JJJJ)D" = some ⟨[.long, .long, .long, .long], some .double⟩ := by decide +kernel
theorem d7_0 : decode jdk_29_method_66_code 0 = .ok (.lload_n 0, 1) := by decide +kernel
theorem d7_1 : decode jdk_29_method_66_code 1 = .ok (.lload_n 2, 1) := by decide +kernel
theorem d7_2 : decode jdk_29_method_66_code 2 = .ok (.lcmp, 1) := by decide +kernel
theorem d7_3 : decode jdk_29_method_66_code 3 = .ok (.ifCond .lt 7, 3) := by decide +kernel
theorem d7_6 : decode jdk_29_method_66_code 6 = .ok (.lload_n 0, 1) := by decide +kernel
theorem d7_7 : decode jdk_29_method_66_code 7 = .ok (.goto 4, 3) := by decide +kernel
theorem d7_10 : decode jdk_29_method_66_code 10 = .ok (.lload_n 2, 1) := by decide +kernel
theorem d7_11 : decode jdk_29_method_66_code 11 = .ok (.lreturn, 1) := by decide +kernel
def own_K7 : List (Nat × Value) := []
theorem own_K7_ok : ∀ q ∈ own_K7, ∃ w ∈ tables_1, own_Word "java/lang/Math" q.1 q.2 w := by
  intro q hq
  exact absurd hq (List.not_mem_nil)
theorem own_ef3 (m : MethodId) (x0 : UInt64) : entryFrame m #[(.double x0)] 2 = mkF m 0 #[.val (.double x0), .second] [] := by first | (simp [entryFrame, mkF, argsToLocals, Value.category]; done) | rfl

theorem own_maxv {v : UInt64} (h : Jvm.Free.Fl.Fin64 v) : ifCond.holds .gt (cmpValue (FP.dcmp (v &&& 0x7fffffffffffffff) (9218868437227405311 : UInt64)) .g) = false := by
  have h1 : FP.Core.DFin v := Jvm.Free.Fl.fin64_core.mp h
  rcases (FP.Core.le_max h1.notNaN).mpr h1 with q | q
  · rw [show FP.dcmp (v &&& 0x7fffffffffffffff) (9218868437227405311 : UInt64) = some .lt from q]; rfl
  · rw [show FP.dcmp (v &&& 0x7fffffffffffffff) (9218868437227405311 : UInt64) = some .eq from q]; rfl
theorem own_if0 (v : UInt64) :
    own_Go own_K3 jdk_117_method_8_code 0 #[.val (.double v), .second] [] 1 #[.val (.double v), .second] [(.double v)] := by
  refine own_dloadN (pc2 := 1) d3_0 rfl rfl ?_
  exact own_refl
theorem own_if1 (v : UInt64) (v7 : Int32) (hv7 : (cmpValue (FP.dcmp (v &&& 0x7fffffffffffffff) (9218868437227405311 : UInt64)) .g) = v7) (hb8 : ifCond.holds .gt v7 = false) :
    own_Go own_K3 jdk_117_method_8_code 4 #[.val (.double v), .second] [(.double (v &&& 0x7fffffffffffffff))] 16 #[.val (.double v), .second] [(.int (1 : Int32))] := by
  refine own_ldc2D (v := (9218868437227405311 : UInt64)) (pc2 := 7) d3_4 rfl (List.mem_of_getElem? (i := 0) rfl) ?_
  refine own_dcmp (pc2 := 8) d3_7 rfl (v := v7) hv7 ?_
  refine own_ifNo (pc2 := 11) d3_8 rfl hb8 ?_
  refine own_iconst (v := 1) (pc2 := 12) d3_11 rfl rfl ?_
  refine own_goto (pc' := 16) d3_12 (by decide) (by decide) ?_
  exact own_refl
set_option maxRecDepth 65536 in
set_option maxHeartbeats 4000000 in
theorem own_isfin (l : Launch) (Z : State) (a0 : Array Value) (hb0 : Heap) (hw : ∀ d ∈ tables_1, d.before a0 Z = true) (v : UInt64) (hf : Jvm.Free.Fl.Fin64 v) (cs : List (Addr × own_Cel)) :
    own_Met l Z a0 hb0 (⟨"java/lang/Double", "isFinite", "(D)Z"⟩ : MethodName) jdk_117_method_8_code 2 (some .boolean) [] ({ frames := 1, cells := 0, slots := 0, locals := 13 } : Room) #[(.double v)] cs (fun r cs' => r = some (.int 1) ∧ cs' = cs) := by
  refine own_met_of (L0 := #[.val (.double v), .second]) (plainFor_of_name own_pn3) (fun m => own_ef3 m v) ?_
  have hn := hf.noNaN
  intro p e s m below meth c T0 hx hZ hown hby hml hnm H0
  obtain ⟨Tif1, Hif1, stif1⟩ := own_absD H0 hx hZ hown (hw _ (List.mem_of_getElem? (i := 15) rfl)) (hw _ (List.mem_of_getElem? (i := 16) rfl)) (hw _ (List.mem_of_getElem? (i := 17) rfl)) (hw _ (List.mem_of_getElem? (i := 18) rfl)) hn (W := 0) (rest := []) (by decide) (by decide) (by decide) (by decide) (g := (mkF m 1 #[.val (.double v), .second] [(.double v)])) rfl (by rw [hml]; rfl) rfl (by show 2 * 0 + _ ≤ _; exact Nat.le_of_eq rfl) (hb hby d3_1)
  obtain ⟨v7, hv7⟩ : ∃ z : Int32, (cmpValue (FP.dcmp (v &&& 0x7fffffffffffffff) (9218868437227405311 : UInt64)) .g) = z := ⟨_, rfl⟩
  have hb8 : ifCond.holds .gt v7 = false := by rw [← hv7]; exact own_maxv hf
  refine ⟨_, _, _, _, 16, #[.val (.double v), .second], Hif1, by decide, by decide, Or.inr ⟨.boolean, (.int (1 : Int32)), [], .ireturn, rfl, ⟨rfl, rfl⟩, d3_16, own_retZ (Or.inr rfl), fun target q => ?_⟩⟩
  refine own_go H0 hx hZ hown hby hw own_K3_ok (own_if0 v) _ ?_
  refine stif1 _ ?_
  refine own_go Hif1 hx hZ hown hby hw own_K3_ok (own_if1 v v7 hv7 hb8) _ ?_
  exact q
theorem own_ef1 (m : MethodId) (x0 : Addr) (x1 : UInt64) (x2 : UInt64) (x3 : UInt64) (x4 : UInt64) : entryFrame m #[(.ref x0), (.double x1), (.double x2), (.double x3), (.double x4)] 9 = mkF m 0 #[.val (.ref x0), .val (.double x1), .second, .val (.double x2), .second, .val (.double x3), .second, .val (.double x4), .second] [] := by first | (simp [entryFrame, mkF, argsToLocals, Value.category]; done) | rfl
theorem own_ta0 (x : Addr) (ta : UInt64) (tb : UInt64) (tc : UInt64) (td : UInt64) :
    own_Go own_K1 prog_5_method_1_code 0 #[.val (.ref x), .val (.double ta), .second, .val (.double tb), .second, .val (.double tc), .second, .val (.double td), .second] [] 1 #[.val (.ref x), .val (.double ta), .second, .val (.double tb), .second, .val (.double tc), .second, .val (.double td), .second] [(.ref x)] := by
  refine own_aloadN (pc2 := 1) d1_0 rfl rfl rfl ?_
  exact own_refl
theorem own_ta1 (x : Addr) (ta : UInt64) (tb : UInt64) (tc : UInt64) (td : UInt64) :
    own_Go own_K1 prog_5_method_1_code 4 #[.val (.ref x), .val (.double ta), .second, .val (.double tb), .second, .val (.double tc), .second, .val (.double td), .second] [] 5 #[.val (.ref x), .val (.double ta), .second, .val (.double tb), .second, .val (.double tc), .second, .val (.double td), .second] [(.double ta)] := by
  refine own_dloadN (pc2 := 5) d1_4 rfl rfl ?_
  exact own_refl
theorem own_ta2 (x : Addr) (ta : UInt64) (tb : UInt64) (tc : UInt64) (td : UInt64) (hb8 : ifCond.holds .eq (1 : Int32) = false) :
    own_Go own_K1 prog_5_method_1_code 8 #[.val (.ref x), .val (.double ta), .second, .val (.double tb), .second, .val (.double tc), .second, .val (.double td), .second] [(.int (1 : Int32))] 12 #[.val (.ref x), .val (.double ta), .second, .val (.double tb), .second, .val (.double tc), .second, .val (.double td), .second] [(.double tb)] := by
  refine own_ifNo (pc2 := 11) d1_8 rfl hb8 ?_
  refine own_dloadN (pc2 := 12) d1_11 rfl rfl ?_
  exact own_refl
theorem own_ta3 (x : Addr) (ta : UInt64) (tb : UInt64) (tc : UInt64) (td : UInt64) (hb15 : ifCond.holds .eq (1 : Int32) = false) :
    own_Go own_K1 prog_5_method_1_code 15 #[.val (.ref x), .val (.double ta), .second, .val (.double tb), .second, .val (.double tc), .second, .val (.double td), .second] [(.int (1 : Int32))] 20 #[.val (.ref x), .val (.double ta), .second, .val (.double tb), .second, .val (.double tc), .second, .val (.double td), .second] [(.double tc)] := by
  refine own_ifNo (pc2 := 18) d1_15 rfl hb15 ?_
  refine own_dload (pc2 := 20) d1_18 rfl rfl ?_
  exact own_refl
theorem own_ta4 (x : Addr) (ta : UInt64) (tb : UInt64) (tc : UInt64) (td : UInt64) (hb23 : ifCond.holds .eq (1 : Int32) = false) :
    own_Go own_K1 prog_5_method_1_code 23 #[.val (.ref x), .val (.double ta), .second, .val (.double tb), .second, .val (.double tc), .second, .val (.double td), .second] [(.int (1 : Int32))] 28 #[.val (.ref x), .val (.double ta), .second, .val (.double tb), .second, .val (.double tc), .second, .val (.double td), .second] [(.double td)] := by
  refine own_ifNo (pc2 := 26) d1_23 rfl hb23 ?_
  refine own_dload (pc2 := 28) d1_26 rfl rfl ?_
  exact own_refl
theorem own_ta5 (x : Addr) (ta : UInt64) (tb : UInt64) (tc : UInt64) (td : UInt64) (hb31 : ifCond.holds .ne (1 : Int32) = true) (v58 : Int32) (hv58 : (cmpValue (FP.dcmp ta tb) .g) = v58) (hb59 : ifCond.holds .gt v58 = false) (v65 : Int32) (hv65 : (cmpValue (FP.dcmp tb tc) .g) = v65) (hb66 : ifCond.holds .gt v65 = false) (v73 : Int32) (hv73 : (cmpValue (FP.dcmp tc td) .g) = v73) (hb74 : ifCond.holds .le v73 = true) :
    own_Go own_K1 prog_5_method_1_code 31 #[.val (.ref x), .val (.double ta), .second, .val (.double tb), .second, .val (.double tc), .second, .val (.double td), .second] [(.int (1 : Int32))] 101 #[.val (.ref x), .val (.double ta), .second, .val (.double tb), .second, .val (.double tc), .second, .val (.double td), .second] [(.double ta), (.ref x)] := by
  refine own_ifYes (pc' := 56) d1_31 hb31 (by decide) (by decide) ?_
  refine own_dloadN (pc2 := 57) d1_56 rfl rfl ?_
  refine own_dloadN (pc2 := 58) d1_57 rfl rfl ?_
  refine own_dcmp (pc2 := 59) d1_58 rfl (v := v58) hv58 ?_
  refine own_ifNo (pc2 := 62) d1_59 rfl hb59 ?_
  refine own_dloadN (pc2 := 63) d1_62 rfl rfl ?_
  refine own_dload (pc2 := 65) d1_63 rfl rfl ?_
  refine own_dcmp (pc2 := 66) d1_65 rfl (v := v65) hv65 ?_
  refine own_ifNo (pc2 := 69) d1_66 rfl hb66 ?_
  refine own_dload (pc2 := 71) d1_69 rfl rfl ?_
  refine own_dload (pc2 := 73) d1_71 rfl rfl ?_
  refine own_dcmp (pc2 := 74) d1_73 rfl (v := v73) hv73 ?_
  refine own_ifYes (pc' := 99) d1_74 hb74 (by decide) (by decide) ?_
  refine own_aloadN (pc2 := 100) d1_99 rfl rfl rfl ?_
  refine own_dloadN (pc2 := 101) d1_100 rfl rfl ?_
  exact own_refl
theorem own_ta6 (x : Addr) (ta : UInt64) (tb : UInt64) (tc : UInt64) (td : UInt64) :
    own_Go own_K1 prog_5_method_1_code 104 #[.val (.ref x), .val (.double ta), .second, .val (.double tb), .second, .val (.double tc), .second, .val (.double td), .second] [] 106 #[.val (.ref x), .val (.double ta), .second, .val (.double tb), .second, .val (.double tc), .second, .val (.double td), .second] [(.double tb), (.ref x)] := by
  refine own_aloadN (pc2 := 105) d1_104 rfl rfl rfl ?_
  refine own_dloadN (pc2 := 106) d1_105 rfl rfl ?_
  exact own_refl
theorem own_ta7 (x : Addr) (ta : UInt64) (tb : UInt64) (tc : UInt64) (td : UInt64) :
    own_Go own_K1 prog_5_method_1_code 109 #[.val (.ref x), .val (.double ta), .second, .val (.double tb), .second, .val (.double tc), .second, .val (.double td), .second] [] 112 #[.val (.ref x), .val (.double ta), .second, .val (.double tb), .second, .val (.double tc), .second, .val (.double td), .second] [(.double tc), (.ref x)] := by
  refine own_aloadN (pc2 := 110) d1_109 rfl rfl rfl ?_
  refine own_dload (pc2 := 112) d1_110 rfl rfl ?_
  exact own_refl
theorem own_ta8 (x : Addr) (ta : UInt64) (tb : UInt64) (tc : UInt64) (td : UInt64) :
    own_Go own_K1 prog_5_method_1_code 115 #[.val (.ref x), .val (.double ta), .second, .val (.double tb), .second, .val (.double tc), .second, .val (.double td), .second] [] 118 #[.val (.ref x), .val (.double ta), .second, .val (.double tb), .second, .val (.double tc), .second, .val (.double td), .second] [(.double td), (.ref x)] := by
  refine own_aloadN (pc2 := 116) d1_115 rfl rfl rfl ?_
  refine own_dload (pc2 := 118) d1_116 rfl rfl ?_
  exact own_refl
set_option maxRecDepth 65536 in
set_option maxHeartbeats 4000000 in
theorem own_tam (l : Launch) (Z : State) (a0 : Array Value) (hb0 : Heap) (hw : ∀ d ∈ tables_1, d.before a0 Z = true) (x : Addr) (ta : UInt64) (tb : UInt64) (tc : UInt64) (td : UInt64)  (fa : Jvm.Free.Fl.Fin64 ta) (fb : Jvm.Free.Fl.Fin64 tb) (fc : Jvm.Free.Fl.Fin64 tc) (fd : Jvm.Free.Fl.Fin64 td) (h1 : ifCond.holds .gt (cmpValue (FP.dcmp ta tb) .g) = false) (h2 : ifCond.holds .gt (cmpValue (FP.dcmp tb tc) .g) = false) (h3 : ifCond.holds .le (cmpValue (FP.dcmp tc td) .g) = true) :
    own_Met l Z a0 hb0 (⟨"com/example/hazeline/hazeline/fuzzy/Trapezoid", "<init>", "(DDDD)V"⟩ : MethodName) prog_5_method_1_code 9 none [] ({ frames := 2, cells := 0, slots := 0, locals := 28 } : Room) #[(.ref x), (.double ta), (.double tb), (.double tc), (.double td)] [(x, own_O "com/example/hazeline/hazeline/fuzzy/Trapezoid" [("com/example/hazeline/hazeline/fuzzy/Trapezoid", "a", "D", .double 0), ("com/example/hazeline/hazeline/fuzzy/Trapezoid", "b", "D", .double 0), ("com/example/hazeline/hazeline/fuzzy/Trapezoid", "c", "D", .double 0), ("com/example/hazeline/hazeline/fuzzy/Trapezoid", "d", "D", .double 0)])] (fun r cs' => r = none ∧ cs' = [(x, own_O "com/example/hazeline/hazeline/fuzzy/Trapezoid" [("com/example/hazeline/hazeline/fuzzy/Trapezoid", "a", "D", .double ta), ("com/example/hazeline/hazeline/fuzzy/Trapezoid", "b", "D", .double tb), ("com/example/hazeline/hazeline/fuzzy/Trapezoid", "c", "D", .double tc), ("com/example/hazeline/hazeline/fuzzy/Trapezoid", "d", "D", .double td)])]) := by
  refine own_met_of (L0 := #[.val (.ref x), .val (.double ta), .second, .val (.double tb), .second, .val (.double tc), .second, .val (.double td), .second]) (plainFor_of_name own_pn1) (fun m => own_ef1 m x ta tb tc td) ?_
  intro p e s m below meth c T0 hx hZ hown hby hml hnm H0
  obtain ⟨Tta1, Hta1, stta1⟩ := own_initO H0 hx hZ hown (hw _ (List.mem_of_getElem? (i := 8) rfl)) (hw _ (List.mem_of_getElem? (i := 9) rfl)) (hw _ (List.mem_of_getElem? (i := 10) rfl)) (g := (mkF m 1 #[.val (.ref x), .val (.double ta), .second, .val (.double tb), .second, .val (.double tc), .second, .val (.double td), .second] [(.ref x)])) rfl (by rw [hml]; rfl) rfl (hb hby d1_1) (by decide) (W := 0) (by show 2 * 0 + _ ≤ _; exact Nat.le_of_eq rfl) (by decide)
  change own_S _ _ _ _ _ _ _ _ _ _ _ _ _ _ [(x, own_O "com/example/hazeline/hazeline/fuzzy/Trapezoid" [("com/example/hazeline/hazeline/fuzzy/Trapezoid", "a", "D", .double 0), ("com/example/hazeline/hazeline/fuzzy/Trapezoid", "b", "D", .double 0), ("com/example/hazeline/hazeline/fuzzy/Trapezoid", "c", "D", .double 0), ("com/example/hazeline/hazeline/fuzzy/Trapezoid", "d", "D", .double 0)])] _ _ at Hta1
  obtain ⟨Tta2, vta2_, csta2_, qta2, Hta2, stta2⟩ := own_callS Hta1 hx hZ hown (hw _ (List.mem_of_getElem? (i := 11) rfl)) (hw _ (List.mem_of_getElem? (i := 12) rfl)) (hw _ (List.mem_of_getElem? (i := 13) rfl)) (hw _ (List.mem_of_getElem? (i := 14) rfl)) (by decide) (argsL := [(.double ta)]) (rest := []) (W := 0) (own_isfin l Z a0 hb0 hw ta fa _) (by decide) (by decide) (by decide) (by decide) (g := (mkF m 5 #[.val (.ref x), .val (.double ta), .second, .val (.double tb), .second, .val (.double tc), .second, .val (.double td), .second] [(.double ta)])) rfl (by rw [hml]; rfl) (lenOf own_pd2 rfl) rfl (by show 2 * 0 + _ ≤ _; exact Nat.le_of_eq rfl) (hb hby d1_5)
  obtain ⟨rfl, rfl⟩ := qta2
  change own_S _ _ _ _ _ _ _ _ _ _ _ _ _ _ [(x, own_O "com/example/hazeline/hazeline/fuzzy/Trapezoid" [("com/example/hazeline/hazeline/fuzzy/Trapezoid", "a", "D", .double 0), ("com/example/hazeline/hazeline/fuzzy/Trapezoid", "b", "D", .double 0), ("com/example/hazeline/hazeline/fuzzy/Trapezoid", "c", "D", .double 0), ("com/example/hazeline/hazeline/fuzzy/Trapezoid", "d", "D", .double 0)])] _ _ at Hta2
  obtain ⟨Tta3, vta3_, csta3_, qta3, Hta3, stta3⟩ := own_callS Hta2 hx hZ hown (hw _ (List.mem_of_getElem? (i := 11) rfl)) (hw _ (List.mem_of_getElem? (i := 12) rfl)) (hw _ (List.mem_of_getElem? (i := 13) rfl)) (hw _ (List.mem_of_getElem? (i := 14) rfl)) (by decide) (argsL := [(.double tb)]) (rest := []) (W := 0) (own_isfin l Z a0 hb0 hw tb fb _) (by decide) (by decide) (by decide) (by decide) (g := (mkF m 12 #[.val (.ref x), .val (.double ta), .second, .val (.double tb), .second, .val (.double tc), .second, .val (.double td), .second] [(.double tb)])) rfl (by rw [hml]; rfl) (lenOf own_pd2 rfl) rfl (by show 2 * 0 + _ ≤ _; exact Nat.le_of_eq rfl) (hb hby d1_12)
  obtain ⟨rfl, rfl⟩ := qta3
  change own_S _ _ _ _ _ _ _ _ _ _ _ _ _ _ [(x, own_O "com/example/hazeline/hazeline/fuzzy/Trapezoid" [("com/example/hazeline/hazeline/fuzzy/Trapezoid", "a", "D", .double 0), ("com/example/hazeline/hazeline/fuzzy/Trapezoid", "b", "D", .double 0), ("com/example/hazeline/hazeline/fuzzy/Trapezoid", "c", "D", .double 0), ("com/example/hazeline/hazeline/fuzzy/Trapezoid", "d", "D", .double 0)])] _ _ at Hta3
  obtain ⟨Tta4, vta4_, csta4_, qta4, Hta4, stta4⟩ := own_callS Hta3 hx hZ hown (hw _ (List.mem_of_getElem? (i := 11) rfl)) (hw _ (List.mem_of_getElem? (i := 12) rfl)) (hw _ (List.mem_of_getElem? (i := 13) rfl)) (hw _ (List.mem_of_getElem? (i := 14) rfl)) (by decide) (argsL := [(.double tc)]) (rest := []) (W := 0) (own_isfin l Z a0 hb0 hw tc fc _) (by decide) (by decide) (by decide) (by decide) (g := (mkF m 20 #[.val (.ref x), .val (.double ta), .second, .val (.double tb), .second, .val (.double tc), .second, .val (.double td), .second] [(.double tc)])) rfl (by rw [hml]; rfl) (lenOf own_pd2 rfl) rfl (by show 2 * 0 + _ ≤ _; exact Nat.le_of_eq rfl) (hb hby d1_20)
  obtain ⟨rfl, rfl⟩ := qta4
  change own_S _ _ _ _ _ _ _ _ _ _ _ _ _ _ [(x, own_O "com/example/hazeline/hazeline/fuzzy/Trapezoid" [("com/example/hazeline/hazeline/fuzzy/Trapezoid", "a", "D", .double 0), ("com/example/hazeline/hazeline/fuzzy/Trapezoid", "b", "D", .double 0), ("com/example/hazeline/hazeline/fuzzy/Trapezoid", "c", "D", .double 0), ("com/example/hazeline/hazeline/fuzzy/Trapezoid", "d", "D", .double 0)])] _ _ at Hta4
  obtain ⟨Tta5, vta5_, csta5_, qta5, Hta5, stta5⟩ := own_callS Hta4 hx hZ hown (hw _ (List.mem_of_getElem? (i := 11) rfl)) (hw _ (List.mem_of_getElem? (i := 12) rfl)) (hw _ (List.mem_of_getElem? (i := 13) rfl)) (hw _ (List.mem_of_getElem? (i := 14) rfl)) (by decide) (argsL := [(.double td)]) (rest := []) (W := 0) (own_isfin l Z a0 hb0 hw td fd _) (by decide) (by decide) (by decide) (by decide) (g := (mkF m 28 #[.val (.ref x), .val (.double ta), .second, .val (.double tb), .second, .val (.double tc), .second, .val (.double td), .second] [(.double td)])) rfl (by rw [hml]; rfl) (lenOf own_pd2 rfl) rfl (by show 2 * 0 + _ ≤ _; exact Nat.le_of_eq rfl) (hb hby d1_28)
  obtain ⟨rfl, rfl⟩ := qta5
  change own_S _ _ _ _ _ _ _ _ _ _ _ _ _ _ [(x, own_O "com/example/hazeline/hazeline/fuzzy/Trapezoid" [("com/example/hazeline/hazeline/fuzzy/Trapezoid", "a", "D", .double 0), ("com/example/hazeline/hazeline/fuzzy/Trapezoid", "b", "D", .double 0), ("com/example/hazeline/hazeline/fuzzy/Trapezoid", "c", "D", .double 0), ("com/example/hazeline/hazeline/fuzzy/Trapezoid", "d", "D", .double 0)])] _ _ at Hta5
  obtain ⟨v58, hv58⟩ : ∃ z : Int32, (cmpValue (FP.dcmp ta tb) .g) = z := ⟨_, rfl⟩
  obtain ⟨v65, hv65⟩ : ∃ z : Int32, (cmpValue (FP.dcmp tb tc) .g) = z := ⟨_, rfl⟩
  obtain ⟨v73, hv73⟩ : ∃ z : Int32, (cmpValue (FP.dcmp tc td) .g) = z := ⟨_, rfl⟩
  obtain ⟨Tta6, Hta6, stta6⟩ := own_putF Hta5 hx hZ hown (hw _ (List.mem_of_getElem? (i := 20) rfl)) 0 0 rfl rfl (Or.inr ⟨(hw _ (List.mem_of_getElem? (i := 21) rfl)), rfl, hnm⟩) (hw _ (List.mem_of_getElem? (i := 3) rfl)) (ty := .double) (by decide) rfl rfl (g := (mkF m 101 #[.val (.ref x), .val (.double ta), .second, .val (.double tb), .second, .val (.double tc), .second, .val (.double td), .second] [(.double ta), (.ref x)])) rfl rfl (hb hby d1_101)
  change own_S _ _ _ _ _ _ _ _ _ _ _ _ _ _ [(x, own_O "com/example/hazeline/hazeline/fuzzy/Trapezoid" [("com/example/hazeline/hazeline/fuzzy/Trapezoid", "a", "D", .double ta), ("com/example/hazeline/hazeline/fuzzy/Trapezoid", "b", "D", .double 0), ("com/example/hazeline/hazeline/fuzzy/Trapezoid", "c", "D", .double 0), ("com/example/hazeline/hazeline/fuzzy/Trapezoid", "d", "D", .double 0)])] _ _ at Hta6
  obtain ⟨Tta7, Hta7, stta7⟩ := own_putF Hta6 hx hZ hown (hw _ (List.mem_of_getElem? (i := 22) rfl)) 0 1 rfl rfl (Or.inr ⟨(hw _ (List.mem_of_getElem? (i := 23) rfl)), rfl, hnm⟩) (hw _ (List.mem_of_getElem? (i := 3) rfl)) (ty := .double) (by decide) rfl rfl (g := (mkF m 106 #[.val (.ref x), .val (.double ta), .second, .val (.double tb), .second, .val (.double tc), .second, .val (.double td), .second] [(.double tb), (.ref x)])) rfl rfl (hb hby d1_106)
  change own_S _ _ _ _ _ _ _ _ _ _ _ _ _ _ [(x, own_O "com/example/hazeline/hazeline/fuzzy/Trapezoid" [("com/example/hazeline/hazeline/fuzzy/Trapezoid", "a", "D", .double ta), ("com/example/hazeline/hazeline/fuzzy/Trapezoid", "b", "D", .double tb), ("com/example/hazeline/hazeline/fuzzy/Trapezoid", "c", "D", .double 0), ("com/example/hazeline/hazeline/fuzzy/Trapezoid", "d", "D", .double 0)])] _ _ at Hta7
  obtain ⟨Tta8, Hta8, stta8⟩ := own_putF Hta7 hx hZ hown (hw _ (List.mem_of_getElem? (i := 24) rfl)) 0 2 rfl rfl (Or.inr ⟨(hw _ (List.mem_of_getElem? (i := 25) rfl)), rfl, hnm⟩) (hw _ (List.mem_of_getElem? (i := 3) rfl)) (ty := .double) (by decide) rfl rfl (g := (mkF m 112 #[.val (.ref x), .val (.double ta), .second, .val (.double tb), .second, .val (.double tc), .second, .val (.double td), .second] [(.double tc), (.ref x)])) rfl rfl (hb hby d1_112)
  change own_S _ _ _ _ _ _ _ _ _ _ _ _ _ _ [(x, own_O "com/example/hazeline/hazeline/fuzzy/Trapezoid" [("com/example/hazeline/hazeline/fuzzy/Trapezoid", "a", "D", .double ta), ("com/example/hazeline/hazeline/fuzzy/Trapezoid", "b", "D", .double tb), ("com/example/hazeline/hazeline/fuzzy/Trapezoid", "c", "D", .double tc), ("com/example/hazeline/hazeline/fuzzy/Trapezoid", "d", "D", .double 0)])] _ _ at Hta8
  obtain ⟨Tta9, Hta9, stta9⟩ := own_putF Hta8 hx hZ hown (hw _ (List.mem_of_getElem? (i := 26) rfl)) 0 3 rfl rfl (Or.inr ⟨(hw _ (List.mem_of_getElem? (i := 27) rfl)), rfl, hnm⟩) (hw _ (List.mem_of_getElem? (i := 3) rfl)) (ty := .double) (by decide) rfl rfl (g := (mkF m 118 #[.val (.ref x), .val (.double ta), .second, .val (.double tb), .second, .val (.double tc), .second, .val (.double td), .second] [(.double td), (.ref x)])) rfl rfl (hb hby d1_118)
  change own_S _ _ _ _ _ _ _ _ _ _ _ _ _ _ [(x, own_O "com/example/hazeline/hazeline/fuzzy/Trapezoid" [("com/example/hazeline/hazeline/fuzzy/Trapezoid", "a", "D", .double ta), ("com/example/hazeline/hazeline/fuzzy/Trapezoid", "b", "D", .double tb), ("com/example/hazeline/hazeline/fuzzy/Trapezoid", "c", "D", .double tc), ("com/example/hazeline/hazeline/fuzzy/Trapezoid", "d", "D", .double td)])] _ _ at Hta9
  have hb8 : ifCond.holds .eq (1 : Int32) = false := by decide
  have hb15 : ifCond.holds .eq (1 : Int32) = false := by decide
  have hb23 : ifCond.holds .eq (1 : Int32) = false := by decide
  have hb31 : ifCond.holds .ne (1 : Int32) = true := by decide
  have hb59 : ifCond.holds .gt v58 = false := by rw [← hv58]; exact h1
  have hb66 : ifCond.holds .gt v65 = false := by rw [← hv65]; exact h2
  have hb74 : ifCond.holds .le v73 = true := by rw [← hv73]; exact h3
  refine ⟨_, _, _, _, 121, #[.val (.ref x), .val (.double ta), .second, .val (.double tb), .second, .val (.double tc), .second, .val (.double td), .second], Hta9, by decide, by decide, Or.inl ⟨rfl, ⟨rfl, rfl⟩, d1_121, fun target q => ?_⟩⟩
  refine own_go H0 hx hZ hown hby hw own_K1_ok (own_ta0 x ta tb tc td) _ ?_
  refine stta1 _ ?_
  refine own_go Hta1 hx hZ hown hby hw own_K1_ok (own_ta1 x ta tb tc td) _ ?_
  refine stta2 _ ?_
  refine own_go Hta2 hx hZ hown hby hw own_K1_ok (own_ta2 x ta tb tc td hb8) _ ?_
  refine stta3 _ ?_
  refine own_go Hta3 hx hZ hown hby hw own_K1_ok (own_ta3 x ta tb tc td hb15) _ ?_
  refine stta4 _ ?_
  refine own_go Hta4 hx hZ hown hby hw own_K1_ok (own_ta4 x ta tb tc td hb23) _ ?_
  refine stta5 _ ?_
  refine own_go Hta5 hx hZ hown hby hw own_K1_ok (own_ta5 x ta tb tc td hb31 v58 hv58 hb59 v65 hv65 hb66 v73 hv73 hb74) _ ?_
  refine stta6 _ ?_
  refine own_go Hta6 hx hZ hown hby hw own_K1_ok (own_ta6 x ta tb tc td) _ ?_
  refine stta7 _ ?_
  refine own_go Hta7 hx hZ hown hby hw own_K1_ok (own_ta7 x ta tb tc td) _ ?_
  refine stta8 _ ?_
  refine own_go Hta8 hx hZ hown hby hw own_K1_ok (own_ta8 x ta tb tc td) _ ?_
  refine stta9 _ ?_
  exact q
theorem own_ef7 (m : MethodId) (x0 : Int64) (x1 : Int64) : entryFrame m #[(.long x0), (.long x1)] 4 = mkF m 0 #[.val (.long x0), .second, .val (.long x1), .second] [] := by first | (simp [entryFrame, mkF, argsToLocals, Value.category]; done) | rfl
theorem own_ef5 (m : MethodId) (x0 : Addr) (x1 : UInt64) : entryFrame m #[(.ref x0), (.double x1)] 7 = mkF m 0 #[.val (.ref x0), .val (.double x1), .second, .unset, .unset, .unset, .unset] [] := by first | (simp [entryFrame, mkF, argsToLocals, Value.category]; done) | rfl
theorem own_ef6 (m : MethodId) (x0 : Int64) (x1 : Int64) (x2 : Int64) (x3 : Int64) : entryFrame m #[(.long x0), (.long x1), (.long x2), (.long x3)] 22 = mkF m 0 #[.val (.long x0), .second, .val (.long x1), .second, .val (.long x2), .second, .val (.long x3), .second, .unset, .unset, .unset, .unset, .unset, .unset, .unset, .unset, .unset, .unset, .unset, .unset, .unset, .unset] [] := by first | (simp [entryFrame, mkF, argsToLocals, Value.category]; done) | rfl
theorem own_ef0 (m : MethodId) (x0 : Int32) (x1 : Int32) (x2 : Int32) (x3 : Int32) (x4 : Int32) (x5 : Int32) : entryFrame m #[(.int x0), (.int x1), (.int x2), (.int x3), (.int x4), (.int x5)] maxLocals = mkF m 0 (List.toArray ((.val (.int x0)) :: (.val (.int x1)) :: (.val (.int x2)) :: (.val (.int x3)) :: (.val (.int x4)) :: (.val (.int x5)) :: .unset :: .unset :: .unset :: .unset :: .unset :: .unset :: .unset :: .unset :: .unset :: .unset :: .unset :: .unset :: .unset :: .unset :: .unset :: .unset :: .unset :: .unset :: .unset :: .unset :: .unset :: .unset :: .unset :: [])) [] := by first | (simp [entryFrame, mkF, argsToLocals, Value.category, maxLocals]; done) | rfl
theorem own_pm : plainFor (⟨"java/lang/Math", "max", "(JJ)J"⟩ : MethodName) = true := by decide +kernel
theorem own_m0 (u : Int64) (w : Int64) (v2 : Int32) (hv2 : (if u > w then (1 : Int32) else if u = w then 0 else -1) = v2) (t11_0 : Int64) (ht11_0 : (bif ifCond.holds .lt v2 then w else u) = t11_0) :
    own_Go own_K7 jdk_29_method_66_code 0 #[.val (.long u), .second, .val (.long w), .second] [] 11 #[.val (.long u), .second, .val (.long w), .second] [(.long t11_0)] := by
  subst ht11_0
  refine own_lloadN (pc2 := 1) d7_0 rfl rfl ?_
  refine own_lloadN (pc2 := 2) d7_1 rfl rfl ?_
  refine own_lcmp (pc2 := 3) d7_2 rfl (v := v2) hv2 ?_
  cases hb3 : ifCond.holds .lt v2
  · refine own_ifNo (pc2 := 6) d7_3 rfl hb3 ?_
    refine own_lloadN (pc2 := 7) d7_6 rfl rfl ?_
    refine own_goto (pc' := 11) d7_7 (by decide) (by decide) ?_
    exact own_refl
  · refine own_ifYes (pc' := 10) d7_3 hb3 (by decide) (by decide) ?_
    refine own_lloadN (pc2 := 11) d7_10 rfl rfl ?_
    exact own_refl
set_option maxRecDepth 65536 in
set_option maxHeartbeats 4000000 in
theorem own_max (l : Launch) (Z : State) (a0 : Array Value) (hb0 : Heap) (hw : ∀ d ∈ tables_1, d.before a0 Z = true) (u : Int64) (w : Int64) (cs : List (Addr × own_Cel)) :
    own_Met l Z a0 hb0 (⟨"java/lang/Math", "max", "(JJ)J"⟩ : MethodName) jdk_29_method_66_code 4 (some .long) [] ({ frames := 0, cells := 0, slots := 0, locals := 0 } : Room) #[(.long u), (.long w)] cs (fun r cs' => (∃ z : Int64, r = some (.long z) ∧ z.toInt = max u.toInt w.toInt) ∧ cs' = cs) := by
  refine own_met_of (L0 := #[.val (.long u), .second, .val (.long w), .second]) own_pm (fun m => own_ef7 m u w) ?_
  intro p e s m below meth c T0 hx hZ hown hby hml hnm H0
  obtain ⟨v2, hv2⟩ : ∃ z : Int32, (if u > w then (1 : Int32) else if u = w then 0 else -1) = z := ⟨_, rfl⟩
  obtain ⟨t11_0, ht11_0⟩ : ∃ z : Int64, (bif ifCond.holds .lt v2 then w else u) = z := ⟨_, rfl⟩
  have hz : t11_0.toInt = max u.toInt w.toInt := by
    rw [← ht11_0, ← hv2, own_lc_lt]
    by_cases h : u.toInt < w.toInt
    · simp only [h, decide_true, cond_true]; omega
    · simp only [h, decide_false, cond_false]; omega
  refine ⟨_, _, _, _, 11, #[.val (.long u), .second, .val (.long w), .second], H0, by decide, by decide, Or.inr ⟨.long, (.long t11_0), [], .lreturn, rfl, ⟨⟨t11_0, rfl, hz⟩, rfl⟩, d7_11, own_retJ _, fun target q => ?_⟩⟩
  refine own_go H0 hx hZ hown hby hw own_K7_ok (own_m0 u w v2 hv2 t11_0 ht11_0) _ ?_
  exact q

/-- what both ways reckon -/
def own_rho (p q r s : Int) : Rat :=
  if p + q + r = 0 then (if s < 0 then 1 else 0) else if s ≤ 0 then 1 else if p + q + r ≤ s then 0 else
  if s < p then ((p * (p + 2 * q + r) - s * s : Int) : Rat) / ((p * (p + 2 * q + r) : Int) : Rat) else
  if s ≤ p + q then ((2 * (p + q - s) + r : Int) : Rat) / ((p + 2 * q + r : Int) : Rat) else
  (((p + q + r - s) * (p + q + r - s) : Int) : Rat) / ((r * (p + 2 * q + r) : Int) : Rat)
theorem own_two : own_is 4611686018427387904 ((2 : Int) : Rat) := ⟨false, 2 ^ 52, -51, by decide +kernel, by decide +kernel⟩
theorem own_nsub {x y : UInt64} {X Y : Int} (hx : own_is x (X : Rat)) (hy : own_is y (Y : Rat)) (h : (X - Y).natAbs < 2 ^ 53) : own_is (FP.dsub x y) ((X - Y : Int) : Rat) := own_rd_small (by rw [Rat.intCast_sub]; exact own_sub hx hy) h
theorem own_nadd {x y : UInt64} {X Y : Int} (hx : own_is x (X : Rat)) (hy : own_is y (Y : Rat)) (h : (X + Y).natAbs < 2 ^ 53) : own_is (FP.dadd x y) ((X + Y : Int) : Rat) := own_rd_small (by rw [Rat.intCast_add]; exact own_add hx hy) h
theorem own_nmul {x y : UInt64} {X Y : Int} (hx : own_is x (X : Rat)) (hy : own_is y (Y : Rat)) (h : (X * Y).natAbs < 2 ^ 53) : own_is (FP.dmul x y) ((X * Y : Int) : Rat) := own_rd_small (by rw [Rat.intCast_mul]; exact own_mul hx hy) h
theorem own_ndiv {x y : UInt64} {X Y : Int} (hx : own_is x (X : Rat)) (hy : own_is y (Y : Rat)) (h : Y ≠ 0) : own_rd (FP.ddiv x y) ((X : Rat) / (Y : Rat)) := own_div hx hy (by rw [Ne, Rat.intCast_eq_zero_iff]; exact h)
theorem own_ci {x y : UInt64} {X Y : Int} (hx : own_is x (X : Rat)) (hy : own_is y (Y : Rat)) (o : CmpOp) : (ifCond.holds .lt (cmpValue (FP.dcmp x y) o) = decide (X < Y)) ∧ (ifCond.holds .le (cmpValue (FP.dcmp x y) o) = decide (X ≤ Y)) ∧ (ifCond.holds .gt (cmpValue (FP.dcmp x y) o) = decide (Y < X)) ∧ (ifCond.holds .ge (cmpValue (FP.dcmp x y) o) = decide (Y ≤ X)) ∧ (ifCond.holds .ne (cmpValue (FP.dcmp x y) o) = decide (X ≠ Y)) := by
  rw [own_c_lt hx hy, own_c_le hx hy, own_c_gt hx hy, own_c_ge hx hy, own_c_ne hx hy]
  simp only [Rat.intCast_lt_intCast, Rat.intCast_le_intCast, ne_eq, Rat.intCast_inj, and_self]
theorem own_pz0 (x : Addr) (dt : UInt64) :
    own_Go own_K5 prog_5_method_11_code 0 #[.val (.ref x), .val (.double dt), .second, .unset, .unset, .unset, .unset] [] 1 #[.val (.ref x), .val (.double dt), .second, .unset, .unset, .unset, .unset] [(.ref x)] := by
  refine own_aloadN (pc2 := 1) d5_0 rfl rfl rfl ?_
  exact own_refl
theorem own_pz1 (x : Addr) (dt : UInt64) (da : UInt64) :
    own_Go own_K5 prog_5_method_11_code 4 #[.val (.ref x), .val (.double dt), .second, .unset, .unset, .unset, .unset] [(.double da)] 5 #[.val (.ref x), .val (.double dt), .second, .unset, .unset, .unset, .unset] [(.ref x), (.double da)] := by
  refine own_aloadN (pc2 := 5) d5_4 rfl rfl rfl ?_
  exact own_refl
theorem own_pz2 (x : Addr) (dt : UInt64) (dd : UInt64) (da : UInt64) (v8 : Int32) (hv8 : (cmpValue (FP.dcmp da dd) .l) = v8) (hb9 : ifCond.holds .ne v8 = false) :
    own_Go own_K5 prog_5_method_11_code 8 #[.val (.ref x), .val (.double dt), .second, .unset, .unset, .unset, .unset] [(.double dd), (.double da)] 13 #[.val (.ref x), .val (.double dt), .second, .unset, .unset, .unset, .unset] [(.ref x)] := by
  refine own_dcmp (pc2 := 9) d5_8 rfl (v := v8) hv8 ?_
  refine own_ifNo (pc2 := 12) d5_9 rfl hb9 ?_
  refine own_aloadN (pc2 := 13) d5_12 rfl rfl rfl ?_
  exact own_refl
theorem own_pz3 (x : Addr) (dt : UInt64) (da : UInt64) (v17 : Int32) (hv17 : (cmpValue (FP.dcmp da dt) .l) = v17) :
    own_Go own_K5 prog_5_method_11_code 16 #[.val (.ref x), .val (.double dt), .second, .unset, .unset, .unset, .unset] [(.double da)] 18 #[.val (.ref x), .val (.double dt), .second, .unset, .unset, .unset, .unset] [(.int v17)] := by
  refine own_dloadN (pc2 := 17) d5_16 rfl rfl ?_
  refine own_dcmp (pc2 := 18) d5_17 rfl (v := v17) hv17 ?_
  exact own_refl
theorem own_pz4 (x : Addr) (dt : UInt64) (v17 : Int32) (t26_0 : UInt64) (ht26_0 : (bif ifCond.holds .le v17 then (0 : UInt64) else (4607182418800017408 : UInt64)) = t26_0) :
    own_Go own_K5 prog_5_method_11_code 18 #[.val (.ref x), .val (.double dt), .second, .unset, .unset, .unset, .unset] [(.int v17)] 26 #[.val (.ref x), .val (.double dt), .second, .unset, .unset, .unset, .unset] [(.double t26_0)] := by
  subst ht26_0
  cases hb18 : ifCond.holds .le v17
  · refine own_ifNo (pc2 := 21) d5_18 rfl hb18 ?_
    refine own_dconst1 (v := 4607182418800017408) (pc2 := 22) d5_21 rfl rfl ?_
    refine own_goto (pc' := 26) d5_22 (by decide) (by decide) ?_
    exact own_refl
  · refine own_ifYes (pc' := 25) d5_18 hb18 (by decide) (by decide) ?_
    refine own_dconst0 (v := 0) (pc2 := 26) d5_25 rfl rfl ?_
    exact own_refl
theorem own_p0_0 (x : Addr) (dt : UInt64) :
    own_Go own_K5 prog_5_method_11_code 0 #[.val (.ref x), .val (.double dt), .second, .unset, .unset, .unset, .unset] [] 1 #[.val (.ref x), .val (.double dt), .second, .unset, .unset, .unset, .unset] [(.ref x)] := by
  refine own_aloadN (pc2 := 1) d5_0 rfl rfl rfl ?_
  exact own_refl
theorem own_p0_1 (x : Addr) (dt : UInt64) (da : UInt64) :
    own_Go own_K5 prog_5_method_11_code 4 #[.val (.ref x), .val (.double dt), .second, .unset, .unset, .unset, .unset] [(.double da)] 5 #[.val (.ref x), .val (.double dt), .second, .unset, .unset, .unset, .unset] [(.ref x), (.double da)] := by
  refine own_aloadN (pc2 := 5) d5_4 rfl rfl rfl ?_
  exact own_refl
theorem own_p0_2 (x : Addr) (dt : UInt64) (dd : UInt64) (da : UInt64) (v8 : Int32) (hv8 : (cmpValue (FP.dcmp da dd) .l) = v8) (hb9 : ifCond.holds .ne v8 = true) :
    own_Go own_K5 prog_5_method_11_code 8 #[.val (.ref x), .val (.double dt), .second, .unset, .unset, .unset, .unset] [(.double dd), (.double da)] 29 #[.val (.ref x), .val (.double dt), .second, .unset, .unset, .unset, .unset] [(.ref x), (.double dt)] := by
  refine own_dcmp (pc2 := 9) d5_8 rfl (v := v8) hv8 ?_
  refine own_ifYes (pc' := 27) d5_9 hb9 (by decide) (by decide) ?_
  refine own_dloadN (pc2 := 28) d5_27 rfl rfl ?_
  refine own_aloadN (pc2 := 29) d5_28 rfl rfl rfl ?_
  exact own_refl
theorem own_p0_3 (x : Addr) (dt : UInt64) (da : UInt64) (v32 : Int32) (hv32 : (cmpValue (FP.dcmp dt da) .g) = v32) (hb33 : ifCond.holds .gt v32 = false) :
    own_Go own_K5 prog_5_method_11_code 32 #[.val (.ref x), .val (.double dt), .second, .unset, .unset, .unset, .unset] [(.double da), (.double dt)] 37 #[.val (.ref x), .val (.double dt), .second, .unset, .unset, .unset, .unset] [(.double (4607182418800017408 : UInt64))] := by
  refine own_dcmp (pc2 := 33) d5_32 rfl (v := v32) hv32 ?_
  refine own_ifNo (pc2 := 36) d5_33 rfl hb33 ?_
  refine own_dconst1 (v := 4607182418800017408) (pc2 := 37) d5_36 rfl rfl ?_
  exact own_refl
theorem own_p1_0 (x : Addr) (dt : UInt64) :
    own_Go own_K5 prog_5_method_11_code 0 #[.val (.ref x), .val (.double dt), .second, .unset, .unset, .unset, .unset] [] 1 #[.val (.ref x), .val (.double dt), .second, .unset, .unset, .unset, .unset] [(.ref x)] := by
  refine own_aloadN (pc2 := 1) d5_0 rfl rfl rfl ?_
  exact own_refl
theorem own_p1_1 (x : Addr) (dt : UInt64) (da : UInt64) :
    own_Go own_K5 prog_5_method_11_code 4 #[.val (.ref x), .val (.double dt), .second, .unset, .unset, .unset, .unset] [(.double da)] 5 #[.val (.ref x), .val (.double dt), .second, .unset, .unset, .unset, .unset] [(.ref x), (.double da)] := by
  refine own_aloadN (pc2 := 5) d5_4 rfl rfl rfl ?_
  exact own_refl
theorem own_p1_2 (x : Addr) (dt : UInt64) (dd : UInt64) (da : UInt64) (v8 : Int32) (hv8 : (cmpValue (FP.dcmp da dd) .l) = v8) (hb9 : ifCond.holds .ne v8 = true) :
    own_Go own_K5 prog_5_method_11_code 8 #[.val (.ref x), .val (.double dt), .second, .unset, .unset, .unset, .unset] [(.double dd), (.double da)] 29 #[.val (.ref x), .val (.double dt), .second, .unset, .unset, .unset, .unset] [(.ref x), (.double dt)] := by
  refine own_dcmp (pc2 := 9) d5_8 rfl (v := v8) hv8 ?_
  refine own_ifYes (pc' := 27) d5_9 hb9 (by decide) (by decide) ?_
  refine own_dloadN (pc2 := 28) d5_27 rfl rfl ?_
  refine own_aloadN (pc2 := 29) d5_28 rfl rfl rfl ?_
  exact own_refl
theorem own_p1_3 (x : Addr) (dt : UInt64) (da : UInt64) (v32 : Int32) (hv32 : (cmpValue (FP.dcmp dt da) .g) = v32) (hb33 : ifCond.holds .gt v32 = true) :
    own_Go own_K5 prog_5_method_11_code 32 #[.val (.ref x), .val (.double dt), .second, .unset, .unset, .unset, .unset] [(.double da), (.double dt)] 40 #[.val (.ref x), .val (.double dt), .second, .unset, .unset, .unset, .unset] [(.ref x), (.double dt)] := by
  refine own_dcmp (pc2 := 33) d5_32 rfl (v := v32) hv32 ?_
  refine own_ifYes (pc' := 38) d5_33 hb33 (by decide) (by decide) ?_
  refine own_dloadN (pc2 := 39) d5_38 rfl rfl ?_
  refine own_aloadN (pc2 := 40) d5_39 rfl rfl rfl ?_
  exact own_refl
theorem own_p1_4 (x : Addr) (dt : UInt64) (dd : UInt64) (v43 : Int32) (hv43 : (cmpValue (FP.dcmp dt dd) .l) = v43) (hb44 : ifCond.holds .lt v43 = false) :
    own_Go own_K5 prog_5_method_11_code 43 #[.val (.ref x), .val (.double dt), .second, .unset, .unset, .unset, .unset] [(.double dd), (.double dt)] 48 #[.val (.ref x), .val (.double dt), .second, .unset, .unset, .unset, .unset] [(.double (0 : UInt64))] := by
  refine own_dcmp (pc2 := 44) d5_43 rfl (v := v43) hv43 ?_
  refine own_ifNo (pc2 := 47) d5_44 rfl hb44 ?_
  refine own_dconst0 (v := 0) (pc2 := 48) d5_47 rfl rfl ?_
  exact own_refl
theorem own_p2_0 (x : Addr) (dt : UInt64) :
    own_Go own_K5 prog_5_method_11_code 0 #[.val (.ref x), .val (.double dt), .second, .unset, .unset, .unset, .unset] [] 1 #[.val (.ref x), .val (.double dt), .second, .unset, .unset, .unset, .unset] [(.ref x)] := by
  refine own_aloadN (pc2 := 1) d5_0 rfl rfl rfl ?_
  exact own_refl
theorem own_p2_1 (x : Addr) (dt : UInt64) (da : UInt64) :
    own_Go own_K5 prog_5_method_11_code 4 #[.val (.ref x), .val (.double dt), .second, .unset, .unset, .unset, .unset] [(.double da)] 5 #[.val (.ref x), .val (.double dt), .second, .unset, .unset, .unset, .unset] [(.ref x), (.double da)] := by
  refine own_aloadN (pc2 := 5) d5_4 rfl rfl rfl ?_
  exact own_refl
theorem own_p2_2 (x : Addr) (dt : UInt64) (dd : UInt64) (da : UInt64) (v8 : Int32) (hv8 : (cmpValue (FP.dcmp da dd) .l) = v8) (hb9 : ifCond.holds .ne v8 = true) :
    own_Go own_K5 prog_5_method_11_code 8 #[.val (.ref x), .val (.double dt), .second, .unset, .unset, .unset, .unset] [(.double dd), (.double da)] 29 #[.val (.ref x), .val (.double dt), .second, .unset, .unset, .unset, .unset] [(.ref x), (.double dt)] := by
  refine own_dcmp (pc2 := 9) d5_8 rfl (v := v8) hv8 ?_
  refine own_ifYes (pc' := 27) d5_9 hb9 (by decide) (by decide) ?_
  refine own_dloadN (pc2 := 28) d5_27 rfl rfl ?_
  refine own_aloadN (pc2 := 29) d5_28 rfl rfl rfl ?_
  exact own_refl
theorem own_p2_3 (x : Addr) (dt : UInt64) (da : UInt64) (v32 : Int32) (hv32 : (cmpValue (FP.dcmp dt da) .g) = v32) (hb33 : ifCond.holds .gt v32 = true) :
    own_Go own_K5 prog_5_method_11_code 32 #[.val (.ref x), .val (.double dt), .second, .unset, .unset, .unset, .unset] [(.double da), (.double dt)] 40 #[.val (.ref x), .val (.double dt), .second, .unset, .unset, .unset, .unset] [(.ref x), (.double dt)] := by
  refine own_dcmp (pc2 := 33) d5_32 rfl (v := v32) hv32 ?_
  refine own_ifYes (pc' := 38) d5_33 hb33 (by decide) (by decide) ?_
  refine own_dloadN (pc2 := 39) d5_38 rfl rfl ?_
  refine own_aloadN (pc2 := 40) d5_39 rfl rfl rfl ?_
  exact own_refl
theorem own_p2_4 (x : Addr) (dt : UInt64) (dd : UInt64) (v43 : Int32) (hv43 : (cmpValue (FP.dcmp dt dd) .l) = v43) (hb44 : ifCond.holds .lt v43 = true) :
    own_Go own_K5 prog_5_method_11_code 43 #[.val (.ref x), .val (.double dt), .second, .unset, .unset, .unset, .unset] [(.double dd), (.double dt)] 50 #[.val (.ref x), .val (.double dt), .second, .unset, .unset, .unset, .unset] [(.ref x)] := by
  refine own_dcmp (pc2 := 44) d5_43 rfl (v := v43) hv43 ?_
  refine own_ifYes (pc' := 49) d5_44 hb44 (by decide) (by decide) ?_
  refine own_aloadN (pc2 := 50) d5_49 rfl rfl rfl ?_
  exact own_refl
theorem own_p2_5 (x : Addr) (dt : UInt64) (dd : UInt64) :
    own_Go own_K5 prog_5_method_11_code 53 #[.val (.ref x), .val (.double dt), .second, .unset, .unset, .unset, .unset] [(.double dd)] 54 #[.val (.ref x), .val (.double dt), .second, .unset, .unset, .unset, .unset] [(.ref x), (.double dd)] := by
  refine own_aloadN (pc2 := 54) d5_53 rfl rfl rfl ?_
  exact own_refl
theorem own_p2_6 (x : Addr) (dt : UInt64) (da : UInt64) (dd : UInt64) (v57 : UInt64) (hv57 : (FP.dsub dd da) = v57) (nn57 : NoNaN64 (FP.dsub dd da)) :
    own_Go own_K5 prog_5_method_11_code 57 #[.val (.ref x), .val (.double dt), .second, .unset, .unset, .unset, .unset] [(.double da), (.double dd)] 59 #[.val (.ref x), .val (.double dt), .second, .unset, .unset, .unset, .unset] [(.ref x), (.double v57)] := by
  refine own_dsub (pc2 := 58) d5_57 rfl nn57 (v := v57) hv57 ?_
  refine own_aloadN (pc2 := 59) d5_58 rfl rfl rfl ?_
  exact own_refl
theorem own_p2_7 (x : Addr) (dt : UInt64) (dc : UInt64) (v57 : UInt64) :
    own_Go own_K5 prog_5_method_11_code 62 #[.val (.ref x), .val (.double dt), .second, .unset, .unset, .unset, .unset] [(.double dc), (.double v57)] 63 #[.val (.ref x), .val (.double dt), .second, .unset, .unset, .unset, .unset] [(.ref x), (.double dc), (.double v57)] := by
  refine own_aloadN (pc2 := 63) d5_62 rfl rfl rfl ?_
  exact own_refl
theorem own_p2_8 (x : Addr) (dt : UInt64) (db : UInt64) (dc : UInt64) (v57 : UInt64) (v66 : UInt64) (hv66 : (FP.dsub dc db) = v66) (nn66 : NoNaN64 (FP.dsub dc db)) (v67 : UInt64) (hv67 : (FP.dadd v57 v66) = v67) (nn67 : NoNaN64 (FP.dadd v57 v66)) :
    own_Go own_K5 prog_5_method_11_code 66 #[.val (.ref x), .val (.double dt), .second, .unset, .unset, .unset, .unset] [(.double db), (.double dc), (.double v57)] 71 #[.val (.ref x), .val (.double dt), .second, .val (.double v67), .second, .unset, .unset] [(.ref x), (.double dt)] := by
  refine own_dsub (pc2 := 67) d5_66 rfl nn66 (v := v66) hv66 ?_
  refine own_dadd (pc2 := 68) d5_67 rfl nn67 (v := v67) hv67 ?_
  refine own_dstoreN (pc2 := 69) d5_68 rfl (L' := #[.val (.ref x), .val (.double dt), .second, .val (.double v67), .second, .unset, .unset]) rfl ?_
  refine own_dloadN (pc2 := 70) d5_69 rfl rfl ?_
  refine own_aloadN (pc2 := 71) d5_70 rfl rfl rfl ?_
  exact own_refl
theorem own_p2_9 (x : Addr) (dt : UInt64) (v67 : UInt64) (db : UInt64) (v74 : Int32) (hv74 : (cmpValue (FP.dcmp dt db) .g) = v74) (hb75 : ifCond.holds .ge v74 = false) :
    own_Go own_K5 prog_5_method_11_code 74 #[.val (.ref x), .val (.double dt), .second, .val (.double v67), .second, .unset, .unset] [(.double db), (.double dt)] 79 #[.val (.ref x), .val (.double dt), .second, .val (.double v67), .second, .unset, .unset] [(.ref x)] := by
  refine own_dcmp (pc2 := 75) d5_74 rfl (v := v74) hv74 ?_
  refine own_ifNo (pc2 := 78) d5_75 rfl hb75 ?_
  refine own_aloadN (pc2 := 79) d5_78 rfl rfl rfl ?_
  exact own_refl
theorem own_p2_10 (x : Addr) (dt : UInt64) (v67 : UInt64) (db : UInt64) :
    own_Go own_K5 prog_5_method_11_code 82 #[.val (.ref x), .val (.double dt), .second, .val (.double v67), .second, .unset, .unset] [(.double db)] 83 #[.val (.ref x), .val (.double dt), .second, .val (.double v67), .second, .unset, .unset] [(.ref x), (.double db)] := by
  refine own_aloadN (pc2 := 83) d5_82 rfl rfl rfl ?_
  exact own_refl
theorem own_p2_11 (x : Addr) (dt : UInt64) (v67 : UInt64) (da : UInt64) (db : UInt64) (v86 : UInt64) (hv86 : (FP.dsub db da) = v86) (nn86 : NoNaN64 (FP.dsub db da)) (v88 : UInt64) (hv88 : (FP.dmul v86 v67) = v88) (nn88 : NoNaN64 (FP.dmul v86 v67)) :
    own_Go own_K5 prog_5_method_11_code 86 #[.val (.ref x), .val (.double dt), .second, .val (.double v67), .second, .unset, .unset] [(.double da), (.double db)] 95 #[.val (.ref x), .val (.double dt), .second, .val (.double v67), .second, .val (.double v88), .second] [(.ref x), (.double dt), (.double v88)] := by
  refine own_dsub (pc2 := 87) d5_86 rfl nn86 (v := v86) hv86 ?_
  refine own_dloadN (pc2 := 88) d5_87 rfl rfl ?_
  refine own_dmul (pc2 := 89) d5_88 rfl nn88 (v := v88) hv88 ?_
  refine own_dstore (pc2 := 91) d5_89 rfl (L' := #[.val (.ref x), .val (.double dt), .second, .val (.double v67), .second, .val (.double v88), .second]) rfl ?_
  refine own_dload (pc2 := 93) d5_91 rfl rfl ?_
  refine own_dloadN (pc2 := 94) d5_93 rfl rfl ?_
  refine own_aloadN (pc2 := 95) d5_94 rfl rfl rfl ?_
  exact own_refl
theorem own_p2_12 (x : Addr) (dt : UInt64) (v67 : UInt64) (v88 : UInt64) (da : UInt64) (v98 : UInt64) (hv98 : (FP.dsub dt da) = v98) (nn98 : NoNaN64 (FP.dsub dt da)) :
    own_Go own_K5 prog_5_method_11_code 98 #[.val (.ref x), .val (.double dt), .second, .val (.double v67), .second, .val (.double v88), .second] [(.double da), (.double dt), (.double v88)] 101 #[.val (.ref x), .val (.double dt), .second, .val (.double v67), .second, .val (.double v88), .second] [(.ref x), (.double dt), (.double v98), (.double v88)] := by
  refine own_dsub (pc2 := 99) d5_98 rfl nn98 (v := v98) hv98 ?_
  refine own_dloadN (pc2 := 100) d5_99 rfl rfl ?_
  refine own_aloadN (pc2 := 101) d5_100 rfl rfl rfl ?_
  exact own_refl
theorem own_p2_13 (x : Addr) (dt : UInt64) (v67 : UInt64) (v88 : UInt64) (da : UInt64) (v98 : UInt64) (v104 : UInt64) (hv104 : (FP.dsub dt da) = v104) (nn104 : NoNaN64 (FP.dsub dt da)) (v105 : UInt64) (hv105 : (FP.dmul v98 v104) = v105) (nn105 : NoNaN64 (FP.dmul v98 v104)) (v106 : UInt64) (hv106 : (FP.dsub v88 v105) = v106) (nn106 : NoNaN64 (FP.dsub v88 v105)) (v109 : UInt64) (hv109 : (FP.ddiv v106 v88) = v109) (nn109 : NoNaN64 (FP.ddiv v106 v88)) :
    own_Go own_K5 prog_5_method_11_code 104 #[.val (.ref x), .val (.double dt), .second, .val (.double v67), .second, .val (.double v88), .second] [(.double da), (.double dt), (.double v98), (.double v88)] 110 #[.val (.ref x), .val (.double dt), .second, .val (.double v67), .second, .val (.double v88), .second] [(.double v109)] := by
  refine own_dsub (pc2 := 105) d5_104 rfl nn104 (v := v104) hv104 ?_
  refine own_dmul (pc2 := 106) d5_105 rfl nn105 (v := v105) hv105 ?_
  refine own_dsub (pc2 := 107) d5_106 rfl nn106 (v := v106) hv106 ?_
  refine own_dload (pc2 := 109) d5_107 rfl rfl ?_
  refine own_ddiv (pc2 := 110) d5_109 rfl nn109 (v := v109) hv109 ?_
  exact own_refl
theorem own_p3_0 (x : Addr) (dt : UInt64) :
    own_Go own_K5 prog_5_method_11_code 0 #[.val (.ref x), .val (.double dt), .second, .unset, .unset, .unset, .unset] [] 1 #[.val (.ref x), .val (.double dt), .second, .unset, .unset, .unset, .unset] [(.ref x)] := by
  refine own_aloadN (pc2 := 1) d5_0 rfl rfl rfl ?_
  exact own_refl
theorem own_p3_1 (x : Addr) (dt : UInt64) (da : UInt64) :
    own_Go own_K5 prog_5_method_11_code 4 #[.val (.ref x), .val (.double dt), .second, .unset, .unset, .unset, .unset] [(.double da)] 5 #[.val (.ref x), .val (.double dt), .second, .unset, .unset, .unset, .unset] [(.ref x), (.double da)] := by
  refine own_aloadN (pc2 := 5) d5_4 rfl rfl rfl ?_
  exact own_refl
theorem own_p3_2 (x : Addr) (dt : UInt64) (dd : UInt64) (da : UInt64) (v8 : Int32) (hv8 : (cmpValue (FP.dcmp da dd) .l) = v8) (hb9 : ifCond.holds .ne v8 = true) :
    own_Go own_K5 prog_5_method_11_code 8 #[.val (.ref x), .val (.double dt), .second, .unset, .unset, .unset, .unset] [(.double dd), (.double da)] 29 #[.val (.ref x), .val (.double dt), .second, .unset, .unset, .unset, .unset] [(.ref x), (.double dt)] := by
  refine own_dcmp (pc2 := 9) d5_8 rfl (v := v8) hv8 ?_
  refine own_ifYes (pc' := 27) d5_9 hb9 (by decide) (by decide) ?_
  refine own_dloadN (pc2 := 28) d5_27 rfl rfl ?_
  refine own_aloadN (pc2 := 29) d5_28 rfl rfl rfl ?_
  exact own_refl
theorem own_p3_3 (x : Addr) (dt : UInt64) (da : UInt64) (v32 : Int32) (hv32 : (cmpValue (FP.dcmp dt da) .g) = v32) (hb33 : ifCond.holds .gt v32 = true) :
    own_Go own_K5 prog_5_method_11_code 32 #[.val (.ref x), .val (.double dt), .second, .unset, .unset, .unset, .unset] [(.double da), (.double dt)] 40 #[.val (.ref x), .val (.double dt), .second, .unset, .unset, .unset, .unset] [(.ref x), (.double dt)] := by
  refine own_dcmp (pc2 := 33) d5_32 rfl (v := v32) hv32 ?_
  refine own_ifYes (pc' := 38) d5_33 hb33 (by decide) (by decide) ?_
  refine own_dloadN (pc2 := 39) d5_38 rfl rfl ?_
  refine own_aloadN (pc2 := 40) d5_39 rfl rfl rfl ?_
  exact own_refl
theorem own_p3_4 (x : Addr) (dt : UInt64) (dd : UInt64) (v43 : Int32) (hv43 : (cmpValue (FP.dcmp dt dd) .l) = v43) (hb44 : ifCond.holds .lt v43 = true) :
    own_Go own_K5 prog_5_method_11_code 43 #[.val (.ref x), .val (.double dt), .second, .unset, .unset, .unset, .unset] [(.double dd), (.double dt)] 50 #[.val (.ref x), .val (.double dt), .second, .unset, .unset, .unset, .unset] [(.ref x)] := by
  refine own_dcmp (pc2 := 44) d5_43 rfl (v := v43) hv43 ?_
  refine own_ifYes (pc' := 49) d5_44 hb44 (by decide) (by decide) ?_
  refine own_aloadN (pc2 := 50) d5_49 rfl rfl rfl ?_
  exact own_refl
theorem own_p3_5 (x : Addr) (dt : UInt64) (dd : UInt64) :
    own_Go own_K5 prog_5_method_11_code 53 #[.val (.ref x), .val (.double dt), .second, .unset, .unset, .unset, .unset] [(.double dd)] 54 #[.val (.ref x), .val (.double dt), .second, .unset, .unset, .unset, .unset] [(.ref x), (.double dd)] := by
  refine own_aloadN (pc2 := 54) d5_53 rfl rfl rfl ?_
  exact own_refl
theorem own_p3_6 (x : Addr) (dt : UInt64) (da : UInt64) (dd : UInt64) (v57 : UInt64) (hv57 : (FP.dsub dd da) = v57) (nn57 : NoNaN64 (FP.dsub dd da)) :
    own_Go own_K5 prog_5_method_11_code 57 #[.val (.ref x), .val (.double dt), .second, .unset, .unset, .unset, .unset] [(.double da), (.double dd)] 59 #[.val (.ref x), .val (.double dt), .second, .unset, .unset, .unset, .unset] [(.ref x), (.double v57)] := by
  refine own_dsub (pc2 := 58) d5_57 rfl nn57 (v := v57) hv57 ?_
  refine own_aloadN (pc2 := 59) d5_58 rfl rfl rfl ?_
  exact own_refl
theorem own_p3_7 (x : Addr) (dt : UInt64) (dc : UInt64) (v57 : UInt64) :
    own_Go own_K5 prog_5_method_11_code 62 #[.val (.ref x), .val (.double dt), .second, .unset, .unset, .unset, .unset] [(.double dc), (.double v57)] 63 #[.val (.ref x), .val (.double dt), .second, .unset, .unset, .unset, .unset] [(.ref x), (.double dc), (.double v57)] := by
  refine own_aloadN (pc2 := 63) d5_62 rfl rfl rfl ?_
  exact own_refl
theorem own_p3_8 (x : Addr) (dt : UInt64) (db : UInt64) (dc : UInt64) (v57 : UInt64) (v66 : UInt64) (hv66 : (FP.dsub dc db) = v66) (nn66 : NoNaN64 (FP.dsub dc db)) (v67 : UInt64) (hv67 : (FP.dadd v57 v66) = v67) (nn67 : NoNaN64 (FP.dadd v57 v66)) :
    own_Go own_K5 prog_5_method_11_code 66 #[.val (.ref x), .val (.double dt), .second, .unset, .unset, .unset, .unset] [(.double db), (.double dc), (.double v57)] 71 #[.val (.ref x), .val (.double dt), .second, .val (.double v67), .second, .unset, .unset] [(.ref x), (.double dt)] := by
  refine own_dsub (pc2 := 67) d5_66 rfl nn66 (v := v66) hv66 ?_
  refine own_dadd (pc2 := 68) d5_67 rfl nn67 (v := v67) hv67 ?_
  refine own_dstoreN (pc2 := 69) d5_68 rfl (L' := #[.val (.ref x), .val (.double dt), .second, .val (.double v67), .second, .unset, .unset]) rfl ?_
  refine own_dloadN (pc2 := 70) d5_69 rfl rfl ?_
  refine own_aloadN (pc2 := 71) d5_70 rfl rfl rfl ?_
  exact own_refl
theorem own_p3_9 (x : Addr) (dt : UInt64) (v67 : UInt64) (db : UInt64) (v74 : Int32) (hv74 : (cmpValue (FP.dcmp dt db) .g) = v74) (hb75 : ifCond.holds .ge v74 = true) :
    own_Go own_K5 prog_5_method_11_code 74 #[.val (.ref x), .val (.double dt), .second, .val (.double v67), .second, .unset, .unset] [(.double db), (.double dt)] 113 #[.val (.ref x), .val (.double dt), .second, .val (.double v67), .second, .unset, .unset] [(.ref x), (.double dt)] := by
  refine own_dcmp (pc2 := 75) d5_74 rfl (v := v74) hv74 ?_
  refine own_ifYes (pc' := 111) d5_75 hb75 (by decide) (by decide) ?_
  refine own_dloadN (pc2 := 112) d5_111 rfl rfl ?_
  refine own_aloadN (pc2 := 113) d5_112 rfl rfl rfl ?_
  exact own_refl
theorem own_p3_10 (x : Addr) (dt : UInt64) (v67 : UInt64) (dc : UInt64) (v116 : Int32) (hv116 : (cmpValue (FP.dcmp dt dc) .g) = v116) (hb117 : ifCond.holds .gt v116 = false) :
    own_Go own_K5 prog_5_method_11_code 116 #[.val (.ref x), .val (.double dt), .second, .val (.double v67), .second, .unset, .unset] [(.double dc), (.double dt)] 124 #[.val (.ref x), .val (.double dt), .second, .val (.double v67), .second, .unset, .unset] [(.ref x), (.double (4611686018427387904 : UInt64))] := by
  refine own_dcmp (pc2 := 117) d5_116 rfl (v := v116) hv116 ?_
  refine own_ifNo (pc2 := 120) d5_117 rfl hb117 ?_
  refine own_ldc2D (v := (4611686018427387904 : UInt64)) (pc2 := 123) d5_120 rfl (List.mem_of_getElem? (i := 0) rfl) ?_
  refine own_aloadN (pc2 := 124) d5_123 rfl rfl rfl ?_
  exact own_refl
theorem own_p3_11 (x : Addr) (dt : UInt64) (v67 : UInt64) (dc : UInt64) (v128 : UInt64) (hv128 : (FP.dsub dc dt) = v128) (nn128 : NoNaN64 (FP.dsub dc dt)) (v129 : UInt64) (hv129 : (FP.dmul (4611686018427387904 : UInt64) v128) = v129) (nn129 : NoNaN64 (FP.dmul (4611686018427387904 : UInt64) v128)) :
    own_Go own_K5 prog_5_method_11_code 127 #[.val (.ref x), .val (.double dt), .second, .val (.double v67), .second, .unset, .unset] [(.double dc), (.double (4611686018427387904 : UInt64))] 131 #[.val (.ref x), .val (.double dt), .second, .val (.double v67), .second, .unset, .unset] [(.ref x), (.double v129)] := by
  refine own_dloadN (pc2 := 128) d5_127 rfl rfl ?_
  refine own_dsub (pc2 := 129) d5_128 rfl nn128 (v := v128) hv128 ?_
  refine own_dmul (pc2 := 130) d5_129 rfl nn129 (v := v129) hv129 ?_
  refine own_aloadN (pc2 := 131) d5_130 rfl rfl rfl ?_
  exact own_refl
theorem own_p3_12 (x : Addr) (dt : UInt64) (v67 : UInt64) (dd : UInt64) (v129 : UInt64) :
    own_Go own_K5 prog_5_method_11_code 134 #[.val (.ref x), .val (.double dt), .second, .val (.double v67), .second, .unset, .unset] [(.double dd), (.double v129)] 135 #[.val (.ref x), .val (.double dt), .second, .val (.double v67), .second, .unset, .unset] [(.ref x), (.double dd), (.double v129)] := by
  refine own_aloadN (pc2 := 135) d5_134 rfl rfl rfl ?_
  exact own_refl
theorem own_p3_13 (x : Addr) (dt : UInt64) (v67 : UInt64) (dc : UInt64) (dd : UInt64) (v129 : UInt64) (v138 : UInt64) (hv138 : (FP.dsub dd dc) = v138) (nn138 : NoNaN64 (FP.dsub dd dc)) (v139 : UInt64) (hv139 : (FP.dadd v129 v138) = v139) (nn139 : NoNaN64 (FP.dadd v129 v138)) (v141 : UInt64) (hv141 : (FP.ddiv v139 v67) = v141) (nn141 : NoNaN64 (FP.ddiv v139 v67)) :
    own_Go own_K5 prog_5_method_11_code 138 #[.val (.ref x), .val (.double dt), .second, .val (.double v67), .second, .unset, .unset] [(.double dc), (.double dd), (.double v129)] 142 #[.val (.ref x), .val (.double dt), .second, .val (.double v67), .second, .unset, .unset] [(.double v141)] := by
  refine own_dsub (pc2 := 139) d5_138 rfl nn138 (v := v138) hv138 ?_
  refine own_dadd (pc2 := 140) d5_139 rfl nn139 (v := v139) hv139 ?_
  refine own_dloadN (pc2 := 141) d5_140 rfl rfl ?_
  refine own_ddiv (pc2 := 142) d5_141 rfl nn141 (v := v141) hv141 ?_
  exact own_refl
theorem own_p4_0 (x : Addr) (dt : UInt64) :
    own_Go own_K5 prog_5_method_11_code 0 #[.val (.ref x), .val (.double dt), .second, .unset, .unset, .unset, .unset] [] 1 #[.val (.ref x), .val (.double dt), .second, .unset, .unset, .unset, .unset] [(.ref x)] := by
  refine own_aloadN (pc2 := 1) d5_0 rfl rfl rfl ?_
  exact own_refl
theorem own_p4_1 (x : Addr) (dt : UInt64) (da : UInt64) :
    own_Go own_K5 prog_5_method_11_code 4 #[.val (.ref x), .val (.double dt), .second, .unset, .unset, .unset, .unset] [(.double da)] 5 #[.val (.ref x), .val (.double dt), .second, .unset, .unset, .unset, .unset] [(.ref x), (.double da)] := by
  refine own_aloadN (pc2 := 5) d5_4 rfl rfl rfl ?_
  exact own_refl
theorem own_p4_2 (x : Addr) (dt : UInt64) (dd : UInt64) (da : UInt64) (v8 : Int32) (hv8 : (cmpValue (FP.dcmp da dd) .l) = v8) (hb9 : ifCond.holds .ne v8 = true) :
    own_Go own_K5 prog_5_method_11_code 8 #[.val (.ref x), .val (.double dt), .second, .unset, .unset, .unset, .unset] [(.double dd), (.double da)] 29 #[.val (.ref x), .val (.double dt), .second, .unset, .unset, .unset, .unset] [(.ref x), (.double dt)] := by
  refine own_dcmp (pc2 := 9) d5_8 rfl (v := v8) hv8 ?_
  refine own_ifYes (pc' := 27) d5_9 hb9 (by decide) (by decide) ?_
  refine own_dloadN (pc2 := 28) d5_27 rfl rfl ?_
  refine own_aloadN (pc2 := 29) d5_28 rfl rfl rfl ?_
  exact own_refl
theorem own_p4_3 (x : Addr) (dt : UInt64) (da : UInt64) (v32 : Int32) (hv32 : (cmpValue (FP.dcmp dt da) .g) = v32) (hb33 : ifCond.holds .gt v32 = true) :
    own_Go own_K5 prog_5_method_11_code 32 #[.val (.ref x), .val (.double dt), .second, .unset, .unset, .unset, .unset] [(.double da), (.double dt)] 40 #[.val (.ref x), .val (.double dt), .second, .unset, .unset, .unset, .unset] [(.ref x), (.double dt)] := by
  refine own_dcmp (pc2 := 33) d5_32 rfl (v := v32) hv32 ?_
  refine own_ifYes (pc' := 38) d5_33 hb33 (by decide) (by decide) ?_
  refine own_dloadN (pc2 := 39) d5_38 rfl rfl ?_
  refine own_aloadN (pc2 := 40) d5_39 rfl rfl rfl ?_
  exact own_refl
theorem own_p4_4 (x : Addr) (dt : UInt64) (dd : UInt64) (v43 : Int32) (hv43 : (cmpValue (FP.dcmp dt dd) .l) = v43) (hb44 : ifCond.holds .lt v43 = true) :
    own_Go own_K5 prog_5_method_11_code 43 #[.val (.ref x), .val (.double dt), .second, .unset, .unset, .unset, .unset] [(.double dd), (.double dt)] 50 #[.val (.ref x), .val (.double dt), .second, .unset, .unset, .unset, .unset] [(.ref x)] := by
  refine own_dcmp (pc2 := 44) d5_43 rfl (v := v43) hv43 ?_
  refine own_ifYes (pc' := 49) d5_44 hb44 (by decide) (by decide) ?_
  refine own_aloadN (pc2 := 50) d5_49 rfl rfl rfl ?_
  exact own_refl
theorem own_p4_5 (x : Addr) (dt : UInt64) (dd : UInt64) :
    own_Go own_K5 prog_5_method_11_code 53 #[.val (.ref x), .val (.double dt), .second, .unset, .unset, .unset, .unset] [(.double dd)] 54 #[.val (.ref x), .val (.double dt), .second, .unset, .unset, .unset, .unset] [(.ref x), (.double dd)] := by
  refine own_aloadN (pc2 := 54) d5_53 rfl rfl rfl ?_
  exact own_refl
theorem own_p4_6 (x : Addr) (dt : UInt64) (da : UInt64) (dd : UInt64) (v57 : UInt64) (hv57 : (FP.dsub dd da) = v57) (nn57 : NoNaN64 (FP.dsub dd da)) :
    own_Go own_K5 prog_5_method_11_code 57 #[.val (.ref x), .val (.double dt), .second, .unset, .unset, .unset, .unset] [(.double da), (.double dd)] 59 #[.val (.ref x), .val (.double dt), .second, .unset, .unset, .unset, .unset] [(.ref x), (.double v57)] := by
  refine own_dsub (pc2 := 58) d5_57 rfl nn57 (v := v57) hv57 ?_
  refine own_aloadN (pc2 := 59) d5_58 rfl rfl rfl ?_
  exact own_refl
theorem own_p4_7 (x : Addr) (dt : UInt64) (dc : UInt64) (v57 : UInt64) :
    own_Go own_K5 prog_5_method_11_code 62 #[.val (.ref x), .val (.double dt), .second, .unset, .unset, .unset, .unset] [(.double dc), (.double v57)] 63 #[.val (.ref x), .val (.double dt), .second, .unset, .unset, .unset, .unset] [(.ref x), (.double dc), (.double v57)] := by
  refine own_aloadN (pc2 := 63) d5_62 rfl rfl rfl ?_
  exact own_refl
theorem own_p4_8 (x : Addr) (dt : UInt64) (db : UInt64) (dc : UInt64) (v57 : UInt64) (v66 : UInt64) (hv66 : (FP.dsub dc db) = v66) (nn66 : NoNaN64 (FP.dsub dc db)) (v67 : UInt64) (hv67 : (FP.dadd v57 v66) = v67) (nn67 : NoNaN64 (FP.dadd v57 v66)) :
    own_Go own_K5 prog_5_method_11_code 66 #[.val (.ref x), .val (.double dt), .second, .unset, .unset, .unset, .unset] [(.double db), (.double dc), (.double v57)] 71 #[.val (.ref x), .val (.double dt), .second, .val (.double v67), .second, .unset, .unset] [(.ref x), (.double dt)] := by
  refine own_dsub (pc2 := 67) d5_66 rfl nn66 (v := v66) hv66 ?_
  refine own_dadd (pc2 := 68) d5_67 rfl nn67 (v := v67) hv67 ?_
  refine own_dstoreN (pc2 := 69) d5_68 rfl (L' := #[.val (.ref x), .val (.double dt), .second, .val (.double v67), .second, .unset, .unset]) rfl ?_
  refine own_dloadN (pc2 := 70) d5_69 rfl rfl ?_
  refine own_aloadN (pc2 := 71) d5_70 rfl rfl rfl ?_
  exact own_refl
theorem own_p4_9 (x : Addr) (dt : UInt64) (v67 : UInt64) (db : UInt64) (v74 : Int32) (hv74 : (cmpValue (FP.dcmp dt db) .g) = v74) (hb75 : ifCond.holds .ge v74 = true) :
    own_Go own_K5 prog_5_method_11_code 74 #[.val (.ref x), .val (.double dt), .second, .val (.double v67), .second, .unset, .unset] [(.double db), (.double dt)] 113 #[.val (.ref x), .val (.double dt), .second, .val (.double v67), .second, .unset, .unset] [(.ref x), (.double dt)] := by
  refine own_dcmp (pc2 := 75) d5_74 rfl (v := v74) hv74 ?_
  refine own_ifYes (pc' := 111) d5_75 hb75 (by decide) (by decide) ?_
  refine own_dloadN (pc2 := 112) d5_111 rfl rfl ?_
  refine own_aloadN (pc2 := 113) d5_112 rfl rfl rfl ?_
  exact own_refl
theorem own_p4_10 (x : Addr) (dt : UInt64) (v67 : UInt64) (dc : UInt64) (v116 : Int32) (hv116 : (cmpValue (FP.dcmp dt dc) .g) = v116) (hb117 : ifCond.holds .gt v116 = true) :
    own_Go own_K5 prog_5_method_11_code 116 #[.val (.ref x), .val (.double dt), .second, .val (.double v67), .second, .unset, .unset] [(.double dc), (.double dt)] 144 #[.val (.ref x), .val (.double dt), .second, .val (.double v67), .second, .unset, .unset] [(.ref x)] := by
  refine own_dcmp (pc2 := 117) d5_116 rfl (v := v116) hv116 ?_
  refine own_ifYes (pc' := 143) d5_117 hb117 (by decide) (by decide) ?_
  refine own_aloadN (pc2 := 144) d5_143 rfl rfl rfl ?_
  exact own_refl
theorem own_p4_11 (x : Addr) (dt : UInt64) (v67 : UInt64) (dd : UInt64) (v148 : UInt64) (hv148 : (FP.dsub dd dt) = v148) (nn148 : NoNaN64 (FP.dsub dd dt)) :
    own_Go own_K5 prog_5_method_11_code 147 #[.val (.ref x), .val (.double dt), .second, .val (.double v67), .second, .unset, .unset] [(.double dd)] 150 #[.val (.ref x), .val (.double dt), .second, .val (.double v67), .second, .unset, .unset] [(.ref x), (.double v148)] := by
  refine own_dloadN (pc2 := 148) d5_147 rfl rfl ?_
  refine own_dsub (pc2 := 149) d5_148 rfl nn148 (v := v148) hv148 ?_
  refine own_aloadN (pc2 := 150) d5_149 rfl rfl rfl ?_
  exact own_refl
theorem own_p4_12 (x : Addr) (dt : UInt64) (v67 : UInt64) (dd : UInt64) (v148 : UInt64) (v154 : UInt64) (hv154 : (FP.dsub dd dt) = v154) (nn154 : NoNaN64 (FP.dsub dd dt)) (v155 : UInt64) (hv155 : (FP.dmul v148 v154) = v155) (nn155 : NoNaN64 (FP.dmul v148 v154)) :
    own_Go own_K5 prog_5_method_11_code 153 #[.val (.ref x), .val (.double dt), .second, .val (.double v67), .second, .unset, .unset] [(.double dd), (.double v148)] 157 #[.val (.ref x), .val (.double dt), .second, .val (.double v67), .second, .unset, .unset] [(.ref x), (.double v155)] := by
  refine own_dloadN (pc2 := 154) d5_153 rfl rfl ?_
  refine own_dsub (pc2 := 155) d5_154 rfl nn154 (v := v154) hv154 ?_
  refine own_dmul (pc2 := 156) d5_155 rfl nn155 (v := v155) hv155 ?_
  refine own_aloadN (pc2 := 157) d5_156 rfl rfl rfl ?_
  exact own_refl
theorem own_p4_13 (x : Addr) (dt : UInt64) (v67 : UInt64) (dd : UInt64) (v155 : UInt64) :
    own_Go own_K5 prog_5_method_11_code 160 #[.val (.ref x), .val (.double dt), .second, .val (.double v67), .second, .unset, .unset] [(.double dd), (.double v155)] 161 #[.val (.ref x), .val (.double dt), .second, .val (.double v67), .second, .unset, .unset] [(.ref x), (.double dd), (.double v155)] := by
  refine own_aloadN (pc2 := 161) d5_160 rfl rfl rfl ?_
  exact own_refl
theorem own_p4_14 (x : Addr) (dt : UInt64) (v67 : UInt64) (dc : UInt64) (dd : UInt64) (v155 : UInt64) (v164 : UInt64) (hv164 : (FP.dsub dd dc) = v164) (nn164 : NoNaN64 (FP.dsub dd dc)) (v166 : UInt64) (hv166 : (FP.dmul v164 v67) = v166) (nn166 : NoNaN64 (FP.dmul v164 v67)) (v167 : UInt64) (hv167 : (FP.ddiv v155 v166) = v167) (nn167 : NoNaN64 (FP.ddiv v155 v166)) :
    own_Go own_K5 prog_5_method_11_code 164 #[.val (.ref x), .val (.double dt), .second, .val (.double v67), .second, .unset, .unset] [(.double dc), (.double dd), (.double v155)] 168 #[.val (.ref x), .val (.double dt), .second, .val (.double v67), .second, .unset, .unset] [(.double v167)] := by
  refine own_dsub (pc2 := 165) d5_164 rfl nn164 (v := v164) hv164 ?_
  refine own_dloadN (pc2 := 166) d5_165 rfl rfl ?_
  refine own_dmul (pc2 := 167) d5_166 rfl nn166 (v := v166) hv166 ?_
  refine own_ddiv (pc2 := 168) d5_167 rfl nn167 (v := v167) hv167 ?_
  exact own_refl
set_option maxRecDepth 65536 in
set_option maxHeartbeats 4000000 in
theorem own_pref (l : Launch) (Z : State) (a0 : Array Value) (hb0 : Heap) (hw : ∀ d ∈ tables_1, d.before a0 Z = true) (x : Addr) (dt : UInt64) (da db dc dd : UInt64) (A p' q r s' : Int) (ha : own_is da (A : Rat)) (hdb : own_is db ((A + p' : Int) : Rat)) (hdc : own_is dc ((A + p' + q : Int) : Rat)) (hdd : own_is dd ((A + p' + q + r : Int) : Rat)) (ht : own_is dt ((A + s' : Int) : Rat)) (kA : A.natAbs ≤ 2147483648) (p0 : 0 ≤ p') (p1 : p' ≤ 65535) (q0 : 0 ≤ q) (q1 : q ≤ 65535) (r0 : 0 ≤ r) (r1 : r ≤ 65535) (s0 : s'.natAbs ≤ 200000) :
    own_Met l Z a0 hb0 (⟨"com/example/hazeline/hazeline/fuzzy/Trapezoid", "preferenceRatio", "(D)D"⟩ : MethodName) prog_5_method_11_code 7 (some .double) [] ({ frames := 0, cells := 0, slots := 0, locals := 0 } : Room) #[.ref x, .double dt] [(x, own_O "com/example/hazeline/hazeline/fuzzy/Trapezoid" [("com/example/hazeline/hazeline/fuzzy/Trapezoid", "a", "D", .double da), ("com/example/hazeline/hazeline/fuzzy/Trapezoid", "b", "D", .double db), ("com/example/hazeline/hazeline/fuzzy/Trapezoid", "c", "D", .double dc), ("com/example/hazeline/hazeline/fuzzy/Trapezoid", "d", "D", .double dd)])] (fun v cs' => (∃ z, v = some (.double z) ∧ own_rd z (own_rho p' q r s')) ∧ cs' = [(x, own_O "com/example/hazeline/hazeline/fuzzy/Trapezoid" [("com/example/hazeline/hazeline/fuzzy/Trapezoid", "a", "D", .double da), ("com/example/hazeline/hazeline/fuzzy/Trapezoid", "b", "D", .double db), ("com/example/hazeline/hazeline/fuzzy/Trapezoid", "c", "D", .double dc), ("com/example/hazeline/hazeline/fuzzy/Trapezoid", "d", "D", .double dd)])]) := by
  refine own_met_of (L0 := #[.val (.ref x), .val (.double dt), .second, .unset, .unset, .unset, .unset]) (plainFor_of_name own_pn5) (fun m => own_ef5 m x dt) ?_
  intro p e s m below meth c T0 hx hZ hown hby hml hnm H0
  have cad := own_ci ha hdd .l
  have cat := own_ci ha ht .l
  have cta := own_ci ht ha .g
  have ctd := own_ci ht hdd .l
  have ctb := own_ci ht hdb .g
  have ctc := own_ci ht hdc .g
  unfold own_rho
  by_cases h0 : p' + q + r = 0
  · obtain ⟨Tpz1, Hpz1, stpz1⟩ := own_getF H0 hx hZ hown (hw _ (List.mem_of_getElem? (i := 20) rfl)) 0 0 rfl rfl (g := (mkF m 1 #[.val (.ref x), .val (.double dt), .second, .unset, .unset, .unset, .unset] [(.ref x)])) rfl rfl (hb hby d5_1)
    change own_S _ _ _ _ _ _ _ _ _ _ _ _ _ _ [(x, own_O "com/example/hazeline/hazeline/fuzzy/Trapezoid" [("com/example/hazeline/hazeline/fuzzy/Trapezoid", "a", "D", .double da), ("com/example/hazeline/hazeline/fuzzy/Trapezoid", "b", "D", .double db), ("com/example/hazeline/hazeline/fuzzy/Trapezoid", "c", "D", .double dc), ("com/example/hazeline/hazeline/fuzzy/Trapezoid", "d", "D", .double dd)])] _ _ at Hpz1
    obtain ⟨Tpz2, Hpz2, stpz2⟩ := own_getF Hpz1 hx hZ hown (hw _ (List.mem_of_getElem? (i := 26) rfl)) 0 3 rfl rfl (g := (mkF m 5 #[.val (.ref x), .val (.double dt), .second, .unset, .unset, .unset, .unset] [(.ref x), (.double da)])) rfl rfl (hb hby d5_5)
    change own_S _ _ _ _ _ _ _ _ _ _ _ _ _ _ [(x, own_O "com/example/hazeline/hazeline/fuzzy/Trapezoid" [("com/example/hazeline/hazeline/fuzzy/Trapezoid", "a", "D", .double da), ("com/example/hazeline/hazeline/fuzzy/Trapezoid", "b", "D", .double db), ("com/example/hazeline/hazeline/fuzzy/Trapezoid", "c", "D", .double dc), ("com/example/hazeline/hazeline/fuzzy/Trapezoid", "d", "D", .double dd)])] _ _ at Hpz2
    obtain ⟨v8, hv8⟩ : ∃ z : Int32, (cmpValue (FP.dcmp da dd) .l) = z := ⟨_, rfl⟩
    obtain ⟨Tpz3, Hpz3, stpz3⟩ := own_getF Hpz2 hx hZ hown (hw _ (List.mem_of_getElem? (i := 20) rfl)) 0 0 rfl rfl (g := (mkF m 13 #[.val (.ref x), .val (.double dt), .second, .unset, .unset, .unset, .unset] [(.ref x)])) rfl rfl (hb hby d5_13)
    change own_S _ _ _ _ _ _ _ _ _ _ _ _ _ _ [(x, own_O "com/example/hazeline/hazeline/fuzzy/Trapezoid" [("com/example/hazeline/hazeline/fuzzy/Trapezoid", "a", "D", .double da), ("com/example/hazeline/hazeline/fuzzy/Trapezoid", "b", "D", .double db), ("com/example/hazeline/hazeline/fuzzy/Trapezoid", "c", "D", .double dc), ("com/example/hazeline/hazeline/fuzzy/Trapezoid", "d", "D", .double dd)])] _ _ at Hpz3
    obtain ⟨v17, hv17⟩ : ∃ z : Int32, (cmpValue (FP.dcmp da dt) .l) = z := ⟨_, rfl⟩
    obtain ⟨t26_0, ht26_0⟩ : ∃ z : UInt64, (bif ifCond.holds .le v17 then (0 : UInt64) else (4607182418800017408 : UInt64)) = z := ⟨_, rfl⟩
    have hb9 : ifCond.holds .ne v8 = false := by rw [← hv8, cad.2.2.2.2]; simp; omega
    have hz : own_rd t26_0 (if s' < 0 then 1 else 0) := by
      rw [← ht26_0, ← hv17, cat.2.1]
      by_cases h : s' < 0
      · have : ¬ A ≤ A + s' := by omega
        simp only [h, if_true, this, decide_false, cond_false]; exact own_rd_of own_one
      · have : A ≤ A + s' := by omega
        simp only [h, if_false, this, decide_true, cond_true]; exact own_rd_of own_zero
    refine ⟨_, _, _, _, 26, #[.val (.ref x), .val (.double dt), .second, .unset, .unset, .unset, .unset], Hpz3, by decide, by decide, Or.inr ⟨.double, (.double t26_0), [], .dreturn, rfl, ⟨⟨t26_0, rfl, by rw [if_pos h0]; exact hz⟩, rfl⟩, d5_26, own_retD _, fun target q => ?_⟩⟩
    refine own_go H0 hx hZ hown hby hw own_K5_ok (own_pz0 x dt) _ ?_
    refine stpz1 _ ?_
    refine own_go Hpz1 hx hZ hown hby hw own_K5_ok (own_pz1 x dt da) _ ?_
    refine stpz2 _ ?_
    refine own_go Hpz2 hx hZ hown hby hw own_K5_ok (own_pz2 x dt dd da v8 hv8 hb9) _ ?_
    refine stpz3 _ ?_
    refine own_go Hpz3 hx hZ hown hby hw own_K5_ok (own_pz3 x dt da v17 hv17) _ ?_
    refine own_go Hpz3 hx hZ hown hby hw own_K5_ok (own_pz4 x dt v17 t26_0 ht26_0) _ ?_
    exact q
  · by_cases h1 : s' ≤ 0
    · obtain ⟨Tp0_1, Hp0_1, stp0_1⟩ := own_getF H0 hx hZ hown (hw _ (List.mem_of_getElem? (i := 20) rfl)) 0 0 rfl rfl (g := (mkF m 1 #[.val (.ref x), .val (.double dt), .second, .unset, .unset, .unset, .unset] [(.ref x)])) rfl rfl (hb hby d5_1)
      change own_S _ _ _ _ _ _ _ _ _ _ _ _ _ _ [(x, own_O "com/example/hazeline/hazeline/fuzzy/Trapezoid" [("com/example/hazeline/hazeline/fuzzy/Trapezoid", "a", "D", .double da), ("com/example/hazeline/hazeline/fuzzy/Trapezoid", "b", "D", .double db), ("com/example/hazeline/hazeline/fuzzy/Trapezoid", "c", "D", .double dc), ("com/example/hazeline/hazeline/fuzzy/Trapezoid", "d", "D", .double dd)])] _ _ at Hp0_1
      obtain ⟨Tp0_2, Hp0_2, stp0_2⟩ := own_getF Hp0_1 hx hZ hown (hw _ (List.mem_of_getElem? (i := 26) rfl)) 0 3 rfl rfl (g := (mkF m 5 #[.val (.ref x), .val (.double dt), .second, .unset, .unset, .unset, .unset] [(.ref x), (.double da)])) rfl rfl (hb hby d5_5)
      change own_S _ _ _ _ _ _ _ _ _ _ _ _ _ _ [(x, own_O "com/example/hazeline/hazeline/fuzzy/Trapezoid" [("com/example/hazeline/hazeline/fuzzy/Trapezoid", "a", "D", .double da), ("com/example/hazeline/hazeline/fuzzy/Trapezoid", "b", "D", .double db), ("com/example/hazeline/hazeline/fuzzy/Trapezoid", "c", "D", .double dc), ("com/example/hazeline/hazeline/fuzzy/Trapezoid", "d", "D", .double dd)])] _ _ at Hp0_2
      obtain ⟨v8, hv8⟩ : ∃ z : Int32, (cmpValue (FP.dcmp da dd) .l) = z := ⟨_, rfl⟩
      obtain ⟨Tp0_3, Hp0_3, stp0_3⟩ := own_getF Hp0_2 hx hZ hown (hw _ (List.mem_of_getElem? (i := 20) rfl)) 0 0 rfl rfl (g := (mkF m 29 #[.val (.ref x), .val (.double dt), .second, .unset, .unset, .unset, .unset] [(.ref x), (.double dt)])) rfl rfl (hb hby d5_29)
      change own_S _ _ _ _ _ _ _ _ _ _ _ _ _ _ [(x, own_O "com/example/hazeline/hazeline/fuzzy/Trapezoid" [("com/example/hazeline/hazeline/fuzzy/Trapezoid", "a", "D", .double da), ("com/example/hazeline/hazeline/fuzzy/Trapezoid", "b", "D", .double db), ("com/example/hazeline/hazeline/fuzzy/Trapezoid", "c", "D", .double dc), ("com/example/hazeline/hazeline/fuzzy/Trapezoid", "d", "D", .double dd)])] _ _ at Hp0_3
      obtain ⟨v32, hv32⟩ : ∃ z : Int32, (cmpValue (FP.dcmp dt da) .g) = z := ⟨_, rfl⟩
      have hb9 : ifCond.holds .ne v8 = true := by rw [← hv8, cad.2.2.2.2]; simp; omega
      have hb33 : ifCond.holds .gt v32 = false := by rw [← hv32, cta.2.2.1]; simp; omega
      refine ⟨_, _, _, _, 37, #[.val (.ref x), .val (.double dt), .second, .unset, .unset, .unset, .unset], Hp0_3, by decide, by decide, Or.inr ⟨.double, (.double (4607182418800017408 : UInt64)), [], .dreturn, rfl, ⟨⟨_, rfl, by rw [if_neg h0, if_pos h1]; exact own_rd_of own_one⟩, rfl⟩, d5_37, own_retD _, fun target q => ?_⟩⟩
      refine own_go H0 hx hZ hown hby hw own_K5_ok (own_p0_0 x dt) _ ?_
      refine stp0_1 _ ?_
      refine own_go Hp0_1 hx hZ hown hby hw own_K5_ok (own_p0_1 x dt da) _ ?_
      refine stp0_2 _ ?_
      refine own_go Hp0_2 hx hZ hown hby hw own_K5_ok (own_p0_2 x dt dd da v8 hv8 hb9) _ ?_
      refine stp0_3 _ ?_
      refine own_go Hp0_3 hx hZ hown hby hw own_K5_ok (own_p0_3 x dt da v32 hv32 hb33) _ ?_
      exact q
    · by_cases h2 : p' + q + r ≤ s'
      · obtain ⟨Tp1_1, Hp1_1, stp1_1⟩ := own_getF H0 hx hZ hown (hw _ (List.mem_of_getElem? (i := 20) rfl)) 0 0 rfl rfl (g := (mkF m 1 #[.val (.ref x), .val (.double dt), .second, .unset, .unset, .unset, .unset] [(.ref x)])) rfl rfl (hb hby d5_1)
        change own_S _ _ _ _ _ _ _ _ _ _ _ _ _ _ [(x, own_O "com/example/hazeline/hazeline/fuzzy/Trapezoid" [("com/example/hazeline/hazeline/fuzzy/Trapezoid", "a", "D", .double da), ("com/example/hazeline/hazeline/fuzzy/Trapezoid", "b", "D", .double db), ("com/example/hazeline/hazeline/fuzzy/Trapezoid", "c", "D", .double dc), ("com/example/hazeline/hazeline/fuzzy/Trapezoid", "d", "D", .double dd)])] _ _ at Hp1_1
        obtain ⟨Tp1_2, Hp1_2, stp1_2⟩ := own_getF Hp1_1 hx hZ hown (hw _ (List.mem_of_getElem? (i := 26) rfl)) 0 3 rfl rfl (g := (mkF m 5 #[.val (.ref x), .val (.double dt), .second, .unset, .unset, .unset, .unset] [(.ref x), (.double da)])) rfl rfl (hb hby d5_5)
        change own_S _ _ _ _ _ _ _ _ _ _ _ _ _ _ [(x, own_O "com/example/hazeline/hazeline/fuzzy/Trapezoid" [("com/example/hazeline/hazeline/fuzzy/Trapezoid", "a", "D", .double da), ("com/example/hazeline/hazeline/fuzzy/Trapezoid", "b", "D", .double db), ("com/example/hazeline/hazeline/fuzzy/Trapezoid", "c", "D", .double dc), ("com/example/hazeline/hazeline/fuzzy/Trapezoid", "d", "D", .double dd)])] _ _ at Hp1_2
        obtain ⟨v8, hv8⟩ : ∃ z : Int32, (cmpValue (FP.dcmp da dd) .l) = z := ⟨_, rfl⟩
        obtain ⟨Tp1_3, Hp1_3, stp1_3⟩ := own_getF Hp1_2 hx hZ hown (hw _ (List.mem_of_getElem? (i := 20) rfl)) 0 0 rfl rfl (g := (mkF m 29 #[.val (.ref x), .val (.double dt), .second, .unset, .unset, .unset, .unset] [(.ref x), (.double dt)])) rfl rfl (hb hby d5_29)
        change own_S _ _ _ _ _ _ _ _ _ _ _ _ _ _ [(x, own_O "com/example/hazeline/hazeline/fuzzy/Trapezoid" [("com/example/hazeline/hazeline/fuzzy/Trapezoid", "a", "D", .double da), ("com/example/hazeline/hazeline/fuzzy/Trapezoid", "b", "D", .double db), ("com/example/hazeline/hazeline/fuzzy/Trapezoid", "c", "D", .double dc), ("com/example/hazeline/hazeline/fuzzy/Trapezoid", "d", "D", .double dd)])] _ _ at Hp1_3
        obtain ⟨v32, hv32⟩ : ∃ z : Int32, (cmpValue (FP.dcmp dt da) .g) = z := ⟨_, rfl⟩
        obtain ⟨Tp1_4, Hp1_4, stp1_4⟩ := own_getF Hp1_3 hx hZ hown (hw _ (List.mem_of_getElem? (i := 26) rfl)) 0 3 rfl rfl (g := (mkF m 40 #[.val (.ref x), .val (.double dt), .second, .unset, .unset, .unset, .unset] [(.ref x), (.double dt)])) rfl rfl (hb hby d5_40)
        change own_S _ _ _ _ _ _ _ _ _ _ _ _ _ _ [(x, own_O "com/example/hazeline/hazeline/fuzzy/Trapezoid" [("com/example/hazeline/hazeline/fuzzy/Trapezoid", "a", "D", .double da), ("com/example/hazeline/hazeline/fuzzy/Trapezoid", "b", "D", .double db), ("com/example/hazeline/hazeline/fuzzy/Trapezoid", "c", "D", .double dc), ("com/example/hazeline/hazeline/fuzzy/Trapezoid", "d", "D", .double dd)])] _ _ at Hp1_4
        obtain ⟨v43, hv43⟩ : ∃ z : Int32, (cmpValue (FP.dcmp dt dd) .l) = z := ⟨_, rfl⟩
        have hb9 : ifCond.holds .ne v8 = true := by rw [← hv8, cad.2.2.2.2]; simp; omega
        have hb33 : ifCond.holds .gt v32 = true := by rw [← hv32, cta.2.2.1]; simp; omega
        have hb44 : ifCond.holds .lt v43 = false := by rw [← hv43, ctd.1]; simp; omega
        refine ⟨_, _, _, _, 48, #[.val (.ref x), .val (.double dt), .second, .unset, .unset, .unset, .unset], Hp1_4, by decide, by decide, Or.inr ⟨.double, (.double (0 : UInt64)), [], .dreturn, rfl, ⟨⟨_, rfl, by rw [if_neg h0, if_neg h1, if_pos h2]; exact own_rd_of own_zero⟩, rfl⟩, d5_48, own_retD _, fun target q => ?_⟩⟩
        refine own_go H0 hx hZ hown hby hw own_K5_ok (own_p1_0 x dt) _ ?_
        refine stp1_1 _ ?_
        refine own_go Hp1_1 hx hZ hown hby hw own_K5_ok (own_p1_1 x dt da) _ ?_
        refine stp1_2 _ ?_
        refine own_go Hp1_2 hx hZ hown hby hw own_K5_ok (own_p1_2 x dt dd da v8 hv8 hb9) _ ?_
        refine stp1_3 _ ?_
        refine own_go Hp1_3 hx hZ hown hby hw own_K5_ok (own_p1_3 x dt da v32 hv32 hb33) _ ?_
        refine stp1_4 _ ?_
        refine own_go Hp1_4 hx hZ hown hby hw own_K5_ok (own_p1_4 x dt dd v43 hv43 hb44) _ ?_
        exact q
      · by_cases h3 : s' < p'
        · obtain ⟨Tp2_1, Hp2_1, stp2_1⟩ := own_getF H0 hx hZ hown (hw _ (List.mem_of_getElem? (i := 20) rfl)) 0 0 rfl rfl (g := (mkF m 1 #[.val (.ref x), .val (.double dt), .second, .unset, .unset, .unset, .unset] [(.ref x)])) rfl rfl (hb hby d5_1)
          change own_S _ _ _ _ _ _ _ _ _ _ _ _ _ _ [(x, own_O "com/example/hazeline/hazeline/fuzzy/Trapezoid" [("com/example/hazeline/hazeline/fuzzy/Trapezoid", "a", "D", .double da), ("com/example/hazeline/hazeline/fuzzy/Trapezoid", "b", "D", .double db), ("com/example/hazeline/hazeline/fuzzy/Trapezoid", "c", "D", .double dc), ("com/example/hazeline/hazeline/fuzzy/Trapezoid", "d", "D", .double dd)])] _ _ at Hp2_1
          obtain ⟨Tp2_2, Hp2_2, stp2_2⟩ := own_getF Hp2_1 hx hZ hown (hw _ (List.mem_of_getElem? (i := 26) rfl)) 0 3 rfl rfl (g := (mkF m 5 #[.val (.ref x), .val (.double dt), .second, .unset, .unset, .unset, .unset] [(.ref x), (.double da)])) rfl rfl (hb hby d5_5)
          change own_S _ _ _ _ _ _ _ _ _ _ _ _ _ _ [(x, own_O "com/example/hazeline/hazeline/fuzzy/Trapezoid" [("com/example/hazeline/hazeline/fuzzy/Trapezoid", "a", "D", .double da), ("com/example/hazeline/hazeline/fuzzy/Trapezoid", "b", "D", .double db), ("com/example/hazeline/hazeline/fuzzy/Trapezoid", "c", "D", .double dc), ("com/example/hazeline/hazeline/fuzzy/Trapezoid", "d", "D", .double dd)])] _ _ at Hp2_2
          obtain ⟨v8, hv8⟩ : ∃ z : Int32, (cmpValue (FP.dcmp da dd) .l) = z := ⟨_, rfl⟩
          obtain ⟨Tp2_3, Hp2_3, stp2_3⟩ := own_getF Hp2_2 hx hZ hown (hw _ (List.mem_of_getElem? (i := 20) rfl)) 0 0 rfl rfl (g := (mkF m 29 #[.val (.ref x), .val (.double dt), .second, .unset, .unset, .unset, .unset] [(.ref x), (.double dt)])) rfl rfl (hb hby d5_29)
          change own_S _ _ _ _ _ _ _ _ _ _ _ _ _ _ [(x, own_O "com/example/hazeline/hazeline/fuzzy/Trapezoid" [("com/example/hazeline/hazeline/fuzzy/Trapezoid", "a", "D", .double da), ("com/example/hazeline/hazeline/fuzzy/Trapezoid", "b", "D", .double db), ("com/example/hazeline/hazeline/fuzzy/Trapezoid", "c", "D", .double dc), ("com/example/hazeline/hazeline/fuzzy/Trapezoid", "d", "D", .double dd)])] _ _ at Hp2_3
          obtain ⟨v32, hv32⟩ : ∃ z : Int32, (cmpValue (FP.dcmp dt da) .g) = z := ⟨_, rfl⟩
          obtain ⟨Tp2_4, Hp2_4, stp2_4⟩ := own_getF Hp2_3 hx hZ hown (hw _ (List.mem_of_getElem? (i := 26) rfl)) 0 3 rfl rfl (g := (mkF m 40 #[.val (.ref x), .val (.double dt), .second, .unset, .unset, .unset, .unset] [(.ref x), (.double dt)])) rfl rfl (hb hby d5_40)
          change own_S _ _ _ _ _ _ _ _ _ _ _ _ _ _ [(x, own_O "com/example/hazeline/hazeline/fuzzy/Trapezoid" [("com/example/hazeline/hazeline/fuzzy/Trapezoid", "a", "D", .double da), ("com/example/hazeline/hazeline/fuzzy/Trapezoid", "b", "D", .double db), ("com/example/hazeline/hazeline/fuzzy/Trapezoid", "c", "D", .double dc), ("com/example/hazeline/hazeline/fuzzy/Trapezoid", "d", "D", .double dd)])] _ _ at Hp2_4
          obtain ⟨v43, hv43⟩ : ∃ z : Int32, (cmpValue (FP.dcmp dt dd) .l) = z := ⟨_, rfl⟩
          obtain ⟨Tp2_5, Hp2_5, stp2_5⟩ := own_getF Hp2_4 hx hZ hown (hw _ (List.mem_of_getElem? (i := 26) rfl)) 0 3 rfl rfl (g := (mkF m 50 #[.val (.ref x), .val (.double dt), .second, .unset, .unset, .unset, .unset] [(.ref x)])) rfl rfl (hb hby d5_50)
          change own_S _ _ _ _ _ _ _ _ _ _ _ _ _ _ [(x, own_O "com/example/hazeline/hazeline/fuzzy/Trapezoid" [("com/example/hazeline/hazeline/fuzzy/Trapezoid", "a", "D", .double da), ("com/example/hazeline/hazeline/fuzzy/Trapezoid", "b", "D", .double db), ("com/example/hazeline/hazeline/fuzzy/Trapezoid", "c", "D", .double dc), ("com/example/hazeline/hazeline/fuzzy/Trapezoid", "d", "D", .double dd)])] _ _ at Hp2_5
          obtain ⟨Tp2_6, Hp2_6, stp2_6⟩ := own_getF Hp2_5 hx hZ hown (hw _ (List.mem_of_getElem? (i := 20) rfl)) 0 0 rfl rfl (g := (mkF m 54 #[.val (.ref x), .val (.double dt), .second, .unset, .unset, .unset, .unset] [(.ref x), (.double dd)])) rfl rfl (hb hby d5_54)
          change own_S _ _ _ _ _ _ _ _ _ _ _ _ _ _ [(x, own_O "com/example/hazeline/hazeline/fuzzy/Trapezoid" [("com/example/hazeline/hazeline/fuzzy/Trapezoid", "a", "D", .double da), ("com/example/hazeline/hazeline/fuzzy/Trapezoid", "b", "D", .double db), ("com/example/hazeline/hazeline/fuzzy/Trapezoid", "c", "D", .double dc), ("com/example/hazeline/hazeline/fuzzy/Trapezoid", "d", "D", .double dd)])] _ _ at Hp2_6
          obtain ⟨v57, hv57⟩ : ∃ z : UInt64, (FP.dsub dd da) = z := ⟨_, rfl⟩
          obtain ⟨Tp2_7, Hp2_7, stp2_7⟩ := own_getF Hp2_6 hx hZ hown (hw _ (List.mem_of_getElem? (i := 24) rfl)) 0 2 rfl rfl (g := (mkF m 59 #[.val (.ref x), .val (.double dt), .second, .unset, .unset, .unset, .unset] [(.ref x), (.double v57)])) rfl rfl (hb hby d5_59)
          change own_S _ _ _ _ _ _ _ _ _ _ _ _ _ _ [(x, own_O "com/example/hazeline/hazeline/fuzzy/Trapezoid" [("com/example/hazeline/hazeline/fuzzy/Trapezoid", "a", "D", .double da), ("com/example/hazeline/hazeline/fuzzy/Trapezoid", "b", "D", .double db), ("com/example/hazeline/hazeline/fuzzy/Trapezoid", "c", "D", .double dc), ("com/example/hazeline/hazeline/fuzzy/Trapezoid", "d", "D", .double dd)])] _ _ at Hp2_7
          obtain ⟨Tp2_8, Hp2_8, stp2_8⟩ := own_getF Hp2_7 hx hZ hown (hw _ (List.mem_of_getElem? (i := 22) rfl)) 0 1 rfl rfl (g := (mkF m 63 #[.val (.ref x), .val (.double dt), .second, .unset, .unset, .unset, .unset] [(.ref x), (.double dc), (.double v57)])) rfl rfl (hb hby d5_63)
          change own_S _ _ _ _ _ _ _ _ _ _ _ _ _ _ [(x, own_O "com/example/hazeline/hazeline/fuzzy/Trapezoid" [("com/example/hazeline/hazeline/fuzzy/Trapezoid", "a", "D", .double da), ("com/example/hazeline/hazeline/fuzzy/Trapezoid", "b", "D", .double db), ("com/example/hazeline/hazeline/fuzzy/Trapezoid", "c", "D", .double dc), ("com/example/hazeline/hazeline/fuzzy/Trapezoid", "d", "D", .double dd)])] _ _ at Hp2_8
          obtain ⟨v66, hv66⟩ : ∃ z : UInt64, (FP.dsub dc db) = z := ⟨_, rfl⟩
          obtain ⟨v67, hv67⟩ : ∃ z : UInt64, (FP.dadd v57 v66) = z := ⟨_, rfl⟩
          obtain ⟨Tp2_9, Hp2_9, stp2_9⟩ := own_getF Hp2_8 hx hZ hown (hw _ (List.mem_of_getElem? (i := 22) rfl)) 0 1 rfl rfl (g := (mkF m 71 #[.val (.ref x), .val (.double dt), .second, .val (.double v67), .second, .unset, .unset] [(.ref x), (.double dt)])) rfl rfl (hb hby d5_71)
          change own_S _ _ _ _ _ _ _ _ _ _ _ _ _ _ [(x, own_O "com/example/hazeline/hazeline/fuzzy/Trapezoid" [("com/example/hazeline/hazeline/fuzzy/Trapezoid", "a", "D", .double da), ("com/example/hazeline/hazeline/fuzzy/Trapezoid", "b", "D", .double db), ("com/example/hazeline/hazeline/fuzzy/Trapezoid", "c", "D", .double dc), ("com/example/hazeline/hazeline/fuzzy/Trapezoid", "d", "D", .double dd)])] _ _ at Hp2_9
          obtain ⟨v74, hv74⟩ : ∃ z : Int32, (cmpValue (FP.dcmp dt db) .g) = z := ⟨_, rfl⟩
          obtain ⟨Tp2_10, Hp2_10, stp2_10⟩ := own_getF Hp2_9 hx hZ hown (hw _ (List.mem_of_getElem? (i := 22) rfl)) 0 1 rfl rfl (g := (mkF m 79 #[.val (.ref x), .val (.double dt), .second, .val (.double v67), .second, .unset, .unset] [(.ref x)])) rfl rfl (hb hby d5_79)
          change own_S _ _ _ _ _ _ _ _ _ _ _ _ _ _ [(x, own_O "com/example/hazeline/hazeline/fuzzy/Trapezoid" [("com/example/hazeline/hazeline/fuzzy/Trapezoid", "a", "D", .double da), ("com/example/hazeline/hazeline/fuzzy/Trapezoid", "b", "D", .double db), ("com/example/hazeline/hazeline/fuzzy/Trapezoid", "c", "D", .double dc), ("com/example/hazeline/hazeline/fuzzy/Trapezoid", "d", "D", .double dd)])] _ _ at Hp2_10
          obtain ⟨Tp2_11, Hp2_11, stp2_11⟩ := own_getF Hp2_10 hx hZ hown (hw _ (List.mem_of_getElem? (i := 20) rfl)) 0 0 rfl rfl (g := (mkF m 83 #[.val (.ref x), .val (.double dt), .second, .val (.double v67), .second, .unset, .unset] [(.ref x), (.double db)])) rfl rfl (hb hby d5_83)
          change own_S _ _ _ _ _ _ _ _ _ _ _ _ _ _ [(x, own_O "com/example/hazeline/hazeline/fuzzy/Trapezoid" [("com/example/hazeline/hazeline/fuzzy/Trapezoid", "a", "D", .double da), ("com/example/hazeline/hazeline/fuzzy/Trapezoid", "b", "D", .double db), ("com/example/hazeline/hazeline/fuzzy/Trapezoid", "c", "D", .double dc), ("com/example/hazeline/hazeline/fuzzy/Trapezoid", "d", "D", .double dd)])] _ _ at Hp2_11
          obtain ⟨v86, hv86⟩ : ∃ z : UInt64, (FP.dsub db da) = z := ⟨_, rfl⟩
          obtain ⟨v88, hv88⟩ : ∃ z : UInt64, (FP.dmul v86 v67) = z := ⟨_, rfl⟩
          obtain ⟨Tp2_12, Hp2_12, stp2_12⟩ := own_getF Hp2_11 hx hZ hown (hw _ (List.mem_of_getElem? (i := 20) rfl)) 0 0 rfl rfl (g := (mkF m 95 #[.val (.ref x), .val (.double dt), .second, .val (.double v67), .second, .val (.double v88), .second] [(.ref x), (.double dt), (.double v88)])) rfl rfl (hb hby d5_95)
          change own_S _ _ _ _ _ _ _ _ _ _ _ _ _ _ [(x, own_O "com/example/hazeline/hazeline/fuzzy/Trapezoid" [("com/example/hazeline/hazeline/fuzzy/Trapezoid", "a", "D", .double da), ("com/example/hazeline/hazeline/fuzzy/Trapezoid", "b", "D", .double db), ("com/example/hazeline/hazeline/fuzzy/Trapezoid", "c", "D", .double dc), ("com/example/hazeline/hazeline/fuzzy/Trapezoid", "d", "D", .double dd)])] _ _ at Hp2_12
          obtain ⟨v98, hv98⟩ : ∃ z : UInt64, (FP.dsub dt da) = z := ⟨_, rfl⟩
          obtain ⟨Tp2_13, Hp2_13, stp2_13⟩ := own_getF Hp2_12 hx hZ hown (hw _ (List.mem_of_getElem? (i := 20) rfl)) 0 0 rfl rfl (g := (mkF m 101 #[.val (.ref x), .val (.double dt), .second, .val (.double v67), .second, .val (.double v88), .second] [(.ref x), (.double dt), (.double v98), (.double v88)])) rfl rfl (hb hby d5_101)
          change own_S _ _ _ _ _ _ _ _ _ _ _ _ _ _ [(x, own_O "com/example/hazeline/hazeline/fuzzy/Trapezoid" [("com/example/hazeline/hazeline/fuzzy/Trapezoid", "a", "D", .double da), ("com/example/hazeline/hazeline/fuzzy/Trapezoid", "b", "D", .double db), ("com/example/hazeline/hazeline/fuzzy/Trapezoid", "c", "D", .double dc), ("com/example/hazeline/hazeline/fuzzy/Trapezoid", "d", "D", .double dd)])] _ _ at Hp2_13
          obtain ⟨v104, hv104⟩ : ∃ z : UInt64, (FP.dsub dt da) = z := ⟨_, rfl⟩
          obtain ⟨v105, hv105⟩ : ∃ z : UInt64, (FP.dmul v98 v104) = z := ⟨_, rfl⟩
          obtain ⟨v106, hv106⟩ : ∃ z : UInt64, (FP.dsub v88 v105) = z := ⟨_, rfl⟩
          obtain ⟨v109, hv109⟩ : ∃ z : UInt64, (FP.ddiv v106 v88) = z := ⟨_, rfl⟩
          have hb9 : ifCond.holds .ne v8 = true := by rw [← hv8, cad.2.2.2.2]; simp; omega
          have hb33 : ifCond.holds .gt v32 = true := by rw [← hv32, cta.2.2.1]; simp; omega
          have hb44 : ifCond.holds .lt v43 = true := by rw [← hv43, ctd.1]; simp; omega
          have i57 : own_is v57 ((p' + q + r : Int) : Rat) := by rw [← hv57, show p' + q + r = (A + p' + q + r) - A by omega]; exact own_nsub hdd ha (by omega)
          have i66 : own_is v66 ((q : Int) : Rat) := by
            have := own_nsub hdc hdb (by omega)
            rw [hv66, show (A + p' + q) - (A + p') = q by omega] at this; exact this
          have i67 : own_is v67 ((p' + 2 * q + r : Int) : Rat) := by rw [← hv67, show p' + 2 * q + r = (p' + q + r) + q by omega]; exact own_nadd i57 i66 (by omega)
          have nn57 : NoNaN64 (FP.dsub dd da) := by rw [hv57]; exact own_is_no i57
          have nn66 : NoNaN64 (FP.dsub dc db) := by rw [hv66]; exact own_is_no i66
          have nn67 : NoNaN64 (FP.dadd v57 v66) := by rw [hv67]; exact own_is_no i67
          have hb75 : ifCond.holds .ge v74 = false := by rw [← hv74, ctb.2.2.2.1]; simp; omega
          have i86 : own_is v86 ((p' : Int) : Rat) := by
            have := own_nsub hdb ha (by omega)
            rw [hv86, show (A + p') - A = p' by omega] at this; exact this
          have n88 := own_nb (x := p') (y := p' + 2 * q + r) (X := 65535) (Y := 262140) (by omega) (by omega)
          have i88 : own_is v88 ((p' * (p' + 2 * q + r) : Int) : Rat) := by rw [← hv88]; exact own_nmul i86 i67 (by omega)
          have i98 : own_is v98 ((s' : Int) : Rat) := by
            have := own_nsub ht ha (by omega)
            rw [hv98, show (A + s') - A = s' by omega] at this; exact this
          have i104 : own_is v104 ((s' : Int) : Rat) := by rw [← hv104, hv98]; exact i98
          have n105 := own_nb (x := s') (y := s') (X := 65535) (Y := 65535) (by omega) (by omega)
          have i105 : own_is v105 ((s' * s' : Int) : Rat) := by rw [← hv105]; exact own_nmul i98 i104 (by omega)
          have i106 : own_is v106 ((p' * (p' + 2 * q + r) - s' * s' : Int) : Rat) := by rw [← hv106]; exact own_nsub i88 i105 (by omega)
          have hp : p' * (p' + 2 * q + r) ≠ 0 := Int.mul_ne_zero (by omega) (by omega)
          have q109 : own_rd v109 (((p' * (p' + 2 * q + r) - s' * s' : Int) : Rat) / ((p' * (p' + 2 * q + r) : Int) : Rat)) := by rw [← hv109]; exact own_ndiv i106 i88 hp
          have nn86 : NoNaN64 (FP.dsub db da) := by rw [hv86]; exact own_is_no i86
          have nn88 : NoNaN64 (FP.dmul v86 v67) := by rw [hv88]; exact own_is_no i88
          have nn98 : NoNaN64 (FP.dsub dt da) := by rw [hv98]; exact own_is_no i98
          have nn104 : NoNaN64 (FP.dsub dt da) := nn98
          have nn105 : NoNaN64 (FP.dmul v98 v104) := by rw [hv105]; exact own_is_no i105
          have nn106 : NoNaN64 (FP.dsub v88 v105) := by rw [hv106]; exact own_is_no i106
          have nn109 : NoNaN64 (FP.ddiv v106 v88) := by rw [hv109]; exact own_rd_no q109
          refine ⟨_, _, _, _, 110, #[.val (.ref x), .val (.double dt), .second, .val (.double v67), .second, .val (.double v88), .second], Hp2_13, by decide, by decide, Or.inr ⟨.double, (.double v109), [], .dreturn, rfl, ⟨⟨v109, rfl, by rw [if_neg h0, if_neg h1, if_neg h2, if_pos h3]; exact q109⟩, rfl⟩, d5_110, own_retD _, fun target q => ?_⟩⟩
          refine own_go H0 hx hZ hown hby hw own_K5_ok (own_p2_0 x dt) _ ?_
          refine stp2_1 _ ?_
          refine own_go Hp2_1 hx hZ hown hby hw own_K5_ok (own_p2_1 x dt da) _ ?_
          refine stp2_2 _ ?_
          refine own_go Hp2_2 hx hZ hown hby hw own_K5_ok (own_p2_2 x dt dd da v8 hv8 hb9) _ ?_
          refine stp2_3 _ ?_
          refine own_go Hp2_3 hx hZ hown hby hw own_K5_ok (own_p2_3 x dt da v32 hv32 hb33) _ ?_
          refine stp2_4 _ ?_
          refine own_go Hp2_4 hx hZ hown hby hw own_K5_ok (own_p2_4 x dt dd v43 hv43 hb44) _ ?_
          refine stp2_5 _ ?_
          refine own_go Hp2_5 hx hZ hown hby hw own_K5_ok (own_p2_5 x dt dd) _ ?_
          refine stp2_6 _ ?_
          refine own_go Hp2_6 hx hZ hown hby hw own_K5_ok (own_p2_6 x dt da dd v57 hv57 nn57) _ ?_
          refine stp2_7 _ ?_
          refine own_go Hp2_7 hx hZ hown hby hw own_K5_ok (own_p2_7 x dt dc v57) _ ?_
          refine stp2_8 _ ?_
          refine own_go Hp2_8 hx hZ hown hby hw own_K5_ok (own_p2_8 x dt db dc v57 v66 hv66 nn66 v67 hv67 nn67) _ ?_
          refine stp2_9 _ ?_
          refine own_go Hp2_9 hx hZ hown hby hw own_K5_ok (own_p2_9 x dt v67 db v74 hv74 hb75) _ ?_
          refine stp2_10 _ ?_
          refine own_go Hp2_10 hx hZ hown hby hw own_K5_ok (own_p2_10 x dt v67 db) _ ?_
          refine stp2_11 _ ?_
          refine own_go Hp2_11 hx hZ hown hby hw own_K5_ok (own_p2_11 x dt v67 da db v86 hv86 nn86 v88 hv88 nn88) _ ?_
          refine stp2_12 _ ?_
          refine own_go Hp2_12 hx hZ hown hby hw own_K5_ok (own_p2_12 x dt v67 v88 da v98 hv98 nn98) _ ?_
          refine stp2_13 _ ?_
          refine own_go Hp2_13 hx hZ hown hby hw own_K5_ok (own_p2_13 x dt v67 v88 da v98 v104 hv104 nn104 v105 hv105 nn105 v106 hv106 nn106 v109 hv109 nn109) _ ?_
          exact q
        · by_cases h4 : s' ≤ p' + q
          · obtain ⟨Tp3_1, Hp3_1, stp3_1⟩ := own_getF H0 hx hZ hown (hw _ (List.mem_of_getElem? (i := 20) rfl)) 0 0 rfl rfl (g := (mkF m 1 #[.val (.ref x), .val (.double dt), .second, .unset, .unset, .unset, .unset] [(.ref x)])) rfl rfl (hb hby d5_1)
            change own_S _ _ _ _ _ _ _ _ _ _ _ _ _ _ [(x, own_O "com/example/hazeline/hazeline/fuzzy/Trapezoid" [("com/example/hazeline/hazeline/fuzzy/Trapezoid", "a", "D", .double da), ("com/example/hazeline/hazeline/fuzzy/Trapezoid", "b", "D", .double db), ("com/example/hazeline/hazeline/fuzzy/Trapezoid", "c", "D", .double dc), ("com/example/hazeline/hazeline/fuzzy/Trapezoid", "d", "D", .double dd)])] _ _ at Hp3_1
            obtain ⟨Tp3_2, Hp3_2, stp3_2⟩ := own_getF Hp3_1 hx hZ hown (hw _ (List.mem_of_getElem? (i := 26) rfl)) 0 3 rfl rfl (g := (mkF m 5 #[.val (.ref x), .val (.double dt), .second, .unset, .unset, .unset, .unset] [(.ref x), (.double da)])) rfl rfl (hb hby d5_5)
            change own_S _ _ _ _ _ _ _ _ _ _ _ _ _ _ [(x, own_O "com/example/hazeline/hazeline/fuzzy/Trapezoid" [("com/example/hazeline/hazeline/fuzzy/Trapezoid", "a", "D", .double da), ("com/example/hazeline/hazeline/fuzzy/Trapezoid", "b", "D", .double db), ("com/example/hazeline/hazeline/fuzzy/Trapezoid", "c", "D", .double dc), ("com/example/hazeline/hazeline/fuzzy/Trapezoid", "d", "D", .double dd)])] _ _ at Hp3_2
            obtain ⟨v8, hv8⟩ : ∃ z : Int32, (cmpValue (FP.dcmp da dd) .l) = z := ⟨_, rfl⟩
            obtain ⟨Tp3_3, Hp3_3, stp3_3⟩ := own_getF Hp3_2 hx hZ hown (hw _ (List.mem_of_getElem? (i := 20) rfl)) 0 0 rfl rfl (g := (mkF m 29 #[.val (.ref x), .val (.double dt), .second, .unset, .unset, .unset, .unset] [(.ref x), (.double dt)])) rfl rfl (hb hby d5_29)
            change own_S _ _ _ _ _ _ _ _ _ _ _ _ _ _ [(x, own_O "com/example/hazeline/hazeline/fuzzy/Trapezoid" [("com/example/hazeline/hazeline/fuzzy/Trapezoid", "a", "D", .double da), ("com/example/hazeline/hazeline/fuzzy/Trapezoid", "b", "D", .double db), ("com/example/hazeline/hazeline/fuzzy/Trapezoid", "c", "D", .double dc), ("com/example/hazeline/hazeline/fuzzy/Trapezoid", "d", "D", .double dd)])] _ _ at Hp3_3
            obtain ⟨v32, hv32⟩ : ∃ z : Int32, (cmpValue (FP.dcmp dt da) .g) = z := ⟨_, rfl⟩
            obtain ⟨Tp3_4, Hp3_4, stp3_4⟩ := own_getF Hp3_3 hx hZ hown (hw _ (List.mem_of_getElem? (i := 26) rfl)) 0 3 rfl rfl (g := (mkF m 40 #[.val (.ref x), .val (.double dt), .second, .unset, .unset, .unset, .unset] [(.ref x), (.double dt)])) rfl rfl (hb hby d5_40)
            change own_S _ _ _ _ _ _ _ _ _ _ _ _ _ _ [(x, own_O "com/example/hazeline/hazeline/fuzzy/Trapezoid" [("com/example/hazeline/hazeline/fuzzy/Trapezoid", "a", "D", .double da), ("com/example/hazeline/hazeline/fuzzy/Trapezoid", "b", "D", .double db), ("com/example/hazeline/hazeline/fuzzy/Trapezoid", "c", "D", .double dc), ("com/example/hazeline/hazeline/fuzzy/Trapezoid", "d", "D", .double dd)])] _ _ at Hp3_4
            obtain ⟨v43, hv43⟩ : ∃ z : Int32, (cmpValue (FP.dcmp dt dd) .l) = z := ⟨_, rfl⟩
            obtain ⟨Tp3_5, Hp3_5, stp3_5⟩ := own_getF Hp3_4 hx hZ hown (hw _ (List.mem_of_getElem? (i := 26) rfl)) 0 3 rfl rfl (g := (mkF m 50 #[.val (.ref x), .val (.double dt), .second, .unset, .unset, .unset, .unset] [(.ref x)])) rfl rfl (hb hby d5_50)
            change own_S _ _ _ _ _ _ _ _ _ _ _ _ _ _ [(x, own_O "com/example/hazeline/hazeline/fuzzy/Trapezoid" [("com/example/hazeline/hazeline/fuzzy/Trapezoid", "a", "D", .double da), ("com/example/hazeline/hazeline/fuzzy/Trapezoid", "b", "D", .double db), ("com/example/hazeline/hazeline/fuzzy/Trapezoid", "c", "D", .double dc), ("com/example/hazeline/hazeline/fuzzy/Trapezoid", "d", "D", .double dd)])] _ _ at Hp3_5
            obtain ⟨Tp3_6, Hp3_6, stp3_6⟩ := own_getF Hp3_5 hx hZ hown (hw _ (List.mem_of_getElem? (i := 20) rfl)) 0 0 rfl rfl (g := (mkF m 54 #[.val (.ref x), .val (.double dt), .second, .unset, .unset, .unset, .unset] [(.ref x), (.double dd)])) rfl rfl (hb hby d5_54)
            change own_S _ _ _ _ _ _ _ _ _ _ _ _ _ _ [(x, own_O "com/example/hazeline/hazeline/fuzzy/Trapezoid" [("com/example/hazeline/hazeline/fuzzy/Trapezoid", "a", "D", .double da), ("com/example/hazeline/hazeline/fuzzy/Trapezoid", "b", "D", .double db), ("com/example/hazeline/hazeline/fuzzy/Trapezoid", "c", "D", .double dc), ("com/example/hazeline/hazeline/fuzzy/Trapezoid", "d", "D", .double dd)])] _ _ at Hp3_6
            obtain ⟨v57, hv57⟩ : ∃ z : UInt64, (FP.dsub dd da) = z := ⟨_, rfl⟩
            obtain ⟨Tp3_7, Hp3_7, stp3_7⟩ := own_getF Hp3_6 hx hZ hown (hw _ (List.mem_of_getElem? (i := 24) rfl)) 0 2 rfl rfl (g := (mkF m 59 #[.val (.ref x), .val (.double dt), .second, .unset, .unset, .unset, .unset] [(.ref x), (.double v57)])) rfl rfl (hb hby d5_59)
            change own_S _ _ _ _ _ _ _ _ _ _ _ _ _ _ [(x, own_O "com/example/hazeline/hazeline/fuzzy/Trapezoid" [("com/example/hazeline/hazeline/fuzzy/Trapezoid", "a", "D", .double da), ("com/example/hazeline/hazeline/fuzzy/Trapezoid", "b", "D", .double db), ("com/example/hazeline/hazeline/fuzzy/Trapezoid", "c", "D", .double dc), ("com/example/hazeline/hazeline/fuzzy/Trapezoid", "d", "D", .double dd)])] _ _ at Hp3_7
            obtain ⟨Tp3_8, Hp3_8, stp3_8⟩ := own_getF Hp3_7 hx hZ hown (hw _ (List.mem_of_getElem? (i := 22) rfl)) 0 1 rfl rfl (g := (mkF m 63 #[.val (.ref x), .val (.double dt), .second, .unset, .unset, .unset, .unset] [(.ref x), (.double dc), (.double v57)])) rfl rfl (hb hby d5_63)
            change own_S _ _ _ _ _ _ _ _ _ _ _ _ _ _ [(x, own_O "com/example/hazeline/hazeline/fuzzy/Trapezoid" [("com/example/hazeline/hazeline/fuzzy/Trapezoid", "a", "D", .double da), ("com/example/hazeline/hazeline/fuzzy/Trapezoid", "b", "D", .double db), ("com/example/hazeline/hazeline/fuzzy/Trapezoid", "c", "D", .double dc), ("com/example/hazeline/hazeline/fuzzy/Trapezoid", "d", "D", .double dd)])] _ _ at Hp3_8
            obtain ⟨v66, hv66⟩ : ∃ z : UInt64, (FP.dsub dc db) = z := ⟨_, rfl⟩
            obtain ⟨v67, hv67⟩ : ∃ z : UInt64, (FP.dadd v57 v66) = z := ⟨_, rfl⟩
            obtain ⟨Tp3_9, Hp3_9, stp3_9⟩ := own_getF Hp3_8 hx hZ hown (hw _ (List.mem_of_getElem? (i := 22) rfl)) 0 1 rfl rfl (g := (mkF m 71 #[.val (.ref x), .val (.double dt), .second, .val (.double v67), .second, .unset, .unset] [(.ref x), (.double dt)])) rfl rfl (hb hby d5_71)
            change own_S _ _ _ _ _ _ _ _ _ _ _ _ _ _ [(x, own_O "com/example/hazeline/hazeline/fuzzy/Trapezoid" [("com/example/hazeline/hazeline/fuzzy/Trapezoid", "a", "D", .double da), ("com/example/hazeline/hazeline/fuzzy/Trapezoid", "b", "D", .double db), ("com/example/hazeline/hazeline/fuzzy/Trapezoid", "c", "D", .double dc), ("com/example/hazeline/hazeline/fuzzy/Trapezoid", "d", "D", .double dd)])] _ _ at Hp3_9
            obtain ⟨v74, hv74⟩ : ∃ z : Int32, (cmpValue (FP.dcmp dt db) .g) = z := ⟨_, rfl⟩
            obtain ⟨Tp3_10, Hp3_10, stp3_10⟩ := own_getF Hp3_9 hx hZ hown (hw _ (List.mem_of_getElem? (i := 24) rfl)) 0 2 rfl rfl (g := (mkF m 113 #[.val (.ref x), .val (.double dt), .second, .val (.double v67), .second, .unset, .unset] [(.ref x), (.double dt)])) rfl rfl (hb hby d5_113)
            change own_S _ _ _ _ _ _ _ _ _ _ _ _ _ _ [(x, own_O "com/example/hazeline/hazeline/fuzzy/Trapezoid" [("com/example/hazeline/hazeline/fuzzy/Trapezoid", "a", "D", .double da), ("com/example/hazeline/hazeline/fuzzy/Trapezoid", "b", "D", .double db), ("com/example/hazeline/hazeline/fuzzy/Trapezoid", "c", "D", .double dc), ("com/example/hazeline/hazeline/fuzzy/Trapezoid", "d", "D", .double dd)])] _ _ at Hp3_10
            obtain ⟨v116, hv116⟩ : ∃ z : Int32, (cmpValue (FP.dcmp dt dc) .g) = z := ⟨_, rfl⟩
            obtain ⟨Tp3_11, Hp3_11, stp3_11⟩ := own_getF Hp3_10 hx hZ hown (hw _ (List.mem_of_getElem? (i := 24) rfl)) 0 2 rfl rfl (g := (mkF m 124 #[.val (.ref x), .val (.double dt), .second, .val (.double v67), .second, .unset, .unset] [(.ref x), (.double (4611686018427387904 : UInt64))])) rfl rfl (hb hby d5_124)
            change own_S _ _ _ _ _ _ _ _ _ _ _ _ _ _ [(x, own_O "com/example/hazeline/hazeline/fuzzy/Trapezoid" [("com/example/hazeline/hazeline/fuzzy/Trapezoid", "a", "D", .double da), ("com/example/hazeline/hazeline/fuzzy/Trapezoid", "b", "D", .double db), ("com/example/hazeline/hazeline/fuzzy/Trapezoid", "c", "D", .double dc), ("com/example/hazeline/hazeline/fuzzy/Trapezoid", "d", "D", .double dd)])] _ _ at Hp3_11
            obtain ⟨v128, hv128⟩ : ∃ z : UInt64, (FP.dsub dc dt) = z := ⟨_, rfl⟩
            obtain ⟨v129, hv129⟩ : ∃ z : UInt64, (FP.dmul (4611686018427387904 : UInt64) v128) = z := ⟨_, rfl⟩
            obtain ⟨Tp3_12, Hp3_12, stp3_12⟩ := own_getF Hp3_11 hx hZ hown (hw _ (List.mem_of_getElem? (i := 26) rfl)) 0 3 rfl rfl (g := (mkF m 131 #[.val (.ref x), .val (.double dt), .second, .val (.double v67), .second, .unset, .unset] [(.ref x), (.double v129)])) rfl rfl (hb hby d5_131)
            change own_S _ _ _ _ _ _ _ _ _ _ _ _ _ _ [(x, own_O "com/example/hazeline/hazeline/fuzzy/Trapezoid" [("com/example/hazeline/hazeline/fuzzy/Trapezoid", "a", "D", .double da), ("com/example/hazeline/hazeline/fuzzy/Trapezoid", "b", "D", .double db), ("com/example/hazeline/hazeline/fuzzy/Trapezoid", "c", "D", .double dc), ("com/example/hazeline/hazeline/fuzzy/Trapezoid", "d", "D", .double dd)])] _ _ at Hp3_12
            obtain ⟨Tp3_13, Hp3_13, stp3_13⟩ := own_getF Hp3_12 hx hZ hown (hw _ (List.mem_of_getElem? (i := 24) rfl)) 0 2 rfl rfl (g := (mkF m 135 #[.val (.ref x), .val (.double dt), .second, .val (.double v67), .second, .unset, .unset] [(.ref x), (.double dd), (.double v129)])) rfl rfl (hb hby d5_135)
            change own_S _ _ _ _ _ _ _ _ _ _ _ _ _ _ [(x, own_O "com/example/hazeline/hazeline/fuzzy/Trapezoid" [("com/example/hazeline/hazeline/fuzzy/Trapezoid", "a", "D", .double da), ("com/example/hazeline/hazeline/fuzzy/Trapezoid", "b", "D", .double db), ("com/example/hazeline/hazeline/fuzzy/Trapezoid", "c", "D", .double dc), ("com/example/hazeline/hazeline/fuzzy/Trapezoid", "d", "D", .double dd)])] _ _ at Hp3_13
            obtain ⟨v138, hv138⟩ : ∃ z : UInt64, (FP.dsub dd dc) = z := ⟨_, rfl⟩
            obtain ⟨v139, hv139⟩ : ∃ z : UInt64, (FP.dadd v129 v138) = z := ⟨_, rfl⟩
            obtain ⟨v141, hv141⟩ : ∃ z : UInt64, (FP.ddiv v139 v67) = z := ⟨_, rfl⟩
            have hb9 : ifCond.holds .ne v8 = true := by rw [← hv8, cad.2.2.2.2]; simp; omega
            have hb33 : ifCond.holds .gt v32 = true := by rw [← hv32, cta.2.2.1]; simp; omega
            have hb44 : ifCond.holds .lt v43 = true := by rw [← hv43, ctd.1]; simp; omega
            have i57 : own_is v57 ((p' + q + r : Int) : Rat) := by rw [← hv57, show p' + q + r = (A + p' + q + r) - A by omega]; exact own_nsub hdd ha (by omega)
            have i66 : own_is v66 ((q : Int) : Rat) := by
              have := own_nsub hdc hdb (by omega)
              rw [hv66, show (A + p' + q) - (A + p') = q by omega] at this; exact this
            have i67 : own_is v67 ((p' + 2 * q + r : Int) : Rat) := by rw [← hv67, show p' + 2 * q + r = (p' + q + r) + q by omega]; exact own_nadd i57 i66 (by omega)
            have nn57 : NoNaN64 (FP.dsub dd da) := by rw [hv57]; exact own_is_no i57
            have nn66 : NoNaN64 (FP.dsub dc db) := by rw [hv66]; exact own_is_no i66
            have nn67 : NoNaN64 (FP.dadd v57 v66) := by rw [hv67]; exact own_is_no i67
            have hb75 : ifCond.holds .ge v74 = true := by rw [← hv74, ctb.2.2.2.1]; simp; omega
            have hb117 : ifCond.holds .gt v116 = false := by rw [← hv116, ctc.2.2.1]; simp; omega
            have i128 : own_is v128 ((p' + q - s' : Int) : Rat) := by
              have := own_nsub hdc ht (by omega)
              rw [hv128, show (A + p' + q) - (A + s') = p' + q - s' by omega] at this; exact this
            have i129 : own_is v129 ((2 * (p' + q - s') : Int) : Rat) := by rw [← hv129]; exact own_nmul own_two i128 (by omega)
            have i138 : own_is v138 ((r : Int) : Rat) := by
              have := own_nsub hdd hdc (by omega)
              rw [hv138, show (A + p' + q + r) - (A + p' + q) = r by omega] at this; exact this
            have i139 : own_is v139 ((2 * (p' + q - s') + r : Int) : Rat) := by rw [← hv139]; exact own_nadd i129 i138 (by omega)
            have q141 : own_rd v141 (((2 * (p' + q - s') + r : Int) : Rat) / ((p' + 2 * q + r : Int) : Rat)) := by rw [← hv141]; exact own_ndiv i139 i67 (by omega)
            have nn128 : NoNaN64 (FP.dsub dc dt) := by rw [hv128]; exact own_is_no i128
            have nn129 : NoNaN64 (FP.dmul (4611686018427387904 : UInt64) v128) := by rw [hv129]; exact own_is_no i129
            have nn138 : NoNaN64 (FP.dsub dd dc) := by rw [hv138]; exact own_is_no i138
            have nn139 : NoNaN64 (FP.dadd v129 v138) := by rw [hv139]; exact own_is_no i139
            have nn141 : NoNaN64 (FP.ddiv v139 v67) := by rw [hv141]; exact own_rd_no q141
            refine ⟨_, _, _, _, 142, #[.val (.ref x), .val (.double dt), .second, .val (.double v67), .second, .unset, .unset], Hp3_13, by decide, by decide, Or.inr ⟨.double, (.double v141), [], .dreturn, rfl, ⟨⟨v141, rfl, by rw [if_neg h0, if_neg h1, if_neg h2, if_neg h3, if_pos h4]; exact q141⟩, rfl⟩, d5_142, own_retD _, fun target q => ?_⟩⟩
            refine own_go H0 hx hZ hown hby hw own_K5_ok (own_p3_0 x dt) _ ?_
            refine stp3_1 _ ?_
            refine own_go Hp3_1 hx hZ hown hby hw own_K5_ok (own_p3_1 x dt da) _ ?_
            refine stp3_2 _ ?_
            refine own_go Hp3_2 hx hZ hown hby hw own_K5_ok (own_p3_2 x dt dd da v8 hv8 hb9) _ ?_
            refine stp3_3 _ ?_
            refine own_go Hp3_3 hx hZ hown hby hw own_K5_ok (own_p3_3 x dt da v32 hv32 hb33) _ ?_
            refine stp3_4 _ ?_
            refine own_go Hp3_4 hx hZ hown hby hw own_K5_ok (own_p3_4 x dt dd v43 hv43 hb44) _ ?_
            refine stp3_5 _ ?_
            refine own_go Hp3_5 hx hZ hown hby hw own_K5_ok (own_p3_5 x dt dd) _ ?_
            refine stp3_6 _ ?_
            refine own_go Hp3_6 hx hZ hown hby hw own_K5_ok (own_p3_6 x dt da dd v57 hv57 nn57) _ ?_
            refine stp3_7 _ ?_
            refine own_go Hp3_7 hx hZ hown hby hw own_K5_ok (own_p3_7 x dt dc v57) _ ?_
            refine stp3_8 _ ?_
            refine own_go Hp3_8 hx hZ hown hby hw own_K5_ok (own_p3_8 x dt db dc v57 v66 hv66 nn66 v67 hv67 nn67) _ ?_
            refine stp3_9 _ ?_
            refine own_go Hp3_9 hx hZ hown hby hw own_K5_ok (own_p3_9 x dt v67 db v74 hv74 hb75) _ ?_
            refine stp3_10 _ ?_
            refine own_go Hp3_10 hx hZ hown hby hw own_K5_ok (own_p3_10 x dt v67 dc v116 hv116 hb117) _ ?_
            refine stp3_11 _ ?_
            refine own_go Hp3_11 hx hZ hown hby hw own_K5_ok (own_p3_11 x dt v67 dc v128 hv128 nn128 v129 hv129 nn129) _ ?_
            refine stp3_12 _ ?_
            refine own_go Hp3_12 hx hZ hown hby hw own_K5_ok (own_p3_12 x dt v67 dd v129) _ ?_
            refine stp3_13 _ ?_
            refine own_go Hp3_13 hx hZ hown hby hw own_K5_ok (own_p3_13 x dt v67 dc dd v129 v138 hv138 nn138 v139 hv139 nn139 v141 hv141 nn141) _ ?_
            exact q
          · obtain ⟨Tp4_1, Hp4_1, stp4_1⟩ := own_getF H0 hx hZ hown (hw _ (List.mem_of_getElem? (i := 20) rfl)) 0 0 rfl rfl (g := (mkF m 1 #[.val (.ref x), .val (.double dt), .second, .unset, .unset, .unset, .unset] [(.ref x)])) rfl rfl (hb hby d5_1)
            change own_S _ _ _ _ _ _ _ _ _ _ _ _ _ _ [(x, own_O "com/example/hazeline/hazeline/fuzzy/Trapezoid" [("com/example/hazeline/hazeline/fuzzy/Trapezoid", "a", "D", .double da), ("com/example/hazeline/hazeline/fuzzy/Trapezoid", "b", "D", .double db), ("com/example/hazeline/hazeline/fuzzy/Trapezoid", "c", "D", .double dc), ("com/example/hazeline/hazeline/fuzzy/Trapezoid", "d", "D", .double dd)])] _ _ at Hp4_1
            obtain ⟨Tp4_2, Hp4_2, stp4_2⟩ := own_getF Hp4_1 hx hZ hown (hw _ (List.mem_of_getElem? (i := 26) rfl)) 0 3 rfl rfl (g := (mkF m 5 #[.val (.ref x), .val (.double dt), .second, .unset, .unset, .unset, .unset] [(.ref x), (.double da)])) rfl rfl (hb hby d5_5)
            change own_S _ _ _ _ _ _ _ _ _ _ _ _ _ _ [(x, own_O "com/example/hazeline/hazeline/fuzzy/Trapezoid" [("com/example/hazeline/hazeline/fuzzy/Trapezoid", "a", "D", .double da), ("com/example/hazeline/hazeline/fuzzy/Trapezoid", "b", "D", .double db), ("com/example/hazeline/hazeline/fuzzy/Trapezoid", "c", "D", .double dc), ("com/example/hazeline/hazeline/fuzzy/Trapezoid", "d", "D", .double dd)])] _ _ at Hp4_2
            obtain ⟨v8, hv8⟩ : ∃ z : Int32, (cmpValue (FP.dcmp da dd) .l) = z := ⟨_, rfl⟩
            obtain ⟨Tp4_3, Hp4_3, stp4_3⟩ := own_getF Hp4_2 hx hZ hown (hw _ (List.mem_of_getElem? (i := 20) rfl)) 0 0 rfl rfl (g := (mkF m 29 #[.val (.ref x), .val (.double dt), .second, .unset, .unset, .unset, .unset] [(.ref x), (.double dt)])) rfl rfl (hb hby d5_29)
            change own_S _ _ _ _ _ _ _ _ _ _ _ _ _ _ [(x, own_O "com/example/hazeline/hazeline/fuzzy/Trapezoid" [("com/example/hazeline/hazeline/fuzzy/Trapezoid", "a", "D", .double da), ("com/example/hazeline/hazeline/fuzzy/Trapezoid", "b", "D", .double db), ("com/example/hazeline/hazeline/fuzzy/Trapezoid", "c", "D", .double dc), ("com/example/hazeline/hazeline/fuzzy/Trapezoid", "d", "D", .double dd)])] _ _ at Hp4_3
            obtain ⟨v32, hv32⟩ : ∃ z : Int32, (cmpValue (FP.dcmp dt da) .g) = z := ⟨_, rfl⟩
            obtain ⟨Tp4_4, Hp4_4, stp4_4⟩ := own_getF Hp4_3 hx hZ hown (hw _ (List.mem_of_getElem? (i := 26) rfl)) 0 3 rfl rfl (g := (mkF m 40 #[.val (.ref x), .val (.double dt), .second, .unset, .unset, .unset, .unset] [(.ref x), (.double dt)])) rfl rfl (hb hby d5_40)
            change own_S _ _ _ _ _ _ _ _ _ _ _ _ _ _ [(x, own_O "com/example/hazeline/hazeline/fuzzy/Trapezoid" [("com/example/hazeline/hazeline/fuzzy/Trapezoid", "a", "D", .double da), ("com/example/hazeline/hazeline/fuzzy/Trapezoid", "b", "D", .double db), ("com/example/hazeline/hazeline/fuzzy/Trapezoid", "c", "D", .double dc), ("com/example/hazeline/hazeline/fuzzy/Trapezoid", "d", "D", .double dd)])] _ _ at Hp4_4
            obtain ⟨v43, hv43⟩ : ∃ z : Int32, (cmpValue (FP.dcmp dt dd) .l) = z := ⟨_, rfl⟩
            obtain ⟨Tp4_5, Hp4_5, stp4_5⟩ := own_getF Hp4_4 hx hZ hown (hw _ (List.mem_of_getElem? (i := 26) rfl)) 0 3 rfl rfl (g := (mkF m 50 #[.val (.ref x), .val (.double dt), .second, .unset, .unset, .unset, .unset] [(.ref x)])) rfl rfl (hb hby d5_50)
            change own_S _ _ _ _ _ _ _ _ _ _ _ _ _ _ [(x, own_O "com/example/hazeline/hazeline/fuzzy/Trapezoid" [("com/example/hazeline/hazeline/fuzzy/Trapezoid", "a", "D", .double da), ("com/example/hazeline/hazeline/fuzzy/Trapezoid", "b", "D", .double db), ("com/example/hazeline/hazeline/fuzzy/Trapezoid", "c", "D", .double dc), ("com/example/hazeline/hazeline/fuzzy/Trapezoid", "d", "D", .double dd)])] _ _ at Hp4_5
            obtain ⟨Tp4_6, Hp4_6, stp4_6⟩ := own_getF Hp4_5 hx hZ hown (hw _ (List.mem_of_getElem? (i := 20) rfl)) 0 0 rfl rfl (g := (mkF m 54 #[.val (.ref x), .val (.double dt), .second, .unset, .unset, .unset, .unset] [(.ref x), (.double dd)])) rfl rfl (hb hby d5_54)
            change own_S _ _ _ _ _ _ _ _ _ _ _ _ _ _ [(x, own_O "com/example/hazeline/hazeline/fuzzy/Trapezoid" [("com/example/hazeline/hazeline/fuzzy/Trapezoid", "a", "D", .double da), ("com/example/hazeline/hazeline/fuzzy/Trapezoid", "b", "D", .double db), ("com/example/hazeline/hazeline/fuzzy/Trapezoid", "c", "D", .double dc), ("com/example/hazeline/hazeline/fuzzy/Trapezoid", "d", "D", .double dd)])] _ _ at Hp4_6
            obtain ⟨v57, hv57⟩ : ∃ z : UInt64, (FP.dsub dd da) = z := ⟨_, rfl⟩
            obtain ⟨Tp4_7, Hp4_7, stp4_7⟩ := own_getF Hp4_6 hx hZ hown (hw _ (List.mem_of_getElem? (i := 24) rfl)) 0 2 rfl rfl (g := (mkF m 59 #[.val (.ref x), .val (.double dt), .second, .unset, .unset, .unset, .unset] [(.ref x), (.double v57)])) rfl rfl (hb hby d5_59)
            change own_S _ _ _ _ _ _ _ _ _ _ _ _ _ _ [(x, own_O "com/example/hazeline/hazeline/fuzzy/Trapezoid" [("com/example/hazeline/hazeline/fuzzy/Trapezoid", "a", "D", .double da), ("com/example/hazeline/hazeline/fuzzy/Trapezoid", "b", "D", .double db), ("com/example/hazeline/hazeline/fuzzy/Trapezoid", "c", "D", .double dc), ("com/example/hazeline/hazeline/fuzzy/Trapezoid", "d", "D", .double dd)])] _ _ at Hp4_7
            obtain ⟨Tp4_8, Hp4_8, stp4_8⟩ := own_getF Hp4_7 hx hZ hown (hw _ (List.mem_of_getElem? (i := 22) rfl)) 0 1 rfl rfl (g := (mkF m 63 #[.val (.ref x), .val (.double dt), .second, .unset, .unset, .unset, .unset] [(.ref x), (.double dc), (.double v57)])) rfl rfl (hb hby d5_63)
            change own_S _ _ _ _ _ _ _ _ _ _ _ _ _ _ [(x, own_O "com/example/hazeline/hazeline/fuzzy/Trapezoid" [("com/example/hazeline/hazeline/fuzzy/Trapezoid", "a", "D", .double da), ("com/example/hazeline/hazeline/fuzzy/Trapezoid", "b", "D", .double db), ("com/example/hazeline/hazeline/fuzzy/Trapezoid", "c", "D", .double dc), ("com/example/hazeline/hazeline/fuzzy/Trapezoid", "d", "D", .double dd)])] _ _ at Hp4_8
            obtain ⟨v66, hv66⟩ : ∃ z : UInt64, (FP.dsub dc db) = z := ⟨_, rfl⟩
            obtain ⟨v67, hv67⟩ : ∃ z : UInt64, (FP.dadd v57 v66) = z := ⟨_, rfl⟩
            obtain ⟨Tp4_9, Hp4_9, stp4_9⟩ := own_getF Hp4_8 hx hZ hown (hw _ (List.mem_of_getElem? (i := 22) rfl)) 0 1 rfl rfl (g := (mkF m 71 #[.val (.ref x), .val (.double dt), .second, .val (.double v67), .second, .unset, .unset] [(.ref x), (.double dt)])) rfl rfl (hb hby d5_71)
            change own_S _ _ _ _ _ _ _ _ _ _ _ _ _ _ [(x, own_O "com/example/hazeline/hazeline/fuzzy/Trapezoid" [("com/example/hazeline/hazeline/fuzzy/Trapezoid", "a", "D", .double da), ("com/example/hazeline/hazeline/fuzzy/Trapezoid", "b", "D", .double db), ("com/example/hazeline/hazeline/fuzzy/Trapezoid", "c", "D", .double dc), ("com/example/hazeline/hazeline/fuzzy/Trapezoid", "d", "D", .double dd)])] _ _ at Hp4_9
            obtain ⟨v74, hv74⟩ : ∃ z : Int32, (cmpValue (FP.dcmp dt db) .g) = z := ⟨_, rfl⟩
            obtain ⟨Tp4_10, Hp4_10, stp4_10⟩ := own_getF Hp4_9 hx hZ hown (hw _ (List.mem_of_getElem? (i := 24) rfl)) 0 2 rfl rfl (g := (mkF m 113 #[.val (.ref x), .val (.double dt), .second, .val (.double v67), .second, .unset, .unset] [(.ref x), (.double dt)])) rfl rfl (hb hby d5_113)
            change own_S _ _ _ _ _ _ _ _ _ _ _ _ _ _ [(x, own_O "com/example/hazeline/hazeline/fuzzy/Trapezoid" [("com/example/hazeline/hazeline/fuzzy/Trapezoid", "a", "D", .double da), ("com/example/hazeline/hazeline/fuzzy/Trapezoid", "b", "D", .double db), ("com/example/hazeline/hazeline/fuzzy/Trapezoid", "c", "D", .double dc), ("com/example/hazeline/hazeline/fuzzy/Trapezoid", "d", "D", .double dd)])] _ _ at Hp4_10
            obtain ⟨v116, hv116⟩ : ∃ z : Int32, (cmpValue (FP.dcmp dt dc) .g) = z := ⟨_, rfl⟩
            obtain ⟨Tp4_11, Hp4_11, stp4_11⟩ := own_getF Hp4_10 hx hZ hown (hw _ (List.mem_of_getElem? (i := 26) rfl)) 0 3 rfl rfl (g := (mkF m 144 #[.val (.ref x), .val (.double dt), .second, .val (.double v67), .second, .unset, .unset] [(.ref x)])) rfl rfl (hb hby d5_144)
            change own_S _ _ _ _ _ _ _ _ _ _ _ _ _ _ [(x, own_O "com/example/hazeline/hazeline/fuzzy/Trapezoid" [("com/example/hazeline/hazeline/fuzzy/Trapezoid", "a", "D", .double da), ("com/example/hazeline/hazeline/fuzzy/Trapezoid", "b", "D", .double db), ("com/example/hazeline/hazeline/fuzzy/Trapezoid", "c", "D", .double dc), ("com/example/hazeline/hazeline/fuzzy/Trapezoid", "d", "D", .double dd)])] _ _ at Hp4_11
            obtain ⟨v148, hv148⟩ : ∃ z : UInt64, (FP.dsub dd dt) = z := ⟨_, rfl⟩
            obtain ⟨Tp4_12, Hp4_12, stp4_12⟩ := own_getF Hp4_11 hx hZ hown (hw _ (List.mem_of_getElem? (i := 26) rfl)) 0 3 rfl rfl (g := (mkF m 150 #[.val (.ref x), .val (.double dt), .second, .val (.double v67), .second, .unset, .unset] [(.ref x), (.double v148)])) rfl rfl (hb hby d5_150)
            change own_S _ _ _ _ _ _ _ _ _ _ _ _ _ _ [(x, own_O "com/example/hazeline/hazeline/fuzzy/Trapezoid" [("com/example/hazeline/hazeline/fuzzy/Trapezoid", "a", "D", .double da), ("com/example/hazeline/hazeline/fuzzy/Trapezoid", "b", "D", .double db), ("com/example/hazeline/hazeline/fuzzy/Trapezoid", "c", "D", .double dc), ("com/example/hazeline/hazeline/fuzzy/Trapezoid", "d", "D", .double dd)])] _ _ at Hp4_12
            obtain ⟨v154, hv154⟩ : ∃ z : UInt64, (FP.dsub dd dt) = z := ⟨_, rfl⟩
            obtain ⟨v155, hv155⟩ : ∃ z : UInt64, (FP.dmul v148 v154) = z := ⟨_, rfl⟩
            obtain ⟨Tp4_13, Hp4_13, stp4_13⟩ := own_getF Hp4_12 hx hZ hown (hw _ (List.mem_of_getElem? (i := 26) rfl)) 0 3 rfl rfl (g := (mkF m 157 #[.val (.ref x), .val (.double dt), .second, .val (.double v67), .second, .unset, .unset] [(.ref x), (.double v155)])) rfl rfl (hb hby d5_157)
            change own_S _ _ _ _ _ _ _ _ _ _ _ _ _ _ [(x, own_O "com/example/hazeline/hazeline/fuzzy/Trapezoid" [("com/example/hazeline/hazeline/fuzzy/Trapezoid", "a", "D", .double da), ("com/example/hazeline/hazeline/fuzzy/Trapezoid", "b", "D", .double db), ("com/example/hazeline/hazeline/fuzzy/Trapezoid", "c", "D", .double dc), ("com/example/hazeline/hazeline/fuzzy/Trapezoid", "d", "D", .double dd)])] _ _ at Hp4_13
            obtain ⟨Tp4_14, Hp4_14, stp4_14⟩ := own_getF Hp4_13 hx hZ hown (hw _ (List.mem_of_getElem? (i := 24) rfl)) 0 2 rfl rfl (g := (mkF m 161 #[.val (.ref x), .val (.double dt), .second, .val (.double v67), .second, .unset, .unset] [(.ref x), (.double dd), (.double v155)])) rfl rfl (hb hby d5_161)
            change own_S _ _ _ _ _ _ _ _ _ _ _ _ _ _ [(x, own_O "com/example/hazeline/hazeline/fuzzy/Trapezoid" [("com/example/hazeline/hazeline/fuzzy/Trapezoid", "a", "D", .double da), ("com/example/hazeline/hazeline/fuzzy/Trapezoid", "b", "D", .double db), ("com/example/hazeline/hazeline/fuzzy/Trapezoid", "c", "D", .double dc), ("com/example/hazeline/hazeline/fuzzy/Trapezoid", "d", "D", .double dd)])] _ _ at Hp4_14
            obtain ⟨v164, hv164⟩ : ∃ z : UInt64, (FP.dsub dd dc) = z := ⟨_, rfl⟩
            obtain ⟨v166, hv166⟩ : ∃ z : UInt64, (FP.dmul v164 v67) = z := ⟨_, rfl⟩
            obtain ⟨v167, hv167⟩ : ∃ z : UInt64, (FP.ddiv v155 v166) = z := ⟨_, rfl⟩
            have hb9 : ifCond.holds .ne v8 = true := by rw [← hv8, cad.2.2.2.2]; simp; omega
            have hb33 : ifCond.holds .gt v32 = true := by rw [← hv32, cta.2.2.1]; simp; omega
            have hb44 : ifCond.holds .lt v43 = true := by rw [← hv43, ctd.1]; simp; omega
            have i57 : own_is v57 ((p' + q + r : Int) : Rat) := by rw [← hv57, show p' + q + r = (A + p' + q + r) - A by omega]; exact own_nsub hdd ha (by omega)
            have i66 : own_is v66 ((q : Int) : Rat) := by
              have := own_nsub hdc hdb (by omega)
              rw [hv66, show (A + p' + q) - (A + p') = q by omega] at this; exact this
            have i67 : own_is v67 ((p' + 2 * q + r : Int) : Rat) := by rw [← hv67, show p' + 2 * q + r = (p' + q + r) + q by omega]; exact own_nadd i57 i66 (by omega)
            have nn57 : NoNaN64 (FP.dsub dd da) := by rw [hv57]; exact own_is_no i57
            have nn66 : NoNaN64 (FP.dsub dc db) := by rw [hv66]; exact own_is_no i66
            have nn67 : NoNaN64 (FP.dadd v57 v66) := by rw [hv67]; exact own_is_no i67
            have hb75 : ifCond.holds .ge v74 = true := by rw [← hv74, ctb.2.2.2.1]; simp; omega
            have hb117 : ifCond.holds .gt v116 = true := by rw [← hv116, ctc.2.2.1]; simp; omega
            have i148 : own_is v148 ((p' + q + r - s' : Int) : Rat) := by
              have := own_nsub hdd ht (by omega)
              rw [hv148, show (A + p' + q + r) - (A + s') = p' + q + r - s' by omega] at this; exact this
            have i154 : own_is v154 ((p' + q + r - s' : Int) : Rat) := by rw [← hv154, hv148]; exact i148
            have n155 := own_nb (x := p' + q + r - s') (y := p' + q + r - s') (X := 65535) (Y := 65535) (by omega) (by omega)
            have i155 : own_is v155 (((p' + q + r - s') * (p' + q + r - s') : Int) : Rat) := by rw [← hv155]; exact own_nmul i148 i154 (by omega)
            have i164 : own_is v164 ((r : Int) : Rat) := by
              have := own_nsub hdd hdc (by omega)
              rw [hv164, show (A + p' + q + r) - (A + p' + q) = r by omega] at this; exact this
            have n166 := own_nb (x := r) (y := p' + 2 * q + r) (X := 65535) (Y := 262140) (by omega) (by omega)
            have i166 : own_is v166 ((r * (p' + 2 * q + r) : Int) : Rat) := by rw [← hv166]; exact own_nmul i164 i67 (by omega)
            have hp : r * (p' + 2 * q + r) ≠ 0 := Int.mul_ne_zero (by omega) (by omega)
            have q167 : own_rd v167 ((((p' + q + r - s') * (p' + q + r - s') : Int) : Rat) / ((r * (p' + 2 * q + r) : Int) : Rat)) := by rw [← hv167]; exact own_ndiv i155 i166 hp
            have nn148 : NoNaN64 (FP.dsub dd dt) := by rw [hv148]; exact own_is_no i148
            have nn154 : NoNaN64 (FP.dsub dd dt) := nn148
            have nn155 : NoNaN64 (FP.dmul v148 v154) := by rw [hv155]; exact own_is_no i155
            have nn164 : NoNaN64 (FP.dsub dd dc) := by rw [hv164]; exact own_is_no i164
            have nn166 : NoNaN64 (FP.dmul v164 v67) := by rw [hv166]; exact own_is_no i166
            have nn167 : NoNaN64 (FP.ddiv v155 v166) := by rw [hv167]; exact own_rd_no q167
            refine ⟨_, _, _, _, 168, #[.val (.ref x), .val (.double dt), .second, .val (.double v67), .second, .unset, .unset], Hp4_14, by decide, by decide, Or.inr ⟨.double, (.double v167), [], .dreturn, rfl, ⟨⟨v167, rfl, by rw [if_neg h0, if_neg h1, if_neg h2, if_neg h3, if_neg h4]; exact q167⟩, rfl⟩, d5_168, own_retD _, fun target q => ?_⟩⟩
            refine own_go H0 hx hZ hown hby hw own_K5_ok (own_p4_0 x dt) _ ?_
            refine stp4_1 _ ?_
            refine own_go Hp4_1 hx hZ hown hby hw own_K5_ok (own_p4_1 x dt da) _ ?_
            refine stp4_2 _ ?_
            refine own_go Hp4_2 hx hZ hown hby hw own_K5_ok (own_p4_2 x dt dd da v8 hv8 hb9) _ ?_
            refine stp4_3 _ ?_
            refine own_go Hp4_3 hx hZ hown hby hw own_K5_ok (own_p4_3 x dt da v32 hv32 hb33) _ ?_
            refine stp4_4 _ ?_
            refine own_go Hp4_4 hx hZ hown hby hw own_K5_ok (own_p4_4 x dt dd v43 hv43 hb44) _ ?_
            refine stp4_5 _ ?_
            refine own_go Hp4_5 hx hZ hown hby hw own_K5_ok (own_p4_5 x dt dd) _ ?_
            refine stp4_6 _ ?_
            refine own_go Hp4_6 hx hZ hown hby hw own_K5_ok (own_p4_6 x dt da dd v57 hv57 nn57) _ ?_
            refine stp4_7 _ ?_
            refine own_go Hp4_7 hx hZ hown hby hw own_K5_ok (own_p4_7 x dt dc v57) _ ?_
            refine stp4_8 _ ?_
            refine own_go Hp4_8 hx hZ hown hby hw own_K5_ok (own_p4_8 x dt db dc v57 v66 hv66 nn66 v67 hv67 nn67) _ ?_
            refine stp4_9 _ ?_
            refine own_go Hp4_9 hx hZ hown hby hw own_K5_ok (own_p4_9 x dt v67 db v74 hv74 hb75) _ ?_
            refine stp4_10 _ ?_
            refine own_go Hp4_10 hx hZ hown hby hw own_K5_ok (own_p4_10 x dt v67 dc v116 hv116 hb117) _ ?_
            refine stp4_11 _ ?_
            refine own_go Hp4_11 hx hZ hown hby hw own_K5_ok (own_p4_11 x dt v67 dd v148 hv148 nn148) _ ?_
            refine stp4_12 _ ?_
            refine own_go Hp4_12 hx hZ hown hby hw own_K5_ok (own_p4_12 x dt v67 dd v148 v154 hv154 nn154 v155 hv155 nn155) _ ?_
            refine stp4_13 _ ?_
            refine own_go Hp4_13 hx hZ hown hby hw own_K5_ok (own_p4_13 x dt v67 dd v155) _ ?_
            refine stp4_14 _ ?_
            refine own_go Hp4_14 hx hZ hown hby hw own_K5_ok (own_p4_14 x dt v67 dc dd v155 v164 hv164 nn164 v166 hv166 nn166 v167 hv167 nn167) _ ?_
            exact q
theorem own_ez0 (ep : Int64) (eo : Int64) (er : Int64) (es : Int64) (v2 : Int64) (hv2 : (ep + eo) = v2) (v5 : Int64) (hv5 : (v2 + er) = v5) (v11 : Int32) (hv11 : (if v5 > (0 : Int64) then (1 : Int32) else if v5 = (0 : Int64) then 0 else -1) = v11) (hb12 : ifCond.holds .ne v11 = false) :
    own_Go own_K6 method_3_code 0 #[.val (.long ep), .second, .val (.long eo), .second, .val (.long er), .second, .val (.long es), .second, .unset, .unset, .unset, .unset, .unset, .unset, .unset, .unset, .unset, .unset, .unset, .unset, .unset, .unset] [] 15 #[.val (.long ep), .second, .val (.long eo), .second, .val (.long er), .second, .val (.long es), .second, .val (.long v5), .second, .unset, .unset, .unset, .unset, .unset, .unset, .unset, .unset, .unset, .unset, .unset, .unset] [] := by
  refine own_lloadN (pc2 := 1) d6_0 rfl rfl ?_
  refine own_lloadN (pc2 := 2) d6_1 rfl rfl ?_
  refine own_ladd (pc2 := 3) d6_2 rfl (v := v2) hv2 ?_
  refine own_lload (pc2 := 5) d6_3 rfl rfl ?_
  refine own_ladd (pc2 := 6) d6_5 rfl (v := v5) hv5 ?_
  refine own_lstore (pc2 := 8) d6_6 rfl (L' := #[.val (.long ep), .second, .val (.long eo), .second, .val (.long er), .second, .val (.long es), .second, .val (.long v5), .second, .unset, .unset, .unset, .unset, .unset, .unset, .unset, .unset, .unset, .unset, .unset, .unset]) rfl ?_
  refine own_lload (pc2 := 10) d6_8 rfl rfl ?_
  refine own_lconst (v := 0) (pc2 := 11) d6_10 rfl rfl ?_
  refine own_lcmp (pc2 := 12) d6_11 rfl (v := v11) hv11 ?_
  refine own_ifNo (pc2 := 15) d6_12 rfl hb12 ?_
  exact own_refl
theorem own_ez1 (ep : Int64) (eo : Int64) (er : Int64) (es : Int64) (v5 : Int64) (v18 : Int32) (hv18 : (if es > (0 : Int64) then (1 : Int32) else if es = (0 : Int64) then 0 else -1) = v18) (t27_0 : UInt64) (ht27_0 : (bif ifCond.holds .ge v18 then (0 : UInt64) else (4607182418800017408 : UInt64)) = t27_0) :
    own_Go own_K6 method_3_code 15 #[.val (.long ep), .second, .val (.long eo), .second, .val (.long er), .second, .val (.long es), .second, .val (.long v5), .second, .unset, .unset, .unset, .unset, .unset, .unset, .unset, .unset, .unset, .unset, .unset, .unset] [] 27 #[.val (.long ep), .second, .val (.long eo), .second, .val (.long er), .second, .val (.long es), .second, .val (.long v5), .second, .unset, .unset, .unset, .unset, .unset, .unset, .unset, .unset, .unset, .unset, .unset, .unset] [(.double t27_0)] := by
  subst ht27_0
  refine own_lload (pc2 := 17) d6_15 rfl rfl ?_
  refine own_lconst (v := 0) (pc2 := 18) d6_17 rfl rfl ?_
  refine own_lcmp (pc2 := 19) d6_18 rfl (v := v18) hv18 ?_
  cases hb19 : ifCond.holds .ge v18
  · refine own_ifNo (pc2 := 22) d6_19 rfl hb19 ?_
    refine own_dconst1 (v := 4607182418800017408) (pc2 := 23) d6_22 rfl rfl ?_
    refine own_goto (pc' := 27) d6_23 (by decide) (by decide) ?_
    exact own_refl
  · refine own_ifYes (pc' := 26) d6_19 hb19 (by decide) (by decide) ?_
    refine own_dconst0 (v := 0) (pc2 := 27) d6_26 rfl rfl ?_
    exact own_refl
theorem own_e1_0 (ep : Int64) (eo : Int64) (er : Int64) (es : Int64) (v2 : Int64) (hv2 : (ep + eo) = v2) (v5 : Int64) (hv5 : (v2 + er) = v5) (v11 : Int32) (hv11 : (if v5 > (0 : Int64) then (1 : Int32) else if v5 = (0 : Int64) then 0 else -1) = v11) (hb12 : ifCond.holds .ne v11 = true) (v31 : Int32) (hv31 : (if es > (0 : Int64) then (1 : Int32) else if es = (0 : Int64) then 0 else -1) = v31) (hb32 : ifCond.holds .gt v31 = false) :
    own_Go own_K6 method_3_code 0 #[.val (.long ep), .second, .val (.long eo), .second, .val (.long er), .second, .val (.long es), .second, .unset, .unset, .unset, .unset, .unset, .unset, .unset, .unset, .unset, .unset, .unset, .unset, .unset, .unset] [] 36 #[.val (.long ep), .second, .val (.long eo), .second, .val (.long er), .second, .val (.long es), .second, .val (.long v5), .second, .unset, .unset, .unset, .unset, .unset, .unset, .unset, .unset, .unset, .unset, .unset, .unset] [(.double (4607182418800017408 : UInt64))] := by
  refine own_lloadN (pc2 := 1) d6_0 rfl rfl ?_
  refine own_lloadN (pc2 := 2) d6_1 rfl rfl ?_
  refine own_ladd (pc2 := 3) d6_2 rfl (v := v2) hv2 ?_
  refine own_lload (pc2 := 5) d6_3 rfl rfl ?_
  refine own_ladd (pc2 := 6) d6_5 rfl (v := v5) hv5 ?_
  refine own_lstore (pc2 := 8) d6_6 rfl (L' := #[.val (.long ep), .second, .val (.long eo), .second, .val (.long er), .second, .val (.long es), .second, .val (.long v5), .second, .unset, .unset, .unset, .unset, .unset, .unset, .unset, .unset, .unset, .unset, .unset, .unset]) rfl ?_
  refine own_lload (pc2 := 10) d6_8 rfl rfl ?_
  refine own_lconst (v := 0) (pc2 := 11) d6_10 rfl rfl ?_
  refine own_lcmp (pc2 := 12) d6_11 rfl (v := v11) hv11 ?_
  refine own_ifYes (pc' := 28) d6_12 hb12 (by decide) (by decide) ?_
  refine own_lload (pc2 := 30) d6_28 rfl rfl ?_
  refine own_lconst (v := 0) (pc2 := 31) d6_30 rfl rfl ?_
  refine own_lcmp (pc2 := 32) d6_31 rfl (v := v31) hv31 ?_
  refine own_ifNo (pc2 := 35) d6_32 rfl hb32 ?_
  refine own_dconst1 (v := 4607182418800017408) (pc2 := 36) d6_35 rfl rfl ?_
  exact own_refl
theorem own_e2_0 (ep : Int64) (eo : Int64) (er : Int64) (es : Int64) (v2 : Int64) (hv2 : (ep + eo) = v2) (v5 : Int64) (hv5 : (v2 + er) = v5) (v11 : Int32) (hv11 : (if v5 > (0 : Int64) then (1 : Int32) else if v5 = (0 : Int64) then 0 else -1) = v11) (hb12 : ifCond.holds .ne v11 = true) (v31 : Int32) (hv31 : (if es > (0 : Int64) then (1 : Int32) else if es = (0 : Int64) then 0 else -1) = v31) (hb32 : ifCond.holds .gt v31 = true) (v41 : Int32) (hv41 : (if es > v5 then (1 : Int32) else if es = v5 then 0 else -1) = v41) (hb42 : ifCond.holds .lt v41 = false) :
    own_Go own_K6 method_3_code 0 #[.val (.long ep), .second, .val (.long eo), .second, .val (.long er), .second, .val (.long es), .second, .unset, .unset, .unset, .unset, .unset, .unset, .unset, .unset, .unset, .unset, .unset, .unset, .unset, .unset] [] 46 #[.val (.long ep), .second, .val (.long eo), .second, .val (.long er), .second, .val (.long es), .second, .val (.long v5), .second, .unset, .unset, .unset, .unset, .unset, .unset, .unset, .unset, .unset, .unset, .unset, .unset] [(.double (0 : UInt64))] := by
  refine own_lloadN (pc2 := 1) d6_0 rfl rfl ?_
  refine own_lloadN (pc2 := 2) d6_1 rfl rfl ?_
  refine own_ladd (pc2 := 3) d6_2 rfl (v := v2) hv2 ?_
  refine own_lload (pc2 := 5) d6_3 rfl rfl ?_
  refine own_ladd (pc2 := 6) d6_5 rfl (v := v5) hv5 ?_
  refine own_lstore (pc2 := 8) d6_6 rfl (L' := #[.val (.long ep), .second, .val (.long eo), .second, .val (.long er), .second, .val (.long es), .second, .val (.long v5), .second, .unset, .unset, .unset, .unset, .unset, .unset, .unset, .unset, .unset, .unset, .unset, .unset]) rfl ?_
  refine own_lload (pc2 := 10) d6_8 rfl rfl ?_
  refine own_lconst (v := 0) (pc2 := 11) d6_10 rfl rfl ?_
  refine own_lcmp (pc2 := 12) d6_11 rfl (v := v11) hv11 ?_
  refine own_ifYes (pc' := 28) d6_12 hb12 (by decide) (by decide) ?_
  refine own_lload (pc2 := 30) d6_28 rfl rfl ?_
  refine own_lconst (v := 0) (pc2 := 31) d6_30 rfl rfl ?_
  refine own_lcmp (pc2 := 32) d6_31 rfl (v := v31) hv31 ?_
  refine own_ifYes (pc' := 37) d6_32 hb32 (by decide) (by decide) ?_
  refine own_lload (pc2 := 39) d6_37 rfl rfl ?_
  refine own_lload (pc2 := 41) d6_39 rfl rfl ?_
  refine own_lcmp (pc2 := 42) d6_41 rfl (v := v41) hv41 ?_
  refine own_ifNo (pc2 := 45) d6_42 rfl hb42 ?_
  refine own_dconst0 (v := 0) (pc2 := 46) d6_45 rfl rfl ?_
  exact own_refl
theorem own_e3_0 (ep : Int64) (eo : Int64) (er : Int64) (es : Int64) (v2 : Int64) (hv2 : (ep + eo) = v2) (v5 : Int64) (hv5 : (v2 + er) = v5) (v11 : Int32) (hv11 : (if v5 > (0 : Int64) then (1 : Int32) else if v5 = (0 : Int64) then 0 else -1) = v11) (hb12 : ifCond.holds .ne v11 = true) (v31 : Int32) (hv31 : (if es > (0 : Int64) then (1 : Int32) else if es = (0 : Int64) then 0 else -1) = v31) (hb32 : ifCond.holds .gt v31 = true) (v41 : Int32) (hv41 : (if es > v5 then (1 : Int32) else if es = v5 then 0 else -1) = v41) (hb42 : ifCond.holds .lt v41 = true) (v52 : Int64) (hv52 : ((2 : Int64) * eo) = v52) (v53 : Int64) (hv53 : (ep + v52) = v53) (v56 : Int64) (hv56 : (v53 + er) = v56) :
    own_Go own_K6 method_3_code 0 #[.val (.long ep), .second, .val (.long eo), .second, .val (.long er), .second, .val (.long es), .second, .unset, .unset, .unset, .unset, .unset, .unset, .unset, .unset, .unset, .unset, .unset, .unset, .unset, .unset] [] 61 #[.val (.long ep), .second, .val (.long eo), .second, .val (.long er), .second, .val (.long es), .second, .val (.long v5), .second, .val (.long v56), .second, .unset, .unset, .unset, .unset, .unset, .unset, .unset, .unset, .unset, .unset] [(.long (1 : Int64)), (.long ep)] := by
  refine own_lloadN (pc2 := 1) d6_0 rfl rfl ?_
  refine own_lloadN (pc2 := 2) d6_1 rfl rfl ?_
  refine own_ladd (pc2 := 3) d6_2 rfl (v := v2) hv2 ?_
  refine own_lload (pc2 := 5) d6_3 rfl rfl ?_
  refine own_ladd (pc2 := 6) d6_5 rfl (v := v5) hv5 ?_
  refine own_lstore (pc2 := 8) d6_6 rfl (L' := #[.val (.long ep), .second, .val (.long eo), .second, .val (.long er), .second, .val (.long es), .second, .val (.long v5), .second, .unset, .unset, .unset, .unset, .unset, .unset, .unset, .unset, .unset, .unset, .unset, .unset]) rfl ?_
  refine own_lload (pc2 := 10) d6_8 rfl rfl ?_
  refine own_lconst (v := 0) (pc2 := 11) d6_10 rfl rfl ?_
  refine own_lcmp (pc2 := 12) d6_11 rfl (v := v11) hv11 ?_
  refine own_ifYes (pc' := 28) d6_12 hb12 (by decide) (by decide) ?_
  refine own_lload (pc2 := 30) d6_28 rfl rfl ?_
  refine own_lconst (v := 0) (pc2 := 31) d6_30 rfl rfl ?_
  refine own_lcmp (pc2 := 32) d6_31 rfl (v := v31) hv31 ?_
  refine own_ifYes (pc' := 37) d6_32 hb32 (by decide) (by decide) ?_
  refine own_lload (pc2 := 39) d6_37 rfl rfl ?_
  refine own_lload (pc2 := 41) d6_39 rfl rfl ?_
  refine own_lcmp (pc2 := 42) d6_41 rfl (v := v41) hv41 ?_
  refine own_ifYes (pc' := 47) d6_42 hb42 (by decide) (by decide) ?_
  refine own_lloadN (pc2 := 48) d6_47 rfl rfl ?_
  refine own_ldc2L (v := (2 : Int64)) (pc2 := 51) d6_48 rfl (List.mem_of_getElem? (i := 1) rfl) ?_
  refine own_lloadN (pc2 := 52) d6_51 rfl rfl ?_
  refine own_lmul (pc2 := 53) d6_52 rfl (v := v52) hv52 ?_
  refine own_ladd (pc2 := 54) d6_53 rfl (v := v53) hv53 ?_
  refine own_lload (pc2 := 56) d6_54 rfl rfl ?_
  refine own_ladd (pc2 := 57) d6_56 rfl (v := v56) hv56 ?_
  refine own_lstore (pc2 := 59) d6_57 rfl (L' := #[.val (.long ep), .second, .val (.long eo), .second, .val (.long er), .second, .val (.long es), .second, .val (.long v5), .second, .val (.long v56), .second, .unset, .unset, .unset, .unset, .unset, .unset, .unset, .unset, .unset, .unset]) rfl ?_
  refine own_lloadN (pc2 := 60) d6_59 rfl rfl ?_
  refine own_lconst (v := 1) (pc2 := 61) d6_60 rfl rfl ?_
  exact own_refl
theorem own_e3_1 (ep : Int64) (eo : Int64) (er : Int64) (es : Int64) (v5 : Int64) (v56 : Int64) (zP : Int64) :
    own_Go own_K6 method_3_code 64 #[.val (.long ep), .second, .val (.long eo), .second, .val (.long er), .second, .val (.long es), .second, .val (.long v5), .second, .val (.long v56), .second, .unset, .unset, .unset, .unset, .unset, .unset, .unset, .unset, .unset, .unset] [(.long zP)] 69 #[.val (.long ep), .second, .val (.long eo), .second, .val (.long er), .second, .val (.long es), .second, .val (.long v5), .second, .val (.long v56), .second, .val (.long zP), .second, .unset, .unset, .unset, .unset, .unset, .unset, .unset, .unset] [(.long (1 : Int64)), (.long er)] := by
  refine own_lstore (pc2 := 66) d6_64 rfl (L' := #[.val (.long ep), .second, .val (.long eo), .second, .val (.long er), .second, .val (.long es), .second, .val (.long v5), .second, .val (.long v56), .second, .val (.long zP), .second, .unset, .unset, .unset, .unset, .unset, .unset, .unset, .unset]) rfl ?_
  refine own_lload (pc2 := 68) d6_66 rfl rfl ?_
  refine own_lconst (v := 1) (pc2 := 69) d6_68 rfl rfl ?_
  exact own_refl
theorem own_e3_2 (ep : Int64) (eo : Int64) (er : Int64) (es : Int64) (v5 : Int64) (v56 : Int64) (zP : Int64) (zR : Int64) (v78 : Int64) (hv78 : (v56 * zP) = v78) (v81 : Int64) (hv81 : (v78 * zR) = v81) (v87 : Int32) (hv87 : (if es > ep then (1 : Int32) else if es = ep then 0 else -1) = v87) (hb88 : ifCond.holds .gt v87 = false) (v95 : Int64) (hv95 : (es * es) = v95) (v98 : Int64) (hv98 : (v95 * zR) = v98) (v158 : Int64) (hv158 : (v81 - v98) = v158) (v159 : UInt64) (hv159 : (FP.l2d v158) = v159) (v162 : UInt64) (hv162 : (FP.l2d v81) = v162) (v163 : UInt64) (hv163 : (FP.ddiv v159 v162) = v163) (nn163 : NoNaN64 (FP.ddiv v159 v162)) :
    own_Go own_K6 method_3_code 72 #[.val (.long ep), .second, .val (.long eo), .second, .val (.long er), .second, .val (.long es), .second, .val (.long v5), .second, .val (.long v56), .second, .val (.long zP), .second, .unset, .unset, .unset, .unset, .unset, .unset, .unset, .unset] [(.long zR)] 164 #[.val (.long ep), .second, .val (.long eo), .second, .val (.long er), .second, .val (.long es), .second, .val (.long v5), .second, .val (.long v56), .second, .val (.long zP), .second, .val (.long zR), .second, .val (.long v81), .second, .val (.long v98), .second, .unset, .unset] [(.double v163)] := by
  refine own_lstore (pc2 := 74) d6_72 rfl (L' := #[.val (.long ep), .second, .val (.long eo), .second, .val (.long er), .second, .val (.long es), .second, .val (.long v5), .second, .val (.long v56), .second, .val (.long zP), .second, .val (.long zR), .second, .unset, .unset, .unset, .unset, .unset, .unset]) rfl ?_
  refine own_lload (pc2 := 76) d6_74 rfl rfl ?_
  refine own_lload (pc2 := 78) d6_76 rfl rfl ?_
  refine own_lmul (pc2 := 79) d6_78 rfl (v := v78) hv78 ?_
  refine own_lload (pc2 := 81) d6_79 rfl rfl ?_
  refine own_lmul (pc2 := 82) d6_81 rfl (v := v81) hv81 ?_
  refine own_lstore (pc2 := 84) d6_82 rfl (L' := #[.val (.long ep), .second, .val (.long eo), .second, .val (.long er), .second, .val (.long es), .second, .val (.long v5), .second, .val (.long v56), .second, .val (.long zP), .second, .val (.long zR), .second, .val (.long v81), .second, .unset, .unset, .unset, .unset]) rfl ?_
  refine own_lload (pc2 := 86) d6_84 rfl rfl ?_
  refine own_lloadN (pc2 := 87) d6_86 rfl rfl ?_
  refine own_lcmp (pc2 := 88) d6_87 rfl (v := v87) hv87 ?_
  refine own_ifNo (pc2 := 91) d6_88 rfl hb88 ?_
  refine own_lload (pc2 := 93) d6_91 rfl rfl ?_
  refine own_lload (pc2 := 95) d6_93 rfl rfl ?_
  refine own_lmul (pc2 := 96) d6_95 rfl (v := v95) hv95 ?_
  refine own_lload (pc2 := 98) d6_96 rfl rfl ?_
  refine own_lmul (pc2 := 99) d6_98 rfl (v := v98) hv98 ?_
  refine own_lstore (pc2 := 101) d6_99 rfl (L' := #[.val (.long ep), .second, .val (.long eo), .second, .val (.long er), .second, .val (.long es), .second, .val (.long v5), .second, .val (.long v56), .second, .val (.long zP), .second, .val (.long zR), .second, .val (.long v81), .second, .val (.long v98), .second, .unset, .unset]) rfl ?_
  refine own_goto (pc' := 154) d6_101 (by decide) (by decide) ?_
  refine own_lload (pc2 := 156) d6_154 rfl rfl ?_
  refine own_lload (pc2 := 158) d6_156 rfl rfl ?_
  refine own_lsub (pc2 := 159) d6_158 rfl (v := v158) hv158 ?_
  refine own_l2d (pc2 := 160) d6_159 rfl (v := v159) hv159 ?_
  refine own_lload (pc2 := 162) d6_160 rfl rfl ?_
  refine own_l2d (pc2 := 163) d6_162 rfl (v := v162) hv162 ?_
  refine own_ddiv (pc2 := 164) d6_163 rfl nn163 (v := v163) hv163 ?_
  exact own_refl
theorem own_e4_0 (ep : Int64) (eo : Int64) (er : Int64) (es : Int64) (v2 : Int64) (hv2 : (ep + eo) = v2) (v5 : Int64) (hv5 : (v2 + er) = v5) (v11 : Int32) (hv11 : (if v5 > (0 : Int64) then (1 : Int32) else if v5 = (0 : Int64) then 0 else -1) = v11) (hb12 : ifCond.holds .ne v11 = true) (v31 : Int32) (hv31 : (if es > (0 : Int64) then (1 : Int32) else if es = (0 : Int64) then 0 else -1) = v31) (hb32 : ifCond.holds .gt v31 = true) (v41 : Int32) (hv41 : (if es > v5 then (1 : Int32) else if es = v5 then 0 else -1) = v41) (hb42 : ifCond.holds .lt v41 = true) (v52 : Int64) (hv52 : ((2 : Int64) * eo) = v52) (v53 : Int64) (hv53 : (ep + v52) = v53) (v56 : Int64) (hv56 : (v53 + er) = v56) :
    own_Go own_K6 method_3_code 0 #[.val (.long ep), .second, .val (.long eo), .second, .val (.long er), .second, .val (.long es), .second, .unset, .unset, .unset, .unset, .unset, .unset, .unset, .unset, .unset, .unset, .unset, .unset, .unset, .unset] [] 61 #[.val (.long ep), .second, .val (.long eo), .second, .val (.long er), .second, .val (.long es), .second, .val (.long v5), .second, .val (.long v56), .second, .unset, .unset, .unset, .unset, .unset, .unset, .unset, .unset, .unset, .unset] [(.long (1 : Int64)), (.long ep)] := by
  refine own_lloadN (pc2 := 1) d6_0 rfl rfl ?_
  refine own_lloadN (pc2 := 2) d6_1 rfl rfl ?_
  refine own_ladd (pc2 := 3) d6_2 rfl (v := v2) hv2 ?_
  refine own_lload (pc2 := 5) d6_3 rfl rfl ?_
  refine own_ladd (pc2 := 6) d6_5 rfl (v := v5) hv5 ?_
  refine own_lstore (pc2 := 8) d6_6 rfl (L' := #[.val (.long ep), .second, .val (.long eo), .second, .val (.long er), .second, .val (.long es), .second, .val (.long v5), .second, .unset, .unset, .unset, .unset, .unset, .unset, .unset, .unset, .unset, .unset, .unset, .unset]) rfl ?_
  refine own_lload (pc2 := 10) d6_8 rfl rfl ?_
  refine own_lconst (v := 0) (pc2 := 11) d6_10 rfl rfl ?_
  refine own_lcmp (pc2 := 12) d6_11 rfl (v := v11) hv11 ?_
  refine own_ifYes (pc' := 28) d6_12 hb12 (by decide) (by decide) ?_
  refine own_lload (pc2 := 30) d6_28 rfl rfl ?_
  refine own_lconst (v := 0) (pc2 := 31) d6_30 rfl rfl ?_
  refine own_lcmp (pc2 := 32) d6_31 rfl (v := v31) hv31 ?_
  refine own_ifYes (pc' := 37) d6_32 hb32 (by decide) (by decide) ?_
  refine own_lload (pc2 := 39) d6_37 rfl rfl ?_
  refine own_lload (pc2 := 41) d6_39 rfl rfl ?_
  refine own_lcmp (pc2 := 42) d6_41 rfl (v := v41) hv41 ?_
  refine own_ifYes (pc' := 47) d6_42 hb42 (by decide) (by decide) ?_
  refine own_lloadN (pc2 := 48) d6_47 rfl rfl ?_
  refine own_ldc2L (v := (2 : Int64)) (pc2 := 51) d6_48 rfl (List.mem_of_getElem? (i := 1) rfl) ?_
  refine own_lloadN (pc2 := 52) d6_51 rfl rfl ?_
  refine own_lmul (pc2 := 53) d6_52 rfl (v := v52) hv52 ?_
  refine own_ladd (pc2 := 54) d6_53 rfl (v := v53) hv53 ?_
  refine own_lload (pc2 := 56) d6_54 rfl rfl ?_
  refine own_ladd (pc2 := 57) d6_56 rfl (v := v56) hv56 ?_
  refine own_lstore (pc2 := 59) d6_57 rfl (L' := #[.val (.long ep), .second, .val (.long eo), .second, .val (.long er), .second, .val (.long es), .second, .val (.long v5), .second, .val (.long v56), .second, .unset, .unset, .unset, .unset, .unset, .unset, .unset, .unset, .unset, .unset]) rfl ?_
  refine own_lloadN (pc2 := 60) d6_59 rfl rfl ?_
  refine own_lconst (v := 1) (pc2 := 61) d6_60 rfl rfl ?_
  exact own_refl
theorem own_e4_1 (ep : Int64) (eo : Int64) (er : Int64) (es : Int64) (v5 : Int64) (v56 : Int64) (zP : Int64) :
    own_Go own_K6 method_3_code 64 #[.val (.long ep), .second, .val (.long eo), .second, .val (.long er), .second, .val (.long es), .second, .val (.long v5), .second, .val (.long v56), .second, .unset, .unset, .unset, .unset, .unset, .unset, .unset, .unset, .unset, .unset] [(.long zP)] 69 #[.val (.long ep), .second, .val (.long eo), .second, .val (.long er), .second, .val (.long es), .second, .val (.long v5), .second, .val (.long v56), .second, .val (.long zP), .second, .unset, .unset, .unset, .unset, .unset, .unset, .unset, .unset] [(.long (1 : Int64)), (.long er)] := by
  refine own_lstore (pc2 := 66) d6_64 rfl (L' := #[.val (.long ep), .second, .val (.long eo), .second, .val (.long er), .second, .val (.long es), .second, .val (.long v5), .second, .val (.long v56), .second, .val (.long zP), .second, .unset, .unset, .unset, .unset, .unset, .unset, .unset, .unset]) rfl ?_
  refine own_lload (pc2 := 68) d6_66 rfl rfl ?_
  refine own_lconst (v := 1) (pc2 := 69) d6_68 rfl rfl ?_
  exact own_refl
theorem own_e4_2 (ep : Int64) (eo : Int64) (er : Int64) (es : Int64) (v5 : Int64) (v56 : Int64) (zP : Int64) (zR : Int64) (v78 : Int64) (hv78 : (v56 * zP) = v78) (v81 : Int64) (hv81 : (v78 * zR) = v81) (v87 : Int32) (hv87 : (if es > ep then (1 : Int32) else if es = ep then 0 else -1) = v87) (hb88 : ifCond.holds .gt v87 = true) (v108 : Int64) (hv108 : (ep + eo) = v108) (v109 : Int32) (hv109 : (if es > v108 then (1 : Int32) else if es = v108 then 0 else -1) = v109) (hb110 : ifCond.holds .gt v109 = false) (v120 : Int64) (hv120 : (es - ep) = v120) (v121 : Int64) (hv121 : ((2 : Int64) * v120) = v121) (v122 : Int64) (hv122 : (ep + v121) = v122) (v125 : Int64) (hv125 : (v122 * zP) = v125) (v128 : Int64) (hv128 : (v125 * zR) = v128) (v158 : Int64) (hv158 : (v81 - v128) = v158) (v159 : UInt64) (hv159 : (FP.l2d v158) = v159) (v162 : UInt64) (hv162 : (FP.l2d v81) = v162) (v163 : UInt64) (hv163 : (FP.ddiv v159 v162) = v163) (nn163 : NoNaN64 (FP.ddiv v159 v162)) :
    own_Go own_K6 method_3_code 72 #[.val (.long ep), .second, .val (.long eo), .second, .val (.long er), .second, .val (.long es), .second, .val (.long v5), .second, .val (.long v56), .second, .val (.long zP), .second, .unset, .unset, .unset, .unset, .unset, .unset, .unset, .unset] [(.long zR)] 164 #[.val (.long ep), .second, .val (.long eo), .second, .val (.long er), .second, .val (.long es), .second, .val (.long v5), .second, .val (.long v56), .second, .val (.long zP), .second, .val (.long zR), .second, .val (.long v81), .second, .val (.long v128), .second, .unset, .unset] [(.double v163)] := by
  refine own_lstore (pc2 := 74) d6_72 rfl (L' := #[.val (.long ep), .second, .val (.long eo), .second, .val (.long er), .second, .val (.long es), .second, .val (.long v5), .second, .val (.long v56), .second, .val (.long zP), .second, .val (.long zR), .second, .unset, .unset, .unset, .unset, .unset, .unset]) rfl ?_
  refine own_lload (pc2 := 76) d6_74 rfl rfl ?_
  refine own_lload (pc2 := 78) d6_76 rfl rfl ?_
  refine own_lmul (pc2 := 79) d6_78 rfl (v := v78) hv78 ?_
  refine own_lload (pc2 := 81) d6_79 rfl rfl ?_
  refine own_lmul (pc2 := 82) d6_81 rfl (v := v81) hv81 ?_
  refine own_lstore (pc2 := 84) d6_82 rfl (L' := #[.val (.long ep), .second, .val (.long eo), .second, .val (.long er), .second, .val (.long es), .second, .val (.long v5), .second, .val (.long v56), .second, .val (.long zP), .second, .val (.long zR), .second, .val (.long v81), .second, .unset, .unset, .unset, .unset]) rfl ?_
  refine own_lload (pc2 := 86) d6_84 rfl rfl ?_
  refine own_lloadN (pc2 := 87) d6_86 rfl rfl ?_
  refine own_lcmp (pc2 := 88) d6_87 rfl (v := v87) hv87 ?_
  refine own_ifYes (pc' := 104) d6_88 hb88 (by decide) (by decide) ?_
  refine own_lload (pc2 := 106) d6_104 rfl rfl ?_
  refine own_lloadN (pc2 := 107) d6_106 rfl rfl ?_
  refine own_lloadN (pc2 := 108) d6_107 rfl rfl ?_
  refine own_ladd (pc2 := 109) d6_108 rfl (v := v108) hv108 ?_
  refine own_lcmp (pc2 := 110) d6_109 rfl (v := v109) hv109 ?_
  refine own_ifNo (pc2 := 113) d6_110 rfl hb110 ?_
  refine own_lloadN (pc2 := 114) d6_113 rfl rfl ?_
  refine own_ldc2L (v := (2 : Int64)) (pc2 := 117) d6_114 rfl (List.mem_of_getElem? (i := 1) rfl) ?_
  refine own_lload (pc2 := 119) d6_117 rfl rfl ?_
  refine own_lloadN (pc2 := 120) d6_119 rfl rfl ?_
  refine own_lsub (pc2 := 121) d6_120 rfl (v := v120) hv120 ?_
  refine own_lmul (pc2 := 122) d6_121 rfl (v := v121) hv121 ?_
  refine own_ladd (pc2 := 123) d6_122 rfl (v := v122) hv122 ?_
  refine own_lload (pc2 := 125) d6_123 rfl rfl ?_
  refine own_lmul (pc2 := 126) d6_125 rfl (v := v125) hv125 ?_
  refine own_lload (pc2 := 128) d6_126 rfl rfl ?_
  refine own_lmul (pc2 := 129) d6_128 rfl (v := v128) hv128 ?_
  refine own_lstore (pc2 := 131) d6_129 rfl (L' := #[.val (.long ep), .second, .val (.long eo), .second, .val (.long er), .second, .val (.long es), .second, .val (.long v5), .second, .val (.long v56), .second, .val (.long zP), .second, .val (.long zR), .second, .val (.long v81), .second, .val (.long v128), .second, .unset, .unset]) rfl ?_
  refine own_goto (pc' := 154) d6_131 (by decide) (by decide) ?_
  refine own_lload (pc2 := 156) d6_154 rfl rfl ?_
  refine own_lload (pc2 := 158) d6_156 rfl rfl ?_
  refine own_lsub (pc2 := 159) d6_158 rfl (v := v158) hv158 ?_
  refine own_l2d (pc2 := 160) d6_159 rfl (v := v159) hv159 ?_
  refine own_lload (pc2 := 162) d6_160 rfl rfl ?_
  refine own_l2d (pc2 := 163) d6_162 rfl (v := v162) hv162 ?_
  refine own_ddiv (pc2 := 164) d6_163 rfl nn163 (v := v163) hv163 ?_
  exact own_refl
theorem own_e5_0 (ep : Int64) (eo : Int64) (er : Int64) (es : Int64) (v2 : Int64) (hv2 : (ep + eo) = v2) (v5 : Int64) (hv5 : (v2 + er) = v5) (v11 : Int32) (hv11 : (if v5 > (0 : Int64) then (1 : Int32) else if v5 = (0 : Int64) then 0 else -1) = v11) (hb12 : ifCond.holds .ne v11 = true) (v31 : Int32) (hv31 : (if es > (0 : Int64) then (1 : Int32) else if es = (0 : Int64) then 0 else -1) = v31) (hb32 : ifCond.holds .gt v31 = true) (v41 : Int32) (hv41 : (if es > v5 then (1 : Int32) else if es = v5 then 0 else -1) = v41) (hb42 : ifCond.holds .lt v41 = true) (v52 : Int64) (hv52 : ((2 : Int64) * eo) = v52) (v53 : Int64) (hv53 : (ep + v52) = v53) (v56 : Int64) (hv56 : (v53 + er) = v56) :
    own_Go own_K6 method_3_code 0 #[.val (.long ep), .second, .val (.long eo), .second, .val (.long er), .second, .val (.long es), .second, .unset, .unset, .unset, .unset, .unset, .unset, .unset, .unset, .unset, .unset, .unset, .unset, .unset, .unset] [] 61 #[.val (.long ep), .second, .val (.long eo), .second, .val (.long er), .second, .val (.long es), .second, .val (.long v5), .second, .val (.long v56), .second, .unset, .unset, .unset, .unset, .unset, .unset, .unset, .unset, .unset, .unset] [(.long (1 : Int64)), (.long ep)] := by
  refine own_lloadN (pc2 := 1) d6_0 rfl rfl ?_
  refine own_lloadN (pc2 := 2) d6_1 rfl rfl ?_
  refine own_ladd (pc2 := 3) d6_2 rfl (v := v2) hv2 ?_
  refine own_lload (pc2 := 5) d6_3 rfl rfl ?_
  refine own_ladd (pc2 := 6) d6_5 rfl (v := v5) hv5 ?_
  refine own_lstore (pc2 := 8) d6_6 rfl (L' := #[.val (.long ep), .second, .val (.long eo), .second, .val (.long er), .second, .val (.long es), .second, .val (.long v5), .second, .unset, .unset, .unset, .unset, .unset, .unset, .unset, .unset, .unset, .unset, .unset, .unset]) rfl ?_
  refine own_lload (pc2 := 10) d6_8 rfl rfl ?_
  refine own_lconst (v := 0) (pc2 := 11) d6_10 rfl rfl ?_
  refine own_lcmp (pc2 := 12) d6_11 rfl (v := v11) hv11 ?_
  refine own_ifYes (pc' := 28) d6_12 hb12 (by decide) (by decide) ?_
  refine own_lload (pc2 := 30) d6_28 rfl rfl ?_
  refine own_lconst (v := 0) (pc2 := 31) d6_30 rfl rfl ?_
  refine own_lcmp (pc2 := 32) d6_31 rfl (v := v31) hv31 ?_
  refine own_ifYes (pc' := 37) d6_32 hb32 (by decide) (by decide) ?_
  refine own_lload (pc2 := 39) d6_37 rfl rfl ?_
  refine own_lload (pc2 := 41) d6_39 rfl rfl ?_
  refine own_lcmp (pc2 := 42) d6_41 rfl (v := v41) hv41 ?_
  refine own_ifYes (pc' := 47) d6_42 hb42 (by decide) (by decide) ?_
  refine own_lloadN (pc2 := 48) d6_47 rfl rfl ?_
  refine own_ldc2L (v := (2 : Int64)) (pc2 := 51) d6_48 rfl (List.mem_of_getElem? (i := 1) rfl) ?_
  refine own_lloadN (pc2 := 52) d6_51 rfl rfl ?_
  refine own_lmul (pc2 := 53) d6_52 rfl (v := v52) hv52 ?_
  refine own_ladd (pc2 := 54) d6_53 rfl (v := v53) hv53 ?_
  refine own_lload (pc2 := 56) d6_54 rfl rfl ?_
  refine own_ladd (pc2 := 57) d6_56 rfl (v := v56) hv56 ?_
  refine own_lstore (pc2 := 59) d6_57 rfl (L' := #[.val (.long ep), .second, .val (.long eo), .second, .val (.long er), .second, .val (.long es), .second, .val (.long v5), .second, .val (.long v56), .second, .unset, .unset, .unset, .unset, .unset, .unset, .unset, .unset, .unset, .unset]) rfl ?_
  refine own_lloadN (pc2 := 60) d6_59 rfl rfl ?_
  refine own_lconst (v := 1) (pc2 := 61) d6_60 rfl rfl ?_
  exact own_refl
theorem own_e5_1 (ep : Int64) (eo : Int64) (er : Int64) (es : Int64) (v5 : Int64) (v56 : Int64) (zP : Int64) :
    own_Go own_K6 method_3_code 64 #[.val (.long ep), .second, .val (.long eo), .second, .val (.long er), .second, .val (.long es), .second, .val (.long v5), .second, .val (.long v56), .second, .unset, .unset, .unset, .unset, .unset, .unset, .unset, .unset, .unset, .unset] [(.long zP)] 69 #[.val (.long ep), .second, .val (.long eo), .second, .val (.long er), .second, .val (.long es), .second, .val (.long v5), .second, .val (.long v56), .second, .val (.long zP), .second, .unset, .unset, .unset, .unset, .unset, .unset, .unset, .unset] [(.long (1 : Int64)), (.long er)] := by
  refine own_lstore (pc2 := 66) d6_64 rfl (L' := #[.val (.long ep), .second, .val (.long eo), .second, .val (.long er), .second, .val (.long es), .second, .val (.long v5), .second, .val (.long v56), .second, .val (.long zP), .second, .unset, .unset, .unset, .unset, .unset, .unset, .unset, .unset]) rfl ?_
  refine own_lload (pc2 := 68) d6_66 rfl rfl ?_
  refine own_lconst (v := 1) (pc2 := 69) d6_68 rfl rfl ?_
  exact own_refl
theorem own_e5_2 (ep : Int64) (eo : Int64) (er : Int64) (es : Int64) (v5 : Int64) (v56 : Int64) (zP : Int64) (zR : Int64) (v78 : Int64) (hv78 : (v56 * zP) = v78) (v81 : Int64) (hv81 : (v78 * zR) = v81) (v87 : Int32) (hv87 : (if es > ep then (1 : Int32) else if es = ep then 0 else -1) = v87) (hb88 : ifCond.holds .gt v87 = true) (v108 : Int64) (hv108 : (ep + eo) = v108) (v109 : Int32) (hv109 : (if es > v108 then (1 : Int32) else if es = v108 then 0 else -1) = v109) (hb110 : ifCond.holds .gt v109 = true) (v138 : Int64) (hv138 : (v5 - es) = v138) (v147 : Int64) (hv147 : (v138 * v138) = v147) (v150 : Int64) (hv150 : (v147 * zP) = v150) (v151 : Int64) (hv151 : (v81 - v150) = v151) (v158 : Int64) (hv158 : (v81 - v151) = v158) (v159 : UInt64) (hv159 : (FP.l2d v158) = v159) (v162 : UInt64) (hv162 : (FP.l2d v81) = v162) (v163 : UInt64) (hv163 : (FP.ddiv v159 v162) = v163) (nn163 : NoNaN64 (FP.ddiv v159 v162)) :
    own_Go own_K6 method_3_code 72 #[.val (.long ep), .second, .val (.long eo), .second, .val (.long er), .second, .val (.long es), .second, .val (.long v5), .second, .val (.long v56), .second, .val (.long zP), .second, .unset, .unset, .unset, .unset, .unset, .unset, .unset, .unset] [(.long zR)] 164 #[.val (.long ep), .second, .val (.long eo), .second, .val (.long er), .second, .val (.long es), .second, .val (.long v5), .second, .val (.long v56), .second, .val (.long zP), .second, .val (.long zR), .second, .val (.long v81), .second, .val (.long v151), .second, .val (.long v138), .second] [(.double v163)] := by
  refine own_lstore (pc2 := 74) d6_72 rfl (L' := #[.val (.long ep), .second, .val (.long eo), .second, .val (.long er), .second, .val (.long es), .second, .val (.long v5), .second, .val (.long v56), .second, .val (.long zP), .second, .val (.long zR), .second, .unset, .unset, .unset, .unset, .unset, .unset]) rfl ?_
  refine own_lload (pc2 := 76) d6_74 rfl rfl ?_
  refine own_lload (pc2 := 78) d6_76 rfl rfl ?_
  refine own_lmul (pc2 := 79) d6_78 rfl (v := v78) hv78 ?_
  refine own_lload (pc2 := 81) d6_79 rfl rfl ?_
  refine own_lmul (pc2 := 82) d6_81 rfl (v := v81) hv81 ?_
  refine own_lstore (pc2 := 84) d6_82 rfl (L' := #[.val (.long ep), .second, .val (.long eo), .second, .val (.long er), .second, .val (.long es), .second, .val (.long v5), .second, .val (.long v56), .second, .val (.long zP), .second, .val (.long zR), .second, .val (.long v81), .second, .unset, .unset, .unset, .unset]) rfl ?_
  refine own_lload (pc2 := 86) d6_84 rfl rfl ?_
  refine own_lloadN (pc2 := 87) d6_86 rfl rfl ?_
  refine own_lcmp (pc2 := 88) d6_87 rfl (v := v87) hv87 ?_
  refine own_ifYes (pc' := 104) d6_88 hb88 (by decide) (by decide) ?_
  refine own_lload (pc2 := 106) d6_104 rfl rfl ?_
  refine own_lloadN (pc2 := 107) d6_106 rfl rfl ?_
  refine own_lloadN (pc2 := 108) d6_107 rfl rfl ?_
  refine own_ladd (pc2 := 109) d6_108 rfl (v := v108) hv108 ?_
  refine own_lcmp (pc2 := 110) d6_109 rfl (v := v109) hv109 ?_
  refine own_ifYes (pc' := 134) d6_110 hb110 (by decide) (by decide) ?_
  refine own_lload (pc2 := 136) d6_134 rfl rfl ?_
  refine own_lload (pc2 := 138) d6_136 rfl rfl ?_
  refine own_lsub (pc2 := 139) d6_138 rfl (v := v138) hv138 ?_
  refine own_lstore (pc2 := 141) d6_139 rfl (L' := #[.val (.long ep), .second, .val (.long eo), .second, .val (.long er), .second, .val (.long es), .second, .val (.long v5), .second, .val (.long v56), .second, .val (.long zP), .second, .val (.long zR), .second, .val (.long v81), .second, .unset, .unset, .val (.long v138), .second]) rfl ?_
  refine own_lload (pc2 := 143) d6_141 rfl rfl ?_
  refine own_lload (pc2 := 145) d6_143 rfl rfl ?_
  refine own_lload (pc2 := 147) d6_145 rfl rfl ?_
  refine own_lmul (pc2 := 148) d6_147 rfl (v := v147) hv147 ?_
  refine own_lload (pc2 := 150) d6_148 rfl rfl ?_
  refine own_lmul (pc2 := 151) d6_150 rfl (v := v150) hv150 ?_
  refine own_lsub (pc2 := 152) d6_151 rfl (v := v151) hv151 ?_
  refine own_lstore (pc2 := 154) d6_152 rfl (L' := #[.val (.long ep), .second, .val (.long eo), .second, .val (.long er), .second, .val (.long es), .second, .val (.long v5), .second, .val (.long v56), .second, .val (.long zP), .second, .val (.long zR), .second, .val (.long v81), .second, .val (.long v151), .second, .val (.long v138), .second]) rfl ?_
  refine own_lload (pc2 := 156) d6_154 rfl rfl ?_
  refine own_lload (pc2 := 158) d6_156 rfl rfl ?_
  refine own_lsub (pc2 := 159) d6_158 rfl (v := v158) hv158 ?_
  refine own_l2d (pc2 := 160) d6_159 rfl (v := v159) hv159 ?_
  refine own_lload (pc2 := 162) d6_160 rfl rfl ?_
  refine own_l2d (pc2 := 163) d6_162 rfl (v := v162) hv162 ?_
  refine own_ddiv (pc2 := 164) d6_163 rfl nn163 (v := v163) hv163 ?_
  exact own_refl
set_option maxRecDepth 65536 in
set_option maxHeartbeats 4000000 in
theorem own_expd (l : Launch) (Z : State) (a0 : Array Value) (hb0 : Heap) (hw : ∀ d ∈ tables_1, d.before a0 Z = true) (ep eo er es : Int64) (cs : List (Addr × own_Cel)) (p0 : 0 ≤ ep.toInt) (p1 : ep.toInt ≤ 65535) (q0 : 0 ≤ eo.toInt) (q1 : eo.toInt ≤ 65535) (r0 : 0 ≤ er.toInt) (r1 : er.toInt ≤ 65535) (s0 : es.toInt.natAbs ≤ 200000) :
    own_Met l Z a0 hb0 (⟨"com/example/hazeline/hazeline/fuzzy/TrapezoidPreferenceRatioPinLaw", "expected", "(JJJJ)D"⟩ : MethodName) method_3_code 22 (some .double) [] ({ frames := 1, cells := 0, slots := 0, locals := 15 } : Room) #[.long ep, .long eo, .long er, .long es] cs (fun v cs' => (∃ z, v = some (.double z) ∧ own_rd z (own_rho ep.toInt eo.toInt er.toInt es.toInt)) ∧ cs' = cs) := by
  refine own_met_of (L0 := #[.val (.long ep), .second, .val (.long eo), .second, .val (.long er), .second, .val (.long es), .second, .unset, .unset, .unset, .unset, .unset, .unset, .unset, .unset, .unset, .unset, .unset, .unset, .unset, .unset]) (plainFor_of_name own_pn6) (fun m => own_ef6 m ep eo er es) ?_
  intro p e s m below meth c T0 hx hZ hown hby hml hnm H0
  have l0 : (0 : Int64).toInt = 0 := by decide
  have l1 : (1 : Int64).toInt = 1 := by decide
  have l2 : (2 : Int64).toInt = 2 := by decide
  unfold own_rho
  by_cases h0 : ep.toInt + eo.toInt + er.toInt = 0
  · obtain ⟨v2, hv2⟩ : ∃ z : Int64, (ep + eo) = z := ⟨_, rfl⟩
    obtain ⟨v5, hv5⟩ : ∃ z : Int64, (v2 + er) = z := ⟨_, rfl⟩
    obtain ⟨v11, hv11⟩ : ∃ z : Int32, (if v5 > (0 : Int64) then (1 : Int32) else if v5 = (0 : Int64) then 0 else -1) = z := ⟨_, rfl⟩
    obtain ⟨v18, hv18⟩ : ∃ z : Int32, (if es > (0 : Int64) then (1 : Int32) else if es = (0 : Int64) then 0 else -1) = z := ⟨_, rfl⟩
    obtain ⟨t27_0, ht27_0⟩ : ∃ z : UInt64, (bif ifCond.holds .ge v18 then (0 : UInt64) else (4607182418800017408 : UInt64)) = z := ⟨_, rfl⟩
    have e2 : v2.toInt = ep.toInt + eo.toInt := by rw [← hv2]; exact own_la rfl rfl (by omega) (by omega)
    have e5 : v5.toInt = ep.toInt + eo.toInt + er.toInt := by rw [← hv5]; exact own_la e2 rfl (by omega) (by omega)
    have hb12 : ifCond.holds .ne v11 = false := by rw [← hv11, own_lc_ne, e5, l0]; simp; omega
    have hz : own_rd t27_0 (if es.toInt < 0 then 1 else 0) := by
      rw [← ht27_0, ← hv18, own_lc_ge, l0]
      by_cases h : es.toInt < 0
      · have : ¬ 0 ≤ es.toInt := by omega
        simp only [h, if_true, this, decide_false, cond_false]; exact own_rd_of own_one
      · have : 0 ≤ es.toInt := by omega
        simp only [h, if_false, this, decide_true, cond_true]; exact own_rd_of own_zero
    refine ⟨_, _, _, _, 27, #[.val (.long ep), .second, .val (.long eo), .second, .val (.long er), .second, .val (.long es), .second, .val (.long v5), .second, .unset, .unset, .unset, .unset, .unset, .unset, .unset, .unset, .unset, .unset, .unset, .unset], H0, by decide, by decide, Or.inr ⟨.double, (.double t27_0), [], .dreturn, rfl, ⟨⟨t27_0, rfl, by rw [if_pos h0]; exact hz⟩, rfl⟩, d6_27, own_retD _, fun target q => ?_⟩⟩
    refine own_go H0 hx hZ hown hby hw own_K6_ok (own_ez0 ep eo er es v2 hv2 v5 hv5 v11 hv11 hb12) _ ?_
    refine own_go H0 hx hZ hown hby hw own_K6_ok (own_ez1 ep eo er es v5 v18 hv18 t27_0 ht27_0) _ ?_
    exact q
  · by_cases h1 : es.toInt ≤ 0
    · obtain ⟨v2, hv2⟩ : ∃ z : Int64, (ep + eo) = z := ⟨_, rfl⟩
      obtain ⟨v5, hv5⟩ : ∃ z : Int64, (v2 + er) = z := ⟨_, rfl⟩
      obtain ⟨v11, hv11⟩ : ∃ z : Int32, (if v5 > (0 : Int64) then (1 : Int32) else if v5 = (0 : Int64) then 0 else -1) = z := ⟨_, rfl⟩
      obtain ⟨v31, hv31⟩ : ∃ z : Int32, (if es > (0 : Int64) then (1 : Int32) else if es = (0 : Int64) then 0 else -1) = z := ⟨_, rfl⟩
      have e2 : v2.toInt = ep.toInt + eo.toInt := by rw [← hv2]; exact own_la rfl rfl (by omega) (by omega)
      have e5 : v5.toInt = ep.toInt + eo.toInt + er.toInt := by rw [← hv5]; exact own_la e2 rfl (by omega) (by omega)
      have hb12 : ifCond.holds .ne v11 = true := by rw [← hv11, own_lc_ne, e5, l0]; simp; omega
      have hb32 : ifCond.holds .gt v31 = false := by rw [← hv31, own_lc_gt, l0]; simp; omega
      refine ⟨_, _, _, _, 36, #[.val (.long ep), .second, .val (.long eo), .second, .val (.long er), .second, .val (.long es), .second, .val (.long v5), .second, .unset, .unset, .unset, .unset, .unset, .unset, .unset, .unset, .unset, .unset, .unset, .unset], H0, by decide, by decide, Or.inr ⟨.double, (.double (4607182418800017408 : UInt64)), [], .dreturn, rfl, ⟨⟨_, rfl, by rw [if_neg h0, if_pos h1]; exact own_rd_of own_one⟩, rfl⟩, d6_36, own_retD _, fun target q => ?_⟩⟩
      refine own_go H0 hx hZ hown hby hw own_K6_ok (own_e1_0 ep eo er es v2 hv2 v5 hv5 v11 hv11 hb12 v31 hv31 hb32) _ ?_
      exact q
    · by_cases h2 : ep.toInt + eo.toInt + er.toInt ≤ es.toInt
      · obtain ⟨v2, hv2⟩ : ∃ z : Int64, (ep + eo) = z := ⟨_, rfl⟩
        obtain ⟨v5, hv5⟩ : ∃ z : Int64, (v2 + er) = z := ⟨_, rfl⟩
        obtain ⟨v11, hv11⟩ : ∃ z : Int32, (if v5 > (0 : Int64) then (1 : Int32) else if v5 = (0 : Int64) then 0 else -1) = z := ⟨_, rfl⟩
        obtain ⟨v31, hv31⟩ : ∃ z : Int32, (if es > (0 : Int64) then (1 : Int32) else if es = (0 : Int64) then 0 else -1) = z := ⟨_, rfl⟩
        obtain ⟨v41, hv41⟩ : ∃ z : Int32, (if es > v5 then (1 : Int32) else if es = v5 then 0 else -1) = z := ⟨_, rfl⟩
        have e2 : v2.toInt = ep.toInt + eo.toInt := by rw [← hv2]; exact own_la rfl rfl (by omega) (by omega)
        have e5 : v5.toInt = ep.toInt + eo.toInt + er.toInt := by rw [← hv5]; exact own_la e2 rfl (by omega) (by omega)
        have hb12 : ifCond.holds .ne v11 = true := by rw [← hv11, own_lc_ne, e5, l0]; simp; omega
        have hb32 : ifCond.holds .gt v31 = true := by rw [← hv31, own_lc_gt, l0]; simp; omega
        have hb42 : ifCond.holds .lt v41 = false := by rw [← hv41, own_lc_lt, e5]; simp; omega
        refine ⟨_, _, _, _, 46, #[.val (.long ep), .second, .val (.long eo), .second, .val (.long er), .second, .val (.long es), .second, .val (.long v5), .second, .unset, .unset, .unset, .unset, .unset, .unset, .unset, .unset, .unset, .unset, .unset, .unset], H0, by decide, by decide, Or.inr ⟨.double, (.double (0 : UInt64)), [], .dreturn, rfl, ⟨⟨_, rfl, by rw [if_neg h0, if_neg h1, if_pos h2]; exact own_rd_of own_zero⟩, rfl⟩, d6_46, own_retD _, fun target q => ?_⟩⟩
        refine own_go H0 hx hZ hown hby hw own_K6_ok (own_e2_0 ep eo er es v2 hv2 v5 hv5 v11 hv11 hb12 v31 hv31 hb32 v41 hv41 hb42) _ ?_
        exact q
      · by_cases h3 : es.toInt ≤ ep.toInt
        · obtain ⟨v2, hv2⟩ : ∃ z : Int64, (ep + eo) = z := ⟨_, rfl⟩
          obtain ⟨v5, hv5⟩ : ∃ z : Int64, (v2 + er) = z := ⟨_, rfl⟩
          obtain ⟨v11, hv11⟩ : ∃ z : Int32, (if v5 > (0 : Int64) then (1 : Int32) else if v5 = (0 : Int64) then 0 else -1) = z := ⟨_, rfl⟩
          obtain ⟨v31, hv31⟩ : ∃ z : Int32, (if es > (0 : Int64) then (1 : Int32) else if es = (0 : Int64) then 0 else -1) = z := ⟨_, rfl⟩
          obtain ⟨v41, hv41⟩ : ∃ z : Int32, (if es > v5 then (1 : Int32) else if es = v5 then 0 else -1) = z := ⟨_, rfl⟩
          obtain ⟨v52, hv52⟩ : ∃ z : Int64, ((2 : Int64) * eo) = z := ⟨_, rfl⟩
          obtain ⟨v53, hv53⟩ : ∃ z : Int64, (ep + v52) = z := ⟨_, rfl⟩
          obtain ⟨v56, hv56⟩ : ∃ z : Int64, (v53 + er) = z := ⟨_, rfl⟩
          obtain ⟨Te3_1, ve3_1_, cse3_1_, qe3_1, He3_1, ste3_1⟩ := own_callS H0 hx hZ hown (hw _ (List.mem_of_getElem? (i := 37) rfl)) (hw _ (List.mem_of_getElem? (i := 38) rfl)) (hw _ (List.mem_of_getElem? (i := 17) rfl)) (hw _ (List.mem_of_getElem? (i := 39) rfl)) (by decide) (argsL := [(.long ep), (.long (1 : Int64))]) (rest := []) (W := 0) (own_max l Z a0 hb0 hw ep 1 _) (by decide) (by decide) (by decide) (by decide) (g := (mkF m 61 #[.val (.long ep), .second, .val (.long eo), .second, .val (.long er), .second, .val (.long es), .second, .val (.long v5), .second, .val (.long v56), .second, .unset, .unset, .unset, .unset, .unset, .unset, .unset, .unset, .unset, .unset] [(.long (1 : Int64)), (.long ep)])) rfl (by rw [hml]; rfl) (lenOf own_pd4 rfl) rfl (by show 2 * 0 + _ ≤ _; exact Nat.le_of_eq rfl) (hb hby d6_61)
          obtain ⟨⟨zP, rfl, hzP⟩, rfl⟩ := qe3_1
          obtain ⟨Te3_2, ve3_2_, cse3_2_, qe3_2, He3_2, ste3_2⟩ := own_callS He3_1 hx hZ hown (hw _ (List.mem_of_getElem? (i := 37) rfl)) (hw _ (List.mem_of_getElem? (i := 38) rfl)) (hw _ (List.mem_of_getElem? (i := 17) rfl)) (hw _ (List.mem_of_getElem? (i := 39) rfl)) (by decide) (argsL := [(.long er), (.long (1 : Int64))]) (rest := []) (W := 0) (own_max l Z a0 hb0 hw er 1 _) (by decide) (by decide) (by decide) (by decide) (g := (mkF m 69 #[.val (.long ep), .second, .val (.long eo), .second, .val (.long er), .second, .val (.long es), .second, .val (.long v5), .second, .val (.long v56), .second, .val (.long zP), .second, .unset, .unset, .unset, .unset, .unset, .unset, .unset, .unset] [(.long (1 : Int64)), (.long er)])) rfl (by rw [hml]; rfl) (lenOf own_pd4 rfl) rfl (by show 2 * 0 + _ ≤ _; exact Nat.le_of_eq rfl) (hb hby d6_69)
          obtain ⟨⟨zR, rfl, hzR⟩, rfl⟩ := qe3_2
          obtain ⟨v78, hv78⟩ : ∃ z : Int64, (v56 * zP) = z := ⟨_, rfl⟩
          obtain ⟨v81, hv81⟩ : ∃ z : Int64, (v78 * zR) = z := ⟨_, rfl⟩
          obtain ⟨v87, hv87⟩ : ∃ z : Int32, (if es > ep then (1 : Int32) else if es = ep then 0 else -1) = z := ⟨_, rfl⟩
          obtain ⟨v95, hv95⟩ : ∃ z : Int64, (es * es) = z := ⟨_, rfl⟩
          obtain ⟨v98, hv98⟩ : ∃ z : Int64, (v95 * zR) = z := ⟨_, rfl⟩
          obtain ⟨v158, hv158⟩ : ∃ z : Int64, (v81 - v98) = z := ⟨_, rfl⟩
          obtain ⟨v159, hv159⟩ : ∃ z : UInt64, (FP.l2d v158) = z := ⟨_, rfl⟩
          obtain ⟨v162, hv162⟩ : ∃ z : UInt64, (FP.l2d v81) = z := ⟨_, rfl⟩
          obtain ⟨v163, hv163⟩ : ∃ z : UInt64, (FP.ddiv v159 v162) = z := ⟨_, rfl⟩
          have e2 : v2.toInt = ep.toInt + eo.toInt := by rw [← hv2]; exact own_la rfl rfl (by omega) (by omega)
          have e5 : v5.toInt = ep.toInt + eo.toInt + er.toInt := by rw [← hv5]; exact own_la e2 rfl (by omega) (by omega)
          have hb12 : ifCond.holds .ne v11 = true := by rw [← hv11, own_lc_ne, e5, l0]; simp; omega
          have hb32 : ifCond.holds .gt v31 = true := by rw [← hv31, own_lc_gt, l0]; simp; omega
          have hb42 : ifCond.holds .lt v41 = true := by rw [← hv41, own_lc_lt, e5]; simp; omega
          rw [l1] at hzP hzR
          have e52 : v52.toInt = 2 * eo.toInt := by rw [← hv52]; exact own_lm (X := 2) (Y := 65535) l2 rfl (by omega) (by omega) (by decide)
          have e53 : v53.toInt = ep.toInt + 2 * eo.toInt := by rw [← hv53]; exact own_la rfl e52 (by omega) (by omega)
          have e56 : v56.toInt = ep.toInt + 2 * eo.toInt + er.toInt := by rw [← hv56]; exact own_la e53 rfl (by omega) (by omega)
          obtain ⟨Wd, hWd⟩ : ∃ Wd, ep.toInt + 2 * eo.toInt + er.toInt = Wd := ⟨_, rfl⟩
          obtain ⟨P, hP⟩ : ∃ P, max ep.toInt 1 = P := ⟨_, rfl⟩
          obtain ⟨R, hR⟩ : ∃ R, max er.toInt 1 = R := ⟨_, rfl⟩
          rw [hWd] at e56
          rw [hP] at hzP
          rw [hR] at hzR
          have e78 : v78.toInt = Wd * P := by rw [← hv78]; exact own_lm (X := 262140) (Y := 65535) e56 hzP (by omega) (by omega) (by decide)
          have n78 := own_nb (x := Wd) (y := P) (X := 262140) (Y := 65535) (by omega) (by omega)
          have e81 : v81.toInt = Wd * P * R := by rw [← hv81]; exact own_lm (X := 17179344900) (Y := 65535) e78 hzR (by omega) (by omega) (by decide)
          have n81 := own_nb (x := Wd * P) (y := R) (X := 17179344900) (Y := 65535) (by omega) (by omega)
          have i162 : own_is v162 ((Wd * P * R : Int) : Rat) := by rw [← hv162, ← e81]; exact own_rd_small (own_rdL _) (by rw [e81]; omega)
          have hden : Wd * P * R ≠ 0 := Int.mul_ne_zero (Int.mul_ne_zero (by omega) (by omega)) (by omega)
          have hb88 : ifCond.holds .gt v87 = false := by rw [← hv87, own_lc_gt]; simp; omega
          have hPp : P = ep.toInt := by omega
          have n95 := own_nb (x := es.toInt) (y := es.toInt) (X := 65535) (Y := 65535) (by omega) (by omega)
          have e95 : v95.toInt = es.toInt * es.toInt := by rw [← hv95]; exact own_lm (X := 65535) (Y := 65535) rfl rfl (by omega) (by omega) (by decide)
          have e98 : v98.toInt = es.toInt * es.toInt * R := by rw [← hv98]; exact own_lm (X := 4294836225) (Y := 65535) e95 hzR (by omega) (by omega) (by decide)
          have n98 := own_nb (x := es.toInt * es.toInt) (y := R) (X := 4294836225) (Y := 65535) (by omega) (by omega)
          have e158 : v158.toInt = Wd * P * R - es.toInt * es.toInt * R := by rw [← hv158]; exact own_lsb e81 e98 (by omega) (by omega)
          have i159 : own_is v159 ((Wd * P * R - es.toInt * es.toInt * R : Int) : Rat) := by rw [← hv159, ← e158]; exact own_rd_small (own_rdL _) (by rw [e158]; omega)
          have q163 : own_rd v163 (((Wd * P * R - es.toInt * es.toInt * R : Int) : Rat) / ((Wd * P * R : Int) : Rat)) := by rw [← hv163]; exact own_ndiv i159 i162 hden
          have nn163 : NoNaN64 (FP.ddiv v159 v162) := by rw [hv163]; exact own_rd_no q163
          have hq : own_rd v163 (if es.toInt < ep.toInt then ((ep.toInt * (ep.toInt + 2 * eo.toInt + er.toInt) - es.toInt * es.toInt : Int) : Rat) / ((ep.toInt * (ep.toInt + 2 * eo.toInt + er.toInt) : Int) : Rat) else if es.toInt ≤ ep.toInt + eo.toInt then ((2 * (ep.toInt + eo.toInt - es.toInt) + er.toInt : Int) : Rat) / ((ep.toInt + 2 * eo.toInt + er.toInt : Int) : Rat) else (((ep.toInt + eo.toInt + er.toInt - es.toInt) * (ep.toInt + eo.toInt + er.toInt - es.toInt) : Int) : Rat) / ((er.toInt * (ep.toInt + 2 * eo.toInt + er.toInt) : Int) : Rat)) := by
            by_cases h3 : es.toInt < ep.toInt
            · rw [if_pos h3, hWd, ← own_feq (a := Wd * P * R - es.toInt * es.toInt * R) (b := Wd * P * R) hden (Int.mul_ne_zero (by omega) (by omega)) (by rw [hPp]; grind)]
              exact q163
            · rw [if_neg h3, if_pos (by omega), hWd, ← own_feq (a := Wd * P * R - es.toInt * es.toInt * R) (b := Wd * P * R) hden (by omega) (by rw [hPp, show es.toInt = ep.toInt by omega, show 2 * (ep.toInt + eo.toInt - ep.toInt) + er.toInt = Wd - ep.toInt by omega]; grind)]
              exact q163
          refine ⟨_, _, _, _, 164, #[.val (.long ep), .second, .val (.long eo), .second, .val (.long er), .second, .val (.long es), .second, .val (.long v5), .second, .val (.long v56), .second, .val (.long zP), .second, .val (.long zR), .second, .val (.long v81), .second, .val (.long v98), .second, .unset, .unset], He3_2, by decide, by decide, Or.inr ⟨.double, (.double v163), [], .dreturn, rfl, ⟨⟨v163, rfl, by rw [if_neg h0, if_neg h1, if_neg h2]; exact hq⟩, rfl⟩, d6_164, own_retD _, fun target q => ?_⟩⟩
          refine own_go H0 hx hZ hown hby hw own_K6_ok (own_e3_0 ep eo er es v2 hv2 v5 hv5 v11 hv11 hb12 v31 hv31 hb32 v41 hv41 hb42 v52 hv52 v53 hv53 v56 hv56) _ ?_
          refine ste3_1 _ ?_
          refine own_go He3_1 hx hZ hown hby hw own_K6_ok (own_e3_1 ep eo er es v5 v56 zP) _ ?_
          refine ste3_2 _ ?_
          refine own_go He3_2 hx hZ hown hby hw own_K6_ok (own_e3_2 ep eo er es v5 v56 zP zR v78 hv78 v81 hv81 v87 hv87 hb88 v95 hv95 v98 hv98 v158 hv158 v159 hv159 v162 hv162 v163 hv163 nn163) _ ?_
          exact q
        · by_cases h4 : es.toInt ≤ ep.toInt + eo.toInt
          · obtain ⟨v2, hv2⟩ : ∃ z : Int64, (ep + eo) = z := ⟨_, rfl⟩
            obtain ⟨v5, hv5⟩ : ∃ z : Int64, (v2 + er) = z := ⟨_, rfl⟩
            obtain ⟨v11, hv11⟩ : ∃ z : Int32, (if v5 > (0 : Int64) then (1 : Int32) else if v5 = (0 : Int64) then 0 else -1) = z := ⟨_, rfl⟩
            obtain ⟨v31, hv31⟩ : ∃ z : Int32, (if es > (0 : Int64) then (1 : Int32) else if es = (0 : Int64) then 0 else -1) = z := ⟨_, rfl⟩
            obtain ⟨v41, hv41⟩ : ∃ z : Int32, (if es > v5 then (1 : Int32) else if es = v5 then 0 else -1) = z := ⟨_, rfl⟩
            obtain ⟨v52, hv52⟩ : ∃ z : Int64, ((2 : Int64) * eo) = z := ⟨_, rfl⟩
            obtain ⟨v53, hv53⟩ : ∃ z : Int64, (ep + v52) = z := ⟨_, rfl⟩
            obtain ⟨v56, hv56⟩ : ∃ z : Int64, (v53 + er) = z := ⟨_, rfl⟩
            obtain ⟨Te4_1, ve4_1_, cse4_1_, qe4_1, He4_1, ste4_1⟩ := own_callS H0 hx hZ hown (hw _ (List.mem_of_getElem? (i := 37) rfl)) (hw _ (List.mem_of_getElem? (i := 38) rfl)) (hw _ (List.mem_of_getElem? (i := 17) rfl)) (hw _ (List.mem_of_getElem? (i := 39) rfl)) (by decide) (argsL := [(.long ep), (.long (1 : Int64))]) (rest := []) (W := 0) (own_max l Z a0 hb0 hw ep 1 _) (by decide) (by decide) (by decide) (by decide) (g := (mkF m 61 #[.val (.long ep), .second, .val (.long eo), .second, .val (.long er), .second, .val (.long es), .second, .val (.long v5), .second, .val (.long v56), .second, .unset, .unset, .unset, .unset, .unset, .unset, .unset, .unset, .unset, .unset] [(.long (1 : Int64)), (.long ep)])) rfl (by rw [hml]; rfl) (lenOf own_pd4 rfl) rfl (by show 2 * 0 + _ ≤ _; exact Nat.le_of_eq rfl) (hb hby d6_61)
            obtain ⟨⟨zP, rfl, hzP⟩, rfl⟩ := qe4_1
            obtain ⟨Te4_2, ve4_2_, cse4_2_, qe4_2, He4_2, ste4_2⟩ := own_callS He4_1 hx hZ hown (hw _ (List.mem_of_getElem? (i := 37) rfl)) (hw _ (List.mem_of_getElem? (i := 38) rfl)) (hw _ (List.mem_of_getElem? (i := 17) rfl)) (hw _ (List.mem_of_getElem? (i := 39) rfl)) (by decide) (argsL := [(.long er), (.long (1 : Int64))]) (rest := []) (W := 0) (own_max l Z a0 hb0 hw er 1 _) (by decide) (by decide) (by decide) (by decide) (g := (mkF m 69 #[.val (.long ep), .second, .val (.long eo), .second, .val (.long er), .second, .val (.long es), .second, .val (.long v5), .second, .val (.long v56), .second, .val (.long zP), .second, .unset, .unset, .unset, .unset, .unset, .unset, .unset, .unset] [(.long (1 : Int64)), (.long er)])) rfl (by rw [hml]; rfl) (lenOf own_pd4 rfl) rfl (by show 2 * 0 + _ ≤ _; exact Nat.le_of_eq rfl) (hb hby d6_69)
            obtain ⟨⟨zR, rfl, hzR⟩, rfl⟩ := qe4_2
            obtain ⟨v78, hv78⟩ : ∃ z : Int64, (v56 * zP) = z := ⟨_, rfl⟩
            obtain ⟨v81, hv81⟩ : ∃ z : Int64, (v78 * zR) = z := ⟨_, rfl⟩
            obtain ⟨v87, hv87⟩ : ∃ z : Int32, (if es > ep then (1 : Int32) else if es = ep then 0 else -1) = z := ⟨_, rfl⟩
            obtain ⟨v108, hv108⟩ : ∃ z : Int64, (ep + eo) = z := ⟨_, rfl⟩
            obtain ⟨v109, hv109⟩ : ∃ z : Int32, (if es > v108 then (1 : Int32) else if es = v108 then 0 else -1) = z := ⟨_, rfl⟩
            obtain ⟨v120, hv120⟩ : ∃ z : Int64, (es - ep) = z := ⟨_, rfl⟩
            obtain ⟨v121, hv121⟩ : ∃ z : Int64, ((2 : Int64) * v120) = z := ⟨_, rfl⟩
            obtain ⟨v122, hv122⟩ : ∃ z : Int64, (ep + v121) = z := ⟨_, rfl⟩
            obtain ⟨v125, hv125⟩ : ∃ z : Int64, (v122 * zP) = z := ⟨_, rfl⟩
            obtain ⟨v128, hv128⟩ : ∃ z : Int64, (v125 * zR) = z := ⟨_, rfl⟩
            obtain ⟨v158, hv158⟩ : ∃ z : Int64, (v81 - v128) = z := ⟨_, rfl⟩
            obtain ⟨v159, hv159⟩ : ∃ z : UInt64, (FP.l2d v158) = z := ⟨_, rfl⟩
            obtain ⟨v162, hv162⟩ : ∃ z : UInt64, (FP.l2d v81) = z := ⟨_, rfl⟩
            obtain ⟨v163, hv163⟩ : ∃ z : UInt64, (FP.ddiv v159 v162) = z := ⟨_, rfl⟩
            have e2 : v2.toInt = ep.toInt + eo.toInt := by rw [← hv2]; exact own_la rfl rfl (by omega) (by omega)
            have e5 : v5.toInt = ep.toInt + eo.toInt + er.toInt := by rw [← hv5]; exact own_la e2 rfl (by omega) (by omega)
            have hb12 : ifCond.holds .ne v11 = true := by rw [← hv11, own_lc_ne, e5, l0]; simp; omega
            have hb32 : ifCond.holds .gt v31 = true := by rw [← hv31, own_lc_gt, l0]; simp; omega
            have hb42 : ifCond.holds .lt v41 = true := by rw [← hv41, own_lc_lt, e5]; simp; omega
            rw [l1] at hzP hzR
            have e52 : v52.toInt = 2 * eo.toInt := by rw [← hv52]; exact own_lm (X := 2) (Y := 65535) l2 rfl (by omega) (by omega) (by decide)
            have e53 : v53.toInt = ep.toInt + 2 * eo.toInt := by rw [← hv53]; exact own_la rfl e52 (by omega) (by omega)
            have e56 : v56.toInt = ep.toInt + 2 * eo.toInt + er.toInt := by rw [← hv56]; exact own_la e53 rfl (by omega) (by omega)
            obtain ⟨Wd, hWd⟩ : ∃ Wd, ep.toInt + 2 * eo.toInt + er.toInt = Wd := ⟨_, rfl⟩
            obtain ⟨P, hP⟩ : ∃ P, max ep.toInt 1 = P := ⟨_, rfl⟩
            obtain ⟨R, hR⟩ : ∃ R, max er.toInt 1 = R := ⟨_, rfl⟩
            rw [hWd] at e56
            rw [hP] at hzP
            rw [hR] at hzR
            have e78 : v78.toInt = Wd * P := by rw [← hv78]; exact own_lm (X := 262140) (Y := 65535) e56 hzP (by omega) (by omega) (by decide)
            have n78 := own_nb (x := Wd) (y := P) (X := 262140) (Y := 65535) (by omega) (by omega)
            have e81 : v81.toInt = Wd * P * R := by rw [← hv81]; exact own_lm (X := 17179344900) (Y := 65535) e78 hzR (by omega) (by omega) (by decide)
            have n81 := own_nb (x := Wd * P) (y := R) (X := 17179344900) (Y := 65535) (by omega) (by omega)
            have i162 : own_is v162 ((Wd * P * R : Int) : Rat) := by rw [← hv162, ← e81]; exact own_rd_small (own_rdL _) (by rw [e81]; omega)
            have hden : Wd * P * R ≠ 0 := Int.mul_ne_zero (Int.mul_ne_zero (by omega) (by omega)) (by omega)
            have hb88 : ifCond.holds .gt v87 = true := by rw [← hv87, own_lc_gt]; simp; omega
            have e108 : v108.toInt = ep.toInt + eo.toInt := by rw [← hv108]; exact own_la rfl rfl (by omega) (by omega)
            have hb110 : ifCond.holds .gt v109 = false := by rw [← hv109, own_lc_gt, e108]; simp; omega
            have e120 : v120.toInt = es.toInt - ep.toInt := by rw [← hv120]; exact own_lsb rfl rfl (by omega) (by omega)
            have e121 : v121.toInt = 2 * (es.toInt - ep.toInt) := by rw [← hv121]; exact own_lm (X := 2) (Y := 65535) l2 e120 (by omega) (by omega) (by decide)
            have e122 : v122.toInt = ep.toInt + 2 * (es.toInt - ep.toInt) := by rw [← hv122]; exact own_la rfl e121 (by omega) (by omega)
            obtain ⟨Lf, hLf⟩ : ∃ Lf, ep.toInt + 2 * (es.toInt - ep.toInt) = Lf := ⟨_, rfl⟩
            rw [hLf] at e122
            have e125 : v125.toInt = Lf * P := by rw [← hv125]; exact own_lm (X := 262140) (Y := 65535) e122 hzP (by omega) (by omega) (by decide)
            have n125 := own_nb (x := Lf) (y := P) (X := 262140) (Y := 65535) (by omega) (by omega)
            have e128 : v128.toInt = Lf * P * R := by rw [← hv128]; exact own_lm (X := 17179344900) (Y := 65535) e125 hzR (by omega) (by omega) (by decide)
            have n128 := own_nb (x := Lf * P) (y := R) (X := 17179344900) (Y := 65535) (by omega) (by omega)
            have e158 : v158.toInt = Wd * P * R - Lf * P * R := by rw [← hv158]; exact own_lsb e81 e128 (by omega) (by omega)
            have i159 : own_is v159 ((Wd * P * R - Lf * P * R : Int) : Rat) := by rw [← hv159, ← e158]; exact own_rd_small (own_rdL _) (by rw [e158]; omega)
            have q163 : own_rd v163 (((Wd * P * R - Lf * P * R : Int) : Rat) / ((Wd * P * R : Int) : Rat)) := by rw [← hv163]; exact own_ndiv i159 i162 hden
            have nn163 : NoNaN64 (FP.ddiv v159 v162) := by rw [hv163]; exact own_rd_no q163
            have hq : own_rd v163 (((2 * (ep.toInt + eo.toInt - es.toInt) + er.toInt : Int) : Rat) / ((ep.toInt + 2 * eo.toInt + er.toInt : Int) : Rat)) := by
              rw [hWd, ← own_feq (a := Wd * P * R - Lf * P * R) (b := Wd * P * R) hden (by omega) (by rw [show 2 * (ep.toInt + eo.toInt - es.toInt) + er.toInt = Wd - Lf by omega]; grind)]
              exact q163
            refine ⟨_, _, _, _, 164, #[.val (.long ep), .second, .val (.long eo), .second, .val (.long er), .second, .val (.long es), .second, .val (.long v5), .second, .val (.long v56), .second, .val (.long zP), .second, .val (.long zR), .second, .val (.long v81), .second, .val (.long v128), .second, .unset, .unset], He4_2, by decide, by decide, Or.inr ⟨.double, (.double v163), [], .dreturn, rfl, ⟨⟨v163, rfl, by rw [if_neg h0, if_neg h1, if_neg h2, if_neg (by omega), if_pos h4]; exact hq⟩, rfl⟩, d6_164, own_retD _, fun target q => ?_⟩⟩
            refine own_go H0 hx hZ hown hby hw own_K6_ok (own_e4_0 ep eo er es v2 hv2 v5 hv5 v11 hv11 hb12 v31 hv31 hb32 v41 hv41 hb42 v52 hv52 v53 hv53 v56 hv56) _ ?_
            refine ste4_1 _ ?_
            refine own_go He4_1 hx hZ hown hby hw own_K6_ok (own_e4_1 ep eo er es v5 v56 zP) _ ?_
            refine ste4_2 _ ?_
            refine own_go He4_2 hx hZ hown hby hw own_K6_ok (own_e4_2 ep eo er es v5 v56 zP zR v78 hv78 v81 hv81 v87 hv87 hb88 v108 hv108 v109 hv109 hb110 v120 hv120 v121 hv121 v122 hv122 v125 hv125 v128 hv128 v158 hv158 v159 hv159 v162 hv162 v163 hv163 nn163) _ ?_
            exact q
          · obtain ⟨v2, hv2⟩ : ∃ z : Int64, (ep + eo) = z := ⟨_, rfl⟩
            obtain ⟨v5, hv5⟩ : ∃ z : Int64, (v2 + er) = z := ⟨_, rfl⟩
            obtain ⟨v11, hv11⟩ : ∃ z : Int32, (if v5 > (0 : Int64) then (1 : Int32) else if v5 = (0 : Int64) then 0 else -1) = z := ⟨_, rfl⟩
            obtain ⟨v31, hv31⟩ : ∃ z : Int32, (if es > (0 : Int64) then (1 : Int32) else if es = (0 : Int64) then 0 else -1) = z := ⟨_, rfl⟩
            obtain ⟨v41, hv41⟩ : ∃ z : Int32, (if es > v5 then (1 : Int32) else if es = v5 then 0 else -1) = z := ⟨_, rfl⟩
            obtain ⟨v52, hv52⟩ : ∃ z : Int64, ((2 : Int64) * eo) = z := ⟨_, rfl⟩
            obtain ⟨v53, hv53⟩ : ∃ z : Int64, (ep + v52) = z := ⟨_, rfl⟩
            obtain ⟨v56, hv56⟩ : ∃ z : Int64, (v53 + er) = z := ⟨_, rfl⟩
            obtain ⟨Te5_1, ve5_1_, cse5_1_, qe5_1, He5_1, ste5_1⟩ := own_callS H0 hx hZ hown (hw _ (List.mem_of_getElem? (i := 37) rfl)) (hw _ (List.mem_of_getElem? (i := 38) rfl)) (hw _ (List.mem_of_getElem? (i := 17) rfl)) (hw _ (List.mem_of_getElem? (i := 39) rfl)) (by decide) (argsL := [(.long ep), (.long (1 : Int64))]) (rest := []) (W := 0) (own_max l Z a0 hb0 hw ep 1 _) (by decide) (by decide) (by decide) (by decide) (g := (mkF m 61 #[.val (.long ep), .second, .val (.long eo), .second, .val (.long er), .second, .val (.long es), .second, .val (.long v5), .second, .val (.long v56), .second, .unset, .unset, .unset, .unset, .unset, .unset, .unset, .unset, .unset, .unset] [(.long (1 : Int64)), (.long ep)])) rfl (by rw [hml]; rfl) (lenOf own_pd4 rfl) rfl (by show 2 * 0 + _ ≤ _; exact Nat.le_of_eq rfl) (hb hby d6_61)
            obtain ⟨⟨zP, rfl, hzP⟩, rfl⟩ := qe5_1
            obtain ⟨Te5_2, ve5_2_, cse5_2_, qe5_2, He5_2, ste5_2⟩ := own_callS He5_1 hx hZ hown (hw _ (List.mem_of_getElem? (i := 37) rfl)) (hw _ (List.mem_of_getElem? (i := 38) rfl)) (hw _ (List.mem_of_getElem? (i := 17) rfl)) (hw _ (List.mem_of_getElem? (i := 39) rfl)) (by decide) (argsL := [(.long er), (.long (1 : Int64))]) (rest := []) (W := 0) (own_max l Z a0 hb0 hw er 1 _) (by decide) (by decide) (by decide) (by decide) (g := (mkF m 69 #[.val (.long ep), .second, .val (.long eo), .second, .val (.long er), .second, .val (.long es), .second, .val (.long v5), .second, .val (.long v56), .second, .val (.long zP), .second, .unset, .unset, .unset, .unset, .unset, .unset, .unset, .unset] [(.long (1 : Int64)), (.long er)])) rfl (by rw [hml]; rfl) (lenOf own_pd4 rfl) rfl (by show 2 * 0 + _ ≤ _; exact Nat.le_of_eq rfl) (hb hby d6_69)
            obtain ⟨⟨zR, rfl, hzR⟩, rfl⟩ := qe5_2
            obtain ⟨v78, hv78⟩ : ∃ z : Int64, (v56 * zP) = z := ⟨_, rfl⟩
            obtain ⟨v81, hv81⟩ : ∃ z : Int64, (v78 * zR) = z := ⟨_, rfl⟩
            obtain ⟨v87, hv87⟩ : ∃ z : Int32, (if es > ep then (1 : Int32) else if es = ep then 0 else -1) = z := ⟨_, rfl⟩
            obtain ⟨v108, hv108⟩ : ∃ z : Int64, (ep + eo) = z := ⟨_, rfl⟩
            obtain ⟨v109, hv109⟩ : ∃ z : Int32, (if es > v108 then (1 : Int32) else if es = v108 then 0 else -1) = z := ⟨_, rfl⟩
            obtain ⟨v138, hv138⟩ : ∃ z : Int64, (v5 - es) = z := ⟨_, rfl⟩
            obtain ⟨v147, hv147⟩ : ∃ z : Int64, (v138 * v138) = z := ⟨_, rfl⟩
            obtain ⟨v150, hv150⟩ : ∃ z : Int64, (v147 * zP) = z := ⟨_, rfl⟩
            obtain ⟨v151, hv151⟩ : ∃ z : Int64, (v81 - v150) = z := ⟨_, rfl⟩
            obtain ⟨v158, hv158⟩ : ∃ z : Int64, (v81 - v151) = z := ⟨_, rfl⟩
            obtain ⟨v159, hv159⟩ : ∃ z : UInt64, (FP.l2d v158) = z := ⟨_, rfl⟩
            obtain ⟨v162, hv162⟩ : ∃ z : UInt64, (FP.l2d v81) = z := ⟨_, rfl⟩
            obtain ⟨v163, hv163⟩ : ∃ z : UInt64, (FP.ddiv v159 v162) = z := ⟨_, rfl⟩
            have e2 : v2.toInt = ep.toInt + eo.toInt := by rw [← hv2]; exact own_la rfl rfl (by omega) (by omega)
            have e5 : v5.toInt = ep.toInt + eo.toInt + er.toInt := by rw [← hv5]; exact own_la e2 rfl (by omega) (by omega)
            have hb12 : ifCond.holds .ne v11 = true := by rw [← hv11, own_lc_ne, e5, l0]; simp; omega
            have hb32 : ifCond.holds .gt v31 = true := by rw [← hv31, own_lc_gt, l0]; simp; omega
            have hb42 : ifCond.holds .lt v41 = true := by rw [← hv41, own_lc_lt, e5]; simp; omega
            rw [l1] at hzP hzR
            have e52 : v52.toInt = 2 * eo.toInt := by rw [← hv52]; exact own_lm (X := 2) (Y := 65535) l2 rfl (by omega) (by omega) (by decide)
            have e53 : v53.toInt = ep.toInt + 2 * eo.toInt := by rw [← hv53]; exact own_la rfl e52 (by omega) (by omega)
            have e56 : v56.toInt = ep.toInt + 2 * eo.toInt + er.toInt := by rw [← hv56]; exact own_la e53 rfl (by omega) (by omega)
            obtain ⟨Wd, hWd⟩ : ∃ Wd, ep.toInt + 2 * eo.toInt + er.toInt = Wd := ⟨_, rfl⟩
            obtain ⟨P, hP⟩ : ∃ P, max ep.toInt 1 = P := ⟨_, rfl⟩
            obtain ⟨R, hR⟩ : ∃ R, max er.toInt 1 = R := ⟨_, rfl⟩
            rw [hWd] at e56
            rw [hP] at hzP
            rw [hR] at hzR
            have e78 : v78.toInt = Wd * P := by rw [← hv78]; exact own_lm (X := 262140) (Y := 65535) e56 hzP (by omega) (by omega) (by decide)
            have n78 := own_nb (x := Wd) (y := P) (X := 262140) (Y := 65535) (by omega) (by omega)
            have e81 : v81.toInt = Wd * P * R := by rw [← hv81]; exact own_lm (X := 17179344900) (Y := 65535) e78 hzR (by omega) (by omega) (by decide)
            have n81 := own_nb (x := Wd * P) (y := R) (X := 17179344900) (Y := 65535) (by omega) (by omega)
            have i162 : own_is v162 ((Wd * P * R : Int) : Rat) := by rw [← hv162, ← e81]; exact own_rd_small (own_rdL _) (by rw [e81]; omega)
            have hden : Wd * P * R ≠ 0 := Int.mul_ne_zero (Int.mul_ne_zero (by omega) (by omega)) (by omega)
            have hb88 : ifCond.holds .gt v87 = true := by rw [← hv87, own_lc_gt]; simp; omega
            have e108 : v108.toInt = ep.toInt + eo.toInt := by rw [← hv108]; exact own_la rfl rfl (by omega) (by omega)
            have hb110 : ifCond.holds .gt v109 = true := by rw [← hv109, own_lc_gt, e108]; simp; omega
            have hRr : R = er.toInt := by omega
            have e138 : v138.toInt = ep.toInt + eo.toInt + er.toInt - es.toInt := by rw [← hv138]; exact own_lsb e5 rfl (by omega) (by omega)
            obtain ⟨u, hu⟩ : ∃ u, ep.toInt + eo.toInt + er.toInt - es.toInt = u := ⟨_, rfl⟩
            rw [hu] at e138
            have n147 := own_nb (x := u) (y := u) (X := 65535) (Y := 65535) (by omega) (by omega)
            have e147 : v147.toInt = u * u := by rw [← hv147]; exact own_lm (X := 65535) (Y := 65535) e138 e138 (by omega) (by omega) (by decide)
            have e150 : v150.toInt = u * u * P := by rw [← hv150]; exact own_lm (X := 4294836225) (Y := 65535) e147 hzP (by omega) (by omega) (by decide)
            have n150 := own_nb (x := u * u) (y := P) (X := 4294836225) (Y := 65535) (by omega) (by omega)
            have e151 : v151.toInt = Wd * P * R - u * u * P := by rw [← hv151]; exact own_lsb e81 e150 (by omega) (by omega)
            have e158 : v158.toInt = u * u * P := by rw [← hv158, show u * u * P = Wd * P * R - (Wd * P * R - u * u * P) by omega]; exact own_lsb e81 e151 (by omega) (by omega)
            have i159 : own_is v159 ((u * u * P : Int) : Rat) := by rw [← hv159, ← e158]; exact own_rd_small (own_rdL _) (by rw [e158]; omega)
            have q163 : own_rd v163 (((u * u * P : Int) : Rat) / ((Wd * P * R : Int) : Rat)) := by rw [← hv163]; exact own_ndiv i159 i162 hden
            have nn163 : NoNaN64 (FP.ddiv v159 v162) := by rw [hv163]; exact own_rd_no q163
            have hq : own_rd v163 (((u * u : Int) : Rat) / ((er.toInt * (ep.toInt + 2 * eo.toInt + er.toInt) : Int) : Rat)) := by
              rw [hWd, ← own_feq (a := u * u * P) (b := Wd * P * R) hden (Int.mul_ne_zero (by omega) (by omega)) (by rw [hRr]; grind)]
              exact q163
            refine ⟨_, _, _, _, 164, #[.val (.long ep), .second, .val (.long eo), .second, .val (.long er), .second, .val (.long es), .second, .val (.long v5), .second, .val (.long v56), .second, .val (.long zP), .second, .val (.long zR), .second, .val (.long v81), .second, .val (.long v151), .second, .val (.long v138), .second], He5_2, by decide, by decide, Or.inr ⟨.double, (.double v163), [], .dreturn, rfl, ⟨⟨v163, rfl, by rw [if_neg h0, if_neg h1, if_neg h2, if_neg (by omega), if_neg h4, hu]; exact hq⟩, rfl⟩, d6_164, own_retD _, fun target q => ?_⟩⟩
            refine own_go H0 hx hZ hown hby hw own_K6_ok (own_e5_0 ep eo er es v2 hv2 v5 hv5 v11 hv11 hb12 v31 hv31 hb32 v41 hv41 hb42 v52 hv52 v53 hv53 v56 hv56) _ ?_
            refine ste5_1 _ ?_
            refine own_go He5_1 hx hZ hown hby hw own_K6_ok (own_e5_1 ep eo er es v5 v56 zP) _ ?_
            refine ste5_2 _ ?_
            refine own_go He5_2 hx hZ hown hby hw own_K6_ok (own_e5_2 ep eo er es v5 v56 zP zR v78 hv78 v81 hv81 v87 hv87 hb88 v108 hv108 v109 hv109 hb110 v138 hv138 v147 hv147 v150 hv150 v151 hv151 v158 hv158 v159 hv159 v162 hv162 v163 hv163 nn163) _ ?_
            exact q

def own_T (K : Int) (a b c d : Int64) : Prop := -K ≤ a.toInt ∧ a.toInt ≤ b.toInt ∧ b.toInt ≤ c.toInt ∧ c.toInt ≤ d.toInt ∧ d.toInt ≤ K
theorem own_trap {a b c d : Int64} {da db dc dd : UInt64} (h : own_T 8589934592 a b c d) (ea : FP.l2d a = da) (eb : FP.l2d b = db) (ec : FP.l2d c = dc) (ed : FP.l2d d = dd) :
    (own_is da ((a.toInt : Int) : Rat) ∧ own_is db ((b.toInt : Int) : Rat) ∧ own_is dc ((c.toInt : Int) : Rat) ∧ own_is dd ((d.toInt : Int) : Rat)) ∧
    (ifCond.holds .gt (cmpValue (FP.dcmp da db) .g) = false ∧ ifCond.holds .gt (cmpValue (FP.dcmp db dc) .g) = false ∧ ifCond.holds .le (cmpValue (FP.dcmp dc dd) .g) = true) := by
  obtain ⟨h1, h2, h3, h4, h5⟩ := h
  subst ea eb ec ed
  have ia := own_rd_small (own_rdL a) (by omega)
  have ib := own_rd_small (own_rdL b) (by omega)
  have ic := own_rd_small (own_rdL c) (by omega)
  have id' := own_rd_small (own_rdL d) (by omega)
  refine ⟨⟨ia, ib, ic, id'⟩, ?_, ?_, ?_⟩
  · rw [own_c_gt ia ib]; simp only [Rat.intCast_lt_intCast]; simp; omega
  · rw [own_c_gt ib ic]; simp only [Rat.intCast_lt_intCast]; simp; omega
  · rw [own_c_le ic id']; simp only [Rat.intCast_le_intCast]; simp; omega
theorem own_m16 (z : Int32) (b : Bool) : 0 ≤ (bif b then (z &&& (65535 : Int32)).toInt64 else (0 : Int64)).toInt ∧ (bif b then (z &&& (65535 : Int32)).toInt64 else (0 : Int64)).toInt ≤ 65535 := by
  have q := c_mask z 65535 16 (by decide) (by decide)
  cases b
  · rw [cond_false]; decide
  · rw [cond_true, c_i2l]; omega
theorem own_s0 (xa : Int32) (xp : Int32) (xq : Int32) (xr : Int32) (xs : Int32) (xz : Int32) (v3 : Int32) (hv3 : (xz &&& (1 : Int32)) = v3) (v14 : Int32) (hv14 : (xp &&& (65535 : Int32)) = v14) (v15 : Int64) (hv15 : v14.toInt64 = v15) (j18_6 : Int64) (hj18_6 : (bif ifCond.holds .eq v3 then v15 else (0 : Int64)) = j18_6) :
    own_Go own_K0 code 0 (List.toArray ((.val (.int xa)) :: (.val (.int xp)) :: (.val (.int xq)) :: (.val (.int xr)) :: (.val (.int xs)) :: (.val (.int xz)) :: .unset :: .unset :: .unset :: .unset :: .unset :: .unset :: .unset :: .unset :: .unset :: .unset :: .unset :: .unset :: .unset :: .unset :: .unset :: .unset :: .unset :: .unset :: .unset :: .unset :: .unset :: .unset :: .unset :: [])) [] 18 (List.toArray ((.val (.int xa)) :: (.val (.int xp)) :: (.val (.int xq)) :: (.val (.int xr)) :: (.val (.int xs)) :: (.val (.int xz)) :: (.val (.long j18_6)) :: .second :: .unset :: .unset :: .unset :: .unset :: .unset :: .unset :: .unset :: .unset :: .unset :: .unset :: .unset :: .unset :: .unset :: .unset :: .unset :: .unset :: .unset :: .unset :: .unset :: .unset :: .unset :: [])) [] := by
  subst hj18_6
  refine own_iload (pc2 := 2) at_0 rfl rfl ?_
  refine own_iconst (v := 1) (pc2 := 3) at_2 rfl rfl ?_
  refine own_iand (pc2 := 4) at_3 rfl (v := v3) hv3 ?_
  cases hb4 : ifCond.holds .eq v3
  · refine own_ifNo (pc2 := 7) at_4 rfl hb4 ?_
    refine own_lconst (v := 0) (pc2 := 8) at_7 rfl rfl ?_
    refine own_goto (pc' := 16) at_8 (by decide) (by decide) ?_
    refine own_lstore (pc2 := 18) at_16 rfl (L' := (List.toArray ((.val (.int xa)) :: (.val (.int xp)) :: (.val (.int xq)) :: (.val (.int xr)) :: (.val (.int xs)) :: (.val (.int xz)) :: (.val (.long (0 : Int64))) :: .second :: .unset :: .unset :: .unset :: .unset :: .unset :: .unset :: .unset :: .unset :: .unset :: .unset :: .unset :: .unset :: .unset :: .unset :: .unset :: .unset :: .unset :: .unset :: .unset :: .unset :: .unset :: []))) rfl ?_
    exact own_refl
  · refine own_ifYes (pc' := 11) at_4 hb4 (by decide) (by decide) ?_
    refine own_iloadN (pc2 := 12) at_11 rfl rfl ?_
    refine own_ldc (v := (65535 : Int32)) (pc2 := 14) at_12 rfl (List.mem_of_getElem? (i := 0) rfl) ?_
    refine own_iand (pc2 := 15) at_14 rfl (v := v14) hv14 ?_
    refine own_i2l (pc2 := 16) at_15 rfl (v := v15) hv15 ?_
    refine own_lstore (pc2 := 18) at_16 rfl (L' := (List.toArray ((.val (.int xa)) :: (.val (.int xp)) :: (.val (.int xq)) :: (.val (.int xr)) :: (.val (.int xs)) :: (.val (.int xz)) :: (.val (.long v15)) :: .second :: .unset :: .unset :: .unset :: .unset :: .unset :: .unset :: .unset :: .unset :: .unset :: .unset :: .unset :: .unset :: .unset :: .unset :: .unset :: .unset :: .unset :: .unset :: .unset :: .unset :: .unset :: []))) rfl ?_
    exact own_refl
theorem own_s1 (xa : Int32) (xp : Int32) (xq : Int32) (xr : Int32) (xs : Int32) (xz : Int32) (j18_6 : Int64) (v21 : Int32) (hv21 : (xz &&& (2 : Int32)) = v21) (v32 : Int32) (hv32 : (xq &&& (65535 : Int32)) = v32) (v33 : Int64) (hv33 : v32.toInt64 = v33) (j36_8 : Int64) (hj36_8 : (bif ifCond.holds .eq v21 then v33 else (0 : Int64)) = j36_8) :
    own_Go own_K0 code 18 (List.toArray ((.val (.int xa)) :: (.val (.int xp)) :: (.val (.int xq)) :: (.val (.int xr)) :: (.val (.int xs)) :: (.val (.int xz)) :: (.val (.long j18_6)) :: .second :: .unset :: .unset :: .unset :: .unset :: .unset :: .unset :: .unset :: .unset :: .unset :: .unset :: .unset :: .unset :: .unset :: .unset :: .unset :: .unset :: .unset :: .unset :: .unset :: .unset :: .unset :: [])) [] 36 (List.toArray ((.val (.int xa)) :: (.val (.int xp)) :: (.val (.int xq)) :: (.val (.int xr)) :: (.val (.int xs)) :: (.val (.int xz)) :: (.val (.long j18_6)) :: .second :: (.val (.long j36_8)) :: .second :: .unset :: .unset :: .unset :: .unset :: .unset :: .unset :: .unset :: .unset :: .unset :: .unset :: .unset :: .unset :: .unset :: .unset :: .unset :: .unset :: .unset :: .unset :: .unset :: [])) [] := by
  subst hj36_8
  refine own_iload (pc2 := 20) at_18 rfl rfl ?_
  refine own_iconst (v := 2) (pc2 := 21) at_20 rfl rfl ?_
  refine own_iand (pc2 := 22) at_21 rfl (v := v21) hv21 ?_
  cases hb22 : ifCond.holds .eq v21
  · refine own_ifNo (pc2 := 25) at_22 rfl hb22 ?_
    refine own_lconst (v := 0) (pc2 := 26) at_25 rfl rfl ?_
    refine own_goto (pc' := 34) at_26 (by decide) (by decide) ?_
    refine own_lstore (pc2 := 36) at_34 rfl (L' := (List.toArray ((.val (.int xa)) :: (.val (.int xp)) :: (.val (.int xq)) :: (.val (.int xr)) :: (.val (.int xs)) :: (.val (.int xz)) :: (.val (.long j18_6)) :: .second :: (.val (.long (0 : Int64))) :: .second :: .unset :: .unset :: .unset :: .unset :: .unset :: .unset :: .unset :: .unset :: .unset :: .unset :: .unset :: .unset :: .unset :: .unset :: .unset :: .unset :: .unset :: .unset :: .unset :: []))) rfl ?_
    exact own_refl
  · refine own_ifYes (pc' := 29) at_22 hb22 (by decide) (by decide) ?_
    refine own_iloadN (pc2 := 30) at_29 rfl rfl ?_
    refine own_ldc (v := (65535 : Int32)) (pc2 := 32) at_30 rfl (List.mem_of_getElem? (i := 0) rfl) ?_
    refine own_iand (pc2 := 33) at_32 rfl (v := v32) hv32 ?_
    refine own_i2l (pc2 := 34) at_33 rfl (v := v33) hv33 ?_
    refine own_lstore (pc2 := 36) at_34 rfl (L' := (List.toArray ((.val (.int xa)) :: (.val (.int xp)) :: (.val (.int xq)) :: (.val (.int xr)) :: (.val (.int xs)) :: (.val (.int xz)) :: (.val (.long j18_6)) :: .second :: (.val (.long v33)) :: .second :: .unset :: .unset :: .unset :: .unset :: .unset :: .unset :: .unset :: .unset :: .unset :: .unset :: .unset :: .unset :: .unset :: .unset :: .unset :: .unset :: .unset :: .unset :: .unset :: []))) rfl ?_
    exact own_refl
theorem own_s2 (xa : Int32) (xp : Int32) (xq : Int32) (xr : Int32) (xs : Int32) (xz : Int32) (j18_6 : Int64) (j36_8 : Int64) (v39 : Int32) (hv39 : (xz &&& (4 : Int32)) = v39) (v50 : Int32) (hv50 : (xr &&& (65535 : Int32)) = v50) (v51 : Int64) (hv51 : v50.toInt64 = v51) (j54_10 : Int64) (hj54_10 : (bif ifCond.holds .eq v39 then v51 else (0 : Int64)) = j54_10) :
    own_Go own_K0 code 36 (List.toArray ((.val (.int xa)) :: (.val (.int xp)) :: (.val (.int xq)) :: (.val (.int xr)) :: (.val (.int xs)) :: (.val (.int xz)) :: (.val (.long j18_6)) :: .second :: (.val (.long j36_8)) :: .second :: .unset :: .unset :: .unset :: .unset :: .unset :: .unset :: .unset :: .unset :: .unset :: .unset :: .unset :: .unset :: .unset :: .unset :: .unset :: .unset :: .unset :: .unset :: .unset :: [])) [] 54 (List.toArray ((.val (.int xa)) :: (.val (.int xp)) :: (.val (.int xq)) :: (.val (.int xr)) :: (.val (.int xs)) :: (.val (.int xz)) :: (.val (.long j18_6)) :: .second :: (.val (.long j36_8)) :: .second :: (.val (.long j54_10)) :: .second :: .unset :: .unset :: .unset :: .unset :: .unset :: .unset :: .unset :: .unset :: .unset :: .unset :: .unset :: .unset :: .unset :: .unset :: .unset :: .unset :: .unset :: [])) [] := by
  subst hj54_10
  refine own_iload (pc2 := 38) at_36 rfl rfl ?_
  refine own_iconst (v := 4) (pc2 := 39) at_38 rfl rfl ?_
  refine own_iand (pc2 := 40) at_39 rfl (v := v39) hv39 ?_
  cases hb40 : ifCond.holds .eq v39
  · refine own_ifNo (pc2 := 43) at_40 rfl hb40 ?_
    refine own_lconst (v := 0) (pc2 := 44) at_43 rfl rfl ?_
    refine own_goto (pc' := 52) at_44 (by decide) (by decide) ?_
    refine own_lstore (pc2 := 54) at_52 rfl (L' := (List.toArray ((.val (.int xa)) :: (.val (.int xp)) :: (.val (.int xq)) :: (.val (.int xr)) :: (.val (.int xs)) :: (.val (.int xz)) :: (.val (.long j18_6)) :: .second :: (.val (.long j36_8)) :: .second :: (.val (.long (0 : Int64))) :: .second :: .unset :: .unset :: .unset :: .unset :: .unset :: .unset :: .unset :: .unset :: .unset :: .unset :: .unset :: .unset :: .unset :: .unset :: .unset :: .unset :: .unset :: []))) rfl ?_
    exact own_refl
  · refine own_ifYes (pc' := 47) at_40 hb40 (by decide) (by decide) ?_
    refine own_iloadN (pc2 := 48) at_47 rfl rfl ?_
    refine own_ldc (v := (65535 : Int32)) (pc2 := 50) at_48 rfl (List.mem_of_getElem? (i := 0) rfl) ?_
    refine own_iand (pc2 := 51) at_50 rfl (v := v50) hv50 ?_
    refine own_i2l (pc2 := 52) at_51 rfl (v := v51) hv51 ?_
    refine own_lstore (pc2 := 54) at_52 rfl (L' := (List.toArray ((.val (.int xa)) :: (.val (.int xp)) :: (.val (.int xq)) :: (.val (.int xr)) :: (.val (.int xs)) :: (.val (.int xz)) :: (.val (.long j18_6)) :: .second :: (.val (.long j36_8)) :: .second :: (.val (.long v51)) :: .second :: .unset :: .unset :: .unset :: .unset :: .unset :: .unset :: .unset :: .unset :: .unset :: .unset :: .unset :: .unset :: .unset :: .unset :: .unset :: .unset :: .unset :: []))) rfl ?_
    exact own_refl
theorem own_s3 (xa : Int32) (xp : Int32) (xq : Int32) (xr : Int32) (xs : Int32) (xz : Int32) (j18_6 : Int64) (j36_8 : Int64) (j54_10 : Int64) (v55 : Int64) (hv55 : xa.toInt64 = v55) (v62 : Int64) (hv62 : (v55 + j18_6) = v62) (v69 : Int64) (hv69 : (v62 + j36_8) = v69) (v76 : Int64) (hv76 : (v69 + j54_10) = v76) (v83 : Int64) (hv83 : (j18_6 + j36_8) = v83) (v86 : Int64) (hv86 : (v83 + j54_10) = v86) (v91 : Int64) (hv91 : xs.toInt64 = v91) (v97 : Int64) (hv97 : (v86 + (2 : Int64)) = v97) (nz98 : v97 ≠ 0) (v98 : Int64) (hv98 : (v91 - (v91 / v97) * v97) = v98) (v105 : Int64) (hv105 : (v55 + v98) = v105) :
    own_Go own_K0 code 54 (List.toArray ((.val (.int xa)) :: (.val (.int xp)) :: (.val (.int xq)) :: (.val (.int xr)) :: (.val (.int xs)) :: (.val (.int xz)) :: (.val (.long j18_6)) :: .second :: (.val (.long j36_8)) :: .second :: (.val (.long j54_10)) :: .second :: .unset :: .unset :: .unset :: .unset :: .unset :: .unset :: .unset :: .unset :: .unset :: .unset :: .unset :: .unset :: .unset :: .unset :: .unset :: .unset :: .unset :: [])) [] 108 (List.toArray ((.val (.int xa)) :: (.val (.int xp)) :: (.val (.int xq)) :: (.val (.int xr)) :: (.val (.int xs)) :: (.val (.int xz)) :: (.val (.long j18_6)) :: .second :: (.val (.long j36_8)) :: .second :: (.val (.long j54_10)) :: .second :: (.val (.long v55)) :: .second :: (.val (.long v62)) :: .second :: (.val (.long v69)) :: .second :: (.val (.long v76)) :: .second :: (.val (.long v86)) :: .second :: (.val (.long v98)) :: .second :: (.val (.long v105)) :: .second :: .unset :: .unset :: .unset :: [])) [] := by
  refine own_iloadN (pc2 := 55) at_54 rfl rfl ?_
  refine own_i2l (pc2 := 56) at_55 rfl (v := v55) hv55 ?_
  refine own_lstore (pc2 := 58) at_56 rfl (L' := (List.toArray ((.val (.int xa)) :: (.val (.int xp)) :: (.val (.int xq)) :: (.val (.int xr)) :: (.val (.int xs)) :: (.val (.int xz)) :: (.val (.long j18_6)) :: .second :: (.val (.long j36_8)) :: .second :: (.val (.long j54_10)) :: .second :: (.val (.long v55)) :: .second :: .unset :: .unset :: .unset :: .unset :: .unset :: .unset :: .unset :: .unset :: .unset :: .unset :: .unset :: .unset :: .unset :: .unset :: .unset :: []))) rfl ?_
  refine own_lload (pc2 := 60) at_58 rfl rfl ?_
  refine own_lload (pc2 := 62) at_60 rfl rfl ?_
  refine own_ladd (pc2 := 63) at_62 rfl (v := v62) hv62 ?_
  refine own_lstore (pc2 := 65) at_63 rfl (L' := (List.toArray ((.val (.int xa)) :: (.val (.int xp)) :: (.val (.int xq)) :: (.val (.int xr)) :: (.val (.int xs)) :: (.val (.int xz)) :: (.val (.long j18_6)) :: .second :: (.val (.long j36_8)) :: .second :: (.val (.long j54_10)) :: .second :: (.val (.long v55)) :: .second :: (.val (.long v62)) :: .second :: .unset :: .unset :: .unset :: .unset :: .unset :: .unset :: .unset :: .unset :: .unset :: .unset :: .unset :: .unset :: .unset :: []))) rfl ?_
  refine own_lload (pc2 := 67) at_65 rfl rfl ?_
  refine own_lload (pc2 := 69) at_67 rfl rfl ?_
  refine own_ladd (pc2 := 70) at_69 rfl (v := v69) hv69 ?_
  refine own_lstore (pc2 := 72) at_70 rfl (L' := (List.toArray ((.val (.int xa)) :: (.val (.int xp)) :: (.val (.int xq)) :: (.val (.int xr)) :: (.val (.int xs)) :: (.val (.int xz)) :: (.val (.long j18_6)) :: .second :: (.val (.long j36_8)) :: .second :: (.val (.long j54_10)) :: .second :: (.val (.long v55)) :: .second :: (.val (.long v62)) :: .second :: (.val (.long v69)) :: .second :: .unset :: .unset :: .unset :: .unset :: .unset :: .unset :: .unset :: .unset :: .unset :: .unset :: .unset :: []))) rfl ?_
  refine own_lload (pc2 := 74) at_72 rfl rfl ?_
  refine own_lload (pc2 := 76) at_74 rfl rfl ?_
  refine own_ladd (pc2 := 77) at_76 rfl (v := v76) hv76 ?_
  refine own_lstore (pc2 := 79) at_77 rfl (L' := (List.toArray ((.val (.int xa)) :: (.val (.int xp)) :: (.val (.int xq)) :: (.val (.int xr)) :: (.val (.int xs)) :: (.val (.int xz)) :: (.val (.long j18_6)) :: .second :: (.val (.long j36_8)) :: .second :: (.val (.long j54_10)) :: .second :: (.val (.long v55)) :: .second :: (.val (.long v62)) :: .second :: (.val (.long v69)) :: .second :: (.val (.long v76)) :: .second :: .unset :: .unset :: .unset :: .unset :: .unset :: .unset :: .unset :: .unset :: .unset :: []))) rfl ?_
  refine own_lload (pc2 := 81) at_79 rfl rfl ?_
  refine own_lload (pc2 := 83) at_81 rfl rfl ?_
  refine own_ladd (pc2 := 84) at_83 rfl (v := v83) hv83 ?_
  refine own_lload (pc2 := 86) at_84 rfl rfl ?_
  refine own_ladd (pc2 := 87) at_86 rfl (v := v86) hv86 ?_
  refine own_lstore (pc2 := 89) at_87 rfl (L' := (List.toArray ((.val (.int xa)) :: (.val (.int xp)) :: (.val (.int xq)) :: (.val (.int xr)) :: (.val (.int xs)) :: (.val (.int xz)) :: (.val (.long j18_6)) :: .second :: (.val (.long j36_8)) :: .second :: (.val (.long j54_10)) :: .second :: (.val (.long v55)) :: .second :: (.val (.long v62)) :: .second :: (.val (.long v69)) :: .second :: (.val (.long v76)) :: .second :: (.val (.long v86)) :: .second :: .unset :: .unset :: .unset :: .unset :: .unset :: .unset :: .unset :: []))) rfl ?_
  refine own_iload (pc2 := 91) at_89 rfl rfl ?_
  refine own_i2l (pc2 := 92) at_91 rfl (v := v91) hv91 ?_
  refine own_lload (pc2 := 94) at_92 rfl rfl ?_
  refine own_ldc2L (v := (2 : Int64)) (pc2 := 97) at_94 rfl (List.mem_of_getElem? (i := 1) rfl) ?_
  refine own_ladd (pc2 := 98) at_97 rfl (v := v97) hv97 ?_
  refine own_lrem (pc2 := 99) at_98 rfl nz98 (v := v98) hv98 ?_
  refine own_lstore (pc2 := 101) at_99 rfl (L' := (List.toArray ((.val (.int xa)) :: (.val (.int xp)) :: (.val (.int xq)) :: (.val (.int xr)) :: (.val (.int xs)) :: (.val (.int xz)) :: (.val (.long j18_6)) :: .second :: (.val (.long j36_8)) :: .second :: (.val (.long j54_10)) :: .second :: (.val (.long v55)) :: .second :: (.val (.long v62)) :: .second :: (.val (.long v69)) :: .second :: (.val (.long v76)) :: .second :: (.val (.long v86)) :: .second :: (.val (.long v98)) :: .second :: .unset :: .unset :: .unset :: .unset :: .unset :: []))) rfl ?_
  refine own_lload (pc2 := 103) at_101 rfl rfl ?_
  refine own_lload (pc2 := 105) at_103 rfl rfl ?_
  refine own_ladd (pc2 := 106) at_105 rfl (v := v105) hv105 ?_
  refine own_lstore (pc2 := 108) at_106 rfl (L' := (List.toArray ((.val (.int xa)) :: (.val (.int xp)) :: (.val (.int xq)) :: (.val (.int xr)) :: (.val (.int xs)) :: (.val (.int xz)) :: (.val (.long j18_6)) :: .second :: (.val (.long j36_8)) :: .second :: (.val (.long j54_10)) :: .second :: (.val (.long v55)) :: .second :: (.val (.long v62)) :: .second :: (.val (.long v69)) :: .second :: (.val (.long v76)) :: .second :: (.val (.long v86)) :: .second :: (.val (.long v98)) :: .second :: (.val (.long v105)) :: .second :: .unset :: .unset :: .unset :: []))) rfl ?_
  exact own_refl
theorem own_s4 (xa : Int32) (xp : Int32) (xq : Int32) (xr : Int32) (xs : Int32) (xz : Int32) (j18_6 : Int64) (j36_8 : Int64) (j54_10 : Int64) (v55 : Int64) (v62 : Int64) (v69 : Int64) (v76 : Int64) (v86 : Int64) (v98 : Int64) (v105 : Int64) (x : Addr) (v114 : UInt64) (hv114 : (FP.l2d v55) = v114) (v117 : UInt64) (hv117 : (FP.l2d v62) = v117) (v120 : UInt64) (hv120 : (FP.l2d v69) = v120) (v123 : UInt64) (hv123 : (FP.l2d v76) = v123) :
    own_Go own_K0 code 111 (List.toArray ((.val (.int xa)) :: (.val (.int xp)) :: (.val (.int xq)) :: (.val (.int xr)) :: (.val (.int xs)) :: (.val (.int xz)) :: (.val (.long j18_6)) :: .second :: (.val (.long j36_8)) :: .second :: (.val (.long j54_10)) :: .second :: (.val (.long v55)) :: .second :: (.val (.long v62)) :: .second :: (.val (.long v69)) :: .second :: (.val (.long v76)) :: .second :: (.val (.long v86)) :: .second :: (.val (.long v98)) :: .second :: (.val (.long v105)) :: .second :: .unset :: .unset :: .unset :: [])) [(.ref x)] 124 (List.toArray ((.val (.int xa)) :: (.val (.int xp)) :: (.val (.int xq)) :: (.val (.int xr)) :: (.val (.int xs)) :: (.val (.int xz)) :: (.val (.long j18_6)) :: .second :: (.val (.long j36_8)) :: .second :: (.val (.long j54_10)) :: .second :: (.val (.long v55)) :: .second :: (.val (.long v62)) :: .second :: (.val (.long v69)) :: .second :: (.val (.long v76)) :: .second :: (.val (.long v86)) :: .second :: (.val (.long v98)) :: .second :: (.val (.long v105)) :: .second :: .unset :: .unset :: .unset :: [])) [(.double v123), (.double v120), (.double v117), (.double v114), (.ref x), (.ref x)] := by
  refine own_dup (pc2 := 112) at_111 rfl rfl ?_
  refine own_lload (pc2 := 114) at_112 rfl rfl ?_
  refine own_l2d (pc2 := 115) at_114 rfl (v := v114) hv114 ?_
  refine own_lload (pc2 := 117) at_115 rfl rfl ?_
  refine own_l2d (pc2 := 118) at_117 rfl (v := v117) hv117 ?_
  refine own_lload (pc2 := 120) at_118 rfl rfl ?_
  refine own_l2d (pc2 := 121) at_120 rfl (v := v120) hv120 ?_
  refine own_lload (pc2 := 123) at_121 rfl rfl ?_
  refine own_l2d (pc2 := 124) at_123 rfl (v := v123) hv123 ?_
  exact own_refl
theorem own_s5 (xa : Int32) (xp : Int32) (xq : Int32) (xr : Int32) (xs : Int32) (xz : Int32) (j18_6 : Int64) (j36_8 : Int64) (j54_10 : Int64) (v55 : Int64) (v62 : Int64) (v69 : Int64) (v76 : Int64) (v86 : Int64) (v98 : Int64) (v105 : Int64) (x : Addr) (v133 : UInt64) (hv133 : (FP.l2d v105) = v133) :
    own_Go own_K0 code 127 (List.toArray ((.val (.int xa)) :: (.val (.int xp)) :: (.val (.int xq)) :: (.val (.int xr)) :: (.val (.int xs)) :: (.val (.int xz)) :: (.val (.long j18_6)) :: .second :: (.val (.long j36_8)) :: .second :: (.val (.long j54_10)) :: .second :: (.val (.long v55)) :: .second :: (.val (.long v62)) :: .second :: (.val (.long v69)) :: .second :: (.val (.long v76)) :: .second :: (.val (.long v86)) :: .second :: (.val (.long v98)) :: .second :: (.val (.long v105)) :: .second :: .unset :: .unset :: .unset :: [])) [(.ref x)] 134 (List.toArray ((.val (.int xa)) :: (.val (.int xp)) :: (.val (.int xq)) :: (.val (.int xr)) :: (.val (.int xs)) :: (.val (.int xz)) :: (.val (.long j18_6)) :: .second :: (.val (.long j36_8)) :: .second :: (.val (.long j54_10)) :: .second :: (.val (.long v55)) :: .second :: (.val (.long v62)) :: .second :: (.val (.long v69)) :: .second :: (.val (.long v76)) :: .second :: (.val (.long v86)) :: .second :: (.val (.long v98)) :: .second :: (.val (.long v105)) :: .second :: (.val (.ref x)) :: .unset :: .unset :: [])) [(.double v133), (.ref x)] := by
  refine own_astore (pc2 := 129) at_127 rfl rfl (L' := (List.toArray ((.val (.int xa)) :: (.val (.int xp)) :: (.val (.int xq)) :: (.val (.int xr)) :: (.val (.int xs)) :: (.val (.int xz)) :: (.val (.long j18_6)) :: .second :: (.val (.long j36_8)) :: .second :: (.val (.long j54_10)) :: .second :: (.val (.long v55)) :: .second :: (.val (.long v62)) :: .second :: (.val (.long v69)) :: .second :: (.val (.long v76)) :: .second :: (.val (.long v86)) :: .second :: (.val (.long v98)) :: .second :: (.val (.long v105)) :: .second :: (.val (.ref x)) :: .unset :: .unset :: []))) rfl ?_
  refine own_aload (pc2 := 131) at_129 rfl rfl rfl ?_
  refine own_lload (pc2 := 133) at_131 rfl rfl ?_
  refine own_l2d (pc2 := 134) at_133 rfl (v := v133) hv133 ?_
  exact own_refl
theorem own_s6 (xa : Int32) (xp : Int32) (xq : Int32) (xr : Int32) (xs : Int32) (xz : Int32) (j18_6 : Int64) (j36_8 : Int64) (j54_10 : Int64) (v55 : Int64) (v62 : Int64) (v69 : Int64) (v76 : Int64) (v86 : Int64) (v98 : Int64) (v105 : Int64) (x : Addr) (got : UInt64) :
    own_Go own_K0 code 137 (List.toArray ((.val (.int xa)) :: (.val (.int xp)) :: (.val (.int xq)) :: (.val (.int xr)) :: (.val (.int xs)) :: (.val (.int xz)) :: (.val (.long j18_6)) :: .second :: (.val (.long j36_8)) :: .second :: (.val (.long j54_10)) :: .second :: (.val (.long v55)) :: .second :: (.val (.long v62)) :: .second :: (.val (.long v69)) :: .second :: (.val (.long v76)) :: .second :: (.val (.long v86)) :: .second :: (.val (.long v98)) :: .second :: (.val (.long v105)) :: .second :: (.val (.ref x)) :: .unset :: .unset :: [])) [(.double got)] 149 (List.toArray ((.val (.int xa)) :: (.val (.int xp)) :: (.val (.int xq)) :: (.val (.int xr)) :: (.val (.int xs)) :: (.val (.int xz)) :: (.val (.long j18_6)) :: .second :: (.val (.long j36_8)) :: .second :: (.val (.long j54_10)) :: .second :: (.val (.long v55)) :: .second :: (.val (.long v62)) :: .second :: (.val (.long v69)) :: .second :: (.val (.long v76)) :: .second :: (.val (.long v86)) :: .second :: (.val (.long v98)) :: .second :: (.val (.long v105)) :: .second :: (.val (.ref x)) :: (.val (.double got)) :: .second :: [])) [(.long v98), (.long j54_10), (.long j36_8), (.long j18_6), (.double got)] := by
  refine own_dstore (pc2 := 139) at_137 rfl (L' := (List.toArray ((.val (.int xa)) :: (.val (.int xp)) :: (.val (.int xq)) :: (.val (.int xr)) :: (.val (.int xs)) :: (.val (.int xz)) :: (.val (.long j18_6)) :: .second :: (.val (.long j36_8)) :: .second :: (.val (.long j54_10)) :: .second :: (.val (.long v55)) :: .second :: (.val (.long v62)) :: .second :: (.val (.long v69)) :: .second :: (.val (.long v76)) :: .second :: (.val (.long v86)) :: .second :: (.val (.long v98)) :: .second :: (.val (.long v105)) :: .second :: (.val (.ref x)) :: (.val (.double got)) :: .second :: []))) rfl ?_
  refine own_dload (pc2 := 141) at_139 rfl rfl ?_
  refine own_lload (pc2 := 143) at_141 rfl rfl ?_
  refine own_lload (pc2 := 145) at_143 rfl rfl ?_
  refine own_lload (pc2 := 147) at_145 rfl rfl ?_
  refine own_lload (pc2 := 149) at_147 rfl rfl ?_
  exact own_refl
theorem own_s7 (xa : Int32) (xp : Int32) (xq : Int32) (xr : Int32) (xs : Int32) (xz : Int32) (j18_6 : Int64) (j36_8 : Int64) (j54_10 : Int64) (v55 : Int64) (v62 : Int64) (v69 : Int64) (v76 : Int64) (v86 : Int64) (v98 : Int64) (v105 : Int64) (x : Addr) (got : UInt64) (want : UInt64) (v152 : Int32) (hv152 : (cmpValue (FP.dcmp got want) .l) = v152) (t161_0 : Int32) (ht161_0 : (bif ifCond.holds .ne v152 then (0 : Int32) else (1 : Int32)) = t161_0) :
    own_Go own_K0 code 152 (List.toArray ((.val (.int xa)) :: (.val (.int xp)) :: (.val (.int xq)) :: (.val (.int xr)) :: (.val (.int xs)) :: (.val (.int xz)) :: (.val (.long j18_6)) :: .second :: (.val (.long j36_8)) :: .second :: (.val (.long j54_10)) :: .second :: (.val (.long v55)) :: .second :: (.val (.long v62)) :: .second :: (.val (.long v69)) :: .second :: (.val (.long v76)) :: .second :: (.val (.long v86)) :: .second :: (.val (.long v98)) :: .second :: (.val (.long v105)) :: .second :: (.val (.ref x)) :: (.val (.double got)) :: .second :: [])) [(.double want), (.double got)] 161 (List.toArray ((.val (.int xa)) :: (.val (.int xp)) :: (.val (.int xq)) :: (.val (.int xr)) :: (.val (.int xs)) :: (.val (.int xz)) :: (.val (.long j18_6)) :: .second :: (.val (.long j36_8)) :: .second :: (.val (.long j54_10)) :: .second :: (.val (.long v55)) :: .second :: (.val (.long v62)) :: .second :: (.val (.long v69)) :: .second :: (.val (.long v76)) :: .second :: (.val (.long v86)) :: .second :: (.val (.long v98)) :: .second :: (.val (.long v105)) :: .second :: (.val (.ref x)) :: (.val (.double got)) :: .second :: [])) [(.int t161_0)] := by
  subst ht161_0
  refine own_dcmp (pc2 := 153) at_152 rfl (v := v152) hv152 ?_
  cases hb153 : ifCond.holds .ne v152
  · refine own_ifNo (pc2 := 156) at_153 rfl hb153 ?_
    refine own_iconst (v := 1) (pc2 := 157) at_156 rfl rfl ?_
    refine own_goto (pc' := 161) at_157 (by decide) (by decide) ?_
    exact own_refl
  · refine own_ifYes (pc' := 160) at_153 hb153 (by decide) (by decide) ?_
    refine own_iconst (v := 0) (pc2 := 161) at_160 rfl rfl ?_
    exact own_refl
set_option maxRecDepth 65536 in
set_option maxHeartbeats 40000000 in
theorem own_law (l : Launch) (Z : State) (a0 : Array Value) (hb0 : Heap) (hw : ∀ d ∈ tables_1, d.before a0 Z = true) (xa : Int32) (xp : Int32) (xq : Int32) (xr : Int32) (xs : Int32) (xz : Int32) :
    own_Met l Z a0 hb0 x code maxLocals ret tables_1 room_1 #[(.int xa), (.int xp), (.int xq), (.int xr), (.int xs), (.int xz)] [] (fun v _ => v = some (.int 1)) := by
  refine own_met_of (L0 := (List.toArray ((.val (.int xa)) :: (.val (.int xp)) :: (.val (.int xq)) :: (.val (.int xr)) :: (.val (.int xs)) :: (.val (.int xz)) :: .unset :: .unset :: .unset :: .unset :: .unset :: .unset :: .unset :: .unset :: .unset :: .unset :: .unset :: .unset :: .unset :: .unset :: .unset :: .unset :: .unset :: .unset :: .unset :: .unset :: .unset :: .unset :: .unset :: []))) (plainFor_of_name own_pn0) (fun m => own_ef0 m xa xp xq xr xs xz) ?_
  intro p e s m below meth c T0 hx hZ hown hby hml hnm H0
  have hown : s.vm.findClass "com/example/hazeline/hazeline/fuzzy/TrapezoidPreferenceRatioPinLaw" = some m.cls := hown
  have hml : c.maxLocals = 29 := hml
  obtain ⟨v3, hv3⟩ : ∃ z : Int32, (xz &&& (1 : Int32)) = z := ⟨_, rfl⟩
  obtain ⟨v14, hv14⟩ : ∃ z : Int32, (xp &&& (65535 : Int32)) = z := ⟨_, rfl⟩
  obtain ⟨v15, hv15⟩ : ∃ z : Int64, v14.toInt64 = z := ⟨_, rfl⟩
  obtain ⟨j18_6, hj18_6⟩ : ∃ z : Int64, (bif ifCond.holds .eq v3 then v15 else (0 : Int64)) = z := ⟨_, rfl⟩
  obtain ⟨v21, hv21⟩ : ∃ z : Int32, (xz &&& (2 : Int32)) = z := ⟨_, rfl⟩
  obtain ⟨v32, hv32⟩ : ∃ z : Int32, (xq &&& (65535 : Int32)) = z := ⟨_, rfl⟩
  obtain ⟨v33, hv33⟩ : ∃ z : Int64, v32.toInt64 = z := ⟨_, rfl⟩
  obtain ⟨j36_8, hj36_8⟩ : ∃ z : Int64, (bif ifCond.holds .eq v21 then v33 else (0 : Int64)) = z := ⟨_, rfl⟩
  obtain ⟨v39, hv39⟩ : ∃ z : Int32, (xz &&& (4 : Int32)) = z := ⟨_, rfl⟩
  obtain ⟨v50, hv50⟩ : ∃ z : Int32, (xr &&& (65535 : Int32)) = z := ⟨_, rfl⟩
  obtain ⟨v51, hv51⟩ : ∃ z : Int64, v50.toInt64 = z := ⟨_, rfl⟩
  obtain ⟨j54_10, hj54_10⟩ : ∃ z : Int64, (bif ifCond.holds .eq v39 then v51 else (0 : Int64)) = z := ⟨_, rfl⟩
  obtain ⟨v55, hv55⟩ : ∃ z : Int64, xa.toInt64 = z := ⟨_, rfl⟩
  obtain ⟨v62, hv62⟩ : ∃ z : Int64, (v55 + j18_6) = z := ⟨_, rfl⟩
  obtain ⟨v69, hv69⟩ : ∃ z : Int64, (v62 + j36_8) = z := ⟨_, rfl⟩
  obtain ⟨v76, hv76⟩ : ∃ z : Int64, (v69 + j54_10) = z := ⟨_, rfl⟩
  obtain ⟨v83, hv83⟩ : ∃ z : Int64, (j18_6 + j36_8) = z := ⟨_, rfl⟩
  obtain ⟨v86, hv86⟩ : ∃ z : Int64, (v83 + j54_10) = z := ⟨_, rfl⟩
  obtain ⟨v91, hv91⟩ : ∃ z : Int64, xs.toInt64 = z := ⟨_, rfl⟩
  obtain ⟨v97, hv97⟩ : ∃ z : Int64, (v86 + (2 : Int64)) = z := ⟨_, rfl⟩
  obtain ⟨v98, hv98⟩ : ∃ z : Int64, (v91 - (v91 / v97) * v97) = z := ⟨_, rfl⟩
  obtain ⟨v105, hv105⟩ : ∃ z : Int64, (v55 + v98) = z := ⟨_, rfl⟩
  obtain ⟨Ts1, x, Hs1, sts1⟩ := own_newO H0 hx hZ hown (hw _ (List.mem_of_getElem? (i := 2) rfl)) (hw _ (List.mem_of_getElem? (i := 3) rfl)) (hw _ (List.mem_of_getElem? (i := 4) rfl)) [("com/example/hazeline/hazeline/fuzzy/Trapezoid", "a", "D", .double 0), ("com/example/hazeline/hazeline/fuzzy/Trapezoid", "b", "D", .double 0), ("com/example/hazeline/hazeline/fuzzy/Trapezoid", "c", "D", .double 0), ("com/example/hazeline/hazeline/fuzzy/Trapezoid", "d", "D", .double 0)] (by
      intro f hf
      simp only [List.mem_cons, List.not_mem_nil, or_false] at hf
      rcases hf with rfl | rfl | rfl | rfl
      · exact ⟨Or.inr (hw _ (List.mem_of_getElem? (i := 21) rfl)), .double, by decide, rfl⟩
      · exact ⟨Or.inr (hw _ (List.mem_of_getElem? (i := 23) rfl)), .double, by decide, rfl⟩
      · exact ⟨Or.inr (hw _ (List.mem_of_getElem? (i := 25) rfl)), .double, by decide, rfl⟩
      · exact ⟨Or.inr (hw _ (List.mem_of_getElem? (i := 27) rfl)), .double, by decide, rfl⟩) (by decide) (g := (mkF m 108 (List.toArray ((.val (.int xa)) :: (.val (.int xp)) :: (.val (.int xq)) :: (.val (.int xr)) :: (.val (.int xs)) :: (.val (.int xz)) :: (.val (.long j18_6)) :: .second :: (.val (.long j36_8)) :: .second :: (.val (.long j54_10)) :: .second :: (.val (.long v55)) :: .second :: (.val (.long v62)) :: .second :: (.val (.long v69)) :: .second :: (.val (.long v76)) :: .second :: (.val (.long v86)) :: .second :: (.val (.long v98)) :: .second :: (.val (.long v105)) :: .second :: .unset :: .unset :: .unset :: [])) [])) rfl (hb hby at_108) (by decide) (by decide)
  change own_S _ _ _ _ _ _ _ _ _ _ _ _ _ _ [(x, own_O "com/example/hazeline/hazeline/fuzzy/Trapezoid" [("com/example/hazeline/hazeline/fuzzy/Trapezoid", "a", "D", .double 0), ("com/example/hazeline/hazeline/fuzzy/Trapezoid", "b", "D", .double 0), ("com/example/hazeline/hazeline/fuzzy/Trapezoid", "c", "D", .double 0), ("com/example/hazeline/hazeline/fuzzy/Trapezoid", "d", "D", .double 0)])] _ _ at Hs1
  obtain ⟨v114, hv114⟩ : ∃ z : UInt64, (FP.l2d v55) = z := ⟨_, rfl⟩
  obtain ⟨v117, hv117⟩ : ∃ z : UInt64, (FP.l2d v62) = z := ⟨_, rfl⟩
  obtain ⟨v120, hv120⟩ : ∃ z : UInt64, (FP.l2d v69) = z := ⟨_, rfl⟩
  obtain ⟨v123, hv123⟩ : ∃ z : UInt64, (FP.l2d v76) = z := ⟨_, rfl⟩
  have hp : 0 ≤ j18_6.toInt ∧ j18_6.toInt ≤ 65535 := by rw [← hj18_6, ← hv15, ← hv14]; exact own_m16 _ _
  have hq : 0 ≤ j36_8.toInt ∧ j36_8.toInt ≤ 65535 := by rw [← hj36_8, ← hv33, ← hv32]; exact own_m16 _ _
  have hr : 0 ≤ j54_10.toInt ∧ j54_10.toInt ≤ 65535 := by rw [← hj54_10, ← hv51, ← hv50]; exact own_m16 _ _
  have ra := rng32 xa
  have e55 : v55.toInt = xa.toInt := by rw [← hv55]; exact c_i2l xa
  have e62 : v62.toInt = xa.toInt + j18_6.toInt := by rw [← hv62]; exact own_la e55 rfl (by omega) (by omega)
  have e69 : v69.toInt = xa.toInt + j18_6.toInt + j36_8.toInt := by rw [← hv69]; exact own_la e62 rfl (by omega) (by omega)
  have e76 : v76.toInt = xa.toInt + j18_6.toInt + j36_8.toInt + j54_10.toInt := by rw [← hv76]; exact own_la e69 rfl (by omega) (by omega)
  have e83 : v83.toInt = j18_6.toInt + j36_8.toInt := by rw [← hv83]; exact own_la rfl rfl (by omega) (by omega)
  have e86 : v86.toInt = j18_6.toInt + j36_8.toInt + j54_10.toInt := by rw [← hv86]; exact own_la e83 rfl (by omega) (by omega)
  have e97 : v97.toInt = j18_6.toInt + j36_8.toInt + j54_10.toInt + 2 := by rw [← hv97]; exact own_la e86 (by decide) (by omega) (by omega)
  have nz97 : v97 ≠ 0 := by
    intro q; rw [q] at e97; rw [show (0 : Int64).toInt = 0 from rfl] at e97; omega
  have nz98 := nz97
  have e98 : v98.toInt.natAbs ≤ 200000 := by
    have q1 := lrem_mod v91 v97
    rw [hv98] at q1
    have q2 : v98.toInt = v91.toInt.tmod v97.toInt := by rw [q1]; exact Int64.toInt_mod v91 v97
    have q3 := tmod_bounds (a := v91.toInt) (M := v97.toInt) (by omega)
    omega
  have e105 : v105.toInt = xa.toInt + v98.toInt := by rw [← hv105]; exact own_la e55 rfl (by omega) (by omega)
  obtain ⟨fX, gX⟩ := own_trap (a := v55) (b := v62) (c := v69) (d := v76) ⟨by omega, by omega, by omega, by omega, by omega⟩ hv114 hv117 hv120 hv123
  rw [e55, e62, e69, e76] at fX
  obtain ⟨Ts2, vs2_, css2_, qs2, Hs2, sts2⟩ := own_callI Hs1 hx hZ hown rfl (hw _ (List.mem_of_getElem? (i := 5) rfl)) (hw _ (List.mem_of_getElem? (i := 6) rfl)) (hw _ (List.mem_of_getElem? (i := 4) rfl)) (hw _ (List.mem_of_getElem? (i := 7) rfl)) (by decide) (x := x) (argsL := [(.double v114), (.double v117), (.double v120), (.double v123)]) (rest := [(.ref x)]) (W := 1) (own_tam l Z a0 hb0 hw x v114 v117 v120 v123 (own_is_fin fX.1) (own_is_fin fX.2.1) (own_is_fin fX.2.2.1) (own_is_fin fX.2.2.2) gX.1 gX.2.1 gX.2.2) (by decide) (by decide) (by decide) (by decide) (g := (mkF m 124 (List.toArray ((.val (.int xa)) :: (.val (.int xp)) :: (.val (.int xq)) :: (.val (.int xr)) :: (.val (.int xs)) :: (.val (.int xz)) :: (.val (.long j18_6)) :: .second :: (.val (.long j36_8)) :: .second :: (.val (.long j54_10)) :: .second :: (.val (.long v55)) :: .second :: (.val (.long v62)) :: .second :: (.val (.long v69)) :: .second :: (.val (.long v76)) :: .second :: (.val (.long v86)) :: .second :: (.val (.long v98)) :: .second :: (.val (.long v105)) :: .second :: .unset :: .unset :: .unset :: [])) [(.double v123), (.double v120), (.double v117), (.double v114), (.ref x), (.ref x)])) rfl (by rw [hml]; rfl) (lenOf own_pd3 rfl) rfl (by show 2 * 0 + _ ≤ _; exact Nat.le_of_eq rfl) (hb hby at_124)
  obtain ⟨rfl, rfl⟩ := qs2
  change own_S _ _ _ _ _ _ _ _ _ _ _ _ _ _ [(x, own_O "com/example/hazeline/hazeline/fuzzy/Trapezoid" [("com/example/hazeline/hazeline/fuzzy/Trapezoid", "a", "D", .double v114), ("com/example/hazeline/hazeline/fuzzy/Trapezoid", "b", "D", .double v117), ("com/example/hazeline/hazeline/fuzzy/Trapezoid", "c", "D", .double v120), ("com/example/hazeline/hazeline/fuzzy/Trapezoid", "d", "D", .double v123)])] _ _ at Hs2
  obtain ⟨v133, hv133⟩ : ∃ z : UInt64, (FP.l2d v105) = z := ⟨_, rfl⟩
  have i133 : own_is v133 ((xa.toInt + v98.toInt : Int) : Rat) := by rw [← hv133, ← e105]; exact own_rd_small (own_rdL _) (by omega)
  obtain ⟨Ts3, vs3_, css3_, qs3, Hs3, sts3⟩ := own_callV Hs2 hx hZ hown (hw _ (List.mem_of_getElem? (i := 28) rfl)) (hw _ (List.mem_of_getElem? (i := 29) rfl)) (hw _ (List.mem_of_getElem? (i := 31) rfl)) (hw _ (List.mem_of_getElem? (i := 30) rfl)) (hw _ (List.mem_of_getElem? (i := 4) rfl)) (hw _ (List.mem_of_getElem? (i := 32) rfl)) (by decide) (x := x) 0 rfl (argsL := [(.double v133)]) (rest := []) (W := 0) (own_pref l Z a0 hb0 hw x v133 v114 v117 v120 v123 xa.toInt j18_6.toInt j36_8.toInt j54_10.toInt v98.toInt fX.1 fX.2.1 fX.2.2.1 fX.2.2.2 i133 (by omega) hp.1 hp.2 hq.1 hq.2 hr.1 hr.2 e98) (by decide) (by decide) (by decide) (by decide) (g := (mkF m 134 (List.toArray ((.val (.int xa)) :: (.val (.int xp)) :: (.val (.int xq)) :: (.val (.int xr)) :: (.val (.int xs)) :: (.val (.int xz)) :: (.val (.long j18_6)) :: .second :: (.val (.long j36_8)) :: .second :: (.val (.long j54_10)) :: .second :: (.val (.long v55)) :: .second :: (.val (.long v62)) :: .second :: (.val (.long v69)) :: .second :: (.val (.long v76)) :: .second :: (.val (.long v86)) :: .second :: (.val (.long v98)) :: .second :: (.val (.long v105)) :: .second :: (.val (.ref x)) :: .unset :: .unset :: [])) [(.double v133), (.ref x)])) rfl (by rw [hml]; rfl) (lenOf own_pd1 rfl) rfl (by show 2 * 0 + _ ≤ _; exact Nat.le_of_eq rfl) (hb hby at_134)
  obtain ⟨⟨got, rfl, hgot⟩, rfl⟩ := qs3
  change own_S _ _ _ _ _ _ _ _ _ _ _ _ _ _ [(x, own_O "com/example/hazeline/hazeline/fuzzy/Trapezoid" [("com/example/hazeline/hazeline/fuzzy/Trapezoid", "a", "D", .double v114), ("com/example/hazeline/hazeline/fuzzy/Trapezoid", "b", "D", .double v117), ("com/example/hazeline/hazeline/fuzzy/Trapezoid", "c", "D", .double v120), ("com/example/hazeline/hazeline/fuzzy/Trapezoid", "d", "D", .double v123)])] _ _ at Hs3
  obtain ⟨Ts4, vs4_, css4_, qs4, Hs4, sts4⟩ := own_callS Hs3 hx hZ hown (hw _ (List.mem_of_getElem? (i := 33) rfl)) (hw _ (List.mem_of_getElem? (i := 34) rfl)) (hw _ (List.mem_of_getElem? (i := 35) rfl)) (hw _ (List.mem_of_getElem? (i := 36) rfl)) (by decide) (argsL := [(.long j18_6), (.long j36_8), (.long j54_10), (.long v98)]) (rest := [(.double got)]) (W := 2) (own_expd l Z a0 hb0 hw j18_6 j36_8 j54_10 v98 _ hp.1 hp.2 hq.1 hq.2 hr.1 hr.2 e98) (by decide) (by decide) (by decide) (by decide) (g := (mkF m 149 (List.toArray ((.val (.int xa)) :: (.val (.int xp)) :: (.val (.int xq)) :: (.val (.int xr)) :: (.val (.int xs)) :: (.val (.int xz)) :: (.val (.long j18_6)) :: .second :: (.val (.long j36_8)) :: .second :: (.val (.long j54_10)) :: .second :: (.val (.long v55)) :: .second :: (.val (.long v62)) :: .second :: (.val (.long v69)) :: .second :: (.val (.long v76)) :: .second :: (.val (.long v86)) :: .second :: (.val (.long v98)) :: .second :: (.val (.long v105)) :: .second :: (.val (.ref x)) :: (.val (.double got)) :: .second :: [])) [(.long v98), (.long j54_10), (.long j36_8), (.long j18_6), (.double got)])) rfl (by rw [hml]; rfl) (lenOf own_pd5 rfl) rfl (by show 2 * 0 + _ ≤ _; exact Nat.le_of_eq rfl) (hb hby at_149)
  obtain ⟨⟨want, rfl, hwant⟩, rfl⟩ := qs4
  change own_S _ _ _ _ _ _ _ _ _ _ _ _ _ _ [(x, own_O "com/example/hazeline/hazeline/fuzzy/Trapezoid" [("com/example/hazeline/hazeline/fuzzy/Trapezoid", "a", "D", .double v114), ("com/example/hazeline/hazeline/fuzzy/Trapezoid", "b", "D", .double v117), ("com/example/hazeline/hazeline/fuzzy/Trapezoid", "c", "D", .double v120), ("com/example/hazeline/hazeline/fuzzy/Trapezoid", "d", "D", .double v123)])] _ _ at Hs4
  obtain ⟨v152, hv152⟩ : ∃ z : Int32, (cmpValue (FP.dcmp got want) .l) = z := ⟨_, rfl⟩
  obtain ⟨t161_0, ht161_0⟩ : ∃ z : Int32, (bif ifCond.holds .ne v152 then (0 : Int32) else (1 : Int32)) = z := ⟨_, rfl⟩
  have hone : t161_0 = 1 := by rw [← ht161_0, ← hv152, own_rd_uniq hgot hwant]; rfl
  refine ⟨_, _, _, _, 161, (List.toArray ((.val (.int xa)) :: (.val (.int xp)) :: (.val (.int xq)) :: (.val (.int xr)) :: (.val (.int xs)) :: (.val (.int xz)) :: (.val (.long j18_6)) :: .second :: (.val (.long j36_8)) :: .second :: (.val (.long j54_10)) :: .second :: (.val (.long v55)) :: .second :: (.val (.long v62)) :: .second :: (.val (.long v69)) :: .second :: (.val (.long v76)) :: .second :: (.val (.long v86)) :: .second :: (.val (.long v98)) :: .second :: (.val (.long v105)) :: .second :: (.val (.ref x)) :: (.val (.double got)) :: .second :: [])), Hs4, by decide, by decide, Or.inr ⟨.boolean, (.int t161_0), [], .ireturn, rfl, congrArg (fun z => some (Value.int z)) hone, at_161, own_retZ (Or.inr hone), fun target q => ?_⟩⟩
  refine own_go H0 hx hZ hown hby hw own_K0_ok (own_s0 xa xp xq xr xs xz v3 hv3 v14 hv14 v15 hv15 j18_6 hj18_6) _ ?_
  refine own_go H0 hx hZ hown hby hw own_K0_ok (own_s1 xa xp xq xr xs xz j18_6 v21 hv21 v32 hv32 v33 hv33 j36_8 hj36_8) _ ?_
  refine own_go H0 hx hZ hown hby hw own_K0_ok (own_s2 xa xp xq xr xs xz j18_6 j36_8 v39 hv39 v50 hv50 v51 hv51 j54_10 hj54_10) _ ?_
  refine own_go H0 hx hZ hown hby hw own_K0_ok (own_s3 xa xp xq xr xs xz j18_6 j36_8 j54_10 v55 hv55 v62 hv62 v69 hv69 v76 hv76 v83 hv83 v86 hv86 v91 hv91 v97 hv97 nz98 v98 hv98 v105 hv105) _ ?_
  refine sts1 _ ?_
  refine own_go Hs1 hx hZ hown hby hw own_K0_ok (own_s4 xa xp xq xr xs xz j18_6 j36_8 j54_10 v55 v62 v69 v76 v86 v98 v105 x v114 hv114 v117 hv117 v120 hv120 v123 hv123) _ ?_
  refine sts2 _ ?_
  refine own_go Hs2 hx hZ hown hby hw own_K0_ok (own_s5 xa xp xq xr xs xz j18_6 j36_8 j54_10 v55 v62 v69 v76 v86 v98 v105 x v133 hv133) _ ?_
  refine sts3 _ ?_
  refine own_go Hs3 hx hZ hown hby hw own_K0_ok (own_s6 xa xp xq xr xs xz j18_6 j36_8 j54_10 v55 v62 v69 v76 v86 v98 v105 x got) _ ?_
  refine sts4 _ ?_
  refine own_go Hs4 hx hZ hown hby hw own_K0_ok (own_s7 xa xp xq xr xs xz j18_6 j36_8 j54_10 v55 v62 v69 v76 v86 v98 v105 x got want v152 hv152 t161_0 ht161_0) _ ?_
  exact q
set_option maxRecDepth 65536 in
set_option maxHeartbeats 40000000 in
theorem own_comes {Post : Tables → Env → Array Value → State → Outcome → State → Prop} (hpost : ∀ tb e args s v u, (limb_1_1.after args s (.returned v) u = true ∧ limb_1_2.after args s (.returned v) u = true ∧ True) → FrameEnd s (.returned v) u (Jvm.fieldLocs frame_1_writes args s ++ Jvm.arrayLocs frame_1_arrays args s ++ Jvm.staticLocs frame_1_statics s) 16 128 → Post tb e args s (.returned v) u) :
    ArmFor flags0 classFile x code maxLocals ret World_1 tables_1 room_1 Calls_1 rest_1 Pre_1 Post := by
  intro l hfl _ _ p e ha hc hk s m args below hf hA hF happ hP
  obtain ⟨hcalls, hrest, hpre⟩ := hP
  obtain ⟨-, -, -, hnamed, -, -, -, hat⟩ := (Spec.applies_iff hf).mp happ
  obtain ⟨hg, hn⟩ := and_e (Cond.before_iff.mp (show (Jvm.Cond.and given_1 narrow_1).before args s = true from hpre))
  obtain ⟨h1, g0⟩ := and_e hg
  obtain ⟨w0, w1, w2, w3, w4, w5, rfl⟩ : ∃ w0 w1 w2 w3 w4 w5 : Value, args = #[w0, w1, w2, w3, w4, w5] := by
    have hs : args.size = 6 := by simpa [Cond.value, given_1] using h1
    obtain ⟨L⟩ := args
    match L, hs with
    | [w0, w1, w2, w3, w4, w5], _ => exact ⟨w0, w1, w2, w3, w4, w5, rfl⟩
  have hw := fun d (hd : d ∈ tables_1) => atoms_spec (ws := Jvm.Cond.code x code maxLocals ret :: tables_1) hat d (List.mem_cons_of_mem _ hd)
  have hfit : Fit s := fun {y c} hc i hi => by
    obtain ⟨ha, rfl⟩ := Array.getElem?_eq_some_iff.mp hc
    have q := List.all_eq_true.mp ((Array.all_eq_true_iff_forall_mem.mp hF) _ (Array.getElem_mem ha)) i (List.mem_range.mpr hi)
    simpa [Array.getElem?_eq_getElem hi] using q
  obtain ⟨f0, g1⟩ := and_e g0
  obtain ⟨i0, e0⟩ := is_v f0
  obtain rfl : w0 = (.int i0) := Option.some.inj e0
  obtain ⟨f1, g2⟩ := and_e g1
  obtain ⟨i1, e1⟩ := is_v f1
  obtain rfl : w1 = (.int i1) := Option.some.inj e1
  obtain ⟨f2, g3⟩ := and_e g2
  obtain ⟨i2, e2⟩ := is_v f2
  obtain rfl : w2 = (.int i2) := Option.some.inj e2
  obtain ⟨f3, g4⟩ := and_e g3
  obtain ⟨i3, e3⟩ := is_v f3
  obtain rfl : w3 = (.int i3) := Option.some.inj e3
  obtain ⟨f4, g5⟩ := and_e g4
  obtain ⟨i4, e4⟩ := is_v f4
  obtain rfl : w4 = (.int i4) := Option.some.inj e4
  obtain ⟨i5, e5⟩ := is_v g5
  obtain rfl : w5 = (.int i5) := Option.some.inj e5
  obtain ⟨n, o, h1, h2, h3, _, L, rfl, ⟨N, cs', rfl, -⟩, hq⟩ := own_law l s _ s.heap hw i0 i1 i2 i3 i4 i5  s.heap (own_Hp_start s _ s.heap) p e ha hc hk s m _ below hf ((Spec.applies_iff_loose hf).mp happ).1 ⟨rfl, State.Warmed39.refl s, rfl⟩ trivial
  refine ⟨n, _, h1, h2, h3, hpost _ _ _ _ _ _ ⟨Cond.after_iff.mpr rfl, Cond.after_iff.mpr (eq_i res_at (Term.int_eval (1)) rfl), trivial⟩ ⟨hq.1, hq.2.1, (hq.2.2.sift fun y hy => Or.inr (N y hy)).mono (by decide) (by decide)⟩⟩
theorem main_1_1 : Claimed_1_1 := own_comes fun _ _ _ _ _ _ h hF => ⟨h.1, hF⟩
theorem main_1_2 : Claimed_1_2 := own_comes fun _ _ _ _ _ _ h hF => ⟨h.2.1, hF⟩
end OwnClaim
end Jvm.Pilot.@@N@@
namespace Jvm.Pilot.@@N@@
open Jvm Jvm.ClassFile Sem Op Lib Jvm.Free Jvm.Stand Jvm.Pilot.@@N@@.Jvm.D
/-! MADE BY PROGRAM (witnessworld.py) out of the Statement's table words and the real class files: 15 classes; the members and pool entries that the words name. The judged class is class 1, her method 1. -/
namespace start1
open Jvm.ClassFile
def u (s : String) : CpInfo := .utf8 (stringToUtf16 s)
/-- a pool by its gaps: so many unusable entries, then the entry; so many at the end -/
def gap : Nat → List CpInfo → List CpInfo
  | 0, r => r
  | n + 1, r => .unusable :: gap n r
def poolList (es : List (Nat × CpInfo)) (last : Nat) : List CpInfo := es.foldr (fun e r => gap e.1 (e.2 :: r)) (gap last [])
def pool (es : List (Nat × CpInfo)) (last : Nat) : Array CpInfo := ⟨poolList es last⟩
def fileOf (pool : Array CpInfo) (this : Nat) (attrs : Array Attribute := #[]) (ms : Array MethodInfo := #[]) (fl : Nat := 33) (sup : Nat := 0) (ifs : Array Nat := #[]) (fds : Array FieldInfo := #[]) : ClassFile where
  minorVersion := 0
  majorVersion := 65
  constantPool := pool
  accessFlags := fl
  thisClass := this
  superClass := sup
  interfaces := ifs
  fields := fds
  methods := ms
  attributes := attrs
def plain (name : String) (sup : Option ClassId) : Class where
  name := name
  kind := .ordinary
  loader := none
  accessFlags := 33
  super := sup
  interfaces := #[]
  cf := none
  fields := #[]
  methods := #[]
  instanceTypes := #[]
  staticTypes := #[]
  resolved := #[]
  callSites := []
  init := .initialized
  statics := none
  mirror := none

def pool0 : Array CpInfo := pool [(5, u "<init>"), (0, u "()V"), (1, .class_ 10), (1, u "java/lang/Object")] 113

def k0c0 : Code := { maxStack := 0, maxLocals := 1, code := object_method_1_code, exceptionTable := #[], attributes := #[] }
def k0m0 : Method := { name := "<init>", desc := "()V", sig := { parameters := [], returnType := none }, accessFlags := 1, code := some k0c0 }
/-- java/lang/Object -/
def k0 : Class := { plain "java/lang/Object" none with
  accessFlags := 33
  interfaces := #[]
  cf := some (fileOf pool0 8 #[] #[{ accessFlags := 1, nameIndex := 5, descriptorIndex := 6, attributes := #[] }] 33 0 #[] #[])
  fields := #[]
  methods := #[k0m0]
  instanceTypes := #[]
  staticTypes := #[]
  resolved := Array.replicate 124 none
  statics := none }

def pool1 : Array CpInfo := pool [(2, .class_ 4), (1, u "java/lang/Object"), (0, u "<init>"), (0, u "()V"), (0, .integer 65535), (0, .long 2), (1, .class_ 11), (0, u "com/example/hazeline/hazeline/fuzzy/Trapezoid"), (0, .methodref 10 13), (0, .nameAndType 5 14), (0, u "(DDDD)V"), (0, .methodref 10 16), (0, .nameAndType 17 18), (0, u "preferenceRatio"), (0, u "(D)D"), (0, .methodref 20 21), (0, .class_ 22), (0, .nameAndType 23 24), (0, u "com/example/hazeline/hazeline/fuzzy/TrapezoidPreferenceRatioPinLaw"), (0, u "expected"), (0, u "(JJJJ)D"), (0, .methodref 26 27), (0, .class_ 28), (0, .nameAndType 29 30), (0, u "java/lang/Math"), (0, u "max"), (0, u "(JJ)J"), (2, u "law"), (0, u "(IIIIII)Z")] 3

def k1m0 : Method := { name := "<init>", desc := "()V", sig := { parameters := [], returnType := none }, accessFlags := 1, code := none }
def k1c1 : Code := { maxStack := 10, maxLocals := 29, code := code, exceptionTable := #[], attributes := #[] }
def k1m1 : Method := { name := "law", desc := "(IIIIII)Z", sig := { parameters := [.int, .int, .int, .int, .int, .int], returnType := some .boolean }, accessFlags := 9, code := some k1c1 }
def k1c2 : Code := { maxStack := 8, maxLocals := 22, code := method_3_code, exceptionTable := #[], attributes := #[] }
def k1m2 : Method := { name := "expected", desc := "(JJJJ)D", sig := { parameters := [.long, .long, .long, .long], returnType := some .double }, accessFlags := 10, code := some k1c2 }
/-- com/example/hazeline/hazeline/fuzzy/TrapezoidPreferenceRatioPinLaw -/
def k1 : Class := { plain "com/example/hazeline/hazeline/fuzzy/TrapezoidPreferenceRatioPinLaw" (some 0) with
  accessFlags := 49
  interfaces := #[]
  cf := some (fileOf pool1 20 #[] #[{ accessFlags := 1, nameIndex := 5, descriptorIndex := 6, attributes := #[] }, { accessFlags := 9, nameIndex := 33, descriptorIndex := 34, attributes := #[] }, { accessFlags := 10, nameIndex := 23, descriptorIndex := 24, attributes := #[] }] 49 2 #[] #[])
  fields := #[]
  methods := #[k1m0, k1m1, k1m2]
  instanceTypes := #[]
  staticTypes := #[]
  resolved := Array.replicate 38 none
  statics := none }

def pool2 : Array CpInfo := pool [(1, .methodref 2 3), (0, .class_ 4), (0, .nameAndType 5 6), (0, u "java/lang/Object"), (0, u "<init>"), (0, u "()V"), (0, .methodref 8 9), (0, .class_ 10), (0, .nameAndType 11 12), (0, u "java/lang/Double"), (0, u "isFinite"), (0, u "(D)Z"), (3, .class_ 18), (1, u "com/example/hazeline/hazeline/fuzzy/Trapezoid"), (10, .fieldref 16 30), (0, .nameAndType 31 32), (0, u "a"), (0, u "D"), (0, .fieldref 16 34), (0, .nameAndType 35 32), (0, u "b"), (0, .fieldref 16 37), (0, .nameAndType 38 32), (0, u "c"), (0, .fieldref 16 40), (0, .nameAndType 41 32), (0, u "d"), (1, .class_ 45), (1, u "com/example/hazeline/hazeline/fuzzy/Trapezoid$1"), (15, u "(DDDD)V"), (12, .double 4611686018427387904), (21, u "ZERO"), (0, u "Lcom/example/hazeline/hazeline/fuzzy/Trapezoid;"), (5, u "BY_MAGNITUDE"), (0, u "Ljava/util/Comparator;"), (12, u "preferenceRatio"), (0, u "(D)D")] 43

def k2c0 : Code := { maxStack := 10, maxLocals := 9, code := prog_5_method_1_code, exceptionTable := #[], attributes := #[] }
def k2m0 : Method := { name := "<init>", desc := "(DDDD)V", sig := { parameters := [.double, .double, .double, .double], returnType := none }, accessFlags := 1, code := some k2c0 }
def k2c1 : Code := { maxStack := 8, maxLocals := 7, code := prog_5_method_11_code, exceptionTable := #[], attributes := #[] }
def k2m1 : Method := { name := "preferenceRatio", desc := "(D)D", sig := { parameters := [.double], returnType := some .double }, accessFlags := 1, code := some k2c1 }
/-- com/example/hazeline/hazeline/fuzzy/Trapezoid -/
def k2 : Class := { plain "com/example/hazeline/hazeline/fuzzy/Trapezoid" (some 0) with
  accessFlags := 49
  interfaces := #[]
  cf := some (fileOf pool2 16 #[.nestMembers #[43]] #[{ accessFlags := 1, nameIndex := 5, descriptorIndex := 61, attributes := #[] }, { accessFlags := 1, nameIndex := 117, descriptorIndex := 118, attributes := #[] }] 49 2 #[] #[{ accessFlags := 25, nameIndex := 96, descriptorIndex := 97, attributes := #[] }, { accessFlags := 25, nameIndex := 103, descriptorIndex := 104, attributes := #[] }, { accessFlags := 18, nameIndex := 31, descriptorIndex := 32, attributes := #[] }, { accessFlags := 18, nameIndex := 35, descriptorIndex := 32, attributes := #[] }, { accessFlags := 18, nameIndex := 38, descriptorIndex := 32, attributes := #[] }, { accessFlags := 18, nameIndex := 41, descriptorIndex := 32, attributes := #[] }])
  fields := #[{ name := "ZERO", type := (.object "com/example/hazeline/hazeline/fuzzy/Trapezoid"), accessFlags := 25, slot := 0, constantValue := 0 }, { name := "BY_MAGNITUDE", type := (.object "java/util/Comparator"), accessFlags := 25, slot := 1, constantValue := 0 }, { name := "a", type := .double, accessFlags := 18, slot := 0, constantValue := 0 }, { name := "b", type := .double, accessFlags := 18, slot := 1, constantValue := 0 }, { name := "c", type := .double, accessFlags := 18, slot := 2, constantValue := 0 }, { name := "d", type := .double, accessFlags := 18, slot := 3, constantValue := 0 }]
  methods := #[k2m0, k2m1]
  instanceTypes := #[.double, .double, .double, .double]
  staticTypes := #[(.object "com/example/hazeline/hazeline/fuzzy/Trapezoid"), (.object "java/util/Comparator")]
  resolved := Array.replicate 162 none
  statics := none }

def pool3 : Array CpInfo := pool [(1, .class_ 2), (0, u "java/io/Serializable"), (0, .class_ 4), (0, u "java/lang/Object")] 2

/-- java/io/Serializable -/
def k3 : Class := { plain "java/io/Serializable" (some 0) with
  accessFlags := 1537
  interfaces := #[]
  cf := some (fileOf pool3 1 #[] #[] 1537 3 #[] #[])
  fields := #[]
  methods := #[]
  instanceTypes := #[]
  staticTypes := #[]
  resolved := Array.replicate 7 none
  statics := none }

def pool4 : Array CpInfo := pool [(2, .class_ 4), (1, u "java/lang/Object"), (0, u "<init>"), (0, u "()V"), (1, .class_ 10), (1, u "java/lang/Number"), (2, .class_ 14), (0, u "java/io/Serializable"), (0, u "serialVersionUID"), (0, u "J")] 20

def k4m0 : Method := { name := "<init>", desc := "()V", sig := { parameters := [], returnType := none }, accessFlags := 1, code := none }
/-- java/lang/Number -/
def k4 : Class := { plain "java/lang/Number" (some 0) with
  accessFlags := 1057
  interfaces := #[3]
  cf := some (fileOf pool4 8 #[] #[{ accessFlags := 1, nameIndex := 5, descriptorIndex := 6, attributes := #[] }] 1057 2 #[13] #[{ accessFlags := 26, nameIndex := 15, descriptorIndex := 16, attributes := #[] }])
  fields := #[{ name := "serialVersionUID", type := .long, accessFlags := 26, slot := 0, constantValue := 0 }]
  methods := #[k4m0]
  instanceTypes := #[]
  staticTypes := #[.long]
  resolved := Array.replicate 37 none
  statics := none }

def pool5 : Array CpInfo := pool [(1, .class_ 2), (0, u "java/lang/Comparable"), (0, .class_ 4), (0, u "java/lang/Object")] 7

/-- java/lang/Comparable -/
def k5 : Class := { plain "java/lang/Comparable" (some 0) with
  accessFlags := 1537
  interfaces := #[]
  cf := some (fileOf pool5 1 #[] #[] 1537 3 #[] #[])
  fields := #[]
  methods := #[]
  instanceTypes := #[]
  staticTypes := #[]
  resolved := Array.replicate 12 none
  statics := none }

def pool6 : Array CpInfo := pool [(1, .class_ 2), (0, u "java/lang/constant/Constable"), (0, .class_ 4), (0, u "java/lang/Object")] 6

/-- java/lang/constant/Constable -/
def k6 : Class := { plain "java/lang/constant/Constable" (some 0) with
  accessFlags := 1537
  interfaces := #[]
  cf := some (fileOf pool6 1 #[] #[] 1537 3 #[] #[])
  fields := #[]
  methods := #[]
  instanceTypes := #[]
  staticTypes := #[]
  resolved := Array.replicate 11 none
  statics := none }

def pool7 : Array CpInfo := pool [(1, .class_ 2), (0, u "java/lang/constant/ConstantDesc"), (0, .class_ 4), (0, u "java/lang/Object")] 32

/-- java/lang/constant/ConstantDesc -/
def k7 : Class := { plain "java/lang/constant/ConstantDesc" (some 0) with
  accessFlags := 1537
  interfaces := #[]
  cf := some (fileOf pool7 1 #[] #[] 1537 3 #[] #[])
  fields := #[]
  methods := #[]
  instanceTypes := #[]
  staticTypes := #[]
  resolved := Array.replicate 37 none
  statics := none }

def pool8 : Array CpInfo := pool [(1, .class_ 2), (0, u "java/lang/Double"), (10, u "isFinite"), (0, u "(D)Z"), (8, .class_ 25), (1, u "java/lang/Math"), (12, .methodref 23 39), (0, .nameAndType 40 41), (0, u "abs"), (0, u "(D)D"), (69, .double 9218868437227405311), (2, .class_ 116), (1, u "java/lang/Number"), (3, u "value"), (0, u "D"), (51, u "TYPE"), (0, u "Ljava/lang/Class;"), (0, .class_ 176), (0, u "java/lang/Comparable"), (0, .class_ 178), (0, u "java/lang/constant/Constable"), (0, .class_ 180), (0, u "java/lang/constant/ConstantDesc"), (0, u "POSITIVE_INFINITY"), (3, u "NEGATIVE_INFINITY"), (2, u "NaN"), (2, u "MAX_VALUE"), (0, u "MIN_NORMAL"), (0, u "MIN_VALUE"), (2, u "SIZE"), (0, u "I"), (1, u "PRECISION"), (1, u "MAX_EXPONENT"), (1, u "MIN_EXPONENT"), (1, u "BYTES"), (3, u "serialVersionUID"), (0, u "J")] 79

def k8c0 : Code := { maxStack := 4, maxLocals := 2, code := jdk_117_method_8_code, exceptionTable := #[], attributes := #[] }
def k8m0 : Method := { name := "isFinite", desc := "(D)Z", sig := { parameters := [.double], returnType := some .boolean }, accessFlags := 9, code := some k8c0 }
/-- java/lang/Double -/
def k8 : Class := { plain "java/lang/Double" (some 4) with
  accessFlags := 49
  interfaces := #[5, 6, 7]
  cf := some (fileOf pool8 1 #[] #[{ accessFlags := 9, nameIndex := 13, descriptorIndex := 14, attributes := #[] }] 49 114 #[175, 177, 179] #[{ accessFlags := 25, nameIndex := 181, descriptorIndex := 121, attributes := #[] }, { accessFlags := 25, nameIndex := 185, descriptorIndex := 121, attributes := #[] }, { accessFlags := 25, nameIndex := 188, descriptorIndex := 121, attributes := #[] }, { accessFlags := 25, nameIndex := 191, descriptorIndex := 121, attributes := #[] }, { accessFlags := 25, nameIndex := 192, descriptorIndex := 121, attributes := #[] }, { accessFlags := 25, nameIndex := 193, descriptorIndex := 121, attributes := #[] }, { accessFlags := 25, nameIndex := 196, descriptorIndex := 197, attributes := #[] }, { accessFlags := 25, nameIndex := 199, descriptorIndex := 197, attributes := #[] }, { accessFlags := 25, nameIndex := 201, descriptorIndex := 197, attributes := #[] }, { accessFlags := 25, nameIndex := 203, descriptorIndex := 197, attributes := #[] }, { accessFlags := 25, nameIndex := 205, descriptorIndex := 197, attributes := #[] }, { accessFlags := 25, nameIndex := 173, descriptorIndex := 174, attributes := #[] }, { accessFlags := 18, nameIndex := 120, descriptorIndex := 121, attributes := #[] }, { accessFlags := 26, nameIndex := 209, descriptorIndex := 210, attributes := #[] }])
  fields := #[{ name := "POSITIVE_INFINITY", type := .double, accessFlags := 25, slot := 0, constantValue := 0 }, { name := "NEGATIVE_INFINITY", type := .double, accessFlags := 25, slot := 1, constantValue := 0 }, { name := "NaN", type := .double, accessFlags := 25, slot := 2, constantValue := 0 }, { name := "MAX_VALUE", type := .double, accessFlags := 25, slot := 3, constantValue := 0 }, { name := "MIN_NORMAL", type := .double, accessFlags := 25, slot := 4, constantValue := 0 }, { name := "MIN_VALUE", type := .double, accessFlags := 25, slot := 5, constantValue := 0 }, { name := "SIZE", type := .int, accessFlags := 25, slot := 6, constantValue := 0 }, { name := "PRECISION", type := .int, accessFlags := 25, slot := 7, constantValue := 0 }, { name := "MAX_EXPONENT", type := .int, accessFlags := 25, slot := 8, constantValue := 0 }, { name := "MIN_EXPONENT", type := .int, accessFlags := 25, slot := 9, constantValue := 0 }, { name := "BYTES", type := .int, accessFlags := 25, slot := 10, constantValue := 0 }, { name := "TYPE", type := (.object "java/lang/Class"), accessFlags := 25, slot := 11, constantValue := 0 }, { name := "value", type := .double, accessFlags := 18, slot := 0, constantValue := 0 }, { name := "serialVersionUID", type := .long, accessFlags := 26, slot := 12, constantValue := 0 }]
  methods := #[k8m0]
  instanceTypes := #[.double]
  staticTypes := #[.double, .double, .double, .double, .double, .double, .int, .int, .int, .int, .int, (.object "java/lang/Class"), .long]
  resolved := Array.replicate 290 none
  statics := none }

def pool9 : Array CpInfo := pool [(1, .class_ 2), (0, u "java/lang/Math"), (1, .class_ 6), (1, u "java/lang/Object"), (0, u "<init>"), (0, u "()V"), (5, u "(D)D"), (83, .class_ 100), (1, u "java/lang/Math$RandomNumberGeneratorHolder"), (20, u "(JJ)J"), (2, u "abs"), (47, u "negativeZeroFloatBits"), (0, u "J"), (2, u "negativeZeroDoubleBits"), (21, u "max"), (46, u "$assertionsDisabled"), (0, u "Z"), (91, u "twoToTheDoubleScaleDown"), (0, u "D"), (4, u "twoToTheDoubleScaleUp"), (9, u "E"), (3, u "PI"), (2, u "TAU"), (2, u "DEGREES_TO_RADIANS"), (0, u "RADIANS_TO_DEGREES")] 94

def k9m0 : Method := { name := "<init>", desc := "()V", sig := { parameters := [], returnType := none }, accessFlags := 2, code := none }
def k9c1 : Code := { maxStack := 4, maxLocals := 2, code := jdk_29_method_64_code, exceptionTable := #[], attributes := #[] }
def k9m1 : Method := { name := "abs", desc := "(D)D", sig := { parameters := [.double], returnType := some .double }, accessFlags := 9, code := some k9c1 }
def k9c2 : Code := { maxStack := 4, maxLocals := 4, code := jdk_29_method_66_code, exceptionTable := #[], attributes := #[] }
def k9m2 : Method := { name := "max", desc := "(JJ)J", sig := { parameters := [.long, .long], returnType := some .long }, accessFlags := 9, code := some k9c2 }
/-- java/lang/Math -/
def k9 : Class := { plain "java/lang/Math" (some 0) with
  accessFlags := 49
  interfaces := #[]
  cf := some (fileOf pool9 1 #[.nestMembers #[98]] #[{ accessFlags := 2, nameIndex := 7, descriptorIndex := 8, attributes := #[] }, { accessFlags := 9, nameIndex := 124, descriptorIndex := 14, attributes := #[] }, { accessFlags := 9, nameIndex := 198, descriptorIndex := 121, attributes := #[] }] 49 4 #[] #[{ accessFlags := 25, nameIndex := 354, descriptorIndex := 339, attributes := #[] }, { accessFlags := 25, nameIndex := 358, descriptorIndex := 339, attributes := #[] }, { accessFlags := 25, nameIndex := 361, descriptorIndex := 339, attributes := #[] }, { accessFlags := 26, nameIndex := 364, descriptorIndex := 339, attributes := #[] }, { accessFlags := 26, nameIndex := 365, descriptorIndex := 339, attributes := #[] }, { accessFlags := 26, nameIndex := 172, descriptorIndex := 173, attributes := #[] }, { accessFlags := 26, nameIndex := 176, descriptorIndex := 173, attributes := #[] }, { accessFlags := 8, nameIndex := 344, descriptorIndex := 339, attributes := #[] }, { accessFlags := 8, nameIndex := 338, descriptorIndex := 339, attributes := #[] }, { accessFlags := 4120, nameIndex := 245, descriptorIndex := 246, attributes := #[] }])
  fields := #[{ name := "E", type := .double, accessFlags := 25, slot := 0, constantValue := 0 }, { name := "PI", type := .double, accessFlags := 25, slot := 1, constantValue := 0 }, { name := "TAU", type := .double, accessFlags := 25, slot := 2, constantValue := 0 }, { name := "DEGREES_TO_RADIANS", type := .double, accessFlags := 26, slot := 3, constantValue := 0 }, { name := "RADIANS_TO_DEGREES", type := .double, accessFlags := 26, slot := 4, constantValue := 0 }, { name := "negativeZeroFloatBits", type := .long, accessFlags := 26, slot := 5, constantValue := 0 }, { name := "negativeZeroDoubleBits", type := .long, accessFlags := 26, slot := 6, constantValue := 0 }, { name := "twoToTheDoubleScaleUp", type := .double, accessFlags := 8, slot := 7, constantValue := 0 }, { name := "twoToTheDoubleScaleDown", type := .double, accessFlags := 8, slot := 8, constantValue := 0 }, { name := "$assertionsDisabled", type := .boolean, accessFlags := 4120, slot := 9, constantValue := 0 }]
  methods := #[k9m0, k9m1, k9m2]
  instanceTypes := #[]
  staticTypes := #[.double, .double, .double, .double, .double, .long, .long, .double, .double, .boolean]
  resolved := Array.replicate 460 none
  statics := none }

def pool10 : Array CpInfo := pool [(1, u "java/lang/Cloneable"), (0, .class_ 1), (0, u "java/lang/Object"), (0, .class_ 3)] 3

/-- java/lang/Cloneable -/
def k10 : Class := { plain "java/lang/Cloneable" (some 0) with
  accessFlags := 1537
  interfaces := #[]
  cf := some (fileOf pool10 2 #[] #[] 1537 4 #[] #[])
  fields := #[]
  methods := #[]
  instanceTypes := #[]
  staticTypes := #[]
  resolved := Array.replicate 8 none
  statics := none }

/-- the primitive byte -/
def k11 : Class := { plain "byte" none with kind := .primitive 'B', accessFlags := 0x411 }
/-- [B -/
def k12 : Class := { plain "[B" (some 0) with kind := .array 11 .byte, interfaces := #[10, 3], accessFlags := 1041 }

/-- the primitive int -/
def k13 : Class := { plain "int" none with kind := .primitive 'I', accessFlags := 0x411 }
/-- [I -/
def k14 : Class := { plain "[I" (some 0) with kind := .array 13 .int, interfaces := #[10, 3], accessFlags := 1041 }

def heap : Heap := #[]
def classes : Array Class := #[k0, k1, k2, k3, k4, k5, k6, k7, k8, k9, k10, k11, k12, k13, k14]
def interned : List (Array UInt16 × Addr) := []
def slotsUsed : Nat := 0
def theMethod : MethodId := ⟨1, 1⟩
def args0 : Array Value := #[.int 5, .int 7, .int 1, .int 2, .int 3, .int 0]
def aboutOver (below : List Frame) : State where
  vm := { classes := classes, interned := interned.toArray }
  heap := heap
  slotsUsed := slotsUsed
  threads := #[{ frames := .invoking theMethod args0 :: below }]
def below0 : List Frame := [.native { method := ⟨0, 0⟩, args := #[] }]
def about1 : State := aboutOver below0
def p0 : Program := .bare "" "" ""
def e0 : Env := launch0.env 0 0 0
theorem w_frames : about1.frames = Frame.invoking theMethod args0 :: below0 := rfl
set_option maxRecDepth 65536 in
theorem w_args : argsFit about1.vm theMethod args0 = true := by decide +kernel
set_option maxRecDepth 65536 in
theorem w_heap : heapFits about1 = true := by decide +kernel
set_option maxRecDepth 65536 in
theorem w_runnable : about1.curStatus? = some .runnable := by decide +kernel
set_option maxRecDepth 65536 in
theorem w_alone : about1.alone = true := by decide +kernel
set_option maxRecDepth 65536 in
theorem w_named : about1.methodNamed? x = some theMethod := by decide +kernel
set_option maxRecDepth 65536 in
theorem w_hears : about1.hears theMethod below0 = true := by decide +kernel
set_option maxRecDepth 65536 in
theorem w_ripe : about1.ripe theMethod args0 below0 = true := by decide +kernel
theorem w_running : about1.status = .running := rfl
set_option maxRecDepth 65536 in
theorem w_room : about1.hasRoom e0.platform room_1 = true :=
  launch0.hasRoom_least _ room_1 (by decide +kernel) (by decide +kernel) (by decide +kernel) (by decide +kernel) (by decide +kernel) (by decide +kernel)
theorem allAtoms_all (ts : List Jvm.Cond) (a : Array Jvm.Value) (st : Jvm.State) : (allAtoms ts).before a st = ts.all (fun c => c.before a st) := by
  induction ts with
  | nil => rfl
  | cons c t ih =>
    show (Jvm.Cond.and c (allAtoms t)).before a st = _
    rw [Jvm.Cond.before_and, ih, List.all_cons]
def words1 : List Jvm.Cond := Jvm.Cond.code x code maxLocals ret :: tables_1
/-- a 'code' word, met by the world's own term for the bytes: nothing is compared byte by byte -/
theorem code_word {y : MethodName} {bytes : ByteArray} {mx : Nat} {rt : Option FieldType} {a : Array Value} {s : State} {m : MethodId} {meth : Method} {c : Code} (h1 : s.methodNamed? y = some m) (h2 : s.vm.method? m = some meth) (h3 : meth.code = some c) (h4 : c.code = bytes)
    (h5 : (c.maxLocals == mx && c.exceptionTable.isEmpty && decide (c.maxStack ≤ mostOperands) && decide (meth.sig.returnType = rt) && !meth.locks && decide (parseMethodDescriptor y.desc = some meth.sig)) = true) : (Jvm.Cond.code y bytes mx rt).before a s = true := by
  simp only [Bool.and_eq_true, beq_iff_eq, Bool.not_eq_true', decide_eq_true_eq] at h5
  obtain ⟨⟨⟨⟨⟨g1, g2⟩, g3⟩, g4⟩, g5⟩, g6⟩ := h5
  simp [Cond.before, Cond.holds, Cond.value, h1, h2, h3, h4, g1, g2, g3, g4, g5, g6]
def isCode : Jvm.Cond → Bool
  | .code _ _ _ _ => true
  | _ => false
theorem all_split {L : List Jvm.Cond} {P : Jvm.Cond → Bool} (h1 : L.all (fun c => isCode c || P c) = true) (h2 : ∀ c ∈ L.filter isCode, P c = true) : L.all P = true := by
  refine List.all_eq_true.mpr fun c hc => ?_
  have h := List.all_eq_true.mp h1 c hc
  rcases Bool.eq_false_or_eq_true (isCode c) with hi | hi
  · exact h2 c (List.mem_filter.mpr ⟨hc, hi⟩)
  · simpa [hi] using h
set_option maxRecDepth 65536 in
theorem w_c0 : (Jvm.Cond.code x code maxLocals ret).before args0 about1 = true := code_word (m := ⟨1, 1⟩) (meth := k1m1) (c := k1c1) (by decide +kernel) rfl rfl rfl (by decide +kernel)
set_option maxRecDepth 65536 in
theorem w_c1 : (Jvm.Cond.code ({ cls := "com/example/hazeline/hazeline/fuzzy/Trapezoid", name := "<init>", desc := "(DDDD)V" } : Jvm.MethodName) prog_5_method_1_code (9 : Nat) (Option.none : Option Jvm.ClassFile.FieldType)).before args0 about1 = true := code_word (m := ⟨2, 0⟩) (meth := k2m0) (c := k2c0) (by decide +kernel) rfl rfl rfl (by decide +kernel)
set_option maxRecDepth 65536 in
theorem w_c2 : (Jvm.Cond.code ({ cls := "java/lang/Object", name := "<init>", desc := "()V" } : Jvm.MethodName) object_method_1_code (1 : Nat) (Option.none : Option Jvm.ClassFile.FieldType)).before args0 about1 = true := code_word (m := ⟨0, 0⟩) (meth := k0m0) (c := k0c0) (by decide +kernel) rfl rfl rfl (by decide +kernel)
set_option maxRecDepth 65536 in
theorem w_c3 : (Jvm.Cond.code ({ cls := "java/lang/Double", name := "isFinite", desc := "(D)Z" } : Jvm.MethodName) jdk_117_method_8_code (2 : Nat) (Option.some Jvm.ClassFile.FieldType.boolean)).before args0 about1 = true := code_word (m := ⟨8, 0⟩) (meth := k8m0) (c := k8c0) (by decide +kernel) rfl rfl rfl (by decide +kernel)
set_option maxRecDepth 65536 in
theorem w_c4 : (Jvm.Cond.code ({ cls := "java/lang/Math", name := "abs", desc := "(D)D" } : Jvm.MethodName) jdk_29_method_64_code (2 : Nat) (Option.some Jvm.ClassFile.FieldType.double)).before args0 about1 = true := code_word (m := ⟨9, 1⟩) (meth := k9m1) (c := k9c1) (by decide +kernel) rfl rfl rfl (by decide +kernel)
set_option maxRecDepth 65536 in
theorem w_c5 : (Jvm.Cond.code ({ cls := "com/example/hazeline/hazeline/fuzzy/Trapezoid", name := "preferenceRatio", desc := "(D)D" } : Jvm.MethodName) prog_5_method_11_code (7 : Nat) (Option.some Jvm.ClassFile.FieldType.double)).before args0 about1 = true := code_word (m := ⟨2, 1⟩) (meth := k2m1) (c := k2c1) (by decide +kernel) rfl rfl rfl (by decide +kernel)
set_option maxRecDepth 65536 in
theorem w_c6 : (Jvm.Cond.code ({ cls := "com/example/hazeline/hazeline/fuzzy/TrapezoidPreferenceRatioPinLaw", name := "expected", desc := "(JJJJ)D" } : Jvm.MethodName) method_3_code (22 : Nat) (Option.some Jvm.ClassFile.FieldType.double)).before args0 about1 = true := code_word (m := ⟨1, 2⟩) (meth := k1m2) (c := k1c2) (by decide +kernel) rfl rfl rfl (by decide +kernel)
set_option maxRecDepth 65536 in
theorem w_c7 : (Jvm.Cond.code ({ cls := "java/lang/Math", name := "max", desc := "(JJ)J" } : Jvm.MethodName) jdk_29_method_66_code (4 : Nat) (Option.some Jvm.ClassFile.FieldType.long)).before args0 about1 = true := code_word (m := ⟨9, 2⟩) (meth := k9m2) (c := k9c2) (by decide +kernel) rfl rfl rfl (by decide +kernel)
def codes1 : List Jvm.Cond := [Jvm.Cond.code x code maxLocals ret, Jvm.Cond.code ({ cls := "com/example/hazeline/hazeline/fuzzy/Trapezoid", name := "<init>", desc := "(DDDD)V" } : Jvm.MethodName) prog_5_method_1_code (9 : Nat) (Option.none : Option Jvm.ClassFile.FieldType), Jvm.Cond.code ({ cls := "java/lang/Object", name := "<init>", desc := "()V" } : Jvm.MethodName) object_method_1_code (1 : Nat) (Option.none : Option Jvm.ClassFile.FieldType), Jvm.Cond.code ({ cls := "java/lang/Double", name := "isFinite", desc := "(D)Z" } : Jvm.MethodName) jdk_117_method_8_code (2 : Nat) (Option.some Jvm.ClassFile.FieldType.boolean), Jvm.Cond.code ({ cls := "java/lang/Math", name := "abs", desc := "(D)D" } : Jvm.MethodName) jdk_29_method_64_code (2 : Nat) (Option.some Jvm.ClassFile.FieldType.double), Jvm.Cond.code ({ cls := "com/example/hazeline/hazeline/fuzzy/Trapezoid", name := "preferenceRatio", desc := "(D)D" } : Jvm.MethodName) prog_5_method_11_code (7 : Nat) (Option.some Jvm.ClassFile.FieldType.double), Jvm.Cond.code ({ cls := "com/example/hazeline/hazeline/fuzzy/TrapezoidPreferenceRatioPinLaw", name := "expected", desc := "(JJJJ)D" } : Jvm.MethodName) method_3_code (22 : Nat) (Option.some Jvm.ClassFile.FieldType.double), Jvm.Cond.code ({ cls := "java/lang/Math", name := "max", desc := "(JJ)J" } : Jvm.MethodName) jdk_29_method_66_code (4 : Nat) (Option.some Jvm.ClassFile.FieldType.long)]
set_option maxRecDepth 65536 in
theorem codes_eq : words1.filter isCode = codes1 := rfl
theorem w_codes : ∀ c ∈ words1.filter isCode, c.before args0 about1 = true := by
  rw [codes_eq]
  intro c hc
  simp only [codes1, List.mem_cons, List.not_mem_nil, or_false] at hc
  rcases hc with rfl | rfl | rfl | rfl | rfl | rfl | rfl | rfl
  · exact w_c0
  · exact w_c1
  · exact w_c2
  · exact w_c3
  · exact w_c4
  · exact w_c5
  · exact w_c6
  · exact w_c7
set_option maxRecDepth 65536 in
theorem w_t1 : (words1.take 24).all (fun c => isCode c || c.before args0 about1) = true := by decide +kernel
set_option maxRecDepth 65536 in
theorem w_t2 : (words1.drop 24).all (fun c => isCode c || c.before args0 about1) = true := by decide +kernel
theorem w_tables : (allAtoms (Jvm.Cond.code x code maxLocals ret :: tables_1)).before args0 about1 = true := by
  rw [allAtoms_all]
  show words1.all (fun c => c.before args0 about1) = true
  refine all_split ?_ w_codes
  rw [← List.take_append_drop 24 words1, List.all_append, w_t1, w_t2]
  rfl
set_option maxRecDepth 65536 in
theorem w_case : (Jvm.Cond.and given_1 narrow_1).before args0 about1 = true := by decide +kernel
theorem w_applies : (headSpec (Jvm.Cond.code x code maxLocals ret :: tables_1) room_1).applies x e0.platform about1 = true :=
  (Spec.applies_iff w_frames).mpr ⟨w_running, w_runnable, w_alone, w_named, w_hears, w_ripe, w_room, w_tables⟩
theorem atStart : AtStart classFile x code maxLocals ret World_1 tables_1 room_1 Calls_1 rest_1 Pre_1 launch0 p0 e0 about1 theMethod args0 below0 :=
  ⟨lists_1, trivial, launch0.admits_env _ _ _, launch0.least_env, fairChoices_fair.cas, fairChoices_fair.clock, w_frames, w_args, w_heap, w_applies, trivial, trivial, w_case⟩
end start1
theorem witness_1 : WitnessClaimed_1 := ⟨start1.p0, start1.e0, start1.about1, start1.theMethod, start1.args0, start1.below0, start1.atStart⟩
end Jvm.Pilot.@@N@@
