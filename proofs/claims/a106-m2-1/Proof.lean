import JvmDerived
import JvmDerived.Pilot.@@N@@Statement
import JvmDerived.Pilot.@@N@@Code
set_option linter.unusedVariables false
set_option linter.unusedSimpArgs false
@@BLOCK:HandJ.lean.txt@@
@@BLOCK:SymMore.lean.txt@@
namespace Jvm.Pilot.@@N@@
/-! the number layer: own_is (a double is exactly that rational), own_rd (a double is that rational, rounded) -/
section OwnNum
open Jvm.FP.Core Jvm.Free.Fl
theorem own_inv1 : (1 : Rat)⁻¹ = 1 := Rat.inv_eq_of_mul_eq_one (Rat.mul_one 1)
theorem own_p_pos (q : Int) : (0 : Rat) < (2 : Rat) ^ q := Rat.zpow_pos (by decide)
theorem own_p_ne (q : Int) : (2 : Rat) ^ q ≠ 0 := Rat.ne_of_gt (own_p_pos q)
theorem own_p_add (a b : Int) : (2 : Rat) ^ (a + b) = 2 ^ a * 2 ^ b := Rat.zpow_add (by decide) a b
theorem own_p_nat (n : Nat) : ((2 ^ n : Nat) : Rat) = (2 : Rat) ^ (n : Int) := by rw [Rat.natCast_pow]; rfl
theorem own_p_toNat {a : Int} (h : 0 ≤ a) : ((2 ^ a.toNat : Nat) : Rat) = (2 : Rat) ^ a := by rw [own_p_nat, Int.toNat_of_nonneg h]
theorem own_p_neg (a : Int) : (2 : Rat) ^ a * 2 ^ (-a) = 1 := by rw [← own_p_add, Int.add_right_neg]; rfl
def own_is (x : UInt64) (r : Rat) : Prop := ∃ s c q, val64 x = .fin s c q ∧ r = ((signed s c : Int) : Rat) * (2 : Rat) ^ q
def own_rd (x : UInt64) (r : Rat) : Prop := ∃ s A B e, 0 < B ∧ val64 x = roundRatio b64 s A B e ∧ r = ((signed s A : Int) : Rat) / ((B : Nat) : Rat) * (2 : Rat) ^ e
theorem own_signed_cast (s : Bool) (c k : Nat) : ((signed s (c * k) : Int) : Rat) = ((signed s c : Int) : Rat) * ((k : Nat) : Rat) := by
  rw [signed_mul, Rat.intCast_mul]; rfl
theorem own_zmag {s : Bool} {c : Nat} {q : Int} (h : FP.Core.fits b64 (.fin s c q)) : ((zmag b64 (.fin s c q) : Nat) : Rat) = (c : Rat) * 2 ^ q * 2 ^ (1074 : Int) := by
  have h1 : b64.qmin ≤ q := h.2.1
  rw [qmin_b64] at h1
  show ((c * 2 ^ (q - b64.qmin).toNat : Nat) : Rat) = _
  rw [Rat.natCast_mul, own_p_toNat (by rw [qmin_b64]; omega), qmin_b64, show q - (-1074) = q + 1074 by omega, own_p_add, Rat.mul_assoc]
theorem own_zval {x : UInt64} {r : Rat} (h : own_is x r) : ((zval b64 (val64 x) : Int) : Rat) = r * 2 ^ (1074 : Int) := by
  obtain ⟨s, c, q, h1, rfl⟩ := h
  have hf := val64_fits x
  rw [h1] at hf ⊢
  have h2 := own_zmag hf
  show ((signed s (zmag b64 (.fin s c q)) : Int) : Rat) = _
  cases s
  · show ((zmag b64 (.fin false c q) : Nat) : Rat) = ((c : Nat) : Rat) * _ * _
    rw [h2]
  · show ((-(zmag b64 (.fin true c q) : Int) : Int) : Rat) = ((-(c : Int) : Int) : Rat) * _ * _
    rw [Rat.intCast_neg, Rat.intCast_neg, Rat.neg_mul, Rat.neg_mul]
    exact congrArg _ h2
theorem own_is_nn {x : UInt64} {r : Rat} (h : own_is x r) : val64 x ≠ .nan := by
  obtain ⟨s, c, q, h1, -⟩ := h; rw [h1]; exact Datum.noConfusion
theorem own_is_fin {x : UInt64} {r : Rat} (h : own_is x r) : Fin64 x := by
  obtain ⟨s, c, q, h1, -⟩ := h; exact fin64_core.mpr ⟨s, c, q, h1⟩
theorem own_is_no {x : UInt64} {r : Rat} (h : own_is x r) : NoNaN64 x := (own_is_fin h).noNaN
theorem own_lt_of {a b : Rat} (h : a < b) (q : Int) : a * 2 ^ q < b * 2 ^ q := Rat.mul_lt_mul_of_pos_right h (own_p_pos q)
theorem own_is_lt {x y : UInt64} {a b : Rat} (hx : own_is x a) (hy : own_is y b) : FP.dcmp x y = some .lt ↔ a < b := by
  rw [show FP.dcmp x y = FP.Core.dcmp x y from rfl, dcmp_lt]
  constructor
  · rintro ⟨-, -, h⟩
    have h2 := Rat.intCast_lt_intCast.mpr h
    rw [own_zval hx, own_zval hy] at h2
    exact Rat.lt_of_mul_lt_mul_right h2 (Rat.le_of_lt (own_p_pos _))
  · intro h
    refine ⟨own_is_nn hx, own_is_nn hy, Rat.intCast_lt_intCast.mp ?_⟩
    rw [own_zval hx, own_zval hy]
    exact own_lt_of h _
theorem own_is_gt {x y : UInt64} {a b : Rat} (hx : own_is x a) (hy : own_is y b) : FP.dcmp x y = some .gt ↔ b < a := by
  rw [← own_is_lt hy hx, show FP.dcmp x y = FP.Core.dcmp x y from rfl, show FP.dcmp y x = FP.Core.dcmp y x from rfl, dcmp_gt, dcmp_lt]
  exact ⟨fun ⟨h1, h2, h⟩ => ⟨h2, h1, h⟩, fun ⟨h1, h2, h⟩ => ⟨h2, h1, h⟩⟩
theorem own_is_eq {x y : UInt64} {a b : Rat} (hx : own_is x a) (hy : own_is y b) : FP.dcmp x y = some .eq ↔ a = b := by
  rw [show FP.dcmp x y = FP.Core.dcmp x y from rfl, dcmp_eq]
  constructor
  · rintro ⟨-, -, h⟩
    have h2 : ((zval b64 (val64 x) : Int) : Rat) = ((zval b64 (val64 y) : Int) : Rat) := by rw [h]
    rw [own_zval hx, own_zval hy] at h2
    have h3 := own_p_ne 1074
    calc a = a * 2 ^ (1074 : Int) / 2 ^ (1074 : Int) := (Rat.mul_div_cancel h3).symm
      _ = b * 2 ^ (1074 : Int) / 2 ^ (1074 : Int) := by rw [h2]
      _ = b := Rat.mul_div_cancel h3
  · rintro rfl
    exact ⟨own_is_nn hx, own_is_nn hy, Rat.intCast_inj.mp (by rw [own_zval hx, own_zval hy])⟩
theorem own_rd_of {x : UInt64} {r : Rat} (h : own_is x r) : own_rd x r := by
  obtain ⟨s, c, q, h1, rfl⟩ := h
  have hf := val64_fits x
  rw [h1] at hf
  refine ⟨s, c, 1, q, by decide, h1.trans (round_of_fits good_b64 hf).symm, ?_⟩
  rw [show (((1 : Nat) : Rat)) = 1 from rfl, Rat.div_def, own_inv1, Rat.mul_one]
theorem own_rd_nn {x : UInt64} {r : Rat} (h : own_rd x r) : val64 x ≠ .nan := by
  obtain ⟨s, A, B, e, -, h1, -⟩ := h; rw [h1]; exact roundRatio_ne_nan _ _ _ _ _
theorem own_rd_no {x : UInt64} {r : Rat} (h : own_rd x r) : NoNaN64 x := val64_no.mpr (own_rd_nn h)
/-- the magnitude of a ratio -/
theorem own_signed_zero {s : Bool} {A : Nat} : ((signed s A : Int) : Rat) = 0 ↔ A = 0 := by
  rw [Rat.intCast_eq_zero_iff, signed_eq_zero]
theorem own_ratio_zero {s : Bool} {A B : Nat} {e : Int} (hB : 0 < B) : ((signed s A : Int) : Rat) / ((B : Nat) : Rat) * (2 : Rat) ^ e = 0 ↔ A = 0 := by
  have hb : ((B : Nat) : Rat) ≠ 0 := by rw [Ne, Rat.natCast_eq_zero_iff]; omega
  constructor
  · intro h
    rcases Rat.mul_eq_zero.mp h with h | h
    · rw [Rat.div_def] at h
      rcases Rat.mul_eq_zero.mp h with h | h
      · exact own_signed_zero.mp h
      · exact absurd (by rw [← Rat.inv_inv ((B : Nat) : Rat), h, Rat.inv_zero]) hb
    · exact absurd h (own_p_ne e)
  · rintro rfl
    rw [own_signed_zero.mpr rfl, Rat.div_def, Rat.zero_mul, Rat.zero_mul]
end OwnNum
section OwnNum2
open Jvm.FP.Core Jvm.Free.Fl
theorem own_nat_pos {B : Nat} (h : 0 < B) : (0 : Rat) < ((B : Nat) : Rat) := Rat.natCast_pos.mpr h
theorem own_nat_ne {B : Nat} (h : 0 < B) : ((B : Nat) : Rat) ≠ 0 := Rat.ne_of_gt (own_nat_pos h)
theorem own_cross {a b a' b' P P' : Rat} (hb : b ≠ 0) (hb' : b' ≠ 0) (h : a / b * P = a' / b' * P') : a * b' * P = a' * b * P' := by
  have h1 : a = a / b * b := (Rat.div_mul_cancel hb).symm
  have h2 : a' = a' / b' * b' := (Rat.div_mul_cancel hb').symm
  generalize a / b = u at *
  generalize a' / b' = w at *
  subst h1 h2
  grind
theorem own_cancel {a b P : Rat} (hP : P ≠ 0) (h : a * P = b * P) : a = b := by
  rw [← Rat.mul_div_cancel (a := a) hP, h, Rat.mul_div_cancel hP]
theorem own_sig_eq {s s' : Bool} {X Y : Nat} (hX : 0 < X) (h : signed s X = signed s' Y) : s = s' ∧ X = Y := by
  cases s <;> cases s' <;> simp only [signed, Bool.false_eq_true, if_true, if_false] at h <;> first | exact ⟨rfl, by omega⟩ | omega
theorem own_ratio_le {s s' : Bool} {A B A' B' : Nat} {e e' : Int} (hB : 0 < B) (hB' : 0 < B') (hA : 0 < A) (hle : e' ≤ e)
    (h : ((signed s A : Int) : Rat) / ((B : Nat) : Rat) * (2 : Rat) ^ e = ((signed s' A' : Int) : Rat) / ((B' : Nat) : Rat) * (2 : Rat) ^ e') :
    s = s' ∧ A * B' * 2 ^ (e - e').toNat = A' * B := by
  have h1 := own_cross (own_nat_ne hB) (own_nat_ne hB') h
  have h2 : (2 : Rat) ^ e = 2 ^ (e - e') * 2 ^ e' := by rw [← own_p_add]; congr 1; omega
  rw [h2, ← Rat.mul_assoc] at h1
  have h3 := own_cancel (own_p_ne e') h1
  rw [← own_p_toNat (by omega), ← own_signed_cast, ← own_signed_cast, ← own_signed_cast, Rat.intCast_inj] at h3
  exact own_sig_eq (Nat.mul_pos (Nat.mul_pos hA hB') (Nat.two_pow_pos _)) h3
theorem own_ratio_eq {s s' : Bool} {A B A' B' : Nat} {e e' : Int} (hB : 0 < B) (hB' : 0 < B') (hA : 0 < A)
    (h : ((signed s A : Int) : Rat) / ((B : Nat) : Rat) * (2 : Rat) ^ e = ((signed s' A' : Int) : Rat) / ((B' : Nat) : Rat) * (2 : Rat) ^ e') :
    s = s' ∧ roundRatio b64 s A B e = roundRatio b64 s' A' B' e' := by
  have hA' : 0 < A' := by
    rcases Nat.eq_zero_or_pos A' with h0 | h0
    · rw [(own_ratio_zero hB').mpr h0, own_ratio_zero hB] at h; omega
    · exact h0
  rcases Int.le_total e' e with hle | hle
  · obtain ⟨rfl, h1⟩ := own_ratio_le hB hB' hA hle h
    refine ⟨rfl, roundRatio_congr hB hB' ?_⟩
    rw [h1, show (e' - e).toNat = 0 by omega]; simp
  · obtain ⟨rfl, h1⟩ := own_ratio_le hB' hB hA' hle h.symm
    refine ⟨rfl, (roundRatio_congr hB' hB ?_).symm⟩
    rw [h1, show (e - e').toNat = 0 by omega]; simp
theorem own_rd_uniq {x y : UInt64} {r : Rat} (hx : own_rd x r) (hy : own_rd y r) : FP.dcmp x y = some .eq := by
  obtain ⟨s, A, B, e, hB, hv, hr⟩ := hx
  obtain ⟨s', A', B', e', hB', hv', hr'⟩ := hy
  rcases Nat.eq_zero_or_pos A with hA | hA
  · have hA' : A' = 0 := by rw [← own_ratio_zero hB' (s := s') (e := e'), ← hr', hr]; exact (own_ratio_zero hB).mpr hA
    subst hA hA'
    rw [show FP.dcmp x y = FP.Core.dcmp x y from rfl, dcmp_eq, hv, hv']
    refine ⟨roundRatio_ne_nan _ _ _ _ _, roundRatio_ne_nan _ _ _ _ _, ?_⟩
    show zval b64 (.fin s 0 b64.qmin) = zval b64 (.fin s' 0 b64.qmin)
    cases s <;> cases s' <;> decide
  · obtain ⟨-, h1⟩ := own_ratio_eq hB hB' hA (hr.symm.trans hr')
    have h2 : val64 x ≠ .nan := by rw [hv]; exact roundRatio_ne_nan _ _ _ _ _
    have h3 : x = y := val64_inj h2 (by rw [hv, hv', h1])
    subst h3
    exact dcmp_refl ((notNaN_iff x).mpr h2)
/-- exact where the rational has 53 digits -/
theorem own_rd_exact {x : UInt64} {r : Rat} (h : own_rd x r) {m : Int} {k : Int} (hr : r = (m : Rat) * (2 : Rat) ^ k) (hm : m.natAbs < 2 ^ 53) (hk : -1074 ≤ k) (hk2 : k ≤ 971) : own_is x r := by
  obtain ⟨s, A, B, e, hB, hv, hr0⟩ := h
  have hcan : ∀ (t : Bool), ((signed t m.natAbs : Int) : Rat) * (2 : Rat) ^ k = r → roundRatio b64 s A B e = round b64 (.fin t m.natAbs k) → own_is x r := by
    intro t ht hq
    obtain ⟨c', q', h1, h2⟩ := round_exact good_b64 t (c := m.natAbs) (q := k) hm (by rw [qmin_b64]; exact hk) (by exact hk2)
    have hx : val64 x = .fin t c' q' := by rw [hv, hq, h1]
    refine ⟨t, c', q', hx, ?_⟩
    have hf := val64_fits x
    rw [hx] at hf
    have z1 := own_zmag hf
    have z2 : ((inUnits c' q' b64.qmin : Nat) : Rat) = ((m.natAbs : Nat) : Rat) * 2 ^ k * 2 ^ (1074 : Int) := by
      rw [h2]; unfold inUnits
      rw [Rat.natCast_mul, own_p_toNat (by rw [qmin_b64]; omega), qmin_b64, show k - (-1074) = k + 1074 by omega, own_p_add, Rat.mul_assoc]
    have z3 : (c' : Rat) * 2 ^ q' = ((m.natAbs : Nat) : Rat) * 2 ^ k := own_cancel (own_p_ne 1074) (z1.symm.trans z2)
    rw [← ht]
    cases t
    · exact z3.symm
    · show ((-(m.natAbs : Int) : Int) : Rat) * _ = ((-(c' : Int) : Int) : Rat) * _
      rw [Rat.intCast_neg, Rat.intCast_neg, Rat.neg_mul, Rat.neg_mul]
      exact congrArg _ z3.symm
  rcases Nat.eq_zero_or_pos A with hA | hA
  · have h0 : r = 0 := by rw [hr0]; exact (own_ratio_zero hB).mpr hA
    have hm0 : m = 0 := by
      rw [h0] at hr
      rcases Rat.mul_eq_zero.mp hr.symm with h1 | h1
      · exact Rat.intCast_eq_zero_iff.mp h1
      · exact absurd h1 (own_p_ne k)
    subst hm0 hA
    refine hcan s ?_ ?_
    · rw [h0]; cases s <;> simp [signed]
    · show Datum.fin s 0 b64.qmin = Datum.fin s 0 b64.qmin
      rfl
  · have h1 : ((signed s A : Int) : Rat) / ((B : Nat) : Rat) * (2 : Rat) ^ e = ((signed (decide (m < 0)) m.natAbs : Int) : Rat) / (((1 : Nat) : Nat) : Rat) * (2 : Rat) ^ k := by
      rw [← hr0, hr, show (((1 : Nat) : Rat)) = 1 from rfl, Rat.div_def, own_inv1, Rat.mul_one]
      congr 2
      unfold signed
      by_cases hmn : m < 0 <;> simp [hmn] <;> omega
    obtain ⟨-, h2⟩ := own_ratio_eq hB (by decide) hA h1
    refine hcan (decide (m < 0)) ?_ h2
    rw [hr]
    congr 2
    unfold signed
    by_cases hmn : m < 0 <;> simp [hmn] <;> omega
theorem own_add {x y : UInt64} {a b : Rat} (hx : own_is x a) (hy : own_is y b) : own_rd (FP.dadd x y) (a + b) := by
  obtain ⟨s, c, q, h1, rfl⟩ := hx
  obtain ⟨t, d, r, h2, rfl⟩ := hy
  refine ⟨_, _, 1, min q r, by decide, (val64_dadd x y).trans (by rw [h1, h2]; rfl), ?_⟩
  rw [signed_sumSign, show (((1 : Nat) : Rat)) = 1 from rfl, Rat.div_def, own_inv1, Rat.mul_one]
  unfold sumUnits inUnits
  rw [Rat.intCast_add, own_signed_cast, own_signed_cast, own_p_toNat (by omega), own_p_toNat (by omega), Rat.add_mul, Rat.mul_assoc, Rat.mul_assoc, ← own_p_add, ← own_p_add, show q - min q r + min q r = q by omega, show r - min q r + min q r = r by omega]
theorem own_neg {x : UInt64} {a : Rat} (hx : own_is x a) : own_is (FP.dneg x) (-a) := by
  obtain ⟨s, c, q, h1, rfl⟩ := hx
  refine ⟨!s, c, q, (FP.val64_dneg x).trans (by rw [h1]; rfl), ?_⟩
  rw [signed_not, Rat.intCast_neg, Rat.neg_mul]
theorem own_sub {x y : UInt64} {a b : Rat} (hx : own_is x a) (hy : own_is y b) : own_rd (FP.dsub x y) (a - b) := by
  have h : val64 (FP.dsub x y) = val64 (FP.dadd x (FP.dneg y)) := by
    rw [show val64 (FP.dsub x y) = _ from val64_dsub x y, show val64 (FP.dadd x (FP.dneg y)) = _ from val64_dadd x (FP.dneg y), FP.val64_dneg]
  obtain ⟨s, A, B, e, hB, hv, hr⟩ := own_add hx (own_neg hy)
  exact ⟨s, A, B, e, hB, h.trans hv, by rw [Rat.sub_eq_add_neg]; exact hr⟩
theorem own_mul {x y : UInt64} {a b : Rat} (hx : own_is x a) (hy : own_is y b) : own_rd (FP.dmul x y) (a * b) := by
  obtain ⟨s, c, q, h1, rfl⟩ := hx
  obtain ⟨t, d, r, h2, rfl⟩ := hy
  refine ⟨s != t, c * d, 1, q + r, by decide, (val64_dmul x y).trans (by rw [h1, h2]; rfl), ?_⟩
  rw [signed_xor, Rat.intCast_mul, own_p_add, show (((1 : Nat) : Rat)) = 1 from rfl, Rat.div_def, own_inv1, Rat.mul_one]
  grind
theorem own_div {x y : UInt64} {a b : Rat} (hx : own_is x a) (hy : own_is y b) (hb : b ≠ 0) : own_rd (FP.ddiv x y) (a / b) := by
  obtain ⟨s, c, q, h1, rfl⟩ := hx
  obtain ⟨t, d, r, h2, rfl⟩ := hy
  have hd : d ≠ 0 := by
    rintro rfl
    exact hb (by rw [own_signed_zero.mpr rfl, Rat.zero_mul])
  refine ⟨s != t, c, d, q - r, by omega, (val64_ddiv x y).trans (by rw [h1, h2]; show (if d = 0 then _ else _) = _; rw [if_neg hd]), ?_⟩
  have hd' : ((d : Nat) : Rat) ≠ 0 := own_nat_ne (by omega)
  have e1 : (2 : Rat) ^ q = 2 ^ (q - r) * 2 ^ r := by rw [← own_p_add]; congr 1; omega
  have e2 := own_p_ne r
  rw [e1]
  generalize (2 : Rat) ^ (q - r) = P
  generalize (2 : Rat) ^ r = W at *
  cases s <;> cases t <;> simp only [signed, Bool.false_eq_true, if_true, if_false, bne_self_eq_false, Rat.intCast_neg, Rat.intCast_natCast, Bool.bne_true, Bool.bne_false, Bool.not_false, Bool.not_true] <;> grind
theorem own_rdL (a : Int64) : own_rd (FP.l2d a) ((a.toInt : Int) : Rat) := by
  refine ⟨decide (a.toInt < 0), a.toInt.natAbs, 1, 0, by decide, val64_l2d a, ?_⟩
  rw [show (((1 : Nat) : Rat)) = 1 from rfl, Rat.div_def, own_inv1, Rat.mul_one, Rat.zpow_zero, Rat.mul_one]
  congr 1
  unfold signed
  by_cases hmn : a.toInt < 0 <;> simp [hmn] <;> omega
theorem own_isI (a : Int32) : own_is (FP.i2d a) ((a.toInt : Int) : Rat) := by
  have h : FP.i2d a = FP.l2d a.toInt64 := i2d_l2d a
  have h2 := own_rdL a.toInt64
  rw [Int32.toInt_toInt64] at h2
  rw [h]
  refine own_rd_exact h2 (m := a.toInt) (k := 0) (by rw [Rat.zpow_zero, Rat.mul_one]) ?_ (by decide) (by decide)
  have := a.le_toInt; have := a.toInt_lt; omega
end OwnNum2
section OwnNum3
open Jvm.FP.Core Jvm.Free.Fl
theorem own_units {A B : Nat} {e : Int} {c : Nat} {q : Int} {s : Bool} (hf : FP.Core.fits b64 (.fin s c q)) (e0 : Int) (h0 : e0 ≤ b64.qmin) (h0e : e0 ≤ e) :
    (((inUnits A e e0 : Nat) : Rat) = (A : Rat) * 2 ^ e * 2 ^ (-e0)) ∧ (((zmag b64 (.fin s c q) * 2 ^ (b64.qmin - e0).toNat * B : Nat) : Rat) = ((c : Rat) * 2 ^ q) * (B : Rat) * 2 ^ (-e0)) := by
  constructor
  · unfold inUnits
    rw [Rat.natCast_mul, own_p_toNat (by omega), show e - e0 = e + -e0 by omega, own_p_add, Rat.mul_assoc]
  · rw [Rat.natCast_mul, Rat.natCast_mul, own_zmag hf, own_p_toNat (by omega), show b64.qmin - e0 = -1074 + -e0 by rw [qmin_b64]; omega, own_p_add]
    have := own_p_neg 1074
    grind
theorem own_div_le {a b w : Rat} (hb : 0 < b) : a / b ≤ w ↔ a ≤ w * b := by
  have h1 : a = a / b * b := (Rat.div_mul_cancel (Rat.ne_of_gt hb)).symm
  constructor
  · intro h; rw [h1]; exact Rat.mul_le_mul_of_nonneg_right h (Rat.le_of_lt hb)
  · intro h; rw [h1] at h; exact Rat.le_of_mul_le_mul_right h hb
theorem own_le_div {a b w : Rat} (hb : 0 < b) : w ≤ a / b ↔ w * b ≤ a := by
  have h1 : a = a / b * b := (Rat.div_mul_cancel (Rat.ne_of_gt hb)).symm
  constructor
  · intro h; rw [h1]; exact Rat.mul_le_mul_of_nonneg_right h (Rat.le_of_lt hb)
  · intro h; rw [h1] at h; exact Rat.le_of_mul_le_mul_right h hb
theorem own_mag_le {A B : Nat} {e : Int} {s t : Bool} {c : Nat} {q : Int} (hB : 0 < B) (hf : FP.Core.fits b64 (.fin t c q)) (h : (A : Rat) / (B : Rat) * 2 ^ e ≤ (c : Rat) * 2 ^ q) : zmag b64 (roundRatio b64 s A B e) ≤ zmag b64 (.fin t c q) := by
  obtain ⟨u1, u2⟩ := own_units (A := A) (B := B) (e := e) hf (min e b64.qmin) (by omega) (by omega)
  refine zmag_roundRatio_le good_b64 hB hf Datum.noConfusion (e0 := min e b64.qmin) (by omega) (by omega) (Rat.natCast_le_natCast.mp ?_)
  rw [u1, u2]
  refine Rat.mul_le_mul_of_nonneg_right ?_ (Rat.le_of_lt (own_p_pos _))
  have hb := own_nat_pos hB
  have h2 := Rat.mul_le_mul_of_nonneg_right h (Rat.le_of_lt hb)
  have h3 : (A : Rat) / (B : Rat) * 2 ^ e * (B : Rat) = (A : Rat) * 2 ^ e := by
    rw [Rat.mul_assoc, Rat.mul_comm ((2 : Rat) ^ e), ← Rat.mul_assoc, Rat.div_mul_cancel (own_nat_ne hB)]
  rw [h3] at h2
  exact h2
theorem own_mag_ge {A B : Nat} {e : Int} {s t : Bool} {c : Nat} {q : Int} (hB : 0 < B) (hf : FP.Core.fits b64 (.fin t c q)) (h : (c : Rat) * 2 ^ q ≤ (A : Rat) / (B : Rat) * 2 ^ e) : zmag b64 (.fin t c q) ≤ zmag b64 (roundRatio b64 s A B e) := by
  obtain ⟨u1, u2⟩ := own_units (A := A) (B := B) (e := e) hf (min e b64.qmin) (by omega) (by omega)
  refine zmag_roundRatio_ge good_b64 hB hf (e0 := min e b64.qmin) (by omega) (by omega) (Rat.natCast_le_natCast.mp ?_)
  rw [u1, u2]
  refine Rat.mul_le_mul_of_nonneg_right ?_ (Rat.le_of_lt (own_p_pos _))
  have hb := own_nat_pos hB
  have h2 := Rat.mul_le_mul_of_nonneg_right h (Rat.le_of_lt hb)
  have h3 : (A : Rat) / (B : Rat) * 2 ^ e * (B : Rat) = (A : Rat) * 2 ^ e := by
    rw [Rat.mul_assoc, Rat.mul_comm ((2 : Rat) ^ e), ← Rat.mul_assoc, Rat.div_mul_cancel (own_nat_ne hB)]
  rw [h3] at h2
  exact h2
theorem own_signed_ratio (s : Bool) (A B : Nat) (e : Int) : ((signed s A : Int) : Rat) / ((B : Nat) : Rat) * (2 : Rat) ^ e = if s then -((A : Rat) / (B : Rat) * 2 ^ e) else (A : Rat) / (B : Rat) * 2 ^ e := by
  cases s
  · rfl
  · show ((-(A : Int) : Int) : Rat) / _ * _ = _
    rw [Rat.intCast_neg, Rat.div_def, Rat.neg_mul, Rat.neg_mul]; rfl
theorem own_signed_pow (s : Bool) (c : Nat) (q : Int) : ((signed s c : Int) : Rat) * (2 : Rat) ^ q = if s then -((c : Rat) * 2 ^ q) else (c : Rat) * 2 ^ q := by
  cases s
  · rfl
  · show ((-(c : Int) : Int) : Rat) * _ = _
    rw [Rat.intCast_neg, Rat.neg_mul]; rfl
theorem own_ratio_nonneg (A B : Nat) (e : Int) : 0 ≤ (A : Rat) / (B : Rat) * 2 ^ e := by
  refine Rat.mul_nonneg ?_ (Rat.le_of_lt (own_p_pos e))
  rcases Nat.eq_zero_or_pos B with rfl | hB
  · rw [Rat.div_def]; exact Rat.mul_nonneg Rat.natCast_nonneg (by rw [show ((0 : Nat) : Rat) = 0 from rfl, Rat.inv_zero]; exact Rat.le_refl)
  · rw [own_le_div (own_nat_pos hB), Rat.zero_mul]; exact Rat.natCast_nonneg
theorem own_rd_le {x V : UInt64} {r y : Rat} (h : own_rd x r) (hV : own_is V y) (hle : r ≤ y) : zval b64 (val64 x) ≤ zval b64 (val64 V) := by
  obtain ⟨s, A, B, e, hB, hv, hr⟩ := h
  obtain ⟨t, c, q, hVv, hy⟩ := hV
  have hf := val64_fits V
  rw [hVv] at hf
  rw [hv, hVv]
  have m1 := own_mag_le (A := A) (e := e) (s := s) hB hf
  have m2 := own_mag_ge (A := A) (e := e) (s := s) hB hf
  unfold zval
  rw [sgn_roundRatio]
  show _ ≤ signed t (zmag b64 (.fin t c q))
  rw [own_signed_ratio] at hr
  rw [own_signed_pow] at hy
  have p1 := own_ratio_nonneg A B e
  have p2 : 0 ≤ (c : Rat) * 2 ^ q := Rat.mul_nonneg Rat.natCast_nonneg (Rat.le_of_lt (own_p_pos q))
  have hz : (c : Rat) * 2 ^ q ≤ 0 → zmag b64 (.fin t c q) = 0 := by
    intro h0
    have h1 : (c : Rat) * 2 ^ q = 0 := Rat.le_antisymm h0 p2
    have h2 := own_zmag hf
    rw [h1, Rat.zero_mul] at h2
    exact Rat.natCast_eq_zero_iff.mp h2
  generalize (A : Rat) / (B : Rat) * 2 ^ e = ra at *
  generalize (c : Rat) * 2 ^ q = rc at *
  generalize zmag b64 (roundRatio b64 s A B e) = za at *
  generalize zmag b64 (.fin t c q) = zc at *
  cases s <;> cases t <;> simp only [signed, Bool.false_eq_true, if_true, if_false] at hr hy ⊢
  · have := m1 (by grind); omega
  · have := m1 (by grind); have := hz (by grind); omega
  · omega
  · have := m2 (by grind); omega
theorem own_rd_neg {x : UInt64} {r : Rat} (h : own_rd x r) : own_rd (FP.dneg x) (-r) := by
  obtain ⟨s, A, B, e, hB, hv, hr⟩ := h
  refine ⟨!s, A, B, e, hB, (FP.val64_dneg x).trans (by rw [hv, negate_roundRatio]), ?_⟩
  rw [hr, signed_not, Rat.intCast_neg, Rat.div_def, Rat.div_def, Rat.neg_mul, Rat.neg_mul]
theorem own_zval_neg (x : UInt64) : zval b64 (val64 (FP.dneg x)) = -zval b64 (val64 x) := by
  rw [show val64 (FP.dneg x) = negate (val64 x) from FP.val64_dneg x, zval_negate]
theorem own_rd_ge {x V : UInt64} {r y : Rat} (h : own_rd x r) (hV : own_is V y) (hle : y ≤ r) : zval b64 (val64 V) ≤ zval b64 (val64 x) := by
  have h1 := own_rd_le (own_rd_neg h) (own_neg hV) (Rat.neg_le_neg hle)
  rw [own_zval_neg, own_zval_neg] at h1
  omega
theorem own_big : own_is 9110782046170513408 ((2 : Rat) ^ (1000 : Int)) := ⟨false, 2 ^ 52, 948, by decide +kernel, by
  show _ = (((2 ^ 52 : Nat) : Rat)) * _
  rw [own_p_nat, ← own_p_add]; rfl⟩
theorem own_rd_fin {x : UInt64} {r : Rat} (h : own_rd x r) (h1 : r ≤ (2 : Rat) ^ (1000 : Int)) (h2 : -((2 : Rat) ^ (1000 : Int)) ≤ r) : ∃ v, own_is x v := by
  have l1 := own_rd_le h own_big h1
  have l2 := own_rd_ge h (own_neg own_big) h2
  rw [own_zval_neg] at l2
  obtain ⟨s, A, B, e, hB, hv, hr⟩ := h
  rcases roundRatio_cases b64 s A B e with ⟨c, q, hc⟩ | hc
  · exact ⟨_, s, c, q, hv.trans hc, rfl⟩
  · rw [hv, hc] at l1 l2
    cases s
    · exact absurd l1 (by decide +kernel)
    · exact absurd l2 (by decide +kernel)
theorem own_rd_le' {x V : UInt64} {r v y : Rat} (h : own_rd x r) (hx : own_is x v) (hV : own_is V y) (hle : r ≤ y) : v ≤ y := by
  have h1 := own_rd_le h hV hle
  refine Rat.not_lt.mp fun h2 => ?_
  have h3 := (dcmp_lt.mp ((own_is_lt hV hx).mpr h2)).2.2
  omega
theorem own_rd_ge' {x V : UInt64} {r v y : Rat} (h : own_rd x r) (hx : own_is x v) (hV : own_is V y) (hle : y ≤ r) : y ≤ v := by
  have h1 := own_rd_ge h hV hle
  refine Rat.not_lt.mp fun h2 => ?_
  have h3 := (dcmp_lt.mp ((own_is_lt hx hV).mpr h2)).2.2
  omega
/-- every rational of 53 digits is a double -/
theorem own_rep {m k : Int} (hm : m.natAbs < 2 ^ 53) (hk : -1074 ≤ k) (hk2 : k ≤ 971) : ∃ V, own_is V ((m : Rat) * (2 : Rat) ^ k) := by
  have hf : FP.Core.fits b64 (roundRatio b64 (decide (m < 0)) m.natAbs 1 k) := roundRatio_fits good_b64 _ _ (by decide) _
  refine ⟨of64 (roundRatio b64 (decide (m < 0)) m.natAbs 1 k), own_rd_exact ⟨decide (m < 0), m.natAbs, 1, k, by decide, val64_of64 hf, ?_⟩ rfl hm hk hk2⟩
  rw [show (((1 : Nat) : Rat)) = 1 from rfl, Rat.div_def, own_inv1, Rat.mul_one]
  congr 2
  unfold signed
  by_cases hmn : m < 0 <;> simp [hmn] <;> omega
end OwnNum3
section OwnNum4
open Jvm.FP.Core Jvm.Free.Fl
theorem own_two200 : (1606938044258990275541962092341162602522202993782792835301376 : Rat) ≤ (2 : Rat) ^ (1000 : Int) := by decide +kernel
theorem own_rd_finN {x : UInt64} {r : Rat} (h : own_rd x r) (h1 : r ≤ 1606938044258990275541962092341162602522202993782792835301376) (h2 : -1606938044258990275541962092341162602522202993782792835301376 ≤ r) : ∃ v, own_is x v :=
  own_rd_fin h (Rat.le_trans h1 own_two200) (Rat.le_trans (Rat.neg_le_neg own_two200) h2)
theorem own_zero : own_is 0 0 := ⟨false, 0, -1074, by decide +kernel, by decide +kernel⟩
theorem own_one : own_is 4607182418800017408 1 := ⟨false, 2 ^ 52, -52, by decide +kernel, by decide +kernel⟩
theorem own_rep' {m k : Int} {r : Rat} (hr : r = (m : Rat) * (2 : Rat) ^ k) (hm : m.natAbs < 2 ^ 53) (hk : -1074 ≤ k) (hk2 : k ≤ 971) : ∃ V, own_is V r := by rw [hr]; exact own_rep hm hk hk2
theorem own_cmpv {x y : UInt64} {a b : Rat} (hx : own_is x a) (hy : own_is y b) (o : ClassFile.CmpOp) : Op.cmpValue (FP.dcmp x y) o = if a < b then -1 else if a = b then 0 else 1 := by
  by_cases h1 : a < b
  · rw [(own_is_lt hx hy).mpr h1, if_pos h1]; rfl
  · by_cases h2 : a = b
    · rw [(own_is_eq hx hy).mpr h2, if_neg h1, if_pos h2]; rfl
    · have h3 : b < a := by grind
      rw [(own_is_gt hx hy).mpr h3, if_neg h1, if_neg h2]; rfl
theorem own_c_lt {x y : UInt64} {a b : Rat} (hx : own_is x a) (hy : own_is y b) (o : ClassFile.CmpOp) : Op.ifCond.holds .lt (Op.cmpValue (FP.dcmp x y) o) = decide (a < b) := by
  rw [own_cmpv hx hy]; by_cases h1 : a < b <;> by_cases h2 : a = b <;> simp [h1, h2, Op.ifCond.holds]
theorem own_c_ge {x y : UInt64} {a b : Rat} (hx : own_is x a) (hy : own_is y b) (o : ClassFile.CmpOp) : Op.ifCond.holds .ge (Op.cmpValue (FP.dcmp x y) o) = decide (b ≤ a) := by
  rw [own_cmpv hx hy]
  by_cases h1 : a < b
  · simp [h1, Rat.not_le.mpr h1, Op.ifCond.holds]
  · by_cases h2 : a = b <;> simp [h1, h2, Rat.not_lt.mp h1, Op.ifCond.holds, Rat.le_refl]
theorem own_c_gt {x y : UInt64} {a b : Rat} (hx : own_is x a) (hy : own_is y b) (o : ClassFile.CmpOp) : Op.ifCond.holds .gt (Op.cmpValue (FP.dcmp x y) o) = decide (b < a) := by
  rw [own_cmpv hx hy]
  by_cases h1 : a < b
  · have : ¬ b < a := by grind
    simp [h1, this, Op.ifCond.holds]
  · by_cases h2 : a = b
    · subst h2; simp [Rat.lt_irrefl, Op.ifCond.holds]
    · have : b < a := by grind
      simp [h1, h2, this, Op.ifCond.holds]
theorem own_c_le {x y : UInt64} {a b : Rat} (hx : own_is x a) (hy : own_is y b) (o : ClassFile.CmpOp) : Op.ifCond.holds .le (Op.cmpValue (FP.dcmp x y) o) = decide (a ≤ b) := by
  rw [own_cmpv hx hy]
  by_cases h1 : a < b
  · simp [h1, Rat.le_of_lt h1, Op.ifCond.holds]
  · by_cases h2 : a = b
    · subst h2; simp [Rat.lt_irrefl, Rat.le_refl, Op.ifCond.holds]
    · have : ¬ a ≤ b := by grind
      simp [h1, h2, this, Op.ifCond.holds]
theorem own_c_eq {x y : UInt64} {a b : Rat} (hx : own_is x a) (hy : own_is y b) (o : ClassFile.CmpOp) : Op.ifCond.holds .eq (Op.cmpValue (FP.dcmp x y) o) = decide (a = b) := by
  rw [own_cmpv hx hy]
  by_cases h1 : a < b
  · have : ¬ a = b := by grind
    simp [h1, this, Op.ifCond.holds]
  · by_cases h2 : a = b <;> simp [h1, h2, Op.ifCond.holds]
theorem own_c_ne {x y : UInt64} {a b : Rat} (hx : own_is x a) (hy : own_is y b) (o : ClassFile.CmpOp) : Op.ifCond.holds .ne (Op.cmpValue (FP.dcmp x y) o) = decide (a ≠ b) := by
  rw [own_cmpv hx hy]
  by_cases h1 : a < b
  · have : ¬ a = b := by grind
    simp [h1, this, Op.ifCond.holds]
  · by_cases h2 : a = b <;> simp [h1, h2, Op.ifCond.holds]
/-- ints by their values -/
theorem own_i_lt (x y : Int32) : Op.if_icmp.holds .lt x y = decide (x.toInt < y.toInt) := by simp only [Op.if_icmp.holds, Int32.lt_iff_toInt_lt]
theorem own_i_gt (x y : Int32) : Op.if_icmp.holds .gt x y = decide (y.toInt < x.toInt) := by simp only [Op.if_icmp.holds, GT.gt, Int32.lt_iff_toInt_lt]
theorem own_i_le (x y : Int32) : Op.if_icmp.holds .le x y = decide (x.toInt ≤ y.toInt) := by simp only [Op.if_icmp.holds, Int32.le_iff_toInt_le]
theorem own_i_ge (x y : Int32) : Op.if_icmp.holds .ge x y = decide (y.toInt ≤ x.toInt) := by simp only [Op.if_icmp.holds, GE.ge, Int32.le_iff_toInt_le]
theorem own_i_eq (x y : Int32) : Op.if_icmp.holds .eq x y = decide (x = y) := by rw [Bool.eq_iff_iff]; simp [Op.if_icmp.holds]
theorem own_i_ne (x y : Int32) : Op.if_icmp.holds .ne x y = decide (x ≠ y) := by rw [Bool.eq_iff_iff]; simp [Op.if_icmp.holds]
theorem own_z_lt (x : Int32) : Op.ifCond.holds .lt x = decide (x.toInt < 0) := by simp only [Op.ifCond.holds, Int32.lt_iff_toInt_lt]; rfl
theorem own_z_gt (x : Int32) : Op.ifCond.holds .gt x = decide (0 < x.toInt) := by simp only [Op.ifCond.holds, GT.gt, Int32.lt_iff_toInt_lt]; rfl
theorem own_z_le (x : Int32) : Op.ifCond.holds .le x = decide (x.toInt ≤ 0) := by simp only [Op.ifCond.holds, Int32.le_iff_toInt_le]; rfl
theorem own_z_ge (x : Int32) : Op.ifCond.holds .ge x = decide (0 ≤ x.toInt) := by simp only [Op.ifCond.holds, GE.ge, Int32.le_iff_toInt_le]; rfl
theorem own_z_eq (x : Int32) : Op.ifCond.holds .eq x = decide (x = 0) := by rw [Bool.eq_iff_iff]; simp [Op.ifCond.holds]
theorem own_z_ne (x : Int32) : Op.ifCond.holds .ne x = decide (x ≠ 0) := by rw [Bool.eq_iff_iff]; simp [Op.ifCond.holds]
theorem own_lc_lt (x y : Int64) : Op.ifCond.holds .lt (if x > y then (1 : Int32) else if x = y then 0 else -1) = decide (x.toInt < y.toInt) := by
  simp only [GT.gt, Int64.lt_iff_toInt_lt, ← Int64.toInt_inj]
  by_cases h1 : y.toInt < x.toInt
  · simp [h1, Op.ifCond.holds, show ¬ x.toInt < y.toInt by omega]
  · by_cases h2 : x.toInt = y.toInt
    · simp [h2, Op.ifCond.holds]
    · simp [h1, h2, Op.ifCond.holds, show x.toInt < y.toInt by omega]
theorem own_lc_ge (x y : Int64) : Op.ifCond.holds .ge (if x > y then (1 : Int32) else if x = y then 0 else -1) = decide (y.toInt ≤ x.toInt) := by
  simp only [GT.gt, Int64.lt_iff_toInt_lt, ← Int64.toInt_inj]
  by_cases h1 : y.toInt < x.toInt
  · simp [h1, Op.ifCond.holds, show y.toInt ≤ x.toInt by omega]
  · by_cases h2 : x.toInt = y.toInt
    · simp [h2, Op.ifCond.holds]
    · simp [h1, h2, Op.ifCond.holds, show ¬ y.toInt ≤ x.toInt by omega]
theorem own_lc_gt (x y : Int64) : Op.ifCond.holds .gt (if x > y then (1 : Int32) else if x = y then 0 else -1) = decide (y.toInt < x.toInt) := by
  simp only [GT.gt, Int64.lt_iff_toInt_lt, ← Int64.toInt_inj]
  by_cases h1 : y.toInt < x.toInt
  · simp [h1, Op.ifCond.holds]
  · by_cases h2 : x.toInt = y.toInt
    · simp [h2, Op.ifCond.holds]
    · simp [h1, h2, Op.ifCond.holds]
theorem own_lc_le (x y : Int64) : Op.ifCond.holds .le (if x > y then (1 : Int32) else if x = y then 0 else -1) = decide (x.toInt ≤ y.toInt) := by
  simp only [GT.gt, Int64.lt_iff_toInt_lt, ← Int64.toInt_inj]
  by_cases h1 : y.toInt < x.toInt
  · simp [h1, Op.ifCond.holds, show ¬ x.toInt ≤ y.toInt by omega]
  · by_cases h2 : x.toInt = y.toInt
    · simp [h2, Op.ifCond.holds]
    · simp [h1, h2, Op.ifCond.holds, show x.toInt ≤ y.toInt by omega]
theorem own_lc_eq (x y : Int64) : Op.ifCond.holds .eq (if x > y then (1 : Int32) else if x = y then 0 else -1) = decide (x.toInt = y.toInt) := by
  simp only [GT.gt, Int64.lt_iff_toInt_lt, ← Int64.toInt_inj]
  by_cases h1 : y.toInt < x.toInt
  · simp [h1, Op.ifCond.holds, show ¬ x.toInt = y.toInt by omega]
  · by_cases h2 : x.toInt = y.toInt
    · simp [h2, Op.ifCond.holds]
    · simp [h1, h2, Op.ifCond.holds]
theorem own_lc_ne (x y : Int64) : Op.ifCond.holds .ne (if x > y then (1 : Int32) else if x = y then 0 else -1) = decide (x.toInt ≠ y.toInt) := by
  simp only [GT.gt, Int64.lt_iff_toInt_lt, ← Int64.toInt_inj]
  by_cases h1 : y.toInt < x.toInt
  · simp [h1, Op.ifCond.holds, show ¬ x.toInt = y.toInt by omega]
  · by_cases h2 : x.toInt = y.toInt
    · simp [h2, Op.ifCond.holds]
    · simp [h1, h2, Op.ifCond.holds]
end OwnNum4
section OwnNum5
open Jvm.FP.Core Jvm.Free.Fl
/-- no number of 53 digits is nearer than the rounded one -/
theorem own_near {s : Bool} {A B : Nat} {e : Int} {c : Nat} {q : Int} (hB : 0 < B) (hR : roundRatio b64 s A B e = .fin s c q) {c' : Nat} {q' : Int} (hc' : c' < 2 ^ 53) (hq' : -1074 ≤ q') {D : Rat}
    (h1 : (c' : Rat) * 2 ^ q' - (A : Rat) / (B : Rat) * 2 ^ e ≤ D) (h2 : (A : Rat) / (B : Rat) * 2 ^ e - (c' : Rat) * 2 ^ q' ≤ D) :
    (c : Rat) * 2 ^ q - (A : Rat) / (B : Rat) * 2 ^ e ≤ D ∧ (A : Rat) / (B : Rat) * 2 ^ e - (c : Rat) * 2 ^ q ≤ D := by
  have hfit : FP.Core.fits b64 (.fin s c q) := hR ▸ roundRatio_fits good_b64 s A hB e
  have hqm : (-1074 : Int) ≤ q := by have := hfit.2.1; rw [qmin_b64] at this; exact this
  obtain ⟨e0, he0, he1⟩ : ∃ e0 : Int, e0 ≤ -1074 ∧ e0 ≤ e := ⟨min e (-1074), by omega, by omega⟩
  have hd := roundRatio_nearest good_b64 hB hR hc' (by rw [qmin_b64]; exact hq') (e0 := e0) (by rw [qmin_b64]; exact he0) he1
  unfold distance at hd
  have hb := own_nat_pos hB
  have hp := own_p_pos (-e0)
  have cU : ∀ (n : Nat) (j : Int), e0 ≤ j → ((inUnits n j e0 : Nat) : Rat) = (n : Rat) * 2 ^ j * 2 ^ (-e0) := by
    intro n j hj
    unfold inUnits
    rw [Rat.natCast_mul, own_p_toNat (by omega), show j - e0 = j + -e0 by omega, own_p_add, Rat.mul_assoc]
  have uA := cU A e he1
  have uc := cU c q (by omega)
  have uc' := cU c' q' (by omega)
  have hA : (A : Rat) / (B : Rat) * 2 ^ e * (B : Rat) = (A : Rat) * 2 ^ e := by
    rw [Rat.mul_assoc, Rat.mul_comm ((2 : Rat) ^ e), ← Rat.mul_assoc, Rat.div_mul_cancel (own_nat_ne hB)]
  generalize (A : Rat) / (B : Rat) * 2 ^ e = a at *
  generalize hx : ((inUnits A e e0 : Nat) : Int) - ((inUnits c q e0 : Nat) : Int) * (B : Int) = x at hd
  generalize hy : ((inUnits A e e0 : Nat) : Int) - ((inUnits c' q' e0 : Nat) : Int) * (B : Int) = y at hd
  have ex : (x : Rat) = (a - (c : Rat) * 2 ^ q) * ((B : Rat) * 2 ^ (-e0)) := by
    rw [← hx, Rat.intCast_sub, Rat.intCast_mul, Rat.intCast_natCast, Rat.intCast_natCast, Rat.intCast_natCast, uA, uc, ← hA]
    grind
  have ey : (y : Rat) = (a - (c' : Rat) * 2 ^ q') * ((B : Rat) * 2 ^ (-e0)) := by
    rw [← hy, Rat.intCast_sub, Rat.intCast_mul, Rat.intCast_natCast, Rat.intCast_natCast, Rat.intCast_natCast, uA, uc', ← hA]
    grind
  have hK : (0 : Rat) < (B : Rat) * 2 ^ (-e0) := Rat.mul_pos hb hp
  generalize (B : Rat) * 2 ^ (-e0) = K at *
  generalize (c : Rat) * 2 ^ q = u at *
  generalize (c' : Rat) * 2 ^ q' = w at *
  have yD1 : (y : Rat) ≤ D * K := by rw [ey]; exact Rat.mul_le_mul_of_nonneg_right h2 (Rat.le_of_lt hK)
  have yD2 : -(y : Rat) ≤ D * K := by
    rw [ey]
    have := Rat.mul_le_mul_of_nonneg_right h1 (Rat.le_of_lt hK)
    grind
  have k1 : (x ≤ y ∨ x ≤ -y) ∧ (-x ≤ y ∨ -x ≤ -y) := by omega
  have x1 : (x : Rat) ≤ D * K := by
    rcases k1.1 with k | k
    · exact Rat.le_trans (Rat.intCast_le_intCast.mpr k) yD1
    · have := Rat.intCast_le_intCast.mpr k
      rw [Rat.intCast_neg] at this
      exact Rat.le_trans this yD2
  have x2 : -(x : Rat) ≤ D * K := by
    rw [← Rat.intCast_neg]
    rcases k1.2 with k | k
    · exact Rat.le_trans (Rat.intCast_le_intCast.mpr k) yD1
    · have := Rat.intCast_le_intCast.mpr k
      rw [Rat.intCast_neg y] at this
      exact Rat.le_trans this yD2
  rw [ex] at x1 x2
  constructor
  · refine Rat.le_of_mul_le_mul_right ?_ hK
    grind
  · refine Rat.le_of_mul_le_mul_right ?_ hK
    exact x1
theorem own_grid {a : Rat} {k : Int} (h0 : 0 ≤ a) (hk : a ≤ (2 : Rat) ^ k) : ∃ n : Nat, n ≤ 2 ^ 53 ∧ (n : Rat) * 2 ^ (k - 53) - a ≤ 2 ^ (k - 54) ∧ a - (n : Rat) * 2 ^ (k - 53) ≤ 2 ^ (k - 54) := by
  have hu := own_p_pos (k - 53)
  have e1 : (2 : Rat) ^ k = 2 ^ (k - 53) * 9007199254740992 := by
    rw [show (9007199254740992 : Rat) = (2 : Rat) ^ (53 : Int) by decide +kernel, ← own_p_add]; congr 1; omega
  have e2 : (2 : Rat) ^ (k - 53) = 2 ^ (k - 54) * 2 := by
    have := own_p_add (k - 54) 1
    rw [Rat.zpow_one, show k - 54 + 1 = k - 53 by omega] at this
    exact this
  have hv := own_p_pos (k - 54)
  rw [e1] at hk
  generalize (2 : Rat) ^ (k - 54) = g at *
  generalize (2 : Rat) ^ (k - 53) = u at *
  obtain ⟨f, hf⟩ : ∃ f : Int, f = (a / u + 1 / 2).floor := ⟨_, rfl⟩
  have f1 : (f : Rat) ≤ a / u + 1 / 2 := by rw [hf]; exact Rat.floor_le _
  have f2 : a / u + 1 / 2 < ((f + 1 : Int) : Rat) := by rw [hf]; exact Rat.lt_floor_add_one _
  rw [Rat.intCast_add, show ((1 : Int) : Rat) = 1 from rfl] at f2
  have ha : a = a / u * u := (Rat.div_mul_cancel (Rat.ne_of_gt hu)).symm
  have hb1 : a / u ≤ 9007199254740992 := by rw [own_div_le hu]; grind
  have hb0 : 0 ≤ a / u := by rw [own_le_div hu]; grind
  generalize a / u = t at *
  have n0 : 0 ≤ f := by
    refine Int.not_lt.mp fun q => ?_
    have : (f : Rat) ≤ -1 := (show ((f : Int) : Rat) ≤ ((-1 : Int) : Rat) from Rat.intCast_le_intCast.mpr (by omega))
    grind
  have n1 : f ≤ 9007199254740992 := by
    refine Int.not_lt.mp fun q => ?_
    have : (9007199254740993 : Rat) ≤ (f : Rat) := (show ((9007199254740993 : Int) : Rat) ≤ ((f : Int) : Rat) from Rat.intCast_le_intCast.mpr (by omega))
    grind
  refine ⟨f.toNat, by omega, ?_⟩
  have ec : ((f.toNat : Nat) : Rat) = (f : Rat) := by rw [← Rat.intCast_natCast, Int.toNat_of_nonneg n0]
  rw [ec, ha]
  have m1 : ((f : Rat) - t) * u ≤ (1 / 2) * u := Rat.mul_le_mul_of_nonneg_right (by grind) (Rat.le_of_lt hu)
  have m2 : (t - (f : Rat)) * u ≤ (1 / 2) * u := Rat.mul_le_mul_of_nonneg_right (by grind) (Rat.le_of_lt hu)
  constructor <;> grind
theorem own_err0 {s : Bool} {A B : Nat} {e : Int} {c : Nat} {q : Int} (hB : 0 < B) (hR : roundRatio b64 s A B e = .fin s c q) {k : Int} (hk1 : -1000 ≤ k) (hle : (A : Rat) / (B : Rat) * 2 ^ e ≤ 2 ^ k) :
    (c : Rat) * 2 ^ q - (A : Rat) / (B : Rat) * 2 ^ e ≤ 2 ^ (k - 54) ∧ (A : Rat) / (B : Rat) * 2 ^ e - (c : Rat) * 2 ^ q ≤ 2 ^ (k - 54) := by
  obtain ⟨n, hn, h1, h2⟩ := own_grid (own_ratio_nonneg A B e) hle
  rcases Nat.lt_or_eq_of_le hn with hlt | heq
  · exact own_near hB hR (c' := n) (q' := k - 53) hlt (by omega) h1 h2
  · subst heq
    have e3 : ((2 ^ 53 : Nat) : Rat) * 2 ^ (k - 53) = ((2 ^ 52 : Nat) : Rat) * 2 ^ (k - 52) := by
      rw [own_p_nat, own_p_nat, ← own_p_add, ← own_p_add]; congr 1
      show (53 : Int) + (k - 53) = 52 + (k - 52); omega
    rw [e3] at h1 h2
    exact own_near hB hR (c' := 2 ^ 52) (q' := k - 52) (by decide) (by omega) h1 h2
theorem own_p_mono {a b : Int} (h : a ≤ b) : (2 : Rat) ^ a ≤ 2 ^ b := by
  have e : (2 : Rat) ^ b = 2 ^ a * 2 ^ (b - a) := by rw [← own_p_add]; congr 1; omega
  have h1 : (1 : Rat) ≤ 2 ^ (b - a) := by
    rw [← own_p_toNat (by omega)]
    exact (show ((1 : Nat) : Rat) ≤ _ from Rat.natCast_le_natCast.mpr (Nat.one_le_two_pow))
  rw [e]
  have := Rat.mul_le_mul_of_nonneg_left h1 (Rat.le_of_lt (own_p_pos a))
  grind
/-- the error of a rounding, by a bound of what is rounded -/
theorem own_rd_err {x : UInt64} {r : Rat} (h : own_rd x r) {k : Int} (hk1 : -1000 ≤ k) (hk2 : k ≤ 1000) (h1 : r ≤ (2 : Rat) ^ k) (h2 : -((2 : Rat) ^ k) ≤ r) : ∃ v, own_is x v ∧ v - r ≤ 2 ^ (k - 54) ∧ r - v ≤ 2 ^ (k - 54) := by
  have hm := own_p_mono hk2
  obtain ⟨v, hv⟩ := own_rd_fin h (Rat.le_trans h1 hm) (Rat.le_trans (Rat.neg_le_neg hm) h2)
  refine ⟨v, hv, ?_⟩
  obtain ⟨s, A, B, e, hB, hx, hr⟩ := h
  obtain ⟨s', c, q, hx', hv'⟩ := hv
  rcases roundRatio_cases b64 s A B e with ⟨c2, q2, hc⟩ | hc
  · rw [hx, hc] at hx'
    cases hx'
    rw [own_signed_ratio] at hr
    rw [own_signed_pow] at hv'
    have hle : (A : Rat) / (B : Rat) * 2 ^ e ≤ 2 ^ k := by
      cases s
      · rw [if_neg (by decide)] at hr; rw [← hr]; exact h1
      · rw [if_pos rfl] at hr
        have : (A : Rat) / (B : Rat) * 2 ^ e = -r := by rw [hr, Rat.neg_neg]
        rw [this]; grind
    obtain ⟨g1, g2⟩ := own_err0 hB hc hk1 hle
    cases s
    · rw [if_neg (by decide)] at hr hv'; rw [hr, hv']; exact ⟨g1, g2⟩
    · rw [if_pos rfl] at hr hv'; rw [hr, hv']; constructor <;> grind
  · rw [hx, hc] at hx'; cases hx'
/-- a double that is a whole number, as the library says it -/
theorem own_whole {x : UInt64} {i : Int} (h : own_is x (i : Rat)) : DInt i x := by
  obtain ⟨s, c, q, hx, hr⟩ := h
  show Whole i (val64 x)
  rw [hx]
  show signed s (c * 2 ^ q.toNat) = i * ((2 ^ (-q).toNat : Nat) : Int)
  rw [← Rat.intCast_inj, own_signed_cast, Rat.intCast_mul, Rat.intCast_natCast]
  rcases Int.le_total 0 q with h0 | h0
  · rw [own_p_toNat h0, show (-q).toNat = 0 by omega, hr]
    rw [show ((2 ^ 0 : Nat) : Rat) = 1 from rfl, Rat.mul_one]
  · rw [own_p_toNat (a := -q) (by omega), show q.toNat = 0 by omega, hr, show ((2 ^ 0 : Nat) : Rat) = 1 from rfl, Rat.mul_one, Rat.mul_assoc, own_p_neg, Rat.mul_one]
theorem own_isd2l {x : UInt64} {a : Int64} (h : own_is x ((a.toInt : Int) : Rat)) : FP.d2l x = a := d2l_int (own_whole h)
/-- a whole number below 2^63, rounded: a whole number, at most 512 off -/
theorem own_rd_int {x : UInt64} {i : Int} (h : own_rd x (i : Rat)) (h1 : i ≤ 9223372036854775807) (h2 : -9223372036854775807 ≤ i) : ∃ j : Int, own_is x (j : Rat) ∧ j - i ≤ 512 ∧ i - j ≤ 512 := by
  rcases Nat.lt_or_ge i.natAbs (2 ^ 53) with hs | hs
  · exact ⟨i, own_rd_exact h (m := i) (k := 0) (by rw [Rat.zpow_zero, Rat.mul_one]) hs (by decide) (by decide), by omega, by omega⟩
  · have e63 : (2 : Rat) ^ (63 : Int) = 9223372036854775808 := by decide +kernel
    have e9 : (2 : Rat) ^ ((63 : Int) - 54) = 512 := by decide +kernel
    have i1 : ((i : Int) : Rat) ≤ 9223372036854775808 := (show ((i : Int) : Rat) ≤ ((9223372036854775808 : Int) : Rat) from Rat.intCast_le_intCast.mpr (by omega))
    have i2 : (-9223372036854775808 : Rat) ≤ ((i : Int) : Rat) := (show ((-9223372036854775808 : Int) : Rat) ≤ ((i : Int) : Rat) from Rat.intCast_le_intCast.mpr (by omega))
    obtain ⟨v, hv, g1, g2⟩ := own_rd_err h (k := 63) (by decide) (by decide) (by rw [e63]; exact i1) (by rw [e63]; exact i2)
    rw [e9] at g1 g2
    have hv0 := hv
    obtain ⟨s, c, q, hx, hr⟩ := hv0
    have hf := val64_fits x
    rw [hx] at hf
    have hc : c < 2 ^ 53 := hf.1
    obtain ⟨V, hV⟩ := own_rep' (r := 9007199254740992) (m := 1) (k := 53) (by decide +kernel) (by decide) (by decide) (by decide)
    have hq : 0 ≤ q := by
      refine Int.not_lt.mp fun q0 => ?_
      have c1 : (c : Rat) * 2 ^ q < 9007199254740992 := by
        have c2 : ((c : Nat) : Rat) < 9007199254740992 := (show ((c : Nat) : Rat) < ((9007199254740992 : Nat) : Rat) from Rat.natCast_lt_natCast.mpr hc)
        have c3 : (2 : Rat) ^ q ≤ 1 := by
          have := own_p_mono (show q ≤ 0 by omega)
          rw [Rat.zpow_zero] at this; exact this
        have c4 : (0 : Rat) ≤ ((c : Nat) : Rat) := Rat.natCast_nonneg
        have := Rat.mul_le_mul_of_nonneg_left c3 c4
        grind
      have cneg : (0 : Rat) ≤ (c : Rat) * 2 ^ q := Rat.mul_nonneg Rat.natCast_nonneg (Rat.le_of_lt (own_p_pos q))
      rw [own_signed_pow] at hr
      rcases Int.le_total 0 i with hi | hi
      · have : (9007199254740992 : Rat) ≤ ((i : Int) : Rat) := (show ((9007199254740992 : Int) : Rat) ≤ ((i : Int) : Rat) from Rat.intCast_le_intCast.mpr (by omega))
        have := own_rd_ge' h hv hV this
        cases s <;> simp only [Bool.false_eq_true, if_true, if_false] at hr <;> grind
      · have : ((i : Int) : Rat) ≤ -9007199254740992 := (show ((i : Int) : Rat) ≤ ((-9007199254740992 : Int) : Rat) from Rat.intCast_le_intCast.mpr (by omega))
        have := own_rd_le' h hv (own_neg hV) this
        cases s <;> simp only [Bool.false_eq_true, if_true, if_false] at hr <;> grind
    have hj : v = ((signed s (c * 2 ^ q.toNat) : Int) : Rat) := by rw [own_signed_cast, own_p_toNat hq]; exact hr
    refine ⟨signed s (c * 2 ^ q.toNat), hj ▸ hv, ?_, ?_⟩
    · rw [hj, ← Rat.intCast_sub] at g1
      exact Rat.intCast_le_intCast.mp (show _ ≤ ((512 : Int) : Rat) from g1)
    · rw [hj, ← Rat.intCast_sub] at g2
      exact Rat.intCast_le_intCast.mp (show _ ≤ ((512 : Int) : Rat) from g2)
theorem own_rd_small {x : UInt64} {i : Int} (h : own_rd x (i : Rat)) (hs : i.natAbs < 2 ^ 53) : own_is x (i : Rat) :=
  own_rd_exact h (m := i) (k := 0) (by rw [Rat.zpow_zero, Rat.mul_one]) hs (by decide) (by decide)
end OwnNum5
section OwnNum6
open Jvm.FP.Core Jvm.Free.Fl
/-- a rational that is a double -/
def own_Rep (r : Rat) : Prop := ∃ m k : Int, r = (m : Rat) * (2 : Rat) ^ k ∧ m.natAbs < 2 ^ 53 ∧ -1074 ≤ k ∧ k ≤ 971
theorem own_rd_rep {x : UInt64} {r : Rat} (h : own_rd x r) (hr : own_Rep r) : own_is x r := by
  obtain ⟨m, k, h1, h2, h3, h4⟩ := hr
  exact own_rd_exact h h1 h2 h3 h4
theorem own_rep_int {i : Int} (h : i.natAbs < 2 ^ 53) : own_Rep (i : Rat) := ⟨i, 0, by rw [Rat.zpow_zero, Rat.mul_one], h, by decide, by decide⟩
/-- in halves, quarters ..: j binary places -/
theorem own_rep_fix {r : Rat} (m : Int) (j : Nat) (hj : j ≤ 1000) (hr : r * ((2 ^ j : Nat) : Rat) = (m : Rat)) (hm : m.natAbs < 2 ^ 53) : own_Rep r := by
  refine ⟨m, -(j : Int), ?_, hm, by omega, by omega⟩
  rw [← hr, own_p_nat, Rat.mul_assoc, own_p_neg, Rat.mul_one]
theorem own_nb {x y : Int} {X Y : Nat} (hx : x.natAbs ≤ X) (hy : y.natAbs ≤ Y) : (x * y).natAbs ≤ X * Y := by rw [Int.natAbs_mul]; exact Nat.mul_le_mul hx hy
theorem own_rd_self {z x : UInt64} {r : Rat} (h : own_rd z r) (hx : own_is x r) (h1 : r ≤ 1606938044258990275541962092341162602522202993782792835301376) (h2 : -1606938044258990275541962092341162602522202993782792835301376 ≤ r) : own_is z r := by
  obtain ⟨v, hv⟩ := own_rd_finN h h1 h2
  have : v = r := Rat.le_antisymm (own_rd_le' h hv hx Rat.le_refl) (own_rd_ge' h hv hx Rat.le_refl)
  exact this ▸ hv
/-- two roundings of one rational are one number -/
theorem own_rd_same {z x : UInt64} {r a b : Rat} (h : own_rd z r) (h' : own_rd x r) (ha : own_is z a) (hb : own_is x b) : a = b := (own_is_eq ha hb).mp (own_rd_uniq h h')
theorem own_cle {a b : Int} (h : a ≤ b) : ((a : Int) : Rat) ≤ ((b : Int) : Rat) := Rat.intCast_le_intCast.mpr h
end OwnNum6
open Jvm Jvm.ClassFile Sem Op Lib Jvm.Free Jvm.Stand Jvm.LawKit Jvm.RoadKit Bundle Jvm.Pilot.@@N@@.Jvm.D
/-! the walk layer: own_Go says that from one frame another one is reached, whatever the heap; one rule an instruction -/
section OwnWalk
open Jvm.Free Jvm.Free.Fl
def own_Ldc (tb : Tables) (e : Env) (below : List Frame) (T : State) (m : MethodId) (c : Code) (i : Nat) (v : Value) : Prop :=
  ∀ (g : JFrame) (target : State), g.method = m →
    ((∃ x, v = .int x) → decode c.code g.pc = .ok (.ldc i, 2) → Steps tb e below (T.setTop { g with pc := g.pc + 2, stack := v :: g.stack }) target → Steps tb e below (T.setTop g) target) ∧
    ((∃ x, v = .int x) → decode c.code g.pc = .ok (.ldc_w i, 3) → Steps tb e below (T.setTop { g with pc := g.pc + 3, stack := v :: g.stack }) target → Steps tb e below (T.setTop g) target) ∧
    (((∃ x, v = .long x) ∨ ∃ x, v = .double x) → decode c.code g.pc = .ok (.ldc2_w i, 3) → Steps tb e below (T.setTop { g with pc := g.pc + 3, stack := v :: g.stack }) target → Steps tb e below (T.setTop g) target)
def own_Go (P : List (Nat × Value)) (b : ByteArray) (pc : Nat) (L : Array Slot) (S : List Value) (pc' : Nat) (L' : Array Slot) (S' : List Value) : Prop :=
  ∀ (tb : Tables) [Ours tb] (e : Env) (below : List Frame) (T target : State) (m : MethodId) (c : Code), At T m c below → tb.exec = Jvm.exec → c.code = b →
    (∀ q ∈ P, own_Ldc tb e below T m c q.1 q.2) → Steps tb e below (T.setTop (mkF m pc' L' S')) target → Steps tb e below (T.setTop (mkF m pc L S)) target
variable {P : List (Nat × Value)} {b : ByteArray} {pc pcE : Nat} {L L' LE : Array Slot} {S SE : List Value}
theorem own_refl : own_Go P b pc L S pc L S := fun tb _ e below T target m c h hx hy hP k => k
theorem own_trans {pcM : Nat} {LM : Array Slot} {SM : List Value} (r1 : own_Go P b pc L S pcM LM SM) (r2 : own_Go P b pcM LM SM pcE LE SE) : own_Go P b pc L S pcE LE SE :=
  fun tb _ e below T target m c h hx hy hP k => r1 tb e below T target m c h hx hy hP (r2 tb e below T target m c h hx hy hP k)
theorem own_at {pc2 : Nat} {L2 : Array Slot} {S2 : List Value} (h1 : pc = pc2) (h2 : L = L2) (h3 : S = S2) (r : own_Go P b pc L S pcE LE SE) : own_Go P b pc2 L2 S2 pcE LE SE := by subst h1 h2 h3; exact r
theorem own_end {pc2 : Nat} {L2 : Array Slot} {S2 : List Value} (h1 : pcE = pc2) (h2 : LE = L2) (h3 : SE = S2) (r : own_Go P b pc L S pcE LE SE) : own_Go P b pc L S pc2 L2 S2 := by subst h1 h2 h3; exact r
theorem own_iload {j : Nat} {v : Int32} {pc2 : Nat} (hd : decode b pc = .ok (.iload j, 2)) (hpc : pc + 2 = pc2) (hl : L[j]? = some (.val (.int v))) (r : own_Go P b pc2 L (.int v :: S) pcE LE SE) : own_Go P b pc L (S) pcE LE SE := by
  intro tb _ e below T target m c h hx hy hP k; subst hpc; exact XS.iload h hx rfl (hb hy hd) hl (r tb e below T target m c h hx hy hP k)
theorem own_iloadN {j : Fin 4} {v : Int32} {pc2 : Nat} (hd : decode b pc = .ok (.iload_n j, 1)) (hpc : pc + 1 = pc2) (hl : L[j.val]? = some (.val (.int v))) (r : own_Go P b pc2 L (.int v :: S) pcE LE SE) : own_Go P b pc L (S) pcE LE SE := by
  intro tb _ e below T target m c h hx hy hP k; subst hpc; exact XS.iloadN h hx rfl (hb hy hd) hl (r tb e below T target m c h hx hy hP k)
theorem own_istore {j : Nat} {v : Int32} {rest : List Value} {pc2 : Nat} (hd : decode b pc = .ok (.istore j, 2)) (hpc : pc + 2 = pc2) (hl : storeLocals L j (.int v) = some L') (r : own_Go P b pc2 L' (rest) pcE LE SE) : own_Go P b pc L (.int v :: rest) pcE LE SE := by
  intro tb _ e below T target m c h hx hy hP k; subst hpc; exact XS.istore h hx rfl (hb hy hd) rfl hl (r tb e below T target m c h hx hy hP k)
theorem own_istoreN {j : Fin 4} {v : Int32} {rest : List Value} {pc2 : Nat} (hd : decode b pc = .ok (.istore_n j, 1)) (hpc : pc + 1 = pc2) (hl : storeLocals L j.val (.int v) = some L') (r : own_Go P b pc2 L' (rest) pcE LE SE) : own_Go P b pc L (.int v :: rest) pcE LE SE := by
  intro tb _ e below T target m c h hx hy hP k; subst hpc; exact XS.istoreN h hx rfl (hb hy hd) rfl hl (r tb e below T target m c h hx hy hP k)
theorem own_lload {j : Nat} {v : Int64} {pc2 : Nat} (hd : decode b pc = .ok (.lload j, 2)) (hpc : pc + 2 = pc2) (hl : L[j]? = some (.val (.long v))) (r : own_Go P b pc2 L (.long v :: S) pcE LE SE) : own_Go P b pc L (S) pcE LE SE := by
  intro tb _ e below T target m c h hx hy hP k; subst hpc; exact XS.lload h hx rfl (hb hy hd) hl (r tb e below T target m c h hx hy hP k)
theorem own_lloadN {j : Fin 4} {v : Int64} {pc2 : Nat} (hd : decode b pc = .ok (.lload_n j, 1)) (hpc : pc + 1 = pc2) (hl : L[j.val]? = some (.val (.long v))) (r : own_Go P b pc2 L (.long v :: S) pcE LE SE) : own_Go P b pc L (S) pcE LE SE := by
  intro tb _ e below T target m c h hx hy hP k; subst hpc; exact XS.lloadN h hx rfl (hb hy hd) hl (r tb e below T target m c h hx hy hP k)
theorem own_lstore {j : Nat} {v : Int64} {rest : List Value} {pc2 : Nat} (hd : decode b pc = .ok (.lstore j, 2)) (hpc : pc + 2 = pc2) (hl : storeLocals L j (.long v) = some L') (r : own_Go P b pc2 L' (rest) pcE LE SE) : own_Go P b pc L (.long v :: rest) pcE LE SE := by
  intro tb _ e below T target m c h hx hy hP k; subst hpc; exact XS.lstore h hx rfl (hb hy hd) rfl hl (r tb e below T target m c h hx hy hP k)
theorem own_lstoreN {j : Fin 4} {v : Int64} {rest : List Value} {pc2 : Nat} (hd : decode b pc = .ok (.lstore_n j, 1)) (hpc : pc + 1 = pc2) (hl : storeLocals L j.val (.long v) = some L') (r : own_Go P b pc2 L' (rest) pcE LE SE) : own_Go P b pc L (.long v :: rest) pcE LE SE := by
  intro tb _ e below T target m c h hx hy hP k; subst hpc; exact XS.lstoreN h hx rfl (hb hy hd) rfl hl (r tb e below T target m c h hx hy hP k)
theorem own_dload {j : Nat} {v : UInt64} {pc2 : Nat} (hd : decode b pc = .ok (.dload j, 2)) (hpc : pc + 2 = pc2) (hl : L[j]? = some (.val (.double v))) (r : own_Go P b pc2 L (.double v :: S) pcE LE SE) : own_Go P b pc L (S) pcE LE SE := by
  intro tb _ e below T target m c h hx hy hP k; subst hpc; exact XS.dload h hx rfl (hb hy hd) hl (r tb e below T target m c h hx hy hP k)
theorem own_dloadN {j : Fin 4} {v : UInt64} {pc2 : Nat} (hd : decode b pc = .ok (.dload_n j, 1)) (hpc : pc + 1 = pc2) (hl : L[j.val]? = some (.val (.double v))) (r : own_Go P b pc2 L (.double v :: S) pcE LE SE) : own_Go P b pc L (S) pcE LE SE := by
  intro tb _ e below T target m c h hx hy hP k; subst hpc; exact XS.dloadN h hx rfl (hb hy hd) hl (r tb e below T target m c h hx hy hP k)
theorem own_dstore {j : Nat} {v : UInt64} {rest : List Value} {pc2 : Nat} (hd : decode b pc = .ok (.dstore j, 2)) (hpc : pc + 2 = pc2) (hl : storeLocals L j (.double v) = some L') (r : own_Go P b pc2 L' (rest) pcE LE SE) : own_Go P b pc L (.double v :: rest) pcE LE SE := by
  intro tb _ e below T target m c h hx hy hP k; subst hpc; exact XS.dstore h hx rfl (hb hy hd) rfl hl (r tb e below T target m c h hx hy hP k)
theorem own_dstoreN {j : Fin 4} {v : UInt64} {rest : List Value} {pc2 : Nat} (hd : decode b pc = .ok (.dstore_n j, 1)) (hpc : pc + 1 = pc2) (hl : storeLocals L j.val (.double v) = some L') (r : own_Go P b pc2 L' (rest) pcE LE SE) : own_Go P b pc L (.double v :: rest) pcE LE SE := by
  intro tb _ e below T target m c h hx hy hP k; subst hpc; exact XS.dstoreN h hx rfl (hb hy hd) rfl hl (r tb e below T target m c h hx hy hP k)
theorem own_aload {j : Nat} {v : Value} {pc2 : Nat} (hd : decode b pc = .ok (.aload j, 2)) (hpc : pc + 2 = pc2) (hl : L[j]? = some (.val v)) (hr : v.isRef = true) (r : own_Go P b pc2 L (v :: S) pcE LE SE) : own_Go P b pc L (S) pcE LE SE := by
  intro tb _ e below T target m c h hx hy hP k; subst hpc; exact XS.aload h hx rfl (hb hy hd) hl hr (r tb e below T target m c h hx hy hP k)
theorem own_aloadN {j : Fin 4} {v : Value} {pc2 : Nat} (hd : decode b pc = .ok (.aload_n j, 1)) (hpc : pc + 1 = pc2) (hl : L[j.val]? = some (.val v)) (hr : v.isRef = true) (r : own_Go P b pc2 L (v :: S) pcE LE SE) : own_Go P b pc L (S) pcE LE SE := by
  intro tb _ e below T target m c h hx hy hP k; subst hpc; exact XS.aloadN h hx rfl (hb hy hd) hl hr (r tb e below T target m c h hx hy hP k)
theorem own_astore {j : Nat} {v : Value} {rest : List Value} {pc2 : Nat} (hd : decode b pc = .ok (.astore j, 2)) (hpc : pc + 2 = pc2) (hr : v.isRef = true) (hl : storeLocals L j v = some L') (r : own_Go P b pc2 L' (rest) pcE LE SE) : own_Go P b pc L (v :: rest) pcE LE SE := by
  intro tb _ e below T target m c h hx hy hP k; subst hpc; exact XS.astore h hx rfl (hb hy hd) rfl hr hl (r tb e below T target m c h hx hy hP k)
theorem own_astoreN {j : Fin 4} {v : Value} {rest : List Value} {pc2 : Nat} (hd : decode b pc = .ok (.astore_n j, 1)) (hpc : pc + 1 = pc2) (hr : v.isRef = true) (hl : storeLocals L j.val v = some L') (r : own_Go P b pc2 L' (rest) pcE LE SE) : own_Go P b pc L (v :: rest) pcE LE SE := by
  intro tb _ e below T target m c h hx hy hP k; subst hpc; exact XS.astoreN h hx rfl (hb hy hd) rfl hr hl (r tb e below T target m c h hx hy hP k)
theorem own_iconst {i : Int} {v : Int32} {pc2 : Nat} (hd : decode b pc = .ok (.iconst i, 1)) (hpc : pc + 1 = pc2) (hv : Int32.ofInt i = v) (r : own_Go P b pc2 L (.int v :: S) pcE LE SE) : own_Go P b pc L (S) pcE LE SE := by
  intro tb _ e below T target m c h hx hy hP k; subst hpc; subst hv; exact XS.iconst h hx rfl (hb hy hd) (r tb e below T target m c h hx hy hP k)
theorem own_bipush {i : Int} {v : Int32} {pc2 : Nat} (hd : decode b pc = .ok (.bipush i, 2)) (hpc : pc + 2 = pc2) (hv : (Int8.ofInt i).toInt32 = v) (r : own_Go P b pc2 L (.int v :: S) pcE LE SE) : own_Go P b pc L (S) pcE LE SE := by
  intro tb _ e below T target m c h hx hy hP k; subst hpc; subst hv; exact XS.bipush h hx rfl (hb hy hd) (r tb e below T target m c h hx hy hP k)
theorem own_sipush {i : Int} {v : Int32} {pc2 : Nat} (hd : decode b pc = .ok (.sipush i, 3)) (hpc : pc + 3 = pc2) (hv : (Int16.ofInt i).toInt32 = v) (r : own_Go P b pc2 L (.int v :: S) pcE LE SE) : own_Go P b pc L (S) pcE LE SE := by
  intro tb _ e below T target m c h hx hy hP k; subst hpc; subst hv; exact XS.sipush h hx rfl (hb hy hd) (r tb e below T target m c h hx hy hP k)
theorem own_lconst {j : Fin 2} {v : Int64} {pc2 : Nat} (hd : decode b pc = .ok (.lconst j, 1)) (hpc : pc + 1 = pc2) (hv : Int64.ofNat j = v) (r : own_Go P b pc2 L (.long v :: S) pcE LE SE) : own_Go P b pc L (S) pcE LE SE := by
  intro tb _ e below T target m c h hx hy hP k; subst hpc; subst hv; exact XS.lconst h hx rfl (hb hy hd) (r tb e below T target m c h hx hy hP k)
theorem own_dconst0  {v : UInt64} {pc2 : Nat} (hd : decode b pc = .ok (.dconst 0, 1)) (hpc : pc + 1 = pc2) (hv : FP.dconst0 = v) (r : own_Go P b pc2 L (.double v :: S) pcE LE SE) : own_Go P b pc L (S) pcE LE SE := by
  intro tb _ e below T target m c h hx hy hP k; subst hpc; subst hv; exact XS.dconst0 h hx rfl (hb hy hd) rfl (r tb e below T target m c h hx hy hP k)
theorem own_dconst1  {v : UInt64} {pc2 : Nat} (hd : decode b pc = .ok (.dconst 1, 1)) (hpc : pc + 1 = pc2) (hv : FP.dconst1 = v) (r : own_Go P b pc2 L (.double v :: S) pcE LE SE) : own_Go P b pc L (S) pcE LE SE := by
  intro tb _ e below T target m c h hx hy hP k; subst hpc; subst hv; exact XS.dconst1 h hx rfl (hb hy hd) rfl (r tb e below T target m c h hx hy hP k)
theorem own_aconstNull  {pc2 : Nat} (hd : decode b pc = .ok (.aconst_null, 1)) (hpc : pc + 1 = pc2) (r : own_Go P b pc2 L (.null :: S) pcE LE SE) : own_Go P b pc L (S) pcE LE SE := by
  intro tb _ e below T target m c h hx hy hP k; subst hpc; exact XS.aconstNull h hx rfl (hb hy hd) (r tb e below T target m c h hx hy hP k)
theorem own_iadd {x y : Int32} {v : Int32} {rest : List Value} {pc2 : Nat} (hd : decode b pc = .ok (.iadd, 1)) (hpc : pc + 1 = pc2) (hv : x + y = v) (r : own_Go P b pc2 L (.int v :: rest) pcE LE SE) : own_Go P b pc L (.int y :: .int x :: rest) pcE LE SE := by
  intro tb _ e below T target m c h hx hy hP k; subst hpc; subst hv; exact XS.iadd h hx rfl (hb hy hd) rfl (r tb e below T target m c h hx hy hP k)
theorem own_isub {x y : Int32} {v : Int32} {rest : List Value} {pc2 : Nat} (hd : decode b pc = .ok (.isub, 1)) (hpc : pc + 1 = pc2) (hv : x - y = v) (r : own_Go P b pc2 L (.int v :: rest) pcE LE SE) : own_Go P b pc L (.int y :: .int x :: rest) pcE LE SE := by
  intro tb _ e below T target m c h hx hy hP k; subst hpc; subst hv; exact XS.isub h hx rfl (hb hy hd) rfl (r tb e below T target m c h hx hy hP k)
theorem own_imul {x y : Int32} {v : Int32} {rest : List Value} {pc2 : Nat} (hd : decode b pc = .ok (.imul, 1)) (hpc : pc + 1 = pc2) (hv : x * y = v) (r : own_Go P b pc2 L (.int v :: rest) pcE LE SE) : own_Go P b pc L (.int y :: .int x :: rest) pcE LE SE := by
  intro tb _ e below T target m c h hx hy hP k; subst hpc; subst hv; exact XS.imul h hx rfl (hb hy hd) rfl (r tb e below T target m c h hx hy hP k)
theorem own_iand {x y : Int32} {v : Int32} {rest : List Value} {pc2 : Nat} (hd : decode b pc = .ok (.iand, 1)) (hpc : pc + 1 = pc2) (hv : x &&& y = v) (r : own_Go P b pc2 L (.int v :: rest) pcE LE SE) : own_Go P b pc L (.int y :: .int x :: rest) pcE LE SE := by
  intro tb _ e below T target m c h hx hy hP k; subst hpc; subst hv; exact XS.iand h hx rfl (hb hy hd) rfl (r tb e below T target m c h hx hy hP k)
theorem own_ior {x y : Int32} {v : Int32} {rest : List Value} {pc2 : Nat} (hd : decode b pc = .ok (.ior, 1)) (hpc : pc + 1 = pc2) (hv : x ||| y = v) (r : own_Go P b pc2 L (.int v :: rest) pcE LE SE) : own_Go P b pc L (.int y :: .int x :: rest) pcE LE SE := by
  intro tb _ e below T target m c h hx hy hP k; subst hpc; subst hv; exact XS.ior h hx rfl (hb hy hd) rfl (r tb e below T target m c h hx hy hP k)
theorem own_ixor {x y : Int32} {v : Int32} {rest : List Value} {pc2 : Nat} (hd : decode b pc = .ok (.ixor, 1)) (hpc : pc + 1 = pc2) (hv : x ^^^ y = v) (r : own_Go P b pc2 L (.int v :: rest) pcE LE SE) : own_Go P b pc L (.int y :: .int x :: rest) pcE LE SE := by
  intro tb _ e below T target m c h hx hy hP k; subst hpc; subst hv; exact XS.ixor h hx rfl (hb hy hd) rfl (r tb e below T target m c h hx hy hP k)
theorem own_ishl {x y : Int32} {v : Int32} {rest : List Value} {pc2 : Nat} (hd : decode b pc = .ok (.ishl, 1)) (hpc : pc + 1 = pc2) (hv : x <<< (y &&& 31) = v) (r : own_Go P b pc2 L (.int v :: rest) pcE LE SE) : own_Go P b pc L (.int y :: .int x :: rest) pcE LE SE := by
  intro tb _ e below T target m c h hx hy hP k; subst hpc; subst hv; exact XS.ishl h hx rfl (hb hy hd) rfl (r tb e below T target m c h hx hy hP k)
theorem own_ishr {x y : Int32} {v : Int32} {rest : List Value} {pc2 : Nat} (hd : decode b pc = .ok (.ishr, 1)) (hpc : pc + 1 = pc2) (hv : x >>> (y &&& 31) = v) (r : own_Go P b pc2 L (.int v :: rest) pcE LE SE) : own_Go P b pc L (.int y :: .int x :: rest) pcE LE SE := by
  intro tb _ e below T target m c h hx hy hP k; subst hpc; subst hv; exact XS.ishr h hx rfl (hb hy hd) rfl (r tb e below T target m c h hx hy hP k)
theorem own_iushr {x y : Int32} {v : Int32} {rest : List Value} {pc2 : Nat} (hd : decode b pc = .ok (.iushr, 1)) (hpc : pc + 1 = pc2) (hv : (x.toUInt32 >>> (y &&& 31).toUInt32).toInt32 = v) (r : own_Go P b pc2 L (.int v :: rest) pcE LE SE) : own_Go P b pc L (.int y :: .int x :: rest) pcE LE SE := by
  intro tb _ e below T target m c h hx hy hP k; subst hpc; subst hv; exact XS.iushr h hx rfl (hb hy hd) rfl (r tb e below T target m c h hx hy hP k)
theorem own_idiv {x y : Int32} {v : Int32} {rest : List Value} {pc2 : Nat} (hd : decode b pc = .ok (.idiv, 1)) (hpc : pc + 1 = pc2) (hn : y ≠ 0) (hv : x / y = v) (r : own_Go P b pc2 L (.int v :: rest) pcE LE SE) : own_Go P b pc L (.int y :: .int x :: rest) pcE LE SE := by
  intro tb _ e below T target m c h hx hy hP k; subst hpc; subst hv; exact XS.idiv h hx rfl (hb hy hd) rfl hn (r tb e below T target m c h hx hy hP k)
theorem own_irem {x y : Int32} {v : Int32} {rest : List Value} {pc2 : Nat} (hd : decode b pc = .ok (.irem, 1)) (hpc : pc + 1 = pc2) (hn : y ≠ 0) (hv : x - (x / y) * y = v) (r : own_Go P b pc2 L (.int v :: rest) pcE LE SE) : own_Go P b pc L (.int y :: .int x :: rest) pcE LE SE := by
  intro tb _ e below T target m c h hx hy hP k; subst hpc; subst hv; exact XS.irem h hx rfl (hb hy hd) rfl hn (r tb e below T target m c h hx hy hP k)
theorem own_ladd {x y : Int64} {v : Int64} {rest : List Value} {pc2 : Nat} (hd : decode b pc = .ok (.ladd, 1)) (hpc : pc + 1 = pc2) (hv : x + y = v) (r : own_Go P b pc2 L (.long v :: rest) pcE LE SE) : own_Go P b pc L (.long y :: .long x :: rest) pcE LE SE := by
  intro tb _ e below T target m c h hx hy hP k; subst hpc; subst hv; exact XS.ladd h hx rfl (hb hy hd) rfl (r tb e below T target m c h hx hy hP k)
theorem own_lsub {x y : Int64} {v : Int64} {rest : List Value} {pc2 : Nat} (hd : decode b pc = .ok (.lsub, 1)) (hpc : pc + 1 = pc2) (hv : x - y = v) (r : own_Go P b pc2 L (.long v :: rest) pcE LE SE) : own_Go P b pc L (.long y :: .long x :: rest) pcE LE SE := by
  intro tb _ e below T target m c h hx hy hP k; subst hpc; subst hv; exact XS.lsub h hx rfl (hb hy hd) rfl (r tb e below T target m c h hx hy hP k)
theorem own_lmul {x y : Int64} {v : Int64} {rest : List Value} {pc2 : Nat} (hd : decode b pc = .ok (.lmul, 1)) (hpc : pc + 1 = pc2) (hv : x * y = v) (r : own_Go P b pc2 L (.long v :: rest) pcE LE SE) : own_Go P b pc L (.long y :: .long x :: rest) pcE LE SE := by
  intro tb _ e below T target m c h hx hy hP k; subst hpc; subst hv; exact XS.lmul h hx rfl (hb hy hd) rfl (r tb e below T target m c h hx hy hP k)
theorem own_land {x y : Int64} {v : Int64} {rest : List Value} {pc2 : Nat} (hd : decode b pc = .ok (.land, 1)) (hpc : pc + 1 = pc2) (hv : x &&& y = v) (r : own_Go P b pc2 L (.long v :: rest) pcE LE SE) : own_Go P b pc L (.long y :: .long x :: rest) pcE LE SE := by
  intro tb _ e below T target m c h hx hy hP k; subst hpc; subst hv; exact XS.land h hx rfl (hb hy hd) rfl (r tb e below T target m c h hx hy hP k)
theorem own_lor {x y : Int64} {v : Int64} {rest : List Value} {pc2 : Nat} (hd : decode b pc = .ok (.lor, 1)) (hpc : pc + 1 = pc2) (hv : x ||| y = v) (r : own_Go P b pc2 L (.long v :: rest) pcE LE SE) : own_Go P b pc L (.long y :: .long x :: rest) pcE LE SE := by
  intro tb _ e below T target m c h hx hy hP k; subst hpc; subst hv; exact XS.lor h hx rfl (hb hy hd) rfl (r tb e below T target m c h hx hy hP k)
theorem own_lxor {x y : Int64} {v : Int64} {rest : List Value} {pc2 : Nat} (hd : decode b pc = .ok (.lxor, 1)) (hpc : pc + 1 = pc2) (hv : x ^^^ y = v) (r : own_Go P b pc2 L (.long v :: rest) pcE LE SE) : own_Go P b pc L (.long y :: .long x :: rest) pcE LE SE := by
  intro tb _ e below T target m c h hx hy hP k; subst hpc; subst hv; exact XS.lxor h hx rfl (hb hy hd) rfl (r tb e below T target m c h hx hy hP k)
theorem own_ldiv {x y : Int64} {v : Int64} {rest : List Value} {pc2 : Nat} (hd : decode b pc = .ok (.ldiv, 1)) (hpc : pc + 1 = pc2) (hn : y ≠ 0) (hv : x / y = v) (r : own_Go P b pc2 L (.long v :: rest) pcE LE SE) : own_Go P b pc L (.long y :: .long x :: rest) pcE LE SE := by
  intro tb _ e below T target m c h hx hy hP k; subst hpc; subst hv; exact XS.ldiv h hx rfl (hb hy hd) rfl hn (r tb e below T target m c h hx hy hP k)
theorem own_lrem {x y : Int64} {v : Int64} {rest : List Value} {pc2 : Nat} (hd : decode b pc = .ok (.lrem, 1)) (hpc : pc + 1 = pc2) (hn : y ≠ 0) (hv : x - (x / y) * y = v) (r : own_Go P b pc2 L (.long v :: rest) pcE LE SE) : own_Go P b pc L (.long y :: .long x :: rest) pcE LE SE := by
  intro tb _ e below T target m c h hx hy hP k; subst hpc; subst hv; exact XS.lrem h hx rfl (hb hy hd) rfl hn (r tb e below T target m c h hx hy hP k)
theorem own_lshl {x : Int64} {y : Int32} {v : Int64} {rest : List Value} {pc2 : Nat} (hd : decode b pc = .ok (.lshl, 1)) (hpc : pc + 1 = pc2) (hv : x <<< (y &&& 0x3f).toInt64 = v) (r : own_Go P b pc2 L (.long v :: rest) pcE LE SE) : own_Go P b pc L (.int y :: .long x :: rest) pcE LE SE := by
  intro tb _ e below T target m c h hx hy hP k; subst hpc; subst hv; exact XS.lshl h hx rfl (hb hy hd) rfl (r tb e below T target m c h hx hy hP k)
theorem own_lshr {x : Int64} {y : Int32} {v : Int64} {rest : List Value} {pc2 : Nat} (hd : decode b pc = .ok (.lshr, 1)) (hpc : pc + 1 = pc2) (hv : x >>> (y &&& 0x3f).toInt64 = v) (r : own_Go P b pc2 L (.long v :: rest) pcE LE SE) : own_Go P b pc L (.int y :: .long x :: rest) pcE LE SE := by
  intro tb _ e below T target m c h hx hy hP k; subst hpc; subst hv; exact XS.lshr h hx rfl (hb hy hd) rfl (r tb e below T target m c h hx hy hP k)
theorem own_lushr {x : Int64} {y : Int32} {v : Int64} {rest : List Value} {pc2 : Nat} (hd : decode b pc = .ok (.lushr, 1)) (hpc : pc + 1 = pc2) (hv : (x.toUInt64 >>> (y &&& 0x3f).toInt64.toUInt64).toInt64 = v) (r : own_Go P b pc2 L (.long v :: rest) pcE LE SE) : own_Go P b pc L (.int y :: .long x :: rest) pcE LE SE := by
  intro tb _ e below T target m c h hx hy hP k; subst hpc; subst hv; exact XS.lushr h hx rfl (hb hy hd) rfl (r tb e below T target m c h hx hy hP k)
theorem own_lcmp {x y : Int64} {v : Int32} {rest : List Value} {pc2 : Nat} (hd : decode b pc = .ok (.lcmp, 1)) (hpc : pc + 1 = pc2) (hv : (if x > y then 1 else if x = y then 0 else -1) = v) (r : own_Go P b pc2 L (.int v :: rest) pcE LE SE) : own_Go P b pc L (.long y :: .long x :: rest) pcE LE SE := by
  intro tb _ e below T target m c h hx hy hP k; subst hpc; subst hv; exact XS.lcmp h hx rfl (hb hy hd) rfl (r tb e below T target m c h hx hy hP k)
theorem own_ineg {x : Int32} {v : Int32} {rest : List Value} {pc2 : Nat} (hd : decode b pc = .ok (.ineg, 1)) (hpc : pc + 1 = pc2) (hv : -x = v) (r : own_Go P b pc2 L (.int v :: rest) pcE LE SE) : own_Go P b pc L (.int x :: rest) pcE LE SE := by
  intro tb _ e below T target m c h hx hy hP k; subst hpc; subst hv; exact XS.ineg h hx rfl (hb hy hd) rfl (r tb e below T target m c h hx hy hP k)
theorem own_lneg {x : Int64} {v : Int64} {rest : List Value} {pc2 : Nat} (hd : decode b pc = .ok (.lneg, 1)) (hpc : pc + 1 = pc2) (hv : -x = v) (r : own_Go P b pc2 L (.long v :: rest) pcE LE SE) : own_Go P b pc L (.long x :: rest) pcE LE SE := by
  intro tb _ e below T target m c h hx hy hP k; subst hpc; subst hv; exact XS.lneg h hx rfl (hb hy hd) rfl (r tb e below T target m c h hx hy hP k)
theorem own_i2l {x : Int32} {v : Int64} {rest : List Value} {pc2 : Nat} (hd : decode b pc = .ok (.i2l, 1)) (hpc : pc + 1 = pc2) (hv : x.toInt64 = v) (r : own_Go P b pc2 L (.long v :: rest) pcE LE SE) : own_Go P b pc L (.int x :: rest) pcE LE SE := by
  intro tb _ e below T target m c h hx hy hP k; subst hpc; subst hv; exact XS.i2l h hx rfl (hb hy hd) rfl (r tb e below T target m c h hx hy hP k)
theorem own_l2i {x : Int64} {v : Int32} {rest : List Value} {pc2 : Nat} (hd : decode b pc = .ok (.l2i, 1)) (hpc : pc + 1 = pc2) (hv : x.toInt32 = v) (r : own_Go P b pc2 L (.int v :: rest) pcE LE SE) : own_Go P b pc L (.long x :: rest) pcE LE SE := by
  intro tb _ e below T target m c h hx hy hP k; subst hpc; subst hv; exact XS.l2i h hx rfl (hb hy hd) rfl (r tb e below T target m c h hx hy hP k)
theorem own_i2b {x : Int32} {v : Int32} {rest : List Value} {pc2 : Nat} (hd : decode b pc = .ok (.i2b, 1)) (hpc : pc + 1 = pc2) (hv : x.toInt8.toInt32 = v) (r : own_Go P b pc2 L (.int v :: rest) pcE LE SE) : own_Go P b pc L (.int x :: rest) pcE LE SE := by
  intro tb _ e below T target m c h hx hy hP k; subst hpc; subst hv; exact XS.i2b h hx rfl (hb hy hd) rfl (r tb e below T target m c h hx hy hP k)
theorem own_i2c {x : Int32} {v : Int32} {rest : List Value} {pc2 : Nat} (hd : decode b pc = .ok (.i2c, 1)) (hpc : pc + 1 = pc2) (hv : x.toUInt32.toUInt16.toUInt32.toInt32 = v) (r : own_Go P b pc2 L (.int v :: rest) pcE LE SE) : own_Go P b pc L (.int x :: rest) pcE LE SE := by
  intro tb _ e below T target m c h hx hy hP k; subst hpc; subst hv; exact XS.i2c h hx rfl (hb hy hd) rfl (r tb e below T target m c h hx hy hP k)
theorem own_i2d {x : Int32} {v : UInt64} {rest : List Value} {pc2 : Nat} (hd : decode b pc = .ok (.i2d, 1)) (hpc : pc + 1 = pc2) (hv : FP.i2d x = v) (r : own_Go P b pc2 L (.double v :: rest) pcE LE SE) : own_Go P b pc L (.int x :: rest) pcE LE SE := by
  intro tb _ e below T target m c h hx hy hP k; subst hpc; subst hv; exact XS.i2dS h hx rfl (hb hy hd) rfl rfl (r tb e below T target m c h hx hy hP k)
theorem own_l2d {x : Int64} {v : UInt64} {rest : List Value} {pc2 : Nat} (hd : decode b pc = .ok (.l2d, 1)) (hpc : pc + 1 = pc2) (hv : FP.l2d x = v) (r : own_Go P b pc2 L (.double v :: rest) pcE LE SE) : own_Go P b pc L (.long x :: rest) pcE LE SE := by
  intro tb _ e below T target m c h hx hy hP k; subst hpc; subst hv; exact XS.l2dS h hx rfl (hb hy hd) rfl rfl (r tb e below T target m c h hx hy hP k)
theorem own_d2i {x : UInt64} {v : Int32} {rest : List Value} {pc2 : Nat} (hd : decode b pc = .ok (.d2i, 1)) (hpc : pc + 1 = pc2) (hv : FP.d2i x = v) (r : own_Go P b pc2 L (.int v :: rest) pcE LE SE) : own_Go P b pc L (.double x :: rest) pcE LE SE := by
  intro tb _ e below T target m c h hx hy hP k; subst hpc; subst hv; exact XS.d2iS h hx rfl (hb hy hd) rfl rfl (r tb e below T target m c h hx hy hP k)
theorem own_d2l {x : UInt64} {v : Int64} {rest : List Value} {pc2 : Nat} (hd : decode b pc = .ok (.d2l, 1)) (hpc : pc + 1 = pc2) (hv : FP.d2l x = v) (r : own_Go P b pc2 L (.long v :: rest) pcE LE SE) : own_Go P b pc L (.double x :: rest) pcE LE SE := by
  intro tb _ e below T target m c h hx hy hP k; subst hpc; subst hv; exact XS.d2lS h hx rfl (hb hy hd) rfl rfl (r tb e below T target m c h hx hy hP k)
theorem own_dneg {x : UInt64} {v : UInt64} {rest : List Value} {pc2 : Nat} (hd : decode b pc = .ok (.dneg, 1)) (hpc : pc + 1 = pc2) (hv : FP.dneg x = v) (r : own_Go P b pc2 L (.double v :: rest) pcE LE SE) : own_Go P b pc L (.double x :: rest) pcE LE SE := by
  intro tb _ e below T target m c h hx hy hP k; subst hpc; subst hv; exact XS.dnegS h hx rfl (hb hy hd) rfl rfl (r tb e below T target m c h hx hy hP k)
theorem own_dcmp {o : CmpOp} {x y : UInt64} {v : Int32} {rest : List Value} {pc2 : Nat} (hd : decode b pc = .ok (.dcmp o, 1)) (hpc : pc + 1 = pc2) (hv : cmpValue (FP.dcmp x y) o = v) (r : own_Go P b pc2 L (.int v :: rest) pcE LE SE) : own_Go P b pc L (.double y :: .double x :: rest) pcE LE SE := by
  intro tb _ e below T target m c h hx hy hP k; subst hpc; subst hv; exact XS.dcmpS h hx rfl (hb hy hd) rfl rfl (r tb e below T target m c h hx hy hP k)
theorem own_dadd {x y : UInt64} {v : UInt64} {rest : List Value} {pc2 : Nat} (hd : decode b pc = .ok (.dadd, 1)) (hpc : pc + 1 = pc2) (hn : NoNaN64 (FP.dadd x y)) (hv : FP.dadd x y = v) (r : own_Go P b pc2 L (.double v :: rest) pcE LE SE) : own_Go P b pc L (.double y :: .double x :: rest) pcE LE SE := by
  intro tb _ e below T target m c h hx hy hP k; subst hpc; subst hv; exact XS.daddS h hx rfl (hb hy hd) rfl hn rfl (r tb e below T target m c h hx hy hP k)
theorem own_dsub {x y : UInt64} {v : UInt64} {rest : List Value} {pc2 : Nat} (hd : decode b pc = .ok (.dsub, 1)) (hpc : pc + 1 = pc2) (hn : NoNaN64 (FP.dsub x y)) (hv : FP.dsub x y = v) (r : own_Go P b pc2 L (.double v :: rest) pcE LE SE) : own_Go P b pc L (.double y :: .double x :: rest) pcE LE SE := by
  intro tb _ e below T target m c h hx hy hP k; subst hpc; subst hv; exact XS.dsubS h hx rfl (hb hy hd) rfl hn rfl (r tb e below T target m c h hx hy hP k)
theorem own_dmul {x y : UInt64} {v : UInt64} {rest : List Value} {pc2 : Nat} (hd : decode b pc = .ok (.dmul, 1)) (hpc : pc + 1 = pc2) (hn : NoNaN64 (FP.dmul x y)) (hv : FP.dmul x y = v) (r : own_Go P b pc2 L (.double v :: rest) pcE LE SE) : own_Go P b pc L (.double y :: .double x :: rest) pcE LE SE := by
  intro tb _ e below T target m c h hx hy hP k; subst hpc; subst hv; exact XS.dmulS h hx rfl (hb hy hd) rfl hn rfl (r tb e below T target m c h hx hy hP k)
theorem own_ddiv {x y : UInt64} {v : UInt64} {rest : List Value} {pc2 : Nat} (hd : decode b pc = .ok (.ddiv, 1)) (hpc : pc + 1 = pc2) (hn : NoNaN64 (FP.ddiv x y)) (hv : FP.ddiv x y = v) (r : own_Go P b pc2 L (.double v :: rest) pcE LE SE) : own_Go P b pc L (.double y :: .double x :: rest) pcE LE SE := by
  intro tb _ e below T target m c h hx hy hP k; subst hpc; subst hv; exact XS.ddivS h hx rfl (hb hy hd) rfl hn rfl (r tb e below T target m c h hx hy hP k)
theorem own_dup {v : Value} {rest : List Value} {pc2 : Nat} (hd : decode b pc = .ok (.dup, 1)) (hpc : pc + 1 = pc2) (hc : v.category = 1) (r : own_Go P b pc2 L (v :: v :: rest) pcE LE SE) : own_Go P b pc L (v :: rest) pcE LE SE := by
  intro tb _ e below T target m c h hx hy hP k; subst hpc; exact XS.dup h hx rfl (hb hy hd) rfl hc (r tb e below T target m c h hx hy hP k)
theorem own_pop {v : Value} {rest : List Value} {pc2 : Nat} (hd : decode b pc = .ok (.pop, 1)) (hpc : pc + 1 = pc2) (hc : v.category = 1) (r : own_Go P b pc2 L (rest) pcE LE SE) : own_Go P b pc L (v :: rest) pcE LE SE := by
  intro tb _ e below T target m c h hx hy hP k; subst hpc; exact XS.pop h hx rfl (hb hy hd) rfl hc (r tb e below T target m c h hx hy hP k)
theorem own_dupX1 {v w : Value} {rest : List Value} {pc2 : Nat} (hd : decode b pc = .ok (.dup_x1, 1)) (hpc : pc + 1 = pc2) (hc : v.category = 1) (hc' : w.category = 1) (r : own_Go P b pc2 L (v :: w :: v :: rest) pcE LE SE) : own_Go P b pc L (v :: w :: rest) pcE LE SE := by
  intro tb _ e below T target m c h hx hy hP k; subst hpc; exact XS.dupX1 h hx rfl (hb hy hd) rfl hc hc' (r tb e below T target m c h hx hy hP k)
theorem own_dup2 {v w : Value} {rest : List Value} {pc2 : Nat} (hd : decode b pc = .ok (.dup2, 1)) (hpc : pc + 1 = pc2) (hc : v.category = 1) (hc' : w.category = 1) (r : own_Go P b pc2 L (v :: w :: v :: w :: rest) pcE LE SE) : own_Go P b pc L (v :: w :: rest) pcE LE SE := by
  intro tb _ e below T target m c h hx hy hP k; subst hpc; exact XT.dup2 h hx rfl (hb hy hd) rfl hc hc' (r tb e below T target m c h hx hy hP k)
theorem own_ifYes {cd : ClassFile.Cond} {x : Int32} {o : Int} {pc' : Nat} {rest : List Value} (hd : decode b pc = .ok (.ifCond cd o, 3)) (hc : ifCond.holds cd x = true) (ho : 0 ≤ (pc : Int) + o) (hp : ((pc : Int) + o).toNat = pc') (r : own_Go P b pc' L rest pcE LE SE) : own_Go P b pc L (.int x :: rest) pcE LE SE := by
  intro tb _ e below T target m c h hx hy hP k; exact XS.ifYes h hx rfl rfl (hb hy hd) rfl hc ho hp (r tb e below T target m c h hx hy hP k)
theorem own_ifNo {cd : ClassFile.Cond} {x : Int32} {o : Int} {rest : List Value} {pc2 : Nat} (hd : decode b pc = .ok (.ifCond cd o, 3)) (hpc : pc + 3 = pc2) (hc : ifCond.holds cd x = false) (r : own_Go P b pc2 L rest pcE LE SE) : own_Go P b pc L (.int x :: rest) pcE LE SE := by
  intro tb _ e below T target m c h hx hy hP k; subst hpc; exact XS.ifNo h hx rfl (hb hy hd) rfl hc (r tb e below T target m c h hx hy hP k)
theorem own_icmpYes {cd : ClassFile.Cond} {x y : Int32} {o : Int} {pc' : Nat} {rest : List Value} (hd : decode b pc = .ok (.if_icmp cd o, 3)) (hc : if_icmp.holds cd x y = true) (ho : 0 ≤ (pc : Int) + o) (hp : ((pc : Int) + o).toNat = pc') (r : own_Go P b pc' L rest pcE LE SE) : own_Go P b pc L (.int y :: .int x :: rest) pcE LE SE := by
  intro tb _ e below T target m c h hx hy hP k; exact XS.icmpYes h hx rfl rfl (hb hy hd) rfl hc ho hp (r tb e below T target m c h hx hy hP k)
theorem own_icmpNo {cd : ClassFile.Cond} {x y : Int32} {o : Int} {rest : List Value} {pc2 : Nat} (hd : decode b pc = .ok (.if_icmp cd o, 3)) (hpc : pc + 3 = pc2) (hc : if_icmp.holds cd x y = false) (r : own_Go P b pc2 L rest pcE LE SE) : own_Go P b pc L (.int y :: .int x :: rest) pcE LE SE := by
  intro tb _ e below T target m c h hx hy hP k; subst hpc; exact XS.icmpNo h hx rfl (hb hy hd) rfl hc (r tb e below T target m c h hx hy hP k)
theorem own_ifnullYes {o : Int} {pc' : Nat} {rest : List Value} (hd : decode b pc = .ok (.ifnull o, 3)) (ho : 0 ≤ (pc : Int) + o) (hp : ((pc : Int) + o).toNat = pc') (r : own_Go P b pc' L rest pcE LE SE) : own_Go P b pc L (.null :: rest) pcE LE SE := by
  intro tb _ e below T target m c h hx hy hP k; exact XS.ifnullYes h hx rfl rfl (hb hy hd) rfl ho hp (r tb e below T target m c h hx hy hP k)
theorem own_ifnullNo {o : Int} {a : Addr} {rest : List Value} {pc2 : Nat} (hd : decode b pc = .ok (.ifnull o, 3)) (hpc : pc + 3 = pc2) (r : own_Go P b pc2 L rest pcE LE SE) : own_Go P b pc L (.ref a :: rest) pcE LE SE := by
  intro tb _ e below T target m c h hx hy hP k; subst hpc; exact XS.ifnullNo h hx rfl (hb hy hd) rfl (r tb e below T target m c h hx hy hP k)
theorem own_ifnonnullYes {o : Int} {pc' : Nat} {a : Addr} {rest : List Value} (hd : decode b pc = .ok (.ifnonnull o, 3)) (ho : 0 ≤ (pc : Int) + o) (hp : ((pc : Int) + o).toNat = pc') (r : own_Go P b pc' L rest pcE LE SE) : own_Go P b pc L (.ref a :: rest) pcE LE SE := by
  intro tb _ e below T target m c h hx hy hP k; exact XS.ifnonnullYes h hx rfl rfl (hb hy hd) rfl ho hp (r tb e below T target m c h hx hy hP k)
theorem own_ifnonnullNo {o : Int} {rest : List Value} {pc2 : Nat} (hd : decode b pc = .ok (.ifnonnull o, 3)) (hpc : pc + 3 = pc2) (r : own_Go P b pc2 L rest pcE LE SE) : own_Go P b pc L (.null :: rest) pcE LE SE := by
  intro tb _ e below T target m c h hx hy hP k; subst hpc; exact XS.ifnonnullNo h hx rfl (hb hy hd) rfl (r tb e below T target m c h hx hy hP k)
theorem own_acmpYes {cd : ClassFile.ACond} {x y : Addr} {o : Int} {pc' : Nat} {rest : List Value} (hd : decode b pc = .ok (.if_acmp cd o, 3)) (hc : if_acmp.holds cd (some x) (some y) = true) (ho : 0 ≤ (pc : Int) + o) (hp : ((pc : Int) + o).toNat = pc') (r : own_Go P b pc' L rest pcE LE SE) : own_Go P b pc L (.ref y :: .ref x :: rest) pcE LE SE := by
  intro tb _ e below T target m c h hx hy hP k; exact XS.acmpYes h hx rfl rfl (hb hy hd) rfl hc ho hp (r tb e below T target m c h hx hy hP k)
theorem own_acmpNo {cd : ClassFile.ACond} {x y : Addr} {o : Int} {rest : List Value} {pc2 : Nat} (hd : decode b pc = .ok (.if_acmp cd o, 3)) (hpc : pc + 3 = pc2) (hc : if_acmp.holds cd (some x) (some y) = false) (r : own_Go P b pc2 L rest pcE LE SE) : own_Go P b pc L (.ref y :: .ref x :: rest) pcE LE SE := by
  intro tb _ e below T target m c h hx hy hP k; subst hpc; exact XS.acmpNo h hx rfl (hb hy hd) rfl hc (r tb e below T target m c h hx hy hP k)
theorem own_goto {o : Int} {pc' : Nat} (hd : decode b pc = .ok (.goto o, 3)) (ho : 0 ≤ (pc : Int) + o) (hp : ((pc : Int) + o).toNat = pc') (r : own_Go P b pc' L S pcE LE SE) : own_Go P b pc L S pcE LE SE := by
  intro tb _ e below T target m c h hx hy hP k; exact XS.goto h hx rfl rfl (hb hy hd) ho hp (r tb e below T target m c h hx hy hP k)
theorem own_iinc {j : Nat} {cst : Int} {x v : Int32} {pc2 : Nat} (hd : decode b pc = .ok (.iinc j cst, 3)) (hpc : pc + 3 = pc2) (hl : L[j]? = some (.val (.int x))) (hv : x + Int32.ofInt cst = v) (hl' : storeLocals L j (.int v) = some L') (r : own_Go P b pc2 L' S pcE LE SE) : own_Go P b pc L S pcE LE SE := by
  intro tb _ e below T target m c h hx hy hP k; subst hpc; subst hv; exact XS.iinc h hx rfl (hb hy hd) hl hl' (r tb e below T target m c h hx hy hP k)
theorem own_ldc {i : Nat} {v : Int32} {pc2 : Nat} (hd : decode b pc = .ok (.ldc i, 2)) (hpc : pc + 2 = pc2) (hk : (i, Value.int v) ∈ P) (r : own_Go P b pc2 L (.int v :: S) pcE LE SE) : own_Go P b pc L S pcE LE SE := by
  intro tb _ e below T target m c h hx hy hP k; subst hpc; exact (hP _ hk (mkF m pc L S) target rfl).1 ⟨_, rfl⟩ (hb hy hd) (r tb e below T target m c h hx hy hP k)
theorem own_ldcW {i : Nat} {v : Int32} {pc2 : Nat} (hd : decode b pc = .ok (.ldc_w i, 3)) (hpc : pc + 3 = pc2) (hk : (i, Value.int v) ∈ P) (r : own_Go P b pc2 L (.int v :: S) pcE LE SE) : own_Go P b pc L S pcE LE SE := by
  intro tb _ e below T target m c h hx hy hP k; subst hpc; exact (hP _ hk (mkF m pc L S) target rfl).2.1 ⟨_, rfl⟩ (hb hy hd) (r tb e below T target m c h hx hy hP k)
theorem own_ldc2L {i : Nat} {v : Int64} {pc2 : Nat} (hd : decode b pc = .ok (.ldc2_w i, 3)) (hpc : pc + 3 = pc2) (hk : (i, Value.long v) ∈ P) (r : own_Go P b pc2 L (.long v :: S) pcE LE SE) : own_Go P b pc L S pcE LE SE := by
  intro tb _ e below T target m c h hx hy hP k; subst hpc; exact (hP _ hk (mkF m pc L S) target rfl).2.2 (Or.inl ⟨_, rfl⟩) (hb hy hd) (r tb e below T target m c h hx hy hP k)
theorem own_ldc2D {i : Nat} {v : UInt64} {pc2 : Nat} (hd : decode b pc = .ok (.ldc2_w i, 3)) (hpc : pc + 3 = pc2) (hk : (i, Value.double v) ∈ P) (r : own_Go P b pc2 L (.double v :: S) pcE LE SE) : own_Go P b pc L S pcE LE SE := by
  intro tb _ e below T target m c h hx hy hP k; subst hpc; exact (hP _ hk (mkF m pc L S) target rfl).2.2 (Or.inr ⟨_, rfl⟩) (hb hy hd) (r tb e below T target m c h hx hy hP k)
end OwnWalk
section OwnPool
open Jvm.Free Jvm.Stand
variable {p : Program} {l : Launch} {e : Env} {R : Room} {s : State} {m : MethodId} {args : Array Value} {below : List Frame} {meth : Method} {c : Code} {T : State} {locs : List Loc} {cells slots : Nat} {Z : State} {a0 : Array Value}
def own_Word (own : String) (i : Nat) : Value → Jvm.Cond → Prop
  | .int v, w => w = .constant own i v
  | .long v, w => w = .constantLong own i v
  | .double v, w => w = .constantDouble own i v
  | _, _ => False
theorem own_pool1 (X : Stand p l e R s m args below meth c T locs cells slots) (hx : p.tables.exec = Jvm.exec) (hZ : Z.Warmed39 s.vm) {own : String} (hown : s.vm.findClass own = some m.cls) {i : Nat} {v : Value} {w : Jvm.Cond} (hv : own_Word own i v w) (hw : w.before a0 Z = true) : own_Ldc p.tables e below T m c i v := by
  intro g target hg
  cases v with
  | int v =>
    cases (show w = .constant own i v from hv)
    exact ⟨fun _ hd k => X.ldcInt hx hown (mvT hZ hw) hg hd target k, fun _ hd k => X.ldcwInt hx hown (mvT hZ hw) hg hd target k, fun h => (by rcases h with ⟨_, h⟩ | ⟨_, h⟩ <;> cases h)⟩
  | long v =>
    cases (show w = .constantLong own i v from hv)
    exact ⟨fun h => (by obtain ⟨_, h⟩ := h; cases h), fun h => (by obtain ⟨_, h⟩ := h; cases h), fun _ hd k => X.ldc2Long hx hown (mvT hZ hw) hg hd target k⟩
  | double v =>
    cases (show w = .constantDouble own i v from hv)
    exact ⟨fun h => (by obtain ⟨_, h⟩ := h; cases h), fun h => (by obtain ⟨_, h⟩ := h; cases h), fun _ hd k => X.ldc2DoubleC hx hown (mvT hZ hw) hg hd target k⟩
  | _ => exact absurd hv (fun h => h)
theorem own_pool (X : Stand p l e R s m args below meth c T locs cells slots) (hx : p.tables.exec = Jvm.exec) (hZ : Z.Warmed39 s.vm) {own : String} (hown : s.vm.findClass own = some m.cls) {ws : List Jvm.Cond} (hw : ∀ d ∈ ws, d.before a0 Z = true) {P : List (Nat × Value)} (hP : ∀ q ∈ P, ∃ w ∈ ws, own_Word own q.1 q.2 w) : ∀ q ∈ P, own_Ldc p.tables e below T m c q.1 q.2 := by
  intro q hq
  obtain ⟨w, h1, h2⟩ := hP q hq
  exact own_pool1 X hx hZ hown h2 (hw w h1)
end OwnPool
/-! the call layer: a method that leaves the heap as it was, and its call -/
section OwnCall
open Jvm.Free Jvm.Stand Jvm.LawKit Jvm.RoadKit
variable {p : Program} {l : Launch} {e : Env} {R : Room} {s : State} {m : MethodId} {args : Array Value} {below : List Frame} {meth : Method} {c : Code} {T : State} {locs : List Loc} {cells slots : Nat} {Z : State} {a0 : Array Value} {h : Heap}
abbrev own_room (fr lo : Nat) : Room := { frames := fr, cells := 0, slots := 0, locals := lo }
def own_Pure (l : Launch) (Z : State) (y : MethodName) (bytes : ByteArray) (maxL : Nat) (ret : Option FieldType) (fr lo : Nat) (as' : Array Value) (h : Heap) (v : Option Value) : Prop :=
  MetFree l y (head1 [Jvm.Cond.code y bytes maxL ret] (own_room fr lo)) (fun a U => a = as' ∧ Z.Warmed39 U.vm ∧ U.heap = h) (fun _ _ _ _ _ => True) (fun _ U o U' => ∃ w L, o = .returned w ∧ (w = v ∧ L = [] ∧ U'.heap = h) ∧ FrameEnd U o U' L (own_room fr lo).cells (own_room fr lo).slots)
def own_Ret (i : Instr) (t : FieldType) (w : Value) : Prop := narrow t w = w ∧ ((i = .ireturn ∧ (t = .int ∨ t = .boolean ∨ t = .byte ∨ t = .char ∨ t = .short) ∧ ∃ z, w = .int z) ∨ (i = .lreturn ∧ t = .long ∧ ∃ z, w = .long z) ∨ (i = .dreturn ∧ t = .double ∧ ∃ z, w = .double z) ∨ (i = .freturn ∧ t = .float ∧ ∃ z, w = .float z) ∨ (i = .areturn ∧ t.isReference = true ∧ w.isRef = true))
theorem own_retD (x : UInt64) : own_Ret .dreturn .double (.double x) := ⟨rfl, Or.inr (Or.inr (Or.inl ⟨rfl, rfl, x, rfl⟩))⟩
theorem own_retI (x : Int32) : own_Ret .ireturn .int (.int x) := ⟨rfl, Or.inl ⟨rfl, Or.inl rfl, x, rfl⟩⟩
theorem own_retJ (x : Int64) : own_Ret .lreturn .long (.long x) := ⟨rfl, Or.inr (Or.inl ⟨rfl, rfl, x, rfl⟩)⟩
theorem own_retZ {x : Int32} (hx : x = 0 ∨ x = 1) : own_Ret .ireturn .boolean (.int x) := ⟨by rcases hx with rfl | rfl <;> rfl, Or.inl ⟨rfl, Or.inr (Or.inl rfl), x, rfl⟩⟩
theorem own_pure_go {y : MethodName} {bytes : ByteArray} {maxL : Nat} {t : FieldType} {as' : Array Value} {P : List (Nat × Value)} {L0 LR : Array Slot} {SR : List Value} {pcR : Nat} {val : Value} {i : Instr} {ws : List Jvm.Cond} (hpl : plainName y.cls = true) (hw : ∀ d ∈ ws, d.before a0 Z = true) (hP : ∀ q ∈ P, ∃ w ∈ ws, own_Word y.cls q.1 q.2 w)
    (hef : ∀ m, entryFrame m as' maxL = mkF m 0 L0 []) (body : own_Go P bytes 0 L0 [] pcR LR (val :: SR)) (hd : decode bytes pcR = .ok (i, 1)) (hr : own_Ret i t val) : own_Pure l Z y bytes maxL (some t) 0 0 as' h (some val) := by
  refine MetFree.of_bodySF (plainFor_of_name hpl) hisR ?_
  intro p e s m args below meth c s₁ Bd hml0 hPP hK
  obtain ⟨rfl, hZ, hh⟩ := hPP
  have hx := Bd.exec
  have hby := Bd.bytes
  have hown : s.vm.findClass y.cls = some m.cls := findClass_of_methodNamed Bd.named
  have X0 : Stand p l e (own_room 0 0) s m _ below meth c s₁ [] 0 0 := Stand.of_body Bd
  have e0 : s₁.heap = h := by rw [← hh, Bd.state]; rfl
  obtain ⟨fs, hr', hrun, hended, hW, hsame⟩ := X0.leave (v := some val) (fun h => by rw [Bd.returns] at h; cases h)
  refine ⟨_, _, castTop (hef m) (body p.tables e below s₁ _ m c X0.here hx hby (own_pool X0 hx hZ hown hw hP) (retOut X0 hx Bd.returns hr.1 hr.2 (hb hby hd) hr')), hrun, hended, _, _, rfl, ⟨rfl, rfl, ?_⟩, ⟨_, rfl⟩, hW, hsame⟩
  exact e0
theorem own_callP (X : Stand p l e R s m args below meth c T locs cells slots) (hx : p.tables.exec = Jvm.exec) (hZ : Z.Warmed39 s.vm) {own : String} {index : Nat} {y : MethodName} {bytes : ByteArray} {maxL : Nat} {ret : Option FieldType} (hown : s.vm.findClass own = some m.cls)
    (w1 : (Jvm.Cond.methodLink own index y).before a0 Z = true) (w2 : (Jvm.Cond.static y).before a0 Z = true) (w3 : (Jvm.Cond.initialized y.cls).before a0 Z = true) (w4 : (Jvm.Cond.code y bytes maxL ret).before a0 Z = true) (hy : y.cls ≠ "java/lang/invoke/MethodHandle" ∧ y.cls ≠ "java/lang/invoke/VarHandle")
    (eT : T.heap = h) {fr lo W : Nat} {argsL rest : List Value} {v : Option Value} (hM : own_Pure l Z y bytes maxL ret fr lo argsL.toArray h v) (hf : fr + 1 ≤ R.frames) (hl : W + (maxL + 11) + lo ≤ R.locals) (hc : cells ≤ R.cells) (hs : slots ≤ R.slots)
    {g : JFrame} (hg : g.method = m) (hsize : g.locals.size = c.maxLocals) (hlen : ∀ sig, parseMethodDescriptor y.desc = some sig → argsL.length = sig.parameters.length) (hst : g.stack = argsL.reverse ++ rest) (hW : 2 * g.monitorRoom + (rest.map fun v => v.category).sum ≤ W) (hd : decode c.code g.pc = .ok (.invokestatic index, 3)) :
    ∃ T', Stand p l e R s m args below meth c T' locs cells slots ∧ T'.heap = h ∧ ∀ target, Steps p.tables e below (T'.setTop { g with pc := g.pc + 3, stack := v.toList ++ rest }) target → Steps p.tables e below (T.setTop g) target := by
  obtain ⟨v', vm1, ⟨T2, L2, k2, n2⟩, -, X2, ⟨Lc, hQ, l2, y2, z2⟩, st⟩ := Jvm.LawKit.callS X hx hown (mvT hZ w1) (mvT hZ w2) (mvT hZ w3) (mvT hZ w4) hy (backOf (W := W) (rm := own_room fr lo) (Q := fun w H L => w = v ∧ L = [] ∧ H = h) hM hZ w4 w3 hf hl) hg hsize hlen hst hW hd (fun _ _ => ⟨rfl, eT, hc, hs⟩)
  dsimp only [Pt.U, Pt.locs, Pt.cells, Pt.slots] at X2 l2 y2 z2 st hQ
  obtain ⟨rfl, rfl, e2⟩ := hQ
  subst l2 y2 z2
  rw [List.append_nil] at X2
  exact ⟨T2, X2, e2, st⟩
end OwnCall
/-! the heap layer: own_Hp says what the cells made since the start hold; one rule a step -/
section OwnHeap
open Jvm.Free Jvm.Stand Jvm.LawKit Jvm.RoadKit
abbrev own_Cel := (String × List (String × String × String × Value)) ⊕ (FieldType × List Value)
abbrev own_O (C : String) (fs : List (String × String × String × Value)) : own_Cel := Sum.inl (C, fs)
abbrev own_A (ty : FieldType) (vs : List Value) : own_Cel := Sum.inr (ty, vs)
def own_Is (Z : State) (a0 : Array Value) (h : Heap) (a : Addr) (q : own_Cel) : Prop :=
  match q with
  | .inl (C, fs) => Exa Z h a C ∧ (∀ f ∈ fs, Fld Z h a f.1 f.2.1 f.2.2.1 f.2.2.2 ∧ Laid Z a0 C f.1 f.2.1 f.2.2.1 ∧ ∃ t, parseFieldDescriptor f.2.2.1 = some t) ∧ (fs.map fun f => f.2.1).Nodup
  | .inr (ty, vs) => ∃ c : Cell, Arr Z h a c ty ∧ c.slots.toList = vs
def own_Hp (Z : State) (a0 : Array Value) (hb h : Heap) (cs : List (Addr × own_Cel)) : Prop := Ext hb h ∧ (∀ q ∈ cs, own_Is Z a0 h q.1 q.2 ∧ hb.size ≤ q.1) ∧ (cs.map Prod.fst).Nodup
section Facts
variable {Z : State} {a0 : Array Value} {hb h h' : Heap} {cs : List (Addr × own_Cel)} {a b : Addr} {q : own_Cel}
theorem own_Is_lt (H : own_Is Z a0 h a q) : a < h.size := by
  match q, H with
  | .inl (C, fs), H => exact H.1.lt
  | .inr (ty, vs), ⟨c, A, _⟩ => exact A.lt
theorem own_Is_ext (E : Ext h h') (H : own_Is Z a0 h a q) : own_Is Z a0 h' a q := by
  match q, H with
  | .inl (C, fs), H => exact ⟨H.1.ext E, fun f hf => ⟨(H.2.1 f hf).1.ext E, (H.2.1 f hf).2⟩, H.2.2⟩
  | .inr (ty, vs), ⟨c, A, e⟩ => exact ⟨c, A.ext E, e⟩
theorem own_Is_wr {sl : Nat} {v : Value} (W : Wr h h' b sl v) (hne : a ≠ b) (H : own_Is Z a0 h a q) : own_Is Z a0 h' a q := by
  match q, H with
  | .inl (C, fs), H => exact ⟨H.1.wr W, fun f hf => ⟨(H.2.1 f hf).1.other W (Or.inl hne), (H.2.1 f hf).2⟩, H.2.2⟩
  | .inr (ty, vs), ⟨c, A, e⟩ => exact ⟨c, A.other W hne, e⟩
theorem own_ext_trans {h1 h2 h3 : Heap} (E : Ext h1 h2) (F : Ext h2 h3) : Ext h1 h3 := ⟨Nat.le_trans E.1 F.1, fun a c q => F.2 a c (E.2 a c q)⟩
theorem own_ext_refl (h1 : Heap) : Ext h1 h1 := ⟨Nat.le_refl _, fun _ _ q => q⟩
theorem own_ext_wr {sl : Nat} {v : Value} (E : Ext hb h) (W : Wr h h' b sl v) (hn : hb.size ≤ b) : Ext hb h' := by
  refine ⟨by rw [W.size]; exact E.1, fun x c q => ?_⟩
  have hx : x < hb.size := (Array.getElem?_eq_some_iff.mp q).1
  obtain ⟨cb, h1, -, -, -, h5, -⟩ := wr_at W (E.2 x c q)
  rw [h1, h5 (Nat.ne_of_lt (Nat.lt_of_lt_of_le hx hn))]
theorem own_Hp_start (Z : State) (a0 : Array Value) (hb : Heap) : own_Hp Z a0 hb hb [] := ⟨own_ext_refl hb, fun q hq => absurd hq List.not_mem_nil, List.nodup_nil⟩
theorem own_Hp_new (H : own_Hp Z a0 hb h cs) (E : Ext h h') (N : own_Is Z a0 h' h.size q) : own_Hp Z a0 hb h' (cs ++ [(h.size, q)]) := by
  refine ⟨own_ext_trans H.1 E, fun p hp => ?_, ?_⟩
  · rcases List.mem_append.mp hp with hp | hp
    · exact ⟨own_Is_ext E (H.2.1 p hp).1, (H.2.1 p hp).2⟩
    · cases List.mem_singleton.mp hp
      exact ⟨N, H.1.1⟩
  · rw [List.map_append, List.nodup_append]
    refine ⟨H.2.2, by simp, fun x hx y hy => ?_⟩
    simp only [List.map_cons, List.map_nil, List.mem_singleton] at hy
    subst hy
    obtain ⟨p, hp, rfl⟩ := List.mem_map.mp hx
    exact Nat.ne_of_lt (own_Is_lt (H.2.1 p hp).1)
theorem own_Hp_ext (H : own_Hp Z a0 hb h cs) (E : Ext h h') : own_Hp Z a0 hb h' cs :=
  ⟨own_ext_trans H.1 E, fun p hp => ⟨own_Is_ext E (H.2.1 p hp).1, (H.2.1 p hp).2⟩, H.2.2⟩
theorem own_get (H : own_Hp Z a0 hb h cs) {i : Nat} (hi : cs[i]? = some (a, q)) : own_Is Z a0 h a q ∧ hb.size ≤ a := H.2.1 _ (List.mem_of_getElem? hi)
theorem own_ne (H : own_Hp Z a0 hb h cs) {i j : Nat} {q' : own_Cel} (hi : cs[i]? = some (a, q)) (hj : cs[j]? = some (b, q')) (hne : i ≠ j) : a ≠ b := by
  rintro rfl
  have hN := H.2.2
  obtain ⟨hi1, hi2⟩ := List.getElem?_eq_some_iff.mp hi
  obtain ⟨hj1, hj2⟩ := List.getElem?_eq_some_iff.mp hj
  have := (List.getElem_inj (xs := cs.map Prod.fst) (i := i) (j := j) (h₀ := by simpa using hi1) (h₁ := by simpa using hj1) hN).mp (by simp [hi2, hj2])
  exact hne this
theorem own_Hp_set (H : own_Hp Z a0 hb h cs) {i : Nat} {q' : own_Cel} {sl : Nat} {v : Value} (hi : cs[i]? = some (a, q)) (W : Wr h h' a sl v) (N : own_Is Z a0 h' a q') : own_Hp Z a0 hb h' (cs.set i (a, q')) := by
  obtain ⟨hi1, hi2⟩ := List.getElem?_eq_some_iff.mp hi
  refine ⟨own_ext_wr H.1 W (own_get H hi).2, fun p hp => ?_, ?_⟩
  · obtain ⟨j, hj, rfl⟩ := List.mem_iff_getElem.mp hp
    rw [List.getElem_set]
    split
    · exact ⟨N, (own_get H hi).2⟩
    · rename_i hne
      have hj' : j < cs.length := by simpa using hj
      have hm := H.2.1 cs[j] (List.getElem_mem hj')
      refine ⟨own_Is_wr W ?_ hm.1, hm.2⟩
      intro e
      exact own_ne H hi (j := j) (b := cs[j].1) (q' := cs[j].2) (List.getElem?_eq_getElem hj') hne e.symm
  · rw [List.map_set, show (a, q').fst = (cs.map Prod.fst)[i]'(by simpa using hi1) by simp [hi2], List.set_getElem_self]
    exact H.2.2
theorem own_Is_fld {C : String} {fs : List (String × String × String × Value)} {j : Nat} {O n d : String} {old v : Value} (H : own_Is Z a0 h a (own_O C fs)) (hj : fs[j]? = some (O, n, d, old)) (W : Wr h h' a (RoadKit.slotOf Z O n d) v) : own_Is Z a0 h' a (own_O C (fs.set j (O, n, d, v))) := by
  obtain ⟨h1, h2, h3⟩ := H
  obtain ⟨hj1, hj2⟩ := List.getElem?_eq_some_iff.mp hj
  refine ⟨h1.wr W, fun f hf => ?_, ?_⟩
  · obtain ⟨k, hk, rfl⟩ := List.mem_iff_getElem.mp hf
    have hm := h2 _ (List.mem_of_getElem? hj)
    rw [List.getElem_set]
    split
    · exact ⟨hm.1.same W, hm.2⟩
    · rename_i hne
      have hk' : k < fs.length := by simpa using hk
      have hk2 := h2 fs[k] (List.getElem_mem hk')
      obtain ⟨t, ht⟩ := hk2.2.2
      obtain ⟨t', ht'⟩ := hm.2.2
      refine ⟨hk2.1.other W (Or.inr (slot_ne hk2.2.1 hm.2.1 (fun e => ?_) ht ht')), hk2.2⟩
      have := (List.getElem_inj (xs := fs.map fun f => f.2.1) (i := k) (j := j) (h₀ := by simpa using hk') (h₁ := by simpa using hj1) h3).mp (by simp [hj2]; exact e)
      exact hne this.symm
  · rw [List.map_set, show (O, n, d, v).2.1 = (fs.map fun f => f.2.1)[j]'(by simpa using hj1) by simp [hj2], List.set_getElem_self]
    exact h3
theorem own_Is_elt {ty : FieldType} {vs : List Value} {j : Nat} {v : Value} (H : own_Is Z a0 h a (own_A ty vs)) (W : Wr h h' a j v) : own_Is Z a0 h' a (own_A ty (vs.set j v)) := by
  obtain ⟨c, A, e⟩ := H
  refine ⟨_, A.same W, ?_⟩
  rw [← e]
  simp [Cell.setSlot]
end Facts
def own_S (p : Program) (l : Launch) (e : Env) (R : Room) (s : State) (m : MethodId) (args : Array Value) (below : List Frame) (meth : Method) (c : Code) (Z : State) (a0 : Array Value) (hb : Heap) (T : State) (cs : List (Addr × own_Cel)) (k n : Nat) : Prop :=
  ∃ locs, Stand p l e R s m args below meth c T locs k n ∧ Fr hb.size locs ∧ own_Hp Z a0 hb T.heap cs
section Rules
variable {p : Program} {l : Launch} {e : Env} {R : Room} {s : State} {m : MethodId} {args : Array Value} {below : List Frame} {meth : Method} {c : Code} {T : State} {Z : State} {a0 : Array Value} {hb : Heap} {cs : List (Addr × own_Cel)} {k n : Nat}
theorem own_go (H : own_S p l e R s m args below meth c Z a0 hb T cs k n) (hx : p.tables.exec = Jvm.exec) (hZ : Z.Warmed39 s.vm) {own : String} (hown : s.vm.findClass own = some m.cls) {bytes : ByteArray} (hby : c.code = bytes) {ws : List Jvm.Cond} (hw : ∀ d ∈ ws, d.before a0 Z = true) {P : List (Nat × Value)} (hP : ∀ q ∈ P, ∃ w ∈ ws, own_Word own q.1 q.2 w)
    {pc pc' : Nat} {L L' : Array Slot} {S S' : List Value} (r : own_Go P bytes pc L S pc' L' S') : ∀ target, Steps p.tables e below (T.setTop (mkF m pc' L' S')) target → Steps p.tables e below (T.setTop (mkF m pc L S)) target := by
  obtain ⟨locs, X, -, -⟩ := H
  exact fun target q => r p.tables e below T target m c X.here hx hby (own_pool X hx hZ hown hw hP) q
theorem own_newO (H : own_S p l e R s m args below meth c Z a0 hb T cs k n) (hx : p.tables.exec = Jvm.exec) (hZ : Z.Warmed39 s.vm) {own C : String} {index nn : Nat} (hown : s.vm.findClass own = some m.cls) (w : (Jvm.Cond.classLink own index C).before a0 Z = true) (wi : (Jvm.Cond.instantiable C nn).before a0 Z = true) (wz : (Jvm.Cond.initialized C).before a0 Z = true)
    (fs : List (String × String × String × Value)) (hfs : ∀ f ∈ fs, Laid Z a0 C f.1 f.2.1 f.2.2.1 ∧ ∃ t, parseFieldDescriptor f.2.2.1 = some t ∧ defaultValue t = f.2.2.2) (hN : (fs.map fun f => f.2.1).Nodup)
    {g : JFrame} (hg : g.method = m) (hd : decode c.code g.pc = .ok (.new index, 3)) (hc : k + 1 ≤ R.cells) (hl : n + nn ≤ R.slots) :
    ∃ T' x, own_S p l e R s m args below meth c Z a0 hb T' (cs ++ [(x, own_O C fs)]) (k + 1) (n + nn) ∧ ∀ target, Steps p.tables e below (T'.setTop { g with pc := g.pc + 3, stack := .ref x :: g.stack }) target → Steps p.tables e below (T.setTop g) target := by
  obtain ⟨locs, X, N, hH⟩ := H
  obtain ⟨T', h', X', e', E, A, D, -, st⟩ := newO X hx hZ hown w wi wz rfl hg hd hc hl
  refine ⟨T', T.heap.size, ⟨locs, X', N, ?_⟩, st⟩
  rw [e']
  refine own_Hp_new hH E ⟨A, fun f hf => ?_, hN⟩
  obtain ⟨h1, t, h2, h3⟩ := hfs f hf
  exact ⟨h3 ▸ D h1 h2, h1, t, h2⟩
theorem own_newA (H : own_S p l e R s m args below meth c Z a0 hb T cs k n) (hx : p.tables.exec = Jvm.exec) (hZ : Z.Warmed39 s.vm) {aty : ArrayType} (w : (Jvm.Cond.arrayClass (newarray.typeOf aty)).before a0 Z = true) {g : JFrame} (hg : g.method = m) (hd : decode c.code g.pc = .ok (.newarray aty, 2)) {z : Int32} {rest : List Value} (hs : g.stack = .int z :: rest)
    (hn : ¬ z < 0) {cap : Nat} (hcap : z.toNatClampNeg ≤ cap) (hb8 : cap * 8 ≤ 536870912) (hc : k + 1 ≤ R.cells) (hl : n + cap ≤ R.slots) :
    ∃ T' x, own_S p l e R s m args below meth c Z a0 hb T' (cs ++ [(x, own_A (newarray.typeOf aty) (List.replicate z.toNatClampNeg (defaultValue (newarray.typeOf aty))))]) (k + 1) (n + cap) ∧ ∀ target, Steps p.tables e below (T'.setTop { g with pc := g.pc + 2, stack := .ref x :: rest }) target → Steps p.tables e below (T.setTop g) target := by
  obtain ⟨locs, X, N, hH⟩ := H
  obtain ⟨T', h', cA, X', e', E, A, st⟩ := newP X hx hZ w rfl hg hd hs hn hcap hb8 hc hl
  refine ⟨T', T.heap.size, ⟨locs, X', N, ?_⟩, st⟩
  rw [e']
  exact own_Hp_new hH E ⟨_, A, by simp [newA]⟩
theorem own_getF (H : own_S p l e R s m args below meth c Z a0 hb T cs k n) (hx : p.tables.exec = Jvm.exec) (hZ : Z.Warmed39 s.vm) {own O nm d : String} {index : Nat} (hown : s.vm.findClass own = some m.cls) (w : (Jvm.Cond.fieldLink own index O nm d).before a0 Z = true)
    {x : Addr} {C : String} {fs : List (String × String × String × Value)} {v : Value} (i j : Nat) (hi : cs[i]? = some (x, own_O C fs)) (hj : fs[j]? = some (O, nm, d, v)) {g : JFrame} (hg : g.method = m) {rest : List Value} (hs : g.stack = .ref x :: rest) (hd : decode c.code g.pc = .ok (.getfield index, 3)) :
    ∃ T', own_S p l e R s m args below meth c Z a0 hb T' cs k n ∧ ∀ target, Steps p.tables e below (T'.setTop { g with pc := g.pc + 3, stack := v :: rest }) target → Steps p.tables e below (T.setTop g) target := by
  obtain ⟨locs, X, N, hH⟩ := H
  have F := ((own_get hH hi).1.2.1 _ (List.mem_of_getElem? hj)).1
  obtain ⟨T', X', e', st⟩ := getF X hx hZ hown (host := "") (Or.inl w) Via.refl rfl F hg hs hd
  exact ⟨T', ⟨locs, X', N, e' ▸ hH⟩, st⟩
theorem own_putF (H : own_S p l e R s m args below meth c Z a0 hb T cs k n) (hx : p.tables.exec = Jvm.exec) (hZ : Z.Warmed39 s.vm) {own O nm d : String} {index kk : Nat} {ty : FieldType} (hown : s.vm.findClass own = some m.cls) (w : (Jvm.Cond.fieldLink own index O nm d).before a0 Z = true)
    {x : Addr} {C : String} {fs : List (String × String × String × Value)} {v old : Value} (i j : Nat) (hi : cs[i]? = some (x, own_O C fs)) (hj : fs[j]? = some (O, nm, d, old)) (L : (Jvm.Cond.lays C O nm d).before a0 Z = true ∨ ((Jvm.Cond.laysFinal C O nm d).before a0 Z = true ∧ own = O ∧ meth.name = "<init>")) (wi : (Jvm.Cond.instantiable C kk).before a0 Z = true)
    (hty : parseFieldDescriptor d = some ty) (hn : narrow ty v = v) (hf : fits ty v = true) {g : JFrame} (hg : g.method = m) {rest : List Value} (hs : g.stack = v :: .ref x :: rest) (hd : decode c.code g.pc = .ok (.putfield index, 3)) :
    ∃ T', own_S p l e R s m args below meth c Z a0 hb T' (cs.set i (x, own_O C (fs.set j (O, nm, d, v)))) k n ∧ ∀ target, Steps p.tables e below (T'.setTop { g with pc := g.pc + 3, stack := rest }) target → Steps p.tables e below (T.setTop g) target := by
  obtain ⟨locs, X, N, hH⟩ := H
  have I := own_get hH hi
  have F := (I.1.2.1 _ (List.mem_of_getElem? hj)).1
  obtain ⟨T', h', X', e', W, st⟩ := putF X hx hZ hown (host := "") (Or.inl w) Via.refl rfl F I.1.1 L wi hty hn hf hg hs hd
  refine ⟨T', ⟨_, X', Fr.snoc X' N I.2, ?_⟩, st⟩
  rw [e']
  exact own_Hp_set hH hi W (own_Is_fld I.1 hj W)
theorem own_initO (H : own_S p l e R s m args below meth c Z a0 hb T cs k n) (hx : p.tables.exec = Jvm.exec) (hZ : Z.Warmed39 s.vm) {own : String} {idx : Nat} (hown : s.vm.findClass own = some m.cls) (w1 : (Jvm.Cond.methodLink own idx Lib.objectInit).before a0 Z = true) (w2 : (Jvm.Cond.instanceMethod Lib.objectInit).before a0 Z = true)
    (w3 : (Jvm.Cond.code Lib.objectInit ⟨#[0xb1]⟩ 1 none).before a0 Z = true) {g : JFrame} (hg : g.method = m) (hsize : g.locals.size = c.maxLocals) {a : Addr} {rest : List Value} (hs : g.stack = .ref a :: rest) (hd : decode c.code g.pc = .ok (.invokespecial idx, 3))
    (hf : 1 ≤ R.frames) {W : Nat} (hW : 2 * g.monitorRoom + (rest.map fun v => v.category).sum ≤ W) (hl : W + 12 ≤ R.locals) :
    ∃ T', own_S p l e R s m args below meth c Z a0 hb T' cs k n ∧ ∀ target, Steps p.tables e below (T'.setTop { g with pc := g.pc + 3, stack := rest }) target → Steps p.tables e below (T.setTop g) target := by
  obtain ⟨locs, X, N, hH⟩ := H
  obtain ⟨T', X', e', st⟩ := initO X hx hZ hown w1 w2 w3 rfl hg hsize hs hd hf hW hl
  exact ⟨T', ⟨locs, X', N, e' ▸ hH⟩, st⟩
theorem own_idx {j : Int32} {vs : List Value} {cl : Cell} (e : cl.slots.toList = vs) (h0 : 0 ≤ j.toInt) (h1 : j.toInt < vs.length) : ¬ (j < 0 ∨ cl.slots.size ≤ j.toNatClampNeg) := by
  have hl : cl.slots.size = vs.length := by rw [← e]; simp
  rintro (q | q)
  · rw [Int32.lt_iff_toInt_lt] at q; rw [show (0 : Int32).toInt = 0 from rfl] at q; omega
  · have : j.toNatClampNeg = j.toInt.toNat := rfl
    omega
theorem own_at_idx {j : Int32} {vs : List Value} {cl : Cell} {v : Value} (e : cl.slots.toList = vs) {i : Nat} (hi : j.toInt = i) (hv : vs[i]? = some v) : cl.slots[j.toNatClampNeg]? = some v := by
  have : j.toNatClampNeg = i := by show j.toInt.toNat = i; omega
  rw [this, ← Array.getElem?_toList, e]; exact hv
theorem own_daload (H : own_S p l e R s m args below meth c Z a0 hb T cs k n) (hx : p.tables.exec = Jvm.exec) (hZ : Z.Warmed39 s.vm) {x : Addr} {vs : List Value} {j : Int32} {v : Value} (i jj : Nat) (hi : cs[i]? = some (x, own_A .double vs)) (hj : j.toInt = jj) (hv : vs[jj]? = some v)
    {g : JFrame} (hg : g.method = m) {rest : List Value} (hs : g.stack = .int j :: .ref x :: rest) (hd : decode c.code g.pc = .ok (.daload, 1)) :
    ∀ target, Steps p.tables e below (T.setTop { g with pc := g.pc + 1, stack := v :: rest }) target → Steps p.tables e below (T.setTop g) target := by
  obtain ⟨locs, X, N, hH⟩ := H
  obtain ⟨cl, A, hc⟩ := (own_get hH hi).1
  have hlt : jj < vs.length := (List.getElem?_eq_some_iff.mp hv).1
  exact fun target q => X.daload hx A.1 (State.isArrayOf_alike hZ.alike A.2.1) A.2.2 (own_idx hc (by omega) (by omega)) (own_at_idx hc hj hv) hg hs hd target q
theorem own_arrlen (H : own_S p l e R s m args below meth c Z a0 hb T cs k n) (hx : p.tables.exec = Jvm.exec) (hZ : Z.Warmed39 s.vm) {x : Addr} {ty : FieldType} {vs : List Value} (i : Nat) (hi : cs[i]? = some (x, own_A ty vs)) {z : Int32} (hz : vs.length.toInt32 = z)
    {g : JFrame} (hg : g.method = m) {rest : List Value} (hs : g.stack = .ref x :: rest) (hd : decode c.code g.pc = .ok (.arraylength, 1)) :
    ∀ target, Steps p.tables e below (T.setTop { g with pc := g.pc + 1, stack := .int z :: rest }) target → Steps p.tables e below (T.setTop g) target := by
  obtain ⟨locs, X, N, hH⟩ := H
  obtain ⟨cl, A, hc⟩ := (own_get hH hi).1
  have hl : cl.slots.size = vs.length := by rw [← hc]; simp
  refine fun target q => X.arraylength hx A.1 (State.isArrayOf_alike hZ.alike A.2.1) hg hs hd target ?_
  rw [hl, hz]; exact q
theorem own_dastore (H : own_S p l e R s m args below meth c Z a0 hb T cs k n) (hx : p.tables.exec = Jvm.exec) (hZ : Z.Warmed39 s.vm) {x : Addr} {vs : List Value} {j : Int32} {v : UInt64} (i jj : Nat) (hi : cs[i]? = some (x, own_A .double vs)) (hj : j.toInt = jj) (hlt : jj < vs.length)
    {g : JFrame} (hg : g.method = m) {rest : List Value} (hs : g.stack = .double v :: .int j :: .ref x :: rest) (hd : decode c.code g.pc = .ok (.dastore, 1)) :
    ∃ T', own_S p l e R s m args below meth c Z a0 hb T' (cs.set i (x, own_A .double (vs.set jj (.double v)))) k n ∧ ∀ target, Steps p.tables e below (T'.setTop { g with pc := g.pc + 1, stack := rest }) target → Steps p.tables e below (T.setTop g) target := by
  obtain ⟨locs, X, N, hH⟩ := H
  have I := own_get hH hi
  obtain ⟨cl, A, hc⟩ := I.1
  obtain ⟨T', h', X', e', W, st⟩ := stD X hx hZ rfl A (own_idx hc (by omega) (by omega)) hg hs hd
  have hjj : j.toNatClampNeg = jj := by show j.toInt.toNat = jj; omega
  rw [hjj] at W
  refine ⟨T', ⟨_, X', Fr.snoc X' N I.2, ?_⟩, st⟩
  rw [e']
  exact own_Hp_set hH hi W (own_Is_elt I.1 W)
theorem own_iastore (H : own_S p l e R s m args below meth c Z a0 hb T cs k n) (hx : p.tables.exec = Jvm.exec) (hZ : Z.Warmed39 s.vm) {x : Addr} {vs : List Value} {j : Int32} {v : Int32} (i jj : Nat) (hi : cs[i]? = some (x, own_A .int vs)) (hj : j.toInt = jj) (hlt : jj < vs.length)
    {g : JFrame} (hg : g.method = m) {rest : List Value} (hs : g.stack = .int v :: .int j :: .ref x :: rest) (hd : decode c.code g.pc = .ok (.iastore, 1)) :
    ∃ T', own_S p l e R s m args below meth c Z a0 hb T' (cs.set i (x, own_A .int (vs.set jj (.int v)))) k n ∧ ∀ target, Steps p.tables e below (T'.setTop { g with pc := g.pc + 1, stack := rest }) target → Steps p.tables e below (T.setTop g) target := by
  obtain ⟨locs, X, N, hH⟩ := H
  have I := own_get hH hi
  obtain ⟨cl, A, hc⟩ := I.1
  obtain ⟨T', h', X', e', W, st⟩ := stI X hx hZ rfl A (own_idx hc (by omega) (by omega)) hg hs hd
  have hjj : j.toNatClampNeg = jj := by show j.toInt.toNat = jj; omega
  rw [hjj] at W
  refine ⟨T', ⟨_, X', Fr.snoc X' N I.2, ?_⟩, st⟩
  rw [e']
  exact own_Hp_set hH hi W (own_Is_elt I.1 W)
end Rules
/-- what a method does: from the cells cs and these arguments it returns a value and leaves cells of which Q holds -/
def own_Met (l : Launch) (Z : State) (a0 : Array Value) (hb : Heap) (y : MethodName) (bytes : ByteArray) (maxL : Nat) (ret : Option FieldType) (ws : List Jvm.Cond) (rm : Room) (as' : Array Value) (cs : List (Addr × own_Cel)) (Q : Option Value → List (Addr × own_Cel) → Prop) : Prop :=
  ∀ h, own_Hp Z a0 hb h cs → MetFree l y (head1 (Jvm.Cond.code y bytes maxL ret :: ws) rm) (fun a U => a = as' ∧ Z.Warmed39 U.vm ∧ U.heap = h) (fun _ _ _ _ _ => True) (fun _ U o U' => ∃ w L, o = .returned w ∧ (Fr hb.size L ∧ ∃ cs', Q w cs' ∧ own_Hp Z a0 hb U'.heap cs') ∧ FrameEnd U o U' L rm.cells rm.slots)
/-- from the frame g the method runs to its return -/
def own_Ends (p : Program) (l : Launch) (e : Env) (R : Room) (s : State) (m : MethodId) (args : Array Value) (below : List Frame) (meth : Method) (c : Code) (Z : State) (a0 : Array Value) (hb : Heap) (bytes : ByteArray) (ret : Option FieldType) (Q : Option Value → List (Addr × own_Cel) → Prop) (T : State) (g : JFrame) : Prop :=
  ∃ T' cs' k n pc L, own_S p l e R s m args below meth c Z a0 hb T' cs' k n ∧ k ≤ R.cells ∧ n ≤ R.slots ∧
    ((ret = none ∧ Q none cs' ∧ decode bytes pc = .ok (.return_, 1) ∧ ∀ target, Steps p.tables e below (T'.setTop (mkF m pc L [])) target → Steps p.tables e below (T.setTop g) target) ∨
     (∃ t v S i, ret = some t ∧ Q (some v) cs' ∧ decode bytes pc = .ok (i, 1) ∧ own_Ret i t v ∧ ∀ target, Steps p.tables e below (T'.setTop (mkF m pc L (v :: S))) target → Steps p.tables e below (T.setTop g) target))
theorem own_met_of {l : Launch} {Z : State} {a0 : Array Value} {hb : Heap} {y : MethodName} {bytes : ByteArray} {maxL : Nat} {ret : Option FieldType} {ws : List Jvm.Cond} {rm : Room} {as' : Array Value} {cs : List (Addr × own_Cel)} {Q : Option Value → List (Addr × own_Cel) → Prop} {L0 : Array Slot} (hpl : plainName y.cls = true) (hef : ∀ m, entryFrame m as' maxL = mkF m 0 L0 [])
    (body : ∀ (p : Program) (e : Env) (s : State) (m : MethodId) (below : List Frame) (meth : Method) (c : Code) (T : State), p.tables.exec = Jvm.exec → Z.Warmed39 s.vm → s.vm.findClass y.cls = some m.cls → c.code = bytes → c.maxLocals = maxL → meth.name = y.name → own_S p l e rm s m as' below meth c Z a0 hb T cs 0 0 → own_Ends p l e rm s m as' below meth c Z a0 hb bytes ret Q T (mkF m 0 L0 [])) :
    own_Met l Z a0 hb y bytes maxL ret ws rm as' cs Q := by
  intro h hH
  refine MetFree.of_bodySF (plainFor_of_name hpl) hisR ?_
  intro p e s m args below meth c s₁ Bd hml0 hPP hK
  obtain ⟨rfl, hZ, hh⟩ := hPP
  have hown : s.vm.findClass y.cls = some m.cls := findClass_of_methodNamed Bd.named
  have hnm := (name_of_methodNamed Bd.named Bd.method).1
  have X0 : Stand p l e rm s m _ below meth c s₁ [] 0 0 := Stand.of_body Bd
  have e0 : s₁.heap = h := by rw [← hh, Bd.state]; rfl
  obtain ⟨T', cs', k, n, pc, L, ⟨locs, X, N, hH'⟩, hk, hn, hE⟩ := body p e s m below meth c s₁ Bd.exec hZ hown Bd.bytes hml0 hnm ⟨[], X0, Fr.nil _, e0 ▸ hH⟩
  rcases hE with ⟨rfl, hQ, hd, st⟩ | ⟨t, v, S, i, rfl, hQ, hd, hr, st⟩
  · obtain ⟨fs, hr', hrun, hended, hW, hsame⟩ := X.leave (v := none) (fun _ => rfl)
    exact ⟨_, _, castTop (hef m) (st _ (X.returnOut Bd.exec Bd.returns (Jvm.hb Bd.bytes hd) hr')), hrun, hended, _, _, rfl, ⟨N, cs', hQ, hH'⟩, ⟨_, rfl⟩, hW, hsame.mono hk hn⟩
  · obtain ⟨fs, hr', hrun, hended, hW, hsame⟩ := X.leave (v := some v) (fun h => by rw [Bd.returns] at h; cases h)
    exact ⟨_, _, castTop (hef m) (st _ (retOut X Bd.exec Bd.returns hr.1 hr.2 (Jvm.hb Bd.bytes hd) hr')), hrun, hended, _, _, rfl, ⟨N, cs', hQ, hH'⟩, ⟨_, rfl⟩, hW, hsame.mono hk hn⟩
section Calls
variable {p : Program} {l : Launch} {e : Env} {R : Room} {s : State} {m : MethodId} {args : Array Value} {below : List Frame} {meth : Method} {c : Code} {T : State} {Z : State} {a0 : Array Value} {hb : Heap} {cs : List (Addr × own_Cel)} {k n : Nat}
theorem own_callS (H : own_S p l e R s m args below meth c Z a0 hb T cs k n) (hx : p.tables.exec = Jvm.exec) (hZ : Z.Warmed39 s.vm) {own : String} {index : Nat} {y : MethodName} {bytes : ByteArray} {maxL : Nat} {ret : Option FieldType} (hown : s.vm.findClass own = some m.cls)
    (w1 : (Jvm.Cond.methodLink own index y).before a0 Z = true) (w2 : (Jvm.Cond.static y).before a0 Z = true) (w3 : (Jvm.Cond.initialized y.cls).before a0 Z = true) (w4 : (Jvm.Cond.code y bytes maxL ret).before a0 Z = true) (hy : y.cls ≠ "java/lang/invoke/MethodHandle" ∧ y.cls ≠ "java/lang/invoke/VarHandle")
    {rm : Room} {W : Nat} {argsL rest : List Value} {Q : Option Value → List (Addr × own_Cel) → Prop} (hM : own_Met l Z a0 hb y bytes maxL ret [] rm argsL.toArray cs Q) (hf : rm.frames + 1 ≤ R.frames) (hl : W + (maxL + 11) + rm.locals ≤ R.locals) (hc : k + rm.cells ≤ R.cells) (hs : n + rm.slots ≤ R.slots)
    {g : JFrame} (hg : g.method = m) (hsize : g.locals.size = c.maxLocals) (hlen : ∀ sig, parseMethodDescriptor y.desc = some sig → argsL.length = sig.parameters.length) (hst : g.stack = argsL.reverse ++ rest) (hW : 2 * g.monitorRoom + (rest.map fun v => v.category).sum ≤ W) (hd : decode c.code g.pc = .ok (.invokestatic index, 3)) :
    ∃ T' v cs', Q v cs' ∧ own_S p l e R s m args below meth c Z a0 hb T' cs' (k + rm.cells) (n + rm.slots) ∧ ∀ target, Steps p.tables e below (T'.setTop { g with pc := g.pc + 3, stack := v.toList ++ rest }) target → Steps p.tables e below (T.setTop g) target := by
  obtain ⟨locs, X, N, hH⟩ := H
  obtain ⟨v', vm1, ⟨T2, L2, k2, n2⟩, -, X2, ⟨Lc, hQ, l2, y2, z2⟩, st⟩ := Jvm.LawKit.callS X hx hown (mvT hZ w1) (mvT hZ w2) (mvT hZ w3) (mvT hZ w4) hy (backOf (W := W) (rm := rm) (Q := fun w H L => Fr hb.size L ∧ ∃ cs', Q w cs' ∧ own_Hp Z a0 hb H cs') (hM _ hH) hZ w4 w3 hf hl) hg hsize hlen hst hW hd (fun _ _ => ⟨rfl, rfl, hc, hs⟩)
  dsimp only [Pt.U, Pt.locs, Pt.cells, Pt.slots] at X2 l2 y2 z2 st hQ
  obtain ⟨N2, cs', hQ', hH'⟩ := hQ
  subst l2 y2 z2
  exact ⟨T2, v', cs', hQ', ⟨_, X2, N.app N2, hH'⟩, st⟩
theorem own_callI (H : own_S p l e R s m args below meth c Z a0 hb T cs k n) (hx : p.tables.exec = Jvm.exec) (hZ : Z.Warmed39 s.vm) {own : String} {index : Nat} {y : MethodName} {bytes : ByteArray} {maxL : Nat} (hown : s.vm.findClass own = some m.cls) (hy1 : y.name = "<init>")
    (w1 : (Jvm.Cond.methodLink own index y).before a0 Z = true) (w2 : (Jvm.Cond.instanceMethod y).before a0 Z = true) (w3 : (Jvm.Cond.initialized y.cls).before a0 Z = true) (w4 : (Jvm.Cond.code y bytes maxL none).before a0 Z = true) (hy : y.cls ≠ "java/lang/invoke/MethodHandle" ∧ y.cls ≠ "java/lang/invoke/VarHandle")
    {rm : Room} {W : Nat} {x : Addr} {argsL rest : List Value} {Q : Option Value → List (Addr × own_Cel) → Prop} (hM : own_Met l Z a0 hb y bytes maxL none [] rm (Value.ref x :: argsL).toArray cs Q) (hf : rm.frames + 1 ≤ R.frames) (hl : W + (maxL + 11) + rm.locals ≤ R.locals) (hc : k + rm.cells ≤ R.cells) (hs : n + rm.slots ≤ R.slots)
    {g : JFrame} (hg : g.method = m) (hsize : g.locals.size = c.maxLocals) (hlen : ∀ sig, parseMethodDescriptor y.desc = some sig → argsL.length = sig.parameters.length) (hst : g.stack = argsL.reverse ++ .ref x :: rest) (hW : 2 * g.monitorRoom + (rest.map fun v => v.category).sum ≤ W) (hd : decode c.code g.pc = .ok (.invokespecial index, 3)) :
    ∃ T' v cs', Q v cs' ∧ own_S p l e R s m args below meth c Z a0 hb T' cs' (k + rm.cells) (n + rm.slots) ∧ ∀ target, Steps p.tables e below (T'.setTop { g with pc := g.pc + 3, stack := v.toList ++ rest }) target → Steps p.tables e below (T.setTop g) target := by
  obtain ⟨locs, X, N, hH⟩ := H
  obtain ⟨v', vm1, ⟨T2, L2, k2, n2⟩, -, X2, ⟨Lc, hQ, l2, y2, z2⟩, st⟩ := X.specialBack hx hy1 hown (mvT hZ w1) (mvT hZ w2) (mvT hZ w4) hy (backOf (W := W) (rm := rm) (Q := fun w H L => Fr hb.size L ∧ ∃ cs', Q w cs' ∧ own_Hp Z a0 hb H cs') (hM _ hH) hZ w4 w3 hf hl) hg hsize (Steps.refl _) hlen hst hW hd (fun _ _ => ⟨rfl, rfl, hc, hs⟩)
  dsimp only [Pt.U, Pt.locs, Pt.cells, Pt.slots] at X2 l2 y2 z2 st hQ
  obtain ⟨N2, cs', hQ', hH'⟩ := hQ
  subst l2 y2 z2
  exact ⟨T2, v', cs', hQ', ⟨_, X2, N.app N2, hH'⟩, fun target q => st.trans q⟩
theorem own_callV (H : own_S p l e R s m args below meth c Z a0 hb T cs k n) (hx : p.tables.exec = Jvm.exec) (hZ : Z.Warmed39 s.vm) {own C : String} {index : Nat} {y : MethodName} {bytes : ByteArray} {maxL : Nat} {ret : Option FieldType} (hown : s.vm.findClass own = some m.cls)
    (w1 : (Jvm.Cond.methodLink own index y).before a0 Z = true) (w2 : (Jvm.Cond.declares y).before a0 Z = true) (w5 : (Jvm.Cond.selects C y y).before a0 Z = true) (w6 : (Jvm.Cond.instanceMethod y).before a0 Z = true) (w3 : (Jvm.Cond.initialized y.cls).before a0 Z = true) (w4 : (Jvm.Cond.code y bytes maxL ret).before a0 Z = true) (hy : y.cls ≠ "java/lang/invoke/MethodHandle" ∧ y.cls ≠ "java/lang/invoke/VarHandle")
    {rm : Room} {W : Nat} {x : Addr} {fs : List (String × String × String × Value)} (i : Nat) (hi : cs[i]? = some (x, own_O C fs)) {argsL rest : List Value} {Q : Option Value → List (Addr × own_Cel) → Prop} (hM : own_Met l Z a0 hb y bytes maxL ret [] rm (Value.ref x :: argsL).toArray cs Q) (hf : rm.frames + 1 ≤ R.frames) (hl : W + (maxL + 11) + rm.locals ≤ R.locals) (hc : k + rm.cells ≤ R.cells) (hs : n + rm.slots ≤ R.slots)
    {g : JFrame} (hg : g.method = m) (hsize : g.locals.size = c.maxLocals) (hlen : ∀ sig, parseMethodDescriptor y.desc = some sig → argsL.length = sig.parameters.length) (hst : g.stack = argsL.reverse ++ .ref x :: rest) (hW : 2 * g.monitorRoom + (rest.map fun v => v.category).sum ≤ W) (hd : decode c.code g.pc = .ok (.invokevirtual index, 3)) :
    ∃ T' v cs', Q v cs' ∧ own_S p l e R s m args below meth c Z a0 hb T' cs' (k + rm.cells) (n + rm.slots) ∧ ∀ target, Steps p.tables e below (T'.setTop { g with pc := g.pc + 3, stack := v.toList ++ rest }) target → Steps p.tables e below (T.setTop g) target := by
  obtain ⟨locs, X, N, hH⟩ := H
  obtain ⟨cq, kq, qa, qb, qc⟩ := isOf hZ rfl (own_get hH hi).1.1
  obtain ⟨v', vm1, ⟨T2, L2, k2, n2⟩, -, X2, ⟨Lc, hQ, l2, y2, z2⟩, st⟩ := X.virtualBack hx hown (mvT hZ w1) (mvT hZ w2) (notFace_of_selects (args := #[]) (mvT hZ w5)) (mvT hZ w5) (mvT hZ w6) hy (backOf (W := W) (rm := rm) (Q := fun w H L => Fr hb.size L ∧ ∃ cs', Q w cs' ∧ own_Hp Z a0 hb H cs') (hM _ hH) hZ w4 w3 hf hl) qa qc hg hsize (Steps.refl _) hlen hst hW hd (fun _ _ => ⟨rfl, rfl, hc, hs⟩)
  dsimp only [Pt.U, Pt.locs, Pt.cells, Pt.slots] at X2 l2 y2 z2 st hQ
  obtain ⟨N2, cs', hQ', hH'⟩ := hQ
  subst l2 y2 z2
  exact ⟨T2, v', cs', hQ', ⟨_, X2, N.app N2, hH'⟩, fun target q => st.trans q⟩
end Calls
end OwnHeap
section OwnHeap2
open Jvm.Free Jvm.Stand Jvm.LawKit Jvm.RoadKit
variable {p : Program} {l : Launch} {e : Env} {R : Room} {s : State} {m : MethodId} {args : Array Value} {below : List Frame} {meth : Method} {c : Code} {T : State} {Z : State} {a0 : Array Value} {hb : Heap} {cs : List (Addr × own_Cel)} {k n : Nat}
/-- a private method, called by invokevirtual -/
theorem own_callPr (H : own_S p l e R s m args below meth c Z a0 hb T cs k n) (hx : p.tables.exec = Jvm.exec) (hZ : Z.Warmed39 s.vm) {own : String} {index nn : Nat} {y : MethodName} {bytes : ByteArray} {maxL : Nat} {ret : Option FieldType} (hown : s.vm.findClass own = some m.cls)
    (w1 : (Jvm.Cond.methodLink own index y).before a0 Z = true) (w2 : (Jvm.Cond.instanceMethod y).before a0 Z = true) (w5 : (Jvm.Cond.privateMethod y).before a0 Z = true) (w6 : (Jvm.Cond.instantiable y.cls nn).before a0 Z = true) (w3 : (Jvm.Cond.initialized y.cls).before a0 Z = true) (w4 : (Jvm.Cond.code y bytes maxL ret).before a0 Z = true) (hy : y.cls ≠ "java/lang/invoke/MethodHandle" ∧ y.cls ≠ "java/lang/invoke/VarHandle")
    {rm : Room} {W : Nat} {x : Addr} {C : String} {fs : List (String × String × String × Value)} (i : Nat) (hi : cs[i]? = some (x, own_O C fs)) {argsL rest : List Value} {Q : Option Value → List (Addr × own_Cel) → Prop} (hM : own_Met l Z a0 hb y bytes maxL ret [] rm (Value.ref x :: argsL).toArray cs Q) (hf : rm.frames + 1 ≤ R.frames) (hl : W + (maxL + 11) + rm.locals ≤ R.locals) (hc : k + rm.cells ≤ R.cells) (hs : n + rm.slots ≤ R.slots)
    {g : JFrame} (hg : g.method = m) (hsize : g.locals.size = c.maxLocals) (hlen : ∀ sig, parseMethodDescriptor y.desc = some sig → argsL.length = sig.parameters.length) (hst : g.stack = argsL.reverse ++ .ref x :: rest) (hW : 2 * g.monitorRoom + (rest.map fun v => v.category).sum ≤ W) (hd : decode c.code g.pc = .ok (.invokevirtual index, 3)) :
    ∃ T' v cs', Q v cs' ∧ own_S p l e R s m args below meth c Z a0 hb T' cs' (k + rm.cells) (n + rm.slots) ∧ ∀ target, Steps p.tables e below (T'.setTop { g with pc := g.pc + 3, stack := v.toList ++ rest }) target → Steps p.tables e below (T.setTop g) target := by
  obtain ⟨locs, X, N, hH⟩ := H
  have hsel : (Jvm.Cond.selects y.cls y y).before a0 Z = true := Jvm.Kit.selects_private hy w6 w5 w2
  obtain ⟨cell, kk, q1, q2, q3, q4, -⟩ := (own_get hH hi).1.1
  obtain ⟨v', vm1, ⟨T2, L2, k2, n2⟩, -, X2, ⟨Lc, hQ, l2, y2, z2⟩, st⟩ := X.privateBack hx hown (mvT hZ w1) (mvT hZ w2) (mvT hZ hsel) (Cond.privateMethod_at (mvP hZ w5 (args := #[]))) (mvT hZ w4) hy (backOf (W := W) (rm := rm) (Q := fun w H L => Fr hb.size L ∧ ∃ cs', Q w cs' ∧ own_Hp Z a0 hb H cs') (hM _ hH) hZ w4 w3 hf hl) hg hsize (Steps.refl _) (a := x) q1 (fun q e => by rw [e] at q4; cases q4) hlen hst hW hd (fun _ _ => ⟨rfl, rfl, hc, hs⟩)
  dsimp only [Pt.U, Pt.locs, Pt.cells, Pt.slots] at X2 l2 y2 z2 st hQ
  obtain ⟨N2, cs', hQ', hH'⟩ := hQ
  subst l2 y2 z2
  exact ⟨T2, v', cs', hQ', ⟨_, X2, N.app N2, hH'⟩, fun target q => st.trans q⟩
/-- Math.abs of a double -/
theorem own_absD (H : own_S p l e R s m args below meth c Z a0 hb T cs k n) (hx : p.tables.exec = Jvm.exec) (hZ : Z.Warmed39 s.vm) {own : String} {index : Nat} (hown : s.vm.findClass own = some m.cls)
    (w1 : (Jvm.Cond.methodLink own index Jvm.Free.Fl.Abs.absDN).before a0 Z = true) (w2 : (Jvm.Cond.static Jvm.Free.Fl.Abs.absDN).before a0 Z = true) (w3 : (Jvm.Cond.initialized "java/lang/Math").before a0 Z = true) (w4 : (Jvm.Cond.code Jvm.Free.Fl.Abs.absDN Jvm.Free.Fl.Abs.absDCode 2 (some .double)).before a0 Z = true)
    {a : UInt64} (ha : Jvm.Free.Fl.NoNaN64 a) {W : Nat} {rest : List Value} (hf : 1 ≤ R.frames) (hl : W + 13 ≤ R.locals) (hc : k ≤ R.cells) (hs : n ≤ R.slots)
    {g : JFrame} (hg : g.method = m) (hsize : g.locals.size = c.maxLocals) (hst : g.stack = .double a :: rest) (hW : 2 * g.monitorRoom + (rest.map fun v => v.category).sum ≤ W) (hd : decode c.code g.pc = .ok (.invokestatic index, 3)) :
    ∃ T', own_S p l e R s m args below meth c Z a0 hb T' cs k n ∧ ∀ target, Steps p.tables e below (T'.setTop { g with pc := g.pc + 3, stack := .double (a &&& 0x7fffffffffffffff) :: rest }) target → Steps p.tables e below (T.setTop g) target := by
  obtain ⟨locs, X, N, hH⟩ := H
  have hpd : parseMethodDescriptor "(D)D" = some ⟨[.double], some .double⟩ := by decide +kernel
  obtain ⟨T', X', e', st⟩ := natS X hx hZ hown w1 w2 w3 w4 (by decide) rfl (F := fun a' => a' = #[.double a] ∧ Jvm.Free.Fl.NoNaN64 a) (fun c4 => Jvm.Free.Fl.Abs.absD_pays (W := W) a c4 hf hl) hg hsize (argsL := [.double a]) (rest := rest) (lenOf hpd rfl) hst hW hd hc hs ⟨rfl, ha⟩ rfl
  exact ⟨T', ⟨locs, X', N, e' ▸ hH⟩, st⟩
end OwnHeap2
section OwnClaim
open Jvm.Free.Fl
def own_K0 : List (Nat × Value) := [(7, .long 2097151), (9, .long 2147483647), (20, .long 5), (24, .double 4611686018427387904), (22, .double 4622945017495814144)]
theorem own_K0_ok : ∀ q ∈ own_K0, ∃ w ∈ tables_1, own_Word "com/example/hazeline/hazeline/fuzzy/TrapezoidRankingDifferencePinLaw" q.1 q.2 w := by
  intro q hq
  simp only [own_K0, List.mem_cons, List.not_mem_nil, or_false] at hq
  rcases hq with rfl | rfl | rfl | rfl | rfl
  · exact ⟨_, List.mem_of_getElem? (i := 0) rfl, rfl⟩
  · exact ⟨_, List.mem_of_getElem? (i := 1) rfl, rfl⟩
  · exact ⟨_, List.mem_of_getElem? (i := 39) rfl, rfl⟩
  · exact ⟨_, List.mem_of_getElem? (i := 40) rfl, rfl⟩
  · exact ⟨_, List.mem_of_getElem? (i := 42) rfl, rfl⟩
theorem own_pn0 : plainName "com/example/hazeline/hazeline/fuzzy/TrapezoidRankingDifferencePinLaw" = true := by first | (simp [plainName, overriddenIn]; done) | decide +kernel
theorem d1_0 : decode prog_5_method_1_code 0 = .ok (.aload_n 0, 1) := by decide +kernel
theorem d1_1 : decode prog_5_method_1_code 1 = .ok (.invokespecial 1, 3) := by decide +kernel
theorem d1_4 : decode prog_5_method_1_code 4 = .ok (.dload_n 1, 1) := by decide +kernel
theorem d1_5 : decode prog_5_method_1_code 5 = .ok (.invokestatic 7, 3) := by decide +kernel
theorem d1_8 : decode prog_5_method_1_code 8 = .ok (.ifCond .eq 26, 3) := by decide +kernel
theorem d1_11 : decode prog_5_method_1_code 11 = .ok (.dload_n 3, 1) := by decide +kernel
theorem d1_12 : decode prog_5_method_1_code 12 = .ok (.invokestatic 7, 3) := by decide +kernel
theorem d1_15 : decode prog_5_method_1_code 15 = .ok (.ifCond .eq 19, 3) := by decide +kernel
theorem d1_18 : decode prog_5_method_1_code 18 = .ok (.dload 5, 2) := by decide +kernel
theorem d1_20 : decode prog_5_method_1_code 20 = .ok (.invokestatic 7, 3) := by decide +kernel
theorem d1_23 : decode prog_5_method_1_code 23 = .ok (.ifCond .eq 11, 3) := by decide +kernel
theorem d1_26 : decode prog_5_method_1_code 26 = .ok (.dload 7, 2) := by decide +kernel
theorem d1_28 : decode prog_5_method_1_code 28 = .ok (.invokestatic 7, 3) := by decide +kernel
theorem d1_31 : decode prog_5_method_1_code 31 = .ok (.ifCond .ne 25, 3) := by decide +kernel
theorem d1_34 : decode prog_5_method_1_code 34 = .ok (.new 13, 3) := by decide +kernel
theorem d1_37 : decode prog_5_method_1_code 37 = .ok (.dup, 1) := by decide +kernel
theorem d1_38 : decode prog_5_method_1_code 38 = .ok (.dload_n 1, 1) := by decide +kernel
theorem d1_39 : decode prog_5_method_1_code 39 = .ok (.dload_n 3, 1) := by decide +kernel
theorem d1_40 : decode prog_5_method_1_code 40 = .ok (.dload 5, 2) := by decide +kernel
theorem d1_42 : decode prog_5_method_1_code 42 = .ok (.dload 7, 2) := by decide +kernel
theorem d1_44 : decode prog_5_method_1_code 44 = .ok (.invokestatic 15, 3) := by decide +kernel
theorem d1_52 : decode prog_5_method_1_code 52 = .ok (.invokespecial 25, 3) := by decide +kernel
theorem d1_55 : decode prog_5_method_1_code 55 = .ok (.athrow, 1) := by decide +kernel
theorem d1_56 : decode prog_5_method_1_code 56 = .ok (.dload_n 1, 1) := by decide +kernel
theorem d1_57 : decode prog_5_method_1_code 57 = .ok (.dload_n 3, 1) := by decide +kernel
theorem d1_58 : decode prog_5_method_1_code 58 = .ok (.dcmp .g, 1) := by decide +kernel
theorem d1_59 : decode prog_5_method_1_code 59 = .ok (.ifCond .gt 18, 3) := by decide +kernel
theorem d1_62 : decode prog_5_method_1_code 62 = .ok (.dload_n 3, 1) := by decide +kernel
theorem d1_63 : decode prog_5_method_1_code 63 = .ok (.dload 5, 2) := by decide +kernel
theorem d1_65 : decode prog_5_method_1_code 65 = .ok (.dcmp .g, 1) := by decide +kernel
theorem d1_66 : decode prog_5_method_1_code 66 = .ok (.ifCond .gt 11, 3) := by decide +kernel
theorem d1_69 : decode prog_5_method_1_code 69 = .ok (.dload 5, 2) := by decide +kernel
theorem d1_71 : decode prog_5_method_1_code 71 = .ok (.dload 7, 2) := by decide +kernel
theorem d1_73 : decode prog_5_method_1_code 73 = .ok (.dcmp .g, 1) := by decide +kernel
theorem d1_74 : decode prog_5_method_1_code 74 = .ok (.ifCond .le 25, 3) := by decide +kernel
theorem d1_77 : decode prog_5_method_1_code 77 = .ok (.new 13, 3) := by decide +kernel
theorem d1_80 : decode prog_5_method_1_code 80 = .ok (.dup, 1) := by decide +kernel
theorem d1_81 : decode prog_5_method_1_code 81 = .ok (.dload_n 1, 1) := by decide +kernel
theorem d1_82 : decode prog_5_method_1_code 82 = .ok (.dload_n 3, 1) := by decide +kernel
theorem d1_83 : decode prog_5_method_1_code 83 = .ok (.dload 5, 2) := by decide +kernel
theorem d1_85 : decode prog_5_method_1_code 85 = .ok (.dload 7, 2) := by decide +kernel
theorem d1_87 : decode prog_5_method_1_code 87 = .ok (.invokestatic 15, 3) := by decide +kernel
theorem d1_95 : decode prog_5_method_1_code 95 = .ok (.invokespecial 25, 3) := by decide +kernel
theorem d1_98 : decode prog_5_method_1_code 98 = .ok (.athrow, 1) := by decide +kernel
theorem d1_99 : decode prog_5_method_1_code 99 = .ok (.aload_n 0, 1) := by decide +kernel
theorem d1_100 : decode prog_5_method_1_code 100 = .ok (.dload_n 1, 1) := by decide +kernel
theorem d1_101 : decode prog_5_method_1_code 101 = .ok (.putfield 29, 3) := by decide +kernel
theorem d1_104 : decode prog_5_method_1_code 104 = .ok (.aload_n 0, 1) := by decide +kernel
theorem d1_105 : decode prog_5_method_1_code 105 = .ok (.dload_n 3, 1) := by decide +kernel
theorem d1_106 : decode prog_5_method_1_code 106 = .ok (.putfield 33, 3) := by decide +kernel
theorem d1_109 : decode prog_5_method_1_code 109 = .ok (.aload_n 0, 1) := by decide +kernel
theorem d1_110 : decode prog_5_method_1_code 110 = .ok (.dload 5, 2) := by decide +kernel
theorem d1_112 : decode prog_5_method_1_code 112 = .ok (.putfield 36, 3) := by decide +kernel
theorem d1_115 : decode prog_5_method_1_code 115 = .ok (.aload_n 0, 1) := by decide +kernel
theorem d1_116 : decode prog_5_method_1_code 116 = .ok (.dload 7, 2) := by decide +kernel
theorem d1_118 : decode prog_5_method_1_code 118 = .ok (.putfield 39, 3) := by decide +kernel
theorem d1_121 : decode prog_5_method_1_code 121 = .ok (.return_, 1) := by decide +kernel
def own_K1 : List (Nat × Value) := [(76, .double 4617315517961601024), (74, .double 4611686018427387904), (72, .double 4622945017495814144)]
theorem own_K1_ok : ∀ q ∈ own_K1, ∃ w ∈ tables_1, own_Word "com/example/hazeline/hazeline/fuzzy/Trapezoid" q.1 q.2 w := by
  intro q hq
  simp only [own_K1, List.mem_cons, List.not_mem_nil, or_false] at hq
  rcases hq with rfl | rfl | rfl
  · exact ⟨_, List.mem_of_getElem? (i := 37) rfl, rfl⟩
  · exact ⟨_, List.mem_of_getElem? (i := 38) rfl, rfl⟩
  · exact ⟨_, List.mem_of_getElem? (i := 41) rfl, rfl⟩
theorem own_pn1 : plainName "com/example/hazeline/hazeline/fuzzy/Trapezoid" = true := by first | (simp [plainName, overriddenIn]; done) | decide +kernel
theorem d3_0 : decode jdk_117_method_8_code 0 = .ok (.dload_n 0, 1) := by decide +kernel
theorem d3_1 : decode jdk_117_method_8_code 1 = .ok (.invokestatic 38, 3) := by decide +kernel
theorem d3_4 : decode jdk_117_method_8_code 4 = .ok (.ldc2_w 111, 3) := by decide +kernel
theorem d3_7 : decode jdk_117_method_8_code 7 = .ok (.dcmp .g, 1) := by decide +kernel
theorem d3_8 : decode jdk_117_method_8_code 8 = .ok (.ifCond .gt 7, 3) := by decide +kernel
theorem d3_11 : decode jdk_117_method_8_code 11 = .ok (.iconst 1, 1) := by decide +kernel
theorem d3_12 : decode jdk_117_method_8_code 12 = .ok (.goto 4, 3) := by decide +kernel
theorem d3_15 : decode jdk_117_method_8_code 15 = .ok (.iconst 0, 1) := by decide +kernel
theorem d3_16 : decode jdk_117_method_8_code 16 = .ok (.ireturn, 1) := by decide +kernel
def own_K3 : List (Nat × Value) := [(111, .double 9218868437227405311)]
theorem own_K3_ok : ∀ q ∈ own_K3, ∃ w ∈ tables_1, own_Word "java/lang/Double" q.1 q.2 w := by
  intro q hq
  simp only [own_K3, List.mem_cons, List.not_mem_nil, or_false] at hq
  rcases hq with rfl
  · exact ⟨_, List.mem_of_getElem? (i := 19) rfl, rfl⟩
theorem own_pn3 : plainName "java/lang/Double" = true := by first | (simp [plainName, overriddenIn]; done) | decide +kernel
theorem d5_0 : decode prog_5_method_10_code 0 = .ok (.aload_n 0, 1) := by decide +kernel
theorem d5_1 : decode prog_5_method_10_code 1 = .ok (.invokevirtual 68, 3) := by decide +kernel
theorem d5_4 : decode prog_5_method_10_code 4 = .ok (.aload_n 1, 1) := by decide +kernel
theorem d5_5 : decode prog_5_method_10_code 5 = .ok (.invokevirtual 68, 3) := by decide +kernel
theorem d5_8 : decode prog_5_method_10_code 8 = .ok (.dsub, 1) := by decide +kernel
theorem d5_9 : decode prog_5_method_10_code 9 = .ok (.dstore_n 2, 1) := by decide +kernel
theorem d5_10 : decode prog_5_method_10_code 10 = .ok (.dload_n 2, 1) := by decide +kernel
theorem d5_11 : decode prog_5_method_10_code 11 = .ok (.dconst 0, 1) := by decide +kernel
theorem d5_12 : decode prog_5_method_10_code 12 = .ok (.dcmp .l, 1) := by decide +kernel
theorem d5_13 : decode prog_5_method_10_code 13 = .ok (.ifCond .eq 9, 3) := by decide +kernel
theorem d5_16 : decode prog_5_method_10_code 16 = .ok (.dload_n 2, 1) := by decide +kernel
theorem d5_17 : decode prog_5_method_10_code 17 = .ok (.ldc2_w 72, 3) := by decide +kernel
theorem d5_20 : decode prog_5_method_10_code 20 = .ok (.ddiv, 1) := by decide +kernel
theorem d5_21 : decode prog_5_method_10_code 21 = .ok (.dreturn, 1) := by decide +kernel
theorem d5_22 : decode prog_5_method_10_code 22 = .ok (.aload_n 0, 1) := by decide +kernel
theorem d5_23 : decode prog_5_method_10_code 23 = .ok (.getfield 39, 3) := by decide +kernel
theorem d5_26 : decode prog_5_method_10_code 26 = .ok (.aload_n 0, 1) := by decide +kernel
theorem d5_27 : decode prog_5_method_10_code 27 = .ok (.getfield 29, 3) := by decide +kernel
theorem d5_30 : decode prog_5_method_10_code 30 = .ok (.dsub, 1) := by decide +kernel
theorem d5_31 : decode prog_5_method_10_code 31 = .ok (.aload_n 1, 1) := by decide +kernel
theorem d5_32 : decode prog_5_method_10_code 32 = .ok (.getfield 39, 3) := by decide +kernel
theorem d5_35 : decode prog_5_method_10_code 35 = .ok (.aload_n 1, 1) := by decide +kernel
theorem d5_36 : decode prog_5_method_10_code 36 = .ok (.getfield 29, 3) := by decide +kernel
theorem d5_39 : decode prog_5_method_10_code 39 = .ok (.dsub, 1) := by decide +kernel
theorem d5_40 : decode prog_5_method_10_code 40 = .ok (.dsub, 1) := by decide +kernel
theorem d5_41 : decode prog_5_method_10_code 41 = .ok (.ldc2_w 74, 3) := by decide +kernel
theorem d5_44 : decode prog_5_method_10_code 44 = .ok (.ddiv, 1) := by decide +kernel
theorem d5_45 : decode prog_5_method_10_code 45 = .ok (.dreturn, 1) := by decide +kernel
def own_K5 : List (Nat × Value) := [(76, .double 4617315517961601024), (74, .double 4611686018427387904), (72, .double 4622945017495814144)]
theorem own_K5_ok : ∀ q ∈ own_K5, ∃ w ∈ tables_1, own_Word "com/example/hazeline/hazeline/fuzzy/Trapezoid" q.1 q.2 w := by
  intro q hq
  simp only [own_K5, List.mem_cons, List.not_mem_nil, or_false] at hq
  rcases hq with rfl | rfl | rfl
  · exact ⟨_, List.mem_of_getElem? (i := 37) rfl, rfl⟩
  · exact ⟨_, List.mem_of_getElem? (i := 38) rfl, rfl⟩
  · exact ⟨_, List.mem_of_getElem? (i := 41) rfl, rfl⟩
theorem own_pn5 : plainName "com/example/hazeline/hazeline/fuzzy/Trapezoid" = true := by first | (simp [plainName, overriddenIn]; done) | decide +kernel
theorem d6_0 : decode prog_5_method_12_code 0 = .ok (.aload_n 0, 1) := by decide +kernel
theorem d6_1 : decode prog_5_method_12_code 1 = .ok (.getfield 29, 3) := by decide +kernel
theorem d6_4 : decode prog_5_method_12_code 4 = .ok (.ldc2_w 76, 3) := by decide +kernel
theorem d6_7 : decode prog_5_method_12_code 7 = .ok (.aload_n 0, 1) := by decide +kernel
theorem d6_8 : decode prog_5_method_12_code 8 = .ok (.getfield 33, 3) := by decide +kernel
theorem d6_11 : decode prog_5_method_12_code 11 = .ok (.dmul, 1) := by decide +kernel
theorem d6_12 : decode prog_5_method_12_code 12 = .ok (.dadd, 1) := by decide +kernel
theorem d6_13 : decode prog_5_method_12_code 13 = .ok (.ldc2_w 76, 3) := by decide +kernel
theorem d6_16 : decode prog_5_method_12_code 16 = .ok (.aload_n 0, 1) := by decide +kernel
theorem d6_17 : decode prog_5_method_12_code 17 = .ok (.getfield 36, 3) := by decide +kernel
theorem d6_20 : decode prog_5_method_12_code 20 = .ok (.dmul, 1) := by decide +kernel
theorem d6_21 : decode prog_5_method_12_code 21 = .ok (.dadd, 1) := by decide +kernel
theorem d6_22 : decode prog_5_method_12_code 22 = .ok (.aload_n 0, 1) := by decide +kernel
theorem d6_23 : decode prog_5_method_12_code 23 = .ok (.getfield 39, 3) := by decide +kernel
theorem d6_26 : decode prog_5_method_12_code 26 = .ok (.dadd, 1) := by decide +kernel
theorem d6_27 : decode prog_5_method_12_code 27 = .ok (.dreturn, 1) := by decide +kernel
def own_K6 : List (Nat × Value) := [(76, .double 4617315517961601024), (74, .double 4611686018427387904), (72, .double 4622945017495814144)]
theorem own_K6_ok : ∀ q ∈ own_K6, ∃ w ∈ tables_1, own_Word "com/example/hazeline/hazeline/fuzzy/Trapezoid" q.1 q.2 w := by
  intro q hq
  simp only [own_K6, List.mem_cons, List.not_mem_nil, or_false] at hq
  rcases hq with rfl | rfl | rfl
  · exact ⟨_, List.mem_of_getElem? (i := 37) rfl, rfl⟩
  · exact ⟨_, List.mem_of_getElem? (i := 38) rfl, rfl⟩
  · exact ⟨_, List.mem_of_getElem? (i := 41) rfl, rfl⟩
theorem own_pn6 : plainName "com/example/hazeline/hazeline/fuzzy/Trapezoid" = true := by first | (simp [plainName, overriddenIn]; done) | decide +kernel
theorem own_pd0 : parseMethodDescriptor "()D" = some ⟨[], some .double⟩ := by decide +kernel
theorem own_pd1 : parseMethodDescriptor "()V" = some ⟨[], none⟩ := by decide +kernel
theorem own_pd2 : parseMethodDescriptor "(D)D" = some ⟨[.double], some .double⟩ := by decide +kernel
theorem own_pd3 : parseMethodDescriptor "(D)Z" = some ⟨[.double], some .boolean⟩ := by decide +kernel
theorem own_pd4 : parseMethodDescriptor "(DDDD)V" = some ⟨[.double, .double, .double, .double], none⟩ := by decide +kernel
theorem own_pd5 : parseMethodDescriptor "(Lcom/example/hazeline/hazeline/fuzzy/Trapezoid;)D" = some ⟨[(.object "com/example/hazeline/hazeline/fuzzy/Trapezoid")], some .double⟩ := by decide +kernel
theorem own_ef3 (m : MethodId) (x0 : UInt64) : entryFrame m #[(.double x0)] 2 = mkF m 0 #[.val (.double x0), .second] [] := by first | (simp [entryFrame, mkF, argsToLocals, Value.category]; done) | rfl

theorem own_maxv {v : UInt64} (h : Jvm.Free.Fl.Fin64 v) : ifCond.holds .gt (cmpValue (FP.dcmp (v &&& 0x7fffffffffffffff) (9218868437227405311 : UInt64)) .g) = false := by
  have h1 : FP.Core.DFin v := Jvm.Free.Fl.fin64_core.mp h
  rcases (FP.Core.le_max h1.notNaN).mpr h1 with q | q
  · rw [show FP.dcmp (v &&& 0x7fffffffffffffff) (9218868437227405311 : UInt64) = some .lt from q]; rfl
  · rw [show FP.dcmp (v &&& 0x7fffffffffffffff) (9218868437227405311 : UInt64) = some .eq from q]; rfl
theorem own_if0 (v : UInt64) :
    own_Go own_K3 jdk_117_method_8_code 0 #[.val (.double v), .second] [] 1 #[.val (.double v), .second] [(.double v)] := by
  refine own_dloadN (pc2 := 1) d3_0 rfl rfl ?_
  exact own_refl
theorem own_if1 (v : UInt64) (v7 : Int32) (hv7 : (cmpValue (FP.dcmp (v &&& 0x7fffffffffffffff) (9218868437227405311 : UInt64)) .g) = v7) (hb8 : ifCond.holds .gt v7 = false) :
    own_Go own_K3 jdk_117_method_8_code 4 #[.val (.double v), .second] [(.double (v &&& 0x7fffffffffffffff))] 16 #[.val (.double v), .second] [(.int (1 : Int32))] := by
  refine own_ldc2D (v := (9218868437227405311 : UInt64)) (pc2 := 7) d3_4 rfl (List.mem_of_getElem? (i := 0) rfl) ?_
  refine own_dcmp (pc2 := 8) d3_7 rfl (v := v7) hv7 ?_
  refine own_ifNo (pc2 := 11) d3_8 rfl hb8 ?_
  refine own_iconst (v := 1) (pc2 := 12) d3_11 rfl rfl ?_
  refine own_goto (pc' := 16) d3_12 (by decide) (by decide) ?_
  exact own_refl
set_option maxRecDepth 65536 in
set_option maxHeartbeats 4000000 in
theorem own_isfin (l : Launch) (Z : State) (a0 : Array Value) (hb0 : Heap) (hw : ∀ d ∈ tables_1, d.before a0 Z = true) (v : UInt64) (hf : Jvm.Free.Fl.Fin64 v) (cs : List (Addr × own_Cel)) :
    own_Met l Z a0 hb0 (⟨"java/lang/Double", "isFinite", "(D)Z"⟩ : MethodName) jdk_117_method_8_code 2 (some .boolean) [] ({ frames := 1, cells := 0, slots := 0, locals := 13 } : Room) #[(.double v)] cs (fun r cs' => r = some (.int 1) ∧ cs' = cs) := by
  refine own_met_of (L0 := #[.val (.double v), .second]) own_pn3 (fun m => own_ef3 m v) ?_
  have hn := hf.noNaN
  intro p e s m below meth c T0 hx hZ hown hby hml hnm H0
  obtain ⟨Tif1, Hif1, stif1⟩ := own_absD H0 hx hZ hown (hw _ (List.mem_of_getElem? (i := 15) rfl)) (hw _ (List.mem_of_getElem? (i := 16) rfl)) (hw _ (List.mem_of_getElem? (i := 17) rfl)) (hw _ (List.mem_of_getElem? (i := 18) rfl)) hn (W := 0) (rest := []) (by decide) (by decide) (by decide) (by decide) (g := (mkF m 1 #[.val (.double v), .second] [(.double v)])) rfl (by rw [hml]; rfl) rfl (by show 2 * 0 + _ ≤ _; exact Nat.le_of_eq rfl) (hb hby d3_1)
  obtain ⟨v7, hv7⟩ : ∃ z : Int32, (cmpValue (FP.dcmp (v &&& 0x7fffffffffffffff) (9218868437227405311 : UInt64)) .g) = z := ⟨_, rfl⟩
  have hb8 : ifCond.holds .gt v7 = false := by rw [← hv7]; exact own_maxv hf
  refine ⟨_, _, _, _, 16, #[.val (.double v), .second], Hif1, by decide, by decide, Or.inr ⟨.boolean, (.int (1 : Int32)), [], .ireturn, rfl, ⟨rfl, rfl⟩, d3_16, own_retZ (Or.inr rfl), fun target q => ?_⟩⟩
  refine own_go H0 hx hZ hown hby hw own_K3_ok (own_if0 v) _ ?_
  refine stif1 _ ?_
  refine own_go Hif1 hx hZ hown hby hw own_K3_ok (own_if1 v v7 hv7 hb8) _ ?_
  exact q
theorem own_ef1 (m : MethodId) (x0 : Addr) (x1 : UInt64) (x2 : UInt64) (x3 : UInt64) (x4 : UInt64) : entryFrame m #[(.ref x0), (.double x1), (.double x2), (.double x3), (.double x4)] 9 = mkF m 0 #[.val (.ref x0), .val (.double x1), .second, .val (.double x2), .second, .val (.double x3), .second, .val (.double x4), .second] [] := by first | (simp [entryFrame, mkF, argsToLocals, Value.category]; done) | rfl
theorem own_ta0 (x : Addr) (ta : UInt64) (tb : UInt64) (tc : UInt64) (td : UInt64) :
    own_Go own_K1 prog_5_method_1_code 0 #[.val (.ref x), .val (.double ta), .second, .val (.double tb), .second, .val (.double tc), .second, .val (.double td), .second] [] 1 #[.val (.ref x), .val (.double ta), .second, .val (.double tb), .second, .val (.double tc), .second, .val (.double td), .second] [(.ref x)] := by
  refine own_aloadN (pc2 := 1) d1_0 rfl rfl rfl ?_
  exact own_refl
theorem own_ta1 (x : Addr) (ta : UInt64) (tb : UInt64) (tc : UInt64) (td : UInt64) :
    own_Go own_K1 prog_5_method_1_code 4 #[.val (.ref x), .val (.double ta), .second, .val (.double tb), .second, .val (.double tc), .second, .val (.double td), .second] [] 5 #[.val (.ref x), .val (.double ta), .second, .val (.double tb), .second, .val (.double tc), .second, .val (.double td), .second] [(.double ta)] := by
  refine own_dloadN (pc2 := 5) d1_4 rfl rfl ?_
  exact own_refl
theorem own_ta2 (x : Addr) (ta : UInt64) (tb : UInt64) (tc : UInt64) (td : UInt64) (hb8 : ifCond.holds .eq (1 : Int32) = false) :
    own_Go own_K1 prog_5_method_1_code 8 #[.val (.ref x), .val (.double ta), .second, .val (.double tb), .second, .val (.double tc), .second, .val (.double td), .second] [(.int (1 : Int32))] 12 #[.val (.ref x), .val (.double ta), .second, .val (.double tb), .second, .val (.double tc), .second, .val (.double td), .second] [(.double tb)] := by
  refine own_ifNo (pc2 := 11) d1_8 rfl hb8 ?_
  refine own_dloadN (pc2 := 12) d1_11 rfl rfl ?_
  exact own_refl
theorem own_ta3 (x : Addr) (ta : UInt64) (tb : UInt64) (tc : UInt64) (td : UInt64) (hb15 : ifCond.holds .eq (1 : Int32) = false) :
    own_Go own_K1 prog_5_method_1_code 15 #[.val (.ref x), .val (.double ta), .second, .val (.double tb), .second, .val (.double tc), .second, .val (.double td), .second] [(.int (1 : Int32))] 20 #[.val (.ref x), .val (.double ta), .second, .val (.double tb), .second, .val (.double tc), .second, .val (.double td), .second] [(.double tc)] := by
  refine own_ifNo (pc2 := 18) d1_15 rfl hb15 ?_
  refine own_dload (pc2 := 20) d1_18 rfl rfl ?_
  exact own_refl
theorem own_ta4 (x : Addr) (ta : UInt64) (tb : UInt64) (tc : UInt64) (td : UInt64) (hb23 : ifCond.holds .eq (1 : Int32) = false) :
    own_Go own_K1 prog_5_method_1_code 23 #[.val (.ref x), .val (.double ta), .second, .val (.double tb), .second, .val (.double tc), .second, .val (.double td), .second] [(.int (1 : Int32))] 28 #[.val (.ref x), .val (.double ta), .second, .val (.double tb), .second, .val (.double tc), .second, .val (.double td), .second] [(.double td)] := by
  refine own_ifNo (pc2 := 26) d1_23 rfl hb23 ?_
  refine own_dload (pc2 := 28) d1_26 rfl rfl ?_
  exact own_refl
theorem own_ta5 (x : Addr) (ta : UInt64) (tb : UInt64) (tc : UInt64) (td : UInt64) (hb31 : ifCond.holds .ne (1 : Int32) = true) (v58 : Int32) (hv58 : (cmpValue (FP.dcmp ta tb) .g) = v58) (hb59 : ifCond.holds .gt v58 = false) (v65 : Int32) (hv65 : (cmpValue (FP.dcmp tb tc) .g) = v65) (hb66 : ifCond.holds .gt v65 = false) (v73 : Int32) (hv73 : (cmpValue (FP.dcmp tc td) .g) = v73) (hb74 : ifCond.holds .le v73 = true) :
    own_Go own_K1 prog_5_method_1_code 31 #[.val (.ref x), .val (.double ta), .second, .val (.double tb), .second, .val (.double tc), .second, .val (.double td), .second] [(.int (1 : Int32))] 101 #[.val (.ref x), .val (.double ta), .second, .val (.double tb), .second, .val (.double tc), .second, .val (.double td), .second] [(.double ta), (.ref x)] := by
  refine own_ifYes (pc' := 56) d1_31 hb31 (by decide) (by decide) ?_
  refine own_dloadN (pc2 := 57) d1_56 rfl rfl ?_
  refine own_dloadN (pc2 := 58) d1_57 rfl rfl ?_
  refine own_dcmp (pc2 := 59) d1_58 rfl (v := v58) hv58 ?_
  refine own_ifNo (pc2 := 62) d1_59 rfl hb59 ?_
  refine own_dloadN (pc2 := 63) d1_62 rfl rfl ?_
  refine own_dload (pc2 := 65) d1_63 rfl rfl ?_
  refine own_dcmp (pc2 := 66) d1_65 rfl (v := v65) hv65 ?_
  refine own_ifNo (pc2 := 69) d1_66 rfl hb66 ?_
  refine own_dload (pc2 := 71) d1_69 rfl rfl ?_
  refine own_dload (pc2 := 73) d1_71 rfl rfl ?_
  refine own_dcmp (pc2 := 74) d1_73 rfl (v := v73) hv73 ?_
  refine own_ifYes (pc' := 99) d1_74 hb74 (by decide) (by decide) ?_
  refine own_aloadN (pc2 := 100) d1_99 rfl rfl rfl ?_
  refine own_dloadN (pc2 := 101) d1_100 rfl rfl ?_
  exact own_refl
theorem own_ta6 (x : Addr) (ta : UInt64) (tb : UInt64) (tc : UInt64) (td : UInt64) :
    own_Go own_K1 prog_5_method_1_code 104 #[.val (.ref x), .val (.double ta), .second, .val (.double tb), .second, .val (.double tc), .second, .val (.double td), .second] [] 106 #[.val (.ref x), .val (.double ta), .second, .val (.double tb), .second, .val (.double tc), .second, .val (.double td), .second] [(.double tb), (.ref x)] := by
  refine own_aloadN (pc2 := 105) d1_104 rfl rfl rfl ?_
  refine own_dloadN (pc2 := 106) d1_105 rfl rfl ?_
  exact own_refl
theorem own_ta7 (x : Addr) (ta : UInt64) (tb : UInt64) (tc : UInt64) (td : UInt64) :
    own_Go own_K1 prog_5_method_1_code 109 #[.val (.ref x), .val (.double ta), .second, .val (.double tb), .second, .val (.double tc), .second, .val (.double td), .second] [] 112 #[.val (.ref x), .val (.double ta), .second, .val (.double tb), .second, .val (.double tc), .second, .val (.double td), .second] [(.double tc), (.ref x)] := by
  refine own_aloadN (pc2 := 110) d1_109 rfl rfl rfl ?_
  refine own_dload (pc2 := 112) d1_110 rfl rfl ?_
  exact own_refl
theorem own_ta8 (x : Addr) (ta : UInt64) (tb : UInt64) (tc : UInt64) (td : UInt64) :
    own_Go own_K1 prog_5_method_1_code 115 #[.val (.ref x), .val (.double ta), .second, .val (.double tb), .second, .val (.double tc), .second, .val (.double td), .second] [] 118 #[.val (.ref x), .val (.double ta), .second, .val (.double tb), .second, .val (.double tc), .second, .val (.double td), .second] [(.double td), (.ref x)] := by
  refine own_aloadN (pc2 := 116) d1_115 rfl rfl rfl ?_
  refine own_dload (pc2 := 118) d1_116 rfl rfl ?_
  exact own_refl
set_option maxRecDepth 65536 in
set_option maxHeartbeats 4000000 in
theorem own_tam (l : Launch) (Z : State) (a0 : Array Value) (hb0 : Heap) (hw : ∀ d ∈ tables_1, d.before a0 Z = true) (x : Addr) (ta : UInt64) (tb : UInt64) (tc : UInt64) (td : UInt64)  (fa : Jvm.Free.Fl.Fin64 ta) (fb : Jvm.Free.Fl.Fin64 tb) (fc : Jvm.Free.Fl.Fin64 tc) (fd : Jvm.Free.Fl.Fin64 td) (h1 : ifCond.holds .gt (cmpValue (FP.dcmp ta tb) .g) = false) (h2 : ifCond.holds .gt (cmpValue (FP.dcmp tb tc) .g) = false) (h3 : ifCond.holds .le (cmpValue (FP.dcmp tc td) .g) = true) :
    own_Met l Z a0 hb0 (⟨"com/example/hazeline/hazeline/fuzzy/Trapezoid", "<init>", "(DDDD)V"⟩ : MethodName) prog_5_method_1_code 9 none [] ({ frames := 2, cells := 0, slots := 0, locals := 28 } : Room) #[(.ref x), (.double ta), (.double tb), (.double tc), (.double td)] [(x, own_O "com/example/hazeline/hazeline/fuzzy/Trapezoid" [("com/example/hazeline/hazeline/fuzzy/Trapezoid", "a", "D", .double 0), ("com/example/hazeline/hazeline/fuzzy/Trapezoid", "b", "D", .double 0), ("com/example/hazeline/hazeline/fuzzy/Trapezoid", "c", "D", .double 0), ("com/example/hazeline/hazeline/fuzzy/Trapezoid", "d", "D", .double 0)])] (fun r cs' => r = none ∧ cs' = [(x, own_O "com/example/hazeline/hazeline/fuzzy/Trapezoid" [("com/example/hazeline/hazeline/fuzzy/Trapezoid", "a", "D", .double ta), ("com/example/hazeline/hazeline/fuzzy/Trapezoid", "b", "D", .double tb), ("com/example/hazeline/hazeline/fuzzy/Trapezoid", "c", "D", .double tc), ("com/example/hazeline/hazeline/fuzzy/Trapezoid", "d", "D", .double td)])]) := by
  refine own_met_of (L0 := #[.val (.ref x), .val (.double ta), .second, .val (.double tb), .second, .val (.double tc), .second, .val (.double td), .second]) own_pn1 (fun m => own_ef1 m x ta tb tc td) ?_
  intro p e s m below meth c T0 hx hZ hown hby hml hnm H0
  obtain ⟨Tta1, Hta1, stta1⟩ := own_initO H0 hx hZ hown (hw _ (List.mem_of_getElem? (i := 8) rfl)) (hw _ (List.mem_of_getElem? (i := 9) rfl)) (hw _ (List.mem_of_getElem? (i := 10) rfl)) (g := (mkF m 1 #[.val (.ref x), .val (.double ta), .second, .val (.double tb), .second, .val (.double tc), .second, .val (.double td), .second] [(.ref x)])) rfl (by rw [hml]; rfl) rfl (hb hby d1_1) (by decide) (W := 0) (by show 2 * 0 + _ ≤ _; exact Nat.le_of_eq rfl) (by decide)
  change own_S _ _ _ _ _ _ _ _ _ _ _ _ _ _ [(x, own_O "com/example/hazeline/hazeline/fuzzy/Trapezoid" [("com/example/hazeline/hazeline/fuzzy/Trapezoid", "a", "D", .double 0), ("com/example/hazeline/hazeline/fuzzy/Trapezoid", "b", "D", .double 0), ("com/example/hazeline/hazeline/fuzzy/Trapezoid", "c", "D", .double 0), ("com/example/hazeline/hazeline/fuzzy/Trapezoid", "d", "D", .double 0)])] _ _ at Hta1
  obtain ⟨Tta2, vta2_, csta2_, qta2, Hta2, stta2⟩ := own_callS Hta1 hx hZ hown (hw _ (List.mem_of_getElem? (i := 11) rfl)) (hw _ (List.mem_of_getElem? (i := 12) rfl)) (hw _ (List.mem_of_getElem? (i := 13) rfl)) (hw _ (List.mem_of_getElem? (i := 14) rfl)) (by decide) (argsL := [(.double ta)]) (rest := []) (W := 0) (own_isfin l Z a0 hb0 hw ta fa _) (by decide) (by decide) (by decide) (by decide) (g := (mkF m 5 #[.val (.ref x), .val (.double ta), .second, .val (.double tb), .second, .val (.double tc), .second, .val (.double td), .second] [(.double ta)])) rfl (by rw [hml]; rfl) (lenOf own_pd3 rfl) rfl (by show 2 * 0 + _ ≤ _; exact Nat.le_of_eq rfl) (hb hby d1_5)
  obtain ⟨rfl, rfl⟩ := qta2
  change own_S _ _ _ _ _ _ _ _ _ _ _ _ _ _ [(x, own_O "com/example/hazeline/hazeline/fuzzy/Trapezoid" [("com/example/hazeline/hazeline/fuzzy/Trapezoid", "a", "D", .double 0), ("com/example/hazeline/hazeline/fuzzy/Trapezoid", "b", "D", .double 0), ("com/example/hazeline/hazeline/fuzzy/Trapezoid", "c", "D", .double 0), ("com/example/hazeline/hazeline/fuzzy/Trapezoid", "d", "D", .double 0)])] _ _ at Hta2
  obtain ⟨Tta3, vta3_, csta3_, qta3, Hta3, stta3⟩ := own_callS Hta2 hx hZ hown (hw _ (List.mem_of_getElem? (i := 11) rfl)) (hw _ (List.mem_of_getElem? (i := 12) rfl)) (hw _ (List.mem_of_getElem? (i := 13) rfl)) (hw _ (List.mem_of_getElem? (i := 14) rfl)) (by decide) (argsL := [(.double tb)]) (rest := []) (W := 0) (own_isfin l Z a0 hb0 hw tb fb _) (by decide) (by decide) (by decide) (by decide) (g := (mkF m 12 #[.val (.ref x), .val (.double ta), .second, .val (.double tb), .second, .val (.double tc), .second, .val (.double td), .second] [(.double tb)])) rfl (by rw [hml]; rfl) (lenOf own_pd3 rfl) rfl (by show 2 * 0 + _ ≤ _; exact Nat.le_of_eq rfl) (hb hby d1_12)
  obtain ⟨rfl, rfl⟩ := qta3
  change own_S _ _ _ _ _ _ _ _ _ _ _ _ _ _ [(x, own_O "com/example/hazeline/hazeline/fuzzy/Trapezoid" [("com/example/hazeline/hazeline/fuzzy/Trapezoid", "a", "D", .double 0), ("com/example/hazeline/hazeline/fuzzy/Trapezoid", "b", "D", .double 0), ("com/example/hazeline/hazeline/fuzzy/Trapezoid", "c", "D", .double 0), ("com/example/hazeline/hazeline/fuzzy/Trapezoid", "d", "D", .double 0)])] _ _ at Hta3
  obtain ⟨Tta4, vta4_, csta4_, qta4, Hta4, stta4⟩ := own_callS Hta3 hx hZ hown (hw _ (List.mem_of_getElem? (i := 11) rfl)) (hw _ (List.mem_of_getElem? (i := 12) rfl)) (hw _ (List.mem_of_getElem? (i := 13) rfl)) (hw _ (List.mem_of_getElem? (i := 14) rfl)) (by decide) (argsL := [(.double tc)]) (rest := []) (W := 0) (own_isfin l Z a0 hb0 hw tc fc _) (by decide) (by decide) (by decide) (by decide) (g := (mkF m 20 #[.val (.ref x), .val (.double ta), .second, .val (.double tb), .second, .val (.double tc), .second, .val (.double td), .second] [(.double tc)])) rfl (by rw [hml]; rfl) (lenOf own_pd3 rfl) rfl (by show 2 * 0 + _ ≤ _; exact Nat.le_of_eq rfl) (hb hby d1_20)
  obtain ⟨rfl, rfl⟩ := qta4
  change own_S _ _ _ _ _ _ _ _ _ _ _ _ _ _ [(x, own_O "com/example/hazeline/hazeline/fuzzy/Trapezoid" [("com/example/hazeline/hazeline/fuzzy/Trapezoid", "a", "D", .double 0), ("com/example/hazeline/hazeline/fuzzy/Trapezoid", "b", "D", .double 0), ("com/example/hazeline/hazeline/fuzzy/Trapezoid", "c", "D", .double 0), ("com/example/hazeline/hazeline/fuzzy/Trapezoid", "d", "D", .double 0)])] _ _ at Hta4
  obtain ⟨Tta5, vta5_, csta5_, qta5, Hta5, stta5⟩ := own_callS Hta4 hx hZ hown (hw _ (List.mem_of_getElem? (i := 11) rfl)) (hw _ (List.mem_of_getElem? (i := 12) rfl)) (hw _ (List.mem_of_getElem? (i := 13) rfl)) (hw _ (List.mem_of_getElem? (i := 14) rfl)) (by decide) (argsL := [(.double td)]) (rest := []) (W := 0) (own_isfin l Z a0 hb0 hw td fd _) (by decide) (by decide) (by decide) (by decide) (g := (mkF m 28 #[.val (.ref x), .val (.double ta), .second, .val (.double tb), .second, .val (.double tc), .second, .val (.double td), .second] [(.double td)])) rfl (by rw [hml]; rfl) (lenOf own_pd3 rfl) rfl (by show 2 * 0 + _ ≤ _; exact Nat.le_of_eq rfl) (hb hby d1_28)
  obtain ⟨rfl, rfl⟩ := qta5
  change own_S _ _ _ _ _ _ _ _ _ _ _ _ _ _ [(x, own_O "com/example/hazeline/hazeline/fuzzy/Trapezoid" [("com/example/hazeline/hazeline/fuzzy/Trapezoid", "a", "D", .double 0), ("com/example/hazeline/hazeline/fuzzy/Trapezoid", "b", "D", .double 0), ("com/example/hazeline/hazeline/fuzzy/Trapezoid", "c", "D", .double 0), ("com/example/hazeline/hazeline/fuzzy/Trapezoid", "d", "D", .double 0)])] _ _ at Hta5
  obtain ⟨v58, hv58⟩ : ∃ z : Int32, (cmpValue (FP.dcmp ta tb) .g) = z := ⟨_, rfl⟩
  obtain ⟨v65, hv65⟩ : ∃ z : Int32, (cmpValue (FP.dcmp tb tc) .g) = z := ⟨_, rfl⟩
  obtain ⟨v73, hv73⟩ : ∃ z : Int32, (cmpValue (FP.dcmp tc td) .g) = z := ⟨_, rfl⟩
  obtain ⟨Tta6, Hta6, stta6⟩ := own_putF Hta5 hx hZ hown (hw _ (List.mem_of_getElem? (i := 20) rfl)) 0 0 rfl rfl (Or.inr ⟨(hw _ (List.mem_of_getElem? (i := 21) rfl)), rfl, hnm⟩) (hw _ (List.mem_of_getElem? (i := 3) rfl)) (ty := .double) (by decide) rfl rfl (g := (mkF m 101 #[.val (.ref x), .val (.double ta), .second, .val (.double tb), .second, .val (.double tc), .second, .val (.double td), .second] [(.double ta), (.ref x)])) rfl rfl (hb hby d1_101)
  change own_S _ _ _ _ _ _ _ _ _ _ _ _ _ _ [(x, own_O "com/example/hazeline/hazeline/fuzzy/Trapezoid" [("com/example/hazeline/hazeline/fuzzy/Trapezoid", "a", "D", .double ta), ("com/example/hazeline/hazeline/fuzzy/Trapezoid", "b", "D", .double 0), ("com/example/hazeline/hazeline/fuzzy/Trapezoid", "c", "D", .double 0), ("com/example/hazeline/hazeline/fuzzy/Trapezoid", "d", "D", .double 0)])] _ _ at Hta6
  obtain ⟨Tta7, Hta7, stta7⟩ := own_putF Hta6 hx hZ hown (hw _ (List.mem_of_getElem? (i := 22) rfl)) 0 1 rfl rfl (Or.inr ⟨(hw _ (List.mem_of_getElem? (i := 23) rfl)), rfl, hnm⟩) (hw _ (List.mem_of_getElem? (i := 3) rfl)) (ty := .double) (by decide) rfl rfl (g := (mkF m 106 #[.val (.ref x), .val (.double ta), .second, .val (.double tb), .second, .val (.double tc), .second, .val (.double td), .second] [(.double tb), (.ref x)])) rfl rfl (hb hby d1_106)
  change own_S _ _ _ _ _ _ _ _ _ _ _ _ _ _ [(x, own_O "com/example/hazeline/hazeline/fuzzy/Trapezoid" [("com/example/hazeline/hazeline/fuzzy/Trapezoid", "a", "D", .double ta), ("com/example/hazeline/hazeline/fuzzy/Trapezoid", "b", "D", .double tb), ("com/example/hazeline/hazeline/fuzzy/Trapezoid", "c", "D", .double 0), ("com/example/hazeline/hazeline/fuzzy/Trapezoid", "d", "D", .double 0)])] _ _ at Hta7
  obtain ⟨Tta8, Hta8, stta8⟩ := own_putF Hta7 hx hZ hown (hw _ (List.mem_of_getElem? (i := 24) rfl)) 0 2 rfl rfl (Or.inr ⟨(hw _ (List.mem_of_getElem? (i := 25) rfl)), rfl, hnm⟩) (hw _ (List.mem_of_getElem? (i := 3) rfl)) (ty := .double) (by decide) rfl rfl (g := (mkF m 112 #[.val (.ref x), .val (.double ta), .second, .val (.double tb), .second, .val (.double tc), .second, .val (.double td), .second] [(.double tc), (.ref x)])) rfl rfl (hb hby d1_112)
  change own_S _ _ _ _ _ _ _ _ _ _ _ _ _ _ [(x, own_O "com/example/hazeline/hazeline/fuzzy/Trapezoid" [("com/example/hazeline/hazeline/fuzzy/Trapezoid", "a", "D", .double ta), ("com/example/hazeline/hazeline/fuzzy/Trapezoid", "b", "D", .double tb), ("com/example/hazeline/hazeline/fuzzy/Trapezoid", "c", "D", .double tc), ("com/example/hazeline/hazeline/fuzzy/Trapezoid", "d", "D", .double 0)])] _ _ at Hta8
  obtain ⟨Tta9, Hta9, stta9⟩ := own_putF Hta8 hx hZ hown (hw _ (List.mem_of_getElem? (i := 26) rfl)) 0 3 rfl rfl (Or.inr ⟨(hw _ (List.mem_of_getElem? (i := 27) rfl)), rfl, hnm⟩) (hw _ (List.mem_of_getElem? (i := 3) rfl)) (ty := .double) (by decide) rfl rfl (g := (mkF m 118 #[.val (.ref x), .val (.double ta), .second, .val (.double tb), .second, .val (.double tc), .second, .val (.double td), .second] [(.double td), (.ref x)])) rfl rfl (hb hby d1_118)
  change own_S _ _ _ _ _ _ _ _ _ _ _ _ _ _ [(x, own_O "com/example/hazeline/hazeline/fuzzy/Trapezoid" [("com/example/hazeline/hazeline/fuzzy/Trapezoid", "a", "D", .double ta), ("com/example/hazeline/hazeline/fuzzy/Trapezoid", "b", "D", .double tb), ("com/example/hazeline/hazeline/fuzzy/Trapezoid", "c", "D", .double tc), ("com/example/hazeline/hazeline/fuzzy/Trapezoid", "d", "D", .double td)])] _ _ at Hta9
  have hb8 : ifCond.holds .eq (1 : Int32) = false := by decide
  have hb15 : ifCond.holds .eq (1 : Int32) = false := by decide
  have hb23 : ifCond.holds .eq (1 : Int32) = false := by decide
  have hb31 : ifCond.holds .ne (1 : Int32) = true := by decide
  have hb59 : ifCond.holds .gt v58 = false := by rw [← hv58]; exact h1
  have hb66 : ifCond.holds .gt v65 = false := by rw [← hv65]; exact h2
  have hb74 : ifCond.holds .le v73 = true := by rw [← hv73]; exact h3
  refine ⟨_, _, _, _, 121, #[.val (.ref x), .val (.double ta), .second, .val (.double tb), .second, .val (.double tc), .second, .val (.double td), .second], Hta9, by decide, by decide, Or.inl ⟨rfl, ⟨rfl, rfl⟩, d1_121, fun target q => ?_⟩⟩
  refine own_go H0 hx hZ hown hby hw own_K1_ok (own_ta0 x ta tb tc td) _ ?_
  refine stta1 _ ?_
  refine own_go Hta1 hx hZ hown hby hw own_K1_ok (own_ta1 x ta tb tc td) _ ?_
  refine stta2 _ ?_
  refine own_go Hta2 hx hZ hown hby hw own_K1_ok (own_ta2 x ta tb tc td hb8) _ ?_
  refine stta3 _ ?_
  refine own_go Hta3 hx hZ hown hby hw own_K1_ok (own_ta3 x ta tb tc td hb15) _ ?_
  refine stta4 _ ?_
  refine own_go Hta4 hx hZ hown hby hw own_K1_ok (own_ta4 x ta tb tc td hb23) _ ?_
  refine stta5 _ ?_
  refine own_go Hta5 hx hZ hown hby hw own_K1_ok (own_ta5 x ta tb tc td hb31 v58 hv58 hb59 v65 hv65 hb66 v73 hv73 hb74) _ ?_
  refine stta6 _ ?_
  refine own_go Hta6 hx hZ hown hby hw own_K1_ok (own_ta6 x ta tb tc td) _ ?_
  refine stta7 _ ?_
  refine own_go Hta7 hx hZ hown hby hw own_K1_ok (own_ta7 x ta tb tc td) _ ?_
  refine stta8 _ ?_
  refine own_go Hta8 hx hZ hown hby hw own_K1_ok (own_ta8 x ta tb tc td) _ ?_
  refine stta9 _ ?_
  exact q
theorem own_tb0 (x : Addr) (ta : UInt64) (tb : UInt64) (tc : UInt64) (td : UInt64) :
    own_Go own_K1 prog_5_method_1_code 0 #[.val (.ref x), .val (.double ta), .second, .val (.double tb), .second, .val (.double tc), .second, .val (.double td), .second] [] 1 #[.val (.ref x), .val (.double ta), .second, .val (.double tb), .second, .val (.double tc), .second, .val (.double td), .second] [(.ref x)] := by
  refine own_aloadN (pc2 := 1) d1_0 rfl rfl rfl ?_
  exact own_refl
theorem own_tb1 (x : Addr) (ta : UInt64) (tb : UInt64) (tc : UInt64) (td : UInt64) :
    own_Go own_K1 prog_5_method_1_code 4 #[.val (.ref x), .val (.double ta), .second, .val (.double tb), .second, .val (.double tc), .second, .val (.double td), .second] [] 5 #[.val (.ref x), .val (.double ta), .second, .val (.double tb), .second, .val (.double tc), .second, .val (.double td), .second] [(.double ta)] := by
  refine own_dloadN (pc2 := 5) d1_4 rfl rfl ?_
  exact own_refl
theorem own_tb2 (x : Addr) (ta : UInt64) (tb : UInt64) (tc : UInt64) (td : UInt64) (hb8 : ifCond.holds .eq (1 : Int32) = false) :
    own_Go own_K1 prog_5_method_1_code 8 #[.val (.ref x), .val (.double ta), .second, .val (.double tb), .second, .val (.double tc), .second, .val (.double td), .second] [(.int (1 : Int32))] 12 #[.val (.ref x), .val (.double ta), .second, .val (.double tb), .second, .val (.double tc), .second, .val (.double td), .second] [(.double tb)] := by
  refine own_ifNo (pc2 := 11) d1_8 rfl hb8 ?_
  refine own_dloadN (pc2 := 12) d1_11 rfl rfl ?_
  exact own_refl
theorem own_tb3 (x : Addr) (ta : UInt64) (tb : UInt64) (tc : UInt64) (td : UInt64) (hb15 : ifCond.holds .eq (1 : Int32) = false) :
    own_Go own_K1 prog_5_method_1_code 15 #[.val (.ref x), .val (.double ta), .second, .val (.double tb), .second, .val (.double tc), .second, .val (.double td), .second] [(.int (1 : Int32))] 20 #[.val (.ref x), .val (.double ta), .second, .val (.double tb), .second, .val (.double tc), .second, .val (.double td), .second] [(.double tc)] := by
  refine own_ifNo (pc2 := 18) d1_15 rfl hb15 ?_
  refine own_dload (pc2 := 20) d1_18 rfl rfl ?_
  exact own_refl
theorem own_tb4 (x : Addr) (ta : UInt64) (tb : UInt64) (tc : UInt64) (td : UInt64) (hb23 : ifCond.holds .eq (1 : Int32) = false) :
    own_Go own_K1 prog_5_method_1_code 23 #[.val (.ref x), .val (.double ta), .second, .val (.double tb), .second, .val (.double tc), .second, .val (.double td), .second] [(.int (1 : Int32))] 28 #[.val (.ref x), .val (.double ta), .second, .val (.double tb), .second, .val (.double tc), .second, .val (.double td), .second] [(.double td)] := by
  refine own_ifNo (pc2 := 26) d1_23 rfl hb23 ?_
  refine own_dload (pc2 := 28) d1_26 rfl rfl ?_
  exact own_refl
theorem own_tb5 (x : Addr) (ta : UInt64) (tb : UInt64) (tc : UInt64) (td : UInt64) (hb31 : ifCond.holds .ne (1 : Int32) = true) (v58 : Int32) (hv58 : (cmpValue (FP.dcmp ta tb) .g) = v58) (hb59 : ifCond.holds .gt v58 = false) (v65 : Int32) (hv65 : (cmpValue (FP.dcmp tb tc) .g) = v65) (hb66 : ifCond.holds .gt v65 = false) (v73 : Int32) (hv73 : (cmpValue (FP.dcmp tc td) .g) = v73) (hb74 : ifCond.holds .le v73 = true) :
    own_Go own_K1 prog_5_method_1_code 31 #[.val (.ref x), .val (.double ta), .second, .val (.double tb), .second, .val (.double tc), .second, .val (.double td), .second] [(.int (1 : Int32))] 101 #[.val (.ref x), .val (.double ta), .second, .val (.double tb), .second, .val (.double tc), .second, .val (.double td), .second] [(.double ta), (.ref x)] := by
  refine own_ifYes (pc' := 56) d1_31 hb31 (by decide) (by decide) ?_
  refine own_dloadN (pc2 := 57) d1_56 rfl rfl ?_
  refine own_dloadN (pc2 := 58) d1_57 rfl rfl ?_
  refine own_dcmp (pc2 := 59) d1_58 rfl (v := v58) hv58 ?_
  refine own_ifNo (pc2 := 62) d1_59 rfl hb59 ?_
  refine own_dloadN (pc2 := 63) d1_62 rfl rfl ?_
  refine own_dload (pc2 := 65) d1_63 rfl rfl ?_
  refine own_dcmp (pc2 := 66) d1_65 rfl (v := v65) hv65 ?_
  refine own_ifNo (pc2 := 69) d1_66 rfl hb66 ?_
  refine own_dload (pc2 := 71) d1_69 rfl rfl ?_
  refine own_dload (pc2 := 73) d1_71 rfl rfl ?_
  refine own_dcmp (pc2 := 74) d1_73 rfl (v := v73) hv73 ?_
  refine own_ifYes (pc' := 99) d1_74 hb74 (by decide) (by decide) ?_
  refine own_aloadN (pc2 := 100) d1_99 rfl rfl rfl ?_
  refine own_dloadN (pc2 := 101) d1_100 rfl rfl ?_
  exact own_refl
theorem own_tb6 (x : Addr) (ta : UInt64) (tb : UInt64) (tc : UInt64) (td : UInt64) :
    own_Go own_K1 prog_5_method_1_code 104 #[.val (.ref x), .val (.double ta), .second, .val (.double tb), .second, .val (.double tc), .second, .val (.double td), .second] [] 106 #[.val (.ref x), .val (.double ta), .second, .val (.double tb), .second, .val (.double tc), .second, .val (.double td), .second] [(.double tb), (.ref x)] := by
  refine own_aloadN (pc2 := 105) d1_104 rfl rfl rfl ?_
  refine own_dloadN (pc2 := 106) d1_105 rfl rfl ?_
  exact own_refl
theorem own_tb7 (x : Addr) (ta : UInt64) (tb : UInt64) (tc : UInt64) (td : UInt64) :
    own_Go own_K1 prog_5_method_1_code 109 #[.val (.ref x), .val (.double ta), .second, .val (.double tb), .second, .val (.double tc), .second, .val (.double td), .second] [] 112 #[.val (.ref x), .val (.double ta), .second, .val (.double tb), .second, .val (.double tc), .second, .val (.double td), .second] [(.double tc), (.ref x)] := by
  refine own_aloadN (pc2 := 110) d1_109 rfl rfl rfl ?_
  refine own_dload (pc2 := 112) d1_110 rfl rfl ?_
  exact own_refl
theorem own_tb8 (x : Addr) (ta : UInt64) (tb : UInt64) (tc : UInt64) (td : UInt64) :
    own_Go own_K1 prog_5_method_1_code 115 #[.val (.ref x), .val (.double ta), .second, .val (.double tb), .second, .val (.double tc), .second, .val (.double td), .second] [] 118 #[.val (.ref x), .val (.double ta), .second, .val (.double tb), .second, .val (.double tc), .second, .val (.double td), .second] [(.double td), (.ref x)] := by
  refine own_aloadN (pc2 := 116) d1_115 rfl rfl rfl ?_
  refine own_dload (pc2 := 118) d1_116 rfl rfl ?_
  exact own_refl
set_option maxRecDepth 65536 in
set_option maxHeartbeats 4000000 in
theorem own_tbm (l : Launch) (Z : State) (a0 : Array Value) (hb0 : Heap) (hw : ∀ d ∈ tables_1, d.before a0 Z = true) (x : Addr) (ta : UInt64) (tb : UInt64) (tc : UInt64) (td : UInt64)  (z0 : Addr) (q0 : own_Cel) (fa : Jvm.Free.Fl.Fin64 ta) (fb : Jvm.Free.Fl.Fin64 tb) (fc : Jvm.Free.Fl.Fin64 tc) (fd : Jvm.Free.Fl.Fin64 td) (h1 : ifCond.holds .gt (cmpValue (FP.dcmp ta tb) .g) = false) (h2 : ifCond.holds .gt (cmpValue (FP.dcmp tb tc) .g) = false) (h3 : ifCond.holds .le (cmpValue (FP.dcmp tc td) .g) = true) :
    own_Met l Z a0 hb0 (⟨"com/example/hazeline/hazeline/fuzzy/Trapezoid", "<init>", "(DDDD)V"⟩ : MethodName) prog_5_method_1_code 9 none [] ({ frames := 2, cells := 0, slots := 0, locals := 28 } : Room) #[(.ref x), (.double ta), (.double tb), (.double tc), (.double td)] [(z0, q0), (x, own_O "com/example/hazeline/hazeline/fuzzy/Trapezoid" [("com/example/hazeline/hazeline/fuzzy/Trapezoid", "a", "D", .double 0), ("com/example/hazeline/hazeline/fuzzy/Trapezoid", "b", "D", .double 0), ("com/example/hazeline/hazeline/fuzzy/Trapezoid", "c", "D", .double 0), ("com/example/hazeline/hazeline/fuzzy/Trapezoid", "d", "D", .double 0)])] (fun r cs' => r = none ∧ cs' = [(z0, q0), (x, own_O "com/example/hazeline/hazeline/fuzzy/Trapezoid" [("com/example/hazeline/hazeline/fuzzy/Trapezoid", "a", "D", .double ta), ("com/example/hazeline/hazeline/fuzzy/Trapezoid", "b", "D", .double tb), ("com/example/hazeline/hazeline/fuzzy/Trapezoid", "c", "D", .double tc), ("com/example/hazeline/hazeline/fuzzy/Trapezoid", "d", "D", .double td)])]) := by
  refine own_met_of (L0 := #[.val (.ref x), .val (.double ta), .second, .val (.double tb), .second, .val (.double tc), .second, .val (.double td), .second]) own_pn1 (fun m => own_ef1 m x ta tb tc td) ?_
  intro p e s m below meth c T0 hx hZ hown hby hml hnm H0
  obtain ⟨Ttb1, Htb1, sttb1⟩ := own_initO H0 hx hZ hown (hw _ (List.mem_of_getElem? (i := 8) rfl)) (hw _ (List.mem_of_getElem? (i := 9) rfl)) (hw _ (List.mem_of_getElem? (i := 10) rfl)) (g := (mkF m 1 #[.val (.ref x), .val (.double ta), .second, .val (.double tb), .second, .val (.double tc), .second, .val (.double td), .second] [(.ref x)])) rfl (by rw [hml]; rfl) rfl (hb hby d1_1) (by decide) (W := 0) (by show 2 * 0 + _ ≤ _; exact Nat.le_of_eq rfl) (by decide)
  change own_S _ _ _ _ _ _ _ _ _ _ _ _ _ _ [(z0, q0), (x, own_O "com/example/hazeline/hazeline/fuzzy/Trapezoid" [("com/example/hazeline/hazeline/fuzzy/Trapezoid", "a", "D", .double 0), ("com/example/hazeline/hazeline/fuzzy/Trapezoid", "b", "D", .double 0), ("com/example/hazeline/hazeline/fuzzy/Trapezoid", "c", "D", .double 0), ("com/example/hazeline/hazeline/fuzzy/Trapezoid", "d", "D", .double 0)])] _ _ at Htb1
  obtain ⟨Ttb2, vtb2_, cstb2_, qtb2, Htb2, sttb2⟩ := own_callS Htb1 hx hZ hown (hw _ (List.mem_of_getElem? (i := 11) rfl)) (hw _ (List.mem_of_getElem? (i := 12) rfl)) (hw _ (List.mem_of_getElem? (i := 13) rfl)) (hw _ (List.mem_of_getElem? (i := 14) rfl)) (by decide) (argsL := [(.double ta)]) (rest := []) (W := 0) (own_isfin l Z a0 hb0 hw ta fa _) (by decide) (by decide) (by decide) (by decide) (g := (mkF m 5 #[.val (.ref x), .val (.double ta), .second, .val (.double tb), .second, .val (.double tc), .second, .val (.double td), .second] [(.double ta)])) rfl (by rw [hml]; rfl) (lenOf own_pd3 rfl) rfl (by show 2 * 0 + _ ≤ _; exact Nat.le_of_eq rfl) (hb hby d1_5)
  obtain ⟨rfl, rfl⟩ := qtb2
  change own_S _ _ _ _ _ _ _ _ _ _ _ _ _ _ [(z0, q0), (x, own_O "com/example/hazeline/hazeline/fuzzy/Trapezoid" [("com/example/hazeline/hazeline/fuzzy/Trapezoid", "a", "D", .double 0), ("com/example/hazeline/hazeline/fuzzy/Trapezoid", "b", "D", .double 0), ("com/example/hazeline/hazeline/fuzzy/Trapezoid", "c", "D", .double 0), ("com/example/hazeline/hazeline/fuzzy/Trapezoid", "d", "D", .double 0)])] _ _ at Htb2
  obtain ⟨Ttb3, vtb3_, cstb3_, qtb3, Htb3, sttb3⟩ := own_callS Htb2 hx hZ hown (hw _ (List.mem_of_getElem? (i := 11) rfl)) (hw _ (List.mem_of_getElem? (i := 12) rfl)) (hw _ (List.mem_of_getElem? (i := 13) rfl)) (hw _ (List.mem_of_getElem? (i := 14) rfl)) (by decide) (argsL := [(.double tb)]) (rest := []) (W := 0) (own_isfin l Z a0 hb0 hw tb fb _) (by decide) (by decide) (by decide) (by decide) (g := (mkF m 12 #[.val (.ref x), .val (.double ta), .second, .val (.double tb), .second, .val (.double tc), .second, .val (.double td), .second] [(.double tb)])) rfl (by rw [hml]; rfl) (lenOf own_pd3 rfl) rfl (by show 2 * 0 + _ ≤ _; exact Nat.le_of_eq rfl) (hb hby d1_12)
  obtain ⟨rfl, rfl⟩ := qtb3
  change own_S _ _ _ _ _ _ _ _ _ _ _ _ _ _ [(z0, q0), (x, own_O "com/example/hazeline/hazeline/fuzzy/Trapezoid" [("com/example/hazeline/hazeline/fuzzy/Trapezoid", "a", "D", .double 0), ("com/example/hazeline/hazeline/fuzzy/Trapezoid", "b", "D", .double 0), ("com/example/hazeline/hazeline/fuzzy/Trapezoid", "c", "D", .double 0), ("com/example/hazeline/hazeline/fuzzy/Trapezoid", "d", "D", .double 0)])] _ _ at Htb3
  obtain ⟨Ttb4, vtb4_, cstb4_, qtb4, Htb4, sttb4⟩ := own_callS Htb3 hx hZ hown (hw _ (List.mem_of_getElem? (i := 11) rfl)) (hw _ (List.mem_of_getElem? (i := 12) rfl)) (hw _ (List.mem_of_getElem? (i := 13) rfl)) (hw _ (List.mem_of_getElem? (i := 14) rfl)) (by decide) (argsL := [(.double tc)]) (rest := []) (W := 0) (own_isfin l Z a0 hb0 hw tc fc _) (by decide) (by decide) (by decide) (by decide) (g := (mkF m 20 #[.val (.ref x), .val (.double ta), .second, .val (.double tb), .second, .val (.double tc), .second, .val (.double td), .second] [(.double tc)])) rfl (by rw [hml]; rfl) (lenOf own_pd3 rfl) rfl (by show 2 * 0 + _ ≤ _; exact Nat.le_of_eq rfl) (hb hby d1_20)
  obtain ⟨rfl, rfl⟩ := qtb4
  change own_S _ _ _ _ _ _ _ _ _ _ _ _ _ _ [(z0, q0), (x, own_O "com/example/hazeline/hazeline/fuzzy/Trapezoid" [("com/example/hazeline/hazeline/fuzzy/Trapezoid", "a", "D", .double 0), ("com/example/hazeline/hazeline/fuzzy/Trapezoid", "b", "D", .double 0), ("com/example/hazeline/hazeline/fuzzy/Trapezoid", "c", "D", .double 0), ("com/example/hazeline/hazeline/fuzzy/Trapezoid", "d", "D", .double 0)])] _ _ at Htb4
  obtain ⟨Ttb5, vtb5_, cstb5_, qtb5, Htb5, sttb5⟩ := own_callS Htb4 hx hZ hown (hw _ (List.mem_of_getElem? (i := 11) rfl)) (hw _ (List.mem_of_getElem? (i := 12) rfl)) (hw _ (List.mem_of_getElem? (i := 13) rfl)) (hw _ (List.mem_of_getElem? (i := 14) rfl)) (by decide) (argsL := [(.double td)]) (rest := []) (W := 0) (own_isfin l Z a0 hb0 hw td fd _) (by decide) (by decide) (by decide) (by decide) (g := (mkF m 28 #[.val (.ref x), .val (.double ta), .second, .val (.double tb), .second, .val (.double tc), .second, .val (.double td), .second] [(.double td)])) rfl (by rw [hml]; rfl) (lenOf own_pd3 rfl) rfl (by show 2 * 0 + _ ≤ _; exact Nat.le_of_eq rfl) (hb hby d1_28)
  obtain ⟨rfl, rfl⟩ := qtb5
  change own_S _ _ _ _ _ _ _ _ _ _ _ _ _ _ [(z0, q0), (x, own_O "com/example/hazeline/hazeline/fuzzy/Trapezoid" [("com/example/hazeline/hazeline/fuzzy/Trapezoid", "a", "D", .double 0), ("com/example/hazeline/hazeline/fuzzy/Trapezoid", "b", "D", .double 0), ("com/example/hazeline/hazeline/fuzzy/Trapezoid", "c", "D", .double 0), ("com/example/hazeline/hazeline/fuzzy/Trapezoid", "d", "D", .double 0)])] _ _ at Htb5
  obtain ⟨v58, hv58⟩ : ∃ z : Int32, (cmpValue (FP.dcmp ta tb) .g) = z := ⟨_, rfl⟩
  obtain ⟨v65, hv65⟩ : ∃ z : Int32, (cmpValue (FP.dcmp tb tc) .g) = z := ⟨_, rfl⟩
  obtain ⟨v73, hv73⟩ : ∃ z : Int32, (cmpValue (FP.dcmp tc td) .g) = z := ⟨_, rfl⟩
  obtain ⟨Ttb6, Htb6, sttb6⟩ := own_putF Htb5 hx hZ hown (hw _ (List.mem_of_getElem? (i := 20) rfl)) 1 0 rfl rfl (Or.inr ⟨(hw _ (List.mem_of_getElem? (i := 21) rfl)), rfl, hnm⟩) (hw _ (List.mem_of_getElem? (i := 3) rfl)) (ty := .double) (by decide) rfl rfl (g := (mkF m 101 #[.val (.ref x), .val (.double ta), .second, .val (.double tb), .second, .val (.double tc), .second, .val (.double td), .second] [(.double ta), (.ref x)])) rfl rfl (hb hby d1_101)
  change own_S _ _ _ _ _ _ _ _ _ _ _ _ _ _ [(z0, q0), (x, own_O "com/example/hazeline/hazeline/fuzzy/Trapezoid" [("com/example/hazeline/hazeline/fuzzy/Trapezoid", "a", "D", .double ta), ("com/example/hazeline/hazeline/fuzzy/Trapezoid", "b", "D", .double 0), ("com/example/hazeline/hazeline/fuzzy/Trapezoid", "c", "D", .double 0), ("com/example/hazeline/hazeline/fuzzy/Trapezoid", "d", "D", .double 0)])] _ _ at Htb6
  obtain ⟨Ttb7, Htb7, sttb7⟩ := own_putF Htb6 hx hZ hown (hw _ (List.mem_of_getElem? (i := 22) rfl)) 1 1 rfl rfl (Or.inr ⟨(hw _ (List.mem_of_getElem? (i := 23) rfl)), rfl, hnm⟩) (hw _ (List.mem_of_getElem? (i := 3) rfl)) (ty := .double) (by decide) rfl rfl (g := (mkF m 106 #[.val (.ref x), .val (.double ta), .second, .val (.double tb), .second, .val (.double tc), .second, .val (.double td), .second] [(.double tb), (.ref x)])) rfl rfl (hb hby d1_106)
  change own_S _ _ _ _ _ _ _ _ _ _ _ _ _ _ [(z0, q0), (x, own_O "com/example/hazeline/hazeline/fuzzy/Trapezoid" [("com/example/hazeline/hazeline/fuzzy/Trapezoid", "a", "D", .double ta), ("com/example/hazeline/hazeline/fuzzy/Trapezoid", "b", "D", .double tb), ("com/example/hazeline/hazeline/fuzzy/Trapezoid", "c", "D", .double 0), ("com/example/hazeline/hazeline/fuzzy/Trapezoid", "d", "D", .double 0)])] _ _ at Htb7
  obtain ⟨Ttb8, Htb8, sttb8⟩ := own_putF Htb7 hx hZ hown (hw _ (List.mem_of_getElem? (i := 24) rfl)) 1 2 rfl rfl (Or.inr ⟨(hw _ (List.mem_of_getElem? (i := 25) rfl)), rfl, hnm⟩) (hw _ (List.mem_of_getElem? (i := 3) rfl)) (ty := .double) (by decide) rfl rfl (g := (mkF m 112 #[.val (.ref x), .val (.double ta), .second, .val (.double tb), .second, .val (.double tc), .second, .val (.double td), .second] [(.double tc), (.ref x)])) rfl rfl (hb hby d1_112)
  change own_S _ _ _ _ _ _ _ _ _ _ _ _ _ _ [(z0, q0), (x, own_O "com/example/hazeline/hazeline/fuzzy/Trapezoid" [("com/example/hazeline/hazeline/fuzzy/Trapezoid", "a", "D", .double ta), ("com/example/hazeline/hazeline/fuzzy/Trapezoid", "b", "D", .double tb), ("com/example/hazeline/hazeline/fuzzy/Trapezoid", "c", "D", .double tc), ("com/example/hazeline/hazeline/fuzzy/Trapezoid", "d", "D", .double 0)])] _ _ at Htb8
  obtain ⟨Ttb9, Htb9, sttb9⟩ := own_putF Htb8 hx hZ hown (hw _ (List.mem_of_getElem? (i := 26) rfl)) 1 3 rfl rfl (Or.inr ⟨(hw _ (List.mem_of_getElem? (i := 27) rfl)), rfl, hnm⟩) (hw _ (List.mem_of_getElem? (i := 3) rfl)) (ty := .double) (by decide) rfl rfl (g := (mkF m 118 #[.val (.ref x), .val (.double ta), .second, .val (.double tb), .second, .val (.double tc), .second, .val (.double td), .second] [(.double td), (.ref x)])) rfl rfl (hb hby d1_118)
  change own_S _ _ _ _ _ _ _ _ _ _ _ _ _ _ [(z0, q0), (x, own_O "com/example/hazeline/hazeline/fuzzy/Trapezoid" [("com/example/hazeline/hazeline/fuzzy/Trapezoid", "a", "D", .double ta), ("com/example/hazeline/hazeline/fuzzy/Trapezoid", "b", "D", .double tb), ("com/example/hazeline/hazeline/fuzzy/Trapezoid", "c", "D", .double tc), ("com/example/hazeline/hazeline/fuzzy/Trapezoid", "d", "D", .double td)])] _ _ at Htb9
  have hb8 : ifCond.holds .eq (1 : Int32) = false := by decide
  have hb15 : ifCond.holds .eq (1 : Int32) = false := by decide
  have hb23 : ifCond.holds .eq (1 : Int32) = false := by decide
  have hb31 : ifCond.holds .ne (1 : Int32) = true := by decide
  have hb59 : ifCond.holds .gt v58 = false := by rw [← hv58]; exact h1
  have hb66 : ifCond.holds .gt v65 = false := by rw [← hv65]; exact h2
  have hb74 : ifCond.holds .le v73 = true := by rw [← hv73]; exact h3
  refine ⟨_, _, _, _, 121, #[.val (.ref x), .val (.double ta), .second, .val (.double tb), .second, .val (.double tc), .second, .val (.double td), .second], Htb9, by decide, by decide, Or.inl ⟨rfl, ⟨rfl, rfl⟩, d1_121, fun target q => ?_⟩⟩
  refine own_go H0 hx hZ hown hby hw own_K1_ok (own_tb0 x ta tb tc td) _ ?_
  refine sttb1 _ ?_
  refine own_go Htb1 hx hZ hown hby hw own_K1_ok (own_tb1 x ta tb tc td) _ ?_
  refine sttb2 _ ?_
  refine own_go Htb2 hx hZ hown hby hw own_K1_ok (own_tb2 x ta tb tc td hb8) _ ?_
  refine sttb3 _ ?_
  refine own_go Htb3 hx hZ hown hby hw own_K1_ok (own_tb3 x ta tb tc td hb15) _ ?_
  refine sttb4 _ ?_
  refine own_go Htb4 hx hZ hown hby hw own_K1_ok (own_tb4 x ta tb tc td hb23) _ ?_
  refine sttb5 _ ?_
  refine own_go Htb5 hx hZ hown hby hw own_K1_ok (own_tb5 x ta tb tc td hb31 v58 hv58 hb59 v65 hv65 hb66 v73 hv73 hb74) _ ?_
  refine sttb6 _ ?_
  refine own_go Htb6 hx hZ hown hby hw own_K1_ok (own_tb6 x ta tb tc td) _ ?_
  refine sttb7 _ ?_
  refine own_go Htb7 hx hZ hown hby hw own_K1_ok (own_tb7 x ta tb tc td) _ ?_
  refine sttb8 _ ?_
  refine own_go Htb8 hx hZ hown hby hw own_K1_ok (own_tb8 x ta tb tc td) _ ?_
  refine sttb9 _ ?_
  exact q
theorem own_ef6 (m : MethodId) (x0 : Addr) : entryFrame m #[(.ref x0)] 1 = mkF m 0 #[.val (.ref x0)] [] := by first | (simp [entryFrame, mkF, argsToLocals, Value.category]; done) | rfl
theorem own_ef5 (m : MethodId) (x0 : Addr) (x1 : Addr) : entryFrame m #[(.ref x0), (.ref x1)] 4 = mkF m 0 #[.val (.ref x0), .val (.ref x1), .unset, .unset] [] := by first | (simp [entryFrame, mkF, argsToLocals, Value.category]; done) | rfl

def own_ws (a b c d : UInt64) : UInt64 := FP.dadd (FP.dadd (FP.dadd a (FP.dmul 4617315517961601024 b)) (FP.dmul 4617315517961601024 c)) d
def own_WS (a b c d : UInt64) (n : Int) : Prop := NoNaN64 (FP.dmul 4617315517961601024 b) ∧ NoNaN64 (FP.dadd a (FP.dmul 4617315517961601024 b)) ∧ NoNaN64 (FP.dmul 4617315517961601024 c) ∧ NoNaN64 (FP.dadd (FP.dadd a (FP.dmul 4617315517961601024 b)) (FP.dmul 4617315517961601024 c)) ∧ own_is (own_ws a b c d) (n : Rat)
theorem own_five : own_is 4617315517961601024 ((5 : Int) : Rat) := ⟨false, 5629499534213120, -50, by decide +kernel, by decide +kernel⟩
theorem own_twelve : own_is 4622945017495814144 12 := ⟨false, 6755399441055744, -49, by decide +kernel, by decide +kernel⟩
theorem own_two : own_is 4611686018427387904 2 := ⟨false, 2 ^ 52, -51, by decide +kernel, by decide +kernel⟩
theorem own_wsum {a b c d : UInt64} {A B C D : Int} (ha : own_is a (A : Rat)) (hb : own_is b (B : Rat)) (hc : own_is c (C : Rat)) (hd : own_is d (D : Rat)) (a1 : A.natAbs ≤ 8589934592) (b1 : B.natAbs ≤ 8589934592) (c1 : C.natAbs ≤ 8589934592) (d1 : D.natAbs ≤ 8589934592) : own_WS a b c d (A + 5 * B + 5 * C + D) := by
  have r1 : own_rd (FP.dmul 4617315517961601024 b) ((5 * B : Int) : Rat) := by rw [Rat.intCast_mul]; exact own_mul own_five hb
  have i1 := own_rd_small r1 (by omega)
  have r2 : own_rd (FP.dadd a (FP.dmul 4617315517961601024 b)) ((A + 5 * B : Int) : Rat) := by rw [Rat.intCast_add]; exact own_add ha i1
  have i2 := own_rd_small r2 (by omega)
  have r3 : own_rd (FP.dmul 4617315517961601024 c) ((5 * C : Int) : Rat) := by rw [Rat.intCast_mul]; exact own_mul own_five hc
  have i3 := own_rd_small r3 (by omega)
  have r4 : own_rd (FP.dadd (FP.dadd a (FP.dmul 4617315517961601024 b)) (FP.dmul 4617315517961601024 c)) ((A + 5 * B + 5 * C : Int) : Rat) := by rw [Rat.intCast_add]; exact own_add i2 i3
  have i4 := own_rd_small r4 (by omega)
  have r5 : own_rd (own_ws a b c d) ((A + 5 * B + 5 * C + D : Int) : Rat) := by rw [Rat.intCast_add]; exact own_add i4 hd
  exact ⟨own_is_no i1, own_is_no i2, own_is_no i3, own_is_no i4, own_rd_small r5 (by omega)⟩
theorem own_w00 (x : Addr) :
    own_Go own_K6 prog_5_method_12_code 0 #[.val (.ref x)] [] 1 #[.val (.ref x)] [(.ref x)] := by
  refine own_aloadN (pc2 := 1) d6_0 rfl rfl rfl ?_
  exact own_refl
theorem own_w01 (x : Addr) (xa : UInt64) :
    own_Go own_K6 prog_5_method_12_code 4 #[.val (.ref x)] [(.double xa)] 8 #[.val (.ref x)] [(.ref x), (.double (4617315517961601024 : UInt64)), (.double xa)] := by
  refine own_ldc2D (v := (4617315517961601024 : UInt64)) (pc2 := 7) d6_4 rfl (List.mem_of_getElem? (i := 0) rfl) ?_
  refine own_aloadN (pc2 := 8) d6_7 rfl rfl rfl ?_
  exact own_refl
theorem own_w02 (x : Addr) (xb : UInt64) (xa : UInt64) (v11 : UInt64) (hv11 : (FP.dmul (4617315517961601024 : UInt64) xb) = v11) (nn11 : NoNaN64 (FP.dmul (4617315517961601024 : UInt64) xb)) (v12 : UInt64) (hv12 : (FP.dadd xa v11) = v12) (nn12 : NoNaN64 (FP.dadd xa v11)) :
    own_Go own_K6 prog_5_method_12_code 11 #[.val (.ref x)] [(.double xb), (.double (4617315517961601024 : UInt64)), (.double xa)] 17 #[.val (.ref x)] [(.ref x), (.double (4617315517961601024 : UInt64)), (.double v12)] := by
  refine own_dmul (pc2 := 12) d6_11 rfl nn11 (v := v11) hv11 ?_
  refine own_dadd (pc2 := 13) d6_12 rfl nn12 (v := v12) hv12 ?_
  refine own_ldc2D (v := (4617315517961601024 : UInt64)) (pc2 := 16) d6_13 rfl (List.mem_of_getElem? (i := 0) rfl) ?_
  refine own_aloadN (pc2 := 17) d6_16 rfl rfl rfl ?_
  exact own_refl
theorem own_w03 (x : Addr) (xc : UInt64) (v12 : UInt64) (v20 : UInt64) (hv20 : (FP.dmul (4617315517961601024 : UInt64) xc) = v20) (nn20 : NoNaN64 (FP.dmul (4617315517961601024 : UInt64) xc)) (v21 : UInt64) (hv21 : (FP.dadd v12 v20) = v21) (nn21 : NoNaN64 (FP.dadd v12 v20)) :
    own_Go own_K6 prog_5_method_12_code 20 #[.val (.ref x)] [(.double xc), (.double (4617315517961601024 : UInt64)), (.double v12)] 23 #[.val (.ref x)] [(.ref x), (.double v21)] := by
  refine own_dmul (pc2 := 21) d6_20 rfl nn20 (v := v20) hv20 ?_
  refine own_dadd (pc2 := 22) d6_21 rfl nn21 (v := v21) hv21 ?_
  refine own_aloadN (pc2 := 23) d6_22 rfl rfl rfl ?_
  exact own_refl
theorem own_w04 (x : Addr) (xd : UInt64) (v21 : UInt64) (v26 : UInt64) (hv26 : (FP.dadd v21 xd) = v26) (nn26 : NoNaN64 (FP.dadd v21 xd)) :
    own_Go own_K6 prog_5_method_12_code 26 #[.val (.ref x)] [(.double xd), (.double v21)] 27 #[.val (.ref x)] [(.double v26)] := by
  refine own_dadd (pc2 := 27) d6_26 rfl nn26 (v := v26) hv26 ?_
  exact own_refl
set_option maxRecDepth 65536 in
set_option maxHeartbeats 4000000 in
theorem own_w0m (l : Launch) (Z : State) (a0 : Array Value) (hb0 : Heap) (hw : ∀ d ∈ tables_1, d.before a0 Z = true) (x : Addr) (y : Addr) (xa : UInt64) (xb : UInt64) (xc : UInt64) (xd : UInt64) (ya : UInt64) (yb : UInt64) (yc : UInt64) (yd : UInt64) (n : Int) (hW : own_WS xa xb xc xd n) :
    own_Met l Z a0 hb0 (⟨"com/example/hazeline/hazeline/fuzzy/Trapezoid", "weightedSum", "()D"⟩ : MethodName) prog_5_method_12_code 1 (some .double) [] ({ frames := 0, cells := 0, slots := 0, locals := 0 } : Room) #[(.ref x)] [(x, own_O "com/example/hazeline/hazeline/fuzzy/Trapezoid" [("com/example/hazeline/hazeline/fuzzy/Trapezoid", "a", "D", .double xa), ("com/example/hazeline/hazeline/fuzzy/Trapezoid", "b", "D", .double xb), ("com/example/hazeline/hazeline/fuzzy/Trapezoid", "c", "D", .double xc), ("com/example/hazeline/hazeline/fuzzy/Trapezoid", "d", "D", .double xd)]), (y, own_O "com/example/hazeline/hazeline/fuzzy/Trapezoid" [("com/example/hazeline/hazeline/fuzzy/Trapezoid", "a", "D", .double ya), ("com/example/hazeline/hazeline/fuzzy/Trapezoid", "b", "D", .double yb), ("com/example/hazeline/hazeline/fuzzy/Trapezoid", "c", "D", .double yc), ("com/example/hazeline/hazeline/fuzzy/Trapezoid", "d", "D", .double yd)])] (fun r cs' => r = some (.double (own_ws xa xb xc xd)) ∧ cs' = [(x, own_O "com/example/hazeline/hazeline/fuzzy/Trapezoid" [("com/example/hazeline/hazeline/fuzzy/Trapezoid", "a", "D", .double xa), ("com/example/hazeline/hazeline/fuzzy/Trapezoid", "b", "D", .double xb), ("com/example/hazeline/hazeline/fuzzy/Trapezoid", "c", "D", .double xc), ("com/example/hazeline/hazeline/fuzzy/Trapezoid", "d", "D", .double xd)]), (y, own_O "com/example/hazeline/hazeline/fuzzy/Trapezoid" [("com/example/hazeline/hazeline/fuzzy/Trapezoid", "a", "D", .double ya), ("com/example/hazeline/hazeline/fuzzy/Trapezoid", "b", "D", .double yb), ("com/example/hazeline/hazeline/fuzzy/Trapezoid", "c", "D", .double yc), ("com/example/hazeline/hazeline/fuzzy/Trapezoid", "d", "D", .double yd)])]) := by
  refine own_met_of (L0 := #[.val (.ref x)]) own_pn6 (fun m => own_ef6 m x) ?_
  intro p e s m below meth c T0 hx hZ hown hby hml hnm H0
  obtain ⟨Tw01, Hw01, stw01⟩ := own_getF H0 hx hZ hown (hw _ (List.mem_of_getElem? (i := 20) rfl)) 0 0 rfl rfl (g := (mkF m 1 #[.val (.ref x)] [(.ref x)])) rfl rfl (hb hby d6_1)
  change own_S _ _ _ _ _ _ _ _ _ _ _ _ _ _ [(x, own_O "com/example/hazeline/hazeline/fuzzy/Trapezoid" [("com/example/hazeline/hazeline/fuzzy/Trapezoid", "a", "D", .double xa), ("com/example/hazeline/hazeline/fuzzy/Trapezoid", "b", "D", .double xb), ("com/example/hazeline/hazeline/fuzzy/Trapezoid", "c", "D", .double xc), ("com/example/hazeline/hazeline/fuzzy/Trapezoid", "d", "D", .double xd)]), (y, own_O "com/example/hazeline/hazeline/fuzzy/Trapezoid" [("com/example/hazeline/hazeline/fuzzy/Trapezoid", "a", "D", .double ya), ("com/example/hazeline/hazeline/fuzzy/Trapezoid", "b", "D", .double yb), ("com/example/hazeline/hazeline/fuzzy/Trapezoid", "c", "D", .double yc), ("com/example/hazeline/hazeline/fuzzy/Trapezoid", "d", "D", .double yd)])] _ _ at Hw01
  obtain ⟨Tw02, Hw02, stw02⟩ := own_getF Hw01 hx hZ hown (hw _ (List.mem_of_getElem? (i := 22) rfl)) 0 1 rfl rfl (g := (mkF m 8 #[.val (.ref x)] [(.ref x), (.double (4617315517961601024 : UInt64)), (.double xa)])) rfl rfl (hb hby d6_8)
  change own_S _ _ _ _ _ _ _ _ _ _ _ _ _ _ [(x, own_O "com/example/hazeline/hazeline/fuzzy/Trapezoid" [("com/example/hazeline/hazeline/fuzzy/Trapezoid", "a", "D", .double xa), ("com/example/hazeline/hazeline/fuzzy/Trapezoid", "b", "D", .double xb), ("com/example/hazeline/hazeline/fuzzy/Trapezoid", "c", "D", .double xc), ("com/example/hazeline/hazeline/fuzzy/Trapezoid", "d", "D", .double xd)]), (y, own_O "com/example/hazeline/hazeline/fuzzy/Trapezoid" [("com/example/hazeline/hazeline/fuzzy/Trapezoid", "a", "D", .double ya), ("com/example/hazeline/hazeline/fuzzy/Trapezoid", "b", "D", .double yb), ("com/example/hazeline/hazeline/fuzzy/Trapezoid", "c", "D", .double yc), ("com/example/hazeline/hazeline/fuzzy/Trapezoid", "d", "D", .double yd)])] _ _ at Hw02
  obtain ⟨v11, hv11⟩ : ∃ z : UInt64, (FP.dmul (4617315517961601024 : UInt64) xb) = z := ⟨_, rfl⟩
  obtain ⟨v12, hv12⟩ : ∃ z : UInt64, (FP.dadd xa v11) = z := ⟨_, rfl⟩
  obtain ⟨Tw03, Hw03, stw03⟩ := own_getF Hw02 hx hZ hown (hw _ (List.mem_of_getElem? (i := 24) rfl)) 0 2 rfl rfl (g := (mkF m 17 #[.val (.ref x)] [(.ref x), (.double (4617315517961601024 : UInt64)), (.double v12)])) rfl rfl (hb hby d6_17)
  change own_S _ _ _ _ _ _ _ _ _ _ _ _ _ _ [(x, own_O "com/example/hazeline/hazeline/fuzzy/Trapezoid" [("com/example/hazeline/hazeline/fuzzy/Trapezoid", "a", "D", .double xa), ("com/example/hazeline/hazeline/fuzzy/Trapezoid", "b", "D", .double xb), ("com/example/hazeline/hazeline/fuzzy/Trapezoid", "c", "D", .double xc), ("com/example/hazeline/hazeline/fuzzy/Trapezoid", "d", "D", .double xd)]), (y, own_O "com/example/hazeline/hazeline/fuzzy/Trapezoid" [("com/example/hazeline/hazeline/fuzzy/Trapezoid", "a", "D", .double ya), ("com/example/hazeline/hazeline/fuzzy/Trapezoid", "b", "D", .double yb), ("com/example/hazeline/hazeline/fuzzy/Trapezoid", "c", "D", .double yc), ("com/example/hazeline/hazeline/fuzzy/Trapezoid", "d", "D", .double yd)])] _ _ at Hw03
  obtain ⟨v20, hv20⟩ : ∃ z : UInt64, (FP.dmul (4617315517961601024 : UInt64) xc) = z := ⟨_, rfl⟩
  obtain ⟨v21, hv21⟩ : ∃ z : UInt64, (FP.dadd v12 v20) = z := ⟨_, rfl⟩
  obtain ⟨Tw04, Hw04, stw04⟩ := own_getF Hw03 hx hZ hown (hw _ (List.mem_of_getElem? (i := 26) rfl)) 0 3 rfl rfl (g := (mkF m 23 #[.val (.ref x)] [(.ref x), (.double v21)])) rfl rfl (hb hby d6_23)
  change own_S _ _ _ _ _ _ _ _ _ _ _ _ _ _ [(x, own_O "com/example/hazeline/hazeline/fuzzy/Trapezoid" [("com/example/hazeline/hazeline/fuzzy/Trapezoid", "a", "D", .double xa), ("com/example/hazeline/hazeline/fuzzy/Trapezoid", "b", "D", .double xb), ("com/example/hazeline/hazeline/fuzzy/Trapezoid", "c", "D", .double xc), ("com/example/hazeline/hazeline/fuzzy/Trapezoid", "d", "D", .double xd)]), (y, own_O "com/example/hazeline/hazeline/fuzzy/Trapezoid" [("com/example/hazeline/hazeline/fuzzy/Trapezoid", "a", "D", .double ya), ("com/example/hazeline/hazeline/fuzzy/Trapezoid", "b", "D", .double yb), ("com/example/hazeline/hazeline/fuzzy/Trapezoid", "c", "D", .double yc), ("com/example/hazeline/hazeline/fuzzy/Trapezoid", "d", "D", .double yd)])] _ _ at Hw04
  obtain ⟨v26, hv26⟩ : ∃ z : UInt64, (FP.dadd v21 xd) = z := ⟨_, rfl⟩
  obtain ⟨n1, n2, n3, n4, n5⟩ := hW
  have nn11 : NoNaN64 (FP.dmul (4617315517961601024 : UInt64) xb) := n1
  have nn12 : NoNaN64 (FP.dadd xa v11) := by rw [← hv11]; exact n2
  have nn20 : NoNaN64 (FP.dmul (4617315517961601024 : UInt64) xc) := n3
  have nn21 : NoNaN64 (FP.dadd v12 v20) := by rw [← hv12, ← hv11, ← hv20]; exact n4
  have hres : own_ws xa xb xc xd = v26 := by rw [← hv26, ← hv21, ← hv12, ← hv11, ← hv20]; rfl
  have nn26 : NoNaN64 (FP.dadd v21 xd) := by rw [hv26, ← hres]; exact own_is_no n5
  refine ⟨_, _, _, _, 27, #[.val (.ref x)], Hw04, by decide, by decide, Or.inr ⟨.double, (.double v26), [], .dreturn, rfl, ⟨by rw [hres], rfl⟩, d6_27, own_retD _, fun target q => ?_⟩⟩
  refine own_go H0 hx hZ hown hby hw own_K6_ok (own_w00 x) _ ?_
  refine stw01 _ ?_
  refine own_go Hw01 hx hZ hown hby hw own_K6_ok (own_w01 x xa) _ ?_
  refine stw02 _ ?_
  refine own_go Hw02 hx hZ hown hby hw own_K6_ok (own_w02 x xb xa v11 hv11 nn11 v12 hv12 nn12) _ ?_
  refine stw03 _ ?_
  refine own_go Hw03 hx hZ hown hby hw own_K6_ok (own_w03 x xc v12 v20 hv20 nn20 v21 hv21 nn21) _ ?_
  refine stw04 _ ?_
  refine own_go Hw04 hx hZ hown hby hw own_K6_ok (own_w04 x xd v21 v26 hv26 nn26) _ ?_
  exact q
theorem own_w10 (y : Addr) :
    own_Go own_K6 prog_5_method_12_code 0 #[.val (.ref y)] [] 1 #[.val (.ref y)] [(.ref y)] := by
  refine own_aloadN (pc2 := 1) d6_0 rfl rfl rfl ?_
  exact own_refl
theorem own_w11 (y : Addr) (ya : UInt64) :
    own_Go own_K6 prog_5_method_12_code 4 #[.val (.ref y)] [(.double ya)] 8 #[.val (.ref y)] [(.ref y), (.double (4617315517961601024 : UInt64)), (.double ya)] := by
  refine own_ldc2D (v := (4617315517961601024 : UInt64)) (pc2 := 7) d6_4 rfl (List.mem_of_getElem? (i := 0) rfl) ?_
  refine own_aloadN (pc2 := 8) d6_7 rfl rfl rfl ?_
  exact own_refl
theorem own_w12 (y : Addr) (yb : UInt64) (ya : UInt64) (v11 : UInt64) (hv11 : (FP.dmul (4617315517961601024 : UInt64) yb) = v11) (nn11 : NoNaN64 (FP.dmul (4617315517961601024 : UInt64) yb)) (v12 : UInt64) (hv12 : (FP.dadd ya v11) = v12) (nn12 : NoNaN64 (FP.dadd ya v11)) :
    own_Go own_K6 prog_5_method_12_code 11 #[.val (.ref y)] [(.double yb), (.double (4617315517961601024 : UInt64)), (.double ya)] 17 #[.val (.ref y)] [(.ref y), (.double (4617315517961601024 : UInt64)), (.double v12)] := by
  refine own_dmul (pc2 := 12) d6_11 rfl nn11 (v := v11) hv11 ?_
  refine own_dadd (pc2 := 13) d6_12 rfl nn12 (v := v12) hv12 ?_
  refine own_ldc2D (v := (4617315517961601024 : UInt64)) (pc2 := 16) d6_13 rfl (List.mem_of_getElem? (i := 0) rfl) ?_
  refine own_aloadN (pc2 := 17) d6_16 rfl rfl rfl ?_
  exact own_refl
theorem own_w13 (y : Addr) (yc : UInt64) (v12 : UInt64) (v20 : UInt64) (hv20 : (FP.dmul (4617315517961601024 : UInt64) yc) = v20) (nn20 : NoNaN64 (FP.dmul (4617315517961601024 : UInt64) yc)) (v21 : UInt64) (hv21 : (FP.dadd v12 v20) = v21) (nn21 : NoNaN64 (FP.dadd v12 v20)) :
    own_Go own_K6 prog_5_method_12_code 20 #[.val (.ref y)] [(.double yc), (.double (4617315517961601024 : UInt64)), (.double v12)] 23 #[.val (.ref y)] [(.ref y), (.double v21)] := by
  refine own_dmul (pc2 := 21) d6_20 rfl nn20 (v := v20) hv20 ?_
  refine own_dadd (pc2 := 22) d6_21 rfl nn21 (v := v21) hv21 ?_
  refine own_aloadN (pc2 := 23) d6_22 rfl rfl rfl ?_
  exact own_refl
theorem own_w14 (y : Addr) (yd : UInt64) (v21 : UInt64) (v26 : UInt64) (hv26 : (FP.dadd v21 yd) = v26) (nn26 : NoNaN64 (FP.dadd v21 yd)) :
    own_Go own_K6 prog_5_method_12_code 26 #[.val (.ref y)] [(.double yd), (.double v21)] 27 #[.val (.ref y)] [(.double v26)] := by
  refine own_dadd (pc2 := 27) d6_26 rfl nn26 (v := v26) hv26 ?_
  exact own_refl
set_option maxRecDepth 65536 in
set_option maxHeartbeats 4000000 in
theorem own_w1m (l : Launch) (Z : State) (a0 : Array Value) (hb0 : Heap) (hw : ∀ d ∈ tables_1, d.before a0 Z = true) (y : Addr) (x : Addr) (xa : UInt64) (xb : UInt64) (xc : UInt64) (xd : UInt64) (ya : UInt64) (yb : UInt64) (yc : UInt64) (yd : UInt64) (n : Int) (hW : own_WS ya yb yc yd n) :
    own_Met l Z a0 hb0 (⟨"com/example/hazeline/hazeline/fuzzy/Trapezoid", "weightedSum", "()D"⟩ : MethodName) prog_5_method_12_code 1 (some .double) [] ({ frames := 0, cells := 0, slots := 0, locals := 0 } : Room) #[(.ref y)] [(x, own_O "com/example/hazeline/hazeline/fuzzy/Trapezoid" [("com/example/hazeline/hazeline/fuzzy/Trapezoid", "a", "D", .double xa), ("com/example/hazeline/hazeline/fuzzy/Trapezoid", "b", "D", .double xb), ("com/example/hazeline/hazeline/fuzzy/Trapezoid", "c", "D", .double xc), ("com/example/hazeline/hazeline/fuzzy/Trapezoid", "d", "D", .double xd)]), (y, own_O "com/example/hazeline/hazeline/fuzzy/Trapezoid" [("com/example/hazeline/hazeline/fuzzy/Trapezoid", "a", "D", .double ya), ("com/example/hazeline/hazeline/fuzzy/Trapezoid", "b", "D", .double yb), ("com/example/hazeline/hazeline/fuzzy/Trapezoid", "c", "D", .double yc), ("com/example/hazeline/hazeline/fuzzy/Trapezoid", "d", "D", .double yd)])] (fun r cs' => r = some (.double (own_ws ya yb yc yd)) ∧ cs' = [(x, own_O "com/example/hazeline/hazeline/fuzzy/Trapezoid" [("com/example/hazeline/hazeline/fuzzy/Trapezoid", "a", "D", .double xa), ("com/example/hazeline/hazeline/fuzzy/Trapezoid", "b", "D", .double xb), ("com/example/hazeline/hazeline/fuzzy/Trapezoid", "c", "D", .double xc), ("com/example/hazeline/hazeline/fuzzy/Trapezoid", "d", "D", .double xd)]), (y, own_O "com/example/hazeline/hazeline/fuzzy/Trapezoid" [("com/example/hazeline/hazeline/fuzzy/Trapezoid", "a", "D", .double ya), ("com/example/hazeline/hazeline/fuzzy/Trapezoid", "b", "D", .double yb), ("com/example/hazeline/hazeline/fuzzy/Trapezoid", "c", "D", .double yc), ("com/example/hazeline/hazeline/fuzzy/Trapezoid", "d", "D", .double yd)])]) := by
  refine own_met_of (L0 := #[.val (.ref y)]) own_pn6 (fun m => own_ef6 m y) ?_
  intro p e s m below meth c T0 hx hZ hown hby hml hnm H0
  obtain ⟨Tw11, Hw11, stw11⟩ := own_getF H0 hx hZ hown (hw _ (List.mem_of_getElem? (i := 20) rfl)) 1 0 rfl rfl (g := (mkF m 1 #[.val (.ref y)] [(.ref y)])) rfl rfl (hb hby d6_1)
  change own_S _ _ _ _ _ _ _ _ _ _ _ _ _ _ [(x, own_O "com/example/hazeline/hazeline/fuzzy/Trapezoid" [("com/example/hazeline/hazeline/fuzzy/Trapezoid", "a", "D", .double xa), ("com/example/hazeline/hazeline/fuzzy/Trapezoid", "b", "D", .double xb), ("com/example/hazeline/hazeline/fuzzy/Trapezoid", "c", "D", .double xc), ("com/example/hazeline/hazeline/fuzzy/Trapezoid", "d", "D", .double xd)]), (y, own_O "com/example/hazeline/hazeline/fuzzy/Trapezoid" [("com/example/hazeline/hazeline/fuzzy/Trapezoid", "a", "D", .double ya), ("com/example/hazeline/hazeline/fuzzy/Trapezoid", "b", "D", .double yb), ("com/example/hazeline/hazeline/fuzzy/Trapezoid", "c", "D", .double yc), ("com/example/hazeline/hazeline/fuzzy/Trapezoid", "d", "D", .double yd)])] _ _ at Hw11
  obtain ⟨Tw12, Hw12, stw12⟩ := own_getF Hw11 hx hZ hown (hw _ (List.mem_of_getElem? (i := 22) rfl)) 1 1 rfl rfl (g := (mkF m 8 #[.val (.ref y)] [(.ref y), (.double (4617315517961601024 : UInt64)), (.double ya)])) rfl rfl (hb hby d6_8)
  change own_S _ _ _ _ _ _ _ _ _ _ _ _ _ _ [(x, own_O "com/example/hazeline/hazeline/fuzzy/Trapezoid" [("com/example/hazeline/hazeline/fuzzy/Trapezoid", "a", "D", .double xa), ("com/example/hazeline/hazeline/fuzzy/Trapezoid", "b", "D", .double xb), ("com/example/hazeline/hazeline/fuzzy/Trapezoid", "c", "D", .double xc), ("com/example/hazeline/hazeline/fuzzy/Trapezoid", "d", "D", .double xd)]), (y, own_O "com/example/hazeline/hazeline/fuzzy/Trapezoid" [("com/example/hazeline/hazeline/fuzzy/Trapezoid", "a", "D", .double ya), ("com/example/hazeline/hazeline/fuzzy/Trapezoid", "b", "D", .double yb), ("com/example/hazeline/hazeline/fuzzy/Trapezoid", "c", "D", .double yc), ("com/example/hazeline/hazeline/fuzzy/Trapezoid", "d", "D", .double yd)])] _ _ at Hw12
  obtain ⟨v11, hv11⟩ : ∃ z : UInt64, (FP.dmul (4617315517961601024 : UInt64) yb) = z := ⟨_, rfl⟩
  obtain ⟨v12, hv12⟩ : ∃ z : UInt64, (FP.dadd ya v11) = z := ⟨_, rfl⟩
  obtain ⟨Tw13, Hw13, stw13⟩ := own_getF Hw12 hx hZ hown (hw _ (List.mem_of_getElem? (i := 24) rfl)) 1 2 rfl rfl (g := (mkF m 17 #[.val (.ref y)] [(.ref y), (.double (4617315517961601024 : UInt64)), (.double v12)])) rfl rfl (hb hby d6_17)
  change own_S _ _ _ _ _ _ _ _ _ _ _ _ _ _ [(x, own_O "com/example/hazeline/hazeline/fuzzy/Trapezoid" [("com/example/hazeline/hazeline/fuzzy/Trapezoid", "a", "D", .double xa), ("com/example/hazeline/hazeline/fuzzy/Trapezoid", "b", "D", .double xb), ("com/example/hazeline/hazeline/fuzzy/Trapezoid", "c", "D", .double xc), ("com/example/hazeline/hazeline/fuzzy/Trapezoid", "d", "D", .double xd)]), (y, own_O "com/example/hazeline/hazeline/fuzzy/Trapezoid" [("com/example/hazeline/hazeline/fuzzy/Trapezoid", "a", "D", .double ya), ("com/example/hazeline/hazeline/fuzzy/Trapezoid", "b", "D", .double yb), ("com/example/hazeline/hazeline/fuzzy/Trapezoid", "c", "D", .double yc), ("com/example/hazeline/hazeline/fuzzy/Trapezoid", "d", "D", .double yd)])] _ _ at Hw13
  obtain ⟨v20, hv20⟩ : ∃ z : UInt64, (FP.dmul (4617315517961601024 : UInt64) yc) = z := ⟨_, rfl⟩
  obtain ⟨v21, hv21⟩ : ∃ z : UInt64, (FP.dadd v12 v20) = z := ⟨_, rfl⟩
  obtain ⟨Tw14, Hw14, stw14⟩ := own_getF Hw13 hx hZ hown (hw _ (List.mem_of_getElem? (i := 26) rfl)) 1 3 rfl rfl (g := (mkF m 23 #[.val (.ref y)] [(.ref y), (.double v21)])) rfl rfl (hb hby d6_23)
  change own_S _ _ _ _ _ _ _ _ _ _ _ _ _ _ [(x, own_O "com/example/hazeline/hazeline/fuzzy/Trapezoid" [("com/example/hazeline/hazeline/fuzzy/Trapezoid", "a", "D", .double xa), ("com/example/hazeline/hazeline/fuzzy/Trapezoid", "b", "D", .double xb), ("com/example/hazeline/hazeline/fuzzy/Trapezoid", "c", "D", .double xc), ("com/example/hazeline/hazeline/fuzzy/Trapezoid", "d", "D", .double xd)]), (y, own_O "com/example/hazeline/hazeline/fuzzy/Trapezoid" [("com/example/hazeline/hazeline/fuzzy/Trapezoid", "a", "D", .double ya), ("com/example/hazeline/hazeline/fuzzy/Trapezoid", "b", "D", .double yb), ("com/example/hazeline/hazeline/fuzzy/Trapezoid", "c", "D", .double yc), ("com/example/hazeline/hazeline/fuzzy/Trapezoid", "d", "D", .double yd)])] _ _ at Hw14
  obtain ⟨v26, hv26⟩ : ∃ z : UInt64, (FP.dadd v21 yd) = z := ⟨_, rfl⟩
  obtain ⟨n1, n2, n3, n4, n5⟩ := hW
  have nn11 : NoNaN64 (FP.dmul (4617315517961601024 : UInt64) yb) := n1
  have nn12 : NoNaN64 (FP.dadd ya v11) := by rw [← hv11]; exact n2
  have nn20 : NoNaN64 (FP.dmul (4617315517961601024 : UInt64) yc) := n3
  have nn21 : NoNaN64 (FP.dadd v12 v20) := by rw [← hv12, ← hv11, ← hv20]; exact n4
  have hres : own_ws ya yb yc yd = v26 := by rw [← hv26, ← hv21, ← hv12, ← hv11, ← hv20]; rfl
  have nn26 : NoNaN64 (FP.dadd v21 yd) := by rw [hv26, ← hres]; exact own_is_no n5
  refine ⟨_, _, _, _, 27, #[.val (.ref y)], Hw14, by decide, by decide, Or.inr ⟨.double, (.double v26), [], .dreturn, rfl, ⟨by rw [hres], rfl⟩, d6_27, own_retD _, fun target q => ?_⟩⟩
  refine own_go H0 hx hZ hown hby hw own_K6_ok (own_w10 y) _ ?_
  refine stw11 _ ?_
  refine own_go Hw11 hx hZ hown hby hw own_K6_ok (own_w11 y ya) _ ?_
  refine stw12 _ ?_
  refine own_go Hw12 hx hZ hown hby hw own_K6_ok (own_w12 y yb ya v11 hv11 nn11 v12 hv12 nn12) _ ?_
  refine stw13 _ ?_
  refine own_go Hw13 hx hZ hown hby hw own_K6_ok (own_w13 y yc v12 v20 hv20 nn20 v21 hv21 nn21) _ ?_
  refine stw14 _ ?_
  refine own_go Hw14 hx hZ hown hby hw own_K6_ok (own_w14 y yd v21 v26 hv26 nn26) _ ?_
  exact q
theorem own_rA3 (x : Addr) (y : Addr) (v8 : UInt64) (v12 : Int32) (hb13 : ifCond.holds .eq v12 = false) (v20 : UInt64) (hv20 : (FP.ddiv v8 (4622945017495814144 : UInt64)) = v20) (nn20 : NoNaN64 (FP.ddiv v8 (4622945017495814144 : UInt64))) :
    own_Go own_K5 prog_5_method_10_code 13 #[.val (.ref x), .val (.ref y), .val (.double v8), .second] [(.int v12)] 21 #[.val (.ref x), .val (.ref y), .val (.double v8), .second] [(.double v20)] := by
  refine own_ifNo (pc2 := 16) d5_13 rfl hb13 ?_
  refine own_dloadN (pc2 := 17) d5_16 rfl rfl ?_
  refine own_ldc2D (v := (4622945017495814144 : UInt64)) (pc2 := 20) d5_17 rfl (List.mem_of_getElem? (i := 2) rfl) ?_
  refine own_ddiv (pc2 := 21) d5_20 rfl nn20 (v := v20) hv20 ?_
  exact own_refl
theorem own_rB3 (x : Addr) (y : Addr) (v8 : UInt64) (v12 : Int32) (hb13 : ifCond.holds .eq v12 = true) :
    own_Go own_K5 prog_5_method_10_code 13 #[.val (.ref x), .val (.ref y), .val (.double v8), .second] [(.int v12)] 23 #[.val (.ref x), .val (.ref y), .val (.double v8), .second] [(.ref x)] := by
  refine own_ifYes (pc' := 22) d5_13 hb13 (by decide) (by decide) ?_
  refine own_aloadN (pc2 := 23) d5_22 rfl rfl rfl ?_
  exact own_refl
theorem own_rB4 (x : Addr) (y : Addr) (v8 : UInt64) (xd : UInt64) :
    own_Go own_K5 prog_5_method_10_code 26 #[.val (.ref x), .val (.ref y), .val (.double v8), .second] [(.double xd)] 27 #[.val (.ref x), .val (.ref y), .val (.double v8), .second] [(.ref x), (.double xd)] := by
  refine own_aloadN (pc2 := 27) d5_26 rfl rfl rfl ?_
  exact own_refl
theorem own_rB5 (x : Addr) (y : Addr) (v8 : UInt64) (xa : UInt64) (xd : UInt64) (v30 : UInt64) (hv30 : (FP.dsub xd xa) = v30) (nn30 : NoNaN64 (FP.dsub xd xa)) :
    own_Go own_K5 prog_5_method_10_code 30 #[.val (.ref x), .val (.ref y), .val (.double v8), .second] [(.double xa), (.double xd)] 32 #[.val (.ref x), .val (.ref y), .val (.double v8), .second] [(.ref y), (.double v30)] := by
  refine own_dsub (pc2 := 31) d5_30 rfl nn30 (v := v30) hv30 ?_
  refine own_aloadN (pc2 := 32) d5_31 rfl rfl rfl ?_
  exact own_refl
theorem own_rB6 (x : Addr) (y : Addr) (v8 : UInt64) (yd : UInt64) (v30 : UInt64) :
    own_Go own_K5 prog_5_method_10_code 35 #[.val (.ref x), .val (.ref y), .val (.double v8), .second] [(.double yd), (.double v30)] 36 #[.val (.ref x), .val (.ref y), .val (.double v8), .second] [(.ref y), (.double yd), (.double v30)] := by
  refine own_aloadN (pc2 := 36) d5_35 rfl rfl rfl ?_
  exact own_refl
theorem own_rB7 (x : Addr) (y : Addr) (v8 : UInt64) (ya : UInt64) (yd : UInt64) (v30 : UInt64) (v39 : UInt64) (hv39 : (FP.dsub yd ya) = v39) (nn39 : NoNaN64 (FP.dsub yd ya)) (v40 : UInt64) (hv40 : (FP.dsub v30 v39) = v40) (nn40 : NoNaN64 (FP.dsub v30 v39)) (v44 : UInt64) (hv44 : (FP.ddiv v40 (4611686018427387904 : UInt64)) = v44) (nn44 : NoNaN64 (FP.ddiv v40 (4611686018427387904 : UInt64))) :
    own_Go own_K5 prog_5_method_10_code 39 #[.val (.ref x), .val (.ref y), .val (.double v8), .second] [(.double ya), (.double yd), (.double v30)] 45 #[.val (.ref x), .val (.ref y), .val (.double v8), .second] [(.double v44)] := by
  refine own_dsub (pc2 := 40) d5_39 rfl nn39 (v := v39) hv39 ?_
  refine own_dsub (pc2 := 41) d5_40 rfl nn40 (v := v40) hv40 ?_
  refine own_ldc2D (v := (4611686018427387904 : UInt64)) (pc2 := 44) d5_41 rfl (List.mem_of_getElem? (i := 1) rfl) ?_
  refine own_ddiv (pc2 := 45) d5_44 rfl nn44 (v := v44) hv44 ?_
  exact own_refl
theorem own_r0 (x : Addr) (y : Addr) :
    own_Go own_K5 prog_5_method_10_code 0 #[.val (.ref x), .val (.ref y), .unset, .unset] [] 1 #[.val (.ref x), .val (.ref y), .unset, .unset] [(.ref x)] := by
  refine own_aloadN (pc2 := 1) d5_0 rfl rfl rfl ?_
  exact own_refl
theorem own_r1 (x : Addr) (y : Addr) (t5_1 : UInt64) (ht5_1 : (own_ws xa xb xc xd) = t5_1) :
    own_Go own_K5 prog_5_method_10_code 4 #[.val (.ref x), .val (.ref y), .unset, .unset] [(.double (own_ws xa xb xc xd))] 5 #[.val (.ref x), .val (.ref y), .unset, .unset] [(.ref y), (.double t5_1)] := by
  subst ht5_1
  refine own_aloadN (pc2 := 5) d5_4 rfl rfl rfl ?_
  exact own_refl
theorem own_r2 (x : Addr) (y : Addr) (t5_1 : UInt64) (v8 : UInt64) (hv8 : (FP.dsub t5_1 (own_ws ya yb yc yd)) = v8) (nn8 : NoNaN64 (FP.dsub t5_1 (own_ws ya yb yc yd))) (v12 : Int32) (hv12 : (cmpValue (FP.dcmp v8 (0 : UInt64)) .l) = v12) :
    own_Go own_K5 prog_5_method_10_code 8 #[.val (.ref x), .val (.ref y), .unset, .unset] [(.double (own_ws ya yb yc yd)), (.double t5_1)] 13 #[.val (.ref x), .val (.ref y), .val (.double v8), .second] [(.int v12)] := by
  refine own_dsub (pc2 := 9) d5_8 rfl nn8 (v := v8) hv8 ?_
  refine own_dstoreN (pc2 := 10) d5_9 rfl (L' := #[.val (.ref x), .val (.ref y), .val (.double v8), .second]) rfl ?_
  refine own_dloadN (pc2 := 11) d5_10 rfl rfl ?_
  refine own_dconst0 (v := 0) (pc2 := 12) d5_11 rfl rfl ?_
  refine own_dcmp (pc2 := 13) d5_12 rfl (v := v12) hv12 ?_
  exact own_refl
set_option maxRecDepth 65536 in
set_option maxHeartbeats 4000000 in
theorem own_rank (l : Launch) (Z : State) (a0 : Array Value) (hb0 : Heap) (hw : ∀ d ∈ tables_1, d.before a0 Z = true) (x : Addr) (y : Addr)  (xa : UInt64) (xb : UInt64) (xc : UInt64) (xd : UInt64) (ya : UInt64) (yb : UInt64) (yc : UInt64) (yd : UInt64) (A B C D A' B' C' D' : Int) (iA : own_is xa (A : Rat)) (iB : own_is xb (B : Rat)) (iC : own_is xc (C : Rat)) (iD : own_is xd (D : Rat)) (jA : own_is ya (A' : Rat)) (jB : own_is yb (B' : Rat)) (jC : own_is yc (C' : Rat)) (jD : own_is yd (D' : Rat)) (k0 : A.natAbs ≤ 8589934592) (k1 : B.natAbs ≤ 8589934592) (k2 : C.natAbs ≤ 8589934592) (k3 : D.natAbs ≤ 8589934592) (k4 : A'.natAbs ≤ 8589934592) (k5 : B'.natAbs ≤ 8589934592) (k6 : C'.natAbs ≤ 8589934592) (k7 : D'.natAbs ≤ 8589934592) :
    own_Met l Z a0 hb0 (⟨"com/example/hazeline/hazeline/fuzzy/Trapezoid", "rankingDifference", "(Lcom/example/hazeline/hazeline/fuzzy/Trapezoid;)D"⟩ : MethodName) prog_5_method_10_code 4 (some .double) [] ({ frames := 1, cells := 0, slots := 0, locals := 14 } : Room) #[(.ref x), (.ref y)] [(x, own_O "com/example/hazeline/hazeline/fuzzy/Trapezoid" [("com/example/hazeline/hazeline/fuzzy/Trapezoid", "a", "D", .double xa), ("com/example/hazeline/hazeline/fuzzy/Trapezoid", "b", "D", .double xb), ("com/example/hazeline/hazeline/fuzzy/Trapezoid", "c", "D", .double xc), ("com/example/hazeline/hazeline/fuzzy/Trapezoid", "d", "D", .double xd)]), (y, own_O "com/example/hazeline/hazeline/fuzzy/Trapezoid" [("com/example/hazeline/hazeline/fuzzy/Trapezoid", "a", "D", .double ya), ("com/example/hazeline/hazeline/fuzzy/Trapezoid", "b", "D", .double yb), ("com/example/hazeline/hazeline/fuzzy/Trapezoid", "c", "D", .double yc), ("com/example/hazeline/hazeline/fuzzy/Trapezoid", "d", "D", .double yd)])] (fun v cs' => (∃ r, v = some (.double r) ∧ own_rd r (if (A + 5 * B + 5 * C + D) - (A' + 5 * B' + 5 * C' + D') = 0 then (((D - A) - (D' - A') : Int) : Rat) / 2 else (((A + 5 * B + 5 * C + D) - (A' + 5 * B' + 5 * C' + D') : Int) : Rat) / 12)) ∧ cs' = [(x, own_O "com/example/hazeline/hazeline/fuzzy/Trapezoid" [("com/example/hazeline/hazeline/fuzzy/Trapezoid", "a", "D", .double xa), ("com/example/hazeline/hazeline/fuzzy/Trapezoid", "b", "D", .double xb), ("com/example/hazeline/hazeline/fuzzy/Trapezoid", "c", "D", .double xc), ("com/example/hazeline/hazeline/fuzzy/Trapezoid", "d", "D", .double xd)]), (y, own_O "com/example/hazeline/hazeline/fuzzy/Trapezoid" [("com/example/hazeline/hazeline/fuzzy/Trapezoid", "a", "D", .double ya), ("com/example/hazeline/hazeline/fuzzy/Trapezoid", "b", "D", .double yb), ("com/example/hazeline/hazeline/fuzzy/Trapezoid", "c", "D", .double yc), ("com/example/hazeline/hazeline/fuzzy/Trapezoid", "d", "D", .double yd)])]) := by
  refine own_met_of (L0 := #[.val (.ref x), .val (.ref y), .unset, .unset]) own_pn5 (fun m => own_ef5 m x y) ?_
  intro p e s m below meth c T0 hx hZ hown hby hml hnm H0
  have hWx := own_wsum iA iB iC iD k0 k1 k2 k3
  have hWy := own_wsum jA jB jC jD k4 k5 k6 k7
  obtain ⟨Tr1, vr1_, csr1_, qr1, Hr1, str1⟩ := own_callPr H0 hx hZ hown (hw _ (List.mem_of_getElem? (i := 33) rfl)) (hw _ (List.mem_of_getElem? (i := 34) rfl)) (hw _ (List.mem_of_getElem? (i := 35) rfl)) (hw _ (List.mem_of_getElem? (i := 3) rfl)) (hw _ (List.mem_of_getElem? (i := 4) rfl)) (hw _ (List.mem_of_getElem? (i := 36) rfl)) (by decide) (x := x) 0 rfl (argsL := []) (rest := []) (W := 0) (own_w0m l Z a0 hb0 hw x y xa xb xc xd ya yb yc yd _ hWx) (by decide) (by decide) (by decide) (by decide) (g := (mkF m 1 #[.val (.ref x), .val (.ref y), .unset, .unset] [(.ref x)])) rfl (by rw [hml]; rfl) (lenOf own_pd0 rfl) rfl (by show 2 * 0 + _ ≤ _; exact Nat.le_of_eq rfl) (hb hby d5_1)
  obtain ⟨rfl, rfl⟩ := qr1
  change own_S _ _ _ _ _ _ _ _ _ _ _ _ _ _ [(x, own_O "com/example/hazeline/hazeline/fuzzy/Trapezoid" [("com/example/hazeline/hazeline/fuzzy/Trapezoid", "a", "D", .double xa), ("com/example/hazeline/hazeline/fuzzy/Trapezoid", "b", "D", .double xb), ("com/example/hazeline/hazeline/fuzzy/Trapezoid", "c", "D", .double xc), ("com/example/hazeline/hazeline/fuzzy/Trapezoid", "d", "D", .double xd)]), (y, own_O "com/example/hazeline/hazeline/fuzzy/Trapezoid" [("com/example/hazeline/hazeline/fuzzy/Trapezoid", "a", "D", .double ya), ("com/example/hazeline/hazeline/fuzzy/Trapezoid", "b", "D", .double yb), ("com/example/hazeline/hazeline/fuzzy/Trapezoid", "c", "D", .double yc), ("com/example/hazeline/hazeline/fuzzy/Trapezoid", "d", "D", .double yd)])] _ _ at Hr1
  obtain ⟨t5_1, ht5_1⟩ : ∃ z : UInt64, (own_ws xa xb xc xd) = z := ⟨_, rfl⟩
  obtain ⟨Tr2, vr2_, csr2_, qr2, Hr2, str2⟩ := own_callPr Hr1 hx hZ hown (hw _ (List.mem_of_getElem? (i := 33) rfl)) (hw _ (List.mem_of_getElem? (i := 34) rfl)) (hw _ (List.mem_of_getElem? (i := 35) rfl)) (hw _ (List.mem_of_getElem? (i := 3) rfl)) (hw _ (List.mem_of_getElem? (i := 4) rfl)) (hw _ (List.mem_of_getElem? (i := 36) rfl)) (by decide) (x := y) 1 rfl (argsL := []) (rest := [(.double t5_1)]) (W := 2) (own_w1m l Z a0 hb0 hw y x xa xb xc xd ya yb yc yd _ hWy) (by decide) (by decide) (by decide) (by decide) (g := (mkF m 5 #[.val (.ref x), .val (.ref y), .unset, .unset] [(.ref y), (.double t5_1)])) rfl (by rw [hml]; rfl) (lenOf own_pd0 rfl) rfl (by show 2 * 0 + _ ≤ _; exact Nat.le_of_eq rfl) (hb hby d5_5)
  obtain ⟨rfl, rfl⟩ := qr2
  change own_S _ _ _ _ _ _ _ _ _ _ _ _ _ _ [(x, own_O "com/example/hazeline/hazeline/fuzzy/Trapezoid" [("com/example/hazeline/hazeline/fuzzy/Trapezoid", "a", "D", .double xa), ("com/example/hazeline/hazeline/fuzzy/Trapezoid", "b", "D", .double xb), ("com/example/hazeline/hazeline/fuzzy/Trapezoid", "c", "D", .double xc), ("com/example/hazeline/hazeline/fuzzy/Trapezoid", "d", "D", .double xd)]), (y, own_O "com/example/hazeline/hazeline/fuzzy/Trapezoid" [("com/example/hazeline/hazeline/fuzzy/Trapezoid", "a", "D", .double ya), ("com/example/hazeline/hazeline/fuzzy/Trapezoid", "b", "D", .double yb), ("com/example/hazeline/hazeline/fuzzy/Trapezoid", "c", "D", .double yc), ("com/example/hazeline/hazeline/fuzzy/Trapezoid", "d", "D", .double yd)])] _ _ at Hr2
  obtain ⟨v8, hv8⟩ : ∃ z : UInt64, (FP.dsub t5_1 (own_ws ya yb yc yd)) = z := ⟨_, rfl⟩
  obtain ⟨v12, hv12⟩ : ∃ z : Int32, (cmpValue (FP.dcmp v8 (0 : UInt64)) .l) = z := ⟨_, rfl⟩
  have r8 : own_rd v8 (((A + 5 * B + 5 * C + D) - (A' + 5 * B' + 5 * C' + D') : Int) : Rat) := by rw [← hv8, ← ht5_1, Rat.intCast_sub]; exact own_sub hWx.2.2.2.2 hWy.2.2.2.2
  have i8 := own_rd_small r8 (by omega)
  have nn8 : NoNaN64 (FP.dsub t5_1 (own_ws ya yb yc yd)) := by rw [hv8]; exact own_is_no i8
  by_cases hz : (A + 5 * B + 5 * C + D) - (A' + 5 * B' + 5 * C' + D') = 0
  · obtain ⟨TrB3, HrB3, strB3⟩ := own_getF Hr2 hx hZ hown (hw _ (List.mem_of_getElem? (i := 26) rfl)) 0 3 rfl rfl (g := (mkF m 23 #[.val (.ref x), .val (.ref y), .val (.double v8), .second] [(.ref x)])) rfl rfl (hb hby d5_23)
    change own_S _ _ _ _ _ _ _ _ _ _ _ _ _ _ [(x, own_O "com/example/hazeline/hazeline/fuzzy/Trapezoid" [("com/example/hazeline/hazeline/fuzzy/Trapezoid", "a", "D", .double xa), ("com/example/hazeline/hazeline/fuzzy/Trapezoid", "b", "D", .double xb), ("com/example/hazeline/hazeline/fuzzy/Trapezoid", "c", "D", .double xc), ("com/example/hazeline/hazeline/fuzzy/Trapezoid", "d", "D", .double xd)]), (y, own_O "com/example/hazeline/hazeline/fuzzy/Trapezoid" [("com/example/hazeline/hazeline/fuzzy/Trapezoid", "a", "D", .double ya), ("com/example/hazeline/hazeline/fuzzy/Trapezoid", "b", "D", .double yb), ("com/example/hazeline/hazeline/fuzzy/Trapezoid", "c", "D", .double yc), ("com/example/hazeline/hazeline/fuzzy/Trapezoid", "d", "D", .double yd)])] _ _ at HrB3
    obtain ⟨TrB4, HrB4, strB4⟩ := own_getF HrB3 hx hZ hown (hw _ (List.mem_of_getElem? (i := 20) rfl)) 0 0 rfl rfl (g := (mkF m 27 #[.val (.ref x), .val (.ref y), .val (.double v8), .second] [(.ref x), (.double xd)])) rfl rfl (hb hby d5_27)
    change own_S _ _ _ _ _ _ _ _ _ _ _ _ _ _ [(x, own_O "com/example/hazeline/hazeline/fuzzy/Trapezoid" [("com/example/hazeline/hazeline/fuzzy/Trapezoid", "a", "D", .double xa), ("com/example/hazeline/hazeline/fuzzy/Trapezoid", "b", "D", .double xb), ("com/example/hazeline/hazeline/fuzzy/Trapezoid", "c", "D", .double xc), ("com/example/hazeline/hazeline/fuzzy/Trapezoid", "d", "D", .double xd)]), (y, own_O "com/example/hazeline/hazeline/fuzzy/Trapezoid" [("com/example/hazeline/hazeline/fuzzy/Trapezoid", "a", "D", .double ya), ("com/example/hazeline/hazeline/fuzzy/Trapezoid", "b", "D", .double yb), ("com/example/hazeline/hazeline/fuzzy/Trapezoid", "c", "D", .double yc), ("com/example/hazeline/hazeline/fuzzy/Trapezoid", "d", "D", .double yd)])] _ _ at HrB4
    obtain ⟨v30, hv30⟩ : ∃ z : UInt64, (FP.dsub xd xa) = z := ⟨_, rfl⟩
    obtain ⟨TrB5, HrB5, strB5⟩ := own_getF HrB4 hx hZ hown (hw _ (List.mem_of_getElem? (i := 26) rfl)) 1 3 rfl rfl (g := (mkF m 32 #[.val (.ref x), .val (.ref y), .val (.double v8), .second] [(.ref y), (.double v30)])) rfl rfl (hb hby d5_32)
    change own_S _ _ _ _ _ _ _ _ _ _ _ _ _ _ [(x, own_O "com/example/hazeline/hazeline/fuzzy/Trapezoid" [("com/example/hazeline/hazeline/fuzzy/Trapezoid", "a", "D", .double xa), ("com/example/hazeline/hazeline/fuzzy/Trapezoid", "b", "D", .double xb), ("com/example/hazeline/hazeline/fuzzy/Trapezoid", "c", "D", .double xc), ("com/example/hazeline/hazeline/fuzzy/Trapezoid", "d", "D", .double xd)]), (y, own_O "com/example/hazeline/hazeline/fuzzy/Trapezoid" [("com/example/hazeline/hazeline/fuzzy/Trapezoid", "a", "D", .double ya), ("com/example/hazeline/hazeline/fuzzy/Trapezoid", "b", "D", .double yb), ("com/example/hazeline/hazeline/fuzzy/Trapezoid", "c", "D", .double yc), ("com/example/hazeline/hazeline/fuzzy/Trapezoid", "d", "D", .double yd)])] _ _ at HrB5
    obtain ⟨TrB6, HrB6, strB6⟩ := own_getF HrB5 hx hZ hown (hw _ (List.mem_of_getElem? (i := 20) rfl)) 1 0 rfl rfl (g := (mkF m 36 #[.val (.ref x), .val (.ref y), .val (.double v8), .second] [(.ref y), (.double yd), (.double v30)])) rfl rfl (hb hby d5_36)
    change own_S _ _ _ _ _ _ _ _ _ _ _ _ _ _ [(x, own_O "com/example/hazeline/hazeline/fuzzy/Trapezoid" [("com/example/hazeline/hazeline/fuzzy/Trapezoid", "a", "D", .double xa), ("com/example/hazeline/hazeline/fuzzy/Trapezoid", "b", "D", .double xb), ("com/example/hazeline/hazeline/fuzzy/Trapezoid", "c", "D", .double xc), ("com/example/hazeline/hazeline/fuzzy/Trapezoid", "d", "D", .double xd)]), (y, own_O "com/example/hazeline/hazeline/fuzzy/Trapezoid" [("com/example/hazeline/hazeline/fuzzy/Trapezoid", "a", "D", .double ya), ("com/example/hazeline/hazeline/fuzzy/Trapezoid", "b", "D", .double yb), ("com/example/hazeline/hazeline/fuzzy/Trapezoid", "c", "D", .double yc), ("com/example/hazeline/hazeline/fuzzy/Trapezoid", "d", "D", .double yd)])] _ _ at HrB6
    obtain ⟨v39, hv39⟩ : ∃ z : UInt64, (FP.dsub yd ya) = z := ⟨_, rfl⟩
    obtain ⟨v40, hv40⟩ : ∃ z : UInt64, (FP.dsub v30 v39) = z := ⟨_, rfl⟩
    obtain ⟨v44, hv44⟩ : ∃ z : UInt64, (FP.ddiv v40 (4611686018427387904 : UInt64)) = z := ⟨_, rfl⟩
    have hb13 : ifCond.holds .eq v12 = true := by rw [← hv12, own_c_eq i8 own_zero, hz]; rfl
    have q30 : own_rd v30 ((D - A : Int) : Rat) := by rw [← hv30, Rat.intCast_sub]; exact own_sub iD iA
    have i30 := own_rd_small q30 (by omega)
    have q39 : own_rd v39 ((D' - A' : Int) : Rat) := by rw [← hv39, Rat.intCast_sub]; exact own_sub jD jA
    have i39 := own_rd_small q39 (by omega)
    have q40 : own_rd v40 (((D - A) - (D' - A') : Int) : Rat) := by rw [← hv40, Rat.intCast_sub]; exact own_sub i30 i39
    have i40 := own_rd_small q40 (by omega)
    have q44 : own_rd v44 ((((D - A) - (D' - A') : Int) : Rat) / 2) := by rw [← hv44]; exact own_div i40 own_two (by decide)
    have nn30 : NoNaN64 (FP.dsub xd xa) := by rw [hv30]; exact own_is_no i30
    have nn39 : NoNaN64 (FP.dsub yd ya) := by rw [hv39]; exact own_is_no i39
    have nn40 : NoNaN64 (FP.dsub v30 v39) := by rw [hv40]; exact own_is_no i40
    have nn44 : NoNaN64 (FP.ddiv v40 (4611686018427387904 : UInt64)) := by rw [hv44]; exact own_rd_no q44
    refine ⟨_, _, _, _, 45, #[.val (.ref x), .val (.ref y), .val (.double v8), .second], HrB6, by decide, by decide, Or.inr ⟨.double, (.double v44), [], .dreturn, rfl, ⟨⟨v44, rfl, by rw [if_pos hz]; exact q44⟩, rfl⟩, d5_45, own_retD _, fun target q => ?_⟩⟩
    refine own_go H0 hx hZ hown hby hw own_K5_ok (own_r0 x y) _ ?_
    refine str1 _ ?_
    refine own_go Hr1 hx hZ hown hby hw own_K5_ok (own_r1 x y t5_1 ht5_1) _ ?_
    refine str2 _ ?_
    refine own_go Hr2 hx hZ hown hby hw own_K5_ok (own_r2 x y t5_1 v8 hv8 nn8 v12 hv12) _ ?_
    refine own_go Hr2 hx hZ hown hby hw own_K5_ok (own_rB3 x y v8 v12 hb13) _ ?_
    refine strB3 _ ?_
    refine own_go HrB3 hx hZ hown hby hw own_K5_ok (own_rB4 x y v8 xd) _ ?_
    refine strB4 _ ?_
    refine own_go HrB4 hx hZ hown hby hw own_K5_ok (own_rB5 x y v8 xa xd v30 hv30 nn30) _ ?_
    refine strB5 _ ?_
    refine own_go HrB5 hx hZ hown hby hw own_K5_ok (own_rB6 x y v8 yd v30) _ ?_
    refine strB6 _ ?_
    refine own_go HrB6 hx hZ hown hby hw own_K5_ok (own_rB7 x y v8 ya yd v30 v39 hv39 nn39 v40 hv40 nn40 v44 hv44 nn44) _ ?_
    exact q
  · obtain ⟨v20, hv20⟩ : ∃ z : UInt64, (FP.ddiv v8 (4622945017495814144 : UInt64)) = z := ⟨_, rfl⟩
    have hb13 : ifCond.holds .eq v12 = false := by
      have : ¬ ((((A + 5 * B + 5 * C + D) - (A' + 5 * B' + 5 * C' + D') : Int) : Rat) = 0) := by rw [Rat.intCast_eq_zero_iff]; exact hz
      rw [← hv12, own_c_eq i8 own_zero]; simp only [this, decide_false]
    have q20 : own_rd v20 ((((A + 5 * B + 5 * C + D) - (A' + 5 * B' + 5 * C' + D') : Int) : Rat) / 12) := by rw [← hv20]; exact own_div i8 own_twelve (by decide)
    have nn20 : NoNaN64 (FP.ddiv v8 (4622945017495814144 : UInt64)) := by rw [hv20]; exact own_rd_no q20
    refine ⟨_, _, _, _, 21, #[.val (.ref x), .val (.ref y), .val (.double v8), .second], Hr2, by decide, by decide, Or.inr ⟨.double, (.double v20), [], .dreturn, rfl, ⟨⟨v20, rfl, by rw [if_neg hz]; exact q20⟩, rfl⟩, d5_21, own_retD _, fun target q => ?_⟩⟩
    refine own_go H0 hx hZ hown hby hw own_K5_ok (own_r0 x y) _ ?_
    refine str1 _ ?_
    refine own_go Hr1 hx hZ hown hby hw own_K5_ok (own_r1 x y t5_1 ht5_1) _ ?_
    refine str2 _ ?_
    refine own_go Hr2 hx hZ hown hby hw own_K5_ok (own_r2 x y t5_1 v8 hv8 nn8 v12 hv12) _ ?_
    refine own_go Hr2 hx hZ hown hby hw own_K5_ok (own_rA3 x y v8 v12 hb13 v20 hv20 nn20) _ ?_
    exact q

def own_T (K : Int) (a b c d : Int64) : Prop := -K ≤ a.toInt ∧ a.toInt ≤ b.toInt ∧ b.toInt ≤ c.toInt ∧ c.toInt ≤ d.toInt ∧ d.toInt ≤ K
theorem own_trap {a b c d : Int64} {da db dc dd : UInt64} (h : own_T 8589934592 a b c d) (ea : FP.l2d a = da) (eb : FP.l2d b = db) (ec : FP.l2d c = dc) (ed : FP.l2d d = dd) :
    (own_is da ((a.toInt : Int) : Rat) ∧ own_is db ((b.toInt : Int) : Rat) ∧ own_is dc ((c.toInt : Int) : Rat) ∧ own_is dd ((d.toInt : Int) : Rat)) ∧
    (ifCond.holds .gt (cmpValue (FP.dcmp da db) .g) = false ∧ ifCond.holds .gt (cmpValue (FP.dcmp db dc) .g) = false ∧ ifCond.holds .le (cmpValue (FP.dcmp dc dd) .g) = true) := by
  obtain ⟨h1, h2, h3, h4, h5⟩ := h
  subst ea eb ec ed
  have ia := own_rd_small (own_rdL a) (by omega)
  have ib := own_rd_small (own_rdL b) (by omega)
  have ic := own_rd_small (own_rdL c) (by omega)
  have id' := own_rd_small (own_rdL d) (by omega)
  refine ⟨⟨ia, ib, ic, id'⟩, ?_, ?_, ?_⟩
  · rw [own_c_gt ia ib]; simp only [Rat.intCast_lt_intCast]; simp; omega
  · rw [own_c_gt ib ic]; simp only [Rat.intCast_lt_intCast]; simp; omega
  · rw [own_c_le ic id']; simp only [Rat.intCast_le_intCast]; simp; omega
theorem own_ef0 (m : MethodId) (x0 : Int32) (x1 : Int64) (x2 : Int32) (x3 : Int64) (x4 : Int32) (x5 : Int32) : entryFrame m #[(.int x0), (.long x1), (.int x2), (.long x3), (.int x4), (.int x5)] maxLocals = mkF m 0 (List.toArray ((.val (.int x0)) :: (.val (.long x1)) :: .second :: (.val (.int x2)) :: (.val (.long x3)) :: .second :: (.val (.int x4)) :: (.val (.int x5)) :: .unset :: .unset :: .unset :: .unset :: .unset :: .unset :: .unset :: .unset :: .unset :: .unset :: .unset :: .unset :: .unset :: .unset :: .unset :: .unset :: .unset :: .unset :: .unset :: .unset :: .unset :: .unset :: .unset :: .unset :: .unset :: .unset :: .unset :: .unset :: .unset :: .unset :: .unset :: .unset :: .unset :: .unset :: .unset :: .unset :: .unset :: .unset :: .unset :: .unset :: .unset :: [])) [] := by first | (simp [entryFrame, mkF, argsToLocals, Value.category, maxLocals]; done) | rfl
theorem own_s0 (a1 : Int32) (i1 : Int64) (a2 : Int32) (i2 : Int64) (sh : Int32) (md : Int32) (v1 : Int64) (hv1 : a1.toInt64 = v1) (v10 : Int64) (hv10 : (i1 &&& (2097151 : Int64)) = v10) (v11 : Int64) (hv11 : (v1 + v10) = v11) (v19 : Int64) (hv19 : ((i1.toUInt64 >>> ((21 : Int32) &&& 0x3f).toInt64.toUInt64).toInt64) = v19) (v23 : Int64) (hv23 : (v19 &&& (2097151 : Int64)) = v23) (v24 : Int64) (hv24 : (v11 + v23) = v24) (v32 : Int64) (hv32 : ((i1.toUInt64 >>> ((42 : Int32) &&& 0x3f).toInt64.toUInt64).toInt64) = v32) (v36 : Int64) (hv36 : (v32 &&& (2097151 : Int64)) = v36) (v37 : Int64) (hv37 : (v24 + v36) = v37) :
    own_Go own_K0 code 0 (List.toArray ((.val (.int a1)) :: (.val (.long i1)) :: .second :: (.val (.int a2)) :: (.val (.long i2)) :: .second :: (.val (.int sh)) :: (.val (.int md)) :: .unset :: .unset :: .unset :: .unset :: .unset :: .unset :: .unset :: .unset :: .unset :: .unset :: .unset :: .unset :: .unset :: .unset :: .unset :: .unset :: .unset :: .unset :: .unset :: .unset :: .unset :: .unset :: .unset :: .unset :: .unset :: .unset :: .unset :: .unset :: .unset :: .unset :: .unset :: .unset :: .unset :: .unset :: .unset :: .unset :: .unset :: .unset :: .unset :: .unset :: .unset :: [])) [] 40 (List.toArray ((.val (.int a1)) :: (.val (.long i1)) :: .second :: (.val (.int a2)) :: (.val (.long i2)) :: .second :: (.val (.int sh)) :: (.val (.int md)) :: (.val (.long v1)) :: .second :: (.val (.long v11)) :: .second :: (.val (.long v24)) :: .second :: (.val (.long v37)) :: .second :: .unset :: .unset :: .unset :: .unset :: .unset :: .unset :: .unset :: .unset :: .unset :: .unset :: .unset :: .unset :: .unset :: .unset :: .unset :: .unset :: .unset :: .unset :: .unset :: .unset :: .unset :: .unset :: .unset :: .unset :: .unset :: .unset :: .unset :: .unset :: .unset :: .unset :: .unset :: .unset :: .unset :: [])) [] := by
  refine own_iloadN (pc2 := 1) at_0 rfl rfl ?_
  refine own_i2l (pc2 := 2) at_1 rfl (v := v1) hv1 ?_
  refine own_lstore (pc2 := 4) at_2 rfl (L' := (List.toArray ((.val (.int a1)) :: (.val (.long i1)) :: .second :: (.val (.int a2)) :: (.val (.long i2)) :: .second :: (.val (.int sh)) :: (.val (.int md)) :: (.val (.long v1)) :: .second :: .unset :: .unset :: .unset :: .unset :: .unset :: .unset :: .unset :: .unset :: .unset :: .unset :: .unset :: .unset :: .unset :: .unset :: .unset :: .unset :: .unset :: .unset :: .unset :: .unset :: .unset :: .unset :: .unset :: .unset :: .unset :: .unset :: .unset :: .unset :: .unset :: .unset :: .unset :: .unset :: .unset :: .unset :: .unset :: .unset :: .unset :: .unset :: .unset :: []))) rfl ?_
  refine own_lload (pc2 := 6) at_4 rfl rfl ?_
  refine own_lloadN (pc2 := 7) at_6 rfl rfl ?_
  refine own_ldc2L (v := (2097151 : Int64)) (pc2 := 10) at_7 rfl (List.mem_of_getElem? (i := 0) rfl) ?_
  refine own_land (pc2 := 11) at_10 rfl (v := v10) hv10 ?_
  refine own_ladd (pc2 := 12) at_11 rfl (v := v11) hv11 ?_
  refine own_lstore (pc2 := 14) at_12 rfl (L' := (List.toArray ((.val (.int a1)) :: (.val (.long i1)) :: .second :: (.val (.int a2)) :: (.val (.long i2)) :: .second :: (.val (.int sh)) :: (.val (.int md)) :: (.val (.long v1)) :: .second :: (.val (.long v11)) :: .second :: .unset :: .unset :: .unset :: .unset :: .unset :: .unset :: .unset :: .unset :: .unset :: .unset :: .unset :: .unset :: .unset :: .unset :: .unset :: .unset :: .unset :: .unset :: .unset :: .unset :: .unset :: .unset :: .unset :: .unset :: .unset :: .unset :: .unset :: .unset :: .unset :: .unset :: .unset :: .unset :: .unset :: .unset :: .unset :: .unset :: .unset :: []))) rfl ?_
  refine own_lload (pc2 := 16) at_14 rfl rfl ?_
  refine own_lloadN (pc2 := 17) at_16 rfl rfl ?_
  refine own_bipush (v := 21) (pc2 := 19) at_17 rfl rfl ?_
  refine own_lushr (pc2 := 20) at_19 rfl (v := v19) hv19 ?_
  refine own_ldc2L (v := (2097151 : Int64)) (pc2 := 23) at_20 rfl (List.mem_of_getElem? (i := 0) rfl) ?_
  refine own_land (pc2 := 24) at_23 rfl (v := v23) hv23 ?_
  refine own_ladd (pc2 := 25) at_24 rfl (v := v24) hv24 ?_
  refine own_lstore (pc2 := 27) at_25 rfl (L' := (List.toArray ((.val (.int a1)) :: (.val (.long i1)) :: .second :: (.val (.int a2)) :: (.val (.long i2)) :: .second :: (.val (.int sh)) :: (.val (.int md)) :: (.val (.long v1)) :: .second :: (.val (.long v11)) :: .second :: (.val (.long v24)) :: .second :: .unset :: .unset :: .unset :: .unset :: .unset :: .unset :: .unset :: .unset :: .unset :: .unset :: .unset :: .unset :: .unset :: .unset :: .unset :: .unset :: .unset :: .unset :: .unset :: .unset :: .unset :: .unset :: .unset :: .unset :: .unset :: .unset :: .unset :: .unset :: .unset :: .unset :: .unset :: .unset :: .unset :: .unset :: .unset :: []))) rfl ?_
  refine own_lload (pc2 := 29) at_27 rfl rfl ?_
  refine own_lloadN (pc2 := 30) at_29 rfl rfl ?_
  refine own_bipush (v := 42) (pc2 := 32) at_30 rfl rfl ?_
  refine own_lushr (pc2 := 33) at_32 rfl (v := v32) hv32 ?_
  refine own_ldc2L (v := (2097151 : Int64)) (pc2 := 36) at_33 rfl (List.mem_of_getElem? (i := 0) rfl) ?_
  refine own_land (pc2 := 37) at_36 rfl (v := v36) hv36 ?_
  refine own_ladd (pc2 := 38) at_37 rfl (v := v37) hv37 ?_
  refine own_lstore (pc2 := 40) at_38 rfl (L' := (List.toArray ((.val (.int a1)) :: (.val (.long i1)) :: .second :: (.val (.int a2)) :: (.val (.long i2)) :: .second :: (.val (.int sh)) :: (.val (.int md)) :: (.val (.long v1)) :: .second :: (.val (.long v11)) :: .second :: (.val (.long v24)) :: .second :: (.val (.long v37)) :: .second :: .unset :: .unset :: .unset :: .unset :: .unset :: .unset :: .unset :: .unset :: .unset :: .unset :: .unset :: .unset :: .unset :: .unset :: .unset :: .unset :: .unset :: .unset :: .unset :: .unset :: .unset :: .unset :: .unset :: .unset :: .unset :: .unset :: .unset :: .unset :: .unset :: .unset :: .unset :: .unset :: .unset :: []))) rfl ?_
  exact own_refl
theorem own_s1 (a1 : Int32) (i1 : Int64) (a2 : Int32) (i2 : Int64) (sh : Int32) (md : Int32) (v1 : Int64) (v11 : Int64) (v24 : Int64) (v37 : Int64) (v43 : Int32) (hv43 : (md &&& (1 : Int32)) = v43) (v49 : Int64) (hv49 : sh.toInt64 = v49) (v53 : Int64) (hv53 : (v49 &&& (2147483647 : Int64)) = v53) (v60 : Int64) (hv60 : (v1 - v53) = v60) (v75 : Int64) (hv75 : (v37 + v53) = v75) (v127 : Int32) (hv127 : (md &&& (2 : Int32)) = v127) (v82 : Int64) (hv82 : a2.toInt64 = v82) (v92 : Int64) (hv92 : (i2 &&& (2097151 : Int64)) = v92) (v93 : Int64) (hv93 : (v82 + v92) = v93) (v102 : Int64) (hv102 : ((i2.toUInt64 >>> ((21 : Int32) &&& 0x3f).toInt64.toUInt64).toInt64) = v102) (v106 : Int64) (hv106 : (v102 &&& (2097151 : Int64)) = v106) (v107 : Int64) (hv107 : (v93 + v106) = v107) (v116 : Int64) (hv116 : ((i2.toUInt64 >>> ((42 : Int32) &&& 0x3f).toInt64.toUInt64).toInt64) = v116) (v120 : Int64) (hv120 : (v116 &&& (2097151 : Int64)) = v120) (v121 : Int64) (hv121 : (v107 + v120) = v121) (v127' : Int32) (hv127' : (md &&& (2 : Int32)) = v127') (j138_16 : Int64) (hj138_16 : (bif ifCond.holds .eq v43 then v82 else v60) = j138_16) (j138_18 : Int64) (hj138_18 : (bif ifCond.holds .eq v43 then v93 else v11) = j138_18) (j138_20 : Int64) (hj138_20 : (bif ifCond.holds .eq v43 then v107 else v24) = j138_20) (j138_22 : Int64) (hj138_22 : (bif ifCond.holds .eq v43 then v121 else v75) = j138_22) (j138_24 : Int32) (hj138_24 : (bif ifCond.holds .eq v43 then (bif ifCond.holds .eq v127' then (0 : Int32) else (1 : Int32)) else (bif ifCond.holds .eq v127 then (0 : Int32) else (1 : Int32))) = j138_24) :
    own_Go own_K0 code 40 (List.toArray ((.val (.int a1)) :: (.val (.long i1)) :: .second :: (.val (.int a2)) :: (.val (.long i2)) :: .second :: (.val (.int sh)) :: (.val (.int md)) :: (.val (.long v1)) :: .second :: (.val (.long v11)) :: .second :: (.val (.long v24)) :: .second :: (.val (.long v37)) :: .second :: .unset :: .unset :: .unset :: .unset :: .unset :: .unset :: .unset :: .unset :: .unset :: .unset :: .unset :: .unset :: .unset :: .unset :: .unset :: .unset :: .unset :: .unset :: .unset :: .unset :: .unset :: .unset :: .unset :: .unset :: .unset :: .unset :: .unset :: .unset :: .unset :: .unset :: .unset :: .unset :: .unset :: [])) [] 138 (List.toArray ((.val (.int a1)) :: (.val (.long i1)) :: .second :: (.val (.int a2)) :: (.val (.long i2)) :: .second :: (.val (.int sh)) :: (.val (.int md)) :: (.val (.long v1)) :: .second :: (.val (.long v11)) :: .second :: (.val (.long v24)) :: .second :: (.val (.long v37)) :: .second :: (.val (.long j138_16)) :: .second :: (.val (.long j138_18)) :: .second :: (.val (.long j138_20)) :: .second :: (.val (.long j138_22)) :: .second :: (.val (.int j138_24)) :: .unset :: .unset :: .unset :: .unset :: .unset :: .unset :: .unset :: .unset :: .unset :: .unset :: .unset :: .unset :: .unset :: .unset :: .unset :: .unset :: .unset :: .unset :: .unset :: .unset :: .unset :: .unset :: .unset :: .unset :: [])) [] := by
  subst hj138_16 hj138_18 hj138_20 hj138_22 hj138_24
  refine own_iload (pc2 := 42) at_40 rfl rfl ?_
  refine own_iconst (v := 1) (pc2 := 43) at_42 rfl rfl ?_
  refine own_iand (pc2 := 44) at_43 rfl (v := v43) hv43 ?_
  cases hb44 : ifCond.holds .eq v43
  · refine own_ifNo (pc2 := 47) at_44 rfl hb44 ?_
    refine own_iload (pc2 := 49) at_47 rfl rfl ?_
    refine own_i2l (pc2 := 50) at_49 rfl (v := v49) hv49 ?_
    refine own_ldc2L (v := (2147483647 : Int64)) (pc2 := 53) at_50 rfl (List.mem_of_getElem? (i := 1) rfl) ?_
    refine own_land (pc2 := 54) at_53 rfl (v := v53) hv53 ?_
    refine own_lstore (pc2 := 56) at_54 rfl (L' := (List.toArray ((.val (.int a1)) :: (.val (.long i1)) :: .second :: (.val (.int a2)) :: (.val (.long i2)) :: .second :: (.val (.int sh)) :: (.val (.int md)) :: (.val (.long v1)) :: .second :: (.val (.long v11)) :: .second :: (.val (.long v24)) :: .second :: (.val (.long v37)) :: .second :: .unset :: .unset :: .unset :: .unset :: .unset :: .unset :: .unset :: .unset :: (.val (.long v53)) :: .second :: .unset :: .unset :: .unset :: .unset :: .unset :: .unset :: .unset :: .unset :: .unset :: .unset :: .unset :: .unset :: .unset :: .unset :: .unset :: .unset :: .unset :: .unset :: .unset :: .unset :: .unset :: .unset :: .unset :: []))) rfl ?_
    refine own_lload (pc2 := 58) at_56 rfl rfl ?_
    refine own_lload (pc2 := 60) at_58 rfl rfl ?_
    refine own_lsub (pc2 := 61) at_60 rfl (v := v60) hv60 ?_
    refine own_lstore (pc2 := 63) at_61 rfl (L' := (List.toArray ((.val (.int a1)) :: (.val (.long i1)) :: .second :: (.val (.int a2)) :: (.val (.long i2)) :: .second :: (.val (.int sh)) :: (.val (.int md)) :: (.val (.long v1)) :: .second :: (.val (.long v11)) :: .second :: (.val (.long v24)) :: .second :: (.val (.long v37)) :: .second :: (.val (.long v60)) :: .second :: .unset :: .unset :: .unset :: .unset :: .unset :: .unset :: (.val (.long v53)) :: .second :: .unset :: .unset :: .unset :: .unset :: .unset :: .unset :: .unset :: .unset :: .unset :: .unset :: .unset :: .unset :: .unset :: .unset :: .unset :: .unset :: .unset :: .unset :: .unset :: .unset :: .unset :: .unset :: .unset :: []))) rfl ?_
    refine own_lload (pc2 := 65) at_63 rfl rfl ?_
    refine own_lstore (pc2 := 67) at_65 rfl (L' := (List.toArray ((.val (.int a1)) :: (.val (.long i1)) :: .second :: (.val (.int a2)) :: (.val (.long i2)) :: .second :: (.val (.int sh)) :: (.val (.int md)) :: (.val (.long v1)) :: .second :: (.val (.long v11)) :: .second :: (.val (.long v24)) :: .second :: (.val (.long v37)) :: .second :: (.val (.long v60)) :: .second :: (.val (.long v11)) :: .second :: .unset :: .unset :: .unset :: .unset :: (.val (.long v53)) :: .second :: .unset :: .unset :: .unset :: .unset :: .unset :: .unset :: .unset :: .unset :: .unset :: .unset :: .unset :: .unset :: .unset :: .unset :: .unset :: .unset :: .unset :: .unset :: .unset :: .unset :: .unset :: .unset :: .unset :: []))) rfl ?_
    refine own_lload (pc2 := 69) at_67 rfl rfl ?_
    refine own_lstore (pc2 := 71) at_69 rfl (L' := (List.toArray ((.val (.int a1)) :: (.val (.long i1)) :: .second :: (.val (.int a2)) :: (.val (.long i2)) :: .second :: (.val (.int sh)) :: (.val (.int md)) :: (.val (.long v1)) :: .second :: (.val (.long v11)) :: .second :: (.val (.long v24)) :: .second :: (.val (.long v37)) :: .second :: (.val (.long v60)) :: .second :: (.val (.long v11)) :: .second :: (.val (.long v24)) :: .second :: .unset :: .unset :: (.val (.long v53)) :: .second :: .unset :: .unset :: .unset :: .unset :: .unset :: .unset :: .unset :: .unset :: .unset :: .unset :: .unset :: .unset :: .unset :: .unset :: .unset :: .unset :: .unset :: .unset :: .unset :: .unset :: .unset :: .unset :: .unset :: []))) rfl ?_
    refine own_lload (pc2 := 73) at_71 rfl rfl ?_
    refine own_lload (pc2 := 75) at_73 rfl rfl ?_
    refine own_ladd (pc2 := 76) at_75 rfl (v := v75) hv75 ?_
    refine own_lstore (pc2 := 78) at_76 rfl (L' := (List.toArray ((.val (.int a1)) :: (.val (.long i1)) :: .second :: (.val (.int a2)) :: (.val (.long i2)) :: .second :: (.val (.int sh)) :: (.val (.int md)) :: (.val (.long v1)) :: .second :: (.val (.long v11)) :: .second :: (.val (.long v24)) :: .second :: (.val (.long v37)) :: .second :: (.val (.long v60)) :: .second :: (.val (.long v11)) :: .second :: (.val (.long v24)) :: .second :: (.val (.long v75)) :: .second :: (.val (.long v53)) :: .second :: .unset :: .unset :: .unset :: .unset :: .unset :: .unset :: .unset :: .unset :: .unset :: .unset :: .unset :: .unset :: .unset :: .unset :: .unset :: .unset :: .unset :: .unset :: .unset :: .unset :: .unset :: .unset :: .unset :: []))) rfl ?_
    refine own_goto (pc' := 124) at_78 (by decide) (by decide) ?_
    refine own_iload (pc2 := 126) at_124 rfl rfl ?_
    refine own_iconst (v := 2) (pc2 := 127) at_126 rfl rfl ?_
    refine own_iand (pc2 := 128) at_127 rfl (v := v127) hv127 ?_
    cases hb128 : ifCond.holds .eq v127
    · refine own_ifNo (pc2 := 131) at_128 rfl hb128 ?_
      refine own_iconst (v := 1) (pc2 := 132) at_131 rfl rfl ?_
      refine own_goto (pc' := 136) at_132 (by decide) (by decide) ?_
      refine own_istore (pc2 := 138) at_136 rfl (L' := (List.toArray ((.val (.int a1)) :: (.val (.long i1)) :: .second :: (.val (.int a2)) :: (.val (.long i2)) :: .second :: (.val (.int sh)) :: (.val (.int md)) :: (.val (.long v1)) :: .second :: (.val (.long v11)) :: .second :: (.val (.long v24)) :: .second :: (.val (.long v37)) :: .second :: (.val (.long v60)) :: .second :: (.val (.long v11)) :: .second :: (.val (.long v24)) :: .second :: (.val (.long v75)) :: .second :: (.val (.int (1 : Int32))) :: .unset :: .unset :: .unset :: .unset :: .unset :: .unset :: .unset :: .unset :: .unset :: .unset :: .unset :: .unset :: .unset :: .unset :: .unset :: .unset :: .unset :: .unset :: .unset :: .unset :: .unset :: .unset :: .unset :: .unset :: []))) rfl ?_
      exact own_refl
    · refine own_ifYes (pc' := 135) at_128 hb128 (by decide) (by decide) ?_
      refine own_iconst (v := 0) (pc2 := 136) at_135 rfl rfl ?_
      refine own_istore (pc2 := 138) at_136 rfl (L' := (List.toArray ((.val (.int a1)) :: (.val (.long i1)) :: .second :: (.val (.int a2)) :: (.val (.long i2)) :: .second :: (.val (.int sh)) :: (.val (.int md)) :: (.val (.long v1)) :: .second :: (.val (.long v11)) :: .second :: (.val (.long v24)) :: .second :: (.val (.long v37)) :: .second :: (.val (.long v60)) :: .second :: (.val (.long v11)) :: .second :: (.val (.long v24)) :: .second :: (.val (.long v75)) :: .second :: (.val (.int (0 : Int32))) :: .unset :: .unset :: .unset :: .unset :: .unset :: .unset :: .unset :: .unset :: .unset :: .unset :: .unset :: .unset :: .unset :: .unset :: .unset :: .unset :: .unset :: .unset :: .unset :: .unset :: .unset :: .unset :: .unset :: .unset :: []))) rfl ?_
      exact own_refl
  · refine own_ifYes (pc' := 81) at_44 hb44 (by decide) (by decide) ?_
    refine own_iloadN (pc2 := 82) at_81 rfl rfl ?_
    refine own_i2l (pc2 := 83) at_82 rfl (v := v82) hv82 ?_
    refine own_lstore (pc2 := 85) at_83 rfl (L' := (List.toArray ((.val (.int a1)) :: (.val (.long i1)) :: .second :: (.val (.int a2)) :: (.val (.long i2)) :: .second :: (.val (.int sh)) :: (.val (.int md)) :: (.val (.long v1)) :: .second :: (.val (.long v11)) :: .second :: (.val (.long v24)) :: .second :: (.val (.long v37)) :: .second :: (.val (.long v82)) :: .second :: .unset :: .unset :: .unset :: .unset :: .unset :: .unset :: .unset :: .unset :: .unset :: .unset :: .unset :: .unset :: .unset :: .unset :: .unset :: .unset :: .unset :: .unset :: .unset :: .unset :: .unset :: .unset :: .unset :: .unset :: .unset :: .unset :: .unset :: .unset :: .unset :: .unset :: .unset :: []))) rfl ?_
    refine own_lload (pc2 := 87) at_85 rfl rfl ?_
    refine own_lload (pc2 := 89) at_87 rfl rfl ?_
    refine own_ldc2L (v := (2097151 : Int64)) (pc2 := 92) at_89 rfl (List.mem_of_getElem? (i := 0) rfl) ?_
    refine own_land (pc2 := 93) at_92 rfl (v := v92) hv92 ?_
    refine own_ladd (pc2 := 94) at_93 rfl (v := v93) hv93 ?_
    refine own_lstore (pc2 := 96) at_94 rfl (L' := (List.toArray ((.val (.int a1)) :: (.val (.long i1)) :: .second :: (.val (.int a2)) :: (.val (.long i2)) :: .second :: (.val (.int sh)) :: (.val (.int md)) :: (.val (.long v1)) :: .second :: (.val (.long v11)) :: .second :: (.val (.long v24)) :: .second :: (.val (.long v37)) :: .second :: (.val (.long v82)) :: .second :: (.val (.long v93)) :: .second :: .unset :: .unset :: .unset :: .unset :: .unset :: .unset :: .unset :: .unset :: .unset :: .unset :: .unset :: .unset :: .unset :: .unset :: .unset :: .unset :: .unset :: .unset :: .unset :: .unset :: .unset :: .unset :: .unset :: .unset :: .unset :: .unset :: .unset :: .unset :: .unset :: []))) rfl ?_
    refine own_lload (pc2 := 98) at_96 rfl rfl ?_
    refine own_lload (pc2 := 100) at_98 rfl rfl ?_
    refine own_bipush (v := 21) (pc2 := 102) at_100 rfl rfl ?_
    refine own_lushr (pc2 := 103) at_102 rfl (v := v102) hv102 ?_
    refine own_ldc2L (v := (2097151 : Int64)) (pc2 := 106) at_103 rfl (List.mem_of_getElem? (i := 0) rfl) ?_
    refine own_land (pc2 := 107) at_106 rfl (v := v106) hv106 ?_
    refine own_ladd (pc2 := 108) at_107 rfl (v := v107) hv107 ?_
    refine own_lstore (pc2 := 110) at_108 rfl (L' := (List.toArray ((.val (.int a1)) :: (.val (.long i1)) :: .second :: (.val (.int a2)) :: (.val (.long i2)) :: .second :: (.val (.int sh)) :: (.val (.int md)) :: (.val (.long v1)) :: .second :: (.val (.long v11)) :: .second :: (.val (.long v24)) :: .second :: (.val (.long v37)) :: .second :: (.val (.long v82)) :: .second :: (.val (.long v93)) :: .second :: (.val (.long v107)) :: .second :: .unset :: .unset :: .unset :: .unset :: .unset :: .unset :: .unset :: .unset :: .unset :: .unset :: .unset :: .unset :: .unset :: .unset :: .unset :: .unset :: .unset :: .unset :: .unset :: .unset :: .unset :: .unset :: .unset :: .unset :: .unset :: .unset :: .unset :: []))) rfl ?_
    refine own_lload (pc2 := 112) at_110 rfl rfl ?_
    refine own_lload (pc2 := 114) at_112 rfl rfl ?_
    refine own_bipush (v := 42) (pc2 := 116) at_114 rfl rfl ?_
    refine own_lushr (pc2 := 117) at_116 rfl (v := v116) hv116 ?_
    refine own_ldc2L (v := (2097151 : Int64)) (pc2 := 120) at_117 rfl (List.mem_of_getElem? (i := 0) rfl) ?_
    refine own_land (pc2 := 121) at_120 rfl (v := v120) hv120 ?_
    refine own_ladd (pc2 := 122) at_121 rfl (v := v121) hv121 ?_
    refine own_lstore (pc2 := 124) at_122 rfl (L' := (List.toArray ((.val (.int a1)) :: (.val (.long i1)) :: .second :: (.val (.int a2)) :: (.val (.long i2)) :: .second :: (.val (.int sh)) :: (.val (.int md)) :: (.val (.long v1)) :: .second :: (.val (.long v11)) :: .second :: (.val (.long v24)) :: .second :: (.val (.long v37)) :: .second :: (.val (.long v82)) :: .second :: (.val (.long v93)) :: .second :: (.val (.long v107)) :: .second :: (.val (.long v121)) :: .second :: .unset :: .unset :: .unset :: .unset :: .unset :: .unset :: .unset :: .unset :: .unset :: .unset :: .unset :: .unset :: .unset :: .unset :: .unset :: .unset :: .unset :: .unset :: .unset :: .unset :: .unset :: .unset :: .unset :: .unset :: .unset :: []))) rfl ?_
    refine own_iload (pc2 := 126) at_124 rfl rfl ?_
    refine own_iconst (v := 2) (pc2 := 127) at_126 rfl rfl ?_
    refine own_iand (pc2 := 128) at_127 rfl (v := v127') hv127' ?_
    cases hb128 : ifCond.holds .eq v127'
    · refine own_ifNo (pc2 := 131) at_128 rfl hb128 ?_
      refine own_iconst (v := 1) (pc2 := 132) at_131 rfl rfl ?_
      refine own_goto (pc' := 136) at_132 (by decide) (by decide) ?_
      refine own_istore (pc2 := 138) at_136 rfl (L' := (List.toArray ((.val (.int a1)) :: (.val (.long i1)) :: .second :: (.val (.int a2)) :: (.val (.long i2)) :: .second :: (.val (.int sh)) :: (.val (.int md)) :: (.val (.long v1)) :: .second :: (.val (.long v11)) :: .second :: (.val (.long v24)) :: .second :: (.val (.long v37)) :: .second :: (.val (.long v82)) :: .second :: (.val (.long v93)) :: .second :: (.val (.long v107)) :: .second :: (.val (.long v121)) :: .second :: (.val (.int (1 : Int32))) :: .unset :: .unset :: .unset :: .unset :: .unset :: .unset :: .unset :: .unset :: .unset :: .unset :: .unset :: .unset :: .unset :: .unset :: .unset :: .unset :: .unset :: .unset :: .unset :: .unset :: .unset :: .unset :: .unset :: .unset :: []))) rfl ?_
      exact own_refl
    · refine own_ifYes (pc' := 135) at_128 hb128 (by decide) (by decide) ?_
      refine own_iconst (v := 0) (pc2 := 136) at_135 rfl rfl ?_
      refine own_istore (pc2 := 138) at_136 rfl (L' := (List.toArray ((.val (.int a1)) :: (.val (.long i1)) :: .second :: (.val (.int a2)) :: (.val (.long i2)) :: .second :: (.val (.int sh)) :: (.val (.int md)) :: (.val (.long v1)) :: .second :: (.val (.long v11)) :: .second :: (.val (.long v24)) :: .second :: (.val (.long v37)) :: .second :: (.val (.long v82)) :: .second :: (.val (.long v93)) :: .second :: (.val (.long v107)) :: .second :: (.val (.long v121)) :: .second :: (.val (.int (0 : Int32))) :: .unset :: .unset :: .unset :: .unset :: .unset :: .unset :: .unset :: .unset :: .unset :: .unset :: .unset :: .unset :: .unset :: .unset :: .unset :: .unset :: .unset :: .unset :: .unset :: .unset :: .unset :: .unset :: .unset :: .unset :: []))) rfl ?_
      exact own_refl
theorem own_s2 (a1 : Int32) (i1 : Int64) (a2 : Int32) (i2 : Int64) (sh : Int32) (md : Int32) (v1 : Int64) (v11 : Int64) (v24 : Int64) (v37 : Int64) (j138_16 : Int64) (j138_18 : Int64) (j138_20 : Int64) (j138_22 : Int64) (j138_24 : Int32) (j152_25 : Int64) (hj152_25 : (bif ifCond.holds .eq j138_24 then v1 else j138_16) = j152_25) :
    own_Go own_K0 code 138 (List.toArray ((.val (.int a1)) :: (.val (.long i1)) :: .second :: (.val (.int a2)) :: (.val (.long i2)) :: .second :: (.val (.int sh)) :: (.val (.int md)) :: (.val (.long v1)) :: .second :: (.val (.long v11)) :: .second :: (.val (.long v24)) :: .second :: (.val (.long v37)) :: .second :: (.val (.long j138_16)) :: .second :: (.val (.long j138_18)) :: .second :: (.val (.long j138_20)) :: .second :: (.val (.long j138_22)) :: .second :: (.val (.int j138_24)) :: .unset :: .unset :: .unset :: .unset :: .unset :: .unset :: .unset :: .unset :: .unset :: .unset :: .unset :: .unset :: .unset :: .unset :: .unset :: .unset :: .unset :: .unset :: .unset :: .unset :: .unset :: .unset :: .unset :: .unset :: [])) [] 152 (List.toArray ((.val (.int a1)) :: (.val (.long i1)) :: .second :: (.val (.int a2)) :: (.val (.long i2)) :: .second :: (.val (.int sh)) :: (.val (.int md)) :: (.val (.long v1)) :: .second :: (.val (.long v11)) :: .second :: (.val (.long v24)) :: .second :: (.val (.long v37)) :: .second :: (.val (.long j138_16)) :: .second :: (.val (.long j138_18)) :: .second :: (.val (.long j138_20)) :: .second :: (.val (.long j138_22)) :: .second :: (.val (.int j138_24)) :: (.val (.long j152_25)) :: .second :: .unset :: .unset :: .unset :: .unset :: .unset :: .unset :: .unset :: .unset :: .unset :: .unset :: .unset :: .unset :: .unset :: .unset :: .unset :: .unset :: .unset :: .unset :: .unset :: .unset :: .unset :: .unset :: [])) [] := by
  subst hj152_25
  refine own_iload (pc2 := 140) at_138 rfl rfl ?_
  cases hb140 : ifCond.holds .eq j138_24
  · refine own_ifNo (pc2 := 143) at_140 rfl hb140 ?_
    refine own_lload (pc2 := 145) at_143 rfl rfl ?_
    refine own_goto (pc' := 150) at_145 (by decide) (by decide) ?_
    refine own_lstore (pc2 := 152) at_150 rfl (L' := (List.toArray ((.val (.int a1)) :: (.val (.long i1)) :: .second :: (.val (.int a2)) :: (.val (.long i2)) :: .second :: (.val (.int sh)) :: (.val (.int md)) :: (.val (.long v1)) :: .second :: (.val (.long v11)) :: .second :: (.val (.long v24)) :: .second :: (.val (.long v37)) :: .second :: (.val (.long j138_16)) :: .second :: (.val (.long j138_18)) :: .second :: (.val (.long j138_20)) :: .second :: (.val (.long j138_22)) :: .second :: (.val (.int j138_24)) :: (.val (.long j138_16)) :: .second :: .unset :: .unset :: .unset :: .unset :: .unset :: .unset :: .unset :: .unset :: .unset :: .unset :: .unset :: .unset :: .unset :: .unset :: .unset :: .unset :: .unset :: .unset :: .unset :: .unset :: .unset :: .unset :: []))) rfl ?_
    exact own_refl
  · refine own_ifYes (pc' := 148) at_140 hb140 (by decide) (by decide) ?_
    refine own_lload (pc2 := 150) at_148 rfl rfl ?_
    refine own_lstore (pc2 := 152) at_150 rfl (L' := (List.toArray ((.val (.int a1)) :: (.val (.long i1)) :: .second :: (.val (.int a2)) :: (.val (.long i2)) :: .second :: (.val (.int sh)) :: (.val (.int md)) :: (.val (.long v1)) :: .second :: (.val (.long v11)) :: .second :: (.val (.long v24)) :: .second :: (.val (.long v37)) :: .second :: (.val (.long j138_16)) :: .second :: (.val (.long j138_18)) :: .second :: (.val (.long j138_20)) :: .second :: (.val (.long j138_22)) :: .second :: (.val (.int j138_24)) :: (.val (.long v1)) :: .second :: .unset :: .unset :: .unset :: .unset :: .unset :: .unset :: .unset :: .unset :: .unset :: .unset :: .unset :: .unset :: .unset :: .unset :: .unset :: .unset :: .unset :: .unset :: .unset :: .unset :: .unset :: .unset :: []))) rfl ?_
    exact own_refl
theorem own_s3 (a1 : Int32) (i1 : Int64) (a2 : Int32) (i2 : Int64) (sh : Int32) (md : Int32) (v1 : Int64) (v11 : Int64) (v24 : Int64) (v37 : Int64) (j138_16 : Int64) (j138_18 : Int64) (j138_20 : Int64) (j138_22 : Int64) (j138_24 : Int32) (j152_25 : Int64) (j166_27 : Int64) (hj166_27 : (bif ifCond.holds .eq j138_24 then v11 else j138_18) = j166_27) :
    own_Go own_K0 code 152 (List.toArray ((.val (.int a1)) :: (.val (.long i1)) :: .second :: (.val (.int a2)) :: (.val (.long i2)) :: .second :: (.val (.int sh)) :: (.val (.int md)) :: (.val (.long v1)) :: .second :: (.val (.long v11)) :: .second :: (.val (.long v24)) :: .second :: (.val (.long v37)) :: .second :: (.val (.long j138_16)) :: .second :: (.val (.long j138_18)) :: .second :: (.val (.long j138_20)) :: .second :: (.val (.long j138_22)) :: .second :: (.val (.int j138_24)) :: (.val (.long j152_25)) :: .second :: .unset :: .unset :: .unset :: .unset :: .unset :: .unset :: .unset :: .unset :: .unset :: .unset :: .unset :: .unset :: .unset :: .unset :: .unset :: .unset :: .unset :: .unset :: .unset :: .unset :: .unset :: .unset :: [])) [] 166 (List.toArray ((.val (.int a1)) :: (.val (.long i1)) :: .second :: (.val (.int a2)) :: (.val (.long i2)) :: .second :: (.val (.int sh)) :: (.val (.int md)) :: (.val (.long v1)) :: .second :: (.val (.long v11)) :: .second :: (.val (.long v24)) :: .second :: (.val (.long v37)) :: .second :: (.val (.long j138_16)) :: .second :: (.val (.long j138_18)) :: .second :: (.val (.long j138_20)) :: .second :: (.val (.long j138_22)) :: .second :: (.val (.int j138_24)) :: (.val (.long j152_25)) :: .second :: (.val (.long j166_27)) :: .second :: .unset :: .unset :: .unset :: .unset :: .unset :: .unset :: .unset :: .unset :: .unset :: .unset :: .unset :: .unset :: .unset :: .unset :: .unset :: .unset :: .unset :: .unset :: .unset :: .unset :: [])) [] := by
  subst hj166_27
  refine own_iload (pc2 := 154) at_152 rfl rfl ?_
  cases hb154 : ifCond.holds .eq j138_24
  · refine own_ifNo (pc2 := 157) at_154 rfl hb154 ?_
    refine own_lload (pc2 := 159) at_157 rfl rfl ?_
    refine own_goto (pc' := 164) at_159 (by decide) (by decide) ?_
    refine own_lstore (pc2 := 166) at_164 rfl (L' := (List.toArray ((.val (.int a1)) :: (.val (.long i1)) :: .second :: (.val (.int a2)) :: (.val (.long i2)) :: .second :: (.val (.int sh)) :: (.val (.int md)) :: (.val (.long v1)) :: .second :: (.val (.long v11)) :: .second :: (.val (.long v24)) :: .second :: (.val (.long v37)) :: .second :: (.val (.long j138_16)) :: .second :: (.val (.long j138_18)) :: .second :: (.val (.long j138_20)) :: .second :: (.val (.long j138_22)) :: .second :: (.val (.int j138_24)) :: (.val (.long j152_25)) :: .second :: (.val (.long j138_18)) :: .second :: .unset :: .unset :: .unset :: .unset :: .unset :: .unset :: .unset :: .unset :: .unset :: .unset :: .unset :: .unset :: .unset :: .unset :: .unset :: .unset :: .unset :: .unset :: .unset :: .unset :: []))) rfl ?_
    exact own_refl
  · refine own_ifYes (pc' := 162) at_154 hb154 (by decide) (by decide) ?_
    refine own_lload (pc2 := 164) at_162 rfl rfl ?_
    refine own_lstore (pc2 := 166) at_164 rfl (L' := (List.toArray ((.val (.int a1)) :: (.val (.long i1)) :: .second :: (.val (.int a2)) :: (.val (.long i2)) :: .second :: (.val (.int sh)) :: (.val (.int md)) :: (.val (.long v1)) :: .second :: (.val (.long v11)) :: .second :: (.val (.long v24)) :: .second :: (.val (.long v37)) :: .second :: (.val (.long j138_16)) :: .second :: (.val (.long j138_18)) :: .second :: (.val (.long j138_20)) :: .second :: (.val (.long j138_22)) :: .second :: (.val (.int j138_24)) :: (.val (.long j152_25)) :: .second :: (.val (.long v11)) :: .second :: .unset :: .unset :: .unset :: .unset :: .unset :: .unset :: .unset :: .unset :: .unset :: .unset :: .unset :: .unset :: .unset :: .unset :: .unset :: .unset :: .unset :: .unset :: .unset :: .unset :: []))) rfl ?_
    exact own_refl
theorem own_s4 (a1 : Int32) (i1 : Int64) (a2 : Int32) (i2 : Int64) (sh : Int32) (md : Int32) (v1 : Int64) (v11 : Int64) (v24 : Int64) (v37 : Int64) (j138_16 : Int64) (j138_18 : Int64) (j138_20 : Int64) (j138_22 : Int64) (j138_24 : Int32) (j152_25 : Int64) (j166_27 : Int64) (j180_29 : Int64) (hj180_29 : (bif ifCond.holds .eq j138_24 then v24 else j138_20) = j180_29) :
    own_Go own_K0 code 166 (List.toArray ((.val (.int a1)) :: (.val (.long i1)) :: .second :: (.val (.int a2)) :: (.val (.long i2)) :: .second :: (.val (.int sh)) :: (.val (.int md)) :: (.val (.long v1)) :: .second :: (.val (.long v11)) :: .second :: (.val (.long v24)) :: .second :: (.val (.long v37)) :: .second :: (.val (.long j138_16)) :: .second :: (.val (.long j138_18)) :: .second :: (.val (.long j138_20)) :: .second :: (.val (.long j138_22)) :: .second :: (.val (.int j138_24)) :: (.val (.long j152_25)) :: .second :: (.val (.long j166_27)) :: .second :: .unset :: .unset :: .unset :: .unset :: .unset :: .unset :: .unset :: .unset :: .unset :: .unset :: .unset :: .unset :: .unset :: .unset :: .unset :: .unset :: .unset :: .unset :: .unset :: .unset :: [])) [] 180 (List.toArray ((.val (.int a1)) :: (.val (.long i1)) :: .second :: (.val (.int a2)) :: (.val (.long i2)) :: .second :: (.val (.int sh)) :: (.val (.int md)) :: (.val (.long v1)) :: .second :: (.val (.long v11)) :: .second :: (.val (.long v24)) :: .second :: (.val (.long v37)) :: .second :: (.val (.long j138_16)) :: .second :: (.val (.long j138_18)) :: .second :: (.val (.long j138_20)) :: .second :: (.val (.long j138_22)) :: .second :: (.val (.int j138_24)) :: (.val (.long j152_25)) :: .second :: (.val (.long j166_27)) :: .second :: (.val (.long j180_29)) :: .second :: .unset :: .unset :: .unset :: .unset :: .unset :: .unset :: .unset :: .unset :: .unset :: .unset :: .unset :: .unset :: .unset :: .unset :: .unset :: .unset :: .unset :: .unset :: [])) [] := by
  subst hj180_29
  refine own_iload (pc2 := 168) at_166 rfl rfl ?_
  cases hb168 : ifCond.holds .eq j138_24
  · refine own_ifNo (pc2 := 171) at_168 rfl hb168 ?_
    refine own_lload (pc2 := 173) at_171 rfl rfl ?_
    refine own_goto (pc' := 178) at_173 (by decide) (by decide) ?_
    refine own_lstore (pc2 := 180) at_178 rfl (L' := (List.toArray ((.val (.int a1)) :: (.val (.long i1)) :: .second :: (.val (.int a2)) :: (.val (.long i2)) :: .second :: (.val (.int sh)) :: (.val (.int md)) :: (.val (.long v1)) :: .second :: (.val (.long v11)) :: .second :: (.val (.long v24)) :: .second :: (.val (.long v37)) :: .second :: (.val (.long j138_16)) :: .second :: (.val (.long j138_18)) :: .second :: (.val (.long j138_20)) :: .second :: (.val (.long j138_22)) :: .second :: (.val (.int j138_24)) :: (.val (.long j152_25)) :: .second :: (.val (.long j166_27)) :: .second :: (.val (.long j138_20)) :: .second :: .unset :: .unset :: .unset :: .unset :: .unset :: .unset :: .unset :: .unset :: .unset :: .unset :: .unset :: .unset :: .unset :: .unset :: .unset :: .unset :: .unset :: .unset :: []))) rfl ?_
    exact own_refl
  · refine own_ifYes (pc' := 176) at_168 hb168 (by decide) (by decide) ?_
    refine own_lload (pc2 := 178) at_176 rfl rfl ?_
    refine own_lstore (pc2 := 180) at_178 rfl (L' := (List.toArray ((.val (.int a1)) :: (.val (.long i1)) :: .second :: (.val (.int a2)) :: (.val (.long i2)) :: .second :: (.val (.int sh)) :: (.val (.int md)) :: (.val (.long v1)) :: .second :: (.val (.long v11)) :: .second :: (.val (.long v24)) :: .second :: (.val (.long v37)) :: .second :: (.val (.long j138_16)) :: .second :: (.val (.long j138_18)) :: .second :: (.val (.long j138_20)) :: .second :: (.val (.long j138_22)) :: .second :: (.val (.int j138_24)) :: (.val (.long j152_25)) :: .second :: (.val (.long j166_27)) :: .second :: (.val (.long v24)) :: .second :: .unset :: .unset :: .unset :: .unset :: .unset :: .unset :: .unset :: .unset :: .unset :: .unset :: .unset :: .unset :: .unset :: .unset :: .unset :: .unset :: .unset :: .unset :: []))) rfl ?_
    exact own_refl
theorem own_s5 (a1 : Int32) (i1 : Int64) (a2 : Int32) (i2 : Int64) (sh : Int32) (md : Int32) (v1 : Int64) (v11 : Int64) (v24 : Int64) (v37 : Int64) (j138_16 : Int64) (j138_18 : Int64) (j138_20 : Int64) (j138_22 : Int64) (j138_24 : Int32) (j152_25 : Int64) (j166_27 : Int64) (j180_29 : Int64) (j194_31 : Int64) (hj194_31 : (bif ifCond.holds .eq j138_24 then v37 else j138_22) = j194_31) :
    own_Go own_K0 code 180 (List.toArray ((.val (.int a1)) :: (.val (.long i1)) :: .second :: (.val (.int a2)) :: (.val (.long i2)) :: .second :: (.val (.int sh)) :: (.val (.int md)) :: (.val (.long v1)) :: .second :: (.val (.long v11)) :: .second :: (.val (.long v24)) :: .second :: (.val (.long v37)) :: .second :: (.val (.long j138_16)) :: .second :: (.val (.long j138_18)) :: .second :: (.val (.long j138_20)) :: .second :: (.val (.long j138_22)) :: .second :: (.val (.int j138_24)) :: (.val (.long j152_25)) :: .second :: (.val (.long j166_27)) :: .second :: (.val (.long j180_29)) :: .second :: .unset :: .unset :: .unset :: .unset :: .unset :: .unset :: .unset :: .unset :: .unset :: .unset :: .unset :: .unset :: .unset :: .unset :: .unset :: .unset :: .unset :: .unset :: [])) [] 194 (List.toArray ((.val (.int a1)) :: (.val (.long i1)) :: .second :: (.val (.int a2)) :: (.val (.long i2)) :: .second :: (.val (.int sh)) :: (.val (.int md)) :: (.val (.long v1)) :: .second :: (.val (.long v11)) :: .second :: (.val (.long v24)) :: .second :: (.val (.long v37)) :: .second :: (.val (.long j138_16)) :: .second :: (.val (.long j138_18)) :: .second :: (.val (.long j138_20)) :: .second :: (.val (.long j138_22)) :: .second :: (.val (.int j138_24)) :: (.val (.long j152_25)) :: .second :: (.val (.long j166_27)) :: .second :: (.val (.long j180_29)) :: .second :: (.val (.long j194_31)) :: .second :: .unset :: .unset :: .unset :: .unset :: .unset :: .unset :: .unset :: .unset :: .unset :: .unset :: .unset :: .unset :: .unset :: .unset :: .unset :: .unset :: [])) [] := by
  subst hj194_31
  refine own_iload (pc2 := 182) at_180 rfl rfl ?_
  cases hb182 : ifCond.holds .eq j138_24
  · refine own_ifNo (pc2 := 185) at_182 rfl hb182 ?_
    refine own_lload (pc2 := 187) at_185 rfl rfl ?_
    refine own_goto (pc' := 192) at_187 (by decide) (by decide) ?_
    refine own_lstore (pc2 := 194) at_192 rfl (L' := (List.toArray ((.val (.int a1)) :: (.val (.long i1)) :: .second :: (.val (.int a2)) :: (.val (.long i2)) :: .second :: (.val (.int sh)) :: (.val (.int md)) :: (.val (.long v1)) :: .second :: (.val (.long v11)) :: .second :: (.val (.long v24)) :: .second :: (.val (.long v37)) :: .second :: (.val (.long j138_16)) :: .second :: (.val (.long j138_18)) :: .second :: (.val (.long j138_20)) :: .second :: (.val (.long j138_22)) :: .second :: (.val (.int j138_24)) :: (.val (.long j152_25)) :: .second :: (.val (.long j166_27)) :: .second :: (.val (.long j180_29)) :: .second :: (.val (.long j138_22)) :: .second :: .unset :: .unset :: .unset :: .unset :: .unset :: .unset :: .unset :: .unset :: .unset :: .unset :: .unset :: .unset :: .unset :: .unset :: .unset :: .unset :: []))) rfl ?_
    exact own_refl
  · refine own_ifYes (pc' := 190) at_182 hb182 (by decide) (by decide) ?_
    refine own_lload (pc2 := 192) at_190 rfl rfl ?_
    refine own_lstore (pc2 := 194) at_192 rfl (L' := (List.toArray ((.val (.int a1)) :: (.val (.long i1)) :: .second :: (.val (.int a2)) :: (.val (.long i2)) :: .second :: (.val (.int sh)) :: (.val (.int md)) :: (.val (.long v1)) :: .second :: (.val (.long v11)) :: .second :: (.val (.long v24)) :: .second :: (.val (.long v37)) :: .second :: (.val (.long j138_16)) :: .second :: (.val (.long j138_18)) :: .second :: (.val (.long j138_20)) :: .second :: (.val (.long j138_22)) :: .second :: (.val (.int j138_24)) :: (.val (.long j152_25)) :: .second :: (.val (.long j166_27)) :: .second :: (.val (.long j180_29)) :: .second :: (.val (.long v37)) :: .second :: .unset :: .unset :: .unset :: .unset :: .unset :: .unset :: .unset :: .unset :: .unset :: .unset :: .unset :: .unset :: .unset :: .unset :: .unset :: .unset :: []))) rfl ?_
    exact own_refl
theorem own_s6 (a1 : Int32) (i1 : Int64) (a2 : Int32) (i2 : Int64) (sh : Int32) (md : Int32) (v1 : Int64) (v11 : Int64) (v24 : Int64) (v37 : Int64) (j138_16 : Int64) (j138_18 : Int64) (j138_20 : Int64) (j138_22 : Int64) (j138_24 : Int32) (j152_25 : Int64) (j166_27 : Int64) (j180_29 : Int64) (j194_31 : Int64) (j208_33 : Int64) (hj208_33 : (bif ifCond.holds .eq j138_24 then j138_16 else v1) = j208_33) :
    own_Go own_K0 code 194 (List.toArray ((.val (.int a1)) :: (.val (.long i1)) :: .second :: (.val (.int a2)) :: (.val (.long i2)) :: .second :: (.val (.int sh)) :: (.val (.int md)) :: (.val (.long v1)) :: .second :: (.val (.long v11)) :: .second :: (.val (.long v24)) :: .second :: (.val (.long v37)) :: .second :: (.val (.long j138_16)) :: .second :: (.val (.long j138_18)) :: .second :: (.val (.long j138_20)) :: .second :: (.val (.long j138_22)) :: .second :: (.val (.int j138_24)) :: (.val (.long j152_25)) :: .second :: (.val (.long j166_27)) :: .second :: (.val (.long j180_29)) :: .second :: (.val (.long j194_31)) :: .second :: .unset :: .unset :: .unset :: .unset :: .unset :: .unset :: .unset :: .unset :: .unset :: .unset :: .unset :: .unset :: .unset :: .unset :: .unset :: .unset :: [])) [] 208 (List.toArray ((.val (.int a1)) :: (.val (.long i1)) :: .second :: (.val (.int a2)) :: (.val (.long i2)) :: .second :: (.val (.int sh)) :: (.val (.int md)) :: (.val (.long v1)) :: .second :: (.val (.long v11)) :: .second :: (.val (.long v24)) :: .second :: (.val (.long v37)) :: .second :: (.val (.long j138_16)) :: .second :: (.val (.long j138_18)) :: .second :: (.val (.long j138_20)) :: .second :: (.val (.long j138_22)) :: .second :: (.val (.int j138_24)) :: (.val (.long j152_25)) :: .second :: (.val (.long j166_27)) :: .second :: (.val (.long j180_29)) :: .second :: (.val (.long j194_31)) :: .second :: (.val (.long j208_33)) :: .second :: .unset :: .unset :: .unset :: .unset :: .unset :: .unset :: .unset :: .unset :: .unset :: .unset :: .unset :: .unset :: .unset :: .unset :: [])) [] := by
  subst hj208_33
  refine own_iload (pc2 := 196) at_194 rfl rfl ?_
  cases hb196 : ifCond.holds .eq j138_24
  · refine own_ifNo (pc2 := 199) at_196 rfl hb196 ?_
    refine own_lload (pc2 := 201) at_199 rfl rfl ?_
    refine own_goto (pc' := 206) at_201 (by decide) (by decide) ?_
    refine own_lstore (pc2 := 208) at_206 rfl (L' := (List.toArray ((.val (.int a1)) :: (.val (.long i1)) :: .second :: (.val (.int a2)) :: (.val (.long i2)) :: .second :: (.val (.int sh)) :: (.val (.int md)) :: (.val (.long v1)) :: .second :: (.val (.long v11)) :: .second :: (.val (.long v24)) :: .second :: (.val (.long v37)) :: .second :: (.val (.long j138_16)) :: .second :: (.val (.long j138_18)) :: .second :: (.val (.long j138_20)) :: .second :: (.val (.long j138_22)) :: .second :: (.val (.int j138_24)) :: (.val (.long j152_25)) :: .second :: (.val (.long j166_27)) :: .second :: (.val (.long j180_29)) :: .second :: (.val (.long j194_31)) :: .second :: (.val (.long v1)) :: .second :: .unset :: .unset :: .unset :: .unset :: .unset :: .unset :: .unset :: .unset :: .unset :: .unset :: .unset :: .unset :: .unset :: .unset :: []))) rfl ?_
    exact own_refl
  · refine own_ifYes (pc' := 204) at_196 hb196 (by decide) (by decide) ?_
    refine own_lload (pc2 := 206) at_204 rfl rfl ?_
    refine own_lstore (pc2 := 208) at_206 rfl (L' := (List.toArray ((.val (.int a1)) :: (.val (.long i1)) :: .second :: (.val (.int a2)) :: (.val (.long i2)) :: .second :: (.val (.int sh)) :: (.val (.int md)) :: (.val (.long v1)) :: .second :: (.val (.long v11)) :: .second :: (.val (.long v24)) :: .second :: (.val (.long v37)) :: .second :: (.val (.long j138_16)) :: .second :: (.val (.long j138_18)) :: .second :: (.val (.long j138_20)) :: .second :: (.val (.long j138_22)) :: .second :: (.val (.int j138_24)) :: (.val (.long j152_25)) :: .second :: (.val (.long j166_27)) :: .second :: (.val (.long j180_29)) :: .second :: (.val (.long j194_31)) :: .second :: (.val (.long j138_16)) :: .second :: .unset :: .unset :: .unset :: .unset :: .unset :: .unset :: .unset :: .unset :: .unset :: .unset :: .unset :: .unset :: .unset :: .unset :: []))) rfl ?_
    exact own_refl
theorem own_s7 (a1 : Int32) (i1 : Int64) (a2 : Int32) (i2 : Int64) (sh : Int32) (md : Int32) (v1 : Int64) (v11 : Int64) (v24 : Int64) (v37 : Int64) (j138_16 : Int64) (j138_18 : Int64) (j138_20 : Int64) (j138_22 : Int64) (j138_24 : Int32) (j152_25 : Int64) (j166_27 : Int64) (j180_29 : Int64) (j194_31 : Int64) (j208_33 : Int64) (j222_35 : Int64) (hj222_35 : (bif ifCond.holds .eq j138_24 then j138_18 else v11) = j222_35) :
    own_Go own_K0 code 208 (List.toArray ((.val (.int a1)) :: (.val (.long i1)) :: .second :: (.val (.int a2)) :: (.val (.long i2)) :: .second :: (.val (.int sh)) :: (.val (.int md)) :: (.val (.long v1)) :: .second :: (.val (.long v11)) :: .second :: (.val (.long v24)) :: .second :: (.val (.long v37)) :: .second :: (.val (.long j138_16)) :: .second :: (.val (.long j138_18)) :: .second :: (.val (.long j138_20)) :: .second :: (.val (.long j138_22)) :: .second :: (.val (.int j138_24)) :: (.val (.long j152_25)) :: .second :: (.val (.long j166_27)) :: .second :: (.val (.long j180_29)) :: .second :: (.val (.long j194_31)) :: .second :: (.val (.long j208_33)) :: .second :: .unset :: .unset :: .unset :: .unset :: .unset :: .unset :: .unset :: .unset :: .unset :: .unset :: .unset :: .unset :: .unset :: .unset :: [])) [] 222 (List.toArray ((.val (.int a1)) :: (.val (.long i1)) :: .second :: (.val (.int a2)) :: (.val (.long i2)) :: .second :: (.val (.int sh)) :: (.val (.int md)) :: (.val (.long v1)) :: .second :: (.val (.long v11)) :: .second :: (.val (.long v24)) :: .second :: (.val (.long v37)) :: .second :: (.val (.long j138_16)) :: .second :: (.val (.long j138_18)) :: .second :: (.val (.long j138_20)) :: .second :: (.val (.long j138_22)) :: .second :: (.val (.int j138_24)) :: (.val (.long j152_25)) :: .second :: (.val (.long j166_27)) :: .second :: (.val (.long j180_29)) :: .second :: (.val (.long j194_31)) :: .second :: (.val (.long j208_33)) :: .second :: (.val (.long j222_35)) :: .second :: .unset :: .unset :: .unset :: .unset :: .unset :: .unset :: .unset :: .unset :: .unset :: .unset :: .unset :: .unset :: [])) [] := by
  subst hj222_35
  refine own_iload (pc2 := 210) at_208 rfl rfl ?_
  cases hb210 : ifCond.holds .eq j138_24
  · refine own_ifNo (pc2 := 213) at_210 rfl hb210 ?_
    refine own_lload (pc2 := 215) at_213 rfl rfl ?_
    refine own_goto (pc' := 220) at_215 (by decide) (by decide) ?_
    refine own_lstore (pc2 := 222) at_220 rfl (L' := (List.toArray ((.val (.int a1)) :: (.val (.long i1)) :: .second :: (.val (.int a2)) :: (.val (.long i2)) :: .second :: (.val (.int sh)) :: (.val (.int md)) :: (.val (.long v1)) :: .second :: (.val (.long v11)) :: .second :: (.val (.long v24)) :: .second :: (.val (.long v37)) :: .second :: (.val (.long j138_16)) :: .second :: (.val (.long j138_18)) :: .second :: (.val (.long j138_20)) :: .second :: (.val (.long j138_22)) :: .second :: (.val (.int j138_24)) :: (.val (.long j152_25)) :: .second :: (.val (.long j166_27)) :: .second :: (.val (.long j180_29)) :: .second :: (.val (.long j194_31)) :: .second :: (.val (.long j208_33)) :: .second :: (.val (.long v11)) :: .second :: .unset :: .unset :: .unset :: .unset :: .unset :: .unset :: .unset :: .unset :: .unset :: .unset :: .unset :: .unset :: []))) rfl ?_
    exact own_refl
  · refine own_ifYes (pc' := 218) at_210 hb210 (by decide) (by decide) ?_
    refine own_lload (pc2 := 220) at_218 rfl rfl ?_
    refine own_lstore (pc2 := 222) at_220 rfl (L' := (List.toArray ((.val (.int a1)) :: (.val (.long i1)) :: .second :: (.val (.int a2)) :: (.val (.long i2)) :: .second :: (.val (.int sh)) :: (.val (.int md)) :: (.val (.long v1)) :: .second :: (.val (.long v11)) :: .second :: (.val (.long v24)) :: .second :: (.val (.long v37)) :: .second :: (.val (.long j138_16)) :: .second :: (.val (.long j138_18)) :: .second :: (.val (.long j138_20)) :: .second :: (.val (.long j138_22)) :: .second :: (.val (.int j138_24)) :: (.val (.long j152_25)) :: .second :: (.val (.long j166_27)) :: .second :: (.val (.long j180_29)) :: .second :: (.val (.long j194_31)) :: .second :: (.val (.long j208_33)) :: .second :: (.val (.long j138_18)) :: .second :: .unset :: .unset :: .unset :: .unset :: .unset :: .unset :: .unset :: .unset :: .unset :: .unset :: .unset :: .unset :: []))) rfl ?_
    exact own_refl
theorem own_s8 (a1 : Int32) (i1 : Int64) (a2 : Int32) (i2 : Int64) (sh : Int32) (md : Int32) (v1 : Int64) (v11 : Int64) (v24 : Int64) (v37 : Int64) (j138_16 : Int64) (j138_18 : Int64) (j138_20 : Int64) (j138_22 : Int64) (j138_24 : Int32) (j152_25 : Int64) (j166_27 : Int64) (j180_29 : Int64) (j194_31 : Int64) (j208_33 : Int64) (j222_35 : Int64) (j236_37 : Int64) (hj236_37 : (bif ifCond.holds .eq j138_24 then j138_20 else v24) = j236_37) :
    own_Go own_K0 code 222 (List.toArray ((.val (.int a1)) :: (.val (.long i1)) :: .second :: (.val (.int a2)) :: (.val (.long i2)) :: .second :: (.val (.int sh)) :: (.val (.int md)) :: (.val (.long v1)) :: .second :: (.val (.long v11)) :: .second :: (.val (.long v24)) :: .second :: (.val (.long v37)) :: .second :: (.val (.long j138_16)) :: .second :: (.val (.long j138_18)) :: .second :: (.val (.long j138_20)) :: .second :: (.val (.long j138_22)) :: .second :: (.val (.int j138_24)) :: (.val (.long j152_25)) :: .second :: (.val (.long j166_27)) :: .second :: (.val (.long j180_29)) :: .second :: (.val (.long j194_31)) :: .second :: (.val (.long j208_33)) :: .second :: (.val (.long j222_35)) :: .second :: .unset :: .unset :: .unset :: .unset :: .unset :: .unset :: .unset :: .unset :: .unset :: .unset :: .unset :: .unset :: [])) [] 236 (List.toArray ((.val (.int a1)) :: (.val (.long i1)) :: .second :: (.val (.int a2)) :: (.val (.long i2)) :: .second :: (.val (.int sh)) :: (.val (.int md)) :: (.val (.long v1)) :: .second :: (.val (.long v11)) :: .second :: (.val (.long v24)) :: .second :: (.val (.long v37)) :: .second :: (.val (.long j138_16)) :: .second :: (.val (.long j138_18)) :: .second :: (.val (.long j138_20)) :: .second :: (.val (.long j138_22)) :: .second :: (.val (.int j138_24)) :: (.val (.long j152_25)) :: .second :: (.val (.long j166_27)) :: .second :: (.val (.long j180_29)) :: .second :: (.val (.long j194_31)) :: .second :: (.val (.long j208_33)) :: .second :: (.val (.long j222_35)) :: .second :: (.val (.long j236_37)) :: .second :: .unset :: .unset :: .unset :: .unset :: .unset :: .unset :: .unset :: .unset :: .unset :: .unset :: [])) [] := by
  subst hj236_37
  refine own_iload (pc2 := 224) at_222 rfl rfl ?_
  cases hb224 : ifCond.holds .eq j138_24
  · refine own_ifNo (pc2 := 227) at_224 rfl hb224 ?_
    refine own_lload (pc2 := 229) at_227 rfl rfl ?_
    refine own_goto (pc' := 234) at_229 (by decide) (by decide) ?_
    refine own_lstore (pc2 := 236) at_234 rfl (L' := (List.toArray ((.val (.int a1)) :: (.val (.long i1)) :: .second :: (.val (.int a2)) :: (.val (.long i2)) :: .second :: (.val (.int sh)) :: (.val (.int md)) :: (.val (.long v1)) :: .second :: (.val (.long v11)) :: .second :: (.val (.long v24)) :: .second :: (.val (.long v37)) :: .second :: (.val (.long j138_16)) :: .second :: (.val (.long j138_18)) :: .second :: (.val (.long j138_20)) :: .second :: (.val (.long j138_22)) :: .second :: (.val (.int j138_24)) :: (.val (.long j152_25)) :: .second :: (.val (.long j166_27)) :: .second :: (.val (.long j180_29)) :: .second :: (.val (.long j194_31)) :: .second :: (.val (.long j208_33)) :: .second :: (.val (.long j222_35)) :: .second :: (.val (.long v24)) :: .second :: .unset :: .unset :: .unset :: .unset :: .unset :: .unset :: .unset :: .unset :: .unset :: .unset :: []))) rfl ?_
    exact own_refl
  · refine own_ifYes (pc' := 232) at_224 hb224 (by decide) (by decide) ?_
    refine own_lload (pc2 := 234) at_232 rfl rfl ?_
    refine own_lstore (pc2 := 236) at_234 rfl (L' := (List.toArray ((.val (.int a1)) :: (.val (.long i1)) :: .second :: (.val (.int a2)) :: (.val (.long i2)) :: .second :: (.val (.int sh)) :: (.val (.int md)) :: (.val (.long v1)) :: .second :: (.val (.long v11)) :: .second :: (.val (.long v24)) :: .second :: (.val (.long v37)) :: .second :: (.val (.long j138_16)) :: .second :: (.val (.long j138_18)) :: .second :: (.val (.long j138_20)) :: .second :: (.val (.long j138_22)) :: .second :: (.val (.int j138_24)) :: (.val (.long j152_25)) :: .second :: (.val (.long j166_27)) :: .second :: (.val (.long j180_29)) :: .second :: (.val (.long j194_31)) :: .second :: (.val (.long j208_33)) :: .second :: (.val (.long j222_35)) :: .second :: (.val (.long j138_20)) :: .second :: .unset :: .unset :: .unset :: .unset :: .unset :: .unset :: .unset :: .unset :: .unset :: .unset :: []))) rfl ?_
    exact own_refl
theorem own_s9 (a1 : Int32) (i1 : Int64) (a2 : Int32) (i2 : Int64) (sh : Int32) (md : Int32) (v1 : Int64) (v11 : Int64) (v24 : Int64) (v37 : Int64) (j138_16 : Int64) (j138_18 : Int64) (j138_20 : Int64) (j138_22 : Int64) (j138_24 : Int32) (j152_25 : Int64) (j166_27 : Int64) (j180_29 : Int64) (j194_31 : Int64) (j208_33 : Int64) (j222_35 : Int64) (j236_37 : Int64) (j250_39 : Int64) (hj250_39 : (bif ifCond.holds .eq j138_24 then j138_22 else v37) = j250_39) :
    own_Go own_K0 code 236 (List.toArray ((.val (.int a1)) :: (.val (.long i1)) :: .second :: (.val (.int a2)) :: (.val (.long i2)) :: .second :: (.val (.int sh)) :: (.val (.int md)) :: (.val (.long v1)) :: .second :: (.val (.long v11)) :: .second :: (.val (.long v24)) :: .second :: (.val (.long v37)) :: .second :: (.val (.long j138_16)) :: .second :: (.val (.long j138_18)) :: .second :: (.val (.long j138_20)) :: .second :: (.val (.long j138_22)) :: .second :: (.val (.int j138_24)) :: (.val (.long j152_25)) :: .second :: (.val (.long j166_27)) :: .second :: (.val (.long j180_29)) :: .second :: (.val (.long j194_31)) :: .second :: (.val (.long j208_33)) :: .second :: (.val (.long j222_35)) :: .second :: (.val (.long j236_37)) :: .second :: .unset :: .unset :: .unset :: .unset :: .unset :: .unset :: .unset :: .unset :: .unset :: .unset :: [])) [] 250 (List.toArray ((.val (.int a1)) :: (.val (.long i1)) :: .second :: (.val (.int a2)) :: (.val (.long i2)) :: .second :: (.val (.int sh)) :: (.val (.int md)) :: (.val (.long v1)) :: .second :: (.val (.long v11)) :: .second :: (.val (.long v24)) :: .second :: (.val (.long v37)) :: .second :: (.val (.long j138_16)) :: .second :: (.val (.long j138_18)) :: .second :: (.val (.long j138_20)) :: .second :: (.val (.long j138_22)) :: .second :: (.val (.int j138_24)) :: (.val (.long j152_25)) :: .second :: (.val (.long j166_27)) :: .second :: (.val (.long j180_29)) :: .second :: (.val (.long j194_31)) :: .second :: (.val (.long j208_33)) :: .second :: (.val (.long j222_35)) :: .second :: (.val (.long j236_37)) :: .second :: (.val (.long j250_39)) :: .second :: .unset :: .unset :: .unset :: .unset :: .unset :: .unset :: .unset :: .unset :: [])) [] := by
  subst hj250_39
  refine own_iload (pc2 := 238) at_236 rfl rfl ?_
  cases hb238 : ifCond.holds .eq j138_24
  · refine own_ifNo (pc2 := 241) at_238 rfl hb238 ?_
    refine own_lload (pc2 := 243) at_241 rfl rfl ?_
    refine own_goto (pc' := 248) at_243 (by decide) (by decide) ?_
    refine own_lstore (pc2 := 250) at_248 rfl (L' := (List.toArray ((.val (.int a1)) :: (.val (.long i1)) :: .second :: (.val (.int a2)) :: (.val (.long i2)) :: .second :: (.val (.int sh)) :: (.val (.int md)) :: (.val (.long v1)) :: .second :: (.val (.long v11)) :: .second :: (.val (.long v24)) :: .second :: (.val (.long v37)) :: .second :: (.val (.long j138_16)) :: .second :: (.val (.long j138_18)) :: .second :: (.val (.long j138_20)) :: .second :: (.val (.long j138_22)) :: .second :: (.val (.int j138_24)) :: (.val (.long j152_25)) :: .second :: (.val (.long j166_27)) :: .second :: (.val (.long j180_29)) :: .second :: (.val (.long j194_31)) :: .second :: (.val (.long j208_33)) :: .second :: (.val (.long j222_35)) :: .second :: (.val (.long j236_37)) :: .second :: (.val (.long v37)) :: .second :: .unset :: .unset :: .unset :: .unset :: .unset :: .unset :: .unset :: .unset :: []))) rfl ?_
    exact own_refl
  · refine own_ifYes (pc' := 246) at_238 hb238 (by decide) (by decide) ?_
    refine own_lload (pc2 := 248) at_246 rfl rfl ?_
    refine own_lstore (pc2 := 250) at_248 rfl (L' := (List.toArray ((.val (.int a1)) :: (.val (.long i1)) :: .second :: (.val (.int a2)) :: (.val (.long i2)) :: .second :: (.val (.int sh)) :: (.val (.int md)) :: (.val (.long v1)) :: .second :: (.val (.long v11)) :: .second :: (.val (.long v24)) :: .second :: (.val (.long v37)) :: .second :: (.val (.long j138_16)) :: .second :: (.val (.long j138_18)) :: .second :: (.val (.long j138_20)) :: .second :: (.val (.long j138_22)) :: .second :: (.val (.int j138_24)) :: (.val (.long j152_25)) :: .second :: (.val (.long j166_27)) :: .second :: (.val (.long j180_29)) :: .second :: (.val (.long j194_31)) :: .second :: (.val (.long j208_33)) :: .second :: (.val (.long j222_35)) :: .second :: (.val (.long j236_37)) :: .second :: (.val (.long j138_22)) :: .second :: .unset :: .unset :: .unset :: .unset :: .unset :: .unset :: .unset :: .unset :: []))) rfl ?_
    exact own_refl
theorem own_s10 (a1 : Int32) (i1 : Int64) (a2 : Int32) (i2 : Int64) (sh : Int32) (md : Int32) (v1 : Int64) (v11 : Int64) (v24 : Int64) (v37 : Int64) (j138_16 : Int64) (j138_18 : Int64) (j138_20 : Int64) (j138_22 : Int64) (j138_24 : Int32) (j152_25 : Int64) (j166_27 : Int64) (j180_29 : Int64) (j194_31 : Int64) (j208_33 : Int64) (j222_35 : Int64) (j236_37 : Int64) (j250_39 : Int64) (x : Addr) (v256 : UInt64) (hv256 : (FP.l2d j152_25) = v256) (v259 : UInt64) (hv259 : (FP.l2d j166_27) = v259) (v262 : UInt64) (hv262 : (FP.l2d j180_29) = v262) (v265 : UInt64) (hv265 : (FP.l2d j194_31) = v265) :
    own_Go own_K0 code 253 (List.toArray ((.val (.int a1)) :: (.val (.long i1)) :: .second :: (.val (.int a2)) :: (.val (.long i2)) :: .second :: (.val (.int sh)) :: (.val (.int md)) :: (.val (.long v1)) :: .second :: (.val (.long v11)) :: .second :: (.val (.long v24)) :: .second :: (.val (.long v37)) :: .second :: (.val (.long j138_16)) :: .second :: (.val (.long j138_18)) :: .second :: (.val (.long j138_20)) :: .second :: (.val (.long j138_22)) :: .second :: (.val (.int j138_24)) :: (.val (.long j152_25)) :: .second :: (.val (.long j166_27)) :: .second :: (.val (.long j180_29)) :: .second :: (.val (.long j194_31)) :: .second :: (.val (.long j208_33)) :: .second :: (.val (.long j222_35)) :: .second :: (.val (.long j236_37)) :: .second :: (.val (.long j250_39)) :: .second :: .unset :: .unset :: .unset :: .unset :: .unset :: .unset :: .unset :: .unset :: [])) [(.ref x)] 266 (List.toArray ((.val (.int a1)) :: (.val (.long i1)) :: .second :: (.val (.int a2)) :: (.val (.long i2)) :: .second :: (.val (.int sh)) :: (.val (.int md)) :: (.val (.long v1)) :: .second :: (.val (.long v11)) :: .second :: (.val (.long v24)) :: .second :: (.val (.long v37)) :: .second :: (.val (.long j138_16)) :: .second :: (.val (.long j138_18)) :: .second :: (.val (.long j138_20)) :: .second :: (.val (.long j138_22)) :: .second :: (.val (.int j138_24)) :: (.val (.long j152_25)) :: .second :: (.val (.long j166_27)) :: .second :: (.val (.long j180_29)) :: .second :: (.val (.long j194_31)) :: .second :: (.val (.long j208_33)) :: .second :: (.val (.long j222_35)) :: .second :: (.val (.long j236_37)) :: .second :: (.val (.long j250_39)) :: .second :: .unset :: .unset :: .unset :: .unset :: .unset :: .unset :: .unset :: .unset :: [])) [(.double v265), (.double v262), (.double v259), (.double v256), (.ref x), (.ref x)] := by
  refine own_dup (pc2 := 254) at_253 rfl rfl ?_
  refine own_lload (pc2 := 256) at_254 rfl rfl ?_
  refine own_l2d (pc2 := 257) at_256 rfl (v := v256) hv256 ?_
  refine own_lload (pc2 := 259) at_257 rfl rfl ?_
  refine own_l2d (pc2 := 260) at_259 rfl (v := v259) hv259 ?_
  refine own_lload (pc2 := 262) at_260 rfl rfl ?_
  refine own_l2d (pc2 := 263) at_262 rfl (v := v262) hv262 ?_
  refine own_lload (pc2 := 265) at_263 rfl rfl ?_
  refine own_l2d (pc2 := 266) at_265 rfl (v := v265) hv265 ?_
  exact own_refl
theorem own_s11 (a1 : Int32) (i1 : Int64) (a2 : Int32) (i2 : Int64) (sh : Int32) (md : Int32) (v1 : Int64) (v11 : Int64) (v24 : Int64) (v37 : Int64) (j138_16 : Int64) (j138_18 : Int64) (j138_20 : Int64) (j138_22 : Int64) (j138_24 : Int32) (j152_25 : Int64) (j166_27 : Int64) (j180_29 : Int64) (j194_31 : Int64) (j208_33 : Int64) (j222_35 : Int64) (j236_37 : Int64) (j250_39 : Int64) (x : Addr) :
    own_Go own_K0 code 269 (List.toArray ((.val (.int a1)) :: (.val (.long i1)) :: .second :: (.val (.int a2)) :: (.val (.long i2)) :: .second :: (.val (.int sh)) :: (.val (.int md)) :: (.val (.long v1)) :: .second :: (.val (.long v11)) :: .second :: (.val (.long v24)) :: .second :: (.val (.long v37)) :: .second :: (.val (.long j138_16)) :: .second :: (.val (.long j138_18)) :: .second :: (.val (.long j138_20)) :: .second :: (.val (.long j138_22)) :: .second :: (.val (.int j138_24)) :: (.val (.long j152_25)) :: .second :: (.val (.long j166_27)) :: .second :: (.val (.long j180_29)) :: .second :: (.val (.long j194_31)) :: .second :: (.val (.long j208_33)) :: .second :: (.val (.long j222_35)) :: .second :: (.val (.long j236_37)) :: .second :: (.val (.long j250_39)) :: .second :: .unset :: .unset :: .unset :: .unset :: .unset :: .unset :: .unset :: .unset :: [])) [(.ref x)] 271 (List.toArray ((.val (.int a1)) :: (.val (.long i1)) :: .second :: (.val (.int a2)) :: (.val (.long i2)) :: .second :: (.val (.int sh)) :: (.val (.int md)) :: (.val (.long v1)) :: .second :: (.val (.long v11)) :: .second :: (.val (.long v24)) :: .second :: (.val (.long v37)) :: .second :: (.val (.long j138_16)) :: .second :: (.val (.long j138_18)) :: .second :: (.val (.long j138_20)) :: .second :: (.val (.long j138_22)) :: .second :: (.val (.int j138_24)) :: (.val (.long j152_25)) :: .second :: (.val (.long j166_27)) :: .second :: (.val (.long j180_29)) :: .second :: (.val (.long j194_31)) :: .second :: (.val (.long j208_33)) :: .second :: (.val (.long j222_35)) :: .second :: (.val (.long j236_37)) :: .second :: (.val (.long j250_39)) :: .second :: (.val (.ref x)) :: .unset :: .unset :: .unset :: .unset :: .unset :: .unset :: .unset :: [])) [] := by
  refine own_astore (pc2 := 271) at_269 rfl rfl (L' := (List.toArray ((.val (.int a1)) :: (.val (.long i1)) :: .second :: (.val (.int a2)) :: (.val (.long i2)) :: .second :: (.val (.int sh)) :: (.val (.int md)) :: (.val (.long v1)) :: .second :: (.val (.long v11)) :: .second :: (.val (.long v24)) :: .second :: (.val (.long v37)) :: .second :: (.val (.long j138_16)) :: .second :: (.val (.long j138_18)) :: .second :: (.val (.long j138_20)) :: .second :: (.val (.long j138_22)) :: .second :: (.val (.int j138_24)) :: (.val (.long j152_25)) :: .second :: (.val (.long j166_27)) :: .second :: (.val (.long j180_29)) :: .second :: (.val (.long j194_31)) :: .second :: (.val (.long j208_33)) :: .second :: (.val (.long j222_35)) :: .second :: (.val (.long j236_37)) :: .second :: (.val (.long j250_39)) :: .second :: (.val (.ref x)) :: .unset :: .unset :: .unset :: .unset :: .unset :: .unset :: .unset :: []))) rfl ?_
  exact own_refl
theorem own_s12 (a1 : Int32) (i1 : Int64) (a2 : Int32) (i2 : Int64) (sh : Int32) (md : Int32) (v1 : Int64) (v11 : Int64) (v24 : Int64) (v37 : Int64) (j138_16 : Int64) (j138_18 : Int64) (j138_20 : Int64) (j138_22 : Int64) (j138_24 : Int32) (j152_25 : Int64) (j166_27 : Int64) (j180_29 : Int64) (j194_31 : Int64) (j208_33 : Int64) (j222_35 : Int64) (j236_37 : Int64) (j250_39 : Int64) (x : Addr) (y : Addr) (v277 : UInt64) (hv277 : (FP.l2d j208_33) = v277) (v280 : UInt64) (hv280 : (FP.l2d j222_35) = v280) (v283 : UInt64) (hv283 : (FP.l2d j236_37) = v283) (v286 : UInt64) (hv286 : (FP.l2d j250_39) = v286) :
    own_Go own_K0 code 274 (List.toArray ((.val (.int a1)) :: (.val (.long i1)) :: .second :: (.val (.int a2)) :: (.val (.long i2)) :: .second :: (.val (.int sh)) :: (.val (.int md)) :: (.val (.long v1)) :: .second :: (.val (.long v11)) :: .second :: (.val (.long v24)) :: .second :: (.val (.long v37)) :: .second :: (.val (.long j138_16)) :: .second :: (.val (.long j138_18)) :: .second :: (.val (.long j138_20)) :: .second :: (.val (.long j138_22)) :: .second :: (.val (.int j138_24)) :: (.val (.long j152_25)) :: .second :: (.val (.long j166_27)) :: .second :: (.val (.long j180_29)) :: .second :: (.val (.long j194_31)) :: .second :: (.val (.long j208_33)) :: .second :: (.val (.long j222_35)) :: .second :: (.val (.long j236_37)) :: .second :: (.val (.long j250_39)) :: .second :: (.val (.ref x)) :: .unset :: .unset :: .unset :: .unset :: .unset :: .unset :: .unset :: [])) [(.ref y)] 287 (List.toArray ((.val (.int a1)) :: (.val (.long i1)) :: .second :: (.val (.int a2)) :: (.val (.long i2)) :: .second :: (.val (.int sh)) :: (.val (.int md)) :: (.val (.long v1)) :: .second :: (.val (.long v11)) :: .second :: (.val (.long v24)) :: .second :: (.val (.long v37)) :: .second :: (.val (.long j138_16)) :: .second :: (.val (.long j138_18)) :: .second :: (.val (.long j138_20)) :: .second :: (.val (.long j138_22)) :: .second :: (.val (.int j138_24)) :: (.val (.long j152_25)) :: .second :: (.val (.long j166_27)) :: .second :: (.val (.long j180_29)) :: .second :: (.val (.long j194_31)) :: .second :: (.val (.long j208_33)) :: .second :: (.val (.long j222_35)) :: .second :: (.val (.long j236_37)) :: .second :: (.val (.long j250_39)) :: .second :: (.val (.ref x)) :: .unset :: .unset :: .unset :: .unset :: .unset :: .unset :: .unset :: [])) [(.double v286), (.double v283), (.double v280), (.double v277), (.ref y), (.ref y)] := by
  refine own_dup (pc2 := 275) at_274 rfl rfl ?_
  refine own_lload (pc2 := 277) at_275 rfl rfl ?_
  refine own_l2d (pc2 := 278) at_277 rfl (v := v277) hv277 ?_
  refine own_lload (pc2 := 280) at_278 rfl rfl ?_
  refine own_l2d (pc2 := 281) at_280 rfl (v := v280) hv280 ?_
  refine own_lload (pc2 := 283) at_281 rfl rfl ?_
  refine own_l2d (pc2 := 284) at_283 rfl (v := v283) hv283 ?_
  refine own_lload (pc2 := 286) at_284 rfl rfl ?_
  refine own_l2d (pc2 := 287) at_286 rfl (v := v286) hv286 ?_
  exact own_refl
theorem own_s13 (a1 : Int32) (i1 : Int64) (a2 : Int32) (i2 : Int64) (sh : Int32) (md : Int32) (v1 : Int64) (v11 : Int64) (v24 : Int64) (v37 : Int64) (j138_16 : Int64) (j138_18 : Int64) (j138_20 : Int64) (j138_22 : Int64) (j138_24 : Int32) (j152_25 : Int64) (j166_27 : Int64) (j180_29 : Int64) (j194_31 : Int64) (j208_33 : Int64) (j222_35 : Int64) (j236_37 : Int64) (j250_39 : Int64) (x : Addr) (y : Addr) :
    own_Go own_K0 code 290 (List.toArray ((.val (.int a1)) :: (.val (.long i1)) :: .second :: (.val (.int a2)) :: (.val (.long i2)) :: .second :: (.val (.int sh)) :: (.val (.int md)) :: (.val (.long v1)) :: .second :: (.val (.long v11)) :: .second :: (.val (.long v24)) :: .second :: (.val (.long v37)) :: .second :: (.val (.long j138_16)) :: .second :: (.val (.long j138_18)) :: .second :: (.val (.long j138_20)) :: .second :: (.val (.long j138_22)) :: .second :: (.val (.int j138_24)) :: (.val (.long j152_25)) :: .second :: (.val (.long j166_27)) :: .second :: (.val (.long j180_29)) :: .second :: (.val (.long j194_31)) :: .second :: (.val (.long j208_33)) :: .second :: (.val (.long j222_35)) :: .second :: (.val (.long j236_37)) :: .second :: (.val (.long j250_39)) :: .second :: (.val (.ref x)) :: .unset :: .unset :: .unset :: .unset :: .unset :: .unset :: .unset :: [])) [(.ref y)] 296 (List.toArray ((.val (.int a1)) :: (.val (.long i1)) :: .second :: (.val (.int a2)) :: (.val (.long i2)) :: .second :: (.val (.int sh)) :: (.val (.int md)) :: (.val (.long v1)) :: .second :: (.val (.long v11)) :: .second :: (.val (.long v24)) :: .second :: (.val (.long v37)) :: .second :: (.val (.long j138_16)) :: .second :: (.val (.long j138_18)) :: .second :: (.val (.long j138_20)) :: .second :: (.val (.long j138_22)) :: .second :: (.val (.int j138_24)) :: (.val (.long j152_25)) :: .second :: (.val (.long j166_27)) :: .second :: (.val (.long j180_29)) :: .second :: (.val (.long j194_31)) :: .second :: (.val (.long j208_33)) :: .second :: (.val (.long j222_35)) :: .second :: (.val (.long j236_37)) :: .second :: (.val (.long j250_39)) :: .second :: (.val (.ref x)) :: (.val (.ref y)) :: .unset :: .unset :: .unset :: .unset :: .unset :: .unset :: [])) [(.ref y), (.ref x)] := by
  refine own_astore (pc2 := 292) at_290 rfl rfl (L' := (List.toArray ((.val (.int a1)) :: (.val (.long i1)) :: .second :: (.val (.int a2)) :: (.val (.long i2)) :: .second :: (.val (.int sh)) :: (.val (.int md)) :: (.val (.long v1)) :: .second :: (.val (.long v11)) :: .second :: (.val (.long v24)) :: .second :: (.val (.long v37)) :: .second :: (.val (.long j138_16)) :: .second :: (.val (.long j138_18)) :: .second :: (.val (.long j138_20)) :: .second :: (.val (.long j138_22)) :: .second :: (.val (.int j138_24)) :: (.val (.long j152_25)) :: .second :: (.val (.long j166_27)) :: .second :: (.val (.long j180_29)) :: .second :: (.val (.long j194_31)) :: .second :: (.val (.long j208_33)) :: .second :: (.val (.long j222_35)) :: .second :: (.val (.long j236_37)) :: .second :: (.val (.long j250_39)) :: .second :: (.val (.ref x)) :: (.val (.ref y)) :: .unset :: .unset :: .unset :: .unset :: .unset :: .unset :: []))) rfl ?_
  refine own_aload (pc2 := 294) at_292 rfl rfl rfl ?_
  refine own_aload (pc2 := 296) at_294 rfl rfl rfl ?_
  exact own_refl
theorem own_s14 (a1 : Int32) (i1 : Int64) (a2 : Int32) (i2 : Int64) (sh : Int32) (md : Int32) (v1 : Int64) (v11 : Int64) (v24 : Int64) (v37 : Int64) (j138_16 : Int64) (j138_18 : Int64) (j138_20 : Int64) (j138_22 : Int64) (j138_24 : Int32) (j152_25 : Int64) (j166_27 : Int64) (j180_29 : Int64) (j194_31 : Int64) (j208_33 : Int64) (j222_35 : Int64) (j236_37 : Int64) (j250_39 : Int64) (x : Addr) (y : Addr) (r : UInt64) (v308 : Int64) (hv308 : ((5 : Int64) * j166_27) = v308) (v309 : Int64) (hv309 : (j152_25 + v308) = v309) (v315 : Int64) (hv315 : ((5 : Int64) * j180_29) = v315) (v316 : Int64) (hv316 : (v309 + v315) = v316) (v319 : Int64) (hv319 : (v316 + j194_31) = v319) (v327 : Int64) (hv327 : ((5 : Int64) * j222_35) = v327) (v328 : Int64) (hv328 : (j208_33 + v327) = v328) (v334 : Int64) (hv334 : ((5 : Int64) * j236_37) = v334) (v335 : Int64) (hv335 : (v328 + v334) = v335) (v338 : Int64) (hv338 : (v335 + j250_39) = v338) (v339 : Int64) (hv339 : (v319 - v338) = v339) (v345 : Int32) (hv345 : (if v339 > (0 : Int64) then (1 : Int32) else if v339 = (0 : Int64) then 0 else -1) = v345) (v351 : UInt64) (hv351 : (FP.l2d v339) = v351) (v355 : UInt64) (hv355 : (FP.ddiv v351 (4622945017495814144 : UInt64)) = v355) (nn355 : NoNaN64 (FP.ddiv v351 (4622945017495814144 : UInt64))) (v365 : Int64) (hv365 : (j194_31 - j152_25) = v365) (v370 : Int64) (hv370 : (j250_39 - j208_33) = v370) (v371 : Int64) (hv371 : (v365 - v370) = v371) (v372 : UInt64) (hv372 : (FP.l2d v371) = v372) (v376 : UInt64) (hv376 : (FP.ddiv v372 (4611686018427387904 : UInt64)) = v376) (nn376 : NoNaN64 (FP.ddiv v372 (4611686018427387904 : UInt64))) (j379_47 : UInt64) (hj379_47 : (bif ifCond.holds .eq v345 then v376 else v355) = j379_47) :
    own_Go own_K0 code 299 (List.toArray ((.val (.int a1)) :: (.val (.long i1)) :: .second :: (.val (.int a2)) :: (.val (.long i2)) :: .second :: (.val (.int sh)) :: (.val (.int md)) :: (.val (.long v1)) :: .second :: (.val (.long v11)) :: .second :: (.val (.long v24)) :: .second :: (.val (.long v37)) :: .second :: (.val (.long j138_16)) :: .second :: (.val (.long j138_18)) :: .second :: (.val (.long j138_20)) :: .second :: (.val (.long j138_22)) :: .second :: (.val (.int j138_24)) :: (.val (.long j152_25)) :: .second :: (.val (.long j166_27)) :: .second :: (.val (.long j180_29)) :: .second :: (.val (.long j194_31)) :: .second :: (.val (.long j208_33)) :: .second :: (.val (.long j222_35)) :: .second :: (.val (.long j236_37)) :: .second :: (.val (.long j250_39)) :: .second :: (.val (.ref x)) :: (.val (.ref y)) :: .unset :: .unset :: .unset :: .unset :: .unset :: .unset :: [])) [(.double r)] 379 (List.toArray ((.val (.int a1)) :: (.val (.long i1)) :: .second :: (.val (.int a2)) :: (.val (.long i2)) :: .second :: (.val (.int sh)) :: (.val (.int md)) :: (.val (.long v1)) :: .second :: (.val (.long v11)) :: .second :: (.val (.long v24)) :: .second :: (.val (.long v37)) :: .second :: (.val (.long j138_16)) :: .second :: (.val (.long j138_18)) :: .second :: (.val (.long j138_20)) :: .second :: (.val (.long j138_22)) :: .second :: (.val (.int j138_24)) :: (.val (.long j152_25)) :: .second :: (.val (.long j166_27)) :: .second :: (.val (.long j180_29)) :: .second :: (.val (.long j194_31)) :: .second :: (.val (.long j208_33)) :: .second :: (.val (.long j222_35)) :: .second :: (.val (.long j236_37)) :: .second :: (.val (.long j250_39)) :: .second :: (.val (.ref x)) :: (.val (.ref y)) :: (.val (.double r)) :: .second :: (.val (.long v339)) :: .second :: (.val (.double j379_47)) :: .second :: [])) [] := by
  subst hj379_47
  refine own_dstore (pc2 := 301) at_299 rfl (L' := (List.toArray ((.val (.int a1)) :: (.val (.long i1)) :: .second :: (.val (.int a2)) :: (.val (.long i2)) :: .second :: (.val (.int sh)) :: (.val (.int md)) :: (.val (.long v1)) :: .second :: (.val (.long v11)) :: .second :: (.val (.long v24)) :: .second :: (.val (.long v37)) :: .second :: (.val (.long j138_16)) :: .second :: (.val (.long j138_18)) :: .second :: (.val (.long j138_20)) :: .second :: (.val (.long j138_22)) :: .second :: (.val (.int j138_24)) :: (.val (.long j152_25)) :: .second :: (.val (.long j166_27)) :: .second :: (.val (.long j180_29)) :: .second :: (.val (.long j194_31)) :: .second :: (.val (.long j208_33)) :: .second :: (.val (.long j222_35)) :: .second :: (.val (.long j236_37)) :: .second :: (.val (.long j250_39)) :: .second :: (.val (.ref x)) :: (.val (.ref y)) :: (.val (.double r)) :: .second :: .unset :: .unset :: .unset :: .unset :: []))) rfl ?_
  refine own_lload (pc2 := 303) at_301 rfl rfl ?_
  refine own_ldc2L (v := (5 : Int64)) (pc2 := 306) at_303 rfl (List.mem_of_getElem? (i := 2) rfl) ?_
  refine own_lload (pc2 := 308) at_306 rfl rfl ?_
  refine own_lmul (pc2 := 309) at_308 rfl (v := v308) hv308 ?_
  refine own_ladd (pc2 := 310) at_309 rfl (v := v309) hv309 ?_
  refine own_ldc2L (v := (5 : Int64)) (pc2 := 313) at_310 rfl (List.mem_of_getElem? (i := 2) rfl) ?_
  refine own_lload (pc2 := 315) at_313 rfl rfl ?_
  refine own_lmul (pc2 := 316) at_315 rfl (v := v315) hv315 ?_
  refine own_ladd (pc2 := 317) at_316 rfl (v := v316) hv316 ?_
  refine own_lload (pc2 := 319) at_317 rfl rfl ?_
  refine own_ladd (pc2 := 320) at_319 rfl (v := v319) hv319 ?_
  refine own_lload (pc2 := 322) at_320 rfl rfl ?_
  refine own_ldc2L (v := (5 : Int64)) (pc2 := 325) at_322 rfl (List.mem_of_getElem? (i := 2) rfl) ?_
  refine own_lload (pc2 := 327) at_325 rfl rfl ?_
  refine own_lmul (pc2 := 328) at_327 rfl (v := v327) hv327 ?_
  refine own_ladd (pc2 := 329) at_328 rfl (v := v328) hv328 ?_
  refine own_ldc2L (v := (5 : Int64)) (pc2 := 332) at_329 rfl (List.mem_of_getElem? (i := 2) rfl) ?_
  refine own_lload (pc2 := 334) at_332 rfl rfl ?_
  refine own_lmul (pc2 := 335) at_334 rfl (v := v334) hv334 ?_
  refine own_ladd (pc2 := 336) at_335 rfl (v := v335) hv335 ?_
  refine own_lload (pc2 := 338) at_336 rfl rfl ?_
  refine own_ladd (pc2 := 339) at_338 rfl (v := v338) hv338 ?_
  refine own_lsub (pc2 := 340) at_339 rfl (v := v339) hv339 ?_
  refine own_lstore (pc2 := 342) at_340 rfl (L' := (List.toArray ((.val (.int a1)) :: (.val (.long i1)) :: .second :: (.val (.int a2)) :: (.val (.long i2)) :: .second :: (.val (.int sh)) :: (.val (.int md)) :: (.val (.long v1)) :: .second :: (.val (.long v11)) :: .second :: (.val (.long v24)) :: .second :: (.val (.long v37)) :: .second :: (.val (.long j138_16)) :: .second :: (.val (.long j138_18)) :: .second :: (.val (.long j138_20)) :: .second :: (.val (.long j138_22)) :: .second :: (.val (.int j138_24)) :: (.val (.long j152_25)) :: .second :: (.val (.long j166_27)) :: .second :: (.val (.long j180_29)) :: .second :: (.val (.long j194_31)) :: .second :: (.val (.long j208_33)) :: .second :: (.val (.long j222_35)) :: .second :: (.val (.long j236_37)) :: .second :: (.val (.long j250_39)) :: .second :: (.val (.ref x)) :: (.val (.ref y)) :: (.val (.double r)) :: .second :: (.val (.long v339)) :: .second :: .unset :: .unset :: []))) rfl ?_
  refine own_lload (pc2 := 344) at_342 rfl rfl ?_
  refine own_lconst (v := 0) (pc2 := 345) at_344 rfl rfl ?_
  refine own_lcmp (pc2 := 346) at_345 rfl (v := v345) hv345 ?_
  cases hb346 : ifCond.holds .eq v345
  · refine own_ifNo (pc2 := 349) at_346 rfl hb346 ?_
    refine own_lload (pc2 := 351) at_349 rfl rfl ?_
    refine own_l2d (pc2 := 352) at_351 rfl (v := v351) hv351 ?_
    refine own_ldc2D (v := (4622945017495814144 : UInt64)) (pc2 := 355) at_352 rfl (List.mem_of_getElem? (i := 4) rfl) ?_
    refine own_ddiv (pc2 := 356) at_355 rfl nn355 (v := v355) hv355 ?_
    refine own_dstore (pc2 := 358) at_356 rfl (L' := (List.toArray ((.val (.int a1)) :: (.val (.long i1)) :: .second :: (.val (.int a2)) :: (.val (.long i2)) :: .second :: (.val (.int sh)) :: (.val (.int md)) :: (.val (.long v1)) :: .second :: (.val (.long v11)) :: .second :: (.val (.long v24)) :: .second :: (.val (.long v37)) :: .second :: (.val (.long j138_16)) :: .second :: (.val (.long j138_18)) :: .second :: (.val (.long j138_20)) :: .second :: (.val (.long j138_22)) :: .second :: (.val (.int j138_24)) :: (.val (.long j152_25)) :: .second :: (.val (.long j166_27)) :: .second :: (.val (.long j180_29)) :: .second :: (.val (.long j194_31)) :: .second :: (.val (.long j208_33)) :: .second :: (.val (.long j222_35)) :: .second :: (.val (.long j236_37)) :: .second :: (.val (.long j250_39)) :: .second :: (.val (.ref x)) :: (.val (.ref y)) :: (.val (.double r)) :: .second :: (.val (.long v339)) :: .second :: (.val (.double v355)) :: .second :: []))) rfl ?_
    refine own_goto (pc' := 379) at_358 (by decide) (by decide) ?_
    exact own_refl
  · refine own_ifYes (pc' := 361) at_346 hb346 (by decide) (by decide) ?_
    refine own_lload (pc2 := 363) at_361 rfl rfl ?_
    refine own_lload (pc2 := 365) at_363 rfl rfl ?_
    refine own_lsub (pc2 := 366) at_365 rfl (v := v365) hv365 ?_
    refine own_lload (pc2 := 368) at_366 rfl rfl ?_
    refine own_lload (pc2 := 370) at_368 rfl rfl ?_
    refine own_lsub (pc2 := 371) at_370 rfl (v := v370) hv370 ?_
    refine own_lsub (pc2 := 372) at_371 rfl (v := v371) hv371 ?_
    refine own_l2d (pc2 := 373) at_372 rfl (v := v372) hv372 ?_
    refine own_ldc2D (v := (4611686018427387904 : UInt64)) (pc2 := 376) at_373 rfl (List.mem_of_getElem? (i := 3) rfl) ?_
    refine own_ddiv (pc2 := 377) at_376 rfl nn376 (v := v376) hv376 ?_
    refine own_dstore (pc2 := 379) at_377 rfl (L' := (List.toArray ((.val (.int a1)) :: (.val (.long i1)) :: .second :: (.val (.int a2)) :: (.val (.long i2)) :: .second :: (.val (.int sh)) :: (.val (.int md)) :: (.val (.long v1)) :: .second :: (.val (.long v11)) :: .second :: (.val (.long v24)) :: .second :: (.val (.long v37)) :: .second :: (.val (.long j138_16)) :: .second :: (.val (.long j138_18)) :: .second :: (.val (.long j138_20)) :: .second :: (.val (.long j138_22)) :: .second :: (.val (.int j138_24)) :: (.val (.long j152_25)) :: .second :: (.val (.long j166_27)) :: .second :: (.val (.long j180_29)) :: .second :: (.val (.long j194_31)) :: .second :: (.val (.long j208_33)) :: .second :: (.val (.long j222_35)) :: .second :: (.val (.long j236_37)) :: .second :: (.val (.long j250_39)) :: .second :: (.val (.ref x)) :: (.val (.ref y)) :: (.val (.double r)) :: .second :: (.val (.long v339)) :: .second :: (.val (.double v376)) :: .second :: []))) rfl ?_
    exact own_refl
theorem own_s15 (a1 : Int32) (i1 : Int64) (a2 : Int32) (i2 : Int64) (sh : Int32) (md : Int32) (v1 : Int64) (v11 : Int64) (v24 : Int64) (v37 : Int64) (j138_16 : Int64) (j138_18 : Int64) (j138_20 : Int64) (j138_22 : Int64) (j138_24 : Int32) (j152_25 : Int64) (j166_27 : Int64) (j180_29 : Int64) (j194_31 : Int64) (j208_33 : Int64) (j222_35 : Int64) (j236_37 : Int64) (j250_39 : Int64) (x : Addr) (y : Addr) (r : UInt64) (v339 : Int64) (j379_47 : UInt64) (v383 : Int32) (hv383 : (cmpValue (FP.dcmp r j379_47) .l) = v383) (t392_0 : Int32) (ht392_0 : (bif ifCond.holds .ne v383 then (0 : Int32) else (1 : Int32)) = t392_0) :
    own_Go own_K0 code 379 (List.toArray ((.val (.int a1)) :: (.val (.long i1)) :: .second :: (.val (.int a2)) :: (.val (.long i2)) :: .second :: (.val (.int sh)) :: (.val (.int md)) :: (.val (.long v1)) :: .second :: (.val (.long v11)) :: .second :: (.val (.long v24)) :: .second :: (.val (.long v37)) :: .second :: (.val (.long j138_16)) :: .second :: (.val (.long j138_18)) :: .second :: (.val (.long j138_20)) :: .second :: (.val (.long j138_22)) :: .second :: (.val (.int j138_24)) :: (.val (.long j152_25)) :: .second :: (.val (.long j166_27)) :: .second :: (.val (.long j180_29)) :: .second :: (.val (.long j194_31)) :: .second :: (.val (.long j208_33)) :: .second :: (.val (.long j222_35)) :: .second :: (.val (.long j236_37)) :: .second :: (.val (.long j250_39)) :: .second :: (.val (.ref x)) :: (.val (.ref y)) :: (.val (.double r)) :: .second :: (.val (.long v339)) :: .second :: (.val (.double j379_47)) :: .second :: [])) [] 392 (List.toArray ((.val (.int a1)) :: (.val (.long i1)) :: .second :: (.val (.int a2)) :: (.val (.long i2)) :: .second :: (.val (.int sh)) :: (.val (.int md)) :: (.val (.long v1)) :: .second :: (.val (.long v11)) :: .second :: (.val (.long v24)) :: .second :: (.val (.long v37)) :: .second :: (.val (.long j138_16)) :: .second :: (.val (.long j138_18)) :: .second :: (.val (.long j138_20)) :: .second :: (.val (.long j138_22)) :: .second :: (.val (.int j138_24)) :: (.val (.long j152_25)) :: .second :: (.val (.long j166_27)) :: .second :: (.val (.long j180_29)) :: .second :: (.val (.long j194_31)) :: .second :: (.val (.long j208_33)) :: .second :: (.val (.long j222_35)) :: .second :: (.val (.long j236_37)) :: .second :: (.val (.long j250_39)) :: .second :: (.val (.ref x)) :: (.val (.ref y)) :: (.val (.double r)) :: .second :: (.val (.long v339)) :: .second :: (.val (.double j379_47)) :: .second :: [])) [(.int t392_0)] := by
  subst ht392_0
  refine own_dload (pc2 := 381) at_379 rfl rfl ?_
  refine own_dload (pc2 := 383) at_381 rfl rfl ?_
  refine own_dcmp (pc2 := 384) at_383 rfl (v := v383) hv383 ?_
  cases hb384 : ifCond.holds .ne v383
  · refine own_ifNo (pc2 := 387) at_384 rfl hb384 ?_
    refine own_iconst (v := 1) (pc2 := 388) at_387 rfl rfl ?_
    refine own_goto (pc' := 392) at_388 (by decide) (by decide) ?_
    exact own_refl
  · refine own_ifYes (pc' := 391) at_384 hb384 (by decide) (by decide) ?_
    refine own_iconst (v := 0) (pc2 := 392) at_391 rfl rfl ?_
    exact own_refl
set_option maxRecDepth 65536 in
set_option maxHeartbeats 40000000 in
theorem own_law (l : Launch) (Z : State) (a0 : Array Value) (hb0 : Heap) (hw : ∀ d ∈ tables_1, d.before a0 Z = true) (a1 : Int32) (i1 : Int64) (a2 : Int32) (i2 : Int64) (sh : Int32) (md : Int32) :
    own_Met l Z a0 hb0 x code maxLocals ret tables_1 room_1 #[(.int a1), (.long i1), (.int a2), (.long i2), (.int sh), (.int md)] [] (fun v _ => v = some (.int 1)) := by
  refine own_met_of (L0 := (List.toArray ((.val (.int a1)) :: (.val (.long i1)) :: .second :: (.val (.int a2)) :: (.val (.long i2)) :: .second :: (.val (.int sh)) :: (.val (.int md)) :: .unset :: .unset :: .unset :: .unset :: .unset :: .unset :: .unset :: .unset :: .unset :: .unset :: .unset :: .unset :: .unset :: .unset :: .unset :: .unset :: .unset :: .unset :: .unset :: .unset :: .unset :: .unset :: .unset :: .unset :: .unset :: .unset :: .unset :: .unset :: .unset :: .unset :: .unset :: .unset :: .unset :: .unset :: .unset :: .unset :: .unset :: .unset :: .unset :: .unset :: .unset :: []))) own_pn0 (fun m => own_ef0 m a1 i1 a2 i2 sh md) ?_
  intro p e s m below meth c T0 hx hZ hown hby hml hnm H0
  have hown : s.vm.findClass "com/example/hazeline/hazeline/fuzzy/TrapezoidRankingDifferencePinLaw" = some m.cls := hown
  have hml : c.maxLocals = 49 := hml
  obtain ⟨v1, hv1⟩ : ∃ z : Int64, a1.toInt64 = z := ⟨_, rfl⟩
  obtain ⟨v10, hv10⟩ : ∃ z : Int64, (i1 &&& (2097151 : Int64)) = z := ⟨_, rfl⟩
  obtain ⟨v11, hv11⟩ : ∃ z : Int64, (v1 + v10) = z := ⟨_, rfl⟩
  obtain ⟨v19, hv19⟩ : ∃ z : Int64, ((i1.toUInt64 >>> ((21 : Int32) &&& 0x3f).toInt64.toUInt64).toInt64) = z := ⟨_, rfl⟩
  obtain ⟨v23, hv23⟩ : ∃ z : Int64, (v19 &&& (2097151 : Int64)) = z := ⟨_, rfl⟩
  obtain ⟨v24, hv24⟩ : ∃ z : Int64, (v11 + v23) = z := ⟨_, rfl⟩
  obtain ⟨v32, hv32⟩ : ∃ z : Int64, ((i1.toUInt64 >>> ((42 : Int32) &&& 0x3f).toInt64.toUInt64).toInt64) = z := ⟨_, rfl⟩
  obtain ⟨v36, hv36⟩ : ∃ z : Int64, (v32 &&& (2097151 : Int64)) = z := ⟨_, rfl⟩
  obtain ⟨v37, hv37⟩ : ∃ z : Int64, (v24 + v36) = z := ⟨_, rfl⟩
  obtain ⟨v43, hv43⟩ : ∃ z : Int32, (md &&& (1 : Int32)) = z := ⟨_, rfl⟩
  obtain ⟨v49, hv49⟩ : ∃ z : Int64, sh.toInt64 = z := ⟨_, rfl⟩
  obtain ⟨v53, hv53⟩ : ∃ z : Int64, (v49 &&& (2147483647 : Int64)) = z := ⟨_, rfl⟩
  obtain ⟨v60, hv60⟩ : ∃ z : Int64, (v1 - v53) = z := ⟨_, rfl⟩
  obtain ⟨v75, hv75⟩ : ∃ z : Int64, (v37 + v53) = z := ⟨_, rfl⟩
  obtain ⟨v127, hv127⟩ : ∃ z : Int32, (md &&& (2 : Int32)) = z := ⟨_, rfl⟩
  obtain ⟨v82, hv82⟩ : ∃ z : Int64, a2.toInt64 = z := ⟨_, rfl⟩
  obtain ⟨v92, hv92⟩ : ∃ z : Int64, (i2 &&& (2097151 : Int64)) = z := ⟨_, rfl⟩
  obtain ⟨v93, hv93⟩ : ∃ z : Int64, (v82 + v92) = z := ⟨_, rfl⟩
  obtain ⟨v102, hv102⟩ : ∃ z : Int64, ((i2.toUInt64 >>> ((21 : Int32) &&& 0x3f).toInt64.toUInt64).toInt64) = z := ⟨_, rfl⟩
  obtain ⟨v106, hv106⟩ : ∃ z : Int64, (v102 &&& (2097151 : Int64)) = z := ⟨_, rfl⟩
  obtain ⟨v107, hv107⟩ : ∃ z : Int64, (v93 + v106) = z := ⟨_, rfl⟩
  obtain ⟨v116, hv116⟩ : ∃ z : Int64, ((i2.toUInt64 >>> ((42 : Int32) &&& 0x3f).toInt64.toUInt64).toInt64) = z := ⟨_, rfl⟩
  obtain ⟨v120, hv120⟩ : ∃ z : Int64, (v116 &&& (2097151 : Int64)) = z := ⟨_, rfl⟩
  obtain ⟨v121, hv121⟩ : ∃ z : Int64, (v107 + v120) = z := ⟨_, rfl⟩
  obtain ⟨v127', hv127'⟩ : ∃ z : Int32, (md &&& (2 : Int32)) = z := ⟨_, rfl⟩
  obtain ⟨j138_16, hj138_16⟩ : ∃ z : Int64, (bif ifCond.holds .eq v43 then v82 else v60) = z := ⟨_, rfl⟩
  obtain ⟨j138_18, hj138_18⟩ : ∃ z : Int64, (bif ifCond.holds .eq v43 then v93 else v11) = z := ⟨_, rfl⟩
  obtain ⟨j138_20, hj138_20⟩ : ∃ z : Int64, (bif ifCond.holds .eq v43 then v107 else v24) = z := ⟨_, rfl⟩
  obtain ⟨j138_22, hj138_22⟩ : ∃ z : Int64, (bif ifCond.holds .eq v43 then v121 else v75) = z := ⟨_, rfl⟩
  obtain ⟨j138_24, hj138_24⟩ : ∃ z : Int32, (bif ifCond.holds .eq v43 then (bif ifCond.holds .eq v127' then (0 : Int32) else (1 : Int32)) else (bif ifCond.holds .eq v127 then (0 : Int32) else (1 : Int32))) = z := ⟨_, rfl⟩
  obtain ⟨j152_25, hj152_25⟩ : ∃ z : Int64, (bif ifCond.holds .eq j138_24 then v1 else j138_16) = z := ⟨_, rfl⟩
  obtain ⟨j166_27, hj166_27⟩ : ∃ z : Int64, (bif ifCond.holds .eq j138_24 then v11 else j138_18) = z := ⟨_, rfl⟩
  obtain ⟨j180_29, hj180_29⟩ : ∃ z : Int64, (bif ifCond.holds .eq j138_24 then v24 else j138_20) = z := ⟨_, rfl⟩
  obtain ⟨j194_31, hj194_31⟩ : ∃ z : Int64, (bif ifCond.holds .eq j138_24 then v37 else j138_22) = z := ⟨_, rfl⟩
  obtain ⟨j208_33, hj208_33⟩ : ∃ z : Int64, (bif ifCond.holds .eq j138_24 then j138_16 else v1) = z := ⟨_, rfl⟩
  obtain ⟨j222_35, hj222_35⟩ : ∃ z : Int64, (bif ifCond.holds .eq j138_24 then j138_18 else v11) = z := ⟨_, rfl⟩
  obtain ⟨j236_37, hj236_37⟩ : ∃ z : Int64, (bif ifCond.holds .eq j138_24 then j138_20 else v24) = z := ⟨_, rfl⟩
  obtain ⟨j250_39, hj250_39⟩ : ∃ z : Int64, (bif ifCond.holds .eq j138_24 then j138_22 else v37) = z := ⟨_, rfl⟩
  obtain ⟨Ts1, x, Hs1, sts1⟩ := own_newO H0 hx hZ hown (hw _ (List.mem_of_getElem? (i := 2) rfl)) (hw _ (List.mem_of_getElem? (i := 3) rfl)) (hw _ (List.mem_of_getElem? (i := 4) rfl)) [("com/example/hazeline/hazeline/fuzzy/Trapezoid", "a", "D", .double 0), ("com/example/hazeline/hazeline/fuzzy/Trapezoid", "b", "D", .double 0), ("com/example/hazeline/hazeline/fuzzy/Trapezoid", "c", "D", .double 0), ("com/example/hazeline/hazeline/fuzzy/Trapezoid", "d", "D", .double 0)] (by
      intro f hf
      simp only [List.mem_cons, List.not_mem_nil, or_false] at hf
      rcases hf with rfl | rfl | rfl | rfl
      · exact ⟨Or.inr (hw _ (List.mem_of_getElem? (i := 21) rfl)), .double, by decide, rfl⟩
      · exact ⟨Or.inr (hw _ (List.mem_of_getElem? (i := 23) rfl)), .double, by decide, rfl⟩
      · exact ⟨Or.inr (hw _ (List.mem_of_getElem? (i := 25) rfl)), .double, by decide, rfl⟩
      · exact ⟨Or.inr (hw _ (List.mem_of_getElem? (i := 27) rfl)), .double, by decide, rfl⟩) (by decide) (g := (mkF m 250 (List.toArray ((.val (.int a1)) :: (.val (.long i1)) :: .second :: (.val (.int a2)) :: (.val (.long i2)) :: .second :: (.val (.int sh)) :: (.val (.int md)) :: (.val (.long v1)) :: .second :: (.val (.long v11)) :: .second :: (.val (.long v24)) :: .second :: (.val (.long v37)) :: .second :: (.val (.long j138_16)) :: .second :: (.val (.long j138_18)) :: .second :: (.val (.long j138_20)) :: .second :: (.val (.long j138_22)) :: .second :: (.val (.int j138_24)) :: (.val (.long j152_25)) :: .second :: (.val (.long j166_27)) :: .second :: (.val (.long j180_29)) :: .second :: (.val (.long j194_31)) :: .second :: (.val (.long j208_33)) :: .second :: (.val (.long j222_35)) :: .second :: (.val (.long j236_37)) :: .second :: (.val (.long j250_39)) :: .second :: .unset :: .unset :: .unset :: .unset :: .unset :: .unset :: .unset :: .unset :: [])) [])) rfl (hb hby at_250) (by decide) (by decide)
  change own_S _ _ _ _ _ _ _ _ _ _ _ _ _ _ [(x, own_O "com/example/hazeline/hazeline/fuzzy/Trapezoid" [("com/example/hazeline/hazeline/fuzzy/Trapezoid", "a", "D", .double 0), ("com/example/hazeline/hazeline/fuzzy/Trapezoid", "b", "D", .double 0), ("com/example/hazeline/hazeline/fuzzy/Trapezoid", "c", "D", .double 0), ("com/example/hazeline/hazeline/fuzzy/Trapezoid", "d", "D", .double 0)])] _ _ at Hs1
  obtain ⟨v256, hv256⟩ : ∃ z : UInt64, (FP.l2d j152_25) = z := ⟨_, rfl⟩
  obtain ⟨v259, hv259⟩ : ∃ z : UInt64, (FP.l2d j166_27) = z := ⟨_, rfl⟩
  obtain ⟨v262, hv262⟩ : ∃ z : UInt64, (FP.l2d j180_29) = z := ⟨_, rfl⟩
  obtain ⟨v265, hv265⟩ : ∃ z : UInt64, (FP.l2d j194_31) = z := ⟨_, rfl⟩
  have hP : own_T 2200000000 v1 v11 v24 v37 := by
    have q0 : v1.toInt = a1.toInt := by rw [← hv1]; exact c_i2l a1
    have r0 := rng32 a1
    have m1 := c_maskL i1 2097151 21 (by decide) (by decide)
    have m2 := c_maskL v19 2097151 21 (by decide) (by decide)
    have m3 := c_maskL v32 2097151 21 (by decide) (by decide)
    rw [hv10] at m1; rw [hv23] at m2; rw [hv36] at m3
    have s1 := c_ladd v1 v10
    have s2 := c_ladd v11 v23
    have s3 := c_ladd v24 v36
    rw [hv11] at s1; rw [hv24] at s2; rw [hv37] at s3
    have := rng64 v11; have := rng64 v24; have := rng64 v37
    refine ⟨?_, ?_, ?_, ?_, ?_⟩ <;> omega
  have hQ : own_T 8589934592 j138_16 j138_18 j138_20 j138_22 := by
    have q0 : v82.toInt = a2.toInt := by rw [← hv82]; exact c_i2l a2
    have r0 := rng32 a2
    have q1 : v1.toInt = a1.toInt := by rw [← hv1]; exact c_i2l a1
    have r1 := rng32 a1
    have m0 := c_maskL v49 2147483647 31 (by decide) (by decide)
    have m1 := c_maskL i2 2097151 21 (by decide) (by decide)
    have m2 := c_maskL v102 2097151 21 (by decide) (by decide)
    have m3 := c_maskL v116 2097151 21 (by decide) (by decide)
    rw [hv53] at m0; rw [hv92] at m1; rw [hv106] at m2; rw [hv120] at m3
    have s1 := c_ladd v82 v92
    have s2 := c_ladd v93 v106
    have s3 := c_ladd v107 v120
    have s4 := c_lsub v1 v53
    have s5 := c_ladd v37 v53
    rw [hv93] at s1; rw [hv107] at s2; rw [hv121] at s3; rw [hv60] at s4; rw [hv75] at s5
    have := rng64 v93; have := rng64 v107; have := rng64 v121; have := rng64 v60; have := rng64 v75
    obtain ⟨p1, p2, p3, p4, p5⟩ := hP
    rw [← hj138_16, ← hj138_18, ← hj138_20, ← hj138_22]
    cases ifCond.holds .eq v43 <;> (simp only [cond_true, cond_false]; refine ⟨?_, ?_, ?_, ?_, ?_⟩ <;> omega)
  have hP' : own_T 8589934592 v1 v11 v24 v37 := by
    obtain ⟨p1, p2, p3, p4, p5⟩ := hP
    exact ⟨by omega, p2, p3, p4, by omega⟩
  have hXY : own_T 8589934592 j152_25 j166_27 j180_29 j194_31 ∧ own_T 8589934592 j208_33 j222_35 j236_37 j250_39 := by
    rw [← hj152_25, ← hj166_27, ← hj180_29, ← hj194_31, ← hj208_33, ← hj222_35, ← hj236_37, ← hj250_39]
    cases ifCond.holds .eq j138_24 <;> simp only [cond_true, cond_false] <;> exact ⟨by assumption, by assumption⟩
  obtain ⟨fX, gX⟩ := own_trap hXY.1 hv256 hv259 hv262 hv265
  obtain ⟨Ts2, vs2_, css2_, qs2, Hs2, sts2⟩ := own_callI Hs1 hx hZ hown rfl (hw _ (List.mem_of_getElem? (i := 5) rfl)) (hw _ (List.mem_of_getElem? (i := 6) rfl)) (hw _ (List.mem_of_getElem? (i := 4) rfl)) (hw _ (List.mem_of_getElem? (i := 7) rfl)) (by decide) (x := x) (argsL := [(.double v256), (.double v259), (.double v262), (.double v265)]) (rest := [(.ref x)]) (W := 1) (own_tam l Z a0 hb0 hw x v256 v259 v262 v265 (own_is_fin fX.1) (own_is_fin fX.2.1) (own_is_fin fX.2.2.1) (own_is_fin fX.2.2.2) gX.1 gX.2.1 gX.2.2) (by decide) (by decide) (by decide) (by decide) (g := (mkF m 266 (List.toArray ((.val (.int a1)) :: (.val (.long i1)) :: .second :: (.val (.int a2)) :: (.val (.long i2)) :: .second :: (.val (.int sh)) :: (.val (.int md)) :: (.val (.long v1)) :: .second :: (.val (.long v11)) :: .second :: (.val (.long v24)) :: .second :: (.val (.long v37)) :: .second :: (.val (.long j138_16)) :: .second :: (.val (.long j138_18)) :: .second :: (.val (.long j138_20)) :: .second :: (.val (.long j138_22)) :: .second :: (.val (.int j138_24)) :: (.val (.long j152_25)) :: .second :: (.val (.long j166_27)) :: .second :: (.val (.long j180_29)) :: .second :: (.val (.long j194_31)) :: .second :: (.val (.long j208_33)) :: .second :: (.val (.long j222_35)) :: .second :: (.val (.long j236_37)) :: .second :: (.val (.long j250_39)) :: .second :: .unset :: .unset :: .unset :: .unset :: .unset :: .unset :: .unset :: .unset :: [])) [(.double v265), (.double v262), (.double v259), (.double v256), (.ref x), (.ref x)])) rfl (by rw [hml]; rfl) (lenOf own_pd4 rfl) rfl (by show 2 * 0 + _ ≤ _; exact Nat.le_of_eq rfl) (hb hby at_266)
  obtain ⟨rfl, rfl⟩ := qs2
  change own_S _ _ _ _ _ _ _ _ _ _ _ _ _ _ [(x, own_O "com/example/hazeline/hazeline/fuzzy/Trapezoid" [("com/example/hazeline/hazeline/fuzzy/Trapezoid", "a", "D", .double v256), ("com/example/hazeline/hazeline/fuzzy/Trapezoid", "b", "D", .double v259), ("com/example/hazeline/hazeline/fuzzy/Trapezoid", "c", "D", .double v262), ("com/example/hazeline/hazeline/fuzzy/Trapezoid", "d", "D", .double v265)])] _ _ at Hs2
  obtain ⟨Ts3, y, Hs3, sts3⟩ := own_newO Hs2 hx hZ hown (hw _ (List.mem_of_getElem? (i := 2) rfl)) (hw _ (List.mem_of_getElem? (i := 3) rfl)) (hw _ (List.mem_of_getElem? (i := 4) rfl)) [("com/example/hazeline/hazeline/fuzzy/Trapezoid", "a", "D", .double 0), ("com/example/hazeline/hazeline/fuzzy/Trapezoid", "b", "D", .double 0), ("com/example/hazeline/hazeline/fuzzy/Trapezoid", "c", "D", .double 0), ("com/example/hazeline/hazeline/fuzzy/Trapezoid", "d", "D", .double 0)] (by
      intro f hf
      simp only [List.mem_cons, List.not_mem_nil, or_false] at hf
      rcases hf with rfl | rfl | rfl | rfl
      · exact ⟨Or.inr (hw _ (List.mem_of_getElem? (i := 21) rfl)), .double, by decide, rfl⟩
      · exact ⟨Or.inr (hw _ (List.mem_of_getElem? (i := 23) rfl)), .double, by decide, rfl⟩
      · exact ⟨Or.inr (hw _ (List.mem_of_getElem? (i := 25) rfl)), .double, by decide, rfl⟩
      · exact ⟨Or.inr (hw _ (List.mem_of_getElem? (i := 27) rfl)), .double, by decide, rfl⟩) (by decide) (g := (mkF m 271 (List.toArray ((.val (.int a1)) :: (.val (.long i1)) :: .second :: (.val (.int a2)) :: (.val (.long i2)) :: .second :: (.val (.int sh)) :: (.val (.int md)) :: (.val (.long v1)) :: .second :: (.val (.long v11)) :: .second :: (.val (.long v24)) :: .second :: (.val (.long v37)) :: .second :: (.val (.long j138_16)) :: .second :: (.val (.long j138_18)) :: .second :: (.val (.long j138_20)) :: .second :: (.val (.long j138_22)) :: .second :: (.val (.int j138_24)) :: (.val (.long j152_25)) :: .second :: (.val (.long j166_27)) :: .second :: (.val (.long j180_29)) :: .second :: (.val (.long j194_31)) :: .second :: (.val (.long j208_33)) :: .second :: (.val (.long j222_35)) :: .second :: (.val (.long j236_37)) :: .second :: (.val (.long j250_39)) :: .second :: (.val (.ref x)) :: .unset :: .unset :: .unset :: .unset :: .unset :: .unset :: .unset :: [])) [])) rfl (hb hby at_271) (by decide) (by decide)
  change own_S _ _ _ _ _ _ _ _ _ _ _ _ _ _ [(x, own_O "com/example/hazeline/hazeline/fuzzy/Trapezoid" [("com/example/hazeline/hazeline/fuzzy/Trapezoid", "a", "D", .double v256), ("com/example/hazeline/hazeline/fuzzy/Trapezoid", "b", "D", .double v259), ("com/example/hazeline/hazeline/fuzzy/Trapezoid", "c", "D", .double v262), ("com/example/hazeline/hazeline/fuzzy/Trapezoid", "d", "D", .double v265)]), (y, own_O "com/example/hazeline/hazeline/fuzzy/Trapezoid" [("com/example/hazeline/hazeline/fuzzy/Trapezoid", "a", "D", .double 0), ("com/example/hazeline/hazeline/fuzzy/Trapezoid", "b", "D", .double 0), ("com/example/hazeline/hazeline/fuzzy/Trapezoid", "c", "D", .double 0), ("com/example/hazeline/hazeline/fuzzy/Trapezoid", "d", "D", .double 0)])] _ _ at Hs3
  obtain ⟨v277, hv277⟩ : ∃ z : UInt64, (FP.l2d j208_33) = z := ⟨_, rfl⟩
  obtain ⟨v280, hv280⟩ : ∃ z : UInt64, (FP.l2d j222_35) = z := ⟨_, rfl⟩
  obtain ⟨v283, hv283⟩ : ∃ z : UInt64, (FP.l2d j236_37) = z := ⟨_, rfl⟩
  obtain ⟨v286, hv286⟩ : ∃ z : UInt64, (FP.l2d j250_39) = z := ⟨_, rfl⟩
  obtain ⟨fY, gY⟩ := own_trap hXY.2 hv277 hv280 hv283 hv286
  obtain ⟨Ts4, vs4_, css4_, qs4, Hs4, sts4⟩ := own_callI Hs3 hx hZ hown rfl (hw _ (List.mem_of_getElem? (i := 5) rfl)) (hw _ (List.mem_of_getElem? (i := 6) rfl)) (hw _ (List.mem_of_getElem? (i := 4) rfl)) (hw _ (List.mem_of_getElem? (i := 7) rfl)) (by decide) (x := y) (argsL := [(.double v277), (.double v280), (.double v283), (.double v286)]) (rest := [(.ref y)]) (W := 1) (own_tbm l Z a0 hb0 hw y v277 v280 v283 v286 x _ (own_is_fin fY.1) (own_is_fin fY.2.1) (own_is_fin fY.2.2.1) (own_is_fin fY.2.2.2) gY.1 gY.2.1 gY.2.2) (by decide) (by decide) (by decide) (by decide) (g := (mkF m 287 (List.toArray ((.val (.int a1)) :: (.val (.long i1)) :: .second :: (.val (.int a2)) :: (.val (.long i2)) :: .second :: (.val (.int sh)) :: (.val (.int md)) :: (.val (.long v1)) :: .second :: (.val (.long v11)) :: .second :: (.val (.long v24)) :: .second :: (.val (.long v37)) :: .second :: (.val (.long j138_16)) :: .second :: (.val (.long j138_18)) :: .second :: (.val (.long j138_20)) :: .second :: (.val (.long j138_22)) :: .second :: (.val (.int j138_24)) :: (.val (.long j152_25)) :: .second :: (.val (.long j166_27)) :: .second :: (.val (.long j180_29)) :: .second :: (.val (.long j194_31)) :: .second :: (.val (.long j208_33)) :: .second :: (.val (.long j222_35)) :: .second :: (.val (.long j236_37)) :: .second :: (.val (.long j250_39)) :: .second :: (.val (.ref x)) :: .unset :: .unset :: .unset :: .unset :: .unset :: .unset :: .unset :: [])) [(.double v286), (.double v283), (.double v280), (.double v277), (.ref y), (.ref y)])) rfl (by rw [hml]; rfl) (lenOf own_pd4 rfl) rfl (by show 2 * 0 + _ ≤ _; exact Nat.le_of_eq rfl) (hb hby at_287)
  obtain ⟨rfl, rfl⟩ := qs4
  change own_S _ _ _ _ _ _ _ _ _ _ _ _ _ _ [(x, own_O "com/example/hazeline/hazeline/fuzzy/Trapezoid" [("com/example/hazeline/hazeline/fuzzy/Trapezoid", "a", "D", .double v256), ("com/example/hazeline/hazeline/fuzzy/Trapezoid", "b", "D", .double v259), ("com/example/hazeline/hazeline/fuzzy/Trapezoid", "c", "D", .double v262), ("com/example/hazeline/hazeline/fuzzy/Trapezoid", "d", "D", .double v265)]), (y, own_O "com/example/hazeline/hazeline/fuzzy/Trapezoid" [("com/example/hazeline/hazeline/fuzzy/Trapezoid", "a", "D", .double v277), ("com/example/hazeline/hazeline/fuzzy/Trapezoid", "b", "D", .double v280), ("com/example/hazeline/hazeline/fuzzy/Trapezoid", "c", "D", .double v283), ("com/example/hazeline/hazeline/fuzzy/Trapezoid", "d", "D", .double v286)])] _ _ at Hs4
  obtain ⟨X1, X2, X3, X4, X5⟩ := hXY.1
  obtain ⟨Y1, Y2, Y3, Y4, Y5⟩ := hXY.2
  obtain ⟨Ts5, vs5_, css5_, qs5, Hs5, sts5⟩ := own_callV Hs4 hx hZ hown (hw _ (List.mem_of_getElem? (i := 28) rfl)) (hw _ (List.mem_of_getElem? (i := 29) rfl)) (hw _ (List.mem_of_getElem? (i := 31) rfl)) (hw _ (List.mem_of_getElem? (i := 30) rfl)) (hw _ (List.mem_of_getElem? (i := 4) rfl)) (hw _ (List.mem_of_getElem? (i := 32) rfl)) (by decide) (x := x) 0 rfl (argsL := [(.ref y)]) (rest := []) (W := 0) (own_rank l Z a0 hb0 hw x y v256 v259 v262 v265 v277 v280 v283 v286 _ _ _ _ _ _ _ _ fX.1 fX.2.1 fX.2.2.1 fX.2.2.2 fY.1 fY.2.1 fY.2.2.1 fY.2.2.2 (by omega) (by omega) (by omega) (by omega) (by omega) (by omega) (by omega) (by omega)) (by decide) (by decide) (by decide) (by decide) (g := (mkF m 296 (List.toArray ((.val (.int a1)) :: (.val (.long i1)) :: .second :: (.val (.int a2)) :: (.val (.long i2)) :: .second :: (.val (.int sh)) :: (.val (.int md)) :: (.val (.long v1)) :: .second :: (.val (.long v11)) :: .second :: (.val (.long v24)) :: .second :: (.val (.long v37)) :: .second :: (.val (.long j138_16)) :: .second :: (.val (.long j138_18)) :: .second :: (.val (.long j138_20)) :: .second :: (.val (.long j138_22)) :: .second :: (.val (.int j138_24)) :: (.val (.long j152_25)) :: .second :: (.val (.long j166_27)) :: .second :: (.val (.long j180_29)) :: .second :: (.val (.long j194_31)) :: .second :: (.val (.long j208_33)) :: .second :: (.val (.long j222_35)) :: .second :: (.val (.long j236_37)) :: .second :: (.val (.long j250_39)) :: .second :: (.val (.ref x)) :: (.val (.ref y)) :: .unset :: .unset :: .unset :: .unset :: .unset :: .unset :: [])) [(.ref y), (.ref x)])) rfl (by rw [hml]; rfl) (lenOf own_pd5 rfl) rfl (by show 2 * 0 + _ ≤ _; exact Nat.le_of_eq rfl) (hb hby at_296)
  obtain ⟨⟨r, rfl, hr⟩, rfl⟩ := qs5
  change own_S _ _ _ _ _ _ _ _ _ _ _ _ _ _ [(x, own_O "com/example/hazeline/hazeline/fuzzy/Trapezoid" [("com/example/hazeline/hazeline/fuzzy/Trapezoid", "a", "D", .double v256), ("com/example/hazeline/hazeline/fuzzy/Trapezoid", "b", "D", .double v259), ("com/example/hazeline/hazeline/fuzzy/Trapezoid", "c", "D", .double v262), ("com/example/hazeline/hazeline/fuzzy/Trapezoid", "d", "D", .double v265)]), (y, own_O "com/example/hazeline/hazeline/fuzzy/Trapezoid" [("com/example/hazeline/hazeline/fuzzy/Trapezoid", "a", "D", .double v277), ("com/example/hazeline/hazeline/fuzzy/Trapezoid", "b", "D", .double v280), ("com/example/hazeline/hazeline/fuzzy/Trapezoid", "c", "D", .double v283), ("com/example/hazeline/hazeline/fuzzy/Trapezoid", "d", "D", .double v286)])] _ _ at Hs5
  obtain ⟨v308, hv308⟩ : ∃ z : Int64, ((5 : Int64) * j166_27) = z := ⟨_, rfl⟩
  obtain ⟨v309, hv309⟩ : ∃ z : Int64, (j152_25 + v308) = z := ⟨_, rfl⟩
  obtain ⟨v315, hv315⟩ : ∃ z : Int64, ((5 : Int64) * j180_29) = z := ⟨_, rfl⟩
  obtain ⟨v316, hv316⟩ : ∃ z : Int64, (v309 + v315) = z := ⟨_, rfl⟩
  obtain ⟨v319, hv319⟩ : ∃ z : Int64, (v316 + j194_31) = z := ⟨_, rfl⟩
  obtain ⟨v327, hv327⟩ : ∃ z : Int64, ((5 : Int64) * j222_35) = z := ⟨_, rfl⟩
  obtain ⟨v328, hv328⟩ : ∃ z : Int64, (j208_33 + v327) = z := ⟨_, rfl⟩
  obtain ⟨v334, hv334⟩ : ∃ z : Int64, ((5 : Int64) * j236_37) = z := ⟨_, rfl⟩
  obtain ⟨v335, hv335⟩ : ∃ z : Int64, (v328 + v334) = z := ⟨_, rfl⟩
  obtain ⟨v338, hv338⟩ : ∃ z : Int64, (v335 + j250_39) = z := ⟨_, rfl⟩
  obtain ⟨v339, hv339⟩ : ∃ z : Int64, (v319 - v338) = z := ⟨_, rfl⟩
  obtain ⟨v345, hv345⟩ : ∃ z : Int32, (if v339 > (0 : Int64) then (1 : Int32) else if v339 = (0 : Int64) then 0 else -1) = z := ⟨_, rfl⟩
  obtain ⟨v351, hv351⟩ : ∃ z : UInt64, (FP.l2d v339) = z := ⟨_, rfl⟩
  obtain ⟨v355, hv355⟩ : ∃ z : UInt64, (FP.ddiv v351 (4622945017495814144 : UInt64)) = z := ⟨_, rfl⟩
  obtain ⟨v365, hv365⟩ : ∃ z : Int64, (j194_31 - j152_25) = z := ⟨_, rfl⟩
  obtain ⟨v370, hv370⟩ : ∃ z : Int64, (j250_39 - j208_33) = z := ⟨_, rfl⟩
  obtain ⟨v371, hv371⟩ : ∃ z : Int64, (v365 - v370) = z := ⟨_, rfl⟩
  obtain ⟨v372, hv372⟩ : ∃ z : UInt64, (FP.l2d v371) = z := ⟨_, rfl⟩
  obtain ⟨v376, hv376⟩ : ∃ z : UInt64, (FP.ddiv v372 (4611686018427387904 : UInt64)) = z := ⟨_, rfl⟩
  obtain ⟨j379_47, hj379_47⟩ : ∃ z : UInt64, (bif ifCond.holds .eq v345 then v376 else v355) = z := ⟨_, rfl⟩
  obtain ⟨v383, hv383⟩ : ∃ z : Int32, (cmpValue (FP.dcmp r j379_47) .l) = z := ⟨_, rfl⟩
  obtain ⟨t392_0, ht392_0⟩ : ∃ z : Int32, (bif ifCond.holds .ne v383 then (0 : Int32) else (1 : Int32)) = z := ⟨_, rfl⟩
  have f5 : (5 : Int64).toInt = 5 := by decide
  have e308 : v308.toInt = 5 * j166_27.toInt := by
    have q := c_lmul 5 j166_27; have := rng64 v308; rw [hv308, f5] at q; omega
  have e309 : v309.toInt = j152_25.toInt + 5 * j166_27.toInt := by
    have q := c_ladd j152_25 v308; have := rng64 v309; rw [hv309, e308] at q; omega
  have e315 : v315.toInt = 5 * j180_29.toInt := by
    have q := c_lmul 5 j180_29; have := rng64 v315; rw [hv315, f5] at q; omega
  have e316 : v316.toInt = j152_25.toInt + 5 * j166_27.toInt + 5 * j180_29.toInt := by
    have q := c_ladd v309 v315; have := rng64 v316; rw [hv316, e309, e315] at q; omega
  have e319 : v319.toInt = j152_25.toInt + 5 * j166_27.toInt + 5 * j180_29.toInt + j194_31.toInt := by
    have q := c_ladd v316 j194_31; have := rng64 v319; rw [hv319, e316] at q; omega
  have e327 : v327.toInt = 5 * j222_35.toInt := by
    have q := c_lmul 5 j222_35; have := rng64 v327; rw [hv327, f5] at q; omega
  have e328 : v328.toInt = j208_33.toInt + 5 * j222_35.toInt := by
    have q := c_ladd j208_33 v327; have := rng64 v328; rw [hv328, e327] at q; omega
  have e334 : v334.toInt = 5 * j236_37.toInt := by
    have q := c_lmul 5 j236_37; have := rng64 v334; rw [hv334, f5] at q; omega
  have e335 : v335.toInt = j208_33.toInt + 5 * j222_35.toInt + 5 * j236_37.toInt := by
    have q := c_ladd v328 v334; have := rng64 v335; rw [hv335, e328, e334] at q; omega
  have e338 : v338.toInt = j208_33.toInt + 5 * j222_35.toInt + 5 * j236_37.toInt + j250_39.toInt := by
    have q := c_ladd v335 j250_39; have := rng64 v338; rw [hv338, e335] at q; omega
  have e339 : v339.toInt = (j152_25.toInt + 5 * j166_27.toInt + 5 * j180_29.toInt + j194_31.toInt) - (j208_33.toInt + 5 * j222_35.toInt + 5 * j236_37.toInt + j250_39.toInt) := by
    have q := c_lsub v319 v338; have := rng64 v339; rw [hv339, e319, e338] at q; omega
  have e365 : v365.toInt = j194_31.toInt - j152_25.toInt := by
    have q := c_lsub j194_31 j152_25; have := rng64 v365; rw [hv365] at q; omega
  have e370 : v370.toInt = j250_39.toInt - j208_33.toInt := by
    have q := c_lsub j250_39 j208_33; have := rng64 v370; rw [hv370] at q; omega
  have e371 : v371.toInt = (j194_31.toInt - j152_25.toInt) - (j250_39.toInt - j208_33.toInt) := by
    have q := c_lsub v365 v370; have := rng64 v371; rw [hv371, e365, e370] at q; omega
  have i351 : own_is v351 ((v339.toInt : Int) : Rat) := by rw [← hv351]; exact own_rd_small (own_rdL _) (by omega)
  have q355 : own_rd v355 (((v339.toInt : Int) : Rat) / 12) := by rw [← hv355]; exact own_div i351 own_twelve (by decide)
  have i372 : own_is v372 ((v371.toInt : Int) : Rat) := by rw [← hv372]; exact own_rd_small (own_rdL _) (by omega)
  have q376 : own_rd v376 (((v371.toInt : Int) : Rat) / 2) := by rw [← hv376]; exact own_div i372 own_two (by decide)
  have nn355 : NoNaN64 (FP.ddiv v351 (4622945017495814144 : UInt64)) := by rw [hv355]; exact own_rd_no q355
  have nn376 : NoNaN64 (FP.ddiv v372 (4611686018427387904 : UInt64)) := by rw [hv376]; exact own_rd_no q376
  have hone : t392_0 = 1 := by
    rw [← e339, ← e371] at hr
    have hj : own_rd j379_47 (if v339.toInt = 0 then ((v371.toInt : Int) : Rat) / 2 else ((v339.toInt : Int) : Rat) / 12) := by
      rw [← hj379_47, ← hv345, own_lc_eq, show (0 : Int64).toInt = 0 from rfl]
      by_cases hz : v339.toInt = 0
      · rw [if_pos hz]; simp only [hz, decide_true, cond_true]; exact q376
      · rw [if_neg hz]; simp only [hz, decide_false, cond_false]; exact q355
    rw [← ht392_0, ← hv383, own_rd_uniq hr hj]; rfl
  refine ⟨_, _, _, _, 392, (List.toArray ((.val (.int a1)) :: (.val (.long i1)) :: .second :: (.val (.int a2)) :: (.val (.long i2)) :: .second :: (.val (.int sh)) :: (.val (.int md)) :: (.val (.long v1)) :: .second :: (.val (.long v11)) :: .second :: (.val (.long v24)) :: .second :: (.val (.long v37)) :: .second :: (.val (.long j138_16)) :: .second :: (.val (.long j138_18)) :: .second :: (.val (.long j138_20)) :: .second :: (.val (.long j138_22)) :: .second :: (.val (.int j138_24)) :: (.val (.long j152_25)) :: .second :: (.val (.long j166_27)) :: .second :: (.val (.long j180_29)) :: .second :: (.val (.long j194_31)) :: .second :: (.val (.long j208_33)) :: .second :: (.val (.long j222_35)) :: .second :: (.val (.long j236_37)) :: .second :: (.val (.long j250_39)) :: .second :: (.val (.ref x)) :: (.val (.ref y)) :: (.val (.double r)) :: .second :: (.val (.long v339)) :: .second :: (.val (.double j379_47)) :: .second :: [])), Hs5, by decide, by decide, Or.inr ⟨.boolean, (.int t392_0), [], .ireturn, rfl, congrArg (fun z => some (Value.int z)) hone, at_392, own_retZ (Or.inr hone), fun target q => ?_⟩⟩
  refine own_go H0 hx hZ hown hby hw own_K0_ok (own_s0 a1 i1 a2 i2 sh md v1 hv1 v10 hv10 v11 hv11 v19 hv19 v23 hv23 v24 hv24 v32 hv32 v36 hv36 v37 hv37) _ ?_
  refine own_go H0 hx hZ hown hby hw own_K0_ok (own_s1 a1 i1 a2 i2 sh md v1 v11 v24 v37 v43 hv43 v49 hv49 v53 hv53 v60 hv60 v75 hv75 v127 hv127 v82 hv82 v92 hv92 v93 hv93 v102 hv102 v106 hv106 v107 hv107 v116 hv116 v120 hv120 v121 hv121 v127' hv127' j138_16 hj138_16 j138_18 hj138_18 j138_20 hj138_20 j138_22 hj138_22 j138_24 hj138_24) _ ?_
  refine own_go H0 hx hZ hown hby hw own_K0_ok (own_s2 a1 i1 a2 i2 sh md v1 v11 v24 v37 j138_16 j138_18 j138_20 j138_22 j138_24 j152_25 hj152_25) _ ?_
  refine own_go H0 hx hZ hown hby hw own_K0_ok (own_s3 a1 i1 a2 i2 sh md v1 v11 v24 v37 j138_16 j138_18 j138_20 j138_22 j138_24 j152_25 j166_27 hj166_27) _ ?_
  refine own_go H0 hx hZ hown hby hw own_K0_ok (own_s4 a1 i1 a2 i2 sh md v1 v11 v24 v37 j138_16 j138_18 j138_20 j138_22 j138_24 j152_25 j166_27 j180_29 hj180_29) _ ?_
  refine own_go H0 hx hZ hown hby hw own_K0_ok (own_s5 a1 i1 a2 i2 sh md v1 v11 v24 v37 j138_16 j138_18 j138_20 j138_22 j138_24 j152_25 j166_27 j180_29 j194_31 hj194_31) _ ?_
  refine own_go H0 hx hZ hown hby hw own_K0_ok (own_s6 a1 i1 a2 i2 sh md v1 v11 v24 v37 j138_16 j138_18 j138_20 j138_22 j138_24 j152_25 j166_27 j180_29 j194_31 j208_33 hj208_33) _ ?_
  refine own_go H0 hx hZ hown hby hw own_K0_ok (own_s7 a1 i1 a2 i2 sh md v1 v11 v24 v37 j138_16 j138_18 j138_20 j138_22 j138_24 j152_25 j166_27 j180_29 j194_31 j208_33 j222_35 hj222_35) _ ?_
  refine own_go H0 hx hZ hown hby hw own_K0_ok (own_s8 a1 i1 a2 i2 sh md v1 v11 v24 v37 j138_16 j138_18 j138_20 j138_22 j138_24 j152_25 j166_27 j180_29 j194_31 j208_33 j222_35 j236_37 hj236_37) _ ?_
  refine own_go H0 hx hZ hown hby hw own_K0_ok (own_s9 a1 i1 a2 i2 sh md v1 v11 v24 v37 j138_16 j138_18 j138_20 j138_22 j138_24 j152_25 j166_27 j180_29 j194_31 j208_33 j222_35 j236_37 j250_39 hj250_39) _ ?_
  refine sts1 _ ?_
  refine own_go Hs1 hx hZ hown hby hw own_K0_ok (own_s10 a1 i1 a2 i2 sh md v1 v11 v24 v37 j138_16 j138_18 j138_20 j138_22 j138_24 j152_25 j166_27 j180_29 j194_31 j208_33 j222_35 j236_37 j250_39 x v256 hv256 v259 hv259 v262 hv262 v265 hv265) _ ?_
  refine sts2 _ ?_
  refine own_go Hs2 hx hZ hown hby hw own_K0_ok (own_s11 a1 i1 a2 i2 sh md v1 v11 v24 v37 j138_16 j138_18 j138_20 j138_22 j138_24 j152_25 j166_27 j180_29 j194_31 j208_33 j222_35 j236_37 j250_39 x) _ ?_
  refine sts3 _ ?_
  refine own_go Hs3 hx hZ hown hby hw own_K0_ok (own_s12 a1 i1 a2 i2 sh md v1 v11 v24 v37 j138_16 j138_18 j138_20 j138_22 j138_24 j152_25 j166_27 j180_29 j194_31 j208_33 j222_35 j236_37 j250_39 x y v277 hv277 v280 hv280 v283 hv283 v286 hv286) _ ?_
  refine sts4 _ ?_
  refine own_go Hs4 hx hZ hown hby hw own_K0_ok (own_s13 a1 i1 a2 i2 sh md v1 v11 v24 v37 j138_16 j138_18 j138_20 j138_22 j138_24 j152_25 j166_27 j180_29 j194_31 j208_33 j222_35 j236_37 j250_39 x y) _ ?_
  refine sts5 _ ?_
  refine own_go Hs5 hx hZ hown hby hw own_K0_ok (own_s14 a1 i1 a2 i2 sh md v1 v11 v24 v37 j138_16 j138_18 j138_20 j138_22 j138_24 j152_25 j166_27 j180_29 j194_31 j208_33 j222_35 j236_37 j250_39 x y r v308 hv308 v309 hv309 v315 hv315 v316 hv316 v319 hv319 v327 hv327 v328 hv328 v334 hv334 v335 hv335 v338 hv338 v339 hv339 v345 hv345 v351 hv351 v355 hv355 nn355 v365 hv365 v370 hv370 v371 hv371 v372 hv372 v376 hv376 nn376 j379_47 hj379_47) _ ?_
  refine own_go Hs5 hx hZ hown hby hw own_K0_ok (own_s15 a1 i1 a2 i2 sh md v1 v11 v24 v37 j138_16 j138_18 j138_20 j138_22 j138_24 j152_25 j166_27 j180_29 j194_31 j208_33 j222_35 j236_37 j250_39 x y r v339 j379_47 v383 hv383 t392_0 ht392_0) _ ?_
  exact q
set_option maxRecDepth 65536 in
set_option maxHeartbeats 40000000 in
theorem own_comes {Post : Tables → Env → Array Value → State → Outcome → State → Prop} (hpost : ∀ tb e args s v u, (limb_1_1.after args s (.returned v) u = true ∧ limb_1_2.after args s (.returned v) u = true ∧ True) → FrameEnd s (.returned v) u (Jvm.fieldLocs frame_1_writes args s ++ Jvm.arrayLocs frame_1_arrays args s ++ Jvm.staticLocs frame_1_statics s) 16 128 → Post tb e args s (.returned v) u) :
    ArmFor flags0 classFile x code maxLocals ret World_1 tables_1 room_1 Calls_1 rest_1 Pre_1 Post := by
  intro l hfl _ _ p e ha hc hk s m args below hf hA hF happ hP
  obtain ⟨hcalls, hrest, hpre⟩ := hP
  obtain ⟨-, -, -, hnamed, -, -, -, hat⟩ := (Spec.applies_iff hf).mp happ
  obtain ⟨hg, hn⟩ := and_e (Cond.before_iff.mp (show (Jvm.Cond.and given_1 narrow_1).before args s = true from hpre))
  obtain ⟨h1, g0⟩ := and_e hg
  obtain ⟨w0, w1, w2, w3, w4, w5, rfl⟩ : ∃ w0 w1 w2 w3 w4 w5 : Value, args = #[w0, w1, w2, w3, w4, w5] := by
    have hs : args.size = 6 := by simpa [Cond.value, given_1] using h1
    obtain ⟨L⟩ := args
    match L, hs with
    | [w0, w1, w2, w3, w4, w5], _ => exact ⟨w0, w1, w2, w3, w4, w5, rfl⟩
  have hw := fun d (hd : d ∈ tables_1) => atoms_spec (ws := Jvm.Cond.code x code maxLocals ret :: tables_1) hat d (List.mem_cons_of_mem _ hd)
  have hfit : Fit s := fun {y c} hc i hi => by
    obtain ⟨ha, rfl⟩ := Array.getElem?_eq_some_iff.mp hc
    have q := List.all_eq_true.mp ((Array.all_eq_true_iff_forall_mem.mp hF) _ (Array.getElem_mem ha)) i (List.mem_range.mpr hi)
    simpa [Array.getElem?_eq_getElem hi] using q
  obtain ⟨f0, g1⟩ := and_e g0
  obtain ⟨i0, e0⟩ := is_v f0
  obtain rfl : w0 = (.int i0) := Option.some.inj e0
  obtain ⟨f1, g2⟩ := and_e g1
  obtain ⟨i1, e1⟩ := isL_v f1
  obtain rfl : w1 = (.long i1) := Option.some.inj e1
  obtain ⟨f2, g3⟩ := and_e g2
  obtain ⟨i2, e2⟩ := is_v f2
  obtain rfl : w2 = (.int i2) := Option.some.inj e2
  obtain ⟨f3, g4⟩ := and_e g3
  obtain ⟨i3, e3⟩ := isL_v f3
  obtain rfl : w3 = (.long i3) := Option.some.inj e3
  obtain ⟨f4, g5⟩ := and_e g4
  obtain ⟨i4, e4⟩ := is_v f4
  obtain rfl : w4 = (.int i4) := Option.some.inj e4
  obtain ⟨i5, e5⟩ := is_v g5
  obtain rfl : w5 = (.int i5) := Option.some.inj e5
  obtain ⟨n, o, h1, h2, h3, _, L, rfl, ⟨N, cs', rfl, -⟩, hq⟩ := own_law l s _ s.heap hw i0 i1 i2 i3 i4 i5  s.heap (own_Hp_start s _ s.heap) p e ha hc hk s m _ below hf ((Spec.applies_iff_loose hf).mp happ).1 ⟨rfl, State.Warmed39.refl s, rfl⟩ trivial
  refine ⟨n, _, h1, h2, h3, hpost _ _ _ _ _ _ ⟨Cond.after_iff.mpr rfl, Cond.after_iff.mpr (eq_i res_at (Term.int_eval (1)) rfl), trivial⟩ ⟨hq.1, hq.2.1, (hq.2.2.sift fun y hy => Or.inr (N y hy)).mono (by decide) (by decide)⟩⟩
theorem main_1_1 : Claimed_1_1 := own_comes fun _ _ _ _ _ _ h hF => ⟨h.1, hF⟩
theorem main_1_2 : Claimed_1_2 := own_comes fun _ _ _ _ _ _ h hF => ⟨h.2.1, hF⟩
end OwnClaim
end Jvm.Pilot.@@N@@
namespace Jvm.Pilot.@@N@@
open Jvm Jvm.ClassFile Sem Op Lib Jvm.Free Jvm.Stand Jvm.Pilot.@@N@@.Jvm.D
/-! MADE BY PROGRAM (witnessworld.py) out of the Statement's table words and the real class files: 15 classes; the members and pool entries that the words name. The judged class is class 1, her method 1. -/
namespace start1
open Jvm.ClassFile
def u (s : String) : CpInfo := .utf8 (stringToUtf16 s)
/-- a pool by its gaps: so many unusable entries, then the entry; so many at the end -/
def gap : Nat → List CpInfo → List CpInfo
  | 0, r => r
  | n + 1, r => .unusable :: gap n r
def poolList (es : List (Nat × CpInfo)) (last : Nat) : List CpInfo := es.foldr (fun e r => gap e.1 (e.2 :: r)) (gap last [])
def pool (es : List (Nat × CpInfo)) (last : Nat) : Array CpInfo := ⟨poolList es last⟩
def fileOf (pool : Array CpInfo) (this : Nat) (attrs : Array Attribute := #[]) (ms : Array MethodInfo := #[]) (fl : Nat := 33) (sup : Nat := 0) (ifs : Array Nat := #[]) (fds : Array FieldInfo := #[]) : ClassFile where
  minorVersion := 0
  majorVersion := 65
  constantPool := pool
  accessFlags := fl
  thisClass := this
  superClass := sup
  interfaces := ifs
  fields := fds
  methods := ms
  attributes := attrs
def plain (name : String) (sup : Option ClassId) : Class where
  name := name
  kind := .ordinary
  loader := none
  accessFlags := 33
  super := sup
  interfaces := #[]
  cf := none
  fields := #[]
  methods := #[]
  instanceTypes := #[]
  staticTypes := #[]
  resolved := #[]
  callSites := []
  init := .initialized
  statics := none
  mirror := none

def pool0 : Array CpInfo := pool [(5, u "<init>"), (0, u "()V"), (1, .class_ 10), (1, u "java/lang/Object")] 113

def k0c0 : Code := { maxStack := 0, maxLocals := 1, code := object_method_1_code, exceptionTable := #[], attributes := #[] }
def k0m0 : Method := { name := "<init>", desc := "()V", sig := { parameters := [], returnType := none }, accessFlags := 1, code := some k0c0 }
/-- java/lang/Object -/
def k0 : Class := { plain "java/lang/Object" none with
  accessFlags := 33
  interfaces := #[]
  cf := some (fileOf pool0 8 #[] #[{ accessFlags := 1, nameIndex := 5, descriptorIndex := 6, attributes := #[] }] 33 0 #[] #[])
  fields := #[]
  methods := #[k0m0]
  instanceTypes := #[]
  staticTypes := #[]
  resolved := Array.replicate 124 none
  statics := none }

def pool1 : Array CpInfo := pool [(2, .class_ 4), (1, u "java/lang/Object"), (0, u "<init>"), (0, u "()V"), (0, .long 2097151), (1, .long 2147483647), (1, .class_ 12), (0, u "com/example/hazeline/hazeline/fuzzy/Trapezoid"), (0, .methodref 11 14), (0, .nameAndType 5 15), (0, u "(DDDD)V"), (0, .methodref 11 17), (0, .nameAndType 18 19), (0, u "rankingDifference"), (0, u "(Lcom/example/hazeline/hazeline/fuzzy/Trapezoid;)D"), (0, .long 5), (1, .double 4622945017495814144), (1, .double 4611686018427387904), (1, .class_ 27), (0, u "com/example/hazeline/hazeline/fuzzy/TrapezoidRankingDifferencePinLaw"), (2, u "law"), (0, u "(IJIJII)Z")] 3

def k1m0 : Method := { name := "<init>", desc := "()V", sig := { parameters := [], returnType := none }, accessFlags := 1, code := none }
def k1c1 : Code := { maxStack := 10, maxLocals := 49, code := code, exceptionTable := #[], attributes := #[] }
def k1m1 : Method := { name := "law", desc := "(IJIJII)Z", sig := { parameters := [.int, .long, .int, .long, .int, .int], returnType := some .boolean }, accessFlags := 9, code := some k1c1 }
/-- com/example/hazeline/hazeline/fuzzy/TrapezoidRankingDifferencePinLaw -/
def k1 : Class := { plain "com/example/hazeline/hazeline/fuzzy/TrapezoidRankingDifferencePinLaw" (some 0) with
  accessFlags := 49
  interfaces := #[]
  cf := some (fileOf pool1 26 #[] #[{ accessFlags := 1, nameIndex := 5, descriptorIndex := 6, attributes := #[] }, { accessFlags := 9, nameIndex := 30, descriptorIndex := 31, attributes := #[] }] 49 2 #[] #[])
  fields := #[]
  methods := #[k1m0, k1m1]
  instanceTypes := #[]
  staticTypes := #[]
  resolved := Array.replicate 35 none
  statics := none }

def pool2 : Array CpInfo := pool [(1, .methodref 2 3), (0, .class_ 4), (0, .nameAndType 5 6), (0, u "java/lang/Object"), (0, u "<init>"), (0, u "()V"), (0, .methodref 8 9), (0, .class_ 10), (0, .nameAndType 11 12), (0, u "java/lang/Double"), (0, u "isFinite"), (0, u "(D)Z"), (3, .class_ 18), (1, u "com/example/hazeline/hazeline/fuzzy/Trapezoid"), (10, .fieldref 16 30), (0, .nameAndType 31 32), (0, u "a"), (0, u "D"), (0, .fieldref 16 34), (0, .nameAndType 35 32), (0, u "b"), (0, .fieldref 16 37), (0, .nameAndType 38 32), (0, u "c"), (0, .fieldref 16 40), (0, .nameAndType 41 32), (0, u "d"), (1, .class_ 45), (1, u "com/example/hazeline/hazeline/fuzzy/Trapezoid$1"), (15, u "(DDDD)V"), (6, .methodref 16 69), (0, .nameAndType 70 71), (0, u "weightedSum"), (0, u "()D"), (0, .double 4622945017495814144), (1, .double 4611686018427387904), (1, .double 4617315517961601024), (19, u "ZERO"), (0, u "Lcom/example/hazeline/hazeline/fuzzy/Trapezoid;"), (5, u "BY_MAGNITUDE"), (0, u "Ljava/util/Comparator;"), (10, u "rankingDifference"), (0, u "(Lcom/example/hazeline/hazeline/fuzzy/Trapezoid;)D")] 45

def k2c0 : Code := { maxStack := 10, maxLocals := 9, code := prog_5_method_1_code, exceptionTable := #[], attributes := #[] }
def k2m0 : Method := { name := "<init>", desc := "(DDDD)V", sig := { parameters := [.double, .double, .double, .double], returnType := none }, accessFlags := 1, code := some k2c0 }
def k2c1 : Code := { maxStack := 6, maxLocals := 4, code := prog_5_method_10_code, exceptionTable := #[], attributes := #[] }
def k2m1 : Method := { name := "rankingDifference", desc := "(Lcom/example/hazeline/hazeline/fuzzy/Trapezoid;)D", sig := { parameters := [(.object "com/example/hazeline/hazeline/fuzzy/Trapezoid")], returnType := some .double }, accessFlags := 1, code := some k2c1 }
def k2c2 : Code := { maxStack := 6, maxLocals := 1, code := prog_5_method_12_code, exceptionTable := #[], attributes := #[] }
def k2m2 : Method := { name := "weightedSum", desc := "()D", sig := { parameters := [], returnType := some .double }, accessFlags := 2, code := some k2c2 }
/-- com/example/hazeline/hazeline/fuzzy/Trapezoid -/
def k2 : Class := { plain "com/example/hazeline/hazeline/fuzzy/Trapezoid" (some 0) with
  accessFlags := 49
  interfaces := #[]
  cf := some (fileOf pool2 16 #[.nestMembers #[43]] #[{ accessFlags := 1, nameIndex := 5, descriptorIndex := 61, attributes := #[] }, { accessFlags := 1, nameIndex := 115, descriptorIndex := 116, attributes := #[] }, { accessFlags := 2, nameIndex := 70, descriptorIndex := 71, attributes := #[] }] 49 2 #[] #[{ accessFlags := 25, nameIndex := 96, descriptorIndex := 97, attributes := #[] }, { accessFlags := 25, nameIndex := 103, descriptorIndex := 104, attributes := #[] }, { accessFlags := 18, nameIndex := 31, descriptorIndex := 32, attributes := #[] }, { accessFlags := 18, nameIndex := 35, descriptorIndex := 32, attributes := #[] }, { accessFlags := 18, nameIndex := 38, descriptorIndex := 32, attributes := #[] }, { accessFlags := 18, nameIndex := 41, descriptorIndex := 32, attributes := #[] }])
  fields := #[{ name := "ZERO", type := (.object "com/example/hazeline/hazeline/fuzzy/Trapezoid"), accessFlags := 25, slot := 0, constantValue := 0 }, { name := "BY_MAGNITUDE", type := (.object "java/util/Comparator"), accessFlags := 25, slot := 1, constantValue := 0 }, { name := "a", type := .double, accessFlags := 18, slot := 0, constantValue := 0 }, { name := "b", type := .double, accessFlags := 18, slot := 1, constantValue := 0 }, { name := "c", type := .double, accessFlags := 18, slot := 2, constantValue := 0 }, { name := "d", type := .double, accessFlags := 18, slot := 3, constantValue := 0 }]
  methods := #[k2m0, k2m1, k2m2]
  instanceTypes := #[.double, .double, .double, .double]
  staticTypes := #[(.object "com/example/hazeline/hazeline/fuzzy/Trapezoid"), (.object "java/util/Comparator")]
  resolved := Array.replicate 162 none
  statics := none }

def pool3 : Array CpInfo := pool [(1, .class_ 2), (0, u "java/io/Serializable"), (0, .class_ 4), (0, u "java/lang/Object")] 2

/-- java/io/Serializable -/
def k3 : Class := { plain "java/io/Serializable" (some 0) with
  accessFlags := 1537
  interfaces := #[]
  cf := some (fileOf pool3 1 #[] #[] 1537 3 #[] #[])
  fields := #[]
  methods := #[]
  instanceTypes := #[]
  staticTypes := #[]
  resolved := Array.replicate 7 none
  statics := none }

def pool4 : Array CpInfo := pool [(2, .class_ 4), (1, u "java/lang/Object"), (0, u "<init>"), (0, u "()V"), (1, .class_ 10), (1, u "java/lang/Number"), (2, .class_ 14), (0, u "java/io/Serializable"), (0, u "serialVersionUID"), (0, u "J")] 20

def k4m0 : Method := { name := "<init>", desc := "()V", sig := { parameters := [], returnType := none }, accessFlags := 1, code := none }
/-- java/lang/Number -/
def k4 : Class := { plain "java/lang/Number" (some 0) with
  accessFlags := 1057
  interfaces := #[3]
  cf := some (fileOf pool4 8 #[] #[{ accessFlags := 1, nameIndex := 5, descriptorIndex := 6, attributes := #[] }] 1057 2 #[13] #[{ accessFlags := 26, nameIndex := 15, descriptorIndex := 16, attributes := #[] }])
  fields := #[{ name := "serialVersionUID", type := .long, accessFlags := 26, slot := 0, constantValue := 0 }]
  methods := #[k4m0]
  instanceTypes := #[]
  staticTypes := #[.long]
  resolved := Array.replicate 37 none
  statics := none }

def pool5 : Array CpInfo := pool [(1, .class_ 2), (0, u "java/lang/Comparable"), (0, .class_ 4), (0, u "java/lang/Object")] 7

/-- java/lang/Comparable -/
def k5 : Class := { plain "java/lang/Comparable" (some 0) with
  accessFlags := 1537
  interfaces := #[]
  cf := some (fileOf pool5 1 #[] #[] 1537 3 #[] #[])
  fields := #[]
  methods := #[]
  instanceTypes := #[]
  staticTypes := #[]
  resolved := Array.replicate 12 none
  statics := none }

def pool6 : Array CpInfo := pool [(1, .class_ 2), (0, u "java/lang/constant/Constable"), (0, .class_ 4), (0, u "java/lang/Object")] 6

/-- java/lang/constant/Constable -/
def k6 : Class := { plain "java/lang/constant/Constable" (some 0) with
  accessFlags := 1537
  interfaces := #[]
  cf := some (fileOf pool6 1 #[] #[] 1537 3 #[] #[])
  fields := #[]
  methods := #[]
  instanceTypes := #[]
  staticTypes := #[]
  resolved := Array.replicate 11 none
  statics := none }

def pool7 : Array CpInfo := pool [(1, .class_ 2), (0, u "java/lang/constant/ConstantDesc"), (0, .class_ 4), (0, u "java/lang/Object")] 32

/-- java/lang/constant/ConstantDesc -/
def k7 : Class := { plain "java/lang/constant/ConstantDesc" (some 0) with
  accessFlags := 1537
  interfaces := #[]
  cf := some (fileOf pool7 1 #[] #[] 1537 3 #[] #[])
  fields := #[]
  methods := #[]
  instanceTypes := #[]
  staticTypes := #[]
  resolved := Array.replicate 37 none
  statics := none }

def pool8 : Array CpInfo := pool [(1, .class_ 2), (0, u "java/lang/Double"), (10, u "isFinite"), (0, u "(D)Z"), (8, .class_ 25), (1, u "java/lang/Math"), (12, .methodref 23 39), (0, .nameAndType 40 41), (0, u "abs"), (0, u "(D)D"), (69, .double 9218868437227405311), (2, .class_ 116), (1, u "java/lang/Number"), (3, u "value"), (0, u "D"), (51, u "TYPE"), (0, u "Ljava/lang/Class;"), (0, .class_ 176), (0, u "java/lang/Comparable"), (0, .class_ 178), (0, u "java/lang/constant/Constable"), (0, .class_ 180), (0, u "java/lang/constant/ConstantDesc"), (0, u "POSITIVE_INFINITY"), (3, u "NEGATIVE_INFINITY"), (2, u "NaN"), (2, u "MAX_VALUE"), (0, u "MIN_NORMAL"), (0, u "MIN_VALUE"), (2, u "SIZE"), (0, u "I"), (1, u "PRECISION"), (1, u "MAX_EXPONENT"), (1, u "MIN_EXPONENT"), (1, u "BYTES"), (3, u "serialVersionUID"), (0, u "J")] 79

def k8c0 : Code := { maxStack := 4, maxLocals := 2, code := jdk_117_method_8_code, exceptionTable := #[], attributes := #[] }
def k8m0 : Method := { name := "isFinite", desc := "(D)Z", sig := { parameters := [.double], returnType := some .boolean }, accessFlags := 9, code := some k8c0 }
/-- java/lang/Double -/
def k8 : Class := { plain "java/lang/Double" (some 4) with
  accessFlags := 49
  interfaces := #[5, 6, 7]
  cf := some (fileOf pool8 1 #[] #[{ accessFlags := 9, nameIndex := 13, descriptorIndex := 14, attributes := #[] }] 49 114 #[175, 177, 179] #[{ accessFlags := 25, nameIndex := 181, descriptorIndex := 121, attributes := #[] }, { accessFlags := 25, nameIndex := 185, descriptorIndex := 121, attributes := #[] }, { accessFlags := 25, nameIndex := 188, descriptorIndex := 121, attributes := #[] }, { accessFlags := 25, nameIndex := 191, descriptorIndex := 121, attributes := #[] }, { accessFlags := 25, nameIndex := 192, descriptorIndex := 121, attributes := #[] }, { accessFlags := 25, nameIndex := 193, descriptorIndex := 121, attributes := #[] }, { accessFlags := 25, nameIndex := 196, descriptorIndex := 197, attributes := #[] }, { accessFlags := 25, nameIndex := 199, descriptorIndex := 197, attributes := #[] }, { accessFlags := 25, nameIndex := 201, descriptorIndex := 197, attributes := #[] }, { accessFlags := 25, nameIndex := 203, descriptorIndex := 197, attributes := #[] }, { accessFlags := 25, nameIndex := 205, descriptorIndex := 197, attributes := #[] }, { accessFlags := 25, nameIndex := 173, descriptorIndex := 174, attributes := #[] }, { accessFlags := 18, nameIndex := 120, descriptorIndex := 121, attributes := #[] }, { accessFlags := 26, nameIndex := 209, descriptorIndex := 210, attributes := #[] }])
  fields := #[{ name := "POSITIVE_INFINITY", type := .double, accessFlags := 25, slot := 0, constantValue := 0 }, { name := "NEGATIVE_INFINITY", type := .double, accessFlags := 25, slot := 1, constantValue := 0 }, { name := "NaN", type := .double, accessFlags := 25, slot := 2, constantValue := 0 }, { name := "MAX_VALUE", type := .double, accessFlags := 25, slot := 3, constantValue := 0 }, { name := "MIN_NORMAL", type := .double, accessFlags := 25, slot := 4, constantValue := 0 }, { name := "MIN_VALUE", type := .double, accessFlags := 25, slot := 5, constantValue := 0 }, { name := "SIZE", type := .int, accessFlags := 25, slot := 6, constantValue := 0 }, { name := "PRECISION", type := .int, accessFlags := 25, slot := 7, constantValue := 0 }, { name := "MAX_EXPONENT", type := .int, accessFlags := 25, slot := 8, constantValue := 0 }, { name := "MIN_EXPONENT", type := .int, accessFlags := 25, slot := 9, constantValue := 0 }, { name := "BYTES", type := .int, accessFlags := 25, slot := 10, constantValue := 0 }, { name := "TYPE", type := (.object "java/lang/Class"), accessFlags := 25, slot := 11, constantValue := 0 }, { name := "value", type := .double, accessFlags := 18, slot := 0, constantValue := 0 }, { name := "serialVersionUID", type := .long, accessFlags := 26, slot := 12, constantValue := 0 }]
  methods := #[k8m0]
  instanceTypes := #[.double]
  staticTypes := #[.double, .double, .double, .double, .double, .double, .int, .int, .int, .int, .int, (.object "java/lang/Class"), .long]
  resolved := Array.replicate 290 none
  statics := none }

def pool9 : Array CpInfo := pool [(1, .class_ 2), (0, u "java/lang/Math"), (1, .class_ 6), (1, u "java/lang/Object"), (0, u "<init>"), (0, u "()V"), (5, u "(D)D"), (83, .class_ 100), (1, u "java/lang/Math$RandomNumberGeneratorHolder"), (23, u "abs"), (47, u "negativeZeroFloatBits"), (0, u "J"), (2, u "negativeZeroDoubleBits"), (68, u "$assertionsDisabled"), (0, u "Z"), (91, u "twoToTheDoubleScaleDown"), (0, u "D"), (4, u "twoToTheDoubleScaleUp"), (9, u "E"), (3, u "PI"), (2, u "TAU"), (2, u "DEGREES_TO_RADIANS"), (0, u "RADIANS_TO_DEGREES")] 94

def k9m0 : Method := { name := "<init>", desc := "()V", sig := { parameters := [], returnType := none }, accessFlags := 2, code := none }
def k9c1 : Code := { maxStack := 4, maxLocals := 2, code := jdk_29_method_64_code, exceptionTable := #[], attributes := #[] }
def k9m1 : Method := { name := "abs", desc := "(D)D", sig := { parameters := [.double], returnType := some .double }, accessFlags := 9, code := some k9c1 }
/-- java/lang/Math -/
def k9 : Class := { plain "java/lang/Math" (some 0) with
  accessFlags := 49
  interfaces := #[]
  cf := some (fileOf pool9 1 #[.nestMembers #[98]] #[{ accessFlags := 2, nameIndex := 7, descriptorIndex := 8, attributes := #[] }, { accessFlags := 9, nameIndex := 124, descriptorIndex := 14, attributes := #[] }] 49 4 #[] #[{ accessFlags := 25, nameIndex := 354, descriptorIndex := 339, attributes := #[] }, { accessFlags := 25, nameIndex := 358, descriptorIndex := 339, attributes := #[] }, { accessFlags := 25, nameIndex := 361, descriptorIndex := 339, attributes := #[] }, { accessFlags := 26, nameIndex := 364, descriptorIndex := 339, attributes := #[] }, { accessFlags := 26, nameIndex := 365, descriptorIndex := 339, attributes := #[] }, { accessFlags := 26, nameIndex := 172, descriptorIndex := 173, attributes := #[] }, { accessFlags := 26, nameIndex := 176, descriptorIndex := 173, attributes := #[] }, { accessFlags := 8, nameIndex := 344, descriptorIndex := 339, attributes := #[] }, { accessFlags := 8, nameIndex := 338, descriptorIndex := 339, attributes := #[] }, { accessFlags := 4120, nameIndex := 245, descriptorIndex := 246, attributes := #[] }])
  fields := #[{ name := "E", type := .double, accessFlags := 25, slot := 0, constantValue := 0 }, { name := "PI", type := .double, accessFlags := 25, slot := 1, constantValue := 0 }, { name := "TAU", type := .double, accessFlags := 25, slot := 2, constantValue := 0 }, { name := "DEGREES_TO_RADIANS", type := .double, accessFlags := 26, slot := 3, constantValue := 0 }, { name := "RADIANS_TO_DEGREES", type := .double, accessFlags := 26, slot := 4, constantValue := 0 }, { name := "negativeZeroFloatBits", type := .long, accessFlags := 26, slot := 5, constantValue := 0 }, { name := "negativeZeroDoubleBits", type := .long, accessFlags := 26, slot := 6, constantValue := 0 }, { name := "twoToTheDoubleScaleUp", type := .double, accessFlags := 8, slot := 7, constantValue := 0 }, { name := "twoToTheDoubleScaleDown", type := .double, accessFlags := 8, slot := 8, constantValue := 0 }, { name := "$assertionsDisabled", type := .boolean, accessFlags := 4120, slot := 9, constantValue := 0 }]
  methods := #[k9m0, k9m1]
  instanceTypes := #[]
  staticTypes := #[.double, .double, .double, .double, .double, .long, .long, .double, .double, .boolean]
  resolved := Array.replicate 460 none
  statics := none }

def pool10 : Array CpInfo := pool [(1, u "java/lang/Cloneable"), (0, .class_ 1), (0, u "java/lang/Object"), (0, .class_ 3)] 3

/-- java/lang/Cloneable -/
def k10 : Class := { plain "java/lang/Cloneable" (some 0) with
  accessFlags := 1537
  interfaces := #[]
  cf := some (fileOf pool10 2 #[] #[] 1537 4 #[] #[])
  fields := #[]
  methods := #[]
  instanceTypes := #[]
  staticTypes := #[]
  resolved := Array.replicate 8 none
  statics := none }

/-- the primitive byte -/
def k11 : Class := { plain "byte" none with kind := .primitive 'B', accessFlags := 0x411 }
/-- [B -/
def k12 : Class := { plain "[B" (some 0) with kind := .array 11 .byte, interfaces := #[10, 3], accessFlags := 1041 }

/-- the primitive int -/
def k13 : Class := { plain "int" none with kind := .primitive 'I', accessFlags := 0x411 }
/-- [I -/
def k14 : Class := { plain "[I" (some 0) with kind := .array 13 .int, interfaces := #[10, 3], accessFlags := 1041 }

def heap : Heap := #[]
def classes : Array Class := #[k0, k1, k2, k3, k4, k5, k6, k7, k8, k9, k10, k11, k12, k13, k14]
def interned : List (Array UInt16 × Addr) := []
def slotsUsed : Nat := 0
def theMethod : MethodId := ⟨1, 1⟩
def args0 : Array Value := #[.int 5, .long 7, .int 1, .long 2, .int 3, .int 4]
def aboutOver (below : List Frame) : State where
  vm := { classes := classes, interned := interned.toArray }
  heap := heap
  slotsUsed := slotsUsed
  threads := #[{ frames := .invoking theMethod args0 :: below }]
def below0 : List Frame := [.native { method := ⟨0, 0⟩, args := #[] }]
def about1 : State := aboutOver below0
def p0 : Program := .bare "" "" ""
def e0 : Env := launch0.env 0 0 0
theorem w_frames : about1.frames = Frame.invoking theMethod args0 :: below0 := rfl
set_option maxRecDepth 65536 in
theorem w_args : argsFit about1.vm theMethod args0 = true := by decide +kernel
set_option maxRecDepth 65536 in
theorem w_heap : heapFits about1 = true := by decide +kernel
set_option maxRecDepth 65536 in
theorem w_runnable : about1.curStatus? = some .runnable := by decide +kernel
set_option maxRecDepth 65536 in
theorem w_alone : about1.alone = true := by decide +kernel
set_option maxRecDepth 65536 in
theorem w_named : about1.methodNamed? x = some theMethod := by decide +kernel
set_option maxRecDepth 65536 in
theorem w_hears : about1.hears theMethod below0 = true := by decide +kernel
set_option maxRecDepth 65536 in
theorem w_ripe : about1.ripe theMethod args0 below0 = true := by decide +kernel
theorem w_running : about1.status = .running := rfl
set_option maxRecDepth 65536 in
theorem w_room : about1.hasRoom e0.platform room_1 = true :=
  launch0.hasRoom_least _ room_1 (by decide +kernel) (by decide +kernel) (by decide +kernel) (by decide +kernel) (by decide +kernel) (by decide +kernel)
theorem allAtoms_all (ts : List Jvm.Cond) (a : Array Jvm.Value) (st : Jvm.State) : (allAtoms ts).before a st = ts.all (fun c => c.before a st) := by
  induction ts with
  | nil => rfl
  | cons c t ih =>
    show (Jvm.Cond.and c (allAtoms t)).before a st = _
    rw [Jvm.Cond.before_and, ih, List.all_cons]
def words1 : List Jvm.Cond := Jvm.Cond.code x code maxLocals ret :: tables_1
/-- a 'code' word, met by the world's own term for the bytes: nothing is compared byte by byte -/
theorem code_word {y : MethodName} {bytes : ByteArray} {mx : Nat} {rt : Option FieldType} {a : Array Value} {s : State} {m : MethodId} {meth : Method} {c : Code} (h1 : s.methodNamed? y = some m) (h2 : s.vm.method? m = some meth) (h3 : meth.code = some c) (h4 : c.code = bytes)
    (h5 : (c.maxLocals == mx && c.exceptionTable.isEmpty && decide (c.maxStack ≤ mostOperands) && decide (meth.sig.returnType = rt) && !meth.locks && decide (parseMethodDescriptor y.desc = some meth.sig)) = true) : (Jvm.Cond.code y bytes mx rt).before a s = true := by
  simp only [Bool.and_eq_true, beq_iff_eq, Bool.not_eq_true', decide_eq_true_eq] at h5
  obtain ⟨⟨⟨⟨⟨g1, g2⟩, g3⟩, g4⟩, g5⟩, g6⟩ := h5
  simp [Cond.before, Cond.holds, Cond.value, h1, h2, h3, h4, g1, g2, g3, g4, g5, g6]
def isCode : Jvm.Cond → Bool
  | .code _ _ _ _ => true
  | _ => false
theorem all_split {L : List Jvm.Cond} {P : Jvm.Cond → Bool} (h1 : L.all (fun c => isCode c || P c) = true) (h2 : ∀ c ∈ L.filter isCode, P c = true) : L.all P = true := by
  refine List.all_eq_true.mpr fun c hc => ?_
  have h := List.all_eq_true.mp h1 c hc
  rcases Bool.eq_false_or_eq_true (isCode c) with hi | hi
  · exact h2 c (List.mem_filter.mpr ⟨hc, hi⟩)
  · simpa [hi] using h
set_option maxRecDepth 65536 in
theorem w_c0 : (Jvm.Cond.code x code maxLocals ret).before args0 about1 = true := code_word (m := ⟨1, 1⟩) (meth := k1m1) (c := k1c1) (by decide +kernel) rfl rfl rfl (by decide +kernel)
set_option maxRecDepth 65536 in
theorem w_c1 : (Jvm.Cond.code ({ cls := "com/example/hazeline/hazeline/fuzzy/Trapezoid", name := "<init>", desc := "(DDDD)V" } : Jvm.MethodName) prog_5_method_1_code (9 : Nat) (Option.none : Option Jvm.ClassFile.FieldType)).before args0 about1 = true := code_word (m := ⟨2, 0⟩) (meth := k2m0) (c := k2c0) (by decide +kernel) rfl rfl rfl (by decide +kernel)
set_option maxRecDepth 65536 in
theorem w_c2 : (Jvm.Cond.code ({ cls := "java/lang/Object", name := "<init>", desc := "()V" } : Jvm.MethodName) object_method_1_code (1 : Nat) (Option.none : Option Jvm.ClassFile.FieldType)).before args0 about1 = true := code_word (m := ⟨0, 0⟩) (meth := k0m0) (c := k0c0) (by decide +kernel) rfl rfl rfl (by decide +kernel)
set_option maxRecDepth 65536 in
theorem w_c3 : (Jvm.Cond.code ({ cls := "java/lang/Double", name := "isFinite", desc := "(D)Z" } : Jvm.MethodName) jdk_117_method_8_code (2 : Nat) (Option.some Jvm.ClassFile.FieldType.boolean)).before args0 about1 = true := code_word (m := ⟨8, 0⟩) (meth := k8m0) (c := k8c0) (by decide +kernel) rfl rfl rfl (by decide +kernel)
set_option maxRecDepth 65536 in
theorem w_c4 : (Jvm.Cond.code ({ cls := "java/lang/Math", name := "abs", desc := "(D)D" } : Jvm.MethodName) jdk_29_method_64_code (2 : Nat) (Option.some Jvm.ClassFile.FieldType.double)).before args0 about1 = true := code_word (m := ⟨9, 1⟩) (meth := k9m1) (c := k9c1) (by decide +kernel) rfl rfl rfl (by decide +kernel)
set_option maxRecDepth 65536 in
theorem w_c5 : (Jvm.Cond.code ({ cls := "com/example/hazeline/hazeline/fuzzy/Trapezoid", name := "rankingDifference", desc := "(Lcom/example/hazeline/hazeline/fuzzy/Trapezoid;)D" } : Jvm.MethodName) prog_5_method_10_code (4 : Nat) (Option.some Jvm.ClassFile.FieldType.double)).before args0 about1 = true := code_word (m := ⟨2, 1⟩) (meth := k2m1) (c := k2c1) (by decide +kernel) rfl rfl rfl (by decide +kernel)
set_option maxRecDepth 65536 in
theorem w_c6 : (Jvm.Cond.code ({ cls := "com/example/hazeline/hazeline/fuzzy/Trapezoid", name := "weightedSum", desc := "()D" } : Jvm.MethodName) prog_5_method_12_code (1 : Nat) (Option.some Jvm.ClassFile.FieldType.double)).before args0 about1 = true := code_word (m := ⟨2, 2⟩) (meth := k2m2) (c := k2c2) (by decide +kernel) rfl rfl rfl (by decide +kernel)
def codes1 : List Jvm.Cond := [Jvm.Cond.code x code maxLocals ret, Jvm.Cond.code ({ cls := "com/example/hazeline/hazeline/fuzzy/Trapezoid", name := "<init>", desc := "(DDDD)V" } : Jvm.MethodName) prog_5_method_1_code (9 : Nat) (Option.none : Option Jvm.ClassFile.FieldType), Jvm.Cond.code ({ cls := "java/lang/Object", name := "<init>", desc := "()V" } : Jvm.MethodName) object_method_1_code (1 : Nat) (Option.none : Option Jvm.ClassFile.FieldType), Jvm.Cond.code ({ cls := "java/lang/Double", name := "isFinite", desc := "(D)Z" } : Jvm.MethodName) jdk_117_method_8_code (2 : Nat) (Option.some Jvm.ClassFile.FieldType.boolean), Jvm.Cond.code ({ cls := "java/lang/Math", name := "abs", desc := "(D)D" } : Jvm.MethodName) jdk_29_method_64_code (2 : Nat) (Option.some Jvm.ClassFile.FieldType.double), Jvm.Cond.code ({ cls := "com/example/hazeline/hazeline/fuzzy/Trapezoid", name := "rankingDifference", desc := "(Lcom/example/hazeline/hazeline/fuzzy/Trapezoid;)D" } : Jvm.MethodName) prog_5_method_10_code (4 : Nat) (Option.some Jvm.ClassFile.FieldType.double), Jvm.Cond.code ({ cls := "com/example/hazeline/hazeline/fuzzy/Trapezoid", name := "weightedSum", desc := "()D" } : Jvm.MethodName) prog_5_method_12_code (1 : Nat) (Option.some Jvm.ClassFile.FieldType.double)]
set_option maxRecDepth 65536 in
theorem codes_eq : words1.filter isCode = codes1 := rfl
theorem w_codes : ∀ c ∈ words1.filter isCode, c.before args0 about1 = true := by
  rw [codes_eq]
  intro c hc
  simp only [codes1, List.mem_cons, List.not_mem_nil, or_false] at hc
  rcases hc with rfl | rfl | rfl | rfl | rfl | rfl | rfl
  · exact w_c0
  · exact w_c1
  · exact w_c2
  · exact w_c3
  · exact w_c4
  · exact w_c5
  · exact w_c6
set_option maxRecDepth 65536 in
theorem w_t1 : (words1.take 24).all (fun c => isCode c || c.before args0 about1) = true := by decide +kernel
set_option maxRecDepth 65536 in
theorem w_t2 : (words1.drop 24).all (fun c => isCode c || c.before args0 about1) = true := by decide +kernel
theorem w_tables : (allAtoms (Jvm.Cond.code x code maxLocals ret :: tables_1)).before args0 about1 = true := by
  rw [allAtoms_all]
  show words1.all (fun c => c.before args0 about1) = true
  refine all_split ?_ w_codes
  rw [← List.take_append_drop 24 words1, List.all_append, w_t1, w_t2]
  rfl
set_option maxRecDepth 65536 in
theorem w_case : (Jvm.Cond.and given_1 narrow_1).before args0 about1 = true := by decide +kernel
theorem w_applies : (headSpec (Jvm.Cond.code x code maxLocals ret :: tables_1) room_1).applies x e0.platform about1 = true :=
  (Spec.applies_iff w_frames).mpr ⟨w_running, w_runnable, w_alone, w_named, w_hears, w_ripe, w_room, w_tables⟩
theorem atStart : AtStart classFile x code maxLocals ret World_1 tables_1 room_1 Calls_1 rest_1 Pre_1 launch0 p0 e0 about1 theMethod args0 below0 :=
  ⟨lists_1, trivial, launch0.admits_env _ _ _, launch0.least_env, fairChoices_fair.cas, fairChoices_fair.clock, w_frames, w_args, w_heap, w_applies, trivial, trivial, w_case⟩
end start1
theorem witness_1 : WitnessClaimed_1 := ⟨start1.p0, start1.e0, start1.about1, start1.theMethod, start1.args0, start1.below0, start1.atStart⟩
end Jvm.Pilot.@@N@@
