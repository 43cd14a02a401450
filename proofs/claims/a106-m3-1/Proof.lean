import JvmDerived
import JvmDerived.Pilot.@@N@@Statement
import JvmDerived.Pilot.@@N@@Code
set_option linter.unusedVariables false
set_option linter.unusedSimpArgs false
@@BLOCK:HandJ.lean.txt@@
@@BLOCK:SymMore.lean.txt@@
namespace Jvm.Pilot.@@N@@
/-! the number layer: own_is (a double is exactly that rational), own_rd (a double is that rational, rounded) -/
section OwnNum
open Jvm.FP.Core Jvm.Free.Fl
theorem own_inv1 : (1 : Rat)⁻¹ = 1 := Rat.inv_eq_of_mul_eq_one (Rat.mul_one 1)
theorem own_p_pos (q : Int) : (0 : Rat) < (2 : Rat) ^ q := Rat.zpow_pos (by decide)
theorem own_p_ne (q : Int) : (2 : Rat) ^ q ≠ 0 := Rat.ne_of_gt (own_p_pos q)
theorem own_p_add (a b : Int) : (2 : Rat) ^ (a + b) = 2 ^ a * 2 ^ b := Rat.zpow_add (by decide) a b
theorem own_p_nat (n : Nat) : ((2 ^ n : Nat) : Rat) = (2 : Rat) ^ (n : Int) := by rw [Rat.natCast_pow]; rfl
theorem own_p_toNat {a : Int} (h : 0 ≤ a) : ((2 ^ a.toNat : Nat) : Rat) = (2 : Rat) ^ a := by rw [own_p_nat, Int.toNat_of_nonneg h]
theorem own_p_neg (a : Int) : (2 : Rat) ^ a * 2 ^ (-a) = 1 := by rw [← own_p_add, Int.add_right_neg]; rfl
def own_is (x : UInt64) (r : Rat) : Prop := ∃ s c q, val64 x = .fin s c q ∧ r = ((signed s c : Int) : Rat) * (2 : Rat) ^ q
def own_rd (x : UInt64) (r : Rat) : Prop := ∃ s A B e, 0 < B ∧ val64 x = roundRatio b64 s A B e ∧ r = ((signed s A : Int) : Rat) / ((B : Nat) : Rat) * (2 : Rat) ^ e
theorem own_signed_cast (s : Bool) (c k : Nat) : ((signed s (c * k) : Int) : Rat) = ((signed s c : Int) : Rat) * ((k : Nat) : Rat) := by
  rw [signed_mul, Rat.intCast_mul]; rfl
theorem own_zmag {s : Bool} {c : Nat} {q : Int} (h : FP.Core.fits b64 (.fin s c q)) : ((zmag b64 (.fin s c q) : Nat) : Rat) = (c : Rat) * 2 ^ q * 2 ^ (1074 : Int) := by
  have h1 : b64.qmin ≤ q := h.2.1
  rw [qmin_b64] at h1
  show ((c * 2 ^ (q - b64.qmin).toNat : Nat) : Rat) = _
  rw [Rat.natCast_mul, own_p_toNat (by rw [qmin_b64]; omega), qmin_b64, show q - (-1074) = q + 1074 by omega, own_p_add, Rat.mul_assoc]
theorem own_zval {x : UInt64} {r : Rat} (h : own_is x r) : ((zval b64 (val64 x) : Int) : Rat) = r * 2 ^ (1074 : Int) := by
  obtain ⟨s, c, q, h1, rfl⟩ := h
  have hf := val64_fits x
  rw [h1] at hf ⊢
  have h2 := own_zmag hf
  show ((signed s (zmag b64 (.fin s c q)) : Int) : Rat) = _
  cases s
  · show ((zmag b64 (.fin false c q) : Nat) : Rat) = ((c : Nat) : Rat) * _ * _
    rw [h2]
  · show ((-(zmag b64 (.fin true c q) : Int) : Int) : Rat) = ((-(c : Int) : Int) : Rat) * _ * _
    rw [Rat.intCast_neg, Rat.intCast_neg, Rat.neg_mul, Rat.neg_mul]
    exact congrArg _ h2
theorem own_is_nn {x : UInt64} {r : Rat} (h : own_is x r) : val64 x ≠ .nan := by
  obtain ⟨s, c, q, h1, -⟩ := h; rw [h1]; exact Datum.noConfusion
theorem own_is_fin {x : UInt64} {r : Rat} (h : own_is x r) : Fin64 x := by
  obtain ⟨s, c, q, h1, -⟩ := h; exact fin64_core.mpr ⟨s, c, q, h1⟩
theorem own_is_no {x : UInt64} {r : Rat} (h : own_is x r) : NoNaN64 x := (own_is_fin h).noNaN
theorem own_lt_of {a b : Rat} (h : a < b) (q : Int) : a * 2 ^ q < b * 2 ^ q := Rat.mul_lt_mul_of_pos_right h (own_p_pos q)
theorem own_is_lt {x y : UInt64} {a b : Rat} (hx : own_is x a) (hy : own_is y b) : FP.dcmp x y = some .lt ↔ a < b := by
  rw [show FP.dcmp x y = FP.Core.dcmp x y from rfl, dcmp_lt]
  constructor
  · rintro ⟨-, -, h⟩
    have h2 := Rat.intCast_lt_intCast.mpr h
    rw [own_zval hx, own_zval hy] at h2
    exact Rat.lt_of_mul_lt_mul_right h2 (Rat.le_of_lt (own_p_pos _))
  · intro h
    refine ⟨own_is_nn hx, own_is_nn hy, Rat.intCast_lt_intCast.mp ?_⟩
    rw [own_zval hx, own_zval hy]
    exact own_lt_of h _
theorem own_is_gt {x y : UInt64} {a b : Rat} (hx : own_is x a) (hy : own_is y b) : FP.dcmp x y = some .gt ↔ b < a := by
  rw [← own_is_lt hy hx, show FP.dcmp x y = FP.Core.dcmp x y from rfl, show FP.dcmp y x = FP.Core.dcmp y x from rfl, dcmp_gt, dcmp_lt]
  exact ⟨fun ⟨h1, h2, h⟩ => ⟨h2, h1, h⟩, fun ⟨h1, h2, h⟩ => ⟨h2, h1, h⟩⟩
theorem own_is_eq {x y : UInt64} {a b : Rat} (hx : own_is x a) (hy : own_is y b) : FP.dcmp x y = some .eq ↔ a = b := by
  rw [show FP.dcmp x y = FP.Core.dcmp x y from rfl, dcmp_eq]
  constructor
  · rintro ⟨-, -, h⟩
    have h2 : ((zval b64 (val64 x) : Int) : Rat) = ((zval b64 (val64 y) : Int) : Rat) := by rw [h]
    rw [own_zval hx, own_zval hy] at h2
    have h3 := own_p_ne 1074
    calc a = a * 2 ^ (1074 : Int) / 2 ^ (1074 : Int) := (Rat.mul_div_cancel h3).symm
      _ = b * 2 ^ (1074 : Int) / 2 ^ (1074 : Int) := by rw [h2]
      _ = b := Rat.mul_div_cancel h3
  · rintro rfl
    exact ⟨own_is_nn hx, own_is_nn hy, Rat.intCast_inj.mp (by rw [own_zval hx, own_zval hy])⟩
theorem own_rd_of {x : UInt64} {r : Rat} (h : own_is x r) : own_rd x r := by
  obtain ⟨s, c, q, h1, rfl⟩ := h
  have hf := val64_fits x
  rw [h1] at hf
  refine ⟨s, c, 1, q, by decide, h1.trans (round_of_fits good_b64 hf).symm, ?_⟩
  rw [show (((1 : Nat) : Rat)) = 1 from rfl, Rat.div_def, own_inv1, Rat.mul_one]
theorem own_rd_nn {x : UInt64} {r : Rat} (h : own_rd x r) : val64 x ≠ .nan := by
  obtain ⟨s, A, B, e, -, h1, -⟩ := h; rw [h1]; exact roundRatio_ne_nan _ _ _ _ _
theorem own_rd_no {x : UInt64} {r : Rat} (h : own_rd x r) : NoNaN64 x := val64_no.mpr (own_rd_nn h)
/-- the magnitude of a ratio -/
theorem own_signed_zero {s : Bool} {A : Nat} : ((signed s A : Int) : Rat) = 0 ↔ A = 0 := by
  rw [Rat.intCast_eq_zero_iff, signed_eq_zero]
theorem own_ratio_zero {s : Bool} {A B : Nat} {e : Int} (hB : 0 < B) : ((signed s A : Int) : Rat) / ((B : Nat) : Rat) * (2 : Rat) ^ e = 0 ↔ A = 0 := by
  have hb : ((B : Nat) : Rat) ≠ 0 := by rw [Ne, Rat.natCast_eq_zero_iff]; omega
  constructor
  · intro h
    rcases Rat.mul_eq_zero.mp h with h | h
    · rw [Rat.div_def] at h
      rcases Rat.mul_eq_zero.mp h with h | h
      · exact own_signed_zero.mp h
      · exact absurd (by rw [← Rat.inv_inv ((B : Nat) : Rat), h, Rat.inv_zero]) hb
    · exact absurd h (own_p_ne e)
  · rintro rfl
    rw [own_signed_zero.mpr rfl, Rat.div_def, Rat.zero_mul, Rat.zero_mul]
end OwnNum
section OwnNum2
open Jvm.FP.Core Jvm.Free.Fl
theorem own_nat_pos {B : Nat} (h : 0 < B) : (0 : Rat) < ((B : Nat) : Rat) := Rat.natCast_pos.mpr h
theorem own_nat_ne {B : Nat} (h : 0 < B) : ((B : Nat) : Rat) ≠ 0 := Rat.ne_of_gt (own_nat_pos h)
theorem own_cross {a b a' b' P P' : Rat} (hb : b ≠ 0) (hb' : b' ≠ 0) (h : a / b * P = a' / b' * P') : a * b' * P = a' * b * P' := by
  have h1 : a = a / b * b := (Rat.div_mul_cancel hb).symm
  have h2 : a' = a' / b' * b' := (Rat.div_mul_cancel hb').symm
  generalize a / b = u at *
  generalize a' / b' = w at *
  subst h1 h2
  grind
theorem own_cancel {a b P : Rat} (hP : P ≠ 0) (h : a * P = b * P) : a = b := by
  rw [← Rat.mul_div_cancel (a := a) hP, h, Rat.mul_div_cancel hP]
theorem own_sig_eq {s s' : Bool} {X Y : Nat} (hX : 0 < X) (h : signed s X = signed s' Y) : s = s' ∧ X = Y := by
  cases s <;> cases s' <;> simp only [signed, Bool.false_eq_true, if_true, if_false] at h <;> first | exact ⟨rfl, by omega⟩ | omega
theorem own_ratio_le {s s' : Bool} {A B A' B' : Nat} {e e' : Int} (hB : 0 < B) (hB' : 0 < B') (hA : 0 < A) (hle : e' ≤ e)
    (h : ((signed s A : Int) : Rat) / ((B : Nat) : Rat) * (2 : Rat) ^ e = ((signed s' A' : Int) : Rat) / ((B' : Nat) : Rat) * (2 : Rat) ^ e') :
    s = s' ∧ A * B' * 2 ^ (e - e').toNat = A' * B := by
  have h1 := own_cross (own_nat_ne hB) (own_nat_ne hB') h
  have h2 : (2 : Rat) ^ e = 2 ^ (e - e') * 2 ^ e' := by rw [← own_p_add]; congr 1; omega
  rw [h2, ← Rat.mul_assoc] at h1
  have h3 := own_cancel (own_p_ne e') h1
  rw [← own_p_toNat (by omega), ← own_signed_cast, ← own_signed_cast, ← own_signed_cast, Rat.intCast_inj] at h3
  exact own_sig_eq (Nat.mul_pos (Nat.mul_pos hA hB') (Nat.two_pow_pos _)) h3
theorem own_ratio_eq {s s' : Bool} {A B A' B' : Nat} {e e' : Int} (hB : 0 < B) (hB' : 0 < B') (hA : 0 < A)
    (h : ((signed s A : Int) : Rat) / ((B : Nat) : Rat) * (2 : Rat) ^ e = ((signed s' A' : Int) : Rat) / ((B' : Nat) : Rat) * (2 : Rat) ^ e') :
    s = s' ∧ roundRatio b64 s A B e = roundRatio b64 s' A' B' e' := by
  have hA' : 0 < A' := by
    rcases Nat.eq_zero_or_pos A' with h0 | h0
    · rw [(own_ratio_zero hB').mpr h0, own_ratio_zero hB] at h; omega
    · exact h0
  rcases Int.le_total e' e with hle | hle
  · obtain ⟨rfl, h1⟩ := own_ratio_le hB hB' hA hle h
    refine ⟨rfl, roundRatio_congr hB hB' ?_⟩
    rw [h1, show (e' - e).toNat = 0 by omega]; simp
  · obtain ⟨rfl, h1⟩ := own_ratio_le hB' hB hA' hle h.symm
    refine ⟨rfl, (roundRatio_congr hB' hB ?_).symm⟩
    rw [h1, show (e - e').toNat = 0 by omega]; simp
theorem own_rd_uniq {x y : UInt64} {r : Rat} (hx : own_rd x r) (hy : own_rd y r) : FP.dcmp x y = some .eq := by
  obtain ⟨s, A, B, e, hB, hv, hr⟩ := hx
  obtain ⟨s', A', B', e', hB', hv', hr'⟩ := hy
  rcases Nat.eq_zero_or_pos A with hA | hA
  · have hA' : A' = 0 := by rw [← own_ratio_zero hB' (s := s') (e := e'), ← hr', hr]; exact (own_ratio_zero hB).mpr hA
    subst hA hA'
    rw [show FP.dcmp x y = FP.Core.dcmp x y from rfl, dcmp_eq, hv, hv']
    refine ⟨roundRatio_ne_nan _ _ _ _ _, roundRatio_ne_nan _ _ _ _ _, ?_⟩
    show zval b64 (.fin s 0 b64.qmin) = zval b64 (.fin s' 0 b64.qmin)
    cases s <;> cases s' <;> decide
  · obtain ⟨-, h1⟩ := own_ratio_eq hB hB' hA (hr.symm.trans hr')
    have h2 : val64 x ≠ .nan := by rw [hv]; exact roundRatio_ne_nan _ _ _ _ _
    have h3 : x = y := val64_inj h2 (by rw [hv, hv', h1])
    subst h3
    exact dcmp_refl ((notNaN_iff x).mpr h2)
/-- exact where the rational has 53 digits -/
theorem own_rd_exact {x : UInt64} {r : Rat} (h : own_rd x r) {m : Int} {k : Int} (hr : r = (m : Rat) * (2 : Rat) ^ k) (hm : m.natAbs < 2 ^ 53) (hk : -1074 ≤ k) (hk2 : k ≤ 971) : own_is x r := by
  obtain ⟨s, A, B, e, hB, hv, hr0⟩ := h
  have hcan : ∀ (t : Bool), ((signed t m.natAbs : Int) : Rat) * (2 : Rat) ^ k = r → roundRatio b64 s A B e = round b64 (.fin t m.natAbs k) → own_is x r := by
    intro t ht hq
    obtain ⟨c', q', h1, h2⟩ := round_exact good_b64 t (c := m.natAbs) (q := k) hm (by rw [qmin_b64]; exact hk) (by exact hk2)
    have hx : val64 x = .fin t c' q' := by rw [hv, hq, h1]
    refine ⟨t, c', q', hx, ?_⟩
    have hf := val64_fits x
    rw [hx] at hf
    have z1 := own_zmag hf
    have z2 : ((inUnits c' q' b64.qmin : Nat) : Rat) = ((m.natAbs : Nat) : Rat) * 2 ^ k * 2 ^ (1074 : Int) := by
      rw [h2]; unfold inUnits
      rw [Rat.natCast_mul, own_p_toNat (by rw [qmin_b64]; omega), qmin_b64, show k - (-1074) = k + 1074 by omega, own_p_add, Rat.mul_assoc]
    have z3 : (c' : Rat) * 2 ^ q' = ((m.natAbs : Nat) : Rat) * 2 ^ k := own_cancel (own_p_ne 1074) (z1.symm.trans z2)
    rw [← ht]
    cases t
    · exact z3.symm
    · show ((-(m.natAbs : Int) : Int) : Rat) * _ = ((-(c' : Int) : Int) : Rat) * _
      rw [Rat.intCast_neg, Rat.intCast_neg, Rat.neg_mul, Rat.neg_mul]
      exact congrArg _ z3.symm
  rcases Nat.eq_zero_or_pos A with hA | hA
  · have h0 : r = 0 := by rw [hr0]; exact (own_ratio_zero hB).mpr hA
    have hm0 : m = 0 := by
      rw [h0] at hr
      rcases Rat.mul_eq_zero.mp hr.symm with h1 | h1
      · exact Rat.intCast_eq_zero_iff.mp h1
      · exact absurd h1 (own_p_ne k)
    subst hm0 hA
    refine hcan s ?_ ?_
    · rw [h0]; cases s <;> simp [signed]
    · show Datum.fin s 0 b64.qmin = Datum.fin s 0 b64.qmin
      rfl
  · have h1 : ((signed s A : Int) : Rat) / ((B : Nat) : Rat) * (2 : Rat) ^ e = ((signed (decide (m < 0)) m.natAbs : Int) : Rat) / (((1 : Nat) : Nat) : Rat) * (2 : Rat) ^ k := by
      rw [← hr0, hr, show (((1 : Nat) : Rat)) = 1 from rfl, Rat.div_def, own_inv1, Rat.mul_one]
      congr 2
      unfold signed
      by_cases hmn : m < 0 <;> simp [hmn] <;> omega
    obtain ⟨-, h2⟩ := own_ratio_eq hB (by decide) hA h1
    refine hcan (decide (m < 0)) ?_ h2
    rw [hr]
    congr 2
    unfold signed
    by_cases hmn : m < 0 <;> simp [hmn] <;> omega
theorem own_add {x y : UInt64} {a b : Rat} (hx : own_is x a) (hy : own_is y b) : own_rd (FP.dadd x y) (a + b) := by
  obtain ⟨s, c, q, h1, rfl⟩ := hx
  obtain ⟨t, d, r, h2, rfl⟩ := hy
  refine ⟨_, _, 1, min q r, by decide, (val64_dadd x y).trans (by rw [h1, h2]; rfl), ?_⟩
  rw [signed_sumSign, show (((1 : Nat) : Rat)) = 1 from rfl, Rat.div_def, own_inv1, Rat.mul_one]
  unfold sumUnits inUnits
  rw [Rat.intCast_add, own_signed_cast, own_signed_cast, own_p_toNat (by omega), own_p_toNat (by omega), Rat.add_mul, Rat.mul_assoc, Rat.mul_assoc, ← own_p_add, ← own_p_add, show q - min q r + min q r = q by omega, show r - min q r + min q r = r by omega]
theorem own_neg {x : UInt64} {a : Rat} (hx : own_is x a) : own_is (FP.dneg x) (-a) := by
  obtain ⟨s, c, q, h1, rfl⟩ := hx
  refine ⟨!s, c, q, (FP.val64_dneg x).trans (by rw [h1]; rfl), ?_⟩
  rw [signed_not, Rat.intCast_neg, Rat.neg_mul]
theorem own_sub {x y : UInt64} {a b : Rat} (hx : own_is x a) (hy : own_is y b) : own_rd (FP.dsub x y) (a - b) := by
  have h : val64 (FP.dsub x y) = val64 (FP.dadd x (FP.dneg y)) := by
    rw [show val64 (FP.dsub x y) = _ from val64_dsub x y, show val64 (FP.dadd x (FP.dneg y)) = _ from val64_dadd x (FP.dneg y), FP.val64_dneg]
  obtain ⟨s, A, B, e, hB, hv, hr⟩ := own_add hx (own_neg hy)
  exact ⟨s, A, B, e, hB, h.trans hv, by rw [Rat.sub_eq_add_neg]; exact hr⟩
theorem own_mul {x y : UInt64} {a b : Rat} (hx : own_is x a) (hy : own_is y b) : own_rd (FP.dmul x y) (a * b) := by
  obtain ⟨s, c, q, h1, rfl⟩ := hx
  obtain ⟨t, d, r, h2, rfl⟩ := hy
  refine ⟨s != t, c * d, 1, q + r, by decide, (val64_dmul x y).trans (by rw [h1, h2]; rfl), ?_⟩
  rw [signed_xor, Rat.intCast_mul, own_p_add, show (((1 : Nat) : Rat)) = 1 from rfl, Rat.div_def, own_inv1, Rat.mul_one]
  grind
theorem own_div {x y : UInt64} {a b : Rat} (hx : own_is x a) (hy : own_is y b) (hb : b ≠ 0) : own_rd (FP.ddiv x y) (a / b) := by
  obtain ⟨s, c, q, h1, rfl⟩ := hx
  obtain ⟨t, d, r, h2, rfl⟩ := hy
  have hd : d ≠ 0 := by
    rintro rfl
    exact hb (by rw [own_signed_zero.mpr rfl, Rat.zero_mul])
  refine ⟨s != t, c, d, q - r, by omega, (val64_ddiv x y).trans (by rw [h1, h2]; show (if d = 0 then _ else _) = _; rw [if_neg hd]), ?_⟩
  have hd' : ((d : Nat) : Rat) ≠ 0 := own_nat_ne (by omega)
  have e1 : (2 : Rat) ^ q = 2 ^ (q - r) * 2 ^ r := by rw [← own_p_add]; congr 1; omega
  have e2 := own_p_ne r
  rw [e1]
  generalize (2 : Rat) ^ (q - r) = P
  generalize (2 : Rat) ^ r = W at *
  cases s <;> cases t <;> simp only [signed, Bool.false_eq_true, if_true, if_false, bne_self_eq_false, Rat.intCast_neg, Rat.intCast_natCast, Bool.bne_true, Bool.bne_false, Bool.not_false, Bool.not_true] <;> grind
theorem own_rdL (a : Int64) : own_rd (FP.l2d a) ((a.toInt : Int) : Rat) := by
  refine ⟨decide (a.toInt < 0), a.toInt.natAbs, 1, 0, by decide, val64_l2d a, ?_⟩
  rw [show (((1 : Nat) : Rat)) = 1 from rfl, Rat.div_def, own_inv1, Rat.mul_one, Rat.zpow_zero, Rat.mul_one]
  congr 1
  unfold signed
  by_cases hmn : a.toInt < 0 <;> simp [hmn] <;> omega
theorem own_isI (a : Int32) : own_is (FP.i2d a) ((a.toInt : Int) : Rat) := by
  have h : FP.i2d a = FP.l2d a.toInt64 := i2d_l2d a
  have h2 := own_rdL a.toInt64
  rw [Int32.toInt_toInt64] at h2
  rw [h]
  refine own_rd_exact h2 (m := a.toInt) (k := 0) (by rw [Rat.zpow_zero, Rat.mul_one]) ?_ (by decide) (by decide)
  have := a.le_toInt; have := a.toInt_lt; omega
end OwnNum2
section OwnNum3
open Jvm.FP.Core Jvm.Free.Fl
theorem own_units {A B : Nat} {e : Int} {c : Nat} {q : Int} {s : Bool} (hf : FP.Core.fits b64 (.fin s c q)) (e0 : Int) (h0 : e0 ≤ b64.qmin) (h0e : e0 ≤ e) :
    (((inUnits A e e0 : Nat) : Rat) = (A : Rat) * 2 ^ e * 2 ^ (-e0)) ∧ (((zmag b64 (.fin s c q) * 2 ^ (b64.qmin - e0).toNat * B : Nat) : Rat) = ((c : Rat) * 2 ^ q) * (B : Rat) * 2 ^ (-e0)) := by
  constructor
  · unfold inUnits
    rw [Rat.natCast_mul, own_p_toNat (by omega), show e - e0 = e + -e0 by omega, own_p_add, Rat.mul_assoc]
  · rw [Rat.natCast_mul, Rat.natCast_mul, own_zmag hf, own_p_toNat (by omega), show b64.qmin - e0 = -1074 + -e0 by rw [qmin_b64]; omega, own_p_add]
    have := own_p_neg 1074
    grind
theorem own_div_le {a b w : Rat} (hb : 0 < b) : a / b ≤ w ↔ a ≤ w * b := by
  have h1 : a = a / b * b := (Rat.div_mul_cancel (Rat.ne_of_gt hb)).symm
  constructor
  · intro h; rw [h1]; exact Rat.mul_le_mul_of_nonneg_right h (Rat.le_of_lt hb)
  · intro h; rw [h1] at h; exact Rat.le_of_mul_le_mul_right h hb
theorem own_le_div {a b w : Rat} (hb : 0 < b) : w ≤ a / b ↔ w * b ≤ a := by
  have h1 : a = a / b * b := (Rat.div_mul_cancel (Rat.ne_of_gt hb)).symm
  constructor
  · intro h; rw [h1]; exact Rat.mul_le_mul_of_nonneg_right h (Rat.le_of_lt hb)
  · intro h; rw [h1] at h; exact Rat.le_of_mul_le_mul_right h hb
theorem own_mag_le {A B : Nat} {e : Int} {s t : Bool} {c : Nat} {q : Int} (hB : 0 < B) (hf : FP.Core.fits b64 (.fin t c q)) (h : (A : Rat) / (B : Rat) * 2 ^ e ≤ (c : Rat) * 2 ^ q) : zmag b64 (roundRatio b64 s A B e) ≤ zmag b64 (.fin t c q) := by
  obtain ⟨u1, u2⟩ := own_units (A := A) (B := B) (e := e) hf (min e b64.qmin) (by omega) (by omega)
  refine zmag_roundRatio_le good_b64 hB hf Datum.noConfusion (e0 := min e b64.qmin) (by omega) (by omega) (Rat.natCast_le_natCast.mp ?_)
  rw [u1, u2]
  refine Rat.mul_le_mul_of_nonneg_right ?_ (Rat.le_of_lt (own_p_pos _))
  have hb := own_nat_pos hB
  have h2 := Rat.mul_le_mul_of_nonneg_right h (Rat.le_of_lt hb)
  have h3 : (A : Rat) / (B : Rat) * 2 ^ e * (B : Rat) = (A : Rat) * 2 ^ e := by
    rw [Rat.mul_assoc, Rat.mul_comm ((2 : Rat) ^ e), ← Rat.mul_assoc, Rat.div_mul_cancel (own_nat_ne hB)]
  rw [h3] at h2
  exact h2
theorem own_mag_ge {A B : Nat} {e : Int} {s t : Bool} {c : Nat} {q : Int} (hB : 0 < B) (hf : FP.Core.fits b64 (.fin t c q)) (h : (c : Rat) * 2 ^ q ≤ (A : Rat) / (B : Rat) * 2 ^ e) : zmag b64 (.fin t c q) ≤ zmag b64 (roundRatio b64 s A B e) := by
  obtain ⟨u1, u2⟩ := own_units (A := A) (B := B) (e := e) hf (min e b64.qmin) (by omega) (by omega)
  refine zmag_roundRatio_ge good_b64 hB hf (e0 := min e b64.qmin) (by omega) (by omega) (Rat.natCast_le_natCast.mp ?_)
  rw [u1, u2]
  refine Rat.mul_le_mul_of_nonneg_right ?_ (Rat.le_of_lt (own_p_pos _))
  have hb := own_nat_pos hB
  have h2 := Rat.mul_le_mul_of_nonneg_right h (Rat.le_of_lt hb)
  have h3 : (A : Rat) / (B : Rat) * 2 ^ e * (B : Rat) = (A : Rat) * 2 ^ e := by
    rw [Rat.mul_assoc, Rat.mul_comm ((2 : Rat) ^ e), ← Rat.mul_assoc, Rat.div_mul_cancel (own_nat_ne hB)]
  rw [h3] at h2
  exact h2
theorem own_signed_ratio (s : Bool) (A B : Nat) (e : Int) : ((signed s A : Int) : Rat) / ((B : Nat) : Rat) * (2 : Rat) ^ e = if s then -((A : Rat) / (B : Rat) * 2 ^ e) else (A : Rat) / (B : Rat) * 2 ^ e := by
  cases s
  · rfl
  · show ((-(A : Int) : Int) : Rat) / _ * _ = _
    rw [Rat.intCast_neg, Rat.div_def, Rat.neg_mul, Rat.neg_mul]; rfl
theorem own_signed_pow (s : Bool) (c : Nat) (q : Int) : ((signed s c : Int) : Rat) * (2 : Rat) ^ q = if s then -((c : Rat) * 2 ^ q) else (c : Rat) * 2 ^ q := by
  cases s
  · rfl
  · show ((-(c : Int) : Int) : Rat) * _ = _
    rw [Rat.intCast_neg, Rat.neg_mul]; rfl
theorem own_ratio_nonneg (A B : Nat) (e : Int) : 0 ≤ (A : Rat) / (B : Rat) * 2 ^ e := by
  refine Rat.mul_nonneg ?_ (Rat.le_of_lt (own_p_pos e))
  rcases Nat.eq_zero_or_pos B with rfl | hB
  · rw [Rat.div_def]; exact Rat.mul_nonneg Rat.natCast_nonneg (by rw [show ((0 : Nat) : Rat) = 0 from rfl, Rat.inv_zero]; exact Rat.le_refl)
  · rw [own_le_div (own_nat_pos hB), Rat.zero_mul]; exact Rat.natCast_nonneg
theorem own_rd_le {x V : UInt64} {r y : Rat} (h : own_rd x r) (hV : own_is V y) (hle : r ≤ y) : zval b64 (val64 x) ≤ zval b64 (val64 V) := by
  obtain ⟨s, A, B, e, hB, hv, hr⟩ := h
  obtain ⟨t, c, q, hVv, hy⟩ := hV
  have hf := val64_fits V
  rw [hVv] at hf
  rw [hv, hVv]
  have m1 := own_mag_le (A := A) (e := e) (s := s) hB hf
  have m2 := own_mag_ge (A := A) (e := e) (s := s) hB hf
  unfold zval
  rw [sgn_roundRatio]
  show _ ≤ signed t (zmag b64 (.fin t c q))
  rw [own_signed_ratio] at hr
  rw [own_signed_pow] at hy
  have p1 := own_ratio_nonneg A B e
  have p2 : 0 ≤ (c : Rat) * 2 ^ q := Rat.mul_nonneg Rat.natCast_nonneg (Rat.le_of_lt (own_p_pos q))
  have hz : (c : Rat) * 2 ^ q ≤ 0 → zmag b64 (.fin t c q) = 0 := by
    intro h0
    have h1 : (c : Rat) * 2 ^ q = 0 := Rat.le_antisymm h0 p2
    have h2 := own_zmag hf
    rw [h1, Rat.zero_mul] at h2
    exact Rat.natCast_eq_zero_iff.mp h2
  generalize (A : Rat) / (B : Rat) * 2 ^ e = ra at *
  generalize (c : Rat) * 2 ^ q = rc at *
  generalize zmag b64 (roundRatio b64 s A B e) = za at *
  generalize zmag b64 (.fin t c q) = zc at *
  cases s <;> cases t <;> simp only [signed, Bool.false_eq_true, if_true, if_false] at hr hy ⊢
  · have := m1 (by grind); omega
  · have := m1 (by grind); have := hz (by grind); omega
  · omega
  · have := m2 (by grind); omega
theorem own_rd_neg {x : UInt64} {r : Rat} (h : own_rd x r) : own_rd (FP.dneg x) (-r) := by
  obtain ⟨s, A, B, e, hB, hv, hr⟩ := h
  refine ⟨!s, A, B, e, hB, (FP.val64_dneg x).trans (by rw [hv, negate_roundRatio]), ?_⟩
  rw [hr, signed_not, Rat.intCast_neg, Rat.div_def, Rat.div_def, Rat.neg_mul, Rat.neg_mul]
theorem own_zval_neg (x : UInt64) : zval b64 (val64 (FP.dneg x)) = -zval b64 (val64 x) := by
  rw [show val64 (FP.dneg x) = negate (val64 x) from FP.val64_dneg x, zval_negate]
theorem own_rd_ge {x V : UInt64} {r y : Rat} (h : own_rd x r) (hV : own_is V y) (hle : y ≤ r) : zval b64 (val64 V) ≤ zval b64 (val64 x) := by
  have h1 := own_rd_le (own_rd_neg h) (own_neg hV) (Rat.neg_le_neg hle)
  rw [own_zval_neg, own_zval_neg] at h1
  omega
theorem own_big : own_is 9110782046170513408 ((2 : Rat) ^ (1000 : Int)) := ⟨false, 2 ^ 52, 948, by decide +kernel, by
  show _ = (((2 ^ 52 : Nat) : Rat)) * _
  rw [own_p_nat, ← own_p_add]; rfl⟩
theorem own_rd_fin {x : UInt64} {r : Rat} (h : own_rd x r) (h1 : r ≤ (2 : Rat) ^ (1000 : Int)) (h2 : -((2 : Rat) ^ (1000 : Int)) ≤ r) : ∃ v, own_is x v := by
  have l1 := own_rd_le h own_big h1
  have l2 := own_rd_ge h (own_neg own_big) h2
  rw [own_zval_neg] at l2
  obtain ⟨s, A, B, e, hB, hv, hr⟩ := h
  rcases roundRatio_cases b64 s A B e with ⟨c, q, hc⟩ | hc
  · exact ⟨_, s, c, q, hv.trans hc, rfl⟩
  · rw [hv, hc] at l1 l2
    cases s
    · exact absurd l1 (by decide +kernel)
    · exact absurd l2 (by decide +kernel)
theorem own_rd_le' {x V : UInt64} {r v y : Rat} (h : own_rd x r) (hx : own_is x v) (hV : own_is V y) (hle : r ≤ y) : v ≤ y := by
  have h1 := own_rd_le h hV hle
  refine Rat.not_lt.mp fun h2 => ?_
  have h3 := (dcmp_lt.mp ((own_is_lt hV hx).mpr h2)).2.2
  omega
theorem own_rd_ge' {x V : UInt64} {r v y : Rat} (h : own_rd x r) (hx : own_is x v) (hV : own_is V y) (hle : y ≤ r) : y ≤ v := by
  have h1 := own_rd_ge h hV hle
  refine Rat.not_lt.mp fun h2 => ?_
  have h3 := (dcmp_lt.mp ((own_is_lt hx hV).mpr h2)).2.2
  omega
/-- every rational of 53 digits is a double -/
theorem own_rep {m k : Int} (hm : m.natAbs < 2 ^ 53) (hk : -1074 ≤ k) (hk2 : k ≤ 971) : ∃ V, own_is V ((m : Rat) * (2 : Rat) ^ k) := by
  have hf : FP.Core.fits b64 (roundRatio b64 (decide (m < 0)) m.natAbs 1 k) := roundRatio_fits good_b64 _ _ (by decide) _
  refine ⟨of64 (roundRatio b64 (decide (m < 0)) m.natAbs 1 k), own_rd_exact ⟨decide (m < 0), m.natAbs, 1, k, by decide, val64_of64 hf, ?_⟩ rfl hm hk hk2⟩
  rw [show (((1 : Nat) : Rat)) = 1 from rfl, Rat.div_def, own_inv1, Rat.mul_one]
  congr 2
  unfold signed
  by_cases hmn : m < 0 <;> simp [hmn] <;> omega
end OwnNum3
section OwnNum4
open Jvm.FP.Core Jvm.Free.Fl
theorem own_two200 : (1606938044258990275541962092341162602522202993782792835301376 : Rat) ≤ (2 : Rat) ^ (1000 : Int) := by decide +kernel
theorem own_rd_finN {x : UInt64} {r : Rat} (h : own_rd x r) (h1 : r ≤ 1606938044258990275541962092341162602522202993782792835301376) (h2 : -1606938044258990275541962092341162602522202993782792835301376 ≤ r) : ∃ v, own_is x v :=
  own_rd_fin h (Rat.le_trans h1 own_two200) (Rat.le_trans (Rat.neg_le_neg own_two200) h2)
theorem own_zero : own_is 0 0 := ⟨false, 0, -1074, by decide +kernel, by decide +kernel⟩
theorem own_one : own_is 4607182418800017408 1 := ⟨false, 2 ^ 52, -52, by decide +kernel, by decide +kernel⟩
theorem own_rep' {m k : Int} {r : Rat} (hr : r = (m : Rat) * (2 : Rat) ^ k) (hm : m.natAbs < 2 ^ 53) (hk : -1074 ≤ k) (hk2 : k ≤ 971) : ∃ V, own_is V r := by rw [hr]; exact own_rep hm hk hk2
theorem own_cmpv {x y : UInt64} {a b : Rat} (hx : own_is x a) (hy : own_is y b) (o : ClassFile.CmpOp) : Op.cmpValue (FP.dcmp x y) o = if a < b then -1 else if a = b then 0 else 1 := by
  by_cases h1 : a < b
  · rw [(own_is_lt hx hy).mpr h1, if_pos h1]; rfl
  · by_cases h2 : a = b
    · rw [(own_is_eq hx hy).mpr h2, if_neg h1, if_pos h2]; rfl
    · have h3 : b < a := by grind
      rw [(own_is_gt hx hy).mpr h3, if_neg h1, if_neg h2]; rfl
theorem own_c_lt {x y : UInt64} {a b : Rat} (hx : own_is x a) (hy : own_is y b) (o : ClassFile.CmpOp) : Op.ifCond.holds .lt (Op.cmpValue (FP.dcmp x y) o) = decide (a < b) := by
  rw [own_cmpv hx hy]; by_cases h1 : a < b <;> by_cases h2 : a = b <;> simp [h1, h2, Op.ifCond.holds]
theorem own_c_ge {x y : UInt64} {a b : Rat} (hx : own_is x a) (hy : own_is y b) (o : ClassFile.CmpOp) : Op.ifCond.holds .ge (Op.cmpValue (FP.dcmp x y) o) = decide (b ≤ a) := by
  rw [own_cmpv hx hy]
  by_cases h1 : a < b
  · simp [h1, Rat.not_le.mpr h1, Op.ifCond.holds]
  · by_cases h2 : a = b <;> simp [h1, h2, Rat.not_lt.mp h1, Op.ifCond.holds, Rat.le_refl]
theorem own_c_gt {x y : UInt64} {a b : Rat} (hx : own_is x a) (hy : own_is y b) (o : ClassFile.CmpOp) : Op.ifCond.holds .gt (Op.cmpValue (FP.dcmp x y) o) = decide (b < a) := by
  rw [own_cmpv hx hy]
  by_cases h1 : a < b
  · have : ¬ b < a := by grind
    simp [h1, this, Op.ifCond.holds]
  · by_cases h2 : a = b
    · subst h2; simp [Rat.lt_irrefl, Op.ifCond.holds]
    · have : b < a := by grind
      simp [h1, h2, this, Op.ifCond.holds]
theorem own_c_le {x y : UInt64} {a b : Rat} (hx : own_is x a) (hy : own_is y b) (o : ClassFile.CmpOp) : Op.ifCond.holds .le (Op.cmpValue (FP.dcmp x y) o) = decide (a ≤ b) := by
  rw [own_cmpv hx hy]
  by_cases h1 : a < b
  · simp [h1, Rat.le_of_lt h1, Op.ifCond.holds]
  · by_cases h2 : a = b
    · subst h2; simp [Rat.lt_irrefl, Rat.le_refl, Op.ifCond.holds]
    · have : ¬ a ≤ b := by grind
      simp [h1, h2, this, Op.ifCond.holds]
theorem own_c_eq {x y : UInt64} {a b : Rat} (hx : own_is x a) (hy : own_is y b) (o : ClassFile.CmpOp) : Op.ifCond.holds .eq (Op.cmpValue (FP.dcmp x y) o) = decide (a = b) := by
  rw [own_cmpv hx hy]
  by_cases h1 : a < b
  · have : ¬ a = b := by grind
    simp [h1, this, Op.ifCond.holds]
  · by_cases h2 : a = b <;> simp [h1, h2, Op.ifCond.holds]
theorem own_c_ne {x y : UInt64} {a b : Rat} (hx : own_is x a) (hy : own_is y b) (o : ClassFile.CmpOp) : Op.ifCond.holds .ne (Op.cmpValue (FP.dcmp x y) o) = decide (a ≠ b) := by
  rw [own_cmpv hx hy]
  by_cases h1 : a < b
  · have : ¬ a = b := by grind
    simp [h1, this, Op.ifCond.holds]
  · by_cases h2 : a = b <;> simp [h1, h2, Op.ifCond.holds]
/-- ints by their values -/
theorem own_i_lt (x y : Int32) : Op.if_icmp.holds .lt x y = decide (x.toInt < y.toInt) := by simp only [Op.if_icmp.holds, Int32.lt_iff_toInt_lt]
theorem own_i_gt (x y : Int32) : Op.if_icmp.holds .gt x y = decide (y.toInt < x.toInt) := by simp only [Op.if_icmp.holds, GT.gt, Int32.lt_iff_toInt_lt]
theorem own_i_le (x y : Int32) : Op.if_icmp.holds .le x y = decide (x.toInt ≤ y.toInt) := by simp only [Op.if_icmp.holds, Int32.le_iff_toInt_le]
theorem own_i_ge (x y : Int32) : Op.if_icmp.holds .ge x y = decide (y.toInt ≤ x.toInt) := by simp only [Op.if_icmp.holds, GE.ge, Int32.le_iff_toInt_le]
theorem own_i_eq (x y : Int32) : Op.if_icmp.holds .eq x y = decide (x = y) := by rw [Bool.eq_iff_iff]; simp [Op.if_icmp.holds]
theorem own_i_ne (x y : Int32) : Op.if_icmp.holds .ne x y = decide (x ≠ y) := by rw [Bool.eq_iff_iff]; simp [Op.if_icmp.holds]
theorem own_z_lt (x : Int32) : Op.ifCond.holds .lt x = decide (x.toInt < 0) := by simp only [Op.ifCond.holds, Int32.lt_iff_toInt_lt]; rfl
theorem own_z_gt (x : Int32) : Op.ifCond.holds .gt x = decide (0 < x.toInt) := by simp only [Op.ifCond.holds, GT.gt, Int32.lt_iff_toInt_lt]; rfl
theorem own_z_le (x : Int32) : Op.ifCond.holds .le x = decide (x.toInt ≤ 0) := by simp only [Op.ifCond.holds, Int32.le_iff_toInt_le]; rfl
theorem own_z_ge (x : Int32) : Op.ifCond.holds .ge x = decide (0 ≤ x.toInt) := by simp only [Op.ifCond.holds, GE.ge, Int32.le_iff_toInt_le]; rfl
theorem own_z_eq (x : Int32) : Op.ifCond.holds .eq x = decide (x = 0) := by rw [Bool.eq_iff_iff]; simp [Op.ifCond.holds]
theorem own_z_ne (x : Int32) : Op.ifCond.holds .ne x = decide (x ≠ 0) := by rw [Bool.eq_iff_iff]; simp [Op.ifCond.holds]
theorem own_lc_lt (x y : Int64) : Op.ifCond.holds .lt (if x > y then (1 : Int32) else if x = y then 0 else -1) = decide (x.toInt < y.toInt) := by
  simp only [GT.gt, Int64.lt_iff_toInt_lt, ← Int64.toInt_inj]
  by_cases h1 : y.toInt < x.toInt
  · simp [h1, Op.ifCond.holds, show ¬ x.toInt < y.toInt by omega]
  · by_cases h2 : x.toInt = y.toInt
    · simp [h2, Op.ifCond.holds]
    · simp [h1, h2, Op.ifCond.holds, show x.toInt < y.toInt by omega]
theorem own_lc_ge (x y : Int64) : Op.ifCond.holds .ge (if x > y then (1 : Int32) else if x = y then 0 else -1) = decide (y.toInt ≤ x.toInt) := by
  simp only [GT.gt, Int64.lt_iff_toInt_lt, ← Int64.toInt_inj]
  by_cases h1 : y.toInt < x.toInt
  · simp [h1, Op.ifCond.holds, show y.toInt ≤ x.toInt by omega]
  · by_cases h2 : x.toInt = y.toInt
    · simp [h2, Op.ifCond.holds]
    · simp [h1, h2, Op.ifCond.holds, show ¬ y.toInt ≤ x.toInt by omega]
theorem own_lc_gt (x y : Int64) : Op.ifCond.holds .gt (if x > y then (1 : Int32) else if x = y then 0 else -1) = decide (y.toInt < x.toInt) := by
  simp only [GT.gt, Int64.lt_iff_toInt_lt, ← Int64.toInt_inj]
  by_cases h1 : y.toInt < x.toInt
  · simp [h1, Op.ifCond.holds]
  · by_cases h2 : x.toInt = y.toInt
    · simp [h2, Op.ifCond.holds]
    · simp [h1, h2, Op.ifCond.holds]
theorem own_lc_le (x y : Int64) : Op.ifCond.holds .le (if x > y then (1 : Int32) else if x = y then 0 else -1) = decide (x.toInt ≤ y.toInt) := by
  simp only [GT.gt, Int64.lt_iff_toInt_lt, ← Int64.toInt_inj]
  by_cases h1 : y.toInt < x.toInt
  · simp [h1, Op.ifCond.holds, show ¬ x.toInt ≤ y.toInt by omega]
  · by_cases h2 : x.toInt = y.toInt
    · simp [h2, Op.ifCond.holds]
    · simp [h1, h2, Op.ifCond.holds, show x.toInt ≤ y.toInt by omega]
theorem own_lc_eq (x y : Int64) : Op.ifCond.holds .eq (if x > y then (1 : Int32) else if x = y then 0 else -1) = decide (x.toInt = y.toInt) := by
  simp only [GT.gt, Int64.lt_iff_toInt_lt, ← Int64.toInt_inj]
  by_cases h1 : y.toInt < x.toInt
  · simp [h1, Op.ifCond.holds, show ¬ x.toInt = y.toInt by omega]
  · by_cases h2 : x.toInt = y.toInt
    · simp [h2, Op.ifCond.holds]
    · simp [h1, h2, Op.ifCond.holds]
theorem own_lc_ne (x y : Int64) : Op.ifCond.holds .ne (if x > y then (1 : Int32) else if x = y then 0 else -1) = decide (x.toInt ≠ y.toInt) := by
  simp only [GT.gt, Int64.lt_iff_toInt_lt, ← Int64.toInt_inj]
  by_cases h1 : y.toInt < x.toInt
  · simp [h1, Op.ifCond.holds, show ¬ x.toInt = y.toInt by omega]
  · by_cases h2 : x.toInt = y.toInt
    · simp [h2, Op.ifCond.holds]
    · simp [h1, h2, Op.ifCond.holds]
end OwnNum4
section OwnNum5
open Jvm.FP.Core Jvm.Free.Fl
/-- no number of 53 digits is nearer than the rounded one -/
theorem own_near {s : Bool} {A B : Nat} {e : Int} {c : Nat} {q : Int} (hB : 0 < B) (hR : roundRatio b64 s A B e = .fin s c q) {c' : Nat} {q' : Int} (hc' : c' < 2 ^ 53) (hq' : -1074 ≤ q') {D : Rat}
    (h1 : (c' : Rat) * 2 ^ q' - (A : Rat) / (B : Rat) * 2 ^ e ≤ D) (h2 : (A : Rat) / (B : Rat) * 2 ^ e - (c' : Rat) * 2 ^ q' ≤ D) :
    (c : Rat) * 2 ^ q - (A : Rat) / (B : Rat) * 2 ^ e ≤ D ∧ (A : Rat) / (B : Rat) * 2 ^ e - (c : Rat) * 2 ^ q ≤ D := by
  have hfit : FP.Core.fits b64 (.fin s c q) := hR ▸ roundRatio_fits good_b64 s A hB e
  have hqm : (-1074 : Int) ≤ q := by have := hfit.2.1; rw [qmin_b64] at this; exact this
  obtain ⟨e0, he0, he1⟩ : ∃ e0 : Int, e0 ≤ -1074 ∧ e0 ≤ e := ⟨min e (-1074), by omega, by omega⟩
  have hd := roundRatio_nearest good_b64 hB hR hc' (by rw [qmin_b64]; exact hq') (e0 := e0) (by rw [qmin_b64]; exact he0) he1
  unfold distance at hd
  have hb := own_nat_pos hB
  have hp := own_p_pos (-e0)
  have cU : ∀ (n : Nat) (j : Int), e0 ≤ j → ((inUnits n j e0 : Nat) : Rat) = (n : Rat) * 2 ^ j * 2 ^ (-e0) := by
    intro n j hj
    unfold inUnits
    rw [Rat.natCast_mul, own_p_toNat (by omega), show j - e0 = j + -e0 by omega, own_p_add, Rat.mul_assoc]
  have uA := cU A e he1
  have uc := cU c q (by omega)
  have uc' := cU c' q' (by omega)
  have hA : (A : Rat) / (B : Rat) * 2 ^ e * (B : Rat) = (A : Rat) * 2 ^ e := by
    rw [Rat.mul_assoc, Rat.mul_comm ((2 : Rat) ^ e), ← Rat.mul_assoc, Rat.div_mul_cancel (own_nat_ne hB)]
  generalize (A : Rat) / (B : Rat) * 2 ^ e = a at *
  generalize hx : ((inUnits A e e0 : Nat) : Int) - ((inUnits c q e0 : Nat) : Int) * (B : Int) = x at hd
  generalize hy : ((inUnits A e e0 : Nat) : Int) - ((inUnits c' q' e0 : Nat) : Int) * (B : Int) = y at hd
  have ex : (x : Rat) = (a - (c : Rat) * 2 ^ q) * ((B : Rat) * 2 ^ (-e0)) := by
    rw [← hx, Rat.intCast_sub, Rat.intCast_mul, Rat.intCast_natCast, Rat.intCast_natCast, Rat.intCast_natCast, uA, uc, ← hA]
    grind
  have ey : (y : Rat) = (a - (c' : Rat) * 2 ^ q') * ((B : Rat) * 2 ^ (-e0)) := by
    rw [← hy, Rat.intCast_sub, Rat.intCast_mul, Rat.intCast_natCast, Rat.intCast_natCast, Rat.intCast_natCast, uA, uc', ← hA]
    grind
  have hK : (0 : Rat) < (B : Rat) * 2 ^ (-e0) := Rat.mul_pos hb hp
  generalize (B : Rat) * 2 ^ (-e0) = K at *
  generalize (c : Rat) * 2 ^ q = u at *
  generalize (c' : Rat) * 2 ^ q' = w at *
  have yD1 : (y : Rat) ≤ D * K := by rw [ey]; exact Rat.mul_le_mul_of_nonneg_right h2 (Rat.le_of_lt hK)
  have yD2 : -(y : Rat) ≤ D * K := by
    rw [ey]
    have := Rat.mul_le_mul_of_nonneg_right h1 (Rat.le_of_lt hK)
    grind
  have k1 : (x ≤ y ∨ x ≤ -y) ∧ (-x ≤ y ∨ -x ≤ -y) := by omega
  have x1 : (x : Rat) ≤ D * K := by
    rcases k1.1 with k | k
    · exact Rat.le_trans (Rat.intCast_le_intCast.mpr k) yD1
    · have := Rat.intCast_le_intCast.mpr k
      rw [Rat.intCast_neg] at this
      exact Rat.le_trans this yD2
  have x2 : -(x : Rat) ≤ D * K := by
    rw [← Rat.intCast_neg]
    rcases k1.2 with k | k
    · exact Rat.le_trans (Rat.intCast_le_intCast.mpr k) yD1
    · have := Rat.intCast_le_intCast.mpr k
      rw [Rat.intCast_neg y] at this
      exact Rat.le_trans this yD2
  rw [ex] at x1 x2
  constructor
  · refine Rat.le_of_mul_le_mul_right ?_ hK
    grind
  · refine Rat.le_of_mul_le_mul_right ?_ hK
    exact x1
theorem own_grid {a : Rat} {k : Int} (h0 : 0 ≤ a) (hk : a ≤ (2 : Rat) ^ k) : ∃ n : Nat, n ≤ 2 ^ 53 ∧ (n : Rat) * 2 ^ (k - 53) - a ≤ 2 ^ (k - 54) ∧ a - (n : Rat) * 2 ^ (k - 53) ≤ 2 ^ (k - 54) := by
  have hu := own_p_pos (k - 53)
  have e1 : (2 : Rat) ^ k = 2 ^ (k - 53) * 9007199254740992 := by
    rw [show (9007199254740992 : Rat) = (2 : Rat) ^ (53 : Int) by decide +kernel, ← own_p_add]; congr 1; omega
  have e2 : (2 : Rat) ^ (k - 53) = 2 ^ (k - 54) * 2 := by
    have := own_p_add (k - 54) 1
    rw [Rat.zpow_one, show k - 54 + 1 = k - 53 by omega] at this
    exact this
  have hv := own_p_pos (k - 54)
  rw [e1] at hk
  generalize (2 : Rat) ^ (k - 54) = g at *
  generalize (2 : Rat) ^ (k - 53) = u at *
  obtain ⟨f, hf⟩ : ∃ f : Int, f = (a / u + 1 / 2).floor := ⟨_, rfl⟩
  have f1 : (f : Rat) ≤ a / u + 1 / 2 := by rw [hf]; exact Rat.floor_le _
  have f2 : a / u + 1 / 2 < ((f + 1 : Int) : Rat) := by rw [hf]; exact Rat.lt_floor_add_one _
  rw [Rat.intCast_add, show ((1 : Int) : Rat) = 1 from rfl] at f2
  have ha : a = a / u * u := (Rat.div_mul_cancel (Rat.ne_of_gt hu)).symm
  have hb1 : a / u ≤ 9007199254740992 := by rw [own_div_le hu]; grind
  have hb0 : 0 ≤ a / u := by rw [own_le_div hu]; grind
  generalize a / u = t at *
  have n0 : 0 ≤ f := by
    refine Int.not_lt.mp fun q => ?_
    have : (f : Rat) ≤ -1 := (show ((f : Int) : Rat) ≤ ((-1 : Int) : Rat) from Rat.intCast_le_intCast.mpr (by omega))
    grind
  have n1 : f ≤ 9007199254740992 := by
    refine Int.not_lt.mp fun q => ?_
    have : (9007199254740993 : Rat) ≤ (f : Rat) := (show ((9007199254740993 : Int) : Rat) ≤ ((f : Int) : Rat) from Rat.intCast_le_intCast.mpr (by omega))
    grind
  refine ⟨f.toNat, by omega, ?_⟩
  have ec : ((f.toNat : Nat) : Rat) = (f : Rat) := by rw [← Rat.intCast_natCast, Int.toNat_of_nonneg n0]
  rw [ec, ha]
  have m1 : ((f : Rat) - t) * u ≤ (1 / 2) * u := Rat.mul_le_mul_of_nonneg_right (by grind) (Rat.le_of_lt hu)
  have m2 : (t - (f : Rat)) * u ≤ (1 / 2) * u := Rat.mul_le_mul_of_nonneg_right (by grind) (Rat.le_of_lt hu)
  constructor <;> grind
theorem own_err0 {s : Bool} {A B : Nat} {e : Int} {c : Nat} {q : Int} (hB : 0 < B) (hR : roundRatio b64 s A B e = .fin s c q) {k : Int} (hk1 : -1000 ≤ k) (hle : (A : Rat) / (B : Rat) * 2 ^ e ≤ 2 ^ k) :
    (c : Rat) * 2 ^ q - (A : Rat) / (B : Rat) * 2 ^ e ≤ 2 ^ (k - 54) ∧ (A : Rat) / (B : Rat) * 2 ^ e - (c : Rat) * 2 ^ q ≤ 2 ^ (k - 54) := by
  obtain ⟨n, hn, h1, h2⟩ := own_grid (own_ratio_nonneg A B e) hle
  rcases Nat.lt_or_eq_of_le hn with hlt | heq
  · exact own_near hB hR (c' := n) (q' := k - 53) hlt (by omega) h1 h2
  · subst heq
    have e3 : ((2 ^ 53 : Nat) : Rat) * 2 ^ (k - 53) = ((2 ^ 52 : Nat) : Rat) * 2 ^ (k - 52) := by
      rw [own_p_nat, own_p_nat, ← own_p_add, ← own_p_add]; congr 1
      show (53 : Int) + (k - 53) = 52 + (k - 52); omega
    rw [e3] at h1 h2
    exact own_near hB hR (c' := 2 ^ 52) (q' := k - 52) (by decide) (by omega) h1 h2
theorem own_p_mono {a b : Int} (h : a ≤ b) : (2 : Rat) ^ a ≤ 2 ^ b := by
  have e : (2 : Rat) ^ b = 2 ^ a * 2 ^ (b - a) := by rw [← own_p_add]; congr 1; omega
  have h1 : (1 : Rat) ≤ 2 ^ (b - a) := by
    rw [← own_p_toNat (by omega)]
    exact (show ((1 : Nat) : Rat) ≤ _ from Rat.natCast_le_natCast.mpr (Nat.one_le_two_pow))
  rw [e]
  have := Rat.mul_le_mul_of_nonneg_left h1 (Rat.le_of_lt (own_p_pos a))
  grind
/-- the error of a rounding, by a bound of what is rounded -/
theorem own_rd_err {x : UInt64} {r : Rat} (h : own_rd x r) {k : Int} (hk1 : -1000 ≤ k) (hk2 : k ≤ 1000) (h1 : r ≤ (2 : Rat) ^ k) (h2 : -((2 : Rat) ^ k) ≤ r) : ∃ v, own_is x v ∧ v - r ≤ 2 ^ (k - 54) ∧ r - v ≤ 2 ^ (k - 54) := by
  have hm := own_p_mono hk2
  obtain ⟨v, hv⟩ := own_rd_fin h (Rat.le_trans h1 hm) (Rat.le_trans (Rat.neg_le_neg hm) h2)
  refine ⟨v, hv, ?_⟩
  obtain ⟨s, A, B, e, hB, hx, hr⟩ := h
  obtain ⟨s', c, q, hx', hv'⟩ := hv
  rcases roundRatio_cases b64 s A B e with ⟨c2, q2, hc⟩ | hc
  · rw [hx, hc] at hx'
    cases hx'
    rw [own_signed_ratio] at hr
    rw [own_signed_pow] at hv'
    have hle : (A : Rat) / (B : Rat) * 2 ^ e ≤ 2 ^ k := by
      cases s
      · rw [if_neg (by decide)] at hr; rw [← hr]; exact h1
      · rw [if_pos rfl] at hr
        have : (A : Rat) / (B : Rat) * 2 ^ e = -r := by rw [hr, Rat.neg_neg]
        rw [this]; grind
    obtain ⟨g1, g2⟩ := own_err0 hB hc hk1 hle
    cases s
    · rw [if_neg (by decide)] at hr hv'; rw [hr, hv']; exact ⟨g1, g2⟩
    · rw [if_pos rfl] at hr hv'; rw [hr, hv']; constructor <;> grind
  · rw [hx, hc] at hx'; cases hx'
/-- a double that is a whole number, as the library says it -/
theorem own_whole {x : UInt64} {i : Int} (h : own_is x (i : Rat)) : DInt i x := by
  obtain ⟨s, c, q, hx, hr⟩ := h
  show Whole i (val64 x)
  rw [hx]
  show signed s (c * 2 ^ q.toNat) = i * ((2 ^ (-q).toNat : Nat) : Int)
  rw [← Rat.intCast_inj, own_signed_cast, Rat.intCast_mul, Rat.intCast_natCast]
  rcases Int.le_total 0 q with h0 | h0
  · rw [own_p_toNat h0, show (-q).toNat = 0 by omega, hr]
    rw [show ((2 ^ 0 : Nat) : Rat) = 1 from rfl, Rat.mul_one]
  · rw [own_p_toNat (a := -q) (by omega), show q.toNat = 0 by omega, hr, show ((2 ^ 0 : Nat) : Rat) = 1 from rfl, Rat.mul_one, Rat.mul_assoc, own_p_neg, Rat.mul_one]
theorem own_isd2l {x : UInt64} {a : Int64} (h : own_is x ((a.toInt : Int) : Rat)) : FP.d2l x = a := d2l_int (own_whole h)
/-- a whole number below 2^63, rounded: a whole number, at most 512 off -/
theorem own_rd_int {x : UInt64} {i : Int} (h : own_rd x (i : Rat)) (h1 : i ≤ 9223372036854775807) (h2 : -9223372036854775807 ≤ i) : ∃ j : Int, own_is x (j : Rat) ∧ j - i ≤ 512 ∧ i - j ≤ 512 := by
  rcases Nat.lt_or_ge i.natAbs (2 ^ 53) with hs | hs
  · exact ⟨i, own_rd_exact h (m := i) (k := 0) (by rw [Rat.zpow_zero, Rat.mul_one]) hs (by decide) (by decide), by omega, by omega⟩
  · have e63 : (2 : Rat) ^ (63 : Int) = 9223372036854775808 := by decide +kernel
    have e9 : (2 : Rat) ^ ((63 : Int) - 54) = 512 := by decide +kernel
    have i1 : ((i : Int) : Rat) ≤ 9223372036854775808 := (show ((i : Int) : Rat) ≤ ((9223372036854775808 : Int) : Rat) from Rat.intCast_le_intCast.mpr (by omega))
    have i2 : (-9223372036854775808 : Rat) ≤ ((i : Int) : Rat) := (show ((-9223372036854775808 : Int) : Rat) ≤ ((i : Int) : Rat) from Rat.intCast_le_intCast.mpr (by omega))
    obtain ⟨v, hv, g1, g2⟩ := own_rd_err h (k := 63) (by decide) (by decide) (by rw [e63]; exact i1) (by rw [e63]; exact i2)
    rw [e9] at g1 g2
    have hv0 := hv
    obtain ⟨s, c, q, hx, hr⟩ := hv0
    have hf := val64_fits x
    rw [hx] at hf
    have hc : c < 2 ^ 53 := hf.1
    obtain ⟨V, hV⟩ := own_rep' (r := 9007199254740992) (m := 1) (k := 53) (by decide +kernel) (by decide) (by decide) (by decide)
    have hq : 0 ≤ q := by
      refine Int.not_lt.mp fun q0 => ?_
      have c1 : (c : Rat) * 2 ^ q < 9007199254740992 := by
        have c2 : ((c : Nat) : Rat) < 9007199254740992 := (show ((c : Nat) : Rat) < ((9007199254740992 : Nat) : Rat) from Rat.natCast_lt_natCast.mpr hc)
        have c3 : (2 : Rat) ^ q ≤ 1 := by
          have := own_p_mono (show q ≤ 0 by omega)
          rw [Rat.zpow_zero] at this; exact this
        have c4 : (0 : Rat) ≤ ((c : Nat) : Rat) := Rat.natCast_nonneg
        have := Rat.mul_le_mul_of_nonneg_left c3 c4
        grind
      have cneg : (0 : Rat) ≤ (c : Rat) * 2 ^ q := Rat.mul_nonneg Rat.natCast_nonneg (Rat.le_of_lt (own_p_pos q))
      rw [own_signed_pow] at hr
      rcases Int.le_total 0 i with hi | hi
      · have : (9007199254740992 : Rat) ≤ ((i : Int) : Rat) := (show ((9007199254740992 : Int) : Rat) ≤ ((i : Int) : Rat) from Rat.intCast_le_intCast.mpr (by omega))
        have := own_rd_ge' h hv hV this
        cases s <;> simp only [Bool.false_eq_true, if_true, if_false] at hr <;> grind
      · have : ((i : Int) : Rat) ≤ -9007199254740992 := (show ((i : Int) : Rat) ≤ ((-9007199254740992 : Int) : Rat) from Rat.intCast_le_intCast.mpr (by omega))
        have := own_rd_le' h hv (own_neg hV) this
        cases s <;> simp only [Bool.false_eq_true, if_true, if_false] at hr <;> grind
    have hj : v = ((signed s (c * 2 ^ q.toNat) : Int) : Rat) := by rw [own_signed_cast, own_p_toNat hq]; exact hr
    refine ⟨signed s (c * 2 ^ q.toNat), hj ▸ hv, ?_, ?_⟩
    · rw [hj, ← Rat.intCast_sub] at g1
      exact Rat.intCast_le_intCast.mp (show _ ≤ ((512 : Int) : Rat) from g1)
    · rw [hj, ← Rat.intCast_sub] at g2
      exact Rat.intCast_le_intCast.mp (show _ ≤ ((512 : Int) : Rat) from g2)
theorem own_rd_small {x : UInt64} {i : Int} (h : own_rd x (i : Rat)) (hs : i.natAbs < 2 ^ 53) : own_is x (i : Rat) :=
  own_rd_exact h (m := i) (k := 0) (by rw [Rat.zpow_zero, Rat.mul_one]) hs (by decide) (by decide)
end OwnNum5
section OwnNum6
open Jvm.FP.Core Jvm.Free.Fl
/-- a rational that is a double -/
def own_Rep (r : Rat) : Prop := ∃ m k : Int, r = (m : Rat) * (2 : Rat) ^ k ∧ m.natAbs < 2 ^ 53 ∧ -1074 ≤ k ∧ k ≤ 971
theorem own_rd_rep {x : UInt64} {r : Rat} (h : own_rd x r) (hr : own_Rep r) : own_is x r := by
  obtain ⟨m, k, h1, h2, h3, h4⟩ := hr
  exact own_rd_exact h h1 h2 h3 h4
theorem own_rep_int {i : Int} (h : i.natAbs < 2 ^ 53) : own_Rep (i : Rat) := ⟨i, 0, by rw [Rat.zpow_zero, Rat.mul_one], h, by decide, by decide⟩
/-- in halves, quarters ..: j binary places -/
theorem own_rep_fix {r : Rat} (m : Int) (j : Nat) (hj : j ≤ 1000) (hr : r * ((2 ^ j : Nat) : Rat) = (m : Rat)) (hm : m.natAbs < 2 ^ 53) : own_Rep r := by
  refine ⟨m, -(j : Int), ?_, hm, by omega, by omega⟩
  rw [← hr, own_p_nat, Rat.mul_assoc, own_p_neg, Rat.mul_one]
theorem own_nb {x y : Int} {X Y : Nat} (hx : x.natAbs ≤ X) (hy : y.natAbs ≤ Y) : (x * y).natAbs ≤ X * Y := by rw [Int.natAbs_mul]; exact Nat.mul_le_mul hx hy
theorem own_rd_self {z x : UInt64} {r : Rat} (h : own_rd z r) (hx : own_is x r) (h1 : r ≤ 1606938044258990275541962092341162602522202993782792835301376) (h2 : -1606938044258990275541962092341162602522202993782792835301376 ≤ r) : own_is z r := by
  obtain ⟨v, hv⟩ := own_rd_finN h h1 h2
  have : v = r := Rat.le_antisymm (own_rd_le' h hv hx Rat.le_refl) (own_rd_ge' h hv hx Rat.le_refl)
  exact this ▸ hv
/-- two roundings of one rational are one number -/
theorem own_rd_same {z x : UInt64} {r a b : Rat} (h : own_rd z r) (h' : own_rd x r) (ha : own_is z a) (hb : own_is x b) : a = b := (own_is_eq ha hb).mp (own_rd_uniq h h')
theorem own_cle {a b : Int} (h : a ≤ b) : ((a : Int) : Rat) ≤ ((b : Int) : Rat) := Rat.intCast_le_intCast.mpr h
end OwnNum6
open Jvm Jvm.ClassFile Sem Op Lib Jvm.Free Jvm.Stand Jvm.LawKit Jvm.RoadKit Bundle Jvm.Pilot.@@N@@.Jvm.D
/-! the walk layer: own_Go says that from one frame another one is reached, whatever the heap; one rule an instruction -/
section OwnWalk
open Jvm.Free Jvm.Free.Fl
def own_Ldc (tb : Tables) (e : Env) (below : List Frame) (T : State) (m : MethodId) (c : Code) (i : Nat) (v : Value) : Prop :=
  ∀ (g : JFrame) (target : State), g.method = m →
    ((∃ x, v = .int x) → decode c.code g.pc = .ok (.ldc i, 2) → Steps tb e below (T.setTop { g with pc := g.pc + 2, stack := v :: g.stack }) target → Steps tb e below (T.setTop g) target) ∧
    ((∃ x, v = .int x) → decode c.code g.pc = .ok (.ldc_w i, 3) → Steps tb e below (T.setTop { g with pc := g.pc + 3, stack := v :: g.stack }) target → Steps tb e below (T.setTop g) target) ∧
    (((∃ x, v = .long x) ∨ ∃ x, v = .double x) → decode c.code g.pc = .ok (.ldc2_w i, 3) → Steps tb e below (T.setTop { g with pc := g.pc + 3, stack := v :: g.stack }) target → Steps tb e below (T.setTop g) target)
def own_Go (P : List (Nat × Value)) (b : ByteArray) (pc : Nat) (L : Array Slot) (S : List Value) (pc' : Nat) (L' : Array Slot) (S' : List Value) : Prop :=
  ∀ (tb : Tables) [Ours tb] (e : Env) (below : List Frame) (T target : State) (m : MethodId) (c : Code), At T m c below → tb.exec = Jvm.exec → c.code = b →
    (∀ q ∈ P, own_Ldc tb e below T m c q.1 q.2) → Steps tb e below (T.setTop (mkF m pc' L' S')) target → Steps tb e below (T.setTop (mkF m pc L S)) target
variable {P : List (Nat × Value)} {b : ByteArray} {pc pcE : Nat} {L L' LE : Array Slot} {S SE : List Value}
theorem own_refl : own_Go P b pc L S pc L S := fun tb _ e below T target m c h hx hy hP k => k
theorem own_trans {pcM : Nat} {LM : Array Slot} {SM : List Value} (r1 : own_Go P b pc L S pcM LM SM) (r2 : own_Go P b pcM LM SM pcE LE SE) : own_Go P b pc L S pcE LE SE :=
  fun tb _ e below T target m c h hx hy hP k => r1 tb e below T target m c h hx hy hP (r2 tb e below T target m c h hx hy hP k)
theorem own_at {pc2 : Nat} {L2 : Array Slot} {S2 : List Value} (h1 : pc = pc2) (h2 : L = L2) (h3 : S = S2) (r : own_Go P b pc L S pcE LE SE) : own_Go P b pc2 L2 S2 pcE LE SE := by subst h1 h2 h3; exact r
theorem own_end {pc2 : Nat} {L2 : Array Slot} {S2 : List Value} (h1 : pcE = pc2) (h2 : LE = L2) (h3 : SE = S2) (r : own_Go P b pc L S pcE LE SE) : own_Go P b pc L S pc2 L2 S2 := by subst h1 h2 h3; exact r
theorem own_iload {j : Nat} {v : Int32} {pc2 : Nat} (hd : decode b pc = .ok (.iload j, 2)) (hpc : pc + 2 = pc2) (hl : L[j]? = some (.val (.int v))) (r : own_Go P b pc2 L (.int v :: S) pcE LE SE) : own_Go P b pc L (S) pcE LE SE := by
  intro tb _ e below T target m c h hx hy hP k; subst hpc; exact XS.iload h hx rfl (hb hy hd) hl (r tb e below T target m c h hx hy hP k)
theorem own_iloadN {j : Fin 4} {v : Int32} {pc2 : Nat} (hd : decode b pc = .ok (.iload_n j, 1)) (hpc : pc + 1 = pc2) (hl : L[j.val]? = some (.val (.int v))) (r : own_Go P b pc2 L (.int v :: S) pcE LE SE) : own_Go P b pc L (S) pcE LE SE := by
  intro tb _ e below T target m c h hx hy hP k; subst hpc; exact XS.iloadN h hx rfl (hb hy hd) hl (r tb e below T target m c h hx hy hP k)
theorem own_istore {j : Nat} {v : Int32} {rest : List Value} {pc2 : Nat} (hd : decode b pc = .ok (.istore j, 2)) (hpc : pc + 2 = pc2) (hl : storeLocals L j (.int v) = some L') (r : own_Go P b pc2 L' (rest) pcE LE SE) : own_Go P b pc L (.int v :: rest) pcE LE SE := by
  intro tb _ e below T target m c h hx hy hP k; subst hpc; exact XS.istore h hx rfl (hb hy hd) rfl hl (r tb e below T target m c h hx hy hP k)
theorem own_istoreN {j : Fin 4} {v : Int32} {rest : List Value} {pc2 : Nat} (hd : decode b pc = .ok (.istore_n j, 1)) (hpc : pc + 1 = pc2) (hl : storeLocals L j.val (.int v) = some L') (r : own_Go P b pc2 L' (rest) pcE LE SE) : own_Go P b pc L (.int v :: rest) pcE LE SE := by
  intro tb _ e below T target m c h hx hy hP k; subst hpc; exact XS.istoreN h hx rfl (hb hy hd) rfl hl (r tb e below T target m c h hx hy hP k)
theorem own_lload {j : Nat} {v : Int64} {pc2 : Nat} (hd : decode b pc = .ok (.lload j, 2)) (hpc : pc + 2 = pc2) (hl : L[j]? = some (.val (.long v))) (r : own_Go P b pc2 L (.long v :: S) pcE LE SE) : own_Go P b pc L (S) pcE LE SE := by
  intro tb _ e below T target m c h hx hy hP k; subst hpc; exact XS.lload h hx rfl (hb hy hd) hl (r tb e below T target m c h hx hy hP k)
theorem own_lloadN {j : Fin 4} {v : Int64} {pc2 : Nat} (hd : decode b pc = .ok (.lload_n j, 1)) (hpc : pc + 1 = pc2) (hl : L[j.val]? = some (.val (.long v))) (r : own_Go P b pc2 L (.long v :: S) pcE LE SE) : own_Go P b pc L (S) pcE LE SE := by
  intro tb _ e below T target m c h hx hy hP k; subst hpc; exact XS.lloadN h hx rfl (hb hy hd) hl (r tb e below T target m c h hx hy hP k)
theorem own_lstore {j : Nat} {v : Int64} {rest : List Value} {pc2 : Nat} (hd : decode b pc = .ok (.lstore j, 2)) (hpc : pc + 2 = pc2) (hl : storeLocals L j (.long v) = some L') (r : own_Go P b pc2 L' (rest) pcE LE SE) : own_Go P b pc L (.long v :: rest) pcE LE SE := by
  intro tb _ e below T target m c h hx hy hP k; subst hpc; exact XS.lstore h hx rfl (hb hy hd) rfl hl (r tb e below T target m c h hx hy hP k)
theorem own_lstoreN {j : Fin 4} {v : Int64} {rest : List Value} {pc2 : Nat} (hd : decode b pc = .ok (.lstore_n j, 1)) (hpc : pc + 1 = pc2) (hl : storeLocals L j.val (.long v) = some L') (r : own_Go P b pc2 L' (rest) pcE LE SE) : own_Go P b pc L (.long v :: rest) pcE LE SE := by
  intro tb _ e below T target m c h hx hy hP k; subst hpc; exact XS.lstoreN h hx rfl (hb hy hd) rfl hl (r tb e below T target m c h hx hy hP k)
theorem own_dload {j : Nat} {v : UInt64} {pc2 : Nat} (hd : decode b pc = .ok (.dload j, 2)) (hpc : pc + 2 = pc2) (hl : L[j]? = some (.val (.double v))) (r : own_Go P b pc2 L (.double v :: S) pcE LE SE) : own_Go P b pc L (S) pcE LE SE := by
  intro tb _ e below T target m c h hx hy hP k; subst hpc; exact XS.dload h hx rfl (hb hy hd) hl (r tb e below T target m c h hx hy hP k)
theorem own_dloadN {j : Fin 4} {v : UInt64} {pc2 : Nat} (hd : decode b pc = .ok (.dload_n j, 1)) (hpc : pc + 1 = pc2) (hl : L[j.val]? = some (.val (.double v))) (r : own_Go P b pc2 L (.double v :: S) pcE LE SE) : own_Go P b pc L (S) pcE LE SE := by
  intro tb _ e below T target m c h hx hy hP k; subst hpc; exact XS.dloadN h hx rfl (hb hy hd) hl (r tb e below T target m c h hx hy hP k)
theorem own_dstore {j : Nat} {v : UInt64} {rest : List Value} {pc2 : Nat} (hd : decode b pc = .ok (.dstore j, 2)) (hpc : pc + 2 = pc2) (hl : storeLocals L j (.double v) = some L') (r : own_Go P b pc2 L' (rest) pcE LE SE) : own_Go P b pc L (.double v :: rest) pcE LE SE := by
  intro tb _ e below T target m c h hx hy hP k; subst hpc; exact XS.dstore h hx rfl (hb hy hd) rfl hl (r tb e below T target m c h hx hy hP k)
theorem own_dstoreN {j : Fin 4} {v : UInt64} {rest : List Value} {pc2 : Nat} (hd : decode b pc = .ok (.dstore_n j, 1)) (hpc : pc + 1 = pc2) (hl : storeLocals L j.val (.double v) = some L') (r : own_Go P b pc2 L' (rest) pcE LE SE) : own_Go P b pc L (.double v :: rest) pcE LE SE := by
  intro tb _ e below T target m c h hx hy hP k; subst hpc; exact XS.dstoreN h hx rfl (hb hy hd) rfl hl (r tb e below T target m c h hx hy hP k)
theorem own_aload {j : Nat} {v : Value} {pc2 : Nat} (hd : decode b pc = .ok (.aload j, 2)) (hpc : pc + 2 = pc2) (hl : L[j]? = some (.val v)) (hr : v.isRef = true) (r : own_Go P b pc2 L (v :: S) pcE LE SE) : own_Go P b pc L (S) pcE LE SE := by
  intro tb _ e below T target m c h hx hy hP k; subst hpc; exact XS.aload h hx rfl (hb hy hd) hl hr (r tb e below T target m c h hx hy hP k)
theorem own_aloadN {j : Fin 4} {v : Value} {pc2 : Nat} (hd : decode b pc = .ok (.aload_n j, 1)) (hpc : pc + 1 = pc2) (hl : L[j.val]? = some (.val v)) (hr : v.isRef = true) (r : own_Go P b pc2 L (v :: S) pcE LE SE) : own_Go P b pc L (S) pcE LE SE := by
  intro tb _ e below T target m c h hx hy hP k; subst hpc; exact XS.aloadN h hx rfl (hb hy hd) hl hr (r tb e below T target m c h hx hy hP k)
theorem own_astore {j : Nat} {v : Value} {rest : List Value} {pc2 : Nat} (hd : decode b pc = .ok (.astore j, 2)) (hpc : pc + 2 = pc2) (hr : v.isRef = true) (hl : storeLocals L j v = some L') (r : own_Go P b pc2 L' (rest) pcE LE SE) : own_Go P b pc L (v :: rest) pcE LE SE := by
  intro tb _ e below T target m c h hx hy hP k; subst hpc; exact XS.astore h hx rfl (hb hy hd) rfl hr hl (r tb e below T target m c h hx hy hP k)
theorem own_astoreN {j : Fin 4} {v : Value} {rest : List Value} {pc2 : Nat} (hd : decode b pc = .ok (.astore_n j, 1)) (hpc : pc + 1 = pc2) (hr : v.isRef = true) (hl : storeLocals L j.val v = some L') (r : own_Go P b pc2 L' (rest) pcE LE SE) : own_Go P b pc L (v :: rest) pcE LE SE := by
  intro tb _ e below T target m c h hx hy hP k; subst hpc; exact XS.astoreN h hx rfl (hb hy hd) rfl hr hl (r tb e below T target m c h hx hy hP k)
theorem own_iconst {i : Int} {v : Int32} {pc2 : Nat} (hd : decode b pc = .ok (.iconst i, 1)) (hpc : pc + 1 = pc2) (hv : Int32.ofInt i = v) (r : own_Go P b pc2 L (.int v :: S) pcE LE SE) : own_Go P b pc L (S) pcE LE SE := by
  intro tb _ e below T target m c h hx hy hP k; subst hpc; subst hv; exact XS.iconst h hx rfl (hb hy hd) (r tb e below T target m c h hx hy hP k)
theorem own_bipush {i : Int} {v : Int32} {pc2 : Nat} (hd : decode b pc = .ok (.bipush i, 2)) (hpc : pc + 2 = pc2) (hv : (Int8.ofInt i).toInt32 = v) (r : own_Go P b pc2 L (.int v :: S) pcE LE SE) : own_Go P b pc L (S) pcE LE SE := by
  intro tb _ e below T target m c h hx hy hP k; subst hpc; subst hv; exact XS.bipush h hx rfl (hb hy hd) (r tb e below T target m c h hx hy hP k)
theorem own_sipush {i : Int} {v : Int32} {pc2 : Nat} (hd : decode b pc = .ok (.sipush i, 3)) (hpc : pc + 3 = pc2) (hv : (Int16.ofInt i).toInt32 = v) (r : own_Go P b pc2 L (.int v :: S) pcE LE SE) : own_Go P b pc L (S) pcE LE SE := by
  intro tb _ e below T target m c h hx hy hP k; subst hpc; subst hv; exact XS.sipush h hx rfl (hb hy hd) (r tb e below T target m c h hx hy hP k)
theorem own_lconst {j : Fin 2} {v : Int64} {pc2 : Nat} (hd : decode b pc = .ok (.lconst j, 1)) (hpc : pc + 1 = pc2) (hv : Int64.ofNat j = v) (r : own_Go P b pc2 L (.long v :: S) pcE LE SE) : own_Go P b pc L (S) pcE LE SE := by
  intro tb _ e below T target m c h hx hy hP k; subst hpc; subst hv; exact XS.lconst h hx rfl (hb hy hd) (r tb e below T target m c h hx hy hP k)
theorem own_dconst0  {v : UInt64} {pc2 : Nat} (hd : decode b pc = .ok (.dconst 0, 1)) (hpc : pc + 1 = pc2) (hv : FP.dconst0 = v) (r : own_Go P b pc2 L (.double v :: S) pcE LE SE) : own_Go P b pc L (S) pcE LE SE := by
  intro tb _ e below T target m c h hx hy hP k; subst hpc; subst hv; exact XS.dconst0 h hx rfl (hb hy hd) rfl (r tb e below T target m c h hx hy hP k)
theorem own_dconst1  {v : UInt64} {pc2 : Nat} (hd : decode b pc = .ok (.dconst 1, 1)) (hpc : pc + 1 = pc2) (hv : FP.dconst1 = v) (r : own_Go P b pc2 L (.double v :: S) pcE LE SE) : own_Go P b pc L (S) pcE LE SE := by
  intro tb _ e below T target m c h hx hy hP k; subst hpc; subst hv; exact XS.dconst1 h hx rfl (hb hy hd) rfl (r tb e below T target m c h hx hy hP k)
theorem own_aconstNull  {pc2 : Nat} (hd : decode b pc = .ok (.aconst_null, 1)) (hpc : pc + 1 = pc2) (r : own_Go P b pc2 L (.null :: S) pcE LE SE) : own_Go P b pc L (S) pcE LE SE := by
  intro tb _ e below T target m c h hx hy hP k; subst hpc; exact XS.aconstNull h hx rfl (hb hy hd) (r tb e below T target m c h hx hy hP k)
theorem own_iadd {x y : Int32} {v : Int32} {rest : List Value} {pc2 : Nat} (hd : decode b pc = .ok (.iadd, 1)) (hpc : pc + 1 = pc2) (hv : x + y = v) (r : own_Go P b pc2 L (.int v :: rest) pcE LE SE) : own_Go P b pc L (.int y :: .int x :: rest) pcE LE SE := by
  intro tb _ e below T target m c h hx hy hP k; subst hpc; subst hv; exact XS.iadd h hx rfl (hb hy hd) rfl (r tb e below T target m c h hx hy hP k)
theorem own_isub {x y : Int32} {v : Int32} {rest : List Value} {pc2 : Nat} (hd : decode b pc = .ok (.isub, 1)) (hpc : pc + 1 = pc2) (hv : x - y = v) (r : own_Go P b pc2 L (.int v :: rest) pcE LE SE) : own_Go P b pc L (.int y :: .int x :: rest) pcE LE SE := by
  intro tb _ e below T target m c h hx hy hP k; subst hpc; subst hv; exact XS.isub h hx rfl (hb hy hd) rfl (r tb e below T target m c h hx hy hP k)
theorem own_imul {x y : Int32} {v : Int32} {rest : List Value} {pc2 : Nat} (hd : decode b pc = .ok (.imul, 1)) (hpc : pc + 1 = pc2) (hv : x * y = v) (r : own_Go P b pc2 L (.int v :: rest) pcE LE SE) : own_Go P b pc L (.int y :: .int x :: rest) pcE LE SE := by
  intro tb _ e below T target m c h hx hy hP k; subst hpc; subst hv; exact XS.imul h hx rfl (hb hy hd) rfl (r tb e below T target m c h hx hy hP k)
theorem own_iand {x y : Int32} {v : Int32} {rest : List Value} {pc2 : Nat} (hd : decode b pc = .ok (.iand, 1)) (hpc : pc + 1 = pc2) (hv : x &&& y = v) (r : own_Go P b pc2 L (.int v :: rest) pcE LE SE) : own_Go P b pc L (.int y :: .int x :: rest) pcE LE SE := by
  intro tb _ e below T target m c h hx hy hP k; subst hpc; subst hv; exact XS.iand h hx rfl (hb hy hd) rfl (r tb e below T target m c h hx hy hP k)
theorem own_ior {x y : Int32} {v : Int32} {rest : List Value} {pc2 : Nat} (hd : decode b pc = .ok (.ior, 1)) (hpc : pc + 1 = pc2) (hv : x ||| y = v) (r : own_Go P b pc2 L (.int v :: rest) pcE LE SE) : own_Go P b pc L (.int y :: .int x :: rest) pcE LE SE := by
  intro tb _ e below T target m c h hx hy hP k; subst hpc; subst hv; exact XS.ior h hx rfl (hb hy hd) rfl (r tb e below T target m c h hx hy hP k)
theorem own_ixor {x y : Int32} {v : Int32} {rest : List Value} {pc2 : Nat} (hd : decode b pc = .ok (.ixor, 1)) (hpc : pc + 1 = pc2) (hv : x ^^^ y = v) (r : own_Go P b pc2 L (.int v :: rest) pcE LE SE) : own_Go P b pc L (.int y :: .int x :: rest) pcE LE SE := by
  intro tb _ e below T target m c h hx hy hP k; subst hpc; subst hv; exact XS.ixor h hx rfl (hb hy hd) rfl (r tb e below T target m c h hx hy hP k)
theorem own_ishl {x y : Int32} {v : Int32} {rest : List Value} {pc2 : Nat} (hd : decode b pc = .ok (.ishl, 1)) (hpc : pc + 1 = pc2) (hv : x <<< (y &&& 31) = v) (r : own_Go P b pc2 L (.int v :: rest) pcE LE SE) : own_Go P b pc L (.int y :: .int x :: rest) pcE LE SE := by
  intro tb _ e below T target m c h hx hy hP k; subst hpc; subst hv; exact XS.ishl h hx rfl (hb hy hd) rfl (r tb e below T target m c h hx hy hP k)
theorem own_ishr {x y : Int32} {v : Int32} {rest : List Value} {pc2 : Nat} (hd : decode b pc = .ok (.ishr, 1)) (hpc : pc + 1 = pc2) (hv : x >>> (y &&& 31) = v) (r : own_Go P b pc2 L (.int v :: rest) pcE LE SE) : own_Go P b pc L (.int y :: .int x :: rest) pcE LE SE := by
  intro tb _ e below T target m c h hx hy hP k; subst hpc; subst hv; exact XS.ishr h hx rfl (hb hy hd) rfl (r tb e below T target m c h hx hy hP k)
theorem own_iushr {x y : Int32} {v : Int32} {rest : List Value} {pc2 : Nat} (hd : decode b pc = .ok (.iushr, 1)) (hpc : pc + 1 = pc2) (hv : (x.toUInt32 >>> (y &&& 31).toUInt32).toInt32 = v) (r : own_Go P b pc2 L (.int v :: rest) pcE LE SE) : own_Go P b pc L (.int y :: .int x :: rest) pcE LE SE := by
  intro tb _ e below T target m c h hx hy hP k; subst hpc; subst hv; exact XS.iushr h hx rfl (hb hy hd) rfl (r tb e below T target m c h hx hy hP k)
theorem own_idiv {x y : Int32} {v : Int32} {rest : List Value} {pc2 : Nat} (hd : decode b pc = .ok (.idiv, 1)) (hpc : pc + 1 = pc2) (hn : y ≠ 0) (hv : x / y = v) (r : own_Go P b pc2 L (.int v :: rest) pcE LE SE) : own_Go P b pc L (.int y :: .int x :: rest) pcE LE SE := by
  intro tb _ e below T target m c h hx hy hP k; subst hpc; subst hv; exact XS.idiv h hx rfl (hb hy hd) rfl hn (r tb e below T target m c h hx hy hP k)
theorem own_irem {x y : Int32} {v : Int32} {rest : List Value} {pc2 : Nat} (hd : decode b pc = .ok (.irem, 1)) (hpc : pc + 1 = pc2) (hn : y ≠ 0) (hv : x - (x / y) * y = v) (r : own_Go P b pc2 L (.int v :: rest) pcE LE SE) : own_Go P b pc L (.int y :: .int x :: rest) pcE LE SE := by
  intro tb _ e below T target m c h hx hy hP k; subst hpc; subst hv; exact XS.irem h hx rfl (hb hy hd) rfl hn (r tb e below T target m c h hx hy hP k)
theorem own_ladd {x y : Int64} {v : Int64} {rest : List Value} {pc2 : Nat} (hd : decode b pc = .ok (.ladd, 1)) (hpc : pc + 1 = pc2) (hv : x + y = v) (r : own_Go P b pc2 L (.long v :: rest) pcE LE SE) : own_Go P b pc L (.long y :: .long x :: rest) pcE LE SE := by
  intro tb _ e below T target m c h hx hy hP k; subst hpc; subst hv; exact XS.ladd h hx rfl (hb hy hd) rfl (r tb e below T target m c h hx hy hP k)
theorem own_lsub {x y : Int64} {v : Int64} {rest : List Value} {pc2 : Nat} (hd : decode b pc = .ok (.lsub, 1)) (hpc : pc + 1 = pc2) (hv : x - y = v) (r : own_Go P b pc2 L (.long v :: rest) pcE LE SE) : own_Go P b pc L (.long y :: .long x :: rest) pcE LE SE := by
  intro tb _ e below T target m c h hx hy hP k; subst hpc; subst hv; exact XS.lsub h hx rfl (hb hy hd) rfl (r tb e below T target m c h hx hy hP k)
theorem own_lmul {x y : Int64} {v : Int64} {rest : List Value} {pc2 : Nat} (hd : decode b pc = .ok (.lmul, 1)) (hpc : pc + 1 = pc2) (hv : x * y = v) (r : own_Go P b pc2 L (.long v :: rest) pcE LE SE) : own_Go P b pc L (.long y :: .long x :: rest) pcE LE SE := by
  intro tb _ e below T target m c h hx hy hP k; subst hpc; subst hv; exact XS.lmul h hx rfl (hb hy hd) rfl (r tb e below T target m c h hx hy hP k)
theorem own_land {x y : Int64} {v : Int64} {rest : List Value} {pc2 : Nat} (hd : decode b pc = .ok (.land, 1)) (hpc : pc + 1 = pc2) (hv : x &&& y = v) (r : own_Go P b pc2 L (.long v :: rest) pcE LE SE) : own_Go P b pc L (.long y :: .long x :: rest) pcE LE SE := by
  intro tb _ e below T target m c h hx hy hP k; subst hpc; subst hv; exact XS.land h hx rfl (hb hy hd) rfl (r tb e below T target m c h hx hy hP k)
theorem own_lor {x y : Int64} {v : Int64} {rest : List Value} {pc2 : Nat} (hd : decode b pc = .ok (.lor, 1)) (hpc : pc + 1 = pc2) (hv : x ||| y = v) (r : own_Go P b pc2 L (.long v :: rest) pcE LE SE) : own_Go P b pc L (.long y :: .long x :: rest) pcE LE SE := by
  intro tb _ e below T target m c h hx hy hP k; subst hpc; subst hv; exact XS.lor h hx rfl (hb hy hd) rfl (r tb e below T target m c h hx hy hP k)
theorem own_lxor {x y : Int64} {v : Int64} {rest : List Value} {pc2 : Nat} (hd : decode b pc = .ok (.lxor, 1)) (hpc : pc + 1 = pc2) (hv : x ^^^ y = v) (r : own_Go P b pc2 L (.long v :: rest) pcE LE SE) : own_Go P b pc L (.long y :: .long x :: rest) pcE LE SE := by
  intro tb _ e below T target m c h hx hy hP k; subst hpc; subst hv; exact XS.lxor h hx rfl (hb hy hd) rfl (r tb e below T target m c h hx hy hP k)
theorem own_ldiv {x y : Int64} {v : Int64} {rest : List Value} {pc2 : Nat} (hd : decode b pc = .ok (.ldiv, 1)) (hpc : pc + 1 = pc2) (hn : y ≠ 0) (hv : x / y = v) (r : own_Go P b pc2 L (.long v :: rest) pcE LE SE) : own_Go P b pc L (.long y :: .long x :: rest) pcE LE SE := by
  intro tb _ e below T target m c h hx hy hP k; subst hpc; subst hv; exact XS.ldiv h hx rfl (hb hy hd) rfl hn (r tb e below T target m c h hx hy hP k)
theorem own_lrem {x y : Int64} {v : Int64} {rest : List Value} {pc2 : Nat} (hd : decode b pc = .ok (.lrem, 1)) (hpc : pc + 1 = pc2) (hn : y ≠ 0) (hv : x - (x / y) * y = v) (r : own_Go P b pc2 L (.long v :: rest) pcE LE SE) : own_Go P b pc L (.long y :: .long x :: rest) pcE LE SE := by
  intro tb _ e below T target m c h hx hy hP k; subst hpc; subst hv; exact XS.lrem h hx rfl (hb hy hd) rfl hn (r tb e below T target m c h hx hy hP k)
theorem own_lshl {x : Int64} {y : Int32} {v : Int64} {rest : List Value} {pc2 : Nat} (hd : decode b pc = .ok (.lshl, 1)) (hpc : pc + 1 = pc2) (hv : x <<< (y &&& 0x3f).toInt64 = v) (r : own_Go P b pc2 L (.long v :: rest) pcE LE SE) : own_Go P b pc L (.int y :: .long x :: rest) pcE LE SE := by
  intro tb _ e below T target m c h hx hy hP k; subst hpc; subst hv; exact XS.lshl h hx rfl (hb hy hd) rfl (r tb e below T target m c h hx hy hP k)
theorem own_lshr {x : Int64} {y : Int32} {v : Int64} {rest : List Value} {pc2 : Nat} (hd : decode b pc = .ok (.lshr, 1)) (hpc : pc + 1 = pc2) (hv : x >>> (y &&& 0x3f).toInt64 = v) (r : own_Go P b pc2 L (.long v :: rest) pcE LE SE) : own_Go P b pc L (.int y :: .long x :: rest) pcE LE SE := by
  intro tb _ e below T target m c h hx hy hP k; subst hpc; subst hv; exact XS.lshr h hx rfl (hb hy hd) rfl (r tb e below T target m c h hx hy hP k)
theorem own_lushr {x : Int64} {y : Int32} {v : Int64} {rest : List Value} {pc2 : Nat} (hd : decode b pc = .ok (.lushr, 1)) (hpc : pc + 1 = pc2) (hv : (x.toUInt64 >>> (y &&& 0x3f).toInt64.toUInt64).toInt64 = v) (r : own_Go P b pc2 L (.long v :: rest) pcE LE SE) : own_Go P b pc L (.int y :: .long x :: rest) pcE LE SE := by
  intro tb _ e below T target m c h hx hy hP k; subst hpc; subst hv; exact XS.lushr h hx rfl (hb hy hd) rfl (r tb e below T target m c h hx hy hP k)
theorem own_lcmp {x y : Int64} {v : Int32} {rest : List Value} {pc2 : Nat} (hd : decode b pc = .ok (.lcmp, 1)) (hpc : pc + 1 = pc2) (hv : (if x > y then 1 else if x = y then 0 else -1) = v) (r : own_Go P b pc2 L (.int v :: rest) pcE LE SE) : own_Go P b pc L (.long y :: .long x :: rest) pcE LE SE := by
  intro tb _ e below T target m c h hx hy hP k; subst hpc; subst hv; exact XS.lcmp h hx rfl (hb hy hd) rfl (r tb e below T target m c h hx hy hP k)
theorem own_ineg {x : Int32} {v : Int32} {rest : List Value} {pc2 : Nat} (hd : decode b pc = .ok (.ineg, 1)) (hpc : pc + 1 = pc2) (hv : -x = v) (r : own_Go P b pc2 L (.int v :: rest) pcE LE SE) : own_Go P b pc L (.int x :: rest) pcE LE SE := by
  intro tb _ e below T target m c h hx hy hP k; subst hpc; subst hv; exact XS.ineg h hx rfl (hb hy hd) rfl (r tb e below T target m c h hx hy hP k)
theorem own_lneg {x : Int64} {v : Int64} {rest : List Value} {pc2 : Nat} (hd : decode b pc = .ok (.lneg, 1)) (hpc : pc + 1 = pc2) (hv : -x = v) (r : own_Go P b pc2 L (.long v :: rest) pcE LE SE) : own_Go P b pc L (.long x :: rest) pcE LE SE := by
  intro tb _ e below T target m c h hx hy hP k; subst hpc; subst hv; exact XS.lneg h hx rfl (hb hy hd) rfl (r tb e below T target m c h hx hy hP k)
theorem own_i2l {x : Int32} {v : Int64} {rest : List Value} {pc2 : Nat} (hd : decode b pc = .ok (.i2l, 1)) (hpc : pc + 1 = pc2) (hv : x.toInt64 = v) (r : own_Go P b pc2 L (.long v :: rest) pcE LE SE) : own_Go P b pc L (.int x :: rest) pcE LE SE := by
  intro tb _ e below T target m c h hx hy hP k; subst hpc; subst hv; exact XS.i2l h hx rfl (hb hy hd) rfl (r tb e below T target m c h hx hy hP k)
theorem own_l2i {x : Int64} {v : Int32} {rest : List Value} {pc2 : Nat} (hd : decode b pc = .ok (.l2i, 1)) (hpc : pc + 1 = pc2) (hv : x.toInt32 = v) (r : own_Go P b pc2 L (.int v :: rest) pcE LE SE) : own_Go P b pc L (.long x :: rest) pcE LE SE := by
  intro tb _ e below T target m c h hx hy hP k; subst hpc; subst hv; exact XS.l2i h hx rfl (hb hy hd) rfl (r tb e below T target m c h hx hy hP k)
theorem own_i2b {x : Int32} {v : Int32} {rest : List Value} {pc2 : Nat} (hd : decode b pc = .ok (.i2b, 1)) (hpc : pc + 1 = pc2) (hv : x.toInt8.toInt32 = v) (r : own_Go P b pc2 L (.int v :: rest) pcE LE SE) : own_Go P b pc L (.int x :: rest) pcE LE SE := by
  intro tb _ e below T target m c h hx hy hP k; subst hpc; subst hv; exact XS.i2b h hx rfl (hb hy hd) rfl (r tb e below T target m c h hx hy hP k)
theorem own_i2c {x : Int32} {v : Int32} {rest : List Value} {pc2 : Nat} (hd : decode b pc = .ok (.i2c, 1)) (hpc : pc + 1 = pc2) (hv : x.toUInt32.toUInt16.toUInt32.toInt32 = v) (r : own_Go P b pc2 L (.int v :: rest) pcE LE SE) : own_Go P b pc L (.int x :: rest) pcE LE SE := by
  intro tb _ e below T target m c h hx hy hP k; subst hpc; subst hv; exact XS.i2c h hx rfl (hb hy hd) rfl (r tb e below T target m c h hx hy hP k)
theorem own_i2d {x : Int32} {v : UInt64} {rest : List Value} {pc2 : Nat} (hd : decode b pc = .ok (.i2d, 1)) (hpc : pc + 1 = pc2) (hv : FP.i2d x = v) (r : own_Go P b pc2 L (.double v :: rest) pcE LE SE) : own_Go P b pc L (.int x :: rest) pcE LE SE := by
  intro tb _ e below T target m c h hx hy hP k; subst hpc; subst hv; exact XS.i2dS h hx rfl (hb hy hd) rfl rfl (r tb e below T target m c h hx hy hP k)
theorem own_l2d {x : Int64} {v : UInt64} {rest : List Value} {pc2 : Nat} (hd : decode b pc = .ok (.l2d, 1)) (hpc : pc + 1 = pc2) (hv : FP.l2d x = v) (r : own_Go P b pc2 L (.double v :: rest) pcE LE SE) : own_Go P b pc L (.long x :: rest) pcE LE SE := by
  intro tb _ e below T target m c h hx hy hP k; subst hpc; subst hv; exact XS.l2dS h hx rfl (hb hy hd) rfl rfl (r tb e below T target m c h hx hy hP k)
theorem own_d2i {x : UInt64} {v : Int32} {rest : List Value} {pc2 : Nat} (hd : decode b pc = .ok (.d2i, 1)) (hpc : pc + 1 = pc2) (hv : FP.d2i x = v) (r : own_Go P b pc2 L (.int v :: rest) pcE LE SE) : own_Go P b pc L (.double x :: rest) pcE LE SE := by
  intro tb _ e below T target m c h hx hy hP k; subst hpc; subst hv; exact XS.d2iS h hx rfl (hb hy hd) rfl rfl (r tb e below T target m c h hx hy hP k)
theorem own_d2l {x : UInt64} {v : Int64} {rest : List Value} {pc2 : Nat} (hd : decode b pc = .ok (.d2l, 1)) (hpc : pc + 1 = pc2) (hv : FP.d2l x = v) (r : own_Go P b pc2 L (.long v :: rest) pcE LE SE) : own_Go P b pc L (.double x :: rest) pcE LE SE := by
  intro tb _ e below T target m c h hx hy hP k; subst hpc; subst hv; exact XS.d2lS h hx rfl (hb hy hd) rfl rfl (r tb e below T target m c h hx hy hP k)
theorem own_dneg {x : UInt64} {v : UInt64} {rest : List Value} {pc2 : Nat} (hd : decode b pc = .ok (.dneg, 1)) (hpc : pc + 1 = pc2) (hv : FP.dneg x = v) (r : own_Go P b pc2 L (.double v :: rest) pcE LE SE) : own_Go P b pc L (.double x :: rest) pcE LE SE := by
  intro tb _ e below T target m c h hx hy hP k; subst hpc; subst hv; exact XS.dnegS h hx rfl (hb hy hd) rfl rfl (r tb e below T target m c h hx hy hP k)
theorem own_dcmp {o : CmpOp} {x y : UInt64} {v : Int32} {rest : List Value} {pc2 : Nat} (hd : decode b pc = .ok (.dcmp o, 1)) (hpc : pc + 1 = pc2) (hv : cmpValue (FP.dcmp x y) o = v) (r : own_Go P b pc2 L (.int v :: rest) pcE LE SE) : own_Go P b pc L (.double y :: .double x :: rest) pcE LE SE := by
  intro tb _ e below T target m c h hx hy hP k; subst hpc; subst hv; exact XS.dcmpS h hx rfl (hb hy hd) rfl rfl (r tb e below T target m c h hx hy hP k)
theorem own_dadd {x y : UInt64} {v : UInt64} {rest : List Value} {pc2 : Nat} (hd : decode b pc = .ok (.dadd, 1)) (hpc : pc + 1 = pc2) (hn : NoNaN64 (FP.dadd x y)) (hv : FP.dadd x y = v) (r : own_Go P b pc2 L (.double v :: rest) pcE LE SE) : own_Go P b pc L (.double y :: .double x :: rest) pcE LE SE := by
  intro tb _ e below T target m c h hx hy hP k; subst hpc; subst hv; exact XS.daddS h hx rfl (hb hy hd) rfl hn rfl (r tb e below T target m c h hx hy hP k)
theorem own_dsub {x y : UInt64} {v : UInt64} {rest : List Value} {pc2 : Nat} (hd : decode b pc = .ok (.dsub, 1)) (hpc : pc + 1 = pc2) (hn : NoNaN64 (FP.dsub x y)) (hv : FP.dsub x y = v) (r : own_Go P b pc2 L (.double v :: rest) pcE LE SE) : own_Go P b pc L (.double y :: .double x :: rest) pcE LE SE := by
  intro tb _ e below T target m c h hx hy hP k; subst hpc; subst hv; exact XS.dsubS h hx rfl (hb hy hd) rfl hn rfl (r tb e below T target m c h hx hy hP k)
theorem own_dmul {x y : UInt64} {v : UInt64} {rest : List Value} {pc2 : Nat} (hd : decode b pc = .ok (.dmul, 1)) (hpc : pc + 1 = pc2) (hn : NoNaN64 (FP.dmul x y)) (hv : FP.dmul x y = v) (r : own_Go P b pc2 L (.double v :: rest) pcE LE SE) : own_Go P b pc L (.double y :: .double x :: rest) pcE LE SE := by
  intro tb _ e below T target m c h hx hy hP k; subst hpc; subst hv; exact XS.dmulS h hx rfl (hb hy hd) rfl hn rfl (r tb e below T target m c h hx hy hP k)
theorem own_ddiv {x y : UInt64} {v : UInt64} {rest : List Value} {pc2 : Nat} (hd : decode b pc = .ok (.ddiv, 1)) (hpc : pc + 1 = pc2) (hn : NoNaN64 (FP.ddiv x y)) (hv : FP.ddiv x y = v) (r : own_Go P b pc2 L (.double v :: rest) pcE LE SE) : own_Go P b pc L (.double y :: .double x :: rest) pcE LE SE := by
  intro tb _ e below T target m c h hx hy hP k; subst hpc; subst hv; exact XS.ddivS h hx rfl (hb hy hd) rfl hn rfl (r tb e below T target m c h hx hy hP k)
theorem own_dup {v : Value} {rest : List Value} {pc2 : Nat} (hd : decode b pc = .ok (.dup, 1)) (hpc : pc + 1 = pc2) (hc : v.category = 1) (r : own_Go P b pc2 L (v :: v :: rest) pcE LE SE) : own_Go P b pc L (v :: rest) pcE LE SE := by
  intro tb _ e below T target m c h hx hy hP k; subst hpc; exact XS.dup h hx rfl (hb hy hd) rfl hc (r tb e below T target m c h hx hy hP k)
theorem own_pop {v : Value} {rest : List Value} {pc2 : Nat} (hd : decode b pc = .ok (.pop, 1)) (hpc : pc + 1 = pc2) (hc : v.category = 1) (r : own_Go P b pc2 L (rest) pcE LE SE) : own_Go P b pc L (v :: rest) pcE LE SE := by
  intro tb _ e below T target m c h hx hy hP k; subst hpc; exact XS.pop h hx rfl (hb hy hd) rfl hc (r tb e below T target m c h hx hy hP k)
theorem own_dupX1 {v w : Value} {rest : List Value} {pc2 : Nat} (hd : decode b pc = .ok (.dup_x1, 1)) (hpc : pc + 1 = pc2) (hc : v.category = 1) (hc' : w.category = 1) (r : own_Go P b pc2 L (v :: w :: v :: rest) pcE LE SE) : own_Go P b pc L (v :: w :: rest) pcE LE SE := by
  intro tb _ e below T target m c h hx hy hP k; subst hpc; exact XS.dupX1 h hx rfl (hb hy hd) rfl hc hc' (r tb e below T target m c h hx hy hP k)
theorem own_dup2 {v w : Value} {rest : List Value} {pc2 : Nat} (hd : decode b pc = .ok (.dup2, 1)) (hpc : pc + 1 = pc2) (hc : v.category = 1) (hc' : w.category = 1) (r : own_Go P b pc2 L (v :: w :: v :: w :: rest) pcE LE SE) : own_Go P b pc L (v :: w :: rest) pcE LE SE := by
  intro tb _ e below T target m c h hx hy hP k; subst hpc; exact XT.dup2 h hx rfl (hb hy hd) rfl hc hc' (r tb e below T target m c h hx hy hP k)
theorem own_ifYes {cd : ClassFile.Cond} {x : Int32} {o : Int} {pc' : Nat} {rest : List Value} (hd : decode b pc = .ok (.ifCond cd o, 3)) (hc : ifCond.holds cd x = true) (ho : 0 ≤ (pc : Int) + o) (hp : ((pc : Int) + o).toNat = pc') (r : own_Go P b pc' L rest pcE LE SE) : own_Go P b pc L (.int x :: rest) pcE LE SE := by
  intro tb _ e below T target m c h hx hy hP k; exact XS.ifYes h hx rfl rfl (hb hy hd) rfl hc ho hp (r tb e below T target m c h hx hy hP k)
theorem own_ifNo {cd : ClassFile.Cond} {x : Int32} {o : Int} {rest : List Value} {pc2 : Nat} (hd : decode b pc = .ok (.ifCond cd o, 3)) (hpc : pc + 3 = pc2) (hc : ifCond.holds cd x = false) (r : own_Go P b pc2 L rest pcE LE SE) : own_Go P b pc L (.int x :: rest) pcE LE SE := by
  intro tb _ e below T target m c h hx hy hP k; subst hpc; exact XS.ifNo h hx rfl (hb hy hd) rfl hc (r tb e below T target m c h hx hy hP k)
theorem own_icmpYes {cd : ClassFile.Cond} {x y : Int32} {o : Int} {pc' : Nat} {rest : List Value} (hd : decode b pc = .ok (.if_icmp cd o, 3)) (hc : if_icmp.holds cd x y = true) (ho : 0 ≤ (pc : Int) + o) (hp : ((pc : Int) + o).toNat = pc') (r : own_Go P b pc' L rest pcE LE SE) : own_Go P b pc L (.int y :: .int x :: rest) pcE LE SE := by
  intro tb _ e below T target m c h hx hy hP k; exact XS.icmpYes h hx rfl rfl (hb hy hd) rfl hc ho hp (r tb e below T target m c h hx hy hP k)
theorem own_icmpNo {cd : ClassFile.Cond} {x y : Int32} {o : Int} {rest : List Value} {pc2 : Nat} (hd : decode b pc = .ok (.if_icmp cd o, 3)) (hpc : pc + 3 = pc2) (hc : if_icmp.holds cd x y = false) (r : own_Go P b pc2 L rest pcE LE SE) : own_Go P b pc L (.int y :: .int x :: rest) pcE LE SE := by
  intro tb _ e below T target m c h hx hy hP k; subst hpc; exact XS.icmpNo h hx rfl (hb hy hd) rfl hc (r tb e below T target m c h hx hy hP k)
theorem own_ifnullYes {o : Int} {pc' : Nat} {rest : List Value} (hd : decode b pc = .ok (.ifnull o, 3)) (ho : 0 ≤ (pc : Int) + o) (hp : ((pc : Int) + o).toNat = pc') (r : own_Go P b pc' L rest pcE LE SE) : own_Go P b pc L (.null :: rest) pcE LE SE := by
  intro tb _ e below T target m c h hx hy hP k; exact XS.ifnullYes h hx rfl rfl (hb hy hd) rfl ho hp (r tb e below T target m c h hx hy hP k)
theorem own_ifnullNo {o : Int} {a : Addr} {rest : List Value} {pc2 : Nat} (hd : decode b pc = .ok (.ifnull o, 3)) (hpc : pc + 3 = pc2) (r : own_Go P b pc2 L rest pcE LE SE) : own_Go P b pc L (.ref a :: rest) pcE LE SE := by
  intro tb _ e below T target m c h hx hy hP k; subst hpc; exact XS.ifnullNo h hx rfl (hb hy hd) rfl (r tb e below T target m c h hx hy hP k)
theorem own_ifnonnullYes {o : Int} {pc' : Nat} {a : Addr} {rest : List Value} (hd : decode b pc = .ok (.ifnonnull o, 3)) (ho : 0 ≤ (pc : Int) + o) (hp : ((pc : Int) + o).toNat = pc') (r : own_Go P b pc' L rest pcE LE SE) : own_Go P b pc L (.ref a :: rest) pcE LE SE := by
  intro tb _ e below T target m c h hx hy hP k; exact XS.ifnonnullYes h hx rfl rfl (hb hy hd) rfl ho hp (r tb e below T target m c h hx hy hP k)
theorem own_ifnonnullNo {o : Int} {rest : List Value} {pc2 : Nat} (hd : decode b pc = .ok (.ifnonnull o, 3)) (hpc : pc + 3 = pc2) (r : own_Go P b pc2 L rest pcE LE SE) : own_Go P b pc L (.null :: rest) pcE LE SE := by
  intro tb _ e below T target m c h hx hy hP k; subst hpc; exact XS.ifnonnullNo h hx rfl (hb hy hd) rfl (r tb e below T target m c h hx hy hP k)
theorem own_acmpYes {cd : ClassFile.ACond} {x y : Addr} {o : Int} {pc' : Nat} {rest : List Value} (hd : decode b pc = .ok (.if_acmp cd o, 3)) (hc : if_acmp.holds cd (some x) (some y) = true) (ho : 0 ≤ (pc : Int) + o) (hp : ((pc : Int) + o).toNat = pc') (r : own_Go P b pc' L rest pcE LE SE) : own_Go P b pc L (.ref y :: .ref x :: rest) pcE LE SE := by
  intro tb _ e below T target m c h hx hy hP k; exact XS.acmpYes h hx rfl rfl (hb hy hd) rfl hc ho hp (r tb e below T target m c h hx hy hP k)
theorem own_acmpNo {cd : ClassFile.ACond} {x y : Addr} {o : Int} {rest : List Value} {pc2 : Nat} (hd : decode b pc = .ok (.if_acmp cd o, 3)) (hpc : pc + 3 = pc2) (hc : if_acmp.holds cd (some x) (some y) = false) (r : own_Go P b pc2 L rest pcE LE SE) : own_Go P b pc L (.ref y :: .ref x :: rest) pcE LE SE := by
  intro tb _ e below T target m c h hx hy hP k; subst hpc; exact XS.acmpNo h hx rfl (hb hy hd) rfl hc (r tb e below T target m c h hx hy hP k)
theorem own_goto {o : Int} {pc' : Nat} (hd : decode b pc = .ok (.goto o, 3)) (ho : 0 ≤ (pc : Int) + o) (hp : ((pc : Int) + o).toNat = pc') (r : own_Go P b pc' L S pcE LE SE) : own_Go P b pc L S pcE LE SE := by
  intro tb _ e below T target m c h hx hy hP k; exact XS.goto h hx rfl rfl (hb hy hd) ho hp (r tb e below T target m c h hx hy hP k)
theorem own_iinc {j : Nat} {cst : Int} {x v : Int32} {pc2 : Nat} (hd : decode b pc = .ok (.iinc j cst, 3)) (hpc : pc + 3 = pc2) (hl : L[j]? = some (.val (.int x))) (hv : x + Int32.ofInt cst = v) (hl' : storeLocals L j (.int v) = some L') (r : own_Go P b pc2 L' S pcE LE SE) : own_Go P b pc L S pcE LE SE := by
  intro tb _ e below T target m c h hx hy hP k; subst hpc; subst hv; exact XS.iinc h hx rfl (hb hy hd) hl hl' (r tb e below T target m c h hx hy hP k)
theorem own_ldc {i : Nat} {v : Int32} {pc2 : Nat} (hd : decode b pc = .ok (.ldc i, 2)) (hpc : pc + 2 = pc2) (hk : (i, Value.int v) ∈ P) (r : own_Go P b pc2 L (.int v :: S) pcE LE SE) : own_Go P b pc L S pcE LE SE := by
  intro tb _ e below T target m c h hx hy hP k; subst hpc; exact (hP _ hk (mkF m pc L S) target rfl).1 ⟨_, rfl⟩ (hb hy hd) (r tb e below T target m c h hx hy hP k)
theorem own_ldcW {i : Nat} {v : Int32} {pc2 : Nat} (hd : decode b pc = .ok (.ldc_w i, 3)) (hpc : pc + 3 = pc2) (hk : (i, Value.int v) ∈ P) (r : own_Go P b pc2 L (.int v :: S) pcE LE SE) : own_Go P b pc L S pcE LE SE := by
  intro tb _ e below T target m c h hx hy hP k; subst hpc; exact (hP _ hk (mkF m pc L S) target rfl).2.1 ⟨_, rfl⟩ (hb hy hd) (r tb e below T target m c h hx hy hP k)
theorem own_ldc2L {i : Nat} {v : Int64} {pc2 : Nat} (hd : decode b pc = .ok (.ldc2_w i, 3)) (hpc : pc + 3 = pc2) (hk : (i, Value.long v) ∈ P) (r : own_Go P b pc2 L (.long v :: S) pcE LE SE) : own_Go P b pc L S pcE LE SE := by
  intro tb _ e below T target m c h hx hy hP k; subst hpc; exact (hP _ hk (mkF m pc L S) target rfl).2.2 (Or.inl ⟨_, rfl⟩) (hb hy hd) (r tb e below T target m c h hx hy hP k)
theorem own_ldc2D {i : Nat} {v : UInt64} {pc2 : Nat} (hd : decode b pc = .ok (.ldc2_w i, 3)) (hpc : pc + 3 = pc2) (hk : (i, Value.double v) ∈ P) (r : own_Go P b pc2 L (.double v :: S) pcE LE SE) : own_Go P b pc L S pcE LE SE := by
  intro tb _ e below T target m c h hx hy hP k; subst hpc; exact (hP _ hk (mkF m pc L S) target rfl).2.2 (Or.inr ⟨_, rfl⟩) (hb hy hd) (r tb e below T target m c h hx hy hP k)
end OwnWalk
section OwnPool
open Jvm.Free Jvm.Stand
variable {p : Program} {l : Launch} {e : Env} {R : Room} {s : State} {m : MethodId} {args : Array Value} {below : List Frame} {meth : Method} {c : Code} {T : State} {locs : List Loc} {cells slots : Nat} {Z : State} {a0 : Array Value}
def own_Word (own : String) (i : Nat) : Value → Jvm.Cond → Prop
  | .int v, w => w = .constant own i v
  | .long v, w => w = .constantLong own i v
  | .double v, w => w = .constantDouble own i v
  | _, _ => False
theorem own_pool1 (X : Stand p l e R s m args below meth c T locs cells slots) (hx : p.tables.exec = Jvm.exec) (hZ : Z.Warmed39 s.vm) {own : String} (hown : s.vm.findClass own = some m.cls) {i : Nat} {v : Value} {w : Jvm.Cond} (hv : own_Word own i v w) (hw : w.before a0 Z = true) : own_Ldc p.tables e below T m c i v := by
  intro g target hg
  cases v with
  | int v =>
    cases (show w = .constant own i v from hv)
    exact ⟨fun _ hd k => X.ldcInt hx hown (mvT hZ hw) hg hd target k, fun _ hd k => X.ldcwInt hx hown (mvT hZ hw) hg hd target k, fun h => (by rcases h with ⟨_, h⟩ | ⟨_, h⟩ <;> cases h)⟩
  | long v =>
    cases (show w = .constantLong own i v from hv)
    exact ⟨fun h => (by obtain ⟨_, h⟩ := h; cases h), fun h => (by obtain ⟨_, h⟩ := h; cases h), fun _ hd k => X.ldc2Long hx hown (mvT hZ hw) hg hd target k⟩
  | double v =>
    cases (show w = .constantDouble own i v from hv)
    exact ⟨fun h => (by obtain ⟨_, h⟩ := h; cases h), fun h => (by obtain ⟨_, h⟩ := h; cases h), fun _ hd k => X.ldc2DoubleC hx hown (mvT hZ hw) hg hd target k⟩
  | _ => exact absurd hv (fun h => h)
theorem own_pool (X : Stand p l e R s m args below meth c T locs cells slots) (hx : p.tables.exec = Jvm.exec) (hZ : Z.Warmed39 s.vm) {own : String} (hown : s.vm.findClass own = some m.cls) {ws : List Jvm.Cond} (hw : ∀ d ∈ ws, d.before a0 Z = true) {P : List (Nat × Value)} (hP : ∀ q ∈ P, ∃ w ∈ ws, own_Word own q.1 q.2 w) : ∀ q ∈ P, own_Ldc p.tables e below T m c q.1 q.2 := by
  intro q hq
  obtain ⟨w, h1, h2⟩ := hP q hq
  exact own_pool1 X hx hZ hown h2 (hw w h1)
end OwnPool
/-! the call layer: a method that leaves the heap as it was, and its call -/
section OwnCall
open Jvm.Free Jvm.Stand Jvm.LawKit Jvm.RoadKit
variable {p : Program} {l : Launch} {e : Env} {R : Room} {s : State} {m : MethodId} {args : Array Value} {below : List Frame} {meth : Method} {c : Code} {T : State} {locs : List Loc} {cells slots : Nat} {Z : State} {a0 : Array Value} {h : Heap}
abbrev own_room (fr lo : Nat) : Room := { frames := fr, cells := 0, slots := 0, locals := lo }
def own_Pure (l : Launch) (Z : State) (y : MethodName) (bytes : ByteArray) (maxL : Nat) (ret : Option FieldType) (fr lo : Nat) (as' : Array Value) (h : Heap) (v : Option Value) : Prop :=
  MetFree l y (head1 [Jvm.Cond.code y bytes maxL ret] (own_room fr lo)) (fun a U => a = as' ∧ Z.Warmed39 U.vm ∧ U.heap = h) (fun _ _ _ _ _ => True) (fun _ U o U' => ∃ w L, o = .returned w ∧ (w = v ∧ L = [] ∧ U'.heap = h) ∧ FrameEnd U o U' L (own_room fr lo).cells (own_room fr lo).slots)
def own_Ret (i : Instr) (t : FieldType) (w : Value) : Prop := narrow t w = w ∧ ((i = .ireturn ∧ (t = .int ∨ t = .boolean ∨ t = .byte ∨ t = .char ∨ t = .short) ∧ ∃ z, w = .int z) ∨ (i = .lreturn ∧ t = .long ∧ ∃ z, w = .long z) ∨ (i = .dreturn ∧ t = .double ∧ ∃ z, w = .double z) ∨ (i = .freturn ∧ t = .float ∧ ∃ z, w = .float z) ∨ (i = .areturn ∧ t.isReference = true ∧ w.isRef = true))
theorem own_retD (x : UInt64) : own_Ret .dreturn .double (.double x) := ⟨rfl, Or.inr (Or.inr (Or.inl ⟨rfl, rfl, x, rfl⟩))⟩
theorem own_retI (x : Int32) : own_Ret .ireturn .int (.int x) := ⟨rfl, Or.inl ⟨rfl, Or.inl rfl, x, rfl⟩⟩
theorem own_retJ (x : Int64) : own_Ret .lreturn .long (.long x) := ⟨rfl, Or.inr (Or.inl ⟨rfl, rfl, x, rfl⟩)⟩
theorem own_retZ {x : Int32} (hx : x = 0 ∨ x = 1) : own_Ret .ireturn .boolean (.int x) := ⟨by rcases hx with rfl | rfl <;> rfl, Or.inl ⟨rfl, Or.inr (Or.inl rfl), x, rfl⟩⟩
theorem own_pure_go {y : MethodName} {bytes : ByteArray} {maxL : Nat} {t : FieldType} {as' : Array Value} {P : List (Nat × Value)} {L0 LR : Array Slot} {SR : List Value} {pcR : Nat} {val : Value} {i : Instr} {ws : List Jvm.Cond} (hpl : plainName y.cls = true) (hw : ∀ d ∈ ws, d.before a0 Z = true) (hP : ∀ q ∈ P, ∃ w ∈ ws, own_Word y.cls q.1 q.2 w)
    (hef : ∀ m, entryFrame m as' maxL = mkF m 0 L0 []) (body : own_Go P bytes 0 L0 [] pcR LR (val :: SR)) (hd : decode bytes pcR = .ok (i, 1)) (hr : own_Ret i t val) : own_Pure l Z y bytes maxL (some t) 0 0 as' h (some val) := by
  refine MetFree.of_bodySF (plainFor_of_name hpl) hisR ?_
  intro p e s m args below meth c s₁ Bd hml0 hPP hK
  obtain ⟨rfl, hZ, hh⟩ := hPP
  have hx := Bd.exec
  have hby := Bd.bytes
  have hown : s.vm.findClass y.cls = some m.cls := findClass_of_methodNamed Bd.named
  have X0 : Stand p l e (own_room 0 0) s m _ below meth c s₁ [] 0 0 := Stand.of_body Bd
  have e0 : s₁.heap = h := by rw [← hh, Bd.state]; rfl
  obtain ⟨fs, hr', hrun, hended, hW, hsame⟩ := X0.leave (v := some val) (fun h => by rw [Bd.returns] at h; cases h)
  refine ⟨_, _, castTop (hef m) (body p.tables e below s₁ _ m c X0.here hx hby (own_pool X0 hx hZ hown hw hP) (retOut X0 hx Bd.returns hr.1 hr.2 (hb hby hd) hr')), hrun, hended, _, _, rfl, ⟨rfl, rfl, ?_⟩, ⟨_, rfl⟩, hW, hsame⟩
  exact e0
theorem own_callP (X : Stand p l e R s m args below meth c T locs cells slots) (hx : p.tables.exec = Jvm.exec) (hZ : Z.Warmed39 s.vm) {own : String} {index : Nat} {y : MethodName} {bytes : ByteArray} {maxL : Nat} {ret : Option FieldType} (hown : s.vm.findClass own = some m.cls)
    (w1 : (Jvm.Cond.methodLink own index y).before a0 Z = true) (w2 : (Jvm.Cond.static y).before a0 Z = true) (w3 : (Jvm.Cond.initialized y.cls).before a0 Z = true) (w4 : (Jvm.Cond.code y bytes maxL ret).before a0 Z = true) (hy : y.cls ≠ "java/lang/invoke/MethodHandle" ∧ y.cls ≠ "java/lang/invoke/VarHandle")
    (eT : T.heap = h) {fr lo W : Nat} {argsL rest : List Value} {v : Option Value} (hM : own_Pure l Z y bytes maxL ret fr lo argsL.toArray h v) (hf : fr + 1 ≤ R.frames) (hl : W + (maxL + 11) + lo ≤ R.locals) (hc : cells ≤ R.cells) (hs : slots ≤ R.slots)
    {g : JFrame} (hg : g.method = m) (hsize : g.locals.size = c.maxLocals) (hlen : ∀ sig, parseMethodDescriptor y.desc = some sig → argsL.length = sig.parameters.length) (hst : g.stack = argsL.reverse ++ rest) (hW : 2 * g.monitorRoom + (rest.map fun v => v.category).sum ≤ W) (hd : decode c.code g.pc = .ok (.invokestatic index, 3)) :
    ∃ T', Stand p l e R s m args below meth c T' locs cells slots ∧ T'.heap = h ∧ ∀ target, Steps p.tables e below (T'.setTop { g with pc := g.pc + 3, stack := v.toList ++ rest }) target → Steps p.tables e below (T.setTop g) target := by
  obtain ⟨v', vm1, ⟨T2, L2, k2, n2⟩, -, X2, ⟨Lc, hQ, l2, y2, z2⟩, st⟩ := Jvm.LawKit.callS X hx hown (mvT hZ w1) (mvT hZ w2) (mvT hZ w3) (mvT hZ w4) hy (backOf (W := W) (rm := own_room fr lo) (Q := fun w H L => w = v ∧ L = [] ∧ H = h) hM hZ w4 w3 hf hl) hg hsize hlen hst hW hd (fun _ _ => ⟨rfl, eT, hc, hs⟩)
  dsimp only [Pt.U, Pt.locs, Pt.cells, Pt.slots] at X2 l2 y2 z2 st hQ
  obtain ⟨rfl, rfl, e2⟩ := hQ
  subst l2 y2 z2
  rw [List.append_nil] at X2
  exact ⟨T2, X2, e2, st⟩
end OwnCall
/-! the heap layer: own_Hp says what the cells made since the start hold; one rule a step -/
section OwnHeap
open Jvm.Free Jvm.Stand Jvm.LawKit Jvm.RoadKit
abbrev own_Cel := (String × List (String × String × String × Value)) ⊕ (FieldType × List Value)
abbrev own_O (C : String) (fs : List (String × String × String × Value)) : own_Cel := Sum.inl (C, fs)
abbrev own_A (ty : FieldType) (vs : List Value) : own_Cel := Sum.inr (ty, vs)
/-- what is known of an array's class -/
def own_AC (Z : State) (h : Heap) (a : Addr) (c : Cell) (ty : FieldType) : Prop :=
  match ty with
  | .object C => Ovr Z c.cls C
  | .array t => OvrA Z c.cls t (FieldType.array t).toString ∧ Exa Z h a ("[" ++ (FieldType.array t).toString)
  | t => Exa Z h a ("[" ++ t.toString)
theorem own_AC_map {Z : State} {h h' : Heap} {a : Addr} {c c' : Cell} {ty : FieldType} (hc : c'.cls = c.cls) (hE : ∀ C, Exa Z h a C → Exa Z h' a C) (H : own_AC Z h a c ty) : own_AC Z h' a c' ty := by
  cases ty <;> simp only [own_AC, hc] at H ⊢ <;> first | exact H | exact hE _ H | exact ⟨H.1, hE _ H.2⟩
def own_Is (Z : State) (a0 : Array Value) (h : Heap) (a : Addr) (q : own_Cel) : Prop :=
  match q with
  | .inl (C, fs) => Exa Z h a C ∧ (∀ f ∈ fs, Fld Z h a f.1 f.2.1 f.2.2.1 f.2.2.2 ∧ Laid Z a0 C f.1 f.2.1 f.2.2.1 ∧ ∃ t, parseFieldDescriptor f.2.2.1 = some t) ∧ (fs.map fun f => f.2.1).Nodup
  | .inr (ty, vs) => ∃ c : Cell, Arr Z h a c ty ∧ c.slots.toList = vs ∧ own_AC Z h a c ty
/-- the start's heap, and a floor that the heap has not fallen below -/
abbrev own_Base : Type := Heap × Nat
abbrev own_Base.b (hb : own_Base) : Heap := hb.1
abbrev own_Base.fl (hb : own_Base) : Nat := hb.2
abbrev own_Base.size (hb : own_Base) : Nat := hb.b.size
def own_Bx (hb : own_Base) (h : Heap) : Prop := Ext hb.b h ∧ hb.fl ≤ h.size
def own_Hp (Z : State) (a0 : Array Value) (hb : own_Base) (h : Heap) (cs : List (Addr × own_Cel)) : Prop := own_Bx hb h ∧ (∀ q ∈ cs, own_Is Z a0 h q.1 q.2 ∧ hb.size ≤ q.1) ∧ (cs.map Prod.fst).Nodup
section Facts
variable {Z : State} {a0 : Array Value} {hb : own_Base} {h h' : Heap} {cs : List (Addr × own_Cel)} {a b : Addr} {q : own_Cel}
theorem own_Is_lt (H : own_Is Z a0 h a q) : a < h.size := by
  match q, H with
  | .inl (C, fs), H => exact H.1.lt
  | .inr (ty, vs), ⟨c, A, _⟩ => exact A.lt
theorem own_Is_ext (E : Ext h h') (H : own_Is Z a0 h a q) : own_Is Z a0 h' a q := by
  match q, H with
  | .inl (C, fs), H => exact ⟨H.1.ext E, fun f hf => ⟨(H.2.1 f hf).1.ext E, (H.2.1 f hf).2⟩, H.2.2⟩
  | .inr (ty, vs), ⟨c, A, e⟩ => exact ⟨c, A.ext E, e.1, own_AC_map rfl (fun C F => F.ext E) e.2⟩
theorem own_Is_wr {sl : Nat} {v : Value} (W : Wr h h' b sl v) (hne : a ≠ b) (H : own_Is Z a0 h a q) : own_Is Z a0 h' a q := by
  match q, H with
  | .inl (C, fs), H => exact ⟨H.1.wr W, fun f hf => ⟨(H.2.1 f hf).1.other W (Or.inl hne), (H.2.1 f hf).2⟩, H.2.2⟩
  | .inr (ty, vs), ⟨c, A, e⟩ => exact ⟨c, A.other W hne, e.1, own_AC_map rfl (fun C F => F.wr W) e.2⟩
theorem own_ext_trans {h1 h2 h3 : Heap} (E : Ext h1 h2) (F : Ext h2 h3) : Ext h1 h3 := ⟨Nat.le_trans E.1 F.1, fun a c q => F.2 a c (E.2 a c q)⟩
theorem own_ext_refl (h1 : Heap) : Ext h1 h1 := ⟨Nat.le_refl _, fun _ _ q => q⟩
theorem own_bx_trans (E : own_Bx hb h) (F : Ext h h') : own_Bx hb h' := ⟨own_ext_trans E.1 F, Nat.le_trans E.2 F.1⟩
theorem own_ext_wr {sl : Nat} {v : Value} (E0 : own_Bx hb h) (W : Wr h h' b sl v) (hn : hb.size ≤ b) : own_Bx hb h' := by
  obtain ⟨E, E2⟩ := E0
  refine ⟨⟨by rw [W.size]; exact E.1, fun x c q => ?_⟩, by rw [W.size]; exact E2⟩
  have hx : x < hb.size := (Array.getElem?_eq_some_iff.mp q).1
  obtain ⟨cb, h1, -, -, -, h5, -⟩ := wr_at W (E.2 x c q)
  rw [h1, h5 (Nat.ne_of_lt (Nat.lt_of_lt_of_le hx hn))]
theorem own_Hp_start (Z : State) (a0 : Array Value) (hb : Heap) : own_Hp Z a0 ⟨hb, 0⟩ hb [] := ⟨⟨own_ext_refl hb, Nat.zero_le _⟩, fun q hq => absurd hq List.not_mem_nil, List.nodup_nil⟩
theorem own_Hp_new (H : own_Hp Z a0 hb h cs) (E : Ext h h') (N : own_Is Z a0 h' h.size q) : own_Hp Z a0 hb h' (cs ++ [(h.size, q)]) := by
  refine ⟨own_bx_trans H.1 E, fun p hp => ?_, ?_⟩
  · rcases List.mem_append.mp hp with hp | hp
    · exact ⟨own_Is_ext E (H.2.1 p hp).1, (H.2.1 p hp).2⟩
    · cases List.mem_singleton.mp hp
      exact ⟨N, H.1.1.1⟩
  · rw [List.map_append, List.nodup_append]
    refine ⟨H.2.2, by simp, fun x hx y hy => ?_⟩
    simp only [List.map_cons, List.map_nil, List.mem_singleton] at hy
    subst hy
    obtain ⟨p, hp, rfl⟩ := List.mem_map.mp hx
    exact Nat.ne_of_lt (own_Is_lt (H.2.1 p hp).1)
theorem own_Hp_ext (H : own_Hp Z a0 hb h cs) (E : Ext h h') : own_Hp Z a0 hb h' cs :=
  ⟨own_bx_trans H.1 E, fun p hp => ⟨own_Is_ext E (H.2.1 p hp).1, (H.2.1 p hp).2⟩, H.2.2⟩
theorem own_get (H : own_Hp Z a0 hb h cs) {i : Nat} (hi : cs[i]? = some (a, q)) : own_Is Z a0 h a q ∧ hb.size ≤ a := H.2.1 _ (List.mem_of_getElem? hi)
theorem own_ne (H : own_Hp Z a0 hb h cs) {i j : Nat} {q' : own_Cel} (hi : cs[i]? = some (a, q)) (hj : cs[j]? = some (b, q')) (hne : i ≠ j) : a ≠ b := by
  rintro rfl
  have hN := H.2.2
  obtain ⟨hi1, hi2⟩ := List.getElem?_eq_some_iff.mp hi
  obtain ⟨hj1, hj2⟩ := List.getElem?_eq_some_iff.mp hj
  have := (List.getElem_inj (xs := cs.map Prod.fst) (i := i) (j := j) (h₀ := by simpa using hi1) (h₁ := by simpa using hj1) hN).mp (by simp [hi2, hj2])
  exact hne this
theorem own_Hp_set (H : own_Hp Z a0 hb h cs) {i : Nat} {q' : own_Cel} {sl : Nat} {v : Value} (hi : cs[i]? = some (a, q)) (W : Wr h h' a sl v) (N : own_Is Z a0 h' a q') : own_Hp Z a0 hb h' (cs.set i (a, q')) := by
  obtain ⟨hi1, hi2⟩ := List.getElem?_eq_some_iff.mp hi
  refine ⟨own_ext_wr H.1 W (own_get H hi).2, fun p hp => ?_, ?_⟩
  · obtain ⟨j, hj, rfl⟩ := List.mem_iff_getElem.mp hp
    rw [List.getElem_set]
    split
    · exact ⟨N, (own_get H hi).2⟩
    · rename_i hne
      have hj' : j < cs.length := by simpa using hj
      have hm := H.2.1 cs[j] (List.getElem_mem hj')
      refine ⟨own_Is_wr W ?_ hm.1, hm.2⟩
      intro e
      exact own_ne H hi (j := j) (b := cs[j].1) (q' := cs[j].2) (List.getElem?_eq_getElem hj') hne e.symm
  · rw [List.map_set, show (a, q').fst = (cs.map Prod.fst)[i]'(by simpa using hi1) by simp [hi2], List.set_getElem_self]
    exact H.2.2
theorem own_Is_fld {C : String} {fs : List (String × String × String × Value)} {j : Nat} {O n d : String} {old v : Value} (H : own_Is Z a0 h a (own_O C fs)) (hj : fs[j]? = some (O, n, d, old)) (W : Wr h h' a (RoadKit.slotOf Z O n d) v) : own_Is Z a0 h' a (own_O C (fs.set j (O, n, d, v))) := by
  obtain ⟨h1, h2, h3⟩ := H
  obtain ⟨hj1, hj2⟩ := List.getElem?_eq_some_iff.mp hj
  refine ⟨h1.wr W, fun f hf => ?_, ?_⟩
  · obtain ⟨k, hk, rfl⟩ := List.mem_iff_getElem.mp hf
    have hm := h2 _ (List.mem_of_getElem? hj)
    rw [List.getElem_set]
    split
    · exact ⟨hm.1.same W, hm.2⟩
    · rename_i hne
      have hk' : k < fs.length := by simpa using hk
      have hk2 := h2 fs[k] (List.getElem_mem hk')
      obtain ⟨t, ht⟩ := hk2.2.2
      obtain ⟨t', ht'⟩ := hm.2.2
      refine ⟨hk2.1.other W (Or.inr (slot_ne hk2.2.1 hm.2.1 (fun e => ?_) ht ht')), hk2.2⟩
      have := (List.getElem_inj (xs := fs.map fun f => f.2.1) (i := k) (j := j) (h₀ := by simpa using hk') (h₁ := by simpa using hj1) h3).mp (by simp [hj2]; exact e)
      exact hne this.symm
  · rw [List.map_set, show (O, n, d, v).2.1 = (fs.map fun f => f.2.1)[j]'(by simpa using hj1) by simp [hj2], List.set_getElem_self]
    exact h3
theorem own_Is_elt {ty : FieldType} {vs : List Value} {j : Nat} {v : Value} (H : own_Is Z a0 h a (own_A ty vs)) (W : Wr h h' a j v) : own_Is Z a0 h' a (own_A ty (vs.set j v)) := by
  obtain ⟨c, A, e⟩ := H
  refine ⟨_, A.same W, ?_, own_AC_map rfl (fun C F => F.wr W) e.2⟩
  rw [← e.1]
  simp [Cell.setSlot]
end Facts
def own_S (p : Program) (l : Launch) (e : Env) (R : Room) (s : State) (m : MethodId) (args : Array Value) (below : List Frame) (meth : Method) (c : Code) (Z : State) (a0 : Array Value) (hb : own_Base) (T : State) (cs : List (Addr × own_Cel)) (k n : Nat) : Prop :=
  ∃ locs, Stand p l e R s m args below meth c T locs k n ∧ Fr hb.size locs ∧ own_Hp Z a0 hb T.heap cs
section Rules
variable {p : Program} {l : Launch} {e : Env} {R : Room} {s : State} {m : MethodId} {args : Array Value} {below : List Frame} {meth : Method} {c : Code} {T : State} {Z : State} {a0 : Array Value} {hb : own_Base} {cs : List (Addr × own_Cel)} {k n : Nat}
theorem own_go (H : own_S p l e R s m args below meth c Z a0 hb T cs k n) (hx : p.tables.exec = Jvm.exec) (hZ : Z.Warmed39 s.vm) {own : String} (hown : s.vm.findClass own = some m.cls) {bytes : ByteArray} (hby : c.code = bytes) {ws : List Jvm.Cond} (hw : ∀ d ∈ ws, d.before a0 Z = true) {P : List (Nat × Value)} (hP : ∀ q ∈ P, ∃ w ∈ ws, own_Word own q.1 q.2 w)
    {pc pc' : Nat} {L L' : Array Slot} {S S' : List Value} (r : own_Go P bytes pc L S pc' L' S') : ∀ target, Steps p.tables e below (T.setTop (mkF m pc' L' S')) target → Steps p.tables e below (T.setTop (mkF m pc L S)) target := by
  obtain ⟨locs, X, -, -⟩ := H
  exact fun target q => r p.tables e below T target m c X.here hx hby (own_pool X hx hZ hown hw hP) q
theorem own_newO (H : own_S p l e R s m args below meth c Z a0 hb T cs k n) (hx : p.tables.exec = Jvm.exec) (hZ : Z.Warmed39 s.vm) {own C : String} {index nn : Nat} (hown : s.vm.findClass own = some m.cls) (w : (Jvm.Cond.classLink own index C).before a0 Z = true) (wi : (Jvm.Cond.instantiable C nn).before a0 Z = true) (wz : (Jvm.Cond.initialized C).before a0 Z = true)
    (fs : List (String × String × String × Value)) (hfs : ∀ f ∈ fs, Laid Z a0 C f.1 f.2.1 f.2.2.1 ∧ ∃ t, parseFieldDescriptor f.2.2.1 = some t ∧ defaultValue t = f.2.2.2) (hN : (fs.map fun f => f.2.1).Nodup)
    {g : JFrame} (hg : g.method = m) (hd : decode c.code g.pc = .ok (.new index, 3)) (hc : k + 1 ≤ R.cells) (hl : n + nn ≤ R.slots) :
    ∃ T' x, own_S p l e R s m args below meth c Z a0 hb T' (cs ++ [(x, own_O C fs)]) (k + 1) (n + nn) ∧ ∀ target, Steps p.tables e below (T'.setTop { g with pc := g.pc + 3, stack := .ref x :: g.stack }) target → Steps p.tables e below (T.setTop g) target := by
  obtain ⟨locs, X, N, hH⟩ := H
  obtain ⟨T', h', X', e', E, A, D, -, st⟩ := newO X hx hZ hown w wi wz rfl hg hd hc hl
  refine ⟨T', T.heap.size, ⟨locs, X', N, ?_⟩, st⟩
  rw [e']
  refine own_Hp_new hH E ⟨A, fun f hf => ?_, hN⟩
  obtain ⟨h1, t, h2, h3⟩ := hfs f hf
  exact ⟨h3 ▸ D h1 h2, h1, t, h2⟩
theorem own_newA (H : own_S p l e R s m args below meth c Z a0 hb T cs k n) (hx : p.tables.exec = Jvm.exec) (hZ : Z.Warmed39 s.vm) {aty : ArrayType} (w : (Jvm.Cond.arrayClass (newarray.typeOf aty)).before a0 Z = true) {g : JFrame} (hg : g.method = m) (hd : decode c.code g.pc = .ok (.newarray aty, 2)) {z : Int32} {rest : List Value} (hs : g.stack = .int z :: rest)
    (hn : ¬ z < 0) {cap : Nat} (hcap : z.toNatClampNeg ≤ cap) (hb8 : cap * 8 ≤ 536870912) (hc : k + 1 ≤ R.cells) (hl : n + cap ≤ R.slots) :
    ∃ T' x, own_S p l e R s m args below meth c Z a0 hb T' (cs ++ [(x, own_A (newarray.typeOf aty) (List.replicate z.toNatClampNeg (defaultValue (newarray.typeOf aty))))]) (k + 1) (n + cap) ∧ ∀ target, Steps p.tables e below (T'.setTop { g with pc := g.pc + 2, stack := .ref x :: rest }) target → Steps p.tables e below (T.setTop g) target := by
  obtain ⟨locs, X, N, hH⟩ := H
  obtain ⟨T', h', cA, X', e', E, A, F, st⟩ := newPE X hx hZ w rfl hg hd hs hn hcap hb8 hc hl rfl
  refine ⟨T', T.heap.size, ⟨locs, X', N, ?_⟩, st⟩
  rw [e']
  exact own_Hp_new hH E ⟨_, A, by simp [newA], by cases aty <;> exact F⟩
theorem own_getF (H : own_S p l e R s m args below meth c Z a0 hb T cs k n) (hx : p.tables.exec = Jvm.exec) (hZ : Z.Warmed39 s.vm) {own O nm d : String} {index : Nat} (hown : s.vm.findClass own = some m.cls) (w : (Jvm.Cond.fieldLink own index O nm d).before a0 Z = true)
    {x : Addr} {C : String} {fs : List (String × String × String × Value)} {v : Value} (i j : Nat) (hi : cs[i]? = some (x, own_O C fs)) (hj : fs[j]? = some (O, nm, d, v)) {g : JFrame} (hg : g.method = m) {rest : List Value} (hs : g.stack = .ref x :: rest) (hd : decode c.code g.pc = .ok (.getfield index, 3)) :
    ∃ T', own_S p l e R s m args below meth c Z a0 hb T' cs k n ∧ ∀ target, Steps p.tables e below (T'.setTop { g with pc := g.pc + 3, stack := v :: rest }) target → Steps p.tables e below (T.setTop g) target := by
  obtain ⟨locs, X, N, hH⟩ := H
  have F := ((own_get hH hi).1.2.1 _ (List.mem_of_getElem? hj)).1
  obtain ⟨T', X', e', st⟩ := getF X hx hZ hown (host := "") (Or.inl w) Via.refl rfl F hg hs hd
  exact ⟨T', ⟨locs, X', N, e' ▸ hH⟩, st⟩
theorem own_putF (H : own_S p l e R s m args below meth c Z a0 hb T cs k n) (hx : p.tables.exec = Jvm.exec) (hZ : Z.Warmed39 s.vm) {own O nm d : String} {index kk : Nat} {ty : FieldType} (hown : s.vm.findClass own = some m.cls) (w : (Jvm.Cond.fieldLink own index O nm d).before a0 Z = true)
    {x : Addr} {C : String} {fs : List (String × String × String × Value)} {v old : Value} (i j : Nat) (hi : cs[i]? = some (x, own_O C fs)) (hj : fs[j]? = some (O, nm, d, old)) (L : (Jvm.Cond.lays C O nm d).before a0 Z = true ∨ ((Jvm.Cond.laysFinal C O nm d).before a0 Z = true ∧ own = O ∧ meth.name = "<init>")) (wi : (Jvm.Cond.instantiable C kk).before a0 Z = true)
    (hty : parseFieldDescriptor d = some ty) (hn : narrow ty v = v) (hf : fits ty v = true) {g : JFrame} (hg : g.method = m) {rest : List Value} (hs : g.stack = v :: .ref x :: rest) (hd : decode c.code g.pc = .ok (.putfield index, 3)) :
    ∃ T', own_S p l e R s m args below meth c Z a0 hb T' (cs.set i (x, own_O C (fs.set j (O, nm, d, v)))) k n ∧ ∀ target, Steps p.tables e below (T'.setTop { g with pc := g.pc + 3, stack := rest }) target → Steps p.tables e below (T.setTop g) target := by
  obtain ⟨locs, X, N, hH⟩ := H
  have I := own_get hH hi
  have F := (I.1.2.1 _ (List.mem_of_getElem? hj)).1
  obtain ⟨T', h', X', e', W, st⟩ := putF X hx hZ hown (host := "") (Or.inl w) Via.refl rfl F I.1.1 L wi hty hn hf hg hs hd
  refine ⟨T', ⟨_, X', Fr.snoc X' N I.2, ?_⟩, st⟩
  rw [e']
  exact own_Hp_set hH hi W (own_Is_fld I.1 hj W)
theorem own_initO (H : own_S p l e R s m args below meth c Z a0 hb T cs k n) (hx : p.tables.exec = Jvm.exec) (hZ : Z.Warmed39 s.vm) {own : String} {idx : Nat} (hown : s.vm.findClass own = some m.cls) (w1 : (Jvm.Cond.methodLink own idx Lib.objectInit).before a0 Z = true) (w2 : (Jvm.Cond.instanceMethod Lib.objectInit).before a0 Z = true)
    (w3 : (Jvm.Cond.code Lib.objectInit ⟨#[0xb1]⟩ 1 none).before a0 Z = true) {g : JFrame} (hg : g.method = m) (hsize : g.locals.size = c.maxLocals) {a : Addr} {rest : List Value} (hs : g.stack = .ref a :: rest) (hd : decode c.code g.pc = .ok (.invokespecial idx, 3))
    (hf : 1 ≤ R.frames) {W : Nat} (hW : 2 * g.monitorRoom + (rest.map fun v => v.category).sum ≤ W) (hl : W + 12 ≤ R.locals) :
    ∃ T', own_S p l e R s m args below meth c Z a0 hb T' cs k n ∧ ∀ target, Steps p.tables e below (T'.setTop { g with pc := g.pc + 3, stack := rest }) target → Steps p.tables e below (T.setTop g) target := by
  obtain ⟨locs, X, N, hH⟩ := H
  obtain ⟨T', X', e', st⟩ := initO X hx hZ hown w1 w2 w3 rfl hg hsize hs hd hf hW hl
  exact ⟨T', ⟨locs, X', N, e' ▸ hH⟩, st⟩
theorem own_idx {j : Int32} {vs : List Value} {cl : Cell} (e : cl.slots.toList = vs) (h0 : 0 ≤ j.toInt) (h1 : j.toInt < vs.length) : ¬ (j < 0 ∨ cl.slots.size ≤ j.toNatClampNeg) := by
  have hl : cl.slots.size = vs.length := by rw [← e]; simp
  rintro (q | q)
  · rw [Int32.lt_iff_toInt_lt] at q; rw [show (0 : Int32).toInt = 0 from rfl] at q; omega
  · have : j.toNatClampNeg = j.toInt.toNat := rfl
    omega
theorem own_at_idx {j : Int32} {vs : List Value} {cl : Cell} {v : Value} (e : cl.slots.toList = vs) {i : Nat} (hi : j.toInt = i) (hv : vs[i]? = some v) : cl.slots[j.toNatClampNeg]? = some v := by
  have : j.toNatClampNeg = i := by show j.toInt.toNat = i; omega
  rw [this, ← Array.getElem?_toList, e]; exact hv
theorem own_daload (H : own_S p l e R s m args below meth c Z a0 hb T cs k n) (hx : p.tables.exec = Jvm.exec) (hZ : Z.Warmed39 s.vm) {x : Addr} {vs : List Value} {j : Int32} {v : Value} (i jj : Nat) (hi : cs[i]? = some (x, own_A .double vs)) (hj : j.toInt = jj) (hv : vs[jj]? = some v)
    {g : JFrame} (hg : g.method = m) {rest : List Value} (hs : g.stack = .int j :: .ref x :: rest) (hd : decode c.code g.pc = .ok (.daload, 1)) :
    ∀ target, Steps p.tables e below (T.setTop { g with pc := g.pc + 1, stack := v :: rest }) target → Steps p.tables e below (T.setTop g) target := by
  obtain ⟨locs, X, N, hH⟩ := H
  obtain ⟨cl, A, hc, -⟩ := (own_get hH hi).1
  have hlt : jj < vs.length := (List.getElem?_eq_some_iff.mp hv).1
  exact fun target q => X.daload hx A.1 (State.isArrayOf_alike hZ.alike A.2.1) A.2.2 (own_idx hc (by omega) (by omega)) (own_at_idx hc hj hv) hg hs hd target q
theorem own_iaload (H : own_S p l e R s m args below meth c Z a0 hb T cs k n) (hx : p.tables.exec = Jvm.exec) (hZ : Z.Warmed39 s.vm) {x : Addr} {vs : List Value} {j : Int32} {v : Value} (i jj : Nat) (hi : cs[i]? = some (x, own_A .int vs)) (hj : j.toInt = jj) (hv : vs[jj]? = some v)
    {g : JFrame} (hg : g.method = m) {rest : List Value} (hs : g.stack = .int j :: .ref x :: rest) (hd : decode c.code g.pc = .ok (.iaload, 1)) :
    ∀ target, Steps p.tables e below (T.setTop { g with pc := g.pc + 1, stack := v :: rest }) target → Steps p.tables e below (T.setTop g) target := by
  obtain ⟨locs, X, N, hH⟩ := H
  obtain ⟨cl, A, hc, -⟩ := (own_get hH hi).1
  have hlt : jj < vs.length := (List.getElem?_eq_some_iff.mp hv).1
  exact fun target q => X.iaload hx A.1 (State.isArrayOf_alike hZ.alike A.2.1) A.2.2 (own_idx hc (by omega) (by omega)) (own_at_idx hc hj hv) hg hs hd target q
theorem own_laload (H : own_S p l e R s m args below meth c Z a0 hb T cs k n) (hx : p.tables.exec = Jvm.exec) (hZ : Z.Warmed39 s.vm) {x : Addr} {vs : List Value} {j : Int32} {v : Value} (i jj : Nat) (hi : cs[i]? = some (x, own_A .long vs)) (hj : j.toInt = jj) (hv : vs[jj]? = some v)
    {g : JFrame} (hg : g.method = m) {rest : List Value} (hs : g.stack = .int j :: .ref x :: rest) (hd : decode c.code g.pc = .ok (.laload, 1)) :
    ∀ target, Steps p.tables e below (T.setTop { g with pc := g.pc + 1, stack := v :: rest }) target → Steps p.tables e below (T.setTop g) target := by
  obtain ⟨locs, X, N, hH⟩ := H
  obtain ⟨cl, A, hc, -⟩ := (own_get hH hi).1
  have hlt : jj < vs.length := (List.getElem?_eq_some_iff.mp hv).1
  exact fun target q => X.laload hx A.1 (State.isArrayOf_alike hZ.alike A.2.1) A.2.2 (own_idx hc (by omega) (by omega)) (own_at_idx hc hj hv) hg hs hd target q
theorem own_aaload (H : own_S p l e R s m args below meth c Z a0 hb T cs k n) (hx : p.tables.exec = Jvm.exec) (hZ : Z.Warmed39 s.vm) {x : Addr} {ty : FieldType} {vs : List Value} {j : Int32} {v : Value} (i jj : Nat) (hi : cs[i]? = some (x, own_A ty vs)) (hty : ty.isReference = true) (hj : j.toInt = jj) (hv : vs[jj]? = some v)
    {g : JFrame} (hg : g.method = m) {rest : List Value} (hs : g.stack = .int j :: .ref x :: rest) (hd : decode c.code g.pc = .ok (.aaload, 1)) :
    ∀ target, Steps p.tables e below (T.setTop { g with pc := g.pc + 1, stack := v :: rest }) target → Steps p.tables e below (T.setTop g) target := by
  obtain ⟨locs, X, N, hH⟩ := H
  obtain ⟨cl, A, hc, -⟩ := (own_get hH hi).1
  have hlt : jj < vs.length := (List.getElem?_eq_some_iff.mp hv).1
  exact fun target q => X.aaload hx A.1 (State.isArrayOf_alike hZ.alike A.2.1) hty A.2.2 (own_idx hc (by omega) (by omega)) (own_at_idx hc hj hv) hg hs hd target q
theorem own_arrlen (H : own_S p l e R s m args below meth c Z a0 hb T cs k n) (hx : p.tables.exec = Jvm.exec) (hZ : Z.Warmed39 s.vm) {x : Addr} {ty : FieldType} {vs : List Value} (i : Nat) (hi : cs[i]? = some (x, own_A ty vs)) {z : Int32} (hz : vs.length.toInt32 = z)
    {g : JFrame} (hg : g.method = m) {rest : List Value} (hs : g.stack = .ref x :: rest) (hd : decode c.code g.pc = .ok (.arraylength, 1)) :
    ∀ target, Steps p.tables e below (T.setTop { g with pc := g.pc + 1, stack := .int z :: rest }) target → Steps p.tables e below (T.setTop g) target := by
  obtain ⟨locs, X, N, hH⟩ := H
  obtain ⟨cl, A, hc, -⟩ := (own_get hH hi).1
  have hl : cl.slots.size = vs.length := by rw [← hc]; simp
  refine fun target q => X.arraylength hx A.1 (State.isArrayOf_alike hZ.alike A.2.1) hg hs hd target ?_
  rw [hl, hz]; exact q
theorem own_dastore (H : own_S p l e R s m args below meth c Z a0 hb T cs k n) (hx : p.tables.exec = Jvm.exec) (hZ : Z.Warmed39 s.vm) {x : Addr} {vs : List Value} {j : Int32} {v : UInt64} (i jj : Nat) (hi : cs[i]? = some (x, own_A .double vs)) (hj : j.toInt = jj) (hlt : jj < vs.length)
    {g : JFrame} (hg : g.method = m) {rest : List Value} (hs : g.stack = .double v :: .int j :: .ref x :: rest) (hd : decode c.code g.pc = .ok (.dastore, 1)) :
    ∃ T', own_S p l e R s m args below meth c Z a0 hb T' (cs.set i (x, own_A .double (vs.set jj (.double v)))) k n ∧ ∀ target, Steps p.tables e below (T'.setTop { g with pc := g.pc + 1, stack := rest }) target → Steps p.tables e below (T.setTop g) target := by
  obtain ⟨locs, X, N, hH⟩ := H
  have I := own_get hH hi
  obtain ⟨cl, A, hc, -⟩ := I.1
  obtain ⟨T', h', X', e', W, st⟩ := stD X hx hZ rfl A (own_idx hc (by omega) (by omega)) hg hs hd
  have hjj : j.toNatClampNeg = jj := by show j.toInt.toNat = jj; omega
  rw [hjj] at W
  refine ⟨T', ⟨_, X', Fr.snoc X' N I.2, ?_⟩, st⟩
  rw [e']
  exact own_Hp_set hH hi W (own_Is_elt I.1 W)
theorem own_iastore (H : own_S p l e R s m args below meth c Z a0 hb T cs k n) (hx : p.tables.exec = Jvm.exec) (hZ : Z.Warmed39 s.vm) {x : Addr} {vs : List Value} {j : Int32} {v : Int32} (i jj : Nat) (hi : cs[i]? = some (x, own_A .int vs)) (hj : j.toInt = jj) (hlt : jj < vs.length)
    {g : JFrame} (hg : g.method = m) {rest : List Value} (hs : g.stack = .int v :: .int j :: .ref x :: rest) (hd : decode c.code g.pc = .ok (.iastore, 1)) :
    ∃ T', own_S p l e R s m args below meth c Z a0 hb T' (cs.set i (x, own_A .int (vs.set jj (.int v)))) k n ∧ ∀ target, Steps p.tables e below (T'.setTop { g with pc := g.pc + 1, stack := rest }) target → Steps p.tables e below (T.setTop g) target := by
  obtain ⟨locs, X, N, hH⟩ := H
  have I := own_get hH hi
  obtain ⟨cl, A, hc, -⟩ := I.1
  obtain ⟨T', h', X', e', W, st⟩ := stI X hx hZ rfl A (own_idx hc (by omega) (by omega)) hg hs hd
  have hjj : j.toNatClampNeg = jj := by show j.toInt.toNat = jj; omega
  rw [hjj] at W
  refine ⟨T', ⟨_, X', Fr.snoc X' N I.2, ?_⟩, st⟩
  rw [e']
  exact own_Hp_set hH hi W (own_Is_elt I.1 W)
theorem own_lastore (H : own_S p l e R s m args below meth c Z a0 hb T cs k n) (hx : p.tables.exec = Jvm.exec) (hZ : Z.Warmed39 s.vm) {x : Addr} {vs : List Value} {j : Int32} {v : Int64} (i jj : Nat) (hi : cs[i]? = some (x, own_A .long vs)) (hj : j.toInt = jj) (hlt : jj < vs.length)
    {g : JFrame} (hg : g.method = m) {rest : List Value} (hs : g.stack = .long v :: .int j :: .ref x :: rest) (hd : decode c.code g.pc = .ok (.lastore, 1)) :
    ∃ T', own_S p l e R s m args below meth c Z a0 hb T' (cs.set i (x, own_A .long (vs.set jj (.long v)))) k n ∧ ∀ target, Steps p.tables e below (T'.setTop { g with pc := g.pc + 1, stack := rest }) target → Steps p.tables e below (T.setTop g) target := by
  obtain ⟨locs, X, N, hH⟩ := H
  have I := own_get hH hi
  obtain ⟨cl, A, hc, -⟩ := I.1
  obtain ⟨T', h', X', e', W, st⟩ := stJ X hx hZ rfl A (own_idx hc (by omega) (by omega)) hg hs hd
  have hjj : j.toNatClampNeg = jj := by show j.toInt.toNat = jj; omega
  rw [hjj] at W
  refine ⟨T', ⟨_, X', Fr.snoc X' N I.2, ?_⟩, st⟩
  rw [e']
  exact own_Hp_set hH hi W (own_Is_elt I.1 W)
theorem own_aastore (H : own_S p l e R s m args below meth c Z a0 hb T cs k n) (hx : p.tables.exec = Jvm.exec) (hZ : Z.Warmed39 s.vm) {x y : Addr} {t ty : FieldType} {vs ws : List Value} {j : Int32} (i iy jj : Nat) (hi : cs[i]? = some (x, own_A (.array t) vs)) (hy : cs[iy]? = some (y, own_A ty ws)) (hE : ∀ h c, own_AC Z h y c ty → Exa Z h y (FieldType.array t).toString) (hj : j.toInt = jj) (hlt : jj < vs.length)
    {g : JFrame} (hg : g.method = m) {rest : List Value} (hs : g.stack = .ref y :: .int j :: .ref x :: rest) (hd : decode c.code g.pc = .ok (.aastore, 1)) :
    ∃ T', own_S p l e R s m args below meth c Z a0 hb T' (cs.set i (x, own_A (.array t) (vs.set jj (.ref y)))) k n ∧ ∀ target, Steps p.tables e below (T'.setTop { g with pc := g.pc + 1, stack := rest }) target → Steps p.tables e below (T.setTop g) target := by
  obtain ⟨locs, X, N, hH⟩ := H
  have I := own_get hH hi
  obtain ⟨cl, A, hc, hO⟩ := I.1
  obtain ⟨cy, Ay, -, hF⟩ := (own_get hH hy).1
  obtain ⟨T', h', X', e', W, st⟩ := stR X hx hZ rfl A (own_idx hc (by omega) (by omega)) rfl (Sto.ofVA A rfl hO.1 (Ins.self (hE _ _ hF))) hg hs hd
  have hjj : j.toNatClampNeg = jj := by show j.toInt.toNat = jj; omega
  rw [hjj] at W
  refine ⟨T', ⟨_, X', Fr.snoc X' N I.2, ?_⟩, st⟩
  rw [e']
  exact own_Hp_set hH hi W (own_Is_elt I.1 W)
theorem own_newRA (H : own_S p l e R s m args below meth c Z a0 hb T cs k n) (hx : p.tables.exec = Jvm.exec) (hZ : Z.Warmed39 s.vm) {own C : String} {ty : FieldType} {index : Nat} (hown : s.vm.findClass own = some m.cls) (hC : (FieldType.array ty).toString = C) (w1 : (Jvm.Cond.classLink own index C).before a0 Z = true) (w2 : (Jvm.Cond.arrayOver (.array ty)).before a0 Z = true)
    {g : JFrame} (hg : g.method = m) (hd : decode c.code g.pc = .ok (.anewarray index, 3)) {z : Int32} {rest : List Value} (hs : g.stack = .int z :: rest) (hn : ¬ z < 0) {cap : Nat} (hcap : z.toNatClampNeg ≤ cap) (hb8 : cap * 8 ≤ 536870912) (hc : k + 1 ≤ R.cells) (hl : n + cap ≤ R.slots) :
    ∃ T' x, own_S p l e R s m args below meth c Z a0 hb T' (cs ++ [(x, own_A (.array ty) (List.replicate z.toNatClampNeg .null))]) (k + 1) (n + cap) ∧ ∀ target, Steps p.tables e below (T'.setTop { g with pc := g.pc + 3, stack := .ref x :: rest }) target → Steps p.tables e below (T.setTop g) target := by
  obtain ⟨locs, X, N, hH⟩ := H
  obtain ⟨T', h', cA, X', e', E, A, F, O, st⟩ := newRA X hx hZ hown hC w1 w2 rfl hg hd hs hn hcap hb8 hc hl rfl
  subst hC
  refine ⟨T', T.heap.size, ⟨locs, X', N, ?_⟩, st⟩
  rw [e']
  exact own_Hp_new hH E ⟨_, A, by simp [newA, defaultValue], O, F⟩
theorem own_cloneA (H : own_S p l e R s m args below meth c Z a0 hb T cs k n) (hx : p.tables.exec = Jvm.exec) (hZ : Z.Warmed39 s.vm) {own ad : String} {index : Nat} (hown : s.vm.findClass own = some m.cls)
    (w1 : (Jvm.Cond.methodLink own index ⟨ad, "clone", "()Ljava/lang/Object;"⟩).before a0 Z = true) (w2 : (Jvm.Cond.sameMethod ad "java/lang/Object" "clone" "()Ljava/lang/Object;").before a0 Z = true) (w3 : (Jvm.Cond.native ⟨"java/lang/Object", "clone", "()Ljava/lang/Object;"⟩).before a0 Z = true)
    (w4 : (Jvm.Cond.instanceMethod ⟨"java/lang/Object", "clone", "()Ljava/lang/Object;"⟩).before a0 Z = true) (w5 : (Jvm.Cond.selects ad ⟨ad, "clone", "()Ljava/lang/Object;"⟩ ⟨"java/lang/Object", "clone", "()Ljava/lang/Object;"⟩).before a0 Z = true) (w6 : (Jvm.Cond.castable ad "java/lang/Cloneable").before a0 Z = true)
    {x : Addr} {ty : FieldType} {vs : List Value} (i : Nat) (hi : cs[i]? = some (x, own_A ty vs)) (hE : ∀ h x c, own_AC Z h x c ty → Exa Z h x ad) (hA : ∀ h x c, Exa Z h x ad → own_AC Z h x c ty) (hfit : ∀ v ∈ vs, fits ty v = true)
    {g : JFrame} (hg : g.method = m) (hsize : g.locals.size = c.maxLocals) {rest : List Value} (hs : g.stack = .ref x :: rest) (hd : decode c.code g.pc = .ok (.invokevirtual index, 3))
    (hf : 1 ≤ R.frames) {W cap : Nat} (hW : 2 * g.monitorRoom + (rest.map fun v => v.category).sum ≤ W) (hl : W + 14 ≤ R.locals) (hcap : vs.length ≤ cap) (hc : k + 1 ≤ R.cells) (hsl : n + cap ≤ R.slots) :
    ∃ T' y, own_S p l e R s m args below meth c Z a0 hb T' (cs ++ [(y, own_A ty vs)]) (k + 1) (n + cap) ∧ ∀ target, Steps p.tables e below (T'.setTop { g with pc := g.pc + 3, stack := .ref y :: rest }) target → Steps p.tables e below (T.setTop g) target := by
  obtain ⟨locs, X, N, hH⟩ := H
  obtain ⟨cl, A, hc', hF⟩ := (own_get hH hi).1
  have FC : FitC Z cl := fitC_of A fun i hi v hv => hfit v (by rw [← hc']; rw [← Array.getElem?_toList] at hv; exact List.mem_of_getElem? hv)
  have hlen : cl.slots.size = vs.length := by rw [← hc']; simp
  obtain ⟨T', h', X', e', E, A', F', st⟩ := cloneA X hx hZ hown w1 w2 w3 w4 w5 w6 rfl A (hE _ _ _ hF) FC hg hsize hs hd hf hW hl (by rw [hlen]; exact hcap) hc hsl
  refine ⟨T', T.heap.size, ⟨locs, X', N, ?_⟩, st⟩
  rw [e']
  exact own_Hp_new hH E ⟨_, A', hc', hA _ _ _ F'⟩
theorem own_castA (H : own_S p l e R s m args below meth c Z a0 hb T cs k n) (hx : p.tables.exec = Jvm.exec) (hZ : Z.Warmed39 s.vm) {own ad : String} {index : Nat} (hown : s.vm.findClass own = some m.cls) (w : (Jvm.Cond.classLink own index ad).before a0 Z = true)
    {x : Addr} {ty : FieldType} {vs : List Value} (i : Nat) (hi : cs[i]? = some (x, own_A ty vs)) (hE : ∀ h x c, own_AC Z h x c ty → Exa Z h x ad) {g : JFrame} (hg : g.method = m) {rest : List Value} (hs : g.stack = .ref x :: rest) (hd : decode c.code g.pc = .ok (.checkcast index, 3)) :
    ∃ T', own_S p l e R s m args below meth c Z a0 hb T' cs k n ∧ ∀ target, Steps p.tables e below (T'.setTop { g with pc := g.pc + 3 }) target → Steps p.tables e below (T.setTop g) target := by
  obtain ⟨locs, X, N, hH⟩ := H
  obtain ⟨cl, A, -, hF⟩ := (own_get hH hi).1
  obtain ⟨T', X', e', st⟩ := castY X hx hZ hown w rfl (Ins.self (hE _ _ _ hF)) hg hs hd
  exact ⟨T', ⟨locs, X', N, e' ▸ hH⟩, st⟩
theorem own_castO (H : own_S p l e R s m args below meth c Z a0 hb T cs k n) (hx : p.tables.exec = Jvm.exec) (hZ : Z.Warmed39 s.vm) {own C : String} {index : Nat} (hown : s.vm.findClass own = some m.cls) (w : (Jvm.Cond.classLink own index C).before a0 Z = true)
    {x : Addr} {fs : List (String × String × String × Value)} (i : Nat) (hi : cs[i]? = some (x, own_O C fs)) {g : JFrame} (hg : g.method = m) {rest : List Value} (hs : g.stack = .ref x :: rest) (hd : decode c.code g.pc = .ok (.checkcast index, 3)) :
    ∃ T', own_S p l e R s m args below meth c Z a0 hb T' cs k n ∧ ∀ target, Steps p.tables e below (T'.setTop { g with pc := g.pc + 3 }) target → Steps p.tables e below (T.setTop g) target := by
  obtain ⟨locs, X, N, hH⟩ := H
  obtain ⟨T', X', e', st⟩ := castY X hx hZ hown w rfl (Ins.self (own_get hH hi).1.1) hg hs hd
  exact ⟨T', ⟨locs, X', N, e' ▸ hH⟩, st⟩
theorem own_instO (H : own_S p l e R s m args below meth c Z a0 hb T cs k n) (hx : p.tables.exec = Jvm.exec) (hZ : Z.Warmed39 s.vm) {own C : String} {index : Nat} (hown : s.vm.findClass own = some m.cls) (w : (Jvm.Cond.classLink own index C).before a0 Z = true)
    {x : Addr} {fs : List (String × String × String × Value)} (i : Nat) (hi : cs[i]? = some (x, own_O C fs)) {g : JFrame} (hg : g.method = m) {rest : List Value} (hs : g.stack = .ref x :: rest) (hd : decode c.code g.pc = .ok (.instanceof index, 3)) :
    ∃ T', own_S p l e R s m args below meth c Z a0 hb T' cs k n ∧ ∀ target, Steps p.tables e below (T'.setTop { g with pc := g.pc + 3, stack := .int 1 :: rest }) target → Steps p.tables e below (T.setTop g) target := by
  obtain ⟨locs, X, N, hH⟩ := H
  obtain ⟨T', X', e', st⟩ := instY X hx hZ hown w rfl (Ins.self (own_get hH hi).1.1) hg hs hd
  exact ⟨T', ⟨locs, X', N, e' ▸ hH⟩, st⟩
end Rules
/-- what a method does: from the cells cs and these arguments it returns a value and leaves cells of which Q holds -/
def own_Met (l : Launch) (Z : State) (a0 : Array Value) (hb : own_Base) (y : MethodName) (bytes : ByteArray) (maxL : Nat) (ret : Option FieldType) (ws : List Jvm.Cond) (rm : Room) (as' : Array Value) (cs : List (Addr × own_Cel)) (Q : Option Value → List (Addr × own_Cel) → Prop) : Prop :=
  ∀ h, own_Hp Z a0 hb h cs → MetFree l y (head1 (Jvm.Cond.code y bytes maxL ret :: ws) rm) (fun a U => a = as' ∧ Z.Warmed39 U.vm ∧ U.heap = h) (fun _ _ _ _ _ => True) (fun _ U o U' => ∃ w L, o = .returned w ∧ (Fr hb.size L ∧ ∃ cs', Q w cs' ∧ own_Hp Z a0 hb U'.heap cs') ∧ FrameEnd U o U' L rm.cells rm.slots)
/-- from the frame g the method runs to its return -/
def own_Ends (p : Program) (l : Launch) (e : Env) (R : Room) (s : State) (m : MethodId) (args : Array Value) (below : List Frame) (meth : Method) (c : Code) (Z : State) (a0 : Array Value) (hb : own_Base) (bytes : ByteArray) (ret : Option FieldType) (Q : Option Value → List (Addr × own_Cel) → Prop) (T : State) (g : JFrame) : Prop :=
  ∃ T' cs' k n pc L, own_S p l e R s m args below meth c Z a0 hb T' cs' k n ∧ k ≤ R.cells ∧ n ≤ R.slots ∧
    ((ret = none ∧ Q none cs' ∧ decode bytes pc = .ok (.return_, 1) ∧ ∀ target, Steps p.tables e below (T'.setTop (mkF m pc L [])) target → Steps p.tables e below (T.setTop g) target) ∨
     (∃ t v S i, ret = some t ∧ Q (some v) cs' ∧ decode bytes pc = .ok (i, 1) ∧ own_Ret i t v ∧ ∀ target, Steps p.tables e below (T'.setTop (mkF m pc L (v :: S))) target → Steps p.tables e below (T.setTop g) target))
theorem own_met_of {l : Launch} {Z : State} {a0 : Array Value} {hb : own_Base} {y : MethodName} {bytes : ByteArray} {maxL : Nat} {ret : Option FieldType} {ws : List Jvm.Cond} {rm : Room} {as' : Array Value} {cs : List (Addr × own_Cel)} {Q : Option Value → List (Addr × own_Cel) → Prop} {L0 : Array Slot} (hpl : plainFor y = true) (hef : ∀ m, entryFrame m as' maxL = mkF m 0 L0 [])
    (body : ∀ (p : Program) (e : Env) (s : State) (m : MethodId) (below : List Frame) (meth : Method) (c : Code) (T : State), p.tables.exec = Jvm.exec → Z.Warmed39 s.vm → s.vm.findClass y.cls = some m.cls → c.code = bytes → c.maxLocals = maxL → meth.name = y.name → own_S p l e rm s m as' below meth c Z a0 hb T cs 0 0 → own_Ends p l e rm s m as' below meth c Z a0 hb bytes ret Q T (mkF m 0 L0 [])) :
    own_Met l Z a0 hb y bytes maxL ret ws rm as' cs Q := by
  intro h hH
  refine MetFree.of_bodySF hpl hisR ?_
  intro p e s m args below meth c s₁ Bd hml0 hPP hK
  obtain ⟨rfl, hZ, hh⟩ := hPP
  have hown : s.vm.findClass y.cls = some m.cls := findClass_of_methodNamed Bd.named
  have hnm := (name_of_methodNamed Bd.named Bd.method).1
  have X0 : Stand p l e rm s m _ below meth c s₁ [] 0 0 := Stand.of_body Bd
  have e0 : s₁.heap = h := by rw [← hh, Bd.state]; rfl
  obtain ⟨T', cs', k, n, pc, L, ⟨locs, X, N, hH'⟩, hk, hn, hE⟩ := body p e s m below meth c s₁ Bd.exec hZ hown Bd.bytes hml0 hnm ⟨[], X0, Fr.nil _, e0 ▸ hH⟩
  rcases hE with ⟨rfl, hQ, hd, st⟩ | ⟨t, v, S, i, rfl, hQ, hd, hr, st⟩
  · obtain ⟨fs, hr', hrun, hended, hW, hsame⟩ := X.leave (v := none) (fun _ => rfl)
    exact ⟨_, _, castTop (hef m) (st _ (X.returnOut Bd.exec Bd.returns (Jvm.hb Bd.bytes hd) hr')), hrun, hended, _, _, rfl, ⟨N, cs', hQ, hH'⟩, ⟨_, rfl⟩, hW, hsame.mono hk hn⟩
  · obtain ⟨fs, hr', hrun, hended, hW, hsame⟩ := X.leave (v := some v) (fun h => by rw [Bd.returns] at h; cases h)
    exact ⟨_, _, castTop (hef m) (st _ (retOut X Bd.exec Bd.returns hr.1 hr.2 (Jvm.hb Bd.bytes hd) hr')), hrun, hended, _, _, rfl, ⟨N, cs', hQ, hH'⟩, ⟨_, rfl⟩, hW, hsame.mono hk hn⟩
section Calls
variable {p : Program} {l : Launch} {e : Env} {R : Room} {s : State} {m : MethodId} {args : Array Value} {below : List Frame} {meth : Method} {c : Code} {T : State} {Z : State} {a0 : Array Value} {hb : own_Base} {cs : List (Addr × own_Cel)} {k n : Nat}
theorem own_callS (H : own_S p l e R s m args below meth c Z a0 hb T cs k n) (hx : p.tables.exec = Jvm.exec) (hZ : Z.Warmed39 s.vm) {own : String} {index : Nat} {y : MethodName} {bytes : ByteArray} {maxL : Nat} {ret : Option FieldType} (hown : s.vm.findClass own = some m.cls)
    (w1 : (Jvm.Cond.methodLink own index y).before a0 Z = true) (w2 : (Jvm.Cond.static y).before a0 Z = true) (w3 : (Jvm.Cond.initialized y.cls).before a0 Z = true) (w4 : (Jvm.Cond.code y bytes maxL ret).before a0 Z = true) (hy : y.cls ≠ "java/lang/invoke/MethodHandle" ∧ y.cls ≠ "java/lang/invoke/VarHandle")
    {rm : Room} {W : Nat} {argsL rest : List Value} {Q : Option Value → List (Addr × own_Cel) → Prop} (hM : own_Met l Z a0 hb y bytes maxL ret [] rm argsL.toArray cs Q) (hf : rm.frames + 1 ≤ R.frames) (hl : W + (maxL + 11) + rm.locals ≤ R.locals) (hc : k + rm.cells ≤ R.cells) (hs : n + rm.slots ≤ R.slots)
    {g : JFrame} (hg : g.method = m) (hsize : g.locals.size = c.maxLocals) (hlen : ∀ sig, parseMethodDescriptor y.desc = some sig → argsL.length = sig.parameters.length) (hst : g.stack = argsL.reverse ++ rest) (hW : 2 * g.monitorRoom + (rest.map fun v => v.category).sum ≤ W) (hd : decode c.code g.pc = .ok (.invokestatic index, 3)) :
    ∃ T' v cs', Q v cs' ∧ own_S p l e R s m args below meth c Z a0 hb T' cs' (k + rm.cells) (n + rm.slots) ∧ ∀ target, Steps p.tables e below (T'.setTop { g with pc := g.pc + 3, stack := v.toList ++ rest }) target → Steps p.tables e below (T.setTop g) target := by
  obtain ⟨locs, X, N, hH⟩ := H
  obtain ⟨v', vm1, ⟨T2, L2, k2, n2⟩, -, X2, ⟨Lc, hQ, l2, y2, z2⟩, st⟩ := Jvm.LawKit.callS X hx hown (mvT hZ w1) (mvT hZ w2) (mvT hZ w3) (mvT hZ w4) hy (backOf (W := W) (rm := rm) (Q := fun w H L => Fr hb.size L ∧ ∃ cs', Q w cs' ∧ own_Hp Z a0 hb H cs') (hM _ hH) hZ w4 w3 hf hl) hg hsize hlen hst hW hd (fun _ _ => ⟨rfl, rfl, hc, hs⟩)
  dsimp only [Pt.U, Pt.locs, Pt.cells, Pt.slots] at X2 l2 y2 z2 st hQ
  obtain ⟨N2, cs', hQ', hH'⟩ := hQ
  subst l2 y2 z2
  exact ⟨T2, v', cs', hQ', ⟨_, X2, N.app N2, hH'⟩, st⟩
theorem own_callI (H : own_S p l e R s m args below meth c Z a0 hb T cs k n) (hx : p.tables.exec = Jvm.exec) (hZ : Z.Warmed39 s.vm) {own : String} {index : Nat} {y : MethodName} {bytes : ByteArray} {maxL : Nat} (hown : s.vm.findClass own = some m.cls) (hy1 : y.name = "<init>")
    (w1 : (Jvm.Cond.methodLink own index y).before a0 Z = true) (w2 : (Jvm.Cond.instanceMethod y).before a0 Z = true) (w3 : (Jvm.Cond.initialized y.cls).before a0 Z = true) (w4 : (Jvm.Cond.code y bytes maxL none).before a0 Z = true) (hy : y.cls ≠ "java/lang/invoke/MethodHandle" ∧ y.cls ≠ "java/lang/invoke/VarHandle")
    {rm : Room} {W : Nat} {x : Addr} {argsL rest : List Value} {Q : Option Value → List (Addr × own_Cel) → Prop} (hM : own_Met l Z a0 hb y bytes maxL none [] rm (Value.ref x :: argsL).toArray cs Q) (hf : rm.frames + 1 ≤ R.frames) (hl : W + (maxL + 11) + rm.locals ≤ R.locals) (hc : k + rm.cells ≤ R.cells) (hs : n + rm.slots ≤ R.slots)
    {g : JFrame} (hg : g.method = m) (hsize : g.locals.size = c.maxLocals) (hlen : ∀ sig, parseMethodDescriptor y.desc = some sig → argsL.length = sig.parameters.length) (hst : g.stack = argsL.reverse ++ .ref x :: rest) (hW : 2 * g.monitorRoom + (rest.map fun v => v.category).sum ≤ W) (hd : decode c.code g.pc = .ok (.invokespecial index, 3)) :
    ∃ T' v cs', Q v cs' ∧ own_S p l e R s m args below meth c Z a0 hb T' cs' (k + rm.cells) (n + rm.slots) ∧ ∀ target, Steps p.tables e below (T'.setTop { g with pc := g.pc + 3, stack := v.toList ++ rest }) target → Steps p.tables e below (T.setTop g) target := by
  obtain ⟨locs, X, N, hH⟩ := H
  obtain ⟨v', vm1, ⟨T2, L2, k2, n2⟩, -, X2, ⟨Lc, hQ, l2, y2, z2⟩, st⟩ := X.specialBack hx hy1 hown (mvT hZ w1) (mvT hZ w2) (mvT hZ w4) hy (backOf (W := W) (rm := rm) (Q := fun w H L => Fr hb.size L ∧ ∃ cs', Q w cs' ∧ own_Hp Z a0 hb H cs') (hM _ hH) hZ w4 w3 hf hl) hg hsize (Steps.refl _) hlen hst hW hd (fun _ _ => ⟨rfl, rfl, hc, hs⟩)
  dsimp only [Pt.U, Pt.locs, Pt.cells, Pt.slots] at X2 l2 y2 z2 st hQ
  obtain ⟨N2, cs', hQ', hH'⟩ := hQ
  subst l2 y2 z2
  exact ⟨T2, v', cs', hQ', ⟨_, X2, N.app N2, hH'⟩, fun target q => st.trans q⟩
theorem own_callV (H : own_S p l e R s m args below meth c Z a0 hb T cs k n) (hx : p.tables.exec = Jvm.exec) (hZ : Z.Warmed39 s.vm) {own C : String} {index : Nat} {y : MethodName} {bytes : ByteArray} {maxL : Nat} {ret : Option FieldType} (hown : s.vm.findClass own = some m.cls)
    (w1 : (Jvm.Cond.methodLink own index y).before a0 Z = true) (w2 : (Jvm.Cond.declares y).before a0 Z = true) (w5 : (Jvm.Cond.selects C y y).before a0 Z = true) (w6 : (Jvm.Cond.instanceMethod y).before a0 Z = true) (w3 : (Jvm.Cond.initialized y.cls).before a0 Z = true) (w4 : (Jvm.Cond.code y bytes maxL ret).before a0 Z = true) (hy : y.cls ≠ "java/lang/invoke/MethodHandle" ∧ y.cls ≠ "java/lang/invoke/VarHandle")
    {rm : Room} {W : Nat} {x : Addr} {fs : List (String × String × String × Value)} (i : Nat) (hi : cs[i]? = some (x, own_O C fs)) {argsL rest : List Value} {Q : Option Value → List (Addr × own_Cel) → Prop} (hM : own_Met l Z a0 hb y bytes maxL ret [] rm (Value.ref x :: argsL).toArray cs Q) (hf : rm.frames + 1 ≤ R.frames) (hl : W + (maxL + 11) + rm.locals ≤ R.locals) (hc : k + rm.cells ≤ R.cells) (hs : n + rm.slots ≤ R.slots)
    {g : JFrame} (hg : g.method = m) (hsize : g.locals.size = c.maxLocals) (hlen : ∀ sig, parseMethodDescriptor y.desc = some sig → argsL.length = sig.parameters.length) (hst : g.stack = argsL.reverse ++ .ref x :: rest) (hW : 2 * g.monitorRoom + (rest.map fun v => v.category).sum ≤ W) (hd : decode c.code g.pc = .ok (.invokevirtual index, 3)) :
    ∃ T' v cs', Q v cs' ∧ own_S p l e R s m args below meth c Z a0 hb T' cs' (k + rm.cells) (n + rm.slots) ∧ ∀ target, Steps p.tables e below (T'.setTop { g with pc := g.pc + 3, stack := v.toList ++ rest }) target → Steps p.tables e below (T.setTop g) target := by
  obtain ⟨locs, X, N, hH⟩ := H
  obtain ⟨cq, kq, qa, qb, qc⟩ := isOf hZ rfl (own_get hH hi).1.1
  obtain ⟨v', vm1, ⟨T2, L2, k2, n2⟩, -, X2, ⟨Lc, hQ, l2, y2, z2⟩, st⟩ := X.virtualBack hx hown (mvT hZ w1) (mvT hZ w2) (notFace_of_selects (args := #[]) (mvT hZ w5)) (mvT hZ w5) (mvT hZ w6) hy (backOf (W := W) (rm := rm) (Q := fun w H L => Fr hb.size L ∧ ∃ cs', Q w cs' ∧ own_Hp Z a0 hb H cs') (hM _ hH) hZ w4 w3 hf hl) qa qc hg hsize (Steps.refl _) hlen hst hW hd (fun _ _ => ⟨rfl, rfl, hc, hs⟩)
  dsimp only [Pt.U, Pt.locs, Pt.cells, Pt.slots] at X2 l2 y2 z2 st hQ
  obtain ⟨N2, cs', hQ', hH'⟩ := hQ
  subst l2 y2 z2
  exact ⟨T2, v', cs', hQ', ⟨_, X2, N.app N2, hH'⟩, fun target q => st.trans q⟩
end Calls
theorem own_ACd {Z : State} {h : Heap} {x : Addr} {c : Cell} : own_AC Z h x c .double ↔ Exa Z h x "[D" := by
  show Exa Z h x ("[" ++ FieldType.double.toString) ↔ _
  rw [show "[" ++ FieldType.double.toString = "[D" from by decide]
end OwnHeap
section OwnHeap2
open Jvm.Free Jvm.Stand Jvm.LawKit Jvm.RoadKit
variable {p : Program} {l : Launch} {e : Env} {R : Room} {s : State} {m : MethodId} {args : Array Value} {below : List Frame} {meth : Method} {c : Code} {T : State} {Z : State} {a0 : Array Value} {hb : own_Base} {cs : List (Addr × own_Cel)} {k n : Nat}
/-- a private method, called by invokevirtual -/
theorem own_callPr (H : own_S p l e R s m args below meth c Z a0 hb T cs k n) (hx : p.tables.exec = Jvm.exec) (hZ : Z.Warmed39 s.vm) {own : String} {index nn : Nat} {y : MethodName} {bytes : ByteArray} {maxL : Nat} {ret : Option FieldType} (hown : s.vm.findClass own = some m.cls)
    (w1 : (Jvm.Cond.methodLink own index y).before a0 Z = true) (w2 : (Jvm.Cond.instanceMethod y).before a0 Z = true) (w5 : (Jvm.Cond.privateMethod y).before a0 Z = true) (w6 : (Jvm.Cond.instantiable y.cls nn).before a0 Z = true) (w3 : (Jvm.Cond.initialized y.cls).before a0 Z = true) (w4 : (Jvm.Cond.code y bytes maxL ret).before a0 Z = true) (hy : y.cls ≠ "java/lang/invoke/MethodHandle" ∧ y.cls ≠ "java/lang/invoke/VarHandle")
    {rm : Room} {W : Nat} {x : Addr} {C : String} {fs : List (String × String × String × Value)} (i : Nat) (hi : cs[i]? = some (x, own_O C fs)) {argsL rest : List Value} {Q : Option Value → List (Addr × own_Cel) → Prop} (hM : own_Met l Z a0 hb y bytes maxL ret [] rm (Value.ref x :: argsL).toArray cs Q) (hf : rm.frames + 1 ≤ R.frames) (hl : W + (maxL + 11) + rm.locals ≤ R.locals) (hc : k + rm.cells ≤ R.cells) (hs : n + rm.slots ≤ R.slots)
    {g : JFrame} (hg : g.method = m) (hsize : g.locals.size = c.maxLocals) (hlen : ∀ sig, parseMethodDescriptor y.desc = some sig → argsL.length = sig.parameters.length) (hst : g.stack = argsL.reverse ++ .ref x :: rest) (hW : 2 * g.monitorRoom + (rest.map fun v => v.category).sum ≤ W) (hd : decode c.code g.pc = .ok (.invokevirtual index, 3)) :
    ∃ T' v cs', Q v cs' ∧ own_S p l e R s m args below meth c Z a0 hb T' cs' (k + rm.cells) (n + rm.slots) ∧ ∀ target, Steps p.tables e below (T'.setTop { g with pc := g.pc + 3, stack := v.toList ++ rest }) target → Steps p.tables e below (T.setTop g) target := by
  obtain ⟨locs, X, N, hH⟩ := H
  have hsel : (Jvm.Cond.selects y.cls y y).before a0 Z = true := Jvm.Kit.selects_private hy w6 w5 w2
  obtain ⟨cell, kk, q1, q2, q3, q4, -⟩ := (own_get hH hi).1.1
  obtain ⟨v', vm1, ⟨T2, L2, k2, n2⟩, -, X2, ⟨Lc, hQ, l2, y2, z2⟩, st⟩ := X.privateBack hx hown (mvT hZ w1) (mvT hZ w2) (mvT hZ hsel) (Cond.privateMethod_at (mvP hZ w5 (args := #[]))) (mvT hZ w4) hy (backOf (W := W) (rm := rm) (Q := fun w H L => Fr hb.size L ∧ ∃ cs', Q w cs' ∧ own_Hp Z a0 hb H cs') (hM _ hH) hZ w4 w3 hf hl) hg hsize (Steps.refl _) (a := x) q1 (fun q e => by rw [e] at q4; cases q4) hlen hst hW hd (fun _ _ => ⟨rfl, rfl, hc, hs⟩)
  dsimp only [Pt.U, Pt.locs, Pt.cells, Pt.slots] at X2 l2 y2 z2 st hQ
  obtain ⟨N2, cs', hQ', hH'⟩ := hQ
  subst l2 y2 z2
  exact ⟨T2, v', cs', hQ', ⟨_, X2, N.app N2, hH'⟩, fun target q => st.trans q⟩
/-- Math.abs of a double -/
theorem own_absD (H : own_S p l e R s m args below meth c Z a0 hb T cs k n) (hx : p.tables.exec = Jvm.exec) (hZ : Z.Warmed39 s.vm) {own : String} {index : Nat} (hown : s.vm.findClass own = some m.cls)
    (w1 : (Jvm.Cond.methodLink own index Jvm.Free.Fl.Abs.absDN).before a0 Z = true) (w2 : (Jvm.Cond.static Jvm.Free.Fl.Abs.absDN).before a0 Z = true) (w3 : (Jvm.Cond.initialized "java/lang/Math").before a0 Z = true) (w4 : (Jvm.Cond.code Jvm.Free.Fl.Abs.absDN Jvm.Free.Fl.Abs.absDCode 2 (some .double)).before a0 Z = true)
    {a : UInt64} (ha : Jvm.Free.Fl.NoNaN64 a) {W : Nat} {rest : List Value} (hf : 1 ≤ R.frames) (hl : W + 13 ≤ R.locals) (hc : k ≤ R.cells) (hs : n ≤ R.slots)
    {g : JFrame} (hg : g.method = m) (hsize : g.locals.size = c.maxLocals) (hst : g.stack = .double a :: rest) (hW : 2 * g.monitorRoom + (rest.map fun v => v.category).sum ≤ W) (hd : decode c.code g.pc = .ok (.invokestatic index, 3)) :
    ∃ T', own_S p l e R s m args below meth c Z a0 hb T' cs k n ∧ ∀ target, Steps p.tables e below (T'.setTop { g with pc := g.pc + 3, stack := .double (a &&& 0x7fffffffffffffff) :: rest }) target → Steps p.tables e below (T.setTop g) target := by
  obtain ⟨locs, X, N, hH⟩ := H
  have hpd : parseMethodDescriptor "(D)D" = some ⟨[.double], some .double⟩ := by decide +kernel
  obtain ⟨T', X', e', st⟩ := natS X hx hZ hown w1 w2 w3 w4 (by decide) rfl (F := fun a' => a' = #[.double a] ∧ Jvm.Free.Fl.NoNaN64 a) (fun c4 => Jvm.Free.Fl.Abs.absD_pays (W := W) a c4 hf hl) hg hsize (argsL := [.double a]) (rest := rest) (lenOf hpd rfl) hst hW hd hc hs ⟨rfl, ha⟩ rfl
  exact ⟨T', ⟨locs, X', N, e' ▸ hH⟩, st⟩
end OwnHeap2
/-! statics of the start, char and byte arrays -/
section OwnHeap3
open Jvm.Free Jvm.Stand Jvm.LawKit Jvm.RoadKit
variable {p : Program} {l : Launch} {e : Env} {R : Room} {s : State} {m : MethodId} {args : Array Value} {below : List Frame} {meth : Method} {c : Code} {T : State} {Z : State} {a0 : Array Value} {hb : own_Base} {cs : List (Addr × own_Cel)} {k n : Nat}
theorem own_getS (H : own_S p l e R s m args below meth c Z a0 hb T cs k n) (hx : p.tables.exec = Jvm.exec) (hZ : Z.Warmed39 s.vm) {own O nm d : String} {index : Nat} (hown : s.vm.findClass own = some m.cls) (w : (Jvm.Cond.fieldLink own index O nm d).before a0 Z = true)
    {v : Value} (F : Sta Z hb.b O nm d v) {g : JFrame} (hg : g.method = m) (hd : decode c.code g.pc = .ok (.getstatic index, 3)) :
    ∃ T', own_S p l e R s m args below meth c Z a0 hb T' cs k n ∧ ∀ target, Steps p.tables e below (T'.setTop { g with pc := g.pc + 3, stack := v :: g.stack }) target → Steps p.tables e below (T.setTop g) target := by
  obtain ⟨locs, X, N, hH⟩ := H
  obtain ⟨T', X', e', st⟩ := getS (host := "") X hx hZ hown w Via.refl rfl (Sta.ext hH.1.1 F) hg hd
  exact ⟨T', ⟨locs, X', N, e' ▸ hH⟩, st⟩
theorem own_castore (H : own_S p l e R s m args below meth c Z a0 hb T cs k n) (hx : p.tables.exec = Jvm.exec) (hZ : Z.Warmed39 s.vm) {x : Addr} {vs : List Value} {j : Int32} {v : Int32} (i jj : Nat) (hi : cs[i]? = some (x, own_A .char vs)) (hj : j.toInt = jj) (hlt : jj < vs.length)
    {g : JFrame} (hg : g.method = m) {rest : List Value} (hs : g.stack = .int v :: .int j :: .ref x :: rest) (hd : decode c.code g.pc = .ok (.castore, 1)) :
    ∃ T', own_S p l e R s m args below meth c Z a0 hb T' (cs.set i (x, own_A .char (vs.set jj (.int (nar .char v))))) k n ∧ ∀ target, Steps p.tables e below (T'.setTop { g with pc := g.pc + 1, stack := rest }) target → Steps p.tables e below (T.setTop g) target := by
  obtain ⟨locs, X, N, hH⟩ := H
  have I := own_get hH hi
  obtain ⟨cl, A, hc, -⟩ := I.1
  obtain ⟨T', h', X', e', W, st⟩ := stC X hx hZ rfl A (own_idx hc (by omega) (by omega)) hg hs hd
  have hjj : j.toNatClampNeg = jj := by show j.toInt.toNat = jj; omega
  rw [hjj] at W
  refine ⟨T', ⟨_, X', Fr.snoc X' N I.2, ?_⟩, st⟩
  rw [e']
  exact own_Hp_set hH hi W (own_Is_elt I.1 W)
theorem own_bastore (H : own_S p l e R s m args below meth c Z a0 hb T cs k n) (hx : p.tables.exec = Jvm.exec) (hZ : Z.Warmed39 s.vm) {x : Addr} {vs : List Value} {j : Int32} {v : Int32} (i jj : Nat) (hi : cs[i]? = some (x, own_A .byte vs)) (hj : j.toInt = jj) (hlt : jj < vs.length)
    {g : JFrame} (hg : g.method = m) {rest : List Value} (hs : g.stack = .int v :: .int j :: .ref x :: rest) (hd : decode c.code g.pc = .ok (.bastore, 1)) :
    ∃ T', own_S p l e R s m args below meth c Z a0 hb T' (cs.set i (x, own_A .byte (vs.set jj (.int (nar .byte v))))) k n ∧ ∀ target, Steps p.tables e below (T'.setTop { g with pc := g.pc + 1, stack := rest }) target → Steps p.tables e below (T.setTop g) target := by
  obtain ⟨locs, X, N, hH⟩ := H
  have I := own_get hH hi
  obtain ⟨cl, A, hc, -⟩ := I.1
  obtain ⟨T', h', X', e', W, st⟩ := stB X hx hZ rfl A (own_idx hc (by omega) (by omega)) hg hs hd
  have hjj : j.toNatClampNeg = jj := by show j.toInt.toNat = jj; omega
  rw [hjj] at W
  refine ⟨T', ⟨_, X', Fr.snoc X' N I.2, ?_⟩, st⟩
  rw [e']
  exact own_Hp_set hH hi W (own_Is_elt I.1 W)
theorem own_caload (H : own_S p l e R s m args below meth c Z a0 hb T cs k n) (hx : p.tables.exec = Jvm.exec) (hZ : Z.Warmed39 s.vm) {x : Addr} {vs : List Value} {j : Int32} {v : Value} (i jj : Nat) (hi : cs[i]? = some (x, own_A .char vs)) (hj : j.toInt = jj) (hv : vs[jj]? = some v)
    {g : JFrame} (hg : g.method = m) {rest : List Value} (hs : g.stack = .int j :: .ref x :: rest) (hd : decode c.code g.pc = .ok (.caload, 1)) :
    ∀ target, Steps p.tables e below (T.setTop { g with pc := g.pc + 1, stack := v :: rest }) target → Steps p.tables e below (T.setTop g) target := by
  obtain ⟨locs, X, N, hH⟩ := H
  obtain ⟨cl, A, hc, -⟩ := (own_get hH hi).1
  have hlt : jj < vs.length := (List.getElem?_eq_some_iff.mp hv).1
  exact fun target q => X.caload hx A.1 (State.isArrayOf_alike hZ.alike A.2.1) A.2.2 (own_idx hc (by omega) (by omega)) (own_at_idx hc hj hv) hg hs hd target q
theorem own_retB {t : FieldType} (x : Addr) : own_Ret .areturn (.array t) (.ref x) := ⟨rfl, Or.inr (Or.inr (Or.inr (Or.inr ⟨rfl, rfl, rfl⟩)))⟩
theorem own_retO {C : String} (x : Addr) : own_Ret .areturn (.object C) (.ref x) := ⟨rfl, Or.inr (Or.inr (Or.inr (Or.inr ⟨rfl, rfl, rfl⟩)))⟩
end OwnHeap3
/-! instanceof that says no, and Double.doubleToRawLongBits -/
section OwnHeap4
open Jvm.Free Jvm.Stand Jvm.LawKit Jvm.RoadKit
variable {p : Program} {l : Launch} {e : Env} {R : Room} {s : State} {m : MethodId} {args : Array Value} {below : List Frame} {meth : Method} {c : Code} {T : State} {Z : State} {a0 : Array Value} {hb : own_Base} {cs : List (Addr × own_Cel)} {k n : Nat}
theorem own_noAsg {C S K : String} {nn : Nat} (w : (Jvm.Cond.superclass C S).before a0 Z = true) (wr : (Jvm.Cond.noSuperclass S).before a0 Z = true) (wk : (Jvm.Cond.instantiable K nn).before a0 Z = true) (h1 : C ≠ K) (h2 : S ≠ K) : ∃ c t, Z.vm.findClass C = some c ∧ Z.vm.findClass K = some t ∧ Z.vm.assignable c t = false := by
  obtain ⟨t, kt, g0, g2, g5, g7, -⟩ := Cond.instantiable_spec wk
  obtain ⟨r, kr, r1, r2, r3, -, -⟩ := Cond.noSuperclass_spec wr
  have ner := ids_ne r1 g0 h2
  have nr : NS Z S K := ⟨r, t, r1, g0, fun fuel => by
    cases fuel with
    | zero => rfl
    | succ f => simp [Vm.isSubclassAux, ner, r2, r3]⟩
  obtain ⟨c, t', h0, g0', n3⟩ := NS.step w nr h1
  cases g0.symm.trans g0'
  obtain ⟨p, k, kp, e1, e2, e3, e4, e5, -, e7⟩ := Cond.superclass_spec h0 w
  have ne := ids_ne h0 g0 h1
  refine ⟨c, t, h0, g0, ?_⟩
  have g7' : kt.isInterface = false := by
    rw [Bool.or_eq_false_iff] at g7
    exact g7.1
  show Z.vm.assignableAux (255 + 1) c t = false
  simp [Vm.assignableAux, ne, e2, g2, e5, g5, g7', Vm.isSubclass, n3]
theorem own_instNo (H : own_S p l e R s m args below meth c Z a0 hb T cs k n) (hx : p.tables.exec = Jvm.exec) (hZ : Z.Warmed39 s.vm) {own C K : String} {index : Nat} (hown : s.vm.findClass own = some m.cls) (w : (Jvm.Cond.classLink own index K).before a0 Z = true) (F : ∃ c t, Z.vm.findClass C = some c ∧ Z.vm.findClass K = some t ∧ Z.vm.assignable c t = false)
    {x : Addr} {fs : List (String × String × String × Value)} (i : Nat) (hi : cs[i]? = some (x, own_O C fs)) {g : JFrame} (hg : g.method = m) {rest : List Value} (hs : g.stack = .ref x :: rest) (hd : decode c.code g.pc = .ok (.instanceof index, 3)) :
    ∃ T', own_S p l e R s m args below meth c Z a0 hb T' cs k n ∧ ∀ target, Steps p.tables e below (T'.setTop { g with pc := g.pc + 3, stack := .int 0 :: rest }) target → Steps p.tables e below (T.setTop g) target := by
  obtain ⟨locs, X, N, hH⟩ := H
  obtain ⟨T', X', e', st⟩ := instNo X hx hZ hown w rfl (own_get hH hi).1.1 F hg hs hd
  exact ⟨T', ⟨locs, X', N, e' ▸ hH⟩, st⟩
theorem own_instNull (H : own_S p l e R s m args below meth c Z a0 hb T cs k n) (hx : p.tables.exec = Jvm.exec) {index : Nat} {g : JFrame} (hg : g.method = m) {rest : List Value} (hs : g.stack = .null :: rest) (hd : decode c.code g.pc = .ok (.instanceof index, 3)) :
    ∀ target, Steps p.tables e below (T.setTop { g with pc := g.pc + 3, stack := .int 0 :: rest }) target → Steps p.tables e below (T.setTop g) target := by
  obtain ⟨locs, X, N, hH⟩ := H
  exact X.instanceofNull hx hg hs hd
theorem own_rawBits (H : own_S p l e R s m args below meth c Z a0 hb T cs k n) (hx : p.tables.exec = Jvm.exec) (hZ : Z.Warmed39 s.vm) {own : String} {index : Nat} (hown : s.vm.findClass own = some m.cls)
    (w1 : (Jvm.Cond.methodLink own index doubleToRawLongBitsName).before a0 Z = true) (w2 : (Jvm.Cond.native doubleToRawLongBitsName).before a0 Z = true) (w3 : (Jvm.Cond.static doubleToRawLongBitsName).before a0 Z = true) (w4 : (Jvm.Cond.initialized "java/lang/Double").before a0 Z = true)
    {v : UInt64} {rest : List Value} (hf : 1 ≤ R.frames) {g : JFrame} (hl : 2 * g.monitorRoom + (rest.map fun v => v.category).sum + (nativeFrameWords "java/lang/Double" "doubleToRawLongBits" 2 + 11) ≤ R.locals)
    (hg : g.method = m) (hsize : g.locals.size = c.maxLocals) (hst : g.stack = .double v :: rest) (hd : decode c.code g.pc = .ok (.invokestatic index, 3)) :
    ∃ T', own_S p l e R s m args below meth c Z a0 hb T' cs k n ∧ ∀ target, Steps p.tables e below (T'.setTop { g with pc := g.pc + 3, stack := .long v.toInt64 :: rest }) target → Steps p.tables e below (T.setTop g) target := by
  obtain ⟨locs, X, N, hH⟩ := H
  obtain ⟨vm', X', st⟩ := X.doubleToRawLongBits hx hown (mvT hZ w1) (mvT hZ w2) (mvT hZ w3) (mvT hZ w4) hg hsize hst hd hf hl
  exact ⟨T.setVm vm', ⟨locs, X', N, hH⟩, st⟩
end OwnHeap4
section OwnInts
open Jvm.Free Jvm.Stand Jvm.LawKit Jvm.RoadKit
theorem own_lm {x y : Int64} {a b : Int} {X Y : Nat} (hx : x.toInt = a) (hy : y.toInt = b) (ka : a.natAbs ≤ X) (kb : b.natAbs ≤ Y) (h : X * Y < 9223372036854775808) : (x * y).toInt = a * b := by
  have h1 := c_lmul x y
  have h2 := rng64 (x * y)
  have h3 := own_nb ka kb
  rw [hx, hy] at h1
  generalize a * b = w at *
  generalize X * Y = W at *
  omega
theorem own_la {x y : Int64} {a b : Int} (hx : x.toInt = a) (hy : y.toInt = b) (h1 : a + b ≤ 9223372036854775807) (h2 : -9223372036854775808 ≤ a + b) : (x + y).toInt = a + b := by
  have q1 := c_ladd x y
  have q2 := rng64 (x + y)
  rw [hx, hy] at q1
  omega
theorem own_lsb {x y : Int64} {a b : Int} (hx : x.toInt = a) (hy : y.toInt = b) (h1 : a - b ≤ 9223372036854775807) (h2 : -9223372036854775808 ≤ a - b) : (x - y).toInt = a - b := by
  have q1 := c_lsub x y
  have q2 := rng64 (x - y)
  rw [hx, hy] at q1
  omega
theorem own_feq {a b c d : Int} (hb : b ≠ 0) (hd : d ≠ 0) (h : a * d = c * b) : (a : Rat) / (b : Rat) = (c : Rat) / (d : Rat) := by
  have hb' : (b : Rat) ≠ 0 := by rw [Ne, Rat.intCast_eq_zero_iff]; exact hb
  have hd' : (d : Rat) ≠ 0 := by rw [Ne, Rat.intCast_eq_zero_iff]; exact hd
  have h' : (a : Rat) * (d : Rat) = (c : Rat) * (b : Rat) := by rw [← Rat.intCast_mul, ← Rat.intCast_mul, h]
  refine own_cancel hb' (own_cancel hd' ?_)
  rw [Rat.div_mul_cancel hb', h', Rat.mul_assoc, Rat.mul_comm (b : Rat), ← Rat.mul_assoc, Rat.div_mul_cancel hd']
end OwnInts
section OwnClaim
open Jvm.Free.Fl
def own_K0 : List (Nat × Value) := [(32, .double 9223372036854775808)]
theorem own_K0_ok : ∀ q ∈ own_K0, ∃ w ∈ tables_1, own_Word "com/example/hazeline/hazeline/fuzzy/TrapezoidEqualsPinLaw" q.1 q.2 w := by
  intro q hq
  simp only [own_K0, List.mem_cons, List.not_mem_nil, or_false] at hq
  rcases hq with rfl
  · exact ⟨_, List.mem_of_getElem? (i := 78) rfl, rfl⟩
theorem own_pn0 : plainName "com/example/hazeline/hazeline/fuzzy/TrapezoidEqualsPinLaw" = true := by first | (simp [plainName, overriddenIn]; done) | decide +kernel
theorem d1_0 : decode method_3_code 0 = .ok (.lload_n 0, 1) := by decide +kernel
theorem d1_1 : decode method_3_code 1 = .ok (.lconst 0, 1) := by decide +kernel
theorem d1_2 : decode method_3_code 2 = .ok (.lcmp, 1) := by decide +kernel
theorem d1_3 : decode method_3_code 3 = .ok (.ifCond .ne 15, 3) := by decide +kernel
theorem d1_6 : decode method_3_code 6 = .ok (.iload_n 2, 1) := by decide +kernel
theorem d1_7 : decode method_3_code 7 = .ok (.iload_n 3, 1) := by decide +kernel
theorem d1_8 : decode method_3_code 8 = .ok (.ishr, 1) := by decide +kernel
theorem d1_9 : decode method_3_code 9 = .ok (.iconst 1, 1) := by decide +kernel
theorem d1_10 : decode method_3_code 10 = .ok (.iand, 1) := by decide +kernel
theorem d1_11 : decode method_3_code 11 = .ok (.ifCond .eq 7, 3) := by decide +kernel
theorem d1_14 : decode method_3_code 14 = .ok (.ldc2_w 32, 3) := by decide +kernel
theorem d1_17 : decode method_3_code 17 = .ok (.dreturn, 1) := by decide +kernel
theorem d1_18 : decode method_3_code 18 = .ok (.lload_n 0, 1) := by decide +kernel
theorem d1_19 : decode method_3_code 19 = .ok (.l2d, 1) := by decide +kernel
theorem d1_20 : decode method_3_code 20 = .ok (.dreturn, 1) := by decide +kernel
def own_K1 : List (Nat × Value) := [(32, .double 9223372036854775808)]
theorem own_K1_ok : ∀ q ∈ own_K1, ∃ w ∈ tables_1, own_Word "com/example/hazeline/hazeline/fuzzy/TrapezoidEqualsPinLaw" q.1 q.2 w := by
  intro q hq
  simp only [own_K1, List.mem_cons, List.not_mem_nil, or_false] at hq
  rcases hq with rfl
  · exact ⟨_, List.mem_of_getElem? (i := 78) rfl, rfl⟩
theorem own_pn1 : plainName "com/example/hazeline/hazeline/fuzzy/TrapezoidEqualsPinLaw" = true := by first | (simp [plainName, overriddenIn]; done) | decide +kernel
theorem d2_0 : decode prog_5_method_1_code 0 = .ok (.aload_n 0, 1) := by decide +kernel
theorem d2_1 : decode prog_5_method_1_code 1 = .ok (.invokespecial 1, 3) := by decide +kernel
theorem d2_4 : decode prog_5_method_1_code 4 = .ok (.dload_n 1, 1) := by decide +kernel
theorem d2_5 : decode prog_5_method_1_code 5 = .ok (.invokestatic 7, 3) := by decide +kernel
theorem d2_8 : decode prog_5_method_1_code 8 = .ok (.ifCond .eq 26, 3) := by decide +kernel
theorem d2_11 : decode prog_5_method_1_code 11 = .ok (.dload_n 3, 1) := by decide +kernel
theorem d2_12 : decode prog_5_method_1_code 12 = .ok (.invokestatic 7, 3) := by decide +kernel
theorem d2_15 : decode prog_5_method_1_code 15 = .ok (.ifCond .eq 19, 3) := by decide +kernel
theorem d2_18 : decode prog_5_method_1_code 18 = .ok (.dload 5, 2) := by decide +kernel
theorem d2_20 : decode prog_5_method_1_code 20 = .ok (.invokestatic 7, 3) := by decide +kernel
theorem d2_23 : decode prog_5_method_1_code 23 = .ok (.ifCond .eq 11, 3) := by decide +kernel
theorem d2_26 : decode prog_5_method_1_code 26 = .ok (.dload 7, 2) := by decide +kernel
theorem d2_28 : decode prog_5_method_1_code 28 = .ok (.invokestatic 7, 3) := by decide +kernel
theorem d2_31 : decode prog_5_method_1_code 31 = .ok (.ifCond .ne 25, 3) := by decide +kernel
theorem d2_34 : decode prog_5_method_1_code 34 = .ok (.new 13, 3) := by decide +kernel
theorem d2_37 : decode prog_5_method_1_code 37 = .ok (.dup, 1) := by decide +kernel
theorem d2_38 : decode prog_5_method_1_code 38 = .ok (.dload_n 1, 1) := by decide +kernel
theorem d2_39 : decode prog_5_method_1_code 39 = .ok (.dload_n 3, 1) := by decide +kernel
theorem d2_40 : decode prog_5_method_1_code 40 = .ok (.dload 5, 2) := by decide +kernel
theorem d2_42 : decode prog_5_method_1_code 42 = .ok (.dload 7, 2) := by decide +kernel
theorem d2_44 : decode prog_5_method_1_code 44 = .ok (.invokestatic 15, 3) := by decide +kernel
theorem d2_52 : decode prog_5_method_1_code 52 = .ok (.invokespecial 25, 3) := by decide +kernel
theorem d2_55 : decode prog_5_method_1_code 55 = .ok (.athrow, 1) := by decide +kernel
theorem d2_56 : decode prog_5_method_1_code 56 = .ok (.dload_n 1, 1) := by decide +kernel
theorem d2_57 : decode prog_5_method_1_code 57 = .ok (.dload_n 3, 1) := by decide +kernel
theorem d2_58 : decode prog_5_method_1_code 58 = .ok (.dcmp .g, 1) := by decide +kernel
theorem d2_59 : decode prog_5_method_1_code 59 = .ok (.ifCond .gt 18, 3) := by decide +kernel
theorem d2_62 : decode prog_5_method_1_code 62 = .ok (.dload_n 3, 1) := by decide +kernel
theorem d2_63 : decode prog_5_method_1_code 63 = .ok (.dload 5, 2) := by decide +kernel
theorem d2_65 : decode prog_5_method_1_code 65 = .ok (.dcmp .g, 1) := by decide +kernel
theorem d2_66 : decode prog_5_method_1_code 66 = .ok (.ifCond .gt 11, 3) := by decide +kernel
theorem d2_69 : decode prog_5_method_1_code 69 = .ok (.dload 5, 2) := by decide +kernel
theorem d2_71 : decode prog_5_method_1_code 71 = .ok (.dload 7, 2) := by decide +kernel
theorem d2_73 : decode prog_5_method_1_code 73 = .ok (.dcmp .g, 1) := by decide +kernel
theorem d2_74 : decode prog_5_method_1_code 74 = .ok (.ifCond .le 25, 3) := by decide +kernel
theorem d2_77 : decode prog_5_method_1_code 77 = .ok (.new 13, 3) := by decide +kernel
theorem d2_80 : decode prog_5_method_1_code 80 = .ok (.dup, 1) := by decide +kernel
theorem d2_81 : decode prog_5_method_1_code 81 = .ok (.dload_n 1, 1) := by decide +kernel
theorem d2_82 : decode prog_5_method_1_code 82 = .ok (.dload_n 3, 1) := by decide +kernel
theorem d2_83 : decode prog_5_method_1_code 83 = .ok (.dload 5, 2) := by decide +kernel
theorem d2_85 : decode prog_5_method_1_code 85 = .ok (.dload 7, 2) := by decide +kernel
theorem d2_87 : decode prog_5_method_1_code 87 = .ok (.invokestatic 15, 3) := by decide +kernel
theorem d2_95 : decode prog_5_method_1_code 95 = .ok (.invokespecial 25, 3) := by decide +kernel
theorem d2_98 : decode prog_5_method_1_code 98 = .ok (.athrow, 1) := by decide +kernel
theorem d2_99 : decode prog_5_method_1_code 99 = .ok (.aload_n 0, 1) := by decide +kernel
theorem d2_100 : decode prog_5_method_1_code 100 = .ok (.dload_n 1, 1) := by decide +kernel
theorem d2_101 : decode prog_5_method_1_code 101 = .ok (.putfield 29, 3) := by decide +kernel
theorem d2_104 : decode prog_5_method_1_code 104 = .ok (.aload_n 0, 1) := by decide +kernel
theorem d2_105 : decode prog_5_method_1_code 105 = .ok (.dload_n 3, 1) := by decide +kernel
theorem d2_106 : decode prog_5_method_1_code 106 = .ok (.putfield 33, 3) := by decide +kernel
theorem d2_109 : decode prog_5_method_1_code 109 = .ok (.aload_n 0, 1) := by decide +kernel
theorem d2_110 : decode prog_5_method_1_code 110 = .ok (.dload 5, 2) := by decide +kernel
theorem d2_112 : decode prog_5_method_1_code 112 = .ok (.putfield 36, 3) := by decide +kernel
theorem d2_115 : decode prog_5_method_1_code 115 = .ok (.aload_n 0, 1) := by decide +kernel
theorem d2_116 : decode prog_5_method_1_code 116 = .ok (.dload 7, 2) := by decide +kernel
theorem d2_118 : decode prog_5_method_1_code 118 = .ok (.putfield 39, 3) := by decide +kernel
theorem d2_121 : decode prog_5_method_1_code 121 = .ok (.return_, 1) := by decide +kernel
def own_K2 : List (Nat × Value) := []
theorem own_K2_ok : ∀ q ∈ own_K2, ∃ w ∈ tables_1, own_Word "com/example/hazeline/hazeline/fuzzy/Trapezoid" q.1 q.2 w := by
  intro q hq
  exact absurd hq (List.not_mem_nil)
theorem own_pn2 : plainName "com/example/hazeline/hazeline/fuzzy/Trapezoid" = true := by first | (simp [plainName, overriddenIn]; done) | decide +kernel
theorem d4_0 : decode jdk_117_method_8_code 0 = .ok (.dload_n 0, 1) := by decide +kernel
theorem d4_1 : decode jdk_117_method_8_code 1 = .ok (.invokestatic 38, 3) := by decide +kernel
theorem d4_4 : decode jdk_117_method_8_code 4 = .ok (.ldc2_w 111, 3) := by decide +kernel
theorem d4_7 : decode jdk_117_method_8_code 7 = .ok (.dcmp .g, 1) := by decide +kernel
theorem d4_8 : decode jdk_117_method_8_code 8 = .ok (.ifCond .gt 7, 3) := by decide +kernel
theorem d4_11 : decode jdk_117_method_8_code 11 = .ok (.iconst 1, 1) := by decide +kernel
theorem d4_12 : decode jdk_117_method_8_code 12 = .ok (.goto 4, 3) := by decide +kernel
theorem d4_15 : decode jdk_117_method_8_code 15 = .ok (.iconst 0, 1) := by decide +kernel
theorem d4_16 : decode jdk_117_method_8_code 16 = .ok (.ireturn, 1) := by decide +kernel
def own_K4 : List (Nat × Value) := [(111, .double 9218868437227405311)]
theorem own_K4_ok : ∀ q ∈ own_K4, ∃ w ∈ tables_1, own_Word "java/lang/Double" q.1 q.2 w := by
  intro q hq
  simp only [own_K4, List.mem_cons, List.not_mem_nil, or_false] at hq
  rcases hq with rfl
  · exact ⟨_, List.mem_of_getElem? (i := 21) rfl, rfl⟩
theorem own_pn4 : plainName "java/lang/Double" = true := by first | (simp [plainName, overriddenIn]; done) | decide +kernel
theorem d6_0 : decode method_4_code 0 = .ok (.lload_n 0, 1) := by decide +kernel
theorem d6_1 : decode method_4_code 1 = .ok (.lload_n 3, 1) := by decide +kernel
theorem d6_2 : decode method_4_code 2 = .ok (.lcmp, 1) := by decide +kernel
theorem d6_3 : decode method_4_code 3 = .ok (.ifCond .eq 5, 3) := by decide +kernel
theorem d6_6 : decode method_4_code 6 = .ok (.iconst 0, 1) := by decide +kernel
theorem d6_7 : decode method_4_code 7 = .ok (.ireturn, 1) := by decide +kernel
theorem d6_8 : decode method_4_code 8 = .ok (.lload_n 0, 1) := by decide +kernel
theorem d6_9 : decode method_4_code 9 = .ok (.lconst 0, 1) := by decide +kernel
theorem d6_10 : decode method_4_code 10 = .ok (.lcmp, 1) := by decide +kernel
theorem d6_11 : decode method_4_code 11 = .ok (.ifCond .eq 5, 3) := by decide +kernel
theorem d6_14 : decode method_4_code 14 = .ok (.iconst 1, 1) := by decide +kernel
theorem d6_15 : decode method_4_code 15 = .ok (.ireturn, 1) := by decide +kernel
theorem d6_16 : decode method_4_code 16 = .ok (.iload_n 2, 1) := by decide +kernel
theorem d6_17 : decode method_4_code 17 = .ok (.iload 6, 2) := by decide +kernel
theorem d6_19 : decode method_4_code 19 = .ok (.ishr, 1) := by decide +kernel
theorem d6_20 : decode method_4_code 20 = .ok (.iconst 1, 1) := by decide +kernel
theorem d6_21 : decode method_4_code 21 = .ok (.iand, 1) := by decide +kernel
theorem d6_22 : decode method_4_code 22 = .ok (.iload 5, 2) := by decide +kernel
theorem d6_24 : decode method_4_code 24 = .ok (.iload 6, 2) := by decide +kernel
theorem d6_26 : decode method_4_code 26 = .ok (.ishr, 1) := by decide +kernel
theorem d6_27 : decode method_4_code 27 = .ok (.iconst 1, 1) := by decide +kernel
theorem d6_28 : decode method_4_code 28 = .ok (.iand, 1) := by decide +kernel
theorem d6_29 : decode method_4_code 29 = .ok (.if_icmp .ne 7, 3) := by decide +kernel
theorem d6_32 : decode method_4_code 32 = .ok (.iconst 1, 1) := by decide +kernel
theorem d6_33 : decode method_4_code 33 = .ok (.goto 4, 3) := by decide +kernel
theorem d6_36 : decode method_4_code 36 = .ok (.iconst 0, 1) := by decide +kernel
theorem d6_37 : decode method_4_code 37 = .ok (.ireturn, 1) := by decide +kernel
def own_K6 : List (Nat × Value) := [(32, .double 9223372036854775808)]
theorem own_K6_ok : ∀ q ∈ own_K6, ∃ w ∈ tables_1, own_Word "com/example/hazeline/hazeline/fuzzy/TrapezoidEqualsPinLaw" q.1 q.2 w := by
  intro q hq
  simp only [own_K6, List.mem_cons, List.not_mem_nil, or_false] at hq
  rcases hq with rfl
  · exact ⟨_, List.mem_of_getElem? (i := 78) rfl, rfl⟩
theorem own_pn6 : plainName "com/example/hazeline/hazeline/fuzzy/TrapezoidEqualsPinLaw" = true := by first | (simp [plainName, overriddenIn]; done) | decide +kernel
theorem d7_0 : decode prog_5_method_14_code 0 = .ok (.aload_n 1, 1) := by decide +kernel
theorem d7_1 : decode prog_5_method_14_code 1 = .ok (.instanceof 16, 3) := by decide +kernel
theorem d7_4 : decode prog_5_method_14_code 4 = .ok (.ifCond .ne 5, 3) := by decide +kernel
theorem d7_7 : decode prog_5_method_14_code 7 = .ok (.iconst 0, 1) := by decide +kernel
theorem d7_8 : decode prog_5_method_14_code 8 = .ok (.ireturn, 1) := by decide +kernel
theorem d7_9 : decode prog_5_method_14_code 9 = .ok (.aload_n 1, 1) := by decide +kernel
theorem d7_10 : decode prog_5_method_14_code 10 = .ok (.checkcast 16, 3) := by decide +kernel
theorem d7_13 : decode prog_5_method_14_code 13 = .ok (.astore_n 2, 1) := by decide +kernel
theorem d7_14 : decode prog_5_method_14_code 14 = .ok (.aload_n 0, 1) := by decide +kernel
theorem d7_15 : decode prog_5_method_14_code 15 = .ok (.getfield 29, 3) := by decide +kernel
theorem d7_18 : decode prog_5_method_14_code 18 = .ok (.aload_n 2, 1) := by decide +kernel
theorem d7_19 : decode prog_5_method_14_code 19 = .ok (.getfield 29, 3) := by decide +kernel
theorem d7_22 : decode prog_5_method_14_code 22 = .ok (.invokestatic 78, 3) := by decide +kernel
theorem d7_25 : decode prog_5_method_14_code 25 = .ok (.ifCond .ne 49, 3) := by decide +kernel
theorem d7_28 : decode prog_5_method_14_code 28 = .ok (.aload_n 0, 1) := by decide +kernel
theorem d7_29 : decode prog_5_method_14_code 29 = .ok (.getfield 33, 3) := by decide +kernel
theorem d7_32 : decode prog_5_method_14_code 32 = .ok (.aload_n 2, 1) := by decide +kernel
theorem d7_33 : decode prog_5_method_14_code 33 = .ok (.getfield 33, 3) := by decide +kernel
theorem d7_36 : decode prog_5_method_14_code 36 = .ok (.invokestatic 78, 3) := by decide +kernel
theorem d7_39 : decode prog_5_method_14_code 39 = .ok (.ifCond .ne 35, 3) := by decide +kernel
theorem d7_42 : decode prog_5_method_14_code 42 = .ok (.aload_n 0, 1) := by decide +kernel
theorem d7_43 : decode prog_5_method_14_code 43 = .ok (.getfield 36, 3) := by decide +kernel
theorem d7_46 : decode prog_5_method_14_code 46 = .ok (.aload_n 2, 1) := by decide +kernel
theorem d7_47 : decode prog_5_method_14_code 47 = .ok (.getfield 36, 3) := by decide +kernel
theorem d7_50 : decode prog_5_method_14_code 50 = .ok (.invokestatic 78, 3) := by decide +kernel
theorem d7_53 : decode prog_5_method_14_code 53 = .ok (.ifCond .ne 21, 3) := by decide +kernel
theorem d7_56 : decode prog_5_method_14_code 56 = .ok (.aload_n 0, 1) := by decide +kernel
theorem d7_57 : decode prog_5_method_14_code 57 = .ok (.getfield 39, 3) := by decide +kernel
theorem d7_60 : decode prog_5_method_14_code 60 = .ok (.aload_n 2, 1) := by decide +kernel
theorem d7_61 : decode prog_5_method_14_code 61 = .ok (.getfield 39, 3) := by decide +kernel
theorem d7_64 : decode prog_5_method_14_code 64 = .ok (.invokestatic 78, 3) := by decide +kernel
theorem d7_67 : decode prog_5_method_14_code 67 = .ok (.ifCond .ne 7, 3) := by decide +kernel
theorem d7_70 : decode prog_5_method_14_code 70 = .ok (.iconst 1, 1) := by decide +kernel
theorem d7_71 : decode prog_5_method_14_code 71 = .ok (.goto 4, 3) := by decide +kernel
theorem d7_74 : decode prog_5_method_14_code 74 = .ok (.iconst 0, 1) := by decide +kernel
theorem d7_75 : decode prog_5_method_14_code 75 = .ok (.ireturn, 1) := by decide +kernel
def own_K7 : List (Nat × Value) := []
theorem own_K7_ok : ∀ q ∈ own_K7, ∃ w ∈ tables_1, own_Word "com/example/hazeline/hazeline/fuzzy/Trapezoid" q.1 q.2 w := by
  intro q hq
  exact absurd hq (List.not_mem_nil)
theorem own_pn7 : plainName "com/example/hazeline/hazeline/fuzzy/Trapezoid" = true := by first | (simp [plainName, overriddenIn]; done) | decide +kernel
theorem d8_0 : decode jdk_117_method_27_code 0 = .ok (.dload_n 0, 1) := by decide +kernel
theorem d8_1 : decode jdk_117_method_27_code 1 = .ok (.dload_n 2, 1) := by decide +kernel
theorem d8_2 : decode jdk_117_method_27_code 2 = .ok (.dcmp .g, 1) := by decide +kernel
theorem d8_3 : decode jdk_117_method_27_code 3 = .ok (.ifCond .ge 5, 3) := by decide +kernel
theorem d8_6 : decode jdk_117_method_27_code 6 = .ok (.iconst (-1), 1) := by decide +kernel
theorem d8_7 : decode jdk_117_method_27_code 7 = .ok (.ireturn, 1) := by decide +kernel
theorem d8_8 : decode jdk_117_method_27_code 8 = .ok (.dload_n 0, 1) := by decide +kernel
theorem d8_9 : decode jdk_117_method_27_code 9 = .ok (.dload_n 2, 1) := by decide +kernel
theorem d8_10 : decode jdk_117_method_27_code 10 = .ok (.dcmp .l, 1) := by decide +kernel
theorem d8_11 : decode jdk_117_method_27_code 11 = .ok (.ifCond .le 5, 3) := by decide +kernel
theorem d8_14 : decode jdk_117_method_27_code 14 = .ok (.iconst 1, 1) := by decide +kernel
theorem d8_15 : decode jdk_117_method_27_code 15 = .ok (.ireturn, 1) := by decide +kernel
theorem d8_16 : decode jdk_117_method_27_code 16 = .ok (.dload_n 0, 1) := by decide +kernel
theorem d8_17 : decode jdk_117_method_27_code 17 = .ok (.invokestatic 46, 3) := by decide +kernel
theorem d8_20 : decode jdk_117_method_27_code 20 = .ok (.lstore 4, 2) := by decide +kernel
theorem d8_22 : decode jdk_117_method_27_code 22 = .ok (.dload_n 2, 1) := by decide +kernel
theorem d8_23 : decode jdk_117_method_27_code 23 = .ok (.invokestatic 46, 3) := by decide +kernel
theorem d8_26 : decode jdk_117_method_27_code 26 = .ok (.lstore 6, 2) := by decide +kernel
theorem d8_28 : decode jdk_117_method_27_code 28 = .ok (.lload 4, 2) := by decide +kernel
theorem d8_30 : decode jdk_117_method_27_code 30 = .ok (.lload 6, 2) := by decide +kernel
theorem d8_32 : decode jdk_117_method_27_code 32 = .ok (.lcmp, 1) := by decide +kernel
theorem d8_33 : decode jdk_117_method_27_code 33 = .ok (.ifCond .ne 7, 3) := by decide +kernel
theorem d8_36 : decode jdk_117_method_27_code 36 = .ok (.iconst 0, 1) := by decide +kernel
theorem d8_37 : decode jdk_117_method_27_code 37 = .ok (.goto 16, 3) := by decide +kernel
theorem d8_40 : decode jdk_117_method_27_code 40 = .ok (.lload 4, 2) := by decide +kernel
theorem d8_42 : decode jdk_117_method_27_code 42 = .ok (.lload 6, 2) := by decide +kernel
theorem d8_44 : decode jdk_117_method_27_code 44 = .ok (.lcmp, 1) := by decide +kernel
theorem d8_45 : decode jdk_117_method_27_code 45 = .ok (.ifCond .ge 7, 3) := by decide +kernel
theorem d8_48 : decode jdk_117_method_27_code 48 = .ok (.iconst (-1), 1) := by decide +kernel
theorem d8_49 : decode jdk_117_method_27_code 49 = .ok (.goto 4, 3) := by decide +kernel
theorem d8_52 : decode jdk_117_method_27_code 52 = .ok (.iconst 1, 1) := by decide +kernel
theorem d8_53 : decode jdk_117_method_27_code 53 = .ok (.ireturn, 1) := by decide +kernel
def own_K8 : List (Nat × Value) := [(111, .double 9218868437227405311)]
theorem own_K8_ok : ∀ q ∈ own_K8, ∃ w ∈ tables_1, own_Word "java/lang/Double" q.1 q.2 w := by
  intro q hq
  simp only [own_K8, List.mem_cons, List.not_mem_nil, or_false] at hq
  rcases hq with rfl
  · exact ⟨_, List.mem_of_getElem? (i := 21) rfl, rfl⟩
theorem own_pn8 : plainName "java/lang/Double" = true := by first | (simp [plainName, overriddenIn]; done) | decide +kernel
theorem d9_0 : decode jdk_42_method_139_code 0 = .ok (.getstatic 38, 3) := by decide +kernel
theorem d9_3 : decode jdk_42_method_139_code 3 = .ok (.ifCond .eq 23, 3) := by decide +kernel
theorem d9_6 : decode jdk_42_method_139_code 6 = .ok (.iload_n 0, 1) := by decide +kernel
theorem d9_7 : decode jdk_42_method_139_code 7 = .ok (.invokestatic 1015, 3) := by decide +kernel
theorem d9_10 : decode jdk_42_method_139_code 10 = .ok (.ifCond .eq 16, 3) := by decide +kernel
theorem d9_13 : decode jdk_42_method_139_code 13 = .ok (.new 10, 3) := by decide +kernel
theorem d9_16 : decode jdk_42_method_139_code 16 = .ok (.dup, 1) := by decide +kernel
theorem d9_17 : decode jdk_42_method_139_code 17 = .ok (.iload_n 0, 1) := by decide +kernel
theorem d9_18 : decode jdk_42_method_139_code 18 = .ok (.invokestatic 1018, 3) := by decide +kernel
theorem d9_21 : decode jdk_42_method_139_code 21 = .ok (.iconst 0, 1) := by decide +kernel
theorem d9_22 : decode jdk_42_method_139_code 22 = .ok (.invokespecial 209, 3) := by decide +kernel
theorem d9_25 : decode jdk_42_method_139_code 25 = .ok (.areturn, 1) := by decide +kernel
theorem d9_26 : decode jdk_42_method_139_code 26 = .ok (.new 10, 3) := by decide +kernel
theorem d9_29 : decode jdk_42_method_139_code 29 = .ok (.dup, 1) := by decide +kernel
theorem d9_30 : decode jdk_42_method_139_code 30 = .ok (.iload_n 0, 1) := by decide +kernel
theorem d9_31 : decode jdk_42_method_139_code 31 = .ok (.invokestatic 1021, 3) := by decide +kernel
theorem d9_34 : decode jdk_42_method_139_code 34 = .ok (.iconst 1, 1) := by decide +kernel
theorem d9_35 : decode jdk_42_method_139_code 35 = .ok (.invokespecial 209, 3) := by decide +kernel
theorem d9_38 : decode jdk_42_method_139_code 38 = .ok (.areturn, 1) := by decide +kernel
def own_K9 : List (Nat × Value) := []
theorem own_K9_ok : ∀ q ∈ own_K9, ∃ w ∈ tables_1, own_Word "java/lang/String" q.1 q.2 w := by
  intro q hq
  exact absurd hq (List.not_mem_nil)
theorem d10_0 : decode jdk_43_method_3_code 0 = .ok (.iload_n 0, 1) := by decide +kernel
theorem d10_1 : decode jdk_43_method_3_code 1 = .ok (.sipush 255, 3) := by decide +kernel
theorem d10_4 : decode jdk_43_method_3_code 4 = .ok (.if_icmp .gt 7, 3) := by decide +kernel
theorem d10_7 : decode jdk_43_method_3_code 7 = .ok (.iconst 1, 1) := by decide +kernel
theorem d10_8 : decode jdk_43_method_3_code 8 = .ok (.goto 4, 3) := by decide +kernel
theorem d10_11 : decode jdk_43_method_3_code 11 = .ok (.iconst 0, 1) := by decide +kernel
theorem d10_12 : decode jdk_43_method_3_code 12 = .ok (.ireturn, 1) := by decide +kernel
def own_K10 : List (Nat × Value) := []
theorem own_K10_ok : ∀ q ∈ own_K10, ∃ w ∈ tables_1, own_Word "java/lang/StringLatin1" q.1 q.2 w := by
  intro q hq
  exact absurd hq (List.not_mem_nil)
theorem d11_0 : decode jdk_43_method_46_code 0 = .ok (.iconst 1, 1) := by decide +kernel
theorem d11_1 : decode jdk_43_method_46_code 1 = .ok (.newarray .byte, 2) := by decide +kernel
theorem d11_3 : decode jdk_43_method_46_code 3 = .ok (.dup, 1) := by decide +kernel
theorem d11_4 : decode jdk_43_method_46_code 4 = .ok (.iconst 0, 1) := by decide +kernel
theorem d11_5 : decode jdk_43_method_46_code 5 = .ok (.iload_n 0, 1) := by decide +kernel
theorem d11_6 : decode jdk_43_method_46_code 6 = .ok (.i2b, 1) := by decide +kernel
theorem d11_7 : decode jdk_43_method_46_code 7 = .ok (.bastore, 1) := by decide +kernel
theorem d11_8 : decode jdk_43_method_46_code 8 = .ok (.areturn, 1) := by decide +kernel
def own_K11 : List (Nat × Value) := []
theorem own_K11_ok : ∀ q ∈ own_K11, ∃ w ∈ tables_1, own_Word "java/lang/StringLatin1" q.1 q.2 w := by
  intro q hq
  exact absurd hq (List.not_mem_nil)
theorem d12_0 : decode jdk_42_method_151_code 0 = .ok (.aload_n 0, 1) := by decide +kernel
theorem d12_1 : decode jdk_42_method_151_code 1 = .ok (.invokespecial 1, 3) := by decide +kernel
theorem d12_4 : decode jdk_42_method_151_code 4 = .ok (.aload_n 0, 1) := by decide +kernel
theorem d12_5 : decode jdk_42_method_151_code 5 = .ok (.aload_n 1, 1) := by decide +kernel
theorem d12_6 : decode jdk_42_method_151_code 6 = .ok (.putfield 9, 3) := by decide +kernel
theorem d12_9 : decode jdk_42_method_151_code 9 = .ok (.aload_n 0, 1) := by decide +kernel
theorem d12_10 : decode jdk_42_method_151_code 10 = .ok (.iload_n 2, 1) := by decide +kernel
theorem d12_11 : decode jdk_42_method_151_code 11 = .ok (.putfield 15, 3) := by decide +kernel
theorem d12_14 : decode jdk_42_method_151_code 14 = .ok (.return_, 1) := by decide +kernel
def own_K12 : List (Nat × Value) := []
theorem own_K12_ok : ∀ q ∈ own_K12, ∃ w ∈ tables_1, own_Word "java/lang/String" q.1 q.2 w := by
  intro q hq
  exact absurd hq (List.not_mem_nil)
theorem d13_0 : decode jdk_117_method_23_code 0 = .ok (.dload_n 0, 1) := by decide +kernel
theorem d13_1 : decode jdk_117_method_23_code 1 = .ok (.invokestatic 122, 3) := by decide +kernel
theorem d13_4 : decode jdk_117_method_23_code 4 = .ok (.ifCond .ne 8, 3) := by decide +kernel
theorem d13_7 : decode jdk_117_method_23_code 7 = .ok (.dload_n 0, 1) := by decide +kernel
theorem d13_8 : decode jdk_117_method_23_code 8 = .ok (.invokestatic 134, 3) := by decide +kernel
theorem d13_11 : decode jdk_117_method_23_code 11 = .ok (.lreturn, 1) := by decide +kernel
theorem d13_12 : decode jdk_117_method_23_code 12 = .ok (.ldc2_w 137, 3) := by decide +kernel
theorem d13_15 : decode jdk_117_method_23_code 15 = .ok (.lreturn, 1) := by decide +kernel
def own_K13 : List (Nat × Value) := [(111, .double 9218868437227405311)]
theorem own_K13_ok : ∀ q ∈ own_K13, ∃ w ∈ tables_1, own_Word "java/lang/Double" q.1 q.2 w := by
  intro q hq
  simp only [own_K13, List.mem_cons, List.not_mem_nil, or_false] at hq
  rcases hq with rfl
  · exact ⟨_, List.mem_of_getElem? (i := 21) rfl, rfl⟩
theorem own_pn13 : plainName "java/lang/Double" = true := by first | (simp [plainName, overriddenIn]; done) | decide +kernel
theorem d14_0 : decode jdk_117_method_6_code 0 = .ok (.dload_n 0, 1) := by decide +kernel
theorem d14_1 : decode jdk_117_method_6_code 1 = .ok (.dload_n 0, 1) := by decide +kernel
theorem d14_2 : decode jdk_117_method_6_code 2 = .ok (.dcmp .l, 1) := by decide +kernel
theorem d14_3 : decode jdk_117_method_6_code 3 = .ok (.ifCond .eq 7, 3) := by decide +kernel
theorem d14_6 : decode jdk_117_method_6_code 6 = .ok (.iconst 1, 1) := by decide +kernel
theorem d14_7 : decode jdk_117_method_6_code 7 = .ok (.goto 4, 3) := by decide +kernel
theorem d14_10 : decode jdk_117_method_6_code 10 = .ok (.iconst 0, 1) := by decide +kernel
theorem d14_11 : decode jdk_117_method_6_code 11 = .ok (.ireturn, 1) := by decide +kernel
def own_K14 : List (Nat × Value) := [(111, .double 9218868437227405311)]
theorem own_K14_ok : ∀ q ∈ own_K14, ∃ w ∈ tables_1, own_Word "java/lang/Double" q.1 q.2 w := by
  intro q hq
  simp only [own_K14, List.mem_cons, List.not_mem_nil, or_false] at hq
  rcases hq with rfl
  · exact ⟨_, List.mem_of_getElem? (i := 21) rfl, rfl⟩
theorem own_pn14 : plainName "java/lang/Double" = true := by first | (simp [plainName, overriddenIn]; done) | decide +kernel
theorem own_pd0 : parseMethodDescriptor "()V" = some ⟨[], none⟩ := by decide +kernel
theorem own_pd1 : parseMethodDescriptor "(C)Ljava/lang/String;" = some ⟨[.char], some (.object "java/lang/String")⟩ := by decide +kernel
theorem own_pd2 : parseMethodDescriptor "(C)Z" = some ⟨[.char], some .boolean⟩ := by decide +kernel
theorem own_pd3 : parseMethodDescriptor "(C)[B" = some ⟨[.char], some (.array .byte)⟩ := by decide +kernel
theorem own_pd4 : parseMethodDescriptor "(D)D" = some ⟨[.double], some .double⟩ := by decide +kernel
theorem own_pd5 : parseMethodDescriptor "(D)J" = some ⟨[.double], some .long⟩ := by decide +kernel
theorem own_pd6 : parseMethodDescriptor "(D)Z" = some ⟨[.double], some .boolean⟩ := by decide +kernel
theorem own_pd7 : parseMethodDescriptor "(DD)I" = some ⟨[.double, .double], some .int⟩ := by decide +kernel
theorem own_pd8 : parseMethodDescriptor "(DDDD)V" = some ⟨[.double, .double, .double, .double], none⟩ := by decide +kernel
theorem own_pd9 : parseMethodDescriptor "(JII)D" = some ⟨[.long, .int, .int], some .double⟩ := by decide +kernel
theorem own_pd10 : parseMethodDescriptor "(JIJII)Z" = some ⟨[.long, .int, .long, .int, .int], some .boolean⟩ := by decide +kernel
theorem own_pd11 : parseMethodDescriptor "(Ljava/lang/Object;)Z" = some ⟨[(.object "java/lang/Object")], some .boolean⟩ := by decide +kernel
theorem own_pd12 : parseMethodDescriptor "([BB)V" = some ⟨[(.array .byte), .byte], none⟩ := by decide +kernel

theorem own_inf {x : UInt64} {r : Rat} (hx : own_is x r) (h : r ≤ 1606938044258990275541962092341162602522202993782792835301376) : FP.dcmp x 9218868437227405312 = some .lt := by
  have h1 := (own_is_lt hx own_big).mpr (Std.lt_of_le_of_lt h (by decide +kernel))
  rw [show FP.dcmp x 9110782046170513408 = FP.Core.dcmp x 9110782046170513408 from rfl, FP.Core.dcmp_lt] at h1
  rw [show FP.dcmp x 9218868437227405312 = FP.Core.dcmp x 9218868437227405312 from rfl, FP.Core.dcmp_lt]
  exact ⟨h1.1, by decide +kernel, Int.lt_trans h1.2.2 (by decide +kernel)⟩
theorem own_mask255 (x y z : Int32) (h1 : (x &&& 255) = y) (h2 : y.toUInt32.toUInt16.toUInt32.toInt32 = z) : 0 ≤ z.toInt ∧ z.toInt ≤ 255 := by
  subst h1
  rw [i2c_mask] at h2
  subst h2
  have h := c_mask x 255 8 (by decide) (by decide)
  omega
theorem own_narc (z : Int32) (h : 0 ≤ z.toInt ∧ z.toInt ≤ 255) : 0 ≤ (nar .char z).toInt ∧ (nar .char z).toInt ≤ 255 := by
  have q := c_i2c z
  show 0 ≤ (z.toUInt32.toUInt16.toUInt32.toInt32).toInt ∧ (z.toUInt32.toUInt16.toUInt32.toInt32).toInt ≤ 255
  omega
theorem own_ef4 (m : MethodId) (x0 : UInt64) : entryFrame m #[(.double x0)] 2 = mkF m 0 #[.val (.double x0), .second] [] := by first | (simp [entryFrame, mkF, argsToLocals, Value.category]; done) | rfl

theorem own_maxv {v : UInt64} (h : Jvm.Free.Fl.Fin64 v) : ifCond.holds .gt (cmpValue (FP.dcmp (v &&& 0x7fffffffffffffff) (9218868437227405311 : UInt64)) .g) = false := by
  have h1 : FP.Core.DFin v := Jvm.Free.Fl.fin64_core.mp h
  rcases (FP.Core.le_max h1.notNaN).mpr h1 with q | q
  · rw [show FP.dcmp (v &&& 0x7fffffffffffffff) (9218868437227405311 : UInt64) = some .lt from q]; rfl
  · rw [show FP.dcmp (v &&& 0x7fffffffffffffff) (9218868437227405311 : UInt64) = some .eq from q]; rfl
theorem own_if0 (v : UInt64) :
    own_Go own_K4 jdk_117_method_8_code 0 #[.val (.double v), .second] [] 1 #[.val (.double v), .second] [(.double v)] := by
  refine own_dloadN (pc2 := 1) d4_0 rfl rfl ?_
  exact own_refl
theorem own_if1 (v : UInt64) (v7 : Int32) (hv7 : (cmpValue (FP.dcmp (v &&& 0x7fffffffffffffff) (9218868437227405311 : UInt64)) .g) = v7) (hb8 : ifCond.holds .gt v7 = false) :
    own_Go own_K4 jdk_117_method_8_code 4 #[.val (.double v), .second] [(.double (v &&& 0x7fffffffffffffff))] 16 #[.val (.double v), .second] [(.int (1 : Int32))] := by
  refine own_ldc2D (v := (9218868437227405311 : UInt64)) (pc2 := 7) d4_4 rfl (List.mem_of_getElem? (i := 0) rfl) ?_
  refine own_dcmp (pc2 := 8) d4_7 rfl (v := v7) hv7 ?_
  refine own_ifNo (pc2 := 11) d4_8 rfl hb8 ?_
  refine own_iconst (v := 1) (pc2 := 12) d4_11 rfl rfl ?_
  refine own_goto (pc' := 16) d4_12 (by decide) (by decide) ?_
  exact own_refl
set_option maxRecDepth 65536 in
set_option maxHeartbeats 4000000 in
theorem own_isfin (l : Launch) (Z : State) (a0 : Array Value) (hb0 : own_Base) (hw : ∀ d ∈ tables_1, d.before a0 Z = true) (v : UInt64) (hf : Jvm.Free.Fl.Fin64 v) (cs : List (Addr × own_Cel)) :
    own_Met l Z a0 hb0 (⟨"java/lang/Double", "isFinite", "(D)Z"⟩ : MethodName) jdk_117_method_8_code 2 (some .boolean) [] ({ frames := 1, cells := 0, slots := 0, locals := 13 } : Room) #[(.double v)] cs (fun r cs' => r = some (.int 1) ∧ cs' = cs) := by
  refine own_met_of (L0 := #[.val (.double v), .second]) (plainFor_of_name own_pn4) (fun m => own_ef4 m v) ?_
  have hn := hf.noNaN
  intro p e s m below meth c T0 hx hZ hown hby hml hnm H0
  obtain ⟨Tif1, Hif1, stif1⟩ := own_absD H0 hx hZ hown (hw _ (List.mem_of_getElem? (i := 17) rfl)) (hw _ (List.mem_of_getElem? (i := 18) rfl)) (hw _ (List.mem_of_getElem? (i := 19) rfl)) (hw _ (List.mem_of_getElem? (i := 20) rfl)) hn (W := 0) (rest := []) (by decide) (by decide) (by decide) (by decide) (g := (mkF m 1 #[.val (.double v), .second] [(.double v)])) rfl (by rw [hml]; rfl) rfl (by show 2 * 0 + _ ≤ _; exact Nat.le_of_eq rfl) (hb hby d4_1)
  obtain ⟨v7, hv7⟩ : ∃ z : Int32, (cmpValue (FP.dcmp (v &&& 0x7fffffffffffffff) (9218868437227405311 : UInt64)) .g) = z := ⟨_, rfl⟩
  have hb8 : ifCond.holds .gt v7 = false := by rw [← hv7]; exact own_maxv hf
  refine ⟨_, _, _, _, 16, #[.val (.double v), .second], Hif1, by decide, by decide, Or.inr ⟨.boolean, (.int (1 : Int32)), [], .ireturn, rfl, ⟨rfl, rfl⟩, d4_16, own_retZ (Or.inr rfl), fun target q => ?_⟩⟩
  refine own_go H0 hx hZ hown hby hw own_K4_ok (own_if0 v) _ ?_
  refine stif1 _ ?_
  refine own_go Hif1 hx hZ hown hby hw own_K4_ok (own_if1 v v7 hv7 hb8) _ ?_
  exact q
theorem own_ef0 (m : MethodId) (x0 : Int32) (x1 : Int32) (x2 : Int32) (x3 : Int32) (x4 : Int32) : entryFrame m #[(.int x0), (.int x1), (.int x2), (.int x3), (.int x4)] maxLocals = mkF m 0 (List.toArray ((.val (.int x0)) :: (.val (.int x1)) :: (.val (.int x2)) :: (.val (.int x3)) :: (.val (.int x4)) :: .unset :: .unset :: .unset :: .unset :: .unset :: .unset :: .unset :: .unset :: .unset :: .unset :: .unset :: .unset :: .unset :: .unset :: .unset :: .unset :: .unset :: .unset :: .unset :: .unset :: .unset :: .unset :: .unset :: .unset :: .unset :: .unset :: [])) [] := by first | (simp [entryFrame, mkF, argsToLocals, Value.category, maxLocals]; done) | rfl
theorem own_ef1 (m : MethodId) (x0 : Int64) (x1 : Int32) (x2 : Int32) : entryFrame m #[(.long x0), (.int x1), (.int x2)] 4 = mkF m 0 #[.val (.long x0), .second, .val (.int x1), .val (.int x2)] [] := by first | (simp [entryFrame, mkF, argsToLocals, Value.category]; done) | rfl
theorem own_ef6 (m : MethodId) (x0 : Int64) (x1 : Int32) (x2 : Int64) (x3 : Int32) (x4 : Int32) : entryFrame m #[(.long x0), (.int x1), (.long x2), (.int x3), (.int x4)] 7 = mkF m 0 #[.val (.long x0), .second, .val (.int x1), .val (.long x2), .second, .val (.int x3), .val (.int x4)] [] := by first | (simp [entryFrame, mkF, argsToLocals, Value.category]; done) | rfl
theorem own_ef8 (m : MethodId) (x0 : UInt64) (x1 : UInt64) : entryFrame m #[(.double x0), (.double x1)] 8 = mkF m 0 #[.val (.double x0), .second, .val (.double x1), .second, .unset, .unset, .unset, .unset] [] := by first | (simp [entryFrame, mkF, argsToLocals, Value.category]; done) | rfl
theorem own_ef13 (m : MethodId) (x0 : UInt64) : entryFrame m #[(.double x0)] 2 = mkF m 0 #[.val (.double x0), .second] [] := by first | (simp [entryFrame, mkF, argsToLocals, Value.category]; done) | rfl
theorem own_ef14 (m : MethodId) (x0 : UInt64) : entryFrame m #[(.double x0)] 2 = mkF m 0 #[.val (.double x0), .second] [] := by first | (simp [entryFrame, mkF, argsToLocals, Value.category]; done) | rfl
theorem own_ef2 (m : MethodId) (x0 : Addr) (x1 : UInt64) (x2 : UInt64) (x3 : UInt64) (x4 : UInt64) : entryFrame m #[(.ref x0), (.double x1), (.double x2), (.double x3), (.double x4)] 9 = mkF m 0 #[.val (.ref x0), .val (.double x1), .second, .val (.double x2), .second, .val (.double x3), .second, .val (.double x4), .second] [] := by first | (simp [entryFrame, mkF, argsToLocals, Value.category]; done) | rfl
theorem own_ef7 (m : MethodId) (x0 : Addr) (x1 : Addr) : entryFrame m #[(.ref x0), (.ref x1)] 3 = mkF m 0 #[.val (.ref x0), .val (.ref x1), .unset] [] := by first | (simp [entryFrame, mkF, argsToLocals, Value.category]; done) | rfl
theorem own_ef7N (m : MethodId) (x0 : Addr) : entryFrame m #[(.ref x0), .null] 3 = mkF m 0 #[.val (.ref x0), .val .null, .unset] [] := by first | (simp [entryFrame, mkF, argsToLocals, Value.category]; done) | rfl

def own_flag (s bit : Int32) : Int32 := (s >>> (bit &&& 31)) &&& 1
def own_val (v : Int64) (f : Int32) : UInt64 := if v = 0 ∧ f ≠ 0 then 9223372036854775808 else FP.l2d v
def own_Same (v : Int64) (f : Int32) (v' : Int64) (f' : Int32) : Prop := v = v' ∧ (v ≠ 0 ∨ f = f')
theorem own_l0 : FP.l2d 0 = 0 := by decide +kernel
theorem own_vis {v : Int64} (f : Int32) (h : v.toInt.natAbs < 2 ^ 53) : own_is (own_val v f) ((v.toInt : Int) : Rat) := by
  rw [own_val]
  split
  · rename_i q
    rw [q.1]
    exact ⟨true, 0, -1074, by decide +kernel, by decide +kernel⟩
  · exact own_rd_small (own_rdL v) h
theorem own_same_eq {v v' : Int64} {f f' : Int32} (h : own_Same v f v' f') : own_val v f = own_val v' f' := by
  obtain ⟨rfl, h⟩ := h
  rcases h with h | rfl
  · rw [own_val, own_val, if_neg (fun q => h q.1), if_neg (fun q => h q.1)]
  · rfl
theorem own_flag01 (s bit : Int32) : own_flag s bit = 0 ∨ own_flag s bit = 1 := by
  have h := c_mask (s >>> (bit &&& 31)) 1 1 (by decide) (by decide)
  have q : (own_flag s bit).toInt = 0 ∨ (own_flag s bit).toInt = 1 := by
    show ((s >>> (bit &&& 31)) &&& 1).toInt = 0 ∨ ((s >>> (bit &&& 31)) &&& 1).toInt = 1
    omega
  rcases q with q | q
  · exact Or.inl (Int32.toInt_inj.mp q)
  · exact Or.inr (Int32.toInt_inj.mp q)
theorem own_same_ne {v v' : Int64} {f f' : Int32} (hf : f = 0 ∨ f = 1) (hf' : f' = 0 ∨ f' = 1) (hv : v.toInt.natAbs < 2 ^ 53) (hv' : v'.toInt.natAbs < 2 ^ 53) (h : ¬ own_Same v f v' f') : own_val v f ≠ own_val v' f' := by
  intro e
  by_cases hvv : v = v'
  · subst hvv
    by_cases h0 : v = 0
    · subst h0
      have hne : f ≠ f' := fun q => h ⟨rfl, Or.inr q⟩
      rcases hf with rfl | rfl <;> rcases hf' with rfl | rfl
      · exact hne rfl
      · rw [own_val, own_val, if_neg (by decide), if_pos (by decide), own_l0] at e
        exact absurd e (by decide)
      · rw [own_val, own_val, if_pos (by decide), if_neg (by decide), own_l0] at e
        exact absurd e (by decide)
      · exact hne rfl
    · exact h ⟨rfl, Or.inl h0⟩
  · have i1 := own_vis f hv
    have i2 := own_vis f' hv'
    rw [e] at i1
    have q := (own_is_eq i1 i2).mp ((own_is_eq i2 i2).mpr rfl)
    exact hvv (Int64.toInt_inj.mp (Rat.intCast_inj.mp q))
theorem own_nn0 (v : UInt64) (v2 : Int32) (hv2 : (cmpValue (FP.dcmp v v) .l) = v2) (hb3 : ifCond.holds .eq v2 = true) :
    own_Go own_K14 jdk_117_method_6_code 0 #[.val (.double v), .second] [] 11 #[.val (.double v), .second] [(.int (0 : Int32))] := by
  refine own_dloadN (pc2 := 1) d14_0 rfl rfl ?_
  refine own_dloadN (pc2 := 2) d14_1 rfl rfl ?_
  refine own_dcmp (pc2 := 3) d14_2 rfl (v := v2) hv2 ?_
  refine own_ifYes (pc' := 10) d14_3 hb3 (by decide) (by decide) ?_
  refine own_iconst (v := 0) (pc2 := 11) d14_10 rfl rfl ?_
  exact own_refl
set_option maxRecDepth 65536 in
set_option maxHeartbeats 4000000 in
theorem own_nan (l : Launch) (Z : State) (a0 : Array Value) (hb0 : own_Base) (hw : ∀ d ∈ tables_1, d.before a0 Z = true) (v : UInt64) (cs : List (Addr × own_Cel)) (r : Rat) (iv : own_is v r) :
    own_Met l Z a0 hb0 (⟨"java/lang/Double", "isNaN", "(D)Z"⟩ : MethodName) jdk_117_method_6_code 2 (some .boolean) [] ({ frames := 0, cells := 0, slots := 0, locals := 0 } : Room) #[(.double v)] cs (fun r cs' => r = some (.int 0) ∧ cs' = cs) := by
  refine own_met_of (L0 := #[.val (.double v), .second]) (plainFor_of_name own_pn14) (fun m => own_ef14 m v) ?_
  intro p e s m below meth c T0 hx hZ hown hby hml hnm H0
  obtain ⟨v2, hv2⟩ : ∃ z : Int32, (cmpValue (FP.dcmp v v) .l) = z := ⟨_, rfl⟩
  have hb3 : ifCond.holds .eq v2 = true := by rw [← hv2, own_c_eq iv iv]; exact decide_eq_true rfl
  refine ⟨_, _, _, _, 11, #[.val (.double v), .second], H0, by decide, by decide, Or.inr ⟨.boolean, (.int (0 : Int32)), [], .ireturn, rfl, ⟨rfl, rfl⟩, d14_11, own_retZ (Or.inl rfl), fun target q => ?_⟩⟩
  refine own_go H0 hx hZ hown hby hw own_K14_ok (own_nn0 v v2 hv2 hb3) _ ?_
  exact q
theorem own_dl0 (v : UInt64) :
    own_Go own_K13 jdk_117_method_23_code 0 #[.val (.double v), .second] [] 1 #[.val (.double v), .second] [(.double v)] := by
  refine own_dloadN (pc2 := 1) d13_0 rfl rfl ?_
  exact own_refl
theorem own_dl1 (v : UInt64) :
    own_Go own_K13 jdk_117_method_23_code 4 #[.val (.double v), .second] [(.int (0 : Int32))] 8 #[.val (.double v), .second] [(.double v)] := by
  refine own_ifNo (pc2 := 7) d13_4 rfl (by decide) ?_
  refine own_dloadN (pc2 := 8) d13_7 rfl rfl ?_
  exact own_refl
set_option maxRecDepth 65536 in
set_option maxHeartbeats 4000000 in
theorem own_bits (l : Launch) (Z : State) (a0 : Array Value) (hb0 : own_Base) (hw : ∀ d ∈ tables_1, d.before a0 Z = true) (v : UInt64) (cs : List (Addr × own_Cel)) (r : Rat) (iv : own_is v r) :
    own_Met l Z a0 hb0 (⟨"java/lang/Double", "doubleToLongBits", "(D)J"⟩ : MethodName) jdk_117_method_23_code 2 (some .long) [] ({ frames := 1, cells := 0, slots := 0, locals := 40 } : Room) #[(.double v)] cs (fun r cs' => r = some (.long v.toInt64) ∧ cs' = cs) := by
  refine own_met_of (L0 := #[.val (.double v), .second]) (plainFor_of_name own_pn13) (fun m => own_ef13 m v) ?_
  intro p e s m below meth c T0 hx hZ hown hby hml hnm H0
  obtain ⟨Tdl1, vdl1_, csdl1_, qdl1, Hdl1, stdl1⟩ := own_callS H0 hx hZ hown (hw _ (List.mem_of_getElem? (i := 72) rfl)) (hw _ (List.mem_of_getElem? (i := 73) rfl)) (hw _ (List.mem_of_getElem? (i := 15) rfl)) (hw _ (List.mem_of_getElem? (i := 74) rfl)) (by decide) (argsL := [(.double v)]) (rest := []) (W := 0) (own_nan l Z a0 hb0 hw v _ r iv) (by decide) (by decide) (by decide) (by decide) (g := (mkF m 1 #[.val (.double v), .second] [(.double v)])) rfl (by rw [hml]; rfl) (lenOf own_pd6 rfl) rfl (by show 2 * 0 + _ ≤ _; exact Nat.le_of_eq rfl) (hb hby d13_1)
  obtain ⟨rfl, rfl⟩ := qdl1
  obtain ⟨Tdl2, Hdl2, stdl2⟩ := own_rawBits Hdl1 hx hZ hown (hw _ (List.mem_of_getElem? (i := 75) rfl)) (hw _ (List.mem_of_getElem? (i := 77) rfl)) (hw _ (List.mem_of_getElem? (i := 76) rfl)) (hw _ (List.mem_of_getElem? (i := 15) rfl)) (rest := []) (by decide) (g := (mkF m 8 #[.val (.double v), .second] [(.double v)])) (by show 2 * 0 + 0 + (nativeFrameWords "java/lang/Double" "doubleToRawLongBits" 2 + 11) ≤ 40; decide +kernel) rfl (by rw [hml]; rfl) rfl (hb hby d13_8)
  refine ⟨_, _, _, _, 11, #[.val (.double v), .second], Hdl2, by decide, by decide, Or.inr ⟨.long, (.long v.toInt64), [], .lreturn, rfl, ⟨rfl, rfl⟩, d13_11, own_retJ _, fun target q => ?_⟩⟩
  refine own_go H0 hx hZ hown hby hw own_K13_ok (own_dl0 v) _ ?_
  refine stdl1 _ ?_
  refine own_go Hdl1 hx hZ hown hby hw own_K13_ok (own_dl1 v) _ ?_
  refine stdl2 _ ?_
  exact q
theorem own_cmp0_0 (v : UInt64) (w : UInt64) (v2 : Int32) (hv2 : (cmpValue (FP.dcmp v w) .g) = v2) (hb3 : ifCond.holds .ge v2 = true) (v10 : Int32) (hv10 : (cmpValue (FP.dcmp v w) .l) = v10) (hb11 : ifCond.holds .le v10 = true) :
    own_Go own_K8 jdk_117_method_27_code 0 #[.val (.double v), .second, .val (.double w), .second, .unset, .unset, .unset, .unset] [] 17 #[.val (.double v), .second, .val (.double w), .second, .unset, .unset, .unset, .unset] [(.double v)] := by
  refine own_dloadN (pc2 := 1) d8_0 rfl rfl ?_
  refine own_dloadN (pc2 := 2) d8_1 rfl rfl ?_
  refine own_dcmp (pc2 := 3) d8_2 rfl (v := v2) hv2 ?_
  refine own_ifYes (pc' := 8) d8_3 hb3 (by decide) (by decide) ?_
  refine own_dloadN (pc2 := 9) d8_8 rfl rfl ?_
  refine own_dloadN (pc2 := 10) d8_9 rfl rfl ?_
  refine own_dcmp (pc2 := 11) d8_10 rfl (v := v10) hv10 ?_
  refine own_ifYes (pc' := 16) d8_11 hb11 (by decide) (by decide) ?_
  refine own_dloadN (pc2 := 17) d8_16 rfl rfl ?_
  exact own_refl
theorem own_cmp0_1 (v : UInt64) (w : UInt64) (j23_4 : Int64) (hj23_4 : v.toInt64 = j23_4) :
    own_Go own_K8 jdk_117_method_27_code 20 #[.val (.double v), .second, .val (.double w), .second, .unset, .unset, .unset, .unset] [(.long v.toInt64)] 23 #[.val (.double v), .second, .val (.double w), .second, .val (.long j23_4), .second, .unset, .unset] [(.double w)] := by
  subst hj23_4
  refine own_lstore (pc2 := 22) d8_20 rfl (L' := #[.val (.double v), .second, .val (.double w), .second, .val (.long v.toInt64), .second, .unset, .unset]) rfl ?_
  refine own_dloadN (pc2 := 23) d8_22 rfl rfl ?_
  exact own_refl
theorem own_cmp0_2 (v : UInt64) (w : UInt64) (j23_4 : Int64) (v32 : Int32) (hv32 : (if j23_4 > w.toInt64 then (1 : Int32) else if j23_4 = w.toInt64 then 0 else -1) = v32) (hb33 : ifCond.holds .ne v32 = false) (j53_6 : Int64) (hj53_6 : w.toInt64 = j53_6) :
    own_Go own_K8 jdk_117_method_27_code 26 #[.val (.double v), .second, .val (.double w), .second, .val (.long j23_4), .second, .unset, .unset] [(.long w.toInt64)] 53 #[.val (.double v), .second, .val (.double w), .second, .val (.long j23_4), .second, .val (.long j53_6), .second] [(.int (0 : Int32))] := by
  subst hj53_6
  refine own_lstore (pc2 := 28) d8_26 rfl (L' := #[.val (.double v), .second, .val (.double w), .second, .val (.long j23_4), .second, .val (.long w.toInt64), .second]) rfl ?_
  refine own_lload (pc2 := 30) d8_28 rfl rfl ?_
  refine own_lload (pc2 := 32) d8_30 rfl rfl ?_
  refine own_lcmp (pc2 := 33) d8_32 rfl (v := v32) hv32 ?_
  refine own_ifNo (pc2 := 36) d8_33 rfl hb33 ?_
  refine own_iconst (v := 0) (pc2 := 37) d8_36 rfl rfl ?_
  refine own_goto (pc' := 53) d8_37 (by decide) (by decide) ?_
  exact own_refl
set_option maxRecDepth 65536 in
set_option maxHeartbeats 4000000 in
theorem own_cmp0 (l : Launch) (Z : State) (a0 : Array Value) (hb0 : own_Base) (hw : ∀ d ∈ tables_1, d.before a0 Z = true) (v : UInt64) (w : UInt64) (cs : List (Addr × own_Cel)) (r r' : Rat) (iv : own_is v r) (iw : own_is w r') (he : v = w) :
    own_Met l Z a0 hb0 (⟨"java/lang/Double", "compare", "(DD)I"⟩ : MethodName) jdk_117_method_27_code 8 (some .int) [] ({ frames := 2, cells := 0, slots := 0, locals := 60 } : Room) #[(.double v), (.double w)] cs (fun r cs' => r = some (.int 0) ∧ cs' = cs) := by
  refine own_met_of (L0 := #[.val (.double v), .second, .val (.double w), .second, .unset, .unset, .unset, .unset]) (plainFor_of_name own_pn8) (fun m => own_ef8 m v w) ?_
  intro p e s m below meth c T0 hx hZ hown hby hml hnm H0
  obtain ⟨v2, hv2⟩ : ∃ z : Int32, (cmpValue (FP.dcmp v w) .g) = z := ⟨_, rfl⟩
  obtain ⟨v10, hv10⟩ : ∃ z : Int32, (cmpValue (FP.dcmp v w) .l) = z := ⟨_, rfl⟩
  obtain ⟨Tcmp0_1, vcmp0_1_, cscmp0_1_, qcmp0_1, Hcmp0_1, stcmp0_1⟩ := own_callS H0 hx hZ hown (hw _ (List.mem_of_getElem? (i := 69) rfl)) (hw _ (List.mem_of_getElem? (i := 70) rfl)) (hw _ (List.mem_of_getElem? (i := 15) rfl)) (hw _ (List.mem_of_getElem? (i := 71) rfl)) (by decide) (argsL := [(.double v)]) (rest := []) (W := 0) (own_bits l Z a0 hb0 hw v _ r iv) (by decide) (by decide) (by decide) (by decide) (g := (mkF m 17 #[.val (.double v), .second, .val (.double w), .second, .unset, .unset, .unset, .unset] [(.double v)])) rfl (by rw [hml]; rfl) (lenOf own_pd5 rfl) rfl (by show 2 * 0 + _ ≤ _; exact Nat.le_of_eq rfl) (hb hby d8_17)
  obtain ⟨rfl, rfl⟩ := qcmp0_1
  obtain ⟨j23_4, hj23_4⟩ : ∃ z : Int64, v.toInt64 = z := ⟨_, rfl⟩
  obtain ⟨Tcmp0_2, vcmp0_2_, cscmp0_2_, qcmp0_2, Hcmp0_2, stcmp0_2⟩ := own_callS Hcmp0_1 hx hZ hown (hw _ (List.mem_of_getElem? (i := 69) rfl)) (hw _ (List.mem_of_getElem? (i := 70) rfl)) (hw _ (List.mem_of_getElem? (i := 15) rfl)) (hw _ (List.mem_of_getElem? (i := 71) rfl)) (by decide) (argsL := [(.double w)]) (rest := []) (W := 0) (own_bits l Z a0 hb0 hw w _ r' iw) (by decide) (by decide) (by decide) (by decide) (g := (mkF m 23 #[.val (.double v), .second, .val (.double w), .second, .val (.long j23_4), .second, .unset, .unset] [(.double w)])) rfl (by rw [hml]; rfl) (lenOf own_pd5 rfl) rfl (by show 2 * 0 + _ ≤ _; exact Nat.le_of_eq rfl) (hb hby d8_23)
  obtain ⟨rfl, rfl⟩ := qcmp0_2
  obtain ⟨v32, hv32⟩ : ∃ z : Int32, (if j23_4 > w.toInt64 then (1 : Int32) else if j23_4 = w.toInt64 then 0 else -1) = z := ⟨_, rfl⟩
  obtain ⟨j53_6, hj53_6⟩ : ∃ z : Int64, w.toInt64 = z := ⟨_, rfl⟩
  have er : r = r' := (own_is_eq iv iw).mp (by rw [he]; exact (own_is_eq iw iw).mpr rfl)
  have hb3 : ifCond.holds .ge v2 = true := by rw [← hv2, own_c_ge iv iw]; exact decide_eq_true (by rw [er]; exact Rat.le_refl)
  have hb11 : ifCond.holds .le v10 = true := by rw [← hv10, own_c_le iv iw]; exact decide_eq_true (by rw [er]; exact Rat.le_refl)
  have hb33 : ifCond.holds .ne v32 = false := by rw [← hv32, ← hj23_4, own_lc_ne, he]; exact decide_eq_false (not_not_intro rfl)
  refine ⟨_, _, _, _, 53, #[.val (.double v), .second, .val (.double w), .second, .val (.long j23_4), .second, .val (.long j53_6), .second], Hcmp0_2, by decide, by decide, Or.inr ⟨.int, (.int (0 : Int32)), [], .ireturn, rfl, ⟨rfl, rfl⟩, d8_53, own_retI _, fun target q => ?_⟩⟩
  refine own_go H0 hx hZ hown hby hw own_K8_ok (own_cmp0_0 v w v2 hv2 hb3 v10 hv10 hb11) _ ?_
  refine stcmp0_1 _ ?_
  refine own_go Hcmp0_1 hx hZ hown hby hw own_K8_ok (own_cmp0_1 v w j23_4 hj23_4) _ ?_
  refine stcmp0_2 _ ?_
  refine own_go Hcmp0_2 hx hZ hown hby hw own_K8_ok (own_cmp0_2 v w j23_4 v32 hv32 hb33 j53_6 hj53_6) _ ?_
  exact q
theorem own_cmpA_0 (v : UInt64) (w : UInt64) (v2 : Int32) (hv2 : (cmpValue (FP.dcmp v w) .g) = v2) (hb3 : ifCond.holds .ge v2 = false) :
    own_Go own_K8 jdk_117_method_27_code 0 #[.val (.double v), .second, .val (.double w), .second, .unset, .unset, .unset, .unset] [] 7 #[.val (.double v), .second, .val (.double w), .second, .unset, .unset, .unset, .unset] [(.int (-1 : Int32))] := by
  refine own_dloadN (pc2 := 1) d8_0 rfl rfl ?_
  refine own_dloadN (pc2 := 2) d8_1 rfl rfl ?_
  refine own_dcmp (pc2 := 3) d8_2 rfl (v := v2) hv2 ?_
  refine own_ifNo (pc2 := 6) d8_3 rfl hb3 ?_
  refine own_iconst (v := -1) (pc2 := 7) d8_6 rfl rfl ?_
  exact own_refl
set_option maxRecDepth 65536 in
set_option maxHeartbeats 4000000 in
theorem own_cmpA (l : Launch) (Z : State) (a0 : Array Value) (hb0 : own_Base) (hw : ∀ d ∈ tables_1, d.before a0 Z = true) (v : UInt64) (w : UInt64) (cs : List (Addr × own_Cel)) (r r' : Rat) (iv : own_is v r) (iw : own_is w r') (he : r < r') :
    own_Met l Z a0 hb0 (⟨"java/lang/Double", "compare", "(DD)I"⟩ : MethodName) jdk_117_method_27_code 8 (some .int) [] ({ frames := 2, cells := 0, slots := 0, locals := 60 } : Room) #[(.double v), (.double w)] cs (fun r cs' => ∃ z : Int32, z ≠ 0 ∧ r = some (.int z) ∧ cs' = cs) := by
  refine own_met_of (L0 := #[.val (.double v), .second, .val (.double w), .second, .unset, .unset, .unset, .unset]) (plainFor_of_name own_pn8) (fun m => own_ef8 m v w) ?_
  intro p e s m below meth c T0 hx hZ hown hby hml hnm H0
  obtain ⟨v2, hv2⟩ : ∃ z : Int32, (cmpValue (FP.dcmp v w) .g) = z := ⟨_, rfl⟩
  have hb3 : ifCond.holds .ge v2 = false := by rw [← hv2, own_c_ge iv iw]; exact decide_eq_false (Rat.not_le.mpr he)
  refine ⟨_, _, _, _, 7, #[.val (.double v), .second, .val (.double w), .second, .unset, .unset, .unset, .unset], H0, by decide, by decide, Or.inr ⟨.int, (.int (-1 : Int32)), [], .ireturn, rfl, ⟨_, by decide, rfl, rfl⟩, d8_7, own_retI _, fun target q => ?_⟩⟩
  refine own_go H0 hx hZ hown hby hw own_K8_ok (own_cmpA_0 v w v2 hv2 hb3) _ ?_
  exact q
theorem own_cmpB_0 (v : UInt64) (w : UInt64) (v2 : Int32) (hv2 : (cmpValue (FP.dcmp v w) .g) = v2) (hb3 : ifCond.holds .ge v2 = true) (v10 : Int32) (hv10 : (cmpValue (FP.dcmp v w) .l) = v10) (hb11 : ifCond.holds .le v10 = false) :
    own_Go own_K8 jdk_117_method_27_code 0 #[.val (.double v), .second, .val (.double w), .second, .unset, .unset, .unset, .unset] [] 15 #[.val (.double v), .second, .val (.double w), .second, .unset, .unset, .unset, .unset] [(.int (1 : Int32))] := by
  refine own_dloadN (pc2 := 1) d8_0 rfl rfl ?_
  refine own_dloadN (pc2 := 2) d8_1 rfl rfl ?_
  refine own_dcmp (pc2 := 3) d8_2 rfl (v := v2) hv2 ?_
  refine own_ifYes (pc' := 8) d8_3 hb3 (by decide) (by decide) ?_
  refine own_dloadN (pc2 := 9) d8_8 rfl rfl ?_
  refine own_dloadN (pc2 := 10) d8_9 rfl rfl ?_
  refine own_dcmp (pc2 := 11) d8_10 rfl (v := v10) hv10 ?_
  refine own_ifNo (pc2 := 14) d8_11 rfl hb11 ?_
  refine own_iconst (v := 1) (pc2 := 15) d8_14 rfl rfl ?_
  exact own_refl
set_option maxRecDepth 65536 in
set_option maxHeartbeats 4000000 in
theorem own_cmpB (l : Launch) (Z : State) (a0 : Array Value) (hb0 : own_Base) (hw : ∀ d ∈ tables_1, d.before a0 Z = true) (v : UInt64) (w : UInt64) (cs : List (Addr × own_Cel)) (r r' : Rat) (iv : own_is v r) (iw : own_is w r') (he : r' < r) :
    own_Met l Z a0 hb0 (⟨"java/lang/Double", "compare", "(DD)I"⟩ : MethodName) jdk_117_method_27_code 8 (some .int) [] ({ frames := 2, cells := 0, slots := 0, locals := 60 } : Room) #[(.double v), (.double w)] cs (fun r cs' => ∃ z : Int32, z ≠ 0 ∧ r = some (.int z) ∧ cs' = cs) := by
  refine own_met_of (L0 := #[.val (.double v), .second, .val (.double w), .second, .unset, .unset, .unset, .unset]) (plainFor_of_name own_pn8) (fun m => own_ef8 m v w) ?_
  intro p e s m below meth c T0 hx hZ hown hby hml hnm H0
  obtain ⟨v2, hv2⟩ : ∃ z : Int32, (cmpValue (FP.dcmp v w) .g) = z := ⟨_, rfl⟩
  obtain ⟨v10, hv10⟩ : ∃ z : Int32, (cmpValue (FP.dcmp v w) .l) = z := ⟨_, rfl⟩
  have hb3 : ifCond.holds .ge v2 = true := by rw [← hv2, own_c_ge iv iw]; exact decide_eq_true (by exact Rat.le_of_lt he)
  have hb11 : ifCond.holds .le v10 = false := by rw [← hv10, own_c_le iv iw]; exact decide_eq_false (Rat.not_le.mpr he)
  refine ⟨_, _, _, _, 15, #[.val (.double v), .second, .val (.double w), .second, .unset, .unset, .unset, .unset], H0, by decide, by decide, Or.inr ⟨.int, (.int (1 : Int32)), [], .ireturn, rfl, ⟨_, by decide, rfl, rfl⟩, d8_15, own_retI _, fun target q => ?_⟩⟩
  refine own_go H0 hx hZ hown hby hw own_K8_ok (own_cmpB_0 v w v2 hv2 hb3 v10 hv10 hb11) _ ?_
  exact q
theorem own_cmpC_0 (v : UInt64) (w : UInt64) (v2 : Int32) (hv2 : (cmpValue (FP.dcmp v w) .g) = v2) (hb3 : ifCond.holds .ge v2 = true) (v10 : Int32) (hv10 : (cmpValue (FP.dcmp v w) .l) = v10) (hb11 : ifCond.holds .le v10 = true) :
    own_Go own_K8 jdk_117_method_27_code 0 #[.val (.double v), .second, .val (.double w), .second, .unset, .unset, .unset, .unset] [] 17 #[.val (.double v), .second, .val (.double w), .second, .unset, .unset, .unset, .unset] [(.double v)] := by
  refine own_dloadN (pc2 := 1) d8_0 rfl rfl ?_
  refine own_dloadN (pc2 := 2) d8_1 rfl rfl ?_
  refine own_dcmp (pc2 := 3) d8_2 rfl (v := v2) hv2 ?_
  refine own_ifYes (pc' := 8) d8_3 hb3 (by decide) (by decide) ?_
  refine own_dloadN (pc2 := 9) d8_8 rfl rfl ?_
  refine own_dloadN (pc2 := 10) d8_9 rfl rfl ?_
  refine own_dcmp (pc2 := 11) d8_10 rfl (v := v10) hv10 ?_
  refine own_ifYes (pc' := 16) d8_11 hb11 (by decide) (by decide) ?_
  refine own_dloadN (pc2 := 17) d8_16 rfl rfl ?_
  exact own_refl
theorem own_cmpC_1 (v : UInt64) (w : UInt64) (j23_4 : Int64) (hj23_4 : v.toInt64 = j23_4) :
    own_Go own_K8 jdk_117_method_27_code 20 #[.val (.double v), .second, .val (.double w), .second, .unset, .unset, .unset, .unset] [(.long v.toInt64)] 23 #[.val (.double v), .second, .val (.double w), .second, .val (.long j23_4), .second, .unset, .unset] [(.double w)] := by
  subst hj23_4
  refine own_lstore (pc2 := 22) d8_20 rfl (L' := #[.val (.double v), .second, .val (.double w), .second, .val (.long v.toInt64), .second, .unset, .unset]) rfl ?_
  refine own_dloadN (pc2 := 23) d8_22 rfl rfl ?_
  exact own_refl
theorem own_cmpC_2 (v : UInt64) (w : UInt64) (j23_4 : Int64) (v32 : Int32) (hv32 : (if j23_4 > w.toInt64 then (1 : Int32) else if j23_4 = w.toInt64 then 0 else -1) = v32) (hb33 : ifCond.holds .ne v32 = true) (v44 : Int32) (hv44 : (if j23_4 > w.toInt64 then (1 : Int32) else if j23_4 = w.toInt64 then 0 else -1) = v44) (hb45 : ifCond.holds .ge v44 = false) (j53_6 : Int64) (hj53_6 : w.toInt64 = j53_6) :
    own_Go own_K8 jdk_117_method_27_code 26 #[.val (.double v), .second, .val (.double w), .second, .val (.long j23_4), .second, .unset, .unset] [(.long w.toInt64)] 53 #[.val (.double v), .second, .val (.double w), .second, .val (.long j23_4), .second, .val (.long j53_6), .second] [(.int (-1 : Int32))] := by
  subst hj53_6
  refine own_lstore (pc2 := 28) d8_26 rfl (L' := #[.val (.double v), .second, .val (.double w), .second, .val (.long j23_4), .second, .val (.long w.toInt64), .second]) rfl ?_
  refine own_lload (pc2 := 30) d8_28 rfl rfl ?_
  refine own_lload (pc2 := 32) d8_30 rfl rfl ?_
  refine own_lcmp (pc2 := 33) d8_32 rfl (v := v32) hv32 ?_
  refine own_ifYes (pc' := 40) d8_33 hb33 (by decide) (by decide) ?_
  refine own_lload (pc2 := 42) d8_40 rfl rfl ?_
  refine own_lload (pc2 := 44) d8_42 rfl rfl ?_
  refine own_lcmp (pc2 := 45) d8_44 rfl (v := v44) hv44 ?_
  refine own_ifNo (pc2 := 48) d8_45 rfl hb45 ?_
  refine own_iconst (v := -1) (pc2 := 49) d8_48 rfl rfl ?_
  refine own_goto (pc' := 53) d8_49 (by decide) (by decide) ?_
  exact own_refl
set_option maxRecDepth 65536 in
set_option maxHeartbeats 4000000 in
theorem own_cmpC (l : Launch) (Z : State) (a0 : Array Value) (hb0 : own_Base) (hw : ∀ d ∈ tables_1, d.before a0 Z = true) (v : UInt64) (w : UInt64) (cs : List (Addr × own_Cel)) (r r' : Rat) (iv : own_is v r) (iw : own_is w r') (he : r = r') (hne : v ≠ w) (h45 : ifCond.holds .ge (if v.toInt64 > w.toInt64 then (1 : Int32) else if v.toInt64 = w.toInt64 then 0 else -1) = false) :
    own_Met l Z a0 hb0 (⟨"java/lang/Double", "compare", "(DD)I"⟩ : MethodName) jdk_117_method_27_code 8 (some .int) [] ({ frames := 2, cells := 0, slots := 0, locals := 60 } : Room) #[(.double v), (.double w)] cs (fun r cs' => ∃ z : Int32, z ≠ 0 ∧ r = some (.int z) ∧ cs' = cs) := by
  refine own_met_of (L0 := #[.val (.double v), .second, .val (.double w), .second, .unset, .unset, .unset, .unset]) (plainFor_of_name own_pn8) (fun m => own_ef8 m v w) ?_
  intro p e s m below meth c T0 hx hZ hown hby hml hnm H0
  obtain ⟨v2, hv2⟩ : ∃ z : Int32, (cmpValue (FP.dcmp v w) .g) = z := ⟨_, rfl⟩
  obtain ⟨v10, hv10⟩ : ∃ z : Int32, (cmpValue (FP.dcmp v w) .l) = z := ⟨_, rfl⟩
  obtain ⟨TcmpC_1, vcmpC_1_, cscmpC_1_, qcmpC_1, HcmpC_1, stcmpC_1⟩ := own_callS H0 hx hZ hown (hw _ (List.mem_of_getElem? (i := 69) rfl)) (hw _ (List.mem_of_getElem? (i := 70) rfl)) (hw _ (List.mem_of_getElem? (i := 15) rfl)) (hw _ (List.mem_of_getElem? (i := 71) rfl)) (by decide) (argsL := [(.double v)]) (rest := []) (W := 0) (own_bits l Z a0 hb0 hw v _ r iv) (by decide) (by decide) (by decide) (by decide) (g := (mkF m 17 #[.val (.double v), .second, .val (.double w), .second, .unset, .unset, .unset, .unset] [(.double v)])) rfl (by rw [hml]; rfl) (lenOf own_pd5 rfl) rfl (by show 2 * 0 + _ ≤ _; exact Nat.le_of_eq rfl) (hb hby d8_17)
  obtain ⟨rfl, rfl⟩ := qcmpC_1
  obtain ⟨j23_4, hj23_4⟩ : ∃ z : Int64, v.toInt64 = z := ⟨_, rfl⟩
  obtain ⟨TcmpC_2, vcmpC_2_, cscmpC_2_, qcmpC_2, HcmpC_2, stcmpC_2⟩ := own_callS HcmpC_1 hx hZ hown (hw _ (List.mem_of_getElem? (i := 69) rfl)) (hw _ (List.mem_of_getElem? (i := 70) rfl)) (hw _ (List.mem_of_getElem? (i := 15) rfl)) (hw _ (List.mem_of_getElem? (i := 71) rfl)) (by decide) (argsL := [(.double w)]) (rest := []) (W := 0) (own_bits l Z a0 hb0 hw w _ r' iw) (by decide) (by decide) (by decide) (by decide) (g := (mkF m 23 #[.val (.double v), .second, .val (.double w), .second, .val (.long j23_4), .second, .unset, .unset] [(.double w)])) rfl (by rw [hml]; rfl) (lenOf own_pd5 rfl) rfl (by show 2 * 0 + _ ≤ _; exact Nat.le_of_eq rfl) (hb hby d8_23)
  obtain ⟨rfl, rfl⟩ := qcmpC_2
  obtain ⟨v32, hv32⟩ : ∃ z : Int32, (if j23_4 > w.toInt64 then (1 : Int32) else if j23_4 = w.toInt64 then 0 else -1) = z := ⟨_, rfl⟩
  obtain ⟨v44, hv44⟩ : ∃ z : Int32, (if j23_4 > w.toInt64 then (1 : Int32) else if j23_4 = w.toInt64 then 0 else -1) = z := ⟨_, rfl⟩
  obtain ⟨j53_6, hj53_6⟩ : ∃ z : Int64, w.toInt64 = z := ⟨_, rfl⟩
  have hb3 : ifCond.holds .ge v2 = true := by rw [← hv2, own_c_ge iv iw]; exact decide_eq_true (by rw [he]; exact Rat.le_refl)
  have hb11 : ifCond.holds .le v10 = true := by rw [← hv10, own_c_le iv iw]; exact decide_eq_true (by rw [he]; exact Rat.le_refl)
  have hb33 : ifCond.holds .ne v32 = true := by
    rw [← hv32, ← hj23_4, own_lc_ne]
    refine decide_eq_true (fun z => hne ?_)
    have z2 := Int64.toInt_inj.mp z
    have z3 : v.toInt64.toUInt64 = w.toInt64.toUInt64 := by rw [z2]
    simpa using z3
  have hb45 : ifCond.holds .ge v44 = false := by rw [← hv44, ← hj23_4]; exact h45
  refine ⟨_, _, _, _, 53, #[.val (.double v), .second, .val (.double w), .second, .val (.long j23_4), .second, .val (.long j53_6), .second], HcmpC_2, by decide, by decide, Or.inr ⟨.int, (.int (-1 : Int32)), [], .ireturn, rfl, ⟨_, by decide, rfl, rfl⟩, d8_53, own_retI _, fun target q => ?_⟩⟩
  refine own_go H0 hx hZ hown hby hw own_K8_ok (own_cmpC_0 v w v2 hv2 hb3 v10 hv10 hb11) _ ?_
  refine stcmpC_1 _ ?_
  refine own_go HcmpC_1 hx hZ hown hby hw own_K8_ok (own_cmpC_1 v w j23_4 hj23_4) _ ?_
  refine stcmpC_2 _ ?_
  refine own_go HcmpC_2 hx hZ hown hby hw own_K8_ok (own_cmpC_2 v w j23_4 v32 hv32 hb33 v44 hv44 hb45 j53_6 hj53_6) _ ?_
  exact q
theorem own_cmpD_0 (v : UInt64) (w : UInt64) (v2 : Int32) (hv2 : (cmpValue (FP.dcmp v w) .g) = v2) (hb3 : ifCond.holds .ge v2 = true) (v10 : Int32) (hv10 : (cmpValue (FP.dcmp v w) .l) = v10) (hb11 : ifCond.holds .le v10 = true) :
    own_Go own_K8 jdk_117_method_27_code 0 #[.val (.double v), .second, .val (.double w), .second, .unset, .unset, .unset, .unset] [] 17 #[.val (.double v), .second, .val (.double w), .second, .unset, .unset, .unset, .unset] [(.double v)] := by
  refine own_dloadN (pc2 := 1) d8_0 rfl rfl ?_
  refine own_dloadN (pc2 := 2) d8_1 rfl rfl ?_
  refine own_dcmp (pc2 := 3) d8_2 rfl (v := v2) hv2 ?_
  refine own_ifYes (pc' := 8) d8_3 hb3 (by decide) (by decide) ?_
  refine own_dloadN (pc2 := 9) d8_8 rfl rfl ?_
  refine own_dloadN (pc2 := 10) d8_9 rfl rfl ?_
  refine own_dcmp (pc2 := 11) d8_10 rfl (v := v10) hv10 ?_
  refine own_ifYes (pc' := 16) d8_11 hb11 (by decide) (by decide) ?_
  refine own_dloadN (pc2 := 17) d8_16 rfl rfl ?_
  exact own_refl
theorem own_cmpD_1 (v : UInt64) (w : UInt64) (j23_4 : Int64) (hj23_4 : v.toInt64 = j23_4) :
    own_Go own_K8 jdk_117_method_27_code 20 #[.val (.double v), .second, .val (.double w), .second, .unset, .unset, .unset, .unset] [(.long v.toInt64)] 23 #[.val (.double v), .second, .val (.double w), .second, .val (.long j23_4), .second, .unset, .unset] [(.double w)] := by
  subst hj23_4
  refine own_lstore (pc2 := 22) d8_20 rfl (L' := #[.val (.double v), .second, .val (.double w), .second, .val (.long v.toInt64), .second, .unset, .unset]) rfl ?_
  refine own_dloadN (pc2 := 23) d8_22 rfl rfl ?_
  exact own_refl
theorem own_cmpD_2 (v : UInt64) (w : UInt64) (j23_4 : Int64) (v32 : Int32) (hv32 : (if j23_4 > w.toInt64 then (1 : Int32) else if j23_4 = w.toInt64 then 0 else -1) = v32) (hb33 : ifCond.holds .ne v32 = true) (v44 : Int32) (hv44 : (if j23_4 > w.toInt64 then (1 : Int32) else if j23_4 = w.toInt64 then 0 else -1) = v44) (hb45 : ifCond.holds .ge v44 = true) (j53_6 : Int64) (hj53_6 : w.toInt64 = j53_6) :
    own_Go own_K8 jdk_117_method_27_code 26 #[.val (.double v), .second, .val (.double w), .second, .val (.long j23_4), .second, .unset, .unset] [(.long w.toInt64)] 53 #[.val (.double v), .second, .val (.double w), .second, .val (.long j23_4), .second, .val (.long j53_6), .second] [(.int (1 : Int32))] := by
  subst hj53_6
  refine own_lstore (pc2 := 28) d8_26 rfl (L' := #[.val (.double v), .second, .val (.double w), .second, .val (.long j23_4), .second, .val (.long w.toInt64), .second]) rfl ?_
  refine own_lload (pc2 := 30) d8_28 rfl rfl ?_
  refine own_lload (pc2 := 32) d8_30 rfl rfl ?_
  refine own_lcmp (pc2 := 33) d8_32 rfl (v := v32) hv32 ?_
  refine own_ifYes (pc' := 40) d8_33 hb33 (by decide) (by decide) ?_
  refine own_lload (pc2 := 42) d8_40 rfl rfl ?_
  refine own_lload (pc2 := 44) d8_42 rfl rfl ?_
  refine own_lcmp (pc2 := 45) d8_44 rfl (v := v44) hv44 ?_
  refine own_ifYes (pc' := 52) d8_45 hb45 (by decide) (by decide) ?_
  refine own_iconst (v := 1) (pc2 := 53) d8_52 rfl rfl ?_
  exact own_refl
set_option maxRecDepth 65536 in
set_option maxHeartbeats 4000000 in
theorem own_cmpD (l : Launch) (Z : State) (a0 : Array Value) (hb0 : own_Base) (hw : ∀ d ∈ tables_1, d.before a0 Z = true) (v : UInt64) (w : UInt64) (cs : List (Addr × own_Cel)) (r r' : Rat) (iv : own_is v r) (iw : own_is w r') (he : r = r') (hne : v ≠ w) (h45 : ifCond.holds .ge (if v.toInt64 > w.toInt64 then (1 : Int32) else if v.toInt64 = w.toInt64 then 0 else -1) = true) :
    own_Met l Z a0 hb0 (⟨"java/lang/Double", "compare", "(DD)I"⟩ : MethodName) jdk_117_method_27_code 8 (some .int) [] ({ frames := 2, cells := 0, slots := 0, locals := 60 } : Room) #[(.double v), (.double w)] cs (fun r cs' => ∃ z : Int32, z ≠ 0 ∧ r = some (.int z) ∧ cs' = cs) := by
  refine own_met_of (L0 := #[.val (.double v), .second, .val (.double w), .second, .unset, .unset, .unset, .unset]) (plainFor_of_name own_pn8) (fun m => own_ef8 m v w) ?_
  intro p e s m below meth c T0 hx hZ hown hby hml hnm H0
  obtain ⟨v2, hv2⟩ : ∃ z : Int32, (cmpValue (FP.dcmp v w) .g) = z := ⟨_, rfl⟩
  obtain ⟨v10, hv10⟩ : ∃ z : Int32, (cmpValue (FP.dcmp v w) .l) = z := ⟨_, rfl⟩
  obtain ⟨TcmpD_1, vcmpD_1_, cscmpD_1_, qcmpD_1, HcmpD_1, stcmpD_1⟩ := own_callS H0 hx hZ hown (hw _ (List.mem_of_getElem? (i := 69) rfl)) (hw _ (List.mem_of_getElem? (i := 70) rfl)) (hw _ (List.mem_of_getElem? (i := 15) rfl)) (hw _ (List.mem_of_getElem? (i := 71) rfl)) (by decide) (argsL := [(.double v)]) (rest := []) (W := 0) (own_bits l Z a0 hb0 hw v _ r iv) (by decide) (by decide) (by decide) (by decide) (g := (mkF m 17 #[.val (.double v), .second, .val (.double w), .second, .unset, .unset, .unset, .unset] [(.double v)])) rfl (by rw [hml]; rfl) (lenOf own_pd5 rfl) rfl (by show 2 * 0 + _ ≤ _; exact Nat.le_of_eq rfl) (hb hby d8_17)
  obtain ⟨rfl, rfl⟩ := qcmpD_1
  obtain ⟨j23_4, hj23_4⟩ : ∃ z : Int64, v.toInt64 = z := ⟨_, rfl⟩
  obtain ⟨TcmpD_2, vcmpD_2_, cscmpD_2_, qcmpD_2, HcmpD_2, stcmpD_2⟩ := own_callS HcmpD_1 hx hZ hown (hw _ (List.mem_of_getElem? (i := 69) rfl)) (hw _ (List.mem_of_getElem? (i := 70) rfl)) (hw _ (List.mem_of_getElem? (i := 15) rfl)) (hw _ (List.mem_of_getElem? (i := 71) rfl)) (by decide) (argsL := [(.double w)]) (rest := []) (W := 0) (own_bits l Z a0 hb0 hw w _ r' iw) (by decide) (by decide) (by decide) (by decide) (g := (mkF m 23 #[.val (.double v), .second, .val (.double w), .second, .val (.long j23_4), .second, .unset, .unset] [(.double w)])) rfl (by rw [hml]; rfl) (lenOf own_pd5 rfl) rfl (by show 2 * 0 + _ ≤ _; exact Nat.le_of_eq rfl) (hb hby d8_23)
  obtain ⟨rfl, rfl⟩ := qcmpD_2
  obtain ⟨v32, hv32⟩ : ∃ z : Int32, (if j23_4 > w.toInt64 then (1 : Int32) else if j23_4 = w.toInt64 then 0 else -1) = z := ⟨_, rfl⟩
  obtain ⟨v44, hv44⟩ : ∃ z : Int32, (if j23_4 > w.toInt64 then (1 : Int32) else if j23_4 = w.toInt64 then 0 else -1) = z := ⟨_, rfl⟩
  obtain ⟨j53_6, hj53_6⟩ : ∃ z : Int64, w.toInt64 = z := ⟨_, rfl⟩
  have hb3 : ifCond.holds .ge v2 = true := by rw [← hv2, own_c_ge iv iw]; exact decide_eq_true (by rw [he]; exact Rat.le_refl)
  have hb11 : ifCond.holds .le v10 = true := by rw [← hv10, own_c_le iv iw]; exact decide_eq_true (by rw [he]; exact Rat.le_refl)
  have hb33 : ifCond.holds .ne v32 = true := by
    rw [← hv32, ← hj23_4, own_lc_ne]
    refine decide_eq_true (fun z => hne ?_)
    have z2 := Int64.toInt_inj.mp z
    have z3 : v.toInt64.toUInt64 = w.toInt64.toUInt64 := by rw [z2]
    simpa using z3
  have hb45 : ifCond.holds .ge v44 = true := by rw [← hv44, ← hj23_4]; exact h45
  refine ⟨_, _, _, _, 53, #[.val (.double v), .second, .val (.double w), .second, .val (.long j23_4), .second, .val (.long j53_6), .second], HcmpD_2, by decide, by decide, Or.inr ⟨.int, (.int (1 : Int32)), [], .ireturn, rfl, ⟨_, by decide, rfl, rfl⟩, d8_53, own_retI _, fun target q => ?_⟩⟩
  refine own_go H0 hx hZ hown hby hw own_K8_ok (own_cmpD_0 v w v2 hv2 hb3 v10 hv10 hb11) _ ?_
  refine stcmpD_1 _ ?_
  refine own_go HcmpD_1 hx hZ hown hby hw own_K8_ok (own_cmpD_1 v w j23_4 hj23_4) _ ?_
  refine stcmpD_2 _ ?_
  refine own_go HcmpD_2 hx hZ hown hby hw own_K8_ok (own_cmpD_2 v w j23_4 v32 hv32 hb33 v44 hv44 hb45 j53_6 hj53_6) _ ?_
  exact q
theorem own_cmp1 (l : Launch) (Z : State) (a0 : Array Value) (hb0 : own_Base) (hw : ∀ d ∈ tables_1, d.before a0 Z = true) (v w : UInt64) (cs : List (Addr × own_Cel)) (r r' : Rat) (iv : own_is v r) (iw : own_is w r') (hne : v ≠ w) :
    own_Met l Z a0 hb0 (⟨"java/lang/Double", "compare", "(DD)I"⟩ : MethodName) jdk_117_method_27_code 8 (some .int) [] ({ frames := 2, cells := 0, slots := 0, locals := 60 } : Room) #[(.double v), (.double w)] cs (fun r cs' => ∃ z : Int32, z ≠ 0 ∧ r = some (.int z) ∧ cs' = cs) := by
  by_cases h1 : r < r'
  · exact own_cmpA l Z a0 hb0 hw v w cs r r' iv iw h1
  · by_cases h2 : r' < r
    · exact own_cmpB l Z a0 hb0 hw v w cs r r' iv iw h2
    · have e : r = r' := Rat.le_antisymm (Rat.not_lt.mp h2) (Rat.not_lt.mp h1)
      cases h45 : ifCond.holds .ge (if v.toInt64 > w.toInt64 then (1 : Int32) else if v.toInt64 = w.toInt64 then 0 else -1)
      · exact own_cmpC l Z a0 hb0 hw v w cs r r' iv iw e hne h45
      · exact own_cmpD l Z a0 hb0 hw v w cs r r' iv iw e hne h45
theorem own_vl0_0 (vv : Int64) (ss : Int32) (bt : Int32) (v2 : Int32) (hv2 : (if vv > (0 : Int64) then (1 : Int32) else if vv = (0 : Int64) then 0 else -1) = v2) (hb3 : ifCond.holds .ne v2 = true) (v19 : UInt64) (hv19 : (FP.l2d vv) = v19) :
    own_Go own_K1 method_3_code 0 #[.val (.long vv), .second, .val (.int ss), .val (.int bt)] [] 20 #[.val (.long vv), .second, .val (.int ss), .val (.int bt)] [(.double v19)] := by
  refine own_lloadN (pc2 := 1) d1_0 rfl rfl ?_
  refine own_lconst (v := 0) (pc2 := 2) d1_1 rfl rfl ?_
  refine own_lcmp (pc2 := 3) d1_2 rfl (v := v2) hv2 ?_
  refine own_ifYes (pc' := 18) d1_3 hb3 (by decide) (by decide) ?_
  refine own_lloadN (pc2 := 19) d1_18 rfl rfl ?_
  refine own_l2d (pc2 := 20) d1_19 rfl (v := v19) hv19 ?_
  exact own_refl
set_option maxRecDepth 65536 in
set_option maxHeartbeats 4000000 in
theorem own_vl0 (l : Launch) (Z : State) (a0 : Array Value) (hb0 : own_Base) (hw : ∀ d ∈ tables_1, d.before a0 Z = true) (vv : Int64) (ss : Int32) (bt : Int32) (cs : List (Addr × own_Cel)) (hv0 : ¬ vv = 0) :
    own_Met l Z a0 hb0 (⟨"com/example/hazeline/hazeline/fuzzy/TrapezoidEqualsPinLaw", "val", "(JII)D"⟩ : MethodName) method_3_code 4 (some .double) [] ({ frames := 0, cells := 0, slots := 0, locals := 0 } : Room) #[(.long vv), (.int ss), (.int bt)] cs (fun r cs' => ∃ d, d = own_val vv (own_flag ss bt) ∧ r = some (.double d) ∧ cs' = cs) := by
  refine own_met_of (L0 := #[.val (.long vv), .second, .val (.int ss), .val (.int bt)]) (plainFor_of_name own_pn1) (fun m => own_ef1 m vv ss bt) ?_
  intro p e s m below meth c T0 hx hZ hown hby hml hnm H0
  obtain ⟨v2, hv2⟩ : ∃ z : Int32, (if vv > (0 : Int64) then (1 : Int32) else if vv = (0 : Int64) then 0 else -1) = z := ⟨_, rfl⟩
  obtain ⟨v19, hv19⟩ : ∃ z : UInt64, (FP.l2d vv) = z := ⟨_, rfl⟩
  have hb3 : ifCond.holds .ne v2 = true := by
    rw [← hv2, own_lc_ne]
    exact decide_eq_true (fun z => hv0 (Int64.toInt_inj.mp z))
  refine ⟨_, _, _, _, 20, #[.val (.long vv), .second, .val (.int ss), .val (.int bt)], H0, by decide, by decide, Or.inr ⟨.double, (.double v19), [], .dreturn, rfl, ⟨v19, by rw [own_val, if_neg (fun q => hv0 q.1), hv19], rfl, rfl⟩, d1_20, own_retD _, fun target q => ?_⟩⟩
  refine own_go H0 hx hZ hown hby hw own_K1_ok (own_vl0_0 vv ss bt v2 hv2 hb3 v19 hv19) _ ?_
  exact q
theorem own_vl1_0 (vv : Int64) (ss : Int32) (bt : Int32) (v2 : Int32) (hv2 : (if vv > (0 : Int64) then (1 : Int32) else if vv = (0 : Int64) then 0 else -1) = v2) (hb3 : ifCond.holds .ne v2 = false) (v8 : Int32) (hv8 : (ss >>> (bt &&& 31)) = v8) (v10 : Int32) (hv10 : (v8 &&& (1 : Int32)) = v10) (hb11 : ifCond.holds .eq v10 = true) (v19 : UInt64) (hv19 : (FP.l2d vv) = v19) :
    own_Go own_K1 method_3_code 0 #[.val (.long vv), .second, .val (.int ss), .val (.int bt)] [] 20 #[.val (.long vv), .second, .val (.int ss), .val (.int bt)] [(.double v19)] := by
  refine own_lloadN (pc2 := 1) d1_0 rfl rfl ?_
  refine own_lconst (v := 0) (pc2 := 2) d1_1 rfl rfl ?_
  refine own_lcmp (pc2 := 3) d1_2 rfl (v := v2) hv2 ?_
  refine own_ifNo (pc2 := 6) d1_3 rfl hb3 ?_
  refine own_iloadN (pc2 := 7) d1_6 rfl rfl ?_
  refine own_iloadN (pc2 := 8) d1_7 rfl rfl ?_
  refine own_ishr (pc2 := 9) d1_8 rfl (v := v8) hv8 ?_
  refine own_iconst (v := 1) (pc2 := 10) d1_9 rfl rfl ?_
  refine own_iand (pc2 := 11) d1_10 rfl (v := v10) hv10 ?_
  refine own_ifYes (pc' := 18) d1_11 hb11 (by decide) (by decide) ?_
  refine own_lloadN (pc2 := 19) d1_18 rfl rfl ?_
  refine own_l2d (pc2 := 20) d1_19 rfl (v := v19) hv19 ?_
  exact own_refl
set_option maxRecDepth 65536 in
set_option maxHeartbeats 4000000 in
theorem own_vl1 (l : Launch) (Z : State) (a0 : Array Value) (hb0 : own_Base) (hw : ∀ d ∈ tables_1, d.before a0 Z = true) (vv : Int64) (ss : Int32) (bt : Int32) (cs : List (Addr × own_Cel)) (hv0 : vv = 0) (hf : own_flag ss bt = 0) :
    own_Met l Z a0 hb0 (⟨"com/example/hazeline/hazeline/fuzzy/TrapezoidEqualsPinLaw", "val", "(JII)D"⟩ : MethodName) method_3_code 4 (some .double) [] ({ frames := 0, cells := 0, slots := 0, locals := 0 } : Room) #[(.long vv), (.int ss), (.int bt)] cs (fun r cs' => ∃ d, d = own_val vv (own_flag ss bt) ∧ r = some (.double d) ∧ cs' = cs) := by
  refine own_met_of (L0 := #[.val (.long vv), .second, .val (.int ss), .val (.int bt)]) (plainFor_of_name own_pn1) (fun m => own_ef1 m vv ss bt) ?_
  intro p e s m below meth c T0 hx hZ hown hby hml hnm H0
  obtain ⟨v2, hv2⟩ : ∃ z : Int32, (if vv > (0 : Int64) then (1 : Int32) else if vv = (0 : Int64) then 0 else -1) = z := ⟨_, rfl⟩
  obtain ⟨v8, hv8⟩ : ∃ z : Int32, (ss >>> (bt &&& 31)) = z := ⟨_, rfl⟩
  obtain ⟨v10, hv10⟩ : ∃ z : Int32, (v8 &&& (1 : Int32)) = z := ⟨_, rfl⟩
  obtain ⟨v19, hv19⟩ : ∃ z : UInt64, (FP.l2d vv) = z := ⟨_, rfl⟩
  have hb3 : ifCond.holds .ne v2 = false := by
    rw [← hv2, own_lc_ne]
    exact decide_eq_false (not_not_intro (by rw [hv0]))
  have hb11 : ifCond.holds .eq v10 = true := by
    rw [← hv10, ← hv8, own_z_eq]
    exact decide_eq_true hf
  refine ⟨_, _, _, _, 20, #[.val (.long vv), .second, .val (.int ss), .val (.int bt)], H0, by decide, by decide, Or.inr ⟨.double, (.double v19), [], .dreturn, rfl, ⟨v19, by rw [own_val, if_neg (fun q => q.2 hf), hv19], rfl, rfl⟩, d1_20, own_retD _, fun target q => ?_⟩⟩
  refine own_go H0 hx hZ hown hby hw own_K1_ok (own_vl1_0 vv ss bt v2 hv2 hb3 v8 hv8 v10 hv10 hb11 v19 hv19) _ ?_
  exact q
theorem own_vl2_0 (vv : Int64) (ss : Int32) (bt : Int32) (v2 : Int32) (hv2 : (if vv > (0 : Int64) then (1 : Int32) else if vv = (0 : Int64) then 0 else -1) = v2) (hb3 : ifCond.holds .ne v2 = false) (v8 : Int32) (hv8 : (ss >>> (bt &&& 31)) = v8) (v10 : Int32) (hv10 : (v8 &&& (1 : Int32)) = v10) (hb11 : ifCond.holds .eq v10 = false) :
    own_Go own_K1 method_3_code 0 #[.val (.long vv), .second, .val (.int ss), .val (.int bt)] [] 17 #[.val (.long vv), .second, .val (.int ss), .val (.int bt)] [(.double (9223372036854775808 : UInt64))] := by
  refine own_lloadN (pc2 := 1) d1_0 rfl rfl ?_
  refine own_lconst (v := 0) (pc2 := 2) d1_1 rfl rfl ?_
  refine own_lcmp (pc2 := 3) d1_2 rfl (v := v2) hv2 ?_
  refine own_ifNo (pc2 := 6) d1_3 rfl hb3 ?_
  refine own_iloadN (pc2 := 7) d1_6 rfl rfl ?_
  refine own_iloadN (pc2 := 8) d1_7 rfl rfl ?_
  refine own_ishr (pc2 := 9) d1_8 rfl (v := v8) hv8 ?_
  refine own_iconst (v := 1) (pc2 := 10) d1_9 rfl rfl ?_
  refine own_iand (pc2 := 11) d1_10 rfl (v := v10) hv10 ?_
  refine own_ifNo (pc2 := 14) d1_11 rfl hb11 ?_
  refine own_ldc2D (v := (9223372036854775808 : UInt64)) (pc2 := 17) d1_14 rfl (List.mem_of_getElem? (i := 0) rfl) ?_
  exact own_refl
set_option maxRecDepth 65536 in
set_option maxHeartbeats 4000000 in
theorem own_vl2 (l : Launch) (Z : State) (a0 : Array Value) (hb0 : own_Base) (hw : ∀ d ∈ tables_1, d.before a0 Z = true) (vv : Int64) (ss : Int32) (bt : Int32) (cs : List (Addr × own_Cel)) (hv0 : vv = 0) (hf : ¬ own_flag ss bt = 0) :
    own_Met l Z a0 hb0 (⟨"com/example/hazeline/hazeline/fuzzy/TrapezoidEqualsPinLaw", "val", "(JII)D"⟩ : MethodName) method_3_code 4 (some .double) [] ({ frames := 0, cells := 0, slots := 0, locals := 0 } : Room) #[(.long vv), (.int ss), (.int bt)] cs (fun r cs' => ∃ d, d = own_val vv (own_flag ss bt) ∧ r = some (.double d) ∧ cs' = cs) := by
  refine own_met_of (L0 := #[.val (.long vv), .second, .val (.int ss), .val (.int bt)]) (plainFor_of_name own_pn1) (fun m => own_ef1 m vv ss bt) ?_
  intro p e s m below meth c T0 hx hZ hown hby hml hnm H0
  obtain ⟨v2, hv2⟩ : ∃ z : Int32, (if vv > (0 : Int64) then (1 : Int32) else if vv = (0 : Int64) then 0 else -1) = z := ⟨_, rfl⟩
  obtain ⟨v8, hv8⟩ : ∃ z : Int32, (ss >>> (bt &&& 31)) = z := ⟨_, rfl⟩
  obtain ⟨v10, hv10⟩ : ∃ z : Int32, (v8 &&& (1 : Int32)) = z := ⟨_, rfl⟩
  have hb3 : ifCond.holds .ne v2 = false := by
    rw [← hv2, own_lc_ne]
    exact decide_eq_false (not_not_intro (by rw [hv0]))
  have hb11 : ifCond.holds .eq v10 = false := by
    rw [← hv10, ← hv8, own_z_eq]
    exact decide_eq_false hf
  refine ⟨_, _, _, _, 17, #[.val (.long vv), .second, .val (.int ss), .val (.int bt)], H0, by decide, by decide, Or.inr ⟨.double, (.double (9223372036854775808 : UInt64)), [], .dreturn, rfl, ⟨(9223372036854775808 : UInt64), by rw [own_val, if_pos ⟨hv0, hf⟩], rfl, rfl⟩, d1_17, own_retD _, fun target q => ?_⟩⟩
  refine own_go H0 hx hZ hown hby hw own_K1_ok (own_vl2_0 vv ss bt v2 hv2 hb3 v8 hv8 v10 hv10 hb11) _ ?_
  exact q
theorem own_vl (l : Launch) (Z : State) (a0 : Array Value) (hb0 : own_Base) (hw : ∀ d ∈ tables_1, d.before a0 Z = true) (vv : Int64) (ss bt : Int32) (cs : List (Addr × own_Cel)) :
    own_Met l Z a0 hb0 (⟨"com/example/hazeline/hazeline/fuzzy/TrapezoidEqualsPinLaw", "val", "(JII)D"⟩ : MethodName) method_3_code 4 (some .double) [] ({ frames := 0, cells := 0, slots := 0, locals := 0 } : Room) #[(.long vv), (.int ss), (.int bt)] cs (fun r cs' => ∃ d, d = own_val vv (own_flag ss bt) ∧ r = some (.double d) ∧ cs' = cs) := by
  by_cases h0 : vv = 0
  · by_cases hf : own_flag ss bt = 0
    · exact own_vl1 l Z a0 hb0 hw vv ss bt cs h0 hf
    · exact own_vl2 l Z a0 hb0 hw vv ss bt cs h0 hf
  · exact own_vl0 l Z a0 hb0 hw vv ss bt cs h0
theorem own_sm0_0 (va : Int64) (sa : Int32) (vb : Int64) (sb : Int32) (bt : Int32) (v2 : Int32) (hv2 : (if va > vb then (1 : Int32) else if va = vb then 0 else -1) = v2) (hb3 : ifCond.holds .eq v2 = false) :
    own_Go own_K6 method_4_code 0 #[.val (.long va), .second, .val (.int sa), .val (.long vb), .second, .val (.int sb), .val (.int bt)] [] 7 #[.val (.long va), .second, .val (.int sa), .val (.long vb), .second, .val (.int sb), .val (.int bt)] [(.int (0 : Int32))] := by
  refine own_lloadN (pc2 := 1) d6_0 rfl rfl ?_
  refine own_lloadN (pc2 := 2) d6_1 rfl rfl ?_
  refine own_lcmp (pc2 := 3) d6_2 rfl (v := v2) hv2 ?_
  refine own_ifNo (pc2 := 6) d6_3 rfl hb3 ?_
  refine own_iconst (v := 0) (pc2 := 7) d6_6 rfl rfl ?_
  exact own_refl
set_option maxRecDepth 65536 in
set_option maxHeartbeats 4000000 in
theorem own_sm0 (l : Launch) (Z : State) (a0 : Array Value) (hb0 : own_Base) (hw : ∀ d ∈ tables_1, d.before a0 Z = true) (va : Int64) (sa : Int32) (vb : Int64) (sb : Int32) (bt : Int32) (cs : List (Addr × own_Cel)) (hne : ¬ va = vb) :
    own_Met l Z a0 hb0 (⟨"com/example/hazeline/hazeline/fuzzy/TrapezoidEqualsPinLaw", "same", "(JIJII)Z"⟩ : MethodName) method_4_code 7 (some .boolean) [] ({ frames := 0, cells := 0, slots := 0, locals := 0 } : Room) #[(.long va), (.int sa), (.long vb), (.int sb), (.int bt)] cs (fun r cs' => r = some (.int 0) ∧ cs' = cs) := by
  refine own_met_of (L0 := #[.val (.long va), .second, .val (.int sa), .val (.long vb), .second, .val (.int sb), .val (.int bt)]) (plainFor_of_name own_pn6) (fun m => own_ef6 m va sa vb sb bt) ?_
  intro p e s m below meth c T0 hx hZ hown hby hml hnm H0
  obtain ⟨v2, hv2⟩ : ∃ z : Int32, (if va > vb then (1 : Int32) else if va = vb then 0 else -1) = z := ⟨_, rfl⟩
  have hb3 : ifCond.holds .eq v2 = false := by
    rw [← hv2, own_lc_eq]
    exact decide_eq_false (fun z => hne (Int64.toInt_inj.mp z))
  refine ⟨_, _, _, _, 7, #[.val (.long va), .second, .val (.int sa), .val (.long vb), .second, .val (.int sb), .val (.int bt)], H0, by decide, by decide, Or.inr ⟨.boolean, (.int (0 : Int32)), [], .ireturn, rfl, ⟨rfl, rfl⟩, d6_7, own_retZ (Or.inl rfl), fun target q => ?_⟩⟩
  refine own_go H0 hx hZ hown hby hw own_K6_ok (own_sm0_0 va sa vb sb bt v2 hv2 hb3) _ ?_
  exact q
theorem own_sm1_0 (va : Int64) (sa : Int32) (vb : Int64) (sb : Int32) (bt : Int32) (v2 : Int32) (hv2 : (if va > vb then (1 : Int32) else if va = vb then 0 else -1) = v2) (hb3 : ifCond.holds .eq v2 = true) (v10 : Int32) (hv10 : (if va > (0 : Int64) then (1 : Int32) else if va = (0 : Int64) then 0 else -1) = v10) (hb11 : ifCond.holds .eq v10 = false) :
    own_Go own_K6 method_4_code 0 #[.val (.long va), .second, .val (.int sa), .val (.long vb), .second, .val (.int sb), .val (.int bt)] [] 15 #[.val (.long va), .second, .val (.int sa), .val (.long vb), .second, .val (.int sb), .val (.int bt)] [(.int (1 : Int32))] := by
  refine own_lloadN (pc2 := 1) d6_0 rfl rfl ?_
  refine own_lloadN (pc2 := 2) d6_1 rfl rfl ?_
  refine own_lcmp (pc2 := 3) d6_2 rfl (v := v2) hv2 ?_
  refine own_ifYes (pc' := 8) d6_3 hb3 (by decide) (by decide) ?_
  refine own_lloadN (pc2 := 9) d6_8 rfl rfl ?_
  refine own_lconst (v := 0) (pc2 := 10) d6_9 rfl rfl ?_
  refine own_lcmp (pc2 := 11) d6_10 rfl (v := v10) hv10 ?_
  refine own_ifNo (pc2 := 14) d6_11 rfl hb11 ?_
  refine own_iconst (v := 1) (pc2 := 15) d6_14 rfl rfl ?_
  exact own_refl
set_option maxRecDepth 65536 in
set_option maxHeartbeats 4000000 in
theorem own_sm1 (l : Launch) (Z : State) (a0 : Array Value) (hb0 : own_Base) (hw : ∀ d ∈ tables_1, d.before a0 Z = true) (va : Int64) (sa : Int32) (vb : Int64) (sb : Int32) (bt : Int32) (cs : List (Addr × own_Cel)) (he : va = vb) (h0 : ¬ va = 0) :
    own_Met l Z a0 hb0 (⟨"com/example/hazeline/hazeline/fuzzy/TrapezoidEqualsPinLaw", "same", "(JIJII)Z"⟩ : MethodName) method_4_code 7 (some .boolean) [] ({ frames := 0, cells := 0, slots := 0, locals := 0 } : Room) #[(.long va), (.int sa), (.long vb), (.int sb), (.int bt)] cs (fun r cs' => r = some (.int 1) ∧ cs' = cs) := by
  refine own_met_of (L0 := #[.val (.long va), .second, .val (.int sa), .val (.long vb), .second, .val (.int sb), .val (.int bt)]) (plainFor_of_name own_pn6) (fun m => own_ef6 m va sa vb sb bt) ?_
  intro p e s m below meth c T0 hx hZ hown hby hml hnm H0
  obtain ⟨v2, hv2⟩ : ∃ z : Int32, (if va > vb then (1 : Int32) else if va = vb then 0 else -1) = z := ⟨_, rfl⟩
  obtain ⟨v10, hv10⟩ : ∃ z : Int32, (if va > (0 : Int64) then (1 : Int32) else if va = (0 : Int64) then 0 else -1) = z := ⟨_, rfl⟩
  have hb3 : ifCond.holds .eq v2 = true := by
    rw [← hv2, own_lc_eq]
    exact decide_eq_true (by rw [he])
  have hb11 : ifCond.holds .eq v10 = false := by
    rw [← hv10, own_lc_eq]
    exact decide_eq_false (fun z => h0 (Int64.toInt_inj.mp z))
  refine ⟨_, _, _, _, 15, #[.val (.long va), .second, .val (.int sa), .val (.long vb), .second, .val (.int sb), .val (.int bt)], H0, by decide, by decide, Or.inr ⟨.boolean, (.int (1 : Int32)), [], .ireturn, rfl, ⟨rfl, rfl⟩, d6_15, own_retZ (Or.inr rfl), fun target q => ?_⟩⟩
  refine own_go H0 hx hZ hown hby hw own_K6_ok (own_sm1_0 va sa vb sb bt v2 hv2 hb3 v10 hv10 hb11) _ ?_
  exact q
theorem own_sm2_0 (va : Int64) (sa : Int32) (vb : Int64) (sb : Int32) (bt : Int32) (v2 : Int32) (hv2 : (if va > vb then (1 : Int32) else if va = vb then 0 else -1) = v2) (hb3 : ifCond.holds .eq v2 = true) (v10 : Int32) (hv10 : (if va > (0 : Int64) then (1 : Int32) else if va = (0 : Int64) then 0 else -1) = v10) (hb11 : ifCond.holds .eq v10 = true) (v19 : Int32) (hv19 : (sa >>> (bt &&& 31)) = v19) (v21 : Int32) (hv21 : (v19 &&& (1 : Int32)) = v21) (v26 : Int32) (hv26 : (sb >>> (bt &&& 31)) = v26) (v28 : Int32) (hv28 : (v26 &&& (1 : Int32)) = v28) (hb29 : if_icmp.holds .ne v21 v28 = false) :
    own_Go own_K6 method_4_code 0 #[.val (.long va), .second, .val (.int sa), .val (.long vb), .second, .val (.int sb), .val (.int bt)] [] 37 #[.val (.long va), .second, .val (.int sa), .val (.long vb), .second, .val (.int sb), .val (.int bt)] [(.int (1 : Int32))] := by
  refine own_lloadN (pc2 := 1) d6_0 rfl rfl ?_
  refine own_lloadN (pc2 := 2) d6_1 rfl rfl ?_
  refine own_lcmp (pc2 := 3) d6_2 rfl (v := v2) hv2 ?_
  refine own_ifYes (pc' := 8) d6_3 hb3 (by decide) (by decide) ?_
  refine own_lloadN (pc2 := 9) d6_8 rfl rfl ?_
  refine own_lconst (v := 0) (pc2 := 10) d6_9 rfl rfl ?_
  refine own_lcmp (pc2 := 11) d6_10 rfl (v := v10) hv10 ?_
  refine own_ifYes (pc' := 16) d6_11 hb11 (by decide) (by decide) ?_
  refine own_iloadN (pc2 := 17) d6_16 rfl rfl ?_
  refine own_iload (pc2 := 19) d6_17 rfl rfl ?_
  refine own_ishr (pc2 := 20) d6_19 rfl (v := v19) hv19 ?_
  refine own_iconst (v := 1) (pc2 := 21) d6_20 rfl rfl ?_
  refine own_iand (pc2 := 22) d6_21 rfl (v := v21) hv21 ?_
  refine own_iload (pc2 := 24) d6_22 rfl rfl ?_
  refine own_iload (pc2 := 26) d6_24 rfl rfl ?_
  refine own_ishr (pc2 := 27) d6_26 rfl (v := v26) hv26 ?_
  refine own_iconst (v := 1) (pc2 := 28) d6_27 rfl rfl ?_
  refine own_iand (pc2 := 29) d6_28 rfl (v := v28) hv28 ?_
  refine own_icmpNo (pc2 := 32) d6_29 rfl hb29 ?_
  refine own_iconst (v := 1) (pc2 := 33) d6_32 rfl rfl ?_
  refine own_goto (pc' := 37) d6_33 (by decide) (by decide) ?_
  exact own_refl
set_option maxRecDepth 65536 in
set_option maxHeartbeats 4000000 in
theorem own_sm2 (l : Launch) (Z : State) (a0 : Array Value) (hb0 : own_Base) (hw : ∀ d ∈ tables_1, d.before a0 Z = true) (va : Int64) (sa : Int32) (vb : Int64) (sb : Int32) (bt : Int32) (cs : List (Addr × own_Cel)) (he : va = vb) (h0 : va = 0) (hf : own_flag sa bt = own_flag sb bt) :
    own_Met l Z a0 hb0 (⟨"com/example/hazeline/hazeline/fuzzy/TrapezoidEqualsPinLaw", "same", "(JIJII)Z"⟩ : MethodName) method_4_code 7 (some .boolean) [] ({ frames := 0, cells := 0, slots := 0, locals := 0 } : Room) #[(.long va), (.int sa), (.long vb), (.int sb), (.int bt)] cs (fun r cs' => r = some (.int 1) ∧ cs' = cs) := by
  refine own_met_of (L0 := #[.val (.long va), .second, .val (.int sa), .val (.long vb), .second, .val (.int sb), .val (.int bt)]) (plainFor_of_name own_pn6) (fun m => own_ef6 m va sa vb sb bt) ?_
  intro p e s m below meth c T0 hx hZ hown hby hml hnm H0
  obtain ⟨v2, hv2⟩ : ∃ z : Int32, (if va > vb then (1 : Int32) else if va = vb then 0 else -1) = z := ⟨_, rfl⟩
  obtain ⟨v10, hv10⟩ : ∃ z : Int32, (if va > (0 : Int64) then (1 : Int32) else if va = (0 : Int64) then 0 else -1) = z := ⟨_, rfl⟩
  obtain ⟨v19, hv19⟩ : ∃ z : Int32, (sa >>> (bt &&& 31)) = z := ⟨_, rfl⟩
  obtain ⟨v21, hv21⟩ : ∃ z : Int32, (v19 &&& (1 : Int32)) = z := ⟨_, rfl⟩
  obtain ⟨v26, hv26⟩ : ∃ z : Int32, (sb >>> (bt &&& 31)) = z := ⟨_, rfl⟩
  obtain ⟨v28, hv28⟩ : ∃ z : Int32, (v26 &&& (1 : Int32)) = z := ⟨_, rfl⟩
  have hb3 : ifCond.holds .eq v2 = true := by
    rw [← hv2, own_lc_eq]
    exact decide_eq_true (by rw [he])
  have hb11 : ifCond.holds .eq v10 = true := by
    rw [← hv10, own_lc_eq]
    exact decide_eq_true (by rw [h0])
  have hb29 : if_icmp.holds .ne v21 v28 = false := by
    rw [← hv21, ← hv28, ← hv19, ← hv26, own_i_ne]
    exact decide_eq_false (not_not_intro hf)
  refine ⟨_, _, _, _, 37, #[.val (.long va), .second, .val (.int sa), .val (.long vb), .second, .val (.int sb), .val (.int bt)], H0, by decide, by decide, Or.inr ⟨.boolean, (.int (1 : Int32)), [], .ireturn, rfl, ⟨rfl, rfl⟩, d6_37, own_retZ (Or.inr rfl), fun target q => ?_⟩⟩
  refine own_go H0 hx hZ hown hby hw own_K6_ok (own_sm2_0 va sa vb sb bt v2 hv2 hb3 v10 hv10 hb11 v19 hv19 v21 hv21 v26 hv26 v28 hv28 hb29) _ ?_
  exact q
theorem own_sm3_0 (va : Int64) (sa : Int32) (vb : Int64) (sb : Int32) (bt : Int32) (v2 : Int32) (hv2 : (if va > vb then (1 : Int32) else if va = vb then 0 else -1) = v2) (hb3 : ifCond.holds .eq v2 = true) (v10 : Int32) (hv10 : (if va > (0 : Int64) then (1 : Int32) else if va = (0 : Int64) then 0 else -1) = v10) (hb11 : ifCond.holds .eq v10 = true) (v19 : Int32) (hv19 : (sa >>> (bt &&& 31)) = v19) (v21 : Int32) (hv21 : (v19 &&& (1 : Int32)) = v21) (v26 : Int32) (hv26 : (sb >>> (bt &&& 31)) = v26) (v28 : Int32) (hv28 : (v26 &&& (1 : Int32)) = v28) (hb29 : if_icmp.holds .ne v21 v28 = true) :
    own_Go own_K6 method_4_code 0 #[.val (.long va), .second, .val (.int sa), .val (.long vb), .second, .val (.int sb), .val (.int bt)] [] 37 #[.val (.long va), .second, .val (.int sa), .val (.long vb), .second, .val (.int sb), .val (.int bt)] [(.int (0 : Int32))] := by
  refine own_lloadN (pc2 := 1) d6_0 rfl rfl ?_
  refine own_lloadN (pc2 := 2) d6_1 rfl rfl ?_
  refine own_lcmp (pc2 := 3) d6_2 rfl (v := v2) hv2 ?_
  refine own_ifYes (pc' := 8) d6_3 hb3 (by decide) (by decide) ?_
  refine own_lloadN (pc2 := 9) d6_8 rfl rfl ?_
  refine own_lconst (v := 0) (pc2 := 10) d6_9 rfl rfl ?_
  refine own_lcmp (pc2 := 11) d6_10 rfl (v := v10) hv10 ?_
  refine own_ifYes (pc' := 16) d6_11 hb11 (by decide) (by decide) ?_
  refine own_iloadN (pc2 := 17) d6_16 rfl rfl ?_
  refine own_iload (pc2 := 19) d6_17 rfl rfl ?_
  refine own_ishr (pc2 := 20) d6_19 rfl (v := v19) hv19 ?_
  refine own_iconst (v := 1) (pc2 := 21) d6_20 rfl rfl ?_
  refine own_iand (pc2 := 22) d6_21 rfl (v := v21) hv21 ?_
  refine own_iload (pc2 := 24) d6_22 rfl rfl ?_
  refine own_iload (pc2 := 26) d6_24 rfl rfl ?_
  refine own_ishr (pc2 := 27) d6_26 rfl (v := v26) hv26 ?_
  refine own_iconst (v := 1) (pc2 := 28) d6_27 rfl rfl ?_
  refine own_iand (pc2 := 29) d6_28 rfl (v := v28) hv28 ?_
  refine own_icmpYes (pc' := 36) d6_29 hb29 (by decide) (by decide) ?_
  refine own_iconst (v := 0) (pc2 := 37) d6_36 rfl rfl ?_
  exact own_refl
set_option maxRecDepth 65536 in
set_option maxHeartbeats 4000000 in
theorem own_sm3 (l : Launch) (Z : State) (a0 : Array Value) (hb0 : own_Base) (hw : ∀ d ∈ tables_1, d.before a0 Z = true) (va : Int64) (sa : Int32) (vb : Int64) (sb : Int32) (bt : Int32) (cs : List (Addr × own_Cel)) (he : va = vb) (h0 : va = 0) (hf : ¬ own_flag sa bt = own_flag sb bt) :
    own_Met l Z a0 hb0 (⟨"com/example/hazeline/hazeline/fuzzy/TrapezoidEqualsPinLaw", "same", "(JIJII)Z"⟩ : MethodName) method_4_code 7 (some .boolean) [] ({ frames := 0, cells := 0, slots := 0, locals := 0 } : Room) #[(.long va), (.int sa), (.long vb), (.int sb), (.int bt)] cs (fun r cs' => r = some (.int 0) ∧ cs' = cs) := by
  refine own_met_of (L0 := #[.val (.long va), .second, .val (.int sa), .val (.long vb), .second, .val (.int sb), .val (.int bt)]) (plainFor_of_name own_pn6) (fun m => own_ef6 m va sa vb sb bt) ?_
  intro p e s m below meth c T0 hx hZ hown hby hml hnm H0
  obtain ⟨v2, hv2⟩ : ∃ z : Int32, (if va > vb then (1 : Int32) else if va = vb then 0 else -1) = z := ⟨_, rfl⟩
  obtain ⟨v10, hv10⟩ : ∃ z : Int32, (if va > (0 : Int64) then (1 : Int32) else if va = (0 : Int64) then 0 else -1) = z := ⟨_, rfl⟩
  obtain ⟨v19, hv19⟩ : ∃ z : Int32, (sa >>> (bt &&& 31)) = z := ⟨_, rfl⟩
  obtain ⟨v21, hv21⟩ : ∃ z : Int32, (v19 &&& (1 : Int32)) = z := ⟨_, rfl⟩
  obtain ⟨v26, hv26⟩ : ∃ z : Int32, (sb >>> (bt &&& 31)) = z := ⟨_, rfl⟩
  obtain ⟨v28, hv28⟩ : ∃ z : Int32, (v26 &&& (1 : Int32)) = z := ⟨_, rfl⟩
  have hb3 : ifCond.holds .eq v2 = true := by
    rw [← hv2, own_lc_eq]
    exact decide_eq_true (by rw [he])
  have hb11 : ifCond.holds .eq v10 = true := by
    rw [← hv10, own_lc_eq]
    exact decide_eq_true (by rw [h0])
  have hb29 : if_icmp.holds .ne v21 v28 = true := by
    rw [← hv21, ← hv28, ← hv19, ← hv26, own_i_ne]
    exact decide_eq_true hf
  refine ⟨_, _, _, _, 37, #[.val (.long va), .second, .val (.int sa), .val (.long vb), .second, .val (.int sb), .val (.int bt)], H0, by decide, by decide, Or.inr ⟨.boolean, (.int (0 : Int32)), [], .ireturn, rfl, ⟨rfl, rfl⟩, d6_37, own_retZ (Or.inl rfl), fun target q => ?_⟩⟩
  refine own_go H0 hx hZ hown hby hw own_K6_ok (own_sm3_0 va sa vb sb bt v2 hv2 hb3 v10 hv10 hb11 v19 hv19 v21 hv21 v26 hv26 v28 hv28 hb29) _ ?_
  exact q
theorem own_same0 (l : Launch) (Z : State) (a0 : Array Value) (hb0 : own_Base) (hw : ∀ d ∈ tables_1, d.before a0 Z = true) (va : Int64) (sa : Int32) (vb : Int64) (sb bt : Int32) (cs : List (Addr × own_Cel)) (h : ¬ own_Same va (own_flag sa bt) vb (own_flag sb bt)) :
    own_Met l Z a0 hb0 (⟨"com/example/hazeline/hazeline/fuzzy/TrapezoidEqualsPinLaw", "same", "(JIJII)Z"⟩ : MethodName) method_4_code 7 (some .boolean) [] ({ frames := 0, cells := 0, slots := 0, locals := 0 } : Room) #[(.long va), (.int sa), (.long vb), (.int sb), (.int bt)] cs (fun r cs' => r = some (.int 0) ∧ cs' = cs) := by
  by_cases he : va = vb
  · by_cases h0 : va = 0
    · exact own_sm3 l Z a0 hb0 hw va sa vb sb bt cs he h0 (fun q => h ⟨he, Or.inr q⟩)
    · exact absurd ⟨he, Or.inl h0⟩ h
  · exact own_sm0 l Z a0 hb0 hw va sa vb sb bt cs he
theorem own_same1 (l : Launch) (Z : State) (a0 : Array Value) (hb0 : own_Base) (hw : ∀ d ∈ tables_1, d.before a0 Z = true) (va : Int64) (sa : Int32) (vb : Int64) (sb bt : Int32) (cs : List (Addr × own_Cel)) (h : own_Same va (own_flag sa bt) vb (own_flag sb bt)) :
    own_Met l Z a0 hb0 (⟨"com/example/hazeline/hazeline/fuzzy/TrapezoidEqualsPinLaw", "same", "(JIJII)Z"⟩ : MethodName) method_4_code 7 (some .boolean) [] ({ frames := 0, cells := 0, slots := 0, locals := 0 } : Room) #[(.long va), (.int sa), (.long vb), (.int sb), (.int bt)] cs (fun r cs' => r = some (.int 1) ∧ cs' = cs) := by
  by_cases h0 : va = 0
  · exact own_sm2 l Z a0 hb0 hw va sa vb sb bt cs h.1 h0 (h.2.resolve_left (not_not_intro h0))
  · exact own_sm1 l Z a0 hb0 hw va sa vb sb bt cs h.1 h0
theorem own_ta0 (x : Addr) (ta : UInt64) (tb : UInt64) (tc : UInt64) (td : UInt64) :
    own_Go own_K2 prog_5_method_1_code 0 #[.val (.ref x), .val (.double ta), .second, .val (.double tb), .second, .val (.double tc), .second, .val (.double td), .second] [] 1 #[.val (.ref x), .val (.double ta), .second, .val (.double tb), .second, .val (.double tc), .second, .val (.double td), .second] [(.ref x)] := by
  refine own_aloadN (pc2 := 1) d2_0 rfl rfl rfl ?_
  exact own_refl
theorem own_ta1 (x : Addr) (ta : UInt64) (tb : UInt64) (tc : UInt64) (td : UInt64) :
    own_Go own_K2 prog_5_method_1_code 4 #[.val (.ref x), .val (.double ta), .second, .val (.double tb), .second, .val (.double tc), .second, .val (.double td), .second] [] 5 #[.val (.ref x), .val (.double ta), .second, .val (.double tb), .second, .val (.double tc), .second, .val (.double td), .second] [(.double ta)] := by
  refine own_dloadN (pc2 := 5) d2_4 rfl rfl ?_
  exact own_refl
theorem own_ta2 (x : Addr) (ta : UInt64) (tb : UInt64) (tc : UInt64) (td : UInt64) :
    own_Go own_K2 prog_5_method_1_code 8 #[.val (.ref x), .val (.double ta), .second, .val (.double tb), .second, .val (.double tc), .second, .val (.double td), .second] [(.int (1 : Int32))] 12 #[.val (.ref x), .val (.double ta), .second, .val (.double tb), .second, .val (.double tc), .second, .val (.double td), .second] [(.double tb)] := by
  refine own_ifNo (pc2 := 11) d2_8 rfl (by decide) ?_
  refine own_dloadN (pc2 := 12) d2_11 rfl rfl ?_
  exact own_refl
theorem own_ta3 (x : Addr) (ta : UInt64) (tb : UInt64) (tc : UInt64) (td : UInt64) :
    own_Go own_K2 prog_5_method_1_code 15 #[.val (.ref x), .val (.double ta), .second, .val (.double tb), .second, .val (.double tc), .second, .val (.double td), .second] [(.int (1 : Int32))] 20 #[.val (.ref x), .val (.double ta), .second, .val (.double tb), .second, .val (.double tc), .second, .val (.double td), .second] [(.double tc)] := by
  refine own_ifNo (pc2 := 18) d2_15 rfl (by decide) ?_
  refine own_dload (pc2 := 20) d2_18 rfl rfl ?_
  exact own_refl
theorem own_ta4 (x : Addr) (ta : UInt64) (tb : UInt64) (tc : UInt64) (td : UInt64) :
    own_Go own_K2 prog_5_method_1_code 23 #[.val (.ref x), .val (.double ta), .second, .val (.double tb), .second, .val (.double tc), .second, .val (.double td), .second] [(.int (1 : Int32))] 28 #[.val (.ref x), .val (.double ta), .second, .val (.double tb), .second, .val (.double tc), .second, .val (.double td), .second] [(.double td)] := by
  refine own_ifNo (pc2 := 26) d2_23 rfl (by decide) ?_
  refine own_dload (pc2 := 28) d2_26 rfl rfl ?_
  exact own_refl
theorem own_ta5 (x : Addr) (ta : UInt64) (tb : UInt64) (tc : UInt64) (td : UInt64) (v58 : Int32) (hv58 : (cmpValue (FP.dcmp ta tb) .g) = v58) (hb59 : ifCond.holds .gt v58 = false) (v65 : Int32) (hv65 : (cmpValue (FP.dcmp tb tc) .g) = v65) (hb66 : ifCond.holds .gt v65 = false) (v73 : Int32) (hv73 : (cmpValue (FP.dcmp tc td) .g) = v73) (hb74 : ifCond.holds .le v73 = true) :
    own_Go own_K2 prog_5_method_1_code 31 #[.val (.ref x), .val (.double ta), .second, .val (.double tb), .second, .val (.double tc), .second, .val (.double td), .second] [(.int (1 : Int32))] 101 #[.val (.ref x), .val (.double ta), .second, .val (.double tb), .second, .val (.double tc), .second, .val (.double td), .second] [(.double ta), (.ref x)] := by
  refine own_ifYes (pc' := 56) d2_31 (by decide) (by decide) (by decide) ?_
  refine own_dloadN (pc2 := 57) d2_56 rfl rfl ?_
  refine own_dloadN (pc2 := 58) d2_57 rfl rfl ?_
  refine own_dcmp (pc2 := 59) d2_58 rfl (v := v58) hv58 ?_
  refine own_ifNo (pc2 := 62) d2_59 rfl hb59 ?_
  refine own_dloadN (pc2 := 63) d2_62 rfl rfl ?_
  refine own_dload (pc2 := 65) d2_63 rfl rfl ?_
  refine own_dcmp (pc2 := 66) d2_65 rfl (v := v65) hv65 ?_
  refine own_ifNo (pc2 := 69) d2_66 rfl hb66 ?_
  refine own_dload (pc2 := 71) d2_69 rfl rfl ?_
  refine own_dload (pc2 := 73) d2_71 rfl rfl ?_
  refine own_dcmp (pc2 := 74) d2_73 rfl (v := v73) hv73 ?_
  refine own_ifYes (pc' := 99) d2_74 hb74 (by decide) (by decide) ?_
  refine own_aloadN (pc2 := 100) d2_99 rfl rfl rfl ?_
  refine own_dloadN (pc2 := 101) d2_100 rfl rfl ?_
  exact own_refl
theorem own_ta6 (x : Addr) (ta : UInt64) (tb : UInt64) (tc : UInt64) (td : UInt64) :
    own_Go own_K2 prog_5_method_1_code 104 #[.val (.ref x), .val (.double ta), .second, .val (.double tb), .second, .val (.double tc), .second, .val (.double td), .second] [] 106 #[.val (.ref x), .val (.double ta), .second, .val (.double tb), .second, .val (.double tc), .second, .val (.double td), .second] [(.double tb), (.ref x)] := by
  refine own_aloadN (pc2 := 105) d2_104 rfl rfl rfl ?_
  refine own_dloadN (pc2 := 106) d2_105 rfl rfl ?_
  exact own_refl
theorem own_ta7 (x : Addr) (ta : UInt64) (tb : UInt64) (tc : UInt64) (td : UInt64) :
    own_Go own_K2 prog_5_method_1_code 109 #[.val (.ref x), .val (.double ta), .second, .val (.double tb), .second, .val (.double tc), .second, .val (.double td), .second] [] 112 #[.val (.ref x), .val (.double ta), .second, .val (.double tb), .second, .val (.double tc), .second, .val (.double td), .second] [(.double tc), (.ref x)] := by
  refine own_aloadN (pc2 := 110) d2_109 rfl rfl rfl ?_
  refine own_dload (pc2 := 112) d2_110 rfl rfl ?_
  exact own_refl
theorem own_ta8 (x : Addr) (ta : UInt64) (tb : UInt64) (tc : UInt64) (td : UInt64) :
    own_Go own_K2 prog_5_method_1_code 115 #[.val (.ref x), .val (.double ta), .second, .val (.double tb), .second, .val (.double tc), .second, .val (.double td), .second] [] 118 #[.val (.ref x), .val (.double ta), .second, .val (.double tb), .second, .val (.double tc), .second, .val (.double td), .second] [(.double td), (.ref x)] := by
  refine own_aloadN (pc2 := 116) d2_115 rfl rfl rfl ?_
  refine own_dload (pc2 := 118) d2_116 rfl rfl ?_
  exact own_refl
set_option maxRecDepth 65536 in
set_option maxHeartbeats 4000000 in
theorem own_tam (l : Launch) (Z : State) (a0 : Array Value) (hb0 : own_Base) (hw : ∀ d ∈ tables_1, d.before a0 Z = true) (x : Addr) (ta : UInt64) (tb : UInt64) (tc : UInt64) (td : UInt64)  (fa : Jvm.Free.Fl.Fin64 ta) (fb : Jvm.Free.Fl.Fin64 tb) (fc : Jvm.Free.Fl.Fin64 tc) (fd : Jvm.Free.Fl.Fin64 td) (h1 : ifCond.holds .gt (cmpValue (FP.dcmp ta tb) .g) = false) (h2 : ifCond.holds .gt (cmpValue (FP.dcmp tb tc) .g) = false) (h3 : ifCond.holds .le (cmpValue (FP.dcmp tc td) .g) = true) :
    own_Met l Z a0 hb0 (⟨"com/example/hazeline/hazeline/fuzzy/Trapezoid", "<init>", "(DDDD)V"⟩ : MethodName) prog_5_method_1_code 9 none [] ({ frames := 2, cells := 0, slots := 0, locals := 28 } : Room) #[(.ref x), (.double ta), (.double tb), (.double tc), (.double td)] [(x, own_O "com/example/hazeline/hazeline/fuzzy/Trapezoid" [("com/example/hazeline/hazeline/fuzzy/Trapezoid", "a", "D", .double 0), ("com/example/hazeline/hazeline/fuzzy/Trapezoid", "b", "D", .double 0), ("com/example/hazeline/hazeline/fuzzy/Trapezoid", "c", "D", .double 0), ("com/example/hazeline/hazeline/fuzzy/Trapezoid", "d", "D", .double 0)])] (fun r cs' => r = none ∧ cs' = [(x, own_O "com/example/hazeline/hazeline/fuzzy/Trapezoid" [("com/example/hazeline/hazeline/fuzzy/Trapezoid", "a", "D", .double ta), ("com/example/hazeline/hazeline/fuzzy/Trapezoid", "b", "D", .double tb), ("com/example/hazeline/hazeline/fuzzy/Trapezoid", "c", "D", .double tc), ("com/example/hazeline/hazeline/fuzzy/Trapezoid", "d", "D", .double td)])]) := by
  refine own_met_of (L0 := #[.val (.ref x), .val (.double ta), .second, .val (.double tb), .second, .val (.double tc), .second, .val (.double td), .second]) (plainFor_of_name own_pn2) (fun m => own_ef2 m x ta tb tc td) ?_
  intro p e s m below meth c T0 hx hZ hown hby hml hnm H0
  obtain ⟨Tta1, Hta1, stta1⟩ := own_initO H0 hx hZ hown (hw _ (List.mem_of_getElem? (i := 10) rfl)) (hw _ (List.mem_of_getElem? (i := 11) rfl)) (hw _ (List.mem_of_getElem? (i := 12) rfl)) (g := (mkF m 1 #[.val (.ref x), .val (.double ta), .second, .val (.double tb), .second, .val (.double tc), .second, .val (.double td), .second] [(.ref x)])) rfl (by rw [hml]; rfl) rfl (hb hby d2_1) (by decide) (W := 0) (by show 2 * 0 + _ ≤ _; exact Nat.le_of_eq rfl) (by decide)
  change own_S _ _ _ _ _ _ _ _ _ _ _ _ _ _ [(x, own_O "com/example/hazeline/hazeline/fuzzy/Trapezoid" [("com/example/hazeline/hazeline/fuzzy/Trapezoid", "a", "D", .double 0), ("com/example/hazeline/hazeline/fuzzy/Trapezoid", "b", "D", .double 0), ("com/example/hazeline/hazeline/fuzzy/Trapezoid", "c", "D", .double 0), ("com/example/hazeline/hazeline/fuzzy/Trapezoid", "d", "D", .double 0)])] _ _ at Hta1
  obtain ⟨Tta2, vta2_, csta2_, qta2, Hta2, stta2⟩ := own_callS Hta1 hx hZ hown (hw _ (List.mem_of_getElem? (i := 13) rfl)) (hw _ (List.mem_of_getElem? (i := 14) rfl)) (hw _ (List.mem_of_getElem? (i := 15) rfl)) (hw _ (List.mem_of_getElem? (i := 16) rfl)) (by decide) (argsL := [(.double ta)]) (rest := []) (W := 0) (own_isfin l Z a0 hb0 hw ta fa _) (by decide) (by decide) (by decide) (by decide) (g := (mkF m 5 #[.val (.ref x), .val (.double ta), .second, .val (.double tb), .second, .val (.double tc), .second, .val (.double td), .second] [(.double ta)])) rfl (by rw [hml]; rfl) (lenOf own_pd6 rfl) rfl (by show 2 * 0 + _ ≤ _; exact Nat.le_of_eq rfl) (hb hby d2_5)
  obtain ⟨rfl, rfl⟩ := qta2
  change own_S _ _ _ _ _ _ _ _ _ _ _ _ _ _ [(x, own_O "com/example/hazeline/hazeline/fuzzy/Trapezoid" [("com/example/hazeline/hazeline/fuzzy/Trapezoid", "a", "D", .double 0), ("com/example/hazeline/hazeline/fuzzy/Trapezoid", "b", "D", .double 0), ("com/example/hazeline/hazeline/fuzzy/Trapezoid", "c", "D", .double 0), ("com/example/hazeline/hazeline/fuzzy/Trapezoid", "d", "D", .double 0)])] _ _ at Hta2
  obtain ⟨Tta3, vta3_, csta3_, qta3, Hta3, stta3⟩ := own_callS Hta2 hx hZ hown (hw _ (List.mem_of_getElem? (i := 13) rfl)) (hw _ (List.mem_of_getElem? (i := 14) rfl)) (hw _ (List.mem_of_getElem? (i := 15) rfl)) (hw _ (List.mem_of_getElem? (i := 16) rfl)) (by decide) (argsL := [(.double tb)]) (rest := []) (W := 0) (own_isfin l Z a0 hb0 hw tb fb _) (by decide) (by decide) (by decide) (by decide) (g := (mkF m 12 #[.val (.ref x), .val (.double ta), .second, .val (.double tb), .second, .val (.double tc), .second, .val (.double td), .second] [(.double tb)])) rfl (by rw [hml]; rfl) (lenOf own_pd6 rfl) rfl (by show 2 * 0 + _ ≤ _; exact Nat.le_of_eq rfl) (hb hby d2_12)
  obtain ⟨rfl, rfl⟩ := qta3
  change own_S _ _ _ _ _ _ _ _ _ _ _ _ _ _ [(x, own_O "com/example/hazeline/hazeline/fuzzy/Trapezoid" [("com/example/hazeline/hazeline/fuzzy/Trapezoid", "a", "D", .double 0), ("com/example/hazeline/hazeline/fuzzy/Trapezoid", "b", "D", .double 0), ("com/example/hazeline/hazeline/fuzzy/Trapezoid", "c", "D", .double 0), ("com/example/hazeline/hazeline/fuzzy/Trapezoid", "d", "D", .double 0)])] _ _ at Hta3
  obtain ⟨Tta4, vta4_, csta4_, qta4, Hta4, stta4⟩ := own_callS Hta3 hx hZ hown (hw _ (List.mem_of_getElem? (i := 13) rfl)) (hw _ (List.mem_of_getElem? (i := 14) rfl)) (hw _ (List.mem_of_getElem? (i := 15) rfl)) (hw _ (List.mem_of_getElem? (i := 16) rfl)) (by decide) (argsL := [(.double tc)]) (rest := []) (W := 0) (own_isfin l Z a0 hb0 hw tc fc _) (by decide) (by decide) (by decide) (by decide) (g := (mkF m 20 #[.val (.ref x), .val (.double ta), .second, .val (.double tb), .second, .val (.double tc), .second, .val (.double td), .second] [(.double tc)])) rfl (by rw [hml]; rfl) (lenOf own_pd6 rfl) rfl (by show 2 * 0 + _ ≤ _; exact Nat.le_of_eq rfl) (hb hby d2_20)
  obtain ⟨rfl, rfl⟩ := qta4
  change own_S _ _ _ _ _ _ _ _ _ _ _ _ _ _ [(x, own_O "com/example/hazeline/hazeline/fuzzy/Trapezoid" [("com/example/hazeline/hazeline/fuzzy/Trapezoid", "a", "D", .double 0), ("com/example/hazeline/hazeline/fuzzy/Trapezoid", "b", "D", .double 0), ("com/example/hazeline/hazeline/fuzzy/Trapezoid", "c", "D", .double 0), ("com/example/hazeline/hazeline/fuzzy/Trapezoid", "d", "D", .double 0)])] _ _ at Hta4
  obtain ⟨Tta5, vta5_, csta5_, qta5, Hta5, stta5⟩ := own_callS Hta4 hx hZ hown (hw _ (List.mem_of_getElem? (i := 13) rfl)) (hw _ (List.mem_of_getElem? (i := 14) rfl)) (hw _ (List.mem_of_getElem? (i := 15) rfl)) (hw _ (List.mem_of_getElem? (i := 16) rfl)) (by decide) (argsL := [(.double td)]) (rest := []) (W := 0) (own_isfin l Z a0 hb0 hw td fd _) (by decide) (by decide) (by decide) (by decide) (g := (mkF m 28 #[.val (.ref x), .val (.double ta), .second, .val (.double tb), .second, .val (.double tc), .second, .val (.double td), .second] [(.double td)])) rfl (by rw [hml]; rfl) (lenOf own_pd6 rfl) rfl (by show 2 * 0 + _ ≤ _; exact Nat.le_of_eq rfl) (hb hby d2_28)
  obtain ⟨rfl, rfl⟩ := qta5
  change own_S _ _ _ _ _ _ _ _ _ _ _ _ _ _ [(x, own_O "com/example/hazeline/hazeline/fuzzy/Trapezoid" [("com/example/hazeline/hazeline/fuzzy/Trapezoid", "a", "D", .double 0), ("com/example/hazeline/hazeline/fuzzy/Trapezoid", "b", "D", .double 0), ("com/example/hazeline/hazeline/fuzzy/Trapezoid", "c", "D", .double 0), ("com/example/hazeline/hazeline/fuzzy/Trapezoid", "d", "D", .double 0)])] _ _ at Hta5
  obtain ⟨v58, hv58⟩ : ∃ z : Int32, (cmpValue (FP.dcmp ta tb) .g) = z := ⟨_, rfl⟩
  obtain ⟨v65, hv65⟩ : ∃ z : Int32, (cmpValue (FP.dcmp tb tc) .g) = z := ⟨_, rfl⟩
  obtain ⟨v73, hv73⟩ : ∃ z : Int32, (cmpValue (FP.dcmp tc td) .g) = z := ⟨_, rfl⟩
  obtain ⟨Tta6, Hta6, stta6⟩ := own_putF Hta5 hx hZ hown (hw _ (List.mem_of_getElem? (i := 22) rfl)) 0 0 rfl rfl (Or.inr ⟨(hw _ (List.mem_of_getElem? (i := 23) rfl)), rfl, hnm⟩) (hw _ (List.mem_of_getElem? (i := 1) rfl)) (ty := .double) (by decide) rfl rfl (g := (mkF m 101 #[.val (.ref x), .val (.double ta), .second, .val (.double tb), .second, .val (.double tc), .second, .val (.double td), .second] [(.double ta), (.ref x)])) rfl rfl (hb hby d2_101)
  change own_S _ _ _ _ _ _ _ _ _ _ _ _ _ _ [(x, own_O "com/example/hazeline/hazeline/fuzzy/Trapezoid" [("com/example/hazeline/hazeline/fuzzy/Trapezoid", "a", "D", .double ta), ("com/example/hazeline/hazeline/fuzzy/Trapezoid", "b", "D", .double 0), ("com/example/hazeline/hazeline/fuzzy/Trapezoid", "c", "D", .double 0), ("com/example/hazeline/hazeline/fuzzy/Trapezoid", "d", "D", .double 0)])] _ _ at Hta6
  obtain ⟨Tta7, Hta7, stta7⟩ := own_putF Hta6 hx hZ hown (hw _ (List.mem_of_getElem? (i := 24) rfl)) 0 1 rfl rfl (Or.inr ⟨(hw _ (List.mem_of_getElem? (i := 25) rfl)), rfl, hnm⟩) (hw _ (List.mem_of_getElem? (i := 1) rfl)) (ty := .double) (by decide) rfl rfl (g := (mkF m 106 #[.val (.ref x), .val (.double ta), .second, .val (.double tb), .second, .val (.double tc), .second, .val (.double td), .second] [(.double tb), (.ref x)])) rfl rfl (hb hby d2_106)
  change own_S _ _ _ _ _ _ _ _ _ _ _ _ _ _ [(x, own_O "com/example/hazeline/hazeline/fuzzy/Trapezoid" [("com/example/hazeline/hazeline/fuzzy/Trapezoid", "a", "D", .double ta), ("com/example/hazeline/hazeline/fuzzy/Trapezoid", "b", "D", .double tb), ("com/example/hazeline/hazeline/fuzzy/Trapezoid", "c", "D", .double 0), ("com/example/hazeline/hazeline/fuzzy/Trapezoid", "d", "D", .double 0)])] _ _ at Hta7
  obtain ⟨Tta8, Hta8, stta8⟩ := own_putF Hta7 hx hZ hown (hw _ (List.mem_of_getElem? (i := 26) rfl)) 0 2 rfl rfl (Or.inr ⟨(hw _ (List.mem_of_getElem? (i := 27) rfl)), rfl, hnm⟩) (hw _ (List.mem_of_getElem? (i := 1) rfl)) (ty := .double) (by decide) rfl rfl (g := (mkF m 112 #[.val (.ref x), .val (.double ta), .second, .val (.double tb), .second, .val (.double tc), .second, .val (.double td), .second] [(.double tc), (.ref x)])) rfl rfl (hb hby d2_112)
  change own_S _ _ _ _ _ _ _ _ _ _ _ _ _ _ [(x, own_O "com/example/hazeline/hazeline/fuzzy/Trapezoid" [("com/example/hazeline/hazeline/fuzzy/Trapezoid", "a", "D", .double ta), ("com/example/hazeline/hazeline/fuzzy/Trapezoid", "b", "D", .double tb), ("com/example/hazeline/hazeline/fuzzy/Trapezoid", "c", "D", .double tc), ("com/example/hazeline/hazeline/fuzzy/Trapezoid", "d", "D", .double 0)])] _ _ at Hta8
  obtain ⟨Tta9, Hta9, stta9⟩ := own_putF Hta8 hx hZ hown (hw _ (List.mem_of_getElem? (i := 28) rfl)) 0 3 rfl rfl (Or.inr ⟨(hw _ (List.mem_of_getElem? (i := 29) rfl)), rfl, hnm⟩) (hw _ (List.mem_of_getElem? (i := 1) rfl)) (ty := .double) (by decide) rfl rfl (g := (mkF m 118 #[.val (.ref x), .val (.double ta), .second, .val (.double tb), .second, .val (.double tc), .second, .val (.double td), .second] [(.double td), (.ref x)])) rfl rfl (hb hby d2_118)
  change own_S _ _ _ _ _ _ _ _ _ _ _ _ _ _ [(x, own_O "com/example/hazeline/hazeline/fuzzy/Trapezoid" [("com/example/hazeline/hazeline/fuzzy/Trapezoid", "a", "D", .double ta), ("com/example/hazeline/hazeline/fuzzy/Trapezoid", "b", "D", .double tb), ("com/example/hazeline/hazeline/fuzzy/Trapezoid", "c", "D", .double tc), ("com/example/hazeline/hazeline/fuzzy/Trapezoid", "d", "D", .double td)])] _ _ at Hta9
  have hb8 : ifCond.holds .eq (1 : Int32) = false := by decide
  have hb15 : ifCond.holds .eq (1 : Int32) = false := by decide
  have hb23 : ifCond.holds .eq (1 : Int32) = false := by decide
  have hb31 : ifCond.holds .ne (1 : Int32) = true := by decide
  have hb59 : ifCond.holds .gt v58 = false := by rw [← hv58]; exact h1
  have hb66 : ifCond.holds .gt v65 = false := by rw [← hv65]; exact h2
  have hb74 : ifCond.holds .le v73 = true := by rw [← hv73]; exact h3
  refine ⟨_, _, _, _, 121, #[.val (.ref x), .val (.double ta), .second, .val (.double tb), .second, .val (.double tc), .second, .val (.double td), .second], Hta9, by decide, by decide, Or.inl ⟨rfl, ⟨rfl, rfl⟩, d2_121, fun target q => ?_⟩⟩
  refine own_go H0 hx hZ hown hby hw own_K2_ok (own_ta0 x ta tb tc td) _ ?_
  refine stta1 _ ?_
  refine own_go Hta1 hx hZ hown hby hw own_K2_ok (own_ta1 x ta tb tc td) _ ?_
  refine stta2 _ ?_
  refine own_go Hta2 hx hZ hown hby hw own_K2_ok (own_ta2 x ta tb tc td) _ ?_
  refine stta3 _ ?_
  refine own_go Hta3 hx hZ hown hby hw own_K2_ok (own_ta3 x ta tb tc td) _ ?_
  refine stta4 _ ?_
  refine own_go Hta4 hx hZ hown hby hw own_K2_ok (own_ta4 x ta tb tc td) _ ?_
  refine stta5 _ ?_
  refine own_go Hta5 hx hZ hown hby hw own_K2_ok (own_ta5 x ta tb tc td v58 hv58 hb59 v65 hv65 hb66 v73 hv73 hb74) _ ?_
  refine stta6 _ ?_
  refine own_go Hta6 hx hZ hown hby hw own_K2_ok (own_ta6 x ta tb tc td) _ ?_
  refine stta7 _ ?_
  refine own_go Hta7 hx hZ hown hby hw own_K2_ok (own_ta7 x ta tb tc td) _ ?_
  refine stta8 _ ?_
  refine own_go Hta8 hx hZ hown hby hw own_K2_ok (own_ta8 x ta tb tc td) _ ?_
  refine stta9 _ ?_
  exact q
theorem own_tb0 (x : Addr) (ta : UInt64) (tb : UInt64) (tc : UInt64) (td : UInt64) :
    own_Go own_K2 prog_5_method_1_code 0 #[.val (.ref x), .val (.double ta), .second, .val (.double tb), .second, .val (.double tc), .second, .val (.double td), .second] [] 1 #[.val (.ref x), .val (.double ta), .second, .val (.double tb), .second, .val (.double tc), .second, .val (.double td), .second] [(.ref x)] := by
  refine own_aloadN (pc2 := 1) d2_0 rfl rfl rfl ?_
  exact own_refl
theorem own_tb1 (x : Addr) (ta : UInt64) (tb : UInt64) (tc : UInt64) (td : UInt64) :
    own_Go own_K2 prog_5_method_1_code 4 #[.val (.ref x), .val (.double ta), .second, .val (.double tb), .second, .val (.double tc), .second, .val (.double td), .second] [] 5 #[.val (.ref x), .val (.double ta), .second, .val (.double tb), .second, .val (.double tc), .second, .val (.double td), .second] [(.double ta)] := by
  refine own_dloadN (pc2 := 5) d2_4 rfl rfl ?_
  exact own_refl
theorem own_tb2 (x : Addr) (ta : UInt64) (tb : UInt64) (tc : UInt64) (td : UInt64) :
    own_Go own_K2 prog_5_method_1_code 8 #[.val (.ref x), .val (.double ta), .second, .val (.double tb), .second, .val (.double tc), .second, .val (.double td), .second] [(.int (1 : Int32))] 12 #[.val (.ref x), .val (.double ta), .second, .val (.double tb), .second, .val (.double tc), .second, .val (.double td), .second] [(.double tb)] := by
  refine own_ifNo (pc2 := 11) d2_8 rfl (by decide) ?_
  refine own_dloadN (pc2 := 12) d2_11 rfl rfl ?_
  exact own_refl
theorem own_tb3 (x : Addr) (ta : UInt64) (tb : UInt64) (tc : UInt64) (td : UInt64) :
    own_Go own_K2 prog_5_method_1_code 15 #[.val (.ref x), .val (.double ta), .second, .val (.double tb), .second, .val (.double tc), .second, .val (.double td), .second] [(.int (1 : Int32))] 20 #[.val (.ref x), .val (.double ta), .second, .val (.double tb), .second, .val (.double tc), .second, .val (.double td), .second] [(.double tc)] := by
  refine own_ifNo (pc2 := 18) d2_15 rfl (by decide) ?_
  refine own_dload (pc2 := 20) d2_18 rfl rfl ?_
  exact own_refl
theorem own_tb4 (x : Addr) (ta : UInt64) (tb : UInt64) (tc : UInt64) (td : UInt64) :
    own_Go own_K2 prog_5_method_1_code 23 #[.val (.ref x), .val (.double ta), .second, .val (.double tb), .second, .val (.double tc), .second, .val (.double td), .second] [(.int (1 : Int32))] 28 #[.val (.ref x), .val (.double ta), .second, .val (.double tb), .second, .val (.double tc), .second, .val (.double td), .second] [(.double td)] := by
  refine own_ifNo (pc2 := 26) d2_23 rfl (by decide) ?_
  refine own_dload (pc2 := 28) d2_26 rfl rfl ?_
  exact own_refl
theorem own_tb5 (x : Addr) (ta : UInt64) (tb : UInt64) (tc : UInt64) (td : UInt64) (v58 : Int32) (hv58 : (cmpValue (FP.dcmp ta tb) .g) = v58) (hb59 : ifCond.holds .gt v58 = false) (v65 : Int32) (hv65 : (cmpValue (FP.dcmp tb tc) .g) = v65) (hb66 : ifCond.holds .gt v65 = false) (v73 : Int32) (hv73 : (cmpValue (FP.dcmp tc td) .g) = v73) (hb74 : ifCond.holds .le v73 = true) :
    own_Go own_K2 prog_5_method_1_code 31 #[.val (.ref x), .val (.double ta), .second, .val (.double tb), .second, .val (.double tc), .second, .val (.double td), .second] [(.int (1 : Int32))] 101 #[.val (.ref x), .val (.double ta), .second, .val (.double tb), .second, .val (.double tc), .second, .val (.double td), .second] [(.double ta), (.ref x)] := by
  refine own_ifYes (pc' := 56) d2_31 (by decide) (by decide) (by decide) ?_
  refine own_dloadN (pc2 := 57) d2_56 rfl rfl ?_
  refine own_dloadN (pc2 := 58) d2_57 rfl rfl ?_
  refine own_dcmp (pc2 := 59) d2_58 rfl (v := v58) hv58 ?_
  refine own_ifNo (pc2 := 62) d2_59 rfl hb59 ?_
  refine own_dloadN (pc2 := 63) d2_62 rfl rfl ?_
  refine own_dload (pc2 := 65) d2_63 rfl rfl ?_
  refine own_dcmp (pc2 := 66) d2_65 rfl (v := v65) hv65 ?_
  refine own_ifNo (pc2 := 69) d2_66 rfl hb66 ?_
  refine own_dload (pc2 := 71) d2_69 rfl rfl ?_
  refine own_dload (pc2 := 73) d2_71 rfl rfl ?_
  refine own_dcmp (pc2 := 74) d2_73 rfl (v := v73) hv73 ?_
  refine own_ifYes (pc' := 99) d2_74 hb74 (by decide) (by decide) ?_
  refine own_aloadN (pc2 := 100) d2_99 rfl rfl rfl ?_
  refine own_dloadN (pc2 := 101) d2_100 rfl rfl ?_
  exact own_refl
theorem own_tb6 (x : Addr) (ta : UInt64) (tb : UInt64) (tc : UInt64) (td : UInt64) :
    own_Go own_K2 prog_5_method_1_code 104 #[.val (.ref x), .val (.double ta), .second, .val (.double tb), .second, .val (.double tc), .second, .val (.double td), .second] [] 106 #[.val (.ref x), .val (.double ta), .second, .val (.double tb), .second, .val (.double tc), .second, .val (.double td), .second] [(.double tb), (.ref x)] := by
  refine own_aloadN (pc2 := 105) d2_104 rfl rfl rfl ?_
  refine own_dloadN (pc2 := 106) d2_105 rfl rfl ?_
  exact own_refl
theorem own_tb7 (x : Addr) (ta : UInt64) (tb : UInt64) (tc : UInt64) (td : UInt64) :
    own_Go own_K2 prog_5_method_1_code 109 #[.val (.ref x), .val (.double ta), .second, .val (.double tb), .second, .val (.double tc), .second, .val (.double td), .second] [] 112 #[.val (.ref x), .val (.double ta), .second, .val (.double tb), .second, .val (.double tc), .second, .val (.double td), .second] [(.double tc), (.ref x)] := by
  refine own_aloadN (pc2 := 110) d2_109 rfl rfl rfl ?_
  refine own_dload (pc2 := 112) d2_110 rfl rfl ?_
  exact own_refl
theorem own_tb8 (x : Addr) (ta : UInt64) (tb : UInt64) (tc : UInt64) (td : UInt64) :
    own_Go own_K2 prog_5_method_1_code 115 #[.val (.ref x), .val (.double ta), .second, .val (.double tb), .second, .val (.double tc), .second, .val (.double td), .second] [] 118 #[.val (.ref x), .val (.double ta), .second, .val (.double tb), .second, .val (.double tc), .second, .val (.double td), .second] [(.double td), (.ref x)] := by
  refine own_aloadN (pc2 := 116) d2_115 rfl rfl rfl ?_
  refine own_dload (pc2 := 118) d2_116 rfl rfl ?_
  exact own_refl
set_option maxRecDepth 65536 in
set_option maxHeartbeats 4000000 in
theorem own_tbm (l : Launch) (Z : State) (a0 : Array Value) (hb0 : own_Base) (hw : ∀ d ∈ tables_1, d.before a0 Z = true) (x : Addr) (ta : UInt64) (tb : UInt64) (tc : UInt64) (td : UInt64)  (x1 : Addr) (q1 : own_Cel) (fa : Jvm.Free.Fl.Fin64 ta) (fb : Jvm.Free.Fl.Fin64 tb) (fc : Jvm.Free.Fl.Fin64 tc) (fd : Jvm.Free.Fl.Fin64 td) (h1 : ifCond.holds .gt (cmpValue (FP.dcmp ta tb) .g) = false) (h2 : ifCond.holds .gt (cmpValue (FP.dcmp tb tc) .g) = false) (h3 : ifCond.holds .le (cmpValue (FP.dcmp tc td) .g) = true) :
    own_Met l Z a0 hb0 (⟨"com/example/hazeline/hazeline/fuzzy/Trapezoid", "<init>", "(DDDD)V"⟩ : MethodName) prog_5_method_1_code 9 none [] ({ frames := 2, cells := 0, slots := 0, locals := 28 } : Room) #[(.ref x), (.double ta), (.double tb), (.double tc), (.double td)] [(x1, q1), (x, own_O "com/example/hazeline/hazeline/fuzzy/Trapezoid" [("com/example/hazeline/hazeline/fuzzy/Trapezoid", "a", "D", .double 0), ("com/example/hazeline/hazeline/fuzzy/Trapezoid", "b", "D", .double 0), ("com/example/hazeline/hazeline/fuzzy/Trapezoid", "c", "D", .double 0), ("com/example/hazeline/hazeline/fuzzy/Trapezoid", "d", "D", .double 0)])] (fun r cs' => r = none ∧ cs' = [(x1, q1), (x, own_O "com/example/hazeline/hazeline/fuzzy/Trapezoid" [("com/example/hazeline/hazeline/fuzzy/Trapezoid", "a", "D", .double ta), ("com/example/hazeline/hazeline/fuzzy/Trapezoid", "b", "D", .double tb), ("com/example/hazeline/hazeline/fuzzy/Trapezoid", "c", "D", .double tc), ("com/example/hazeline/hazeline/fuzzy/Trapezoid", "d", "D", .double td)])]) := by
  refine own_met_of (L0 := #[.val (.ref x), .val (.double ta), .second, .val (.double tb), .second, .val (.double tc), .second, .val (.double td), .second]) (plainFor_of_name own_pn2) (fun m => own_ef2 m x ta tb tc td) ?_
  intro p e s m below meth c T0 hx hZ hown hby hml hnm H0
  obtain ⟨Ttb1, Htb1, sttb1⟩ := own_initO H0 hx hZ hown (hw _ (List.mem_of_getElem? (i := 10) rfl)) (hw _ (List.mem_of_getElem? (i := 11) rfl)) (hw _ (List.mem_of_getElem? (i := 12) rfl)) (g := (mkF m 1 #[.val (.ref x), .val (.double ta), .second, .val (.double tb), .second, .val (.double tc), .second, .val (.double td), .second] [(.ref x)])) rfl (by rw [hml]; rfl) rfl (hb hby d2_1) (by decide) (W := 0) (by show 2 * 0 + _ ≤ _; exact Nat.le_of_eq rfl) (by decide)
  change own_S _ _ _ _ _ _ _ _ _ _ _ _ _ _ [(x1, q1), (x, own_O "com/example/hazeline/hazeline/fuzzy/Trapezoid" [("com/example/hazeline/hazeline/fuzzy/Trapezoid", "a", "D", .double 0), ("com/example/hazeline/hazeline/fuzzy/Trapezoid", "b", "D", .double 0), ("com/example/hazeline/hazeline/fuzzy/Trapezoid", "c", "D", .double 0), ("com/example/hazeline/hazeline/fuzzy/Trapezoid", "d", "D", .double 0)])] _ _ at Htb1
  obtain ⟨Ttb2, vtb2_, cstb2_, qtb2, Htb2, sttb2⟩ := own_callS Htb1 hx hZ hown (hw _ (List.mem_of_getElem? (i := 13) rfl)) (hw _ (List.mem_of_getElem? (i := 14) rfl)) (hw _ (List.mem_of_getElem? (i := 15) rfl)) (hw _ (List.mem_of_getElem? (i := 16) rfl)) (by decide) (argsL := [(.double ta)]) (rest := []) (W := 0) (own_isfin l Z a0 hb0 hw ta fa _) (by decide) (by decide) (by decide) (by decide) (g := (mkF m 5 #[.val (.ref x), .val (.double ta), .second, .val (.double tb), .second, .val (.double tc), .second, .val (.double td), .second] [(.double ta)])) rfl (by rw [hml]; rfl) (lenOf own_pd6 rfl) rfl (by show 2 * 0 + _ ≤ _; exact Nat.le_of_eq rfl) (hb hby d2_5)
  obtain ⟨rfl, rfl⟩ := qtb2
  change own_S _ _ _ _ _ _ _ _ _ _ _ _ _ _ [(x1, q1), (x, own_O "com/example/hazeline/hazeline/fuzzy/Trapezoid" [("com/example/hazeline/hazeline/fuzzy/Trapezoid", "a", "D", .double 0), ("com/example/hazeline/hazeline/fuzzy/Trapezoid", "b", "D", .double 0), ("com/example/hazeline/hazeline/fuzzy/Trapezoid", "c", "D", .double 0), ("com/example/hazeline/hazeline/fuzzy/Trapezoid", "d", "D", .double 0)])] _ _ at Htb2
  obtain ⟨Ttb3, vtb3_, cstb3_, qtb3, Htb3, sttb3⟩ := own_callS Htb2 hx hZ hown (hw _ (List.mem_of_getElem? (i := 13) rfl)) (hw _ (List.mem_of_getElem? (i := 14) rfl)) (hw _ (List.mem_of_getElem? (i := 15) rfl)) (hw _ (List.mem_of_getElem? (i := 16) rfl)) (by decide) (argsL := [(.double tb)]) (rest := []) (W := 0) (own_isfin l Z a0 hb0 hw tb fb _) (by decide) (by decide) (by decide) (by decide) (g := (mkF m 12 #[.val (.ref x), .val (.double ta), .second, .val (.double tb), .second, .val (.double tc), .second, .val (.double td), .second] [(.double tb)])) rfl (by rw [hml]; rfl) (lenOf own_pd6 rfl) rfl (by show 2 * 0 + _ ≤ _; exact Nat.le_of_eq rfl) (hb hby d2_12)
  obtain ⟨rfl, rfl⟩ := qtb3
  change own_S _ _ _ _ _ _ _ _ _ _ _ _ _ _ [(x1, q1), (x, own_O "com/example/hazeline/hazeline/fuzzy/Trapezoid" [("com/example/hazeline/hazeline/fuzzy/Trapezoid", "a", "D", .double 0), ("com/example/hazeline/hazeline/fuzzy/Trapezoid", "b", "D", .double 0), ("com/example/hazeline/hazeline/fuzzy/Trapezoid", "c", "D", .double 0), ("com/example/hazeline/hazeline/fuzzy/Trapezoid", "d", "D", .double 0)])] _ _ at Htb3
  obtain ⟨Ttb4, vtb4_, cstb4_, qtb4, Htb4, sttb4⟩ := own_callS Htb3 hx hZ hown (hw _ (List.mem_of_getElem? (i := 13) rfl)) (hw _ (List.mem_of_getElem? (i := 14) rfl)) (hw _ (List.mem_of_getElem? (i := 15) rfl)) (hw _ (List.mem_of_getElem? (i := 16) rfl)) (by decide) (argsL := [(.double tc)]) (rest := []) (W := 0) (own_isfin l Z a0 hb0 hw tc fc _) (by decide) (by decide) (by decide) (by decide) (g := (mkF m 20 #[.val (.ref x), .val (.double ta), .second, .val (.double tb), .second, .val (.double tc), .second, .val (.double td), .second] [(.double tc)])) rfl (by rw [hml]; rfl) (lenOf own_pd6 rfl) rfl (by show 2 * 0 + _ ≤ _; exact Nat.le_of_eq rfl) (hb hby d2_20)
  obtain ⟨rfl, rfl⟩ := qtb4
  change own_S _ _ _ _ _ _ _ _ _ _ _ _ _ _ [(x1, q1), (x, own_O "com/example/hazeline/hazeline/fuzzy/Trapezoid" [("com/example/hazeline/hazeline/fuzzy/Trapezoid", "a", "D", .double 0), ("com/example/hazeline/hazeline/fuzzy/Trapezoid", "b", "D", .double 0), ("com/example/hazeline/hazeline/fuzzy/Trapezoid", "c", "D", .double 0), ("com/example/hazeline/hazeline/fuzzy/Trapezoid", "d", "D", .double 0)])] _ _ at Htb4
  obtain ⟨Ttb5, vtb5_, cstb5_, qtb5, Htb5, sttb5⟩ := own_callS Htb4 hx hZ hown (hw _ (List.mem_of_getElem? (i := 13) rfl)) (hw _ (List.mem_of_getElem? (i := 14) rfl)) (hw _ (List.mem_of_getElem? (i := 15) rfl)) (hw _ (List.mem_of_getElem? (i := 16) rfl)) (by decide) (argsL := [(.double td)]) (rest := []) (W := 0) (own_isfin l Z a0 hb0 hw td fd _) (by decide) (by decide) (by decide) (by decide) (g := (mkF m 28 #[.val (.ref x), .val (.double ta), .second, .val (.double tb), .second, .val (.double tc), .second, .val (.double td), .second] [(.double td)])) rfl (by rw [hml]; rfl) (lenOf own_pd6 rfl) rfl (by show 2 * 0 + _ ≤ _; exact Nat.le_of_eq rfl) (hb hby d2_28)
  obtain ⟨rfl, rfl⟩ := qtb5
  change own_S _ _ _ _ _ _ _ _ _ _ _ _ _ _ [(x1, q1), (x, own_O "com/example/hazeline/hazeline/fuzzy/Trapezoid" [("com/example/hazeline/hazeline/fuzzy/Trapezoid", "a", "D", .double 0), ("com/example/hazeline/hazeline/fuzzy/Trapezoid", "b", "D", .double 0), ("com/example/hazeline/hazeline/fuzzy/Trapezoid", "c", "D", .double 0), ("com/example/hazeline/hazeline/fuzzy/Trapezoid", "d", "D", .double 0)])] _ _ at Htb5
  obtain ⟨v58, hv58⟩ : ∃ z : Int32, (cmpValue (FP.dcmp ta tb) .g) = z := ⟨_, rfl⟩
  obtain ⟨v65, hv65⟩ : ∃ z : Int32, (cmpValue (FP.dcmp tb tc) .g) = z := ⟨_, rfl⟩
  obtain ⟨v73, hv73⟩ : ∃ z : Int32, (cmpValue (FP.dcmp tc td) .g) = z := ⟨_, rfl⟩
  obtain ⟨Ttb6, Htb6, sttb6⟩ := own_putF Htb5 hx hZ hown (hw _ (List.mem_of_getElem? (i := 22) rfl)) 1 0 rfl rfl (Or.inr ⟨(hw _ (List.mem_of_getElem? (i := 23) rfl)), rfl, hnm⟩) (hw _ (List.mem_of_getElem? (i := 1) rfl)) (ty := .double) (by decide) rfl rfl (g := (mkF m 101 #[.val (.ref x), .val (.double ta), .second, .val (.double tb), .second, .val (.double tc), .second, .val (.double td), .second] [(.double ta), (.ref x)])) rfl rfl (hb hby d2_101)
  change own_S _ _ _ _ _ _ _ _ _ _ _ _ _ _ [(x1, q1), (x, own_O "com/example/hazeline/hazeline/fuzzy/Trapezoid" [("com/example/hazeline/hazeline/fuzzy/Trapezoid", "a", "D", .double ta), ("com/example/hazeline/hazeline/fuzzy/Trapezoid", "b", "D", .double 0), ("com/example/hazeline/hazeline/fuzzy/Trapezoid", "c", "D", .double 0), ("com/example/hazeline/hazeline/fuzzy/Trapezoid", "d", "D", .double 0)])] _ _ at Htb6
  obtain ⟨Ttb7, Htb7, sttb7⟩ := own_putF Htb6 hx hZ hown (hw _ (List.mem_of_getElem? (i := 24) rfl)) 1 1 rfl rfl (Or.inr ⟨(hw _ (List.mem_of_getElem? (i := 25) rfl)), rfl, hnm⟩) (hw _ (List.mem_of_getElem? (i := 1) rfl)) (ty := .double) (by decide) rfl rfl (g := (mkF m 106 #[.val (.ref x), .val (.double ta), .second, .val (.double tb), .second, .val (.double tc), .second, .val (.double td), .second] [(.double tb), (.ref x)])) rfl rfl (hb hby d2_106)
  change own_S _ _ _ _ _ _ _ _ _ _ _ _ _ _ [(x1, q1), (x, own_O "com/example/hazeline/hazeline/fuzzy/Trapezoid" [("com/example/hazeline/hazeline/fuzzy/Trapezoid", "a", "D", .double ta), ("com/example/hazeline/hazeline/fuzzy/Trapezoid", "b", "D", .double tb), ("com/example/hazeline/hazeline/fuzzy/Trapezoid", "c", "D", .double 0), ("com/example/hazeline/hazeline/fuzzy/Trapezoid", "d", "D", .double 0)])] _ _ at Htb7
  obtain ⟨Ttb8, Htb8, sttb8⟩ := own_putF Htb7 hx hZ hown (hw _ (List.mem_of_getElem? (i := 26) rfl)) 1 2 rfl rfl (Or.inr ⟨(hw _ (List.mem_of_getElem? (i := 27) rfl)), rfl, hnm⟩) (hw _ (List.mem_of_getElem? (i := 1) rfl)) (ty := .double) (by decide) rfl rfl (g := (mkF m 112 #[.val (.ref x), .val (.double ta), .second, .val (.double tb), .second, .val (.double tc), .second, .val (.double td), .second] [(.double tc), (.ref x)])) rfl rfl (hb hby d2_112)
  change own_S _ _ _ _ _ _ _ _ _ _ _ _ _ _ [(x1, q1), (x, own_O "com/example/hazeline/hazeline/fuzzy/Trapezoid" [("com/example/hazeline/hazeline/fuzzy/Trapezoid", "a", "D", .double ta), ("com/example/hazeline/hazeline/fuzzy/Trapezoid", "b", "D", .double tb), ("com/example/hazeline/hazeline/fuzzy/Trapezoid", "c", "D", .double tc), ("com/example/hazeline/hazeline/fuzzy/Trapezoid", "d", "D", .double 0)])] _ _ at Htb8
  obtain ⟨Ttb9, Htb9, sttb9⟩ := own_putF Htb8 hx hZ hown (hw _ (List.mem_of_getElem? (i := 28) rfl)) 1 3 rfl rfl (Or.inr ⟨(hw _ (List.mem_of_getElem? (i := 29) rfl)), rfl, hnm⟩) (hw _ (List.mem_of_getElem? (i := 1) rfl)) (ty := .double) (by decide) rfl rfl (g := (mkF m 118 #[.val (.ref x), .val (.double ta), .second, .val (.double tb), .second, .val (.double tc), .second, .val (.double td), .second] [(.double td), (.ref x)])) rfl rfl (hb hby d2_118)
  change own_S _ _ _ _ _ _ _ _ _ _ _ _ _ _ [(x1, q1), (x, own_O "com/example/hazeline/hazeline/fuzzy/Trapezoid" [("com/example/hazeline/hazeline/fuzzy/Trapezoid", "a", "D", .double ta), ("com/example/hazeline/hazeline/fuzzy/Trapezoid", "b", "D", .double tb), ("com/example/hazeline/hazeline/fuzzy/Trapezoid", "c", "D", .double tc), ("com/example/hazeline/hazeline/fuzzy/Trapezoid", "d", "D", .double td)])] _ _ at Htb9
  have hb8 : ifCond.holds .eq (1 : Int32) = false := by decide
  have hb15 : ifCond.holds .eq (1 : Int32) = false := by decide
  have hb23 : ifCond.holds .eq (1 : Int32) = false := by decide
  have hb31 : ifCond.holds .ne (1 : Int32) = true := by decide
  have hb59 : ifCond.holds .gt v58 = false := by rw [← hv58]; exact h1
  have hb66 : ifCond.holds .gt v65 = false := by rw [← hv65]; exact h2
  have hb74 : ifCond.holds .le v73 = true := by rw [← hv73]; exact h3
  refine ⟨_, _, _, _, 121, #[.val (.ref x), .val (.double ta), .second, .val (.double tb), .second, .val (.double tc), .second, .val (.double td), .second], Htb9, by decide, by decide, Or.inl ⟨rfl, ⟨rfl, rfl⟩, d2_121, fun target q => ?_⟩⟩
  refine own_go H0 hx hZ hown hby hw own_K2_ok (own_tb0 x ta tb tc td) _ ?_
  refine sttb1 _ ?_
  refine own_go Htb1 hx hZ hown hby hw own_K2_ok (own_tb1 x ta tb tc td) _ ?_
  refine sttb2 _ ?_
  refine own_go Htb2 hx hZ hown hby hw own_K2_ok (own_tb2 x ta tb tc td) _ ?_
  refine sttb3 _ ?_
  refine own_go Htb3 hx hZ hown hby hw own_K2_ok (own_tb3 x ta tb tc td) _ ?_
  refine sttb4 _ ?_
  refine own_go Htb4 hx hZ hown hby hw own_K2_ok (own_tb4 x ta tb tc td) _ ?_
  refine sttb5 _ ?_
  refine own_go Htb5 hx hZ hown hby hw own_K2_ok (own_tb5 x ta tb tc td v58 hv58 hb59 v65 hv65 hb66 v73 hv73 hb74) _ ?_
  refine sttb6 _ ?_
  refine own_go Htb6 hx hZ hown hby hw own_K2_ok (own_tb6 x ta tb tc td) _ ?_
  refine sttb7 _ ?_
  refine own_go Htb7 hx hZ hown hby hw own_K2_ok (own_tb7 x ta tb tc td) _ ?_
  refine sttb8 _ ?_
  refine own_go Htb8 hx hZ hown hby hw own_K2_ok (own_tb8 x ta tb tc td) _ ?_
  refine sttb9 _ ?_
  exact q
theorem own_ea0_0 (x1 : Addr) (x2 : Addr) :
    own_Go own_K7 prog_5_method_14_code 0 #[.val (.ref x1), .val (.ref x2), .unset] [] 1 #[.val (.ref x1), .val (.ref x2), .unset] [(.ref x2)] := by
  refine own_aloadN (pc2 := 1) d7_0 rfl rfl rfl ?_
  exact own_refl
theorem own_ea0_1 (x1 : Addr) (x2 : Addr) :
    own_Go own_K7 prog_5_method_14_code 4 #[.val (.ref x1), .val (.ref x2), .unset] [(.int (1 : Int32))] 10 #[.val (.ref x1), .val (.ref x2), .unset] [(.ref x2)] := by
  refine own_ifYes (pc' := 9) d7_4 (by decide) (by decide) (by decide) ?_
  refine own_aloadN (pc2 := 10) d7_9 rfl rfl rfl ?_
  exact own_refl
theorem own_ea0_2 (x1 : Addr) (x2 : Addr) :
    own_Go own_K7 prog_5_method_14_code 13 #[.val (.ref x1), .val (.ref x2), .unset] [(.ref x2)] 15 #[.val (.ref x1), .val (.ref x2), .val (.ref x2)] [(.ref x1)] := by
  refine own_astoreN (pc2 := 14) d7_13 rfl rfl (L' := #[.val (.ref x1), .val (.ref x2), .val (.ref x2)]) rfl ?_
  refine own_aloadN (pc2 := 15) d7_14 rfl rfl rfl ?_
  exact own_refl
theorem own_ea0_3 (x1 : Addr) (x2 : Addr) (p0 : UInt64) :
    own_Go own_K7 prog_5_method_14_code 18 #[.val (.ref x1), .val (.ref x2), .val (.ref x2)] [(.double p0)] 19 #[.val (.ref x1), .val (.ref x2), .val (.ref x2)] [(.ref x2), (.double p0)] := by
  refine own_aloadN (pc2 := 19) d7_18 rfl rfl rfl ?_
  exact own_refl
theorem own_ea0_4 (x1 : Addr) (x2 : Addr) (zz : Int32) (hb25 : ifCond.holds .ne zz = true) :
    own_Go own_K7 prog_5_method_14_code 25 #[.val (.ref x1), .val (.ref x2), .val (.ref x2)] [(.int zz)] 75 #[.val (.ref x1), .val (.ref x2), .val (.ref x2)] [(.int (0 : Int32))] := by
  refine own_ifYes (pc' := 74) d7_25 hb25 (by decide) (by decide) ?_
  refine own_iconst (v := 0) (pc2 := 75) d7_74 rfl rfl ?_
  exact own_refl
set_option maxRecDepth 65536 in
set_option maxHeartbeats 4000000 in
theorem own_eqa0 (l : Launch) (Z : State) (a0 : Array Value) (hb0 : own_Base) (hw : ∀ d ∈ tables_1, d.before a0 Z = true) (x1 : Addr) (x2 : Addr)  (p0 p1 p2 p3 q0 q1 q2 q3 : UInt64) (R0 S0 : Rat) (i0 : own_is p0 R0) (j0 : own_is q0 S0) (e0 : p0 ≠ q0) :
    own_Met l Z a0 hb0 (⟨"com/example/hazeline/hazeline/fuzzy/Trapezoid", "equals", "(Ljava/lang/Object;)Z"⟩ : MethodName) prog_5_method_14_code 3 (some .boolean) [] ({ frames := 3, cells := 0, slots := 0, locals := 90 } : Room) #[(.ref x1), (.ref x2)] [(x1, own_O "com/example/hazeline/hazeline/fuzzy/Trapezoid" [("com/example/hazeline/hazeline/fuzzy/Trapezoid", "a", "D", .double p0), ("com/example/hazeline/hazeline/fuzzy/Trapezoid", "b", "D", .double p1), ("com/example/hazeline/hazeline/fuzzy/Trapezoid", "c", "D", .double p2), ("com/example/hazeline/hazeline/fuzzy/Trapezoid", "d", "D", .double p3)]), (x2, own_O "com/example/hazeline/hazeline/fuzzy/Trapezoid" [("com/example/hazeline/hazeline/fuzzy/Trapezoid", "a", "D", .double q0), ("com/example/hazeline/hazeline/fuzzy/Trapezoid", "b", "D", .double q1), ("com/example/hazeline/hazeline/fuzzy/Trapezoid", "c", "D", .double q2), ("com/example/hazeline/hazeline/fuzzy/Trapezoid", "d", "D", .double q3)])] (fun r cs' => r = some (.int 0) ∧ cs' = [(x1, own_O "com/example/hazeline/hazeline/fuzzy/Trapezoid" [("com/example/hazeline/hazeline/fuzzy/Trapezoid", "a", "D", .double p0), ("com/example/hazeline/hazeline/fuzzy/Trapezoid", "b", "D", .double p1), ("com/example/hazeline/hazeline/fuzzy/Trapezoid", "c", "D", .double p2), ("com/example/hazeline/hazeline/fuzzy/Trapezoid", "d", "D", .double p3)]), (x2, own_O "com/example/hazeline/hazeline/fuzzy/Trapezoid" [("com/example/hazeline/hazeline/fuzzy/Trapezoid", "a", "D", .double q0), ("com/example/hazeline/hazeline/fuzzy/Trapezoid", "b", "D", .double q1), ("com/example/hazeline/hazeline/fuzzy/Trapezoid", "c", "D", .double q2), ("com/example/hazeline/hazeline/fuzzy/Trapezoid", "d", "D", .double q3)])]) := by
  refine own_met_of (L0 := #[.val (.ref x1), .val (.ref x2), .unset]) (plainFor_of_name own_pn7) (fun m => own_ef7 m x1 x2) ?_
  intro p e s m below meth c T0 hx hZ hown hby hml hnm H0
  obtain ⟨Tea0_1, Hea0_1, stea0_1⟩ := own_instO H0 hx hZ hown (hw _ (List.mem_of_getElem? (i := 38) rfl)) 1 rfl (g := (mkF m 1 #[.val (.ref x1), .val (.ref x2), .unset] [(.ref x2)])) rfl rfl (hb hby d7_1)
  change own_S _ _ _ _ _ _ _ _ _ _ _ _ _ _ [(x1, own_O "com/example/hazeline/hazeline/fuzzy/Trapezoid" [("com/example/hazeline/hazeline/fuzzy/Trapezoid", "a", "D", .double p0), ("com/example/hazeline/hazeline/fuzzy/Trapezoid", "b", "D", .double p1), ("com/example/hazeline/hazeline/fuzzy/Trapezoid", "c", "D", .double p2), ("com/example/hazeline/hazeline/fuzzy/Trapezoid", "d", "D", .double p3)]), (x2, own_O "com/example/hazeline/hazeline/fuzzy/Trapezoid" [("com/example/hazeline/hazeline/fuzzy/Trapezoid", "a", "D", .double q0), ("com/example/hazeline/hazeline/fuzzy/Trapezoid", "b", "D", .double q1), ("com/example/hazeline/hazeline/fuzzy/Trapezoid", "c", "D", .double q2), ("com/example/hazeline/hazeline/fuzzy/Trapezoid", "d", "D", .double q3)])] _ _ at Hea0_1
  obtain ⟨Tea0_2, Hea0_2, stea0_2⟩ := own_castO Hea0_1 hx hZ hown (hw _ (List.mem_of_getElem? (i := 38) rfl)) 1 rfl (g := (mkF m 10 #[.val (.ref x1), .val (.ref x2), .unset] [(.ref x2)])) rfl rfl (hb hby d7_10)
  change own_S _ _ _ _ _ _ _ _ _ _ _ _ _ _ [(x1, own_O "com/example/hazeline/hazeline/fuzzy/Trapezoid" [("com/example/hazeline/hazeline/fuzzy/Trapezoid", "a", "D", .double p0), ("com/example/hazeline/hazeline/fuzzy/Trapezoid", "b", "D", .double p1), ("com/example/hazeline/hazeline/fuzzy/Trapezoid", "c", "D", .double p2), ("com/example/hazeline/hazeline/fuzzy/Trapezoid", "d", "D", .double p3)]), (x2, own_O "com/example/hazeline/hazeline/fuzzy/Trapezoid" [("com/example/hazeline/hazeline/fuzzy/Trapezoid", "a", "D", .double q0), ("com/example/hazeline/hazeline/fuzzy/Trapezoid", "b", "D", .double q1), ("com/example/hazeline/hazeline/fuzzy/Trapezoid", "c", "D", .double q2), ("com/example/hazeline/hazeline/fuzzy/Trapezoid", "d", "D", .double q3)])] _ _ at Hea0_2
  obtain ⟨Tea0_3, Hea0_3, stea0_3⟩ := own_getF Hea0_2 hx hZ hown (hw _ (List.mem_of_getElem? (i := 22) rfl)) 0 0 rfl rfl (g := (mkF m 15 #[.val (.ref x1), .val (.ref x2), .val (.ref x2)] [(.ref x1)])) rfl rfl (hb hby d7_15)
  change own_S _ _ _ _ _ _ _ _ _ _ _ _ _ _ [(x1, own_O "com/example/hazeline/hazeline/fuzzy/Trapezoid" [("com/example/hazeline/hazeline/fuzzy/Trapezoid", "a", "D", .double p0), ("com/example/hazeline/hazeline/fuzzy/Trapezoid", "b", "D", .double p1), ("com/example/hazeline/hazeline/fuzzy/Trapezoid", "c", "D", .double p2), ("com/example/hazeline/hazeline/fuzzy/Trapezoid", "d", "D", .double p3)]), (x2, own_O "com/example/hazeline/hazeline/fuzzy/Trapezoid" [("com/example/hazeline/hazeline/fuzzy/Trapezoid", "a", "D", .double q0), ("com/example/hazeline/hazeline/fuzzy/Trapezoid", "b", "D", .double q1), ("com/example/hazeline/hazeline/fuzzy/Trapezoid", "c", "D", .double q2), ("com/example/hazeline/hazeline/fuzzy/Trapezoid", "d", "D", .double q3)])] _ _ at Hea0_3
  obtain ⟨Tea0_4, Hea0_4, stea0_4⟩ := own_getF Hea0_3 hx hZ hown (hw _ (List.mem_of_getElem? (i := 22) rfl)) 1 0 rfl rfl (g := (mkF m 19 #[.val (.ref x1), .val (.ref x2), .val (.ref x2)] [(.ref x2), (.double p0)])) rfl rfl (hb hby d7_19)
  change own_S _ _ _ _ _ _ _ _ _ _ _ _ _ _ [(x1, own_O "com/example/hazeline/hazeline/fuzzy/Trapezoid" [("com/example/hazeline/hazeline/fuzzy/Trapezoid", "a", "D", .double p0), ("com/example/hazeline/hazeline/fuzzy/Trapezoid", "b", "D", .double p1), ("com/example/hazeline/hazeline/fuzzy/Trapezoid", "c", "D", .double p2), ("com/example/hazeline/hazeline/fuzzy/Trapezoid", "d", "D", .double p3)]), (x2, own_O "com/example/hazeline/hazeline/fuzzy/Trapezoid" [("com/example/hazeline/hazeline/fuzzy/Trapezoid", "a", "D", .double q0), ("com/example/hazeline/hazeline/fuzzy/Trapezoid", "b", "D", .double q1), ("com/example/hazeline/hazeline/fuzzy/Trapezoid", "c", "D", .double q2), ("com/example/hazeline/hazeline/fuzzy/Trapezoid", "d", "D", .double q3)])] _ _ at Hea0_4
  obtain ⟨Tea0_5, vea0_5_, csea0_5_, qea0_5, Hea0_5, stea0_5⟩ := own_callS Hea0_4 hx hZ hown (hw _ (List.mem_of_getElem? (i := 40) rfl)) (hw _ (List.mem_of_getElem? (i := 41) rfl)) (hw _ (List.mem_of_getElem? (i := 15) rfl)) (hw _ (List.mem_of_getElem? (i := 42) rfl)) (by decide) (argsL := [(.double p0), (.double q0)]) (rest := []) (W := 0) (own_cmp1 l Z a0 hb0 hw p0 q0 _ _ _ i0 j0 e0) (by decide) (by decide) (by decide) (by decide) (g := (mkF m 22 #[.val (.ref x1), .val (.ref x2), .val (.ref x2)] [(.double q0), (.double p0)])) rfl (by rw [hml]; rfl) (lenOf own_pd7 rfl) rfl (by show 2 * 0 + _ ≤ _; exact Nat.le_of_eq rfl) (hb hby d7_22)
  obtain ⟨zz, hzz, rfl, rfl⟩ := qea0_5
  change own_S _ _ _ _ _ _ _ _ _ _ _ _ _ _ [(x1, own_O "com/example/hazeline/hazeline/fuzzy/Trapezoid" [("com/example/hazeline/hazeline/fuzzy/Trapezoid", "a", "D", .double p0), ("com/example/hazeline/hazeline/fuzzy/Trapezoid", "b", "D", .double p1), ("com/example/hazeline/hazeline/fuzzy/Trapezoid", "c", "D", .double p2), ("com/example/hazeline/hazeline/fuzzy/Trapezoid", "d", "D", .double p3)]), (x2, own_O "com/example/hazeline/hazeline/fuzzy/Trapezoid" [("com/example/hazeline/hazeline/fuzzy/Trapezoid", "a", "D", .double q0), ("com/example/hazeline/hazeline/fuzzy/Trapezoid", "b", "D", .double q1), ("com/example/hazeline/hazeline/fuzzy/Trapezoid", "c", "D", .double q2), ("com/example/hazeline/hazeline/fuzzy/Trapezoid", "d", "D", .double q3)])] _ _ at Hea0_5
  have hb25 : ifCond.holds .ne zz = true := by rw [own_z_ne]; exact decide_eq_true hzz
  refine ⟨_, _, _, _, 75, #[.val (.ref x1), .val (.ref x2), .val (.ref x2)], Hea0_5, by decide, by decide, Or.inr ⟨.boolean, (.int (0 : Int32)), [], .ireturn, rfl, ⟨rfl, rfl⟩, d7_75, own_retZ (Or.inl rfl), fun target q => ?_⟩⟩
  refine own_go H0 hx hZ hown hby hw own_K7_ok (own_ea0_0 x1 x2) _ ?_
  refine stea0_1 _ ?_
  refine own_go Hea0_1 hx hZ hown hby hw own_K7_ok (own_ea0_1 x1 x2) _ ?_
  refine stea0_2 _ ?_
  refine own_go Hea0_2 hx hZ hown hby hw own_K7_ok (own_ea0_2 x1 x2) _ ?_
  refine stea0_3 _ ?_
  refine own_go Hea0_3 hx hZ hown hby hw own_K7_ok (own_ea0_3 x1 x2 p0) _ ?_
  refine stea0_4 _ ?_
  refine stea0_5 _ ?_
  refine own_go Hea0_5 hx hZ hown hby hw own_K7_ok (own_ea0_4 x1 x2 zz hb25) _ ?_
  exact q
theorem own_ea1_0 (x1 : Addr) (x2 : Addr) :
    own_Go own_K7 prog_5_method_14_code 0 #[.val (.ref x1), .val (.ref x2), .unset] [] 1 #[.val (.ref x1), .val (.ref x2), .unset] [(.ref x2)] := by
  refine own_aloadN (pc2 := 1) d7_0 rfl rfl rfl ?_
  exact own_refl
theorem own_ea1_1 (x1 : Addr) (x2 : Addr) :
    own_Go own_K7 prog_5_method_14_code 4 #[.val (.ref x1), .val (.ref x2), .unset] [(.int (1 : Int32))] 10 #[.val (.ref x1), .val (.ref x2), .unset] [(.ref x2)] := by
  refine own_ifYes (pc' := 9) d7_4 (by decide) (by decide) (by decide) ?_
  refine own_aloadN (pc2 := 10) d7_9 rfl rfl rfl ?_
  exact own_refl
theorem own_ea1_2 (x1 : Addr) (x2 : Addr) :
    own_Go own_K7 prog_5_method_14_code 13 #[.val (.ref x1), .val (.ref x2), .unset] [(.ref x2)] 15 #[.val (.ref x1), .val (.ref x2), .val (.ref x2)] [(.ref x1)] := by
  refine own_astoreN (pc2 := 14) d7_13 rfl rfl (L' := #[.val (.ref x1), .val (.ref x2), .val (.ref x2)]) rfl ?_
  refine own_aloadN (pc2 := 15) d7_14 rfl rfl rfl ?_
  exact own_refl
theorem own_ea1_3 (x1 : Addr) (x2 : Addr) (p0 : UInt64) :
    own_Go own_K7 prog_5_method_14_code 18 #[.val (.ref x1), .val (.ref x2), .val (.ref x2)] [(.double p0)] 19 #[.val (.ref x1), .val (.ref x2), .val (.ref x2)] [(.ref x2), (.double p0)] := by
  refine own_aloadN (pc2 := 19) d7_18 rfl rfl rfl ?_
  exact own_refl
theorem own_ea1_4 (x1 : Addr) (x2 : Addr) :
    own_Go own_K7 prog_5_method_14_code 25 #[.val (.ref x1), .val (.ref x2), .val (.ref x2)] [(.int (0 : Int32))] 29 #[.val (.ref x1), .val (.ref x2), .val (.ref x2)] [(.ref x1)] := by
  refine own_ifNo (pc2 := 28) d7_25 rfl (by decide) ?_
  refine own_aloadN (pc2 := 29) d7_28 rfl rfl rfl ?_
  exact own_refl
theorem own_ea1_5 (x1 : Addr) (x2 : Addr) (p1 : UInt64) :
    own_Go own_K7 prog_5_method_14_code 32 #[.val (.ref x1), .val (.ref x2), .val (.ref x2)] [(.double p1)] 33 #[.val (.ref x1), .val (.ref x2), .val (.ref x2)] [(.ref x2), (.double p1)] := by
  refine own_aloadN (pc2 := 33) d7_32 rfl rfl rfl ?_
  exact own_refl
theorem own_ea1_6 (x1 : Addr) (x2 : Addr) (zz : Int32) (hb39 : ifCond.holds .ne zz = true) :
    own_Go own_K7 prog_5_method_14_code 39 #[.val (.ref x1), .val (.ref x2), .val (.ref x2)] [(.int zz)] 75 #[.val (.ref x1), .val (.ref x2), .val (.ref x2)] [(.int (0 : Int32))] := by
  refine own_ifYes (pc' := 74) d7_39 hb39 (by decide) (by decide) ?_
  refine own_iconst (v := 0) (pc2 := 75) d7_74 rfl rfl ?_
  exact own_refl
set_option maxRecDepth 65536 in
set_option maxHeartbeats 4000000 in
theorem own_eqa1 (l : Launch) (Z : State) (a0 : Array Value) (hb0 : own_Base) (hw : ∀ d ∈ tables_1, d.before a0 Z = true) (x1 : Addr) (x2 : Addr)  (p0 p1 p2 p3 q0 q1 q2 q3 : UInt64) (R0 S0 : Rat) (i0 : own_is p0 R0) (j0 : own_is q0 S0) (e0 : p0 = q0) (R1 S1 : Rat) (i1 : own_is p1 R1) (j1 : own_is q1 S1) (e1 : p1 ≠ q1) :
    own_Met l Z a0 hb0 (⟨"com/example/hazeline/hazeline/fuzzy/Trapezoid", "equals", "(Ljava/lang/Object;)Z"⟩ : MethodName) prog_5_method_14_code 3 (some .boolean) [] ({ frames := 3, cells := 0, slots := 0, locals := 90 } : Room) #[(.ref x1), (.ref x2)] [(x1, own_O "com/example/hazeline/hazeline/fuzzy/Trapezoid" [("com/example/hazeline/hazeline/fuzzy/Trapezoid", "a", "D", .double p0), ("com/example/hazeline/hazeline/fuzzy/Trapezoid", "b", "D", .double p1), ("com/example/hazeline/hazeline/fuzzy/Trapezoid", "c", "D", .double p2), ("com/example/hazeline/hazeline/fuzzy/Trapezoid", "d", "D", .double p3)]), (x2, own_O "com/example/hazeline/hazeline/fuzzy/Trapezoid" [("com/example/hazeline/hazeline/fuzzy/Trapezoid", "a", "D", .double q0), ("com/example/hazeline/hazeline/fuzzy/Trapezoid", "b", "D", .double q1), ("com/example/hazeline/hazeline/fuzzy/Trapezoid", "c", "D", .double q2), ("com/example/hazeline/hazeline/fuzzy/Trapezoid", "d", "D", .double q3)])] (fun r cs' => r = some (.int 0) ∧ cs' = [(x1, own_O "com/example/hazeline/hazeline/fuzzy/Trapezoid" [("com/example/hazeline/hazeline/fuzzy/Trapezoid", "a", "D", .double p0), ("com/example/hazeline/hazeline/fuzzy/Trapezoid", "b", "D", .double p1), ("com/example/hazeline/hazeline/fuzzy/Trapezoid", "c", "D", .double p2), ("com/example/hazeline/hazeline/fuzzy/Trapezoid", "d", "D", .double p3)]), (x2, own_O "com/example/hazeline/hazeline/fuzzy/Trapezoid" [("com/example/hazeline/hazeline/fuzzy/Trapezoid", "a", "D", .double q0), ("com/example/hazeline/hazeline/fuzzy/Trapezoid", "b", "D", .double q1), ("com/example/hazeline/hazeline/fuzzy/Trapezoid", "c", "D", .double q2), ("com/example/hazeline/hazeline/fuzzy/Trapezoid", "d", "D", .double q3)])]) := by
  refine own_met_of (L0 := #[.val (.ref x1), .val (.ref x2), .unset]) (plainFor_of_name own_pn7) (fun m => own_ef7 m x1 x2) ?_
  intro p e s m below meth c T0 hx hZ hown hby hml hnm H0
  obtain ⟨Tea1_1, Hea1_1, stea1_1⟩ := own_instO H0 hx hZ hown (hw _ (List.mem_of_getElem? (i := 38) rfl)) 1 rfl (g := (mkF m 1 #[.val (.ref x1), .val (.ref x2), .unset] [(.ref x2)])) rfl rfl (hb hby d7_1)
  change own_S _ _ _ _ _ _ _ _ _ _ _ _ _ _ [(x1, own_O "com/example/hazeline/hazeline/fuzzy/Trapezoid" [("com/example/hazeline/hazeline/fuzzy/Trapezoid", "a", "D", .double p0), ("com/example/hazeline/hazeline/fuzzy/Trapezoid", "b", "D", .double p1), ("com/example/hazeline/hazeline/fuzzy/Trapezoid", "c", "D", .double p2), ("com/example/hazeline/hazeline/fuzzy/Trapezoid", "d", "D", .double p3)]), (x2, own_O "com/example/hazeline/hazeline/fuzzy/Trapezoid" [("com/example/hazeline/hazeline/fuzzy/Trapezoid", "a", "D", .double q0), ("com/example/hazeline/hazeline/fuzzy/Trapezoid", "b", "D", .double q1), ("com/example/hazeline/hazeline/fuzzy/Trapezoid", "c", "D", .double q2), ("com/example/hazeline/hazeline/fuzzy/Trapezoid", "d", "D", .double q3)])] _ _ at Hea1_1
  obtain ⟨Tea1_2, Hea1_2, stea1_2⟩ := own_castO Hea1_1 hx hZ hown (hw _ (List.mem_of_getElem? (i := 38) rfl)) 1 rfl (g := (mkF m 10 #[.val (.ref x1), .val (.ref x2), .unset] [(.ref x2)])) rfl rfl (hb hby d7_10)
  change own_S _ _ _ _ _ _ _ _ _ _ _ _ _ _ [(x1, own_O "com/example/hazeline/hazeline/fuzzy/Trapezoid" [("com/example/hazeline/hazeline/fuzzy/Trapezoid", "a", "D", .double p0), ("com/example/hazeline/hazeline/fuzzy/Trapezoid", "b", "D", .double p1), ("com/example/hazeline/hazeline/fuzzy/Trapezoid", "c", "D", .double p2), ("com/example/hazeline/hazeline/fuzzy/Trapezoid", "d", "D", .double p3)]), (x2, own_O "com/example/hazeline/hazeline/fuzzy/Trapezoid" [("com/example/hazeline/hazeline/fuzzy/Trapezoid", "a", "D", .double q0), ("com/example/hazeline/hazeline/fuzzy/Trapezoid", "b", "D", .double q1), ("com/example/hazeline/hazeline/fuzzy/Trapezoid", "c", "D", .double q2), ("com/example/hazeline/hazeline/fuzzy/Trapezoid", "d", "D", .double q3)])] _ _ at Hea1_2
  obtain ⟨Tea1_3, Hea1_3, stea1_3⟩ := own_getF Hea1_2 hx hZ hown (hw _ (List.mem_of_getElem? (i := 22) rfl)) 0 0 rfl rfl (g := (mkF m 15 #[.val (.ref x1), .val (.ref x2), .val (.ref x2)] [(.ref x1)])) rfl rfl (hb hby d7_15)
  change own_S _ _ _ _ _ _ _ _ _ _ _ _ _ _ [(x1, own_O "com/example/hazeline/hazeline/fuzzy/Trapezoid" [("com/example/hazeline/hazeline/fuzzy/Trapezoid", "a", "D", .double p0), ("com/example/hazeline/hazeline/fuzzy/Trapezoid", "b", "D", .double p1), ("com/example/hazeline/hazeline/fuzzy/Trapezoid", "c", "D", .double p2), ("com/example/hazeline/hazeline/fuzzy/Trapezoid", "d", "D", .double p3)]), (x2, own_O "com/example/hazeline/hazeline/fuzzy/Trapezoid" [("com/example/hazeline/hazeline/fuzzy/Trapezoid", "a", "D", .double q0), ("com/example/hazeline/hazeline/fuzzy/Trapezoid", "b", "D", .double q1), ("com/example/hazeline/hazeline/fuzzy/Trapezoid", "c", "D", .double q2), ("com/example/hazeline/hazeline/fuzzy/Trapezoid", "d", "D", .double q3)])] _ _ at Hea1_3
  obtain ⟨Tea1_4, Hea1_4, stea1_4⟩ := own_getF Hea1_3 hx hZ hown (hw _ (List.mem_of_getElem? (i := 22) rfl)) 1 0 rfl rfl (g := (mkF m 19 #[.val (.ref x1), .val (.ref x2), .val (.ref x2)] [(.ref x2), (.double p0)])) rfl rfl (hb hby d7_19)
  change own_S _ _ _ _ _ _ _ _ _ _ _ _ _ _ [(x1, own_O "com/example/hazeline/hazeline/fuzzy/Trapezoid" [("com/example/hazeline/hazeline/fuzzy/Trapezoid", "a", "D", .double p0), ("com/example/hazeline/hazeline/fuzzy/Trapezoid", "b", "D", .double p1), ("com/example/hazeline/hazeline/fuzzy/Trapezoid", "c", "D", .double p2), ("com/example/hazeline/hazeline/fuzzy/Trapezoid", "d", "D", .double p3)]), (x2, own_O "com/example/hazeline/hazeline/fuzzy/Trapezoid" [("com/example/hazeline/hazeline/fuzzy/Trapezoid", "a", "D", .double q0), ("com/example/hazeline/hazeline/fuzzy/Trapezoid", "b", "D", .double q1), ("com/example/hazeline/hazeline/fuzzy/Trapezoid", "c", "D", .double q2), ("com/example/hazeline/hazeline/fuzzy/Trapezoid", "d", "D", .double q3)])] _ _ at Hea1_4
  obtain ⟨Tea1_5, vea1_5_, csea1_5_, qea1_5, Hea1_5, stea1_5⟩ := own_callS Hea1_4 hx hZ hown (hw _ (List.mem_of_getElem? (i := 40) rfl)) (hw _ (List.mem_of_getElem? (i := 41) rfl)) (hw _ (List.mem_of_getElem? (i := 15) rfl)) (hw _ (List.mem_of_getElem? (i := 42) rfl)) (by decide) (argsL := [(.double p0), (.double q0)]) (rest := []) (W := 0) (own_cmp0 l Z a0 hb0 hw p0 q0 _ _ _ i0 j0 e0) (by decide) (by decide) (by decide) (by decide) (g := (mkF m 22 #[.val (.ref x1), .val (.ref x2), .val (.ref x2)] [(.double q0), (.double p0)])) rfl (by rw [hml]; rfl) (lenOf own_pd7 rfl) rfl (by show 2 * 0 + _ ≤ _; exact Nat.le_of_eq rfl) (hb hby d7_22)
  obtain ⟨rfl, rfl⟩ := qea1_5
  change own_S _ _ _ _ _ _ _ _ _ _ _ _ _ _ [(x1, own_O "com/example/hazeline/hazeline/fuzzy/Trapezoid" [("com/example/hazeline/hazeline/fuzzy/Trapezoid", "a", "D", .double p0), ("com/example/hazeline/hazeline/fuzzy/Trapezoid", "b", "D", .double p1), ("com/example/hazeline/hazeline/fuzzy/Trapezoid", "c", "D", .double p2), ("com/example/hazeline/hazeline/fuzzy/Trapezoid", "d", "D", .double p3)]), (x2, own_O "com/example/hazeline/hazeline/fuzzy/Trapezoid" [("com/example/hazeline/hazeline/fuzzy/Trapezoid", "a", "D", .double q0), ("com/example/hazeline/hazeline/fuzzy/Trapezoid", "b", "D", .double q1), ("com/example/hazeline/hazeline/fuzzy/Trapezoid", "c", "D", .double q2), ("com/example/hazeline/hazeline/fuzzy/Trapezoid", "d", "D", .double q3)])] _ _ at Hea1_5
  obtain ⟨Tea1_6, Hea1_6, stea1_6⟩ := own_getF Hea1_5 hx hZ hown (hw _ (List.mem_of_getElem? (i := 24) rfl)) 0 1 rfl rfl (g := (mkF m 29 #[.val (.ref x1), .val (.ref x2), .val (.ref x2)] [(.ref x1)])) rfl rfl (hb hby d7_29)
  change own_S _ _ _ _ _ _ _ _ _ _ _ _ _ _ [(x1, own_O "com/example/hazeline/hazeline/fuzzy/Trapezoid" [("com/example/hazeline/hazeline/fuzzy/Trapezoid", "a", "D", .double p0), ("com/example/hazeline/hazeline/fuzzy/Trapezoid", "b", "D", .double p1), ("com/example/hazeline/hazeline/fuzzy/Trapezoid", "c", "D", .double p2), ("com/example/hazeline/hazeline/fuzzy/Trapezoid", "d", "D", .double p3)]), (x2, own_O "com/example/hazeline/hazeline/fuzzy/Trapezoid" [("com/example/hazeline/hazeline/fuzzy/Trapezoid", "a", "D", .double q0), ("com/example/hazeline/hazeline/fuzzy/Trapezoid", "b", "D", .double q1), ("com/example/hazeline/hazeline/fuzzy/Trapezoid", "c", "D", .double q2), ("com/example/hazeline/hazeline/fuzzy/Trapezoid", "d", "D", .double q3)])] _ _ at Hea1_6
  obtain ⟨Tea1_7, Hea1_7, stea1_7⟩ := own_getF Hea1_6 hx hZ hown (hw _ (List.mem_of_getElem? (i := 24) rfl)) 1 1 rfl rfl (g := (mkF m 33 #[.val (.ref x1), .val (.ref x2), .val (.ref x2)] [(.ref x2), (.double p1)])) rfl rfl (hb hby d7_33)
  change own_S _ _ _ _ _ _ _ _ _ _ _ _ _ _ [(x1, own_O "com/example/hazeline/hazeline/fuzzy/Trapezoid" [("com/example/hazeline/hazeline/fuzzy/Trapezoid", "a", "D", .double p0), ("com/example/hazeline/hazeline/fuzzy/Trapezoid", "b", "D", .double p1), ("com/example/hazeline/hazeline/fuzzy/Trapezoid", "c", "D", .double p2), ("com/example/hazeline/hazeline/fuzzy/Trapezoid", "d", "D", .double p3)]), (x2, own_O "com/example/hazeline/hazeline/fuzzy/Trapezoid" [("com/example/hazeline/hazeline/fuzzy/Trapezoid", "a", "D", .double q0), ("com/example/hazeline/hazeline/fuzzy/Trapezoid", "b", "D", .double q1), ("com/example/hazeline/hazeline/fuzzy/Trapezoid", "c", "D", .double q2), ("com/example/hazeline/hazeline/fuzzy/Trapezoid", "d", "D", .double q3)])] _ _ at Hea1_7
  obtain ⟨Tea1_8, vea1_8_, csea1_8_, qea1_8, Hea1_8, stea1_8⟩ := own_callS Hea1_7 hx hZ hown (hw _ (List.mem_of_getElem? (i := 40) rfl)) (hw _ (List.mem_of_getElem? (i := 41) rfl)) (hw _ (List.mem_of_getElem? (i := 15) rfl)) (hw _ (List.mem_of_getElem? (i := 42) rfl)) (by decide) (argsL := [(.double p1), (.double q1)]) (rest := []) (W := 0) (own_cmp1 l Z a0 hb0 hw p1 q1 _ _ _ i1 j1 e1) (by decide) (by decide) (by decide) (by decide) (g := (mkF m 36 #[.val (.ref x1), .val (.ref x2), .val (.ref x2)] [(.double q1), (.double p1)])) rfl (by rw [hml]; rfl) (lenOf own_pd7 rfl) rfl (by show 2 * 0 + _ ≤ _; exact Nat.le_of_eq rfl) (hb hby d7_36)
  obtain ⟨zz, hzz, rfl, rfl⟩ := qea1_8
  change own_S _ _ _ _ _ _ _ _ _ _ _ _ _ _ [(x1, own_O "com/example/hazeline/hazeline/fuzzy/Trapezoid" [("com/example/hazeline/hazeline/fuzzy/Trapezoid", "a", "D", .double p0), ("com/example/hazeline/hazeline/fuzzy/Trapezoid", "b", "D", .double p1), ("com/example/hazeline/hazeline/fuzzy/Trapezoid", "c", "D", .double p2), ("com/example/hazeline/hazeline/fuzzy/Trapezoid", "d", "D", .double p3)]), (x2, own_O "com/example/hazeline/hazeline/fuzzy/Trapezoid" [("com/example/hazeline/hazeline/fuzzy/Trapezoid", "a", "D", .double q0), ("com/example/hazeline/hazeline/fuzzy/Trapezoid", "b", "D", .double q1), ("com/example/hazeline/hazeline/fuzzy/Trapezoid", "c", "D", .double q2), ("com/example/hazeline/hazeline/fuzzy/Trapezoid", "d", "D", .double q3)])] _ _ at Hea1_8
  have hb39 : ifCond.holds .ne zz = true := by rw [own_z_ne]; exact decide_eq_true hzz
  refine ⟨_, _, _, _, 75, #[.val (.ref x1), .val (.ref x2), .val (.ref x2)], Hea1_8, by decide, by decide, Or.inr ⟨.boolean, (.int (0 : Int32)), [], .ireturn, rfl, ⟨rfl, rfl⟩, d7_75, own_retZ (Or.inl rfl), fun target q => ?_⟩⟩
  refine own_go H0 hx hZ hown hby hw own_K7_ok (own_ea1_0 x1 x2) _ ?_
  refine stea1_1 _ ?_
  refine own_go Hea1_1 hx hZ hown hby hw own_K7_ok (own_ea1_1 x1 x2) _ ?_
  refine stea1_2 _ ?_
  refine own_go Hea1_2 hx hZ hown hby hw own_K7_ok (own_ea1_2 x1 x2) _ ?_
  refine stea1_3 _ ?_
  refine own_go Hea1_3 hx hZ hown hby hw own_K7_ok (own_ea1_3 x1 x2 p0) _ ?_
  refine stea1_4 _ ?_
  refine stea1_5 _ ?_
  refine own_go Hea1_5 hx hZ hown hby hw own_K7_ok (own_ea1_4 x1 x2) _ ?_
  refine stea1_6 _ ?_
  refine own_go Hea1_6 hx hZ hown hby hw own_K7_ok (own_ea1_5 x1 x2 p1) _ ?_
  refine stea1_7 _ ?_
  refine stea1_8 _ ?_
  refine own_go Hea1_8 hx hZ hown hby hw own_K7_ok (own_ea1_6 x1 x2 zz hb39) _ ?_
  exact q
theorem own_ea2_0 (x1 : Addr) (x2 : Addr) :
    own_Go own_K7 prog_5_method_14_code 0 #[.val (.ref x1), .val (.ref x2), .unset] [] 1 #[.val (.ref x1), .val (.ref x2), .unset] [(.ref x2)] := by
  refine own_aloadN (pc2 := 1) d7_0 rfl rfl rfl ?_
  exact own_refl
theorem own_ea2_1 (x1 : Addr) (x2 : Addr) :
    own_Go own_K7 prog_5_method_14_code 4 #[.val (.ref x1), .val (.ref x2), .unset] [(.int (1 : Int32))] 10 #[.val (.ref x1), .val (.ref x2), .unset] [(.ref x2)] := by
  refine own_ifYes (pc' := 9) d7_4 (by decide) (by decide) (by decide) ?_
  refine own_aloadN (pc2 := 10) d7_9 rfl rfl rfl ?_
  exact own_refl
theorem own_ea2_2 (x1 : Addr) (x2 : Addr) :
    own_Go own_K7 prog_5_method_14_code 13 #[.val (.ref x1), .val (.ref x2), .unset] [(.ref x2)] 15 #[.val (.ref x1), .val (.ref x2), .val (.ref x2)] [(.ref x1)] := by
  refine own_astoreN (pc2 := 14) d7_13 rfl rfl (L' := #[.val (.ref x1), .val (.ref x2), .val (.ref x2)]) rfl ?_
  refine own_aloadN (pc2 := 15) d7_14 rfl rfl rfl ?_
  exact own_refl
theorem own_ea2_3 (x1 : Addr) (x2 : Addr) (p0 : UInt64) :
    own_Go own_K7 prog_5_method_14_code 18 #[.val (.ref x1), .val (.ref x2), .val (.ref x2)] [(.double p0)] 19 #[.val (.ref x1), .val (.ref x2), .val (.ref x2)] [(.ref x2), (.double p0)] := by
  refine own_aloadN (pc2 := 19) d7_18 rfl rfl rfl ?_
  exact own_refl
theorem own_ea2_4 (x1 : Addr) (x2 : Addr) :
    own_Go own_K7 prog_5_method_14_code 25 #[.val (.ref x1), .val (.ref x2), .val (.ref x2)] [(.int (0 : Int32))] 29 #[.val (.ref x1), .val (.ref x2), .val (.ref x2)] [(.ref x1)] := by
  refine own_ifNo (pc2 := 28) d7_25 rfl (by decide) ?_
  refine own_aloadN (pc2 := 29) d7_28 rfl rfl rfl ?_
  exact own_refl
theorem own_ea2_5 (x1 : Addr) (x2 : Addr) (p1 : UInt64) :
    own_Go own_K7 prog_5_method_14_code 32 #[.val (.ref x1), .val (.ref x2), .val (.ref x2)] [(.double p1)] 33 #[.val (.ref x1), .val (.ref x2), .val (.ref x2)] [(.ref x2), (.double p1)] := by
  refine own_aloadN (pc2 := 33) d7_32 rfl rfl rfl ?_
  exact own_refl
theorem own_ea2_6 (x1 : Addr) (x2 : Addr) :
    own_Go own_K7 prog_5_method_14_code 39 #[.val (.ref x1), .val (.ref x2), .val (.ref x2)] [(.int (0 : Int32))] 43 #[.val (.ref x1), .val (.ref x2), .val (.ref x2)] [(.ref x1)] := by
  refine own_ifNo (pc2 := 42) d7_39 rfl (by decide) ?_
  refine own_aloadN (pc2 := 43) d7_42 rfl rfl rfl ?_
  exact own_refl
theorem own_ea2_7 (x1 : Addr) (x2 : Addr) (p2 : UInt64) :
    own_Go own_K7 prog_5_method_14_code 46 #[.val (.ref x1), .val (.ref x2), .val (.ref x2)] [(.double p2)] 47 #[.val (.ref x1), .val (.ref x2), .val (.ref x2)] [(.ref x2), (.double p2)] := by
  refine own_aloadN (pc2 := 47) d7_46 rfl rfl rfl ?_
  exact own_refl
theorem own_ea2_8 (x1 : Addr) (x2 : Addr) (zz : Int32) (hb53 : ifCond.holds .ne zz = true) :
    own_Go own_K7 prog_5_method_14_code 53 #[.val (.ref x1), .val (.ref x2), .val (.ref x2)] [(.int zz)] 75 #[.val (.ref x1), .val (.ref x2), .val (.ref x2)] [(.int (0 : Int32))] := by
  refine own_ifYes (pc' := 74) d7_53 hb53 (by decide) (by decide) ?_
  refine own_iconst (v := 0) (pc2 := 75) d7_74 rfl rfl ?_
  exact own_refl
set_option maxRecDepth 65536 in
set_option maxHeartbeats 4000000 in
theorem own_eqa2 (l : Launch) (Z : State) (a0 : Array Value) (hb0 : own_Base) (hw : ∀ d ∈ tables_1, d.before a0 Z = true) (x1 : Addr) (x2 : Addr)  (p0 p1 p2 p3 q0 q1 q2 q3 : UInt64) (R0 S0 : Rat) (i0 : own_is p0 R0) (j0 : own_is q0 S0) (e0 : p0 = q0) (R1 S1 : Rat) (i1 : own_is p1 R1) (j1 : own_is q1 S1) (e1 : p1 = q1) (R2 S2 : Rat) (i2 : own_is p2 R2) (j2 : own_is q2 S2) (e2 : p2 ≠ q2) :
    own_Met l Z a0 hb0 (⟨"com/example/hazeline/hazeline/fuzzy/Trapezoid", "equals", "(Ljava/lang/Object;)Z"⟩ : MethodName) prog_5_method_14_code 3 (some .boolean) [] ({ frames := 3, cells := 0, slots := 0, locals := 90 } : Room) #[(.ref x1), (.ref x2)] [(x1, own_O "com/example/hazeline/hazeline/fuzzy/Trapezoid" [("com/example/hazeline/hazeline/fuzzy/Trapezoid", "a", "D", .double p0), ("com/example/hazeline/hazeline/fuzzy/Trapezoid", "b", "D", .double p1), ("com/example/hazeline/hazeline/fuzzy/Trapezoid", "c", "D", .double p2), ("com/example/hazeline/hazeline/fuzzy/Trapezoid", "d", "D", .double p3)]), (x2, own_O "com/example/hazeline/hazeline/fuzzy/Trapezoid" [("com/example/hazeline/hazeline/fuzzy/Trapezoid", "a", "D", .double q0), ("com/example/hazeline/hazeline/fuzzy/Trapezoid", "b", "D", .double q1), ("com/example/hazeline/hazeline/fuzzy/Trapezoid", "c", "D", .double q2), ("com/example/hazeline/hazeline/fuzzy/Trapezoid", "d", "D", .double q3)])] (fun r cs' => r = some (.int 0) ∧ cs' = [(x1, own_O "com/example/hazeline/hazeline/fuzzy/Trapezoid" [("com/example/hazeline/hazeline/fuzzy/Trapezoid", "a", "D", .double p0), ("com/example/hazeline/hazeline/fuzzy/Trapezoid", "b", "D", .double p1), ("com/example/hazeline/hazeline/fuzzy/Trapezoid", "c", "D", .double p2), ("com/example/hazeline/hazeline/fuzzy/Trapezoid", "d", "D", .double p3)]), (x2, own_O "com/example/hazeline/hazeline/fuzzy/Trapezoid" [("com/example/hazeline/hazeline/fuzzy/Trapezoid", "a", "D", .double q0), ("com/example/hazeline/hazeline/fuzzy/Trapezoid", "b", "D", .double q1), ("com/example/hazeline/hazeline/fuzzy/Trapezoid", "c", "D", .double q2), ("com/example/hazeline/hazeline/fuzzy/Trapezoid", "d", "D", .double q3)])]) := by
  refine own_met_of (L0 := #[.val (.ref x1), .val (.ref x2), .unset]) (plainFor_of_name own_pn7) (fun m => own_ef7 m x1 x2) ?_
  intro p e s m below meth c T0 hx hZ hown hby hml hnm H0
  obtain ⟨Tea2_1, Hea2_1, stea2_1⟩ := own_instO H0 hx hZ hown (hw _ (List.mem_of_getElem? (i := 38) rfl)) 1 rfl (g := (mkF m 1 #[.val (.ref x1), .val (.ref x2), .unset] [(.ref x2)])) rfl rfl (hb hby d7_1)
  change own_S _ _ _ _ _ _ _ _ _ _ _ _ _ _ [(x1, own_O "com/example/hazeline/hazeline/fuzzy/Trapezoid" [("com/example/hazeline/hazeline/fuzzy/Trapezoid", "a", "D", .double p0), ("com/example/hazeline/hazeline/fuzzy/Trapezoid", "b", "D", .double p1), ("com/example/hazeline/hazeline/fuzzy/Trapezoid", "c", "D", .double p2), ("com/example/hazeline/hazeline/fuzzy/Trapezoid", "d", "D", .double p3)]), (x2, own_O "com/example/hazeline/hazeline/fuzzy/Trapezoid" [("com/example/hazeline/hazeline/fuzzy/Trapezoid", "a", "D", .double q0), ("com/example/hazeline/hazeline/fuzzy/Trapezoid", "b", "D", .double q1), ("com/example/hazeline/hazeline/fuzzy/Trapezoid", "c", "D", .double q2), ("com/example/hazeline/hazeline/fuzzy/Trapezoid", "d", "D", .double q3)])] _ _ at Hea2_1
  obtain ⟨Tea2_2, Hea2_2, stea2_2⟩ := own_castO Hea2_1 hx hZ hown (hw _ (List.mem_of_getElem? (i := 38) rfl)) 1 rfl (g := (mkF m 10 #[.val (.ref x1), .val (.ref x2), .unset] [(.ref x2)])) rfl rfl (hb hby d7_10)
  change own_S _ _ _ _ _ _ _ _ _ _ _ _ _ _ [(x1, own_O "com/example/hazeline/hazeline/fuzzy/Trapezoid" [("com/example/hazeline/hazeline/fuzzy/Trapezoid", "a", "D", .double p0), ("com/example/hazeline/hazeline/fuzzy/Trapezoid", "b", "D", .double p1), ("com/example/hazeline/hazeline/fuzzy/Trapezoid", "c", "D", .double p2), ("com/example/hazeline/hazeline/fuzzy/Trapezoid", "d", "D", .double p3)]), (x2, own_O "com/example/hazeline/hazeline/fuzzy/Trapezoid" [("com/example/hazeline/hazeline/fuzzy/Trapezoid", "a", "D", .double q0), ("com/example/hazeline/hazeline/fuzzy/Trapezoid", "b", "D", .double q1), ("com/example/hazeline/hazeline/fuzzy/Trapezoid", "c", "D", .double q2), ("com/example/hazeline/hazeline/fuzzy/Trapezoid", "d", "D", .double q3)])] _ _ at Hea2_2
  obtain ⟨Tea2_3, Hea2_3, stea2_3⟩ := own_getF Hea2_2 hx hZ hown (hw _ (List.mem_of_getElem? (i := 22) rfl)) 0 0 rfl rfl (g := (mkF m 15 #[.val (.ref x1), .val (.ref x2), .val (.ref x2)] [(.ref x1)])) rfl rfl (hb hby d7_15)
  change own_S _ _ _ _ _ _ _ _ _ _ _ _ _ _ [(x1, own_O "com/example/hazeline/hazeline/fuzzy/Trapezoid" [("com/example/hazeline/hazeline/fuzzy/Trapezoid", "a", "D", .double p0), ("com/example/hazeline/hazeline/fuzzy/Trapezoid", "b", "D", .double p1), ("com/example/hazeline/hazeline/fuzzy/Trapezoid", "c", "D", .double p2), ("com/example/hazeline/hazeline/fuzzy/Trapezoid", "d", "D", .double p3)]), (x2, own_O "com/example/hazeline/hazeline/fuzzy/Trapezoid" [("com/example/hazeline/hazeline/fuzzy/Trapezoid", "a", "D", .double q0), ("com/example/hazeline/hazeline/fuzzy/Trapezoid", "b", "D", .double q1), ("com/example/hazeline/hazeline/fuzzy/Trapezoid", "c", "D", .double q2), ("com/example/hazeline/hazeline/fuzzy/Trapezoid", "d", "D", .double q3)])] _ _ at Hea2_3
  obtain ⟨Tea2_4, Hea2_4, stea2_4⟩ := own_getF Hea2_3 hx hZ hown (hw _ (List.mem_of_getElem? (i := 22) rfl)) 1 0 rfl rfl (g := (mkF m 19 #[.val (.ref x1), .val (.ref x2), .val (.ref x2)] [(.ref x2), (.double p0)])) rfl rfl (hb hby d7_19)
  change own_S _ _ _ _ _ _ _ _ _ _ _ _ _ _ [(x1, own_O "com/example/hazeline/hazeline/fuzzy/Trapezoid" [("com/example/hazeline/hazeline/fuzzy/Trapezoid", "a", "D", .double p0), ("com/example/hazeline/hazeline/fuzzy/Trapezoid", "b", "D", .double p1), ("com/example/hazeline/hazeline/fuzzy/Trapezoid", "c", "D", .double p2), ("com/example/hazeline/hazeline/fuzzy/Trapezoid", "d", "D", .double p3)]), (x2, own_O "com/example/hazeline/hazeline/fuzzy/Trapezoid" [("com/example/hazeline/hazeline/fuzzy/Trapezoid", "a", "D", .double q0), ("com/example/hazeline/hazeline/fuzzy/Trapezoid", "b", "D", .double q1), ("com/example/hazeline/hazeline/fuzzy/Trapezoid", "c", "D", .double q2), ("com/example/hazeline/hazeline/fuzzy/Trapezoid", "d", "D", .double q3)])] _ _ at Hea2_4
  obtain ⟨Tea2_5, vea2_5_, csea2_5_, qea2_5, Hea2_5, stea2_5⟩ := own_callS Hea2_4 hx hZ hown (hw _ (List.mem_of_getElem? (i := 40) rfl)) (hw _ (List.mem_of_getElem? (i := 41) rfl)) (hw _ (List.mem_of_getElem? (i := 15) rfl)) (hw _ (List.mem_of_getElem? (i := 42) rfl)) (by decide) (argsL := [(.double p0), (.double q0)]) (rest := []) (W := 0) (own_cmp0 l Z a0 hb0 hw p0 q0 _ _ _ i0 j0 e0) (by decide) (by decide) (by decide) (by decide) (g := (mkF m 22 #[.val (.ref x1), .val (.ref x2), .val (.ref x2)] [(.double q0), (.double p0)])) rfl (by rw [hml]; rfl) (lenOf own_pd7 rfl) rfl (by show 2 * 0 + _ ≤ _; exact Nat.le_of_eq rfl) (hb hby d7_22)
  obtain ⟨rfl, rfl⟩ := qea2_5
  change own_S _ _ _ _ _ _ _ _ _ _ _ _ _ _ [(x1, own_O "com/example/hazeline/hazeline/fuzzy/Trapezoid" [("com/example/hazeline/hazeline/fuzzy/Trapezoid", "a", "D", .double p0), ("com/example/hazeline/hazeline/fuzzy/Trapezoid", "b", "D", .double p1), ("com/example/hazeline/hazeline/fuzzy/Trapezoid", "c", "D", .double p2), ("com/example/hazeline/hazeline/fuzzy/Trapezoid", "d", "D", .double p3)]), (x2, own_O "com/example/hazeline/hazeline/fuzzy/Trapezoid" [("com/example/hazeline/hazeline/fuzzy/Trapezoid", "a", "D", .double q0), ("com/example/hazeline/hazeline/fuzzy/Trapezoid", "b", "D", .double q1), ("com/example/hazeline/hazeline/fuzzy/Trapezoid", "c", "D", .double q2), ("com/example/hazeline/hazeline/fuzzy/Trapezoid", "d", "D", .double q3)])] _ _ at Hea2_5
  obtain ⟨Tea2_6, Hea2_6, stea2_6⟩ := own_getF Hea2_5 hx hZ hown (hw _ (List.mem_of_getElem? (i := 24) rfl)) 0 1 rfl rfl (g := (mkF m 29 #[.val (.ref x1), .val (.ref x2), .val (.ref x2)] [(.ref x1)])) rfl rfl (hb hby d7_29)
  change own_S _ _ _ _ _ _ _ _ _ _ _ _ _ _ [(x1, own_O "com/example/hazeline/hazeline/fuzzy/Trapezoid" [("com/example/hazeline/hazeline/fuzzy/Trapezoid", "a", "D", .double p0), ("com/example/hazeline/hazeline/fuzzy/Trapezoid", "b", "D", .double p1), ("com/example/hazeline/hazeline/fuzzy/Trapezoid", "c", "D", .double p2), ("com/example/hazeline/hazeline/fuzzy/Trapezoid", "d", "D", .double p3)]), (x2, own_O "com/example/hazeline/hazeline/fuzzy/Trapezoid" [("com/example/hazeline/hazeline/fuzzy/Trapezoid", "a", "D", .double q0), ("com/example/hazeline/hazeline/fuzzy/Trapezoid", "b", "D", .double q1), ("com/example/hazeline/hazeline/fuzzy/Trapezoid", "c", "D", .double q2), ("com/example/hazeline/hazeline/fuzzy/Trapezoid", "d", "D", .double q3)])] _ _ at Hea2_6
  obtain ⟨Tea2_7, Hea2_7, stea2_7⟩ := own_getF Hea2_6 hx hZ hown (hw _ (List.mem_of_getElem? (i := 24) rfl)) 1 1 rfl rfl (g := (mkF m 33 #[.val (.ref x1), .val (.ref x2), .val (.ref x2)] [(.ref x2), (.double p1)])) rfl rfl (hb hby d7_33)
  change own_S _ _ _ _ _ _ _ _ _ _ _ _ _ _ [(x1, own_O "com/example/hazeline/hazeline/fuzzy/Trapezoid" [("com/example/hazeline/hazeline/fuzzy/Trapezoid", "a", "D", .double p0), ("com/example/hazeline/hazeline/fuzzy/Trapezoid", "b", "D", .double p1), ("com/example/hazeline/hazeline/fuzzy/Trapezoid", "c", "D", .double p2), ("com/example/hazeline/hazeline/fuzzy/Trapezoid", "d", "D", .double p3)]), (x2, own_O "com/example/hazeline/hazeline/fuzzy/Trapezoid" [("com/example/hazeline/hazeline/fuzzy/Trapezoid", "a", "D", .double q0), ("com/example/hazeline/hazeline/fuzzy/Trapezoid", "b", "D", .double q1), ("com/example/hazeline/hazeline/fuzzy/Trapezoid", "c", "D", .double q2), ("com/example/hazeline/hazeline/fuzzy/Trapezoid", "d", "D", .double q3)])] _ _ at Hea2_7
  obtain ⟨Tea2_8, vea2_8_, csea2_8_, qea2_8, Hea2_8, stea2_8⟩ := own_callS Hea2_7 hx hZ hown (hw _ (List.mem_of_getElem? (i := 40) rfl)) (hw _ (List.mem_of_getElem? (i := 41) rfl)) (hw _ (List.mem_of_getElem? (i := 15) rfl)) (hw _ (List.mem_of_getElem? (i := 42) rfl)) (by decide) (argsL := [(.double p1), (.double q1)]) (rest := []) (W := 0) (own_cmp0 l Z a0 hb0 hw p1 q1 _ _ _ i1 j1 e1) (by decide) (by decide) (by decide) (by decide) (g := (mkF m 36 #[.val (.ref x1), .val (.ref x2), .val (.ref x2)] [(.double q1), (.double p1)])) rfl (by rw [hml]; rfl) (lenOf own_pd7 rfl) rfl (by show 2 * 0 + _ ≤ _; exact Nat.le_of_eq rfl) (hb hby d7_36)
  obtain ⟨rfl, rfl⟩ := qea2_8
  change own_S _ _ _ _ _ _ _ _ _ _ _ _ _ _ [(x1, own_O "com/example/hazeline/hazeline/fuzzy/Trapezoid" [("com/example/hazeline/hazeline/fuzzy/Trapezoid", "a", "D", .double p0), ("com/example/hazeline/hazeline/fuzzy/Trapezoid", "b", "D", .double p1), ("com/example/hazeline/hazeline/fuzzy/Trapezoid", "c", "D", .double p2), ("com/example/hazeline/hazeline/fuzzy/Trapezoid", "d", "D", .double p3)]), (x2, own_O "com/example/hazeline/hazeline/fuzzy/Trapezoid" [("com/example/hazeline/hazeline/fuzzy/Trapezoid", "a", "D", .double q0), ("com/example/hazeline/hazeline/fuzzy/Trapezoid", "b", "D", .double q1), ("com/example/hazeline/hazeline/fuzzy/Trapezoid", "c", "D", .double q2), ("com/example/hazeline/hazeline/fuzzy/Trapezoid", "d", "D", .double q3)])] _ _ at Hea2_8
  obtain ⟨Tea2_9, Hea2_9, stea2_9⟩ := own_getF Hea2_8 hx hZ hown (hw _ (List.mem_of_getElem? (i := 26) rfl)) 0 2 rfl rfl (g := (mkF m 43 #[.val (.ref x1), .val (.ref x2), .val (.ref x2)] [(.ref x1)])) rfl rfl (hb hby d7_43)
  change own_S _ _ _ _ _ _ _ _ _ _ _ _ _ _ [(x1, own_O "com/example/hazeline/hazeline/fuzzy/Trapezoid" [("com/example/hazeline/hazeline/fuzzy/Trapezoid", "a", "D", .double p0), ("com/example/hazeline/hazeline/fuzzy/Trapezoid", "b", "D", .double p1), ("com/example/hazeline/hazeline/fuzzy/Trapezoid", "c", "D", .double p2), ("com/example/hazeline/hazeline/fuzzy/Trapezoid", "d", "D", .double p3)]), (x2, own_O "com/example/hazeline/hazeline/fuzzy/Trapezoid" [("com/example/hazeline/hazeline/fuzzy/Trapezoid", "a", "D", .double q0), ("com/example/hazeline/hazeline/fuzzy/Trapezoid", "b", "D", .double q1), ("com/example/hazeline/hazeline/fuzzy/Trapezoid", "c", "D", .double q2), ("com/example/hazeline/hazeline/fuzzy/Trapezoid", "d", "D", .double q3)])] _ _ at Hea2_9
  obtain ⟨Tea2_10, Hea2_10, stea2_10⟩ := own_getF Hea2_9 hx hZ hown (hw _ (List.mem_of_getElem? (i := 26) rfl)) 1 2 rfl rfl (g := (mkF m 47 #[.val (.ref x1), .val (.ref x2), .val (.ref x2)] [(.ref x2), (.double p2)])) rfl rfl (hb hby d7_47)
  change own_S _ _ _ _ _ _ _ _ _ _ _ _ _ _ [(x1, own_O "com/example/hazeline/hazeline/fuzzy/Trapezoid" [("com/example/hazeline/hazeline/fuzzy/Trapezoid", "a", "D", .double p0), ("com/example/hazeline/hazeline/fuzzy/Trapezoid", "b", "D", .double p1), ("com/example/hazeline/hazeline/fuzzy/Trapezoid", "c", "D", .double p2), ("com/example/hazeline/hazeline/fuzzy/Trapezoid", "d", "D", .double p3)]), (x2, own_O "com/example/hazeline/hazeline/fuzzy/Trapezoid" [("com/example/hazeline/hazeline/fuzzy/Trapezoid", "a", "D", .double q0), ("com/example/hazeline/hazeline/fuzzy/Trapezoid", "b", "D", .double q1), ("com/example/hazeline/hazeline/fuzzy/Trapezoid", "c", "D", .double q2), ("com/example/hazeline/hazeline/fuzzy/Trapezoid", "d", "D", .double q3)])] _ _ at Hea2_10
  obtain ⟨Tea2_11, vea2_11_, csea2_11_, qea2_11, Hea2_11, stea2_11⟩ := own_callS Hea2_10 hx hZ hown (hw _ (List.mem_of_getElem? (i := 40) rfl)) (hw _ (List.mem_of_getElem? (i := 41) rfl)) (hw _ (List.mem_of_getElem? (i := 15) rfl)) (hw _ (List.mem_of_getElem? (i := 42) rfl)) (by decide) (argsL := [(.double p2), (.double q2)]) (rest := []) (W := 0) (own_cmp1 l Z a0 hb0 hw p2 q2 _ _ _ i2 j2 e2) (by decide) (by decide) (by decide) (by decide) (g := (mkF m 50 #[.val (.ref x1), .val (.ref x2), .val (.ref x2)] [(.double q2), (.double p2)])) rfl (by rw [hml]; rfl) (lenOf own_pd7 rfl) rfl (by show 2 * 0 + _ ≤ _; exact Nat.le_of_eq rfl) (hb hby d7_50)
  obtain ⟨zz, hzz, rfl, rfl⟩ := qea2_11
  change own_S _ _ _ _ _ _ _ _ _ _ _ _ _ _ [(x1, own_O "com/example/hazeline/hazeline/fuzzy/Trapezoid" [("com/example/hazeline/hazeline/fuzzy/Trapezoid", "a", "D", .double p0), ("com/example/hazeline/hazeline/fuzzy/Trapezoid", "b", "D", .double p1), ("com/example/hazeline/hazeline/fuzzy/Trapezoid", "c", "D", .double p2), ("com/example/hazeline/hazeline/fuzzy/Trapezoid", "d", "D", .double p3)]), (x2, own_O "com/example/hazeline/hazeline/fuzzy/Trapezoid" [("com/example/hazeline/hazeline/fuzzy/Trapezoid", "a", "D", .double q0), ("com/example/hazeline/hazeline/fuzzy/Trapezoid", "b", "D", .double q1), ("com/example/hazeline/hazeline/fuzzy/Trapezoid", "c", "D", .double q2), ("com/example/hazeline/hazeline/fuzzy/Trapezoid", "d", "D", .double q3)])] _ _ at Hea2_11
  have hb53 : ifCond.holds .ne zz = true := by rw [own_z_ne]; exact decide_eq_true hzz
  refine ⟨_, _, _, _, 75, #[.val (.ref x1), .val (.ref x2), .val (.ref x2)], Hea2_11, by decide, by decide, Or.inr ⟨.boolean, (.int (0 : Int32)), [], .ireturn, rfl, ⟨rfl, rfl⟩, d7_75, own_retZ (Or.inl rfl), fun target q => ?_⟩⟩
  refine own_go H0 hx hZ hown hby hw own_K7_ok (own_ea2_0 x1 x2) _ ?_
  refine stea2_1 _ ?_
  refine own_go Hea2_1 hx hZ hown hby hw own_K7_ok (own_ea2_1 x1 x2) _ ?_
  refine stea2_2 _ ?_
  refine own_go Hea2_2 hx hZ hown hby hw own_K7_ok (own_ea2_2 x1 x2) _ ?_
  refine stea2_3 _ ?_
  refine own_go Hea2_3 hx hZ hown hby hw own_K7_ok (own_ea2_3 x1 x2 p0) _ ?_
  refine stea2_4 _ ?_
  refine stea2_5 _ ?_
  refine own_go Hea2_5 hx hZ hown hby hw own_K7_ok (own_ea2_4 x1 x2) _ ?_
  refine stea2_6 _ ?_
  refine own_go Hea2_6 hx hZ hown hby hw own_K7_ok (own_ea2_5 x1 x2 p1) _ ?_
  refine stea2_7 _ ?_
  refine stea2_8 _ ?_
  refine own_go Hea2_8 hx hZ hown hby hw own_K7_ok (own_ea2_6 x1 x2) _ ?_
  refine stea2_9 _ ?_
  refine own_go Hea2_9 hx hZ hown hby hw own_K7_ok (own_ea2_7 x1 x2 p2) _ ?_
  refine stea2_10 _ ?_
  refine stea2_11 _ ?_
  refine own_go Hea2_11 hx hZ hown hby hw own_K7_ok (own_ea2_8 x1 x2 zz hb53) _ ?_
  exact q
theorem own_ea3_0 (x1 : Addr) (x2 : Addr) :
    own_Go own_K7 prog_5_method_14_code 0 #[.val (.ref x1), .val (.ref x2), .unset] [] 1 #[.val (.ref x1), .val (.ref x2), .unset] [(.ref x2)] := by
  refine own_aloadN (pc2 := 1) d7_0 rfl rfl rfl ?_
  exact own_refl
theorem own_ea3_1 (x1 : Addr) (x2 : Addr) :
    own_Go own_K7 prog_5_method_14_code 4 #[.val (.ref x1), .val (.ref x2), .unset] [(.int (1 : Int32))] 10 #[.val (.ref x1), .val (.ref x2), .unset] [(.ref x2)] := by
  refine own_ifYes (pc' := 9) d7_4 (by decide) (by decide) (by decide) ?_
  refine own_aloadN (pc2 := 10) d7_9 rfl rfl rfl ?_
  exact own_refl
theorem own_ea3_2 (x1 : Addr) (x2 : Addr) :
    own_Go own_K7 prog_5_method_14_code 13 #[.val (.ref x1), .val (.ref x2), .unset] [(.ref x2)] 15 #[.val (.ref x1), .val (.ref x2), .val (.ref x2)] [(.ref x1)] := by
  refine own_astoreN (pc2 := 14) d7_13 rfl rfl (L' := #[.val (.ref x1), .val (.ref x2), .val (.ref x2)]) rfl ?_
  refine own_aloadN (pc2 := 15) d7_14 rfl rfl rfl ?_
  exact own_refl
theorem own_ea3_3 (x1 : Addr) (x2 : Addr) (p0 : UInt64) :
    own_Go own_K7 prog_5_method_14_code 18 #[.val (.ref x1), .val (.ref x2), .val (.ref x2)] [(.double p0)] 19 #[.val (.ref x1), .val (.ref x2), .val (.ref x2)] [(.ref x2), (.double p0)] := by
  refine own_aloadN (pc2 := 19) d7_18 rfl rfl rfl ?_
  exact own_refl
theorem own_ea3_4 (x1 : Addr) (x2 : Addr) :
    own_Go own_K7 prog_5_method_14_code 25 #[.val (.ref x1), .val (.ref x2), .val (.ref x2)] [(.int (0 : Int32))] 29 #[.val (.ref x1), .val (.ref x2), .val (.ref x2)] [(.ref x1)] := by
  refine own_ifNo (pc2 := 28) d7_25 rfl (by decide) ?_
  refine own_aloadN (pc2 := 29) d7_28 rfl rfl rfl ?_
  exact own_refl
theorem own_ea3_5 (x1 : Addr) (x2 : Addr) (p1 : UInt64) :
    own_Go own_K7 prog_5_method_14_code 32 #[.val (.ref x1), .val (.ref x2), .val (.ref x2)] [(.double p1)] 33 #[.val (.ref x1), .val (.ref x2), .val (.ref x2)] [(.ref x2), (.double p1)] := by
  refine own_aloadN (pc2 := 33) d7_32 rfl rfl rfl ?_
  exact own_refl
theorem own_ea3_6 (x1 : Addr) (x2 : Addr) :
    own_Go own_K7 prog_5_method_14_code 39 #[.val (.ref x1), .val (.ref x2), .val (.ref x2)] [(.int (0 : Int32))] 43 #[.val (.ref x1), .val (.ref x2), .val (.ref x2)] [(.ref x1)] := by
  refine own_ifNo (pc2 := 42) d7_39 rfl (by decide) ?_
  refine own_aloadN (pc2 := 43) d7_42 rfl rfl rfl ?_
  exact own_refl
theorem own_ea3_7 (x1 : Addr) (x2 : Addr) (p2 : UInt64) :
    own_Go own_K7 prog_5_method_14_code 46 #[.val (.ref x1), .val (.ref x2), .val (.ref x2)] [(.double p2)] 47 #[.val (.ref x1), .val (.ref x2), .val (.ref x2)] [(.ref x2), (.double p2)] := by
  refine own_aloadN (pc2 := 47) d7_46 rfl rfl rfl ?_
  exact own_refl
theorem own_ea3_8 (x1 : Addr) (x2 : Addr) :
    own_Go own_K7 prog_5_method_14_code 53 #[.val (.ref x1), .val (.ref x2), .val (.ref x2)] [(.int (0 : Int32))] 57 #[.val (.ref x1), .val (.ref x2), .val (.ref x2)] [(.ref x1)] := by
  refine own_ifNo (pc2 := 56) d7_53 rfl (by decide) ?_
  refine own_aloadN (pc2 := 57) d7_56 rfl rfl rfl ?_
  exact own_refl
theorem own_ea3_9 (x1 : Addr) (x2 : Addr) (p3 : UInt64) :
    own_Go own_K7 prog_5_method_14_code 60 #[.val (.ref x1), .val (.ref x2), .val (.ref x2)] [(.double p3)] 61 #[.val (.ref x1), .val (.ref x2), .val (.ref x2)] [(.ref x2), (.double p3)] := by
  refine own_aloadN (pc2 := 61) d7_60 rfl rfl rfl ?_
  exact own_refl
theorem own_ea3_10 (x1 : Addr) (x2 : Addr) (zz : Int32) (hb67 : ifCond.holds .ne zz = true) :
    own_Go own_K7 prog_5_method_14_code 67 #[.val (.ref x1), .val (.ref x2), .val (.ref x2)] [(.int zz)] 75 #[.val (.ref x1), .val (.ref x2), .val (.ref x2)] [(.int (0 : Int32))] := by
  refine own_ifYes (pc' := 74) d7_67 hb67 (by decide) (by decide) ?_
  refine own_iconst (v := 0) (pc2 := 75) d7_74 rfl rfl ?_
  exact own_refl
set_option maxRecDepth 65536 in
set_option maxHeartbeats 4000000 in
theorem own_eqa3 (l : Launch) (Z : State) (a0 : Array Value) (hb0 : own_Base) (hw : ∀ d ∈ tables_1, d.before a0 Z = true) (x1 : Addr) (x2 : Addr)  (p0 p1 p2 p3 q0 q1 q2 q3 : UInt64) (R0 S0 : Rat) (i0 : own_is p0 R0) (j0 : own_is q0 S0) (e0 : p0 = q0) (R1 S1 : Rat) (i1 : own_is p1 R1) (j1 : own_is q1 S1) (e1 : p1 = q1) (R2 S2 : Rat) (i2 : own_is p2 R2) (j2 : own_is q2 S2) (e2 : p2 = q2) (R3 S3 : Rat) (i3 : own_is p3 R3) (j3 : own_is q3 S3) (e3 : p3 ≠ q3) :
    own_Met l Z a0 hb0 (⟨"com/example/hazeline/hazeline/fuzzy/Trapezoid", "equals", "(Ljava/lang/Object;)Z"⟩ : MethodName) prog_5_method_14_code 3 (some .boolean) [] ({ frames := 3, cells := 0, slots := 0, locals := 90 } : Room) #[(.ref x1), (.ref x2)] [(x1, own_O "com/example/hazeline/hazeline/fuzzy/Trapezoid" [("com/example/hazeline/hazeline/fuzzy/Trapezoid", "a", "D", .double p0), ("com/example/hazeline/hazeline/fuzzy/Trapezoid", "b", "D", .double p1), ("com/example/hazeline/hazeline/fuzzy/Trapezoid", "c", "D", .double p2), ("com/example/hazeline/hazeline/fuzzy/Trapezoid", "d", "D", .double p3)]), (x2, own_O "com/example/hazeline/hazeline/fuzzy/Trapezoid" [("com/example/hazeline/hazeline/fuzzy/Trapezoid", "a", "D", .double q0), ("com/example/hazeline/hazeline/fuzzy/Trapezoid", "b", "D", .double q1), ("com/example/hazeline/hazeline/fuzzy/Trapezoid", "c", "D", .double q2), ("com/example/hazeline/hazeline/fuzzy/Trapezoid", "d", "D", .double q3)])] (fun r cs' => r = some (.int 0) ∧ cs' = [(x1, own_O "com/example/hazeline/hazeline/fuzzy/Trapezoid" [("com/example/hazeline/hazeline/fuzzy/Trapezoid", "a", "D", .double p0), ("com/example/hazeline/hazeline/fuzzy/Trapezoid", "b", "D", .double p1), ("com/example/hazeline/hazeline/fuzzy/Trapezoid", "c", "D", .double p2), ("com/example/hazeline/hazeline/fuzzy/Trapezoid", "d", "D", .double p3)]), (x2, own_O "com/example/hazeline/hazeline/fuzzy/Trapezoid" [("com/example/hazeline/hazeline/fuzzy/Trapezoid", "a", "D", .double q0), ("com/example/hazeline/hazeline/fuzzy/Trapezoid", "b", "D", .double q1), ("com/example/hazeline/hazeline/fuzzy/Trapezoid", "c", "D", .double q2), ("com/example/hazeline/hazeline/fuzzy/Trapezoid", "d", "D", .double q3)])]) := by
  refine own_met_of (L0 := #[.val (.ref x1), .val (.ref x2), .unset]) (plainFor_of_name own_pn7) (fun m => own_ef7 m x1 x2) ?_
  intro p e s m below meth c T0 hx hZ hown hby hml hnm H0
  obtain ⟨Tea3_1, Hea3_1, stea3_1⟩ := own_instO H0 hx hZ hown (hw _ (List.mem_of_getElem? (i := 38) rfl)) 1 rfl (g := (mkF m 1 #[.val (.ref x1), .val (.ref x2), .unset] [(.ref x2)])) rfl rfl (hb hby d7_1)
  change own_S _ _ _ _ _ _ _ _ _ _ _ _ _ _ [(x1, own_O "com/example/hazeline/hazeline/fuzzy/Trapezoid" [("com/example/hazeline/hazeline/fuzzy/Trapezoid", "a", "D", .double p0), ("com/example/hazeline/hazeline/fuzzy/Trapezoid", "b", "D", .double p1), ("com/example/hazeline/hazeline/fuzzy/Trapezoid", "c", "D", .double p2), ("com/example/hazeline/hazeline/fuzzy/Trapezoid", "d", "D", .double p3)]), (x2, own_O "com/example/hazeline/hazeline/fuzzy/Trapezoid" [("com/example/hazeline/hazeline/fuzzy/Trapezoid", "a", "D", .double q0), ("com/example/hazeline/hazeline/fuzzy/Trapezoid", "b", "D", .double q1), ("com/example/hazeline/hazeline/fuzzy/Trapezoid", "c", "D", .double q2), ("com/example/hazeline/hazeline/fuzzy/Trapezoid", "d", "D", .double q3)])] _ _ at Hea3_1
  obtain ⟨Tea3_2, Hea3_2, stea3_2⟩ := own_castO Hea3_1 hx hZ hown (hw _ (List.mem_of_getElem? (i := 38) rfl)) 1 rfl (g := (mkF m 10 #[.val (.ref x1), .val (.ref x2), .unset] [(.ref x2)])) rfl rfl (hb hby d7_10)
  change own_S _ _ _ _ _ _ _ _ _ _ _ _ _ _ [(x1, own_O "com/example/hazeline/hazeline/fuzzy/Trapezoid" [("com/example/hazeline/hazeline/fuzzy/Trapezoid", "a", "D", .double p0), ("com/example/hazeline/hazeline/fuzzy/Trapezoid", "b", "D", .double p1), ("com/example/hazeline/hazeline/fuzzy/Trapezoid", "c", "D", .double p2), ("com/example/hazeline/hazeline/fuzzy/Trapezoid", "d", "D", .double p3)]), (x2, own_O "com/example/hazeline/hazeline/fuzzy/Trapezoid" [("com/example/hazeline/hazeline/fuzzy/Trapezoid", "a", "D", .double q0), ("com/example/hazeline/hazeline/fuzzy/Trapezoid", "b", "D", .double q1), ("com/example/hazeline/hazeline/fuzzy/Trapezoid", "c", "D", .double q2), ("com/example/hazeline/hazeline/fuzzy/Trapezoid", "d", "D", .double q3)])] _ _ at Hea3_2
  obtain ⟨Tea3_3, Hea3_3, stea3_3⟩ := own_getF Hea3_2 hx hZ hown (hw _ (List.mem_of_getElem? (i := 22) rfl)) 0 0 rfl rfl (g := (mkF m 15 #[.val (.ref x1), .val (.ref x2), .val (.ref x2)] [(.ref x1)])) rfl rfl (hb hby d7_15)
  change own_S _ _ _ _ _ _ _ _ _ _ _ _ _ _ [(x1, own_O "com/example/hazeline/hazeline/fuzzy/Trapezoid" [("com/example/hazeline/hazeline/fuzzy/Trapezoid", "a", "D", .double p0), ("com/example/hazeline/hazeline/fuzzy/Trapezoid", "b", "D", .double p1), ("com/example/hazeline/hazeline/fuzzy/Trapezoid", "c", "D", .double p2), ("com/example/hazeline/hazeline/fuzzy/Trapezoid", "d", "D", .double p3)]), (x2, own_O "com/example/hazeline/hazeline/fuzzy/Trapezoid" [("com/example/hazeline/hazeline/fuzzy/Trapezoid", "a", "D", .double q0), ("com/example/hazeline/hazeline/fuzzy/Trapezoid", "b", "D", .double q1), ("com/example/hazeline/hazeline/fuzzy/Trapezoid", "c", "D", .double q2), ("com/example/hazeline/hazeline/fuzzy/Trapezoid", "d", "D", .double q3)])] _ _ at Hea3_3
  obtain ⟨Tea3_4, Hea3_4, stea3_4⟩ := own_getF Hea3_3 hx hZ hown (hw _ (List.mem_of_getElem? (i := 22) rfl)) 1 0 rfl rfl (g := (mkF m 19 #[.val (.ref x1), .val (.ref x2), .val (.ref x2)] [(.ref x2), (.double p0)])) rfl rfl (hb hby d7_19)
  change own_S _ _ _ _ _ _ _ _ _ _ _ _ _ _ [(x1, own_O "com/example/hazeline/hazeline/fuzzy/Trapezoid" [("com/example/hazeline/hazeline/fuzzy/Trapezoid", "a", "D", .double p0), ("com/example/hazeline/hazeline/fuzzy/Trapezoid", "b", "D", .double p1), ("com/example/hazeline/hazeline/fuzzy/Trapezoid", "c", "D", .double p2), ("com/example/hazeline/hazeline/fuzzy/Trapezoid", "d", "D", .double p3)]), (x2, own_O "com/example/hazeline/hazeline/fuzzy/Trapezoid" [("com/example/hazeline/hazeline/fuzzy/Trapezoid", "a", "D", .double q0), ("com/example/hazeline/hazeline/fuzzy/Trapezoid", "b", "D", .double q1), ("com/example/hazeline/hazeline/fuzzy/Trapezoid", "c", "D", .double q2), ("com/example/hazeline/hazeline/fuzzy/Trapezoid", "d", "D", .double q3)])] _ _ at Hea3_4
  obtain ⟨Tea3_5, vea3_5_, csea3_5_, qea3_5, Hea3_5, stea3_5⟩ := own_callS Hea3_4 hx hZ hown (hw _ (List.mem_of_getElem? (i := 40) rfl)) (hw _ (List.mem_of_getElem? (i := 41) rfl)) (hw _ (List.mem_of_getElem? (i := 15) rfl)) (hw _ (List.mem_of_getElem? (i := 42) rfl)) (by decide) (argsL := [(.double p0), (.double q0)]) (rest := []) (W := 0) (own_cmp0 l Z a0 hb0 hw p0 q0 _ _ _ i0 j0 e0) (by decide) (by decide) (by decide) (by decide) (g := (mkF m 22 #[.val (.ref x1), .val (.ref x2), .val (.ref x2)] [(.double q0), (.double p0)])) rfl (by rw [hml]; rfl) (lenOf own_pd7 rfl) rfl (by show 2 * 0 + _ ≤ _; exact Nat.le_of_eq rfl) (hb hby d7_22)
  obtain ⟨rfl, rfl⟩ := qea3_5
  change own_S _ _ _ _ _ _ _ _ _ _ _ _ _ _ [(x1, own_O "com/example/hazeline/hazeline/fuzzy/Trapezoid" [("com/example/hazeline/hazeline/fuzzy/Trapezoid", "a", "D", .double p0), ("com/example/hazeline/hazeline/fuzzy/Trapezoid", "b", "D", .double p1), ("com/example/hazeline/hazeline/fuzzy/Trapezoid", "c", "D", .double p2), ("com/example/hazeline/hazeline/fuzzy/Trapezoid", "d", "D", .double p3)]), (x2, own_O "com/example/hazeline/hazeline/fuzzy/Trapezoid" [("com/example/hazeline/hazeline/fuzzy/Trapezoid", "a", "D", .double q0), ("com/example/hazeline/hazeline/fuzzy/Trapezoid", "b", "D", .double q1), ("com/example/hazeline/hazeline/fuzzy/Trapezoid", "c", "D", .double q2), ("com/example/hazeline/hazeline/fuzzy/Trapezoid", "d", "D", .double q3)])] _ _ at Hea3_5
  obtain ⟨Tea3_6, Hea3_6, stea3_6⟩ := own_getF Hea3_5 hx hZ hown (hw _ (List.mem_of_getElem? (i := 24) rfl)) 0 1 rfl rfl (g := (mkF m 29 #[.val (.ref x1), .val (.ref x2), .val (.ref x2)] [(.ref x1)])) rfl rfl (hb hby d7_29)
  change own_S _ _ _ _ _ _ _ _ _ _ _ _ _ _ [(x1, own_O "com/example/hazeline/hazeline/fuzzy/Trapezoid" [("com/example/hazeline/hazeline/fuzzy/Trapezoid", "a", "D", .double p0), ("com/example/hazeline/hazeline/fuzzy/Trapezoid", "b", "D", .double p1), ("com/example/hazeline/hazeline/fuzzy/Trapezoid", "c", "D", .double p2), ("com/example/hazeline/hazeline/fuzzy/Trapezoid", "d", "D", .double p3)]), (x2, own_O "com/example/hazeline/hazeline/fuzzy/Trapezoid" [("com/example/hazeline/hazeline/fuzzy/Trapezoid", "a", "D", .double q0), ("com/example/hazeline/hazeline/fuzzy/Trapezoid", "b", "D", .double q1), ("com/example/hazeline/hazeline/fuzzy/Trapezoid", "c", "D", .double q2), ("com/example/hazeline/hazeline/fuzzy/Trapezoid", "d", "D", .double q3)])] _ _ at Hea3_6
  obtain ⟨Tea3_7, Hea3_7, stea3_7⟩ := own_getF Hea3_6 hx hZ hown (hw _ (List.mem_of_getElem? (i := 24) rfl)) 1 1 rfl rfl (g := (mkF m 33 #[.val (.ref x1), .val (.ref x2), .val (.ref x2)] [(.ref x2), (.double p1)])) rfl rfl (hb hby d7_33)
  change own_S _ _ _ _ _ _ _ _ _ _ _ _ _ _ [(x1, own_O "com/example/hazeline/hazeline/fuzzy/Trapezoid" [("com/example/hazeline/hazeline/fuzzy/Trapezoid", "a", "D", .double p0), ("com/example/hazeline/hazeline/fuzzy/Trapezoid", "b", "D", .double p1), ("com/example/hazeline/hazeline/fuzzy/Trapezoid", "c", "D", .double p2), ("com/example/hazeline/hazeline/fuzzy/Trapezoid", "d", "D", .double p3)]), (x2, own_O "com/example/hazeline/hazeline/fuzzy/Trapezoid" [("com/example/hazeline/hazeline/fuzzy/Trapezoid", "a", "D", .double q0), ("com/example/hazeline/hazeline/fuzzy/Trapezoid", "b", "D", .double q1), ("com/example/hazeline/hazeline/fuzzy/Trapezoid", "c", "D", .double q2), ("com/example/hazeline/hazeline/fuzzy/Trapezoid", "d", "D", .double q3)])] _ _ at Hea3_7
  obtain ⟨Tea3_8, vea3_8_, csea3_8_, qea3_8, Hea3_8, stea3_8⟩ := own_callS Hea3_7 hx hZ hown (hw _ (List.mem_of_getElem? (i := 40) rfl)) (hw _ (List.mem_of_getElem? (i := 41) rfl)) (hw _ (List.mem_of_getElem? (i := 15) rfl)) (hw _ (List.mem_of_getElem? (i := 42) rfl)) (by decide) (argsL := [(.double p1), (.double q1)]) (rest := []) (W := 0) (own_cmp0 l Z a0 hb0 hw p1 q1 _ _ _ i1 j1 e1) (by decide) (by decide) (by decide) (by decide) (g := (mkF m 36 #[.val (.ref x1), .val (.ref x2), .val (.ref x2)] [(.double q1), (.double p1)])) rfl (by rw [hml]; rfl) (lenOf own_pd7 rfl) rfl (by show 2 * 0 + _ ≤ _; exact Nat.le_of_eq rfl) (hb hby d7_36)
  obtain ⟨rfl, rfl⟩ := qea3_8
  change own_S _ _ _ _ _ _ _ _ _ _ _ _ _ _ [(x1, own_O "com/example/hazeline/hazeline/fuzzy/Trapezoid" [("com/example/hazeline/hazeline/fuzzy/Trapezoid", "a", "D", .double p0), ("com/example/hazeline/hazeline/fuzzy/Trapezoid", "b", "D", .double p1), ("com/example/hazeline/hazeline/fuzzy/Trapezoid", "c", "D", .double p2), ("com/example/hazeline/hazeline/fuzzy/Trapezoid", "d", "D", .double p3)]), (x2, own_O "com/example/hazeline/hazeline/fuzzy/Trapezoid" [("com/example/hazeline/hazeline/fuzzy/Trapezoid", "a", "D", .double q0), ("com/example/hazeline/hazeline/fuzzy/Trapezoid", "b", "D", .double q1), ("com/example/hazeline/hazeline/fuzzy/Trapezoid", "c", "D", .double q2), ("com/example/hazeline/hazeline/fuzzy/Trapezoid", "d", "D", .double q3)])] _ _ at Hea3_8
  obtain ⟨Tea3_9, Hea3_9, stea3_9⟩ := own_getF Hea3_8 hx hZ hown (hw _ (List.mem_of_getElem? (i := 26) rfl)) 0 2 rfl rfl (g := (mkF m 43 #[.val (.ref x1), .val (.ref x2), .val (.ref x2)] [(.ref x1)])) rfl rfl (hb hby d7_43)
  change own_S _ _ _ _ _ _ _ _ _ _ _ _ _ _ [(x1, own_O "com/example/hazeline/hazeline/fuzzy/Trapezoid" [("com/example/hazeline/hazeline/fuzzy/Trapezoid", "a", "D", .double p0), ("com/example/hazeline/hazeline/fuzzy/Trapezoid", "b", "D", .double p1), ("com/example/hazeline/hazeline/fuzzy/Trapezoid", "c", "D", .double p2), ("com/example/hazeline/hazeline/fuzzy/Trapezoid", "d", "D", .double p3)]), (x2, own_O "com/example/hazeline/hazeline/fuzzy/Trapezoid" [("com/example/hazeline/hazeline/fuzzy/Trapezoid", "a", "D", .double q0), ("com/example/hazeline/hazeline/fuzzy/Trapezoid", "b", "D", .double q1), ("com/example/hazeline/hazeline/fuzzy/Trapezoid", "c", "D", .double q2), ("com/example/hazeline/hazeline/fuzzy/Trapezoid", "d", "D", .double q3)])] _ _ at Hea3_9
  obtain ⟨Tea3_10, Hea3_10, stea3_10⟩ := own_getF Hea3_9 hx hZ hown (hw _ (List.mem_of_getElem? (i := 26) rfl)) 1 2 rfl rfl (g := (mkF m 47 #[.val (.ref x1), .val (.ref x2), .val (.ref x2)] [(.ref x2), (.double p2)])) rfl rfl (hb hby d7_47)
  change own_S _ _ _ _ _ _ _ _ _ _ _ _ _ _ [(x1, own_O "com/example/hazeline/hazeline/fuzzy/Trapezoid" [("com/example/hazeline/hazeline/fuzzy/Trapezoid", "a", "D", .double p0), ("com/example/hazeline/hazeline/fuzzy/Trapezoid", "b", "D", .double p1), ("com/example/hazeline/hazeline/fuzzy/Trapezoid", "c", "D", .double p2), ("com/example/hazeline/hazeline/fuzzy/Trapezoid", "d", "D", .double p3)]), (x2, own_O "com/example/hazeline/hazeline/fuzzy/Trapezoid" [("com/example/hazeline/hazeline/fuzzy/Trapezoid", "a", "D", .double q0), ("com/example/hazeline/hazeline/fuzzy/Trapezoid", "b", "D", .double q1), ("com/example/hazeline/hazeline/fuzzy/Trapezoid", "c", "D", .double q2), ("com/example/hazeline/hazeline/fuzzy/Trapezoid", "d", "D", .double q3)])] _ _ at Hea3_10
  obtain ⟨Tea3_11, vea3_11_, csea3_11_, qea3_11, Hea3_11, stea3_11⟩ := own_callS Hea3_10 hx hZ hown (hw _ (List.mem_of_getElem? (i := 40) rfl)) (hw _ (List.mem_of_getElem? (i := 41) rfl)) (hw _ (List.mem_of_getElem? (i := 15) rfl)) (hw _ (List.mem_of_getElem? (i := 42) rfl)) (by decide) (argsL := [(.double p2), (.double q2)]) (rest := []) (W := 0) (own_cmp0 l Z a0 hb0 hw p2 q2 _ _ _ i2 j2 e2) (by decide) (by decide) (by decide) (by decide) (g := (mkF m 50 #[.val (.ref x1), .val (.ref x2), .val (.ref x2)] [(.double q2), (.double p2)])) rfl (by rw [hml]; rfl) (lenOf own_pd7 rfl) rfl (by show 2 * 0 + _ ≤ _; exact Nat.le_of_eq rfl) (hb hby d7_50)
  obtain ⟨rfl, rfl⟩ := qea3_11
  change own_S _ _ _ _ _ _ _ _ _ _ _ _ _ _ [(x1, own_O "com/example/hazeline/hazeline/fuzzy/Trapezoid" [("com/example/hazeline/hazeline/fuzzy/Trapezoid", "a", "D", .double p0), ("com/example/hazeline/hazeline/fuzzy/Trapezoid", "b", "D", .double p1), ("com/example/hazeline/hazeline/fuzzy/Trapezoid", "c", "D", .double p2), ("com/example/hazeline/hazeline/fuzzy/Trapezoid", "d", "D", .double p3)]), (x2, own_O "com/example/hazeline/hazeline/fuzzy/Trapezoid" [("com/example/hazeline/hazeline/fuzzy/Trapezoid", "a", "D", .double q0), ("com/example/hazeline/hazeline/fuzzy/Trapezoid", "b", "D", .double q1), ("com/example/hazeline/hazeline/fuzzy/Trapezoid", "c", "D", .double q2), ("com/example/hazeline/hazeline/fuzzy/Trapezoid", "d", "D", .double q3)])] _ _ at Hea3_11
  obtain ⟨Tea3_12, Hea3_12, stea3_12⟩ := own_getF Hea3_11 hx hZ hown (hw _ (List.mem_of_getElem? (i := 28) rfl)) 0 3 rfl rfl (g := (mkF m 57 #[.val (.ref x1), .val (.ref x2), .val (.ref x2)] [(.ref x1)])) rfl rfl (hb hby d7_57)
  change own_S _ _ _ _ _ _ _ _ _ _ _ _ _ _ [(x1, own_O "com/example/hazeline/hazeline/fuzzy/Trapezoid" [("com/example/hazeline/hazeline/fuzzy/Trapezoid", "a", "D", .double p0), ("com/example/hazeline/hazeline/fuzzy/Trapezoid", "b", "D", .double p1), ("com/example/hazeline/hazeline/fuzzy/Trapezoid", "c", "D", .double p2), ("com/example/hazeline/hazeline/fuzzy/Trapezoid", "d", "D", .double p3)]), (x2, own_O "com/example/hazeline/hazeline/fuzzy/Trapezoid" [("com/example/hazeline/hazeline/fuzzy/Trapezoid", "a", "D", .double q0), ("com/example/hazeline/hazeline/fuzzy/Trapezoid", "b", "D", .double q1), ("com/example/hazeline/hazeline/fuzzy/Trapezoid", "c", "D", .double q2), ("com/example/hazeline/hazeline/fuzzy/Trapezoid", "d", "D", .double q3)])] _ _ at Hea3_12
  obtain ⟨Tea3_13, Hea3_13, stea3_13⟩ := own_getF Hea3_12 hx hZ hown (hw _ (List.mem_of_getElem? (i := 28) rfl)) 1 3 rfl rfl (g := (mkF m 61 #[.val (.ref x1), .val (.ref x2), .val (.ref x2)] [(.ref x2), (.double p3)])) rfl rfl (hb hby d7_61)
  change own_S _ _ _ _ _ _ _ _ _ _ _ _ _ _ [(x1, own_O "com/example/hazeline/hazeline/fuzzy/Trapezoid" [("com/example/hazeline/hazeline/fuzzy/Trapezoid", "a", "D", .double p0), ("com/example/hazeline/hazeline/fuzzy/Trapezoid", "b", "D", .double p1), ("com/example/hazeline/hazeline/fuzzy/Trapezoid", "c", "D", .double p2), ("com/example/hazeline/hazeline/fuzzy/Trapezoid", "d", "D", .double p3)]), (x2, own_O "com/example/hazeline/hazeline/fuzzy/Trapezoid" [("com/example/hazeline/hazeline/fuzzy/Trapezoid", "a", "D", .double q0), ("com/example/hazeline/hazeline/fuzzy/Trapezoid", "b", "D", .double q1), ("com/example/hazeline/hazeline/fuzzy/Trapezoid", "c", "D", .double q2), ("com/example/hazeline/hazeline/fuzzy/Trapezoid", "d", "D", .double q3)])] _ _ at Hea3_13
  obtain ⟨Tea3_14, vea3_14_, csea3_14_, qea3_14, Hea3_14, stea3_14⟩ := own_callS Hea3_13 hx hZ hown (hw _ (List.mem_of_getElem? (i := 40) rfl)) (hw _ (List.mem_of_getElem? (i := 41) rfl)) (hw _ (List.mem_of_getElem? (i := 15) rfl)) (hw _ (List.mem_of_getElem? (i := 42) rfl)) (by decide) (argsL := [(.double p3), (.double q3)]) (rest := []) (W := 0) (own_cmp1 l Z a0 hb0 hw p3 q3 _ _ _ i3 j3 e3) (by decide) (by decide) (by decide) (by decide) (g := (mkF m 64 #[.val (.ref x1), .val (.ref x2), .val (.ref x2)] [(.double q3), (.double p3)])) rfl (by rw [hml]; rfl) (lenOf own_pd7 rfl) rfl (by show 2 * 0 + _ ≤ _; exact Nat.le_of_eq rfl) (hb hby d7_64)
  obtain ⟨zz, hzz, rfl, rfl⟩ := qea3_14
  change own_S _ _ _ _ _ _ _ _ _ _ _ _ _ _ [(x1, own_O "com/example/hazeline/hazeline/fuzzy/Trapezoid" [("com/example/hazeline/hazeline/fuzzy/Trapezoid", "a", "D", .double p0), ("com/example/hazeline/hazeline/fuzzy/Trapezoid", "b", "D", .double p1), ("com/example/hazeline/hazeline/fuzzy/Trapezoid", "c", "D", .double p2), ("com/example/hazeline/hazeline/fuzzy/Trapezoid", "d", "D", .double p3)]), (x2, own_O "com/example/hazeline/hazeline/fuzzy/Trapezoid" [("com/example/hazeline/hazeline/fuzzy/Trapezoid", "a", "D", .double q0), ("com/example/hazeline/hazeline/fuzzy/Trapezoid", "b", "D", .double q1), ("com/example/hazeline/hazeline/fuzzy/Trapezoid", "c", "D", .double q2), ("com/example/hazeline/hazeline/fuzzy/Trapezoid", "d", "D", .double q3)])] _ _ at Hea3_14
  have hb67 : ifCond.holds .ne zz = true := by rw [own_z_ne]; exact decide_eq_true hzz
  refine ⟨_, _, _, _, 75, #[.val (.ref x1), .val (.ref x2), .val (.ref x2)], Hea3_14, by decide, by decide, Or.inr ⟨.boolean, (.int (0 : Int32)), [], .ireturn, rfl, ⟨rfl, rfl⟩, d7_75, own_retZ (Or.inl rfl), fun target q => ?_⟩⟩
  refine own_go H0 hx hZ hown hby hw own_K7_ok (own_ea3_0 x1 x2) _ ?_
  refine stea3_1 _ ?_
  refine own_go Hea3_1 hx hZ hown hby hw own_K7_ok (own_ea3_1 x1 x2) _ ?_
  refine stea3_2 _ ?_
  refine own_go Hea3_2 hx hZ hown hby hw own_K7_ok (own_ea3_2 x1 x2) _ ?_
  refine stea3_3 _ ?_
  refine own_go Hea3_3 hx hZ hown hby hw own_K7_ok (own_ea3_3 x1 x2 p0) _ ?_
  refine stea3_4 _ ?_
  refine stea3_5 _ ?_
  refine own_go Hea3_5 hx hZ hown hby hw own_K7_ok (own_ea3_4 x1 x2) _ ?_
  refine stea3_6 _ ?_
  refine own_go Hea3_6 hx hZ hown hby hw own_K7_ok (own_ea3_5 x1 x2 p1) _ ?_
  refine stea3_7 _ ?_
  refine stea3_8 _ ?_
  refine own_go Hea3_8 hx hZ hown hby hw own_K7_ok (own_ea3_6 x1 x2) _ ?_
  refine stea3_9 _ ?_
  refine own_go Hea3_9 hx hZ hown hby hw own_K7_ok (own_ea3_7 x1 x2 p2) _ ?_
  refine stea3_10 _ ?_
  refine stea3_11 _ ?_
  refine own_go Hea3_11 hx hZ hown hby hw own_K7_ok (own_ea3_8 x1 x2) _ ?_
  refine stea3_12 _ ?_
  refine own_go Hea3_12 hx hZ hown hby hw own_K7_ok (own_ea3_9 x1 x2 p3) _ ?_
  refine stea3_13 _ ?_
  refine stea3_14 _ ?_
  refine own_go Hea3_14 hx hZ hown hby hw own_K7_ok (own_ea3_10 x1 x2 zz hb67) _ ?_
  exact q
theorem own_ea4_0 (x1 : Addr) (x2 : Addr) :
    own_Go own_K7 prog_5_method_14_code 0 #[.val (.ref x1), .val (.ref x2), .unset] [] 1 #[.val (.ref x1), .val (.ref x2), .unset] [(.ref x2)] := by
  refine own_aloadN (pc2 := 1) d7_0 rfl rfl rfl ?_
  exact own_refl
theorem own_ea4_1 (x1 : Addr) (x2 : Addr) :
    own_Go own_K7 prog_5_method_14_code 4 #[.val (.ref x1), .val (.ref x2), .unset] [(.int (1 : Int32))] 10 #[.val (.ref x1), .val (.ref x2), .unset] [(.ref x2)] := by
  refine own_ifYes (pc' := 9) d7_4 (by decide) (by decide) (by decide) ?_
  refine own_aloadN (pc2 := 10) d7_9 rfl rfl rfl ?_
  exact own_refl
theorem own_ea4_2 (x1 : Addr) (x2 : Addr) :
    own_Go own_K7 prog_5_method_14_code 13 #[.val (.ref x1), .val (.ref x2), .unset] [(.ref x2)] 15 #[.val (.ref x1), .val (.ref x2), .val (.ref x2)] [(.ref x1)] := by
  refine own_astoreN (pc2 := 14) d7_13 rfl rfl (L' := #[.val (.ref x1), .val (.ref x2), .val (.ref x2)]) rfl ?_
  refine own_aloadN (pc2 := 15) d7_14 rfl rfl rfl ?_
  exact own_refl
theorem own_ea4_3 (x1 : Addr) (x2 : Addr) (p0 : UInt64) :
    own_Go own_K7 prog_5_method_14_code 18 #[.val (.ref x1), .val (.ref x2), .val (.ref x2)] [(.double p0)] 19 #[.val (.ref x1), .val (.ref x2), .val (.ref x2)] [(.ref x2), (.double p0)] := by
  refine own_aloadN (pc2 := 19) d7_18 rfl rfl rfl ?_
  exact own_refl
theorem own_ea4_4 (x1 : Addr) (x2 : Addr) :
    own_Go own_K7 prog_5_method_14_code 25 #[.val (.ref x1), .val (.ref x2), .val (.ref x2)] [(.int (0 : Int32))] 29 #[.val (.ref x1), .val (.ref x2), .val (.ref x2)] [(.ref x1)] := by
  refine own_ifNo (pc2 := 28) d7_25 rfl (by decide) ?_
  refine own_aloadN (pc2 := 29) d7_28 rfl rfl rfl ?_
  exact own_refl
theorem own_ea4_5 (x1 : Addr) (x2 : Addr) (p1 : UInt64) :
    own_Go own_K7 prog_5_method_14_code 32 #[.val (.ref x1), .val (.ref x2), .val (.ref x2)] [(.double p1)] 33 #[.val (.ref x1), .val (.ref x2), .val (.ref x2)] [(.ref x2), (.double p1)] := by
  refine own_aloadN (pc2 := 33) d7_32 rfl rfl rfl ?_
  exact own_refl
theorem own_ea4_6 (x1 : Addr) (x2 : Addr) :
    own_Go own_K7 prog_5_method_14_code 39 #[.val (.ref x1), .val (.ref x2), .val (.ref x2)] [(.int (0 : Int32))] 43 #[.val (.ref x1), .val (.ref x2), .val (.ref x2)] [(.ref x1)] := by
  refine own_ifNo (pc2 := 42) d7_39 rfl (by decide) ?_
  refine own_aloadN (pc2 := 43) d7_42 rfl rfl rfl ?_
  exact own_refl
theorem own_ea4_7 (x1 : Addr) (x2 : Addr) (p2 : UInt64) :
    own_Go own_K7 prog_5_method_14_code 46 #[.val (.ref x1), .val (.ref x2), .val (.ref x2)] [(.double p2)] 47 #[.val (.ref x1), .val (.ref x2), .val (.ref x2)] [(.ref x2), (.double p2)] := by
  refine own_aloadN (pc2 := 47) d7_46 rfl rfl rfl ?_
  exact own_refl
theorem own_ea4_8 (x1 : Addr) (x2 : Addr) :
    own_Go own_K7 prog_5_method_14_code 53 #[.val (.ref x1), .val (.ref x2), .val (.ref x2)] [(.int (0 : Int32))] 57 #[.val (.ref x1), .val (.ref x2), .val (.ref x2)] [(.ref x1)] := by
  refine own_ifNo (pc2 := 56) d7_53 rfl (by decide) ?_
  refine own_aloadN (pc2 := 57) d7_56 rfl rfl rfl ?_
  exact own_refl
theorem own_ea4_9 (x1 : Addr) (x2 : Addr) (p3 : UInt64) :
    own_Go own_K7 prog_5_method_14_code 60 #[.val (.ref x1), .val (.ref x2), .val (.ref x2)] [(.double p3)] 61 #[.val (.ref x1), .val (.ref x2), .val (.ref x2)] [(.ref x2), (.double p3)] := by
  refine own_aloadN (pc2 := 61) d7_60 rfl rfl rfl ?_
  exact own_refl
theorem own_ea4_10 (x1 : Addr) (x2 : Addr) :
    own_Go own_K7 prog_5_method_14_code 67 #[.val (.ref x1), .val (.ref x2), .val (.ref x2)] [(.int (0 : Int32))] 75 #[.val (.ref x1), .val (.ref x2), .val (.ref x2)] [(.int (1 : Int32))] := by
  refine own_ifNo (pc2 := 70) d7_67 rfl (by decide) ?_
  refine own_iconst (v := 1) (pc2 := 71) d7_70 rfl rfl ?_
  refine own_goto (pc' := 75) d7_71 (by decide) (by decide) ?_
  exact own_refl
set_option maxRecDepth 65536 in
set_option maxHeartbeats 4000000 in
theorem own_eqa4 (l : Launch) (Z : State) (a0 : Array Value) (hb0 : own_Base) (hw : ∀ d ∈ tables_1, d.before a0 Z = true) (x1 : Addr) (x2 : Addr)  (p0 p1 p2 p3 q0 q1 q2 q3 : UInt64) (R0 S0 : Rat) (i0 : own_is p0 R0) (j0 : own_is q0 S0) (e0 : p0 = q0) (R1 S1 : Rat) (i1 : own_is p1 R1) (j1 : own_is q1 S1) (e1 : p1 = q1) (R2 S2 : Rat) (i2 : own_is p2 R2) (j2 : own_is q2 S2) (e2 : p2 = q2) (R3 S3 : Rat) (i3 : own_is p3 R3) (j3 : own_is q3 S3) (e3 : p3 = q3) :
    own_Met l Z a0 hb0 (⟨"com/example/hazeline/hazeline/fuzzy/Trapezoid", "equals", "(Ljava/lang/Object;)Z"⟩ : MethodName) prog_5_method_14_code 3 (some .boolean) [] ({ frames := 3, cells := 0, slots := 0, locals := 90 } : Room) #[(.ref x1), (.ref x2)] [(x1, own_O "com/example/hazeline/hazeline/fuzzy/Trapezoid" [("com/example/hazeline/hazeline/fuzzy/Trapezoid", "a", "D", .double p0), ("com/example/hazeline/hazeline/fuzzy/Trapezoid", "b", "D", .double p1), ("com/example/hazeline/hazeline/fuzzy/Trapezoid", "c", "D", .double p2), ("com/example/hazeline/hazeline/fuzzy/Trapezoid", "d", "D", .double p3)]), (x2, own_O "com/example/hazeline/hazeline/fuzzy/Trapezoid" [("com/example/hazeline/hazeline/fuzzy/Trapezoid", "a", "D", .double q0), ("com/example/hazeline/hazeline/fuzzy/Trapezoid", "b", "D", .double q1), ("com/example/hazeline/hazeline/fuzzy/Trapezoid", "c", "D", .double q2), ("com/example/hazeline/hazeline/fuzzy/Trapezoid", "d", "D", .double q3)])] (fun r cs' => r = some (.int 1) ∧ cs' = [(x1, own_O "com/example/hazeline/hazeline/fuzzy/Trapezoid" [("com/example/hazeline/hazeline/fuzzy/Trapezoid", "a", "D", .double p0), ("com/example/hazeline/hazeline/fuzzy/Trapezoid", "b", "D", .double p1), ("com/example/hazeline/hazeline/fuzzy/Trapezoid", "c", "D", .double p2), ("com/example/hazeline/hazeline/fuzzy/Trapezoid", "d", "D", .double p3)]), (x2, own_O "com/example/hazeline/hazeline/fuzzy/Trapezoid" [("com/example/hazeline/hazeline/fuzzy/Trapezoid", "a", "D", .double q0), ("com/example/hazeline/hazeline/fuzzy/Trapezoid", "b", "D", .double q1), ("com/example/hazeline/hazeline/fuzzy/Trapezoid", "c", "D", .double q2), ("com/example/hazeline/hazeline/fuzzy/Trapezoid", "d", "D", .double q3)])]) := by
  refine own_met_of (L0 := #[.val (.ref x1), .val (.ref x2), .unset]) (plainFor_of_name own_pn7) (fun m => own_ef7 m x1 x2) ?_
  intro p e s m below meth c T0 hx hZ hown hby hml hnm H0
  obtain ⟨Tea4_1, Hea4_1, stea4_1⟩ := own_instO H0 hx hZ hown (hw _ (List.mem_of_getElem? (i := 38) rfl)) 1 rfl (g := (mkF m 1 #[.val (.ref x1), .val (.ref x2), .unset] [(.ref x2)])) rfl rfl (hb hby d7_1)
  change own_S _ _ _ _ _ _ _ _ _ _ _ _ _ _ [(x1, own_O "com/example/hazeline/hazeline/fuzzy/Trapezoid" [("com/example/hazeline/hazeline/fuzzy/Trapezoid", "a", "D", .double p0), ("com/example/hazeline/hazeline/fuzzy/Trapezoid", "b", "D", .double p1), ("com/example/hazeline/hazeline/fuzzy/Trapezoid", "c", "D", .double p2), ("com/example/hazeline/hazeline/fuzzy/Trapezoid", "d", "D", .double p3)]), (x2, own_O "com/example/hazeline/hazeline/fuzzy/Trapezoid" [("com/example/hazeline/hazeline/fuzzy/Trapezoid", "a", "D", .double q0), ("com/example/hazeline/hazeline/fuzzy/Trapezoid", "b", "D", .double q1), ("com/example/hazeline/hazeline/fuzzy/Trapezoid", "c", "D", .double q2), ("com/example/hazeline/hazeline/fuzzy/Trapezoid", "d", "D", .double q3)])] _ _ at Hea4_1
  obtain ⟨Tea4_2, Hea4_2, stea4_2⟩ := own_castO Hea4_1 hx hZ hown (hw _ (List.mem_of_getElem? (i := 38) rfl)) 1 rfl (g := (mkF m 10 #[.val (.ref x1), .val (.ref x2), .unset] [(.ref x2)])) rfl rfl (hb hby d7_10)
  change own_S _ _ _ _ _ _ _ _ _ _ _ _ _ _ [(x1, own_O "com/example/hazeline/hazeline/fuzzy/Trapezoid" [("com/example/hazeline/hazeline/fuzzy/Trapezoid", "a", "D", .double p0), ("com/example/hazeline/hazeline/fuzzy/Trapezoid", "b", "D", .double p1), ("com/example/hazeline/hazeline/fuzzy/Trapezoid", "c", "D", .double p2), ("com/example/hazeline/hazeline/fuzzy/Trapezoid", "d", "D", .double p3)]), (x2, own_O "com/example/hazeline/hazeline/fuzzy/Trapezoid" [("com/example/hazeline/hazeline/fuzzy/Trapezoid", "a", "D", .double q0), ("com/example/hazeline/hazeline/fuzzy/Trapezoid", "b", "D", .double q1), ("com/example/hazeline/hazeline/fuzzy/Trapezoid", "c", "D", .double q2), ("com/example/hazeline/hazeline/fuzzy/Trapezoid", "d", "D", .double q3)])] _ _ at Hea4_2
  obtain ⟨Tea4_3, Hea4_3, stea4_3⟩ := own_getF Hea4_2 hx hZ hown (hw _ (List.mem_of_getElem? (i := 22) rfl)) 0 0 rfl rfl (g := (mkF m 15 #[.val (.ref x1), .val (.ref x2), .val (.ref x2)] [(.ref x1)])) rfl rfl (hb hby d7_15)
  change own_S _ _ _ _ _ _ _ _ _ _ _ _ _ _ [(x1, own_O "com/example/hazeline/hazeline/fuzzy/Trapezoid" [("com/example/hazeline/hazeline/fuzzy/Trapezoid", "a", "D", .double p0), ("com/example/hazeline/hazeline/fuzzy/Trapezoid", "b", "D", .double p1), ("com/example/hazeline/hazeline/fuzzy/Trapezoid", "c", "D", .double p2), ("com/example/hazeline/hazeline/fuzzy/Trapezoid", "d", "D", .double p3)]), (x2, own_O "com/example/hazeline/hazeline/fuzzy/Trapezoid" [("com/example/hazeline/hazeline/fuzzy/Trapezoid", "a", "D", .double q0), ("com/example/hazeline/hazeline/fuzzy/Trapezoid", "b", "D", .double q1), ("com/example/hazeline/hazeline/fuzzy/Trapezoid", "c", "D", .double q2), ("com/example/hazeline/hazeline/fuzzy/Trapezoid", "d", "D", .double q3)])] _ _ at Hea4_3
  obtain ⟨Tea4_4, Hea4_4, stea4_4⟩ := own_getF Hea4_3 hx hZ hown (hw _ (List.mem_of_getElem? (i := 22) rfl)) 1 0 rfl rfl (g := (mkF m 19 #[.val (.ref x1), .val (.ref x2), .val (.ref x2)] [(.ref x2), (.double p0)])) rfl rfl (hb hby d7_19)
  change own_S _ _ _ _ _ _ _ _ _ _ _ _ _ _ [(x1, own_O "com/example/hazeline/hazeline/fuzzy/Trapezoid" [("com/example/hazeline/hazeline/fuzzy/Trapezoid", "a", "D", .double p0), ("com/example/hazeline/hazeline/fuzzy/Trapezoid", "b", "D", .double p1), ("com/example/hazeline/hazeline/fuzzy/Trapezoid", "c", "D", .double p2), ("com/example/hazeline/hazeline/fuzzy/Trapezoid", "d", "D", .double p3)]), (x2, own_O "com/example/hazeline/hazeline/fuzzy/Trapezoid" [("com/example/hazeline/hazeline/fuzzy/Trapezoid", "a", "D", .double q0), ("com/example/hazeline/hazeline/fuzzy/Trapezoid", "b", "D", .double q1), ("com/example/hazeline/hazeline/fuzzy/Trapezoid", "c", "D", .double q2), ("com/example/hazeline/hazeline/fuzzy/Trapezoid", "d", "D", .double q3)])] _ _ at Hea4_4
  obtain ⟨Tea4_5, vea4_5_, csea4_5_, qea4_5, Hea4_5, stea4_5⟩ := own_callS Hea4_4 hx hZ hown (hw _ (List.mem_of_getElem? (i := 40) rfl)) (hw _ (List.mem_of_getElem? (i := 41) rfl)) (hw _ (List.mem_of_getElem? (i := 15) rfl)) (hw _ (List.mem_of_getElem? (i := 42) rfl)) (by decide) (argsL := [(.double p0), (.double q0)]) (rest := []) (W := 0) (own_cmp0 l Z a0 hb0 hw p0 q0 _ _ _ i0 j0 e0) (by decide) (by decide) (by decide) (by decide) (g := (mkF m 22 #[.val (.ref x1), .val (.ref x2), .val (.ref x2)] [(.double q0), (.double p0)])) rfl (by rw [hml]; rfl) (lenOf own_pd7 rfl) rfl (by show 2 * 0 + _ ≤ _; exact Nat.le_of_eq rfl) (hb hby d7_22)
  obtain ⟨rfl, rfl⟩ := qea4_5
  change own_S _ _ _ _ _ _ _ _ _ _ _ _ _ _ [(x1, own_O "com/example/hazeline/hazeline/fuzzy/Trapezoid" [("com/example/hazeline/hazeline/fuzzy/Trapezoid", "a", "D", .double p0), ("com/example/hazeline/hazeline/fuzzy/Trapezoid", "b", "D", .double p1), ("com/example/hazeline/hazeline/fuzzy/Trapezoid", "c", "D", .double p2), ("com/example/hazeline/hazeline/fuzzy/Trapezoid", "d", "D", .double p3)]), (x2, own_O "com/example/hazeline/hazeline/fuzzy/Trapezoid" [("com/example/hazeline/hazeline/fuzzy/Trapezoid", "a", "D", .double q0), ("com/example/hazeline/hazeline/fuzzy/Trapezoid", "b", "D", .double q1), ("com/example/hazeline/hazeline/fuzzy/Trapezoid", "c", "D", .double q2), ("com/example/hazeline/hazeline/fuzzy/Trapezoid", "d", "D", .double q3)])] _ _ at Hea4_5
  obtain ⟨Tea4_6, Hea4_6, stea4_6⟩ := own_getF Hea4_5 hx hZ hown (hw _ (List.mem_of_getElem? (i := 24) rfl)) 0 1 rfl rfl (g := (mkF m 29 #[.val (.ref x1), .val (.ref x2), .val (.ref x2)] [(.ref x1)])) rfl rfl (hb hby d7_29)
  change own_S _ _ _ _ _ _ _ _ _ _ _ _ _ _ [(x1, own_O "com/example/hazeline/hazeline/fuzzy/Trapezoid" [("com/example/hazeline/hazeline/fuzzy/Trapezoid", "a", "D", .double p0), ("com/example/hazeline/hazeline/fuzzy/Trapezoid", "b", "D", .double p1), ("com/example/hazeline/hazeline/fuzzy/Trapezoid", "c", "D", .double p2), ("com/example/hazeline/hazeline/fuzzy/Trapezoid", "d", "D", .double p3)]), (x2, own_O "com/example/hazeline/hazeline/fuzzy/Trapezoid" [("com/example/hazeline/hazeline/fuzzy/Trapezoid", "a", "D", .double q0), ("com/example/hazeline/hazeline/fuzzy/Trapezoid", "b", "D", .double q1), ("com/example/hazeline/hazeline/fuzzy/Trapezoid", "c", "D", .double q2), ("com/example/hazeline/hazeline/fuzzy/Trapezoid", "d", "D", .double q3)])] _ _ at Hea4_6
  obtain ⟨Tea4_7, Hea4_7, stea4_7⟩ := own_getF Hea4_6 hx hZ hown (hw _ (List.mem_of_getElem? (i := 24) rfl)) 1 1 rfl rfl (g := (mkF m 33 #[.val (.ref x1), .val (.ref x2), .val (.ref x2)] [(.ref x2), (.double p1)])) rfl rfl (hb hby d7_33)
  change own_S _ _ _ _ _ _ _ _ _ _ _ _ _ _ [(x1, own_O "com/example/hazeline/hazeline/fuzzy/Trapezoid" [("com/example/hazeline/hazeline/fuzzy/Trapezoid", "a", "D", .double p0), ("com/example/hazeline/hazeline/fuzzy/Trapezoid", "b", "D", .double p1), ("com/example/hazeline/hazeline/fuzzy/Trapezoid", "c", "D", .double p2), ("com/example/hazeline/hazeline/fuzzy/Trapezoid", "d", "D", .double p3)]), (x2, own_O "com/example/hazeline/hazeline/fuzzy/Trapezoid" [("com/example/hazeline/hazeline/fuzzy/Trapezoid", "a", "D", .double q0), ("com/example/hazeline/hazeline/fuzzy/Trapezoid", "b", "D", .double q1), ("com/example/hazeline/hazeline/fuzzy/Trapezoid", "c", "D", .double q2), ("com/example/hazeline/hazeline/fuzzy/Trapezoid", "d", "D", .double q3)])] _ _ at Hea4_7
  obtain ⟨Tea4_8, vea4_8_, csea4_8_, qea4_8, Hea4_8, stea4_8⟩ := own_callS Hea4_7 hx hZ hown (hw _ (List.mem_of_getElem? (i := 40) rfl)) (hw _ (List.mem_of_getElem? (i := 41) rfl)) (hw _ (List.mem_of_getElem? (i := 15) rfl)) (hw _ (List.mem_of_getElem? (i := 42) rfl)) (by decide) (argsL := [(.double p1), (.double q1)]) (rest := []) (W := 0) (own_cmp0 l Z a0 hb0 hw p1 q1 _ _ _ i1 j1 e1) (by decide) (by decide) (by decide) (by decide) (g := (mkF m 36 #[.val (.ref x1), .val (.ref x2), .val (.ref x2)] [(.double q1), (.double p1)])) rfl (by rw [hml]; rfl) (lenOf own_pd7 rfl) rfl (by show 2 * 0 + _ ≤ _; exact Nat.le_of_eq rfl) (hb hby d7_36)
  obtain ⟨rfl, rfl⟩ := qea4_8
  change own_S _ _ _ _ _ _ _ _ _ _ _ _ _ _ [(x1, own_O "com/example/hazeline/hazeline/fuzzy/Trapezoid" [("com/example/hazeline/hazeline/fuzzy/Trapezoid", "a", "D", .double p0), ("com/example/hazeline/hazeline/fuzzy/Trapezoid", "b", "D", .double p1), ("com/example/hazeline/hazeline/fuzzy/Trapezoid", "c", "D", .double p2), ("com/example/hazeline/hazeline/fuzzy/Trapezoid", "d", "D", .double p3)]), (x2, own_O "com/example/hazeline/hazeline/fuzzy/Trapezoid" [("com/example/hazeline/hazeline/fuzzy/Trapezoid", "a", "D", .double q0), ("com/example/hazeline/hazeline/fuzzy/Trapezoid", "b", "D", .double q1), ("com/example/hazeline/hazeline/fuzzy/Trapezoid", "c", "D", .double q2), ("com/example/hazeline/hazeline/fuzzy/Trapezoid", "d", "D", .double q3)])] _ _ at Hea4_8
  obtain ⟨Tea4_9, Hea4_9, stea4_9⟩ := own_getF Hea4_8 hx hZ hown (hw _ (List.mem_of_getElem? (i := 26) rfl)) 0 2 rfl rfl (g := (mkF m 43 #[.val (.ref x1), .val (.ref x2), .val (.ref x2)] [(.ref x1)])) rfl rfl (hb hby d7_43)
  change own_S _ _ _ _ _ _ _ _ _ _ _ _ _ _ [(x1, own_O "com/example/hazeline/hazeline/fuzzy/Trapezoid" [("com/example/hazeline/hazeline/fuzzy/Trapezoid", "a", "D", .double p0), ("com/example/hazeline/hazeline/fuzzy/Trapezoid", "b", "D", .double p1), ("com/example/hazeline/hazeline/fuzzy/Trapezoid", "c", "D", .double p2), ("com/example/hazeline/hazeline/fuzzy/Trapezoid", "d", "D", .double p3)]), (x2, own_O "com/example/hazeline/hazeline/fuzzy/Trapezoid" [("com/example/hazeline/hazeline/fuzzy/Trapezoid", "a", "D", .double q0), ("com/example/hazeline/hazeline/fuzzy/Trapezoid", "b", "D", .double q1), ("com/example/hazeline/hazeline/fuzzy/Trapezoid", "c", "D", .double q2), ("com/example/hazeline/hazeline/fuzzy/Trapezoid", "d", "D", .double q3)])] _ _ at Hea4_9
  obtain ⟨Tea4_10, Hea4_10, stea4_10⟩ := own_getF Hea4_9 hx hZ hown (hw _ (List.mem_of_getElem? (i := 26) rfl)) 1 2 rfl rfl (g := (mkF m 47 #[.val (.ref x1), .val (.ref x2), .val (.ref x2)] [(.ref x2), (.double p2)])) rfl rfl (hb hby d7_47)
  change own_S _ _ _ _ _ _ _ _ _ _ _ _ _ _ [(x1, own_O "com/example/hazeline/hazeline/fuzzy/Trapezoid" [("com/example/hazeline/hazeline/fuzzy/Trapezoid", "a", "D", .double p0), ("com/example/hazeline/hazeline/fuzzy/Trapezoid", "b", "D", .double p1), ("com/example/hazeline/hazeline/fuzzy/Trapezoid", "c", "D", .double p2), ("com/example/hazeline/hazeline/fuzzy/Trapezoid", "d", "D", .double p3)]), (x2, own_O "com/example/hazeline/hazeline/fuzzy/Trapezoid" [("com/example/hazeline/hazeline/fuzzy/Trapezoid", "a", "D", .double q0), ("com/example/hazeline/hazeline/fuzzy/Trapezoid", "b", "D", .double q1), ("com/example/hazeline/hazeline/fuzzy/Trapezoid", "c", "D", .double q2), ("com/example/hazeline/hazeline/fuzzy/Trapezoid", "d", "D", .double q3)])] _ _ at Hea4_10
  obtain ⟨Tea4_11, vea4_11_, csea4_11_, qea4_11, Hea4_11, stea4_11⟩ := own_callS Hea4_10 hx hZ hown (hw _ (List.mem_of_getElem? (i := 40) rfl)) (hw _ (List.mem_of_getElem? (i := 41) rfl)) (hw _ (List.mem_of_getElem? (i := 15) rfl)) (hw _ (List.mem_of_getElem? (i := 42) rfl)) (by decide) (argsL := [(.double p2), (.double q2)]) (rest := []) (W := 0) (own_cmp0 l Z a0 hb0 hw p2 q2 _ _ _ i2 j2 e2) (by decide) (by decide) (by decide) (by decide) (g := (mkF m 50 #[.val (.ref x1), .val (.ref x2), .val (.ref x2)] [(.double q2), (.double p2)])) rfl (by rw [hml]; rfl) (lenOf own_pd7 rfl) rfl (by show 2 * 0 + _ ≤ _; exact Nat.le_of_eq rfl) (hb hby d7_50)
  obtain ⟨rfl, rfl⟩ := qea4_11
  change own_S _ _ _ _ _ _ _ _ _ _ _ _ _ _ [(x1, own_O "com/example/hazeline/hazeline/fuzzy/Trapezoid" [("com/example/hazeline/hazeline/fuzzy/Trapezoid", "a", "D", .double p0), ("com/example/hazeline/hazeline/fuzzy/Trapezoid", "b", "D", .double p1), ("com/example/hazeline/hazeline/fuzzy/Trapezoid", "c", "D", .double p2), ("com/example/hazeline/hazeline/fuzzy/Trapezoid", "d", "D", .double p3)]), (x2, own_O "com/example/hazeline/hazeline/fuzzy/Trapezoid" [("com/example/hazeline/hazeline/fuzzy/Trapezoid", "a", "D", .double q0), ("com/example/hazeline/hazeline/fuzzy/Trapezoid", "b", "D", .double q1), ("com/example/hazeline/hazeline/fuzzy/Trapezoid", "c", "D", .double q2), ("com/example/hazeline/hazeline/fuzzy/Trapezoid", "d", "D", .double q3)])] _ _ at Hea4_11
  obtain ⟨Tea4_12, Hea4_12, stea4_12⟩ := own_getF Hea4_11 hx hZ hown (hw _ (List.mem_of_getElem? (i := 28) rfl)) 0 3 rfl rfl (g := (mkF m 57 #[.val (.ref x1), .val (.ref x2), .val (.ref x2)] [(.ref x1)])) rfl rfl (hb hby d7_57)
  change own_S _ _ _ _ _ _ _ _ _ _ _ _ _ _ [(x1, own_O "com/example/hazeline/hazeline/fuzzy/Trapezoid" [("com/example/hazeline/hazeline/fuzzy/Trapezoid", "a", "D", .double p0), ("com/example/hazeline/hazeline/fuzzy/Trapezoid", "b", "D", .double p1), ("com/example/hazeline/hazeline/fuzzy/Trapezoid", "c", "D", .double p2), ("com/example/hazeline/hazeline/fuzzy/Trapezoid", "d", "D", .double p3)]), (x2, own_O "com/example/hazeline/hazeline/fuzzy/Trapezoid" [("com/example/hazeline/hazeline/fuzzy/Trapezoid", "a", "D", .double q0), ("com/example/hazeline/hazeline/fuzzy/Trapezoid", "b", "D", .double q1), ("com/example/hazeline/hazeline/fuzzy/Trapezoid", "c", "D", .double q2), ("com/example/hazeline/hazeline/fuzzy/Trapezoid", "d", "D", .double q3)])] _ _ at Hea4_12
  obtain ⟨Tea4_13, Hea4_13, stea4_13⟩ := own_getF Hea4_12 hx hZ hown (hw _ (List.mem_of_getElem? (i := 28) rfl)) 1 3 rfl rfl (g := (mkF m 61 #[.val (.ref x1), .val (.ref x2), .val (.ref x2)] [(.ref x2), (.double p3)])) rfl rfl (hb hby d7_61)
  change own_S _ _ _ _ _ _ _ _ _ _ _ _ _ _ [(x1, own_O "com/example/hazeline/hazeline/fuzzy/Trapezoid" [("com/example/hazeline/hazeline/fuzzy/Trapezoid", "a", "D", .double p0), ("com/example/hazeline/hazeline/fuzzy/Trapezoid", "b", "D", .double p1), ("com/example/hazeline/hazeline/fuzzy/Trapezoid", "c", "D", .double p2), ("com/example/hazeline/hazeline/fuzzy/Trapezoid", "d", "D", .double p3)]), (x2, own_O "com/example/hazeline/hazeline/fuzzy/Trapezoid" [("com/example/hazeline/hazeline/fuzzy/Trapezoid", "a", "D", .double q0), ("com/example/hazeline/hazeline/fuzzy/Trapezoid", "b", "D", .double q1), ("com/example/hazeline/hazeline/fuzzy/Trapezoid", "c", "D", .double q2), ("com/example/hazeline/hazeline/fuzzy/Trapezoid", "d", "D", .double q3)])] _ _ at Hea4_13
  obtain ⟨Tea4_14, vea4_14_, csea4_14_, qea4_14, Hea4_14, stea4_14⟩ := own_callS Hea4_13 hx hZ hown (hw _ (List.mem_of_getElem? (i := 40) rfl)) (hw _ (List.mem_of_getElem? (i := 41) rfl)) (hw _ (List.mem_of_getElem? (i := 15) rfl)) (hw _ (List.mem_of_getElem? (i := 42) rfl)) (by decide) (argsL := [(.double p3), (.double q3)]) (rest := []) (W := 0) (own_cmp0 l Z a0 hb0 hw p3 q3 _ _ _ i3 j3 e3) (by decide) (by decide) (by decide) (by decide) (g := (mkF m 64 #[.val (.ref x1), .val (.ref x2), .val (.ref x2)] [(.double q3), (.double p3)])) rfl (by rw [hml]; rfl) (lenOf own_pd7 rfl) rfl (by show 2 * 0 + _ ≤ _; exact Nat.le_of_eq rfl) (hb hby d7_64)
  obtain ⟨rfl, rfl⟩ := qea4_14
  change own_S _ _ _ _ _ _ _ _ _ _ _ _ _ _ [(x1, own_O "com/example/hazeline/hazeline/fuzzy/Trapezoid" [("com/example/hazeline/hazeline/fuzzy/Trapezoid", "a", "D", .double p0), ("com/example/hazeline/hazeline/fuzzy/Trapezoid", "b", "D", .double p1), ("com/example/hazeline/hazeline/fuzzy/Trapezoid", "c", "D", .double p2), ("com/example/hazeline/hazeline/fuzzy/Trapezoid", "d", "D", .double p3)]), (x2, own_O "com/example/hazeline/hazeline/fuzzy/Trapezoid" [("com/example/hazeline/hazeline/fuzzy/Trapezoid", "a", "D", .double q0), ("com/example/hazeline/hazeline/fuzzy/Trapezoid", "b", "D", .double q1), ("com/example/hazeline/hazeline/fuzzy/Trapezoid", "c", "D", .double q2), ("com/example/hazeline/hazeline/fuzzy/Trapezoid", "d", "D", .double q3)])] _ _ at Hea4_14
  refine ⟨_, _, _, _, 75, #[.val (.ref x1), .val (.ref x2), .val (.ref x2)], Hea4_14, by decide, by decide, Or.inr ⟨.boolean, (.int (1 : Int32)), [], .ireturn, rfl, ⟨rfl, rfl⟩, d7_75, own_retZ (Or.inr rfl), fun target q => ?_⟩⟩
  refine own_go H0 hx hZ hown hby hw own_K7_ok (own_ea4_0 x1 x2) _ ?_
  refine stea4_1 _ ?_
  refine own_go Hea4_1 hx hZ hown hby hw own_K7_ok (own_ea4_1 x1 x2) _ ?_
  refine stea4_2 _ ?_
  refine own_go Hea4_2 hx hZ hown hby hw own_K7_ok (own_ea4_2 x1 x2) _ ?_
  refine stea4_3 _ ?_
  refine own_go Hea4_3 hx hZ hown hby hw own_K7_ok (own_ea4_3 x1 x2 p0) _ ?_
  refine stea4_4 _ ?_
  refine stea4_5 _ ?_
  refine own_go Hea4_5 hx hZ hown hby hw own_K7_ok (own_ea4_4 x1 x2) _ ?_
  refine stea4_6 _ ?_
  refine own_go Hea4_6 hx hZ hown hby hw own_K7_ok (own_ea4_5 x1 x2 p1) _ ?_
  refine stea4_7 _ ?_
  refine stea4_8 _ ?_
  refine own_go Hea4_8 hx hZ hown hby hw own_K7_ok (own_ea4_6 x1 x2) _ ?_
  refine stea4_9 _ ?_
  refine own_go Hea4_9 hx hZ hown hby hw own_K7_ok (own_ea4_7 x1 x2 p2) _ ?_
  refine stea4_10 _ ?_
  refine stea4_11 _ ?_
  refine own_go Hea4_11 hx hZ hown hby hw own_K7_ok (own_ea4_8 x1 x2) _ ?_
  refine stea4_12 _ ?_
  refine own_go Hea4_12 hx hZ hown hby hw own_K7_ok (own_ea4_9 x1 x2 p3) _ ?_
  refine stea4_13 _ ?_
  refine stea4_14 _ ?_
  refine own_go Hea4_14 hx hZ hown hby hw own_K7_ok (own_ea4_10 x1 x2) _ ?_
  exact q
theorem own_eb0_0 (x2 : Addr) (x1 : Addr) :
    own_Go own_K7 prog_5_method_14_code 0 #[.val (.ref x2), .val (.ref x1), .unset] [] 1 #[.val (.ref x2), .val (.ref x1), .unset] [(.ref x1)] := by
  refine own_aloadN (pc2 := 1) d7_0 rfl rfl rfl ?_
  exact own_refl
theorem own_eb0_1 (x2 : Addr) (x1 : Addr) :
    own_Go own_K7 prog_5_method_14_code 4 #[.val (.ref x2), .val (.ref x1), .unset] [(.int (1 : Int32))] 10 #[.val (.ref x2), .val (.ref x1), .unset] [(.ref x1)] := by
  refine own_ifYes (pc' := 9) d7_4 (by decide) (by decide) (by decide) ?_
  refine own_aloadN (pc2 := 10) d7_9 rfl rfl rfl ?_
  exact own_refl
theorem own_eb0_2 (x2 : Addr) (x1 : Addr) :
    own_Go own_K7 prog_5_method_14_code 13 #[.val (.ref x2), .val (.ref x1), .unset] [(.ref x1)] 15 #[.val (.ref x2), .val (.ref x1), .val (.ref x1)] [(.ref x2)] := by
  refine own_astoreN (pc2 := 14) d7_13 rfl rfl (L' := #[.val (.ref x2), .val (.ref x1), .val (.ref x1)]) rfl ?_
  refine own_aloadN (pc2 := 15) d7_14 rfl rfl rfl ?_
  exact own_refl
theorem own_eb0_3 (x2 : Addr) (x1 : Addr) (q0 : UInt64) :
    own_Go own_K7 prog_5_method_14_code 18 #[.val (.ref x2), .val (.ref x1), .val (.ref x1)] [(.double q0)] 19 #[.val (.ref x2), .val (.ref x1), .val (.ref x1)] [(.ref x1), (.double q0)] := by
  refine own_aloadN (pc2 := 19) d7_18 rfl rfl rfl ?_
  exact own_refl
theorem own_eb0_4 (x2 : Addr) (x1 : Addr) (zz : Int32) (hb25 : ifCond.holds .ne zz = true) :
    own_Go own_K7 prog_5_method_14_code 25 #[.val (.ref x2), .val (.ref x1), .val (.ref x1)] [(.int zz)] 75 #[.val (.ref x2), .val (.ref x1), .val (.ref x1)] [(.int (0 : Int32))] := by
  refine own_ifYes (pc' := 74) d7_25 hb25 (by decide) (by decide) ?_
  refine own_iconst (v := 0) (pc2 := 75) d7_74 rfl rfl ?_
  exact own_refl
set_option maxRecDepth 65536 in
set_option maxHeartbeats 4000000 in
theorem own_eqb0 (l : Launch) (Z : State) (a0 : Array Value) (hb0 : own_Base) (hw : ∀ d ∈ tables_1, d.before a0 Z = true) (x2 : Addr) (x1 : Addr)  (p0 p1 p2 p3 q0 q1 q2 q3 : UInt64) (R0 S0 : Rat) (i0 : own_is q0 R0) (j0 : own_is p0 S0) (e0 : q0 ≠ p0) :
    own_Met l Z a0 hb0 (⟨"com/example/hazeline/hazeline/fuzzy/Trapezoid", "equals", "(Ljava/lang/Object;)Z"⟩ : MethodName) prog_5_method_14_code 3 (some .boolean) [] ({ frames := 3, cells := 0, slots := 0, locals := 90 } : Room) #[(.ref x2), (.ref x1)] [(x1, own_O "com/example/hazeline/hazeline/fuzzy/Trapezoid" [("com/example/hazeline/hazeline/fuzzy/Trapezoid", "a", "D", .double p0), ("com/example/hazeline/hazeline/fuzzy/Trapezoid", "b", "D", .double p1), ("com/example/hazeline/hazeline/fuzzy/Trapezoid", "c", "D", .double p2), ("com/example/hazeline/hazeline/fuzzy/Trapezoid", "d", "D", .double p3)]), (x2, own_O "com/example/hazeline/hazeline/fuzzy/Trapezoid" [("com/example/hazeline/hazeline/fuzzy/Trapezoid", "a", "D", .double q0), ("com/example/hazeline/hazeline/fuzzy/Trapezoid", "b", "D", .double q1), ("com/example/hazeline/hazeline/fuzzy/Trapezoid", "c", "D", .double q2), ("com/example/hazeline/hazeline/fuzzy/Trapezoid", "d", "D", .double q3)])] (fun r cs' => r = some (.int 0) ∧ cs' = [(x1, own_O "com/example/hazeline/hazeline/fuzzy/Trapezoid" [("com/example/hazeline/hazeline/fuzzy/Trapezoid", "a", "D", .double p0), ("com/example/hazeline/hazeline/fuzzy/Trapezoid", "b", "D", .double p1), ("com/example/hazeline/hazeline/fuzzy/Trapezoid", "c", "D", .double p2), ("com/example/hazeline/hazeline/fuzzy/Trapezoid", "d", "D", .double p3)]), (x2, own_O "com/example/hazeline/hazeline/fuzzy/Trapezoid" [("com/example/hazeline/hazeline/fuzzy/Trapezoid", "a", "D", .double q0), ("com/example/hazeline/hazeline/fuzzy/Trapezoid", "b", "D", .double q1), ("com/example/hazeline/hazeline/fuzzy/Trapezoid", "c", "D", .double q2), ("com/example/hazeline/hazeline/fuzzy/Trapezoid", "d", "D", .double q3)])]) := by
  refine own_met_of (L0 := #[.val (.ref x2), .val (.ref x1), .unset]) (plainFor_of_name own_pn7) (fun m => own_ef7 m x2 x1) ?_
  intro p e s m below meth c T0 hx hZ hown hby hml hnm H0
  obtain ⟨Teb0_1, Heb0_1, steb0_1⟩ := own_instO H0 hx hZ hown (hw _ (List.mem_of_getElem? (i := 38) rfl)) 0 rfl (g := (mkF m 1 #[.val (.ref x2), .val (.ref x1), .unset] [(.ref x1)])) rfl rfl (hb hby d7_1)
  change own_S _ _ _ _ _ _ _ _ _ _ _ _ _ _ [(x1, own_O "com/example/hazeline/hazeline/fuzzy/Trapezoid" [("com/example/hazeline/hazeline/fuzzy/Trapezoid", "a", "D", .double p0), ("com/example/hazeline/hazeline/fuzzy/Trapezoid", "b", "D", .double p1), ("com/example/hazeline/hazeline/fuzzy/Trapezoid", "c", "D", .double p2), ("com/example/hazeline/hazeline/fuzzy/Trapezoid", "d", "D", .double p3)]), (x2, own_O "com/example/hazeline/hazeline/fuzzy/Trapezoid" [("com/example/hazeline/hazeline/fuzzy/Trapezoid", "a", "D", .double q0), ("com/example/hazeline/hazeline/fuzzy/Trapezoid", "b", "D", .double q1), ("com/example/hazeline/hazeline/fuzzy/Trapezoid", "c", "D", .double q2), ("com/example/hazeline/hazeline/fuzzy/Trapezoid", "d", "D", .double q3)])] _ _ at Heb0_1
  obtain ⟨Teb0_2, Heb0_2, steb0_2⟩ := own_castO Heb0_1 hx hZ hown (hw _ (List.mem_of_getElem? (i := 38) rfl)) 0 rfl (g := (mkF m 10 #[.val (.ref x2), .val (.ref x1), .unset] [(.ref x1)])) rfl rfl (hb hby d7_10)
  change own_S _ _ _ _ _ _ _ _ _ _ _ _ _ _ [(x1, own_O "com/example/hazeline/hazeline/fuzzy/Trapezoid" [("com/example/hazeline/hazeline/fuzzy/Trapezoid", "a", "D", .double p0), ("com/example/hazeline/hazeline/fuzzy/Trapezoid", "b", "D", .double p1), ("com/example/hazeline/hazeline/fuzzy/Trapezoid", "c", "D", .double p2), ("com/example/hazeline/hazeline/fuzzy/Trapezoid", "d", "D", .double p3)]), (x2, own_O "com/example/hazeline/hazeline/fuzzy/Trapezoid" [("com/example/hazeline/hazeline/fuzzy/Trapezoid", "a", "D", .double q0), ("com/example/hazeline/hazeline/fuzzy/Trapezoid", "b", "D", .double q1), ("com/example/hazeline/hazeline/fuzzy/Trapezoid", "c", "D", .double q2), ("com/example/hazeline/hazeline/fuzzy/Trapezoid", "d", "D", .double q3)])] _ _ at Heb0_2
  obtain ⟨Teb0_3, Heb0_3, steb0_3⟩ := own_getF Heb0_2 hx hZ hown (hw _ (List.mem_of_getElem? (i := 22) rfl)) 1 0 rfl rfl (g := (mkF m 15 #[.val (.ref x2), .val (.ref x1), .val (.ref x1)] [(.ref x2)])) rfl rfl (hb hby d7_15)
  change own_S _ _ _ _ _ _ _ _ _ _ _ _ _ _ [(x1, own_O "com/example/hazeline/hazeline/fuzzy/Trapezoid" [("com/example/hazeline/hazeline/fuzzy/Trapezoid", "a", "D", .double p0), ("com/example/hazeline/hazeline/fuzzy/Trapezoid", "b", "D", .double p1), ("com/example/hazeline/hazeline/fuzzy/Trapezoid", "c", "D", .double p2), ("com/example/hazeline/hazeline/fuzzy/Trapezoid", "d", "D", .double p3)]), (x2, own_O "com/example/hazeline/hazeline/fuzzy/Trapezoid" [("com/example/hazeline/hazeline/fuzzy/Trapezoid", "a", "D", .double q0), ("com/example/hazeline/hazeline/fuzzy/Trapezoid", "b", "D", .double q1), ("com/example/hazeline/hazeline/fuzzy/Trapezoid", "c", "D", .double q2), ("com/example/hazeline/hazeline/fuzzy/Trapezoid", "d", "D", .double q3)])] _ _ at Heb0_3
  obtain ⟨Teb0_4, Heb0_4, steb0_4⟩ := own_getF Heb0_3 hx hZ hown (hw _ (List.mem_of_getElem? (i := 22) rfl)) 0 0 rfl rfl (g := (mkF m 19 #[.val (.ref x2), .val (.ref x1), .val (.ref x1)] [(.ref x1), (.double q0)])) rfl rfl (hb hby d7_19)
  change own_S _ _ _ _ _ _ _ _ _ _ _ _ _ _ [(x1, own_O "com/example/hazeline/hazeline/fuzzy/Trapezoid" [("com/example/hazeline/hazeline/fuzzy/Trapezoid", "a", "D", .double p0), ("com/example/hazeline/hazeline/fuzzy/Trapezoid", "b", "D", .double p1), ("com/example/hazeline/hazeline/fuzzy/Trapezoid", "c", "D", .double p2), ("com/example/hazeline/hazeline/fuzzy/Trapezoid", "d", "D", .double p3)]), (x2, own_O "com/example/hazeline/hazeline/fuzzy/Trapezoid" [("com/example/hazeline/hazeline/fuzzy/Trapezoid", "a", "D", .double q0), ("com/example/hazeline/hazeline/fuzzy/Trapezoid", "b", "D", .double q1), ("com/example/hazeline/hazeline/fuzzy/Trapezoid", "c", "D", .double q2), ("com/example/hazeline/hazeline/fuzzy/Trapezoid", "d", "D", .double q3)])] _ _ at Heb0_4
  obtain ⟨Teb0_5, veb0_5_, cseb0_5_, qeb0_5, Heb0_5, steb0_5⟩ := own_callS Heb0_4 hx hZ hown (hw _ (List.mem_of_getElem? (i := 40) rfl)) (hw _ (List.mem_of_getElem? (i := 41) rfl)) (hw _ (List.mem_of_getElem? (i := 15) rfl)) (hw _ (List.mem_of_getElem? (i := 42) rfl)) (by decide) (argsL := [(.double q0), (.double p0)]) (rest := []) (W := 0) (own_cmp1 l Z a0 hb0 hw q0 p0 _ _ _ i0 j0 e0) (by decide) (by decide) (by decide) (by decide) (g := (mkF m 22 #[.val (.ref x2), .val (.ref x1), .val (.ref x1)] [(.double p0), (.double q0)])) rfl (by rw [hml]; rfl) (lenOf own_pd7 rfl) rfl (by show 2 * 0 + _ ≤ _; exact Nat.le_of_eq rfl) (hb hby d7_22)
  obtain ⟨zz, hzz, rfl, rfl⟩ := qeb0_5
  change own_S _ _ _ _ _ _ _ _ _ _ _ _ _ _ [(x1, own_O "com/example/hazeline/hazeline/fuzzy/Trapezoid" [("com/example/hazeline/hazeline/fuzzy/Trapezoid", "a", "D", .double p0), ("com/example/hazeline/hazeline/fuzzy/Trapezoid", "b", "D", .double p1), ("com/example/hazeline/hazeline/fuzzy/Trapezoid", "c", "D", .double p2), ("com/example/hazeline/hazeline/fuzzy/Trapezoid", "d", "D", .double p3)]), (x2, own_O "com/example/hazeline/hazeline/fuzzy/Trapezoid" [("com/example/hazeline/hazeline/fuzzy/Trapezoid", "a", "D", .double q0), ("com/example/hazeline/hazeline/fuzzy/Trapezoid", "b", "D", .double q1), ("com/example/hazeline/hazeline/fuzzy/Trapezoid", "c", "D", .double q2), ("com/example/hazeline/hazeline/fuzzy/Trapezoid", "d", "D", .double q3)])] _ _ at Heb0_5
  have hb25 : ifCond.holds .ne zz = true := by rw [own_z_ne]; exact decide_eq_true hzz
  refine ⟨_, _, _, _, 75, #[.val (.ref x2), .val (.ref x1), .val (.ref x1)], Heb0_5, by decide, by decide, Or.inr ⟨.boolean, (.int (0 : Int32)), [], .ireturn, rfl, ⟨rfl, rfl⟩, d7_75, own_retZ (Or.inl rfl), fun target q => ?_⟩⟩
  refine own_go H0 hx hZ hown hby hw own_K7_ok (own_eb0_0 x2 x1) _ ?_
  refine steb0_1 _ ?_
  refine own_go Heb0_1 hx hZ hown hby hw own_K7_ok (own_eb0_1 x2 x1) _ ?_
  refine steb0_2 _ ?_
  refine own_go Heb0_2 hx hZ hown hby hw own_K7_ok (own_eb0_2 x2 x1) _ ?_
  refine steb0_3 _ ?_
  refine own_go Heb0_3 hx hZ hown hby hw own_K7_ok (own_eb0_3 x2 x1 q0) _ ?_
  refine steb0_4 _ ?_
  refine steb0_5 _ ?_
  refine own_go Heb0_5 hx hZ hown hby hw own_K7_ok (own_eb0_4 x2 x1 zz hb25) _ ?_
  exact q
theorem own_eb1_0 (x2 : Addr) (x1 : Addr) :
    own_Go own_K7 prog_5_method_14_code 0 #[.val (.ref x2), .val (.ref x1), .unset] [] 1 #[.val (.ref x2), .val (.ref x1), .unset] [(.ref x1)] := by
  refine own_aloadN (pc2 := 1) d7_0 rfl rfl rfl ?_
  exact own_refl
theorem own_eb1_1 (x2 : Addr) (x1 : Addr) :
    own_Go own_K7 prog_5_method_14_code 4 #[.val (.ref x2), .val (.ref x1), .unset] [(.int (1 : Int32))] 10 #[.val (.ref x2), .val (.ref x1), .unset] [(.ref x1)] := by
  refine own_ifYes (pc' := 9) d7_4 (by decide) (by decide) (by decide) ?_
  refine own_aloadN (pc2 := 10) d7_9 rfl rfl rfl ?_
  exact own_refl
theorem own_eb1_2 (x2 : Addr) (x1 : Addr) :
    own_Go own_K7 prog_5_method_14_code 13 #[.val (.ref x2), .val (.ref x1), .unset] [(.ref x1)] 15 #[.val (.ref x2), .val (.ref x1), .val (.ref x1)] [(.ref x2)] := by
  refine own_astoreN (pc2 := 14) d7_13 rfl rfl (L' := #[.val (.ref x2), .val (.ref x1), .val (.ref x1)]) rfl ?_
  refine own_aloadN (pc2 := 15) d7_14 rfl rfl rfl ?_
  exact own_refl
theorem own_eb1_3 (x2 : Addr) (x1 : Addr) (q0 : UInt64) :
    own_Go own_K7 prog_5_method_14_code 18 #[.val (.ref x2), .val (.ref x1), .val (.ref x1)] [(.double q0)] 19 #[.val (.ref x2), .val (.ref x1), .val (.ref x1)] [(.ref x1), (.double q0)] := by
  refine own_aloadN (pc2 := 19) d7_18 rfl rfl rfl ?_
  exact own_refl
theorem own_eb1_4 (x2 : Addr) (x1 : Addr) :
    own_Go own_K7 prog_5_method_14_code 25 #[.val (.ref x2), .val (.ref x1), .val (.ref x1)] [(.int (0 : Int32))] 29 #[.val (.ref x2), .val (.ref x1), .val (.ref x1)] [(.ref x2)] := by
  refine own_ifNo (pc2 := 28) d7_25 rfl (by decide) ?_
  refine own_aloadN (pc2 := 29) d7_28 rfl rfl rfl ?_
  exact own_refl
theorem own_eb1_5 (x2 : Addr) (x1 : Addr) (q1 : UInt64) :
    own_Go own_K7 prog_5_method_14_code 32 #[.val (.ref x2), .val (.ref x1), .val (.ref x1)] [(.double q1)] 33 #[.val (.ref x2), .val (.ref x1), .val (.ref x1)] [(.ref x1), (.double q1)] := by
  refine own_aloadN (pc2 := 33) d7_32 rfl rfl rfl ?_
  exact own_refl
theorem own_eb1_6 (x2 : Addr) (x1 : Addr) (zz : Int32) (hb39 : ifCond.holds .ne zz = true) :
    own_Go own_K7 prog_5_method_14_code 39 #[.val (.ref x2), .val (.ref x1), .val (.ref x1)] [(.int zz)] 75 #[.val (.ref x2), .val (.ref x1), .val (.ref x1)] [(.int (0 : Int32))] := by
  refine own_ifYes (pc' := 74) d7_39 hb39 (by decide) (by decide) ?_
  refine own_iconst (v := 0) (pc2 := 75) d7_74 rfl rfl ?_
  exact own_refl
set_option maxRecDepth 65536 in
set_option maxHeartbeats 4000000 in
theorem own_eqb1 (l : Launch) (Z : State) (a0 : Array Value) (hb0 : own_Base) (hw : ∀ d ∈ tables_1, d.before a0 Z = true) (x2 : Addr) (x1 : Addr)  (p0 p1 p2 p3 q0 q1 q2 q3 : UInt64) (R0 S0 : Rat) (i0 : own_is q0 R0) (j0 : own_is p0 S0) (e0 : q0 = p0) (R1 S1 : Rat) (i1 : own_is q1 R1) (j1 : own_is p1 S1) (e1 : q1 ≠ p1) :
    own_Met l Z a0 hb0 (⟨"com/example/hazeline/hazeline/fuzzy/Trapezoid", "equals", "(Ljava/lang/Object;)Z"⟩ : MethodName) prog_5_method_14_code 3 (some .boolean) [] ({ frames := 3, cells := 0, slots := 0, locals := 90 } : Room) #[(.ref x2), (.ref x1)] [(x1, own_O "com/example/hazeline/hazeline/fuzzy/Trapezoid" [("com/example/hazeline/hazeline/fuzzy/Trapezoid", "a", "D", .double p0), ("com/example/hazeline/hazeline/fuzzy/Trapezoid", "b", "D", .double p1), ("com/example/hazeline/hazeline/fuzzy/Trapezoid", "c", "D", .double p2), ("com/example/hazeline/hazeline/fuzzy/Trapezoid", "d", "D", .double p3)]), (x2, own_O "com/example/hazeline/hazeline/fuzzy/Trapezoid" [("com/example/hazeline/hazeline/fuzzy/Trapezoid", "a", "D", .double q0), ("com/example/hazeline/hazeline/fuzzy/Trapezoid", "b", "D", .double q1), ("com/example/hazeline/hazeline/fuzzy/Trapezoid", "c", "D", .double q2), ("com/example/hazeline/hazeline/fuzzy/Trapezoid", "d", "D", .double q3)])] (fun r cs' => r = some (.int 0) ∧ cs' = [(x1, own_O "com/example/hazeline/hazeline/fuzzy/Trapezoid" [("com/example/hazeline/hazeline/fuzzy/Trapezoid", "a", "D", .double p0), ("com/example/hazeline/hazeline/fuzzy/Trapezoid", "b", "D", .double p1), ("com/example/hazeline/hazeline/fuzzy/Trapezoid", "c", "D", .double p2), ("com/example/hazeline/hazeline/fuzzy/Trapezoid", "d", "D", .double p3)]), (x2, own_O "com/example/hazeline/hazeline/fuzzy/Trapezoid" [("com/example/hazeline/hazeline/fuzzy/Trapezoid", "a", "D", .double q0), ("com/example/hazeline/hazeline/fuzzy/Trapezoid", "b", "D", .double q1), ("com/example/hazeline/hazeline/fuzzy/Trapezoid", "c", "D", .double q2), ("com/example/hazeline/hazeline/fuzzy/Trapezoid", "d", "D", .double q3)])]) := by
  refine own_met_of (L0 := #[.val (.ref x2), .val (.ref x1), .unset]) (plainFor_of_name own_pn7) (fun m => own_ef7 m x2 x1) ?_
  intro p e s m below meth c T0 hx hZ hown hby hml hnm H0
  obtain ⟨Teb1_1, Heb1_1, steb1_1⟩ := own_instO H0 hx hZ hown (hw _ (List.mem_of_getElem? (i := 38) rfl)) 0 rfl (g := (mkF m 1 #[.val (.ref x2), .val (.ref x1), .unset] [(.ref x1)])) rfl rfl (hb hby d7_1)
  change own_S _ _ _ _ _ _ _ _ _ _ _ _ _ _ [(x1, own_O "com/example/hazeline/hazeline/fuzzy/Trapezoid" [("com/example/hazeline/hazeline/fuzzy/Trapezoid", "a", "D", .double p0), ("com/example/hazeline/hazeline/fuzzy/Trapezoid", "b", "D", .double p1), ("com/example/hazeline/hazeline/fuzzy/Trapezoid", "c", "D", .double p2), ("com/example/hazeline/hazeline/fuzzy/Trapezoid", "d", "D", .double p3)]), (x2, own_O "com/example/hazeline/hazeline/fuzzy/Trapezoid" [("com/example/hazeline/hazeline/fuzzy/Trapezoid", "a", "D", .double q0), ("com/example/hazeline/hazeline/fuzzy/Trapezoid", "b", "D", .double q1), ("com/example/hazeline/hazeline/fuzzy/Trapezoid", "c", "D", .double q2), ("com/example/hazeline/hazeline/fuzzy/Trapezoid", "d", "D", .double q3)])] _ _ at Heb1_1
  obtain ⟨Teb1_2, Heb1_2, steb1_2⟩ := own_castO Heb1_1 hx hZ hown (hw _ (List.mem_of_getElem? (i := 38) rfl)) 0 rfl (g := (mkF m 10 #[.val (.ref x2), .val (.ref x1), .unset] [(.ref x1)])) rfl rfl (hb hby d7_10)
  change own_S _ _ _ _ _ _ _ _ _ _ _ _ _ _ [(x1, own_O "com/example/hazeline/hazeline/fuzzy/Trapezoid" [("com/example/hazeline/hazeline/fuzzy/Trapezoid", "a", "D", .double p0), ("com/example/hazeline/hazeline/fuzzy/Trapezoid", "b", "D", .double p1), ("com/example/hazeline/hazeline/fuzzy/Trapezoid", "c", "D", .double p2), ("com/example/hazeline/hazeline/fuzzy/Trapezoid", "d", "D", .double p3)]), (x2, own_O "com/example/hazeline/hazeline/fuzzy/Trapezoid" [("com/example/hazeline/hazeline/fuzzy/Trapezoid", "a", "D", .double q0), ("com/example/hazeline/hazeline/fuzzy/Trapezoid", "b", "D", .double q1), ("com/example/hazeline/hazeline/fuzzy/Trapezoid", "c", "D", .double q2), ("com/example/hazeline/hazeline/fuzzy/Trapezoid", "d", "D", .double q3)])] _ _ at Heb1_2
  obtain ⟨Teb1_3, Heb1_3, steb1_3⟩ := own_getF Heb1_2 hx hZ hown (hw _ (List.mem_of_getElem? (i := 22) rfl)) 1 0 rfl rfl (g := (mkF m 15 #[.val (.ref x2), .val (.ref x1), .val (.ref x1)] [(.ref x2)])) rfl rfl (hb hby d7_15)
  change own_S _ _ _ _ _ _ _ _ _ _ _ _ _ _ [(x1, own_O "com/example/hazeline/hazeline/fuzzy/Trapezoid" [("com/example/hazeline/hazeline/fuzzy/Trapezoid", "a", "D", .double p0), ("com/example/hazeline/hazeline/fuzzy/Trapezoid", "b", "D", .double p1), ("com/example/hazeline/hazeline/fuzzy/Trapezoid", "c", "D", .double p2), ("com/example/hazeline/hazeline/fuzzy/Trapezoid", "d", "D", .double p3)]), (x2, own_O "com/example/hazeline/hazeline/fuzzy/Trapezoid" [("com/example/hazeline/hazeline/fuzzy/Trapezoid", "a", "D", .double q0), ("com/example/hazeline/hazeline/fuzzy/Trapezoid", "b", "D", .double q1), ("com/example/hazeline/hazeline/fuzzy/Trapezoid", "c", "D", .double q2), ("com/example/hazeline/hazeline/fuzzy/Trapezoid", "d", "D", .double q3)])] _ _ at Heb1_3
  obtain ⟨Teb1_4, Heb1_4, steb1_4⟩ := own_getF Heb1_3 hx hZ hown (hw _ (List.mem_of_getElem? (i := 22) rfl)) 0 0 rfl rfl (g := (mkF m 19 #[.val (.ref x2), .val (.ref x1), .val (.ref x1)] [(.ref x1), (.double q0)])) rfl rfl (hb hby d7_19)
  change own_S _ _ _ _ _ _ _ _ _ _ _ _ _ _ [(x1, own_O "com/example/hazeline/hazeline/fuzzy/Trapezoid" [("com/example/hazeline/hazeline/fuzzy/Trapezoid", "a", "D", .double p0), ("com/example/hazeline/hazeline/fuzzy/Trapezoid", "b", "D", .double p1), ("com/example/hazeline/hazeline/fuzzy/Trapezoid", "c", "D", .double p2), ("com/example/hazeline/hazeline/fuzzy/Trapezoid", "d", "D", .double p3)]), (x2, own_O "com/example/hazeline/hazeline/fuzzy/Trapezoid" [("com/example/hazeline/hazeline/fuzzy/Trapezoid", "a", "D", .double q0), ("com/example/hazeline/hazeline/fuzzy/Trapezoid", "b", "D", .double q1), ("com/example/hazeline/hazeline/fuzzy/Trapezoid", "c", "D", .double q2), ("com/example/hazeline/hazeline/fuzzy/Trapezoid", "d", "D", .double q3)])] _ _ at Heb1_4
  obtain ⟨Teb1_5, veb1_5_, cseb1_5_, qeb1_5, Heb1_5, steb1_5⟩ := own_callS Heb1_4 hx hZ hown (hw _ (List.mem_of_getElem? (i := 40) rfl)) (hw _ (List.mem_of_getElem? (i := 41) rfl)) (hw _ (List.mem_of_getElem? (i := 15) rfl)) (hw _ (List.mem_of_getElem? (i := 42) rfl)) (by decide) (argsL := [(.double q0), (.double p0)]) (rest := []) (W := 0) (own_cmp0 l Z a0 hb0 hw q0 p0 _ _ _ i0 j0 e0) (by decide) (by decide) (by decide) (by decide) (g := (mkF m 22 #[.val (.ref x2), .val (.ref x1), .val (.ref x1)] [(.double p0), (.double q0)])) rfl (by rw [hml]; rfl) (lenOf own_pd7 rfl) rfl (by show 2 * 0 + _ ≤ _; exact Nat.le_of_eq rfl) (hb hby d7_22)
  obtain ⟨rfl, rfl⟩ := qeb1_5
  change own_S _ _ _ _ _ _ _ _ _ _ _ _ _ _ [(x1, own_O "com/example/hazeline/hazeline/fuzzy/Trapezoid" [("com/example/hazeline/hazeline/fuzzy/Trapezoid", "a", "D", .double p0), ("com/example/hazeline/hazeline/fuzzy/Trapezoid", "b", "D", .double p1), ("com/example/hazeline/hazeline/fuzzy/Trapezoid", "c", "D", .double p2), ("com/example/hazeline/hazeline/fuzzy/Trapezoid", "d", "D", .double p3)]), (x2, own_O "com/example/hazeline/hazeline/fuzzy/Trapezoid" [("com/example/hazeline/hazeline/fuzzy/Trapezoid", "a", "D", .double q0), ("com/example/hazeline/hazeline/fuzzy/Trapezoid", "b", "D", .double q1), ("com/example/hazeline/hazeline/fuzzy/Trapezoid", "c", "D", .double q2), ("com/example/hazeline/hazeline/fuzzy/Trapezoid", "d", "D", .double q3)])] _ _ at Heb1_5
  obtain ⟨Teb1_6, Heb1_6, steb1_6⟩ := own_getF Heb1_5 hx hZ hown (hw _ (List.mem_of_getElem? (i := 24) rfl)) 1 1 rfl rfl (g := (mkF m 29 #[.val (.ref x2), .val (.ref x1), .val (.ref x1)] [(.ref x2)])) rfl rfl (hb hby d7_29)
  change own_S _ _ _ _ _ _ _ _ _ _ _ _ _ _ [(x1, own_O "com/example/hazeline/hazeline/fuzzy/Trapezoid" [("com/example/hazeline/hazeline/fuzzy/Trapezoid", "a", "D", .double p0), ("com/example/hazeline/hazeline/fuzzy/Trapezoid", "b", "D", .double p1), ("com/example/hazeline/hazeline/fuzzy/Trapezoid", "c", "D", .double p2), ("com/example/hazeline/hazeline/fuzzy/Trapezoid", "d", "D", .double p3)]), (x2, own_O "com/example/hazeline/hazeline/fuzzy/Trapezoid" [("com/example/hazeline/hazeline/fuzzy/Trapezoid", "a", "D", .double q0), ("com/example/hazeline/hazeline/fuzzy/Trapezoid", "b", "D", .double q1), ("com/example/hazeline/hazeline/fuzzy/Trapezoid", "c", "D", .double q2), ("com/example/hazeline/hazeline/fuzzy/Trapezoid", "d", "D", .double q3)])] _ _ at Heb1_6
  obtain ⟨Teb1_7, Heb1_7, steb1_7⟩ := own_getF Heb1_6 hx hZ hown (hw _ (List.mem_of_getElem? (i := 24) rfl)) 0 1 rfl rfl (g := (mkF m 33 #[.val (.ref x2), .val (.ref x1), .val (.ref x1)] [(.ref x1), (.double q1)])) rfl rfl (hb hby d7_33)
  change own_S _ _ _ _ _ _ _ _ _ _ _ _ _ _ [(x1, own_O "com/example/hazeline/hazeline/fuzzy/Trapezoid" [("com/example/hazeline/hazeline/fuzzy/Trapezoid", "a", "D", .double p0), ("com/example/hazeline/hazeline/fuzzy/Trapezoid", "b", "D", .double p1), ("com/example/hazeline/hazeline/fuzzy/Trapezoid", "c", "D", .double p2), ("com/example/hazeline/hazeline/fuzzy/Trapezoid", "d", "D", .double p3)]), (x2, own_O "com/example/hazeline/hazeline/fuzzy/Trapezoid" [("com/example/hazeline/hazeline/fuzzy/Trapezoid", "a", "D", .double q0), ("com/example/hazeline/hazeline/fuzzy/Trapezoid", "b", "D", .double q1), ("com/example/hazeline/hazeline/fuzzy/Trapezoid", "c", "D", .double q2), ("com/example/hazeline/hazeline/fuzzy/Trapezoid", "d", "D", .double q3)])] _ _ at Heb1_7
  obtain ⟨Teb1_8, veb1_8_, cseb1_8_, qeb1_8, Heb1_8, steb1_8⟩ := own_callS Heb1_7 hx hZ hown (hw _ (List.mem_of_getElem? (i := 40) rfl)) (hw _ (List.mem_of_getElem? (i := 41) rfl)) (hw _ (List.mem_of_getElem? (i := 15) rfl)) (hw _ (List.mem_of_getElem? (i := 42) rfl)) (by decide) (argsL := [(.double q1), (.double p1)]) (rest := []) (W := 0) (own_cmp1 l Z a0 hb0 hw q1 p1 _ _ _ i1 j1 e1) (by decide) (by decide) (by decide) (by decide) (g := (mkF m 36 #[.val (.ref x2), .val (.ref x1), .val (.ref x1)] [(.double p1), (.double q1)])) rfl (by rw [hml]; rfl) (lenOf own_pd7 rfl) rfl (by show 2 * 0 + _ ≤ _; exact Nat.le_of_eq rfl) (hb hby d7_36)
  obtain ⟨zz, hzz, rfl, rfl⟩ := qeb1_8
  change own_S _ _ _ _ _ _ _ _ _ _ _ _ _ _ [(x1, own_O "com/example/hazeline/hazeline/fuzzy/Trapezoid" [("com/example/hazeline/hazeline/fuzzy/Trapezoid", "a", "D", .double p0), ("com/example/hazeline/hazeline/fuzzy/Trapezoid", "b", "D", .double p1), ("com/example/hazeline/hazeline/fuzzy/Trapezoid", "c", "D", .double p2), ("com/example/hazeline/hazeline/fuzzy/Trapezoid", "d", "D", .double p3)]), (x2, own_O "com/example/hazeline/hazeline/fuzzy/Trapezoid" [("com/example/hazeline/hazeline/fuzzy/Trapezoid", "a", "D", .double q0), ("com/example/hazeline/hazeline/fuzzy/Trapezoid", "b", "D", .double q1), ("com/example/hazeline/hazeline/fuzzy/Trapezoid", "c", "D", .double q2), ("com/example/hazeline/hazeline/fuzzy/Trapezoid", "d", "D", .double q3)])] _ _ at Heb1_8
  have hb39 : ifCond.holds .ne zz = true := by rw [own_z_ne]; exact decide_eq_true hzz
  refine ⟨_, _, _, _, 75, #[.val (.ref x2), .val (.ref x1), .val (.ref x1)], Heb1_8, by decide, by decide, Or.inr ⟨.boolean, (.int (0 : Int32)), [], .ireturn, rfl, ⟨rfl, rfl⟩, d7_75, own_retZ (Or.inl rfl), fun target q => ?_⟩⟩
  refine own_go H0 hx hZ hown hby hw own_K7_ok (own_eb1_0 x2 x1) _ ?_
  refine steb1_1 _ ?_
  refine own_go Heb1_1 hx hZ hown hby hw own_K7_ok (own_eb1_1 x2 x1) _ ?_
  refine steb1_2 _ ?_
  refine own_go Heb1_2 hx hZ hown hby hw own_K7_ok (own_eb1_2 x2 x1) _ ?_
  refine steb1_3 _ ?_
  refine own_go Heb1_3 hx hZ hown hby hw own_K7_ok (own_eb1_3 x2 x1 q0) _ ?_
  refine steb1_4 _ ?_
  refine steb1_5 _ ?_
  refine own_go Heb1_5 hx hZ hown hby hw own_K7_ok (own_eb1_4 x2 x1) _ ?_
  refine steb1_6 _ ?_
  refine own_go Heb1_6 hx hZ hown hby hw own_K7_ok (own_eb1_5 x2 x1 q1) _ ?_
  refine steb1_7 _ ?_
  refine steb1_8 _ ?_
  refine own_go Heb1_8 hx hZ hown hby hw own_K7_ok (own_eb1_6 x2 x1 zz hb39) _ ?_
  exact q
theorem own_eb2_0 (x2 : Addr) (x1 : Addr) :
    own_Go own_K7 prog_5_method_14_code 0 #[.val (.ref x2), .val (.ref x1), .unset] [] 1 #[.val (.ref x2), .val (.ref x1), .unset] [(.ref x1)] := by
  refine own_aloadN (pc2 := 1) d7_0 rfl rfl rfl ?_
  exact own_refl
theorem own_eb2_1 (x2 : Addr) (x1 : Addr) :
    own_Go own_K7 prog_5_method_14_code 4 #[.val (.ref x2), .val (.ref x1), .unset] [(.int (1 : Int32))] 10 #[.val (.ref x2), .val (.ref x1), .unset] [(.ref x1)] := by
  refine own_ifYes (pc' := 9) d7_4 (by decide) (by decide) (by decide) ?_
  refine own_aloadN (pc2 := 10) d7_9 rfl rfl rfl ?_
  exact own_refl
theorem own_eb2_2 (x2 : Addr) (x1 : Addr) :
    own_Go own_K7 prog_5_method_14_code 13 #[.val (.ref x2), .val (.ref x1), .unset] [(.ref x1)] 15 #[.val (.ref x2), .val (.ref x1), .val (.ref x1)] [(.ref x2)] := by
  refine own_astoreN (pc2 := 14) d7_13 rfl rfl (L' := #[.val (.ref x2), .val (.ref x1), .val (.ref x1)]) rfl ?_
  refine own_aloadN (pc2 := 15) d7_14 rfl rfl rfl ?_
  exact own_refl
theorem own_eb2_3 (x2 : Addr) (x1 : Addr) (q0 : UInt64) :
    own_Go own_K7 prog_5_method_14_code 18 #[.val (.ref x2), .val (.ref x1), .val (.ref x1)] [(.double q0)] 19 #[.val (.ref x2), .val (.ref x1), .val (.ref x1)] [(.ref x1), (.double q0)] := by
  refine own_aloadN (pc2 := 19) d7_18 rfl rfl rfl ?_
  exact own_refl
theorem own_eb2_4 (x2 : Addr) (x1 : Addr) :
    own_Go own_K7 prog_5_method_14_code 25 #[.val (.ref x2), .val (.ref x1), .val (.ref x1)] [(.int (0 : Int32))] 29 #[.val (.ref x2), .val (.ref x1), .val (.ref x1)] [(.ref x2)] := by
  refine own_ifNo (pc2 := 28) d7_25 rfl (by decide) ?_
  refine own_aloadN (pc2 := 29) d7_28 rfl rfl rfl ?_
  exact own_refl
theorem own_eb2_5 (x2 : Addr) (x1 : Addr) (q1 : UInt64) :
    own_Go own_K7 prog_5_method_14_code 32 #[.val (.ref x2), .val (.ref x1), .val (.ref x1)] [(.double q1)] 33 #[.val (.ref x2), .val (.ref x1), .val (.ref x1)] [(.ref x1), (.double q1)] := by
  refine own_aloadN (pc2 := 33) d7_32 rfl rfl rfl ?_
  exact own_refl
theorem own_eb2_6 (x2 : Addr) (x1 : Addr) :
    own_Go own_K7 prog_5_method_14_code 39 #[.val (.ref x2), .val (.ref x1), .val (.ref x1)] [(.int (0 : Int32))] 43 #[.val (.ref x2), .val (.ref x1), .val (.ref x1)] [(.ref x2)] := by
  refine own_ifNo (pc2 := 42) d7_39 rfl (by decide) ?_
  refine own_aloadN (pc2 := 43) d7_42 rfl rfl rfl ?_
  exact own_refl
theorem own_eb2_7 (x2 : Addr) (x1 : Addr) (q2 : UInt64) :
    own_Go own_K7 prog_5_method_14_code 46 #[.val (.ref x2), .val (.ref x1), .val (.ref x1)] [(.double q2)] 47 #[.val (.ref x2), .val (.ref x1), .val (.ref x1)] [(.ref x1), (.double q2)] := by
  refine own_aloadN (pc2 := 47) d7_46 rfl rfl rfl ?_
  exact own_refl
theorem own_eb2_8 (x2 : Addr) (x1 : Addr) (zz : Int32) (hb53 : ifCond.holds .ne zz = true) :
    own_Go own_K7 prog_5_method_14_code 53 #[.val (.ref x2), .val (.ref x1), .val (.ref x1)] [(.int zz)] 75 #[.val (.ref x2), .val (.ref x1), .val (.ref x1)] [(.int (0 : Int32))] := by
  refine own_ifYes (pc' := 74) d7_53 hb53 (by decide) (by decide) ?_
  refine own_iconst (v := 0) (pc2 := 75) d7_74 rfl rfl ?_
  exact own_refl
set_option maxRecDepth 65536 in
set_option maxHeartbeats 4000000 in
theorem own_eqb2 (l : Launch) (Z : State) (a0 : Array Value) (hb0 : own_Base) (hw : ∀ d ∈ tables_1, d.before a0 Z = true) (x2 : Addr) (x1 : Addr)  (p0 p1 p2 p3 q0 q1 q2 q3 : UInt64) (R0 S0 : Rat) (i0 : own_is q0 R0) (j0 : own_is p0 S0) (e0 : q0 = p0) (R1 S1 : Rat) (i1 : own_is q1 R1) (j1 : own_is p1 S1) (e1 : q1 = p1) (R2 S2 : Rat) (i2 : own_is q2 R2) (j2 : own_is p2 S2) (e2 : q2 ≠ p2) :
    own_Met l Z a0 hb0 (⟨"com/example/hazeline/hazeline/fuzzy/Trapezoid", "equals", "(Ljava/lang/Object;)Z"⟩ : MethodName) prog_5_method_14_code 3 (some .boolean) [] ({ frames := 3, cells := 0, slots := 0, locals := 90 } : Room) #[(.ref x2), (.ref x1)] [(x1, own_O "com/example/hazeline/hazeline/fuzzy/Trapezoid" [("com/example/hazeline/hazeline/fuzzy/Trapezoid", "a", "D", .double p0), ("com/example/hazeline/hazeline/fuzzy/Trapezoid", "b", "D", .double p1), ("com/example/hazeline/hazeline/fuzzy/Trapezoid", "c", "D", .double p2), ("com/example/hazeline/hazeline/fuzzy/Trapezoid", "d", "D", .double p3)]), (x2, own_O "com/example/hazeline/hazeline/fuzzy/Trapezoid" [("com/example/hazeline/hazeline/fuzzy/Trapezoid", "a", "D", .double q0), ("com/example/hazeline/hazeline/fuzzy/Trapezoid", "b", "D", .double q1), ("com/example/hazeline/hazeline/fuzzy/Trapezoid", "c", "D", .double q2), ("com/example/hazeline/hazeline/fuzzy/Trapezoid", "d", "D", .double q3)])] (fun r cs' => r = some (.int 0) ∧ cs' = [(x1, own_O "com/example/hazeline/hazeline/fuzzy/Trapezoid" [("com/example/hazeline/hazeline/fuzzy/Trapezoid", "a", "D", .double p0), ("com/example/hazeline/hazeline/fuzzy/Trapezoid", "b", "D", .double p1), ("com/example/hazeline/hazeline/fuzzy/Trapezoid", "c", "D", .double p2), ("com/example/hazeline/hazeline/fuzzy/Trapezoid", "d", "D", .double p3)]), (x2, own_O "com/example/hazeline/hazeline/fuzzy/Trapezoid" [("com/example/hazeline/hazeline/fuzzy/Trapezoid", "a", "D", .double q0), ("com/example/hazeline/hazeline/fuzzy/Trapezoid", "b", "D", .double q1), ("com/example/hazeline/hazeline/fuzzy/Trapezoid", "c", "D", .double q2), ("com/example/hazeline/hazeline/fuzzy/Trapezoid", "d", "D", .double q3)])]) := by
  refine own_met_of (L0 := #[.val (.ref x2), .val (.ref x1), .unset]) (plainFor_of_name own_pn7) (fun m => own_ef7 m x2 x1) ?_
  intro p e s m below meth c T0 hx hZ hown hby hml hnm H0
  obtain ⟨Teb2_1, Heb2_1, steb2_1⟩ := own_instO H0 hx hZ hown (hw _ (List.mem_of_getElem? (i := 38) rfl)) 0 rfl (g := (mkF m 1 #[.val (.ref x2), .val (.ref x1), .unset] [(.ref x1)])) rfl rfl (hb hby d7_1)
  change own_S _ _ _ _ _ _ _ _ _ _ _ _ _ _ [(x1, own_O "com/example/hazeline/hazeline/fuzzy/Trapezoid" [("com/example/hazeline/hazeline/fuzzy/Trapezoid", "a", "D", .double p0), ("com/example/hazeline/hazeline/fuzzy/Trapezoid", "b", "D", .double p1), ("com/example/hazeline/hazeline/fuzzy/Trapezoid", "c", "D", .double p2), ("com/example/hazeline/hazeline/fuzzy/Trapezoid", "d", "D", .double p3)]), (x2, own_O "com/example/hazeline/hazeline/fuzzy/Trapezoid" [("com/example/hazeline/hazeline/fuzzy/Trapezoid", "a", "D", .double q0), ("com/example/hazeline/hazeline/fuzzy/Trapezoid", "b", "D", .double q1), ("com/example/hazeline/hazeline/fuzzy/Trapezoid", "c", "D", .double q2), ("com/example/hazeline/hazeline/fuzzy/Trapezoid", "d", "D", .double q3)])] _ _ at Heb2_1
  obtain ⟨Teb2_2, Heb2_2, steb2_2⟩ := own_castO Heb2_1 hx hZ hown (hw _ (List.mem_of_getElem? (i := 38) rfl)) 0 rfl (g := (mkF m 10 #[.val (.ref x2), .val (.ref x1), .unset] [(.ref x1)])) rfl rfl (hb hby d7_10)
  change own_S _ _ _ _ _ _ _ _ _ _ _ _ _ _ [(x1, own_O "com/example/hazeline/hazeline/fuzzy/Trapezoid" [("com/example/hazeline/hazeline/fuzzy/Trapezoid", "a", "D", .double p0), ("com/example/hazeline/hazeline/fuzzy/Trapezoid", "b", "D", .double p1), ("com/example/hazeline/hazeline/fuzzy/Trapezoid", "c", "D", .double p2), ("com/example/hazeline/hazeline/fuzzy/Trapezoid", "d", "D", .double p3)]), (x2, own_O "com/example/hazeline/hazeline/fuzzy/Trapezoid" [("com/example/hazeline/hazeline/fuzzy/Trapezoid", "a", "D", .double q0), ("com/example/hazeline/hazeline/fuzzy/Trapezoid", "b", "D", .double q1), ("com/example/hazeline/hazeline/fuzzy/Trapezoid", "c", "D", .double q2), ("com/example/hazeline/hazeline/fuzzy/Trapezoid", "d", "D", .double q3)])] _ _ at Heb2_2
  obtain ⟨Teb2_3, Heb2_3, steb2_3⟩ := own_getF Heb2_2 hx hZ hown (hw _ (List.mem_of_getElem? (i := 22) rfl)) 1 0 rfl rfl (g := (mkF m 15 #[.val (.ref x2), .val (.ref x1), .val (.ref x1)] [(.ref x2)])) rfl rfl (hb hby d7_15)
  change own_S _ _ _ _ _ _ _ _ _ _ _ _ _ _ [(x1, own_O "com/example/hazeline/hazeline/fuzzy/Trapezoid" [("com/example/hazeline/hazeline/fuzzy/Trapezoid", "a", "D", .double p0), ("com/example/hazeline/hazeline/fuzzy/Trapezoid", "b", "D", .double p1), ("com/example/hazeline/hazeline/fuzzy/Trapezoid", "c", "D", .double p2), ("com/example/hazeline/hazeline/fuzzy/Trapezoid", "d", "D", .double p3)]), (x2, own_O "com/example/hazeline/hazeline/fuzzy/Trapezoid" [("com/example/hazeline/hazeline/fuzzy/Trapezoid", "a", "D", .double q0), ("com/example/hazeline/hazeline/fuzzy/Trapezoid", "b", "D", .double q1), ("com/example/hazeline/hazeline/fuzzy/Trapezoid", "c", "D", .double q2), ("com/example/hazeline/hazeline/fuzzy/Trapezoid", "d", "D", .double q3)])] _ _ at Heb2_3
  obtain ⟨Teb2_4, Heb2_4, steb2_4⟩ := own_getF Heb2_3 hx hZ hown (hw _ (List.mem_of_getElem? (i := 22) rfl)) 0 0 rfl rfl (g := (mkF m 19 #[.val (.ref x2), .val (.ref x1), .val (.ref x1)] [(.ref x1), (.double q0)])) rfl rfl (hb hby d7_19)
  change own_S _ _ _ _ _ _ _ _ _ _ _ _ _ _ [(x1, own_O "com/example/hazeline/hazeline/fuzzy/Trapezoid" [("com/example/hazeline/hazeline/fuzzy/Trapezoid", "a", "D", .double p0), ("com/example/hazeline/hazeline/fuzzy/Trapezoid", "b", "D", .double p1), ("com/example/hazeline/hazeline/fuzzy/Trapezoid", "c", "D", .double p2), ("com/example/hazeline/hazeline/fuzzy/Trapezoid", "d", "D", .double p3)]), (x2, own_O "com/example/hazeline/hazeline/fuzzy/Trapezoid" [("com/example/hazeline/hazeline/fuzzy/Trapezoid", "a", "D", .double q0), ("com/example/hazeline/hazeline/fuzzy/Trapezoid", "b", "D", .double q1), ("com/example/hazeline/hazeline/fuzzy/Trapezoid", "c", "D", .double q2), ("com/example/hazeline/hazeline/fuzzy/Trapezoid", "d", "D", .double q3)])] _ _ at Heb2_4
  obtain ⟨Teb2_5, veb2_5_, cseb2_5_, qeb2_5, Heb2_5, steb2_5⟩ := own_callS Heb2_4 hx hZ hown (hw _ (List.mem_of_getElem? (i := 40) rfl)) (hw _ (List.mem_of_getElem? (i := 41) rfl)) (hw _ (List.mem_of_getElem? (i := 15) rfl)) (hw _ (List.mem_of_getElem? (i := 42) rfl)) (by decide) (argsL := [(.double q0), (.double p0)]) (rest := []) (W := 0) (own_cmp0 l Z a0 hb0 hw q0 p0 _ _ _ i0 j0 e0) (by decide) (by decide) (by decide) (by decide) (g := (mkF m 22 #[.val (.ref x2), .val (.ref x1), .val (.ref x1)] [(.double p0), (.double q0)])) rfl (by rw [hml]; rfl) (lenOf own_pd7 rfl) rfl (by show 2 * 0 + _ ≤ _; exact Nat.le_of_eq rfl) (hb hby d7_22)
  obtain ⟨rfl, rfl⟩ := qeb2_5
  change own_S _ _ _ _ _ _ _ _ _ _ _ _ _ _ [(x1, own_O "com/example/hazeline/hazeline/fuzzy/Trapezoid" [("com/example/hazeline/hazeline/fuzzy/Trapezoid", "a", "D", .double p0), ("com/example/hazeline/hazeline/fuzzy/Trapezoid", "b", "D", .double p1), ("com/example/hazeline/hazeline/fuzzy/Trapezoid", "c", "D", .double p2), ("com/example/hazeline/hazeline/fuzzy/Trapezoid", "d", "D", .double p3)]), (x2, own_O "com/example/hazeline/hazeline/fuzzy/Trapezoid" [("com/example/hazeline/hazeline/fuzzy/Trapezoid", "a", "D", .double q0), ("com/example/hazeline/hazeline/fuzzy/Trapezoid", "b", "D", .double q1), ("com/example/hazeline/hazeline/fuzzy/Trapezoid", "c", "D", .double q2), ("com/example/hazeline/hazeline/fuzzy/Trapezoid", "d", "D", .double q3)])] _ _ at Heb2_5
  obtain ⟨Teb2_6, Heb2_6, steb2_6⟩ := own_getF Heb2_5 hx hZ hown (hw _ (List.mem_of_getElem? (i := 24) rfl)) 1 1 rfl rfl (g := (mkF m 29 #[.val (.ref x2), .val (.ref x1), .val (.ref x1)] [(.ref x2)])) rfl rfl (hb hby d7_29)
  change own_S _ _ _ _ _ _ _ _ _ _ _ _ _ _ [(x1, own_O "com/example/hazeline/hazeline/fuzzy/Trapezoid" [("com/example/hazeline/hazeline/fuzzy/Trapezoid", "a", "D", .double p0), ("com/example/hazeline/hazeline/fuzzy/Trapezoid", "b", "D", .double p1), ("com/example/hazeline/hazeline/fuzzy/Trapezoid", "c", "D", .double p2), ("com/example/hazeline/hazeline/fuzzy/Trapezoid", "d", "D", .double p3)]), (x2, own_O "com/example/hazeline/hazeline/fuzzy/Trapezoid" [("com/example/hazeline/hazeline/fuzzy/Trapezoid", "a", "D", .double q0), ("com/example/hazeline/hazeline/fuzzy/Trapezoid", "b", "D", .double q1), ("com/example/hazeline/hazeline/fuzzy/Trapezoid", "c", "D", .double q2), ("com/example/hazeline/hazeline/fuzzy/Trapezoid", "d", "D", .double q3)])] _ _ at Heb2_6
  obtain ⟨Teb2_7, Heb2_7, steb2_7⟩ := own_getF Heb2_6 hx hZ hown (hw _ (List.mem_of_getElem? (i := 24) rfl)) 0 1 rfl rfl (g := (mkF m 33 #[.val (.ref x2), .val (.ref x1), .val (.ref x1)] [(.ref x1), (.double q1)])) rfl rfl (hb hby d7_33)
  change own_S _ _ _ _ _ _ _ _ _ _ _ _ _ _ [(x1, own_O "com/example/hazeline/hazeline/fuzzy/Trapezoid" [("com/example/hazeline/hazeline/fuzzy/Trapezoid", "a", "D", .double p0), ("com/example/hazeline/hazeline/fuzzy/Trapezoid", "b", "D", .double p1), ("com/example/hazeline/hazeline/fuzzy/Trapezoid", "c", "D", .double p2), ("com/example/hazeline/hazeline/fuzzy/Trapezoid", "d", "D", .double p3)]), (x2, own_O "com/example/hazeline/hazeline/fuzzy/Trapezoid" [("com/example/hazeline/hazeline/fuzzy/Trapezoid", "a", "D", .double q0), ("com/example/hazeline/hazeline/fuzzy/Trapezoid", "b", "D", .double q1), ("com/example/hazeline/hazeline/fuzzy/Trapezoid", "c", "D", .double q2), ("com/example/hazeline/hazeline/fuzzy/Trapezoid", "d", "D", .double q3)])] _ _ at Heb2_7
  obtain ⟨Teb2_8, veb2_8_, cseb2_8_, qeb2_8, Heb2_8, steb2_8⟩ := own_callS Heb2_7 hx hZ hown (hw _ (List.mem_of_getElem? (i := 40) rfl)) (hw _ (List.mem_of_getElem? (i := 41) rfl)) (hw _ (List.mem_of_getElem? (i := 15) rfl)) (hw _ (List.mem_of_getElem? (i := 42) rfl)) (by decide) (argsL := [(.double q1), (.double p1)]) (rest := []) (W := 0) (own_cmp0 l Z a0 hb0 hw q1 p1 _ _ _ i1 j1 e1) (by decide) (by decide) (by decide) (by decide) (g := (mkF m 36 #[.val (.ref x2), .val (.ref x1), .val (.ref x1)] [(.double p1), (.double q1)])) rfl (by rw [hml]; rfl) (lenOf own_pd7 rfl) rfl (by show 2 * 0 + _ ≤ _; exact Nat.le_of_eq rfl) (hb hby d7_36)
  obtain ⟨rfl, rfl⟩ := qeb2_8
  change own_S _ _ _ _ _ _ _ _ _ _ _ _ _ _ [(x1, own_O "com/example/hazeline/hazeline/fuzzy/Trapezoid" [("com/example/hazeline/hazeline/fuzzy/Trapezoid", "a", "D", .double p0), ("com/example/hazeline/hazeline/fuzzy/Trapezoid", "b", "D", .double p1), ("com/example/hazeline/hazeline/fuzzy/Trapezoid", "c", "D", .double p2), ("com/example/hazeline/hazeline/fuzzy/Trapezoid", "d", "D", .double p3)]), (x2, own_O "com/example/hazeline/hazeline/fuzzy/Trapezoid" [("com/example/hazeline/hazeline/fuzzy/Trapezoid", "a", "D", .double q0), ("com/example/hazeline/hazeline/fuzzy/Trapezoid", "b", "D", .double q1), ("com/example/hazeline/hazeline/fuzzy/Trapezoid", "c", "D", .double q2), ("com/example/hazeline/hazeline/fuzzy/Trapezoid", "d", "D", .double q3)])] _ _ at Heb2_8
  obtain ⟨Teb2_9, Heb2_9, steb2_9⟩ := own_getF Heb2_8 hx hZ hown (hw _ (List.mem_of_getElem? (i := 26) rfl)) 1 2 rfl rfl (g := (mkF m 43 #[.val (.ref x2), .val (.ref x1), .val (.ref x1)] [(.ref x2)])) rfl rfl (hb hby d7_43)
  change own_S _ _ _ _ _ _ _ _ _ _ _ _ _ _ [(x1, own_O "com/example/hazeline/hazeline/fuzzy/Trapezoid" [("com/example/hazeline/hazeline/fuzzy/Trapezoid", "a", "D", .double p0), ("com/example/hazeline/hazeline/fuzzy/Trapezoid", "b", "D", .double p1), ("com/example/hazeline/hazeline/fuzzy/Trapezoid", "c", "D", .double p2), ("com/example/hazeline/hazeline/fuzzy/Trapezoid", "d", "D", .double p3)]), (x2, own_O "com/example/hazeline/hazeline/fuzzy/Trapezoid" [("com/example/hazeline/hazeline/fuzzy/Trapezoid", "a", "D", .double q0), ("com/example/hazeline/hazeline/fuzzy/Trapezoid", "b", "D", .double q1), ("com/example/hazeline/hazeline/fuzzy/Trapezoid", "c", "D", .double q2), ("com/example/hazeline/hazeline/fuzzy/Trapezoid", "d", "D", .double q3)])] _ _ at Heb2_9
  obtain ⟨Teb2_10, Heb2_10, steb2_10⟩ := own_getF Heb2_9 hx hZ hown (hw _ (List.mem_of_getElem? (i := 26) rfl)) 0 2 rfl rfl (g := (mkF m 47 #[.val (.ref x2), .val (.ref x1), .val (.ref x1)] [(.ref x1), (.double q2)])) rfl rfl (hb hby d7_47)
  change own_S _ _ _ _ _ _ _ _ _ _ _ _ _ _ [(x1, own_O "com/example/hazeline/hazeline/fuzzy/Trapezoid" [("com/example/hazeline/hazeline/fuzzy/Trapezoid", "a", "D", .double p0), ("com/example/hazeline/hazeline/fuzzy/Trapezoid", "b", "D", .double p1), ("com/example/hazeline/hazeline/fuzzy/Trapezoid", "c", "D", .double p2), ("com/example/hazeline/hazeline/fuzzy/Trapezoid", "d", "D", .double p3)]), (x2, own_O "com/example/hazeline/hazeline/fuzzy/Trapezoid" [("com/example/hazeline/hazeline/fuzzy/Trapezoid", "a", "D", .double q0), ("com/example/hazeline/hazeline/fuzzy/Trapezoid", "b", "D", .double q1), ("com/example/hazeline/hazeline/fuzzy/Trapezoid", "c", "D", .double q2), ("com/example/hazeline/hazeline/fuzzy/Trapezoid", "d", "D", .double q3)])] _ _ at Heb2_10
  obtain ⟨Teb2_11, veb2_11_, cseb2_11_, qeb2_11, Heb2_11, steb2_11⟩ := own_callS Heb2_10 hx hZ hown (hw _ (List.mem_of_getElem? (i := 40) rfl)) (hw _ (List.mem_of_getElem? (i := 41) rfl)) (hw _ (List.mem_of_getElem? (i := 15) rfl)) (hw _ (List.mem_of_getElem? (i := 42) rfl)) (by decide) (argsL := [(.double q2), (.double p2)]) (rest := []) (W := 0) (own_cmp1 l Z a0 hb0 hw q2 p2 _ _ _ i2 j2 e2) (by decide) (by decide) (by decide) (by decide) (g := (mkF m 50 #[.val (.ref x2), .val (.ref x1), .val (.ref x1)] [(.double p2), (.double q2)])) rfl (by rw [hml]; rfl) (lenOf own_pd7 rfl) rfl (by show 2 * 0 + _ ≤ _; exact Nat.le_of_eq rfl) (hb hby d7_50)
  obtain ⟨zz, hzz, rfl, rfl⟩ := qeb2_11
  change own_S _ _ _ _ _ _ _ _ _ _ _ _ _ _ [(x1, own_O "com/example/hazeline/hazeline/fuzzy/Trapezoid" [("com/example/hazeline/hazeline/fuzzy/Trapezoid", "a", "D", .double p0), ("com/example/hazeline/hazeline/fuzzy/Trapezoid", "b", "D", .double p1), ("com/example/hazeline/hazeline/fuzzy/Trapezoid", "c", "D", .double p2), ("com/example/hazeline/hazeline/fuzzy/Trapezoid", "d", "D", .double p3)]), (x2, own_O "com/example/hazeline/hazeline/fuzzy/Trapezoid" [("com/example/hazeline/hazeline/fuzzy/Trapezoid", "a", "D", .double q0), ("com/example/hazeline/hazeline/fuzzy/Trapezoid", "b", "D", .double q1), ("com/example/hazeline/hazeline/fuzzy/Trapezoid", "c", "D", .double q2), ("com/example/hazeline/hazeline/fuzzy/Trapezoid", "d", "D", .double q3)])] _ _ at Heb2_11
  have hb53 : ifCond.holds .ne zz = true := by rw [own_z_ne]; exact decide_eq_true hzz
  refine ⟨_, _, _, _, 75, #[.val (.ref x2), .val (.ref x1), .val (.ref x1)], Heb2_11, by decide, by decide, Or.inr ⟨.boolean, (.int (0 : Int32)), [], .ireturn, rfl, ⟨rfl, rfl⟩, d7_75, own_retZ (Or.inl rfl), fun target q => ?_⟩⟩
  refine own_go H0 hx hZ hown hby hw own_K7_ok (own_eb2_0 x2 x1) _ ?_
  refine steb2_1 _ ?_
  refine own_go Heb2_1 hx hZ hown hby hw own_K7_ok (own_eb2_1 x2 x1) _ ?_
  refine steb2_2 _ ?_
  refine own_go Heb2_2 hx hZ hown hby hw own_K7_ok (own_eb2_2 x2 x1) _ ?_
  refine steb2_3 _ ?_
  refine own_go Heb2_3 hx hZ hown hby hw own_K7_ok (own_eb2_3 x2 x1 q0) _ ?_
  refine steb2_4 _ ?_
  refine steb2_5 _ ?_
  refine own_go Heb2_5 hx hZ hown hby hw own_K7_ok (own_eb2_4 x2 x1) _ ?_
  refine steb2_6 _ ?_
  refine own_go Heb2_6 hx hZ hown hby hw own_K7_ok (own_eb2_5 x2 x1 q1) _ ?_
  refine steb2_7 _ ?_
  refine steb2_8 _ ?_
  refine own_go Heb2_8 hx hZ hown hby hw own_K7_ok (own_eb2_6 x2 x1) _ ?_
  refine steb2_9 _ ?_
  refine own_go Heb2_9 hx hZ hown hby hw own_K7_ok (own_eb2_7 x2 x1 q2) _ ?_
  refine steb2_10 _ ?_
  refine steb2_11 _ ?_
  refine own_go Heb2_11 hx hZ hown hby hw own_K7_ok (own_eb2_8 x2 x1 zz hb53) _ ?_
  exact q
theorem own_eb3_0 (x2 : Addr) (x1 : Addr) :
    own_Go own_K7 prog_5_method_14_code 0 #[.val (.ref x2), .val (.ref x1), .unset] [] 1 #[.val (.ref x2), .val (.ref x1), .unset] [(.ref x1)] := by
  refine own_aloadN (pc2 := 1) d7_0 rfl rfl rfl ?_
  exact own_refl
theorem own_eb3_1 (x2 : Addr) (x1 : Addr) :
    own_Go own_K7 prog_5_method_14_code 4 #[.val (.ref x2), .val (.ref x1), .unset] [(.int (1 : Int32))] 10 #[.val (.ref x2), .val (.ref x1), .unset] [(.ref x1)] := by
  refine own_ifYes (pc' := 9) d7_4 (by decide) (by decide) (by decide) ?_
  refine own_aloadN (pc2 := 10) d7_9 rfl rfl rfl ?_
  exact own_refl
theorem own_eb3_2 (x2 : Addr) (x1 : Addr) :
    own_Go own_K7 prog_5_method_14_code 13 #[.val (.ref x2), .val (.ref x1), .unset] [(.ref x1)] 15 #[.val (.ref x2), .val (.ref x1), .val (.ref x1)] [(.ref x2)] := by
  refine own_astoreN (pc2 := 14) d7_13 rfl rfl (L' := #[.val (.ref x2), .val (.ref x1), .val (.ref x1)]) rfl ?_
  refine own_aloadN (pc2 := 15) d7_14 rfl rfl rfl ?_
  exact own_refl
theorem own_eb3_3 (x2 : Addr) (x1 : Addr) (q0 : UInt64) :
    own_Go own_K7 prog_5_method_14_code 18 #[.val (.ref x2), .val (.ref x1), .val (.ref x1)] [(.double q0)] 19 #[.val (.ref x2), .val (.ref x1), .val (.ref x1)] [(.ref x1), (.double q0)] := by
  refine own_aloadN (pc2 := 19) d7_18 rfl rfl rfl ?_
  exact own_refl
theorem own_eb3_4 (x2 : Addr) (x1 : Addr) :
    own_Go own_K7 prog_5_method_14_code 25 #[.val (.ref x2), .val (.ref x1), .val (.ref x1)] [(.int (0 : Int32))] 29 #[.val (.ref x2), .val (.ref x1), .val (.ref x1)] [(.ref x2)] := by
  refine own_ifNo (pc2 := 28) d7_25 rfl (by decide) ?_
  refine own_aloadN (pc2 := 29) d7_28 rfl rfl rfl ?_
  exact own_refl
theorem own_eb3_5 (x2 : Addr) (x1 : Addr) (q1 : UInt64) :
    own_Go own_K7 prog_5_method_14_code 32 #[.val (.ref x2), .val (.ref x1), .val (.ref x1)] [(.double q1)] 33 #[.val (.ref x2), .val (.ref x1), .val (.ref x1)] [(.ref x1), (.double q1)] := by
  refine own_aloadN (pc2 := 33) d7_32 rfl rfl rfl ?_
  exact own_refl
theorem own_eb3_6 (x2 : Addr) (x1 : Addr) :
    own_Go own_K7 prog_5_method_14_code 39 #[.val (.ref x2), .val (.ref x1), .val (.ref x1)] [(.int (0 : Int32))] 43 #[.val (.ref x2), .val (.ref x1), .val (.ref x1)] [(.ref x2)] := by
  refine own_ifNo (pc2 := 42) d7_39 rfl (by decide) ?_
  refine own_aloadN (pc2 := 43) d7_42 rfl rfl rfl ?_
  exact own_refl
theorem own_eb3_7 (x2 : Addr) (x1 : Addr) (q2 : UInt64) :
    own_Go own_K7 prog_5_method_14_code 46 #[.val (.ref x2), .val (.ref x1), .val (.ref x1)] [(.double q2)] 47 #[.val (.ref x2), .val (.ref x1), .val (.ref x1)] [(.ref x1), (.double q2)] := by
  refine own_aloadN (pc2 := 47) d7_46 rfl rfl rfl ?_
  exact own_refl
theorem own_eb3_8 (x2 : Addr) (x1 : Addr) :
    own_Go own_K7 prog_5_method_14_code 53 #[.val (.ref x2), .val (.ref x1), .val (.ref x1)] [(.int (0 : Int32))] 57 #[.val (.ref x2), .val (.ref x1), .val (.ref x1)] [(.ref x2)] := by
  refine own_ifNo (pc2 := 56) d7_53 rfl (by decide) ?_
  refine own_aloadN (pc2 := 57) d7_56 rfl rfl rfl ?_
  exact own_refl
theorem own_eb3_9 (x2 : Addr) (x1 : Addr) (q3 : UInt64) :
    own_Go own_K7 prog_5_method_14_code 60 #[.val (.ref x2), .val (.ref x1), .val (.ref x1)] [(.double q3)] 61 #[.val (.ref x2), .val (.ref x1), .val (.ref x1)] [(.ref x1), (.double q3)] := by
  refine own_aloadN (pc2 := 61) d7_60 rfl rfl rfl ?_
  exact own_refl
theorem own_eb3_10 (x2 : Addr) (x1 : Addr) (zz : Int32) (hb67 : ifCond.holds .ne zz = true) :
    own_Go own_K7 prog_5_method_14_code 67 #[.val (.ref x2), .val (.ref x1), .val (.ref x1)] [(.int zz)] 75 #[.val (.ref x2), .val (.ref x1), .val (.ref x1)] [(.int (0 : Int32))] := by
  refine own_ifYes (pc' := 74) d7_67 hb67 (by decide) (by decide) ?_
  refine own_iconst (v := 0) (pc2 := 75) d7_74 rfl rfl ?_
  exact own_refl
set_option maxRecDepth 65536 in
set_option maxHeartbeats 4000000 in
theorem own_eqb3 (l : Launch) (Z : State) (a0 : Array Value) (hb0 : own_Base) (hw : ∀ d ∈ tables_1, d.before a0 Z = true) (x2 : Addr) (x1 : Addr)  (p0 p1 p2 p3 q0 q1 q2 q3 : UInt64) (R0 S0 : Rat) (i0 : own_is q0 R0) (j0 : own_is p0 S0) (e0 : q0 = p0) (R1 S1 : Rat) (i1 : own_is q1 R1) (j1 : own_is p1 S1) (e1 : q1 = p1) (R2 S2 : Rat) (i2 : own_is q2 R2) (j2 : own_is p2 S2) (e2 : q2 = p2) (R3 S3 : Rat) (i3 : own_is q3 R3) (j3 : own_is p3 S3) (e3 : q3 ≠ p3) :
    own_Met l Z a0 hb0 (⟨"com/example/hazeline/hazeline/fuzzy/Trapezoid", "equals", "(Ljava/lang/Object;)Z"⟩ : MethodName) prog_5_method_14_code 3 (some .boolean) [] ({ frames := 3, cells := 0, slots := 0, locals := 90 } : Room) #[(.ref x2), (.ref x1)] [(x1, own_O "com/example/hazeline/hazeline/fuzzy/Trapezoid" [("com/example/hazeline/hazeline/fuzzy/Trapezoid", "a", "D", .double p0), ("com/example/hazeline/hazeline/fuzzy/Trapezoid", "b", "D", .double p1), ("com/example/hazeline/hazeline/fuzzy/Trapezoid", "c", "D", .double p2), ("com/example/hazeline/hazeline/fuzzy/Trapezoid", "d", "D", .double p3)]), (x2, own_O "com/example/hazeline/hazeline/fuzzy/Trapezoid" [("com/example/hazeline/hazeline/fuzzy/Trapezoid", "a", "D", .double q0), ("com/example/hazeline/hazeline/fuzzy/Trapezoid", "b", "D", .double q1), ("com/example/hazeline/hazeline/fuzzy/Trapezoid", "c", "D", .double q2), ("com/example/hazeline/hazeline/fuzzy/Trapezoid", "d", "D", .double q3)])] (fun r cs' => r = some (.int 0) ∧ cs' = [(x1, own_O "com/example/hazeline/hazeline/fuzzy/Trapezoid" [("com/example/hazeline/hazeline/fuzzy/Trapezoid", "a", "D", .double p0), ("com/example/hazeline/hazeline/fuzzy/Trapezoid", "b", "D", .double p1), ("com/example/hazeline/hazeline/fuzzy/Trapezoid", "c", "D", .double p2), ("com/example/hazeline/hazeline/fuzzy/Trapezoid", "d", "D", .double p3)]), (x2, own_O "com/example/hazeline/hazeline/fuzzy/Trapezoid" [("com/example/hazeline/hazeline/fuzzy/Trapezoid", "a", "D", .double q0), ("com/example/hazeline/hazeline/fuzzy/Trapezoid", "b", "D", .double q1), ("com/example/hazeline/hazeline/fuzzy/Trapezoid", "c", "D", .double q2), ("com/example/hazeline/hazeline/fuzzy/Trapezoid", "d", "D", .double q3)])]) := by
  refine own_met_of (L0 := #[.val (.ref x2), .val (.ref x1), .unset]) (plainFor_of_name own_pn7) (fun m => own_ef7 m x2 x1) ?_
  intro p e s m below meth c T0 hx hZ hown hby hml hnm H0
  obtain ⟨Teb3_1, Heb3_1, steb3_1⟩ := own_instO H0 hx hZ hown (hw _ (List.mem_of_getElem? (i := 38) rfl)) 0 rfl (g := (mkF m 1 #[.val (.ref x2), .val (.ref x1), .unset] [(.ref x1)])) rfl rfl (hb hby d7_1)
  change own_S _ _ _ _ _ _ _ _ _ _ _ _ _ _ [(x1, own_O "com/example/hazeline/hazeline/fuzzy/Trapezoid" [("com/example/hazeline/hazeline/fuzzy/Trapezoid", "a", "D", .double p0), ("com/example/hazeline/hazeline/fuzzy/Trapezoid", "b", "D", .double p1), ("com/example/hazeline/hazeline/fuzzy/Trapezoid", "c", "D", .double p2), ("com/example/hazeline/hazeline/fuzzy/Trapezoid", "d", "D", .double p3)]), (x2, own_O "com/example/hazeline/hazeline/fuzzy/Trapezoid" [("com/example/hazeline/hazeline/fuzzy/Trapezoid", "a", "D", .double q0), ("com/example/hazeline/hazeline/fuzzy/Trapezoid", "b", "D", .double q1), ("com/example/hazeline/hazeline/fuzzy/Trapezoid", "c", "D", .double q2), ("com/example/hazeline/hazeline/fuzzy/Trapezoid", "d", "D", .double q3)])] _ _ at Heb3_1
  obtain ⟨Teb3_2, Heb3_2, steb3_2⟩ := own_castO Heb3_1 hx hZ hown (hw _ (List.mem_of_getElem? (i := 38) rfl)) 0 rfl (g := (mkF m 10 #[.val (.ref x2), .val (.ref x1), .unset] [(.ref x1)])) rfl rfl (hb hby d7_10)
  change own_S _ _ _ _ _ _ _ _ _ _ _ _ _ _ [(x1, own_O "com/example/hazeline/hazeline/fuzzy/Trapezoid" [("com/example/hazeline/hazeline/fuzzy/Trapezoid", "a", "D", .double p0), ("com/example/hazeline/hazeline/fuzzy/Trapezoid", "b", "D", .double p1), ("com/example/hazeline/hazeline/fuzzy/Trapezoid", "c", "D", .double p2), ("com/example/hazeline/hazeline/fuzzy/Trapezoid", "d", "D", .double p3)]), (x2, own_O "com/example/hazeline/hazeline/fuzzy/Trapezoid" [("com/example/hazeline/hazeline/fuzzy/Trapezoid", "a", "D", .double q0), ("com/example/hazeline/hazeline/fuzzy/Trapezoid", "b", "D", .double q1), ("com/example/hazeline/hazeline/fuzzy/Trapezoid", "c", "D", .double q2), ("com/example/hazeline/hazeline/fuzzy/Trapezoid", "d", "D", .double q3)])] _ _ at Heb3_2
  obtain ⟨Teb3_3, Heb3_3, steb3_3⟩ := own_getF Heb3_2 hx hZ hown (hw _ (List.mem_of_getElem? (i := 22) rfl)) 1 0 rfl rfl (g := (mkF m 15 #[.val (.ref x2), .val (.ref x1), .val (.ref x1)] [(.ref x2)])) rfl rfl (hb hby d7_15)
  change own_S _ _ _ _ _ _ _ _ _ _ _ _ _ _ [(x1, own_O "com/example/hazeline/hazeline/fuzzy/Trapezoid" [("com/example/hazeline/hazeline/fuzzy/Trapezoid", "a", "D", .double p0), ("com/example/hazeline/hazeline/fuzzy/Trapezoid", "b", "D", .double p1), ("com/example/hazeline/hazeline/fuzzy/Trapezoid", "c", "D", .double p2), ("com/example/hazeline/hazeline/fuzzy/Trapezoid", "d", "D", .double p3)]), (x2, own_O "com/example/hazeline/hazeline/fuzzy/Trapezoid" [("com/example/hazeline/hazeline/fuzzy/Trapezoid", "a", "D", .double q0), ("com/example/hazeline/hazeline/fuzzy/Trapezoid", "b", "D", .double q1), ("com/example/hazeline/hazeline/fuzzy/Trapezoid", "c", "D", .double q2), ("com/example/hazeline/hazeline/fuzzy/Trapezoid", "d", "D", .double q3)])] _ _ at Heb3_3
  obtain ⟨Teb3_4, Heb3_4, steb3_4⟩ := own_getF Heb3_3 hx hZ hown (hw _ (List.mem_of_getElem? (i := 22) rfl)) 0 0 rfl rfl (g := (mkF m 19 #[.val (.ref x2), .val (.ref x1), .val (.ref x1)] [(.ref x1), (.double q0)])) rfl rfl (hb hby d7_19)
  change own_S _ _ _ _ _ _ _ _ _ _ _ _ _ _ [(x1, own_O "com/example/hazeline/hazeline/fuzzy/Trapezoid" [("com/example/hazeline/hazeline/fuzzy/Trapezoid", "a", "D", .double p0), ("com/example/hazeline/hazeline/fuzzy/Trapezoid", "b", "D", .double p1), ("com/example/hazeline/hazeline/fuzzy/Trapezoid", "c", "D", .double p2), ("com/example/hazeline/hazeline/fuzzy/Trapezoid", "d", "D", .double p3)]), (x2, own_O "com/example/hazeline/hazeline/fuzzy/Trapezoid" [("com/example/hazeline/hazeline/fuzzy/Trapezoid", "a", "D", .double q0), ("com/example/hazeline/hazeline/fuzzy/Trapezoid", "b", "D", .double q1), ("com/example/hazeline/hazeline/fuzzy/Trapezoid", "c", "D", .double q2), ("com/example/hazeline/hazeline/fuzzy/Trapezoid", "d", "D", .double q3)])] _ _ at Heb3_4
  obtain ⟨Teb3_5, veb3_5_, cseb3_5_, qeb3_5, Heb3_5, steb3_5⟩ := own_callS Heb3_4 hx hZ hown (hw _ (List.mem_of_getElem? (i := 40) rfl)) (hw _ (List.mem_of_getElem? (i := 41) rfl)) (hw _ (List.mem_of_getElem? (i := 15) rfl)) (hw _ (List.mem_of_getElem? (i := 42) rfl)) (by decide) (argsL := [(.double q0), (.double p0)]) (rest := []) (W := 0) (own_cmp0 l Z a0 hb0 hw q0 p0 _ _ _ i0 j0 e0) (by decide) (by decide) (by decide) (by decide) (g := (mkF m 22 #[.val (.ref x2), .val (.ref x1), .val (.ref x1)] [(.double p0), (.double q0)])) rfl (by rw [hml]; rfl) (lenOf own_pd7 rfl) rfl (by show 2 * 0 + _ ≤ _; exact Nat.le_of_eq rfl) (hb hby d7_22)
  obtain ⟨rfl, rfl⟩ := qeb3_5
  change own_S _ _ _ _ _ _ _ _ _ _ _ _ _ _ [(x1, own_O "com/example/hazeline/hazeline/fuzzy/Trapezoid" [("com/example/hazeline/hazeline/fuzzy/Trapezoid", "a", "D", .double p0), ("com/example/hazeline/hazeline/fuzzy/Trapezoid", "b", "D", .double p1), ("com/example/hazeline/hazeline/fuzzy/Trapezoid", "c", "D", .double p2), ("com/example/hazeline/hazeline/fuzzy/Trapezoid", "d", "D", .double p3)]), (x2, own_O "com/example/hazeline/hazeline/fuzzy/Trapezoid" [("com/example/hazeline/hazeline/fuzzy/Trapezoid", "a", "D", .double q0), ("com/example/hazeline/hazeline/fuzzy/Trapezoid", "b", "D", .double q1), ("com/example/hazeline/hazeline/fuzzy/Trapezoid", "c", "D", .double q2), ("com/example/hazeline/hazeline/fuzzy/Trapezoid", "d", "D", .double q3)])] _ _ at Heb3_5
  obtain ⟨Teb3_6, Heb3_6, steb3_6⟩ := own_getF Heb3_5 hx hZ hown (hw _ (List.mem_of_getElem? (i := 24) rfl)) 1 1 rfl rfl (g := (mkF m 29 #[.val (.ref x2), .val (.ref x1), .val (.ref x1)] [(.ref x2)])) rfl rfl (hb hby d7_29)
  change own_S _ _ _ _ _ _ _ _ _ _ _ _ _ _ [(x1, own_O "com/example/hazeline/hazeline/fuzzy/Trapezoid" [("com/example/hazeline/hazeline/fuzzy/Trapezoid", "a", "D", .double p0), ("com/example/hazeline/hazeline/fuzzy/Trapezoid", "b", "D", .double p1), ("com/example/hazeline/hazeline/fuzzy/Trapezoid", "c", "D", .double p2), ("com/example/hazeline/hazeline/fuzzy/Trapezoid", "d", "D", .double p3)]), (x2, own_O "com/example/hazeline/hazeline/fuzzy/Trapezoid" [("com/example/hazeline/hazeline/fuzzy/Trapezoid", "a", "D", .double q0), ("com/example/hazeline/hazeline/fuzzy/Trapezoid", "b", "D", .double q1), ("com/example/hazeline/hazeline/fuzzy/Trapezoid", "c", "D", .double q2), ("com/example/hazeline/hazeline/fuzzy/Trapezoid", "d", "D", .double q3)])] _ _ at Heb3_6
  obtain ⟨Teb3_7, Heb3_7, steb3_7⟩ := own_getF Heb3_6 hx hZ hown (hw _ (List.mem_of_getElem? (i := 24) rfl)) 0 1 rfl rfl (g := (mkF m 33 #[.val (.ref x2), .val (.ref x1), .val (.ref x1)] [(.ref x1), (.double q1)])) rfl rfl (hb hby d7_33)
  change own_S _ _ _ _ _ _ _ _ _ _ _ _ _ _ [(x1, own_O "com/example/hazeline/hazeline/fuzzy/Trapezoid" [("com/example/hazeline/hazeline/fuzzy/Trapezoid", "a", "D", .double p0), ("com/example/hazeline/hazeline/fuzzy/Trapezoid", "b", "D", .double p1), ("com/example/hazeline/hazeline/fuzzy/Trapezoid", "c", "D", .double p2), ("com/example/hazeline/hazeline/fuzzy/Trapezoid", "d", "D", .double p3)]), (x2, own_O "com/example/hazeline/hazeline/fuzzy/Trapezoid" [("com/example/hazeline/hazeline/fuzzy/Trapezoid", "a", "D", .double q0), ("com/example/hazeline/hazeline/fuzzy/Trapezoid", "b", "D", .double q1), ("com/example/hazeline/hazeline/fuzzy/Trapezoid", "c", "D", .double q2), ("com/example/hazeline/hazeline/fuzzy/Trapezoid", "d", "D", .double q3)])] _ _ at Heb3_7
  obtain ⟨Teb3_8, veb3_8_, cseb3_8_, qeb3_8, Heb3_8, steb3_8⟩ := own_callS Heb3_7 hx hZ hown (hw _ (List.mem_of_getElem? (i := 40) rfl)) (hw _ (List.mem_of_getElem? (i := 41) rfl)) (hw _ (List.mem_of_getElem? (i := 15) rfl)) (hw _ (List.mem_of_getElem? (i := 42) rfl)) (by decide) (argsL := [(.double q1), (.double p1)]) (rest := []) (W := 0) (own_cmp0 l Z a0 hb0 hw q1 p1 _ _ _ i1 j1 e1) (by decide) (by decide) (by decide) (by decide) (g := (mkF m 36 #[.val (.ref x2), .val (.ref x1), .val (.ref x1)] [(.double p1), (.double q1)])) rfl (by rw [hml]; rfl) (lenOf own_pd7 rfl) rfl (by show 2 * 0 + _ ≤ _; exact Nat.le_of_eq rfl) (hb hby d7_36)
  obtain ⟨rfl, rfl⟩ := qeb3_8
  change own_S _ _ _ _ _ _ _ _ _ _ _ _ _ _ [(x1, own_O "com/example/hazeline/hazeline/fuzzy/Trapezoid" [("com/example/hazeline/hazeline/fuzzy/Trapezoid", "a", "D", .double p0), ("com/example/hazeline/hazeline/fuzzy/Trapezoid", "b", "D", .double p1), ("com/example/hazeline/hazeline/fuzzy/Trapezoid", "c", "D", .double p2), ("com/example/hazeline/hazeline/fuzzy/Trapezoid", "d", "D", .double p3)]), (x2, own_O "com/example/hazeline/hazeline/fuzzy/Trapezoid" [("com/example/hazeline/hazeline/fuzzy/Trapezoid", "a", "D", .double q0), ("com/example/hazeline/hazeline/fuzzy/Trapezoid", "b", "D", .double q1), ("com/example/hazeline/hazeline/fuzzy/Trapezoid", "c", "D", .double q2), ("com/example/hazeline/hazeline/fuzzy/Trapezoid", "d", "D", .double q3)])] _ _ at Heb3_8
  obtain ⟨Teb3_9, Heb3_9, steb3_9⟩ := own_getF Heb3_8 hx hZ hown (hw _ (List.mem_of_getElem? (i := 26) rfl)) 1 2 rfl rfl (g := (mkF m 43 #[.val (.ref x2), .val (.ref x1), .val (.ref x1)] [(.ref x2)])) rfl rfl (hb hby d7_43)
  change own_S _ _ _ _ _ _ _ _ _ _ _ _ _ _ [(x1, own_O "com/example/hazeline/hazeline/fuzzy/Trapezoid" [("com/example/hazeline/hazeline/fuzzy/Trapezoid", "a", "D", .double p0), ("com/example/hazeline/hazeline/fuzzy/Trapezoid", "b", "D", .double p1), ("com/example/hazeline/hazeline/fuzzy/Trapezoid", "c", "D", .double p2), ("com/example/hazeline/hazeline/fuzzy/Trapezoid", "d", "D", .double p3)]), (x2, own_O "com/example/hazeline/hazeline/fuzzy/Trapezoid" [("com/example/hazeline/hazeline/fuzzy/Trapezoid", "a", "D", .double q0), ("com/example/hazeline/hazeline/fuzzy/Trapezoid", "b", "D", .double q1), ("com/example/hazeline/hazeline/fuzzy/Trapezoid", "c", "D", .double q2), ("com/example/hazeline/hazeline/fuzzy/Trapezoid", "d", "D", .double q3)])] _ _ at Heb3_9
  obtain ⟨Teb3_10, Heb3_10, steb3_10⟩ := own_getF Heb3_9 hx hZ hown (hw _ (List.mem_of_getElem? (i := 26) rfl)) 0 2 rfl rfl (g := (mkF m 47 #[.val (.ref x2), .val (.ref x1), .val (.ref x1)] [(.ref x1), (.double q2)])) rfl rfl (hb hby d7_47)
  change own_S _ _ _ _ _ _ _ _ _ _ _ _ _ _ [(x1, own_O "com/example/hazeline/hazeline/fuzzy/Trapezoid" [("com/example/hazeline/hazeline/fuzzy/Trapezoid", "a", "D", .double p0), ("com/example/hazeline/hazeline/fuzzy/Trapezoid", "b", "D", .double p1), ("com/example/hazeline/hazeline/fuzzy/Trapezoid", "c", "D", .double p2), ("com/example/hazeline/hazeline/fuzzy/Trapezoid", "d", "D", .double p3)]), (x2, own_O "com/example/hazeline/hazeline/fuzzy/Trapezoid" [("com/example/hazeline/hazeline/fuzzy/Trapezoid", "a", "D", .double q0), ("com/example/hazeline/hazeline/fuzzy/Trapezoid", "b", "D", .double q1), ("com/example/hazeline/hazeline/fuzzy/Trapezoid", "c", "D", .double q2), ("com/example/hazeline/hazeline/fuzzy/Trapezoid", "d", "D", .double q3)])] _ _ at Heb3_10
  obtain ⟨Teb3_11, veb3_11_, cseb3_11_, qeb3_11, Heb3_11, steb3_11⟩ := own_callS Heb3_10 hx hZ hown (hw _ (List.mem_of_getElem? (i := 40) rfl)) (hw _ (List.mem_of_getElem? (i := 41) rfl)) (hw _ (List.mem_of_getElem? (i := 15) rfl)) (hw _ (List.mem_of_getElem? (i := 42) rfl)) (by decide) (argsL := [(.double q2), (.double p2)]) (rest := []) (W := 0) (own_cmp0 l Z a0 hb0 hw q2 p2 _ _ _ i2 j2 e2) (by decide) (by decide) (by decide) (by decide) (g := (mkF m 50 #[.val (.ref x2), .val (.ref x1), .val (.ref x1)] [(.double p2), (.double q2)])) rfl (by rw [hml]; rfl) (lenOf own_pd7 rfl) rfl (by show 2 * 0 + _ ≤ _; exact Nat.le_of_eq rfl) (hb hby d7_50)
  obtain ⟨rfl, rfl⟩ := qeb3_11
  change own_S _ _ _ _ _ _ _ _ _ _ _ _ _ _ [(x1, own_O "com/example/hazeline/hazeline/fuzzy/Trapezoid" [("com/example/hazeline/hazeline/fuzzy/Trapezoid", "a", "D", .double p0), ("com/example/hazeline/hazeline/fuzzy/Trapezoid", "b", "D", .double p1), ("com/example/hazeline/hazeline/fuzzy/Trapezoid", "c", "D", .double p2), ("com/example/hazeline/hazeline/fuzzy/Trapezoid", "d", "D", .double p3)]), (x2, own_O "com/example/hazeline/hazeline/fuzzy/Trapezoid" [("com/example/hazeline/hazeline/fuzzy/Trapezoid", "a", "D", .double q0), ("com/example/hazeline/hazeline/fuzzy/Trapezoid", "b", "D", .double q1), ("com/example/hazeline/hazeline/fuzzy/Trapezoid", "c", "D", .double q2), ("com/example/hazeline/hazeline/fuzzy/Trapezoid", "d", "D", .double q3)])] _ _ at Heb3_11
  obtain ⟨Teb3_12, Heb3_12, steb3_12⟩ := own_getF Heb3_11 hx hZ hown (hw _ (List.mem_of_getElem? (i := 28) rfl)) 1 3 rfl rfl (g := (mkF m 57 #[.val (.ref x2), .val (.ref x1), .val (.ref x1)] [(.ref x2)])) rfl rfl (hb hby d7_57)
  change own_S _ _ _ _ _ _ _ _ _ _ _ _ _ _ [(x1, own_O "com/example/hazeline/hazeline/fuzzy/Trapezoid" [("com/example/hazeline/hazeline/fuzzy/Trapezoid", "a", "D", .double p0), ("com/example/hazeline/hazeline/fuzzy/Trapezoid", "b", "D", .double p1), ("com/example/hazeline/hazeline/fuzzy/Trapezoid", "c", "D", .double p2), ("com/example/hazeline/hazeline/fuzzy/Trapezoid", "d", "D", .double p3)]), (x2, own_O "com/example/hazeline/hazeline/fuzzy/Trapezoid" [("com/example/hazeline/hazeline/fuzzy/Trapezoid", "a", "D", .double q0), ("com/example/hazeline/hazeline/fuzzy/Trapezoid", "b", "D", .double q1), ("com/example/hazeline/hazeline/fuzzy/Trapezoid", "c", "D", .double q2), ("com/example/hazeline/hazeline/fuzzy/Trapezoid", "d", "D", .double q3)])] _ _ at Heb3_12
  obtain ⟨Teb3_13, Heb3_13, steb3_13⟩ := own_getF Heb3_12 hx hZ hown (hw _ (List.mem_of_getElem? (i := 28) rfl)) 0 3 rfl rfl (g := (mkF m 61 #[.val (.ref x2), .val (.ref x1), .val (.ref x1)] [(.ref x1), (.double q3)])) rfl rfl (hb hby d7_61)
  change own_S _ _ _ _ _ _ _ _ _ _ _ _ _ _ [(x1, own_O "com/example/hazeline/hazeline/fuzzy/Trapezoid" [("com/example/hazeline/hazeline/fuzzy/Trapezoid", "a", "D", .double p0), ("com/example/hazeline/hazeline/fuzzy/Trapezoid", "b", "D", .double p1), ("com/example/hazeline/hazeline/fuzzy/Trapezoid", "c", "D", .double p2), ("com/example/hazeline/hazeline/fuzzy/Trapezoid", "d", "D", .double p3)]), (x2, own_O "com/example/hazeline/hazeline/fuzzy/Trapezoid" [("com/example/hazeline/hazeline/fuzzy/Trapezoid", "a", "D", .double q0), ("com/example/hazeline/hazeline/fuzzy/Trapezoid", "b", "D", .double q1), ("com/example/hazeline/hazeline/fuzzy/Trapezoid", "c", "D", .double q2), ("com/example/hazeline/hazeline/fuzzy/Trapezoid", "d", "D", .double q3)])] _ _ at Heb3_13
  obtain ⟨Teb3_14, veb3_14_, cseb3_14_, qeb3_14, Heb3_14, steb3_14⟩ := own_callS Heb3_13 hx hZ hown (hw _ (List.mem_of_getElem? (i := 40) rfl)) (hw _ (List.mem_of_getElem? (i := 41) rfl)) (hw _ (List.mem_of_getElem? (i := 15) rfl)) (hw _ (List.mem_of_getElem? (i := 42) rfl)) (by decide) (argsL := [(.double q3), (.double p3)]) (rest := []) (W := 0) (own_cmp1 l Z a0 hb0 hw q3 p3 _ _ _ i3 j3 e3) (by decide) (by decide) (by decide) (by decide) (g := (mkF m 64 #[.val (.ref x2), .val (.ref x1), .val (.ref x1)] [(.double p3), (.double q3)])) rfl (by rw [hml]; rfl) (lenOf own_pd7 rfl) rfl (by show 2 * 0 + _ ≤ _; exact Nat.le_of_eq rfl) (hb hby d7_64)
  obtain ⟨zz, hzz, rfl, rfl⟩ := qeb3_14
  change own_S _ _ _ _ _ _ _ _ _ _ _ _ _ _ [(x1, own_O "com/example/hazeline/hazeline/fuzzy/Trapezoid" [("com/example/hazeline/hazeline/fuzzy/Trapezoid", "a", "D", .double p0), ("com/example/hazeline/hazeline/fuzzy/Trapezoid", "b", "D", .double p1), ("com/example/hazeline/hazeline/fuzzy/Trapezoid", "c", "D", .double p2), ("com/example/hazeline/hazeline/fuzzy/Trapezoid", "d", "D", .double p3)]), (x2, own_O "com/example/hazeline/hazeline/fuzzy/Trapezoid" [("com/example/hazeline/hazeline/fuzzy/Trapezoid", "a", "D", .double q0), ("com/example/hazeline/hazeline/fuzzy/Trapezoid", "b", "D", .double q1), ("com/example/hazeline/hazeline/fuzzy/Trapezoid", "c", "D", .double q2), ("com/example/hazeline/hazeline/fuzzy/Trapezoid", "d", "D", .double q3)])] _ _ at Heb3_14
  have hb67 : ifCond.holds .ne zz = true := by rw [own_z_ne]; exact decide_eq_true hzz
  refine ⟨_, _, _, _, 75, #[.val (.ref x2), .val (.ref x1), .val (.ref x1)], Heb3_14, by decide, by decide, Or.inr ⟨.boolean, (.int (0 : Int32)), [], .ireturn, rfl, ⟨rfl, rfl⟩, d7_75, own_retZ (Or.inl rfl), fun target q => ?_⟩⟩
  refine own_go H0 hx hZ hown hby hw own_K7_ok (own_eb3_0 x2 x1) _ ?_
  refine steb3_1 _ ?_
  refine own_go Heb3_1 hx hZ hown hby hw own_K7_ok (own_eb3_1 x2 x1) _ ?_
  refine steb3_2 _ ?_
  refine own_go Heb3_2 hx hZ hown hby hw own_K7_ok (own_eb3_2 x2 x1) _ ?_
  refine steb3_3 _ ?_
  refine own_go Heb3_3 hx hZ hown hby hw own_K7_ok (own_eb3_3 x2 x1 q0) _ ?_
  refine steb3_4 _ ?_
  refine steb3_5 _ ?_
  refine own_go Heb3_5 hx hZ hown hby hw own_K7_ok (own_eb3_4 x2 x1) _ ?_
  refine steb3_6 _ ?_
  refine own_go Heb3_6 hx hZ hown hby hw own_K7_ok (own_eb3_5 x2 x1 q1) _ ?_
  refine steb3_7 _ ?_
  refine steb3_8 _ ?_
  refine own_go Heb3_8 hx hZ hown hby hw own_K7_ok (own_eb3_6 x2 x1) _ ?_
  refine steb3_9 _ ?_
  refine own_go Heb3_9 hx hZ hown hby hw own_K7_ok (own_eb3_7 x2 x1 q2) _ ?_
  refine steb3_10 _ ?_
  refine steb3_11 _ ?_
  refine own_go Heb3_11 hx hZ hown hby hw own_K7_ok (own_eb3_8 x2 x1) _ ?_
  refine steb3_12 _ ?_
  refine own_go Heb3_12 hx hZ hown hby hw own_K7_ok (own_eb3_9 x2 x1 q3) _ ?_
  refine steb3_13 _ ?_
  refine steb3_14 _ ?_
  refine own_go Heb3_14 hx hZ hown hby hw own_K7_ok (own_eb3_10 x2 x1 zz hb67) _ ?_
  exact q
theorem own_eb4_0 (x2 : Addr) (x1 : Addr) :
    own_Go own_K7 prog_5_method_14_code 0 #[.val (.ref x2), .val (.ref x1), .unset] [] 1 #[.val (.ref x2), .val (.ref x1), .unset] [(.ref x1)] := by
  refine own_aloadN (pc2 := 1) d7_0 rfl rfl rfl ?_
  exact own_refl
theorem own_eb4_1 (x2 : Addr) (x1 : Addr) :
    own_Go own_K7 prog_5_method_14_code 4 #[.val (.ref x2), .val (.ref x1), .unset] [(.int (1 : Int32))] 10 #[.val (.ref x2), .val (.ref x1), .unset] [(.ref x1)] := by
  refine own_ifYes (pc' := 9) d7_4 (by decide) (by decide) (by decide) ?_
  refine own_aloadN (pc2 := 10) d7_9 rfl rfl rfl ?_
  exact own_refl
theorem own_eb4_2 (x2 : Addr) (x1 : Addr) :
    own_Go own_K7 prog_5_method_14_code 13 #[.val (.ref x2), .val (.ref x1), .unset] [(.ref x1)] 15 #[.val (.ref x2), .val (.ref x1), .val (.ref x1)] [(.ref x2)] := by
  refine own_astoreN (pc2 := 14) d7_13 rfl rfl (L' := #[.val (.ref x2), .val (.ref x1), .val (.ref x1)]) rfl ?_
  refine own_aloadN (pc2 := 15) d7_14 rfl rfl rfl ?_
  exact own_refl
theorem own_eb4_3 (x2 : Addr) (x1 : Addr) (q0 : UInt64) :
    own_Go own_K7 prog_5_method_14_code 18 #[.val (.ref x2), .val (.ref x1), .val (.ref x1)] [(.double q0)] 19 #[.val (.ref x2), .val (.ref x1), .val (.ref x1)] [(.ref x1), (.double q0)] := by
  refine own_aloadN (pc2 := 19) d7_18 rfl rfl rfl ?_
  exact own_refl
theorem own_eb4_4 (x2 : Addr) (x1 : Addr) :
    own_Go own_K7 prog_5_method_14_code 25 #[.val (.ref x2), .val (.ref x1), .val (.ref x1)] [(.int (0 : Int32))] 29 #[.val (.ref x2), .val (.ref x1), .val (.ref x1)] [(.ref x2)] := by
  refine own_ifNo (pc2 := 28) d7_25 rfl (by decide) ?_
  refine own_aloadN (pc2 := 29) d7_28 rfl rfl rfl ?_
  exact own_refl
theorem own_eb4_5 (x2 : Addr) (x1 : Addr) (q1 : UInt64) :
    own_Go own_K7 prog_5_method_14_code 32 #[.val (.ref x2), .val (.ref x1), .val (.ref x1)] [(.double q1)] 33 #[.val (.ref x2), .val (.ref x1), .val (.ref x1)] [(.ref x1), (.double q1)] := by
  refine own_aloadN (pc2 := 33) d7_32 rfl rfl rfl ?_
  exact own_refl
theorem own_eb4_6 (x2 : Addr) (x1 : Addr) :
    own_Go own_K7 prog_5_method_14_code 39 #[.val (.ref x2), .val (.ref x1), .val (.ref x1)] [(.int (0 : Int32))] 43 #[.val (.ref x2), .val (.ref x1), .val (.ref x1)] [(.ref x2)] := by
  refine own_ifNo (pc2 := 42) d7_39 rfl (by decide) ?_
  refine own_aloadN (pc2 := 43) d7_42 rfl rfl rfl ?_
  exact own_refl
theorem own_eb4_7 (x2 : Addr) (x1 : Addr) (q2 : UInt64) :
    own_Go own_K7 prog_5_method_14_code 46 #[.val (.ref x2), .val (.ref x1), .val (.ref x1)] [(.double q2)] 47 #[.val (.ref x2), .val (.ref x1), .val (.ref x1)] [(.ref x1), (.double q2)] := by
  refine own_aloadN (pc2 := 47) d7_46 rfl rfl rfl ?_
  exact own_refl
theorem own_eb4_8 (x2 : Addr) (x1 : Addr) :
    own_Go own_K7 prog_5_method_14_code 53 #[.val (.ref x2), .val (.ref x1), .val (.ref x1)] [(.int (0 : Int32))] 57 #[.val (.ref x2), .val (.ref x1), .val (.ref x1)] [(.ref x2)] := by
  refine own_ifNo (pc2 := 56) d7_53 rfl (by decide) ?_
  refine own_aloadN (pc2 := 57) d7_56 rfl rfl rfl ?_
  exact own_refl
theorem own_eb4_9 (x2 : Addr) (x1 : Addr) (q3 : UInt64) :
    own_Go own_K7 prog_5_method_14_code 60 #[.val (.ref x2), .val (.ref x1), .val (.ref x1)] [(.double q3)] 61 #[.val (.ref x2), .val (.ref x1), .val (.ref x1)] [(.ref x1), (.double q3)] := by
  refine own_aloadN (pc2 := 61) d7_60 rfl rfl rfl ?_
  exact own_refl
theorem own_eb4_10 (x2 : Addr) (x1 : Addr) :
    own_Go own_K7 prog_5_method_14_code 67 #[.val (.ref x2), .val (.ref x1), .val (.ref x1)] [(.int (0 : Int32))] 75 #[.val (.ref x2), .val (.ref x1), .val (.ref x1)] [(.int (1 : Int32))] := by
  refine own_ifNo (pc2 := 70) d7_67 rfl (by decide) ?_
  refine own_iconst (v := 1) (pc2 := 71) d7_70 rfl rfl ?_
  refine own_goto (pc' := 75) d7_71 (by decide) (by decide) ?_
  exact own_refl
set_option maxRecDepth 65536 in
set_option maxHeartbeats 4000000 in
theorem own_eqb4 (l : Launch) (Z : State) (a0 : Array Value) (hb0 : own_Base) (hw : ∀ d ∈ tables_1, d.before a0 Z = true) (x2 : Addr) (x1 : Addr)  (p0 p1 p2 p3 q0 q1 q2 q3 : UInt64) (R0 S0 : Rat) (i0 : own_is q0 R0) (j0 : own_is p0 S0) (e0 : q0 = p0) (R1 S1 : Rat) (i1 : own_is q1 R1) (j1 : own_is p1 S1) (e1 : q1 = p1) (R2 S2 : Rat) (i2 : own_is q2 R2) (j2 : own_is p2 S2) (e2 : q2 = p2) (R3 S3 : Rat) (i3 : own_is q3 R3) (j3 : own_is p3 S3) (e3 : q3 = p3) :
    own_Met l Z a0 hb0 (⟨"com/example/hazeline/hazeline/fuzzy/Trapezoid", "equals", "(Ljava/lang/Object;)Z"⟩ : MethodName) prog_5_method_14_code 3 (some .boolean) [] ({ frames := 3, cells := 0, slots := 0, locals := 90 } : Room) #[(.ref x2), (.ref x1)] [(x1, own_O "com/example/hazeline/hazeline/fuzzy/Trapezoid" [("com/example/hazeline/hazeline/fuzzy/Trapezoid", "a", "D", .double p0), ("com/example/hazeline/hazeline/fuzzy/Trapezoid", "b", "D", .double p1), ("com/example/hazeline/hazeline/fuzzy/Trapezoid", "c", "D", .double p2), ("com/example/hazeline/hazeline/fuzzy/Trapezoid", "d", "D", .double p3)]), (x2, own_O "com/example/hazeline/hazeline/fuzzy/Trapezoid" [("com/example/hazeline/hazeline/fuzzy/Trapezoid", "a", "D", .double q0), ("com/example/hazeline/hazeline/fuzzy/Trapezoid", "b", "D", .double q1), ("com/example/hazeline/hazeline/fuzzy/Trapezoid", "c", "D", .double q2), ("com/example/hazeline/hazeline/fuzzy/Trapezoid", "d", "D", .double q3)])] (fun r cs' => r = some (.int 1) ∧ cs' = [(x1, own_O "com/example/hazeline/hazeline/fuzzy/Trapezoid" [("com/example/hazeline/hazeline/fuzzy/Trapezoid", "a", "D", .double p0), ("com/example/hazeline/hazeline/fuzzy/Trapezoid", "b", "D", .double p1), ("com/example/hazeline/hazeline/fuzzy/Trapezoid", "c", "D", .double p2), ("com/example/hazeline/hazeline/fuzzy/Trapezoid", "d", "D", .double p3)]), (x2, own_O "com/example/hazeline/hazeline/fuzzy/Trapezoid" [("com/example/hazeline/hazeline/fuzzy/Trapezoid", "a", "D", .double q0), ("com/example/hazeline/hazeline/fuzzy/Trapezoid", "b", "D", .double q1), ("com/example/hazeline/hazeline/fuzzy/Trapezoid", "c", "D", .double q2), ("com/example/hazeline/hazeline/fuzzy/Trapezoid", "d", "D", .double q3)])]) := by
  refine own_met_of (L0 := #[.val (.ref x2), .val (.ref x1), .unset]) (plainFor_of_name own_pn7) (fun m => own_ef7 m x2 x1) ?_
  intro p e s m below meth c T0 hx hZ hown hby hml hnm H0
  obtain ⟨Teb4_1, Heb4_1, steb4_1⟩ := own_instO H0 hx hZ hown (hw _ (List.mem_of_getElem? (i := 38) rfl)) 0 rfl (g := (mkF m 1 #[.val (.ref x2), .val (.ref x1), .unset] [(.ref x1)])) rfl rfl (hb hby d7_1)
  change own_S _ _ _ _ _ _ _ _ _ _ _ _ _ _ [(x1, own_O "com/example/hazeline/hazeline/fuzzy/Trapezoid" [("com/example/hazeline/hazeline/fuzzy/Trapezoid", "a", "D", .double p0), ("com/example/hazeline/hazeline/fuzzy/Trapezoid", "b", "D", .double p1), ("com/example/hazeline/hazeline/fuzzy/Trapezoid", "c", "D", .double p2), ("com/example/hazeline/hazeline/fuzzy/Trapezoid", "d", "D", .double p3)]), (x2, own_O "com/example/hazeline/hazeline/fuzzy/Trapezoid" [("com/example/hazeline/hazeline/fuzzy/Trapezoid", "a", "D", .double q0), ("com/example/hazeline/hazeline/fuzzy/Trapezoid", "b", "D", .double q1), ("com/example/hazeline/hazeline/fuzzy/Trapezoid", "c", "D", .double q2), ("com/example/hazeline/hazeline/fuzzy/Trapezoid", "d", "D", .double q3)])] _ _ at Heb4_1
  obtain ⟨Teb4_2, Heb4_2, steb4_2⟩ := own_castO Heb4_1 hx hZ hown (hw _ (List.mem_of_getElem? (i := 38) rfl)) 0 rfl (g := (mkF m 10 #[.val (.ref x2), .val (.ref x1), .unset] [(.ref x1)])) rfl rfl (hb hby d7_10)
  change own_S _ _ _ _ _ _ _ _ _ _ _ _ _ _ [(x1, own_O "com/example/hazeline/hazeline/fuzzy/Trapezoid" [("com/example/hazeline/hazeline/fuzzy/Trapezoid", "a", "D", .double p0), ("com/example/hazeline/hazeline/fuzzy/Trapezoid", "b", "D", .double p1), ("com/example/hazeline/hazeline/fuzzy/Trapezoid", "c", "D", .double p2), ("com/example/hazeline/hazeline/fuzzy/Trapezoid", "d", "D", .double p3)]), (x2, own_O "com/example/hazeline/hazeline/fuzzy/Trapezoid" [("com/example/hazeline/hazeline/fuzzy/Trapezoid", "a", "D", .double q0), ("com/example/hazeline/hazeline/fuzzy/Trapezoid", "b", "D", .double q1), ("com/example/hazeline/hazeline/fuzzy/Trapezoid", "c", "D", .double q2), ("com/example/hazeline/hazeline/fuzzy/Trapezoid", "d", "D", .double q3)])] _ _ at Heb4_2
  obtain ⟨Teb4_3, Heb4_3, steb4_3⟩ := own_getF Heb4_2 hx hZ hown (hw _ (List.mem_of_getElem? (i := 22) rfl)) 1 0 rfl rfl (g := (mkF m 15 #[.val (.ref x2), .val (.ref x1), .val (.ref x1)] [(.ref x2)])) rfl rfl (hb hby d7_15)
  change own_S _ _ _ _ _ _ _ _ _ _ _ _ _ _ [(x1, own_O "com/example/hazeline/hazeline/fuzzy/Trapezoid" [("com/example/hazeline/hazeline/fuzzy/Trapezoid", "a", "D", .double p0), ("com/example/hazeline/hazeline/fuzzy/Trapezoid", "b", "D", .double p1), ("com/example/hazeline/hazeline/fuzzy/Trapezoid", "c", "D", .double p2), ("com/example/hazeline/hazeline/fuzzy/Trapezoid", "d", "D", .double p3)]), (x2, own_O "com/example/hazeline/hazeline/fuzzy/Trapezoid" [("com/example/hazeline/hazeline/fuzzy/Trapezoid", "a", "D", .double q0), ("com/example/hazeline/hazeline/fuzzy/Trapezoid", "b", "D", .double q1), ("com/example/hazeline/hazeline/fuzzy/Trapezoid", "c", "D", .double q2), ("com/example/hazeline/hazeline/fuzzy/Trapezoid", "d", "D", .double q3)])] _ _ at Heb4_3
  obtain ⟨Teb4_4, Heb4_4, steb4_4⟩ := own_getF Heb4_3 hx hZ hown (hw _ (List.mem_of_getElem? (i := 22) rfl)) 0 0 rfl rfl (g := (mkF m 19 #[.val (.ref x2), .val (.ref x1), .val (.ref x1)] [(.ref x1), (.double q0)])) rfl rfl (hb hby d7_19)
  change own_S _ _ _ _ _ _ _ _ _ _ _ _ _ _ [(x1, own_O "com/example/hazeline/hazeline/fuzzy/Trapezoid" [("com/example/hazeline/hazeline/fuzzy/Trapezoid", "a", "D", .double p0), ("com/example/hazeline/hazeline/fuzzy/Trapezoid", "b", "D", .double p1), ("com/example/hazeline/hazeline/fuzzy/Trapezoid", "c", "D", .double p2), ("com/example/hazeline/hazeline/fuzzy/Trapezoid", "d", "D", .double p3)]), (x2, own_O "com/example/hazeline/hazeline/fuzzy/Trapezoid" [("com/example/hazeline/hazeline/fuzzy/Trapezoid", "a", "D", .double q0), ("com/example/hazeline/hazeline/fuzzy/Trapezoid", "b", "D", .double q1), ("com/example/hazeline/hazeline/fuzzy/Trapezoid", "c", "D", .double q2), ("com/example/hazeline/hazeline/fuzzy/Trapezoid", "d", "D", .double q3)])] _ _ at Heb4_4
  obtain ⟨Teb4_5, veb4_5_, cseb4_5_, qeb4_5, Heb4_5, steb4_5⟩ := own_callS Heb4_4 hx hZ hown (hw _ (List.mem_of_getElem? (i := 40) rfl)) (hw _ (List.mem_of_getElem? (i := 41) rfl)) (hw _ (List.mem_of_getElem? (i := 15) rfl)) (hw _ (List.mem_of_getElem? (i := 42) rfl)) (by decide) (argsL := [(.double q0), (.double p0)]) (rest := []) (W := 0) (own_cmp0 l Z a0 hb0 hw q0 p0 _ _ _ i0 j0 e0) (by decide) (by decide) (by decide) (by decide) (g := (mkF m 22 #[.val (.ref x2), .val (.ref x1), .val (.ref x1)] [(.double p0), (.double q0)])) rfl (by rw [hml]; rfl) (lenOf own_pd7 rfl) rfl (by show 2 * 0 + _ ≤ _; exact Nat.le_of_eq rfl) (hb hby d7_22)
  obtain ⟨rfl, rfl⟩ := qeb4_5
  change own_S _ _ _ _ _ _ _ _ _ _ _ _ _ _ [(x1, own_O "com/example/hazeline/hazeline/fuzzy/Trapezoid" [("com/example/hazeline/hazeline/fuzzy/Trapezoid", "a", "D", .double p0), ("com/example/hazeline/hazeline/fuzzy/Trapezoid", "b", "D", .double p1), ("com/example/hazeline/hazeline/fuzzy/Trapezoid", "c", "D", .double p2), ("com/example/hazeline/hazeline/fuzzy/Trapezoid", "d", "D", .double p3)]), (x2, own_O "com/example/hazeline/hazeline/fuzzy/Trapezoid" [("com/example/hazeline/hazeline/fuzzy/Trapezoid", "a", "D", .double q0), ("com/example/hazeline/hazeline/fuzzy/Trapezoid", "b", "D", .double q1), ("com/example/hazeline/hazeline/fuzzy/Trapezoid", "c", "D", .double q2), ("com/example/hazeline/hazeline/fuzzy/Trapezoid", "d", "D", .double q3)])] _ _ at Heb4_5
  obtain ⟨Teb4_6, Heb4_6, steb4_6⟩ := own_getF Heb4_5 hx hZ hown (hw _ (List.mem_of_getElem? (i := 24) rfl)) 1 1 rfl rfl (g := (mkF m 29 #[.val (.ref x2), .val (.ref x1), .val (.ref x1)] [(.ref x2)])) rfl rfl (hb hby d7_29)
  change own_S _ _ _ _ _ _ _ _ _ _ _ _ _ _ [(x1, own_O "com/example/hazeline/hazeline/fuzzy/Trapezoid" [("com/example/hazeline/hazeline/fuzzy/Trapezoid", "a", "D", .double p0), ("com/example/hazeline/hazeline/fuzzy/Trapezoid", "b", "D", .double p1), ("com/example/hazeline/hazeline/fuzzy/Trapezoid", "c", "D", .double p2), ("com/example/hazeline/hazeline/fuzzy/Trapezoid", "d", "D", .double p3)]), (x2, own_O "com/example/hazeline/hazeline/fuzzy/Trapezoid" [("com/example/hazeline/hazeline/fuzzy/Trapezoid", "a", "D", .double q0), ("com/example/hazeline/hazeline/fuzzy/Trapezoid", "b", "D", .double q1), ("com/example/hazeline/hazeline/fuzzy/Trapezoid", "c", "D", .double q2), ("com/example/hazeline/hazeline/fuzzy/Trapezoid", "d", "D", .double q3)])] _ _ at Heb4_6
  obtain ⟨Teb4_7, Heb4_7, steb4_7⟩ := own_getF Heb4_6 hx hZ hown (hw _ (List.mem_of_getElem? (i := 24) rfl)) 0 1 rfl rfl (g := (mkF m 33 #[.val (.ref x2), .val (.ref x1), .val (.ref x1)] [(.ref x1), (.double q1)])) rfl rfl (hb hby d7_33)
  change own_S _ _ _ _ _ _ _ _ _ _ _ _ _ _ [(x1, own_O "com/example/hazeline/hazeline/fuzzy/Trapezoid" [("com/example/hazeline/hazeline/fuzzy/Trapezoid", "a", "D", .double p0), ("com/example/hazeline/hazeline/fuzzy/Trapezoid", "b", "D", .double p1), ("com/example/hazeline/hazeline/fuzzy/Trapezoid", "c", "D", .double p2), ("com/example/hazeline/hazeline/fuzzy/Trapezoid", "d", "D", .double p3)]), (x2, own_O "com/example/hazeline/hazeline/fuzzy/Trapezoid" [("com/example/hazeline/hazeline/fuzzy/Trapezoid", "a", "D", .double q0), ("com/example/hazeline/hazeline/fuzzy/Trapezoid", "b", "D", .double q1), ("com/example/hazeline/hazeline/fuzzy/Trapezoid", "c", "D", .double q2), ("com/example/hazeline/hazeline/fuzzy/Trapezoid", "d", "D", .double q3)])] _ _ at Heb4_7
  obtain ⟨Teb4_8, veb4_8_, cseb4_8_, qeb4_8, Heb4_8, steb4_8⟩ := own_callS Heb4_7 hx hZ hown (hw _ (List.mem_of_getElem? (i := 40) rfl)) (hw _ (List.mem_of_getElem? (i := 41) rfl)) (hw _ (List.mem_of_getElem? (i := 15) rfl)) (hw _ (List.mem_of_getElem? (i := 42) rfl)) (by decide) (argsL := [(.double q1), (.double p1)]) (rest := []) (W := 0) (own_cmp0 l Z a0 hb0 hw q1 p1 _ _ _ i1 j1 e1) (by decide) (by decide) (by decide) (by decide) (g := (mkF m 36 #[.val (.ref x2), .val (.ref x1), .val (.ref x1)] [(.double p1), (.double q1)])) rfl (by rw [hml]; rfl) (lenOf own_pd7 rfl) rfl (by show 2 * 0 + _ ≤ _; exact Nat.le_of_eq rfl) (hb hby d7_36)
  obtain ⟨rfl, rfl⟩ := qeb4_8
  change own_S _ _ _ _ _ _ _ _ _ _ _ _ _ _ [(x1, own_O "com/example/hazeline/hazeline/fuzzy/Trapezoid" [("com/example/hazeline/hazeline/fuzzy/Trapezoid", "a", "D", .double p0), ("com/example/hazeline/hazeline/fuzzy/Trapezoid", "b", "D", .double p1), ("com/example/hazeline/hazeline/fuzzy/Trapezoid", "c", "D", .double p2), ("com/example/hazeline/hazeline/fuzzy/Trapezoid", "d", "D", .double p3)]), (x2, own_O "com/example/hazeline/hazeline/fuzzy/Trapezoid" [("com/example/hazeline/hazeline/fuzzy/Trapezoid", "a", "D", .double q0), ("com/example/hazeline/hazeline/fuzzy/Trapezoid", "b", "D", .double q1), ("com/example/hazeline/hazeline/fuzzy/Trapezoid", "c", "D", .double q2), ("com/example/hazeline/hazeline/fuzzy/Trapezoid", "d", "D", .double q3)])] _ _ at Heb4_8
  obtain ⟨Teb4_9, Heb4_9, steb4_9⟩ := own_getF Heb4_8 hx hZ hown (hw _ (List.mem_of_getElem? (i := 26) rfl)) 1 2 rfl rfl (g := (mkF m 43 #[.val (.ref x2), .val (.ref x1), .val (.ref x1)] [(.ref x2)])) rfl rfl (hb hby d7_43)
  change own_S _ _ _ _ _ _ _ _ _ _ _ _ _ _ [(x1, own_O "com/example/hazeline/hazeline/fuzzy/Trapezoid" [("com/example/hazeline/hazeline/fuzzy/Trapezoid", "a", "D", .double p0), ("com/example/hazeline/hazeline/fuzzy/Trapezoid", "b", "D", .double p1), ("com/example/hazeline/hazeline/fuzzy/Trapezoid", "c", "D", .double p2), ("com/example/hazeline/hazeline/fuzzy/Trapezoid", "d", "D", .double p3)]), (x2, own_O "com/example/hazeline/hazeline/fuzzy/Trapezoid" [("com/example/hazeline/hazeline/fuzzy/Trapezoid", "a", "D", .double q0), ("com/example/hazeline/hazeline/fuzzy/Trapezoid", "b", "D", .double q1), ("com/example/hazeline/hazeline/fuzzy/Trapezoid", "c", "D", .double q2), ("com/example/hazeline/hazeline/fuzzy/Trapezoid", "d", "D", .double q3)])] _ _ at Heb4_9
  obtain ⟨Teb4_10, Heb4_10, steb4_10⟩ := own_getF Heb4_9 hx hZ hown (hw _ (List.mem_of_getElem? (i := 26) rfl)) 0 2 rfl rfl (g := (mkF m 47 #[.val (.ref x2), .val (.ref x1), .val (.ref x1)] [(.ref x1), (.double q2)])) rfl rfl (hb hby d7_47)
  change own_S _ _ _ _ _ _ _ _ _ _ _ _ _ _ [(x1, own_O "com/example/hazeline/hazeline/fuzzy/Trapezoid" [("com/example/hazeline/hazeline/fuzzy/Trapezoid", "a", "D", .double p0), ("com/example/hazeline/hazeline/fuzzy/Trapezoid", "b", "D", .double p1), ("com/example/hazeline/hazeline/fuzzy/Trapezoid", "c", "D", .double p2), ("com/example/hazeline/hazeline/fuzzy/Trapezoid", "d", "D", .double p3)]), (x2, own_O "com/example/hazeline/hazeline/fuzzy/Trapezoid" [("com/example/hazeline/hazeline/fuzzy/Trapezoid", "a", "D", .double q0), ("com/example/hazeline/hazeline/fuzzy/Trapezoid", "b", "D", .double q1), ("com/example/hazeline/hazeline/fuzzy/Trapezoid", "c", "D", .double q2), ("com/example/hazeline/hazeline/fuzzy/Trapezoid", "d", "D", .double q3)])] _ _ at Heb4_10
  obtain ⟨Teb4_11, veb4_11_, cseb4_11_, qeb4_11, Heb4_11, steb4_11⟩ := own_callS Heb4_10 hx hZ hown (hw _ (List.mem_of_getElem? (i := 40) rfl)) (hw _ (List.mem_of_getElem? (i := 41) rfl)) (hw _ (List.mem_of_getElem? (i := 15) rfl)) (hw _ (List.mem_of_getElem? (i := 42) rfl)) (by decide) (argsL := [(.double q2), (.double p2)]) (rest := []) (W := 0) (own_cmp0 l Z a0 hb0 hw q2 p2 _ _ _ i2 j2 e2) (by decide) (by decide) (by decide) (by decide) (g := (mkF m 50 #[.val (.ref x2), .val (.ref x1), .val (.ref x1)] [(.double p2), (.double q2)])) rfl (by rw [hml]; rfl) (lenOf own_pd7 rfl) rfl (by show 2 * 0 + _ ≤ _; exact Nat.le_of_eq rfl) (hb hby d7_50)
  obtain ⟨rfl, rfl⟩ := qeb4_11
  change own_S _ _ _ _ _ _ _ _ _ _ _ _ _ _ [(x1, own_O "com/example/hazeline/hazeline/fuzzy/Trapezoid" [("com/example/hazeline/hazeline/fuzzy/Trapezoid", "a", "D", .double p0), ("com/example/hazeline/hazeline/fuzzy/Trapezoid", "b", "D", .double p1), ("com/example/hazeline/hazeline/fuzzy/Trapezoid", "c", "D", .double p2), ("com/example/hazeline/hazeline/fuzzy/Trapezoid", "d", "D", .double p3)]), (x2, own_O "com/example/hazeline/hazeline/fuzzy/Trapezoid" [("com/example/hazeline/hazeline/fuzzy/Trapezoid", "a", "D", .double q0), ("com/example/hazeline/hazeline/fuzzy/Trapezoid", "b", "D", .double q1), ("com/example/hazeline/hazeline/fuzzy/Trapezoid", "c", "D", .double q2), ("com/example/hazeline/hazeline/fuzzy/Trapezoid", "d", "D", .double q3)])] _ _ at Heb4_11
  obtain ⟨Teb4_12, Heb4_12, steb4_12⟩ := own_getF Heb4_11 hx hZ hown (hw _ (List.mem_of_getElem? (i := 28) rfl)) 1 3 rfl rfl (g := (mkF m 57 #[.val (.ref x2), .val (.ref x1), .val (.ref x1)] [(.ref x2)])) rfl rfl (hb hby d7_57)
  change own_S _ _ _ _ _ _ _ _ _ _ _ _ _ _ [(x1, own_O "com/example/hazeline/hazeline/fuzzy/Trapezoid" [("com/example/hazeline/hazeline/fuzzy/Trapezoid", "a", "D", .double p0), ("com/example/hazeline/hazeline/fuzzy/Trapezoid", "b", "D", .double p1), ("com/example/hazeline/hazeline/fuzzy/Trapezoid", "c", "D", .double p2), ("com/example/hazeline/hazeline/fuzzy/Trapezoid", "d", "D", .double p3)]), (x2, own_O "com/example/hazeline/hazeline/fuzzy/Trapezoid" [("com/example/hazeline/hazeline/fuzzy/Trapezoid", "a", "D", .double q0), ("com/example/hazeline/hazeline/fuzzy/Trapezoid", "b", "D", .double q1), ("com/example/hazeline/hazeline/fuzzy/Trapezoid", "c", "D", .double q2), ("com/example/hazeline/hazeline/fuzzy/Trapezoid", "d", "D", .double q3)])] _ _ at Heb4_12
  obtain ⟨Teb4_13, Heb4_13, steb4_13⟩ := own_getF Heb4_12 hx hZ hown (hw _ (List.mem_of_getElem? (i := 28) rfl)) 0 3 rfl rfl (g := (mkF m 61 #[.val (.ref x2), .val (.ref x1), .val (.ref x1)] [(.ref x1), (.double q3)])) rfl rfl (hb hby d7_61)
  change own_S _ _ _ _ _ _ _ _ _ _ _ _ _ _ [(x1, own_O "com/example/hazeline/hazeline/fuzzy/Trapezoid" [("com/example/hazeline/hazeline/fuzzy/Trapezoid", "a", "D", .double p0), ("com/example/hazeline/hazeline/fuzzy/Trapezoid", "b", "D", .double p1), ("com/example/hazeline/hazeline/fuzzy/Trapezoid", "c", "D", .double p2), ("com/example/hazeline/hazeline/fuzzy/Trapezoid", "d", "D", .double p3)]), (x2, own_O "com/example/hazeline/hazeline/fuzzy/Trapezoid" [("com/example/hazeline/hazeline/fuzzy/Trapezoid", "a", "D", .double q0), ("com/example/hazeline/hazeline/fuzzy/Trapezoid", "b", "D", .double q1), ("com/example/hazeline/hazeline/fuzzy/Trapezoid", "c", "D", .double q2), ("com/example/hazeline/hazeline/fuzzy/Trapezoid", "d", "D", .double q3)])] _ _ at Heb4_13
  obtain ⟨Teb4_14, veb4_14_, cseb4_14_, qeb4_14, Heb4_14, steb4_14⟩ := own_callS Heb4_13 hx hZ hown (hw _ (List.mem_of_getElem? (i := 40) rfl)) (hw _ (List.mem_of_getElem? (i := 41) rfl)) (hw _ (List.mem_of_getElem? (i := 15) rfl)) (hw _ (List.mem_of_getElem? (i := 42) rfl)) (by decide) (argsL := [(.double q3), (.double p3)]) (rest := []) (W := 0) (own_cmp0 l Z a0 hb0 hw q3 p3 _ _ _ i3 j3 e3) (by decide) (by decide) (by decide) (by decide) (g := (mkF m 64 #[.val (.ref x2), .val (.ref x1), .val (.ref x1)] [(.double p3), (.double q3)])) rfl (by rw [hml]; rfl) (lenOf own_pd7 rfl) rfl (by show 2 * 0 + _ ≤ _; exact Nat.le_of_eq rfl) (hb hby d7_64)
  obtain ⟨rfl, rfl⟩ := qeb4_14
  change own_S _ _ _ _ _ _ _ _ _ _ _ _ _ _ [(x1, own_O "com/example/hazeline/hazeline/fuzzy/Trapezoid" [("com/example/hazeline/hazeline/fuzzy/Trapezoid", "a", "D", .double p0), ("com/example/hazeline/hazeline/fuzzy/Trapezoid", "b", "D", .double p1), ("com/example/hazeline/hazeline/fuzzy/Trapezoid", "c", "D", .double p2), ("com/example/hazeline/hazeline/fuzzy/Trapezoid", "d", "D", .double p3)]), (x2, own_O "com/example/hazeline/hazeline/fuzzy/Trapezoid" [("com/example/hazeline/hazeline/fuzzy/Trapezoid", "a", "D", .double q0), ("com/example/hazeline/hazeline/fuzzy/Trapezoid", "b", "D", .double q1), ("com/example/hazeline/hazeline/fuzzy/Trapezoid", "c", "D", .double q2), ("com/example/hazeline/hazeline/fuzzy/Trapezoid", "d", "D", .double q3)])] _ _ at Heb4_14
  refine ⟨_, _, _, _, 75, #[.val (.ref x2), .val (.ref x1), .val (.ref x1)], Heb4_14, by decide, by decide, Or.inr ⟨.boolean, (.int (1 : Int32)), [], .ireturn, rfl, ⟨rfl, rfl⟩, d7_75, own_retZ (Or.inr rfl), fun target q => ?_⟩⟩
  refine own_go H0 hx hZ hown hby hw own_K7_ok (own_eb4_0 x2 x1) _ ?_
  refine steb4_1 _ ?_
  refine own_go Heb4_1 hx hZ hown hby hw own_K7_ok (own_eb4_1 x2 x1) _ ?_
  refine steb4_2 _ ?_
  refine own_go Heb4_2 hx hZ hown hby hw own_K7_ok (own_eb4_2 x2 x1) _ ?_
  refine steb4_3 _ ?_
  refine own_go Heb4_3 hx hZ hown hby hw own_K7_ok (own_eb4_3 x2 x1 q0) _ ?_
  refine steb4_4 _ ?_
  refine steb4_5 _ ?_
  refine own_go Heb4_5 hx hZ hown hby hw own_K7_ok (own_eb4_4 x2 x1) _ ?_
  refine steb4_6 _ ?_
  refine own_go Heb4_6 hx hZ hown hby hw own_K7_ok (own_eb4_5 x2 x1 q1) _ ?_
  refine steb4_7 _ ?_
  refine steb4_8 _ ?_
  refine own_go Heb4_8 hx hZ hown hby hw own_K7_ok (own_eb4_6 x2 x1) _ ?_
  refine steb4_9 _ ?_
  refine own_go Heb4_9 hx hZ hown hby hw own_K7_ok (own_eb4_7 x2 x1 q2) _ ?_
  refine steb4_10 _ ?_
  refine steb4_11 _ ?_
  refine own_go Heb4_11 hx hZ hown hby hw own_K7_ok (own_eb4_8 x2 x1) _ ?_
  refine steb4_12 _ ?_
  refine own_go Heb4_12 hx hZ hown hby hw own_K7_ok (own_eb4_9 x2 x1 q3) _ ?_
  refine steb4_13 _ ?_
  refine steb4_14 _ ?_
  refine own_go Heb4_14 hx hZ hown hby hw own_K7_ok (own_eb4_10 x2 x1) _ ?_
  exact q
theorem own_ec4_0 (x1 : Addr) :
    own_Go own_K7 prog_5_method_14_code 0 #[.val (.ref x1), .val (.ref x1), .unset] [] 1 #[.val (.ref x1), .val (.ref x1), .unset] [(.ref x1)] := by
  refine own_aloadN (pc2 := 1) d7_0 rfl rfl rfl ?_
  exact own_refl
theorem own_ec4_1 (x1 : Addr) :
    own_Go own_K7 prog_5_method_14_code 4 #[.val (.ref x1), .val (.ref x1), .unset] [(.int (1 : Int32))] 10 #[.val (.ref x1), .val (.ref x1), .unset] [(.ref x1)] := by
  refine own_ifYes (pc' := 9) d7_4 (by decide) (by decide) (by decide) ?_
  refine own_aloadN (pc2 := 10) d7_9 rfl rfl rfl ?_
  exact own_refl
theorem own_ec4_2 (x1 : Addr) :
    own_Go own_K7 prog_5_method_14_code 13 #[.val (.ref x1), .val (.ref x1), .unset] [(.ref x1)] 15 #[.val (.ref x1), .val (.ref x1), .val (.ref x1)] [(.ref x1)] := by
  refine own_astoreN (pc2 := 14) d7_13 rfl rfl (L' := #[.val (.ref x1), .val (.ref x1), .val (.ref x1)]) rfl ?_
  refine own_aloadN (pc2 := 15) d7_14 rfl rfl rfl ?_
  exact own_refl
theorem own_ec4_3 (x1 : Addr) (p0 : UInt64) :
    own_Go own_K7 prog_5_method_14_code 18 #[.val (.ref x1), .val (.ref x1), .val (.ref x1)] [(.double p0)] 19 #[.val (.ref x1), .val (.ref x1), .val (.ref x1)] [(.ref x1), (.double p0)] := by
  refine own_aloadN (pc2 := 19) d7_18 rfl rfl rfl ?_
  exact own_refl
theorem own_ec4_4 (x1 : Addr) :
    own_Go own_K7 prog_5_method_14_code 25 #[.val (.ref x1), .val (.ref x1), .val (.ref x1)] [(.int (0 : Int32))] 29 #[.val (.ref x1), .val (.ref x1), .val (.ref x1)] [(.ref x1)] := by
  refine own_ifNo (pc2 := 28) d7_25 rfl (by decide) ?_
  refine own_aloadN (pc2 := 29) d7_28 rfl rfl rfl ?_
  exact own_refl
theorem own_ec4_5 (x1 : Addr) (p1 : UInt64) :
    own_Go own_K7 prog_5_method_14_code 32 #[.val (.ref x1), .val (.ref x1), .val (.ref x1)] [(.double p1)] 33 #[.val (.ref x1), .val (.ref x1), .val (.ref x1)] [(.ref x1), (.double p1)] := by
  refine own_aloadN (pc2 := 33) d7_32 rfl rfl rfl ?_
  exact own_refl
theorem own_ec4_6 (x1 : Addr) :
    own_Go own_K7 prog_5_method_14_code 39 #[.val (.ref x1), .val (.ref x1), .val (.ref x1)] [(.int (0 : Int32))] 43 #[.val (.ref x1), .val (.ref x1), .val (.ref x1)] [(.ref x1)] := by
  refine own_ifNo (pc2 := 42) d7_39 rfl (by decide) ?_
  refine own_aloadN (pc2 := 43) d7_42 rfl rfl rfl ?_
  exact own_refl
theorem own_ec4_7 (x1 : Addr) (p2 : UInt64) :
    own_Go own_K7 prog_5_method_14_code 46 #[.val (.ref x1), .val (.ref x1), .val (.ref x1)] [(.double p2)] 47 #[.val (.ref x1), .val (.ref x1), .val (.ref x1)] [(.ref x1), (.double p2)] := by
  refine own_aloadN (pc2 := 47) d7_46 rfl rfl rfl ?_
  exact own_refl
theorem own_ec4_8 (x1 : Addr) :
    own_Go own_K7 prog_5_method_14_code 53 #[.val (.ref x1), .val (.ref x1), .val (.ref x1)] [(.int (0 : Int32))] 57 #[.val (.ref x1), .val (.ref x1), .val (.ref x1)] [(.ref x1)] := by
  refine own_ifNo (pc2 := 56) d7_53 rfl (by decide) ?_
  refine own_aloadN (pc2 := 57) d7_56 rfl rfl rfl ?_
  exact own_refl
theorem own_ec4_9 (x1 : Addr) (p3 : UInt64) :
    own_Go own_K7 prog_5_method_14_code 60 #[.val (.ref x1), .val (.ref x1), .val (.ref x1)] [(.double p3)] 61 #[.val (.ref x1), .val (.ref x1), .val (.ref x1)] [(.ref x1), (.double p3)] := by
  refine own_aloadN (pc2 := 61) d7_60 rfl rfl rfl ?_
  exact own_refl
theorem own_ec4_10 (x1 : Addr) :
    own_Go own_K7 prog_5_method_14_code 67 #[.val (.ref x1), .val (.ref x1), .val (.ref x1)] [(.int (0 : Int32))] 75 #[.val (.ref x1), .val (.ref x1), .val (.ref x1)] [(.int (1 : Int32))] := by
  refine own_ifNo (pc2 := 70) d7_67 rfl (by decide) ?_
  refine own_iconst (v := 1) (pc2 := 71) d7_70 rfl rfl ?_
  refine own_goto (pc' := 75) d7_71 (by decide) (by decide) ?_
  exact own_refl
set_option maxRecDepth 65536 in
set_option maxHeartbeats 4000000 in
theorem own_eqc4 (l : Launch) (Z : State) (a0 : Array Value) (hb0 : own_Base) (hw : ∀ d ∈ tables_1, d.before a0 Z = true) (x1 : Addr)  (x2 : Addr) (p0 p1 p2 p3 q0 q1 q2 q3 : UInt64) (R0 S0 : Rat) (i0 : own_is p0 R0) (j0 : own_is p0 S0) (R1 S1 : Rat) (i1 : own_is p1 R1) (j1 : own_is p1 S1) (R2 S2 : Rat) (i2 : own_is p2 R2) (j2 : own_is p2 S2) (R3 S3 : Rat) (i3 : own_is p3 R3) (j3 : own_is p3 S3) :
    own_Met l Z a0 hb0 (⟨"com/example/hazeline/hazeline/fuzzy/Trapezoid", "equals", "(Ljava/lang/Object;)Z"⟩ : MethodName) prog_5_method_14_code 3 (some .boolean) [] ({ frames := 3, cells := 0, slots := 0, locals := 90 } : Room) #[(.ref x1), (.ref x1)] [(x1, own_O "com/example/hazeline/hazeline/fuzzy/Trapezoid" [("com/example/hazeline/hazeline/fuzzy/Trapezoid", "a", "D", .double p0), ("com/example/hazeline/hazeline/fuzzy/Trapezoid", "b", "D", .double p1), ("com/example/hazeline/hazeline/fuzzy/Trapezoid", "c", "D", .double p2), ("com/example/hazeline/hazeline/fuzzy/Trapezoid", "d", "D", .double p3)]), (x2, own_O "com/example/hazeline/hazeline/fuzzy/Trapezoid" [("com/example/hazeline/hazeline/fuzzy/Trapezoid", "a", "D", .double q0), ("com/example/hazeline/hazeline/fuzzy/Trapezoid", "b", "D", .double q1), ("com/example/hazeline/hazeline/fuzzy/Trapezoid", "c", "D", .double q2), ("com/example/hazeline/hazeline/fuzzy/Trapezoid", "d", "D", .double q3)])] (fun r cs' => r = some (.int 1) ∧ cs' = [(x1, own_O "com/example/hazeline/hazeline/fuzzy/Trapezoid" [("com/example/hazeline/hazeline/fuzzy/Trapezoid", "a", "D", .double p0), ("com/example/hazeline/hazeline/fuzzy/Trapezoid", "b", "D", .double p1), ("com/example/hazeline/hazeline/fuzzy/Trapezoid", "c", "D", .double p2), ("com/example/hazeline/hazeline/fuzzy/Trapezoid", "d", "D", .double p3)]), (x2, own_O "com/example/hazeline/hazeline/fuzzy/Trapezoid" [("com/example/hazeline/hazeline/fuzzy/Trapezoid", "a", "D", .double q0), ("com/example/hazeline/hazeline/fuzzy/Trapezoid", "b", "D", .double q1), ("com/example/hazeline/hazeline/fuzzy/Trapezoid", "c", "D", .double q2), ("com/example/hazeline/hazeline/fuzzy/Trapezoid", "d", "D", .double q3)])]) := by
  refine own_met_of (L0 := #[.val (.ref x1), .val (.ref x1), .unset]) (plainFor_of_name own_pn7) (fun m => own_ef7 m x1 x1) ?_
  intro p e s m below meth c T0 hx hZ hown hby hml hnm H0
  obtain ⟨Tec4_1, Hec4_1, stec4_1⟩ := own_instO H0 hx hZ hown (hw _ (List.mem_of_getElem? (i := 38) rfl)) 0 rfl (g := (mkF m 1 #[.val (.ref x1), .val (.ref x1), .unset] [(.ref x1)])) rfl rfl (hb hby d7_1)
  change own_S _ _ _ _ _ _ _ _ _ _ _ _ _ _ [(x1, own_O "com/example/hazeline/hazeline/fuzzy/Trapezoid" [("com/example/hazeline/hazeline/fuzzy/Trapezoid", "a", "D", .double p0), ("com/example/hazeline/hazeline/fuzzy/Trapezoid", "b", "D", .double p1), ("com/example/hazeline/hazeline/fuzzy/Trapezoid", "c", "D", .double p2), ("com/example/hazeline/hazeline/fuzzy/Trapezoid", "d", "D", .double p3)]), (x2, own_O "com/example/hazeline/hazeline/fuzzy/Trapezoid" [("com/example/hazeline/hazeline/fuzzy/Trapezoid", "a", "D", .double q0), ("com/example/hazeline/hazeline/fuzzy/Trapezoid", "b", "D", .double q1), ("com/example/hazeline/hazeline/fuzzy/Trapezoid", "c", "D", .double q2), ("com/example/hazeline/hazeline/fuzzy/Trapezoid", "d", "D", .double q3)])] _ _ at Hec4_1
  obtain ⟨Tec4_2, Hec4_2, stec4_2⟩ := own_castO Hec4_1 hx hZ hown (hw _ (List.mem_of_getElem? (i := 38) rfl)) 0 rfl (g := (mkF m 10 #[.val (.ref x1), .val (.ref x1), .unset] [(.ref x1)])) rfl rfl (hb hby d7_10)
  change own_S _ _ _ _ _ _ _ _ _ _ _ _ _ _ [(x1, own_O "com/example/hazeline/hazeline/fuzzy/Trapezoid" [("com/example/hazeline/hazeline/fuzzy/Trapezoid", "a", "D", .double p0), ("com/example/hazeline/hazeline/fuzzy/Trapezoid", "b", "D", .double p1), ("com/example/hazeline/hazeline/fuzzy/Trapezoid", "c", "D", .double p2), ("com/example/hazeline/hazeline/fuzzy/Trapezoid", "d", "D", .double p3)]), (x2, own_O "com/example/hazeline/hazeline/fuzzy/Trapezoid" [("com/example/hazeline/hazeline/fuzzy/Trapezoid", "a", "D", .double q0), ("com/example/hazeline/hazeline/fuzzy/Trapezoid", "b", "D", .double q1), ("com/example/hazeline/hazeline/fuzzy/Trapezoid", "c", "D", .double q2), ("com/example/hazeline/hazeline/fuzzy/Trapezoid", "d", "D", .double q3)])] _ _ at Hec4_2
  obtain ⟨Tec4_3, Hec4_3, stec4_3⟩ := own_getF Hec4_2 hx hZ hown (hw _ (List.mem_of_getElem? (i := 22) rfl)) 0 0 rfl rfl (g := (mkF m 15 #[.val (.ref x1), .val (.ref x1), .val (.ref x1)] [(.ref x1)])) rfl rfl (hb hby d7_15)
  change own_S _ _ _ _ _ _ _ _ _ _ _ _ _ _ [(x1, own_O "com/example/hazeline/hazeline/fuzzy/Trapezoid" [("com/example/hazeline/hazeline/fuzzy/Trapezoid", "a", "D", .double p0), ("com/example/hazeline/hazeline/fuzzy/Trapezoid", "b", "D", .double p1), ("com/example/hazeline/hazeline/fuzzy/Trapezoid", "c", "D", .double p2), ("com/example/hazeline/hazeline/fuzzy/Trapezoid", "d", "D", .double p3)]), (x2, own_O "com/example/hazeline/hazeline/fuzzy/Trapezoid" [("com/example/hazeline/hazeline/fuzzy/Trapezoid", "a", "D", .double q0), ("com/example/hazeline/hazeline/fuzzy/Trapezoid", "b", "D", .double q1), ("com/example/hazeline/hazeline/fuzzy/Trapezoid", "c", "D", .double q2), ("com/example/hazeline/hazeline/fuzzy/Trapezoid", "d", "D", .double q3)])] _ _ at Hec4_3
  obtain ⟨Tec4_4, Hec4_4, stec4_4⟩ := own_getF Hec4_3 hx hZ hown (hw _ (List.mem_of_getElem? (i := 22) rfl)) 0 0 rfl rfl (g := (mkF m 19 #[.val (.ref x1), .val (.ref x1), .val (.ref x1)] [(.ref x1), (.double p0)])) rfl rfl (hb hby d7_19)
  change own_S _ _ _ _ _ _ _ _ _ _ _ _ _ _ [(x1, own_O "com/example/hazeline/hazeline/fuzzy/Trapezoid" [("com/example/hazeline/hazeline/fuzzy/Trapezoid", "a", "D", .double p0), ("com/example/hazeline/hazeline/fuzzy/Trapezoid", "b", "D", .double p1), ("com/example/hazeline/hazeline/fuzzy/Trapezoid", "c", "D", .double p2), ("com/example/hazeline/hazeline/fuzzy/Trapezoid", "d", "D", .double p3)]), (x2, own_O "com/example/hazeline/hazeline/fuzzy/Trapezoid" [("com/example/hazeline/hazeline/fuzzy/Trapezoid", "a", "D", .double q0), ("com/example/hazeline/hazeline/fuzzy/Trapezoid", "b", "D", .double q1), ("com/example/hazeline/hazeline/fuzzy/Trapezoid", "c", "D", .double q2), ("com/example/hazeline/hazeline/fuzzy/Trapezoid", "d", "D", .double q3)])] _ _ at Hec4_4
  obtain ⟨Tec4_5, vec4_5_, csec4_5_, qec4_5, Hec4_5, stec4_5⟩ := own_callS Hec4_4 hx hZ hown (hw _ (List.mem_of_getElem? (i := 40) rfl)) (hw _ (List.mem_of_getElem? (i := 41) rfl)) (hw _ (List.mem_of_getElem? (i := 15) rfl)) (hw _ (List.mem_of_getElem? (i := 42) rfl)) (by decide) (argsL := [(.double p0), (.double p0)]) (rest := []) (W := 0) (own_cmp0 l Z a0 hb0 hw p0 p0 _ _ _ i0 i0 rfl) (by decide) (by decide) (by decide) (by decide) (g := (mkF m 22 #[.val (.ref x1), .val (.ref x1), .val (.ref x1)] [(.double p0), (.double p0)])) rfl (by rw [hml]; rfl) (lenOf own_pd7 rfl) rfl (by show 2 * 0 + _ ≤ _; exact Nat.le_of_eq rfl) (hb hby d7_22)
  obtain ⟨rfl, rfl⟩ := qec4_5
  change own_S _ _ _ _ _ _ _ _ _ _ _ _ _ _ [(x1, own_O "com/example/hazeline/hazeline/fuzzy/Trapezoid" [("com/example/hazeline/hazeline/fuzzy/Trapezoid", "a", "D", .double p0), ("com/example/hazeline/hazeline/fuzzy/Trapezoid", "b", "D", .double p1), ("com/example/hazeline/hazeline/fuzzy/Trapezoid", "c", "D", .double p2), ("com/example/hazeline/hazeline/fuzzy/Trapezoid", "d", "D", .double p3)]), (x2, own_O "com/example/hazeline/hazeline/fuzzy/Trapezoid" [("com/example/hazeline/hazeline/fuzzy/Trapezoid", "a", "D", .double q0), ("com/example/hazeline/hazeline/fuzzy/Trapezoid", "b", "D", .double q1), ("com/example/hazeline/hazeline/fuzzy/Trapezoid", "c", "D", .double q2), ("com/example/hazeline/hazeline/fuzzy/Trapezoid", "d", "D", .double q3)])] _ _ at Hec4_5
  obtain ⟨Tec4_6, Hec4_6, stec4_6⟩ := own_getF Hec4_5 hx hZ hown (hw _ (List.mem_of_getElem? (i := 24) rfl)) 0 1 rfl rfl (g := (mkF m 29 #[.val (.ref x1), .val (.ref x1), .val (.ref x1)] [(.ref x1)])) rfl rfl (hb hby d7_29)
  change own_S _ _ _ _ _ _ _ _ _ _ _ _ _ _ [(x1, own_O "com/example/hazeline/hazeline/fuzzy/Trapezoid" [("com/example/hazeline/hazeline/fuzzy/Trapezoid", "a", "D", .double p0), ("com/example/hazeline/hazeline/fuzzy/Trapezoid", "b", "D", .double p1), ("com/example/hazeline/hazeline/fuzzy/Trapezoid", "c", "D", .double p2), ("com/example/hazeline/hazeline/fuzzy/Trapezoid", "d", "D", .double p3)]), (x2, own_O "com/example/hazeline/hazeline/fuzzy/Trapezoid" [("com/example/hazeline/hazeline/fuzzy/Trapezoid", "a", "D", .double q0), ("com/example/hazeline/hazeline/fuzzy/Trapezoid", "b", "D", .double q1), ("com/example/hazeline/hazeline/fuzzy/Trapezoid", "c", "D", .double q2), ("com/example/hazeline/hazeline/fuzzy/Trapezoid", "d", "D", .double q3)])] _ _ at Hec4_6
  obtain ⟨Tec4_7, Hec4_7, stec4_7⟩ := own_getF Hec4_6 hx hZ hown (hw _ (List.mem_of_getElem? (i := 24) rfl)) 0 1 rfl rfl (g := (mkF m 33 #[.val (.ref x1), .val (.ref x1), .val (.ref x1)] [(.ref x1), (.double p1)])) rfl rfl (hb hby d7_33)
  change own_S _ _ _ _ _ _ _ _ _ _ _ _ _ _ [(x1, own_O "com/example/hazeline/hazeline/fuzzy/Trapezoid" [("com/example/hazeline/hazeline/fuzzy/Trapezoid", "a", "D", .double p0), ("com/example/hazeline/hazeline/fuzzy/Trapezoid", "b", "D", .double p1), ("com/example/hazeline/hazeline/fuzzy/Trapezoid", "c", "D", .double p2), ("com/example/hazeline/hazeline/fuzzy/Trapezoid", "d", "D", .double p3)]), (x2, own_O "com/example/hazeline/hazeline/fuzzy/Trapezoid" [("com/example/hazeline/hazeline/fuzzy/Trapezoid", "a", "D", .double q0), ("com/example/hazeline/hazeline/fuzzy/Trapezoid", "b", "D", .double q1), ("com/example/hazeline/hazeline/fuzzy/Trapezoid", "c", "D", .double q2), ("com/example/hazeline/hazeline/fuzzy/Trapezoid", "d", "D", .double q3)])] _ _ at Hec4_7
  obtain ⟨Tec4_8, vec4_8_, csec4_8_, qec4_8, Hec4_8, stec4_8⟩ := own_callS Hec4_7 hx hZ hown (hw _ (List.mem_of_getElem? (i := 40) rfl)) (hw _ (List.mem_of_getElem? (i := 41) rfl)) (hw _ (List.mem_of_getElem? (i := 15) rfl)) (hw _ (List.mem_of_getElem? (i := 42) rfl)) (by decide) (argsL := [(.double p1), (.double p1)]) (rest := []) (W := 0) (own_cmp0 l Z a0 hb0 hw p1 p1 _ _ _ i1 i1 rfl) (by decide) (by decide) (by decide) (by decide) (g := (mkF m 36 #[.val (.ref x1), .val (.ref x1), .val (.ref x1)] [(.double p1), (.double p1)])) rfl (by rw [hml]; rfl) (lenOf own_pd7 rfl) rfl (by show 2 * 0 + _ ≤ _; exact Nat.le_of_eq rfl) (hb hby d7_36)
  obtain ⟨rfl, rfl⟩ := qec4_8
  change own_S _ _ _ _ _ _ _ _ _ _ _ _ _ _ [(x1, own_O "com/example/hazeline/hazeline/fuzzy/Trapezoid" [("com/example/hazeline/hazeline/fuzzy/Trapezoid", "a", "D", .double p0), ("com/example/hazeline/hazeline/fuzzy/Trapezoid", "b", "D", .double p1), ("com/example/hazeline/hazeline/fuzzy/Trapezoid", "c", "D", .double p2), ("com/example/hazeline/hazeline/fuzzy/Trapezoid", "d", "D", .double p3)]), (x2, own_O "com/example/hazeline/hazeline/fuzzy/Trapezoid" [("com/example/hazeline/hazeline/fuzzy/Trapezoid", "a", "D", .double q0), ("com/example/hazeline/hazeline/fuzzy/Trapezoid", "b", "D", .double q1), ("com/example/hazeline/hazeline/fuzzy/Trapezoid", "c", "D", .double q2), ("com/example/hazeline/hazeline/fuzzy/Trapezoid", "d", "D", .double q3)])] _ _ at Hec4_8
  obtain ⟨Tec4_9, Hec4_9, stec4_9⟩ := own_getF Hec4_8 hx hZ hown (hw _ (List.mem_of_getElem? (i := 26) rfl)) 0 2 rfl rfl (g := (mkF m 43 #[.val (.ref x1), .val (.ref x1), .val (.ref x1)] [(.ref x1)])) rfl rfl (hb hby d7_43)
  change own_S _ _ _ _ _ _ _ _ _ _ _ _ _ _ [(x1, own_O "com/example/hazeline/hazeline/fuzzy/Trapezoid" [("com/example/hazeline/hazeline/fuzzy/Trapezoid", "a", "D", .double p0), ("com/example/hazeline/hazeline/fuzzy/Trapezoid", "b", "D", .double p1), ("com/example/hazeline/hazeline/fuzzy/Trapezoid", "c", "D", .double p2), ("com/example/hazeline/hazeline/fuzzy/Trapezoid", "d", "D", .double p3)]), (x2, own_O "com/example/hazeline/hazeline/fuzzy/Trapezoid" [("com/example/hazeline/hazeline/fuzzy/Trapezoid", "a", "D", .double q0), ("com/example/hazeline/hazeline/fuzzy/Trapezoid", "b", "D", .double q1), ("com/example/hazeline/hazeline/fuzzy/Trapezoid", "c", "D", .double q2), ("com/example/hazeline/hazeline/fuzzy/Trapezoid", "d", "D", .double q3)])] _ _ at Hec4_9
  obtain ⟨Tec4_10, Hec4_10, stec4_10⟩ := own_getF Hec4_9 hx hZ hown (hw _ (List.mem_of_getElem? (i := 26) rfl)) 0 2 rfl rfl (g := (mkF m 47 #[.val (.ref x1), .val (.ref x1), .val (.ref x1)] [(.ref x1), (.double p2)])) rfl rfl (hb hby d7_47)
  change own_S _ _ _ _ _ _ _ _ _ _ _ _ _ _ [(x1, own_O "com/example/hazeline/hazeline/fuzzy/Trapezoid" [("com/example/hazeline/hazeline/fuzzy/Trapezoid", "a", "D", .double p0), ("com/example/hazeline/hazeline/fuzzy/Trapezoid", "b", "D", .double p1), ("com/example/hazeline/hazeline/fuzzy/Trapezoid", "c", "D", .double p2), ("com/example/hazeline/hazeline/fuzzy/Trapezoid", "d", "D", .double p3)]), (x2, own_O "com/example/hazeline/hazeline/fuzzy/Trapezoid" [("com/example/hazeline/hazeline/fuzzy/Trapezoid", "a", "D", .double q0), ("com/example/hazeline/hazeline/fuzzy/Trapezoid", "b", "D", .double q1), ("com/example/hazeline/hazeline/fuzzy/Trapezoid", "c", "D", .double q2), ("com/example/hazeline/hazeline/fuzzy/Trapezoid", "d", "D", .double q3)])] _ _ at Hec4_10
  obtain ⟨Tec4_11, vec4_11_, csec4_11_, qec4_11, Hec4_11, stec4_11⟩ := own_callS Hec4_10 hx hZ hown (hw _ (List.mem_of_getElem? (i := 40) rfl)) (hw _ (List.mem_of_getElem? (i := 41) rfl)) (hw _ (List.mem_of_getElem? (i := 15) rfl)) (hw _ (List.mem_of_getElem? (i := 42) rfl)) (by decide) (argsL := [(.double p2), (.double p2)]) (rest := []) (W := 0) (own_cmp0 l Z a0 hb0 hw p2 p2 _ _ _ i2 i2 rfl) (by decide) (by decide) (by decide) (by decide) (g := (mkF m 50 #[.val (.ref x1), .val (.ref x1), .val (.ref x1)] [(.double p2), (.double p2)])) rfl (by rw [hml]; rfl) (lenOf own_pd7 rfl) rfl (by show 2 * 0 + _ ≤ _; exact Nat.le_of_eq rfl) (hb hby d7_50)
  obtain ⟨rfl, rfl⟩ := qec4_11
  change own_S _ _ _ _ _ _ _ _ _ _ _ _ _ _ [(x1, own_O "com/example/hazeline/hazeline/fuzzy/Trapezoid" [("com/example/hazeline/hazeline/fuzzy/Trapezoid", "a", "D", .double p0), ("com/example/hazeline/hazeline/fuzzy/Trapezoid", "b", "D", .double p1), ("com/example/hazeline/hazeline/fuzzy/Trapezoid", "c", "D", .double p2), ("com/example/hazeline/hazeline/fuzzy/Trapezoid", "d", "D", .double p3)]), (x2, own_O "com/example/hazeline/hazeline/fuzzy/Trapezoid" [("com/example/hazeline/hazeline/fuzzy/Trapezoid", "a", "D", .double q0), ("com/example/hazeline/hazeline/fuzzy/Trapezoid", "b", "D", .double q1), ("com/example/hazeline/hazeline/fuzzy/Trapezoid", "c", "D", .double q2), ("com/example/hazeline/hazeline/fuzzy/Trapezoid", "d", "D", .double q3)])] _ _ at Hec4_11
  obtain ⟨Tec4_12, Hec4_12, stec4_12⟩ := own_getF Hec4_11 hx hZ hown (hw _ (List.mem_of_getElem? (i := 28) rfl)) 0 3 rfl rfl (g := (mkF m 57 #[.val (.ref x1), .val (.ref x1), .val (.ref x1)] [(.ref x1)])) rfl rfl (hb hby d7_57)
  change own_S _ _ _ _ _ _ _ _ _ _ _ _ _ _ [(x1, own_O "com/example/hazeline/hazeline/fuzzy/Trapezoid" [("com/example/hazeline/hazeline/fuzzy/Trapezoid", "a", "D", .double p0), ("com/example/hazeline/hazeline/fuzzy/Trapezoid", "b", "D", .double p1), ("com/example/hazeline/hazeline/fuzzy/Trapezoid", "c", "D", .double p2), ("com/example/hazeline/hazeline/fuzzy/Trapezoid", "d", "D", .double p3)]), (x2, own_O "com/example/hazeline/hazeline/fuzzy/Trapezoid" [("com/example/hazeline/hazeline/fuzzy/Trapezoid", "a", "D", .double q0), ("com/example/hazeline/hazeline/fuzzy/Trapezoid", "b", "D", .double q1), ("com/example/hazeline/hazeline/fuzzy/Trapezoid", "c", "D", .double q2), ("com/example/hazeline/hazeline/fuzzy/Trapezoid", "d", "D", .double q3)])] _ _ at Hec4_12
  obtain ⟨Tec4_13, Hec4_13, stec4_13⟩ := own_getF Hec4_12 hx hZ hown (hw _ (List.mem_of_getElem? (i := 28) rfl)) 0 3 rfl rfl (g := (mkF m 61 #[.val (.ref x1), .val (.ref x1), .val (.ref x1)] [(.ref x1), (.double p3)])) rfl rfl (hb hby d7_61)
  change own_S _ _ _ _ _ _ _ _ _ _ _ _ _ _ [(x1, own_O "com/example/hazeline/hazeline/fuzzy/Trapezoid" [("com/example/hazeline/hazeline/fuzzy/Trapezoid", "a", "D", .double p0), ("com/example/hazeline/hazeline/fuzzy/Trapezoid", "b", "D", .double p1), ("com/example/hazeline/hazeline/fuzzy/Trapezoid", "c", "D", .double p2), ("com/example/hazeline/hazeline/fuzzy/Trapezoid", "d", "D", .double p3)]), (x2, own_O "com/example/hazeline/hazeline/fuzzy/Trapezoid" [("com/example/hazeline/hazeline/fuzzy/Trapezoid", "a", "D", .double q0), ("com/example/hazeline/hazeline/fuzzy/Trapezoid", "b", "D", .double q1), ("com/example/hazeline/hazeline/fuzzy/Trapezoid", "c", "D", .double q2), ("com/example/hazeline/hazeline/fuzzy/Trapezoid", "d", "D", .double q3)])] _ _ at Hec4_13
  obtain ⟨Tec4_14, vec4_14_, csec4_14_, qec4_14, Hec4_14, stec4_14⟩ := own_callS Hec4_13 hx hZ hown (hw _ (List.mem_of_getElem? (i := 40) rfl)) (hw _ (List.mem_of_getElem? (i := 41) rfl)) (hw _ (List.mem_of_getElem? (i := 15) rfl)) (hw _ (List.mem_of_getElem? (i := 42) rfl)) (by decide) (argsL := [(.double p3), (.double p3)]) (rest := []) (W := 0) (own_cmp0 l Z a0 hb0 hw p3 p3 _ _ _ i3 i3 rfl) (by decide) (by decide) (by decide) (by decide) (g := (mkF m 64 #[.val (.ref x1), .val (.ref x1), .val (.ref x1)] [(.double p3), (.double p3)])) rfl (by rw [hml]; rfl) (lenOf own_pd7 rfl) rfl (by show 2 * 0 + _ ≤ _; exact Nat.le_of_eq rfl) (hb hby d7_64)
  obtain ⟨rfl, rfl⟩ := qec4_14
  change own_S _ _ _ _ _ _ _ _ _ _ _ _ _ _ [(x1, own_O "com/example/hazeline/hazeline/fuzzy/Trapezoid" [("com/example/hazeline/hazeline/fuzzy/Trapezoid", "a", "D", .double p0), ("com/example/hazeline/hazeline/fuzzy/Trapezoid", "b", "D", .double p1), ("com/example/hazeline/hazeline/fuzzy/Trapezoid", "c", "D", .double p2), ("com/example/hazeline/hazeline/fuzzy/Trapezoid", "d", "D", .double p3)]), (x2, own_O "com/example/hazeline/hazeline/fuzzy/Trapezoid" [("com/example/hazeline/hazeline/fuzzy/Trapezoid", "a", "D", .double q0), ("com/example/hazeline/hazeline/fuzzy/Trapezoid", "b", "D", .double q1), ("com/example/hazeline/hazeline/fuzzy/Trapezoid", "c", "D", .double q2), ("com/example/hazeline/hazeline/fuzzy/Trapezoid", "d", "D", .double q3)])] _ _ at Hec4_14
  refine ⟨_, _, _, _, 75, #[.val (.ref x1), .val (.ref x1), .val (.ref x1)], Hec4_14, by decide, by decide, Or.inr ⟨.boolean, (.int (1 : Int32)), [], .ireturn, rfl, ⟨rfl, rfl⟩, d7_75, own_retZ (Or.inr rfl), fun target q => ?_⟩⟩
  refine own_go H0 hx hZ hown hby hw own_K7_ok (own_ec4_0 x1) _ ?_
  refine stec4_1 _ ?_
  refine own_go Hec4_1 hx hZ hown hby hw own_K7_ok (own_ec4_1 x1) _ ?_
  refine stec4_2 _ ?_
  refine own_go Hec4_2 hx hZ hown hby hw own_K7_ok (own_ec4_2 x1) _ ?_
  refine stec4_3 _ ?_
  refine own_go Hec4_3 hx hZ hown hby hw own_K7_ok (own_ec4_3 x1 p0) _ ?_
  refine stec4_4 _ ?_
  refine stec4_5 _ ?_
  refine own_go Hec4_5 hx hZ hown hby hw own_K7_ok (own_ec4_4 x1) _ ?_
  refine stec4_6 _ ?_
  refine own_go Hec4_6 hx hZ hown hby hw own_K7_ok (own_ec4_5 x1 p1) _ ?_
  refine stec4_7 _ ?_
  refine stec4_8 _ ?_
  refine own_go Hec4_8 hx hZ hown hby hw own_K7_ok (own_ec4_6 x1) _ ?_
  refine stec4_9 _ ?_
  refine own_go Hec4_9 hx hZ hown hby hw own_K7_ok (own_ec4_7 x1 p2) _ ?_
  refine stec4_10 _ ?_
  refine stec4_11 _ ?_
  refine own_go Hec4_11 hx hZ hown hby hw own_K7_ok (own_ec4_8 x1) _ ?_
  refine stec4_12 _ ?_
  refine own_go Hec4_12 hx hZ hown hby hw own_K7_ok (own_ec4_9 x1 p3) _ ?_
  refine stec4_13 _ ?_
  refine stec4_14 _ ?_
  refine own_go Hec4_14 hx hZ hown hby hw own_K7_ok (own_ec4_10 x1) _ ?_
  exact q
theorem own_en_0 (x1 : Addr) :
    own_Go own_K7 prog_5_method_14_code 0 #[.val (.ref x1), .val .null, .unset] [] 1 #[.val (.ref x1), .val .null, .unset] [.null] := by
  refine own_aloadN (pc2 := 1) d7_0 rfl rfl rfl ?_
  exact own_refl
theorem own_en_1 (x1 : Addr) :
    own_Go own_K7 prog_5_method_14_code 4 #[.val (.ref x1), .val .null, .unset] [(.int (0 : Int32))] 8 #[.val (.ref x1), .val .null, .unset] [(.int (0 : Int32))] := by
  refine own_ifNo (pc2 := 7) d7_4 rfl (by decide) ?_
  refine own_iconst (v := 0) (pc2 := 8) d7_7 rfl rfl ?_
  exact own_refl
set_option maxRecDepth 65536 in
set_option maxHeartbeats 4000000 in
theorem own_eqN (l : Launch) (Z : State) (a0 : Array Value) (hb0 : own_Base) (hw : ∀ d ∈ tables_1, d.before a0 Z = true) (x1 : Addr) (x2 : Addr) (qa qb : own_Cel) :
    own_Met l Z a0 hb0 (⟨"com/example/hazeline/hazeline/fuzzy/Trapezoid", "equals", "(Ljava/lang/Object;)Z"⟩ : MethodName) prog_5_method_14_code 3 (some .boolean) [] ({ frames := 3, cells := 0, slots := 0, locals := 90 } : Room) #[(.ref x1), .null] [(x1, qa), (x2, qb)] (fun r cs' => r = some (.int 0) ∧ cs' = [(x1, qa), (x2, qb)]) := by
  refine own_met_of (L0 := #[.val (.ref x1), .val .null, .unset]) (plainFor_of_name own_pn7) (fun m => own_ef7N m x1) ?_
  intro p e s m below meth c T0 hx hZ hown hby hml hnm H0
  refine ⟨_, _, _, _, 8, #[.val (.ref x1), .val .null, .unset], H0, by decide, by decide, Or.inr ⟨.boolean, (.int (0 : Int32)), [], .ireturn, rfl, ⟨rfl, rfl⟩, d7_8, own_retZ (Or.inl rfl), fun target q => ?_⟩⟩
  refine own_go H0 hx hZ hown hby hw own_K7_ok (own_en_0 x1) _ ?_
  refine own_instNull H0 hx (g := (mkF m 1 #[.val (.ref x1), .val .null, .unset] [.null])) rfl rfl (hb hby d7_1) _ ?_
  refine own_go H0 hx hZ hown hby hw own_K7_ok (own_en_1 x1) _ ?_
  exact q
theorem own_es_0 (x1 : Addr) (sx : Addr) :
    own_Go own_K7 prog_5_method_14_code 0 #[.val (.ref x1), .val (.ref sx), .unset] [] 1 #[.val (.ref x1), .val (.ref sx), .unset] [(.ref sx)] := by
  refine own_aloadN (pc2 := 1) d7_0 rfl rfl rfl ?_
  exact own_refl
theorem own_es_1 (x1 : Addr) (sx : Addr) :
    own_Go own_K7 prog_5_method_14_code 4 #[.val (.ref x1), .val (.ref sx), .unset] [(.int (0 : Int32))] 8 #[.val (.ref x1), .val (.ref sx), .unset] [(.int (0 : Int32))] := by
  refine own_ifNo (pc2 := 7) d7_4 rfl (by decide) ?_
  refine own_iconst (v := 0) (pc2 := 8) d7_7 rfl rfl ?_
  exact own_refl
set_option maxRecDepth 65536 in
set_option maxHeartbeats 4000000 in
theorem own_eqS (l : Launch) (Z : State) (a0 : Array Value) (hb0 : own_Base) (hw : ∀ d ∈ tables_1, d.before a0 Z = true) (x1 : Addr) (sx : Addr) (x2 sy : Addr) (qa qb qc : own_Cel) :
    own_Met l Z a0 hb0 (⟨"com/example/hazeline/hazeline/fuzzy/Trapezoid", "equals", "(Ljava/lang/Object;)Z"⟩ : MethodName) prog_5_method_14_code 3 (some .boolean) [] ({ frames := 3, cells := 0, slots := 0, locals := 90 } : Room) #[(.ref x1), (.ref sx)] [(x1, qa), (x2, qb), (sx, own_O "java/lang/String" [("java/lang/String", "value", "[B", .ref sy), ("java/lang/String", "coder", "B", .int 0)]), (sy, qc)] (fun r cs' => r = some (.int 0) ∧ cs' = [(x1, qa), (x2, qb), (sx, own_O "java/lang/String" [("java/lang/String", "value", "[B", .ref sy), ("java/lang/String", "coder", "B", .int 0)]), (sy, qc)]) := by
  refine own_met_of (L0 := #[.val (.ref x1), .val (.ref sx), .unset]) (plainFor_of_name own_pn7) (fun m => own_ef7 m x1 sx) ?_
  intro p e s m below meth c T0 hx hZ hown hby hml hnm H0
  obtain ⟨Tes_1, Hes_1, stes_1⟩ := own_instNo H0 hx hZ hown (hw _ (List.mem_of_getElem? (i := 38) rfl)) (own_noAsg (hw _ (List.mem_of_getElem? (i := 67) rfl)) (hw _ (List.mem_of_getElem? (i := 68) rfl)) (hw _ (List.mem_of_getElem? (i := 1) rfl)) (by decide) (by decide)) 2 rfl (g := (mkF m 1 #[.val (.ref x1), .val (.ref sx), .unset] [(.ref sx)])) rfl rfl (hb hby d7_1)
  change own_S _ _ _ _ _ _ _ _ _ _ _ _ _ _ [(x1, qa), (x2, qb), (sx, own_O "java/lang/String" [("java/lang/String", "value", "[B", .ref sy), ("java/lang/String", "coder", "B", .int 0)]), (sy, qc)] _ _ at Hes_1
  refine ⟨_, _, _, _, 8, #[.val (.ref x1), .val (.ref sx), .unset], Hes_1, by decide, by decide, Or.inr ⟨.boolean, (.int (0 : Int32)), [], .ireturn, rfl, ⟨rfl, rfl⟩, d7_8, own_retZ (Or.inl rfl), fun target q => ?_⟩⟩
  refine own_go H0 hx hZ hown hby hw own_K7_ok (own_es_0 x1 sx) _ ?_
  refine stes_1 _ ?_
  refine own_go Hes_1 hx hZ hown hby hw own_K7_ok (own_es_1 x1 sx) _ ?_
  exact q
theorem own_ef9 (m : MethodId) (x0 : Int32) : entryFrame m #[(.int x0)] 1 = mkF m 0 #[.val (.int x0)] [] := by first | (simp [entryFrame, mkF, argsToLocals, Value.category]; done) | rfl
theorem own_ef10 (m : MethodId) (x0 : Int32) : entryFrame m #[(.int x0)] 1 = mkF m 0 #[.val (.int x0)] [] := by first | (simp [entryFrame, mkF, argsToLocals, Value.category]; done) | rfl
theorem own_ef11 (m : MethodId) (x0 : Int32) : entryFrame m #[(.int x0)] 1 = mkF m 0 #[.val (.int x0)] [] := by first | (simp [entryFrame, mkF, argsToLocals, Value.category]; done) | rfl
theorem own_ef12 (m : MethodId) (x0 : Addr) (x1 : Addr) (x2 : Int32) : entryFrame m #[(.ref x0), (.ref x1), (.int x2)] 3 = mkF m 0 #[.val (.ref x0), .val (.ref x1), .val (.int x2)] [] := by first | (simp [entryFrame, mkF, argsToLocals, Value.category]; done) | rfl
theorem own_ce0 (ch : Int32) (hb4 : if_icmp.holds .gt ch (255 : Int32) = false) :
    own_Go own_K10 jdk_43_method_3_code 0 #[.val (.int ch)] [] 12 #[.val (.int ch)] [(.int (1 : Int32))] := by
  refine own_iloadN (pc2 := 1) d10_0 rfl rfl ?_
  refine own_sipush (v := 255) (pc2 := 4) d10_1 rfl rfl ?_
  refine own_icmpNo (pc2 := 7) d10_4 rfl hb4 ?_
  refine own_iconst (v := 1) (pc2 := 8) d10_7 rfl rfl ?_
  refine own_goto (pc' := 12) d10_8 (by decide) (by decide) ?_
  exact own_refl
set_option maxRecDepth 65536 in
set_option maxHeartbeats 4000000 in
theorem own_can (l : Launch) (Z : State) (a0 : Array Value) (hb0 : own_Base) (hw : ∀ d ∈ tables_1, d.before a0 Z = true) (ch : Int32) (cs : List (Addr × own_Cel)) (kc : 0 ≤ ch.toInt ∧ ch.toInt ≤ 255) :
    own_Met l Z a0 hb0 (⟨"java/lang/StringLatin1", "canEncode", "(C)Z"⟩ : MethodName) jdk_43_method_3_code 1 (some .boolean) [] ({ frames := 0, cells := 0, slots := 0, locals := 0 } : Room) #[(.int ch)] cs (fun r cs' => r = some (.int 1) ∧ cs' = cs) := by
  refine own_met_of (L0 := #[.val (.int ch)]) (by decide +kernel) (fun m => own_ef10 m ch) ?_
  intro p e s m below meth c T0 hx hZ hown hby hml hnm H0
  have hb4 : if_icmp.holds .gt ch (255 : Int32) = false := by
    rw [own_i_gt, show (255 : Int32).toInt = 255 from rfl]
    exact decide_eq_false (by omega)
  refine ⟨_, _, _, _, 12, #[.val (.int ch)], H0, by decide, by decide, Or.inr ⟨.boolean, (.int (1 : Int32)), [], .ireturn, rfl, ⟨rfl, rfl⟩, d10_12, own_retZ (Or.inr rfl), fun target q => ?_⟩⟩
  refine own_go H0 hx hZ hown hby hw own_K10_ok (own_ce0 ch hb4) _ ?_
  exact q
theorem own_ty0 (ch : Int32) :
    own_Go own_K11 jdk_43_method_46_code 0 #[.val (.int ch)] [] 1 #[.val (.int ch)] [(.int (1 : Int32))] := by
  refine own_iconst (v := 1) (pc2 := 1) d11_0 rfl rfl ?_
  exact own_refl
theorem own_ty1 (ch : Int32) (sy : Addr) (v6 : Int32) (hv6 : ch.toInt8.toInt32 = v6) :
    own_Go own_K11 jdk_43_method_46_code 3 #[.val (.int ch)] [(.ref sy)] 7 #[.val (.int ch)] [(.int v6), (.int (0 : Int32)), (.ref sy), (.ref sy)] := by
  refine own_dup (pc2 := 4) d11_3 rfl rfl ?_
  refine own_iconst (v := 0) (pc2 := 5) d11_4 rfl rfl ?_
  refine own_iloadN (pc2 := 6) d11_5 rfl rfl ?_
  refine own_i2b (pc2 := 7) d11_6 rfl (v := v6) hv6 ?_
  exact own_refl
set_option maxRecDepth 65536 in
set_option maxHeartbeats 4000000 in
theorem own_tob (l : Launch) (Z : State) (a0 : Array Value) (hb0 : own_Base) (hw : ∀ d ∈ tables_1, d.before a0 Z = true) (ch : Int32) (x1 x2 : Addr) (qa qb : own_Cel) (sx : Addr) :
    own_Met l Z a0 hb0 (⟨"java/lang/StringLatin1", "toBytes", "(C)[B"⟩ : MethodName) jdk_43_method_46_code 1 (some (.array .byte)) [] ({ frames := 0, cells := 1, slots := 1, locals := 0 } : Room) #[(.int ch)] [(x1, qa), (x2, qb), (sx, own_O "java/lang/String" [("java/lang/String", "value", "[B", .null), ("java/lang/String", "coder", "B", .int 0)])] (fun r cs' => ∃ sy b0, r = some (.ref sy) ∧ cs' = [(x1, qa), (x2, qb), (sx, own_O "java/lang/String" [("java/lang/String", "value", "[B", .null), ("java/lang/String", "coder", "B", .int 0)]), (sy, own_A .byte [.int b0])]) := by
  refine own_met_of (L0 := #[.val (.int ch)]) (by decide +kernel) (fun m => own_ef11 m ch) ?_
  intro p e s m below meth c T0 hx hZ hown hby hml hnm H0
  obtain ⟨Tty1, sy, Hty1, stty1⟩ := own_newA H0 hx hZ (hw _ (List.mem_of_getElem? (i := 57) rfl)) (g := (mkF m 1 #[.val (.int ch)] [(.int (1 : Int32))])) rfl (hb hby d11_1) rfl (by decide) (cap := 1) (by decide) (by decide) (by decide) (by decide)
  change own_S _ _ _ _ _ _ _ _ _ _ _ _ _ _ [(x1, qa), (x2, qb), (sx, own_O "java/lang/String" [("java/lang/String", "value", "[B", .null), ("java/lang/String", "coder", "B", .int 0)]), (sy, own_A .byte [.int 0])] _ _ at Hty1
  obtain ⟨v6, hv6⟩ : ∃ z : Int32, ch.toInt8.toInt32 = z := ⟨_, rfl⟩
  obtain ⟨Tty2, Hty2, stty2⟩ := own_bastore Hty1 hx hZ 3 0 rfl (by decide) (Nat.le_of_ble_eq_true rfl) (g := (mkF m 7 #[.val (.int ch)] [(.int v6), (.int (0 : Int32)), (.ref sy), (.ref sy)])) rfl rfl (hb hby d11_7)
  change own_S _ _ _ _ _ _ _ _ _ _ _ _ _ _ [(x1, qa), (x2, qb), (sx, own_O "java/lang/String" [("java/lang/String", "value", "[B", .null), ("java/lang/String", "coder", "B", .int 0)]), (sy, own_A .byte [.int (nar .byte v6)])] _ _ at Hty2
  refine ⟨_, _, _, _, 8, #[.val (.int ch)], Hty2, by decide, by decide, Or.inr ⟨(.array .byte), (.ref sy), [], .areturn, rfl, ⟨sy, _, rfl, rfl⟩, d11_8, own_retB _, fun target q => ?_⟩⟩
  refine own_go H0 hx hZ hown hby hw own_K11_ok (own_ty0 ch) _ ?_
  refine stty1 _ ?_
  refine own_go Hty1 hx hZ hown hby hw own_K11_ok (own_ty1 ch sy v6 hv6) _ ?_
  refine stty2 _ ?_
  exact q
theorem own_si0 (sx : Addr) (sy : Addr) :
    own_Go own_K12 jdk_42_method_151_code 0 #[.val (.ref sx), .val (.ref sy), .val (.int (0 : Int32))] [] 1 #[.val (.ref sx), .val (.ref sy), .val (.int (0 : Int32))] [(.ref sx)] := by
  refine own_aloadN (pc2 := 1) d12_0 rfl rfl rfl ?_
  exact own_refl
theorem own_si1 (sx : Addr) (sy : Addr) :
    own_Go own_K12 jdk_42_method_151_code 4 #[.val (.ref sx), .val (.ref sy), .val (.int (0 : Int32))] [] 6 #[.val (.ref sx), .val (.ref sy), .val (.int (0 : Int32))] [(.ref sy), (.ref sx)] := by
  refine own_aloadN (pc2 := 5) d12_4 rfl rfl rfl ?_
  refine own_aloadN (pc2 := 6) d12_5 rfl rfl rfl ?_
  exact own_refl
theorem own_si2 (sx : Addr) (sy : Addr) :
    own_Go own_K12 jdk_42_method_151_code 9 #[.val (.ref sx), .val (.ref sy), .val (.int (0 : Int32))] [] 11 #[.val (.ref sx), .val (.ref sy), .val (.int (0 : Int32))] [(.int (0 : Int32)), (.ref sx)] := by
  refine own_aloadN (pc2 := 10) d12_9 rfl rfl rfl ?_
  refine own_iloadN (pc2 := 11) d12_10 rfl rfl ?_
  exact own_refl
set_option maxRecDepth 65536 in
set_option maxHeartbeats 4000000 in
theorem own_sin (l : Launch) (Z : State) (a0 : Array Value) (hb0 : own_Base) (hw : ∀ d ∈ tables_1, d.before a0 Z = true) (sx : Addr) (sy : Addr) (x1 x2 : Addr) (qa qb : own_Cel) (b0 : Int32) :
    own_Met l Z a0 hb0 (⟨"java/lang/String", "<init>", "([BB)V"⟩ : MethodName) jdk_42_method_151_code 3 none [] ({ frames := 1, cells := 0, slots := 0, locals := 12 } : Room) #[(.ref sx), (.ref sy), (.int (0 : Int32))] [(x1, qa), (x2, qb), (sx, own_O "java/lang/String" [("java/lang/String", "value", "[B", .null), ("java/lang/String", "coder", "B", .int 0)]), (sy, own_A .byte [.int b0])] (fun r cs' => r = none ∧ cs' = [(x1, qa), (x2, qb), (sx, own_O "java/lang/String" [("java/lang/String", "value", "[B", .ref sy), ("java/lang/String", "coder", "B", .int 0)]), (sy, own_A .byte [.int b0])]) := by
  refine own_met_of (L0 := #[.val (.ref sx), .val (.ref sy), .val (.int (0 : Int32))]) (by decide +kernel) (fun m => own_ef12 m sx sy (0 : Int32)) ?_
  intro p e s m below meth c T0 hx hZ hown hby hml hnm H0
  obtain ⟨Tsi1, Hsi1, stsi1⟩ := own_initO H0 hx hZ hown (hw _ (List.mem_of_getElem? (i := 62) rfl)) (hw _ (List.mem_of_getElem? (i := 11) rfl)) (hw _ (List.mem_of_getElem? (i := 12) rfl)) (g := (mkF m 1 #[.val (.ref sx), .val (.ref sy), .val (.int (0 : Int32))] [(.ref sx)])) rfl (by rw [hml]; rfl) rfl (hb hby d12_1) (by decide) (W := 0) (by show 2 * 0 + _ ≤ _; exact Nat.le_of_eq rfl) (by decide)
  change own_S _ _ _ _ _ _ _ _ _ _ _ _ _ _ [(x1, qa), (x2, qb), (sx, own_O "java/lang/String" [("java/lang/String", "value", "[B", .null), ("java/lang/String", "coder", "B", .int 0)]), (sy, own_A .byte [.int b0])] _ _ at Hsi1
  obtain ⟨Tsi2, Hsi2, stsi2⟩ := own_putF Hsi1 hx hZ hown (hw _ (List.mem_of_getElem? (i := 63) rfl)) 2 0 rfl rfl (Or.inr ⟨(hw _ (List.mem_of_getElem? (i := 64) rfl)), rfl, hnm⟩) (hw _ (List.mem_of_getElem? (i := 53) rfl)) (ty := (.array .byte)) (by decide) rfl rfl (g := (mkF m 6 #[.val (.ref sx), .val (.ref sy), .val (.int (0 : Int32))] [(.ref sy), (.ref sx)])) rfl rfl (hb hby d12_6)
  change own_S _ _ _ _ _ _ _ _ _ _ _ _ _ _ [(x1, qa), (x2, qb), (sx, own_O "java/lang/String" [("java/lang/String", "value", "[B", .ref sy), ("java/lang/String", "coder", "B", .int 0)]), (sy, own_A .byte [.int b0])] _ _ at Hsi2
  obtain ⟨Tsi3, Hsi3, stsi3⟩ := own_putF Hsi2 hx hZ hown (hw _ (List.mem_of_getElem? (i := 65) rfl)) 2 1 rfl rfl (Or.inr ⟨(hw _ (List.mem_of_getElem? (i := 66) rfl)), rfl, hnm⟩) (hw _ (List.mem_of_getElem? (i := 53) rfl)) (ty := .byte) (by decide) rfl rfl (g := (mkF m 11 #[.val (.ref sx), .val (.ref sy), .val (.int (0 : Int32))] [(.int (0 : Int32)), (.ref sx)])) rfl rfl (hb hby d12_11)
  change own_S _ _ _ _ _ _ _ _ _ _ _ _ _ _ [(x1, qa), (x2, qb), (sx, own_O "java/lang/String" [("java/lang/String", "value", "[B", .ref sy), ("java/lang/String", "coder", "B", .int (0 : Int32))]), (sy, own_A .byte [.int b0])] _ _ at Hsi3
  refine ⟨_, _, _, _, 14, #[.val (.ref sx), .val (.ref sy), .val (.int (0 : Int32))], Hsi3, by decide, by decide, Or.inl ⟨rfl, ⟨rfl, rfl⟩, d12_14, fun target q => ?_⟩⟩
  refine own_go H0 hx hZ hown hby hw own_K12_ok (own_si0 sx sy) _ ?_
  refine stsi1 _ ?_
  refine own_go Hsi1 hx hZ hown hby hw own_K12_ok (own_si1 sx sy) _ ?_
  refine stsi2 _ ?_
  refine own_go Hsi2 hx hZ hown hby hw own_K12_ok (own_si2 sx sy) _ ?_
  refine stsi3 _ ?_
  exact q
theorem own_vo0 (ch : Int32) (gs : Int32) (hb3 : ifCond.holds .eq gs = false) :
    own_Go own_K9 jdk_42_method_139_code 3 #[.val (.int ch)] [(.int gs)] 7 #[.val (.int ch)] [(.int ch)] := by
  refine own_ifNo (pc2 := 6) d9_3 rfl hb3 ?_
  refine own_iloadN (pc2 := 7) d9_6 rfl rfl ?_
  exact own_refl
theorem own_vo1 (ch : Int32) :
    own_Go own_K9 jdk_42_method_139_code 10 #[.val (.int ch)] [(.int (1 : Int32))] 13 #[.val (.int ch)] [] := by
  refine own_ifNo (pc2 := 13) d9_10 rfl (by decide) ?_
  exact own_refl
theorem own_vo2 (ch : Int32) (sx : Addr) :
    own_Go own_K9 jdk_42_method_139_code 16 #[.val (.int ch)] [(.ref sx)] 18 #[.val (.int ch)] [(.int ch), (.ref sx), (.ref sx)] := by
  refine own_dup (pc2 := 17) d9_16 rfl rfl ?_
  refine own_iloadN (pc2 := 18) d9_17 rfl rfl ?_
  exact own_refl
theorem own_vo3 (ch : Int32) (sy : Addr) (sx : Addr) :
    own_Go own_K9 jdk_42_method_139_code 21 #[.val (.int ch)] [(.ref sy), (.ref sx), (.ref sx)] 22 #[.val (.int ch)] [(.int (0 : Int32)), (.ref sy), (.ref sx), (.ref sx)] := by
  refine own_iconst (v := 0) (pc2 := 22) d9_21 rfl rfl ?_
  exact own_refl
set_option maxRecDepth 65536 in
set_option maxHeartbeats 4000000 in
theorem own_vof (l : Launch) (Z : State) (a0 : Array Value) (hb0 : own_Base) (hw : ∀ d ∈ tables_1, d.before a0 Z = true) (ch : Int32) (x1 x2 : Addr) (qa qb : own_Cel) (kc : 0 ≤ ch.toInt ∧ ch.toInt ≤ 255) (gs : Int32) (SG : Sta Z hb0.b "java/lang/String" "COMPACT_STRINGS" "Z" (.int gs)) (gz : ¬ gs = (0 : Int32)) :
    own_Met l Z a0 hb0 (⟨"java/lang/String", "valueOf", "(C)Ljava/lang/String;"⟩ : MethodName) jdk_42_method_139_code 1 (some (.object "java/lang/String")) [] ({ frames := 2, cells := 2, slots := 5, locals := 40 } : Room) #[(.int ch)] [(x1, qa), (x2, qb)] (fun r cs' => ∃ sx sy b0, r = some (.ref sx) ∧ cs' = [(x1, qa), (x2, qb), (sx, own_O "java/lang/String" [("java/lang/String", "value", "[B", .ref sy), ("java/lang/String", "coder", "B", .int 0)]), (sy, own_A .byte [.int b0])]) := by
  refine own_met_of (L0 := #[.val (.int ch)]) (by decide +kernel) (fun m => own_ef9 m ch) ?_
  intro p e s m below meth c T0 hx hZ hown hby hml hnm H0
  obtain ⟨Tvo1, Hvo1, stvo1⟩ := own_getS H0 hx hZ hown (hw _ (List.mem_of_getElem? (i := 47) rfl)) SG (g := (mkF m 0 #[.val (.int ch)] [])) rfl (hb hby d9_0)
  change own_S _ _ _ _ _ _ _ _ _ _ _ _ _ _ [(x1, qa), (x2, qb)] _ _ at Hvo1
  obtain ⟨Tvo2, vvo2_, csvo2_, qvo2, Hvo2, stvo2⟩ := own_callS Hvo1 hx hZ hown (hw _ (List.mem_of_getElem? (i := 48) rfl)) (hw _ (List.mem_of_getElem? (i := 49) rfl)) (hw _ (List.mem_of_getElem? (i := 50) rfl)) (hw _ (List.mem_of_getElem? (i := 51) rfl)) (by decide) (argsL := [(.int ch)]) (rest := []) (W := 0) (own_can l Z a0 hb0 hw ch _ kc) (by decide) (by decide) (by decide) (by decide) (g := (mkF m 7 #[.val (.int ch)] [(.int ch)])) rfl (by rw [hml]; rfl) (lenOf own_pd2 rfl) rfl (by show 2 * 0 + _ ≤ _; exact Nat.le_of_eq rfl) (hb hby d9_7)
  obtain ⟨rfl, rfl⟩ := qvo2
  change own_S _ _ _ _ _ _ _ _ _ _ _ _ _ _ [(x1, qa), (x2, qb)] _ _ at Hvo2
  obtain ⟨Tvo3, sx, Hvo3, stvo3⟩ := own_newO Hvo2 hx hZ hown (hw _ (List.mem_of_getElem? (i := 52) rfl)) (hw _ (List.mem_of_getElem? (i := 53) rfl)) (hw _ (List.mem_of_getElem? (i := 45) rfl)) [("java/lang/String", "value", "[B", .null), ("java/lang/String", "coder", "B", .int 0)] (by
      intro f hf
      simp only [List.mem_cons, List.not_mem_nil, or_false] at hf
      rcases hf with rfl | rfl
      · exact ⟨Or.inr (hw _ (List.mem_of_getElem? (i := 64) rfl)), (.array .byte), by decide, rfl⟩
      · exact ⟨Or.inr (hw _ (List.mem_of_getElem? (i := 66) rfl)), .byte, by decide, rfl⟩) (by decide) (g := (mkF m 13 #[.val (.int ch)] [])) rfl (hb hby d9_13) (by decide) (by decide)
  change own_S _ _ _ _ _ _ _ _ _ _ _ _ _ _ [(x1, qa), (x2, qb), (sx, own_O "java/lang/String" [("java/lang/String", "value", "[B", .null), ("java/lang/String", "coder", "B", .int 0)])] _ _ at Hvo3
  obtain ⟨Tvo4, vvo4_, csvo4_, qvo4, Hvo4, stvo4⟩ := own_callS Hvo3 hx hZ hown (hw _ (List.mem_of_getElem? (i := 54) rfl)) (hw _ (List.mem_of_getElem? (i := 55) rfl)) (hw _ (List.mem_of_getElem? (i := 50) rfl)) (hw _ (List.mem_of_getElem? (i := 56) rfl)) (by decide) (argsL := [(.int ch)]) (rest := [(.ref sx), (.ref sx)]) (W := 2) (own_tob l Z a0 hb0 hw ch x1 x2 qa qb sx) (by decide) (by decide) (by decide) (by decide) (g := (mkF m 18 #[.val (.int ch)] [(.int ch), (.ref sx), (.ref sx)])) rfl (by rw [hml]; rfl) (lenOf own_pd3 rfl) rfl (by show 2 * 0 + _ ≤ _; exact Nat.le_of_eq rfl) (hb hby d9_18)
  obtain ⟨sy, b0, rfl, rfl⟩ := qvo4
  change own_S _ _ _ _ _ _ _ _ _ _ _ _ _ _ [(x1, qa), (x2, qb), (sx, own_O "java/lang/String" [("java/lang/String", "value", "[B", .null), ("java/lang/String", "coder", "B", .int 0)]), (sy, own_A .byte [.int b0])] _ _ at Hvo4
  obtain ⟨Tvo5, vvo5_, csvo5_, qvo5, Hvo5, stvo5⟩ := own_callI Hvo4 hx hZ hown rfl (hw _ (List.mem_of_getElem? (i := 58) rfl)) (hw _ (List.mem_of_getElem? (i := 59) rfl)) (hw _ (List.mem_of_getElem? (i := 45) rfl)) (hw _ (List.mem_of_getElem? (i := 61) rfl)) (by decide) (x := sx) (argsL := [(.ref sy), (.int (0 : Int32))]) (rest := [(.ref sx)]) (W := 1) (own_sin l Z a0 hb0 hw sx sy x1 x2 qa qb b0) (by decide) (by decide) (by decide) (by decide) (g := (mkF m 22 #[.val (.int ch)] [(.int (0 : Int32)), (.ref sy), (.ref sx), (.ref sx)])) rfl (by rw [hml]; rfl) (lenOf own_pd12 rfl) rfl (by show 2 * 0 + _ ≤ _; exact Nat.le_of_eq rfl) (hb hby d9_22)
  obtain ⟨rfl, rfl⟩ := qvo5
  change own_S _ _ _ _ _ _ _ _ _ _ _ _ _ _ [(x1, qa), (x2, qb), (sx, own_O "java/lang/String" [("java/lang/String", "value", "[B", .ref sy), ("java/lang/String", "coder", "B", .int 0)]), (sy, own_A .byte [.int b0])] _ _ at Hvo5
  have hb3 : ifCond.holds .eq gs = false := by rw [own_z_eq]; exact decide_eq_false gz
  refine ⟨_, _, _, _, 25, #[.val (.int ch)], Hvo5, by decide, by decide, Or.inr ⟨(.object "java/lang/String"), (.ref sx), [], .areturn, rfl, ⟨sx, sy, b0, rfl, rfl⟩, d9_25, own_retO _, fun target q => ?_⟩⟩
  refine stvo1 _ ?_
  refine own_go Hvo1 hx hZ hown hby hw own_K9_ok (own_vo0 ch gs hb3) _ ?_
  refine stvo2 _ ?_
  refine own_go Hvo2 hx hZ hown hby hw own_K9_ok (own_vo1 ch) _ ?_
  refine stvo3 _ ?_
  refine own_go Hvo3 hx hZ hown hby hw own_K9_ok (own_vo2 ch sx) _ ?_
  refine stvo4 _ ?_
  refine own_go Hvo4 hx hZ hown hby hw own_K9_ok (own_vo3 ch sy sx) _ ?_
  refine stvo5 _ ?_
  exact q

theorem own_kinds (x : Int32) : ((x >>> ((2 : Int32) &&& 31)) &&& (3 : Int32)) = (0 : Int32) ∨ ((x >>> ((2 : Int32) &&& 31)) &&& (3 : Int32)) = (1 : Int32) ∨ ((x >>> ((2 : Int32) &&& 31)) &&& (3 : Int32)) = (2 : Int32) ∨ ((x >>> ((2 : Int32) &&& 31)) &&& (3 : Int32)) = (3 : Int32) := by
  generalize x >>> ((2 : Int32) &&& 31) = y
  have h := c_mask y 3 2 (by decide) (by decide)
  have q : (y &&& 3).toInt = 0 ∨ (y &&& 3).toInt = 1 ∨ (y &&& 3).toInt = 2 ∨ (y &&& 3).toInt = 3 := by omega
  rcases q with q | q | q | q
  · exact Or.inl (Int32.toInt_inj.mp q)
  · exact Or.inr (Or.inl (Int32.toInt_inj.mp q))
  · exact Or.inr (Or.inr (Or.inl (Int32.toInt_inj.mp q)))
  · exact Or.inr (Or.inr (Or.inr (Int32.toInt_inj.mp q)))
theorem own_m3 (x y : Int32) (h : (x &&& 3) = y) : 0 ≤ y.toInt ∧ y.toInt ≤ 3 := by
  have q := c_mask x 3 2 (by decide) (by decide)
  rw [h] at q
  omega
theorem own_i2lb (x : Int32) (y : Int64) (h : x.toInt64 = y) : y.toInt = x.toInt := by rw [← h]; exact c_i2l x
theorem own_gtf {p q : UInt64} {a b : Int} (hp : own_is p (a : Rat)) (hq : own_is q (b : Rat)) (h : a ≤ b) : ifCond.holds .gt (cmpValue (FP.dcmp p q) .g) = false := by
  rw [own_c_gt hp hq]
  exact decide_eq_false (Rat.not_lt.mpr (own_cle h))
theorem own_let {p q : UInt64} {a b : Int} (hp : own_is p (a : Rat)) (hq : own_is q (b : Rat)) (h : a ≤ b) : ifCond.holds .le (cmpValue (FP.dcmp p q) .g) = true := by
  rw [own_c_le hp hq]
  exact decide_eq_true (own_cle h)
theorem own_s0 (xa : Int32) (xs : Int32) (xb : Int32) (xt : Int32) (xm : Int32) (v4 : Int32) (hv4 : (xm &&& (16 : Int32)) = v4) (v10 : Int32) (hv10 : (xa &&& (3 : Int32)) = v10) (v12 : Int32) (hv12 : (v10 - (2 : Int32)) = v12) (v13 : Int64) (hv13 : v12.toInt64 = v13) (v18 : Int64) (hv18 : xa.toInt64 = v18) (t19_0 : Int64) (ht19_0 : (bif ifCond.holds .eq v4 then v18 else v13) = t19_0) :
    own_Go own_K0 code 0 (List.toArray ((.val (.int xa)) :: (.val (.int xs)) :: (.val (.int xb)) :: (.val (.int xt)) :: (.val (.int xm)) :: .unset :: .unset :: .unset :: .unset :: .unset :: .unset :: .unset :: .unset :: .unset :: .unset :: .unset :: .unset :: .unset :: .unset :: .unset :: .unset :: .unset :: .unset :: .unset :: .unset :: .unset :: .unset :: .unset :: .unset :: .unset :: .unset :: [])) [] 19 (List.toArray ((.val (.int xa)) :: (.val (.int xs)) :: (.val (.int xb)) :: (.val (.int xt)) :: (.val (.int xm)) :: .unset :: .unset :: .unset :: .unset :: .unset :: .unset :: .unset :: .unset :: .unset :: .unset :: .unset :: .unset :: .unset :: .unset :: .unset :: .unset :: .unset :: .unset :: .unset :: .unset :: .unset :: .unset :: .unset :: .unset :: .unset :: .unset :: [])) [(.long t19_0)] := by
  subst ht19_0
  refine own_iload (pc2 := 2) at_0 rfl rfl ?_
  refine own_bipush (v := 16) (pc2 := 4) at_2 rfl rfl ?_
  refine own_iand (pc2 := 5) at_4 rfl (v := v4) hv4 ?_
  cases hb5 : ifCond.holds .eq v4
  · refine own_ifNo (pc2 := 8) at_5 rfl hb5 ?_
    refine own_iloadN (pc2 := 9) at_8 rfl rfl ?_
    refine own_iconst (v := 3) (pc2 := 10) at_9 rfl rfl ?_
    refine own_iand (pc2 := 11) at_10 rfl (v := v10) hv10 ?_
    refine own_iconst (v := 2) (pc2 := 12) at_11 rfl rfl ?_
    refine own_isub (pc2 := 13) at_12 rfl (v := v12) hv12 ?_
    refine own_i2l (pc2 := 14) at_13 rfl (v := v13) hv13 ?_
    refine own_goto (pc' := 19) at_14 (by decide) (by decide) ?_
    exact own_refl
  · refine own_ifYes (pc' := 17) at_5 hb5 (by decide) (by decide) ?_
    refine own_iloadN (pc2 := 18) at_17 rfl rfl ?_
    refine own_i2l (pc2 := 19) at_18 rfl (v := v18) hv18 ?_
    exact own_refl
theorem own_s1 (xa : Int32) (xs : Int32) (xb : Int32) (xt : Int32) (xm : Int32) (t19_0 : Int64) (v24 : Int32) (hv24 : (xm &&& (1 : Int32)) = v24) (v37 : Int32) (hv37 : (xm &&& (32 : Int32)) = v37) (v43 : Int32) (hv43 : (xb &&& (3 : Int32)) = v43) (v45 : Int32) (hv45 : (v43 - (2 : Int32)) = v45) (v46 : Int64) (hv46 : v45.toInt64 = v46) (v51 : Int64) (hv51 : xb.toInt64 = v51) (t52_0 : Int64) (ht52_0 : (bif ifCond.holds .eq v24 then (bif ifCond.holds .eq v37 then v51 else v46) else t19_0) = t52_0) :
    own_Go own_K0 code 19 (List.toArray ((.val (.int xa)) :: (.val (.int xs)) :: (.val (.int xb)) :: (.val (.int xt)) :: (.val (.int xm)) :: .unset :: .unset :: .unset :: .unset :: .unset :: .unset :: .unset :: .unset :: .unset :: .unset :: .unset :: .unset :: .unset :: .unset :: .unset :: .unset :: .unset :: .unset :: .unset :: .unset :: .unset :: .unset :: .unset :: .unset :: .unset :: .unset :: [])) [(.long t19_0)] 52 (List.toArray ((.val (.int xa)) :: (.val (.int xs)) :: (.val (.int xb)) :: (.val (.int xt)) :: (.val (.int xm)) :: (.val (.long t19_0)) :: .second :: .unset :: .unset :: .unset :: .unset :: .unset :: .unset :: .unset :: .unset :: .unset :: .unset :: .unset :: .unset :: .unset :: .unset :: .unset :: .unset :: .unset :: .unset :: .unset :: .unset :: .unset :: .unset :: .unset :: .unset :: [])) [(.long t52_0)] := by
  subst ht52_0
  refine own_lstore (pc2 := 21) at_19 rfl (L' := (List.toArray ((.val (.int xa)) :: (.val (.int xs)) :: (.val (.int xb)) :: (.val (.int xt)) :: (.val (.int xm)) :: (.val (.long t19_0)) :: .second :: .unset :: .unset :: .unset :: .unset :: .unset :: .unset :: .unset :: .unset :: .unset :: .unset :: .unset :: .unset :: .unset :: .unset :: .unset :: .unset :: .unset :: .unset :: .unset :: .unset :: .unset :: .unset :: .unset :: .unset :: []))) rfl ?_
  refine own_iload (pc2 := 23) at_21 rfl rfl ?_
  refine own_iconst (v := 1) (pc2 := 24) at_23 rfl rfl ?_
  refine own_iand (pc2 := 25) at_24 rfl (v := v24) hv24 ?_
  cases hb25 : ifCond.holds .eq v24
  · refine own_ifNo (pc2 := 28) at_25 rfl hb25 ?_
    refine own_lload (pc2 := 30) at_28 rfl rfl ?_
    refine own_goto (pc' := 52) at_30 (by decide) (by decide) ?_
    exact own_refl
  · refine own_ifYes (pc' := 33) at_25 hb25 (by decide) (by decide) ?_
    refine own_iload (pc2 := 35) at_33 rfl rfl ?_
    refine own_bipush (v := 32) (pc2 := 37) at_35 rfl rfl ?_
    refine own_iand (pc2 := 38) at_37 rfl (v := v37) hv37 ?_
    cases hb38 : ifCond.holds .eq v37
    · refine own_ifNo (pc2 := 41) at_38 rfl hb38 ?_
      refine own_iloadN (pc2 := 42) at_41 rfl rfl ?_
      refine own_iconst (v := 3) (pc2 := 43) at_42 rfl rfl ?_
      refine own_iand (pc2 := 44) at_43 rfl (v := v43) hv43 ?_
      refine own_iconst (v := 2) (pc2 := 45) at_44 rfl rfl ?_
      refine own_isub (pc2 := 46) at_45 rfl (v := v45) hv45 ?_
      refine own_i2l (pc2 := 47) at_46 rfl (v := v46) hv46 ?_
      refine own_goto (pc' := 52) at_47 (by decide) (by decide) ?_
      exact own_refl
    · refine own_ifYes (pc' := 50) at_38 hb38 (by decide) (by decide) ?_
      refine own_iloadN (pc2 := 51) at_50 rfl rfl ?_
      refine own_i2l (pc2 := 52) at_51 rfl (v := v51) hv51 ?_
      exact own_refl
theorem own_s2 (xa : Int32) (xs : Int32) (xb : Int32) (xt : Int32) (xm : Int32) (t19_0 : Int64) (t52_0 : Int64) (v60 : Int32) (hv60 : (xm &&& (2 : Int32)) = v60) (t70_0 : Int32) (ht70_0 : (bif ifCond.holds .eq v60 then xt else xs) = t70_0) :
    own_Go own_K0 code 52 (List.toArray ((.val (.int xa)) :: (.val (.int xs)) :: (.val (.int xb)) :: (.val (.int xt)) :: (.val (.int xm)) :: (.val (.long t19_0)) :: .second :: .unset :: .unset :: .unset :: .unset :: .unset :: .unset :: .unset :: .unset :: .unset :: .unset :: .unset :: .unset :: .unset :: .unset :: .unset :: .unset :: .unset :: .unset :: .unset :: .unset :: .unset :: .unset :: .unset :: .unset :: [])) [(.long t52_0)] 70 (List.toArray ((.val (.int xa)) :: (.val (.int xs)) :: (.val (.int xb)) :: (.val (.int xt)) :: (.val (.int xm)) :: (.val (.long t19_0)) :: .second :: (.val (.long t52_0)) :: .second :: (.val (.int xs)) :: .unset :: .unset :: .unset :: .unset :: .unset :: .unset :: .unset :: .unset :: .unset :: .unset :: .unset :: .unset :: .unset :: .unset :: .unset :: .unset :: .unset :: .unset :: .unset :: .unset :: .unset :: [])) [(.int t70_0)] := by
  subst ht70_0
  refine own_lstore (pc2 := 54) at_52 rfl (L' := (List.toArray ((.val (.int xa)) :: (.val (.int xs)) :: (.val (.int xb)) :: (.val (.int xt)) :: (.val (.int xm)) :: (.val (.long t19_0)) :: .second :: (.val (.long t52_0)) :: .second :: .unset :: .unset :: .unset :: .unset :: .unset :: .unset :: .unset :: .unset :: .unset :: .unset :: .unset :: .unset :: .unset :: .unset :: .unset :: .unset :: .unset :: .unset :: .unset :: .unset :: .unset :: .unset :: []))) rfl ?_
  refine own_iloadN (pc2 := 55) at_54 rfl rfl ?_
  refine own_istore (pc2 := 57) at_55 rfl (L' := (List.toArray ((.val (.int xa)) :: (.val (.int xs)) :: (.val (.int xb)) :: (.val (.int xt)) :: (.val (.int xm)) :: (.val (.long t19_0)) :: .second :: (.val (.long t52_0)) :: .second :: (.val (.int xs)) :: .unset :: .unset :: .unset :: .unset :: .unset :: .unset :: .unset :: .unset :: .unset :: .unset :: .unset :: .unset :: .unset :: .unset :: .unset :: .unset :: .unset :: .unset :: .unset :: .unset :: .unset :: []))) rfl ?_
  refine own_iload (pc2 := 59) at_57 rfl rfl ?_
  refine own_iconst (v := 2) (pc2 := 60) at_59 rfl rfl ?_
  refine own_iand (pc2 := 61) at_60 rfl (v := v60) hv60 ?_
  cases hb61 : ifCond.holds .eq v60
  · refine own_ifNo (pc2 := 64) at_61 rfl hb61 ?_
    refine own_iload (pc2 := 66) at_64 rfl rfl ?_
    refine own_goto (pc' := 70) at_66 (by decide) (by decide) ?_
    exact own_refl
  · refine own_ifYes (pc' := 69) at_61 hb61 (by decide) (by decide) ?_
    refine own_iloadN (pc2 := 70) at_69 rfl rfl ?_
    exact own_refl
theorem own_s3 (xa : Int32) (xs : Int32) (xb : Int32) (xt : Int32) (xm : Int32) (t19_0 : Int64) (t52_0 : Int64) (t70_0 : Int32) (v81 : Int32) (hv81 : (xs &&& (3 : Int32)) = v81) (v82 : Int64) (hv82 : v81.toInt64 = v82) (v83 : Int64) (hv83 : (t19_0 + v82) = v83) (v91 : Int32) (hv91 : (xs >>> ((2 : Int32) &&& 31)) = v91) (v93 : Int32) (hv93 : (v91 &&& (3 : Int32)) = v93) (v94 : Int64) (hv94 : v93.toInt64 = v94) (v95 : Int64) (hv95 : (v83 + v94) = v95) (v103 : Int32) (hv103 : (xs >>> ((4 : Int32) &&& 31)) = v103) (v105 : Int32) (hv105 : (v103 &&& (3 : Int32)) = v105) (v106 : Int64) (hv106 : v105.toInt64 = v106) (v107 : Int64) (hv107 : (v95 + v106) = v107) (v119 : Int32) (hv119 : (t70_0 &&& (3 : Int32)) = v119) (v120 : Int64) (hv120 : v119.toInt64 = v120) (v121 : Int64) (hv121 : (t52_0 + v120) = v121) (v129 : Int32) (hv129 : (t70_0 >>> ((2 : Int32) &&& 31)) = v129) (v131 : Int32) (hv131 : (v129 &&& (3 : Int32)) = v131) (v132 : Int64) (hv132 : v131.toInt64 = v132) (v133 : Int64) (hv133 : (v121 + v132) = v133) (v141 : Int32) (hv141 : (t70_0 >>> ((4 : Int32) &&& 31)) = v141) (v143 : Int32) (hv143 : (v141 &&& (3 : Int32)) = v143) (v144 : Int64) (hv144 : v143.toInt64 = v144) (v145 : Int64) (hv145 : (v133 + v144) = v145) :
    own_Go own_K0 code 70 (List.toArray ((.val (.int xa)) :: (.val (.int xs)) :: (.val (.int xb)) :: (.val (.int xt)) :: (.val (.int xm)) :: (.val (.long t19_0)) :: .second :: (.val (.long t52_0)) :: .second :: (.val (.int xs)) :: .unset :: .unset :: .unset :: .unset :: .unset :: .unset :: .unset :: .unset :: .unset :: .unset :: .unset :: .unset :: .unset :: .unset :: .unset :: .unset :: .unset :: .unset :: .unset :: .unset :: .unset :: [])) [(.int t70_0)] 148 (List.toArray ((.val (.int xa)) :: (.val (.int xs)) :: (.val (.int xb)) :: (.val (.int xt)) :: (.val (.int xm)) :: (.val (.long t19_0)) :: .second :: (.val (.long t52_0)) :: .second :: (.val (.int xs)) :: (.val (.int t70_0)) :: (.val (.long t19_0)) :: .second :: (.val (.long v83)) :: .second :: (.val (.long v95)) :: .second :: (.val (.long v107)) :: .second :: (.val (.long t52_0)) :: .second :: (.val (.long v121)) :: .second :: (.val (.long v133)) :: .second :: (.val (.long v145)) :: .second :: .unset :: .unset :: .unset :: .unset :: [])) [] := by
  refine own_istore (pc2 := 72) at_70 rfl (L' := (List.toArray ((.val (.int xa)) :: (.val (.int xs)) :: (.val (.int xb)) :: (.val (.int xt)) :: (.val (.int xm)) :: (.val (.long t19_0)) :: .second :: (.val (.long t52_0)) :: .second :: (.val (.int xs)) :: (.val (.int t70_0)) :: .unset :: .unset :: .unset :: .unset :: .unset :: .unset :: .unset :: .unset :: .unset :: .unset :: .unset :: .unset :: .unset :: .unset :: .unset :: .unset :: .unset :: .unset :: .unset :: .unset :: []))) rfl ?_
  refine own_lload (pc2 := 74) at_72 rfl rfl ?_
  refine own_lstore (pc2 := 76) at_74 rfl (L' := (List.toArray ((.val (.int xa)) :: (.val (.int xs)) :: (.val (.int xb)) :: (.val (.int xt)) :: (.val (.int xm)) :: (.val (.long t19_0)) :: .second :: (.val (.long t52_0)) :: .second :: (.val (.int xs)) :: (.val (.int t70_0)) :: (.val (.long t19_0)) :: .second :: .unset :: .unset :: .unset :: .unset :: .unset :: .unset :: .unset :: .unset :: .unset :: .unset :: .unset :: .unset :: .unset :: .unset :: .unset :: .unset :: .unset :: .unset :: []))) rfl ?_
  refine own_lload (pc2 := 78) at_76 rfl rfl ?_
  refine own_iload (pc2 := 80) at_78 rfl rfl ?_
  refine own_iconst (v := 3) (pc2 := 81) at_80 rfl rfl ?_
  refine own_iand (pc2 := 82) at_81 rfl (v := v81) hv81 ?_
  refine own_i2l (pc2 := 83) at_82 rfl (v := v82) hv82 ?_
  refine own_ladd (pc2 := 84) at_83 rfl (v := v83) hv83 ?_
  refine own_lstore (pc2 := 86) at_84 rfl (L' := (List.toArray ((.val (.int xa)) :: (.val (.int xs)) :: (.val (.int xb)) :: (.val (.int xt)) :: (.val (.int xm)) :: (.val (.long t19_0)) :: .second :: (.val (.long t52_0)) :: .second :: (.val (.int xs)) :: (.val (.int t70_0)) :: (.val (.long t19_0)) :: .second :: (.val (.long v83)) :: .second :: .unset :: .unset :: .unset :: .unset :: .unset :: .unset :: .unset :: .unset :: .unset :: .unset :: .unset :: .unset :: .unset :: .unset :: .unset :: .unset :: []))) rfl ?_
  refine own_lload (pc2 := 88) at_86 rfl rfl ?_
  refine own_iload (pc2 := 90) at_88 rfl rfl ?_
  refine own_iconst (v := 2) (pc2 := 91) at_90 rfl rfl ?_
  refine own_ishr (pc2 := 92) at_91 rfl (v := v91) hv91 ?_
  refine own_iconst (v := 3) (pc2 := 93) at_92 rfl rfl ?_
  refine own_iand (pc2 := 94) at_93 rfl (v := v93) hv93 ?_
  refine own_i2l (pc2 := 95) at_94 rfl (v := v94) hv94 ?_
  refine own_ladd (pc2 := 96) at_95 rfl (v := v95) hv95 ?_
  refine own_lstore (pc2 := 98) at_96 rfl (L' := (List.toArray ((.val (.int xa)) :: (.val (.int xs)) :: (.val (.int xb)) :: (.val (.int xt)) :: (.val (.int xm)) :: (.val (.long t19_0)) :: .second :: (.val (.long t52_0)) :: .second :: (.val (.int xs)) :: (.val (.int t70_0)) :: (.val (.long t19_0)) :: .second :: (.val (.long v83)) :: .second :: (.val (.long v95)) :: .second :: .unset :: .unset :: .unset :: .unset :: .unset :: .unset :: .unset :: .unset :: .unset :: .unset :: .unset :: .unset :: .unset :: .unset :: []))) rfl ?_
  refine own_lload (pc2 := 100) at_98 rfl rfl ?_
  refine own_iload (pc2 := 102) at_100 rfl rfl ?_
  refine own_iconst (v := 4) (pc2 := 103) at_102 rfl rfl ?_
  refine own_ishr (pc2 := 104) at_103 rfl (v := v103) hv103 ?_
  refine own_iconst (v := 3) (pc2 := 105) at_104 rfl rfl ?_
  refine own_iand (pc2 := 106) at_105 rfl (v := v105) hv105 ?_
  refine own_i2l (pc2 := 107) at_106 rfl (v := v106) hv106 ?_
  refine own_ladd (pc2 := 108) at_107 rfl (v := v107) hv107 ?_
  refine own_lstore (pc2 := 110) at_108 rfl (L' := (List.toArray ((.val (.int xa)) :: (.val (.int xs)) :: (.val (.int xb)) :: (.val (.int xt)) :: (.val (.int xm)) :: (.val (.long t19_0)) :: .second :: (.val (.long t52_0)) :: .second :: (.val (.int xs)) :: (.val (.int t70_0)) :: (.val (.long t19_0)) :: .second :: (.val (.long v83)) :: .second :: (.val (.long v95)) :: .second :: (.val (.long v107)) :: .second :: .unset :: .unset :: .unset :: .unset :: .unset :: .unset :: .unset :: .unset :: .unset :: .unset :: .unset :: .unset :: []))) rfl ?_
  refine own_lload (pc2 := 112) at_110 rfl rfl ?_
  refine own_lstore (pc2 := 114) at_112 rfl (L' := (List.toArray ((.val (.int xa)) :: (.val (.int xs)) :: (.val (.int xb)) :: (.val (.int xt)) :: (.val (.int xm)) :: (.val (.long t19_0)) :: .second :: (.val (.long t52_0)) :: .second :: (.val (.int xs)) :: (.val (.int t70_0)) :: (.val (.long t19_0)) :: .second :: (.val (.long v83)) :: .second :: (.val (.long v95)) :: .second :: (.val (.long v107)) :: .second :: (.val (.long t52_0)) :: .second :: .unset :: .unset :: .unset :: .unset :: .unset :: .unset :: .unset :: .unset :: .unset :: .unset :: []))) rfl ?_
  refine own_lload (pc2 := 116) at_114 rfl rfl ?_
  refine own_iload (pc2 := 118) at_116 rfl rfl ?_
  refine own_iconst (v := 3) (pc2 := 119) at_118 rfl rfl ?_
  refine own_iand (pc2 := 120) at_119 rfl (v := v119) hv119 ?_
  refine own_i2l (pc2 := 121) at_120 rfl (v := v120) hv120 ?_
  refine own_ladd (pc2 := 122) at_121 rfl (v := v121) hv121 ?_
  refine own_lstore (pc2 := 124) at_122 rfl (L' := (List.toArray ((.val (.int xa)) :: (.val (.int xs)) :: (.val (.int xb)) :: (.val (.int xt)) :: (.val (.int xm)) :: (.val (.long t19_0)) :: .second :: (.val (.long t52_0)) :: .second :: (.val (.int xs)) :: (.val (.int t70_0)) :: (.val (.long t19_0)) :: .second :: (.val (.long v83)) :: .second :: (.val (.long v95)) :: .second :: (.val (.long v107)) :: .second :: (.val (.long t52_0)) :: .second :: (.val (.long v121)) :: .second :: .unset :: .unset :: .unset :: .unset :: .unset :: .unset :: .unset :: .unset :: []))) rfl ?_
  refine own_lload (pc2 := 126) at_124 rfl rfl ?_
  refine own_iload (pc2 := 128) at_126 rfl rfl ?_
  refine own_iconst (v := 2) (pc2 := 129) at_128 rfl rfl ?_
  refine own_ishr (pc2 := 130) at_129 rfl (v := v129) hv129 ?_
  refine own_iconst (v := 3) (pc2 := 131) at_130 rfl rfl ?_
  refine own_iand (pc2 := 132) at_131 rfl (v := v131) hv131 ?_
  refine own_i2l (pc2 := 133) at_132 rfl (v := v132) hv132 ?_
  refine own_ladd (pc2 := 134) at_133 rfl (v := v133) hv133 ?_
  refine own_lstore (pc2 := 136) at_134 rfl (L' := (List.toArray ((.val (.int xa)) :: (.val (.int xs)) :: (.val (.int xb)) :: (.val (.int xt)) :: (.val (.int xm)) :: (.val (.long t19_0)) :: .second :: (.val (.long t52_0)) :: .second :: (.val (.int xs)) :: (.val (.int t70_0)) :: (.val (.long t19_0)) :: .second :: (.val (.long v83)) :: .second :: (.val (.long v95)) :: .second :: (.val (.long v107)) :: .second :: (.val (.long t52_0)) :: .second :: (.val (.long v121)) :: .second :: (.val (.long v133)) :: .second :: .unset :: .unset :: .unset :: .unset :: .unset :: .unset :: []))) rfl ?_
  refine own_lload (pc2 := 138) at_136 rfl rfl ?_
  refine own_iload (pc2 := 140) at_138 rfl rfl ?_
  refine own_iconst (v := 4) (pc2 := 141) at_140 rfl rfl ?_
  refine own_ishr (pc2 := 142) at_141 rfl (v := v141) hv141 ?_
  refine own_iconst (v := 3) (pc2 := 143) at_142 rfl rfl ?_
  refine own_iand (pc2 := 144) at_143 rfl (v := v143) hv143 ?_
  refine own_i2l (pc2 := 145) at_144 rfl (v := v144) hv144 ?_
  refine own_ladd (pc2 := 146) at_145 rfl (v := v145) hv145 ?_
  refine own_lstore (pc2 := 148) at_146 rfl (L' := (List.toArray ((.val (.int xa)) :: (.val (.int xs)) :: (.val (.int xb)) :: (.val (.int xt)) :: (.val (.int xm)) :: (.val (.long t19_0)) :: .second :: (.val (.long t52_0)) :: .second :: (.val (.int xs)) :: (.val (.int t70_0)) :: (.val (.long t19_0)) :: .second :: (.val (.long v83)) :: .second :: (.val (.long v95)) :: .second :: (.val (.long v107)) :: .second :: (.val (.long t52_0)) :: .second :: (.val (.long v121)) :: .second :: (.val (.long v133)) :: .second :: (.val (.long v145)) :: .second :: .unset :: .unset :: .unset :: .unset :: []))) rfl ?_
  exact own_refl
theorem own_s4 (xa : Int32) (xs : Int32) (xb : Int32) (xt : Int32) (xm : Int32) (t19_0 : Int64) (t52_0 : Int64) (t70_0 : Int32) (v83 : Int64) (v95 : Int64) (v107 : Int64) (v121 : Int64) (v133 : Int64) (v145 : Int64) (x1 : Addr) :
    own_Go own_K0 code 151 (List.toArray ((.val (.int xa)) :: (.val (.int xs)) :: (.val (.int xb)) :: (.val (.int xt)) :: (.val (.int xm)) :: (.val (.long t19_0)) :: .second :: (.val (.long t52_0)) :: .second :: (.val (.int xs)) :: (.val (.int t70_0)) :: (.val (.long t19_0)) :: .second :: (.val (.long v83)) :: .second :: (.val (.long v95)) :: .second :: (.val (.long v107)) :: .second :: (.val (.long t52_0)) :: .second :: (.val (.long v121)) :: .second :: (.val (.long v133)) :: .second :: (.val (.long v145)) :: .second :: .unset :: .unset :: .unset :: .unset :: [])) [(.ref x1)] 158 (List.toArray ((.val (.int xa)) :: (.val (.int xs)) :: (.val (.int xb)) :: (.val (.int xt)) :: (.val (.int xm)) :: (.val (.long t19_0)) :: .second :: (.val (.long t52_0)) :: .second :: (.val (.int xs)) :: (.val (.int t70_0)) :: (.val (.long t19_0)) :: .second :: (.val (.long v83)) :: .second :: (.val (.long v95)) :: .second :: (.val (.long v107)) :: .second :: (.val (.long t52_0)) :: .second :: (.val (.long v121)) :: .second :: (.val (.long v133)) :: .second :: (.val (.long v145)) :: .second :: .unset :: .unset :: .unset :: .unset :: [])) [(.int (6 : Int32)), (.int xs), (.long t19_0), (.ref x1), (.ref x1)] := by
  refine own_dup (pc2 := 152) at_151 rfl rfl ?_
  refine own_lload (pc2 := 154) at_152 rfl rfl ?_
  refine own_iload (pc2 := 156) at_154 rfl rfl ?_
  refine own_bipush (v := 6) (pc2 := 158) at_156 rfl rfl ?_
  exact own_refl
theorem own_s5 (xa : Int32) (xs : Int32) (xb : Int32) (xt : Int32) (xm : Int32) (t19_0 : Int64) (t52_0 : Int64) (t70_0 : Int32) (v83 : Int64) (v95 : Int64) (v107 : Int64) (v121 : Int64) (v133 : Int64) (v145 : Int64) (p0 : UInt64) (x1 : Addr) :
    own_Go own_K0 code 161 (List.toArray ((.val (.int xa)) :: (.val (.int xs)) :: (.val (.int xb)) :: (.val (.int xt)) :: (.val (.int xm)) :: (.val (.long t19_0)) :: .second :: (.val (.long t52_0)) :: .second :: (.val (.int xs)) :: (.val (.int t70_0)) :: (.val (.long t19_0)) :: .second :: (.val (.long v83)) :: .second :: (.val (.long v95)) :: .second :: (.val (.long v107)) :: .second :: (.val (.long t52_0)) :: .second :: (.val (.long v121)) :: .second :: (.val (.long v133)) :: .second :: (.val (.long v145)) :: .second :: .unset :: .unset :: .unset :: .unset :: [])) [(.double p0), (.ref x1), (.ref x1)] 167 (List.toArray ((.val (.int xa)) :: (.val (.int xs)) :: (.val (.int xb)) :: (.val (.int xt)) :: (.val (.int xm)) :: (.val (.long t19_0)) :: .second :: (.val (.long t52_0)) :: .second :: (.val (.int xs)) :: (.val (.int t70_0)) :: (.val (.long t19_0)) :: .second :: (.val (.long v83)) :: .second :: (.val (.long v95)) :: .second :: (.val (.long v107)) :: .second :: (.val (.long t52_0)) :: .second :: (.val (.long v121)) :: .second :: (.val (.long v133)) :: .second :: (.val (.long v145)) :: .second :: .unset :: .unset :: .unset :: .unset :: [])) [(.int (7 : Int32)), (.int xs), (.long v83), (.double p0), (.ref x1), (.ref x1)] := by
  refine own_lload (pc2 := 163) at_161 rfl rfl ?_
  refine own_iload (pc2 := 165) at_163 rfl rfl ?_
  refine own_bipush (v := 7) (pc2 := 167) at_165 rfl rfl ?_
  exact own_refl
theorem own_s6 (xa : Int32) (xs : Int32) (xb : Int32) (xt : Int32) (xm : Int32) (t19_0 : Int64) (t52_0 : Int64) (t70_0 : Int32) (v83 : Int64) (v95 : Int64) (v107 : Int64) (v121 : Int64) (v133 : Int64) (v145 : Int64) (p1 : UInt64) (p0 : UInt64) (x1 : Addr) :
    own_Go own_K0 code 170 (List.toArray ((.val (.int xa)) :: (.val (.int xs)) :: (.val (.int xb)) :: (.val (.int xt)) :: (.val (.int xm)) :: (.val (.long t19_0)) :: .second :: (.val (.long t52_0)) :: .second :: (.val (.int xs)) :: (.val (.int t70_0)) :: (.val (.long t19_0)) :: .second :: (.val (.long v83)) :: .second :: (.val (.long v95)) :: .second :: (.val (.long v107)) :: .second :: (.val (.long t52_0)) :: .second :: (.val (.long v121)) :: .second :: (.val (.long v133)) :: .second :: (.val (.long v145)) :: .second :: .unset :: .unset :: .unset :: .unset :: [])) [(.double p1), (.double p0), (.ref x1), (.ref x1)] 176 (List.toArray ((.val (.int xa)) :: (.val (.int xs)) :: (.val (.int xb)) :: (.val (.int xt)) :: (.val (.int xm)) :: (.val (.long t19_0)) :: .second :: (.val (.long t52_0)) :: .second :: (.val (.int xs)) :: (.val (.int t70_0)) :: (.val (.long t19_0)) :: .second :: (.val (.long v83)) :: .second :: (.val (.long v95)) :: .second :: (.val (.long v107)) :: .second :: (.val (.long t52_0)) :: .second :: (.val (.long v121)) :: .second :: (.val (.long v133)) :: .second :: (.val (.long v145)) :: .second :: .unset :: .unset :: .unset :: .unset :: [])) [(.int (8 : Int32)), (.int xs), (.long v95), (.double p1), (.double p0), (.ref x1), (.ref x1)] := by
  refine own_lload (pc2 := 172) at_170 rfl rfl ?_
  refine own_iload (pc2 := 174) at_172 rfl rfl ?_
  refine own_bipush (v := 8) (pc2 := 176) at_174 rfl rfl ?_
  exact own_refl
theorem own_s7 (xa : Int32) (xs : Int32) (xb : Int32) (xt : Int32) (xm : Int32) (t19_0 : Int64) (t52_0 : Int64) (t70_0 : Int32) (v83 : Int64) (v95 : Int64) (v107 : Int64) (v121 : Int64) (v133 : Int64) (v145 : Int64) (p2 : UInt64) (p1 : UInt64) (p0 : UInt64) (x1 : Addr) :
    own_Go own_K0 code 179 (List.toArray ((.val (.int xa)) :: (.val (.int xs)) :: (.val (.int xb)) :: (.val (.int xt)) :: (.val (.int xm)) :: (.val (.long t19_0)) :: .second :: (.val (.long t52_0)) :: .second :: (.val (.int xs)) :: (.val (.int t70_0)) :: (.val (.long t19_0)) :: .second :: (.val (.long v83)) :: .second :: (.val (.long v95)) :: .second :: (.val (.long v107)) :: .second :: (.val (.long t52_0)) :: .second :: (.val (.long v121)) :: .second :: (.val (.long v133)) :: .second :: (.val (.long v145)) :: .second :: .unset :: .unset :: .unset :: .unset :: [])) [(.double p2), (.double p1), (.double p0), (.ref x1), (.ref x1)] 185 (List.toArray ((.val (.int xa)) :: (.val (.int xs)) :: (.val (.int xb)) :: (.val (.int xt)) :: (.val (.int xm)) :: (.val (.long t19_0)) :: .second :: (.val (.long t52_0)) :: .second :: (.val (.int xs)) :: (.val (.int t70_0)) :: (.val (.long t19_0)) :: .second :: (.val (.long v83)) :: .second :: (.val (.long v95)) :: .second :: (.val (.long v107)) :: .second :: (.val (.long t52_0)) :: .second :: (.val (.long v121)) :: .second :: (.val (.long v133)) :: .second :: (.val (.long v145)) :: .second :: .unset :: .unset :: .unset :: .unset :: [])) [(.int (9 : Int32)), (.int xs), (.long v107), (.double p2), (.double p1), (.double p0), (.ref x1), (.ref x1)] := by
  refine own_lload (pc2 := 181) at_179 rfl rfl ?_
  refine own_iload (pc2 := 183) at_181 rfl rfl ?_
  refine own_bipush (v := 9) (pc2 := 185) at_183 rfl rfl ?_
  exact own_refl
theorem own_s8 (xa : Int32) (xs : Int32) (xb : Int32) (xt : Int32) (xm : Int32) (t19_0 : Int64) (t52_0 : Int64) (t70_0 : Int32) (v83 : Int64) (v95 : Int64) (v107 : Int64) (v121 : Int64) (v133 : Int64) (v145 : Int64) (x1 : Addr) :
    own_Go own_K0 code 191 (List.toArray ((.val (.int xa)) :: (.val (.int xs)) :: (.val (.int xb)) :: (.val (.int xt)) :: (.val (.int xm)) :: (.val (.long t19_0)) :: .second :: (.val (.long t52_0)) :: .second :: (.val (.int xs)) :: (.val (.int t70_0)) :: (.val (.long t19_0)) :: .second :: (.val (.long v83)) :: .second :: (.val (.long v95)) :: .second :: (.val (.long v107)) :: .second :: (.val (.long t52_0)) :: .second :: (.val (.long v121)) :: .second :: (.val (.long v133)) :: .second :: (.val (.long v145)) :: .second :: .unset :: .unset :: .unset :: .unset :: [])) [(.ref x1)] 193 (List.toArray ((.val (.int xa)) :: (.val (.int xs)) :: (.val (.int xb)) :: (.val (.int xt)) :: (.val (.int xm)) :: (.val (.long t19_0)) :: .second :: (.val (.long t52_0)) :: .second :: (.val (.int xs)) :: (.val (.int t70_0)) :: (.val (.long t19_0)) :: .second :: (.val (.long v83)) :: .second :: (.val (.long v95)) :: .second :: (.val (.long v107)) :: .second :: (.val (.long t52_0)) :: .second :: (.val (.long v121)) :: .second :: (.val (.long v133)) :: .second :: (.val (.long v145)) :: .second :: (.val (.ref x1)) :: .unset :: .unset :: .unset :: [])) [] := by
  refine own_astore (pc2 := 193) at_191 rfl rfl (L' := (List.toArray ((.val (.int xa)) :: (.val (.int xs)) :: (.val (.int xb)) :: (.val (.int xt)) :: (.val (.int xm)) :: (.val (.long t19_0)) :: .second :: (.val (.long t52_0)) :: .second :: (.val (.int xs)) :: (.val (.int t70_0)) :: (.val (.long t19_0)) :: .second :: (.val (.long v83)) :: .second :: (.val (.long v95)) :: .second :: (.val (.long v107)) :: .second :: (.val (.long t52_0)) :: .second :: (.val (.long v121)) :: .second :: (.val (.long v133)) :: .second :: (.val (.long v145)) :: .second :: (.val (.ref x1)) :: .unset :: .unset :: .unset :: []))) rfl ?_
  exact own_refl
theorem own_s9 (xa : Int32) (xs : Int32) (xb : Int32) (xt : Int32) (xm : Int32) (t19_0 : Int64) (t52_0 : Int64) (t70_0 : Int32) (v83 : Int64) (v95 : Int64) (v107 : Int64) (v121 : Int64) (v133 : Int64) (v145 : Int64) (x1 : Addr) (x2 : Addr) :
    own_Go own_K0 code 196 (List.toArray ((.val (.int xa)) :: (.val (.int xs)) :: (.val (.int xb)) :: (.val (.int xt)) :: (.val (.int xm)) :: (.val (.long t19_0)) :: .second :: (.val (.long t52_0)) :: .second :: (.val (.int xs)) :: (.val (.int t70_0)) :: (.val (.long t19_0)) :: .second :: (.val (.long v83)) :: .second :: (.val (.long v95)) :: .second :: (.val (.long v107)) :: .second :: (.val (.long t52_0)) :: .second :: (.val (.long v121)) :: .second :: (.val (.long v133)) :: .second :: (.val (.long v145)) :: .second :: (.val (.ref x1)) :: .unset :: .unset :: .unset :: [])) [(.ref x2)] 203 (List.toArray ((.val (.int xa)) :: (.val (.int xs)) :: (.val (.int xb)) :: (.val (.int xt)) :: (.val (.int xm)) :: (.val (.long t19_0)) :: .second :: (.val (.long t52_0)) :: .second :: (.val (.int xs)) :: (.val (.int t70_0)) :: (.val (.long t19_0)) :: .second :: (.val (.long v83)) :: .second :: (.val (.long v95)) :: .second :: (.val (.long v107)) :: .second :: (.val (.long t52_0)) :: .second :: (.val (.long v121)) :: .second :: (.val (.long v133)) :: .second :: (.val (.long v145)) :: .second :: (.val (.ref x1)) :: .unset :: .unset :: .unset :: [])) [(.int (6 : Int32)), (.int t70_0), (.long t52_0), (.ref x2), (.ref x2)] := by
  refine own_dup (pc2 := 197) at_196 rfl rfl ?_
  refine own_lload (pc2 := 199) at_197 rfl rfl ?_
  refine own_iload (pc2 := 201) at_199 rfl rfl ?_
  refine own_bipush (v := 6) (pc2 := 203) at_201 rfl rfl ?_
  exact own_refl
theorem own_s10 (xa : Int32) (xs : Int32) (xb : Int32) (xt : Int32) (xm : Int32) (t19_0 : Int64) (t52_0 : Int64) (t70_0 : Int32) (v83 : Int64) (v95 : Int64) (v107 : Int64) (v121 : Int64) (v133 : Int64) (v145 : Int64) (x1 : Addr) (q0 : UInt64) (x2 : Addr) :
    own_Go own_K0 code 206 (List.toArray ((.val (.int xa)) :: (.val (.int xs)) :: (.val (.int xb)) :: (.val (.int xt)) :: (.val (.int xm)) :: (.val (.long t19_0)) :: .second :: (.val (.long t52_0)) :: .second :: (.val (.int xs)) :: (.val (.int t70_0)) :: (.val (.long t19_0)) :: .second :: (.val (.long v83)) :: .second :: (.val (.long v95)) :: .second :: (.val (.long v107)) :: .second :: (.val (.long t52_0)) :: .second :: (.val (.long v121)) :: .second :: (.val (.long v133)) :: .second :: (.val (.long v145)) :: .second :: (.val (.ref x1)) :: .unset :: .unset :: .unset :: [])) [(.double q0), (.ref x2), (.ref x2)] 212 (List.toArray ((.val (.int xa)) :: (.val (.int xs)) :: (.val (.int xb)) :: (.val (.int xt)) :: (.val (.int xm)) :: (.val (.long t19_0)) :: .second :: (.val (.long t52_0)) :: .second :: (.val (.int xs)) :: (.val (.int t70_0)) :: (.val (.long t19_0)) :: .second :: (.val (.long v83)) :: .second :: (.val (.long v95)) :: .second :: (.val (.long v107)) :: .second :: (.val (.long t52_0)) :: .second :: (.val (.long v121)) :: .second :: (.val (.long v133)) :: .second :: (.val (.long v145)) :: .second :: (.val (.ref x1)) :: .unset :: .unset :: .unset :: [])) [(.int (7 : Int32)), (.int t70_0), (.long v121), (.double q0), (.ref x2), (.ref x2)] := by
  refine own_lload (pc2 := 208) at_206 rfl rfl ?_
  refine own_iload (pc2 := 210) at_208 rfl rfl ?_
  refine own_bipush (v := 7) (pc2 := 212) at_210 rfl rfl ?_
  exact own_refl
theorem own_s11 (xa : Int32) (xs : Int32) (xb : Int32) (xt : Int32) (xm : Int32) (t19_0 : Int64) (t52_0 : Int64) (t70_0 : Int32) (v83 : Int64) (v95 : Int64) (v107 : Int64) (v121 : Int64) (v133 : Int64) (v145 : Int64) (x1 : Addr) (q1 : UInt64) (q0 : UInt64) (x2 : Addr) :
    own_Go own_K0 code 215 (List.toArray ((.val (.int xa)) :: (.val (.int xs)) :: (.val (.int xb)) :: (.val (.int xt)) :: (.val (.int xm)) :: (.val (.long t19_0)) :: .second :: (.val (.long t52_0)) :: .second :: (.val (.int xs)) :: (.val (.int t70_0)) :: (.val (.long t19_0)) :: .second :: (.val (.long v83)) :: .second :: (.val (.long v95)) :: .second :: (.val (.long v107)) :: .second :: (.val (.long t52_0)) :: .second :: (.val (.long v121)) :: .second :: (.val (.long v133)) :: .second :: (.val (.long v145)) :: .second :: (.val (.ref x1)) :: .unset :: .unset :: .unset :: [])) [(.double q1), (.double q0), (.ref x2), (.ref x2)] 221 (List.toArray ((.val (.int xa)) :: (.val (.int xs)) :: (.val (.int xb)) :: (.val (.int xt)) :: (.val (.int xm)) :: (.val (.long t19_0)) :: .second :: (.val (.long t52_0)) :: .second :: (.val (.int xs)) :: (.val (.int t70_0)) :: (.val (.long t19_0)) :: .second :: (.val (.long v83)) :: .second :: (.val (.long v95)) :: .second :: (.val (.long v107)) :: .second :: (.val (.long t52_0)) :: .second :: (.val (.long v121)) :: .second :: (.val (.long v133)) :: .second :: (.val (.long v145)) :: .second :: (.val (.ref x1)) :: .unset :: .unset :: .unset :: [])) [(.int (8 : Int32)), (.int t70_0), (.long v133), (.double q1), (.double q0), (.ref x2), (.ref x2)] := by
  refine own_lload (pc2 := 217) at_215 rfl rfl ?_
  refine own_iload (pc2 := 219) at_217 rfl rfl ?_
  refine own_bipush (v := 8) (pc2 := 221) at_219 rfl rfl ?_
  exact own_refl
theorem own_s12 (xa : Int32) (xs : Int32) (xb : Int32) (xt : Int32) (xm : Int32) (t19_0 : Int64) (t52_0 : Int64) (t70_0 : Int32) (v83 : Int64) (v95 : Int64) (v107 : Int64) (v121 : Int64) (v133 : Int64) (v145 : Int64) (x1 : Addr) (q2 : UInt64) (q1 : UInt64) (q0 : UInt64) (x2 : Addr) :
    own_Go own_K0 code 224 (List.toArray ((.val (.int xa)) :: (.val (.int xs)) :: (.val (.int xb)) :: (.val (.int xt)) :: (.val (.int xm)) :: (.val (.long t19_0)) :: .second :: (.val (.long t52_0)) :: .second :: (.val (.int xs)) :: (.val (.int t70_0)) :: (.val (.long t19_0)) :: .second :: (.val (.long v83)) :: .second :: (.val (.long v95)) :: .second :: (.val (.long v107)) :: .second :: (.val (.long t52_0)) :: .second :: (.val (.long v121)) :: .second :: (.val (.long v133)) :: .second :: (.val (.long v145)) :: .second :: (.val (.ref x1)) :: .unset :: .unset :: .unset :: [])) [(.double q2), (.double q1), (.double q0), (.ref x2), (.ref x2)] 230 (List.toArray ((.val (.int xa)) :: (.val (.int xs)) :: (.val (.int xb)) :: (.val (.int xt)) :: (.val (.int xm)) :: (.val (.long t19_0)) :: .second :: (.val (.long t52_0)) :: .second :: (.val (.int xs)) :: (.val (.int t70_0)) :: (.val (.long t19_0)) :: .second :: (.val (.long v83)) :: .second :: (.val (.long v95)) :: .second :: (.val (.long v107)) :: .second :: (.val (.long t52_0)) :: .second :: (.val (.long v121)) :: .second :: (.val (.long v133)) :: .second :: (.val (.long v145)) :: .second :: (.val (.ref x1)) :: .unset :: .unset :: .unset :: [])) [(.int (9 : Int32)), (.int t70_0), (.long v145), (.double q2), (.double q1), (.double q0), (.ref x2), (.ref x2)] := by
  refine own_lload (pc2 := 226) at_224 rfl rfl ?_
  refine own_iload (pc2 := 228) at_226 rfl rfl ?_
  refine own_bipush (v := 9) (pc2 := 230) at_228 rfl rfl ?_
  exact own_refl
theorem own_sz0_0 (xa : Int32) (xs : Int32) (xb : Int32) (xt : Int32) (xm : Int32) (t19_0 : Int64) (t52_0 : Int64) (t70_0 : Int32) (v83 : Int64) (v95 : Int64) (v107 : Int64) (v121 : Int64) (v133 : Int64) (v145 : Int64) (x1 : Addr) (x2 : Addr) (v241 : Int32) (hv241 : (xm >>> ((2 : Int32) &&& 31)) = v241) (hl243 : (v241 &&& (3 : Int32)) = (0 : Int32)) :
    own_Go own_K0 code 236 (List.toArray ((.val (.int xa)) :: (.val (.int xs)) :: (.val (.int xb)) :: (.val (.int xt)) :: (.val (.int xm)) :: (.val (.long t19_0)) :: .second :: (.val (.long t52_0)) :: .second :: (.val (.int xs)) :: (.val (.int t70_0)) :: (.val (.long t19_0)) :: .second :: (.val (.long v83)) :: .second :: (.val (.long v95)) :: .second :: (.val (.long v107)) :: .second :: (.val (.long t52_0)) :: .second :: (.val (.long v121)) :: .second :: (.val (.long v133)) :: .second :: (.val (.long v145)) :: .second :: (.val (.ref x1)) :: .unset :: .unset :: .unset :: [])) [(.ref x2)] 320 (List.toArray ((.val (.int xa)) :: (.val (.int xs)) :: (.val (.int xb)) :: (.val (.int xt)) :: (.val (.int xm)) :: (.val (.long t19_0)) :: .second :: (.val (.long t52_0)) :: .second :: (.val (.int xs)) :: (.val (.int t70_0)) :: (.val (.long t19_0)) :: .second :: (.val (.long v83)) :: .second :: (.val (.long v95)) :: .second :: (.val (.long v107)) :: .second :: (.val (.long t52_0)) :: .second :: (.val (.long v121)) :: .second :: (.val (.long v133)) :: .second :: (.val (.long v145)) :: .second :: (.val (.ref x1)) :: (.val (.ref x2)) :: (.val (.int (0 : Int32))) :: .unset :: [])) [(.int (6 : Int32)), (.int t70_0), (.long t52_0), (.int xs), (.long t19_0)] := by
  refine own_astore (pc2 := 238) at_236 rfl rfl (L' := (List.toArray ((.val (.int xa)) :: (.val (.int xs)) :: (.val (.int xb)) :: (.val (.int xt)) :: (.val (.int xm)) :: (.val (.long t19_0)) :: .second :: (.val (.long t52_0)) :: .second :: (.val (.int xs)) :: (.val (.int t70_0)) :: (.val (.long t19_0)) :: .second :: (.val (.long v83)) :: .second :: (.val (.long v95)) :: .second :: (.val (.long v107)) :: .second :: (.val (.long t52_0)) :: .second :: (.val (.long v121)) :: .second :: (.val (.long v133)) :: .second :: (.val (.long v145)) :: .second :: (.val (.ref x1)) :: (.val (.ref x2)) :: .unset :: .unset :: []))) rfl ?_
  refine own_iload (pc2 := 240) at_238 rfl rfl ?_
  refine own_iconst (v := 2) (pc2 := 241) at_240 rfl rfl ?_
  refine own_ishr (pc2 := 242) at_241 rfl (v := v241) hv241 ?_
  refine own_iconst (v := 3) (pc2 := 243) at_242 rfl rfl ?_
  refine own_iand (pc2 := 244) at_243 rfl (v := (0 : Int32)) hl243 ?_
  refine own_istore (pc2 := 246) at_244 rfl (L' := (List.toArray ((.val (.int xa)) :: (.val (.int xs)) :: (.val (.int xb)) :: (.val (.int xt)) :: (.val (.int xm)) :: (.val (.long t19_0)) :: .second :: (.val (.long t52_0)) :: .second :: (.val (.int xs)) :: (.val (.int t70_0)) :: (.val (.long t19_0)) :: .second :: (.val (.long v83)) :: .second :: (.val (.long v95)) :: .second :: (.val (.long v107)) :: .second :: (.val (.long t52_0)) :: .second :: (.val (.long v121)) :: .second :: (.val (.long v133)) :: .second :: (.val (.long v145)) :: .second :: (.val (.ref x1)) :: (.val (.ref x2)) :: (.val (.int (0 : Int32))) :: .unset :: []))) rfl ?_
  refine own_iload (pc2 := 248) at_246 rfl rfl ?_
  refine own_iconst (v := 1) (pc2 := 249) at_248 rfl rfl ?_
  refine own_icmpYes (pc' := 267) at_249 (by decide) (by decide) (by decide) ?_
  refine own_iload (pc2 := 269) at_267 rfl rfl ?_
  refine own_iconst (v := 2) (pc2 := 270) at_269 rfl rfl ?_
  refine own_icmpYes (pc' := 296) at_270 (by decide) (by decide) (by decide) ?_
  refine own_iload (pc2 := 298) at_296 rfl rfl ?_
  refine own_iconst (v := 3) (pc2 := 299) at_298 rfl rfl ?_
  refine own_icmpYes (pc' := 310) at_299 (by decide) (by decide) (by decide) ?_
  refine own_lload (pc2 := 312) at_310 rfl rfl ?_
  refine own_iload (pc2 := 314) at_312 rfl rfl ?_
  refine own_lload (pc2 := 316) at_314 rfl rfl ?_
  refine own_iload (pc2 := 318) at_316 rfl rfl ?_
  refine own_bipush (v := 6) (pc2 := 320) at_318 rfl rfl ?_
  exact own_refl
theorem own_sz0_1 (xa : Int32) (xs : Int32) (xb : Int32) (xt : Int32) (xm : Int32) (t19_0 : Int64) (t52_0 : Int64) (t70_0 : Int32) (v83 : Int64) (v95 : Int64) (v107 : Int64) (v121 : Int64) (v133 : Int64) (v145 : Int64) (x1 : Addr) (x2 : Addr) :
    own_Go own_K0 code 323 (List.toArray ((.val (.int xa)) :: (.val (.int xs)) :: (.val (.int xb)) :: (.val (.int xt)) :: (.val (.int xm)) :: (.val (.long t19_0)) :: .second :: (.val (.long t52_0)) :: .second :: (.val (.int xs)) :: (.val (.int t70_0)) :: (.val (.long t19_0)) :: .second :: (.val (.long v83)) :: .second :: (.val (.long v95)) :: .second :: (.val (.long v107)) :: .second :: (.val (.long t52_0)) :: .second :: (.val (.long v121)) :: .second :: (.val (.long v133)) :: .second :: (.val (.long v145)) :: .second :: (.val (.ref x1)) :: (.val (.ref x2)) :: (.val (.int (0 : Int32))) :: .unset :: [])) [(.int (0 : Int32))] 385 (List.toArray ((.val (.int xa)) :: (.val (.int xs)) :: (.val (.int xb)) :: (.val (.int xt)) :: (.val (.int xm)) :: (.val (.long t19_0)) :: .second :: (.val (.long t52_0)) :: .second :: (.val (.int xs)) :: (.val (.int t70_0)) :: (.val (.long t19_0)) :: .second :: (.val (.long v83)) :: .second :: (.val (.long v95)) :: .second :: (.val (.long v107)) :: .second :: (.val (.long t52_0)) :: .second :: (.val (.long v121)) :: .second :: (.val (.long v133)) :: .second :: (.val (.long v145)) :: .second :: (.val (.ref x1)) :: (.val (.ref x2)) :: (.val (.int (0 : Int32))) :: (.val (.int (0 : Int32))) :: [])) [(.ref x2), (.ref x1)] := by
  refine own_ifYes (pc' := 378) at_323 (by decide) (by decide) (by decide) ?_
  refine own_iconst (v := 0) (pc2 := 379) at_378 rfl rfl ?_
  refine own_istore (pc2 := 381) at_379 rfl (L' := (List.toArray ((.val (.int xa)) :: (.val (.int xs)) :: (.val (.int xb)) :: (.val (.int xt)) :: (.val (.int xm)) :: (.val (.long t19_0)) :: .second :: (.val (.long t52_0)) :: .second :: (.val (.int xs)) :: (.val (.int t70_0)) :: (.val (.long t19_0)) :: .second :: (.val (.long v83)) :: .second :: (.val (.long v95)) :: .second :: (.val (.long v107)) :: .second :: (.val (.long t52_0)) :: .second :: (.val (.long v121)) :: .second :: (.val (.long v133)) :: .second :: (.val (.long v145)) :: .second :: (.val (.ref x1)) :: (.val (.ref x2)) :: (.val (.int (0 : Int32))) :: (.val (.int (0 : Int32))) :: []))) rfl ?_
  refine own_aload (pc2 := 383) at_381 rfl rfl rfl ?_
  refine own_aload (pc2 := 385) at_383 rfl rfl rfl ?_
  exact own_refl
theorem own_sz0_2 (xa : Int32) (xs : Int32) (xb : Int32) (xt : Int32) (xm : Int32) (t19_0 : Int64) (t52_0 : Int64) (t70_0 : Int32) (v83 : Int64) (v95 : Int64) (v107 : Int64) (v121 : Int64) (v133 : Int64) (v145 : Int64) (x1 : Addr) (x2 : Addr) :
    own_Go own_K0 code 388 (List.toArray ((.val (.int xa)) :: (.val (.int xs)) :: (.val (.int xb)) :: (.val (.int xt)) :: (.val (.int xm)) :: (.val (.long t19_0)) :: .second :: (.val (.long t52_0)) :: .second :: (.val (.int xs)) :: (.val (.int t70_0)) :: (.val (.long t19_0)) :: .second :: (.val (.long v83)) :: .second :: (.val (.long v95)) :: .second :: (.val (.long v107)) :: .second :: (.val (.long t52_0)) :: .second :: (.val (.long v121)) :: .second :: (.val (.long v133)) :: .second :: (.val (.long v145)) :: .second :: (.val (.ref x1)) :: (.val (.ref x2)) :: (.val (.int (0 : Int32))) :: (.val (.int (0 : Int32))) :: [])) [(.int (0 : Int32))] 397 (List.toArray ((.val (.int xa)) :: (.val (.int xs)) :: (.val (.int xb)) :: (.val (.int xt)) :: (.val (.int xm)) :: (.val (.long t19_0)) :: .second :: (.val (.long t52_0)) :: .second :: (.val (.int xs)) :: (.val (.int t70_0)) :: (.val (.long t19_0)) :: .second :: (.val (.long v83)) :: .second :: (.val (.long v95)) :: .second :: (.val (.long v107)) :: .second :: (.val (.long t52_0)) :: .second :: (.val (.long v121)) :: .second :: (.val (.long v133)) :: .second :: (.val (.long v145)) :: .second :: (.val (.ref x1)) :: (.val (.ref x2)) :: (.val (.int (0 : Int32))) :: (.val (.int (0 : Int32))) :: [])) [(.ref x1), (.ref x2)] := by
  refine own_iload (pc2 := 390) at_388 rfl rfl ?_
  refine own_icmpNo (pc2 := 393) at_390 rfl (by decide) ?_
  refine own_aload (pc2 := 395) at_393 rfl rfl rfl ?_
  refine own_aload (pc2 := 397) at_395 rfl rfl rfl ?_
  exact own_refl
theorem own_sz0_3 (xa : Int32) (xs : Int32) (xb : Int32) (xt : Int32) (xm : Int32) (t19_0 : Int64) (t52_0 : Int64) (t70_0 : Int32) (v83 : Int64) (v95 : Int64) (v107 : Int64) (v121 : Int64) (v133 : Int64) (v145 : Int64) (x1 : Addr) (x2 : Addr) :
    own_Go own_K0 code 400 (List.toArray ((.val (.int xa)) :: (.val (.int xs)) :: (.val (.int xb)) :: (.val (.int xt)) :: (.val (.int xm)) :: (.val (.long t19_0)) :: .second :: (.val (.long t52_0)) :: .second :: (.val (.int xs)) :: (.val (.int t70_0)) :: (.val (.long t19_0)) :: .second :: (.val (.long v83)) :: .second :: (.val (.long v95)) :: .second :: (.val (.long v107)) :: .second :: (.val (.long t52_0)) :: .second :: (.val (.long v121)) :: .second :: (.val (.long v133)) :: .second :: (.val (.long v145)) :: .second :: (.val (.ref x1)) :: (.val (.ref x2)) :: (.val (.int (0 : Int32))) :: (.val (.int (0 : Int32))) :: [])) [(.int (0 : Int32))] 410 (List.toArray ((.val (.int xa)) :: (.val (.int xs)) :: (.val (.int xb)) :: (.val (.int xt)) :: (.val (.int xm)) :: (.val (.long t19_0)) :: .second :: (.val (.long t52_0)) :: .second :: (.val (.int xs)) :: (.val (.int t70_0)) :: (.val (.long t19_0)) :: .second :: (.val (.long v83)) :: .second :: (.val (.long v95)) :: .second :: (.val (.long v107)) :: .second :: (.val (.long t52_0)) :: .second :: (.val (.long v121)) :: .second :: (.val (.long v133)) :: .second :: (.val (.long v145)) :: .second :: (.val (.ref x1)) :: (.val (.ref x2)) :: (.val (.int (0 : Int32))) :: (.val (.int (0 : Int32))) :: [])) [(.int (1 : Int32))] := by
  refine own_iload (pc2 := 402) at_400 rfl rfl ?_
  refine own_icmpNo (pc2 := 405) at_402 rfl (by decide) ?_
  refine own_iconst (v := 1) (pc2 := 406) at_405 rfl rfl ?_
  refine own_goto (pc' := 410) at_406 (by decide) (by decide) ?_
  exact own_refl
theorem own_sz1_0 (xa : Int32) (xs : Int32) (xb : Int32) (xt : Int32) (xm : Int32) (t19_0 : Int64) (t52_0 : Int64) (t70_0 : Int32) (v83 : Int64) (v95 : Int64) (v107 : Int64) (v121 : Int64) (v133 : Int64) (v145 : Int64) (x1 : Addr) (x2 : Addr) (v241 : Int32) (hv241 : (xm >>> ((2 : Int32) &&& 31)) = v241) (hl243 : (v241 &&& (3 : Int32)) = (0 : Int32)) :
    own_Go own_K0 code 236 (List.toArray ((.val (.int xa)) :: (.val (.int xs)) :: (.val (.int xb)) :: (.val (.int xt)) :: (.val (.int xm)) :: (.val (.long t19_0)) :: .second :: (.val (.long t52_0)) :: .second :: (.val (.int xs)) :: (.val (.int t70_0)) :: (.val (.long t19_0)) :: .second :: (.val (.long v83)) :: .second :: (.val (.long v95)) :: .second :: (.val (.long v107)) :: .second :: (.val (.long t52_0)) :: .second :: (.val (.long v121)) :: .second :: (.val (.long v133)) :: .second :: (.val (.long v145)) :: .second :: (.val (.ref x1)) :: .unset :: .unset :: .unset :: [])) [(.ref x2)] 320 (List.toArray ((.val (.int xa)) :: (.val (.int xs)) :: (.val (.int xb)) :: (.val (.int xt)) :: (.val (.int xm)) :: (.val (.long t19_0)) :: .second :: (.val (.long t52_0)) :: .second :: (.val (.int xs)) :: (.val (.int t70_0)) :: (.val (.long t19_0)) :: .second :: (.val (.long v83)) :: .second :: (.val (.long v95)) :: .second :: (.val (.long v107)) :: .second :: (.val (.long t52_0)) :: .second :: (.val (.long v121)) :: .second :: (.val (.long v133)) :: .second :: (.val (.long v145)) :: .second :: (.val (.ref x1)) :: (.val (.ref x2)) :: (.val (.int (0 : Int32))) :: .unset :: [])) [(.int (6 : Int32)), (.int t70_0), (.long t52_0), (.int xs), (.long t19_0)] := by
  refine own_astore (pc2 := 238) at_236 rfl rfl (L' := (List.toArray ((.val (.int xa)) :: (.val (.int xs)) :: (.val (.int xb)) :: (.val (.int xt)) :: (.val (.int xm)) :: (.val (.long t19_0)) :: .second :: (.val (.long t52_0)) :: .second :: (.val (.int xs)) :: (.val (.int t70_0)) :: (.val (.long t19_0)) :: .second :: (.val (.long v83)) :: .second :: (.val (.long v95)) :: .second :: (.val (.long v107)) :: .second :: (.val (.long t52_0)) :: .second :: (.val (.long v121)) :: .second :: (.val (.long v133)) :: .second :: (.val (.long v145)) :: .second :: (.val (.ref x1)) :: (.val (.ref x2)) :: .unset :: .unset :: []))) rfl ?_
  refine own_iload (pc2 := 240) at_238 rfl rfl ?_
  refine own_iconst (v := 2) (pc2 := 241) at_240 rfl rfl ?_
  refine own_ishr (pc2 := 242) at_241 rfl (v := v241) hv241 ?_
  refine own_iconst (v := 3) (pc2 := 243) at_242 rfl rfl ?_
  refine own_iand (pc2 := 244) at_243 rfl (v := (0 : Int32)) hl243 ?_
  refine own_istore (pc2 := 246) at_244 rfl (L' := (List.toArray ((.val (.int xa)) :: (.val (.int xs)) :: (.val (.int xb)) :: (.val (.int xt)) :: (.val (.int xm)) :: (.val (.long t19_0)) :: .second :: (.val (.long t52_0)) :: .second :: (.val (.int xs)) :: (.val (.int t70_0)) :: (.val (.long t19_0)) :: .second :: (.val (.long v83)) :: .second :: (.val (.long v95)) :: .second :: (.val (.long v107)) :: .second :: (.val (.long t52_0)) :: .second :: (.val (.long v121)) :: .second :: (.val (.long v133)) :: .second :: (.val (.long v145)) :: .second :: (.val (.ref x1)) :: (.val (.ref x2)) :: (.val (.int (0 : Int32))) :: .unset :: []))) rfl ?_
  refine own_iload (pc2 := 248) at_246 rfl rfl ?_
  refine own_iconst (v := 1) (pc2 := 249) at_248 rfl rfl ?_
  refine own_icmpYes (pc' := 267) at_249 (by decide) (by decide) (by decide) ?_
  refine own_iload (pc2 := 269) at_267 rfl rfl ?_
  refine own_iconst (v := 2) (pc2 := 270) at_269 rfl rfl ?_
  refine own_icmpYes (pc' := 296) at_270 (by decide) (by decide) (by decide) ?_
  refine own_iload (pc2 := 298) at_296 rfl rfl ?_
  refine own_iconst (v := 3) (pc2 := 299) at_298 rfl rfl ?_
  refine own_icmpYes (pc' := 310) at_299 (by decide) (by decide) (by decide) ?_
  refine own_lload (pc2 := 312) at_310 rfl rfl ?_
  refine own_iload (pc2 := 314) at_312 rfl rfl ?_
  refine own_lload (pc2 := 316) at_314 rfl rfl ?_
  refine own_iload (pc2 := 318) at_316 rfl rfl ?_
  refine own_bipush (v := 6) (pc2 := 320) at_318 rfl rfl ?_
  exact own_refl
theorem own_sz1_1 (xa : Int32) (xs : Int32) (xb : Int32) (xt : Int32) (xm : Int32) (t19_0 : Int64) (t52_0 : Int64) (t70_0 : Int32) (v83 : Int64) (v95 : Int64) (v107 : Int64) (v121 : Int64) (v133 : Int64) (v145 : Int64) (x1 : Addr) (x2 : Addr) :
    own_Go own_K0 code 323 (List.toArray ((.val (.int xa)) :: (.val (.int xs)) :: (.val (.int xb)) :: (.val (.int xt)) :: (.val (.int xm)) :: (.val (.long t19_0)) :: .second :: (.val (.long t52_0)) :: .second :: (.val (.int xs)) :: (.val (.int t70_0)) :: (.val (.long t19_0)) :: .second :: (.val (.long v83)) :: .second :: (.val (.long v95)) :: .second :: (.val (.long v107)) :: .second :: (.val (.long t52_0)) :: .second :: (.val (.long v121)) :: .second :: (.val (.long v133)) :: .second :: (.val (.long v145)) :: .second :: (.val (.ref x1)) :: (.val (.ref x2)) :: (.val (.int (0 : Int32))) :: .unset :: [])) [(.int (1 : Int32))] 336 (List.toArray ((.val (.int xa)) :: (.val (.int xs)) :: (.val (.int xb)) :: (.val (.int xt)) :: (.val (.int xm)) :: (.val (.long t19_0)) :: .second :: (.val (.long t52_0)) :: .second :: (.val (.int xs)) :: (.val (.int t70_0)) :: (.val (.long t19_0)) :: .second :: (.val (.long v83)) :: .second :: (.val (.long v95)) :: .second :: (.val (.long v107)) :: .second :: (.val (.long t52_0)) :: .second :: (.val (.long v121)) :: .second :: (.val (.long v133)) :: .second :: (.val (.long v145)) :: .second :: (.val (.ref x1)) :: (.val (.ref x2)) :: (.val (.int (0 : Int32))) :: .unset :: [])) [(.int (7 : Int32)), (.int t70_0), (.long v121), (.int xs), (.long v83)] := by
  refine own_ifNo (pc2 := 326) at_323 rfl (by decide) ?_
  refine own_lload (pc2 := 328) at_326 rfl rfl ?_
  refine own_iload (pc2 := 330) at_328 rfl rfl ?_
  refine own_lload (pc2 := 332) at_330 rfl rfl ?_
  refine own_iload (pc2 := 334) at_332 rfl rfl ?_
  refine own_bipush (v := 7) (pc2 := 336) at_334 rfl rfl ?_
  exact own_refl
theorem own_sz1_2 (xa : Int32) (xs : Int32) (xb : Int32) (xt : Int32) (xm : Int32) (t19_0 : Int64) (t52_0 : Int64) (t70_0 : Int32) (v83 : Int64) (v95 : Int64) (v107 : Int64) (v121 : Int64) (v133 : Int64) (v145 : Int64) (x1 : Addr) (x2 : Addr) :
    own_Go own_K0 code 339 (List.toArray ((.val (.int xa)) :: (.val (.int xs)) :: (.val (.int xb)) :: (.val (.int xt)) :: (.val (.int xm)) :: (.val (.long t19_0)) :: .second :: (.val (.long t52_0)) :: .second :: (.val (.int xs)) :: (.val (.int t70_0)) :: (.val (.long t19_0)) :: .second :: (.val (.long v83)) :: .second :: (.val (.long v95)) :: .second :: (.val (.long v107)) :: .second :: (.val (.long t52_0)) :: .second :: (.val (.long v121)) :: .second :: (.val (.long v133)) :: .second :: (.val (.long v145)) :: .second :: (.val (.ref x1)) :: (.val (.ref x2)) :: (.val (.int (0 : Int32))) :: .unset :: [])) [(.int (0 : Int32))] 385 (List.toArray ((.val (.int xa)) :: (.val (.int xs)) :: (.val (.int xb)) :: (.val (.int xt)) :: (.val (.int xm)) :: (.val (.long t19_0)) :: .second :: (.val (.long t52_0)) :: .second :: (.val (.int xs)) :: (.val (.int t70_0)) :: (.val (.long t19_0)) :: .second :: (.val (.long v83)) :: .second :: (.val (.long v95)) :: .second :: (.val (.long v107)) :: .second :: (.val (.long t52_0)) :: .second :: (.val (.long v121)) :: .second :: (.val (.long v133)) :: .second :: (.val (.long v145)) :: .second :: (.val (.ref x1)) :: (.val (.ref x2)) :: (.val (.int (0 : Int32))) :: (.val (.int (0 : Int32))) :: [])) [(.ref x2), (.ref x1)] := by
  refine own_ifYes (pc' := 378) at_339 (by decide) (by decide) (by decide) ?_
  refine own_iconst (v := 0) (pc2 := 379) at_378 rfl rfl ?_
  refine own_istore (pc2 := 381) at_379 rfl (L' := (List.toArray ((.val (.int xa)) :: (.val (.int xs)) :: (.val (.int xb)) :: (.val (.int xt)) :: (.val (.int xm)) :: (.val (.long t19_0)) :: .second :: (.val (.long t52_0)) :: .second :: (.val (.int xs)) :: (.val (.int t70_0)) :: (.val (.long t19_0)) :: .second :: (.val (.long v83)) :: .second :: (.val (.long v95)) :: .second :: (.val (.long v107)) :: .second :: (.val (.long t52_0)) :: .second :: (.val (.long v121)) :: .second :: (.val (.long v133)) :: .second :: (.val (.long v145)) :: .second :: (.val (.ref x1)) :: (.val (.ref x2)) :: (.val (.int (0 : Int32))) :: (.val (.int (0 : Int32))) :: []))) rfl ?_
  refine own_aload (pc2 := 383) at_381 rfl rfl rfl ?_
  refine own_aload (pc2 := 385) at_383 rfl rfl rfl ?_
  exact own_refl
theorem own_sz1_3 (xa : Int32) (xs : Int32) (xb : Int32) (xt : Int32) (xm : Int32) (t19_0 : Int64) (t52_0 : Int64) (t70_0 : Int32) (v83 : Int64) (v95 : Int64) (v107 : Int64) (v121 : Int64) (v133 : Int64) (v145 : Int64) (x1 : Addr) (x2 : Addr) :
    own_Go own_K0 code 388 (List.toArray ((.val (.int xa)) :: (.val (.int xs)) :: (.val (.int xb)) :: (.val (.int xt)) :: (.val (.int xm)) :: (.val (.long t19_0)) :: .second :: (.val (.long t52_0)) :: .second :: (.val (.int xs)) :: (.val (.int t70_0)) :: (.val (.long t19_0)) :: .second :: (.val (.long v83)) :: .second :: (.val (.long v95)) :: .second :: (.val (.long v107)) :: .second :: (.val (.long t52_0)) :: .second :: (.val (.long v121)) :: .second :: (.val (.long v133)) :: .second :: (.val (.long v145)) :: .second :: (.val (.ref x1)) :: (.val (.ref x2)) :: (.val (.int (0 : Int32))) :: (.val (.int (0 : Int32))) :: [])) [(.int (0 : Int32))] 397 (List.toArray ((.val (.int xa)) :: (.val (.int xs)) :: (.val (.int xb)) :: (.val (.int xt)) :: (.val (.int xm)) :: (.val (.long t19_0)) :: .second :: (.val (.long t52_0)) :: .second :: (.val (.int xs)) :: (.val (.int t70_0)) :: (.val (.long t19_0)) :: .second :: (.val (.long v83)) :: .second :: (.val (.long v95)) :: .second :: (.val (.long v107)) :: .second :: (.val (.long t52_0)) :: .second :: (.val (.long v121)) :: .second :: (.val (.long v133)) :: .second :: (.val (.long v145)) :: .second :: (.val (.ref x1)) :: (.val (.ref x2)) :: (.val (.int (0 : Int32))) :: (.val (.int (0 : Int32))) :: [])) [(.ref x1), (.ref x2)] := by
  refine own_iload (pc2 := 390) at_388 rfl rfl ?_
  refine own_icmpNo (pc2 := 393) at_390 rfl (by decide) ?_
  refine own_aload (pc2 := 395) at_393 rfl rfl rfl ?_
  refine own_aload (pc2 := 397) at_395 rfl rfl rfl ?_
  exact own_refl
theorem own_sz1_4 (xa : Int32) (xs : Int32) (xb : Int32) (xt : Int32) (xm : Int32) (t19_0 : Int64) (t52_0 : Int64) (t70_0 : Int32) (v83 : Int64) (v95 : Int64) (v107 : Int64) (v121 : Int64) (v133 : Int64) (v145 : Int64) (x1 : Addr) (x2 : Addr) :
    own_Go own_K0 code 400 (List.toArray ((.val (.int xa)) :: (.val (.int xs)) :: (.val (.int xb)) :: (.val (.int xt)) :: (.val (.int xm)) :: (.val (.long t19_0)) :: .second :: (.val (.long t52_0)) :: .second :: (.val (.int xs)) :: (.val (.int t70_0)) :: (.val (.long t19_0)) :: .second :: (.val (.long v83)) :: .second :: (.val (.long v95)) :: .second :: (.val (.long v107)) :: .second :: (.val (.long t52_0)) :: .second :: (.val (.long v121)) :: .second :: (.val (.long v133)) :: .second :: (.val (.long v145)) :: .second :: (.val (.ref x1)) :: (.val (.ref x2)) :: (.val (.int (0 : Int32))) :: (.val (.int (0 : Int32))) :: [])) [(.int (0 : Int32))] 410 (List.toArray ((.val (.int xa)) :: (.val (.int xs)) :: (.val (.int xb)) :: (.val (.int xt)) :: (.val (.int xm)) :: (.val (.long t19_0)) :: .second :: (.val (.long t52_0)) :: .second :: (.val (.int xs)) :: (.val (.int t70_0)) :: (.val (.long t19_0)) :: .second :: (.val (.long v83)) :: .second :: (.val (.long v95)) :: .second :: (.val (.long v107)) :: .second :: (.val (.long t52_0)) :: .second :: (.val (.long v121)) :: .second :: (.val (.long v133)) :: .second :: (.val (.long v145)) :: .second :: (.val (.ref x1)) :: (.val (.ref x2)) :: (.val (.int (0 : Int32))) :: (.val (.int (0 : Int32))) :: [])) [(.int (1 : Int32))] := by
  refine own_iload (pc2 := 402) at_400 rfl rfl ?_
  refine own_icmpNo (pc2 := 405) at_402 rfl (by decide) ?_
  refine own_iconst (v := 1) (pc2 := 406) at_405 rfl rfl ?_
  refine own_goto (pc' := 410) at_406 (by decide) (by decide) ?_
  exact own_refl
theorem own_sz2_0 (xa : Int32) (xs : Int32) (xb : Int32) (xt : Int32) (xm : Int32) (t19_0 : Int64) (t52_0 : Int64) (t70_0 : Int32) (v83 : Int64) (v95 : Int64) (v107 : Int64) (v121 : Int64) (v133 : Int64) (v145 : Int64) (x1 : Addr) (x2 : Addr) (v241 : Int32) (hv241 : (xm >>> ((2 : Int32) &&& 31)) = v241) (hl243 : (v241 &&& (3 : Int32)) = (0 : Int32)) :
    own_Go own_K0 code 236 (List.toArray ((.val (.int xa)) :: (.val (.int xs)) :: (.val (.int xb)) :: (.val (.int xt)) :: (.val (.int xm)) :: (.val (.long t19_0)) :: .second :: (.val (.long t52_0)) :: .second :: (.val (.int xs)) :: (.val (.int t70_0)) :: (.val (.long t19_0)) :: .second :: (.val (.long v83)) :: .second :: (.val (.long v95)) :: .second :: (.val (.long v107)) :: .second :: (.val (.long t52_0)) :: .second :: (.val (.long v121)) :: .second :: (.val (.long v133)) :: .second :: (.val (.long v145)) :: .second :: (.val (.ref x1)) :: .unset :: .unset :: .unset :: [])) [(.ref x2)] 320 (List.toArray ((.val (.int xa)) :: (.val (.int xs)) :: (.val (.int xb)) :: (.val (.int xt)) :: (.val (.int xm)) :: (.val (.long t19_0)) :: .second :: (.val (.long t52_0)) :: .second :: (.val (.int xs)) :: (.val (.int t70_0)) :: (.val (.long t19_0)) :: .second :: (.val (.long v83)) :: .second :: (.val (.long v95)) :: .second :: (.val (.long v107)) :: .second :: (.val (.long t52_0)) :: .second :: (.val (.long v121)) :: .second :: (.val (.long v133)) :: .second :: (.val (.long v145)) :: .second :: (.val (.ref x1)) :: (.val (.ref x2)) :: (.val (.int (0 : Int32))) :: .unset :: [])) [(.int (6 : Int32)), (.int t70_0), (.long t52_0), (.int xs), (.long t19_0)] := by
  refine own_astore (pc2 := 238) at_236 rfl rfl (L' := (List.toArray ((.val (.int xa)) :: (.val (.int xs)) :: (.val (.int xb)) :: (.val (.int xt)) :: (.val (.int xm)) :: (.val (.long t19_0)) :: .second :: (.val (.long t52_0)) :: .second :: (.val (.int xs)) :: (.val (.int t70_0)) :: (.val (.long t19_0)) :: .second :: (.val (.long v83)) :: .second :: (.val (.long v95)) :: .second :: (.val (.long v107)) :: .second :: (.val (.long t52_0)) :: .second :: (.val (.long v121)) :: .second :: (.val (.long v133)) :: .second :: (.val (.long v145)) :: .second :: (.val (.ref x1)) :: (.val (.ref x2)) :: .unset :: .unset :: []))) rfl ?_
  refine own_iload (pc2 := 240) at_238 rfl rfl ?_
  refine own_iconst (v := 2) (pc2 := 241) at_240 rfl rfl ?_
  refine own_ishr (pc2 := 242) at_241 rfl (v := v241) hv241 ?_
  refine own_iconst (v := 3) (pc2 := 243) at_242 rfl rfl ?_
  refine own_iand (pc2 := 244) at_243 rfl (v := (0 : Int32)) hl243 ?_
  refine own_istore (pc2 := 246) at_244 rfl (L' := (List.toArray ((.val (.int xa)) :: (.val (.int xs)) :: (.val (.int xb)) :: (.val (.int xt)) :: (.val (.int xm)) :: (.val (.long t19_0)) :: .second :: (.val (.long t52_0)) :: .second :: (.val (.int xs)) :: (.val (.int t70_0)) :: (.val (.long t19_0)) :: .second :: (.val (.long v83)) :: .second :: (.val (.long v95)) :: .second :: (.val (.long v107)) :: .second :: (.val (.long t52_0)) :: .second :: (.val (.long v121)) :: .second :: (.val (.long v133)) :: .second :: (.val (.long v145)) :: .second :: (.val (.ref x1)) :: (.val (.ref x2)) :: (.val (.int (0 : Int32))) :: .unset :: []))) rfl ?_
  refine own_iload (pc2 := 248) at_246 rfl rfl ?_
  refine own_iconst (v := 1) (pc2 := 249) at_248 rfl rfl ?_
  refine own_icmpYes (pc' := 267) at_249 (by decide) (by decide) (by decide) ?_
  refine own_iload (pc2 := 269) at_267 rfl rfl ?_
  refine own_iconst (v := 2) (pc2 := 270) at_269 rfl rfl ?_
  refine own_icmpYes (pc' := 296) at_270 (by decide) (by decide) (by decide) ?_
  refine own_iload (pc2 := 298) at_296 rfl rfl ?_
  refine own_iconst (v := 3) (pc2 := 299) at_298 rfl rfl ?_
  refine own_icmpYes (pc' := 310) at_299 (by decide) (by decide) (by decide) ?_
  refine own_lload (pc2 := 312) at_310 rfl rfl ?_
  refine own_iload (pc2 := 314) at_312 rfl rfl ?_
  refine own_lload (pc2 := 316) at_314 rfl rfl ?_
  refine own_iload (pc2 := 318) at_316 rfl rfl ?_
  refine own_bipush (v := 6) (pc2 := 320) at_318 rfl rfl ?_
  exact own_refl
theorem own_sz2_1 (xa : Int32) (xs : Int32) (xb : Int32) (xt : Int32) (xm : Int32) (t19_0 : Int64) (t52_0 : Int64) (t70_0 : Int32) (v83 : Int64) (v95 : Int64) (v107 : Int64) (v121 : Int64) (v133 : Int64) (v145 : Int64) (x1 : Addr) (x2 : Addr) :
    own_Go own_K0 code 323 (List.toArray ((.val (.int xa)) :: (.val (.int xs)) :: (.val (.int xb)) :: (.val (.int xt)) :: (.val (.int xm)) :: (.val (.long t19_0)) :: .second :: (.val (.long t52_0)) :: .second :: (.val (.int xs)) :: (.val (.int t70_0)) :: (.val (.long t19_0)) :: .second :: (.val (.long v83)) :: .second :: (.val (.long v95)) :: .second :: (.val (.long v107)) :: .second :: (.val (.long t52_0)) :: .second :: (.val (.long v121)) :: .second :: (.val (.long v133)) :: .second :: (.val (.long v145)) :: .second :: (.val (.ref x1)) :: (.val (.ref x2)) :: (.val (.int (0 : Int32))) :: .unset :: [])) [(.int (1 : Int32))] 336 (List.toArray ((.val (.int xa)) :: (.val (.int xs)) :: (.val (.int xb)) :: (.val (.int xt)) :: (.val (.int xm)) :: (.val (.long t19_0)) :: .second :: (.val (.long t52_0)) :: .second :: (.val (.int xs)) :: (.val (.int t70_0)) :: (.val (.long t19_0)) :: .second :: (.val (.long v83)) :: .second :: (.val (.long v95)) :: .second :: (.val (.long v107)) :: .second :: (.val (.long t52_0)) :: .second :: (.val (.long v121)) :: .second :: (.val (.long v133)) :: .second :: (.val (.long v145)) :: .second :: (.val (.ref x1)) :: (.val (.ref x2)) :: (.val (.int (0 : Int32))) :: .unset :: [])) [(.int (7 : Int32)), (.int t70_0), (.long v121), (.int xs), (.long v83)] := by
  refine own_ifNo (pc2 := 326) at_323 rfl (by decide) ?_
  refine own_lload (pc2 := 328) at_326 rfl rfl ?_
  refine own_iload (pc2 := 330) at_328 rfl rfl ?_
  refine own_lload (pc2 := 332) at_330 rfl rfl ?_
  refine own_iload (pc2 := 334) at_332 rfl rfl ?_
  refine own_bipush (v := 7) (pc2 := 336) at_334 rfl rfl ?_
  exact own_refl
theorem own_sz2_2 (xa : Int32) (xs : Int32) (xb : Int32) (xt : Int32) (xm : Int32) (t19_0 : Int64) (t52_0 : Int64) (t70_0 : Int32) (v83 : Int64) (v95 : Int64) (v107 : Int64) (v121 : Int64) (v133 : Int64) (v145 : Int64) (x1 : Addr) (x2 : Addr) :
    own_Go own_K0 code 339 (List.toArray ((.val (.int xa)) :: (.val (.int xs)) :: (.val (.int xb)) :: (.val (.int xt)) :: (.val (.int xm)) :: (.val (.long t19_0)) :: .second :: (.val (.long t52_0)) :: .second :: (.val (.int xs)) :: (.val (.int t70_0)) :: (.val (.long t19_0)) :: .second :: (.val (.long v83)) :: .second :: (.val (.long v95)) :: .second :: (.val (.long v107)) :: .second :: (.val (.long t52_0)) :: .second :: (.val (.long v121)) :: .second :: (.val (.long v133)) :: .second :: (.val (.long v145)) :: .second :: (.val (.ref x1)) :: (.val (.ref x2)) :: (.val (.int (0 : Int32))) :: .unset :: [])) [(.int (1 : Int32))] 352 (List.toArray ((.val (.int xa)) :: (.val (.int xs)) :: (.val (.int xb)) :: (.val (.int xt)) :: (.val (.int xm)) :: (.val (.long t19_0)) :: .second :: (.val (.long t52_0)) :: .second :: (.val (.int xs)) :: (.val (.int t70_0)) :: (.val (.long t19_0)) :: .second :: (.val (.long v83)) :: .second :: (.val (.long v95)) :: .second :: (.val (.long v107)) :: .second :: (.val (.long t52_0)) :: .second :: (.val (.long v121)) :: .second :: (.val (.long v133)) :: .second :: (.val (.long v145)) :: .second :: (.val (.ref x1)) :: (.val (.ref x2)) :: (.val (.int (0 : Int32))) :: .unset :: [])) [(.int (8 : Int32)), (.int t70_0), (.long v133), (.int xs), (.long v95)] := by
  refine own_ifNo (pc2 := 342) at_339 rfl (by decide) ?_
  refine own_lload (pc2 := 344) at_342 rfl rfl ?_
  refine own_iload (pc2 := 346) at_344 rfl rfl ?_
  refine own_lload (pc2 := 348) at_346 rfl rfl ?_
  refine own_iload (pc2 := 350) at_348 rfl rfl ?_
  refine own_bipush (v := 8) (pc2 := 352) at_350 rfl rfl ?_
  exact own_refl
theorem own_sz2_3 (xa : Int32) (xs : Int32) (xb : Int32) (xt : Int32) (xm : Int32) (t19_0 : Int64) (t52_0 : Int64) (t70_0 : Int32) (v83 : Int64) (v95 : Int64) (v107 : Int64) (v121 : Int64) (v133 : Int64) (v145 : Int64) (x1 : Addr) (x2 : Addr) :
    own_Go own_K0 code 355 (List.toArray ((.val (.int xa)) :: (.val (.int xs)) :: (.val (.int xb)) :: (.val (.int xt)) :: (.val (.int xm)) :: (.val (.long t19_0)) :: .second :: (.val (.long t52_0)) :: .second :: (.val (.int xs)) :: (.val (.int t70_0)) :: (.val (.long t19_0)) :: .second :: (.val (.long v83)) :: .second :: (.val (.long v95)) :: .second :: (.val (.long v107)) :: .second :: (.val (.long t52_0)) :: .second :: (.val (.long v121)) :: .second :: (.val (.long v133)) :: .second :: (.val (.long v145)) :: .second :: (.val (.ref x1)) :: (.val (.ref x2)) :: (.val (.int (0 : Int32))) :: .unset :: [])) [(.int (0 : Int32))] 385 (List.toArray ((.val (.int xa)) :: (.val (.int xs)) :: (.val (.int xb)) :: (.val (.int xt)) :: (.val (.int xm)) :: (.val (.long t19_0)) :: .second :: (.val (.long t52_0)) :: .second :: (.val (.int xs)) :: (.val (.int t70_0)) :: (.val (.long t19_0)) :: .second :: (.val (.long v83)) :: .second :: (.val (.long v95)) :: .second :: (.val (.long v107)) :: .second :: (.val (.long t52_0)) :: .second :: (.val (.long v121)) :: .second :: (.val (.long v133)) :: .second :: (.val (.long v145)) :: .second :: (.val (.ref x1)) :: (.val (.ref x2)) :: (.val (.int (0 : Int32))) :: (.val (.int (0 : Int32))) :: [])) [(.ref x2), (.ref x1)] := by
  refine own_ifYes (pc' := 378) at_355 (by decide) (by decide) (by decide) ?_
  refine own_iconst (v := 0) (pc2 := 379) at_378 rfl rfl ?_
  refine own_istore (pc2 := 381) at_379 rfl (L' := (List.toArray ((.val (.int xa)) :: (.val (.int xs)) :: (.val (.int xb)) :: (.val (.int xt)) :: (.val (.int xm)) :: (.val (.long t19_0)) :: .second :: (.val (.long t52_0)) :: .second :: (.val (.int xs)) :: (.val (.int t70_0)) :: (.val (.long t19_0)) :: .second :: (.val (.long v83)) :: .second :: (.val (.long v95)) :: .second :: (.val (.long v107)) :: .second :: (.val (.long t52_0)) :: .second :: (.val (.long v121)) :: .second :: (.val (.long v133)) :: .second :: (.val (.long v145)) :: .second :: (.val (.ref x1)) :: (.val (.ref x2)) :: (.val (.int (0 : Int32))) :: (.val (.int (0 : Int32))) :: []))) rfl ?_
  refine own_aload (pc2 := 383) at_381 rfl rfl rfl ?_
  refine own_aload (pc2 := 385) at_383 rfl rfl rfl ?_
  exact own_refl
theorem own_sz2_4 (xa : Int32) (xs : Int32) (xb : Int32) (xt : Int32) (xm : Int32) (t19_0 : Int64) (t52_0 : Int64) (t70_0 : Int32) (v83 : Int64) (v95 : Int64) (v107 : Int64) (v121 : Int64) (v133 : Int64) (v145 : Int64) (x1 : Addr) (x2 : Addr) :
    own_Go own_K0 code 388 (List.toArray ((.val (.int xa)) :: (.val (.int xs)) :: (.val (.int xb)) :: (.val (.int xt)) :: (.val (.int xm)) :: (.val (.long t19_0)) :: .second :: (.val (.long t52_0)) :: .second :: (.val (.int xs)) :: (.val (.int t70_0)) :: (.val (.long t19_0)) :: .second :: (.val (.long v83)) :: .second :: (.val (.long v95)) :: .second :: (.val (.long v107)) :: .second :: (.val (.long t52_0)) :: .second :: (.val (.long v121)) :: .second :: (.val (.long v133)) :: .second :: (.val (.long v145)) :: .second :: (.val (.ref x1)) :: (.val (.ref x2)) :: (.val (.int (0 : Int32))) :: (.val (.int (0 : Int32))) :: [])) [(.int (0 : Int32))] 397 (List.toArray ((.val (.int xa)) :: (.val (.int xs)) :: (.val (.int xb)) :: (.val (.int xt)) :: (.val (.int xm)) :: (.val (.long t19_0)) :: .second :: (.val (.long t52_0)) :: .second :: (.val (.int xs)) :: (.val (.int t70_0)) :: (.val (.long t19_0)) :: .second :: (.val (.long v83)) :: .second :: (.val (.long v95)) :: .second :: (.val (.long v107)) :: .second :: (.val (.long t52_0)) :: .second :: (.val (.long v121)) :: .second :: (.val (.long v133)) :: .second :: (.val (.long v145)) :: .second :: (.val (.ref x1)) :: (.val (.ref x2)) :: (.val (.int (0 : Int32))) :: (.val (.int (0 : Int32))) :: [])) [(.ref x1), (.ref x2)] := by
  refine own_iload (pc2 := 390) at_388 rfl rfl ?_
  refine own_icmpNo (pc2 := 393) at_390 rfl (by decide) ?_
  refine own_aload (pc2 := 395) at_393 rfl rfl rfl ?_
  refine own_aload (pc2 := 397) at_395 rfl rfl rfl ?_
  exact own_refl
theorem own_sz2_5 (xa : Int32) (xs : Int32) (xb : Int32) (xt : Int32) (xm : Int32) (t19_0 : Int64) (t52_0 : Int64) (t70_0 : Int32) (v83 : Int64) (v95 : Int64) (v107 : Int64) (v121 : Int64) (v133 : Int64) (v145 : Int64) (x1 : Addr) (x2 : Addr) :
    own_Go own_K0 code 400 (List.toArray ((.val (.int xa)) :: (.val (.int xs)) :: (.val (.int xb)) :: (.val (.int xt)) :: (.val (.int xm)) :: (.val (.long t19_0)) :: .second :: (.val (.long t52_0)) :: .second :: (.val (.int xs)) :: (.val (.int t70_0)) :: (.val (.long t19_0)) :: .second :: (.val (.long v83)) :: .second :: (.val (.long v95)) :: .second :: (.val (.long v107)) :: .second :: (.val (.long t52_0)) :: .second :: (.val (.long v121)) :: .second :: (.val (.long v133)) :: .second :: (.val (.long v145)) :: .second :: (.val (.ref x1)) :: (.val (.ref x2)) :: (.val (.int (0 : Int32))) :: (.val (.int (0 : Int32))) :: [])) [(.int (0 : Int32))] 410 (List.toArray ((.val (.int xa)) :: (.val (.int xs)) :: (.val (.int xb)) :: (.val (.int xt)) :: (.val (.int xm)) :: (.val (.long t19_0)) :: .second :: (.val (.long t52_0)) :: .second :: (.val (.int xs)) :: (.val (.int t70_0)) :: (.val (.long t19_0)) :: .second :: (.val (.long v83)) :: .second :: (.val (.long v95)) :: .second :: (.val (.long v107)) :: .second :: (.val (.long t52_0)) :: .second :: (.val (.long v121)) :: .second :: (.val (.long v133)) :: .second :: (.val (.long v145)) :: .second :: (.val (.ref x1)) :: (.val (.ref x2)) :: (.val (.int (0 : Int32))) :: (.val (.int (0 : Int32))) :: [])) [(.int (1 : Int32))] := by
  refine own_iload (pc2 := 402) at_400 rfl rfl ?_
  refine own_icmpNo (pc2 := 405) at_402 rfl (by decide) ?_
  refine own_iconst (v := 1) (pc2 := 406) at_405 rfl rfl ?_
  refine own_goto (pc' := 410) at_406 (by decide) (by decide) ?_
  exact own_refl
theorem own_sz3_0 (xa : Int32) (xs : Int32) (xb : Int32) (xt : Int32) (xm : Int32) (t19_0 : Int64) (t52_0 : Int64) (t70_0 : Int32) (v83 : Int64) (v95 : Int64) (v107 : Int64) (v121 : Int64) (v133 : Int64) (v145 : Int64) (x1 : Addr) (x2 : Addr) (v241 : Int32) (hv241 : (xm >>> ((2 : Int32) &&& 31)) = v241) (hl243 : (v241 &&& (3 : Int32)) = (0 : Int32)) :
    own_Go own_K0 code 236 (List.toArray ((.val (.int xa)) :: (.val (.int xs)) :: (.val (.int xb)) :: (.val (.int xt)) :: (.val (.int xm)) :: (.val (.long t19_0)) :: .second :: (.val (.long t52_0)) :: .second :: (.val (.int xs)) :: (.val (.int t70_0)) :: (.val (.long t19_0)) :: .second :: (.val (.long v83)) :: .second :: (.val (.long v95)) :: .second :: (.val (.long v107)) :: .second :: (.val (.long t52_0)) :: .second :: (.val (.long v121)) :: .second :: (.val (.long v133)) :: .second :: (.val (.long v145)) :: .second :: (.val (.ref x1)) :: .unset :: .unset :: .unset :: [])) [(.ref x2)] 320 (List.toArray ((.val (.int xa)) :: (.val (.int xs)) :: (.val (.int xb)) :: (.val (.int xt)) :: (.val (.int xm)) :: (.val (.long t19_0)) :: .second :: (.val (.long t52_0)) :: .second :: (.val (.int xs)) :: (.val (.int t70_0)) :: (.val (.long t19_0)) :: .second :: (.val (.long v83)) :: .second :: (.val (.long v95)) :: .second :: (.val (.long v107)) :: .second :: (.val (.long t52_0)) :: .second :: (.val (.long v121)) :: .second :: (.val (.long v133)) :: .second :: (.val (.long v145)) :: .second :: (.val (.ref x1)) :: (.val (.ref x2)) :: (.val (.int (0 : Int32))) :: .unset :: [])) [(.int (6 : Int32)), (.int t70_0), (.long t52_0), (.int xs), (.long t19_0)] := by
  refine own_astore (pc2 := 238) at_236 rfl rfl (L' := (List.toArray ((.val (.int xa)) :: (.val (.int xs)) :: (.val (.int xb)) :: (.val (.int xt)) :: (.val (.int xm)) :: (.val (.long t19_0)) :: .second :: (.val (.long t52_0)) :: .second :: (.val (.int xs)) :: (.val (.int t70_0)) :: (.val (.long t19_0)) :: .second :: (.val (.long v83)) :: .second :: (.val (.long v95)) :: .second :: (.val (.long v107)) :: .second :: (.val (.long t52_0)) :: .second :: (.val (.long v121)) :: .second :: (.val (.long v133)) :: .second :: (.val (.long v145)) :: .second :: (.val (.ref x1)) :: (.val (.ref x2)) :: .unset :: .unset :: []))) rfl ?_
  refine own_iload (pc2 := 240) at_238 rfl rfl ?_
  refine own_iconst (v := 2) (pc2 := 241) at_240 rfl rfl ?_
  refine own_ishr (pc2 := 242) at_241 rfl (v := v241) hv241 ?_
  refine own_iconst (v := 3) (pc2 := 243) at_242 rfl rfl ?_
  refine own_iand (pc2 := 244) at_243 rfl (v := (0 : Int32)) hl243 ?_
  refine own_istore (pc2 := 246) at_244 rfl (L' := (List.toArray ((.val (.int xa)) :: (.val (.int xs)) :: (.val (.int xb)) :: (.val (.int xt)) :: (.val (.int xm)) :: (.val (.long t19_0)) :: .second :: (.val (.long t52_0)) :: .second :: (.val (.int xs)) :: (.val (.int t70_0)) :: (.val (.long t19_0)) :: .second :: (.val (.long v83)) :: .second :: (.val (.long v95)) :: .second :: (.val (.long v107)) :: .second :: (.val (.long t52_0)) :: .second :: (.val (.long v121)) :: .second :: (.val (.long v133)) :: .second :: (.val (.long v145)) :: .second :: (.val (.ref x1)) :: (.val (.ref x2)) :: (.val (.int (0 : Int32))) :: .unset :: []))) rfl ?_
  refine own_iload (pc2 := 248) at_246 rfl rfl ?_
  refine own_iconst (v := 1) (pc2 := 249) at_248 rfl rfl ?_
  refine own_icmpYes (pc' := 267) at_249 (by decide) (by decide) (by decide) ?_
  refine own_iload (pc2 := 269) at_267 rfl rfl ?_
  refine own_iconst (v := 2) (pc2 := 270) at_269 rfl rfl ?_
  refine own_icmpYes (pc' := 296) at_270 (by decide) (by decide) (by decide) ?_
  refine own_iload (pc2 := 298) at_296 rfl rfl ?_
  refine own_iconst (v := 3) (pc2 := 299) at_298 rfl rfl ?_
  refine own_icmpYes (pc' := 310) at_299 (by decide) (by decide) (by decide) ?_
  refine own_lload (pc2 := 312) at_310 rfl rfl ?_
  refine own_iload (pc2 := 314) at_312 rfl rfl ?_
  refine own_lload (pc2 := 316) at_314 rfl rfl ?_
  refine own_iload (pc2 := 318) at_316 rfl rfl ?_
  refine own_bipush (v := 6) (pc2 := 320) at_318 rfl rfl ?_
  exact own_refl
theorem own_sz3_1 (xa : Int32) (xs : Int32) (xb : Int32) (xt : Int32) (xm : Int32) (t19_0 : Int64) (t52_0 : Int64) (t70_0 : Int32) (v83 : Int64) (v95 : Int64) (v107 : Int64) (v121 : Int64) (v133 : Int64) (v145 : Int64) (x1 : Addr) (x2 : Addr) :
    own_Go own_K0 code 323 (List.toArray ((.val (.int xa)) :: (.val (.int xs)) :: (.val (.int xb)) :: (.val (.int xt)) :: (.val (.int xm)) :: (.val (.long t19_0)) :: .second :: (.val (.long t52_0)) :: .second :: (.val (.int xs)) :: (.val (.int t70_0)) :: (.val (.long t19_0)) :: .second :: (.val (.long v83)) :: .second :: (.val (.long v95)) :: .second :: (.val (.long v107)) :: .second :: (.val (.long t52_0)) :: .second :: (.val (.long v121)) :: .second :: (.val (.long v133)) :: .second :: (.val (.long v145)) :: .second :: (.val (.ref x1)) :: (.val (.ref x2)) :: (.val (.int (0 : Int32))) :: .unset :: [])) [(.int (1 : Int32))] 336 (List.toArray ((.val (.int xa)) :: (.val (.int xs)) :: (.val (.int xb)) :: (.val (.int xt)) :: (.val (.int xm)) :: (.val (.long t19_0)) :: .second :: (.val (.long t52_0)) :: .second :: (.val (.int xs)) :: (.val (.int t70_0)) :: (.val (.long t19_0)) :: .second :: (.val (.long v83)) :: .second :: (.val (.long v95)) :: .second :: (.val (.long v107)) :: .second :: (.val (.long t52_0)) :: .second :: (.val (.long v121)) :: .second :: (.val (.long v133)) :: .second :: (.val (.long v145)) :: .second :: (.val (.ref x1)) :: (.val (.ref x2)) :: (.val (.int (0 : Int32))) :: .unset :: [])) [(.int (7 : Int32)), (.int t70_0), (.long v121), (.int xs), (.long v83)] := by
  refine own_ifNo (pc2 := 326) at_323 rfl (by decide) ?_
  refine own_lload (pc2 := 328) at_326 rfl rfl ?_
  refine own_iload (pc2 := 330) at_328 rfl rfl ?_
  refine own_lload (pc2 := 332) at_330 rfl rfl ?_
  refine own_iload (pc2 := 334) at_332 rfl rfl ?_
  refine own_bipush (v := 7) (pc2 := 336) at_334 rfl rfl ?_
  exact own_refl
theorem own_sz3_2 (xa : Int32) (xs : Int32) (xb : Int32) (xt : Int32) (xm : Int32) (t19_0 : Int64) (t52_0 : Int64) (t70_0 : Int32) (v83 : Int64) (v95 : Int64) (v107 : Int64) (v121 : Int64) (v133 : Int64) (v145 : Int64) (x1 : Addr) (x2 : Addr) :
    own_Go own_K0 code 339 (List.toArray ((.val (.int xa)) :: (.val (.int xs)) :: (.val (.int xb)) :: (.val (.int xt)) :: (.val (.int xm)) :: (.val (.long t19_0)) :: .second :: (.val (.long t52_0)) :: .second :: (.val (.int xs)) :: (.val (.int t70_0)) :: (.val (.long t19_0)) :: .second :: (.val (.long v83)) :: .second :: (.val (.long v95)) :: .second :: (.val (.long v107)) :: .second :: (.val (.long t52_0)) :: .second :: (.val (.long v121)) :: .second :: (.val (.long v133)) :: .second :: (.val (.long v145)) :: .second :: (.val (.ref x1)) :: (.val (.ref x2)) :: (.val (.int (0 : Int32))) :: .unset :: [])) [(.int (1 : Int32))] 352 (List.toArray ((.val (.int xa)) :: (.val (.int xs)) :: (.val (.int xb)) :: (.val (.int xt)) :: (.val (.int xm)) :: (.val (.long t19_0)) :: .second :: (.val (.long t52_0)) :: .second :: (.val (.int xs)) :: (.val (.int t70_0)) :: (.val (.long t19_0)) :: .second :: (.val (.long v83)) :: .second :: (.val (.long v95)) :: .second :: (.val (.long v107)) :: .second :: (.val (.long t52_0)) :: .second :: (.val (.long v121)) :: .second :: (.val (.long v133)) :: .second :: (.val (.long v145)) :: .second :: (.val (.ref x1)) :: (.val (.ref x2)) :: (.val (.int (0 : Int32))) :: .unset :: [])) [(.int (8 : Int32)), (.int t70_0), (.long v133), (.int xs), (.long v95)] := by
  refine own_ifNo (pc2 := 342) at_339 rfl (by decide) ?_
  refine own_lload (pc2 := 344) at_342 rfl rfl ?_
  refine own_iload (pc2 := 346) at_344 rfl rfl ?_
  refine own_lload (pc2 := 348) at_346 rfl rfl ?_
  refine own_iload (pc2 := 350) at_348 rfl rfl ?_
  refine own_bipush (v := 8) (pc2 := 352) at_350 rfl rfl ?_
  exact own_refl
theorem own_sz3_3 (xa : Int32) (xs : Int32) (xb : Int32) (xt : Int32) (xm : Int32) (t19_0 : Int64) (t52_0 : Int64) (t70_0 : Int32) (v83 : Int64) (v95 : Int64) (v107 : Int64) (v121 : Int64) (v133 : Int64) (v145 : Int64) (x1 : Addr) (x2 : Addr) :
    own_Go own_K0 code 355 (List.toArray ((.val (.int xa)) :: (.val (.int xs)) :: (.val (.int xb)) :: (.val (.int xt)) :: (.val (.int xm)) :: (.val (.long t19_0)) :: .second :: (.val (.long t52_0)) :: .second :: (.val (.int xs)) :: (.val (.int t70_0)) :: (.val (.long t19_0)) :: .second :: (.val (.long v83)) :: .second :: (.val (.long v95)) :: .second :: (.val (.long v107)) :: .second :: (.val (.long t52_0)) :: .second :: (.val (.long v121)) :: .second :: (.val (.long v133)) :: .second :: (.val (.long v145)) :: .second :: (.val (.ref x1)) :: (.val (.ref x2)) :: (.val (.int (0 : Int32))) :: .unset :: [])) [(.int (1 : Int32))] 368 (List.toArray ((.val (.int xa)) :: (.val (.int xs)) :: (.val (.int xb)) :: (.val (.int xt)) :: (.val (.int xm)) :: (.val (.long t19_0)) :: .second :: (.val (.long t52_0)) :: .second :: (.val (.int xs)) :: (.val (.int t70_0)) :: (.val (.long t19_0)) :: .second :: (.val (.long v83)) :: .second :: (.val (.long v95)) :: .second :: (.val (.long v107)) :: .second :: (.val (.long t52_0)) :: .second :: (.val (.long v121)) :: .second :: (.val (.long v133)) :: .second :: (.val (.long v145)) :: .second :: (.val (.ref x1)) :: (.val (.ref x2)) :: (.val (.int (0 : Int32))) :: .unset :: [])) [(.int (9 : Int32)), (.int t70_0), (.long v145), (.int xs), (.long v107)] := by
  refine own_ifNo (pc2 := 358) at_355 rfl (by decide) ?_
  refine own_lload (pc2 := 360) at_358 rfl rfl ?_
  refine own_iload (pc2 := 362) at_360 rfl rfl ?_
  refine own_lload (pc2 := 364) at_362 rfl rfl ?_
  refine own_iload (pc2 := 366) at_364 rfl rfl ?_
  refine own_bipush (v := 9) (pc2 := 368) at_366 rfl rfl ?_
  exact own_refl
theorem own_sz3_4 (xa : Int32) (xs : Int32) (xb : Int32) (xt : Int32) (xm : Int32) (t19_0 : Int64) (t52_0 : Int64) (t70_0 : Int32) (v83 : Int64) (v95 : Int64) (v107 : Int64) (v121 : Int64) (v133 : Int64) (v145 : Int64) (x1 : Addr) (x2 : Addr) :
    own_Go own_K0 code 371 (List.toArray ((.val (.int xa)) :: (.val (.int xs)) :: (.val (.int xb)) :: (.val (.int xt)) :: (.val (.int xm)) :: (.val (.long t19_0)) :: .second :: (.val (.long t52_0)) :: .second :: (.val (.int xs)) :: (.val (.int t70_0)) :: (.val (.long t19_0)) :: .second :: (.val (.long v83)) :: .second :: (.val (.long v95)) :: .second :: (.val (.long v107)) :: .second :: (.val (.long t52_0)) :: .second :: (.val (.long v121)) :: .second :: (.val (.long v133)) :: .second :: (.val (.long v145)) :: .second :: (.val (.ref x1)) :: (.val (.ref x2)) :: (.val (.int (0 : Int32))) :: .unset :: [])) [(.int (0 : Int32))] 385 (List.toArray ((.val (.int xa)) :: (.val (.int xs)) :: (.val (.int xb)) :: (.val (.int xt)) :: (.val (.int xm)) :: (.val (.long t19_0)) :: .second :: (.val (.long t52_0)) :: .second :: (.val (.int xs)) :: (.val (.int t70_0)) :: (.val (.long t19_0)) :: .second :: (.val (.long v83)) :: .second :: (.val (.long v95)) :: .second :: (.val (.long v107)) :: .second :: (.val (.long t52_0)) :: .second :: (.val (.long v121)) :: .second :: (.val (.long v133)) :: .second :: (.val (.long v145)) :: .second :: (.val (.ref x1)) :: (.val (.ref x2)) :: (.val (.int (0 : Int32))) :: (.val (.int (0 : Int32))) :: [])) [(.ref x2), (.ref x1)] := by
  refine own_ifYes (pc' := 378) at_371 (by decide) (by decide) (by decide) ?_
  refine own_iconst (v := 0) (pc2 := 379) at_378 rfl rfl ?_
  refine own_istore (pc2 := 381) at_379 rfl (L' := (List.toArray ((.val (.int xa)) :: (.val (.int xs)) :: (.val (.int xb)) :: (.val (.int xt)) :: (.val (.int xm)) :: (.val (.long t19_0)) :: .second :: (.val (.long t52_0)) :: .second :: (.val (.int xs)) :: (.val (.int t70_0)) :: (.val (.long t19_0)) :: .second :: (.val (.long v83)) :: .second :: (.val (.long v95)) :: .second :: (.val (.long v107)) :: .second :: (.val (.long t52_0)) :: .second :: (.val (.long v121)) :: .second :: (.val (.long v133)) :: .second :: (.val (.long v145)) :: .second :: (.val (.ref x1)) :: (.val (.ref x2)) :: (.val (.int (0 : Int32))) :: (.val (.int (0 : Int32))) :: []))) rfl ?_
  refine own_aload (pc2 := 383) at_381 rfl rfl rfl ?_
  refine own_aload (pc2 := 385) at_383 rfl rfl rfl ?_
  exact own_refl
theorem own_sz3_5 (xa : Int32) (xs : Int32) (xb : Int32) (xt : Int32) (xm : Int32) (t19_0 : Int64) (t52_0 : Int64) (t70_0 : Int32) (v83 : Int64) (v95 : Int64) (v107 : Int64) (v121 : Int64) (v133 : Int64) (v145 : Int64) (x1 : Addr) (x2 : Addr) :
    own_Go own_K0 code 388 (List.toArray ((.val (.int xa)) :: (.val (.int xs)) :: (.val (.int xb)) :: (.val (.int xt)) :: (.val (.int xm)) :: (.val (.long t19_0)) :: .second :: (.val (.long t52_0)) :: .second :: (.val (.int xs)) :: (.val (.int t70_0)) :: (.val (.long t19_0)) :: .second :: (.val (.long v83)) :: .second :: (.val (.long v95)) :: .second :: (.val (.long v107)) :: .second :: (.val (.long t52_0)) :: .second :: (.val (.long v121)) :: .second :: (.val (.long v133)) :: .second :: (.val (.long v145)) :: .second :: (.val (.ref x1)) :: (.val (.ref x2)) :: (.val (.int (0 : Int32))) :: (.val (.int (0 : Int32))) :: [])) [(.int (0 : Int32))] 397 (List.toArray ((.val (.int xa)) :: (.val (.int xs)) :: (.val (.int xb)) :: (.val (.int xt)) :: (.val (.int xm)) :: (.val (.long t19_0)) :: .second :: (.val (.long t52_0)) :: .second :: (.val (.int xs)) :: (.val (.int t70_0)) :: (.val (.long t19_0)) :: .second :: (.val (.long v83)) :: .second :: (.val (.long v95)) :: .second :: (.val (.long v107)) :: .second :: (.val (.long t52_0)) :: .second :: (.val (.long v121)) :: .second :: (.val (.long v133)) :: .second :: (.val (.long v145)) :: .second :: (.val (.ref x1)) :: (.val (.ref x2)) :: (.val (.int (0 : Int32))) :: (.val (.int (0 : Int32))) :: [])) [(.ref x1), (.ref x2)] := by
  refine own_iload (pc2 := 390) at_388 rfl rfl ?_
  refine own_icmpNo (pc2 := 393) at_390 rfl (by decide) ?_
  refine own_aload (pc2 := 395) at_393 rfl rfl rfl ?_
  refine own_aload (pc2 := 397) at_395 rfl rfl rfl ?_
  exact own_refl
theorem own_sz3_6 (xa : Int32) (xs : Int32) (xb : Int32) (xt : Int32) (xm : Int32) (t19_0 : Int64) (t52_0 : Int64) (t70_0 : Int32) (v83 : Int64) (v95 : Int64) (v107 : Int64) (v121 : Int64) (v133 : Int64) (v145 : Int64) (x1 : Addr) (x2 : Addr) :
    own_Go own_K0 code 400 (List.toArray ((.val (.int xa)) :: (.val (.int xs)) :: (.val (.int xb)) :: (.val (.int xt)) :: (.val (.int xm)) :: (.val (.long t19_0)) :: .second :: (.val (.long t52_0)) :: .second :: (.val (.int xs)) :: (.val (.int t70_0)) :: (.val (.long t19_0)) :: .second :: (.val (.long v83)) :: .second :: (.val (.long v95)) :: .second :: (.val (.long v107)) :: .second :: (.val (.long t52_0)) :: .second :: (.val (.long v121)) :: .second :: (.val (.long v133)) :: .second :: (.val (.long v145)) :: .second :: (.val (.ref x1)) :: (.val (.ref x2)) :: (.val (.int (0 : Int32))) :: (.val (.int (0 : Int32))) :: [])) [(.int (0 : Int32))] 410 (List.toArray ((.val (.int xa)) :: (.val (.int xs)) :: (.val (.int xb)) :: (.val (.int xt)) :: (.val (.int xm)) :: (.val (.long t19_0)) :: .second :: (.val (.long t52_0)) :: .second :: (.val (.int xs)) :: (.val (.int t70_0)) :: (.val (.long t19_0)) :: .second :: (.val (.long v83)) :: .second :: (.val (.long v95)) :: .second :: (.val (.long v107)) :: .second :: (.val (.long t52_0)) :: .second :: (.val (.long v121)) :: .second :: (.val (.long v133)) :: .second :: (.val (.long v145)) :: .second :: (.val (.ref x1)) :: (.val (.ref x2)) :: (.val (.int (0 : Int32))) :: (.val (.int (0 : Int32))) :: [])) [(.int (1 : Int32))] := by
  refine own_iload (pc2 := 402) at_400 rfl rfl ?_
  refine own_icmpNo (pc2 := 405) at_402 rfl (by decide) ?_
  refine own_iconst (v := 1) (pc2 := 406) at_405 rfl rfl ?_
  refine own_goto (pc' := 410) at_406 (by decide) (by decide) ?_
  exact own_refl
theorem own_sz4_0 (xa : Int32) (xs : Int32) (xb : Int32) (xt : Int32) (xm : Int32) (t19_0 : Int64) (t52_0 : Int64) (t70_0 : Int32) (v83 : Int64) (v95 : Int64) (v107 : Int64) (v121 : Int64) (v133 : Int64) (v145 : Int64) (x1 : Addr) (x2 : Addr) (v241 : Int32) (hv241 : (xm >>> ((2 : Int32) &&& 31)) = v241) (hl243 : (v241 &&& (3 : Int32)) = (0 : Int32)) :
    own_Go own_K0 code 236 (List.toArray ((.val (.int xa)) :: (.val (.int xs)) :: (.val (.int xb)) :: (.val (.int xt)) :: (.val (.int xm)) :: (.val (.long t19_0)) :: .second :: (.val (.long t52_0)) :: .second :: (.val (.int xs)) :: (.val (.int t70_0)) :: (.val (.long t19_0)) :: .second :: (.val (.long v83)) :: .second :: (.val (.long v95)) :: .second :: (.val (.long v107)) :: .second :: (.val (.long t52_0)) :: .second :: (.val (.long v121)) :: .second :: (.val (.long v133)) :: .second :: (.val (.long v145)) :: .second :: (.val (.ref x1)) :: .unset :: .unset :: .unset :: [])) [(.ref x2)] 320 (List.toArray ((.val (.int xa)) :: (.val (.int xs)) :: (.val (.int xb)) :: (.val (.int xt)) :: (.val (.int xm)) :: (.val (.long t19_0)) :: .second :: (.val (.long t52_0)) :: .second :: (.val (.int xs)) :: (.val (.int t70_0)) :: (.val (.long t19_0)) :: .second :: (.val (.long v83)) :: .second :: (.val (.long v95)) :: .second :: (.val (.long v107)) :: .second :: (.val (.long t52_0)) :: .second :: (.val (.long v121)) :: .second :: (.val (.long v133)) :: .second :: (.val (.long v145)) :: .second :: (.val (.ref x1)) :: (.val (.ref x2)) :: (.val (.int (0 : Int32))) :: .unset :: [])) [(.int (6 : Int32)), (.int t70_0), (.long t52_0), (.int xs), (.long t19_0)] := by
  refine own_astore (pc2 := 238) at_236 rfl rfl (L' := (List.toArray ((.val (.int xa)) :: (.val (.int xs)) :: (.val (.int xb)) :: (.val (.int xt)) :: (.val (.int xm)) :: (.val (.long t19_0)) :: .second :: (.val (.long t52_0)) :: .second :: (.val (.int xs)) :: (.val (.int t70_0)) :: (.val (.long t19_0)) :: .second :: (.val (.long v83)) :: .second :: (.val (.long v95)) :: .second :: (.val (.long v107)) :: .second :: (.val (.long t52_0)) :: .second :: (.val (.long v121)) :: .second :: (.val (.long v133)) :: .second :: (.val (.long v145)) :: .second :: (.val (.ref x1)) :: (.val (.ref x2)) :: .unset :: .unset :: []))) rfl ?_
  refine own_iload (pc2 := 240) at_238 rfl rfl ?_
  refine own_iconst (v := 2) (pc2 := 241) at_240 rfl rfl ?_
  refine own_ishr (pc2 := 242) at_241 rfl (v := v241) hv241 ?_
  refine own_iconst (v := 3) (pc2 := 243) at_242 rfl rfl ?_
  refine own_iand (pc2 := 244) at_243 rfl (v := (0 : Int32)) hl243 ?_
  refine own_istore (pc2 := 246) at_244 rfl (L' := (List.toArray ((.val (.int xa)) :: (.val (.int xs)) :: (.val (.int xb)) :: (.val (.int xt)) :: (.val (.int xm)) :: (.val (.long t19_0)) :: .second :: (.val (.long t52_0)) :: .second :: (.val (.int xs)) :: (.val (.int t70_0)) :: (.val (.long t19_0)) :: .second :: (.val (.long v83)) :: .second :: (.val (.long v95)) :: .second :: (.val (.long v107)) :: .second :: (.val (.long t52_0)) :: .second :: (.val (.long v121)) :: .second :: (.val (.long v133)) :: .second :: (.val (.long v145)) :: .second :: (.val (.ref x1)) :: (.val (.ref x2)) :: (.val (.int (0 : Int32))) :: .unset :: []))) rfl ?_
  refine own_iload (pc2 := 248) at_246 rfl rfl ?_
  refine own_iconst (v := 1) (pc2 := 249) at_248 rfl rfl ?_
  refine own_icmpYes (pc' := 267) at_249 (by decide) (by decide) (by decide) ?_
  refine own_iload (pc2 := 269) at_267 rfl rfl ?_
  refine own_iconst (v := 2) (pc2 := 270) at_269 rfl rfl ?_
  refine own_icmpYes (pc' := 296) at_270 (by decide) (by decide) (by decide) ?_
  refine own_iload (pc2 := 298) at_296 rfl rfl ?_
  refine own_iconst (v := 3) (pc2 := 299) at_298 rfl rfl ?_
  refine own_icmpYes (pc' := 310) at_299 (by decide) (by decide) (by decide) ?_
  refine own_lload (pc2 := 312) at_310 rfl rfl ?_
  refine own_iload (pc2 := 314) at_312 rfl rfl ?_
  refine own_lload (pc2 := 316) at_314 rfl rfl ?_
  refine own_iload (pc2 := 318) at_316 rfl rfl ?_
  refine own_bipush (v := 6) (pc2 := 320) at_318 rfl rfl ?_
  exact own_refl
theorem own_sz4_1 (xa : Int32) (xs : Int32) (xb : Int32) (xt : Int32) (xm : Int32) (t19_0 : Int64) (t52_0 : Int64) (t70_0 : Int32) (v83 : Int64) (v95 : Int64) (v107 : Int64) (v121 : Int64) (v133 : Int64) (v145 : Int64) (x1 : Addr) (x2 : Addr) :
    own_Go own_K0 code 323 (List.toArray ((.val (.int xa)) :: (.val (.int xs)) :: (.val (.int xb)) :: (.val (.int xt)) :: (.val (.int xm)) :: (.val (.long t19_0)) :: .second :: (.val (.long t52_0)) :: .second :: (.val (.int xs)) :: (.val (.int t70_0)) :: (.val (.long t19_0)) :: .second :: (.val (.long v83)) :: .second :: (.val (.long v95)) :: .second :: (.val (.long v107)) :: .second :: (.val (.long t52_0)) :: .second :: (.val (.long v121)) :: .second :: (.val (.long v133)) :: .second :: (.val (.long v145)) :: .second :: (.val (.ref x1)) :: (.val (.ref x2)) :: (.val (.int (0 : Int32))) :: .unset :: [])) [(.int (1 : Int32))] 336 (List.toArray ((.val (.int xa)) :: (.val (.int xs)) :: (.val (.int xb)) :: (.val (.int xt)) :: (.val (.int xm)) :: (.val (.long t19_0)) :: .second :: (.val (.long t52_0)) :: .second :: (.val (.int xs)) :: (.val (.int t70_0)) :: (.val (.long t19_0)) :: .second :: (.val (.long v83)) :: .second :: (.val (.long v95)) :: .second :: (.val (.long v107)) :: .second :: (.val (.long t52_0)) :: .second :: (.val (.long v121)) :: .second :: (.val (.long v133)) :: .second :: (.val (.long v145)) :: .second :: (.val (.ref x1)) :: (.val (.ref x2)) :: (.val (.int (0 : Int32))) :: .unset :: [])) [(.int (7 : Int32)), (.int t70_0), (.long v121), (.int xs), (.long v83)] := by
  refine own_ifNo (pc2 := 326) at_323 rfl (by decide) ?_
  refine own_lload (pc2 := 328) at_326 rfl rfl ?_
  refine own_iload (pc2 := 330) at_328 rfl rfl ?_
  refine own_lload (pc2 := 332) at_330 rfl rfl ?_
  refine own_iload (pc2 := 334) at_332 rfl rfl ?_
  refine own_bipush (v := 7) (pc2 := 336) at_334 rfl rfl ?_
  exact own_refl
theorem own_sz4_2 (xa : Int32) (xs : Int32) (xb : Int32) (xt : Int32) (xm : Int32) (t19_0 : Int64) (t52_0 : Int64) (t70_0 : Int32) (v83 : Int64) (v95 : Int64) (v107 : Int64) (v121 : Int64) (v133 : Int64) (v145 : Int64) (x1 : Addr) (x2 : Addr) :
    own_Go own_K0 code 339 (List.toArray ((.val (.int xa)) :: (.val (.int xs)) :: (.val (.int xb)) :: (.val (.int xt)) :: (.val (.int xm)) :: (.val (.long t19_0)) :: .second :: (.val (.long t52_0)) :: .second :: (.val (.int xs)) :: (.val (.int t70_0)) :: (.val (.long t19_0)) :: .second :: (.val (.long v83)) :: .second :: (.val (.long v95)) :: .second :: (.val (.long v107)) :: .second :: (.val (.long t52_0)) :: .second :: (.val (.long v121)) :: .second :: (.val (.long v133)) :: .second :: (.val (.long v145)) :: .second :: (.val (.ref x1)) :: (.val (.ref x2)) :: (.val (.int (0 : Int32))) :: .unset :: [])) [(.int (1 : Int32))] 352 (List.toArray ((.val (.int xa)) :: (.val (.int xs)) :: (.val (.int xb)) :: (.val (.int xt)) :: (.val (.int xm)) :: (.val (.long t19_0)) :: .second :: (.val (.long t52_0)) :: .second :: (.val (.int xs)) :: (.val (.int t70_0)) :: (.val (.long t19_0)) :: .second :: (.val (.long v83)) :: .second :: (.val (.long v95)) :: .second :: (.val (.long v107)) :: .second :: (.val (.long t52_0)) :: .second :: (.val (.long v121)) :: .second :: (.val (.long v133)) :: .second :: (.val (.long v145)) :: .second :: (.val (.ref x1)) :: (.val (.ref x2)) :: (.val (.int (0 : Int32))) :: .unset :: [])) [(.int (8 : Int32)), (.int t70_0), (.long v133), (.int xs), (.long v95)] := by
  refine own_ifNo (pc2 := 342) at_339 rfl (by decide) ?_
  refine own_lload (pc2 := 344) at_342 rfl rfl ?_
  refine own_iload (pc2 := 346) at_344 rfl rfl ?_
  refine own_lload (pc2 := 348) at_346 rfl rfl ?_
  refine own_iload (pc2 := 350) at_348 rfl rfl ?_
  refine own_bipush (v := 8) (pc2 := 352) at_350 rfl rfl ?_
  exact own_refl
theorem own_sz4_3 (xa : Int32) (xs : Int32) (xb : Int32) (xt : Int32) (xm : Int32) (t19_0 : Int64) (t52_0 : Int64) (t70_0 : Int32) (v83 : Int64) (v95 : Int64) (v107 : Int64) (v121 : Int64) (v133 : Int64) (v145 : Int64) (x1 : Addr) (x2 : Addr) :
    own_Go own_K0 code 355 (List.toArray ((.val (.int xa)) :: (.val (.int xs)) :: (.val (.int xb)) :: (.val (.int xt)) :: (.val (.int xm)) :: (.val (.long t19_0)) :: .second :: (.val (.long t52_0)) :: .second :: (.val (.int xs)) :: (.val (.int t70_0)) :: (.val (.long t19_0)) :: .second :: (.val (.long v83)) :: .second :: (.val (.long v95)) :: .second :: (.val (.long v107)) :: .second :: (.val (.long t52_0)) :: .second :: (.val (.long v121)) :: .second :: (.val (.long v133)) :: .second :: (.val (.long v145)) :: .second :: (.val (.ref x1)) :: (.val (.ref x2)) :: (.val (.int (0 : Int32))) :: .unset :: [])) [(.int (1 : Int32))] 368 (List.toArray ((.val (.int xa)) :: (.val (.int xs)) :: (.val (.int xb)) :: (.val (.int xt)) :: (.val (.int xm)) :: (.val (.long t19_0)) :: .second :: (.val (.long t52_0)) :: .second :: (.val (.int xs)) :: (.val (.int t70_0)) :: (.val (.long t19_0)) :: .second :: (.val (.long v83)) :: .second :: (.val (.long v95)) :: .second :: (.val (.long v107)) :: .second :: (.val (.long t52_0)) :: .second :: (.val (.long v121)) :: .second :: (.val (.long v133)) :: .second :: (.val (.long v145)) :: .second :: (.val (.ref x1)) :: (.val (.ref x2)) :: (.val (.int (0 : Int32))) :: .unset :: [])) [(.int (9 : Int32)), (.int t70_0), (.long v145), (.int xs), (.long v107)] := by
  refine own_ifNo (pc2 := 358) at_355 rfl (by decide) ?_
  refine own_lload (pc2 := 360) at_358 rfl rfl ?_
  refine own_iload (pc2 := 362) at_360 rfl rfl ?_
  refine own_lload (pc2 := 364) at_362 rfl rfl ?_
  refine own_iload (pc2 := 366) at_364 rfl rfl ?_
  refine own_bipush (v := 9) (pc2 := 368) at_366 rfl rfl ?_
  exact own_refl
theorem own_sz4_4 (xa : Int32) (xs : Int32) (xb : Int32) (xt : Int32) (xm : Int32) (t19_0 : Int64) (t52_0 : Int64) (t70_0 : Int32) (v83 : Int64) (v95 : Int64) (v107 : Int64) (v121 : Int64) (v133 : Int64) (v145 : Int64) (x1 : Addr) (x2 : Addr) :
    own_Go own_K0 code 371 (List.toArray ((.val (.int xa)) :: (.val (.int xs)) :: (.val (.int xb)) :: (.val (.int xt)) :: (.val (.int xm)) :: (.val (.long t19_0)) :: .second :: (.val (.long t52_0)) :: .second :: (.val (.int xs)) :: (.val (.int t70_0)) :: (.val (.long t19_0)) :: .second :: (.val (.long v83)) :: .second :: (.val (.long v95)) :: .second :: (.val (.long v107)) :: .second :: (.val (.long t52_0)) :: .second :: (.val (.long v121)) :: .second :: (.val (.long v133)) :: .second :: (.val (.long v145)) :: .second :: (.val (.ref x1)) :: (.val (.ref x2)) :: (.val (.int (0 : Int32))) :: .unset :: [])) [(.int (1 : Int32))] 385 (List.toArray ((.val (.int xa)) :: (.val (.int xs)) :: (.val (.int xb)) :: (.val (.int xt)) :: (.val (.int xm)) :: (.val (.long t19_0)) :: .second :: (.val (.long t52_0)) :: .second :: (.val (.int xs)) :: (.val (.int t70_0)) :: (.val (.long t19_0)) :: .second :: (.val (.long v83)) :: .second :: (.val (.long v95)) :: .second :: (.val (.long v107)) :: .second :: (.val (.long t52_0)) :: .second :: (.val (.long v121)) :: .second :: (.val (.long v133)) :: .second :: (.val (.long v145)) :: .second :: (.val (.ref x1)) :: (.val (.ref x2)) :: (.val (.int (0 : Int32))) :: (.val (.int (1 : Int32))) :: [])) [(.ref x2), (.ref x1)] := by
  refine own_ifNo (pc2 := 374) at_371 rfl (by decide) ?_
  refine own_iconst (v := 1) (pc2 := 375) at_374 rfl rfl ?_
  refine own_goto (pc' := 379) at_375 (by decide) (by decide) ?_
  refine own_istore (pc2 := 381) at_379 rfl (L' := (List.toArray ((.val (.int xa)) :: (.val (.int xs)) :: (.val (.int xb)) :: (.val (.int xt)) :: (.val (.int xm)) :: (.val (.long t19_0)) :: .second :: (.val (.long t52_0)) :: .second :: (.val (.int xs)) :: (.val (.int t70_0)) :: (.val (.long t19_0)) :: .second :: (.val (.long v83)) :: .second :: (.val (.long v95)) :: .second :: (.val (.long v107)) :: .second :: (.val (.long t52_0)) :: .second :: (.val (.long v121)) :: .second :: (.val (.long v133)) :: .second :: (.val (.long v145)) :: .second :: (.val (.ref x1)) :: (.val (.ref x2)) :: (.val (.int (0 : Int32))) :: (.val (.int (1 : Int32))) :: []))) rfl ?_
  refine own_aload (pc2 := 383) at_381 rfl rfl rfl ?_
  refine own_aload (pc2 := 385) at_383 rfl rfl rfl ?_
  exact own_refl
theorem own_sz4_5 (xa : Int32) (xs : Int32) (xb : Int32) (xt : Int32) (xm : Int32) (t19_0 : Int64) (t52_0 : Int64) (t70_0 : Int32) (v83 : Int64) (v95 : Int64) (v107 : Int64) (v121 : Int64) (v133 : Int64) (v145 : Int64) (x1 : Addr) (x2 : Addr) :
    own_Go own_K0 code 388 (List.toArray ((.val (.int xa)) :: (.val (.int xs)) :: (.val (.int xb)) :: (.val (.int xt)) :: (.val (.int xm)) :: (.val (.long t19_0)) :: .second :: (.val (.long t52_0)) :: .second :: (.val (.int xs)) :: (.val (.int t70_0)) :: (.val (.long t19_0)) :: .second :: (.val (.long v83)) :: .second :: (.val (.long v95)) :: .second :: (.val (.long v107)) :: .second :: (.val (.long t52_0)) :: .second :: (.val (.long v121)) :: .second :: (.val (.long v133)) :: .second :: (.val (.long v145)) :: .second :: (.val (.ref x1)) :: (.val (.ref x2)) :: (.val (.int (0 : Int32))) :: (.val (.int (1 : Int32))) :: [])) [(.int (1 : Int32))] 397 (List.toArray ((.val (.int xa)) :: (.val (.int xs)) :: (.val (.int xb)) :: (.val (.int xt)) :: (.val (.int xm)) :: (.val (.long t19_0)) :: .second :: (.val (.long t52_0)) :: .second :: (.val (.int xs)) :: (.val (.int t70_0)) :: (.val (.long t19_0)) :: .second :: (.val (.long v83)) :: .second :: (.val (.long v95)) :: .second :: (.val (.long v107)) :: .second :: (.val (.long t52_0)) :: .second :: (.val (.long v121)) :: .second :: (.val (.long v133)) :: .second :: (.val (.long v145)) :: .second :: (.val (.ref x1)) :: (.val (.ref x2)) :: (.val (.int (0 : Int32))) :: (.val (.int (1 : Int32))) :: [])) [(.ref x1), (.ref x2)] := by
  refine own_iload (pc2 := 390) at_388 rfl rfl ?_
  refine own_icmpNo (pc2 := 393) at_390 rfl (by decide) ?_
  refine own_aload (pc2 := 395) at_393 rfl rfl rfl ?_
  refine own_aload (pc2 := 397) at_395 rfl rfl rfl ?_
  exact own_refl
theorem own_sz4_6 (xa : Int32) (xs : Int32) (xb : Int32) (xt : Int32) (xm : Int32) (t19_0 : Int64) (t52_0 : Int64) (t70_0 : Int32) (v83 : Int64) (v95 : Int64) (v107 : Int64) (v121 : Int64) (v133 : Int64) (v145 : Int64) (x1 : Addr) (x2 : Addr) :
    own_Go own_K0 code 400 (List.toArray ((.val (.int xa)) :: (.val (.int xs)) :: (.val (.int xb)) :: (.val (.int xt)) :: (.val (.int xm)) :: (.val (.long t19_0)) :: .second :: (.val (.long t52_0)) :: .second :: (.val (.int xs)) :: (.val (.int t70_0)) :: (.val (.long t19_0)) :: .second :: (.val (.long v83)) :: .second :: (.val (.long v95)) :: .second :: (.val (.long v107)) :: .second :: (.val (.long t52_0)) :: .second :: (.val (.long v121)) :: .second :: (.val (.long v133)) :: .second :: (.val (.long v145)) :: .second :: (.val (.ref x1)) :: (.val (.ref x2)) :: (.val (.int (0 : Int32))) :: (.val (.int (1 : Int32))) :: [])) [(.int (1 : Int32))] 410 (List.toArray ((.val (.int xa)) :: (.val (.int xs)) :: (.val (.int xb)) :: (.val (.int xt)) :: (.val (.int xm)) :: (.val (.long t19_0)) :: .second :: (.val (.long t52_0)) :: .second :: (.val (.int xs)) :: (.val (.int t70_0)) :: (.val (.long t19_0)) :: .second :: (.val (.long v83)) :: .second :: (.val (.long v95)) :: .second :: (.val (.long v107)) :: .second :: (.val (.long t52_0)) :: .second :: (.val (.long v121)) :: .second :: (.val (.long v133)) :: .second :: (.val (.long v145)) :: .second :: (.val (.ref x1)) :: (.val (.ref x2)) :: (.val (.int (0 : Int32))) :: (.val (.int (1 : Int32))) :: [])) [(.int (1 : Int32))] := by
  refine own_iload (pc2 := 402) at_400 rfl rfl ?_
  refine own_icmpNo (pc2 := 405) at_402 rfl (by decide) ?_
  refine own_iconst (v := 1) (pc2 := 406) at_405 rfl rfl ?_
  refine own_goto (pc' := 410) at_406 (by decide) (by decide) ?_
  exact own_refl
theorem own_sk1_0 (xa : Int32) (xs : Int32) (xb : Int32) (xt : Int32) (xm : Int32) (t19_0 : Int64) (t52_0 : Int64) (t70_0 : Int32) (v83 : Int64) (v95 : Int64) (v107 : Int64) (v121 : Int64) (v133 : Int64) (v145 : Int64) (x1 : Addr) (x2 : Addr) (v241 : Int32) (hv241 : (xm >>> ((2 : Int32) &&& 31)) = v241) (hl243 : (v241 &&& (3 : Int32)) = (1 : Int32)) :
    own_Go own_K0 code 236 (List.toArray ((.val (.int xa)) :: (.val (.int xs)) :: (.val (.int xb)) :: (.val (.int xt)) :: (.val (.int xm)) :: (.val (.long t19_0)) :: .second :: (.val (.long t52_0)) :: .second :: (.val (.int xs)) :: (.val (.int t70_0)) :: (.val (.long t19_0)) :: .second :: (.val (.long v83)) :: .second :: (.val (.long v95)) :: .second :: (.val (.long v107)) :: .second :: (.val (.long t52_0)) :: .second :: (.val (.long v121)) :: .second :: (.val (.long v133)) :: .second :: (.val (.long v145)) :: .second :: (.val (.ref x1)) :: .unset :: .unset :: .unset :: [])) [(.ref x2)] 255 (List.toArray ((.val (.int xa)) :: (.val (.int xs)) :: (.val (.int xb)) :: (.val (.int xt)) :: (.val (.int xm)) :: (.val (.long t19_0)) :: .second :: (.val (.long t52_0)) :: .second :: (.val (.int xs)) :: (.val (.int t70_0)) :: (.val (.long t19_0)) :: .second :: (.val (.long v83)) :: .second :: (.val (.long v95)) :: .second :: (.val (.long v107)) :: .second :: (.val (.long t52_0)) :: .second :: (.val (.long v121)) :: .second :: (.val (.long v133)) :: .second :: (.val (.long v145)) :: .second :: (.val (.ref x1)) :: (.val (.ref x2)) :: (.val (.int (1 : Int32))) :: .unset :: [])) [.null, (.ref x1)] := by
  refine own_astore (pc2 := 238) at_236 rfl rfl (L' := (List.toArray ((.val (.int xa)) :: (.val (.int xs)) :: (.val (.int xb)) :: (.val (.int xt)) :: (.val (.int xm)) :: (.val (.long t19_0)) :: .second :: (.val (.long t52_0)) :: .second :: (.val (.int xs)) :: (.val (.int t70_0)) :: (.val (.long t19_0)) :: .second :: (.val (.long v83)) :: .second :: (.val (.long v95)) :: .second :: (.val (.long v107)) :: .second :: (.val (.long t52_0)) :: .second :: (.val (.long v121)) :: .second :: (.val (.long v133)) :: .second :: (.val (.long v145)) :: .second :: (.val (.ref x1)) :: (.val (.ref x2)) :: .unset :: .unset :: []))) rfl ?_
  refine own_iload (pc2 := 240) at_238 rfl rfl ?_
  refine own_iconst (v := 2) (pc2 := 241) at_240 rfl rfl ?_
  refine own_ishr (pc2 := 242) at_241 rfl (v := v241) hv241 ?_
  refine own_iconst (v := 3) (pc2 := 243) at_242 rfl rfl ?_
  refine own_iand (pc2 := 244) at_243 rfl (v := (1 : Int32)) hl243 ?_
  refine own_istore (pc2 := 246) at_244 rfl (L' := (List.toArray ((.val (.int xa)) :: (.val (.int xs)) :: (.val (.int xb)) :: (.val (.int xt)) :: (.val (.int xm)) :: (.val (.long t19_0)) :: .second :: (.val (.long t52_0)) :: .second :: (.val (.int xs)) :: (.val (.int t70_0)) :: (.val (.long t19_0)) :: .second :: (.val (.long v83)) :: .second :: (.val (.long v95)) :: .second :: (.val (.long v107)) :: .second :: (.val (.long t52_0)) :: .second :: (.val (.long v121)) :: .second :: (.val (.long v133)) :: .second :: (.val (.long v145)) :: .second :: (.val (.ref x1)) :: (.val (.ref x2)) :: (.val (.int (1 : Int32))) :: .unset :: []))) rfl ?_
  refine own_iload (pc2 := 248) at_246 rfl rfl ?_
  refine own_iconst (v := 1) (pc2 := 249) at_248 rfl rfl ?_
  refine own_icmpNo (pc2 := 252) at_249 rfl (by decide) ?_
  refine own_aload (pc2 := 254) at_252 rfl rfl rfl ?_
  refine own_aconstNull (pc2 := 255) at_254 rfl ?_
  exact own_refl
theorem own_sk1_1 (xa : Int32) (xs : Int32) (xb : Int32) (xt : Int32) (xm : Int32) (t19_0 : Int64) (t52_0 : Int64) (t70_0 : Int32) (v83 : Int64) (v95 : Int64) (v107 : Int64) (v121 : Int64) (v133 : Int64) (v145 : Int64) (x1 : Addr) (x2 : Addr) :
    own_Go own_K0 code 258 (List.toArray ((.val (.int xa)) :: (.val (.int xs)) :: (.val (.int xb)) :: (.val (.int xt)) :: (.val (.int xm)) :: (.val (.long t19_0)) :: .second :: (.val (.long t52_0)) :: .second :: (.val (.int xs)) :: (.val (.int t70_0)) :: (.val (.long t19_0)) :: .second :: (.val (.long v83)) :: .second :: (.val (.long v95)) :: .second :: (.val (.long v107)) :: .second :: (.val (.long t52_0)) :: .second :: (.val (.long v121)) :: .second :: (.val (.long v133)) :: .second :: (.val (.long v145)) :: .second :: (.val (.ref x1)) :: (.val (.ref x2)) :: (.val (.int (1 : Int32))) :: .unset :: [])) [(.int (0 : Int32))] 266 (List.toArray ((.val (.int xa)) :: (.val (.int xs)) :: (.val (.int xb)) :: (.val (.int xt)) :: (.val (.int xm)) :: (.val (.long t19_0)) :: .second :: (.val (.long t52_0)) :: .second :: (.val (.int xs)) :: (.val (.int t70_0)) :: (.val (.long t19_0)) :: .second :: (.val (.long v83)) :: .second :: (.val (.long v95)) :: .second :: (.val (.long v107)) :: .second :: (.val (.long t52_0)) :: .second :: (.val (.long v121)) :: .second :: (.val (.long v133)) :: .second :: (.val (.long v145)) :: .second :: (.val (.ref x1)) :: (.val (.ref x2)) :: (.val (.int (1 : Int32))) :: .unset :: [])) [(.int (1 : Int32))] := by
  refine own_ifNo (pc2 := 261) at_258 rfl (by decide) ?_
  refine own_iconst (v := 1) (pc2 := 262) at_261 rfl rfl ?_
  refine own_goto (pc' := 266) at_262 (by decide) (by decide) ?_
  exact own_refl
theorem own_sk2_0 (xa : Int32) (xs : Int32) (xb : Int32) (xt : Int32) (xm : Int32) (t19_0 : Int64) (t52_0 : Int64) (t70_0 : Int32) (v83 : Int64) (v95 : Int64) (v107 : Int64) (v121 : Int64) (v133 : Int64) (v145 : Int64) (x1 : Addr) (x2 : Addr) (v241 : Int32) (hv241 : (xm >>> ((2 : Int32) &&& 31)) = v241) (hl243 : (v241 &&& (3 : Int32)) = (2 : Int32)) :
    own_Go own_K0 code 236 (List.toArray ((.val (.int xa)) :: (.val (.int xs)) :: (.val (.int xb)) :: (.val (.int xt)) :: (.val (.int xm)) :: (.val (.long t19_0)) :: .second :: (.val (.long t52_0)) :: .second :: (.val (.int xs)) :: (.val (.int t70_0)) :: (.val (.long t19_0)) :: .second :: (.val (.long v83)) :: .second :: (.val (.long v95)) :: .second :: (.val (.long v107)) :: .second :: (.val (.long t52_0)) :: .second :: (.val (.long v121)) :: .second :: (.val (.long v133)) :: .second :: (.val (.long v145)) :: .second :: (.val (.ref x1)) :: .unset :: .unset :: .unset :: [])) [(.ref x2)] 275 (List.toArray ((.val (.int xa)) :: (.val (.int xs)) :: (.val (.int xb)) :: (.val (.int xt)) :: (.val (.int xm)) :: (.val (.long t19_0)) :: .second :: (.val (.long t52_0)) :: .second :: (.val (.int xs)) :: (.val (.int t70_0)) :: (.val (.long t19_0)) :: .second :: (.val (.long v83)) :: .second :: (.val (.long v95)) :: .second :: (.val (.long v107)) :: .second :: (.val (.long t52_0)) :: .second :: (.val (.long v121)) :: .second :: (.val (.long v133)) :: .second :: (.val (.long v145)) :: .second :: (.val (.ref x1)) :: (.val (.ref x2)) :: (.val (.int (2 : Int32))) :: .unset :: [])) [(.int (120 : Int32))] := by
  refine own_astore (pc2 := 238) at_236 rfl rfl (L' := (List.toArray ((.val (.int xa)) :: (.val (.int xs)) :: (.val (.int xb)) :: (.val (.int xt)) :: (.val (.int xm)) :: (.val (.long t19_0)) :: .second :: (.val (.long t52_0)) :: .second :: (.val (.int xs)) :: (.val (.int t70_0)) :: (.val (.long t19_0)) :: .second :: (.val (.long v83)) :: .second :: (.val (.long v95)) :: .second :: (.val (.long v107)) :: .second :: (.val (.long t52_0)) :: .second :: (.val (.long v121)) :: .second :: (.val (.long v133)) :: .second :: (.val (.long v145)) :: .second :: (.val (.ref x1)) :: (.val (.ref x2)) :: .unset :: .unset :: []))) rfl ?_
  refine own_iload (pc2 := 240) at_238 rfl rfl ?_
  refine own_iconst (v := 2) (pc2 := 241) at_240 rfl rfl ?_
  refine own_ishr (pc2 := 242) at_241 rfl (v := v241) hv241 ?_
  refine own_iconst (v := 3) (pc2 := 243) at_242 rfl rfl ?_
  refine own_iand (pc2 := 244) at_243 rfl (v := (2 : Int32)) hl243 ?_
  refine own_istore (pc2 := 246) at_244 rfl (L' := (List.toArray ((.val (.int xa)) :: (.val (.int xs)) :: (.val (.int xb)) :: (.val (.int xt)) :: (.val (.int xm)) :: (.val (.long t19_0)) :: .second :: (.val (.long t52_0)) :: .second :: (.val (.int xs)) :: (.val (.int t70_0)) :: (.val (.long t19_0)) :: .second :: (.val (.long v83)) :: .second :: (.val (.long v95)) :: .second :: (.val (.long v107)) :: .second :: (.val (.long t52_0)) :: .second :: (.val (.long v121)) :: .second :: (.val (.long v133)) :: .second :: (.val (.long v145)) :: .second :: (.val (.ref x1)) :: (.val (.ref x2)) :: (.val (.int (2 : Int32))) :: .unset :: []))) rfl ?_
  refine own_iload (pc2 := 248) at_246 rfl rfl ?_
  refine own_iconst (v := 1) (pc2 := 249) at_248 rfl rfl ?_
  refine own_icmpYes (pc' := 267) at_249 (by decide) (by decide) (by decide) ?_
  refine own_iload (pc2 := 269) at_267 rfl rfl ?_
  refine own_iconst (v := 2) (pc2 := 270) at_269 rfl rfl ?_
  refine own_icmpNo (pc2 := 273) at_270 rfl (by decide) ?_
  refine own_bipush (v := 120) (pc2 := 275) at_273 rfl rfl ?_
  exact own_refl
theorem own_sk2_1 (xa : Int32) (xs : Int32) (xb : Int32) (xt : Int32) (xm : Int32) (t19_0 : Int64) (t52_0 : Int64) (t70_0 : Int32) (v83 : Int64) (v95 : Int64) (v107 : Int64) (v121 : Int64) (v133 : Int64) (v145 : Int64) (x1 : Addr) (x2 : Addr) (sx : Addr) :
    own_Go own_K0 code 278 (List.toArray ((.val (.int xa)) :: (.val (.int xs)) :: (.val (.int xb)) :: (.val (.int xt)) :: (.val (.int xm)) :: (.val (.long t19_0)) :: .second :: (.val (.long t52_0)) :: .second :: (.val (.int xs)) :: (.val (.int t70_0)) :: (.val (.long t19_0)) :: .second :: (.val (.long v83)) :: .second :: (.val (.long v95)) :: .second :: (.val (.long v107)) :: .second :: (.val (.long t52_0)) :: .second :: (.val (.long v121)) :: .second :: (.val (.long v133)) :: .second :: (.val (.long v145)) :: .second :: (.val (.ref x1)) :: (.val (.ref x2)) :: (.val (.int (2 : Int32))) :: .unset :: [])) [(.ref sx)] 284 (List.toArray ((.val (.int xa)) :: (.val (.int xs)) :: (.val (.int xb)) :: (.val (.int xt)) :: (.val (.int xm)) :: (.val (.long t19_0)) :: .second :: (.val (.long t52_0)) :: .second :: (.val (.int xs)) :: (.val (.int t70_0)) :: (.val (.long t19_0)) :: .second :: (.val (.long v83)) :: .second :: (.val (.long v95)) :: .second :: (.val (.long v107)) :: .second :: (.val (.long t52_0)) :: .second :: (.val (.long v121)) :: .second :: (.val (.long v133)) :: .second :: (.val (.long v145)) :: .second :: (.val (.ref x1)) :: (.val (.ref x2)) :: (.val (.int (2 : Int32))) :: (.val (.ref sx)) :: [])) [(.ref sx), (.ref x1)] := by
  refine own_astore (pc2 := 280) at_278 rfl rfl (L' := (List.toArray ((.val (.int xa)) :: (.val (.int xs)) :: (.val (.int xb)) :: (.val (.int xt)) :: (.val (.int xm)) :: (.val (.long t19_0)) :: .second :: (.val (.long t52_0)) :: .second :: (.val (.int xs)) :: (.val (.int t70_0)) :: (.val (.long t19_0)) :: .second :: (.val (.long v83)) :: .second :: (.val (.long v95)) :: .second :: (.val (.long v107)) :: .second :: (.val (.long t52_0)) :: .second :: (.val (.long v121)) :: .second :: (.val (.long v133)) :: .second :: (.val (.long v145)) :: .second :: (.val (.ref x1)) :: (.val (.ref x2)) :: (.val (.int (2 : Int32))) :: (.val (.ref sx)) :: []))) rfl ?_
  refine own_aload (pc2 := 282) at_280 rfl rfl rfl ?_
  refine own_aload (pc2 := 284) at_282 rfl rfl rfl ?_
  exact own_refl
theorem own_sk2_2 (xa : Int32) (xs : Int32) (xb : Int32) (xt : Int32) (xm : Int32) (t19_0 : Int64) (t52_0 : Int64) (t70_0 : Int32) (v83 : Int64) (v95 : Int64) (v107 : Int64) (v121 : Int64) (v133 : Int64) (v145 : Int64) (x1 : Addr) (x2 : Addr) (sx : Addr) :
    own_Go own_K0 code 287 (List.toArray ((.val (.int xa)) :: (.val (.int xs)) :: (.val (.int xb)) :: (.val (.int xt)) :: (.val (.int xm)) :: (.val (.long t19_0)) :: .second :: (.val (.long t52_0)) :: .second :: (.val (.int xs)) :: (.val (.int t70_0)) :: (.val (.long t19_0)) :: .second :: (.val (.long v83)) :: .second :: (.val (.long v95)) :: .second :: (.val (.long v107)) :: .second :: (.val (.long t52_0)) :: .second :: (.val (.long v121)) :: .second :: (.val (.long v133)) :: .second :: (.val (.long v145)) :: .second :: (.val (.ref x1)) :: (.val (.ref x2)) :: (.val (.int (2 : Int32))) :: (.val (.ref sx)) :: [])) [(.int (0 : Int32))] 295 (List.toArray ((.val (.int xa)) :: (.val (.int xs)) :: (.val (.int xb)) :: (.val (.int xt)) :: (.val (.int xm)) :: (.val (.long t19_0)) :: .second :: (.val (.long t52_0)) :: .second :: (.val (.int xs)) :: (.val (.int t70_0)) :: (.val (.long t19_0)) :: .second :: (.val (.long v83)) :: .second :: (.val (.long v95)) :: .second :: (.val (.long v107)) :: .second :: (.val (.long t52_0)) :: .second :: (.val (.long v121)) :: .second :: (.val (.long v133)) :: .second :: (.val (.long v145)) :: .second :: (.val (.ref x1)) :: (.val (.ref x2)) :: (.val (.int (2 : Int32))) :: (.val (.ref sx)) :: [])) [(.int (1 : Int32))] := by
  refine own_ifNo (pc2 := 290) at_287 rfl (by decide) ?_
  refine own_iconst (v := 1) (pc2 := 291) at_290 rfl rfl ?_
  refine own_goto (pc' := 295) at_291 (by decide) (by decide) ?_
  exact own_refl
theorem own_sk3_0 (xa : Int32) (xs : Int32) (xb : Int32) (xt : Int32) (xm : Int32) (t19_0 : Int64) (t52_0 : Int64) (t70_0 : Int32) (v83 : Int64) (v95 : Int64) (v107 : Int64) (v121 : Int64) (v133 : Int64) (v145 : Int64) (x1 : Addr) (x2 : Addr) (v241 : Int32) (hv241 : (xm >>> ((2 : Int32) &&& 31)) = v241) (hl243 : (v241 &&& (3 : Int32)) = (3 : Int32)) :
    own_Go own_K0 code 236 (List.toArray ((.val (.int xa)) :: (.val (.int xs)) :: (.val (.int xb)) :: (.val (.int xt)) :: (.val (.int xm)) :: (.val (.long t19_0)) :: .second :: (.val (.long t52_0)) :: .second :: (.val (.int xs)) :: (.val (.int t70_0)) :: (.val (.long t19_0)) :: .second :: (.val (.long v83)) :: .second :: (.val (.long v95)) :: .second :: (.val (.long v107)) :: .second :: (.val (.long t52_0)) :: .second :: (.val (.long v121)) :: .second :: (.val (.long v133)) :: .second :: (.val (.long v145)) :: .second :: (.val (.ref x1)) :: .unset :: .unset :: .unset :: [])) [(.ref x2)] 306 (List.toArray ((.val (.int xa)) :: (.val (.int xs)) :: (.val (.int xb)) :: (.val (.int xt)) :: (.val (.int xm)) :: (.val (.long t19_0)) :: .second :: (.val (.long t52_0)) :: .second :: (.val (.int xs)) :: (.val (.int t70_0)) :: (.val (.long t19_0)) :: .second :: (.val (.long v83)) :: .second :: (.val (.long v95)) :: .second :: (.val (.long v107)) :: .second :: (.val (.long t52_0)) :: .second :: (.val (.long v121)) :: .second :: (.val (.long v133)) :: .second :: (.val (.long v145)) :: .second :: (.val (.ref x1)) :: (.val (.ref x2)) :: (.val (.int (3 : Int32))) :: .unset :: [])) [(.ref x1), (.ref x1)] := by
  refine own_astore (pc2 := 238) at_236 rfl rfl (L' := (List.toArray ((.val (.int xa)) :: (.val (.int xs)) :: (.val (.int xb)) :: (.val (.int xt)) :: (.val (.int xm)) :: (.val (.long t19_0)) :: .second :: (.val (.long t52_0)) :: .second :: (.val (.int xs)) :: (.val (.int t70_0)) :: (.val (.long t19_0)) :: .second :: (.val (.long v83)) :: .second :: (.val (.long v95)) :: .second :: (.val (.long v107)) :: .second :: (.val (.long t52_0)) :: .second :: (.val (.long v121)) :: .second :: (.val (.long v133)) :: .second :: (.val (.long v145)) :: .second :: (.val (.ref x1)) :: (.val (.ref x2)) :: .unset :: .unset :: []))) rfl ?_
  refine own_iload (pc2 := 240) at_238 rfl rfl ?_
  refine own_iconst (v := 2) (pc2 := 241) at_240 rfl rfl ?_
  refine own_ishr (pc2 := 242) at_241 rfl (v := v241) hv241 ?_
  refine own_iconst (v := 3) (pc2 := 243) at_242 rfl rfl ?_
  refine own_iand (pc2 := 244) at_243 rfl (v := (3 : Int32)) hl243 ?_
  refine own_istore (pc2 := 246) at_244 rfl (L' := (List.toArray ((.val (.int xa)) :: (.val (.int xs)) :: (.val (.int xb)) :: (.val (.int xt)) :: (.val (.int xm)) :: (.val (.long t19_0)) :: .second :: (.val (.long t52_0)) :: .second :: (.val (.int xs)) :: (.val (.int t70_0)) :: (.val (.long t19_0)) :: .second :: (.val (.long v83)) :: .second :: (.val (.long v95)) :: .second :: (.val (.long v107)) :: .second :: (.val (.long t52_0)) :: .second :: (.val (.long v121)) :: .second :: (.val (.long v133)) :: .second :: (.val (.long v145)) :: .second :: (.val (.ref x1)) :: (.val (.ref x2)) :: (.val (.int (3 : Int32))) :: .unset :: []))) rfl ?_
  refine own_iload (pc2 := 248) at_246 rfl rfl ?_
  refine own_iconst (v := 1) (pc2 := 249) at_248 rfl rfl ?_
  refine own_icmpYes (pc' := 267) at_249 (by decide) (by decide) (by decide) ?_
  refine own_iload (pc2 := 269) at_267 rfl rfl ?_
  refine own_iconst (v := 2) (pc2 := 270) at_269 rfl rfl ?_
  refine own_icmpYes (pc' := 296) at_270 (by decide) (by decide) (by decide) ?_
  refine own_iload (pc2 := 298) at_296 rfl rfl ?_
  refine own_iconst (v := 3) (pc2 := 299) at_298 rfl rfl ?_
  refine own_icmpNo (pc2 := 302) at_299 rfl (by decide) ?_
  refine own_aload (pc2 := 304) at_302 rfl rfl rfl ?_
  refine own_aload (pc2 := 306) at_304 rfl rfl rfl ?_
  exact own_refl
set_option maxRecDepth 65536 in
set_option maxHeartbeats 40000000 in
theorem own_law (l : Launch) (Z : State) (a0 : Array Value) (hb0 : own_Base) (hw : ∀ d ∈ tables_1, d.before a0 Z = true) (xa : Int32) (xs : Int32) (xb : Int32) (xt : Int32) (xm : Int32) (gs : Int32) (SG : Sta Z hb0.b "java/lang/String" "COMPACT_STRINGS" "Z" (.int gs)) (gz : ¬ gs = (0 : Int32)) :
    own_Met l Z a0 hb0 x code maxLocals ret tables_1 room_1 #[(.int xa), (.int xs), (.int xb), (.int xt), (.int xm)] [] (fun v _ => v = some (.int 1)) := by
  refine own_met_of (L0 := (List.toArray ((.val (.int xa)) :: (.val (.int xs)) :: (.val (.int xb)) :: (.val (.int xt)) :: (.val (.int xm)) :: .unset :: .unset :: .unset :: .unset :: .unset :: .unset :: .unset :: .unset :: .unset :: .unset :: .unset :: .unset :: .unset :: .unset :: .unset :: .unset :: .unset :: .unset :: .unset :: .unset :: .unset :: .unset :: .unset :: .unset :: .unset :: .unset :: []))) (plainFor_of_name own_pn0) (fun m => own_ef0 m xa xs xb xt xm) ?_
  intro p e s m below meth c T0 hx hZ hown hby hml hnm H0
  have hown : s.vm.findClass "com/example/hazeline/hazeline/fuzzy/TrapezoidEqualsPinLaw" = some m.cls := hown
  have hml : c.maxLocals = 31 := hml
  obtain ⟨v4, hv4⟩ : ∃ z : Int32, (xm &&& (16 : Int32)) = z := ⟨_, rfl⟩
  obtain ⟨v10, hv10⟩ : ∃ z : Int32, (xa &&& (3 : Int32)) = z := ⟨_, rfl⟩
  obtain ⟨v12, hv12⟩ : ∃ z : Int32, (v10 - (2 : Int32)) = z := ⟨_, rfl⟩
  obtain ⟨v13, hv13⟩ : ∃ z : Int64, v12.toInt64 = z := ⟨_, rfl⟩
  obtain ⟨v18, hv18⟩ : ∃ z : Int64, xa.toInt64 = z := ⟨_, rfl⟩
  obtain ⟨t19_0, ht19_0⟩ : ∃ z : Int64, (bif ifCond.holds .eq v4 then v18 else v13) = z := ⟨_, rfl⟩
  obtain ⟨v24, hv24⟩ : ∃ z : Int32, (xm &&& (1 : Int32)) = z := ⟨_, rfl⟩
  obtain ⟨v37, hv37⟩ : ∃ z : Int32, (xm &&& (32 : Int32)) = z := ⟨_, rfl⟩
  obtain ⟨v43, hv43⟩ : ∃ z : Int32, (xb &&& (3 : Int32)) = z := ⟨_, rfl⟩
  obtain ⟨v45, hv45⟩ : ∃ z : Int32, (v43 - (2 : Int32)) = z := ⟨_, rfl⟩
  obtain ⟨v46, hv46⟩ : ∃ z : Int64, v45.toInt64 = z := ⟨_, rfl⟩
  obtain ⟨v51, hv51⟩ : ∃ z : Int64, xb.toInt64 = z := ⟨_, rfl⟩
  obtain ⟨t52_0, ht52_0⟩ : ∃ z : Int64, (bif ifCond.holds .eq v24 then (bif ifCond.holds .eq v37 then v51 else v46) else t19_0) = z := ⟨_, rfl⟩
  obtain ⟨v60, hv60⟩ : ∃ z : Int32, (xm &&& (2 : Int32)) = z := ⟨_, rfl⟩
  obtain ⟨t70_0, ht70_0⟩ : ∃ z : Int32, (bif ifCond.holds .eq v60 then xt else xs) = z := ⟨_, rfl⟩
  obtain ⟨v81, hv81⟩ : ∃ z : Int32, (xs &&& (3 : Int32)) = z := ⟨_, rfl⟩
  obtain ⟨v82, hv82⟩ : ∃ z : Int64, v81.toInt64 = z := ⟨_, rfl⟩
  obtain ⟨v83, hv83⟩ : ∃ z : Int64, (t19_0 + v82) = z := ⟨_, rfl⟩
  obtain ⟨v91, hv91⟩ : ∃ z : Int32, (xs >>> ((2 : Int32) &&& 31)) = z := ⟨_, rfl⟩
  obtain ⟨v93, hv93⟩ : ∃ z : Int32, (v91 &&& (3 : Int32)) = z := ⟨_, rfl⟩
  obtain ⟨v94, hv94⟩ : ∃ z : Int64, v93.toInt64 = z := ⟨_, rfl⟩
  obtain ⟨v95, hv95⟩ : ∃ z : Int64, (v83 + v94) = z := ⟨_, rfl⟩
  obtain ⟨v103, hv103⟩ : ∃ z : Int32, (xs >>> ((4 : Int32) &&& 31)) = z := ⟨_, rfl⟩
  obtain ⟨v105, hv105⟩ : ∃ z : Int32, (v103 &&& (3 : Int32)) = z := ⟨_, rfl⟩
  obtain ⟨v106, hv106⟩ : ∃ z : Int64, v105.toInt64 = z := ⟨_, rfl⟩
  obtain ⟨v107, hv107⟩ : ∃ z : Int64, (v95 + v106) = z := ⟨_, rfl⟩
  obtain ⟨v119, hv119⟩ : ∃ z : Int32, (t70_0 &&& (3 : Int32)) = z := ⟨_, rfl⟩
  obtain ⟨v120, hv120⟩ : ∃ z : Int64, v119.toInt64 = z := ⟨_, rfl⟩
  obtain ⟨v121, hv121⟩ : ∃ z : Int64, (t52_0 + v120) = z := ⟨_, rfl⟩
  obtain ⟨v129, hv129⟩ : ∃ z : Int32, (t70_0 >>> ((2 : Int32) &&& 31)) = z := ⟨_, rfl⟩
  obtain ⟨v131, hv131⟩ : ∃ z : Int32, (v129 &&& (3 : Int32)) = z := ⟨_, rfl⟩
  obtain ⟨v132, hv132⟩ : ∃ z : Int64, v131.toInt64 = z := ⟨_, rfl⟩
  obtain ⟨v133, hv133⟩ : ∃ z : Int64, (v121 + v132) = z := ⟨_, rfl⟩
  obtain ⟨v141, hv141⟩ : ∃ z : Int32, (t70_0 >>> ((4 : Int32) &&& 31)) = z := ⟨_, rfl⟩
  obtain ⟨v143, hv143⟩ : ∃ z : Int32, (v141 &&& (3 : Int32)) = z := ⟨_, rfl⟩
  obtain ⟨v144, hv144⟩ : ∃ z : Int64, v143.toInt64 = z := ⟨_, rfl⟩
  obtain ⟨v145, hv145⟩ : ∃ z : Int64, (v133 + v144) = z := ⟨_, rfl⟩
  obtain ⟨Ts1, x1, Hs1, sts1⟩ := own_newO H0 hx hZ hown (hw _ (List.mem_of_getElem? (i := 0) rfl)) (hw _ (List.mem_of_getElem? (i := 1) rfl)) (hw _ (List.mem_of_getElem? (i := 2) rfl)) [("com/example/hazeline/hazeline/fuzzy/Trapezoid", "a", "D", .double 0), ("com/example/hazeline/hazeline/fuzzy/Trapezoid", "b", "D", .double 0), ("com/example/hazeline/hazeline/fuzzy/Trapezoid", "c", "D", .double 0), ("com/example/hazeline/hazeline/fuzzy/Trapezoid", "d", "D", .double 0)] (by
      intro f hf
      simp only [List.mem_cons, List.not_mem_nil, or_false] at hf
      rcases hf with rfl | rfl | rfl | rfl
      · exact ⟨Or.inr (hw _ (List.mem_of_getElem? (i := 23) rfl)), .double, by decide, rfl⟩
      · exact ⟨Or.inr (hw _ (List.mem_of_getElem? (i := 25) rfl)), .double, by decide, rfl⟩
      · exact ⟨Or.inr (hw _ (List.mem_of_getElem? (i := 27) rfl)), .double, by decide, rfl⟩
      · exact ⟨Or.inr (hw _ (List.mem_of_getElem? (i := 29) rfl)), .double, by decide, rfl⟩) (by decide) (g := (mkF m 148 (List.toArray ((.val (.int xa)) :: (.val (.int xs)) :: (.val (.int xb)) :: (.val (.int xt)) :: (.val (.int xm)) :: (.val (.long t19_0)) :: .second :: (.val (.long t52_0)) :: .second :: (.val (.int xs)) :: (.val (.int t70_0)) :: (.val (.long t19_0)) :: .second :: (.val (.long v83)) :: .second :: (.val (.long v95)) :: .second :: (.val (.long v107)) :: .second :: (.val (.long t52_0)) :: .second :: (.val (.long v121)) :: .second :: (.val (.long v133)) :: .second :: (.val (.long v145)) :: .second :: .unset :: .unset :: .unset :: .unset :: [])) [])) rfl (hb hby at_148) (by decide) (by decide)
  change own_S _ _ _ _ _ _ _ _ _ _ _ _ _ _ [(x1, own_O "com/example/hazeline/hazeline/fuzzy/Trapezoid" [("com/example/hazeline/hazeline/fuzzy/Trapezoid", "a", "D", .double 0), ("com/example/hazeline/hazeline/fuzzy/Trapezoid", "b", "D", .double 0), ("com/example/hazeline/hazeline/fuzzy/Trapezoid", "c", "D", .double 0), ("com/example/hazeline/hazeline/fuzzy/Trapezoid", "d", "D", .double 0)])] _ _ at Hs1
  have ev13 := own_i2lb v12 v13 hv13
  have rv13 := rng32 v12
  have ev18 := own_i2lb xa v18 hv18
  have rv18 := rng32 xa
  have ev46 := own_i2lb v45 v46 hv46
  have rv46 := rng32 v45
  have ev51 := own_i2lb xb v51 hv51
  have rv51 := rng32 xb
  have bB1 : -2147483648 ≤ t19_0.toInt ∧ t19_0.toInt ≤ 2147483647 := by
    rw [← ht19_0]
    cases ifCond.holds .eq v4
    · show -2147483648 ≤ v13.toInt ∧ v13.toInt ≤ 2147483647; omega
    · show -2147483648 ≤ v18.toInt ∧ v18.toInt ≤ 2147483647; omega
  have bB2 : -2147483648 ≤ t52_0.toInt ∧ t52_0.toInt ≤ 2147483647 := by
    rw [← ht52_0]
    cases ifCond.holds .eq v24
    · exact bB1
    · cases ifCond.holds .eq v37
      · show -2147483648 ≤ v46.toInt ∧ v46.toInt ≤ 2147483647; omega
      · show -2147483648 ≤ v51.toInt ∧ v51.toInt ≤ 2147483647; omega
  have mv81 := own_m3 xs v81 hv81
  have ev82 := own_i2lb v81 v82 hv82
  have ev83 : v83.toInt = t19_0.toInt + v81.toInt := by rw [← hv83]; exact own_la rfl ev82 (by omega) (by omega)
  have mv93 := own_m3 v91 v93 hv93
  have ev94 := own_i2lb v93 v94 hv94
  have ev95 : v95.toInt = v83.toInt + v93.toInt := by rw [← hv95]; exact own_la rfl ev94 (by omega) (by omega)
  have mv105 := own_m3 v103 v105 hv105
  have ev106 := own_i2lb v105 v106 hv106
  have ev107 : v107.toInt = v95.toInt + v105.toInt := by rw [← hv107]; exact own_la rfl ev106 (by omega) (by omega)
  have mv119 := own_m3 t70_0 v119 hv119
  have ev120 := own_i2lb v119 v120 hv120
  have ev121 : v121.toInt = t52_0.toInt + v119.toInt := by rw [← hv121]; exact own_la rfl ev120 (by omega) (by omega)
  have mv131 := own_m3 v129 v131 hv131
  have ev132 := own_i2lb v131 v132 hv132
  have ev133 : v133.toInt = v121.toInt + v131.toInt := by rw [← hv133]; exact own_la rfl ev132 (by omega) (by omega)
  have mv143 := own_m3 v141 v143 hv143
  have ev144 := own_i2lb v143 v144 hv144
  have ev145 : v145.toInt = v133.toInt + v143.toInt := by rw [← hv145]; exact own_la rfl ev144 (by omega) (by omega)
  obtain ⟨Ts2, vs2_, css2_, qs2, Hs2, sts2⟩ := own_callS Hs1 hx hZ hown (hw _ (List.mem_of_getElem? (i := 3) rfl)) (hw _ (List.mem_of_getElem? (i := 4) rfl)) (hw _ (List.mem_of_getElem? (i := 5) rfl)) (hw _ (List.mem_of_getElem? (i := 6) rfl)) (by decide) (argsL := [(.long t19_0), (.int xs), (.int (6 : Int32))]) (rest := [(.ref x1), (.ref x1)]) (W := 2) (own_vl l Z a0 hb0 hw t19_0 xs (6 : Int32) _) (by decide) (by decide) (by decide) (by decide) (g := (mkF m 158 (List.toArray ((.val (.int xa)) :: (.val (.int xs)) :: (.val (.int xb)) :: (.val (.int xt)) :: (.val (.int xm)) :: (.val (.long t19_0)) :: .second :: (.val (.long t52_0)) :: .second :: (.val (.int xs)) :: (.val (.int t70_0)) :: (.val (.long t19_0)) :: .second :: (.val (.long v83)) :: .second :: (.val (.long v95)) :: .second :: (.val (.long v107)) :: .second :: (.val (.long t52_0)) :: .second :: (.val (.long v121)) :: .second :: (.val (.long v133)) :: .second :: (.val (.long v145)) :: .second :: .unset :: .unset :: .unset :: .unset :: [])) [(.int (6 : Int32)), (.int xs), (.long t19_0), (.ref x1), (.ref x1)])) rfl (by rw [hml]; rfl) (lenOf own_pd9 rfl) rfl (by show 2 * 0 + _ ≤ _; exact Nat.le_of_eq rfl) (hb hby at_158)
  obtain ⟨p0, hp0, rfl, rfl⟩ := qs2
  change own_S _ _ _ _ _ _ _ _ _ _ _ _ _ _ [(x1, own_O "com/example/hazeline/hazeline/fuzzy/Trapezoid" [("com/example/hazeline/hazeline/fuzzy/Trapezoid", "a", "D", .double 0), ("com/example/hazeline/hazeline/fuzzy/Trapezoid", "b", "D", .double 0), ("com/example/hazeline/hazeline/fuzzy/Trapezoid", "c", "D", .double 0), ("com/example/hazeline/hazeline/fuzzy/Trapezoid", "d", "D", .double 0)])] _ _ at Hs2
  have i0 : own_is p0 ((t19_0.toInt : Int) : Rat) := by rw [hp0]; exact own_vis _ (by omega)
  obtain ⟨Ts3, vs3_, css3_, qs3, Hs3, sts3⟩ := own_callS Hs2 hx hZ hown (hw _ (List.mem_of_getElem? (i := 3) rfl)) (hw _ (List.mem_of_getElem? (i := 4) rfl)) (hw _ (List.mem_of_getElem? (i := 5) rfl)) (hw _ (List.mem_of_getElem? (i := 6) rfl)) (by decide) (argsL := [(.long v83), (.int xs), (.int (7 : Int32))]) (rest := [(.double p0), (.ref x1), (.ref x1)]) (W := 4) (own_vl l Z a0 hb0 hw v83 xs (7 : Int32) _) (by decide) (by decide) (by decide) (by decide) (g := (mkF m 167 (List.toArray ((.val (.int xa)) :: (.val (.int xs)) :: (.val (.int xb)) :: (.val (.int xt)) :: (.val (.int xm)) :: (.val (.long t19_0)) :: .second :: (.val (.long t52_0)) :: .second :: (.val (.int xs)) :: (.val (.int t70_0)) :: (.val (.long t19_0)) :: .second :: (.val (.long v83)) :: .second :: (.val (.long v95)) :: .second :: (.val (.long v107)) :: .second :: (.val (.long t52_0)) :: .second :: (.val (.long v121)) :: .second :: (.val (.long v133)) :: .second :: (.val (.long v145)) :: .second :: .unset :: .unset :: .unset :: .unset :: [])) [(.int (7 : Int32)), (.int xs), (.long v83), (.double p0), (.ref x1), (.ref x1)])) rfl (by rw [hml]; rfl) (lenOf own_pd9 rfl) rfl (by show 2 * 0 + _ ≤ _; exact Nat.le_of_eq rfl) (hb hby at_167)
  obtain ⟨p1, hp1, rfl, rfl⟩ := qs3
  change own_S _ _ _ _ _ _ _ _ _ _ _ _ _ _ [(x1, own_O "com/example/hazeline/hazeline/fuzzy/Trapezoid" [("com/example/hazeline/hazeline/fuzzy/Trapezoid", "a", "D", .double 0), ("com/example/hazeline/hazeline/fuzzy/Trapezoid", "b", "D", .double 0), ("com/example/hazeline/hazeline/fuzzy/Trapezoid", "c", "D", .double 0), ("com/example/hazeline/hazeline/fuzzy/Trapezoid", "d", "D", .double 0)])] _ _ at Hs3
  have i1 : own_is p1 ((v83.toInt : Int) : Rat) := by rw [hp1]; exact own_vis _ (by omega)
  obtain ⟨Ts4, vs4_, css4_, qs4, Hs4, sts4⟩ := own_callS Hs3 hx hZ hown (hw _ (List.mem_of_getElem? (i := 3) rfl)) (hw _ (List.mem_of_getElem? (i := 4) rfl)) (hw _ (List.mem_of_getElem? (i := 5) rfl)) (hw _ (List.mem_of_getElem? (i := 6) rfl)) (by decide) (argsL := [(.long v95), (.int xs), (.int (8 : Int32))]) (rest := [(.double p1), (.double p0), (.ref x1), (.ref x1)]) (W := 6) (own_vl l Z a0 hb0 hw v95 xs (8 : Int32) _) (by decide) (by decide) (by decide) (by decide) (g := (mkF m 176 (List.toArray ((.val (.int xa)) :: (.val (.int xs)) :: (.val (.int xb)) :: (.val (.int xt)) :: (.val (.int xm)) :: (.val (.long t19_0)) :: .second :: (.val (.long t52_0)) :: .second :: (.val (.int xs)) :: (.val (.int t70_0)) :: (.val (.long t19_0)) :: .second :: (.val (.long v83)) :: .second :: (.val (.long v95)) :: .second :: (.val (.long v107)) :: .second :: (.val (.long t52_0)) :: .second :: (.val (.long v121)) :: .second :: (.val (.long v133)) :: .second :: (.val (.long v145)) :: .second :: .unset :: .unset :: .unset :: .unset :: [])) [(.int (8 : Int32)), (.int xs), (.long v95), (.double p1), (.double p0), (.ref x1), (.ref x1)])) rfl (by rw [hml]; rfl) (lenOf own_pd9 rfl) rfl (by show 2 * 0 + _ ≤ _; exact Nat.le_of_eq rfl) (hb hby at_176)
  obtain ⟨p2, hp2, rfl, rfl⟩ := qs4
  change own_S _ _ _ _ _ _ _ _ _ _ _ _ _ _ [(x1, own_O "com/example/hazeline/hazeline/fuzzy/Trapezoid" [("com/example/hazeline/hazeline/fuzzy/Trapezoid", "a", "D", .double 0), ("com/example/hazeline/hazeline/fuzzy/Trapezoid", "b", "D", .double 0), ("com/example/hazeline/hazeline/fuzzy/Trapezoid", "c", "D", .double 0), ("com/example/hazeline/hazeline/fuzzy/Trapezoid", "d", "D", .double 0)])] _ _ at Hs4
  have i2 : own_is p2 ((v95.toInt : Int) : Rat) := by rw [hp2]; exact own_vis _ (by omega)
  obtain ⟨Ts5, vs5_, css5_, qs5, Hs5, sts5⟩ := own_callS Hs4 hx hZ hown (hw _ (List.mem_of_getElem? (i := 3) rfl)) (hw _ (List.mem_of_getElem? (i := 4) rfl)) (hw _ (List.mem_of_getElem? (i := 5) rfl)) (hw _ (List.mem_of_getElem? (i := 6) rfl)) (by decide) (argsL := [(.long v107), (.int xs), (.int (9 : Int32))]) (rest := [(.double p2), (.double p1), (.double p0), (.ref x1), (.ref x1)]) (W := 8) (own_vl l Z a0 hb0 hw v107 xs (9 : Int32) _) (by decide) (by decide) (by decide) (by decide) (g := (mkF m 185 (List.toArray ((.val (.int xa)) :: (.val (.int xs)) :: (.val (.int xb)) :: (.val (.int xt)) :: (.val (.int xm)) :: (.val (.long t19_0)) :: .second :: (.val (.long t52_0)) :: .second :: (.val (.int xs)) :: (.val (.int t70_0)) :: (.val (.long t19_0)) :: .second :: (.val (.long v83)) :: .second :: (.val (.long v95)) :: .second :: (.val (.long v107)) :: .second :: (.val (.long t52_0)) :: .second :: (.val (.long v121)) :: .second :: (.val (.long v133)) :: .second :: (.val (.long v145)) :: .second :: .unset :: .unset :: .unset :: .unset :: [])) [(.int (9 : Int32)), (.int xs), (.long v107), (.double p2), (.double p1), (.double p0), (.ref x1), (.ref x1)])) rfl (by rw [hml]; rfl) (lenOf own_pd9 rfl) rfl (by show 2 * 0 + _ ≤ _; exact Nat.le_of_eq rfl) (hb hby at_185)
  obtain ⟨p3, hp3, rfl, rfl⟩ := qs5
  change own_S _ _ _ _ _ _ _ _ _ _ _ _ _ _ [(x1, own_O "com/example/hazeline/hazeline/fuzzy/Trapezoid" [("com/example/hazeline/hazeline/fuzzy/Trapezoid", "a", "D", .double 0), ("com/example/hazeline/hazeline/fuzzy/Trapezoid", "b", "D", .double 0), ("com/example/hazeline/hazeline/fuzzy/Trapezoid", "c", "D", .double 0), ("com/example/hazeline/hazeline/fuzzy/Trapezoid", "d", "D", .double 0)])] _ _ at Hs5
  have i3 : own_is p3 ((v107.toInt : Int) : Rat) := by rw [hp3]; exact own_vis _ (by omega)
  obtain ⟨Ts6, vs6_, css6_, qs6, Hs6, sts6⟩ := own_callI Hs5 hx hZ hown rfl (hw _ (List.mem_of_getElem? (i := 7) rfl)) (hw _ (List.mem_of_getElem? (i := 8) rfl)) (hw _ (List.mem_of_getElem? (i := 2) rfl)) (hw _ (List.mem_of_getElem? (i := 9) rfl)) (by decide) (x := x1) (argsL := [(.double p0), (.double p1), (.double p2), (.double p3)]) (rest := [(.ref x1)]) (W := 1) (own_tam l Z a0 hb0 hw x1 p0 p1 p2 p3 (own_is_fin i0) (own_is_fin i1) (own_is_fin i2) (own_is_fin i3) (own_gtf i0 i1 (by omega)) (own_gtf i1 i2 (by omega)) (own_let i2 i3 (by omega))) (by decide) (by decide) (by decide) (by decide) (g := (mkF m 188 (List.toArray ((.val (.int xa)) :: (.val (.int xs)) :: (.val (.int xb)) :: (.val (.int xt)) :: (.val (.int xm)) :: (.val (.long t19_0)) :: .second :: (.val (.long t52_0)) :: .second :: (.val (.int xs)) :: (.val (.int t70_0)) :: (.val (.long t19_0)) :: .second :: (.val (.long v83)) :: .second :: (.val (.long v95)) :: .second :: (.val (.long v107)) :: .second :: (.val (.long t52_0)) :: .second :: (.val (.long v121)) :: .second :: (.val (.long v133)) :: .second :: (.val (.long v145)) :: .second :: .unset :: .unset :: .unset :: .unset :: [])) [(.double p3), (.double p2), (.double p1), (.double p0), (.ref x1), (.ref x1)])) rfl (by rw [hml]; rfl) (lenOf own_pd8 rfl) rfl (by show 2 * 0 + _ ≤ _; exact Nat.le_of_eq rfl) (hb hby at_188)
  obtain ⟨rfl, rfl⟩ := qs6
  change own_S _ _ _ _ _ _ _ _ _ _ _ _ _ _ [(x1, own_O "com/example/hazeline/hazeline/fuzzy/Trapezoid" [("com/example/hazeline/hazeline/fuzzy/Trapezoid", "a", "D", .double p0), ("com/example/hazeline/hazeline/fuzzy/Trapezoid", "b", "D", .double p1), ("com/example/hazeline/hazeline/fuzzy/Trapezoid", "c", "D", .double p2), ("com/example/hazeline/hazeline/fuzzy/Trapezoid", "d", "D", .double p3)])] _ _ at Hs6
  obtain ⟨Ts7, x2, Hs7, sts7⟩ := own_newO Hs6 hx hZ hown (hw _ (List.mem_of_getElem? (i := 0) rfl)) (hw _ (List.mem_of_getElem? (i := 1) rfl)) (hw _ (List.mem_of_getElem? (i := 2) rfl)) [("com/example/hazeline/hazeline/fuzzy/Trapezoid", "a", "D", .double 0), ("com/example/hazeline/hazeline/fuzzy/Trapezoid", "b", "D", .double 0), ("com/example/hazeline/hazeline/fuzzy/Trapezoid", "c", "D", .double 0), ("com/example/hazeline/hazeline/fuzzy/Trapezoid", "d", "D", .double 0)] (by
      intro f hf
      simp only [List.mem_cons, List.not_mem_nil, or_false] at hf
      rcases hf with rfl | rfl | rfl | rfl
      · exact ⟨Or.inr (hw _ (List.mem_of_getElem? (i := 23) rfl)), .double, by decide, rfl⟩
      · exact ⟨Or.inr (hw _ (List.mem_of_getElem? (i := 25) rfl)), .double, by decide, rfl⟩
      · exact ⟨Or.inr (hw _ (List.mem_of_getElem? (i := 27) rfl)), .double, by decide, rfl⟩
      · exact ⟨Or.inr (hw _ (List.mem_of_getElem? (i := 29) rfl)), .double, by decide, rfl⟩) (by decide) (g := (mkF m 193 (List.toArray ((.val (.int xa)) :: (.val (.int xs)) :: (.val (.int xb)) :: (.val (.int xt)) :: (.val (.int xm)) :: (.val (.long t19_0)) :: .second :: (.val (.long t52_0)) :: .second :: (.val (.int xs)) :: (.val (.int t70_0)) :: (.val (.long t19_0)) :: .second :: (.val (.long v83)) :: .second :: (.val (.long v95)) :: .second :: (.val (.long v107)) :: .second :: (.val (.long t52_0)) :: .second :: (.val (.long v121)) :: .second :: (.val (.long v133)) :: .second :: (.val (.long v145)) :: .second :: (.val (.ref x1)) :: .unset :: .unset :: .unset :: [])) [])) rfl (hb hby at_193) (by decide) (by decide)
  change own_S _ _ _ _ _ _ _ _ _ _ _ _ _ _ [(x1, own_O "com/example/hazeline/hazeline/fuzzy/Trapezoid" [("com/example/hazeline/hazeline/fuzzy/Trapezoid", "a", "D", .double p0), ("com/example/hazeline/hazeline/fuzzy/Trapezoid", "b", "D", .double p1), ("com/example/hazeline/hazeline/fuzzy/Trapezoid", "c", "D", .double p2), ("com/example/hazeline/hazeline/fuzzy/Trapezoid", "d", "D", .double p3)]), (x2, own_O "com/example/hazeline/hazeline/fuzzy/Trapezoid" [("com/example/hazeline/hazeline/fuzzy/Trapezoid", "a", "D", .double 0), ("com/example/hazeline/hazeline/fuzzy/Trapezoid", "b", "D", .double 0), ("com/example/hazeline/hazeline/fuzzy/Trapezoid", "c", "D", .double 0), ("com/example/hazeline/hazeline/fuzzy/Trapezoid", "d", "D", .double 0)])] _ _ at Hs7
  obtain ⟨Ts8, vs8_, css8_, qs8, Hs8, sts8⟩ := own_callS Hs7 hx hZ hown (hw _ (List.mem_of_getElem? (i := 3) rfl)) (hw _ (List.mem_of_getElem? (i := 4) rfl)) (hw _ (List.mem_of_getElem? (i := 5) rfl)) (hw _ (List.mem_of_getElem? (i := 6) rfl)) (by decide) (argsL := [(.long t52_0), (.int t70_0), (.int (6 : Int32))]) (rest := [(.ref x2), (.ref x2)]) (W := 2) (own_vl l Z a0 hb0 hw t52_0 t70_0 (6 : Int32) _) (by decide) (by decide) (by decide) (by decide) (g := (mkF m 203 (List.toArray ((.val (.int xa)) :: (.val (.int xs)) :: (.val (.int xb)) :: (.val (.int xt)) :: (.val (.int xm)) :: (.val (.long t19_0)) :: .second :: (.val (.long t52_0)) :: .second :: (.val (.int xs)) :: (.val (.int t70_0)) :: (.val (.long t19_0)) :: .second :: (.val (.long v83)) :: .second :: (.val (.long v95)) :: .second :: (.val (.long v107)) :: .second :: (.val (.long t52_0)) :: .second :: (.val (.long v121)) :: .second :: (.val (.long v133)) :: .second :: (.val (.long v145)) :: .second :: (.val (.ref x1)) :: .unset :: .unset :: .unset :: [])) [(.int (6 : Int32)), (.int t70_0), (.long t52_0), (.ref x2), (.ref x2)])) rfl (by rw [hml]; rfl) (lenOf own_pd9 rfl) rfl (by show 2 * 0 + _ ≤ _; exact Nat.le_of_eq rfl) (hb hby at_203)
  obtain ⟨q0, hq0, rfl, rfl⟩ := qs8
  change own_S _ _ _ _ _ _ _ _ _ _ _ _ _ _ [(x1, own_O "com/example/hazeline/hazeline/fuzzy/Trapezoid" [("com/example/hazeline/hazeline/fuzzy/Trapezoid", "a", "D", .double p0), ("com/example/hazeline/hazeline/fuzzy/Trapezoid", "b", "D", .double p1), ("com/example/hazeline/hazeline/fuzzy/Trapezoid", "c", "D", .double p2), ("com/example/hazeline/hazeline/fuzzy/Trapezoid", "d", "D", .double p3)]), (x2, own_O "com/example/hazeline/hazeline/fuzzy/Trapezoid" [("com/example/hazeline/hazeline/fuzzy/Trapezoid", "a", "D", .double 0), ("com/example/hazeline/hazeline/fuzzy/Trapezoid", "b", "D", .double 0), ("com/example/hazeline/hazeline/fuzzy/Trapezoid", "c", "D", .double 0), ("com/example/hazeline/hazeline/fuzzy/Trapezoid", "d", "D", .double 0)])] _ _ at Hs8
  have j0 : own_is q0 ((t52_0.toInt : Int) : Rat) := by rw [hq0]; exact own_vis _ (by omega)
  obtain ⟨Ts9, vs9_, css9_, qs9, Hs9, sts9⟩ := own_callS Hs8 hx hZ hown (hw _ (List.mem_of_getElem? (i := 3) rfl)) (hw _ (List.mem_of_getElem? (i := 4) rfl)) (hw _ (List.mem_of_getElem? (i := 5) rfl)) (hw _ (List.mem_of_getElem? (i := 6) rfl)) (by decide) (argsL := [(.long v121), (.int t70_0), (.int (7 : Int32))]) (rest := [(.double q0), (.ref x2), (.ref x2)]) (W := 4) (own_vl l Z a0 hb0 hw v121 t70_0 (7 : Int32) _) (by decide) (by decide) (by decide) (by decide) (g := (mkF m 212 (List.toArray ((.val (.int xa)) :: (.val (.int xs)) :: (.val (.int xb)) :: (.val (.int xt)) :: (.val (.int xm)) :: (.val (.long t19_0)) :: .second :: (.val (.long t52_0)) :: .second :: (.val (.int xs)) :: (.val (.int t70_0)) :: (.val (.long t19_0)) :: .second :: (.val (.long v83)) :: .second :: (.val (.long v95)) :: .second :: (.val (.long v107)) :: .second :: (.val (.long t52_0)) :: .second :: (.val (.long v121)) :: .second :: (.val (.long v133)) :: .second :: (.val (.long v145)) :: .second :: (.val (.ref x1)) :: .unset :: .unset :: .unset :: [])) [(.int (7 : Int32)), (.int t70_0), (.long v121), (.double q0), (.ref x2), (.ref x2)])) rfl (by rw [hml]; rfl) (lenOf own_pd9 rfl) rfl (by show 2 * 0 + _ ≤ _; exact Nat.le_of_eq rfl) (hb hby at_212)
  obtain ⟨q1, hq1, rfl, rfl⟩ := qs9
  change own_S _ _ _ _ _ _ _ _ _ _ _ _ _ _ [(x1, own_O "com/example/hazeline/hazeline/fuzzy/Trapezoid" [("com/example/hazeline/hazeline/fuzzy/Trapezoid", "a", "D", .double p0), ("com/example/hazeline/hazeline/fuzzy/Trapezoid", "b", "D", .double p1), ("com/example/hazeline/hazeline/fuzzy/Trapezoid", "c", "D", .double p2), ("com/example/hazeline/hazeline/fuzzy/Trapezoid", "d", "D", .double p3)]), (x2, own_O "com/example/hazeline/hazeline/fuzzy/Trapezoid" [("com/example/hazeline/hazeline/fuzzy/Trapezoid", "a", "D", .double 0), ("com/example/hazeline/hazeline/fuzzy/Trapezoid", "b", "D", .double 0), ("com/example/hazeline/hazeline/fuzzy/Trapezoid", "c", "D", .double 0), ("com/example/hazeline/hazeline/fuzzy/Trapezoid", "d", "D", .double 0)])] _ _ at Hs9
  have j1 : own_is q1 ((v121.toInt : Int) : Rat) := by rw [hq1]; exact own_vis _ (by omega)
  obtain ⟨Ts10, vs10_, css10_, qs10, Hs10, sts10⟩ := own_callS Hs9 hx hZ hown (hw _ (List.mem_of_getElem? (i := 3) rfl)) (hw _ (List.mem_of_getElem? (i := 4) rfl)) (hw _ (List.mem_of_getElem? (i := 5) rfl)) (hw _ (List.mem_of_getElem? (i := 6) rfl)) (by decide) (argsL := [(.long v133), (.int t70_0), (.int (8 : Int32))]) (rest := [(.double q1), (.double q0), (.ref x2), (.ref x2)]) (W := 6) (own_vl l Z a0 hb0 hw v133 t70_0 (8 : Int32) _) (by decide) (by decide) (by decide) (by decide) (g := (mkF m 221 (List.toArray ((.val (.int xa)) :: (.val (.int xs)) :: (.val (.int xb)) :: (.val (.int xt)) :: (.val (.int xm)) :: (.val (.long t19_0)) :: .second :: (.val (.long t52_0)) :: .second :: (.val (.int xs)) :: (.val (.int t70_0)) :: (.val (.long t19_0)) :: .second :: (.val (.long v83)) :: .second :: (.val (.long v95)) :: .second :: (.val (.long v107)) :: .second :: (.val (.long t52_0)) :: .second :: (.val (.long v121)) :: .second :: (.val (.long v133)) :: .second :: (.val (.long v145)) :: .second :: (.val (.ref x1)) :: .unset :: .unset :: .unset :: [])) [(.int (8 : Int32)), (.int t70_0), (.long v133), (.double q1), (.double q0), (.ref x2), (.ref x2)])) rfl (by rw [hml]; rfl) (lenOf own_pd9 rfl) rfl (by show 2 * 0 + _ ≤ _; exact Nat.le_of_eq rfl) (hb hby at_221)
  obtain ⟨q2, hq2, rfl, rfl⟩ := qs10
  change own_S _ _ _ _ _ _ _ _ _ _ _ _ _ _ [(x1, own_O "com/example/hazeline/hazeline/fuzzy/Trapezoid" [("com/example/hazeline/hazeline/fuzzy/Trapezoid", "a", "D", .double p0), ("com/example/hazeline/hazeline/fuzzy/Trapezoid", "b", "D", .double p1), ("com/example/hazeline/hazeline/fuzzy/Trapezoid", "c", "D", .double p2), ("com/example/hazeline/hazeline/fuzzy/Trapezoid", "d", "D", .double p3)]), (x2, own_O "com/example/hazeline/hazeline/fuzzy/Trapezoid" [("com/example/hazeline/hazeline/fuzzy/Trapezoid", "a", "D", .double 0), ("com/example/hazeline/hazeline/fuzzy/Trapezoid", "b", "D", .double 0), ("com/example/hazeline/hazeline/fuzzy/Trapezoid", "c", "D", .double 0), ("com/example/hazeline/hazeline/fuzzy/Trapezoid", "d", "D", .double 0)])] _ _ at Hs10
  have j2 : own_is q2 ((v133.toInt : Int) : Rat) := by rw [hq2]; exact own_vis _ (by omega)
  obtain ⟨Ts11, vs11_, css11_, qs11, Hs11, sts11⟩ := own_callS Hs10 hx hZ hown (hw _ (List.mem_of_getElem? (i := 3) rfl)) (hw _ (List.mem_of_getElem? (i := 4) rfl)) (hw _ (List.mem_of_getElem? (i := 5) rfl)) (hw _ (List.mem_of_getElem? (i := 6) rfl)) (by decide) (argsL := [(.long v145), (.int t70_0), (.int (9 : Int32))]) (rest := [(.double q2), (.double q1), (.double q0), (.ref x2), (.ref x2)]) (W := 8) (own_vl l Z a0 hb0 hw v145 t70_0 (9 : Int32) _) (by decide) (by decide) (by decide) (by decide) (g := (mkF m 230 (List.toArray ((.val (.int xa)) :: (.val (.int xs)) :: (.val (.int xb)) :: (.val (.int xt)) :: (.val (.int xm)) :: (.val (.long t19_0)) :: .second :: (.val (.long t52_0)) :: .second :: (.val (.int xs)) :: (.val (.int t70_0)) :: (.val (.long t19_0)) :: .second :: (.val (.long v83)) :: .second :: (.val (.long v95)) :: .second :: (.val (.long v107)) :: .second :: (.val (.long t52_0)) :: .second :: (.val (.long v121)) :: .second :: (.val (.long v133)) :: .second :: (.val (.long v145)) :: .second :: (.val (.ref x1)) :: .unset :: .unset :: .unset :: [])) [(.int (9 : Int32)), (.int t70_0), (.long v145), (.double q2), (.double q1), (.double q0), (.ref x2), (.ref x2)])) rfl (by rw [hml]; rfl) (lenOf own_pd9 rfl) rfl (by show 2 * 0 + _ ≤ _; exact Nat.le_of_eq rfl) (hb hby at_230)
  obtain ⟨q3, hq3, rfl, rfl⟩ := qs11
  change own_S _ _ _ _ _ _ _ _ _ _ _ _ _ _ [(x1, own_O "com/example/hazeline/hazeline/fuzzy/Trapezoid" [("com/example/hazeline/hazeline/fuzzy/Trapezoid", "a", "D", .double p0), ("com/example/hazeline/hazeline/fuzzy/Trapezoid", "b", "D", .double p1), ("com/example/hazeline/hazeline/fuzzy/Trapezoid", "c", "D", .double p2), ("com/example/hazeline/hazeline/fuzzy/Trapezoid", "d", "D", .double p3)]), (x2, own_O "com/example/hazeline/hazeline/fuzzy/Trapezoid" [("com/example/hazeline/hazeline/fuzzy/Trapezoid", "a", "D", .double 0), ("com/example/hazeline/hazeline/fuzzy/Trapezoid", "b", "D", .double 0), ("com/example/hazeline/hazeline/fuzzy/Trapezoid", "c", "D", .double 0), ("com/example/hazeline/hazeline/fuzzy/Trapezoid", "d", "D", .double 0)])] _ _ at Hs11
  have j3 : own_is q3 ((v145.toInt : Int) : Rat) := by rw [hq3]; exact own_vis _ (by omega)
  obtain ⟨Ts12, vs12_, css12_, qs12, Hs12, sts12⟩ := own_callI Hs11 hx hZ hown rfl (hw _ (List.mem_of_getElem? (i := 7) rfl)) (hw _ (List.mem_of_getElem? (i := 8) rfl)) (hw _ (List.mem_of_getElem? (i := 2) rfl)) (hw _ (List.mem_of_getElem? (i := 9) rfl)) (by decide) (x := x2) (argsL := [(.double q0), (.double q1), (.double q2), (.double q3)]) (rest := [(.ref x2)]) (W := 1) (own_tbm l Z a0 hb0 hw x2 q0 q1 q2 q3 x1 _ (own_is_fin j0) (own_is_fin j1) (own_is_fin j2) (own_is_fin j3) (own_gtf j0 j1 (by omega)) (own_gtf j1 j2 (by omega)) (own_let j2 j3 (by omega))) (by decide) (by decide) (by decide) (by decide) (g := (mkF m 233 (List.toArray ((.val (.int xa)) :: (.val (.int xs)) :: (.val (.int xb)) :: (.val (.int xt)) :: (.val (.int xm)) :: (.val (.long t19_0)) :: .second :: (.val (.long t52_0)) :: .second :: (.val (.int xs)) :: (.val (.int t70_0)) :: (.val (.long t19_0)) :: .second :: (.val (.long v83)) :: .second :: (.val (.long v95)) :: .second :: (.val (.long v107)) :: .second :: (.val (.long t52_0)) :: .second :: (.val (.long v121)) :: .second :: (.val (.long v133)) :: .second :: (.val (.long v145)) :: .second :: (.val (.ref x1)) :: .unset :: .unset :: .unset :: [])) [(.double q3), (.double q2), (.double q1), (.double q0), (.ref x2), (.ref x2)])) rfl (by rw [hml]; rfl) (lenOf own_pd8 rfl) rfl (by show 2 * 0 + _ ≤ _; exact Nat.le_of_eq rfl) (hb hby at_233)
  obtain ⟨rfl, rfl⟩ := qs12
  change own_S _ _ _ _ _ _ _ _ _ _ _ _ _ _ [(x1, own_O "com/example/hazeline/hazeline/fuzzy/Trapezoid" [("com/example/hazeline/hazeline/fuzzy/Trapezoid", "a", "D", .double p0), ("com/example/hazeline/hazeline/fuzzy/Trapezoid", "b", "D", .double p1), ("com/example/hazeline/hazeline/fuzzy/Trapezoid", "c", "D", .double p2), ("com/example/hazeline/hazeline/fuzzy/Trapezoid", "d", "D", .double p3)]), (x2, own_O "com/example/hazeline/hazeline/fuzzy/Trapezoid" [("com/example/hazeline/hazeline/fuzzy/Trapezoid", "a", "D", .double q0), ("com/example/hazeline/hazeline/fuzzy/Trapezoid", "b", "D", .double q1), ("com/example/hazeline/hazeline/fuzzy/Trapezoid", "c", "D", .double q2), ("com/example/hazeline/hazeline/fuzzy/Trapezoid", "d", "D", .double q3)])] _ _ at Hs12
  rcases own_kinds xm with hkk | hkk | hkk | hkk
  · skip
    by_cases s0 : own_Same t19_0 (own_flag xs (6 : Int32)) t52_0 (own_flag t70_0 (6 : Int32))
    rotate_left
    · skip
      obtain ⟨v241, hv241⟩ : ∃ z : Int32, (xm >>> ((2 : Int32) &&& 31)) = z := ⟨_, rfl⟩
      have hl243 : (v241 &&& (3 : Int32)) = (0 : Int32) := by rw [← hv241]; exact hkk
      obtain ⟨Tsz0_1, vsz0_1_, cssz0_1_, qsz0_1, Hsz0_1, stsz0_1⟩ := own_callS Hs12 hx hZ hown (hw _ (List.mem_of_getElem? (i := 30) rfl)) (hw _ (List.mem_of_getElem? (i := 31) rfl)) (hw _ (List.mem_of_getElem? (i := 5) rfl)) (hw _ (List.mem_of_getElem? (i := 32) rfl)) (by decide) (argsL := [(.long t19_0), (.int xs), (.long t52_0), (.int t70_0), (.int (6 : Int32))]) (rest := []) (W := 0) (own_same0 l Z a0 hb0 hw t19_0 xs t52_0 t70_0 (6 : Int32) _ s0) (by decide) (by decide) (by decide) (by decide) (g := (mkF m 320 (List.toArray ((.val (.int xa)) :: (.val (.int xs)) :: (.val (.int xb)) :: (.val (.int xt)) :: (.val (.int xm)) :: (.val (.long t19_0)) :: .second :: (.val (.long t52_0)) :: .second :: (.val (.int xs)) :: (.val (.int t70_0)) :: (.val (.long t19_0)) :: .second :: (.val (.long v83)) :: .second :: (.val (.long v95)) :: .second :: (.val (.long v107)) :: .second :: (.val (.long t52_0)) :: .second :: (.val (.long v121)) :: .second :: (.val (.long v133)) :: .second :: (.val (.long v145)) :: .second :: (.val (.ref x1)) :: (.val (.ref x2)) :: (.val (.int (0 : Int32))) :: .unset :: [])) [(.int (6 : Int32)), (.int t70_0), (.long t52_0), (.int xs), (.long t19_0)])) rfl (by rw [hml]; rfl) (lenOf own_pd10 rfl) rfl (by show 2 * 0 + _ ≤ _; exact Nat.le_of_eq rfl) (hb hby at_320)
      obtain ⟨rfl, rfl⟩ := qsz0_1
      change own_S _ _ _ _ _ _ _ _ _ _ _ _ _ _ [(x1, own_O "com/example/hazeline/hazeline/fuzzy/Trapezoid" [("com/example/hazeline/hazeline/fuzzy/Trapezoid", "a", "D", .double p0), ("com/example/hazeline/hazeline/fuzzy/Trapezoid", "b", "D", .double p1), ("com/example/hazeline/hazeline/fuzzy/Trapezoid", "c", "D", .double p2), ("com/example/hazeline/hazeline/fuzzy/Trapezoid", "d", "D", .double p3)]), (x2, own_O "com/example/hazeline/hazeline/fuzzy/Trapezoid" [("com/example/hazeline/hazeline/fuzzy/Trapezoid", "a", "D", .double q0), ("com/example/hazeline/hazeline/fuzzy/Trapezoid", "b", "D", .double q1), ("com/example/hazeline/hazeline/fuzzy/Trapezoid", "c", "D", .double q2), ("com/example/hazeline/hazeline/fuzzy/Trapezoid", "d", "D", .double q3)])] _ _ at Hsz0_1
      have e0 : p0 ≠ q0 := by rw [hp0, hq0]; exact own_same_ne (own_flag01 _ _) (own_flag01 _ _) (by omega) (by omega) s0
      obtain ⟨Tsz0_2, vsz0_2_, cssz0_2_, qsz0_2, Hsz0_2, stsz0_2⟩ := own_callV Hsz0_1 hx hZ hown (hw _ (List.mem_of_getElem? (i := 33) rfl)) (hw _ (List.mem_of_getElem? (i := 34) rfl)) (hw _ (List.mem_of_getElem? (i := 36) rfl)) (hw _ (List.mem_of_getElem? (i := 35) rfl)) (hw _ (List.mem_of_getElem? (i := 2) rfl)) (hw _ (List.mem_of_getElem? (i := 37) rfl)) (by decide) (x := x1) 0 rfl (argsL := [(.ref x2)]) (rest := []) (W := 0) (own_eqa0 l Z a0 hb0 hw x1 x2 p0 p1 p2 p3 q0 q1 q2 q3 _ _ i0 j0 e0) (by decide) (by decide) (by decide) (by decide) (g := (mkF m 385 (List.toArray ((.val (.int xa)) :: (.val (.int xs)) :: (.val (.int xb)) :: (.val (.int xt)) :: (.val (.int xm)) :: (.val (.long t19_0)) :: .second :: (.val (.long t52_0)) :: .second :: (.val (.int xs)) :: (.val (.int t70_0)) :: (.val (.long t19_0)) :: .second :: (.val (.long v83)) :: .second :: (.val (.long v95)) :: .second :: (.val (.long v107)) :: .second :: (.val (.long t52_0)) :: .second :: (.val (.long v121)) :: .second :: (.val (.long v133)) :: .second :: (.val (.long v145)) :: .second :: (.val (.ref x1)) :: (.val (.ref x2)) :: (.val (.int (0 : Int32))) :: (.val (.int (0 : Int32))) :: [])) [(.ref x2), (.ref x1)])) rfl (by rw [hml]; rfl) (lenOf own_pd11 rfl) rfl (by show 2 * 0 + _ ≤ _; exact Nat.le_of_eq rfl) (hb hby at_385)
      obtain ⟨rfl, rfl⟩ := qsz0_2
      change own_S _ _ _ _ _ _ _ _ _ _ _ _ _ _ [(x1, own_O "com/example/hazeline/hazeline/fuzzy/Trapezoid" [("com/example/hazeline/hazeline/fuzzy/Trapezoid", "a", "D", .double p0), ("com/example/hazeline/hazeline/fuzzy/Trapezoid", "b", "D", .double p1), ("com/example/hazeline/hazeline/fuzzy/Trapezoid", "c", "D", .double p2), ("com/example/hazeline/hazeline/fuzzy/Trapezoid", "d", "D", .double p3)]), (x2, own_O "com/example/hazeline/hazeline/fuzzy/Trapezoid" [("com/example/hazeline/hazeline/fuzzy/Trapezoid", "a", "D", .double q0), ("com/example/hazeline/hazeline/fuzzy/Trapezoid", "b", "D", .double q1), ("com/example/hazeline/hazeline/fuzzy/Trapezoid", "c", "D", .double q2), ("com/example/hazeline/hazeline/fuzzy/Trapezoid", "d", "D", .double q3)])] _ _ at Hsz0_2
      obtain ⟨Tsz0_3, vsz0_3_, cssz0_3_, qsz0_3, Hsz0_3, stsz0_3⟩ := own_callV Hsz0_2 hx hZ hown (hw _ (List.mem_of_getElem? (i := 33) rfl)) (hw _ (List.mem_of_getElem? (i := 34) rfl)) (hw _ (List.mem_of_getElem? (i := 36) rfl)) (hw _ (List.mem_of_getElem? (i := 35) rfl)) (hw _ (List.mem_of_getElem? (i := 2) rfl)) (hw _ (List.mem_of_getElem? (i := 37) rfl)) (by decide) (x := x2) 1 rfl (argsL := [(.ref x1)]) (rest := []) (W := 0) (own_eqb0 l Z a0 hb0 hw x2 x1 p0 p1 p2 p3 q0 q1 q2 q3 _ _ j0 i0 e0.symm) (by decide) (by decide) (by decide) (by decide) (g := (mkF m 397 (List.toArray ((.val (.int xa)) :: (.val (.int xs)) :: (.val (.int xb)) :: (.val (.int xt)) :: (.val (.int xm)) :: (.val (.long t19_0)) :: .second :: (.val (.long t52_0)) :: .second :: (.val (.int xs)) :: (.val (.int t70_0)) :: (.val (.long t19_0)) :: .second :: (.val (.long v83)) :: .second :: (.val (.long v95)) :: .second :: (.val (.long v107)) :: .second :: (.val (.long t52_0)) :: .second :: (.val (.long v121)) :: .second :: (.val (.long v133)) :: .second :: (.val (.long v145)) :: .second :: (.val (.ref x1)) :: (.val (.ref x2)) :: (.val (.int (0 : Int32))) :: (.val (.int (0 : Int32))) :: [])) [(.ref x1), (.ref x2)])) rfl (by rw [hml]; rfl) (lenOf own_pd11 rfl) rfl (by show 2 * 0 + _ ≤ _; exact Nat.le_of_eq rfl) (hb hby at_397)
      obtain ⟨rfl, rfl⟩ := qsz0_3
      change own_S _ _ _ _ _ _ _ _ _ _ _ _ _ _ [(x1, own_O "com/example/hazeline/hazeline/fuzzy/Trapezoid" [("com/example/hazeline/hazeline/fuzzy/Trapezoid", "a", "D", .double p0), ("com/example/hazeline/hazeline/fuzzy/Trapezoid", "b", "D", .double p1), ("com/example/hazeline/hazeline/fuzzy/Trapezoid", "c", "D", .double p2), ("com/example/hazeline/hazeline/fuzzy/Trapezoid", "d", "D", .double p3)]), (x2, own_O "com/example/hazeline/hazeline/fuzzy/Trapezoid" [("com/example/hazeline/hazeline/fuzzy/Trapezoid", "a", "D", .double q0), ("com/example/hazeline/hazeline/fuzzy/Trapezoid", "b", "D", .double q1), ("com/example/hazeline/hazeline/fuzzy/Trapezoid", "c", "D", .double q2), ("com/example/hazeline/hazeline/fuzzy/Trapezoid", "d", "D", .double q3)])] _ _ at Hsz0_3
      refine ⟨_, _, _, _, 410, (List.toArray ((.val (.int xa)) :: (.val (.int xs)) :: (.val (.int xb)) :: (.val (.int xt)) :: (.val (.int xm)) :: (.val (.long t19_0)) :: .second :: (.val (.long t52_0)) :: .second :: (.val (.int xs)) :: (.val (.int t70_0)) :: (.val (.long t19_0)) :: .second :: (.val (.long v83)) :: .second :: (.val (.long v95)) :: .second :: (.val (.long v107)) :: .second :: (.val (.long t52_0)) :: .second :: (.val (.long v121)) :: .second :: (.val (.long v133)) :: .second :: (.val (.long v145)) :: .second :: (.val (.ref x1)) :: (.val (.ref x2)) :: (.val (.int (0 : Int32))) :: (.val (.int (0 : Int32))) :: [])), Hsz0_3, by decide, by decide, Or.inr ⟨.boolean, (.int (1 : Int32)), [], .ireturn, rfl, rfl, at_410, own_retZ (Or.inr rfl), fun target q => ?_⟩⟩
      refine own_go H0 hx hZ hown hby hw own_K0_ok (own_s0 xa xs xb xt xm v4 hv4 v10 hv10 v12 hv12 v13 hv13 v18 hv18 t19_0 ht19_0) _ ?_
      refine own_go H0 hx hZ hown hby hw own_K0_ok (own_s1 xa xs xb xt xm t19_0 v24 hv24 v37 hv37 v43 hv43 v45 hv45 v46 hv46 v51 hv51 t52_0 ht52_0) _ ?_
      refine own_go H0 hx hZ hown hby hw own_K0_ok (own_s2 xa xs xb xt xm t19_0 t52_0 v60 hv60 t70_0 ht70_0) _ ?_
      refine own_go H0 hx hZ hown hby hw own_K0_ok (own_s3 xa xs xb xt xm t19_0 t52_0 t70_0 v81 hv81 v82 hv82 v83 hv83 v91 hv91 v93 hv93 v94 hv94 v95 hv95 v103 hv103 v105 hv105 v106 hv106 v107 hv107 v119 hv119 v120 hv120 v121 hv121 v129 hv129 v131 hv131 v132 hv132 v133 hv133 v141 hv141 v143 hv143 v144 hv144 v145 hv145) _ ?_
      refine sts1 _ ?_
      refine own_go Hs1 hx hZ hown hby hw own_K0_ok (own_s4 xa xs xb xt xm t19_0 t52_0 t70_0 v83 v95 v107 v121 v133 v145 x1) _ ?_
      refine sts2 _ ?_
      refine own_go Hs2 hx hZ hown hby hw own_K0_ok (own_s5 xa xs xb xt xm t19_0 t52_0 t70_0 v83 v95 v107 v121 v133 v145 p0 x1) _ ?_
      refine sts3 _ ?_
      refine own_go Hs3 hx hZ hown hby hw own_K0_ok (own_s6 xa xs xb xt xm t19_0 t52_0 t70_0 v83 v95 v107 v121 v133 v145 p1 p0 x1) _ ?_
      refine sts4 _ ?_
      refine own_go Hs4 hx hZ hown hby hw own_K0_ok (own_s7 xa xs xb xt xm t19_0 t52_0 t70_0 v83 v95 v107 v121 v133 v145 p2 p1 p0 x1) _ ?_
      refine sts5 _ ?_
      refine sts6 _ ?_
      refine own_go Hs6 hx hZ hown hby hw own_K0_ok (own_s8 xa xs xb xt xm t19_0 t52_0 t70_0 v83 v95 v107 v121 v133 v145 x1) _ ?_
      refine sts7 _ ?_
      refine own_go Hs7 hx hZ hown hby hw own_K0_ok (own_s9 xa xs xb xt xm t19_0 t52_0 t70_0 v83 v95 v107 v121 v133 v145 x1 x2) _ ?_
      refine sts8 _ ?_
      refine own_go Hs8 hx hZ hown hby hw own_K0_ok (own_s10 xa xs xb xt xm t19_0 t52_0 t70_0 v83 v95 v107 v121 v133 v145 x1 q0 x2) _ ?_
      refine sts9 _ ?_
      refine own_go Hs9 hx hZ hown hby hw own_K0_ok (own_s11 xa xs xb xt xm t19_0 t52_0 t70_0 v83 v95 v107 v121 v133 v145 x1 q1 q0 x2) _ ?_
      refine sts10 _ ?_
      refine own_go Hs10 hx hZ hown hby hw own_K0_ok (own_s12 xa xs xb xt xm t19_0 t52_0 t70_0 v83 v95 v107 v121 v133 v145 x1 q2 q1 q0 x2) _ ?_
      refine sts11 _ ?_
      refine sts12 _ ?_
      refine own_go Hs12 hx hZ hown hby hw own_K0_ok (own_sz0_0 xa xs xb xt xm t19_0 t52_0 t70_0 v83 v95 v107 v121 v133 v145 x1 x2 v241 hv241 hl243) _ ?_
      refine stsz0_1 _ ?_
      refine own_go Hsz0_1 hx hZ hown hby hw own_K0_ok (own_sz0_1 xa xs xb xt xm t19_0 t52_0 t70_0 v83 v95 v107 v121 v133 v145 x1 x2) _ ?_
      refine stsz0_2 _ ?_
      refine own_go Hsz0_2 hx hZ hown hby hw own_K0_ok (own_sz0_2 xa xs xb xt xm t19_0 t52_0 t70_0 v83 v95 v107 v121 v133 v145 x1 x2) _ ?_
      refine stsz0_3 _ ?_
      refine own_go Hsz0_3 hx hZ hown hby hw own_K0_ok (own_sz0_3 xa xs xb xt xm t19_0 t52_0 t70_0 v83 v95 v107 v121 v133 v145 x1 x2) _ ?_
      exact q
    by_cases s1 : own_Same v83 (own_flag xs (7 : Int32)) v121 (own_flag t70_0 (7 : Int32))
    rotate_left
    · skip
      obtain ⟨v241, hv241⟩ : ∃ z : Int32, (xm >>> ((2 : Int32) &&& 31)) = z := ⟨_, rfl⟩
      have hl243 : (v241 &&& (3 : Int32)) = (0 : Int32) := by rw [← hv241]; exact hkk
      obtain ⟨Tsz1_1, vsz1_1_, cssz1_1_, qsz1_1, Hsz1_1, stsz1_1⟩ := own_callS Hs12 hx hZ hown (hw _ (List.mem_of_getElem? (i := 30) rfl)) (hw _ (List.mem_of_getElem? (i := 31) rfl)) (hw _ (List.mem_of_getElem? (i := 5) rfl)) (hw _ (List.mem_of_getElem? (i := 32) rfl)) (by decide) (argsL := [(.long t19_0), (.int xs), (.long t52_0), (.int t70_0), (.int (6 : Int32))]) (rest := []) (W := 0) (own_same1 l Z a0 hb0 hw t19_0 xs t52_0 t70_0 (6 : Int32) _ s0) (by decide) (by decide) (by decide) (by decide) (g := (mkF m 320 (List.toArray ((.val (.int xa)) :: (.val (.int xs)) :: (.val (.int xb)) :: (.val (.int xt)) :: (.val (.int xm)) :: (.val (.long t19_0)) :: .second :: (.val (.long t52_0)) :: .second :: (.val (.int xs)) :: (.val (.int t70_0)) :: (.val (.long t19_0)) :: .second :: (.val (.long v83)) :: .second :: (.val (.long v95)) :: .second :: (.val (.long v107)) :: .second :: (.val (.long t52_0)) :: .second :: (.val (.long v121)) :: .second :: (.val (.long v133)) :: .second :: (.val (.long v145)) :: .second :: (.val (.ref x1)) :: (.val (.ref x2)) :: (.val (.int (0 : Int32))) :: .unset :: [])) [(.int (6 : Int32)), (.int t70_0), (.long t52_0), (.int xs), (.long t19_0)])) rfl (by rw [hml]; rfl) (lenOf own_pd10 rfl) rfl (by show 2 * 0 + _ ≤ _; exact Nat.le_of_eq rfl) (hb hby at_320)
      obtain ⟨rfl, rfl⟩ := qsz1_1
      change own_S _ _ _ _ _ _ _ _ _ _ _ _ _ _ [(x1, own_O "com/example/hazeline/hazeline/fuzzy/Trapezoid" [("com/example/hazeline/hazeline/fuzzy/Trapezoid", "a", "D", .double p0), ("com/example/hazeline/hazeline/fuzzy/Trapezoid", "b", "D", .double p1), ("com/example/hazeline/hazeline/fuzzy/Trapezoid", "c", "D", .double p2), ("com/example/hazeline/hazeline/fuzzy/Trapezoid", "d", "D", .double p3)]), (x2, own_O "com/example/hazeline/hazeline/fuzzy/Trapezoid" [("com/example/hazeline/hazeline/fuzzy/Trapezoid", "a", "D", .double q0), ("com/example/hazeline/hazeline/fuzzy/Trapezoid", "b", "D", .double q1), ("com/example/hazeline/hazeline/fuzzy/Trapezoid", "c", "D", .double q2), ("com/example/hazeline/hazeline/fuzzy/Trapezoid", "d", "D", .double q3)])] _ _ at Hsz1_1
      have e0 : p0 = q0 := by rw [hp0, hq0]; exact own_same_eq s0
      obtain ⟨Tsz1_2, vsz1_2_, cssz1_2_, qsz1_2, Hsz1_2, stsz1_2⟩ := own_callS Hsz1_1 hx hZ hown (hw _ (List.mem_of_getElem? (i := 30) rfl)) (hw _ (List.mem_of_getElem? (i := 31) rfl)) (hw _ (List.mem_of_getElem? (i := 5) rfl)) (hw _ (List.mem_of_getElem? (i := 32) rfl)) (by decide) (argsL := [(.long v83), (.int xs), (.long v121), (.int t70_0), (.int (7 : Int32))]) (rest := []) (W := 0) (own_same0 l Z a0 hb0 hw v83 xs v121 t70_0 (7 : Int32) _ s1) (by decide) (by decide) (by decide) (by decide) (g := (mkF m 336 (List.toArray ((.val (.int xa)) :: (.val (.int xs)) :: (.val (.int xb)) :: (.val (.int xt)) :: (.val (.int xm)) :: (.val (.long t19_0)) :: .second :: (.val (.long t52_0)) :: .second :: (.val (.int xs)) :: (.val (.int t70_0)) :: (.val (.long t19_0)) :: .second :: (.val (.long v83)) :: .second :: (.val (.long v95)) :: .second :: (.val (.long v107)) :: .second :: (.val (.long t52_0)) :: .second :: (.val (.long v121)) :: .second :: (.val (.long v133)) :: .second :: (.val (.long v145)) :: .second :: (.val (.ref x1)) :: (.val (.ref x2)) :: (.val (.int (0 : Int32))) :: .unset :: [])) [(.int (7 : Int32)), (.int t70_0), (.long v121), (.int xs), (.long v83)])) rfl (by rw [hml]; rfl) (lenOf own_pd10 rfl) rfl (by show 2 * 0 + _ ≤ _; exact Nat.le_of_eq rfl) (hb hby at_336)
      obtain ⟨rfl, rfl⟩ := qsz1_2
      change own_S _ _ _ _ _ _ _ _ _ _ _ _ _ _ [(x1, own_O "com/example/hazeline/hazeline/fuzzy/Trapezoid" [("com/example/hazeline/hazeline/fuzzy/Trapezoid", "a", "D", .double p0), ("com/example/hazeline/hazeline/fuzzy/Trapezoid", "b", "D", .double p1), ("com/example/hazeline/hazeline/fuzzy/Trapezoid", "c", "D", .double p2), ("com/example/hazeline/hazeline/fuzzy/Trapezoid", "d", "D", .double p3)]), (x2, own_O "com/example/hazeline/hazeline/fuzzy/Trapezoid" [("com/example/hazeline/hazeline/fuzzy/Trapezoid", "a", "D", .double q0), ("com/example/hazeline/hazeline/fuzzy/Trapezoid", "b", "D", .double q1), ("com/example/hazeline/hazeline/fuzzy/Trapezoid", "c", "D", .double q2), ("com/example/hazeline/hazeline/fuzzy/Trapezoid", "d", "D", .double q3)])] _ _ at Hsz1_2
      have e1 : p1 ≠ q1 := by rw [hp1, hq1]; exact own_same_ne (own_flag01 _ _) (own_flag01 _ _) (by omega) (by omega) s1
      obtain ⟨Tsz1_3, vsz1_3_, cssz1_3_, qsz1_3, Hsz1_3, stsz1_3⟩ := own_callV Hsz1_2 hx hZ hown (hw _ (List.mem_of_getElem? (i := 33) rfl)) (hw _ (List.mem_of_getElem? (i := 34) rfl)) (hw _ (List.mem_of_getElem? (i := 36) rfl)) (hw _ (List.mem_of_getElem? (i := 35) rfl)) (hw _ (List.mem_of_getElem? (i := 2) rfl)) (hw _ (List.mem_of_getElem? (i := 37) rfl)) (by decide) (x := x1) 0 rfl (argsL := [(.ref x2)]) (rest := []) (W := 0) (own_eqa1 l Z a0 hb0 hw x1 x2 p0 p1 p2 p3 q0 q1 q2 q3 _ _ i0 j0 e0 _ _ i1 j1 e1) (by decide) (by decide) (by decide) (by decide) (g := (mkF m 385 (List.toArray ((.val (.int xa)) :: (.val (.int xs)) :: (.val (.int xb)) :: (.val (.int xt)) :: (.val (.int xm)) :: (.val (.long t19_0)) :: .second :: (.val (.long t52_0)) :: .second :: (.val (.int xs)) :: (.val (.int t70_0)) :: (.val (.long t19_0)) :: .second :: (.val (.long v83)) :: .second :: (.val (.long v95)) :: .second :: (.val (.long v107)) :: .second :: (.val (.long t52_0)) :: .second :: (.val (.long v121)) :: .second :: (.val (.long v133)) :: .second :: (.val (.long v145)) :: .second :: (.val (.ref x1)) :: (.val (.ref x2)) :: (.val (.int (0 : Int32))) :: (.val (.int (0 : Int32))) :: [])) [(.ref x2), (.ref x1)])) rfl (by rw [hml]; rfl) (lenOf own_pd11 rfl) rfl (by show 2 * 0 + _ ≤ _; exact Nat.le_of_eq rfl) (hb hby at_385)
      obtain ⟨rfl, rfl⟩ := qsz1_3
      change own_S _ _ _ _ _ _ _ _ _ _ _ _ _ _ [(x1, own_O "com/example/hazeline/hazeline/fuzzy/Trapezoid" [("com/example/hazeline/hazeline/fuzzy/Trapezoid", "a", "D", .double p0), ("com/example/hazeline/hazeline/fuzzy/Trapezoid", "b", "D", .double p1), ("com/example/hazeline/hazeline/fuzzy/Trapezoid", "c", "D", .double p2), ("com/example/hazeline/hazeline/fuzzy/Trapezoid", "d", "D", .double p3)]), (x2, own_O "com/example/hazeline/hazeline/fuzzy/Trapezoid" [("com/example/hazeline/hazeline/fuzzy/Trapezoid", "a", "D", .double q0), ("com/example/hazeline/hazeline/fuzzy/Trapezoid", "b", "D", .double q1), ("com/example/hazeline/hazeline/fuzzy/Trapezoid", "c", "D", .double q2), ("com/example/hazeline/hazeline/fuzzy/Trapezoid", "d", "D", .double q3)])] _ _ at Hsz1_3
      obtain ⟨Tsz1_4, vsz1_4_, cssz1_4_, qsz1_4, Hsz1_4, stsz1_4⟩ := own_callV Hsz1_3 hx hZ hown (hw _ (List.mem_of_getElem? (i := 33) rfl)) (hw _ (List.mem_of_getElem? (i := 34) rfl)) (hw _ (List.mem_of_getElem? (i := 36) rfl)) (hw _ (List.mem_of_getElem? (i := 35) rfl)) (hw _ (List.mem_of_getElem? (i := 2) rfl)) (hw _ (List.mem_of_getElem? (i := 37) rfl)) (by decide) (x := x2) 1 rfl (argsL := [(.ref x1)]) (rest := []) (W := 0) (own_eqb1 l Z a0 hb0 hw x2 x1 p0 p1 p2 p3 q0 q1 q2 q3 _ _ j0 i0 e0.symm _ _ j1 i1 e1.symm) (by decide) (by decide) (by decide) (by decide) (g := (mkF m 397 (List.toArray ((.val (.int xa)) :: (.val (.int xs)) :: (.val (.int xb)) :: (.val (.int xt)) :: (.val (.int xm)) :: (.val (.long t19_0)) :: .second :: (.val (.long t52_0)) :: .second :: (.val (.int xs)) :: (.val (.int t70_0)) :: (.val (.long t19_0)) :: .second :: (.val (.long v83)) :: .second :: (.val (.long v95)) :: .second :: (.val (.long v107)) :: .second :: (.val (.long t52_0)) :: .second :: (.val (.long v121)) :: .second :: (.val (.long v133)) :: .second :: (.val (.long v145)) :: .second :: (.val (.ref x1)) :: (.val (.ref x2)) :: (.val (.int (0 : Int32))) :: (.val (.int (0 : Int32))) :: [])) [(.ref x1), (.ref x2)])) rfl (by rw [hml]; rfl) (lenOf own_pd11 rfl) rfl (by show 2 * 0 + _ ≤ _; exact Nat.le_of_eq rfl) (hb hby at_397)
      obtain ⟨rfl, rfl⟩ := qsz1_4
      change own_S _ _ _ _ _ _ _ _ _ _ _ _ _ _ [(x1, own_O "com/example/hazeline/hazeline/fuzzy/Trapezoid" [("com/example/hazeline/hazeline/fuzzy/Trapezoid", "a", "D", .double p0), ("com/example/hazeline/hazeline/fuzzy/Trapezoid", "b", "D", .double p1), ("com/example/hazeline/hazeline/fuzzy/Trapezoid", "c", "D", .double p2), ("com/example/hazeline/hazeline/fuzzy/Trapezoid", "d", "D", .double p3)]), (x2, own_O "com/example/hazeline/hazeline/fuzzy/Trapezoid" [("com/example/hazeline/hazeline/fuzzy/Trapezoid", "a", "D", .double q0), ("com/example/hazeline/hazeline/fuzzy/Trapezoid", "b", "D", .double q1), ("com/example/hazeline/hazeline/fuzzy/Trapezoid", "c", "D", .double q2), ("com/example/hazeline/hazeline/fuzzy/Trapezoid", "d", "D", .double q3)])] _ _ at Hsz1_4
      refine ⟨_, _, _, _, 410, (List.toArray ((.val (.int xa)) :: (.val (.int xs)) :: (.val (.int xb)) :: (.val (.int xt)) :: (.val (.int xm)) :: (.val (.long t19_0)) :: .second :: (.val (.long t52_0)) :: .second :: (.val (.int xs)) :: (.val (.int t70_0)) :: (.val (.long t19_0)) :: .second :: (.val (.long v83)) :: .second :: (.val (.long v95)) :: .second :: (.val (.long v107)) :: .second :: (.val (.long t52_0)) :: .second :: (.val (.long v121)) :: .second :: (.val (.long v133)) :: .second :: (.val (.long v145)) :: .second :: (.val (.ref x1)) :: (.val (.ref x2)) :: (.val (.int (0 : Int32))) :: (.val (.int (0 : Int32))) :: [])), Hsz1_4, by decide, by decide, Or.inr ⟨.boolean, (.int (1 : Int32)), [], .ireturn, rfl, rfl, at_410, own_retZ (Or.inr rfl), fun target q => ?_⟩⟩
      refine own_go H0 hx hZ hown hby hw own_K0_ok (own_s0 xa xs xb xt xm v4 hv4 v10 hv10 v12 hv12 v13 hv13 v18 hv18 t19_0 ht19_0) _ ?_
      refine own_go H0 hx hZ hown hby hw own_K0_ok (own_s1 xa xs xb xt xm t19_0 v24 hv24 v37 hv37 v43 hv43 v45 hv45 v46 hv46 v51 hv51 t52_0 ht52_0) _ ?_
      refine own_go H0 hx hZ hown hby hw own_K0_ok (own_s2 xa xs xb xt xm t19_0 t52_0 v60 hv60 t70_0 ht70_0) _ ?_
      refine own_go H0 hx hZ hown hby hw own_K0_ok (own_s3 xa xs xb xt xm t19_0 t52_0 t70_0 v81 hv81 v82 hv82 v83 hv83 v91 hv91 v93 hv93 v94 hv94 v95 hv95 v103 hv103 v105 hv105 v106 hv106 v107 hv107 v119 hv119 v120 hv120 v121 hv121 v129 hv129 v131 hv131 v132 hv132 v133 hv133 v141 hv141 v143 hv143 v144 hv144 v145 hv145) _ ?_
      refine sts1 _ ?_
      refine own_go Hs1 hx hZ hown hby hw own_K0_ok (own_s4 xa xs xb xt xm t19_0 t52_0 t70_0 v83 v95 v107 v121 v133 v145 x1) _ ?_
      refine sts2 _ ?_
      refine own_go Hs2 hx hZ hown hby hw own_K0_ok (own_s5 xa xs xb xt xm t19_0 t52_0 t70_0 v83 v95 v107 v121 v133 v145 p0 x1) _ ?_
      refine sts3 _ ?_
      refine own_go Hs3 hx hZ hown hby hw own_K0_ok (own_s6 xa xs xb xt xm t19_0 t52_0 t70_0 v83 v95 v107 v121 v133 v145 p1 p0 x1) _ ?_
      refine sts4 _ ?_
      refine own_go Hs4 hx hZ hown hby hw own_K0_ok (own_s7 xa xs xb xt xm t19_0 t52_0 t70_0 v83 v95 v107 v121 v133 v145 p2 p1 p0 x1) _ ?_
      refine sts5 _ ?_
      refine sts6 _ ?_
      refine own_go Hs6 hx hZ hown hby hw own_K0_ok (own_s8 xa xs xb xt xm t19_0 t52_0 t70_0 v83 v95 v107 v121 v133 v145 x1) _ ?_
      refine sts7 _ ?_
      refine own_go Hs7 hx hZ hown hby hw own_K0_ok (own_s9 xa xs xb xt xm t19_0 t52_0 t70_0 v83 v95 v107 v121 v133 v145 x1 x2) _ ?_
      refine sts8 _ ?_
      refine own_go Hs8 hx hZ hown hby hw own_K0_ok (own_s10 xa xs xb xt xm t19_0 t52_0 t70_0 v83 v95 v107 v121 v133 v145 x1 q0 x2) _ ?_
      refine sts9 _ ?_
      refine own_go Hs9 hx hZ hown hby hw own_K0_ok (own_s11 xa xs xb xt xm t19_0 t52_0 t70_0 v83 v95 v107 v121 v133 v145 x1 q1 q0 x2) _ ?_
      refine sts10 _ ?_
      refine own_go Hs10 hx hZ hown hby hw own_K0_ok (own_s12 xa xs xb xt xm t19_0 t52_0 t70_0 v83 v95 v107 v121 v133 v145 x1 q2 q1 q0 x2) _ ?_
      refine sts11 _ ?_
      refine sts12 _ ?_
      refine own_go Hs12 hx hZ hown hby hw own_K0_ok (own_sz1_0 xa xs xb xt xm t19_0 t52_0 t70_0 v83 v95 v107 v121 v133 v145 x1 x2 v241 hv241 hl243) _ ?_
      refine stsz1_1 _ ?_
      refine own_go Hsz1_1 hx hZ hown hby hw own_K0_ok (own_sz1_1 xa xs xb xt xm t19_0 t52_0 t70_0 v83 v95 v107 v121 v133 v145 x1 x2) _ ?_
      refine stsz1_2 _ ?_
      refine own_go Hsz1_2 hx hZ hown hby hw own_K0_ok (own_sz1_2 xa xs xb xt xm t19_0 t52_0 t70_0 v83 v95 v107 v121 v133 v145 x1 x2) _ ?_
      refine stsz1_3 _ ?_
      refine own_go Hsz1_3 hx hZ hown hby hw own_K0_ok (own_sz1_3 xa xs xb xt xm t19_0 t52_0 t70_0 v83 v95 v107 v121 v133 v145 x1 x2) _ ?_
      refine stsz1_4 _ ?_
      refine own_go Hsz1_4 hx hZ hown hby hw own_K0_ok (own_sz1_4 xa xs xb xt xm t19_0 t52_0 t70_0 v83 v95 v107 v121 v133 v145 x1 x2) _ ?_
      exact q
    by_cases s2 : own_Same v95 (own_flag xs (8 : Int32)) v133 (own_flag t70_0 (8 : Int32))
    rotate_left
    · skip
      obtain ⟨v241, hv241⟩ : ∃ z : Int32, (xm >>> ((2 : Int32) &&& 31)) = z := ⟨_, rfl⟩
      have hl243 : (v241 &&& (3 : Int32)) = (0 : Int32) := by rw [← hv241]; exact hkk
      obtain ⟨Tsz2_1, vsz2_1_, cssz2_1_, qsz2_1, Hsz2_1, stsz2_1⟩ := own_callS Hs12 hx hZ hown (hw _ (List.mem_of_getElem? (i := 30) rfl)) (hw _ (List.mem_of_getElem? (i := 31) rfl)) (hw _ (List.mem_of_getElem? (i := 5) rfl)) (hw _ (List.mem_of_getElem? (i := 32) rfl)) (by decide) (argsL := [(.long t19_0), (.int xs), (.long t52_0), (.int t70_0), (.int (6 : Int32))]) (rest := []) (W := 0) (own_same1 l Z a0 hb0 hw t19_0 xs t52_0 t70_0 (6 : Int32) _ s0) (by decide) (by decide) (by decide) (by decide) (g := (mkF m 320 (List.toArray ((.val (.int xa)) :: (.val (.int xs)) :: (.val (.int xb)) :: (.val (.int xt)) :: (.val (.int xm)) :: (.val (.long t19_0)) :: .second :: (.val (.long t52_0)) :: .second :: (.val (.int xs)) :: (.val (.int t70_0)) :: (.val (.long t19_0)) :: .second :: (.val (.long v83)) :: .second :: (.val (.long v95)) :: .second :: (.val (.long v107)) :: .second :: (.val (.long t52_0)) :: .second :: (.val (.long v121)) :: .second :: (.val (.long v133)) :: .second :: (.val (.long v145)) :: .second :: (.val (.ref x1)) :: (.val (.ref x2)) :: (.val (.int (0 : Int32))) :: .unset :: [])) [(.int (6 : Int32)), (.int t70_0), (.long t52_0), (.int xs), (.long t19_0)])) rfl (by rw [hml]; rfl) (lenOf own_pd10 rfl) rfl (by show 2 * 0 + _ ≤ _; exact Nat.le_of_eq rfl) (hb hby at_320)
      obtain ⟨rfl, rfl⟩ := qsz2_1
      change own_S _ _ _ _ _ _ _ _ _ _ _ _ _ _ [(x1, own_O "com/example/hazeline/hazeline/fuzzy/Trapezoid" [("com/example/hazeline/hazeline/fuzzy/Trapezoid", "a", "D", .double p0), ("com/example/hazeline/hazeline/fuzzy/Trapezoid", "b", "D", .double p1), ("com/example/hazeline/hazeline/fuzzy/Trapezoid", "c", "D", .double p2), ("com/example/hazeline/hazeline/fuzzy/Trapezoid", "d", "D", .double p3)]), (x2, own_O "com/example/hazeline/hazeline/fuzzy/Trapezoid" [("com/example/hazeline/hazeline/fuzzy/Trapezoid", "a", "D", .double q0), ("com/example/hazeline/hazeline/fuzzy/Trapezoid", "b", "D", .double q1), ("com/example/hazeline/hazeline/fuzzy/Trapezoid", "c", "D", .double q2), ("com/example/hazeline/hazeline/fuzzy/Trapezoid", "d", "D", .double q3)])] _ _ at Hsz2_1
      have e0 : p0 = q0 := by rw [hp0, hq0]; exact own_same_eq s0
      obtain ⟨Tsz2_2, vsz2_2_, cssz2_2_, qsz2_2, Hsz2_2, stsz2_2⟩ := own_callS Hsz2_1 hx hZ hown (hw _ (List.mem_of_getElem? (i := 30) rfl)) (hw _ (List.mem_of_getElem? (i := 31) rfl)) (hw _ (List.mem_of_getElem? (i := 5) rfl)) (hw _ (List.mem_of_getElem? (i := 32) rfl)) (by decide) (argsL := [(.long v83), (.int xs), (.long v121), (.int t70_0), (.int (7 : Int32))]) (rest := []) (W := 0) (own_same1 l Z a0 hb0 hw v83 xs v121 t70_0 (7 : Int32) _ s1) (by decide) (by decide) (by decide) (by decide) (g := (mkF m 336 (List.toArray ((.val (.int xa)) :: (.val (.int xs)) :: (.val (.int xb)) :: (.val (.int xt)) :: (.val (.int xm)) :: (.val (.long t19_0)) :: .second :: (.val (.long t52_0)) :: .second :: (.val (.int xs)) :: (.val (.int t70_0)) :: (.val (.long t19_0)) :: .second :: (.val (.long v83)) :: .second :: (.val (.long v95)) :: .second :: (.val (.long v107)) :: .second :: (.val (.long t52_0)) :: .second :: (.val (.long v121)) :: .second :: (.val (.long v133)) :: .second :: (.val (.long v145)) :: .second :: (.val (.ref x1)) :: (.val (.ref x2)) :: (.val (.int (0 : Int32))) :: .unset :: [])) [(.int (7 : Int32)), (.int t70_0), (.long v121), (.int xs), (.long v83)])) rfl (by rw [hml]; rfl) (lenOf own_pd10 rfl) rfl (by show 2 * 0 + _ ≤ _; exact Nat.le_of_eq rfl) (hb hby at_336)
      obtain ⟨rfl, rfl⟩ := qsz2_2
      change own_S _ _ _ _ _ _ _ _ _ _ _ _ _ _ [(x1, own_O "com/example/hazeline/hazeline/fuzzy/Trapezoid" [("com/example/hazeline/hazeline/fuzzy/Trapezoid", "a", "D", .double p0), ("com/example/hazeline/hazeline/fuzzy/Trapezoid", "b", "D", .double p1), ("com/example/hazeline/hazeline/fuzzy/Trapezoid", "c", "D", .double p2), ("com/example/hazeline/hazeline/fuzzy/Trapezoid", "d", "D", .double p3)]), (x2, own_O "com/example/hazeline/hazeline/fuzzy/Trapezoid" [("com/example/hazeline/hazeline/fuzzy/Trapezoid", "a", "D", .double q0), ("com/example/hazeline/hazeline/fuzzy/Trapezoid", "b", "D", .double q1), ("com/example/hazeline/hazeline/fuzzy/Trapezoid", "c", "D", .double q2), ("com/example/hazeline/hazeline/fuzzy/Trapezoid", "d", "D", .double q3)])] _ _ at Hsz2_2
      have e1 : p1 = q1 := by rw [hp1, hq1]; exact own_same_eq s1
      obtain ⟨Tsz2_3, vsz2_3_, cssz2_3_, qsz2_3, Hsz2_3, stsz2_3⟩ := own_callS Hsz2_2 hx hZ hown (hw _ (List.mem_of_getElem? (i := 30) rfl)) (hw _ (List.mem_of_getElem? (i := 31) rfl)) (hw _ (List.mem_of_getElem? (i := 5) rfl)) (hw _ (List.mem_of_getElem? (i := 32) rfl)) (by decide) (argsL := [(.long v95), (.int xs), (.long v133), (.int t70_0), (.int (8 : Int32))]) (rest := []) (W := 0) (own_same0 l Z a0 hb0 hw v95 xs v133 t70_0 (8 : Int32) _ s2) (by decide) (by decide) (by decide) (by decide) (g := (mkF m 352 (List.toArray ((.val (.int xa)) :: (.val (.int xs)) :: (.val (.int xb)) :: (.val (.int xt)) :: (.val (.int xm)) :: (.val (.long t19_0)) :: .second :: (.val (.long t52_0)) :: .second :: (.val (.int xs)) :: (.val (.int t70_0)) :: (.val (.long t19_0)) :: .second :: (.val (.long v83)) :: .second :: (.val (.long v95)) :: .second :: (.val (.long v107)) :: .second :: (.val (.long t52_0)) :: .second :: (.val (.long v121)) :: .second :: (.val (.long v133)) :: .second :: (.val (.long v145)) :: .second :: (.val (.ref x1)) :: (.val (.ref x2)) :: (.val (.int (0 : Int32))) :: .unset :: [])) [(.int (8 : Int32)), (.int t70_0), (.long v133), (.int xs), (.long v95)])) rfl (by rw [hml]; rfl) (lenOf own_pd10 rfl) rfl (by show 2 * 0 + _ ≤ _; exact Nat.le_of_eq rfl) (hb hby at_352)
      obtain ⟨rfl, rfl⟩ := qsz2_3
      change own_S _ _ _ _ _ _ _ _ _ _ _ _ _ _ [(x1, own_O "com/example/hazeline/hazeline/fuzzy/Trapezoid" [("com/example/hazeline/hazeline/fuzzy/Trapezoid", "a", "D", .double p0), ("com/example/hazeline/hazeline/fuzzy/Trapezoid", "b", "D", .double p1), ("com/example/hazeline/hazeline/fuzzy/Trapezoid", "c", "D", .double p2), ("com/example/hazeline/hazeline/fuzzy/Trapezoid", "d", "D", .double p3)]), (x2, own_O "com/example/hazeline/hazeline/fuzzy/Trapezoid" [("com/example/hazeline/hazeline/fuzzy/Trapezoid", "a", "D", .double q0), ("com/example/hazeline/hazeline/fuzzy/Trapezoid", "b", "D", .double q1), ("com/example/hazeline/hazeline/fuzzy/Trapezoid", "c", "D", .double q2), ("com/example/hazeline/hazeline/fuzzy/Trapezoid", "d", "D", .double q3)])] _ _ at Hsz2_3
      have e2 : p2 ≠ q2 := by rw [hp2, hq2]; exact own_same_ne (own_flag01 _ _) (own_flag01 _ _) (by omega) (by omega) s2
      obtain ⟨Tsz2_4, vsz2_4_, cssz2_4_, qsz2_4, Hsz2_4, stsz2_4⟩ := own_callV Hsz2_3 hx hZ hown (hw _ (List.mem_of_getElem? (i := 33) rfl)) (hw _ (List.mem_of_getElem? (i := 34) rfl)) (hw _ (List.mem_of_getElem? (i := 36) rfl)) (hw _ (List.mem_of_getElem? (i := 35) rfl)) (hw _ (List.mem_of_getElem? (i := 2) rfl)) (hw _ (List.mem_of_getElem? (i := 37) rfl)) (by decide) (x := x1) 0 rfl (argsL := [(.ref x2)]) (rest := []) (W := 0) (own_eqa2 l Z a0 hb0 hw x1 x2 p0 p1 p2 p3 q0 q1 q2 q3 _ _ i0 j0 e0 _ _ i1 j1 e1 _ _ i2 j2 e2) (by decide) (by decide) (by decide) (by decide) (g := (mkF m 385 (List.toArray ((.val (.int xa)) :: (.val (.int xs)) :: (.val (.int xb)) :: (.val (.int xt)) :: (.val (.int xm)) :: (.val (.long t19_0)) :: .second :: (.val (.long t52_0)) :: .second :: (.val (.int xs)) :: (.val (.int t70_0)) :: (.val (.long t19_0)) :: .second :: (.val (.long v83)) :: .second :: (.val (.long v95)) :: .second :: (.val (.long v107)) :: .second :: (.val (.long t52_0)) :: .second :: (.val (.long v121)) :: .second :: (.val (.long v133)) :: .second :: (.val (.long v145)) :: .second :: (.val (.ref x1)) :: (.val (.ref x2)) :: (.val (.int (0 : Int32))) :: (.val (.int (0 : Int32))) :: [])) [(.ref x2), (.ref x1)])) rfl (by rw [hml]; rfl) (lenOf own_pd11 rfl) rfl (by show 2 * 0 + _ ≤ _; exact Nat.le_of_eq rfl) (hb hby at_385)
      obtain ⟨rfl, rfl⟩ := qsz2_4
      change own_S _ _ _ _ _ _ _ _ _ _ _ _ _ _ [(x1, own_O "com/example/hazeline/hazeline/fuzzy/Trapezoid" [("com/example/hazeline/hazeline/fuzzy/Trapezoid", "a", "D", .double p0), ("com/example/hazeline/hazeline/fuzzy/Trapezoid", "b", "D", .double p1), ("com/example/hazeline/hazeline/fuzzy/Trapezoid", "c", "D", .double p2), ("com/example/hazeline/hazeline/fuzzy/Trapezoid", "d", "D", .double p3)]), (x2, own_O "com/example/hazeline/hazeline/fuzzy/Trapezoid" [("com/example/hazeline/hazeline/fuzzy/Trapezoid", "a", "D", .double q0), ("com/example/hazeline/hazeline/fuzzy/Trapezoid", "b", "D", .double q1), ("com/example/hazeline/hazeline/fuzzy/Trapezoid", "c", "D", .double q2), ("com/example/hazeline/hazeline/fuzzy/Trapezoid", "d", "D", .double q3)])] _ _ at Hsz2_4
      obtain ⟨Tsz2_5, vsz2_5_, cssz2_5_, qsz2_5, Hsz2_5, stsz2_5⟩ := own_callV Hsz2_4 hx hZ hown (hw _ (List.mem_of_getElem? (i := 33) rfl)) (hw _ (List.mem_of_getElem? (i := 34) rfl)) (hw _ (List.mem_of_getElem? (i := 36) rfl)) (hw _ (List.mem_of_getElem? (i := 35) rfl)) (hw _ (List.mem_of_getElem? (i := 2) rfl)) (hw _ (List.mem_of_getElem? (i := 37) rfl)) (by decide) (x := x2) 1 rfl (argsL := [(.ref x1)]) (rest := []) (W := 0) (own_eqb2 l Z a0 hb0 hw x2 x1 p0 p1 p2 p3 q0 q1 q2 q3 _ _ j0 i0 e0.symm _ _ j1 i1 e1.symm _ _ j2 i2 e2.symm) (by decide) (by decide) (by decide) (by decide) (g := (mkF m 397 (List.toArray ((.val (.int xa)) :: (.val (.int xs)) :: (.val (.int xb)) :: (.val (.int xt)) :: (.val (.int xm)) :: (.val (.long t19_0)) :: .second :: (.val (.long t52_0)) :: .second :: (.val (.int xs)) :: (.val (.int t70_0)) :: (.val (.long t19_0)) :: .second :: (.val (.long v83)) :: .second :: (.val (.long v95)) :: .second :: (.val (.long v107)) :: .second :: (.val (.long t52_0)) :: .second :: (.val (.long v121)) :: .second :: (.val (.long v133)) :: .second :: (.val (.long v145)) :: .second :: (.val (.ref x1)) :: (.val (.ref x2)) :: (.val (.int (0 : Int32))) :: (.val (.int (0 : Int32))) :: [])) [(.ref x1), (.ref x2)])) rfl (by rw [hml]; rfl) (lenOf own_pd11 rfl) rfl (by show 2 * 0 + _ ≤ _; exact Nat.le_of_eq rfl) (hb hby at_397)
      obtain ⟨rfl, rfl⟩ := qsz2_5
      change own_S _ _ _ _ _ _ _ _ _ _ _ _ _ _ [(x1, own_O "com/example/hazeline/hazeline/fuzzy/Trapezoid" [("com/example/hazeline/hazeline/fuzzy/Trapezoid", "a", "D", .double p0), ("com/example/hazeline/hazeline/fuzzy/Trapezoid", "b", "D", .double p1), ("com/example/hazeline/hazeline/fuzzy/Trapezoid", "c", "D", .double p2), ("com/example/hazeline/hazeline/fuzzy/Trapezoid", "d", "D", .double p3)]), (x2, own_O "com/example/hazeline/hazeline/fuzzy/Trapezoid" [("com/example/hazeline/hazeline/fuzzy/Trapezoid", "a", "D", .double q0), ("com/example/hazeline/hazeline/fuzzy/Trapezoid", "b", "D", .double q1), ("com/example/hazeline/hazeline/fuzzy/Trapezoid", "c", "D", .double q2), ("com/example/hazeline/hazeline/fuzzy/Trapezoid", "d", "D", .double q3)])] _ _ at Hsz2_5
      refine ⟨_, _, _, _, 410, (List.toArray ((.val (.int xa)) :: (.val (.int xs)) :: (.val (.int xb)) :: (.val (.int xt)) :: (.val (.int xm)) :: (.val (.long t19_0)) :: .second :: (.val (.long t52_0)) :: .second :: (.val (.int xs)) :: (.val (.int t70_0)) :: (.val (.long t19_0)) :: .second :: (.val (.long v83)) :: .second :: (.val (.long v95)) :: .second :: (.val (.long v107)) :: .second :: (.val (.long t52_0)) :: .second :: (.val (.long v121)) :: .second :: (.val (.long v133)) :: .second :: (.val (.long v145)) :: .second :: (.val (.ref x1)) :: (.val (.ref x2)) :: (.val (.int (0 : Int32))) :: (.val (.int (0 : Int32))) :: [])), Hsz2_5, by decide, by decide, Or.inr ⟨.boolean, (.int (1 : Int32)), [], .ireturn, rfl, rfl, at_410, own_retZ (Or.inr rfl), fun target q => ?_⟩⟩
      refine own_go H0 hx hZ hown hby hw own_K0_ok (own_s0 xa xs xb xt xm v4 hv4 v10 hv10 v12 hv12 v13 hv13 v18 hv18 t19_0 ht19_0) _ ?_
      refine own_go H0 hx hZ hown hby hw own_K0_ok (own_s1 xa xs xb xt xm t19_0 v24 hv24 v37 hv37 v43 hv43 v45 hv45 v46 hv46 v51 hv51 t52_0 ht52_0) _ ?_
      refine own_go H0 hx hZ hown hby hw own_K0_ok (own_s2 xa xs xb xt xm t19_0 t52_0 v60 hv60 t70_0 ht70_0) _ ?_
      refine own_go H0 hx hZ hown hby hw own_K0_ok (own_s3 xa xs xb xt xm t19_0 t52_0 t70_0 v81 hv81 v82 hv82 v83 hv83 v91 hv91 v93 hv93 v94 hv94 v95 hv95 v103 hv103 v105 hv105 v106 hv106 v107 hv107 v119 hv119 v120 hv120 v121 hv121 v129 hv129 v131 hv131 v132 hv132 v133 hv133 v141 hv141 v143 hv143 v144 hv144 v145 hv145) _ ?_
      refine sts1 _ ?_
      refine own_go Hs1 hx hZ hown hby hw own_K0_ok (own_s4 xa xs xb xt xm t19_0 t52_0 t70_0 v83 v95 v107 v121 v133 v145 x1) _ ?_
      refine sts2 _ ?_
      refine own_go Hs2 hx hZ hown hby hw own_K0_ok (own_s5 xa xs xb xt xm t19_0 t52_0 t70_0 v83 v95 v107 v121 v133 v145 p0 x1) _ ?_
      refine sts3 _ ?_
      refine own_go Hs3 hx hZ hown hby hw own_K0_ok (own_s6 xa xs xb xt xm t19_0 t52_0 t70_0 v83 v95 v107 v121 v133 v145 p1 p0 x1) _ ?_
      refine sts4 _ ?_
      refine own_go Hs4 hx hZ hown hby hw own_K0_ok (own_s7 xa xs xb xt xm t19_0 t52_0 t70_0 v83 v95 v107 v121 v133 v145 p2 p1 p0 x1) _ ?_
      refine sts5 _ ?_
      refine sts6 _ ?_
      refine own_go Hs6 hx hZ hown hby hw own_K0_ok (own_s8 xa xs xb xt xm t19_0 t52_0 t70_0 v83 v95 v107 v121 v133 v145 x1) _ ?_
      refine sts7 _ ?_
      refine own_go Hs7 hx hZ hown hby hw own_K0_ok (own_s9 xa xs xb xt xm t19_0 t52_0 t70_0 v83 v95 v107 v121 v133 v145 x1 x2) _ ?_
      refine sts8 _ ?_
      refine own_go Hs8 hx hZ hown hby hw own_K0_ok (own_s10 xa xs xb xt xm t19_0 t52_0 t70_0 v83 v95 v107 v121 v133 v145 x1 q0 x2) _ ?_
      refine sts9 _ ?_
      refine own_go Hs9 hx hZ hown hby hw own_K0_ok (own_s11 xa xs xb xt xm t19_0 t52_0 t70_0 v83 v95 v107 v121 v133 v145 x1 q1 q0 x2) _ ?_
      refine sts10 _ ?_
      refine own_go Hs10 hx hZ hown hby hw own_K0_ok (own_s12 xa xs xb xt xm t19_0 t52_0 t70_0 v83 v95 v107 v121 v133 v145 x1 q2 q1 q0 x2) _ ?_
      refine sts11 _ ?_
      refine sts12 _ ?_
      refine own_go Hs12 hx hZ hown hby hw own_K0_ok (own_sz2_0 xa xs xb xt xm t19_0 t52_0 t70_0 v83 v95 v107 v121 v133 v145 x1 x2 v241 hv241 hl243) _ ?_
      refine stsz2_1 _ ?_
      refine own_go Hsz2_1 hx hZ hown hby hw own_K0_ok (own_sz2_1 xa xs xb xt xm t19_0 t52_0 t70_0 v83 v95 v107 v121 v133 v145 x1 x2) _ ?_
      refine stsz2_2 _ ?_
      refine own_go Hsz2_2 hx hZ hown hby hw own_K0_ok (own_sz2_2 xa xs xb xt xm t19_0 t52_0 t70_0 v83 v95 v107 v121 v133 v145 x1 x2) _ ?_
      refine stsz2_3 _ ?_
      refine own_go Hsz2_3 hx hZ hown hby hw own_K0_ok (own_sz2_3 xa xs xb xt xm t19_0 t52_0 t70_0 v83 v95 v107 v121 v133 v145 x1 x2) _ ?_
      refine stsz2_4 _ ?_
      refine own_go Hsz2_4 hx hZ hown hby hw own_K0_ok (own_sz2_4 xa xs xb xt xm t19_0 t52_0 t70_0 v83 v95 v107 v121 v133 v145 x1 x2) _ ?_
      refine stsz2_5 _ ?_
      refine own_go Hsz2_5 hx hZ hown hby hw own_K0_ok (own_sz2_5 xa xs xb xt xm t19_0 t52_0 t70_0 v83 v95 v107 v121 v133 v145 x1 x2) _ ?_
      exact q
    by_cases s3 : own_Same v107 (own_flag xs (9 : Int32)) v145 (own_flag t70_0 (9 : Int32))
    rotate_left
    · skip
      obtain ⟨v241, hv241⟩ : ∃ z : Int32, (xm >>> ((2 : Int32) &&& 31)) = z := ⟨_, rfl⟩
      have hl243 : (v241 &&& (3 : Int32)) = (0 : Int32) := by rw [← hv241]; exact hkk
      obtain ⟨Tsz3_1, vsz3_1_, cssz3_1_, qsz3_1, Hsz3_1, stsz3_1⟩ := own_callS Hs12 hx hZ hown (hw _ (List.mem_of_getElem? (i := 30) rfl)) (hw _ (List.mem_of_getElem? (i := 31) rfl)) (hw _ (List.mem_of_getElem? (i := 5) rfl)) (hw _ (List.mem_of_getElem? (i := 32) rfl)) (by decide) (argsL := [(.long t19_0), (.int xs), (.long t52_0), (.int t70_0), (.int (6 : Int32))]) (rest := []) (W := 0) (own_same1 l Z a0 hb0 hw t19_0 xs t52_0 t70_0 (6 : Int32) _ s0) (by decide) (by decide) (by decide) (by decide) (g := (mkF m 320 (List.toArray ((.val (.int xa)) :: (.val (.int xs)) :: (.val (.int xb)) :: (.val (.int xt)) :: (.val (.int xm)) :: (.val (.long t19_0)) :: .second :: (.val (.long t52_0)) :: .second :: (.val (.int xs)) :: (.val (.int t70_0)) :: (.val (.long t19_0)) :: .second :: (.val (.long v83)) :: .second :: (.val (.long v95)) :: .second :: (.val (.long v107)) :: .second :: (.val (.long t52_0)) :: .second :: (.val (.long v121)) :: .second :: (.val (.long v133)) :: .second :: (.val (.long v145)) :: .second :: (.val (.ref x1)) :: (.val (.ref x2)) :: (.val (.int (0 : Int32))) :: .unset :: [])) [(.int (6 : Int32)), (.int t70_0), (.long t52_0), (.int xs), (.long t19_0)])) rfl (by rw [hml]; rfl) (lenOf own_pd10 rfl) rfl (by show 2 * 0 + _ ≤ _; exact Nat.le_of_eq rfl) (hb hby at_320)
      obtain ⟨rfl, rfl⟩ := qsz3_1
      change own_S _ _ _ _ _ _ _ _ _ _ _ _ _ _ [(x1, own_O "com/example/hazeline/hazeline/fuzzy/Trapezoid" [("com/example/hazeline/hazeline/fuzzy/Trapezoid", "a", "D", .double p0), ("com/example/hazeline/hazeline/fuzzy/Trapezoid", "b", "D", .double p1), ("com/example/hazeline/hazeline/fuzzy/Trapezoid", "c", "D", .double p2), ("com/example/hazeline/hazeline/fuzzy/Trapezoid", "d", "D", .double p3)]), (x2, own_O "com/example/hazeline/hazeline/fuzzy/Trapezoid" [("com/example/hazeline/hazeline/fuzzy/Trapezoid", "a", "D", .double q0), ("com/example/hazeline/hazeline/fuzzy/Trapezoid", "b", "D", .double q1), ("com/example/hazeline/hazeline/fuzzy/Trapezoid", "c", "D", .double q2), ("com/example/hazeline/hazeline/fuzzy/Trapezoid", "d", "D", .double q3)])] _ _ at Hsz3_1
      have e0 : p0 = q0 := by rw [hp0, hq0]; exact own_same_eq s0
      obtain ⟨Tsz3_2, vsz3_2_, cssz3_2_, qsz3_2, Hsz3_2, stsz3_2⟩ := own_callS Hsz3_1 hx hZ hown (hw _ (List.mem_of_getElem? (i := 30) rfl)) (hw _ (List.mem_of_getElem? (i := 31) rfl)) (hw _ (List.mem_of_getElem? (i := 5) rfl)) (hw _ (List.mem_of_getElem? (i := 32) rfl)) (by decide) (argsL := [(.long v83), (.int xs), (.long v121), (.int t70_0), (.int (7 : Int32))]) (rest := []) (W := 0) (own_same1 l Z a0 hb0 hw v83 xs v121 t70_0 (7 : Int32) _ s1) (by decide) (by decide) (by decide) (by decide) (g := (mkF m 336 (List.toArray ((.val (.int xa)) :: (.val (.int xs)) :: (.val (.int xb)) :: (.val (.int xt)) :: (.val (.int xm)) :: (.val (.long t19_0)) :: .second :: (.val (.long t52_0)) :: .second :: (.val (.int xs)) :: (.val (.int t70_0)) :: (.val (.long t19_0)) :: .second :: (.val (.long v83)) :: .second :: (.val (.long v95)) :: .second :: (.val (.long v107)) :: .second :: (.val (.long t52_0)) :: .second :: (.val (.long v121)) :: .second :: (.val (.long v133)) :: .second :: (.val (.long v145)) :: .second :: (.val (.ref x1)) :: (.val (.ref x2)) :: (.val (.int (0 : Int32))) :: .unset :: [])) [(.int (7 : Int32)), (.int t70_0), (.long v121), (.int xs), (.long v83)])) rfl (by rw [hml]; rfl) (lenOf own_pd10 rfl) rfl (by show 2 * 0 + _ ≤ _; exact Nat.le_of_eq rfl) (hb hby at_336)
      obtain ⟨rfl, rfl⟩ := qsz3_2
      change own_S _ _ _ _ _ _ _ _ _ _ _ _ _ _ [(x1, own_O "com/example/hazeline/hazeline/fuzzy/Trapezoid" [("com/example/hazeline/hazeline/fuzzy/Trapezoid", "a", "D", .double p0), ("com/example/hazeline/hazeline/fuzzy/Trapezoid", "b", "D", .double p1), ("com/example/hazeline/hazeline/fuzzy/Trapezoid", "c", "D", .double p2), ("com/example/hazeline/hazeline/fuzzy/Trapezoid", "d", "D", .double p3)]), (x2, own_O "com/example/hazeline/hazeline/fuzzy/Trapezoid" [("com/example/hazeline/hazeline/fuzzy/Trapezoid", "a", "D", .double q0), ("com/example/hazeline/hazeline/fuzzy/Trapezoid", "b", "D", .double q1), ("com/example/hazeline/hazeline/fuzzy/Trapezoid", "c", "D", .double q2), ("com/example/hazeline/hazeline/fuzzy/Trapezoid", "d", "D", .double q3)])] _ _ at Hsz3_2
      have e1 : p1 = q1 := by rw [hp1, hq1]; exact own_same_eq s1
      obtain ⟨Tsz3_3, vsz3_3_, cssz3_3_, qsz3_3, Hsz3_3, stsz3_3⟩ := own_callS Hsz3_2 hx hZ hown (hw _ (List.mem_of_getElem? (i := 30) rfl)) (hw _ (List.mem_of_getElem? (i := 31) rfl)) (hw _ (List.mem_of_getElem? (i := 5) rfl)) (hw _ (List.mem_of_getElem? (i := 32) rfl)) (by decide) (argsL := [(.long v95), (.int xs), (.long v133), (.int t70_0), (.int (8 : Int32))]) (rest := []) (W := 0) (own_same1 l Z a0 hb0 hw v95 xs v133 t70_0 (8 : Int32) _ s2) (by decide) (by decide) (by decide) (by decide) (g := (mkF m 352 (List.toArray ((.val (.int xa)) :: (.val (.int xs)) :: (.val (.int xb)) :: (.val (.int xt)) :: (.val (.int xm)) :: (.val (.long t19_0)) :: .second :: (.val (.long t52_0)) :: .second :: (.val (.int xs)) :: (.val (.int t70_0)) :: (.val (.long t19_0)) :: .second :: (.val (.long v83)) :: .second :: (.val (.long v95)) :: .second :: (.val (.long v107)) :: .second :: (.val (.long t52_0)) :: .second :: (.val (.long v121)) :: .second :: (.val (.long v133)) :: .second :: (.val (.long v145)) :: .second :: (.val (.ref x1)) :: (.val (.ref x2)) :: (.val (.int (0 : Int32))) :: .unset :: [])) [(.int (8 : Int32)), (.int t70_0), (.long v133), (.int xs), (.long v95)])) rfl (by rw [hml]; rfl) (lenOf own_pd10 rfl) rfl (by show 2 * 0 + _ ≤ _; exact Nat.le_of_eq rfl) (hb hby at_352)
      obtain ⟨rfl, rfl⟩ := qsz3_3
      change own_S _ _ _ _ _ _ _ _ _ _ _ _ _ _ [(x1, own_O "com/example/hazeline/hazeline/fuzzy/Trapezoid" [("com/example/hazeline/hazeline/fuzzy/Trapezoid", "a", "D", .double p0), ("com/example/hazeline/hazeline/fuzzy/Trapezoid", "b", "D", .double p1), ("com/example/hazeline/hazeline/fuzzy/Trapezoid", "c", "D", .double p2), ("com/example/hazeline/hazeline/fuzzy/Trapezoid", "d", "D", .double p3)]), (x2, own_O "com/example/hazeline/hazeline/fuzzy/Trapezoid" [("com/example/hazeline/hazeline/fuzzy/Trapezoid", "a", "D", .double q0), ("com/example/hazeline/hazeline/fuzzy/Trapezoid", "b", "D", .double q1), ("com/example/hazeline/hazeline/fuzzy/Trapezoid", "c", "D", .double q2), ("com/example/hazeline/hazeline/fuzzy/Trapezoid", "d", "D", .double q3)])] _ _ at Hsz3_3
      have e2 : p2 = q2 := by rw [hp2, hq2]; exact own_same_eq s2
      obtain ⟨Tsz3_4, vsz3_4_, cssz3_4_, qsz3_4, Hsz3_4, stsz3_4⟩ := own_callS Hsz3_3 hx hZ hown (hw _ (List.mem_of_getElem? (i := 30) rfl)) (hw _ (List.mem_of_getElem? (i := 31) rfl)) (hw _ (List.mem_of_getElem? (i := 5) rfl)) (hw _ (List.mem_of_getElem? (i := 32) rfl)) (by decide) (argsL := [(.long v107), (.int xs), (.long v145), (.int t70_0), (.int (9 : Int32))]) (rest := []) (W := 0) (own_same0 l Z a0 hb0 hw v107 xs v145 t70_0 (9 : Int32) _ s3) (by decide) (by decide) (by decide) (by decide) (g := (mkF m 368 (List.toArray ((.val (.int xa)) :: (.val (.int xs)) :: (.val (.int xb)) :: (.val (.int xt)) :: (.val (.int xm)) :: (.val (.long t19_0)) :: .second :: (.val (.long t52_0)) :: .second :: (.val (.int xs)) :: (.val (.int t70_0)) :: (.val (.long t19_0)) :: .second :: (.val (.long v83)) :: .second :: (.val (.long v95)) :: .second :: (.val (.long v107)) :: .second :: (.val (.long t52_0)) :: .second :: (.val (.long v121)) :: .second :: (.val (.long v133)) :: .second :: (.val (.long v145)) :: .second :: (.val (.ref x1)) :: (.val (.ref x2)) :: (.val (.int (0 : Int32))) :: .unset :: [])) [(.int (9 : Int32)), (.int t70_0), (.long v145), (.int xs), (.long v107)])) rfl (by rw [hml]; rfl) (lenOf own_pd10 rfl) rfl (by show 2 * 0 + _ ≤ _; exact Nat.le_of_eq rfl) (hb hby at_368)
      obtain ⟨rfl, rfl⟩ := qsz3_4
      change own_S _ _ _ _ _ _ _ _ _ _ _ _ _ _ [(x1, own_O "com/example/hazeline/hazeline/fuzzy/Trapezoid" [("com/example/hazeline/hazeline/fuzzy/Trapezoid", "a", "D", .double p0), ("com/example/hazeline/hazeline/fuzzy/Trapezoid", "b", "D", .double p1), ("com/example/hazeline/hazeline/fuzzy/Trapezoid", "c", "D", .double p2), ("com/example/hazeline/hazeline/fuzzy/Trapezoid", "d", "D", .double p3)]), (x2, own_O "com/example/hazeline/hazeline/fuzzy/Trapezoid" [("com/example/hazeline/hazeline/fuzzy/Trapezoid", "a", "D", .double q0), ("com/example/hazeline/hazeline/fuzzy/Trapezoid", "b", "D", .double q1), ("com/example/hazeline/hazeline/fuzzy/Trapezoid", "c", "D", .double q2), ("com/example/hazeline/hazeline/fuzzy/Trapezoid", "d", "D", .double q3)])] _ _ at Hsz3_4
      have e3 : p3 ≠ q3 := by rw [hp3, hq3]; exact own_same_ne (own_flag01 _ _) (own_flag01 _ _) (by omega) (by omega) s3
      obtain ⟨Tsz3_5, vsz3_5_, cssz3_5_, qsz3_5, Hsz3_5, stsz3_5⟩ := own_callV Hsz3_4 hx hZ hown (hw _ (List.mem_of_getElem? (i := 33) rfl)) (hw _ (List.mem_of_getElem? (i := 34) rfl)) (hw _ (List.mem_of_getElem? (i := 36) rfl)) (hw _ (List.mem_of_getElem? (i := 35) rfl)) (hw _ (List.mem_of_getElem? (i := 2) rfl)) (hw _ (List.mem_of_getElem? (i := 37) rfl)) (by decide) (x := x1) 0 rfl (argsL := [(.ref x2)]) (rest := []) (W := 0) (own_eqa3 l Z a0 hb0 hw x1 x2 p0 p1 p2 p3 q0 q1 q2 q3 _ _ i0 j0 e0 _ _ i1 j1 e1 _ _ i2 j2 e2 _ _ i3 j3 e3) (by decide) (by decide) (by decide) (by decide) (g := (mkF m 385 (List.toArray ((.val (.int xa)) :: (.val (.int xs)) :: (.val (.int xb)) :: (.val (.int xt)) :: (.val (.int xm)) :: (.val (.long t19_0)) :: .second :: (.val (.long t52_0)) :: .second :: (.val (.int xs)) :: (.val (.int t70_0)) :: (.val (.long t19_0)) :: .second :: (.val (.long v83)) :: .second :: (.val (.long v95)) :: .second :: (.val (.long v107)) :: .second :: (.val (.long t52_0)) :: .second :: (.val (.long v121)) :: .second :: (.val (.long v133)) :: .second :: (.val (.long v145)) :: .second :: (.val (.ref x1)) :: (.val (.ref x2)) :: (.val (.int (0 : Int32))) :: (.val (.int (0 : Int32))) :: [])) [(.ref x2), (.ref x1)])) rfl (by rw [hml]; rfl) (lenOf own_pd11 rfl) rfl (by show 2 * 0 + _ ≤ _; exact Nat.le_of_eq rfl) (hb hby at_385)
      obtain ⟨rfl, rfl⟩ := qsz3_5
      change own_S _ _ _ _ _ _ _ _ _ _ _ _ _ _ [(x1, own_O "com/example/hazeline/hazeline/fuzzy/Trapezoid" [("com/example/hazeline/hazeline/fuzzy/Trapezoid", "a", "D", .double p0), ("com/example/hazeline/hazeline/fuzzy/Trapezoid", "b", "D", .double p1), ("com/example/hazeline/hazeline/fuzzy/Trapezoid", "c", "D", .double p2), ("com/example/hazeline/hazeline/fuzzy/Trapezoid", "d", "D", .double p3)]), (x2, own_O "com/example/hazeline/hazeline/fuzzy/Trapezoid" [("com/example/hazeline/hazeline/fuzzy/Trapezoid", "a", "D", .double q0), ("com/example/hazeline/hazeline/fuzzy/Trapezoid", "b", "D", .double q1), ("com/example/hazeline/hazeline/fuzzy/Trapezoid", "c", "D", .double q2), ("com/example/hazeline/hazeline/fuzzy/Trapezoid", "d", "D", .double q3)])] _ _ at Hsz3_5
      obtain ⟨Tsz3_6, vsz3_6_, cssz3_6_, qsz3_6, Hsz3_6, stsz3_6⟩ := own_callV Hsz3_5 hx hZ hown (hw _ (List.mem_of_getElem? (i := 33) rfl)) (hw _ (List.mem_of_getElem? (i := 34) rfl)) (hw _ (List.mem_of_getElem? (i := 36) rfl)) (hw _ (List.mem_of_getElem? (i := 35) rfl)) (hw _ (List.mem_of_getElem? (i := 2) rfl)) (hw _ (List.mem_of_getElem? (i := 37) rfl)) (by decide) (x := x2) 1 rfl (argsL := [(.ref x1)]) (rest := []) (W := 0) (own_eqb3 l Z a0 hb0 hw x2 x1 p0 p1 p2 p3 q0 q1 q2 q3 _ _ j0 i0 e0.symm _ _ j1 i1 e1.symm _ _ j2 i2 e2.symm _ _ j3 i3 e3.symm) (by decide) (by decide) (by decide) (by decide) (g := (mkF m 397 (List.toArray ((.val (.int xa)) :: (.val (.int xs)) :: (.val (.int xb)) :: (.val (.int xt)) :: (.val (.int xm)) :: (.val (.long t19_0)) :: .second :: (.val (.long t52_0)) :: .second :: (.val (.int xs)) :: (.val (.int t70_0)) :: (.val (.long t19_0)) :: .second :: (.val (.long v83)) :: .second :: (.val (.long v95)) :: .second :: (.val (.long v107)) :: .second :: (.val (.long t52_0)) :: .second :: (.val (.long v121)) :: .second :: (.val (.long v133)) :: .second :: (.val (.long v145)) :: .second :: (.val (.ref x1)) :: (.val (.ref x2)) :: (.val (.int (0 : Int32))) :: (.val (.int (0 : Int32))) :: [])) [(.ref x1), (.ref x2)])) rfl (by rw [hml]; rfl) (lenOf own_pd11 rfl) rfl (by show 2 * 0 + _ ≤ _; exact Nat.le_of_eq rfl) (hb hby at_397)
      obtain ⟨rfl, rfl⟩ := qsz3_6
      change own_S _ _ _ _ _ _ _ _ _ _ _ _ _ _ [(x1, own_O "com/example/hazeline/hazeline/fuzzy/Trapezoid" [("com/example/hazeline/hazeline/fuzzy/Trapezoid", "a", "D", .double p0), ("com/example/hazeline/hazeline/fuzzy/Trapezoid", "b", "D", .double p1), ("com/example/hazeline/hazeline/fuzzy/Trapezoid", "c", "D", .double p2), ("com/example/hazeline/hazeline/fuzzy/Trapezoid", "d", "D", .double p3)]), (x2, own_O "com/example/hazeline/hazeline/fuzzy/Trapezoid" [("com/example/hazeline/hazeline/fuzzy/Trapezoid", "a", "D", .double q0), ("com/example/hazeline/hazeline/fuzzy/Trapezoid", "b", "D", .double q1), ("com/example/hazeline/hazeline/fuzzy/Trapezoid", "c", "D", .double q2), ("com/example/hazeline/hazeline/fuzzy/Trapezoid", "d", "D", .double q3)])] _ _ at Hsz3_6
      refine ⟨_, _, _, _, 410, (List.toArray ((.val (.int xa)) :: (.val (.int xs)) :: (.val (.int xb)) :: (.val (.int xt)) :: (.val (.int xm)) :: (.val (.long t19_0)) :: .second :: (.val (.long t52_0)) :: .second :: (.val (.int xs)) :: (.val (.int t70_0)) :: (.val (.long t19_0)) :: .second :: (.val (.long v83)) :: .second :: (.val (.long v95)) :: .second :: (.val (.long v107)) :: .second :: (.val (.long t52_0)) :: .second :: (.val (.long v121)) :: .second :: (.val (.long v133)) :: .second :: (.val (.long v145)) :: .second :: (.val (.ref x1)) :: (.val (.ref x2)) :: (.val (.int (0 : Int32))) :: (.val (.int (0 : Int32))) :: [])), Hsz3_6, by decide, by decide, Or.inr ⟨.boolean, (.int (1 : Int32)), [], .ireturn, rfl, rfl, at_410, own_retZ (Or.inr rfl), fun target q => ?_⟩⟩
      refine own_go H0 hx hZ hown hby hw own_K0_ok (own_s0 xa xs xb xt xm v4 hv4 v10 hv10 v12 hv12 v13 hv13 v18 hv18 t19_0 ht19_0) _ ?_
      refine own_go H0 hx hZ hown hby hw own_K0_ok (own_s1 xa xs xb xt xm t19_0 v24 hv24 v37 hv37 v43 hv43 v45 hv45 v46 hv46 v51 hv51 t52_0 ht52_0) _ ?_
      refine own_go H0 hx hZ hown hby hw own_K0_ok (own_s2 xa xs xb xt xm t19_0 t52_0 v60 hv60 t70_0 ht70_0) _ ?_
      refine own_go H0 hx hZ hown hby hw own_K0_ok (own_s3 xa xs xb xt xm t19_0 t52_0 t70_0 v81 hv81 v82 hv82 v83 hv83 v91 hv91 v93 hv93 v94 hv94 v95 hv95 v103 hv103 v105 hv105 v106 hv106 v107 hv107 v119 hv119 v120 hv120 v121 hv121 v129 hv129 v131 hv131 v132 hv132 v133 hv133 v141 hv141 v143 hv143 v144 hv144 v145 hv145) _ ?_
      refine sts1 _ ?_
      refine own_go Hs1 hx hZ hown hby hw own_K0_ok (own_s4 xa xs xb xt xm t19_0 t52_0 t70_0 v83 v95 v107 v121 v133 v145 x1) _ ?_
      refine sts2 _ ?_
      refine own_go Hs2 hx hZ hown hby hw own_K0_ok (own_s5 xa xs xb xt xm t19_0 t52_0 t70_0 v83 v95 v107 v121 v133 v145 p0 x1) _ ?_
      refine sts3 _ ?_
      refine own_go Hs3 hx hZ hown hby hw own_K0_ok (own_s6 xa xs xb xt xm t19_0 t52_0 t70_0 v83 v95 v107 v121 v133 v145 p1 p0 x1) _ ?_
      refine sts4 _ ?_
      refine own_go Hs4 hx hZ hown hby hw own_K0_ok (own_s7 xa xs xb xt xm t19_0 t52_0 t70_0 v83 v95 v107 v121 v133 v145 p2 p1 p0 x1) _ ?_
      refine sts5 _ ?_
      refine sts6 _ ?_
      refine own_go Hs6 hx hZ hown hby hw own_K0_ok (own_s8 xa xs xb xt xm t19_0 t52_0 t70_0 v83 v95 v107 v121 v133 v145 x1) _ ?_
      refine sts7 _ ?_
      refine own_go Hs7 hx hZ hown hby hw own_K0_ok (own_s9 xa xs xb xt xm t19_0 t52_0 t70_0 v83 v95 v107 v121 v133 v145 x1 x2) _ ?_
      refine sts8 _ ?_
      refine own_go Hs8 hx hZ hown hby hw own_K0_ok (own_s10 xa xs xb xt xm t19_0 t52_0 t70_0 v83 v95 v107 v121 v133 v145 x1 q0 x2) _ ?_
      refine sts9 _ ?_
      refine own_go Hs9 hx hZ hown hby hw own_K0_ok (own_s11 xa xs xb xt xm t19_0 t52_0 t70_0 v83 v95 v107 v121 v133 v145 x1 q1 q0 x2) _ ?_
      refine sts10 _ ?_
      refine own_go Hs10 hx hZ hown hby hw own_K0_ok (own_s12 xa xs xb xt xm t19_0 t52_0 t70_0 v83 v95 v107 v121 v133 v145 x1 q2 q1 q0 x2) _ ?_
      refine sts11 _ ?_
      refine sts12 _ ?_
      refine own_go Hs12 hx hZ hown hby hw own_K0_ok (own_sz3_0 xa xs xb xt xm t19_0 t52_0 t70_0 v83 v95 v107 v121 v133 v145 x1 x2 v241 hv241 hl243) _ ?_
      refine stsz3_1 _ ?_
      refine own_go Hsz3_1 hx hZ hown hby hw own_K0_ok (own_sz3_1 xa xs xb xt xm t19_0 t52_0 t70_0 v83 v95 v107 v121 v133 v145 x1 x2) _ ?_
      refine stsz3_2 _ ?_
      refine own_go Hsz3_2 hx hZ hown hby hw own_K0_ok (own_sz3_2 xa xs xb xt xm t19_0 t52_0 t70_0 v83 v95 v107 v121 v133 v145 x1 x2) _ ?_
      refine stsz3_3 _ ?_
      refine own_go Hsz3_3 hx hZ hown hby hw own_K0_ok (own_sz3_3 xa xs xb xt xm t19_0 t52_0 t70_0 v83 v95 v107 v121 v133 v145 x1 x2) _ ?_
      refine stsz3_4 _ ?_
      refine own_go Hsz3_4 hx hZ hown hby hw own_K0_ok (own_sz3_4 xa xs xb xt xm t19_0 t52_0 t70_0 v83 v95 v107 v121 v133 v145 x1 x2) _ ?_
      refine stsz3_5 _ ?_
      refine own_go Hsz3_5 hx hZ hown hby hw own_K0_ok (own_sz3_5 xa xs xb xt xm t19_0 t52_0 t70_0 v83 v95 v107 v121 v133 v145 x1 x2) _ ?_
      refine stsz3_6 _ ?_
      refine own_go Hsz3_6 hx hZ hown hby hw own_K0_ok (own_sz3_6 xa xs xb xt xm t19_0 t52_0 t70_0 v83 v95 v107 v121 v133 v145 x1 x2) _ ?_
      exact q
    obtain ⟨v241, hv241⟩ : ∃ z : Int32, (xm >>> ((2 : Int32) &&& 31)) = z := ⟨_, rfl⟩
    have hl243 : (v241 &&& (3 : Int32)) = (0 : Int32) := by rw [← hv241]; exact hkk
    obtain ⟨Tsz4_1, vsz4_1_, cssz4_1_, qsz4_1, Hsz4_1, stsz4_1⟩ := own_callS Hs12 hx hZ hown (hw _ (List.mem_of_getElem? (i := 30) rfl)) (hw _ (List.mem_of_getElem? (i := 31) rfl)) (hw _ (List.mem_of_getElem? (i := 5) rfl)) (hw _ (List.mem_of_getElem? (i := 32) rfl)) (by decide) (argsL := [(.long t19_0), (.int xs), (.long t52_0), (.int t70_0), (.int (6 : Int32))]) (rest := []) (W := 0) (own_same1 l Z a0 hb0 hw t19_0 xs t52_0 t70_0 (6 : Int32) _ s0) (by decide) (by decide) (by decide) (by decide) (g := (mkF m 320 (List.toArray ((.val (.int xa)) :: (.val (.int xs)) :: (.val (.int xb)) :: (.val (.int xt)) :: (.val (.int xm)) :: (.val (.long t19_0)) :: .second :: (.val (.long t52_0)) :: .second :: (.val (.int xs)) :: (.val (.int t70_0)) :: (.val (.long t19_0)) :: .second :: (.val (.long v83)) :: .second :: (.val (.long v95)) :: .second :: (.val (.long v107)) :: .second :: (.val (.long t52_0)) :: .second :: (.val (.long v121)) :: .second :: (.val (.long v133)) :: .second :: (.val (.long v145)) :: .second :: (.val (.ref x1)) :: (.val (.ref x2)) :: (.val (.int (0 : Int32))) :: .unset :: [])) [(.int (6 : Int32)), (.int t70_0), (.long t52_0), (.int xs), (.long t19_0)])) rfl (by rw [hml]; rfl) (lenOf own_pd10 rfl) rfl (by show 2 * 0 + _ ≤ _; exact Nat.le_of_eq rfl) (hb hby at_320)
    obtain ⟨rfl, rfl⟩ := qsz4_1
    change own_S _ _ _ _ _ _ _ _ _ _ _ _ _ _ [(x1, own_O "com/example/hazeline/hazeline/fuzzy/Trapezoid" [("com/example/hazeline/hazeline/fuzzy/Trapezoid", "a", "D", .double p0), ("com/example/hazeline/hazeline/fuzzy/Trapezoid", "b", "D", .double p1), ("com/example/hazeline/hazeline/fuzzy/Trapezoid", "c", "D", .double p2), ("com/example/hazeline/hazeline/fuzzy/Trapezoid", "d", "D", .double p3)]), (x2, own_O "com/example/hazeline/hazeline/fuzzy/Trapezoid" [("com/example/hazeline/hazeline/fuzzy/Trapezoid", "a", "D", .double q0), ("com/example/hazeline/hazeline/fuzzy/Trapezoid", "b", "D", .double q1), ("com/example/hazeline/hazeline/fuzzy/Trapezoid", "c", "D", .double q2), ("com/example/hazeline/hazeline/fuzzy/Trapezoid", "d", "D", .double q3)])] _ _ at Hsz4_1
    have e0 : p0 = q0 := by rw [hp0, hq0]; exact own_same_eq s0
    obtain ⟨Tsz4_2, vsz4_2_, cssz4_2_, qsz4_2, Hsz4_2, stsz4_2⟩ := own_callS Hsz4_1 hx hZ hown (hw _ (List.mem_of_getElem? (i := 30) rfl)) (hw _ (List.mem_of_getElem? (i := 31) rfl)) (hw _ (List.mem_of_getElem? (i := 5) rfl)) (hw _ (List.mem_of_getElem? (i := 32) rfl)) (by decide) (argsL := [(.long v83), (.int xs), (.long v121), (.int t70_0), (.int (7 : Int32))]) (rest := []) (W := 0) (own_same1 l Z a0 hb0 hw v83 xs v121 t70_0 (7 : Int32) _ s1) (by decide) (by decide) (by decide) (by decide) (g := (mkF m 336 (List.toArray ((.val (.int xa)) :: (.val (.int xs)) :: (.val (.int xb)) :: (.val (.int xt)) :: (.val (.int xm)) :: (.val (.long t19_0)) :: .second :: (.val (.long t52_0)) :: .second :: (.val (.int xs)) :: (.val (.int t70_0)) :: (.val (.long t19_0)) :: .second :: (.val (.long v83)) :: .second :: (.val (.long v95)) :: .second :: (.val (.long v107)) :: .second :: (.val (.long t52_0)) :: .second :: (.val (.long v121)) :: .second :: (.val (.long v133)) :: .second :: (.val (.long v145)) :: .second :: (.val (.ref x1)) :: (.val (.ref x2)) :: (.val (.int (0 : Int32))) :: .unset :: [])) [(.int (7 : Int32)), (.int t70_0), (.long v121), (.int xs), (.long v83)])) rfl (by rw [hml]; rfl) (lenOf own_pd10 rfl) rfl (by show 2 * 0 + _ ≤ _; exact Nat.le_of_eq rfl) (hb hby at_336)
    obtain ⟨rfl, rfl⟩ := qsz4_2
    change own_S _ _ _ _ _ _ _ _ _ _ _ _ _ _ [(x1, own_O "com/example/hazeline/hazeline/fuzzy/Trapezoid" [("com/example/hazeline/hazeline/fuzzy/Trapezoid", "a", "D", .double p0), ("com/example/hazeline/hazeline/fuzzy/Trapezoid", "b", "D", .double p1), ("com/example/hazeline/hazeline/fuzzy/Trapezoid", "c", "D", .double p2), ("com/example/hazeline/hazeline/fuzzy/Trapezoid", "d", "D", .double p3)]), (x2, own_O "com/example/hazeline/hazeline/fuzzy/Trapezoid" [("com/example/hazeline/hazeline/fuzzy/Trapezoid", "a", "D", .double q0), ("com/example/hazeline/hazeline/fuzzy/Trapezoid", "b", "D", .double q1), ("com/example/hazeline/hazeline/fuzzy/Trapezoid", "c", "D", .double q2), ("com/example/hazeline/hazeline/fuzzy/Trapezoid", "d", "D", .double q3)])] _ _ at Hsz4_2
    have e1 : p1 = q1 := by rw [hp1, hq1]; exact own_same_eq s1
    obtain ⟨Tsz4_3, vsz4_3_, cssz4_3_, qsz4_3, Hsz4_3, stsz4_3⟩ := own_callS Hsz4_2 hx hZ hown (hw _ (List.mem_of_getElem? (i := 30) rfl)) (hw _ (List.mem_of_getElem? (i := 31) rfl)) (hw _ (List.mem_of_getElem? (i := 5) rfl)) (hw _ (List.mem_of_getElem? (i := 32) rfl)) (by decide) (argsL := [(.long v95), (.int xs), (.long v133), (.int t70_0), (.int (8 : Int32))]) (rest := []) (W := 0) (own_same1 l Z a0 hb0 hw v95 xs v133 t70_0 (8 : Int32) _ s2) (by decide) (by decide) (by decide) (by decide) (g := (mkF m 352 (List.toArray ((.val (.int xa)) :: (.val (.int xs)) :: (.val (.int xb)) :: (.val (.int xt)) :: (.val (.int xm)) :: (.val (.long t19_0)) :: .second :: (.val (.long t52_0)) :: .second :: (.val (.int xs)) :: (.val (.int t70_0)) :: (.val (.long t19_0)) :: .second :: (.val (.long v83)) :: .second :: (.val (.long v95)) :: .second :: (.val (.long v107)) :: .second :: (.val (.long t52_0)) :: .second :: (.val (.long v121)) :: .second :: (.val (.long v133)) :: .second :: (.val (.long v145)) :: .second :: (.val (.ref x1)) :: (.val (.ref x2)) :: (.val (.int (0 : Int32))) :: .unset :: [])) [(.int (8 : Int32)), (.int t70_0), (.long v133), (.int xs), (.long v95)])) rfl (by rw [hml]; rfl) (lenOf own_pd10 rfl) rfl (by show 2 * 0 + _ ≤ _; exact Nat.le_of_eq rfl) (hb hby at_352)
    obtain ⟨rfl, rfl⟩ := qsz4_3
    change own_S _ _ _ _ _ _ _ _ _ _ _ _ _ _ [(x1, own_O "com/example/hazeline/hazeline/fuzzy/Trapezoid" [("com/example/hazeline/hazeline/fuzzy/Trapezoid", "a", "D", .double p0), ("com/example/hazeline/hazeline/fuzzy/Trapezoid", "b", "D", .double p1), ("com/example/hazeline/hazeline/fuzzy/Trapezoid", "c", "D", .double p2), ("com/example/hazeline/hazeline/fuzzy/Trapezoid", "d", "D", .double p3)]), (x2, own_O "com/example/hazeline/hazeline/fuzzy/Trapezoid" [("com/example/hazeline/hazeline/fuzzy/Trapezoid", "a", "D", .double q0), ("com/example/hazeline/hazeline/fuzzy/Trapezoid", "b", "D", .double q1), ("com/example/hazeline/hazeline/fuzzy/Trapezoid", "c", "D", .double q2), ("com/example/hazeline/hazeline/fuzzy/Trapezoid", "d", "D", .double q3)])] _ _ at Hsz4_3
    have e2 : p2 = q2 := by rw [hp2, hq2]; exact own_same_eq s2
    obtain ⟨Tsz4_4, vsz4_4_, cssz4_4_, qsz4_4, Hsz4_4, stsz4_4⟩ := own_callS Hsz4_3 hx hZ hown (hw _ (List.mem_of_getElem? (i := 30) rfl)) (hw _ (List.mem_of_getElem? (i := 31) rfl)) (hw _ (List.mem_of_getElem? (i := 5) rfl)) (hw _ (List.mem_of_getElem? (i := 32) rfl)) (by decide) (argsL := [(.long v107), (.int xs), (.long v145), (.int t70_0), (.int (9 : Int32))]) (rest := []) (W := 0) (own_same1 l Z a0 hb0 hw v107 xs v145 t70_0 (9 : Int32) _ s3) (by decide) (by decide) (by decide) (by decide) (g := (mkF m 368 (List.toArray ((.val (.int xa)) :: (.val (.int xs)) :: (.val (.int xb)) :: (.val (.int xt)) :: (.val (.int xm)) :: (.val (.long t19_0)) :: .second :: (.val (.long t52_0)) :: .second :: (.val (.int xs)) :: (.val (.int t70_0)) :: (.val (.long t19_0)) :: .second :: (.val (.long v83)) :: .second :: (.val (.long v95)) :: .second :: (.val (.long v107)) :: .second :: (.val (.long t52_0)) :: .second :: (.val (.long v121)) :: .second :: (.val (.long v133)) :: .second :: (.val (.long v145)) :: .second :: (.val (.ref x1)) :: (.val (.ref x2)) :: (.val (.int (0 : Int32))) :: .unset :: [])) [(.int (9 : Int32)), (.int t70_0), (.long v145), (.int xs), (.long v107)])) rfl (by rw [hml]; rfl) (lenOf own_pd10 rfl) rfl (by show 2 * 0 + _ ≤ _; exact Nat.le_of_eq rfl) (hb hby at_368)
    obtain ⟨rfl, rfl⟩ := qsz4_4
    change own_S _ _ _ _ _ _ _ _ _ _ _ _ _ _ [(x1, own_O "com/example/hazeline/hazeline/fuzzy/Trapezoid" [("com/example/hazeline/hazeline/fuzzy/Trapezoid", "a", "D", .double p0), ("com/example/hazeline/hazeline/fuzzy/Trapezoid", "b", "D", .double p1), ("com/example/hazeline/hazeline/fuzzy/Trapezoid", "c", "D", .double p2), ("com/example/hazeline/hazeline/fuzzy/Trapezoid", "d", "D", .double p3)]), (x2, own_O "com/example/hazeline/hazeline/fuzzy/Trapezoid" [("com/example/hazeline/hazeline/fuzzy/Trapezoid", "a", "D", .double q0), ("com/example/hazeline/hazeline/fuzzy/Trapezoid", "b", "D", .double q1), ("com/example/hazeline/hazeline/fuzzy/Trapezoid", "c", "D", .double q2), ("com/example/hazeline/hazeline/fuzzy/Trapezoid", "d", "D", .double q3)])] _ _ at Hsz4_4
    have e3 : p3 = q3 := by rw [hp3, hq3]; exact own_same_eq s3
    obtain ⟨Tsz4_5, vsz4_5_, cssz4_5_, qsz4_5, Hsz4_5, stsz4_5⟩ := own_callV Hsz4_4 hx hZ hown (hw _ (List.mem_of_getElem? (i := 33) rfl)) (hw _ (List.mem_of_getElem? (i := 34) rfl)) (hw _ (List.mem_of_getElem? (i := 36) rfl)) (hw _ (List.mem_of_getElem? (i := 35) rfl)) (hw _ (List.mem_of_getElem? (i := 2) rfl)) (hw _ (List.mem_of_getElem? (i := 37) rfl)) (by decide) (x := x1) 0 rfl (argsL := [(.ref x2)]) (rest := []) (W := 0) (own_eqa4 l Z a0 hb0 hw x1 x2 p0 p1 p2 p3 q0 q1 q2 q3 _ _ i0 j0 e0 _ _ i1 j1 e1 _ _ i2 j2 e2 _ _ i3 j3 e3) (by decide) (by decide) (by decide) (by decide) (g := (mkF m 385 (List.toArray ((.val (.int xa)) :: (.val (.int xs)) :: (.val (.int xb)) :: (.val (.int xt)) :: (.val (.int xm)) :: (.val (.long t19_0)) :: .second :: (.val (.long t52_0)) :: .second :: (.val (.int xs)) :: (.val (.int t70_0)) :: (.val (.long t19_0)) :: .second :: (.val (.long v83)) :: .second :: (.val (.long v95)) :: .second :: (.val (.long v107)) :: .second :: (.val (.long t52_0)) :: .second :: (.val (.long v121)) :: .second :: (.val (.long v133)) :: .second :: (.val (.long v145)) :: .second :: (.val (.ref x1)) :: (.val (.ref x2)) :: (.val (.int (0 : Int32))) :: (.val (.int (1 : Int32))) :: [])) [(.ref x2), (.ref x1)])) rfl (by rw [hml]; rfl) (lenOf own_pd11 rfl) rfl (by show 2 * 0 + _ ≤ _; exact Nat.le_of_eq rfl) (hb hby at_385)
    obtain ⟨rfl, rfl⟩ := qsz4_5
    change own_S _ _ _ _ _ _ _ _ _ _ _ _ _ _ [(x1, own_O "com/example/hazeline/hazeline/fuzzy/Trapezoid" [("com/example/hazeline/hazeline/fuzzy/Trapezoid", "a", "D", .double p0), ("com/example/hazeline/hazeline/fuzzy/Trapezoid", "b", "D", .double p1), ("com/example/hazeline/hazeline/fuzzy/Trapezoid", "c", "D", .double p2), ("com/example/hazeline/hazeline/fuzzy/Trapezoid", "d", "D", .double p3)]), (x2, own_O "com/example/hazeline/hazeline/fuzzy/Trapezoid" [("com/example/hazeline/hazeline/fuzzy/Trapezoid", "a", "D", .double q0), ("com/example/hazeline/hazeline/fuzzy/Trapezoid", "b", "D", .double q1), ("com/example/hazeline/hazeline/fuzzy/Trapezoid", "c", "D", .double q2), ("com/example/hazeline/hazeline/fuzzy/Trapezoid", "d", "D", .double q3)])] _ _ at Hsz4_5
    obtain ⟨Tsz4_6, vsz4_6_, cssz4_6_, qsz4_6, Hsz4_6, stsz4_6⟩ := own_callV Hsz4_5 hx hZ hown (hw _ (List.mem_of_getElem? (i := 33) rfl)) (hw _ (List.mem_of_getElem? (i := 34) rfl)) (hw _ (List.mem_of_getElem? (i := 36) rfl)) (hw _ (List.mem_of_getElem? (i := 35) rfl)) (hw _ (List.mem_of_getElem? (i := 2) rfl)) (hw _ (List.mem_of_getElem? (i := 37) rfl)) (by decide) (x := x2) 1 rfl (argsL := [(.ref x1)]) (rest := []) (W := 0) (own_eqb4 l Z a0 hb0 hw x2 x1 p0 p1 p2 p3 q0 q1 q2 q3 _ _ j0 i0 e0.symm _ _ j1 i1 e1.symm _ _ j2 i2 e2.symm _ _ j3 i3 e3.symm) (by decide) (by decide) (by decide) (by decide) (g := (mkF m 397 (List.toArray ((.val (.int xa)) :: (.val (.int xs)) :: (.val (.int xb)) :: (.val (.int xt)) :: (.val (.int xm)) :: (.val (.long t19_0)) :: .second :: (.val (.long t52_0)) :: .second :: (.val (.int xs)) :: (.val (.int t70_0)) :: (.val (.long t19_0)) :: .second :: (.val (.long v83)) :: .second :: (.val (.long v95)) :: .second :: (.val (.long v107)) :: .second :: (.val (.long t52_0)) :: .second :: (.val (.long v121)) :: .second :: (.val (.long v133)) :: .second :: (.val (.long v145)) :: .second :: (.val (.ref x1)) :: (.val (.ref x2)) :: (.val (.int (0 : Int32))) :: (.val (.int (1 : Int32))) :: [])) [(.ref x1), (.ref x2)])) rfl (by rw [hml]; rfl) (lenOf own_pd11 rfl) rfl (by show 2 * 0 + _ ≤ _; exact Nat.le_of_eq rfl) (hb hby at_397)
    obtain ⟨rfl, rfl⟩ := qsz4_6
    change own_S _ _ _ _ _ _ _ _ _ _ _ _ _ _ [(x1, own_O "com/example/hazeline/hazeline/fuzzy/Trapezoid" [("com/example/hazeline/hazeline/fuzzy/Trapezoid", "a", "D", .double p0), ("com/example/hazeline/hazeline/fuzzy/Trapezoid", "b", "D", .double p1), ("com/example/hazeline/hazeline/fuzzy/Trapezoid", "c", "D", .double p2), ("com/example/hazeline/hazeline/fuzzy/Trapezoid", "d", "D", .double p3)]), (x2, own_O "com/example/hazeline/hazeline/fuzzy/Trapezoid" [("com/example/hazeline/hazeline/fuzzy/Trapezoid", "a", "D", .double q0), ("com/example/hazeline/hazeline/fuzzy/Trapezoid", "b", "D", .double q1), ("com/example/hazeline/hazeline/fuzzy/Trapezoid", "c", "D", .double q2), ("com/example/hazeline/hazeline/fuzzy/Trapezoid", "d", "D", .double q3)])] _ _ at Hsz4_6
    refine ⟨_, _, _, _, 410, (List.toArray ((.val (.int xa)) :: (.val (.int xs)) :: (.val (.int xb)) :: (.val (.int xt)) :: (.val (.int xm)) :: (.val (.long t19_0)) :: .second :: (.val (.long t52_0)) :: .second :: (.val (.int xs)) :: (.val (.int t70_0)) :: (.val (.long t19_0)) :: .second :: (.val (.long v83)) :: .second :: (.val (.long v95)) :: .second :: (.val (.long v107)) :: .second :: (.val (.long t52_0)) :: .second :: (.val (.long v121)) :: .second :: (.val (.long v133)) :: .second :: (.val (.long v145)) :: .second :: (.val (.ref x1)) :: (.val (.ref x2)) :: (.val (.int (0 : Int32))) :: (.val (.int (1 : Int32))) :: [])), Hsz4_6, by decide, by decide, Or.inr ⟨.boolean, (.int (1 : Int32)), [], .ireturn, rfl, rfl, at_410, own_retZ (Or.inr rfl), fun target q => ?_⟩⟩
    refine own_go H0 hx hZ hown hby hw own_K0_ok (own_s0 xa xs xb xt xm v4 hv4 v10 hv10 v12 hv12 v13 hv13 v18 hv18 t19_0 ht19_0) _ ?_
    refine own_go H0 hx hZ hown hby hw own_K0_ok (own_s1 xa xs xb xt xm t19_0 v24 hv24 v37 hv37 v43 hv43 v45 hv45 v46 hv46 v51 hv51 t52_0 ht52_0) _ ?_
    refine own_go H0 hx hZ hown hby hw own_K0_ok (own_s2 xa xs xb xt xm t19_0 t52_0 v60 hv60 t70_0 ht70_0) _ ?_
    refine own_go H0 hx hZ hown hby hw own_K0_ok (own_s3 xa xs xb xt xm t19_0 t52_0 t70_0 v81 hv81 v82 hv82 v83 hv83 v91 hv91 v93 hv93 v94 hv94 v95 hv95 v103 hv103 v105 hv105 v106 hv106 v107 hv107 v119 hv119 v120 hv120 v121 hv121 v129 hv129 v131 hv131 v132 hv132 v133 hv133 v141 hv141 v143 hv143 v144 hv144 v145 hv145) _ ?_
    refine sts1 _ ?_
    refine own_go Hs1 hx hZ hown hby hw own_K0_ok (own_s4 xa xs xb xt xm t19_0 t52_0 t70_0 v83 v95 v107 v121 v133 v145 x1) _ ?_
    refine sts2 _ ?_
    refine own_go Hs2 hx hZ hown hby hw own_K0_ok (own_s5 xa xs xb xt xm t19_0 t52_0 t70_0 v83 v95 v107 v121 v133 v145 p0 x1) _ ?_
    refine sts3 _ ?_
    refine own_go Hs3 hx hZ hown hby hw own_K0_ok (own_s6 xa xs xb xt xm t19_0 t52_0 t70_0 v83 v95 v107 v121 v133 v145 p1 p0 x1) _ ?_
    refine sts4 _ ?_
    refine own_go Hs4 hx hZ hown hby hw own_K0_ok (own_s7 xa xs xb xt xm t19_0 t52_0 t70_0 v83 v95 v107 v121 v133 v145 p2 p1 p0 x1) _ ?_
    refine sts5 _ ?_
    refine sts6 _ ?_
    refine own_go Hs6 hx hZ hown hby hw own_K0_ok (own_s8 xa xs xb xt xm t19_0 t52_0 t70_0 v83 v95 v107 v121 v133 v145 x1) _ ?_
    refine sts7 _ ?_
    refine own_go Hs7 hx hZ hown hby hw own_K0_ok (own_s9 xa xs xb xt xm t19_0 t52_0 t70_0 v83 v95 v107 v121 v133 v145 x1 x2) _ ?_
    refine sts8 _ ?_
    refine own_go Hs8 hx hZ hown hby hw own_K0_ok (own_s10 xa xs xb xt xm t19_0 t52_0 t70_0 v83 v95 v107 v121 v133 v145 x1 q0 x2) _ ?_
    refine sts9 _ ?_
    refine own_go Hs9 hx hZ hown hby hw own_K0_ok (own_s11 xa xs xb xt xm t19_0 t52_0 t70_0 v83 v95 v107 v121 v133 v145 x1 q1 q0 x2) _ ?_
    refine sts10 _ ?_
    refine own_go Hs10 hx hZ hown hby hw own_K0_ok (own_s12 xa xs xb xt xm t19_0 t52_0 t70_0 v83 v95 v107 v121 v133 v145 x1 q2 q1 q0 x2) _ ?_
    refine sts11 _ ?_
    refine sts12 _ ?_
    refine own_go Hs12 hx hZ hown hby hw own_K0_ok (own_sz4_0 xa xs xb xt xm t19_0 t52_0 t70_0 v83 v95 v107 v121 v133 v145 x1 x2 v241 hv241 hl243) _ ?_
    refine stsz4_1 _ ?_
    refine own_go Hsz4_1 hx hZ hown hby hw own_K0_ok (own_sz4_1 xa xs xb xt xm t19_0 t52_0 t70_0 v83 v95 v107 v121 v133 v145 x1 x2) _ ?_
    refine stsz4_2 _ ?_
    refine own_go Hsz4_2 hx hZ hown hby hw own_K0_ok (own_sz4_2 xa xs xb xt xm t19_0 t52_0 t70_0 v83 v95 v107 v121 v133 v145 x1 x2) _ ?_
    refine stsz4_3 _ ?_
    refine own_go Hsz4_3 hx hZ hown hby hw own_K0_ok (own_sz4_3 xa xs xb xt xm t19_0 t52_0 t70_0 v83 v95 v107 v121 v133 v145 x1 x2) _ ?_
    refine stsz4_4 _ ?_
    refine own_go Hsz4_4 hx hZ hown hby hw own_K0_ok (own_sz4_4 xa xs xb xt xm t19_0 t52_0 t70_0 v83 v95 v107 v121 v133 v145 x1 x2) _ ?_
    refine stsz4_5 _ ?_
    refine own_go Hsz4_5 hx hZ hown hby hw own_K0_ok (own_sz4_5 xa xs xb xt xm t19_0 t52_0 t70_0 v83 v95 v107 v121 v133 v145 x1 x2) _ ?_
    refine stsz4_6 _ ?_
    refine own_go Hsz4_6 hx hZ hown hby hw own_K0_ok (own_sz4_6 xa xs xb xt xm t19_0 t52_0 t70_0 v83 v95 v107 v121 v133 v145 x1 x2) _ ?_
    exact q
  · skip
    obtain ⟨v241, hv241⟩ : ∃ z : Int32, (xm >>> ((2 : Int32) &&& 31)) = z := ⟨_, rfl⟩
    have hl243 : (v241 &&& (3 : Int32)) = (1 : Int32) := by rw [← hv241]; exact hkk
    obtain ⟨Tsk1_1, vsk1_1_, cssk1_1_, qsk1_1, Hsk1_1, stsk1_1⟩ := own_callV Hs12 hx hZ hown (hw _ (List.mem_of_getElem? (i := 33) rfl)) (hw _ (List.mem_of_getElem? (i := 34) rfl)) (hw _ (List.mem_of_getElem? (i := 36) rfl)) (hw _ (List.mem_of_getElem? (i := 35) rfl)) (hw _ (List.mem_of_getElem? (i := 2) rfl)) (hw _ (List.mem_of_getElem? (i := 37) rfl)) (by decide) (x := x1) 0 rfl (argsL := [.null]) (rest := []) (W := 0) (own_eqN l Z a0 hb0 hw x1 x2 _ _) (by decide) (by decide) (by decide) (by decide) (g := (mkF m 255 (List.toArray ((.val (.int xa)) :: (.val (.int xs)) :: (.val (.int xb)) :: (.val (.int xt)) :: (.val (.int xm)) :: (.val (.long t19_0)) :: .second :: (.val (.long t52_0)) :: .second :: (.val (.int xs)) :: (.val (.int t70_0)) :: (.val (.long t19_0)) :: .second :: (.val (.long v83)) :: .second :: (.val (.long v95)) :: .second :: (.val (.long v107)) :: .second :: (.val (.long t52_0)) :: .second :: (.val (.long v121)) :: .second :: (.val (.long v133)) :: .second :: (.val (.long v145)) :: .second :: (.val (.ref x1)) :: (.val (.ref x2)) :: (.val (.int (1 : Int32))) :: .unset :: [])) [.null, (.ref x1)])) rfl (by rw [hml]; rfl) (lenOf own_pd11 rfl) rfl (by show 2 * 0 + _ ≤ _; exact Nat.le_of_eq rfl) (hb hby at_255)
    obtain ⟨rfl, rfl⟩ := qsk1_1
    change own_S _ _ _ _ _ _ _ _ _ _ _ _ _ _ [(x1, own_O "com/example/hazeline/hazeline/fuzzy/Trapezoid" [("com/example/hazeline/hazeline/fuzzy/Trapezoid", "a", "D", .double p0), ("com/example/hazeline/hazeline/fuzzy/Trapezoid", "b", "D", .double p1), ("com/example/hazeline/hazeline/fuzzy/Trapezoid", "c", "D", .double p2), ("com/example/hazeline/hazeline/fuzzy/Trapezoid", "d", "D", .double p3)]), (x2, own_O "com/example/hazeline/hazeline/fuzzy/Trapezoid" [("com/example/hazeline/hazeline/fuzzy/Trapezoid", "a", "D", .double q0), ("com/example/hazeline/hazeline/fuzzy/Trapezoid", "b", "D", .double q1), ("com/example/hazeline/hazeline/fuzzy/Trapezoid", "c", "D", .double q2), ("com/example/hazeline/hazeline/fuzzy/Trapezoid", "d", "D", .double q3)])] _ _ at Hsk1_1
    refine ⟨_, _, _, _, 266, (List.toArray ((.val (.int xa)) :: (.val (.int xs)) :: (.val (.int xb)) :: (.val (.int xt)) :: (.val (.int xm)) :: (.val (.long t19_0)) :: .second :: (.val (.long t52_0)) :: .second :: (.val (.int xs)) :: (.val (.int t70_0)) :: (.val (.long t19_0)) :: .second :: (.val (.long v83)) :: .second :: (.val (.long v95)) :: .second :: (.val (.long v107)) :: .second :: (.val (.long t52_0)) :: .second :: (.val (.long v121)) :: .second :: (.val (.long v133)) :: .second :: (.val (.long v145)) :: .second :: (.val (.ref x1)) :: (.val (.ref x2)) :: (.val (.int (1 : Int32))) :: .unset :: [])), Hsk1_1, by decide, by decide, Or.inr ⟨.boolean, (.int (1 : Int32)), [], .ireturn, rfl, rfl, at_266, own_retZ (Or.inr rfl), fun target q => ?_⟩⟩
    refine own_go H0 hx hZ hown hby hw own_K0_ok (own_s0 xa xs xb xt xm v4 hv4 v10 hv10 v12 hv12 v13 hv13 v18 hv18 t19_0 ht19_0) _ ?_
    refine own_go H0 hx hZ hown hby hw own_K0_ok (own_s1 xa xs xb xt xm t19_0 v24 hv24 v37 hv37 v43 hv43 v45 hv45 v46 hv46 v51 hv51 t52_0 ht52_0) _ ?_
    refine own_go H0 hx hZ hown hby hw own_K0_ok (own_s2 xa xs xb xt xm t19_0 t52_0 v60 hv60 t70_0 ht70_0) _ ?_
    refine own_go H0 hx hZ hown hby hw own_K0_ok (own_s3 xa xs xb xt xm t19_0 t52_0 t70_0 v81 hv81 v82 hv82 v83 hv83 v91 hv91 v93 hv93 v94 hv94 v95 hv95 v103 hv103 v105 hv105 v106 hv106 v107 hv107 v119 hv119 v120 hv120 v121 hv121 v129 hv129 v131 hv131 v132 hv132 v133 hv133 v141 hv141 v143 hv143 v144 hv144 v145 hv145) _ ?_
    refine sts1 _ ?_
    refine own_go Hs1 hx hZ hown hby hw own_K0_ok (own_s4 xa xs xb xt xm t19_0 t52_0 t70_0 v83 v95 v107 v121 v133 v145 x1) _ ?_
    refine sts2 _ ?_
    refine own_go Hs2 hx hZ hown hby hw own_K0_ok (own_s5 xa xs xb xt xm t19_0 t52_0 t70_0 v83 v95 v107 v121 v133 v145 p0 x1) _ ?_
    refine sts3 _ ?_
    refine own_go Hs3 hx hZ hown hby hw own_K0_ok (own_s6 xa xs xb xt xm t19_0 t52_0 t70_0 v83 v95 v107 v121 v133 v145 p1 p0 x1) _ ?_
    refine sts4 _ ?_
    refine own_go Hs4 hx hZ hown hby hw own_K0_ok (own_s7 xa xs xb xt xm t19_0 t52_0 t70_0 v83 v95 v107 v121 v133 v145 p2 p1 p0 x1) _ ?_
    refine sts5 _ ?_
    refine sts6 _ ?_
    refine own_go Hs6 hx hZ hown hby hw own_K0_ok (own_s8 xa xs xb xt xm t19_0 t52_0 t70_0 v83 v95 v107 v121 v133 v145 x1) _ ?_
    refine sts7 _ ?_
    refine own_go Hs7 hx hZ hown hby hw own_K0_ok (own_s9 xa xs xb xt xm t19_0 t52_0 t70_0 v83 v95 v107 v121 v133 v145 x1 x2) _ ?_
    refine sts8 _ ?_
    refine own_go Hs8 hx hZ hown hby hw own_K0_ok (own_s10 xa xs xb xt xm t19_0 t52_0 t70_0 v83 v95 v107 v121 v133 v145 x1 q0 x2) _ ?_
    refine sts9 _ ?_
    refine own_go Hs9 hx hZ hown hby hw own_K0_ok (own_s11 xa xs xb xt xm t19_0 t52_0 t70_0 v83 v95 v107 v121 v133 v145 x1 q1 q0 x2) _ ?_
    refine sts10 _ ?_
    refine own_go Hs10 hx hZ hown hby hw own_K0_ok (own_s12 xa xs xb xt xm t19_0 t52_0 t70_0 v83 v95 v107 v121 v133 v145 x1 q2 q1 q0 x2) _ ?_
    refine sts11 _ ?_
    refine sts12 _ ?_
    refine own_go Hs12 hx hZ hown hby hw own_K0_ok (own_sk1_0 xa xs xb xt xm t19_0 t52_0 t70_0 v83 v95 v107 v121 v133 v145 x1 x2 v241 hv241 hl243) _ ?_
    refine stsk1_1 _ ?_
    refine own_go Hsk1_1 hx hZ hown hby hw own_K0_ok (own_sk1_1 xa xs xb xt xm t19_0 t52_0 t70_0 v83 v95 v107 v121 v133 v145 x1 x2) _ ?_
    exact q
  · skip
    obtain ⟨v241, hv241⟩ : ∃ z : Int32, (xm >>> ((2 : Int32) &&& 31)) = z := ⟨_, rfl⟩
    have hl243 : (v241 &&& (3 : Int32)) = (2 : Int32) := by rw [← hv241]; exact hkk
    obtain ⟨Tsk2_1, vsk2_1_, cssk2_1_, qsk2_1, Hsk2_1, stsk2_1⟩ := own_callS Hs12 hx hZ hown (hw _ (List.mem_of_getElem? (i := 43) rfl)) (hw _ (List.mem_of_getElem? (i := 44) rfl)) (hw _ (List.mem_of_getElem? (i := 45) rfl)) (hw _ (List.mem_of_getElem? (i := 46) rfl)) (by decide) (argsL := [(.int (120 : Int32))]) (rest := []) (W := 0) (own_vof l Z a0 hb0 hw (120 : Int32) x1 x2 _ _ (by decide) gs SG gz) (by decide) (by decide) (by decide) (by decide) (g := (mkF m 275 (List.toArray ((.val (.int xa)) :: (.val (.int xs)) :: (.val (.int xb)) :: (.val (.int xt)) :: (.val (.int xm)) :: (.val (.long t19_0)) :: .second :: (.val (.long t52_0)) :: .second :: (.val (.int xs)) :: (.val (.int t70_0)) :: (.val (.long t19_0)) :: .second :: (.val (.long v83)) :: .second :: (.val (.long v95)) :: .second :: (.val (.long v107)) :: .second :: (.val (.long t52_0)) :: .second :: (.val (.long v121)) :: .second :: (.val (.long v133)) :: .second :: (.val (.long v145)) :: .second :: (.val (.ref x1)) :: (.val (.ref x2)) :: (.val (.int (2 : Int32))) :: .unset :: [])) [(.int (120 : Int32))])) rfl (by rw [hml]; rfl) (lenOf own_pd1 rfl) rfl (by show 2 * 0 + _ ≤ _; exact Nat.le_of_eq rfl) (hb hby at_275)
    obtain ⟨sx, sy, b0, rfl, rfl⟩ := qsk2_1
    change own_S _ _ _ _ _ _ _ _ _ _ _ _ _ _ [(x1, own_O "com/example/hazeline/hazeline/fuzzy/Trapezoid" [("com/example/hazeline/hazeline/fuzzy/Trapezoid", "a", "D", .double p0), ("com/example/hazeline/hazeline/fuzzy/Trapezoid", "b", "D", .double p1), ("com/example/hazeline/hazeline/fuzzy/Trapezoid", "c", "D", .double p2), ("com/example/hazeline/hazeline/fuzzy/Trapezoid", "d", "D", .double p3)]), (x2, own_O "com/example/hazeline/hazeline/fuzzy/Trapezoid" [("com/example/hazeline/hazeline/fuzzy/Trapezoid", "a", "D", .double q0), ("com/example/hazeline/hazeline/fuzzy/Trapezoid", "b", "D", .double q1), ("com/example/hazeline/hazeline/fuzzy/Trapezoid", "c", "D", .double q2), ("com/example/hazeline/hazeline/fuzzy/Trapezoid", "d", "D", .double q3)]), (sx, own_O "java/lang/String" [("java/lang/String", "value", "[B", .ref sy), ("java/lang/String", "coder", "B", .int 0)]), (sy, own_A .byte [.int b0])] _ _ at Hsk2_1
    obtain ⟨Tsk2_2, vsk2_2_, cssk2_2_, qsk2_2, Hsk2_2, stsk2_2⟩ := own_callV Hsk2_1 hx hZ hown (hw _ (List.mem_of_getElem? (i := 33) rfl)) (hw _ (List.mem_of_getElem? (i := 34) rfl)) (hw _ (List.mem_of_getElem? (i := 36) rfl)) (hw _ (List.mem_of_getElem? (i := 35) rfl)) (hw _ (List.mem_of_getElem? (i := 2) rfl)) (hw _ (List.mem_of_getElem? (i := 37) rfl)) (by decide) (x := x1) 0 rfl (argsL := [(.ref sx)]) (rest := []) (W := 0) (own_eqS l Z a0 hb0 hw x1 sx x2 sy _ _ _) (by decide) (by decide) (by decide) (by decide) (g := (mkF m 284 (List.toArray ((.val (.int xa)) :: (.val (.int xs)) :: (.val (.int xb)) :: (.val (.int xt)) :: (.val (.int xm)) :: (.val (.long t19_0)) :: .second :: (.val (.long t52_0)) :: .second :: (.val (.int xs)) :: (.val (.int t70_0)) :: (.val (.long t19_0)) :: .second :: (.val (.long v83)) :: .second :: (.val (.long v95)) :: .second :: (.val (.long v107)) :: .second :: (.val (.long t52_0)) :: .second :: (.val (.long v121)) :: .second :: (.val (.long v133)) :: .second :: (.val (.long v145)) :: .second :: (.val (.ref x1)) :: (.val (.ref x2)) :: (.val (.int (2 : Int32))) :: (.val (.ref sx)) :: [])) [(.ref sx), (.ref x1)])) rfl (by rw [hml]; rfl) (lenOf own_pd11 rfl) rfl (by show 2 * 0 + _ ≤ _; exact Nat.le_of_eq rfl) (hb hby at_284)
    obtain ⟨rfl, rfl⟩ := qsk2_2
    change own_S _ _ _ _ _ _ _ _ _ _ _ _ _ _ [(x1, own_O "com/example/hazeline/hazeline/fuzzy/Trapezoid" [("com/example/hazeline/hazeline/fuzzy/Trapezoid", "a", "D", .double p0), ("com/example/hazeline/hazeline/fuzzy/Trapezoid", "b", "D", .double p1), ("com/example/hazeline/hazeline/fuzzy/Trapezoid", "c", "D", .double p2), ("com/example/hazeline/hazeline/fuzzy/Trapezoid", "d", "D", .double p3)]), (x2, own_O "com/example/hazeline/hazeline/fuzzy/Trapezoid" [("com/example/hazeline/hazeline/fuzzy/Trapezoid", "a", "D", .double q0), ("com/example/hazeline/hazeline/fuzzy/Trapezoid", "b", "D", .double q1), ("com/example/hazeline/hazeline/fuzzy/Trapezoid", "c", "D", .double q2), ("com/example/hazeline/hazeline/fuzzy/Trapezoid", "d", "D", .double q3)]), (sx, own_O "java/lang/String" [("java/lang/String", "value", "[B", .ref sy), ("java/lang/String", "coder", "B", .int 0)]), (sy, own_A .byte [.int b0])] _ _ at Hsk2_2
    refine ⟨_, _, _, _, 295, (List.toArray ((.val (.int xa)) :: (.val (.int xs)) :: (.val (.int xb)) :: (.val (.int xt)) :: (.val (.int xm)) :: (.val (.long t19_0)) :: .second :: (.val (.long t52_0)) :: .second :: (.val (.int xs)) :: (.val (.int t70_0)) :: (.val (.long t19_0)) :: .second :: (.val (.long v83)) :: .second :: (.val (.long v95)) :: .second :: (.val (.long v107)) :: .second :: (.val (.long t52_0)) :: .second :: (.val (.long v121)) :: .second :: (.val (.long v133)) :: .second :: (.val (.long v145)) :: .second :: (.val (.ref x1)) :: (.val (.ref x2)) :: (.val (.int (2 : Int32))) :: (.val (.ref sx)) :: [])), Hsk2_2, by decide, by decide, Or.inr ⟨.boolean, (.int (1 : Int32)), [], .ireturn, rfl, rfl, at_295, own_retZ (Or.inr rfl), fun target q => ?_⟩⟩
    refine own_go H0 hx hZ hown hby hw own_K0_ok (own_s0 xa xs xb xt xm v4 hv4 v10 hv10 v12 hv12 v13 hv13 v18 hv18 t19_0 ht19_0) _ ?_
    refine own_go H0 hx hZ hown hby hw own_K0_ok (own_s1 xa xs xb xt xm t19_0 v24 hv24 v37 hv37 v43 hv43 v45 hv45 v46 hv46 v51 hv51 t52_0 ht52_0) _ ?_
    refine own_go H0 hx hZ hown hby hw own_K0_ok (own_s2 xa xs xb xt xm t19_0 t52_0 v60 hv60 t70_0 ht70_0) _ ?_
    refine own_go H0 hx hZ hown hby hw own_K0_ok (own_s3 xa xs xb xt xm t19_0 t52_0 t70_0 v81 hv81 v82 hv82 v83 hv83 v91 hv91 v93 hv93 v94 hv94 v95 hv95 v103 hv103 v105 hv105 v106 hv106 v107 hv107 v119 hv119 v120 hv120 v121 hv121 v129 hv129 v131 hv131 v132 hv132 v133 hv133 v141 hv141 v143 hv143 v144 hv144 v145 hv145) _ ?_
    refine sts1 _ ?_
    refine own_go Hs1 hx hZ hown hby hw own_K0_ok (own_s4 xa xs xb xt xm t19_0 t52_0 t70_0 v83 v95 v107 v121 v133 v145 x1) _ ?_
    refine sts2 _ ?_
    refine own_go Hs2 hx hZ hown hby hw own_K0_ok (own_s5 xa xs xb xt xm t19_0 t52_0 t70_0 v83 v95 v107 v121 v133 v145 p0 x1) _ ?_
    refine sts3 _ ?_
    refine own_go Hs3 hx hZ hown hby hw own_K0_ok (own_s6 xa xs xb xt xm t19_0 t52_0 t70_0 v83 v95 v107 v121 v133 v145 p1 p0 x1) _ ?_
    refine sts4 _ ?_
    refine own_go Hs4 hx hZ hown hby hw own_K0_ok (own_s7 xa xs xb xt xm t19_0 t52_0 t70_0 v83 v95 v107 v121 v133 v145 p2 p1 p0 x1) _ ?_
    refine sts5 _ ?_
    refine sts6 _ ?_
    refine own_go Hs6 hx hZ hown hby hw own_K0_ok (own_s8 xa xs xb xt xm t19_0 t52_0 t70_0 v83 v95 v107 v121 v133 v145 x1) _ ?_
    refine sts7 _ ?_
    refine own_go Hs7 hx hZ hown hby hw own_K0_ok (own_s9 xa xs xb xt xm t19_0 t52_0 t70_0 v83 v95 v107 v121 v133 v145 x1 x2) _ ?_
    refine sts8 _ ?_
    refine own_go Hs8 hx hZ hown hby hw own_K0_ok (own_s10 xa xs xb xt xm t19_0 t52_0 t70_0 v83 v95 v107 v121 v133 v145 x1 q0 x2) _ ?_
    refine sts9 _ ?_
    refine own_go Hs9 hx hZ hown hby hw own_K0_ok (own_s11 xa xs xb xt xm t19_0 t52_0 t70_0 v83 v95 v107 v121 v133 v145 x1 q1 q0 x2) _ ?_
    refine sts10 _ ?_
    refine own_go Hs10 hx hZ hown hby hw own_K0_ok (own_s12 xa xs xb xt xm t19_0 t52_0 t70_0 v83 v95 v107 v121 v133 v145 x1 q2 q1 q0 x2) _ ?_
    refine sts11 _ ?_
    refine sts12 _ ?_
    refine own_go Hs12 hx hZ hown hby hw own_K0_ok (own_sk2_0 xa xs xb xt xm t19_0 t52_0 t70_0 v83 v95 v107 v121 v133 v145 x1 x2 v241 hv241 hl243) _ ?_
    refine stsk2_1 _ ?_
    refine own_go Hsk2_1 hx hZ hown hby hw own_K0_ok (own_sk2_1 xa xs xb xt xm t19_0 t52_0 t70_0 v83 v95 v107 v121 v133 v145 x1 x2 sx) _ ?_
    refine stsk2_2 _ ?_
    refine own_go Hsk2_2 hx hZ hown hby hw own_K0_ok (own_sk2_2 xa xs xb xt xm t19_0 t52_0 t70_0 v83 v95 v107 v121 v133 v145 x1 x2 sx) _ ?_
    exact q
  · skip
    obtain ⟨v241, hv241⟩ : ∃ z : Int32, (xm >>> ((2 : Int32) &&& 31)) = z := ⟨_, rfl⟩
    have hl243 : (v241 &&& (3 : Int32)) = (3 : Int32) := by rw [← hv241]; exact hkk
    obtain ⟨Tsk3_1, vsk3_1_, cssk3_1_, qsk3_1, Hsk3_1, stsk3_1⟩ := own_callV Hs12 hx hZ hown (hw _ (List.mem_of_getElem? (i := 33) rfl)) (hw _ (List.mem_of_getElem? (i := 34) rfl)) (hw _ (List.mem_of_getElem? (i := 36) rfl)) (hw _ (List.mem_of_getElem? (i := 35) rfl)) (hw _ (List.mem_of_getElem? (i := 2) rfl)) (hw _ (List.mem_of_getElem? (i := 37) rfl)) (by decide) (x := x1) 0 rfl (argsL := [(.ref x1)]) (rest := []) (W := 0) (own_eqc4 l Z a0 hb0 hw x1 x2 p0 p1 p2 p3 q0 q1 q2 q3 _ _ i0 i0 _ _ i1 i1 _ _ i2 i2 _ _ i3 i3) (by decide) (by decide) (by decide) (by decide) (g := (mkF m 306 (List.toArray ((.val (.int xa)) :: (.val (.int xs)) :: (.val (.int xb)) :: (.val (.int xt)) :: (.val (.int xm)) :: (.val (.long t19_0)) :: .second :: (.val (.long t52_0)) :: .second :: (.val (.int xs)) :: (.val (.int t70_0)) :: (.val (.long t19_0)) :: .second :: (.val (.long v83)) :: .second :: (.val (.long v95)) :: .second :: (.val (.long v107)) :: .second :: (.val (.long t52_0)) :: .second :: (.val (.long v121)) :: .second :: (.val (.long v133)) :: .second :: (.val (.long v145)) :: .second :: (.val (.ref x1)) :: (.val (.ref x2)) :: (.val (.int (3 : Int32))) :: .unset :: [])) [(.ref x1), (.ref x1)])) rfl (by rw [hml]; rfl) (lenOf own_pd11 rfl) rfl (by show 2 * 0 + _ ≤ _; exact Nat.le_of_eq rfl) (hb hby at_306)
    obtain ⟨rfl, rfl⟩ := qsk3_1
    change own_S _ _ _ _ _ _ _ _ _ _ _ _ _ _ [(x1, own_O "com/example/hazeline/hazeline/fuzzy/Trapezoid" [("com/example/hazeline/hazeline/fuzzy/Trapezoid", "a", "D", .double p0), ("com/example/hazeline/hazeline/fuzzy/Trapezoid", "b", "D", .double p1), ("com/example/hazeline/hazeline/fuzzy/Trapezoid", "c", "D", .double p2), ("com/example/hazeline/hazeline/fuzzy/Trapezoid", "d", "D", .double p3)]), (x2, own_O "com/example/hazeline/hazeline/fuzzy/Trapezoid" [("com/example/hazeline/hazeline/fuzzy/Trapezoid", "a", "D", .double q0), ("com/example/hazeline/hazeline/fuzzy/Trapezoid", "b", "D", .double q1), ("com/example/hazeline/hazeline/fuzzy/Trapezoid", "c", "D", .double q2), ("com/example/hazeline/hazeline/fuzzy/Trapezoid", "d", "D", .double q3)])] _ _ at Hsk3_1
    refine ⟨_, _, _, _, 309, (List.toArray ((.val (.int xa)) :: (.val (.int xs)) :: (.val (.int xb)) :: (.val (.int xt)) :: (.val (.int xm)) :: (.val (.long t19_0)) :: .second :: (.val (.long t52_0)) :: .second :: (.val (.int xs)) :: (.val (.int t70_0)) :: (.val (.long t19_0)) :: .second :: (.val (.long v83)) :: .second :: (.val (.long v95)) :: .second :: (.val (.long v107)) :: .second :: (.val (.long t52_0)) :: .second :: (.val (.long v121)) :: .second :: (.val (.long v133)) :: .second :: (.val (.long v145)) :: .second :: (.val (.ref x1)) :: (.val (.ref x2)) :: (.val (.int (3 : Int32))) :: .unset :: [])), Hsk3_1, by decide, by decide, Or.inr ⟨.boolean, (.int (1 : Int32)), [], .ireturn, rfl, rfl, at_309, own_retZ (Or.inr rfl), fun target q => ?_⟩⟩
    refine own_go H0 hx hZ hown hby hw own_K0_ok (own_s0 xa xs xb xt xm v4 hv4 v10 hv10 v12 hv12 v13 hv13 v18 hv18 t19_0 ht19_0) _ ?_
    refine own_go H0 hx hZ hown hby hw own_K0_ok (own_s1 xa xs xb xt xm t19_0 v24 hv24 v37 hv37 v43 hv43 v45 hv45 v46 hv46 v51 hv51 t52_0 ht52_0) _ ?_
    refine own_go H0 hx hZ hown hby hw own_K0_ok (own_s2 xa xs xb xt xm t19_0 t52_0 v60 hv60 t70_0 ht70_0) _ ?_
    refine own_go H0 hx hZ hown hby hw own_K0_ok (own_s3 xa xs xb xt xm t19_0 t52_0 t70_0 v81 hv81 v82 hv82 v83 hv83 v91 hv91 v93 hv93 v94 hv94 v95 hv95 v103 hv103 v105 hv105 v106 hv106 v107 hv107 v119 hv119 v120 hv120 v121 hv121 v129 hv129 v131 hv131 v132 hv132 v133 hv133 v141 hv141 v143 hv143 v144 hv144 v145 hv145) _ ?_
    refine sts1 _ ?_
    refine own_go Hs1 hx hZ hown hby hw own_K0_ok (own_s4 xa xs xb xt xm t19_0 t52_0 t70_0 v83 v95 v107 v121 v133 v145 x1) _ ?_
    refine sts2 _ ?_
    refine own_go Hs2 hx hZ hown hby hw own_K0_ok (own_s5 xa xs xb xt xm t19_0 t52_0 t70_0 v83 v95 v107 v121 v133 v145 p0 x1) _ ?_
    refine sts3 _ ?_
    refine own_go Hs3 hx hZ hown hby hw own_K0_ok (own_s6 xa xs xb xt xm t19_0 t52_0 t70_0 v83 v95 v107 v121 v133 v145 p1 p0 x1) _ ?_
    refine sts4 _ ?_
    refine own_go Hs4 hx hZ hown hby hw own_K0_ok (own_s7 xa xs xb xt xm t19_0 t52_0 t70_0 v83 v95 v107 v121 v133 v145 p2 p1 p0 x1) _ ?_
    refine sts5 _ ?_
    refine sts6 _ ?_
    refine own_go Hs6 hx hZ hown hby hw own_K0_ok (own_s8 xa xs xb xt xm t19_0 t52_0 t70_0 v83 v95 v107 v121 v133 v145 x1) _ ?_
    refine sts7 _ ?_
    refine own_go Hs7 hx hZ hown hby hw own_K0_ok (own_s9 xa xs xb xt xm t19_0 t52_0 t70_0 v83 v95 v107 v121 v133 v145 x1 x2) _ ?_
    refine sts8 _ ?_
    refine own_go Hs8 hx hZ hown hby hw own_K0_ok (own_s10 xa xs xb xt xm t19_0 t52_0 t70_0 v83 v95 v107 v121 v133 v145 x1 q0 x2) _ ?_
    refine sts9 _ ?_
    refine own_go Hs9 hx hZ hown hby hw own_K0_ok (own_s11 xa xs xb xt xm t19_0 t52_0 t70_0 v83 v95 v107 v121 v133 v145 x1 q1 q0 x2) _ ?_
    refine sts10 _ ?_
    refine own_go Hs10 hx hZ hown hby hw own_K0_ok (own_s12 xa xs xb xt xm t19_0 t52_0 t70_0 v83 v95 v107 v121 v133 v145 x1 q2 q1 q0 x2) _ ?_
    refine sts11 _ ?_
    refine sts12 _ ?_
    refine own_go Hs12 hx hZ hown hby hw own_K0_ok (own_sk3_0 xa xs xb xt xm t19_0 t52_0 t70_0 v83 v95 v107 v121 v133 v145 x1 x2 v241 hv241 hl243) _ ?_
    refine stsk3_1 _ ?_
    exact q
set_option maxRecDepth 65536 in
set_option maxHeartbeats 40000000 in
theorem own_comes {Post : Tables → Env → Array Value → State → Outcome → State → Prop} (hpost : ∀ tb e args s v u, (limb_1_1.after args s (.returned v) u = true ∧ limb_1_2.after args s (.returned v) u = true ∧ True) → FrameEnd s (.returned v) u (Jvm.fieldLocs frame_1_writes args s ++ Jvm.arrayLocs frame_1_arrays args s ++ Jvm.staticLocs frame_1_statics s) 16 128 → Post tb e args s (.returned v) u) :
    ArmFor flags0 classFile x code maxLocals ret World_1 tables_1 room_1 Calls_1 rest_1 Pre_1 Post := by
  intro l hfl _ _ p e ha hc hk s m args below hf hA hF happ hP
  obtain ⟨hcalls, hrest, hpre⟩ := hP
  obtain ⟨-, -, -, hnamed, -, -, -, hat⟩ := (Spec.applies_iff hf).mp happ
  obtain ⟨hg, hn⟩ := and_e (Cond.before_iff.mp (show (Jvm.Cond.and given_1 narrow_1).before args s = true from hpre))
  obtain ⟨h1, g0⟩ := and_e hg
  obtain ⟨w0, w1, w2, w3, w4, rfl⟩ : ∃ w0 w1 w2 w3 w4 : Value, args = #[w0, w1, w2, w3, w4] := by
    have hs : args.size = 5 := by simpa [Cond.value, given_1] using h1
    obtain ⟨L⟩ := args
    match L, hs with
    | [w0, w1, w2, w3, w4], _ => exact ⟨w0, w1, w2, w3, w4, rfl⟩
  have hw := fun d (hd : d ∈ tables_1) => atoms_spec (ws := Jvm.Cond.code x code maxLocals ret :: tables_1) hat d (List.mem_cons_of_mem _ hd)
  have hfit : Fit s := fun {y c} hc i hi => by
    obtain ⟨ha, rfl⟩ := Array.getElem?_eq_some_iff.mp hc
    have q := List.all_eq_true.mp ((Array.all_eq_true_iff_forall_mem.mp hF) _ (Array.getElem_mem ha)) i (List.mem_range.mpr hi)
    simpa [Array.getElem?_eq_getElem hi] using q
  obtain ⟨hsets, hown0⟩ := atoms_of _ (rest_1_c_eq ▸ (show rest_1_c.before _ s = true from hrest))
  have n3 := not_v (Cond.before_iff.mp (hsets _ (List.mem_of_getElem? (i := 2) rfl)))
  obtain ⟨gs, eg⟩ := is_v (Cond.before_iff.mp (hsets _ (List.mem_of_getElem? (i := 1) rfl)))
  have SG : Sta s s.heap "java/lang/String" "COMPACT_STRINGS" "Z" (.int gs) := Sta.start eg (Or.inl (hsets _ (List.mem_of_getElem? (i := 0) rfl)))
  have gz : ¬ (gs = (0 : Int32)) := gotF (Cond.eq_ints eg (Term.int_eval (0))) n3
  obtain ⟨f0, g1⟩ := and_e g0
  obtain ⟨i0, e0⟩ := is_v f0
  obtain rfl : w0 = (.int i0) := Option.some.inj e0
  obtain ⟨f1, g2⟩ := and_e g1
  obtain ⟨i1, e1⟩ := is_v f1
  obtain rfl : w1 = (.int i1) := Option.some.inj e1
  obtain ⟨f2, g3⟩ := and_e g2
  obtain ⟨i2, e2⟩ := is_v f2
  obtain rfl : w2 = (.int i2) := Option.some.inj e2
  obtain ⟨f3, g4⟩ := and_e g3
  obtain ⟨i3, e3⟩ := is_v f3
  obtain rfl : w3 = (.int i3) := Option.some.inj e3
  obtain ⟨i4, e4⟩ := is_v g4
  obtain rfl : w4 = (.int i4) := Option.some.inj e4
  obtain ⟨n, o, h1, h2, h3, _, L, rfl, ⟨N, cs', rfl, -⟩, hq⟩ := own_law l s _ ⟨s.heap, 0⟩ hw i0 i1 i2 i3 i4 gs SG gz s.heap (own_Hp_start s _ s.heap) p e ha hc hk s m _ below hf ((Spec.applies_iff_loose hf).mp happ).1 ⟨rfl, State.Warmed39.refl s, rfl⟩ trivial
  refine ⟨n, _, h1, h2, h3, hpost _ _ _ _ _ _ ⟨Cond.after_iff.mpr rfl, Cond.after_iff.mpr (eq_i res_at (Term.int_eval (1)) rfl), trivial⟩ ⟨hq.1, hq.2.1, (hq.2.2.sift fun y hy => Or.inr (N y hy)).mono (by decide) (by decide)⟩⟩
theorem main_1_1 : Claimed_1_1 := own_comes fun _ _ _ _ _ _ h hF => ⟨h.1, hF⟩
theorem main_1_2 : Claimed_1_2 := own_comes fun _ _ _ _ _ _ h hF => ⟨h.2.1, hF⟩
end OwnClaim
end Jvm.Pilot.@@N@@
namespace Jvm.Pilot.@@N@@
open Jvm Jvm.ClassFile Sem Op Lib Jvm.Free Jvm.Stand Jvm.Pilot.@@N@@.Jvm.D
/-! MADE BY PROGRAM (witnessworld.py) out of the Statement's table words and the real class files: 20 classes; the members and pool entries that the words name. The judged class is class 1, her method 1. -/
namespace start1
open Jvm.ClassFile
def u (s : String) : CpInfo := .utf8 (stringToUtf16 s)
/-- a pool by its gaps: so many unusable entries, then the entry; so many at the end -/
def gap : Nat → List CpInfo → List CpInfo
  | 0, r => r
  | n + 1, r => .unusable :: gap n r
def poolList (es : List (Nat × CpInfo)) (last : Nat) : List CpInfo := es.foldr (fun e r => gap e.1 (e.2 :: r)) (gap last [])
def pool (es : List (Nat × CpInfo)) (last : Nat) : Array CpInfo := ⟨poolList es last⟩
def fileOf (pool : Array CpInfo) (this : Nat) (attrs : Array Attribute := #[]) (ms : Array MethodInfo := #[]) (fl : Nat := 33) (sup : Nat := 0) (ifs : Array Nat := #[]) (fds : Array FieldInfo := #[]) : ClassFile where
  minorVersion := 0
  majorVersion := 65
  constantPool := pool
  accessFlags := fl
  thisClass := this
  superClass := sup
  interfaces := ifs
  fields := fds
  methods := ms
  attributes := attrs
def plain (name : String) (sup : Option ClassId) : Class where
  name := name
  kind := .ordinary
  loader := none
  accessFlags := 33
  super := sup
  interfaces := #[]
  cf := none
  fields := #[]
  methods := #[]
  instanceTypes := #[]
  staticTypes := #[]
  resolved := #[]
  callSites := []
  init := .initialized
  statics := none
  mirror := none

def pool0 : Array CpInfo := pool [(5, u "<init>"), (0, u "()V"), (1, .class_ 10), (1, u "java/lang/Object")] 113

def k0c0 : Code := { maxStack := 0, maxLocals := 1, code := object_method_1_code, exceptionTable := #[], attributes := #[] }
def k0m0 : Method := { name := "<init>", desc := "()V", sig := { parameters := [], returnType := none }, accessFlags := 1, code := some k0c0 }
/-- java/lang/Object -/
def k0 : Class := { plain "java/lang/Object" none with
  accessFlags := 33
  interfaces := #[]
  cf := some (fileOf pool0 8 #[] #[{ accessFlags := 1, nameIndex := 5, descriptorIndex := 6, attributes := #[] }] 33 0 #[] #[])
  fields := #[]
  methods := #[k0m0]
  instanceTypes := #[]
  staticTypes := #[]
  resolved := Array.replicate 124 none
  statics := none }

def pool1 : Array CpInfo := pool [(2, .class_ 4), (1, u "java/lang/Object"), (0, u "<init>"), (0, u "()V"), (0, .class_ 8), (0, u "com/example/hazeline/hazeline/fuzzy/Trapezoid"), (0, .methodref 10 11), (0, .class_ 12), (0, .nameAndType 13 14), (0, u "com/example/hazeline/hazeline/fuzzy/TrapezoidEqualsPinLaw"), (0, u "val"), (0, u "(JII)D"), (0, .methodref 7 16), (0, .nameAndType 5 17), (0, u "(DDDD)V"), (0, .methodref 7 19), (0, .nameAndType 20 21), (0, u "equals"), (0, u "(Ljava/lang/Object;)Z"), (0, .methodref 23 24), (0, .class_ 25), (0, .nameAndType 26 27), (0, u "java/lang/String"), (0, u "valueOf"), (0, u "(C)Ljava/lang/String;"), (0, .methodref 10 29), (0, .nameAndType 30 31), (0, u "same"), (0, u "(JIJII)Z"), (0, .double 9223372036854775808), (3, u "law"), (0, u "(IIIII)Z")] 3

def k1m0 : Method := { name := "<init>", desc := "()V", sig := { parameters := [], returnType := none }, accessFlags := 1, code := none }
def k1c1 : Code := { maxStack := 12, maxLocals := 31, code := code, exceptionTable := #[], attributes := #[] }
def k1m1 : Method := { name := "law", desc := "(IIIII)Z", sig := { parameters := [.int, .int, .int, .int, .int], returnType := some .boolean }, accessFlags := 9, code := some k1c1 }
def k1c2 : Code := { maxStack := 4, maxLocals := 4, code := method_3_code, exceptionTable := #[], attributes := #[] }
def k1m2 : Method := { name := "val", desc := "(JII)D", sig := { parameters := [.long, .int, .int], returnType := some .double }, accessFlags := 10, code := some k1c2 }
def k1c3 : Code := { maxStack := 4, maxLocals := 7, code := method_4_code, exceptionTable := #[], attributes := #[] }
def k1m3 : Method := { name := "same", desc := "(JIJII)Z", sig := { parameters := [.long, .int, .long, .int, .int], returnType := some .boolean }, accessFlags := 10, code := some k1c3 }
/-- com/example/hazeline/hazeline/fuzzy/TrapezoidEqualsPinLaw -/
def k1 : Class := { plain "com/example/hazeline/hazeline/fuzzy/TrapezoidEqualsPinLaw" (some 0) with
  accessFlags := 49
  interfaces := #[]
  cf := some (fileOf pool1 10 #[] #[{ accessFlags := 1, nameIndex := 5, descriptorIndex := 6, attributes := #[] }, { accessFlags := 9, nameIndex := 36, descriptorIndex := 37, attributes := #[] }, { accessFlags := 10, nameIndex := 13, descriptorIndex := 14, attributes := #[] }, { accessFlags := 10, nameIndex := 30, descriptorIndex := 31, attributes := #[] }] 49 2 #[] #[])
  fields := #[]
  methods := #[k1m0, k1m1, k1m2, k1m3]
  instanceTypes := #[]
  staticTypes := #[]
  resolved := Array.replicate 41 none
  statics := none }

def pool2 : Array CpInfo := pool [(1, .methodref 2 3), (0, .class_ 4), (0, .nameAndType 5 6), (0, u "java/lang/Object"), (0, u "<init>"), (0, u "()V"), (0, .methodref 8 9), (0, .class_ 10), (0, .nameAndType 11 12), (0, u "java/lang/Double"), (0, u "isFinite"), (0, u "(D)Z"), (3, .class_ 18), (1, u "com/example/hazeline/hazeline/fuzzy/Trapezoid"), (10, .fieldref 16 30), (0, .nameAndType 31 32), (0, u "a"), (0, u "D"), (0, .fieldref 16 34), (0, .nameAndType 35 32), (0, u "b"), (0, .fieldref 16 37), (0, .nameAndType 38 32), (0, u "c"), (0, .fieldref 16 40), (0, .nameAndType 41 32), (0, u "d"), (1, .class_ 45), (1, u "com/example/hazeline/hazeline/fuzzy/Trapezoid$1"), (15, u "(DDDD)V"), (16, .methodref 8 79), (0, .nameAndType 80 81), (0, u "compare"), (0, u "(DD)I"), (14, u "ZERO"), (0, u "Lcom/example/hazeline/hazeline/fuzzy/Trapezoid;"), (5, u "BY_MAGNITUDE"), (0, u "Ljava/util/Comparator;"), (16, u "equals"), (0, u "(Ljava/lang/Object;)Z")] 39

def k2c0 : Code := { maxStack := 10, maxLocals := 9, code := prog_5_method_1_code, exceptionTable := #[], attributes := #[] }
def k2m0 : Method := { name := "<init>", desc := "(DDDD)V", sig := { parameters := [.double, .double, .double, .double], returnType := none }, accessFlags := 1, code := some k2c0 }
def k2c1 : Code := { maxStack := 4, maxLocals := 3, code := prog_5_method_14_code, exceptionTable := #[], attributes := #[] }
def k2m1 : Method := { name := "equals", desc := "(Ljava/lang/Object;)Z", sig := { parameters := [(.object "java/lang/Object")], returnType := some .boolean }, accessFlags := 1, code := some k2c1 }
/-- com/example/hazeline/hazeline/fuzzy/Trapezoid -/
def k2 : Class := { plain "com/example/hazeline/hazeline/fuzzy/Trapezoid" (some 0) with
  accessFlags := 49
  interfaces := #[]
  cf := some (fileOf pool2 16 #[.nestMembers #[43]] #[{ accessFlags := 1, nameIndex := 5, descriptorIndex := 61, attributes := #[] }, { accessFlags := 1, nameIndex := 121, descriptorIndex := 122, attributes := #[] }] 49 2 #[] #[{ accessFlags := 25, nameIndex := 96, descriptorIndex := 97, attributes := #[] }, { accessFlags := 25, nameIndex := 103, descriptorIndex := 104, attributes := #[] }, { accessFlags := 18, nameIndex := 31, descriptorIndex := 32, attributes := #[] }, { accessFlags := 18, nameIndex := 35, descriptorIndex := 32, attributes := #[] }, { accessFlags := 18, nameIndex := 38, descriptorIndex := 32, attributes := #[] }, { accessFlags := 18, nameIndex := 41, descriptorIndex := 32, attributes := #[] }])
  fields := #[{ name := "ZERO", type := (.object "com/example/hazeline/hazeline/fuzzy/Trapezoid"), accessFlags := 25, slot := 0, constantValue := 0 }, { name := "BY_MAGNITUDE", type := (.object "java/util/Comparator"), accessFlags := 25, slot := 1, constantValue := 0 }, { name := "a", type := .double, accessFlags := 18, slot := 0, constantValue := 0 }, { name := "b", type := .double, accessFlags := 18, slot := 1, constantValue := 0 }, { name := "c", type := .double, accessFlags := 18, slot := 2, constantValue := 0 }, { name := "d", type := .double, accessFlags := 18, slot := 3, constantValue := 0 }]
  methods := #[k2m0, k2m1]
  instanceTypes := #[.double, .double, .double, .double]
  staticTypes := #[(.object "com/example/hazeline/hazeline/fuzzy/Trapezoid"), (.object "java/util/Comparator")]
  resolved := Array.replicate 162 none
  statics := none }

def pool3 : Array CpInfo := pool [(1, .class_ 2), (0, u "java/io/Serializable"), (0, .class_ 4), (0, u "java/lang/Object")] 2

/-- java/io/Serializable -/
def k3 : Class := { plain "java/io/Serializable" (some 0) with
  accessFlags := 1537
  interfaces := #[]
  cf := some (fileOf pool3 1 #[] #[] 1537 3 #[] #[])
  fields := #[]
  methods := #[]
  instanceTypes := #[]
  staticTypes := #[]
  resolved := Array.replicate 7 none
  statics := none }

def pool4 : Array CpInfo := pool [(2, .class_ 4), (1, u "java/lang/Object"), (0, u "<init>"), (0, u "()V"), (1, .class_ 10), (1, u "java/lang/Number"), (2, .class_ 14), (0, u "java/io/Serializable"), (0, u "serialVersionUID"), (0, u "J")] 20

def k4m0 : Method := { name := "<init>", desc := "()V", sig := { parameters := [], returnType := none }, accessFlags := 1, code := none }
/-- java/lang/Number -/
def k4 : Class := { plain "java/lang/Number" (some 0) with
  accessFlags := 1057
  interfaces := #[3]
  cf := some (fileOf pool4 8 #[] #[{ accessFlags := 1, nameIndex := 5, descriptorIndex := 6, attributes := #[] }] 1057 2 #[13] #[{ accessFlags := 26, nameIndex := 15, descriptorIndex := 16, attributes := #[] }])
  fields := #[{ name := "serialVersionUID", type := .long, accessFlags := 26, slot := 0, constantValue := 0 }]
  methods := #[k4m0]
  instanceTypes := #[]
  staticTypes := #[.long]
  resolved := Array.replicate 37 none
  statics := none }

def pool5 : Array CpInfo := pool [(1, .class_ 2), (0, u "java/lang/Comparable"), (0, .class_ 4), (0, u "java/lang/Object")] 7

/-- java/lang/Comparable -/
def k5 : Class := { plain "java/lang/Comparable" (some 0) with
  accessFlags := 1537
  interfaces := #[]
  cf := some (fileOf pool5 1 #[] #[] 1537 3 #[] #[])
  fields := #[]
  methods := #[]
  instanceTypes := #[]
  staticTypes := #[]
  resolved := Array.replicate 12 none
  statics := none }

def pool6 : Array CpInfo := pool [(1, .class_ 2), (0, u "java/lang/constant/Constable"), (0, .class_ 4), (0, u "java/lang/Object")] 6

/-- java/lang/constant/Constable -/
def k6 : Class := { plain "java/lang/constant/Constable" (some 0) with
  accessFlags := 1537
  interfaces := #[]
  cf := some (fileOf pool6 1 #[] #[] 1537 3 #[] #[])
  fields := #[]
  methods := #[]
  instanceTypes := #[]
  staticTypes := #[]
  resolved := Array.replicate 11 none
  statics := none }

def pool7 : Array CpInfo := pool [(1, .class_ 2), (0, u "java/lang/constant/ConstantDesc"), (0, .class_ 4), (0, u "java/lang/Object")] 32

/-- java/lang/constant/ConstantDesc -/
def k7 : Class := { plain "java/lang/constant/ConstantDesc" (some 0) with
  accessFlags := 1537
  interfaces := #[]
  cf := some (fileOf pool7 1 #[] #[] 1537 3 #[] #[])
  fields := #[]
  methods := #[]
  instanceTypes := #[]
  staticTypes := #[]
  resolved := Array.replicate 37 none
  statics := none }

def pool8 : Array CpInfo := pool [(1, .class_ 2), (0, u "java/lang/Double"), (10, u "isFinite"), (0, u "(D)Z"), (8, .class_ 25), (1, u "java/lang/Math"), (12, .methodref 23 39), (0, .nameAndType 40 41), (0, u "abs"), (0, u "(D)D"), (4, .methodref 1 47), (0, .nameAndType 48 49), (0, u "doubleToLongBits"), (0, u "(D)J"), (61, .double 9218868437227405311), (2, .class_ 116), (1, u "java/lang/Number"), (3, u "value"), (0, u "D"), (0, .methodref 1 123), (0, .nameAndType 124 14), (0, u "isNaN"), (9, .methodref 1 135), (0, .nameAndType 136 49), (0, u "doubleToRawLongBits"), (4, u "compare"), (0, u "(DD)I"), (30, u "TYPE"), (0, u "Ljava/lang/Class;"), (0, .class_ 176), (0, u "java/lang/Comparable"), (0, .class_ 178), (0, u "java/lang/constant/Constable"), (0, .class_ 180), (0, u "java/lang/constant/ConstantDesc"), (0, u "POSITIVE_INFINITY"), (3, u "NEGATIVE_INFINITY"), (2, u "NaN"), (2, u "MAX_VALUE"), (0, u "MIN_NORMAL"), (0, u "MIN_VALUE"), (2, u "SIZE"), (0, u "I"), (1, u "PRECISION"), (1, u "MAX_EXPONENT"), (1, u "MIN_EXPONENT"), (1, u "BYTES"), (3, u "serialVersionUID"), (0, u "J")] 79

def k8c0 : Code := { maxStack := 4, maxLocals := 2, code := jdk_117_method_6_code, exceptionTable := #[], attributes := #[] }
def k8m0 : Method := { name := "isNaN", desc := "(D)Z", sig := { parameters := [.double], returnType := some .boolean }, accessFlags := 9, code := some k8c0 }
def k8c1 : Code := { maxStack := 4, maxLocals := 2, code := jdk_117_method_8_code, exceptionTable := #[], attributes := #[] }
def k8m1 : Method := { name := "isFinite", desc := "(D)Z", sig := { parameters := [.double], returnType := some .boolean }, accessFlags := 9, code := some k8c1 }
def k8c2 : Code := { maxStack := 2, maxLocals := 2, code := jdk_117_method_23_code, exceptionTable := #[], attributes := #[] }
def k8m2 : Method := { name := "doubleToLongBits", desc := "(D)J", sig := { parameters := [.double], returnType := some .long }, accessFlags := 9, code := some k8c2 }
def k8m3 : Method := { name := "doubleToRawLongBits", desc := "(D)J", sig := { parameters := [.double], returnType := some .long }, accessFlags := 265, code := none }
def k8c4 : Code := { maxStack := 4, maxLocals := 8, code := jdk_117_method_27_code, exceptionTable := #[], attributes := #[] }
def k8m4 : Method := { name := "compare", desc := "(DD)I", sig := { parameters := [.double, .double], returnType := some .int }, accessFlags := 9, code := some k8c4 }
/-- java/lang/Double -/
def k8 : Class := { plain "java/lang/Double" (some 4) with
  accessFlags := 49
  interfaces := #[5, 6, 7]
  cf := some (fileOf pool8 1 #[] #[{ accessFlags := 9, nameIndex := 124, descriptorIndex := 14, attributes := #[] }, { accessFlags := 9, nameIndex := 13, descriptorIndex := 14, attributes := #[] }, { accessFlags := 9, nameIndex := 48, descriptorIndex := 49, attributes := #[] }, { accessFlags := 265, nameIndex := 136, descriptorIndex := 49, attributes := #[] }, { accessFlags := 9, nameIndex := 141, descriptorIndex := 142, attributes := #[] }] 49 114 #[175, 177, 179] #[{ accessFlags := 25, nameIndex := 181, descriptorIndex := 121, attributes := #[] }, { accessFlags := 25, nameIndex := 185, descriptorIndex := 121, attributes := #[] }, { accessFlags := 25, nameIndex := 188, descriptorIndex := 121, attributes := #[] }, { accessFlags := 25, nameIndex := 191, descriptorIndex := 121, attributes := #[] }, { accessFlags := 25, nameIndex := 192, descriptorIndex := 121, attributes := #[] }, { accessFlags := 25, nameIndex := 193, descriptorIndex := 121, attributes := #[] }, { accessFlags := 25, nameIndex := 196, descriptorIndex := 197, attributes := #[] }, { accessFlags := 25, nameIndex := 199, descriptorIndex := 197, attributes := #[] }, { accessFlags := 25, nameIndex := 201, descriptorIndex := 197, attributes := #[] }, { accessFlags := 25, nameIndex := 203, descriptorIndex := 197, attributes := #[] }, { accessFlags := 25, nameIndex := 205, descriptorIndex := 197, attributes := #[] }, { accessFlags := 25, nameIndex := 173, descriptorIndex := 174, attributes := #[] }, { accessFlags := 18, nameIndex := 120, descriptorIndex := 121, attributes := #[] }, { accessFlags := 26, nameIndex := 209, descriptorIndex := 210, attributes := #[] }])
  fields := #[{ name := "POSITIVE_INFINITY", type := .double, accessFlags := 25, slot := 0, constantValue := 0 }, { name := "NEGATIVE_INFINITY", type := .double, accessFlags := 25, slot := 1, constantValue := 0 }, { name := "NaN", type := .double, accessFlags := 25, slot := 2, constantValue := 0 }, { name := "MAX_VALUE", type := .double, accessFlags := 25, slot := 3, constantValue := 0 }, { name := "MIN_NORMAL", type := .double, accessFlags := 25, slot := 4, constantValue := 0 }, { name := "MIN_VALUE", type := .double, accessFlags := 25, slot := 5, constantValue := 0 }, { name := "SIZE", type := .int, accessFlags := 25, slot := 6, constantValue := 0 }, { name := "PRECISION", type := .int, accessFlags := 25, slot := 7, constantValue := 0 }, { name := "MAX_EXPONENT", type := .int, accessFlags := 25, slot := 8, constantValue := 0 }, { name := "MIN_EXPONENT", type := .int, accessFlags := 25, slot := 9, constantValue := 0 }, { name := "BYTES", type := .int, accessFlags := 25, slot := 10, constantValue := 0 }, { name := "TYPE", type := (.object "java/lang/Class"), accessFlags := 25, slot := 11, constantValue := 0 }, { name := "value", type := .double, accessFlags := 18, slot := 0, constantValue := 0 }, { name := "serialVersionUID", type := .long, accessFlags := 26, slot := 12, constantValue := 0 }]
  methods := #[k8m0, k8m1, k8m2, k8m3, k8m4]
  instanceTypes := #[.double]
  staticTypes := #[.double, .double, .double, .double, .double, .double, .int, .int, .int, .int, .int, (.object "java/lang/Class"), .long]
  resolved := Array.replicate 290 none
  statics := none }

def pool9 : Array CpInfo := pool [(1, .class_ 2), (0, u "java/lang/Math"), (1, .class_ 6), (1, u "java/lang/Object"), (0, u "<init>"), (0, u "()V"), (5, u "(D)D"), (83, .class_ 100), (1, u "java/lang/Math$RandomNumberGeneratorHolder"), (23, u "abs"), (47, u "negativeZeroFloatBits"), (0, u "J"), (2, u "negativeZeroDoubleBits"), (68, u "$assertionsDisabled"), (0, u "Z"), (91, u "twoToTheDoubleScaleDown"), (0, u "D"), (4, u "twoToTheDoubleScaleUp"), (9, u "E"), (3, u "PI"), (2, u "TAU"), (2, u "DEGREES_TO_RADIANS"), (0, u "RADIANS_TO_DEGREES")] 94

def k9m0 : Method := { name := "<init>", desc := "()V", sig := { parameters := [], returnType := none }, accessFlags := 2, code := none }
def k9c1 : Code := { maxStack := 4, maxLocals := 2, code := jdk_29_method_64_code, exceptionTable := #[], attributes := #[] }
def k9m1 : Method := { name := "abs", desc := "(D)D", sig := { parameters := [.double], returnType := some .double }, accessFlags := 9, code := some k9c1 }
/-- java/lang/Math -/
def k9 : Class := { plain "java/lang/Math" (some 0) with
  accessFlags := 49
  interfaces := #[]
  cf := some (fileOf pool9 1 #[.nestMembers #[98]] #[{ accessFlags := 2, nameIndex := 7, descriptorIndex := 8, attributes := #[] }, { accessFlags := 9, nameIndex := 124, descriptorIndex := 14, attributes := #[] }] 49 4 #[] #[{ accessFlags := 25, nameIndex := 354, descriptorIndex := 339, attributes := #[] }, { accessFlags := 25, nameIndex := 358, descriptorIndex := 339, attributes := #[] }, { accessFlags := 25, nameIndex := 361, descriptorIndex := 339, attributes := #[] }, { accessFlags := 26, nameIndex := 364, descriptorIndex := 339, attributes := #[] }, { accessFlags := 26, nameIndex := 365, descriptorIndex := 339, attributes := #[] }, { accessFlags := 26, nameIndex := 172, descriptorIndex := 173, attributes := #[] }, { accessFlags := 26, nameIndex := 176, descriptorIndex := 173, attributes := #[] }, { accessFlags := 8, nameIndex := 344, descriptorIndex := 339, attributes := #[] }, { accessFlags := 8, nameIndex := 338, descriptorIndex := 339, attributes := #[] }, { accessFlags := 4120, nameIndex := 245, descriptorIndex := 246, attributes := #[] }])
  fields := #[{ name := "E", type := .double, accessFlags := 25, slot := 0, constantValue := 0 }, { name := "PI", type := .double, accessFlags := 25, slot := 1, constantValue := 0 }, { name := "TAU", type := .double, accessFlags := 25, slot := 2, constantValue := 0 }, { name := "DEGREES_TO_RADIANS", type := .double, accessFlags := 26, slot := 3, constantValue := 0 }, { name := "RADIANS_TO_DEGREES", type := .double, accessFlags := 26, slot := 4, constantValue := 0 }, { name := "negativeZeroFloatBits", type := .long, accessFlags := 26, slot := 5, constantValue := 0 }, { name := "negativeZeroDoubleBits", type := .long, accessFlags := 26, slot := 6, constantValue := 0 }, { name := "twoToTheDoubleScaleUp", type := .double, accessFlags := 8, slot := 7, constantValue := 0 }, { name := "twoToTheDoubleScaleDown", type := .double, accessFlags := 8, slot := 8, constantValue := 0 }, { name := "$assertionsDisabled", type := .boolean, accessFlags := 4120, slot := 9, constantValue := 0 }]
  methods := #[k9m0, k9m1]
  instanceTypes := #[]
  staticTypes := #[.double, .double, .double, .double, .double, .long, .long, .double, .double, .boolean]
  resolved := Array.replicate 460 none
  statics := none }

def pool10 : Array CpInfo := pool [(2, .class_ 4), (1, u "java/lang/CharSequence"), (42, .class_ 48), (0, u "java/lang/CharSequence$1CodePointIterator"), (10, .class_ 60), (0, u "java/lang/CharSequence$1CharIterator"), (5, .class_ 67), (0, u "java/lang/Object")] 63

/-- java/lang/CharSequence -/
def k10 : Class := { plain "java/lang/CharSequence" (some 0) with
  accessFlags := 1537
  interfaces := #[]
  cf := some (fileOf pool10 2 #[.nestMembers #[47, 59]] #[] 1537 66 #[] #[])
  fields := #[]
  methods := #[]
  instanceTypes := #[]
  staticTypes := #[]
  resolved := Array.replicate 131 none
  statics := none }

def pool11 : Array CpInfo := pool [(1, .methodref 2 3), (0, .class_ 4), (0, .nameAndType 5 6), (0, u "java/lang/Object"), (0, u "<init>"), (0, u "()V"), (2, .fieldref 10 11), (0, .class_ 12), (0, .nameAndType 13 14), (0, u "java/lang/String"), (0, u "value"), (0, u "[B"), (0, .fieldref 10 16), (0, .nameAndType 17 18), (0, u "coder"), (0, u "B"), (2, u "hash"), (0, u "I"), (2, u "hashIsZero"), (0, u "Z"), (11, .fieldref 10 39), (0, .nameAndType 40 26), (0, u "COMPACT_STRINGS"), (12, u "toBytes"), (53, .class_ 109), (1, u "java/lang/StringLatin1"), (99, .methodref 10 210), (0, .nameAndType 5 211), (0, u "([BB)V"), (157, u "(C)Z"), (205, .class_ 576), (0, u "java/lang/CharSequence"), (22, u "CASE_INSENSITIVE_ORDER"), (0, u "Ljava/util/Comparator;"), (181, u "valueOf"), (0, u "(C)Ljava/lang/String;"), (231, .methodref 107 1016), (0, .nameAndType 1017 369), (0, u "canEncode"), (0, .methodref 107 1019), (0, .nameAndType 53 1020), (0, u "(C)[B"), (80, u "serialPersistentFields"), (0, u "[Ljava/io/ObjectStreamField;"), (0, .class_ 1104), (0, u "java/lang/String$CaseInsensitiveComparator"), (1, .class_ 1107), (0, u "java/io/Serializable"), (0, .class_ 1109), (0, u "java/lang/Comparable"), (0, .class_ 1111), (0, u "java/lang/constant/Constable"), (0, .class_ 1113), (0, u "java/lang/constant/ConstantDesc"), (2, u "serialVersionUID"), (0, u "J"), (3, u "REPL"), (0, u "C"), (2, u "LATIN1"), (1, u "UTF16")] 323

def k11m0 : Method := { name := "<init>", desc := "()V", sig := { parameters := [], returnType := none }, accessFlags := 1, code := none }
def k11c1 : Code := { maxStack := 4, maxLocals := 1, code := jdk_42_method_139_code, exceptionTable := #[], attributes := #[] }
def k11m1 : Method := { name := "valueOf", desc := "(C)Ljava/lang/String;", sig := { parameters := [.char], returnType := some (.object "java/lang/String") }, accessFlags := 9, code := some k11c1 }
def k11c2 : Code := { maxStack := 2, maxLocals := 3, code := jdk_42_method_151_code, exceptionTable := #[], attributes := #[] }
def k11m2 : Method := { name := "<init>", desc := "([BB)V", sig := { parameters := [(.array .byte), .byte], returnType := none }, accessFlags := 0, code := some k11c2 }
/-- java/lang/String -/
def k11 : Class := { plain "java/lang/String" (some 0) with
  accessFlags := 49
  interfaces := #[3, 5, 10, 6, 7]
  cf := some (fileOf pool11 10 #[.nestMembers #[1103]] #[{ accessFlags := 1, nameIndex := 5, descriptorIndex := 6, attributes := #[] }, { accessFlags := 9, nameIndex := 782, descriptorIndex := 783, attributes := #[] }, { accessFlags := 0, nameIndex := 5, descriptorIndex := 211, attributes := #[] }] 49 2 #[1106, 1108, 575, 1110, 1112] #[{ accessFlags := 18, nameIndex := 13, descriptorIndex := 14, attributes := #[] }, { accessFlags := 18, nameIndex := 17, descriptorIndex := 18, attributes := #[] }, { accessFlags := 2, nameIndex := 21, descriptorIndex := 22, attributes := #[] }, { accessFlags := 2, nameIndex := 25, descriptorIndex := 26, attributes := #[] }, { accessFlags := 26, nameIndex := 1116, descriptorIndex := 1117, attributes := #[] }, { accessFlags := 24, nameIndex := 40, descriptorIndex := 26, attributes := #[] }, { accessFlags := 26, nameIndex := 1101, descriptorIndex := 1102, attributes := #[] }, { accessFlags := 26, nameIndex := 1121, descriptorIndex := 1122, attributes := #[] }, { accessFlags := 25, nameIndex := 599, descriptorIndex := 600, attributes := #[] }, { accessFlags := 24, nameIndex := 1125, descriptorIndex := 18, attributes := #[] }, { accessFlags := 24, nameIndex := 1127, descriptorIndex := 18, attributes := #[] }])
  fields := #[{ name := "value", type := (.array .byte), accessFlags := 18, slot := 0, constantValue := 0 }, { name := "coder", type := .byte, accessFlags := 18, slot := 1, constantValue := 0 }, { name := "hash", type := .int, accessFlags := 2, slot := 2, constantValue := 0 }, { name := "hashIsZero", type := .boolean, accessFlags := 2, slot := 3, constantValue := 0 }, { name := "serialVersionUID", type := .long, accessFlags := 26, slot := 0, constantValue := 0 }, { name := "COMPACT_STRINGS", type := .boolean, accessFlags := 24, slot := 1, constantValue := 0 }, { name := "serialPersistentFields", type := (.array (.object "java/io/ObjectStreamField")), accessFlags := 26, slot := 2, constantValue := 0 }, { name := "REPL", type := .char, accessFlags := 26, slot := 3, constantValue := 0 }, { name := "CASE_INSENSITIVE_ORDER", type := (.object "java/util/Comparator"), accessFlags := 25, slot := 4, constantValue := 0 }, { name := "LATIN1", type := .byte, accessFlags := 24, slot := 5, constantValue := 0 }, { name := "UTF16", type := .byte, accessFlags := 24, slot := 6, constantValue := 0 }]
  methods := #[k11m0, k11m1, k11m2]
  instanceTypes := #[(.array .byte), .byte, .int, .boolean]
  staticTypes := #[.long, .boolean, (.array (.object "java/io/ObjectStreamField")), .char, (.object "java/util/Comparator"), .byte, .byte]
  resolved := Array.replicate 1451 none
  statics := some 0 }

def pool12 : Array CpInfo := pool [(4, .class_ 6), (1, u "java/lang/Object"), (0, u "<init>"), (0, u "()V"), (5, .class_ 16), (1, u "java/lang/StringLatin1"), (73, u "canEncode"), (14, u "(C)Z"), (15, u "$assertionsDisabled"), (0, u "Z"), (98, .class_ 223), (1, u "java/lang/StringLatin1$LinesSpliterator"), (156, u "toBytes"), (1, u "(C)[B"), (7, .class_ 391), (0, u "java/lang/StringLatin1$CharsSpliterator")] 3

def k12m0 : Method := { name := "<init>", desc := "()V", sig := { parameters := [], returnType := none }, accessFlags := 0, code := none }
def k12c1 : Code := { maxStack := 2, maxLocals := 1, code := jdk_43_method_3_code, exceptionTable := #[], attributes := #[] }
def k12m1 : Method := { name := "canEncode", desc := "(C)Z", sig := { parameters := [.char], returnType := some .boolean }, accessFlags := 9, code := some k12c1 }
def k12c2 : Code := { maxStack := 4, maxLocals := 1, code := jdk_43_method_46_code, exceptionTable := #[], attributes := #[] }
def k12m2 : Method := { name := "toBytes", desc := "(C)[B", sig := { parameters := [.char], returnType := some (.array .byte) }, accessFlags := 9, code := some k12c2 }
/-- java/lang/StringLatin1 -/
def k12 : Class := { plain "java/lang/StringLatin1" (some 0) with
  accessFlags := 48
  interfaces := #[]
  cf := some (fileOf pool12 14 #[.nestMembers #[390, 221]] #[{ accessFlags := 0, nameIndex := 7, descriptorIndex := 8, attributes := #[] }, { accessFlags := 9, nameIndex := 90, descriptorIndex := 105, attributes := #[] }, { accessFlags := 9, nameIndex := 380, descriptorIndex := 382, attributes := #[] }] 48 4 #[] #[{ accessFlags := 4120, nameIndex := 121, descriptorIndex := 122, attributes := #[] }])
  fields := #[{ name := "$assertionsDisabled", type := .boolean, accessFlags := 4120, slot := 0, constantValue := 0 }]
  methods := #[k12m0, k12m1, k12m2]
  instanceTypes := #[]
  staticTypes := #[.boolean]
  resolved := Array.replicate 395 none
  statics := none }

def pool13 : Array CpInfo := pool [(2, .class_ 4), (1, u "java/lang/Object"), (0, u "<init>"), (0, u "()V"), (17, .class_ 26), (1, u "jdk/internal/util/Preconditions"), (28, .class_ 56), (0, u "jdk/internal/util/Preconditions$4"), (57, .class_ 115), (0, u "jdk/internal/util/Preconditions$1"), (7, u "SIOOBE_FORMATTER"), (0, u "Ljava/util/function/BiFunction;"), (0, .class_ 126), (0, u "jdk/internal/util/Preconditions$2"), (3, u "AIOOBE_FORMATTER"), (0, .class_ 132), (0, u "jdk/internal/util/Preconditions$3"), (3, u "IOOBE_FORMATTER")] 57

def k13m0 : Method := { name := "<init>", desc := "()V", sig := { parameters := [], returnType := none }, accessFlags := 1, code := none }
/-- jdk/internal/util/Preconditions -/
def k13 : Class := { plain "jdk/internal/util/Preconditions" (some 0) with
  accessFlags := 33
  interfaces := #[]
  cf := some (fileOf pool13 24 #[.nestMembers #[55, 131, 125, 114]] #[{ accessFlags := 1, nameIndex := 5, descriptorIndex := 6, attributes := #[] }] 33 2 #[] #[{ accessFlags := 25, nameIndex := 123, descriptorIndex := 124, attributes := #[] }, { accessFlags := 25, nameIndex := 130, descriptorIndex := 124, attributes := #[] }, { accessFlags := 25, nameIndex := 136, descriptorIndex := 124, attributes := #[] }])
  fields := #[{ name := "SIOOBE_FORMATTER", type := (.object "java/util/function/BiFunction"), accessFlags := 25, slot := 0, constantValue := 0 }, { name := "AIOOBE_FORMATTER", type := (.object "java/util/function/BiFunction"), accessFlags := 25, slot := 1, constantValue := 0 }, { name := "IOOBE_FORMATTER", type := (.object "java/util/function/BiFunction"), accessFlags := 25, slot := 2, constantValue := 0 }]
  methods := #[k13m0]
  instanceTypes := #[]
  staticTypes := #[(.object "java/util/function/BiFunction"), (.object "java/util/function/BiFunction"), (.object "java/util/function/BiFunction")]
  resolved := Array.replicate 194 none
  statics := some 1 }

def pool14 : Array CpInfo := pool [(9, u "<init>"), (6, .class_ 18), (1, u "java/lang/Object"), (0, u "()V"), (1, .class_ 23), (1, u "jdk/internal/util/ArraysSupport"), (0, u "LOG2_ARRAY_LONG_INDEX_SCALE"), (0, u "I"), (2, u "U"), (0, u "Ljdk/internal/misc/Unsafe;"), (8, u "BIG_ENDIAN"), (0, u "Z"), (8, u "LOG2_BYTE_BIT_SIZE"), (4, u "LOG2_ARRAY_INT_INDEX_SCALE"), (54, u "JLA"), (0, u "Ljdk/internal/access/JavaLangAccess;"), (11, u "LOG2_ARRAY_BOOLEAN_INDEX_SCALE"), (9, u "LOG2_ARRAY_BYTE_INDEX_SCALE"), (5, u "LOG2_ARRAY_CHAR_INDEX_SCALE"), (5, u "LOG2_ARRAY_SHORT_INDEX_SCALE"), (18, u "LOG2_ARRAY_FLOAT_INDEX_SCALE"), (24, u "LOG2_ARRAY_DOUBLE_INDEX_SCALE"), (89, u "T_BOOLEAN"), (2, u "T_CHAR"), (1, u "T_FLOAT"), (1, u "T_DOUBLE"), (1, u "T_BYTE"), (1, u "T_SHORT"), (1, u "T_INT"), (1, u "T_LONG"), (1, u "SOFT_MAX_ARRAY_LENGTH")] 83

def k14m0 : Method := { name := "<init>", desc := "()V", sig := { parameters := [], returnType := none }, accessFlags := 2, code := none }
/-- jdk/internal/util/ArraysSupport -/
def k14 : Class := { plain "jdk/internal/util/ArraysSupport" (some 0) with
  accessFlags := 33
  interfaces := #[]
  cf := some (fileOf pool14 21 #[] #[{ accessFlags := 2, nameIndex := 9, descriptorIndex := 19, attributes := #[] }] 33 16 #[] #[{ accessFlags := 24, nameIndex := 28, descriptorIndex := 29, attributes := #[] }, { accessFlags := 26, nameIndex := 38, descriptorIndex := 39, attributes := #[] }, { accessFlags := 25, nameIndex := 121, descriptorIndex := 25, attributes := #[] }, { accessFlags := 25, nameIndex := 131, descriptorIndex := 25, attributes := #[] }, { accessFlags := 25, nameIndex := 137, descriptorIndex := 25, attributes := #[] }, { accessFlags := 25, nameIndex := 143, descriptorIndex := 25, attributes := #[] }, { accessFlags := 25, nameIndex := 53, descriptorIndex := 25, attributes := #[] }, { accessFlags := 25, nameIndex := 24, descriptorIndex := 25, attributes := #[] }, { accessFlags := 25, nameIndex := 162, descriptorIndex := 25, attributes := #[] }, { accessFlags := 25, nameIndex := 187, descriptorIndex := 25, attributes := #[] }, { accessFlags := 26, nameIndex := 48, descriptorIndex := 25, attributes := #[] }, { accessFlags := 25, nameIndex := 277, descriptorIndex := 25, attributes := #[] }, { accessFlags := 25, nameIndex := 280, descriptorIndex := 25, attributes := #[] }, { accessFlags := 25, nameIndex := 282, descriptorIndex := 25, attributes := #[] }, { accessFlags := 25, nameIndex := 284, descriptorIndex := 25, attributes := #[] }, { accessFlags := 25, nameIndex := 286, descriptorIndex := 25, attributes := #[] }, { accessFlags := 25, nameIndex := 288, descriptorIndex := 25, attributes := #[] }, { accessFlags := 25, nameIndex := 290, descriptorIndex := 25, attributes := #[] }, { accessFlags := 25, nameIndex := 292, descriptorIndex := 25, attributes := #[] }, { accessFlags := 26, nameIndex := 108, descriptorIndex := 109, attributes := #[] }, { accessFlags := 25, nameIndex := 294, descriptorIndex := 25, attributes := #[] }])
  fields := #[{ name := "U", type := (.object "jdk/internal/misc/Unsafe"), accessFlags := 24, slot := 0, constantValue := 0 }, { name := "BIG_ENDIAN", type := .boolean, accessFlags := 26, slot := 1, constantValue := 0 }, { name := "LOG2_ARRAY_BOOLEAN_INDEX_SCALE", type := .int, accessFlags := 25, slot := 2, constantValue := 0 }, { name := "LOG2_ARRAY_BYTE_INDEX_SCALE", type := .int, accessFlags := 25, slot := 3, constantValue := 0 }, { name := "LOG2_ARRAY_CHAR_INDEX_SCALE", type := .int, accessFlags := 25, slot := 4, constantValue := 0 }, { name := "LOG2_ARRAY_SHORT_INDEX_SCALE", type := .int, accessFlags := 25, slot := 5, constantValue := 0 }, { name := "LOG2_ARRAY_INT_INDEX_SCALE", type := .int, accessFlags := 25, slot := 6, constantValue := 0 }, { name := "LOG2_ARRAY_LONG_INDEX_SCALE", type := .int, accessFlags := 25, slot := 7, constantValue := 0 }, { name := "LOG2_ARRAY_FLOAT_INDEX_SCALE", type := .int, accessFlags := 25, slot := 8, constantValue := 0 }, { name := "LOG2_ARRAY_DOUBLE_INDEX_SCALE", type := .int, accessFlags := 25, slot := 9, constantValue := 0 }, { name := "LOG2_BYTE_BIT_SIZE", type := .int, accessFlags := 26, slot := 10, constantValue := 0 }, { name := "T_BOOLEAN", type := .int, accessFlags := 25, slot := 11, constantValue := 0 }, { name := "T_CHAR", type := .int, accessFlags := 25, slot := 12, constantValue := 0 }, { name := "T_FLOAT", type := .int, accessFlags := 25, slot := 13, constantValue := 0 }, { name := "T_DOUBLE", type := .int, accessFlags := 25, slot := 14, constantValue := 0 }, { name := "T_BYTE", type := .int, accessFlags := 25, slot := 15, constantValue := 0 }, { name := "T_SHORT", type := .int, accessFlags := 25, slot := 16, constantValue := 0 }, { name := "T_INT", type := .int, accessFlags := 25, slot := 17, constantValue := 0 }, { name := "T_LONG", type := .int, accessFlags := 25, slot := 18, constantValue := 0 }, { name := "JLA", type := (.object "jdk/internal/access/JavaLangAccess"), accessFlags := 26, slot := 19, constantValue := 0 }, { name := "SOFT_MAX_ARRAY_LENGTH", type := .int, accessFlags := 25, slot := 20, constantValue := 0 }]
  methods := #[k14m0]
  instanceTypes := #[]
  staticTypes := #[(.object "jdk/internal/misc/Unsafe"), .boolean, .int, .int, .int, .int, .int, .int, .int, .int, .int, .int, .int, .int, .int, .int, .int, .int, .int, (.object "jdk/internal/access/JavaLangAccess"), .int]
  resolved := Array.replicate 378 none
  statics := none }

def pool15 : Array CpInfo := pool [(1, u "java/lang/Cloneable"), (0, .class_ 1), (0, u "java/lang/Object"), (0, .class_ 3)] 3

/-- java/lang/Cloneable -/
def k15 : Class := { plain "java/lang/Cloneable" (some 0) with
  accessFlags := 1537
  interfaces := #[]
  cf := some (fileOf pool15 2 #[] #[] 1537 4 #[] #[])
  fields := #[]
  methods := #[]
  instanceTypes := #[]
  staticTypes := #[]
  resolved := Array.replicate 8 none
  statics := none }

/-- the primitive byte -/
def k16 : Class := { plain "byte" none with kind := .primitive 'B', accessFlags := 0x411 }
/-- [B -/
def k17 : Class := { plain "[B" (some 0) with kind := .array 16 .byte, interfaces := #[15, 3], accessFlags := 1041 }

/-- the primitive int -/
def k18 : Class := { plain "int" none with kind := .primitive 'I', accessFlags := 0x411 }
/-- [I -/
def k19 : Class := { plain "[I" (some 0) with kind := .array 18 .int, interfaces := #[15, 3], accessFlags := 1041 }

def heap : Heap := #[{ cls := 11, slots := #[.long 0, .int 1, .null, .int 0, .null, .int 0, .int 0], vm := .statics 11 },
  { cls := 13, slots := #[.null, .null, .null], vm := .statics 13 }]
def classes : Array Class := #[k0, k1, k2, k3, k4, k5, k6, k7, k8, k9, k10, k11, k12, k13, k14, k15, k16, k17, k18, k19]
def interned : List (Array UInt16 × Addr) := []
def slotsUsed : Nat := 10
def theMethod : MethodId := ⟨1, 1⟩
def args0 : Array Value := #[.int 5, .int 7, .int 9, .int 11, .int 1]
def aboutOver (below : List Frame) : State where
  vm := { classes := classes, interned := interned.toArray }
  heap := heap
  slotsUsed := slotsUsed
  threads := #[{ frames := .invoking theMethod args0 :: below }]
def below0 : List Frame := [.native { method := ⟨0, 0⟩, args := #[] }]
def about1 : State := aboutOver below0
def p0 : Program := .bare "" "" ""
def e0 : Env := launch0.env 0 0 0
theorem w_frames : about1.frames = Frame.invoking theMethod args0 :: below0 := rfl
set_option maxRecDepth 65536 in
theorem w_args : argsFit about1.vm theMethod args0 = true := by decide +kernel
set_option maxRecDepth 65536 in
theorem w_heap : heapFits about1 = true := by decide +kernel
set_option maxRecDepth 65536 in
theorem w_runnable : about1.curStatus? = some .runnable := by decide +kernel
set_option maxRecDepth 65536 in
theorem w_alone : about1.alone = true := by decide +kernel
set_option maxRecDepth 65536 in
theorem w_named : about1.methodNamed? x = some theMethod := by decide +kernel
set_option maxRecDepth 65536 in
theorem w_hears : about1.hears theMethod below0 = true := by decide +kernel
set_option maxRecDepth 65536 in
theorem w_ripe : about1.ripe theMethod args0 below0 = true := by decide +kernel
theorem w_running : about1.status = .running := rfl
set_option maxRecDepth 65536 in
theorem w_room : about1.hasRoom e0.platform room_1 = true :=
  launch0.hasRoom_least _ room_1 (by decide +kernel) (by decide +kernel) (by decide +kernel) (by decide +kernel) (by decide +kernel) (by decide +kernel)
theorem allAtoms_all (ts : List Jvm.Cond) (a : Array Jvm.Value) (st : Jvm.State) : (allAtoms ts).before a st = ts.all (fun c => c.before a st) := by
  induction ts with
  | nil => rfl
  | cons c t ih =>
    show (Jvm.Cond.and c (allAtoms t)).before a st = _
    rw [Jvm.Cond.before_and, ih, List.all_cons]
def words1 : List Jvm.Cond := Jvm.Cond.code x code maxLocals ret :: tables_1
/-- a 'code' word, met by the world's own term for the bytes: nothing is compared byte by byte -/
theorem code_word {y : MethodName} {bytes : ByteArray} {mx : Nat} {rt : Option FieldType} {a : Array Value} {s : State} {m : MethodId} {meth : Method} {c : Code} (h1 : s.methodNamed? y = some m) (h2 : s.vm.method? m = some meth) (h3 : meth.code = some c) (h4 : c.code = bytes)
    (h5 : (c.maxLocals == mx && c.exceptionTable.isEmpty && decide (c.maxStack ≤ mostOperands) && decide (meth.sig.returnType = rt) && !meth.locks && decide (parseMethodDescriptor y.desc = some meth.sig)) = true) : (Jvm.Cond.code y bytes mx rt).before a s = true := by
  simp only [Bool.and_eq_true, beq_iff_eq, Bool.not_eq_true', decide_eq_true_eq] at h5
  obtain ⟨⟨⟨⟨⟨g1, g2⟩, g3⟩, g4⟩, g5⟩, g6⟩ := h5
  simp [Cond.before, Cond.holds, Cond.value, h1, h2, h3, h4, g1, g2, g3, g4, g5, g6]
def isCode : Jvm.Cond → Bool
  | .code _ _ _ _ => true
  | _ => false
theorem all_split {L : List Jvm.Cond} {P : Jvm.Cond → Bool} (h1 : L.all (fun c => isCode c || P c) = true) (h2 : ∀ c ∈ L.filter isCode, P c = true) : L.all P = true := by
  refine List.all_eq_true.mpr fun c hc => ?_
  have h := List.all_eq_true.mp h1 c hc
  rcases Bool.eq_false_or_eq_true (isCode c) with hi | hi
  · exact h2 c (List.mem_filter.mpr ⟨hc, hi⟩)
  · simpa [hi] using h
set_option maxRecDepth 65536 in
theorem w_c0 : (Jvm.Cond.code x code maxLocals ret).before args0 about1 = true := code_word (m := ⟨1, 1⟩) (meth := k1m1) (c := k1c1) (by decide +kernel) rfl rfl rfl (by decide +kernel)
set_option maxRecDepth 65536 in
theorem w_c1 : (Jvm.Cond.code ({ cls := "com/example/hazeline/hazeline/fuzzy/TrapezoidEqualsPinLaw", name := "val", desc := "(JII)D" } : Jvm.MethodName) method_3_code (4 : Nat) (Option.some Jvm.ClassFile.FieldType.double)).before args0 about1 = true := code_word (m := ⟨1, 2⟩) (meth := k1m2) (c := k1c2) (by decide +kernel) rfl rfl rfl (by decide +kernel)
set_option maxRecDepth 65536 in
theorem w_c2 : (Jvm.Cond.code ({ cls := "com/example/hazeline/hazeline/fuzzy/Trapezoid", name := "<init>", desc := "(DDDD)V" } : Jvm.MethodName) prog_5_method_1_code (9 : Nat) (Option.none : Option Jvm.ClassFile.FieldType)).before args0 about1 = true := code_word (m := ⟨2, 0⟩) (meth := k2m0) (c := k2c0) (by decide +kernel) rfl rfl rfl (by decide +kernel)
set_option maxRecDepth 65536 in
theorem w_c3 : (Jvm.Cond.code ({ cls := "java/lang/Object", name := "<init>", desc := "()V" } : Jvm.MethodName) object_method_1_code (1 : Nat) (Option.none : Option Jvm.ClassFile.FieldType)).before args0 about1 = true := code_word (m := ⟨0, 0⟩) (meth := k0m0) (c := k0c0) (by decide +kernel) rfl rfl rfl (by decide +kernel)
set_option maxRecDepth 65536 in
theorem w_c4 : (Jvm.Cond.code ({ cls := "java/lang/Double", name := "isFinite", desc := "(D)Z" } : Jvm.MethodName) jdk_117_method_8_code (2 : Nat) (Option.some Jvm.ClassFile.FieldType.boolean)).before args0 about1 = true := code_word (m := ⟨8, 1⟩) (meth := k8m1) (c := k8c1) (by decide +kernel) rfl rfl rfl (by decide +kernel)
set_option maxRecDepth 65536 in
theorem w_c5 : (Jvm.Cond.code ({ cls := "java/lang/Math", name := "abs", desc := "(D)D" } : Jvm.MethodName) jdk_29_method_64_code (2 : Nat) (Option.some Jvm.ClassFile.FieldType.double)).before args0 about1 = true := code_word (m := ⟨9, 1⟩) (meth := k9m1) (c := k9c1) (by decide +kernel) rfl rfl rfl (by decide +kernel)
set_option maxRecDepth 65536 in
theorem w_c6 : (Jvm.Cond.code ({ cls := "com/example/hazeline/hazeline/fuzzy/TrapezoidEqualsPinLaw", name := "same", desc := "(JIJII)Z" } : Jvm.MethodName) method_4_code (7 : Nat) (Option.some Jvm.ClassFile.FieldType.boolean)).before args0 about1 = true := code_word (m := ⟨1, 3⟩) (meth := k1m3) (c := k1c3) (by decide +kernel) rfl rfl rfl (by decide +kernel)
set_option maxRecDepth 65536 in
theorem w_c7 : (Jvm.Cond.code ({ cls := "com/example/hazeline/hazeline/fuzzy/Trapezoid", name := "equals", desc := "(Ljava/lang/Object;)Z" } : Jvm.MethodName) prog_5_method_14_code (3 : Nat) (Option.some Jvm.ClassFile.FieldType.boolean)).before args0 about1 = true := code_word (m := ⟨2, 1⟩) (meth := k2m1) (c := k2c1) (by decide +kernel) rfl rfl rfl (by decide +kernel)
set_option maxRecDepth 65536 in
theorem w_c8 : (Jvm.Cond.code ({ cls := "java/lang/Double", name := "compare", desc := "(DD)I" } : Jvm.MethodName) jdk_117_method_27_code (8 : Nat) (Option.some Jvm.ClassFile.FieldType.int)).before args0 about1 = true := code_word (m := ⟨8, 4⟩) (meth := k8m4) (c := k8c4) (by decide +kernel) rfl rfl rfl (by decide +kernel)
set_option maxRecDepth 65536 in
theorem w_c9 : (Jvm.Cond.code ({ cls := "java/lang/String", name := "valueOf", desc := "(C)Ljava/lang/String;" } : Jvm.MethodName) jdk_42_method_139_code (1 : Nat) (Option.some (Jvm.ClassFile.FieldType.object "java/lang/String"))).before args0 about1 = true := code_word (m := ⟨11, 1⟩) (meth := k11m1) (c := k11c1) (by decide +kernel) rfl rfl rfl (by decide +kernel)
set_option maxRecDepth 65536 in
theorem w_c10 : (Jvm.Cond.code ({ cls := "java/lang/StringLatin1", name := "canEncode", desc := "(C)Z" } : Jvm.MethodName) jdk_43_method_3_code (1 : Nat) (Option.some Jvm.ClassFile.FieldType.boolean)).before args0 about1 = true := code_word (m := ⟨12, 1⟩) (meth := k12m1) (c := k12c1) (by decide +kernel) rfl rfl rfl (by decide +kernel)
set_option maxRecDepth 65536 in
theorem w_c11 : (Jvm.Cond.code ({ cls := "java/lang/StringLatin1", name := "toBytes", desc := "(C)[B" } : Jvm.MethodName) jdk_43_method_46_code (1 : Nat) (Option.some (Jvm.ClassFile.FieldType.array Jvm.ClassFile.FieldType.byte))).before args0 about1 = true := code_word (m := ⟨12, 2⟩) (meth := k12m2) (c := k12c2) (by decide +kernel) rfl rfl rfl (by decide +kernel)
set_option maxRecDepth 65536 in
theorem w_c12 : (Jvm.Cond.code ({ cls := "java/lang/String", name := "<init>", desc := "([BB)V" } : Jvm.MethodName) jdk_42_method_151_code (3 : Nat) (Option.none : Option Jvm.ClassFile.FieldType)).before args0 about1 = true := code_word (m := ⟨11, 2⟩) (meth := k11m2) (c := k11c2) (by decide +kernel) rfl rfl rfl (by decide +kernel)
set_option maxRecDepth 65536 in
theorem w_c13 : (Jvm.Cond.code ({ cls := "java/lang/Double", name := "doubleToLongBits", desc := "(D)J" } : Jvm.MethodName) jdk_117_method_23_code (2 : Nat) (Option.some Jvm.ClassFile.FieldType.long)).before args0 about1 = true := code_word (m := ⟨8, 2⟩) (meth := k8m2) (c := k8c2) (by decide +kernel) rfl rfl rfl (by decide +kernel)
set_option maxRecDepth 65536 in
theorem w_c14 : (Jvm.Cond.code ({ cls := "java/lang/Double", name := "isNaN", desc := "(D)Z" } : Jvm.MethodName) jdk_117_method_6_code (2 : Nat) (Option.some Jvm.ClassFile.FieldType.boolean)).before args0 about1 = true := code_word (m := ⟨8, 0⟩) (meth := k8m0) (c := k8c0) (by decide +kernel) rfl rfl rfl (by decide +kernel)
def codes1 : List Jvm.Cond := [Jvm.Cond.code x code maxLocals ret, Jvm.Cond.code ({ cls := "com/example/hazeline/hazeline/fuzzy/TrapezoidEqualsPinLaw", name := "val", desc := "(JII)D" } : Jvm.MethodName) method_3_code (4 : Nat) (Option.some Jvm.ClassFile.FieldType.double), Jvm.Cond.code ({ cls := "com/example/hazeline/hazeline/fuzzy/Trapezoid", name := "<init>", desc := "(DDDD)V" } : Jvm.MethodName) prog_5_method_1_code (9 : Nat) (Option.none : Option Jvm.ClassFile.FieldType), Jvm.Cond.code ({ cls := "java/lang/Object", name := "<init>", desc := "()V" } : Jvm.MethodName) object_method_1_code (1 : Nat) (Option.none : Option Jvm.ClassFile.FieldType), Jvm.Cond.code ({ cls := "java/lang/Double", name := "isFinite", desc := "(D)Z" } : Jvm.MethodName) jdk_117_method_8_code (2 : Nat) (Option.some Jvm.ClassFile.FieldType.boolean), Jvm.Cond.code ({ cls := "java/lang/Math", name := "abs", desc := "(D)D" } : Jvm.MethodName) jdk_29_method_64_code (2 : Nat) (Option.some Jvm.ClassFile.FieldType.double), Jvm.Cond.code ({ cls := "com/example/hazeline/hazeline/fuzzy/TrapezoidEqualsPinLaw", name := "same", desc := "(JIJII)Z" } : Jvm.MethodName) method_4_code (7 : Nat) (Option.some Jvm.ClassFile.FieldType.boolean), Jvm.Cond.code ({ cls := "com/example/hazeline/hazeline/fuzzy/Trapezoid", name := "equals", desc := "(Ljava/lang/Object;)Z" } : Jvm.MethodName) prog_5_method_14_code (3 : Nat) (Option.some Jvm.ClassFile.FieldType.boolean), Jvm.Cond.code ({ cls := "java/lang/Double", name := "compare", desc := "(DD)I" } : Jvm.MethodName) jdk_117_method_27_code (8 : Nat) (Option.some Jvm.ClassFile.FieldType.int), Jvm.Cond.code ({ cls := "java/lang/String", name := "valueOf", desc := "(C)Ljava/lang/String;" } : Jvm.MethodName) jdk_42_method_139_code (1 : Nat) (Option.some (Jvm.ClassFile.FieldType.object "java/lang/String")), Jvm.Cond.code ({ cls := "java/lang/StringLatin1", name := "canEncode", desc := "(C)Z" } : Jvm.MethodName) jdk_43_method_3_code (1 : Nat) (Option.some Jvm.ClassFile.FieldType.boolean), Jvm.Cond.code ({ cls := "java/lang/StringLatin1", name := "toBytes", desc := "(C)[B" } : Jvm.MethodName) jdk_43_method_46_code (1 : Nat) (Option.some (Jvm.ClassFile.FieldType.array Jvm.ClassFile.FieldType.byte)), Jvm.Cond.code ({ cls := "java/lang/String", name := "<init>", desc := "([BB)V" } : Jvm.MethodName) jdk_42_method_151_code (3 : Nat) (Option.none : Option Jvm.ClassFile.FieldType), Jvm.Cond.code ({ cls := "java/lang/Double", name := "doubleToLongBits", desc := "(D)J" } : Jvm.MethodName) jdk_117_method_23_code (2 : Nat) (Option.some Jvm.ClassFile.FieldType.long), Jvm.Cond.code ({ cls := "java/lang/Double", name := "isNaN", desc := "(D)Z" } : Jvm.MethodName) jdk_117_method_6_code (2 : Nat) (Option.some Jvm.ClassFile.FieldType.boolean)]
set_option maxRecDepth 65536 in
theorem codes_eq : words1.filter isCode = codes1 := rfl
theorem w_codes : ∀ c ∈ words1.filter isCode, c.before args0 about1 = true := by
  rw [codes_eq]
  intro c hc
  simp only [codes1, List.mem_cons, List.not_mem_nil, or_false] at hc
  rcases hc with rfl | rfl | rfl | rfl | rfl | rfl | rfl | rfl | rfl | rfl | rfl | rfl | rfl | rfl | rfl
  · exact w_c0
  · exact w_c1
  · exact w_c2
  · exact w_c3
  · exact w_c4
  · exact w_c5
  · exact w_c6
  · exact w_c7
  · exact w_c8
  · exact w_c9
  · exact w_c10
  · exact w_c11
  · exact w_c12
  · exact w_c13
  · exact w_c14
set_option maxRecDepth 65536 in
theorem w_t1 : (words1.take 24).all (fun c => isCode c || c.before args0 about1) = true := by decide +kernel
set_option maxRecDepth 65536 in
theorem w_t2 : ((words1.drop 24).take 24).all (fun c => isCode c || c.before args0 about1) = true := by decide +kernel
set_option maxRecDepth 65536 in
theorem w_t3 : (((words1.drop 24).drop 24).take 24).all (fun c => isCode c || c.before args0 about1) = true := by decide +kernel
set_option maxRecDepth 65536 in
theorem w_t4 : (((words1.drop 24).drop 24).drop 24).all (fun c => isCode c || c.before args0 about1) = true := by decide +kernel
theorem w_tables : (allAtoms (Jvm.Cond.code x code maxLocals ret :: tables_1)).before args0 about1 = true := by
  rw [allAtoms_all]
  show words1.all (fun c => c.before args0 about1) = true
  refine all_split ?_ w_codes
  rw [← List.take_append_drop 24 words1, List.all_append, w_t1, ← List.take_append_drop 24 (words1.drop 24), List.all_append, w_t2, ← List.take_append_drop 24 ((words1.drop 24).drop 24), List.all_append, w_t3, w_t4]
  rfl
set_option maxRecDepth 65536 in
theorem w_rest : rest_1_c.before args0 about1 = true := by decide +kernel
set_option maxRecDepth 65536 in
theorem w_case : (Jvm.Cond.and given_1 narrow_1).before args0 about1 = true := by decide +kernel
theorem w_applies : (headSpec (Jvm.Cond.code x code maxLocals ret :: tables_1) room_1).applies x e0.platform about1 = true :=
  (Spec.applies_iff w_frames).mpr ⟨w_running, w_runnable, w_alone, w_named, w_hears, w_ripe, w_room, w_tables⟩
theorem atStart : AtStart classFile x code maxLocals ret World_1 tables_1 room_1 Calls_1 rest_1 Pre_1 launch0 p0 e0 about1 theMethod args0 below0 :=
  ⟨lists_1, trivial, launch0.admits_env _ _ _, launch0.least_env, fairChoices_fair.cas, fairChoices_fair.clock, w_frames, w_args, w_heap, w_applies, trivial, w_rest, w_case⟩
end start1
theorem witness_1 : WitnessClaimed_1 := ⟨start1.p0, start1.e0, start1.about1, start1.theMethod, start1.args0, start1.below0, start1.atStart⟩
end Jvm.Pilot.@@N@@
