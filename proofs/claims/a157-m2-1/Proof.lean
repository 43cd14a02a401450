import JvmDerived
import JvmDerived.Pilot.@@N@@Statement
import JvmDerived.Pilot.@@N@@Code
set_option linter.unusedVariables false
set_option linter.unusedSimpArgs false
@@BLOCK:HandJ.lean.txt@@
@@BLOCK:SymMore.lean.txt@@
namespace Jvm.Pilot.@@N@@
/-! the number layer: own_is (a double is exactly that rational), own_rd (a double is that rational, rounded) -/
section OwnNum
open Jvm.FP.Core Jvm.Free.Fl
theorem own_inv1 : (1 : Rat)⁻¹ = 1 := Rat.inv_eq_of_mul_eq_one (Rat.mul_one 1)
theorem own_p_pos (q : Int) : (0 : Rat) < (2 : Rat) ^ q := Rat.zpow_pos (by decide)
theorem own_p_ne (q : Int) : (2 : Rat) ^ q ≠ 0 := Rat.ne_of_gt (own_p_pos q)
theorem own_p_add (a b : Int) : (2 : Rat) ^ (a + b) = 2 ^ a * 2 ^ b := Rat.zpow_add (by decide) a b
theorem own_p_nat (n : Nat) : ((2 ^ n : Nat) : Rat) = (2 : Rat) ^ (n : Int) := by rw [Rat.natCast_pow]; rfl
theorem own_p_toNat {a : Int} (h : 0 ≤ a) : ((2 ^ a.toNat : Nat) : Rat) = (2 : Rat) ^ a := by rw [own_p_nat, Int.toNat_of_nonneg h]
theorem own_p_neg (a : Int) : (2 : Rat) ^ a * 2 ^ (-a) = 1 := by rw [← own_p_add, Int.add_right_neg]; rfl
def own_is (x : UInt64) (r : Rat) : Prop := ∃ s c q, val64 x = .fin s c q ∧ r = ((signed s c : Int) : Rat) * (2 : Rat) ^ q
def own_rd (x : UInt64) (r : Rat) : Prop := ∃ s A B e, 0 < B ∧ val64 x = roundRatio b64 s A B e ∧ r = ((signed s A : Int) : Rat) / ((B : Nat) : Rat) * (2 : Rat) ^ e
theorem own_signed_cast (s : Bool) (c k : Nat) : ((signed s (c * k) : Int) : Rat) = ((signed s c : Int) : Rat) * ((k : Nat) : Rat) := by
  rw [signed_mul, Rat.intCast_mul]; rfl
theorem own_zmag {s : Bool} {c : Nat} {q : Int} (h : FP.Core.fits b64 (.fin s c q)) : ((zmag b64 (.fin s c q) : Nat) : Rat) = (c : Rat) * 2 ^ q * 2 ^ (1074 : Int) := by
  have h1 : b64.qmin ≤ q := h.2.1
  rw [qmin_b64] at h1
  show ((c * 2 ^ (q - b64.qmin).toNat : Nat) : Rat) = _
  rw [Rat.natCast_mul, own_p_toNat (by rw [qmin_b64]; omega), qmin_b64, show q - (-1074) = q + 1074 by omega, own_p_add, Rat.mul_assoc]
theorem own_zval {x : UInt64} {r : Rat} (h : own_is x r) : ((zval b64 (val64 x) : Int) : Rat) = r * 2 ^ (1074 : Int) := by
  obtain ⟨s, c, q, h1, rfl⟩ := h
  have hf := val64_fits x
  rw [h1] at hf ⊢
  have h2 := own_zmag hf
  show ((signed s (zmag b64 (.fin s c q)) : Int) : Rat) = _
  cases s
  · show ((zmag b64 (.fin false c q) : Nat) : Rat) = ((c : Nat) : Rat) * _ * _
    rw [h2]
  · show ((-(zmag b64 (.fin true c q) : Int) : Int) : Rat) = ((-(c : Int) : Int) : Rat) * _ * _
    rw [Rat.intCast_neg, Rat.intCast_neg, Rat.neg_mul, Rat.neg_mul]
    exact congrArg _ h2
theorem own_is_nn {x : UInt64} {r : Rat} (h : own_is x r) : val64 x ≠ .nan := by
  obtain ⟨s, c, q, h1, -⟩ := h; rw [h1]; exact Datum.noConfusion
theorem own_is_fin {x : UInt64} {r : Rat} (h : own_is x r) : Fin64 x := by
  obtain ⟨s, c, q, h1, -⟩ := h; exact fin64_core.mpr ⟨s, c, q, h1⟩
theorem own_is_no {x : UInt64} {r : Rat} (h : own_is x r) : NoNaN64 x := (own_is_fin h).noNaN
theorem own_lt_of {a b : Rat} (h : a < b) (q : Int) : a * 2 ^ q < b * 2 ^ q := Rat.mul_lt_mul_of_pos_right h (own_p_pos q)
theorem own_is_lt {x y : UInt64} {a b : Rat} (hx : own_is x a) (hy : own_is y b) : FP.dcmp x y = some .lt ↔ a < b := by
  rw [show FP.dcmp x y = FP.Core.dcmp x y from rfl, dcmp_lt]
  constructor
  · rintro ⟨-, -, h⟩
    have h2 := Rat.intCast_lt_intCast.mpr h
    rw [own_zval hx, own_zval hy] at h2
    exact Rat.lt_of_mul_lt_mul_right h2 (Rat.le_of_lt (own_p_pos _))
  · intro h
    refine ⟨own_is_nn hx, own_is_nn hy, Rat.intCast_lt_intCast.mp ?_⟩
    rw [own_zval hx, own_zval hy]
    exact own_lt_of h _
theorem own_is_gt {x y : UInt64} {a b : Rat} (hx : own_is x a) (hy : own_is y b) : FP.dcmp x y = some .gt ↔ b < a := by
  rw [← own_is_lt hy hx, show FP.dcmp x y = FP.Core.dcmp x y from rfl, show FP.dcmp y x = FP.Core.dcmp y x from rfl, dcmp_gt, dcmp_lt]
  exact ⟨fun ⟨h1, h2, h⟩ => ⟨h2, h1, h⟩, fun ⟨h1, h2, h⟩ => ⟨h2, h1, h⟩⟩
theorem own_is_eq {x y : UInt64} {a b : Rat} (hx : own_is x a) (hy : own_is y b) : FP.dcmp x y = some .eq ↔ a = b := by
  rw [show FP.dcmp x y = FP.Core.dcmp x y from rfl, dcmp_eq]
  constructor
  · rintro ⟨-, -, h⟩
    have h2 : ((zval b64 (val64 x) : Int) : Rat) = ((zval b64 (val64 y) : Int) : Rat) := by rw [h]
    rw [own_zval hx, own_zval hy] at h2
    have h3 := own_p_ne 1074
    calc a = a * 2 ^ (1074 : Int) / 2 ^ (1074 : Int) := (Rat.mul_div_cancel h3).symm
      _ = b * 2 ^ (1074 : Int) / 2 ^ (1074 : Int) := by rw [h2]
      _ = b := Rat.mul_div_cancel h3
  · rintro rfl
    exact ⟨own_is_nn hx, own_is_nn hy, Rat.intCast_inj.mp (by rw [own_zval hx, own_zval hy])⟩
theorem own_rd_of {x : UInt64} {r : Rat} (h : own_is x r) : own_rd x r := by
  obtain ⟨s, c, q, h1, rfl⟩ := h
  have hf := val64_fits x
  rw [h1] at hf
  refine ⟨s, c, 1, q, by decide, h1.trans (round_of_fits good_b64 hf).symm, ?_⟩
  rw [show (((1 : Nat) : Rat)) = 1 from rfl, Rat.div_def, own_inv1, Rat.mul_one]
theorem own_rd_nn {x : UInt64} {r : Rat} (h : own_rd x r) : val64 x ≠ .nan := by
  obtain ⟨s, A, B, e, -, h1, -⟩ := h; rw [h1]; exact roundRatio_ne_nan _ _ _ _ _
theorem own_rd_no {x : UInt64} {r : Rat} (h : own_rd x r) : NoNaN64 x := val64_no.mpr (own_rd_nn h)
/-- the magnitude of a ratio -/
theorem own_signed_zero {s : Bool} {A : Nat} : ((signed s A : Int) : Rat) = 0 ↔ A = 0 := by
  rw [Rat.intCast_eq_zero_iff, signed_eq_zero]
theorem own_ratio_zero {s : Bool} {A B : Nat} {e : Int} (hB : 0 < B) : ((signed s A : Int) : Rat) / ((B : Nat) : Rat) * (2 : Rat) ^ e = 0 ↔ A = 0 := by
  have hb : ((B : Nat) : Rat) ≠ 0 := by rw [Ne, Rat.natCast_eq_zero_iff]; omega
  constructor
  · intro h
    rcases Rat.mul_eq_zero.mp h with h | h
    · rw [Rat.div_def] at h
      rcases Rat.mul_eq_zero.mp h with h | h
      · exact own_signed_zero.mp h
      · exact absurd (by rw [← Rat.inv_inv ((B : Nat) : Rat), h, Rat.inv_zero]) hb
    · exact absurd h (own_p_ne e)
  · rintro rfl
    rw [own_signed_zero.mpr rfl, Rat.div_def, Rat.zero_mul, Rat.zero_mul]
end OwnNum
section OwnNum2
open Jvm.FP.Core Jvm.Free.Fl
theorem own_nat_pos {B : Nat} (h : 0 < B) : (0 : Rat) < ((B : Nat) : Rat) := Rat.natCast_pos.mpr h
theorem own_nat_ne {B : Nat} (h : 0 < B) : ((B : Nat) : Rat) ≠ 0 := Rat.ne_of_gt (own_nat_pos h)
theorem own_cross {a b a' b' P P' : Rat} (hb : b ≠ 0) (hb' : b' ≠ 0) (h : a / b * P = a' / b' * P') : a * b' * P = a' * b * P' := by
  have h1 : a = a / b * b := (Rat.div_mul_cancel hb).symm
  have h2 : a' = a' / b' * b' := (Rat.div_mul_cancel hb').symm
  generalize a / b = u at *
  generalize a' / b' = w at *
  subst h1 h2
  grind
theorem own_cancel {a b P : Rat} (hP : P ≠ 0) (h : a * P = b * P) : a = b := by
  rw [← Rat.mul_div_cancel (a := a) hP, h, Rat.mul_div_cancel hP]
theorem own_sig_eq {s s' : Bool} {X Y : Nat} (hX : 0 < X) (h : signed s X = signed s' Y) : s = s' ∧ X = Y := by
  cases s <;> cases s' <;> simp only [signed, Bool.false_eq_true, if_true, if_false] at h <;> first | exact ⟨rfl, by omega⟩ | omega
theorem own_ratio_le {s s' : Bool} {A B A' B' : Nat} {e e' : Int} (hB : 0 < B) (hB' : 0 < B') (hA : 0 < A) (hle : e' ≤ e)
    (h : ((signed s A : Int) : Rat) / ((B : Nat) : Rat) * (2 : Rat) ^ e = ((signed s' A' : Int) : Rat) / ((B' : Nat) : Rat) * (2 : Rat) ^ e') :
    s = s' ∧ A * B' * 2 ^ (e - e').toNat = A' * B := by
  have h1 := own_cross (own_nat_ne hB) (own_nat_ne hB') h
  have h2 : (2 : Rat) ^ e = 2 ^ (e - e') * 2 ^ e' := by rw [← own_p_add]; congr 1; omega
  rw [h2, ← Rat.mul_assoc] at h1
  have h3 := own_cancel (own_p_ne e') h1
  rw [← own_p_toNat (by omega), ← own_signed_cast, ← own_signed_cast, ← own_signed_cast, Rat.intCast_inj] at h3
  exact own_sig_eq (Nat.mul_pos (Nat.mul_pos hA hB') (Nat.two_pow_pos _)) h3
theorem own_ratio_eq {s s' : Bool} {A B A' B' : Nat} {e e' : Int} (hB : 0 < B) (hB' : 0 < B') (hA : 0 < A)
    (h : ((signed s A : Int) : Rat) / ((B : Nat) : Rat) * (2 : Rat) ^ e = ((signed s' A' : Int) : Rat) / ((B' : Nat) : Rat) * (2 : Rat) ^ e') :
    s = s' ∧ roundRatio b64 s A B e = roundRatio b64 s' A' B' e' := by
  have hA' : 0 < A' := by
    rcases Nat.eq_zero_or_pos A' with h0 | h0
    · rw [(own_ratio_zero hB').mpr h0, own_ratio_zero hB] at h; omega
    · exact h0
  rcases Int.le_total e' e with hle | hle
  · obtain ⟨rfl, h1⟩ := own_ratio_le hB hB' hA hle h
    refine ⟨rfl, roundRatio_congr hB hB' ?_⟩
    rw [h1, show (e' - e).toNat = 0 by omega]; simp
  · obtain ⟨rfl, h1⟩ := own_ratio_le hB' hB hA' hle h.symm
    refine ⟨rfl, (roundRatio_congr hB' hB ?_).symm⟩
    rw [h1, show (e - e').toNat = 0 by omega]; simp
theorem own_rd_uniq {x y : UInt64} {r : Rat} (hx : own_rd x r) (hy : own_rd y r) : FP.dcmp x y = some .eq := by
  obtain ⟨s, A, B, e, hB, hv, hr⟩ := hx
  obtain ⟨s', A', B', e', hB', hv', hr'⟩ := hy
  rcases Nat.eq_zero_or_pos A with hA | hA
  · have hA' : A' = 0 := by rw [← own_ratio_zero hB' (s := s') (e := e'), ← hr', hr]; exact (own_ratio_zero hB).mpr hA
    subst hA hA'
    rw [show FP.dcmp x y = FP.Core.dcmp x y from rfl, dcmp_eq, hv, hv']
    refine ⟨roundRatio_ne_nan _ _ _ _ _, roundRatio_ne_nan _ _ _ _ _, ?_⟩
    show zval b64 (.fin s 0 b64.qmin) = zval b64 (.fin s' 0 b64.qmin)
    cases s <;> cases s' <;> decide
  · obtain ⟨-, h1⟩ := own_ratio_eq hB hB' hA (hr.symm.trans hr')
    have h2 : val64 x ≠ .nan := by rw [hv]; exact roundRatio_ne_nan _ _ _ _ _
    have h3 : x = y := val64_inj h2 (by rw [hv, hv', h1])
    subst h3
    exact dcmp_refl ((notNaN_iff x).mpr h2)
/-- exact where the rational has 53 digits -/
theorem own_rd_exact {x : UInt64} {r : Rat} (h : own_rd x r) {m : Int} {k : Int} (hr : r = (m : Rat) * (2 : Rat) ^ k) (hm : m.natAbs < 2 ^ 53) (hk : -1074 ≤ k) (hk2 : k ≤ 971) : own_is x r := by
  obtain ⟨s, A, B, e, hB, hv, hr0⟩ := h
  have hcan : ∀ (t : Bool), ((signed t m.natAbs : Int) : Rat) * (2 : Rat) ^ k = r → roundRatio b64 s A B e = round b64 (.fin t m.natAbs k) → own_is x r := by
    intro t ht hq
    obtain ⟨c', q', h1, h2⟩ := round_exact good_b64 t (c := m.natAbs) (q := k) hm (by rw [qmin_b64]; exact hk) (by exact hk2)
    have hx : val64 x = .fin t c' q' := by rw [hv, hq, h1]
    refine ⟨t, c', q', hx, ?_⟩
    have hf := val64_fits x
    rw [hx] at hf
    have z1 := own_zmag hf
    have z2 : ((inUnits c' q' b64.qmin : Nat) : Rat) = ((m.natAbs : Nat) : Rat) * 2 ^ k * 2 ^ (1074 : Int) := by
      rw [h2]; unfold inUnits
      rw [Rat.natCast_mul, own_p_toNat (by rw [qmin_b64]; omega), qmin_b64, show k - (-1074) = k + 1074 by omega, own_p_add, Rat.mul_assoc]
    have z3 : (c' : Rat) * 2 ^ q' = ((m.natAbs : Nat) : Rat) * 2 ^ k := own_cancel (own_p_ne 1074) (z1.symm.trans z2)
    rw [← ht]
    cases t
    · exact z3.symm
    · show ((-(m.natAbs : Int) : Int) : Rat) * _ = ((-(c' : Int) : Int) : Rat) * _
      rw [Rat.intCast_neg, Rat.intCast_neg, Rat.neg_mul, Rat.neg_mul]
      exact congrArg _ z3.symm
  rcases Nat.eq_zero_or_pos A with hA | hA
  · have h0 : r = 0 := by rw [hr0]; exact (own_ratio_zero hB).mpr hA
    have hm0 : m = 0 := by
      rw [h0] at hr
      rcases Rat.mul_eq_zero.mp hr.symm with h1 | h1
      · exact Rat.intCast_eq_zero_iff.mp h1
      · exact absurd h1 (own_p_ne k)
    subst hm0 hA
    refine hcan s ?_ ?_
    · rw [h0]; cases s <;> simp [signed]
    · show Datum.fin s 0 b64.qmin = Datum.fin s 0 b64.qmin
      rfl
  · have h1 : ((signed s A : Int) : Rat) / ((B : Nat) : Rat) * (2 : Rat) ^ e = ((signed (decide (m < 0)) m.natAbs : Int) : Rat) / (((1 : Nat) : Nat) : Rat) * (2 : Rat) ^ k := by
      rw [← hr0, hr, show (((1 : Nat) : Rat)) = 1 from rfl, Rat.div_def, own_inv1, Rat.mul_one]
      congr 2
      unfold signed
      by_cases hmn : m < 0 <;> simp [hmn] <;> omega
    obtain ⟨-, h2⟩ := own_ratio_eq hB (by decide) hA h1
    refine hcan (decide (m < 0)) ?_ h2
    rw [hr]
    congr 2
    unfold signed
    by_cases hmn : m < 0 <;> simp [hmn] <;> omega
theorem own_add {x y : UInt64} {a b : Rat} (hx : own_is x a) (hy : own_is y b) : own_rd (FP.dadd x y) (a + b) := by
  obtain ⟨s, c, q, h1, rfl⟩ := hx
  obtain ⟨t, d, r, h2, rfl⟩ := hy
  refine ⟨_, _, 1, min q r, by decide, (val64_dadd x y).trans (by rw [h1, h2]; rfl), ?_⟩
  rw [signed_sumSign, show (((1 : Nat) : Rat)) = 1 from rfl, Rat.div_def, own_inv1, Rat.mul_one]
  unfold sumUnits inUnits
  rw [Rat.intCast_add, own_signed_cast, own_signed_cast, own_p_toNat (by omega), own_p_toNat (by omega), Rat.add_mul, Rat.mul_assoc, Rat.mul_assoc, ← own_p_add, ← own_p_add, show q - min q r + min q r = q by omega, show r - min q r + min q r = r by omega]
theorem own_neg {x : UInt64} {a : Rat} (hx : own_is x a) : own_is (FP.dneg x) (-a) := by
  obtain ⟨s, c, q, h1, rfl⟩ := hx
  refine ⟨!s, c, q, (FP.val64_dneg x).trans (by rw [h1]; rfl), ?_⟩
  rw [signed_not, Rat.intCast_neg, Rat.neg_mul]
theorem own_sub {x y : UInt64} {a b : Rat} (hx : own_is x a) (hy : own_is y b) : own_rd (FP.dsub x y) (a - b) := by
  have h : val64 (FP.dsub x y) = val64 (FP.dadd x (FP.dneg y)) := by
    rw [show val64 (FP.dsub x y) = _ from val64_dsub x y, show val64 (FP.dadd x (FP.dneg y)) = _ from val64_dadd x (FP.dneg y), FP.val64_dneg]
  obtain ⟨s, A, B, e, hB, hv, hr⟩ := own_add hx (own_neg hy)
  exact ⟨s, A, B, e, hB, h.trans hv, by rw [Rat.sub_eq_add_neg]; exact hr⟩
theorem own_mul {x y : UInt64} {a b : Rat} (hx : own_is x a) (hy : own_is y b) : own_rd (FP.dmul x y) (a * b) := by
  obtain ⟨s, c, q, h1, rfl⟩ := hx
  obtain ⟨t, d, r, h2, rfl⟩ := hy
  refine ⟨s != t, c * d, 1, q + r, by decide, (val64_dmul x y).trans (by rw [h1, h2]; rfl), ?_⟩
  rw [signed_xor, Rat.intCast_mul, own_p_add, show (((1 : Nat) : Rat)) = 1 from rfl, Rat.div_def, own_inv1, Rat.mul_one]
  grind
theorem own_div {x y : UInt64} {a b : Rat} (hx : own_is x a) (hy : own_is y b) (hb : b ≠ 0) : own_rd (FP.ddiv x y) (a / b) := by
  obtain ⟨s, c, q, h1, rfl⟩ := hx
  obtain ⟨t, d, r, h2, rfl⟩ := hy
  have hd : d ≠ 0 := by
    rintro rfl
    exact hb (by rw [own_signed_zero.mpr rfl, Rat.zero_mul])
  refine ⟨s != t, c, d, q - r, by omega, (val64_ddiv x y).trans (by rw [h1, h2]; show (if d = 0 then _ else _) = _; rw [if_neg hd]), ?_⟩
  have hd' : ((d : Nat) : Rat) ≠ 0 := own_nat_ne (by omega)
  have e1 : (2 : Rat) ^ q = 2 ^ (q - r) * 2 ^ r := by rw [← own_p_add]; congr 1; omega
  have e2 := own_p_ne r
  rw [e1]
  generalize (2 : Rat) ^ (q - r) = P
  generalize (2 : Rat) ^ r = W at *
  cases s <;> cases t <;> simp only [signed, Bool.false_eq_true, if_true, if_false, bne_self_eq_false, Rat.intCast_neg, Rat.intCast_natCast, Bool.bne_true, Bool.bne_false, Bool.not_false, Bool.not_true] <;> grind
theorem own_rdL (a : Int64) : own_rd (FP.l2d a) ((a.toInt : Int) : Rat) := by
  refine ⟨decide (a.toInt < 0), a.toInt.natAbs, 1, 0, by decide, val64_l2d a, ?_⟩
  rw [show (((1 : Nat) : Rat)) = 1 from rfl, Rat.div_def, own_inv1, Rat.mul_one, Rat.zpow_zero, Rat.mul_one]
  congr 1
  unfold signed
  by_cases hmn : a.toInt < 0 <;> simp [hmn] <;> omega
theorem own_isI (a : Int32) : own_is (FP.i2d a) ((a.toInt : Int) : Rat) := by
  have h : FP.i2d a = FP.l2d a.toInt64 := i2d_l2d a
  have h2 := own_rdL a.toInt64
  rw [Int32.toInt_toInt64] at h2
  rw [h]
  refine own_rd_exact h2 (m := a.toInt) (k := 0) (by rw [Rat.zpow_zero, Rat.mul_one]) ?_ (by decide) (by decide)
  have := a.le_toInt; have := a.toInt_lt; omega
end OwnNum2
section OwnNum3
open Jvm.FP.Core Jvm.Free.Fl
theorem own_units {A B : Nat} {e : Int} {c : Nat} {q : Int} {s : Bool} (hf : FP.Core.fits b64 (.fin s c q)) (e0 : Int) (h0 : e0 ≤ b64.qmin) (h0e : e0 ≤ e) :
    (((inUnits A e e0 : Nat) : Rat) = (A : Rat) * 2 ^ e * 2 ^ (-e0)) ∧ (((zmag b64 (.fin s c q) * 2 ^ (b64.qmin - e0).toNat * B : Nat) : Rat) = ((c : Rat) * 2 ^ q) * (B : Rat) * 2 ^ (-e0)) := by
  constructor
  · unfold inUnits
    rw [Rat.natCast_mul, own_p_toNat (by omega), show e - e0 = e + -e0 by omega, own_p_add, Rat.mul_assoc]
  · rw [Rat.natCast_mul, Rat.natCast_mul, own_zmag hf, own_p_toNat (by omega), show b64.qmin - e0 = -1074 + -e0 by rw [qmin_b64]; omega, own_p_add]
    have := own_p_neg 1074
    grind
theorem own_div_le {a b w : Rat} (hb : 0 < b) : a / b ≤ w ↔ a ≤ w * b := by
  have h1 : a = a / b * b := (Rat.div_mul_cancel (Rat.ne_of_gt hb)).symm
  constructor
  · intro h; rw [h1]; exact Rat.mul_le_mul_of_nonneg_right h (Rat.le_of_lt hb)
  · intro h; rw [h1] at h; exact Rat.le_of_mul_le_mul_right h hb
theorem own_le_div {a b w : Rat} (hb : 0 < b) : w ≤ a / b ↔ w * b ≤ a := by
  have h1 : a = a / b * b := (Rat.div_mul_cancel (Rat.ne_of_gt hb)).symm
  constructor
  · intro h; rw [h1]; exact Rat.mul_le_mul_of_nonneg_right h (Rat.le_of_lt hb)
  · intro h; rw [h1] at h; exact Rat.le_of_mul_le_mul_right h hb
theorem own_mag_le {A B : Nat} {e : Int} {s t : Bool} {c : Nat} {q : Int} (hB : 0 < B) (hf : FP.Core.fits b64 (.fin t c q)) (h : (A : Rat) / (B : Rat) * 2 ^ e ≤ (c : Rat) * 2 ^ q) : zmag b64 (roundRatio b64 s A B e) ≤ zmag b64 (.fin t c q) := by
  obtain ⟨u1, u2⟩ := own_units (A := A) (B := B) (e := e) hf (min e b64.qmin) (by omega) (by omega)
  refine zmag_roundRatio_le good_b64 hB hf Datum.noConfusion (e0 := min e b64.qmin) (by omega) (by omega) (Rat.natCast_le_natCast.mp ?_)
  rw [u1, u2]
  refine Rat.mul_le_mul_of_nonneg_right ?_ (Rat.le_of_lt (own_p_pos _))
  have hb := own_nat_pos hB
  have h2 := Rat.mul_le_mul_of_nonneg_right h (Rat.le_of_lt hb)
  have h3 : (A : Rat) / (B : Rat) * 2 ^ e * (B : Rat) = (A : Rat) * 2 ^ e := by
    rw [Rat.mul_assoc, Rat.mul_comm ((2 : Rat) ^ e), ← Rat.mul_assoc, Rat.div_mul_cancel (own_nat_ne hB)]
  rw [h3] at h2
  exact h2
theorem own_mag_ge {A B : Nat} {e : Int} {s t : Bool} {c : Nat} {q : Int} (hB : 0 < B) (hf : FP.Core.fits b64 (.fin t c q)) (h : (c : Rat) * 2 ^ q ≤ (A : Rat) / (B : Rat) * 2 ^ e) : zmag b64 (.fin t c q) ≤ zmag b64 (roundRatio b64 s A B e) := by
  obtain ⟨u1, u2⟩ := own_units (A := A) (B := B) (e := e) hf (min e b64.qmin) (by omega) (by omega)
  refine zmag_roundRatio_ge good_b64 hB hf (e0 := min e b64.qmin) (by omega) (by omega) (Rat.natCast_le_natCast.mp ?_)
  rw [u1, u2]
  refine Rat.mul_le_mul_of_nonneg_right ?_ (Rat.le_of_lt (own_p_pos _))
  have hb := own_nat_pos hB
  have h2 := Rat.mul_le_mul_of_nonneg_right h (Rat.le_of_lt hb)
  have h3 : (A : Rat) / (B : Rat) * 2 ^ e * (B : Rat) = (A : Rat) * 2 ^ e := by
    rw [Rat.mul_assoc, Rat.mul_comm ((2 : Rat) ^ e), ← Rat.mul_assoc, Rat.div_mul_cancel (own_nat_ne hB)]
  rw [h3] at h2
  exact h2
theorem own_signed_ratio (s : Bool) (A B : Nat) (e : Int) : ((signed s A : Int) : Rat) / ((B : Nat) : Rat) * (2 : Rat) ^ e = if s then -((A : Rat) / (B : Rat) * 2 ^ e) else (A : Rat) / (B : Rat) * 2 ^ e := by
  cases s
  · rfl
  · show ((-(A : Int) : Int) : Rat) / _ * _ = _
    rw [Rat.intCast_neg, Rat.div_def, Rat.neg_mul, Rat.neg_mul]; rfl
theorem own_signed_pow (s : Bool) (c : Nat) (q : Int) : ((signed s c : Int) : Rat) * (2 : Rat) ^ q = if s then -((c : Rat) * 2 ^ q) else (c : Rat) * 2 ^ q := by
  cases s
  · rfl
  · show ((-(c : Int) : Int) : Rat) * _ = _
    rw [Rat.intCast_neg, Rat.neg_mul]; rfl
theorem own_ratio_nonneg (A B : Nat) (e : Int) : 0 ≤ (A : Rat) / (B : Rat) * 2 ^ e := by
  refine Rat.mul_nonneg ?_ (Rat.le_of_lt (own_p_pos e))
  rcases Nat.eq_zero_or_pos B with rfl | hB
  · rw [Rat.div_def]; exact Rat.mul_nonneg Rat.natCast_nonneg (by rw [show ((0 : Nat) : Rat) = 0 from rfl, Rat.inv_zero]; exact Rat.le_refl)
  · rw [own_le_div (own_nat_pos hB), Rat.zero_mul]; exact Rat.natCast_nonneg
theorem own_rd_le {x V : UInt64} {r y : Rat} (h : own_rd x r) (hV : own_is V y) (hle : r ≤ y) : zval b64 (val64 x) ≤ zval b64 (val64 V) := by
  obtain ⟨s, A, B, e, hB, hv, hr⟩ := h
  obtain ⟨t, c, q, hVv, hy⟩ := hV
  have hf := val64_fits V
  rw [hVv] at hf
  rw [hv, hVv]
  have m1 := own_mag_le (A := A) (e := e) (s := s) hB hf
  have m2 := own_mag_ge (A := A) (e := e) (s := s) hB hf
  unfold zval
  rw [sgn_roundRatio]
  show _ ≤ signed t (zmag b64 (.fin t c q))
  rw [own_signed_ratio] at hr
  rw [own_signed_pow] at hy
  have p1 := own_ratio_nonneg A B e
  have p2 : 0 ≤ (c : Rat) * 2 ^ q := Rat.mul_nonneg Rat.natCast_nonneg (Rat.le_of_lt (own_p_pos q))
  have hz : (c : Rat) * 2 ^ q ≤ 0 → zmag b64 (.fin t c q) = 0 := by
    intro h0
    have h1 : (c : Rat) * 2 ^ q = 0 := Rat.le_antisymm h0 p2
    have h2 := own_zmag hf
    rw [h1, Rat.zero_mul] at h2
    exact Rat.natCast_eq_zero_iff.mp h2
  generalize (A : Rat) / (B : Rat) * 2 ^ e = ra at *
  generalize (c : Rat) * 2 ^ q = rc at *
  generalize zmag b64 (roundRatio b64 s A B e) = za at *
  generalize zmag b64 (.fin t c q) = zc at *
  cases s <;> cases t <;> simp only [signed, Bool.false_eq_true, if_true, if_false] at hr hy ⊢
  · have := m1 (by grind); omega
  · have := m1 (by grind); have := hz (by grind); omega
  · omega
  · have := m2 (by grind); omega
theorem own_rd_neg {x : UInt64} {r : Rat} (h : own_rd x r) : own_rd (FP.dneg x) (-r) := by
  obtain ⟨s, A, B, e, hB, hv, hr⟩ := h
  refine ⟨!s, A, B, e, hB, (FP.val64_dneg x).trans (by rw [hv, negate_roundRatio]), ?_⟩
  rw [hr, signed_not, Rat.intCast_neg, Rat.div_def, Rat.div_def, Rat.neg_mul, Rat.neg_mul]
theorem own_zval_neg (x : UInt64) : zval b64 (val64 (FP.dneg x)) = -zval b64 (val64 x) := by
  rw [show val64 (FP.dneg x) = negate (val64 x) from FP.val64_dneg x, zval_negate]
theorem own_rd_ge {x V : UInt64} {r y : Rat} (h : own_rd x r) (hV : own_is V y) (hle : y ≤ r) : zval b64 (val64 V) ≤ zval b64 (val64 x) := by
  have h1 := own_rd_le (own_rd_neg h) (own_neg hV) (Rat.neg_le_neg hle)
  rw [own_zval_neg, own_zval_neg] at h1
  omega
theorem own_big : own_is 9110782046170513408 ((2 : Rat) ^ (1000 : Int)) := ⟨false, 2 ^ 52, 948, by decide +kernel, by
  show _ = (((2 ^ 52 : Nat) : Rat)) * _
  rw [own_p_nat, ← own_p_add]; rfl⟩
theorem own_rd_fin {x : UInt64} {r : Rat} (h : own_rd x r) (h1 : r ≤ (2 : Rat) ^ (1000 : Int)) (h2 : -((2 : Rat) ^ (1000 : Int)) ≤ r) : ∃ v, own_is x v := by
  have l1 := own_rd_le h own_big h1
  have l2 := own_rd_ge h (own_neg own_big) h2
  rw [own_zval_neg] at l2
  obtain ⟨s, A, B, e, hB, hv, hr⟩ := h
  rcases roundRatio_cases b64 s A B e with ⟨c, q, hc⟩ | hc
  · exact ⟨_, s, c, q, hv.trans hc, rfl⟩
  · rw [hv, hc] at l1 l2
    cases s
    · exact absurd l1 (by decide +kernel)
    · exact absurd l2 (by decide +kernel)
theorem own_rd_le' {x V : UInt64} {r v y : Rat} (h : own_rd x r) (hx : own_is x v) (hV : own_is V y) (hle : r ≤ y) : v ≤ y := by
  have h1 := own_rd_le h hV hle
  refine Rat.not_lt.mp fun h2 => ?_
  have h3 := (dcmp_lt.mp ((own_is_lt hV hx).mpr h2)).2.2
  omega
theorem own_rd_ge' {x V : UInt64} {r v y : Rat} (h : own_rd x r) (hx : own_is x v) (hV : own_is V y) (hle : y ≤ r) : y ≤ v := by
  have h1 := own_rd_ge h hV hle
  refine Rat.not_lt.mp fun h2 => ?_
  have h3 := (dcmp_lt.mp ((own_is_lt hx hV).mpr h2)).2.2
  omega
/-- every rational of 53 digits is a double -/
theorem own_rep {m k : Int} (hm : m.natAbs < 2 ^ 53) (hk : -1074 ≤ k) (hk2 : k ≤ 971) : ∃ V, own_is V ((m : Rat) * (2 : Rat) ^ k) := by
  have hf : FP.Core.fits b64 (roundRatio b64 (decide (m < 0)) m.natAbs 1 k) := roundRatio_fits good_b64 _ _ (by decide) _
  refine ⟨of64 (roundRatio b64 (decide (m < 0)) m.natAbs 1 k), own_rd_exact ⟨decide (m < 0), m.natAbs, 1, k, by decide, val64_of64 hf, ?_⟩ rfl hm hk hk2⟩
  rw [show (((1 : Nat) : Rat)) = 1 from rfl, Rat.div_def, own_inv1, Rat.mul_one]
  congr 2
  unfold signed
  by_cases hmn : m < 0 <;> simp [hmn] <;> omega
end OwnNum3
section OwnNum4
open Jvm.FP.Core Jvm.Free.Fl
theorem own_two200 : (1606938044258990275541962092341162602522202993782792835301376 : Rat) ≤ (2 : Rat) ^ (1000 : Int) := by decide +kernel
theorem own_rd_finN {x : UInt64} {r : Rat} (h : own_rd x r) (h1 : r ≤ 1606938044258990275541962092341162602522202993782792835301376) (h2 : -1606938044258990275541962092341162602522202993782792835301376 ≤ r) : ∃ v, own_is x v :=
  own_rd_fin h (Rat.le_trans h1 own_two200) (Rat.le_trans (Rat.neg_le_neg own_two200) h2)
theorem own_zero : own_is 0 0 := ⟨false, 0, -1074, by decide +kernel, by decide +kernel⟩
theorem own_one : own_is 4607182418800017408 1 := ⟨false, 2 ^ 52, -52, by decide +kernel, by decide +kernel⟩
theorem own_rep' {m k : Int} {r : Rat} (hr : r = (m : Rat) * (2 : Rat) ^ k) (hm : m.natAbs < 2 ^ 53) (hk : -1074 ≤ k) (hk2 : k ≤ 971) : ∃ V, own_is V r := by rw [hr]; exact own_rep hm hk hk2
theorem own_cmpv {x y : UInt64} {a b : Rat} (hx : own_is x a) (hy : own_is y b) (o : ClassFile.CmpOp) : Op.cmpValue (FP.dcmp x y) o = if a < b then -1 else if a = b then 0 else 1 := by
  by_cases h1 : a < b
  · rw [(own_is_lt hx hy).mpr h1, if_pos h1]; rfl
  · by_cases h2 : a = b
    · rw [(own_is_eq hx hy).mpr h2, if_neg h1, if_pos h2]; rfl
    · have h3 : b < a := by grind
      rw [(own_is_gt hx hy).mpr h3, if_neg h1, if_neg h2]; rfl
theorem own_c_lt {x y : UInt64} {a b : Rat} (hx : own_is x a) (hy : own_is y b) (o : ClassFile.CmpOp) : Op.ifCond.holds .lt (Op.cmpValue (FP.dcmp x y) o) = decide (a < b) := by
  rw [own_cmpv hx hy]; by_cases h1 : a < b <;> by_cases h2 : a = b <;> simp [h1, h2, Op.ifCond.holds]
theorem own_c_ge {x y : UInt64} {a b : Rat} (hx : own_is x a) (hy : own_is y b) (o : ClassFile.CmpOp) : Op.ifCond.holds .ge (Op.cmpValue (FP.dcmp x y) o) = decide (b ≤ a) := by
  rw [own_cmpv hx hy]
  by_cases h1 : a < b
  · simp [h1, Rat.not_le.mpr h1, Op.ifCond.holds]
  · by_cases h2 : a = b <;> simp [h1, h2, Rat.not_lt.mp h1, Op.ifCond.holds, Rat.le_refl]
theorem own_c_gt {x y : UInt64} {a b : Rat} (hx : own_is x a) (hy : own_is y b) (o : ClassFile.CmpOp) : Op.ifCond.holds .gt (Op.cmpValue (FP.dcmp x y) o) = decide (b < a) := by
  rw [own_cmpv hx hy]
  by_cases h1 : a < b
  · have : ¬ b < a := by grind
    simp [h1, this, Op.ifCond.holds]
  · by_cases h2 : a = b
    · subst h2; simp [Rat.lt_irrefl, Op.ifCond.holds]
    · have : b < a := by grind
      simp [h1, h2, this, Op.ifCond.holds]
theorem own_c_le {x y : UInt64} {a b : Rat} (hx : own_is x a) (hy : own_is y b) (o : ClassFile.CmpOp) : Op.ifCond.holds .le (Op.cmpValue (FP.dcmp x y) o) = decide (a ≤ b) := by
  rw [own_cmpv hx hy]
  by_cases h1 : a < b
  · simp [h1, Rat.le_of_lt h1, Op.ifCond.holds]
  · by_cases h2 : a = b
    · subst h2; simp [Rat.lt_irrefl, Rat.le_refl, Op.ifCond.holds]
    · have : ¬ a ≤ b := by grind
      simp [h1, h2, this, Op.ifCond.holds]
theorem own_c_eq {x y : UInt64} {a b : Rat} (hx : own_is x a) (hy : own_is y b) (o : ClassFile.CmpOp) : Op.ifCond.holds .eq (Op.cmpValue (FP.dcmp x y) o) = decide (a = b) := by
  rw [own_cmpv hx hy]
  by_cases h1 : a < b
  · have : ¬ a = b := by grind
    simp [h1, this, Op.ifCond.holds]
  · by_cases h2 : a = b <;> simp [h1, h2, Op.ifCond.holds]
theorem own_c_ne {x y : UInt64} {a b : Rat} (hx : own_is x a) (hy : own_is y b) (o : ClassFile.CmpOp) : Op.ifCond.holds .ne (Op.cmpValue (FP.dcmp x y) o) = decide (a ≠ b) := by
  rw [own_cmpv hx hy]
  by_cases h1 : a < b
  · have : ¬ a = b := by grind
    simp [h1, this, Op.ifCond.holds]
  · by_cases h2 : a = b <;> simp [h1, h2, Op.ifCond.holds]
/-- ints by their values -/
theorem own_i_lt (x y : Int32) : Op.if_icmp.holds .lt x y = decide (x.toInt < y.toInt) := by simp only [Op.if_icmp.holds, Int32.lt_iff_toInt_lt]
theorem own_i_gt (x y : Int32) : Op.if_icmp.holds .gt x y = decide (y.toInt < x.toInt) := by simp only [Op.if_icmp.holds, GT.gt, Int32.lt_iff_toInt_lt]
theorem own_i_le (x y : Int32) : Op.if_icmp.holds .le x y = decide (x.toInt ≤ y.toInt) := by simp only [Op.if_icmp.holds, Int32.le_iff_toInt_le]
theorem own_i_ge (x y : Int32) : Op.if_icmp.holds .ge x y = decide (y.toInt ≤ x.toInt) := by simp only [Op.if_icmp.holds, GE.ge, Int32.le_iff_toInt_le]
theorem own_i_eq (x y : Int32) : Op.if_icmp.holds .eq x y = decide (x = y) := by rw [Bool.eq_iff_iff]; simp [Op.if_icmp.holds]
theorem own_i_ne (x y : Int32) : Op.if_icmp.holds .ne x y = decide (x ≠ y) := by rw [Bool.eq_iff_iff]; simp [Op.if_icmp.holds]
theorem own_z_lt (x : Int32) : Op.ifCond.holds .lt x = decide (x.toInt < 0) := by simp only [Op.ifCond.holds, Int32.lt_iff_toInt_lt]; rfl
theorem own_z_gt (x : Int32) : Op.ifCond.holds .gt x = decide (0 < x.toInt) := by simp only [Op.ifCond.holds, GT.gt, Int32.lt_iff_toInt_lt]; rfl
theorem own_z_le (x : Int32) : Op.ifCond.holds .le x = decide (x.toInt ≤ 0) := by simp only [Op.ifCond.holds, Int32.le_iff_toInt_le]; rfl
theorem own_z_ge (x : Int32) : Op.ifCond.holds .ge x = decide (0 ≤ x.toInt) := by simp only [Op.ifCond.holds, GE.ge, Int32.le_iff_toInt_le]; rfl
theorem own_z_eq (x : Int32) : Op.ifCond.holds .eq x = decide (x = 0) := by rw [Bool.eq_iff_iff]; simp [Op.ifCond.holds]
theorem own_z_ne (x : Int32) : Op.ifCond.holds .ne x = decide (x ≠ 0) := by rw [Bool.eq_iff_iff]; simp [Op.ifCond.holds]
theorem own_lc_lt (x y : Int64) : Op.ifCond.holds .lt (if x > y then (1 : Int32) else if x = y then 0 else -1) = decide (x.toInt < y.toInt) := by
  simp only [GT.gt, Int64.lt_iff_toInt_lt, ← Int64.toInt_inj]
  by_cases h1 : y.toInt < x.toInt
  · simp [h1, Op.ifCond.holds, show ¬ x.toInt < y.toInt by omega]
  · by_cases h2 : x.toInt = y.toInt
    · simp [h2, Op.ifCond.holds]
    · simp [h1, h2, Op.ifCond.holds, show x.toInt < y.toInt by omega]
theorem own_lc_ge (x y : Int64) : Op.ifCond.holds .ge (if x > y then (1 : Int32) else if x = y then 0 else -1) = decide (y.toInt ≤ x.toInt) := by
  simp only [GT.gt, Int64.lt_iff_toInt_lt, ← Int64.toInt_inj]
  by_cases h1 : y.toInt < x.toInt
  · simp [h1, Op.ifCond.holds, show y.toInt ≤ x.toInt by omega]
  · by_cases h2 : x.toInt = y.toInt
    · simp [h2, Op.ifCond.holds]
    · simp [h1, h2, Op.ifCond.holds, show ¬ y.toInt ≤ x.toInt by omega]
theorem own_lc_gt (x y : Int64) : Op.ifCond.holds .gt (if x > y then (1 : Int32) else if x = y then 0 else -1) = decide (y.toInt < x.toInt) := by
  simp only [GT.gt, Int64.lt_iff_toInt_lt, ← Int64.toInt_inj]
  by_cases h1 : y.toInt < x.toInt
  · simp [h1, Op.ifCond.holds]
  · by_cases h2 : x.toInt = y.toInt
    · simp [h2, Op.ifCond.holds]
    · simp [h1, h2, Op.ifCond.holds]
theorem own_lc_le (x y : Int64) : Op.ifCond.holds .le (if x > y then (1 : Int32) else if x = y then 0 else -1) = decide (x.toInt ≤ y.toInt) := by
  simp only [GT.gt, Int64.lt_iff_toInt_lt, ← Int64.toInt_inj]
  by_cases h1 : y.toInt < x.toInt
  · simp [h1, Op.ifCond.holds, show ¬ x.toInt ≤ y.toInt by omega]
  · by_cases h2 : x.toInt = y.toInt
    · simp [h2, Op.ifCond.holds]
    · simp [h1, h2, Op.ifCond.holds, show x.toInt ≤ y.toInt by omega]
theorem own_lc_eq (x y : Int64) : Op.ifCond.holds .eq (if x > y then (1 : Int32) else if x = y then 0 else -1) = decide (x.toInt = y.toInt) := by
  simp only [GT.gt, Int64.lt_iff_toInt_lt, ← Int64.toInt_inj]
  by_cases h1 : y.toInt < x.toInt
  · simp [h1, Op.ifCond.holds, show ¬ x.toInt = y.toInt by omega]
  · by_cases h2 : x.toInt = y.toInt
    · simp [h2, Op.ifCond.holds]
    · simp [h1, h2, Op.ifCond.holds]
theorem own_lc_ne (x y : Int64) : Op.ifCond.holds .ne (if x > y then (1 : Int32) else if x = y then 0 else -1) = decide (x.toInt ≠ y.toInt) := by
  simp only [GT.gt, Int64.lt_iff_toInt_lt, ← Int64.toInt_inj]
  by_cases h1 : y.toInt < x.toInt
  · simp [h1, Op.ifCond.holds, show ¬ x.toInt = y.toInt by omega]
  · by_cases h2 : x.toInt = y.toInt
    · simp [h2, Op.ifCond.holds]
    · simp [h1, h2, Op.ifCond.holds]
end OwnNum4
section OwnNum5
open Jvm.FP.Core Jvm.Free.Fl
/-- no number of 53 digits is nearer than the rounded one -/
theorem own_near {s : Bool} {A B : Nat} {e : Int} {c : Nat} {q : Int} (hB : 0 < B) (hR : roundRatio b64 s A B e = .fin s c q) {c' : Nat} {q' : Int} (hc' : c' < 2 ^ 53) (hq' : -1074 ≤ q') {D : Rat}
    (h1 : (c' : Rat) * 2 ^ q' - (A : Rat) / (B : Rat) * 2 ^ e ≤ D) (h2 : (A : Rat) / (B : Rat) * 2 ^ e - (c' : Rat) * 2 ^ q' ≤ D) :
    (c : Rat) * 2 ^ q - (A : Rat) / (B : Rat) * 2 ^ e ≤ D ∧ (A : Rat) / (B : Rat) * 2 ^ e - (c : Rat) * 2 ^ q ≤ D := by
  have hfit : FP.Core.fits b64 (.fin s c q) := hR ▸ roundRatio_fits good_b64 s A hB e
  have hqm : (-1074 : Int) ≤ q := by have := hfit.2.1; rw [qmin_b64] at this; exact this
  obtain ⟨e0, he0, he1⟩ : ∃ e0 : Int, e0 ≤ -1074 ∧ e0 ≤ e := ⟨min e (-1074), by omega, by omega⟩
  have hd := roundRatio_nearest good_b64 hB hR hc' (by rw [qmin_b64]; exact hq') (e0 := e0) (by rw [qmin_b64]; exact he0) he1
  unfold distance at hd
  have hb := own_nat_pos hB
  have hp := own_p_pos (-e0)
  have cU : ∀ (n : Nat) (j : Int), e0 ≤ j → ((inUnits n j e0 : Nat) : Rat) = (n : Rat) * 2 ^ j * 2 ^ (-e0) := by
    intro n j hj
    unfold inUnits
    rw [Rat.natCast_mul, own_p_toNat (by omega), show j - e0 = j + -e0 by omega, own_p_add, Rat.mul_assoc]
  have uA := cU A e he1
  have uc := cU c q (by omega)
  have uc' := cU c' q' (by omega)
  have hA : (A : Rat) / (B : Rat) * 2 ^ e * (B : Rat) = (A : Rat) * 2 ^ e := by
    rw [Rat.mul_assoc, Rat.mul_comm ((2 : Rat) ^ e), ← Rat.mul_assoc, Rat.div_mul_cancel (own_nat_ne hB)]
  generalize (A : Rat) / (B : Rat) * 2 ^ e = a at *
  generalize hx : ((inUnits A e e0 : Nat) : Int) - ((inUnits c q e0 : Nat) : Int) * (B : Int) = x at hd
  generalize hy : ((inUnits A e e0 : Nat) : Int) - ((inUnits c' q' e0 : Nat) : Int) * (B : Int) = y at hd
  have ex : (x : Rat) = (a - (c : Rat) * 2 ^ q) * ((B : Rat) * 2 ^ (-e0)) := by
    rw [← hx, Rat.intCast_sub, Rat.intCast_mul, Rat.intCast_natCast, Rat.intCast_natCast, Rat.intCast_natCast, uA, uc, ← hA]
    grind
  have ey : (y : Rat) = (a - (c' : Rat) * 2 ^ q') * ((B : Rat) * 2 ^ (-e0)) := by
    rw [← hy, Rat.intCast_sub, Rat.intCast_mul, Rat.intCast_natCast, Rat.intCast_natCast, Rat.intCast_natCast, uA, uc', ← hA]
    grind
  have hK : (0 : Rat) < (B : Rat) * 2 ^ (-e0) := Rat.mul_pos hb hp
  generalize (B : Rat) * 2 ^ (-e0) = K at *
  generalize (c : Rat) * 2 ^ q = u at *
  generalize (c' : Rat) * 2 ^ q' = w at *
  have yD1 : (y : Rat) ≤ D * K := by rw [ey]; exact Rat.mul_le_mul_of_nonneg_right h2 (Rat.le_of_lt hK)
  have yD2 : -(y : Rat) ≤ D * K := by
    rw [ey]
    have := Rat.mul_le_mul_of_nonneg_right h1 (Rat.le_of_lt hK)
    grind
  have k1 : (x ≤ y ∨ x ≤ -y) ∧ (-x ≤ y ∨ -x ≤ -y) := by omega
  have x1 : (x : Rat) ≤ D * K := by
    rcases k1.1 with k | k
    · exact Rat.le_trans (Rat.intCast_le_intCast.mpr k) yD1
    · have := Rat.intCast_le_intCast.mpr k
      rw [Rat.intCast_neg] at this
      exact Rat.le_trans this yD2
  have x2 : -(x : Rat) ≤ D * K := by
    rw [← Rat.intCast_neg]
    rcases k1.2 with k | k
    · exact Rat.le_trans (Rat.intCast_le_intCast.mpr k) yD1
    · have := Rat.intCast_le_intCast.mpr k
      rw [Rat.intCast_neg y] at this
      exact Rat.le_trans this yD2
  rw [ex] at x1 x2
  constructor
  · refine Rat.le_of_mul_le_mul_right ?_ hK
    grind
  · refine Rat.le_of_mul_le_mul_right ?_ hK
    exact x1
theorem own_grid {a : Rat} {k : Int} (h0 : 0 ≤ a) (hk : a ≤ (2 : Rat) ^ k) : ∃ n : Nat, n ≤ 2 ^ 53 ∧ (n : Rat) * 2 ^ (k - 53) - a ≤ 2 ^ (k - 54) ∧ a - (n : Rat) * 2 ^ (k - 53) ≤ 2 ^ (k - 54) := by
  have hu := own_p_pos (k - 53)
  have e1 : (2 : Rat) ^ k = 2 ^ (k - 53) * 9007199254740992 := by
    rw [show (9007199254740992 : Rat) = (2 : Rat) ^ (53 : Int) by decide +kernel, ← own_p_add]; congr 1; omega
  have e2 : (2 : Rat) ^ (k - 53) = 2 ^ (k - 54) * 2 := by
    have := own_p_add (k - 54) 1
    rw [Rat.zpow_one, show k - 54 + 1 = k - 53 by omega] at this
    exact this
  have hv := own_p_pos (k - 54)
  rw [e1] at hk
  generalize (2 : Rat) ^ (k - 54) = g at *
  generalize (2 : Rat) ^ (k - 53) = u at *
  obtain ⟨f, hf⟩ : ∃ f : Int, f = (a / u + 1 / 2).floor := ⟨_, rfl⟩
  have f1 : (f : Rat) ≤ a / u + 1 / 2 := by rw [hf]; exact Rat.floor_le _
  have f2 : a / u + 1 / 2 < ((f + 1 : Int) : Rat) := by rw [hf]; exact Rat.lt_floor_add_one _
  rw [Rat.intCast_add, show ((1 : Int) : Rat) = 1 from rfl] at f2
  have ha : a = a / u * u := (Rat.div_mul_cancel (Rat.ne_of_gt hu)).symm
  have hb1 : a / u ≤ 9007199254740992 := by rw [own_div_le hu]; grind
  have hb0 : 0 ≤ a / u := by rw [own_le_div hu]; grind
  generalize a / u = t at *
  have n0 : 0 ≤ f := by
    refine Int.not_lt.mp fun q => ?_
    have : (f : Rat) ≤ -1 := (show ((f : Int) : Rat) ≤ ((-1 : Int) : Rat) from Rat.intCast_le_intCast.mpr (by omega))
    grind
  have n1 : f ≤ 9007199254740992 := by
    refine Int.not_lt.mp fun q => ?_
    have : (9007199254740993 : Rat) ≤ (f : Rat) := (show ((9007199254740993 : Int) : Rat) ≤ ((f : Int) : Rat) from Rat.intCast_le_intCast.mpr (by omega))
    grind
  refine ⟨f.toNat, by omega, ?_⟩
  have ec : ((f.toNat : Nat) : Rat) = (f : Rat) := by rw [← Rat.intCast_natCast, Int.toNat_of_nonneg n0]
  rw [ec, ha]
  have m1 : ((f : Rat) - t) * u ≤ (1 / 2) * u := Rat.mul_le_mul_of_nonneg_right (by grind) (Rat.le_of_lt hu)
  have m2 : (t - (f : Rat)) * u ≤ (1 / 2) * u := Rat.mul_le_mul_of_nonneg_right (by grind) (Rat.le_of_lt hu)
  constructor <;> grind
theorem own_err0 {s : Bool} {A B : Nat} {e : Int} {c : Nat} {q : Int} (hB : 0 < B) (hR : roundRatio b64 s A B e = .fin s c q) {k : Int} (hk1 : -1000 ≤ k) (hle : (A : Rat) / (B : Rat) * 2 ^ e ≤ 2 ^ k) :
    (c : Rat) * 2 ^ q - (A : Rat) / (B : Rat) * 2 ^ e ≤ 2 ^ (k - 54) ∧ (A : Rat) / (B : Rat) * 2 ^ e - (c : Rat) * 2 ^ q ≤ 2 ^ (k - 54) := by
  obtain ⟨n, hn, h1, h2⟩ := own_grid (own_ratio_nonneg A B e) hle
  rcases Nat.lt_or_eq_of_le hn with hlt | heq
  · exact own_near hB hR (c' := n) (q' := k - 53) hlt (by omega) h1 h2
  · subst heq
    have e3 : ((2 ^ 53 : Nat) : Rat) * 2 ^ (k - 53) = ((2 ^ 52 : Nat) : Rat) * 2 ^ (k - 52) := by
      rw [own_p_nat, own_p_nat, ← own_p_add, ← own_p_add]; congr 1
      show (53 : Int) + (k - 53) = 52 + (k - 52); omega
    rw [e3] at h1 h2
    exact own_near hB hR (c' := 2 ^ 52) (q' := k - 52) (by decide) (by omega) h1 h2
theorem own_p_mono {a b : Int} (h : a ≤ b) : (2 : Rat) ^ a ≤ 2 ^ b := by
  have e : (2 : Rat) ^ b = 2 ^ a * 2 ^ (b - a) := by rw [← own_p_add]; congr 1; omega
  have h1 : (1 : Rat) ≤ 2 ^ (b - a) := by
    rw [← own_p_toNat (by omega)]
    exact (show ((1 : Nat) : Rat) ≤ _ from Rat.natCast_le_natCast.mpr (Nat.one_le_two_pow))
  rw [e]
  have := Rat.mul_le_mul_of_nonneg_left h1 (Rat.le_of_lt (own_p_pos a))
  grind
/-- the error of a rounding, by a bound of what is rounded -/
theorem own_rd_err {x : UInt64} {r : Rat} (h : own_rd x r) {k : Int} (hk1 : -1000 ≤ k) (hk2 : k ≤ 1000) (h1 : r ≤ (2 : Rat) ^ k) (h2 : -((2 : Rat) ^ k) ≤ r) : ∃ v, own_is x v ∧ v - r ≤ 2 ^ (k - 54) ∧ r - v ≤ 2 ^ (k - 54) := by
  have hm := own_p_mono hk2
  obtain ⟨v, hv⟩ := own_rd_fin h (Rat.le_trans h1 hm) (Rat.le_trans (Rat.neg_le_neg hm) h2)
  refine ⟨v, hv, ?_⟩
  obtain ⟨s, A, B, e, hB, hx, hr⟩ := h
  obtain ⟨s', c, q, hx', hv'⟩ := hv
  rcases roundRatio_cases b64 s A B e with ⟨c2, q2, hc⟩ | hc
  · rw [hx, hc] at hx'
    cases hx'
    rw [own_signed_ratio] at hr
    rw [own_signed_pow] at hv'
    have hle : (A : Rat) / (B : Rat) * 2 ^ e ≤ 2 ^ k := by
      cases s
      · rw [if_neg (by decide)] at hr; rw [← hr]; exact h1
      · rw [if_pos rfl] at hr
        have : (A : Rat) / (B : Rat) * 2 ^ e = -r := by rw [hr, Rat.neg_neg]
        rw [this]; grind
    obtain ⟨g1, g2⟩ := own_err0 hB hc hk1 hle
    cases s
    · rw [if_neg (by decide)] at hr hv'; rw [hr, hv']; exact ⟨g1, g2⟩
    · rw [if_pos rfl] at hr hv'; rw [hr, hv']; constructor <;> grind
  · rw [hx, hc] at hx'; cases hx'
/-- a double that is a whole number, as the library says it -/
theorem own_whole {x : UInt64} {i : Int} (h : own_is x (i : Rat)) : DInt i x := by
  obtain ⟨s, c, q, hx, hr⟩ := h
  show Whole i (val64 x)
  rw [hx]
  show signed s (c * 2 ^ q.toNat) = i * ((2 ^ (-q).toNat : Nat) : Int)
  rw [← Rat.intCast_inj, own_signed_cast, Rat.intCast_mul, Rat.intCast_natCast]
  rcases Int.le_total 0 q with h0 | h0
  · rw [own_p_toNat h0, show (-q).toNat = 0 by omega, hr]
    rw [show ((2 ^ 0 : Nat) : Rat) = 1 from rfl, Rat.mul_one]
  · rw [own_p_toNat (a := -q) (by omega), show q.toNat = 0 by omega, hr, show ((2 ^ 0 : Nat) : Rat) = 1 from rfl, Rat.mul_one, Rat.mul_assoc, own_p_neg, Rat.mul_one]
theorem own_isd2l {x : UInt64} {a : Int64} (h : own_is x ((a.toInt : Int) : Rat)) : FP.d2l x = a := d2l_int (own_whole h)
/-- a whole number below 2^63, rounded: a whole number, at most 512 off -/
theorem own_rd_int {x : UInt64} {i : Int} (h : own_rd x (i : Rat)) (h1 : i ≤ 9223372036854775807) (h2 : -9223372036854775807 ≤ i) : ∃ j : Int, own_is x (j : Rat) ∧ j - i ≤ 512 ∧ i - j ≤ 512 := by
  rcases Nat.lt_or_ge i.natAbs (2 ^ 53) with hs | hs
  · exact ⟨i, own_rd_exact h (m := i) (k := 0) (by rw [Rat.zpow_zero, Rat.mul_one]) hs (by decide) (by decide), by omega, by omega⟩
  · have e63 : (2 : Rat) ^ (63 : Int) = 9223372036854775808 := by decide +kernel
    have e9 : (2 : Rat) ^ ((63 : Int) - 54) = 512 := by decide +kernel
    have i1 : ((i : Int) : Rat) ≤ 9223372036854775808 := (show ((i : Int) : Rat) ≤ ((9223372036854775808 : Int) : Rat) from Rat.intCast_le_intCast.mpr (by omega))
    have i2 : (-9223372036854775808 : Rat) ≤ ((i : Int) : Rat) := (show ((-9223372036854775808 : Int) : Rat) ≤ ((i : Int) : Rat) from Rat.intCast_le_intCast.mpr (by omega))
    obtain ⟨v, hv, g1, g2⟩ := own_rd_err h (k := 63) (by decide) (by decide) (by rw [e63]; exact i1) (by rw [e63]; exact i2)
    rw [e9] at g1 g2
    have hv0 := hv
    obtain ⟨s, c, q, hx, hr⟩ := hv0
    have hf := val64_fits x
    rw [hx] at hf
    have hc : c < 2 ^ 53 := hf.1
    obtain ⟨V, hV⟩ := own_rep' (r := 9007199254740992) (m := 1) (k := 53) (by decide +kernel) (by decide) (by decide) (by decide)
    have hq : 0 ≤ q := by
      refine Int.not_lt.mp fun q0 => ?_
      have c1 : (c : Rat) * 2 ^ q < 9007199254740992 := by
        have c2 : ((c : Nat) : Rat) < 9007199254740992 := (show ((c : Nat) : Rat) < ((9007199254740992 : Nat) : Rat) from Rat.natCast_lt_natCast.mpr hc)
        have c3 : (2 : Rat) ^ q ≤ 1 := by
          have := own_p_mono (show q ≤ 0 by omega)
          rw [Rat.zpow_zero] at this; exact this
        have c4 : (0 : Rat) ≤ ((c : Nat) : Rat) := Rat.natCast_nonneg
        have := Rat.mul_le_mul_of_nonneg_left c3 c4
        grind
      have cneg : (0 : Rat) ≤ (c : Rat) * 2 ^ q := Rat.mul_nonneg Rat.natCast_nonneg (Rat.le_of_lt (own_p_pos q))
      rw [own_signed_pow] at hr
      rcases Int.le_total 0 i with hi | hi
      · have : (9007199254740992 : Rat) ≤ ((i : Int) : Rat) := (show ((9007199254740992 : Int) : Rat) ≤ ((i : Int) : Rat) from Rat.intCast_le_intCast.mpr (by omega))
        have := own_rd_ge' h hv hV this
        cases s <;> simp only [Bool.false_eq_true, if_true, if_false] at hr <;> grind
      · have : ((i : Int) : Rat) ≤ -9007199254740992 := (show ((i : Int) : Rat) ≤ ((-9007199254740992 : Int) : Rat) from Rat.intCast_le_intCast.mpr (by omega))
        have := own_rd_le' h hv (own_neg hV) this
        cases s <;> simp only [Bool.false_eq_true, if_true, if_false] at hr <;> grind
    have hj : v = ((signed s (c * 2 ^ q.toNat) : Int) : Rat) := by rw [own_signed_cast, own_p_toNat hq]; exact hr
    refine ⟨signed s (c * 2 ^ q.toNat), hj ▸ hv, ?_, ?_⟩
    · rw [hj, ← Rat.intCast_sub] at g1
      exact Rat.intCast_le_intCast.mp (show _ ≤ ((512 : Int) : Rat) from g1)
    · rw [hj, ← Rat.intCast_sub] at g2
      exact Rat.intCast_le_intCast.mp (show _ ≤ ((512 : Int) : Rat) from g2)
theorem own_rd_small {x : UInt64} {i : Int} (h : own_rd x (i : Rat)) (hs : i.natAbs < 2 ^ 53) : own_is x (i : Rat) :=
  own_rd_exact h (m := i) (k := 0) (by rw [Rat.zpow_zero, Rat.mul_one]) hs (by decide) (by decide)
end OwnNum5
section OwnNum6
open Jvm.FP.Core Jvm.Free.Fl
/-- a rational that is a double -/
def own_Rep (r : Rat) : Prop := ∃ m k : Int, r = (m : Rat) * (2 : Rat) ^ k ∧ m.natAbs < 2 ^ 53 ∧ -1074 ≤ k ∧ k ≤ 971
theorem own_rd_rep {x : UInt64} {r : Rat} (h : own_rd x r) (hr : own_Rep r) : own_is x r := by
  obtain ⟨m, k, h1, h2, h3, h4⟩ := hr
  exact own_rd_exact h h1 h2 h3 h4
theorem own_rep_int {i : Int} (h : i.natAbs < 2 ^ 53) : own_Rep (i : Rat) := ⟨i, 0, by rw [Rat.zpow_zero, Rat.mul_one], h, by decide, by decide⟩
/-- in halves, quarters ..: j binary places -/
theorem own_rep_fix {r : Rat} (m : Int) (j : Nat) (hj : j ≤ 1000) (hr : r * ((2 ^ j : Nat) : Rat) = (m : Rat)) (hm : m.natAbs < 2 ^ 53) : own_Rep r := by
  refine ⟨m, -(j : Int), ?_, hm, by omega, by omega⟩
  rw [← hr, own_p_nat, Rat.mul_assoc, own_p_neg, Rat.mul_one]
theorem own_nb {x y : Int} {X Y : Nat} (hx : x.natAbs ≤ X) (hy : y.natAbs ≤ Y) : (x * y).natAbs ≤ X * Y := by rw [Int.natAbs_mul]; exact Nat.mul_le_mul hx hy
theorem own_rd_self {z x : UInt64} {r : Rat} (h : own_rd z r) (hx : own_is x r) (h1 : r ≤ 1606938044258990275541962092341162602522202993782792835301376) (h2 : -1606938044258990275541962092341162602522202993782792835301376 ≤ r) : own_is z r := by
  obtain ⟨v, hv⟩ := own_rd_finN h h1 h2
  have : v = r := Rat.le_antisymm (own_rd_le' h hv hx Rat.le_refl) (own_rd_ge' h hv hx Rat.le_refl)
  exact this ▸ hv
/-- two roundings of one rational are one number -/
theorem own_rd_same {z x : UInt64} {r a b : Rat} (h : own_rd z r) (h' : own_rd x r) (ha : own_is z a) (hb : own_is x b) : a = b := (own_is_eq ha hb).mp (own_rd_uniq h h')
theorem own_cle {a b : Int} (h : a ≤ b) : ((a : Int) : Rat) ≤ ((b : Int) : Rat) := Rat.intCast_le_intCast.mpr h
end OwnNum6
open Jvm Jvm.ClassFile Sem Op Lib Jvm.Free Jvm.Stand Jvm.LawKit Jvm.RoadKit Bundle Jvm.Pilot.@@N@@.Jvm.D
/-! the walk layer: own_Go says that from one frame another one is reached, whatever the heap; one rule an instruction -/
section OwnWalk
open Jvm.Free Jvm.Free.Fl
def own_Ldc (tb : Tables) (e : Env) (below : List Frame) (T : State) (m : MethodId) (c : Code) (i : Nat) (v : Value) : Prop :=
  ∀ (g : JFrame) (target : State), g.method = m →
    ((∃ x, v = .int x) → decode c.code g.pc = .ok (.ldc i, 2) → Steps tb e below (T.setTop { g with pc := g.pc + 2, stack := v :: g.stack }) target → Steps tb e below (T.setTop g) target) ∧
    ((∃ x, v = .int x) → decode c.code g.pc = .ok (.ldc_w i, 3) → Steps tb e below (T.setTop { g with pc := g.pc + 3, stack := v :: g.stack }) target → Steps tb e below (T.setTop g) target) ∧
    (((∃ x, v = .long x) ∨ ∃ x, v = .double x) → decode c.code g.pc = .ok (.ldc2_w i, 3) → Steps tb e below (T.setTop { g with pc := g.pc + 3, stack := v :: g.stack }) target → Steps tb e below (T.setTop g) target)
def own_Go (P : List (Nat × Value)) (b : ByteArray) (pc : Nat) (L : Array Slot) (S : List Value) (pc' : Nat) (L' : Array Slot) (S' : List Value) : Prop :=
  ∀ (tb : Tables) [Ours tb] (e : Env) (below : List Frame) (T target : State) (m : MethodId) (c : Code), At T m c below → tb.exec = Jvm.exec → c.code = b →
    (∀ q ∈ P, own_Ldc tb e below T m c q.1 q.2) → Steps tb e below (T.setTop (mkF m pc' L' S')) target → Steps tb e below (T.setTop (mkF m pc L S)) target
variable {P : List (Nat × Value)} {b : ByteArray} {pc pcE : Nat} {L L' LE : Array Slot} {S SE : List Value}
theorem own_refl : own_Go P b pc L S pc L S := fun tb _ e below T target m c h hx hy hP k => k
theorem own_trans {pcM : Nat} {LM : Array Slot} {SM : List Value} (r1 : own_Go P b pc L S pcM LM SM) (r2 : own_Go P b pcM LM SM pcE LE SE) : own_Go P b pc L S pcE LE SE :=
  fun tb _ e below T target m c h hx hy hP k => r1 tb e below T target m c h hx hy hP (r2 tb e below T target m c h hx hy hP k)
theorem own_at {pc2 : Nat} {L2 : Array Slot} {S2 : List Value} (h1 : pc = pc2) (h2 : L = L2) (h3 : S = S2) (r : own_Go P b pc L S pcE LE SE) : own_Go P b pc2 L2 S2 pcE LE SE := by subst h1 h2 h3; exact r
theorem own_end {pc2 : Nat} {L2 : Array Slot} {S2 : List Value} (h1 : pcE = pc2) (h2 : LE = L2) (h3 : SE = S2) (r : own_Go P b pc L S pcE LE SE) : own_Go P b pc L S pc2 L2 S2 := by subst h1 h2 h3; exact r
theorem own_iload {j : Nat} {v : Int32} {pc2 : Nat} (hd : decode b pc = .ok (.iload j, 2)) (hpc : pc + 2 = pc2) (hl : L[j]? = some (.val (.int v))) (r : own_Go P b pc2 L (.int v :: S) pcE LE SE) : own_Go P b pc L (S) pcE LE SE := by
  intro tb _ e below T target m c h hx hy hP k; subst hpc; exact XS.iload h hx rfl (hb hy hd) hl (r tb e below T target m c h hx hy hP k)
theorem own_iloadN {j : Fin 4} {v : Int32} {pc2 : Nat} (hd : decode b pc = .ok (.iload_n j, 1)) (hpc : pc + 1 = pc2) (hl : L[j.val]? = some (.val (.int v))) (r : own_Go P b pc2 L (.int v :: S) pcE LE SE) : own_Go P b pc L (S) pcE LE SE := by
  intro tb _ e below T target m c h hx hy hP k; subst hpc; exact XS.iloadN h hx rfl (hb hy hd) hl (r tb e below T target m c h hx hy hP k)
theorem own_istore {j : Nat} {v : Int32} {rest : List Value} {pc2 : Nat} (hd : decode b pc = .ok (.istore j, 2)) (hpc : pc + 2 = pc2) (hl : storeLocals L j (.int v) = some L') (r : own_Go P b pc2 L' (rest) pcE LE SE) : own_Go P b pc L (.int v :: rest) pcE LE SE := by
  intro tb _ e below T target m c h hx hy hP k; subst hpc; exact XS.istore h hx rfl (hb hy hd) rfl hl (r tb e below T target m c h hx hy hP k)
theorem own_istoreN {j : Fin 4} {v : Int32} {rest : List Value} {pc2 : Nat} (hd : decode b pc = .ok (.istore_n j, 1)) (hpc : pc + 1 = pc2) (hl : storeLocals L j.val (.int v) = some L') (r : own_Go P b pc2 L' (rest) pcE LE SE) : own_Go P b pc L (.int v :: rest) pcE LE SE := by
  intro tb _ e below T target m c h hx hy hP k; subst hpc; exact XS.istoreN h hx rfl (hb hy hd) rfl hl (r tb e below T target m c h hx hy hP k)
theorem own_lload {j : Nat} {v : Int64} {pc2 : Nat} (hd : decode b pc = .ok (.lload j, 2)) (hpc : pc + 2 = pc2) (hl : L[j]? = some (.val (.long v))) (r : own_Go P b pc2 L (.long v :: S) pcE LE SE) : own_Go P b pc L (S) pcE LE SE := by
  intro tb _ e below T target m c h hx hy hP k; subst hpc; exact XS.lload h hx rfl (hb hy hd) hl (r tb e below T target m c h hx hy hP k)
theorem own_lloadN {j : Fin 4} {v : Int64} {pc2 : Nat} (hd : decode b pc = .ok (.lload_n j, 1)) (hpc : pc + 1 = pc2) (hl : L[j.val]? = some (.val (.long v))) (r : own_Go P b pc2 L (.long v :: S) pcE LE SE) : own_Go P b pc L (S) pcE LE SE := by
  intro tb _ e below T target m c h hx hy hP k; subst hpc; exact XS.lloadN h hx rfl (hb hy hd) hl (r tb e below T target m c h hx hy hP k)
theorem own_lstore {j : Nat} {v : Int64} {rest : List Value} {pc2 : Nat} (hd : decode b pc = .ok (.lstore j, 2)) (hpc : pc + 2 = pc2) (hl : storeLocals L j (.long v) = some L') (r : own_Go P b pc2 L' (rest) pcE LE SE) : own_Go P b pc L (.long v :: rest) pcE LE SE := by
  intro tb _ e below T target m c h hx hy hP k; subst hpc; exact XS.lstore h hx rfl (hb hy hd) rfl hl (r tb e below T target m c h hx hy hP k)
theorem own_lstoreN {j : Fin 4} {v : Int64} {rest : List Value} {pc2 : Nat} (hd : decode b pc = .ok (.lstore_n j, 1)) (hpc : pc + 1 = pc2) (hl : storeLocals L j.val (.long v) = some L') (r : own_Go P b pc2 L' (rest) pcE LE SE) : own_Go P b pc L (.long v :: rest) pcE LE SE := by
  intro tb _ e below T target m c h hx hy hP k; subst hpc; exact XS.lstoreN h hx rfl (hb hy hd) rfl hl (r tb e below T target m c h hx hy hP k)
theorem own_dload {j : Nat} {v : UInt64} {pc2 : Nat} (hd : decode b pc = .ok (.dload j, 2)) (hpc : pc + 2 = pc2) (hl : L[j]? = some (.val (.double v))) (r : own_Go P b pc2 L (.double v :: S) pcE LE SE) : own_Go P b pc L (S) pcE LE SE := by
  intro tb _ e below T target m c h hx hy hP k; subst hpc; exact XS.dload h hx rfl (hb hy hd) hl (r tb e below T target m c h hx hy hP k)
theorem own_dloadN {j : Fin 4} {v : UInt64} {pc2 : Nat} (hd : decode b pc = .ok (.dload_n j, 1)) (hpc : pc + 1 = pc2) (hl : L[j.val]? = some (.val (.double v))) (r : own_Go P b pc2 L (.double v :: S) pcE LE SE) : own_Go P b pc L (S) pcE LE SE := by
  intro tb _ e below T target m c h hx hy hP k; subst hpc; exact XS.dloadN h hx rfl (hb hy hd) hl (r tb e below T target m c h hx hy hP k)
theorem own_dstore {j : Nat} {v : UInt64} {rest : List Value} {pc2 : Nat} (hd : decode b pc = .ok (.dstore j, 2)) (hpc : pc + 2 = pc2) (hl : storeLocals L j (.double v) = some L') (r : own_Go P b pc2 L' (rest) pcE LE SE) : own_Go P b pc L (.double v :: rest) pcE LE SE := by
  intro tb _ e below T target m c h hx hy hP k; subst hpc; exact XS.dstore h hx rfl (hb hy hd) rfl hl (r tb e below T target m c h hx hy hP k)
theorem own_dstoreN {j : Fin 4} {v : UInt64} {rest : List Value} {pc2 : Nat} (hd : decode b pc = .ok (.dstore_n j, 1)) (hpc : pc + 1 = pc2) (hl : storeLocals L j.val (.double v) = some L') (r : own_Go P b pc2 L' (rest) pcE LE SE) : own_Go P b pc L (.double v :: rest) pcE LE SE := by
  intro tb _ e below T target m c h hx hy hP k; subst hpc; exact XS.dstoreN h hx rfl (hb hy hd) rfl hl (r tb e below T target m c h hx hy hP k)
theorem own_aload {j : Nat} {v : Value} {pc2 : Nat} (hd : decode b pc = .ok (.aload j, 2)) (hpc : pc + 2 = pc2) (hl : L[j]? = some (.val v)) (hr : v.isRef = true) (r : own_Go P b pc2 L (v :: S) pcE LE SE) : own_Go P b pc L (S) pcE LE SE := by
  intro tb _ e below T target m c h hx hy hP k; subst hpc; exact XS.aload h hx rfl (hb hy hd) hl hr (r tb e below T target m c h hx hy hP k)
theorem own_aloadN {j : Fin 4} {v : Value} {pc2 : Nat} (hd : decode b pc = .ok (.aload_n j, 1)) (hpc : pc + 1 = pc2) (hl : L[j.val]? = some (.val v)) (hr : v.isRef = true) (r : own_Go P b pc2 L (v :: S) pcE LE SE) : own_Go P b pc L (S) pcE LE SE := by
  intro tb _ e below T target m c h hx hy hP k; subst hpc; exact XS.aloadN h hx rfl (hb hy hd) hl hr (r tb e below T target m c h hx hy hP k)
theorem own_astore {j : Nat} {v : Value} {rest : List Value} {pc2 : Nat} (hd : decode b pc = .ok (.astore j, 2)) (hpc : pc + 2 = pc2) (hr : v.isRef = true) (hl : storeLocals L j v = some L') (r : own_Go P b pc2 L' (rest) pcE LE SE) : own_Go P b pc L (v :: rest) pcE LE SE := by
  intro tb _ e below T target m c h hx hy hP k; subst hpc; exact XS.astore h hx rfl (hb hy hd) rfl hr hl (r tb e below T target m c h hx hy hP k)
theorem own_astoreN {j : Fin 4} {v : Value} {rest : List Value} {pc2 : Nat} (hd : decode b pc = .ok (.astore_n j, 1)) (hpc : pc + 1 = pc2) (hr : v.isRef = true) (hl : storeLocals L j.val v = some L') (r : own_Go P b pc2 L' (rest) pcE LE SE) : own_Go P b pc L (v :: rest) pcE LE SE := by
  intro tb _ e below T target m c h hx hy hP k; subst hpc; exact XS.astoreN h hx rfl (hb hy hd) rfl hr hl (r tb e below T target m c h hx hy hP k)
theorem own_iconst {i : Int} {v : Int32} {pc2 : Nat} (hd : decode b pc = .ok (.iconst i, 1)) (hpc : pc + 1 = pc2) (hv : Int32.ofInt i = v) (r : own_Go P b pc2 L (.int v :: S) pcE LE SE) : own_Go P b pc L (S) pcE LE SE := by
  intro tb _ e below T target m c h hx hy hP k; subst hpc; subst hv; exact XS.iconst h hx rfl (hb hy hd) (r tb e below T target m c h hx hy hP k)
theorem own_bipush {i : Int} {v : Int32} {pc2 : Nat} (hd : decode b pc = .ok (.bipush i, 2)) (hpc : pc + 2 = pc2) (hv : (Int8.ofInt i).toInt32 = v) (r : own_Go P b pc2 L (.int v :: S) pcE LE SE) : own_Go P b pc L (S) pcE LE SE := by
  intro tb _ e below T target m c h hx hy hP k; subst hpc; subst hv; exact XS.bipush h hx rfl (hb hy hd) (r tb e below T target m c h hx hy hP k)
theorem own_sipush {i : Int} {v : Int32} {pc2 : Nat} (hd : decode b pc = .ok (.sipush i, 3)) (hpc : pc + 3 = pc2) (hv : (Int16.ofInt i).toInt32 = v) (r : own_Go P b pc2 L (.int v :: S) pcE LE SE) : own_Go P b pc L (S) pcE LE SE := by
  intro tb _ e below T target m c h hx hy hP k; subst hpc; subst hv; exact XS.sipush h hx rfl (hb hy hd) (r tb e below T target m c h hx hy hP k)
theorem own_lconst {j : Fin 2} {v : Int64} {pc2 : Nat} (hd : decode b pc = .ok (.lconst j, 1)) (hpc : pc + 1 = pc2) (hv : Int64.ofNat j = v) (r : own_Go P b pc2 L (.long v :: S) pcE LE SE) : own_Go P b pc L (S) pcE LE SE := by
  intro tb _ e below T target m c h hx hy hP k; subst hpc; subst hv; exact XS.lconst h hx rfl (hb hy hd) (r tb e below T target m c h hx hy hP k)
theorem own_dconst0  {v : UInt64} {pc2 : Nat} (hd : decode b pc = .ok (.dconst 0, 1)) (hpc : pc + 1 = pc2) (hv : FP.dconst0 = v) (r : own_Go P b pc2 L (.double v :: S) pcE LE SE) : own_Go P b pc L (S) pcE LE SE := by
  intro tb _ e below T target m c h hx hy hP k; subst hpc; subst hv; exact XS.dconst0 h hx rfl (hb hy hd) rfl (r tb e below T target m c h hx hy hP k)
theorem own_dconst1  {v : UInt64} {pc2 : Nat} (hd : decode b pc = .ok (.dconst 1, 1)) (hpc : pc + 1 = pc2) (hv : FP.dconst1 = v) (r : own_Go P b pc2 L (.double v :: S) pcE LE SE) : own_Go P b pc L (S) pcE LE SE := by
  intro tb _ e below T target m c h hx hy hP k; subst hpc; subst hv; exact XS.dconst1 h hx rfl (hb hy hd) rfl (r tb e below T target m c h hx hy hP k)
theorem own_aconstNull  {pc2 : Nat} (hd : decode b pc = .ok (.aconst_null, 1)) (hpc : pc + 1 = pc2) (r : own_Go P b pc2 L (.null :: S) pcE LE SE) : own_Go P b pc L (S) pcE LE SE := by
  intro tb _ e below T target m c h hx hy hP k; subst hpc; exact XS.aconstNull h hx rfl (hb hy hd) (r tb e below T target m c h hx hy hP k)
theorem own_iadd {x y : Int32} {v : Int32} {rest : List Value} {pc2 : Nat} (hd : decode b pc = .ok (.iadd, 1)) (hpc : pc + 1 = pc2) (hv : x + y = v) (r : own_Go P b pc2 L (.int v :: rest) pcE LE SE) : own_Go P b pc L (.int y :: .int x :: rest) pcE LE SE := by
  intro tb _ e below T target m c h hx hy hP k; subst hpc; subst hv; exact XS.iadd h hx rfl (hb hy hd) rfl (r tb e below T target m c h hx hy hP k)
theorem own_isub {x y : Int32} {v : Int32} {rest : List Value} {pc2 : Nat} (hd : decode b pc = .ok (.isub, 1)) (hpc : pc + 1 = pc2) (hv : x - y = v) (r : own_Go P b pc2 L (.int v :: rest) pcE LE SE) : own_Go P b pc L (.int y :: .int x :: rest) pcE LE SE := by
  intro tb _ e below T target m c h hx hy hP k; subst hpc; subst hv; exact XS.isub h hx rfl (hb hy hd) rfl (r tb e below T target m c h hx hy hP k)
theorem own_imul {x y : Int32} {v : Int32} {rest : List Value} {pc2 : Nat} (hd : decode b pc = .ok (.imul, 1)) (hpc : pc + 1 = pc2) (hv : x * y = v) (r : own_Go P b pc2 L (.int v :: rest) pcE LE SE) : own_Go P b pc L (.int y :: .int x :: rest) pcE LE SE := by
  intro tb _ e below T target m c h hx hy hP k; subst hpc; subst hv; exact XS.imul h hx rfl (hb hy hd) rfl (r tb e below T target m c h hx hy hP k)
theorem own_iand {x y : Int32} {v : Int32} {rest : List Value} {pc2 : Nat} (hd : decode b pc = .ok (.iand, 1)) (hpc : pc + 1 = pc2) (hv : x &&& y = v) (r : own_Go P b pc2 L (.int v :: rest) pcE LE SE) : own_Go P b pc L (.int y :: .int x :: rest) pcE LE SE := by
  intro tb _ e below T target m c h hx hy hP k; subst hpc; subst hv; exact XS.iand h hx rfl (hb hy hd) rfl (r tb e below T target m c h hx hy hP k)
theorem own_ior {x y : Int32} {v : Int32} {rest : List Value} {pc2 : Nat} (hd : decode b pc = .ok (.ior, 1)) (hpc : pc + 1 = pc2) (hv : x ||| y = v) (r : own_Go P b pc2 L (.int v :: rest) pcE LE SE) : own_Go P b pc L (.int y :: .int x :: rest) pcE LE SE := by
  intro tb _ e below T target m c h hx hy hP k; subst hpc; subst hv; exact XS.ior h hx rfl (hb hy hd) rfl (r tb e below T target m c h hx hy hP k)
theorem own_ixor {x y : Int32} {v : Int32} {rest : List Value} {pc2 : Nat} (hd : decode b pc = .ok (.ixor, 1)) (hpc : pc + 1 = pc2) (hv : x ^^^ y = v) (r : own_Go P b pc2 L (.int v :: rest) pcE LE SE) : own_Go P b pc L (.int y :: .int x :: rest) pcE LE SE := by
  intro tb _ e below T target m c h hx hy hP k; subst hpc; subst hv; exact XS.ixor h hx rfl (hb hy hd) rfl (r tb e below T target m c h hx hy hP k)
theorem own_ishl {x y : Int32} {v : Int32} {rest : List Value} {pc2 : Nat} (hd : decode b pc = .ok (.ishl, 1)) (hpc : pc + 1 = pc2) (hv : x <<< (y &&& 31) = v) (r : own_Go P b pc2 L (.int v :: rest) pcE LE SE) : own_Go P b pc L (.int y :: .int x :: rest) pcE LE SE := by
  intro tb _ e below T target m c h hx hy hP k; subst hpc; subst hv; exact XS.ishl h hx rfl (hb hy hd) rfl (r tb e below T target m c h hx hy hP k)
theorem own_ishr {x y : Int32} {v : Int32} {rest : List Value} {pc2 : Nat} (hd : decode b pc = .ok (.ishr, 1)) (hpc : pc + 1 = pc2) (hv : x >>> (y &&& 31) = v) (r : own_Go P b pc2 L (.int v :: rest) pcE LE SE) : own_Go P b pc L (.int y :: .int x :: rest) pcE LE SE := by
  intro tb _ e below T target m c h hx hy hP k; subst hpc; subst hv; exact XS.ishr h hx rfl (hb hy hd) rfl (r tb e below T target m c h hx hy hP k)
theorem own_iushr {x y : Int32} {v : Int32} {rest : List Value} {pc2 : Nat} (hd : decode b pc = .ok (.iushr, 1)) (hpc : pc + 1 = pc2) (hv : (x.toUInt32 >>> (y &&& 31).toUInt32).toInt32 = v) (r : own_Go P b pc2 L (.int v :: rest) pcE LE SE) : own_Go P b pc L (.int y :: .int x :: rest) pcE LE SE := by
  intro tb _ e below T target m c h hx hy hP k; subst hpc; subst hv; exact XS.iushr h hx rfl (hb hy hd) rfl (r tb e below T target m c h hx hy hP k)
theorem own_idiv {x y : Int32} {v : Int32} {rest : List Value} {pc2 : Nat} (hd : decode b pc = .ok (.idiv, 1)) (hpc : pc + 1 = pc2) (hn : y ≠ 0) (hv : x / y = v) (r : own_Go P b pc2 L (.int v :: rest) pcE LE SE) : own_Go P b pc L (.int y :: .int x :: rest) pcE LE SE := by
  intro tb _ e below T target m c h hx hy hP k; subst hpc; subst hv; exact XS.idiv h hx rfl (hb hy hd) rfl hn (r tb e below T target m c h hx hy hP k)
theorem own_irem {x y : Int32} {v : Int32} {rest : List Value} {pc2 : Nat} (hd : decode b pc = .ok (.irem, 1)) (hpc : pc + 1 = pc2) (hn : y ≠ 0) (hv : x - (x / y) * y = v) (r : own_Go P b pc2 L (.int v :: rest) pcE LE SE) : own_Go P b pc L (.int y :: .int x :: rest) pcE LE SE := by
  intro tb _ e below T target m c h hx hy hP k; subst hpc; subst hv; exact XS.irem h hx rfl (hb hy hd) rfl hn (r tb e below T target m c h hx hy hP k)
theorem own_ladd {x y : Int64} {v : Int64} {rest : List Value} {pc2 : Nat} (hd : decode b pc = .ok (.ladd, 1)) (hpc : pc + 1 = pc2) (hv : x + y = v) (r : own_Go P b pc2 L (.long v :: rest) pcE LE SE) : own_Go P b pc L (.long y :: .long x :: rest) pcE LE SE := by
  intro tb _ e below T target m c h hx hy hP k; subst hpc; subst hv; exact XS.ladd h hx rfl (hb hy hd) rfl (r tb e below T target m c h hx hy hP k)
theorem own_lsub {x y : Int64} {v : Int64} {rest : List Value} {pc2 : Nat} (hd : decode b pc = .ok (.lsub, 1)) (hpc : pc + 1 = pc2) (hv : x - y = v) (r : own_Go P b pc2 L (.long v :: rest) pcE LE SE) : own_Go P b pc L (.long y :: .long x :: rest) pcE LE SE := by
  intro tb _ e below T target m c h hx hy hP k; subst hpc; subst hv; exact XS.lsub h hx rfl (hb hy hd) rfl (r tb e below T target m c h hx hy hP k)
theorem own_lmul {x y : Int64} {v : Int64} {rest : List Value} {pc2 : Nat} (hd : decode b pc = .ok (.lmul, 1)) (hpc : pc + 1 = pc2) (hv : x * y = v) (r : own_Go P b pc2 L (.long v :: rest) pcE LE SE) : own_Go P b pc L (.long y :: .long x :: rest) pcE LE SE := by
  intro tb _ e below T target m c h hx hy hP k; subst hpc; subst hv; exact XS.lmul h hx rfl (hb hy hd) rfl (r tb e below T target m c h hx hy hP k)
theorem own_land {x y : Int64} {v : Int64} {rest : List Value} {pc2 : Nat} (hd : decode b pc = .ok (.land, 1)) (hpc : pc + 1 = pc2) (hv : x &&& y = v) (r : own_Go P b pc2 L (.long v :: rest) pcE LE SE) : own_Go P b pc L (.long y :: .long x :: rest) pcE LE SE := by
  intro tb _ e below T target m c h hx hy hP k; subst hpc; subst hv; exact XS.land h hx rfl (hb hy hd) rfl (r tb e below T target m c h hx hy hP k)
theorem own_lor {x y : Int64} {v : Int64} {rest : List Value} {pc2 : Nat} (hd : decode b pc = .ok (.lor, 1)) (hpc : pc + 1 = pc2) (hv : x ||| y = v) (r : own_Go P b pc2 L (.long v :: rest) pcE LE SE) : own_Go P b pc L (.long y :: .long x :: rest) pcE LE SE := by
  intro tb _ e below T target m c h hx hy hP k; subst hpc; subst hv; exact XS.lor h hx rfl (hb hy hd) rfl (r tb e below T target m c h hx hy hP k)
theorem own_lxor {x y : Int64} {v : Int64} {rest : List Value} {pc2 : Nat} (hd : decode b pc = .ok (.lxor, 1)) (hpc : pc + 1 = pc2) (hv : x ^^^ y = v) (r : own_Go P b pc2 L (.long v :: rest) pcE LE SE) : own_Go P b pc L (.long y :: .long x :: rest) pcE LE SE := by
  intro tb _ e below T target m c h hx hy hP k; subst hpc; subst hv; exact XS.lxor h hx rfl (hb hy hd) rfl (r tb e below T target m c h hx hy hP k)
theorem own_ldiv {x y : Int64} {v : Int64} {rest : List Value} {pc2 : Nat} (hd : decode b pc = .ok (.ldiv, 1)) (hpc : pc + 1 = pc2) (hn : y ≠ 0) (hv : x / y = v) (r : own_Go P b pc2 L (.long v :: rest) pcE LE SE) : own_Go P b pc L (.long y :: .long x :: rest) pcE LE SE := by
  intro tb _ e below T target m c h hx hy hP k; subst hpc; subst hv; exact XS.ldiv h hx rfl (hb hy hd) rfl hn (r tb e below T target m c h hx hy hP k)
theorem own_lrem {x y : Int64} {v : Int64} {rest : List Value} {pc2 : Nat} (hd : decode b pc = .ok (.lrem, 1)) (hpc : pc + 1 = pc2) (hn : y ≠ 0) (hv : x - (x / y) * y = v) (r : own_Go P b pc2 L (.long v :: rest) pcE LE SE) : own_Go P b pc L (.long y :: .long x :: rest) pcE LE SE := by
  intro tb _ e below T target m c h hx hy hP k; subst hpc; subst hv; exact XS.lrem h hx rfl (hb hy hd) rfl hn (r tb e below T target m c h hx hy hP k)
theorem own_lshl {x : Int64} {y : Int32} {v : Int64} {rest : List Value} {pc2 : Nat} (hd : decode b pc = .ok (.lshl, 1)) (hpc : pc + 1 = pc2) (hv : x <<< (y &&& 0x3f).toInt64 = v) (r : own_Go P b pc2 L (.long v :: rest) pcE LE SE) : own_Go P b pc L (.int y :: .long x :: rest) pcE LE SE := by
  intro tb _ e below T target m c h hx hy hP k; subst hpc; subst hv; exact XS.lshl h hx rfl (hb hy hd) rfl (r tb e below T target m c h hx hy hP k)
theorem own_lshr {x : Int64} {y : Int32} {v : Int64} {rest : List Value} {pc2 : Nat} (hd : decode b pc = .ok (.lshr, 1)) (hpc : pc + 1 = pc2) (hv : x >>> (y &&& 0x3f).toInt64 = v) (r : own_Go P b pc2 L (.long v :: rest) pcE LE SE) : own_Go P b pc L (.int y :: .long x :: rest) pcE LE SE := by
  intro tb _ e below T target m c h hx hy hP k; subst hpc; subst hv; exact XS.lshr h hx rfl (hb hy hd) rfl (r tb e below T target m c h hx hy hP k)
theorem own_lushr {x : Int64} {y : Int32} {v : Int64} {rest : List Value} {pc2 : Nat} (hd : decode b pc = .ok (.lushr, 1)) (hpc : pc + 1 = pc2) (hv : (x.toUInt64 >>> (y &&& 0x3f).toInt64.toUInt64).toInt64 = v) (r : own_Go P b pc2 L (.long v :: rest) pcE LE SE) : own_Go P b pc L (.int y :: .long x :: rest) pcE LE SE := by
  intro tb _ e below T target m c h hx hy hP k; subst hpc; subst hv; exact XS.lushr h hx rfl (hb hy hd) rfl (r tb e below T target m c h hx hy hP k)
theorem own_lcmp {x y : Int64} {v : Int32} {rest : List Value} {pc2 : Nat} (hd : decode b pc = .ok (.lcmp, 1)) (hpc : pc + 1 = pc2) (hv : (if x > y then 1 else if x = y then 0 else -1) = v) (r : own_Go P b pc2 L (.int v :: rest) pcE LE SE) : own_Go P b pc L (.long y :: .long x :: rest) pcE LE SE := by
  intro tb _ e below T target m c h hx hy hP k; subst hpc; subst hv; exact XS.lcmp h hx rfl (hb hy hd) rfl (r tb e below T target m c h hx hy hP k)
theorem own_ineg {x : Int32} {v : Int32} {rest : List Value} {pc2 : Nat} (hd : decode b pc = .ok (.ineg, 1)) (hpc : pc + 1 = pc2) (hv : -x = v) (r : own_Go P b pc2 L (.int v :: rest) pcE LE SE) : own_Go P b pc L (.int x :: rest) pcE LE SE := by
  intro tb _ e below T target m c h hx hy hP k; subst hpc; subst hv; exact XS.ineg h hx rfl (hb hy hd) rfl (r tb e below T target m c h hx hy hP k)
theorem own_lneg {x : Int64} {v : Int64} {rest : List Value} {pc2 : Nat} (hd : decode b pc = .ok (.lneg, 1)) (hpc : pc + 1 = pc2) (hv : -x = v) (r : own_Go P b pc2 L (.long v :: rest) pcE LE SE) : own_Go P b pc L (.long x :: rest) pcE LE SE := by
  intro tb _ e below T target m c h hx hy hP k; subst hpc; subst hv; exact XS.lneg h hx rfl (hb hy hd) rfl (r tb e below T target m c h hx hy hP k)
theorem own_i2l {x : Int32} {v : Int64} {rest : List Value} {pc2 : Nat} (hd : decode b pc = .ok (.i2l, 1)) (hpc : pc + 1 = pc2) (hv : x.toInt64 = v) (r : own_Go P b pc2 L (.long v :: rest) pcE LE SE) : own_Go P b pc L (.int x :: rest) pcE LE SE := by
  intro tb _ e below T target m c h hx hy hP k; subst hpc; subst hv; exact XS.i2l h hx rfl (hb hy hd) rfl (r tb e below T target m c h hx hy hP k)
theorem own_l2i {x : Int64} {v : Int32} {rest : List Value} {pc2 : Nat} (hd : decode b pc = .ok (.l2i, 1)) (hpc : pc + 1 = pc2) (hv : x.toInt32 = v) (r : own_Go P b pc2 L (.int v :: rest) pcE LE SE) : own_Go P b pc L (.long x :: rest) pcE LE SE := by
  intro tb _ e below T target m c h hx hy hP k; subst hpc; subst hv; exact XS.l2i h hx rfl (hb hy hd) rfl (r tb e below T target m c h hx hy hP k)
theorem own_i2b {x : Int32} {v : Int32} {rest : List Value} {pc2 : Nat} (hd : decode b pc = .ok (.i2b, 1)) (hpc : pc + 1 = pc2) (hv : x.toInt8.toInt32 = v) (r : own_Go P b pc2 L (.int v :: rest) pcE LE SE) : own_Go P b pc L (.int x :: rest) pcE LE SE := by
  intro tb _ e below T target m c h hx hy hP k; subst hpc; subst hv; exact XS.i2b h hx rfl (hb hy hd) rfl (r tb e below T target m c h hx hy hP k)
theorem own_i2c {x : Int32} {v : Int32} {rest : List Value} {pc2 : Nat} (hd : decode b pc = .ok (.i2c, 1)) (hpc : pc + 1 = pc2) (hv : x.toUInt32.toUInt16.toUInt32.toInt32 = v) (r : own_Go P b pc2 L (.int v :: rest) pcE LE SE) : own_Go P b pc L (.int x :: rest) pcE LE SE := by
  intro tb _ e below T target m c h hx hy hP k; subst hpc; subst hv; exact XS.i2c h hx rfl (hb hy hd) rfl (r tb e below T target m c h hx hy hP k)
theorem own_i2d {x : Int32} {v : UInt64} {rest : List Value} {pc2 : Nat} (hd : decode b pc = .ok (.i2d, 1)) (hpc : pc + 1 = pc2) (hv : FP.i2d x = v) (r : own_Go P b pc2 L (.double v :: rest) pcE LE SE) : own_Go P b pc L (.int x :: rest) pcE LE SE := by
  intro tb _ e below T target m c h hx hy hP k; subst hpc; subst hv; exact XS.i2dS h hx rfl (hb hy hd) rfl rfl (r tb e below T target m c h hx hy hP k)
theorem own_l2d {x : Int64} {v : UInt64} {rest : List Value} {pc2 : Nat} (hd : decode b pc = .ok (.l2d, 1)) (hpc : pc + 1 = pc2) (hv : FP.l2d x = v) (r : own_Go P b pc2 L (.double v :: rest) pcE LE SE) : own_Go P b pc L (.long x :: rest) pcE LE SE := by
  intro tb _ e below T target m c h hx hy hP k; subst hpc; subst hv; exact XS.l2dS h hx rfl (hb hy hd) rfl rfl (r tb e below T target m c h hx hy hP k)
theorem own_d2i {x : UInt64} {v : Int32} {rest : List Value} {pc2 : Nat} (hd : decode b pc = .ok (.d2i, 1)) (hpc : pc + 1 = pc2) (hv : FP.d2i x = v) (r : own_Go P b pc2 L (.int v :: rest) pcE LE SE) : own_Go P b pc L (.double x :: rest) pcE LE SE := by
  intro tb _ e below T target m c h hx hy hP k; subst hpc; subst hv; exact XS.d2iS h hx rfl (hb hy hd) rfl rfl (r tb e below T target m c h hx hy hP k)
theorem own_d2l {x : UInt64} {v : Int64} {rest : List Value} {pc2 : Nat} (hd : decode b pc = .ok (.d2l, 1)) (hpc : pc + 1 = pc2) (hv : FP.d2l x = v) (r : own_Go P b pc2 L (.long v :: rest) pcE LE SE) : own_Go P b pc L (.double x :: rest) pcE LE SE := by
  intro tb _ e below T target m c h hx hy hP k; subst hpc; subst hv; exact XS.d2lS h hx rfl (hb hy hd) rfl rfl (r tb e below T target m c h hx hy hP k)
theorem own_dneg {x : UInt64} {v : UInt64} {rest : List Value} {pc2 : Nat} (hd : decode b pc = .ok (.dneg, 1)) (hpc : pc + 1 = pc2) (hv : FP.dneg x = v) (r : own_Go P b pc2 L (.double v :: rest) pcE LE SE) : own_Go P b pc L (.double x :: rest) pcE LE SE := by
  intro tb _ e below T target m c h hx hy hP k; subst hpc; subst hv; exact XS.dnegS h hx rfl (hb hy hd) rfl rfl (r tb e below T target m c h hx hy hP k)
theorem own_dcmp {o : CmpOp} {x y : UInt64} {v : Int32} {rest : List Value} {pc2 : Nat} (hd : decode b pc = .ok (.dcmp o, 1)) (hpc : pc + 1 = pc2) (hv : cmpValue (FP.dcmp x y) o = v) (r : own_Go P b pc2 L (.int v :: rest) pcE LE SE) : own_Go P b pc L (.double y :: .double x :: rest) pcE LE SE := by
  intro tb _ e below T target m c h hx hy hP k; subst hpc; subst hv; exact XS.dcmpS h hx rfl (hb hy hd) rfl rfl (r tb e below T target m c h hx hy hP k)
theorem own_dadd {x y : UInt64} {v : UInt64} {rest : List Value} {pc2 : Nat} (hd : decode b pc = .ok (.dadd, 1)) (hpc : pc + 1 = pc2) (hn : NoNaN64 (FP.dadd x y)) (hv : FP.dadd x y = v) (r : own_Go P b pc2 L (.double v :: rest) pcE LE SE) : own_Go P b pc L (.double y :: .double x :: rest) pcE LE SE := by
  intro tb _ e below T target m c h hx hy hP k; subst hpc; subst hv; exact XS.daddS h hx rfl (hb hy hd) rfl hn rfl (r tb e below T target m c h hx hy hP k)
theorem own_dsub {x y : UInt64} {v : UInt64} {rest : List Value} {pc2 : Nat} (hd : decode b pc = .ok (.dsub, 1)) (hpc : pc + 1 = pc2) (hn : NoNaN64 (FP.dsub x y)) (hv : FP.dsub x y = v) (r : own_Go P b pc2 L (.double v :: rest) pcE LE SE) : own_Go P b pc L (.double y :: .double x :: rest) pcE LE SE := by
  intro tb _ e below T target m c h hx hy hP k; subst hpc; subst hv; exact XS.dsubS h hx rfl (hb hy hd) rfl hn rfl (r tb e below T target m c h hx hy hP k)
theorem own_dmul {x y : UInt64} {v : UInt64} {rest : List Value} {pc2 : Nat} (hd : decode b pc = .ok (.dmul, 1)) (hpc : pc + 1 = pc2) (hn : NoNaN64 (FP.dmul x y)) (hv : FP.dmul x y = v) (r : own_Go P b pc2 L (.double v :: rest) pcE LE SE) : own_Go P b pc L (.double y :: .double x :: rest) pcE LE SE := by
  intro tb _ e below T target m c h hx hy hP k; subst hpc; subst hv; exact XS.dmulS h hx rfl (hb hy hd) rfl hn rfl (r tb e below T target m c h hx hy hP k)
theorem own_ddiv {x y : UInt64} {v : UInt64} {rest : List Value} {pc2 : Nat} (hd : decode b pc = .ok (.ddiv, 1)) (hpc : pc + 1 = pc2) (hn : NoNaN64 (FP.ddiv x y)) (hv : FP.ddiv x y = v) (r : own_Go P b pc2 L (.double v :: rest) pcE LE SE) : own_Go P b pc L (.double y :: .double x :: rest) pcE LE SE := by
  intro tb _ e below T target m c h hx hy hP k; subst hpc; subst hv; exact XS.ddivS h hx rfl (hb hy hd) rfl hn rfl (r tb e below T target m c h hx hy hP k)
theorem own_dup {v : Value} {rest : List Value} {pc2 : Nat} (hd : decode b pc = .ok (.dup, 1)) (hpc : pc + 1 = pc2) (hc : v.category = 1) (r : own_Go P b pc2 L (v :: v :: rest) pcE LE SE) : own_Go P b pc L (v :: rest) pcE LE SE := by
  intro tb _ e below T target m c h hx hy hP k; subst hpc; exact XS.dup h hx rfl (hb hy hd) rfl hc (r tb e below T target m c h hx hy hP k)
theorem own_pop {v : Value} {rest : List Value} {pc2 : Nat} (hd : decode b pc = .ok (.pop, 1)) (hpc : pc + 1 = pc2) (hc : v.category = 1) (r : own_Go P b pc2 L (rest) pcE LE SE) : own_Go P b pc L (v :: rest) pcE LE SE := by
  intro tb _ e below T target m c h hx hy hP k; subst hpc; exact XS.pop h hx rfl (hb hy hd) rfl hc (r tb e below T target m c h hx hy hP k)
theorem own_dupX1 {v w : Value} {rest : List Value} {pc2 : Nat} (hd : decode b pc = .ok (.dup_x1, 1)) (hpc : pc + 1 = pc2) (hc : v.category = 1) (hc' : w.category = 1) (r : own_Go P b pc2 L (v :: w :: v :: rest) pcE LE SE) : own_Go P b pc L (v :: w :: rest) pcE LE SE := by
  intro tb _ e below T target m c h hx hy hP k; subst hpc; exact XS.dupX1 h hx rfl (hb hy hd) rfl hc hc' (r tb e below T target m c h hx hy hP k)
theorem own_dup2 {v w : Value} {rest : List Value} {pc2 : Nat} (hd : decode b pc = .ok (.dup2, 1)) (hpc : pc + 1 = pc2) (hc : v.category = 1) (hc' : w.category = 1) (r : own_Go P b pc2 L (v :: w :: v :: w :: rest) pcE LE SE) : own_Go P b pc L (v :: w :: rest) pcE LE SE := by
  intro tb _ e below T target m c h hx hy hP k; subst hpc; exact XT.dup2 h hx rfl (hb hy hd) rfl hc hc' (r tb e below T target m c h hx hy hP k)
theorem own_ifYes {cd : ClassFile.Cond} {x : Int32} {o : Int} {pc' : Nat} {rest : List Value} (hd : decode b pc = .ok (.ifCond cd o, 3)) (hc : ifCond.holds cd x = true) (ho : 0 ≤ (pc : Int) + o) (hp : ((pc : Int) + o).toNat = pc') (r : own_Go P b pc' L rest pcE LE SE) : own_Go P b pc L (.int x :: rest) pcE LE SE := by
  intro tb _ e below T target m c h hx hy hP k; exact XS.ifYes h hx rfl rfl (hb hy hd) rfl hc ho hp (r tb e below T target m c h hx hy hP k)
theorem own_ifNo {cd : ClassFile.Cond} {x : Int32} {o : Int} {rest : List Value} {pc2 : Nat} (hd : decode b pc = .ok (.ifCond cd o, 3)) (hpc : pc + 3 = pc2) (hc : ifCond.holds cd x = false) (r : own_Go P b pc2 L rest pcE LE SE) : own_Go P b pc L (.int x :: rest) pcE LE SE := by
  intro tb _ e below T target m c h hx hy hP k; subst hpc; exact XS.ifNo h hx rfl (hb hy hd) rfl hc (r tb e below T target m c h hx hy hP k)
theorem own_icmpYes {cd : ClassFile.Cond} {x y : Int32} {o : Int} {pc' : Nat} {rest : List Value} (hd : decode b pc = .ok (.if_icmp cd o, 3)) (hc : if_icmp.holds cd x y = true) (ho : 0 ≤ (pc : Int) + o) (hp : ((pc : Int) + o).toNat = pc') (r : own_Go P b pc' L rest pcE LE SE) : own_Go P b pc L (.int y :: .int x :: rest) pcE LE SE := by
  intro tb _ e below T target m c h hx hy hP k; exact XS.icmpYes h hx rfl rfl (hb hy hd) rfl hc ho hp (r tb e below T target m c h hx hy hP k)
theorem own_icmpNo {cd : ClassFile.Cond} {x y : Int32} {o : Int} {rest : List Value} {pc2 : Nat} (hd : decode b pc = .ok (.if_icmp cd o, 3)) (hpc : pc + 3 = pc2) (hc : if_icmp.holds cd x y = false) (r : own_Go P b pc2 L rest pcE LE SE) : own_Go P b pc L (.int y :: .int x :: rest) pcE LE SE := by
  intro tb _ e below T target m c h hx hy hP k; subst hpc; exact XS.icmpNo h hx rfl (hb hy hd) rfl hc (r tb e below T target m c h hx hy hP k)
theorem own_ifnullYes {o : Int} {pc' : Nat} {rest : List Value} (hd : decode b pc = .ok (.ifnull o, 3)) (ho : 0 ≤ (pc : Int) + o) (hp : ((pc : Int) + o).toNat = pc') (r : own_Go P b pc' L rest pcE LE SE) : own_Go P b pc L (.null :: rest) pcE LE SE := by
  intro tb _ e below T target m c h hx hy hP k; exact XS.ifnullYes h hx rfl rfl (hb hy hd) rfl ho hp (r tb e below T target m c h hx hy hP k)
theorem own_ifnullNo {o : Int} {a : Addr} {rest : List Value} {pc2 : Nat} (hd : decode b pc = .ok (.ifnull o, 3)) (hpc : pc + 3 = pc2) (r : own_Go P b pc2 L rest pcE LE SE) : own_Go P b pc L (.ref a :: rest) pcE LE SE := by
  intro tb _ e below T target m c h hx hy hP k; subst hpc; exact XS.ifnullNo h hx rfl (hb hy hd) rfl (r tb e below T target m c h hx hy hP k)
theorem own_ifnonnullYes {o : Int} {pc' : Nat} {a : Addr} {rest : List Value} (hd : decode b pc = .ok (.ifnonnull o, 3)) (ho : 0 ≤ (pc : Int) + o) (hp : ((pc : Int) + o).toNat = pc') (r : own_Go P b pc' L rest pcE LE SE) : own_Go P b pc L (.ref a :: rest) pcE LE SE := by
  intro tb _ e below T target m c h hx hy hP k; exact XS.ifnonnullYes h hx rfl rfl (hb hy hd) rfl ho hp (r tb e below T target m c h hx hy hP k)
theorem own_ifnonnullNo {o : Int} {rest : List Value} {pc2 : Nat} (hd : decode b pc = .ok (.ifnonnull o, 3)) (hpc : pc + 3 = pc2) (r : own_Go P b pc2 L rest pcE LE SE) : own_Go P b pc L (.null :: rest) pcE LE SE := by
  intro tb _ e below T target m c h hx hy hP k; subst hpc; exact XS.ifnonnullNo h hx rfl (hb hy hd) rfl (r tb e below T target m c h hx hy hP k)
theorem own_acmpYes {cd : ClassFile.ACond} {x y : Addr} {o : Int} {pc' : Nat} {rest : List Value} (hd : decode b pc = .ok (.if_acmp cd o, 3)) (hc : if_acmp.holds cd (some x) (some y) = true) (ho : 0 ≤ (pc : Int) + o) (hp : ((pc : Int) + o).toNat = pc') (r : own_Go P b pc' L rest pcE LE SE) : own_Go P b pc L (.ref y :: .ref x :: rest) pcE LE SE := by
  intro tb _ e below T target m c h hx hy hP k; exact XS.acmpYes h hx rfl rfl (hb hy hd) rfl hc ho hp (r tb e below T target m c h hx hy hP k)
theorem own_acmpNo {cd : ClassFile.ACond} {x y : Addr} {o : Int} {rest : List Value} {pc2 : Nat} (hd : decode b pc = .ok (.if_acmp cd o, 3)) (hpc : pc + 3 = pc2) (hc : if_acmp.holds cd (some x) (some y) = false) (r : own_Go P b pc2 L rest pcE LE SE) : own_Go P b pc L (.ref y :: .ref x :: rest) pcE LE SE := by
  intro tb _ e below T target m c h hx hy hP k; subst hpc; exact XS.acmpNo h hx rfl (hb hy hd) rfl hc (r tb e below T target m c h hx hy hP k)
theorem own_goto {o : Int} {pc' : Nat} (hd : decode b pc = .ok (.goto o, 3)) (ho : 0 ≤ (pc : Int) + o) (hp : ((pc : Int) + o).toNat = pc') (r : own_Go P b pc' L S pcE LE SE) : own_Go P b pc L S pcE LE SE := by
  intro tb _ e below T target m c h hx hy hP k; exact XS.goto h hx rfl rfl (hb hy hd) ho hp (r tb e below T target m c h hx hy hP k)
theorem own_iinc {j : Nat} {cst : Int} {x v : Int32} {pc2 : Nat} (hd : decode b pc = .ok (.iinc j cst, 3)) (hpc : pc + 3 = pc2) (hl : L[j]? = some (.val (.int x))) (hv : x + Int32.ofInt cst = v) (hl' : storeLocals L j (.int v) = some L') (r : own_Go P b pc2 L' S pcE LE SE) : own_Go P b pc L S pcE LE SE := by
  intro tb _ e below T target m c h hx hy hP k; subst hpc; subst hv; exact XS.iinc h hx rfl (hb hy hd) hl hl' (r tb e below T target m c h hx hy hP k)
theorem own_ldc {i : Nat} {v : Int32} {pc2 : Nat} (hd : decode b pc = .ok (.ldc i, 2)) (hpc : pc + 2 = pc2) (hk : (i, Value.int v) ∈ P) (r : own_Go P b pc2 L (.int v :: S) pcE LE SE) : own_Go P b pc L S pcE LE SE := by
  intro tb _ e below T target m c h hx hy hP k; subst hpc; exact (hP _ hk (mkF m pc L S) target rfl).1 ⟨_, rfl⟩ (hb hy hd) (r tb e below T target m c h hx hy hP k)
theorem own_ldcW {i : Nat} {v : Int32} {pc2 : Nat} (hd : decode b pc = .ok (.ldc_w i, 3)) (hpc : pc + 3 = pc2) (hk : (i, Value.int v) ∈ P) (r : own_Go P b pc2 L (.int v :: S) pcE LE SE) : own_Go P b pc L S pcE LE SE := by
  intro tb _ e below T target m c h hx hy hP k; subst hpc; exact (hP _ hk (mkF m pc L S) target rfl).2.1 ⟨_, rfl⟩ (hb hy hd) (r tb e below T target m c h hx hy hP k)
theorem own_ldc2L {i : Nat} {v : Int64} {pc2 : Nat} (hd : decode b pc = .ok (.ldc2_w i, 3)) (hpc : pc + 3 = pc2) (hk : (i, Value.long v) ∈ P) (r : own_Go P b pc2 L (.long v :: S) pcE LE SE) : own_Go P b pc L S pcE LE SE := by
  intro tb _ e below T target m c h hx hy hP k; subst hpc; exact (hP _ hk (mkF m pc L S) target rfl).2.2 (Or.inl ⟨_, rfl⟩) (hb hy hd) (r tb e below T target m c h hx hy hP k)
theorem own_ldc2D {i : Nat} {v : UInt64} {pc2 : Nat} (hd : decode b pc = .ok (.ldc2_w i, 3)) (hpc : pc + 3 = pc2) (hk : (i, Value.double v) ∈ P) (r : own_Go P b pc2 L (.double v :: S) pcE LE SE) : own_Go P b pc L S pcE LE SE := by
  intro tb _ e below T target m c h hx hy hP k; subst hpc; exact (hP _ hk (mkF m pc L S) target rfl).2.2 (Or.inr ⟨_, rfl⟩) (hb hy hd) (r tb e below T target m c h hx hy hP k)
end OwnWalk
section OwnPool
open Jvm.Free Jvm.Stand
variable {p : Program} {l : Launch} {e : Env} {R : Room} {s : State} {m : MethodId} {args : Array Value} {below : List Frame} {meth : Method} {c : Code} {T : State} {locs : List Loc} {cells slots : Nat} {Z : State} {a0 : Array Value}
def own_Word (own : String) (i : Nat) : Value → Jvm.Cond → Prop
  | .int v, w => w = .constant own i v
  | .long v, w => w = .constantLong own i v
  | .double v, w => w = .constantDouble own i v
  | _, _ => False
theorem own_pool1 (X : Stand p l e R s m args below meth c T locs cells slots) (hx : p.tables.exec = Jvm.exec) (hZ : Z.Warmed39 s.vm) {own : String} (hown : s.vm.findClass own = some m.cls) {i : Nat} {v : Value} {w : Jvm.Cond} (hv : own_Word own i v w) (hw : w.before a0 Z = true) : own_Ldc p.tables e below T m c i v := by
  intro g target hg
  cases v with
  | int v =>
    cases (show w = .constant own i v from hv)
    exact ⟨fun _ hd k => X.ldcInt hx hown (mvT hZ hw) hg hd target k, fun _ hd k => X.ldcwInt hx hown (mvT hZ hw) hg hd target k, fun h => (by rcases h with ⟨_, h⟩ | ⟨_, h⟩ <;> cases h)⟩
  | long v =>
    cases (show w = .constantLong own i v from hv)
    exact ⟨fun h => (by obtain ⟨_, h⟩ := h; cases h), fun h => (by obtain ⟨_, h⟩ := h; cases h), fun _ hd k => X.ldc2Long hx hown (mvT hZ hw) hg hd target k⟩
  | double v =>
    cases (show w = .constantDouble own i v from hv)
    exact ⟨fun h => (by obtain ⟨_, h⟩ := h; cases h), fun h => (by obtain ⟨_, h⟩ := h; cases h), fun _ hd k => X.ldc2DoubleC hx hown (mvT hZ hw) hg hd target k⟩
  | _ => exact absurd hv (fun h => h)
theorem own_pool (X : Stand p l e R s m args below meth c T locs cells slots) (hx : p.tables.exec = Jvm.exec) (hZ : Z.Warmed39 s.vm) {own : String} (hown : s.vm.findClass own = some m.cls) {ws : List Jvm.Cond} (hw : ∀ d ∈ ws, d.before a0 Z = true) {P : List (Nat × Value)} (hP : ∀ q ∈ P, ∃ w ∈ ws, own_Word own q.1 q.2 w) : ∀ q ∈ P, own_Ldc p.tables e below T m c q.1 q.2 := by
  intro q hq
  obtain ⟨w, h1, h2⟩ := hP q hq
  exact own_pool1 X hx hZ hown h2 (hw w h1)
end OwnPool
/-! the call layer: a method that leaves the heap as it was, and its call -/
section OwnCall
open Jvm.Free Jvm.Stand Jvm.LawKit Jvm.RoadKit
variable {p : Program} {l : Launch} {e : Env} {R : Room} {s : State} {m : MethodId} {args : Array Value} {below : List Frame} {meth : Method} {c : Code} {T : State} {locs : List Loc} {cells slots : Nat} {Z : State} {a0 : Array Value} {h : Heap}
abbrev own_room (fr lo : Nat) : Room := { frames := fr, cells := 0, slots := 0, locals := lo }
def own_Pure (l : Launch) (Z : State) (y : MethodName) (bytes : ByteArray) (maxL : Nat) (ret : Option FieldType) (fr lo : Nat) (as' : Array Value) (h : Heap) (v : Option Value) : Prop :=
  MetFree l y (head1 [Jvm.Cond.code y bytes maxL ret] (own_room fr lo)) (fun a U => a = as' ∧ Z.Warmed39 U.vm ∧ U.heap = h) (fun _ _ _ _ _ => True) (fun _ U o U' => ∃ w L, o = .returned w ∧ (w = v ∧ L = [] ∧ U'.heap = h) ∧ FrameEnd U o U' L (own_room fr lo).cells (own_room fr lo).slots)
def own_Ret (i : Instr) (t : FieldType) (w : Value) : Prop := narrow t w = w ∧ ((i = .ireturn ∧ (t = .int ∨ t = .boolean ∨ t = .byte ∨ t = .char ∨ t = .short) ∧ ∃ z, w = .int z) ∨ (i = .lreturn ∧ t = .long ∧ ∃ z, w = .long z) ∨ (i = .dreturn ∧ t = .double ∧ ∃ z, w = .double z) ∨ (i = .freturn ∧ t = .float ∧ ∃ z, w = .float z) ∨ (i = .areturn ∧ t.isReference = true ∧ w.isRef = true))
theorem own_retD (x : UInt64) : own_Ret .dreturn .double (.double x) := ⟨rfl, Or.inr (Or.inr (Or.inl ⟨rfl, rfl, x, rfl⟩))⟩
theorem own_retI (x : Int32) : own_Ret .ireturn .int (.int x) := ⟨rfl, Or.inl ⟨rfl, Or.inl rfl, x, rfl⟩⟩
theorem own_retJ (x : Int64) : own_Ret .lreturn .long (.long x) := ⟨rfl, Or.inr (Or.inl ⟨rfl, rfl, x, rfl⟩)⟩
theorem own_retZ {x : Int32} (hx : x = 0 ∨ x = 1) : own_Ret .ireturn .boolean (.int x) := ⟨by rcases hx with rfl | rfl <;> rfl, Or.inl ⟨rfl, Or.inr (Or.inl rfl), x, rfl⟩⟩
theorem own_pure_go {y : MethodName} {bytes : ByteArray} {maxL : Nat} {t : FieldType} {as' : Array Value} {P : List (Nat × Value)} {L0 LR : Array Slot} {SR : List Value} {pcR : Nat} {val : Value} {i : Instr} {ws : List Jvm.Cond} (hpl : plainName y.cls = true) (hw : ∀ d ∈ ws, d.before a0 Z = true) (hP : ∀ q ∈ P, ∃ w ∈ ws, own_Word y.cls q.1 q.2 w)
    (hef : ∀ m, entryFrame m as' maxL = mkF m 0 L0 []) (body : own_Go P bytes 0 L0 [] pcR LR (val :: SR)) (hd : decode bytes pcR = .ok (i, 1)) (hr : own_Ret i t val) : own_Pure l Z y bytes maxL (some t) 0 0 as' h (some val) := by
  refine MetFree.of_bodySF (plainFor_of_name hpl) hisR ?_
  intro p e s m args below meth c s₁ Bd hml0 hPP hK
  obtain ⟨rfl, hZ, hh⟩ := hPP
  have hx := Bd.exec
  have hby := Bd.bytes
  have hown : s.vm.findClass y.cls = some m.cls := findClass_of_methodNamed Bd.named
  have X0 : Stand p l e (own_room 0 0) s m _ below meth c s₁ [] 0 0 := Stand.of_body Bd
  have e0 : s₁.heap = h := by rw [← hh, Bd.state]; rfl
  obtain ⟨fs, hr', hrun, hended, hW, hsame⟩ := X0.leave (v := some val) (fun h => by rw [Bd.returns] at h; cases h)
  refine ⟨_, _, castTop (hef m) (body p.tables e below s₁ _ m c X0.here hx hby (own_pool X0 hx hZ hown hw hP) (retOut X0 hx Bd.returns hr.1 hr.2 (hb hby hd) hr')), hrun, hended, _, _, rfl, ⟨rfl, rfl, ?_⟩, ⟨_, rfl⟩, hW, hsame⟩
  exact e0
theorem own_callP (X : Stand p l e R s m args below meth c T locs cells slots) (hx : p.tables.exec = Jvm.exec) (hZ : Z.Warmed39 s.vm) {own : String} {index : Nat} {y : MethodName} {bytes : ByteArray} {maxL : Nat} {ret : Option FieldType} (hown : s.vm.findClass own = some m.cls)
    (w1 : (Jvm.Cond.methodLink own index y).before a0 Z = true) (w2 : (Jvm.Cond.static y).before a0 Z = true) (w3 : (Jvm.Cond.initialized y.cls).before a0 Z = true) (w4 : (Jvm.Cond.code y bytes maxL ret).before a0 Z = true) (hy : y.cls ≠ "java/lang/invoke/MethodHandle" ∧ y.cls ≠ "java/lang/invoke/VarHandle")
    (eT : T.heap = h) {fr lo W : Nat} {argsL rest : List Value} {v : Option Value} (hM : own_Pure l Z y bytes maxL ret fr lo argsL.toArray h v) (hf : fr + 1 ≤ R.frames) (hl : W + (maxL + 11) + lo ≤ R.locals) (hc : cells ≤ R.cells) (hs : slots ≤ R.slots)
    {g : JFrame} (hg : g.method = m) (hsize : g.locals.size = c.maxLocals) (hlen : ∀ sig, parseMethodDescriptor y.desc = some sig → argsL.length = sig.parameters.length) (hst : g.stack = argsL.reverse ++ rest) (hW : 2 * g.monitorRoom + (rest.map fun v => v.category).sum ≤ W) (hd : decode c.code g.pc = .ok (.invokestatic index, 3)) :
    ∃ T', Stand p l e R s m args below meth c T' locs cells slots ∧ T'.heap = h ∧ ∀ target, Steps p.tables e below (T'.setTop { g with pc := g.pc + 3, stack := v.toList ++ rest }) target → Steps p.tables e below (T.setTop g) target := by
  obtain ⟨v', vm1, ⟨T2, L2, k2, n2⟩, -, X2, ⟨Lc, hQ, l2, y2, z2⟩, st⟩ := Jvm.LawKit.callS X hx hown (mvT hZ w1) (mvT hZ w2) (mvT hZ w3) (mvT hZ w4) hy (backOf (W := W) (rm := own_room fr lo) (Q := fun w H L => w = v ∧ L = [] ∧ H = h) hM hZ w4 w3 hf hl) hg hsize hlen hst hW hd (fun _ _ => ⟨rfl, eT, hc, hs⟩)
  dsimp only [Pt.U, Pt.locs, Pt.cells, Pt.slots] at X2 l2 y2 z2 st hQ
  obtain ⟨rfl, rfl, e2⟩ := hQ
  subst l2 y2 z2
  rw [List.append_nil] at X2
  exact ⟨T2, X2, e2, st⟩
end OwnCall
/-! the heap layer: own_Hp says what the cells made since the start hold; one rule a step -/
section OwnHeap
open Jvm.Free Jvm.Stand Jvm.LawKit Jvm.RoadKit
abbrev own_Cel := (String × List (String × String × String × Value)) ⊕ (FieldType × List Value)
abbrev own_O (C : String) (fs : List (String × String × String × Value)) : own_Cel := Sum.inl (C, fs)
abbrev own_A (ty : FieldType) (vs : List Value) : own_Cel := Sum.inr (ty, vs)
/-- what is known of an array's class -/
def own_AC (Z : State) (h : Heap) (a : Addr) (c : Cell) (ty : FieldType) : Prop :=
  match ty with
  | .object C => Ovr Z c.cls C
  | .array t => OvrA Z c.cls t (FieldType.array t).toString ∧ Exa Z h a ("[" ++ (FieldType.array t).toString)
  | t => Exa Z h a ("[" ++ t.toString)
theorem own_AC_map {Z : State} {h h' : Heap} {a : Addr} {c c' : Cell} {ty : FieldType} (hc : c'.cls = c.cls) (hE : ∀ C, Exa Z h a C → Exa Z h' a C) (H : own_AC Z h a c ty) : own_AC Z h' a c' ty := by
  cases ty <;> simp only [own_AC, hc] at H ⊢ <;> first | exact H | exact hE _ H | exact ⟨H.1, hE _ H.2⟩
def own_Is (Z : State) (a0 : Array Value) (h : Heap) (a : Addr) (q : own_Cel) : Prop :=
  match q with
  | .inl (C, fs) => Exa Z h a C ∧ (∀ f ∈ fs, Fld Z h a f.1 f.2.1 f.2.2.1 f.2.2.2 ∧ Laid Z a0 C f.1 f.2.1 f.2.2.1 ∧ ∃ t, parseFieldDescriptor f.2.2.1 = some t) ∧ (fs.map fun f => f.2.1).Nodup
  | .inr (ty, vs) => ∃ c : Cell, Arr Z h a c ty ∧ c.slots.toList = vs ∧ own_AC Z h a c ty
def own_Hp (Z : State) (a0 : Array Value) (hb h : Heap) (cs : List (Addr × own_Cel)) : Prop := Ext hb h ∧ (∀ q ∈ cs, own_Is Z a0 h q.1 q.2 ∧ hb.size ≤ q.1) ∧ (cs.map Prod.fst).Nodup
section Facts
variable {Z : State} {a0 : Array Value} {hb h h' : Heap} {cs : List (Addr × own_Cel)} {a b : Addr} {q : own_Cel}
theorem own_Is_lt (H : own_Is Z a0 h a q) : a < h.size := by
  match q, H with
  | .inl (C, fs), H => exact H.1.lt
  | .inr (ty, vs), ⟨c, A, _⟩ => exact A.lt
theorem own_Is_ext (E : Ext h h') (H : own_Is Z a0 h a q) : own_Is Z a0 h' a q := by
  match q, H with
  | .inl (C, fs), H => exact ⟨H.1.ext E, fun f hf => ⟨(H.2.1 f hf).1.ext E, (H.2.1 f hf).2⟩, H.2.2⟩
  | .inr (ty, vs), ⟨c, A, e⟩ => exact ⟨c, A.ext E, e.1, own_AC_map rfl (fun C F => F.ext E) e.2⟩
theorem own_Is_wr {sl : Nat} {v : Value} (W : Wr h h' b sl v) (hne : a ≠ b) (H : own_Is Z a0 h a q) : own_Is Z a0 h' a q := by
  match q, H with
  | .inl (C, fs), H => exact ⟨H.1.wr W, fun f hf => ⟨(H.2.1 f hf).1.other W (Or.inl hne), (H.2.1 f hf).2⟩, H.2.2⟩
  | .inr (ty, vs), ⟨c, A, e⟩ => exact ⟨c, A.other W hne, e.1, own_AC_map rfl (fun C F => F.wr W) e.2⟩
theorem own_ext_trans {h1 h2 h3 : Heap} (E : Ext h1 h2) (F : Ext h2 h3) : Ext h1 h3 := ⟨Nat.le_trans E.1 F.1, fun a c q => F.2 a c (E.2 a c q)⟩
theorem own_ext_refl (h1 : Heap) : Ext h1 h1 := ⟨Nat.le_refl _, fun _ _ q => q⟩
theorem own_ext_wr {sl : Nat} {v : Value} (E : Ext hb h) (W : Wr h h' b sl v) (hn : hb.size ≤ b) : Ext hb h' := by
  refine ⟨by rw [W.size]; exact E.1, fun x c q => ?_⟩
  have hx : x < hb.size := (Array.getElem?_eq_some_iff.mp q).1
  obtain ⟨cb, h1, -, -, -, h5, -⟩ := wr_at W (E.2 x c q)
  rw [h1, h5 (Nat.ne_of_lt (Nat.lt_of_lt_of_le hx hn))]
theorem own_Hp_start (Z : State) (a0 : Array Value) (hb : Heap) : own_Hp Z a0 hb hb [] := ⟨own_ext_refl hb, fun q hq => absurd hq List.not_mem_nil, List.nodup_nil⟩
theorem own_Hp_new (H : own_Hp Z a0 hb h cs) (E : Ext h h') (N : own_Is Z a0 h' h.size q) : own_Hp Z a0 hb h' (cs ++ [(h.size, q)]) := by
  refine ⟨own_ext_trans H.1 E, fun p hp => ?_, ?_⟩
  · rcases List.mem_append.mp hp with hp | hp
    · exact ⟨own_Is_ext E (H.2.1 p hp).1, (H.2.1 p hp).2⟩
    · cases List.mem_singleton.mp hp
      exact ⟨N, H.1.1⟩
  · rw [List.map_append, List.nodup_append]
    refine ⟨H.2.2, by simp, fun x hx y hy => ?_⟩
    simp only [List.map_cons, List.map_nil, List.mem_singleton] at hy
    subst hy
    obtain ⟨p, hp, rfl⟩ := List.mem_map.mp hx
    exact Nat.ne_of_lt (own_Is_lt (H.2.1 p hp).1)
theorem own_Hp_ext (H : own_Hp Z a0 hb h cs) (E : Ext h h') : own_Hp Z a0 hb h' cs :=
  ⟨own_ext_trans H.1 E, fun p hp => ⟨own_Is_ext E (H.2.1 p hp).1, (H.2.1 p hp).2⟩, H.2.2⟩
theorem own_get (H : own_Hp Z a0 hb h cs) {i : Nat} (hi : cs[i]? = some (a, q)) : own_Is Z a0 h a q ∧ hb.size ≤ a := H.2.1 _ (List.mem_of_getElem? hi)
theorem own_ne (H : own_Hp Z a0 hb h cs) {i j : Nat} {q' : own_Cel} (hi : cs[i]? = some (a, q)) (hj : cs[j]? = some (b, q')) (hne : i ≠ j) : a ≠ b := by
  rintro rfl
  have hN := H.2.2
  obtain ⟨hi1, hi2⟩ := List.getElem?_eq_some_iff.mp hi
  obtain ⟨hj1, hj2⟩ := List.getElem?_eq_some_iff.mp hj
  have := (List.getElem_inj (xs := cs.map Prod.fst) (i := i) (j := j) (h₀ := by simpa using hi1) (h₁ := by simpa using hj1) hN).mp (by simp [hi2, hj2])
  exact hne this
theorem own_Hp_set (H : own_Hp Z a0 hb h cs) {i : Nat} {q' : own_Cel} {sl : Nat} {v : Value} (hi : cs[i]? = some (a, q)) (W : Wr h h' a sl v) (N : own_Is Z a0 h' a q') : own_Hp Z a0 hb h' (cs.set i (a, q')) := by
  obtain ⟨hi1, hi2⟩ := List.getElem?_eq_some_iff.mp hi
  refine ⟨own_ext_wr H.1 W (own_get H hi).2, fun p hp => ?_, ?_⟩
  · obtain ⟨j, hj, rfl⟩ := List.mem_iff_getElem.mp hp
    rw [List.getElem_set]
    split
    · exact ⟨N, (own_get H hi).2⟩
    · rename_i hne
      have hj' : j < cs.length := by simpa using hj
      have hm := H.2.1 cs[j] (List.getElem_mem hj')
      refine ⟨own_Is_wr W ?_ hm.1, hm.2⟩
      intro e
      exact own_ne H hi (j := j) (b := cs[j].1) (q' := cs[j].2) (List.getElem?_eq_getElem hj') hne e.symm
  · rw [List.map_set, show (a, q').fst = (cs.map Prod.fst)[i]'(by simpa using hi1) by simp [hi2], List.set_getElem_self]
    exact H.2.2
theorem own_Is_fld {C : String} {fs : List (String × String × String × Value)} {j : Nat} {O n d : String} {old v : Value} (H : own_Is Z a0 h a (own_O C fs)) (hj : fs[j]? = some (O, n, d, old)) (W : Wr h h' a (RoadKit.slotOf Z O n d) v) : own_Is Z a0 h' a (own_O C (fs.set j (O, n, d, v))) := by
  obtain ⟨h1, h2, h3⟩ := H
  obtain ⟨hj1, hj2⟩ := List.getElem?_eq_some_iff.mp hj
  refine ⟨h1.wr W, fun f hf => ?_, ?_⟩
  · obtain ⟨k, hk, rfl⟩ := List.mem_iff_getElem.mp hf
    have hm := h2 _ (List.mem_of_getElem? hj)
    rw [List.getElem_set]
    split
    · exact ⟨hm.1.same W, hm.2⟩
    · rename_i hne
      have hk' : k < fs.length := by simpa using hk
      have hk2 := h2 fs[k] (List.getElem_mem hk')
      obtain ⟨t, ht⟩ := hk2.2.2
      obtain ⟨t', ht'⟩ := hm.2.2
      refine ⟨hk2.1.other W (Or.inr (slot_ne hk2.2.1 hm.2.1 (fun e => ?_) ht ht')), hk2.2⟩
      have := (List.getElem_inj (xs := fs.map fun f => f.2.1) (i := k) (j := j) (h₀ := by simpa using hk') (h₁ := by simpa using hj1) h3).mp (by simp [hj2]; exact e)
      exact hne this.symm
  · rw [List.map_set, show (O, n, d, v).2.1 = (fs.map fun f => f.2.1)[j]'(by simpa using hj1) by simp [hj2], List.set_getElem_self]
    exact h3
theorem own_Is_elt {ty : FieldType} {vs : List Value} {j : Nat} {v : Value} (H : own_Is Z a0 h a (own_A ty vs)) (W : Wr h h' a j v) : own_Is Z a0 h' a (own_A ty (vs.set j v)) := by
  obtain ⟨c, A, e⟩ := H
  refine ⟨_, A.same W, ?_, own_AC_map rfl (fun C F => F.wr W) e.2⟩
  rw [← e.1]
  simp [Cell.setSlot]
end Facts
def own_S (p : Program) (l : Launch) (e : Env) (R : Room) (s : State) (m : MethodId) (args : Array Value) (below : List Frame) (meth : Method) (c : Code) (Z : State) (a0 : Array Value) (hb : Heap) (T : State) (cs : List (Addr × own_Cel)) (k n : Nat) : Prop :=
  ∃ locs, Stand p l e R s m args below meth c T locs k n ∧ Fr hb.size locs ∧ own_Hp Z a0 hb T.heap cs
section Rules
variable {p : Program} {l : Launch} {e : Env} {R : Room} {s : State} {m : MethodId} {args : Array Value} {below : List Frame} {meth : Method} {c : Code} {T : State} {Z : State} {a0 : Array Value} {hb : Heap} {cs : List (Addr × own_Cel)} {k n : Nat}
theorem own_go (H : own_S p l e R s m args below meth c Z a0 hb T cs k n) (hx : p.tables.exec = Jvm.exec) (hZ : Z.Warmed39 s.vm) {own : String} (hown : s.vm.findClass own = some m.cls) {bytes : ByteArray} (hby : c.code = bytes) {ws : List Jvm.Cond} (hw : ∀ d ∈ ws, d.before a0 Z = true) {P : List (Nat × Value)} (hP : ∀ q ∈ P, ∃ w ∈ ws, own_Word own q.1 q.2 w)
    {pc pc' : Nat} {L L' : Array Slot} {S S' : List Value} (r : own_Go P bytes pc L S pc' L' S') : ∀ target, Steps p.tables e below (T.setTop (mkF m pc' L' S')) target → Steps p.tables e below (T.setTop (mkF m pc L S)) target := by
  obtain ⟨locs, X, -, -⟩ := H
  exact fun target q => r p.tables e below T target m c X.here hx hby (own_pool X hx hZ hown hw hP) q
theorem own_newO (H : own_S p l e R s m args below meth c Z a0 hb T cs k n) (hx : p.tables.exec = Jvm.exec) (hZ : Z.Warmed39 s.vm) {own C : String} {index nn : Nat} (hown : s.vm.findClass own = some m.cls) (w : (Jvm.Cond.classLink own index C).before a0 Z = true) (wi : (Jvm.Cond.instantiable C nn).before a0 Z = true) (wz : (Jvm.Cond.initialized C).before a0 Z = true)
    (fs : List (String × String × String × Value)) (hfs : ∀ f ∈ fs, Laid Z a0 C f.1 f.2.1 f.2.2.1 ∧ ∃ t, parseFieldDescriptor f.2.2.1 = some t ∧ defaultValue t = f.2.2.2) (hN : (fs.map fun f => f.2.1).Nodup)
    {g : JFrame} (hg : g.method = m) (hd : decode c.code g.pc = .ok (.new index, 3)) (hc : k + 1 ≤ R.cells) (hl : n + nn ≤ R.slots) :
    ∃ T' x, own_S p l e R s m args below meth c Z a0 hb T' (cs ++ [(x, own_O C fs)]) (k + 1) (n + nn) ∧ ∀ target, Steps p.tables e below (T'.setTop { g with pc := g.pc + 3, stack := .ref x :: g.stack }) target → Steps p.tables e below (T.setTop g) target := by
  obtain ⟨locs, X, N, hH⟩ := H
  obtain ⟨T', h', X', e', E, A, D, -, st⟩ := newO X hx hZ hown w wi wz rfl hg hd hc hl
  refine ⟨T', T.heap.size, ⟨locs, X', N, ?_⟩, st⟩
  rw [e']
  refine own_Hp_new hH E ⟨A, fun f hf => ?_, hN⟩
  obtain ⟨h1, t, h2, h3⟩ := hfs f hf
  exact ⟨h3 ▸ D h1 h2, h1, t, h2⟩
theorem own_newA (H : own_S p l e R s m args below meth c Z a0 hb T cs k n) (hx : p.tables.exec = Jvm.exec) (hZ : Z.Warmed39 s.vm) {aty : ArrayType} (w : (Jvm.Cond.arrayClass (newarray.typeOf aty)).before a0 Z = true) {g : JFrame} (hg : g.method = m) (hd : decode c.code g.pc = .ok (.newarray aty, 2)) {z : Int32} {rest : List Value} (hs : g.stack = .int z :: rest)
    (hn : ¬ z < 0) {cap : Nat} (hcap : z.toNatClampNeg ≤ cap) (hb8 : cap * 8 ≤ 536870912) (hc : k + 1 ≤ R.cells) (hl : n + cap ≤ R.slots) :
    ∃ T' x, own_S p l e R s m args below meth c Z a0 hb T' (cs ++ [(x, own_A (newarray.typeOf aty) (List.replicate z.toNatClampNeg (defaultValue (newarray.typeOf aty))))]) (k + 1) (n + cap) ∧ ∀ target, Steps p.tables e below (T'.setTop { g with pc := g.pc + 2, stack := .ref x :: rest }) target → Steps p.tables e below (T.setTop g) target := by
  obtain ⟨locs, X, N, hH⟩ := H
  obtain ⟨T', h', cA, X', e', E, A, F, st⟩ := newPE X hx hZ w rfl hg hd hs hn hcap hb8 hc hl rfl
  refine ⟨T', T.heap.size, ⟨locs, X', N, ?_⟩, st⟩
  rw [e']
  exact own_Hp_new hH E ⟨_, A, by simp [newA], by cases aty <;> exact F⟩
theorem own_getF (H : own_S p l e R s m args below meth c Z a0 hb T cs k n) (hx : p.tables.exec = Jvm.exec) (hZ : Z.Warmed39 s.vm) {own O nm d : String} {index : Nat} (hown : s.vm.findClass own = some m.cls) (w : (Jvm.Cond.fieldLink own index O nm d).before a0 Z = true)
    {x : Addr} {C : String} {fs : List (String × String × String × Value)} {v : Value} (i j : Nat) (hi : cs[i]? = some (x, own_O C fs)) (hj : fs[j]? = some (O, nm, d, v)) {g : JFrame} (hg : g.method = m) {rest : List Value} (hs : g.stack = .ref x :: rest) (hd : decode c.code g.pc = .ok (.getfield index, 3)) :
    ∃ T', own_S p l e R s m args below meth c Z a0 hb T' cs k n ∧ ∀ target, Steps p.tables e below (T'.setTop { g with pc := g.pc + 3, stack := v :: rest }) target → Steps p.tables e below (T.setTop g) target := by
  obtain ⟨locs, X, N, hH⟩ := H
  have F := ((own_get hH hi).1.2.1 _ (List.mem_of_getElem? hj)).1
  obtain ⟨T', X', e', st⟩ := getF X hx hZ hown (host := "") (Or.inl w) Via.refl rfl F hg hs hd
  exact ⟨T', ⟨locs, X', N, e' ▸ hH⟩, st⟩
theorem own_putF (H : own_S p l e R s m args below meth c Z a0 hb T cs k n) (hx : p.tables.exec = Jvm.exec) (hZ : Z.Warmed39 s.vm) {own O nm d : String} {index kk : Nat} {ty : FieldType} (hown : s.vm.findClass own = some m.cls) (w : (Jvm.Cond.fieldLink own index O nm d).before a0 Z = true)
    {x : Addr} {C : String} {fs : List (String × String × String × Value)} {v old : Value} (i j : Nat) (hi : cs[i]? = some (x, own_O C fs)) (hj : fs[j]? = some (O, nm, d, old)) (L : (Jvm.Cond.lays C O nm d).before a0 Z = true ∨ ((Jvm.Cond.laysFinal C O nm d).before a0 Z = true ∧ own = O ∧ meth.name = "<init>")) (wi : (Jvm.Cond.instantiable C kk).before a0 Z = true)
    (hty : parseFieldDescriptor d = some ty) (hn : narrow ty v = v) (hf : fits ty v = true) {g : JFrame} (hg : g.method = m) {rest : List Value} (hs : g.stack = v :: .ref x :: rest) (hd : decode c.code g.pc = .ok (.putfield index, 3)) :
    ∃ T', own_S p l e R s m args below meth c Z a0 hb T' (cs.set i (x, own_O C (fs.set j (O, nm, d, v)))) k n ∧ ∀ target, Steps p.tables e below (T'.setTop { g with pc := g.pc + 3, stack := rest }) target → Steps p.tables e below (T.setTop g) target := by
  obtain ⟨locs, X, N, hH⟩ := H
  have I := own_get hH hi
  have F := (I.1.2.1 _ (List.mem_of_getElem? hj)).1
  obtain ⟨T', h', X', e', W, st⟩ := putF X hx hZ hown (host := "") (Or.inl w) Via.refl rfl F I.1.1 L wi hty hn hf hg hs hd
  refine ⟨T', ⟨_, X', Fr.snoc X' N I.2, ?_⟩, st⟩
  rw [e']
  exact own_Hp_set hH hi W (own_Is_fld I.1 hj W)
theorem own_initO (H : own_S p l e R s m args below meth c Z a0 hb T cs k n) (hx : p.tables.exec = Jvm.exec) (hZ : Z.Warmed39 s.vm) {own : String} {idx : Nat} (hown : s.vm.findClass own = some m.cls) (w1 : (Jvm.Cond.methodLink own idx Lib.objectInit).before a0 Z = true) (w2 : (Jvm.Cond.instanceMethod Lib.objectInit).before a0 Z = true)
    (w3 : (Jvm.Cond.code Lib.objectInit ⟨#[0xb1]⟩ 1 none).before a0 Z = true) {g : JFrame} (hg : g.method = m) (hsize : g.locals.size = c.maxLocals) {a : Addr} {rest : List Value} (hs : g.stack = .ref a :: rest) (hd : decode c.code g.pc = .ok (.invokespecial idx, 3))
    (hf : 1 ≤ R.frames) {W : Nat} (hW : 2 * g.monitorRoom + (rest.map fun v => v.category).sum ≤ W) (hl : W + 12 ≤ R.locals) :
    ∃ T', own_S p l e R s m args below meth c Z a0 hb T' cs k n ∧ ∀ target, Steps p.tables e below (T'.setTop { g with pc := g.pc + 3, stack := rest }) target → Steps p.tables e below (T.setTop g) target := by
  obtain ⟨locs, X, N, hH⟩ := H
  obtain ⟨T', X', e', st⟩ := initO X hx hZ hown w1 w2 w3 rfl hg hsize hs hd hf hW hl
  exact ⟨T', ⟨locs, X', N, e' ▸ hH⟩, st⟩
theorem own_idx {j : Int32} {vs : List Value} {cl : Cell} (e : cl.slots.toList = vs) (h0 : 0 ≤ j.toInt) (h1 : j.toInt < vs.length) : ¬ (j < 0 ∨ cl.slots.size ≤ j.toNatClampNeg) := by
  have hl : cl.slots.size = vs.length := by rw [← e]; simp
  rintro (q | q)
  · rw [Int32.lt_iff_toInt_lt] at q; rw [show (0 : Int32).toInt = 0 from rfl] at q; omega
  · have : j.toNatClampNeg = j.toInt.toNat := rfl
    omega
theorem own_at_idx {j : Int32} {vs : List Value} {cl : Cell} {v : Value} (e : cl.slots.toList = vs) {i : Nat} (hi : j.toInt = i) (hv : vs[i]? = some v) : cl.slots[j.toNatClampNeg]? = some v := by
  have : j.toNatClampNeg = i := by show j.toInt.toNat = i; omega
  rw [this, ← Array.getElem?_toList, e]; exact hv
theorem own_daload (H : own_S p l e R s m args below meth c Z a0 hb T cs k n) (hx : p.tables.exec = Jvm.exec) (hZ : Z.Warmed39 s.vm) {x : Addr} {vs : List Value} {j : Int32} {v : Value} (i jj : Nat) (hi : cs[i]? = some (x, own_A .double vs)) (hj : j.toInt = jj) (hv : vs[jj]? = some v)
    {g : JFrame} (hg : g.method = m) {rest : List Value} (hs : g.stack = .int j :: .ref x :: rest) (hd : decode c.code g.pc = .ok (.daload, 1)) :
    ∀ target, Steps p.tables e below (T.setTop { g with pc := g.pc + 1, stack := v :: rest }) target → Steps p.tables e below (T.setTop g) target := by
  obtain ⟨locs, X, N, hH⟩ := H
  obtain ⟨cl, A, hc, -⟩ := (own_get hH hi).1
  have hlt : jj < vs.length := (List.getElem?_eq_some_iff.mp hv).1
  exact fun target q => X.daload hx A.1 (State.isArrayOf_alike hZ.alike A.2.1) A.2.2 (own_idx hc (by omega) (by omega)) (own_at_idx hc hj hv) hg hs hd target q
theorem own_iaload (H : own_S p l e R s m args below meth c Z a0 hb T cs k n) (hx : p.tables.exec = Jvm.exec) (hZ : Z.Warmed39 s.vm) {x : Addr} {vs : List Value} {j : Int32} {v : Value} (i jj : Nat) (hi : cs[i]? = some (x, own_A .int vs)) (hj : j.toInt = jj) (hv : vs[jj]? = some v)
    {g : JFrame} (hg : g.method = m) {rest : List Value} (hs : g.stack = .int j :: .ref x :: rest) (hd : decode c.code g.pc = .ok (.iaload, 1)) :
    ∀ target, Steps p.tables e below (T.setTop { g with pc := g.pc + 1, stack := v :: rest }) target → Steps p.tables e below (T.setTop g) target := by
  obtain ⟨locs, X, N, hH⟩ := H
  obtain ⟨cl, A, hc, -⟩ := (own_get hH hi).1
  have hlt : jj < vs.length := (List.getElem?_eq_some_iff.mp hv).1
  exact fun target q => X.iaload hx A.1 (State.isArrayOf_alike hZ.alike A.2.1) A.2.2 (own_idx hc (by omega) (by omega)) (own_at_idx hc hj hv) hg hs hd target q
theorem own_laload (H : own_S p l e R s m args below meth c Z a0 hb T cs k n) (hx : p.tables.exec = Jvm.exec) (hZ : Z.Warmed39 s.vm) {x : Addr} {vs : List Value} {j : Int32} {v : Value} (i jj : Nat) (hi : cs[i]? = some (x, own_A .long vs)) (hj : j.toInt = jj) (hv : vs[jj]? = some v)
    {g : JFrame} (hg : g.method = m) {rest : List Value} (hs : g.stack = .int j :: .ref x :: rest) (hd : decode c.code g.pc = .ok (.laload, 1)) :
    ∀ target, Steps p.tables e below (T.setTop { g with pc := g.pc + 1, stack := v :: rest }) target → Steps p.tables e below (T.setTop g) target := by
  obtain ⟨locs, X, N, hH⟩ := H
  obtain ⟨cl, A, hc, -⟩ := (own_get hH hi).1
  have hlt : jj < vs.length := (List.getElem?_eq_some_iff.mp hv).1
  exact fun target q => X.laload hx A.1 (State.isArrayOf_alike hZ.alike A.2.1) A.2.2 (own_idx hc (by omega) (by omega)) (own_at_idx hc hj hv) hg hs hd target q
theorem own_aaload (H : own_S p l e R s m args below meth c Z a0 hb T cs k n) (hx : p.tables.exec = Jvm.exec) (hZ : Z.Warmed39 s.vm) {x : Addr} {ty : FieldType} {vs : List Value} {j : Int32} {v : Value} (i jj : Nat) (hi : cs[i]? = some (x, own_A ty vs)) (hty : ty.isReference = true) (hj : j.toInt = jj) (hv : vs[jj]? = some v)
    {g : JFrame} (hg : g.method = m) {rest : List Value} (hs : g.stack = .int j :: .ref x :: rest) (hd : decode c.code g.pc = .ok (.aaload, 1)) :
    ∀ target, Steps p.tables e below (T.setTop { g with pc := g.pc + 1, stack := v :: rest }) target → Steps p.tables e below (T.setTop g) target := by
  obtain ⟨locs, X, N, hH⟩ := H
  obtain ⟨cl, A, hc, -⟩ := (own_get hH hi).1
  have hlt : jj < vs.length := (List.getElem?_eq_some_iff.mp hv).1
  exact fun target q => X.aaload hx A.1 (State.isArrayOf_alike hZ.alike A.2.1) hty A.2.2 (own_idx hc (by omega) (by omega)) (own_at_idx hc hj hv) hg hs hd target q
theorem own_arrlen (H : own_S p l e R s m args below meth c Z a0 hb T cs k n) (hx : p.tables.exec = Jvm.exec) (hZ : Z.Warmed39 s.vm) {x : Addr} {ty : FieldType} {vs : List Value} (i : Nat) (hi : cs[i]? = some (x, own_A ty vs)) {z : Int32} (hz : vs.length.toInt32 = z)
    {g : JFrame} (hg : g.method = m) {rest : List Value} (hs : g.stack = .ref x :: rest) (hd : decode c.code g.pc = .ok (.arraylength, 1)) :
    ∀ target, Steps p.tables e below (T.setTop { g with pc := g.pc + 1, stack := .int z :: rest }) target → Steps p.tables e below (T.setTop g) target := by
  obtain ⟨locs, X, N, hH⟩ := H
  obtain ⟨cl, A, hc, -⟩ := (own_get hH hi).1
  have hl : cl.slots.size = vs.length := by rw [← hc]; simp
  refine fun target q => X.arraylength hx A.1 (State.isArrayOf_alike hZ.alike A.2.1) hg hs hd target ?_
  rw [hl, hz]; exact q
theorem own_dastore (H : own_S p l e R s m args below meth c Z a0 hb T cs k n) (hx : p.tables.exec = Jvm.exec) (hZ : Z.Warmed39 s.vm) {x : Addr} {vs : List Value} {j : Int32} {v : UInt64} (i jj : Nat) (hi : cs[i]? = some (x, own_A .double vs)) (hj : j.toInt = jj) (hlt : jj < vs.length)
    {g : JFrame} (hg : g.method = m) {rest : List Value} (hs : g.stack = .double v :: .int j :: .ref x :: rest) (hd : decode c.code g.pc = .ok (.dastore, 1)) :
    ∃ T', own_S p l e R s m args below meth c Z a0 hb T' (cs.set i (x, own_A .double (vs.set jj (.double v)))) k n ∧ ∀ target, Steps p.tables e below (T'.setTop { g with pc := g.pc + 1, stack := rest }) target → Steps p.tables e below (T.setTop g) target := by
  obtain ⟨locs, X, N, hH⟩ := H
  have I := own_get hH hi
  obtain ⟨cl, A, hc, -⟩ := I.1
  obtain ⟨T', h', X', e', W, st⟩ := stD X hx hZ rfl A (own_idx hc (by omega) (by omega)) hg hs hd
  have hjj : j.toNatClampNeg = jj := by show j.toInt.toNat = jj; omega
  rw [hjj] at W
  refine ⟨T', ⟨_, X', Fr.snoc X' N I.2, ?_⟩, st⟩
  rw [e']
  exact own_Hp_set hH hi W (own_Is_elt I.1 W)
theorem own_iastore (H : own_S p l e R s m args below meth c Z a0 hb T cs k n) (hx : p.tables.exec = Jvm.exec) (hZ : Z.Warmed39 s.vm) {x : Addr} {vs : List Value} {j : Int32} {v : Int32} (i jj : Nat) (hi : cs[i]? = some (x, own_A .int vs)) (hj : j.toInt = jj) (hlt : jj < vs.length)
    {g : JFrame} (hg : g.method = m) {rest : List Value} (hs : g.stack = .int v :: .int j :: .ref x :: rest) (hd : decode c.code g.pc = .ok (.iastore, 1)) :
    ∃ T', own_S p l e R s m args below meth c Z a0 hb T' (cs.set i (x, own_A .int (vs.set jj (.int v)))) k n ∧ ∀ target, Steps p.tables e below (T'.setTop { g with pc := g.pc + 1, stack := rest }) target → Steps p.tables e below (T.setTop g) target := by
  obtain ⟨locs, X, N, hH⟩ := H
  have I := own_get hH hi
  obtain ⟨cl, A, hc, -⟩ := I.1
  obtain ⟨T', h', X', e', W, st⟩ := stI X hx hZ rfl A (own_idx hc (by omega) (by omega)) hg hs hd
  have hjj : j.toNatClampNeg = jj := by show j.toInt.toNat = jj; omega
  rw [hjj] at W
  refine ⟨T', ⟨_, X', Fr.snoc X' N I.2, ?_⟩, st⟩
  rw [e']
  exact own_Hp_set hH hi W (own_Is_elt I.1 W)
theorem own_lastore (H : own_S p l e R s m args below meth c Z a0 hb T cs k n) (hx : p.tables.exec = Jvm.exec) (hZ : Z.Warmed39 s.vm) {x : Addr} {vs : List Value} {j : Int32} {v : Int64} (i jj : Nat) (hi : cs[i]? = some (x, own_A .long vs)) (hj : j.toInt = jj) (hlt : jj < vs.length)
    {g : JFrame} (hg : g.method = m) {rest : List Value} (hs : g.stack = .long v :: .int j :: .ref x :: rest) (hd : decode c.code g.pc = .ok (.lastore, 1)) :
    ∃ T', own_S p l e R s m args below meth c Z a0 hb T' (cs.set i (x, own_A .long (vs.set jj (.long v)))) k n ∧ ∀ target, Steps p.tables e below (T'.setTop { g with pc := g.pc + 1, stack := rest }) target → Steps p.tables e below (T.setTop g) target := by
  obtain ⟨locs, X, N, hH⟩ := H
  have I := own_get hH hi
  obtain ⟨cl, A, hc, -⟩ := I.1
  obtain ⟨T', h', X', e', W, st⟩ := stJ X hx hZ rfl A (own_idx hc (by omega) (by omega)) hg hs hd
  have hjj : j.toNatClampNeg = jj := by show j.toInt.toNat = jj; omega
  rw [hjj] at W
  refine ⟨T', ⟨_, X', Fr.snoc X' N I.2, ?_⟩, st⟩
  rw [e']
  exact own_Hp_set hH hi W (own_Is_elt I.1 W)
theorem own_aastore (H : own_S p l e R s m args below meth c Z a0 hb T cs k n) (hx : p.tables.exec = Jvm.exec) (hZ : Z.Warmed39 s.vm) {x y : Addr} {t ty : FieldType} {vs ws : List Value} {j : Int32} (i iy jj : Nat) (hi : cs[i]? = some (x, own_A (.array t) vs)) (hy : cs[iy]? = some (y, own_A ty ws)) (hE : ∀ h c, own_AC Z h y c ty → Exa Z h y (FieldType.array t).toString) (hj : j.toInt = jj) (hlt : jj < vs.length)
    {g : JFrame} (hg : g.method = m) {rest : List Value} (hs : g.stack = .ref y :: .int j :: .ref x :: rest) (hd : decode c.code g.pc = .ok (.aastore, 1)) :
    ∃ T', own_S p l e R s m args below meth c Z a0 hb T' (cs.set i (x, own_A (.array t) (vs.set jj (.ref y)))) k n ∧ ∀ target, Steps p.tables e below (T'.setTop { g with pc := g.pc + 1, stack := rest }) target → Steps p.tables e below (T.setTop g) target := by
  obtain ⟨locs, X, N, hH⟩ := H
  have I := own_get hH hi
  obtain ⟨cl, A, hc, hO⟩ := I.1
  obtain ⟨cy, Ay, -, hF⟩ := (own_get hH hy).1
  obtain ⟨T', h', X', e', W, st⟩ := stR X hx hZ rfl A (own_idx hc (by omega) (by omega)) rfl (Sto.ofVA A rfl hO.1 (Ins.self (hE _ _ hF))) hg hs hd
  have hjj : j.toNatClampNeg = jj := by show j.toInt.toNat = jj; omega
  rw [hjj] at W
  refine ⟨T', ⟨_, X', Fr.snoc X' N I.2, ?_⟩, st⟩
  rw [e']
  exact own_Hp_set hH hi W (own_Is_elt I.1 W)
theorem own_newRA (H : own_S p l e R s m args below meth c Z a0 hb T cs k n) (hx : p.tables.exec = Jvm.exec) (hZ : Z.Warmed39 s.vm) {own C : String} {ty : FieldType} {index : Nat} (hown : s.vm.findClass own = some m.cls) (hC : (FieldType.array ty).toString = C) (w1 : (Jvm.Cond.classLink own index C).before a0 Z = true) (w2 : (Jvm.Cond.arrayOver (.array ty)).before a0 Z = true)
    {g : JFrame} (hg : g.method = m) (hd : decode c.code g.pc = .ok (.anewarray index, 3)) {z : Int32} {rest : List Value} (hs : g.stack = .int z :: rest) (hn : ¬ z < 0) {cap : Nat} (hcap : z.toNatClampNeg ≤ cap) (hb8 : cap * 8 ≤ 536870912) (hc : k + 1 ≤ R.cells) (hl : n + cap ≤ R.slots) :
    ∃ T' x, own_S p l e R s m args below meth c Z a0 hb T' (cs ++ [(x, own_A (.array ty) (List.replicate z.toNatClampNeg .null))]) (k + 1) (n + cap) ∧ ∀ target, Steps p.tables e below (T'.setTop { g with pc := g.pc + 3, stack := .ref x :: rest }) target → Steps p.tables e below (T.setTop g) target := by
  obtain ⟨locs, X, N, hH⟩ := H
  obtain ⟨T', h', cA, X', e', E, A, F, O, st⟩ := newRA X hx hZ hown hC w1 w2 rfl hg hd hs hn hcap hb8 hc hl rfl
  subst hC
  refine ⟨T', T.heap.size, ⟨locs, X', N, ?_⟩, st⟩
  rw [e']
  exact own_Hp_new hH E ⟨_, A, by simp [newA, defaultValue], O, F⟩
theorem own_cloneA (H : own_S p l e R s m args below meth c Z a0 hb T cs k n) (hx : p.tables.exec = Jvm.exec) (hZ : Z.Warmed39 s.vm) {own ad : String} {index : Nat} (hown : s.vm.findClass own = some m.cls)
    (w1 : (Jvm.Cond.methodLink own index ⟨ad, "clone", "()Ljava/lang/Object;"⟩).before a0 Z = true) (w2 : (Jvm.Cond.sameMethod ad "java/lang/Object" "clone" "()Ljava/lang/Object;").before a0 Z = true) (w3 : (Jvm.Cond.native ⟨"java/lang/Object", "clone", "()Ljava/lang/Object;"⟩).before a0 Z = true)
    (w4 : (Jvm.Cond.instanceMethod ⟨"java/lang/Object", "clone", "()Ljava/lang/Object;"⟩).before a0 Z = true) (w5 : (Jvm.Cond.selects ad ⟨ad, "clone", "()Ljava/lang/Object;"⟩ ⟨"java/lang/Object", "clone", "()Ljava/lang/Object;"⟩).before a0 Z = true) (w6 : (Jvm.Cond.castable ad "java/lang/Cloneable").before a0 Z = true)
    {x : Addr} {ty : FieldType} {vs : List Value} (i : Nat) (hi : cs[i]? = some (x, own_A ty vs)) (hE : ∀ h x c, own_AC Z h x c ty → Exa Z h x ad) (hA : ∀ h x c, Exa Z h x ad → own_AC Z h x c ty) (hfit : ∀ v ∈ vs, fits ty v = true)
    {g : JFrame} (hg : g.method = m) (hsize : g.locals.size = c.maxLocals) {rest : List Value} (hs : g.stack = .ref x :: rest) (hd : decode c.code g.pc = .ok (.invokevirtual index, 3))
    (hf : 1 ≤ R.frames) {W cap : Nat} (hW : 2 * g.monitorRoom + (rest.map fun v => v.category).sum ≤ W) (hl : W + 14 ≤ R.locals) (hcap : vs.length ≤ cap) (hc : k + 1 ≤ R.cells) (hsl : n + cap ≤ R.slots) :
    ∃ T' y, own_S p l e R s m args below meth c Z a0 hb T' (cs ++ [(y, own_A ty vs)]) (k + 1) (n + cap) ∧ ∀ target, Steps p.tables e below (T'.setTop { g with pc := g.pc + 3, stack := .ref y :: rest }) target → Steps p.tables e below (T.setTop g) target := by
  obtain ⟨locs, X, N, hH⟩ := H
  obtain ⟨cl, A, hc', hF⟩ := (own_get hH hi).1
  have FC : FitC Z cl := fitC_of A fun i hi v hv => hfit v (by rw [← hc']; rw [← Array.getElem?_toList] at hv; exact List.mem_of_getElem? hv)
  have hlen : cl.slots.size = vs.length := by rw [← hc']; simp
  obtain ⟨T', h', X', e', E, A', F', st⟩ := cloneA X hx hZ hown w1 w2 w3 w4 w5 w6 rfl A (hE _ _ _ hF) FC hg hsize hs hd hf hW hl (by rw [hlen]; exact hcap) hc hsl
  refine ⟨T', T.heap.size, ⟨locs, X', N, ?_⟩, st⟩
  rw [e']
  exact own_Hp_new hH E ⟨_, A', hc', hA _ _ _ F'⟩
theorem own_castA (H : own_S p l e R s m args below meth c Z a0 hb T cs k n) (hx : p.tables.exec = Jvm.exec) (hZ : Z.Warmed39 s.vm) {own ad : String} {index : Nat} (hown : s.vm.findClass own = some m.cls) (w : (Jvm.Cond.classLink own index ad).before a0 Z = true)
    {x : Addr} {ty : FieldType} {vs : List Value} (i : Nat) (hi : cs[i]? = some (x, own_A ty vs)) (hE : ∀ h x c, own_AC Z h x c ty → Exa Z h x ad) {g : JFrame} (hg : g.method = m) {rest : List Value} (hs : g.stack = .ref x :: rest) (hd : decode c.code g.pc = .ok (.checkcast index, 3)) :
    ∃ T', own_S p l e R s m args below meth c Z a0 hb T' cs k n ∧ ∀ target, Steps p.tables e below (T'.setTop { g with pc := g.pc + 3 }) target → Steps p.tables e below (T.setTop g) target := by
  obtain ⟨locs, X, N, hH⟩ := H
  obtain ⟨cl, A, -, hF⟩ := (own_get hH hi).1
  obtain ⟨T', X', e', st⟩ := castY X hx hZ hown w rfl (Ins.self (hE _ _ _ hF)) hg hs hd
  exact ⟨T', ⟨locs, X', N, e' ▸ hH⟩, st⟩
theorem own_castO (H : own_S p l e R s m args below meth c Z a0 hb T cs k n) (hx : p.tables.exec = Jvm.exec) (hZ : Z.Warmed39 s.vm) {own C : String} {index : Nat} (hown : s.vm.findClass own = some m.cls) (w : (Jvm.Cond.classLink own index C).before a0 Z = true)
    {x : Addr} {fs : List (String × String × String × Value)} (i : Nat) (hi : cs[i]? = some (x, own_O C fs)) {g : JFrame} (hg : g.method = m) {rest : List Value} (hs : g.stack = .ref x :: rest) (hd : decode c.code g.pc = .ok (.checkcast index, 3)) :
    ∃ T', own_S p l e R s m args below meth c Z a0 hb T' cs k n ∧ ∀ target, Steps p.tables e below (T'.setTop { g with pc := g.pc + 3 }) target → Steps p.tables e below (T.setTop g) target := by
  obtain ⟨locs, X, N, hH⟩ := H
  obtain ⟨T', X', e', st⟩ := castY X hx hZ hown w rfl (Ins.self (own_get hH hi).1.1) hg hs hd
  exact ⟨T', ⟨locs, X', N, e' ▸ hH⟩, st⟩
theorem own_instO (H : own_S p l e R s m args below meth c Z a0 hb T cs k n) (hx : p.tables.exec = Jvm.exec) (hZ : Z.Warmed39 s.vm) {own C : String} {index : Nat} (hown : s.vm.findClass own = some m.cls) (w : (Jvm.Cond.classLink own index C).before a0 Z = true)
    {x : Addr} {fs : List (String × String × String × Value)} (i : Nat) (hi : cs[i]? = some (x, own_O C fs)) {g : JFrame} (hg : g.method = m) {rest : List Value} (hs : g.stack = .ref x :: rest) (hd : decode c.code g.pc = .ok (.instanceof index, 3)) :
    ∃ T', own_S p l e R s m args below meth c Z a0 hb T' cs k n ∧ ∀ target, Steps p.tables e below (T'.setTop { g with pc := g.pc + 3, stack := .int 1 :: rest }) target → Steps p.tables e below (T.setTop g) target := by
  obtain ⟨locs, X, N, hH⟩ := H
  obtain ⟨T', X', e', st⟩ := instY X hx hZ hown w rfl (Ins.self (own_get hH hi).1.1) hg hs hd
  exact ⟨T', ⟨locs, X', N, e' ▸ hH⟩, st⟩
end Rules
/-- what a method does: from the cells cs and these arguments it returns a value and leaves cells of which Q holds -/
def own_Met (l : Launch) (Z : State) (a0 : Array Value) (hb : Heap) (y : MethodName) (bytes : ByteArray) (maxL : Nat) (ret : Option FieldType) (ws : List Jvm.Cond) (rm : Room) (as' : Array Value) (cs : List (Addr × own_Cel)) (Q : Option Value → List (Addr × own_Cel) → Prop) : Prop :=
  ∀ h, own_Hp Z a0 hb h cs → MetFree l y (head1 (Jvm.Cond.code y bytes maxL ret :: ws) rm) (fun a U => a = as' ∧ Z.Warmed39 U.vm ∧ U.heap = h) (fun _ _ _ _ _ => True) (fun _ U o U' => ∃ w L, o = .returned w ∧ (Fr hb.size L ∧ ∃ cs', Q w cs' ∧ own_Hp Z a0 hb U'.heap cs') ∧ FrameEnd U o U' L rm.cells rm.slots)
/-- from the frame g the method runs to its return -/
def own_Ends (p : Program) (l : Launch) (e : Env) (R : Room) (s : State) (m : MethodId) (args : Array Value) (below : List Frame) (meth : Method) (c : Code) (Z : State) (a0 : Array Value) (hb : Heap) (bytes : ByteArray) (ret : Option FieldType) (Q : Option Value → List (Addr × own_Cel) → Prop) (T : State) (g : JFrame) : Prop :=
  ∃ T' cs' k n pc L, own_S p l e R s m args below meth c Z a0 hb T' cs' k n ∧ k ≤ R.cells ∧ n ≤ R.slots ∧
    ((ret = none ∧ Q none cs' ∧ decode bytes pc = .ok (.return_, 1) ∧ ∀ target, Steps p.tables e below (T'.setTop (mkF m pc L [])) target → Steps p.tables e below (T.setTop g) target) ∨
     (∃ t v S i, ret = some t ∧ Q (some v) cs' ∧ decode bytes pc = .ok (i, 1) ∧ own_Ret i t v ∧ ∀ target, Steps p.tables e below (T'.setTop (mkF m pc L (v :: S))) target → Steps p.tables e below (T.setTop g) target))
theorem own_met_of {l : Launch} {Z : State} {a0 : Array Value} {hb : Heap} {y : MethodName} {bytes : ByteArray} {maxL : Nat} {ret : Option FieldType} {ws : List Jvm.Cond} {rm : Room} {as' : Array Value} {cs : List (Addr × own_Cel)} {Q : Option Value → List (Addr × own_Cel) → Prop} {L0 : Array Slot} (hpl : plainFor y = true) (hef : ∀ m, entryFrame m as' maxL = mkF m 0 L0 [])
    (body : ∀ (p : Program) (e : Env) (s : State) (m : MethodId) (below : List Frame) (meth : Method) (c : Code) (T : State), p.tables.exec = Jvm.exec → Z.Warmed39 s.vm → s.vm.findClass y.cls = some m.cls → c.code = bytes → c.maxLocals = maxL → meth.name = y.name → own_S p l e rm s m as' below meth c Z a0 hb T cs 0 0 → own_Ends p l e rm s m as' below meth c Z a0 hb bytes ret Q T (mkF m 0 L0 [])) :
    own_Met l Z a0 hb y bytes maxL ret ws rm as' cs Q := by
  intro h hH
  refine MetFree.of_bodySF hpl hisR ?_
  intro p e s m args below meth c s₁ Bd hml0 hPP hK
  obtain ⟨rfl, hZ, hh⟩ := hPP
  have hown : s.vm.findClass y.cls = some m.cls := findClass_of_methodNamed Bd.named
  have hnm := (name_of_methodNamed Bd.named Bd.method).1
  have X0 : Stand p l e rm s m _ below meth c s₁ [] 0 0 := Stand.of_body Bd
  have e0 : s₁.heap = h := by rw [← hh, Bd.state]; rfl
  obtain ⟨T', cs', k, n, pc, L, ⟨locs, X, N, hH'⟩, hk, hn, hE⟩ := body p e s m below meth c s₁ Bd.exec hZ hown Bd.bytes hml0 hnm ⟨[], X0, Fr.nil _, e0 ▸ hH⟩
  rcases hE with ⟨rfl, hQ, hd, st⟩ | ⟨t, v, S, i, rfl, hQ, hd, hr, st⟩
  · obtain ⟨fs, hr', hrun, hended, hW, hsame⟩ := X.leave (v := none) (fun _ => rfl)
    exact ⟨_, _, castTop (hef m) (st _ (X.returnOut Bd.exec Bd.returns (Jvm.hb Bd.bytes hd) hr')), hrun, hended, _, _, rfl, ⟨N, cs', hQ, hH'⟩, ⟨_, rfl⟩, hW, hsame.mono hk hn⟩
  · obtain ⟨fs, hr', hrun, hended, hW, hsame⟩ := X.leave (v := some v) (fun h => by rw [Bd.returns] at h; cases h)
    exact ⟨_, _, castTop (hef m) (st _ (retOut X Bd.exec Bd.returns hr.1 hr.2 (Jvm.hb Bd.bytes hd) hr')), hrun, hended, _, _, rfl, ⟨N, cs', hQ, hH'⟩, ⟨_, rfl⟩, hW, hsame.mono hk hn⟩
section Calls
variable {p : Program} {l : Launch} {e : Env} {R : Room} {s : State} {m : MethodId} {args : Array Value} {below : List Frame} {meth : Method} {c : Code} {T : State} {Z : State} {a0 : Array Value} {hb : Heap} {cs : List (Addr × own_Cel)} {k n : Nat}
theorem own_callS (H : own_S p l e R s m args below meth c Z a0 hb T cs k n) (hx : p.tables.exec = Jvm.exec) (hZ : Z.Warmed39 s.vm) {own : String} {index : Nat} {y : MethodName} {bytes : ByteArray} {maxL : Nat} {ret : Option FieldType} (hown : s.vm.findClass own = some m.cls)
    (w1 : (Jvm.Cond.methodLink own index y).before a0 Z = true) (w2 : (Jvm.Cond.static y).before a0 Z = true) (w3 : (Jvm.Cond.initialized y.cls).before a0 Z = true) (w4 : (Jvm.Cond.code y bytes maxL ret).before a0 Z = true) (hy : y.cls ≠ "java/lang/invoke/MethodHandle" ∧ y.cls ≠ "java/lang/invoke/VarHandle")
    {rm : Room} {W : Nat} {argsL rest : List Value} {Q : Option Value → List (Addr × own_Cel) → Prop} (hM : own_Met l Z a0 hb y bytes maxL ret [] rm argsL.toArray cs Q) (hf : rm.frames + 1 ≤ R.frames) (hl : W + (maxL + 11) + rm.locals ≤ R.locals) (hc : k + rm.cells ≤ R.cells) (hs : n + rm.slots ≤ R.slots)
    {g : JFrame} (hg : g.method = m) (hsize : g.locals.size = c.maxLocals) (hlen : ∀ sig, parseMethodDescriptor y.desc = some sig → argsL.length = sig.parameters.length) (hst : g.stack = argsL.reverse ++ rest) (hW : 2 * g.monitorRoom + (rest.map fun v => v.category).sum ≤ W) (hd : decode c.code g.pc = .ok (.invokestatic index, 3)) :
    ∃ T' v cs', Q v cs' ∧ own_S p l e R s m args below meth c Z a0 hb T' cs' (k + rm.cells) (n + rm.slots) ∧ ∀ target, Steps p.tables e below (T'.setTop { g with pc := g.pc + 3, stack := v.toList ++ rest }) target → Steps p.tables e below (T.setTop g) target := by
  obtain ⟨locs, X, N, hH⟩ := H
  obtain ⟨v', vm1, ⟨T2, L2, k2, n2⟩, -, X2, ⟨Lc, hQ, l2, y2, z2⟩, st⟩ := Jvm.LawKit.callS X hx hown (mvT hZ w1) (mvT hZ w2) (mvT hZ w3) (mvT hZ w4) hy (backOf (W := W) (rm := rm) (Q := fun w H L => Fr hb.size L ∧ ∃ cs', Q w cs' ∧ own_Hp Z a0 hb H cs') (hM _ hH) hZ w4 w3 hf hl) hg hsize hlen hst hW hd (fun _ _ => ⟨rfl, rfl, hc, hs⟩)
  dsimp only [Pt.U, Pt.locs, Pt.cells, Pt.slots] at X2 l2 y2 z2 st hQ
  obtain ⟨N2, cs', hQ', hH'⟩ := hQ
  subst l2 y2 z2
  exact ⟨T2, v', cs', hQ', ⟨_, X2, N.app N2, hH'⟩, st⟩
theorem own_callI (H : own_S p l e R s m args below meth c Z a0 hb T cs k n) (hx : p.tables.exec = Jvm.exec) (hZ : Z.Warmed39 s.vm) {own : String} {index : Nat} {y : MethodName} {bytes : ByteArray} {maxL : Nat} (hown : s.vm.findClass own = some m.cls) (hy1 : y.name = "<init>")
    (w1 : (Jvm.Cond.methodLink own index y).before a0 Z = true) (w2 : (Jvm.Cond.instanceMethod y).before a0 Z = true) (w3 : (Jvm.Cond.initialized y.cls).before a0 Z = true) (w4 : (Jvm.Cond.code y bytes maxL none).before a0 Z = true) (hy : y.cls ≠ "java/lang/invoke/MethodHandle" ∧ y.cls ≠ "java/lang/invoke/VarHandle")
    {rm : Room} {W : Nat} {x : Addr} {argsL rest : List Value} {Q : Option Value → List (Addr × own_Cel) → Prop} (hM : own_Met l Z a0 hb y bytes maxL none [] rm (Value.ref x :: argsL).toArray cs Q) (hf : rm.frames + 1 ≤ R.frames) (hl : W + (maxL + 11) + rm.locals ≤ R.locals) (hc : k + rm.cells ≤ R.cells) (hs : n + rm.slots ≤ R.slots)
    {g : JFrame} (hg : g.method = m) (hsize : g.locals.size = c.maxLocals) (hlen : ∀ sig, parseMethodDescriptor y.desc = some sig → argsL.length = sig.parameters.length) (hst : g.stack = argsL.reverse ++ .ref x :: rest) (hW : 2 * g.monitorRoom + (rest.map fun v => v.category).sum ≤ W) (hd : decode c.code g.pc = .ok (.invokespecial index, 3)) :
    ∃ T' v cs', Q v cs' ∧ own_S p l e R s m args below meth c Z a0 hb T' cs' (k + rm.cells) (n + rm.slots) ∧ ∀ target, Steps p.tables e below (T'.setTop { g with pc := g.pc + 3, stack := v.toList ++ rest }) target → Steps p.tables e below (T.setTop g) target := by
  obtain ⟨locs, X, N, hH⟩ := H
  obtain ⟨v', vm1, ⟨T2, L2, k2, n2⟩, -, X2, ⟨Lc, hQ, l2, y2, z2⟩, st⟩ := X.specialBack hx hy1 hown (mvT hZ w1) (mvT hZ w2) (mvT hZ w4) hy (backOf (W := W) (rm := rm) (Q := fun w H L => Fr hb.size L ∧ ∃ cs', Q w cs' ∧ own_Hp Z a0 hb H cs') (hM _ hH) hZ w4 w3 hf hl) hg hsize (Steps.refl _) hlen hst hW hd (fun _ _ => ⟨rfl, rfl, hc, hs⟩)
  dsimp only [Pt.U, Pt.locs, Pt.cells, Pt.slots] at X2 l2 y2 z2 st hQ
  obtain ⟨N2, cs', hQ', hH'⟩ := hQ
  subst l2 y2 z2
  exact ⟨T2, v', cs', hQ', ⟨_, X2, N.app N2, hH'⟩, fun target q => st.trans q⟩
theorem own_callV (H : own_S p l e R s m args below meth c Z a0 hb T cs k n) (hx : p.tables.exec = Jvm.exec) (hZ : Z.Warmed39 s.vm) {own C : String} {index : Nat} {y : MethodName} {bytes : ByteArray} {maxL : Nat} {ret : Option FieldType} (hown : s.vm.findClass own = some m.cls)
    (w1 : (Jvm.Cond.methodLink own index y).before a0 Z = true) (w2 : (Jvm.Cond.declares y).before a0 Z = true) (w5 : (Jvm.Cond.selects C y y).before a0 Z = true) (w6 : (Jvm.Cond.instanceMethod y).before a0 Z = true) (w3 : (Jvm.Cond.initialized y.cls).before a0 Z = true) (w4 : (Jvm.Cond.code y bytes maxL ret).before a0 Z = true) (hy : y.cls ≠ "java/lang/invoke/MethodHandle" ∧ y.cls ≠ "java/lang/invoke/VarHandle")
    {rm : Room} {W : Nat} {x : Addr} {fs : List (String × String × String × Value)} (i : Nat) (hi : cs[i]? = some (x, own_O C fs)) {argsL rest : List Value} {Q : Option Value → List (Addr × own_Cel) → Prop} (hM : own_Met l Z a0 hb y bytes maxL ret [] rm (Value.ref x :: argsL).toArray cs Q) (hf : rm.frames + 1 ≤ R.frames) (hl : W + (maxL + 11) + rm.locals ≤ R.locals) (hc : k + rm.cells ≤ R.cells) (hs : n + rm.slots ≤ R.slots)
    {g : JFrame} (hg : g.method = m) (hsize : g.locals.size = c.maxLocals) (hlen : ∀ sig, parseMethodDescriptor y.desc = some sig → argsL.length = sig.parameters.length) (hst : g.stack = argsL.reverse ++ .ref x :: rest) (hW : 2 * g.monitorRoom + (rest.map fun v => v.category).sum ≤ W) (hd : decode c.code g.pc = .ok (.invokevirtual index, 3)) :
    ∃ T' v cs', Q v cs' ∧ own_S p l e R s m args below meth c Z a0 hb T' cs' (k + rm.cells) (n + rm.slots) ∧ ∀ target, Steps p.tables e below (T'.setTop { g with pc := g.pc + 3, stack := v.toList ++ rest }) target → Steps p.tables e below (T.setTop g) target := by
  obtain ⟨locs, X, N, hH⟩ := H
  obtain ⟨cq, kq, qa, qb, qc⟩ := isOf hZ rfl (own_get hH hi).1.1
  obtain ⟨v', vm1, ⟨T2, L2, k2, n2⟩, -, X2, ⟨Lc, hQ, l2, y2, z2⟩, st⟩ := X.virtualBack hx hown (mvT hZ w1) (mvT hZ w2) (notFace_of_selects (args := #[]) (mvT hZ w5)) (mvT hZ w5) (mvT hZ w6) hy (backOf (W := W) (rm := rm) (Q := fun w H L => Fr hb.size L ∧ ∃ cs', Q w cs' ∧ own_Hp Z a0 hb H cs') (hM _ hH) hZ w4 w3 hf hl) qa qc hg hsize (Steps.refl _) hlen hst hW hd (fun _ _ => ⟨rfl, rfl, hc, hs⟩)
  dsimp only [Pt.U, Pt.locs, Pt.cells, Pt.slots] at X2 l2 y2 z2 st hQ
  obtain ⟨N2, cs', hQ', hH'⟩ := hQ
  subst l2 y2 z2
  exact ⟨T2, v', cs', hQ', ⟨_, X2, N.app N2, hH'⟩, fun target q => st.trans q⟩
end Calls
theorem own_ACd {Z : State} {h : Heap} {x : Addr} {c : Cell} : own_AC Z h x c .double ↔ Exa Z h x "[D" := by
  show Exa Z h x ("[" ++ FieldType.double.toString) ↔ _
  rw [show "[" ++ FieldType.double.toString = "[D" from by decide]
end OwnHeap
section OwnHeap2
open Jvm.Free Jvm.Stand Jvm.LawKit Jvm.RoadKit
variable {p : Program} {l : Launch} {e : Env} {R : Room} {s : State} {m : MethodId} {args : Array Value} {below : List Frame} {meth : Method} {c : Code} {T : State} {Z : State} {a0 : Array Value} {hb : Heap} {cs : List (Addr × own_Cel)} {k n : Nat}
/-- a private method, called by invokevirtual -/
theorem own_callPr (H : own_S p l e R s m args below meth c Z a0 hb T cs k n) (hx : p.tables.exec = Jvm.exec) (hZ : Z.Warmed39 s.vm) {own : String} {index nn : Nat} {y : MethodName} {bytes : ByteArray} {maxL : Nat} {ret : Option FieldType} (hown : s.vm.findClass own = some m.cls)
    (w1 : (Jvm.Cond.methodLink own index y).before a0 Z = true) (w2 : (Jvm.Cond.instanceMethod y).before a0 Z = true) (w5 : (Jvm.Cond.privateMethod y).before a0 Z = true) (w6 : (Jvm.Cond.instantiable y.cls nn).before a0 Z = true) (w3 : (Jvm.Cond.initialized y.cls).before a0 Z = true) (w4 : (Jvm.Cond.code y bytes maxL ret).before a0 Z = true) (hy : y.cls ≠ "java/lang/invoke/MethodHandle" ∧ y.cls ≠ "java/lang/invoke/VarHandle")
    {rm : Room} {W : Nat} {x : Addr} {C : String} {fs : List (String × String × String × Value)} (i : Nat) (hi : cs[i]? = some (x, own_O C fs)) {argsL rest : List Value} {Q : Option Value → List (Addr × own_Cel) → Prop} (hM : own_Met l Z a0 hb y bytes maxL ret [] rm (Value.ref x :: argsL).toArray cs Q) (hf : rm.frames + 1 ≤ R.frames) (hl : W + (maxL + 11) + rm.locals ≤ R.locals) (hc : k + rm.cells ≤ R.cells) (hs : n + rm.slots ≤ R.slots)
    {g : JFrame} (hg : g.method = m) (hsize : g.locals.size = c.maxLocals) (hlen : ∀ sig, parseMethodDescriptor y.desc = some sig → argsL.length = sig.parameters.length) (hst : g.stack = argsL.reverse ++ .ref x :: rest) (hW : 2 * g.monitorRoom + (rest.map fun v => v.category).sum ≤ W) (hd : decode c.code g.pc = .ok (.invokevirtual index, 3)) :
    ∃ T' v cs', Q v cs' ∧ own_S p l e R s m args below meth c Z a0 hb T' cs' (k + rm.cells) (n + rm.slots) ∧ ∀ target, Steps p.tables e below (T'.setTop { g with pc := g.pc + 3, stack := v.toList ++ rest }) target → Steps p.tables e below (T.setTop g) target := by
  obtain ⟨locs, X, N, hH⟩ := H
  have hsel : (Jvm.Cond.selects y.cls y y).before a0 Z = true := Jvm.Kit.selects_private hy w6 w5 w2
  obtain ⟨cell, kk, q1, q2, q3, q4, -⟩ := (own_get hH hi).1.1
  obtain ⟨v', vm1, ⟨T2, L2, k2, n2⟩, -, X2, ⟨Lc, hQ, l2, y2, z2⟩, st⟩ := X.privateBack hx hown (mvT hZ w1) (mvT hZ w2) (mvT hZ hsel) (Cond.privateMethod_at (mvP hZ w5 (args := #[]))) (mvT hZ w4) hy (backOf (W := W) (rm := rm) (Q := fun w H L => Fr hb.size L ∧ ∃ cs', Q w cs' ∧ own_Hp Z a0 hb H cs') (hM _ hH) hZ w4 w3 hf hl) hg hsize (Steps.refl _) (a := x) q1 (fun q e => by rw [e] at q4; cases q4) hlen hst hW hd (fun _ _ => ⟨rfl, rfl, hc, hs⟩)
  dsimp only [Pt.U, Pt.locs, Pt.cells, Pt.slots] at X2 l2 y2 z2 st hQ
  obtain ⟨N2, cs', hQ', hH'⟩ := hQ
  subst l2 y2 z2
  exact ⟨T2, v', cs', hQ', ⟨_, X2, N.app N2, hH'⟩, fun target q => st.trans q⟩
/-- Math.abs of a double -/
theorem own_absD (H : own_S p l e R s m args below meth c Z a0 hb T cs k n) (hx : p.tables.exec = Jvm.exec) (hZ : Z.Warmed39 s.vm) {own : String} {index : Nat} (hown : s.vm.findClass own = some m.cls)
    (w1 : (Jvm.Cond.methodLink own index Jvm.Free.Fl.Abs.absDN).before a0 Z = true) (w2 : (Jvm.Cond.static Jvm.Free.Fl.Abs.absDN).before a0 Z = true) (w3 : (Jvm.Cond.initialized "java/lang/Math").before a0 Z = true) (w4 : (Jvm.Cond.code Jvm.Free.Fl.Abs.absDN Jvm.Free.Fl.Abs.absDCode 2 (some .double)).before a0 Z = true)
    {a : UInt64} (ha : Jvm.Free.Fl.NoNaN64 a) {W : Nat} {rest : List Value} (hf : 1 ≤ R.frames) (hl : W + 13 ≤ R.locals) (hc : k ≤ R.cells) (hs : n ≤ R.slots)
    {g : JFrame} (hg : g.method = m) (hsize : g.locals.size = c.maxLocals) (hst : g.stack = .double a :: rest) (hW : 2 * g.monitorRoom + (rest.map fun v => v.category).sum ≤ W) (hd : decode c.code g.pc = .ok (.invokestatic index, 3)) :
    ∃ T', own_S p l e R s m args below meth c Z a0 hb T' cs k n ∧ ∀ target, Steps p.tables e below (T'.setTop { g with pc := g.pc + 3, stack := .double (a &&& 0x7fffffffffffffff) :: rest }) target → Steps p.tables e below (T.setTop g) target := by
  obtain ⟨locs, X, N, hH⟩ := H
  have hpd : parseMethodDescriptor "(D)D" = some ⟨[.double], some .double⟩ := by decide +kernel
  obtain ⟨T', X', e', st⟩ := natS X hx hZ hown w1 w2 w3 w4 (by decide) rfl (F := fun a' => a' = #[.double a] ∧ Jvm.Free.Fl.NoNaN64 a) (fun c4 => Jvm.Free.Fl.Abs.absD_pays (W := W) a c4 hf hl) hg hsize (argsL := [.double a]) (rest := rest) (lenOf hpd rfl) hst hW hd hc hs ⟨rfl, ha⟩ rfl
  exact ⟨T', ⟨locs, X', N, e' ▸ hH⟩, st⟩
end OwnHeap2
section OwnClaim
open Jvm.Free.Fl
def own_K0 : List (Nat × Value) := [(7, .int 1048575), (8, .int 2147483647), (18, .double 13830554455654793216)]
theorem own_K0_ok : ∀ q ∈ own_K0, ∃ w ∈ tables_1, own_Word "com/example/tangentia/tangentia/flash/FeedMoleFractionsPinLaw" q.1 q.2 w := by
  intro q hq
  simp only [own_K0, List.mem_cons, List.not_mem_nil, or_false] at hq
  rcases hq with rfl | rfl | rfl
  · exact ⟨_, List.mem_of_getElem? (i := 0) rfl, rfl⟩
  · exact ⟨_, List.mem_of_getElem? (i := 1) rfl, rfl⟩
  · exact ⟨_, List.mem_of_getElem? (i := 39) rfl, rfl⟩
theorem own_pn0 : plainName "com/example/tangentia/tangentia/flash/FeedMoleFractionsPinLaw" = true := by first | (simp [plainName, overriddenIn]; done) | decide +kernel
theorem d1_0 : decode prog_20_method_1_code 0 = .ok (.aload_n 0, 1) := by decide +kernel
theorem d1_1 : decode prog_20_method_1_code 1 = .ok (.invokespecial 1, 3) := by decide +kernel
theorem d1_4 : decode prog_20_method_1_code 4 = .ok (.dconst 0, 1) := by decide +kernel
theorem d1_5 : decode prog_20_method_1_code 5 = .ok (.dstore_n 2, 1) := by decide +kernel
theorem d1_6 : decode prog_20_method_1_code 6 = .ok (.iconst 0, 1) := by decide +kernel
theorem d1_7 : decode prog_20_method_1_code 7 = .ok (.istore 4, 2) := by decide +kernel
theorem d1_9 : decode prog_20_method_1_code 9 = .ok (.iload 4, 2) := by decide +kernel
theorem d1_11 : decode prog_20_method_1_code 11 = .ok (.aload_n 1, 1) := by decide +kernel
theorem d1_12 : decode prog_20_method_1_code 12 = .ok (.arraylength, 1) := by decide +kernel
theorem d1_13 : decode prog_20_method_1_code 13 = .ok (.if_icmp .ge 54, 3) := by decide +kernel
theorem d1_16 : decode prog_20_method_1_code 16 = .ok (.aload_n 1, 1) := by decide +kernel
theorem d1_17 : decode prog_20_method_1_code 17 = .ok (.iload 4, 2) := by decide +kernel
theorem d1_19 : decode prog_20_method_1_code 19 = .ok (.daload, 1) := by decide +kernel
theorem d1_20 : decode prog_20_method_1_code 20 = .ok (.invokestatic 7, 3) := by decide +kernel
theorem d1_23 : decode prog_20_method_1_code 23 = .ok (.ifCond .eq 12, 3) := by decide +kernel
theorem d1_26 : decode prog_20_method_1_code 26 = .ok (.aload_n 1, 1) := by decide +kernel
theorem d1_27 : decode prog_20_method_1_code 27 = .ok (.iload 4, 2) := by decide +kernel
theorem d1_29 : decode prog_20_method_1_code 29 = .ok (.daload, 1) := by decide +kernel
theorem d1_30 : decode prog_20_method_1_code 30 = .ok (.dconst 0, 1) := by decide +kernel
theorem d1_31 : decode prog_20_method_1_code 31 = .ok (.dcmp .g, 1) := by decide +kernel
theorem d1_32 : decode prog_20_method_1_code 32 = .ok (.ifCond .ge 22, 3) := by decide +kernel
theorem d1_35 : decode prog_20_method_1_code 35 = .ok (.new 13, 3) := by decide +kernel
theorem d1_38 : decode prog_20_method_1_code 38 = .ok (.dup, 1) := by decide +kernel
theorem d1_39 : decode prog_20_method_1_code 39 = .ok (.iload 4, 2) := by decide +kernel
theorem d1_41 : decode prog_20_method_1_code 41 = .ok (.aload_n 1, 1) := by decide +kernel
theorem d1_42 : decode prog_20_method_1_code 42 = .ok (.iload 4, 2) := by decide +kernel
theorem d1_44 : decode prog_20_method_1_code 44 = .ok (.daload, 1) := by decide +kernel
theorem d1_50 : decode prog_20_method_1_code 50 = .ok (.invokespecial 19, 3) := by decide +kernel
theorem d1_53 : decode prog_20_method_1_code 53 = .ok (.athrow, 1) := by decide +kernel
theorem d1_54 : decode prog_20_method_1_code 54 = .ok (.dload_n 2, 1) := by decide +kernel
theorem d1_55 : decode prog_20_method_1_code 55 = .ok (.aload_n 1, 1) := by decide +kernel
theorem d1_56 : decode prog_20_method_1_code 56 = .ok (.iload 4, 2) := by decide +kernel
theorem d1_58 : decode prog_20_method_1_code 58 = .ok (.daload, 1) := by decide +kernel
theorem d1_59 : decode prog_20_method_1_code 59 = .ok (.dadd, 1) := by decide +kernel
theorem d1_60 : decode prog_20_method_1_code 60 = .ok (.dstore_n 2, 1) := by decide +kernel
theorem d1_61 : decode prog_20_method_1_code 61 = .ok (.iinc 4 1, 3) := by decide +kernel
theorem d1_64 : decode prog_20_method_1_code 64 = .ok (.goto (-55), 3) := by decide +kernel
theorem d1_67 : decode prog_20_method_1_code 67 = .ok (.dload_n 2, 1) := by decide +kernel
theorem d1_68 : decode prog_20_method_1_code 68 = .ok (.invokestatic 7, 3) := by decide +kernel
theorem d1_71 : decode prog_20_method_1_code 71 = .ok (.ifCond .eq 9, 3) := by decide +kernel
theorem d1_74 : decode prog_20_method_1_code 74 = .ok (.dload_n 2, 1) := by decide +kernel
theorem d1_75 : decode prog_20_method_1_code 75 = .ok (.dconst 0, 1) := by decide +kernel
theorem d1_76 : decode prog_20_method_1_code 76 = .ok (.dcmp .g, 1) := by decide +kernel
theorem d1_77 : decode prog_20_method_1_code 77 = .ok (.ifCond .gt 17, 3) := by decide +kernel
theorem d1_80 : decode prog_20_method_1_code 80 = .ok (.new 13, 3) := by decide +kernel
theorem d1_83 : decode prog_20_method_1_code 83 = .ok (.dup, 1) := by decide +kernel
theorem d1_84 : decode prog_20_method_1_code 84 = .ok (.dload_n 2, 1) := by decide +kernel
theorem d1_90 : decode prog_20_method_1_code 90 = .ok (.invokespecial 19, 3) := by decide +kernel
theorem d1_93 : decode prog_20_method_1_code 93 = .ok (.athrow, 1) := by decide +kernel
theorem d1_94 : decode prog_20_method_1_code 94 = .ok (.aload_n 0, 1) := by decide +kernel
theorem d1_95 : decode prog_20_method_1_code 95 = .ok (.aload_n 1, 1) := by decide +kernel
theorem d1_96 : decode prog_20_method_1_code 96 = .ok (.invokevirtual 25, 3) := by decide +kernel
theorem d1_99 : decode prog_20_method_1_code 99 = .ok (.checkcast 26, 3) := by decide +kernel
theorem d1_102 : decode prog_20_method_1_code 102 = .ok (.putfield 31, 3) := by decide +kernel
theorem d1_105 : decode prog_20_method_1_code 105 = .ok (.aload_n 0, 1) := by decide +kernel
theorem d1_106 : decode prog_20_method_1_code 106 = .ok (.dload_n 2, 1) := by decide +kernel
theorem d1_107 : decode prog_20_method_1_code 107 = .ok (.putfield 36, 3) := by decide +kernel
theorem d1_110 : decode prog_20_method_1_code 110 = .ok (.return_, 1) := by decide +kernel
def own_K1 : List (Nat × Value) := []
theorem own_K1_ok : ∀ q ∈ own_K1, ∃ w ∈ tables_1, own_Word "com/example/tangentia/tangentia/flash/Feed" q.1 q.2 w := by
  intro q hq
  exact absurd hq (List.not_mem_nil)
theorem own_pn1 : plainName "com/example/tangentia/tangentia/flash/Feed" = true := by first | (simp [plainName, overriddenIn]; done) | decide +kernel
theorem d3_0 : decode jdk_117_method_8_code 0 = .ok (.dload_n 0, 1) := by decide +kernel
theorem d3_1 : decode jdk_117_method_8_code 1 = .ok (.invokestatic 38, 3) := by decide +kernel
theorem d3_4 : decode jdk_117_method_8_code 4 = .ok (.ldc2_w 111, 3) := by decide +kernel
theorem d3_7 : decode jdk_117_method_8_code 7 = .ok (.dcmp .g, 1) := by decide +kernel
theorem d3_8 : decode jdk_117_method_8_code 8 = .ok (.ifCond .gt 7, 3) := by decide +kernel
theorem d3_11 : decode jdk_117_method_8_code 11 = .ok (.iconst 1, 1) := by decide +kernel
theorem d3_12 : decode jdk_117_method_8_code 12 = .ok (.goto 4, 3) := by decide +kernel
theorem d3_15 : decode jdk_117_method_8_code 15 = .ok (.iconst 0, 1) := by decide +kernel
theorem d3_16 : decode jdk_117_method_8_code 16 = .ok (.ireturn, 1) := by decide +kernel
def own_K3 : List (Nat × Value) := [(111, .double 9218868437227405311)]
theorem own_K3_ok : ∀ q ∈ own_K3, ∃ w ∈ tables_1, own_Word "java/lang/Double" q.1 q.2 w := by
  intro q hq
  simp only [own_K3, List.mem_cons, List.not_mem_nil, or_false] at hq
  rcases hq with rfl
  · exact ⟨_, List.mem_of_getElem? (i := 20) rfl, rfl⟩
theorem own_pn3 : plainName "java/lang/Double" = true := by first | (simp [plainName, overriddenIn]; done) | decide +kernel
theorem d5_0 : decode prog_20_method_6_code 0 = .ok (.aload_n 0, 1) := by decide +kernel
theorem d5_1 : decode prog_20_method_6_code 1 = .ok (.getfield 31, 3) := by decide +kernel
theorem d5_4 : decode prog_20_method_6_code 4 = .ok (.arraylength, 1) := by decide +kernel
theorem d5_5 : decode prog_20_method_6_code 5 = .ok (.newarray .double, 2) := by decide +kernel
theorem d5_7 : decode prog_20_method_6_code 7 = .ok (.astore_n 1, 1) := by decide +kernel
theorem d5_8 : decode prog_20_method_6_code 8 = .ok (.iconst 0, 1) := by decide +kernel
theorem d5_9 : decode prog_20_method_6_code 9 = .ok (.istore_n 2, 1) := by decide +kernel
theorem d5_10 : decode prog_20_method_6_code 10 = .ok (.iload_n 2, 1) := by decide +kernel
theorem d5_11 : decode prog_20_method_6_code 11 = .ok (.aload_n 1, 1) := by decide +kernel
theorem d5_12 : decode prog_20_method_6_code 12 = .ok (.arraylength, 1) := by decide +kernel
theorem d5_13 : decode prog_20_method_6_code 13 = .ok (.if_icmp .ge 23, 3) := by decide +kernel
theorem d5_16 : decode prog_20_method_6_code 16 = .ok (.aload_n 1, 1) := by decide +kernel
theorem d5_17 : decode prog_20_method_6_code 17 = .ok (.iload_n 2, 1) := by decide +kernel
theorem d5_18 : decode prog_20_method_6_code 18 = .ok (.aload_n 0, 1) := by decide +kernel
theorem d5_19 : decode prog_20_method_6_code 19 = .ok (.getfield 31, 3) := by decide +kernel
theorem d5_22 : decode prog_20_method_6_code 22 = .ok (.iload_n 2, 1) := by decide +kernel
theorem d5_23 : decode prog_20_method_6_code 23 = .ok (.daload, 1) := by decide +kernel
theorem d5_24 : decode prog_20_method_6_code 24 = .ok (.aload_n 0, 1) := by decide +kernel
theorem d5_25 : decode prog_20_method_6_code 25 = .ok (.getfield 36, 3) := by decide +kernel
theorem d5_28 : decode prog_20_method_6_code 28 = .ok (.ddiv, 1) := by decide +kernel
theorem d5_29 : decode prog_20_method_6_code 29 = .ok (.dastore, 1) := by decide +kernel
theorem d5_30 : decode prog_20_method_6_code 30 = .ok (.iinc 2 1, 3) := by decide +kernel
theorem d5_33 : decode prog_20_method_6_code 33 = .ok (.goto (-23), 3) := by decide +kernel
theorem d5_36 : decode prog_20_method_6_code 36 = .ok (.aload_n 1, 1) := by decide +kernel
theorem d5_37 : decode prog_20_method_6_code 37 = .ok (.areturn, 1) := by decide +kernel
def own_K5 : List (Nat × Value) := []
theorem own_K5_ok : ∀ q ∈ own_K5, ∃ w ∈ tables_1, own_Word "com/example/tangentia/tangentia/flash/Feed" q.1 q.2 w := by
  intro q hq
  exact absurd hq (List.not_mem_nil)
theorem own_pn5 : plainName "com/example/tangentia/tangentia/flash/Feed" = true := by first | (simp [plainName, overriddenIn]; done) | decide +kernel
theorem own_pd0 : parseMethodDescriptor "()V" = some ⟨[], none⟩ := by decide +kernel
theorem own_pd1 : parseMethodDescriptor "()[D" = some ⟨[], some (.array .double)⟩ := by decide +kernel
theorem own_pd2 : parseMethodDescriptor "(D)D" = some ⟨[.double], some .double⟩ := by decide +kernel
theorem own_pd3 : parseMethodDescriptor "(D)Z" = some ⟨[.double], some .boolean⟩ := by decide +kernel
theorem own_pd4 : parseMethodDescriptor "([D)V" = some ⟨[(.array .double)], none⟩ := by decide +kernel
theorem own_ef3 (m : MethodId) (x0 : UInt64) : entryFrame m #[(.double x0)] 2 = mkF m 0 #[.val (.double x0), .second] [] := by first | (simp [entryFrame, mkF, argsToLocals, Value.category]; done) | rfl

theorem own_maxv {v : UInt64} (h : Jvm.Free.Fl.Fin64 v) : ifCond.holds .gt (cmpValue (FP.dcmp (v &&& 0x7fffffffffffffff) (9218868437227405311 : UInt64)) .g) = false := by
  have h1 : FP.Core.DFin v := Jvm.Free.Fl.fin64_core.mp h
  rcases (FP.Core.le_max h1.notNaN).mpr h1 with q | q
  · rw [show FP.dcmp (v &&& 0x7fffffffffffffff) (9218868437227405311 : UInt64) = some .lt from q]; rfl
  · rw [show FP.dcmp (v &&& 0x7fffffffffffffff) (9218868437227405311 : UInt64) = some .eq from q]; rfl
theorem own_if0 (v : UInt64) :
    own_Go own_K3 jdk_117_method_8_code 0 #[.val (.double v), .second] [] 1 #[.val (.double v), .second] [(.double v)] := by
  refine own_dloadN (pc2 := 1) d3_0 rfl rfl ?_
  exact own_refl
theorem own_if1 (v : UInt64) (v7 : Int32) (hv7 : (cmpValue (FP.dcmp (v &&& 0x7fffffffffffffff) (9218868437227405311 : UInt64)) .g) = v7) (hb8 : ifCond.holds .gt v7 = false) :
    own_Go own_K3 jdk_117_method_8_code 4 #[.val (.double v), .second] [(.double (v &&& 0x7fffffffffffffff))] 16 #[.val (.double v), .second] [(.int (1 : Int32))] := by
  refine own_ldc2D (v := (9218868437227405311 : UInt64)) (pc2 := 7) d3_4 rfl (List.mem_of_getElem? (i := 0) rfl) ?_
  refine own_dcmp (pc2 := 8) d3_7 rfl (v := v7) hv7 ?_
  refine own_ifNo (pc2 := 11) d3_8 rfl hb8 ?_
  refine own_iconst (v := 1) (pc2 := 12) d3_11 rfl rfl ?_
  refine own_goto (pc' := 16) d3_12 (by decide) (by decide) ?_
  exact own_refl
set_option maxRecDepth 65536 in
set_option maxHeartbeats 4000000 in
theorem own_isfin (l : Launch) (Z : State) (a0 : Array Value) (hb0 : Heap) (hw : ∀ d ∈ tables_1, d.before a0 Z = true) (v : UInt64) (hf : Jvm.Free.Fl.Fin64 v) (cs : List (Addr × own_Cel)) :
    own_Met l Z a0 hb0 (⟨"java/lang/Double", "isFinite", "(D)Z"⟩ : MethodName) jdk_117_method_8_code 2 (some .boolean) [] ({ frames := 1, cells := 0, slots := 0, locals := 13 } : Room) #[(.double v)] cs (fun r cs' => r = some (.int 1) ∧ cs' = cs) := by
  refine own_met_of (L0 := #[.val (.double v), .second]) (plainFor_of_name own_pn3) (fun m => own_ef3 m v) ?_
  have hn := hf.noNaN
  intro p e s m below meth c T0 hx hZ hown hby hml hnm H0
  obtain ⟨Tif1, Hif1, stif1⟩ := own_absD H0 hx hZ hown (hw _ (List.mem_of_getElem? (i := 16) rfl)) (hw _ (List.mem_of_getElem? (i := 17) rfl)) (hw _ (List.mem_of_getElem? (i := 18) rfl)) (hw _ (List.mem_of_getElem? (i := 19) rfl)) hn (W := 0) (rest := []) (by decide) (by decide) (by decide) (by decide) (g := (mkF m 1 #[.val (.double v), .second] [(.double v)])) rfl (by rw [hml]; rfl) rfl (by show 2 * 0 + _ ≤ _; exact Nat.le_of_eq rfl) (hb hby d3_1)
  obtain ⟨v7, hv7⟩ : ∃ z : Int32, (cmpValue (FP.dcmp (v &&& 0x7fffffffffffffff) (9218868437227405311 : UInt64)) .g) = z := ⟨_, rfl⟩
  have hb8 : ifCond.holds .gt v7 = false := by rw [← hv7]; exact own_maxv hf
  refine ⟨_, _, _, _, 16, #[.val (.double v), .second], Hif1, by decide, by decide, Or.inr ⟨.boolean, (.int (1 : Int32)), [], .ireturn, rfl, ⟨rfl, rfl⟩, d3_16, own_retZ (Or.inr rfl), fun target q => ?_⟩⟩
  refine own_go H0 hx hZ hown hby hw own_K3_ok (own_if0 v) _ ?_
  refine stif1 _ ?_
  refine own_go Hif1 hx hZ hown hby hw own_K3_ok (own_if1 v v7 hv7 hb8) _ ?_
  exact q
theorem own_ef0 (m : MethodId) (x0 : Int32) (x1 : Int32) (x2 : Int32) (x3 : Int32) : entryFrame m #[(.int x0), (.int x1), (.int x2), (.int x3)] maxLocals = mkF m 0 #[.val (.int x0), .val (.int x1), .val (.int x2), .val (.int x3), .unset, .unset, .unset, .unset, .unset, .unset, .unset, .unset, .unset, .unset, .unset, .unset] [] := by first | (simp [entryFrame, mkF, argsToLocals, Value.category, maxLocals]; done) | rfl
theorem own_ef1 (m : MethodId) (x0 : Addr) (x1 : Addr) : entryFrame m #[(.ref x0), (.ref x1)] 5 = mkF m 0 #[.val (.ref x0), .val (.ref x1), .unset, .unset, .unset] [] := by first | (simp [entryFrame, mkF, argsToLocals, Value.category]; done) | rfl
theorem own_ef5 (m : MethodId) (x0 : Addr) : entryFrame m #[(.ref x0)] 3 = mkF m 0 #[.val (.ref x0), .unset, .unset] [] := by first | (simp [entryFrame, mkF, argsToLocals, Value.category]; done) | rfl

theorem own_retA {t : FieldType} (x : Addr) : own_Ret .areturn (.array t) (.ref x) := ⟨rfl, Or.inr (Or.inr (Or.inr (Or.inr ⟨rfl, rfl, rfl⟩)))⟩
theorem own_f1_0 (x : Addr) (ai : Addr) :
    own_Go own_K1 prog_20_method_1_code 0 #[.val (.ref x), .val (.ref ai), .unset, .unset, .unset] [] 1 #[.val (.ref x), .val (.ref ai), .unset, .unset, .unset] [(.ref x)] := by
  refine own_aloadN (pc2 := 1) d1_0 rfl rfl rfl ?_
  exact own_refl
theorem own_f1_1 (x : Addr) (ai : Addr) :
    own_Go own_K1 prog_20_method_1_code 4 #[.val (.ref x), .val (.ref ai), .unset, .unset, .unset] [] 12 #[.val (.ref x), .val (.ref ai), .val (.double (0 : UInt64)), .second, .val (.int (0 : Int32))] [(.ref ai), (.int (0 : Int32))] := by
  refine own_dconst0 (v := 0) (pc2 := 5) d1_4 rfl rfl ?_
  refine own_dstoreN (pc2 := 6) d1_5 rfl (L' := #[.val (.ref x), .val (.ref ai), .val (.double (0 : UInt64)), .second, .unset]) rfl ?_
  refine own_iconst (v := 0) (pc2 := 7) d1_6 rfl rfl ?_
  refine own_istore (pc2 := 9) d1_7 rfl (L' := #[.val (.ref x), .val (.ref ai), .val (.double (0 : UInt64)), .second, .val (.int (0 : Int32))]) rfl ?_
  refine own_iload (pc2 := 11) d1_9 rfl rfl ?_
  refine own_aloadN (pc2 := 12) d1_11 rfl rfl rfl ?_
  exact own_refl
theorem own_f1_2 (x : Addr) (ai : Addr) :
    own_Go own_K1 prog_20_method_1_code 13 #[.val (.ref x), .val (.ref ai), .val (.double (0 : UInt64)), .second, .val (.int (0 : Int32))] [(.int (1 : Int32)), (.int (0 : Int32))] 19 #[.val (.ref x), .val (.ref ai), .val (.double (0 : UInt64)), .second, .val (.int (0 : Int32))] [(.int (0 : Int32)), (.ref ai)] := by
  refine own_icmpNo (pc2 := 16) d1_13 rfl (by decide) ?_
  refine own_aloadN (pc2 := 17) d1_16 rfl rfl rfl ?_
  refine own_iload (pc2 := 19) d1_17 rfl rfl ?_
  exact own_refl
theorem own_f1_3 (x : Addr) (ai : Addr) :
    own_Go own_K1 prog_20_method_1_code 23 #[.val (.ref x), .val (.ref ai), .val (.double (0 : UInt64)), .second, .val (.int (0 : Int32))] [(.int (1 : Int32))] 29 #[.val (.ref x), .val (.ref ai), .val (.double (0 : UInt64)), .second, .val (.int (0 : Int32))] [(.int (0 : Int32)), (.ref ai)] := by
  refine own_ifNo (pc2 := 26) d1_23 rfl (by decide) ?_
  refine own_aloadN (pc2 := 27) d1_26 rfl rfl rfl ?_
  refine own_iload (pc2 := 29) d1_27 rfl rfl ?_
  exact own_refl
theorem own_f1_4 (x : Addr) (ai : Addr) (d0 : UInt64) (v31 : Int32) (hv31 : (cmpValue (FP.dcmp d0 (0 : UInt64)) .g) = v31) (hb32_0 : ifCond.holds .ge v31 = true) :
    own_Go own_K1 prog_20_method_1_code 30 #[.val (.ref x), .val (.ref ai), .val (.double (0 : UInt64)), .second, .val (.int (0 : Int32))] [(.double d0)] 54 #[.val (.ref x), .val (.ref ai), .val (.double (0 : UInt64)), .second, .val (.int (0 : Int32))] [] := by
  refine own_dconst0 (v := 0) (pc2 := 31) d1_30 rfl rfl ?_
  refine own_dcmp (pc2 := 32) d1_31 rfl (v := v31) hv31 ?_
  refine own_ifYes (pc' := 54) d1_32 hb32_0 (by decide) (by decide) ?_
  exact own_refl
theorem own_f1_5 (x : Addr) (ai : Addr) :
    own_Go own_K1 prog_20_method_1_code 54 #[.val (.ref x), .val (.ref ai), .val (.double (0 : UInt64)), .second, .val (.int (0 : Int32))] [] 58 #[.val (.ref x), .val (.ref ai), .val (.double (0 : UInt64)), .second, .val (.int (0 : Int32))] [(.int (0 : Int32)), (.ref ai), (.double (0 : UInt64))] := by
  refine own_dloadN (pc2 := 55) d1_54 rfl rfl ?_
  refine own_aloadN (pc2 := 56) d1_55 rfl rfl rfl ?_
  refine own_iload (pc2 := 58) d1_56 rfl rfl ?_
  exact own_refl
theorem own_f1_6 (x : Addr) (ai : Addr) (d0 : UInt64) (v59 : UInt64) (hv59 : (FP.dadd (0 : UInt64) d0) = v59) (nn59 : NoNaN64 (FP.dadd (0 : UInt64) d0)) :
    own_Go own_K1 prog_20_method_1_code 59 #[.val (.ref x), .val (.ref ai), .val (.double (0 : UInt64)), .second, .val (.int (0 : Int32))] [(.double d0), (.double (0 : UInt64))] 9 #[.val (.ref x), .val (.ref ai), .val (.double v59), .second, .val (.int (1 : Int32))] [] := by
  refine own_dadd (pc2 := 60) d1_59 rfl nn59 (v := v59) hv59 ?_
  refine own_dstoreN (pc2 := 61) d1_60 rfl (L' := #[.val (.ref x), .val (.ref ai), .val (.double v59), .second, .val (.int (0 : Int32))]) rfl ?_
  refine own_iinc (pc2 := 64) d1_61 rfl rfl (v := (1 : Int32)) (by decide) (L' := #[.val (.ref x), .val (.ref ai), .val (.double v59), .second, .val (.int (1 : Int32))]) rfl ?_
  refine own_goto (pc' := 9) d1_64 (by decide) (by decide) ?_
  exact own_refl
theorem own_f1_7 (x : Addr) (ai : Addr) (v59 : UInt64) :
    own_Go own_K1 prog_20_method_1_code 9 #[.val (.ref x), .val (.ref ai), .val (.double v59), .second, .val (.int (1 : Int32))] [] 12 #[.val (.ref x), .val (.ref ai), .val (.double v59), .second, .val (.int (1 : Int32))] [(.ref ai), (.int (1 : Int32))] := by
  refine own_iload (pc2 := 11) d1_9 rfl rfl ?_
  refine own_aloadN (pc2 := 12) d1_11 rfl rfl rfl ?_
  exact own_refl
theorem own_f1_8 (x : Addr) (ai : Addr) (v59 : UInt64) :
    own_Go own_K1 prog_20_method_1_code 13 #[.val (.ref x), .val (.ref ai), .val (.double v59), .second, .val (.int (1 : Int32))] [(.int (1 : Int32)), (.int (1 : Int32))] 68 #[.val (.ref x), .val (.ref ai), .val (.double v59), .second, .val (.int (1 : Int32))] [(.double v59)] := by
  refine own_icmpYes (pc' := 67) d1_13 (by decide) (by decide) (by decide) ?_
  refine own_dloadN (pc2 := 68) d1_67 rfl rfl ?_
  exact own_refl
theorem own_f1_9 (x : Addr) (ai : Addr) (v59 : UInt64) (v76 : Int32) (hv76 : (cmpValue (FP.dcmp v59 (0 : UInt64)) .g) = v76) (hb77 : ifCond.holds .gt v76 = true) :
    own_Go own_K1 prog_20_method_1_code 71 #[.val (.ref x), .val (.ref ai), .val (.double v59), .second, .val (.int (1 : Int32))] [(.int (1 : Int32))] 96 #[.val (.ref x), .val (.ref ai), .val (.double v59), .second, .val (.int (1 : Int32))] [(.ref ai), (.ref x)] := by
  refine own_ifNo (pc2 := 74) d1_71 rfl (by decide) ?_
  refine own_dloadN (pc2 := 75) d1_74 rfl rfl ?_
  refine own_dconst0 (v := 0) (pc2 := 76) d1_75 rfl rfl ?_
  refine own_dcmp (pc2 := 77) d1_76 rfl (v := v76) hv76 ?_
  refine own_ifYes (pc' := 94) d1_77 hb77 (by decide) (by decide) ?_
  refine own_aloadN (pc2 := 95) d1_94 rfl rfl rfl ?_
  refine own_aloadN (pc2 := 96) d1_95 rfl rfl rfl ?_
  exact own_refl
theorem own_f1_10 (x : Addr) (ai : Addr) (v59 : UInt64) :
    own_Go own_K1 prog_20_method_1_code 105 #[.val (.ref x), .val (.ref ai), .val (.double v59), .second, .val (.int (1 : Int32))] [] 107 #[.val (.ref x), .val (.ref ai), .val (.double v59), .second, .val (.int (1 : Int32))] [(.double v59), (.ref x)] := by
  refine own_aloadN (pc2 := 106) d1_105 rfl rfl rfl ?_
  refine own_dloadN (pc2 := 107) d1_106 rfl rfl ?_
  exact own_refl
set_option maxRecDepth 65536 in
set_option maxHeartbeats 4000000 in
theorem own_feed1 (l : Launch) (Z : State) (a0 : Array Value) (hb0 : Heap) (hw : ∀ d ∈ tables_1, d.before a0 Z = true) (x : Addr) (ai : Addr)  (d0 : UInt64) (A0 : Int) (i0 : own_is d0 ((A0 : Int) : Rat)) (k0 : 0 ≤ A0 ∧ A0 < 1048576) (hp : 0 < ((0 : Int) + A0)) :
    own_Met l Z a0 hb0 (⟨"com/example/tangentia/tangentia/flash/Feed", "<init>", "([D)V"⟩ : MethodName) prog_20_method_1_code 5 none [] ({ frames := 2, cells := 1, slots := 1, locals := 28 } : Room) #[(.ref x), (.ref ai)] [(ai, own_A .double [.double d0]), (x, own_O "com/example/tangentia/tangentia/flash/Feed" [("com/example/tangentia/tangentia/flash/Feed", "amounts", "[D", .null), ("com/example/tangentia/tangentia/flash/Feed", "total", "D", .double 0)])] (fun r cs' => ∃ y tt, own_is tt ((((0 : Int) + A0) : Int) : Rat) ∧ r = none ∧ cs' = [(ai, own_A .double [.double d0]), (x, own_O "com/example/tangentia/tangentia/flash/Feed" [("com/example/tangentia/tangentia/flash/Feed", "amounts", "[D", .ref y), ("com/example/tangentia/tangentia/flash/Feed", "total", "D", .double tt)]), (y, own_A .double [.double d0])]) := by
  refine own_met_of (L0 := #[.val (.ref x), .val (.ref ai), .unset, .unset, .unset]) (plainFor_of_name own_pn1) (fun m => own_ef1 m x ai) ?_
  intro p e s m below meth c T0 hx hZ hown hby hml hnm H0
  obtain ⟨Tf1_1, Hf1_1, stf1_1⟩ := own_initO H0 hx hZ hown (hw _ (List.mem_of_getElem? (i := 9) rfl)) (hw _ (List.mem_of_getElem? (i := 10) rfl)) (hw _ (List.mem_of_getElem? (i := 11) rfl)) (g := (mkF m 1 #[.val (.ref x), .val (.ref ai), .unset, .unset, .unset] [(.ref x)])) rfl (by rw [hml]; rfl) rfl (hb hby d1_1) (by decide) (W := 0) (by show 2 * 0 + _ ≤ _; exact Nat.le_of_eq rfl) (by decide)
  change own_S _ _ _ _ _ _ _ _ _ _ _ _ _ _ [(ai, own_A .double [.double d0]), (x, own_O "com/example/tangentia/tangentia/flash/Feed" [("com/example/tangentia/tangentia/flash/Feed", "amounts", "[D", .null), ("com/example/tangentia/tangentia/flash/Feed", "total", "D", .double 0)])] _ _ at Hf1_1
  have s0 : own_is (0 : UInt64) (((0 : Int) : Int) : Rat) := own_zero
  obtain ⟨Tf1_4, vf1_4_, csf1_4_, qf1_4, Hf1_4, stf1_4⟩ := own_callS Hf1_1 hx hZ hown (hw _ (List.mem_of_getElem? (i := 12) rfl)) (hw _ (List.mem_of_getElem? (i := 13) rfl)) (hw _ (List.mem_of_getElem? (i := 14) rfl)) (hw _ (List.mem_of_getElem? (i := 15) rfl)) (by decide) (argsL := [(.double d0)]) (rest := []) (W := 0) (own_isfin l Z a0 hb0 hw d0 (own_is_fin i0) _) (by decide) (by decide) (by decide) (by decide) (g := (mkF m 20 #[.val (.ref x), .val (.ref ai), .val (.double (0 : UInt64)), .second, .val (.int (0 : Int32))] [(.double d0)])) rfl (by rw [hml]; rfl) (lenOf own_pd3 rfl) rfl (by show 2 * 0 + _ ≤ _; exact Nat.le_of_eq rfl) (hb hby d1_20)
  obtain ⟨rfl, rfl⟩ := qf1_4
  change own_S _ _ _ _ _ _ _ _ _ _ _ _ _ _ [(ai, own_A .double [.double d0]), (x, own_O "com/example/tangentia/tangentia/flash/Feed" [("com/example/tangentia/tangentia/flash/Feed", "amounts", "[D", .null), ("com/example/tangentia/tangentia/flash/Feed", "total", "D", .double 0)])] _ _ at Hf1_4
  obtain ⟨v31, hv31⟩ : ∃ z : Int32, (cmpValue (FP.dcmp d0 (0 : UInt64)) .g) = z := ⟨_, rfl⟩
  obtain ⟨v59, hv59⟩ : ∃ z : UInt64, (FP.dadd (0 : UInt64) d0) = z := ⟨_, rfl⟩
  have r1 : own_rd v59 (((0 : Int) + A0 : Int) : Rat) := by rw [← hv59, Rat.intCast_add]; exact own_add s0 i0
  have s1 := own_rd_small r1 (by omega)
  have nn59 : NoNaN64 (FP.dadd (0 : UInt64) d0) := by rw [hv59]; exact own_is_no s1
  have hb32_0 : ifCond.holds .ge v31 = true := by rw [← hv31, own_c_ge i0 own_zero]; exact decide_eq_true (Rat.intCast_le_intCast.mpr (show (0 : Int) ≤ A0 by omega))
  obtain ⟨Tf1_8, vf1_8_, csf1_8_, qf1_8, Hf1_8, stf1_8⟩ := own_callS Hf1_4 hx hZ hown (hw _ (List.mem_of_getElem? (i := 12) rfl)) (hw _ (List.mem_of_getElem? (i := 13) rfl)) (hw _ (List.mem_of_getElem? (i := 14) rfl)) (hw _ (List.mem_of_getElem? (i := 15) rfl)) (by decide) (argsL := [(.double v59)]) (rest := []) (W := 0) (own_isfin l Z a0 hb0 hw v59 (own_is_fin s1) _) (by decide) (by decide) (by decide) (by decide) (g := (mkF m 68 #[.val (.ref x), .val (.ref ai), .val (.double v59), .second, .val (.int (1 : Int32))] [(.double v59)])) rfl (by rw [hml]; rfl) (lenOf own_pd3 rfl) rfl (by show 2 * 0 + _ ≤ _; exact Nat.le_of_eq rfl) (hb hby d1_68)
  obtain ⟨rfl, rfl⟩ := qf1_8
  change own_S _ _ _ _ _ _ _ _ _ _ _ _ _ _ [(ai, own_A .double [.double d0]), (x, own_O "com/example/tangentia/tangentia/flash/Feed" [("com/example/tangentia/tangentia/flash/Feed", "amounts", "[D", .null), ("com/example/tangentia/tangentia/flash/Feed", "total", "D", .double 0)])] _ _ at Hf1_8
  obtain ⟨v76, hv76⟩ : ∃ z : Int32, (cmpValue (FP.dcmp v59 (0 : UInt64)) .g) = z := ⟨_, rfl⟩
  obtain ⟨Tf1_9, y, Hf1_9, stf1_9⟩ := own_cloneA Hf1_8 hx hZ hown (hw _ (List.mem_of_getElem? (i := 21) rfl)) (hw _ (List.mem_of_getElem? (i := 22) rfl)) (hw _ (List.mem_of_getElem? (i := 26) rfl)) (hw _ (List.mem_of_getElem? (i := 24) rfl)) (hw _ (List.mem_of_getElem? (i := 25) rfl)) (hw _ (List.mem_of_getElem? (i := 27) rfl)) 0 rfl (fun _ _ _ q => own_ACd.mp q) (fun _ _ _ q => own_ACd.mpr q) (by
      intro v hv
      simp only [List.mem_cons, List.not_mem_nil, or_false] at hv
      rcases hv with rfl <;> rfl) (g := (mkF m 96 #[.val (.ref x), .val (.ref ai), .val (.double v59), .second, .val (.int (1 : Int32))] [(.ref ai), (.ref x)])) rfl (by rw [hml]; rfl) rfl (hb hby d1_96) (by decide) (W := 1) (by show 2 * 0 + _ ≤ _; exact Nat.le_of_eq rfl) (by decide) (cap := 1) (Nat.le_of_eq rfl) (by decide) (by decide)
  change own_S _ _ _ _ _ _ _ _ _ _ _ _ _ _ [(ai, own_A .double [.double d0]), (x, own_O "com/example/tangentia/tangentia/flash/Feed" [("com/example/tangentia/tangentia/flash/Feed", "amounts", "[D", .null), ("com/example/tangentia/tangentia/flash/Feed", "total", "D", .double 0)]), (y, own_A .double [.double d0])] _ _ at Hf1_9
  obtain ⟨Tf1_10, Hf1_10, stf1_10⟩ := own_castA Hf1_9 hx hZ hown (hw _ (List.mem_of_getElem? (i := 28) rfl)) 2 rfl (fun _ _ _ q => own_ACd.mp q) (g := (mkF m 99 #[.val (.ref x), .val (.ref ai), .val (.double v59), .second, .val (.int (1 : Int32))] [(.ref y), (.ref x)])) rfl rfl (hb hby d1_99)
  change own_S _ _ _ _ _ _ _ _ _ _ _ _ _ _ [(ai, own_A .double [.double d0]), (x, own_O "com/example/tangentia/tangentia/flash/Feed" [("com/example/tangentia/tangentia/flash/Feed", "amounts", "[D", .null), ("com/example/tangentia/tangentia/flash/Feed", "total", "D", .double 0)]), (y, own_A .double [.double d0])] _ _ at Hf1_10
  obtain ⟨Tf1_11, Hf1_11, stf1_11⟩ := own_putF Hf1_10 hx hZ hown (hw _ (List.mem_of_getElem? (i := 30) rfl)) 1 0 rfl rfl (Or.inr ⟨(hw _ (List.mem_of_getElem? (i := 31) rfl)), rfl, hnm⟩) (hw _ (List.mem_of_getElem? (i := 4) rfl)) (ty := (.array .double)) (by decide) rfl rfl (g := (mkF m 102 #[.val (.ref x), .val (.ref ai), .val (.double v59), .second, .val (.int (1 : Int32))] [(.ref y), (.ref x)])) rfl rfl (hb hby d1_102)
  change own_S _ _ _ _ _ _ _ _ _ _ _ _ _ _ [(ai, own_A .double [.double d0]), (x, own_O "com/example/tangentia/tangentia/flash/Feed" [("com/example/tangentia/tangentia/flash/Feed", "amounts", "[D", .ref y), ("com/example/tangentia/tangentia/flash/Feed", "total", "D", .double 0)]), (y, own_A .double [.double d0])] _ _ at Hf1_11
  obtain ⟨Tf1_12, Hf1_12, stf1_12⟩ := own_putF Hf1_11 hx hZ hown (hw _ (List.mem_of_getElem? (i := 32) rfl)) 1 1 rfl rfl (Or.inr ⟨(hw _ (List.mem_of_getElem? (i := 33) rfl)), rfl, hnm⟩) (hw _ (List.mem_of_getElem? (i := 4) rfl)) (ty := .double) (by decide) rfl rfl (g := (mkF m 107 #[.val (.ref x), .val (.ref ai), .val (.double v59), .second, .val (.int (1 : Int32))] [(.double v59), (.ref x)])) rfl rfl (hb hby d1_107)
  change own_S _ _ _ _ _ _ _ _ _ _ _ _ _ _ [(ai, own_A .double [.double d0]), (x, own_O "com/example/tangentia/tangentia/flash/Feed" [("com/example/tangentia/tangentia/flash/Feed", "amounts", "[D", .ref y), ("com/example/tangentia/tangentia/flash/Feed", "total", "D", .double v59)]), (y, own_A .double [.double d0])] _ _ at Hf1_12
  have hb77 : ifCond.holds .gt v76 = true := by rw [← hv76, own_c_gt s1 own_zero]; exact decide_eq_true (Rat.intCast_lt_intCast.mpr hp)
  refine ⟨_, _, _, _, 110, #[.val (.ref x), .val (.ref ai), .val (.double v59), .second, .val (.int (1 : Int32))], Hf1_12, by decide, by decide, Or.inl ⟨rfl, ⟨y, v59, s1, rfl, rfl⟩, d1_110, fun target q => ?_⟩⟩
  refine own_go H0 hx hZ hown hby hw own_K1_ok (own_f1_0 x ai) _ ?_
  refine stf1_1 _ ?_
  refine own_go Hf1_1 hx hZ hown hby hw own_K1_ok (own_f1_1 x ai) _ ?_
  refine own_arrlen Hf1_1 hx hZ 0 rfl (z := (1 : Int32)) rfl (g := (mkF m 12 #[.val (.ref x), .val (.ref ai), .val (.double (0 : UInt64)), .second, .val (.int (0 : Int32))] [(.ref ai), (.int (0 : Int32))])) rfl rfl (hb hby d1_12) _ ?_
  refine own_go Hf1_1 hx hZ hown hby hw own_K1_ok (own_f1_2 x ai) _ ?_
  refine own_daload Hf1_1 hx hZ 0 0 rfl (by decide) rfl (g := (mkF m 19 #[.val (.ref x), .val (.ref ai), .val (.double (0 : UInt64)), .second, .val (.int (0 : Int32))] [(.int (0 : Int32)), (.ref ai)])) rfl rfl (hb hby d1_19) _ ?_
  refine stf1_4 _ ?_
  refine own_go Hf1_4 hx hZ hown hby hw own_K1_ok (own_f1_3 x ai) _ ?_
  refine own_daload Hf1_4 hx hZ 0 0 rfl (by decide) rfl (g := (mkF m 29 #[.val (.ref x), .val (.ref ai), .val (.double (0 : UInt64)), .second, .val (.int (0 : Int32))] [(.int (0 : Int32)), (.ref ai)])) rfl rfl (hb hby d1_29) _ ?_
  refine own_go Hf1_4 hx hZ hown hby hw own_K1_ok (own_f1_4 x ai d0 v31 hv31 hb32_0) _ ?_
  refine own_go Hf1_4 hx hZ hown hby hw own_K1_ok (own_f1_5 x ai) _ ?_
  refine own_daload Hf1_4 hx hZ 0 0 rfl (by decide) rfl (g := (mkF m 58 #[.val (.ref x), .val (.ref ai), .val (.double (0 : UInt64)), .second, .val (.int (0 : Int32))] [(.int (0 : Int32)), (.ref ai), (.double (0 : UInt64))])) rfl rfl (hb hby d1_58) _ ?_
  refine own_go Hf1_4 hx hZ hown hby hw own_K1_ok (own_f1_6 x ai d0 v59 hv59 nn59) _ ?_
  refine own_go Hf1_4 hx hZ hown hby hw own_K1_ok (own_f1_7 x ai v59) _ ?_
  refine own_arrlen Hf1_4 hx hZ 0 rfl (z := (1 : Int32)) rfl (g := (mkF m 12 #[.val (.ref x), .val (.ref ai), .val (.double v59), .second, .val (.int (1 : Int32))] [(.ref ai), (.int (1 : Int32))])) rfl rfl (hb hby d1_12) _ ?_
  refine own_go Hf1_4 hx hZ hown hby hw own_K1_ok (own_f1_8 x ai v59) _ ?_
  refine stf1_8 _ ?_
  refine own_go Hf1_8 hx hZ hown hby hw own_K1_ok (own_f1_9 x ai v59 v76 hv76 hb77) _ ?_
  refine stf1_9 _ ?_
  refine stf1_10 _ ?_
  refine stf1_11 _ ?_
  refine own_go Hf1_11 hx hZ hown hby hw own_K1_ok (own_f1_10 x ai v59) _ ?_
  refine stf1_12 _ ?_
  exact q
theorem own_g10_0 (x : Addr) :
    own_Go own_K5 prog_20_method_6_code 0 #[.val (.ref x), .unset, .unset] [] 1 #[.val (.ref x), .unset, .unset] [(.ref x)] := by
  refine own_aloadN (pc2 := 1) d5_0 rfl rfl rfl ?_
  exact own_refl
theorem own_g10_1 (x : Addr) (z : Addr) :
    own_Go own_K5 prog_20_method_6_code 7 #[.val (.ref x), .unset, .unset] [(.ref z)] 12 #[.val (.ref x), .val (.ref z), .val (.int (0 : Int32))] [(.ref z), (.int (0 : Int32))] := by
  refine own_astoreN (pc2 := 8) d5_7 rfl rfl (L' := #[.val (.ref x), .val (.ref z), .unset]) rfl ?_
  refine own_iconst (v := 0) (pc2 := 9) d5_8 rfl rfl ?_
  refine own_istoreN (pc2 := 10) d5_9 rfl (L' := #[.val (.ref x), .val (.ref z), .val (.int (0 : Int32))]) rfl ?_
  refine own_iloadN (pc2 := 11) d5_10 rfl rfl ?_
  refine own_aloadN (pc2 := 12) d5_11 rfl rfl rfl ?_
  exact own_refl
theorem own_g10_2 (x : Addr) (z : Addr) :
    own_Go own_K5 prog_20_method_6_code 13 #[.val (.ref x), .val (.ref z), .val (.int (0 : Int32))] [(.int (1 : Int32)), (.int (0 : Int32))] 19 #[.val (.ref x), .val (.ref z), .val (.int (0 : Int32))] [(.ref x), (.int (0 : Int32)), (.ref z)] := by
  refine own_icmpNo (pc2 := 16) d5_13 rfl (by decide) ?_
  refine own_aloadN (pc2 := 17) d5_16 rfl rfl rfl ?_
  refine own_iloadN (pc2 := 18) d5_17 rfl rfl ?_
  refine own_aloadN (pc2 := 19) d5_18 rfl rfl rfl ?_
  exact own_refl
theorem own_g10_3 (x : Addr) (z : Addr) (y : Addr) :
    own_Go own_K5 prog_20_method_6_code 22 #[.val (.ref x), .val (.ref z), .val (.int (0 : Int32))] [(.ref y), (.int (0 : Int32)), (.ref z)] 23 #[.val (.ref x), .val (.ref z), .val (.int (0 : Int32))] [(.int (0 : Int32)), (.ref y), (.int (0 : Int32)), (.ref z)] := by
  refine own_iloadN (pc2 := 23) d5_22 rfl rfl ?_
  exact own_refl
theorem own_g10_4 (x : Addr) (z : Addr) (d0 : UInt64) :
    own_Go own_K5 prog_20_method_6_code 24 #[.val (.ref x), .val (.ref z), .val (.int (0 : Int32))] [(.double d0), (.int (0 : Int32)), (.ref z)] 25 #[.val (.ref x), .val (.ref z), .val (.int (0 : Int32))] [(.ref x), (.double d0), (.int (0 : Int32)), (.ref z)] := by
  refine own_aloadN (pc2 := 25) d5_24 rfl rfl rfl ?_
  exact own_refl
theorem own_g10_5 (x : Addr) (z : Addr) (tt : UInt64) (d0 : UInt64) (v28 : UInt64) (hv28 : (FP.ddiv d0 tt) = v28) (nn28 : NoNaN64 (FP.ddiv d0 tt)) :
    own_Go own_K5 prog_20_method_6_code 28 #[.val (.ref x), .val (.ref z), .val (.int (0 : Int32))] [(.double tt), (.double d0), (.int (0 : Int32)), (.ref z)] 29 #[.val (.ref x), .val (.ref z), .val (.int (0 : Int32))] [(.double v28), (.int (0 : Int32)), (.ref z)] := by
  refine own_ddiv (pc2 := 29) d5_28 rfl nn28 (v := v28) hv28 ?_
  exact own_refl
theorem own_g10_6 (x : Addr) (z : Addr) :
    own_Go own_K5 prog_20_method_6_code 30 #[.val (.ref x), .val (.ref z), .val (.int (0 : Int32))] [] 12 #[.val (.ref x), .val (.ref z), .val (.int (1 : Int32))] [(.ref z), (.int (1 : Int32))] := by
  refine own_iinc (pc2 := 33) d5_30 rfl rfl (v := (1 : Int32)) (by decide) (L' := #[.val (.ref x), .val (.ref z), .val (.int (1 : Int32))]) rfl ?_
  refine own_goto (pc' := 10) d5_33 (by decide) (by decide) ?_
  refine own_iloadN (pc2 := 11) d5_10 rfl rfl ?_
  refine own_aloadN (pc2 := 12) d5_11 rfl rfl rfl ?_
  exact own_refl
theorem own_g10_7 (x : Addr) (z : Addr) :
    own_Go own_K5 prog_20_method_6_code 13 #[.val (.ref x), .val (.ref z), .val (.int (1 : Int32))] [(.int (1 : Int32)), (.int (1 : Int32))] 37 #[.val (.ref x), .val (.ref z), .val (.int (1 : Int32))] [(.ref z)] := by
  refine own_icmpYes (pc' := 36) d5_13 (by decide) (by decide) (by decide) ?_
  refine own_aloadN (pc2 := 37) d5_36 rfl rfl rfl ?_
  exact own_refl
set_option maxRecDepth 65536 in
set_option maxHeartbeats 4000000 in
theorem own_mol10 (l : Launch) (Z : State) (a0 : Array Value) (hb0 : Heap) (hw : ∀ d ∈ tables_1, d.before a0 Z = true) (x : Addr) (ai y : Addr) (qa : own_Cel) (tt : UInt64) (d0 : UInt64) (nn0 : NoNaN64 (FP.ddiv d0 tt)) :
    own_Met l Z a0 hb0 (⟨"com/example/tangentia/tangentia/flash/Feed", "moleFractions", "()[D"⟩ : MethodName) prog_20_method_6_code 3 (some (.array .double)) [] ({ frames := 0, cells := 1, slots := 1, locals := 0 } : Room) #[(.ref x)] [(ai, qa), (x, own_O "com/example/tangentia/tangentia/flash/Feed" [("com/example/tangentia/tangentia/flash/Feed", "amounts", "[D", .ref y), ("com/example/tangentia/tangentia/flash/Feed", "total", "D", .double tt)]), (y, own_A .double [.double d0])] (fun r cs' => ∃ z, r = some (.ref z) ∧ cs' = [(ai, qa), (x, own_O "com/example/tangentia/tangentia/flash/Feed" [("com/example/tangentia/tangentia/flash/Feed", "amounts", "[D", .ref y), ("com/example/tangentia/tangentia/flash/Feed", "total", "D", .double tt)]), (y, own_A .double [.double d0]), (z, own_A .double [.double (FP.ddiv d0 tt)])]) := by
  refine own_met_of (L0 := #[.val (.ref x), .unset, .unset]) (plainFor_of_name own_pn5) (fun m => own_ef5 m x) ?_
  intro p e s m below meth c T0 hx hZ hown hby hml hnm H0
  obtain ⟨Tg10_1, Hg10_1, stg10_1⟩ := own_getF H0 hx hZ hown (hw _ (List.mem_of_getElem? (i := 30) rfl)) 1 0 rfl rfl (g := (mkF m 1 #[.val (.ref x), .unset, .unset] [(.ref x)])) rfl rfl (hb hby d5_1)
  change own_S _ _ _ _ _ _ _ _ _ _ _ _ _ _ [(ai, qa), (x, own_O "com/example/tangentia/tangentia/flash/Feed" [("com/example/tangentia/tangentia/flash/Feed", "amounts", "[D", .ref y), ("com/example/tangentia/tangentia/flash/Feed", "total", "D", .double tt)]), (y, own_A .double [.double d0])] _ _ at Hg10_1
  obtain ⟨Tg10_3, z, Hg10_3, stg10_3⟩ := own_newA Hg10_1 hx hZ (hw _ (List.mem_of_getElem? (i := 2) rfl)) (g := (mkF m 5 #[.val (.ref x), .unset, .unset] [(.int (1 : Int32))])) rfl (hb hby d5_5) rfl (by decide) (cap := 1) (by decide) (by decide) (by decide) (by decide)
  change own_S _ _ _ _ _ _ _ _ _ _ _ _ _ _ [(ai, qa), (x, own_O "com/example/tangentia/tangentia/flash/Feed" [("com/example/tangentia/tangentia/flash/Feed", "amounts", "[D", .ref y), ("com/example/tangentia/tangentia/flash/Feed", "total", "D", .double tt)]), (y, own_A .double [.double d0]), (z, own_A .double [.double 0])] _ _ at Hg10_3
  obtain ⟨Tg10_5, Hg10_5, stg10_5⟩ := own_getF Hg10_3 hx hZ hown (hw _ (List.mem_of_getElem? (i := 30) rfl)) 1 0 rfl rfl (g := (mkF m 19 #[.val (.ref x), .val (.ref z), .val (.int (0 : Int32))] [(.ref x), (.int (0 : Int32)), (.ref z)])) rfl rfl (hb hby d5_19)
  change own_S _ _ _ _ _ _ _ _ _ _ _ _ _ _ [(ai, qa), (x, own_O "com/example/tangentia/tangentia/flash/Feed" [("com/example/tangentia/tangentia/flash/Feed", "amounts", "[D", .ref y), ("com/example/tangentia/tangentia/flash/Feed", "total", "D", .double tt)]), (y, own_A .double [.double d0]), (z, own_A .double [.double 0])] _ _ at Hg10_5
  obtain ⟨Tg10_7, Hg10_7, stg10_7⟩ := own_getF Hg10_5 hx hZ hown (hw _ (List.mem_of_getElem? (i := 32) rfl)) 1 1 rfl rfl (g := (mkF m 25 #[.val (.ref x), .val (.ref z), .val (.int (0 : Int32))] [(.ref x), (.double d0), (.int (0 : Int32)), (.ref z)])) rfl rfl (hb hby d5_25)
  change own_S _ _ _ _ _ _ _ _ _ _ _ _ _ _ [(ai, qa), (x, own_O "com/example/tangentia/tangentia/flash/Feed" [("com/example/tangentia/tangentia/flash/Feed", "amounts", "[D", .ref y), ("com/example/tangentia/tangentia/flash/Feed", "total", "D", .double tt)]), (y, own_A .double [.double d0]), (z, own_A .double [.double 0])] _ _ at Hg10_7
  obtain ⟨v28, hv28⟩ : ∃ z : UInt64, (FP.ddiv d0 tt) = z := ⟨_, rfl⟩
  obtain ⟨Tg10_8, Hg10_8, stg10_8⟩ := own_dastore Hg10_7 hx hZ 3 0 rfl (by decide) (Nat.le_of_ble_eq_true rfl) (g := (mkF m 29 #[.val (.ref x), .val (.ref z), .val (.int (0 : Int32))] [(.double v28), (.int (0 : Int32)), (.ref z)])) rfl rfl (hb hby d5_29)
  change own_S _ _ _ _ _ _ _ _ _ _ _ _ _ _ [(ai, qa), (x, own_O "com/example/tangentia/tangentia/flash/Feed" [("com/example/tangentia/tangentia/flash/Feed", "amounts", "[D", .ref y), ("com/example/tangentia/tangentia/flash/Feed", "total", "D", .double tt)]), (y, own_A .double [.double d0]), (z, own_A .double [.double v28])] _ _ at Hg10_8
  have nn28 : NoNaN64 (FP.ddiv d0 tt) := nn0
  refine ⟨_, _, _, _, 37, #[.val (.ref x), .val (.ref z), .val (.int (1 : Int32))], Hg10_8, by decide, by decide, Or.inr ⟨(.array .double), (.ref z), [], .areturn, rfl, ⟨z, rfl, by rw [hv28]⟩, d5_37, own_retA _, fun target q => ?_⟩⟩
  refine own_go H0 hx hZ hown hby hw own_K5_ok (own_g10_0 x) _ ?_
  refine stg10_1 _ ?_
  refine own_arrlen Hg10_1 hx hZ 2 rfl (z := (1 : Int32)) rfl (g := (mkF m 4 #[.val (.ref x), .unset, .unset] [(.ref y)])) rfl rfl (hb hby d5_4) _ ?_
  refine stg10_3 _ ?_
  refine own_go Hg10_3 hx hZ hown hby hw own_K5_ok (own_g10_1 x z) _ ?_
  refine own_arrlen Hg10_3 hx hZ 3 rfl (z := (1 : Int32)) rfl (g := (mkF m 12 #[.val (.ref x), .val (.ref z), .val (.int (0 : Int32))] [(.ref z), (.int (0 : Int32))])) rfl rfl (hb hby d5_12) _ ?_
  refine own_go Hg10_3 hx hZ hown hby hw own_K5_ok (own_g10_2 x z) _ ?_
  refine stg10_5 _ ?_
  refine own_go Hg10_5 hx hZ hown hby hw own_K5_ok (own_g10_3 x z y) _ ?_
  refine own_daload Hg10_5 hx hZ 2 0 rfl (by decide) rfl (g := (mkF m 23 #[.val (.ref x), .val (.ref z), .val (.int (0 : Int32))] [(.int (0 : Int32)), (.ref y), (.int (0 : Int32)), (.ref z)])) rfl rfl (hb hby d5_23) _ ?_
  refine own_go Hg10_5 hx hZ hown hby hw own_K5_ok (own_g10_4 x z d0) _ ?_
  refine stg10_7 _ ?_
  refine own_go Hg10_7 hx hZ hown hby hw own_K5_ok (own_g10_5 x z tt d0 v28 hv28 nn28) _ ?_
  refine stg10_8 _ ?_
  refine own_go Hg10_8 hx hZ hown hby hw own_K5_ok (own_g10_6 x z) _ ?_
  refine own_arrlen Hg10_8 hx hZ 3 rfl (z := (1 : Int32)) rfl (g := (mkF m 12 #[.val (.ref x), .val (.ref z), .val (.int (1 : Int32))] [(.ref z), (.int (1 : Int32))])) rfl rfl (hb hby d5_12) _ ?_
  refine own_go Hg10_8 hx hZ hown hby hw own_K5_ok (own_g10_7 x z) _ ?_
  exact q
theorem own_g11_0 (x : Addr) :
    own_Go own_K5 prog_20_method_6_code 0 #[.val (.ref x), .unset, .unset] [] 1 #[.val (.ref x), .unset, .unset] [(.ref x)] := by
  refine own_aloadN (pc2 := 1) d5_0 rfl rfl rfl ?_
  exact own_refl
theorem own_g11_1 (x : Addr) (z : Addr) :
    own_Go own_K5 prog_20_method_6_code 7 #[.val (.ref x), .unset, .unset] [(.ref z)] 12 #[.val (.ref x), .val (.ref z), .val (.int (0 : Int32))] [(.ref z), (.int (0 : Int32))] := by
  refine own_astoreN (pc2 := 8) d5_7 rfl rfl (L' := #[.val (.ref x), .val (.ref z), .unset]) rfl ?_
  refine own_iconst (v := 0) (pc2 := 9) d5_8 rfl rfl ?_
  refine own_istoreN (pc2 := 10) d5_9 rfl (L' := #[.val (.ref x), .val (.ref z), .val (.int (0 : Int32))]) rfl ?_
  refine own_iloadN (pc2 := 11) d5_10 rfl rfl ?_
  refine own_aloadN (pc2 := 12) d5_11 rfl rfl rfl ?_
  exact own_refl
theorem own_g11_2 (x : Addr) (z : Addr) :
    own_Go own_K5 prog_20_method_6_code 13 #[.val (.ref x), .val (.ref z), .val (.int (0 : Int32))] [(.int (1 : Int32)), (.int (0 : Int32))] 19 #[.val (.ref x), .val (.ref z), .val (.int (0 : Int32))] [(.ref x), (.int (0 : Int32)), (.ref z)] := by
  refine own_icmpNo (pc2 := 16) d5_13 rfl (by decide) ?_
  refine own_aloadN (pc2 := 17) d5_16 rfl rfl rfl ?_
  refine own_iloadN (pc2 := 18) d5_17 rfl rfl ?_
  refine own_aloadN (pc2 := 19) d5_18 rfl rfl rfl ?_
  exact own_refl
theorem own_g11_3 (x : Addr) (z : Addr) (y : Addr) :
    own_Go own_K5 prog_20_method_6_code 22 #[.val (.ref x), .val (.ref z), .val (.int (0 : Int32))] [(.ref y), (.int (0 : Int32)), (.ref z)] 23 #[.val (.ref x), .val (.ref z), .val (.int (0 : Int32))] [(.int (0 : Int32)), (.ref y), (.int (0 : Int32)), (.ref z)] := by
  refine own_iloadN (pc2 := 23) d5_22 rfl rfl ?_
  exact own_refl
theorem own_g11_4 (x : Addr) (z : Addr) (d0 : UInt64) :
    own_Go own_K5 prog_20_method_6_code 24 #[.val (.ref x), .val (.ref z), .val (.int (0 : Int32))] [(.double d0), (.int (0 : Int32)), (.ref z)] 25 #[.val (.ref x), .val (.ref z), .val (.int (0 : Int32))] [(.ref x), (.double d0), (.int (0 : Int32)), (.ref z)] := by
  refine own_aloadN (pc2 := 25) d5_24 rfl rfl rfl ?_
  exact own_refl
theorem own_g11_5 (x : Addr) (z : Addr) (tt : UInt64) (d0 : UInt64) (v28 : UInt64) (hv28 : (FP.ddiv d0 tt) = v28) (nn28 : NoNaN64 (FP.ddiv d0 tt)) :
    own_Go own_K5 prog_20_method_6_code 28 #[.val (.ref x), .val (.ref z), .val (.int (0 : Int32))] [(.double tt), (.double d0), (.int (0 : Int32)), (.ref z)] 29 #[.val (.ref x), .val (.ref z), .val (.int (0 : Int32))] [(.double v28), (.int (0 : Int32)), (.ref z)] := by
  refine own_ddiv (pc2 := 29) d5_28 rfl nn28 (v := v28) hv28 ?_
  exact own_refl
theorem own_g11_6 (x : Addr) (z : Addr) :
    own_Go own_K5 prog_20_method_6_code 30 #[.val (.ref x), .val (.ref z), .val (.int (0 : Int32))] [] 12 #[.val (.ref x), .val (.ref z), .val (.int (1 : Int32))] [(.ref z), (.int (1 : Int32))] := by
  refine own_iinc (pc2 := 33) d5_30 rfl rfl (v := (1 : Int32)) (by decide) (L' := #[.val (.ref x), .val (.ref z), .val (.int (1 : Int32))]) rfl ?_
  refine own_goto (pc' := 10) d5_33 (by decide) (by decide) ?_
  refine own_iloadN (pc2 := 11) d5_10 rfl rfl ?_
  refine own_aloadN (pc2 := 12) d5_11 rfl rfl rfl ?_
  exact own_refl
theorem own_g11_7 (x : Addr) (z : Addr) :
    own_Go own_K5 prog_20_method_6_code 13 #[.val (.ref x), .val (.ref z), .val (.int (1 : Int32))] [(.int (1 : Int32)), (.int (1 : Int32))] 37 #[.val (.ref x), .val (.ref z), .val (.int (1 : Int32))] [(.ref z)] := by
  refine own_icmpYes (pc' := 36) d5_13 (by decide) (by decide) (by decide) ?_
  refine own_aloadN (pc2 := 37) d5_36 rfl rfl rfl ?_
  exact own_refl
set_option maxRecDepth 65536 in
set_option maxHeartbeats 4000000 in
theorem own_mol11 (l : Launch) (Z : State) (a0 : Array Value) (hb0 : Heap) (hw : ∀ d ∈ tables_1, d.before a0 Z = true) (x : Addr) (ai y : Addr) (qa : own_Cel) (tt : UInt64) (d0 : UInt64) (nn0 : NoNaN64 (FP.ddiv d0 tt)) (z0 : Addr) (q0 : own_Cel) :
    own_Met l Z a0 hb0 (⟨"com/example/tangentia/tangentia/flash/Feed", "moleFractions", "()[D"⟩ : MethodName) prog_20_method_6_code 3 (some (.array .double)) [] ({ frames := 0, cells := 1, slots := 1, locals := 0 } : Room) #[(.ref x)] [(ai, qa), (x, own_O "com/example/tangentia/tangentia/flash/Feed" [("com/example/tangentia/tangentia/flash/Feed", "amounts", "[D", .ref y), ("com/example/tangentia/tangentia/flash/Feed", "total", "D", .double tt)]), (y, own_A .double [.double d0]), (z0, q0)] (fun r cs' => ∃ z, r = some (.ref z) ∧ cs' = [(ai, qa), (x, own_O "com/example/tangentia/tangentia/flash/Feed" [("com/example/tangentia/tangentia/flash/Feed", "amounts", "[D", .ref y), ("com/example/tangentia/tangentia/flash/Feed", "total", "D", .double tt)]), (y, own_A .double [.double d0]), (z0, q0), (z, own_A .double [.double (FP.ddiv d0 tt)])]) := by
  refine own_met_of (L0 := #[.val (.ref x), .unset, .unset]) (plainFor_of_name own_pn5) (fun m => own_ef5 m x) ?_
  intro p e s m below meth c T0 hx hZ hown hby hml hnm H0
  obtain ⟨Tg11_1, Hg11_1, stg11_1⟩ := own_getF H0 hx hZ hown (hw _ (List.mem_of_getElem? (i := 30) rfl)) 1 0 rfl rfl (g := (mkF m 1 #[.val (.ref x), .unset, .unset] [(.ref x)])) rfl rfl (hb hby d5_1)
  change own_S _ _ _ _ _ _ _ _ _ _ _ _ _ _ [(ai, qa), (x, own_O "com/example/tangentia/tangentia/flash/Feed" [("com/example/tangentia/tangentia/flash/Feed", "amounts", "[D", .ref y), ("com/example/tangentia/tangentia/flash/Feed", "total", "D", .double tt)]), (y, own_A .double [.double d0]), (z0, q0)] _ _ at Hg11_1
  obtain ⟨Tg11_3, z, Hg11_3, stg11_3⟩ := own_newA Hg11_1 hx hZ (hw _ (List.mem_of_getElem? (i := 2) rfl)) (g := (mkF m 5 #[.val (.ref x), .unset, .unset] [(.int (1 : Int32))])) rfl (hb hby d5_5) rfl (by decide) (cap := 1) (by decide) (by decide) (by decide) (by decide)
  change own_S _ _ _ _ _ _ _ _ _ _ _ _ _ _ [(ai, qa), (x, own_O "com/example/tangentia/tangentia/flash/Feed" [("com/example/tangentia/tangentia/flash/Feed", "amounts", "[D", .ref y), ("com/example/tangentia/tangentia/flash/Feed", "total", "D", .double tt)]), (y, own_A .double [.double d0]), (z0, q0), (z, own_A .double [.double 0])] _ _ at Hg11_3
  obtain ⟨Tg11_5, Hg11_5, stg11_5⟩ := own_getF Hg11_3 hx hZ hown (hw _ (List.mem_of_getElem? (i := 30) rfl)) 1 0 rfl rfl (g := (mkF m 19 #[.val (.ref x), .val (.ref z), .val (.int (0 : Int32))] [(.ref x), (.int (0 : Int32)), (.ref z)])) rfl rfl (hb hby d5_19)
  change own_S _ _ _ _ _ _ _ _ _ _ _ _ _ _ [(ai, qa), (x, own_O "com/example/tangentia/tangentia/flash/Feed" [("com/example/tangentia/tangentia/flash/Feed", "amounts", "[D", .ref y), ("com/example/tangentia/tangentia/flash/Feed", "total", "D", .double tt)]), (y, own_A .double [.double d0]), (z0, q0), (z, own_A .double [.double 0])] _ _ at Hg11_5
  obtain ⟨Tg11_7, Hg11_7, stg11_7⟩ := own_getF Hg11_5 hx hZ hown (hw _ (List.mem_of_getElem? (i := 32) rfl)) 1 1 rfl rfl (g := (mkF m 25 #[.val (.ref x), .val (.ref z), .val (.int (0 : Int32))] [(.ref x), (.double d0), (.int (0 : Int32)), (.ref z)])) rfl rfl (hb hby d5_25)
  change own_S _ _ _ _ _ _ _ _ _ _ _ _ _ _ [(ai, qa), (x, own_O "com/example/tangentia/tangentia/flash/Feed" [("com/example/tangentia/tangentia/flash/Feed", "amounts", "[D", .ref y), ("com/example/tangentia/tangentia/flash/Feed", "total", "D", .double tt)]), (y, own_A .double [.double d0]), (z0, q0), (z, own_A .double [.double 0])] _ _ at Hg11_7
  obtain ⟨v28, hv28⟩ : ∃ z : UInt64, (FP.ddiv d0 tt) = z := ⟨_, rfl⟩
  obtain ⟨Tg11_8, Hg11_8, stg11_8⟩ := own_dastore Hg11_7 hx hZ 4 0 rfl (by decide) (Nat.le_of_ble_eq_true rfl) (g := (mkF m 29 #[.val (.ref x), .val (.ref z), .val (.int (0 : Int32))] [(.double v28), (.int (0 : Int32)), (.ref z)])) rfl rfl (hb hby d5_29)
  change own_S _ _ _ _ _ _ _ _ _ _ _ _ _ _ [(ai, qa), (x, own_O "com/example/tangentia/tangentia/flash/Feed" [("com/example/tangentia/tangentia/flash/Feed", "amounts", "[D", .ref y), ("com/example/tangentia/tangentia/flash/Feed", "total", "D", .double tt)]), (y, own_A .double [.double d0]), (z0, q0), (z, own_A .double [.double v28])] _ _ at Hg11_8
  have nn28 : NoNaN64 (FP.ddiv d0 tt) := nn0
  refine ⟨_, _, _, _, 37, #[.val (.ref x), .val (.ref z), .val (.int (1 : Int32))], Hg11_8, by decide, by decide, Or.inr ⟨(.array .double), (.ref z), [], .areturn, rfl, ⟨z, rfl, by rw [hv28]⟩, d5_37, own_retA _, fun target q => ?_⟩⟩
  refine own_go H0 hx hZ hown hby hw own_K5_ok (own_g11_0 x) _ ?_
  refine stg11_1 _ ?_
  refine own_arrlen Hg11_1 hx hZ 2 rfl (z := (1 : Int32)) rfl (g := (mkF m 4 #[.val (.ref x), .unset, .unset] [(.ref y)])) rfl rfl (hb hby d5_4) _ ?_
  refine stg11_3 _ ?_
  refine own_go Hg11_3 hx hZ hown hby hw own_K5_ok (own_g11_1 x z) _ ?_
  refine own_arrlen Hg11_3 hx hZ 4 rfl (z := (1 : Int32)) rfl (g := (mkF m 12 #[.val (.ref x), .val (.ref z), .val (.int (0 : Int32))] [(.ref z), (.int (0 : Int32))])) rfl rfl (hb hby d5_12) _ ?_
  refine own_go Hg11_3 hx hZ hown hby hw own_K5_ok (own_g11_2 x z) _ ?_
  refine stg11_5 _ ?_
  refine own_go Hg11_5 hx hZ hown hby hw own_K5_ok (own_g11_3 x z y) _ ?_
  refine own_daload Hg11_5 hx hZ 2 0 rfl (by decide) rfl (g := (mkF m 23 #[.val (.ref x), .val (.ref z), .val (.int (0 : Int32))] [(.int (0 : Int32)), (.ref y), (.int (0 : Int32)), (.ref z)])) rfl rfl (hb hby d5_23) _ ?_
  refine own_go Hg11_5 hx hZ hown hby hw own_K5_ok (own_g11_4 x z d0) _ ?_
  refine stg11_7 _ ?_
  refine own_go Hg11_7 hx hZ hown hby hw own_K5_ok (own_g11_5 x z tt d0 v28 hv28 nn28) _ ?_
  refine stg11_8 _ ?_
  refine own_go Hg11_8 hx hZ hown hby hw own_K5_ok (own_g11_6 x z) _ ?_
  refine own_arrlen Hg11_8 hx hZ 4 rfl (z := (1 : Int32)) rfl (g := (mkF m 12 #[.val (.ref x), .val (.ref z), .val (.int (1 : Int32))] [(.ref z), (.int (1 : Int32))])) rfl rfl (hb hby d5_12) _ ?_
  refine own_go Hg11_8 hx hZ hown hby hw own_K5_ok (own_g11_7 x z) _ ?_
  exact q
theorem own_f2_0 (x : Addr) (ai : Addr) :
    own_Go own_K1 prog_20_method_1_code 0 #[.val (.ref x), .val (.ref ai), .unset, .unset, .unset] [] 1 #[.val (.ref x), .val (.ref ai), .unset, .unset, .unset] [(.ref x)] := by
  refine own_aloadN (pc2 := 1) d1_0 rfl rfl rfl ?_
  exact own_refl
theorem own_f2_1 (x : Addr) (ai : Addr) :
    own_Go own_K1 prog_20_method_1_code 4 #[.val (.ref x), .val (.ref ai), .unset, .unset, .unset] [] 12 #[.val (.ref x), .val (.ref ai), .val (.double (0 : UInt64)), .second, .val (.int (0 : Int32))] [(.ref ai), (.int (0 : Int32))] := by
  refine own_dconst0 (v := 0) (pc2 := 5) d1_4 rfl rfl ?_
  refine own_dstoreN (pc2 := 6) d1_5 rfl (L' := #[.val (.ref x), .val (.ref ai), .val (.double (0 : UInt64)), .second, .unset]) rfl ?_
  refine own_iconst (v := 0) (pc2 := 7) d1_6 rfl rfl ?_
  refine own_istore (pc2 := 9) d1_7 rfl (L' := #[.val (.ref x), .val (.ref ai), .val (.double (0 : UInt64)), .second, .val (.int (0 : Int32))]) rfl ?_
  refine own_iload (pc2 := 11) d1_9 rfl rfl ?_
  refine own_aloadN (pc2 := 12) d1_11 rfl rfl rfl ?_
  exact own_refl
theorem own_f2_2 (x : Addr) (ai : Addr) :
    own_Go own_K1 prog_20_method_1_code 13 #[.val (.ref x), .val (.ref ai), .val (.double (0 : UInt64)), .second, .val (.int (0 : Int32))] [(.int (2 : Int32)), (.int (0 : Int32))] 19 #[.val (.ref x), .val (.ref ai), .val (.double (0 : UInt64)), .second, .val (.int (0 : Int32))] [(.int (0 : Int32)), (.ref ai)] := by
  refine own_icmpNo (pc2 := 16) d1_13 rfl (by decide) ?_
  refine own_aloadN (pc2 := 17) d1_16 rfl rfl rfl ?_
  refine own_iload (pc2 := 19) d1_17 rfl rfl ?_
  exact own_refl
theorem own_f2_3 (x : Addr) (ai : Addr) :
    own_Go own_K1 prog_20_method_1_code 23 #[.val (.ref x), .val (.ref ai), .val (.double (0 : UInt64)), .second, .val (.int (0 : Int32))] [(.int (1 : Int32))] 29 #[.val (.ref x), .val (.ref ai), .val (.double (0 : UInt64)), .second, .val (.int (0 : Int32))] [(.int (0 : Int32)), (.ref ai)] := by
  refine own_ifNo (pc2 := 26) d1_23 rfl (by decide) ?_
  refine own_aloadN (pc2 := 27) d1_26 rfl rfl rfl ?_
  refine own_iload (pc2 := 29) d1_27 rfl rfl ?_
  exact own_refl
theorem own_f2_4 (x : Addr) (ai : Addr) (d0 : UInt64) (v31 : Int32) (hv31 : (cmpValue (FP.dcmp d0 (0 : UInt64)) .g) = v31) (hb32_0 : ifCond.holds .ge v31 = true) :
    own_Go own_K1 prog_20_method_1_code 30 #[.val (.ref x), .val (.ref ai), .val (.double (0 : UInt64)), .second, .val (.int (0 : Int32))] [(.double d0)] 54 #[.val (.ref x), .val (.ref ai), .val (.double (0 : UInt64)), .second, .val (.int (0 : Int32))] [] := by
  refine own_dconst0 (v := 0) (pc2 := 31) d1_30 rfl rfl ?_
  refine own_dcmp (pc2 := 32) d1_31 rfl (v := v31) hv31 ?_
  refine own_ifYes (pc' := 54) d1_32 hb32_0 (by decide) (by decide) ?_
  exact own_refl
theorem own_f2_5 (x : Addr) (ai : Addr) :
    own_Go own_K1 prog_20_method_1_code 54 #[.val (.ref x), .val (.ref ai), .val (.double (0 : UInt64)), .second, .val (.int (0 : Int32))] [] 58 #[.val (.ref x), .val (.ref ai), .val (.double (0 : UInt64)), .second, .val (.int (0 : Int32))] [(.int (0 : Int32)), (.ref ai), (.double (0 : UInt64))] := by
  refine own_dloadN (pc2 := 55) d1_54 rfl rfl ?_
  refine own_aloadN (pc2 := 56) d1_55 rfl rfl rfl ?_
  refine own_iload (pc2 := 58) d1_56 rfl rfl ?_
  exact own_refl
theorem own_f2_6 (x : Addr) (ai : Addr) (d0 : UInt64) (v59 : UInt64) (hv59 : (FP.dadd (0 : UInt64) d0) = v59) (nn59 : NoNaN64 (FP.dadd (0 : UInt64) d0)) :
    own_Go own_K1 prog_20_method_1_code 59 #[.val (.ref x), .val (.ref ai), .val (.double (0 : UInt64)), .second, .val (.int (0 : Int32))] [(.double d0), (.double (0 : UInt64))] 9 #[.val (.ref x), .val (.ref ai), .val (.double v59), .second, .val (.int (1 : Int32))] [] := by
  refine own_dadd (pc2 := 60) d1_59 rfl nn59 (v := v59) hv59 ?_
  refine own_dstoreN (pc2 := 61) d1_60 rfl (L' := #[.val (.ref x), .val (.ref ai), .val (.double v59), .second, .val (.int (0 : Int32))]) rfl ?_
  refine own_iinc (pc2 := 64) d1_61 rfl rfl (v := (1 : Int32)) (by decide) (L' := #[.val (.ref x), .val (.ref ai), .val (.double v59), .second, .val (.int (1 : Int32))]) rfl ?_
  refine own_goto (pc' := 9) d1_64 (by decide) (by decide) ?_
  exact own_refl
theorem own_f2_7 (x : Addr) (ai : Addr) (v59 : UInt64) :
    own_Go own_K1 prog_20_method_1_code 9 #[.val (.ref x), .val (.ref ai), .val (.double v59), .second, .val (.int (1 : Int32))] [] 12 #[.val (.ref x), .val (.ref ai), .val (.double v59), .second, .val (.int (1 : Int32))] [(.ref ai), (.int (1 : Int32))] := by
  refine own_iload (pc2 := 11) d1_9 rfl rfl ?_
  refine own_aloadN (pc2 := 12) d1_11 rfl rfl rfl ?_
  exact own_refl
theorem own_f2_8 (x : Addr) (ai : Addr) (v59 : UInt64) :
    own_Go own_K1 prog_20_method_1_code 13 #[.val (.ref x), .val (.ref ai), .val (.double v59), .second, .val (.int (1 : Int32))] [(.int (2 : Int32)), (.int (1 : Int32))] 19 #[.val (.ref x), .val (.ref ai), .val (.double v59), .second, .val (.int (1 : Int32))] [(.int (1 : Int32)), (.ref ai)] := by
  refine own_icmpNo (pc2 := 16) d1_13 rfl (by decide) ?_
  refine own_aloadN (pc2 := 17) d1_16 rfl rfl rfl ?_
  refine own_iload (pc2 := 19) d1_17 rfl rfl ?_
  exact own_refl
theorem own_f2_9 (x : Addr) (ai : Addr) (v59 : UInt64) :
    own_Go own_K1 prog_20_method_1_code 23 #[.val (.ref x), .val (.ref ai), .val (.double v59), .second, .val (.int (1 : Int32))] [(.int (1 : Int32))] 29 #[.val (.ref x), .val (.ref ai), .val (.double v59), .second, .val (.int (1 : Int32))] [(.int (1 : Int32)), (.ref ai)] := by
  refine own_ifNo (pc2 := 26) d1_23 rfl (by decide) ?_
  refine own_aloadN (pc2 := 27) d1_26 rfl rfl rfl ?_
  refine own_iload (pc2 := 29) d1_27 rfl rfl ?_
  exact own_refl
theorem own_f2_10 (x : Addr) (ai : Addr) (v59 : UInt64) (d1 : UInt64) (v31' : Int32) (hv31' : (cmpValue (FP.dcmp d1 (0 : UInt64)) .g) = v31') (hb32_1 : ifCond.holds .ge v31' = true) :
    own_Go own_K1 prog_20_method_1_code 30 #[.val (.ref x), .val (.ref ai), .val (.double v59), .second, .val (.int (1 : Int32))] [(.double d1)] 54 #[.val (.ref x), .val (.ref ai), .val (.double v59), .second, .val (.int (1 : Int32))] [] := by
  refine own_dconst0 (v := 0) (pc2 := 31) d1_30 rfl rfl ?_
  refine own_dcmp (pc2 := 32) d1_31 rfl (v := v31') hv31' ?_
  refine own_ifYes (pc' := 54) d1_32 hb32_1 (by decide) (by decide) ?_
  exact own_refl
theorem own_f2_11 (x : Addr) (ai : Addr) (v59 : UInt64) :
    own_Go own_K1 prog_20_method_1_code 54 #[.val (.ref x), .val (.ref ai), .val (.double v59), .second, .val (.int (1 : Int32))] [] 58 #[.val (.ref x), .val (.ref ai), .val (.double v59), .second, .val (.int (1 : Int32))] [(.int (1 : Int32)), (.ref ai), (.double v59)] := by
  refine own_dloadN (pc2 := 55) d1_54 rfl rfl ?_
  refine own_aloadN (pc2 := 56) d1_55 rfl rfl rfl ?_
  refine own_iload (pc2 := 58) d1_56 rfl rfl ?_
  exact own_refl
theorem own_f2_12 (x : Addr) (ai : Addr) (v59 : UInt64) (d1 : UInt64) (v59' : UInt64) (hv59' : (FP.dadd v59 d1) = v59') (nn59' : NoNaN64 (FP.dadd v59 d1)) :
    own_Go own_K1 prog_20_method_1_code 59 #[.val (.ref x), .val (.ref ai), .val (.double v59), .second, .val (.int (1 : Int32))] [(.double d1), (.double v59)] 9 #[.val (.ref x), .val (.ref ai), .val (.double v59'), .second, .val (.int (2 : Int32))] [] := by
  refine own_dadd (pc2 := 60) d1_59 rfl nn59' (v := v59') hv59' ?_
  refine own_dstoreN (pc2 := 61) d1_60 rfl (L' := #[.val (.ref x), .val (.ref ai), .val (.double v59'), .second, .val (.int (1 : Int32))]) rfl ?_
  refine own_iinc (pc2 := 64) d1_61 rfl rfl (v := (2 : Int32)) (by decide) (L' := #[.val (.ref x), .val (.ref ai), .val (.double v59'), .second, .val (.int (2 : Int32))]) rfl ?_
  refine own_goto (pc' := 9) d1_64 (by decide) (by decide) ?_
  exact own_refl
theorem own_f2_13 (x : Addr) (ai : Addr) (v59' : UInt64) :
    own_Go own_K1 prog_20_method_1_code 9 #[.val (.ref x), .val (.ref ai), .val (.double v59'), .second, .val (.int (2 : Int32))] [] 12 #[.val (.ref x), .val (.ref ai), .val (.double v59'), .second, .val (.int (2 : Int32))] [(.ref ai), (.int (2 : Int32))] := by
  refine own_iload (pc2 := 11) d1_9 rfl rfl ?_
  refine own_aloadN (pc2 := 12) d1_11 rfl rfl rfl ?_
  exact own_refl
theorem own_f2_14 (x : Addr) (ai : Addr) (v59' : UInt64) :
    own_Go own_K1 prog_20_method_1_code 13 #[.val (.ref x), .val (.ref ai), .val (.double v59'), .second, .val (.int (2 : Int32))] [(.int (2 : Int32)), (.int (2 : Int32))] 68 #[.val (.ref x), .val (.ref ai), .val (.double v59'), .second, .val (.int (2 : Int32))] [(.double v59')] := by
  refine own_icmpYes (pc' := 67) d1_13 (by decide) (by decide) (by decide) ?_
  refine own_dloadN (pc2 := 68) d1_67 rfl rfl ?_
  exact own_refl
theorem own_f2_15 (x : Addr) (ai : Addr) (v59' : UInt64) (v76 : Int32) (hv76 : (cmpValue (FP.dcmp v59' (0 : UInt64)) .g) = v76) (hb77 : ifCond.holds .gt v76 = true) :
    own_Go own_K1 prog_20_method_1_code 71 #[.val (.ref x), .val (.ref ai), .val (.double v59'), .second, .val (.int (2 : Int32))] [(.int (1 : Int32))] 96 #[.val (.ref x), .val (.ref ai), .val (.double v59'), .second, .val (.int (2 : Int32))] [(.ref ai), (.ref x)] := by
  refine own_ifNo (pc2 := 74) d1_71 rfl (by decide) ?_
  refine own_dloadN (pc2 := 75) d1_74 rfl rfl ?_
  refine own_dconst0 (v := 0) (pc2 := 76) d1_75 rfl rfl ?_
  refine own_dcmp (pc2 := 77) d1_76 rfl (v := v76) hv76 ?_
  refine own_ifYes (pc' := 94) d1_77 hb77 (by decide) (by decide) ?_
  refine own_aloadN (pc2 := 95) d1_94 rfl rfl rfl ?_
  refine own_aloadN (pc2 := 96) d1_95 rfl rfl rfl ?_
  exact own_refl
theorem own_f2_16 (x : Addr) (ai : Addr) (v59' : UInt64) :
    own_Go own_K1 prog_20_method_1_code 105 #[.val (.ref x), .val (.ref ai), .val (.double v59'), .second, .val (.int (2 : Int32))] [] 107 #[.val (.ref x), .val (.ref ai), .val (.double v59'), .second, .val (.int (2 : Int32))] [(.double v59'), (.ref x)] := by
  refine own_aloadN (pc2 := 106) d1_105 rfl rfl rfl ?_
  refine own_dloadN (pc2 := 107) d1_106 rfl rfl ?_
  exact own_refl
set_option maxRecDepth 65536 in
set_option maxHeartbeats 4000000 in
theorem own_feed2 (l : Launch) (Z : State) (a0 : Array Value) (hb0 : Heap) (hw : ∀ d ∈ tables_1, d.before a0 Z = true) (x : Addr) (ai : Addr)  (d0 : UInt64) (A0 : Int) (i0 : own_is d0 ((A0 : Int) : Rat)) (k0 : 0 ≤ A0 ∧ A0 < 1048576) (d1 : UInt64) (A1 : Int) (i1 : own_is d1 ((A1 : Int) : Rat)) (k1 : 0 ≤ A1 ∧ A1 < 1048576) (hp : 0 < (((0 : Int) + A0) + A1)) :
    own_Met l Z a0 hb0 (⟨"com/example/tangentia/tangentia/flash/Feed", "<init>", "([D)V"⟩ : MethodName) prog_20_method_1_code 5 none [] ({ frames := 2, cells := 1, slots := 2, locals := 28 } : Room) #[(.ref x), (.ref ai)] [(ai, own_A .double [.double d0, .double d1]), (x, own_O "com/example/tangentia/tangentia/flash/Feed" [("com/example/tangentia/tangentia/flash/Feed", "amounts", "[D", .null), ("com/example/tangentia/tangentia/flash/Feed", "total", "D", .double 0)])] (fun r cs' => ∃ y tt, own_is tt (((((0 : Int) + A0) + A1) : Int) : Rat) ∧ r = none ∧ cs' = [(ai, own_A .double [.double d0, .double d1]), (x, own_O "com/example/tangentia/tangentia/flash/Feed" [("com/example/tangentia/tangentia/flash/Feed", "amounts", "[D", .ref y), ("com/example/tangentia/tangentia/flash/Feed", "total", "D", .double tt)]), (y, own_A .double [.double d0, .double d1])]) := by
  refine own_met_of (L0 := #[.val (.ref x), .val (.ref ai), .unset, .unset, .unset]) (plainFor_of_name own_pn1) (fun m => own_ef1 m x ai) ?_
  intro p e s m below meth c T0 hx hZ hown hby hml hnm H0
  obtain ⟨Tf2_1, Hf2_1, stf2_1⟩ := own_initO H0 hx hZ hown (hw _ (List.mem_of_getElem? (i := 9) rfl)) (hw _ (List.mem_of_getElem? (i := 10) rfl)) (hw _ (List.mem_of_getElem? (i := 11) rfl)) (g := (mkF m 1 #[.val (.ref x), .val (.ref ai), .unset, .unset, .unset] [(.ref x)])) rfl (by rw [hml]; rfl) rfl (hb hby d1_1) (by decide) (W := 0) (by show 2 * 0 + _ ≤ _; exact Nat.le_of_eq rfl) (by decide)
  change own_S _ _ _ _ _ _ _ _ _ _ _ _ _ _ [(ai, own_A .double [.double d0, .double d1]), (x, own_O "com/example/tangentia/tangentia/flash/Feed" [("com/example/tangentia/tangentia/flash/Feed", "amounts", "[D", .null), ("com/example/tangentia/tangentia/flash/Feed", "total", "D", .double 0)])] _ _ at Hf2_1
  have s0 : own_is (0 : UInt64) (((0 : Int) : Int) : Rat) := own_zero
  obtain ⟨Tf2_4, vf2_4_, csf2_4_, qf2_4, Hf2_4, stf2_4⟩ := own_callS Hf2_1 hx hZ hown (hw _ (List.mem_of_getElem? (i := 12) rfl)) (hw _ (List.mem_of_getElem? (i := 13) rfl)) (hw _ (List.mem_of_getElem? (i := 14) rfl)) (hw _ (List.mem_of_getElem? (i := 15) rfl)) (by decide) (argsL := [(.double d0)]) (rest := []) (W := 0) (own_isfin l Z a0 hb0 hw d0 (own_is_fin i0) _) (by decide) (by decide) (by decide) (by decide) (g := (mkF m 20 #[.val (.ref x), .val (.ref ai), .val (.double (0 : UInt64)), .second, .val (.int (0 : Int32))] [(.double d0)])) rfl (by rw [hml]; rfl) (lenOf own_pd3 rfl) rfl (by show 2 * 0 + _ ≤ _; exact Nat.le_of_eq rfl) (hb hby d1_20)
  obtain ⟨rfl, rfl⟩ := qf2_4
  change own_S _ _ _ _ _ _ _ _ _ _ _ _ _ _ [(ai, own_A .double [.double d0, .double d1]), (x, own_O "com/example/tangentia/tangentia/flash/Feed" [("com/example/tangentia/tangentia/flash/Feed", "amounts", "[D", .null), ("com/example/tangentia/tangentia/flash/Feed", "total", "D", .double 0)])] _ _ at Hf2_4
  obtain ⟨v31, hv31⟩ : ∃ z : Int32, (cmpValue (FP.dcmp d0 (0 : UInt64)) .g) = z := ⟨_, rfl⟩
  obtain ⟨v59, hv59⟩ : ∃ z : UInt64, (FP.dadd (0 : UInt64) d0) = z := ⟨_, rfl⟩
  have r1 : own_rd v59 (((0 : Int) + A0 : Int) : Rat) := by rw [← hv59, Rat.intCast_add]; exact own_add s0 i0
  have s1 := own_rd_small r1 (by omega)
  have nn59 : NoNaN64 (FP.dadd (0 : UInt64) d0) := by rw [hv59]; exact own_is_no s1
  have hb32_0 : ifCond.holds .ge v31 = true := by rw [← hv31, own_c_ge i0 own_zero]; exact decide_eq_true (Rat.intCast_le_intCast.mpr (show (0 : Int) ≤ A0 by omega))
  obtain ⟨Tf2_9, vf2_9_, csf2_9_, qf2_9, Hf2_9, stf2_9⟩ := own_callS Hf2_4 hx hZ hown (hw _ (List.mem_of_getElem? (i := 12) rfl)) (hw _ (List.mem_of_getElem? (i := 13) rfl)) (hw _ (List.mem_of_getElem? (i := 14) rfl)) (hw _ (List.mem_of_getElem? (i := 15) rfl)) (by decide) (argsL := [(.double d1)]) (rest := []) (W := 0) (own_isfin l Z a0 hb0 hw d1 (own_is_fin i1) _) (by decide) (by decide) (by decide) (by decide) (g := (mkF m 20 #[.val (.ref x), .val (.ref ai), .val (.double v59), .second, .val (.int (1 : Int32))] [(.double d1)])) rfl (by rw [hml]; rfl) (lenOf own_pd3 rfl) rfl (by show 2 * 0 + _ ≤ _; exact Nat.le_of_eq rfl) (hb hby d1_20)
  obtain ⟨rfl, rfl⟩ := qf2_9
  change own_S _ _ _ _ _ _ _ _ _ _ _ _ _ _ [(ai, own_A .double [.double d0, .double d1]), (x, own_O "com/example/tangentia/tangentia/flash/Feed" [("com/example/tangentia/tangentia/flash/Feed", "amounts", "[D", .null), ("com/example/tangentia/tangentia/flash/Feed", "total", "D", .double 0)])] _ _ at Hf2_9
  obtain ⟨v31', hv31'⟩ : ∃ z : Int32, (cmpValue (FP.dcmp d1 (0 : UInt64)) .g) = z := ⟨_, rfl⟩
  obtain ⟨v59', hv59'⟩ : ∃ z : UInt64, (FP.dadd v59 d1) = z := ⟨_, rfl⟩
  have r2 : own_rd v59' ((((0 : Int) + A0) + A1 : Int) : Rat) := by rw [← hv59', Rat.intCast_add]; exact own_add s1 i1
  have s2 := own_rd_small r2 (by omega)
  have nn59' : NoNaN64 (FP.dadd v59 d1) := by rw [hv59']; exact own_is_no s2
  have hb32_1 : ifCond.holds .ge v31' = true := by rw [← hv31', own_c_ge i1 own_zero]; exact decide_eq_true (Rat.intCast_le_intCast.mpr (show (0 : Int) ≤ A1 by omega))
  obtain ⟨Tf2_13, vf2_13_, csf2_13_, qf2_13, Hf2_13, stf2_13⟩ := own_callS Hf2_9 hx hZ hown (hw _ (List.mem_of_getElem? (i := 12) rfl)) (hw _ (List.mem_of_getElem? (i := 13) rfl)) (hw _ (List.mem_of_getElem? (i := 14) rfl)) (hw _ (List.mem_of_getElem? (i := 15) rfl)) (by decide) (argsL := [(.double v59')]) (rest := []) (W := 0) (own_isfin l Z a0 hb0 hw v59' (own_is_fin s2) _) (by decide) (by decide) (by decide) (by decide) (g := (mkF m 68 #[.val (.ref x), .val (.ref ai), .val (.double v59'), .second, .val (.int (2 : Int32))] [(.double v59')])) rfl (by rw [hml]; rfl) (lenOf own_pd3 rfl) rfl (by show 2 * 0 + _ ≤ _; exact Nat.le_of_eq rfl) (hb hby d1_68)
  obtain ⟨rfl, rfl⟩ := qf2_13
  change own_S _ _ _ _ _ _ _ _ _ _ _ _ _ _ [(ai, own_A .double [.double d0, .double d1]), (x, own_O "com/example/tangentia/tangentia/flash/Feed" [("com/example/tangentia/tangentia/flash/Feed", "amounts", "[D", .null), ("com/example/tangentia/tangentia/flash/Feed", "total", "D", .double 0)])] _ _ at Hf2_13
  obtain ⟨v76, hv76⟩ : ∃ z : Int32, (cmpValue (FP.dcmp v59' (0 : UInt64)) .g) = z := ⟨_, rfl⟩
  obtain ⟨Tf2_14, y, Hf2_14, stf2_14⟩ := own_cloneA Hf2_13 hx hZ hown (hw _ (List.mem_of_getElem? (i := 21) rfl)) (hw _ (List.mem_of_getElem? (i := 22) rfl)) (hw _ (List.mem_of_getElem? (i := 26) rfl)) (hw _ (List.mem_of_getElem? (i := 24) rfl)) (hw _ (List.mem_of_getElem? (i := 25) rfl)) (hw _ (List.mem_of_getElem? (i := 27) rfl)) 0 rfl (fun _ _ _ q => own_ACd.mp q) (fun _ _ _ q => own_ACd.mpr q) (by
      intro v hv
      simp only [List.mem_cons, List.not_mem_nil, or_false] at hv
      rcases hv with rfl | rfl <;> rfl) (g := (mkF m 96 #[.val (.ref x), .val (.ref ai), .val (.double v59'), .second, .val (.int (2 : Int32))] [(.ref ai), (.ref x)])) rfl (by rw [hml]; rfl) rfl (hb hby d1_96) (by decide) (W := 1) (by show 2 * 0 + _ ≤ _; exact Nat.le_of_eq rfl) (by decide) (cap := 2) (Nat.le_of_eq rfl) (by decide) (by decide)
  change own_S _ _ _ _ _ _ _ _ _ _ _ _ _ _ [(ai, own_A .double [.double d0, .double d1]), (x, own_O "com/example/tangentia/tangentia/flash/Feed" [("com/example/tangentia/tangentia/flash/Feed", "amounts", "[D", .null), ("com/example/tangentia/tangentia/flash/Feed", "total", "D", .double 0)]), (y, own_A .double [.double d0, .double d1])] _ _ at Hf2_14
  obtain ⟨Tf2_15, Hf2_15, stf2_15⟩ := own_castA Hf2_14 hx hZ hown (hw _ (List.mem_of_getElem? (i := 28) rfl)) 2 rfl (fun _ _ _ q => own_ACd.mp q) (g := (mkF m 99 #[.val (.ref x), .val (.ref ai), .val (.double v59'), .second, .val (.int (2 : Int32))] [(.ref y), (.ref x)])) rfl rfl (hb hby d1_99)
  change own_S _ _ _ _ _ _ _ _ _ _ _ _ _ _ [(ai, own_A .double [.double d0, .double d1]), (x, own_O "com/example/tangentia/tangentia/flash/Feed" [("com/example/tangentia/tangentia/flash/Feed", "amounts", "[D", .null), ("com/example/tangentia/tangentia/flash/Feed", "total", "D", .double 0)]), (y, own_A .double [.double d0, .double d1])] _ _ at Hf2_15
  obtain ⟨Tf2_16, Hf2_16, stf2_16⟩ := own_putF Hf2_15 hx hZ hown (hw _ (List.mem_of_getElem? (i := 30) rfl)) 1 0 rfl rfl (Or.inr ⟨(hw _ (List.mem_of_getElem? (i := 31) rfl)), rfl, hnm⟩) (hw _ (List.mem_of_getElem? (i := 4) rfl)) (ty := (.array .double)) (by decide) rfl rfl (g := (mkF m 102 #[.val (.ref x), .val (.ref ai), .val (.double v59'), .second, .val (.int (2 : Int32))] [(.ref y), (.ref x)])) rfl rfl (hb hby d1_102)
  change own_S _ _ _ _ _ _ _ _ _ _ _ _ _ _ [(ai, own_A .double [.double d0, .double d1]), (x, own_O "com/example/tangentia/tangentia/flash/Feed" [("com/example/tangentia/tangentia/flash/Feed", "amounts", "[D", .ref y), ("com/example/tangentia/tangentia/flash/Feed", "total", "D", .double 0)]), (y, own_A .double [.double d0, .double d1])] _ _ at Hf2_16
  obtain ⟨Tf2_17, Hf2_17, stf2_17⟩ := own_putF Hf2_16 hx hZ hown (hw _ (List.mem_of_getElem? (i := 32) rfl)) 1 1 rfl rfl (Or.inr ⟨(hw _ (List.mem_of_getElem? (i := 33) rfl)), rfl, hnm⟩) (hw _ (List.mem_of_getElem? (i := 4) rfl)) (ty := .double) (by decide) rfl rfl (g := (mkF m 107 #[.val (.ref x), .val (.ref ai), .val (.double v59'), .second, .val (.int (2 : Int32))] [(.double v59'), (.ref x)])) rfl rfl (hb hby d1_107)
  change own_S _ _ _ _ _ _ _ _ _ _ _ _ _ _ [(ai, own_A .double [.double d0, .double d1]), (x, own_O "com/example/tangentia/tangentia/flash/Feed" [("com/example/tangentia/tangentia/flash/Feed", "amounts", "[D", .ref y), ("com/example/tangentia/tangentia/flash/Feed", "total", "D", .double v59')]), (y, own_A .double [.double d0, .double d1])] _ _ at Hf2_17
  have hb77 : ifCond.holds .gt v76 = true := by rw [← hv76, own_c_gt s2 own_zero]; exact decide_eq_true (Rat.intCast_lt_intCast.mpr hp)
  refine ⟨_, _, _, _, 110, #[.val (.ref x), .val (.ref ai), .val (.double v59'), .second, .val (.int (2 : Int32))], Hf2_17, by decide, by decide, Or.inl ⟨rfl, ⟨y, v59', s2, rfl, rfl⟩, d1_110, fun target q => ?_⟩⟩
  refine own_go H0 hx hZ hown hby hw own_K1_ok (own_f2_0 x ai) _ ?_
  refine stf2_1 _ ?_
  refine own_go Hf2_1 hx hZ hown hby hw own_K1_ok (own_f2_1 x ai) _ ?_
  refine own_arrlen Hf2_1 hx hZ 0 rfl (z := (2 : Int32)) rfl (g := (mkF m 12 #[.val (.ref x), .val (.ref ai), .val (.double (0 : UInt64)), .second, .val (.int (0 : Int32))] [(.ref ai), (.int (0 : Int32))])) rfl rfl (hb hby d1_12) _ ?_
  refine own_go Hf2_1 hx hZ hown hby hw own_K1_ok (own_f2_2 x ai) _ ?_
  refine own_daload Hf2_1 hx hZ 0 0 rfl (by decide) rfl (g := (mkF m 19 #[.val (.ref x), .val (.ref ai), .val (.double (0 : UInt64)), .second, .val (.int (0 : Int32))] [(.int (0 : Int32)), (.ref ai)])) rfl rfl (hb hby d1_19) _ ?_
  refine stf2_4 _ ?_
  refine own_go Hf2_4 hx hZ hown hby hw own_K1_ok (own_f2_3 x ai) _ ?_
  refine own_daload Hf2_4 hx hZ 0 0 rfl (by decide) rfl (g := (mkF m 29 #[.val (.ref x), .val (.ref ai), .val (.double (0 : UInt64)), .second, .val (.int (0 : Int32))] [(.int (0 : Int32)), (.ref ai)])) rfl rfl (hb hby d1_29) _ ?_
  refine own_go Hf2_4 hx hZ hown hby hw own_K1_ok (own_f2_4 x ai d0 v31 hv31 hb32_0) _ ?_
  refine own_go Hf2_4 hx hZ hown hby hw own_K1_ok (own_f2_5 x ai) _ ?_
  refine own_daload Hf2_4 hx hZ 0 0 rfl (by decide) rfl (g := (mkF m 58 #[.val (.ref x), .val (.ref ai), .val (.double (0 : UInt64)), .second, .val (.int (0 : Int32))] [(.int (0 : Int32)), (.ref ai), (.double (0 : UInt64))])) rfl rfl (hb hby d1_58) _ ?_
  refine own_go Hf2_4 hx hZ hown hby hw own_K1_ok (own_f2_6 x ai d0 v59 hv59 nn59) _ ?_
  refine own_go Hf2_4 hx hZ hown hby hw own_K1_ok (own_f2_7 x ai v59) _ ?_
  refine own_arrlen Hf2_4 hx hZ 0 rfl (z := (2 : Int32)) rfl (g := (mkF m 12 #[.val (.ref x), .val (.ref ai), .val (.double v59), .second, .val (.int (1 : Int32))] [(.ref ai), (.int (1 : Int32))])) rfl rfl (hb hby d1_12) _ ?_
  refine own_go Hf2_4 hx hZ hown hby hw own_K1_ok (own_f2_8 x ai v59) _ ?_
  refine own_daload Hf2_4 hx hZ 0 1 rfl (by decide) rfl (g := (mkF m 19 #[.val (.ref x), .val (.ref ai), .val (.double v59), .second, .val (.int (1 : Int32))] [(.int (1 : Int32)), (.ref ai)])) rfl rfl (hb hby d1_19) _ ?_
  refine stf2_9 _ ?_
  refine own_go Hf2_9 hx hZ hown hby hw own_K1_ok (own_f2_9 x ai v59) _ ?_
  refine own_daload Hf2_9 hx hZ 0 1 rfl (by decide) rfl (g := (mkF m 29 #[.val (.ref x), .val (.ref ai), .val (.double v59), .second, .val (.int (1 : Int32))] [(.int (1 : Int32)), (.ref ai)])) rfl rfl (hb hby d1_29) _ ?_
  refine own_go Hf2_9 hx hZ hown hby hw own_K1_ok (own_f2_10 x ai v59 d1 v31' hv31' hb32_1) _ ?_
  refine own_go Hf2_9 hx hZ hown hby hw own_K1_ok (own_f2_11 x ai v59) _ ?_
  refine own_daload Hf2_9 hx hZ 0 1 rfl (by decide) rfl (g := (mkF m 58 #[.val (.ref x), .val (.ref ai), .val (.double v59), .second, .val (.int (1 : Int32))] [(.int (1 : Int32)), (.ref ai), (.double v59)])) rfl rfl (hb hby d1_58) _ ?_
  refine own_go Hf2_9 hx hZ hown hby hw own_K1_ok (own_f2_12 x ai v59 d1 v59' hv59' nn59') _ ?_
  refine own_go Hf2_9 hx hZ hown hby hw own_K1_ok (own_f2_13 x ai v59') _ ?_
  refine own_arrlen Hf2_9 hx hZ 0 rfl (z := (2 : Int32)) rfl (g := (mkF m 12 #[.val (.ref x), .val (.ref ai), .val (.double v59'), .second, .val (.int (2 : Int32))] [(.ref ai), (.int (2 : Int32))])) rfl rfl (hb hby d1_12) _ ?_
  refine own_go Hf2_9 hx hZ hown hby hw own_K1_ok (own_f2_14 x ai v59') _ ?_
  refine stf2_13 _ ?_
  refine own_go Hf2_13 hx hZ hown hby hw own_K1_ok (own_f2_15 x ai v59' v76 hv76 hb77) _ ?_
  refine stf2_14 _ ?_
  refine stf2_15 _ ?_
  refine stf2_16 _ ?_
  refine own_go Hf2_16 hx hZ hown hby hw own_K1_ok (own_f2_16 x ai v59') _ ?_
  refine stf2_17 _ ?_
  exact q
theorem own_g20_0 (x : Addr) :
    own_Go own_K5 prog_20_method_6_code 0 #[.val (.ref x), .unset, .unset] [] 1 #[.val (.ref x), .unset, .unset] [(.ref x)] := by
  refine own_aloadN (pc2 := 1) d5_0 rfl rfl rfl ?_
  exact own_refl
theorem own_g20_1 (x : Addr) (z : Addr) :
    own_Go own_K5 prog_20_method_6_code 7 #[.val (.ref x), .unset, .unset] [(.ref z)] 12 #[.val (.ref x), .val (.ref z), .val (.int (0 : Int32))] [(.ref z), (.int (0 : Int32))] := by
  refine own_astoreN (pc2 := 8) d5_7 rfl rfl (L' := #[.val (.ref x), .val (.ref z), .unset]) rfl ?_
  refine own_iconst (v := 0) (pc2 := 9) d5_8 rfl rfl ?_
  refine own_istoreN (pc2 := 10) d5_9 rfl (L' := #[.val (.ref x), .val (.ref z), .val (.int (0 : Int32))]) rfl ?_
  refine own_iloadN (pc2 := 11) d5_10 rfl rfl ?_
  refine own_aloadN (pc2 := 12) d5_11 rfl rfl rfl ?_
  exact own_refl
theorem own_g20_2 (x : Addr) (z : Addr) :
    own_Go own_K5 prog_20_method_6_code 13 #[.val (.ref x), .val (.ref z), .val (.int (0 : Int32))] [(.int (2 : Int32)), (.int (0 : Int32))] 19 #[.val (.ref x), .val (.ref z), .val (.int (0 : Int32))] [(.ref x), (.int (0 : Int32)), (.ref z)] := by
  refine own_icmpNo (pc2 := 16) d5_13 rfl (by decide) ?_
  refine own_aloadN (pc2 := 17) d5_16 rfl rfl rfl ?_
  refine own_iloadN (pc2 := 18) d5_17 rfl rfl ?_
  refine own_aloadN (pc2 := 19) d5_18 rfl rfl rfl ?_
  exact own_refl
theorem own_g20_3 (x : Addr) (z : Addr) (y : Addr) :
    own_Go own_K5 prog_20_method_6_code 22 #[.val (.ref x), .val (.ref z), .val (.int (0 : Int32))] [(.ref y), (.int (0 : Int32)), (.ref z)] 23 #[.val (.ref x), .val (.ref z), .val (.int (0 : Int32))] [(.int (0 : Int32)), (.ref y), (.int (0 : Int32)), (.ref z)] := by
  refine own_iloadN (pc2 := 23) d5_22 rfl rfl ?_
  exact own_refl
theorem own_g20_4 (x : Addr) (z : Addr) (d0 : UInt64) :
    own_Go own_K5 prog_20_method_6_code 24 #[.val (.ref x), .val (.ref z), .val (.int (0 : Int32))] [(.double d0), (.int (0 : Int32)), (.ref z)] 25 #[.val (.ref x), .val (.ref z), .val (.int (0 : Int32))] [(.ref x), (.double d0), (.int (0 : Int32)), (.ref z)] := by
  refine own_aloadN (pc2 := 25) d5_24 rfl rfl rfl ?_
  exact own_refl
theorem own_g20_5 (x : Addr) (z : Addr) (tt : UInt64) (d0 : UInt64) (v28 : UInt64) (hv28 : (FP.ddiv d0 tt) = v28) (nn28 : NoNaN64 (FP.ddiv d0 tt)) :
    own_Go own_K5 prog_20_method_6_code 28 #[.val (.ref x), .val (.ref z), .val (.int (0 : Int32))] [(.double tt), (.double d0), (.int (0 : Int32)), (.ref z)] 29 #[.val (.ref x), .val (.ref z), .val (.int (0 : Int32))] [(.double v28), (.int (0 : Int32)), (.ref z)] := by
  refine own_ddiv (pc2 := 29) d5_28 rfl nn28 (v := v28) hv28 ?_
  exact own_refl
theorem own_g20_6 (x : Addr) (z : Addr) :
    own_Go own_K5 prog_20_method_6_code 30 #[.val (.ref x), .val (.ref z), .val (.int (0 : Int32))] [] 12 #[.val (.ref x), .val (.ref z), .val (.int (1 : Int32))] [(.ref z), (.int (1 : Int32))] := by
  refine own_iinc (pc2 := 33) d5_30 rfl rfl (v := (1 : Int32)) (by decide) (L' := #[.val (.ref x), .val (.ref z), .val (.int (1 : Int32))]) rfl ?_
  refine own_goto (pc' := 10) d5_33 (by decide) (by decide) ?_
  refine own_iloadN (pc2 := 11) d5_10 rfl rfl ?_
  refine own_aloadN (pc2 := 12) d5_11 rfl rfl rfl ?_
  exact own_refl
theorem own_g20_7 (x : Addr) (z : Addr) :
    own_Go own_K5 prog_20_method_6_code 13 #[.val (.ref x), .val (.ref z), .val (.int (1 : Int32))] [(.int (2 : Int32)), (.int (1 : Int32))] 19 #[.val (.ref x), .val (.ref z), .val (.int (1 : Int32))] [(.ref x), (.int (1 : Int32)), (.ref z)] := by
  refine own_icmpNo (pc2 := 16) d5_13 rfl (by decide) ?_
  refine own_aloadN (pc2 := 17) d5_16 rfl rfl rfl ?_
  refine own_iloadN (pc2 := 18) d5_17 rfl rfl ?_
  refine own_aloadN (pc2 := 19) d5_18 rfl rfl rfl ?_
  exact own_refl
theorem own_g20_8 (x : Addr) (z : Addr) (y : Addr) :
    own_Go own_K5 prog_20_method_6_code 22 #[.val (.ref x), .val (.ref z), .val (.int (1 : Int32))] [(.ref y), (.int (1 : Int32)), (.ref z)] 23 #[.val (.ref x), .val (.ref z), .val (.int (1 : Int32))] [(.int (1 : Int32)), (.ref y), (.int (1 : Int32)), (.ref z)] := by
  refine own_iloadN (pc2 := 23) d5_22 rfl rfl ?_
  exact own_refl
theorem own_g20_9 (x : Addr) (z : Addr) (d1 : UInt64) :
    own_Go own_K5 prog_20_method_6_code 24 #[.val (.ref x), .val (.ref z), .val (.int (1 : Int32))] [(.double d1), (.int (1 : Int32)), (.ref z)] 25 #[.val (.ref x), .val (.ref z), .val (.int (1 : Int32))] [(.ref x), (.double d1), (.int (1 : Int32)), (.ref z)] := by
  refine own_aloadN (pc2 := 25) d5_24 rfl rfl rfl ?_
  exact own_refl
theorem own_g20_10 (x : Addr) (z : Addr) (tt : UInt64) (d1 : UInt64) (v28' : UInt64) (hv28' : (FP.ddiv d1 tt) = v28') (nn28' : NoNaN64 (FP.ddiv d1 tt)) :
    own_Go own_K5 prog_20_method_6_code 28 #[.val (.ref x), .val (.ref z), .val (.int (1 : Int32))] [(.double tt), (.double d1), (.int (1 : Int32)), (.ref z)] 29 #[.val (.ref x), .val (.ref z), .val (.int (1 : Int32))] [(.double v28'), (.int (1 : Int32)), (.ref z)] := by
  refine own_ddiv (pc2 := 29) d5_28 rfl nn28' (v := v28') hv28' ?_
  exact own_refl
theorem own_g20_11 (x : Addr) (z : Addr) :
    own_Go own_K5 prog_20_method_6_code 30 #[.val (.ref x), .val (.ref z), .val (.int (1 : Int32))] [] 12 #[.val (.ref x), .val (.ref z), .val (.int (2 : Int32))] [(.ref z), (.int (2 : Int32))] := by
  refine own_iinc (pc2 := 33) d5_30 rfl rfl (v := (2 : Int32)) (by decide) (L' := #[.val (.ref x), .val (.ref z), .val (.int (2 : Int32))]) rfl ?_
  refine own_goto (pc' := 10) d5_33 (by decide) (by decide) ?_
  refine own_iloadN (pc2 := 11) d5_10 rfl rfl ?_
  refine own_aloadN (pc2 := 12) d5_11 rfl rfl rfl ?_
  exact own_refl
theorem own_g20_12 (x : Addr) (z : Addr) :
    own_Go own_K5 prog_20_method_6_code 13 #[.val (.ref x), .val (.ref z), .val (.int (2 : Int32))] [(.int (2 : Int32)), (.int (2 : Int32))] 37 #[.val (.ref x), .val (.ref z), .val (.int (2 : Int32))] [(.ref z)] := by
  refine own_icmpYes (pc' := 36) d5_13 (by decide) (by decide) (by decide) ?_
  refine own_aloadN (pc2 := 37) d5_36 rfl rfl rfl ?_
  exact own_refl
set_option maxRecDepth 65536 in
set_option maxHeartbeats 4000000 in
theorem own_mol20 (l : Launch) (Z : State) (a0 : Array Value) (hb0 : Heap) (hw : ∀ d ∈ tables_1, d.before a0 Z = true) (x : Addr) (ai y : Addr) (qa : own_Cel) (tt : UInt64) (d0 : UInt64) (nn0 : NoNaN64 (FP.ddiv d0 tt)) (d1 : UInt64) (nn1 : NoNaN64 (FP.ddiv d1 tt)) :
    own_Met l Z a0 hb0 (⟨"com/example/tangentia/tangentia/flash/Feed", "moleFractions", "()[D"⟩ : MethodName) prog_20_method_6_code 3 (some (.array .double)) [] ({ frames := 0, cells := 1, slots := 2, locals := 0 } : Room) #[(.ref x)] [(ai, qa), (x, own_O "com/example/tangentia/tangentia/flash/Feed" [("com/example/tangentia/tangentia/flash/Feed", "amounts", "[D", .ref y), ("com/example/tangentia/tangentia/flash/Feed", "total", "D", .double tt)]), (y, own_A .double [.double d0, .double d1])] (fun r cs' => ∃ z, r = some (.ref z) ∧ cs' = [(ai, qa), (x, own_O "com/example/tangentia/tangentia/flash/Feed" [("com/example/tangentia/tangentia/flash/Feed", "amounts", "[D", .ref y), ("com/example/tangentia/tangentia/flash/Feed", "total", "D", .double tt)]), (y, own_A .double [.double d0, .double d1]), (z, own_A .double [.double (FP.ddiv d0 tt), .double (FP.ddiv d1 tt)])]) := by
  refine own_met_of (L0 := #[.val (.ref x), .unset, .unset]) (plainFor_of_name own_pn5) (fun m => own_ef5 m x) ?_
  intro p e s m below meth c T0 hx hZ hown hby hml hnm H0
  obtain ⟨Tg20_1, Hg20_1, stg20_1⟩ := own_getF H0 hx hZ hown (hw _ (List.mem_of_getElem? (i := 30) rfl)) 1 0 rfl rfl (g := (mkF m 1 #[.val (.ref x), .unset, .unset] [(.ref x)])) rfl rfl (hb hby d5_1)
  change own_S _ _ _ _ _ _ _ _ _ _ _ _ _ _ [(ai, qa), (x, own_O "com/example/tangentia/tangentia/flash/Feed" [("com/example/tangentia/tangentia/flash/Feed", "amounts", "[D", .ref y), ("com/example/tangentia/tangentia/flash/Feed", "total", "D", .double tt)]), (y, own_A .double [.double d0, .double d1])] _ _ at Hg20_1
  obtain ⟨Tg20_3, z, Hg20_3, stg20_3⟩ := own_newA Hg20_1 hx hZ (hw _ (List.mem_of_getElem? (i := 2) rfl)) (g := (mkF m 5 #[.val (.ref x), .unset, .unset] [(.int (2 : Int32))])) rfl (hb hby d5_5) rfl (by decide) (cap := 2) (by decide) (by decide) (by decide) (by decide)
  change own_S _ _ _ _ _ _ _ _ _ _ _ _ _ _ [(ai, qa), (x, own_O "com/example/tangentia/tangentia/flash/Feed" [("com/example/tangentia/tangentia/flash/Feed", "amounts", "[D", .ref y), ("com/example/tangentia/tangentia/flash/Feed", "total", "D", .double tt)]), (y, own_A .double [.double d0, .double d1]), (z, own_A .double [.double 0, .double 0])] _ _ at Hg20_3
  obtain ⟨Tg20_5, Hg20_5, stg20_5⟩ := own_getF Hg20_3 hx hZ hown (hw _ (List.mem_of_getElem? (i := 30) rfl)) 1 0 rfl rfl (g := (mkF m 19 #[.val (.ref x), .val (.ref z), .val (.int (0 : Int32))] [(.ref x), (.int (0 : Int32)), (.ref z)])) rfl rfl (hb hby d5_19)
  change own_S _ _ _ _ _ _ _ _ _ _ _ _ _ _ [(ai, qa), (x, own_O "com/example/tangentia/tangentia/flash/Feed" [("com/example/tangentia/tangentia/flash/Feed", "amounts", "[D", .ref y), ("com/example/tangentia/tangentia/flash/Feed", "total", "D", .double tt)]), (y, own_A .double [.double d0, .double d1]), (z, own_A .double [.double 0, .double 0])] _ _ at Hg20_5
  obtain ⟨Tg20_7, Hg20_7, stg20_7⟩ := own_getF Hg20_5 hx hZ hown (hw _ (List.mem_of_getElem? (i := 32) rfl)) 1 1 rfl rfl (g := (mkF m 25 #[.val (.ref x), .val (.ref z), .val (.int (0 : Int32))] [(.ref x), (.double d0), (.int (0 : Int32)), (.ref z)])) rfl rfl (hb hby d5_25)
  change own_S _ _ _ _ _ _ _ _ _ _ _ _ _ _ [(ai, qa), (x, own_O "com/example/tangentia/tangentia/flash/Feed" [("com/example/tangentia/tangentia/flash/Feed", "amounts", "[D", .ref y), ("com/example/tangentia/tangentia/flash/Feed", "total", "D", .double tt)]), (y, own_A .double [.double d0, .double d1]), (z, own_A .double [.double 0, .double 0])] _ _ at Hg20_7
  obtain ⟨v28, hv28⟩ : ∃ z : UInt64, (FP.ddiv d0 tt) = z := ⟨_, rfl⟩
  obtain ⟨Tg20_8, Hg20_8, stg20_8⟩ := own_dastore Hg20_7 hx hZ 3 0 rfl (by decide) (Nat.le_of_ble_eq_true rfl) (g := (mkF m 29 #[.val (.ref x), .val (.ref z), .val (.int (0 : Int32))] [(.double v28), (.int (0 : Int32)), (.ref z)])) rfl rfl (hb hby d5_29)
  change own_S _ _ _ _ _ _ _ _ _ _ _ _ _ _ [(ai, qa), (x, own_O "com/example/tangentia/tangentia/flash/Feed" [("com/example/tangentia/tangentia/flash/Feed", "amounts", "[D", .ref y), ("com/example/tangentia/tangentia/flash/Feed", "total", "D", .double tt)]), (y, own_A .double [.double d0, .double d1]), (z, own_A .double [.double v28, .double 0])] _ _ at Hg20_8
  obtain ⟨Tg20_10, Hg20_10, stg20_10⟩ := own_getF Hg20_8 hx hZ hown (hw _ (List.mem_of_getElem? (i := 30) rfl)) 1 0 rfl rfl (g := (mkF m 19 #[.val (.ref x), .val (.ref z), .val (.int (1 : Int32))] [(.ref x), (.int (1 : Int32)), (.ref z)])) rfl rfl (hb hby d5_19)
  change own_S _ _ _ _ _ _ _ _ _ _ _ _ _ _ [(ai, qa), (x, own_O "com/example/tangentia/tangentia/flash/Feed" [("com/example/tangentia/tangentia/flash/Feed", "amounts", "[D", .ref y), ("com/example/tangentia/tangentia/flash/Feed", "total", "D", .double tt)]), (y, own_A .double [.double d0, .double d1]), (z, own_A .double [.double v28, .double 0])] _ _ at Hg20_10
  obtain ⟨Tg20_12, Hg20_12, stg20_12⟩ := own_getF Hg20_10 hx hZ hown (hw _ (List.mem_of_getElem? (i := 32) rfl)) 1 1 rfl rfl (g := (mkF m 25 #[.val (.ref x), .val (.ref z), .val (.int (1 : Int32))] [(.ref x), (.double d1), (.int (1 : Int32)), (.ref z)])) rfl rfl (hb hby d5_25)
  change own_S _ _ _ _ _ _ _ _ _ _ _ _ _ _ [(ai, qa), (x, own_O "com/example/tangentia/tangentia/flash/Feed" [("com/example/tangentia/tangentia/flash/Feed", "amounts", "[D", .ref y), ("com/example/tangentia/tangentia/flash/Feed", "total", "D", .double tt)]), (y, own_A .double [.double d0, .double d1]), (z, own_A .double [.double v28, .double 0])] _ _ at Hg20_12
  obtain ⟨v28', hv28'⟩ : ∃ z : UInt64, (FP.ddiv d1 tt) = z := ⟨_, rfl⟩
  obtain ⟨Tg20_13, Hg20_13, stg20_13⟩ := own_dastore Hg20_12 hx hZ 3 1 rfl (by decide) (Nat.le_of_ble_eq_true rfl) (g := (mkF m 29 #[.val (.ref x), .val (.ref z), .val (.int (1 : Int32))] [(.double v28'), (.int (1 : Int32)), (.ref z)])) rfl rfl (hb hby d5_29)
  change own_S _ _ _ _ _ _ _ _ _ _ _ _ _ _ [(ai, qa), (x, own_O "com/example/tangentia/tangentia/flash/Feed" [("com/example/tangentia/tangentia/flash/Feed", "amounts", "[D", .ref y), ("com/example/tangentia/tangentia/flash/Feed", "total", "D", .double tt)]), (y, own_A .double [.double d0, .double d1]), (z, own_A .double [.double v28, .double v28'])] _ _ at Hg20_13
  have nn28 : NoNaN64 (FP.ddiv d0 tt) := nn0
  have nn28' : NoNaN64 (FP.ddiv d1 tt) := nn1
  refine ⟨_, _, _, _, 37, #[.val (.ref x), .val (.ref z), .val (.int (2 : Int32))], Hg20_13, by decide, by decide, Or.inr ⟨(.array .double), (.ref z), [], .areturn, rfl, ⟨z, rfl, by rw [hv28, hv28']⟩, d5_37, own_retA _, fun target q => ?_⟩⟩
  refine own_go H0 hx hZ hown hby hw own_K5_ok (own_g20_0 x) _ ?_
  refine stg20_1 _ ?_
  refine own_arrlen Hg20_1 hx hZ 2 rfl (z := (2 : Int32)) rfl (g := (mkF m 4 #[.val (.ref x), .unset, .unset] [(.ref y)])) rfl rfl (hb hby d5_4) _ ?_
  refine stg20_3 _ ?_
  refine own_go Hg20_3 hx hZ hown hby hw own_K5_ok (own_g20_1 x z) _ ?_
  refine own_arrlen Hg20_3 hx hZ 3 rfl (z := (2 : Int32)) rfl (g := (mkF m 12 #[.val (.ref x), .val (.ref z), .val (.int (0 : Int32))] [(.ref z), (.int (0 : Int32))])) rfl rfl (hb hby d5_12) _ ?_
  refine own_go Hg20_3 hx hZ hown hby hw own_K5_ok (own_g20_2 x z) _ ?_
  refine stg20_5 _ ?_
  refine own_go Hg20_5 hx hZ hown hby hw own_K5_ok (own_g20_3 x z y) _ ?_
  refine own_daload Hg20_5 hx hZ 2 0 rfl (by decide) rfl (g := (mkF m 23 #[.val (.ref x), .val (.ref z), .val (.int (0 : Int32))] [(.int (0 : Int32)), (.ref y), (.int (0 : Int32)), (.ref z)])) rfl rfl (hb hby d5_23) _ ?_
  refine own_go Hg20_5 hx hZ hown hby hw own_K5_ok (own_g20_4 x z d0) _ ?_
  refine stg20_7 _ ?_
  refine own_go Hg20_7 hx hZ hown hby hw own_K5_ok (own_g20_5 x z tt d0 v28 hv28 nn28) _ ?_
  refine stg20_8 _ ?_
  refine own_go Hg20_8 hx hZ hown hby hw own_K5_ok (own_g20_6 x z) _ ?_
  refine own_arrlen Hg20_8 hx hZ 3 rfl (z := (2 : Int32)) rfl (g := (mkF m 12 #[.val (.ref x), .val (.ref z), .val (.int (1 : Int32))] [(.ref z), (.int (1 : Int32))])) rfl rfl (hb hby d5_12) _ ?_
  refine own_go Hg20_8 hx hZ hown hby hw own_K5_ok (own_g20_7 x z) _ ?_
  refine stg20_10 _ ?_
  refine own_go Hg20_10 hx hZ hown hby hw own_K5_ok (own_g20_8 x z y) _ ?_
  refine own_daload Hg20_10 hx hZ 2 1 rfl (by decide) rfl (g := (mkF m 23 #[.val (.ref x), .val (.ref z), .val (.int (1 : Int32))] [(.int (1 : Int32)), (.ref y), (.int (1 : Int32)), (.ref z)])) rfl rfl (hb hby d5_23) _ ?_
  refine own_go Hg20_10 hx hZ hown hby hw own_K5_ok (own_g20_9 x z d1) _ ?_
  refine stg20_12 _ ?_
  refine own_go Hg20_12 hx hZ hown hby hw own_K5_ok (own_g20_10 x z tt d1 v28' hv28' nn28') _ ?_
  refine stg20_13 _ ?_
  refine own_go Hg20_13 hx hZ hown hby hw own_K5_ok (own_g20_11 x z) _ ?_
  refine own_arrlen Hg20_13 hx hZ 3 rfl (z := (2 : Int32)) rfl (g := (mkF m 12 #[.val (.ref x), .val (.ref z), .val (.int (2 : Int32))] [(.ref z), (.int (2 : Int32))])) rfl rfl (hb hby d5_12) _ ?_
  refine own_go Hg20_13 hx hZ hown hby hw own_K5_ok (own_g20_12 x z) _ ?_
  exact q
theorem own_g21_0 (x : Addr) :
    own_Go own_K5 prog_20_method_6_code 0 #[.val (.ref x), .unset, .unset] [] 1 #[.val (.ref x), .unset, .unset] [(.ref x)] := by
  refine own_aloadN (pc2 := 1) d5_0 rfl rfl rfl ?_
  exact own_refl
theorem own_g21_1 (x : Addr) (z : Addr) :
    own_Go own_K5 prog_20_method_6_code 7 #[.val (.ref x), .unset, .unset] [(.ref z)] 12 #[.val (.ref x), .val (.ref z), .val (.int (0 : Int32))] [(.ref z), (.int (0 : Int32))] := by
  refine own_astoreN (pc2 := 8) d5_7 rfl rfl (L' := #[.val (.ref x), .val (.ref z), .unset]) rfl ?_
  refine own_iconst (v := 0) (pc2 := 9) d5_8 rfl rfl ?_
  refine own_istoreN (pc2 := 10) d5_9 rfl (L' := #[.val (.ref x), .val (.ref z), .val (.int (0 : Int32))]) rfl ?_
  refine own_iloadN (pc2 := 11) d5_10 rfl rfl ?_
  refine own_aloadN (pc2 := 12) d5_11 rfl rfl rfl ?_
  exact own_refl
theorem own_g21_2 (x : Addr) (z : Addr) :
    own_Go own_K5 prog_20_method_6_code 13 #[.val (.ref x), .val (.ref z), .val (.int (0 : Int32))] [(.int (2 : Int32)), (.int (0 : Int32))] 19 #[.val (.ref x), .val (.ref z), .val (.int (0 : Int32))] [(.ref x), (.int (0 : Int32)), (.ref z)] := by
  refine own_icmpNo (pc2 := 16) d5_13 rfl (by decide) ?_
  refine own_aloadN (pc2 := 17) d5_16 rfl rfl rfl ?_
  refine own_iloadN (pc2 := 18) d5_17 rfl rfl ?_
  refine own_aloadN (pc2 := 19) d5_18 rfl rfl rfl ?_
  exact own_refl
theorem own_g21_3 (x : Addr) (z : Addr) (y : Addr) :
    own_Go own_K5 prog_20_method_6_code 22 #[.val (.ref x), .val (.ref z), .val (.int (0 : Int32))] [(.ref y), (.int (0 : Int32)), (.ref z)] 23 #[.val (.ref x), .val (.ref z), .val (.int (0 : Int32))] [(.int (0 : Int32)), (.ref y), (.int (0 : Int32)), (.ref z)] := by
  refine own_iloadN (pc2 := 23) d5_22 rfl rfl ?_
  exact own_refl
theorem own_g21_4 (x : Addr) (z : Addr) (d0 : UInt64) :
    own_Go own_K5 prog_20_method_6_code 24 #[.val (.ref x), .val (.ref z), .val (.int (0 : Int32))] [(.double d0), (.int (0 : Int32)), (.ref z)] 25 #[.val (.ref x), .val (.ref z), .val (.int (0 : Int32))] [(.ref x), (.double d0), (.int (0 : Int32)), (.ref z)] := by
  refine own_aloadN (pc2 := 25) d5_24 rfl rfl rfl ?_
  exact own_refl
theorem own_g21_5 (x : Addr) (z : Addr) (tt : UInt64) (d0 : UInt64) (v28 : UInt64) (hv28 : (FP.ddiv d0 tt) = v28) (nn28 : NoNaN64 (FP.ddiv d0 tt)) :
    own_Go own_K5 prog_20_method_6_code 28 #[.val (.ref x), .val (.ref z), .val (.int (0 : Int32))] [(.double tt), (.double d0), (.int (0 : Int32)), (.ref z)] 29 #[.val (.ref x), .val (.ref z), .val (.int (0 : Int32))] [(.double v28), (.int (0 : Int32)), (.ref z)] := by
  refine own_ddiv (pc2 := 29) d5_28 rfl nn28 (v := v28) hv28 ?_
  exact own_refl
theorem own_g21_6 (x : Addr) (z : Addr) :
    own_Go own_K5 prog_20_method_6_code 30 #[.val (.ref x), .val (.ref z), .val (.int (0 : Int32))] [] 12 #[.val (.ref x), .val (.ref z), .val (.int (1 : Int32))] [(.ref z), (.int (1 : Int32))] := by
  refine own_iinc (pc2 := 33) d5_30 rfl rfl (v := (1 : Int32)) (by decide) (L' := #[.val (.ref x), .val (.ref z), .val (.int (1 : Int32))]) rfl ?_
  refine own_goto (pc' := 10) d5_33 (by decide) (by decide) ?_
  refine own_iloadN (pc2 := 11) d5_10 rfl rfl ?_
  refine own_aloadN (pc2 := 12) d5_11 rfl rfl rfl ?_
  exact own_refl
theorem own_g21_7 (x : Addr) (z : Addr) :
    own_Go own_K5 prog_20_method_6_code 13 #[.val (.ref x), .val (.ref z), .val (.int (1 : Int32))] [(.int (2 : Int32)), (.int (1 : Int32))] 19 #[.val (.ref x), .val (.ref z), .val (.int (1 : Int32))] [(.ref x), (.int (1 : Int32)), (.ref z)] := by
  refine own_icmpNo (pc2 := 16) d5_13 rfl (by decide) ?_
  refine own_aloadN (pc2 := 17) d5_16 rfl rfl rfl ?_
  refine own_iloadN (pc2 := 18) d5_17 rfl rfl ?_
  refine own_aloadN (pc2 := 19) d5_18 rfl rfl rfl ?_
  exact own_refl
theorem own_g21_8 (x : Addr) (z : Addr) (y : Addr) :
    own_Go own_K5 prog_20_method_6_code 22 #[.val (.ref x), .val (.ref z), .val (.int (1 : Int32))] [(.ref y), (.int (1 : Int32)), (.ref z)] 23 #[.val (.ref x), .val (.ref z), .val (.int (1 : Int32))] [(.int (1 : Int32)), (.ref y), (.int (1 : Int32)), (.ref z)] := by
  refine own_iloadN (pc2 := 23) d5_22 rfl rfl ?_
  exact own_refl
theorem own_g21_9 (x : Addr) (z : Addr) (d1 : UInt64) :
    own_Go own_K5 prog_20_method_6_code 24 #[.val (.ref x), .val (.ref z), .val (.int (1 : Int32))] [(.double d1), (.int (1 : Int32)), (.ref z)] 25 #[.val (.ref x), .val (.ref z), .val (.int (1 : Int32))] [(.ref x), (.double d1), (.int (1 : Int32)), (.ref z)] := by
  refine own_aloadN (pc2 := 25) d5_24 rfl rfl rfl ?_
  exact own_refl
theorem own_g21_10 (x : Addr) (z : Addr) (tt : UInt64) (d1 : UInt64) (v28' : UInt64) (hv28' : (FP.ddiv d1 tt) = v28') (nn28' : NoNaN64 (FP.ddiv d1 tt)) :
    own_Go own_K5 prog_20_method_6_code 28 #[.val (.ref x), .val (.ref z), .val (.int (1 : Int32))] [(.double tt), (.double d1), (.int (1 : Int32)), (.ref z)] 29 #[.val (.ref x), .val (.ref z), .val (.int (1 : Int32))] [(.double v28'), (.int (1 : Int32)), (.ref z)] := by
  refine own_ddiv (pc2 := 29) d5_28 rfl nn28' (v := v28') hv28' ?_
  exact own_refl
theorem own_g21_11 (x : Addr) (z : Addr) :
    own_Go own_K5 prog_20_method_6_code 30 #[.val (.ref x), .val (.ref z), .val (.int (1 : Int32))] [] 12 #[.val (.ref x), .val (.ref z), .val (.int (2 : Int32))] [(.ref z), (.int (2 : Int32))] := by
  refine own_iinc (pc2 := 33) d5_30 rfl rfl (v := (2 : Int32)) (by decide) (L' := #[.val (.ref x), .val (.ref z), .val (.int (2 : Int32))]) rfl ?_
  refine own_goto (pc' := 10) d5_33 (by decide) (by decide) ?_
  refine own_iloadN (pc2 := 11) d5_10 rfl rfl ?_
  refine own_aloadN (pc2 := 12) d5_11 rfl rfl rfl ?_
  exact own_refl
theorem own_g21_12 (x : Addr) (z : Addr) :
    own_Go own_K5 prog_20_method_6_code 13 #[.val (.ref x), .val (.ref z), .val (.int (2 : Int32))] [(.int (2 : Int32)), (.int (2 : Int32))] 37 #[.val (.ref x), .val (.ref z), .val (.int (2 : Int32))] [(.ref z)] := by
  refine own_icmpYes (pc' := 36) d5_13 (by decide) (by decide) (by decide) ?_
  refine own_aloadN (pc2 := 37) d5_36 rfl rfl rfl ?_
  exact own_refl
set_option maxRecDepth 65536 in
set_option maxHeartbeats 4000000 in
theorem own_mol21 (l : Launch) (Z : State) (a0 : Array Value) (hb0 : Heap) (hw : ∀ d ∈ tables_1, d.before a0 Z = true) (x : Addr) (ai y : Addr) (qa : own_Cel) (tt : UInt64) (d0 : UInt64) (nn0 : NoNaN64 (FP.ddiv d0 tt)) (d1 : UInt64) (nn1 : NoNaN64 (FP.ddiv d1 tt)) (z0 : Addr) (q0 : own_Cel) :
    own_Met l Z a0 hb0 (⟨"com/example/tangentia/tangentia/flash/Feed", "moleFractions", "()[D"⟩ : MethodName) prog_20_method_6_code 3 (some (.array .double)) [] ({ frames := 0, cells := 1, slots := 2, locals := 0 } : Room) #[(.ref x)] [(ai, qa), (x, own_O "com/example/tangentia/tangentia/flash/Feed" [("com/example/tangentia/tangentia/flash/Feed", "amounts", "[D", .ref y), ("com/example/tangentia/tangentia/flash/Feed", "total", "D", .double tt)]), (y, own_A .double [.double d0, .double d1]), (z0, q0)] (fun r cs' => ∃ z, r = some (.ref z) ∧ cs' = [(ai, qa), (x, own_O "com/example/tangentia/tangentia/flash/Feed" [("com/example/tangentia/tangentia/flash/Feed", "amounts", "[D", .ref y), ("com/example/tangentia/tangentia/flash/Feed", "total", "D", .double tt)]), (y, own_A .double [.double d0, .double d1]), (z0, q0), (z, own_A .double [.double (FP.ddiv d0 tt), .double (FP.ddiv d1 tt)])]) := by
  refine own_met_of (L0 := #[.val (.ref x), .unset, .unset]) (plainFor_of_name own_pn5) (fun m => own_ef5 m x) ?_
  intro p e s m below meth c T0 hx hZ hown hby hml hnm H0
  obtain ⟨Tg21_1, Hg21_1, stg21_1⟩ := own_getF H0 hx hZ hown (hw _ (List.mem_of_getElem? (i := 30) rfl)) 1 0 rfl rfl (g := (mkF m 1 #[.val (.ref x), .unset, .unset] [(.ref x)])) rfl rfl (hb hby d5_1)
  change own_S _ _ _ _ _ _ _ _ _ _ _ _ _ _ [(ai, qa), (x, own_O "com/example/tangentia/tangentia/flash/Feed" [("com/example/tangentia/tangentia/flash/Feed", "amounts", "[D", .ref y), ("com/example/tangentia/tangentia/flash/Feed", "total", "D", .double tt)]), (y, own_A .double [.double d0, .double d1]), (z0, q0)] _ _ at Hg21_1
  obtain ⟨Tg21_3, z, Hg21_3, stg21_3⟩ := own_newA Hg21_1 hx hZ (hw _ (List.mem_of_getElem? (i := 2) rfl)) (g := (mkF m 5 #[.val (.ref x), .unset, .unset] [(.int (2 : Int32))])) rfl (hb hby d5_5) rfl (by decide) (cap := 2) (by decide) (by decide) (by decide) (by decide)
  change own_S _ _ _ _ _ _ _ _ _ _ _ _ _ _ [(ai, qa), (x, own_O "com/example/tangentia/tangentia/flash/Feed" [("com/example/tangentia/tangentia/flash/Feed", "amounts", "[D", .ref y), ("com/example/tangentia/tangentia/flash/Feed", "total", "D", .double tt)]), (y, own_A .double [.double d0, .double d1]), (z0, q0), (z, own_A .double [.double 0, .double 0])] _ _ at Hg21_3
  obtain ⟨Tg21_5, Hg21_5, stg21_5⟩ := own_getF Hg21_3 hx hZ hown (hw _ (List.mem_of_getElem? (i := 30) rfl)) 1 0 rfl rfl (g := (mkF m 19 #[.val (.ref x), .val (.ref z), .val (.int (0 : Int32))] [(.ref x), (.int (0 : Int32)), (.ref z)])) rfl rfl (hb hby d5_19)
  change own_S _ _ _ _ _ _ _ _ _ _ _ _ _ _ [(ai, qa), (x, own_O "com/example/tangentia/tangentia/flash/Feed" [("com/example/tangentia/tangentia/flash/Feed", "amounts", "[D", .ref y), ("com/example/tangentia/tangentia/flash/Feed", "total", "D", .double tt)]), (y, own_A .double [.double d0, .double d1]), (z0, q0), (z, own_A .double [.double 0, .double 0])] _ _ at Hg21_5
  obtain ⟨Tg21_7, Hg21_7, stg21_7⟩ := own_getF Hg21_5 hx hZ hown (hw _ (List.mem_of_getElem? (i := 32) rfl)) 1 1 rfl rfl (g := (mkF m 25 #[.val (.ref x), .val (.ref z), .val (.int (0 : Int32))] [(.ref x), (.double d0), (.int (0 : Int32)), (.ref z)])) rfl rfl (hb hby d5_25)
  change own_S _ _ _ _ _ _ _ _ _ _ _ _ _ _ [(ai, qa), (x, own_O "com/example/tangentia/tangentia/flash/Feed" [("com/example/tangentia/tangentia/flash/Feed", "amounts", "[D", .ref y), ("com/example/tangentia/tangentia/flash/Feed", "total", "D", .double tt)]), (y, own_A .double [.double d0, .double d1]), (z0, q0), (z, own_A .double [.double 0, .double 0])] _ _ at Hg21_7
  obtain ⟨v28, hv28⟩ : ∃ z : UInt64, (FP.ddiv d0 tt) = z := ⟨_, rfl⟩
  obtain ⟨Tg21_8, Hg21_8, stg21_8⟩ := own_dastore Hg21_7 hx hZ 4 0 rfl (by decide) (Nat.le_of_ble_eq_true rfl) (g := (mkF m 29 #[.val (.ref x), .val (.ref z), .val (.int (0 : Int32))] [(.double v28), (.int (0 : Int32)), (.ref z)])) rfl rfl (hb hby d5_29)
  change own_S _ _ _ _ _ _ _ _ _ _ _ _ _ _ [(ai, qa), (x, own_O "com/example/tangentia/tangentia/flash/Feed" [("com/example/tangentia/tangentia/flash/Feed", "amounts", "[D", .ref y), ("com/example/tangentia/tangentia/flash/Feed", "total", "D", .double tt)]), (y, own_A .double [.double d0, .double d1]), (z0, q0), (z, own_A .double [.double v28, .double 0])] _ _ at Hg21_8
  obtain ⟨Tg21_10, Hg21_10, stg21_10⟩ := own_getF Hg21_8 hx hZ hown (hw _ (List.mem_of_getElem? (i := 30) rfl)) 1 0 rfl rfl (g := (mkF m 19 #[.val (.ref x), .val (.ref z), .val (.int (1 : Int32))] [(.ref x), (.int (1 : Int32)), (.ref z)])) rfl rfl (hb hby d5_19)
  change own_S _ _ _ _ _ _ _ _ _ _ _ _ _ _ [(ai, qa), (x, own_O "com/example/tangentia/tangentia/flash/Feed" [("com/example/tangentia/tangentia/flash/Feed", "amounts", "[D", .ref y), ("com/example/tangentia/tangentia/flash/Feed", "total", "D", .double tt)]), (y, own_A .double [.double d0, .double d1]), (z0, q0), (z, own_A .double [.double v28, .double 0])] _ _ at Hg21_10
  obtain ⟨Tg21_12, Hg21_12, stg21_12⟩ := own_getF Hg21_10 hx hZ hown (hw _ (List.mem_of_getElem? (i := 32) rfl)) 1 1 rfl rfl (g := (mkF m 25 #[.val (.ref x), .val (.ref z), .val (.int (1 : Int32))] [(.ref x), (.double d1), (.int (1 : Int32)), (.ref z)])) rfl rfl (hb hby d5_25)
  change own_S _ _ _ _ _ _ _ _ _ _ _ _ _ _ [(ai, qa), (x, own_O "com/example/tangentia/tangentia/flash/Feed" [("com/example/tangentia/tangentia/flash/Feed", "amounts", "[D", .ref y), ("com/example/tangentia/tangentia/flash/Feed", "total", "D", .double tt)]), (y, own_A .double [.double d0, .double d1]), (z0, q0), (z, own_A .double [.double v28, .double 0])] _ _ at Hg21_12
  obtain ⟨v28', hv28'⟩ : ∃ z : UInt64, (FP.ddiv d1 tt) = z := ⟨_, rfl⟩
  obtain ⟨Tg21_13, Hg21_13, stg21_13⟩ := own_dastore Hg21_12 hx hZ 4 1 rfl (by decide) (Nat.le_of_ble_eq_true rfl) (g := (mkF m 29 #[.val (.ref x), .val (.ref z), .val (.int (1 : Int32))] [(.double v28'), (.int (1 : Int32)), (.ref z)])) rfl rfl (hb hby d5_29)
  change own_S _ _ _ _ _ _ _ _ _ _ _ _ _ _ [(ai, qa), (x, own_O "com/example/tangentia/tangentia/flash/Feed" [("com/example/tangentia/tangentia/flash/Feed", "amounts", "[D", .ref y), ("com/example/tangentia/tangentia/flash/Feed", "total", "D", .double tt)]), (y, own_A .double [.double d0, .double d1]), (z0, q0), (z, own_A .double [.double v28, .double v28'])] _ _ at Hg21_13
  have nn28 : NoNaN64 (FP.ddiv d0 tt) := nn0
  have nn28' : NoNaN64 (FP.ddiv d1 tt) := nn1
  refine ⟨_, _, _, _, 37, #[.val (.ref x), .val (.ref z), .val (.int (2 : Int32))], Hg21_13, by decide, by decide, Or.inr ⟨(.array .double), (.ref z), [], .areturn, rfl, ⟨z, rfl, by rw [hv28, hv28']⟩, d5_37, own_retA _, fun target q => ?_⟩⟩
  refine own_go H0 hx hZ hown hby hw own_K5_ok (own_g21_0 x) _ ?_
  refine stg21_1 _ ?_
  refine own_arrlen Hg21_1 hx hZ 2 rfl (z := (2 : Int32)) rfl (g := (mkF m 4 #[.val (.ref x), .unset, .unset] [(.ref y)])) rfl rfl (hb hby d5_4) _ ?_
  refine stg21_3 _ ?_
  refine own_go Hg21_3 hx hZ hown hby hw own_K5_ok (own_g21_1 x z) _ ?_
  refine own_arrlen Hg21_3 hx hZ 4 rfl (z := (2 : Int32)) rfl (g := (mkF m 12 #[.val (.ref x), .val (.ref z), .val (.int (0 : Int32))] [(.ref z), (.int (0 : Int32))])) rfl rfl (hb hby d5_12) _ ?_
  refine own_go Hg21_3 hx hZ hown hby hw own_K5_ok (own_g21_2 x z) _ ?_
  refine stg21_5 _ ?_
  refine own_go Hg21_5 hx hZ hown hby hw own_K5_ok (own_g21_3 x z y) _ ?_
  refine own_daload Hg21_5 hx hZ 2 0 rfl (by decide) rfl (g := (mkF m 23 #[.val (.ref x), .val (.ref z), .val (.int (0 : Int32))] [(.int (0 : Int32)), (.ref y), (.int (0 : Int32)), (.ref z)])) rfl rfl (hb hby d5_23) _ ?_
  refine own_go Hg21_5 hx hZ hown hby hw own_K5_ok (own_g21_4 x z d0) _ ?_
  refine stg21_7 _ ?_
  refine own_go Hg21_7 hx hZ hown hby hw own_K5_ok (own_g21_5 x z tt d0 v28 hv28 nn28) _ ?_
  refine stg21_8 _ ?_
  refine own_go Hg21_8 hx hZ hown hby hw own_K5_ok (own_g21_6 x z) _ ?_
  refine own_arrlen Hg21_8 hx hZ 4 rfl (z := (2 : Int32)) rfl (g := (mkF m 12 #[.val (.ref x), .val (.ref z), .val (.int (1 : Int32))] [(.ref z), (.int (1 : Int32))])) rfl rfl (hb hby d5_12) _ ?_
  refine own_go Hg21_8 hx hZ hown hby hw own_K5_ok (own_g21_7 x z) _ ?_
  refine stg21_10 _ ?_
  refine own_go Hg21_10 hx hZ hown hby hw own_K5_ok (own_g21_8 x z y) _ ?_
  refine own_daload Hg21_10 hx hZ 2 1 rfl (by decide) rfl (g := (mkF m 23 #[.val (.ref x), .val (.ref z), .val (.int (1 : Int32))] [(.int (1 : Int32)), (.ref y), (.int (1 : Int32)), (.ref z)])) rfl rfl (hb hby d5_23) _ ?_
  refine own_go Hg21_10 hx hZ hown hby hw own_K5_ok (own_g21_9 x z d1) _ ?_
  refine stg21_12 _ ?_
  refine own_go Hg21_12 hx hZ hown hby hw own_K5_ok (own_g21_10 x z tt d1 v28' hv28' nn28') _ ?_
  refine stg21_13 _ ?_
  refine own_go Hg21_13 hx hZ hown hby hw own_K5_ok (own_g21_11 x z) _ ?_
  refine own_arrlen Hg21_13 hx hZ 4 rfl (z := (2 : Int32)) rfl (g := (mkF m 12 #[.val (.ref x), .val (.ref z), .val (.int (2 : Int32))] [(.ref z), (.int (2 : Int32))])) rfl rfl (hb hby d5_12) _ ?_
  refine own_go Hg21_13 hx hZ hown hby hw own_K5_ok (own_g21_12 x z) _ ?_
  exact q
theorem own_f3_0 (x : Addr) (ai : Addr) :
    own_Go own_K1 prog_20_method_1_code 0 #[.val (.ref x), .val (.ref ai), .unset, .unset, .unset] [] 1 #[.val (.ref x), .val (.ref ai), .unset, .unset, .unset] [(.ref x)] := by
  refine own_aloadN (pc2 := 1) d1_0 rfl rfl rfl ?_
  exact own_refl
theorem own_f3_1 (x : Addr) (ai : Addr) :
    own_Go own_K1 prog_20_method_1_code 4 #[.val (.ref x), .val (.ref ai), .unset, .unset, .unset] [] 12 #[.val (.ref x), .val (.ref ai), .val (.double (0 : UInt64)), .second, .val (.int (0 : Int32))] [(.ref ai), (.int (0 : Int32))] := by
  refine own_dconst0 (v := 0) (pc2 := 5) d1_4 rfl rfl ?_
  refine own_dstoreN (pc2 := 6) d1_5 rfl (L' := #[.val (.ref x), .val (.ref ai), .val (.double (0 : UInt64)), .second, .unset]) rfl ?_
  refine own_iconst (v := 0) (pc2 := 7) d1_6 rfl rfl ?_
  refine own_istore (pc2 := 9) d1_7 rfl (L' := #[.val (.ref x), .val (.ref ai), .val (.double (0 : UInt64)), .second, .val (.int (0 : Int32))]) rfl ?_
  refine own_iload (pc2 := 11) d1_9 rfl rfl ?_
  refine own_aloadN (pc2 := 12) d1_11 rfl rfl rfl ?_
  exact own_refl
theorem own_f3_2 (x : Addr) (ai : Addr) :
    own_Go own_K1 prog_20_method_1_code 13 #[.val (.ref x), .val (.ref ai), .val (.double (0 : UInt64)), .second, .val (.int (0 : Int32))] [(.int (3 : Int32)), (.int (0 : Int32))] 19 #[.val (.ref x), .val (.ref ai), .val (.double (0 : UInt64)), .second, .val (.int (0 : Int32))] [(.int (0 : Int32)), (.ref ai)] := by
  refine own_icmpNo (pc2 := 16) d1_13 rfl (by decide) ?_
  refine own_aloadN (pc2 := 17) d1_16 rfl rfl rfl ?_
  refine own_iload (pc2 := 19) d1_17 rfl rfl ?_
  exact own_refl
theorem own_f3_3 (x : Addr) (ai : Addr) :
    own_Go own_K1 prog_20_method_1_code 23 #[.val (.ref x), .val (.ref ai), .val (.double (0 : UInt64)), .second, .val (.int (0 : Int32))] [(.int (1 : Int32))] 29 #[.val (.ref x), .val (.ref ai), .val (.double (0 : UInt64)), .second, .val (.int (0 : Int32))] [(.int (0 : Int32)), (.ref ai)] := by
  refine own_ifNo (pc2 := 26) d1_23 rfl (by decide) ?_
  refine own_aloadN (pc2 := 27) d1_26 rfl rfl rfl ?_
  refine own_iload (pc2 := 29) d1_27 rfl rfl ?_
  exact own_refl
theorem own_f3_4 (x : Addr) (ai : Addr) (d0 : UInt64) (v31 : Int32) (hv31 : (cmpValue (FP.dcmp d0 (0 : UInt64)) .g) = v31) (hb32_0 : ifCond.holds .ge v31 = true) :
    own_Go own_K1 prog_20_method_1_code 30 #[.val (.ref x), .val (.ref ai), .val (.double (0 : UInt64)), .second, .val (.int (0 : Int32))] [(.double d0)] 54 #[.val (.ref x), .val (.ref ai), .val (.double (0 : UInt64)), .second, .val (.int (0 : Int32))] [] := by
  refine own_dconst0 (v := 0) (pc2 := 31) d1_30 rfl rfl ?_
  refine own_dcmp (pc2 := 32) d1_31 rfl (v := v31) hv31 ?_
  refine own_ifYes (pc' := 54) d1_32 hb32_0 (by decide) (by decide) ?_
  exact own_refl
theorem own_f3_5 (x : Addr) (ai : Addr) :
    own_Go own_K1 prog_20_method_1_code 54 #[.val (.ref x), .val (.ref ai), .val (.double (0 : UInt64)), .second, .val (.int (0 : Int32))] [] 58 #[.val (.ref x), .val (.ref ai), .val (.double (0 : UInt64)), .second, .val (.int (0 : Int32))] [(.int (0 : Int32)), (.ref ai), (.double (0 : UInt64))] := by
  refine own_dloadN (pc2 := 55) d1_54 rfl rfl ?_
  refine own_aloadN (pc2 := 56) d1_55 rfl rfl rfl ?_
  refine own_iload (pc2 := 58) d1_56 rfl rfl ?_
  exact own_refl
theorem own_f3_6 (x : Addr) (ai : Addr) (d0 : UInt64) (v59 : UInt64) (hv59 : (FP.dadd (0 : UInt64) d0) = v59) (nn59 : NoNaN64 (FP.dadd (0 : UInt64) d0)) :
    own_Go own_K1 prog_20_method_1_code 59 #[.val (.ref x), .val (.ref ai), .val (.double (0 : UInt64)), .second, .val (.int (0 : Int32))] [(.double d0), (.double (0 : UInt64))] 9 #[.val (.ref x), .val (.ref ai), .val (.double v59), .second, .val (.int (1 : Int32))] [] := by
  refine own_dadd (pc2 := 60) d1_59 rfl nn59 (v := v59) hv59 ?_
  refine own_dstoreN (pc2 := 61) d1_60 rfl (L' := #[.val (.ref x), .val (.ref ai), .val (.double v59), .second, .val (.int (0 : Int32))]) rfl ?_
  refine own_iinc (pc2 := 64) d1_61 rfl rfl (v := (1 : Int32)) (by decide) (L' := #[.val (.ref x), .val (.ref ai), .val (.double v59), .second, .val (.int (1 : Int32))]) rfl ?_
  refine own_goto (pc' := 9) d1_64 (by decide) (by decide) ?_
  exact own_refl
theorem own_f3_7 (x : Addr) (ai : Addr) (v59 : UInt64) :
    own_Go own_K1 prog_20_method_1_code 9 #[.val (.ref x), .val (.ref ai), .val (.double v59), .second, .val (.int (1 : Int32))] [] 12 #[.val (.ref x), .val (.ref ai), .val (.double v59), .second, .val (.int (1 : Int32))] [(.ref ai), (.int (1 : Int32))] := by
  refine own_iload (pc2 := 11) d1_9 rfl rfl ?_
  refine own_aloadN (pc2 := 12) d1_11 rfl rfl rfl ?_
  exact own_refl
theorem own_f3_8 (x : Addr) (ai : Addr) (v59 : UInt64) :
    own_Go own_K1 prog_20_method_1_code 13 #[.val (.ref x), .val (.ref ai), .val (.double v59), .second, .val (.int (1 : Int32))] [(.int (3 : Int32)), (.int (1 : Int32))] 19 #[.val (.ref x), .val (.ref ai), .val (.double v59), .second, .val (.int (1 : Int32))] [(.int (1 : Int32)), (.ref ai)] := by
  refine own_icmpNo (pc2 := 16) d1_13 rfl (by decide) ?_
  refine own_aloadN (pc2 := 17) d1_16 rfl rfl rfl ?_
  refine own_iload (pc2 := 19) d1_17 rfl rfl ?_
  exact own_refl
theorem own_f3_9 (x : Addr) (ai : Addr) (v59 : UInt64) :
    own_Go own_K1 prog_20_method_1_code 23 #[.val (.ref x), .val (.ref ai), .val (.double v59), .second, .val (.int (1 : Int32))] [(.int (1 : Int32))] 29 #[.val (.ref x), .val (.ref ai), .val (.double v59), .second, .val (.int (1 : Int32))] [(.int (1 : Int32)), (.ref ai)] := by
  refine own_ifNo (pc2 := 26) d1_23 rfl (by decide) ?_
  refine own_aloadN (pc2 := 27) d1_26 rfl rfl rfl ?_
  refine own_iload (pc2 := 29) d1_27 rfl rfl ?_
  exact own_refl
theorem own_f3_10 (x : Addr) (ai : Addr) (v59 : UInt64) (d1 : UInt64) (v31' : Int32) (hv31' : (cmpValue (FP.dcmp d1 (0 : UInt64)) .g) = v31') (hb32_1 : ifCond.holds .ge v31' = true) :
    own_Go own_K1 prog_20_method_1_code 30 #[.val (.ref x), .val (.ref ai), .val (.double v59), .second, .val (.int (1 : Int32))] [(.double d1)] 54 #[.val (.ref x), .val (.ref ai), .val (.double v59), .second, .val (.int (1 : Int32))] [] := by
  refine own_dconst0 (v := 0) (pc2 := 31) d1_30 rfl rfl ?_
  refine own_dcmp (pc2 := 32) d1_31 rfl (v := v31') hv31' ?_
  refine own_ifYes (pc' := 54) d1_32 hb32_1 (by decide) (by decide) ?_
  exact own_refl
theorem own_f3_11 (x : Addr) (ai : Addr) (v59 : UInt64) :
    own_Go own_K1 prog_20_method_1_code 54 #[.val (.ref x), .val (.ref ai), .val (.double v59), .second, .val (.int (1 : Int32))] [] 58 #[.val (.ref x), .val (.ref ai), .val (.double v59), .second, .val (.int (1 : Int32))] [(.int (1 : Int32)), (.ref ai), (.double v59)] := by
  refine own_dloadN (pc2 := 55) d1_54 rfl rfl ?_
  refine own_aloadN (pc2 := 56) d1_55 rfl rfl rfl ?_
  refine own_iload (pc2 := 58) d1_56 rfl rfl ?_
  exact own_refl
theorem own_f3_12 (x : Addr) (ai : Addr) (v59 : UInt64) (d1 : UInt64) (v59' : UInt64) (hv59' : (FP.dadd v59 d1) = v59') (nn59' : NoNaN64 (FP.dadd v59 d1)) :
    own_Go own_K1 prog_20_method_1_code 59 #[.val (.ref x), .val (.ref ai), .val (.double v59), .second, .val (.int (1 : Int32))] [(.double d1), (.double v59)] 9 #[.val (.ref x), .val (.ref ai), .val (.double v59'), .second, .val (.int (2 : Int32))] [] := by
  refine own_dadd (pc2 := 60) d1_59 rfl nn59' (v := v59') hv59' ?_
  refine own_dstoreN (pc2 := 61) d1_60 rfl (L' := #[.val (.ref x), .val (.ref ai), .val (.double v59'), .second, .val (.int (1 : Int32))]) rfl ?_
  refine own_iinc (pc2 := 64) d1_61 rfl rfl (v := (2 : Int32)) (by decide) (L' := #[.val (.ref x), .val (.ref ai), .val (.double v59'), .second, .val (.int (2 : Int32))]) rfl ?_
  refine own_goto (pc' := 9) d1_64 (by decide) (by decide) ?_
  exact own_refl
theorem own_f3_13 (x : Addr) (ai : Addr) (v59' : UInt64) :
    own_Go own_K1 prog_20_method_1_code 9 #[.val (.ref x), .val (.ref ai), .val (.double v59'), .second, .val (.int (2 : Int32))] [] 12 #[.val (.ref x), .val (.ref ai), .val (.double v59'), .second, .val (.int (2 : Int32))] [(.ref ai), (.int (2 : Int32))] := by
  refine own_iload (pc2 := 11) d1_9 rfl rfl ?_
  refine own_aloadN (pc2 := 12) d1_11 rfl rfl rfl ?_
  exact own_refl
theorem own_f3_14 (x : Addr) (ai : Addr) (v59' : UInt64) :
    own_Go own_K1 prog_20_method_1_code 13 #[.val (.ref x), .val (.ref ai), .val (.double v59'), .second, .val (.int (2 : Int32))] [(.int (3 : Int32)), (.int (2 : Int32))] 19 #[.val (.ref x), .val (.ref ai), .val (.double v59'), .second, .val (.int (2 : Int32))] [(.int (2 : Int32)), (.ref ai)] := by
  refine own_icmpNo (pc2 := 16) d1_13 rfl (by decide) ?_
  refine own_aloadN (pc2 := 17) d1_16 rfl rfl rfl ?_
  refine own_iload (pc2 := 19) d1_17 rfl rfl ?_
  exact own_refl
theorem own_f3_15 (x : Addr) (ai : Addr) (v59' : UInt64) :
    own_Go own_K1 prog_20_method_1_code 23 #[.val (.ref x), .val (.ref ai), .val (.double v59'), .second, .val (.int (2 : Int32))] [(.int (1 : Int32))] 29 #[.val (.ref x), .val (.ref ai), .val (.double v59'), .second, .val (.int (2 : Int32))] [(.int (2 : Int32)), (.ref ai)] := by
  refine own_ifNo (pc2 := 26) d1_23 rfl (by decide) ?_
  refine own_aloadN (pc2 := 27) d1_26 rfl rfl rfl ?_
  refine own_iload (pc2 := 29) d1_27 rfl rfl ?_
  exact own_refl
theorem own_f3_16 (x : Addr) (ai : Addr) (v59' : UInt64) (d2 : UInt64) (v31'' : Int32) (hv31'' : (cmpValue (FP.dcmp d2 (0 : UInt64)) .g) = v31'') (hb32_2 : ifCond.holds .ge v31'' = true) :
    own_Go own_K1 prog_20_method_1_code 30 #[.val (.ref x), .val (.ref ai), .val (.double v59'), .second, .val (.int (2 : Int32))] [(.double d2)] 54 #[.val (.ref x), .val (.ref ai), .val (.double v59'), .second, .val (.int (2 : Int32))] [] := by
  refine own_dconst0 (v := 0) (pc2 := 31) d1_30 rfl rfl ?_
  refine own_dcmp (pc2 := 32) d1_31 rfl (v := v31'') hv31'' ?_
  refine own_ifYes (pc' := 54) d1_32 hb32_2 (by decide) (by decide) ?_
  exact own_refl
theorem own_f3_17 (x : Addr) (ai : Addr) (v59' : UInt64) :
    own_Go own_K1 prog_20_method_1_code 54 #[.val (.ref x), .val (.ref ai), .val (.double v59'), .second, .val (.int (2 : Int32))] [] 58 #[.val (.ref x), .val (.ref ai), .val (.double v59'), .second, .val (.int (2 : Int32))] [(.int (2 : Int32)), (.ref ai), (.double v59')] := by
  refine own_dloadN (pc2 := 55) d1_54 rfl rfl ?_
  refine own_aloadN (pc2 := 56) d1_55 rfl rfl rfl ?_
  refine own_iload (pc2 := 58) d1_56 rfl rfl ?_
  exact own_refl
theorem own_f3_18 (x : Addr) (ai : Addr) (v59' : UInt64) (d2 : UInt64) (v59'' : UInt64) (hv59'' : (FP.dadd v59' d2) = v59'') (nn59'' : NoNaN64 (FP.dadd v59' d2)) :
    own_Go own_K1 prog_20_method_1_code 59 #[.val (.ref x), .val (.ref ai), .val (.double v59'), .second, .val (.int (2 : Int32))] [(.double d2), (.double v59')] 9 #[.val (.ref x), .val (.ref ai), .val (.double v59''), .second, .val (.int (3 : Int32))] [] := by
  refine own_dadd (pc2 := 60) d1_59 rfl nn59'' (v := v59'') hv59'' ?_
  refine own_dstoreN (pc2 := 61) d1_60 rfl (L' := #[.val (.ref x), .val (.ref ai), .val (.double v59''), .second, .val (.int (2 : Int32))]) rfl ?_
  refine own_iinc (pc2 := 64) d1_61 rfl rfl (v := (3 : Int32)) (by decide) (L' := #[.val (.ref x), .val (.ref ai), .val (.double v59''), .second, .val (.int (3 : Int32))]) rfl ?_
  refine own_goto (pc' := 9) d1_64 (by decide) (by decide) ?_
  exact own_refl
theorem own_f3_19 (x : Addr) (ai : Addr) (v59'' : UInt64) :
    own_Go own_K1 prog_20_method_1_code 9 #[.val (.ref x), .val (.ref ai), .val (.double v59''), .second, .val (.int (3 : Int32))] [] 12 #[.val (.ref x), .val (.ref ai), .val (.double v59''), .second, .val (.int (3 : Int32))] [(.ref ai), (.int (3 : Int32))] := by
  refine own_iload (pc2 := 11) d1_9 rfl rfl ?_
  refine own_aloadN (pc2 := 12) d1_11 rfl rfl rfl ?_
  exact own_refl
theorem own_f3_20 (x : Addr) (ai : Addr) (v59'' : UInt64) :
    own_Go own_K1 prog_20_method_1_code 13 #[.val (.ref x), .val (.ref ai), .val (.double v59''), .second, .val (.int (3 : Int32))] [(.int (3 : Int32)), (.int (3 : Int32))] 68 #[.val (.ref x), .val (.ref ai), .val (.double v59''), .second, .val (.int (3 : Int32))] [(.double v59'')] := by
  refine own_icmpYes (pc' := 67) d1_13 (by decide) (by decide) (by decide) ?_
  refine own_dloadN (pc2 := 68) d1_67 rfl rfl ?_
  exact own_refl
theorem own_f3_21 (x : Addr) (ai : Addr) (v59'' : UInt64) (v76 : Int32) (hv76 : (cmpValue (FP.dcmp v59'' (0 : UInt64)) .g) = v76) (hb77 : ifCond.holds .gt v76 = true) :
    own_Go own_K1 prog_20_method_1_code 71 #[.val (.ref x), .val (.ref ai), .val (.double v59''), .second, .val (.int (3 : Int32))] [(.int (1 : Int32))] 96 #[.val (.ref x), .val (.ref ai), .val (.double v59''), .second, .val (.int (3 : Int32))] [(.ref ai), (.ref x)] := by
  refine own_ifNo (pc2 := 74) d1_71 rfl (by decide) ?_
  refine own_dloadN (pc2 := 75) d1_74 rfl rfl ?_
  refine own_dconst0 (v := 0) (pc2 := 76) d1_75 rfl rfl ?_
  refine own_dcmp (pc2 := 77) d1_76 rfl (v := v76) hv76 ?_
  refine own_ifYes (pc' := 94) d1_77 hb77 (by decide) (by decide) ?_
  refine own_aloadN (pc2 := 95) d1_94 rfl rfl rfl ?_
  refine own_aloadN (pc2 := 96) d1_95 rfl rfl rfl ?_
  exact own_refl
theorem own_f3_22 (x : Addr) (ai : Addr) (v59'' : UInt64) :
    own_Go own_K1 prog_20_method_1_code 105 #[.val (.ref x), .val (.ref ai), .val (.double v59''), .second, .val (.int (3 : Int32))] [] 107 #[.val (.ref x), .val (.ref ai), .val (.double v59''), .second, .val (.int (3 : Int32))] [(.double v59''), (.ref x)] := by
  refine own_aloadN (pc2 := 106) d1_105 rfl rfl rfl ?_
  refine own_dloadN (pc2 := 107) d1_106 rfl rfl ?_
  exact own_refl
set_option maxRecDepth 65536 in
set_option maxHeartbeats 4000000 in
theorem own_feed3 (l : Launch) (Z : State) (a0 : Array Value) (hb0 : Heap) (hw : ∀ d ∈ tables_1, d.before a0 Z = true) (x : Addr) (ai : Addr)  (d0 : UInt64) (A0 : Int) (i0 : own_is d0 ((A0 : Int) : Rat)) (k0 : 0 ≤ A0 ∧ A0 < 1048576) (d1 : UInt64) (A1 : Int) (i1 : own_is d1 ((A1 : Int) : Rat)) (k1 : 0 ≤ A1 ∧ A1 < 1048576) (d2 : UInt64) (A2 : Int) (i2 : own_is d2 ((A2 : Int) : Rat)) (k2 : 0 ≤ A2 ∧ A2 < 1048576) (hp : 0 < ((((0 : Int) + A0) + A1) + A2)) :
    own_Met l Z a0 hb0 (⟨"com/example/tangentia/tangentia/flash/Feed", "<init>", "([D)V"⟩ : MethodName) prog_20_method_1_code 5 none [] ({ frames := 2, cells := 1, slots := 3, locals := 28 } : Room) #[(.ref x), (.ref ai)] [(ai, own_A .double [.double d0, .double d1, .double d2]), (x, own_O "com/example/tangentia/tangentia/flash/Feed" [("com/example/tangentia/tangentia/flash/Feed", "amounts", "[D", .null), ("com/example/tangentia/tangentia/flash/Feed", "total", "D", .double 0)])] (fun r cs' => ∃ y tt, own_is tt ((((((0 : Int) + A0) + A1) + A2) : Int) : Rat) ∧ r = none ∧ cs' = [(ai, own_A .double [.double d0, .double d1, .double d2]), (x, own_O "com/example/tangentia/tangentia/flash/Feed" [("com/example/tangentia/tangentia/flash/Feed", "amounts", "[D", .ref y), ("com/example/tangentia/tangentia/flash/Feed", "total", "D", .double tt)]), (y, own_A .double [.double d0, .double d1, .double d2])]) := by
  refine own_met_of (L0 := #[.val (.ref x), .val (.ref ai), .unset, .unset, .unset]) (plainFor_of_name own_pn1) (fun m => own_ef1 m x ai) ?_
  intro p e s m below meth c T0 hx hZ hown hby hml hnm H0
  obtain ⟨Tf3_1, Hf3_1, stf3_1⟩ := own_initO H0 hx hZ hown (hw _ (List.mem_of_getElem? (i := 9) rfl)) (hw _ (List.mem_of_getElem? (i := 10) rfl)) (hw _ (List.mem_of_getElem? (i := 11) rfl)) (g := (mkF m 1 #[.val (.ref x), .val (.ref ai), .unset, .unset, .unset] [(.ref x)])) rfl (by rw [hml]; rfl) rfl (hb hby d1_1) (by decide) (W := 0) (by show 2 * 0 + _ ≤ _; exact Nat.le_of_eq rfl) (by decide)
  change own_S _ _ _ _ _ _ _ _ _ _ _ _ _ _ [(ai, own_A .double [.double d0, .double d1, .double d2]), (x, own_O "com/example/tangentia/tangentia/flash/Feed" [("com/example/tangentia/tangentia/flash/Feed", "amounts", "[D", .null), ("com/example/tangentia/tangentia/flash/Feed", "total", "D", .double 0)])] _ _ at Hf3_1
  have s0 : own_is (0 : UInt64) (((0 : Int) : Int) : Rat) := own_zero
  obtain ⟨Tf3_4, vf3_4_, csf3_4_, qf3_4, Hf3_4, stf3_4⟩ := own_callS Hf3_1 hx hZ hown (hw _ (List.mem_of_getElem? (i := 12) rfl)) (hw _ (List.mem_of_getElem? (i := 13) rfl)) (hw _ (List.mem_of_getElem? (i := 14) rfl)) (hw _ (List.mem_of_getElem? (i := 15) rfl)) (by decide) (argsL := [(.double d0)]) (rest := []) (W := 0) (own_isfin l Z a0 hb0 hw d0 (own_is_fin i0) _) (by decide) (by decide) (by decide) (by decide) (g := (mkF m 20 #[.val (.ref x), .val (.ref ai), .val (.double (0 : UInt64)), .second, .val (.int (0 : Int32))] [(.double d0)])) rfl (by rw [hml]; rfl) (lenOf own_pd3 rfl) rfl (by show 2 * 0 + _ ≤ _; exact Nat.le_of_eq rfl) (hb hby d1_20)
  obtain ⟨rfl, rfl⟩ := qf3_4
  change own_S _ _ _ _ _ _ _ _ _ _ _ _ _ _ [(ai, own_A .double [.double d0, .double d1, .double d2]), (x, own_O "com/example/tangentia/tangentia/flash/Feed" [("com/example/tangentia/tangentia/flash/Feed", "amounts", "[D", .null), ("com/example/tangentia/tangentia/flash/Feed", "total", "D", .double 0)])] _ _ at Hf3_4
  obtain ⟨v31, hv31⟩ : ∃ z : Int32, (cmpValue (FP.dcmp d0 (0 : UInt64)) .g) = z := ⟨_, rfl⟩
  obtain ⟨v59, hv59⟩ : ∃ z : UInt64, (FP.dadd (0 : UInt64) d0) = z := ⟨_, rfl⟩
  have r1 : own_rd v59 (((0 : Int) + A0 : Int) : Rat) := by rw [← hv59, Rat.intCast_add]; exact own_add s0 i0
  have s1 := own_rd_small r1 (by omega)
  have nn59 : NoNaN64 (FP.dadd (0 : UInt64) d0) := by rw [hv59]; exact own_is_no s1
  have hb32_0 : ifCond.holds .ge v31 = true := by rw [← hv31, own_c_ge i0 own_zero]; exact decide_eq_true (Rat.intCast_le_intCast.mpr (show (0 : Int) ≤ A0 by omega))
  obtain ⟨Tf3_9, vf3_9_, csf3_9_, qf3_9, Hf3_9, stf3_9⟩ := own_callS Hf3_4 hx hZ hown (hw _ (List.mem_of_getElem? (i := 12) rfl)) (hw _ (List.mem_of_getElem? (i := 13) rfl)) (hw _ (List.mem_of_getElem? (i := 14) rfl)) (hw _ (List.mem_of_getElem? (i := 15) rfl)) (by decide) (argsL := [(.double d1)]) (rest := []) (W := 0) (own_isfin l Z a0 hb0 hw d1 (own_is_fin i1) _) (by decide) (by decide) (by decide) (by decide) (g := (mkF m 20 #[.val (.ref x), .val (.ref ai), .val (.double v59), .second, .val (.int (1 : Int32))] [(.double d1)])) rfl (by rw [hml]; rfl) (lenOf own_pd3 rfl) rfl (by show 2 * 0 + _ ≤ _; exact Nat.le_of_eq rfl) (hb hby d1_20)
  obtain ⟨rfl, rfl⟩ := qf3_9
  change own_S _ _ _ _ _ _ _ _ _ _ _ _ _ _ [(ai, own_A .double [.double d0, .double d1, .double d2]), (x, own_O "com/example/tangentia/tangentia/flash/Feed" [("com/example/tangentia/tangentia/flash/Feed", "amounts", "[D", .null), ("com/example/tangentia/tangentia/flash/Feed", "total", "D", .double 0)])] _ _ at Hf3_9
  obtain ⟨v31', hv31'⟩ : ∃ z : Int32, (cmpValue (FP.dcmp d1 (0 : UInt64)) .g) = z := ⟨_, rfl⟩
  obtain ⟨v59', hv59'⟩ : ∃ z : UInt64, (FP.dadd v59 d1) = z := ⟨_, rfl⟩
  have r2 : own_rd v59' ((((0 : Int) + A0) + A1 : Int) : Rat) := by rw [← hv59', Rat.intCast_add]; exact own_add s1 i1
  have s2 := own_rd_small r2 (by omega)
  have nn59' : NoNaN64 (FP.dadd v59 d1) := by rw [hv59']; exact own_is_no s2
  have hb32_1 : ifCond.holds .ge v31' = true := by rw [← hv31', own_c_ge i1 own_zero]; exact decide_eq_true (Rat.intCast_le_intCast.mpr (show (0 : Int) ≤ A1 by omega))
  obtain ⟨Tf3_14, vf3_14_, csf3_14_, qf3_14, Hf3_14, stf3_14⟩ := own_callS Hf3_9 hx hZ hown (hw _ (List.mem_of_getElem? (i := 12) rfl)) (hw _ (List.mem_of_getElem? (i := 13) rfl)) (hw _ (List.mem_of_getElem? (i := 14) rfl)) (hw _ (List.mem_of_getElem? (i := 15) rfl)) (by decide) (argsL := [(.double d2)]) (rest := []) (W := 0) (own_isfin l Z a0 hb0 hw d2 (own_is_fin i2) _) (by decide) (by decide) (by decide) (by decide) (g := (mkF m 20 #[.val (.ref x), .val (.ref ai), .val (.double v59'), .second, .val (.int (2 : Int32))] [(.double d2)])) rfl (by rw [hml]; rfl) (lenOf own_pd3 rfl) rfl (by show 2 * 0 + _ ≤ _; exact Nat.le_of_eq rfl) (hb hby d1_20)
  obtain ⟨rfl, rfl⟩ := qf3_14
  change own_S _ _ _ _ _ _ _ _ _ _ _ _ _ _ [(ai, own_A .double [.double d0, .double d1, .double d2]), (x, own_O "com/example/tangentia/tangentia/flash/Feed" [("com/example/tangentia/tangentia/flash/Feed", "amounts", "[D", .null), ("com/example/tangentia/tangentia/flash/Feed", "total", "D", .double 0)])] _ _ at Hf3_14
  obtain ⟨v31'', hv31''⟩ : ∃ z : Int32, (cmpValue (FP.dcmp d2 (0 : UInt64)) .g) = z := ⟨_, rfl⟩
  obtain ⟨v59'', hv59''⟩ : ∃ z : UInt64, (FP.dadd v59' d2) = z := ⟨_, rfl⟩
  have r3 : own_rd v59'' (((((0 : Int) + A0) + A1) + A2 : Int) : Rat) := by rw [← hv59'', Rat.intCast_add]; exact own_add s2 i2
  have s3 := own_rd_small r3 (by omega)
  have nn59'' : NoNaN64 (FP.dadd v59' d2) := by rw [hv59'']; exact own_is_no s3
  have hb32_2 : ifCond.holds .ge v31'' = true := by rw [← hv31'', own_c_ge i2 own_zero]; exact decide_eq_true (Rat.intCast_le_intCast.mpr (show (0 : Int) ≤ A2 by omega))
  obtain ⟨Tf3_18, vf3_18_, csf3_18_, qf3_18, Hf3_18, stf3_18⟩ := own_callS Hf3_14 hx hZ hown (hw _ (List.mem_of_getElem? (i := 12) rfl)) (hw _ (List.mem_of_getElem? (i := 13) rfl)) (hw _ (List.mem_of_getElem? (i := 14) rfl)) (hw _ (List.mem_of_getElem? (i := 15) rfl)) (by decide) (argsL := [(.double v59'')]) (rest := []) (W := 0) (own_isfin l Z a0 hb0 hw v59'' (own_is_fin s3) _) (by decide) (by decide) (by decide) (by decide) (g := (mkF m 68 #[.val (.ref x), .val (.ref ai), .val (.double v59''), .second, .val (.int (3 : Int32))] [(.double v59'')])) rfl (by rw [hml]; rfl) (lenOf own_pd3 rfl) rfl (by show 2 * 0 + _ ≤ _; exact Nat.le_of_eq rfl) (hb hby d1_68)
  obtain ⟨rfl, rfl⟩ := qf3_18
  change own_S _ _ _ _ _ _ _ _ _ _ _ _ _ _ [(ai, own_A .double [.double d0, .double d1, .double d2]), (x, own_O "com/example/tangentia/tangentia/flash/Feed" [("com/example/tangentia/tangentia/flash/Feed", "amounts", "[D", .null), ("com/example/tangentia/tangentia/flash/Feed", "total", "D", .double 0)])] _ _ at Hf3_18
  obtain ⟨v76, hv76⟩ : ∃ z : Int32, (cmpValue (FP.dcmp v59'' (0 : UInt64)) .g) = z := ⟨_, rfl⟩
  obtain ⟨Tf3_19, y, Hf3_19, stf3_19⟩ := own_cloneA Hf3_18 hx hZ hown (hw _ (List.mem_of_getElem? (i := 21) rfl)) (hw _ (List.mem_of_getElem? (i := 22) rfl)) (hw _ (List.mem_of_getElem? (i := 26) rfl)) (hw _ (List.mem_of_getElem? (i := 24) rfl)) (hw _ (List.mem_of_getElem? (i := 25) rfl)) (hw _ (List.mem_of_getElem? (i := 27) rfl)) 0 rfl (fun _ _ _ q => own_ACd.mp q) (fun _ _ _ q => own_ACd.mpr q) (by
      intro v hv
      simp only [List.mem_cons, List.not_mem_nil, or_false] at hv
      rcases hv with rfl | rfl | rfl <;> rfl) (g := (mkF m 96 #[.val (.ref x), .val (.ref ai), .val (.double v59''), .second, .val (.int (3 : Int32))] [(.ref ai), (.ref x)])) rfl (by rw [hml]; rfl) rfl (hb hby d1_96) (by decide) (W := 1) (by show 2 * 0 + _ ≤ _; exact Nat.le_of_eq rfl) (by decide) (cap := 3) (Nat.le_of_eq rfl) (by decide) (by decide)
  change own_S _ _ _ _ _ _ _ _ _ _ _ _ _ _ [(ai, own_A .double [.double d0, .double d1, .double d2]), (x, own_O "com/example/tangentia/tangentia/flash/Feed" [("com/example/tangentia/tangentia/flash/Feed", "amounts", "[D", .null), ("com/example/tangentia/tangentia/flash/Feed", "total", "D", .double 0)]), (y, own_A .double [.double d0, .double d1, .double d2])] _ _ at Hf3_19
  obtain ⟨Tf3_20, Hf3_20, stf3_20⟩ := own_castA Hf3_19 hx hZ hown (hw _ (List.mem_of_getElem? (i := 28) rfl)) 2 rfl (fun _ _ _ q => own_ACd.mp q) (g := (mkF m 99 #[.val (.ref x), .val (.ref ai), .val (.double v59''), .second, .val (.int (3 : Int32))] [(.ref y), (.ref x)])) rfl rfl (hb hby d1_99)
  change own_S _ _ _ _ _ _ _ _ _ _ _ _ _ _ [(ai, own_A .double [.double d0, .double d1, .double d2]), (x, own_O "com/example/tangentia/tangentia/flash/Feed" [("com/example/tangentia/tangentia/flash/Feed", "amounts", "[D", .null), ("com/example/tangentia/tangentia/flash/Feed", "total", "D", .double 0)]), (y, own_A .double [.double d0, .double d1, .double d2])] _ _ at Hf3_20
  obtain ⟨Tf3_21, Hf3_21, stf3_21⟩ := own_putF Hf3_20 hx hZ hown (hw _ (List.mem_of_getElem? (i := 30) rfl)) 1 0 rfl rfl (Or.inr ⟨(hw _ (List.mem_of_getElem? (i := 31) rfl)), rfl, hnm⟩) (hw _ (List.mem_of_getElem? (i := 4) rfl)) (ty := (.array .double)) (by decide) rfl rfl (g := (mkF m 102 #[.val (.ref x), .val (.ref ai), .val (.double v59''), .second, .val (.int (3 : Int32))] [(.ref y), (.ref x)])) rfl rfl (hb hby d1_102)
  change own_S _ _ _ _ _ _ _ _ _ _ _ _ _ _ [(ai, own_A .double [.double d0, .double d1, .double d2]), (x, own_O "com/example/tangentia/tangentia/flash/Feed" [("com/example/tangentia/tangentia/flash/Feed", "amounts", "[D", .ref y), ("com/example/tangentia/tangentia/flash/Feed", "total", "D", .double 0)]), (y, own_A .double [.double d0, .double d1, .double d2])] _ _ at Hf3_21
  obtain ⟨Tf3_22, Hf3_22, stf3_22⟩ := own_putF Hf3_21 hx hZ hown (hw _ (List.mem_of_getElem? (i := 32) rfl)) 1 1 rfl rfl (Or.inr ⟨(hw _ (List.mem_of_getElem? (i := 33) rfl)), rfl, hnm⟩) (hw _ (List.mem_of_getElem? (i := 4) rfl)) (ty := .double) (by decide) rfl rfl (g := (mkF m 107 #[.val (.ref x), .val (.ref ai), .val (.double v59''), .second, .val (.int (3 : Int32))] [(.double v59''), (.ref x)])) rfl rfl (hb hby d1_107)
  change own_S _ _ _ _ _ _ _ _ _ _ _ _ _ _ [(ai, own_A .double [.double d0, .double d1, .double d2]), (x, own_O "com/example/tangentia/tangentia/flash/Feed" [("com/example/tangentia/tangentia/flash/Feed", "amounts", "[D", .ref y), ("com/example/tangentia/tangentia/flash/Feed", "total", "D", .double v59'')]), (y, own_A .double [.double d0, .double d1, .double d2])] _ _ at Hf3_22
  have hb77 : ifCond.holds .gt v76 = true := by rw [← hv76, own_c_gt s3 own_zero]; exact decide_eq_true (Rat.intCast_lt_intCast.mpr hp)
  refine ⟨_, _, _, _, 110, #[.val (.ref x), .val (.ref ai), .val (.double v59''), .second, .val (.int (3 : Int32))], Hf3_22, by decide, by decide, Or.inl ⟨rfl, ⟨y, v59'', s3, rfl, rfl⟩, d1_110, fun target q => ?_⟩⟩
  refine own_go H0 hx hZ hown hby hw own_K1_ok (own_f3_0 x ai) _ ?_
  refine stf3_1 _ ?_
  refine own_go Hf3_1 hx hZ hown hby hw own_K1_ok (own_f3_1 x ai) _ ?_
  refine own_arrlen Hf3_1 hx hZ 0 rfl (z := (3 : Int32)) rfl (g := (mkF m 12 #[.val (.ref x), .val (.ref ai), .val (.double (0 : UInt64)), .second, .val (.int (0 : Int32))] [(.ref ai), (.int (0 : Int32))])) rfl rfl (hb hby d1_12) _ ?_
  refine own_go Hf3_1 hx hZ hown hby hw own_K1_ok (own_f3_2 x ai) _ ?_
  refine own_daload Hf3_1 hx hZ 0 0 rfl (by decide) rfl (g := (mkF m 19 #[.val (.ref x), .val (.ref ai), .val (.double (0 : UInt64)), .second, .val (.int (0 : Int32))] [(.int (0 : Int32)), (.ref ai)])) rfl rfl (hb hby d1_19) _ ?_
  refine stf3_4 _ ?_
  refine own_go Hf3_4 hx hZ hown hby hw own_K1_ok (own_f3_3 x ai) _ ?_
  refine own_daload Hf3_4 hx hZ 0 0 rfl (by decide) rfl (g := (mkF m 29 #[.val (.ref x), .val (.ref ai), .val (.double (0 : UInt64)), .second, .val (.int (0 : Int32))] [(.int (0 : Int32)), (.ref ai)])) rfl rfl (hb hby d1_29) _ ?_
  refine own_go Hf3_4 hx hZ hown hby hw own_K1_ok (own_f3_4 x ai d0 v31 hv31 hb32_0) _ ?_
  refine own_go Hf3_4 hx hZ hown hby hw own_K1_ok (own_f3_5 x ai) _ ?_
  refine own_daload Hf3_4 hx hZ 0 0 rfl (by decide) rfl (g := (mkF m 58 #[.val (.ref x), .val (.ref ai), .val (.double (0 : UInt64)), .second, .val (.int (0 : Int32))] [(.int (0 : Int32)), (.ref ai), (.double (0 : UInt64))])) rfl rfl (hb hby d1_58) _ ?_
  refine own_go Hf3_4 hx hZ hown hby hw own_K1_ok (own_f3_6 x ai d0 v59 hv59 nn59) _ ?_
  refine own_go Hf3_4 hx hZ hown hby hw own_K1_ok (own_f3_7 x ai v59) _ ?_
  refine own_arrlen Hf3_4 hx hZ 0 rfl (z := (3 : Int32)) rfl (g := (mkF m 12 #[.val (.ref x), .val (.ref ai), .val (.double v59), .second, .val (.int (1 : Int32))] [(.ref ai), (.int (1 : Int32))])) rfl rfl (hb hby d1_12) _ ?_
  refine own_go Hf3_4 hx hZ hown hby hw own_K1_ok (own_f3_8 x ai v59) _ ?_
  refine own_daload Hf3_4 hx hZ 0 1 rfl (by decide) rfl (g := (mkF m 19 #[.val (.ref x), .val (.ref ai), .val (.double v59), .second, .val (.int (1 : Int32))] [(.int (1 : Int32)), (.ref ai)])) rfl rfl (hb hby d1_19) _ ?_
  refine stf3_9 _ ?_
  refine own_go Hf3_9 hx hZ hown hby hw own_K1_ok (own_f3_9 x ai v59) _ ?_
  refine own_daload Hf3_9 hx hZ 0 1 rfl (by decide) rfl (g := (mkF m 29 #[.val (.ref x), .val (.ref ai), .val (.double v59), .second, .val (.int (1 : Int32))] [(.int (1 : Int32)), (.ref ai)])) rfl rfl (hb hby d1_29) _ ?_
  refine own_go Hf3_9 hx hZ hown hby hw own_K1_ok (own_f3_10 x ai v59 d1 v31' hv31' hb32_1) _ ?_
  refine own_go Hf3_9 hx hZ hown hby hw own_K1_ok (own_f3_11 x ai v59) _ ?_
  refine own_daload Hf3_9 hx hZ 0 1 rfl (by decide) rfl (g := (mkF m 58 #[.val (.ref x), .val (.ref ai), .val (.double v59), .second, .val (.int (1 : Int32))] [(.int (1 : Int32)), (.ref ai), (.double v59)])) rfl rfl (hb hby d1_58) _ ?_
  refine own_go Hf3_9 hx hZ hown hby hw own_K1_ok (own_f3_12 x ai v59 d1 v59' hv59' nn59') _ ?_
  refine own_go Hf3_9 hx hZ hown hby hw own_K1_ok (own_f3_13 x ai v59') _ ?_
  refine own_arrlen Hf3_9 hx hZ 0 rfl (z := (3 : Int32)) rfl (g := (mkF m 12 #[.val (.ref x), .val (.ref ai), .val (.double v59'), .second, .val (.int (2 : Int32))] [(.ref ai), (.int (2 : Int32))])) rfl rfl (hb hby d1_12) _ ?_
  refine own_go Hf3_9 hx hZ hown hby hw own_K1_ok (own_f3_14 x ai v59') _ ?_
  refine own_daload Hf3_9 hx hZ 0 2 rfl (by decide) rfl (g := (mkF m 19 #[.val (.ref x), .val (.ref ai), .val (.double v59'), .second, .val (.int (2 : Int32))] [(.int (2 : Int32)), (.ref ai)])) rfl rfl (hb hby d1_19) _ ?_
  refine stf3_14 _ ?_
  refine own_go Hf3_14 hx hZ hown hby hw own_K1_ok (own_f3_15 x ai v59') _ ?_
  refine own_daload Hf3_14 hx hZ 0 2 rfl (by decide) rfl (g := (mkF m 29 #[.val (.ref x), .val (.ref ai), .val (.double v59'), .second, .val (.int (2 : Int32))] [(.int (2 : Int32)), (.ref ai)])) rfl rfl (hb hby d1_29) _ ?_
  refine own_go Hf3_14 hx hZ hown hby hw own_K1_ok (own_f3_16 x ai v59' d2 v31'' hv31'' hb32_2) _ ?_
  refine own_go Hf3_14 hx hZ hown hby hw own_K1_ok (own_f3_17 x ai v59') _ ?_
  refine own_daload Hf3_14 hx hZ 0 2 rfl (by decide) rfl (g := (mkF m 58 #[.val (.ref x), .val (.ref ai), .val (.double v59'), .second, .val (.int (2 : Int32))] [(.int (2 : Int32)), (.ref ai), (.double v59')])) rfl rfl (hb hby d1_58) _ ?_
  refine own_go Hf3_14 hx hZ hown hby hw own_K1_ok (own_f3_18 x ai v59' d2 v59'' hv59'' nn59'') _ ?_
  refine own_go Hf3_14 hx hZ hown hby hw own_K1_ok (own_f3_19 x ai v59'') _ ?_
  refine own_arrlen Hf3_14 hx hZ 0 rfl (z := (3 : Int32)) rfl (g := (mkF m 12 #[.val (.ref x), .val (.ref ai), .val (.double v59''), .second, .val (.int (3 : Int32))] [(.ref ai), (.int (3 : Int32))])) rfl rfl (hb hby d1_12) _ ?_
  refine own_go Hf3_14 hx hZ hown hby hw own_K1_ok (own_f3_20 x ai v59'') _ ?_
  refine stf3_18 _ ?_
  refine own_go Hf3_18 hx hZ hown hby hw own_K1_ok (own_f3_21 x ai v59'' v76 hv76 hb77) _ ?_
  refine stf3_19 _ ?_
  refine stf3_20 _ ?_
  refine stf3_21 _ ?_
  refine own_go Hf3_21 hx hZ hown hby hw own_K1_ok (own_f3_22 x ai v59'') _ ?_
  refine stf3_22 _ ?_
  exact q
theorem own_g30_0 (x : Addr) :
    own_Go own_K5 prog_20_method_6_code 0 #[.val (.ref x), .unset, .unset] [] 1 #[.val (.ref x), .unset, .unset] [(.ref x)] := by
  refine own_aloadN (pc2 := 1) d5_0 rfl rfl rfl ?_
  exact own_refl
theorem own_g30_1 (x : Addr) (z : Addr) :
    own_Go own_K5 prog_20_method_6_code 7 #[.val (.ref x), .unset, .unset] [(.ref z)] 12 #[.val (.ref x), .val (.ref z), .val (.int (0 : Int32))] [(.ref z), (.int (0 : Int32))] := by
  refine own_astoreN (pc2 := 8) d5_7 rfl rfl (L' := #[.val (.ref x), .val (.ref z), .unset]) rfl ?_
  refine own_iconst (v := 0) (pc2 := 9) d5_8 rfl rfl ?_
  refine own_istoreN (pc2 := 10) d5_9 rfl (L' := #[.val (.ref x), .val (.ref z), .val (.int (0 : Int32))]) rfl ?_
  refine own_iloadN (pc2 := 11) d5_10 rfl rfl ?_
  refine own_aloadN (pc2 := 12) d5_11 rfl rfl rfl ?_
  exact own_refl
theorem own_g30_2 (x : Addr) (z : Addr) :
    own_Go own_K5 prog_20_method_6_code 13 #[.val (.ref x), .val (.ref z), .val (.int (0 : Int32))] [(.int (3 : Int32)), (.int (0 : Int32))] 19 #[.val (.ref x), .val (.ref z), .val (.int (0 : Int32))] [(.ref x), (.int (0 : Int32)), (.ref z)] := by
  refine own_icmpNo (pc2 := 16) d5_13 rfl (by decide) ?_
  refine own_aloadN (pc2 := 17) d5_16 rfl rfl rfl ?_
  refine own_iloadN (pc2 := 18) d5_17 rfl rfl ?_
  refine own_aloadN (pc2 := 19) d5_18 rfl rfl rfl ?_
  exact own_refl
theorem own_g30_3 (x : Addr) (z : Addr) (y : Addr) :
    own_Go own_K5 prog_20_method_6_code 22 #[.val (.ref x), .val (.ref z), .val (.int (0 : Int32))] [(.ref y), (.int (0 : Int32)), (.ref z)] 23 #[.val (.ref x), .val (.ref z), .val (.int (0 : Int32))] [(.int (0 : Int32)), (.ref y), (.int (0 : Int32)), (.ref z)] := by
  refine own_iloadN (pc2 := 23) d5_22 rfl rfl ?_
  exact own_refl
theorem own_g30_4 (x : Addr) (z : Addr) (d0 : UInt64) :
    own_Go own_K5 prog_20_method_6_code 24 #[.val (.ref x), .val (.ref z), .val (.int (0 : Int32))] [(.double d0), (.int (0 : Int32)), (.ref z)] 25 #[.val (.ref x), .val (.ref z), .val (.int (0 : Int32))] [(.ref x), (.double d0), (.int (0 : Int32)), (.ref z)] := by
  refine own_aloadN (pc2 := 25) d5_24 rfl rfl rfl ?_
  exact own_refl
theorem own_g30_5 (x : Addr) (z : Addr) (tt : UInt64) (d0 : UInt64) (v28 : UInt64) (hv28 : (FP.ddiv d0 tt) = v28) (nn28 : NoNaN64 (FP.ddiv d0 tt)) :
    own_Go own_K5 prog_20_method_6_code 28 #[.val (.ref x), .val (.ref z), .val (.int (0 : Int32))] [(.double tt), (.double d0), (.int (0 : Int32)), (.ref z)] 29 #[.val (.ref x), .val (.ref z), .val (.int (0 : Int32))] [(.double v28), (.int (0 : Int32)), (.ref z)] := by
  refine own_ddiv (pc2 := 29) d5_28 rfl nn28 (v := v28) hv28 ?_
  exact own_refl
theorem own_g30_6 (x : Addr) (z : Addr) :
    own_Go own_K5 prog_20_method_6_code 30 #[.val (.ref x), .val (.ref z), .val (.int (0 : Int32))] [] 12 #[.val (.ref x), .val (.ref z), .val (.int (1 : Int32))] [(.ref z), (.int (1 : Int32))] := by
  refine own_iinc (pc2 := 33) d5_30 rfl rfl (v := (1 : Int32)) (by decide) (L' := #[.val (.ref x), .val (.ref z), .val (.int (1 : Int32))]) rfl ?_
  refine own_goto (pc' := 10) d5_33 (by decide) (by decide) ?_
  refine own_iloadN (pc2 := 11) d5_10 rfl rfl ?_
  refine own_aloadN (pc2 := 12) d5_11 rfl rfl rfl ?_
  exact own_refl
theorem own_g30_7 (x : Addr) (z : Addr) :
    own_Go own_K5 prog_20_method_6_code 13 #[.val (.ref x), .val (.ref z), .val (.int (1 : Int32))] [(.int (3 : Int32)), (.int (1 : Int32))] 19 #[.val (.ref x), .val (.ref z), .val (.int (1 : Int32))] [(.ref x), (.int (1 : Int32)), (.ref z)] := by
  refine own_icmpNo (pc2 := 16) d5_13 rfl (by decide) ?_
  refine own_aloadN (pc2 := 17) d5_16 rfl rfl rfl ?_
  refine own_iloadN (pc2 := 18) d5_17 rfl rfl ?_
  refine own_aloadN (pc2 := 19) d5_18 rfl rfl rfl ?_
  exact own_refl
theorem own_g30_8 (x : Addr) (z : Addr) (y : Addr) :
    own_Go own_K5 prog_20_method_6_code 22 #[.val (.ref x), .val (.ref z), .val (.int (1 : Int32))] [(.ref y), (.int (1 : Int32)), (.ref z)] 23 #[.val (.ref x), .val (.ref z), .val (.int (1 : Int32))] [(.int (1 : Int32)), (.ref y), (.int (1 : Int32)), (.ref z)] := by
  refine own_iloadN (pc2 := 23) d5_22 rfl rfl ?_
  exact own_refl
theorem own_g30_9 (x : Addr) (z : Addr) (d1 : UInt64) :
    own_Go own_K5 prog_20_method_6_code 24 #[.val (.ref x), .val (.ref z), .val (.int (1 : Int32))] [(.double d1), (.int (1 : Int32)), (.ref z)] 25 #[.val (.ref x), .val (.ref z), .val (.int (1 : Int32))] [(.ref x), (.double d1), (.int (1 : Int32)), (.ref z)] := by
  refine own_aloadN (pc2 := 25) d5_24 rfl rfl rfl ?_
  exact own_refl
theorem own_g30_10 (x : Addr) (z : Addr) (tt : UInt64) (d1 : UInt64) (v28' : UInt64) (hv28' : (FP.ddiv d1 tt) = v28') (nn28' : NoNaN64 (FP.ddiv d1 tt)) :
    own_Go own_K5 prog_20_method_6_code 28 #[.val (.ref x), .val (.ref z), .val (.int (1 : Int32))] [(.double tt), (.double d1), (.int (1 : Int32)), (.ref z)] 29 #[.val (.ref x), .val (.ref z), .val (.int (1 : Int32))] [(.double v28'), (.int (1 : Int32)), (.ref z)] := by
  refine own_ddiv (pc2 := 29) d5_28 rfl nn28' (v := v28') hv28' ?_
  exact own_refl
theorem own_g30_11 (x : Addr) (z : Addr) :
    own_Go own_K5 prog_20_method_6_code 30 #[.val (.ref x), .val (.ref z), .val (.int (1 : Int32))] [] 12 #[.val (.ref x), .val (.ref z), .val (.int (2 : Int32))] [(.ref z), (.int (2 : Int32))] := by
  refine own_iinc (pc2 := 33) d5_30 rfl rfl (v := (2 : Int32)) (by decide) (L' := #[.val (.ref x), .val (.ref z), .val (.int (2 : Int32))]) rfl ?_
  refine own_goto (pc' := 10) d5_33 (by decide) (by decide) ?_
  refine own_iloadN (pc2 := 11) d5_10 rfl rfl ?_
  refine own_aloadN (pc2 := 12) d5_11 rfl rfl rfl ?_
  exact own_refl
theorem own_g30_12 (x : Addr) (z : Addr) :
    own_Go own_K5 prog_20_method_6_code 13 #[.val (.ref x), .val (.ref z), .val (.int (2 : Int32))] [(.int (3 : Int32)), (.int (2 : Int32))] 19 #[.val (.ref x), .val (.ref z), .val (.int (2 : Int32))] [(.ref x), (.int (2 : Int32)), (.ref z)] := by
  refine own_icmpNo (pc2 := 16) d5_13 rfl (by decide) ?_
  refine own_aloadN (pc2 := 17) d5_16 rfl rfl rfl ?_
  refine own_iloadN (pc2 := 18) d5_17 rfl rfl ?_
  refine own_aloadN (pc2 := 19) d5_18 rfl rfl rfl ?_
  exact own_refl
theorem own_g30_13 (x : Addr) (z : Addr) (y : Addr) :
    own_Go own_K5 prog_20_method_6_code 22 #[.val (.ref x), .val (.ref z), .val (.int (2 : Int32))] [(.ref y), (.int (2 : Int32)), (.ref z)] 23 #[.val (.ref x), .val (.ref z), .val (.int (2 : Int32))] [(.int (2 : Int32)), (.ref y), (.int (2 : Int32)), (.ref z)] := by
  refine own_iloadN (pc2 := 23) d5_22 rfl rfl ?_
  exact own_refl
theorem own_g30_14 (x : Addr) (z : Addr) (d2 : UInt64) :
    own_Go own_K5 prog_20_method_6_code 24 #[.val (.ref x), .val (.ref z), .val (.int (2 : Int32))] [(.double d2), (.int (2 : Int32)), (.ref z)] 25 #[.val (.ref x), .val (.ref z), .val (.int (2 : Int32))] [(.ref x), (.double d2), (.int (2 : Int32)), (.ref z)] := by
  refine own_aloadN (pc2 := 25) d5_24 rfl rfl rfl ?_
  exact own_refl
theorem own_g30_15 (x : Addr) (z : Addr) (tt : UInt64) (d2 : UInt64) (v28'' : UInt64) (hv28'' : (FP.ddiv d2 tt) = v28'') (nn28'' : NoNaN64 (FP.ddiv d2 tt)) :
    own_Go own_K5 prog_20_method_6_code 28 #[.val (.ref x), .val (.ref z), .val (.int (2 : Int32))] [(.double tt), (.double d2), (.int (2 : Int32)), (.ref z)] 29 #[.val (.ref x), .val (.ref z), .val (.int (2 : Int32))] [(.double v28''), (.int (2 : Int32)), (.ref z)] := by
  refine own_ddiv (pc2 := 29) d5_28 rfl nn28'' (v := v28'') hv28'' ?_
  exact own_refl
theorem own_g30_16 (x : Addr) (z : Addr) :
    own_Go own_K5 prog_20_method_6_code 30 #[.val (.ref x), .val (.ref z), .val (.int (2 : Int32))] [] 12 #[.val (.ref x), .val (.ref z), .val (.int (3 : Int32))] [(.ref z), (.int (3 : Int32))] := by
  refine own_iinc (pc2 := 33) d5_30 rfl rfl (v := (3 : Int32)) (by decide) (L' := #[.val (.ref x), .val (.ref z), .val (.int (3 : Int32))]) rfl ?_
  refine own_goto (pc' := 10) d5_33 (by decide) (by decide) ?_
  refine own_iloadN (pc2 := 11) d5_10 rfl rfl ?_
  refine own_aloadN (pc2 := 12) d5_11 rfl rfl rfl ?_
  exact own_refl
theorem own_g30_17 (x : Addr) (z : Addr) :
    own_Go own_K5 prog_20_method_6_code 13 #[.val (.ref x), .val (.ref z), .val (.int (3 : Int32))] [(.int (3 : Int32)), (.int (3 : Int32))] 37 #[.val (.ref x), .val (.ref z), .val (.int (3 : Int32))] [(.ref z)] := by
  refine own_icmpYes (pc' := 36) d5_13 (by decide) (by decide) (by decide) ?_
  refine own_aloadN (pc2 := 37) d5_36 rfl rfl rfl ?_
  exact own_refl
set_option maxRecDepth 65536 in
set_option maxHeartbeats 4000000 in
theorem own_mol30 (l : Launch) (Z : State) (a0 : Array Value) (hb0 : Heap) (hw : ∀ d ∈ tables_1, d.before a0 Z = true) (x : Addr) (ai y : Addr) (qa : own_Cel) (tt : UInt64) (d0 : UInt64) (nn0 : NoNaN64 (FP.ddiv d0 tt)) (d1 : UInt64) (nn1 : NoNaN64 (FP.ddiv d1 tt)) (d2 : UInt64) (nn2 : NoNaN64 (FP.ddiv d2 tt)) :
    own_Met l Z a0 hb0 (⟨"com/example/tangentia/tangentia/flash/Feed", "moleFractions", "()[D"⟩ : MethodName) prog_20_method_6_code 3 (some (.array .double)) [] ({ frames := 0, cells := 1, slots := 3, locals := 0 } : Room) #[(.ref x)] [(ai, qa), (x, own_O "com/example/tangentia/tangentia/flash/Feed" [("com/example/tangentia/tangentia/flash/Feed", "amounts", "[D", .ref y), ("com/example/tangentia/tangentia/flash/Feed", "total", "D", .double tt)]), (y, own_A .double [.double d0, .double d1, .double d2])] (fun r cs' => ∃ z, r = some (.ref z) ∧ cs' = [(ai, qa), (x, own_O "com/example/tangentia/tangentia/flash/Feed" [("com/example/tangentia/tangentia/flash/Feed", "amounts", "[D", .ref y), ("com/example/tangentia/tangentia/flash/Feed", "total", "D", .double tt)]), (y, own_A .double [.double d0, .double d1, .double d2]), (z, own_A .double [.double (FP.ddiv d0 tt), .double (FP.ddiv d1 tt), .double (FP.ddiv d2 tt)])]) := by
  refine own_met_of (L0 := #[.val (.ref x), .unset, .unset]) (plainFor_of_name own_pn5) (fun m => own_ef5 m x) ?_
  intro p e s m below meth c T0 hx hZ hown hby hml hnm H0
  obtain ⟨Tg30_1, Hg30_1, stg30_1⟩ := own_getF H0 hx hZ hown (hw _ (List.mem_of_getElem? (i := 30) rfl)) 1 0 rfl rfl (g := (mkF m 1 #[.val (.ref x), .unset, .unset] [(.ref x)])) rfl rfl (hb hby d5_1)
  change own_S _ _ _ _ _ _ _ _ _ _ _ _ _ _ [(ai, qa), (x, own_O "com/example/tangentia/tangentia/flash/Feed" [("com/example/tangentia/tangentia/flash/Feed", "amounts", "[D", .ref y), ("com/example/tangentia/tangentia/flash/Feed", "total", "D", .double tt)]), (y, own_A .double [.double d0, .double d1, .double d2])] _ _ at Hg30_1
  obtain ⟨Tg30_3, z, Hg30_3, stg30_3⟩ := own_newA Hg30_1 hx hZ (hw _ (List.mem_of_getElem? (i := 2) rfl)) (g := (mkF m 5 #[.val (.ref x), .unset, .unset] [(.int (3 : Int32))])) rfl (hb hby d5_5) rfl (by decide) (cap := 3) (by decide) (by decide) (by decide) (by decide)
  change own_S _ _ _ _ _ _ _ _ _ _ _ _ _ _ [(ai, qa), (x, own_O "com/example/tangentia/tangentia/flash/Feed" [("com/example/tangentia/tangentia/flash/Feed", "amounts", "[D", .ref y), ("com/example/tangentia/tangentia/flash/Feed", "total", "D", .double tt)]), (y, own_A .double [.double d0, .double d1, .double d2]), (z, own_A .double [.double 0, .double 0, .double 0])] _ _ at Hg30_3
  obtain ⟨Tg30_5, Hg30_5, stg30_5⟩ := own_getF Hg30_3 hx hZ hown (hw _ (List.mem_of_getElem? (i := 30) rfl)) 1 0 rfl rfl (g := (mkF m 19 #[.val (.ref x), .val (.ref z), .val (.int (0 : Int32))] [(.ref x), (.int (0 : Int32)), (.ref z)])) rfl rfl (hb hby d5_19)
  change own_S _ _ _ _ _ _ _ _ _ _ _ _ _ _ [(ai, qa), (x, own_O "com/example/tangentia/tangentia/flash/Feed" [("com/example/tangentia/tangentia/flash/Feed", "amounts", "[D", .ref y), ("com/example/tangentia/tangentia/flash/Feed", "total", "D", .double tt)]), (y, own_A .double [.double d0, .double d1, .double d2]), (z, own_A .double [.double 0, .double 0, .double 0])] _ _ at Hg30_5
  obtain ⟨Tg30_7, Hg30_7, stg30_7⟩ := own_getF Hg30_5 hx hZ hown (hw _ (List.mem_of_getElem? (i := 32) rfl)) 1 1 rfl rfl (g := (mkF m 25 #[.val (.ref x), .val (.ref z), .val (.int (0 : Int32))] [(.ref x), (.double d0), (.int (0 : Int32)), (.ref z)])) rfl rfl (hb hby d5_25)
  change own_S _ _ _ _ _ _ _ _ _ _ _ _ _ _ [(ai, qa), (x, own_O "com/example/tangentia/tangentia/flash/Feed" [("com/example/tangentia/tangentia/flash/Feed", "amounts", "[D", .ref y), ("com/example/tangentia/tangentia/flash/Feed", "total", "D", .double tt)]), (y, own_A .double [.double d0, .double d1, .double d2]), (z, own_A .double [.double 0, .double 0, .double 0])] _ _ at Hg30_7
  obtain ⟨v28, hv28⟩ : ∃ z : UInt64, (FP.ddiv d0 tt) = z := ⟨_, rfl⟩
  obtain ⟨Tg30_8, Hg30_8, stg30_8⟩ := own_dastore Hg30_7 hx hZ 3 0 rfl (by decide) (Nat.le_of_ble_eq_true rfl) (g := (mkF m 29 #[.val (.ref x), .val (.ref z), .val (.int (0 : Int32))] [(.double v28), (.int (0 : Int32)), (.ref z)])) rfl rfl (hb hby d5_29)
  change own_S _ _ _ _ _ _ _ _ _ _ _ _ _ _ [(ai, qa), (x, own_O "com/example/tangentia/tangentia/flash/Feed" [("com/example/tangentia/tangentia/flash/Feed", "amounts", "[D", .ref y), ("com/example/tangentia/tangentia/flash/Feed", "total", "D", .double tt)]), (y, own_A .double [.double d0, .double d1, .double d2]), (z, own_A .double [.double v28, .double 0, .double 0])] _ _ at Hg30_8
  obtain ⟨Tg30_10, Hg30_10, stg30_10⟩ := own_getF Hg30_8 hx hZ hown (hw _ (List.mem_of_getElem? (i := 30) rfl)) 1 0 rfl rfl (g := (mkF m 19 #[.val (.ref x), .val (.ref z), .val (.int (1 : Int32))] [(.ref x), (.int (1 : Int32)), (.ref z)])) rfl rfl (hb hby d5_19)
  change own_S _ _ _ _ _ _ _ _ _ _ _ _ _ _ [(ai, qa), (x, own_O "com/example/tangentia/tangentia/flash/Feed" [("com/example/tangentia/tangentia/flash/Feed", "amounts", "[D", .ref y), ("com/example/tangentia/tangentia/flash/Feed", "total", "D", .double tt)]), (y, own_A .double [.double d0, .double d1, .double d2]), (z, own_A .double [.double v28, .double 0, .double 0])] _ _ at Hg30_10
  obtain ⟨Tg30_12, Hg30_12, stg30_12⟩ := own_getF Hg30_10 hx hZ hown (hw _ (List.mem_of_getElem? (i := 32) rfl)) 1 1 rfl rfl (g := (mkF m 25 #[.val (.ref x), .val (.ref z), .val (.int (1 : Int32))] [(.ref x), (.double d1), (.int (1 : Int32)), (.ref z)])) rfl rfl (hb hby d5_25)
  change own_S _ _ _ _ _ _ _ _ _ _ _ _ _ _ [(ai, qa), (x, own_O "com/example/tangentia/tangentia/flash/Feed" [("com/example/tangentia/tangentia/flash/Feed", "amounts", "[D", .ref y), ("com/example/tangentia/tangentia/flash/Feed", "total", "D", .double tt)]), (y, own_A .double [.double d0, .double d1, .double d2]), (z, own_A .double [.double v28, .double 0, .double 0])] _ _ at Hg30_12
  obtain ⟨v28', hv28'⟩ : ∃ z : UInt64, (FP.ddiv d1 tt) = z := ⟨_, rfl⟩
  obtain ⟨Tg30_13, Hg30_13, stg30_13⟩ := own_dastore Hg30_12 hx hZ 3 1 rfl (by decide) (Nat.le_of_ble_eq_true rfl) (g := (mkF m 29 #[.val (.ref x), .val (.ref z), .val (.int (1 : Int32))] [(.double v28'), (.int (1 : Int32)), (.ref z)])) rfl rfl (hb hby d5_29)
  change own_S _ _ _ _ _ _ _ _ _ _ _ _ _ _ [(ai, qa), (x, own_O "com/example/tangentia/tangentia/flash/Feed" [("com/example/tangentia/tangentia/flash/Feed", "amounts", "[D", .ref y), ("com/example/tangentia/tangentia/flash/Feed", "total", "D", .double tt)]), (y, own_A .double [.double d0, .double d1, .double d2]), (z, own_A .double [.double v28, .double v28', .double 0])] _ _ at Hg30_13
  obtain ⟨Tg30_15, Hg30_15, stg30_15⟩ := own_getF Hg30_13 hx hZ hown (hw _ (List.mem_of_getElem? (i := 30) rfl)) 1 0 rfl rfl (g := (mkF m 19 #[.val (.ref x), .val (.ref z), .val (.int (2 : Int32))] [(.ref x), (.int (2 : Int32)), (.ref z)])) rfl rfl (hb hby d5_19)
  change own_S _ _ _ _ _ _ _ _ _ _ _ _ _ _ [(ai, qa), (x, own_O "com/example/tangentia/tangentia/flash/Feed" [("com/example/tangentia/tangentia/flash/Feed", "amounts", "[D", .ref y), ("com/example/tangentia/tangentia/flash/Feed", "total", "D", .double tt)]), (y, own_A .double [.double d0, .double d1, .double d2]), (z, own_A .double [.double v28, .double v28', .double 0])] _ _ at Hg30_15
  obtain ⟨Tg30_17, Hg30_17, stg30_17⟩ := own_getF Hg30_15 hx hZ hown (hw _ (List.mem_of_getElem? (i := 32) rfl)) 1 1 rfl rfl (g := (mkF m 25 #[.val (.ref x), .val (.ref z), .val (.int (2 : Int32))] [(.ref x), (.double d2), (.int (2 : Int32)), (.ref z)])) rfl rfl (hb hby d5_25)
  change own_S _ _ _ _ _ _ _ _ _ _ _ _ _ _ [(ai, qa), (x, own_O "com/example/tangentia/tangentia/flash/Feed" [("com/example/tangentia/tangentia/flash/Feed", "amounts", "[D", .ref y), ("com/example/tangentia/tangentia/flash/Feed", "total", "D", .double tt)]), (y, own_A .double [.double d0, .double d1, .double d2]), (z, own_A .double [.double v28, .double v28', .double 0])] _ _ at Hg30_17
  obtain ⟨v28'', hv28''⟩ : ∃ z : UInt64, (FP.ddiv d2 tt) = z := ⟨_, rfl⟩
  obtain ⟨Tg30_18, Hg30_18, stg30_18⟩ := own_dastore Hg30_17 hx hZ 3 2 rfl (by decide) (Nat.le_of_ble_eq_true rfl) (g := (mkF m 29 #[.val (.ref x), .val (.ref z), .val (.int (2 : Int32))] [(.double v28''), (.int (2 : Int32)), (.ref z)])) rfl rfl (hb hby d5_29)
  change own_S _ _ _ _ _ _ _ _ _ _ _ _ _ _ [(ai, qa), (x, own_O "com/example/tangentia/tangentia/flash/Feed" [("com/example/tangentia/tangentia/flash/Feed", "amounts", "[D", .ref y), ("com/example/tangentia/tangentia/flash/Feed", "total", "D", .double tt)]), (y, own_A .double [.double d0, .double d1, .double d2]), (z, own_A .double [.double v28, .double v28', .double v28''])] _ _ at Hg30_18
  have nn28 : NoNaN64 (FP.ddiv d0 tt) := nn0
  have nn28' : NoNaN64 (FP.ddiv d1 tt) := nn1
  have nn28'' : NoNaN64 (FP.ddiv d2 tt) := nn2
  refine ⟨_, _, _, _, 37, #[.val (.ref x), .val (.ref z), .val (.int (3 : Int32))], Hg30_18, by decide, by decide, Or.inr ⟨(.array .double), (.ref z), [], .areturn, rfl, ⟨z, rfl, by rw [hv28, hv28', hv28'']⟩, d5_37, own_retA _, fun target q => ?_⟩⟩
  refine own_go H0 hx hZ hown hby hw own_K5_ok (own_g30_0 x) _ ?_
  refine stg30_1 _ ?_
  refine own_arrlen Hg30_1 hx hZ 2 rfl (z := (3 : Int32)) rfl (g := (mkF m 4 #[.val (.ref x), .unset, .unset] [(.ref y)])) rfl rfl (hb hby d5_4) _ ?_
  refine stg30_3 _ ?_
  refine own_go Hg30_3 hx hZ hown hby hw own_K5_ok (own_g30_1 x z) _ ?_
  refine own_arrlen Hg30_3 hx hZ 3 rfl (z := (3 : Int32)) rfl (g := (mkF m 12 #[.val (.ref x), .val (.ref z), .val (.int (0 : Int32))] [(.ref z), (.int (0 : Int32))])) rfl rfl (hb hby d5_12) _ ?_
  refine own_go Hg30_3 hx hZ hown hby hw own_K5_ok (own_g30_2 x z) _ ?_
  refine stg30_5 _ ?_
  refine own_go Hg30_5 hx hZ hown hby hw own_K5_ok (own_g30_3 x z y) _ ?_
  refine own_daload Hg30_5 hx hZ 2 0 rfl (by decide) rfl (g := (mkF m 23 #[.val (.ref x), .val (.ref z), .val (.int (0 : Int32))] [(.int (0 : Int32)), (.ref y), (.int (0 : Int32)), (.ref z)])) rfl rfl (hb hby d5_23) _ ?_
  refine own_go Hg30_5 hx hZ hown hby hw own_K5_ok (own_g30_4 x z d0) _ ?_
  refine stg30_7 _ ?_
  refine own_go Hg30_7 hx hZ hown hby hw own_K5_ok (own_g30_5 x z tt d0 v28 hv28 nn28) _ ?_
  refine stg30_8 _ ?_
  refine own_go Hg30_8 hx hZ hown hby hw own_K5_ok (own_g30_6 x z) _ ?_
  refine own_arrlen Hg30_8 hx hZ 3 rfl (z := (3 : Int32)) rfl (g := (mkF m 12 #[.val (.ref x), .val (.ref z), .val (.int (1 : Int32))] [(.ref z), (.int (1 : Int32))])) rfl rfl (hb hby d5_12) _ ?_
  refine own_go Hg30_8 hx hZ hown hby hw own_K5_ok (own_g30_7 x z) _ ?_
  refine stg30_10 _ ?_
  refine own_go Hg30_10 hx hZ hown hby hw own_K5_ok (own_g30_8 x z y) _ ?_
  refine own_daload Hg30_10 hx hZ 2 1 rfl (by decide) rfl (g := (mkF m 23 #[.val (.ref x), .val (.ref z), .val (.int (1 : Int32))] [(.int (1 : Int32)), (.ref y), (.int (1 : Int32)), (.ref z)])) rfl rfl (hb hby d5_23) _ ?_
  refine own_go Hg30_10 hx hZ hown hby hw own_K5_ok (own_g30_9 x z d1) _ ?_
  refine stg30_12 _ ?_
  refine own_go Hg30_12 hx hZ hown hby hw own_K5_ok (own_g30_10 x z tt d1 v28' hv28' nn28') _ ?_
  refine stg30_13 _ ?_
  refine own_go Hg30_13 hx hZ hown hby hw own_K5_ok (own_g30_11 x z) _ ?_
  refine own_arrlen Hg30_13 hx hZ 3 rfl (z := (3 : Int32)) rfl (g := (mkF m 12 #[.val (.ref x), .val (.ref z), .val (.int (2 : Int32))] [(.ref z), (.int (2 : Int32))])) rfl rfl (hb hby d5_12) _ ?_
  refine own_go Hg30_13 hx hZ hown hby hw own_K5_ok (own_g30_12 x z) _ ?_
  refine stg30_15 _ ?_
  refine own_go Hg30_15 hx hZ hown hby hw own_K5_ok (own_g30_13 x z y) _ ?_
  refine own_daload Hg30_15 hx hZ 2 2 rfl (by decide) rfl (g := (mkF m 23 #[.val (.ref x), .val (.ref z), .val (.int (2 : Int32))] [(.int (2 : Int32)), (.ref y), (.int (2 : Int32)), (.ref z)])) rfl rfl (hb hby d5_23) _ ?_
  refine own_go Hg30_15 hx hZ hown hby hw own_K5_ok (own_g30_14 x z d2) _ ?_
  refine stg30_17 _ ?_
  refine own_go Hg30_17 hx hZ hown hby hw own_K5_ok (own_g30_15 x z tt d2 v28'' hv28'' nn28'') _ ?_
  refine stg30_18 _ ?_
  refine own_go Hg30_18 hx hZ hown hby hw own_K5_ok (own_g30_16 x z) _ ?_
  refine own_arrlen Hg30_18 hx hZ 3 rfl (z := (3 : Int32)) rfl (g := (mkF m 12 #[.val (.ref x), .val (.ref z), .val (.int (3 : Int32))] [(.ref z), (.int (3 : Int32))])) rfl rfl (hb hby d5_12) _ ?_
  refine own_go Hg30_18 hx hZ hown hby hw own_K5_ok (own_g30_17 x z) _ ?_
  exact q
theorem own_g31_0 (x : Addr) :
    own_Go own_K5 prog_20_method_6_code 0 #[.val (.ref x), .unset, .unset] [] 1 #[.val (.ref x), .unset, .unset] [(.ref x)] := by
  refine own_aloadN (pc2 := 1) d5_0 rfl rfl rfl ?_
  exact own_refl
theorem own_g31_1 (x : Addr) (z : Addr) :
    own_Go own_K5 prog_20_method_6_code 7 #[.val (.ref x), .unset, .unset] [(.ref z)] 12 #[.val (.ref x), .val (.ref z), .val (.int (0 : Int32))] [(.ref z), (.int (0 : Int32))] := by
  refine own_astoreN (pc2 := 8) d5_7 rfl rfl (L' := #[.val (.ref x), .val (.ref z), .unset]) rfl ?_
  refine own_iconst (v := 0) (pc2 := 9) d5_8 rfl rfl ?_
  refine own_istoreN (pc2 := 10) d5_9 rfl (L' := #[.val (.ref x), .val (.ref z), .val (.int (0 : Int32))]) rfl ?_
  refine own_iloadN (pc2 := 11) d5_10 rfl rfl ?_
  refine own_aloadN (pc2 := 12) d5_11 rfl rfl rfl ?_
  exact own_refl
theorem own_g31_2 (x : Addr) (z : Addr) :
    own_Go own_K5 prog_20_method_6_code 13 #[.val (.ref x), .val (.ref z), .val (.int (0 : Int32))] [(.int (3 : Int32)), (.int (0 : Int32))] 19 #[.val (.ref x), .val (.ref z), .val (.int (0 : Int32))] [(.ref x), (.int (0 : Int32)), (.ref z)] := by
  refine own_icmpNo (pc2 := 16) d5_13 rfl (by decide) ?_
  refine own_aloadN (pc2 := 17) d5_16 rfl rfl rfl ?_
  refine own_iloadN (pc2 := 18) d5_17 rfl rfl ?_
  refine own_aloadN (pc2 := 19) d5_18 rfl rfl rfl ?_
  exact own_refl
theorem own_g31_3 (x : Addr) (z : Addr) (y : Addr) :
    own_Go own_K5 prog_20_method_6_code 22 #[.val (.ref x), .val (.ref z), .val (.int (0 : Int32))] [(.ref y), (.int (0 : Int32)), (.ref z)] 23 #[.val (.ref x), .val (.ref z), .val (.int (0 : Int32))] [(.int (0 : Int32)), (.ref y), (.int (0 : Int32)), (.ref z)] := by
  refine own_iloadN (pc2 := 23) d5_22 rfl rfl ?_
  exact own_refl
theorem own_g31_4 (x : Addr) (z : Addr) (d0 : UInt64) :
    own_Go own_K5 prog_20_method_6_code 24 #[.val (.ref x), .val (.ref z), .val (.int (0 : Int32))] [(.double d0), (.int (0 : Int32)), (.ref z)] 25 #[.val (.ref x), .val (.ref z), .val (.int (0 : Int32))] [(.ref x), (.double d0), (.int (0 : Int32)), (.ref z)] := by
  refine own_aloadN (pc2 := 25) d5_24 rfl rfl rfl ?_
  exact own_refl
theorem own_g31_5 (x : Addr) (z : Addr) (tt : UInt64) (d0 : UInt64) (v28 : UInt64) (hv28 : (FP.ddiv d0 tt) = v28) (nn28 : NoNaN64 (FP.ddiv d0 tt)) :
    own_Go own_K5 prog_20_method_6_code 28 #[.val (.ref x), .val (.ref z), .val (.int (0 : Int32))] [(.double tt), (.double d0), (.int (0 : Int32)), (.ref z)] 29 #[.val (.ref x), .val (.ref z), .val (.int (0 : Int32))] [(.double v28), (.int (0 : Int32)), (.ref z)] := by
  refine own_ddiv (pc2 := 29) d5_28 rfl nn28 (v := v28) hv28 ?_
  exact own_refl
theorem own_g31_6 (x : Addr) (z : Addr) :
    own_Go own_K5 prog_20_method_6_code 30 #[.val (.ref x), .val (.ref z), .val (.int (0 : Int32))] [] 12 #[.val (.ref x), .val (.ref z), .val (.int (1 : Int32))] [(.ref z), (.int (1 : Int32))] := by
  refine own_iinc (pc2 := 33) d5_30 rfl rfl (v := (1 : Int32)) (by decide) (L' := #[.val (.ref x), .val (.ref z), .val (.int (1 : Int32))]) rfl ?_
  refine own_goto (pc' := 10) d5_33 (by decide) (by decide) ?_
  refine own_iloadN (pc2 := 11) d5_10 rfl rfl ?_
  refine own_aloadN (pc2 := 12) d5_11 rfl rfl rfl ?_
  exact own_refl
theorem own_g31_7 (x : Addr) (z : Addr) :
    own_Go own_K5 prog_20_method_6_code 13 #[.val (.ref x), .val (.ref z), .val (.int (1 : Int32))] [(.int (3 : Int32)), (.int (1 : Int32))] 19 #[.val (.ref x), .val (.ref z), .val (.int (1 : Int32))] [(.ref x), (.int (1 : Int32)), (.ref z)] := by
  refine own_icmpNo (pc2 := 16) d5_13 rfl (by decide) ?_
  refine own_aloadN (pc2 := 17) d5_16 rfl rfl rfl ?_
  refine own_iloadN (pc2 := 18) d5_17 rfl rfl ?_
  refine own_aloadN (pc2 := 19) d5_18 rfl rfl rfl ?_
  exact own_refl
theorem own_g31_8 (x : Addr) (z : Addr) (y : Addr) :
    own_Go own_K5 prog_20_method_6_code 22 #[.val (.ref x), .val (.ref z), .val (.int (1 : Int32))] [(.ref y), (.int (1 : Int32)), (.ref z)] 23 #[.val (.ref x), .val (.ref z), .val (.int (1 : Int32))] [(.int (1 : Int32)), (.ref y), (.int (1 : Int32)), (.ref z)] := by
  refine own_iloadN (pc2 := 23) d5_22 rfl rfl ?_
  exact own_refl
theorem own_g31_9 (x : Addr) (z : Addr) (d1 : UInt64) :
    own_Go own_K5 prog_20_method_6_code 24 #[.val (.ref x), .val (.ref z), .val (.int (1 : Int32))] [(.double d1), (.int (1 : Int32)), (.ref z)] 25 #[.val (.ref x), .val (.ref z), .val (.int (1 : Int32))] [(.ref x), (.double d1), (.int (1 : Int32)), (.ref z)] := by
  refine own_aloadN (pc2 := 25) d5_24 rfl rfl rfl ?_
  exact own_refl
theorem own_g31_10 (x : Addr) (z : Addr) (tt : UInt64) (d1 : UInt64) (v28' : UInt64) (hv28' : (FP.ddiv d1 tt) = v28') (nn28' : NoNaN64 (FP.ddiv d1 tt)) :
    own_Go own_K5 prog_20_method_6_code 28 #[.val (.ref x), .val (.ref z), .val (.int (1 : Int32))] [(.double tt), (.double d1), (.int (1 : Int32)), (.ref z)] 29 #[.val (.ref x), .val (.ref z), .val (.int (1 : Int32))] [(.double v28'), (.int (1 : Int32)), (.ref z)] := by
  refine own_ddiv (pc2 := 29) d5_28 rfl nn28' (v := v28') hv28' ?_
  exact own_refl
theorem own_g31_11 (x : Addr) (z : Addr) :
    own_Go own_K5 prog_20_method_6_code 30 #[.val (.ref x), .val (.ref z), .val (.int (1 : Int32))] [] 12 #[.val (.ref x), .val (.ref z), .val (.int (2 : Int32))] [(.ref z), (.int (2 : Int32))] := by
  refine own_iinc (pc2 := 33) d5_30 rfl rfl (v := (2 : Int32)) (by decide) (L' := #[.val (.ref x), .val (.ref z), .val (.int (2 : Int32))]) rfl ?_
  refine own_goto (pc' := 10) d5_33 (by decide) (by decide) ?_
  refine own_iloadN (pc2 := 11) d5_10 rfl rfl ?_
  refine own_aloadN (pc2 := 12) d5_11 rfl rfl rfl ?_
  exact own_refl
theorem own_g31_12 (x : Addr) (z : Addr) :
    own_Go own_K5 prog_20_method_6_code 13 #[.val (.ref x), .val (.ref z), .val (.int (2 : Int32))] [(.int (3 : Int32)), (.int (2 : Int32))] 19 #[.val (.ref x), .val (.ref z), .val (.int (2 : Int32))] [(.ref x), (.int (2 : Int32)), (.ref z)] := by
  refine own_icmpNo (pc2 := 16) d5_13 rfl (by decide) ?_
  refine own_aloadN (pc2 := 17) d5_16 rfl rfl rfl ?_
  refine own_iloadN (pc2 := 18) d5_17 rfl rfl ?_
  refine own_aloadN (pc2 := 19) d5_18 rfl rfl rfl ?_
  exact own_refl
theorem own_g31_13 (x : Addr) (z : Addr) (y : Addr) :
    own_Go own_K5 prog_20_method_6_code 22 #[.val (.ref x), .val (.ref z), .val (.int (2 : Int32))] [(.ref y), (.int (2 : Int32)), (.ref z)] 23 #[.val (.ref x), .val (.ref z), .val (.int (2 : Int32))] [(.int (2 : Int32)), (.ref y), (.int (2 : Int32)), (.ref z)] := by
  refine own_iloadN (pc2 := 23) d5_22 rfl rfl ?_
  exact own_refl
theorem own_g31_14 (x : Addr) (z : Addr) (d2 : UInt64) :
    own_Go own_K5 prog_20_method_6_code 24 #[.val (.ref x), .val (.ref z), .val (.int (2 : Int32))] [(.double d2), (.int (2 : Int32)), (.ref z)] 25 #[.val (.ref x), .val (.ref z), .val (.int (2 : Int32))] [(.ref x), (.double d2), (.int (2 : Int32)), (.ref z)] := by
  refine own_aloadN (pc2 := 25) d5_24 rfl rfl rfl ?_
  exact own_refl
theorem own_g31_15 (x : Addr) (z : Addr) (tt : UInt64) (d2 : UInt64) (v28'' : UInt64) (hv28'' : (FP.ddiv d2 tt) = v28'') (nn28'' : NoNaN64 (FP.ddiv d2 tt)) :
    own_Go own_K5 prog_20_method_6_code 28 #[.val (.ref x), .val (.ref z), .val (.int (2 : Int32))] [(.double tt), (.double d2), (.int (2 : Int32)), (.ref z)] 29 #[.val (.ref x), .val (.ref z), .val (.int (2 : Int32))] [(.double v28''), (.int (2 : Int32)), (.ref z)] := by
  refine own_ddiv (pc2 := 29) d5_28 rfl nn28'' (v := v28'') hv28'' ?_
  exact own_refl
theorem own_g31_16 (x : Addr) (z : Addr) :
    own_Go own_K5 prog_20_method_6_code 30 #[.val (.ref x), .val (.ref z), .val (.int (2 : Int32))] [] 12 #[.val (.ref x), .val (.ref z), .val (.int (3 : Int32))] [(.ref z), (.int (3 : Int32))] := by
  refine own_iinc (pc2 := 33) d5_30 rfl rfl (v := (3 : Int32)) (by decide) (L' := #[.val (.ref x), .val (.ref z), .val (.int (3 : Int32))]) rfl ?_
  refine own_goto (pc' := 10) d5_33 (by decide) (by decide) ?_
  refine own_iloadN (pc2 := 11) d5_10 rfl rfl ?_
  refine own_aloadN (pc2 := 12) d5_11 rfl rfl rfl ?_
  exact own_refl
theorem own_g31_17 (x : Addr) (z : Addr) :
    own_Go own_K5 prog_20_method_6_code 13 #[.val (.ref x), .val (.ref z), .val (.int (3 : Int32))] [(.int (3 : Int32)), (.int (3 : Int32))] 37 #[.val (.ref x), .val (.ref z), .val (.int (3 : Int32))] [(.ref z)] := by
  refine own_icmpYes (pc' := 36) d5_13 (by decide) (by decide) (by decide) ?_
  refine own_aloadN (pc2 := 37) d5_36 rfl rfl rfl ?_
  exact own_refl
set_option maxRecDepth 65536 in
set_option maxHeartbeats 4000000 in
theorem own_mol31 (l : Launch) (Z : State) (a0 : Array Value) (hb0 : Heap) (hw : ∀ d ∈ tables_1, d.before a0 Z = true) (x : Addr) (ai y : Addr) (qa : own_Cel) (tt : UInt64) (d0 : UInt64) (nn0 : NoNaN64 (FP.ddiv d0 tt)) (d1 : UInt64) (nn1 : NoNaN64 (FP.ddiv d1 tt)) (d2 : UInt64) (nn2 : NoNaN64 (FP.ddiv d2 tt)) (z0 : Addr) (q0 : own_Cel) :
    own_Met l Z a0 hb0 (⟨"com/example/tangentia/tangentia/flash/Feed", "moleFractions", "()[D"⟩ : MethodName) prog_20_method_6_code 3 (some (.array .double)) [] ({ frames := 0, cells := 1, slots := 3, locals := 0 } : Room) #[(.ref x)] [(ai, qa), (x, own_O "com/example/tangentia/tangentia/flash/Feed" [("com/example/tangentia/tangentia/flash/Feed", "amounts", "[D", .ref y), ("com/example/tangentia/tangentia/flash/Feed", "total", "D", .double tt)]), (y, own_A .double [.double d0, .double d1, .double d2]), (z0, q0)] (fun r cs' => ∃ z, r = some (.ref z) ∧ cs' = [(ai, qa), (x, own_O "com/example/tangentia/tangentia/flash/Feed" [("com/example/tangentia/tangentia/flash/Feed", "amounts", "[D", .ref y), ("com/example/tangentia/tangentia/flash/Feed", "total", "D", .double tt)]), (y, own_A .double [.double d0, .double d1, .double d2]), (z0, q0), (z, own_A .double [.double (FP.ddiv d0 tt), .double (FP.ddiv d1 tt), .double (FP.ddiv d2 tt)])]) := by
  refine own_met_of (L0 := #[.val (.ref x), .unset, .unset]) (plainFor_of_name own_pn5) (fun m => own_ef5 m x) ?_
  intro p e s m below meth c T0 hx hZ hown hby hml hnm H0
  obtain ⟨Tg31_1, Hg31_1, stg31_1⟩ := own_getF H0 hx hZ hown (hw _ (List.mem_of_getElem? (i := 30) rfl)) 1 0 rfl rfl (g := (mkF m 1 #[.val (.ref x), .unset, .unset] [(.ref x)])) rfl rfl (hb hby d5_1)
  change own_S _ _ _ _ _ _ _ _ _ _ _ _ _ _ [(ai, qa), (x, own_O "com/example/tangentia/tangentia/flash/Feed" [("com/example/tangentia/tangentia/flash/Feed", "amounts", "[D", .ref y), ("com/example/tangentia/tangentia/flash/Feed", "total", "D", .double tt)]), (y, own_A .double [.double d0, .double d1, .double d2]), (z0, q0)] _ _ at Hg31_1
  obtain ⟨Tg31_3, z, Hg31_3, stg31_3⟩ := own_newA Hg31_1 hx hZ (hw _ (List.mem_of_getElem? (i := 2) rfl)) (g := (mkF m 5 #[.val (.ref x), .unset, .unset] [(.int (3 : Int32))])) rfl (hb hby d5_5) rfl (by decide) (cap := 3) (by decide) (by decide) (by decide) (by decide)
  change own_S _ _ _ _ _ _ _ _ _ _ _ _ _ _ [(ai, qa), (x, own_O "com/example/tangentia/tangentia/flash/Feed" [("com/example/tangentia/tangentia/flash/Feed", "amounts", "[D", .ref y), ("com/example/tangentia/tangentia/flash/Feed", "total", "D", .double tt)]), (y, own_A .double [.double d0, .double d1, .double d2]), (z0, q0), (z, own_A .double [.double 0, .double 0, .double 0])] _ _ at Hg31_3
  obtain ⟨Tg31_5, Hg31_5, stg31_5⟩ := own_getF Hg31_3 hx hZ hown (hw _ (List.mem_of_getElem? (i := 30) rfl)) 1 0 rfl rfl (g := (mkF m 19 #[.val (.ref x), .val (.ref z), .val (.int (0 : Int32))] [(.ref x), (.int (0 : Int32)), (.ref z)])) rfl rfl (hb hby d5_19)
  change own_S _ _ _ _ _ _ _ _ _ _ _ _ _ _ [(ai, qa), (x, own_O "com/example/tangentia/tangentia/flash/Feed" [("com/example/tangentia/tangentia/flash/Feed", "amounts", "[D", .ref y), ("com/example/tangentia/tangentia/flash/Feed", "total", "D", .double tt)]), (y, own_A .double [.double d0, .double d1, .double d2]), (z0, q0), (z, own_A .double [.double 0, .double 0, .double 0])] _ _ at Hg31_5
  obtain ⟨Tg31_7, Hg31_7, stg31_7⟩ := own_getF Hg31_5 hx hZ hown (hw _ (List.mem_of_getElem? (i := 32) rfl)) 1 1 rfl rfl (g := (mkF m 25 #[.val (.ref x), .val (.ref z), .val (.int (0 : Int32))] [(.ref x), (.double d0), (.int (0 : Int32)), (.ref z)])) rfl rfl (hb hby d5_25)
  change own_S _ _ _ _ _ _ _ _ _ _ _ _ _ _ [(ai, qa), (x, own_O "com/example/tangentia/tangentia/flash/Feed" [("com/example/tangentia/tangentia/flash/Feed", "amounts", "[D", .ref y), ("com/example/tangentia/tangentia/flash/Feed", "total", "D", .double tt)]), (y, own_A .double [.double d0, .double d1, .double d2]), (z0, q0), (z, own_A .double [.double 0, .double 0, .double 0])] _ _ at Hg31_7
  obtain ⟨v28, hv28⟩ : ∃ z : UInt64, (FP.ddiv d0 tt) = z := ⟨_, rfl⟩
  obtain ⟨Tg31_8, Hg31_8, stg31_8⟩ := own_dastore Hg31_7 hx hZ 4 0 rfl (by decide) (Nat.le_of_ble_eq_true rfl) (g := (mkF m 29 #[.val (.ref x), .val (.ref z), .val (.int (0 : Int32))] [(.double v28), (.int (0 : Int32)), (.ref z)])) rfl rfl (hb hby d5_29)
  change own_S _ _ _ _ _ _ _ _ _ _ _ _ _ _ [(ai, qa), (x, own_O "com/example/tangentia/tangentia/flash/Feed" [("com/example/tangentia/tangentia/flash/Feed", "amounts", "[D", .ref y), ("com/example/tangentia/tangentia/flash/Feed", "total", "D", .double tt)]), (y, own_A .double [.double d0, .double d1, .double d2]), (z0, q0), (z, own_A .double [.double v28, .double 0, .double 0])] _ _ at Hg31_8
  obtain ⟨Tg31_10, Hg31_10, stg31_10⟩ := own_getF Hg31_8 hx hZ hown (hw _ (List.mem_of_getElem? (i := 30) rfl)) 1 0 rfl rfl (g := (mkF m 19 #[.val (.ref x), .val (.ref z), .val (.int (1 : Int32))] [(.ref x), (.int (1 : Int32)), (.ref z)])) rfl rfl (hb hby d5_19)
  change own_S _ _ _ _ _ _ _ _ _ _ _ _ _ _ [(ai, qa), (x, own_O "com/example/tangentia/tangentia/flash/Feed" [("com/example/tangentia/tangentia/flash/Feed", "amounts", "[D", .ref y), ("com/example/tangentia/tangentia/flash/Feed", "total", "D", .double tt)]), (y, own_A .double [.double d0, .double d1, .double d2]), (z0, q0), (z, own_A .double [.double v28, .double 0, .double 0])] _ _ at Hg31_10
  obtain ⟨Tg31_12, Hg31_12, stg31_12⟩ := own_getF Hg31_10 hx hZ hown (hw _ (List.mem_of_getElem? (i := 32) rfl)) 1 1 rfl rfl (g := (mkF m 25 #[.val (.ref x), .val (.ref z), .val (.int (1 : Int32))] [(.ref x), (.double d1), (.int (1 : Int32)), (.ref z)])) rfl rfl (hb hby d5_25)
  change own_S _ _ _ _ _ _ _ _ _ _ _ _ _ _ [(ai, qa), (x, own_O "com/example/tangentia/tangentia/flash/Feed" [("com/example/tangentia/tangentia/flash/Feed", "amounts", "[D", .ref y), ("com/example/tangentia/tangentia/flash/Feed", "total", "D", .double tt)]), (y, own_A .double [.double d0, .double d1, .double d2]), (z0, q0), (z, own_A .double [.double v28, .double 0, .double 0])] _ _ at Hg31_12
  obtain ⟨v28', hv28'⟩ : ∃ z : UInt64, (FP.ddiv d1 tt) = z := ⟨_, rfl⟩
  obtain ⟨Tg31_13, Hg31_13, stg31_13⟩ := own_dastore Hg31_12 hx hZ 4 1 rfl (by decide) (Nat.le_of_ble_eq_true rfl) (g := (mkF m 29 #[.val (.ref x), .val (.ref z), .val (.int (1 : Int32))] [(.double v28'), (.int (1 : Int32)), (.ref z)])) rfl rfl (hb hby d5_29)
  change own_S _ _ _ _ _ _ _ _ _ _ _ _ _ _ [(ai, qa), (x, own_O "com/example/tangentia/tangentia/flash/Feed" [("com/example/tangentia/tangentia/flash/Feed", "amounts", "[D", .ref y), ("com/example/tangentia/tangentia/flash/Feed", "total", "D", .double tt)]), (y, own_A .double [.double d0, .double d1, .double d2]), (z0, q0), (z, own_A .double [.double v28, .double v28', .double 0])] _ _ at Hg31_13
  obtain ⟨Tg31_15, Hg31_15, stg31_15⟩ := own_getF Hg31_13 hx hZ hown (hw _ (List.mem_of_getElem? (i := 30) rfl)) 1 0 rfl rfl (g := (mkF m 19 #[.val (.ref x), .val (.ref z), .val (.int (2 : Int32))] [(.ref x), (.int (2 : Int32)), (.ref z)])) rfl rfl (hb hby d5_19)
  change own_S _ _ _ _ _ _ _ _ _ _ _ _ _ _ [(ai, qa), (x, own_O "com/example/tangentia/tangentia/flash/Feed" [("com/example/tangentia/tangentia/flash/Feed", "amounts", "[D", .ref y), ("com/example/tangentia/tangentia/flash/Feed", "total", "D", .double tt)]), (y, own_A .double [.double d0, .double d1, .double d2]), (z0, q0), (z, own_A .double [.double v28, .double v28', .double 0])] _ _ at Hg31_15
  obtain ⟨Tg31_17, Hg31_17, stg31_17⟩ := own_getF Hg31_15 hx hZ hown (hw _ (List.mem_of_getElem? (i := 32) rfl)) 1 1 rfl rfl (g := (mkF m 25 #[.val (.ref x), .val (.ref z), .val (.int (2 : Int32))] [(.ref x), (.double d2), (.int (2 : Int32)), (.ref z)])) rfl rfl (hb hby d5_25)
  change own_S _ _ _ _ _ _ _ _ _ _ _ _ _ _ [(ai, qa), (x, own_O "com/example/tangentia/tangentia/flash/Feed" [("com/example/tangentia/tangentia/flash/Feed", "amounts", "[D", .ref y), ("com/example/tangentia/tangentia/flash/Feed", "total", "D", .double tt)]), (y, own_A .double [.double d0, .double d1, .double d2]), (z0, q0), (z, own_A .double [.double v28, .double v28', .double 0])] _ _ at Hg31_17
  obtain ⟨v28'', hv28''⟩ : ∃ z : UInt64, (FP.ddiv d2 tt) = z := ⟨_, rfl⟩
  obtain ⟨Tg31_18, Hg31_18, stg31_18⟩ := own_dastore Hg31_17 hx hZ 4 2 rfl (by decide) (Nat.le_of_ble_eq_true rfl) (g := (mkF m 29 #[.val (.ref x), .val (.ref z), .val (.int (2 : Int32))] [(.double v28''), (.int (2 : Int32)), (.ref z)])) rfl rfl (hb hby d5_29)
  change own_S _ _ _ _ _ _ _ _ _ _ _ _ _ _ [(ai, qa), (x, own_O "com/example/tangentia/tangentia/flash/Feed" [("com/example/tangentia/tangentia/flash/Feed", "amounts", "[D", .ref y), ("com/example/tangentia/tangentia/flash/Feed", "total", "D", .double tt)]), (y, own_A .double [.double d0, .double d1, .double d2]), (z0, q0), (z, own_A .double [.double v28, .double v28', .double v28''])] _ _ at Hg31_18
  have nn28 : NoNaN64 (FP.ddiv d0 tt) := nn0
  have nn28' : NoNaN64 (FP.ddiv d1 tt) := nn1
  have nn28'' : NoNaN64 (FP.ddiv d2 tt) := nn2
  refine ⟨_, _, _, _, 37, #[.val (.ref x), .val (.ref z), .val (.int (3 : Int32))], Hg31_18, by decide, by decide, Or.inr ⟨(.array .double), (.ref z), [], .areturn, rfl, ⟨z, rfl, by rw [hv28, hv28', hv28'']⟩, d5_37, own_retA _, fun target q => ?_⟩⟩
  refine own_go H0 hx hZ hown hby hw own_K5_ok (own_g31_0 x) _ ?_
  refine stg31_1 _ ?_
  refine own_arrlen Hg31_1 hx hZ 2 rfl (z := (3 : Int32)) rfl (g := (mkF m 4 #[.val (.ref x), .unset, .unset] [(.ref y)])) rfl rfl (hb hby d5_4) _ ?_
  refine stg31_3 _ ?_
  refine own_go Hg31_3 hx hZ hown hby hw own_K5_ok (own_g31_1 x z) _ ?_
  refine own_arrlen Hg31_3 hx hZ 4 rfl (z := (3 : Int32)) rfl (g := (mkF m 12 #[.val (.ref x), .val (.ref z), .val (.int (0 : Int32))] [(.ref z), (.int (0 : Int32))])) rfl rfl (hb hby d5_12) _ ?_
  refine own_go Hg31_3 hx hZ hown hby hw own_K5_ok (own_g31_2 x z) _ ?_
  refine stg31_5 _ ?_
  refine own_go Hg31_5 hx hZ hown hby hw own_K5_ok (own_g31_3 x z y) _ ?_
  refine own_daload Hg31_5 hx hZ 2 0 rfl (by decide) rfl (g := (mkF m 23 #[.val (.ref x), .val (.ref z), .val (.int (0 : Int32))] [(.int (0 : Int32)), (.ref y), (.int (0 : Int32)), (.ref z)])) rfl rfl (hb hby d5_23) _ ?_
  refine own_go Hg31_5 hx hZ hown hby hw own_K5_ok (own_g31_4 x z d0) _ ?_
  refine stg31_7 _ ?_
  refine own_go Hg31_7 hx hZ hown hby hw own_K5_ok (own_g31_5 x z tt d0 v28 hv28 nn28) _ ?_
  refine stg31_8 _ ?_
  refine own_go Hg31_8 hx hZ hown hby hw own_K5_ok (own_g31_6 x z) _ ?_
  refine own_arrlen Hg31_8 hx hZ 4 rfl (z := (3 : Int32)) rfl (g := (mkF m 12 #[.val (.ref x), .val (.ref z), .val (.int (1 : Int32))] [(.ref z), (.int (1 : Int32))])) rfl rfl (hb hby d5_12) _ ?_
  refine own_go Hg31_8 hx hZ hown hby hw own_K5_ok (own_g31_7 x z) _ ?_
  refine stg31_10 _ ?_
  refine own_go Hg31_10 hx hZ hown hby hw own_K5_ok (own_g31_8 x z y) _ ?_
  refine own_daload Hg31_10 hx hZ 2 1 rfl (by decide) rfl (g := (mkF m 23 #[.val (.ref x), .val (.ref z), .val (.int (1 : Int32))] [(.int (1 : Int32)), (.ref y), (.int (1 : Int32)), (.ref z)])) rfl rfl (hb hby d5_23) _ ?_
  refine own_go Hg31_10 hx hZ hown hby hw own_K5_ok (own_g31_9 x z d1) _ ?_
  refine stg31_12 _ ?_
  refine own_go Hg31_12 hx hZ hown hby hw own_K5_ok (own_g31_10 x z tt d1 v28' hv28' nn28') _ ?_
  refine stg31_13 _ ?_
  refine own_go Hg31_13 hx hZ hown hby hw own_K5_ok (own_g31_11 x z) _ ?_
  refine own_arrlen Hg31_13 hx hZ 4 rfl (z := (3 : Int32)) rfl (g := (mkF m 12 #[.val (.ref x), .val (.ref z), .val (.int (2 : Int32))] [(.ref z), (.int (2 : Int32))])) rfl rfl (hb hby d5_12) _ ?_
  refine own_go Hg31_13 hx hZ hown hby hw own_K5_ok (own_g31_12 x z) _ ?_
  refine stg31_15 _ ?_
  refine own_go Hg31_15 hx hZ hown hby hw own_K5_ok (own_g31_13 x z y) _ ?_
  refine own_daload Hg31_15 hx hZ 2 2 rfl (by decide) rfl (g := (mkF m 23 #[.val (.ref x), .val (.ref z), .val (.int (2 : Int32))] [(.int (2 : Int32)), (.ref y), (.int (2 : Int32)), (.ref z)])) rfl rfl (hb hby d5_23) _ ?_
  refine own_go Hg31_15 hx hZ hown hby hw own_K5_ok (own_g31_14 x z d2) _ ?_
  refine stg31_17 _ ?_
  refine own_go Hg31_17 hx hZ hown hby hw own_K5_ok (own_g31_15 x z tt d2 v28'' hv28'' nn28'') _ ?_
  refine stg31_18 _ ?_
  refine own_go Hg31_18 hx hZ hown hby hw own_K5_ok (own_g31_16 x z) _ ?_
  refine own_arrlen Hg31_18 hx hZ 4 rfl (z := (3 : Int32)) rfl (g := (mkF m 12 #[.val (.ref x), .val (.ref z), .val (.int (3 : Int32))] [(.ref z), (.int (3 : Int32))])) rfl rfl (hb hby d5_12) _ ?_
  refine own_go Hg31_18 hx hZ hown hby hw own_K5_ok (own_g31_17 x z) _ ?_
  exact q

theorem own_bd (x : Int32) : 0 ≤ (x &&& 1048575).toInt ∧ (x &&& 1048575).toInt < 1048576 := by
  have h := c_mask x 1048575 20 (by decide) (by decide)
  omega
theorem own_s2_0 (xa : Int32) (xb : Int32) (xc : Int32) (xs : Int32) (v3 : Int32) (hv3 : (xa &&& (1048575 : Int32)) = v3) (v9 : Int32) (hv9 : (xb &&& (1048575 : Int32)) = v9) (v15 : Int32) (hv15 : (xc &&& (1048575 : Int32)) = v15) (v21 : Int32) (hv21 : (xs &&& (2147483647 : Int32)) = v21) (v23 : Int32) (hv23 : (v21 - (v21 / (3 : Int32)) * (3 : Int32)) = v23) (hn : (v23 + (1 : Int32)) = (1 : Int32)) :
    own_Go own_K0 code 0 #[.val (.int xa), .val (.int xb), .val (.int xc), .val (.int xs), .unset, .unset, .unset, .unset, .unset, .unset, .unset, .unset, .unset, .unset, .unset, .unset] [] 28 #[.val (.int xa), .val (.int xb), .val (.int xc), .val (.int xs), .val (.int v3), .val (.int v9), .val (.int v15), .val (.int (1 : Int32)), .unset, .unset, .unset, .unset, .unset, .unset, .unset, .unset] [] := by
  refine own_iloadN (pc2 := 1) at_0 rfl rfl ?_
  refine own_ldc (v := (1048575 : Int32)) (pc2 := 3) at_1 rfl (List.mem_of_getElem? (i := 0) rfl) ?_
  refine own_iand (pc2 := 4) at_3 rfl (v := v3) hv3 ?_
  refine own_istore (pc2 := 6) at_4 rfl (L' := #[.val (.int xa), .val (.int xb), .val (.int xc), .val (.int xs), .val (.int v3), .unset, .unset, .unset, .unset, .unset, .unset, .unset, .unset, .unset, .unset, .unset]) rfl ?_
  refine own_iloadN (pc2 := 7) at_6 rfl rfl ?_
  refine own_ldc (v := (1048575 : Int32)) (pc2 := 9) at_7 rfl (List.mem_of_getElem? (i := 0) rfl) ?_
  refine own_iand (pc2 := 10) at_9 rfl (v := v9) hv9 ?_
  refine own_istore (pc2 := 12) at_10 rfl (L' := #[.val (.int xa), .val (.int xb), .val (.int xc), .val (.int xs), .val (.int v3), .val (.int v9), .unset, .unset, .unset, .unset, .unset, .unset, .unset, .unset, .unset, .unset]) rfl ?_
  refine own_iloadN (pc2 := 13) at_12 rfl rfl ?_
  refine own_ldc (v := (1048575 : Int32)) (pc2 := 15) at_13 rfl (List.mem_of_getElem? (i := 0) rfl) ?_
  refine own_iand (pc2 := 16) at_15 rfl (v := v15) hv15 ?_
  refine own_istore (pc2 := 18) at_16 rfl (L' := #[.val (.int xa), .val (.int xb), .val (.int xc), .val (.int xs), .val (.int v3), .val (.int v9), .val (.int v15), .unset, .unset, .unset, .unset, .unset, .unset, .unset, .unset, .unset]) rfl ?_
  refine own_iloadN (pc2 := 19) at_18 rfl rfl ?_
  refine own_ldc (v := (2147483647 : Int32)) (pc2 := 21) at_19 rfl (List.mem_of_getElem? (i := 1) rfl) ?_
  refine own_iand (pc2 := 22) at_21 rfl (v := v21) hv21 ?_
  refine own_iconst (v := 3) (pc2 := 23) at_22 rfl rfl ?_
  refine own_irem (pc2 := 24) at_23 rfl (by decide) (v := v23) hv23 ?_
  refine own_iconst (v := 1) (pc2 := 25) at_24 rfl rfl ?_
  refine own_iadd (pc2 := 26) at_25 rfl (v := (1 : Int32)) hn ?_
  refine own_istore (pc2 := 28) at_26 rfl (L' := #[.val (.int xa), .val (.int xb), .val (.int xc), .val (.int xs), .val (.int v3), .val (.int v9), .val (.int v15), .val (.int (1 : Int32)), .unset, .unset, .unset, .unset, .unset, .unset, .unset, .unset]) rfl ?_
  exact own_refl
theorem own_s2_1 (xa : Int32) (xb : Int32) (xc : Int32) (xs : Int32) (v3 : Int32) (v9 : Int32) (v15 : Int32) :
    own_Go own_K0 code 28 #[.val (.int xa), .val (.int xb), .val (.int xc), .val (.int xs), .val (.int v3), .val (.int v9), .val (.int v15), .val (.int (1 : Int32)), .unset, .unset, .unset, .unset, .unset, .unset, .unset, .unset] [] 35 #[.val (.int xa), .val (.int xb), .val (.int xc), .val (.int xs), .val (.int v3), .val (.int v9), .val (.int v15), .val (.int (1 : Int32)), .unset, .unset, .unset, .unset, .unset, .unset, .unset, .unset] [(.int (1 : Int32))] := by
  refine own_iload (pc2 := 30) at_28 rfl rfl ?_
  refine own_iconst (v := 1) (pc2 := 31) at_30 rfl rfl ?_
  refine own_icmpNo (pc2 := 34) at_31 rfl (by decide) ?_
  refine own_iconst (v := 1) (pc2 := 35) at_34 rfl rfl ?_
  exact own_refl
theorem own_s2_2 (xa : Int32) (xb : Int32) (xc : Int32) (xs : Int32) (v3 : Int32) (v9 : Int32) (v15 : Int32) (ai : Addr) (v44 : UInt64) (hv44 : (FP.i2d v3) = v44) :
    own_Go own_K0 code 37 #[.val (.int xa), .val (.int xb), .val (.int xc), .val (.int xs), .val (.int v3), .val (.int v9), .val (.int v15), .val (.int (1 : Int32)), .unset, .unset, .unset, .unset, .unset, .unset, .unset, .unset] [(.ref ai)] 45 #[.val (.int xa), .val (.int xb), .val (.int xc), .val (.int xs), .val (.int v3), .val (.int v9), .val (.int v15), .val (.int (1 : Int32)), .val (.ref ai), .unset, .unset, .unset, .unset, .unset, .unset, .unset] [(.double v44), (.int (0 : Int32)), (.ref ai)] := by
  refine own_astore (pc2 := 39) at_37 rfl rfl (L' := #[.val (.int xa), .val (.int xb), .val (.int xc), .val (.int xs), .val (.int v3), .val (.int v9), .val (.int v15), .val (.int (1 : Int32)), .val (.ref ai), .unset, .unset, .unset, .unset, .unset, .unset, .unset]) rfl ?_
  refine own_aload (pc2 := 41) at_39 rfl rfl rfl ?_
  refine own_iconst (v := 0) (pc2 := 42) at_41 rfl rfl ?_
  refine own_iload (pc2 := 44) at_42 rfl rfl ?_
  refine own_i2d (pc2 := 45) at_44 rfl (v := v44) hv44 ?_
  exact own_refl
theorem own_s2_3 (xa : Int32) (xb : Int32) (xc : Int32) (xs : Int32) (v3 : Int32) (v9 : Int32) (v15 : Int32) (ai : Addr) (v48 : Int64) (hv48 : v3.toInt64 = v48) (v133 : Int32) (hv133 : (if v48 > (0 : Int64) then (1 : Int32) else if v48 = (0 : Int64) then 0 else -1) = v133) (hb134 : ifCond.holds .ne v133 = false) :
    own_Go own_K0 code 46 #[.val (.int xa), .val (.int xb), .val (.int xc), .val (.int xs), .val (.int v3), .val (.int v9), .val (.int v15), .val (.int (1 : Int32)), .val (.ref ai), .unset, .unset, .unset, .unset, .unset, .unset, .unset] [] 138 #[.val (.int xa), .val (.int xb), .val (.int xc), .val (.int xs), .val (.int v3), .val (.int v9), .val (.int v15), .val (.int (1 : Int32)), .val (.ref ai), .val (.long v48), .second, .unset, .unset, .unset, .unset, .unset] [(.int (1 : Int32))] := by
  refine own_iload (pc2 := 48) at_46 rfl rfl ?_
  refine own_i2l (pc2 := 49) at_48 rfl (v := v48) hv48 ?_
  refine own_lstore (pc2 := 51) at_49 rfl (L' := #[.val (.int xa), .val (.int xb), .val (.int xc), .val (.int xs), .val (.int v3), .val (.int v9), .val (.int v15), .val (.int (1 : Int32)), .val (.ref ai), .val (.long v48), .second, .unset, .unset, .unset, .unset, .unset]) rfl ?_
  refine own_goto (pc' := 130) at_51 (by decide) (by decide) ?_
  refine own_lload (pc2 := 132) at_130 rfl rfl ?_
  refine own_lconst (v := 0) (pc2 := 133) at_132 rfl rfl ?_
  refine own_lcmp (pc2 := 134) at_133 rfl (v := v133) hv133 ?_
  refine own_ifNo (pc2 := 137) at_134 rfl hb134 ?_
  refine own_iconst (v := 1) (pc2 := 138) at_137 rfl rfl ?_
  exact own_refl
set_option maxRecDepth 65536 in
set_option maxHeartbeats 40000000 in
theorem own_law2 (l : Launch) (Z : State) (a0 : Array Value) (hb0 : Heap) (hw : ∀ d ∈ tables_1, d.before a0 Z = true) (xa : Int32) (xb : Int32) (xc : Int32) (xs : Int32) (hsel : ((xs &&& (2147483647 : Int32)) - ((xs &&& (2147483647 : Int32)) / (3 : Int32)) * (3 : Int32)) + (1 : Int32) = (1 : Int32)) (hz : (xa &&& 1048575).toInt = 0) :
    own_Met l Z a0 hb0 x code maxLocals ret tables_1 room_1 #[(.int xa), (.int xb), (.int xc), (.int xs)] [] (fun v _ => v = some (.int 1)) := by
  refine own_met_of (L0 := #[.val (.int xa), .val (.int xb), .val (.int xc), .val (.int xs), .unset, .unset, .unset, .unset, .unset, .unset, .unset, .unset, .unset, .unset, .unset, .unset]) (plainFor_of_name own_pn0) (fun m => own_ef0 m xa xb xc xs) ?_
  intro p e s m below meth c T0 hx hZ hown hby hml hnm H0
  have hown : s.vm.findClass "com/example/tangentia/tangentia/flash/FeedMoleFractionsPinLaw" = some m.cls := hown
  have hml : c.maxLocals = 16 := hml
  obtain ⟨v3, hv3⟩ : ∃ z : Int32, (xa &&& (1048575 : Int32)) = z := ⟨_, rfl⟩
  obtain ⟨v9, hv9⟩ : ∃ z : Int32, (xb &&& (1048575 : Int32)) = z := ⟨_, rfl⟩
  obtain ⟨v15, hv15⟩ : ∃ z : Int32, (xc &&& (1048575 : Int32)) = z := ⟨_, rfl⟩
  obtain ⟨v21, hv21⟩ : ∃ z : Int32, (xs &&& (2147483647 : Int32)) = z := ⟨_, rfl⟩
  obtain ⟨v23, hv23⟩ : ∃ z : Int32, (v21 - (v21 / (3 : Int32)) * (3 : Int32)) = z := ⟨_, rfl⟩
  obtain ⟨Ts2_1, ai, Hs2_1, sts2_1⟩ := own_newA H0 hx hZ (hw _ (List.mem_of_getElem? (i := 2) rfl)) (g := (mkF m 35 #[.val (.int xa), .val (.int xb), .val (.int xc), .val (.int xs), .val (.int v3), .val (.int v9), .val (.int v15), .val (.int (1 : Int32)), .unset, .unset, .unset, .unset, .unset, .unset, .unset, .unset] [(.int (1 : Int32))])) rfl (hb hby at_35) rfl (by decide) (cap := 1) (by decide) (by decide) (by decide) (by decide)
  change own_S _ _ _ _ _ _ _ _ _ _ _ _ _ _ [(ai, own_A .double [.double 0])] _ _ at Hs2_1
  obtain ⟨v44, hv44⟩ : ∃ z : UInt64, (FP.i2d v3) = z := ⟨_, rfl⟩
  obtain ⟨Ts2_2, Hs2_2, sts2_2⟩ := own_dastore Hs2_1 hx hZ 0 0 rfl (by decide) (Nat.le_of_ble_eq_true rfl) (g := (mkF m 45 #[.val (.int xa), .val (.int xb), .val (.int xc), .val (.int xs), .val (.int v3), .val (.int v9), .val (.int v15), .val (.int (1 : Int32)), .val (.ref ai), .unset, .unset, .unset, .unset, .unset, .unset, .unset] [(.double v44), (.int (0 : Int32)), (.ref ai)])) rfl rfl (hb hby at_45)
  change own_S _ _ _ _ _ _ _ _ _ _ _ _ _ _ [(ai, own_A .double [.double v44])] _ _ at Hs2_2
  obtain ⟨v48, hv48⟩ : ∃ z : Int64, v3.toInt64 = z := ⟨_, rfl⟩
  obtain ⟨v133, hv133⟩ : ∃ z : Int32, (if v48 > (0 : Int64) then (1 : Int32) else if v48 = (0 : Int64) then 0 else -1) = z := ⟨_, rfl⟩
  have hn : v23 + (1 : Int32) = (1 : Int32) := by rw [← hv23, ← hv21]; exact hsel
  have b0 := own_bd xa
  have e48 : v48.toInt = (xa &&& 1048575).toInt := by rw [← hv48, ← hv3]; exact c_i2l _
  have hb134 : ifCond.holds .ne v133 = false := by
    rw [← hv133, own_lc_ne, show (0 : Int64).toInt = 0 from rfl, e48]
    exact decide_eq_false (not_not_intro hz)
  refine ⟨_, _, _, _, 138, #[.val (.int xa), .val (.int xb), .val (.int xc), .val (.int xs), .val (.int v3), .val (.int v9), .val (.int v15), .val (.int (1 : Int32)), .val (.ref ai), .val (.long v48), .second, .unset, .unset, .unset, .unset, .unset], Hs2_2, by decide, by decide, Or.inr ⟨.boolean, (.int (1 : Int32)), [], .ireturn, rfl, rfl, at_138, own_retZ (Or.inr rfl), fun target q => ?_⟩⟩
  refine own_go H0 hx hZ hown hby hw own_K0_ok (own_s2_0 xa xb xc xs v3 hv3 v9 hv9 v15 hv15 v21 hv21 v23 hv23 hn) _ ?_
  refine own_go H0 hx hZ hown hby hw own_K0_ok (own_s2_1 xa xb xc xs v3 v9 v15) _ ?_
  refine sts2_1 _ ?_
  refine own_go Hs2_1 hx hZ hown hby hw own_K0_ok (own_s2_2 xa xb xc xs v3 v9 v15 ai v44 hv44) _ ?_
  refine sts2_2 _ ?_
  refine own_go Hs2_2 hx hZ hown hby hw own_K0_ok (own_s2_3 xa xb xc xs v3 v9 v15 ai v48 hv48 v133 hv133 hb134) _ ?_
  exact q
theorem own_s3_0 (xa : Int32) (xb : Int32) (xc : Int32) (xs : Int32) (v3 : Int32) (hv3 : (xa &&& (1048575 : Int32)) = v3) (v9 : Int32) (hv9 : (xb &&& (1048575 : Int32)) = v9) (v15 : Int32) (hv15 : (xc &&& (1048575 : Int32)) = v15) (v21 : Int32) (hv21 : (xs &&& (2147483647 : Int32)) = v21) (v23 : Int32) (hv23 : (v21 - (v21 / (3 : Int32)) * (3 : Int32)) = v23) (hn : (v23 + (1 : Int32)) = (1 : Int32)) :
    own_Go own_K0 code 0 #[.val (.int xa), .val (.int xb), .val (.int xc), .val (.int xs), .unset, .unset, .unset, .unset, .unset, .unset, .unset, .unset, .unset, .unset, .unset, .unset] [] 28 #[.val (.int xa), .val (.int xb), .val (.int xc), .val (.int xs), .val (.int v3), .val (.int v9), .val (.int v15), .val (.int (1 : Int32)), .unset, .unset, .unset, .unset, .unset, .unset, .unset, .unset] [] := by
  refine own_iloadN (pc2 := 1) at_0 rfl rfl ?_
  refine own_ldc (v := (1048575 : Int32)) (pc2 := 3) at_1 rfl (List.mem_of_getElem? (i := 0) rfl) ?_
  refine own_iand (pc2 := 4) at_3 rfl (v := v3) hv3 ?_
  refine own_istore (pc2 := 6) at_4 rfl (L' := #[.val (.int xa), .val (.int xb), .val (.int xc), .val (.int xs), .val (.int v3), .unset, .unset, .unset, .unset, .unset, .unset, .unset, .unset, .unset, .unset, .unset]) rfl ?_
  refine own_iloadN (pc2 := 7) at_6 rfl rfl ?_
  refine own_ldc (v := (1048575 : Int32)) (pc2 := 9) at_7 rfl (List.mem_of_getElem? (i := 0) rfl) ?_
  refine own_iand (pc2 := 10) at_9 rfl (v := v9) hv9 ?_
  refine own_istore (pc2 := 12) at_10 rfl (L' := #[.val (.int xa), .val (.int xb), .val (.int xc), .val (.int xs), .val (.int v3), .val (.int v9), .unset, .unset, .unset, .unset, .unset, .unset, .unset, .unset, .unset, .unset]) rfl ?_
  refine own_iloadN (pc2 := 13) at_12 rfl rfl ?_
  refine own_ldc (v := (1048575 : Int32)) (pc2 := 15) at_13 rfl (List.mem_of_getElem? (i := 0) rfl) ?_
  refine own_iand (pc2 := 16) at_15 rfl (v := v15) hv15 ?_
  refine own_istore (pc2 := 18) at_16 rfl (L' := #[.val (.int xa), .val (.int xb), .val (.int xc), .val (.int xs), .val (.int v3), .val (.int v9), .val (.int v15), .unset, .unset, .unset, .unset, .unset, .unset, .unset, .unset, .unset]) rfl ?_
  refine own_iloadN (pc2 := 19) at_18 rfl rfl ?_
  refine own_ldc (v := (2147483647 : Int32)) (pc2 := 21) at_19 rfl (List.mem_of_getElem? (i := 1) rfl) ?_
  refine own_iand (pc2 := 22) at_21 rfl (v := v21) hv21 ?_
  refine own_iconst (v := 3) (pc2 := 23) at_22 rfl rfl ?_
  refine own_irem (pc2 := 24) at_23 rfl (by decide) (v := v23) hv23 ?_
  refine own_iconst (v := 1) (pc2 := 25) at_24 rfl rfl ?_
  refine own_iadd (pc2 := 26) at_25 rfl (v := (1 : Int32)) hn ?_
  refine own_istore (pc2 := 28) at_26 rfl (L' := #[.val (.int xa), .val (.int xb), .val (.int xc), .val (.int xs), .val (.int v3), .val (.int v9), .val (.int v15), .val (.int (1 : Int32)), .unset, .unset, .unset, .unset, .unset, .unset, .unset, .unset]) rfl ?_
  exact own_refl
theorem own_s3_1 (xa : Int32) (xb : Int32) (xc : Int32) (xs : Int32) (v3 : Int32) (v9 : Int32) (v15 : Int32) :
    own_Go own_K0 code 28 #[.val (.int xa), .val (.int xb), .val (.int xc), .val (.int xs), .val (.int v3), .val (.int v9), .val (.int v15), .val (.int (1 : Int32)), .unset, .unset, .unset, .unset, .unset, .unset, .unset, .unset] [] 35 #[.val (.int xa), .val (.int xb), .val (.int xc), .val (.int xs), .val (.int v3), .val (.int v9), .val (.int v15), .val (.int (1 : Int32)), .unset, .unset, .unset, .unset, .unset, .unset, .unset, .unset] [(.int (1 : Int32))] := by
  refine own_iload (pc2 := 30) at_28 rfl rfl ?_
  refine own_iconst (v := 1) (pc2 := 31) at_30 rfl rfl ?_
  refine own_icmpNo (pc2 := 34) at_31 rfl (by decide) ?_
  refine own_iconst (v := 1) (pc2 := 35) at_34 rfl rfl ?_
  exact own_refl
theorem own_s3_2 (xa : Int32) (xb : Int32) (xc : Int32) (xs : Int32) (v3 : Int32) (v9 : Int32) (v15 : Int32) (ai : Addr) (v44 : UInt64) (hv44 : (FP.i2d v3) = v44) :
    own_Go own_K0 code 37 #[.val (.int xa), .val (.int xb), .val (.int xc), .val (.int xs), .val (.int v3), .val (.int v9), .val (.int v15), .val (.int (1 : Int32)), .unset, .unset, .unset, .unset, .unset, .unset, .unset, .unset] [(.ref ai)] 45 #[.val (.int xa), .val (.int xb), .val (.int xc), .val (.int xs), .val (.int v3), .val (.int v9), .val (.int v15), .val (.int (1 : Int32)), .val (.ref ai), .unset, .unset, .unset, .unset, .unset, .unset, .unset] [(.double v44), (.int (0 : Int32)), (.ref ai)] := by
  refine own_astore (pc2 := 39) at_37 rfl rfl (L' := #[.val (.int xa), .val (.int xb), .val (.int xc), .val (.int xs), .val (.int v3), .val (.int v9), .val (.int v15), .val (.int (1 : Int32)), .val (.ref ai), .unset, .unset, .unset, .unset, .unset, .unset, .unset]) rfl ?_
  refine own_aload (pc2 := 41) at_39 rfl rfl rfl ?_
  refine own_iconst (v := 0) (pc2 := 42) at_41 rfl rfl ?_
  refine own_iload (pc2 := 44) at_42 rfl rfl ?_
  refine own_i2d (pc2 := 45) at_44 rfl (v := v44) hv44 ?_
  exact own_refl
theorem own_s3_3 (xa : Int32) (xb : Int32) (xc : Int32) (xs : Int32) (v3 : Int32) (v9 : Int32) (v15 : Int32) (ai : Addr) (v48 : Int64) (hv48 : v3.toInt64 = v48) (v133 : Int32) (hv133 : (if v48 > (0 : Int64) then (1 : Int32) else if v48 = (0 : Int64) then 0 else -1) = v133) (hb134 : ifCond.holds .ne v133 = true) :
    own_Go own_K0 code 46 #[.val (.int xa), .val (.int xb), .val (.int xc), .val (.int xs), .val (.int v3), .val (.int v9), .val (.int v15), .val (.int (1 : Int32)), .val (.ref ai), .unset, .unset, .unset, .unset, .unset, .unset, .unset] [] 139 #[.val (.int xa), .val (.int xb), .val (.int xc), .val (.int xs), .val (.int v3), .val (.int v9), .val (.int v15), .val (.int (1 : Int32)), .val (.ref ai), .val (.long v48), .second, .unset, .unset, .unset, .unset, .unset] [] := by
  refine own_iload (pc2 := 48) at_46 rfl rfl ?_
  refine own_i2l (pc2 := 49) at_48 rfl (v := v48) hv48 ?_
  refine own_lstore (pc2 := 51) at_49 rfl (L' := #[.val (.int xa), .val (.int xb), .val (.int xc), .val (.int xs), .val (.int v3), .val (.int v9), .val (.int v15), .val (.int (1 : Int32)), .val (.ref ai), .val (.long v48), .second, .unset, .unset, .unset, .unset, .unset]) rfl ?_
  refine own_goto (pc' := 130) at_51 (by decide) (by decide) ?_
  refine own_lload (pc2 := 132) at_130 rfl rfl ?_
  refine own_lconst (v := 0) (pc2 := 133) at_132 rfl rfl ?_
  refine own_lcmp (pc2 := 134) at_133 rfl (v := v133) hv133 ?_
  refine own_ifYes (pc' := 139) at_134 hb134 (by decide) (by decide) ?_
  exact own_refl
theorem own_s3_4 (xa : Int32) (xb : Int32) (xc : Int32) (xs : Int32) (v3 : Int32) (v9 : Int32) (v15 : Int32) (ai : Addr) (v48 : Int64) (x : Addr) :
    own_Go own_K0 code 142 #[.val (.int xa), .val (.int xb), .val (.int xc), .val (.int xs), .val (.int v3), .val (.int v9), .val (.int v15), .val (.int (1 : Int32)), .val (.ref ai), .val (.long v48), .second, .unset, .unset, .unset, .unset, .unset] [(.ref x)] 145 #[.val (.int xa), .val (.int xb), .val (.int xc), .val (.int xs), .val (.int v3), .val (.int v9), .val (.int v15), .val (.int (1 : Int32)), .val (.ref ai), .val (.long v48), .second, .unset, .unset, .unset, .unset, .unset] [(.ref ai), (.ref x), (.ref x)] := by
  refine own_dup (pc2 := 143) at_142 rfl rfl ?_
  refine own_aload (pc2 := 145) at_143 rfl rfl rfl ?_
  exact own_refl
theorem own_s3_5 (xa : Int32) (xb : Int32) (xc : Int32) (xs : Int32) (v3 : Int32) (v9 : Int32) (v15 : Int32) (ai : Addr) (v48 : Int64) (x : Addr) :
    own_Go own_K0 code 148 #[.val (.int xa), .val (.int xb), .val (.int xc), .val (.int xs), .val (.int v3), .val (.int v9), .val (.int v15), .val (.int (1 : Int32)), .val (.ref ai), .val (.long v48), .second, .unset, .unset, .unset, .unset, .unset] [(.ref x)] 152 #[.val (.int xa), .val (.int xb), .val (.int xc), .val (.int xs), .val (.int v3), .val (.int v9), .val (.int v15), .val (.int (1 : Int32)), .val (.ref ai), .val (.long v48), .second, .val (.ref x), .unset, .unset, .unset, .unset] [(.ref x)] := by
  refine own_astore (pc2 := 150) at_148 rfl rfl (L' := #[.val (.int xa), .val (.int xb), .val (.int xc), .val (.int xs), .val (.int v3), .val (.int v9), .val (.int v15), .val (.int (1 : Int32)), .val (.ref ai), .val (.long v48), .second, .val (.ref x), .unset, .unset, .unset, .unset]) rfl ?_
  refine own_aload (pc2 := 152) at_150 rfl rfl rfl ?_
  exact own_refl
theorem own_s3_6 (xa : Int32) (xb : Int32) (xc : Int32) (xs : Int32) (v3 : Int32) (v9 : Int32) (v15 : Int32) (ai : Addr) (v48 : Int64) (x : Addr) (z : Addr) :
    own_Go own_K0 code 155 #[.val (.int xa), .val (.int xb), .val (.int xc), .val (.int xs), .val (.int v3), .val (.int v9), .val (.int v15), .val (.int (1 : Int32)), .val (.ref ai), .val (.long v48), .second, .val (.ref x), .unset, .unset, .unset, .unset] [(.ref z)] 159 #[.val (.int xa), .val (.int xb), .val (.int xc), .val (.int xs), .val (.int v3), .val (.int v9), .val (.int v15), .val (.int (1 : Int32)), .val (.ref ai), .val (.long v48), .second, .val (.ref x), .val (.ref z), .unset, .unset, .unset] [(.ref z)] := by
  refine own_astore (pc2 := 157) at_155 rfl rfl (L' := #[.val (.int xa), .val (.int xb), .val (.int xc), .val (.int xs), .val (.int v3), .val (.int v9), .val (.int v15), .val (.int (1 : Int32)), .val (.ref ai), .val (.long v48), .second, .val (.ref x), .val (.ref z), .unset, .unset, .unset]) rfl ?_
  refine own_aload (pc2 := 159) at_157 rfl rfl rfl ?_
  exact own_refl
theorem own_s3_7 (xa : Int32) (xb : Int32) (xc : Int32) (xs : Int32) (v3 : Int32) (v9 : Int32) (v15 : Int32) (ai : Addr) (v48 : Int64) (x : Addr) (z : Addr) (v169 : UInt64) (hv169 : (FP.l2d v48) = v169) :
    own_Go own_K0 code 160 #[.val (.int xa), .val (.int xb), .val (.int xc), .val (.int xs), .val (.int v3), .val (.int v9), .val (.int v15), .val (.int (1 : Int32)), .val (.ref ai), .val (.long v48), .second, .val (.ref x), .val (.ref z), .unset, .unset, .unset] [(.int (1 : Int32))] 175 #[.val (.int xa), .val (.int xb), .val (.int xc), .val (.int xs), .val (.int v3), .val (.int v9), .val (.int v15), .val (.int (1 : Int32)), .val (.ref ai), .val (.long v48), .second, .val (.ref x), .val (.ref z), .val (.double v169), .second, .unset] [(.int (0 : Int32)), (.ref z)] := by
  refine own_iload (pc2 := 162) at_160 rfl rfl ?_
  refine own_icmpYes (pc' := 167) at_162 (by decide) (by decide) (by decide) ?_
  refine own_lload (pc2 := 169) at_167 rfl rfl ?_
  refine own_l2d (pc2 := 170) at_169 rfl (v := v169) hv169 ?_
  refine own_dstore (pc2 := 172) at_170 rfl (L' := #[.val (.int xa), .val (.int xb), .val (.int xc), .val (.int xs), .val (.int v3), .val (.int v9), .val (.int v15), .val (.int (1 : Int32)), .val (.ref ai), .val (.long v48), .second, .val (.ref x), .val (.ref z), .val (.double v169), .second, .unset]) rfl ?_
  refine own_aload (pc2 := 174) at_172 rfl rfl rfl ?_
  refine own_iconst (v := 0) (pc2 := 175) at_174 rfl rfl ?_
  exact own_refl
theorem own_s3_8 (xa : Int32) (xb : Int32) (xc : Int32) (xs : Int32) (v3 : Int32) (v9 : Int32) (v15 : Int32) (ai : Addr) (v48 : Int64) (x : Addr) (z : Addr) (v169 : UInt64) (v178 : UInt64) (hv178 : (FP.i2d v3) = v178) (v181 : UInt64) (hv181 : (FP.ddiv v178 v169) = v181) (nn181 : NoNaN64 (FP.ddiv v178 v169)) (v182 : Int32) (hv182 : (cmpValue (FP.dcmp (FP.ddiv v44 tt) v181) .l) = v182) (hb183 : ifCond.holds .eq v182 = true) :
    own_Go own_K0 code 176 #[.val (.int xa), .val (.int xb), .val (.int xc), .val (.int xs), .val (.int v3), .val (.int v9), .val (.int v15), .val (.int (1 : Int32)), .val (.ref ai), .val (.long v48), .second, .val (.ref x), .val (.ref z), .val (.double v169), .second, .unset] [(.double (FP.ddiv v44 tt))] 238 #[.val (.int xa), .val (.int xb), .val (.int xc), .val (.int xs), .val (.int v3), .val (.int v9), .val (.int v15), .val (.int (1 : Int32)), .val (.ref ai), .val (.long v48), .second, .val (.ref x), .val (.ref z), .val (.double v169), .second, .unset] [(.double (13830554455654793216 : UInt64)), (.int (0 : Int32)), (.ref z)] := by
  refine own_iload (pc2 := 178) at_176 rfl rfl ?_
  refine own_i2d (pc2 := 179) at_178 rfl (v := v178) hv178 ?_
  refine own_dload (pc2 := 181) at_179 rfl rfl ?_
  refine own_ddiv (pc2 := 182) at_181 rfl nn181 (v := v181) hv181 ?_
  refine own_dcmp (pc2 := 183) at_182 rfl (v := v182) hv182 ?_
  refine own_ifYes (pc' := 188) at_183 hb183 (by decide) (by decide) ?_
  refine own_iload (pc2 := 190) at_188 rfl rfl ?_
  refine own_iconst (v := 2) (pc2 := 191) at_190 rfl rfl ?_
  refine own_icmpYes (pc' := 210) at_191 (by decide) (by decide) (by decide) ?_
  refine own_iload (pc2 := 212) at_210 rfl rfl ?_
  refine own_iconst (v := 3) (pc2 := 213) at_212 rfl rfl ?_
  refine own_icmpYes (pc' := 232) at_213 (by decide) (by decide) (by decide) ?_
  refine own_aload (pc2 := 234) at_232 rfl rfl rfl ?_
  refine own_iconst (v := 0) (pc2 := 235) at_234 rfl rfl ?_
  refine own_ldc2D (v := (13830554455654793216 : UInt64)) (pc2 := 238) at_235 rfl (List.mem_of_getElem? (i := 2) rfl) ?_
  exact own_refl
theorem own_s3_9 (xa : Int32) (xb : Int32) (xc : Int32) (xs : Int32) (v3 : Int32) (v9 : Int32) (v15 : Int32) (ai : Addr) (v48 : Int64) (x : Addr) (z : Addr) (v169 : UInt64) :
    own_Go own_K0 code 239 #[.val (.int xa), .val (.int xb), .val (.int xc), .val (.int xs), .val (.int v3), .val (.int v9), .val (.int v15), .val (.int (1 : Int32)), .val (.ref ai), .val (.long v48), .second, .val (.ref x), .val (.ref z), .val (.double v169), .second, .unset] [] 241 #[.val (.int xa), .val (.int xb), .val (.int xc), .val (.int xs), .val (.int v3), .val (.int v9), .val (.int v15), .val (.int (1 : Int32)), .val (.ref ai), .val (.long v48), .second, .val (.ref x), .val (.ref z), .val (.double v169), .second, .unset] [(.ref x)] := by
  refine own_aload (pc2 := 241) at_239 rfl rfl rfl ?_
  exact own_refl
theorem own_s3_10 (xa : Int32) (xb : Int32) (xc : Int32) (xs : Int32) (v3 : Int32) (v9 : Int32) (v15 : Int32) (ai : Addr) (v48 : Int64) (x : Addr) (z : Addr) (v169 : UInt64) (z2 : Addr) :
    own_Go own_K0 code 244 #[.val (.int xa), .val (.int xb), .val (.int xc), .val (.int xs), .val (.int v3), .val (.int v9), .val (.int v15), .val (.int (1 : Int32)), .val (.ref ai), .val (.long v48), .second, .val (.ref x), .val (.ref z), .val (.double v169), .second, .unset] [(.ref z2)] 248 #[.val (.int xa), .val (.int xb), .val (.int xc), .val (.int xs), .val (.int v3), .val (.int v9), .val (.int v15), .val (.int (1 : Int32)), .val (.ref ai), .val (.long v48), .second, .val (.ref x), .val (.ref z), .val (.double v169), .second, .val (.ref z2)] [(.ref z2)] := by
  refine own_astore (pc2 := 246) at_244 rfl rfl (L' := #[.val (.int xa), .val (.int xb), .val (.int xc), .val (.int xs), .val (.int v3), .val (.int v9), .val (.int v15), .val (.int (1 : Int32)), .val (.ref ai), .val (.long v48), .second, .val (.ref x), .val (.ref z), .val (.double v169), .second, .val (.ref z2)]) rfl ?_
  refine own_aload (pc2 := 248) at_246 rfl rfl rfl ?_
  exact own_refl
theorem own_s3_11 (xa : Int32) (xb : Int32) (xc : Int32) (xs : Int32) (v3 : Int32) (v9 : Int32) (v15 : Int32) (ai : Addr) (v48 : Int64) (x : Addr) (z : Addr) (v169 : UInt64) (z2 : Addr) :
    own_Go own_K0 code 249 #[.val (.int xa), .val (.int xb), .val (.int xc), .val (.int xs), .val (.int v3), .val (.int v9), .val (.int v15), .val (.int (1 : Int32)), .val (.ref ai), .val (.long v48), .second, .val (.ref x), .val (.ref z), .val (.double v169), .second, .val (.ref z2)] [(.int (1 : Int32))] 259 #[.val (.int xa), .val (.int xb), .val (.int xc), .val (.int xs), .val (.int v3), .val (.int v9), .val (.int v15), .val (.int (1 : Int32)), .val (.ref ai), .val (.long v48), .second, .val (.ref x), .val (.ref z), .val (.double v169), .second, .val (.ref z2)] [(.int (0 : Int32)), (.ref z2)] := by
  refine own_iload (pc2 := 251) at_249 rfl rfl ?_
  refine own_icmpYes (pc' := 256) at_251 (by decide) (by decide) (by decide) ?_
  refine own_aload (pc2 := 258) at_256 rfl rfl rfl ?_
  refine own_iconst (v := 0) (pc2 := 259) at_258 rfl rfl ?_
  exact own_refl
theorem own_s3_12 (xa : Int32) (xb : Int32) (xc : Int32) (xs : Int32) (v3 : Int32) (v9 : Int32) (v15 : Int32) (ai : Addr) (v48 : Int64) (x : Addr) (z : Addr) (v169 : UInt64) (z2 : Addr) (v262 : UInt64) (hv262 : (FP.i2d v3) = v262) (v265 : UInt64) (hv265 : (FP.ddiv v262 v169) = v265) (nn265 : NoNaN64 (FP.ddiv v262 v169)) (v266 : Int32) (hv266 : (cmpValue (FP.dcmp (FP.ddiv v44 tt) v265) .l) = v266) (hb267 : ifCond.holds .ne v266 = false) :
    own_Go own_K0 code 260 #[.val (.int xa), .val (.int xb), .val (.int xc), .val (.int xs), .val (.int v3), .val (.int v9), .val (.int v15), .val (.int (1 : Int32)), .val (.ref ai), .val (.long v48), .second, .val (.ref x), .val (.ref z), .val (.double v169), .second, .val (.ref z2)] [(.double (FP.ddiv v44 tt))] 275 #[.val (.int xa), .val (.int xb), .val (.int xc), .val (.int xs), .val (.int v3), .val (.int v9), .val (.int v15), .val (.int (1 : Int32)), .val (.ref ai), .val (.long v48), .second, .val (.ref x), .val (.ref z), .val (.double v169), .second, .val (.ref z2)] [(.int (1 : Int32))] := by
  refine own_iload (pc2 := 262) at_260 rfl rfl ?_
  refine own_i2d (pc2 := 263) at_262 rfl (v := v262) hv262 ?_
  refine own_dload (pc2 := 265) at_263 rfl rfl ?_
  refine own_ddiv (pc2 := 266) at_265 rfl nn265 (v := v265) hv265 ?_
  refine own_dcmp (pc2 := 267) at_266 rfl (v := v266) hv266 ?_
  refine own_ifNo (pc2 := 270) at_267 rfl hb267 ?_
  refine own_iconst (v := 1) (pc2 := 271) at_270 rfl rfl ?_
  refine own_goto (pc' := 275) at_271 (by decide) (by decide) ?_
  exact own_refl
set_option maxRecDepth 65536 in
set_option maxHeartbeats 40000000 in
theorem own_law3 (l : Launch) (Z : State) (a0 : Array Value) (hb0 : Heap) (hw : ∀ d ∈ tables_1, d.before a0 Z = true) (xa : Int32) (xb : Int32) (xc : Int32) (xs : Int32) (hsel : ((xs &&& (2147483647 : Int32)) - ((xs &&& (2147483647 : Int32)) / (3 : Int32)) * (3 : Int32)) + (1 : Int32) = (1 : Int32)) (hz : (xa &&& 1048575).toInt ≠ 0) :
    own_Met l Z a0 hb0 x code maxLocals ret tables_1 room_1 #[(.int xa), (.int xb), (.int xc), (.int xs)] [] (fun v _ => v = some (.int 1)) := by
  refine own_met_of (L0 := #[.val (.int xa), .val (.int xb), .val (.int xc), .val (.int xs), .unset, .unset, .unset, .unset, .unset, .unset, .unset, .unset, .unset, .unset, .unset, .unset]) (plainFor_of_name own_pn0) (fun m => own_ef0 m xa xb xc xs) ?_
  intro p e s m below meth c T0 hx hZ hown hby hml hnm H0
  have hown : s.vm.findClass "com/example/tangentia/tangentia/flash/FeedMoleFractionsPinLaw" = some m.cls := hown
  have hml : c.maxLocals = 16 := hml
  obtain ⟨v3, hv3⟩ : ∃ z : Int32, (xa &&& (1048575 : Int32)) = z := ⟨_, rfl⟩
  obtain ⟨v9, hv9⟩ : ∃ z : Int32, (xb &&& (1048575 : Int32)) = z := ⟨_, rfl⟩
  obtain ⟨v15, hv15⟩ : ∃ z : Int32, (xc &&& (1048575 : Int32)) = z := ⟨_, rfl⟩
  obtain ⟨v21, hv21⟩ : ∃ z : Int32, (xs &&& (2147483647 : Int32)) = z := ⟨_, rfl⟩
  obtain ⟨v23, hv23⟩ : ∃ z : Int32, (v21 - (v21 / (3 : Int32)) * (3 : Int32)) = z := ⟨_, rfl⟩
  obtain ⟨Ts3_1, ai, Hs3_1, sts3_1⟩ := own_newA H0 hx hZ (hw _ (List.mem_of_getElem? (i := 2) rfl)) (g := (mkF m 35 #[.val (.int xa), .val (.int xb), .val (.int xc), .val (.int xs), .val (.int v3), .val (.int v9), .val (.int v15), .val (.int (1 : Int32)), .unset, .unset, .unset, .unset, .unset, .unset, .unset, .unset] [(.int (1 : Int32))])) rfl (hb hby at_35) rfl (by decide) (cap := 1) (by decide) (by decide) (by decide) (by decide)
  change own_S _ _ _ _ _ _ _ _ _ _ _ _ _ _ [(ai, own_A .double [.double 0])] _ _ at Hs3_1
  obtain ⟨v44, hv44⟩ : ∃ z : UInt64, (FP.i2d v3) = z := ⟨_, rfl⟩
  obtain ⟨Ts3_2, Hs3_2, sts3_2⟩ := own_dastore Hs3_1 hx hZ 0 0 rfl (by decide) (Nat.le_of_ble_eq_true rfl) (g := (mkF m 45 #[.val (.int xa), .val (.int xb), .val (.int xc), .val (.int xs), .val (.int v3), .val (.int v9), .val (.int v15), .val (.int (1 : Int32)), .val (.ref ai), .unset, .unset, .unset, .unset, .unset, .unset, .unset] [(.double v44), (.int (0 : Int32)), (.ref ai)])) rfl rfl (hb hby at_45)
  change own_S _ _ _ _ _ _ _ _ _ _ _ _ _ _ [(ai, own_A .double [.double v44])] _ _ at Hs3_2
  obtain ⟨v48, hv48⟩ : ∃ z : Int64, v3.toInt64 = z := ⟨_, rfl⟩
  obtain ⟨v133, hv133⟩ : ∃ z : Int32, (if v48 > (0 : Int64) then (1 : Int32) else if v48 = (0 : Int64) then 0 else -1) = z := ⟨_, rfl⟩
  have hn : v23 + (1 : Int32) = (1 : Int32) := by rw [← hv23, ← hv21]; exact hsel
  have b0 := own_bd xa
  have e48 : v48.toInt = (xa &&& 1048575).toInt := by rw [← hv48, ← hv3]; exact c_i2l _
  have hb134 : ifCond.holds .ne v133 = true := by
    rw [← hv133, own_lc_ne, show (0 : Int64).toInt = 0 from rfl, e48]
    exact decide_eq_true hz
  have i0 : own_is v44 (((xa &&& 1048575).toInt : Int) : Rat) := by rw [← hv44, ← hv3]; exact own_isI _
  obtain ⟨Ts3_3, x, Hs3_3, sts3_3⟩ := own_newO Hs3_2 hx hZ hown (hw _ (List.mem_of_getElem? (i := 3) rfl)) (hw _ (List.mem_of_getElem? (i := 4) rfl)) (hw _ (List.mem_of_getElem? (i := 5) rfl)) [("com/example/tangentia/tangentia/flash/Feed", "amounts", "[D", .null), ("com/example/tangentia/tangentia/flash/Feed", "total", "D", .double 0)] (by
      intro f hf
      simp only [List.mem_cons, List.not_mem_nil, or_false] at hf
      rcases hf with rfl | rfl
      · exact ⟨Or.inr (hw _ (List.mem_of_getElem? (i := 31) rfl)), (.array .double), by decide, rfl⟩
      · exact ⟨Or.inr (hw _ (List.mem_of_getElem? (i := 33) rfl)), .double, by decide, rfl⟩) (by decide) (g := (mkF m 139 #[.val (.int xa), .val (.int xb), .val (.int xc), .val (.int xs), .val (.int v3), .val (.int v9), .val (.int v15), .val (.int (1 : Int32)), .val (.ref ai), .val (.long v48), .second, .unset, .unset, .unset, .unset, .unset] [])) rfl (hb hby at_139) (by decide) (by decide)
  change own_S _ _ _ _ _ _ _ _ _ _ _ _ _ _ [(ai, own_A .double [.double v44]), (x, own_O "com/example/tangentia/tangentia/flash/Feed" [("com/example/tangentia/tangentia/flash/Feed", "amounts", "[D", .null), ("com/example/tangentia/tangentia/flash/Feed", "total", "D", .double 0)])] _ _ at Hs3_3
  obtain ⟨Ts3_4, vs3_4_, css3_4_, qs3_4, Hs3_4, sts3_4⟩ := own_callI Hs3_3 hx hZ hown rfl (hw _ (List.mem_of_getElem? (i := 6) rfl)) (hw _ (List.mem_of_getElem? (i := 7) rfl)) (hw _ (List.mem_of_getElem? (i := 5) rfl)) (hw _ (List.mem_of_getElem? (i := 8) rfl)) (by decide) (x := x) (argsL := [(.ref ai)]) (rest := [(.ref x)]) (W := 1) (own_feed1 l Z a0 hb0 hw x ai v44 _ i0 b0 (by omega)) (by decide) (by decide) (by decide) (by decide) (g := (mkF m 145 #[.val (.int xa), .val (.int xb), .val (.int xc), .val (.int xs), .val (.int v3), .val (.int v9), .val (.int v15), .val (.int (1 : Int32)), .val (.ref ai), .val (.long v48), .second, .unset, .unset, .unset, .unset, .unset] [(.ref ai), (.ref x), (.ref x)])) rfl (by rw [hml]; rfl) (lenOf own_pd4 rfl) rfl (by show 2 * 0 + _ ≤ _; exact Nat.le_of_eq rfl) (hb hby at_145)
  obtain ⟨y, tt, it, rfl, rfl⟩ := qs3_4
  change own_S _ _ _ _ _ _ _ _ _ _ _ _ _ _ [(ai, own_A .double [.double v44]), (x, own_O "com/example/tangentia/tangentia/flash/Feed" [("com/example/tangentia/tangentia/flash/Feed", "amounts", "[D", .ref y), ("com/example/tangentia/tangentia/flash/Feed", "total", "D", .double tt)]), (y, own_A .double [.double v44])] _ _ at Hs3_4
  have hS : ((0 : Int) + (xa &&& 1048575).toInt) = (xa &&& 1048575).toInt := by omega
  rw [hS] at it
  have hS0 : (((xa &&& 1048575).toInt : Int) : Rat) ≠ 0 := by rw [Ne, Rat.intCast_eq_zero_iff]; exact hz
  have w0 := own_div i0 it hS0
  obtain ⟨Ts3_5, vs3_5_, css3_5_, qs3_5, Hs3_5, sts3_5⟩ := own_callV Hs3_4 hx hZ hown (hw _ (List.mem_of_getElem? (i := 34) rfl)) (hw _ (List.mem_of_getElem? (i := 35) rfl)) (hw _ (List.mem_of_getElem? (i := 37) rfl)) (hw _ (List.mem_of_getElem? (i := 36) rfl)) (hw _ (List.mem_of_getElem? (i := 5) rfl)) (hw _ (List.mem_of_getElem? (i := 38) rfl)) (by decide) (x := x) 1 rfl (argsL := []) (rest := []) (W := 0) (own_mol10 l Z a0 hb0 hw x ai y _ tt v44 (own_rd_no w0)) (by decide) (by decide) (by decide) (by decide) (g := (mkF m 152 #[.val (.int xa), .val (.int xb), .val (.int xc), .val (.int xs), .val (.int v3), .val (.int v9), .val (.int v15), .val (.int (1 : Int32)), .val (.ref ai), .val (.long v48), .second, .val (.ref x), .unset, .unset, .unset, .unset] [(.ref x)])) rfl (by rw [hml]; rfl) (lenOf own_pd1 rfl) rfl (by show 2 * 0 + _ ≤ _; exact Nat.le_of_eq rfl) (hb hby at_152)
  obtain ⟨z, rfl, rfl⟩ := qs3_5
  change own_S _ _ _ _ _ _ _ _ _ _ _ _ _ _ [(ai, own_A .double [.double v44]), (x, own_O "com/example/tangentia/tangentia/flash/Feed" [("com/example/tangentia/tangentia/flash/Feed", "amounts", "[D", .ref y), ("com/example/tangentia/tangentia/flash/Feed", "total", "D", .double tt)]), (y, own_A .double [.double v44]), (z, own_A .double [.double (FP.ddiv v44 tt)])] _ _ at Hs3_5
  obtain ⟨v169, hv169⟩ : ∃ z : UInt64, (FP.l2d v48) = z := ⟨_, rfl⟩
  obtain ⟨v178, hv178⟩ : ∃ z : UInt64, (FP.i2d v3) = z := ⟨_, rfl⟩
  obtain ⟨v181, hv181⟩ : ∃ z : UInt64, (FP.ddiv v178 v169) = z := ⟨_, rfl⟩
  obtain ⟨v182, hv182⟩ : ∃ z : Int32, (cmpValue (FP.dcmp (FP.ddiv v44 tt) v181) .l) = z := ⟨_, rfl⟩
  obtain ⟨Ts3_8, Hs3_8, sts3_8⟩ := own_dastore Hs3_5 hx hZ 3 0 rfl (by decide) (Nat.le_of_ble_eq_true rfl) (g := (mkF m 238 #[.val (.int xa), .val (.int xb), .val (.int xc), .val (.int xs), .val (.int v3), .val (.int v9), .val (.int v15), .val (.int (1 : Int32)), .val (.ref ai), .val (.long v48), .second, .val (.ref x), .val (.ref z), .val (.double v169), .second, .unset] [(.double (13830554455654793216 : UInt64)), (.int (0 : Int32)), (.ref z)])) rfl rfl (hb hby at_238)
  change own_S _ _ _ _ _ _ _ _ _ _ _ _ _ _ [(ai, own_A .double [.double v44]), (x, own_O "com/example/tangentia/tangentia/flash/Feed" [("com/example/tangentia/tangentia/flash/Feed", "amounts", "[D", .ref y), ("com/example/tangentia/tangentia/flash/Feed", "total", "D", .double tt)]), (y, own_A .double [.double v44]), (z, own_A .double [.double (13830554455654793216 : UInt64)])] _ _ at Hs3_8
  obtain ⟨Ts3_9, vs3_9_, css3_9_, qs3_9, Hs3_9, sts3_9⟩ := own_callV Hs3_8 hx hZ hown (hw _ (List.mem_of_getElem? (i := 34) rfl)) (hw _ (List.mem_of_getElem? (i := 35) rfl)) (hw _ (List.mem_of_getElem? (i := 37) rfl)) (hw _ (List.mem_of_getElem? (i := 36) rfl)) (hw _ (List.mem_of_getElem? (i := 5) rfl)) (hw _ (List.mem_of_getElem? (i := 38) rfl)) (by decide) (x := x) 1 rfl (argsL := []) (rest := []) (W := 0) (own_mol11 l Z a0 hb0 hw x ai y _ tt v44 (own_rd_no w0) z _) (by decide) (by decide) (by decide) (by decide) (g := (mkF m 241 #[.val (.int xa), .val (.int xb), .val (.int xc), .val (.int xs), .val (.int v3), .val (.int v9), .val (.int v15), .val (.int (1 : Int32)), .val (.ref ai), .val (.long v48), .second, .val (.ref x), .val (.ref z), .val (.double v169), .second, .unset] [(.ref x)])) rfl (by rw [hml]; rfl) (lenOf own_pd1 rfl) rfl (by show 2 * 0 + _ ≤ _; exact Nat.le_of_eq rfl) (hb hby at_241)
  obtain ⟨z2, rfl, rfl⟩ := qs3_9
  change own_S _ _ _ _ _ _ _ _ _ _ _ _ _ _ [(ai, own_A .double [.double v44]), (x, own_O "com/example/tangentia/tangentia/flash/Feed" [("com/example/tangentia/tangentia/flash/Feed", "amounts", "[D", .ref y), ("com/example/tangentia/tangentia/flash/Feed", "total", "D", .double tt)]), (y, own_A .double [.double v44]), (z, own_A .double [.double (13830554455654793216 : UInt64)]), (z2, own_A .double [.double (FP.ddiv v44 tt)])] _ _ at Hs3_9
  obtain ⟨v262, hv262⟩ : ∃ z : UInt64, (FP.i2d v3) = z := ⟨_, rfl⟩
  obtain ⟨v265, hv265⟩ : ∃ z : UInt64, (FP.ddiv v262 v169) = z := ⟨_, rfl⟩
  obtain ⟨v266, hv266⟩ : ∃ z : Int32, (cmpValue (FP.dcmp (FP.ddiv v44 tt) v265) .l) = z := ⟨_, rfl⟩
  have i169 : own_is v169 (((xa &&& 1048575).toInt : Int) : Rat) := by rw [← hv169, ← e48]; exact own_rd_small (own_rdL _) (by omega)
  have i178 : own_is v178 (((xa &&& 1048575).toInt : Int) : Rat) := by rw [← hv178, ← hv3]; exact own_isI _
  have w181 := own_div i178 i169 hS0
  have nn181 : NoNaN64 (FP.ddiv v178 v169) := own_rd_no w181
  have hb183 : ifCond.holds .eq v182 = true := by rw [← hv182, ← hv181, own_rd_uniq w0 w181]; rfl
  have i262 : own_is v262 (((xa &&& 1048575).toInt : Int) : Rat) := by rw [← hv262, ← hv3]; exact own_isI _
  have w265 := own_div i262 i169 hS0
  have nn265 : NoNaN64 (FP.ddiv v262 v169) := own_rd_no w265
  have hb267 : ifCond.holds .ne v266 = false := by rw [← hv266, ← hv265, own_rd_uniq w0 w265]; rfl
  refine ⟨_, _, _, _, 275, #[.val (.int xa), .val (.int xb), .val (.int xc), .val (.int xs), .val (.int v3), .val (.int v9), .val (.int v15), .val (.int (1 : Int32)), .val (.ref ai), .val (.long v48), .second, .val (.ref x), .val (.ref z), .val (.double v169), .second, .val (.ref z2)], Hs3_9, by decide, by decide, Or.inr ⟨.boolean, (.int (1 : Int32)), [], .ireturn, rfl, rfl, at_275, own_retZ (Or.inr rfl), fun target q => ?_⟩⟩
  refine own_go H0 hx hZ hown hby hw own_K0_ok (own_s3_0 xa xb xc xs v3 hv3 v9 hv9 v15 hv15 v21 hv21 v23 hv23 hn) _ ?_
  refine own_go H0 hx hZ hown hby hw own_K0_ok (own_s3_1 xa xb xc xs v3 v9 v15) _ ?_
  refine sts3_1 _ ?_
  refine own_go Hs3_1 hx hZ hown hby hw own_K0_ok (own_s3_2 xa xb xc xs v3 v9 v15 ai v44 hv44) _ ?_
  refine sts3_2 _ ?_
  refine own_go Hs3_2 hx hZ hown hby hw own_K0_ok (own_s3_3 xa xb xc xs v3 v9 v15 ai v48 hv48 v133 hv133 hb134) _ ?_
  refine sts3_3 _ ?_
  refine own_go Hs3_3 hx hZ hown hby hw own_K0_ok (own_s3_4 xa xb xc xs v3 v9 v15 ai v48 x) _ ?_
  refine sts3_4 _ ?_
  refine own_go Hs3_4 hx hZ hown hby hw own_K0_ok (own_s3_5 xa xb xc xs v3 v9 v15 ai v48 x) _ ?_
  refine sts3_5 _ ?_
  refine own_go Hs3_5 hx hZ hown hby hw own_K0_ok (own_s3_6 xa xb xc xs v3 v9 v15 ai v48 x z) _ ?_
  refine own_arrlen Hs3_5 hx hZ 3 rfl (z := (1 : Int32)) rfl (g := (mkF m 159 #[.val (.int xa), .val (.int xb), .val (.int xc), .val (.int xs), .val (.int v3), .val (.int v9), .val (.int v15), .val (.int (1 : Int32)), .val (.ref ai), .val (.long v48), .second, .val (.ref x), .val (.ref z), .unset, .unset, .unset] [(.ref z)])) rfl rfl (hb hby at_159) _ ?_
  refine own_go Hs3_5 hx hZ hown hby hw own_K0_ok (own_s3_7 xa xb xc xs v3 v9 v15 ai v48 x z v169 hv169) _ ?_
  refine own_daload Hs3_5 hx hZ 3 0 rfl (by decide) rfl (g := (mkF m 175 #[.val (.int xa), .val (.int xb), .val (.int xc), .val (.int xs), .val (.int v3), .val (.int v9), .val (.int v15), .val (.int (1 : Int32)), .val (.ref ai), .val (.long v48), .second, .val (.ref x), .val (.ref z), .val (.double v169), .second, .unset] [(.int (0 : Int32)), (.ref z)])) rfl rfl (hb hby at_175) _ ?_
  refine own_go Hs3_5 hx hZ hown hby hw own_K0_ok (own_s3_8 xa xb xc xs v3 v9 v15 ai v48 x z v169 v178 hv178 v181 hv181 nn181 v182 hv182 hb183) _ ?_
  refine sts3_8 _ ?_
  refine own_go Hs3_8 hx hZ hown hby hw own_K0_ok (own_s3_9 xa xb xc xs v3 v9 v15 ai v48 x z v169) _ ?_
  refine sts3_9 _ ?_
  refine own_go Hs3_9 hx hZ hown hby hw own_K0_ok (own_s3_10 xa xb xc xs v3 v9 v15 ai v48 x z v169 z2) _ ?_
  refine own_arrlen Hs3_9 hx hZ 4 rfl (z := (1 : Int32)) rfl (g := (mkF m 248 #[.val (.int xa), .val (.int xb), .val (.int xc), .val (.int xs), .val (.int v3), .val (.int v9), .val (.int v15), .val (.int (1 : Int32)), .val (.ref ai), .val (.long v48), .second, .val (.ref x), .val (.ref z), .val (.double v169), .second, .val (.ref z2)] [(.ref z2)])) rfl rfl (hb hby at_248) _ ?_
  refine own_go Hs3_9 hx hZ hown hby hw own_K0_ok (own_s3_11 xa xb xc xs v3 v9 v15 ai v48 x z v169 z2) _ ?_
  refine own_daload Hs3_9 hx hZ 4 0 rfl (by decide) rfl (g := (mkF m 259 #[.val (.int xa), .val (.int xb), .val (.int xc), .val (.int xs), .val (.int v3), .val (.int v9), .val (.int v15), .val (.int (1 : Int32)), .val (.ref ai), .val (.long v48), .second, .val (.ref x), .val (.ref z), .val (.double v169), .second, .val (.ref z2)] [(.int (0 : Int32)), (.ref z2)])) rfl rfl (hb hby at_259) _ ?_
  refine own_go Hs3_9 hx hZ hown hby hw own_K0_ok (own_s3_12 xa xb xc xs v3 v9 v15 ai v48 x z v169 z2 v262 hv262 v265 hv265 nn265 v266 hv266 hb267) _ ?_
  exact q
theorem own_s4_0 (xa : Int32) (xb : Int32) (xc : Int32) (xs : Int32) (v3 : Int32) (hv3 : (xa &&& (1048575 : Int32)) = v3) (v9 : Int32) (hv9 : (xb &&& (1048575 : Int32)) = v9) (v15 : Int32) (hv15 : (xc &&& (1048575 : Int32)) = v15) (v21 : Int32) (hv21 : (xs &&& (2147483647 : Int32)) = v21) (v23 : Int32) (hv23 : (v21 - (v21 / (3 : Int32)) * (3 : Int32)) = v23) (hn : (v23 + (1 : Int32)) = (2 : Int32)) :
    own_Go own_K0 code 0 #[.val (.int xa), .val (.int xb), .val (.int xc), .val (.int xs), .unset, .unset, .unset, .unset, .unset, .unset, .unset, .unset, .unset, .unset, .unset, .unset] [] 28 #[.val (.int xa), .val (.int xb), .val (.int xc), .val (.int xs), .val (.int v3), .val (.int v9), .val (.int v15), .val (.int (2 : Int32)), .unset, .unset, .unset, .unset, .unset, .unset, .unset, .unset] [] := by
  refine own_iloadN (pc2 := 1) at_0 rfl rfl ?_
  refine own_ldc (v := (1048575 : Int32)) (pc2 := 3) at_1 rfl (List.mem_of_getElem? (i := 0) rfl) ?_
  refine own_iand (pc2 := 4) at_3 rfl (v := v3) hv3 ?_
  refine own_istore (pc2 := 6) at_4 rfl (L' := #[.val (.int xa), .val (.int xb), .val (.int xc), .val (.int xs), .val (.int v3), .unset, .unset, .unset, .unset, .unset, .unset, .unset, .unset, .unset, .unset, .unset]) rfl ?_
  refine own_iloadN (pc2 := 7) at_6 rfl rfl ?_
  refine own_ldc (v := (1048575 : Int32)) (pc2 := 9) at_7 rfl (List.mem_of_getElem? (i := 0) rfl) ?_
  refine own_iand (pc2 := 10) at_9 rfl (v := v9) hv9 ?_
  refine own_istore (pc2 := 12) at_10 rfl (L' := #[.val (.int xa), .val (.int xb), .val (.int xc), .val (.int xs), .val (.int v3), .val (.int v9), .unset, .unset, .unset, .unset, .unset, .unset, .unset, .unset, .unset, .unset]) rfl ?_
  refine own_iloadN (pc2 := 13) at_12 rfl rfl ?_
  refine own_ldc (v := (1048575 : Int32)) (pc2 := 15) at_13 rfl (List.mem_of_getElem? (i := 0) rfl) ?_
  refine own_iand (pc2 := 16) at_15 rfl (v := v15) hv15 ?_
  refine own_istore (pc2 := 18) at_16 rfl (L' := #[.val (.int xa), .val (.int xb), .val (.int xc), .val (.int xs), .val (.int v3), .val (.int v9), .val (.int v15), .unset, .unset, .unset, .unset, .unset, .unset, .unset, .unset, .unset]) rfl ?_
  refine own_iloadN (pc2 := 19) at_18 rfl rfl ?_
  refine own_ldc (v := (2147483647 : Int32)) (pc2 := 21) at_19 rfl (List.mem_of_getElem? (i := 1) rfl) ?_
  refine own_iand (pc2 := 22) at_21 rfl (v := v21) hv21 ?_
  refine own_iconst (v := 3) (pc2 := 23) at_22 rfl rfl ?_
  refine own_irem (pc2 := 24) at_23 rfl (by decide) (v := v23) hv23 ?_
  refine own_iconst (v := 1) (pc2 := 25) at_24 rfl rfl ?_
  refine own_iadd (pc2 := 26) at_25 rfl (v := (2 : Int32)) hn ?_
  refine own_istore (pc2 := 28) at_26 rfl (L' := #[.val (.int xa), .val (.int xb), .val (.int xc), .val (.int xs), .val (.int v3), .val (.int v9), .val (.int v15), .val (.int (2 : Int32)), .unset, .unset, .unset, .unset, .unset, .unset, .unset, .unset]) rfl ?_
  exact own_refl
theorem own_s4_1 (xa : Int32) (xb : Int32) (xc : Int32) (xs : Int32) (v3 : Int32) (v9 : Int32) (v15 : Int32) :
    own_Go own_K0 code 28 #[.val (.int xa), .val (.int xb), .val (.int xc), .val (.int xs), .val (.int v3), .val (.int v9), .val (.int v15), .val (.int (2 : Int32)), .unset, .unset, .unset, .unset, .unset, .unset, .unset, .unset] [] 61 #[.val (.int xa), .val (.int xb), .val (.int xc), .val (.int xs), .val (.int v3), .val (.int v9), .val (.int v15), .val (.int (2 : Int32)), .unset, .unset, .unset, .unset, .unset, .unset, .unset, .unset] [(.int (2 : Int32))] := by
  refine own_iload (pc2 := 30) at_28 rfl rfl ?_
  refine own_iconst (v := 1) (pc2 := 31) at_30 rfl rfl ?_
  refine own_icmpYes (pc' := 54) at_31 (by decide) (by decide) (by decide) ?_
  refine own_iload (pc2 := 56) at_54 rfl rfl ?_
  refine own_iconst (v := 2) (pc2 := 57) at_56 rfl rfl ?_
  refine own_icmpNo (pc2 := 60) at_57 rfl (by decide) ?_
  refine own_iconst (v := 2) (pc2 := 61) at_60 rfl rfl ?_
  exact own_refl
theorem own_s4_2 (xa : Int32) (xb : Int32) (xc : Int32) (xs : Int32) (v3 : Int32) (v9 : Int32) (v15 : Int32) (ai : Addr) (v70 : UInt64) (hv70 : (FP.i2d v3) = v70) :
    own_Go own_K0 code 63 #[.val (.int xa), .val (.int xb), .val (.int xc), .val (.int xs), .val (.int v3), .val (.int v9), .val (.int v15), .val (.int (2 : Int32)), .unset, .unset, .unset, .unset, .unset, .unset, .unset, .unset] [(.ref ai)] 71 #[.val (.int xa), .val (.int xb), .val (.int xc), .val (.int xs), .val (.int v3), .val (.int v9), .val (.int v15), .val (.int (2 : Int32)), .val (.ref ai), .unset, .unset, .unset, .unset, .unset, .unset, .unset] [(.double v70), (.int (0 : Int32)), (.ref ai)] := by
  refine own_astore (pc2 := 65) at_63 rfl rfl (L' := #[.val (.int xa), .val (.int xb), .val (.int xc), .val (.int xs), .val (.int v3), .val (.int v9), .val (.int v15), .val (.int (2 : Int32)), .val (.ref ai), .unset, .unset, .unset, .unset, .unset, .unset, .unset]) rfl ?_
  refine own_aload (pc2 := 67) at_65 rfl rfl rfl ?_
  refine own_iconst (v := 0) (pc2 := 68) at_67 rfl rfl ?_
  refine own_iload (pc2 := 70) at_68 rfl rfl ?_
  refine own_i2d (pc2 := 71) at_70 rfl (v := v70) hv70 ?_
  exact own_refl
theorem own_s4_3 (xa : Int32) (xb : Int32) (xc : Int32) (xs : Int32) (v3 : Int32) (v9 : Int32) (v15 : Int32) (ai : Addr) (v77 : UInt64) (hv77 : (FP.i2d v9) = v77) :
    own_Go own_K0 code 72 #[.val (.int xa), .val (.int xb), .val (.int xc), .val (.int xs), .val (.int v3), .val (.int v9), .val (.int v15), .val (.int (2 : Int32)), .val (.ref ai), .unset, .unset, .unset, .unset, .unset, .unset, .unset] [] 78 #[.val (.int xa), .val (.int xb), .val (.int xc), .val (.int xs), .val (.int v3), .val (.int v9), .val (.int v15), .val (.int (2 : Int32)), .val (.ref ai), .unset, .unset, .unset, .unset, .unset, .unset, .unset] [(.double v77), (.int (1 : Int32)), (.ref ai)] := by
  refine own_aload (pc2 := 74) at_72 rfl rfl rfl ?_
  refine own_iconst (v := 1) (pc2 := 75) at_74 rfl rfl ?_
  refine own_iload (pc2 := 77) at_75 rfl rfl ?_
  refine own_i2d (pc2 := 78) at_77 rfl (v := v77) hv77 ?_
  exact own_refl
theorem own_s4_4 (xa : Int32) (xb : Int32) (xc : Int32) (xs : Int32) (v3 : Int32) (v9 : Int32) (v15 : Int32) (ai : Addr) (v81 : Int64) (hv81 : v3.toInt64 = v81) (v84 : Int64) (hv84 : v9.toInt64 = v84) (v85 : Int64) (hv85 : (v81 + v84) = v85) (v133 : Int32) (hv133 : (if v85 > (0 : Int64) then (1 : Int32) else if v85 = (0 : Int64) then 0 else -1) = v133) (hb134 : ifCond.holds .ne v133 = false) :
    own_Go own_K0 code 79 #[.val (.int xa), .val (.int xb), .val (.int xc), .val (.int xs), .val (.int v3), .val (.int v9), .val (.int v15), .val (.int (2 : Int32)), .val (.ref ai), .unset, .unset, .unset, .unset, .unset, .unset, .unset] [] 138 #[.val (.int xa), .val (.int xb), .val (.int xc), .val (.int xs), .val (.int v3), .val (.int v9), .val (.int v15), .val (.int (2 : Int32)), .val (.ref ai), .val (.long v85), .second, .unset, .unset, .unset, .unset, .unset] [(.int (1 : Int32))] := by
  refine own_iload (pc2 := 81) at_79 rfl rfl ?_
  refine own_i2l (pc2 := 82) at_81 rfl (v := v81) hv81 ?_
  refine own_iload (pc2 := 84) at_82 rfl rfl ?_
  refine own_i2l (pc2 := 85) at_84 rfl (v := v84) hv84 ?_
  refine own_ladd (pc2 := 86) at_85 rfl (v := v85) hv85 ?_
  refine own_lstore (pc2 := 88) at_86 rfl (L' := #[.val (.int xa), .val (.int xb), .val (.int xc), .val (.int xs), .val (.int v3), .val (.int v9), .val (.int v15), .val (.int (2 : Int32)), .val (.ref ai), .val (.long v85), .second, .unset, .unset, .unset, .unset, .unset]) rfl ?_
  refine own_goto (pc' := 130) at_88 (by decide) (by decide) ?_
  refine own_lload (pc2 := 132) at_130 rfl rfl ?_
  refine own_lconst (v := 0) (pc2 := 133) at_132 rfl rfl ?_
  refine own_lcmp (pc2 := 134) at_133 rfl (v := v133) hv133 ?_
  refine own_ifNo (pc2 := 137) at_134 rfl hb134 ?_
  refine own_iconst (v := 1) (pc2 := 138) at_137 rfl rfl ?_
  exact own_refl
set_option maxRecDepth 65536 in
set_option maxHeartbeats 40000000 in
theorem own_law4 (l : Launch) (Z : State) (a0 : Array Value) (hb0 : Heap) (hw : ∀ d ∈ tables_1, d.before a0 Z = true) (xa : Int32) (xb : Int32) (xc : Int32) (xs : Int32) (hsel : ((xs &&& (2147483647 : Int32)) - ((xs &&& (2147483647 : Int32)) / (3 : Int32)) * (3 : Int32)) + (1 : Int32) = (2 : Int32)) (hz : (xa &&& 1048575).toInt + (xb &&& 1048575).toInt = 0) :
    own_Met l Z a0 hb0 x code maxLocals ret tables_1 room_1 #[(.int xa), (.int xb), (.int xc), (.int xs)] [] (fun v _ => v = some (.int 1)) := by
  refine own_met_of (L0 := #[.val (.int xa), .val (.int xb), .val (.int xc), .val (.int xs), .unset, .unset, .unset, .unset, .unset, .unset, .unset, .unset, .unset, .unset, .unset, .unset]) (plainFor_of_name own_pn0) (fun m => own_ef0 m xa xb xc xs) ?_
  intro p e s m below meth c T0 hx hZ hown hby hml hnm H0
  have hown : s.vm.findClass "com/example/tangentia/tangentia/flash/FeedMoleFractionsPinLaw" = some m.cls := hown
  have hml : c.maxLocals = 16 := hml
  obtain ⟨v3, hv3⟩ : ∃ z : Int32, (xa &&& (1048575 : Int32)) = z := ⟨_, rfl⟩
  obtain ⟨v9, hv9⟩ : ∃ z : Int32, (xb &&& (1048575 : Int32)) = z := ⟨_, rfl⟩
  obtain ⟨v15, hv15⟩ : ∃ z : Int32, (xc &&& (1048575 : Int32)) = z := ⟨_, rfl⟩
  obtain ⟨v21, hv21⟩ : ∃ z : Int32, (xs &&& (2147483647 : Int32)) = z := ⟨_, rfl⟩
  obtain ⟨v23, hv23⟩ : ∃ z : Int32, (v21 - (v21 / (3 : Int32)) * (3 : Int32)) = z := ⟨_, rfl⟩
  obtain ⟨Ts4_1, ai, Hs4_1, sts4_1⟩ := own_newA H0 hx hZ (hw _ (List.mem_of_getElem? (i := 2) rfl)) (g := (mkF m 61 #[.val (.int xa), .val (.int xb), .val (.int xc), .val (.int xs), .val (.int v3), .val (.int v9), .val (.int v15), .val (.int (2 : Int32)), .unset, .unset, .unset, .unset, .unset, .unset, .unset, .unset] [(.int (2 : Int32))])) rfl (hb hby at_61) rfl (by decide) (cap := 2) (by decide) (by decide) (by decide) (by decide)
  change own_S _ _ _ _ _ _ _ _ _ _ _ _ _ _ [(ai, own_A .double [.double 0, .double 0])] _ _ at Hs4_1
  obtain ⟨v70, hv70⟩ : ∃ z : UInt64, (FP.i2d v3) = z := ⟨_, rfl⟩
  obtain ⟨Ts4_2, Hs4_2, sts4_2⟩ := own_dastore Hs4_1 hx hZ 0 0 rfl (by decide) (Nat.le_of_ble_eq_true rfl) (g := (mkF m 71 #[.val (.int xa), .val (.int xb), .val (.int xc), .val (.int xs), .val (.int v3), .val (.int v9), .val (.int v15), .val (.int (2 : Int32)), .val (.ref ai), .unset, .unset, .unset, .unset, .unset, .unset, .unset] [(.double v70), (.int (0 : Int32)), (.ref ai)])) rfl rfl (hb hby at_71)
  change own_S _ _ _ _ _ _ _ _ _ _ _ _ _ _ [(ai, own_A .double [.double v70, .double 0])] _ _ at Hs4_2
  obtain ⟨v77, hv77⟩ : ∃ z : UInt64, (FP.i2d v9) = z := ⟨_, rfl⟩
  obtain ⟨Ts4_3, Hs4_3, sts4_3⟩ := own_dastore Hs4_2 hx hZ 0 1 rfl (by decide) (Nat.le_of_ble_eq_true rfl) (g := (mkF m 78 #[.val (.int xa), .val (.int xb), .val (.int xc), .val (.int xs), .val (.int v3), .val (.int v9), .val (.int v15), .val (.int (2 : Int32)), .val (.ref ai), .unset, .unset, .unset, .unset, .unset, .unset, .unset] [(.double v77), (.int (1 : Int32)), (.ref ai)])) rfl rfl (hb hby at_78)
  change own_S _ _ _ _ _ _ _ _ _ _ _ _ _ _ [(ai, own_A .double [.double v70, .double v77])] _ _ at Hs4_3
  obtain ⟨v81, hv81⟩ : ∃ z : Int64, v3.toInt64 = z := ⟨_, rfl⟩
  obtain ⟨v84, hv84⟩ : ∃ z : Int64, v9.toInt64 = z := ⟨_, rfl⟩
  obtain ⟨v85, hv85⟩ : ∃ z : Int64, (v81 + v84) = z := ⟨_, rfl⟩
  obtain ⟨v133, hv133⟩ : ∃ z : Int32, (if v85 > (0 : Int64) then (1 : Int32) else if v85 = (0 : Int64) then 0 else -1) = z := ⟨_, rfl⟩
  have hn : v23 + (1 : Int32) = (2 : Int32) := by rw [← hv23, ← hv21]; exact hsel
  have b0 := own_bd xa
  have b1 := own_bd xb
  have e81 : v81.toInt = (xa &&& 1048575).toInt := by rw [← hv81, ← hv3]; exact c_i2l _
  have e84 : v84.toInt = (xb &&& 1048575).toInt := by rw [← hv84, ← hv9]; exact c_i2l _
  have e85 : v85.toInt = (xa &&& 1048575).toInt + (xb &&& 1048575).toInt := by
    have q := c_ladd v81 v84
    have := rng64 v85
    rw [hv85, e81, e84] at q
    omega
  have hb134 : ifCond.holds .ne v133 = false := by
    rw [← hv133, own_lc_ne, show (0 : Int64).toInt = 0 from rfl, e85]
    exact decide_eq_false (not_not_intro hz)
  refine ⟨_, _, _, _, 138, #[.val (.int xa), .val (.int xb), .val (.int xc), .val (.int xs), .val (.int v3), .val (.int v9), .val (.int v15), .val (.int (2 : Int32)), .val (.ref ai), .val (.long v85), .second, .unset, .unset, .unset, .unset, .unset], Hs4_3, by decide, by decide, Or.inr ⟨.boolean, (.int (1 : Int32)), [], .ireturn, rfl, rfl, at_138, own_retZ (Or.inr rfl), fun target q => ?_⟩⟩
  refine own_go H0 hx hZ hown hby hw own_K0_ok (own_s4_0 xa xb xc xs v3 hv3 v9 hv9 v15 hv15 v21 hv21 v23 hv23 hn) _ ?_
  refine own_go H0 hx hZ hown hby hw own_K0_ok (own_s4_1 xa xb xc xs v3 v9 v15) _ ?_
  refine sts4_1 _ ?_
  refine own_go Hs4_1 hx hZ hown hby hw own_K0_ok (own_s4_2 xa xb xc xs v3 v9 v15 ai v70 hv70) _ ?_
  refine sts4_2 _ ?_
  refine own_go Hs4_2 hx hZ hown hby hw own_K0_ok (own_s4_3 xa xb xc xs v3 v9 v15 ai v77 hv77) _ ?_
  refine sts4_3 _ ?_
  refine own_go Hs4_3 hx hZ hown hby hw own_K0_ok (own_s4_4 xa xb xc xs v3 v9 v15 ai v81 hv81 v84 hv84 v85 hv85 v133 hv133 hb134) _ ?_
  exact q
theorem own_s5_0 (xa : Int32) (xb : Int32) (xc : Int32) (xs : Int32) (v3 : Int32) (hv3 : (xa &&& (1048575 : Int32)) = v3) (v9 : Int32) (hv9 : (xb &&& (1048575 : Int32)) = v9) (v15 : Int32) (hv15 : (xc &&& (1048575 : Int32)) = v15) (v21 : Int32) (hv21 : (xs &&& (2147483647 : Int32)) = v21) (v23 : Int32) (hv23 : (v21 - (v21 / (3 : Int32)) * (3 : Int32)) = v23) (hn : (v23 + (1 : Int32)) = (2 : Int32)) :
    own_Go own_K0 code 0 #[.val (.int xa), .val (.int xb), .val (.int xc), .val (.int xs), .unset, .unset, .unset, .unset, .unset, .unset, .unset, .unset, .unset, .unset, .unset, .unset] [] 28 #[.val (.int xa), .val (.int xb), .val (.int xc), .val (.int xs), .val (.int v3), .val (.int v9), .val (.int v15), .val (.int (2 : Int32)), .unset, .unset, .unset, .unset, .unset, .unset, .unset, .unset] [] := by
  refine own_iloadN (pc2 := 1) at_0 rfl rfl ?_
  refine own_ldc (v := (1048575 : Int32)) (pc2 := 3) at_1 rfl (List.mem_of_getElem? (i := 0) rfl) ?_
  refine own_iand (pc2 := 4) at_3 rfl (v := v3) hv3 ?_
  refine own_istore (pc2 := 6) at_4 rfl (L' := #[.val (.int xa), .val (.int xb), .val (.int xc), .val (.int xs), .val (.int v3), .unset, .unset, .unset, .unset, .unset, .unset, .unset, .unset, .unset, .unset, .unset]) rfl ?_
  refine own_iloadN (pc2 := 7) at_6 rfl rfl ?_
  refine own_ldc (v := (1048575 : Int32)) (pc2 := 9) at_7 rfl (List.mem_of_getElem? (i := 0) rfl) ?_
  refine own_iand (pc2 := 10) at_9 rfl (v := v9) hv9 ?_
  refine own_istore (pc2 := 12) at_10 rfl (L' := #[.val (.int xa), .val (.int xb), .val (.int xc), .val (.int xs), .val (.int v3), .val (.int v9), .unset, .unset, .unset, .unset, .unset, .unset, .unset, .unset, .unset, .unset]) rfl ?_
  refine own_iloadN (pc2 := 13) at_12 rfl rfl ?_
  refine own_ldc (v := (1048575 : Int32)) (pc2 := 15) at_13 rfl (List.mem_of_getElem? (i := 0) rfl) ?_
  refine own_iand (pc2 := 16) at_15 rfl (v := v15) hv15 ?_
  refine own_istore (pc2 := 18) at_16 rfl (L' := #[.val (.int xa), .val (.int xb), .val (.int xc), .val (.int xs), .val (.int v3), .val (.int v9), .val (.int v15), .unset, .unset, .unset, .unset, .unset, .unset, .unset, .unset, .unset]) rfl ?_
  refine own_iloadN (pc2 := 19) at_18 rfl rfl ?_
  refine own_ldc (v := (2147483647 : Int32)) (pc2 := 21) at_19 rfl (List.mem_of_getElem? (i := 1) rfl) ?_
  refine own_iand (pc2 := 22) at_21 rfl (v := v21) hv21 ?_
  refine own_iconst (v := 3) (pc2 := 23) at_22 rfl rfl ?_
  refine own_irem (pc2 := 24) at_23 rfl (by decide) (v := v23) hv23 ?_
  refine own_iconst (v := 1) (pc2 := 25) at_24 rfl rfl ?_
  refine own_iadd (pc2 := 26) at_25 rfl (v := (2 : Int32)) hn ?_
  refine own_istore (pc2 := 28) at_26 rfl (L' := #[.val (.int xa), .val (.int xb), .val (.int xc), .val (.int xs), .val (.int v3), .val (.int v9), .val (.int v15), .val (.int (2 : Int32)), .unset, .unset, .unset, .unset, .unset, .unset, .unset, .unset]) rfl ?_
  exact own_refl
theorem own_s5_1 (xa : Int32) (xb : Int32) (xc : Int32) (xs : Int32) (v3 : Int32) (v9 : Int32) (v15 : Int32) :
    own_Go own_K0 code 28 #[.val (.int xa), .val (.int xb), .val (.int xc), .val (.int xs), .val (.int v3), .val (.int v9), .val (.int v15), .val (.int (2 : Int32)), .unset, .unset, .unset, .unset, .unset, .unset, .unset, .unset] [] 61 #[.val (.int xa), .val (.int xb), .val (.int xc), .val (.int xs), .val (.int v3), .val (.int v9), .val (.int v15), .val (.int (2 : Int32)), .unset, .unset, .unset, .unset, .unset, .unset, .unset, .unset] [(.int (2 : Int32))] := by
  refine own_iload (pc2 := 30) at_28 rfl rfl ?_
  refine own_iconst (v := 1) (pc2 := 31) at_30 rfl rfl ?_
  refine own_icmpYes (pc' := 54) at_31 (by decide) (by decide) (by decide) ?_
  refine own_iload (pc2 := 56) at_54 rfl rfl ?_
  refine own_iconst (v := 2) (pc2 := 57) at_56 rfl rfl ?_
  refine own_icmpNo (pc2 := 60) at_57 rfl (by decide) ?_
  refine own_iconst (v := 2) (pc2 := 61) at_60 rfl rfl ?_
  exact own_refl
theorem own_s5_2 (xa : Int32) (xb : Int32) (xc : Int32) (xs : Int32) (v3 : Int32) (v9 : Int32) (v15 : Int32) (ai : Addr) (v70 : UInt64) (hv70 : (FP.i2d v3) = v70) :
    own_Go own_K0 code 63 #[.val (.int xa), .val (.int xb), .val (.int xc), .val (.int xs), .val (.int v3), .val (.int v9), .val (.int v15), .val (.int (2 : Int32)), .unset, .unset, .unset, .unset, .unset, .unset, .unset, .unset] [(.ref ai)] 71 #[.val (.int xa), .val (.int xb), .val (.int xc), .val (.int xs), .val (.int v3), .val (.int v9), .val (.int v15), .val (.int (2 : Int32)), .val (.ref ai), .unset, .unset, .unset, .unset, .unset, .unset, .unset] [(.double v70), (.int (0 : Int32)), (.ref ai)] := by
  refine own_astore (pc2 := 65) at_63 rfl rfl (L' := #[.val (.int xa), .val (.int xb), .val (.int xc), .val (.int xs), .val (.int v3), .val (.int v9), .val (.int v15), .val (.int (2 : Int32)), .val (.ref ai), .unset, .unset, .unset, .unset, .unset, .unset, .unset]) rfl ?_
  refine own_aload (pc2 := 67) at_65 rfl rfl rfl ?_
  refine own_iconst (v := 0) (pc2 := 68) at_67 rfl rfl ?_
  refine own_iload (pc2 := 70) at_68 rfl rfl ?_
  refine own_i2d (pc2 := 71) at_70 rfl (v := v70) hv70 ?_
  exact own_refl
theorem own_s5_3 (xa : Int32) (xb : Int32) (xc : Int32) (xs : Int32) (v3 : Int32) (v9 : Int32) (v15 : Int32) (ai : Addr) (v77 : UInt64) (hv77 : (FP.i2d v9) = v77) :
    own_Go own_K0 code 72 #[.val (.int xa), .val (.int xb), .val (.int xc), .val (.int xs), .val (.int v3), .val (.int v9), .val (.int v15), .val (.int (2 : Int32)), .val (.ref ai), .unset, .unset, .unset, .unset, .unset, .unset, .unset] [] 78 #[.val (.int xa), .val (.int xb), .val (.int xc), .val (.int xs), .val (.int v3), .val (.int v9), .val (.int v15), .val (.int (2 : Int32)), .val (.ref ai), .unset, .unset, .unset, .unset, .unset, .unset, .unset] [(.double v77), (.int (1 : Int32)), (.ref ai)] := by
  refine own_aload (pc2 := 74) at_72 rfl rfl rfl ?_
  refine own_iconst (v := 1) (pc2 := 75) at_74 rfl rfl ?_
  refine own_iload (pc2 := 77) at_75 rfl rfl ?_
  refine own_i2d (pc2 := 78) at_77 rfl (v := v77) hv77 ?_
  exact own_refl
theorem own_s5_4 (xa : Int32) (xb : Int32) (xc : Int32) (xs : Int32) (v3 : Int32) (v9 : Int32) (v15 : Int32) (ai : Addr) (v81 : Int64) (hv81 : v3.toInt64 = v81) (v84 : Int64) (hv84 : v9.toInt64 = v84) (v85 : Int64) (hv85 : (v81 + v84) = v85) (v133 : Int32) (hv133 : (if v85 > (0 : Int64) then (1 : Int32) else if v85 = (0 : Int64) then 0 else -1) = v133) (hb134 : ifCond.holds .ne v133 = true) :
    own_Go own_K0 code 79 #[.val (.int xa), .val (.int xb), .val (.int xc), .val (.int xs), .val (.int v3), .val (.int v9), .val (.int v15), .val (.int (2 : Int32)), .val (.ref ai), .unset, .unset, .unset, .unset, .unset, .unset, .unset] [] 139 #[.val (.int xa), .val (.int xb), .val (.int xc), .val (.int xs), .val (.int v3), .val (.int v9), .val (.int v15), .val (.int (2 : Int32)), .val (.ref ai), .val (.long v85), .second, .unset, .unset, .unset, .unset, .unset] [] := by
  refine own_iload (pc2 := 81) at_79 rfl rfl ?_
  refine own_i2l (pc2 := 82) at_81 rfl (v := v81) hv81 ?_
  refine own_iload (pc2 := 84) at_82 rfl rfl ?_
  refine own_i2l (pc2 := 85) at_84 rfl (v := v84) hv84 ?_
  refine own_ladd (pc2 := 86) at_85 rfl (v := v85) hv85 ?_
  refine own_lstore (pc2 := 88) at_86 rfl (L' := #[.val (.int xa), .val (.int xb), .val (.int xc), .val (.int xs), .val (.int v3), .val (.int v9), .val (.int v15), .val (.int (2 : Int32)), .val (.ref ai), .val (.long v85), .second, .unset, .unset, .unset, .unset, .unset]) rfl ?_
  refine own_goto (pc' := 130) at_88 (by decide) (by decide) ?_
  refine own_lload (pc2 := 132) at_130 rfl rfl ?_
  refine own_lconst (v := 0) (pc2 := 133) at_132 rfl rfl ?_
  refine own_lcmp (pc2 := 134) at_133 rfl (v := v133) hv133 ?_
  refine own_ifYes (pc' := 139) at_134 hb134 (by decide) (by decide) ?_
  exact own_refl
theorem own_s5_5 (xa : Int32) (xb : Int32) (xc : Int32) (xs : Int32) (v3 : Int32) (v9 : Int32) (v15 : Int32) (ai : Addr) (v85 : Int64) (x : Addr) :
    own_Go own_K0 code 142 #[.val (.int xa), .val (.int xb), .val (.int xc), .val (.int xs), .val (.int v3), .val (.int v9), .val (.int v15), .val (.int (2 : Int32)), .val (.ref ai), .val (.long v85), .second, .unset, .unset, .unset, .unset, .unset] [(.ref x)] 145 #[.val (.int xa), .val (.int xb), .val (.int xc), .val (.int xs), .val (.int v3), .val (.int v9), .val (.int v15), .val (.int (2 : Int32)), .val (.ref ai), .val (.long v85), .second, .unset, .unset, .unset, .unset, .unset] [(.ref ai), (.ref x), (.ref x)] := by
  refine own_dup (pc2 := 143) at_142 rfl rfl ?_
  refine own_aload (pc2 := 145) at_143 rfl rfl rfl ?_
  exact own_refl
theorem own_s5_6 (xa : Int32) (xb : Int32) (xc : Int32) (xs : Int32) (v3 : Int32) (v9 : Int32) (v15 : Int32) (ai : Addr) (v85 : Int64) (x : Addr) :
    own_Go own_K0 code 148 #[.val (.int xa), .val (.int xb), .val (.int xc), .val (.int xs), .val (.int v3), .val (.int v9), .val (.int v15), .val (.int (2 : Int32)), .val (.ref ai), .val (.long v85), .second, .unset, .unset, .unset, .unset, .unset] [(.ref x)] 152 #[.val (.int xa), .val (.int xb), .val (.int xc), .val (.int xs), .val (.int v3), .val (.int v9), .val (.int v15), .val (.int (2 : Int32)), .val (.ref ai), .val (.long v85), .second, .val (.ref x), .unset, .unset, .unset, .unset] [(.ref x)] := by
  refine own_astore (pc2 := 150) at_148 rfl rfl (L' := #[.val (.int xa), .val (.int xb), .val (.int xc), .val (.int xs), .val (.int v3), .val (.int v9), .val (.int v15), .val (.int (2 : Int32)), .val (.ref ai), .val (.long v85), .second, .val (.ref x), .unset, .unset, .unset, .unset]) rfl ?_
  refine own_aload (pc2 := 152) at_150 rfl rfl rfl ?_
  exact own_refl
theorem own_s5_7 (xa : Int32) (xb : Int32) (xc : Int32) (xs : Int32) (v3 : Int32) (v9 : Int32) (v15 : Int32) (ai : Addr) (v85 : Int64) (x : Addr) (z : Addr) :
    own_Go own_K0 code 155 #[.val (.int xa), .val (.int xb), .val (.int xc), .val (.int xs), .val (.int v3), .val (.int v9), .val (.int v15), .val (.int (2 : Int32)), .val (.ref ai), .val (.long v85), .second, .val (.ref x), .unset, .unset, .unset, .unset] [(.ref z)] 159 #[.val (.int xa), .val (.int xb), .val (.int xc), .val (.int xs), .val (.int v3), .val (.int v9), .val (.int v15), .val (.int (2 : Int32)), .val (.ref ai), .val (.long v85), .second, .val (.ref x), .val (.ref z), .unset, .unset, .unset] [(.ref z)] := by
  refine own_astore (pc2 := 157) at_155 rfl rfl (L' := #[.val (.int xa), .val (.int xb), .val (.int xc), .val (.int xs), .val (.int v3), .val (.int v9), .val (.int v15), .val (.int (2 : Int32)), .val (.ref ai), .val (.long v85), .second, .val (.ref x), .val (.ref z), .unset, .unset, .unset]) rfl ?_
  refine own_aload (pc2 := 159) at_157 rfl rfl rfl ?_
  exact own_refl
theorem own_s5_8 (xa : Int32) (xb : Int32) (xc : Int32) (xs : Int32) (v3 : Int32) (v9 : Int32) (v15 : Int32) (ai : Addr) (v85 : Int64) (x : Addr) (z : Addr) (v169 : UInt64) (hv169 : (FP.l2d v85) = v169) :
    own_Go own_K0 code 160 #[.val (.int xa), .val (.int xb), .val (.int xc), .val (.int xs), .val (.int v3), .val (.int v9), .val (.int v15), .val (.int (2 : Int32)), .val (.ref ai), .val (.long v85), .second, .val (.ref x), .val (.ref z), .unset, .unset, .unset] [(.int (2 : Int32))] 175 #[.val (.int xa), .val (.int xb), .val (.int xc), .val (.int xs), .val (.int v3), .val (.int v9), .val (.int v15), .val (.int (2 : Int32)), .val (.ref ai), .val (.long v85), .second, .val (.ref x), .val (.ref z), .val (.double v169), .second, .unset] [(.int (0 : Int32)), (.ref z)] := by
  refine own_iload (pc2 := 162) at_160 rfl rfl ?_
  refine own_icmpYes (pc' := 167) at_162 (by decide) (by decide) (by decide) ?_
  refine own_lload (pc2 := 169) at_167 rfl rfl ?_
  refine own_l2d (pc2 := 170) at_169 rfl (v := v169) hv169 ?_
  refine own_dstore (pc2 := 172) at_170 rfl (L' := #[.val (.int xa), .val (.int xb), .val (.int xc), .val (.int xs), .val (.int v3), .val (.int v9), .val (.int v15), .val (.int (2 : Int32)), .val (.ref ai), .val (.long v85), .second, .val (.ref x), .val (.ref z), .val (.double v169), .second, .unset]) rfl ?_
  refine own_aload (pc2 := 174) at_172 rfl rfl rfl ?_
  refine own_iconst (v := 0) (pc2 := 175) at_174 rfl rfl ?_
  exact own_refl
theorem own_s5_9 (xa : Int32) (xb : Int32) (xc : Int32) (xs : Int32) (v3 : Int32) (v9 : Int32) (v15 : Int32) (ai : Addr) (v85 : Int64) (x : Addr) (z : Addr) (v169 : UInt64) (v178 : UInt64) (hv178 : (FP.i2d v3) = v178) (v181 : UInt64) (hv181 : (FP.ddiv v178 v169) = v181) (nn181 : NoNaN64 (FP.ddiv v178 v169)) (v182 : Int32) (hv182 : (cmpValue (FP.dcmp (FP.ddiv v70 tt) v181) .l) = v182) (hb183 : ifCond.holds .eq v182 = true) :
    own_Go own_K0 code 176 #[.val (.int xa), .val (.int xb), .val (.int xc), .val (.int xs), .val (.int v3), .val (.int v9), .val (.int v15), .val (.int (2 : Int32)), .val (.ref ai), .val (.long v85), .second, .val (.ref x), .val (.ref z), .val (.double v169), .second, .unset] [(.double (FP.ddiv v70 tt))] 197 #[.val (.int xa), .val (.int xb), .val (.int xc), .val (.int xs), .val (.int v3), .val (.int v9), .val (.int v15), .val (.int (2 : Int32)), .val (.ref ai), .val (.long v85), .second, .val (.ref x), .val (.ref z), .val (.double v169), .second, .unset] [(.int (1 : Int32)), (.ref z)] := by
  refine own_iload (pc2 := 178) at_176 rfl rfl ?_
  refine own_i2d (pc2 := 179) at_178 rfl (v := v178) hv178 ?_
  refine own_dload (pc2 := 181) at_179 rfl rfl ?_
  refine own_ddiv (pc2 := 182) at_181 rfl nn181 (v := v181) hv181 ?_
  refine own_dcmp (pc2 := 183) at_182 rfl (v := v182) hv182 ?_
  refine own_ifYes (pc' := 188) at_183 hb183 (by decide) (by decide) ?_
  refine own_iload (pc2 := 190) at_188 rfl rfl ?_
  refine own_iconst (v := 2) (pc2 := 191) at_190 rfl rfl ?_
  refine own_icmpNo (pc2 := 194) at_191 rfl (by decide) ?_
  refine own_aload (pc2 := 196) at_194 rfl rfl rfl ?_
  refine own_iconst (v := 1) (pc2 := 197) at_196 rfl rfl ?_
  exact own_refl
theorem own_s5_10 (xa : Int32) (xb : Int32) (xc : Int32) (xs : Int32) (v3 : Int32) (v9 : Int32) (v15 : Int32) (ai : Addr) (v85 : Int64) (x : Addr) (z : Addr) (v169 : UInt64) (v200 : UInt64) (hv200 : (FP.i2d v9) = v200) (v203 : UInt64) (hv203 : (FP.ddiv v200 v169) = v203) (nn203 : NoNaN64 (FP.ddiv v200 v169)) (v204 : Int32) (hv204 : (cmpValue (FP.dcmp (FP.ddiv v77 tt) v203) .l) = v204) (hb205 : ifCond.holds .eq v204 = true) :
    own_Go own_K0 code 198 #[.val (.int xa), .val (.int xb), .val (.int xc), .val (.int xs), .val (.int v3), .val (.int v9), .val (.int v15), .val (.int (2 : Int32)), .val (.ref ai), .val (.long v85), .second, .val (.ref x), .val (.ref z), .val (.double v169), .second, .unset] [(.double (FP.ddiv v77 tt))] 238 #[.val (.int xa), .val (.int xb), .val (.int xc), .val (.int xs), .val (.int v3), .val (.int v9), .val (.int v15), .val (.int (2 : Int32)), .val (.ref ai), .val (.long v85), .second, .val (.ref x), .val (.ref z), .val (.double v169), .second, .unset] [(.double (13830554455654793216 : UInt64)), (.int (0 : Int32)), (.ref z)] := by
  refine own_iload (pc2 := 200) at_198 rfl rfl ?_
  refine own_i2d (pc2 := 201) at_200 rfl (v := v200) hv200 ?_
  refine own_dload (pc2 := 203) at_201 rfl rfl ?_
  refine own_ddiv (pc2 := 204) at_203 rfl nn203 (v := v203) hv203 ?_
  refine own_dcmp (pc2 := 205) at_204 rfl (v := v204) hv204 ?_
  refine own_ifYes (pc' := 210) at_205 hb205 (by decide) (by decide) ?_
  refine own_iload (pc2 := 212) at_210 rfl rfl ?_
  refine own_iconst (v := 3) (pc2 := 213) at_212 rfl rfl ?_
  refine own_icmpYes (pc' := 232) at_213 (by decide) (by decide) (by decide) ?_
  refine own_aload (pc2 := 234) at_232 rfl rfl rfl ?_
  refine own_iconst (v := 0) (pc2 := 235) at_234 rfl rfl ?_
  refine own_ldc2D (v := (13830554455654793216 : UInt64)) (pc2 := 238) at_235 rfl (List.mem_of_getElem? (i := 2) rfl) ?_
  exact own_refl
theorem own_s5_11 (xa : Int32) (xb : Int32) (xc : Int32) (xs : Int32) (v3 : Int32) (v9 : Int32) (v15 : Int32) (ai : Addr) (v85 : Int64) (x : Addr) (z : Addr) (v169 : UInt64) :
    own_Go own_K0 code 239 #[.val (.int xa), .val (.int xb), .val (.int xc), .val (.int xs), .val (.int v3), .val (.int v9), .val (.int v15), .val (.int (2 : Int32)), .val (.ref ai), .val (.long v85), .second, .val (.ref x), .val (.ref z), .val (.double v169), .second, .unset] [] 241 #[.val (.int xa), .val (.int xb), .val (.int xc), .val (.int xs), .val (.int v3), .val (.int v9), .val (.int v15), .val (.int (2 : Int32)), .val (.ref ai), .val (.long v85), .second, .val (.ref x), .val (.ref z), .val (.double v169), .second, .unset] [(.ref x)] := by
  refine own_aload (pc2 := 241) at_239 rfl rfl rfl ?_
  exact own_refl
theorem own_s5_12 (xa : Int32) (xb : Int32) (xc : Int32) (xs : Int32) (v3 : Int32) (v9 : Int32) (v15 : Int32) (ai : Addr) (v85 : Int64) (x : Addr) (z : Addr) (v169 : UInt64) (z2 : Addr) :
    own_Go own_K0 code 244 #[.val (.int xa), .val (.int xb), .val (.int xc), .val (.int xs), .val (.int v3), .val (.int v9), .val (.int v15), .val (.int (2 : Int32)), .val (.ref ai), .val (.long v85), .second, .val (.ref x), .val (.ref z), .val (.double v169), .second, .unset] [(.ref z2)] 248 #[.val (.int xa), .val (.int xb), .val (.int xc), .val (.int xs), .val (.int v3), .val (.int v9), .val (.int v15), .val (.int (2 : Int32)), .val (.ref ai), .val (.long v85), .second, .val (.ref x), .val (.ref z), .val (.double v169), .second, .val (.ref z2)] [(.ref z2)] := by
  refine own_astore (pc2 := 246) at_244 rfl rfl (L' := #[.val (.int xa), .val (.int xb), .val (.int xc), .val (.int xs), .val (.int v3), .val (.int v9), .val (.int v15), .val (.int (2 : Int32)), .val (.ref ai), .val (.long v85), .second, .val (.ref x), .val (.ref z), .val (.double v169), .second, .val (.ref z2)]) rfl ?_
  refine own_aload (pc2 := 248) at_246 rfl rfl rfl ?_
  exact own_refl
theorem own_s5_13 (xa : Int32) (xb : Int32) (xc : Int32) (xs : Int32) (v3 : Int32) (v9 : Int32) (v15 : Int32) (ai : Addr) (v85 : Int64) (x : Addr) (z : Addr) (v169 : UInt64) (z2 : Addr) :
    own_Go own_K0 code 249 #[.val (.int xa), .val (.int xb), .val (.int xc), .val (.int xs), .val (.int v3), .val (.int v9), .val (.int v15), .val (.int (2 : Int32)), .val (.ref ai), .val (.long v85), .second, .val (.ref x), .val (.ref z), .val (.double v169), .second, .val (.ref z2)] [(.int (2 : Int32))] 259 #[.val (.int xa), .val (.int xb), .val (.int xc), .val (.int xs), .val (.int v3), .val (.int v9), .val (.int v15), .val (.int (2 : Int32)), .val (.ref ai), .val (.long v85), .second, .val (.ref x), .val (.ref z), .val (.double v169), .second, .val (.ref z2)] [(.int (0 : Int32)), (.ref z2)] := by
  refine own_iload (pc2 := 251) at_249 rfl rfl ?_
  refine own_icmpYes (pc' := 256) at_251 (by decide) (by decide) (by decide) ?_
  refine own_aload (pc2 := 258) at_256 rfl rfl rfl ?_
  refine own_iconst (v := 0) (pc2 := 259) at_258 rfl rfl ?_
  exact own_refl
theorem own_s5_14 (xa : Int32) (xb : Int32) (xc : Int32) (xs : Int32) (v3 : Int32) (v9 : Int32) (v15 : Int32) (ai : Addr) (v85 : Int64) (x : Addr) (z : Addr) (v169 : UInt64) (z2 : Addr) (v262 : UInt64) (hv262 : (FP.i2d v3) = v262) (v265 : UInt64) (hv265 : (FP.ddiv v262 v169) = v265) (nn265 : NoNaN64 (FP.ddiv v262 v169)) (v266 : Int32) (hv266 : (cmpValue (FP.dcmp (FP.ddiv v70 tt) v265) .l) = v266) (hb267 : ifCond.holds .ne v266 = false) :
    own_Go own_K0 code 260 #[.val (.int xa), .val (.int xb), .val (.int xc), .val (.int xs), .val (.int v3), .val (.int v9), .val (.int v15), .val (.int (2 : Int32)), .val (.ref ai), .val (.long v85), .second, .val (.ref x), .val (.ref z), .val (.double v169), .second, .val (.ref z2)] [(.double (FP.ddiv v70 tt))] 275 #[.val (.int xa), .val (.int xb), .val (.int xc), .val (.int xs), .val (.int v3), .val (.int v9), .val (.int v15), .val (.int (2 : Int32)), .val (.ref ai), .val (.long v85), .second, .val (.ref x), .val (.ref z), .val (.double v169), .second, .val (.ref z2)] [(.int (1 : Int32))] := by
  refine own_iload (pc2 := 262) at_260 rfl rfl ?_
  refine own_i2d (pc2 := 263) at_262 rfl (v := v262) hv262 ?_
  refine own_dload (pc2 := 265) at_263 rfl rfl ?_
  refine own_ddiv (pc2 := 266) at_265 rfl nn265 (v := v265) hv265 ?_
  refine own_dcmp (pc2 := 267) at_266 rfl (v := v266) hv266 ?_
  refine own_ifNo (pc2 := 270) at_267 rfl hb267 ?_
  refine own_iconst (v := 1) (pc2 := 271) at_270 rfl rfl ?_
  refine own_goto (pc' := 275) at_271 (by decide) (by decide) ?_
  exact own_refl
set_option maxRecDepth 65536 in
set_option maxHeartbeats 40000000 in
theorem own_law5 (l : Launch) (Z : State) (a0 : Array Value) (hb0 : Heap) (hw : ∀ d ∈ tables_1, d.before a0 Z = true) (xa : Int32) (xb : Int32) (xc : Int32) (xs : Int32) (hsel : ((xs &&& (2147483647 : Int32)) - ((xs &&& (2147483647 : Int32)) / (3 : Int32)) * (3 : Int32)) + (1 : Int32) = (2 : Int32)) (hz : (xa &&& 1048575).toInt + (xb &&& 1048575).toInt ≠ 0) :
    own_Met l Z a0 hb0 x code maxLocals ret tables_1 room_1 #[(.int xa), (.int xb), (.int xc), (.int xs)] [] (fun v _ => v = some (.int 1)) := by
  refine own_met_of (L0 := #[.val (.int xa), .val (.int xb), .val (.int xc), .val (.int xs), .unset, .unset, .unset, .unset, .unset, .unset, .unset, .unset, .unset, .unset, .unset, .unset]) (plainFor_of_name own_pn0) (fun m => own_ef0 m xa xb xc xs) ?_
  intro p e s m below meth c T0 hx hZ hown hby hml hnm H0
  have hown : s.vm.findClass "com/example/tangentia/tangentia/flash/FeedMoleFractionsPinLaw" = some m.cls := hown
  have hml : c.maxLocals = 16 := hml
  obtain ⟨v3, hv3⟩ : ∃ z : Int32, (xa &&& (1048575 : Int32)) = z := ⟨_, rfl⟩
  obtain ⟨v9, hv9⟩ : ∃ z : Int32, (xb &&& (1048575 : Int32)) = z := ⟨_, rfl⟩
  obtain ⟨v15, hv15⟩ : ∃ z : Int32, (xc &&& (1048575 : Int32)) = z := ⟨_, rfl⟩
  obtain ⟨v21, hv21⟩ : ∃ z : Int32, (xs &&& (2147483647 : Int32)) = z := ⟨_, rfl⟩
  obtain ⟨v23, hv23⟩ : ∃ z : Int32, (v21 - (v21 / (3 : Int32)) * (3 : Int32)) = z := ⟨_, rfl⟩
  obtain ⟨Ts5_1, ai, Hs5_1, sts5_1⟩ := own_newA H0 hx hZ (hw _ (List.mem_of_getElem? (i := 2) rfl)) (g := (mkF m 61 #[.val (.int xa), .val (.int xb), .val (.int xc), .val (.int xs), .val (.int v3), .val (.int v9), .val (.int v15), .val (.int (2 : Int32)), .unset, .unset, .unset, .unset, .unset, .unset, .unset, .unset] [(.int (2 : Int32))])) rfl (hb hby at_61) rfl (by decide) (cap := 2) (by decide) (by decide) (by decide) (by decide)
  change own_S _ _ _ _ _ _ _ _ _ _ _ _ _ _ [(ai, own_A .double [.double 0, .double 0])] _ _ at Hs5_1
  obtain ⟨v70, hv70⟩ : ∃ z : UInt64, (FP.i2d v3) = z := ⟨_, rfl⟩
  obtain ⟨Ts5_2, Hs5_2, sts5_2⟩ := own_dastore Hs5_1 hx hZ 0 0 rfl (by decide) (Nat.le_of_ble_eq_true rfl) (g := (mkF m 71 #[.val (.int xa), .val (.int xb), .val (.int xc), .val (.int xs), .val (.int v3), .val (.int v9), .val (.int v15), .val (.int (2 : Int32)), .val (.ref ai), .unset, .unset, .unset, .unset, .unset, .unset, .unset] [(.double v70), (.int (0 : Int32)), (.ref ai)])) rfl rfl (hb hby at_71)
  change own_S _ _ _ _ _ _ _ _ _ _ _ _ _ _ [(ai, own_A .double [.double v70, .double 0])] _ _ at Hs5_2
  obtain ⟨v77, hv77⟩ : ∃ z : UInt64, (FP.i2d v9) = z := ⟨_, rfl⟩
  obtain ⟨Ts5_3, Hs5_3, sts5_3⟩ := own_dastore Hs5_2 hx hZ 0 1 rfl (by decide) (Nat.le_of_ble_eq_true rfl) (g := (mkF m 78 #[.val (.int xa), .val (.int xb), .val (.int xc), .val (.int xs), .val (.int v3), .val (.int v9), .val (.int v15), .val (.int (2 : Int32)), .val (.ref ai), .unset, .unset, .unset, .unset, .unset, .unset, .unset] [(.double v77), (.int (1 : Int32)), (.ref ai)])) rfl rfl (hb hby at_78)
  change own_S _ _ _ _ _ _ _ _ _ _ _ _ _ _ [(ai, own_A .double [.double v70, .double v77])] _ _ at Hs5_3
  obtain ⟨v81, hv81⟩ : ∃ z : Int64, v3.toInt64 = z := ⟨_, rfl⟩
  obtain ⟨v84, hv84⟩ : ∃ z : Int64, v9.toInt64 = z := ⟨_, rfl⟩
  obtain ⟨v85, hv85⟩ : ∃ z : Int64, (v81 + v84) = z := ⟨_, rfl⟩
  obtain ⟨v133, hv133⟩ : ∃ z : Int32, (if v85 > (0 : Int64) then (1 : Int32) else if v85 = (0 : Int64) then 0 else -1) = z := ⟨_, rfl⟩
  have hn : v23 + (1 : Int32) = (2 : Int32) := by rw [← hv23, ← hv21]; exact hsel
  have b0 := own_bd xa
  have b1 := own_bd xb
  have e81 : v81.toInt = (xa &&& 1048575).toInt := by rw [← hv81, ← hv3]; exact c_i2l _
  have e84 : v84.toInt = (xb &&& 1048575).toInt := by rw [← hv84, ← hv9]; exact c_i2l _
  have e85 : v85.toInt = (xa &&& 1048575).toInt + (xb &&& 1048575).toInt := by
    have q := c_ladd v81 v84
    have := rng64 v85
    rw [hv85, e81, e84] at q
    omega
  have hb134 : ifCond.holds .ne v133 = true := by
    rw [← hv133, own_lc_ne, show (0 : Int64).toInt = 0 from rfl, e85]
    exact decide_eq_true hz
  have i0 : own_is v70 (((xa &&& 1048575).toInt : Int) : Rat) := by rw [← hv70, ← hv3]; exact own_isI _
  have i1 : own_is v77 (((xb &&& 1048575).toInt : Int) : Rat) := by rw [← hv77, ← hv9]; exact own_isI _
  obtain ⟨Ts5_4, x, Hs5_4, sts5_4⟩ := own_newO Hs5_3 hx hZ hown (hw _ (List.mem_of_getElem? (i := 3) rfl)) (hw _ (List.mem_of_getElem? (i := 4) rfl)) (hw _ (List.mem_of_getElem? (i := 5) rfl)) [("com/example/tangentia/tangentia/flash/Feed", "amounts", "[D", .null), ("com/example/tangentia/tangentia/flash/Feed", "total", "D", .double 0)] (by
      intro f hf
      simp only [List.mem_cons, List.not_mem_nil, or_false] at hf
      rcases hf with rfl | rfl
      · exact ⟨Or.inr (hw _ (List.mem_of_getElem? (i := 31) rfl)), (.array .double), by decide, rfl⟩
      · exact ⟨Or.inr (hw _ (List.mem_of_getElem? (i := 33) rfl)), .double, by decide, rfl⟩) (by decide) (g := (mkF m 139 #[.val (.int xa), .val (.int xb), .val (.int xc), .val (.int xs), .val (.int v3), .val (.int v9), .val (.int v15), .val (.int (2 : Int32)), .val (.ref ai), .val (.long v85), .second, .unset, .unset, .unset, .unset, .unset] [])) rfl (hb hby at_139) (by decide) (by decide)
  change own_S _ _ _ _ _ _ _ _ _ _ _ _ _ _ [(ai, own_A .double [.double v70, .double v77]), (x, own_O "com/example/tangentia/tangentia/flash/Feed" [("com/example/tangentia/tangentia/flash/Feed", "amounts", "[D", .null), ("com/example/tangentia/tangentia/flash/Feed", "total", "D", .double 0)])] _ _ at Hs5_4
  obtain ⟨Ts5_5, vs5_5_, css5_5_, qs5_5, Hs5_5, sts5_5⟩ := own_callI Hs5_4 hx hZ hown rfl (hw _ (List.mem_of_getElem? (i := 6) rfl)) (hw _ (List.mem_of_getElem? (i := 7) rfl)) (hw _ (List.mem_of_getElem? (i := 5) rfl)) (hw _ (List.mem_of_getElem? (i := 8) rfl)) (by decide) (x := x) (argsL := [(.ref ai)]) (rest := [(.ref x)]) (W := 1) (own_feed2 l Z a0 hb0 hw x ai v70 _ i0 b0 v77 _ i1 b1 (by omega)) (by decide) (by decide) (by decide) (by decide) (g := (mkF m 145 #[.val (.int xa), .val (.int xb), .val (.int xc), .val (.int xs), .val (.int v3), .val (.int v9), .val (.int v15), .val (.int (2 : Int32)), .val (.ref ai), .val (.long v85), .second, .unset, .unset, .unset, .unset, .unset] [(.ref ai), (.ref x), (.ref x)])) rfl (by rw [hml]; rfl) (lenOf own_pd4 rfl) rfl (by show 2 * 0 + _ ≤ _; exact Nat.le_of_eq rfl) (hb hby at_145)
  obtain ⟨y, tt, it, rfl, rfl⟩ := qs5_5
  change own_S _ _ _ _ _ _ _ _ _ _ _ _ _ _ [(ai, own_A .double [.double v70, .double v77]), (x, own_O "com/example/tangentia/tangentia/flash/Feed" [("com/example/tangentia/tangentia/flash/Feed", "amounts", "[D", .ref y), ("com/example/tangentia/tangentia/flash/Feed", "total", "D", .double tt)]), (y, own_A .double [.double v70, .double v77])] _ _ at Hs5_5
  have hS : (((0 : Int) + (xa &&& 1048575).toInt) + (xb &&& 1048575).toInt) = (xa &&& 1048575).toInt + (xb &&& 1048575).toInt := by omega
  rw [hS] at it
  have hS0 : (((xa &&& 1048575).toInt + (xb &&& 1048575).toInt : Int) : Rat) ≠ 0 := by rw [Ne, Rat.intCast_eq_zero_iff]; exact hz
  have w0 := own_div i0 it hS0
  have w1 := own_div i1 it hS0
  obtain ⟨Ts5_6, vs5_6_, css5_6_, qs5_6, Hs5_6, sts5_6⟩ := own_callV Hs5_5 hx hZ hown (hw _ (List.mem_of_getElem? (i := 34) rfl)) (hw _ (List.mem_of_getElem? (i := 35) rfl)) (hw _ (List.mem_of_getElem? (i := 37) rfl)) (hw _ (List.mem_of_getElem? (i := 36) rfl)) (hw _ (List.mem_of_getElem? (i := 5) rfl)) (hw _ (List.mem_of_getElem? (i := 38) rfl)) (by decide) (x := x) 1 rfl (argsL := []) (rest := []) (W := 0) (own_mol20 l Z a0 hb0 hw x ai y _ tt v70 (own_rd_no w0) v77 (own_rd_no w1)) (by decide) (by decide) (by decide) (by decide) (g := (mkF m 152 #[.val (.int xa), .val (.int xb), .val (.int xc), .val (.int xs), .val (.int v3), .val (.int v9), .val (.int v15), .val (.int (2 : Int32)), .val (.ref ai), .val (.long v85), .second, .val (.ref x), .unset, .unset, .unset, .unset] [(.ref x)])) rfl (by rw [hml]; rfl) (lenOf own_pd1 rfl) rfl (by show 2 * 0 + _ ≤ _; exact Nat.le_of_eq rfl) (hb hby at_152)
  obtain ⟨z, rfl, rfl⟩ := qs5_6
  change own_S _ _ _ _ _ _ _ _ _ _ _ _ _ _ [(ai, own_A .double [.double v70, .double v77]), (x, own_O "com/example/tangentia/tangentia/flash/Feed" [("com/example/tangentia/tangentia/flash/Feed", "amounts", "[D", .ref y), ("com/example/tangentia/tangentia/flash/Feed", "total", "D", .double tt)]), (y, own_A .double [.double v70, .double v77]), (z, own_A .double [.double (FP.ddiv v70 tt), .double (FP.ddiv v77 tt)])] _ _ at Hs5_6
  obtain ⟨v169, hv169⟩ : ∃ z : UInt64, (FP.l2d v85) = z := ⟨_, rfl⟩
  obtain ⟨v178, hv178⟩ : ∃ z : UInt64, (FP.i2d v3) = z := ⟨_, rfl⟩
  obtain ⟨v181, hv181⟩ : ∃ z : UInt64, (FP.ddiv v178 v169) = z := ⟨_, rfl⟩
  obtain ⟨v182, hv182⟩ : ∃ z : Int32, (cmpValue (FP.dcmp (FP.ddiv v70 tt) v181) .l) = z := ⟨_, rfl⟩
  obtain ⟨v200, hv200⟩ : ∃ z : UInt64, (FP.i2d v9) = z := ⟨_, rfl⟩
  obtain ⟨v203, hv203⟩ : ∃ z : UInt64, (FP.ddiv v200 v169) = z := ⟨_, rfl⟩
  obtain ⟨v204, hv204⟩ : ∃ z : Int32, (cmpValue (FP.dcmp (FP.ddiv v77 tt) v203) .l) = z := ⟨_, rfl⟩
  obtain ⟨Ts5_10, Hs5_10, sts5_10⟩ := own_dastore Hs5_6 hx hZ 3 0 rfl (by decide) (Nat.le_of_ble_eq_true rfl) (g := (mkF m 238 #[.val (.int xa), .val (.int xb), .val (.int xc), .val (.int xs), .val (.int v3), .val (.int v9), .val (.int v15), .val (.int (2 : Int32)), .val (.ref ai), .val (.long v85), .second, .val (.ref x), .val (.ref z), .val (.double v169), .second, .unset] [(.double (13830554455654793216 : UInt64)), (.int (0 : Int32)), (.ref z)])) rfl rfl (hb hby at_238)
  change own_S _ _ _ _ _ _ _ _ _ _ _ _ _ _ [(ai, own_A .double [.double v70, .double v77]), (x, own_O "com/example/tangentia/tangentia/flash/Feed" [("com/example/tangentia/tangentia/flash/Feed", "amounts", "[D", .ref y), ("com/example/tangentia/tangentia/flash/Feed", "total", "D", .double tt)]), (y, own_A .double [.double v70, .double v77]), (z, own_A .double [.double (13830554455654793216 : UInt64), .double (FP.ddiv v77 tt)])] _ _ at Hs5_10
  obtain ⟨Ts5_11, vs5_11_, css5_11_, qs5_11, Hs5_11, sts5_11⟩ := own_callV Hs5_10 hx hZ hown (hw _ (List.mem_of_getElem? (i := 34) rfl)) (hw _ (List.mem_of_getElem? (i := 35) rfl)) (hw _ (List.mem_of_getElem? (i := 37) rfl)) (hw _ (List.mem_of_getElem? (i := 36) rfl)) (hw _ (List.mem_of_getElem? (i := 5) rfl)) (hw _ (List.mem_of_getElem? (i := 38) rfl)) (by decide) (x := x) 1 rfl (argsL := []) (rest := []) (W := 0) (own_mol21 l Z a0 hb0 hw x ai y _ tt v70 (own_rd_no w0) v77 (own_rd_no w1) z _) (by decide) (by decide) (by decide) (by decide) (g := (mkF m 241 #[.val (.int xa), .val (.int xb), .val (.int xc), .val (.int xs), .val (.int v3), .val (.int v9), .val (.int v15), .val (.int (2 : Int32)), .val (.ref ai), .val (.long v85), .second, .val (.ref x), .val (.ref z), .val (.double v169), .second, .unset] [(.ref x)])) rfl (by rw [hml]; rfl) (lenOf own_pd1 rfl) rfl (by show 2 * 0 + _ ≤ _; exact Nat.le_of_eq rfl) (hb hby at_241)
  obtain ⟨z2, rfl, rfl⟩ := qs5_11
  change own_S _ _ _ _ _ _ _ _ _ _ _ _ _ _ [(ai, own_A .double [.double v70, .double v77]), (x, own_O "com/example/tangentia/tangentia/flash/Feed" [("com/example/tangentia/tangentia/flash/Feed", "amounts", "[D", .ref y), ("com/example/tangentia/tangentia/flash/Feed", "total", "D", .double tt)]), (y, own_A .double [.double v70, .double v77]), (z, own_A .double [.double (13830554455654793216 : UInt64), .double (FP.ddiv v77 tt)]), (z2, own_A .double [.double (FP.ddiv v70 tt), .double (FP.ddiv v77 tt)])] _ _ at Hs5_11
  obtain ⟨v262, hv262⟩ : ∃ z : UInt64, (FP.i2d v3) = z := ⟨_, rfl⟩
  obtain ⟨v265, hv265⟩ : ∃ z : UInt64, (FP.ddiv v262 v169) = z := ⟨_, rfl⟩
  obtain ⟨v266, hv266⟩ : ∃ z : Int32, (cmpValue (FP.dcmp (FP.ddiv v70 tt) v265) .l) = z := ⟨_, rfl⟩
  have i169 : own_is v169 (((xa &&& 1048575).toInt + (xb &&& 1048575).toInt : Int) : Rat) := by rw [← hv169, ← e85]; exact own_rd_small (own_rdL _) (by omega)
  have i178 : own_is v178 (((xa &&& 1048575).toInt : Int) : Rat) := by rw [← hv178, ← hv3]; exact own_isI _
  have w181 := own_div i178 i169 hS0
  have nn181 : NoNaN64 (FP.ddiv v178 v169) := own_rd_no w181
  have hb183 : ifCond.holds .eq v182 = true := by rw [← hv182, ← hv181, own_rd_uniq w0 w181]; rfl
  have i200 : own_is v200 (((xb &&& 1048575).toInt : Int) : Rat) := by rw [← hv200, ← hv9]; exact own_isI _
  have w203 := own_div i200 i169 hS0
  have nn203 : NoNaN64 (FP.ddiv v200 v169) := own_rd_no w203
  have hb205 : ifCond.holds .eq v204 = true := by rw [← hv204, ← hv203, own_rd_uniq w1 w203]; rfl
  have i262 : own_is v262 (((xa &&& 1048575).toInt : Int) : Rat) := by rw [← hv262, ← hv3]; exact own_isI _
  have w265 := own_div i262 i169 hS0
  have nn265 : NoNaN64 (FP.ddiv v262 v169) := own_rd_no w265
  have hb267 : ifCond.holds .ne v266 = false := by rw [← hv266, ← hv265, own_rd_uniq w0 w265]; rfl
  refine ⟨_, _, _, _, 275, #[.val (.int xa), .val (.int xb), .val (.int xc), .val (.int xs), .val (.int v3), .val (.int v9), .val (.int v15), .val (.int (2 : Int32)), .val (.ref ai), .val (.long v85), .second, .val (.ref x), .val (.ref z), .val (.double v169), .second, .val (.ref z2)], Hs5_11, by decide, by decide, Or.inr ⟨.boolean, (.int (1 : Int32)), [], .ireturn, rfl, rfl, at_275, own_retZ (Or.inr rfl), fun target q => ?_⟩⟩
  refine own_go H0 hx hZ hown hby hw own_K0_ok (own_s5_0 xa xb xc xs v3 hv3 v9 hv9 v15 hv15 v21 hv21 v23 hv23 hn) _ ?_
  refine own_go H0 hx hZ hown hby hw own_K0_ok (own_s5_1 xa xb xc xs v3 v9 v15) _ ?_
  refine sts5_1 _ ?_
  refine own_go Hs5_1 hx hZ hown hby hw own_K0_ok (own_s5_2 xa xb xc xs v3 v9 v15 ai v70 hv70) _ ?_
  refine sts5_2 _ ?_
  refine own_go Hs5_2 hx hZ hown hby hw own_K0_ok (own_s5_3 xa xb xc xs v3 v9 v15 ai v77 hv77) _ ?_
  refine sts5_3 _ ?_
  refine own_go Hs5_3 hx hZ hown hby hw own_K0_ok (own_s5_4 xa xb xc xs v3 v9 v15 ai v81 hv81 v84 hv84 v85 hv85 v133 hv133 hb134) _ ?_
  refine sts5_4 _ ?_
  refine own_go Hs5_4 hx hZ hown hby hw own_K0_ok (own_s5_5 xa xb xc xs v3 v9 v15 ai v85 x) _ ?_
  refine sts5_5 _ ?_
  refine own_go Hs5_5 hx hZ hown hby hw own_K0_ok (own_s5_6 xa xb xc xs v3 v9 v15 ai v85 x) _ ?_
  refine sts5_6 _ ?_
  refine own_go Hs5_6 hx hZ hown hby hw own_K0_ok (own_s5_7 xa xb xc xs v3 v9 v15 ai v85 x z) _ ?_
  refine own_arrlen Hs5_6 hx hZ 3 rfl (z := (2 : Int32)) rfl (g := (mkF m 159 #[.val (.int xa), .val (.int xb), .val (.int xc), .val (.int xs), .val (.int v3), .val (.int v9), .val (.int v15), .val (.int (2 : Int32)), .val (.ref ai), .val (.long v85), .second, .val (.ref x), .val (.ref z), .unset, .unset, .unset] [(.ref z)])) rfl rfl (hb hby at_159) _ ?_
  refine own_go Hs5_6 hx hZ hown hby hw own_K0_ok (own_s5_8 xa xb xc xs v3 v9 v15 ai v85 x z v169 hv169) _ ?_
  refine own_daload Hs5_6 hx hZ 3 0 rfl (by decide) rfl (g := (mkF m 175 #[.val (.int xa), .val (.int xb), .val (.int xc), .val (.int xs), .val (.int v3), .val (.int v9), .val (.int v15), .val (.int (2 : Int32)), .val (.ref ai), .val (.long v85), .second, .val (.ref x), .val (.ref z), .val (.double v169), .second, .unset] [(.int (0 : Int32)), (.ref z)])) rfl rfl (hb hby at_175) _ ?_
  refine own_go Hs5_6 hx hZ hown hby hw own_K0_ok (own_s5_9 xa xb xc xs v3 v9 v15 ai v85 x z v169 v178 hv178 v181 hv181 nn181 v182 hv182 hb183) _ ?_
  refine own_daload Hs5_6 hx hZ 3 1 rfl (by decide) rfl (g := (mkF m 197 #[.val (.int xa), .val (.int xb), .val (.int xc), .val (.int xs), .val (.int v3), .val (.int v9), .val (.int v15), .val (.int (2 : Int32)), .val (.ref ai), .val (.long v85), .second, .val (.ref x), .val (.ref z), .val (.double v169), .second, .unset] [(.int (1 : Int32)), (.ref z)])) rfl rfl (hb hby at_197) _ ?_
  refine own_go Hs5_6 hx hZ hown hby hw own_K0_ok (own_s5_10 xa xb xc xs v3 v9 v15 ai v85 x z v169 v200 hv200 v203 hv203 nn203 v204 hv204 hb205) _ ?_
  refine sts5_10 _ ?_
  refine own_go Hs5_10 hx hZ hown hby hw own_K0_ok (own_s5_11 xa xb xc xs v3 v9 v15 ai v85 x z v169) _ ?_
  refine sts5_11 _ ?_
  refine own_go Hs5_11 hx hZ hown hby hw own_K0_ok (own_s5_12 xa xb xc xs v3 v9 v15 ai v85 x z v169 z2) _ ?_
  refine own_arrlen Hs5_11 hx hZ 4 rfl (z := (2 : Int32)) rfl (g := (mkF m 248 #[.val (.int xa), .val (.int xb), .val (.int xc), .val (.int xs), .val (.int v3), .val (.int v9), .val (.int v15), .val (.int (2 : Int32)), .val (.ref ai), .val (.long v85), .second, .val (.ref x), .val (.ref z), .val (.double v169), .second, .val (.ref z2)] [(.ref z2)])) rfl rfl (hb hby at_248) _ ?_
  refine own_go Hs5_11 hx hZ hown hby hw own_K0_ok (own_s5_13 xa xb xc xs v3 v9 v15 ai v85 x z v169 z2) _ ?_
  refine own_daload Hs5_11 hx hZ 4 0 rfl (by decide) rfl (g := (mkF m 259 #[.val (.int xa), .val (.int xb), .val (.int xc), .val (.int xs), .val (.int v3), .val (.int v9), .val (.int v15), .val (.int (2 : Int32)), .val (.ref ai), .val (.long v85), .second, .val (.ref x), .val (.ref z), .val (.double v169), .second, .val (.ref z2)] [(.int (0 : Int32)), (.ref z2)])) rfl rfl (hb hby at_259) _ ?_
  refine own_go Hs5_11 hx hZ hown hby hw own_K0_ok (own_s5_14 xa xb xc xs v3 v9 v15 ai v85 x z v169 z2 v262 hv262 v265 hv265 nn265 v266 hv266 hb267) _ ?_
  exact q
theorem own_s6_0 (xa : Int32) (xb : Int32) (xc : Int32) (xs : Int32) (v3 : Int32) (hv3 : (xa &&& (1048575 : Int32)) = v3) (v9 : Int32) (hv9 : (xb &&& (1048575 : Int32)) = v9) (v15 : Int32) (hv15 : (xc &&& (1048575 : Int32)) = v15) (v21 : Int32) (hv21 : (xs &&& (2147483647 : Int32)) = v21) (v23 : Int32) (hv23 : (v21 - (v21 / (3 : Int32)) * (3 : Int32)) = v23) (hn : (v23 + (1 : Int32)) = (3 : Int32)) :
    own_Go own_K0 code 0 #[.val (.int xa), .val (.int xb), .val (.int xc), .val (.int xs), .unset, .unset, .unset, .unset, .unset, .unset, .unset, .unset, .unset, .unset, .unset, .unset] [] 28 #[.val (.int xa), .val (.int xb), .val (.int xc), .val (.int xs), .val (.int v3), .val (.int v9), .val (.int v15), .val (.int (3 : Int32)), .unset, .unset, .unset, .unset, .unset, .unset, .unset, .unset] [] := by
  refine own_iloadN (pc2 := 1) at_0 rfl rfl ?_
  refine own_ldc (v := (1048575 : Int32)) (pc2 := 3) at_1 rfl (List.mem_of_getElem? (i := 0) rfl) ?_
  refine own_iand (pc2 := 4) at_3 rfl (v := v3) hv3 ?_
  refine own_istore (pc2 := 6) at_4 rfl (L' := #[.val (.int xa), .val (.int xb), .val (.int xc), .val (.int xs), .val (.int v3), .unset, .unset, .unset, .unset, .unset, .unset, .unset, .unset, .unset, .unset, .unset]) rfl ?_
  refine own_iloadN (pc2 := 7) at_6 rfl rfl ?_
  refine own_ldc (v := (1048575 : Int32)) (pc2 := 9) at_7 rfl (List.mem_of_getElem? (i := 0) rfl) ?_
  refine own_iand (pc2 := 10) at_9 rfl (v := v9) hv9 ?_
  refine own_istore (pc2 := 12) at_10 rfl (L' := #[.val (.int xa), .val (.int xb), .val (.int xc), .val (.int xs), .val (.int v3), .val (.int v9), .unset, .unset, .unset, .unset, .unset, .unset, .unset, .unset, .unset, .unset]) rfl ?_
  refine own_iloadN (pc2 := 13) at_12 rfl rfl ?_
  refine own_ldc (v := (1048575 : Int32)) (pc2 := 15) at_13 rfl (List.mem_of_getElem? (i := 0) rfl) ?_
  refine own_iand (pc2 := 16) at_15 rfl (v := v15) hv15 ?_
  refine own_istore (pc2 := 18) at_16 rfl (L' := #[.val (.int xa), .val (.int xb), .val (.int xc), .val (.int xs), .val (.int v3), .val (.int v9), .val (.int v15), .unset, .unset, .unset, .unset, .unset, .unset, .unset, .unset, .unset]) rfl ?_
  refine own_iloadN (pc2 := 19) at_18 rfl rfl ?_
  refine own_ldc (v := (2147483647 : Int32)) (pc2 := 21) at_19 rfl (List.mem_of_getElem? (i := 1) rfl) ?_
  refine own_iand (pc2 := 22) at_21 rfl (v := v21) hv21 ?_
  refine own_iconst (v := 3) (pc2 := 23) at_22 rfl rfl ?_
  refine own_irem (pc2 := 24) at_23 rfl (by decide) (v := v23) hv23 ?_
  refine own_iconst (v := 1) (pc2 := 25) at_24 rfl rfl ?_
  refine own_iadd (pc2 := 26) at_25 rfl (v := (3 : Int32)) hn ?_
  refine own_istore (pc2 := 28) at_26 rfl (L' := #[.val (.int xa), .val (.int xb), .val (.int xc), .val (.int xs), .val (.int v3), .val (.int v9), .val (.int v15), .val (.int (3 : Int32)), .unset, .unset, .unset, .unset, .unset, .unset, .unset, .unset]) rfl ?_
  exact own_refl
theorem own_s6_1 (xa : Int32) (xb : Int32) (xc : Int32) (xs : Int32) (v3 : Int32) (v9 : Int32) (v15 : Int32) :
    own_Go own_K0 code 28 #[.val (.int xa), .val (.int xb), .val (.int xc), .val (.int xs), .val (.int v3), .val (.int v9), .val (.int v15), .val (.int (3 : Int32)), .unset, .unset, .unset, .unset, .unset, .unset, .unset, .unset] [] 92 #[.val (.int xa), .val (.int xb), .val (.int xc), .val (.int xs), .val (.int v3), .val (.int v9), .val (.int v15), .val (.int (3 : Int32)), .unset, .unset, .unset, .unset, .unset, .unset, .unset, .unset] [(.int (3 : Int32))] := by
  refine own_iload (pc2 := 30) at_28 rfl rfl ?_
  refine own_iconst (v := 1) (pc2 := 31) at_30 rfl rfl ?_
  refine own_icmpYes (pc' := 54) at_31 (by decide) (by decide) (by decide) ?_
  refine own_iload (pc2 := 56) at_54 rfl rfl ?_
  refine own_iconst (v := 2) (pc2 := 57) at_56 rfl rfl ?_
  refine own_icmpYes (pc' := 91) at_57 (by decide) (by decide) (by decide) ?_
  refine own_iconst (v := 3) (pc2 := 92) at_91 rfl rfl ?_
  exact own_refl
theorem own_s6_2 (xa : Int32) (xb : Int32) (xc : Int32) (xs : Int32) (v3 : Int32) (v9 : Int32) (v15 : Int32) (ai : Addr) (v101 : UInt64) (hv101 : (FP.i2d v3) = v101) :
    own_Go own_K0 code 94 #[.val (.int xa), .val (.int xb), .val (.int xc), .val (.int xs), .val (.int v3), .val (.int v9), .val (.int v15), .val (.int (3 : Int32)), .unset, .unset, .unset, .unset, .unset, .unset, .unset, .unset] [(.ref ai)] 102 #[.val (.int xa), .val (.int xb), .val (.int xc), .val (.int xs), .val (.int v3), .val (.int v9), .val (.int v15), .val (.int (3 : Int32)), .val (.ref ai), .unset, .unset, .unset, .unset, .unset, .unset, .unset] [(.double v101), (.int (0 : Int32)), (.ref ai)] := by
  refine own_astore (pc2 := 96) at_94 rfl rfl (L' := #[.val (.int xa), .val (.int xb), .val (.int xc), .val (.int xs), .val (.int v3), .val (.int v9), .val (.int v15), .val (.int (3 : Int32)), .val (.ref ai), .unset, .unset, .unset, .unset, .unset, .unset, .unset]) rfl ?_
  refine own_aload (pc2 := 98) at_96 rfl rfl rfl ?_
  refine own_iconst (v := 0) (pc2 := 99) at_98 rfl rfl ?_
  refine own_iload (pc2 := 101) at_99 rfl rfl ?_
  refine own_i2d (pc2 := 102) at_101 rfl (v := v101) hv101 ?_
  exact own_refl
theorem own_s6_3 (xa : Int32) (xb : Int32) (xc : Int32) (xs : Int32) (v3 : Int32) (v9 : Int32) (v15 : Int32) (ai : Addr) (v108 : UInt64) (hv108 : (FP.i2d v9) = v108) :
    own_Go own_K0 code 103 #[.val (.int xa), .val (.int xb), .val (.int xc), .val (.int xs), .val (.int v3), .val (.int v9), .val (.int v15), .val (.int (3 : Int32)), .val (.ref ai), .unset, .unset, .unset, .unset, .unset, .unset, .unset] [] 109 #[.val (.int xa), .val (.int xb), .val (.int xc), .val (.int xs), .val (.int v3), .val (.int v9), .val (.int v15), .val (.int (3 : Int32)), .val (.ref ai), .unset, .unset, .unset, .unset, .unset, .unset, .unset] [(.double v108), (.int (1 : Int32)), (.ref ai)] := by
  refine own_aload (pc2 := 105) at_103 rfl rfl rfl ?_
  refine own_iconst (v := 1) (pc2 := 106) at_105 rfl rfl ?_
  refine own_iload (pc2 := 108) at_106 rfl rfl ?_
  refine own_i2d (pc2 := 109) at_108 rfl (v := v108) hv108 ?_
  exact own_refl
theorem own_s6_4 (xa : Int32) (xb : Int32) (xc : Int32) (xs : Int32) (v3 : Int32) (v9 : Int32) (v15 : Int32) (ai : Addr) (v115 : UInt64) (hv115 : (FP.i2d v15) = v115) :
    own_Go own_K0 code 110 #[.val (.int xa), .val (.int xb), .val (.int xc), .val (.int xs), .val (.int v3), .val (.int v9), .val (.int v15), .val (.int (3 : Int32)), .val (.ref ai), .unset, .unset, .unset, .unset, .unset, .unset, .unset] [] 116 #[.val (.int xa), .val (.int xb), .val (.int xc), .val (.int xs), .val (.int v3), .val (.int v9), .val (.int v15), .val (.int (3 : Int32)), .val (.ref ai), .unset, .unset, .unset, .unset, .unset, .unset, .unset] [(.double v115), (.int (2 : Int32)), (.ref ai)] := by
  refine own_aload (pc2 := 112) at_110 rfl rfl rfl ?_
  refine own_iconst (v := 2) (pc2 := 113) at_112 rfl rfl ?_
  refine own_iload (pc2 := 115) at_113 rfl rfl ?_
  refine own_i2d (pc2 := 116) at_115 rfl (v := v115) hv115 ?_
  exact own_refl
theorem own_s6_5 (xa : Int32) (xb : Int32) (xc : Int32) (xs : Int32) (v3 : Int32) (v9 : Int32) (v15 : Int32) (ai : Addr) (v119 : Int64) (hv119 : v3.toInt64 = v119) (v122 : Int64) (hv122 : v9.toInt64 = v122) (v123 : Int64) (hv123 : (v119 + v122) = v123) (v126 : Int64) (hv126 : v15.toInt64 = v126) (v127 : Int64) (hv127 : (v123 + v126) = v127) (v133 : Int32) (hv133 : (if v127 > (0 : Int64) then (1 : Int32) else if v127 = (0 : Int64) then 0 else -1) = v133) (hb134 : ifCond.holds .ne v133 = false) :
    own_Go own_K0 code 117 #[.val (.int xa), .val (.int xb), .val (.int xc), .val (.int xs), .val (.int v3), .val (.int v9), .val (.int v15), .val (.int (3 : Int32)), .val (.ref ai), .unset, .unset, .unset, .unset, .unset, .unset, .unset] [] 138 #[.val (.int xa), .val (.int xb), .val (.int xc), .val (.int xs), .val (.int v3), .val (.int v9), .val (.int v15), .val (.int (3 : Int32)), .val (.ref ai), .val (.long v127), .second, .unset, .unset, .unset, .unset, .unset] [(.int (1 : Int32))] := by
  refine own_iload (pc2 := 119) at_117 rfl rfl ?_
  refine own_i2l (pc2 := 120) at_119 rfl (v := v119) hv119 ?_
  refine own_iload (pc2 := 122) at_120 rfl rfl ?_
  refine own_i2l (pc2 := 123) at_122 rfl (v := v122) hv122 ?_
  refine own_ladd (pc2 := 124) at_123 rfl (v := v123) hv123 ?_
  refine own_iload (pc2 := 126) at_124 rfl rfl ?_
  refine own_i2l (pc2 := 127) at_126 rfl (v := v126) hv126 ?_
  refine own_ladd (pc2 := 128) at_127 rfl (v := v127) hv127 ?_
  refine own_lstore (pc2 := 130) at_128 rfl (L' := #[.val (.int xa), .val (.int xb), .val (.int xc), .val (.int xs), .val (.int v3), .val (.int v9), .val (.int v15), .val (.int (3 : Int32)), .val (.ref ai), .val (.long v127), .second, .unset, .unset, .unset, .unset, .unset]) rfl ?_
  refine own_lload (pc2 := 132) at_130 rfl rfl ?_
  refine own_lconst (v := 0) (pc2 := 133) at_132 rfl rfl ?_
  refine own_lcmp (pc2 := 134) at_133 rfl (v := v133) hv133 ?_
  refine own_ifNo (pc2 := 137) at_134 rfl hb134 ?_
  refine own_iconst (v := 1) (pc2 := 138) at_137 rfl rfl ?_
  exact own_refl
set_option maxRecDepth 65536 in
set_option maxHeartbeats 40000000 in
theorem own_law6 (l : Launch) (Z : State) (a0 : Array Value) (hb0 : Heap) (hw : ∀ d ∈ tables_1, d.before a0 Z = true) (xa : Int32) (xb : Int32) (xc : Int32) (xs : Int32) (hsel : ((xs &&& (2147483647 : Int32)) - ((xs &&& (2147483647 : Int32)) / (3 : Int32)) * (3 : Int32)) + (1 : Int32) = (3 : Int32)) (hz : (xa &&& 1048575).toInt + (xb &&& 1048575).toInt + (xc &&& 1048575).toInt = 0) :
    own_Met l Z a0 hb0 x code maxLocals ret tables_1 room_1 #[(.int xa), (.int xb), (.int xc), (.int xs)] [] (fun v _ => v = some (.int 1)) := by
  refine own_met_of (L0 := #[.val (.int xa), .val (.int xb), .val (.int xc), .val (.int xs), .unset, .unset, .unset, .unset, .unset, .unset, .unset, .unset, .unset, .unset, .unset, .unset]) (plainFor_of_name own_pn0) (fun m => own_ef0 m xa xb xc xs) ?_
  intro p e s m below meth c T0 hx hZ hown hby hml hnm H0
  have hown : s.vm.findClass "com/example/tangentia/tangentia/flash/FeedMoleFractionsPinLaw" = some m.cls := hown
  have hml : c.maxLocals = 16 := hml
  obtain ⟨v3, hv3⟩ : ∃ z : Int32, (xa &&& (1048575 : Int32)) = z := ⟨_, rfl⟩
  obtain ⟨v9, hv9⟩ : ∃ z : Int32, (xb &&& (1048575 : Int32)) = z := ⟨_, rfl⟩
  obtain ⟨v15, hv15⟩ : ∃ z : Int32, (xc &&& (1048575 : Int32)) = z := ⟨_, rfl⟩
  obtain ⟨v21, hv21⟩ : ∃ z : Int32, (xs &&& (2147483647 : Int32)) = z := ⟨_, rfl⟩
  obtain ⟨v23, hv23⟩ : ∃ z : Int32, (v21 - (v21 / (3 : Int32)) * (3 : Int32)) = z := ⟨_, rfl⟩
  obtain ⟨Ts6_1, ai, Hs6_1, sts6_1⟩ := own_newA H0 hx hZ (hw _ (List.mem_of_getElem? (i := 2) rfl)) (g := (mkF m 92 #[.val (.int xa), .val (.int xb), .val (.int xc), .val (.int xs), .val (.int v3), .val (.int v9), .val (.int v15), .val (.int (3 : Int32)), .unset, .unset, .unset, .unset, .unset, .unset, .unset, .unset] [(.int (3 : Int32))])) rfl (hb hby at_92) rfl (by decide) (cap := 3) (by decide) (by decide) (by decide) (by decide)
  change own_S _ _ _ _ _ _ _ _ _ _ _ _ _ _ [(ai, own_A .double [.double 0, .double 0, .double 0])] _ _ at Hs6_1
  obtain ⟨v101, hv101⟩ : ∃ z : UInt64, (FP.i2d v3) = z := ⟨_, rfl⟩
  obtain ⟨Ts6_2, Hs6_2, sts6_2⟩ := own_dastore Hs6_1 hx hZ 0 0 rfl (by decide) (Nat.le_of_ble_eq_true rfl) (g := (mkF m 102 #[.val (.int xa), .val (.int xb), .val (.int xc), .val (.int xs), .val (.int v3), .val (.int v9), .val (.int v15), .val (.int (3 : Int32)), .val (.ref ai), .unset, .unset, .unset, .unset, .unset, .unset, .unset] [(.double v101), (.int (0 : Int32)), (.ref ai)])) rfl rfl (hb hby at_102)
  change own_S _ _ _ _ _ _ _ _ _ _ _ _ _ _ [(ai, own_A .double [.double v101, .double 0, .double 0])] _ _ at Hs6_2
  obtain ⟨v108, hv108⟩ : ∃ z : UInt64, (FP.i2d v9) = z := ⟨_, rfl⟩
  obtain ⟨Ts6_3, Hs6_3, sts6_3⟩ := own_dastore Hs6_2 hx hZ 0 1 rfl (by decide) (Nat.le_of_ble_eq_true rfl) (g := (mkF m 109 #[.val (.int xa), .val (.int xb), .val (.int xc), .val (.int xs), .val (.int v3), .val (.int v9), .val (.int v15), .val (.int (3 : Int32)), .val (.ref ai), .unset, .unset, .unset, .unset, .unset, .unset, .unset] [(.double v108), (.int (1 : Int32)), (.ref ai)])) rfl rfl (hb hby at_109)
  change own_S _ _ _ _ _ _ _ _ _ _ _ _ _ _ [(ai, own_A .double [.double v101, .double v108, .double 0])] _ _ at Hs6_3
  obtain ⟨v115, hv115⟩ : ∃ z : UInt64, (FP.i2d v15) = z := ⟨_, rfl⟩
  obtain ⟨Ts6_4, Hs6_4, sts6_4⟩ := own_dastore Hs6_3 hx hZ 0 2 rfl (by decide) (Nat.le_of_ble_eq_true rfl) (g := (mkF m 116 #[.val (.int xa), .val (.int xb), .val (.int xc), .val (.int xs), .val (.int v3), .val (.int v9), .val (.int v15), .val (.int (3 : Int32)), .val (.ref ai), .unset, .unset, .unset, .unset, .unset, .unset, .unset] [(.double v115), (.int (2 : Int32)), (.ref ai)])) rfl rfl (hb hby at_116)
  change own_S _ _ _ _ _ _ _ _ _ _ _ _ _ _ [(ai, own_A .double [.double v101, .double v108, .double v115])] _ _ at Hs6_4
  obtain ⟨v119, hv119⟩ : ∃ z : Int64, v3.toInt64 = z := ⟨_, rfl⟩
  obtain ⟨v122, hv122⟩ : ∃ z : Int64, v9.toInt64 = z := ⟨_, rfl⟩
  obtain ⟨v123, hv123⟩ : ∃ z : Int64, (v119 + v122) = z := ⟨_, rfl⟩
  obtain ⟨v126, hv126⟩ : ∃ z : Int64, v15.toInt64 = z := ⟨_, rfl⟩
  obtain ⟨v127, hv127⟩ : ∃ z : Int64, (v123 + v126) = z := ⟨_, rfl⟩
  obtain ⟨v133, hv133⟩ : ∃ z : Int32, (if v127 > (0 : Int64) then (1 : Int32) else if v127 = (0 : Int64) then 0 else -1) = z := ⟨_, rfl⟩
  have hn : v23 + (1 : Int32) = (3 : Int32) := by rw [← hv23, ← hv21]; exact hsel
  have b0 := own_bd xa
  have b1 := own_bd xb
  have b2 := own_bd xc
  have e119 : v119.toInt = (xa &&& 1048575).toInt := by rw [← hv119, ← hv3]; exact c_i2l _
  have e122 : v122.toInt = (xb &&& 1048575).toInt := by rw [← hv122, ← hv9]; exact c_i2l _
  have e126 : v126.toInt = (xc &&& 1048575).toInt := by rw [← hv126, ← hv15]; exact c_i2l _
  have e123 : v123.toInt = (xa &&& 1048575).toInt + (xb &&& 1048575).toInt := by
    have q := c_ladd v119 v122
    have := rng64 v123
    rw [hv123, e119, e122] at q
    omega
  have e127 : v127.toInt = (xa &&& 1048575).toInt + (xb &&& 1048575).toInt + (xc &&& 1048575).toInt := by
    have q := c_ladd v123 v126
    have := rng64 v127
    rw [hv127, e123, e126] at q
    omega
  have hb134 : ifCond.holds .ne v133 = false := by
    rw [← hv133, own_lc_ne, show (0 : Int64).toInt = 0 from rfl, e127]
    exact decide_eq_false (not_not_intro hz)
  refine ⟨_, _, _, _, 138, #[.val (.int xa), .val (.int xb), .val (.int xc), .val (.int xs), .val (.int v3), .val (.int v9), .val (.int v15), .val (.int (3 : Int32)), .val (.ref ai), .val (.long v127), .second, .unset, .unset, .unset, .unset, .unset], Hs6_4, by decide, by decide, Or.inr ⟨.boolean, (.int (1 : Int32)), [], .ireturn, rfl, rfl, at_138, own_retZ (Or.inr rfl), fun target q => ?_⟩⟩
  refine own_go H0 hx hZ hown hby hw own_K0_ok (own_s6_0 xa xb xc xs v3 hv3 v9 hv9 v15 hv15 v21 hv21 v23 hv23 hn) _ ?_
  refine own_go H0 hx hZ hown hby hw own_K0_ok (own_s6_1 xa xb xc xs v3 v9 v15) _ ?_
  refine sts6_1 _ ?_
  refine own_go Hs6_1 hx hZ hown hby hw own_K0_ok (own_s6_2 xa xb xc xs v3 v9 v15 ai v101 hv101) _ ?_
  refine sts6_2 _ ?_
  refine own_go Hs6_2 hx hZ hown hby hw own_K0_ok (own_s6_3 xa xb xc xs v3 v9 v15 ai v108 hv108) _ ?_
  refine sts6_3 _ ?_
  refine own_go Hs6_3 hx hZ hown hby hw own_K0_ok (own_s6_4 xa xb xc xs v3 v9 v15 ai v115 hv115) _ ?_
  refine sts6_4 _ ?_
  refine own_go Hs6_4 hx hZ hown hby hw own_K0_ok (own_s6_5 xa xb xc xs v3 v9 v15 ai v119 hv119 v122 hv122 v123 hv123 v126 hv126 v127 hv127 v133 hv133 hb134) _ ?_
  exact q
theorem own_s7_0 (xa : Int32) (xb : Int32) (xc : Int32) (xs : Int32) (v3 : Int32) (hv3 : (xa &&& (1048575 : Int32)) = v3) (v9 : Int32) (hv9 : (xb &&& (1048575 : Int32)) = v9) (v15 : Int32) (hv15 : (xc &&& (1048575 : Int32)) = v15) (v21 : Int32) (hv21 : (xs &&& (2147483647 : Int32)) = v21) (v23 : Int32) (hv23 : (v21 - (v21 / (3 : Int32)) * (3 : Int32)) = v23) (hn : (v23 + (1 : Int32)) = (3 : Int32)) :
    own_Go own_K0 code 0 #[.val (.int xa), .val (.int xb), .val (.int xc), .val (.int xs), .unset, .unset, .unset, .unset, .unset, .unset, .unset, .unset, .unset, .unset, .unset, .unset] [] 28 #[.val (.int xa), .val (.int xb), .val (.int xc), .val (.int xs), .val (.int v3), .val (.int v9), .val (.int v15), .val (.int (3 : Int32)), .unset, .unset, .unset, .unset, .unset, .unset, .unset, .unset] [] := by
  refine own_iloadN (pc2 := 1) at_0 rfl rfl ?_
  refine own_ldc (v := (1048575 : Int32)) (pc2 := 3) at_1 rfl (List.mem_of_getElem? (i := 0) rfl) ?_
  refine own_iand (pc2 := 4) at_3 rfl (v := v3) hv3 ?_
  refine own_istore (pc2 := 6) at_4 rfl (L' := #[.val (.int xa), .val (.int xb), .val (.int xc), .val (.int xs), .val (.int v3), .unset, .unset, .unset, .unset, .unset, .unset, .unset, .unset, .unset, .unset, .unset]) rfl ?_
  refine own_iloadN (pc2 := 7) at_6 rfl rfl ?_
  refine own_ldc (v := (1048575 : Int32)) (pc2 := 9) at_7 rfl (List.mem_of_getElem? (i := 0) rfl) ?_
  refine own_iand (pc2 := 10) at_9 rfl (v := v9) hv9 ?_
  refine own_istore (pc2 := 12) at_10 rfl (L' := #[.val (.int xa), .val (.int xb), .val (.int xc), .val (.int xs), .val (.int v3), .val (.int v9), .unset, .unset, .unset, .unset, .unset, .unset, .unset, .unset, .unset, .unset]) rfl ?_
  refine own_iloadN (pc2 := 13) at_12 rfl rfl ?_
  refine own_ldc (v := (1048575 : Int32)) (pc2 := 15) at_13 rfl (List.mem_of_getElem? (i := 0) rfl) ?_
  refine own_iand (pc2 := 16) at_15 rfl (v := v15) hv15 ?_
  refine own_istore (pc2 := 18) at_16 rfl (L' := #[.val (.int xa), .val (.int xb), .val (.int xc), .val (.int xs), .val (.int v3), .val (.int v9), .val (.int v15), .unset, .unset, .unset, .unset, .unset, .unset, .unset, .unset, .unset]) rfl ?_
  refine own_iloadN (pc2 := 19) at_18 rfl rfl ?_
  refine own_ldc (v := (2147483647 : Int32)) (pc2 := 21) at_19 rfl (List.mem_of_getElem? (i := 1) rfl) ?_
  refine own_iand (pc2 := 22) at_21 rfl (v := v21) hv21 ?_
  refine own_iconst (v := 3) (pc2 := 23) at_22 rfl rfl ?_
  refine own_irem (pc2 := 24) at_23 rfl (by decide) (v := v23) hv23 ?_
  refine own_iconst (v := 1) (pc2 := 25) at_24 rfl rfl ?_
  refine own_iadd (pc2 := 26) at_25 rfl (v := (3 : Int32)) hn ?_
  refine own_istore (pc2 := 28) at_26 rfl (L' := #[.val (.int xa), .val (.int xb), .val (.int xc), .val (.int xs), .val (.int v3), .val (.int v9), .val (.int v15), .val (.int (3 : Int32)), .unset, .unset, .unset, .unset, .unset, .unset, .unset, .unset]) rfl ?_
  exact own_refl
theorem own_s7_1 (xa : Int32) (xb : Int32) (xc : Int32) (xs : Int32) (v3 : Int32) (v9 : Int32) (v15 : Int32) :
    own_Go own_K0 code 28 #[.val (.int xa), .val (.int xb), .val (.int xc), .val (.int xs), .val (.int v3), .val (.int v9), .val (.int v15), .val (.int (3 : Int32)), .unset, .unset, .unset, .unset, .unset, .unset, .unset, .unset] [] 92 #[.val (.int xa), .val (.int xb), .val (.int xc), .val (.int xs), .val (.int v3), .val (.int v9), .val (.int v15), .val (.int (3 : Int32)), .unset, .unset, .unset, .unset, .unset, .unset, .unset, .unset] [(.int (3 : Int32))] := by
  refine own_iload (pc2 := 30) at_28 rfl rfl ?_
  refine own_iconst (v := 1) (pc2 := 31) at_30 rfl rfl ?_
  refine own_icmpYes (pc' := 54) at_31 (by decide) (by decide) (by decide) ?_
  refine own_iload (pc2 := 56) at_54 rfl rfl ?_
  refine own_iconst (v := 2) (pc2 := 57) at_56 rfl rfl ?_
  refine own_icmpYes (pc' := 91) at_57 (by decide) (by decide) (by decide) ?_
  refine own_iconst (v := 3) (pc2 := 92) at_91 rfl rfl ?_
  exact own_refl
theorem own_s7_2 (xa : Int32) (xb : Int32) (xc : Int32) (xs : Int32) (v3 : Int32) (v9 : Int32) (v15 : Int32) (ai : Addr) (v101 : UInt64) (hv101 : (FP.i2d v3) = v101) :
    own_Go own_K0 code 94 #[.val (.int xa), .val (.int xb), .val (.int xc), .val (.int xs), .val (.int v3), .val (.int v9), .val (.int v15), .val (.int (3 : Int32)), .unset, .unset, .unset, .unset, .unset, .unset, .unset, .unset] [(.ref ai)] 102 #[.val (.int xa), .val (.int xb), .val (.int xc), .val (.int xs), .val (.int v3), .val (.int v9), .val (.int v15), .val (.int (3 : Int32)), .val (.ref ai), .unset, .unset, .unset, .unset, .unset, .unset, .unset] [(.double v101), (.int (0 : Int32)), (.ref ai)] := by
  refine own_astore (pc2 := 96) at_94 rfl rfl (L' := #[.val (.int xa), .val (.int xb), .val (.int xc), .val (.int xs), .val (.int v3), .val (.int v9), .val (.int v15), .val (.int (3 : Int32)), .val (.ref ai), .unset, .unset, .unset, .unset, .unset, .unset, .unset]) rfl ?_
  refine own_aload (pc2 := 98) at_96 rfl rfl rfl ?_
  refine own_iconst (v := 0) (pc2 := 99) at_98 rfl rfl ?_
  refine own_iload (pc2 := 101) at_99 rfl rfl ?_
  refine own_i2d (pc2 := 102) at_101 rfl (v := v101) hv101 ?_
  exact own_refl
theorem own_s7_3 (xa : Int32) (xb : Int32) (xc : Int32) (xs : Int32) (v3 : Int32) (v9 : Int32) (v15 : Int32) (ai : Addr) (v108 : UInt64) (hv108 : (FP.i2d v9) = v108) :
    own_Go own_K0 code 103 #[.val (.int xa), .val (.int xb), .val (.int xc), .val (.int xs), .val (.int v3), .val (.int v9), .val (.int v15), .val (.int (3 : Int32)), .val (.ref ai), .unset, .unset, .unset, .unset, .unset, .unset, .unset] [] 109 #[.val (.int xa), .val (.int xb), .val (.int xc), .val (.int xs), .val (.int v3), .val (.int v9), .val (.int v15), .val (.int (3 : Int32)), .val (.ref ai), .unset, .unset, .unset, .unset, .unset, .unset, .unset] [(.double v108), (.int (1 : Int32)), (.ref ai)] := by
  refine own_aload (pc2 := 105) at_103 rfl rfl rfl ?_
  refine own_iconst (v := 1) (pc2 := 106) at_105 rfl rfl ?_
  refine own_iload (pc2 := 108) at_106 rfl rfl ?_
  refine own_i2d (pc2 := 109) at_108 rfl (v := v108) hv108 ?_
  exact own_refl
theorem own_s7_4 (xa : Int32) (xb : Int32) (xc : Int32) (xs : Int32) (v3 : Int32) (v9 : Int32) (v15 : Int32) (ai : Addr) (v115 : UInt64) (hv115 : (FP.i2d v15) = v115) :
    own_Go own_K0 code 110 #[.val (.int xa), .val (.int xb), .val (.int xc), .val (.int xs), .val (.int v3), .val (.int v9), .val (.int v15), .val (.int (3 : Int32)), .val (.ref ai), .unset, .unset, .unset, .unset, .unset, .unset, .unset] [] 116 #[.val (.int xa), .val (.int xb), .val (.int xc), .val (.int xs), .val (.int v3), .val (.int v9), .val (.int v15), .val (.int (3 : Int32)), .val (.ref ai), .unset, .unset, .unset, .unset, .unset, .unset, .unset] [(.double v115), (.int (2 : Int32)), (.ref ai)] := by
  refine own_aload (pc2 := 112) at_110 rfl rfl rfl ?_
  refine own_iconst (v := 2) (pc2 := 113) at_112 rfl rfl ?_
  refine own_iload (pc2 := 115) at_113 rfl rfl ?_
  refine own_i2d (pc2 := 116) at_115 rfl (v := v115) hv115 ?_
  exact own_refl
theorem own_s7_5 (xa : Int32) (xb : Int32) (xc : Int32) (xs : Int32) (v3 : Int32) (v9 : Int32) (v15 : Int32) (ai : Addr) (v119 : Int64) (hv119 : v3.toInt64 = v119) (v122 : Int64) (hv122 : v9.toInt64 = v122) (v123 : Int64) (hv123 : (v119 + v122) = v123) (v126 : Int64) (hv126 : v15.toInt64 = v126) (v127 : Int64) (hv127 : (v123 + v126) = v127) (v133 : Int32) (hv133 : (if v127 > (0 : Int64) then (1 : Int32) else if v127 = (0 : Int64) then 0 else -1) = v133) (hb134 : ifCond.holds .ne v133 = true) :
    own_Go own_K0 code 117 #[.val (.int xa), .val (.int xb), .val (.int xc), .val (.int xs), .val (.int v3), .val (.int v9), .val (.int v15), .val (.int (3 : Int32)), .val (.ref ai), .unset, .unset, .unset, .unset, .unset, .unset, .unset] [] 139 #[.val (.int xa), .val (.int xb), .val (.int xc), .val (.int xs), .val (.int v3), .val (.int v9), .val (.int v15), .val (.int (3 : Int32)), .val (.ref ai), .val (.long v127), .second, .unset, .unset, .unset, .unset, .unset] [] := by
  refine own_iload (pc2 := 119) at_117 rfl rfl ?_
  refine own_i2l (pc2 := 120) at_119 rfl (v := v119) hv119 ?_
  refine own_iload (pc2 := 122) at_120 rfl rfl ?_
  refine own_i2l (pc2 := 123) at_122 rfl (v := v122) hv122 ?_
  refine own_ladd (pc2 := 124) at_123 rfl (v := v123) hv123 ?_
  refine own_iload (pc2 := 126) at_124 rfl rfl ?_
  refine own_i2l (pc2 := 127) at_126 rfl (v := v126) hv126 ?_
  refine own_ladd (pc2 := 128) at_127 rfl (v := v127) hv127 ?_
  refine own_lstore (pc2 := 130) at_128 rfl (L' := #[.val (.int xa), .val (.int xb), .val (.int xc), .val (.int xs), .val (.int v3), .val (.int v9), .val (.int v15), .val (.int (3 : Int32)), .val (.ref ai), .val (.long v127), .second, .unset, .unset, .unset, .unset, .unset]) rfl ?_
  refine own_lload (pc2 := 132) at_130 rfl rfl ?_
  refine own_lconst (v := 0) (pc2 := 133) at_132 rfl rfl ?_
  refine own_lcmp (pc2 := 134) at_133 rfl (v := v133) hv133 ?_
  refine own_ifYes (pc' := 139) at_134 hb134 (by decide) (by decide) ?_
  exact own_refl
theorem own_s7_6 (xa : Int32) (xb : Int32) (xc : Int32) (xs : Int32) (v3 : Int32) (v9 : Int32) (v15 : Int32) (ai : Addr) (v127 : Int64) (x : Addr) :
    own_Go own_K0 code 142 #[.val (.int xa), .val (.int xb), .val (.int xc), .val (.int xs), .val (.int v3), .val (.int v9), .val (.int v15), .val (.int (3 : Int32)), .val (.ref ai), .val (.long v127), .second, .unset, .unset, .unset, .unset, .unset] [(.ref x)] 145 #[.val (.int xa), .val (.int xb), .val (.int xc), .val (.int xs), .val (.int v3), .val (.int v9), .val (.int v15), .val (.int (3 : Int32)), .val (.ref ai), .val (.long v127), .second, .unset, .unset, .unset, .unset, .unset] [(.ref ai), (.ref x), (.ref x)] := by
  refine own_dup (pc2 := 143) at_142 rfl rfl ?_
  refine own_aload (pc2 := 145) at_143 rfl rfl rfl ?_
  exact own_refl
theorem own_s7_7 (xa : Int32) (xb : Int32) (xc : Int32) (xs : Int32) (v3 : Int32) (v9 : Int32) (v15 : Int32) (ai : Addr) (v127 : Int64) (x : Addr) :
    own_Go own_K0 code 148 #[.val (.int xa), .val (.int xb), .val (.int xc), .val (.int xs), .val (.int v3), .val (.int v9), .val (.int v15), .val (.int (3 : Int32)), .val (.ref ai), .val (.long v127), .second, .unset, .unset, .unset, .unset, .unset] [(.ref x)] 152 #[.val (.int xa), .val (.int xb), .val (.int xc), .val (.int xs), .val (.int v3), .val (.int v9), .val (.int v15), .val (.int (3 : Int32)), .val (.ref ai), .val (.long v127), .second, .val (.ref x), .unset, .unset, .unset, .unset] [(.ref x)] := by
  refine own_astore (pc2 := 150) at_148 rfl rfl (L' := #[.val (.int xa), .val (.int xb), .val (.int xc), .val (.int xs), .val (.int v3), .val (.int v9), .val (.int v15), .val (.int (3 : Int32)), .val (.ref ai), .val (.long v127), .second, .val (.ref x), .unset, .unset, .unset, .unset]) rfl ?_
  refine own_aload (pc2 := 152) at_150 rfl rfl rfl ?_
  exact own_refl
theorem own_s7_8 (xa : Int32) (xb : Int32) (xc : Int32) (xs : Int32) (v3 : Int32) (v9 : Int32) (v15 : Int32) (ai : Addr) (v127 : Int64) (x : Addr) (z : Addr) :
    own_Go own_K0 code 155 #[.val (.int xa), .val (.int xb), .val (.int xc), .val (.int xs), .val (.int v3), .val (.int v9), .val (.int v15), .val (.int (3 : Int32)), .val (.ref ai), .val (.long v127), .second, .val (.ref x), .unset, .unset, .unset, .unset] [(.ref z)] 159 #[.val (.int xa), .val (.int xb), .val (.int xc), .val (.int xs), .val (.int v3), .val (.int v9), .val (.int v15), .val (.int (3 : Int32)), .val (.ref ai), .val (.long v127), .second, .val (.ref x), .val (.ref z), .unset, .unset, .unset] [(.ref z)] := by
  refine own_astore (pc2 := 157) at_155 rfl rfl (L' := #[.val (.int xa), .val (.int xb), .val (.int xc), .val (.int xs), .val (.int v3), .val (.int v9), .val (.int v15), .val (.int (3 : Int32)), .val (.ref ai), .val (.long v127), .second, .val (.ref x), .val (.ref z), .unset, .unset, .unset]) rfl ?_
  refine own_aload (pc2 := 159) at_157 rfl rfl rfl ?_
  exact own_refl
theorem own_s7_9 (xa : Int32) (xb : Int32) (xc : Int32) (xs : Int32) (v3 : Int32) (v9 : Int32) (v15 : Int32) (ai : Addr) (v127 : Int64) (x : Addr) (z : Addr) (v169 : UInt64) (hv169 : (FP.l2d v127) = v169) :
    own_Go own_K0 code 160 #[.val (.int xa), .val (.int xb), .val (.int xc), .val (.int xs), .val (.int v3), .val (.int v9), .val (.int v15), .val (.int (3 : Int32)), .val (.ref ai), .val (.long v127), .second, .val (.ref x), .val (.ref z), .unset, .unset, .unset] [(.int (3 : Int32))] 175 #[.val (.int xa), .val (.int xb), .val (.int xc), .val (.int xs), .val (.int v3), .val (.int v9), .val (.int v15), .val (.int (3 : Int32)), .val (.ref ai), .val (.long v127), .second, .val (.ref x), .val (.ref z), .val (.double v169), .second, .unset] [(.int (0 : Int32)), (.ref z)] := by
  refine own_iload (pc2 := 162) at_160 rfl rfl ?_
  refine own_icmpYes (pc' := 167) at_162 (by decide) (by decide) (by decide) ?_
  refine own_lload (pc2 := 169) at_167 rfl rfl ?_
  refine own_l2d (pc2 := 170) at_169 rfl (v := v169) hv169 ?_
  refine own_dstore (pc2 := 172) at_170 rfl (L' := #[.val (.int xa), .val (.int xb), .val (.int xc), .val (.int xs), .val (.int v3), .val (.int v9), .val (.int v15), .val (.int (3 : Int32)), .val (.ref ai), .val (.long v127), .second, .val (.ref x), .val (.ref z), .val (.double v169), .second, .unset]) rfl ?_
  refine own_aload (pc2 := 174) at_172 rfl rfl rfl ?_
  refine own_iconst (v := 0) (pc2 := 175) at_174 rfl rfl ?_
  exact own_refl
theorem own_s7_10 (xa : Int32) (xb : Int32) (xc : Int32) (xs : Int32) (v3 : Int32) (v9 : Int32) (v15 : Int32) (ai : Addr) (v127 : Int64) (x : Addr) (z : Addr) (v169 : UInt64) (v178 : UInt64) (hv178 : (FP.i2d v3) = v178) (v181 : UInt64) (hv181 : (FP.ddiv v178 v169) = v181) (nn181 : NoNaN64 (FP.ddiv v178 v169)) (v182 : Int32) (hv182 : (cmpValue (FP.dcmp (FP.ddiv v101 tt) v181) .l) = v182) (hb183 : ifCond.holds .eq v182 = true) :
    own_Go own_K0 code 176 #[.val (.int xa), .val (.int xb), .val (.int xc), .val (.int xs), .val (.int v3), .val (.int v9), .val (.int v15), .val (.int (3 : Int32)), .val (.ref ai), .val (.long v127), .second, .val (.ref x), .val (.ref z), .val (.double v169), .second, .unset] [(.double (FP.ddiv v101 tt))] 197 #[.val (.int xa), .val (.int xb), .val (.int xc), .val (.int xs), .val (.int v3), .val (.int v9), .val (.int v15), .val (.int (3 : Int32)), .val (.ref ai), .val (.long v127), .second, .val (.ref x), .val (.ref z), .val (.double v169), .second, .unset] [(.int (1 : Int32)), (.ref z)] := by
  refine own_iload (pc2 := 178) at_176 rfl rfl ?_
  refine own_i2d (pc2 := 179) at_178 rfl (v := v178) hv178 ?_
  refine own_dload (pc2 := 181) at_179 rfl rfl ?_
  refine own_ddiv (pc2 := 182) at_181 rfl nn181 (v := v181) hv181 ?_
  refine own_dcmp (pc2 := 183) at_182 rfl (v := v182) hv182 ?_
  refine own_ifYes (pc' := 188) at_183 hb183 (by decide) (by decide) ?_
  refine own_iload (pc2 := 190) at_188 rfl rfl ?_
  refine own_iconst (v := 2) (pc2 := 191) at_190 rfl rfl ?_
  refine own_icmpNo (pc2 := 194) at_191 rfl (by decide) ?_
  refine own_aload (pc2 := 196) at_194 rfl rfl rfl ?_
  refine own_iconst (v := 1) (pc2 := 197) at_196 rfl rfl ?_
  exact own_refl
theorem own_s7_11 (xa : Int32) (xb : Int32) (xc : Int32) (xs : Int32) (v3 : Int32) (v9 : Int32) (v15 : Int32) (ai : Addr) (v127 : Int64) (x : Addr) (z : Addr) (v169 : UInt64) (v200 : UInt64) (hv200 : (FP.i2d v9) = v200) (v203 : UInt64) (hv203 : (FP.ddiv v200 v169) = v203) (nn203 : NoNaN64 (FP.ddiv v200 v169)) (v204 : Int32) (hv204 : (cmpValue (FP.dcmp (FP.ddiv v108 tt) v203) .l) = v204) (hb205 : ifCond.holds .eq v204 = true) :
    own_Go own_K0 code 198 #[.val (.int xa), .val (.int xb), .val (.int xc), .val (.int xs), .val (.int v3), .val (.int v9), .val (.int v15), .val (.int (3 : Int32)), .val (.ref ai), .val (.long v127), .second, .val (.ref x), .val (.ref z), .val (.double v169), .second, .unset] [(.double (FP.ddiv v108 tt))] 219 #[.val (.int xa), .val (.int xb), .val (.int xc), .val (.int xs), .val (.int v3), .val (.int v9), .val (.int v15), .val (.int (3 : Int32)), .val (.ref ai), .val (.long v127), .second, .val (.ref x), .val (.ref z), .val (.double v169), .second, .unset] [(.int (2 : Int32)), (.ref z)] := by
  refine own_iload (pc2 := 200) at_198 rfl rfl ?_
  refine own_i2d (pc2 := 201) at_200 rfl (v := v200) hv200 ?_
  refine own_dload (pc2 := 203) at_201 rfl rfl ?_
  refine own_ddiv (pc2 := 204) at_203 rfl nn203 (v := v203) hv203 ?_
  refine own_dcmp (pc2 := 205) at_204 rfl (v := v204) hv204 ?_
  refine own_ifYes (pc' := 210) at_205 hb205 (by decide) (by decide) ?_
  refine own_iload (pc2 := 212) at_210 rfl rfl ?_
  refine own_iconst (v := 3) (pc2 := 213) at_212 rfl rfl ?_
  refine own_icmpNo (pc2 := 216) at_213 rfl (by decide) ?_
  refine own_aload (pc2 := 218) at_216 rfl rfl rfl ?_
  refine own_iconst (v := 2) (pc2 := 219) at_218 rfl rfl ?_
  exact own_refl
theorem own_s7_12 (xa : Int32) (xb : Int32) (xc : Int32) (xs : Int32) (v3 : Int32) (v9 : Int32) (v15 : Int32) (ai : Addr) (v127 : Int64) (x : Addr) (z : Addr) (v169 : UInt64) (v222 : UInt64) (hv222 : (FP.i2d v15) = v222) (v225 : UInt64) (hv225 : (FP.ddiv v222 v169) = v225) (nn225 : NoNaN64 (FP.ddiv v222 v169)) (v226 : Int32) (hv226 : (cmpValue (FP.dcmp (FP.ddiv v115 tt) v225) .l) = v226) (hb227 : ifCond.holds .eq v226 = true) :
    own_Go own_K0 code 220 #[.val (.int xa), .val (.int xb), .val (.int xc), .val (.int xs), .val (.int v3), .val (.int v9), .val (.int v15), .val (.int (3 : Int32)), .val (.ref ai), .val (.long v127), .second, .val (.ref x), .val (.ref z), .val (.double v169), .second, .unset] [(.double (FP.ddiv v115 tt))] 238 #[.val (.int xa), .val (.int xb), .val (.int xc), .val (.int xs), .val (.int v3), .val (.int v9), .val (.int v15), .val (.int (3 : Int32)), .val (.ref ai), .val (.long v127), .second, .val (.ref x), .val (.ref z), .val (.double v169), .second, .unset] [(.double (13830554455654793216 : UInt64)), (.int (0 : Int32)), (.ref z)] := by
  refine own_iload (pc2 := 222) at_220 rfl rfl ?_
  refine own_i2d (pc2 := 223) at_222 rfl (v := v222) hv222 ?_
  refine own_dload (pc2 := 225) at_223 rfl rfl ?_
  refine own_ddiv (pc2 := 226) at_225 rfl nn225 (v := v225) hv225 ?_
  refine own_dcmp (pc2 := 227) at_226 rfl (v := v226) hv226 ?_
  refine own_ifYes (pc' := 232) at_227 hb227 (by decide) (by decide) ?_
  refine own_aload (pc2 := 234) at_232 rfl rfl rfl ?_
  refine own_iconst (v := 0) (pc2 := 235) at_234 rfl rfl ?_
  refine own_ldc2D (v := (13830554455654793216 : UInt64)) (pc2 := 238) at_235 rfl (List.mem_of_getElem? (i := 2) rfl) ?_
  exact own_refl
theorem own_s7_13 (xa : Int32) (xb : Int32) (xc : Int32) (xs : Int32) (v3 : Int32) (v9 : Int32) (v15 : Int32) (ai : Addr) (v127 : Int64) (x : Addr) (z : Addr) (v169 : UInt64) :
    own_Go own_K0 code 239 #[.val (.int xa), .val (.int xb), .val (.int xc), .val (.int xs), .val (.int v3), .val (.int v9), .val (.int v15), .val (.int (3 : Int32)), .val (.ref ai), .val (.long v127), .second, .val (.ref x), .val (.ref z), .val (.double v169), .second, .unset] [] 241 #[.val (.int xa), .val (.int xb), .val (.int xc), .val (.int xs), .val (.int v3), .val (.int v9), .val (.int v15), .val (.int (3 : Int32)), .val (.ref ai), .val (.long v127), .second, .val (.ref x), .val (.ref z), .val (.double v169), .second, .unset] [(.ref x)] := by
  refine own_aload (pc2 := 241) at_239 rfl rfl rfl ?_
  exact own_refl
theorem own_s7_14 (xa : Int32) (xb : Int32) (xc : Int32) (xs : Int32) (v3 : Int32) (v9 : Int32) (v15 : Int32) (ai : Addr) (v127 : Int64) (x : Addr) (z : Addr) (v169 : UInt64) (z2 : Addr) :
    own_Go own_K0 code 244 #[.val (.int xa), .val (.int xb), .val (.int xc), .val (.int xs), .val (.int v3), .val (.int v9), .val (.int v15), .val (.int (3 : Int32)), .val (.ref ai), .val (.long v127), .second, .val (.ref x), .val (.ref z), .val (.double v169), .second, .unset] [(.ref z2)] 248 #[.val (.int xa), .val (.int xb), .val (.int xc), .val (.int xs), .val (.int v3), .val (.int v9), .val (.int v15), .val (.int (3 : Int32)), .val (.ref ai), .val (.long v127), .second, .val (.ref x), .val (.ref z), .val (.double v169), .second, .val (.ref z2)] [(.ref z2)] := by
  refine own_astore (pc2 := 246) at_244 rfl rfl (L' := #[.val (.int xa), .val (.int xb), .val (.int xc), .val (.int xs), .val (.int v3), .val (.int v9), .val (.int v15), .val (.int (3 : Int32)), .val (.ref ai), .val (.long v127), .second, .val (.ref x), .val (.ref z), .val (.double v169), .second, .val (.ref z2)]) rfl ?_
  refine own_aload (pc2 := 248) at_246 rfl rfl rfl ?_
  exact own_refl
theorem own_s7_15 (xa : Int32) (xb : Int32) (xc : Int32) (xs : Int32) (v3 : Int32) (v9 : Int32) (v15 : Int32) (ai : Addr) (v127 : Int64) (x : Addr) (z : Addr) (v169 : UInt64) (z2 : Addr) :
    own_Go own_K0 code 249 #[.val (.int xa), .val (.int xb), .val (.int xc), .val (.int xs), .val (.int v3), .val (.int v9), .val (.int v15), .val (.int (3 : Int32)), .val (.ref ai), .val (.long v127), .second, .val (.ref x), .val (.ref z), .val (.double v169), .second, .val (.ref z2)] [(.int (3 : Int32))] 259 #[.val (.int xa), .val (.int xb), .val (.int xc), .val (.int xs), .val (.int v3), .val (.int v9), .val (.int v15), .val (.int (3 : Int32)), .val (.ref ai), .val (.long v127), .second, .val (.ref x), .val (.ref z), .val (.double v169), .second, .val (.ref z2)] [(.int (0 : Int32)), (.ref z2)] := by
  refine own_iload (pc2 := 251) at_249 rfl rfl ?_
  refine own_icmpYes (pc' := 256) at_251 (by decide) (by decide) (by decide) ?_
  refine own_aload (pc2 := 258) at_256 rfl rfl rfl ?_
  refine own_iconst (v := 0) (pc2 := 259) at_258 rfl rfl ?_
  exact own_refl
theorem own_s7_16 (xa : Int32) (xb : Int32) (xc : Int32) (xs : Int32) (v3 : Int32) (v9 : Int32) (v15 : Int32) (ai : Addr) (v127 : Int64) (x : Addr) (z : Addr) (v169 : UInt64) (z2 : Addr) (v262 : UInt64) (hv262 : (FP.i2d v3) = v262) (v265 : UInt64) (hv265 : (FP.ddiv v262 v169) = v265) (nn265 : NoNaN64 (FP.ddiv v262 v169)) (v266 : Int32) (hv266 : (cmpValue (FP.dcmp (FP.ddiv v101 tt) v265) .l) = v266) (hb267 : ifCond.holds .ne v266 = false) :
    own_Go own_K0 code 260 #[.val (.int xa), .val (.int xb), .val (.int xc), .val (.int xs), .val (.int v3), .val (.int v9), .val (.int v15), .val (.int (3 : Int32)), .val (.ref ai), .val (.long v127), .second, .val (.ref x), .val (.ref z), .val (.double v169), .second, .val (.ref z2)] [(.double (FP.ddiv v101 tt))] 275 #[.val (.int xa), .val (.int xb), .val (.int xc), .val (.int xs), .val (.int v3), .val (.int v9), .val (.int v15), .val (.int (3 : Int32)), .val (.ref ai), .val (.long v127), .second, .val (.ref x), .val (.ref z), .val (.double v169), .second, .val (.ref z2)] [(.int (1 : Int32))] := by
  refine own_iload (pc2 := 262) at_260 rfl rfl ?_
  refine own_i2d (pc2 := 263) at_262 rfl (v := v262) hv262 ?_
  refine own_dload (pc2 := 265) at_263 rfl rfl ?_
  refine own_ddiv (pc2 := 266) at_265 rfl nn265 (v := v265) hv265 ?_
  refine own_dcmp (pc2 := 267) at_266 rfl (v := v266) hv266 ?_
  refine own_ifNo (pc2 := 270) at_267 rfl hb267 ?_
  refine own_iconst (v := 1) (pc2 := 271) at_270 rfl rfl ?_
  refine own_goto (pc' := 275) at_271 (by decide) (by decide) ?_
  exact own_refl
set_option maxRecDepth 65536 in
set_option maxHeartbeats 40000000 in
theorem own_law7 (l : Launch) (Z : State) (a0 : Array Value) (hb0 : Heap) (hw : ∀ d ∈ tables_1, d.before a0 Z = true) (xa : Int32) (xb : Int32) (xc : Int32) (xs : Int32) (hsel : ((xs &&& (2147483647 : Int32)) - ((xs &&& (2147483647 : Int32)) / (3 : Int32)) * (3 : Int32)) + (1 : Int32) = (3 : Int32)) (hz : (xa &&& 1048575).toInt + (xb &&& 1048575).toInt + (xc &&& 1048575).toInt ≠ 0) :
    own_Met l Z a0 hb0 x code maxLocals ret tables_1 room_1 #[(.int xa), (.int xb), (.int xc), (.int xs)] [] (fun v _ => v = some (.int 1)) := by
  refine own_met_of (L0 := #[.val (.int xa), .val (.int xb), .val (.int xc), .val (.int xs), .unset, .unset, .unset, .unset, .unset, .unset, .unset, .unset, .unset, .unset, .unset, .unset]) (plainFor_of_name own_pn0) (fun m => own_ef0 m xa xb xc xs) ?_
  intro p e s m below meth c T0 hx hZ hown hby hml hnm H0
  have hown : s.vm.findClass "com/example/tangentia/tangentia/flash/FeedMoleFractionsPinLaw" = some m.cls := hown
  have hml : c.maxLocals = 16 := hml
  obtain ⟨v3, hv3⟩ : ∃ z : Int32, (xa &&& (1048575 : Int32)) = z := ⟨_, rfl⟩
  obtain ⟨v9, hv9⟩ : ∃ z : Int32, (xb &&& (1048575 : Int32)) = z := ⟨_, rfl⟩
  obtain ⟨v15, hv15⟩ : ∃ z : Int32, (xc &&& (1048575 : Int32)) = z := ⟨_, rfl⟩
  obtain ⟨v21, hv21⟩ : ∃ z : Int32, (xs &&& (2147483647 : Int32)) = z := ⟨_, rfl⟩
  obtain ⟨v23, hv23⟩ : ∃ z : Int32, (v21 - (v21 / (3 : Int32)) * (3 : Int32)) = z := ⟨_, rfl⟩
  obtain ⟨Ts7_1, ai, Hs7_1, sts7_1⟩ := own_newA H0 hx hZ (hw _ (List.mem_of_getElem? (i := 2) rfl)) (g := (mkF m 92 #[.val (.int xa), .val (.int xb), .val (.int xc), .val (.int xs), .val (.int v3), .val (.int v9), .val (.int v15), .val (.int (3 : Int32)), .unset, .unset, .unset, .unset, .unset, .unset, .unset, .unset] [(.int (3 : Int32))])) rfl (hb hby at_92) rfl (by decide) (cap := 3) (by decide) (by decide) (by decide) (by decide)
  change own_S _ _ _ _ _ _ _ _ _ _ _ _ _ _ [(ai, own_A .double [.double 0, .double 0, .double 0])] _ _ at Hs7_1
  obtain ⟨v101, hv101⟩ : ∃ z : UInt64, (FP.i2d v3) = z := ⟨_, rfl⟩
  obtain ⟨Ts7_2, Hs7_2, sts7_2⟩ := own_dastore Hs7_1 hx hZ 0 0 rfl (by decide) (Nat.le_of_ble_eq_true rfl) (g := (mkF m 102 #[.val (.int xa), .val (.int xb), .val (.int xc), .val (.int xs), .val (.int v3), .val (.int v9), .val (.int v15), .val (.int (3 : Int32)), .val (.ref ai), .unset, .unset, .unset, .unset, .unset, .unset, .unset] [(.double v101), (.int (0 : Int32)), (.ref ai)])) rfl rfl (hb hby at_102)
  change own_S _ _ _ _ _ _ _ _ _ _ _ _ _ _ [(ai, own_A .double [.double v101, .double 0, .double 0])] _ _ at Hs7_2
  obtain ⟨v108, hv108⟩ : ∃ z : UInt64, (FP.i2d v9) = z := ⟨_, rfl⟩
  obtain ⟨Ts7_3, Hs7_3, sts7_3⟩ := own_dastore Hs7_2 hx hZ 0 1 rfl (by decide) (Nat.le_of_ble_eq_true rfl) (g := (mkF m 109 #[.val (.int xa), .val (.int xb), .val (.int xc), .val (.int xs), .val (.int v3), .val (.int v9), .val (.int v15), .val (.int (3 : Int32)), .val (.ref ai), .unset, .unset, .unset, .unset, .unset, .unset, .unset] [(.double v108), (.int (1 : Int32)), (.ref ai)])) rfl rfl (hb hby at_109)
  change own_S _ _ _ _ _ _ _ _ _ _ _ _ _ _ [(ai, own_A .double [.double v101, .double v108, .double 0])] _ _ at Hs7_3
  obtain ⟨v115, hv115⟩ : ∃ z : UInt64, (FP.i2d v15) = z := ⟨_, rfl⟩
  obtain ⟨Ts7_4, Hs7_4, sts7_4⟩ := own_dastore Hs7_3 hx hZ 0 2 rfl (by decide) (Nat.le_of_ble_eq_true rfl) (g := (mkF m 116 #[.val (.int xa), .val (.int xb), .val (.int xc), .val (.int xs), .val (.int v3), .val (.int v9), .val (.int v15), .val (.int (3 : Int32)), .val (.ref ai), .unset, .unset, .unset, .unset, .unset, .unset, .unset] [(.double v115), (.int (2 : Int32)), (.ref ai)])) rfl rfl (hb hby at_116)
  change own_S _ _ _ _ _ _ _ _ _ _ _ _ _ _ [(ai, own_A .double [.double v101, .double v108, .double v115])] _ _ at Hs7_4
  obtain ⟨v119, hv119⟩ : ∃ z : Int64, v3.toInt64 = z := ⟨_, rfl⟩
  obtain ⟨v122, hv122⟩ : ∃ z : Int64, v9.toInt64 = z := ⟨_, rfl⟩
  obtain ⟨v123, hv123⟩ : ∃ z : Int64, (v119 + v122) = z := ⟨_, rfl⟩
  obtain ⟨v126, hv126⟩ : ∃ z : Int64, v15.toInt64 = z := ⟨_, rfl⟩
  obtain ⟨v127, hv127⟩ : ∃ z : Int64, (v123 + v126) = z := ⟨_, rfl⟩
  obtain ⟨v133, hv133⟩ : ∃ z : Int32, (if v127 > (0 : Int64) then (1 : Int32) else if v127 = (0 : Int64) then 0 else -1) = z := ⟨_, rfl⟩
  have hn : v23 + (1 : Int32) = (3 : Int32) := by rw [← hv23, ← hv21]; exact hsel
  have b0 := own_bd xa
  have b1 := own_bd xb
  have b2 := own_bd xc
  have e119 : v119.toInt = (xa &&& 1048575).toInt := by rw [← hv119, ← hv3]; exact c_i2l _
  have e122 : v122.toInt = (xb &&& 1048575).toInt := by rw [← hv122, ← hv9]; exact c_i2l _
  have e126 : v126.toInt = (xc &&& 1048575).toInt := by rw [← hv126, ← hv15]; exact c_i2l _
  have e123 : v123.toInt = (xa &&& 1048575).toInt + (xb &&& 1048575).toInt := by
    have q := c_ladd v119 v122
    have := rng64 v123
    rw [hv123, e119, e122] at q
    omega
  have e127 : v127.toInt = (xa &&& 1048575).toInt + (xb &&& 1048575).toInt + (xc &&& 1048575).toInt := by
    have q := c_ladd v123 v126
    have := rng64 v127
    rw [hv127, e123, e126] at q
    omega
  have hb134 : ifCond.holds .ne v133 = true := by
    rw [← hv133, own_lc_ne, show (0 : Int64).toInt = 0 from rfl, e127]
    exact decide_eq_true hz
  have i0 : own_is v101 (((xa &&& 1048575).toInt : Int) : Rat) := by rw [← hv101, ← hv3]; exact own_isI _
  have i1 : own_is v108 (((xb &&& 1048575).toInt : Int) : Rat) := by rw [← hv108, ← hv9]; exact own_isI _
  have i2 : own_is v115 (((xc &&& 1048575).toInt : Int) : Rat) := by rw [← hv115, ← hv15]; exact own_isI _
  obtain ⟨Ts7_5, x, Hs7_5, sts7_5⟩ := own_newO Hs7_4 hx hZ hown (hw _ (List.mem_of_getElem? (i := 3) rfl)) (hw _ (List.mem_of_getElem? (i := 4) rfl)) (hw _ (List.mem_of_getElem? (i := 5) rfl)) [("com/example/tangentia/tangentia/flash/Feed", "amounts", "[D", .null), ("com/example/tangentia/tangentia/flash/Feed", "total", "D", .double 0)] (by
      intro f hf
      simp only [List.mem_cons, List.not_mem_nil, or_false] at hf
      rcases hf with rfl | rfl
      · exact ⟨Or.inr (hw _ (List.mem_of_getElem? (i := 31) rfl)), (.array .double), by decide, rfl⟩
      · exact ⟨Or.inr (hw _ (List.mem_of_getElem? (i := 33) rfl)), .double, by decide, rfl⟩) (by decide) (g := (mkF m 139 #[.val (.int xa), .val (.int xb), .val (.int xc), .val (.int xs), .val (.int v3), .val (.int v9), .val (.int v15), .val (.int (3 : Int32)), .val (.ref ai), .val (.long v127), .second, .unset, .unset, .unset, .unset, .unset] [])) rfl (hb hby at_139) (by decide) (by decide)
  change own_S _ _ _ _ _ _ _ _ _ _ _ _ _ _ [(ai, own_A .double [.double v101, .double v108, .double v115]), (x, own_O "com/example/tangentia/tangentia/flash/Feed" [("com/example/tangentia/tangentia/flash/Feed", "amounts", "[D", .null), ("com/example/tangentia/tangentia/flash/Feed", "total", "D", .double 0)])] _ _ at Hs7_5
  obtain ⟨Ts7_6, vs7_6_, css7_6_, qs7_6, Hs7_6, sts7_6⟩ := own_callI Hs7_5 hx hZ hown rfl (hw _ (List.mem_of_getElem? (i := 6) rfl)) (hw _ (List.mem_of_getElem? (i := 7) rfl)) (hw _ (List.mem_of_getElem? (i := 5) rfl)) (hw _ (List.mem_of_getElem? (i := 8) rfl)) (by decide) (x := x) (argsL := [(.ref ai)]) (rest := [(.ref x)]) (W := 1) (own_feed3 l Z a0 hb0 hw x ai v101 _ i0 b0 v108 _ i1 b1 v115 _ i2 b2 (by omega)) (by decide) (by decide) (by decide) (by decide) (g := (mkF m 145 #[.val (.int xa), .val (.int xb), .val (.int xc), .val (.int xs), .val (.int v3), .val (.int v9), .val (.int v15), .val (.int (3 : Int32)), .val (.ref ai), .val (.long v127), .second, .unset, .unset, .unset, .unset, .unset] [(.ref ai), (.ref x), (.ref x)])) rfl (by rw [hml]; rfl) (lenOf own_pd4 rfl) rfl (by show 2 * 0 + _ ≤ _; exact Nat.le_of_eq rfl) (hb hby at_145)
  obtain ⟨y, tt, it, rfl, rfl⟩ := qs7_6
  change own_S _ _ _ _ _ _ _ _ _ _ _ _ _ _ [(ai, own_A .double [.double v101, .double v108, .double v115]), (x, own_O "com/example/tangentia/tangentia/flash/Feed" [("com/example/tangentia/tangentia/flash/Feed", "amounts", "[D", .ref y), ("com/example/tangentia/tangentia/flash/Feed", "total", "D", .double tt)]), (y, own_A .double [.double v101, .double v108, .double v115])] _ _ at Hs7_6
  have hS : ((((0 : Int) + (xa &&& 1048575).toInt) + (xb &&& 1048575).toInt) + (xc &&& 1048575).toInt) = (xa &&& 1048575).toInt + (xb &&& 1048575).toInt + (xc &&& 1048575).toInt := by omega
  rw [hS] at it
  have hS0 : (((xa &&& 1048575).toInt + (xb &&& 1048575).toInt + (xc &&& 1048575).toInt : Int) : Rat) ≠ 0 := by rw [Ne, Rat.intCast_eq_zero_iff]; exact hz
  have w0 := own_div i0 it hS0
  have w1 := own_div i1 it hS0
  have w2 := own_div i2 it hS0
  obtain ⟨Ts7_7, vs7_7_, css7_7_, qs7_7, Hs7_7, sts7_7⟩ := own_callV Hs7_6 hx hZ hown (hw _ (List.mem_of_getElem? (i := 34) rfl)) (hw _ (List.mem_of_getElem? (i := 35) rfl)) (hw _ (List.mem_of_getElem? (i := 37) rfl)) (hw _ (List.mem_of_getElem? (i := 36) rfl)) (hw _ (List.mem_of_getElem? (i := 5) rfl)) (hw _ (List.mem_of_getElem? (i := 38) rfl)) (by decide) (x := x) 1 rfl (argsL := []) (rest := []) (W := 0) (own_mol30 l Z a0 hb0 hw x ai y _ tt v101 (own_rd_no w0) v108 (own_rd_no w1) v115 (own_rd_no w2)) (by decide) (by decide) (by decide) (by decide) (g := (mkF m 152 #[.val (.int xa), .val (.int xb), .val (.int xc), .val (.int xs), .val (.int v3), .val (.int v9), .val (.int v15), .val (.int (3 : Int32)), .val (.ref ai), .val (.long v127), .second, .val (.ref x), .unset, .unset, .unset, .unset] [(.ref x)])) rfl (by rw [hml]; rfl) (lenOf own_pd1 rfl) rfl (by show 2 * 0 + _ ≤ _; exact Nat.le_of_eq rfl) (hb hby at_152)
  obtain ⟨z, rfl, rfl⟩ := qs7_7
  change own_S _ _ _ _ _ _ _ _ _ _ _ _ _ _ [(ai, own_A .double [.double v101, .double v108, .double v115]), (x, own_O "com/example/tangentia/tangentia/flash/Feed" [("com/example/tangentia/tangentia/flash/Feed", "amounts", "[D", .ref y), ("com/example/tangentia/tangentia/flash/Feed", "total", "D", .double tt)]), (y, own_A .double [.double v101, .double v108, .double v115]), (z, own_A .double [.double (FP.ddiv v101 tt), .double (FP.ddiv v108 tt), .double (FP.ddiv v115 tt)])] _ _ at Hs7_7
  obtain ⟨v169, hv169⟩ : ∃ z : UInt64, (FP.l2d v127) = z := ⟨_, rfl⟩
  obtain ⟨v178, hv178⟩ : ∃ z : UInt64, (FP.i2d v3) = z := ⟨_, rfl⟩
  obtain ⟨v181, hv181⟩ : ∃ z : UInt64, (FP.ddiv v178 v169) = z := ⟨_, rfl⟩
  obtain ⟨v182, hv182⟩ : ∃ z : Int32, (cmpValue (FP.dcmp (FP.ddiv v101 tt) v181) .l) = z := ⟨_, rfl⟩
  obtain ⟨v200, hv200⟩ : ∃ z : UInt64, (FP.i2d v9) = z := ⟨_, rfl⟩
  obtain ⟨v203, hv203⟩ : ∃ z : UInt64, (FP.ddiv v200 v169) = z := ⟨_, rfl⟩
  obtain ⟨v204, hv204⟩ : ∃ z : Int32, (cmpValue (FP.dcmp (FP.ddiv v108 tt) v203) .l) = z := ⟨_, rfl⟩
  obtain ⟨v222, hv222⟩ : ∃ z : UInt64, (FP.i2d v15) = z := ⟨_, rfl⟩
  obtain ⟨v225, hv225⟩ : ∃ z : UInt64, (FP.ddiv v222 v169) = z := ⟨_, rfl⟩
  obtain ⟨v226, hv226⟩ : ∃ z : Int32, (cmpValue (FP.dcmp (FP.ddiv v115 tt) v225) .l) = z := ⟨_, rfl⟩
  obtain ⟨Ts7_12, Hs7_12, sts7_12⟩ := own_dastore Hs7_7 hx hZ 3 0 rfl (by decide) (Nat.le_of_ble_eq_true rfl) (g := (mkF m 238 #[.val (.int xa), .val (.int xb), .val (.int xc), .val (.int xs), .val (.int v3), .val (.int v9), .val (.int v15), .val (.int (3 : Int32)), .val (.ref ai), .val (.long v127), .second, .val (.ref x), .val (.ref z), .val (.double v169), .second, .unset] [(.double (13830554455654793216 : UInt64)), (.int (0 : Int32)), (.ref z)])) rfl rfl (hb hby at_238)
  change own_S _ _ _ _ _ _ _ _ _ _ _ _ _ _ [(ai, own_A .double [.double v101, .double v108, .double v115]), (x, own_O "com/example/tangentia/tangentia/flash/Feed" [("com/example/tangentia/tangentia/flash/Feed", "amounts", "[D", .ref y), ("com/example/tangentia/tangentia/flash/Feed", "total", "D", .double tt)]), (y, own_A .double [.double v101, .double v108, .double v115]), (z, own_A .double [.double (13830554455654793216 : UInt64), .double (FP.ddiv v108 tt), .double (FP.ddiv v115 tt)])] _ _ at Hs7_12
  obtain ⟨Ts7_13, vs7_13_, css7_13_, qs7_13, Hs7_13, sts7_13⟩ := own_callV Hs7_12 hx hZ hown (hw _ (List.mem_of_getElem? (i := 34) rfl)) (hw _ (List.mem_of_getElem? (i := 35) rfl)) (hw _ (List.mem_of_getElem? (i := 37) rfl)) (hw _ (List.mem_of_getElem? (i := 36) rfl)) (hw _ (List.mem_of_getElem? (i := 5) rfl)) (hw _ (List.mem_of_getElem? (i := 38) rfl)) (by decide) (x := x) 1 rfl (argsL := []) (rest := []) (W := 0) (own_mol31 l Z a0 hb0 hw x ai y _ tt v101 (own_rd_no w0) v108 (own_rd_no w1) v115 (own_rd_no w2) z _) (by decide) (by decide) (by decide) (by decide) (g := (mkF m 241 #[.val (.int xa), .val (.int xb), .val (.int xc), .val (.int xs), .val (.int v3), .val (.int v9), .val (.int v15), .val (.int (3 : Int32)), .val (.ref ai), .val (.long v127), .second, .val (.ref x), .val (.ref z), .val (.double v169), .second, .unset] [(.ref x)])) rfl (by rw [hml]; rfl) (lenOf own_pd1 rfl) rfl (by show 2 * 0 + _ ≤ _; exact Nat.le_of_eq rfl) (hb hby at_241)
  obtain ⟨z2, rfl, rfl⟩ := qs7_13
  change own_S _ _ _ _ _ _ _ _ _ _ _ _ _ _ [(ai, own_A .double [.double v101, .double v108, .double v115]), (x, own_O "com/example/tangentia/tangentia/flash/Feed" [("com/example/tangentia/tangentia/flash/Feed", "amounts", "[D", .ref y), ("com/example/tangentia/tangentia/flash/Feed", "total", "D", .double tt)]), (y, own_A .double [.double v101, .double v108, .double v115]), (z, own_A .double [.double (13830554455654793216 : UInt64), .double (FP.ddiv v108 tt), .double (FP.ddiv v115 tt)]), (z2, own_A .double [.double (FP.ddiv v101 tt), .double (FP.ddiv v108 tt), .double (FP.ddiv v115 tt)])] _ _ at Hs7_13
  obtain ⟨v262, hv262⟩ : ∃ z : UInt64, (FP.i2d v3) = z := ⟨_, rfl⟩
  obtain ⟨v265, hv265⟩ : ∃ z : UInt64, (FP.ddiv v262 v169) = z := ⟨_, rfl⟩
  obtain ⟨v266, hv266⟩ : ∃ z : Int32, (cmpValue (FP.dcmp (FP.ddiv v101 tt) v265) .l) = z := ⟨_, rfl⟩
  have i169 : own_is v169 (((xa &&& 1048575).toInt + (xb &&& 1048575).toInt + (xc &&& 1048575).toInt : Int) : Rat) := by rw [← hv169, ← e127]; exact own_rd_small (own_rdL _) (by omega)
  have i178 : own_is v178 (((xa &&& 1048575).toInt : Int) : Rat) := by rw [← hv178, ← hv3]; exact own_isI _
  have w181 := own_div i178 i169 hS0
  have nn181 : NoNaN64 (FP.ddiv v178 v169) := own_rd_no w181
  have hb183 : ifCond.holds .eq v182 = true := by rw [← hv182, ← hv181, own_rd_uniq w0 w181]; rfl
  have i200 : own_is v200 (((xb &&& 1048575).toInt : Int) : Rat) := by rw [← hv200, ← hv9]; exact own_isI _
  have w203 := own_div i200 i169 hS0
  have nn203 : NoNaN64 (FP.ddiv v200 v169) := own_rd_no w203
  have hb205 : ifCond.holds .eq v204 = true := by rw [← hv204, ← hv203, own_rd_uniq w1 w203]; rfl
  have i222 : own_is v222 (((xc &&& 1048575).toInt : Int) : Rat) := by rw [← hv222, ← hv15]; exact own_isI _
  have w225 := own_div i222 i169 hS0
  have nn225 : NoNaN64 (FP.ddiv v222 v169) := own_rd_no w225
  have hb227 : ifCond.holds .eq v226 = true := by rw [← hv226, ← hv225, own_rd_uniq w2 w225]; rfl
  have i262 : own_is v262 (((xa &&& 1048575).toInt : Int) : Rat) := by rw [← hv262, ← hv3]; exact own_isI _
  have w265 := own_div i262 i169 hS0
  have nn265 : NoNaN64 (FP.ddiv v262 v169) := own_rd_no w265
  have hb267 : ifCond.holds .ne v266 = false := by rw [← hv266, ← hv265, own_rd_uniq w0 w265]; rfl
  refine ⟨_, _, _, _, 275, #[.val (.int xa), .val (.int xb), .val (.int xc), .val (.int xs), .val (.int v3), .val (.int v9), .val (.int v15), .val (.int (3 : Int32)), .val (.ref ai), .val (.long v127), .second, .val (.ref x), .val (.ref z), .val (.double v169), .second, .val (.ref z2)], Hs7_13, by decide, by decide, Or.inr ⟨.boolean, (.int (1 : Int32)), [], .ireturn, rfl, rfl, at_275, own_retZ (Or.inr rfl), fun target q => ?_⟩⟩
  refine own_go H0 hx hZ hown hby hw own_K0_ok (own_s7_0 xa xb xc xs v3 hv3 v9 hv9 v15 hv15 v21 hv21 v23 hv23 hn) _ ?_
  refine own_go H0 hx hZ hown hby hw own_K0_ok (own_s7_1 xa xb xc xs v3 v9 v15) _ ?_
  refine sts7_1 _ ?_
  refine own_go Hs7_1 hx hZ hown hby hw own_K0_ok (own_s7_2 xa xb xc xs v3 v9 v15 ai v101 hv101) _ ?_
  refine sts7_2 _ ?_
  refine own_go Hs7_2 hx hZ hown hby hw own_K0_ok (own_s7_3 xa xb xc xs v3 v9 v15 ai v108 hv108) _ ?_
  refine sts7_3 _ ?_
  refine own_go Hs7_3 hx hZ hown hby hw own_K0_ok (own_s7_4 xa xb xc xs v3 v9 v15 ai v115 hv115) _ ?_
  refine sts7_4 _ ?_
  refine own_go Hs7_4 hx hZ hown hby hw own_K0_ok (own_s7_5 xa xb xc xs v3 v9 v15 ai v119 hv119 v122 hv122 v123 hv123 v126 hv126 v127 hv127 v133 hv133 hb134) _ ?_
  refine sts7_5 _ ?_
  refine own_go Hs7_5 hx hZ hown hby hw own_K0_ok (own_s7_6 xa xb xc xs v3 v9 v15 ai v127 x) _ ?_
  refine sts7_6 _ ?_
  refine own_go Hs7_6 hx hZ hown hby hw own_K0_ok (own_s7_7 xa xb xc xs v3 v9 v15 ai v127 x) _ ?_
  refine sts7_7 _ ?_
  refine own_go Hs7_7 hx hZ hown hby hw own_K0_ok (own_s7_8 xa xb xc xs v3 v9 v15 ai v127 x z) _ ?_
  refine own_arrlen Hs7_7 hx hZ 3 rfl (z := (3 : Int32)) rfl (g := (mkF m 159 #[.val (.int xa), .val (.int xb), .val (.int xc), .val (.int xs), .val (.int v3), .val (.int v9), .val (.int v15), .val (.int (3 : Int32)), .val (.ref ai), .val (.long v127), .second, .val (.ref x), .val (.ref z), .unset, .unset, .unset] [(.ref z)])) rfl rfl (hb hby at_159) _ ?_
  refine own_go Hs7_7 hx hZ hown hby hw own_K0_ok (own_s7_9 xa xb xc xs v3 v9 v15 ai v127 x z v169 hv169) _ ?_
  refine own_daload Hs7_7 hx hZ 3 0 rfl (by decide) rfl (g := (mkF m 175 #[.val (.int xa), .val (.int xb), .val (.int xc), .val (.int xs), .val (.int v3), .val (.int v9), .val (.int v15), .val (.int (3 : Int32)), .val (.ref ai), .val (.long v127), .second, .val (.ref x), .val (.ref z), .val (.double v169), .second, .unset] [(.int (0 : Int32)), (.ref z)])) rfl rfl (hb hby at_175) _ ?_
  refine own_go Hs7_7 hx hZ hown hby hw own_K0_ok (own_s7_10 xa xb xc xs v3 v9 v15 ai v127 x z v169 v178 hv178 v181 hv181 nn181 v182 hv182 hb183) _ ?_
  refine own_daload Hs7_7 hx hZ 3 1 rfl (by decide) rfl (g := (mkF m 197 #[.val (.int xa), .val (.int xb), .val (.int xc), .val (.int xs), .val (.int v3), .val (.int v9), .val (.int v15), .val (.int (3 : Int32)), .val (.ref ai), .val (.long v127), .second, .val (.ref x), .val (.ref z), .val (.double v169), .second, .unset] [(.int (1 : Int32)), (.ref z)])) rfl rfl (hb hby at_197) _ ?_
  refine own_go Hs7_7 hx hZ hown hby hw own_K0_ok (own_s7_11 xa xb xc xs v3 v9 v15 ai v127 x z v169 v200 hv200 v203 hv203 nn203 v204 hv204 hb205) _ ?_
  refine own_daload Hs7_7 hx hZ 3 2 rfl (by decide) rfl (g := (mkF m 219 #[.val (.int xa), .val (.int xb), .val (.int xc), .val (.int xs), .val (.int v3), .val (.int v9), .val (.int v15), .val (.int (3 : Int32)), .val (.ref ai), .val (.long v127), .second, .val (.ref x), .val (.ref z), .val (.double v169), .second, .unset] [(.int (2 : Int32)), (.ref z)])) rfl rfl (hb hby at_219) _ ?_
  refine own_go Hs7_7 hx hZ hown hby hw own_K0_ok (own_s7_12 xa xb xc xs v3 v9 v15 ai v127 x z v169 v222 hv222 v225 hv225 nn225 v226 hv226 hb227) _ ?_
  refine sts7_12 _ ?_
  refine own_go Hs7_12 hx hZ hown hby hw own_K0_ok (own_s7_13 xa xb xc xs v3 v9 v15 ai v127 x z v169) _ ?_
  refine sts7_13 _ ?_
  refine own_go Hs7_13 hx hZ hown hby hw own_K0_ok (own_s7_14 xa xb xc xs v3 v9 v15 ai v127 x z v169 z2) _ ?_
  refine own_arrlen Hs7_13 hx hZ 4 rfl (z := (3 : Int32)) rfl (g := (mkF m 248 #[.val (.int xa), .val (.int xb), .val (.int xc), .val (.int xs), .val (.int v3), .val (.int v9), .val (.int v15), .val (.int (3 : Int32)), .val (.ref ai), .val (.long v127), .second, .val (.ref x), .val (.ref z), .val (.double v169), .second, .val (.ref z2)] [(.ref z2)])) rfl rfl (hb hby at_248) _ ?_
  refine own_go Hs7_13 hx hZ hown hby hw own_K0_ok (own_s7_15 xa xb xc xs v3 v9 v15 ai v127 x z v169 z2) _ ?_
  refine own_daload Hs7_13 hx hZ 4 0 rfl (by decide) rfl (g := (mkF m 259 #[.val (.int xa), .val (.int xb), .val (.int xc), .val (.int xs), .val (.int v3), .val (.int v9), .val (.int v15), .val (.int (3 : Int32)), .val (.ref ai), .val (.long v127), .second, .val (.ref x), .val (.ref z), .val (.double v169), .second, .val (.ref z2)] [(.int (0 : Int32)), (.ref z2)])) rfl rfl (hb hby at_259) _ ?_
  refine own_go Hs7_13 hx hZ hown hby hw own_K0_ok (own_s7_16 xa xb xc xs v3 v9 v15 ai v127 x z v169 z2 v262 hv262 v265 hv265 nn265 v266 hv266 hb267) _ ?_
  exact q

theorem own_sel (xs : Int32) : ((xs &&& (2147483647 : Int32)) - ((xs &&& (2147483647 : Int32)) / (3 : Int32)) * (3 : Int32)) + (1 : Int32) = (1 : Int32) ∨ ((xs &&& (2147483647 : Int32)) - ((xs &&& (2147483647 : Int32)) / (3 : Int32)) * (3 : Int32)) + (1 : Int32) = (2 : Int32) ∨ ((xs &&& (2147483647 : Int32)) - ((xs &&& (2147483647 : Int32)) / (3 : Int32)) * (3 : Int32)) + (1 : Int32) = (3 : Int32) := by
  have h := c_mask xs 2147483647 31 (by decide) (by decide)
  generalize (xs &&& (2147483647 : Int32)) = y at h ⊢
  have hd := c_idiv y 3 3 (by decide) (by decide)
  have hm := c_imul (y / 3) 3
  have hs := c_isub y ((y / 3) * 3)
  have ha := c_iadd (y - (y / 3) * 3) 1
  have r1 := rng32 ((y / 3) * 3)
  have r2 := rng32 (y - (y / 3) * 3)
  have r3 := rng32 (y - (y / 3) * 3 + 1)
  rw [show (3 : Int32).toInt = 3 from rfl] at hm
  rw [show (1 : Int32).toInt = 1 from rfl] at ha
  have q : (y - (y / 3) * 3 + 1).toInt = 1 ∨ (y - (y / 3) * 3 + 1).toInt = 2 ∨ (y - (y / 3) * 3 + 1).toInt = 3 := by
    have := hd.1 (by omega)
    omega
  rcases q with q | q | q
  · exact Or.inl (Int32.toInt_inj.mp q)
  · exact Or.inr (Or.inl (Int32.toInt_inj.mp q))
  · exact Or.inr (Or.inr (Int32.toInt_inj.mp q))
theorem own_law (l : Launch) (Z : State) (a0 : Array Value) (hb0 : Heap) (hw : ∀ d ∈ tables_1, d.before a0 Z = true) (xa : Int32) (xb : Int32) (xc : Int32) (xs : Int32) :
    own_Met l Z a0 hb0 x code maxLocals ret tables_1 room_1 #[(.int xa), (.int xb), (.int xc), (.int xs)] [] (fun v _ => v = some (.int 1)) := by
  rcases own_sel xs with q | q | q
  · by_cases hz : (xa &&& 1048575).toInt = 0
    · exact own_law2 l Z a0 hb0 hw xa xb xc xs q hz
    · exact own_law3 l Z a0 hb0 hw xa xb xc xs q hz
  · by_cases hz : (xa &&& 1048575).toInt + (xb &&& 1048575).toInt = 0
    · exact own_law4 l Z a0 hb0 hw xa xb xc xs q hz
    · exact own_law5 l Z a0 hb0 hw xa xb xc xs q hz
  · by_cases hz : (xa &&& 1048575).toInt + (xb &&& 1048575).toInt + (xc &&& 1048575).toInt = 0
    · exact own_law6 l Z a0 hb0 hw xa xb xc xs q hz
    · exact own_law7 l Z a0 hb0 hw xa xb xc xs q hz
set_option maxRecDepth 65536 in
set_option maxHeartbeats 40000000 in
theorem own_comes {Post : Tables → Env → Array Value → State → Outcome → State → Prop} (hpost : ∀ tb e args s v u, (limb_1_1.after args s (.returned v) u = true ∧ limb_1_2.after args s (.returned v) u = true ∧ True) → FrameEnd s (.returned v) u (Jvm.fieldLocs frame_1_writes args s ++ Jvm.arrayLocs frame_1_arrays args s ++ Jvm.staticLocs frame_1_statics s) 24 128 → Post tb e args s (.returned v) u) :
    ArmFor flags0 classFile x code maxLocals ret World_1 tables_1 room_1 Calls_1 rest_1 Pre_1 Post := by
  intro l hfl _ _ p e ha hc hk s m args below hf hA hF happ hP
  obtain ⟨hcalls, hrest, hpre⟩ := hP
  obtain ⟨-, -, -, hnamed, -, -, -, hat⟩ := (Spec.applies_iff hf).mp happ
  obtain ⟨hg, hn⟩ := and_e (Cond.before_iff.mp (show (Jvm.Cond.and given_1 narrow_1).before args s = true from hpre))
  obtain ⟨h1, g0⟩ := and_e hg
  obtain ⟨w0, w1, w2, w3, rfl⟩ : ∃ w0 w1 w2 w3 : Value, args = #[w0, w1, w2, w3] := by
    have hs : args.size = 4 := by simpa [Cond.value, given_1] using h1
    obtain ⟨L⟩ := args
    match L, hs with
    | [w0, w1, w2, w3], _ => exact ⟨w0, w1, w2, w3, rfl⟩
  have hw := fun d (hd : d ∈ tables_1) => atoms_spec (ws := Jvm.Cond.code x code maxLocals ret :: tables_1) hat d (List.mem_cons_of_mem _ hd)
  have hfit : Fit s := fun {y c} hc i hi => by
    obtain ⟨ha, rfl⟩ := Array.getElem?_eq_some_iff.mp hc
    have q := List.all_eq_true.mp ((Array.all_eq_true_iff_forall_mem.mp hF) _ (Array.getElem_mem ha)) i (List.mem_range.mpr hi)
    simpa [Array.getElem?_eq_getElem hi] using q
  obtain ⟨f0, g1⟩ := and_e g0
  obtain ⟨i0, e0⟩ := is_v f0
  obtain rfl : w0 = (.int i0) := Option.some.inj e0
  obtain ⟨f1, g2⟩ := and_e g1
  obtain ⟨i1, e1⟩ := is_v f1
  obtain rfl : w1 = (.int i1) := Option.some.inj e1
  obtain ⟨f2, g3⟩ := and_e g2
  obtain ⟨i2, e2⟩ := is_v f2
  obtain rfl : w2 = (.int i2) := Option.some.inj e2
  obtain ⟨i3, e3⟩ := is_v g3
  obtain rfl : w3 = (.int i3) := Option.some.inj e3
  obtain ⟨n, o, h1, h2, h3, _, L, rfl, ⟨N, cs', rfl, -⟩, hq⟩ := own_law l s _ s.heap hw i0 i1 i2 i3  s.heap (own_Hp_start s _ s.heap) p e ha hc hk s m _ below hf ((Spec.applies_iff_loose hf).mp happ).1 ⟨rfl, State.Warmed39.refl s, rfl⟩ trivial
  refine ⟨n, _, h1, h2, h3, hpost _ _ _ _ _ _ ⟨Cond.after_iff.mpr rfl, Cond.after_iff.mpr (eq_i res_at (Term.int_eval (1)) rfl), trivial⟩ ⟨hq.1, hq.2.1, (hq.2.2.sift fun y hy => Or.inr (N y hy)).mono (by decide) (by decide)⟩⟩
theorem main_1_1 : Claimed_1_1 := own_comes fun _ _ _ _ _ _ h hF => ⟨h.1, hF⟩
theorem main_1_2 : Claimed_1_2 := own_comes fun _ _ _ _ _ _ h hF => ⟨h.2.1, hF⟩
end OwnClaim
end Jvm.Pilot.@@N@@
namespace Jvm.Pilot.@@N@@
open Jvm Jvm.ClassFile Sem Op Lib Jvm.Free Jvm.Stand Jvm.Pilot.@@N@@.Jvm.D
/-! MADE BY PROGRAM (witnessworld.py) out of the Statement's table words and the real class files: 17 classes; the members and pool entries that the words name. The judged class is class 1, her method 1. -/
namespace start1
open Jvm.ClassFile
def u (s : String) : CpInfo := .utf8 (stringToUtf16 s)
/-- a pool by its gaps: so many unusable entries, then the entry; so many at the end -/
def gap : Nat → List CpInfo → List CpInfo
  | 0, r => r
  | n + 1, r => .unusable :: gap n r
def poolList (es : List (Nat × CpInfo)) (last : Nat) : List CpInfo := es.foldr (fun e r => gap e.1 (e.2 :: r)) (gap last [])
def pool (es : List (Nat × CpInfo)) (last : Nat) : Array CpInfo := ⟨poolList es last⟩
def fileOf (pool : Array CpInfo) (this : Nat) (attrs : Array Attribute := #[]) (ms : Array MethodInfo := #[]) (fl : Nat := 33) (sup : Nat := 0) (ifs : Array Nat := #[]) (fds : Array FieldInfo := #[]) : ClassFile where
  minorVersion := 0
  majorVersion := 65
  constantPool := pool
  accessFlags := fl
  thisClass := this
  superClass := sup
  interfaces := ifs
  fields := fds
  methods := ms
  attributes := attrs
def plain (name : String) (sup : Option ClassId) : Class where
  name := name
  kind := .ordinary
  loader := none
  accessFlags := 33
  super := sup
  interfaces := #[]
  cf := none
  fields := #[]
  methods := #[]
  instanceTypes := #[]
  staticTypes := #[]
  resolved := #[]
  callSites := []
  init := .initialized
  statics := none
  mirror := none

def pool0 : Array CpInfo := pool [(5, u "<init>"), (0, u "()V"), (1, .class_ 10), (1, u "java/lang/Object"), (85, u "clone"), (0, u "()Ljava/lang/Object;")] 26

def k0c0 : Code := { maxStack := 0, maxLocals := 1, code := object_method_1_code, exceptionTable := #[], attributes := #[] }
def k0m0 : Method := { name := "<init>", desc := "()V", sig := { parameters := [], returnType := none }, accessFlags := 1, code := some k0c0 }
def k0m1 : Method := { name := "clone", desc := "()Ljava/lang/Object;", sig := { parameters := [], returnType := some (.object "java/lang/Object") }, accessFlags := 260, code := none }
/-- java/lang/Object -/
def k0 : Class := { plain "java/lang/Object" none with
  accessFlags := 33
  interfaces := #[]
  cf := some (fileOf pool0 8 #[] #[{ accessFlags := 1, nameIndex := 5, descriptorIndex := 6, attributes := #[] }, { accessFlags := 260, nameIndex := 96, descriptorIndex := 97, attributes := #[] }] 33 0 #[] #[])
  fields := #[]
  methods := #[k0m0, k0m1]
  instanceTypes := #[]
  staticTypes := #[]
  resolved := Array.replicate 124 none
  statics := none }

def pool1 : Array CpInfo := pool [(2, .class_ 4), (1, u "java/lang/Object"), (0, u "<init>"), (0, u "()V"), (0, .integer 1048575), (0, .integer 2147483647), (0, .class_ 10), (0, u "com/example/tangentia/tangentia/flash/Feed"), (0, .methodref 9 12), (0, .nameAndType 5 13), (0, u "([D)V"), (0, .methodref 9 15), (0, .nameAndType 16 17), (0, u "moleFractions"), (0, u "()[D"), (0, .double 13830554455654793216), (1, .class_ 21), (0, u "com/example/tangentia/tangentia/flash/FeedMoleFractionsPinLaw"), (2, u "law"), (0, u "(IIII)Z")] 5

def k1m0 : Method := { name := "<init>", desc := "()V", sig := { parameters := [], returnType := none }, accessFlags := 1, code := none }
def k1c1 : Code := { maxStack := 6, maxLocals := 16, code := code, exceptionTable := #[], attributes := #[] }
def k1m1 : Method := { name := "law", desc := "(IIII)Z", sig := { parameters := [.int, .int, .int, .int], returnType := some .boolean }, accessFlags := 9, code := some k1c1 }
/-- com/example/tangentia/tangentia/flash/FeedMoleFractionsPinLaw -/
def k1 : Class := { plain "com/example/tangentia/tangentia/flash/FeedMoleFractionsPinLaw" (some 0) with
  accessFlags := 49
  interfaces := #[]
  cf := some (fileOf pool1 20 #[] #[{ accessFlags := 1, nameIndex := 5, descriptorIndex := 6, attributes := #[] }, { accessFlags := 9, nameIndex := 24, descriptorIndex := 25, attributes := #[] }] 49 2 #[] #[])
  fields := #[]
  methods := #[k1m0, k1m1]
  instanceTypes := #[]
  staticTypes := #[]
  resolved := Array.replicate 31 none
  statics := none }

def pool2 : Array CpInfo := pool [(1, .methodref 2 3), (0, .class_ 4), (0, .nameAndType 5 6), (0, u "java/lang/Object"), (0, u "<init>"), (0, u "()V"), (0, .methodref 8 9), (0, .class_ 10), (0, .nameAndType 11 12), (0, u "java/lang/Double"), (0, u "isFinite"), (0, u "(D)Z"), (12, .methodref 26 27), (0, .class_ 28), (0, .nameAndType 29 30), (0, u "[D"), (0, u "clone"), (0, u "()Ljava/lang/Object;"), (0, .fieldref 32 33), (0, .class_ 34), (0, .nameAndType 35 28), (0, u "com/example/tangentia/tangentia/flash/Feed"), (0, u "amounts"), (0, .fieldref 32 37), (0, .nameAndType 38 39), (0, u "total"), (0, u "D"), (3, u "([D)V"), (7, u "()[D"), (1, u "moleFractions")] 21

def k2c0 : Code := { maxStack := 5, maxLocals := 5, code := prog_20_method_1_code, exceptionTable := #[], attributes := #[] }
def k2m0 : Method := { name := "<init>", desc := "([D)V", sig := { parameters := [(.array .double)], returnType := none }, accessFlags := 129, code := some k2c0 }
def k2c1 : Code := { maxStack := 6, maxLocals := 3, code := prog_20_method_6_code, exceptionTable := #[], attributes := #[] }
def k2m1 : Method := { name := "moleFractions", desc := "()[D", sig := { parameters := [], returnType := some (.array .double) }, accessFlags := 1, code := some k2c1 }
/-- com/example/tangentia/tangentia/flash/Feed -/
def k2 : Class := { plain "com/example/tangentia/tangentia/flash/Feed" (some 0) with
  accessFlags := 49
  interfaces := #[]
  cf := some (fileOf pool2 32 #[] #[{ accessFlags := 129, nameIndex := 5, descriptorIndex := 43, attributes := #[] }, { accessFlags := 1, nameIndex := 53, descriptorIndex := 51, attributes := #[] }] 49 2 #[] #[{ accessFlags := 18, nameIndex := 35, descriptorIndex := 28, attributes := #[] }, { accessFlags := 18, nameIndex := 38, descriptorIndex := 39, attributes := #[] }])
  fields := #[{ name := "amounts", type := (.array .double), accessFlags := 18, slot := 0, constantValue := 0 }, { name := "total", type := .double, accessFlags := 18, slot := 1, constantValue := 0 }]
  methods := #[k2m0, k2m1]
  instanceTypes := #[(.array .double), .double]
  staticTypes := #[]
  resolved := Array.replicate 75 none
  statics := none }

def pool3 : Array CpInfo := pool [(1, .class_ 2), (0, u "java/io/Serializable"), (0, .class_ 4), (0, u "java/lang/Object")] 2

/-- java/io/Serializable -/
def k3 : Class := { plain "java/io/Serializable" (some 0) with
  accessFlags := 1537
  interfaces := #[]
  cf := some (fileOf pool3 1 #[] #[] 1537 3 #[] #[])
  fields := #[]
  methods := #[]
  instanceTypes := #[]
  staticTypes := #[]
  resolved := Array.replicate 7 none
  statics := none }

def pool4 : Array CpInfo := pool [(2, .class_ 4), (1, u "java/lang/Object"), (0, u "<init>"), (0, u "()V"), (1, .class_ 10), (1, u "java/lang/Number"), (2, .class_ 14), (0, u "java/io/Serializable"), (0, u "serialVersionUID"), (0, u "J")] 20

def k4m0 : Method := { name := "<init>", desc := "()V", sig := { parameters := [], returnType := none }, accessFlags := 1, code := none }
/-- java/lang/Number -/
def k4 : Class := { plain "java/lang/Number" (some 0) with
  accessFlags := 1057
  interfaces := #[3]
  cf := some (fileOf pool4 8 #[] #[{ accessFlags := 1, nameIndex := 5, descriptorIndex := 6, attributes := #[] }] 1057 2 #[13] #[{ accessFlags := 26, nameIndex := 15, descriptorIndex := 16, attributes := #[] }])
  fields := #[{ name := "serialVersionUID", type := .long, accessFlags := 26, slot := 0, constantValue := 0 }]
  methods := #[k4m0]
  instanceTypes := #[]
  staticTypes := #[.long]
  resolved := Array.replicate 37 none
  statics := none }

def pool5 : Array CpInfo := pool [(1, .class_ 2), (0, u "java/lang/Comparable"), (0, .class_ 4), (0, u "java/lang/Object")] 7

/-- java/lang/Comparable -/
def k5 : Class := { plain "java/lang/Comparable" (some 0) with
  accessFlags := 1537
  interfaces := #[]
  cf := some (fileOf pool5 1 #[] #[] 1537 3 #[] #[])
  fields := #[]
  methods := #[]
  instanceTypes := #[]
  staticTypes := #[]
  resolved := Array.replicate 12 none
  statics := none }

def pool6 : Array CpInfo := pool [(1, .class_ 2), (0, u "java/lang/constant/Constable"), (0, .class_ 4), (0, u "java/lang/Object")] 6

/-- java/lang/constant/Constable -/
def k6 : Class := { plain "java/lang/constant/Constable" (some 0) with
  accessFlags := 1537
  interfaces := #[]
  cf := some (fileOf pool6 1 #[] #[] 1537 3 #[] #[])
  fields := #[]
  methods := #[]
  instanceTypes := #[]
  staticTypes := #[]
  resolved := Array.replicate 11 none
  statics := none }

def pool7 : Array CpInfo := pool [(1, .class_ 2), (0, u "java/lang/constant/ConstantDesc"), (0, .class_ 4), (0, u "java/lang/Object")] 32

/-- java/lang/constant/ConstantDesc -/
def k7 : Class := { plain "java/lang/constant/ConstantDesc" (some 0) with
  accessFlags := 1537
  interfaces := #[]
  cf := some (fileOf pool7 1 #[] #[] 1537 3 #[] #[])
  fields := #[]
  methods := #[]
  instanceTypes := #[]
  staticTypes := #[]
  resolved := Array.replicate 37 none
  statics := none }

def pool8 : Array CpInfo := pool [(1, .class_ 2), (0, u "java/lang/Double"), (10, u "isFinite"), (0, u "(D)Z"), (8, .class_ 25), (1, u "java/lang/Math"), (12, .methodref 23 39), (0, .nameAndType 40 41), (0, u "abs"), (0, u "(D)D"), (69, .double 9218868437227405311), (2, .class_ 116), (1, u "java/lang/Number"), (3, u "value"), (0, u "D"), (51, u "TYPE"), (0, u "Ljava/lang/Class;"), (0, .class_ 176), (0, u "java/lang/Comparable"), (0, .class_ 178), (0, u "java/lang/constant/Constable"), (0, .class_ 180), (0, u "java/lang/constant/ConstantDesc"), (0, u "POSITIVE_INFINITY"), (3, u "NEGATIVE_INFINITY"), (2, u "NaN"), (2, u "MAX_VALUE"), (0, u "MIN_NORMAL"), (0, u "MIN_VALUE"), (2, u "SIZE"), (0, u "I"), (1, u "PRECISION"), (1, u "MAX_EXPONENT"), (1, u "MIN_EXPONENT"), (1, u "BYTES"), (3, u "serialVersionUID"), (0, u "J")] 79

def k8c0 : Code := { maxStack := 4, maxLocals := 2, code := jdk_117_method_8_code, exceptionTable := #[], attributes := #[] }
def k8m0 : Method := { name := "isFinite", desc := "(D)Z", sig := { parameters := [.double], returnType := some .boolean }, accessFlags := 9, code := some k8c0 }
/-- java/lang/Double -/
def k8 : Class := { plain "java/lang/Double" (some 4) with
  accessFlags := 49
  interfaces := #[5, 6, 7]
  cf := some (fileOf pool8 1 #[] #[{ accessFlags := 9, nameIndex := 13, descriptorIndex := 14, attributes := #[] }] 49 114 #[175, 177, 179] #[{ accessFlags := 25, nameIndex := 181, descriptorIndex := 121, attributes := #[] }, { accessFlags := 25, nameIndex := 185, descriptorIndex := 121, attributes := #[] }, { accessFlags := 25, nameIndex := 188, descriptorIndex := 121, attributes := #[] }, { accessFlags := 25, nameIndex := 191, descriptorIndex := 121, attributes := #[] }, { accessFlags := 25, nameIndex := 192, descriptorIndex := 121, attributes := #[] }, { accessFlags := 25, nameIndex := 193, descriptorIndex := 121, attributes := #[] }, { accessFlags := 25, nameIndex := 196, descriptorIndex := 197, attributes := #[] }, { accessFlags := 25, nameIndex := 199, descriptorIndex := 197, attributes := #[] }, { accessFlags := 25, nameIndex := 201, descriptorIndex := 197, attributes := #[] }, { accessFlags := 25, nameIndex := 203, descriptorIndex := 197, attributes := #[] }, { accessFlags := 25, nameIndex := 205, descriptorIndex := 197, attributes := #[] }, { accessFlags := 25, nameIndex := 173, descriptorIndex := 174, attributes := #[] }, { accessFlags := 18, nameIndex := 120, descriptorIndex := 121, attributes := #[] }, { accessFlags := 26, nameIndex := 209, descriptorIndex := 210, attributes := #[] }])
  fields := #[{ name := "POSITIVE_INFINITY", type := .double, accessFlags := 25, slot := 0, constantValue := 0 }, { name := "NEGATIVE_INFINITY", type := .double, accessFlags := 25, slot := 1, constantValue := 0 }, { name := "NaN", type := .double, accessFlags := 25, slot := 2, constantValue := 0 }, { name := "MAX_VALUE", type := .double, accessFlags := 25, slot := 3, constantValue := 0 }, { name := "MIN_NORMAL", type := .double, accessFlags := 25, slot := 4, constantValue := 0 }, { name := "MIN_VALUE", type := .double, accessFlags := 25, slot := 5, constantValue := 0 }, { name := "SIZE", type := .int, accessFlags := 25, slot := 6, constantValue := 0 }, { name := "PRECISION", type := .int, accessFlags := 25, slot := 7, constantValue := 0 }, { name := "MAX_EXPONENT", type := .int, accessFlags := 25, slot := 8, constantValue := 0 }, { name := "MIN_EXPONENT", type := .int, accessFlags := 25, slot := 9, constantValue := 0 }, { name := "BYTES", type := .int, accessFlags := 25, slot := 10, constantValue := 0 }, { name := "TYPE", type := (.object "java/lang/Class"), accessFlags := 25, slot := 11, constantValue := 0 }, { name := "value", type := .double, accessFlags := 18, slot := 0, constantValue := 0 }, { name := "serialVersionUID", type := .long, accessFlags := 26, slot := 12, constantValue := 0 }]
  methods := #[k8m0]
  instanceTypes := #[.double]
  staticTypes := #[.double, .double, .double, .double, .double, .double, .int, .int, .int, .int, .int, (.object "java/lang/Class"), .long]
  resolved := Array.replicate 290 none
  statics := none }

def pool9 : Array CpInfo := pool [(1, .class_ 2), (0, u "java/lang/Math"), (1, .class_ 6), (1, u "java/lang/Object"), (0, u "<init>"), (0, u "()V"), (5, u "(D)D"), (83, .class_ 100), (1, u "java/lang/Math$RandomNumberGeneratorHolder"), (23, u "abs"), (47, u "negativeZeroFloatBits"), (0, u "J"), (2, u "negativeZeroDoubleBits"), (68, u "$assertionsDisabled"), (0, u "Z"), (91, u "twoToTheDoubleScaleDown"), (0, u "D"), (4, u "twoToTheDoubleScaleUp"), (9, u "E"), (3, u "PI"), (2, u "TAU"), (2, u "DEGREES_TO_RADIANS"), (0, u "RADIANS_TO_DEGREES")] 94

def k9m0 : Method := { name := "<init>", desc := "()V", sig := { parameters := [], returnType := none }, accessFlags := 2, code := none }
def k9c1 : Code := { maxStack := 4, maxLocals := 2, code := jdk_29_method_64_code, exceptionTable := #[], attributes := #[] }
def k9m1 : Method := { name := "abs", desc := "(D)D", sig := { parameters := [.double], returnType := some .double }, accessFlags := 9, code := some k9c1 }
/-- java/lang/Math -/
def k9 : Class := { plain "java/lang/Math" (some 0) with
  accessFlags := 49
  interfaces := #[]
  cf := some (fileOf pool9 1 #[.nestMembers #[98]] #[{ accessFlags := 2, nameIndex := 7, descriptorIndex := 8, attributes := #[] }, { accessFlags := 9, nameIndex := 124, descriptorIndex := 14, attributes := #[] }] 49 4 #[] #[{ accessFlags := 25, nameIndex := 354, descriptorIndex := 339, attributes := #[] }, { accessFlags := 25, nameIndex := 358, descriptorIndex := 339, attributes := #[] }, { accessFlags := 25, nameIndex := 361, descriptorIndex := 339, attributes := #[] }, { accessFlags := 26, nameIndex := 364, descriptorIndex := 339, attributes := #[] }, { accessFlags := 26, nameIndex := 365, descriptorIndex := 339, attributes := #[] }, { accessFlags := 26, nameIndex := 172, descriptorIndex := 173, attributes := #[] }, { accessFlags := 26, nameIndex := 176, descriptorIndex := 173, attributes := #[] }, { accessFlags := 8, nameIndex := 344, descriptorIndex := 339, attributes := #[] }, { accessFlags := 8, nameIndex := 338, descriptorIndex := 339, attributes := #[] }, { accessFlags := 4120, nameIndex := 245, descriptorIndex := 246, attributes := #[] }])
  fields := #[{ name := "E", type := .double, accessFlags := 25, slot := 0, constantValue := 0 }, { name := "PI", type := .double, accessFlags := 25, slot := 1, constantValue := 0 }, { name := "TAU", type := .double, accessFlags := 25, slot := 2, constantValue := 0 }, { name := "DEGREES_TO_RADIANS", type := .double, accessFlags := 26, slot := 3, constantValue := 0 }, { name := "RADIANS_TO_DEGREES", type := .double, accessFlags := 26, slot := 4, constantValue := 0 }, { name := "negativeZeroFloatBits", type := .long, accessFlags := 26, slot := 5, constantValue := 0 }, { name := "negativeZeroDoubleBits", type := .long, accessFlags := 26, slot := 6, constantValue := 0 }, { name := "twoToTheDoubleScaleUp", type := .double, accessFlags := 8, slot := 7, constantValue := 0 }, { name := "twoToTheDoubleScaleDown", type := .double, accessFlags := 8, slot := 8, constantValue := 0 }, { name := "$assertionsDisabled", type := .boolean, accessFlags := 4120, slot := 9, constantValue := 0 }]
  methods := #[k9m0, k9m1]
  instanceTypes := #[]
  staticTypes := #[.double, .double, .double, .double, .double, .long, .long, .double, .double, .boolean]
  resolved := Array.replicate 460 none
  statics := none }

def pool10 : Array CpInfo := pool [(1, .class_ 2), (0, u "java/lang/Cloneable"), (0, .class_ 4), (0, u "java/lang/Object")] 2

/-- java/lang/Cloneable -/
def k10 : Class := { plain "java/lang/Cloneable" (some 0) with
  accessFlags := 1537
  interfaces := #[]
  cf := some (fileOf pool10 1 #[] #[] 1537 3 #[] #[])
  fields := #[]
  methods := #[]
  instanceTypes := #[]
  staticTypes := #[]
  resolved := Array.replicate 7 none
  statics := none }

/-- the primitive byte -/
def k11 : Class := { plain "byte" none with kind := .primitive 'B', accessFlags := 0x411 }
/-- [B -/
def k12 : Class := { plain "[B" (some 0) with kind := .array 11 .byte, interfaces := #[10, 3], accessFlags := 1041 }

/-- the primitive double -/
def k13 : Class := { plain "double" none with kind := .primitive 'D', accessFlags := 0x411 }
/-- [D -/
def k14 : Class := { plain "[D" (some 0) with kind := .array 13 .double, interfaces := #[10, 3], accessFlags := 1041 }

/-- the primitive int -/
def k15 : Class := { plain "int" none with kind := .primitive 'I', accessFlags := 0x411 }
/-- [I -/
def k16 : Class := { plain "[I" (some 0) with kind := .array 15 .int, interfaces := #[10, 3], accessFlags := 1041 }

def heap : Heap := #[]
def classes : Array Class := #[k0, k1, k2, k3, k4, k5, k6, k7, k8, k9, k10, k11, k12, k13, k14, k15, k16]
def interned : List (Array UInt16 × Addr) := []
def slotsUsed : Nat := 0
def theMethod : MethodId := ⟨1, 1⟩
def args0 : Array Value := #[.int 5, .int 7, .int 9, .int 2]
def aboutOver (below : List Frame) : State where
  vm := { classes := classes, interned := interned.toArray }
  heap := heap
  slotsUsed := slotsUsed
  threads := #[{ frames := .invoking theMethod args0 :: below }]
def below0 : List Frame := [.native { method := ⟨0, 0⟩, args := #[] }]
def about1 : State := aboutOver below0
def p0 : Program := .bare "" "" ""
def e0 : Env := launch0.env 0 0 0
theorem w_frames : about1.frames = Frame.invoking theMethod args0 :: below0 := rfl
set_option maxRecDepth 65536 in
theorem w_args : argsFit about1.vm theMethod args0 = true := by decide +kernel
set_option maxRecDepth 65536 in
theorem w_heap : heapFits about1 = true := by decide +kernel
set_option maxRecDepth 65536 in
theorem w_runnable : about1.curStatus? = some .runnable := by decide +kernel
set_option maxRecDepth 65536 in
theorem w_alone : about1.alone = true := by decide +kernel
set_option maxRecDepth 65536 in
theorem w_named : about1.methodNamed? x = some theMethod := by decide +kernel
set_option maxRecDepth 65536 in
theorem w_hears : about1.hears theMethod below0 = true := by decide +kernel
set_option maxRecDepth 65536 in
theorem w_ripe : about1.ripe theMethod args0 below0 = true := by decide +kernel
theorem w_running : about1.status = .running := rfl
set_option maxRecDepth 65536 in
theorem w_room : about1.hasRoom e0.platform room_1 = true :=
  launch0.hasRoom_least _ room_1 (by decide +kernel) (by decide +kernel) (by decide +kernel) (by decide +kernel) (by decide +kernel) (by decide +kernel)
theorem allAtoms_all (ts : List Jvm.Cond) (a : Array Jvm.Value) (st : Jvm.State) : (allAtoms ts).before a st = ts.all (fun c => c.before a st) := by
  induction ts with
  | nil => rfl
  | cons c t ih =>
    show (Jvm.Cond.and c (allAtoms t)).before a st = _
    rw [Jvm.Cond.before_and, ih, List.all_cons]
def words1 : List Jvm.Cond := Jvm.Cond.code x code maxLocals ret :: tables_1
/-- a 'code' word, met by the world's own term for the bytes: nothing is compared byte by byte -/
theorem code_word {y : MethodName} {bytes : ByteArray} {mx : Nat} {rt : Option FieldType} {a : Array Value} {s : State} {m : MethodId} {meth : Method} {c : Code} (h1 : s.methodNamed? y = some m) (h2 : s.vm.method? m = some meth) (h3 : meth.code = some c) (h4 : c.code = bytes)
    (h5 : (c.maxLocals == mx && c.exceptionTable.isEmpty && decide (c.maxStack ≤ mostOperands) && decide (meth.sig.returnType = rt) && !meth.locks && decide (parseMethodDescriptor y.desc = some meth.sig)) = true) : (Jvm.Cond.code y bytes mx rt).before a s = true := by
  simp only [Bool.and_eq_true, beq_iff_eq, Bool.not_eq_true', decide_eq_true_eq] at h5
  obtain ⟨⟨⟨⟨⟨g1, g2⟩, g3⟩, g4⟩, g5⟩, g6⟩ := h5
  simp [Cond.before, Cond.holds, Cond.value, h1, h2, h3, h4, g1, g2, g3, g4, g5, g6]
def isCode : Jvm.Cond → Bool
  | .code _ _ _ _ => true
  | _ => false
theorem all_split {L : List Jvm.Cond} {P : Jvm.Cond → Bool} (h1 : L.all (fun c => isCode c || P c) = true) (h2 : ∀ c ∈ L.filter isCode, P c = true) : L.all P = true := by
  refine List.all_eq_true.mpr fun c hc => ?_
  have h := List.all_eq_true.mp h1 c hc
  rcases Bool.eq_false_or_eq_true (isCode c) with hi | hi
  · exact h2 c (List.mem_filter.mpr ⟨hc, hi⟩)
  · simpa [hi] using h
set_option maxRecDepth 65536 in
theorem w_c0 : (Jvm.Cond.code x code maxLocals ret).before args0 about1 = true := code_word (m := ⟨1, 1⟩) (meth := k1m1) (c := k1c1) (by decide +kernel) rfl rfl rfl (by decide +kernel)
set_option maxRecDepth 65536 in
theorem w_c1 : (Jvm.Cond.code ({ cls := "com/example/tangentia/tangentia/flash/Feed", name := "<init>", desc := "([D)V" } : Jvm.MethodName) prog_20_method_1_code (5 : Nat) (Option.none : Option Jvm.ClassFile.FieldType)).before args0 about1 = true := code_word (m := ⟨2, 0⟩) (meth := k2m0) (c := k2c0) (by decide +kernel) rfl rfl rfl (by decide +kernel)
set_option maxRecDepth 65536 in
theorem w_c2 : (Jvm.Cond.code ({ cls := "java/lang/Object", name := "<init>", desc := "()V" } : Jvm.MethodName) object_method_1_code (1 : Nat) (Option.none : Option Jvm.ClassFile.FieldType)).before args0 about1 = true := code_word (m := ⟨0, 0⟩) (meth := k0m0) (c := k0c0) (by decide +kernel) rfl rfl rfl (by decide +kernel)
set_option maxRecDepth 65536 in
theorem w_c3 : (Jvm.Cond.code ({ cls := "java/lang/Double", name := "isFinite", desc := "(D)Z" } : Jvm.MethodName) jdk_117_method_8_code (2 : Nat) (Option.some Jvm.ClassFile.FieldType.boolean)).before args0 about1 = true := code_word (m := ⟨8, 0⟩) (meth := k8m0) (c := k8c0) (by decide +kernel) rfl rfl rfl (by decide +kernel)
set_option maxRecDepth 65536 in
theorem w_c4 : (Jvm.Cond.code ({ cls := "java/lang/Math", name := "abs", desc := "(D)D" } : Jvm.MethodName) jdk_29_method_64_code (2 : Nat) (Option.some Jvm.ClassFile.FieldType.double)).before args0 about1 = true := code_word (m := ⟨9, 1⟩) (meth := k9m1) (c := k9c1) (by decide +kernel) rfl rfl rfl (by decide +kernel)
set_option maxRecDepth 65536 in
theorem w_c5 : (Jvm.Cond.code ({ cls := "com/example/tangentia/tangentia/flash/Feed", name := "moleFractions", desc := "()[D" } : Jvm.MethodName) prog_20_method_6_code (3 : Nat) (Option.some (Jvm.ClassFile.FieldType.array Jvm.ClassFile.FieldType.double))).before args0 about1 = true := code_word (m := ⟨2, 1⟩) (meth := k2m1) (c := k2c1) (by decide +kernel) rfl rfl rfl (by decide +kernel)
def codes1 : List Jvm.Cond := [Jvm.Cond.code x code maxLocals ret, Jvm.Cond.code ({ cls := "com/example/tangentia/tangentia/flash/Feed", name := "<init>", desc := "([D)V" } : Jvm.MethodName) prog_20_method_1_code (5 : Nat) (Option.none : Option Jvm.ClassFile.FieldType), Jvm.Cond.code ({ cls := "java/lang/Object", name := "<init>", desc := "()V" } : Jvm.MethodName) object_method_1_code (1 : Nat) (Option.none : Option Jvm.ClassFile.FieldType), Jvm.Cond.code ({ cls := "java/lang/Double", name := "isFinite", desc := "(D)Z" } : Jvm.MethodName) jdk_117_method_8_code (2 : Nat) (Option.some Jvm.ClassFile.FieldType.boolean), Jvm.Cond.code ({ cls := "java/lang/Math", name := "abs", desc := "(D)D" } : Jvm.MethodName) jdk_29_method_64_code (2 : Nat) (Option.some Jvm.ClassFile.FieldType.double), Jvm.Cond.code ({ cls := "com/example/tangentia/tangentia/flash/Feed", name := "moleFractions", desc := "()[D" } : Jvm.MethodName) prog_20_method_6_code (3 : Nat) (Option.some (Jvm.ClassFile.FieldType.array Jvm.ClassFile.FieldType.double))]
set_option maxRecDepth 65536 in
theorem codes_eq : words1.filter isCode = codes1 := rfl
theorem w_codes : ∀ c ∈ words1.filter isCode, c.before args0 about1 = true := by
  rw [codes_eq]
  intro c hc
  simp only [codes1, List.mem_cons, List.not_mem_nil, or_false] at hc
  rcases hc with rfl | rfl | rfl | rfl | rfl | rfl
  · exact w_c0
  · exact w_c1
  · exact w_c2
  · exact w_c3
  · exact w_c4
  · exact w_c5
set_option maxRecDepth 65536 in
theorem w_t1 : (words1.take 24).all (fun c => isCode c || c.before args0 about1) = true := by decide +kernel
set_option maxRecDepth 65536 in
theorem w_t2 : (words1.drop 24).all (fun c => isCode c || c.before args0 about1) = true := by decide +kernel
theorem w_tables : (allAtoms (Jvm.Cond.code x code maxLocals ret :: tables_1)).before args0 about1 = true := by
  rw [allAtoms_all]
  show words1.all (fun c => c.before args0 about1) = true
  refine all_split ?_ w_codes
  rw [← List.take_append_drop 24 words1, List.all_append, w_t1, w_t2]
  rfl
set_option maxRecDepth 65536 in
theorem w_case : (Jvm.Cond.and given_1 narrow_1).before args0 about1 = true := by decide +kernel
theorem w_applies : (headSpec (Jvm.Cond.code x code maxLocals ret :: tables_1) room_1).applies x e0.platform about1 = true :=
  (Spec.applies_iff w_frames).mpr ⟨w_running, w_runnable, w_alone, w_named, w_hears, w_ripe, w_room, w_tables⟩
theorem atStart : AtStart classFile x code maxLocals ret World_1 tables_1 room_1 Calls_1 rest_1 Pre_1 launch0 p0 e0 about1 theMethod args0 below0 :=
  ⟨lists_1, trivial, launch0.admits_env _ _ _, launch0.least_env, fairChoices_fair.cas, fairChoices_fair.clock, w_frames, w_args, w_heap, w_applies, trivial, trivial, w_case⟩
end start1
theorem witness_1 : WitnessClaimed_1 := ⟨start1.p0, start1.e0, start1.about1, start1.theMethod, start1.args0, start1.below0, start1.atStart⟩
end Jvm.Pilot.@@N@@
