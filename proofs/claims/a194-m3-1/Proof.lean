import JvmDerived
import JvmDerived.Pilot.@@N@@Statement
import JvmDerived.Pilot.@@N@@Code
set_option linter.unusedVariables false
set_option linter.unusedSimpArgs false
@@BLOCK:HandJ.lean.txt@@
@@BLOCK:SymMore.lean.txt@@
namespace Jvm.Pilot.@@N@@
/-! the number layer: own_is (a double is exactly that rational), own_rd (a double is that rational, rounded) -/
section OwnNum
open Jvm.FP.Core Jvm.Free.Fl
theorem own_inv1 : (1 : Rat)⁻¹ = 1 := Rat.inv_eq_of_mul_eq_one (Rat.mul_one 1)
theorem own_p_pos (q : Int) : (0 : Rat) < (2 : Rat) ^ q := Rat.zpow_pos (by decide)
theorem own_p_ne (q : Int) : (2 : Rat) ^ q ≠ 0 := Rat.ne_of_gt (own_p_pos q)
theorem own_p_add (a b : Int) : (2 : Rat) ^ (a + b) = 2 ^ a * 2 ^ b := Rat.zpow_add (by decide) a b
theorem own_p_nat (n : Nat) : ((2 ^ n : Nat) : Rat) = (2 : Rat) ^ (n : Int) := by rw [Rat.natCast_pow]; rfl
theorem own_p_toNat {a : Int} (h : 0 ≤ a) : ((2 ^ a.toNat : Nat) : Rat) = (2 : Rat) ^ a := by rw [own_p_nat, Int.toNat_of_nonneg h]
theorem own_p_neg (a : Int) : (2 : Rat) ^ a * 2 ^ (-a) = 1 := by rw [← own_p_add, Int.add_right_neg]; rfl
def own_is (x : UInt64) (r : Rat) : Prop := ∃ s c q, val64 x = .fin s c q ∧ r = ((signed s c : Int) : Rat) * (2 : Rat) ^ q
def own_rd (x : UInt64) (r : Rat) : Prop := ∃ s A B e, 0 < B ∧ val64 x = roundRatio b64 s A B e ∧ r = ((signed s A : Int) : Rat) / ((B : Nat) : Rat) * (2 : Rat) ^ e
theorem own_signed_cast (s : Bool) (c k : Nat) : ((signed s (c * k) : Int) : Rat) = ((signed s c : Int) : Rat) * ((k : Nat) : Rat) := by
  rw [signed_mul, Rat.intCast_mul]; rfl
theorem own_zmag {s : Bool} {c : Nat} {q : Int} (h : FP.Core.fits b64 (.fin s c q)) : ((zmag b64 (.fin s c q) : Nat) : Rat) = (c : Rat) * 2 ^ q * 2 ^ (1074 : Int) := by
  have h1 : b64.qmin ≤ q := h.2.1
  rw [qmin_b64] at h1
  show ((c * 2 ^ (q - b64.qmin).toNat : Nat) : Rat) = _
  rw [Rat.natCast_mul, own_p_toNat (by rw [qmin_b64]; omega), qmin_b64, show q - (-1074) = q + 1074 by omega, own_p_add, Rat.mul_assoc]
theorem own_zval {x : UInt64} {r : Rat} (h : own_is x r) : ((zval b64 (val64 x) : Int) : Rat) = r * 2 ^ (1074 : Int) := by
  obtain ⟨s, c, q, h1, rfl⟩ := h
  have hf := val64_fits x
  rw [h1] at hf ⊢
  have h2 := own_zmag hf
  show ((signed s (zmag b64 (.fin s c q)) : Int) : Rat) = _
  cases s
  · show ((zmag b64 (.fin false c q) : Nat) : Rat) = ((c : Nat) : Rat) * _ * _
    rw [h2]
  · show ((-(zmag b64 (.fin true c q) : Int) : Int) : Rat) = ((-(c : Int) : Int) : Rat) * _ * _
    rw [Rat.intCast_neg, Rat.intCast_neg, Rat.neg_mul, Rat.neg_mul]
    exact congrArg _ h2
theorem own_is_nn {x : UInt64} {r : Rat} (h : own_is x r) : val64 x ≠ .nan := by
  obtain ⟨s, c, q, h1, -⟩ := h; rw [h1]; exact Datum.noConfusion
theorem own_is_fin {x : UInt64} {r : Rat} (h : own_is x r) : Fin64 x := by
  obtain ⟨s, c, q, h1, -⟩ := h; exact fin64_core.mpr ⟨s, c, q, h1⟩
theorem own_is_no {x : UInt64} {r : Rat} (h : own_is x r) : NoNaN64 x := (own_is_fin h).noNaN
theorem own_lt_of {a b : Rat} (h : a < b) (q : Int) : a * 2 ^ q < b * 2 ^ q := Rat.mul_lt_mul_of_pos_right h (own_p_pos q)
theorem own_is_lt {x y : UInt64} {a b : Rat} (hx : own_is x a) (hy : own_is y b) : FP.dcmp x y = some .lt ↔ a < b := by
  rw [show FP.dcmp x y = FP.Core.dcmp x y from rfl, dcmp_lt]
  constructor
  · rintro ⟨-, -, h⟩
    have h2 := Rat.intCast_lt_intCast.mpr h
    rw [own_zval hx, own_zval hy] at h2
    exact Rat.lt_of_mul_lt_mul_right h2 (Rat.le_of_lt (own_p_pos _))
  · intro h
    refine ⟨own_is_nn hx, own_is_nn hy, Rat.intCast_lt_intCast.mp ?_⟩
    rw [own_zval hx, own_zval hy]
    exact own_lt_of h _
theorem own_is_gt {x y : UInt64} {a b : Rat} (hx : own_is x a) (hy : own_is y b) : FP.dcmp x y = some .gt ↔ b < a := by
  rw [← own_is_lt hy hx, show FP.dcmp x y = FP.Core.dcmp x y from rfl, show FP.dcmp y x = FP.Core.dcmp y x from rfl, dcmp_gt, dcmp_lt]
  exact ⟨fun ⟨h1, h2, h⟩ => ⟨h2, h1, h⟩, fun ⟨h1, h2, h⟩ => ⟨h2, h1, h⟩⟩
theorem own_is_eq {x y : UInt64} {a b : Rat} (hx : own_is x a) (hy : own_is y b) : FP.dcmp x y = some .eq ↔ a = b := by
  rw [show FP.dcmp x y = FP.Core.dcmp x y from rfl, dcmp_eq]
  constructor
  · rintro ⟨-, -, h⟩
    have h2 : ((zval b64 (val64 x) : Int) : Rat) = ((zval b64 (val64 y) : Int) : Rat) := by rw [h]
    rw [own_zval hx, own_zval hy] at h2
    have h3 := own_p_ne 1074
    calc a = a * 2 ^ (1074 : Int) / 2 ^ (1074 : Int) := (Rat.mul_div_cancel h3).symm
      _ = b * 2 ^ (1074 : Int) / 2 ^ (1074 : Int) := by rw [h2]
      _ = b := Rat.mul_div_cancel h3
  · rintro rfl
    exact ⟨own_is_nn hx, own_is_nn hy, Rat.intCast_inj.mp (by rw [own_zval hx, own_zval hy])⟩
theorem own_rd_of {x : UInt64} {r : Rat} (h : own_is x r) : own_rd x r := by
  obtain ⟨s, c, q, h1, rfl⟩ := h
  have hf := val64_fits x
  rw [h1] at hf
  refine ⟨s, c, 1, q, by decide, h1.trans (round_of_fits good_b64 hf).symm, ?_⟩
  rw [show (((1 : Nat) : Rat)) = 1 from rfl, Rat.div_def, own_inv1, Rat.mul_one]
theorem own_rd_nn {x : UInt64} {r : Rat} (h : own_rd x r) : val64 x ≠ .nan := by
  obtain ⟨s, A, B, e, -, h1, -⟩ := h; rw [h1]; exact roundRatio_ne_nan _ _ _ _ _
theorem own_rd_no {x : UInt64} {r : Rat} (h : own_rd x r) : NoNaN64 x := val64_no.mpr (own_rd_nn h)
/-- the magnitude of a ratio -/
theorem own_signed_zero {s : Bool} {A : Nat} : ((signed s A : Int) : Rat) = 0 ↔ A = 0 := by
  rw [Rat.intCast_eq_zero_iff, signed_eq_zero]
theorem own_ratio_zero {s : Bool} {A B : Nat} {e : Int} (hB : 0 < B) : ((signed s A : Int) : Rat) / ((B : Nat) : Rat) * (2 : Rat) ^ e = 0 ↔ A = 0 := by
  have hb : ((B : Nat) : Rat) ≠ 0 := by rw [Ne, Rat.natCast_eq_zero_iff]; omega
  constructor
  · intro h
    rcases Rat.mul_eq_zero.mp h with h | h
    · rw [Rat.div_def] at h
      rcases Rat.mul_eq_zero.mp h with h | h
      · exact own_signed_zero.mp h
      · exact absurd (by rw [← Rat.inv_inv ((B : Nat) : Rat), h, Rat.inv_zero]) hb
    · exact absurd h (own_p_ne e)
  · rintro rfl
    rw [own_signed_zero.mpr rfl, Rat.div_def, Rat.zero_mul, Rat.zero_mul]
end OwnNum
section OwnNum2
open Jvm.FP.Core Jvm.Free.Fl
theorem own_nat_pos {B : Nat} (h : 0 < B) : (0 : Rat) < ((B : Nat) : Rat) := Rat.natCast_pos.mpr h
theorem own_nat_ne {B : Nat} (h : 0 < B) : ((B : Nat) : Rat) ≠ 0 := Rat.ne_of_gt (own_nat_pos h)
theorem own_cross {a b a' b' P P' : Rat} (hb : b ≠ 0) (hb' : b' ≠ 0) (h : a / b * P = a' / b' * P') : a * b' * P = a' * b * P' := by
  have h1 : a = a / b * b := (Rat.div_mul_cancel hb).symm
  have h2 : a' = a' / b' * b' := (Rat.div_mul_cancel hb').symm
  generalize a / b = u at *
  generalize a' / b' = w at *
  subst h1 h2
  grind
theorem own_cancel {a b P : Rat} (hP : P ≠ 0) (h : a * P = b * P) : a = b := by
  rw [← Rat.mul_div_cancel (a := a) hP, h, Rat.mul_div_cancel hP]
theorem own_sig_eq {s s' : Bool} {X Y : Nat} (hX : 0 < X) (h : signed s X = signed s' Y) : s = s' ∧ X = Y := by
  cases s <;> cases s' <;> simp only [signed, Bool.false_eq_true, if_true, if_false] at h <;> first | exact ⟨rfl, by omega⟩ | omega
theorem own_ratio_le {s s' : Bool} {A B A' B' : Nat} {e e' : Int} (hB : 0 < B) (hB' : 0 < B') (hA : 0 < A) (hle : e' ≤ e)
    (h : ((signed s A : Int) : Rat) / ((B : Nat) : Rat) * (2 : Rat) ^ e = ((signed s' A' : Int) : Rat) / ((B' : Nat) : Rat) * (2 : Rat) ^ e') :
    s = s' ∧ A * B' * 2 ^ (e - e').toNat = A' * B := by
  have h1 := own_cross (own_nat_ne hB) (own_nat_ne hB') h
  have h2 : (2 : Rat) ^ e = 2 ^ (e - e') * 2 ^ e' := by rw [← own_p_add]; congr 1; omega
  rw [h2, ← Rat.mul_assoc] at h1
  have h3 := own_cancel (own_p_ne e') h1
  rw [← own_p_toNat (by omega), ← own_signed_cast, ← own_signed_cast, ← own_signed_cast, Rat.intCast_inj] at h3
  exact own_sig_eq (Nat.mul_pos (Nat.mul_pos hA hB') (Nat.two_pow_pos _)) h3
theorem own_ratio_eq {s s' : Bool} {A B A' B' : Nat} {e e' : Int} (hB : 0 < B) (hB' : 0 < B') (hA : 0 < A)
    (h : ((signed s A : Int) : Rat) / ((B : Nat) : Rat) * (2 : Rat) ^ e = ((signed s' A' : Int) : Rat) / ((B' : Nat) : Rat) * (2 : Rat) ^ e') :
    s = s' ∧ roundRatio b64 s A B e = roundRatio b64 s' A' B' e' := by
  have hA' : 0 < A' := by
    rcases Nat.eq_zero_or_pos A' with h0 | h0
    · rw [(own_ratio_zero hB').mpr h0, own_ratio_zero hB] at h; omega
    · exact h0
  rcases Int.le_total e' e with hle | hle
  · obtain ⟨rfl, h1⟩ := own_ratio_le hB hB' hA hle h
    refine ⟨rfl, roundRatio_congr hB hB' ?_⟩
    rw [h1, show (e' - e).toNat = 0 by omega]; simp
  · obtain ⟨rfl, h1⟩ := own_ratio_le hB' hB hA' hle h.symm
    refine ⟨rfl, (roundRatio_congr hB' hB ?_).symm⟩
    rw [h1, show (e - e').toNat = 0 by omega]; simp
theorem own_rd_uniq {x y : UInt64} {r : Rat} (hx : own_rd x r) (hy : own_rd y r) : FP.dcmp x y = some .eq := by
  obtain ⟨s, A, B, e, hB, hv, hr⟩ := hx
  obtain ⟨s', A', B', e', hB', hv', hr'⟩ := hy
  rcases Nat.eq_zero_or_pos A with hA | hA
  · have hA' : A' = 0 := by rw [← own_ratio_zero hB' (s := s') (e := e'), ← hr', hr]; exact (own_ratio_zero hB).mpr hA
    subst hA hA'
    rw [show FP.dcmp x y = FP.Core.dcmp x y from rfl, dcmp_eq, hv, hv']
    refine ⟨roundRatio_ne_nan _ _ _ _ _, roundRatio_ne_nan _ _ _ _ _, ?_⟩
    show zval b64 (.fin s 0 b64.qmin) = zval b64 (.fin s' 0 b64.qmin)
    cases s <;> cases s' <;> decide
  · obtain ⟨-, h1⟩ := own_ratio_eq hB hB' hA (hr.symm.trans hr')
    have h2 : val64 x ≠ .nan := by rw [hv]; exact roundRatio_ne_nan _ _ _ _ _
    have h3 : x = y := val64_inj h2 (by rw [hv, hv', h1])
    subst h3
    exact dcmp_refl ((notNaN_iff x).mpr h2)
/-- exact where the rational has 53 digits -/
theorem own_rd_exact {x : UInt64} {r : Rat} (h : own_rd x r) {m : Int} {k : Int} (hr : r = (m : Rat) * (2 : Rat) ^ k) (hm : m.natAbs < 2 ^ 53) (hk : -1074 ≤ k) (hk2 : k ≤ 971) : own_is x r := by
  obtain ⟨s, A, B, e, hB, hv, hr0⟩ := h
  have hcan : ∀ (t : Bool), ((signed t m.natAbs : Int) : Rat) * (2 : Rat) ^ k = r → roundRatio b64 s A B e = round b64 (.fin t m.natAbs k) → own_is x r := by
    intro t ht hq
    obtain ⟨c', q', h1, h2⟩ := round_exact good_b64 t (c := m.natAbs) (q := k) hm (by rw [qmin_b64]; exact hk) (by exact hk2)
    have hx : val64 x = .fin t c' q' := by rw [hv, hq, h1]
    refine ⟨t, c', q', hx, ?_⟩
    have hf := val64_fits x
    rw [hx] at hf
    have z1 := own_zmag hf
    have z2 : ((inUnits c' q' b64.qmin : Nat) : Rat) = ((m.natAbs : Nat) : Rat) * 2 ^ k * 2 ^ (1074 : Int) := by
      rw [h2]; unfold inUnits
      rw [Rat.natCast_mul, own_p_toNat (by rw [qmin_b64]; omega), qmin_b64, show k - (-1074) = k + 1074 by omega, own_p_add, Rat.mul_assoc]
    have z3 : (c' : Rat) * 2 ^ q' = ((m.natAbs : Nat) : Rat) * 2 ^ k := own_cancel (own_p_ne 1074) (z1.symm.trans z2)
    rw [← ht]
    cases t
    · exact z3.symm
    · show ((-(m.natAbs : Int) : Int) : Rat) * _ = ((-(c' : Int) : Int) : Rat) * _
      rw [Rat.intCast_neg, Rat.intCast_neg, Rat.neg_mul, Rat.neg_mul]
      exact congrArg _ z3.symm
  rcases Nat.eq_zero_or_pos A with hA | hA
  · have h0 : r = 0 := by rw [hr0]; exact (own_ratio_zero hB).mpr hA
    have hm0 : m = 0 := by
      rw [h0] at hr
      rcases Rat.mul_eq_zero.mp hr.symm with h1 | h1
      · exact Rat.intCast_eq_zero_iff.mp h1
      · exact absurd h1 (own_p_ne k)
    subst hm0 hA
    refine hcan s ?_ ?_
    · rw [h0]; cases s <;> simp [signed]
    · show Datum.fin s 0 b64.qmin = Datum.fin s 0 b64.qmin
      rfl
  · have h1 : ((signed s A : Int) : Rat) / ((B : Nat) : Rat) * (2 : Rat) ^ e = ((signed (decide (m < 0)) m.natAbs : Int) : Rat) / (((1 : Nat) : Nat) : Rat) * (2 : Rat) ^ k := by
      rw [← hr0, hr, show (((1 : Nat) : Rat)) = 1 from rfl, Rat.div_def, own_inv1, Rat.mul_one]
      congr 2
      unfold signed
      by_cases hmn : m < 0 <;> simp [hmn] <;> omega
    obtain ⟨-, h2⟩ := own_ratio_eq hB (by decide) hA h1
    refine hcan (decide (m < 0)) ?_ h2
    rw [hr]
    congr 2
    unfold signed
    by_cases hmn : m < 0 <;> simp [hmn] <;> omega
theorem own_add {x y : UInt64} {a b : Rat} (hx : own_is x a) (hy : own_is y b) : own_rd (FP.dadd x y) (a + b) := by
  obtain ⟨s, c, q, h1, rfl⟩ := hx
  obtain ⟨t, d, r, h2, rfl⟩ := hy
  refine ⟨_, _, 1, min q r, by decide, (val64_dadd x y).trans (by rw [h1, h2]; rfl), ?_⟩
  rw [signed_sumSign, show (((1 : Nat) : Rat)) = 1 from rfl, Rat.div_def, own_inv1, Rat.mul_one]
  unfold sumUnits inUnits
  rw [Rat.intCast_add, own_signed_cast, own_signed_cast, own_p_toNat (by omega), own_p_toNat (by omega), Rat.add_mul, Rat.mul_assoc, Rat.mul_assoc, ← own_p_add, ← own_p_add, show q - min q r + min q r = q by omega, show r - min q r + min q r = r by omega]
theorem own_neg {x : UInt64} {a : Rat} (hx : own_is x a) : own_is (FP.dneg x) (-a) := by
  obtain ⟨s, c, q, h1, rfl⟩ := hx
  refine ⟨!s, c, q, (FP.val64_dneg x).trans (by rw [h1]; rfl), ?_⟩
  rw [signed_not, Rat.intCast_neg, Rat.neg_mul]
theorem own_sub {x y : UInt64} {a b : Rat} (hx : own_is x a) (hy : own_is y b) : own_rd (FP.dsub x y) (a - b) := by
  have h : val64 (FP.dsub x y) = val64 (FP.dadd x (FP.dneg y)) := by
    rw [show val64 (FP.dsub x y) = _ from val64_dsub x y, show val64 (FP.dadd x (FP.dneg y)) = _ from val64_dadd x (FP.dneg y), FP.val64_dneg]
  obtain ⟨s, A, B, e, hB, hv, hr⟩ := own_add hx (own_neg hy)
  exact ⟨s, A, B, e, hB, h.trans hv, by rw [Rat.sub_eq_add_neg]; exact hr⟩
theorem own_mul {x y : UInt64} {a b : Rat} (hx : own_is x a) (hy : own_is y b) : own_rd (FP.dmul x y) (a * b) := by
  obtain ⟨s, c, q, h1, rfl⟩ := hx
  obtain ⟨t, d, r, h2, rfl⟩ := hy
  refine ⟨s != t, c * d, 1, q + r, by decide, (val64_dmul x y).trans (by rw [h1, h2]; rfl), ?_⟩
  rw [signed_xor, Rat.intCast_mul, own_p_add, show (((1 : Nat) : Rat)) = 1 from rfl, Rat.div_def, own_inv1, Rat.mul_one]
  grind
theorem own_div {x y : UInt64} {a b : Rat} (hx : own_is x a) (hy : own_is y b) (hb : b ≠ 0) : own_rd (FP.ddiv x y) (a / b) := by
  obtain ⟨s, c, q, h1, rfl⟩ := hx
  obtain ⟨t, d, r, h2, rfl⟩ := hy
  have hd : d ≠ 0 := by
    rintro rfl
    exact hb (by rw [own_signed_zero.mpr rfl, Rat.zero_mul])
  refine ⟨s != t, c, d, q - r, by omega, (val64_ddiv x y).trans (by rw [h1, h2]; show (if d = 0 then _ else _) = _; rw [if_neg hd]), ?_⟩
  have hd' : ((d : Nat) : Rat) ≠ 0 := own_nat_ne (by omega)
  have e1 : (2 : Rat) ^ q = 2 ^ (q - r) * 2 ^ r := by rw [← own_p_add]; congr 1; omega
  have e2 := own_p_ne r
  rw [e1]
  generalize (2 : Rat) ^ (q - r) = P
  generalize (2 : Rat) ^ r = W at *
  cases s <;> cases t <;> simp only [signed, Bool.false_eq_true, if_true, if_false, bne_self_eq_false, Rat.intCast_neg, Rat.intCast_natCast, Bool.bne_true, Bool.bne_false, Bool.not_false, Bool.not_true] <;> grind
theorem own_rdL (a : Int64) : own_rd (FP.l2d a) ((a.toInt : Int) : Rat) := by
  refine ⟨decide (a.toInt < 0), a.toInt.natAbs, 1, 0, by decide, val64_l2d a, ?_⟩
  rw [show (((1 : Nat) : Rat)) = 1 from rfl, Rat.div_def, own_inv1, Rat.mul_one, Rat.zpow_zero, Rat.mul_one]
  congr 1
  unfold signed
  by_cases hmn : a.toInt < 0 <;> simp [hmn] <;> omega
theorem own_isI (a : Int32) : own_is (FP.i2d a) ((a.toInt : Int) : Rat) := by
  have h : FP.i2d a = FP.l2d a.toInt64 := i2d_l2d a
  have h2 := own_rdL a.toInt64
  rw [Int32.toInt_toInt64] at h2
  rw [h]
  refine own_rd_exact h2 (m := a.toInt) (k := 0) (by rw [Rat.zpow_zero, Rat.mul_one]) ?_ (by decide) (by decide)
  have := a.le_toInt; have := a.toInt_lt; omega
end OwnNum2
section OwnNum3
open Jvm.FP.Core Jvm.Free.Fl
theorem own_units {A B : Nat} {e : Int} {c : Nat} {q : Int} {s : Bool} (hf : FP.Core.fits b64 (.fin s c q)) (e0 : Int) (h0 : e0 ≤ b64.qmin) (h0e : e0 ≤ e) :
    (((inUnits A e e0 : Nat) : Rat) = (A : Rat) * 2 ^ e * 2 ^ (-e0)) ∧ (((zmag b64 (.fin s c q) * 2 ^ (b64.qmin - e0).toNat * B : Nat) : Rat) = ((c : Rat) * 2 ^ q) * (B : Rat) * 2 ^ (-e0)) := by
  constructor
  · unfold inUnits
    rw [Rat.natCast_mul, own_p_toNat (by omega), show e - e0 = e + -e0 by omega, own_p_add, Rat.mul_assoc]
  · rw [Rat.natCast_mul, Rat.natCast_mul, own_zmag hf, own_p_toNat (by omega), show b64.qmin - e0 = -1074 + -e0 by rw [qmin_b64]; omega, own_p_add]
    have := own_p_neg 1074
    grind
theorem own_div_le {a b w : Rat} (hb : 0 < b) : a / b ≤ w ↔ a ≤ w * b := by
  have h1 : a = a / b * b := (Rat.div_mul_cancel (Rat.ne_of_gt hb)).symm
  constructor
  · intro h; rw [h1]; exact Rat.mul_le_mul_of_nonneg_right h (Rat.le_of_lt hb)
  · intro h; rw [h1] at h; exact Rat.le_of_mul_le_mul_right h hb
theorem own_le_div {a b w : Rat} (hb : 0 < b) : w ≤ a / b ↔ w * b ≤ a := by
  have h1 : a = a / b * b := (Rat.div_mul_cancel (Rat.ne_of_gt hb)).symm
  constructor
  · intro h; rw [h1]; exact Rat.mul_le_mul_of_nonneg_right h (Rat.le_of_lt hb)
  · intro h; rw [h1] at h; exact Rat.le_of_mul_le_mul_right h hb
theorem own_mag_le {A B : Nat} {e : Int} {s t : Bool} {c : Nat} {q : Int} (hB : 0 < B) (hf : FP.Core.fits b64 (.fin t c q)) (h : (A : Rat) / (B : Rat) * 2 ^ e ≤ (c : Rat) * 2 ^ q) : zmag b64 (roundRatio b64 s A B e) ≤ zmag b64 (.fin t c q) := by
  obtain ⟨u1, u2⟩ := own_units (A := A) (B := B) (e := e) hf (min e b64.qmin) (by omega) (by omega)
  refine zmag_roundRatio_le good_b64 hB hf Datum.noConfusion (e0 := min e b64.qmin) (by omega) (by omega) (Rat.natCast_le_natCast.mp ?_)
  rw [u1, u2]
  refine Rat.mul_le_mul_of_nonneg_right ?_ (Rat.le_of_lt (own_p_pos _))
  have hb := own_nat_pos hB
  have h2 := Rat.mul_le_mul_of_nonneg_right h (Rat.le_of_lt hb)
  have h3 : (A : Rat) / (B : Rat) * 2 ^ e * (B : Rat) = (A : Rat) * 2 ^ e := by
    rw [Rat.mul_assoc, Rat.mul_comm ((2 : Rat) ^ e), ← Rat.mul_assoc, Rat.div_mul_cancel (own_nat_ne hB)]
  rw [h3] at h2
  exact h2
theorem own_mag_ge {A B : Nat} {e : Int} {s t : Bool} {c : Nat} {q : Int} (hB : 0 < B) (hf : FP.Core.fits b64 (.fin t c q)) (h : (c : Rat) * 2 ^ q ≤ (A : Rat) / (B : Rat) * 2 ^ e) : zmag b64 (.fin t c q) ≤ zmag b64 (roundRatio b64 s A B e) := by
  obtain ⟨u1, u2⟩ := own_units (A := A) (B := B) (e := e) hf (min e b64.qmin) (by omega) (by omega)
  refine zmag_roundRatio_ge good_b64 hB hf (e0 := min e b64.qmin) (by omega) (by omega) (Rat.natCast_le_natCast.mp ?_)
  rw [u1, u2]
  refine Rat.mul_le_mul_of_nonneg_right ?_ (Rat.le_of_lt (own_p_pos _))
  have hb := own_nat_pos hB
  have h2 := Rat.mul_le_mul_of_nonneg_right h (Rat.le_of_lt hb)
  have h3 : (A : Rat) / (B : Rat) * 2 ^ e * (B : Rat) = (A : Rat) * 2 ^ e := by
    rw [Rat.mul_assoc, Rat.mul_comm ((2 : Rat) ^ e), ← Rat.mul_assoc, Rat.div_mul_cancel (own_nat_ne hB)]
  rw [h3] at h2
  exact h2
theorem own_signed_ratio (s : Bool) (A B : Nat) (e : Int) : ((signed s A : Int) : Rat) / ((B : Nat) : Rat) * (2 : Rat) ^ e = if s then -((A : Rat) / (B : Rat) * 2 ^ e) else (A : Rat) / (B : Rat) * 2 ^ e := by
  cases s
  · rfl
  · show ((-(A : Int) : Int) : Rat) / _ * _ = _
    rw [Rat.intCast_neg, Rat.div_def, Rat.neg_mul, Rat.neg_mul]; rfl
theorem own_signed_pow (s : Bool) (c : Nat) (q : Int) : ((signed s c : Int) : Rat) * (2 : Rat) ^ q = if s then -((c : Rat) * 2 ^ q) else (c : Rat) * 2 ^ q := by
  cases s
  · rfl
  · show ((-(c : Int) : Int) : Rat) * _ = _
    rw [Rat.intCast_neg, Rat.neg_mul]; rfl
theorem own_ratio_nonneg (A B : Nat) (e : Int) : 0 ≤ (A : Rat) / (B : Rat) * 2 ^ e := by
  refine Rat.mul_nonneg ?_ (Rat.le_of_lt (own_p_pos e))
  rcases Nat.eq_zero_or_pos B with rfl | hB
  · rw [Rat.div_def]; exact Rat.mul_nonneg Rat.natCast_nonneg (by rw [show ((0 : Nat) : Rat) = 0 from rfl, Rat.inv_zero]; exact Rat.le_refl)
  · rw [own_le_div (own_nat_pos hB), Rat.zero_mul]; exact Rat.natCast_nonneg
theorem own_rd_le {x V : UInt64} {r y : Rat} (h : own_rd x r) (hV : own_is V y) (hle : r ≤ y) : zval b64 (val64 x) ≤ zval b64 (val64 V) := by
  obtain ⟨s, A, B, e, hB, hv, hr⟩ := h
  obtain ⟨t, c, q, hVv, hy⟩ := hV
  have hf := val64_fits V
  rw [hVv] at hf
  rw [hv, hVv]
  have m1 := own_mag_le (A := A) (e := e) (s := s) hB hf
  have m2 := own_mag_ge (A := A) (e := e) (s := s) hB hf
  unfold zval
  rw [sgn_roundRatio]
  show _ ≤ signed t (zmag b64 (.fin t c q))
  rw [own_signed_ratio] at hr
  rw [own_signed_pow] at hy
  have p1 := own_ratio_nonneg A B e
  have p2 : 0 ≤ (c : Rat) * 2 ^ q := Rat.mul_nonneg Rat.natCast_nonneg (Rat.le_of_lt (own_p_pos q))
  have hz : (c : Rat) * 2 ^ q ≤ 0 → zmag b64 (.fin t c q) = 0 := by
    intro h0
    have h1 : (c : Rat) * 2 ^ q = 0 := Rat.le_antisymm h0 p2
    have h2 := own_zmag hf
    rw [h1, Rat.zero_mul] at h2
    exact Rat.natCast_eq_zero_iff.mp h2
  generalize (A : Rat) / (B : Rat) * 2 ^ e = ra at *
  generalize (c : Rat) * 2 ^ q = rc at *
  generalize zmag b64 (roundRatio b64 s A B e) = za at *
  generalize zmag b64 (.fin t c q) = zc at *
  cases s <;> cases t <;> simp only [signed, Bool.false_eq_true, if_true, if_false] at hr hy ⊢
  · have := m1 (by grind); omega
  · have := m1 (by grind); have := hz (by grind); omega
  · omega
  · have := m2 (by grind); omega
theorem own_rd_neg {x : UInt64} {r : Rat} (h : own_rd x r) : own_rd (FP.dneg x) (-r) := by
  obtain ⟨s, A, B, e, hB, hv, hr⟩ := h
  refine ⟨!s, A, B, e, hB, (FP.val64_dneg x).trans (by rw [hv, negate_roundRatio]), ?_⟩
  rw [hr, signed_not, Rat.intCast_neg, Rat.div_def, Rat.div_def, Rat.neg_mul, Rat.neg_mul]
theorem own_zval_neg (x : UInt64) : zval b64 (val64 (FP.dneg x)) = -zval b64 (val64 x) := by
  rw [show val64 (FP.dneg x) = negate (val64 x) from FP.val64_dneg x, zval_negate]
theorem own_rd_ge {x V : UInt64} {r y : Rat} (h : own_rd x r) (hV : own_is V y) (hle : y ≤ r) : zval b64 (val64 V) ≤ zval b64 (val64 x) := by
  have h1 := own_rd_le (own_rd_neg h) (own_neg hV) (Rat.neg_le_neg hle)
  rw [own_zval_neg, own_zval_neg] at h1
  omega
theorem own_big : own_is 9110782046170513408 ((2 : Rat) ^ (1000 : Int)) := ⟨false, 2 ^ 52, 948, by decide +kernel, by
  show _ = (((2 ^ 52 : Nat) : Rat)) * _
  rw [own_p_nat, ← own_p_add]; rfl⟩
theorem own_rd_fin {x : UInt64} {r : Rat} (h : own_rd x r) (h1 : r ≤ (2 : Rat) ^ (1000 : Int)) (h2 : -((2 : Rat) ^ (1000 : Int)) ≤ r) : ∃ v, own_is x v := by
  have l1 := own_rd_le h own_big h1
  have l2 := own_rd_ge h (own_neg own_big) h2
  rw [own_zval_neg] at l2
  obtain ⟨s, A, B, e, hB, hv, hr⟩ := h
  rcases roundRatio_cases b64 s A B e with ⟨c, q, hc⟩ | hc
  · exact ⟨_, s, c, q, hv.trans hc, rfl⟩
  · rw [hv, hc] at l1 l2
    cases s
    · exact absurd l1 (by decide +kernel)
    · exact absurd l2 (by decide +kernel)
theorem own_rd_le' {x V : UInt64} {r v y : Rat} (h : own_rd x r) (hx : own_is x v) (hV : own_is V y) (hle : r ≤ y) : v ≤ y := by
  have h1 := own_rd_le h hV hle
  refine Rat.not_lt.mp fun h2 => ?_
  have h3 := (dcmp_lt.mp ((own_is_lt hV hx).mpr h2)).2.2
  omega
theorem own_rd_ge' {x V : UInt64} {r v y : Rat} (h : own_rd x r) (hx : own_is x v) (hV : own_is V y) (hle : y ≤ r) : y ≤ v := by
  have h1 := own_rd_ge h hV hle
  refine Rat.not_lt.mp fun h2 => ?_
  have h3 := (dcmp_lt.mp ((own_is_lt hx hV).mpr h2)).2.2
  omega
/-- every rational of 53 digits is a double -/
theorem own_rep {m k : Int} (hm : m.natAbs < 2 ^ 53) (hk : -1074 ≤ k) (hk2 : k ≤ 971) : ∃ V, own_is V ((m : Rat) * (2 : Rat) ^ k) := by
  have hf : FP.Core.fits b64 (roundRatio b64 (decide (m < 0)) m.natAbs 1 k) := roundRatio_fits good_b64 _ _ (by decide) _
  refine ⟨of64 (roundRatio b64 (decide (m < 0)) m.natAbs 1 k), own_rd_exact ⟨decide (m < 0), m.natAbs, 1, k, by decide, val64_of64 hf, ?_⟩ rfl hm hk hk2⟩
  rw [show (((1 : Nat) : Rat)) = 1 from rfl, Rat.div_def, own_inv1, Rat.mul_one]
  congr 2
  unfold signed
  by_cases hmn : m < 0 <;> simp [hmn] <;> omega
end OwnNum3
section OwnNum4
open Jvm.FP.Core Jvm.Free.Fl
theorem own_two200 : (1606938044258990275541962092341162602522202993782792835301376 : Rat) ≤ (2 : Rat) ^ (1000 : Int) := by decide +kernel
theorem own_rd_finN {x : UInt64} {r : Rat} (h : own_rd x r) (h1 : r ≤ 1606938044258990275541962092341162602522202993782792835301376) (h2 : -1606938044258990275541962092341162602522202993782792835301376 ≤ r) : ∃ v, own_is x v :=
  own_rd_fin h (Rat.le_trans h1 own_two200) (Rat.le_trans (Rat.neg_le_neg own_two200) h2)
theorem own_zero : own_is 0 0 := ⟨false, 0, -1074, by decide +kernel, by decide +kernel⟩
theorem own_one : own_is 4607182418800017408 1 := ⟨false, 2 ^ 52, -52, by decide +kernel, by decide +kernel⟩
theorem own_rep' {m k : Int} {r : Rat} (hr : r = (m : Rat) * (2 : Rat) ^ k) (hm : m.natAbs < 2 ^ 53) (hk : -1074 ≤ k) (hk2 : k ≤ 971) : ∃ V, own_is V r := by rw [hr]; exact own_rep hm hk hk2
theorem own_cmpv {x y : UInt64} {a b : Rat} (hx : own_is x a) (hy : own_is y b) (o : ClassFile.CmpOp) : Op.cmpValue (FP.dcmp x y) o = if a < b then -1 else if a = b then 0 else 1 := by
  by_cases h1 : a < b
  · rw [(own_is_lt hx hy).mpr h1, if_pos h1]; rfl
  · by_cases h2 : a = b
    · rw [(own_is_eq hx hy).mpr h2, if_neg h1, if_pos h2]; rfl
    · have h3 : b < a := by grind
      rw [(own_is_gt hx hy).mpr h3, if_neg h1, if_neg h2]; rfl
theorem own_c_lt {x y : UInt64} {a b : Rat} (hx : own_is x a) (hy : own_is y b) (o : ClassFile.CmpOp) : Op.ifCond.holds .lt (Op.cmpValue (FP.dcmp x y) o) = decide (a < b) := by
  rw [own_cmpv hx hy]; by_cases h1 : a < b <;> by_cases h2 : a = b <;> simp [h1, h2, Op.ifCond.holds]
theorem own_c_ge {x y : UInt64} {a b : Rat} (hx : own_is x a) (hy : own_is y b) (o : ClassFile.CmpOp) : Op.ifCond.holds .ge (Op.cmpValue (FP.dcmp x y) o) = decide (b ≤ a) := by
  rw [own_cmpv hx hy]
  by_cases h1 : a < b
  · simp [h1, Rat.not_le.mpr h1, Op.ifCond.holds]
  · by_cases h2 : a = b <;> simp [h1, h2, Rat.not_lt.mp h1, Op.ifCond.holds, Rat.le_refl]
theorem own_c_gt {x y : UInt64} {a b : Rat} (hx : own_is x a) (hy : own_is y b) (o : ClassFile.CmpOp) : Op.ifCond.holds .gt (Op.cmpValue (FP.dcmp x y) o) = decide (b < a) := by
  rw [own_cmpv hx hy]
  by_cases h1 : a < b
  · have : ¬ b < a := by grind
    simp [h1, this, Op.ifCond.holds]
  · by_cases h2 : a = b
    · subst h2; simp [Rat.lt_irrefl, Op.ifCond.holds]
    · have : b < a := by grind
      simp [h1, h2, this, Op.ifCond.holds]
theorem own_c_le {x y : UInt64} {a b : Rat} (hx : own_is x a) (hy : own_is y b) (o : ClassFile.CmpOp) : Op.ifCond.holds .le (Op.cmpValue (FP.dcmp x y) o) = decide (a ≤ b) := by
  rw [own_cmpv hx hy]
  by_cases h1 : a < b
  · simp [h1, Rat.le_of_lt h1, Op.ifCond.holds]
  · by_cases h2 : a = b
    · subst h2; simp [Rat.lt_irrefl, Rat.le_refl, Op.ifCond.holds]
    · have : ¬ a ≤ b := by grind
      simp [h1, h2, this, Op.ifCond.holds]
theorem own_c_eq {x y : UInt64} {a b : Rat} (hx : own_is x a) (hy : own_is y b) (o : ClassFile.CmpOp) : Op.ifCond.holds .eq (Op.cmpValue (FP.dcmp x y) o) = decide (a = b) := by
  rw [own_cmpv hx hy]
  by_cases h1 : a < b
  · have : ¬ a = b := by grind
    simp [h1, this, Op.ifCond.holds]
  · by_cases h2 : a = b <;> simp [h1, h2, Op.ifCond.holds]
theorem own_c_ne {x y : UInt64} {a b : Rat} (hx : own_is x a) (hy : own_is y b) (o : ClassFile.CmpOp) : Op.ifCond.holds .ne (Op.cmpValue (FP.dcmp x y) o) = decide (a ≠ b) := by
  rw [own_cmpv hx hy]
  by_cases h1 : a < b
  · have : ¬ a = b := by grind
    simp [h1, this, Op.ifCond.holds]
  · by_cases h2 : a = b <;> simp [h1, h2, Op.ifCond.holds]
/-- ints by their values -/
theorem own_i_lt (x y : Int32) : Op.if_icmp.holds .lt x y = decide (x.toInt < y.toInt) := by simp only [Op.if_icmp.holds, Int32.lt_iff_toInt_lt]
theorem own_i_gt (x y : Int32) : Op.if_icmp.holds .gt x y = decide (y.toInt < x.toInt) := by simp only [Op.if_icmp.holds, GT.gt, Int32.lt_iff_toInt_lt]
theorem own_i_le (x y : Int32) : Op.if_icmp.holds .le x y = decide (x.toInt ≤ y.toInt) := by simp only [Op.if_icmp.holds, Int32.le_iff_toInt_le]
theorem own_i_ge (x y : Int32) : Op.if_icmp.holds .ge x y = decide (y.toInt ≤ x.toInt) := by simp only [Op.if_icmp.holds, GE.ge, Int32.le_iff_toInt_le]
theorem own_i_eq (x y : Int32) : Op.if_icmp.holds .eq x y = decide (x = y) := by rw [Bool.eq_iff_iff]; simp [Op.if_icmp.holds]
theorem own_i_ne (x y : Int32) : Op.if_icmp.holds .ne x y = decide (x ≠ y) := by rw [Bool.eq_iff_iff]; simp [Op.if_icmp.holds]
theorem own_z_lt (x : Int32) : Op.ifCond.holds .lt x = decide (x.toInt < 0) := by simp only [Op.ifCond.holds, Int32.lt_iff_toInt_lt]; rfl
theorem own_z_gt (x : Int32) : Op.ifCond.holds .gt x = decide (0 < x.toInt) := by simp only [Op.ifCond.holds, GT.gt, Int32.lt_iff_toInt_lt]; rfl
theorem own_z_le (x : Int32) : Op.ifCond.holds .le x = decide (x.toInt ≤ 0) := by simp only [Op.ifCond.holds, Int32.le_iff_toInt_le]; rfl
theorem own_z_ge (x : Int32) : Op.ifCond.holds .ge x = decide (0 ≤ x.toInt) := by simp only [Op.ifCond.holds, GE.ge, Int32.le_iff_toInt_le]; rfl
theorem own_z_eq (x : Int32) : Op.ifCond.holds .eq x = decide (x = 0) := by rw [Bool.eq_iff_iff]; simp [Op.ifCond.holds]
theorem own_z_ne (x : Int32) : Op.ifCond.holds .ne x = decide (x ≠ 0) := by rw [Bool.eq_iff_iff]; simp [Op.ifCond.holds]
theorem own_lc_lt (x y : Int64) : Op.ifCond.holds .lt (if x > y then (1 : Int32) else if x = y then 0 else -1) = decide (x.toInt < y.toInt) := by
  simp only [GT.gt, Int64.lt_iff_toInt_lt, ← Int64.toInt_inj]
  by_cases h1 : y.toInt < x.toInt
  · simp [h1, Op.ifCond.holds, show ¬ x.toInt < y.toInt by omega]
  · by_cases h2 : x.toInt = y.toInt
    · simp [h2, Op.ifCond.holds]
    · simp [h1, h2, Op.ifCond.holds, show x.toInt < y.toInt by omega]
theorem own_lc_ge (x y : Int64) : Op.ifCond.holds .ge (if x > y then (1 : Int32) else if x = y then 0 else -1) = decide (y.toInt ≤ x.toInt) := by
  simp only [GT.gt, Int64.lt_iff_toInt_lt, ← Int64.toInt_inj]
  by_cases h1 : y.toInt < x.toInt
  · simp [h1, Op.ifCond.holds, show y.toInt ≤ x.toInt by omega]
  · by_cases h2 : x.toInt = y.toInt
    · simp [h2, Op.ifCond.holds]
    · simp [h1, h2, Op.ifCond.holds, show ¬ y.toInt ≤ x.toInt by omega]
theorem own_lc_gt (x y : Int64) : Op.ifCond.holds .gt (if x > y then (1 : Int32) else if x = y then 0 else -1) = decide (y.toInt < x.toInt) := by
  simp only [GT.gt, Int64.lt_iff_toInt_lt, ← Int64.toInt_inj]
  by_cases h1 : y.toInt < x.toInt
  · simp [h1, Op.ifCond.holds]
  · by_cases h2 : x.toInt = y.toInt
    · simp [h2, Op.ifCond.holds]
    · simp [h1, h2, Op.ifCond.holds]
theorem own_lc_le (x y : Int64) : Op.ifCond.holds .le (if x > y then (1 : Int32) else if x = y then 0 else -1) = decide (x.toInt ≤ y.toInt) := by
  simp only [GT.gt, Int64.lt_iff_toInt_lt, ← Int64.toInt_inj]
  by_cases h1 : y.toInt < x.toInt
  · simp [h1, Op.ifCond.holds, show ¬ x.toInt ≤ y.toInt by omega]
  · by_cases h2 : x.toInt = y.toInt
    · simp [h2, Op.ifCond.holds]
    · simp [h1, h2, Op.ifCond.holds, show x.toInt ≤ y.toInt by omega]
theorem own_lc_eq (x y : Int64) : Op.ifCond.holds .eq (if x > y then (1 : Int32) else if x = y then 0 else -1) = decide (x.toInt = y.toInt) := by
  simp only [GT.gt, Int64.lt_iff_toInt_lt, ← Int64.toInt_inj]
  by_cases h1 : y.toInt < x.toInt
  · simp [h1, Op.ifCond.holds, show ¬ x.toInt = y.toInt by omega]
  · by_cases h2 : x.toInt = y.toInt
    · simp [h2, Op.ifCond.holds]
    · simp [h1, h2, Op.ifCond.holds]
theorem own_lc_ne (x y : Int64) : Op.ifCond.holds .ne (if x > y then (1 : Int32) else if x = y then 0 else -1) = decide (x.toInt ≠ y.toInt) := by
  simp only [GT.gt, Int64.lt_iff_toInt_lt, ← Int64.toInt_inj]
  by_cases h1 : y.toInt < x.toInt
  · simp [h1, Op.ifCond.holds, show ¬ x.toInt = y.toInt by omega]
  · by_cases h2 : x.toInt = y.toInt
    · simp [h2, Op.ifCond.holds]
    · simp [h1, h2, Op.ifCond.holds]
end OwnNum4
section OwnNum5
open Jvm.FP.Core Jvm.Free.Fl
/-- no number of 53 digits is nearer than the rounded one -/
theorem own_near {s : Bool} {A B : Nat} {e : Int} {c : Nat} {q : Int} (hB : 0 < B) (hR : roundRatio b64 s A B e = .fin s c q) {c' : Nat} {q' : Int} (hc' : c' < 2 ^ 53) (hq' : -1074 ≤ q') {D : Rat}
    (h1 : (c' : Rat) * 2 ^ q' - (A : Rat) / (B : Rat) * 2 ^ e ≤ D) (h2 : (A : Rat) / (B : Rat) * 2 ^ e - (c' : Rat) * 2 ^ q' ≤ D) :
    (c : Rat) * 2 ^ q - (A : Rat) / (B : Rat) * 2 ^ e ≤ D ∧ (A : Rat) / (B : Rat) * 2 ^ e - (c : Rat) * 2 ^ q ≤ D := by
  have hfit : FP.Core.fits b64 (.fin s c q) := hR ▸ roundRatio_fits good_b64 s A hB e
  have hqm : (-1074 : Int) ≤ q := by have := hfit.2.1; rw [qmin_b64] at this; exact this
  obtain ⟨e0, he0, he1⟩ : ∃ e0 : Int, e0 ≤ -1074 ∧ e0 ≤ e := ⟨min e (-1074), by omega, by omega⟩
  have hd := roundRatio_nearest good_b64 hB hR hc' (by rw [qmin_b64]; exact hq') (e0 := e0) (by rw [qmin_b64]; exact he0) he1
  unfold distance at hd
  have hb := own_nat_pos hB
  have hp := own_p_pos (-e0)
  have cU : ∀ (n : Nat) (j : Int), e0 ≤ j → ((inUnits n j e0 : Nat) : Rat) = (n : Rat) * 2 ^ j * 2 ^ (-e0) := by
    intro n j hj
    unfold inUnits
    rw [Rat.natCast_mul, own_p_toNat (by omega), show j - e0 = j + -e0 by omega, own_p_add, Rat.mul_assoc]
  have uA := cU A e he1
  have uc := cU c q (by omega)
  have uc' := cU c' q' (by omega)
  have hA : (A : Rat) / (B : Rat) * 2 ^ e * (B : Rat) = (A : Rat) * 2 ^ e := by
    rw [Rat.mul_assoc, Rat.mul_comm ((2 : Rat) ^ e), ← Rat.mul_assoc, Rat.div_mul_cancel (own_nat_ne hB)]
  generalize (A : Rat) / (B : Rat) * 2 ^ e = a at *
  generalize hx : ((inUnits A e e0 : Nat) : Int) - ((inUnits c q e0 : Nat) : Int) * (B : Int) = x at hd
  generalize hy : ((inUnits A e e0 : Nat) : Int) - ((inUnits c' q' e0 : Nat) : Int) * (B : Int) = y at hd
  have ex : (x : Rat) = (a - (c : Rat) * 2 ^ q) * ((B : Rat) * 2 ^ (-e0)) := by
    rw [← hx, Rat.intCast_sub, Rat.intCast_mul, Rat.intCast_natCast, Rat.intCast_natCast, Rat.intCast_natCast, uA, uc, ← hA]
    grind
  have ey : (y : Rat) = (a - (c' : Rat) * 2 ^ q') * ((B : Rat) * 2 ^ (-e0)) := by
    rw [← hy, Rat.intCast_sub, Rat.intCast_mul, Rat.intCast_natCast, Rat.intCast_natCast, Rat.intCast_natCast, uA, uc', ← hA]
    grind
  have hK : (0 : Rat) < (B : Rat) * 2 ^ (-e0) := Rat.mul_pos hb hp
  generalize (B : Rat) * 2 ^ (-e0) = K at *
  generalize (c : Rat) * 2 ^ q = u at *
  generalize (c' : Rat) * 2 ^ q' = w at *
  have yD1 : (y : Rat) ≤ D * K := by rw [ey]; exact Rat.mul_le_mul_of_nonneg_right h2 (Rat.le_of_lt hK)
  have yD2 : -(y : Rat) ≤ D * K := by
    rw [ey]
    have := Rat.mul_le_mul_of_nonneg_right h1 (Rat.le_of_lt hK)
    grind
  have k1 : (x ≤ y ∨ x ≤ -y) ∧ (-x ≤ y ∨ -x ≤ -y) := by omega
  have x1 : (x : Rat) ≤ D * K := by
    rcases k1.1 with k | k
    · exact Rat.le_trans (Rat.intCast_le_intCast.mpr k) yD1
    · have := Rat.intCast_le_intCast.mpr k
      rw [Rat.intCast_neg] at this
      exact Rat.le_trans this yD2
  have x2 : -(x : Rat) ≤ D * K := by
    rw [← Rat.intCast_neg]
    rcases k1.2 with k | k
    · exact Rat.le_trans (Rat.intCast_le_intCast.mpr k) yD1
    · have := Rat.intCast_le_intCast.mpr k
      rw [Rat.intCast_neg y] at this
      exact Rat.le_trans this yD2
  rw [ex] at x1 x2
  constructor
  · refine Rat.le_of_mul_le_mul_right ?_ hK
    grind
  · refine Rat.le_of_mul_le_mul_right ?_ hK
    exact x1
theorem own_grid {a : Rat} {k : Int} (h0 : 0 ≤ a) (hk : a ≤ (2 : Rat) ^ k) : ∃ n : Nat, n ≤ 2 ^ 53 ∧ (n : Rat) * 2 ^ (k - 53) - a ≤ 2 ^ (k - 54) ∧ a - (n : Rat) * 2 ^ (k - 53) ≤ 2 ^ (k - 54) := by
  have hu := own_p_pos (k - 53)
  have e1 : (2 : Rat) ^ k = 2 ^ (k - 53) * 9007199254740992 := by
    rw [show (9007199254740992 : Rat) = (2 : Rat) ^ (53 : Int) by decide +kernel, ← own_p_add]; congr 1; omega
  have e2 : (2 : Rat) ^ (k - 53) = 2 ^ (k - 54) * 2 := by
    have := own_p_add (k - 54) 1
    rw [Rat.zpow_one, show k - 54 + 1 = k - 53 by omega] at this
    exact this
  have hv := own_p_pos (k - 54)
  rw [e1] at hk
  generalize (2 : Rat) ^ (k - 54) = g at *
  generalize (2 : Rat) ^ (k - 53) = u at *
  obtain ⟨f, hf⟩ : ∃ f : Int, f = (a / u + 1 / 2).floor := ⟨_, rfl⟩
  have f1 : (f : Rat) ≤ a / u + 1 / 2 := by rw [hf]; exact Rat.floor_le _
  have f2 : a / u + 1 / 2 < ((f + 1 : Int) : Rat) := by rw [hf]; exact Rat.lt_floor_add_one _
  rw [Rat.intCast_add, show ((1 : Int) : Rat) = 1 from rfl] at f2
  have ha : a = a / u * u := (Rat.div_mul_cancel (Rat.ne_of_gt hu)).symm
  have hb1 : a / u ≤ 9007199254740992 := by rw [own_div_le hu]; grind
  have hb0 : 0 ≤ a / u := by rw [own_le_div hu]; grind
  generalize a / u = t at *
  have n0 : 0 ≤ f := by
    refine Int.not_lt.mp fun q => ?_
    have : (f : Rat) ≤ -1 := (show ((f : Int) : Rat) ≤ ((-1 : Int) : Rat) from Rat.intCast_le_intCast.mpr (by omega))
    grind
  have n1 : f ≤ 9007199254740992 := by
    refine Int.not_lt.mp fun q => ?_
    have : (9007199254740993 : Rat) ≤ (f : Rat) := (show ((9007199254740993 : Int) : Rat) ≤ ((f : Int) : Rat) from Rat.intCast_le_intCast.mpr (by omega))
    grind
  refine ⟨f.toNat, by omega, ?_⟩
  have ec : ((f.toNat : Nat) : Rat) = (f : Rat) := by rw [← Rat.intCast_natCast, Int.toNat_of_nonneg n0]
  rw [ec, ha]
  have m1 : ((f : Rat) - t) * u ≤ (1 / 2) * u := Rat.mul_le_mul_of_nonneg_right (by grind) (Rat.le_of_lt hu)
  have m2 : (t - (f : Rat)) * u ≤ (1 / 2) * u := Rat.mul_le_mul_of_nonneg_right (by grind) (Rat.le_of_lt hu)
  constructor <;> grind
theorem own_err0 {s : Bool} {A B : Nat} {e : Int} {c : Nat} {q : Int} (hB : 0 < B) (hR : roundRatio b64 s A B e = .fin s c q) {k : Int} (hk1 : -1000 ≤ k) (hle : (A : Rat) / (B : Rat) * 2 ^ e ≤ 2 ^ k) :
    (c : Rat) * 2 ^ q - (A : Rat) / (B : Rat) * 2 ^ e ≤ 2 ^ (k - 54) ∧ (A : Rat) / (B : Rat) * 2 ^ e - (c : Rat) * 2 ^ q ≤ 2 ^ (k - 54) := by
  obtain ⟨n, hn, h1, h2⟩ := own_grid (own_ratio_nonneg A B e) hle
  rcases Nat.lt_or_eq_of_le hn with hlt | heq
  · exact own_near hB hR (c' := n) (q' := k - 53) hlt (by omega) h1 h2
  · subst heq
    have e3 : ((2 ^ 53 : Nat) : Rat) * 2 ^ (k - 53) = ((2 ^ 52 : Nat) : Rat) * 2 ^ (k - 52) := by
      rw [own_p_nat, own_p_nat, ← own_p_add, ← own_p_add]; congr 1
      show (53 : Int) + (k - 53) = 52 + (k - 52); omega
    rw [e3] at h1 h2
    exact own_near hB hR (c' := 2 ^ 52) (q' := k - 52) (by decide) (by omega) h1 h2
theorem own_p_mono {a b : Int} (h : a ≤ b) : (2 : Rat) ^ a ≤ 2 ^ b := by
  have e : (2 : Rat) ^ b = 2 ^ a * 2 ^ (b - a) := by rw [← own_p_add]; congr 1; omega
  have h1 : (1 : Rat) ≤ 2 ^ (b - a) := by
    rw [← own_p_toNat (by omega)]
    exact (show ((1 : Nat) : Rat) ≤ _ from Rat.natCast_le_natCast.mpr (Nat.one_le_two_pow))
  rw [e]
  have := Rat.mul_le_mul_of_nonneg_left h1 (Rat.le_of_lt (own_p_pos a))
  grind
/-- the error of a rounding, by a bound of what is rounded -/
theorem own_rd_err {x : UInt64} {r : Rat} (h : own_rd x r) {k : Int} (hk1 : -1000 ≤ k) (hk2 : k ≤ 1000) (h1 : r ≤ (2 : Rat) ^ k) (h2 : -((2 : Rat) ^ k) ≤ r) : ∃ v, own_is x v ∧ v - r ≤ 2 ^ (k - 54) ∧ r - v ≤ 2 ^ (k - 54) := by
  have hm := own_p_mono hk2
  obtain ⟨v, hv⟩ := own_rd_fin h (Rat.le_trans h1 hm) (Rat.le_trans (Rat.neg_le_neg hm) h2)
  refine ⟨v, hv, ?_⟩
  obtain ⟨s, A, B, e, hB, hx, hr⟩ := h
  obtain ⟨s', c, q, hx', hv'⟩ := hv
  rcases roundRatio_cases b64 s A B e with ⟨c2, q2, hc⟩ | hc
  · rw [hx, hc] at hx'
    cases hx'
    rw [own_signed_ratio] at hr
    rw [own_signed_pow] at hv'
    have hle : (A : Rat) / (B : Rat) * 2 ^ e ≤ 2 ^ k := by
      cases s
      · rw [if_neg (by decide)] at hr; rw [← hr]; exact h1
      · rw [if_pos rfl] at hr
        have : (A : Rat) / (B : Rat) * 2 ^ e = -r := by rw [hr, Rat.neg_neg]
        rw [this]; grind
    obtain ⟨g1, g2⟩ := own_err0 hB hc hk1 hle
    cases s
    · rw [if_neg (by decide)] at hr hv'; rw [hr, hv']; exact ⟨g1, g2⟩
    · rw [if_pos rfl] at hr hv'; rw [hr, hv']; constructor <;> grind
  · rw [hx, hc] at hx'; cases hx'
/-- a double that is a whole number, as the library says it -/
theorem own_whole {x : UInt64} {i : Int} (h : own_is x (i : Rat)) : DInt i x := by
  obtain ⟨s, c, q, hx, hr⟩ := h
  show Whole i (val64 x)
  rw [hx]
  show signed s (c * 2 ^ q.toNat) = i * ((2 ^ (-q).toNat : Nat) : Int)
  rw [← Rat.intCast_inj, own_signed_cast, Rat.intCast_mul, Rat.intCast_natCast]
  rcases Int.le_total 0 q with h0 | h0
  · rw [own_p_toNat h0, show (-q).toNat = 0 by omega, hr]
    rw [show ((2 ^ 0 : Nat) : Rat) = 1 from rfl, Rat.mul_one]
  · rw [own_p_toNat (a := -q) (by omega), show q.toNat = 0 by omega, hr, show ((2 ^ 0 : Nat) : Rat) = 1 from rfl, Rat.mul_one, Rat.mul_assoc, own_p_neg, Rat.mul_one]
theorem own_isd2l {x : UInt64} {a : Int64} (h : own_is x ((a.toInt : Int) : Rat)) : FP.d2l x = a := d2l_int (own_whole h)
/-- a whole number below 2^63, rounded: a whole number, at most 512 off -/
theorem own_rd_int {x : UInt64} {i : Int} (h : own_rd x (i : Rat)) (h1 : i ≤ 9223372036854775807) (h2 : -9223372036854775807 ≤ i) : ∃ j : Int, own_is x (j : Rat) ∧ j - i ≤ 512 ∧ i - j ≤ 512 := by
  rcases Nat.lt_or_ge i.natAbs (2 ^ 53) with hs | hs
  · exact ⟨i, own_rd_exact h (m := i) (k := 0) (by rw [Rat.zpow_zero, Rat.mul_one]) hs (by decide) (by decide), by omega, by omega⟩
  · have e63 : (2 : Rat) ^ (63 : Int) = 9223372036854775808 := by decide +kernel
    have e9 : (2 : Rat) ^ ((63 : Int) - 54) = 512 := by decide +kernel
    have i1 : ((i : Int) : Rat) ≤ 9223372036854775808 := (show ((i : Int) : Rat) ≤ ((9223372036854775808 : Int) : Rat) from Rat.intCast_le_intCast.mpr (by omega))
    have i2 : (-9223372036854775808 : Rat) ≤ ((i : Int) : Rat) := (show ((-9223372036854775808 : Int) : Rat) ≤ ((i : Int) : Rat) from Rat.intCast_le_intCast.mpr (by omega))
    obtain ⟨v, hv, g1, g2⟩ := own_rd_err h (k := 63) (by decide) (by decide) (by rw [e63]; exact i1) (by rw [e63]; exact i2)
    rw [e9] at g1 g2
    have hv0 := hv
    obtain ⟨s, c, q, hx, hr⟩ := hv0
    have hf := val64_fits x
    rw [hx] at hf
    have hc : c < 2 ^ 53 := hf.1
    obtain ⟨V, hV⟩ := own_rep' (r := 9007199254740992) (m := 1) (k := 53) (by decide +kernel) (by decide) (by decide) (by decide)
    have hq : 0 ≤ q := by
      refine Int.not_lt.mp fun q0 => ?_
      have c1 : (c : Rat) * 2 ^ q < 9007199254740992 := by
        have c2 : ((c : Nat) : Rat) < 9007199254740992 := (show ((c : Nat) : Rat) < ((9007199254740992 : Nat) : Rat) from Rat.natCast_lt_natCast.mpr hc)
        have c3 : (2 : Rat) ^ q ≤ 1 := by
          have := own_p_mono (show q ≤ 0 by omega)
          rw [Rat.zpow_zero] at this; exact this
        have c4 : (0 : Rat) ≤ ((c : Nat) : Rat) := Rat.natCast_nonneg
        have := Rat.mul_le_mul_of_nonneg_left c3 c4
        grind
      have cneg : (0 : Rat) ≤ (c : Rat) * 2 ^ q := Rat.mul_nonneg Rat.natCast_nonneg (Rat.le_of_lt (own_p_pos q))
      rw [own_signed_pow] at hr
      rcases Int.le_total 0 i with hi | hi
      · have : (9007199254740992 : Rat) ≤ ((i : Int) : Rat) := (show ((9007199254740992 : Int) : Rat) ≤ ((i : Int) : Rat) from Rat.intCast_le_intCast.mpr (by omega))
        have := own_rd_ge' h hv hV this
        cases s <;> simp only [Bool.false_eq_true, if_true, if_false] at hr <;> grind
      · have : ((i : Int) : Rat) ≤ -9007199254740992 := (show ((i : Int) : Rat) ≤ ((-9007199254740992 : Int) : Rat) from Rat.intCast_le_intCast.mpr (by omega))
        have := own_rd_le' h hv (own_neg hV) this
        cases s <;> simp only [Bool.false_eq_true, if_true, if_false] at hr <;> grind
    have hj : v = ((signed s (c * 2 ^ q.toNat) : Int) : Rat) := by rw [own_signed_cast, own_p_toNat hq]; exact hr
    refine ⟨signed s (c * 2 ^ q.toNat), hj ▸ hv, ?_, ?_⟩
    · rw [hj, ← Rat.intCast_sub] at g1
      exact Rat.intCast_le_intCast.mp (show _ ≤ ((512 : Int) : Rat) from g1)
    · rw [hj, ← Rat.intCast_sub] at g2
      exact Rat.intCast_le_intCast.mp (show _ ≤ ((512 : Int) : Rat) from g2)
theorem own_rd_small {x : UInt64} {i : Int} (h : own_rd x (i : Rat)) (hs : i.natAbs < 2 ^ 53) : own_is x (i : Rat) :=
  own_rd_exact h (m := i) (k := 0) (by rw [Rat.zpow_zero, Rat.mul_one]) hs (by decide) (by decide)
end OwnNum5
section OwnNum6
open Jvm.FP.Core Jvm.Free.Fl
/-- a rational that is a double -/
def own_Rep (r : Rat) : Prop := ∃ m k : Int, r = (m : Rat) * (2 : Rat) ^ k ∧ m.natAbs < 2 ^ 53 ∧ -1074 ≤ k ∧ k ≤ 971
theorem own_rd_rep {x : UInt64} {r : Rat} (h : own_rd x r) (hr : own_Rep r) : own_is x r := by
  obtain ⟨m, k, h1, h2, h3, h4⟩ := hr
  exact own_rd_exact h h1 h2 h3 h4
theorem own_rep_int {i : Int} (h : i.natAbs < 2 ^ 53) : own_Rep (i : Rat) := ⟨i, 0, by rw [Rat.zpow_zero, Rat.mul_one], h, by decide, by decide⟩
/-- in halves, quarters ..: j binary places -/
theorem own_rep_fix {r : Rat} (m : Int) (j : Nat) (hj : j ≤ 1000) (hr : r * ((2 ^ j : Nat) : Rat) = (m : Rat)) (hm : m.natAbs < 2 ^ 53) : own_Rep r := by
  refine ⟨m, -(j : Int), ?_, hm, by omega, by omega⟩
  rw [← hr, own_p_nat, Rat.mul_assoc, own_p_neg, Rat.mul_one]
theorem own_nb {x y : Int} {X Y : Nat} (hx : x.natAbs ≤ X) (hy : y.natAbs ≤ Y) : (x * y).natAbs ≤ X * Y := by rw [Int.natAbs_mul]; exact Nat.mul_le_mul hx hy
theorem own_rd_self {z x : UInt64} {r : Rat} (h : own_rd z r) (hx : own_is x r) (h1 : r ≤ 1606938044258990275541962092341162602522202993782792835301376) (h2 : -1606938044258990275541962092341162602522202993782792835301376 ≤ r) : own_is z r := by
  obtain ⟨v, hv⟩ := own_rd_finN h h1 h2
  have : v = r := Rat.le_antisymm (own_rd_le' h hv hx Rat.le_refl) (own_rd_ge' h hv hx Rat.le_refl)
  exact this ▸ hv
/-- two roundings of one rational are one number -/
theorem own_rd_same {z x : UInt64} {r a b : Rat} (h : own_rd z r) (h' : own_rd x r) (ha : own_is z a) (hb : own_is x b) : a = b := (own_is_eq ha hb).mp (own_rd_uniq h h')
theorem own_cle {a b : Int} (h : a ≤ b) : ((a : Int) : Rat) ≤ ((b : Int) : Rat) := Rat.intCast_le_intCast.mpr h
end OwnNum6
open Jvm Jvm.ClassFile Sem Op Lib Jvm.Free Jvm.Stand Jvm.LawKit Jvm.RoadKit Bundle Jvm.Pilot.@@N@@.Jvm.D
/-! the walk layer: own_Go says that from one frame another one is reached, whatever the heap; one rule an instruction -/
section OwnWalk
open Jvm.Free Jvm.Free.Fl
def own_Ldc (tb : Tables) (e : Env) (below : List Frame) (T : State) (m : MethodId) (c : Code) (i : Nat) (v : Value) : Prop :=
  ∀ (g : JFrame) (target : State), g.method = m →
    ((∃ x, v = .int x) → decode c.code g.pc = .ok (.ldc i, 2) → Steps tb e below (T.setTop { g with pc := g.pc + 2, stack := v :: g.stack }) target → Steps tb e below (T.setTop g) target) ∧
    ((∃ x, v = .int x) → decode c.code g.pc = .ok (.ldc_w i, 3) → Steps tb e below (T.setTop { g with pc := g.pc + 3, stack := v :: g.stack }) target → Steps tb e below (T.setTop g) target) ∧
    (((∃ x, v = .long x) ∨ ∃ x, v = .double x) → decode c.code g.pc = .ok (.ldc2_w i, 3) → Steps tb e below (T.setTop { g with pc := g.pc + 3, stack := v :: g.stack }) target → Steps tb e below (T.setTop g) target)
def own_Go (P : List (Nat × Value)) (b : ByteArray) (pc : Nat) (L : Array Slot) (S : List Value) (pc' : Nat) (L' : Array Slot) (S' : List Value) : Prop :=
  ∀ (tb : Tables) [Ours tb] (e : Env) (below : List Frame) (T target : State) (m : MethodId) (c : Code), At T m c below → tb.exec = Jvm.exec → c.code = b →
    (∀ q ∈ P, own_Ldc tb e below T m c q.1 q.2) → Steps tb e below (T.setTop (mkF m pc' L' S')) target → Steps tb e below (T.setTop (mkF m pc L S)) target
variable {P : List (Nat × Value)} {b : ByteArray} {pc pcE : Nat} {L L' LE : Array Slot} {S SE : List Value}
theorem own_refl : own_Go P b pc L S pc L S := fun tb _ e below T target m c h hx hy hP k => k
theorem own_trans {pcM : Nat} {LM : Array Slot} {SM : List Value} (r1 : own_Go P b pc L S pcM LM SM) (r2 : own_Go P b pcM LM SM pcE LE SE) : own_Go P b pc L S pcE LE SE :=
  fun tb _ e below T target m c h hx hy hP k => r1 tb e below T target m c h hx hy hP (r2 tb e below T target m c h hx hy hP k)
theorem own_at {pc2 : Nat} {L2 : Array Slot} {S2 : List Value} (h1 : pc = pc2) (h2 : L = L2) (h3 : S = S2) (r : own_Go P b pc L S pcE LE SE) : own_Go P b pc2 L2 S2 pcE LE SE := by subst h1 h2 h3; exact r
theorem own_end {pc2 : Nat} {L2 : Array Slot} {S2 : List Value} (h1 : pcE = pc2) (h2 : LE = L2) (h3 : SE = S2) (r : own_Go P b pc L S pcE LE SE) : own_Go P b pc L S pc2 L2 S2 := by subst h1 h2 h3; exact r
theorem own_iload {j : Nat} {v : Int32} {pc2 : Nat} (hd : decode b pc = .ok (.iload j, 2)) (hpc : pc + 2 = pc2) (hl : L[j]? = some (.val (.int v))) (r : own_Go P b pc2 L (.int v :: S) pcE LE SE) : own_Go P b pc L (S) pcE LE SE := by
  intro tb _ e below T target m c h hx hy hP k; subst hpc; exact XS.iload h hx rfl (hb hy hd) hl (r tb e below T target m c h hx hy hP k)
theorem own_iloadN {j : Fin 4} {v : Int32} {pc2 : Nat} (hd : decode b pc = .ok (.iload_n j, 1)) (hpc : pc + 1 = pc2) (hl : L[j.val]? = some (.val (.int v))) (r : own_Go P b pc2 L (.int v :: S) pcE LE SE) : own_Go P b pc L (S) pcE LE SE := by
  intro tb _ e below T target m c h hx hy hP k; subst hpc; exact XS.iloadN h hx rfl (hb hy hd) hl (r tb e below T target m c h hx hy hP k)
theorem own_istore {j : Nat} {v : Int32} {rest : List Value} {pc2 : Nat} (hd : decode b pc = .ok (.istore j, 2)) (hpc : pc + 2 = pc2) (hl : storeLocals L j (.int v) = some L') (r : own_Go P b pc2 L' (rest) pcE LE SE) : own_Go P b pc L (.int v :: rest) pcE LE SE := by
  intro tb _ e below T target m c h hx hy hP k; subst hpc; exact XS.istore h hx rfl (hb hy hd) rfl hl (r tb e below T target m c h hx hy hP k)
theorem own_istoreN {j : Fin 4} {v : Int32} {rest : List Value} {pc2 : Nat} (hd : decode b pc = .ok (.istore_n j, 1)) (hpc : pc + 1 = pc2) (hl : storeLocals L j.val (.int v) = some L') (r : own_Go P b pc2 L' (rest) pcE LE SE) : own_Go P b pc L (.int v :: rest) pcE LE SE := by
  intro tb _ e below T target m c h hx hy hP k; subst hpc; exact XS.istoreN h hx rfl (hb hy hd) rfl hl (r tb e below T target m c h hx hy hP k)
theorem own_lload {j : Nat} {v : Int64} {pc2 : Nat} (hd : decode b pc = .ok (.lload j, 2)) (hpc : pc + 2 = pc2) (hl : L[j]? = some (.val (.long v))) (r : own_Go P b pc2 L (.long v :: S) pcE LE SE) : own_Go P b pc L (S) pcE LE SE := by
  intro tb _ e below T target m c h hx hy hP k; subst hpc; exact XS.lload h hx rfl (hb hy hd) hl (r tb e below T target m c h hx hy hP k)
theorem own_lloadN {j : Fin 4} {v : Int64} {pc2 : Nat} (hd : decode b pc = .ok (.lload_n j, 1)) (hpc : pc + 1 = pc2) (hl : L[j.val]? = some (.val (.long v))) (r : own_Go P b pc2 L (.long v :: S) pcE LE SE) : own_Go P b pc L (S) pcE LE SE := by
  intro tb _ e below T target m c h hx hy hP k; subst hpc; exact XS.lloadN h hx rfl (hb hy hd) hl (r tb e below T target m c h hx hy hP k)
theorem own_lstore {j : Nat} {v : Int64} {rest : List Value} {pc2 : Nat} (hd : decode b pc = .ok (.lstore j, 2)) (hpc : pc + 2 = pc2) (hl : storeLocals L j (.long v) = some L') (r : own_Go P b pc2 L' (rest) pcE LE SE) : own_Go P b pc L (.long v :: rest) pcE LE SE := by
  intro tb _ e below T target m c h hx hy hP k; subst hpc; exact XS.lstore h hx rfl (hb hy hd) rfl hl (r tb e below T target m c h hx hy hP k)
theorem own_lstoreN {j : Fin 4} {v : Int64} {rest : List Value} {pc2 : Nat} (hd : decode b pc = .ok (.lstore_n j, 1)) (hpc : pc + 1 = pc2) (hl : storeLocals L j.val (.long v) = some L') (r : own_Go P b pc2 L' (rest) pcE LE SE) : own_Go P b pc L (.long v :: rest) pcE LE SE := by
  intro tb _ e below T target m c h hx hy hP k; subst hpc; exact XS.lstoreN h hx rfl (hb hy hd) rfl hl (r tb e below T target m c h hx hy hP k)
theorem own_dload {j : Nat} {v : UInt64} {pc2 : Nat} (hd : decode b pc = .ok (.dload j, 2)) (hpc : pc + 2 = pc2) (hl : L[j]? = some (.val (.double v))) (r : own_Go P b pc2 L (.double v :: S) pcE LE SE) : own_Go P b pc L (S) pcE LE SE := by
  intro tb _ e below T target m c h hx hy hP k; subst hpc; exact XS.dload h hx rfl (hb hy hd) hl (r tb e below T target m c h hx hy hP k)
theorem own_dloadN {j : Fin 4} {v : UInt64} {pc2 : Nat} (hd : decode b pc = .ok (.dload_n j, 1)) (hpc : pc + 1 = pc2) (hl : L[j.val]? = some (.val (.double v))) (r : own_Go P b pc2 L (.double v :: S) pcE LE SE) : own_Go P b pc L (S) pcE LE SE := by
  intro tb _ e below T target m c h hx hy hP k; subst hpc; exact XS.dloadN h hx rfl (hb hy hd) hl (r tb e below T target m c h hx hy hP k)
theorem own_dstore {j : Nat} {v : UInt64} {rest : List Value} {pc2 : Nat} (hd : decode b pc = .ok (.dstore j, 2)) (hpc : pc + 2 = pc2) (hl : storeLocals L j (.double v) = some L') (r : own_Go P b pc2 L' (rest) pcE LE SE) : own_Go P b pc L (.double v :: rest) pcE LE SE := by
  intro tb _ e below T target m c h hx hy hP k; subst hpc; exact XS.dstore h hx rfl (hb hy hd) rfl hl (r tb e below T target m c h hx hy hP k)
theorem own_dstoreN {j : Fin 4} {v : UInt64} {rest : List Value} {pc2 : Nat} (hd : decode b pc = .ok (.dstore_n j, 1)) (hpc : pc + 1 = pc2) (hl : storeLocals L j.val (.double v) = some L') (r : own_Go P b pc2 L' (rest) pcE LE SE) : own_Go P b pc L (.double v :: rest) pcE LE SE := by
  intro tb _ e below T target m c h hx hy hP k; subst hpc; exact XS.dstoreN h hx rfl (hb hy hd) rfl hl (r tb e below T target m c h hx hy hP k)
theorem own_aload {j : Nat} {v : Value} {pc2 : Nat} (hd : decode b pc = .ok (.aload j, 2)) (hpc : pc + 2 = pc2) (hl : L[j]? = some (.val v)) (hr : v.isRef = true) (r : own_Go P b pc2 L (v :: S) pcE LE SE) : own_Go P b pc L (S) pcE LE SE := by
  intro tb _ e below T target m c h hx hy hP k; subst hpc; exact XS.aload h hx rfl (hb hy hd) hl hr (r tb e below T target m c h hx hy hP k)
theorem own_aloadN {j : Fin 4} {v : Value} {pc2 : Nat} (hd : decode b pc = .ok (.aload_n j, 1)) (hpc : pc + 1 = pc2) (hl : L[j.val]? = some (.val v)) (hr : v.isRef = true) (r : own_Go P b pc2 L (v :: S) pcE LE SE) : own_Go P b pc L (S) pcE LE SE := by
  intro tb _ e below T target m c h hx hy hP k; subst hpc; exact XS.aloadN h hx rfl (hb hy hd) hl hr (r tb e below T target m c h hx hy hP k)
theorem own_astore {j : Nat} {v : Value} {rest : List Value} {pc2 : Nat} (hd : decode b pc = .ok (.astore j, 2)) (hpc : pc + 2 = pc2) (hr : v.isRef = true) (hl : storeLocals L j v = some L') (r : own_Go P b pc2 L' (rest) pcE LE SE) : own_Go P b pc L (v :: rest) pcE LE SE := by
  intro tb _ e below T target m c h hx hy hP k; subst hpc; exact XS.astore h hx rfl (hb hy hd) rfl hr hl (r tb e below T target m c h hx hy hP k)
theorem own_astoreN {j : Fin 4} {v : Value} {rest : List Value} {pc2 : Nat} (hd : decode b pc = .ok (.astore_n j, 1)) (hpc : pc + 1 = pc2) (hr : v.isRef = true) (hl : storeLocals L j.val v = some L') (r : own_Go P b pc2 L' (rest) pcE LE SE) : own_Go P b pc L (v :: rest) pcE LE SE := by
  intro tb _ e below T target m c h hx hy hP k; subst hpc; exact XS.astoreN h hx rfl (hb hy hd) rfl hr hl (r tb e below T target m c h hx hy hP k)
theorem own_iconst {i : Int} {v : Int32} {pc2 : Nat} (hd : decode b pc = .ok (.iconst i, 1)) (hpc : pc + 1 = pc2) (hv : Int32.ofInt i = v) (r : own_Go P b pc2 L (.int v :: S) pcE LE SE) : own_Go P b pc L (S) pcE LE SE := by
  intro tb _ e below T target m c h hx hy hP k; subst hpc; subst hv; exact XS.iconst h hx rfl (hb hy hd) (r tb e below T target m c h hx hy hP k)
theorem own_bipush {i : Int} {v : Int32} {pc2 : Nat} (hd : decode b pc = .ok (.bipush i, 2)) (hpc : pc + 2 = pc2) (hv : (Int8.ofInt i).toInt32 = v) (r : own_Go P b pc2 L (.int v :: S) pcE LE SE) : own_Go P b pc L (S) pcE LE SE := by
  intro tb _ e below T target m c h hx hy hP k; subst hpc; subst hv; exact XS.bipush h hx rfl (hb hy hd) (r tb e below T target m c h hx hy hP k)
theorem own_sipush {i : Int} {v : Int32} {pc2 : Nat} (hd : decode b pc = .ok (.sipush i, 3)) (hpc : pc + 3 = pc2) (hv : (Int16.ofInt i).toInt32 = v) (r : own_Go P b pc2 L (.int v :: S) pcE LE SE) : own_Go P b pc L (S) pcE LE SE := by
  intro tb _ e below T target m c h hx hy hP k; subst hpc; subst hv; exact XS.sipush h hx rfl (hb hy hd) (r tb e below T target m c h hx hy hP k)
theorem own_lconst {j : Fin 2} {v : Int64} {pc2 : Nat} (hd : decode b pc = .ok (.lconst j, 1)) (hpc : pc + 1 = pc2) (hv : Int64.ofNat j = v) (r : own_Go P b pc2 L (.long v :: S) pcE LE SE) : own_Go P b pc L (S) pcE LE SE := by
  intro tb _ e below T target m c h hx hy hP k; subst hpc; subst hv; exact XS.lconst h hx rfl (hb hy hd) (r tb e below T target m c h hx hy hP k)
theorem own_dconst0  {v : UInt64} {pc2 : Nat} (hd : decode b pc = .ok (.dconst 0, 1)) (hpc : pc + 1 = pc2) (hv : FP.dconst0 = v) (r : own_Go P b pc2 L (.double v :: S) pcE LE SE) : own_Go P b pc L (S) pcE LE SE := by
  intro tb _ e below T target m c h hx hy hP k; subst hpc; subst hv; exact XS.dconst0 h hx rfl (hb hy hd) rfl (r tb e below T target m c h hx hy hP k)
theorem own_dconst1  {v : UInt64} {pc2 : Nat} (hd : decode b pc = .ok (.dconst 1, 1)) (hpc : pc + 1 = pc2) (hv : FP.dconst1 = v) (r : own_Go P b pc2 L (.double v :: S) pcE LE SE) : own_Go P b pc L (S) pcE LE SE := by
  intro tb _ e below T target m c h hx hy hP k; subst hpc; subst hv; exact XS.dconst1 h hx rfl (hb hy hd) rfl (r tb e below T target m c h hx hy hP k)
theorem own_aconstNull  {pc2 : Nat} (hd : decode b pc = .ok (.aconst_null, 1)) (hpc : pc + 1 = pc2) (r : own_Go P b pc2 L (.null :: S) pcE LE SE) : own_Go P b pc L (S) pcE LE SE := by
  intro tb _ e below T target m c h hx hy hP k; subst hpc; exact XS.aconstNull h hx rfl (hb hy hd) (r tb e below T target m c h hx hy hP k)
theorem own_iadd {x y : Int32} {v : Int32} {rest : List Value} {pc2 : Nat} (hd : decode b pc = .ok (.iadd, 1)) (hpc : pc + 1 = pc2) (hv : x + y = v) (r : own_Go P b pc2 L (.int v :: rest) pcE LE SE) : own_Go P b pc L (.int y :: .int x :: rest) pcE LE SE := by
  intro tb _ e below T target m c h hx hy hP k; subst hpc; subst hv; exact XS.iadd h hx rfl (hb hy hd) rfl (r tb e below T target m c h hx hy hP k)
theorem own_isub {x y : Int32} {v : Int32} {rest : List Value} {pc2 : Nat} (hd : decode b pc = .ok (.isub, 1)) (hpc : pc + 1 = pc2) (hv : x - y = v) (r : own_Go P b pc2 L (.int v :: rest) pcE LE SE) : own_Go P b pc L (.int y :: .int x :: rest) pcE LE SE := by
  intro tb _ e below T target m c h hx hy hP k; subst hpc; subst hv; exact XS.isub h hx rfl (hb hy hd) rfl (r tb e below T target m c h hx hy hP k)
theorem own_imul {x y : Int32} {v : Int32} {rest : List Value} {pc2 : Nat} (hd : decode b pc = .ok (.imul, 1)) (hpc : pc + 1 = pc2) (hv : x * y = v) (r : own_Go P b pc2 L (.int v :: rest) pcE LE SE) : own_Go P b pc L (.int y :: .int x :: rest) pcE LE SE := by
  intro tb _ e below T target m c h hx hy hP k; subst hpc; subst hv; exact XS.imul h hx rfl (hb hy hd) rfl (r tb e below T target m c h hx hy hP k)
theorem own_iand {x y : Int32} {v : Int32} {rest : List Value} {pc2 : Nat} (hd : decode b pc = .ok (.iand, 1)) (hpc : pc + 1 = pc2) (hv : x &&& y = v) (r : own_Go P b pc2 L (.int v :: rest) pcE LE SE) : own_Go P b pc L (.int y :: .int x :: rest) pcE LE SE := by
  intro tb _ e below T target m c h hx hy hP k; subst hpc; subst hv; exact XS.iand h hx rfl (hb hy hd) rfl (r tb e below T target m c h hx hy hP k)
theorem own_ior {x y : Int32} {v : Int32} {rest : List Value} {pc2 : Nat} (hd : decode b pc = .ok (.ior, 1)) (hpc : pc + 1 = pc2) (hv : x ||| y = v) (r : own_Go P b pc2 L (.int v :: rest) pcE LE SE) : own_Go P b pc L (.int y :: .int x :: rest) pcE LE SE := by
  intro tb _ e below T target m c h hx hy hP k; subst hpc; subst hv; exact XS.ior h hx rfl (hb hy hd) rfl (r tb e below T target m c h hx hy hP k)
theorem own_ixor {x y : Int32} {v : Int32} {rest : List Value} {pc2 : Nat} (hd : decode b pc = .ok (.ixor, 1)) (hpc : pc + 1 = pc2) (hv : x ^^^ y = v) (r : own_Go P b pc2 L (.int v :: rest) pcE LE SE) : own_Go P b pc L (.int y :: .int x :: rest) pcE LE SE := by
  intro tb _ e below T target m c h hx hy hP k; subst hpc; subst hv; exact XS.ixor h hx rfl (hb hy hd) rfl (r tb e below T target m c h hx hy hP k)
theorem own_ishl {x y : Int32} {v : Int32} {rest : List Value} {pc2 : Nat} (hd : decode b pc = .ok (.ishl, 1)) (hpc : pc + 1 = pc2) (hv : x <<< (y &&& 31) = v) (r : own_Go P b pc2 L (.int v :: rest) pcE LE SE) : own_Go P b pc L (.int y :: .int x :: rest) pcE LE SE := by
  intro tb _ e below T target m c h hx hy hP k; subst hpc; subst hv; exact XS.ishl h hx rfl (hb hy hd) rfl (r tb e below T target m c h hx hy hP k)
theorem own_ishr {x y : Int32} {v : Int32} {rest : List Value} {pc2 : Nat} (hd : decode b pc = .ok (.ishr, 1)) (hpc : pc + 1 = pc2) (hv : x >>> (y &&& 31) = v) (r : own_Go P b pc2 L (.int v :: rest) pcE LE SE) : own_Go P b pc L (.int y :: .int x :: rest) pcE LE SE := by
  intro tb _ e below T target m c h hx hy hP k; subst hpc; subst hv; exact XS.ishr h hx rfl (hb hy hd) rfl (r tb e below T target m c h hx hy hP k)
theorem own_iushr {x y : Int32} {v : Int32} {rest : List Value} {pc2 : Nat} (hd : decode b pc = .ok (.iushr, 1)) (hpc : pc + 1 = pc2) (hv : (x.toUInt32 >>> (y &&& 31).toUInt32).toInt32 = v) (r : own_Go P b pc2 L (.int v :: rest) pcE LE SE) : own_Go P b pc L (.int y :: .int x :: rest) pcE LE SE := by
  intro tb _ e below T target m c h hx hy hP k; subst hpc; subst hv; exact XS.iushr h hx rfl (hb hy hd) rfl (r tb e below T target m c h hx hy hP k)
theorem own_idiv {x y : Int32} {v : Int32} {rest : List Value} {pc2 : Nat} (hd : decode b pc = .ok (.idiv, 1)) (hpc : pc + 1 = pc2) (hn : y ≠ 0) (hv : x / y = v) (r : own_Go P b pc2 L (.int v :: rest) pcE LE SE) : own_Go P b pc L (.int y :: .int x :: rest) pcE LE SE := by
  intro tb _ e below T target m c h hx hy hP k; subst hpc; subst hv; exact XS.idiv h hx rfl (hb hy hd) rfl hn (r tb e below T target m c h hx hy hP k)
theorem own_irem {x y : Int32} {v : Int32} {rest : List Value} {pc2 : Nat} (hd : decode b pc = .ok (.irem, 1)) (hpc : pc + 1 = pc2) (hn : y ≠ 0) (hv : x - (x / y) * y = v) (r : own_Go P b pc2 L (.int v :: rest) pcE LE SE) : own_Go P b pc L (.int y :: .int x :: rest) pcE LE SE := by
  intro tb _ e below T target m c h hx hy hP k; subst hpc; subst hv; exact XS.irem h hx rfl (hb hy hd) rfl hn (r tb e below T target m c h hx hy hP k)
theorem own_ladd {x y : Int64} {v : Int64} {rest : List Value} {pc2 : Nat} (hd : decode b pc = .ok (.ladd, 1)) (hpc : pc + 1 = pc2) (hv : x + y = v) (r : own_Go P b pc2 L (.long v :: rest) pcE LE SE) : own_Go P b pc L (.long y :: .long x :: rest) pcE LE SE := by
  intro tb _ e below T target m c h hx hy hP k; subst hpc; subst hv; exact XS.ladd h hx rfl (hb hy hd) rfl (r tb e below T target m c h hx hy hP k)
theorem own_lsub {x y : Int64} {v : Int64} {rest : List Value} {pc2 : Nat} (hd : decode b pc = .ok (.lsub, 1)) (hpc : pc + 1 = pc2) (hv : x - y = v) (r : own_Go P b pc2 L (.long v :: rest) pcE LE SE) : own_Go P b pc L (.long y :: .long x :: rest) pcE LE SE := by
  intro tb _ e below T target m c h hx hy hP k; subst hpc; subst hv; exact XS.lsub h hx rfl (hb hy hd) rfl (r tb e below T target m c h hx hy hP k)
theorem own_lmul {x y : Int64} {v : Int64} {rest : List Value} {pc2 : Nat} (hd : decode b pc = .ok (.lmul, 1)) (hpc : pc + 1 = pc2) (hv : x * y = v) (r : own_Go P b pc2 L (.long v :: rest) pcE LE SE) : own_Go P b pc L (.long y :: .long x :: rest) pcE LE SE := by
  intro tb _ e below T target m c h hx hy hP k; subst hpc; subst hv; exact XS.lmul h hx rfl (hb hy hd) rfl (r tb e below T target m c h hx hy hP k)
theorem own_land {x y : Int64} {v : Int64} {rest : List Value} {pc2 : Nat} (hd : decode b pc = .ok (.land, 1)) (hpc : pc + 1 = pc2) (hv : x &&& y = v) (r : own_Go P b pc2 L (.long v :: rest) pcE LE SE) : own_Go P b pc L (.long y :: .long x :: rest) pcE LE SE := by
  intro tb _ e below T target m c h hx hy hP k; subst hpc; subst hv; exact XS.land h hx rfl (hb hy hd) rfl (r tb e below T target m c h hx hy hP k)
theorem own_lor {x y : Int64} {v : Int64} {rest : List Value} {pc2 : Nat} (hd : decode b pc = .ok (.lor, 1)) (hpc : pc + 1 = pc2) (hv : x ||| y = v) (r : own_Go P b pc2 L (.long v :: rest) pcE LE SE) : own_Go P b pc L (.long y :: .long x :: rest) pcE LE SE := by
  intro tb _ e below T target m c h hx hy hP k; subst hpc; subst hv; exact XS.lor h hx rfl (hb hy hd) rfl (r tb e below T target m c h hx hy hP k)
theorem own_lxor {x y : Int64} {v : Int64} {rest : List Value} {pc2 : Nat} (hd : decode b pc = .ok (.lxor, 1)) (hpc : pc + 1 = pc2) (hv : x ^^^ y = v) (r : own_Go P b pc2 L (.long v :: rest) pcE LE SE) : own_Go P b pc L (.long y :: .long x :: rest) pcE LE SE := by
  intro tb _ e below T target m c h hx hy hP k; subst hpc; subst hv; exact XS.lxor h hx rfl (hb hy hd) rfl (r tb e below T target m c h hx hy hP k)
theorem own_ldiv {x y : Int64} {v : Int64} {rest : List Value} {pc2 : Nat} (hd : decode b pc = .ok (.ldiv, 1)) (hpc : pc + 1 = pc2) (hn : y ≠ 0) (hv : x / y = v) (r : own_Go P b pc2 L (.long v :: rest) pcE LE SE) : own_Go P b pc L (.long y :: .long x :: rest) pcE LE SE := by
  intro tb _ e below T target m c h hx hy hP k; subst hpc; subst hv; exact XS.ldiv h hx rfl (hb hy hd) rfl hn (r tb e below T target m c h hx hy hP k)
theorem own_lrem {x y : Int64} {v : Int64} {rest : List Value} {pc2 : Nat} (hd : decode b pc = .ok (.lrem, 1)) (hpc : pc + 1 = pc2) (hn : y ≠ 0) (hv : x - (x / y) * y = v) (r : own_Go P b pc2 L (.long v :: rest) pcE LE SE) : own_Go P b pc L (.long y :: .long x :: rest) pcE LE SE := by
  intro tb _ e below T target m c h hx hy hP k; subst hpc; subst hv; exact XS.lrem h hx rfl (hb hy hd) rfl hn (r tb e below T target m c h hx hy hP k)
theorem own_lshl {x : Int64} {y : Int32} {v : Int64} {rest : List Value} {pc2 : Nat} (hd : decode b pc = .ok (.lshl, 1)) (hpc : pc + 1 = pc2) (hv : x <<< (y &&& 0x3f).toInt64 = v) (r : own_Go P b pc2 L (.long v :: rest) pcE LE SE) : own_Go P b pc L (.int y :: .long x :: rest) pcE LE SE := by
  intro tb _ e below T target m c h hx hy hP k; subst hpc; subst hv; exact XS.lshl h hx rfl (hb hy hd) rfl (r tb e below T target m c h hx hy hP k)
theorem own_lshr {x : Int64} {y : Int32} {v : Int64} {rest : List Value} {pc2 : Nat} (hd : decode b pc = .ok (.lshr, 1)) (hpc : pc + 1 = pc2) (hv : x >>> (y &&& 0x3f).toInt64 = v) (r : own_Go P b pc2 L (.long v :: rest) pcE LE SE) : own_Go P b pc L (.int y :: .long x :: rest) pcE LE SE := by
  intro tb _ e below T target m c h hx hy hP k; subst hpc; subst hv; exact XS.lshr h hx rfl (hb hy hd) rfl (r tb e below T target m c h hx hy hP k)
theorem own_lushr {x : Int64} {y : Int32} {v : Int64} {rest : List Value} {pc2 : Nat} (hd : decode b pc = .ok (.lushr, 1)) (hpc : pc + 1 = pc2) (hv : (x.toUInt64 >>> (y &&& 0x3f).toInt64.toUInt64).toInt64 = v) (r : own_Go P b pc2 L (.long v :: rest) pcE LE SE) : own_Go P b pc L (.int y :: .long x :: rest) pcE LE SE := by
  intro tb _ e below T target m c h hx hy hP k; subst hpc; subst hv; exact XS.lushr h hx rfl (hb hy hd) rfl (r tb e below T target m c h hx hy hP k)
theorem own_lcmp {x y : Int64} {v : Int32} {rest : List Value} {pc2 : Nat} (hd : decode b pc = .ok (.lcmp, 1)) (hpc : pc + 1 = pc2) (hv : (if x > y then 1 else if x = y then 0 else -1) = v) (r : own_Go P b pc2 L (.int v :: rest) pcE LE SE) : own_Go P b pc L (.long y :: .long x :: rest) pcE LE SE := by
  intro tb _ e below T target m c h hx hy hP k; subst hpc; subst hv; exact XS.lcmp h hx rfl (hb hy hd) rfl (r tb e below T target m c h hx hy hP k)
theorem own_ineg {x : Int32} {v : Int32} {rest : List Value} {pc2 : Nat} (hd : decode b pc = .ok (.ineg, 1)) (hpc : pc + 1 = pc2) (hv : -x = v) (r : own_Go P b pc2 L (.int v :: rest) pcE LE SE) : own_Go P b pc L (.int x :: rest) pcE LE SE := by
  intro tb _ e below T target m c h hx hy hP k; subst hpc; subst hv; exact XS.ineg h hx rfl (hb hy hd) rfl (r tb e below T target m c h hx hy hP k)
theorem own_lneg {x : Int64} {v : Int64} {rest : List Value} {pc2 : Nat} (hd : decode b pc = .ok (.lneg, 1)) (hpc : pc + 1 = pc2) (hv : -x = v) (r : own_Go P b pc2 L (.long v :: rest) pcE LE SE) : own_Go P b pc L (.long x :: rest) pcE LE SE := by
  intro tb _ e below T target m c h hx hy hP k; subst hpc; subst hv; exact XS.lneg h hx rfl (hb hy hd) rfl (r tb e below T target m c h hx hy hP k)
theorem own_i2l {x : Int32} {v : Int64} {rest : List Value} {pc2 : Nat} (hd : decode b pc = .ok (.i2l, 1)) (hpc : pc + 1 = pc2) (hv : x.toInt64 = v) (r : own_Go P b pc2 L (.long v :: rest) pcE LE SE) : own_Go P b pc L (.int x :: rest) pcE LE SE := by
  intro tb _ e below T target m c h hx hy hP k; subst hpc; subst hv; exact XS.i2l h hx rfl (hb hy hd) rfl (r tb e below T target m c h hx hy hP k)
theorem own_l2i {x : Int64} {v : Int32} {rest : List Value} {pc2 : Nat} (hd : decode b pc = .ok (.l2i, 1)) (hpc : pc + 1 = pc2) (hv : x.toInt32 = v) (r : own_Go P b pc2 L (.int v :: rest) pcE LE SE) : own_Go P b pc L (.long x :: rest) pcE LE SE := by
  intro tb _ e below T target m c h hx hy hP k; subst hpc; subst hv; exact XS.l2i h hx rfl (hb hy hd) rfl (r tb e below T target m c h hx hy hP k)
theorem own_i2b {x : Int32} {v : Int32} {rest : List Value} {pc2 : Nat} (hd : decode b pc = .ok (.i2b, 1)) (hpc : pc + 1 = pc2) (hv : x.toInt8.toInt32 = v) (r : own_Go P b pc2 L (.int v :: rest) pcE LE SE) : own_Go P b pc L (.int x :: rest) pcE LE SE := by
  intro tb _ e below T target m c h hx hy hP k; subst hpc; subst hv; exact XS.i2b h hx rfl (hb hy hd) rfl (r tb e below T target m c h hx hy hP k)
theorem own_i2c {x : Int32} {v : Int32} {rest : List Value} {pc2 : Nat} (hd : decode b pc = .ok (.i2c, 1)) (hpc : pc + 1 = pc2) (hv : x.toUInt32.toUInt16.toUInt32.toInt32 = v) (r : own_Go P b pc2 L (.int v :: rest) pcE LE SE) : own_Go P b pc L (.int x :: rest) pcE LE SE := by
  intro tb _ e below T target m c h hx hy hP k; subst hpc; subst hv; exact XS.i2c h hx rfl (hb hy hd) rfl (r tb e below T target m c h hx hy hP k)
theorem own_i2d {x : Int32} {v : UInt64} {rest : List Value} {pc2 : Nat} (hd : decode b pc = .ok (.i2d, 1)) (hpc : pc + 1 = pc2) (hv : FP.i2d x = v) (r : own_Go P b pc2 L (.double v :: rest) pcE LE SE) : own_Go P b pc L (.int x :: rest) pcE LE SE := by
  intro tb _ e below T target m c h hx hy hP k; subst hpc; subst hv; exact XS.i2dS h hx rfl (hb hy hd) rfl rfl (r tb e below T target m c h hx hy hP k)
theorem own_l2d {x : Int64} {v : UInt64} {rest : List Value} {pc2 : Nat} (hd : decode b pc = .ok (.l2d, 1)) (hpc : pc + 1 = pc2) (hv : FP.l2d x = v) (r : own_Go P b pc2 L (.double v :: rest) pcE LE SE) : own_Go P b pc L (.long x :: rest) pcE LE SE := by
  intro tb _ e below T target m c h hx hy hP k; subst hpc; subst hv; exact XS.l2dS h hx rfl (hb hy hd) rfl rfl (r tb e below T target m c h hx hy hP k)
theorem own_d2i {x : UInt64} {v : Int32} {rest : List Value} {pc2 : Nat} (hd : decode b pc = .ok (.d2i, 1)) (hpc : pc + 1 = pc2) (hv : FP.d2i x = v) (r : own_Go P b pc2 L (.int v :: rest) pcE LE SE) : own_Go P b pc L (.double x :: rest) pcE LE SE := by
  intro tb _ e below T target m c h hx hy hP k; subst hpc; subst hv; exact XS.d2iS h hx rfl (hb hy hd) rfl rfl (r tb e below T target m c h hx hy hP k)
theorem own_d2l {x : UInt64} {v : Int64} {rest : List Value} {pc2 : Nat} (hd : decode b pc = .ok (.d2l, 1)) (hpc : pc + 1 = pc2) (hv : FP.d2l x = v) (r : own_Go P b pc2 L (.long v :: rest) pcE LE SE) : own_Go P b pc L (.double x :: rest) pcE LE SE := by
  intro tb _ e below T target m c h hx hy hP k; subst hpc; subst hv; exact XS.d2lS h hx rfl (hb hy hd) rfl rfl (r tb e below T target m c h hx hy hP k)
theorem own_dneg {x : UInt64} {v : UInt64} {rest : List Value} {pc2 : Nat} (hd : decode b pc = .ok (.dneg, 1)) (hpc : pc + 1 = pc2) (hv : FP.dneg x = v) (r : own_Go P b pc2 L (.double v :: rest) pcE LE SE) : own_Go P b pc L (.double x :: rest) pcE LE SE := by
  intro tb _ e below T target m c h hx hy hP k; subst hpc; subst hv; exact XS.dnegS h hx rfl (hb hy hd) rfl rfl (r tb e below T target m c h hx hy hP k)
theorem own_dcmp {o : CmpOp} {x y : UInt64} {v : Int32} {rest : List Value} {pc2 : Nat} (hd : decode b pc = .ok (.dcmp o, 1)) (hpc : pc + 1 = pc2) (hv : cmpValue (FP.dcmp x y) o = v) (r : own_Go P b pc2 L (.int v :: rest) pcE LE SE) : own_Go P b pc L (.double y :: .double x :: rest) pcE LE SE := by
  intro tb _ e below T target m c h hx hy hP k; subst hpc; subst hv; exact XS.dcmpS h hx rfl (hb hy hd) rfl rfl (r tb e below T target m c h hx hy hP k)
theorem own_dadd {x y : UInt64} {v : UInt64} {rest : List Value} {pc2 : Nat} (hd : decode b pc = .ok (.dadd, 1)) (hpc : pc + 1 = pc2) (hn : NoNaN64 (FP.dadd x y)) (hv : FP.dadd x y = v) (r : own_Go P b pc2 L (.double v :: rest) pcE LE SE) : own_Go P b pc L (.double y :: .double x :: rest) pcE LE SE := by
  intro tb _ e below T target m c h hx hy hP k; subst hpc; subst hv; exact XS.daddS h hx rfl (hb hy hd) rfl hn rfl (r tb e below T target m c h hx hy hP k)
theorem own_dsub {x y : UInt64} {v : UInt64} {rest : List Value} {pc2 : Nat} (hd : decode b pc = .ok (.dsub, 1)) (hpc : pc + 1 = pc2) (hn : NoNaN64 (FP.dsub x y)) (hv : FP.dsub x y = v) (r : own_Go P b pc2 L (.double v :: rest) pcE LE SE) : own_Go P b pc L (.double y :: .double x :: rest) pcE LE SE := by
  intro tb _ e below T target m c h hx hy hP k; subst hpc; subst hv; exact XS.dsubS h hx rfl (hb hy hd) rfl hn rfl (r tb e below T target m c h hx hy hP k)
theorem own_dmul {x y : UInt64} {v : UInt64} {rest : List Value} {pc2 : Nat} (hd : decode b pc = .ok (.dmul, 1)) (hpc : pc + 1 = pc2) (hn : NoNaN64 (FP.dmul x y)) (hv : FP.dmul x y = v) (r : own_Go P b pc2 L (.double v :: rest) pcE LE SE) : own_Go P b pc L (.double y :: .double x :: rest) pcE LE SE := by
  intro tb _ e below T target m c h hx hy hP k; subst hpc; subst hv; exact XS.dmulS h hx rfl (hb hy hd) rfl hn rfl (r tb e below T target m c h hx hy hP k)
theorem own_ddiv {x y : UInt64} {v : UInt64} {rest : List Value} {pc2 : Nat} (hd : decode b pc = .ok (.ddiv, 1)) (hpc : pc + 1 = pc2) (hn : NoNaN64 (FP.ddiv x y)) (hv : FP.ddiv x y = v) (r : own_Go P b pc2 L (.double v :: rest) pcE LE SE) : own_Go P b pc L (.double y :: .double x :: rest) pcE LE SE := by
  intro tb _ e below T target m c h hx hy hP k; subst hpc; subst hv; exact XS.ddivS h hx rfl (hb hy hd) rfl hn rfl (r tb e below T target m c h hx hy hP k)
theorem own_dup {v : Value} {rest : List Value} {pc2 : Nat} (hd : decode b pc = .ok (.dup, 1)) (hpc : pc + 1 = pc2) (hc : v.category = 1) (r : own_Go P b pc2 L (v :: v :: rest) pcE LE SE) : own_Go P b pc L (v :: rest) pcE LE SE := by
  intro tb _ e below T target m c h hx hy hP k; subst hpc; exact XS.dup h hx rfl (hb hy hd) rfl hc (r tb e below T target m c h hx hy hP k)
theorem own_pop {v : Value} {rest : List Value} {pc2 : Nat} (hd : decode b pc = .ok (.pop, 1)) (hpc : pc + 1 = pc2) (hc : v.category = 1) (r : own_Go P b pc2 L (rest) pcE LE SE) : own_Go P b pc L (v :: rest) pcE LE SE := by
  intro tb _ e below T target m c h hx hy hP k; subst hpc; exact XS.pop h hx rfl (hb hy hd) rfl hc (r tb e below T target m c h hx hy hP k)
theorem own_dupX1 {v w : Value} {rest : List Value} {pc2 : Nat} (hd : decode b pc = .ok (.dup_x1, 1)) (hpc : pc + 1 = pc2) (hc : v.category = 1) (hc' : w.category = 1) (r : own_Go P b pc2 L (v :: w :: v :: rest) pcE LE SE) : own_Go P b pc L (v :: w :: rest) pcE LE SE := by
  intro tb _ e below T target m c h hx hy hP k; subst hpc; exact XS.dupX1 h hx rfl (hb hy hd) rfl hc hc' (r tb e below T target m c h hx hy hP k)
theorem own_dup2 {v w : Value} {rest : List Value} {pc2 : Nat} (hd : decode b pc = .ok (.dup2, 1)) (hpc : pc + 1 = pc2) (hc : v.category = 1) (hc' : w.category = 1) (r : own_Go P b pc2 L (v :: w :: v :: w :: rest) pcE LE SE) : own_Go P b pc L (v :: w :: rest) pcE LE SE := by
  intro tb _ e below T target m c h hx hy hP k; subst hpc; exact XT.dup2 h hx rfl (hb hy hd) rfl hc hc' (r tb e below T target m c h hx hy hP k)
theorem own_ifYes {cd : ClassFile.Cond} {x : Int32} {o : Int} {pc' : Nat} {rest : List Value} (hd : decode b pc = .ok (.ifCond cd o, 3)) (hc : ifCond.holds cd x = true) (ho : 0 ≤ (pc : Int) + o) (hp : ((pc : Int) + o).toNat = pc') (r : own_Go P b pc' L rest pcE LE SE) : own_Go P b pc L (.int x :: rest) pcE LE SE := by
  intro tb _ e below T target m c h hx hy hP k; exact XS.ifYes h hx rfl rfl (hb hy hd) rfl hc ho hp (r tb e below T target m c h hx hy hP k)
theorem own_ifNo {cd : ClassFile.Cond} {x : Int32} {o : Int} {rest : List Value} {pc2 : Nat} (hd : decode b pc = .ok (.ifCond cd o, 3)) (hpc : pc + 3 = pc2) (hc : ifCond.holds cd x = false) (r : own_Go P b pc2 L rest pcE LE SE) : own_Go P b pc L (.int x :: rest) pcE LE SE := by
  intro tb _ e below T target m c h hx hy hP k; subst hpc; exact XS.ifNo h hx rfl (hb hy hd) rfl hc (r tb e below T target m c h hx hy hP k)
theorem own_icmpYes {cd : ClassFile.Cond} {x y : Int32} {o : Int} {pc' : Nat} {rest : List Value} (hd : decode b pc = .ok (.if_icmp cd o, 3)) (hc : if_icmp.holds cd x y = true) (ho : 0 ≤ (pc : Int) + o) (hp : ((pc : Int) + o).toNat = pc') (r : own_Go P b pc' L rest pcE LE SE) : own_Go P b pc L (.int y :: .int x :: rest) pcE LE SE := by
  intro tb _ e below T target m c h hx hy hP k; exact XS.icmpYes h hx rfl rfl (hb hy hd) rfl hc ho hp (r tb e below T target m c h hx hy hP k)
theorem own_icmpNo {cd : ClassFile.Cond} {x y : Int32} {o : Int} {rest : List Value} {pc2 : Nat} (hd : decode b pc = .ok (.if_icmp cd o, 3)) (hpc : pc + 3 = pc2) (hc : if_icmp.holds cd x y = false) (r : own_Go P b pc2 L rest pcE LE SE) : own_Go P b pc L (.int y :: .int x :: rest) pcE LE SE := by
  intro tb _ e below T target m c h hx hy hP k; subst hpc; exact XS.icmpNo h hx rfl (hb hy hd) rfl hc (r tb e below T target m c h hx hy hP k)
theorem own_ifnullYes {o : Int} {pc' : Nat} {rest : List Value} (hd : decode b pc = .ok (.ifnull o, 3)) (ho : 0 ≤ (pc : Int) + o) (hp : ((pc : Int) + o).toNat = pc') (r : own_Go P b pc' L rest pcE LE SE) : own_Go P b pc L (.null :: rest) pcE LE SE := by
  intro tb _ e below T target m c h hx hy hP k; exact XS.ifnullYes h hx rfl rfl (hb hy hd) rfl ho hp (r tb e below T target m c h hx hy hP k)
theorem own_ifnullNo {o : Int} {a : Addr} {rest : List Value} {pc2 : Nat} (hd : decode b pc = .ok (.ifnull o, 3)) (hpc : pc + 3 = pc2) (r : own_Go P b pc2 L rest pcE LE SE) : own_Go P b pc L (.ref a :: rest) pcE LE SE := by
  intro tb _ e below T target m c h hx hy hP k; subst hpc; exact XS.ifnullNo h hx rfl (hb hy hd) rfl (r tb e below T target m c h hx hy hP k)
theorem own_ifnonnullYes {o : Int} {pc' : Nat} {a : Addr} {rest : List Value} (hd : decode b pc = .ok (.ifnonnull o, 3)) (ho : 0 ≤ (pc : Int) + o) (hp : ((pc : Int) + o).toNat = pc') (r : own_Go P b pc' L rest pcE LE SE) : own_Go P b pc L (.ref a :: rest) pcE LE SE := by
  intro tb _ e below T target m c h hx hy hP k; exact XS.ifnonnullYes h hx rfl rfl (hb hy hd) rfl ho hp (r tb e below T target m c h hx hy hP k)
theorem own_ifnonnullNo {o : Int} {rest : List Value} {pc2 : Nat} (hd : decode b pc = .ok (.ifnonnull o, 3)) (hpc : pc + 3 = pc2) (r : own_Go P b pc2 L rest pcE LE SE) : own_Go P b pc L (.null :: rest) pcE LE SE := by
  intro tb _ e below T target m c h hx hy hP k; subst hpc; exact XS.ifnonnullNo h hx rfl (hb hy hd) rfl (r tb e below T target m c h hx hy hP k)
theorem own_acmpYes {cd : ClassFile.ACond} {x y : Addr} {o : Int} {pc' : Nat} {rest : List Value} (hd : decode b pc = .ok (.if_acmp cd o, 3)) (hc : if_acmp.holds cd (some x) (some y) = true) (ho : 0 ≤ (pc : Int) + o) (hp : ((pc : Int) + o).toNat = pc') (r : own_Go P b pc' L rest pcE LE SE) : own_Go P b pc L (.ref y :: .ref x :: rest) pcE LE SE := by
  intro tb _ e below T target m c h hx hy hP k; exact XS.acmpYes h hx rfl rfl (hb hy hd) rfl hc ho hp (r tb e below T target m c h hx hy hP k)
theorem own_acmpNo {cd : ClassFile.ACond} {x y : Addr} {o : Int} {rest : List Value} {pc2 : Nat} (hd : decode b pc = .ok (.if_acmp cd o, 3)) (hpc : pc + 3 = pc2) (hc : if_acmp.holds cd (some x) (some y) = false) (r : own_Go P b pc2 L rest pcE LE SE) : own_Go P b pc L (.ref y :: .ref x :: rest) pcE LE SE := by
  intro tb _ e below T target m c h hx hy hP k; subst hpc; exact XS.acmpNo h hx rfl (hb hy hd) rfl hc (r tb e below T target m c h hx hy hP k)
theorem own_goto {o : Int} {pc' : Nat} (hd : decode b pc = .ok (.goto o, 3)) (ho : 0 ≤ (pc : Int) + o) (hp : ((pc : Int) + o).toNat = pc') (r : own_Go P b pc' L S pcE LE SE) : own_Go P b pc L S pcE LE SE := by
  intro tb _ e below T target m c h hx hy hP k; exact XS.goto h hx rfl rfl (hb hy hd) ho hp (r tb e below T target m c h hx hy hP k)
theorem own_iinc {j : Nat} {cst : Int} {x v : Int32} {pc2 : Nat} (hd : decode b pc = .ok (.iinc j cst, 3)) (hpc : pc + 3 = pc2) (hl : L[j]? = some (.val (.int x))) (hv : x + Int32.ofInt cst = v) (hl' : storeLocals L j (.int v) = some L') (r : own_Go P b pc2 L' S pcE LE SE) : own_Go P b pc L S pcE LE SE := by
  intro tb _ e below T target m c h hx hy hP k; subst hpc; subst hv; exact XS.iinc h hx rfl (hb hy hd) hl hl' (r tb e below T target m c h hx hy hP k)
theorem own_ldc {i : Nat} {v : Int32} {pc2 : Nat} (hd : decode b pc = .ok (.ldc i, 2)) (hpc : pc + 2 = pc2) (hk : (i, Value.int v) ∈ P) (r : own_Go P b pc2 L (.int v :: S) pcE LE SE) : own_Go P b pc L S pcE LE SE := by
  intro tb _ e below T target m c h hx hy hP k; subst hpc; exact (hP _ hk (mkF m pc L S) target rfl).1 ⟨_, rfl⟩ (hb hy hd) (r tb e below T target m c h hx hy hP k)
theorem own_ldcW {i : Nat} {v : Int32} {pc2 : Nat} (hd : decode b pc = .ok (.ldc_w i, 3)) (hpc : pc + 3 = pc2) (hk : (i, Value.int v) ∈ P) (r : own_Go P b pc2 L (.int v :: S) pcE LE SE) : own_Go P b pc L S pcE LE SE := by
  intro tb _ e below T target m c h hx hy hP k; subst hpc; exact (hP _ hk (mkF m pc L S) target rfl).2.1 ⟨_, rfl⟩ (hb hy hd) (r tb e below T target m c h hx hy hP k)
theorem own_ldc2L {i : Nat} {v : Int64} {pc2 : Nat} (hd : decode b pc = .ok (.ldc2_w i, 3)) (hpc : pc + 3 = pc2) (hk : (i, Value.long v) ∈ P) (r : own_Go P b pc2 L (.long v :: S) pcE LE SE) : own_Go P b pc L S pcE LE SE := by
  intro tb _ e below T target m c h hx hy hP k; subst hpc; exact (hP _ hk (mkF m pc L S) target rfl).2.2 (Or.inl ⟨_, rfl⟩) (hb hy hd) (r tb e below T target m c h hx hy hP k)
theorem own_ldc2D {i : Nat} {v : UInt64} {pc2 : Nat} (hd : decode b pc = .ok (.ldc2_w i, 3)) (hpc : pc + 3 = pc2) (hk : (i, Value.double v) ∈ P) (r : own_Go P b pc2 L (.double v :: S) pcE LE SE) : own_Go P b pc L S pcE LE SE := by
  intro tb _ e below T target m c h hx hy hP k; subst hpc; exact (hP _ hk (mkF m pc L S) target rfl).2.2 (Or.inr ⟨_, rfl⟩) (hb hy hd) (r tb e below T target m c h hx hy hP k)
end OwnWalk
section OwnPool
open Jvm.Free Jvm.Stand
variable {p : Program} {l : Launch} {e : Env} {R : Room} {s : State} {m : MethodId} {args : Array Value} {below : List Frame} {meth : Method} {c : Code} {T : State} {locs : List Loc} {cells slots : Nat} {Z : State} {a0 : Array Value}
def own_Word (own : String) (i : Nat) : Value → Jvm.Cond → Prop
  | .int v, w => w = .constant own i v
  | .long v, w => w = .constantLong own i v
  | .double v, w => w = .constantDouble own i v
  | _, _ => False
theorem own_pool1 (X : Stand p l e R s m args below meth c T locs cells slots) (hx : p.tables.exec = Jvm.exec) (hZ : Z.Warmed39 s.vm) {own : String} (hown : s.vm.findClass own = some m.cls) {i : Nat} {v : Value} {w : Jvm.Cond} (hv : own_Word own i v w) (hw : w.before a0 Z = true) : own_Ldc p.tables e below T m c i v := by
  intro g target hg
  cases v with
  | int v =>
    cases (show w = .constant own i v from hv)
    exact ⟨fun _ hd k => X.ldcInt hx hown (mvT hZ hw) hg hd target k, fun _ hd k => X.ldcwInt hx hown (mvT hZ hw) hg hd target k, fun h => (by rcases h with ⟨_, h⟩ | ⟨_, h⟩ <;> cases h)⟩
  | long v =>
    cases (show w = .constantLong own i v from hv)
    exact ⟨fun h => (by obtain ⟨_, h⟩ := h; cases h), fun h => (by obtain ⟨_, h⟩ := h; cases h), fun _ hd k => X.ldc2Long hx hown (mvT hZ hw) hg hd target k⟩
  | double v =>
    cases (show w = .constantDouble own i v from hv)
    exact ⟨fun h => (by obtain ⟨_, h⟩ := h; cases h), fun h => (by obtain ⟨_, h⟩ := h; cases h), fun _ hd k => X.ldc2DoubleC hx hown (mvT hZ hw) hg hd target k⟩
  | _ => exact absurd hv (fun h => h)
theorem own_pool (X : Stand p l e R s m args below meth c T locs cells slots) (hx : p.tables.exec = Jvm.exec) (hZ : Z.Warmed39 s.vm) {own : String} (hown : s.vm.findClass own = some m.cls) {ws : List Jvm.Cond} (hw : ∀ d ∈ ws, d.before a0 Z = true) {P : List (Nat × Value)} (hP : ∀ q ∈ P, ∃ w ∈ ws, own_Word own q.1 q.2 w) : ∀ q ∈ P, own_Ldc p.tables e below T m c q.1 q.2 := by
  intro q hq
  obtain ⟨w, h1, h2⟩ := hP q hq
  exact own_pool1 X hx hZ hown h2 (hw w h1)
end OwnPool
/-! the call layer: a method that leaves the heap as it was, and its call -/
section OwnCall
open Jvm.Free Jvm.Stand Jvm.LawKit Jvm.RoadKit
variable {p : Program} {l : Launch} {e : Env} {R : Room} {s : State} {m : MethodId} {args : Array Value} {below : List Frame} {meth : Method} {c : Code} {T : State} {locs : List Loc} {cells slots : Nat} {Z : State} {a0 : Array Value} {h : Heap}
abbrev own_room (fr lo : Nat) : Room := { frames := fr, cells := 0, slots := 0, locals := lo }
def own_Pure (l : Launch) (Z : State) (y : MethodName) (bytes : ByteArray) (maxL : Nat) (ret : Option FieldType) (fr lo : Nat) (as' : Array Value) (h : Heap) (v : Option Value) : Prop :=
  MetFree l y (head1 [Jvm.Cond.code y bytes maxL ret] (own_room fr lo)) (fun a U => a = as' ∧ Z.Warmed39 U.vm ∧ U.heap = h) (fun _ _ _ _ _ => True) (fun _ U o U' => ∃ w L, o = .returned w ∧ (w = v ∧ L = [] ∧ U'.heap = h) ∧ FrameEnd U o U' L (own_room fr lo).cells (own_room fr lo).slots)
def own_Ret (i : Instr) (t : FieldType) (w : Value) : Prop := narrow t w = w ∧ ((i = .ireturn ∧ (t = .int ∨ t = .boolean ∨ t = .byte ∨ t = .char ∨ t = .short) ∧ ∃ z, w = .int z) ∨ (i = .lreturn ∧ t = .long ∧ ∃ z, w = .long z) ∨ (i = .dreturn ∧ t = .double ∧ ∃ z, w = .double z) ∨ (i = .freturn ∧ t = .float ∧ ∃ z, w = .float z) ∨ (i = .areturn ∧ t.isReference = true ∧ w.isRef = true))
theorem own_retD (x : UInt64) : own_Ret .dreturn .double (.double x) := ⟨rfl, Or.inr (Or.inr (Or.inl ⟨rfl, rfl, x, rfl⟩))⟩
theorem own_retI (x : Int32) : own_Ret .ireturn .int (.int x) := ⟨rfl, Or.inl ⟨rfl, Or.inl rfl, x, rfl⟩⟩
theorem own_retJ (x : Int64) : own_Ret .lreturn .long (.long x) := ⟨rfl, Or.inr (Or.inl ⟨rfl, rfl, x, rfl⟩)⟩
theorem own_retZ {x : Int32} (hx : x = 0 ∨ x = 1) : own_Ret .ireturn .boolean (.int x) := ⟨by rcases hx with rfl | rfl <;> rfl, Or.inl ⟨rfl, Or.inr (Or.inl rfl), x, rfl⟩⟩
theorem own_pure_go {y : MethodName} {bytes : ByteArray} {maxL : Nat} {t : FieldType} {as' : Array Value} {P : List (Nat × Value)} {L0 LR : Array Slot} {SR : List Value} {pcR : Nat} {val : Value} {i : Instr} {ws : List Jvm.Cond} (hpl : plainName y.cls = true) (hw : ∀ d ∈ ws, d.before a0 Z = true) (hP : ∀ q ∈ P, ∃ w ∈ ws, own_Word y.cls q.1 q.2 w)
    (hef : ∀ m, entryFrame m as' maxL = mkF m 0 L0 []) (body : own_Go P bytes 0 L0 [] pcR LR (val :: SR)) (hd : decode bytes pcR = .ok (i, 1)) (hr : own_Ret i t val) : own_Pure l Z y bytes maxL (some t) 0 0 as' h (some val) := by
  refine MetFree.of_bodySF (plainFor_of_name hpl) hisR ?_
  intro p e s m args below meth c s₁ Bd hml0 hPP hK
  obtain ⟨rfl, hZ, hh⟩ := hPP
  have hx := Bd.exec
  have hby := Bd.bytes
  have hown : s.vm.findClass y.cls = some m.cls := findClass_of_methodNamed Bd.named
  have X0 : Stand p l e (own_room 0 0) s m _ below meth c s₁ [] 0 0 := Stand.of_body Bd
  have e0 : s₁.heap = h := by rw [← hh, Bd.state]; rfl
  obtain ⟨fs, hr', hrun, hended, hW, hsame⟩ := X0.leave (v := some val) (fun h => by rw [Bd.returns] at h; cases h)
  refine ⟨_, _, castTop (hef m) (body p.tables e below s₁ _ m c X0.here hx hby (own_pool X0 hx hZ hown hw hP) (retOut X0 hx Bd.returns hr.1 hr.2 (hb hby hd) hr')), hrun, hended, _, _, rfl, ⟨rfl, rfl, ?_⟩, ⟨_, rfl⟩, hW, hsame⟩
  exact e0
theorem own_callP (X : Stand p l e R s m args below meth c T locs cells slots) (hx : p.tables.exec = Jvm.exec) (hZ : Z.Warmed39 s.vm) {own : String} {index : Nat} {y : MethodName} {bytes : ByteArray} {maxL : Nat} {ret : Option FieldType} (hown : s.vm.findClass own = some m.cls)
    (w1 : (Jvm.Cond.methodLink own index y).before a0 Z = true) (w2 : (Jvm.Cond.static y).before a0 Z = true) (w3 : (Jvm.Cond.initialized y.cls).before a0 Z = true) (w4 : (Jvm.Cond.code y bytes maxL ret).before a0 Z = true) (hy : y.cls ≠ "java/lang/invoke/MethodHandle" ∧ y.cls ≠ "java/lang/invoke/VarHandle")
    (eT : T.heap = h) {fr lo W : Nat} {argsL rest : List Value} {v : Option Value} (hM : own_Pure l Z y bytes maxL ret fr lo argsL.toArray h v) (hf : fr + 1 ≤ R.frames) (hl : W + (maxL + 11) + lo ≤ R.locals) (hc : cells ≤ R.cells) (hs : slots ≤ R.slots)
    {g : JFrame} (hg : g.method = m) (hsize : g.locals.size = c.maxLocals) (hlen : ∀ sig, parseMethodDescriptor y.desc = some sig → argsL.length = sig.parameters.length) (hst : g.stack = argsL.reverse ++ rest) (hW : 2 * g.monitorRoom + (rest.map fun v => v.category).sum ≤ W) (hd : decode c.code g.pc = .ok (.invokestatic index, 3)) :
    ∃ T', Stand p l e R s m args below meth c T' locs cells slots ∧ T'.heap = h ∧ ∀ target, Steps p.tables e below (T'.setTop { g with pc := g.pc + 3, stack := v.toList ++ rest }) target → Steps p.tables e below (T.setTop g) target := by
  obtain ⟨v', vm1, ⟨T2, L2, k2, n2⟩, -, X2, ⟨Lc, hQ, l2, y2, z2⟩, st⟩ := Jvm.LawKit.callS X hx hown (mvT hZ w1) (mvT hZ w2) (mvT hZ w3) (mvT hZ w4) hy (backOf (W := W) (rm := own_room fr lo) (Q := fun w H L => w = v ∧ L = [] ∧ H = h) hM hZ w4 w3 hf hl) hg hsize hlen hst hW hd (fun _ _ => ⟨rfl, eT, hc, hs⟩)
  dsimp only [Pt.U, Pt.locs, Pt.cells, Pt.slots] at X2 l2 y2 z2 st hQ
  obtain ⟨rfl, rfl, e2⟩ := hQ
  subst l2 y2 z2
  rw [List.append_nil] at X2
  exact ⟨T2, X2, e2, st⟩
end OwnCall
/-! the heap layer: own_Hp says what the cells made since the start hold; one rule a step -/
section OwnHeap
open Jvm.Free Jvm.Stand Jvm.LawKit Jvm.RoadKit
abbrev own_Cel := (String × List (String × String × String × Value)) ⊕ (FieldType × List Value)
abbrev own_O (C : String) (fs : List (String × String × String × Value)) : own_Cel := Sum.inl (C, fs)
abbrev own_A (ty : FieldType) (vs : List Value) : own_Cel := Sum.inr (ty, vs)
/-- what is known of an array's class -/
def own_AC (Z : State) (h : Heap) (a : Addr) (c : Cell) (ty : FieldType) : Prop :=
  match ty with
  | .object C => Ovr Z c.cls C
  | .array t => OvrA Z c.cls t (FieldType.array t).toString ∧ Exa Z h a ("[" ++ (FieldType.array t).toString)
  | t => Exa Z h a ("[" ++ t.toString)
theorem own_AC_map {Z : State} {h h' : Heap} {a : Addr} {c c' : Cell} {ty : FieldType} (hc : c'.cls = c.cls) (hE : ∀ C, Exa Z h a C → Exa Z h' a C) (H : own_AC Z h a c ty) : own_AC Z h' a c' ty := by
  cases ty <;> simp only [own_AC, hc] at H ⊢ <;> first | exact H | exact hE _ H | exact ⟨H.1, hE _ H.2⟩
def own_Is (Z : State) (a0 : Array Value) (h : Heap) (a : Addr) (q : own_Cel) : Prop :=
  match q with
  | .inl (C, fs) => Exa Z h a C ∧ (∀ f ∈ fs, Fld Z h a f.1 f.2.1 f.2.2.1 f.2.2.2 ∧ Laid Z a0 C f.1 f.2.1 f.2.2.1 ∧ ∃ t, parseFieldDescriptor f.2.2.1 = some t) ∧ (fs.map fun f => f.2.1).Nodup
  | .inr (ty, vs) => ∃ c : Cell, Arr Z h a c ty ∧ c.slots.toList = vs ∧ own_AC Z h a c ty
/-- the start's heap, and a floor that the heap has not fallen below -/
abbrev own_Base : Type := Heap × Nat
abbrev own_Base.b (hb : own_Base) : Heap := hb.1
abbrev own_Base.fl (hb : own_Base) : Nat := hb.2
abbrev own_Base.size (hb : own_Base) : Nat := hb.b.size
def own_Bx (hb : own_Base) (h : Heap) : Prop := Ext hb.b h ∧ hb.fl ≤ h.size
def own_Hp (Z : State) (a0 : Array Value) (hb : own_Base) (h : Heap) (cs : List (Addr × own_Cel)) : Prop := own_Bx hb h ∧ (∀ q ∈ cs, own_Is Z a0 h q.1 q.2 ∧ hb.size ≤ q.1) ∧ (cs.map Prod.fst).Nodup
section Facts
variable {Z : State} {a0 : Array Value} {hb : own_Base} {h h' : Heap} {cs : List (Addr × own_Cel)} {a b : Addr} {q : own_Cel}
theorem own_Is_lt (H : own_Is Z a0 h a q) : a < h.size := by
  match q, H with
  | .inl (C, fs), H => exact H.1.lt
  | .inr (ty, vs), ⟨c, A, _⟩ => exact A.lt
theorem own_Is_ext (E : Ext h h') (H : own_Is Z a0 h a q) : own_Is Z a0 h' a q := by
  match q, H with
  | .inl (C, fs), H => exact ⟨H.1.ext E, fun f hf => ⟨(H.2.1 f hf).1.ext E, (H.2.1 f hf).2⟩, H.2.2⟩
  | .inr (ty, vs), ⟨c, A, e⟩ => exact ⟨c, A.ext E, e.1, own_AC_map rfl (fun C F => F.ext E) e.2⟩
theorem own_Is_wr {sl : Nat} {v : Value} (W : Wr h h' b sl v) (hne : a ≠ b) (H : own_Is Z a0 h a q) : own_Is Z a0 h' a q := by
  match q, H with
  | .inl (C, fs), H => exact ⟨H.1.wr W, fun f hf => ⟨(H.2.1 f hf).1.other W (Or.inl hne), (H.2.1 f hf).2⟩, H.2.2⟩
  | .inr (ty, vs), ⟨c, A, e⟩ => exact ⟨c, A.other W hne, e.1, own_AC_map rfl (fun C F => F.wr W) e.2⟩
theorem own_ext_trans {h1 h2 h3 : Heap} (E : Ext h1 h2) (F : Ext h2 h3) : Ext h1 h3 := ⟨Nat.le_trans E.1 F.1, fun a c q => F.2 a c (E.2 a c q)⟩
theorem own_ext_refl (h1 : Heap) : Ext h1 h1 := ⟨Nat.le_refl _, fun _ _ q => q⟩
theorem own_bx_trans (E : own_Bx hb h) (F : Ext h h') : own_Bx hb h' := ⟨own_ext_trans E.1 F, Nat.le_trans E.2 F.1⟩
theorem own_ext_wr {sl : Nat} {v : Value} (E0 : own_Bx hb h) (W : Wr h h' b sl v) (hn : hb.size ≤ b) : own_Bx hb h' := by
  obtain ⟨E, E2⟩ := E0
  refine ⟨⟨by rw [W.size]; exact E.1, fun x c q => ?_⟩, by rw [W.size]; exact E2⟩
  have hx : x < hb.size := (Array.getElem?_eq_some_iff.mp q).1
  obtain ⟨cb, h1, -, -, -, h5, -⟩ := wr_at W (E.2 x c q)
  rw [h1, h5 (Nat.ne_of_lt (Nat.lt_of_lt_of_le hx hn))]
theorem own_Hp_start (Z : State) (a0 : Array Value) (hb : Heap) : own_Hp Z a0 ⟨hb, 0⟩ hb [] := ⟨⟨own_ext_refl hb, Nat.zero_le _⟩, fun q hq => absurd hq List.not_mem_nil, List.nodup_nil⟩
theorem own_Hp_new (H : own_Hp Z a0 hb h cs) (E : Ext h h') (N : own_Is Z a0 h' h.size q) : own_Hp Z a0 hb h' (cs ++ [(h.size, q)]) := by
  refine ⟨own_bx_trans H.1 E, fun p hp => ?_, ?_⟩
  · rcases List.mem_append.mp hp with hp | hp
    · exact ⟨own_Is_ext E (H.2.1 p hp).1, (H.2.1 p hp).2⟩
    · cases List.mem_singleton.mp hp
      exact ⟨N, H.1.1.1⟩
  · rw [List.map_append, List.nodup_append]
    refine ⟨H.2.2, by simp, fun x hx y hy => ?_⟩
    simp only [List.map_cons, List.map_nil, List.mem_singleton] at hy
    subst hy
    obtain ⟨p, hp, rfl⟩ := List.mem_map.mp hx
    exact Nat.ne_of_lt (own_Is_lt (H.2.1 p hp).1)
theorem own_Hp_ext (H : own_Hp Z a0 hb h cs) (E : Ext h h') : own_Hp Z a0 hb h' cs :=
  ⟨own_bx_trans H.1 E, fun p hp => ⟨own_Is_ext E (H.2.1 p hp).1, (H.2.1 p hp).2⟩, H.2.2⟩
theorem own_get (H : own_Hp Z a0 hb h cs) {i : Nat} (hi : cs[i]? = some (a, q)) : own_Is Z a0 h a q ∧ hb.size ≤ a := H.2.1 _ (List.mem_of_getElem? hi)
theorem own_ne (H : own_Hp Z a0 hb h cs) {i j : Nat} {q' : own_Cel} (hi : cs[i]? = some (a, q)) (hj : cs[j]? = some (b, q')) (hne : i ≠ j) : a ≠ b := by
  rintro rfl
  have hN := H.2.2
  obtain ⟨hi1, hi2⟩ := List.getElem?_eq_some_iff.mp hi
  obtain ⟨hj1, hj2⟩ := List.getElem?_eq_some_iff.mp hj
  have := (List.getElem_inj (xs := cs.map Prod.fst) (i := i) (j := j) (h₀ := by simpa using hi1) (h₁ := by simpa using hj1) hN).mp (by simp [hi2, hj2])
  exact hne this
theorem own_Hp_set (H : own_Hp Z a0 hb h cs) {i : Nat} {q' : own_Cel} {sl : Nat} {v : Value} (hi : cs[i]? = some (a, q)) (W : Wr h h' a sl v) (N : own_Is Z a0 h' a q') : own_Hp Z a0 hb h' (cs.set i (a, q')) := by
  obtain ⟨hi1, hi2⟩ := List.getElem?_eq_some_iff.mp hi
  refine ⟨own_ext_wr H.1 W (own_get H hi).2, fun p hp => ?_, ?_⟩
  · obtain ⟨j, hj, rfl⟩ := List.mem_iff_getElem.mp hp
    rw [List.getElem_set]
    split
    · exact ⟨N, (own_get H hi).2⟩
    · rename_i hne
      have hj' : j < cs.length := by simpa using hj
      have hm := H.2.1 cs[j] (List.getElem_mem hj')
      refine ⟨own_Is_wr W ?_ hm.1, hm.2⟩
      intro e
      exact own_ne H hi (j := j) (b := cs[j].1) (q' := cs[j].2) (List.getElem?_eq_getElem hj') hne e.symm
  · rw [List.map_set, show (a, q').fst = (cs.map Prod.fst)[i]'(by simpa using hi1) by simp [hi2], List.set_getElem_self]
    exact H.2.2
theorem own_Is_fld {C : String} {fs : List (String × String × String × Value)} {j : Nat} {O n d : String} {old v : Value} (H : own_Is Z a0 h a (own_O C fs)) (hj : fs[j]? = some (O, n, d, old)) (W : Wr h h' a (RoadKit.slotOf Z O n d) v) : own_Is Z a0 h' a (own_O C (fs.set j (O, n, d, v))) := by
  obtain ⟨h1, h2, h3⟩ := H
  obtain ⟨hj1, hj2⟩ := List.getElem?_eq_some_iff.mp hj
  refine ⟨h1.wr W, fun f hf => ?_, ?_⟩
  · obtain ⟨k, hk, rfl⟩ := List.mem_iff_getElem.mp hf
    have hm := h2 _ (List.mem_of_getElem? hj)
    rw [List.getElem_set]
    split
    · exact ⟨hm.1.same W, hm.2⟩
    · rename_i hne
      have hk' : k < fs.length := by simpa using hk
      have hk2 := h2 fs[k] (List.getElem_mem hk')
      obtain ⟨t, ht⟩ := hk2.2.2
      obtain ⟨t', ht'⟩ := hm.2.2
      refine ⟨hk2.1.other W (Or.inr (slot_ne hk2.2.1 hm.2.1 (fun e => ?_) ht ht')), hk2.2⟩
      have := (List.getElem_inj (xs := fs.map fun f => f.2.1) (i := k) (j := j) (h₀ := by simpa using hk') (h₁ := by simpa using hj1) h3).mp (by simp [hj2]; exact e)
      exact hne this.symm
  · rw [List.map_set, show (O, n, d, v).2.1 = (fs.map fun f => f.2.1)[j]'(by simpa using hj1) by simp [hj2], List.set_getElem_self]
    exact h3
theorem own_Is_elt {ty : FieldType} {vs : List Value} {j : Nat} {v : Value} (H : own_Is Z a0 h a (own_A ty vs)) (W : Wr h h' a j v) : own_Is Z a0 h' a (own_A ty (vs.set j v)) := by
  obtain ⟨c, A, e⟩ := H
  refine ⟨_, A.same W, ?_, own_AC_map rfl (fun C F => F.wr W) e.2⟩
  rw [← e.1]
  simp [Cell.setSlot]
end Facts
def own_S (p : Program) (l : Launch) (e : Env) (R : Room) (s : State) (m : MethodId) (args : Array Value) (below : List Frame) (meth : Method) (c : Code) (Z : State) (a0 : Array Value) (hb : own_Base) (T : State) (cs : List (Addr × own_Cel)) (k n : Nat) : Prop :=
  ∃ locs, Stand p l e R s m args below meth c T locs k n ∧ Fr hb.size locs ∧ own_Hp Z a0 hb T.heap cs
section Rules
variable {p : Program} {l : Launch} {e : Env} {R : Room} {s : State} {m : MethodId} {args : Array Value} {below : List Frame} {meth : Method} {c : Code} {T : State} {Z : State} {a0 : Array Value} {hb : own_Base} {cs : List (Addr × own_Cel)} {k n : Nat}
theorem own_go (H : own_S p l e R s m args below meth c Z a0 hb T cs k n) (hx : p.tables.exec = Jvm.exec) (hZ : Z.Warmed39 s.vm) {own : String} (hown : s.vm.findClass own = some m.cls) {bytes : ByteArray} (hby : c.code = bytes) {ws : List Jvm.Cond} (hw : ∀ d ∈ ws, d.before a0 Z = true) {P : List (Nat × Value)} (hP : ∀ q ∈ P, ∃ w ∈ ws, own_Word own q.1 q.2 w)
    {pc pc' : Nat} {L L' : Array Slot} {S S' : List Value} (r : own_Go P bytes pc L S pc' L' S') : ∀ target, Steps p.tables e below (T.setTop (mkF m pc' L' S')) target → Steps p.tables e below (T.setTop (mkF m pc L S)) target := by
  obtain ⟨locs, X, -, -⟩ := H
  exact fun target q => r p.tables e below T target m c X.here hx hby (own_pool X hx hZ hown hw hP) q
theorem own_newO (H : own_S p l e R s m args below meth c Z a0 hb T cs k n) (hx : p.tables.exec = Jvm.exec) (hZ : Z.Warmed39 s.vm) {own C : String} {index nn : Nat} (hown : s.vm.findClass own = some m.cls) (w : (Jvm.Cond.classLink own index C).before a0 Z = true) (wi : (Jvm.Cond.instantiable C nn).before a0 Z = true) (wz : (Jvm.Cond.initialized C).before a0 Z = true)
    (fs : List (String × String × String × Value)) (hfs : ∀ f ∈ fs, Laid Z a0 C f.1 f.2.1 f.2.2.1 ∧ ∃ t, parseFieldDescriptor f.2.2.1 = some t ∧ defaultValue t = f.2.2.2) (hN : (fs.map fun f => f.2.1).Nodup)
    {g : JFrame} (hg : g.method = m) (hd : decode c.code g.pc = .ok (.new index, 3)) (hc : k + 1 ≤ R.cells) (hl : n + nn ≤ R.slots) :
    ∃ T' x, own_S p l e R s m args below meth c Z a0 hb T' (cs ++ [(x, own_O C fs)]) (k + 1) (n + nn) ∧ ∀ target, Steps p.tables e below (T'.setTop { g with pc := g.pc + 3, stack := .ref x :: g.stack }) target → Steps p.tables e below (T.setTop g) target := by
  obtain ⟨locs, X, N, hH⟩ := H
  obtain ⟨T', h', X', e', E, A, D, -, st⟩ := newO X hx hZ hown w wi wz rfl hg hd hc hl
  refine ⟨T', T.heap.size, ⟨locs, X', N, ?_⟩, st⟩
  rw [e']
  refine own_Hp_new hH E ⟨A, fun f hf => ?_, hN⟩
  obtain ⟨h1, t, h2, h3⟩ := hfs f hf
  exact ⟨h3 ▸ D h1 h2, h1, t, h2⟩
theorem own_newA (H : own_S p l e R s m args below meth c Z a0 hb T cs k n) (hx : p.tables.exec = Jvm.exec) (hZ : Z.Warmed39 s.vm) {aty : ArrayType} (w : (Jvm.Cond.arrayClass (newarray.typeOf aty)).before a0 Z = true) {g : JFrame} (hg : g.method = m) (hd : decode c.code g.pc = .ok (.newarray aty, 2)) {z : Int32} {rest : List Value} (hs : g.stack = .int z :: rest)
    (hn : ¬ z < 0) {cap : Nat} (hcap : z.toNatClampNeg ≤ cap) (hb8 : cap * 8 ≤ 536870912) (hc : k + 1 ≤ R.cells) (hl : n + cap ≤ R.slots) :
    ∃ T' x, own_S p l e R s m args below meth c Z a0 hb T' (cs ++ [(x, own_A (newarray.typeOf aty) (List.replicate z.toNatClampNeg (defaultValue (newarray.typeOf aty))))]) (k + 1) (n + cap) ∧ ∀ target, Steps p.tables e below (T'.setTop { g with pc := g.pc + 2, stack := .ref x :: rest }) target → Steps p.tables e below (T.setTop g) target := by
  obtain ⟨locs, X, N, hH⟩ := H
  obtain ⟨T', h', cA, X', e', E, A, F, st⟩ := newPE X hx hZ w rfl hg hd hs hn hcap hb8 hc hl rfl
  refine ⟨T', T.heap.size, ⟨locs, X', N, ?_⟩, st⟩
  rw [e']
  exact own_Hp_new hH E ⟨_, A, by simp [newA], by cases aty <;> exact F⟩
theorem own_getF (H : own_S p l e R s m args below meth c Z a0 hb T cs k n) (hx : p.tables.exec = Jvm.exec) (hZ : Z.Warmed39 s.vm) {own O nm d : String} {index : Nat} (hown : s.vm.findClass own = some m.cls) (w : (Jvm.Cond.fieldLink own index O nm d).before a0 Z = true)
    {x : Addr} {C : String} {fs : List (String × String × String × Value)} {v : Value} (i j : Nat) (hi : cs[i]? = some (x, own_O C fs)) (hj : fs[j]? = some (O, nm, d, v)) {g : JFrame} (hg : g.method = m) {rest : List Value} (hs : g.stack = .ref x :: rest) (hd : decode c.code g.pc = .ok (.getfield index, 3)) :
    ∃ T', own_S p l e R s m args below meth c Z a0 hb T' cs k n ∧ ∀ target, Steps p.tables e below (T'.setTop { g with pc := g.pc + 3, stack := v :: rest }) target → Steps p.tables e below (T.setTop g) target := by
  obtain ⟨locs, X, N, hH⟩ := H
  have F := ((own_get hH hi).1.2.1 _ (List.mem_of_getElem? hj)).1
  obtain ⟨T', X', e', st⟩ := getF X hx hZ hown (host := "") (Or.inl w) Via.refl rfl F hg hs hd
  exact ⟨T', ⟨locs, X', N, e' ▸ hH⟩, st⟩
theorem own_putF (H : own_S p l e R s m args below meth c Z a0 hb T cs k n) (hx : p.tables.exec = Jvm.exec) (hZ : Z.Warmed39 s.vm) {own O nm d : String} {index kk : Nat} {ty : FieldType} (hown : s.vm.findClass own = some m.cls) (w : (Jvm.Cond.fieldLink own index O nm d).before a0 Z = true)
    {x : Addr} {C : String} {fs : List (String × String × String × Value)} {v old : Value} (i j : Nat) (hi : cs[i]? = some (x, own_O C fs)) (hj : fs[j]? = some (O, nm, d, old)) (L : (Jvm.Cond.lays C O nm d).before a0 Z = true ∨ ((Jvm.Cond.laysFinal C O nm d).before a0 Z = true ∧ own = O ∧ meth.name = "<init>")) (wi : (Jvm.Cond.instantiable C kk).before a0 Z = true)
    (hty : parseFieldDescriptor d = some ty) (hn : narrow ty v = v) (hf : fits ty v = true) {g : JFrame} (hg : g.method = m) {rest : List Value} (hs : g.stack = v :: .ref x :: rest) (hd : decode c.code g.pc = .ok (.putfield index, 3)) :
    ∃ T', own_S p l e R s m args below meth c Z a0 hb T' (cs.set i (x, own_O C (fs.set j (O, nm, d, v)))) k n ∧ ∀ target, Steps p.tables e below (T'.setTop { g with pc := g.pc + 3, stack := rest }) target → Steps p.tables e below (T.setTop g) target := by
  obtain ⟨locs, X, N, hH⟩ := H
  have I := own_get hH hi
  have F := (I.1.2.1 _ (List.mem_of_getElem? hj)).1
  obtain ⟨T', h', X', e', W, st⟩ := putF X hx hZ hown (host := "") (Or.inl w) Via.refl rfl F I.1.1 L wi hty hn hf hg hs hd
  refine ⟨T', ⟨_, X', Fr.snoc X' N I.2, ?_⟩, st⟩
  rw [e']
  exact own_Hp_set hH hi W (own_Is_fld I.1 hj W)
theorem own_initO (H : own_S p l e R s m args below meth c Z a0 hb T cs k n) (hx : p.tables.exec = Jvm.exec) (hZ : Z.Warmed39 s.vm) {own : String} {idx : Nat} (hown : s.vm.findClass own = some m.cls) (w1 : (Jvm.Cond.methodLink own idx Lib.objectInit).before a0 Z = true) (w2 : (Jvm.Cond.instanceMethod Lib.objectInit).before a0 Z = true)
    (w3 : (Jvm.Cond.code Lib.objectInit ⟨#[0xb1]⟩ 1 none).before a0 Z = true) {g : JFrame} (hg : g.method = m) (hsize : g.locals.size = c.maxLocals) {a : Addr} {rest : List Value} (hs : g.stack = .ref a :: rest) (hd : decode c.code g.pc = .ok (.invokespecial idx, 3))
    (hf : 1 ≤ R.frames) {W : Nat} (hW : 2 * g.monitorRoom + (rest.map fun v => v.category).sum ≤ W) (hl : W + 12 ≤ R.locals) :
    ∃ T', own_S p l e R s m args below meth c Z a0 hb T' cs k n ∧ ∀ target, Steps p.tables e below (T'.setTop { g with pc := g.pc + 3, stack := rest }) target → Steps p.tables e below (T.setTop g) target := by
  obtain ⟨locs, X, N, hH⟩ := H
  obtain ⟨T', X', e', st⟩ := initO X hx hZ hown w1 w2 w3 rfl hg hsize hs hd hf hW hl
  exact ⟨T', ⟨locs, X', N, e' ▸ hH⟩, st⟩
theorem own_idx {j : Int32} {vs : List Value} {cl : Cell} (e : cl.slots.toList = vs) (h0 : 0 ≤ j.toInt) (h1 : j.toInt < vs.length) : ¬ (j < 0 ∨ cl.slots.size ≤ j.toNatClampNeg) := by
  have hl : cl.slots.size = vs.length := by rw [← e]; simp
  rintro (q | q)
  · rw [Int32.lt_iff_toInt_lt] at q; rw [show (0 : Int32).toInt = 0 from rfl] at q; omega
  · have : j.toNatClampNeg = j.toInt.toNat := rfl
    omega
theorem own_at_idx {j : Int32} {vs : List Value} {cl : Cell} {v : Value} (e : cl.slots.toList = vs) {i : Nat} (hi : j.toInt = i) (hv : vs[i]? = some v) : cl.slots[j.toNatClampNeg]? = some v := by
  have : j.toNatClampNeg = i := by show j.toInt.toNat = i; omega
  rw [this, ← Array.getElem?_toList, e]; exact hv
theorem own_daload (H : own_S p l e R s m args below meth c Z a0 hb T cs k n) (hx : p.tables.exec = Jvm.exec) (hZ : Z.Warmed39 s.vm) {x : Addr} {vs : List Value} {j : Int32} {v : Value} (i jj : Nat) (hi : cs[i]? = some (x, own_A .double vs)) (hj : j.toInt = jj) (hv : vs[jj]? = some v)
    {g : JFrame} (hg : g.method = m) {rest : List Value} (hs : g.stack = .int j :: .ref x :: rest) (hd : decode c.code g.pc = .ok (.daload, 1)) :
    ∀ target, Steps p.tables e below (T.setTop { g with pc := g.pc + 1, stack := v :: rest }) target → Steps p.tables e below (T.setTop g) target := by
  obtain ⟨locs, X, N, hH⟩ := H
  obtain ⟨cl, A, hc, -⟩ := (own_get hH hi).1
  have hlt : jj < vs.length := (List.getElem?_eq_some_iff.mp hv).1
  exact fun target q => X.daload hx A.1 (State.isArrayOf_alike hZ.alike A.2.1) A.2.2 (own_idx hc (by omega) (by omega)) (own_at_idx hc hj hv) hg hs hd target q
theorem own_iaload (H : own_S p l e R s m args below meth c Z a0 hb T cs k n) (hx : p.tables.exec = Jvm.exec) (hZ : Z.Warmed39 s.vm) {x : Addr} {vs : List Value} {j : Int32} {v : Value} (i jj : Nat) (hi : cs[i]? = some (x, own_A .int vs)) (hj : j.toInt = jj) (hv : vs[jj]? = some v)
    {g : JFrame} (hg : g.method = m) {rest : List Value} (hs : g.stack = .int j :: .ref x :: rest) (hd : decode c.code g.pc = .ok (.iaload, 1)) :
    ∀ target, Steps p.tables e below (T.setTop { g with pc := g.pc + 1, stack := v :: rest }) target → Steps p.tables e below (T.setTop g) target := by
  obtain ⟨locs, X, N, hH⟩ := H
  obtain ⟨cl, A, hc, -⟩ := (own_get hH hi).1
  have hlt : jj < vs.length := (List.getElem?_eq_some_iff.mp hv).1
  exact fun target q => X.iaload hx A.1 (State.isArrayOf_alike hZ.alike A.2.1) A.2.2 (own_idx hc (by omega) (by omega)) (own_at_idx hc hj hv) hg hs hd target q
theorem own_laload (H : own_S p l e R s m args below meth c Z a0 hb T cs k n) (hx : p.tables.exec = Jvm.exec) (hZ : Z.Warmed39 s.vm) {x : Addr} {vs : List Value} {j : Int32} {v : Value} (i jj : Nat) (hi : cs[i]? = some (x, own_A .long vs)) (hj : j.toInt = jj) (hv : vs[jj]? = some v)
    {g : JFrame} (hg : g.method = m) {rest : List Value} (hs : g.stack = .int j :: .ref x :: rest) (hd : decode c.code g.pc = .ok (.laload, 1)) :
    ∀ target, Steps p.tables e below (T.setTop { g with pc := g.pc + 1, stack := v :: rest }) target → Steps p.tables e below (T.setTop g) target := by
  obtain ⟨locs, X, N, hH⟩ := H
  obtain ⟨cl, A, hc, -⟩ := (own_get hH hi).1
  have hlt : jj < vs.length := (List.getElem?_eq_some_iff.mp hv).1
  exact fun target q => X.laload hx A.1 (State.isArrayOf_alike hZ.alike A.2.1) A.2.2 (own_idx hc (by omega) (by omega)) (own_at_idx hc hj hv) hg hs hd target q
theorem own_aaload (H : own_S p l e R s m args below meth c Z a0 hb T cs k n) (hx : p.tables.exec = Jvm.exec) (hZ : Z.Warmed39 s.vm) {x : Addr} {ty : FieldType} {vs : List Value} {j : Int32} {v : Value} (i jj : Nat) (hi : cs[i]? = some (x, own_A ty vs)) (hty : ty.isReference = true) (hj : j.toInt = jj) (hv : vs[jj]? = some v)
    {g : JFrame} (hg : g.method = m) {rest : List Value} (hs : g.stack = .int j :: .ref x :: rest) (hd : decode c.code g.pc = .ok (.aaload, 1)) :
    ∀ target, Steps p.tables e below (T.setTop { g with pc := g.pc + 1, stack := v :: rest }) target → Steps p.tables e below (T.setTop g) target := by
  obtain ⟨locs, X, N, hH⟩ := H
  obtain ⟨cl, A, hc, -⟩ := (own_get hH hi).1
  have hlt : jj < vs.length := (List.getElem?_eq_some_iff.mp hv).1
  exact fun target q => X.aaload hx A.1 (State.isArrayOf_alike hZ.alike A.2.1) hty A.2.2 (own_idx hc (by omega) (by omega)) (own_at_idx hc hj hv) hg hs hd target q
theorem own_arrlen (H : own_S p l e R s m args below meth c Z a0 hb T cs k n) (hx : p.tables.exec = Jvm.exec) (hZ : Z.Warmed39 s.vm) {x : Addr} {ty : FieldType} {vs : List Value} (i : Nat) (hi : cs[i]? = some (x, own_A ty vs)) {z : Int32} (hz : vs.length.toInt32 = z)
    {g : JFrame} (hg : g.method = m) {rest : List Value} (hs : g.stack = .ref x :: rest) (hd : decode c.code g.pc = .ok (.arraylength, 1)) :
    ∀ target, Steps p.tables e below (T.setTop { g with pc := g.pc + 1, stack := .int z :: rest }) target → Steps p.tables e below (T.setTop g) target := by
  obtain ⟨locs, X, N, hH⟩ := H
  obtain ⟨cl, A, hc, -⟩ := (own_get hH hi).1
  have hl : cl.slots.size = vs.length := by rw [← hc]; simp
  refine fun target q => X.arraylength hx A.1 (State.isArrayOf_alike hZ.alike A.2.1) hg hs hd target ?_
  rw [hl, hz]; exact q
theorem own_dastore (H : own_S p l e R s m args below meth c Z a0 hb T cs k n) (hx : p.tables.exec = Jvm.exec) (hZ : Z.Warmed39 s.vm) {x : Addr} {vs : List Value} {j : Int32} {v : UInt64} (i jj : Nat) (hi : cs[i]? = some (x, own_A .double vs)) (hj : j.toInt = jj) (hlt : jj < vs.length)
    {g : JFrame} (hg : g.method = m) {rest : List Value} (hs : g.stack = .double v :: .int j :: .ref x :: rest) (hd : decode c.code g.pc = .ok (.dastore, 1)) :
    ∃ T', own_S p l e R s m args below meth c Z a0 hb T' (cs.set i (x, own_A .double (vs.set jj (.double v)))) k n ∧ ∀ target, Steps p.tables e below (T'.setTop { g with pc := g.pc + 1, stack := rest }) target → Steps p.tables e below (T.setTop g) target := by
  obtain ⟨locs, X, N, hH⟩ := H
  have I := own_get hH hi
  obtain ⟨cl, A, hc, -⟩ := I.1
  obtain ⟨T', h', X', e', W, st⟩ := stD X hx hZ rfl A (own_idx hc (by omega) (by omega)) hg hs hd
  have hjj : j.toNatClampNeg = jj := by show j.toInt.toNat = jj; omega
  rw [hjj] at W
  refine ⟨T', ⟨_, X', Fr.snoc X' N I.2, ?_⟩, st⟩
  rw [e']
  exact own_Hp_set hH hi W (own_Is_elt I.1 W)
theorem own_iastore (H : own_S p l e R s m args below meth c Z a0 hb T cs k n) (hx : p.tables.exec = Jvm.exec) (hZ : Z.Warmed39 s.vm) {x : Addr} {vs : List Value} {j : Int32} {v : Int32} (i jj : Nat) (hi : cs[i]? = some (x, own_A .int vs)) (hj : j.toInt = jj) (hlt : jj < vs.length)
    {g : JFrame} (hg : g.method = m) {rest : List Value} (hs : g.stack = .int v :: .int j :: .ref x :: rest) (hd : decode c.code g.pc = .ok (.iastore, 1)) :
    ∃ T', own_S p l e R s m args below meth c Z a0 hb T' (cs.set i (x, own_A .int (vs.set jj (.int v)))) k n ∧ ∀ target, Steps p.tables e below (T'.setTop { g with pc := g.pc + 1, stack := rest }) target → Steps p.tables e below (T.setTop g) target := by
  obtain ⟨locs, X, N, hH⟩ := H
  have I := own_get hH hi
  obtain ⟨cl, A, hc, -⟩ := I.1
  obtain ⟨T', h', X', e', W, st⟩ := stI X hx hZ rfl A (own_idx hc (by omega) (by omega)) hg hs hd
  have hjj : j.toNatClampNeg = jj := by show j.toInt.toNat = jj; omega
  rw [hjj] at W
  refine ⟨T', ⟨_, X', Fr.snoc X' N I.2, ?_⟩, st⟩
  rw [e']
  exact own_Hp_set hH hi W (own_Is_elt I.1 W)
theorem own_lastore (H : own_S p l e R s m args below meth c Z a0 hb T cs k n) (hx : p.tables.exec = Jvm.exec) (hZ : Z.Warmed39 s.vm) {x : Addr} {vs : List Value} {j : Int32} {v : Int64} (i jj : Nat) (hi : cs[i]? = some (x, own_A .long vs)) (hj : j.toInt = jj) (hlt : jj < vs.length)
    {g : JFrame} (hg : g.method = m) {rest : List Value} (hs : g.stack = .long v :: .int j :: .ref x :: rest) (hd : decode c.code g.pc = .ok (.lastore, 1)) :
    ∃ T', own_S p l e R s m args below meth c Z a0 hb T' (cs.set i (x, own_A .long (vs.set jj (.long v)))) k n ∧ ∀ target, Steps p.tables e below (T'.setTop { g with pc := g.pc + 1, stack := rest }) target → Steps p.tables e below (T.setTop g) target := by
  obtain ⟨locs, X, N, hH⟩ := H
  have I := own_get hH hi
  obtain ⟨cl, A, hc, -⟩ := I.1
  obtain ⟨T', h', X', e', W, st⟩ := stJ X hx hZ rfl A (own_idx hc (by omega) (by omega)) hg hs hd
  have hjj : j.toNatClampNeg = jj := by show j.toInt.toNat = jj; omega
  rw [hjj] at W
  refine ⟨T', ⟨_, X', Fr.snoc X' N I.2, ?_⟩, st⟩
  rw [e']
  exact own_Hp_set hH hi W (own_Is_elt I.1 W)
theorem own_aastore (H : own_S p l e R s m args below meth c Z a0 hb T cs k n) (hx : p.tables.exec = Jvm.exec) (hZ : Z.Warmed39 s.vm) {x y : Addr} {t ty : FieldType} {vs ws : List Value} {j : Int32} (i iy jj : Nat) (hi : cs[i]? = some (x, own_A (.array t) vs)) (hy : cs[iy]? = some (y, own_A ty ws)) (hE : ∀ h c, own_AC Z h y c ty → Exa Z h y (FieldType.array t).toString) (hj : j.toInt = jj) (hlt : jj < vs.length)
    {g : JFrame} (hg : g.method = m) {rest : List Value} (hs : g.stack = .ref y :: .int j :: .ref x :: rest) (hd : decode c.code g.pc = .ok (.aastore, 1)) :
    ∃ T', own_S p l e R s m args below meth c Z a0 hb T' (cs.set i (x, own_A (.array t) (vs.set jj (.ref y)))) k n ∧ ∀ target, Steps p.tables e below (T'.setTop { g with pc := g.pc + 1, stack := rest }) target → Steps p.tables e below (T.setTop g) target := by
  obtain ⟨locs, X, N, hH⟩ := H
  have I := own_get hH hi
  obtain ⟨cl, A, hc, hO⟩ := I.1
  obtain ⟨cy, Ay, -, hF⟩ := (own_get hH hy).1
  obtain ⟨T', h', X', e', W, st⟩ := stR X hx hZ rfl A (own_idx hc (by omega) (by omega)) rfl (Sto.ofVA A rfl hO.1 (Ins.self (hE _ _ hF))) hg hs hd
  have hjj : j.toNatClampNeg = jj := by show j.toInt.toNat = jj; omega
  rw [hjj] at W
  refine ⟨T', ⟨_, X', Fr.snoc X' N I.2, ?_⟩, st⟩
  rw [e']
  exact own_Hp_set hH hi W (own_Is_elt I.1 W)
theorem own_newRA (H : own_S p l e R s m args below meth c Z a0 hb T cs k n) (hx : p.tables.exec = Jvm.exec) (hZ : Z.Warmed39 s.vm) {own C : String} {ty : FieldType} {index : Nat} (hown : s.vm.findClass own = some m.cls) (hC : (FieldType.array ty).toString = C) (w1 : (Jvm.Cond.classLink own index C).before a0 Z = true) (w2 : (Jvm.Cond.arrayOver (.array ty)).before a0 Z = true)
    {g : JFrame} (hg : g.method = m) (hd : decode c.code g.pc = .ok (.anewarray index, 3)) {z : Int32} {rest : List Value} (hs : g.stack = .int z :: rest) (hn : ¬ z < 0) {cap : Nat} (hcap : z.toNatClampNeg ≤ cap) (hb8 : cap * 8 ≤ 536870912) (hc : k + 1 ≤ R.cells) (hl : n + cap ≤ R.slots) :
    ∃ T' x, own_S p l e R s m args below meth c Z a0 hb T' (cs ++ [(x, own_A (.array ty) (List.replicate z.toNatClampNeg .null))]) (k + 1) (n + cap) ∧ ∀ target, Steps p.tables e below (T'.setTop { g with pc := g.pc + 3, stack := .ref x :: rest }) target → Steps p.tables e below (T.setTop g) target := by
  obtain ⟨locs, X, N, hH⟩ := H
  obtain ⟨T', h', cA, X', e', E, A, F, O, st⟩ := newRA X hx hZ hown hC w1 w2 rfl hg hd hs hn hcap hb8 hc hl rfl
  subst hC
  refine ⟨T', T.heap.size, ⟨locs, X', N, ?_⟩, st⟩
  rw [e']
  exact own_Hp_new hH E ⟨_, A, by simp [newA, defaultValue], O, F⟩
theorem own_cloneA (H : own_S p l e R s m args below meth c Z a0 hb T cs k n) (hx : p.tables.exec = Jvm.exec) (hZ : Z.Warmed39 s.vm) {own ad : String} {index : Nat} (hown : s.vm.findClass own = some m.cls)
    (w1 : (Jvm.Cond.methodLink own index ⟨ad, "clone", "()Ljava/lang/Object;"⟩).before a0 Z = true) (w2 : (Jvm.Cond.sameMethod ad "java/lang/Object" "clone" "()Ljava/lang/Object;").before a0 Z = true) (w3 : (Jvm.Cond.native ⟨"java/lang/Object", "clone", "()Ljava/lang/Object;"⟩).before a0 Z = true)
    (w4 : (Jvm.Cond.instanceMethod ⟨"java/lang/Object", "clone", "()Ljava/lang/Object;"⟩).before a0 Z = true) (w5 : (Jvm.Cond.selects ad ⟨ad, "clone", "()Ljava/lang/Object;"⟩ ⟨"java/lang/Object", "clone", "()Ljava/lang/Object;"⟩).before a0 Z = true) (w6 : (Jvm.Cond.castable ad "java/lang/Cloneable").before a0 Z = true)
    {x : Addr} {ty : FieldType} {vs : List Value} (i : Nat) (hi : cs[i]? = some (x, own_A ty vs)) (hE : ∀ h x c, own_AC Z h x c ty → Exa Z h x ad) (hA : ∀ h x c, Exa Z h x ad → own_AC Z h x c ty) (hfit : ∀ v ∈ vs, fits ty v = true)
    {g : JFrame} (hg : g.method = m) (hsize : g.locals.size = c.maxLocals) {rest : List Value} (hs : g.stack = .ref x :: rest) (hd : decode c.code g.pc = .ok (.invokevirtual index, 3))
    (hf : 1 ≤ R.frames) {W cap : Nat} (hW : 2 * g.monitorRoom + (rest.map fun v => v.category).sum ≤ W) (hl : W + 14 ≤ R.locals) (hcap : vs.length ≤ cap) (hc : k + 1 ≤ R.cells) (hsl : n + cap ≤ R.slots) :
    ∃ T' y, own_S p l e R s m args below meth c Z a0 hb T' (cs ++ [(y, own_A ty vs)]) (k + 1) (n + cap) ∧ ∀ target, Steps p.tables e below (T'.setTop { g with pc := g.pc + 3, stack := .ref y :: rest }) target → Steps p.tables e below (T.setTop g) target := by
  obtain ⟨locs, X, N, hH⟩ := H
  obtain ⟨cl, A, hc', hF⟩ := (own_get hH hi).1
  have FC : FitC Z cl := fitC_of A fun i hi v hv => hfit v (by rw [← hc']; rw [← Array.getElem?_toList] at hv; exact List.mem_of_getElem? hv)
  have hlen : cl.slots.size = vs.length := by rw [← hc']; simp
  obtain ⟨T', h', X', e', E, A', F', st⟩ := cloneA X hx hZ hown w1 w2 w3 w4 w5 w6 rfl A (hE _ _ _ hF) FC hg hsize hs hd hf hW hl (by rw [hlen]; exact hcap) hc hsl
  refine ⟨T', T.heap.size, ⟨locs, X', N, ?_⟩, st⟩
  rw [e']
  exact own_Hp_new hH E ⟨_, A', hc', hA _ _ _ F'⟩
theorem own_castA (H : own_S p l e R s m args below meth c Z a0 hb T cs k n) (hx : p.tables.exec = Jvm.exec) (hZ : Z.Warmed39 s.vm) {own ad : String} {index : Nat} (hown : s.vm.findClass own = some m.cls) (w : (Jvm.Cond.classLink own index ad).before a0 Z = true)
    {x : Addr} {ty : FieldType} {vs : List Value} (i : Nat) (hi : cs[i]? = some (x, own_A ty vs)) (hE : ∀ h x c, own_AC Z h x c ty → Exa Z h x ad) {g : JFrame} (hg : g.method = m) {rest : List Value} (hs : g.stack = .ref x :: rest) (hd : decode c.code g.pc = .ok (.checkcast index, 3)) :
    ∃ T', own_S p l e R s m args below meth c Z a0 hb T' cs k n ∧ ∀ target, Steps p.tables e below (T'.setTop { g with pc := g.pc + 3 }) target → Steps p.tables e below (T.setTop g) target := by
  obtain ⟨locs, X, N, hH⟩ := H
  obtain ⟨cl, A, -, hF⟩ := (own_get hH hi).1
  obtain ⟨T', X', e', st⟩ := castY X hx hZ hown w rfl (Ins.self (hE _ _ _ hF)) hg hs hd
  exact ⟨T', ⟨locs, X', N, e' ▸ hH⟩, st⟩
theorem own_castO (H : own_S p l e R s m args below meth c Z a0 hb T cs k n) (hx : p.tables.exec = Jvm.exec) (hZ : Z.Warmed39 s.vm) {own C : String} {index : Nat} (hown : s.vm.findClass own = some m.cls) (w : (Jvm.Cond.classLink own index C).before a0 Z = true)
    {x : Addr} {fs : List (String × String × String × Value)} (i : Nat) (hi : cs[i]? = some (x, own_O C fs)) {g : JFrame} (hg : g.method = m) {rest : List Value} (hs : g.stack = .ref x :: rest) (hd : decode c.code g.pc = .ok (.checkcast index, 3)) :
    ∃ T', own_S p l e R s m args below meth c Z a0 hb T' cs k n ∧ ∀ target, Steps p.tables e below (T'.setTop { g with pc := g.pc + 3 }) target → Steps p.tables e below (T.setTop g) target := by
  obtain ⟨locs, X, N, hH⟩ := H
  obtain ⟨T', X', e', st⟩ := castY X hx hZ hown w rfl (Ins.self (own_get hH hi).1.1) hg hs hd
  exact ⟨T', ⟨locs, X', N, e' ▸ hH⟩, st⟩
theorem own_instO (H : own_S p l e R s m args below meth c Z a0 hb T cs k n) (hx : p.tables.exec = Jvm.exec) (hZ : Z.Warmed39 s.vm) {own C : String} {index : Nat} (hown : s.vm.findClass own = some m.cls) (w : (Jvm.Cond.classLink own index C).before a0 Z = true)
    {x : Addr} {fs : List (String × String × String × Value)} (i : Nat) (hi : cs[i]? = some (x, own_O C fs)) {g : JFrame} (hg : g.method = m) {rest : List Value} (hs : g.stack = .ref x :: rest) (hd : decode c.code g.pc = .ok (.instanceof index, 3)) :
    ∃ T', own_S p l e R s m args below meth c Z a0 hb T' cs k n ∧ ∀ target, Steps p.tables e below (T'.setTop { g with pc := g.pc + 3, stack := .int 1 :: rest }) target → Steps p.tables e below (T.setTop g) target := by
  obtain ⟨locs, X, N, hH⟩ := H
  obtain ⟨T', X', e', st⟩ := instY X hx hZ hown w rfl (Ins.self (own_get hH hi).1.1) hg hs hd
  exact ⟨T', ⟨locs, X', N, e' ▸ hH⟩, st⟩
end Rules
/-- what a method does: from the cells cs and these arguments it returns a value and leaves cells of which Q holds -/
def own_Met (l : Launch) (Z : State) (a0 : Array Value) (hb : own_Base) (y : MethodName) (bytes : ByteArray) (maxL : Nat) (ret : Option FieldType) (ws : List Jvm.Cond) (rm : Room) (as' : Array Value) (cs : List (Addr × own_Cel)) (Q : Option Value → List (Addr × own_Cel) → Prop) : Prop :=
  ∀ h, own_Hp Z a0 hb h cs → MetFree l y (head1 (Jvm.Cond.code y bytes maxL ret :: ws) rm) (fun a U => a = as' ∧ Z.Warmed39 U.vm ∧ U.heap = h) (fun _ _ _ _ _ => True) (fun _ U o U' => ∃ w L, o = .returned w ∧ (Fr hb.size L ∧ ∃ cs', Q w cs' ∧ own_Hp Z a0 hb U'.heap cs') ∧ FrameEnd U o U' L rm.cells rm.slots)
/-- from the frame g the method runs to its return -/
def own_Ends (p : Program) (l : Launch) (e : Env) (R : Room) (s : State) (m : MethodId) (args : Array Value) (below : List Frame) (meth : Method) (c : Code) (Z : State) (a0 : Array Value) (hb : own_Base) (bytes : ByteArray) (ret : Option FieldType) (Q : Option Value → List (Addr × own_Cel) → Prop) (T : State) (g : JFrame) : Prop :=
  ∃ T' cs' k n pc L, own_S p l e R s m args below meth c Z a0 hb T' cs' k n ∧ k ≤ R.cells ∧ n ≤ R.slots ∧
    ((ret = none ∧ Q none cs' ∧ decode bytes pc = .ok (.return_, 1) ∧ ∀ target, Steps p.tables e below (T'.setTop (mkF m pc L [])) target → Steps p.tables e below (T.setTop g) target) ∨
     (∃ t v S i, ret = some t ∧ Q (some v) cs' ∧ decode bytes pc = .ok (i, 1) ∧ own_Ret i t v ∧ ∀ target, Steps p.tables e below (T'.setTop (mkF m pc L (v :: S))) target → Steps p.tables e below (T.setTop g) target))
theorem own_met_of {l : Launch} {Z : State} {a0 : Array Value} {hb : own_Base} {y : MethodName} {bytes : ByteArray} {maxL : Nat} {ret : Option FieldType} {ws : List Jvm.Cond} {rm : Room} {as' : Array Value} {cs : List (Addr × own_Cel)} {Q : Option Value → List (Addr × own_Cel) → Prop} {L0 : Array Slot} (hpl : plainFor y = true) (hef : ∀ m, entryFrame m as' maxL = mkF m 0 L0 [])
    (body : ∀ (p : Program) (e : Env) (s : State) (m : MethodId) (below : List Frame) (meth : Method) (c : Code) (T : State), p.tables.exec = Jvm.exec → Z.Warmed39 s.vm → s.vm.findClass y.cls = some m.cls → c.code = bytes → c.maxLocals = maxL → meth.name = y.name → own_S p l e rm s m as' below meth c Z a0 hb T cs 0 0 → own_Ends p l e rm s m as' below meth c Z a0 hb bytes ret Q T (mkF m 0 L0 [])) :
    own_Met l Z a0 hb y bytes maxL ret ws rm as' cs Q := by
  intro h hH
  refine MetFree.of_bodySF hpl hisR ?_
  intro p e s m args below meth c s₁ Bd hml0 hPP hK
  obtain ⟨rfl, hZ, hh⟩ := hPP
  have hown : s.vm.findClass y.cls = some m.cls := findClass_of_methodNamed Bd.named
  have hnm := (name_of_methodNamed Bd.named Bd.method).1
  have X0 : Stand p l e rm s m _ below meth c s₁ [] 0 0 := Stand.of_body Bd
  have e0 : s₁.heap = h := by rw [← hh, Bd.state]; rfl
  obtain ⟨T', cs', k, n, pc, L, ⟨locs, X, N, hH'⟩, hk, hn, hE⟩ := body p e s m below meth c s₁ Bd.exec hZ hown Bd.bytes hml0 hnm ⟨[], X0, Fr.nil _, e0 ▸ hH⟩
  rcases hE with ⟨rfl, hQ, hd, st⟩ | ⟨t, v, S, i, rfl, hQ, hd, hr, st⟩
  · obtain ⟨fs, hr', hrun, hended, hW, hsame⟩ := X.leave (v := none) (fun _ => rfl)
    exact ⟨_, _, castTop (hef m) (st _ (X.returnOut Bd.exec Bd.returns (Jvm.hb Bd.bytes hd) hr')), hrun, hended, _, _, rfl, ⟨N, cs', hQ, hH'⟩, ⟨_, rfl⟩, hW, hsame.mono hk hn⟩
  · obtain ⟨fs, hr', hrun, hended, hW, hsame⟩ := X.leave (v := some v) (fun h => by rw [Bd.returns] at h; cases h)
    exact ⟨_, _, castTop (hef m) (st _ (retOut X Bd.exec Bd.returns hr.1 hr.2 (Jvm.hb Bd.bytes hd) hr')), hrun, hended, _, _, rfl, ⟨N, cs', hQ, hH'⟩, ⟨_, rfl⟩, hW, hsame.mono hk hn⟩
section Calls
variable {p : Program} {l : Launch} {e : Env} {R : Room} {s : State} {m : MethodId} {args : Array Value} {below : List Frame} {meth : Method} {c : Code} {T : State} {Z : State} {a0 : Array Value} {hb : own_Base} {cs : List (Addr × own_Cel)} {k n : Nat}
theorem own_callS (H : own_S p l e R s m args below meth c Z a0 hb T cs k n) (hx : p.tables.exec = Jvm.exec) (hZ : Z.Warmed39 s.vm) {own : String} {index : Nat} {y : MethodName} {bytes : ByteArray} {maxL : Nat} {ret : Option FieldType} (hown : s.vm.findClass own = some m.cls)
    (w1 : (Jvm.Cond.methodLink own index y).before a0 Z = true) (w2 : (Jvm.Cond.static y).before a0 Z = true) (w3 : (Jvm.Cond.initialized y.cls).before a0 Z = true) (w4 : (Jvm.Cond.code y bytes maxL ret).before a0 Z = true) (hy : y.cls ≠ "java/lang/invoke/MethodHandle" ∧ y.cls ≠ "java/lang/invoke/VarHandle")
    {rm : Room} {W : Nat} {argsL rest : List Value} {Q : Option Value → List (Addr × own_Cel) → Prop} (hM : own_Met l Z a0 hb y bytes maxL ret [] rm argsL.toArray cs Q) (hf : rm.frames + 1 ≤ R.frames) (hl : W + (maxL + 11) + rm.locals ≤ R.locals) (hc : k + rm.cells ≤ R.cells) (hs : n + rm.slots ≤ R.slots)
    {g : JFrame} (hg : g.method = m) (hsize : g.locals.size = c.maxLocals) (hlen : ∀ sig, parseMethodDescriptor y.desc = some sig → argsL.length = sig.parameters.length) (hst : g.stack = argsL.reverse ++ rest) (hW : 2 * g.monitorRoom + (rest.map fun v => v.category).sum ≤ W) (hd : decode c.code g.pc = .ok (.invokestatic index, 3)) :
    ∃ T' v cs', Q v cs' ∧ own_S p l e R s m args below meth c Z a0 hb T' cs' (k + rm.cells) (n + rm.slots) ∧ ∀ target, Steps p.tables e below (T'.setTop { g with pc := g.pc + 3, stack := v.toList ++ rest }) target → Steps p.tables e below (T.setTop g) target := by
  obtain ⟨locs, X, N, hH⟩ := H
  obtain ⟨v', vm1, ⟨T2, L2, k2, n2⟩, -, X2, ⟨Lc, hQ, l2, y2, z2⟩, st⟩ := Jvm.LawKit.callS X hx hown (mvT hZ w1) (mvT hZ w2) (mvT hZ w3) (mvT hZ w4) hy (backOf (W := W) (rm := rm) (Q := fun w H L => Fr hb.size L ∧ ∃ cs', Q w cs' ∧ own_Hp Z a0 hb H cs') (hM _ hH) hZ w4 w3 hf hl) hg hsize hlen hst hW hd (fun _ _ => ⟨rfl, rfl, hc, hs⟩)
  dsimp only [Pt.U, Pt.locs, Pt.cells, Pt.slots] at X2 l2 y2 z2 st hQ
  obtain ⟨N2, cs', hQ', hH'⟩ := hQ
  subst l2 y2 z2
  exact ⟨T2, v', cs', hQ', ⟨_, X2, N.app N2, hH'⟩, st⟩
theorem own_callI (H : own_S p l e R s m args below meth c Z a0 hb T cs k n) (hx : p.tables.exec = Jvm.exec) (hZ : Z.Warmed39 s.vm) {own : String} {index : Nat} {y : MethodName} {bytes : ByteArray} {maxL : Nat} (hown : s.vm.findClass own = some m.cls) (hy1 : y.name = "<init>")
    (w1 : (Jvm.Cond.methodLink own index y).before a0 Z = true) (w2 : (Jvm.Cond.instanceMethod y).before a0 Z = true) (w3 : (Jvm.Cond.initialized y.cls).before a0 Z = true) (w4 : (Jvm.Cond.code y bytes maxL none).before a0 Z = true) (hy : y.cls ≠ "java/lang/invoke/MethodHandle" ∧ y.cls ≠ "java/lang/invoke/VarHandle")
    {rm : Room} {W : Nat} {x : Addr} {argsL rest : List Value} {Q : Option Value → List (Addr × own_Cel) → Prop} (hM : own_Met l Z a0 hb y bytes maxL none [] rm (Value.ref x :: argsL).toArray cs Q) (hf : rm.frames + 1 ≤ R.frames) (hl : W + (maxL + 11) + rm.locals ≤ R.locals) (hc : k + rm.cells ≤ R.cells) (hs : n + rm.slots ≤ R.slots)
    {g : JFrame} (hg : g.method = m) (hsize : g.locals.size = c.maxLocals) (hlen : ∀ sig, parseMethodDescriptor y.desc = some sig → argsL.length = sig.parameters.length) (hst : g.stack = argsL.reverse ++ .ref x :: rest) (hW : 2 * g.monitorRoom + (rest.map fun v => v.category).sum ≤ W) (hd : decode c.code g.pc = .ok (.invokespecial index, 3)) :
    ∃ T' v cs', Q v cs' ∧ own_S p l e R s m args below meth c Z a0 hb T' cs' (k + rm.cells) (n + rm.slots) ∧ ∀ target, Steps p.tables e below (T'.setTop { g with pc := g.pc + 3, stack := v.toList ++ rest }) target → Steps p.tables e below (T.setTop g) target := by
  obtain ⟨locs, X, N, hH⟩ := H
  obtain ⟨v', vm1, ⟨T2, L2, k2, n2⟩, -, X2, ⟨Lc, hQ, l2, y2, z2⟩, st⟩ := X.specialBack hx hy1 hown (mvT hZ w1) (mvT hZ w2) (mvT hZ w4) hy (backOf (W := W) (rm := rm) (Q := fun w H L => Fr hb.size L ∧ ∃ cs', Q w cs' ∧ own_Hp Z a0 hb H cs') (hM _ hH) hZ w4 w3 hf hl) hg hsize (Steps.refl _) hlen hst hW hd (fun _ _ => ⟨rfl, rfl, hc, hs⟩)
  dsimp only [Pt.U, Pt.locs, Pt.cells, Pt.slots] at X2 l2 y2 z2 st hQ
  obtain ⟨N2, cs', hQ', hH'⟩ := hQ
  subst l2 y2 z2
  exact ⟨T2, v', cs', hQ', ⟨_, X2, N.app N2, hH'⟩, fun target q => st.trans q⟩
theorem own_callV (H : own_S p l e R s m args below meth c Z a0 hb T cs k n) (hx : p.tables.exec = Jvm.exec) (hZ : Z.Warmed39 s.vm) {own C : String} {index : Nat} {y : MethodName} {bytes : ByteArray} {maxL : Nat} {ret : Option FieldType} (hown : s.vm.findClass own = some m.cls)
    (w1 : (Jvm.Cond.methodLink own index y).before a0 Z = true) (w2 : (Jvm.Cond.declares y).before a0 Z = true) (w5 : (Jvm.Cond.selects C y y).before a0 Z = true) (w6 : (Jvm.Cond.instanceMethod y).before a0 Z = true) (w3 : (Jvm.Cond.initialized y.cls).before a0 Z = true) (w4 : (Jvm.Cond.code y bytes maxL ret).before a0 Z = true) (hy : y.cls ≠ "java/lang/invoke/MethodHandle" ∧ y.cls ≠ "java/lang/invoke/VarHandle")
    {rm : Room} {W : Nat} {x : Addr} {fs : List (String × String × String × Value)} (i : Nat) (hi : cs[i]? = some (x, own_O C fs)) {argsL rest : List Value} {Q : Option Value → List (Addr × own_Cel) → Prop} (hM : own_Met l Z a0 hb y bytes maxL ret [] rm (Value.ref x :: argsL).toArray cs Q) (hf : rm.frames + 1 ≤ R.frames) (hl : W + (maxL + 11) + rm.locals ≤ R.locals) (hc : k + rm.cells ≤ R.cells) (hs : n + rm.slots ≤ R.slots)
    {g : JFrame} (hg : g.method = m) (hsize : g.locals.size = c.maxLocals) (hlen : ∀ sig, parseMethodDescriptor y.desc = some sig → argsL.length = sig.parameters.length) (hst : g.stack = argsL.reverse ++ .ref x :: rest) (hW : 2 * g.monitorRoom + (rest.map fun v => v.category).sum ≤ W) (hd : decode c.code g.pc = .ok (.invokevirtual index, 3)) :
    ∃ T' v cs', Q v cs' ∧ own_S p l e R s m args below meth c Z a0 hb T' cs' (k + rm.cells) (n + rm.slots) ∧ ∀ target, Steps p.tables e below (T'.setTop { g with pc := g.pc + 3, stack := v.toList ++ rest }) target → Steps p.tables e below (T.setTop g) target := by
  obtain ⟨locs, X, N, hH⟩ := H
  obtain ⟨cq, kq, qa, qb, qc⟩ := isOf hZ rfl (own_get hH hi).1.1
  obtain ⟨v', vm1, ⟨T2, L2, k2, n2⟩, -, X2, ⟨Lc, hQ, l2, y2, z2⟩, st⟩ := X.virtualBack hx hown (mvT hZ w1) (mvT hZ w2) (notFace_of_selects (args := #[]) (mvT hZ w5)) (mvT hZ w5) (mvT hZ w6) hy (backOf (W := W) (rm := rm) (Q := fun w H L => Fr hb.size L ∧ ∃ cs', Q w cs' ∧ own_Hp Z a0 hb H cs') (hM _ hH) hZ w4 w3 hf hl) qa qc hg hsize (Steps.refl _) hlen hst hW hd (fun _ _ => ⟨rfl, rfl, hc, hs⟩)
  dsimp only [Pt.U, Pt.locs, Pt.cells, Pt.slots] at X2 l2 y2 z2 st hQ
  obtain ⟨N2, cs', hQ', hH'⟩ := hQ
  subst l2 y2 z2
  exact ⟨T2, v', cs', hQ', ⟨_, X2, N.app N2, hH'⟩, fun target q => st.trans q⟩
end Calls
theorem own_ACd {Z : State} {h : Heap} {x : Addr} {c : Cell} : own_AC Z h x c .double ↔ Exa Z h x "[D" := by
  show Exa Z h x ("[" ++ FieldType.double.toString) ↔ _
  rw [show "[" ++ FieldType.double.toString = "[D" from by decide]
end OwnHeap
section OwnHeap2
open Jvm.Free Jvm.Stand Jvm.LawKit Jvm.RoadKit
variable {p : Program} {l : Launch} {e : Env} {R : Room} {s : State} {m : MethodId} {args : Array Value} {below : List Frame} {meth : Method} {c : Code} {T : State} {Z : State} {a0 : Array Value} {hb : own_Base} {cs : List (Addr × own_Cel)} {k n : Nat}
/-- a private method, called by invokevirtual -/
theorem own_callPr (H : own_S p l e R s m args below meth c Z a0 hb T cs k n) (hx : p.tables.exec = Jvm.exec) (hZ : Z.Warmed39 s.vm) {own : String} {index nn : Nat} {y : MethodName} {bytes : ByteArray} {maxL : Nat} {ret : Option FieldType} (hown : s.vm.findClass own = some m.cls)
    (w1 : (Jvm.Cond.methodLink own index y).before a0 Z = true) (w2 : (Jvm.Cond.instanceMethod y).before a0 Z = true) (w5 : (Jvm.Cond.privateMethod y).before a0 Z = true) (w6 : (Jvm.Cond.instantiable y.cls nn).before a0 Z = true) (w3 : (Jvm.Cond.initialized y.cls).before a0 Z = true) (w4 : (Jvm.Cond.code y bytes maxL ret).before a0 Z = true) (hy : y.cls ≠ "java/lang/invoke/MethodHandle" ∧ y.cls ≠ "java/lang/invoke/VarHandle")
    {rm : Room} {W : Nat} {x : Addr} {C : String} {fs : List (String × String × String × Value)} (i : Nat) (hi : cs[i]? = some (x, own_O C fs)) {argsL rest : List Value} {Q : Option Value → List (Addr × own_Cel) → Prop} (hM : own_Met l Z a0 hb y bytes maxL ret [] rm (Value.ref x :: argsL).toArray cs Q) (hf : rm.frames + 1 ≤ R.frames) (hl : W + (maxL + 11) + rm.locals ≤ R.locals) (hc : k + rm.cells ≤ R.cells) (hs : n + rm.slots ≤ R.slots)
    {g : JFrame} (hg : g.method = m) (hsize : g.locals.size = c.maxLocals) (hlen : ∀ sig, parseMethodDescriptor y.desc = some sig → argsL.length = sig.parameters.length) (hst : g.stack = argsL.reverse ++ .ref x :: rest) (hW : 2 * g.monitorRoom + (rest.map fun v => v.category).sum ≤ W) (hd : decode c.code g.pc = .ok (.invokevirtual index, 3)) :
    ∃ T' v cs', Q v cs' ∧ own_S p l e R s m args below meth c Z a0 hb T' cs' (k + rm.cells) (n + rm.slots) ∧ ∀ target, Steps p.tables e below (T'.setTop { g with pc := g.pc + 3, stack := v.toList ++ rest }) target → Steps p.tables e below (T.setTop g) target := by
  obtain ⟨locs, X, N, hH⟩ := H
  have hsel : (Jvm.Cond.selects y.cls y y).before a0 Z = true := Jvm.Kit.selects_private hy w6 w5 w2
  obtain ⟨cell, kk, q1, q2, q3, q4, -⟩ := (own_get hH hi).1.1
  obtain ⟨v', vm1, ⟨T2, L2, k2, n2⟩, -, X2, ⟨Lc, hQ, l2, y2, z2⟩, st⟩ := X.privateBack hx hown (mvT hZ w1) (mvT hZ w2) (mvT hZ hsel) (Cond.privateMethod_at (mvP hZ w5 (args := #[]))) (mvT hZ w4) hy (backOf (W := W) (rm := rm) (Q := fun w H L => Fr hb.size L ∧ ∃ cs', Q w cs' ∧ own_Hp Z a0 hb H cs') (hM _ hH) hZ w4 w3 hf hl) hg hsize (Steps.refl _) (a := x) q1 (fun q e => by rw [e] at q4; cases q4) hlen hst hW hd (fun _ _ => ⟨rfl, rfl, hc, hs⟩)
  dsimp only [Pt.U, Pt.locs, Pt.cells, Pt.slots] at X2 l2 y2 z2 st hQ
  obtain ⟨N2, cs', hQ', hH'⟩ := hQ
  subst l2 y2 z2
  exact ⟨T2, v', cs', hQ', ⟨_, X2, N.app N2, hH'⟩, fun target q => st.trans q⟩
/-- Math.abs of a double -/
theorem own_absD (H : own_S p l e R s m args below meth c Z a0 hb T cs k n) (hx : p.tables.exec = Jvm.exec) (hZ : Z.Warmed39 s.vm) {own : String} {index : Nat} (hown : s.vm.findClass own = some m.cls)
    (w1 : (Jvm.Cond.methodLink own index Jvm.Free.Fl.Abs.absDN).before a0 Z = true) (w2 : (Jvm.Cond.static Jvm.Free.Fl.Abs.absDN).before a0 Z = true) (w3 : (Jvm.Cond.initialized "java/lang/Math").before a0 Z = true) (w4 : (Jvm.Cond.code Jvm.Free.Fl.Abs.absDN Jvm.Free.Fl.Abs.absDCode 2 (some .double)).before a0 Z = true)
    {a : UInt64} (ha : Jvm.Free.Fl.NoNaN64 a) {W : Nat} {rest : List Value} (hf : 1 ≤ R.frames) (hl : W + 13 ≤ R.locals) (hc : k ≤ R.cells) (hs : n ≤ R.slots)
    {g : JFrame} (hg : g.method = m) (hsize : g.locals.size = c.maxLocals) (hst : g.stack = .double a :: rest) (hW : 2 * g.monitorRoom + (rest.map fun v => v.category).sum ≤ W) (hd : decode c.code g.pc = .ok (.invokestatic index, 3)) :
    ∃ T', own_S p l e R s m args below meth c Z a0 hb T' cs k n ∧ ∀ target, Steps p.tables e below (T'.setTop { g with pc := g.pc + 3, stack := .double (a &&& 0x7fffffffffffffff) :: rest }) target → Steps p.tables e below (T.setTop g) target := by
  obtain ⟨locs, X, N, hH⟩ := H
  have hpd : parseMethodDescriptor "(D)D" = some ⟨[.double], some .double⟩ := by decide +kernel
  obtain ⟨T', X', e', st⟩ := natS X hx hZ hown w1 w2 w3 w4 (by decide) rfl (F := fun a' => a' = #[.double a] ∧ Jvm.Free.Fl.NoNaN64 a) (fun c4 => Jvm.Free.Fl.Abs.absD_pays (W := W) a c4 hf hl) hg hsize (argsL := [.double a]) (rest := rest) (lenOf hpd rfl) hst hW hd hc hs ⟨rfl, ha⟩ rfl
  exact ⟨T', ⟨locs, X', N, e' ▸ hH⟩, st⟩
end OwnHeap2
/-! literals: 'ldc' of a String in a walk with a heap; the walk goes on over the re-based start -/
section OwnLit
open Jvm.Free Jvm.Stand Jvm.LawKit Jvm.RoadKit
variable {p : Program} {l : Launch} {e : Env} {R : Room} {s : State} {m : MethodId} {args : Array Value} {below : List Frame} {meth : Method} {c : Code} {T : State} {Z : State} {a0 : Array Value} {hb : own_Base} {cs : List (Addr × own_Cel)} {k n : Nat}
theorem own_ldcS (H : own_S p l e R s m args below meth c Z a0 hb T cs k n) (hx : p.tables.exec = Jvm.exec) (hZ : Z.Warmed39 s.vm) {own text : String} {index : Nat} (hown : s.vm.findClass own = some m.cls) (w : (Jvm.Cond.stringLink own index text).before a0 Z = true) (wS : ∀ a ∈ Bundle.stringAtoms, a.before a0 Z = true)
    {g : JFrame} (hg : g.method = m) (hd : decode c.code g.pc = .ok (.ldc index, 2)) {N : Nat} (hn : 4 * text.toList.length ≤ N) (hbig : N ≤ 536870912) (hc : k + 2 ≤ R.cells) (hl : n + (N + 4) ≤ R.slots) :
    ∃ x T', own_S p l e R (s.setVm T'.vm) m args below meth c Z a0 ⟨hb.b, T'.heap.size⟩ T' cs (k + 2) (n + (N + 4)) ∧ s.Since T'.vm T'.heap.size ∧ hb.fl ≤ T'.heap.size ∧ Z.Warmed39 (s.setVm T'.vm).vm ∧ (s.setVm T'.vm).vm.findClass own = some m.cls ∧
      ∀ target, Steps p.tables e below (T'.setTop { g with pc := g.pc + 2, stack := .ref x :: g.stack }) target → Steps p.tables e below (T.setTop g) target := by
  obtain ⟨locs, X, F, hH⟩ := H
  obtain ⟨x, T', X', hS, -, hkeep, -, -, st⟩ := X.ldcColdN hx hown (mvS hZ w) (fun d hd => by
    have q := wS d hd
    simp only [Bundle.stringAtoms, List.mem_cons, List.not_mem_nil, or_false] at hd
    rcases hd with rfl | rfl | rfl | rfl | rfl | rfl | rfl
    · exact mv hZ q
    · exact mv hZ q
    · exact mvA hZ q
    · exact mv hZ q
    · exact mv hZ q
    · exact mv hZ q
    · exact mv hZ q) hg hd hn hbig hc hl
  have hW : Z.Warmed39 T'.vm := State.Warmed39.trans (t := s) hZ hS.1
  have hH' := own_Hp_ext hH (ext_of hkeep)
  exact ⟨x, T', ⟨locs, X', F, ⟨hH'.1.1, Nat.le_refl _⟩, hH'.2⟩, hS, hH'.1.2, hW, by rw [show (s.setVm T'.vm).vm = T'.vm from rfl, hS.1.alike.findClass]; exact hown, st⟩
def own_MetW (l : Launch) (Z : State) (a0 : Array Value) (hb : own_Base) (y : MethodName) (bytes : ByteArray) (maxL : Nat) (ret : Option FieldType) (ws : List Jvm.Cond) (rm : Room) (as' : Array Value) (cs : List (Addr × own_Cel)) (Q : Option Value → List (Addr × own_Cel) → Prop) : Prop :=
  ∀ h, own_Hp Z a0 hb h cs → MetFree l y (head1 (Jvm.Cond.code y bytes maxL ret :: ws) rm) (fun a U => a = as' ∧ Z.Warmed39 U.vm ∧ U.heap = h) (fun _ _ _ _ _ => True) (fun _ U o U' => ∃ w L, o = .returned w ∧ (Fr hb.size L ∧ ∃ cs', Q w cs' ∧ own_Hp Z a0 hb U'.heap cs') ∧ ReturnedEndW U o U' L rm.cells rm.slots)
def own_EndsW (p : Program) (l : Launch) (e : Env) (R : Room) (s : State) (m : MethodId) (args : Array Value) (below : List Frame) (meth : Method) (c : Code) (Z : State) (a0 : Array Value) (hb : own_Base) (bytes : ByteArray) (ret : Option FieldType) (Q : Option Value → List (Addr × own_Cel) → Prop) (T : State) (g : JFrame) : Prop :=
  ∃ vm fl T' cs' k n pc L, s.Since vm fl ∧ hb.fl ≤ fl ∧ own_S p l e R (s.setVm vm) m args below meth c Z a0 ⟨hb.b, fl⟩ T' cs' k n ∧ k ≤ R.cells ∧ n ≤ R.slots ∧
    ((ret = none ∧ Q none cs' ∧ decode bytes pc = .ok (.return_, 1) ∧ ∀ target, Steps p.tables e below (T'.setTop (mkF m pc L [])) target → Steps p.tables e below (T.setTop g) target) ∨
     (∃ t v S i, ret = some t ∧ Q (some v) cs' ∧ decode bytes pc = .ok (i, 1) ∧ own_Ret i t v ∧ ∀ target, Steps p.tables e below (T'.setTop (mkF m pc L (v :: S))) target → Steps p.tables e below (T.setTop g) target))
theorem own_met_ofW {l : Launch} {Z : State} {a0 : Array Value} {hb : own_Base} {y : MethodName} {bytes : ByteArray} {maxL : Nat} {ret : Option FieldType} {ws : List Jvm.Cond} {rm : Room} {as' : Array Value} {cs : List (Addr × own_Cel)} {Q : Option Value → List (Addr × own_Cel) → Prop} {L0 : Array Slot} (hpl : plainFor y = true) (hef : ∀ m, entryFrame m as' maxL = mkF m 0 L0 [])
    (body : ∀ (p : Program) (e : Env) (s : State) (m : MethodId) (below : List Frame) (meth : Method) (c : Code) (T : State), p.tables.exec = Jvm.exec → Z.Warmed39 s.vm → s.vm.findClass y.cls = some m.cls → c.code = bytes → c.maxLocals = maxL → meth.name = y.name → own_S p l e rm s m as' below meth c Z a0 hb T cs 0 0 → own_EndsW p l e rm s m as' below meth c Z a0 hb bytes ret Q T (mkF m 0 L0 [])) :
    own_MetW l Z a0 hb y bytes maxL ret ws rm as' cs Q := by
  intro h hH
  refine MetFree.of_bodySF hpl hisR ?_
  intro p e s m args below meth c s₁ Bd hml0 hPP hK
  obtain ⟨rfl, hZ, hh⟩ := hPP
  have hown : s.vm.findClass y.cls = some m.cls := findClass_of_methodNamed Bd.named
  have hnm := (name_of_methodNamed Bd.named Bd.method).1
  have X0 : Stand p l e rm s m _ below meth c s₁ [] 0 0 := Stand.of_body Bd
  have e0 : s₁.heap = h := by rw [← hh, Bd.state]; rfl
  obtain ⟨vm, fl, T', cs', k, n, pc, L, hS, hfl, ⟨locs, X, N, hH0⟩, hk, hn, hE⟩ := body p e s m below meth c s₁ Bd.exec hZ hown Bd.bytes hml0 hnm ⟨[], X0, Fr.nil _, e0 ▸ hH⟩
  have hk0 : fl ≤ T'.heap.size := hH0.1.2
  have hH' : own_Hp Z a0 hb T'.heap cs' := ⟨⟨hH0.1.1, Nat.le_trans hfl hk0⟩, hH0.2⟩
  rcases hE with ⟨rfl, hQ, hd, st⟩ | ⟨t, v, S, i, rfl, hQ, hd, hr, st⟩
  · obtain ⟨fs, hr', hrun, hended, hW, hsame⟩ := X.leave (v := none) (fun _ => rfl)
    obtain ⟨q1, q2, q3⟩ := hS.ended hW hk0 hsame
    exact ⟨_, _, castTop (hef m) (st _ (X.returnOut Bd.exec Bd.returns (Jvm.hb Bd.bytes hd) hr')), hrun, hended, _, _, rfl, ⟨N, cs', hQ, hH'⟩, ⟨_, rfl⟩, q1, q2, q3.mono hk hn⟩
  · obtain ⟨fs, hr', hrun, hended, hW, hsame⟩ := X.leave (v := some v) (fun h => by rw [Bd.returns] at h; cases h)
    obtain ⟨q1, q2, q3⟩ := hS.ended hW hk0 hsame
    exact ⟨_, _, castTop (hef m) (st _ (retOut X Bd.exec Bd.returns hr.1 hr.2 (Jvm.hb Bd.bytes hd) hr')), hrun, hended, _, _, rfl, ⟨N, cs', hQ, hH'⟩, ⟨_, rfl⟩, q1, q2, q3.mono hk hn⟩
end OwnLit
section OwnCallW
open Jvm.Free Jvm.Stand Jvm.LawKit Jvm.RoadKit
variable {p : Program} {l : Launch} {e : Env} {R : Room} {s : State} {m : MethodId} {args : Array Value} {below : List Frame} {meth : Method} {c : Code} {T : State} {Z : State} {a0 : Array Value} {hb : own_Base} {cs : List (Addr × own_Cel)} {k n : Nat}
theorem own_callIW (H : own_S p l e R s m args below meth c Z a0 hb T cs k n) (hx : p.tables.exec = Jvm.exec) (hZ : Z.Warmed39 s.vm) {own : String} {index : Nat} {y : MethodName} {bytes : ByteArray} {maxL : Nat} (hown : s.vm.findClass own = some m.cls) (hy1 : y.name = "<init>")
    (w1 : (Jvm.Cond.methodLink own index y).before a0 Z = true) (w2 : (Jvm.Cond.instanceMethod y).before a0 Z = true) (w3 : (Jvm.Cond.initialized y.cls).before a0 Z = true) (w4 : (Jvm.Cond.code y bytes maxL none).before a0 Z = true) (hy : y.cls ≠ "java/lang/invoke/MethodHandle" ∧ y.cls ≠ "java/lang/invoke/VarHandle")
    {rm : Room} {W : Nat} {x : Addr} {argsL rest : List Value} {Q : Option Value → List (Addr × own_Cel) → Prop} (hM : own_MetW l Z a0 hb y bytes maxL none [] rm (Value.ref x :: argsL).toArray cs Q) (hf : rm.frames + 1 ≤ R.frames) (hl : W + (maxL + 11) + rm.locals ≤ R.locals) (hc : k + rm.cells ≤ R.cells) (hs : n + rm.slots ≤ R.slots)
    {g : JFrame} (hg : g.method = m) (hsize : g.locals.size = c.maxLocals) (hlen : ∀ sig, parseMethodDescriptor y.desc = some sig → argsL.length = sig.parameters.length) (hst : g.stack = argsL.reverse ++ .ref x :: rest) (hW : 2 * g.monitorRoom + (rest.map fun v => v.category).sum ≤ W) (hd : decode c.code g.pc = .ok (.invokespecial index, 3)) :
    ∃ T' v cs', Q v cs' ∧ own_S p l e R (s.setVm T'.vm) m args below meth c Z a0 ⟨hb.b, T'.heap.size⟩ T' cs' (k + rm.cells) (n + rm.slots) ∧ s.Since T'.vm T'.heap.size ∧ hb.fl ≤ T'.heap.size ∧ Z.Warmed39 (s.setVm T'.vm).vm ∧ (s.setVm T'.vm).vm.findClass own = some m.cls ∧
      ∀ target, Steps p.tables e below (T'.setTop { g with pc := g.pc + 3, stack := v.toList ++ rest }) target → Steps p.tables e below (T.setTop g) target := by
  obtain ⟨locs, X, N, hH⟩ := H
  obtain ⟨v', vm1, ⟨T2, L2, k2, n2⟩, -, X2, hS, -, ⟨Lc, hQ, l2, y2, z2⟩, st⟩ := X.specialBackS hx hy1 hown (mvT hZ w1) (mvT hZ w2) (mvT hZ w4) hy (backOfS (W := W) (rm := rm) (Q := fun w H L => Fr hb.size L ∧ ∃ cs', Q w cs' ∧ own_Hp Z a0 hb H cs') (hM _ hH) hZ w4 w3 hf hl) hg hsize (Steps.refl _) hlen hst hW hd (fun _ _ => ⟨rfl, rfl, hc, hs⟩)
  dsimp only [Pt.U, Pt.locs, Pt.cells, Pt.slots] at X2 l2 y2 z2 st hQ hS
  obtain ⟨N2, cs', hQ', hH'⟩ := hQ
  subst l2 y2 z2
  have hW : Z.Warmed39 T2.vm := State.Warmed39.trans (t := s) hZ hS.1
  exact ⟨T2, v', cs', hQ', ⟨_, X2, N.app N2, ⟨hH'.1.1, Nat.le_refl _⟩, hH'.2⟩, hS, hH'.1.2, hW, by rw [show (s.setVm T2.vm).vm = T2.vm from rfl, hS.1.alike.findClass]; exact hown, fun target q => st.trans q⟩
end OwnCallW
section OwnInts
open Jvm.Free Jvm.Stand Jvm.LawKit Jvm.RoadKit
theorem own_lm {x y : Int64} {a b : Int} {X Y : Nat} (hx : x.toInt = a) (hy : y.toInt = b) (ka : a.natAbs ≤ X) (kb : b.natAbs ≤ Y) (h : X * Y < 9223372036854775808) : (x * y).toInt = a * b := by
  have h1 := c_lmul x y
  have h2 := rng64 (x * y)
  have h3 := own_nb ka kb
  rw [hx, hy] at h1
  generalize a * b = w at *
  generalize X * Y = W at *
  omega
theorem own_la {x y : Int64} {a b : Int} (hx : x.toInt = a) (hy : y.toInt = b) (h1 : a + b ≤ 9223372036854775807) (h2 : -9223372036854775808 ≤ a + b) : (x + y).toInt = a + b := by
  have q1 := c_ladd x y
  have q2 := rng64 (x + y)
  rw [hx, hy] at q1
  omega
theorem own_lsb {x y : Int64} {a b : Int} (hx : x.toInt = a) (hy : y.toInt = b) (h1 : a - b ≤ 9223372036854775807) (h2 : -9223372036854775808 ≤ a - b) : (x - y).toInt = a - b := by
  have q1 := c_lsub x y
  have q2 := rng64 (x - y)
  rw [hx, hy] at q1
  omega
theorem own_feq {a b c d : Int} (hb : b ≠ 0) (hd : d ≠ 0) (h : a * d = c * b) : (a : Rat) / (b : Rat) = (c : Rat) / (d : Rat) := by
  have hb' : (b : Rat) ≠ 0 := by rw [Ne, Rat.intCast_eq_zero_iff]; exact hb
  have hd' : (d : Rat) ≠ 0 := by rw [Ne, Rat.intCast_eq_zero_iff]; exact hd
  have h' : (a : Rat) * (d : Rat) = (c : Rat) * (b : Rat) := by rw [← Rat.intCast_mul, ← Rat.intCast_mul, h]
  refine own_cancel hb' (own_cancel hd' ?_)
  rw [Rat.div_mul_cancel hb', h', Rat.mul_assoc, Rat.mul_comm (b : Rat), ← Rat.mul_assoc, Rat.div_mul_cancel hd']
end OwnInts
section OwnClaim
open Jvm.Free.Fl
def own_K0 : List (Nat × Value) := [(7, .int 65535), (8, .double 4625196817309499392), (16, .int 33554431)]
theorem own_K0_ok : ∀ q ∈ own_K0, ∃ w ∈ tables_1, own_Word "com/example/tidewise/tidewise/model/SpeedProfileFunctionUpperBoundPinLaw" q.1 q.2 w := by
  intro q hq
  simp only [own_K0, List.mem_cons, List.not_mem_nil, or_false] at hq
  rcases hq with rfl | rfl | rfl
  · exact ⟨_, List.mem_of_getElem? (i := 4) rfl, rfl⟩
  · exact ⟨_, List.mem_of_getElem? (i := 5) rfl, rfl⟩
  · exact ⟨_, List.mem_of_getElem? (i := 6) rfl, rfl⟩
theorem own_pn0 : plainName "com/example/tidewise/tidewise/model/SpeedProfileFunctionUpperBoundPinLaw" = true := by first | (simp [plainName, overriddenIn]; done) | decide +kernel
theorem d1_0 : decode method_2_code 0 = .ok (.iconst 1, 1) := by decide +kernel
theorem d1_1 : decode method_2_code 1 = .ok (.iload_n 0, 1) := by decide +kernel
theorem d1_2 : decode method_2_code 2 = .ok (.ldc 7, 2) := by decide +kernel
theorem d1_4 : decode method_2_code 4 = .ok (.iand, 1) := by decide +kernel
theorem d1_5 : decode method_2_code 5 = .ok (.iadd, 1) := by decide +kernel
theorem d1_6 : decode method_2_code 6 = .ok (.i2d, 1) := by decide +kernel
theorem d1_7 : decode method_2_code 7 = .ok (.ldc2_w 8, 3) := by decide +kernel
theorem d1_10 : decode method_2_code 10 = .ok (.ddiv, 1) := by decide +kernel
theorem d1_11 : decode method_2_code 11 = .ok (.dreturn, 1) := by decide +kernel
def own_K1 : List (Nat × Value) := [(7, .int 65535), (8, .double 4625196817309499392), (16, .int 33554431)]
theorem own_K1_ok : ∀ q ∈ own_K1, ∃ w ∈ tables_1, own_Word "com/example/tidewise/tidewise/model/SpeedProfileFunctionUpperBoundPinLaw" q.1 q.2 w := by
  intro q hq
  simp only [own_K1, List.mem_cons, List.not_mem_nil, or_false] at hq
  rcases hq with rfl | rfl | rfl
  · exact ⟨_, List.mem_of_getElem? (i := 4) rfl, rfl⟩
  · exact ⟨_, List.mem_of_getElem? (i := 5) rfl, rfl⟩
  · exact ⟨_, List.mem_of_getElem? (i := 6) rfl, rfl⟩
theorem own_pn1 : plainName "com/example/tidewise/tidewise/model/SpeedProfileFunctionUpperBoundPinLaw" = true := by first | (simp [plainName, overriddenIn]; done) | decide +kernel
theorem d2_0 : decode prog_70_method_1_code 0 = .ok (.aload_n 0, 1) := by decide +kernel
theorem d2_1 : decode prog_70_method_1_code 1 = .ok (.aload_n 1, 1) := by decide +kernel
theorem d2_2 : decode prog_70_method_1_code 2 = .ok (.invokevirtual 3, 3) := by decide +kernel
theorem d2_5 : decode prog_70_method_1_code 5 = .ok (.checkcast 4, 3) := by decide +kernel
theorem d2_8 : decode prog_70_method_1_code 8 = .ok (.iconst 0, 1) := by decide +kernel
theorem d2_9 : decode prog_70_method_1_code 9 = .ok (.aload_n 1, 1) := by decide +kernel
theorem d2_10 : decode prog_70_method_1_code 10 = .ok (.arraylength, 1) := by decide +kernel
theorem d2_11 : decode prog_70_method_1_code 11 = .ok (.invokespecial 9, 3) := by decide +kernel
theorem d2_14 : decode prog_70_method_1_code 14 = .ok (.return_, 1) := by decide +kernel
def own_K2 : List (Nat × Value) := [(20, .int 86400), (46, .double 9218868437227405312), (48, .double 4583663620745971485)]
theorem own_K2_ok : ∀ q ∈ own_K2, ∃ w ∈ tables_1, own_Word "com/example/tidewise/tidewise/model/SpeedProfile" q.1 q.2 w := by
  intro q hq
  simp only [own_K2, List.mem_cons, List.not_mem_nil, or_false] at hq
  rcases hq with rfl | rfl | rfl
  · exact ⟨_, List.mem_of_getElem? (i := 29) rfl, rfl⟩
  · exact ⟨_, List.mem_of_getElem? (i := 38) rfl, rfl⟩
  · exact ⟨_, List.mem_of_getElem? (i := 39) rfl, rfl⟩
theorem own_pn2 : plainName "com/example/tidewise/tidewise/model/SpeedProfile" = true := by first | (simp [plainName, overriddenIn]; done) | decide +kernel
theorem d3_0 : decode prog_70_method_2_code 0 = .ok (.aload_n 0, 1) := by decide +kernel
theorem d3_1 : decode prog_70_method_2_code 1 = .ok (.invokespecial 13, 3) := by decide +kernel
theorem d3_4 : decode prog_70_method_2_code 4 = .ok (.iload_n 3, 1) := by decide +kernel
theorem d3_5 : decode prog_70_method_2_code 5 = .ok (.ifCond .eq 10, 3) := by decide +kernel
theorem d3_8 : decode prog_70_method_2_code 8 = .ok (.ldc 20, 2) := by decide +kernel
theorem d3_10 : decode prog_70_method_2_code 10 = .ok (.iload_n 3, 1) := by decide +kernel
theorem d3_11 : decode prog_70_method_2_code 11 = .ok (.irem, 1) := by decide +kernel
theorem d3_12 : decode prog_70_method_2_code 12 = .ok (.ifCond .eq 17, 3) := by decide +kernel
theorem d3_15 : decode prog_70_method_2_code 15 = .ok (.new 21, 3) := by decide +kernel
theorem d3_18 : decode prog_70_method_2_code 18 = .ok (.dup, 1) := by decide +kernel
theorem d3_19 : decode prog_70_method_2_code 19 = .ok (.iload_n 3, 1) := by decide +kernel
theorem d3_25 : decode prog_70_method_2_code 25 = .ok (.invokespecial 27, 3) := by decide +kernel
theorem d3_28 : decode prog_70_method_2_code 28 = .ok (.athrow, 1) := by decide +kernel
theorem d3_29 : decode prog_70_method_2_code 29 = .ok (.aload_n 0, 1) := by decide +kernel
theorem d3_30 : decode prog_70_method_2_code 30 = .ok (.aload_n 1, 1) := by decide +kernel
theorem d3_31 : decode prog_70_method_2_code 31 = .ok (.putfield 30, 3) := by decide +kernel
theorem d3_34 : decode prog_70_method_2_code 34 = .ok (.aload_n 0, 1) := by decide +kernel
theorem d3_35 : decode prog_70_method_2_code 35 = .ok (.iload_n 2, 1) := by decide +kernel
theorem d3_36 : decode prog_70_method_2_code 36 = .ok (.putfield 33, 3) := by decide +kernel
theorem d3_39 : decode prog_70_method_2_code 39 = .ok (.aload_n 0, 1) := by decide +kernel
theorem d3_40 : decode prog_70_method_2_code 40 = .ok (.iload_n 3, 1) := by decide +kernel
theorem d3_41 : decode prog_70_method_2_code 41 = .ok (.putfield 37, 3) := by decide +kernel
theorem d3_44 : decode prog_70_method_2_code 44 = .ok (.aload_n 0, 1) := by decide +kernel
theorem d3_45 : decode prog_70_method_2_code 45 = .ok (.ldc 20, 2) := by decide +kernel
theorem d3_47 : decode prog_70_method_2_code 47 = .ok (.iload_n 3, 1) := by decide +kernel
theorem d3_48 : decode prog_70_method_2_code 48 = .ok (.idiv, 1) := by decide +kernel
theorem d3_49 : decode prog_70_method_2_code 49 = .ok (.i2d, 1) := by decide +kernel
theorem d3_50 : decode prog_70_method_2_code 50 = .ok (.putfield 40, 3) := by decide +kernel
theorem d3_53 : decode prog_70_method_2_code 53 = .ok (.dconst 0, 1) := by decide +kernel
theorem d3_54 : decode prog_70_method_2_code 54 = .ok (.dstore 4, 2) := by decide +kernel
theorem d3_56 : decode prog_70_method_2_code 56 = .ok (.ldc2_w 46, 3) := by decide +kernel
theorem d3_59 : decode prog_70_method_2_code 59 = .ok (.dstore 6, 2) := by decide +kernel
theorem d3_61 : decode prog_70_method_2_code 61 = .ok (.dconst 0, 1) := by decide +kernel
theorem d3_62 : decode prog_70_method_2_code 62 = .ok (.dstore 8, 2) := by decide +kernel
theorem d3_64 : decode prog_70_method_2_code 64 = .ok (.iconst 0, 1) := by decide +kernel
theorem d3_65 : decode prog_70_method_2_code 65 = .ok (.istore 10, 2) := by decide +kernel
theorem d3_67 : decode prog_70_method_2_code 67 = .ok (.iload 10, 2) := by decide +kernel
theorem d3_69 : decode prog_70_method_2_code 69 = .ok (.iload_n 3, 1) := by decide +kernel
theorem d3_70 : decode prog_70_method_2_code 70 = .ok (.if_icmp .ge 89, 3) := by decide +kernel
theorem d3_73 : decode prog_70_method_2_code 73 = .ok (.aload_n 1, 1) := by decide +kernel
theorem d3_74 : decode prog_70_method_2_code 74 = .ok (.iload_n 2, 1) := by decide +kernel
theorem d3_75 : decode prog_70_method_2_code 75 = .ok (.iload 10, 2) := by decide +kernel
theorem d3_77 : decode prog_70_method_2_code 77 = .ok (.iadd, 1) := by decide +kernel
theorem d3_78 : decode prog_70_method_2_code 78 = .ok (.daload, 1) := by decide +kernel
theorem d3_79 : decode prog_70_method_2_code 79 = .ok (.dstore 11, 2) := by decide +kernel
theorem d3_81 : decode prog_70_method_2_code 81 = .ok (.dload 11, 2) := by decide +kernel
theorem d3_83 : decode prog_70_method_2_code 83 = .ok (.ldc2_w 48, 3) := by decide +kernel
theorem d3_86 : decode prog_70_method_2_code 86 = .ok (.dcmp .l, 1) := by decide +kernel
theorem d3_87 : decode prog_70_method_2_code 87 = .ok (.ifCond .lt 12, 3) := by decide +kernel
theorem d3_90 : decode prog_70_method_2_code 90 = .ok (.dload 11, 2) := by decide +kernel
theorem d3_92 : decode prog_70_method_2_code 92 = .ok (.ldc2_w 46, 3) := by decide +kernel
theorem d3_95 : decode prog_70_method_2_code 95 = .ok (.dcmp .l, 1) := by decide +kernel
theorem d3_96 : decode prog_70_method_2_code 96 = .ok (.ifCond .ne 11, 3) := by decide +kernel
theorem d3_99 : decode prog_70_method_2_code 99 = .ok (.dload 11, 2) := by decide +kernel
theorem d3_101 : decode prog_70_method_2_code 101 = .ok (.iload 10, 2) := by decide +kernel
theorem d3_103 : decode prog_70_method_2_code 103 = .ok (.invokestatic 50, 3) := by decide +kernel
theorem d3_106 : decode prog_70_method_2_code 106 = .ok (.athrow, 1) := by decide +kernel
theorem d3_107 : decode prog_70_method_2_code 107 = .ok (.dload 4, 2) := by decide +kernel
theorem d3_109 : decode prog_70_method_2_code 109 = .ok (.dload 11, 2) := by decide +kernel
theorem d3_111 : decode prog_70_method_2_code 111 = .ok (.aload_n 0, 1) := by decide +kernel
theorem d3_112 : decode prog_70_method_2_code 112 = .ok (.getfield 40, 3) := by decide +kernel
theorem d3_115 : decode prog_70_method_2_code 115 = .ok (.dmul, 1) := by decide +kernel
theorem d3_116 : decode prog_70_method_2_code 116 = .ok (.dadd, 1) := by decide +kernel
theorem d3_117 : decode prog_70_method_2_code 117 = .ok (.dstore 4, 2) := by decide +kernel
theorem d3_119 : decode prog_70_method_2_code 119 = .ok (.dload 11, 2) := by decide +kernel
theorem d3_121 : decode prog_70_method_2_code 121 = .ok (.dload 6, 2) := by decide +kernel
theorem d3_123 : decode prog_70_method_2_code 123 = .ok (.dcmp .g, 1) := by decide +kernel
theorem d3_124 : decode prog_70_method_2_code 124 = .ok (.ifCond .ge 8, 3) := by decide +kernel
theorem d3_127 : decode prog_70_method_2_code 127 = .ok (.dload 11, 2) := by decide +kernel
theorem d3_129 : decode prog_70_method_2_code 129 = .ok (.goto 5, 3) := by decide +kernel
theorem d3_132 : decode prog_70_method_2_code 132 = .ok (.dload 6, 2) := by decide +kernel
theorem d3_134 : decode prog_70_method_2_code 134 = .ok (.dstore 6, 2) := by decide +kernel
theorem d3_136 : decode prog_70_method_2_code 136 = .ok (.dload 11, 2) := by decide +kernel
theorem d3_138 : decode prog_70_method_2_code 138 = .ok (.dload 8, 2) := by decide +kernel
theorem d3_140 : decode prog_70_method_2_code 140 = .ok (.dcmp .l, 1) := by decide +kernel
theorem d3_141 : decode prog_70_method_2_code 141 = .ok (.ifCond .le 8, 3) := by decide +kernel
theorem d3_144 : decode prog_70_method_2_code 144 = .ok (.dload 11, 2) := by decide +kernel
theorem d3_146 : decode prog_70_method_2_code 146 = .ok (.goto 5, 3) := by decide +kernel
theorem d3_149 : decode prog_70_method_2_code 149 = .ok (.dload 8, 2) := by decide +kernel
theorem d3_151 : decode prog_70_method_2_code 151 = .ok (.dstore 8, 2) := by decide +kernel
theorem d3_153 : decode prog_70_method_2_code 153 = .ok (.iinc 10 1, 3) := by decide +kernel
theorem d3_156 : decode prog_70_method_2_code 156 = .ok (.goto (-89), 3) := by decide +kernel
theorem d3_159 : decode prog_70_method_2_code 159 = .ok (.aload_n 0, 1) := by decide +kernel
theorem d3_160 : decode prog_70_method_2_code 160 = .ok (.dload 4, 2) := by decide +kernel
theorem d3_162 : decode prog_70_method_2_code 162 = .ok (.putfield 54, 3) := by decide +kernel
theorem d3_165 : decode prog_70_method_2_code 165 = .ok (.aload_n 0, 1) := by decide +kernel
theorem d3_166 : decode prog_70_method_2_code 166 = .ok (.dload 6, 2) := by decide +kernel
theorem d3_168 : decode prog_70_method_2_code 168 = .ok (.putfield 57, 3) := by decide +kernel
theorem d3_171 : decode prog_70_method_2_code 171 = .ok (.aload_n 0, 1) := by decide +kernel
theorem d3_172 : decode prog_70_method_2_code 172 = .ok (.dload 8, 2) := by decide +kernel
theorem d3_174 : decode prog_70_method_2_code 174 = .ok (.putfield 60, 3) := by decide +kernel
theorem d3_177 : decode prog_70_method_2_code 177 = .ok (.return_, 1) := by decide +kernel
def own_K3 : List (Nat × Value) := [(20, .int 86400), (46, .double 9218868437227405312), (48, .double 4583663620745971485)]
theorem own_K3_ok : ∀ q ∈ own_K3, ∃ w ∈ tables_1, own_Word "com/example/tidewise/tidewise/model/SpeedProfile" q.1 q.2 w := by
  intro q hq
  simp only [own_K3, List.mem_cons, List.not_mem_nil, or_false] at hq
  rcases hq with rfl | rfl | rfl
  · exact ⟨_, List.mem_of_getElem? (i := 29) rfl, rfl⟩
  · exact ⟨_, List.mem_of_getElem? (i := 38) rfl, rfl⟩
  · exact ⟨_, List.mem_of_getElem? (i := 39) rfl, rfl⟩
theorem own_pn3 : plainName "com/example/tidewise/tidewise/model/SpeedProfile" = true := by first | (simp [plainName, overriddenIn]; done) | decide +kernel
theorem d5_0 : decode prog_72_method_1_code 0 = .ok (.aload_n 0, 1) := by decide +kernel
theorem d5_1 : decode prog_72_method_1_code 1 = .ok (.invokespecial 1, 3) := by decide +kernel
theorem d5_4 : decode prog_72_method_1_code 4 = .ok (.dload_n 1, 1) := by decide +kernel
theorem d5_5 : decode prog_72_method_1_code 5 = .ok (.dconst 0, 1) := by decide +kernel
theorem d5_6 : decode prog_72_method_1_code 6 = .ok (.dcmp .l, 1) := by decide +kernel
theorem d5_7 : decode prog_72_method_1_code 7 = .ok (.ifCond .lt 10, 3) := by decide +kernel
theorem d5_10 : decode prog_72_method_1_code 10 = .ok (.dload_n 1, 1) := by decide +kernel
theorem d5_11 : decode prog_72_method_1_code 11 = .ok (.invokestatic 7, 3) := by decide +kernel
theorem d5_14 : decode prog_72_method_1_code 14 = .ok (.ifCond .eq 17, 3) := by decide +kernel
theorem d5_17 : decode prog_72_method_1_code 17 = .ok (.new 13, 3) := by decide +kernel
theorem d5_20 : decode prog_72_method_1_code 20 = .ok (.dup, 1) := by decide +kernel
theorem d5_21 : decode prog_72_method_1_code 21 = .ok (.dload_n 1, 1) := by decide +kernel
theorem d5_27 : decode prog_72_method_1_code 27 = .ok (.invokespecial 19, 3) := by decide +kernel
theorem d5_30 : decode prog_72_method_1_code 30 = .ok (.athrow, 1) := by decide +kernel
theorem d5_31 : decode prog_72_method_1_code 31 = .ok (.aload_n 3, 1) := by decide +kernel
theorem d5_32 : decode prog_72_method_1_code 32 = .ok (.ldc 22, 2) := by decide +kernel
theorem d5_34 : decode prog_72_method_1_code 34 = .ok (.invokestatic 24, 3) := by decide +kernel
theorem d5_37 : decode prog_72_method_1_code 37 = .ok (.pop, 1) := by decide +kernel
theorem d5_38 : decode prog_72_method_1_code 38 = .ok (.dload_n 1, 1) := by decide +kernel
theorem d5_39 : decode prog_72_method_1_code 39 = .ok (.aload_n 3, 1) := by decide +kernel
theorem d5_40 : decode prog_72_method_1_code 40 = .ok (.invokevirtual 30, 3) := by decide +kernel
theorem d5_43 : decode prog_72_method_1_code 43 = .ok (.ddiv, 1) := by decide +kernel
theorem d5_44 : decode prog_72_method_1_code 44 = .ok (.dstore 4, 2) := by decide +kernel
theorem d5_46 : decode prog_72_method_1_code 46 = .ok (.dload 4, 2) := by decide +kernel
theorem d5_48 : decode prog_72_method_1_code 48 = .ok (.ldc2_w 38, 3) := by decide +kernel
theorem d5_51 : decode prog_72_method_1_code 51 = .ok (.dcmp .l, 1) := by decide +kernel
theorem d5_52 : decode prog_72_method_1_code 52 = .ok (.ifCond .le 23, 3) := by decide +kernel
theorem d5_55 : decode prog_72_method_1_code 55 = .ok (.new 13, 3) := by decide +kernel
theorem d5_58 : decode prog_72_method_1_code 58 = .ok (.dup, 1) := by decide +kernel
theorem d5_59 : decode prog_72_method_1_code 59 = .ok (.dload_n 1, 1) := by decide +kernel
theorem d5_60 : decode prog_72_method_1_code 60 = .ok (.dload 4, 2) := by decide +kernel
theorem d5_62 : decode prog_72_method_1_code 62 = .ok (.aload_n 3, 1) := by decide +kernel
theorem d5_63 : decode prog_72_method_1_code 63 = .ok (.invokevirtual 30, 3) := by decide +kernel
theorem d5_71 : decode prog_72_method_1_code 71 = .ok (.invokespecial 19, 3) := by decide +kernel
theorem d5_74 : decode prog_72_method_1_code 74 = .ok (.athrow, 1) := by decide +kernel
theorem d5_75 : decode prog_72_method_1_code 75 = .ok (.aload_n 0, 1) := by decide +kernel
theorem d5_76 : decode prog_72_method_1_code 76 = .ok (.dload_n 1, 1) := by decide +kernel
theorem d5_77 : decode prog_72_method_1_code 77 = .ok (.putfield 43, 3) := by decide +kernel
theorem d5_80 : decode prog_72_method_1_code 80 = .ok (.aload_n 0, 1) := by decide +kernel
theorem d5_81 : decode prog_72_method_1_code 81 = .ok (.aload_n 3, 1) := by decide +kernel
theorem d5_82 : decode prog_72_method_1_code 82 = .ok (.putfield 49, 3) := by decide +kernel
theorem d5_85 : decode prog_72_method_1_code 85 = .ok (.return_, 1) := by decide +kernel
def own_K5 : List (Nat × Value) := [(38, .double 4741671816366391296)]
theorem own_K5_ok : ∀ q ∈ own_K5, ∃ w ∈ tables_1, own_Word "com/example/tidewise/tidewise/model/SpeedProfileFunction" q.1 q.2 w := by
  intro q hq
  simp only [own_K5, List.mem_cons, List.not_mem_nil, or_false] at hq
  rcases hq with rfl
  · exact ⟨_, List.mem_of_getElem? (i := 84) rfl, rfl⟩
theorem own_pn5 : plainName "com/example/tidewise/tidewise/model/SpeedProfileFunction" = true := by first | (simp [plainName, overriddenIn]; done) | decide +kernel
theorem d6_0 : decode jdk_30_method_1_code 0 = .ok (.aload_n 0, 1) := by decide +kernel
theorem d6_1 : decode jdk_30_method_1_code 1 = .ok (.invokespecial 1, 3) := by decide +kernel
theorem d6_4 : decode jdk_30_method_1_code 4 = .ok (.return_, 1) := by decide +kernel
def own_K6 : List (Nat × Value) := []
theorem own_K6_ok : ∀ q ∈ own_K6, ∃ w ∈ tables_1, own_Word "java/lang/Record" q.1 q.2 w := by
  intro q hq
  exact absurd hq (List.not_mem_nil)
theorem own_pn6 : plainName "java/lang/Record" = true := by first | (simp [plainName, overriddenIn]; done) | decide +kernel
theorem d7_0 : decode jdk_117_method_7_code 0 = .ok (.dload_n 0, 1) := by decide +kernel
theorem d7_1 : decode jdk_117_method_7_code 1 = .ok (.invokestatic 38, 3) := by decide +kernel
theorem d7_4 : decode jdk_117_method_7_code 4 = .ok (.ldc2_w 111, 3) := by decide +kernel
theorem d7_7 : decode jdk_117_method_7_code 7 = .ok (.dcmp .l, 1) := by decide +kernel
theorem d7_8 : decode jdk_117_method_7_code 8 = .ok (.ifCond .le 7, 3) := by decide +kernel
theorem d7_11 : decode jdk_117_method_7_code 11 = .ok (.iconst 1, 1) := by decide +kernel
theorem d7_12 : decode jdk_117_method_7_code 12 = .ok (.goto 4, 3) := by decide +kernel
theorem d7_15 : decode jdk_117_method_7_code 15 = .ok (.iconst 0, 1) := by decide +kernel
theorem d7_16 : decode jdk_117_method_7_code 16 = .ok (.ireturn, 1) := by decide +kernel
def own_K7 : List (Nat × Value) := [(111, .double 9218868437227405311)]
theorem own_K7_ok : ∀ q ∈ own_K7, ∃ w ∈ tables_1, own_Word "java/lang/Double" q.1 q.2 w := by
  intro q hq
  simp only [own_K7, List.mem_cons, List.not_mem_nil, or_false] at hq
  rcases hq with rfl
  · exact ⟨_, List.mem_of_getElem? (i := 66) rfl, rfl⟩
theorem own_pn7 : plainName "java/lang/Double" = true := by first | (simp [plainName, overriddenIn]; done) | decide +kernel
theorem d9_0 : decode jdk_31_method_11_code 0 = .ok (.aload_n 0, 1) := by decide +kernel
theorem d9_1 : decode jdk_31_method_11_code 1 = .ok (.ifnonnull 12, 3) := by decide +kernel
theorem d9_4 : decode jdk_31_method_11_code 4 = .ok (.new 84, 3) := by decide +kernel
theorem d9_7 : decode jdk_31_method_11_code 7 = .ok (.dup, 1) := by decide +kernel
theorem d9_8 : decode jdk_31_method_11_code 8 = .ok (.aload_n 1, 1) := by decide +kernel
theorem d9_9 : decode jdk_31_method_11_code 9 = .ok (.invokespecial 87, 3) := by decide +kernel
theorem d9_12 : decode jdk_31_method_11_code 12 = .ok (.athrow, 1) := by decide +kernel
theorem d9_13 : decode jdk_31_method_11_code 13 = .ok (.aload_n 0, 1) := by decide +kernel
theorem d9_14 : decode jdk_31_method_11_code 14 = .ok (.areturn, 1) := by decide +kernel
def own_K9 : List (Nat × Value) := []
theorem own_K9_ok : ∀ q ∈ own_K9, ∃ w ∈ tables_1, own_Word "java/util/Objects" q.1 q.2 w := by
  intro q hq
  exact absurd hq (List.not_mem_nil)
theorem own_pn9 : plainName "java/util/Objects" = true := by first | (simp [plainName, overriddenIn]; done) | decide +kernel
theorem d10_0 : decode prog_70_method_6_code 0 = .ok (.aload_n 0, 1) := by decide +kernel
theorem d10_1 : decode prog_70_method_6_code 1 = .ok (.getfield 57, 3) := by decide +kernel
theorem d10_4 : decode prog_70_method_6_code 4 = .ok (.dreturn, 1) := by decide +kernel
def own_K10 : List (Nat × Value) := [(20, .int 86400), (46, .double 9218868437227405312), (48, .double 4583663620745971485)]
theorem own_K10_ok : ∀ q ∈ own_K10, ∃ w ∈ tables_1, own_Word "com/example/tidewise/tidewise/model/SpeedProfile" q.1 q.2 w := by
  intro q hq
  simp only [own_K10, List.mem_cons, List.not_mem_nil, or_false] at hq
  rcases hq with rfl | rfl | rfl
  · exact ⟨_, List.mem_of_getElem? (i := 29) rfl, rfl⟩
  · exact ⟨_, List.mem_of_getElem? (i := 38) rfl, rfl⟩
  · exact ⟨_, List.mem_of_getElem? (i := 39) rfl, rfl⟩
theorem own_pn10 : plainName "com/example/tidewise/tidewise/model/SpeedProfile" = true := by first | (simp [plainName, overriddenIn]; done) | decide +kernel
theorem d11_0 : decode method_3_code 0 = .ok (.dload_n 0, 1) := by decide +kernel
theorem d11_1 : decode method_3_code 1 = .ok (.dstore 6, 2) := by decide +kernel
theorem d11_3 : decode method_3_code 3 = .ok (.dload_n 2, 1) := by decide +kernel
theorem d11_4 : decode method_3_code 4 = .ok (.dload 6, 2) := by decide +kernel
theorem d11_6 : decode method_3_code 6 = .ok (.dcmp .g, 1) := by decide +kernel
theorem d11_7 : decode method_3_code 7 = .ok (.ifCond .ge 6, 3) := by decide +kernel
theorem d11_10 : decode method_3_code 10 = .ok (.dload_n 2, 1) := by decide +kernel
theorem d11_11 : decode method_3_code 11 = .ok (.dstore 6, 2) := by decide +kernel
theorem d11_13 : decode method_3_code 13 = .ok (.dload 4, 2) := by decide +kernel
theorem d11_15 : decode method_3_code 15 = .ok (.dload 6, 2) := by decide +kernel
theorem d11_17 : decode method_3_code 17 = .ok (.dcmp .g, 1) := by decide +kernel
theorem d11_18 : decode method_3_code 18 = .ok (.ifCond .ge 7, 3) := by decide +kernel
theorem d11_21 : decode method_3_code 21 = .ok (.dload 4, 2) := by decide +kernel
theorem d11_23 : decode method_3_code 23 = .ok (.dstore 6, 2) := by decide +kernel
theorem d11_25 : decode method_3_code 25 = .ok (.dload 6, 2) := by decide +kernel
theorem d11_27 : decode method_3_code 27 = .ok (.dreturn, 1) := by decide +kernel
def own_K11 : List (Nat × Value) := [(7, .int 65535), (8, .double 4625196817309499392), (16, .int 33554431)]
theorem own_K11_ok : ∀ q ∈ own_K11, ∃ w ∈ tables_1, own_Word "com/example/tidewise/tidewise/model/SpeedProfileFunctionUpperBoundPinLaw" q.1 q.2 w := by
  intro q hq
  simp only [own_K11, List.mem_cons, List.not_mem_nil, or_false] at hq
  rcases hq with rfl | rfl | rfl
  · exact ⟨_, List.mem_of_getElem? (i := 4) rfl, rfl⟩
  · exact ⟨_, List.mem_of_getElem? (i := 5) rfl, rfl⟩
  · exact ⟨_, List.mem_of_getElem? (i := 6) rfl, rfl⟩
theorem own_pn11 : plainName "com/example/tidewise/tidewise/model/SpeedProfileFunctionUpperBoundPinLaw" = true := by first | (simp [plainName, overriddenIn]; done) | decide +kernel
theorem d12_0 : decode prog_72_method_5_code 0 = .ok (.aload_n 0, 1) := by decide +kernel
theorem d12_1 : decode prog_72_method_5_code 1 = .ok (.getfield 43, 3) := by decide +kernel
theorem d12_4 : decode prog_72_method_5_code 4 = .ok (.aload_n 0, 1) := by decide +kernel
theorem d12_5 : decode prog_72_method_5_code 5 = .ok (.getfield 49, 3) := by decide +kernel
theorem d12_8 : decode prog_72_method_5_code 8 = .ok (.invokevirtual 30, 3) := by decide +kernel
theorem d12_11 : decode prog_72_method_5_code 11 = .ok (.ddiv, 1) := by decide +kernel
theorem d12_12 : decode prog_72_method_5_code 12 = .ok (.dreturn, 1) := by decide +kernel
def own_K12 : List (Nat × Value) := [(38, .double 4741671816366391296)]
theorem own_K12_ok : ∀ q ∈ own_K12, ∃ w ∈ tables_1, own_Word "com/example/tidewise/tidewise/model/SpeedProfileFunction" q.1 q.2 w := by
  intro q hq
  simp only [own_K12, List.mem_cons, List.not_mem_nil, or_false] at hq
  rcases hq with rfl
  · exact ⟨_, List.mem_of_getElem? (i := 84) rfl, rfl⟩
theorem own_pn12 : plainName "com/example/tidewise/tidewise/model/SpeedProfileFunction" = true := by first | (simp [plainName, overriddenIn]; done) | decide +kernel
theorem own_pd0 : parseMethodDescriptor "()D" = some ⟨[], some .double⟩ := by decide +kernel
theorem own_pd1 : parseMethodDescriptor "()V" = some ⟨[], none⟩ := by decide +kernel
theorem own_pd2 : parseMethodDescriptor "(D)D" = some ⟨[.double], some .double⟩ := by decide +kernel
theorem own_pd3 : parseMethodDescriptor "(D)Z" = some ⟨[.double], some .boolean⟩ := by decide +kernel
theorem own_pd4 : parseMethodDescriptor "(DDD)D" = some ⟨[.double, .double, .double], some .double⟩ := by decide +kernel
theorem own_pd5 : parseMethodDescriptor "(DLcom/example/tidewise/tidewise/model/SpeedProfile;)V" = some ⟨[.double, (.object "com/example/tidewise/tidewise/model/SpeedProfile")], none⟩ := by decide +kernel
theorem own_pd6 : parseMethodDescriptor "(I)D" = some ⟨[.int], some .double⟩ := by decide +kernel
theorem own_pd7 : parseMethodDescriptor "(Ljava/lang/Object;Ljava/lang/String;)Ljava/lang/Object;" = some ⟨[(.object "java/lang/Object"), (.object "java/lang/String")], some (.object "java/lang/Object")⟩ := by decide +kernel
theorem own_pd8 : parseMethodDescriptor "([D)V" = some ⟨[(.array .double)], none⟩ := by decide +kernel
theorem own_pd9 : parseMethodDescriptor "([DII)V" = some ⟨[(.array .double), .int, .int], none⟩ := by decide +kernel
theorem own_strAtoms {a0 : Array Value} {Z : State} (hw : ∀ d ∈ tables_1, d.before a0 Z = true) : ∀ a ∈ Bundle.stringAtoms, a.before a0 Z = true := by
  intro d hd
  simp only [Bundle.stringAtoms, List.mem_cons, List.not_mem_nil, or_false] at hd
  rcases hd with rfl | rfl | rfl | rfl | rfl | rfl | rfl
  · exact (hw _ (List.mem_of_getElem? (i := 68) rfl))
  · exact (hw _ (List.mem_of_getElem? (i := 69) rfl))
  · exact (hw _ (List.mem_of_getElem? (i := 70) rfl))
  · exact (hw _ (List.mem_of_getElem? (i := 71) rfl))
  · exact (hw _ (List.mem_of_getElem? (i := 72) rfl))
  · exact (hw _ (List.mem_of_getElem? (i := 73) rfl))
  · exact (hw _ (List.mem_of_getElem? (i := 74) rfl))
theorem own_ef0 (m : MethodId) (x0 : Int32) (x1 : Int32) (x2 : Int32) (x3 : Int32) : entryFrame m #[(.int x0), (.int x1), (.int x2), (.int x3)] maxLocals = mkF m 0 #[.val (.int x0), .val (.int x1), .val (.int x2), .val (.int x3), .unset, .unset, .unset, .unset, .unset, .unset, .unset, .unset, .unset, .unset, .unset, .unset, .unset] [] := by first | (simp [entryFrame, mkF, argsToLocals, Value.category, maxLocals]; done) | rfl
theorem own_ef3 (m : MethodId) (x0 : Addr) (x1 : Addr) (x2 : Int32) (x3 : Int32) : entryFrame m #[(.ref x0), (.ref x1), (.int x2), (.int x3)] 13 = mkF m 0 #[.val (.ref x0), .val (.ref x1), .val (.int x2), .val (.int x3), .unset, .unset, .unset, .unset, .unset, .unset, .unset, .unset, .unset] [] := by first | (simp [entryFrame, mkF, argsToLocals, Value.category]; done) | rfl
theorem own_ef2 (m : MethodId) (x0 : Addr) (x1 : Addr) : entryFrame m #[(.ref x0), (.ref x1)] 2 = mkF m 0 #[.val (.ref x0), .val (.ref x1)] [] := by first | (simp [entryFrame, mkF, argsToLocals, Value.category]; done) | rfl
theorem own_ef5 (m : MethodId) (x0 : Addr) (x1 : UInt64) (x2 : Addr) : entryFrame m #[(.ref x0), (.double x1), (.ref x2)] 6 = mkF m 0 #[.val (.ref x0), .val (.double x1), .second, .val (.ref x2), .unset, .unset] [] := by first | (simp [entryFrame, mkF, argsToLocals, Value.category]; done) | rfl
theorem own_ef6 (m : MethodId) (x0 : Addr) : entryFrame m #[(.ref x0)] 1 = mkF m 0 #[.val (.ref x0)] [] := by first | (simp [entryFrame, mkF, argsToLocals, Value.category]; done) | rfl
theorem own_ef7 (m : MethodId) (x0 : UInt64) : entryFrame m #[(.double x0)] 2 = mkF m 0 #[.val (.double x0), .second] [] := by first | (simp [entryFrame, mkF, argsToLocals, Value.category]; done) | rfl
theorem own_ef9 (m : MethodId) (x0 : Addr) (x1 : Addr) : entryFrame m #[(.ref x0), (.ref x1)] 2 = mkF m 0 #[.val (.ref x0), .val (.ref x1)] [] := by first | (simp [entryFrame, mkF, argsToLocals, Value.category]; done) | rfl
theorem own_ef10 (m : MethodId) (x0 : Addr) : entryFrame m #[(.ref x0)] 1 = mkF m 0 #[.val (.ref x0)] [] := by first | (simp [entryFrame, mkF, argsToLocals, Value.category]; done) | rfl
theorem own_ef12 (m : MethodId) (x0 : Addr) : entryFrame m #[(.ref x0)] 1 = mkF m 0 #[.val (.ref x0)] [] := by first | (simp [entryFrame, mkF, argsToLocals, Value.category]; done) | rfl

theorem own_retO {C : String} (x : Addr) : own_Ret .areturn (.object C) (.ref x) := ⟨rfl, Or.inr (Or.inr (Or.inr (Or.inr ⟨rfl, rfl, rfl⟩)))⟩
theorem own_inf {x : UInt64} {r : Rat} (hx : own_is x r) (h : r ≤ 1000000000) : FP.dcmp x 9218868437227405312 = some .lt := by
  have h1 := (own_is_lt hx own_big).mpr (Std.lt_of_le_of_lt h (by decide +kernel))
  rw [show FP.dcmp x 9110782046170513408 = FP.Core.dcmp x 9110782046170513408 from rfl, FP.Core.dcmp_lt] at h1
  rw [show FP.dcmp x 9218868437227405312 = FP.Core.dcmp x 9218868437227405312 from rfl, FP.Core.dcmp_lt]
  exact ⟨h1.1, by decide +kernel, Int.lt_trans h1.2.2 (by decide +kernel)⟩
theorem own_minS : own_is 4583663620745971485 ((8006399337547549 : Rat) / 288230376151711744) := ⟨false, 8006399337547549, -58, by decide +kernel, by decide +kernel⟩
theorem own_e9 : own_is 4741671816366391296 1000000000 := ⟨false, 8388608000000000, -23, by decide +kernel, by decide +kernel⟩
def own_mn (a b : UInt64) : UInt64 := bif ifCond.holds .ge (cmpValue (FP.dcmp a b) .g) then b else a
def own_mx (a b : UInt64) : UInt64 := bif ifCond.holds .le (cmpValue (FP.dcmp a b) .l) then b else a
/-- a speed: a number of sixteenths -/
def own_spd (s : UInt64) (K : Int) : Prop := own_is s ((K : Rat) / 16) ∧ 1 ≤ K ∧ K ≤ 131072
theorem own_spd_b {s : UInt64} {K : Int} (h : own_spd s K) : (1 : Rat) / 16 ≤ (K : Rat) / 16 ∧ (K : Rat) / 16 ≤ 8192 := by
  have h1 : (1 : Rat) ≤ (K : Rat) := own_cle h.2.1
  have h2 : (K : Rat) ≤ 131072 := own_cle h.2.2
  constructor <;> grind
theorem own_spd1 {s : UInt64} {K : Int} (h : own_spd s K) : ifCond.holds .lt (cmpValue (FP.dcmp s 4583663620745971485) .l) = false := by
  rw [own_c_lt h.1 own_minS]
  exact decide_eq_false (Rat.not_lt.mpr (Rat.le_trans (by decide +kernel) (own_spd_b h).1))
theorem own_spd2 {s : UInt64} {K : Int} (h : own_spd s K) : FP.dcmp s 9218868437227405312 = some .lt := own_inf h.1 (Rat.le_trans (own_spd_b h).2 (by decide +kernel))
theorem own_spd3 {s : UInt64} {K : Int} (h : own_spd s K) : ifCond.holds .le (cmpValue (FP.dcmp s 0) .l) = false := by
  rw [own_c_le h.1 own_zero]
  exact decide_eq_false (Rat.not_le.mpr (Std.lt_of_lt_of_le (by decide +kernel) (own_spd_b h).1))
theorem own_i28800 : own_is (FP.i2d 28800) 28800 := own_isI 28800
theorem own_prod {s v : UInt64} {K : Int} (h : own_spd s K) (hv : own_is v 28800) : own_is (FP.dmul s v) ((K * 1800 : Int) : Rat) := by
  have q := own_mul h.1 hv
  rw [show (K : Rat) / 16 * 28800 = ((K * 1800 : Int) : Rat) by rw [Rat.intCast_mul]; show _ = (K : Rat) * 1800; grind] at q
  have := h.2
  exact own_rd_small q (by omega)
theorem own_acc {x y : UInt64} {i j : Int} (hx : own_is x ((i : Int) : Rat)) (hy : own_is y ((j : Int) : Rat)) (h : (i + j).natAbs < 2 ^ 53) : own_is (FP.dadd x y) ((i + j : Int) : Rat) := by
  have q := own_add hx hy
  rw [← Rat.intCast_add] at q
  exact own_rd_small q h
theorem own_mn_is {a b : UInt64} {K L : Int} (ha : own_spd a K) (hb : own_spd b L) : ∃ M, own_spd (own_mn a b) M := by
  rw [own_mn]
  cases ifCond.holds .ge (cmpValue (FP.dcmp a b) .g)
  · exact ⟨K, ha⟩
  · exact ⟨L, hb⟩
theorem own_mx_is {a b : UInt64} {K L : Int} (ha : own_spd a K) (hb : own_spd b L) : ∃ M, own_spd (own_mx a b) M := by
  rw [own_mx]
  cases ifCond.holds .le (cmpValue (FP.dcmp a b) .l)
  · exact ⟨K, ha⟩
  · exact ⟨L, hb⟩
theorem own_maxv {v : UInt64} (h : Jvm.Free.Fl.Fin64 v) : ifCond.holds .le (cmpValue (FP.dcmp (v &&& 0x7fffffffffffffff) (9218868437227405311 : UInt64)) .l) = true := by
  have h1 : FP.Core.DFin v := Jvm.Free.Fl.fin64_core.mp h
  rcases (FP.Core.le_max h1.notNaN).mpr h1 with q | q
  · rw [show FP.dcmp (v &&& 0x7fffffffffffffff) (9218868437227405311 : UInt64) = some .lt from q]; rfl
  · rw [show FP.dcmp (v &&& 0x7fffffffffffffff) (9218868437227405311 : UInt64) = some .eq from q]; rfl
theorem own_quo {x v : UInt64} {r : Rat} {K : Int} (hx : own_is x r) (h0 : 0 ≤ r) (h1 : r ≤ 40000000) (hv : own_spd v K) : NoNaN64 (FP.ddiv x v) ∧ ifCond.holds .le (cmpValue (FP.dcmp (FP.ddiv x v) 4741671816366391296) .l) = true ∧ FP.dcmp (FP.ddiv x v) (FP.ddiv x v) = some .eq := by
  have hb := own_spd_b hv
  have hp : 0 < (K : Rat) / 16 := Std.lt_of_lt_of_le (by decide +kernel) hb.1
  have q := own_div hx hv.1 (Rat.ne_of_gt hp)
  have q1 : r / ((K : Rat) / 16) ≤ 1000000000 := (own_div_le hp).mpr (by grind)
  have q0 : 0 ≤ r / ((K : Rat) / 16) := (own_le_div hp).mpr (by grind)
  obtain ⟨w, hw⟩ := own_rd_finN q (by grind) (by grind)
  refine ⟨own_rd_no q, ?_, own_rd_uniq q q⟩
  rw [own_c_le hw own_e9]
  exact decide_eq_true (own_rd_le' q hw own_e9 q1)
theorem own_p0 (x : Addr) (y : Addr) :
    own_Go own_K3 prog_70_method_2_code 0 #[.val (.ref x), .val (.ref y), .val (.int (0 : Int32)), .val (.int (3 : Int32)), .unset, .unset, .unset, .unset, .unset, .unset, .unset, .unset, .unset] [] 1 #[.val (.ref x), .val (.ref y), .val (.int (0 : Int32)), .val (.int (3 : Int32)), .unset, .unset, .unset, .unset, .unset, .unset, .unset, .unset, .unset] [(.ref x)] := by
  refine own_aloadN (pc2 := 1) d3_0 rfl rfl rfl ?_
  exact own_refl
theorem own_p1 (x : Addr) (y : Addr) :
    own_Go own_K3 prog_70_method_2_code 4 #[.val (.ref x), .val (.ref y), .val (.int (0 : Int32)), .val (.int (3 : Int32)), .unset, .unset, .unset, .unset, .unset, .unset, .unset, .unset, .unset] [] 31 #[.val (.ref x), .val (.ref y), .val (.int (0 : Int32)), .val (.int (3 : Int32)), .unset, .unset, .unset, .unset, .unset, .unset, .unset, .unset, .unset] [(.ref y), (.ref x)] := by
  refine own_iloadN (pc2 := 5) d3_4 rfl rfl ?_
  refine own_ifNo (pc2 := 8) d3_5 rfl (by decide) ?_
  refine own_ldc (v := (86400 : Int32)) (pc2 := 10) d3_8 rfl (List.mem_of_getElem? (i := 0) rfl) ?_
  refine own_iloadN (pc2 := 11) d3_10 rfl rfl ?_
  refine own_irem (pc2 := 12) d3_11 rfl (by decide) (v := (0 : Int32)) (by decide) ?_
  refine own_ifYes (pc' := 29) d3_12 (by decide) (by decide) (by decide) ?_
  refine own_aloadN (pc2 := 30) d3_29 rfl rfl rfl ?_
  refine own_aloadN (pc2 := 31) d3_30 rfl rfl rfl ?_
  exact own_refl
theorem own_p2 (x : Addr) (y : Addr) :
    own_Go own_K3 prog_70_method_2_code 34 #[.val (.ref x), .val (.ref y), .val (.int (0 : Int32)), .val (.int (3 : Int32)), .unset, .unset, .unset, .unset, .unset, .unset, .unset, .unset, .unset] [] 36 #[.val (.ref x), .val (.ref y), .val (.int (0 : Int32)), .val (.int (3 : Int32)), .unset, .unset, .unset, .unset, .unset, .unset, .unset, .unset, .unset] [(.int (0 : Int32)), (.ref x)] := by
  refine own_aloadN (pc2 := 35) d3_34 rfl rfl rfl ?_
  refine own_iloadN (pc2 := 36) d3_35 rfl rfl ?_
  exact own_refl
theorem own_p3 (x : Addr) (y : Addr) :
    own_Go own_K3 prog_70_method_2_code 39 #[.val (.ref x), .val (.ref y), .val (.int (0 : Int32)), .val (.int (3 : Int32)), .unset, .unset, .unset, .unset, .unset, .unset, .unset, .unset, .unset] [] 41 #[.val (.ref x), .val (.ref y), .val (.int (0 : Int32)), .val (.int (3 : Int32)), .unset, .unset, .unset, .unset, .unset, .unset, .unset, .unset, .unset] [(.int (3 : Int32)), (.ref x)] := by
  refine own_aloadN (pc2 := 40) d3_39 rfl rfl rfl ?_
  refine own_iloadN (pc2 := 41) d3_40 rfl rfl ?_
  exact own_refl
theorem own_p4 (x : Addr) (y : Addr) (v49 : UInt64) (hv49 : (FP.i2d (28800 : Int32)) = v49) :
    own_Go own_K3 prog_70_method_2_code 44 #[.val (.ref x), .val (.ref y), .val (.int (0 : Int32)), .val (.int (3 : Int32)), .unset, .unset, .unset, .unset, .unset, .unset, .unset, .unset, .unset] [] 50 #[.val (.ref x), .val (.ref y), .val (.int (0 : Int32)), .val (.int (3 : Int32)), .unset, .unset, .unset, .unset, .unset, .unset, .unset, .unset, .unset] [(.double v49), (.ref x)] := by
  refine own_aloadN (pc2 := 45) d3_44 rfl rfl rfl ?_
  refine own_ldc (v := (86400 : Int32)) (pc2 := 47) d3_45 rfl (List.mem_of_getElem? (i := 0) rfl) ?_
  refine own_iloadN (pc2 := 48) d3_47 rfl rfl ?_
  refine own_idiv (pc2 := 49) d3_48 rfl (by decide) (v := (28800 : Int32)) (by decide) ?_
  refine own_i2d (pc2 := 50) d3_49 rfl (v := v49) hv49 ?_
  exact own_refl
theorem own_p5 (x : Addr) (y : Addr) :
    own_Go own_K3 prog_70_method_2_code 53 #[.val (.ref x), .val (.ref y), .val (.int (0 : Int32)), .val (.int (3 : Int32)), .unset, .unset, .unset, .unset, .unset, .unset, .unset, .unset, .unset] [] 78 #[.val (.ref x), .val (.ref y), .val (.int (0 : Int32)), .val (.int (3 : Int32)), .val (.double (0 : UInt64)), .second, .val (.double (9218868437227405312 : UInt64)), .second, .val (.double (0 : UInt64)), .second, .val (.int (0 : Int32)), .unset, .unset] [(.int (0 : Int32)), (.ref y)] := by
  refine own_dconst0 (v := 0) (pc2 := 54) d3_53 rfl rfl ?_
  refine own_dstore (pc2 := 56) d3_54 rfl (L' := #[.val (.ref x), .val (.ref y), .val (.int (0 : Int32)), .val (.int (3 : Int32)), .val (.double (0 : UInt64)), .second, .unset, .unset, .unset, .unset, .unset, .unset, .unset]) rfl ?_
  refine own_ldc2D (v := (9218868437227405312 : UInt64)) (pc2 := 59) d3_56 rfl (List.mem_of_getElem? (i := 1) rfl) ?_
  refine own_dstore (pc2 := 61) d3_59 rfl (L' := #[.val (.ref x), .val (.ref y), .val (.int (0 : Int32)), .val (.int (3 : Int32)), .val (.double (0 : UInt64)), .second, .val (.double (9218868437227405312 : UInt64)), .second, .unset, .unset, .unset, .unset, .unset]) rfl ?_
  refine own_dconst0 (v := 0) (pc2 := 62) d3_61 rfl rfl ?_
  refine own_dstore (pc2 := 64) d3_62 rfl (L' := #[.val (.ref x), .val (.ref y), .val (.int (0 : Int32)), .val (.int (3 : Int32)), .val (.double (0 : UInt64)), .second, .val (.double (9218868437227405312 : UInt64)), .second, .val (.double (0 : UInt64)), .second, .unset, .unset, .unset]) rfl ?_
  refine own_iconst (v := 0) (pc2 := 65) d3_64 rfl rfl ?_
  refine own_istore (pc2 := 67) d3_65 rfl (L' := #[.val (.ref x), .val (.ref y), .val (.int (0 : Int32)), .val (.int (3 : Int32)), .val (.double (0 : UInt64)), .second, .val (.double (9218868437227405312 : UInt64)), .second, .val (.double (0 : UInt64)), .second, .val (.int (0 : Int32)), .unset, .unset]) rfl ?_
  refine own_iload (pc2 := 69) d3_67 rfl rfl ?_
  refine own_iloadN (pc2 := 70) d3_69 rfl rfl ?_
  refine own_icmpNo (pc2 := 73) d3_70 rfl (by decide) ?_
  refine own_aloadN (pc2 := 74) d3_73 rfl rfl rfl ?_
  refine own_iloadN (pc2 := 75) d3_74 rfl rfl ?_
  refine own_iload (pc2 := 77) d3_75 rfl rfl ?_
  refine own_iadd (pc2 := 78) d3_77 rfl (v := (0 : Int32)) (by decide) ?_
  exact own_refl
theorem own_p6 (x : Addr) (y : Addr) (d0 : UInt64) (v86 : Int32) (hv86 : (cmpValue (FP.dcmp d0 (4583663620745971485 : UInt64)) .l) = v86) (hb87_0 : ifCond.holds .lt v86 = false) (v95 : Int32) (hv95 : (cmpValue (FP.dcmp d0 (9218868437227405312 : UInt64)) .l) = v95) (hb96_0 : ifCond.holds .ne v95 = true) :
    own_Go own_K3 prog_70_method_2_code 79 #[.val (.ref x), .val (.ref y), .val (.int (0 : Int32)), .val (.int (3 : Int32)), .val (.double (0 : UInt64)), .second, .val (.double (9218868437227405312 : UInt64)), .second, .val (.double (0 : UInt64)), .second, .val (.int (0 : Int32)), .unset, .unset] [(.double d0)] 112 #[.val (.ref x), .val (.ref y), .val (.int (0 : Int32)), .val (.int (3 : Int32)), .val (.double (0 : UInt64)), .second, .val (.double (9218868437227405312 : UInt64)), .second, .val (.double (0 : UInt64)), .second, .val (.int (0 : Int32)), .val (.double d0), .second] [(.ref x), (.double d0), (.double (0 : UInt64))] := by
  refine own_dstore (pc2 := 81) d3_79 rfl (L' := #[.val (.ref x), .val (.ref y), .val (.int (0 : Int32)), .val (.int (3 : Int32)), .val (.double (0 : UInt64)), .second, .val (.double (9218868437227405312 : UInt64)), .second, .val (.double (0 : UInt64)), .second, .val (.int (0 : Int32)), .val (.double d0), .second]) rfl ?_
  refine own_dload (pc2 := 83) d3_81 rfl rfl ?_
  refine own_ldc2D (v := (4583663620745971485 : UInt64)) (pc2 := 86) d3_83 rfl (List.mem_of_getElem? (i := 2) rfl) ?_
  refine own_dcmp (pc2 := 87) d3_86 rfl (v := v86) hv86 ?_
  refine own_ifNo (pc2 := 90) d3_87 rfl hb87_0 ?_
  refine own_dload (pc2 := 92) d3_90 rfl rfl ?_
  refine own_ldc2D (v := (9218868437227405312 : UInt64)) (pc2 := 95) d3_92 rfl (List.mem_of_getElem? (i := 1) rfl) ?_
  refine own_dcmp (pc2 := 96) d3_95 rfl (v := v95) hv95 ?_
  refine own_ifYes (pc' := 107) d3_96 hb96_0 (by decide) (by decide) ?_
  refine own_dload (pc2 := 109) d3_107 rfl rfl ?_
  refine own_dload (pc2 := 111) d3_109 rfl rfl ?_
  refine own_aloadN (pc2 := 112) d3_111 rfl rfl rfl ?_
  exact own_refl
theorem own_p7 (x : Addr) (y : Addr) (d0 : UInt64) (v49 : UInt64) (v115 : UInt64) (hv115 : (FP.dmul d0 v49) = v115) (nn115 : NoNaN64 (FP.dmul d0 v49)) (v116 : UInt64) (hv116 : (FP.dadd (0 : UInt64) v115) = v116) (nn116 : NoNaN64 (FP.dadd (0 : UInt64) v115)) (v123 : Int32) (hv123 : (cmpValue (FP.dcmp d0 (9218868437227405312 : UInt64)) .g) = v123) (hb124 : ifCond.holds .ge v123 = false) :
    own_Go own_K3 prog_70_method_2_code 115 #[.val (.ref x), .val (.ref y), .val (.int (0 : Int32)), .val (.int (3 : Int32)), .val (.double (0 : UInt64)), .second, .val (.double (9218868437227405312 : UInt64)), .second, .val (.double (0 : UInt64)), .second, .val (.int (0 : Int32)), .val (.double d0), .second] [(.double v49), (.double d0), (.double (0 : UInt64))] 134 #[.val (.ref x), .val (.ref y), .val (.int (0 : Int32)), .val (.int (3 : Int32)), .val (.double v116), .second, .val (.double (9218868437227405312 : UInt64)), .second, .val (.double (0 : UInt64)), .second, .val (.int (0 : Int32)), .val (.double d0), .second] [(.double d0)] := by
  refine own_dmul (pc2 := 116) d3_115 rfl nn115 (v := v115) hv115 ?_
  refine own_dadd (pc2 := 117) d3_116 rfl nn116 (v := v116) hv116 ?_
  refine own_dstore (pc2 := 119) d3_117 rfl (L' := #[.val (.ref x), .val (.ref y), .val (.int (0 : Int32)), .val (.int (3 : Int32)), .val (.double v116), .second, .val (.double (9218868437227405312 : UInt64)), .second, .val (.double (0 : UInt64)), .second, .val (.int (0 : Int32)), .val (.double d0), .second]) rfl ?_
  refine own_dload (pc2 := 121) d3_119 rfl rfl ?_
  refine own_dload (pc2 := 123) d3_121 rfl rfl ?_
  refine own_dcmp (pc2 := 124) d3_123 rfl (v := v123) hv123 ?_
  refine own_ifNo (pc2 := 127) d3_124 rfl hb124 ?_
  refine own_dload (pc2 := 129) d3_127 rfl rfl ?_
  refine own_goto (pc' := 134) d3_129 (by decide) (by decide) ?_
  exact own_refl
theorem own_p8 (x : Addr) (y : Addr) (v116 : UInt64) (d0 : UInt64) (v140 : Int32) (hv140 : (cmpValue (FP.dcmp d0 (0 : UInt64)) .l) = v140) (hb141 : ifCond.holds .le v140 = false) :
    own_Go own_K3 prog_70_method_2_code 134 #[.val (.ref x), .val (.ref y), .val (.int (0 : Int32)), .val (.int (3 : Int32)), .val (.double v116), .second, .val (.double (9218868437227405312 : UInt64)), .second, .val (.double (0 : UInt64)), .second, .val (.int (0 : Int32)), .val (.double d0), .second] [(.double d0)] 151 #[.val (.ref x), .val (.ref y), .val (.int (0 : Int32)), .val (.int (3 : Int32)), .val (.double v116), .second, .val (.double d0), .second, .val (.double (0 : UInt64)), .second, .val (.int (0 : Int32)), .val (.double d0), .second] [(.double d0)] := by
  refine own_dstore (pc2 := 136) d3_134 rfl (L' := #[.val (.ref x), .val (.ref y), .val (.int (0 : Int32)), .val (.int (3 : Int32)), .val (.double v116), .second, .val (.double d0), .second, .val (.double (0 : UInt64)), .second, .val (.int (0 : Int32)), .val (.double d0), .second]) rfl ?_
  refine own_dload (pc2 := 138) d3_136 rfl rfl ?_
  refine own_dload (pc2 := 140) d3_138 rfl rfl ?_
  refine own_dcmp (pc2 := 141) d3_140 rfl (v := v140) hv140 ?_
  refine own_ifNo (pc2 := 144) d3_141 rfl hb141 ?_
  refine own_dload (pc2 := 146) d3_144 rfl rfl ?_
  refine own_goto (pc' := 151) d3_146 (by decide) (by decide) ?_
  exact own_refl
theorem own_p9 (x : Addr) (y : Addr) (v116 : UInt64) (d0 : UInt64) :
    own_Go own_K3 prog_70_method_2_code 151 #[.val (.ref x), .val (.ref y), .val (.int (0 : Int32)), .val (.int (3 : Int32)), .val (.double v116), .second, .val (.double d0), .second, .val (.double (0 : UInt64)), .second, .val (.int (0 : Int32)), .val (.double d0), .second] [(.double d0)] 67 #[.val (.ref x), .val (.ref y), .val (.int (0 : Int32)), .val (.int (3 : Int32)), .val (.double v116), .second, .val (.double d0), .second, .val (.double d0), .second, .val (.int (1 : Int32)), .val (.double d0), .second] [] := by
  refine own_dstore (pc2 := 153) d3_151 rfl (L' := #[.val (.ref x), .val (.ref y), .val (.int (0 : Int32)), .val (.int (3 : Int32)), .val (.double v116), .second, .val (.double d0), .second, .val (.double d0), .second, .val (.int (0 : Int32)), .val (.double d0), .second]) rfl ?_
  refine own_iinc (pc2 := 156) d3_153 rfl rfl (v := (1 : Int32)) (by decide) (L' := #[.val (.ref x), .val (.ref y), .val (.int (0 : Int32)), .val (.int (3 : Int32)), .val (.double v116), .second, .val (.double d0), .second, .val (.double d0), .second, .val (.int (1 : Int32)), .val (.double d0), .second]) rfl ?_
  refine own_goto (pc' := 67) d3_156 (by decide) (by decide) ?_
  exact own_refl
theorem own_p10 (x : Addr) (y : Addr) (v116 : UInt64) (d0 : UInt64) :
    own_Go own_K3 prog_70_method_2_code 67 #[.val (.ref x), .val (.ref y), .val (.int (0 : Int32)), .val (.int (3 : Int32)), .val (.double v116), .second, .val (.double d0), .second, .val (.double d0), .second, .val (.int (1 : Int32)), .val (.double d0), .second] [] 78 #[.val (.ref x), .val (.ref y), .val (.int (0 : Int32)), .val (.int (3 : Int32)), .val (.double v116), .second, .val (.double d0), .second, .val (.double d0), .second, .val (.int (1 : Int32)), .val (.double d0), .second] [(.int (1 : Int32)), (.ref y)] := by
  refine own_iload (pc2 := 69) d3_67 rfl rfl ?_
  refine own_iloadN (pc2 := 70) d3_69 rfl rfl ?_
  refine own_icmpNo (pc2 := 73) d3_70 rfl (by decide) ?_
  refine own_aloadN (pc2 := 74) d3_73 rfl rfl rfl ?_
  refine own_iloadN (pc2 := 75) d3_74 rfl rfl ?_
  refine own_iload (pc2 := 77) d3_75 rfl rfl ?_
  refine own_iadd (pc2 := 78) d3_77 rfl (v := (1 : Int32)) (by decide) ?_
  exact own_refl
theorem own_p11 (x : Addr) (y : Addr) (v116 : UInt64) (d0 : UInt64) (d1 : UInt64) (v86' : Int32) (hv86' : (cmpValue (FP.dcmp d1 (4583663620745971485 : UInt64)) .l) = v86') (hb87_1 : ifCond.holds .lt v86' = false) (v95' : Int32) (hv95' : (cmpValue (FP.dcmp d1 (9218868437227405312 : UInt64)) .l) = v95') (hb96_1 : ifCond.holds .ne v95' = true) :
    own_Go own_K3 prog_70_method_2_code 79 #[.val (.ref x), .val (.ref y), .val (.int (0 : Int32)), .val (.int (3 : Int32)), .val (.double v116), .second, .val (.double d0), .second, .val (.double d0), .second, .val (.int (1 : Int32)), .val (.double d0), .second] [(.double d1)] 112 #[.val (.ref x), .val (.ref y), .val (.int (0 : Int32)), .val (.int (3 : Int32)), .val (.double v116), .second, .val (.double d0), .second, .val (.double d0), .second, .val (.int (1 : Int32)), .val (.double d1), .second] [(.ref x), (.double d1), (.double v116)] := by
  refine own_dstore (pc2 := 81) d3_79 rfl (L' := #[.val (.ref x), .val (.ref y), .val (.int (0 : Int32)), .val (.int (3 : Int32)), .val (.double v116), .second, .val (.double d0), .second, .val (.double d0), .second, .val (.int (1 : Int32)), .val (.double d1), .second]) rfl ?_
  refine own_dload (pc2 := 83) d3_81 rfl rfl ?_
  refine own_ldc2D (v := (4583663620745971485 : UInt64)) (pc2 := 86) d3_83 rfl (List.mem_of_getElem? (i := 2) rfl) ?_
  refine own_dcmp (pc2 := 87) d3_86 rfl (v := v86') hv86' ?_
  refine own_ifNo (pc2 := 90) d3_87 rfl hb87_1 ?_
  refine own_dload (pc2 := 92) d3_90 rfl rfl ?_
  refine own_ldc2D (v := (9218868437227405312 : UInt64)) (pc2 := 95) d3_92 rfl (List.mem_of_getElem? (i := 1) rfl) ?_
  refine own_dcmp (pc2 := 96) d3_95 rfl (v := v95') hv95' ?_
  refine own_ifYes (pc' := 107) d3_96 hb96_1 (by decide) (by decide) ?_
  refine own_dload (pc2 := 109) d3_107 rfl rfl ?_
  refine own_dload (pc2 := 111) d3_109 rfl rfl ?_
  refine own_aloadN (pc2 := 112) d3_111 rfl rfl rfl ?_
  exact own_refl
theorem own_p12 (x : Addr) (y : Addr) (v116 : UInt64) (d0 : UInt64) (d1 : UInt64) (v49 : UInt64) (v115' : UInt64) (hv115' : (FP.dmul d1 v49) = v115') (nn115' : NoNaN64 (FP.dmul d1 v49)) (v116' : UInt64) (hv116' : (FP.dadd v116 v115') = v116') (nn116' : NoNaN64 (FP.dadd v116 v115')) (v123' : Int32) (hv123' : (cmpValue (FP.dcmp d1 d0) .g) = v123') (t134_0 : UInt64) (ht134_0 : (bif ifCond.holds .ge v123' then d0 else d1) = t134_0) :
    own_Go own_K3 prog_70_method_2_code 115 #[.val (.ref x), .val (.ref y), .val (.int (0 : Int32)), .val (.int (3 : Int32)), .val (.double v116), .second, .val (.double d0), .second, .val (.double d0), .second, .val (.int (1 : Int32)), .val (.double d1), .second] [(.double v49), (.double d1), (.double v116)] 134 #[.val (.ref x), .val (.ref y), .val (.int (0 : Int32)), .val (.int (3 : Int32)), .val (.double v116'), .second, .val (.double d0), .second, .val (.double d0), .second, .val (.int (1 : Int32)), .val (.double d1), .second] [(.double t134_0)] := by
  subst ht134_0
  refine own_dmul (pc2 := 116) d3_115 rfl nn115' (v := v115') hv115' ?_
  refine own_dadd (pc2 := 117) d3_116 rfl nn116' (v := v116') hv116' ?_
  refine own_dstore (pc2 := 119) d3_117 rfl (L' := #[.val (.ref x), .val (.ref y), .val (.int (0 : Int32)), .val (.int (3 : Int32)), .val (.double v116'), .second, .val (.double d0), .second, .val (.double d0), .second, .val (.int (1 : Int32)), .val (.double d1), .second]) rfl ?_
  refine own_dload (pc2 := 121) d3_119 rfl rfl ?_
  refine own_dload (pc2 := 123) d3_121 rfl rfl ?_
  refine own_dcmp (pc2 := 124) d3_123 rfl (v := v123') hv123' ?_
  cases hb124 : ifCond.holds .ge v123'
  · refine own_ifNo (pc2 := 127) d3_124 rfl hb124 ?_
    refine own_dload (pc2 := 129) d3_127 rfl rfl ?_
    refine own_goto (pc' := 134) d3_129 (by decide) (by decide) ?_
    exact own_refl
  · refine own_ifYes (pc' := 132) d3_124 hb124 (by decide) (by decide) ?_
    refine own_dload (pc2 := 134) d3_132 rfl rfl ?_
    exact own_refl
theorem own_p13 (x : Addr) (y : Addr) (v116' : UInt64) (d0 : UInt64) (d1 : UInt64) (t134_0 : UInt64) (v140' : Int32) (hv140' : (cmpValue (FP.dcmp d1 d0) .l) = v140') (t151_0 : UInt64) (ht151_0 : (bif ifCond.holds .le v140' then d0 else d1) = t151_0) :
    own_Go own_K3 prog_70_method_2_code 134 #[.val (.ref x), .val (.ref y), .val (.int (0 : Int32)), .val (.int (3 : Int32)), .val (.double v116'), .second, .val (.double d0), .second, .val (.double d0), .second, .val (.int (1 : Int32)), .val (.double d1), .second] [(.double t134_0)] 151 #[.val (.ref x), .val (.ref y), .val (.int (0 : Int32)), .val (.int (3 : Int32)), .val (.double v116'), .second, .val (.double t134_0), .second, .val (.double d0), .second, .val (.int (1 : Int32)), .val (.double d1), .second] [(.double t151_0)] := by
  subst ht151_0
  refine own_dstore (pc2 := 136) d3_134 rfl (L' := #[.val (.ref x), .val (.ref y), .val (.int (0 : Int32)), .val (.int (3 : Int32)), .val (.double v116'), .second, .val (.double t134_0), .second, .val (.double d0), .second, .val (.int (1 : Int32)), .val (.double d1), .second]) rfl ?_
  refine own_dload (pc2 := 138) d3_136 rfl rfl ?_
  refine own_dload (pc2 := 140) d3_138 rfl rfl ?_
  refine own_dcmp (pc2 := 141) d3_140 rfl (v := v140') hv140' ?_
  cases hb141 : ifCond.holds .le v140'
  · refine own_ifNo (pc2 := 144) d3_141 rfl hb141 ?_
    refine own_dload (pc2 := 146) d3_144 rfl rfl ?_
    refine own_goto (pc' := 151) d3_146 (by decide) (by decide) ?_
    exact own_refl
  · refine own_ifYes (pc' := 149) d3_141 hb141 (by decide) (by decide) ?_
    refine own_dload (pc2 := 151) d3_149 rfl rfl ?_
    exact own_refl
theorem own_p14 (x : Addr) (y : Addr) (v116' : UInt64) (t134_0 : UInt64) (d0 : UInt64) (d1 : UInt64) (t151_0 : UInt64) :
    own_Go own_K3 prog_70_method_2_code 151 #[.val (.ref x), .val (.ref y), .val (.int (0 : Int32)), .val (.int (3 : Int32)), .val (.double v116'), .second, .val (.double t134_0), .second, .val (.double d0), .second, .val (.int (1 : Int32)), .val (.double d1), .second] [(.double t151_0)] 67 #[.val (.ref x), .val (.ref y), .val (.int (0 : Int32)), .val (.int (3 : Int32)), .val (.double v116'), .second, .val (.double t134_0), .second, .val (.double t151_0), .second, .val (.int (2 : Int32)), .val (.double d1), .second] [] := by
  refine own_dstore (pc2 := 153) d3_151 rfl (L' := #[.val (.ref x), .val (.ref y), .val (.int (0 : Int32)), .val (.int (3 : Int32)), .val (.double v116'), .second, .val (.double t134_0), .second, .val (.double t151_0), .second, .val (.int (1 : Int32)), .val (.double d1), .second]) rfl ?_
  refine own_iinc (pc2 := 156) d3_153 rfl rfl (v := (2 : Int32)) (by decide) (L' := #[.val (.ref x), .val (.ref y), .val (.int (0 : Int32)), .val (.int (3 : Int32)), .val (.double v116'), .second, .val (.double t134_0), .second, .val (.double t151_0), .second, .val (.int (2 : Int32)), .val (.double d1), .second]) rfl ?_
  refine own_goto (pc' := 67) d3_156 (by decide) (by decide) ?_
  exact own_refl
theorem own_p15 (x : Addr) (y : Addr) (v116' : UInt64) (t134_0 : UInt64) (t151_0 : UInt64) (d1 : UInt64) :
    own_Go own_K3 prog_70_method_2_code 67 #[.val (.ref x), .val (.ref y), .val (.int (0 : Int32)), .val (.int (3 : Int32)), .val (.double v116'), .second, .val (.double t134_0), .second, .val (.double t151_0), .second, .val (.int (2 : Int32)), .val (.double d1), .second] [] 78 #[.val (.ref x), .val (.ref y), .val (.int (0 : Int32)), .val (.int (3 : Int32)), .val (.double v116'), .second, .val (.double t134_0), .second, .val (.double t151_0), .second, .val (.int (2 : Int32)), .val (.double d1), .second] [(.int (2 : Int32)), (.ref y)] := by
  refine own_iload (pc2 := 69) d3_67 rfl rfl ?_
  refine own_iloadN (pc2 := 70) d3_69 rfl rfl ?_
  refine own_icmpNo (pc2 := 73) d3_70 rfl (by decide) ?_
  refine own_aloadN (pc2 := 74) d3_73 rfl rfl rfl ?_
  refine own_iloadN (pc2 := 75) d3_74 rfl rfl ?_
  refine own_iload (pc2 := 77) d3_75 rfl rfl ?_
  refine own_iadd (pc2 := 78) d3_77 rfl (v := (2 : Int32)) (by decide) ?_
  exact own_refl
theorem own_p16 (x : Addr) (y : Addr) (v116' : UInt64) (t134_0 : UInt64) (t151_0 : UInt64) (d1 : UInt64) (d2 : UInt64) (v86'' : Int32) (hv86'' : (cmpValue (FP.dcmp d2 (4583663620745971485 : UInt64)) .l) = v86'') (hb87_2 : ifCond.holds .lt v86'' = false) (v95'' : Int32) (hv95'' : (cmpValue (FP.dcmp d2 (9218868437227405312 : UInt64)) .l) = v95'') (hb96_2 : ifCond.holds .ne v95'' = true) :
    own_Go own_K3 prog_70_method_2_code 79 #[.val (.ref x), .val (.ref y), .val (.int (0 : Int32)), .val (.int (3 : Int32)), .val (.double v116'), .second, .val (.double t134_0), .second, .val (.double t151_0), .second, .val (.int (2 : Int32)), .val (.double d1), .second] [(.double d2)] 112 #[.val (.ref x), .val (.ref y), .val (.int (0 : Int32)), .val (.int (3 : Int32)), .val (.double v116'), .second, .val (.double t134_0), .second, .val (.double t151_0), .second, .val (.int (2 : Int32)), .val (.double d2), .second] [(.ref x), (.double d2), (.double v116')] := by
  refine own_dstore (pc2 := 81) d3_79 rfl (L' := #[.val (.ref x), .val (.ref y), .val (.int (0 : Int32)), .val (.int (3 : Int32)), .val (.double v116'), .second, .val (.double t134_0), .second, .val (.double t151_0), .second, .val (.int (2 : Int32)), .val (.double d2), .second]) rfl ?_
  refine own_dload (pc2 := 83) d3_81 rfl rfl ?_
  refine own_ldc2D (v := (4583663620745971485 : UInt64)) (pc2 := 86) d3_83 rfl (List.mem_of_getElem? (i := 2) rfl) ?_
  refine own_dcmp (pc2 := 87) d3_86 rfl (v := v86'') hv86'' ?_
  refine own_ifNo (pc2 := 90) d3_87 rfl hb87_2 ?_
  refine own_dload (pc2 := 92) d3_90 rfl rfl ?_
  refine own_ldc2D (v := (9218868437227405312 : UInt64)) (pc2 := 95) d3_92 rfl (List.mem_of_getElem? (i := 1) rfl) ?_
  refine own_dcmp (pc2 := 96) d3_95 rfl (v := v95'') hv95'' ?_
  refine own_ifYes (pc' := 107) d3_96 hb96_2 (by decide) (by decide) ?_
  refine own_dload (pc2 := 109) d3_107 rfl rfl ?_
  refine own_dload (pc2 := 111) d3_109 rfl rfl ?_
  refine own_aloadN (pc2 := 112) d3_111 rfl rfl rfl ?_
  exact own_refl
theorem own_p17 (x : Addr) (y : Addr) (v116' : UInt64) (t134_0 : UInt64) (t151_0 : UInt64) (d2 : UInt64) (v49 : UInt64) (v115'' : UInt64) (hv115'' : (FP.dmul d2 v49) = v115'') (nn115'' : NoNaN64 (FP.dmul d2 v49)) (v116'' : UInt64) (hv116'' : (FP.dadd v116' v115'') = v116'') (nn116'' : NoNaN64 (FP.dadd v116' v115'')) (v123'' : Int32) (hv123'' : (cmpValue (FP.dcmp d2 t134_0) .g) = v123'') (t134_0' : UInt64) (ht134_0' : (bif ifCond.holds .ge v123'' then t134_0 else d2) = t134_0') :
    own_Go own_K3 prog_70_method_2_code 115 #[.val (.ref x), .val (.ref y), .val (.int (0 : Int32)), .val (.int (3 : Int32)), .val (.double v116'), .second, .val (.double t134_0), .second, .val (.double t151_0), .second, .val (.int (2 : Int32)), .val (.double d2), .second] [(.double v49), (.double d2), (.double v116')] 134 #[.val (.ref x), .val (.ref y), .val (.int (0 : Int32)), .val (.int (3 : Int32)), .val (.double v116''), .second, .val (.double t134_0), .second, .val (.double t151_0), .second, .val (.int (2 : Int32)), .val (.double d2), .second] [(.double t134_0')] := by
  subst ht134_0'
  refine own_dmul (pc2 := 116) d3_115 rfl nn115'' (v := v115'') hv115'' ?_
  refine own_dadd (pc2 := 117) d3_116 rfl nn116'' (v := v116'') hv116'' ?_
  refine own_dstore (pc2 := 119) d3_117 rfl (L' := #[.val (.ref x), .val (.ref y), .val (.int (0 : Int32)), .val (.int (3 : Int32)), .val (.double v116''), .second, .val (.double t134_0), .second, .val (.double t151_0), .second, .val (.int (2 : Int32)), .val (.double d2), .second]) rfl ?_
  refine own_dload (pc2 := 121) d3_119 rfl rfl ?_
  refine own_dload (pc2 := 123) d3_121 rfl rfl ?_
  refine own_dcmp (pc2 := 124) d3_123 rfl (v := v123'') hv123'' ?_
  cases hb124 : ifCond.holds .ge v123''
  · refine own_ifNo (pc2 := 127) d3_124 rfl hb124 ?_
    refine own_dload (pc2 := 129) d3_127 rfl rfl ?_
    refine own_goto (pc' := 134) d3_129 (by decide) (by decide) ?_
    exact own_refl
  · refine own_ifYes (pc' := 132) d3_124 hb124 (by decide) (by decide) ?_
    refine own_dload (pc2 := 134) d3_132 rfl rfl ?_
    exact own_refl
theorem own_p18 (x : Addr) (y : Addr) (v116'' : UInt64) (t134_0 : UInt64) (t151_0 : UInt64) (d2 : UInt64) (t134_0' : UInt64) (v140'' : Int32) (hv140'' : (cmpValue (FP.dcmp d2 t151_0) .l) = v140'') (t151_0' : UInt64) (ht151_0' : (bif ifCond.holds .le v140'' then t151_0 else d2) = t151_0') :
    own_Go own_K3 prog_70_method_2_code 134 #[.val (.ref x), .val (.ref y), .val (.int (0 : Int32)), .val (.int (3 : Int32)), .val (.double v116''), .second, .val (.double t134_0), .second, .val (.double t151_0), .second, .val (.int (2 : Int32)), .val (.double d2), .second] [(.double t134_0')] 151 #[.val (.ref x), .val (.ref y), .val (.int (0 : Int32)), .val (.int (3 : Int32)), .val (.double v116''), .second, .val (.double t134_0'), .second, .val (.double t151_0), .second, .val (.int (2 : Int32)), .val (.double d2), .second] [(.double t151_0')] := by
  subst ht151_0'
  refine own_dstore (pc2 := 136) d3_134 rfl (L' := #[.val (.ref x), .val (.ref y), .val (.int (0 : Int32)), .val (.int (3 : Int32)), .val (.double v116''), .second, .val (.double t134_0'), .second, .val (.double t151_0), .second, .val (.int (2 : Int32)), .val (.double d2), .second]) rfl ?_
  refine own_dload (pc2 := 138) d3_136 rfl rfl ?_
  refine own_dload (pc2 := 140) d3_138 rfl rfl ?_
  refine own_dcmp (pc2 := 141) d3_140 rfl (v := v140'') hv140'' ?_
  cases hb141 : ifCond.holds .le v140''
  · refine own_ifNo (pc2 := 144) d3_141 rfl hb141 ?_
    refine own_dload (pc2 := 146) d3_144 rfl rfl ?_
    refine own_goto (pc' := 151) d3_146 (by decide) (by decide) ?_
    exact own_refl
  · refine own_ifYes (pc' := 149) d3_141 hb141 (by decide) (by decide) ?_
    refine own_dload (pc2 := 151) d3_149 rfl rfl ?_
    exact own_refl
theorem own_p19 (x : Addr) (y : Addr) (v116'' : UInt64) (t134_0' : UInt64) (t151_0 : UInt64) (d2 : UInt64) (t151_0' : UInt64) :
    own_Go own_K3 prog_70_method_2_code 151 #[.val (.ref x), .val (.ref y), .val (.int (0 : Int32)), .val (.int (3 : Int32)), .val (.double v116''), .second, .val (.double t134_0'), .second, .val (.double t151_0), .second, .val (.int (2 : Int32)), .val (.double d2), .second] [(.double t151_0')] 67 #[.val (.ref x), .val (.ref y), .val (.int (0 : Int32)), .val (.int (3 : Int32)), .val (.double v116''), .second, .val (.double t134_0'), .second, .val (.double t151_0'), .second, .val (.int (3 : Int32)), .val (.double d2), .second] [] := by
  refine own_dstore (pc2 := 153) d3_151 rfl (L' := #[.val (.ref x), .val (.ref y), .val (.int (0 : Int32)), .val (.int (3 : Int32)), .val (.double v116''), .second, .val (.double t134_0'), .second, .val (.double t151_0'), .second, .val (.int (2 : Int32)), .val (.double d2), .second]) rfl ?_
  refine own_iinc (pc2 := 156) d3_153 rfl rfl (v := (3 : Int32)) (by decide) (L' := #[.val (.ref x), .val (.ref y), .val (.int (0 : Int32)), .val (.int (3 : Int32)), .val (.double v116''), .second, .val (.double t134_0'), .second, .val (.double t151_0'), .second, .val (.int (3 : Int32)), .val (.double d2), .second]) rfl ?_
  refine own_goto (pc' := 67) d3_156 (by decide) (by decide) ?_
  exact own_refl
theorem own_p20 (x : Addr) (y : Addr) (v116'' : UInt64) (t134_0' : UInt64) (t151_0' : UInt64) (d2 : UInt64) :
    own_Go own_K3 prog_70_method_2_code 67 #[.val (.ref x), .val (.ref y), .val (.int (0 : Int32)), .val (.int (3 : Int32)), .val (.double v116''), .second, .val (.double t134_0'), .second, .val (.double t151_0'), .second, .val (.int (3 : Int32)), .val (.double d2), .second] [] 162 #[.val (.ref x), .val (.ref y), .val (.int (0 : Int32)), .val (.int (3 : Int32)), .val (.double v116''), .second, .val (.double t134_0'), .second, .val (.double t151_0'), .second, .val (.int (3 : Int32)), .val (.double d2), .second] [(.double v116''), (.ref x)] := by
  refine own_iload (pc2 := 69) d3_67 rfl rfl ?_
  refine own_iloadN (pc2 := 70) d3_69 rfl rfl ?_
  refine own_icmpYes (pc' := 159) d3_70 (by decide) (by decide) (by decide) ?_
  refine own_aloadN (pc2 := 160) d3_159 rfl rfl rfl ?_
  refine own_dload (pc2 := 162) d3_160 rfl rfl ?_
  exact own_refl
theorem own_p21 (x : Addr) (y : Addr) (v116'' : UInt64) (t134_0' : UInt64) (t151_0' : UInt64) (d2 : UInt64) :
    own_Go own_K3 prog_70_method_2_code 165 #[.val (.ref x), .val (.ref y), .val (.int (0 : Int32)), .val (.int (3 : Int32)), .val (.double v116''), .second, .val (.double t134_0'), .second, .val (.double t151_0'), .second, .val (.int (3 : Int32)), .val (.double d2), .second] [] 168 #[.val (.ref x), .val (.ref y), .val (.int (0 : Int32)), .val (.int (3 : Int32)), .val (.double v116''), .second, .val (.double t134_0'), .second, .val (.double t151_0'), .second, .val (.int (3 : Int32)), .val (.double d2), .second] [(.double t134_0'), (.ref x)] := by
  refine own_aloadN (pc2 := 166) d3_165 rfl rfl rfl ?_
  refine own_dload (pc2 := 168) d3_166 rfl rfl ?_
  exact own_refl
theorem own_p22 (x : Addr) (y : Addr) (v116'' : UInt64) (t134_0' : UInt64) (t151_0' : UInt64) (d2 : UInt64) :
    own_Go own_K3 prog_70_method_2_code 171 #[.val (.ref x), .val (.ref y), .val (.int (0 : Int32)), .val (.int (3 : Int32)), .val (.double v116''), .second, .val (.double t134_0'), .second, .val (.double t151_0'), .second, .val (.int (3 : Int32)), .val (.double d2), .second] [] 174 #[.val (.ref x), .val (.ref y), .val (.int (0 : Int32)), .val (.int (3 : Int32)), .val (.double v116''), .second, .val (.double t134_0'), .second, .val (.double t151_0'), .second, .val (.int (3 : Int32)), .val (.double d2), .second] [(.double t151_0'), (.ref x)] := by
  refine own_aloadN (pc2 := 172) d3_171 rfl rfl rfl ?_
  refine own_dload (pc2 := 174) d3_172 rfl rfl ?_
  exact own_refl
set_option maxRecDepth 65536 in
set_option maxHeartbeats 4000000 in
theorem own_sp2 (l : Launch) (Z : State) (a0 : Array Value) (hb0 : own_Base) (hw : ∀ d ∈ tables_1, d.before a0 Z = true) (x : Addr) (y : Addr) (ai : Addr) (qa : own_Cel) (d0 : UInt64) (K0 : Int) (k0 : own_spd d0 K0) (d1 : UInt64) (K1 : Int) (k1 : own_spd d1 K1) (d2 : UInt64) (K2 : Int) (k2 : own_spd d2 K2) :
    own_Met l Z a0 hb0 (⟨"com/example/tidewise/tidewise/model/SpeedProfile", "<init>", "([DII)V"⟩ : MethodName) prog_70_method_2_code 13 none [] ({ frames := 1, cells := 0, slots := 0, locals := 12 } : Room) #[(.ref x), (.ref y), (.int (0 : Int32)), (.int (3 : Int32))] [(ai, qa), (x, own_O "com/example/tidewise/tidewise/model/SpeedProfile" [("com/example/tidewise/tidewise/model/SpeedProfile", "speeds", "[D", .null), ("com/example/tidewise/tidewise/model/SpeedProfile", "offset", "I", .int 0), ("com/example/tidewise/tidewise/model/SpeedProfile", "slotCount", "I", .int 0), ("com/example/tidewise/tidewise/model/SpeedProfile", "slotSeconds", "D", .double 0), ("com/example/tidewise/tidewise/model/SpeedProfile", "metresPerDay", "D", .double 0), ("com/example/tidewise/tidewise/model/SpeedProfile", "lowestSpeed", "D", .double 0), ("com/example/tidewise/tidewise/model/SpeedProfile", "highestSpeed", "D", .double 0)]), (y, own_A .double [.double d0, .double d1, .double d2])] (fun r cs' => ∃ w0 w1, r = none ∧ cs' = [(ai, qa), (x, own_O "com/example/tidewise/tidewise/model/SpeedProfile" [("com/example/tidewise/tidewise/model/SpeedProfile", "speeds", "[D", .ref y), ("com/example/tidewise/tidewise/model/SpeedProfile", "offset", "I", .int 0), ("com/example/tidewise/tidewise/model/SpeedProfile", "slotCount", "I", .int 3), ("com/example/tidewise/tidewise/model/SpeedProfile", "slotSeconds", "D", .double w0), ("com/example/tidewise/tidewise/model/SpeedProfile", "metresPerDay", "D", .double w1), ("com/example/tidewise/tidewise/model/SpeedProfile", "lowestSpeed", "D", .double (own_mn d2 (own_mn d1 d0))), ("com/example/tidewise/tidewise/model/SpeedProfile", "highestSpeed", "D", .double (own_mx d2 (own_mx d1 d0)))]), (y, own_A .double [.double d0, .double d1, .double d2])]) := by
  refine own_met_of (L0 := #[.val (.ref x), .val (.ref y), .val (.int (0 : Int32)), .val (.int (3 : Int32)), .unset, .unset, .unset, .unset, .unset, .unset, .unset, .unset, .unset]) (plainFor_of_name own_pn3) (fun m => own_ef3 m x y (0 : Int32) (3 : Int32)) ?_
  intro p e s m below meth c T0 hx hZ hown hby hml hnm H0
  obtain ⟨Tp1, Hp1, stp1⟩ := own_initO H0 hx hZ hown (hw _ (List.mem_of_getElem? (i := 26) rfl)) (hw _ (List.mem_of_getElem? (i := 27) rfl)) (hw _ (List.mem_of_getElem? (i := 28) rfl)) (g := (mkF m 1 #[.val (.ref x), .val (.ref y), .val (.int (0 : Int32)), .val (.int (3 : Int32)), .unset, .unset, .unset, .unset, .unset, .unset, .unset, .unset, .unset] [(.ref x)])) rfl (by rw [hml]; rfl) rfl (hb hby d3_1) (by decide) (W := 0) (by show 2 * 0 + _ ≤ _; exact Nat.le_of_eq rfl) (by decide)
  change own_S _ _ _ _ _ _ _ _ _ _ _ _ _ _ [(ai, qa), (x, own_O "com/example/tidewise/tidewise/model/SpeedProfile" [("com/example/tidewise/tidewise/model/SpeedProfile", "speeds", "[D", .null), ("com/example/tidewise/tidewise/model/SpeedProfile", "offset", "I", .int 0), ("com/example/tidewise/tidewise/model/SpeedProfile", "slotCount", "I", .int 0), ("com/example/tidewise/tidewise/model/SpeedProfile", "slotSeconds", "D", .double 0), ("com/example/tidewise/tidewise/model/SpeedProfile", "metresPerDay", "D", .double 0), ("com/example/tidewise/tidewise/model/SpeedProfile", "lowestSpeed", "D", .double 0), ("com/example/tidewise/tidewise/model/SpeedProfile", "highestSpeed", "D", .double 0)]), (y, own_A .double [.double d0, .double d1, .double d2])] _ _ at Hp1
  obtain ⟨Tp2, Hp2, stp2⟩ := own_putF Hp1 hx hZ hown (hw _ (List.mem_of_getElem? (i := 30) rfl)) 1 0 rfl rfl (Or.inr ⟨(hw _ (List.mem_of_getElem? (i := 31) rfl)), rfl, hnm⟩) (hw _ (List.mem_of_getElem? (i := 9) rfl)) (ty := (.array .double)) (by decide) rfl rfl (g := (mkF m 31 #[.val (.ref x), .val (.ref y), .val (.int (0 : Int32)), .val (.int (3 : Int32)), .unset, .unset, .unset, .unset, .unset, .unset, .unset, .unset, .unset] [(.ref y), (.ref x)])) rfl rfl (hb hby d3_31)
  change own_S _ _ _ _ _ _ _ _ _ _ _ _ _ _ [(ai, qa), (x, own_O "com/example/tidewise/tidewise/model/SpeedProfile" [("com/example/tidewise/tidewise/model/SpeedProfile", "speeds", "[D", .ref y), ("com/example/tidewise/tidewise/model/SpeedProfile", "offset", "I", .int 0), ("com/example/tidewise/tidewise/model/SpeedProfile", "slotCount", "I", .int 0), ("com/example/tidewise/tidewise/model/SpeedProfile", "slotSeconds", "D", .double 0), ("com/example/tidewise/tidewise/model/SpeedProfile", "metresPerDay", "D", .double 0), ("com/example/tidewise/tidewise/model/SpeedProfile", "lowestSpeed", "D", .double 0), ("com/example/tidewise/tidewise/model/SpeedProfile", "highestSpeed", "D", .double 0)]), (y, own_A .double [.double d0, .double d1, .double d2])] _ _ at Hp2
  obtain ⟨Tp3, Hp3, stp3⟩ := own_putF Hp2 hx hZ hown (hw _ (List.mem_of_getElem? (i := 32) rfl)) 1 1 rfl rfl (Or.inr ⟨(hw _ (List.mem_of_getElem? (i := 33) rfl)), rfl, hnm⟩) (hw _ (List.mem_of_getElem? (i := 9) rfl)) (ty := .int) (by decide) rfl rfl (g := (mkF m 36 #[.val (.ref x), .val (.ref y), .val (.int (0 : Int32)), .val (.int (3 : Int32)), .unset, .unset, .unset, .unset, .unset, .unset, .unset, .unset, .unset] [(.int (0 : Int32)), (.ref x)])) rfl rfl (hb hby d3_36)
  change own_S _ _ _ _ _ _ _ _ _ _ _ _ _ _ [(ai, qa), (x, own_O "com/example/tidewise/tidewise/model/SpeedProfile" [("com/example/tidewise/tidewise/model/SpeedProfile", "speeds", "[D", .ref y), ("com/example/tidewise/tidewise/model/SpeedProfile", "offset", "I", .int (0 : Int32)), ("com/example/tidewise/tidewise/model/SpeedProfile", "slotCount", "I", .int 0), ("com/example/tidewise/tidewise/model/SpeedProfile", "slotSeconds", "D", .double 0), ("com/example/tidewise/tidewise/model/SpeedProfile", "metresPerDay", "D", .double 0), ("com/example/tidewise/tidewise/model/SpeedProfile", "lowestSpeed", "D", .double 0), ("com/example/tidewise/tidewise/model/SpeedProfile", "highestSpeed", "D", .double 0)]), (y, own_A .double [.double d0, .double d1, .double d2])] _ _ at Hp3
  obtain ⟨Tp4, Hp4, stp4⟩ := own_putF Hp3 hx hZ hown (hw _ (List.mem_of_getElem? (i := 34) rfl)) 1 2 rfl rfl (Or.inr ⟨(hw _ (List.mem_of_getElem? (i := 35) rfl)), rfl, hnm⟩) (hw _ (List.mem_of_getElem? (i := 9) rfl)) (ty := .int) (by decide) rfl rfl (g := (mkF m 41 #[.val (.ref x), .val (.ref y), .val (.int (0 : Int32)), .val (.int (3 : Int32)), .unset, .unset, .unset, .unset, .unset, .unset, .unset, .unset, .unset] [(.int (3 : Int32)), (.ref x)])) rfl rfl (hb hby d3_41)
  change own_S _ _ _ _ _ _ _ _ _ _ _ _ _ _ [(ai, qa), (x, own_O "com/example/tidewise/tidewise/model/SpeedProfile" [("com/example/tidewise/tidewise/model/SpeedProfile", "speeds", "[D", .ref y), ("com/example/tidewise/tidewise/model/SpeedProfile", "offset", "I", .int (0 : Int32)), ("com/example/tidewise/tidewise/model/SpeedProfile", "slotCount", "I", .int (3 : Int32)), ("com/example/tidewise/tidewise/model/SpeedProfile", "slotSeconds", "D", .double 0), ("com/example/tidewise/tidewise/model/SpeedProfile", "metresPerDay", "D", .double 0), ("com/example/tidewise/tidewise/model/SpeedProfile", "lowestSpeed", "D", .double 0), ("com/example/tidewise/tidewise/model/SpeedProfile", "highestSpeed", "D", .double 0)]), (y, own_A .double [.double d0, .double d1, .double d2])] _ _ at Hp4
  obtain ⟨v49, hv49⟩ : ∃ z : UInt64, (FP.i2d (28800 : Int32)) = z := ⟨_, rfl⟩
  obtain ⟨Tp5, Hp5, stp5⟩ := own_putF Hp4 hx hZ hown (hw _ (List.mem_of_getElem? (i := 36) rfl)) 1 3 rfl rfl (Or.inr ⟨(hw _ (List.mem_of_getElem? (i := 37) rfl)), rfl, hnm⟩) (hw _ (List.mem_of_getElem? (i := 9) rfl)) (ty := .double) (by decide) rfl rfl (g := (mkF m 50 #[.val (.ref x), .val (.ref y), .val (.int (0 : Int32)), .val (.int (3 : Int32)), .unset, .unset, .unset, .unset, .unset, .unset, .unset, .unset, .unset] [(.double v49), (.ref x)])) rfl rfl (hb hby d3_50)
  change own_S _ _ _ _ _ _ _ _ _ _ _ _ _ _ [(ai, qa), (x, own_O "com/example/tidewise/tidewise/model/SpeedProfile" [("com/example/tidewise/tidewise/model/SpeedProfile", "speeds", "[D", .ref y), ("com/example/tidewise/tidewise/model/SpeedProfile", "offset", "I", .int (0 : Int32)), ("com/example/tidewise/tidewise/model/SpeedProfile", "slotCount", "I", .int (3 : Int32)), ("com/example/tidewise/tidewise/model/SpeedProfile", "slotSeconds", "D", .double v49), ("com/example/tidewise/tidewise/model/SpeedProfile", "metresPerDay", "D", .double 0), ("com/example/tidewise/tidewise/model/SpeedProfile", "lowestSpeed", "D", .double 0), ("com/example/tidewise/tidewise/model/SpeedProfile", "highestSpeed", "D", .double 0)]), (y, own_A .double [.double d0, .double d1, .double d2])] _ _ at Hp5
  obtain ⟨v86, hv86⟩ : ∃ z : Int32, (cmpValue (FP.dcmp d0 (4583663620745971485 : UInt64)) .l) = z := ⟨_, rfl⟩
  obtain ⟨v95, hv95⟩ : ∃ z : Int32, (cmpValue (FP.dcmp d0 (9218868437227405312 : UInt64)) .l) = z := ⟨_, rfl⟩
  obtain ⟨Tp7, Hp7, stp7⟩ := own_getF Hp5 hx hZ hown (hw _ (List.mem_of_getElem? (i := 36) rfl)) 1 3 rfl rfl (g := (mkF m 112 #[.val (.ref x), .val (.ref y), .val (.int (0 : Int32)), .val (.int (3 : Int32)), .val (.double (0 : UInt64)), .second, .val (.double (9218868437227405312 : UInt64)), .second, .val (.double (0 : UInt64)), .second, .val (.int (0 : Int32)), .val (.double d0), .second] [(.ref x), (.double d0), (.double (0 : UInt64))])) rfl rfl (hb hby d3_112)
  change own_S _ _ _ _ _ _ _ _ _ _ _ _ _ _ [(ai, qa), (x, own_O "com/example/tidewise/tidewise/model/SpeedProfile" [("com/example/tidewise/tidewise/model/SpeedProfile", "speeds", "[D", .ref y), ("com/example/tidewise/tidewise/model/SpeedProfile", "offset", "I", .int (0 : Int32)), ("com/example/tidewise/tidewise/model/SpeedProfile", "slotCount", "I", .int (3 : Int32)), ("com/example/tidewise/tidewise/model/SpeedProfile", "slotSeconds", "D", .double v49), ("com/example/tidewise/tidewise/model/SpeedProfile", "metresPerDay", "D", .double 0), ("com/example/tidewise/tidewise/model/SpeedProfile", "lowestSpeed", "D", .double 0), ("com/example/tidewise/tidewise/model/SpeedProfile", "highestSpeed", "D", .double 0)]), (y, own_A .double [.double d0, .double d1, .double d2])] _ _ at Hp7
  obtain ⟨v115, hv115⟩ : ∃ z : UInt64, (FP.dmul d0 v49) = z := ⟨_, rfl⟩
  obtain ⟨v116, hv116⟩ : ∃ z : UInt64, (FP.dadd (0 : UInt64) v115) = z := ⟨_, rfl⟩
  obtain ⟨v123, hv123⟩ : ∃ z : Int32, (cmpValue (FP.dcmp d0 (9218868437227405312 : UInt64)) .g) = z := ⟨_, rfl⟩
  obtain ⟨v140, hv140⟩ : ∃ z : Int32, (cmpValue (FP.dcmp d0 (0 : UInt64)) .l) = z := ⟨_, rfl⟩
  obtain ⟨v86', hv86'⟩ : ∃ z : Int32, (cmpValue (FP.dcmp d1 (4583663620745971485 : UInt64)) .l) = z := ⟨_, rfl⟩
  obtain ⟨v95', hv95'⟩ : ∃ z : Int32, (cmpValue (FP.dcmp d1 (9218868437227405312 : UInt64)) .l) = z := ⟨_, rfl⟩
  obtain ⟨Tp9, Hp9, stp9⟩ := own_getF Hp7 hx hZ hown (hw _ (List.mem_of_getElem? (i := 36) rfl)) 1 3 rfl rfl (g := (mkF m 112 #[.val (.ref x), .val (.ref y), .val (.int (0 : Int32)), .val (.int (3 : Int32)), .val (.double v116), .second, .val (.double d0), .second, .val (.double d0), .second, .val (.int (1 : Int32)), .val (.double d1), .second] [(.ref x), (.double d1), (.double v116)])) rfl rfl (hb hby d3_112)
  change own_S _ _ _ _ _ _ _ _ _ _ _ _ _ _ [(ai, qa), (x, own_O "com/example/tidewise/tidewise/model/SpeedProfile" [("com/example/tidewise/tidewise/model/SpeedProfile", "speeds", "[D", .ref y), ("com/example/tidewise/tidewise/model/SpeedProfile", "offset", "I", .int (0 : Int32)), ("com/example/tidewise/tidewise/model/SpeedProfile", "slotCount", "I", .int (3 : Int32)), ("com/example/tidewise/tidewise/model/SpeedProfile", "slotSeconds", "D", .double v49), ("com/example/tidewise/tidewise/model/SpeedProfile", "metresPerDay", "D", .double 0), ("com/example/tidewise/tidewise/model/SpeedProfile", "lowestSpeed", "D", .double 0), ("com/example/tidewise/tidewise/model/SpeedProfile", "highestSpeed", "D", .double 0)]), (y, own_A .double [.double d0, .double d1, .double d2])] _ _ at Hp9
  obtain ⟨v115', hv115'⟩ : ∃ z : UInt64, (FP.dmul d1 v49) = z := ⟨_, rfl⟩
  obtain ⟨v116', hv116'⟩ : ∃ z : UInt64, (FP.dadd v116 v115') = z := ⟨_, rfl⟩
  obtain ⟨v123', hv123'⟩ : ∃ z : Int32, (cmpValue (FP.dcmp d1 d0) .g) = z := ⟨_, rfl⟩
  obtain ⟨t134_0, ht134_0⟩ : ∃ z : UInt64, (bif ifCond.holds .ge v123' then d0 else d1) = z := ⟨_, rfl⟩
  obtain ⟨v140', hv140'⟩ : ∃ z : Int32, (cmpValue (FP.dcmp d1 d0) .l) = z := ⟨_, rfl⟩
  obtain ⟨t151_0, ht151_0⟩ : ∃ z : UInt64, (bif ifCond.holds .le v140' then d0 else d1) = z := ⟨_, rfl⟩
  obtain ⟨v86'', hv86''⟩ : ∃ z : Int32, (cmpValue (FP.dcmp d2 (4583663620745971485 : UInt64)) .l) = z := ⟨_, rfl⟩
  obtain ⟨v95'', hv95''⟩ : ∃ z : Int32, (cmpValue (FP.dcmp d2 (9218868437227405312 : UInt64)) .l) = z := ⟨_, rfl⟩
  obtain ⟨Tp11, Hp11, stp11⟩ := own_getF Hp9 hx hZ hown (hw _ (List.mem_of_getElem? (i := 36) rfl)) 1 3 rfl rfl (g := (mkF m 112 #[.val (.ref x), .val (.ref y), .val (.int (0 : Int32)), .val (.int (3 : Int32)), .val (.double v116'), .second, .val (.double t134_0), .second, .val (.double t151_0), .second, .val (.int (2 : Int32)), .val (.double d2), .second] [(.ref x), (.double d2), (.double v116')])) rfl rfl (hb hby d3_112)
  change own_S _ _ _ _ _ _ _ _ _ _ _ _ _ _ [(ai, qa), (x, own_O "com/example/tidewise/tidewise/model/SpeedProfile" [("com/example/tidewise/tidewise/model/SpeedProfile", "speeds", "[D", .ref y), ("com/example/tidewise/tidewise/model/SpeedProfile", "offset", "I", .int (0 : Int32)), ("com/example/tidewise/tidewise/model/SpeedProfile", "slotCount", "I", .int (3 : Int32)), ("com/example/tidewise/tidewise/model/SpeedProfile", "slotSeconds", "D", .double v49), ("com/example/tidewise/tidewise/model/SpeedProfile", "metresPerDay", "D", .double 0), ("com/example/tidewise/tidewise/model/SpeedProfile", "lowestSpeed", "D", .double 0), ("com/example/tidewise/tidewise/model/SpeedProfile", "highestSpeed", "D", .double 0)]), (y, own_A .double [.double d0, .double d1, .double d2])] _ _ at Hp11
  obtain ⟨v115'', hv115''⟩ : ∃ z : UInt64, (FP.dmul d2 v49) = z := ⟨_, rfl⟩
  obtain ⟨v116'', hv116''⟩ : ∃ z : UInt64, (FP.dadd v116' v115'') = z := ⟨_, rfl⟩
  obtain ⟨v123'', hv123''⟩ : ∃ z : Int32, (cmpValue (FP.dcmp d2 t134_0) .g) = z := ⟨_, rfl⟩
  obtain ⟨t134_0', ht134_0'⟩ : ∃ z : UInt64, (bif ifCond.holds .ge v123'' then t134_0 else d2) = z := ⟨_, rfl⟩
  obtain ⟨v140'', hv140''⟩ : ∃ z : Int32, (cmpValue (FP.dcmp d2 t151_0) .l) = z := ⟨_, rfl⟩
  obtain ⟨t151_0', ht151_0'⟩ : ∃ z : UInt64, (bif ifCond.holds .le v140'' then t151_0 else d2) = z := ⟨_, rfl⟩
  obtain ⟨Tp12, Hp12, stp12⟩ := own_putF Hp11 hx hZ hown (hw _ (List.mem_of_getElem? (i := 40) rfl)) 1 4 rfl rfl (Or.inr ⟨(hw _ (List.mem_of_getElem? (i := 41) rfl)), rfl, hnm⟩) (hw _ (List.mem_of_getElem? (i := 9) rfl)) (ty := .double) (by decide) rfl rfl (g := (mkF m 162 #[.val (.ref x), .val (.ref y), .val (.int (0 : Int32)), .val (.int (3 : Int32)), .val (.double v116''), .second, .val (.double t134_0'), .second, .val (.double t151_0'), .second, .val (.int (3 : Int32)), .val (.double d2), .second] [(.double v116''), (.ref x)])) rfl rfl (hb hby d3_162)
  change own_S _ _ _ _ _ _ _ _ _ _ _ _ _ _ [(ai, qa), (x, own_O "com/example/tidewise/tidewise/model/SpeedProfile" [("com/example/tidewise/tidewise/model/SpeedProfile", "speeds", "[D", .ref y), ("com/example/tidewise/tidewise/model/SpeedProfile", "offset", "I", .int (0 : Int32)), ("com/example/tidewise/tidewise/model/SpeedProfile", "slotCount", "I", .int (3 : Int32)), ("com/example/tidewise/tidewise/model/SpeedProfile", "slotSeconds", "D", .double v49), ("com/example/tidewise/tidewise/model/SpeedProfile", "metresPerDay", "D", .double v116''), ("com/example/tidewise/tidewise/model/SpeedProfile", "lowestSpeed", "D", .double 0), ("com/example/tidewise/tidewise/model/SpeedProfile", "highestSpeed", "D", .double 0)]), (y, own_A .double [.double d0, .double d1, .double d2])] _ _ at Hp12
  obtain ⟨Tp13, Hp13, stp13⟩ := own_putF Hp12 hx hZ hown (hw _ (List.mem_of_getElem? (i := 42) rfl)) 1 5 rfl rfl (Or.inr ⟨(hw _ (List.mem_of_getElem? (i := 43) rfl)), rfl, hnm⟩) (hw _ (List.mem_of_getElem? (i := 9) rfl)) (ty := .double) (by decide) rfl rfl (g := (mkF m 168 #[.val (.ref x), .val (.ref y), .val (.int (0 : Int32)), .val (.int (3 : Int32)), .val (.double v116''), .second, .val (.double t134_0'), .second, .val (.double t151_0'), .second, .val (.int (3 : Int32)), .val (.double d2), .second] [(.double t134_0'), (.ref x)])) rfl rfl (hb hby d3_168)
  change own_S _ _ _ _ _ _ _ _ _ _ _ _ _ _ [(ai, qa), (x, own_O "com/example/tidewise/tidewise/model/SpeedProfile" [("com/example/tidewise/tidewise/model/SpeedProfile", "speeds", "[D", .ref y), ("com/example/tidewise/tidewise/model/SpeedProfile", "offset", "I", .int (0 : Int32)), ("com/example/tidewise/tidewise/model/SpeedProfile", "slotCount", "I", .int (3 : Int32)), ("com/example/tidewise/tidewise/model/SpeedProfile", "slotSeconds", "D", .double v49), ("com/example/tidewise/tidewise/model/SpeedProfile", "metresPerDay", "D", .double v116''), ("com/example/tidewise/tidewise/model/SpeedProfile", "lowestSpeed", "D", .double t134_0'), ("com/example/tidewise/tidewise/model/SpeedProfile", "highestSpeed", "D", .double 0)]), (y, own_A .double [.double d0, .double d1, .double d2])] _ _ at Hp13
  obtain ⟨Tp14, Hp14, stp14⟩ := own_putF Hp13 hx hZ hown (hw _ (List.mem_of_getElem? (i := 44) rfl)) 1 6 rfl rfl (Or.inr ⟨(hw _ (List.mem_of_getElem? (i := 45) rfl)), rfl, hnm⟩) (hw _ (List.mem_of_getElem? (i := 9) rfl)) (ty := .double) (by decide) rfl rfl (g := (mkF m 174 #[.val (.ref x), .val (.ref y), .val (.int (0 : Int32)), .val (.int (3 : Int32)), .val (.double v116''), .second, .val (.double t134_0'), .second, .val (.double t151_0'), .second, .val (.int (3 : Int32)), .val (.double d2), .second] [(.double t151_0'), (.ref x)])) rfl rfl (hb hby d3_174)
  change own_S _ _ _ _ _ _ _ _ _ _ _ _ _ _ [(ai, qa), (x, own_O "com/example/tidewise/tidewise/model/SpeedProfile" [("com/example/tidewise/tidewise/model/SpeedProfile", "speeds", "[D", .ref y), ("com/example/tidewise/tidewise/model/SpeedProfile", "offset", "I", .int (0 : Int32)), ("com/example/tidewise/tidewise/model/SpeedProfile", "slotCount", "I", .int (3 : Int32)), ("com/example/tidewise/tidewise/model/SpeedProfile", "slotSeconds", "D", .double v49), ("com/example/tidewise/tidewise/model/SpeedProfile", "metresPerDay", "D", .double v116''), ("com/example/tidewise/tidewise/model/SpeedProfile", "lowestSpeed", "D", .double t134_0'), ("com/example/tidewise/tidewise/model/SpeedProfile", "highestSpeed", "D", .double t151_0')]), (y, own_A .double [.double d0, .double d1, .double d2])] _ _ at Hp14
  have i49 : own_is v49 28800 := by rw [← hv49]; exact own_i28800
  have a0_ : own_is (0 : UInt64) (((0 : Int) : Int) : Rat) := own_zero
  have kb0 := k0.2
  have kb1 := k1.2
  have kb2 := k2.2
  have p0 : own_is v115 ((K0 * 1800 : Int) : Rat) := by rw [← hv115]; exact own_prod k0 i49
  have nn115 : NoNaN64 (FP.dmul d0 v49) := by rw [hv115]; exact own_is_no p0
  have a1_ : own_is v116 ((((0 : Int) + K0 * 1800) : Int) : Rat) := by rw [← hv116]; exact own_acc a0_ p0 (by omega)
  have nn116 : NoNaN64 (FP.dadd (0 : UInt64) v115) := by rw [hv116]; exact own_is_no a1_
  have hb87_0 : ifCond.holds .lt v86 = false := by rw [← hv86]; exact own_spd1 k0
  have hb96_0 : ifCond.holds .ne v95 = true := by rw [← hv95, own_spd2 k0]; rfl
  have p1 : own_is v115' ((K1 * 1800 : Int) : Rat) := by rw [← hv115']; exact own_prod k1 i49
  have nn115' : NoNaN64 (FP.dmul d1 v49) := by rw [hv115']; exact own_is_no p1
  have a2_ : own_is v116' (((((0 : Int) + K0 * 1800) + K1 * 1800) : Int) : Rat) := by rw [← hv116']; exact own_acc a1_ p1 (by omega)
  have nn116' : NoNaN64 (FP.dadd v116 v115') := by rw [hv116']; exact own_is_no a2_
  have hb87_1 : ifCond.holds .lt v86' = false := by rw [← hv86']; exact own_spd1 k1
  have hb96_1 : ifCond.holds .ne v95' = true := by rw [← hv95', own_spd2 k1]; rfl
  have p2 : own_is v115'' ((K2 * 1800 : Int) : Rat) := by rw [← hv115'']; exact own_prod k2 i49
  have nn115'' : NoNaN64 (FP.dmul d2 v49) := by rw [hv115'']; exact own_is_no p2
  have a3_ : own_is v116'' ((((((0 : Int) + K0 * 1800) + K1 * 1800) + K2 * 1800) : Int) : Rat) := by rw [← hv116'']; exact own_acc a2_ p2 (by omega)
  have nn116'' : NoNaN64 (FP.dadd v116' v115'') := by rw [hv116'']; exact own_is_no a3_
  have hb87_2 : ifCond.holds .lt v86'' = false := by rw [← hv86'']; exact own_spd1 k2
  have hb96_2 : ifCond.holds .ne v95'' = true := by rw [← hv95'', own_spd2 k2]; rfl
  have hb124 : ifCond.holds .ge v123 = false := by rw [← hv123, own_spd2 k0]; rfl
  have hb141 : ifCond.holds .le v140 = false := by rw [← hv140]; exact own_spd3 k0
  have eLo : t134_0' = (own_mn d2 (own_mn d1 d0)) := by rw [← ht134_0', ← hv123'', ← ht134_0, ← hv123']; rfl
  have eHi : t151_0' = (own_mx d2 (own_mx d1 d0)) := by rw [← ht151_0', ← hv140'', ← ht151_0, ← hv140']; rfl
  refine ⟨_, _, _, _, 177, #[.val (.ref x), .val (.ref y), .val (.int (0 : Int32)), .val (.int (3 : Int32)), .val (.double v116''), .second, .val (.double t134_0'), .second, .val (.double t151_0'), .second, .val (.int (3 : Int32)), .val (.double d2), .second], Hp14, by decide, by decide, Or.inl ⟨rfl, ⟨v49, v116'', rfl, by rw [← eLo, ← eHi]⟩, d3_177, fun target q => ?_⟩⟩
  refine own_go H0 hx hZ hown hby hw own_K3_ok (own_p0 x y) _ ?_
  refine stp1 _ ?_
  refine own_go Hp1 hx hZ hown hby hw own_K3_ok (own_p1 x y) _ ?_
  refine stp2 _ ?_
  refine own_go Hp2 hx hZ hown hby hw own_K3_ok (own_p2 x y) _ ?_
  refine stp3 _ ?_
  refine own_go Hp3 hx hZ hown hby hw own_K3_ok (own_p3 x y) _ ?_
  refine stp4 _ ?_
  refine own_go Hp4 hx hZ hown hby hw own_K3_ok (own_p4 x y v49 hv49) _ ?_
  refine stp5 _ ?_
  refine own_go Hp5 hx hZ hown hby hw own_K3_ok (own_p5 x y) _ ?_
  refine own_daload Hp5 hx hZ 2 0 rfl (by decide) rfl (g := (mkF m 78 #[.val (.ref x), .val (.ref y), .val (.int (0 : Int32)), .val (.int (3 : Int32)), .val (.double (0 : UInt64)), .second, .val (.double (9218868437227405312 : UInt64)), .second, .val (.double (0 : UInt64)), .second, .val (.int (0 : Int32)), .unset, .unset] [(.int (0 : Int32)), (.ref y)])) rfl rfl (hb hby d3_78) _ ?_
  refine own_go Hp5 hx hZ hown hby hw own_K3_ok (own_p6 x y d0 v86 hv86 hb87_0 v95 hv95 hb96_0) _ ?_
  refine stp7 _ ?_
  refine own_go Hp7 hx hZ hown hby hw own_K3_ok (own_p7 x y d0 v49 v115 hv115 nn115 v116 hv116 nn116 v123 hv123 hb124) _ ?_
  refine own_go Hp7 hx hZ hown hby hw own_K3_ok (own_p8 x y v116 d0 v140 hv140 hb141) _ ?_
  refine own_go Hp7 hx hZ hown hby hw own_K3_ok (own_p9 x y v116 d0) _ ?_
  refine own_go Hp7 hx hZ hown hby hw own_K3_ok (own_p10 x y v116 d0) _ ?_
  refine own_daload Hp7 hx hZ 2 1 rfl (by decide) rfl (g := (mkF m 78 #[.val (.ref x), .val (.ref y), .val (.int (0 : Int32)), .val (.int (3 : Int32)), .val (.double v116), .second, .val (.double d0), .second, .val (.double d0), .second, .val (.int (1 : Int32)), .val (.double d0), .second] [(.int (1 : Int32)), (.ref y)])) rfl rfl (hb hby d3_78) _ ?_
  refine own_go Hp7 hx hZ hown hby hw own_K3_ok (own_p11 x y v116 d0 d1 v86' hv86' hb87_1 v95' hv95' hb96_1) _ ?_
  refine stp9 _ ?_
  refine own_go Hp9 hx hZ hown hby hw own_K3_ok (own_p12 x y v116 d0 d1 v49 v115' hv115' nn115' v116' hv116' nn116' v123' hv123' t134_0 ht134_0) _ ?_
  refine own_go Hp9 hx hZ hown hby hw own_K3_ok (own_p13 x y v116' d0 d1 t134_0 v140' hv140' t151_0 ht151_0) _ ?_
  refine own_go Hp9 hx hZ hown hby hw own_K3_ok (own_p14 x y v116' t134_0 d0 d1 t151_0) _ ?_
  refine own_go Hp9 hx hZ hown hby hw own_K3_ok (own_p15 x y v116' t134_0 t151_0 d1) _ ?_
  refine own_daload Hp9 hx hZ 2 2 rfl (by decide) rfl (g := (mkF m 78 #[.val (.ref x), .val (.ref y), .val (.int (0 : Int32)), .val (.int (3 : Int32)), .val (.double v116'), .second, .val (.double t134_0), .second, .val (.double t151_0), .second, .val (.int (2 : Int32)), .val (.double d1), .second] [(.int (2 : Int32)), (.ref y)])) rfl rfl (hb hby d3_78) _ ?_
  refine own_go Hp9 hx hZ hown hby hw own_K3_ok (own_p16 x y v116' t134_0 t151_0 d1 d2 v86'' hv86'' hb87_2 v95'' hv95'' hb96_2) _ ?_
  refine stp11 _ ?_
  refine own_go Hp11 hx hZ hown hby hw own_K3_ok (own_p17 x y v116' t134_0 t151_0 d2 v49 v115'' hv115'' nn115'' v116'' hv116'' nn116'' v123'' hv123'' t134_0' ht134_0') _ ?_
  refine own_go Hp11 hx hZ hown hby hw own_K3_ok (own_p18 x y v116'' t134_0 t151_0 d2 t134_0' v140'' hv140'' t151_0' ht151_0') _ ?_
  refine own_go Hp11 hx hZ hown hby hw own_K3_ok (own_p19 x y v116'' t134_0' t151_0 d2 t151_0') _ ?_
  refine own_go Hp11 hx hZ hown hby hw own_K3_ok (own_p20 x y v116'' t134_0' t151_0' d2) _ ?_
  refine stp12 _ ?_
  refine own_go Hp12 hx hZ hown hby hw own_K3_ok (own_p21 x y v116'' t134_0' t151_0' d2) _ ?_
  refine stp13 _ ?_
  refine own_go Hp13 hx hZ hown hby hw own_K3_ok (own_p22 x y v116'' t134_0' t151_0' d2) _ ?_
  refine stp14 _ ?_
  exact q
theorem own_o0 (x : Addr) (ai : Addr) :
    own_Go own_K2 prog_70_method_1_code 0 #[.val (.ref x), .val (.ref ai)] [] 2 #[.val (.ref x), .val (.ref ai)] [(.ref ai), (.ref x)] := by
  refine own_aloadN (pc2 := 1) d2_0 rfl rfl rfl ?_
  refine own_aloadN (pc2 := 2) d2_1 rfl rfl rfl ?_
  exact own_refl
theorem own_o1 (x : Addr) (ai : Addr) (y : Addr) :
    own_Go own_K2 prog_70_method_1_code 8 #[.val (.ref x), .val (.ref ai)] [(.ref y), (.ref x)] 10 #[.val (.ref x), .val (.ref ai)] [(.ref ai), (.int (0 : Int32)), (.ref y), (.ref x)] := by
  refine own_iconst (v := 0) (pc2 := 9) d2_8 rfl rfl ?_
  refine own_aloadN (pc2 := 10) d2_9 rfl rfl rfl ?_
  exact own_refl
set_option maxRecDepth 65536 in
set_option maxHeartbeats 4000000 in
theorem own_sp1 (l : Launch) (Z : State) (a0 : Array Value) (hb0 : own_Base) (hw : ∀ d ∈ tables_1, d.before a0 Z = true) (x : Addr) (ai : Addr)  (d0 : UInt64) (K0 : Int) (k0 : own_spd d0 K0) (d1 : UInt64) (K1 : Int) (k1 : own_spd d1 K1) (d2 : UInt64) (K2 : Int) (k2 : own_spd d2 K2) :
    own_Met l Z a0 hb0 (⟨"com/example/tidewise/tidewise/model/SpeedProfile", "<init>", "([D)V"⟩ : MethodName) prog_70_method_1_code 2 none [] ({ frames := 2, cells := 1, slots := 3, locals := 36 } : Room) #[(.ref x), (.ref ai)] [(ai, own_A .double [.double d0, .double d1, .double d2]), (x, own_O "com/example/tidewise/tidewise/model/SpeedProfile" [("com/example/tidewise/tidewise/model/SpeedProfile", "speeds", "[D", .null), ("com/example/tidewise/tidewise/model/SpeedProfile", "offset", "I", .int 0), ("com/example/tidewise/tidewise/model/SpeedProfile", "slotCount", "I", .int 0), ("com/example/tidewise/tidewise/model/SpeedProfile", "slotSeconds", "D", .double 0), ("com/example/tidewise/tidewise/model/SpeedProfile", "metresPerDay", "D", .double 0), ("com/example/tidewise/tidewise/model/SpeedProfile", "lowestSpeed", "D", .double 0), ("com/example/tidewise/tidewise/model/SpeedProfile", "highestSpeed", "D", .double 0)])] (fun r cs' => ∃ y w0 w1, r = none ∧ cs' = [(ai, own_A .double [.double d0, .double d1, .double d2]), (x, own_O "com/example/tidewise/tidewise/model/SpeedProfile" [("com/example/tidewise/tidewise/model/SpeedProfile", "speeds", "[D", .ref y), ("com/example/tidewise/tidewise/model/SpeedProfile", "offset", "I", .int 0), ("com/example/tidewise/tidewise/model/SpeedProfile", "slotCount", "I", .int 3), ("com/example/tidewise/tidewise/model/SpeedProfile", "slotSeconds", "D", .double w0), ("com/example/tidewise/tidewise/model/SpeedProfile", "metresPerDay", "D", .double w1), ("com/example/tidewise/tidewise/model/SpeedProfile", "lowestSpeed", "D", .double (own_mn d2 (own_mn d1 d0))), ("com/example/tidewise/tidewise/model/SpeedProfile", "highestSpeed", "D", .double (own_mx d2 (own_mx d1 d0)))]), (y, own_A .double [.double d0, .double d1, .double d2])]) := by
  refine own_met_of (L0 := #[.val (.ref x), .val (.ref ai)]) (plainFor_of_name own_pn2) (fun m => own_ef2 m x ai) ?_
  intro p e s m below meth c T0 hx hZ hown hby hml hnm H0
  obtain ⟨To1, y, Ho1, sto1⟩ := own_cloneA H0 hx hZ hown (hw _ (List.mem_of_getElem? (i := 14) rfl)) (hw _ (List.mem_of_getElem? (i := 15) rfl)) (hw _ (List.mem_of_getElem? (i := 19) rfl)) (hw _ (List.mem_of_getElem? (i := 17) rfl)) (hw _ (List.mem_of_getElem? (i := 18) rfl)) (hw _ (List.mem_of_getElem? (i := 20) rfl)) 0 rfl (fun _ _ _ q => own_ACd.mp q) (fun _ _ _ q => own_ACd.mpr q) (by
      intro v hv
      simp only [List.mem_cons, List.not_mem_nil, or_false] at hv
      rcases hv with rfl | rfl | rfl <;> rfl) (g := (mkF m 2 #[.val (.ref x), .val (.ref ai)] [(.ref ai), (.ref x)])) rfl (by rw [hml]; rfl) rfl (hb hby d2_2) (by decide) (W := 1) (by show 2 * 0 + _ ≤ _; exact Nat.le_of_eq rfl) (by decide) (cap := 3) (Nat.le_of_eq rfl) (by decide) (by decide)
  change own_S _ _ _ _ _ _ _ _ _ _ _ _ _ _ [(ai, own_A .double [.double d0, .double d1, .double d2]), (x, own_O "com/example/tidewise/tidewise/model/SpeedProfile" [("com/example/tidewise/tidewise/model/SpeedProfile", "speeds", "[D", .null), ("com/example/tidewise/tidewise/model/SpeedProfile", "offset", "I", .int 0), ("com/example/tidewise/tidewise/model/SpeedProfile", "slotCount", "I", .int 0), ("com/example/tidewise/tidewise/model/SpeedProfile", "slotSeconds", "D", .double 0), ("com/example/tidewise/tidewise/model/SpeedProfile", "metresPerDay", "D", .double 0), ("com/example/tidewise/tidewise/model/SpeedProfile", "lowestSpeed", "D", .double 0), ("com/example/tidewise/tidewise/model/SpeedProfile", "highestSpeed", "D", .double 0)]), (y, own_A .double [.double d0, .double d1, .double d2])] _ _ at Ho1
  obtain ⟨To2, Ho2, sto2⟩ := own_castA Ho1 hx hZ hown (hw _ (List.mem_of_getElem? (i := 21) rfl)) 2 rfl (fun _ _ _ q => own_ACd.mp q) (g := (mkF m 5 #[.val (.ref x), .val (.ref ai)] [(.ref y), (.ref x)])) rfl rfl (hb hby d2_5)
  change own_S _ _ _ _ _ _ _ _ _ _ _ _ _ _ [(ai, own_A .double [.double d0, .double d1, .double d2]), (x, own_O "com/example/tidewise/tidewise/model/SpeedProfile" [("com/example/tidewise/tidewise/model/SpeedProfile", "speeds", "[D", .null), ("com/example/tidewise/tidewise/model/SpeedProfile", "offset", "I", .int 0), ("com/example/tidewise/tidewise/model/SpeedProfile", "slotCount", "I", .int 0), ("com/example/tidewise/tidewise/model/SpeedProfile", "slotSeconds", "D", .double 0), ("com/example/tidewise/tidewise/model/SpeedProfile", "metresPerDay", "D", .double 0), ("com/example/tidewise/tidewise/model/SpeedProfile", "lowestSpeed", "D", .double 0), ("com/example/tidewise/tidewise/model/SpeedProfile", "highestSpeed", "D", .double 0)]), (y, own_A .double [.double d0, .double d1, .double d2])] _ _ at Ho2
  obtain ⟨To4, vo4_, cso4_, qo4, Ho4, sto4⟩ := own_callI Ho2 hx hZ hown rfl (hw _ (List.mem_of_getElem? (i := 23) rfl)) (hw _ (List.mem_of_getElem? (i := 24) rfl)) (hw _ (List.mem_of_getElem? (i := 10) rfl)) (hw _ (List.mem_of_getElem? (i := 25) rfl)) (by decide) (x := x) (argsL := [(.ref y), (.int (0 : Int32)), (.int (3 : Int32))]) (rest := []) (W := 0) (own_sp2 l Z a0 hb0 hw x y ai _ d0 K0 k0 d1 K1 k1 d2 K2 k2) (by decide) (by decide) (by decide) (by decide) (g := (mkF m 11 #[.val (.ref x), .val (.ref ai)] [(.int (3 : Int32)), (.int (0 : Int32)), (.ref y), (.ref x)])) rfl (by rw [hml]; rfl) (lenOf own_pd9 rfl) rfl (by show 2 * 0 + _ ≤ _; exact Nat.le_of_eq rfl) (hb hby d2_11)
  obtain ⟨w0, w1, rfl, rfl⟩ := qo4
  change own_S _ _ _ _ _ _ _ _ _ _ _ _ _ _ [(ai, own_A .double [.double d0, .double d1, .double d2]), (x, own_O "com/example/tidewise/tidewise/model/SpeedProfile" [("com/example/tidewise/tidewise/model/SpeedProfile", "speeds", "[D", .ref y), ("com/example/tidewise/tidewise/model/SpeedProfile", "offset", "I", .int 0), ("com/example/tidewise/tidewise/model/SpeedProfile", "slotCount", "I", .int 3), ("com/example/tidewise/tidewise/model/SpeedProfile", "slotSeconds", "D", .double w0), ("com/example/tidewise/tidewise/model/SpeedProfile", "metresPerDay", "D", .double w1), ("com/example/tidewise/tidewise/model/SpeedProfile", "lowestSpeed", "D", .double (own_mn d2 (own_mn d1 d0))), ("com/example/tidewise/tidewise/model/SpeedProfile", "highestSpeed", "D", .double (own_mx d2 (own_mx d1 d0)))]), (y, own_A .double [.double d0, .double d1, .double d2])] _ _ at Ho4
  refine ⟨_, _, _, _, 14, #[.val (.ref x), .val (.ref ai)], Ho4, by decide, by decide, Or.inl ⟨rfl, ⟨y, w0, w1, rfl, rfl⟩, d2_14, fun target q => ?_⟩⟩
  refine own_go H0 hx hZ hown hby hw own_K2_ok (own_o0 x ai) _ ?_
  refine sto1 _ ?_
  refine sto2 _ ?_
  refine own_go Ho2 hx hZ hown hby hw own_K2_ok (own_o1 x ai y) _ ?_
  refine own_arrlen Ho2 hx hZ 0 rfl (z := (3 : Int32)) rfl (g := (mkF m 10 #[.val (.ref x), .val (.ref ai)] [(.ref ai), (.int (0 : Int32)), (.ref y), (.ref x)])) rfl rfl (hb hby d2_10) _ ?_
  refine sto4 _ ?_
  exact q
theorem own_a0 (x : Addr) :
    own_Go own_K6 jdk_30_method_1_code 0 #[.val (.ref x)] [] 1 #[.val (.ref x)] [(.ref x)] := by
  refine own_aloadN (pc2 := 1) d6_0 rfl rfl rfl ?_
  exact own_refl
set_option maxRecDepth 65536 in
set_option maxHeartbeats 4000000 in
theorem own_rec (l : Launch) (Z : State) (a0 : Array Value) (hb0 : own_Base) (hw : ∀ d ∈ tables_1, d.before a0 Z = true) (x : Addr) (cs : List (Addr × own_Cel)) :
    own_Met l Z a0 hb0 (⟨"java/lang/Record", "<init>", "()V"⟩ : MethodName) jdk_30_method_1_code 1 none [] ({ frames := 1, cells := 0, slots := 0, locals := 12 } : Room) #[(.ref x)] cs (fun v cs' => v = none ∧ cs' = cs) := by
  refine own_met_of (L0 := #[.val (.ref x)]) (plainFor_of_name own_pn6) (fun m => own_ef6 m x) ?_
  intro p e s m below meth c T0 hx hZ hown hby hml hnm H0
  obtain ⟨Ta1, Ha1, sta1⟩ := own_initO H0 hx hZ hown (hw _ (List.mem_of_getElem? (i := 57) rfl)) (hw _ (List.mem_of_getElem? (i := 27) rfl)) (hw _ (List.mem_of_getElem? (i := 28) rfl)) (g := (mkF m 1 #[.val (.ref x)] [(.ref x)])) rfl (by rw [hml]; rfl) rfl (hb hby d6_1) (by decide) (W := 0) (by show 2 * 0 + _ ≤ _; exact Nat.le_of_eq rfl) (by decide)
  refine ⟨_, _, _, _, 4, #[.val (.ref x)], Ha1, by decide, by decide, Or.inl ⟨rfl, ⟨rfl, rfl⟩, d6_4, fun target q => ?_⟩⟩
  refine own_go H0 hx hZ hown hby hw own_K6_ok (own_a0 x) _ ?_
  refine sta1 _ ?_
  exact q
theorem own_if0 (v : UInt64) :
    own_Go own_K7 jdk_117_method_7_code 0 #[.val (.double v), .second] [] 1 #[.val (.double v), .second] [(.double v)] := by
  refine own_dloadN (pc2 := 1) d7_0 rfl rfl ?_
  exact own_refl
theorem own_if1 (v : UInt64) (v7 : Int32) (hv7 : (cmpValue (FP.dcmp (v &&& 0x7fffffffffffffff) (9218868437227405311 : UInt64)) .l) = v7) (hb8 : ifCond.holds .le v7 = true) :
    own_Go own_K7 jdk_117_method_7_code 4 #[.val (.double v), .second] [(.double (v &&& 0x7fffffffffffffff))] 16 #[.val (.double v), .second] [(.int (0 : Int32))] := by
  refine own_ldc2D (v := (9218868437227405311 : UInt64)) (pc2 := 7) d7_4 rfl (List.mem_of_getElem? (i := 0) rfl) ?_
  refine own_dcmp (pc2 := 8) d7_7 rfl (v := v7) hv7 ?_
  refine own_ifYes (pc' := 15) d7_8 hb8 (by decide) (by decide) ?_
  refine own_iconst (v := 0) (pc2 := 16) d7_15 rfl rfl ?_
  exact own_refl
set_option maxRecDepth 65536 in
set_option maxHeartbeats 4000000 in
theorem own_isinf (l : Launch) (Z : State) (a0 : Array Value) (hb0 : own_Base) (hw : ∀ d ∈ tables_1, d.before a0 Z = true) (v : UInt64) (hf : Jvm.Free.Fl.Fin64 v) (cs : List (Addr × own_Cel)) :
    own_Met l Z a0 hb0 (⟨"java/lang/Double", "isInfinite", "(D)Z"⟩ : MethodName) jdk_117_method_7_code 2 (some .boolean) [] ({ frames := 1, cells := 0, slots := 0, locals := 13 } : Room) #[(.double v)] cs (fun r cs' => r = some (.int 0) ∧ cs' = cs) := by
  refine own_met_of (L0 := #[.val (.double v), .second]) (plainFor_of_name own_pn7) (fun m => own_ef7 m v) ?_
  have hn := hf.noNaN
  intro p e s m below meth c T0 hx hZ hown hby hml hnm H0
  obtain ⟨Tif1, Hif1, stif1⟩ := own_absD H0 hx hZ hown (hw _ (List.mem_of_getElem? (i := 62) rfl)) (hw _ (List.mem_of_getElem? (i := 63) rfl)) (hw _ (List.mem_of_getElem? (i := 64) rfl)) (hw _ (List.mem_of_getElem? (i := 65) rfl)) hn (W := 0) (rest := []) (by decide) (by decide) (by decide) (by decide) (g := (mkF m 1 #[.val (.double v), .second] [(.double v)])) rfl (by rw [hml]; rfl) rfl (by show 2 * 0 + _ ≤ _; exact Nat.le_of_eq rfl) (hb hby d7_1)
  obtain ⟨v7, hv7⟩ : ∃ z : Int32, (cmpValue (FP.dcmp (v &&& 0x7fffffffffffffff) (9218868437227405311 : UInt64)) .l) = z := ⟨_, rfl⟩
  have hb8 : ifCond.holds .le v7 = true := by rw [← hv7]; exact own_maxv hf
  refine ⟨_, _, _, _, 16, #[.val (.double v), .second], Hif1, by decide, by decide, Or.inr ⟨.boolean, (.int (0 : Int32)), [], .ireturn, rfl, ⟨rfl, rfl⟩, d7_16, own_retZ (Or.inl rfl), fun target q => ?_⟩⟩
  refine own_go H0 hx hZ hown hby hw own_K7_ok (own_if0 v) _ ?_
  refine stif1 _ ?_
  refine own_go Hif1 hx hZ hown hby hw own_K7_ok (own_if1 v v7 hv7 hb8) _ ?_
  exact q
theorem own_rq0 (x : Addr) (st : Addr) :
    own_Go own_K9 jdk_31_method_11_code 0 #[.val (.ref x), .val (.ref st)] [] 14 #[.val (.ref x), .val (.ref st)] [(.ref x)] := by
  refine own_aloadN (pc2 := 1) d9_0 rfl rfl rfl ?_
  refine own_ifnonnullYes (pc' := 13) d9_1 (by decide) (by decide) ?_
  refine own_aloadN (pc2 := 14) d9_13 rfl rfl rfl ?_
  exact own_refl
set_option maxRecDepth 65536 in
set_option maxHeartbeats 4000000 in
theorem own_req (l : Launch) (Z : State) (a0 : Array Value) (hb0 : own_Base) (hw : ∀ d ∈ tables_1, d.before a0 Z = true) (x : Addr) (st : Addr) (cs : List (Addr × own_Cel)) :
    own_Met l Z a0 hb0 (⟨"java/util/Objects", "requireNonNull", "(Ljava/lang/Object;Ljava/lang/String;)Ljava/lang/Object;"⟩ : MethodName) jdk_31_method_11_code 2 (some (.object "java/lang/Object")) [] ({ frames := 0, cells := 0, slots := 0, locals := 0 } : Room) #[(.ref x), (.ref st)] cs (fun r cs' => r = some (.ref x) ∧ cs' = cs) := by
  refine own_met_of (L0 := #[.val (.ref x), .val (.ref st)]) (plainFor_of_name own_pn9) (fun m => own_ef9 m x st) ?_
  intro p e s m below meth c T0 hx hZ hown hby hml hnm H0
  refine ⟨_, _, _, _, 14, #[.val (.ref x), .val (.ref st)], H0, by decide, by decide, Or.inr ⟨(.object "java/lang/Object"), (.ref x), [], .areturn, rfl, ⟨rfl, rfl⟩, d9_14, own_retO _, fun target q => ?_⟩⟩
  refine own_go H0 hx hZ hown hby hw own_K9_ok (own_rq0 x st) _ ?_
  exact q
theorem own_low_0 (x : Addr) :
    own_Go own_K10 prog_70_method_6_code 0 #[.val (.ref x)] [] 1 #[.val (.ref x)] [(.ref x)] := by
  refine own_aloadN (pc2 := 1) d10_0 rfl rfl rfl ?_
  exact own_refl
set_option maxRecDepth 65536 in
set_option maxHeartbeats 4000000 in
theorem own_low (l : Launch) (Z : State) (a0 : Array Value) (hb0 : own_Base) (hw : ∀ d ∈ tables_1, d.before a0 Z = true) (x : Addr) (ai y z : Addr) (qa qy qz : own_Cel) (w0 w1 lo hi : UInt64) :
    own_Met l Z a0 hb0 (⟨"com/example/tidewise/tidewise/model/SpeedProfile", "lowestSpeed", "()D"⟩ : MethodName) prog_70_method_6_code 1 (some .double) [] ({ frames := 0, cells := 0, slots := 0, locals := 0 } : Room) #[(.ref x)] [(ai, qa), (x, own_O "com/example/tidewise/tidewise/model/SpeedProfile" [("com/example/tidewise/tidewise/model/SpeedProfile", "speeds", "[D", .ref y), ("com/example/tidewise/tidewise/model/SpeedProfile", "offset", "I", .int 0), ("com/example/tidewise/tidewise/model/SpeedProfile", "slotCount", "I", .int 3), ("com/example/tidewise/tidewise/model/SpeedProfile", "slotSeconds", "D", .double w0), ("com/example/tidewise/tidewise/model/SpeedProfile", "metresPerDay", "D", .double w1), ("com/example/tidewise/tidewise/model/SpeedProfile", "lowestSpeed", "D", .double lo), ("com/example/tidewise/tidewise/model/SpeedProfile", "highestSpeed", "D", .double hi)]), (y, qy), (z, qz)] (fun r cs' => r = some (.double lo) ∧ cs' = [(ai, qa), (x, own_O "com/example/tidewise/tidewise/model/SpeedProfile" [("com/example/tidewise/tidewise/model/SpeedProfile", "speeds", "[D", .ref y), ("com/example/tidewise/tidewise/model/SpeedProfile", "offset", "I", .int 0), ("com/example/tidewise/tidewise/model/SpeedProfile", "slotCount", "I", .int 3), ("com/example/tidewise/tidewise/model/SpeedProfile", "slotSeconds", "D", .double w0), ("com/example/tidewise/tidewise/model/SpeedProfile", "metresPerDay", "D", .double w1), ("com/example/tidewise/tidewise/model/SpeedProfile", "lowestSpeed", "D", .double lo), ("com/example/tidewise/tidewise/model/SpeedProfile", "highestSpeed", "D", .double hi)]), (y, qy), (z, qz)]) := by
  refine own_met_of (L0 := #[.val (.ref x)]) (plainFor_of_name own_pn10) (fun m => own_ef10 m x) ?_
  intro p e s m below meth c T0 hx hZ hown hby hml hnm H0
  obtain ⟨Tlow_1, Hlow_1, stlow_1⟩ := own_getF H0 hx hZ hown (hw _ (List.mem_of_getElem? (i := 42) rfl)) 1 5 rfl rfl (g := (mkF m 1 #[.val (.ref x)] [(.ref x)])) rfl rfl (hb hby d10_1)
  change own_S _ _ _ _ _ _ _ _ _ _ _ _ _ _ [(ai, qa), (x, own_O "com/example/tidewise/tidewise/model/SpeedProfile" [("com/example/tidewise/tidewise/model/SpeedProfile", "speeds", "[D", .ref y), ("com/example/tidewise/tidewise/model/SpeedProfile", "offset", "I", .int 0), ("com/example/tidewise/tidewise/model/SpeedProfile", "slotCount", "I", .int 3), ("com/example/tidewise/tidewise/model/SpeedProfile", "slotSeconds", "D", .double w0), ("com/example/tidewise/tidewise/model/SpeedProfile", "metresPerDay", "D", .double w1), ("com/example/tidewise/tidewise/model/SpeedProfile", "lowestSpeed", "D", .double lo), ("com/example/tidewise/tidewise/model/SpeedProfile", "highestSpeed", "D", .double hi)]), (y, qy), (z, qz)] _ _ at Hlow_1
  refine ⟨_, _, _, _, 4, #[.val (.ref x)], Hlow_1, by decide, by decide, Or.inr ⟨.double, (.double lo), [], .dreturn, rfl, ⟨rfl, rfl⟩, d10_4, own_retD _, fun target q => ?_⟩⟩
  refine own_go H0 hx hZ hown hby hw own_K10_ok (own_low_0 x) _ ?_
  refine stlow_1 _ ?_
  exact q
theorem own_sf0 (z : Addr) (le : UInt64) (x : Addr) :
    own_Go own_K5 prog_72_method_1_code 0 #[.val (.ref z), .val (.double le), .second, .val (.ref x), .unset, .unset] [] 1 #[.val (.ref z), .val (.double le), .second, .val (.ref x), .unset, .unset] [(.ref z)] := by
  refine own_aloadN (pc2 := 1) d5_0 rfl rfl rfl ?_
  exact own_refl
theorem own_sf1 (z : Addr) (le : UInt64) (x : Addr) (v6 : Int32) (hv6 : (cmpValue (FP.dcmp le (0 : UInt64)) .l) = v6) (hb7 : ifCond.holds .lt v6 = false) :
    own_Go own_K5 prog_72_method_1_code 4 #[.val (.ref z), .val (.double le), .second, .val (.ref x), .unset, .unset] [] 11 #[.val (.ref z), .val (.double le), .second, .val (.ref x), .unset, .unset] [(.double le)] := by
  refine own_dloadN (pc2 := 5) d5_4 rfl rfl ?_
  refine own_dconst0 (v := 0) (pc2 := 6) d5_5 rfl rfl ?_
  refine own_dcmp (pc2 := 7) d5_6 rfl (v := v6) hv6 ?_
  refine own_ifNo (pc2 := 10) d5_7 rfl hb7 ?_
  refine own_dloadN (pc2 := 11) d5_10 rfl rfl ?_
  exact own_refl
theorem own_sf2 (z : Addr) (le : UInt64) (x : Addr) :
    own_Go own_K5 prog_72_method_1_code 14 #[.val (.ref z), .val (.double le), .second, .val (.ref x), .unset, .unset] [(.int (0 : Int32))] 32 #[.val (.ref z), .val (.double le), .second, .val (.ref x), .unset, .unset] [(.ref x)] := by
  refine own_ifYes (pc' := 31) d5_14 (by decide) (by decide) (by decide) ?_
  refine own_aloadN (pc2 := 32) d5_31 rfl rfl rfl ?_
  exact own_refl
theorem own_sf3 (z : Addr) (le : UInt64) (x : Addr) :
    own_Go own_K5 prog_72_method_1_code 37 #[.val (.ref z), .val (.double le), .second, .val (.ref x), .unset, .unset] [(.ref x)] 40 #[.val (.ref z), .val (.double le), .second, .val (.ref x), .unset, .unset] [(.ref x), (.double le)] := by
  refine own_pop (pc2 := 38) d5_37 rfl rfl ?_
  refine own_dloadN (pc2 := 39) d5_38 rfl rfl ?_
  refine own_aloadN (pc2 := 40) d5_39 rfl rfl rfl ?_
  exact own_refl
theorem own_sf4 (z : Addr) (le : UInt64) (x : Addr) (lo : UInt64) (v43 : UInt64) (hv43 : (FP.ddiv le lo) = v43) (nn43 : NoNaN64 (FP.ddiv le lo)) (v51 : Int32) (hv51 : (cmpValue (FP.dcmp v43 (4741671816366391296 : UInt64)) .l) = v51) (hb52 : ifCond.holds .le v51 = true) :
    own_Go own_K5 prog_72_method_1_code 43 #[.val (.ref z), .val (.double le), .second, .val (.ref x), .unset, .unset] [(.double lo), (.double le)] 77 #[.val (.ref z), .val (.double le), .second, .val (.ref x), .val (.double v43), .second] [(.double le), (.ref z)] := by
  refine own_ddiv (pc2 := 44) d5_43 rfl nn43 (v := v43) hv43 ?_
  refine own_dstore (pc2 := 46) d5_44 rfl (L' := #[.val (.ref z), .val (.double le), .second, .val (.ref x), .val (.double v43), .second]) rfl ?_
  refine own_dload (pc2 := 48) d5_46 rfl rfl ?_
  refine own_ldc2D (v := (4741671816366391296 : UInt64)) (pc2 := 51) d5_48 rfl (List.mem_of_getElem? (i := 0) rfl) ?_
  refine own_dcmp (pc2 := 52) d5_51 rfl (v := v51) hv51 ?_
  refine own_ifYes (pc' := 75) d5_52 hb52 (by decide) (by decide) ?_
  refine own_aloadN (pc2 := 76) d5_75 rfl rfl rfl ?_
  refine own_dloadN (pc2 := 77) d5_76 rfl rfl ?_
  exact own_refl
theorem own_sf5 (z : Addr) (le : UInt64) (x : Addr) (v43 : UInt64) :
    own_Go own_K5 prog_72_method_1_code 80 #[.val (.ref z), .val (.double le), .second, .val (.ref x), .val (.double v43), .second] [] 82 #[.val (.ref z), .val (.double le), .second, .val (.ref x), .val (.double v43), .second] [(.ref x), (.ref z)] := by
  refine own_aloadN (pc2 := 81) d5_80 rfl rfl rfl ?_
  refine own_aloadN (pc2 := 82) d5_81 rfl rfl rfl ?_
  exact own_refl
set_option maxRecDepth 65536 in
set_option maxHeartbeats 4000000 in
theorem own_sfm (l : Launch) (Z : State) (a0 : Array Value) (hb0 : own_Base) (hw : ∀ d ∈ tables_1, d.before a0 Z = true) (z : Addr) (le : UInt64) (x : Addr) (ai y : Addr) (qa qy : own_Cel) (w0 w1 lo hi : UInt64) (rl : Rat) (KL : Int) (il : own_is le rl) (l0 : 0 ≤ rl) (l1 : rl ≤ 40000000) (kl : own_spd lo KL) :
    own_MetW l Z a0 hb0 (⟨"com/example/tidewise/tidewise/model/SpeedProfileFunction", "<init>", "(DLcom/example/tidewise/tidewise/model/SpeedProfile;)V"⟩ : MethodName) prog_72_method_1_code 6 none [] ({ frames := 3, cells := 2, slots := 32, locals := 40 } : Room) #[(.ref z), (.double le), (.ref x)] [(ai, qa), (x, own_O "com/example/tidewise/tidewise/model/SpeedProfile" [("com/example/tidewise/tidewise/model/SpeedProfile", "speeds", "[D", .ref y), ("com/example/tidewise/tidewise/model/SpeedProfile", "offset", "I", .int 0), ("com/example/tidewise/tidewise/model/SpeedProfile", "slotCount", "I", .int 3), ("com/example/tidewise/tidewise/model/SpeedProfile", "slotSeconds", "D", .double w0), ("com/example/tidewise/tidewise/model/SpeedProfile", "metresPerDay", "D", .double w1), ("com/example/tidewise/tidewise/model/SpeedProfile", "lowestSpeed", "D", .double lo), ("com/example/tidewise/tidewise/model/SpeedProfile", "highestSpeed", "D", .double hi)]), (y, qy), (z, own_O "com/example/tidewise/tidewise/model/SpeedProfileFunction" [("com/example/tidewise/tidewise/model/SpeedProfileFunction", "length", "D", .double 0), ("com/example/tidewise/tidewise/model/SpeedProfileFunction", "profile", "Lcom/example/tidewise/tidewise/model/SpeedProfile;", .null)])] (fun r cs' => r = none ∧ cs' = [(ai, qa), (x, own_O "com/example/tidewise/tidewise/model/SpeedProfile" [("com/example/tidewise/tidewise/model/SpeedProfile", "speeds", "[D", .ref y), ("com/example/tidewise/tidewise/model/SpeedProfile", "offset", "I", .int 0), ("com/example/tidewise/tidewise/model/SpeedProfile", "slotCount", "I", .int 3), ("com/example/tidewise/tidewise/model/SpeedProfile", "slotSeconds", "D", .double w0), ("com/example/tidewise/tidewise/model/SpeedProfile", "metresPerDay", "D", .double w1), ("com/example/tidewise/tidewise/model/SpeedProfile", "lowestSpeed", "D", .double lo), ("com/example/tidewise/tidewise/model/SpeedProfile", "highestSpeed", "D", .double hi)]), (y, qy), (z, own_O "com/example/tidewise/tidewise/model/SpeedProfileFunction" [("com/example/tidewise/tidewise/model/SpeedProfileFunction", "length", "D", .double le), ("com/example/tidewise/tidewise/model/SpeedProfileFunction", "profile", "Lcom/example/tidewise/tidewise/model/SpeedProfile;", .ref x)])]) := by
  refine own_met_ofW (L0 := #[.val (.ref z), .val (.double le), .second, .val (.ref x), .unset, .unset]) (plainFor_of_name own_pn5) (fun m => own_ef5 m z le x) ?_
  intro p e s m below meth c T0 hx hZ hown hby hml hnm H0
  obtain ⟨Tsf1, vsf1_, cssf1_, qsf1, Hsf1, stsf1⟩ := own_callI H0 hx hZ hown rfl (hw _ (List.mem_of_getElem? (i := 52) rfl)) (hw _ (List.mem_of_getElem? (i := 53) rfl)) (hw _ (List.mem_of_getElem? (i := 55) rfl)) (hw _ (List.mem_of_getElem? (i := 56) rfl)) (by decide) (x := z) (argsL := []) (rest := []) (W := 0) (own_rec l Z a0 hb0 hw z _) (by decide) (by decide) (by decide) (by decide) (g := (mkF m 1 #[.val (.ref z), .val (.double le), .second, .val (.ref x), .unset, .unset] [(.ref z)])) rfl (by rw [hml]; rfl) (lenOf own_pd1 rfl) rfl (by show 2 * 0 + _ ≤ _; exact Nat.le_of_eq rfl) (hb hby d5_1)
  obtain ⟨rfl, rfl⟩ := qsf1
  change own_S _ _ _ _ _ _ _ _ _ _ _ _ _ _ [(ai, qa), (x, own_O "com/example/tidewise/tidewise/model/SpeedProfile" [("com/example/tidewise/tidewise/model/SpeedProfile", "speeds", "[D", .ref y), ("com/example/tidewise/tidewise/model/SpeedProfile", "offset", "I", .int 0), ("com/example/tidewise/tidewise/model/SpeedProfile", "slotCount", "I", .int 3), ("com/example/tidewise/tidewise/model/SpeedProfile", "slotSeconds", "D", .double w0), ("com/example/tidewise/tidewise/model/SpeedProfile", "metresPerDay", "D", .double w1), ("com/example/tidewise/tidewise/model/SpeedProfile", "lowestSpeed", "D", .double lo), ("com/example/tidewise/tidewise/model/SpeedProfile", "highestSpeed", "D", .double hi)]), (y, qy), (z, own_O "com/example/tidewise/tidewise/model/SpeedProfileFunction" [("com/example/tidewise/tidewise/model/SpeedProfileFunction", "length", "D", .double 0), ("com/example/tidewise/tidewise/model/SpeedProfileFunction", "profile", "Lcom/example/tidewise/tidewise/model/SpeedProfile;", .null)])] _ _ at Hsf1
  obtain ⟨v6, hv6⟩ : ∃ z : Int32, (cmpValue (FP.dcmp le (0 : UInt64)) .l) = z := ⟨_, rfl⟩
  obtain ⟨Tsf2, vsf2_, cssf2_, qsf2, Hsf2, stsf2⟩ := own_callS Hsf1 hx hZ hown (hw _ (List.mem_of_getElem? (i := 58) rfl)) (hw _ (List.mem_of_getElem? (i := 59) rfl)) (hw _ (List.mem_of_getElem? (i := 60) rfl)) (hw _ (List.mem_of_getElem? (i := 61) rfl)) (by decide) (argsL := [(.double le)]) (rest := []) (W := 0) (own_isinf l Z a0 hb0 hw le (own_is_fin il) _) (by decide) (by decide) (by decide) (by decide) (g := (mkF m 11 #[.val (.ref z), .val (.double le), .second, .val (.ref x), .unset, .unset] [(.double le)])) rfl (by rw [hml]; rfl) (lenOf own_pd3 rfl) rfl (by show 2 * 0 + _ ≤ _; exact Nat.le_of_eq rfl) (hb hby d5_11)
  obtain ⟨rfl, rfl⟩ := qsf2
  change own_S _ _ _ _ _ _ _ _ _ _ _ _ _ _ [(ai, qa), (x, own_O "com/example/tidewise/tidewise/model/SpeedProfile" [("com/example/tidewise/tidewise/model/SpeedProfile", "speeds", "[D", .ref y), ("com/example/tidewise/tidewise/model/SpeedProfile", "offset", "I", .int 0), ("com/example/tidewise/tidewise/model/SpeedProfile", "slotCount", "I", .int 3), ("com/example/tidewise/tidewise/model/SpeedProfile", "slotSeconds", "D", .double w0), ("com/example/tidewise/tidewise/model/SpeedProfile", "metresPerDay", "D", .double w1), ("com/example/tidewise/tidewise/model/SpeedProfile", "lowestSpeed", "D", .double lo), ("com/example/tidewise/tidewise/model/SpeedProfile", "highestSpeed", "D", .double hi)]), (y, qy), (z, own_O "com/example/tidewise/tidewise/model/SpeedProfileFunction" [("com/example/tidewise/tidewise/model/SpeedProfileFunction", "length", "D", .double 0), ("com/example/tidewise/tidewise/model/SpeedProfileFunction", "profile", "Lcom/example/tidewise/tidewise/model/SpeedProfile;", .null)])] _ _ at Hsf2
  obtain ⟨st, Tsf3, Hsf3, hS1, hfl1, hZ1, hown1, stsf3⟩ := own_ldcS Hsf2 hx hZ hown (hw _ (List.mem_of_getElem? (i := 67) rfl)) (own_strAtoms hw) (g := (mkF m 32 #[.val (.ref z), .val (.double le), .second, .val (.ref x), .unset, .unset] [(.ref x)])) rfl (hb hby d5_32) (N := 28) (by decide) (by decide) (by decide) (by decide)
  obtain ⟨Tsf4, vsf4_, cssf4_, qsf4, Hsf4, stsf4⟩ := own_callS Hsf3 hx hZ1 hown1 (hw _ (List.mem_of_getElem? (i := 75) rfl)) (hw _ (List.mem_of_getElem? (i := 76) rfl)) (hw _ (List.mem_of_getElem? (i := 77) rfl)) (hw _ (List.mem_of_getElem? (i := 78) rfl)) (by decide) (argsL := [(.ref x), (.ref st)]) (rest := []) (W := 0) (own_req l Z a0 ⟨hb0.b, Tsf3.heap.size⟩ hw x st _) (by decide) (by decide) (by decide) (by decide) (g := (mkF m 34 #[.val (.ref z), .val (.double le), .second, .val (.ref x), .unset, .unset] [(.ref st), (.ref x)])) rfl (by rw [hml]; rfl) (lenOf own_pd7 rfl) rfl (by show 2 * 0 + _ ≤ _; exact Nat.le_of_eq rfl) (hb hby d5_34)
  obtain ⟨rfl, rfl⟩ := qsf4
  change own_S _ _ _ _ _ _ _ _ _ _ _ _ _ _ [(ai, qa), (x, own_O "com/example/tidewise/tidewise/model/SpeedProfile" [("com/example/tidewise/tidewise/model/SpeedProfile", "speeds", "[D", .ref y), ("com/example/tidewise/tidewise/model/SpeedProfile", "offset", "I", .int 0), ("com/example/tidewise/tidewise/model/SpeedProfile", "slotCount", "I", .int 3), ("com/example/tidewise/tidewise/model/SpeedProfile", "slotSeconds", "D", .double w0), ("com/example/tidewise/tidewise/model/SpeedProfile", "metresPerDay", "D", .double w1), ("com/example/tidewise/tidewise/model/SpeedProfile", "lowestSpeed", "D", .double lo), ("com/example/tidewise/tidewise/model/SpeedProfile", "highestSpeed", "D", .double hi)]), (y, qy), (z, own_O "com/example/tidewise/tidewise/model/SpeedProfileFunction" [("com/example/tidewise/tidewise/model/SpeedProfileFunction", "length", "D", .double 0), ("com/example/tidewise/tidewise/model/SpeedProfileFunction", "profile", "Lcom/example/tidewise/tidewise/model/SpeedProfile;", .null)])] _ _ at Hsf4
  obtain ⟨Tsf5, vsf5_, cssf5_, qsf5, Hsf5, stsf5⟩ := own_callV Hsf4 hx hZ1 hown1 (hw _ (List.mem_of_getElem? (i := 79) rfl)) (hw _ (List.mem_of_getElem? (i := 80) rfl)) (hw _ (List.mem_of_getElem? (i := 82) rfl)) (hw _ (List.mem_of_getElem? (i := 81) rfl)) (hw _ (List.mem_of_getElem? (i := 10) rfl)) (hw _ (List.mem_of_getElem? (i := 83) rfl)) (by decide) (x := x) 1 rfl (argsL := []) (rest := [(.double le)]) (W := 2) (own_low l Z a0 ⟨hb0.b, Tsf3.heap.size⟩ hw x ai y z _ _ _ w0 w1 lo hi) (by decide) (by decide) (by decide) (by decide) (g := (mkF m 40 #[.val (.ref z), .val (.double le), .second, .val (.ref x), .unset, .unset] [(.ref x), (.double le)])) rfl (by rw [hml]; rfl) (lenOf own_pd0 rfl) rfl (by show 2 * 0 + _ ≤ _; exact Nat.le_of_eq rfl) (hb hby d5_40)
  obtain ⟨rfl, rfl⟩ := qsf5
  change own_S _ _ _ _ _ _ _ _ _ _ _ _ _ _ [(ai, qa), (x, own_O "com/example/tidewise/tidewise/model/SpeedProfile" [("com/example/tidewise/tidewise/model/SpeedProfile", "speeds", "[D", .ref y), ("com/example/tidewise/tidewise/model/SpeedProfile", "offset", "I", .int 0), ("com/example/tidewise/tidewise/model/SpeedProfile", "slotCount", "I", .int 3), ("com/example/tidewise/tidewise/model/SpeedProfile", "slotSeconds", "D", .double w0), ("com/example/tidewise/tidewise/model/SpeedProfile", "metresPerDay", "D", .double w1), ("com/example/tidewise/tidewise/model/SpeedProfile", "lowestSpeed", "D", .double lo), ("com/example/tidewise/tidewise/model/SpeedProfile", "highestSpeed", "D", .double hi)]), (y, qy), (z, own_O "com/example/tidewise/tidewise/model/SpeedProfileFunction" [("com/example/tidewise/tidewise/model/SpeedProfileFunction", "length", "D", .double 0), ("com/example/tidewise/tidewise/model/SpeedProfileFunction", "profile", "Lcom/example/tidewise/tidewise/model/SpeedProfile;", .null)])] _ _ at Hsf5
  obtain ⟨v43, hv43⟩ : ∃ z : UInt64, (FP.ddiv le lo) = z := ⟨_, rfl⟩
  obtain ⟨v51, hv51⟩ : ∃ z : Int32, (cmpValue (FP.dcmp v43 (4741671816366391296 : UInt64)) .l) = z := ⟨_, rfl⟩
  obtain ⟨Tsf6, Hsf6, stsf6⟩ := own_putF Hsf5 hx hZ1 hown1 (hw _ (List.mem_of_getElem? (i := 85) rfl)) 3 0 rfl rfl (Or.inr ⟨(hw _ (List.mem_of_getElem? (i := 86) rfl)), rfl, hnm⟩) (hw _ (List.mem_of_getElem? (i := 47) rfl)) (ty := .double) (by decide) rfl rfl (g := (mkF m 77 #[.val (.ref z), .val (.double le), .second, .val (.ref x), .val (.double v43), .second] [(.double le), (.ref z)])) rfl rfl (hb hby d5_77)
  change own_S _ _ _ _ _ _ _ _ _ _ _ _ _ _ [(ai, qa), (x, own_O "com/example/tidewise/tidewise/model/SpeedProfile" [("com/example/tidewise/tidewise/model/SpeedProfile", "speeds", "[D", .ref y), ("com/example/tidewise/tidewise/model/SpeedProfile", "offset", "I", .int 0), ("com/example/tidewise/tidewise/model/SpeedProfile", "slotCount", "I", .int 3), ("com/example/tidewise/tidewise/model/SpeedProfile", "slotSeconds", "D", .double w0), ("com/example/tidewise/tidewise/model/SpeedProfile", "metresPerDay", "D", .double w1), ("com/example/tidewise/tidewise/model/SpeedProfile", "lowestSpeed", "D", .double lo), ("com/example/tidewise/tidewise/model/SpeedProfile", "highestSpeed", "D", .double hi)]), (y, qy), (z, own_O "com/example/tidewise/tidewise/model/SpeedProfileFunction" [("com/example/tidewise/tidewise/model/SpeedProfileFunction", "length", "D", .double le), ("com/example/tidewise/tidewise/model/SpeedProfileFunction", "profile", "Lcom/example/tidewise/tidewise/model/SpeedProfile;", .null)])] _ _ at Hsf6
  obtain ⟨Tsf7, Hsf7, stsf7⟩ := own_putF Hsf6 hx hZ1 hown1 (hw _ (List.mem_of_getElem? (i := 87) rfl)) 3 1 rfl rfl (Or.inr ⟨(hw _ (List.mem_of_getElem? (i := 88) rfl)), rfl, hnm⟩) (hw _ (List.mem_of_getElem? (i := 47) rfl)) (ty := (.object "com/example/tidewise/tidewise/model/SpeedProfile")) (by decide) rfl rfl (g := (mkF m 82 #[.val (.ref z), .val (.double le), .second, .val (.ref x), .val (.double v43), .second] [(.ref x), (.ref z)])) rfl rfl (hb hby d5_82)
  change own_S _ _ _ _ _ _ _ _ _ _ _ _ _ _ [(ai, qa), (x, own_O "com/example/tidewise/tidewise/model/SpeedProfile" [("com/example/tidewise/tidewise/model/SpeedProfile", "speeds", "[D", .ref y), ("com/example/tidewise/tidewise/model/SpeedProfile", "offset", "I", .int 0), ("com/example/tidewise/tidewise/model/SpeedProfile", "slotCount", "I", .int 3), ("com/example/tidewise/tidewise/model/SpeedProfile", "slotSeconds", "D", .double w0), ("com/example/tidewise/tidewise/model/SpeedProfile", "metresPerDay", "D", .double w1), ("com/example/tidewise/tidewise/model/SpeedProfile", "lowestSpeed", "D", .double lo), ("com/example/tidewise/tidewise/model/SpeedProfile", "highestSpeed", "D", .double hi)]), (y, qy), (z, own_O "com/example/tidewise/tidewise/model/SpeedProfileFunction" [("com/example/tidewise/tidewise/model/SpeedProfileFunction", "length", "D", .double le), ("com/example/tidewise/tidewise/model/SpeedProfileFunction", "profile", "Lcom/example/tidewise/tidewise/model/SpeedProfile;", .ref x)])] _ _ at Hsf7
  have hq := own_quo il l0 l1 kl
  have nn43 : NoNaN64 (FP.ddiv le lo) := hq.1
  have hb7 : ifCond.holds .lt v6 = false := by rw [← hv6, own_c_lt il own_zero]; exact decide_eq_false (Rat.not_lt.mpr l0)
  have hb52 : ifCond.holds .le v51 = true := by rw [← hv51, ← hv43]; exact hq.2.1
  refine ⟨Tsf3.vm, Tsf3.heap.size, _, _, _, _, 85, #[.val (.ref z), .val (.double le), .second, .val (.ref x), .val (.double v43), .second], hS1, hfl1, Hsf7, by decide, by decide, Or.inl ⟨rfl, ⟨rfl, rfl⟩, d5_85, fun target q => ?_⟩⟩
  refine own_go H0 hx hZ hown hby hw own_K5_ok (own_sf0 z le x) _ ?_
  refine stsf1 _ ?_
  refine own_go Hsf1 hx hZ hown hby hw own_K5_ok (own_sf1 z le x v6 hv6 hb7) _ ?_
  refine stsf2 _ ?_
  refine own_go Hsf2 hx hZ hown hby hw own_K5_ok (own_sf2 z le x) _ ?_
  refine stsf3 _ ?_
  refine stsf4 _ ?_
  refine own_go Hsf4 hx hZ1 hown1 hby hw own_K5_ok (own_sf3 z le x) _ ?_
  refine stsf5 _ ?_
  refine own_go Hsf5 hx hZ1 hown1 hby hw own_K5_ok (own_sf4 z le x lo v43 hv43 nn43 v51 hv51 hb52) _ ?_
  refine stsf6 _ ?_
  refine own_go Hsf6 hx hZ1 hown1 hby hw own_K5_ok (own_sf5 z le x v43) _ ?_
  refine stsf7 _ ?_
  exact q
theorem own_bd0 (z : Addr) :
    own_Go own_K12 prog_72_method_5_code 0 #[.val (.ref z)] [] 1 #[.val (.ref z)] [(.ref z)] := by
  refine own_aloadN (pc2 := 1) d12_0 rfl rfl rfl ?_
  exact own_refl
theorem own_bd1 (z : Addr) (le : UInt64) :
    own_Go own_K12 prog_72_method_5_code 4 #[.val (.ref z)] [(.double le)] 5 #[.val (.ref z)] [(.ref z), (.double le)] := by
  refine own_aloadN (pc2 := 5) d12_4 rfl rfl rfl ?_
  exact own_refl
theorem own_bd2 (z : Addr) (lo : UInt64) (le : UInt64) (v11 : UInt64) (hv11 : (FP.ddiv le lo) = v11) (nn11 : NoNaN64 (FP.ddiv le lo)) :
    own_Go own_K12 prog_72_method_5_code 11 #[.val (.ref z)] [(.double lo), (.double le)] 12 #[.val (.ref z)] [(.double v11)] := by
  refine own_ddiv (pc2 := 12) d12_11 rfl nn11 (v := v11) hv11 ?_
  exact own_refl
set_option maxRecDepth 65536 in
set_option maxHeartbeats 4000000 in
theorem own_bdm (l : Launch) (Z : State) (a0 : Array Value) (hb0 : own_Base) (hw : ∀ d ∈ tables_1, d.before a0 Z = true) (z : Addr) (x ai y : Addr) (qa qy : own_Cel) (w0 w1 lo hi le : UInt64) (nn11 : NoNaN64 (FP.ddiv le lo)) :
    own_Met l Z a0 hb0 (⟨"com/example/tidewise/tidewise/model/SpeedProfileFunction", "upperBound", "()D"⟩ : MethodName) prog_72_method_5_code 1 (some .double) [] ({ frames := 1, cells := 0, slots := 0, locals := 20 } : Room) #[(.ref z)] [(ai, qa), (x, own_O "com/example/tidewise/tidewise/model/SpeedProfile" [("com/example/tidewise/tidewise/model/SpeedProfile", "speeds", "[D", .ref y), ("com/example/tidewise/tidewise/model/SpeedProfile", "offset", "I", .int 0), ("com/example/tidewise/tidewise/model/SpeedProfile", "slotCount", "I", .int 3), ("com/example/tidewise/tidewise/model/SpeedProfile", "slotSeconds", "D", .double w0), ("com/example/tidewise/tidewise/model/SpeedProfile", "metresPerDay", "D", .double w1), ("com/example/tidewise/tidewise/model/SpeedProfile", "lowestSpeed", "D", .double lo), ("com/example/tidewise/tidewise/model/SpeedProfile", "highestSpeed", "D", .double hi)]), (y, qy), (z, own_O "com/example/tidewise/tidewise/model/SpeedProfileFunction" [("com/example/tidewise/tidewise/model/SpeedProfileFunction", "length", "D", .double le), ("com/example/tidewise/tidewise/model/SpeedProfileFunction", "profile", "Lcom/example/tidewise/tidewise/model/SpeedProfile;", .ref x)])] (fun r cs' => r = some (.double (FP.ddiv le lo)) ∧ cs' = [(ai, qa), (x, own_O "com/example/tidewise/tidewise/model/SpeedProfile" [("com/example/tidewise/tidewise/model/SpeedProfile", "speeds", "[D", .ref y), ("com/example/tidewise/tidewise/model/SpeedProfile", "offset", "I", .int 0), ("com/example/tidewise/tidewise/model/SpeedProfile", "slotCount", "I", .int 3), ("com/example/tidewise/tidewise/model/SpeedProfile", "slotSeconds", "D", .double w0), ("com/example/tidewise/tidewise/model/SpeedProfile", "metresPerDay", "D", .double w1), ("com/example/tidewise/tidewise/model/SpeedProfile", "lowestSpeed", "D", .double lo), ("com/example/tidewise/tidewise/model/SpeedProfile", "highestSpeed", "D", .double hi)]), (y, qy), (z, own_O "com/example/tidewise/tidewise/model/SpeedProfileFunction" [("com/example/tidewise/tidewise/model/SpeedProfileFunction", "length", "D", .double le), ("com/example/tidewise/tidewise/model/SpeedProfileFunction", "profile", "Lcom/example/tidewise/tidewise/model/SpeedProfile;", .ref x)])]) := by
  refine own_met_of (L0 := #[.val (.ref z)]) (plainFor_of_name own_pn12) (fun m => own_ef12 m z) ?_
  intro p e s m below meth c T0 hx hZ hown hby hml hnm H0
  obtain ⟨Tbd1, Hbd1, stbd1⟩ := own_getF H0 hx hZ hown (hw _ (List.mem_of_getElem? (i := 85) rfl)) 3 0 rfl rfl (g := (mkF m 1 #[.val (.ref z)] [(.ref z)])) rfl rfl (hb hby d12_1)
  change own_S _ _ _ _ _ _ _ _ _ _ _ _ _ _ [(ai, qa), (x, own_O "com/example/tidewise/tidewise/model/SpeedProfile" [("com/example/tidewise/tidewise/model/SpeedProfile", "speeds", "[D", .ref y), ("com/example/tidewise/tidewise/model/SpeedProfile", "offset", "I", .int 0), ("com/example/tidewise/tidewise/model/SpeedProfile", "slotCount", "I", .int 3), ("com/example/tidewise/tidewise/model/SpeedProfile", "slotSeconds", "D", .double w0), ("com/example/tidewise/tidewise/model/SpeedProfile", "metresPerDay", "D", .double w1), ("com/example/tidewise/tidewise/model/SpeedProfile", "lowestSpeed", "D", .double lo), ("com/example/tidewise/tidewise/model/SpeedProfile", "highestSpeed", "D", .double hi)]), (y, qy), (z, own_O "com/example/tidewise/tidewise/model/SpeedProfileFunction" [("com/example/tidewise/tidewise/model/SpeedProfileFunction", "length", "D", .double le), ("com/example/tidewise/tidewise/model/SpeedProfileFunction", "profile", "Lcom/example/tidewise/tidewise/model/SpeedProfile;", .ref x)])] _ _ at Hbd1
  obtain ⟨Tbd2, Hbd2, stbd2⟩ := own_getF Hbd1 hx hZ hown (hw _ (List.mem_of_getElem? (i := 87) rfl)) 3 1 rfl rfl (g := (mkF m 5 #[.val (.ref z)] [(.ref z), (.double le)])) rfl rfl (hb hby d12_5)
  change own_S _ _ _ _ _ _ _ _ _ _ _ _ _ _ [(ai, qa), (x, own_O "com/example/tidewise/tidewise/model/SpeedProfile" [("com/example/tidewise/tidewise/model/SpeedProfile", "speeds", "[D", .ref y), ("com/example/tidewise/tidewise/model/SpeedProfile", "offset", "I", .int 0), ("com/example/tidewise/tidewise/model/SpeedProfile", "slotCount", "I", .int 3), ("com/example/tidewise/tidewise/model/SpeedProfile", "slotSeconds", "D", .double w0), ("com/example/tidewise/tidewise/model/SpeedProfile", "metresPerDay", "D", .double w1), ("com/example/tidewise/tidewise/model/SpeedProfile", "lowestSpeed", "D", .double lo), ("com/example/tidewise/tidewise/model/SpeedProfile", "highestSpeed", "D", .double hi)]), (y, qy), (z, own_O "com/example/tidewise/tidewise/model/SpeedProfileFunction" [("com/example/tidewise/tidewise/model/SpeedProfileFunction", "length", "D", .double le), ("com/example/tidewise/tidewise/model/SpeedProfileFunction", "profile", "Lcom/example/tidewise/tidewise/model/SpeedProfile;", .ref x)])] _ _ at Hbd2
  obtain ⟨Tbd3, vbd3_, csbd3_, qbd3, Hbd3, stbd3⟩ := own_callV Hbd2 hx hZ hown (hw _ (List.mem_of_getElem? (i := 79) rfl)) (hw _ (List.mem_of_getElem? (i := 80) rfl)) (hw _ (List.mem_of_getElem? (i := 82) rfl)) (hw _ (List.mem_of_getElem? (i := 81) rfl)) (hw _ (List.mem_of_getElem? (i := 10) rfl)) (hw _ (List.mem_of_getElem? (i := 83) rfl)) (by decide) (x := x) 1 rfl (argsL := []) (rest := [(.double le)]) (W := 2) (own_low l Z a0 hb0 hw x ai y z _ _ _ w0 w1 lo hi) (by decide) (by decide) (by decide) (by decide) (g := (mkF m 8 #[.val (.ref z)] [(.ref x), (.double le)])) rfl (by rw [hml]; rfl) (lenOf own_pd0 rfl) rfl (by show 2 * 0 + _ ≤ _; exact Nat.le_of_eq rfl) (hb hby d12_8)
  obtain ⟨rfl, rfl⟩ := qbd3
  change own_S _ _ _ _ _ _ _ _ _ _ _ _ _ _ [(ai, qa), (x, own_O "com/example/tidewise/tidewise/model/SpeedProfile" [("com/example/tidewise/tidewise/model/SpeedProfile", "speeds", "[D", .ref y), ("com/example/tidewise/tidewise/model/SpeedProfile", "offset", "I", .int 0), ("com/example/tidewise/tidewise/model/SpeedProfile", "slotCount", "I", .int 3), ("com/example/tidewise/tidewise/model/SpeedProfile", "slotSeconds", "D", .double w0), ("com/example/tidewise/tidewise/model/SpeedProfile", "metresPerDay", "D", .double w1), ("com/example/tidewise/tidewise/model/SpeedProfile", "lowestSpeed", "D", .double lo), ("com/example/tidewise/tidewise/model/SpeedProfile", "highestSpeed", "D", .double hi)]), (y, qy), (z, own_O "com/example/tidewise/tidewise/model/SpeedProfileFunction" [("com/example/tidewise/tidewise/model/SpeedProfileFunction", "length", "D", .double le), ("com/example/tidewise/tidewise/model/SpeedProfileFunction", "profile", "Lcom/example/tidewise/tidewise/model/SpeedProfile;", .ref x)])] _ _ at Hbd3
  obtain ⟨v11, hv11⟩ : ∃ z : UInt64, (FP.ddiv le lo) = z := ⟨_, rfl⟩
  refine ⟨_, _, _, _, 12, #[.val (.ref z)], Hbd3, by decide, by decide, Or.inr ⟨.double, (.double v11), [], .dreturn, rfl, ⟨by rw [hv11], rfl⟩, d12_12, own_retD _, fun target q => ?_⟩⟩
  refine own_go H0 hx hZ hown hby hw own_K12_ok (own_bd0 z) _ ?_
  refine stbd1 _ ?_
  refine own_go Hbd1 hx hZ hown hby hw own_K12_ok (own_bd1 z le) _ ?_
  refine stbd2 _ ?_
  refine stbd3 _ ?_
  refine own_go Hbd3 hx hZ hown hby hw own_K12_ok (own_bd2 z lo le v11 hv11 nn11) _ ?_
  exact q

theorem own_bits (x y : Int32) (hy : (1 : Int32) + (x &&& 65535) = y) : 1 ≤ y.toInt ∧ y.toInt ≤ 65536 := by
  have h := c_mask x 65535 16 (by decide) (by decide)
  have h2 := c_iadd 1 (x &&& 65535)
  have := rng32 y
  rw [hy, show (1 : Int32).toInt = 1 from rfl] at h2
  omega
theorem own_dv {x : Int32} {k : UInt64} {K r : Rat} (hk : own_is k K) (h0 : K ≠ 0) (hr : own_Rep r) (he : ((x.toInt : Int) : Rat) / K = r) : own_is (FP.ddiv (FP.i2d x) k) r := by
  have h := own_div (own_isI x) hk h0
  rw [he] at h
  exact own_rd_rep h hr
theorem own_ef1 (m : MethodId) (x0 : Int32) : entryFrame m #[(.int x0)] 1 = mkF m 0 #[.val (.int x0)] [] := by first | (simp [entryFrame, mkF, argsToLocals, Value.category]; done) | rfl
theorem own_ef11 (m : MethodId) (x0 : UInt64) (x1 : UInt64) (x2 : UInt64) : entryFrame m #[(.double x0), (.double x1), (.double x2)] 8 = mkF m 0 #[.val (.double x0), .second, .val (.double x1), .second, .val (.double x2), .second, .unset, .unset] [] := by first | (simp [entryFrame, mkF, argsToLocals, Value.category]; done) | rfl

theorem own_sixteen : own_is 4625196817309499392 16 := ⟨false, 2 ^ 52, -48, by decide +kernel, by decide +kernel⟩
theorem own_sp16 {x : Int32} (h : 1 ≤ x.toInt ∧ x.toInt ≤ 65536) : own_spd (FP.ddiv (FP.i2d x) 4625196817309499392) x.toInt := by
  refine ⟨own_dv own_sixteen (by decide) ?_ rfl, by omega, by omega⟩
  exact own_rep_fix x.toInt 4 (by decide) (by show ((x.toInt : Int) : Rat) / 16 * 16 = _; grind) (by omega)
theorem own_so0 (vi : Int32) (v4 : Int32) (hv4 : (vi &&& (65535 : Int32)) = v4) (v5 : Int32) (hv5 : ((1 : Int32) + v4) = v5) (v6 : UInt64) (hv6 : (FP.i2d v5) = v6) (v10 : UInt64) (hv10 : (FP.ddiv v6 (4625196817309499392 : UInt64)) = v10) (nn10 : NoNaN64 (FP.ddiv v6 (4625196817309499392 : UInt64))) :
    own_Go own_K1 method_2_code 0 #[.val (.int vi)] [] 11 #[.val (.int vi)] [(.double v10)] := by
  refine own_iconst (v := 1) (pc2 := 1) d1_0 rfl rfl ?_
  refine own_iloadN (pc2 := 2) d1_1 rfl rfl ?_
  refine own_ldc (v := (65535 : Int32)) (pc2 := 4) d1_2 rfl (List.mem_of_getElem? (i := 0) rfl) ?_
  refine own_iand (pc2 := 5) d1_4 rfl (v := v4) hv4 ?_
  refine own_iadd (pc2 := 6) d1_5 rfl (v := v5) hv5 ?_
  refine own_i2d (pc2 := 7) d1_6 rfl (v := v6) hv6 ?_
  refine own_ldc2D (v := (4625196817309499392 : UInt64)) (pc2 := 10) d1_7 rfl (List.mem_of_getElem? (i := 1) rfl) ?_
  refine own_ddiv (pc2 := 11) d1_10 rfl nn10 (v := v10) hv10 ?_
  exact own_refl
set_option maxRecDepth 65536 in
set_option maxHeartbeats 4000000 in
theorem own_so (l : Launch) (Z : State) (a0 : Array Value) (hb0 : own_Base) (hw : ∀ d ∈ tables_1, d.before a0 Z = true) (vi : Int32) (cs : List (Addr × own_Cel)) :
    own_Met l Z a0 hb0 (⟨"com/example/tidewise/tidewise/model/SpeedProfileFunctionUpperBoundPinLaw", "speedOf", "(I)D"⟩ : MethodName) method_2_code 1 (some .double) [] ({ frames := 0, cells := 0, slots := 0, locals := 0 } : Room) #[(.int vi)] cs (fun r cs' => ∃ d K, own_spd d K ∧ r = some (.double d) ∧ cs' = cs) := by
  refine own_met_of (L0 := #[.val (.int vi)]) (plainFor_of_name own_pn1) (fun m => own_ef1 m vi) ?_
  intro p e s m below meth c T0 hx hZ hown hby hml hnm H0
  obtain ⟨v4, hv4⟩ : ∃ z : Int32, (vi &&& (65535 : Int32)) = z := ⟨_, rfl⟩
  obtain ⟨v5, hv5⟩ : ∃ z : Int32, ((1 : Int32) + v4) = z := ⟨_, rfl⟩
  obtain ⟨v6, hv6⟩ : ∃ z : UInt64, (FP.i2d v5) = z := ⟨_, rfl⟩
  obtain ⟨v10, hv10⟩ : ∃ z : UInt64, (FP.ddiv v6 (4625196817309499392 : UInt64)) = z := ⟨_, rfl⟩
  have b0 := own_bits vi v5 (by rw [hv4, hv5])
  have k0 : own_spd v10 v5.toInt := by rw [← hv10, ← hv6]; exact own_sp16 b0
  have nn10 : NoNaN64 (FP.ddiv v6 (4625196817309499392 : UInt64)) := by rw [hv10]; exact own_is_no k0.1
  refine ⟨_, _, _, _, 11, #[.val (.int vi)], H0, by decide, by decide, Or.inr ⟨.double, (.double v10), [], .dreturn, rfl, ⟨v10, _, k0, rfl, rfl⟩, d1_11, own_retD _, fun target q => ?_⟩⟩
  refine own_go H0 hx hZ hown hby hw own_K1_ok (own_so0 vi v4 hv4 v5 hv5 v6 hv6 v10 hv10 nn10) _ ?_
  exact q
theorem own_le_0 (ua : UInt64) (ub : UInt64) (uc : UInt64) (v6 : Int32) (hv6 : (cmpValue (FP.dcmp ub ua) .g) = v6) (j13_6 : UInt64) (hj13_6 : (bif ifCond.holds .ge v6 then ua else ub) = j13_6) :
    own_Go own_K11 method_3_code 0 #[.val (.double ua), .second, .val (.double ub), .second, .val (.double uc), .second, .unset, .unset] [] 13 #[.val (.double ua), .second, .val (.double ub), .second, .val (.double uc), .second, .val (.double j13_6), .second] [] := by
  subst hj13_6
  refine own_dloadN (pc2 := 1) d11_0 rfl rfl ?_
  refine own_dstore (pc2 := 3) d11_1 rfl (L' := #[.val (.double ua), .second, .val (.double ub), .second, .val (.double uc), .second, .val (.double ua), .second]) rfl ?_
  refine own_dloadN (pc2 := 4) d11_3 rfl rfl ?_
  refine own_dload (pc2 := 6) d11_4 rfl rfl ?_
  refine own_dcmp (pc2 := 7) d11_6 rfl (v := v6) hv6 ?_
  cases hb7 : ifCond.holds .ge v6
  · refine own_ifNo (pc2 := 10) d11_7 rfl hb7 ?_
    refine own_dloadN (pc2 := 11) d11_10 rfl rfl ?_
    refine own_dstore (pc2 := 13) d11_11 rfl (L' := #[.val (.double ua), .second, .val (.double ub), .second, .val (.double uc), .second, .val (.double ub), .second]) rfl ?_
    exact own_refl
  · refine own_ifYes (pc' := 13) d11_7 hb7 (by decide) (by decide) ?_
    exact own_refl
theorem own_le_1 (ua : UInt64) (ub : UInt64) (uc : UInt64) (j13_6 : UInt64) (v17 : Int32) (hv17 : (cmpValue (FP.dcmp uc j13_6) .g) = v17) (j27_6 : UInt64) (hj27_6 : (bif ifCond.holds .ge v17 then j13_6 else uc) = j27_6) :
    own_Go own_K11 method_3_code 13 #[.val (.double ua), .second, .val (.double ub), .second, .val (.double uc), .second, .val (.double j13_6), .second] [] 27 #[.val (.double ua), .second, .val (.double ub), .second, .val (.double uc), .second, .val (.double j27_6), .second] [(.double j27_6)] := by
  subst hj27_6
  refine own_dload (pc2 := 15) d11_13 rfl rfl ?_
  refine own_dload (pc2 := 17) d11_15 rfl rfl ?_
  refine own_dcmp (pc2 := 18) d11_17 rfl (v := v17) hv17 ?_
  cases hb18 : ifCond.holds .ge v17
  · refine own_ifNo (pc2 := 21) d11_18 rfl hb18 ?_
    refine own_dload (pc2 := 23) d11_21 rfl rfl ?_
    refine own_dstore (pc2 := 25) d11_23 rfl (L' := #[.val (.double ua), .second, .val (.double ub), .second, .val (.double uc), .second, .val (.double uc), .second]) rfl ?_
    refine own_dload (pc2 := 27) d11_25 rfl rfl ?_
    exact own_refl
  · refine own_ifYes (pc' := 25) d11_18 hb18 (by decide) (by decide) ?_
    refine own_dload (pc2 := 27) d11_25 rfl rfl ?_
    exact own_refl
set_option maxRecDepth 65536 in
set_option maxHeartbeats 4000000 in
theorem own_lst (l : Launch) (Z : State) (a0 : Array Value) (hb0 : own_Base) (hw : ∀ d ∈ tables_1, d.before a0 Z = true) (ua : UInt64) (ub : UInt64) (uc : UInt64) (cs : List (Addr × own_Cel)) :
    own_Met l Z a0 hb0 (⟨"com/example/tidewise/tidewise/model/SpeedProfileFunctionUpperBoundPinLaw", "least", "(DDD)D"⟩ : MethodName) method_3_code 8 (some .double) [] ({ frames := 0, cells := 0, slots := 0, locals := 0 } : Room) #[(.double ua), (.double ub), (.double uc)] cs (fun r cs' => r = some (.double (own_mn uc (own_mn ub ua))) ∧ cs' = cs) := by
  refine own_met_of (L0 := #[.val (.double ua), .second, .val (.double ub), .second, .val (.double uc), .second, .unset, .unset]) (plainFor_of_name own_pn11) (fun m => own_ef11 m ua ub uc) ?_
  intro p e s m below meth c T0 hx hZ hown hby hml hnm H0
  obtain ⟨v6, hv6⟩ : ∃ z : Int32, (cmpValue (FP.dcmp ub ua) .g) = z := ⟨_, rfl⟩
  obtain ⟨j13_6, hj13_6⟩ : ∃ z : UInt64, (bif ifCond.holds .ge v6 then ua else ub) = z := ⟨_, rfl⟩
  obtain ⟨v17, hv17⟩ : ∃ z : Int32, (cmpValue (FP.dcmp uc j13_6) .g) = z := ⟨_, rfl⟩
  obtain ⟨j27_6, hj27_6⟩ : ∃ z : UInt64, (bif ifCond.holds .ge v17 then j13_6 else uc) = z := ⟨_, rfl⟩
  have eL : j27_6 = own_mn uc (own_mn ub ua) := by rw [← hj27_6, ← hv17, ← hj13_6, ← hv6]; rfl
  refine ⟨_, _, _, _, 27, #[.val (.double ua), .second, .val (.double ub), .second, .val (.double uc), .second, .val (.double j27_6), .second], H0, by decide, by decide, Or.inr ⟨.double, (.double j27_6), [], .dreturn, rfl, ⟨by rw [eL], rfl⟩, d11_27, own_retD _, fun target q => ?_⟩⟩
  refine own_go H0 hx hZ hown hby hw own_K11_ok (own_le_0 ua ub uc v6 hv6 j13_6 hj13_6) _ ?_
  refine own_go H0 hx hZ hown hby hw own_K11_ok (own_le_1 ua ub uc j13_6 v17 hv17 j27_6 hj27_6) _ ?_
  exact q
theorem own_s0 (xa : Int32) (xb : Int32) (xc : Int32) (xl : Int32) :
    own_Go own_K0 code 0 #[.val (.int xa), .val (.int xb), .val (.int xc), .val (.int xl), .unset, .unset, .unset, .unset, .unset, .unset, .unset, .unset, .unset, .unset, .unset, .unset, .unset] [] 1 #[.val (.int xa), .val (.int xb), .val (.int xc), .val (.int xl), .unset, .unset, .unset, .unset, .unset, .unset, .unset, .unset, .unset, .unset, .unset, .unset, .unset] [(.int xa)] := by
  refine own_iloadN (pc2 := 1) at_0 rfl rfl ?_
  exact own_refl
theorem own_s1 (xa : Int32) (xb : Int32) (xc : Int32) (xl : Int32) (s0_ : UInt64) :
    own_Go own_K0 code 4 #[.val (.int xa), .val (.int xb), .val (.int xc), .val (.int xl), .unset, .unset, .unset, .unset, .unset, .unset, .unset, .unset, .unset, .unset, .unset, .unset, .unset] [(.double s0_)] 7 #[.val (.int xa), .val (.int xb), .val (.int xc), .val (.int xl), .val (.double s0_), .second, .unset, .unset, .unset, .unset, .unset, .unset, .unset, .unset, .unset, .unset, .unset] [(.int xb)] := by
  refine own_dstore (pc2 := 6) at_4 rfl (L' := #[.val (.int xa), .val (.int xb), .val (.int xc), .val (.int xl), .val (.double s0_), .second, .unset, .unset, .unset, .unset, .unset, .unset, .unset, .unset, .unset, .unset, .unset]) rfl ?_
  refine own_iloadN (pc2 := 7) at_6 rfl rfl ?_
  exact own_refl
theorem own_s2 (xa : Int32) (xb : Int32) (xc : Int32) (xl : Int32) (s0_ : UInt64) (s1_ : UInt64) :
    own_Go own_K0 code 10 #[.val (.int xa), .val (.int xb), .val (.int xc), .val (.int xl), .val (.double s0_), .second, .unset, .unset, .unset, .unset, .unset, .unset, .unset, .unset, .unset, .unset, .unset] [(.double s1_)] 13 #[.val (.int xa), .val (.int xb), .val (.int xc), .val (.int xl), .val (.double s0_), .second, .val (.double s1_), .second, .unset, .unset, .unset, .unset, .unset, .unset, .unset, .unset, .unset] [(.int xc)] := by
  refine own_dstore (pc2 := 12) at_10 rfl (L' := #[.val (.int xa), .val (.int xb), .val (.int xc), .val (.int xl), .val (.double s0_), .second, .val (.double s1_), .second, .unset, .unset, .unset, .unset, .unset, .unset, .unset, .unset, .unset]) rfl ?_
  refine own_iloadN (pc2 := 13) at_12 rfl rfl ?_
  exact own_refl
theorem own_s3 (xa : Int32) (xb : Int32) (xc : Int32) (xl : Int32) (s0_ : UInt64) (s1_ : UInt64) (s2_ : UInt64) (v21 : Int32) (hv21 : (xl &&& (33554431 : Int32)) = v21) (v22 : UInt64) (hv22 : (FP.i2d v21) = v22) :
    own_Go own_K0 code 16 #[.val (.int xa), .val (.int xb), .val (.int xc), .val (.int xl), .val (.double s0_), .second, .val (.double s1_), .second, .unset, .unset, .unset, .unset, .unset, .unset, .unset, .unset, .unset] [(.double s2_)] 26 #[.val (.int xa), .val (.int xb), .val (.int xc), .val (.int xl), .val (.double s0_), .second, .val (.double s1_), .second, .val (.double s2_), .second, .val (.double v22), .second, .unset, .unset, .unset, .unset, .unset] [(.int (3 : Int32))] := by
  refine own_dstore (pc2 := 18) at_16 rfl (L' := #[.val (.int xa), .val (.int xb), .val (.int xc), .val (.int xl), .val (.double s0_), .second, .val (.double s1_), .second, .val (.double s2_), .second, .unset, .unset, .unset, .unset, .unset, .unset, .unset]) rfl ?_
  refine own_iloadN (pc2 := 19) at_18 rfl rfl ?_
  refine own_ldc (v := (33554431 : Int32)) (pc2 := 21) at_19 rfl (List.mem_of_getElem? (i := 2) rfl) ?_
  refine own_iand (pc2 := 22) at_21 rfl (v := v21) hv21 ?_
  refine own_i2d (pc2 := 23) at_22 rfl (v := v22) hv22 ?_
  refine own_dstore (pc2 := 25) at_23 rfl (L' := #[.val (.int xa), .val (.int xb), .val (.int xc), .val (.int xl), .val (.double s0_), .second, .val (.double s1_), .second, .val (.double s2_), .second, .val (.double v22), .second, .unset, .unset, .unset, .unset, .unset]) rfl ?_
  refine own_iconst (v := 3) (pc2 := 26) at_25 rfl rfl ?_
  exact own_refl
theorem own_s4 (xa : Int32) (xb : Int32) (xc : Int32) (xl : Int32) (s0_ : UInt64) (s1_ : UInt64) (s2_ : UInt64) (v22 : UInt64) (ai : Addr) :
    own_Go own_K0 code 28 #[.val (.int xa), .val (.int xb), .val (.int xc), .val (.int xl), .val (.double s0_), .second, .val (.double s1_), .second, .val (.double s2_), .second, .val (.double v22), .second, .unset, .unset, .unset, .unset, .unset] [(.ref ai)] 35 #[.val (.int xa), .val (.int xb), .val (.int xc), .val (.int xl), .val (.double s0_), .second, .val (.double s1_), .second, .val (.double s2_), .second, .val (.double v22), .second, .val (.ref ai), .unset, .unset, .unset, .unset] [(.double s0_), (.int (0 : Int32)), (.ref ai)] := by
  refine own_astore (pc2 := 30) at_28 rfl rfl (L' := #[.val (.int xa), .val (.int xb), .val (.int xc), .val (.int xl), .val (.double s0_), .second, .val (.double s1_), .second, .val (.double s2_), .second, .val (.double v22), .second, .val (.ref ai), .unset, .unset, .unset, .unset]) rfl ?_
  refine own_aload (pc2 := 32) at_30 rfl rfl rfl ?_
  refine own_iconst (v := 0) (pc2 := 33) at_32 rfl rfl ?_
  refine own_dload (pc2 := 35) at_33 rfl rfl ?_
  exact own_refl
theorem own_s5 (xa : Int32) (xb : Int32) (xc : Int32) (xl : Int32) (s0_ : UInt64) (s1_ : UInt64) (s2_ : UInt64) (v22 : UInt64) (ai : Addr) :
    own_Go own_K0 code 36 #[.val (.int xa), .val (.int xb), .val (.int xc), .val (.int xl), .val (.double s0_), .second, .val (.double s1_), .second, .val (.double s2_), .second, .val (.double v22), .second, .val (.ref ai), .unset, .unset, .unset, .unset] [] 41 #[.val (.int xa), .val (.int xb), .val (.int xc), .val (.int xl), .val (.double s0_), .second, .val (.double s1_), .second, .val (.double s2_), .second, .val (.double v22), .second, .val (.ref ai), .unset, .unset, .unset, .unset] [(.double s1_), (.int (1 : Int32)), (.ref ai)] := by
  refine own_aload (pc2 := 38) at_36 rfl rfl rfl ?_
  refine own_iconst (v := 1) (pc2 := 39) at_38 rfl rfl ?_
  refine own_dload (pc2 := 41) at_39 rfl rfl ?_
  exact own_refl
theorem own_s6 (xa : Int32) (xb : Int32) (xc : Int32) (xl : Int32) (s0_ : UInt64) (s1_ : UInt64) (s2_ : UInt64) (v22 : UInt64) (ai : Addr) :
    own_Go own_K0 code 42 #[.val (.int xa), .val (.int xb), .val (.int xc), .val (.int xl), .val (.double s0_), .second, .val (.double s1_), .second, .val (.double s2_), .second, .val (.double v22), .second, .val (.ref ai), .unset, .unset, .unset, .unset] [] 47 #[.val (.int xa), .val (.int xb), .val (.int xc), .val (.int xl), .val (.double s0_), .second, .val (.double s1_), .second, .val (.double s2_), .second, .val (.double v22), .second, .val (.ref ai), .unset, .unset, .unset, .unset] [(.double s2_), (.int (2 : Int32)), (.ref ai)] := by
  refine own_aload (pc2 := 44) at_42 rfl rfl rfl ?_
  refine own_iconst (v := 2) (pc2 := 45) at_44 rfl rfl ?_
  refine own_dload (pc2 := 47) at_45 rfl rfl ?_
  exact own_refl
theorem own_s7 (xa : Int32) (xb : Int32) (xc : Int32) (xl : Int32) (s0_ : UInt64) (s1_ : UInt64) (s2_ : UInt64) (v22 : UInt64) (ai : Addr) (x : Addr) :
    own_Go own_K0 code 51 #[.val (.int xa), .val (.int xb), .val (.int xc), .val (.int xl), .val (.double s0_), .second, .val (.double s1_), .second, .val (.double s2_), .second, .val (.double v22), .second, .val (.ref ai), .unset, .unset, .unset, .unset] [(.ref x)] 54 #[.val (.int xa), .val (.int xb), .val (.int xc), .val (.int xl), .val (.double s0_), .second, .val (.double s1_), .second, .val (.double s2_), .second, .val (.double v22), .second, .val (.ref ai), .unset, .unset, .unset, .unset] [(.ref ai), (.ref x), (.ref x)] := by
  refine own_dup (pc2 := 52) at_51 rfl rfl ?_
  refine own_aload (pc2 := 54) at_52 rfl rfl rfl ?_
  exact own_refl
theorem own_s8 (xa : Int32) (xb : Int32) (xc : Int32) (xl : Int32) (s0_ : UInt64) (s1_ : UInt64) (s2_ : UInt64) (v22 : UInt64) (ai : Addr) (x : Addr) :
    own_Go own_K0 code 57 #[.val (.int xa), .val (.int xb), .val (.int xc), .val (.int xl), .val (.double s0_), .second, .val (.double s1_), .second, .val (.double s2_), .second, .val (.double v22), .second, .val (.ref ai), .unset, .unset, .unset, .unset] [(.ref x)] 59 #[.val (.int xa), .val (.int xb), .val (.int xc), .val (.int xl), .val (.double s0_), .second, .val (.double s1_), .second, .val (.double s2_), .second, .val (.double v22), .second, .val (.ref ai), .val (.ref x), .unset, .unset, .unset] [] := by
  refine own_astore (pc2 := 59) at_57 rfl rfl (L' := #[.val (.int xa), .val (.int xb), .val (.int xc), .val (.int xl), .val (.double s0_), .second, .val (.double s1_), .second, .val (.double s2_), .second, .val (.double v22), .second, .val (.ref ai), .val (.ref x), .unset, .unset, .unset]) rfl ?_
  exact own_refl
theorem own_s9 (xa : Int32) (xb : Int32) (xc : Int32) (xl : Int32) (s0_ : UInt64) (s1_ : UInt64) (s2_ : UInt64) (v22 : UInt64) (ai : Addr) (x : Addr) (z : Addr) :
    own_Go own_K0 code 62 #[.val (.int xa), .val (.int xb), .val (.int xc), .val (.int xl), .val (.double s0_), .second, .val (.double s1_), .second, .val (.double s2_), .second, .val (.double v22), .second, .val (.ref ai), .val (.ref x), .unset, .unset, .unset] [(.ref z)] 67 #[.val (.int xa), .val (.int xb), .val (.int xc), .val (.int xl), .val (.double s0_), .second, .val (.double s1_), .second, .val (.double s2_), .second, .val (.double v22), .second, .val (.ref ai), .val (.ref x), .unset, .unset, .unset] [(.ref x), (.double v22), (.ref z), (.ref z)] := by
  refine own_dup (pc2 := 63) at_62 rfl rfl ?_
  refine own_dload (pc2 := 65) at_63 rfl rfl ?_
  refine own_aload (pc2 := 67) at_65 rfl rfl rfl ?_
  exact own_refl
theorem own_s10 (xa : Int32) (xb : Int32) (xc : Int32) (xl : Int32) (s0_ : UInt64) (s1_ : UInt64) (s2_ : UInt64) (v22 : UInt64) (ai : Addr) (x : Addr) (z : Addr) :
    own_Go own_K0 code 70 #[.val (.int xa), .val (.int xb), .val (.int xc), .val (.int xl), .val (.double s0_), .second, .val (.double s1_), .second, .val (.double s2_), .second, .val (.double v22), .second, .val (.ref ai), .val (.ref x), .unset, .unset, .unset] [(.ref z)] 80 #[.val (.int xa), .val (.int xb), .val (.int xc), .val (.int xl), .val (.double s0_), .second, .val (.double s1_), .second, .val (.double s2_), .second, .val (.double v22), .second, .val (.ref ai), .val (.ref x), .val (.ref z), .unset, .unset] [(.double s2_), (.double s1_), (.double s0_), (.double v22)] := by
  refine own_astore (pc2 := 72) at_70 rfl rfl (L' := #[.val (.int xa), .val (.int xb), .val (.int xc), .val (.int xl), .val (.double s0_), .second, .val (.double s1_), .second, .val (.double s2_), .second, .val (.double v22), .second, .val (.ref ai), .val (.ref x), .val (.ref z), .unset, .unset]) rfl ?_
  refine own_dload (pc2 := 74) at_72 rfl rfl ?_
  refine own_dload (pc2 := 76) at_74 rfl rfl ?_
  refine own_dload (pc2 := 78) at_76 rfl rfl ?_
  refine own_dload (pc2 := 80) at_78 rfl rfl ?_
  exact own_refl
theorem own_s11 (xa : Int32) (xb : Int32) (xc : Int32) (xl : Int32) (s0_ : UInt64) (s1_ : UInt64) (s2_ : UInt64) (v22 : UInt64) (ai : Addr) (x : Addr) (z : Addr) (v83 : UInt64) (hv83 : (FP.ddiv v22 (own_mn s2_ (own_mn s1_ s0_))) = v83) (nn83 : NoNaN64 (FP.ddiv v22 (own_mn s2_ (own_mn s1_ s0_)))) :
    own_Go own_K0 code 83 #[.val (.int xa), .val (.int xb), .val (.int xc), .val (.int xl), .val (.double s0_), .second, .val (.double s1_), .second, .val (.double s2_), .second, .val (.double v22), .second, .val (.ref ai), .val (.ref x), .val (.ref z), .unset, .unset] [(.double (own_mn s2_ (own_mn s1_ s0_))), (.double v22)] 88 #[.val (.int xa), .val (.int xb), .val (.int xc), .val (.int xl), .val (.double s0_), .second, .val (.double s1_), .second, .val (.double s2_), .second, .val (.double v22), .second, .val (.ref ai), .val (.ref x), .val (.ref z), .val (.double v83), .second] [(.ref z)] := by
  refine own_ddiv (pc2 := 84) at_83 rfl nn83 (v := v83) hv83 ?_
  refine own_dstore (pc2 := 86) at_84 rfl (L' := #[.val (.int xa), .val (.int xb), .val (.int xc), .val (.int xl), .val (.double s0_), .second, .val (.double s1_), .second, .val (.double s2_), .second, .val (.double v22), .second, .val (.ref ai), .val (.ref x), .val (.ref z), .val (.double v83), .second]) rfl ?_
  refine own_aload (pc2 := 88) at_86 rfl rfl rfl ?_
  exact own_refl
theorem own_s12 (xa : Int32) (xb : Int32) (xc : Int32) (xl : Int32) (s0_ : UInt64) (s1_ : UInt64) (s2_ : UInt64) (v22 : UInt64) (ai : Addr) (x : Addr) (z : Addr) (v83 : UInt64) (v93 : Int32) (hv93 : (cmpValue (FP.dcmp (FP.ddiv v22 (own_mn s2_ (own_mn s1_ s0_))) v83) .l) = v93) (hb94 : ifCond.holds .ne v93 = false) :
    own_Go own_K0 code 91 #[.val (.int xa), .val (.int xb), .val (.int xc), .val (.int xl), .val (.double s0_), .second, .val (.double s1_), .second, .val (.double s2_), .second, .val (.double v22), .second, .val (.ref ai), .val (.ref x), .val (.ref z), .val (.double v83), .second] [(.double (FP.ddiv v22 (own_mn s2_ (own_mn s1_ s0_))))] 102 #[.val (.int xa), .val (.int xb), .val (.int xc), .val (.int xl), .val (.double s0_), .second, .val (.double s1_), .second, .val (.double s2_), .second, .val (.double v22), .second, .val (.ref ai), .val (.ref x), .val (.ref z), .val (.double v83), .second] [(.int (1 : Int32))] := by
  refine own_dload (pc2 := 93) at_91 rfl rfl ?_
  refine own_dcmp (pc2 := 94) at_93 rfl (v := v93) hv93 ?_
  refine own_ifNo (pc2 := 97) at_94 rfl hb94 ?_
  refine own_iconst (v := 1) (pc2 := 98) at_97 rfl rfl ?_
  refine own_goto (pc' := 102) at_98 (by decide) (by decide) ?_
  exact own_refl
set_option maxRecDepth 65536 in
set_option maxHeartbeats 40000000 in
theorem own_law (l : Launch) (Z : State) (a0 : Array Value) (hb0 : own_Base) (hw : ∀ d ∈ tables_1, d.before a0 Z = true) (xa : Int32) (xb : Int32) (xc : Int32) (xl : Int32) :
    own_MetW l Z a0 hb0 x code maxLocals ret tables_1 room_1 #[(.int xa), (.int xb), (.int xc), (.int xl)] [] (fun v _ => v = some (.int 1)) := by
  refine own_met_ofW (L0 := #[.val (.int xa), .val (.int xb), .val (.int xc), .val (.int xl), .unset, .unset, .unset, .unset, .unset, .unset, .unset, .unset, .unset, .unset, .unset, .unset, .unset]) (plainFor_of_name own_pn0) (fun m => own_ef0 m xa xb xc xl) ?_
  intro p e s m below meth c T0 hx hZ hown hby hml hnm H0
  have hown : s.vm.findClass "com/example/tidewise/tidewise/model/SpeedProfileFunctionUpperBoundPinLaw" = some m.cls := hown
  have hml : c.maxLocals = 17 := hml
  obtain ⟨Ts1, vs1_, css1_, qs1, Hs1, sts1⟩ := own_callS H0 hx hZ hown (hw _ (List.mem_of_getElem? (i := 0) rfl)) (hw _ (List.mem_of_getElem? (i := 1) rfl)) (hw _ (List.mem_of_getElem? (i := 2) rfl)) (hw _ (List.mem_of_getElem? (i := 3) rfl)) (by decide) (argsL := [(.int xa)]) (rest := []) (W := 0) (own_so l Z a0 hb0 hw xa _) (by decide) (by decide) (by decide) (by decide) (g := (mkF m 1 #[.val (.int xa), .val (.int xb), .val (.int xc), .val (.int xl), .unset, .unset, .unset, .unset, .unset, .unset, .unset, .unset, .unset, .unset, .unset, .unset, .unset] [(.int xa)])) rfl (by rw [hml]; rfl) (lenOf own_pd6 rfl) rfl (by show 2 * 0 + _ ≤ _; exact Nat.le_of_eq rfl) (hb hby at_1)
  obtain ⟨s0_, KK0, k0, rfl, rfl⟩ := qs1
  obtain ⟨Ts2, vs2_, css2_, qs2, Hs2, sts2⟩ := own_callS Hs1 hx hZ hown (hw _ (List.mem_of_getElem? (i := 0) rfl)) (hw _ (List.mem_of_getElem? (i := 1) rfl)) (hw _ (List.mem_of_getElem? (i := 2) rfl)) (hw _ (List.mem_of_getElem? (i := 3) rfl)) (by decide) (argsL := [(.int xb)]) (rest := []) (W := 0) (own_so l Z a0 hb0 hw xb _) (by decide) (by decide) (by decide) (by decide) (g := (mkF m 7 #[.val (.int xa), .val (.int xb), .val (.int xc), .val (.int xl), .val (.double s0_), .second, .unset, .unset, .unset, .unset, .unset, .unset, .unset, .unset, .unset, .unset, .unset] [(.int xb)])) rfl (by rw [hml]; rfl) (lenOf own_pd6 rfl) rfl (by show 2 * 0 + _ ≤ _; exact Nat.le_of_eq rfl) (hb hby at_7)
  obtain ⟨s1_, KK1, k1, rfl, rfl⟩ := qs2
  obtain ⟨Ts3, vs3_, css3_, qs3, Hs3, sts3⟩ := own_callS Hs2 hx hZ hown (hw _ (List.mem_of_getElem? (i := 0) rfl)) (hw _ (List.mem_of_getElem? (i := 1) rfl)) (hw _ (List.mem_of_getElem? (i := 2) rfl)) (hw _ (List.mem_of_getElem? (i := 3) rfl)) (by decide) (argsL := [(.int xc)]) (rest := []) (W := 0) (own_so l Z a0 hb0 hw xc _) (by decide) (by decide) (by decide) (by decide) (g := (mkF m 13 #[.val (.int xa), .val (.int xb), .val (.int xc), .val (.int xl), .val (.double s0_), .second, .val (.double s1_), .second, .unset, .unset, .unset, .unset, .unset, .unset, .unset, .unset, .unset] [(.int xc)])) rfl (by rw [hml]; rfl) (lenOf own_pd6 rfl) rfl (by show 2 * 0 + _ ≤ _; exact Nat.le_of_eq rfl) (hb hby at_13)
  obtain ⟨s2_, KK2, k2, rfl, rfl⟩ := qs3
  obtain ⟨v21, hv21⟩ : ∃ z : Int32, (xl &&& (33554431 : Int32)) = z := ⟨_, rfl⟩
  obtain ⟨v22, hv22⟩ : ∃ z : UInt64, (FP.i2d v21) = z := ⟨_, rfl⟩
  have bl : 0 ≤ v21.toInt ∧ v21.toInt ≤ 33554431 := by
    have h := c_mask xl 33554431 25 (by decide) (by decide)
    rw [hv21] at h
    omega
  have il : own_is v22 ((v21.toInt : Int) : Rat) := by rw [← hv22]; exact own_isI _
  have l0 : 0 ≤ ((v21.toInt : Int) : Rat) := own_cle bl.1
  have l1 : ((v21.toInt : Int) : Rat) ≤ 40000000 := Rat.le_trans (own_cle bl.2) (by decide +kernel)
  obtain ⟨Ts4, ai, Hs4, sts4⟩ := own_newA Hs3 hx hZ (hw _ (List.mem_of_getElem? (i := 7) rfl)) (g := (mkF m 26 #[.val (.int xa), .val (.int xb), .val (.int xc), .val (.int xl), .val (.double s0_), .second, .val (.double s1_), .second, .val (.double s2_), .second, .val (.double v22), .second, .unset, .unset, .unset, .unset, .unset] [(.int (3 : Int32))])) rfl (hb hby at_26) rfl (by decide) (cap := 3) (by decide) (by decide) (by decide) (by decide)
  change own_S _ _ _ _ _ _ _ _ _ _ _ _ _ _ [(ai, own_A .double [.double 0, .double 0, .double 0])] _ _ at Hs4
  obtain ⟨Ts5, Hs5, sts5⟩ := own_dastore Hs4 hx hZ 0 0 rfl (by decide) (Nat.le_of_ble_eq_true rfl) (g := (mkF m 35 #[.val (.int xa), .val (.int xb), .val (.int xc), .val (.int xl), .val (.double s0_), .second, .val (.double s1_), .second, .val (.double s2_), .second, .val (.double v22), .second, .val (.ref ai), .unset, .unset, .unset, .unset] [(.double s0_), (.int (0 : Int32)), (.ref ai)])) rfl rfl (hb hby at_35)
  change own_S _ _ _ _ _ _ _ _ _ _ _ _ _ _ [(ai, own_A .double [.double s0_, .double 0, .double 0])] _ _ at Hs5
  obtain ⟨Ts6, Hs6, sts6⟩ := own_dastore Hs5 hx hZ 0 1 rfl (by decide) (Nat.le_of_ble_eq_true rfl) (g := (mkF m 41 #[.val (.int xa), .val (.int xb), .val (.int xc), .val (.int xl), .val (.double s0_), .second, .val (.double s1_), .second, .val (.double s2_), .second, .val (.double v22), .second, .val (.ref ai), .unset, .unset, .unset, .unset] [(.double s1_), (.int (1 : Int32)), (.ref ai)])) rfl rfl (hb hby at_41)
  change own_S _ _ _ _ _ _ _ _ _ _ _ _ _ _ [(ai, own_A .double [.double s0_, .double s1_, .double 0])] _ _ at Hs6
  obtain ⟨Ts7, Hs7, sts7⟩ := own_dastore Hs6 hx hZ 0 2 rfl (by decide) (Nat.le_of_ble_eq_true rfl) (g := (mkF m 47 #[.val (.int xa), .val (.int xb), .val (.int xc), .val (.int xl), .val (.double s0_), .second, .val (.double s1_), .second, .val (.double s2_), .second, .val (.double v22), .second, .val (.ref ai), .unset, .unset, .unset, .unset] [(.double s2_), (.int (2 : Int32)), (.ref ai)])) rfl rfl (hb hby at_47)
  change own_S _ _ _ _ _ _ _ _ _ _ _ _ _ _ [(ai, own_A .double [.double s0_, .double s1_, .double s2_])] _ _ at Hs7
  obtain ⟨Ts8, x, Hs8, sts8⟩ := own_newO Hs7 hx hZ hown (hw _ (List.mem_of_getElem? (i := 8) rfl)) (hw _ (List.mem_of_getElem? (i := 9) rfl)) (hw _ (List.mem_of_getElem? (i := 10) rfl)) [("com/example/tidewise/tidewise/model/SpeedProfile", "speeds", "[D", .null), ("com/example/tidewise/tidewise/model/SpeedProfile", "offset", "I", .int 0), ("com/example/tidewise/tidewise/model/SpeedProfile", "slotCount", "I", .int 0), ("com/example/tidewise/tidewise/model/SpeedProfile", "slotSeconds", "D", .double 0), ("com/example/tidewise/tidewise/model/SpeedProfile", "metresPerDay", "D", .double 0), ("com/example/tidewise/tidewise/model/SpeedProfile", "lowestSpeed", "D", .double 0), ("com/example/tidewise/tidewise/model/SpeedProfile", "highestSpeed", "D", .double 0)] (by
      intro f hf
      simp only [List.mem_cons, List.not_mem_nil, or_false] at hf
      rcases hf with rfl | rfl | rfl | rfl | rfl | rfl | rfl
      · exact ⟨Or.inr (hw _ (List.mem_of_getElem? (i := 31) rfl)), (.array .double), by decide, rfl⟩
      · exact ⟨Or.inr (hw _ (List.mem_of_getElem? (i := 33) rfl)), .int, by decide, rfl⟩
      · exact ⟨Or.inr (hw _ (List.mem_of_getElem? (i := 35) rfl)), .int, by decide, rfl⟩
      · exact ⟨Or.inr (hw _ (List.mem_of_getElem? (i := 37) rfl)), .double, by decide, rfl⟩
      · exact ⟨Or.inr (hw _ (List.mem_of_getElem? (i := 41) rfl)), .double, by decide, rfl⟩
      · exact ⟨Or.inr (hw _ (List.mem_of_getElem? (i := 43) rfl)), .double, by decide, rfl⟩
      · exact ⟨Or.inr (hw _ (List.mem_of_getElem? (i := 45) rfl)), .double, by decide, rfl⟩) (by decide) (g := (mkF m 48 #[.val (.int xa), .val (.int xb), .val (.int xc), .val (.int xl), .val (.double s0_), .second, .val (.double s1_), .second, .val (.double s2_), .second, .val (.double v22), .second, .val (.ref ai), .unset, .unset, .unset, .unset] [])) rfl (hb hby at_48) (by decide) (by decide)
  change own_S _ _ _ _ _ _ _ _ _ _ _ _ _ _ [(ai, own_A .double [.double s0_, .double s1_, .double s2_]), (x, own_O "com/example/tidewise/tidewise/model/SpeedProfile" [("com/example/tidewise/tidewise/model/SpeedProfile", "speeds", "[D", .null), ("com/example/tidewise/tidewise/model/SpeedProfile", "offset", "I", .int 0), ("com/example/tidewise/tidewise/model/SpeedProfile", "slotCount", "I", .int 0), ("com/example/tidewise/tidewise/model/SpeedProfile", "slotSeconds", "D", .double 0), ("com/example/tidewise/tidewise/model/SpeedProfile", "metresPerDay", "D", .double 0), ("com/example/tidewise/tidewise/model/SpeedProfile", "lowestSpeed", "D", .double 0), ("com/example/tidewise/tidewise/model/SpeedProfile", "highestSpeed", "D", .double 0)])] _ _ at Hs8
  obtain ⟨Ts9, vs9_, css9_, qs9, Hs9, sts9⟩ := own_callI Hs8 hx hZ hown rfl (hw _ (List.mem_of_getElem? (i := 11) rfl)) (hw _ (List.mem_of_getElem? (i := 12) rfl)) (hw _ (List.mem_of_getElem? (i := 10) rfl)) (hw _ (List.mem_of_getElem? (i := 13) rfl)) (by decide) (x := x) (argsL := [(.ref ai)]) (rest := [(.ref x)]) (W := 1) (own_sp1 l Z a0 hb0 hw x ai s0_ _ k0 s1_ _ k1 s2_ _ k2) (by decide) (by decide) (by decide) (by decide) (g := (mkF m 54 #[.val (.int xa), .val (.int xb), .val (.int xc), .val (.int xl), .val (.double s0_), .second, .val (.double s1_), .second, .val (.double s2_), .second, .val (.double v22), .second, .val (.ref ai), .unset, .unset, .unset, .unset] [(.ref ai), (.ref x), (.ref x)])) rfl (by rw [hml]; rfl) (lenOf own_pd8 rfl) rfl (by show 2 * 0 + _ ≤ _; exact Nat.le_of_eq rfl) (hb hby at_54)
  obtain ⟨y, w0, w1, rfl, rfl⟩ := qs9
  change own_S _ _ _ _ _ _ _ _ _ _ _ _ _ _ [(ai, own_A .double [.double s0_, .double s1_, .double s2_]), (x, own_O "com/example/tidewise/tidewise/model/SpeedProfile" [("com/example/tidewise/tidewise/model/SpeedProfile", "speeds", "[D", .ref y), ("com/example/tidewise/tidewise/model/SpeedProfile", "offset", "I", .int 0), ("com/example/tidewise/tidewise/model/SpeedProfile", "slotCount", "I", .int 3), ("com/example/tidewise/tidewise/model/SpeedProfile", "slotSeconds", "D", .double w0), ("com/example/tidewise/tidewise/model/SpeedProfile", "metresPerDay", "D", .double w1), ("com/example/tidewise/tidewise/model/SpeedProfile", "lowestSpeed", "D", .double (own_mn s2_ (own_mn s1_ s0_))), ("com/example/tidewise/tidewise/model/SpeedProfile", "highestSpeed", "D", .double (own_mx s2_ (own_mx s1_ s0_)))]), (y, own_A .double [.double s0_, .double s1_, .double s2_])] _ _ at Hs9
  obtain ⟨Ts10, z, Hs10, sts10⟩ := own_newO Hs9 hx hZ hown (hw _ (List.mem_of_getElem? (i := 46) rfl)) (hw _ (List.mem_of_getElem? (i := 47) rfl)) (hw _ (List.mem_of_getElem? (i := 48) rfl)) [("com/example/tidewise/tidewise/model/SpeedProfileFunction", "length", "D", .double 0), ("com/example/tidewise/tidewise/model/SpeedProfileFunction", "profile", "Lcom/example/tidewise/tidewise/model/SpeedProfile;", .null)] (by
      intro f hf
      simp only [List.mem_cons, List.not_mem_nil, or_false] at hf
      rcases hf with rfl | rfl
      · exact ⟨Or.inr (hw _ (List.mem_of_getElem? (i := 86) rfl)), .double, by decide, rfl⟩
      · exact ⟨Or.inr (hw _ (List.mem_of_getElem? (i := 88) rfl)), (.object "com/example/tidewise/tidewise/model/SpeedProfile"), by decide, rfl⟩) (by decide) (g := (mkF m 59 #[.val (.int xa), .val (.int xb), .val (.int xc), .val (.int xl), .val (.double s0_), .second, .val (.double s1_), .second, .val (.double s2_), .second, .val (.double v22), .second, .val (.ref ai), .val (.ref x), .unset, .unset, .unset] [])) rfl (hb hby at_59) (by decide) (by decide)
  change own_S _ _ _ _ _ _ _ _ _ _ _ _ _ _ [(ai, own_A .double [.double s0_, .double s1_, .double s2_]), (x, own_O "com/example/tidewise/tidewise/model/SpeedProfile" [("com/example/tidewise/tidewise/model/SpeedProfile", "speeds", "[D", .ref y), ("com/example/tidewise/tidewise/model/SpeedProfile", "offset", "I", .int 0), ("com/example/tidewise/tidewise/model/SpeedProfile", "slotCount", "I", .int 3), ("com/example/tidewise/tidewise/model/SpeedProfile", "slotSeconds", "D", .double w0), ("com/example/tidewise/tidewise/model/SpeedProfile", "metresPerDay", "D", .double w1), ("com/example/tidewise/tidewise/model/SpeedProfile", "lowestSpeed", "D", .double (own_mn s2_ (own_mn s1_ s0_))), ("com/example/tidewise/tidewise/model/SpeedProfile", "highestSpeed", "D", .double (own_mx s2_ (own_mx s1_ s0_)))]), (y, own_A .double [.double s0_, .double s1_, .double s2_]), (z, own_O "com/example/tidewise/tidewise/model/SpeedProfileFunction" [("com/example/tidewise/tidewise/model/SpeedProfileFunction", "length", "D", .double 0), ("com/example/tidewise/tidewise/model/SpeedProfileFunction", "profile", "Lcom/example/tidewise/tidewise/model/SpeedProfile;", .null)])] _ _ at Hs10
  obtain ⟨M1, m1⟩ := own_mn_is k1 k0
  obtain ⟨M2, m2⟩ := own_mn_is k2 m1
  obtain ⟨M3, m3⟩ := own_mx_is k1 k0
  obtain ⟨M4, m4⟩ := own_mx_is k2 m3
  obtain ⟨Ts11, vs11_, css11_, qs11, Hs11, hS1, hfl1, hZ1, hown1, sts11⟩ := own_callIW Hs10 hx hZ hown rfl (hw _ (List.mem_of_getElem? (i := 49) rfl)) (hw _ (List.mem_of_getElem? (i := 50) rfl)) (hw _ (List.mem_of_getElem? (i := 48) rfl)) (hw _ (List.mem_of_getElem? (i := 51) rfl)) (by decide) (x := z) (argsL := [(.double v22), (.ref x)]) (rest := [(.ref z)]) (W := 1) (own_sfm l Z a0 hb0 hw z v22 x ai y _ _ w0 w1 (own_mn s2_ (own_mn s1_ s0_)) (own_mx s2_ (own_mx s1_ s0_)) _ _ il l0 l1 m2) (by decide) (by decide) (by decide) (by decide) (g := (mkF m 67 #[.val (.int xa), .val (.int xb), .val (.int xc), .val (.int xl), .val (.double s0_), .second, .val (.double s1_), .second, .val (.double s2_), .second, .val (.double v22), .second, .val (.ref ai), .val (.ref x), .unset, .unset, .unset] [(.ref x), (.double v22), (.ref z), (.ref z)])) rfl (by rw [hml]; rfl) (lenOf own_pd5 rfl) rfl (by show 2 * 0 + _ ≤ _; exact Nat.le_of_eq rfl) (hb hby at_67)
  obtain ⟨rfl, rfl⟩ := qs11
  change own_S _ _ _ _ _ _ _ _ _ _ _ _ _ _ [(ai, own_A .double [.double s0_, .double s1_, .double s2_]), (x, own_O "com/example/tidewise/tidewise/model/SpeedProfile" [("com/example/tidewise/tidewise/model/SpeedProfile", "speeds", "[D", .ref y), ("com/example/tidewise/tidewise/model/SpeedProfile", "offset", "I", .int 0), ("com/example/tidewise/tidewise/model/SpeedProfile", "slotCount", "I", .int 3), ("com/example/tidewise/tidewise/model/SpeedProfile", "slotSeconds", "D", .double w0), ("com/example/tidewise/tidewise/model/SpeedProfile", "metresPerDay", "D", .double w1), ("com/example/tidewise/tidewise/model/SpeedProfile", "lowestSpeed", "D", .double (own_mn s2_ (own_mn s1_ s0_))), ("com/example/tidewise/tidewise/model/SpeedProfile", "highestSpeed", "D", .double (own_mx s2_ (own_mx s1_ s0_)))]), (y, own_A .double [.double s0_, .double s1_, .double s2_]), (z, own_O "com/example/tidewise/tidewise/model/SpeedProfileFunction" [("com/example/tidewise/tidewise/model/SpeedProfileFunction", "length", "D", .double v22), ("com/example/tidewise/tidewise/model/SpeedProfileFunction", "profile", "Lcom/example/tidewise/tidewise/model/SpeedProfile;", .ref x)])] _ _ at Hs11
  have hq := own_quo il l0 l1 m2
  obtain ⟨Ts12, vs12_, css12_, qs12, Hs12, sts12⟩ := own_callS Hs11 hx hZ1 hown1 (hw _ (List.mem_of_getElem? (i := 89) rfl)) (hw _ (List.mem_of_getElem? (i := 90) rfl)) (hw _ (List.mem_of_getElem? (i := 2) rfl)) (hw _ (List.mem_of_getElem? (i := 91) rfl)) (by decide) (argsL := [(.double s0_), (.double s1_), (.double s2_)]) (rest := [(.double v22)]) (W := 2) (own_lst l Z a0 ⟨hb0.b, Ts11.heap.size⟩ hw s0_ s1_ s2_ _) (by decide) (by decide) (by decide) (by decide) (g := (mkF m 80 #[.val (.int xa), .val (.int xb), .val (.int xc), .val (.int xl), .val (.double s0_), .second, .val (.double s1_), .second, .val (.double s2_), .second, .val (.double v22), .second, .val (.ref ai), .val (.ref x), .val (.ref z), .unset, .unset] [(.double s2_), (.double s1_), (.double s0_), (.double v22)])) rfl (by rw [hml]; rfl) (lenOf own_pd4 rfl) rfl (by show 2 * 0 + _ ≤ _; exact Nat.le_of_eq rfl) (hb hby at_80)
  obtain ⟨rfl, rfl⟩ := qs12
  change own_S _ _ _ _ _ _ _ _ _ _ _ _ _ _ [(ai, own_A .double [.double s0_, .double s1_, .double s2_]), (x, own_O "com/example/tidewise/tidewise/model/SpeedProfile" [("com/example/tidewise/tidewise/model/SpeedProfile", "speeds", "[D", .ref y), ("com/example/tidewise/tidewise/model/SpeedProfile", "offset", "I", .int 0), ("com/example/tidewise/tidewise/model/SpeedProfile", "slotCount", "I", .int 3), ("com/example/tidewise/tidewise/model/SpeedProfile", "slotSeconds", "D", .double w0), ("com/example/tidewise/tidewise/model/SpeedProfile", "metresPerDay", "D", .double w1), ("com/example/tidewise/tidewise/model/SpeedProfile", "lowestSpeed", "D", .double (own_mn s2_ (own_mn s1_ s0_))), ("com/example/tidewise/tidewise/model/SpeedProfile", "highestSpeed", "D", .double (own_mx s2_ (own_mx s1_ s0_)))]), (y, own_A .double [.double s0_, .double s1_, .double s2_]), (z, own_O "com/example/tidewise/tidewise/model/SpeedProfileFunction" [("com/example/tidewise/tidewise/model/SpeedProfileFunction", "length", "D", .double v22), ("com/example/tidewise/tidewise/model/SpeedProfileFunction", "profile", "Lcom/example/tidewise/tidewise/model/SpeedProfile;", .ref x)])] _ _ at Hs12
  obtain ⟨v83, hv83⟩ : ∃ z : UInt64, (FP.ddiv v22 (own_mn s2_ (own_mn s1_ s0_))) = z := ⟨_, rfl⟩
  obtain ⟨Ts13, vs13_, css13_, qs13, Hs13, sts13⟩ := own_callV Hs12 hx hZ1 hown1 (hw _ (List.mem_of_getElem? (i := 92) rfl)) (hw _ (List.mem_of_getElem? (i := 93) rfl)) (hw _ (List.mem_of_getElem? (i := 95) rfl)) (hw _ (List.mem_of_getElem? (i := 94) rfl)) (hw _ (List.mem_of_getElem? (i := 48) rfl)) (hw _ (List.mem_of_getElem? (i := 96) rfl)) (by decide) (x := z) 3 rfl (argsL := []) (rest := []) (W := 0) (own_bdm l Z a0 ⟨hb0.b, Ts11.heap.size⟩ hw z x ai y _ _ w0 w1 (own_mn s2_ (own_mn s1_ s0_)) (own_mx s2_ (own_mx s1_ s0_)) v22 hq.1) (by decide) (by decide) (by decide) (by decide) (g := (mkF m 88 #[.val (.int xa), .val (.int xb), .val (.int xc), .val (.int xl), .val (.double s0_), .second, .val (.double s1_), .second, .val (.double s2_), .second, .val (.double v22), .second, .val (.ref ai), .val (.ref x), .val (.ref z), .val (.double v83), .second] [(.ref z)])) rfl (by rw [hml]; rfl) (lenOf own_pd0 rfl) rfl (by show 2 * 0 + _ ≤ _; exact Nat.le_of_eq rfl) (hb hby at_88)
  obtain ⟨rfl, rfl⟩ := qs13
  change own_S _ _ _ _ _ _ _ _ _ _ _ _ _ _ [(ai, own_A .double [.double s0_, .double s1_, .double s2_]), (x, own_O "com/example/tidewise/tidewise/model/SpeedProfile" [("com/example/tidewise/tidewise/model/SpeedProfile", "speeds", "[D", .ref y), ("com/example/tidewise/tidewise/model/SpeedProfile", "offset", "I", .int 0), ("com/example/tidewise/tidewise/model/SpeedProfile", "slotCount", "I", .int 3), ("com/example/tidewise/tidewise/model/SpeedProfile", "slotSeconds", "D", .double w0), ("com/example/tidewise/tidewise/model/SpeedProfile", "metresPerDay", "D", .double w1), ("com/example/tidewise/tidewise/model/SpeedProfile", "lowestSpeed", "D", .double (own_mn s2_ (own_mn s1_ s0_))), ("com/example/tidewise/tidewise/model/SpeedProfile", "highestSpeed", "D", .double (own_mx s2_ (own_mx s1_ s0_)))]), (y, own_A .double [.double s0_, .double s1_, .double s2_]), (z, own_O "com/example/tidewise/tidewise/model/SpeedProfileFunction" [("com/example/tidewise/tidewise/model/SpeedProfileFunction", "length", "D", .double v22), ("com/example/tidewise/tidewise/model/SpeedProfileFunction", "profile", "Lcom/example/tidewise/tidewise/model/SpeedProfile;", .ref x)])] _ _ at Hs13
  obtain ⟨v93, hv93⟩ : ∃ z : Int32, (cmpValue (FP.dcmp (FP.ddiv v22 (own_mn s2_ (own_mn s1_ s0_))) v83) .l) = z := ⟨_, rfl⟩
  have nn83 : NoNaN64 (FP.ddiv v22 (own_mn s2_ (own_mn s1_ s0_))) := hq.1
  have hb94 : ifCond.holds .ne v93 = false := by rw [← hv93, ← hv83, hq.2.2]; rfl
  refine ⟨Ts11.vm, Ts11.heap.size, _, _, _, _, 102, #[.val (.int xa), .val (.int xb), .val (.int xc), .val (.int xl), .val (.double s0_), .second, .val (.double s1_), .second, .val (.double s2_), .second, .val (.double v22), .second, .val (.ref ai), .val (.ref x), .val (.ref z), .val (.double v83), .second], hS1, hfl1, Hs13, by decide, by decide, Or.inr ⟨.boolean, (.int (1 : Int32)), [], .ireturn, rfl, rfl, at_102, own_retZ (Or.inr rfl), fun target q => ?_⟩⟩
  refine own_go H0 hx hZ hown hby hw own_K0_ok (own_s0 xa xb xc xl) _ ?_
  refine sts1 _ ?_
  refine own_go Hs1 hx hZ hown hby hw own_K0_ok (own_s1 xa xb xc xl s0_) _ ?_
  refine sts2 _ ?_
  refine own_go Hs2 hx hZ hown hby hw own_K0_ok (own_s2 xa xb xc xl s0_ s1_) _ ?_
  refine sts3 _ ?_
  refine own_go Hs3 hx hZ hown hby hw own_K0_ok (own_s3 xa xb xc xl s0_ s1_ s2_ v21 hv21 v22 hv22) _ ?_
  refine sts4 _ ?_
  refine own_go Hs4 hx hZ hown hby hw own_K0_ok (own_s4 xa xb xc xl s0_ s1_ s2_ v22 ai) _ ?_
  refine sts5 _ ?_
  refine own_go Hs5 hx hZ hown hby hw own_K0_ok (own_s5 xa xb xc xl s0_ s1_ s2_ v22 ai) _ ?_
  refine sts6 _ ?_
  refine own_go Hs6 hx hZ hown hby hw own_K0_ok (own_s6 xa xb xc xl s0_ s1_ s2_ v22 ai) _ ?_
  refine sts7 _ ?_
  refine sts8 _ ?_
  refine own_go Hs8 hx hZ hown hby hw own_K0_ok (own_s7 xa xb xc xl s0_ s1_ s2_ v22 ai x) _ ?_
  refine sts9 _ ?_
  refine own_go Hs9 hx hZ hown hby hw own_K0_ok (own_s8 xa xb xc xl s0_ s1_ s2_ v22 ai x) _ ?_
  refine sts10 _ ?_
  refine own_go Hs10 hx hZ hown hby hw own_K0_ok (own_s9 xa xb xc xl s0_ s1_ s2_ v22 ai x z) _ ?_
  refine sts11 _ ?_
  refine own_go Hs11 hx hZ1 hown1 hby hw own_K0_ok (own_s10 xa xb xc xl s0_ s1_ s2_ v22 ai x z) _ ?_
  refine sts12 _ ?_
  refine own_go Hs12 hx hZ1 hown1 hby hw own_K0_ok (own_s11 xa xb xc xl s0_ s1_ s2_ v22 ai x z v83 hv83 nn83) _ ?_
  refine sts13 _ ?_
  refine own_go Hs13 hx hZ1 hown1 hby hw own_K0_ok (own_s12 xa xb xc xl s0_ s1_ s2_ v22 ai x z v83 v93 hv93 hb94) _ ?_
  exact q
set_option maxRecDepth 65536 in
set_option maxHeartbeats 40000000 in
theorem own_comes {Post : Tables → Env → Array Value → State → Outcome → State → Prop} (hpost : ∀ tb e args s v u, (limb_1_1.after args s (.returned v) u = true ∧ limb_1_2.after args s (.returned v) u = true ∧ True) → Jvm.D.FramedW s (.returned v) u (Jvm.fieldLocs frame_1_writes args s ++ Jvm.arrayLocs frame_1_arrays args s ++ Jvm.staticLocs frame_1_statics s) 24 1152 → Post tb e args s (.returned v) u) :
    ArmFor flags0 classFile x code maxLocals ret World_1 tables_1 room_1 Calls_1 rest_1 Pre_1 Post := by
  intro l hfl _ _ p e ha hc hk s m args below hf hA hF happ hP
  obtain ⟨hcalls, hrest, hpre⟩ := hP
  obtain ⟨-, -, -, hnamed, -, -, -, hat⟩ := (Spec.applies_iff hf).mp happ
  obtain ⟨hg, hn⟩ := and_e (Cond.before_iff.mp (show (Jvm.Cond.and given_1 narrow_1).before args s = true from hpre))
  obtain ⟨h1, g0⟩ := and_e hg
  obtain ⟨w0, w1, w2, w3, rfl⟩ : ∃ w0 w1 w2 w3 : Value, args = #[w0, w1, w2, w3] := by
    have hs : args.size = 4 := by simpa [Cond.value, given_1] using h1
    obtain ⟨L⟩ := args
    match L, hs with
    | [w0, w1, w2, w3], _ => exact ⟨w0, w1, w2, w3, rfl⟩
  have hw := fun d (hd : d ∈ tables_1) => atoms_spec (ws := Jvm.Cond.code x code maxLocals ret :: tables_1) hat d (List.mem_cons_of_mem _ hd)
  have hfit : Fit s := fun {y c} hc i hi => by
    obtain ⟨ha, rfl⟩ := Array.getElem?_eq_some_iff.mp hc
    have q := List.all_eq_true.mp ((Array.all_eq_true_iff_forall_mem.mp hF) _ (Array.getElem_mem ha)) i (List.mem_range.mpr hi)
    simpa [Array.getElem?_eq_getElem hi] using q
  obtain ⟨f0, g1⟩ := and_e g0
  obtain ⟨i0, e0⟩ := is_v f0
  obtain rfl : w0 = (.int i0) := Option.some.inj e0
  obtain ⟨f1, g2⟩ := and_e g1
  obtain ⟨i1, e1⟩ := is_v f1
  obtain rfl : w1 = (.int i1) := Option.some.inj e1
  obtain ⟨f2, g3⟩ := and_e g2
  obtain ⟨i2, e2⟩ := is_v f2
  obtain rfl : w2 = (.int i2) := Option.some.inj e2
  obtain ⟨i3, e3⟩ := is_v g3
  obtain rfl : w3 = (.int i3) := Option.some.inj e3
  obtain ⟨n, o, h1, h2, h3, _, L, rfl, ⟨N, cs', rfl, -⟩, hq⟩ := own_law l s _ ⟨s.heap, 0⟩ hw i0 i1 i2 i3  s.heap (own_Hp_start s _ s.heap) p e ha hc hk s m _ below hf ((Spec.applies_iff_loose hf).mp happ).1 ⟨rfl, State.Warmed39.refl s, rfl⟩ trivial
  refine ⟨n, _, h1, h2, h3, hpost _ _ _ _ _ _ ⟨Cond.after_iff.mpr rfl, Cond.after_iff.mpr (eq_i res_at (Term.int_eval (1)) rfl), trivial⟩ ⟨hq.1, hq.2.1, hq.2.2.1, (hq.2.2.2.sift fun y hy => Or.inr (N y hy)).mono (by decide) (by decide)⟩⟩
theorem main_1_1 : Claimed_1_1 := own_comes fun _ _ _ _ _ _ h hF => ⟨h.1, hF⟩
theorem main_1_2 : Claimed_1_2 := own_comes fun _ _ _ _ _ _ h hF => ⟨h.2.1, hF⟩
end OwnClaim
end Jvm.Pilot.@@N@@
namespace Jvm.Pilot.@@N@@
open Jvm Jvm.ClassFile Sem Op Lib Jvm.Free Jvm.Stand Jvm.Pilot.@@N@@.Jvm.D
/-! MADE BY PROGRAM (witnessworld.py) out of the Statement's table words and the real class files: 23 classes; the members and pool entries that the words name. The judged class is class 1, her method 3. -/
namespace start1
open Jvm.ClassFile
def u (s : String) : CpInfo := .utf8 (stringToUtf16 s)
/-- a pool by its gaps: so many unusable entries, then the entry; so many at the end -/
def gap : Nat → List CpInfo → List CpInfo
  | 0, r => r
  | n + 1, r => .unusable :: gap n r
def poolList (es : List (Nat × CpInfo)) (last : Nat) : List CpInfo := es.foldr (fun e r => gap e.1 (e.2 :: r)) (gap last [])
def pool (es : List (Nat × CpInfo)) (last : Nat) : Array CpInfo := ⟨poolList es last⟩
def fileOf (pool : Array CpInfo) (this : Nat) (attrs : Array Attribute := #[]) (ms : Array MethodInfo := #[]) (fl : Nat := 33) (sup : Nat := 0) (ifs : Array Nat := #[]) (fds : Array FieldInfo := #[]) : ClassFile where
  minorVersion := 0
  majorVersion := 65
  constantPool := pool
  accessFlags := fl
  thisClass := this
  superClass := sup
  interfaces := ifs
  fields := fds
  methods := ms
  attributes := attrs
def plain (name : String) (sup : Option ClassId) : Class where
  name := name
  kind := .ordinary
  loader := none
  accessFlags := 33
  super := sup
  interfaces := #[]
  cf := none
  fields := #[]
  methods := #[]
  instanceTypes := #[]
  staticTypes := #[]
  resolved := #[]
  callSites := []
  init := .initialized
  statics := none
  mirror := none

def pool0 : Array CpInfo := pool [(5, u "<init>"), (0, u "()V"), (1, .class_ 10), (1, u "java/lang/Object"), (85, u "clone"), (0, u "()Ljava/lang/Object;")] 26

def k0c0 : Code := { maxStack := 0, maxLocals := 1, code := object_method_1_code, exceptionTable := #[], attributes := #[] }
def k0m0 : Method := { name := "<init>", desc := "()V", sig := { parameters := [], returnType := none }, accessFlags := 1, code := some k0c0 }
def k0m1 : Method := { name := "clone", desc := "()Ljava/lang/Object;", sig := { parameters := [], returnType := some (.object "java/lang/Object") }, accessFlags := 260, code := none }
/-- java/lang/Object -/
def k0 : Class := { plain "java/lang/Object" none with
  accessFlags := 33
  interfaces := #[]
  cf := some (fileOf pool0 8 #[] #[{ accessFlags := 1, nameIndex := 5, descriptorIndex := 6, attributes := #[] }, { accessFlags := 260, nameIndex := 96, descriptorIndex := 97, attributes := #[] }] 33 0 #[] #[])
  fields := #[]
  methods := #[k0m0, k0m1]
  instanceTypes := #[]
  staticTypes := #[]
  resolved := Array.replicate 124 none
  statics := none }

def pool1 : Array CpInfo := pool [(2, .class_ 4), (1, u "java/lang/Object"), (0, u "<init>"), (0, u "()V"), (0, .integer 65535), (0, .double 4625196817309499392), (1, .methodref 11 12), (0, .class_ 13), (0, .nameAndType 14 15), (0, u "com/example/tidewise/tidewise/model/SpeedProfileFunctionUpperBoundPinLaw"), (0, u "speedOf"), (0, u "(I)D"), (0, .integer 33554431), (0, .class_ 18), (0, u "com/example/tidewise/tidewise/model/SpeedProfile"), (0, .methodref 17 20), (0, .nameAndType 5 21), (0, u "([D)V"), (0, .class_ 23), (0, u "com/example/tidewise/tidewise/model/SpeedProfileFunction"), (0, .methodref 22 25), (0, .nameAndType 5 26), (0, u "(DLcom/example/tidewise/tidewise/model/SpeedProfile;)V"), (0, .methodref 11 28), (0, .nameAndType 29 30), (0, u "least"), (0, u "(DDD)D"), (0, .methodref 22 32), (0, .nameAndType 33 34), (0, u "upperBound"), (0, u "()D"), (3, u "law"), (0, u "(IIII)Z")] 4

def k1m0 : Method := { name := "<init>", desc := "()V", sig := { parameters := [], returnType := none }, accessFlags := 1, code := none }
def k1c1 : Code := { maxStack := 4, maxLocals := 1, code := method_2_code, exceptionTable := #[], attributes := #[] }
def k1m1 : Method := { name := "speedOf", desc := "(I)D", sig := { parameters := [.int], returnType := some .double }, accessFlags := 10, code := some k1c1 }
def k1c2 : Code := { maxStack := 4, maxLocals := 8, code := method_3_code, exceptionTable := #[], attributes := #[] }
def k1m2 : Method := { name := "least", desc := "(DDD)D", sig := { parameters := [.double, .double, .double], returnType := some .double }, accessFlags := 10, code := some k1c2 }
def k1c3 : Code := { maxStack := 8, maxLocals := 17, code := code, exceptionTable := #[], attributes := #[] }
def k1m3 : Method := { name := "law", desc := "(IIII)Z", sig := { parameters := [.int, .int, .int, .int], returnType := some .boolean }, accessFlags := 9, code := some k1c3 }
/-- com/example/tidewise/tidewise/model/SpeedProfileFunctionUpperBoundPinLaw -/
def k1 : Class := { plain "com/example/tidewise/tidewise/model/SpeedProfileFunctionUpperBoundPinLaw" (some 0) with
  accessFlags := 49
  interfaces := #[]
  cf := some (fileOf pool1 11 #[] #[{ accessFlags := 1, nameIndex := 5, descriptorIndex := 6, attributes := #[] }, { accessFlags := 10, nameIndex := 14, descriptorIndex := 15, attributes := #[] }, { accessFlags := 10, nameIndex := 29, descriptorIndex := 30, attributes := #[] }, { accessFlags := 9, nameIndex := 38, descriptorIndex := 39, attributes := #[] }] 49 2 #[] #[])
  fields := #[]
  methods := #[k1m0, k1m1, k1m2, k1m3]
  instanceTypes := #[]
  staticTypes := #[]
  resolved := Array.replicate 44 none
  statics := none }

def pool2 : Array CpInfo := pool [(1, .class_ 2), (0, u "com/example/tidewise/tidewise/model/SpeedProfile"), (0, .methodref 4 5), (0, .class_ 6), (0, .nameAndType 7 8), (0, u "[D"), (0, u "clone"), (0, u "()Ljava/lang/Object;"), (0, .methodref 1 10), (0, .nameAndType 11 12), (0, u "<init>"), (0, u "([DII)V"), (0, .methodref 14 15), (0, .class_ 16), (0, .nameAndType 11 17), (0, u "java/lang/Object"), (0, u "()V"), (2, .integer 86400), (9, .fieldref 1 31), (0, .nameAndType 32 6), (0, u "speeds"), (0, .fieldref 1 34), (0, .nameAndType 35 36), (0, u "offset"), (0, u "I"), (0, .fieldref 1 38), (0, .nameAndType 39 36), (0, u "slotCount"), (0, .fieldref 1 41), (0, .nameAndType 42 43), (0, u "slotSeconds"), (0, u "D"), (2, .double 9218868437227405312), (1, .double 4583663620745971485), (5, .fieldref 1 55), (0, .nameAndType 56 43), (0, u "metresPerDay"), (0, .fieldref 1 58), (0, .nameAndType 59 43), (0, u "lowestSpeed"), (0, .fieldref 1 61), (0, .nameAndType 62 43), (0, u "highestSpeed"), (51, u "KMH_PER_METRE_PER_SECOND"), (3, u "MIN_SPEED_KMH"), (2, u "MIN_SPEED"), (0, u "([D)V"), (8, u "()D"), (5, .class_ 138), (0, u "com/example/tidewise/tidewise/model/SpeedProfile$Batch")] 18

def k2c0 : Code := { maxStack := 4, maxLocals := 2, code := prog_70_method_1_code, exceptionTable := #[], attributes := #[] }
def k2m0 : Method := { name := "<init>", desc := "([D)V", sig := { parameters := [(.array .double)], returnType := none }, accessFlags := 1, code := some k2c0 }
def k2c1 : Code := { maxStack := 6, maxLocals := 13, code := prog_70_method_2_code, exceptionTable := #[], attributes := #[] }
def k2m1 : Method := { name := "<init>", desc := "([DII)V", sig := { parameters := [(.array .double), .int, .int], returnType := none }, accessFlags := 2, code := some k2c1 }
def k2c2 : Code := { maxStack := 2, maxLocals := 1, code := prog_70_method_6_code, exceptionTable := #[], attributes := #[] }
def k2m2 : Method := { name := "lowestSpeed", desc := "()D", sig := { parameters := [], returnType := some .double }, accessFlags := 1, code := some k2c2 }
/-- com/example/tidewise/tidewise/model/SpeedProfile -/
def k2 : Class := { plain "com/example/tidewise/tidewise/model/SpeedProfile" (some 0) with
  accessFlags := 49
  interfaces := #[]
  cf := some (fileOf pool2 1 #[.nestMembers #[137]] #[{ accessFlags := 1, nameIndex := 11, descriptorIndex := 122, attributes := #[] }, { accessFlags := 2, nameIndex := 11, descriptorIndex := 12, attributes := #[] }, { accessFlags := 1, nameIndex := 59, descriptorIndex := 131, attributes := #[] }] 49 14 #[] #[{ accessFlags := 25, nameIndex := 114, descriptorIndex := 43, attributes := #[] }, { accessFlags := 25, nameIndex := 118, descriptorIndex := 43, attributes := #[] }, { accessFlags := 25, nameIndex := 121, descriptorIndex := 43, attributes := #[] }, { accessFlags := 18, nameIndex := 32, descriptorIndex := 6, attributes := #[] }, { accessFlags := 18, nameIndex := 35, descriptorIndex := 36, attributes := #[] }, { accessFlags := 18, nameIndex := 39, descriptorIndex := 36, attributes := #[] }, { accessFlags := 18, nameIndex := 42, descriptorIndex := 43, attributes := #[] }, { accessFlags := 18, nameIndex := 56, descriptorIndex := 43, attributes := #[] }, { accessFlags := 18, nameIndex := 59, descriptorIndex := 43, attributes := #[] }, { accessFlags := 18, nameIndex := 62, descriptorIndex := 43, attributes := #[] }])
  fields := #[{ name := "KMH_PER_METRE_PER_SECOND", type := .double, accessFlags := 25, slot := 0, constantValue := 0 }, { name := "MIN_SPEED_KMH", type := .double, accessFlags := 25, slot := 1, constantValue := 0 }, { name := "MIN_SPEED", type := .double, accessFlags := 25, slot := 2, constantValue := 0 }, { name := "speeds", type := (.array .double), accessFlags := 18, slot := 0, constantValue := 0 }, { name := "offset", type := .int, accessFlags := 18, slot := 1, constantValue := 0 }, { name := "slotCount", type := .int, accessFlags := 18, slot := 2, constantValue := 0 }, { name := "slotSeconds", type := .double, accessFlags := 18, slot := 3, constantValue := 0 }, { name := "metresPerDay", type := .double, accessFlags := 18, slot := 4, constantValue := 0 }, { name := "lowestSpeed", type := .double, accessFlags := 18, slot := 5, constantValue := 0 }, { name := "highestSpeed", type := .double, accessFlags := 18, slot := 6, constantValue := 0 }]
  methods := #[k2m0, k2m1, k2m2]
  instanceTypes := #[(.array .double), .int, .int, .double, .double, .double, .double]
  staticTypes := #[.double, .double, .double]
  resolved := Array.replicate 157 none
  statics := none }

def pool3 : Array CpInfo := pool [(1, .class_ 2), (0, u "java/lang/Cloneable"), (0, .class_ 4), (0, u "java/lang/Object")] 2

/-- java/lang/Cloneable -/
def k3 : Class := { plain "java/lang/Cloneable" (some 0) with
  accessFlags := 1537
  interfaces := #[]
  cf := some (fileOf pool3 1 #[] #[] 1537 3 #[] #[])
  fields := #[]
  methods := #[]
  instanceTypes := #[]
  staticTypes := #[]
  resolved := Array.replicate 7 none
  statics := none }

def pool4 : Array CpInfo := pool [(1, .methodref 2 3), (0, .class_ 4), (0, .nameAndType 5 6), (0, u "java/lang/Object"), (0, u "<init>"), (0, u "()V"), (0, .class_ 8), (0, u "java/lang/Record")] 13

def k4c0 : Code := { maxStack := 1, maxLocals := 1, code := jdk_30_method_1_code, exceptionTable := #[], attributes := #[] }
def k4m0 : Method := { name := "<init>", desc := "()V", sig := { parameters := [], returnType := none }, accessFlags := 4, code := some k4c0 }
/-- java/lang/Record -/
def k4 : Class := { plain "java/lang/Record" (some 0) with
  accessFlags := 1057
  interfaces := #[]
  cf := some (fileOf pool4 7 #[] #[{ accessFlags := 4, nameIndex := 5, descriptorIndex := 6, attributes := #[] }] 1057 2 #[] #[])
  fields := #[]
  methods := #[k4m0]
  instanceTypes := #[]
  staticTypes := #[]
  resolved := Array.replicate 22 none
  statics := none }

def pool5 : Array CpInfo := pool [(1, .class_ 2), (0, u "com/example/tidewise/tidewise/model/TravelTimeFunction"), (0, .class_ 4), (0, u "java/lang/Object"), (0, u "MAX_TRAVEL_TIME"), (0, u "D")] 12

/-- com/example/tidewise/tidewise/model/TravelTimeFunction -/
def k5 : Class := { plain "com/example/tidewise/tidewise/model/TravelTimeFunction" (some 0) with
  accessFlags := 1537
  interfaces := #[]
  cf := some (fileOf pool5 1 #[] #[] 1537 3 #[] #[{ accessFlags := 25, nameIndex := 5, descriptorIndex := 6, attributes := #[] }])
  fields := #[{ name := "MAX_TRAVEL_TIME", type := .double, accessFlags := 25, slot := 0, constantValue := 0 }]
  methods := #[]
  instanceTypes := #[]
  staticTypes := #[.double]
  resolved := Array.replicate 19 none
  statics := none }

def pool6 : Array CpInfo := pool [(1, .methodref 2 3), (0, .class_ 4), (0, .nameAndType 5 6), (0, u "java/lang/Record"), (0, u "<init>"), (0, u "()V"), (0, .methodref 8 9), (0, .class_ 10), (0, .nameAndType 11 12), (0, u "java/lang/Double"), (0, u "isInfinite"), (0, u "(D)Z"), (9, .string 23), (0, u "profile"), (0, .methodref 25 26), (0, .class_ 27), (0, .nameAndType 28 29), (0, u "java/util/Objects"), (0, u "requireNonNull"), (0, u "(Ljava/lang/Object;Ljava/lang/String;)Ljava/lang/Object;"), (0, .methodref 31 32), (0, .class_ 33), (0, .nameAndType 34 35), (0, u "com/example/tidewise/tidewise/model/SpeedProfile"), (0, u "lowestSpeed"), (0, u "()D"), (0, .class_ 37), (0, u "com/example/tidewise/tidewise/model/TravelTimeFunction"), (0, .double 4741671816366391296), (4, .fieldref 44 45), (0, .class_ 46), (0, .nameAndType 47 48), (0, u "com/example/tidewise/tidewise/model/SpeedProfileFunction"), (0, u "length"), (0, u "D"), (0, .fieldref 44 50), (0, .nameAndType 23 51), (0, u "Lcom/example/tidewise/tidewise/model/SpeedProfile;"), (23, u "(DLcom/example/tidewise/tidewise/model/SpeedProfile;)V"), (6, u "upperBound")] 35

def k6c0 : Code := { maxStack := 8, maxLocals := 6, code := prog_72_method_1_code, exceptionTable := #[], attributes := #[] }
def k6m0 : Method := { name := "<init>", desc := "(DLcom/example/tidewise/tidewise/model/SpeedProfile;)V", sig := { parameters := [.double, (.object "com/example/tidewise/tidewise/model/SpeedProfile")], returnType := none }, accessFlags := 1, code := some k6c0 }
def k6c1 : Code := { maxStack := 4, maxLocals := 1, code := prog_72_method_5_code, exceptionTable := #[], attributes := #[] }
def k6m1 : Method := { name := "upperBound", desc := "()D", sig := { parameters := [], returnType := some .double }, accessFlags := 1, code := some k6c1 }
/-- com/example/tidewise/tidewise/model/SpeedProfileFunction -/
def k6 : Class := { plain "com/example/tidewise/tidewise/model/SpeedProfileFunction" (some 4) with
  accessFlags := 49
  interfaces := #[5]
  cf := some (fileOf pool6 44 #[] #[{ accessFlags := 1, nameIndex := 5, descriptorIndex := 75, attributes := #[] }, { accessFlags := 1, nameIndex := 82, descriptorIndex := 35, attributes := #[] }] 49 2 #[36] #[{ accessFlags := 18, nameIndex := 47, descriptorIndex := 48, attributes := #[] }, { accessFlags := 18, nameIndex := 23, descriptorIndex := 51, attributes := #[] }])
  fields := #[{ name := "length", type := .double, accessFlags := 18, slot := 0, constantValue := 0 }, { name := "profile", type := (.object "com/example/tidewise/tidewise/model/SpeedProfile"), accessFlags := 18, slot := 1, constantValue := 0 }]
  methods := #[k6m0, k6m1]
  instanceTypes := #[.double, (.object "com/example/tidewise/tidewise/model/SpeedProfile")]
  staticTypes := #[]
  resolved := Array.replicate 118 none
  statics := none }

def pool7 : Array CpInfo := pool [(1, .class_ 2), (0, u "java/io/Serializable"), (0, .class_ 4), (0, u "java/lang/Object")] 2

/-- java/io/Serializable -/
def k7 : Class := { plain "java/io/Serializable" (some 0) with
  accessFlags := 1537
  interfaces := #[]
  cf := some (fileOf pool7 1 #[] #[] 1537 3 #[] #[])
  fields := #[]
  methods := #[]
  instanceTypes := #[]
  staticTypes := #[]
  resolved := Array.replicate 7 none
  statics := none }

def pool8 : Array CpInfo := pool [(2, .class_ 4), (1, u "java/lang/Object"), (0, u "<init>"), (0, u "()V"), (1, .class_ 10), (1, u "java/lang/Number"), (2, .class_ 14), (0, u "java/io/Serializable"), (0, u "serialVersionUID"), (0, u "J")] 20

def k8m0 : Method := { name := "<init>", desc := "()V", sig := { parameters := [], returnType := none }, accessFlags := 1, code := none }
/-- java/lang/Number -/
def k8 : Class := { plain "java/lang/Number" (some 0) with
  accessFlags := 1057
  interfaces := #[7]
  cf := some (fileOf pool8 8 #[] #[{ accessFlags := 1, nameIndex := 5, descriptorIndex := 6, attributes := #[] }] 1057 2 #[13] #[{ accessFlags := 26, nameIndex := 15, descriptorIndex := 16, attributes := #[] }])
  fields := #[{ name := "serialVersionUID", type := .long, accessFlags := 26, slot := 0, constantValue := 0 }]
  methods := #[k8m0]
  instanceTypes := #[]
  staticTypes := #[.long]
  resolved := Array.replicate 37 none
  statics := none }

def pool9 : Array CpInfo := pool [(1, .class_ 2), (0, u "java/lang/Comparable"), (0, .class_ 4), (0, u "java/lang/Object")] 7

/-- java/lang/Comparable -/
def k9 : Class := { plain "java/lang/Comparable" (some 0) with
  accessFlags := 1537
  interfaces := #[]
  cf := some (fileOf pool9 1 #[] #[] 1537 3 #[] #[])
  fields := #[]
  methods := #[]
  instanceTypes := #[]
  staticTypes := #[]
  resolved := Array.replicate 12 none
  statics := none }

def pool10 : Array CpInfo := pool [(1, .class_ 2), (0, u "java/lang/constant/Constable"), (0, .class_ 4), (0, u "java/lang/Object")] 6

/-- java/lang/constant/Constable -/
def k10 : Class := { plain "java/lang/constant/Constable" (some 0) with
  accessFlags := 1537
  interfaces := #[]
  cf := some (fileOf pool10 1 #[] #[] 1537 3 #[] #[])
  fields := #[]
  methods := #[]
  instanceTypes := #[]
  staticTypes := #[]
  resolved := Array.replicate 11 none
  statics := none }

def pool11 : Array CpInfo := pool [(1, .class_ 2), (0, u "java/lang/constant/ConstantDesc"), (0, .class_ 4), (0, u "java/lang/Object")] 32

/-- java/lang/constant/ConstantDesc -/
def k11 : Class := { plain "java/lang/constant/ConstantDesc" (some 0) with
  accessFlags := 1537
  interfaces := #[]
  cf := some (fileOf pool11 1 #[] #[] 1537 3 #[] #[])
  fields := #[]
  methods := #[]
  instanceTypes := #[]
  staticTypes := #[]
  resolved := Array.replicate 37 none
  statics := none }

def pool12 : Array CpInfo := pool [(1, .class_ 2), (0, u "java/lang/Double"), (11, u "(D)Z"), (8, .class_ 25), (1, u "java/lang/Math"), (12, .methodref 23 39), (0, .nameAndType 40 41), (0, u "abs"), (0, u "(D)D"), (69, .double 9218868437227405311), (2, .class_ 116), (1, u "java/lang/Number"), (3, u "value"), (0, u "D"), (5, u "isInfinite"), (45, u "TYPE"), (0, u "Ljava/lang/Class;"), (0, .class_ 176), (0, u "java/lang/Comparable"), (0, .class_ 178), (0, u "java/lang/constant/Constable"), (0, .class_ 180), (0, u "java/lang/constant/ConstantDesc"), (0, u "POSITIVE_INFINITY"), (3, u "NEGATIVE_INFINITY"), (2, u "NaN"), (2, u "MAX_VALUE"), (0, u "MIN_NORMAL"), (0, u "MIN_VALUE"), (2, u "SIZE"), (0, u "I"), (1, u "PRECISION"), (1, u "MAX_EXPONENT"), (1, u "MIN_EXPONENT"), (1, u "BYTES"), (3, u "serialVersionUID"), (0, u "J")] 79

def k12c0 : Code := { maxStack := 4, maxLocals := 2, code := jdk_117_method_7_code, exceptionTable := #[], attributes := #[] }
def k12m0 : Method := { name := "isInfinite", desc := "(D)Z", sig := { parameters := [.double], returnType := some .boolean }, accessFlags := 9, code := some k12c0 }
/-- java/lang/Double -/
def k12 : Class := { plain "java/lang/Double" (some 8) with
  accessFlags := 49
  interfaces := #[9, 10, 11]
  cf := some (fileOf pool12 1 #[] #[{ accessFlags := 9, nameIndex := 127, descriptorIndex := 14, attributes := #[] }] 49 114 #[175, 177, 179] #[{ accessFlags := 25, nameIndex := 181, descriptorIndex := 121, attributes := #[] }, { accessFlags := 25, nameIndex := 185, descriptorIndex := 121, attributes := #[] }, { accessFlags := 25, nameIndex := 188, descriptorIndex := 121, attributes := #[] }, { accessFlags := 25, nameIndex := 191, descriptorIndex := 121, attributes := #[] }, { accessFlags := 25, nameIndex := 192, descriptorIndex := 121, attributes := #[] }, { accessFlags := 25, nameIndex := 193, descriptorIndex := 121, attributes := #[] }, { accessFlags := 25, nameIndex := 196, descriptorIndex := 197, attributes := #[] }, { accessFlags := 25, nameIndex := 199, descriptorIndex := 197, attributes := #[] }, { accessFlags := 25, nameIndex := 201, descriptorIndex := 197, attributes := #[] }, { accessFlags := 25, nameIndex := 203, descriptorIndex := 197, attributes := #[] }, { accessFlags := 25, nameIndex := 205, descriptorIndex := 197, attributes := #[] }, { accessFlags := 25, nameIndex := 173, descriptorIndex := 174, attributes := #[] }, { accessFlags := 18, nameIndex := 120, descriptorIndex := 121, attributes := #[] }, { accessFlags := 26, nameIndex := 209, descriptorIndex := 210, attributes := #[] }])
  fields := #[{ name := "POSITIVE_INFINITY", type := .double, accessFlags := 25, slot := 0, constantValue := 0 }, { name := "NEGATIVE_INFINITY", type := .double, accessFlags := 25, slot := 1, constantValue := 0 }, { name := "NaN", type := .double, accessFlags := 25, slot := 2, constantValue := 0 }, { name := "MAX_VALUE", type := .double, accessFlags := 25, slot := 3, constantValue := 0 }, { name := "MIN_NORMAL", type := .double, accessFlags := 25, slot := 4, constantValue := 0 }, { name := "MIN_VALUE", type := .double, accessFlags := 25, slot := 5, constantValue := 0 }, { name := "SIZE", type := .int, accessFlags := 25, slot := 6, constantValue := 0 }, { name := "PRECISION", type := .int, accessFlags := 25, slot := 7, constantValue := 0 }, { name := "MAX_EXPONENT", type := .int, accessFlags := 25, slot := 8, constantValue := 0 }, { name := "MIN_EXPONENT", type := .int, accessFlags := 25, slot := 9, constantValue := 0 }, { name := "BYTES", type := .int, accessFlags := 25, slot := 10, constantValue := 0 }, { name := "TYPE", type := (.object "java/lang/Class"), accessFlags := 25, slot := 11, constantValue := 0 }, { name := "value", type := .double, accessFlags := 18, slot := 0, constantValue := 0 }, { name := "serialVersionUID", type := .long, accessFlags := 26, slot := 12, constantValue := 0 }]
  methods := #[k12m0]
  instanceTypes := #[.double]
  staticTypes := #[.double, .double, .double, .double, .double, .double, .int, .int, .int, .int, .int, (.object "java/lang/Class"), .long]
  resolved := Array.replicate 290 none
  statics := none }

def pool13 : Array CpInfo := pool [(1, .class_ 2), (0, u "java/lang/Math"), (1, .class_ 6), (1, u "java/lang/Object"), (0, u "<init>"), (0, u "()V"), (5, u "(D)D"), (83, .class_ 100), (1, u "java/lang/Math$RandomNumberGeneratorHolder"), (23, u "abs"), (47, u "negativeZeroFloatBits"), (0, u "J"), (2, u "negativeZeroDoubleBits"), (68, u "$assertionsDisabled"), (0, u "Z"), (91, u "twoToTheDoubleScaleDown"), (0, u "D"), (4, u "twoToTheDoubleScaleUp"), (9, u "E"), (3, u "PI"), (2, u "TAU"), (2, u "DEGREES_TO_RADIANS"), (0, u "RADIANS_TO_DEGREES")] 94

def k13m0 : Method := { name := "<init>", desc := "()V", sig := { parameters := [], returnType := none }, accessFlags := 2, code := none }
def k13c1 : Code := { maxStack := 4, maxLocals := 2, code := jdk_29_method_64_code, exceptionTable := #[], attributes := #[] }
def k13m1 : Method := { name := "abs", desc := "(D)D", sig := { parameters := [.double], returnType := some .double }, accessFlags := 9, code := some k13c1 }
/-- java/lang/Math -/
def k13 : Class := { plain "java/lang/Math" (some 0) with
  accessFlags := 49
  interfaces := #[]
  cf := some (fileOf pool13 1 #[.nestMembers #[98]] #[{ accessFlags := 2, nameIndex := 7, descriptorIndex := 8, attributes := #[] }, { accessFlags := 9, nameIndex := 124, descriptorIndex := 14, attributes := #[] }] 49 4 #[] #[{ accessFlags := 25, nameIndex := 354, descriptorIndex := 339, attributes := #[] }, { accessFlags := 25, nameIndex := 358, descriptorIndex := 339, attributes := #[] }, { accessFlags := 25, nameIndex := 361, descriptorIndex := 339, attributes := #[] }, { accessFlags := 26, nameIndex := 364, descriptorIndex := 339, attributes := #[] }, { accessFlags := 26, nameIndex := 365, descriptorIndex := 339, attributes := #[] }, { accessFlags := 26, nameIndex := 172, descriptorIndex := 173, attributes := #[] }, { accessFlags := 26, nameIndex := 176, descriptorIndex := 173, attributes := #[] }, { accessFlags := 8, nameIndex := 344, descriptorIndex := 339, attributes := #[] }, { accessFlags := 8, nameIndex := 338, descriptorIndex := 339, attributes := #[] }, { accessFlags := 4120, nameIndex := 245, descriptorIndex := 246, attributes := #[] }])
  fields := #[{ name := "E", type := .double, accessFlags := 25, slot := 0, constantValue := 0 }, { name := "PI", type := .double, accessFlags := 25, slot := 1, constantValue := 0 }, { name := "TAU", type := .double, accessFlags := 25, slot := 2, constantValue := 0 }, { name := "DEGREES_TO_RADIANS", type := .double, accessFlags := 26, slot := 3, constantValue := 0 }, { name := "RADIANS_TO_DEGREES", type := .double, accessFlags := 26, slot := 4, constantValue := 0 }, { name := "negativeZeroFloatBits", type := .long, accessFlags := 26, slot := 5, constantValue := 0 }, { name := "negativeZeroDoubleBits", type := .long, accessFlags := 26, slot := 6, constantValue := 0 }, { name := "twoToTheDoubleScaleUp", type := .double, accessFlags := 8, slot := 7, constantValue := 0 }, { name := "twoToTheDoubleScaleDown", type := .double, accessFlags := 8, slot := 8, constantValue := 0 }, { name := "$assertionsDisabled", type := .boolean, accessFlags := 4120, slot := 9, constantValue := 0 }]
  methods := #[k13m0, k13m1]
  instanceTypes := #[]
  staticTypes := #[.double, .double, .double, .double, .double, .long, .long, .double, .double, .boolean]
  resolved := Array.replicate 460 none
  statics := none }

def pool14 : Array CpInfo := pool [(2, .class_ 4), (1, u "java/lang/CharSequence"), (42, .class_ 48), (0, u "java/lang/CharSequence$1CodePointIterator"), (10, .class_ 60), (0, u "java/lang/CharSequence$1CharIterator"), (5, .class_ 67), (0, u "java/lang/Object")] 63

/-- java/lang/CharSequence -/
def k14 : Class := { plain "java/lang/CharSequence" (some 0) with
  accessFlags := 1537
  interfaces := #[]
  cf := some (fileOf pool14 2 #[.nestMembers #[47, 59]] #[] 1537 66 #[] #[])
  fields := #[]
  methods := #[]
  instanceTypes := #[]
  staticTypes := #[]
  resolved := Array.replicate 131 none
  statics := none }

def pool15 : Array CpInfo := pool [(2, .class_ 4), (1, u "java/lang/Object"), (0, u "<init>"), (0, u "()V"), (3, .class_ 12), (1, u "java/lang/String"), (0, u "value"), (0, u "[B"), (2, u "coder"), (0, u "B"), (2, u "hash"), (0, u "I"), (2, u "hashIsZero"), (0, u "Z"), (13, u "COMPACT_STRINGS"), (534, .class_ 576), (0, u "java/lang/CharSequence"), (22, u "CASE_INSENSITIVE_ORDER"), (0, u "Ljava/util/Comparator;"), (500, u "serialPersistentFields"), (0, u "[Ljava/io/ObjectStreamField;"), (0, .class_ 1104), (0, u "java/lang/String$CaseInsensitiveComparator"), (1, .class_ 1107), (0, u "java/io/Serializable"), (0, .class_ 1109), (0, u "java/lang/Comparable"), (0, .class_ 1111), (0, u "java/lang/constant/Constable"), (0, .class_ 1113), (0, u "java/lang/constant/ConstantDesc"), (2, u "serialVersionUID"), (0, u "J"), (3, u "REPL"), (0, u "C"), (2, u "LATIN1"), (1, u "UTF16")] 323

def k15m0 : Method := { name := "<init>", desc := "()V", sig := { parameters := [], returnType := none }, accessFlags := 1, code := none }
/-- java/lang/String -/
def k15 : Class := { plain "java/lang/String" (some 0) with
  accessFlags := 49
  interfaces := #[7, 9, 14, 10, 11]
  cf := some (fileOf pool15 10 #[.nestMembers #[1103]] #[{ accessFlags := 1, nameIndex := 5, descriptorIndex := 6, attributes := #[] }] 49 2 #[1106, 1108, 575, 1110, 1112] #[{ accessFlags := 18, nameIndex := 13, descriptorIndex := 14, attributes := #[] }, { accessFlags := 18, nameIndex := 17, descriptorIndex := 18, attributes := #[] }, { accessFlags := 2, nameIndex := 21, descriptorIndex := 22, attributes := #[] }, { accessFlags := 2, nameIndex := 25, descriptorIndex := 26, attributes := #[] }, { accessFlags := 26, nameIndex := 1116, descriptorIndex := 1117, attributes := #[] }, { accessFlags := 24, nameIndex := 40, descriptorIndex := 26, attributes := #[] }, { accessFlags := 26, nameIndex := 1101, descriptorIndex := 1102, attributes := #[] }, { accessFlags := 26, nameIndex := 1121, descriptorIndex := 1122, attributes := #[] }, { accessFlags := 25, nameIndex := 599, descriptorIndex := 600, attributes := #[] }, { accessFlags := 24, nameIndex := 1125, descriptorIndex := 18, attributes := #[] }, { accessFlags := 24, nameIndex := 1127, descriptorIndex := 18, attributes := #[] }])
  fields := #[{ name := "value", type := (.array .byte), accessFlags := 18, slot := 0, constantValue := 0 }, { name := "coder", type := .byte, accessFlags := 18, slot := 1, constantValue := 0 }, { name := "hash", type := .int, accessFlags := 2, slot := 2, constantValue := 0 }, { name := "hashIsZero", type := .boolean, accessFlags := 2, slot := 3, constantValue := 0 }, { name := "serialVersionUID", type := .long, accessFlags := 26, slot := 0, constantValue := 0 }, { name := "COMPACT_STRINGS", type := .boolean, accessFlags := 24, slot := 1, constantValue := 0 }, { name := "serialPersistentFields", type := (.array (.object "java/io/ObjectStreamField")), accessFlags := 26, slot := 2, constantValue := 0 }, { name := "REPL", type := .char, accessFlags := 26, slot := 3, constantValue := 0 }, { name := "CASE_INSENSITIVE_ORDER", type := (.object "java/util/Comparator"), accessFlags := 25, slot := 4, constantValue := 0 }, { name := "LATIN1", type := .byte, accessFlags := 24, slot := 5, constantValue := 0 }, { name := "UTF16", type := .byte, accessFlags := 24, slot := 6, constantValue := 0 }]
  methods := #[k15m0]
  instanceTypes := #[(.array .byte), .byte, .int, .boolean]
  staticTypes := #[.long, .boolean, (.array (.object "java/io/ObjectStreamField")), .char, (.object "java/util/Comparator"), .byte, .byte]
  resolved := Array.replicate 1451 none
  statics := none }

def pool16 : Array CpInfo := pool [(2, .class_ 4), (1, u "java/lang/Object"), (0, u "<init>"), (0, u "()V"), (35, .class_ 44), (1, u "java/util/Objects"), (0, u "requireNonNull"), (48, u "(Ljava/lang/Object;Ljava/lang/String;)Ljava/lang/Object;")] 89

def k16m0 : Method := { name := "<init>", desc := "()V", sig := { parameters := [], returnType := none }, accessFlags := 2, code := none }
def k16c1 : Code := { maxStack := 3, maxLocals := 2, code := jdk_31_method_11_code, exceptionTable := #[], attributes := #[] }
def k16m1 : Method := { name := "requireNonNull", desc := "(Ljava/lang/Object;Ljava/lang/String;)Ljava/lang/Object;", sig := { parameters := [(.object "java/lang/Object"), (.object "java/lang/String")], returnType := some (.object "java/lang/Object") }, accessFlags := 9, code := some k16c1 }
/-- java/util/Objects -/
def k16 : Class := { plain "java/util/Objects" (some 0) with
  accessFlags := 49
  interfaces := #[]
  cf := some (fileOf pool16 42 #[] #[{ accessFlags := 2, nameIndex := 5, descriptorIndex := 6, attributes := #[] }, { accessFlags := 9, nameIndex := 45, descriptorIndex := 94, attributes := #[] }] 49 2 #[] #[])
  fields := #[]
  methods := #[k16m0, k16m1]
  instanceTypes := #[]
  staticTypes := #[]
  resolved := Array.replicate 184 none
  statics := none }

/-- the primitive byte -/
def k17 : Class := { plain "byte" none with kind := .primitive 'B', accessFlags := 0x411 }
/-- [B -/
def k18 : Class := { plain "[B" (some 0) with kind := .array 17 .byte, interfaces := #[3, 7], accessFlags := 1041 }

/-- the primitive double -/
def k19 : Class := { plain "double" none with kind := .primitive 'D', accessFlags := 0x411 }
/-- [D -/
def k20 : Class := { plain "[D" (some 0) with kind := .array 19 .double, interfaces := #[3, 7], accessFlags := 1041 }

/-- the primitive int -/
def k21 : Class := { plain "int" none with kind := .primitive 'I', accessFlags := 0x411 }
/-- [I -/
def k22 : Class := { plain "[I" (some 0) with kind := .array 21 .int, interfaces := #[3, 7], accessFlags := 1041 }

def heap : Heap := #[]
def classes : Array Class := #[k0, k1, k2, k3, k4, k5, k6, k7, k8, k9, k10, k11, k12, k13, k14, k15, k16, k17, k18, k19, k20, k21, k22]
def interned : List (Array UInt16 × Addr) := []
def slotsUsed : Nat := 0
def theMethod : MethodId := ⟨1, 3⟩
def args0 : Array Value := #[.int 5, .int 7, .int 9, .int 4]
def aboutOver (below : List Frame) : State where
  vm := { classes := classes, interned := interned.toArray }
  heap := heap
  slotsUsed := slotsUsed
  threads := #[{ frames := .invoking theMethod args0 :: below }]
def below0 : List Frame := [.native { method := ⟨0, 0⟩, args := #[] }]
def about1 : State := aboutOver below0
def p0 : Program := .bare "" "" ""
def e0 : Env := launch0.env 0 0 0
theorem w_frames : about1.frames = Frame.invoking theMethod args0 :: below0 := rfl
set_option maxRecDepth 65536 in
theorem w_args : argsFit about1.vm theMethod args0 = true := by decide +kernel
set_option maxRecDepth 65536 in
theorem w_heap : heapFits about1 = true := by decide +kernel
set_option maxRecDepth 65536 in
theorem w_runnable : about1.curStatus? = some .runnable := by decide +kernel
set_option maxRecDepth 65536 in
theorem w_alone : about1.alone = true := by decide +kernel
set_option maxRecDepth 65536 in
theorem w_named : about1.methodNamed? x = some theMethod := by decide +kernel
set_option maxRecDepth 65536 in
theorem w_hears : about1.hears theMethod below0 = true := by decide +kernel
set_option maxRecDepth 65536 in
theorem w_ripe : about1.ripe theMethod args0 below0 = true := by decide +kernel
theorem w_running : about1.status = .running := rfl
set_option maxRecDepth 65536 in
theorem w_room : about1.hasRoom e0.platform room_1 = true :=
  launch0.hasRoom_least _ room_1 (by decide +kernel) (by decide +kernel) (by decide +kernel) (by decide +kernel) (by decide +kernel) (by decide +kernel)
theorem allAtoms_all (ts : List Jvm.Cond) (a : Array Jvm.Value) (st : Jvm.State) : (allAtoms ts).before a st = ts.all (fun c => c.before a st) := by
  induction ts with
  | nil => rfl
  | cons c t ih =>
    show (Jvm.Cond.and c (allAtoms t)).before a st = _
    rw [Jvm.Cond.before_and, ih, List.all_cons]
def words1 : List Jvm.Cond := Jvm.Cond.code x code maxLocals ret :: tables_1
/-- a 'code' word, met by the world's own term for the bytes: nothing is compared byte by byte -/
theorem code_word {y : MethodName} {bytes : ByteArray} {mx : Nat} {rt : Option FieldType} {a : Array Value} {s : State} {m : MethodId} {meth : Method} {c : Code} (h1 : s.methodNamed? y = some m) (h2 : s.vm.method? m = some meth) (h3 : meth.code = some c) (h4 : c.code = bytes)
    (h5 : (c.maxLocals == mx && c.exceptionTable.isEmpty && decide (c.maxStack ≤ mostOperands) && decide (meth.sig.returnType = rt) && !meth.locks && decide (parseMethodDescriptor y.desc = some meth.sig)) = true) : (Jvm.Cond.code y bytes mx rt).before a s = true := by
  simp only [Bool.and_eq_true, beq_iff_eq, Bool.not_eq_true', decide_eq_true_eq] at h5
  obtain ⟨⟨⟨⟨⟨g1, g2⟩, g3⟩, g4⟩, g5⟩, g6⟩ := h5
  simp [Cond.before, Cond.holds, Cond.value, h1, h2, h3, h4, g1, g2, g3, g4, g5, g6]
def isCode : Jvm.Cond → Bool
  | .code _ _ _ _ => true
  | _ => false
theorem all_split {L : List Jvm.Cond} {P : Jvm.Cond → Bool} (h1 : L.all (fun c => isCode c || P c) = true) (h2 : ∀ c ∈ L.filter isCode, P c = true) : L.all P = true := by
  refine List.all_eq_true.mpr fun c hc => ?_
  have h := List.all_eq_true.mp h1 c hc
  rcases Bool.eq_false_or_eq_true (isCode c) with hi | hi
  · exact h2 c (List.mem_filter.mpr ⟨hc, hi⟩)
  · simpa [hi] using h
set_option maxRecDepth 65536 in
theorem w_c0 : (Jvm.Cond.code x code maxLocals ret).before args0 about1 = true := code_word (m := ⟨1, 3⟩) (meth := k1m3) (c := k1c3) (by decide +kernel) rfl rfl rfl (by decide +kernel)
set_option maxRecDepth 65536 in
theorem w_c1 : (Jvm.Cond.code ({ cls := "com/example/tidewise/tidewise/model/SpeedProfileFunctionUpperBoundPinLaw", name := "speedOf", desc := "(I)D" } : Jvm.MethodName) method_2_code (1 : Nat) (Option.some Jvm.ClassFile.FieldType.double)).before args0 about1 = true := code_word (m := ⟨1, 1⟩) (meth := k1m1) (c := k1c1) (by decide +kernel) rfl rfl rfl (by decide +kernel)
set_option maxRecDepth 65536 in
theorem w_c2 : (Jvm.Cond.code ({ cls := "com/example/tidewise/tidewise/model/SpeedProfile", name := "<init>", desc := "([D)V" } : Jvm.MethodName) prog_70_method_1_code (2 : Nat) (Option.none : Option Jvm.ClassFile.FieldType)).before args0 about1 = true := code_word (m := ⟨2, 0⟩) (meth := k2m0) (c := k2c0) (by decide +kernel) rfl rfl rfl (by decide +kernel)
set_option maxRecDepth 65536 in
theorem w_c3 : (Jvm.Cond.code ({ cls := "com/example/tidewise/tidewise/model/SpeedProfile", name := "<init>", desc := "([DII)V" } : Jvm.MethodName) prog_70_method_2_code (13 : Nat) (Option.none : Option Jvm.ClassFile.FieldType)).before args0 about1 = true := code_word (m := ⟨2, 1⟩) (meth := k2m1) (c := k2c1) (by decide +kernel) rfl rfl rfl (by decide +kernel)
set_option maxRecDepth 65536 in
theorem w_c4 : (Jvm.Cond.code ({ cls := "java/lang/Object", name := "<init>", desc := "()V" } : Jvm.MethodName) object_method_1_code (1 : Nat) (Option.none : Option Jvm.ClassFile.FieldType)).before args0 about1 = true := code_word (m := ⟨0, 0⟩) (meth := k0m0) (c := k0c0) (by decide +kernel) rfl rfl rfl (by decide +kernel)
set_option maxRecDepth 65536 in
theorem w_c5 : (Jvm.Cond.code ({ cls := "com/example/tidewise/tidewise/model/SpeedProfileFunction", name := "<init>", desc := "(DLcom/example/tidewise/tidewise/model/SpeedProfile;)V" } : Jvm.MethodName) prog_72_method_1_code (6 : Nat) (Option.none : Option Jvm.ClassFile.FieldType)).before args0 about1 = true := code_word (m := ⟨6, 0⟩) (meth := k6m0) (c := k6c0) (by decide +kernel) rfl rfl rfl (by decide +kernel)
set_option maxRecDepth 65536 in
theorem w_c6 : (Jvm.Cond.code ({ cls := "java/lang/Record", name := "<init>", desc := "()V" } : Jvm.MethodName) jdk_30_method_1_code (1 : Nat) (Option.none : Option Jvm.ClassFile.FieldType)).before args0 about1 = true := code_word (m := ⟨4, 0⟩) (meth := k4m0) (c := k4c0) (by decide +kernel) rfl rfl rfl (by decide +kernel)
set_option maxRecDepth 65536 in
theorem w_c7 : (Jvm.Cond.code ({ cls := "java/lang/Double", name := "isInfinite", desc := "(D)Z" } : Jvm.MethodName) jdk_117_method_7_code (2 : Nat) (Option.some Jvm.ClassFile.FieldType.boolean)).before args0 about1 = true := code_word (m := ⟨12, 0⟩) (meth := k12m0) (c := k12c0) (by decide +kernel) rfl rfl rfl (by decide +kernel)
set_option maxRecDepth 65536 in
theorem w_c8 : (Jvm.Cond.code ({ cls := "java/lang/Math", name := "abs", desc := "(D)D" } : Jvm.MethodName) jdk_29_method_64_code (2 : Nat) (Option.some Jvm.ClassFile.FieldType.double)).before args0 about1 = true := code_word (m := ⟨13, 1⟩) (meth := k13m1) (c := k13c1) (by decide +kernel) rfl rfl rfl (by decide +kernel)
set_option maxRecDepth 65536 in
theorem w_c9 : (Jvm.Cond.code ({ cls := "java/util/Objects", name := "requireNonNull", desc := "(Ljava/lang/Object;Ljava/lang/String;)Ljava/lang/Object;" } : Jvm.MethodName) jdk_31_method_11_code (2 : Nat) (Option.some (Jvm.ClassFile.FieldType.object "java/lang/Object"))).before args0 about1 = true := code_word (m := ⟨16, 1⟩) (meth := k16m1) (c := k16c1) (by decide +kernel) rfl rfl rfl (by decide +kernel)
set_option maxRecDepth 65536 in
theorem w_c10 : (Jvm.Cond.code ({ cls := "com/example/tidewise/tidewise/model/SpeedProfile", name := "lowestSpeed", desc := "()D" } : Jvm.MethodName) prog_70_method_6_code (1 : Nat) (Option.some Jvm.ClassFile.FieldType.double)).before args0 about1 = true := code_word (m := ⟨2, 2⟩) (meth := k2m2) (c := k2c2) (by decide +kernel) rfl rfl rfl (by decide +kernel)
set_option maxRecDepth 65536 in
theorem w_c11 : (Jvm.Cond.code ({ cls := "com/example/tidewise/tidewise/model/SpeedProfileFunctionUpperBoundPinLaw", name := "least", desc := "(DDD)D" } : Jvm.MethodName) method_3_code (8 : Nat) (Option.some Jvm.ClassFile.FieldType.double)).before args0 about1 = true := code_word (m := ⟨1, 2⟩) (meth := k1m2) (c := k1c2) (by decide +kernel) rfl rfl rfl (by decide +kernel)
set_option maxRecDepth 65536 in
theorem w_c12 : (Jvm.Cond.code ({ cls := "com/example/tidewise/tidewise/model/SpeedProfileFunction", name := "upperBound", desc := "()D" } : Jvm.MethodName) prog_72_method_5_code (1 : Nat) (Option.some Jvm.ClassFile.FieldType.double)).before args0 about1 = true := code_word (m := ⟨6, 1⟩) (meth := k6m1) (c := k6c1) (by decide +kernel) rfl rfl rfl (by decide +kernel)
def codes1 : List Jvm.Cond := [Jvm.Cond.code x code maxLocals ret, Jvm.Cond.code ({ cls := "com/example/tidewise/tidewise/model/SpeedProfileFunctionUpperBoundPinLaw", name := "speedOf", desc := "(I)D" } : Jvm.MethodName) method_2_code (1 : Nat) (Option.some Jvm.ClassFile.FieldType.double), Jvm.Cond.code ({ cls := "com/example/tidewise/tidewise/model/SpeedProfile", name := "<init>", desc := "([D)V" } : Jvm.MethodName) prog_70_method_1_code (2 : Nat) (Option.none : Option Jvm.ClassFile.FieldType), Jvm.Cond.code ({ cls := "com/example/tidewise/tidewise/model/SpeedProfile", name := "<init>", desc := "([DII)V" } : Jvm.MethodName) prog_70_method_2_code (13 : Nat) (Option.none : Option Jvm.ClassFile.FieldType), Jvm.Cond.code ({ cls := "java/lang/Object", name := "<init>", desc := "()V" } : Jvm.MethodName) object_method_1_code (1 : Nat) (Option.none : Option Jvm.ClassFile.FieldType), Jvm.Cond.code ({ cls := "com/example/tidewise/tidewise/model/SpeedProfileFunction", name := "<init>", desc := "(DLcom/example/tidewise/tidewise/model/SpeedProfile;)V" } : Jvm.MethodName) prog_72_method_1_code (6 : Nat) (Option.none : Option Jvm.ClassFile.FieldType), Jvm.Cond.code ({ cls := "java/lang/Record", name := "<init>", desc := "()V" } : Jvm.MethodName) jdk_30_method_1_code (1 : Nat) (Option.none : Option Jvm.ClassFile.FieldType), Jvm.Cond.code ({ cls := "java/lang/Double", name := "isInfinite", desc := "(D)Z" } : Jvm.MethodName) jdk_117_method_7_code (2 : Nat) (Option.some Jvm.ClassFile.FieldType.boolean), Jvm.Cond.code ({ cls := "java/lang/Math", name := "abs", desc := "(D)D" } : Jvm.MethodName) jdk_29_method_64_code (2 : Nat) (Option.some Jvm.ClassFile.FieldType.double), Jvm.Cond.code ({ cls := "java/util/Objects", name := "requireNonNull", desc := "(Ljava/lang/Object;Ljava/lang/String;)Ljava/lang/Object;" } : Jvm.MethodName) jdk_31_method_11_code (2 : Nat) (Option.some (Jvm.ClassFile.FieldType.object "java/lang/Object")), Jvm.Cond.code ({ cls := "com/example/tidewise/tidewise/model/SpeedProfile", name := "lowestSpeed", desc := "()D" } : Jvm.MethodName) prog_70_method_6_code (1 : Nat) (Option.some Jvm.ClassFile.FieldType.double), Jvm.Cond.code ({ cls := "com/example/tidewise/tidewise/model/SpeedProfileFunctionUpperBoundPinLaw", name := "least", desc := "(DDD)D" } : Jvm.MethodName) method_3_code (8 : Nat) (Option.some Jvm.ClassFile.FieldType.double), Jvm.Cond.code ({ cls := "com/example/tidewise/tidewise/model/SpeedProfileFunction", name := "upperBound", desc := "()D" } : Jvm.MethodName) prog_72_method_5_code (1 : Nat) (Option.some Jvm.ClassFile.FieldType.double)]
set_option maxRecDepth 65536 in
theorem codes_eq : words1.filter isCode = codes1 := rfl
theorem w_codes : ∀ c ∈ words1.filter isCode, c.before args0 about1 = true := by
  rw [codes_eq]
  intro c hc
  simp only [codes1, List.mem_cons, List.not_mem_nil, or_false] at hc
  rcases hc with rfl | rfl | rfl | rfl | rfl | rfl | rfl | rfl | rfl | rfl | rfl | rfl | rfl
  · exact w_c0
  · exact w_c1
  · exact w_c2
  · exact w_c3
  · exact w_c4
  · exact w_c5
  · exact w_c6
  · exact w_c7
  · exact w_c8
  · exact w_c9
  · exact w_c10
  · exact w_c11
  · exact w_c12
set_option maxRecDepth 65536 in
theorem w_t1 : (words1.take 24).all (fun c => isCode c || c.before args0 about1) = true := by decide +kernel
set_option maxRecDepth 65536 in
theorem w_t2 : ((words1.drop 24).take 24).all (fun c => isCode c || c.before args0 about1) = true := by decide +kernel
set_option maxRecDepth 65536 in
theorem w_t3 : (((words1.drop 24).drop 24).take 24).all (fun c => isCode c || c.before args0 about1) = true := by decide +kernel
set_option maxRecDepth 65536 in
theorem w_t4 : ((((words1.drop 24).drop 24).drop 24).take 24).all (fun c => isCode c || c.before args0 about1) = true := by decide +kernel
set_option maxRecDepth 65536 in
theorem w_t5 : ((((words1.drop 24).drop 24).drop 24).drop 24).all (fun c => isCode c || c.before args0 about1) = true := by decide +kernel
theorem w_tables : (allAtoms (Jvm.Cond.code x code maxLocals ret :: tables_1)).before args0 about1 = true := by
  rw [allAtoms_all]
  show words1.all (fun c => c.before args0 about1) = true
  refine all_split ?_ w_codes
  rw [← List.take_append_drop 24 words1, List.all_append, w_t1, ← List.take_append_drop 24 (words1.drop 24), List.all_append, w_t2, ← List.take_append_drop 24 ((words1.drop 24).drop 24), List.all_append, w_t3, ← List.take_append_drop 24 (((words1.drop 24).drop 24).drop 24), List.all_append, w_t4, w_t5]
  rfl
set_option maxRecDepth 65536 in
theorem w_case : (Jvm.Cond.and given_1 narrow_1).before args0 about1 = true := by decide +kernel
theorem w_applies : (headSpec (Jvm.Cond.code x code maxLocals ret :: tables_1) room_1).applies x e0.platform about1 = true :=
  (Spec.applies_iff w_frames).mpr ⟨w_running, w_runnable, w_alone, w_named, w_hears, w_ripe, w_room, w_tables⟩
theorem atStart : AtStart classFile x code maxLocals ret World_1 tables_1 room_1 Calls_1 rest_1 Pre_1 launch0 p0 e0 about1 theMethod args0 below0 :=
  ⟨lists_1, trivial, launch0.admits_env _ _ _, launch0.least_env, fairChoices_fair.cas, fairChoices_fair.clock, w_frames, w_args, w_heap, w_applies, trivial, trivial, w_case⟩
end start1
theorem witness_1 : WitnessClaimed_1 := ⟨start1.p0, start1.e0, start1.about1, start1.theMethod, start1.args0, start1.below0, start1.atStart⟩
end Jvm.Pilot.@@N@@
