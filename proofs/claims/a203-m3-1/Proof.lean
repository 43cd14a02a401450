import JvmDerived
import JvmDerived.Pilot.@@N@@Statement
import JvmDerived.Pilot.@@N@@Code
set_option linter.unusedVariables false
set_option linter.unusedSimpArgs false
@@BLOCK:HandJ.lean.txt@@
@@BLOCK:SymMore.lean.txt@@
namespace Jvm.Pilot.@@N@@
/-! the number layer: own_is (a double is exactly that rational), own_rd (a double is that rational, rounded) -/
section OwnNum
open Jvm.FP.Core Jvm.Free.Fl
theorem own_inv1 : (1 : Rat)⁻¹ = 1 := Rat.inv_eq_of_mul_eq_one (Rat.mul_one 1)
theorem own_p_pos (q : Int) : (0 : Rat) < (2 : Rat) ^ q := Rat.zpow_pos (by decide)
theorem own_p_ne (q : Int) : (2 : Rat) ^ q ≠ 0 := Rat.ne_of_gt (own_p_pos q)
theorem own_p_add (a b : Int) : (2 : Rat) ^ (a + b) = 2 ^ a * 2 ^ b := Rat.zpow_add (by decide) a b
theorem own_p_nat (n : Nat) : ((2 ^ n : Nat) : Rat) = (2 : Rat) ^ (n : Int) := by rw [Rat.natCast_pow]; rfl
theorem own_p_toNat {a : Int} (h : 0 ≤ a) : ((2 ^ a.toNat : Nat) : Rat) = (2 : Rat) ^ a := by rw [own_p_nat, Int.toNat_of_nonneg h]
theorem own_p_neg (a : Int) : (2 : Rat) ^ a * 2 ^ (-a) = 1 := by rw [← own_p_add, Int.add_right_neg]; rfl
def own_is (x : UInt64) (r : Rat) : Prop := ∃ s c q, val64 x = .fin s c q ∧ r = ((signed s c : Int) : Rat) * (2 : Rat) ^ q
def own_rd (x : UInt64) (r : Rat) : Prop := ∃ s A B e, 0 < B ∧ val64 x = roundRatio b64 s A B e ∧ r = ((signed s A : Int) : Rat) / ((B : Nat) : Rat) * (2 : Rat) ^ e
theorem own_signed_cast (s : Bool) (c k : Nat) : ((signed s (c * k) : Int) : Rat) = ((signed s c : Int) : Rat) * ((k : Nat) : Rat) := by
  rw [signed_mul, Rat.intCast_mul]; rfl
theorem own_zmag {s : Bool} {c : Nat} {q : Int} (h : FP.Core.fits b64 (.fin s c q)) : ((zmag b64 (.fin s c q) : Nat) : Rat) = (c : Rat) * 2 ^ q * 2 ^ (1074 : Int) := by
  have h1 : b64.qmin ≤ q := h.2.1
  rw [qmin_b64] at h1
  show ((c * 2 ^ (q - b64.qmin).toNat : Nat) : Rat) = _
  rw [Rat.natCast_mul, own_p_toNat (by rw [qmin_b64]; omega), qmin_b64, show q - (-1074) = q + 1074 by omega, own_p_add, Rat.mul_assoc]
theorem own_zval {x : UInt64} {r : Rat} (h : own_is x r) : ((zval b64 (val64 x) : Int) : Rat) = r * 2 ^ (1074 : Int) := by
  obtain ⟨s, c, q, h1, rfl⟩ := h
  have hf := val64_fits x
  rw [h1] at hf ⊢
  have h2 := own_zmag hf
  show ((signed s (zmag b64 (.fin s c q)) : Int) : Rat) = _
  cases s
  · show ((zmag b64 (.fin false c q) : Nat) : Rat) = ((c : Nat) : Rat) * _ * _
    rw [h2]
  · show ((-(zmag b64 (.fin true c q) : Int) : Int) : Rat) = ((-(c : Int) : Int) : Rat) * _ * _
    rw [Rat.intCast_neg, Rat.intCast_neg, Rat.neg_mul, Rat.neg_mul]
    exact congrArg _ h2
theorem own_is_nn {x : UInt64} {r : Rat} (h : own_is x r) : val64 x ≠ .nan := by
  obtain ⟨s, c, q, h1, -⟩ := h; rw [h1]; exact Datum.noConfusion
theorem own_is_fin {x : UInt64} {r : Rat} (h : own_is x r) : Fin64 x := by
  obtain ⟨s, c, q, h1, -⟩ := h; exact fin64_core.mpr ⟨s, c, q, h1⟩
theorem own_is_no {x : UInt64} {r : Rat} (h : own_is x r) : NoNaN64 x := (own_is_fin h).noNaN
theorem own_lt_of {a b : Rat} (h : a < b) (q : Int) : a * 2 ^ q < b * 2 ^ q := Rat.mul_lt_mul_of_pos_right h (own_p_pos q)
theorem own_is_lt {x y : UInt64} {a b : Rat} (hx : own_is x a) (hy : own_is y b) : FP.dcmp x y = some .lt ↔ a < b := by
  rw [show FP.dcmp x y = FP.Core.dcmp x y from rfl, dcmp_lt]
  constructor
  · rintro ⟨-, -, h⟩
    have h2 := Rat.intCast_lt_intCast.mpr h
    rw [own_zval hx, own_zval hy] at h2
    exact Rat.lt_of_mul_lt_mul_right h2 (Rat.le_of_lt (own_p_pos _))
  · intro h
    refine ⟨own_is_nn hx, own_is_nn hy, Rat.intCast_lt_intCast.mp ?_⟩
    rw [own_zval hx, own_zval hy]
    exact own_lt_of h _
theorem own_is_gt {x y : UInt64} {a b : Rat} (hx : own_is x a) (hy : own_is y b) : FP.dcmp x y = some .gt ↔ b < a := by
  rw [← own_is_lt hy hx, show FP.dcmp x y = FP.Core.dcmp x y from rfl, show FP.dcmp y x = FP.Core.dcmp y x from rfl, dcmp_gt, dcmp_lt]
  exact ⟨fun ⟨h1, h2, h⟩ => ⟨h2, h1, h⟩, fun ⟨h1, h2, h⟩ => ⟨h2, h1, h⟩⟩
theorem own_is_eq {x y : UInt64} {a b : Rat} (hx : own_is x a) (hy : own_is y b) : FP.dcmp x y = some .eq ↔ a = b := by
  rw [show FP.dcmp x y = FP.Core.dcmp x y from rfl, dcmp_eq]
  constructor
  · rintro ⟨-, -, h⟩
    have h2 : ((zval b64 (val64 x) : Int) : Rat) = ((zval b64 (val64 y) : Int) : Rat) := by rw [h]
    rw [own_zval hx, own_zval hy] at h2
    have h3 := own_p_ne 1074
    calc a = a * 2 ^ (1074 : Int) / 2 ^ (1074 : Int) := (Rat.mul_div_cancel h3).symm
      _ = b * 2 ^ (1074 : Int) / 2 ^ (1074 : Int) := by rw [h2]
      _ = b := Rat.mul_div_cancel h3
  · rintro rfl
    exact ⟨own_is_nn hx, own_is_nn hy, Rat.intCast_inj.mp (by rw [own_zval hx, own_zval hy])⟩
theorem own_rd_of {x : UInt64} {r : Rat} (h : own_is x r) : own_rd x r := by
  obtain ⟨s, c, q, h1, rfl⟩ := h
  have hf := val64_fits x
  rw [h1] at hf
  refine ⟨s, c, 1, q, by decide, h1.trans (round_of_fits good_b64 hf).symm, ?_⟩
  rw [show (((1 : Nat) : Rat)) = 1 from rfl, Rat.div_def, own_inv1, Rat.mul_one]
theorem own_rd_nn {x : UInt64} {r : Rat} (h : own_rd x r) : val64 x ≠ .nan := by
  obtain ⟨s, A, B, e, -, h1, -⟩ := h; rw [h1]; exact roundRatio_ne_nan _ _ _ _ _
theorem own_rd_no {x : UInt64} {r : Rat} (h : own_rd x r) : NoNaN64 x := val64_no.mpr (own_rd_nn h)
/-- the magnitude of a ratio -/
theorem own_signed_zero {s : Bool} {A : Nat} : ((signed s A : Int) : Rat) = 0 ↔ A = 0 := by
  rw [Rat.intCast_eq_zero_iff, signed_eq_zero]
theorem own_ratio_zero {s : Bool} {A B : Nat} {e : Int} (hB : 0 < B) : ((signed s A : Int) : Rat) / ((B : Nat) : Rat) * (2 : Rat) ^ e = 0 ↔ A = 0 := by
  have hb : ((B : Nat) : Rat) ≠ 0 := by rw [Ne, Rat.natCast_eq_zero_iff]; omega
  constructor
  · intro h
    rcases Rat.mul_eq_zero.mp h with h | h
    · rw [Rat.div_def] at h
      rcases Rat.mul_eq_zero.mp h with h | h
      · exact own_signed_zero.mp h
      · exact absurd (by rw [← Rat.inv_inv ((B : Nat) : Rat), h, Rat.inv_zero]) hb
    · exact absurd h (own_p_ne e)
  · rintro rfl
    rw [own_signed_zero.mpr rfl, Rat.div_def, Rat.zero_mul, Rat.zero_mul]
end OwnNum
section OwnNum2
open Jvm.FP.Core Jvm.Free.Fl
theorem own_nat_pos {B : Nat} (h : 0 < B) : (0 : Rat) < ((B : Nat) : Rat) := Rat.natCast_pos.mpr h
theorem own_nat_ne {B : Nat} (h : 0 < B) : ((B : Nat) : Rat) ≠ 0 := Rat.ne_of_gt (own_nat_pos h)
theorem own_cross {a b a' b' P P' : Rat} (hb : b ≠ 0) (hb' : b' ≠ 0) (h : a / b * P = a' / b' * P') : a * b' * P = a' * b * P' := by
  have h1 : a = a / b * b := (Rat.div_mul_cancel hb).symm
  have h2 : a' = a' / b' * b' := (Rat.div_mul_cancel hb').symm
  generalize a / b = u at *
  generalize a' / b' = w at *
  subst h1 h2
  grind
theorem own_cancel {a b P : Rat} (hP : P ≠ 0) (h : a * P = b * P) : a = b := by
  rw [← Rat.mul_div_cancel (a := a) hP, h, Rat.mul_div_cancel hP]
theorem own_sig_eq {s s' : Bool} {X Y : Nat} (hX : 0 < X) (h : signed s X = signed s' Y) : s = s' ∧ X = Y := by
  cases s <;> cases s' <;> simp only [signed, Bool.false_eq_true, if_true, if_false] at h <;> first | exact ⟨rfl, by omega⟩ | omega
theorem own_ratio_le {s s' : Bool} {A B A' B' : Nat} {e e' : Int} (hB : 0 < B) (hB' : 0 < B') (hA : 0 < A) (hle : e' ≤ e)
    (h : ((signed s A : Int) : Rat) / ((B : Nat) : Rat) * (2 : Rat) ^ e = ((signed s' A' : Int) : Rat) / ((B' : Nat) : Rat) * (2 : Rat) ^ e') :
    s = s' ∧ A * B' * 2 ^ (e - e').toNat = A' * B := by
  have h1 := own_cross (own_nat_ne hB) (own_nat_ne hB') h
  have h2 : (2 : Rat) ^ e = 2 ^ (e - e') * 2 ^ e' := by rw [← own_p_add]; congr 1; omega
  rw [h2, ← Rat.mul_assoc] at h1
  have h3 := own_cancel (own_p_ne e') h1
  rw [← own_p_toNat (by omega), ← own_signed_cast, ← own_signed_cast, ← own_signed_cast, Rat.intCast_inj] at h3
  exact own_sig_eq (Nat.mul_pos (Nat.mul_pos hA hB') (Nat.two_pow_pos _)) h3
theorem own_ratio_eq {s s' : Bool} {A B A' B' : Nat} {e e' : Int} (hB : 0 < B) (hB' : 0 < B') (hA : 0 < A)
    (h : ((signed s A : Int) : Rat) / ((B : Nat) : Rat) * (2 : Rat) ^ e = ((signed s' A' : Int) : Rat) / ((B' : Nat) : Rat) * (2 : Rat) ^ e') :
    s = s' ∧ roundRatio b64 s A B e = roundRatio b64 s' A' B' e' := by
  have hA' : 0 < A' := by
    rcases Nat.eq_zero_or_pos A' with h0 | h0
    · rw [(own_ratio_zero hB').mpr h0, own_ratio_zero hB] at h; omega
    · exact h0
  rcases Int.le_total e' e with hle | hle
  · obtain ⟨rfl, h1⟩ := own_ratio_le hB hB' hA hle h
    refine ⟨rfl, roundRatio_congr hB hB' ?_⟩
    rw [h1, show (e' - e).toNat = 0 by omega]; simp
  · obtain ⟨rfl, h1⟩ := own_ratio_le hB' hB hA' hle h.symm
    refine ⟨rfl, (roundRatio_congr hB' hB ?_).symm⟩
    rw [h1, show (e - e').toNat = 0 by omega]; simp
theorem own_rd_uniq {x y : UInt64} {r : Rat} (hx : own_rd x r) (hy : own_rd y r) : FP.dcmp x y = some .eq := by
  obtain ⟨s, A, B, e, hB, hv, hr⟩ := hx
  obtain ⟨s', A', B', e', hB', hv', hr'⟩ := hy
  rcases Nat.eq_zero_or_pos A with hA | hA
  · have hA' : A' = 0 := by rw [← own_ratio_zero hB' (s := s') (e := e'), ← hr', hr]; exact (own_ratio_zero hB).mpr hA
    subst hA hA'
    rw [show FP.dcmp x y = FP.Core.dcmp x y from rfl, dcmp_eq, hv, hv']
    refine ⟨roundRatio_ne_nan _ _ _ _ _, roundRatio_ne_nan _ _ _ _ _, ?_⟩
    show zval b64 (.fin s 0 b64.qmin) = zval b64 (.fin s' 0 b64.qmin)
    cases s <;> cases s' <;> decide
  · obtain ⟨-, h1⟩ := own_ratio_eq hB hB' hA (hr.symm.trans hr')
    have h2 : val64 x ≠ .nan := by rw [hv]; exact roundRatio_ne_nan _ _ _ _ _
    have h3 : x = y := val64_inj h2 (by rw [hv, hv', h1])
    subst h3
    exact dcmp_refl ((notNaN_iff x).mpr h2)
/-- exact where the rational has 53 digits -/
theorem own_rd_exact {x : UInt64} {r : Rat} (h : own_rd x r) {m : Int} {k : Int} (hr : r = (m : Rat) * (2 : Rat) ^ k) (hm : m.natAbs < 2 ^ 53) (hk : -1074 ≤ k) (hk2 : k ≤ 971) : own_is x r := by
  obtain ⟨s, A, B, e, hB, hv, hr0⟩ := h
  have hcan : ∀ (t : Bool), ((signed t m.natAbs : Int) : Rat) * (2 : Rat) ^ k = r → roundRatio b64 s A B e = round b64 (.fin t m.natAbs k) → own_is x r := by
    intro t ht hq
    obtain ⟨c', q', h1, h2⟩ := round_exact good_b64 t (c := m.natAbs) (q := k) hm (by rw [qmin_b64]; exact hk) (by exact hk2)
    have hx : val64 x = .fin t c' q' := by rw [hv, hq, h1]
    refine ⟨t, c', q', hx, ?_⟩
    have hf := val64_fits x
    rw [hx] at hf
    have z1 := own_zmag hf
    have z2 : ((inUnits c' q' b64.qmin : Nat) : Rat) = ((m.natAbs : Nat) : Rat) * 2 ^ k * 2 ^ (1074 : Int) := by
      rw [h2]; unfold inUnits
      rw [Rat.natCast_mul, own_p_toNat (by rw [qmin_b64]; omega), qmin_b64, show k - (-1074) = k + 1074 by omega, own_p_add, Rat.mul_assoc]
    have z3 : (c' : Rat) * 2 ^ q' = ((m.natAbs : Nat) : Rat) * 2 ^ k := own_cancel (own_p_ne 1074) (z1.symm.trans z2)
    rw [← ht]
    cases t
    · exact z3.symm
    · show ((-(m.natAbs : Int) : Int) : Rat) * _ = ((-(c' : Int) : Int) : Rat) * _
      rw [Rat.intCast_neg, Rat.intCast_neg, Rat.neg_mul, Rat.neg_mul]
      exact congrArg _ z3.symm
  rcases Nat.eq_zero_or_pos A with hA | hA
  · have h0 : r = 0 := by rw [hr0]; exact (own_ratio_zero hB).mpr hA
    have hm0 : m = 0 := by
      rw [h0] at hr
      rcases Rat.mul_eq_zero.mp hr.symm with h1 | h1
      · exact Rat.intCast_eq_zero_iff.mp h1
      · exact absurd h1 (own_p_ne k)
    subst hm0 hA
    refine hcan s ?_ ?_
    · rw [h0]; cases s <;> simp [signed]
    · show Datum.fin s 0 b64.qmin = Datum.fin s 0 b64.qmin
      rfl
  · have h1 : ((signed s A : Int) : Rat) / ((B : Nat) : Rat) * (2 : Rat) ^ e = ((signed (decide (m < 0)) m.natAbs : Int) : Rat) / (((1 : Nat) : Nat) : Rat) * (2 : Rat) ^ k := by
      rw [← hr0, hr, show (((1 : Nat) : Rat)) = 1 from rfl, Rat.div_def, own_inv1, Rat.mul_one]
      congr 2
      unfold signed
      by_cases hmn : m < 0 <;> simp [hmn] <;> omega
    obtain ⟨-, h2⟩ := own_ratio_eq hB (by decide) hA h1
    refine hcan (decide (m < 0)) ?_ h2
    rw [hr]
    congr 2
    unfold signed
    by_cases hmn : m < 0 <;> simp [hmn] <;> omega
theorem own_add {x y : UInt64} {a b : Rat} (hx : own_is x a) (hy : own_is y b) : own_rd (FP.dadd x y) (a + b) := by
  obtain ⟨s, c, q, h1, rfl⟩ := hx
  obtain ⟨t, d, r, h2, rfl⟩ := hy
  refine ⟨_, _, 1, min q r, by decide, (val64_dadd x y).trans (by rw [h1, h2]; rfl), ?_⟩
  rw [signed_sumSign, show (((1 : Nat) : Rat)) = 1 from rfl, Rat.div_def, own_inv1, Rat.mul_one]
  unfold sumUnits inUnits
  rw [Rat.intCast_add, own_signed_cast, own_signed_cast, own_p_toNat (by omega), own_p_toNat (by omega), Rat.add_mul, Rat.mul_assoc, Rat.mul_assoc, ← own_p_add, ← own_p_add, show q - min q r + min q r = q by omega, show r - min q r + min q r = r by omega]
theorem own_neg {x : UInt64} {a : Rat} (hx : own_is x a) : own_is (FP.dneg x) (-a) := by
  obtain ⟨s, c, q, h1, rfl⟩ := hx
  refine ⟨!s, c, q, (FP.val64_dneg x).trans (by rw [h1]; rfl), ?_⟩
  rw [signed_not, Rat.intCast_neg, Rat.neg_mul]
theorem own_sub {x y : UInt64} {a b : Rat} (hx : own_is x a) (hy : own_is y b) : own_rd (FP.dsub x y) (a - b) := by
  have h : val64 (FP.dsub x y) = val64 (FP.dadd x (FP.dneg y)) := by
    rw [show val64 (FP.dsub x y) = _ from val64_dsub x y, show val64 (FP.dadd x (FP.dneg y)) = _ from val64_dadd x (FP.dneg y), FP.val64_dneg]
  obtain ⟨s, A, B, e, hB, hv, hr⟩ := own_add hx (own_neg hy)
  exact ⟨s, A, B, e, hB, h.trans hv, by rw [Rat.sub_eq_add_neg]; exact hr⟩
theorem own_mul {x y : UInt64} {a b : Rat} (hx : own_is x a) (hy : own_is y b) : own_rd (FP.dmul x y) (a * b) := by
  obtain ⟨s, c, q, h1, rfl⟩ := hx
  obtain ⟨t, d, r, h2, rfl⟩ := hy
  refine ⟨s != t, c * d, 1, q + r, by decide, (val64_dmul x y).trans (by rw [h1, h2]; rfl), ?_⟩
  rw [signed_xor, Rat.intCast_mul, own_p_add, show (((1 : Nat) : Rat)) = 1 from rfl, Rat.div_def, own_inv1, Rat.mul_one]
  grind
theorem own_div {x y : UInt64} {a b : Rat} (hx : own_is x a) (hy : own_is y b) (hb : b ≠ 0) : own_rd (FP.ddiv x y) (a / b) := by
  obtain ⟨s, c, q, h1, rfl⟩ := hx
  obtain ⟨t, d, r, h2, rfl⟩ := hy
  have hd : d ≠ 0 := by
    rintro rfl
    exact hb (by rw [own_signed_zero.mpr rfl, Rat.zero_mul])
  refine ⟨s != t, c, d, q - r, by omega, (val64_ddiv x y).trans (by rw [h1, h2]; show (if d = 0 then _ else _) = _; rw [if_neg hd]), ?_⟩
  have hd' : ((d : Nat) : Rat) ≠ 0 := own_nat_ne (by omega)
  have e1 : (2 : Rat) ^ q = 2 ^ (q - r) * 2 ^ r := by rw [← own_p_add]; congr 1; omega
  have e2 := own_p_ne r
  rw [e1]
  generalize (2 : Rat) ^ (q - r) = P
  generalize (2 : Rat) ^ r = W at *
  cases s <;> cases t <;> simp only [signed, Bool.false_eq_true, if_true, if_false, bne_self_eq_false, Rat.intCast_neg, Rat.intCast_natCast, Bool.bne_true, Bool.bne_false, Bool.not_false, Bool.not_true] <;> grind
theorem own_rdL (a : Int64) : own_rd (FP.l2d a) ((a.toInt : Int) : Rat) := by
  refine ⟨decide (a.toInt < 0), a.toInt.natAbs, 1, 0, by decide, val64_l2d a, ?_⟩
  rw [show (((1 : Nat) : Rat)) = 1 from rfl, Rat.div_def, own_inv1, Rat.mul_one, Rat.zpow_zero, Rat.mul_one]
  congr 1
  unfold signed
  by_cases hmn : a.toInt < 0 <;> simp [hmn] <;> omega
theorem own_isI (a : Int32) : own_is (FP.i2d a) ((a.toInt : Int) : Rat) := by
  have h : FP.i2d a = FP.l2d a.toInt64 := i2d_l2d a
  have h2 := own_rdL a.toInt64
  rw [Int32.toInt_toInt64] at h2
  rw [h]
  refine own_rd_exact h2 (m := a.toInt) (k := 0) (by rw [Rat.zpow_zero, Rat.mul_one]) ?_ (by decide) (by decide)
  have := a.le_toInt; have := a.toInt_lt; omega
end OwnNum2
section OwnNum3
open Jvm.FP.Core Jvm.Free.Fl
theorem own_units {A B : Nat} {e : Int} {c : Nat} {q : Int} {s : Bool} (hf : FP.Core.fits b64 (.fin s c q)) (e0 : Int) (h0 : e0 ≤ b64.qmin) (h0e : e0 ≤ e) :
    (((inUnits A e e0 : Nat) : Rat) = (A : Rat) * 2 ^ e * 2 ^ (-e0)) ∧ (((zmag b64 (.fin s c q) * 2 ^ (b64.qmin - e0).toNat * B : Nat) : Rat) = ((c : Rat) * 2 ^ q) * (B : Rat) * 2 ^ (-e0)) := by
  constructor
  · unfold inUnits
    rw [Rat.natCast_mul, own_p_toNat (by omega), show e - e0 = e + -e0 by omega, own_p_add, Rat.mul_assoc]
  · rw [Rat.natCast_mul, Rat.natCast_mul, own_zmag hf, own_p_toNat (by omega), show b64.qmin - e0 = -1074 + -e0 by rw [qmin_b64]; omega, own_p_add]
    have := own_p_neg 1074
    grind
theorem own_div_le {a b w : Rat} (hb : 0 < b) : a / b ≤ w ↔ a ≤ w * b := by
  have h1 : a = a / b * b := (Rat.div_mul_cancel (Rat.ne_of_gt hb)).symm
  constructor
  · intro h; rw [h1]; exact Rat.mul_le_mul_of_nonneg_right h (Rat.le_of_lt hb)
  · intro h; rw [h1] at h; exact Rat.le_of_mul_le_mul_right h hb
theorem own_le_div {a b w : Rat} (hb : 0 < b) : w ≤ a / b ↔ w * b ≤ a := by
  have h1 : a = a / b * b := (Rat.div_mul_cancel (Rat.ne_of_gt hb)).symm
  constructor
  · intro h; rw [h1]; exact Rat.mul_le_mul_of_nonneg_right h (Rat.le_of_lt hb)
  · intro h; rw [h1] at h; exact Rat.le_of_mul_le_mul_right h hb
theorem own_mag_le {A B : Nat} {e : Int} {s t : Bool} {c : Nat} {q : Int} (hB : 0 < B) (hf : FP.Core.fits b64 (.fin t c q)) (h : (A : Rat) / (B : Rat) * 2 ^ e ≤ (c : Rat) * 2 ^ q) : zmag b64 (roundRatio b64 s A B e) ≤ zmag b64 (.fin t c q) := by
  obtain ⟨u1, u2⟩ := own_units (A := A) (B := B) (e := e) hf (min e b64.qmin) (by omega) (by omega)
  refine zmag_roundRatio_le good_b64 hB hf Datum.noConfusion (e0 := min e b64.qmin) (by omega) (by omega) (Rat.natCast_le_natCast.mp ?_)
  rw [u1, u2]
  refine Rat.mul_le_mul_of_nonneg_right ?_ (Rat.le_of_lt (own_p_pos _))
  have hb := own_nat_pos hB
  have h2 := Rat.mul_le_mul_of_nonneg_right h (Rat.le_of_lt hb)
  have h3 : (A : Rat) / (B : Rat) * 2 ^ e * (B : Rat) = (A : Rat) * 2 ^ e := by
    rw [Rat.mul_assoc, Rat.mul_comm ((2 : Rat) ^ e), ← Rat.mul_assoc, Rat.div_mul_cancel (own_nat_ne hB)]
  rw [h3] at h2
  exact h2
theorem own_mag_ge {A B : Nat} {e : Int} {s t : Bool} {c : Nat} {q : Int} (hB : 0 < B) (hf : FP.Core.fits b64 (.fin t c q)) (h : (c : Rat) * 2 ^ q ≤ (A : Rat) / (B : Rat) * 2 ^ e) : zmag b64 (.fin t c q) ≤ zmag b64 (roundRatio b64 s A B e) := by
  obtain ⟨u1, u2⟩ := own_units (A := A) (B := B) (e := e) hf (min e b64.qmin) (by omega) (by omega)
  refine zmag_roundRatio_ge good_b64 hB hf (e0 := min e b64.qmin) (by omega) (by omega) (Rat.natCast_le_natCast.mp ?_)
  rw [u1, u2]
  refine Rat.mul_le_mul_of_nonneg_right ?_ (Rat.le_of_lt (own_p_pos _))
  have hb := own_nat_pos hB
  have h2 := Rat.mul_le_mul_of_nonneg_right h (Rat.le_of_lt hb)
  have h3 : (A : Rat) / (B : Rat) * 2 ^ e * (B : Rat) = (A : Rat) * 2 ^ e := by
    rw [Rat.mul_assoc, Rat.mul_comm ((2 : Rat) ^ e), ← Rat.mul_assoc, Rat.div_mul_cancel (own_nat_ne hB)]
  rw [h3] at h2
  exact h2
theorem own_signed_ratio (s : Bool) (A B : Nat) (e : Int) : ((signed s A : Int) : Rat) / ((B : Nat) : Rat) * (2 : Rat) ^ e = if s then -((A : Rat) / (B : Rat) * 2 ^ e) else (A : Rat) / (B : Rat) * 2 ^ e := by
  cases s
  · rfl
  · show ((-(A : Int) : Int) : Rat) / _ * _ = _
    rw [Rat.intCast_neg, Rat.div_def, Rat.neg_mul, Rat.neg_mul]; rfl
theorem own_signed_pow (s : Bool) (c : Nat) (q : Int) : ((signed s c : Int) : Rat) * (2 : Rat) ^ q = if s then -((c : Rat) * 2 ^ q) else (c : Rat) * 2 ^ q := by
  cases s
  · rfl
  · show ((-(c : Int) : Int) : Rat) * _ = _
    rw [Rat.intCast_neg, Rat.neg_mul]; rfl
theorem own_ratio_nonneg (A B : Nat) (e : Int) : 0 ≤ (A : Rat) / (B : Rat) * 2 ^ e := by
  refine Rat.mul_nonneg ?_ (Rat.le_of_lt (own_p_pos e))
  rcases Nat.eq_zero_or_pos B with rfl | hB
  · rw [Rat.div_def]; exact Rat.mul_nonneg Rat.natCast_nonneg (by rw [show ((0 : Nat) : Rat) = 0 from rfl, Rat.inv_zero]; exact Rat.le_refl)
  · rw [own_le_div (own_nat_pos hB), Rat.zero_mul]; exact Rat.natCast_nonneg
theorem own_rd_le {x V : UInt64} {r y : Rat} (h : own_rd x r) (hV : own_is V y) (hle : r ≤ y) : zval b64 (val64 x) ≤ zval b64 (val64 V) := by
  obtain ⟨s, A, B, e, hB, hv, hr⟩ := h
  obtain ⟨t, c, q, hVv, hy⟩ := hV
  have hf := val64_fits V
  rw [hVv] at hf
  rw [hv, hVv]
  have m1 := own_mag_le (A := A) (e := e) (s := s) hB hf
  have m2 := own_mag_ge (A := A) (e := e) (s := s) hB hf
  unfold zval
  rw [sgn_roundRatio]
  show _ ≤ signed t (zmag b64 (.fin t c q))
  rw [own_signed_ratio] at hr
  rw [own_signed_pow] at hy
  have p1 := own_ratio_nonneg A B e
  have p2 : 0 ≤ (c : Rat) * 2 ^ q := Rat.mul_nonneg Rat.natCast_nonneg (Rat.le_of_lt (own_p_pos q))
  have hz : (c : Rat) * 2 ^ q ≤ 0 → zmag b64 (.fin t c q) = 0 := by
    intro h0
    have h1 : (c : Rat) * 2 ^ q = 0 := Rat.le_antisymm h0 p2
    have h2 := own_zmag hf
    rw [h1, Rat.zero_mul] at h2
    exact Rat.natCast_eq_zero_iff.mp h2
  generalize (A : Rat) / (B : Rat) * 2 ^ e = ra at *
  generalize (c : Rat) * 2 ^ q = rc at *
  generalize zmag b64 (roundRatio b64 s A B e) = za at *
  generalize zmag b64 (.fin t c q) = zc at *
  cases s <;> cases t <;> simp only [signed, Bool.false_eq_true, if_true, if_false] at hr hy ⊢
  · have := m1 (by grind); omega
  · have := m1 (by grind); have := hz (by grind); omega
  · omega
  · have := m2 (by grind); omega
theorem own_rd_neg {x : UInt64} {r : Rat} (h : own_rd x r) : own_rd (FP.dneg x) (-r) := by
  obtain ⟨s, A, B, e, hB, hv, hr⟩ := h
  refine ⟨!s, A, B, e, hB, (FP.val64_dneg x).trans (by rw [hv, negate_roundRatio]), ?_⟩
  rw [hr, signed_not, Rat.intCast_neg, Rat.div_def, Rat.div_def, Rat.neg_mul, Rat.neg_mul]
theorem own_zval_neg (x : UInt64) : zval b64 (val64 (FP.dneg x)) = -zval b64 (val64 x) := by
  rw [show val64 (FP.dneg x) = negate (val64 x) from FP.val64_dneg x, zval_negate]
theorem own_rd_ge {x V : UInt64} {r y : Rat} (h : own_rd x r) (hV : own_is V y) (hle : y ≤ r) : zval b64 (val64 V) ≤ zval b64 (val64 x) := by
  have h1 := own_rd_le (own_rd_neg h) (own_neg hV) (Rat.neg_le_neg hle)
  rw [own_zval_neg, own_zval_neg] at h1
  omega
theorem own_big : own_is 9110782046170513408 ((2 : Rat) ^ (1000 : Int)) := ⟨false, 2 ^ 52, 948, by decide +kernel, by
  show _ = (((2 ^ 52 : Nat) : Rat)) * _
  rw [own_p_nat, ← own_p_add]; rfl⟩
theorem own_rd_fin {x : UInt64} {r : Rat} (h : own_rd x r) (h1 : r ≤ (2 : Rat) ^ (1000 : Int)) (h2 : -((2 : Rat) ^ (1000 : Int)) ≤ r) : ∃ v, own_is x v := by
  have l1 := own_rd_le h own_big h1
  have l2 := own_rd_ge h (own_neg own_big) h2
  rw [own_zval_neg] at l2
  obtain ⟨s, A, B, e, hB, hv, hr⟩ := h
  rcases roundRatio_cases b64 s A B e with ⟨c, q, hc⟩ | hc
  · exact ⟨_, s, c, q, hv.trans hc, rfl⟩
  · rw [hv, hc] at l1 l2
    cases s
    · exact absurd l1 (by decide +kernel)
    · exact absurd l2 (by decide +kernel)
theorem own_rd_le' {x V : UInt64} {r v y : Rat} (h : own_rd x r) (hx : own_is x v) (hV : own_is V y) (hle : r ≤ y) : v ≤ y := by
  have h1 := own_rd_le h hV hle
  refine Rat.not_lt.mp fun h2 => ?_
  have h3 := (dcmp_lt.mp ((own_is_lt hV hx).mpr h2)).2.2
  omega
theorem own_rd_ge' {x V : UInt64} {r v y : Rat} (h : own_rd x r) (hx : own_is x v) (hV : own_is V y) (hle : y ≤ r) : y ≤ v := by
  have h1 := own_rd_ge h hV hle
  refine Rat.not_lt.mp fun h2 => ?_
  have h3 := (dcmp_lt.mp ((own_is_lt hx hV).mpr h2)).2.2
  omega
/-- every rational of 53 digits is a double -/
theorem own_rep {m k : Int} (hm : m.natAbs < 2 ^ 53) (hk : -1074 ≤ k) (hk2 : k ≤ 971) : ∃ V, own_is V ((m : Rat) * (2 : Rat) ^ k) := by
  have hf : FP.Core.fits b64 (roundRatio b64 (decide (m < 0)) m.natAbs 1 k) := roundRatio_fits good_b64 _ _ (by decide) _
  refine ⟨of64 (roundRatio b64 (decide (m < 0)) m.natAbs 1 k), own_rd_exact ⟨decide (m < 0), m.natAbs, 1, k, by decide, val64_of64 hf, ?_⟩ rfl hm hk hk2⟩
  rw [show (((1 : Nat) : Rat)) = 1 from rfl, Rat.div_def, own_inv1, Rat.mul_one]
  congr 2
  unfold signed
  by_cases hmn : m < 0 <;> simp [hmn] <;> omega
end OwnNum3
section OwnNum4
open Jvm.FP.Core Jvm.Free.Fl
theorem own_two200 : (1606938044258990275541962092341162602522202993782792835301376 : Rat) ≤ (2 : Rat) ^ (1000 : Int) := by decide +kernel
theorem own_rd_finN {x : UInt64} {r : Rat} (h : own_rd x r) (h1 : r ≤ 1606938044258990275541962092341162602522202993782792835301376) (h2 : -1606938044258990275541962092341162602522202993782792835301376 ≤ r) : ∃ v, own_is x v :=
  own_rd_fin h (Rat.le_trans h1 own_two200) (Rat.le_trans (Rat.neg_le_neg own_two200) h2)
theorem own_zero : own_is 0 0 := ⟨false, 0, -1074, by decide +kernel, by decide +kernel⟩
theorem own_one : own_is 4607182418800017408 1 := ⟨false, 2 ^ 52, -52, by decide +kernel, by decide +kernel⟩
theorem own_rep' {m k : Int} {r : Rat} (hr : r = (m : Rat) * (2 : Rat) ^ k) (hm : m.natAbs < 2 ^ 53) (hk : -1074 ≤ k) (hk2 : k ≤ 971) : ∃ V, own_is V r := by rw [hr]; exact own_rep hm hk hk2
theorem own_cmpv {x y : UInt64} {a b : Rat} (hx : own_is x a) (hy : own_is y b) (o : ClassFile.CmpOp) : Op.cmpValue (FP.dcmp x y) o = if a < b then -1 else if a = b then 0 else 1 := by
  by_cases h1 : a < b
  · rw [(own_is_lt hx hy).mpr h1, if_pos h1]; rfl
  · by_cases h2 : a = b
    · rw [(own_is_eq hx hy).mpr h2, if_neg h1, if_pos h2]; rfl
    · have h3 : b < a := by grind
      rw [(own_is_gt hx hy).mpr h3, if_neg h1, if_neg h2]; rfl
theorem own_c_lt {x y : UInt64} {a b : Rat} (hx : own_is x a) (hy : own_is y b) (o : ClassFile.CmpOp) : Op.ifCond.holds .lt (Op.cmpValue (FP.dcmp x y) o) = decide (a < b) := by
  rw [own_cmpv hx hy]; by_cases h1 : a < b <;> by_cases h2 : a = b <;> simp [h1, h2, Op.ifCond.holds]
theorem own_c_ge {x y : UInt64} {a b : Rat} (hx : own_is x a) (hy : own_is y b) (o : ClassFile.CmpOp) : Op.ifCond.holds .ge (Op.cmpValue (FP.dcmp x y) o) = decide (b ≤ a) := by
  rw [own_cmpv hx hy]
  by_cases h1 : a < b
  · simp [h1, Rat.not_le.mpr h1, Op.ifCond.holds]
  · by_cases h2 : a = b <;> simp [h1, h2, Rat.not_lt.mp h1, Op.ifCond.holds, Rat.le_refl]
theorem own_c_gt {x y : UInt64} {a b : Rat} (hx : own_is x a) (hy : own_is y b) (o : ClassFile.CmpOp) : Op.ifCond.holds .gt (Op.cmpValue (FP.dcmp x y) o) = decide (b < a) := by
  rw [own_cmpv hx hy]
  by_cases h1 : a < b
  · have : ¬ b < a := by grind
    simp [h1, this, Op.ifCond.holds]
  · by_cases h2 : a = b
    · subst h2; simp [Rat.lt_irrefl, Op.ifCond.holds]
    · have : b < a := by grind
      simp [h1, h2, this, Op.ifCond.holds]
theorem own_c_le {x y : UInt64} {a b : Rat} (hx : own_is x a) (hy : own_is y b) (o : ClassFile.CmpOp) : Op.ifCond.holds .le (Op.cmpValue (FP.dcmp x y) o) = decide (a ≤ b) := by
  rw [own_cmpv hx hy]
  by_cases h1 : a < b
  · simp [h1, Rat.le_of_lt h1, Op.ifCond.holds]
  · by_cases h2 : a = b
    · subst h2; simp [Rat.lt_irrefl, Rat.le_refl, Op.ifCond.holds]
    · have : ¬ a ≤ b := by grind
      simp [h1, h2, this, Op.ifCond.holds]
theorem own_c_eq {x y : UInt64} {a b : Rat} (hx : own_is x a) (hy : own_is y b) (o : ClassFile.CmpOp) : Op.ifCond.holds .eq (Op.cmpValue (FP.dcmp x y) o) = decide (a = b) := by
  rw [own_cmpv hx hy]
  by_cases h1 : a < b
  · have : ¬ a = b := by grind
    simp [h1, this, Op.ifCond.holds]
  · by_cases h2 : a = b <;> simp [h1, h2, Op.ifCond.holds]
theorem own_c_ne {x y : UInt64} {a b : Rat} (hx : own_is x a) (hy : own_is y b) (o : ClassFile.CmpOp) : Op.ifCond.holds .ne (Op.cmpValue (FP.dcmp x y) o) = decide (a ≠ b) := by
  rw [own_cmpv hx hy]
  by_cases h1 : a < b
  · have : ¬ a = b := by grind
    simp [h1, this, Op.ifCond.holds]
  · by_cases h2 : a = b <;> simp [h1, h2, Op.ifCond.holds]
/-- ints by their values -/
theorem own_i_lt (x y : Int32) : Op.if_icmp.holds .lt x y = decide (x.toInt < y.toInt) := by simp only [Op.if_icmp.holds, Int32.lt_iff_toInt_lt]
theorem own_i_gt (x y : Int32) : Op.if_icmp.holds .gt x y = decide (y.toInt < x.toInt) := by simp only [Op.if_icmp.holds, GT.gt, Int32.lt_iff_toInt_lt]
theorem own_i_le (x y : Int32) : Op.if_icmp.holds .le x y = decide (x.toInt ≤ y.toInt) := by simp only [Op.if_icmp.holds, Int32.le_iff_toInt_le]
theorem own_i_ge (x y : Int32) : Op.if_icmp.holds .ge x y = decide (y.toInt ≤ x.toInt) := by simp only [Op.if_icmp.holds, GE.ge, Int32.le_iff_toInt_le]
theorem own_i_eq (x y : Int32) : Op.if_icmp.holds .eq x y = decide (x = y) := by rw [Bool.eq_iff_iff]; simp [Op.if_icmp.holds]
theorem own_i_ne (x y : Int32) : Op.if_icmp.holds .ne x y = decide (x ≠ y) := by rw [Bool.eq_iff_iff]; simp [Op.if_icmp.holds]
theorem own_z_lt (x : Int32) : Op.ifCond.holds .lt x = decide (x.toInt < 0) := by simp only [Op.ifCond.holds, Int32.lt_iff_toInt_lt]; rfl
theorem own_z_gt (x : Int32) : Op.ifCond.holds .gt x = decide (0 < x.toInt) := by simp only [Op.ifCond.holds, GT.gt, Int32.lt_iff_toInt_lt]; rfl
theorem own_z_le (x : Int32) : Op.ifCond.holds .le x = decide (x.toInt ≤ 0) := by simp only [Op.ifCond.holds, Int32.le_iff_toInt_le]; rfl
theorem own_z_ge (x : Int32) : Op.ifCond.holds .ge x = decide (0 ≤ x.toInt) := by simp only [Op.ifCond.holds, GE.ge, Int32.le_iff_toInt_le]; rfl
theorem own_z_eq (x : Int32) : Op.ifCond.holds .eq x = decide (x = 0) := by rw [Bool.eq_iff_iff]; simp [Op.ifCond.holds]
theorem own_z_ne (x : Int32) : Op.ifCond.holds .ne x = decide (x ≠ 0) := by rw [Bool.eq_iff_iff]; simp [Op.ifCond.holds]
theorem own_lc_lt (x y : Int64) : Op.ifCond.holds .lt (if x > y then (1 : Int32) else if x = y then 0 else -1) = decide (x.toInt < y.toInt) := by
  simp only [GT.gt, Int64.lt_iff_toInt_lt, ← Int64.toInt_inj]
  by_cases h1 : y.toInt < x.toInt
  · simp [h1, Op.ifCond.holds, show ¬ x.toInt < y.toInt by omega]
  · by_cases h2 : x.toInt = y.toInt
    · simp [h2, Op.ifCond.holds]
    · simp [h1, h2, Op.ifCond.holds, show x.toInt < y.toInt by omega]
theorem own_lc_ge (x y : Int64) : Op.ifCond.holds .ge (if x > y then (1 : Int32) else if x = y then 0 else -1) = decide (y.toInt ≤ x.toInt) := by
  simp only [GT.gt, Int64.lt_iff_toInt_lt, ← Int64.toInt_inj]
  by_cases h1 : y.toInt < x.toInt
  · simp [h1, Op.ifCond.holds, show y.toInt ≤ x.toInt by omega]
  · by_cases h2 : x.toInt = y.toInt
    · simp [h2, Op.ifCond.holds]
    · simp [h1, h2, Op.ifCond.holds, show ¬ y.toInt ≤ x.toInt by omega]
theorem own_lc_gt (x y : Int64) : Op.ifCond.holds .gt (if x > y then (1 : Int32) else if x = y then 0 else -1) = decide (y.toInt < x.toInt) := by
  simp only [GT.gt, Int64.lt_iff_toInt_lt, ← Int64.toInt_inj]
  by_cases h1 : y.toInt < x.toInt
  · simp [h1, Op.ifCond.holds]
  · by_cases h2 : x.toInt = y.toInt
    · simp [h2, Op.ifCond.holds]
    · simp [h1, h2, Op.ifCond.holds]
theorem own_lc_le (x y : Int64) : Op.ifCond.holds .le (if x > y then (1 : Int32) else if x = y then 0 else -1) = decide (x.toInt ≤ y.toInt) := by
  simp only [GT.gt, Int64.lt_iff_toInt_lt, ← Int64.toInt_inj]
  by_cases h1 : y.toInt < x.toInt
  · simp [h1, Op.ifCond.holds, show ¬ x.toInt ≤ y.toInt by omega]
  · by_cases h2 : x.toInt = y.toInt
    · simp [h2, Op.ifCond.holds]
    · simp [h1, h2, Op.ifCond.holds, show x.toInt ≤ y.toInt by omega]
theorem own_lc_eq (x y : Int64) : Op.ifCond.holds .eq (if x > y then (1 : Int32) else if x = y then 0 else -1) = decide (x.toInt = y.toInt) := by
  simp only [GT.gt, Int64.lt_iff_toInt_lt, ← Int64.toInt_inj]
  by_cases h1 : y.toInt < x.toInt
  · simp [h1, Op.ifCond.holds, show ¬ x.toInt = y.toInt by omega]
  · by_cases h2 : x.toInt = y.toInt
    · simp [h2, Op.ifCond.holds]
    · simp [h1, h2, Op.ifCond.holds]
theorem own_lc_ne (x y : Int64) : Op.ifCond.holds .ne (if x > y then (1 : Int32) else if x = y then 0 else -1) = decide (x.toInt ≠ y.toInt) := by
  simp only [GT.gt, Int64.lt_iff_toInt_lt, ← Int64.toInt_inj]
  by_cases h1 : y.toInt < x.toInt
  · simp [h1, Op.ifCond.holds, show ¬ x.toInt = y.toInt by omega]
  · by_cases h2 : x.toInt = y.toInt
    · simp [h2, Op.ifCond.holds]
    · simp [h1, h2, Op.ifCond.holds]
end OwnNum4
open Jvm Jvm.ClassFile Sem Op Lib Jvm.Free Jvm.Stand Jvm.LawKit Jvm.RoadKit Bundle Jvm.Pilot.@@N@@.Jvm.D
/-! the walk layer: own_Go says that from one frame another one is reached, whatever the heap; one rule an instruction -/
section OwnWalk
open Jvm.Free Jvm.Free.Fl
def own_Ldc (tb : Tables) (e : Env) (below : List Frame) (T : State) (m : MethodId) (c : Code) (i : Nat) (v : Value) : Prop :=
  ∀ (g : JFrame) (target : State), g.method = m →
    ((∃ x, v = .int x) → decode c.code g.pc = .ok (.ldc i, 2) → Steps tb e below (T.setTop { g with pc := g.pc + 2, stack := v :: g.stack }) target → Steps tb e below (T.setTop g) target) ∧
    ((∃ x, v = .int x) → decode c.code g.pc = .ok (.ldc_w i, 3) → Steps tb e below (T.setTop { g with pc := g.pc + 3, stack := v :: g.stack }) target → Steps tb e below (T.setTop g) target) ∧
    (((∃ x, v = .long x) ∨ ∃ x, v = .double x) → decode c.code g.pc = .ok (.ldc2_w i, 3) → Steps tb e below (T.setTop { g with pc := g.pc + 3, stack := v :: g.stack }) target → Steps tb e below (T.setTop g) target)
def own_Go (P : List (Nat × Value)) (b : ByteArray) (pc : Nat) (L : Array Slot) (S : List Value) (pc' : Nat) (L' : Array Slot) (S' : List Value) : Prop :=
  ∀ (tb : Tables) [Ours tb] (e : Env) (below : List Frame) (T target : State) (m : MethodId) (c : Code), At T m c below → tb.exec = Jvm.exec → c.code = b →
    (∀ q ∈ P, own_Ldc tb e below T m c q.1 q.2) → Steps tb e below (T.setTop (mkF m pc' L' S')) target → Steps tb e below (T.setTop (mkF m pc L S)) target
variable {P : List (Nat × Value)} {b : ByteArray} {pc pcE : Nat} {L L' LE : Array Slot} {S SE : List Value}
theorem own_refl : own_Go P b pc L S pc L S := fun tb _ e below T target m c h hx hy hP k => k
theorem own_trans {pcM : Nat} {LM : Array Slot} {SM : List Value} (r1 : own_Go P b pc L S pcM LM SM) (r2 : own_Go P b pcM LM SM pcE LE SE) : own_Go P b pc L S pcE LE SE :=
  fun tb _ e below T target m c h hx hy hP k => r1 tb e below T target m c h hx hy hP (r2 tb e below T target m c h hx hy hP k)
theorem own_at {pc2 : Nat} {L2 : Array Slot} {S2 : List Value} (h1 : pc = pc2) (h2 : L = L2) (h3 : S = S2) (r : own_Go P b pc L S pcE LE SE) : own_Go P b pc2 L2 S2 pcE LE SE := by subst h1 h2 h3; exact r
theorem own_end {pc2 : Nat} {L2 : Array Slot} {S2 : List Value} (h1 : pcE = pc2) (h2 : LE = L2) (h3 : SE = S2) (r : own_Go P b pc L S pcE LE SE) : own_Go P b pc L S pc2 L2 S2 := by subst h1 h2 h3; exact r
theorem own_iload {j : Nat} {v : Int32} {pc2 : Nat} (hd : decode b pc = .ok (.iload j, 2)) (hpc : pc + 2 = pc2) (hl : L[j]? = some (.val (.int v))) (r : own_Go P b pc2 L (.int v :: S) pcE LE SE) : own_Go P b pc L (S) pcE LE SE := by
  intro tb _ e below T target m c h hx hy hP k; subst hpc; exact XS.iload h hx rfl (hb hy hd) hl (r tb e below T target m c h hx hy hP k)
theorem own_iloadN {j : Fin 4} {v : Int32} {pc2 : Nat} (hd : decode b pc = .ok (.iload_n j, 1)) (hpc : pc + 1 = pc2) (hl : L[j.val]? = some (.val (.int v))) (r : own_Go P b pc2 L (.int v :: S) pcE LE SE) : own_Go P b pc L (S) pcE LE SE := by
  intro tb _ e below T target m c h hx hy hP k; subst hpc; exact XS.iloadN h hx rfl (hb hy hd) hl (r tb e below T target m c h hx hy hP k)
theorem own_istore {j : Nat} {v : Int32} {rest : List Value} {pc2 : Nat} (hd : decode b pc = .ok (.istore j, 2)) (hpc : pc + 2 = pc2) (hl : storeLocals L j (.int v) = some L') (r : own_Go P b pc2 L' (rest) pcE LE SE) : own_Go P b pc L (.int v :: rest) pcE LE SE := by
  intro tb _ e below T target m c h hx hy hP k; subst hpc; exact XS.istore h hx rfl (hb hy hd) rfl hl (r tb e below T target m c h hx hy hP k)
theorem own_istoreN {j : Fin 4} {v : Int32} {rest : List Value} {pc2 : Nat} (hd : decode b pc = .ok (.istore_n j, 1)) (hpc : pc + 1 = pc2) (hl : storeLocals L j.val (.int v) = some L') (r : own_Go P b pc2 L' (rest) pcE LE SE) : own_Go P b pc L (.int v :: rest) pcE LE SE := by
  intro tb _ e below T target m c h hx hy hP k; subst hpc; exact XS.istoreN h hx rfl (hb hy hd) rfl hl (r tb e below T target m c h hx hy hP k)
theorem own_lload {j : Nat} {v : Int64} {pc2 : Nat} (hd : decode b pc = .ok (.lload j, 2)) (hpc : pc + 2 = pc2) (hl : L[j]? = some (.val (.long v))) (r : own_Go P b pc2 L (.long v :: S) pcE LE SE) : own_Go P b pc L (S) pcE LE SE := by
  intro tb _ e below T target m c h hx hy hP k; subst hpc; exact XS.lload h hx rfl (hb hy hd) hl (r tb e below T target m c h hx hy hP k)
theorem own_lloadN {j : Fin 4} {v : Int64} {pc2 : Nat} (hd : decode b pc = .ok (.lload_n j, 1)) (hpc : pc + 1 = pc2) (hl : L[j.val]? = some (.val (.long v))) (r : own_Go P b pc2 L (.long v :: S) pcE LE SE) : own_Go P b pc L (S) pcE LE SE := by
  intro tb _ e below T target m c h hx hy hP k; subst hpc; exact XS.lloadN h hx rfl (hb hy hd) hl (r tb e below T target m c h hx hy hP k)
theorem own_lstore {j : Nat} {v : Int64} {rest : List Value} {pc2 : Nat} (hd : decode b pc = .ok (.lstore j, 2)) (hpc : pc + 2 = pc2) (hl : storeLocals L j (.long v) = some L') (r : own_Go P b pc2 L' (rest) pcE LE SE) : own_Go P b pc L (.long v :: rest) pcE LE SE := by
  intro tb _ e below T target m c h hx hy hP k; subst hpc; exact XS.lstore h hx rfl (hb hy hd) rfl hl (r tb e below T target m c h hx hy hP k)
theorem own_lstoreN {j : Fin 4} {v : Int64} {rest : List Value} {pc2 : Nat} (hd : decode b pc = .ok (.lstore_n j, 1)) (hpc : pc + 1 = pc2) (hl : storeLocals L j.val (.long v) = some L') (r : own_Go P b pc2 L' (rest) pcE LE SE) : own_Go P b pc L (.long v :: rest) pcE LE SE := by
  intro tb _ e below T target m c h hx hy hP k; subst hpc; exact XS.lstoreN h hx rfl (hb hy hd) rfl hl (r tb e below T target m c h hx hy hP k)
theorem own_dload {j : Nat} {v : UInt64} {pc2 : Nat} (hd : decode b pc = .ok (.dload j, 2)) (hpc : pc + 2 = pc2) (hl : L[j]? = some (.val (.double v))) (r : own_Go P b pc2 L (.double v :: S) pcE LE SE) : own_Go P b pc L (S) pcE LE SE := by
  intro tb _ e below T target m c h hx hy hP k; subst hpc; exact XS.dload h hx rfl (hb hy hd) hl (r tb e below T target m c h hx hy hP k)
theorem own_dloadN {j : Fin 4} {v : UInt64} {pc2 : Nat} (hd : decode b pc = .ok (.dload_n j, 1)) (hpc : pc + 1 = pc2) (hl : L[j.val]? = some (.val (.double v))) (r : own_Go P b pc2 L (.double v :: S) pcE LE SE) : own_Go P b pc L (S) pcE LE SE := by
  intro tb _ e below T target m c h hx hy hP k; subst hpc; exact XS.dloadN h hx rfl (hb hy hd) hl (r tb e below T target m c h hx hy hP k)
theorem own_dstore {j : Nat} {v : UInt64} {rest : List Value} {pc2 : Nat} (hd : decode b pc = .ok (.dstore j, 2)) (hpc : pc + 2 = pc2) (hl : storeLocals L j (.double v) = some L') (r : own_Go P b pc2 L' (rest) pcE LE SE) : own_Go P b pc L (.double v :: rest) pcE LE SE := by
  intro tb _ e below T target m c h hx hy hP k; subst hpc; exact XS.dstore h hx rfl (hb hy hd) rfl hl (r tb e below T target m c h hx hy hP k)
theorem own_dstoreN {j : Fin 4} {v : UInt64} {rest : List Value} {pc2 : Nat} (hd : decode b pc = .ok (.dstore_n j, 1)) (hpc : pc + 1 = pc2) (hl : storeLocals L j.val (.double v) = some L') (r : own_Go P b pc2 L' (rest) pcE LE SE) : own_Go P b pc L (.double v :: rest) pcE LE SE := by
  intro tb _ e below T target m c h hx hy hP k; subst hpc; exact XS.dstoreN h hx rfl (hb hy hd) rfl hl (r tb e below T target m c h hx hy hP k)
theorem own_aload {j : Nat} {v : Value} {pc2 : Nat} (hd : decode b pc = .ok (.aload j, 2)) (hpc : pc + 2 = pc2) (hl : L[j]? = some (.val v)) (hr : v.isRef = true) (r : own_Go P b pc2 L (v :: S) pcE LE SE) : own_Go P b pc L (S) pcE LE SE := by
  intro tb _ e below T target m c h hx hy hP k; subst hpc; exact XS.aload h hx rfl (hb hy hd) hl hr (r tb e below T target m c h hx hy hP k)
theorem own_aloadN {j : Fin 4} {v : Value} {pc2 : Nat} (hd : decode b pc = .ok (.aload_n j, 1)) (hpc : pc + 1 = pc2) (hl : L[j.val]? = some (.val v)) (hr : v.isRef = true) (r : own_Go P b pc2 L (v :: S) pcE LE SE) : own_Go P b pc L (S) pcE LE SE := by
  intro tb _ e below T target m c h hx hy hP k; subst hpc; exact XS.aloadN h hx rfl (hb hy hd) hl hr (r tb e below T target m c h hx hy hP k)
theorem own_astore {j : Nat} {v : Value} {rest : List Value} {pc2 : Nat} (hd : decode b pc = .ok (.astore j, 2)) (hpc : pc + 2 = pc2) (hr : v.isRef = true) (hl : storeLocals L j v = some L') (r : own_Go P b pc2 L' (rest) pcE LE SE) : own_Go P b pc L (v :: rest) pcE LE SE := by
  intro tb _ e below T target m c h hx hy hP k; subst hpc; exact XS.astore h hx rfl (hb hy hd) rfl hr hl (r tb e below T target m c h hx hy hP k)
theorem own_astoreN {j : Fin 4} {v : Value} {rest : List Value} {pc2 : Nat} (hd : decode b pc = .ok (.astore_n j, 1)) (hpc : pc + 1 = pc2) (hr : v.isRef = true) (hl : storeLocals L j.val v = some L') (r : own_Go P b pc2 L' (rest) pcE LE SE) : own_Go P b pc L (v :: rest) pcE LE SE := by
  intro tb _ e below T target m c h hx hy hP k; subst hpc; exact XS.astoreN h hx rfl (hb hy hd) rfl hr hl (r tb e below T target m c h hx hy hP k)
theorem own_iconst {i : Int} {v : Int32} {pc2 : Nat} (hd : decode b pc = .ok (.iconst i, 1)) (hpc : pc + 1 = pc2) (hv : Int32.ofInt i = v) (r : own_Go P b pc2 L (.int v :: S) pcE LE SE) : own_Go P b pc L (S) pcE LE SE := by
  intro tb _ e below T target m c h hx hy hP k; subst hpc; subst hv; exact XS.iconst h hx rfl (hb hy hd) (r tb e below T target m c h hx hy hP k)
theorem own_bipush {i : Int} {v : Int32} {pc2 : Nat} (hd : decode b pc = .ok (.bipush i, 2)) (hpc : pc + 2 = pc2) (hv : (Int8.ofInt i).toInt32 = v) (r : own_Go P b pc2 L (.int v :: S) pcE LE SE) : own_Go P b pc L (S) pcE LE SE := by
  intro tb _ e below T target m c h hx hy hP k; subst hpc; subst hv; exact XS.bipush h hx rfl (hb hy hd) (r tb e below T target m c h hx hy hP k)
theorem own_sipush {i : Int} {v : Int32} {pc2 : Nat} (hd : decode b pc = .ok (.sipush i, 3)) (hpc : pc + 3 = pc2) (hv : (Int16.ofInt i).toInt32 = v) (r : own_Go P b pc2 L (.int v :: S) pcE LE SE) : own_Go P b pc L (S) pcE LE SE := by
  intro tb _ e below T target m c h hx hy hP k; subst hpc; subst hv; exact XS.sipush h hx rfl (hb hy hd) (r tb e below T target m c h hx hy hP k)
theorem own_lconst {j : Fin 2} {v : Int64} {pc2 : Nat} (hd : decode b pc = .ok (.lconst j, 1)) (hpc : pc + 1 = pc2) (hv : Int64.ofNat j = v) (r : own_Go P b pc2 L (.long v :: S) pcE LE SE) : own_Go P b pc L (S) pcE LE SE := by
  intro tb _ e below T target m c h hx hy hP k; subst hpc; subst hv; exact XS.lconst h hx rfl (hb hy hd) (r tb e below T target m c h hx hy hP k)
theorem own_dconst0  {v : UInt64} {pc2 : Nat} (hd : decode b pc = .ok (.dconst 0, 1)) (hpc : pc + 1 = pc2) (hv : FP.dconst0 = v) (r : own_Go P b pc2 L (.double v :: S) pcE LE SE) : own_Go P b pc L (S) pcE LE SE := by
  intro tb _ e below T target m c h hx hy hP k; subst hpc; subst hv; exact XS.dconst0 h hx rfl (hb hy hd) rfl (r tb e below T target m c h hx hy hP k)
theorem own_dconst1  {v : UInt64} {pc2 : Nat} (hd : decode b pc = .ok (.dconst 1, 1)) (hpc : pc + 1 = pc2) (hv : FP.dconst1 = v) (r : own_Go P b pc2 L (.double v :: S) pcE LE SE) : own_Go P b pc L (S) pcE LE SE := by
  intro tb _ e below T target m c h hx hy hP k; subst hpc; subst hv; exact XS.dconst1 h hx rfl (hb hy hd) rfl (r tb e below T target m c h hx hy hP k)
theorem own_aconstNull  {pc2 : Nat} (hd : decode b pc = .ok (.aconst_null, 1)) (hpc : pc + 1 = pc2) (r : own_Go P b pc2 L (.null :: S) pcE LE SE) : own_Go P b pc L (S) pcE LE SE := by
  intro tb _ e below T target m c h hx hy hP k; subst hpc; exact XS.aconstNull h hx rfl (hb hy hd) (r tb e below T target m c h hx hy hP k)
theorem own_iadd {x y : Int32} {v : Int32} {rest : List Value} {pc2 : Nat} (hd : decode b pc = .ok (.iadd, 1)) (hpc : pc + 1 = pc2) (hv : x + y = v) (r : own_Go P b pc2 L (.int v :: rest) pcE LE SE) : own_Go P b pc L (.int y :: .int x :: rest) pcE LE SE := by
  intro tb _ e below T target m c h hx hy hP k; subst hpc; subst hv; exact XS.iadd h hx rfl (hb hy hd) rfl (r tb e below T target m c h hx hy hP k)
theorem own_isub {x y : Int32} {v : Int32} {rest : List Value} {pc2 : Nat} (hd : decode b pc = .ok (.isub, 1)) (hpc : pc + 1 = pc2) (hv : x - y = v) (r : own_Go P b pc2 L (.int v :: rest) pcE LE SE) : own_Go P b pc L (.int y :: .int x :: rest) pcE LE SE := by
  intro tb _ e below T target m c h hx hy hP k; subst hpc; subst hv; exact XS.isub h hx rfl (hb hy hd) rfl (r tb e below T target m c h hx hy hP k)
theorem own_imul {x y : Int32} {v : Int32} {rest : List Value} {pc2 : Nat} (hd : decode b pc = .ok (.imul, 1)) (hpc : pc + 1 = pc2) (hv : x * y = v) (r : own_Go P b pc2 L (.int v :: rest) pcE LE SE) : own_Go P b pc L (.int y :: .int x :: rest) pcE LE SE := by
  intro tb _ e below T target m c h hx hy hP k; subst hpc; subst hv; exact XS.imul h hx rfl (hb hy hd) rfl (r tb e below T target m c h hx hy hP k)
theorem own_iand {x y : Int32} {v : Int32} {rest : List Value} {pc2 : Nat} (hd : decode b pc = .ok (.iand, 1)) (hpc : pc + 1 = pc2) (hv : x &&& y = v) (r : own_Go P b pc2 L (.int v :: rest) pcE LE SE) : own_Go P b pc L (.int y :: .int x :: rest) pcE LE SE := by
  intro tb _ e below T target m c h hx hy hP k; subst hpc; subst hv; exact XS.iand h hx rfl (hb hy hd) rfl (r tb e below T target m c h hx hy hP k)
theorem own_ior {x y : Int32} {v : Int32} {rest : List Value} {pc2 : Nat} (hd : decode b pc = .ok (.ior, 1)) (hpc : pc + 1 = pc2) (hv : x ||| y = v) (r : own_Go P b pc2 L (.int v :: rest) pcE LE SE) : own_Go P b pc L (.int y :: .int x :: rest) pcE LE SE := by
  intro tb _ e below T target m c h hx hy hP k; subst hpc; subst hv; exact XS.ior h hx rfl (hb hy hd) rfl (r tb e below T target m c h hx hy hP k)
theorem own_ixor {x y : Int32} {v : Int32} {rest : List Value} {pc2 : Nat} (hd : decode b pc = .ok (.ixor, 1)) (hpc : pc + 1 = pc2) (hv : x ^^^ y = v) (r : own_Go P b pc2 L (.int v :: rest) pcE LE SE) : own_Go P b pc L (.int y :: .int x :: rest) pcE LE SE := by
  intro tb _ e below T target m c h hx hy hP k; subst hpc; subst hv; exact XS.ixor h hx rfl (hb hy hd) rfl (r tb e below T target m c h hx hy hP k)
theorem own_ishl {x y : Int32} {v : Int32} {rest : List Value} {pc2 : Nat} (hd : decode b pc = .ok (.ishl, 1)) (hpc : pc + 1 = pc2) (hv : x <<< (y &&& 31) = v) (r : own_Go P b pc2 L (.int v :: rest) pcE LE SE) : own_Go P b pc L (.int y :: .int x :: rest) pcE LE SE := by
  intro tb _ e below T target m c h hx hy hP k; subst hpc; subst hv; exact XS.ishl h hx rfl (hb hy hd) rfl (r tb e below T target m c h hx hy hP k)
theorem own_ishr {x y : Int32} {v : Int32} {rest : List Value} {pc2 : Nat} (hd : decode b pc = .ok (.ishr, 1)) (hpc : pc + 1 = pc2) (hv : x >>> (y &&& 31) = v) (r : own_Go P b pc2 L (.int v :: rest) pcE LE SE) : own_Go P b pc L (.int y :: .int x :: rest) pcE LE SE := by
  intro tb _ e below T target m c h hx hy hP k; subst hpc; subst hv; exact XS.ishr h hx rfl (hb hy hd) rfl (r tb e below T target m c h hx hy hP k)
theorem own_iushr {x y : Int32} {v : Int32} {rest : List Value} {pc2 : Nat} (hd : decode b pc = .ok (.iushr, 1)) (hpc : pc + 1 = pc2) (hv : (x.toUInt32 >>> (y &&& 31).toUInt32).toInt32 = v) (r : own_Go P b pc2 L (.int v :: rest) pcE LE SE) : own_Go P b pc L (.int y :: .int x :: rest) pcE LE SE := by
  intro tb _ e below T target m c h hx hy hP k; subst hpc; subst hv; exact XS.iushr h hx rfl (hb hy hd) rfl (r tb e below T target m c h hx hy hP k)
theorem own_idiv {x y : Int32} {v : Int32} {rest : List Value} {pc2 : Nat} (hd : decode b pc = .ok (.idiv, 1)) (hpc : pc + 1 = pc2) (hn : y ≠ 0) (hv : x / y = v) (r : own_Go P b pc2 L (.int v :: rest) pcE LE SE) : own_Go P b pc L (.int y :: .int x :: rest) pcE LE SE := by
  intro tb _ e below T target m c h hx hy hP k; subst hpc; subst hv; exact XS.idiv h hx rfl (hb hy hd) rfl hn (r tb e below T target m c h hx hy hP k)
theorem own_irem {x y : Int32} {v : Int32} {rest : List Value} {pc2 : Nat} (hd : decode b pc = .ok (.irem, 1)) (hpc : pc + 1 = pc2) (hn : y ≠ 0) (hv : x - (x / y) * y = v) (r : own_Go P b pc2 L (.int v :: rest) pcE LE SE) : own_Go P b pc L (.int y :: .int x :: rest) pcE LE SE := by
  intro tb _ e below T target m c h hx hy hP k; subst hpc; subst hv; exact XS.irem h hx rfl (hb hy hd) rfl hn (r tb e below T target m c h hx hy hP k)
theorem own_ladd {x y : Int64} {v : Int64} {rest : List Value} {pc2 : Nat} (hd : decode b pc = .ok (.ladd, 1)) (hpc : pc + 1 = pc2) (hv : x + y = v) (r : own_Go P b pc2 L (.long v :: rest) pcE LE SE) : own_Go P b pc L (.long y :: .long x :: rest) pcE LE SE := by
  intro tb _ e below T target m c h hx hy hP k; subst hpc; subst hv; exact XS.ladd h hx rfl (hb hy hd) rfl (r tb e below T target m c h hx hy hP k)
theorem own_lsub {x y : Int64} {v : Int64} {rest : List Value} {pc2 : Nat} (hd : decode b pc = .ok (.lsub, 1)) (hpc : pc + 1 = pc2) (hv : x - y = v) (r : own_Go P b pc2 L (.long v :: rest) pcE LE SE) : own_Go P b pc L (.long y :: .long x :: rest) pcE LE SE := by
  intro tb _ e below T target m c h hx hy hP k; subst hpc; subst hv; exact XS.lsub h hx rfl (hb hy hd) rfl (r tb e below T target m c h hx hy hP k)
theorem own_lmul {x y : Int64} {v : Int64} {rest : List Value} {pc2 : Nat} (hd : decode b pc = .ok (.lmul, 1)) (hpc : pc + 1 = pc2) (hv : x * y = v) (r : own_Go P b pc2 L (.long v :: rest) pcE LE SE) : own_Go P b pc L (.long y :: .long x :: rest) pcE LE SE := by
  intro tb _ e below T target m c h hx hy hP k; subst hpc; subst hv; exact XS.lmul h hx rfl (hb hy hd) rfl (r tb e below T target m c h hx hy hP k)
theorem own_land {x y : Int64} {v : Int64} {rest : List Value} {pc2 : Nat} (hd : decode b pc = .ok (.land, 1)) (hpc : pc + 1 = pc2) (hv : x &&& y = v) (r : own_Go P b pc2 L (.long v :: rest) pcE LE SE) : own_Go P b pc L (.long y :: .long x :: rest) pcE LE SE := by
  intro tb _ e below T target m c h hx hy hP k; subst hpc; subst hv; exact XS.land h hx rfl (hb hy hd) rfl (r tb e below T target m c h hx hy hP k)
theorem own_lor {x y : Int64} {v : Int64} {rest : List Value} {pc2 : Nat} (hd : decode b pc = .ok (.lor, 1)) (hpc : pc + 1 = pc2) (hv : x ||| y = v) (r : own_Go P b pc2 L (.long v :: rest) pcE LE SE) : own_Go P b pc L (.long y :: .long x :: rest) pcE LE SE := by
  intro tb _ e below T target m c h hx hy hP k; subst hpc; subst hv; exact XS.lor h hx rfl (hb hy hd) rfl (r tb e below T target m c h hx hy hP k)
theorem own_lxor {x y : Int64} {v : Int64} {rest : List Value} {pc2 : Nat} (hd : decode b pc = .ok (.lxor, 1)) (hpc : pc + 1 = pc2) (hv : x ^^^ y = v) (r : own_Go P b pc2 L (.long v :: rest) pcE LE SE) : own_Go P b pc L (.long y :: .long x :: rest) pcE LE SE := by
  intro tb _ e below T target m c h hx hy hP k; subst hpc; subst hv; exact XS.lxor h hx rfl (hb hy hd) rfl (r tb e below T target m c h hx hy hP k)
theorem own_ldiv {x y : Int64} {v : Int64} {rest : List Value} {pc2 : Nat} (hd : decode b pc = .ok (.ldiv, 1)) (hpc : pc + 1 = pc2) (hn : y ≠ 0) (hv : x / y = v) (r : own_Go P b pc2 L (.long v :: rest) pcE LE SE) : own_Go P b pc L (.long y :: .long x :: rest) pcE LE SE := by
  intro tb _ e below T target m c h hx hy hP k; subst hpc; subst hv; exact XS.ldiv h hx rfl (hb hy hd) rfl hn (r tb e below T target m c h hx hy hP k)
theorem own_lrem {x y : Int64} {v : Int64} {rest : List Value} {pc2 : Nat} (hd : decode b pc = .ok (.lrem, 1)) (hpc : pc + 1 = pc2) (hn : y ≠ 0) (hv : x - (x / y) * y = v) (r : own_Go P b pc2 L (.long v :: rest) pcE LE SE) : own_Go P b pc L (.long y :: .long x :: rest) pcE LE SE := by
  intro tb _ e below T target m c h hx hy hP k; subst hpc; subst hv; exact XS.lrem h hx rfl (hb hy hd) rfl hn (r tb e below T target m c h hx hy hP k)
theorem own_lshl {x : Int64} {y : Int32} {v : Int64} {rest : List Value} {pc2 : Nat} (hd : decode b pc = .ok (.lshl, 1)) (hpc : pc + 1 = pc2) (hv : x <<< (y &&& 0x3f).toInt64 = v) (r : own_Go P b pc2 L (.long v :: rest) pcE LE SE) : own_Go P b pc L (.int y :: .long x :: rest) pcE LE SE := by
  intro tb _ e below T target m c h hx hy hP k; subst hpc; subst hv; exact XS.lshl h hx rfl (hb hy hd) rfl (r tb e below T target m c h hx hy hP k)
theorem own_lshr {x : Int64} {y : Int32} {v : Int64} {rest : List Value} {pc2 : Nat} (hd : decode b pc = .ok (.lshr, 1)) (hpc : pc + 1 = pc2) (hv : x >>> (y &&& 0x3f).toInt64 = v) (r : own_Go P b pc2 L (.long v :: rest) pcE LE SE) : own_Go P b pc L (.int y :: .long x :: rest) pcE LE SE := by
  intro tb _ e below T target m c h hx hy hP k; subst hpc; subst hv; exact XS.lshr h hx rfl (hb hy hd) rfl (r tb e below T target m c h hx hy hP k)
theorem own_lushr {x : Int64} {y : Int32} {v : Int64} {rest : List Value} {pc2 : Nat} (hd : decode b pc = .ok (.lushr, 1)) (hpc : pc + 1 = pc2) (hv : (x.toUInt64 >>> (y &&& 0x3f).toInt64.toUInt64).toInt64 = v) (r : own_Go P b pc2 L (.long v :: rest) pcE LE SE) : own_Go P b pc L (.int y :: .long x :: rest) pcE LE SE := by
  intro tb _ e below T target m c h hx hy hP k; subst hpc; subst hv; exact XS.lushr h hx rfl (hb hy hd) rfl (r tb e below T target m c h hx hy hP k)
theorem own_lcmp {x y : Int64} {v : Int32} {rest : List Value} {pc2 : Nat} (hd : decode b pc = .ok (.lcmp, 1)) (hpc : pc + 1 = pc2) (hv : (if x > y then 1 else if x = y then 0 else -1) = v) (r : own_Go P b pc2 L (.int v :: rest) pcE LE SE) : own_Go P b pc L (.long y :: .long x :: rest) pcE LE SE := by
  intro tb _ e below T target m c h hx hy hP k; subst hpc; subst hv; exact XS.lcmp h hx rfl (hb hy hd) rfl (r tb e below T target m c h hx hy hP k)
theorem own_ineg {x : Int32} {v : Int32} {rest : List Value} {pc2 : Nat} (hd : decode b pc = .ok (.ineg, 1)) (hpc : pc + 1 = pc2) (hv : -x = v) (r : own_Go P b pc2 L (.int v :: rest) pcE LE SE) : own_Go P b pc L (.int x :: rest) pcE LE SE := by
  intro tb _ e below T target m c h hx hy hP k; subst hpc; subst hv; exact XS.ineg h hx rfl (hb hy hd) rfl (r tb e below T target m c h hx hy hP k)
theorem own_lneg {x : Int64} {v : Int64} {rest : List Value} {pc2 : Nat} (hd : decode b pc = .ok (.lneg, 1)) (hpc : pc + 1 = pc2) (hv : -x = v) (r : own_Go P b pc2 L (.long v :: rest) pcE LE SE) : own_Go P b pc L (.long x :: rest) pcE LE SE := by
  intro tb _ e below T target m c h hx hy hP k; subst hpc; subst hv; exact XS.lneg h hx rfl (hb hy hd) rfl (r tb e below T target m c h hx hy hP k)
theorem own_i2l {x : Int32} {v : Int64} {rest : List Value} {pc2 : Nat} (hd : decode b pc = .ok (.i2l, 1)) (hpc : pc + 1 = pc2) (hv : x.toInt64 = v) (r : own_Go P b pc2 L (.long v :: rest) pcE LE SE) : own_Go P b pc L (.int x :: rest) pcE LE SE := by
  intro tb _ e below T target m c h hx hy hP k; subst hpc; subst hv; exact XS.i2l h hx rfl (hb hy hd) rfl (r tb e below T target m c h hx hy hP k)
theorem own_l2i {x : Int64} {v : Int32} {rest : List Value} {pc2 : Nat} (hd : decode b pc = .ok (.l2i, 1)) (hpc : pc + 1 = pc2) (hv : x.toInt32 = v) (r : own_Go P b pc2 L (.int v :: rest) pcE LE SE) : own_Go P b pc L (.long x :: rest) pcE LE SE := by
  intro tb _ e below T target m c h hx hy hP k; subst hpc; subst hv; exact XS.l2i h hx rfl (hb hy hd) rfl (r tb e below T target m c h hx hy hP k)
theorem own_i2b {x : Int32} {v : Int32} {rest : List Value} {pc2 : Nat} (hd : decode b pc = .ok (.i2b, 1)) (hpc : pc + 1 = pc2) (hv : x.toInt8.toInt32 = v) (r : own_Go P b pc2 L (.int v :: rest) pcE LE SE) : own_Go P b pc L (.int x :: rest) pcE LE SE := by
  intro tb _ e below T target m c h hx hy hP k; subst hpc; subst hv; exact XS.i2b h hx rfl (hb hy hd) rfl (r tb e below T target m c h hx hy hP k)
theorem own_i2c {x : Int32} {v : Int32} {rest : List Value} {pc2 : Nat} (hd : decode b pc = .ok (.i2c, 1)) (hpc : pc + 1 = pc2) (hv : x.toUInt32.toUInt16.toUInt32.toInt32 = v) (r : own_Go P b pc2 L (.int v :: rest) pcE LE SE) : own_Go P b pc L (.int x :: rest) pcE LE SE := by
  intro tb _ e below T target m c h hx hy hP k; subst hpc; subst hv; exact XS.i2c h hx rfl (hb hy hd) rfl (r tb e below T target m c h hx hy hP k)
theorem own_i2d {x : Int32} {v : UInt64} {rest : List Value} {pc2 : Nat} (hd : decode b pc = .ok (.i2d, 1)) (hpc : pc + 1 = pc2) (hv : FP.i2d x = v) (r : own_Go P b pc2 L (.double v :: rest) pcE LE SE) : own_Go P b pc L (.int x :: rest) pcE LE SE := by
  intro tb _ e below T target m c h hx hy hP k; subst hpc; subst hv; exact XS.i2dS h hx rfl (hb hy hd) rfl rfl (r tb e below T target m c h hx hy hP k)
theorem own_l2d {x : Int64} {v : UInt64} {rest : List Value} {pc2 : Nat} (hd : decode b pc = .ok (.l2d, 1)) (hpc : pc + 1 = pc2) (hv : FP.l2d x = v) (r : own_Go P b pc2 L (.double v :: rest) pcE LE SE) : own_Go P b pc L (.long x :: rest) pcE LE SE := by
  intro tb _ e below T target m c h hx hy hP k; subst hpc; subst hv; exact XS.l2dS h hx rfl (hb hy hd) rfl rfl (r tb e below T target m c h hx hy hP k)
theorem own_d2i {x : UInt64} {v : Int32} {rest : List Value} {pc2 : Nat} (hd : decode b pc = .ok (.d2i, 1)) (hpc : pc + 1 = pc2) (hv : FP.d2i x = v) (r : own_Go P b pc2 L (.int v :: rest) pcE LE SE) : own_Go P b pc L (.double x :: rest) pcE LE SE := by
  intro tb _ e below T target m c h hx hy hP k; subst hpc; subst hv; exact XS.d2iS h hx rfl (hb hy hd) rfl rfl (r tb e below T target m c h hx hy hP k)
theorem own_d2l {x : UInt64} {v : Int64} {rest : List Value} {pc2 : Nat} (hd : decode b pc = .ok (.d2l, 1)) (hpc : pc + 1 = pc2) (hv : FP.d2l x = v) (r : own_Go P b pc2 L (.long v :: rest) pcE LE SE) : own_Go P b pc L (.double x :: rest) pcE LE SE := by
  intro tb _ e below T target m c h hx hy hP k; subst hpc; subst hv; exact XS.d2lS h hx rfl (hb hy hd) rfl rfl (r tb e below T target m c h hx hy hP k)
theorem own_dneg {x : UInt64} {v : UInt64} {rest : List Value} {pc2 : Nat} (hd : decode b pc = .ok (.dneg, 1)) (hpc : pc + 1 = pc2) (hv : FP.dneg x = v) (r : own_Go P b pc2 L (.double v :: rest) pcE LE SE) : own_Go P b pc L (.double x :: rest) pcE LE SE := by
  intro tb _ e below T target m c h hx hy hP k; subst hpc; subst hv; exact XS.dnegS h hx rfl (hb hy hd) rfl rfl (r tb e below T target m c h hx hy hP k)
theorem own_dcmp {o : CmpOp} {x y : UInt64} {v : Int32} {rest : List Value} {pc2 : Nat} (hd : decode b pc = .ok (.dcmp o, 1)) (hpc : pc + 1 = pc2) (hv : cmpValue (FP.dcmp x y) o = v) (r : own_Go P b pc2 L (.int v :: rest) pcE LE SE) : own_Go P b pc L (.double y :: .double x :: rest) pcE LE SE := by
  intro tb _ e below T target m c h hx hy hP k; subst hpc; subst hv; exact XS.dcmpS h hx rfl (hb hy hd) rfl rfl (r tb e below T target m c h hx hy hP k)
theorem own_dadd {x y : UInt64} {v : UInt64} {rest : List Value} {pc2 : Nat} (hd : decode b pc = .ok (.dadd, 1)) (hpc : pc + 1 = pc2) (hn : NoNaN64 (FP.dadd x y)) (hv : FP.dadd x y = v) (r : own_Go P b pc2 L (.double v :: rest) pcE LE SE) : own_Go P b pc L (.double y :: .double x :: rest) pcE LE SE := by
  intro tb _ e below T target m c h hx hy hP k; subst hpc; subst hv; exact XS.daddS h hx rfl (hb hy hd) rfl hn rfl (r tb e below T target m c h hx hy hP k)
theorem own_dsub {x y : UInt64} {v : UInt64} {rest : List Value} {pc2 : Nat} (hd : decode b pc = .ok (.dsub, 1)) (hpc : pc + 1 = pc2) (hn : NoNaN64 (FP.dsub x y)) (hv : FP.dsub x y = v) (r : own_Go P b pc2 L (.double v :: rest) pcE LE SE) : own_Go P b pc L (.double y :: .double x :: rest) pcE LE SE := by
  intro tb _ e below T target m c h hx hy hP k; subst hpc; subst hv; exact XS.dsubS h hx rfl (hb hy hd) rfl hn rfl (r tb e below T target m c h hx hy hP k)
theorem own_dmul {x y : UInt64} {v : UInt64} {rest : List Value} {pc2 : Nat} (hd : decode b pc = .ok (.dmul, 1)) (hpc : pc + 1 = pc2) (hn : NoNaN64 (FP.dmul x y)) (hv : FP.dmul x y = v) (r : own_Go P b pc2 L (.double v :: rest) pcE LE SE) : own_Go P b pc L (.double y :: .double x :: rest) pcE LE SE := by
  intro tb _ e below T target m c h hx hy hP k; subst hpc; subst hv; exact XS.dmulS h hx rfl (hb hy hd) rfl hn rfl (r tb e below T target m c h hx hy hP k)
theorem own_ddiv {x y : UInt64} {v : UInt64} {rest : List Value} {pc2 : Nat} (hd : decode b pc = .ok (.ddiv, 1)) (hpc : pc + 1 = pc2) (hn : NoNaN64 (FP.ddiv x y)) (hv : FP.ddiv x y = v) (r : own_Go P b pc2 L (.double v :: rest) pcE LE SE) : own_Go P b pc L (.double y :: .double x :: rest) pcE LE SE := by
  intro tb _ e below T target m c h hx hy hP k; subst hpc; subst hv; exact XS.ddivS h hx rfl (hb hy hd) rfl hn rfl (r tb e below T target m c h hx hy hP k)
theorem own_dup {v : Value} {rest : List Value} {pc2 : Nat} (hd : decode b pc = .ok (.dup, 1)) (hpc : pc + 1 = pc2) (hc : v.category = 1) (r : own_Go P b pc2 L (v :: v :: rest) pcE LE SE) : own_Go P b pc L (v :: rest) pcE LE SE := by
  intro tb _ e below T target m c h hx hy hP k; subst hpc; exact XS.dup h hx rfl (hb hy hd) rfl hc (r tb e below T target m c h hx hy hP k)
theorem own_pop {v : Value} {rest : List Value} {pc2 : Nat} (hd : decode b pc = .ok (.pop, 1)) (hpc : pc + 1 = pc2) (hc : v.category = 1) (r : own_Go P b pc2 L (rest) pcE LE SE) : own_Go P b pc L (v :: rest) pcE LE SE := by
  intro tb _ e below T target m c h hx hy hP k; subst hpc; exact XS.pop h hx rfl (hb hy hd) rfl hc (r tb e below T target m c h hx hy hP k)
theorem own_dupX1 {v w : Value} {rest : List Value} {pc2 : Nat} (hd : decode b pc = .ok (.dup_x1, 1)) (hpc : pc + 1 = pc2) (hc : v.category = 1) (hc' : w.category = 1) (r : own_Go P b pc2 L (v :: w :: v :: rest) pcE LE SE) : own_Go P b pc L (v :: w :: rest) pcE LE SE := by
  intro tb _ e below T target m c h hx hy hP k; subst hpc; exact XS.dupX1 h hx rfl (hb hy hd) rfl hc hc' (r tb e below T target m c h hx hy hP k)
theorem own_dup2 {v w : Value} {rest : List Value} {pc2 : Nat} (hd : decode b pc = .ok (.dup2, 1)) (hpc : pc + 1 = pc2) (hc : v.category = 1) (hc' : w.category = 1) (r : own_Go P b pc2 L (v :: w :: v :: w :: rest) pcE LE SE) : own_Go P b pc L (v :: w :: rest) pcE LE SE := by
  intro tb _ e below T target m c h hx hy hP k; subst hpc; exact XT.dup2 h hx rfl (hb hy hd) rfl hc hc' (r tb e below T target m c h hx hy hP k)
theorem own_ifYes {cd : ClassFile.Cond} {x : Int32} {o : Int} {pc' : Nat} {rest : List Value} (hd : decode b pc = .ok (.ifCond cd o, 3)) (hc : ifCond.holds cd x = true) (ho : 0 ≤ (pc : Int) + o) (hp : ((pc : Int) + o).toNat = pc') (r : own_Go P b pc' L rest pcE LE SE) : own_Go P b pc L (.int x :: rest) pcE LE SE := by
  intro tb _ e below T target m c h hx hy hP k; exact XS.ifYes h hx rfl rfl (hb hy hd) rfl hc ho hp (r tb e below T target m c h hx hy hP k)
theorem own_ifNo {cd : ClassFile.Cond} {x : Int32} {o : Int} {rest : List Value} {pc2 : Nat} (hd : decode b pc = .ok (.ifCond cd o, 3)) (hpc : pc + 3 = pc2) (hc : ifCond.holds cd x = false) (r : own_Go P b pc2 L rest pcE LE SE) : own_Go P b pc L (.int x :: rest) pcE LE SE := by
  intro tb _ e below T target m c h hx hy hP k; subst hpc; exact XS.ifNo h hx rfl (hb hy hd) rfl hc (r tb e below T target m c h hx hy hP k)
theorem own_icmpYes {cd : ClassFile.Cond} {x y : Int32} {o : Int} {pc' : Nat} {rest : List Value} (hd : decode b pc = .ok (.if_icmp cd o, 3)) (hc : if_icmp.holds cd x y = true) (ho : 0 ≤ (pc : Int) + o) (hp : ((pc : Int) + o).toNat = pc') (r : own_Go P b pc' L rest pcE LE SE) : own_Go P b pc L (.int y :: .int x :: rest) pcE LE SE := by
  intro tb _ e below T target m c h hx hy hP k; exact XS.icmpYes h hx rfl rfl (hb hy hd) rfl hc ho hp (r tb e below T target m c h hx hy hP k)
theorem own_icmpNo {cd : ClassFile.Cond} {x y : Int32} {o : Int} {rest : List Value} {pc2 : Nat} (hd : decode b pc = .ok (.if_icmp cd o, 3)) (hpc : pc + 3 = pc2) (hc : if_icmp.holds cd x y = false) (r : own_Go P b pc2 L rest pcE LE SE) : own_Go P b pc L (.int y :: .int x :: rest) pcE LE SE := by
  intro tb _ e below T target m c h hx hy hP k; subst hpc; exact XS.icmpNo h hx rfl (hb hy hd) rfl hc (r tb e below T target m c h hx hy hP k)
theorem own_ifnullYes {o : Int} {pc' : Nat} {rest : List Value} (hd : decode b pc = .ok (.ifnull o, 3)) (ho : 0 ≤ (pc : Int) + o) (hp : ((pc : Int) + o).toNat = pc') (r : own_Go P b pc' L rest pcE LE SE) : own_Go P b pc L (.null :: rest) pcE LE SE := by
  intro tb _ e below T target m c h hx hy hP k; exact XS.ifnullYes h hx rfl rfl (hb hy hd) rfl ho hp (r tb e below T target m c h hx hy hP k)
theorem own_ifnullNo {o : Int} {a : Addr} {rest : List Value} {pc2 : Nat} (hd : decode b pc = .ok (.ifnull o, 3)) (hpc : pc + 3 = pc2) (r : own_Go P b pc2 L rest pcE LE SE) : own_Go P b pc L (.ref a :: rest) pcE LE SE := by
  intro tb _ e below T target m c h hx hy hP k; subst hpc; exact XS.ifnullNo h hx rfl (hb hy hd) rfl (r tb e below T target m c h hx hy hP k)
theorem own_ifnonnullYes {o : Int} {pc' : Nat} {a : Addr} {rest : List Value} (hd : decode b pc = .ok (.ifnonnull o, 3)) (ho : 0 ≤ (pc : Int) + o) (hp : ((pc : Int) + o).toNat = pc') (r : own_Go P b pc' L rest pcE LE SE) : own_Go P b pc L (.ref a :: rest) pcE LE SE := by
  intro tb _ e below T target m c h hx hy hP k; exact XS.ifnonnullYes h hx rfl rfl (hb hy hd) rfl ho hp (r tb e below T target m c h hx hy hP k)
theorem own_ifnonnullNo {o : Int} {rest : List Value} {pc2 : Nat} (hd : decode b pc = .ok (.ifnonnull o, 3)) (hpc : pc + 3 = pc2) (r : own_Go P b pc2 L rest pcE LE SE) : own_Go P b pc L (.null :: rest) pcE LE SE := by
  intro tb _ e below T target m c h hx hy hP k; subst hpc; exact XS.ifnonnullNo h hx rfl (hb hy hd) rfl (r tb e below T target m c h hx hy hP k)
theorem own_acmpYes {cd : ClassFile.ACond} {x y : Addr} {o : Int} {pc' : Nat} {rest : List Value} (hd : decode b pc = .ok (.if_acmp cd o, 3)) (hc : if_acmp.holds cd (some x) (some y) = true) (ho : 0 ≤ (pc : Int) + o) (hp : ((pc : Int) + o).toNat = pc') (r : own_Go P b pc' L rest pcE LE SE) : own_Go P b pc L (.ref y :: .ref x :: rest) pcE LE SE := by
  intro tb _ e below T target m c h hx hy hP k; exact XS.acmpYes h hx rfl rfl (hb hy hd) rfl hc ho hp (r tb e below T target m c h hx hy hP k)
theorem own_acmpNo {cd : ClassFile.ACond} {x y : Addr} {o : Int} {rest : List Value} {pc2 : Nat} (hd : decode b pc = .ok (.if_acmp cd o, 3)) (hpc : pc + 3 = pc2) (hc : if_acmp.holds cd (some x) (some y) = false) (r : own_Go P b pc2 L rest pcE LE SE) : own_Go P b pc L (.ref y :: .ref x :: rest) pcE LE SE := by
  intro tb _ e below T target m c h hx hy hP k; subst hpc; exact XS.acmpNo h hx rfl (hb hy hd) rfl hc (r tb e below T target m c h hx hy hP k)
theorem own_goto {o : Int} {pc' : Nat} (hd : decode b pc = .ok (.goto o, 3)) (ho : 0 ≤ (pc : Int) + o) (hp : ((pc : Int) + o).toNat = pc') (r : own_Go P b pc' L S pcE LE SE) : own_Go P b pc L S pcE LE SE := by
  intro tb _ e below T target m c h hx hy hP k; exact XS.goto h hx rfl rfl (hb hy hd) ho hp (r tb e below T target m c h hx hy hP k)
theorem own_iinc {j : Nat} {cst : Int} {x v : Int32} {pc2 : Nat} (hd : decode b pc = .ok (.iinc j cst, 3)) (hpc : pc + 3 = pc2) (hl : L[j]? = some (.val (.int x))) (hv : x + Int32.ofInt cst = v) (hl' : storeLocals L j (.int v) = some L') (r : own_Go P b pc2 L' S pcE LE SE) : own_Go P b pc L S pcE LE SE := by
  intro tb _ e below T target m c h hx hy hP k; subst hpc; subst hv; exact XS.iinc h hx rfl (hb hy hd) hl hl' (r tb e below T target m c h hx hy hP k)
theorem own_ldc {i : Nat} {v : Int32} {pc2 : Nat} (hd : decode b pc = .ok (.ldc i, 2)) (hpc : pc + 2 = pc2) (hk : (i, Value.int v) ∈ P) (r : own_Go P b pc2 L (.int v :: S) pcE LE SE) : own_Go P b pc L S pcE LE SE := by
  intro tb _ e below T target m c h hx hy hP k; subst hpc; exact (hP _ hk (mkF m pc L S) target rfl).1 ⟨_, rfl⟩ (hb hy hd) (r tb e below T target m c h hx hy hP k)
theorem own_ldcW {i : Nat} {v : Int32} {pc2 : Nat} (hd : decode b pc = .ok (.ldc_w i, 3)) (hpc : pc + 3 = pc2) (hk : (i, Value.int v) ∈ P) (r : own_Go P b pc2 L (.int v :: S) pcE LE SE) : own_Go P b pc L S pcE LE SE := by
  intro tb _ e below T target m c h hx hy hP k; subst hpc; exact (hP _ hk (mkF m pc L S) target rfl).2.1 ⟨_, rfl⟩ (hb hy hd) (r tb e below T target m c h hx hy hP k)
theorem own_ldc2L {i : Nat} {v : Int64} {pc2 : Nat} (hd : decode b pc = .ok (.ldc2_w i, 3)) (hpc : pc + 3 = pc2) (hk : (i, Value.long v) ∈ P) (r : own_Go P b pc2 L (.long v :: S) pcE LE SE) : own_Go P b pc L S pcE LE SE := by
  intro tb _ e below T target m c h hx hy hP k; subst hpc; exact (hP _ hk (mkF m pc L S) target rfl).2.2 (Or.inl ⟨_, rfl⟩) (hb hy hd) (r tb e below T target m c h hx hy hP k)
theorem own_ldc2D {i : Nat} {v : UInt64} {pc2 : Nat} (hd : decode b pc = .ok (.ldc2_w i, 3)) (hpc : pc + 3 = pc2) (hk : (i, Value.double v) ∈ P) (r : own_Go P b pc2 L (.double v :: S) pcE LE SE) : own_Go P b pc L S pcE LE SE := by
  intro tb _ e below T target m c h hx hy hP k; subst hpc; exact (hP _ hk (mkF m pc L S) target rfl).2.2 (Or.inr ⟨_, rfl⟩) (hb hy hd) (r tb e below T target m c h hx hy hP k)
end OwnWalk
section OwnPool
open Jvm.Free Jvm.Stand
variable {p : Program} {l : Launch} {e : Env} {R : Room} {s : State} {m : MethodId} {args : Array Value} {below : List Frame} {meth : Method} {c : Code} {T : State} {locs : List Loc} {cells slots : Nat} {Z : State} {a0 : Array Value}
def own_Word (own : String) (i : Nat) : Value → Jvm.Cond → Prop
  | .int v, w => w = .constant own i v
  | .long v, w => w = .constantLong own i v
  | .double v, w => w = .constantDouble own i v
  | _, _ => False
theorem own_pool1 (X : Stand p l e R s m args below meth c T locs cells slots) (hx : p.tables.exec = Jvm.exec) (hZ : Z.Warmed39 s.vm) {own : String} (hown : s.vm.findClass own = some m.cls) {i : Nat} {v : Value} {w : Jvm.Cond} (hv : own_Word own i v w) (hw : w.before a0 Z = true) : own_Ldc p.tables e below T m c i v := by
  intro g target hg
  cases v with
  | int v =>
    cases (show w = .constant own i v from hv)
    exact ⟨fun _ hd k => X.ldcInt hx hown (mvT hZ hw) hg hd target k, fun _ hd k => X.ldcwInt hx hown (mvT hZ hw) hg hd target k, fun h => (by rcases h with ⟨_, h⟩ | ⟨_, h⟩ <;> cases h)⟩
  | long v =>
    cases (show w = .constantLong own i v from hv)
    exact ⟨fun h => (by obtain ⟨_, h⟩ := h; cases h), fun h => (by obtain ⟨_, h⟩ := h; cases h), fun _ hd k => X.ldc2Long hx hown (mvT hZ hw) hg hd target k⟩
  | double v =>
    cases (show w = .constantDouble own i v from hv)
    exact ⟨fun h => (by obtain ⟨_, h⟩ := h; cases h), fun h => (by obtain ⟨_, h⟩ := h; cases h), fun _ hd k => X.ldc2DoubleC hx hown (mvT hZ hw) hg hd target k⟩
  | _ => exact absurd hv (fun h => h)
theorem own_pool (X : Stand p l e R s m args below meth c T locs cells slots) (hx : p.tables.exec = Jvm.exec) (hZ : Z.Warmed39 s.vm) {own : String} (hown : s.vm.findClass own = some m.cls) {ws : List Jvm.Cond} (hw : ∀ d ∈ ws, d.before a0 Z = true) {P : List (Nat × Value)} (hP : ∀ q ∈ P, ∃ w ∈ ws, own_Word own q.1 q.2 w) : ∀ q ∈ P, own_Ldc p.tables e below T m c q.1 q.2 := by
  intro q hq
  obtain ⟨w, h1, h2⟩ := hP q hq
  exact own_pool1 X hx hZ hown h2 (hw w h1)
end OwnPool
/-! the call layer: a method that leaves the heap as it was, and its call -/
section OwnCall
open Jvm.Free Jvm.Stand Jvm.LawKit Jvm.RoadKit
variable {p : Program} {l : Launch} {e : Env} {R : Room} {s : State} {m : MethodId} {args : Array Value} {below : List Frame} {meth : Method} {c : Code} {T : State} {locs : List Loc} {cells slots : Nat} {Z : State} {a0 : Array Value} {h : Heap}
abbrev own_room (fr lo : Nat) : Room := { frames := fr, cells := 0, slots := 0, locals := lo }
def own_Pure (l : Launch) (Z : State) (y : MethodName) (bytes : ByteArray) (maxL : Nat) (ret : Option FieldType) (fr lo : Nat) (as' : Array Value) (h : Heap) (v : Option Value) : Prop :=
  MetFree l y (head1 [Jvm.Cond.code y bytes maxL ret] (own_room fr lo)) (fun a U => a = as' ∧ Z.Warmed39 U.vm ∧ U.heap = h) (fun _ _ _ _ _ => True) (fun _ U o U' => ∃ w L, o = .returned w ∧ (w = v ∧ L = [] ∧ U'.heap = h) ∧ FrameEnd U o U' L (own_room fr lo).cells (own_room fr lo).slots)
def own_Ret (i : Instr) (t : FieldType) (w : Value) : Prop := narrow t w = w ∧ ((i = .ireturn ∧ (t = .int ∨ t = .boolean ∨ t = .byte ∨ t = .char ∨ t = .short) ∧ ∃ z, w = .int z) ∨ (i = .lreturn ∧ t = .long ∧ ∃ z, w = .long z) ∨ (i = .dreturn ∧ t = .double ∧ ∃ z, w = .double z) ∨ (i = .freturn ∧ t = .float ∧ ∃ z, w = .float z) ∨ (i = .areturn ∧ t.isReference = true ∧ w.isRef = true))
theorem own_retD (x : UInt64) : own_Ret .dreturn .double (.double x) := ⟨rfl, Or.inr (Or.inr (Or.inl ⟨rfl, rfl, x, rfl⟩))⟩
theorem own_retI (x : Int32) : own_Ret .ireturn .int (.int x) := ⟨rfl, Or.inl ⟨rfl, Or.inl rfl, x, rfl⟩⟩
theorem own_retJ (x : Int64) : own_Ret .lreturn .long (.long x) := ⟨rfl, Or.inr (Or.inl ⟨rfl, rfl, x, rfl⟩)⟩
theorem own_retZ {x : Int32} (hx : x = 0 ∨ x = 1) : own_Ret .ireturn .boolean (.int x) := ⟨by rcases hx with rfl | rfl <;> rfl, Or.inl ⟨rfl, Or.inr (Or.inl rfl), x, rfl⟩⟩
theorem own_pure_go {y : MethodName} {bytes : ByteArray} {maxL : Nat} {t : FieldType} {as' : Array Value} {P : List (Nat × Value)} {L0 LR : Array Slot} {SR : List Value} {pcR : Nat} {val : Value} {i : Instr} {ws : List Jvm.Cond} (hpl : plainName y.cls = true) (hw : ∀ d ∈ ws, d.before a0 Z = true) (hP : ∀ q ∈ P, ∃ w ∈ ws, own_Word y.cls q.1 q.2 w)
    (hef : ∀ m, entryFrame m as' maxL = mkF m 0 L0 []) (body : own_Go P bytes 0 L0 [] pcR LR (val :: SR)) (hd : decode bytes pcR = .ok (i, 1)) (hr : own_Ret i t val) : own_Pure l Z y bytes maxL (some t) 0 0 as' h (some val) := by
  refine MetFree.of_bodySF (plainFor_of_name hpl) hisR ?_
  intro p e s m args below meth c s₁ Bd hml0 hPP hK
  obtain ⟨rfl, hZ, hh⟩ := hPP
  have hx := Bd.exec
  have hby := Bd.bytes
  have hown : s.vm.findClass y.cls = some m.cls := findClass_of_methodNamed Bd.named
  have X0 : Stand p l e (own_room 0 0) s m _ below meth c s₁ [] 0 0 := Stand.of_body Bd
  have e0 : s₁.heap = h := by rw [← hh, Bd.state]; rfl
  obtain ⟨fs, hr', hrun, hended, hW, hsame⟩ := X0.leave (v := some val) (fun h => by rw [Bd.returns] at h; cases h)
  refine ⟨_, _, castTop (hef m) (body p.tables e below s₁ _ m c X0.here hx hby (own_pool X0 hx hZ hown hw hP) (retOut X0 hx Bd.returns hr.1 hr.2 (hb hby hd) hr')), hrun, hended, _, _, rfl, ⟨rfl, rfl, ?_⟩, ⟨_, rfl⟩, hW, hsame⟩
  exact e0
theorem own_callP (X : Stand p l e R s m args below meth c T locs cells slots) (hx : p.tables.exec = Jvm.exec) (hZ : Z.Warmed39 s.vm) {own : String} {index : Nat} {y : MethodName} {bytes : ByteArray} {maxL : Nat} {ret : Option FieldType} (hown : s.vm.findClass own = some m.cls)
    (w1 : (Jvm.Cond.methodLink own index y).before a0 Z = true) (w2 : (Jvm.Cond.static y).before a0 Z = true) (w3 : (Jvm.Cond.initialized y.cls).before a0 Z = true) (w4 : (Jvm.Cond.code y bytes maxL ret).before a0 Z = true) (hy : y.cls ≠ "java/lang/invoke/MethodHandle" ∧ y.cls ≠ "java/lang/invoke/VarHandle")
    (eT : T.heap = h) {fr lo W : Nat} {argsL rest : List Value} {v : Option Value} (hM : own_Pure l Z y bytes maxL ret fr lo argsL.toArray h v) (hf : fr + 1 ≤ R.frames) (hl : W + (maxL + 11) + lo ≤ R.locals) (hc : cells ≤ R.cells) (hs : slots ≤ R.slots)
    {g : JFrame} (hg : g.method = m) (hsize : g.locals.size = c.maxLocals) (hlen : ∀ sig, parseMethodDescriptor y.desc = some sig → argsL.length = sig.parameters.length) (hst : g.stack = argsL.reverse ++ rest) (hW : 2 * g.monitorRoom + (rest.map fun v => v.category).sum ≤ W) (hd : decode c.code g.pc = .ok (.invokestatic index, 3)) :
    ∃ T', Stand p l e R s m args below meth c T' locs cells slots ∧ T'.heap = h ∧ ∀ target, Steps p.tables e below (T'.setTop { g with pc := g.pc + 3, stack := v.toList ++ rest }) target → Steps p.tables e below (T.setTop g) target := by
  obtain ⟨v', vm1, ⟨T2, L2, k2, n2⟩, -, X2, ⟨Lc, hQ, l2, y2, z2⟩, st⟩ := Jvm.LawKit.callS X hx hown (mvT hZ w1) (mvT hZ w2) (mvT hZ w3) (mvT hZ w4) hy (backOf (W := W) (rm := own_room fr lo) (Q := fun w H L => w = v ∧ L = [] ∧ H = h) hM hZ w4 w3 hf hl) hg hsize hlen hst hW hd (fun _ _ => ⟨rfl, eT, hc, hs⟩)
  dsimp only [Pt.U, Pt.locs, Pt.cells, Pt.slots] at X2 l2 y2 z2 st hQ
  obtain ⟨rfl, rfl, e2⟩ := hQ
  subst l2 y2 z2
  rw [List.append_nil] at X2
  exact ⟨T2, X2, e2, st⟩
end OwnCall
/-! the heap layer: own_Hp says what the cells made since the start hold; one rule a step -/
section OwnHeap
open Jvm.Free Jvm.Stand Jvm.LawKit Jvm.RoadKit
abbrev own_Cel := (String × List (String × String × String × Value)) ⊕ (FieldType × List Value)
abbrev own_O (C : String) (fs : List (String × String × String × Value)) : own_Cel := Sum.inl (C, fs)
abbrev own_A (ty : FieldType) (vs : List Value) : own_Cel := Sum.inr (ty, vs)
/-- what is known of an array's class -/
def own_AC (Z : State) (h : Heap) (a : Addr) (c : Cell) (ty : FieldType) : Prop :=
  match ty with
  | .object C => Ovr Z c.cls C
  | .array t => OvrA Z c.cls t (FieldType.array t).toString ∧ Exa Z h a ("[" ++ (FieldType.array t).toString)
  | t => Exa Z h a ("[" ++ t.toString)
theorem own_AC_map {Z : State} {h h' : Heap} {a : Addr} {c c' : Cell} {ty : FieldType} (hc : c'.cls = c.cls) (hE : ∀ C, Exa Z h a C → Exa Z h' a C) (H : own_AC Z h a c ty) : own_AC Z h' a c' ty := by
  cases ty <;> simp only [own_AC, hc] at H ⊢ <;> first | exact H | exact hE _ H | exact ⟨H.1, hE _ H.2⟩
def own_Is (Z : State) (a0 : Array Value) (h : Heap) (a : Addr) (q : own_Cel) : Prop :=
  match q with
  | .inl (C, fs) => Exa Z h a C ∧ (∀ f ∈ fs, Fld Z h a f.1 f.2.1 f.2.2.1 f.2.2.2 ∧ Laid Z a0 C f.1 f.2.1 f.2.2.1 ∧ ∃ t, parseFieldDescriptor f.2.2.1 = some t) ∧ (fs.map fun f => f.2.1).Nodup
  | .inr (ty, vs) => ∃ c : Cell, Arr Z h a c ty ∧ c.slots.toList = vs ∧ own_AC Z h a c ty
def own_Hp (Z : State) (a0 : Array Value) (hb h : Heap) (cs : List (Addr × own_Cel)) : Prop := Ext hb h ∧ (∀ q ∈ cs, own_Is Z a0 h q.1 q.2 ∧ hb.size ≤ q.1) ∧ (cs.map Prod.fst).Nodup
section Facts
variable {Z : State} {a0 : Array Value} {hb h h' : Heap} {cs : List (Addr × own_Cel)} {a b : Addr} {q : own_Cel}
theorem own_Is_lt (H : own_Is Z a0 h a q) : a < h.size := by
  match q, H with
  | .inl (C, fs), H => exact H.1.lt
  | .inr (ty, vs), ⟨c, A, _⟩ => exact A.lt
theorem own_Is_ext (E : Ext h h') (H : own_Is Z a0 h a q) : own_Is Z a0 h' a q := by
  match q, H with
  | .inl (C, fs), H => exact ⟨H.1.ext E, fun f hf => ⟨(H.2.1 f hf).1.ext E, (H.2.1 f hf).2⟩, H.2.2⟩
  | .inr (ty, vs), ⟨c, A, e⟩ => exact ⟨c, A.ext E, e.1, own_AC_map rfl (fun C F => F.ext E) e.2⟩
theorem own_Is_wr {sl : Nat} {v : Value} (W : Wr h h' b sl v) (hne : a ≠ b) (H : own_Is Z a0 h a q) : own_Is Z a0 h' a q := by
  match q, H with
  | .inl (C, fs), H => exact ⟨H.1.wr W, fun f hf => ⟨(H.2.1 f hf).1.other W (Or.inl hne), (H.2.1 f hf).2⟩, H.2.2⟩
  | .inr (ty, vs), ⟨c, A, e⟩ => exact ⟨c, A.other W hne, e.1, own_AC_map rfl (fun C F => F.wr W) e.2⟩
theorem own_ext_trans {h1 h2 h3 : Heap} (E : Ext h1 h2) (F : Ext h2 h3) : Ext h1 h3 := ⟨Nat.le_trans E.1 F.1, fun a c q => F.2 a c (E.2 a c q)⟩
theorem own_ext_refl (h1 : Heap) : Ext h1 h1 := ⟨Nat.le_refl _, fun _ _ q => q⟩
theorem own_ext_wr {sl : Nat} {v : Value} (E : Ext hb h) (W : Wr h h' b sl v) (hn : hb.size ≤ b) : Ext hb h' := by
  refine ⟨by rw [W.size]; exact E.1, fun x c q => ?_⟩
  have hx : x < hb.size := (Array.getElem?_eq_some_iff.mp q).1
  obtain ⟨cb, h1, -, -, -, h5, -⟩ := wr_at W (E.2 x c q)
  rw [h1, h5 (Nat.ne_of_lt (Nat.lt_of_lt_of_le hx hn))]
theorem own_Hp_start (Z : State) (a0 : Array Value) (hb : Heap) : own_Hp Z a0 hb hb [] := ⟨own_ext_refl hb, fun q hq => absurd hq List.not_mem_nil, List.nodup_nil⟩
theorem own_Hp_new (H : own_Hp Z a0 hb h cs) (E : Ext h h') (N : own_Is Z a0 h' h.size q) : own_Hp Z a0 hb h' (cs ++ [(h.size, q)]) := by
  refine ⟨own_ext_trans H.1 E, fun p hp => ?_, ?_⟩
  · rcases List.mem_append.mp hp with hp | hp
    · exact ⟨own_Is_ext E (H.2.1 p hp).1, (H.2.1 p hp).2⟩
    · cases List.mem_singleton.mp hp
      exact ⟨N, H.1.1⟩
  · rw [List.map_append, List.nodup_append]
    refine ⟨H.2.2, by simp, fun x hx y hy => ?_⟩
    simp only [List.map_cons, List.map_nil, List.mem_singleton] at hy
    subst hy
    obtain ⟨p, hp, rfl⟩ := List.mem_map.mp hx
    exact Nat.ne_of_lt (own_Is_lt (H.2.1 p hp).1)
theorem own_Hp_ext (H : own_Hp Z a0 hb h cs) (E : Ext h h') : own_Hp Z a0 hb h' cs :=
  ⟨own_ext_trans H.1 E, fun p hp => ⟨own_Is_ext E (H.2.1 p hp).1, (H.2.1 p hp).2⟩, H.2.2⟩
theorem own_get (H : own_Hp Z a0 hb h cs) {i : Nat} (hi : cs[i]? = some (a, q)) : own_Is Z a0 h a q ∧ hb.size ≤ a := H.2.1 _ (List.mem_of_getElem? hi)
theorem own_ne (H : own_Hp Z a0 hb h cs) {i j : Nat} {q' : own_Cel} (hi : cs[i]? = some (a, q)) (hj : cs[j]? = some (b, q')) (hne : i ≠ j) : a ≠ b := by
  rintro rfl
  have hN := H.2.2
  obtain ⟨hi1, hi2⟩ := List.getElem?_eq_some_iff.mp hi
  obtain ⟨hj1, hj2⟩ := List.getElem?_eq_some_iff.mp hj
  have := (List.getElem_inj (xs := cs.map Prod.fst) (i := i) (j := j) (h₀ := by simpa using hi1) (h₁ := by simpa using hj1) hN).mp (by simp [hi2, hj2])
  exact hne this
theorem own_Hp_set (H : own_Hp Z a0 hb h cs) {i : Nat} {q' : own_Cel} {sl : Nat} {v : Value} (hi : cs[i]? = some (a, q)) (W : Wr h h' a sl v) (N : own_Is Z a0 h' a q') : own_Hp Z a0 hb h' (cs.set i (a, q')) := by
  obtain ⟨hi1, hi2⟩ := List.getElem?_eq_some_iff.mp hi
  refine ⟨own_ext_wr H.1 W (own_get H hi).2, fun p hp => ?_, ?_⟩
  · obtain ⟨j, hj, rfl⟩ := List.mem_iff_getElem.mp hp
    rw [List.getElem_set]
    split
    · exact ⟨N, (own_get H hi).2⟩
    · rename_i hne
      have hj' : j < cs.length := by simpa using hj
      have hm := H.2.1 cs[j] (List.getElem_mem hj')
      refine ⟨own_Is_wr W ?_ hm.1, hm.2⟩
      intro e
      exact own_ne H hi (j := j) (b := cs[j].1) (q' := cs[j].2) (List.getElem?_eq_getElem hj') hne e.symm
  · rw [List.map_set, show (a, q').fst = (cs.map Prod.fst)[i]'(by simpa using hi1) by simp [hi2], List.set_getElem_self]
    exact H.2.2
theorem own_Is_fld {C : String} {fs : List (String × String × String × Value)} {j : Nat} {O n d : String} {old v : Value} (H : own_Is Z a0 h a (own_O C fs)) (hj : fs[j]? = some (O, n, d, old)) (W : Wr h h' a (RoadKit.slotOf Z O n d) v) : own_Is Z a0 h' a (own_O C (fs.set j (O, n, d, v))) := by
  obtain ⟨h1, h2, h3⟩ := H
  obtain ⟨hj1, hj2⟩ := List.getElem?_eq_some_iff.mp hj
  refine ⟨h1.wr W, fun f hf => ?_, ?_⟩
  · obtain ⟨k, hk, rfl⟩ := List.mem_iff_getElem.mp hf
    have hm := h2 _ (List.mem_of_getElem? hj)
    rw [List.getElem_set]
    split
    · exact ⟨hm.1.same W, hm.2⟩
    · rename_i hne
      have hk' : k < fs.length := by simpa using hk
      have hk2 := h2 fs[k] (List.getElem_mem hk')
      obtain ⟨t, ht⟩ := hk2.2.2
      obtain ⟨t', ht'⟩ := hm.2.2
      refine ⟨hk2.1.other W (Or.inr (slot_ne hk2.2.1 hm.2.1 (fun e => ?_) ht ht')), hk2.2⟩
      have := (List.getElem_inj (xs := fs.map fun f => f.2.1) (i := k) (j := j) (h₀ := by simpa using hk') (h₁ := by simpa using hj1) h3).mp (by simp [hj2]; exact e)
      exact hne this.symm
  · rw [List.map_set, show (O, n, d, v).2.1 = (fs.map fun f => f.2.1)[j]'(by simpa using hj1) by simp [hj2], List.set_getElem_self]
    exact h3
theorem own_Is_elt {ty : FieldType} {vs : List Value} {j : Nat} {v : Value} (H : own_Is Z a0 h a (own_A ty vs)) (W : Wr h h' a j v) : own_Is Z a0 h' a (own_A ty (vs.set j v)) := by
  obtain ⟨c, A, e⟩ := H
  refine ⟨_, A.same W, ?_, own_AC_map rfl (fun C F => F.wr W) e.2⟩
  rw [← e.1]
  simp [Cell.setSlot]
end Facts
def own_S (p : Program) (l : Launch) (e : Env) (R : Room) (s : State) (m : MethodId) (args : Array Value) (below : List Frame) (meth : Method) (c : Code) (Z : State) (a0 : Array Value) (hb : Heap) (T : State) (cs : List (Addr × own_Cel)) (k n : Nat) : Prop :=
  ∃ locs, Stand p l e R s m args below meth c T locs k n ∧ Fr hb.size locs ∧ own_Hp Z a0 hb T.heap cs
section Rules
variable {p : Program} {l : Launch} {e : Env} {R : Room} {s : State} {m : MethodId} {args : Array Value} {below : List Frame} {meth : Method} {c : Code} {T : State} {Z : State} {a0 : Array Value} {hb : Heap} {cs : List (Addr × own_Cel)} {k n : Nat}
theorem own_go (H : own_S p l e R s m args below meth c Z a0 hb T cs k n) (hx : p.tables.exec = Jvm.exec) (hZ : Z.Warmed39 s.vm) {own : String} (hown : s.vm.findClass own = some m.cls) {bytes : ByteArray} (hby : c.code = bytes) {ws : List Jvm.Cond} (hw : ∀ d ∈ ws, d.before a0 Z = true) {P : List (Nat × Value)} (hP : ∀ q ∈ P, ∃ w ∈ ws, own_Word own q.1 q.2 w)
    {pc pc' : Nat} {L L' : Array Slot} {S S' : List Value} (r : own_Go P bytes pc L S pc' L' S') : ∀ target, Steps p.tables e below (T.setTop (mkF m pc' L' S')) target → Steps p.tables e below (T.setTop (mkF m pc L S)) target := by
  obtain ⟨locs, X, -, -⟩ := H
  exact fun target q => r p.tables e below T target m c X.here hx hby (own_pool X hx hZ hown hw hP) q
theorem own_newO (H : own_S p l e R s m args below meth c Z a0 hb T cs k n) (hx : p.tables.exec = Jvm.exec) (hZ : Z.Warmed39 s.vm) {own C : String} {index nn : Nat} (hown : s.vm.findClass own = some m.cls) (w : (Jvm.Cond.classLink own index C).before a0 Z = true) (wi : (Jvm.Cond.instantiable C nn).before a0 Z = true) (wz : (Jvm.Cond.initialized C).before a0 Z = true)
    (fs : List (String × String × String × Value)) (hfs : ∀ f ∈ fs, Laid Z a0 C f.1 f.2.1 f.2.2.1 ∧ ∃ t, parseFieldDescriptor f.2.2.1 = some t ∧ defaultValue t = f.2.2.2) (hN : (fs.map fun f => f.2.1).Nodup)
    {g : JFrame} (hg : g.method = m) (hd : decode c.code g.pc = .ok (.new index, 3)) (hc : k + 1 ≤ R.cells) (hl : n + nn ≤ R.slots) :
    ∃ T' x, own_S p l e R s m args below meth c Z a0 hb T' (cs ++ [(x, own_O C fs)]) (k + 1) (n + nn) ∧ ∀ target, Steps p.tables e below (T'.setTop { g with pc := g.pc + 3, stack := .ref x :: g.stack }) target → Steps p.tables e below (T.setTop g) target := by
  obtain ⟨locs, X, N, hH⟩ := H
  obtain ⟨T', h', X', e', E, A, D, -, st⟩ := newO X hx hZ hown w wi wz rfl hg hd hc hl
  refine ⟨T', T.heap.size, ⟨locs, X', N, ?_⟩, st⟩
  rw [e']
  refine own_Hp_new hH E ⟨A, fun f hf => ?_, hN⟩
  obtain ⟨h1, t, h2, h3⟩ := hfs f hf
  exact ⟨h3 ▸ D h1 h2, h1, t, h2⟩
theorem own_newA (H : own_S p l e R s m args below meth c Z a0 hb T cs k n) (hx : p.tables.exec = Jvm.exec) (hZ : Z.Warmed39 s.vm) {aty : ArrayType} (w : (Jvm.Cond.arrayClass (newarray.typeOf aty)).before a0 Z = true) {g : JFrame} (hg : g.method = m) (hd : decode c.code g.pc = .ok (.newarray aty, 2)) {z : Int32} {rest : List Value} (hs : g.stack = .int z :: rest)
    (hn : ¬ z < 0) {cap : Nat} (hcap : z.toNatClampNeg ≤ cap) (hb8 : cap * 8 ≤ 536870912) (hc : k + 1 ≤ R.cells) (hl : n + cap ≤ R.slots) :
    ∃ T' x, own_S p l e R s m args below meth c Z a0 hb T' (cs ++ [(x, own_A (newarray.typeOf aty) (List.replicate z.toNatClampNeg (defaultValue (newarray.typeOf aty))))]) (k + 1) (n + cap) ∧ ∀ target, Steps p.tables e below (T'.setTop { g with pc := g.pc + 2, stack := .ref x :: rest }) target → Steps p.tables e below (T.setTop g) target := by
  obtain ⟨locs, X, N, hH⟩ := H
  obtain ⟨T', h', cA, X', e', E, A, F, st⟩ := newPE X hx hZ w rfl hg hd hs hn hcap hb8 hc hl rfl
  refine ⟨T', T.heap.size, ⟨locs, X', N, ?_⟩, st⟩
  rw [e']
  exact own_Hp_new hH E ⟨_, A, by simp [newA], by cases aty <;> exact F⟩
theorem own_getF (H : own_S p l e R s m args below meth c Z a0 hb T cs k n) (hx : p.tables.exec = Jvm.exec) (hZ : Z.Warmed39 s.vm) {own O nm d : String} {index : Nat} (hown : s.vm.findClass own = some m.cls) (w : (Jvm.Cond.fieldLink own index O nm d).before a0 Z = true)
    {x : Addr} {C : String} {fs : List (String × String × String × Value)} {v : Value} (i j : Nat) (hi : cs[i]? = some (x, own_O C fs)) (hj : fs[j]? = some (O, nm, d, v)) {g : JFrame} (hg : g.method = m) {rest : List Value} (hs : g.stack = .ref x :: rest) (hd : decode c.code g.pc = .ok (.getfield index, 3)) :
    ∃ T', own_S p l e R s m args below meth c Z a0 hb T' cs k n ∧ ∀ target, Steps p.tables e below (T'.setTop { g with pc := g.pc + 3, stack := v :: rest }) target → Steps p.tables e below (T.setTop g) target := by
  obtain ⟨locs, X, N, hH⟩ := H
  have F := ((own_get hH hi).1.2.1 _ (List.mem_of_getElem? hj)).1
  obtain ⟨T', X', e', st⟩ := getF X hx hZ hown (host := "") (Or.inl w) Via.refl rfl F hg hs hd
  exact ⟨T', ⟨locs, X', N, e' ▸ hH⟩, st⟩
theorem own_putF (H : own_S p l e R s m args below meth c Z a0 hb T cs k n) (hx : p.tables.exec = Jvm.exec) (hZ : Z.Warmed39 s.vm) {own O nm d : String} {index kk : Nat} {ty : FieldType} (hown : s.vm.findClass own = some m.cls) (w : (Jvm.Cond.fieldLink own index O nm d).before a0 Z = true)
    {x : Addr} {C : String} {fs : List (String × String × String × Value)} {v old : Value} (i j : Nat) (hi : cs[i]? = some (x, own_O C fs)) (hj : fs[j]? = some (O, nm, d, old)) (L : (Jvm.Cond.lays C O nm d).before a0 Z = true ∨ ((Jvm.Cond.laysFinal C O nm d).before a0 Z = true ∧ own = O ∧ meth.name = "<init>")) (wi : (Jvm.Cond.instantiable C kk).before a0 Z = true)
    (hty : parseFieldDescriptor d = some ty) (hn : narrow ty v = v) (hf : fits ty v = true) {g : JFrame} (hg : g.method = m) {rest : List Value} (hs : g.stack = v :: .ref x :: rest) (hd : decode c.code g.pc = .ok (.putfield index, 3)) :
    ∃ T', own_S p l e R s m args below meth c Z a0 hb T' (cs.set i (x, own_O C (fs.set j (O, nm, d, v)))) k n ∧ ∀ target, Steps p.tables e below (T'.setTop { g with pc := g.pc + 3, stack := rest }) target → Steps p.tables e below (T.setTop g) target := by
  obtain ⟨locs, X, N, hH⟩ := H
  have I := own_get hH hi
  have F := (I.1.2.1 _ (List.mem_of_getElem? hj)).1
  obtain ⟨T', h', X', e', W, st⟩ := putF X hx hZ hown (host := "") (Or.inl w) Via.refl rfl F I.1.1 L wi hty hn hf hg hs hd
  refine ⟨T', ⟨_, X', Fr.snoc X' N I.2, ?_⟩, st⟩
  rw [e']
  exact own_Hp_set hH hi W (own_Is_fld I.1 hj W)
theorem own_initO (H : own_S p l e R s m args below meth c Z a0 hb T cs k n) (hx : p.tables.exec = Jvm.exec) (hZ : Z.Warmed39 s.vm) {own : String} {idx : Nat} (hown : s.vm.findClass own = some m.cls) (w1 : (Jvm.Cond.methodLink own idx Lib.objectInit).before a0 Z = true) (w2 : (Jvm.Cond.instanceMethod Lib.objectInit).before a0 Z = true)
    (w3 : (Jvm.Cond.code Lib.objectInit ⟨#[0xb1]⟩ 1 none).before a0 Z = true) {g : JFrame} (hg : g.method = m) (hsize : g.locals.size = c.maxLocals) {a : Addr} {rest : List Value} (hs : g.stack = .ref a :: rest) (hd : decode c.code g.pc = .ok (.invokespecial idx, 3))
    (hf : 1 ≤ R.frames) {W : Nat} (hW : 2 * g.monitorRoom + (rest.map fun v => v.category).sum ≤ W) (hl : W + 12 ≤ R.locals) :
    ∃ T', own_S p l e R s m args below meth c Z a0 hb T' cs k n ∧ ∀ target, Steps p.tables e below (T'.setTop { g with pc := g.pc + 3, stack := rest }) target → Steps p.tables e below (T.setTop g) target := by
  obtain ⟨locs, X, N, hH⟩ := H
  obtain ⟨T', X', e', st⟩ := initO X hx hZ hown w1 w2 w3 rfl hg hsize hs hd hf hW hl
  exact ⟨T', ⟨locs, X', N, e' ▸ hH⟩, st⟩
theorem own_idx {j : Int32} {vs : List Value} {cl : Cell} (e : cl.slots.toList = vs) (h0 : 0 ≤ j.toInt) (h1 : j.toInt < vs.length) : ¬ (j < 0 ∨ cl.slots.size ≤ j.toNatClampNeg) := by
  have hl : cl.slots.size = vs.length := by rw [← e]; simp
  rintro (q | q)
  · rw [Int32.lt_iff_toInt_lt] at q; rw [show (0 : Int32).toInt = 0 from rfl] at q; omega
  · have : j.toNatClampNeg = j.toInt.toNat := rfl
    omega
theorem own_at_idx {j : Int32} {vs : List Value} {cl : Cell} {v : Value} (e : cl.slots.toList = vs) {i : Nat} (hi : j.toInt = i) (hv : vs[i]? = some v) : cl.slots[j.toNatClampNeg]? = some v := by
  have : j.toNatClampNeg = i := by show j.toInt.toNat = i; omega
  rw [this, ← Array.getElem?_toList, e]; exact hv
theorem own_daload (H : own_S p l e R s m args below meth c Z a0 hb T cs k n) (hx : p.tables.exec = Jvm.exec) (hZ : Z.Warmed39 s.vm) {x : Addr} {vs : List Value} {j : Int32} {v : Value} (i jj : Nat) (hi : cs[i]? = some (x, own_A .double vs)) (hj : j.toInt = jj) (hv : vs[jj]? = some v)
    {g : JFrame} (hg : g.method = m) {rest : List Value} (hs : g.stack = .int j :: .ref x :: rest) (hd : decode c.code g.pc = .ok (.daload, 1)) :
    ∀ target, Steps p.tables e below (T.setTop { g with pc := g.pc + 1, stack := v :: rest }) target → Steps p.tables e below (T.setTop g) target := by
  obtain ⟨locs, X, N, hH⟩ := H
  obtain ⟨cl, A, hc, -⟩ := (own_get hH hi).1
  have hlt : jj < vs.length := (List.getElem?_eq_some_iff.mp hv).1
  exact fun target q => X.daload hx A.1 (State.isArrayOf_alike hZ.alike A.2.1) A.2.2 (own_idx hc (by omega) (by omega)) (own_at_idx hc hj hv) hg hs hd target q
theorem own_iaload (H : own_S p l e R s m args below meth c Z a0 hb T cs k n) (hx : p.tables.exec = Jvm.exec) (hZ : Z.Warmed39 s.vm) {x : Addr} {vs : List Value} {j : Int32} {v : Value} (i jj : Nat) (hi : cs[i]? = some (x, own_A .int vs)) (hj : j.toInt = jj) (hv : vs[jj]? = some v)
    {g : JFrame} (hg : g.method = m) {rest : List Value} (hs : g.stack = .int j :: .ref x :: rest) (hd : decode c.code g.pc = .ok (.iaload, 1)) :
    ∀ target, Steps p.tables e below (T.setTop { g with pc := g.pc + 1, stack := v :: rest }) target → Steps p.tables e below (T.setTop g) target := by
  obtain ⟨locs, X, N, hH⟩ := H
  obtain ⟨cl, A, hc, -⟩ := (own_get hH hi).1
  have hlt : jj < vs.length := (List.getElem?_eq_some_iff.mp hv).1
  exact fun target q => X.iaload hx A.1 (State.isArrayOf_alike hZ.alike A.2.1) A.2.2 (own_idx hc (by omega) (by omega)) (own_at_idx hc hj hv) hg hs hd target q
theorem own_laload (H : own_S p l e R s m args below meth c Z a0 hb T cs k n) (hx : p.tables.exec = Jvm.exec) (hZ : Z.Warmed39 s.vm) {x : Addr} {vs : List Value} {j : Int32} {v : Value} (i jj : Nat) (hi : cs[i]? = some (x, own_A .long vs)) (hj : j.toInt = jj) (hv : vs[jj]? = some v)
    {g : JFrame} (hg : g.method = m) {rest : List Value} (hs : g.stack = .int j :: .ref x :: rest) (hd : decode c.code g.pc = .ok (.laload, 1)) :
    ∀ target, Steps p.tables e below (T.setTop { g with pc := g.pc + 1, stack := v :: rest }) target → Steps p.tables e below (T.setTop g) target := by
  obtain ⟨locs, X, N, hH⟩ := H
  obtain ⟨cl, A, hc, -⟩ := (own_get hH hi).1
  have hlt : jj < vs.length := (List.getElem?_eq_some_iff.mp hv).1
  exact fun target q => X.laload hx A.1 (State.isArrayOf_alike hZ.alike A.2.1) A.2.2 (own_idx hc (by omega) (by omega)) (own_at_idx hc hj hv) hg hs hd target q
theorem own_aaload (H : own_S p l e R s m args below meth c Z a0 hb T cs k n) (hx : p.tables.exec = Jvm.exec) (hZ : Z.Warmed39 s.vm) {x : Addr} {ty : FieldType} {vs : List Value} {j : Int32} {v : Value} (i jj : Nat) (hi : cs[i]? = some (x, own_A ty vs)) (hty : ty.isReference = true) (hj : j.toInt = jj) (hv : vs[jj]? = some v)
    {g : JFrame} (hg : g.method = m) {rest : List Value} (hs : g.stack = .int j :: .ref x :: rest) (hd : decode c.code g.pc = .ok (.aaload, 1)) :
    ∀ target, Steps p.tables e below (T.setTop { g with pc := g.pc + 1, stack := v :: rest }) target → Steps p.tables e below (T.setTop g) target := by
  obtain ⟨locs, X, N, hH⟩ := H
  obtain ⟨cl, A, hc, -⟩ := (own_get hH hi).1
  have hlt : jj < vs.length := (List.getElem?_eq_some_iff.mp hv).1
  exact fun target q => X.aaload hx A.1 (State.isArrayOf_alike hZ.alike A.2.1) hty A.2.2 (own_idx hc (by omega) (by omega)) (own_at_idx hc hj hv) hg hs hd target q
theorem own_arrlen (H : own_S p l e R s m args below meth c Z a0 hb T cs k n) (hx : p.tables.exec = Jvm.exec) (hZ : Z.Warmed39 s.vm) {x : Addr} {ty : FieldType} {vs : List Value} (i : Nat) (hi : cs[i]? = some (x, own_A ty vs)) {z : Int32} (hz : vs.length.toInt32 = z)
    {g : JFrame} (hg : g.method = m) {rest : List Value} (hs : g.stack = .ref x :: rest) (hd : decode c.code g.pc = .ok (.arraylength, 1)) :
    ∀ target, Steps p.tables e below (T.setTop { g with pc := g.pc + 1, stack := .int z :: rest }) target → Steps p.tables e below (T.setTop g) target := by
  obtain ⟨locs, X, N, hH⟩ := H
  obtain ⟨cl, A, hc, -⟩ := (own_get hH hi).1
  have hl : cl.slots.size = vs.length := by rw [← hc]; simp
  refine fun target q => X.arraylength hx A.1 (State.isArrayOf_alike hZ.alike A.2.1) hg hs hd target ?_
  rw [hl, hz]; exact q
theorem own_dastore (H : own_S p l e R s m args below meth c Z a0 hb T cs k n) (hx : p.tables.exec = Jvm.exec) (hZ : Z.Warmed39 s.vm) {x : Addr} {vs : List Value} {j : Int32} {v : UInt64} (i jj : Nat) (hi : cs[i]? = some (x, own_A .double vs)) (hj : j.toInt = jj) (hlt : jj < vs.length)
    {g : JFrame} (hg : g.method = m) {rest : List Value} (hs : g.stack = .double v :: .int j :: .ref x :: rest) (hd : decode c.code g.pc = .ok (.dastore, 1)) :
    ∃ T', own_S p l e R s m args below meth c Z a0 hb T' (cs.set i (x, own_A .double (vs.set jj (.double v)))) k n ∧ ∀ target, Steps p.tables e below (T'.setTop { g with pc := g.pc + 1, stack := rest }) target → Steps p.tables e below (T.setTop g) target := by
  obtain ⟨locs, X, N, hH⟩ := H
  have I := own_get hH hi
  obtain ⟨cl, A, hc, -⟩ := I.1
  obtain ⟨T', h', X', e', W, st⟩ := stD X hx hZ rfl A (own_idx hc (by omega) (by omega)) hg hs hd
  have hjj : j.toNatClampNeg = jj := by show j.toInt.toNat = jj; omega
  rw [hjj] at W
  refine ⟨T', ⟨_, X', Fr.snoc X' N I.2, ?_⟩, st⟩
  rw [e']
  exact own_Hp_set hH hi W (own_Is_elt I.1 W)
theorem own_iastore (H : own_S p l e R s m args below meth c Z a0 hb T cs k n) (hx : p.tables.exec = Jvm.exec) (hZ : Z.Warmed39 s.vm) {x : Addr} {vs : List Value} {j : Int32} {v : Int32} (i jj : Nat) (hi : cs[i]? = some (x, own_A .int vs)) (hj : j.toInt = jj) (hlt : jj < vs.length)
    {g : JFrame} (hg : g.method = m) {rest : List Value} (hs : g.stack = .int v :: .int j :: .ref x :: rest) (hd : decode c.code g.pc = .ok (.iastore, 1)) :
    ∃ T', own_S p l e R s m args below meth c Z a0 hb T' (cs.set i (x, own_A .int (vs.set jj (.int v)))) k n ∧ ∀ target, Steps p.tables e below (T'.setTop { g with pc := g.pc + 1, stack := rest }) target → Steps p.tables e below (T.setTop g) target := by
  obtain ⟨locs, X, N, hH⟩ := H
  have I := own_get hH hi
  obtain ⟨cl, A, hc, -⟩ := I.1
  obtain ⟨T', h', X', e', W, st⟩ := stI X hx hZ rfl A (own_idx hc (by omega) (by omega)) hg hs hd
  have hjj : j.toNatClampNeg = jj := by show j.toInt.toNat = jj; omega
  rw [hjj] at W
  refine ⟨T', ⟨_, X', Fr.snoc X' N I.2, ?_⟩, st⟩
  rw [e']
  exact own_Hp_set hH hi W (own_Is_elt I.1 W)
theorem own_lastore (H : own_S p l e R s m args below meth c Z a0 hb T cs k n) (hx : p.tables.exec = Jvm.exec) (hZ : Z.Warmed39 s.vm) {x : Addr} {vs : List Value} {j : Int32} {v : Int64} (i jj : Nat) (hi : cs[i]? = some (x, own_A .long vs)) (hj : j.toInt = jj) (hlt : jj < vs.length)
    {g : JFrame} (hg : g.method = m) {rest : List Value} (hs : g.stack = .long v :: .int j :: .ref x :: rest) (hd : decode c.code g.pc = .ok (.lastore, 1)) :
    ∃ T', own_S p l e R s m args below meth c Z a0 hb T' (cs.set i (x, own_A .long (vs.set jj (.long v)))) k n ∧ ∀ target, Steps p.tables e below (T'.setTop { g with pc := g.pc + 1, stack := rest }) target → Steps p.tables e below (T.setTop g) target := by
  obtain ⟨locs, X, N, hH⟩ := H
  have I := own_get hH hi
  obtain ⟨cl, A, hc, -⟩ := I.1
  obtain ⟨T', h', X', e', W, st⟩ := stJ X hx hZ rfl A (own_idx hc (by omega) (by omega)) hg hs hd
  have hjj : j.toNatClampNeg = jj := by show j.toInt.toNat = jj; omega
  rw [hjj] at W
  refine ⟨T', ⟨_, X', Fr.snoc X' N I.2, ?_⟩, st⟩
  rw [e']
  exact own_Hp_set hH hi W (own_Is_elt I.1 W)
theorem own_aastore (H : own_S p l e R s m args below meth c Z a0 hb T cs k n) (hx : p.tables.exec = Jvm.exec) (hZ : Z.Warmed39 s.vm) {x y : Addr} {t ty : FieldType} {vs ws : List Value} {j : Int32} (i iy jj : Nat) (hi : cs[i]? = some (x, own_A (.array t) vs)) (hy : cs[iy]? = some (y, own_A ty ws)) (hE : ∀ h c, own_AC Z h y c ty → Exa Z h y (FieldType.array t).toString) (hj : j.toInt = jj) (hlt : jj < vs.length)
    {g : JFrame} (hg : g.method = m) {rest : List Value} (hs : g.stack = .ref y :: .int j :: .ref x :: rest) (hd : decode c.code g.pc = .ok (.aastore, 1)) :
    ∃ T', own_S p l e R s m args below meth c Z a0 hb T' (cs.set i (x, own_A (.array t) (vs.set jj (.ref y)))) k n ∧ ∀ target, Steps p.tables e below (T'.setTop { g with pc := g.pc + 1, stack := rest }) target → Steps p.tables e below (T.setTop g) target := by
  obtain ⟨locs, X, N, hH⟩ := H
  have I := own_get hH hi
  obtain ⟨cl, A, hc, hO⟩ := I.1
  obtain ⟨cy, Ay, -, hF⟩ := (own_get hH hy).1
  obtain ⟨T', h', X', e', W, st⟩ := stR X hx hZ rfl A (own_idx hc (by omega) (by omega)) rfl (Sto.ofVA A rfl hO.1 (Ins.self (hE _ _ hF))) hg hs hd
  have hjj : j.toNatClampNeg = jj := by show j.toInt.toNat = jj; omega
  rw [hjj] at W
  refine ⟨T', ⟨_, X', Fr.snoc X' N I.2, ?_⟩, st⟩
  rw [e']
  exact own_Hp_set hH hi W (own_Is_elt I.1 W)
theorem own_newRA (H : own_S p l e R s m args below meth c Z a0 hb T cs k n) (hx : p.tables.exec = Jvm.exec) (hZ : Z.Warmed39 s.vm) {own C : String} {ty : FieldType} {index : Nat} (hown : s.vm.findClass own = some m.cls) (hC : (FieldType.array ty).toString = C) (w1 : (Jvm.Cond.classLink own index C).before a0 Z = true) (w2 : (Jvm.Cond.arrayOver (.array ty)).before a0 Z = true)
    {g : JFrame} (hg : g.method = m) (hd : decode c.code g.pc = .ok (.anewarray index, 3)) {z : Int32} {rest : List Value} (hs : g.stack = .int z :: rest) (hn : ¬ z < 0) {cap : Nat} (hcap : z.toNatClampNeg ≤ cap) (hb8 : cap * 8 ≤ 536870912) (hc : k + 1 ≤ R.cells) (hl : n + cap ≤ R.slots) :
    ∃ T' x, own_S p l e R s m args below meth c Z a0 hb T' (cs ++ [(x, own_A (.array ty) (List.replicate z.toNatClampNeg .null))]) (k + 1) (n + cap) ∧ ∀ target, Steps p.tables e below (T'.setTop { g with pc := g.pc + 3, stack := .ref x :: rest }) target → Steps p.tables e below (T.setTop g) target := by
  obtain ⟨locs, X, N, hH⟩ := H
  obtain ⟨T', h', cA, X', e', E, A, F, O, st⟩ := newRA X hx hZ hown hC w1 w2 rfl hg hd hs hn hcap hb8 hc hl rfl
  subst hC
  refine ⟨T', T.heap.size, ⟨locs, X', N, ?_⟩, st⟩
  rw [e']
  exact own_Hp_new hH E ⟨_, A, by simp [newA, defaultValue], O, F⟩
theorem own_cloneA (H : own_S p l e R s m args below meth c Z a0 hb T cs k n) (hx : p.tables.exec = Jvm.exec) (hZ : Z.Warmed39 s.vm) {own ad : String} {index : Nat} (hown : s.vm.findClass own = some m.cls)
    (w1 : (Jvm.Cond.methodLink own index ⟨ad, "clone", "()Ljava/lang/Object;"⟩).before a0 Z = true) (w2 : (Jvm.Cond.sameMethod ad "java/lang/Object" "clone" "()Ljava/lang/Object;").before a0 Z = true) (w3 : (Jvm.Cond.native ⟨"java/lang/Object", "clone", "()Ljava/lang/Object;"⟩).before a0 Z = true)
    (w4 : (Jvm.Cond.instanceMethod ⟨"java/lang/Object", "clone", "()Ljava/lang/Object;"⟩).before a0 Z = true) (w5 : (Jvm.Cond.selects ad ⟨ad, "clone", "()Ljava/lang/Object;"⟩ ⟨"java/lang/Object", "clone", "()Ljava/lang/Object;"⟩).before a0 Z = true) (w6 : (Jvm.Cond.castable ad "java/lang/Cloneable").before a0 Z = true)
    {x : Addr} {ty : FieldType} {vs : List Value} (i : Nat) (hi : cs[i]? = some (x, own_A ty vs)) (hE : ∀ h x c, own_AC Z h x c ty → Exa Z h x ad) (hA : ∀ h x c, Exa Z h x ad → own_AC Z h x c ty) (hfit : ∀ v ∈ vs, fits ty v = true)
    {g : JFrame} (hg : g.method = m) (hsize : g.locals.size = c.maxLocals) {rest : List Value} (hs : g.stack = .ref x :: rest) (hd : decode c.code g.pc = .ok (.invokevirtual index, 3))
    (hf : 1 ≤ R.frames) {W cap : Nat} (hW : 2 * g.monitorRoom + (rest.map fun v => v.category).sum ≤ W) (hl : W + 14 ≤ R.locals) (hcap : vs.length ≤ cap) (hc : k + 1 ≤ R.cells) (hsl : n + cap ≤ R.slots) :
    ∃ T' y, own_S p l e R s m args below meth c Z a0 hb T' (cs ++ [(y, own_A ty vs)]) (k + 1) (n + cap) ∧ ∀ target, Steps p.tables e below (T'.setTop { g with pc := g.pc + 3, stack := .ref y :: rest }) target → Steps p.tables e below (T.setTop g) target := by
  obtain ⟨locs, X, N, hH⟩ := H
  obtain ⟨cl, A, hc', hF⟩ := (own_get hH hi).1
  have FC : FitC Z cl := fitC_of A fun i hi v hv => hfit v (by rw [← hc']; rw [← Array.getElem?_toList] at hv; exact List.mem_of_getElem? hv)
  have hlen : cl.slots.size = vs.length := by rw [← hc']; simp
  obtain ⟨T', h', X', e', E, A', F', st⟩ := cloneA X hx hZ hown w1 w2 w3 w4 w5 w6 rfl A (hE _ _ _ hF) FC hg hsize hs hd hf hW hl (by rw [hlen]; exact hcap) hc hsl
  refine ⟨T', T.heap.size, ⟨locs, X', N, ?_⟩, st⟩
  rw [e']
  exact own_Hp_new hH E ⟨_, A', hc', hA _ _ _ F'⟩
theorem own_castA (H : own_S p l e R s m args below meth c Z a0 hb T cs k n) (hx : p.tables.exec = Jvm.exec) (hZ : Z.Warmed39 s.vm) {own ad : String} {index : Nat} (hown : s.vm.findClass own = some m.cls) (w : (Jvm.Cond.classLink own index ad).before a0 Z = true)
    {x : Addr} {ty : FieldType} {vs : List Value} (i : Nat) (hi : cs[i]? = some (x, own_A ty vs)) (hE : ∀ h x c, own_AC Z h x c ty → Exa Z h x ad) {g : JFrame} (hg : g.method = m) {rest : List Value} (hs : g.stack = .ref x :: rest) (hd : decode c.code g.pc = .ok (.checkcast index, 3)) :
    ∃ T', own_S p l e R s m args below meth c Z a0 hb T' cs k n ∧ ∀ target, Steps p.tables e below (T'.setTop { g with pc := g.pc + 3 }) target → Steps p.tables e below (T.setTop g) target := by
  obtain ⟨locs, X, N, hH⟩ := H
  obtain ⟨cl, A, -, hF⟩ := (own_get hH hi).1
  obtain ⟨T', X', e', st⟩ := castY X hx hZ hown w rfl (Ins.self (hE _ _ _ hF)) hg hs hd
  exact ⟨T', ⟨locs, X', N, e' ▸ hH⟩, st⟩
theorem own_castO (H : own_S p l e R s m args below meth c Z a0 hb T cs k n) (hx : p.tables.exec = Jvm.exec) (hZ : Z.Warmed39 s.vm) {own C : String} {index : Nat} (hown : s.vm.findClass own = some m.cls) (w : (Jvm.Cond.classLink own index C).before a0 Z = true)
    {x : Addr} {fs : List (String × String × String × Value)} (i : Nat) (hi : cs[i]? = some (x, own_O C fs)) {g : JFrame} (hg : g.method = m) {rest : List Value} (hs : g.stack = .ref x :: rest) (hd : decode c.code g.pc = .ok (.checkcast index, 3)) :
    ∃ T', own_S p l e R s m args below meth c Z a0 hb T' cs k n ∧ ∀ target, Steps p.tables e below (T'.setTop { g with pc := g.pc + 3 }) target → Steps p.tables e below (T.setTop g) target := by
  obtain ⟨locs, X, N, hH⟩ := H
  obtain ⟨T', X', e', st⟩ := castY X hx hZ hown w rfl (Ins.self (own_get hH hi).1.1) hg hs hd
  exact ⟨T', ⟨locs, X', N, e' ▸ hH⟩, st⟩
theorem own_instO (H : own_S p l e R s m args below meth c Z a0 hb T cs k n) (hx : p.tables.exec = Jvm.exec) (hZ : Z.Warmed39 s.vm) {own C : String} {index : Nat} (hown : s.vm.findClass own = some m.cls) (w : (Jvm.Cond.classLink own index C).before a0 Z = true)
    {x : Addr} {fs : List (String × String × String × Value)} (i : Nat) (hi : cs[i]? = some (x, own_O C fs)) {g : JFrame} (hg : g.method = m) {rest : List Value} (hs : g.stack = .ref x :: rest) (hd : decode c.code g.pc = .ok (.instanceof index, 3)) :
    ∃ T', own_S p l e R s m args below meth c Z a0 hb T' cs k n ∧ ∀ target, Steps p.tables e below (T'.setTop { g with pc := g.pc + 3, stack := .int 1 :: rest }) target → Steps p.tables e below (T.setTop g) target := by
  obtain ⟨locs, X, N, hH⟩ := H
  obtain ⟨T', X', e', st⟩ := instY X hx hZ hown w rfl (Ins.self (own_get hH hi).1.1) hg hs hd
  exact ⟨T', ⟨locs, X', N, e' ▸ hH⟩, st⟩
end Rules
/-- what a method does: from the cells cs and these arguments it returns a value and leaves cells of which Q holds -/
def own_Met (l : Launch) (Z : State) (a0 : Array Value) (hb : Heap) (y : MethodName) (bytes : ByteArray) (maxL : Nat) (ret : Option FieldType) (ws : List Jvm.Cond) (rm : Room) (as' : Array Value) (cs : List (Addr × own_Cel)) (Q : Option Value → List (Addr × own_Cel) → Prop) : Prop :=
  ∀ h, own_Hp Z a0 hb h cs → MetFree l y (head1 (Jvm.Cond.code y bytes maxL ret :: ws) rm) (fun a U => a = as' ∧ Z.Warmed39 U.vm ∧ U.heap = h) (fun _ _ _ _ _ => True) (fun _ U o U' => ∃ w L, o = .returned w ∧ (Fr hb.size L ∧ ∃ cs', Q w cs' ∧ own_Hp Z a0 hb U'.heap cs') ∧ FrameEnd U o U' L rm.cells rm.slots)
/-- from the frame g the method runs to its return -/
def own_Ends (p : Program) (l : Launch) (e : Env) (R : Room) (s : State) (m : MethodId) (args : Array Value) (below : List Frame) (meth : Method) (c : Code) (Z : State) (a0 : Array Value) (hb : Heap) (bytes : ByteArray) (ret : Option FieldType) (Q : Option Value → List (Addr × own_Cel) → Prop) (T : State) (g : JFrame) : Prop :=
  ∃ T' cs' k n pc L, own_S p l e R s m args below meth c Z a0 hb T' cs' k n ∧ k ≤ R.cells ∧ n ≤ R.slots ∧
    ((ret = none ∧ Q none cs' ∧ decode bytes pc = .ok (.return_, 1) ∧ ∀ target, Steps p.tables e below (T'.setTop (mkF m pc L [])) target → Steps p.tables e below (T.setTop g) target) ∨
     (∃ t v S i, ret = some t ∧ Q (some v) cs' ∧ decode bytes pc = .ok (i, 1) ∧ own_Ret i t v ∧ ∀ target, Steps p.tables e below (T'.setTop (mkF m pc L (v :: S))) target → Steps p.tables e below (T.setTop g) target))
theorem own_met_of {l : Launch} {Z : State} {a0 : Array Value} {hb : Heap} {y : MethodName} {bytes : ByteArray} {maxL : Nat} {ret : Option FieldType} {ws : List Jvm.Cond} {rm : Room} {as' : Array Value} {cs : List (Addr × own_Cel)} {Q : Option Value → List (Addr × own_Cel) → Prop} {L0 : Array Slot} (hpl : plainFor y = true) (hef : ∀ m, entryFrame m as' maxL = mkF m 0 L0 [])
    (body : ∀ (p : Program) (e : Env) (s : State) (m : MethodId) (below : List Frame) (meth : Method) (c : Code) (T : State), p.tables.exec = Jvm.exec → Z.Warmed39 s.vm → s.vm.findClass y.cls = some m.cls → c.code = bytes → c.maxLocals = maxL → meth.name = y.name → own_S p l e rm s m as' below meth c Z a0 hb T cs 0 0 → own_Ends p l e rm s m as' below meth c Z a0 hb bytes ret Q T (mkF m 0 L0 [])) :
    own_Met l Z a0 hb y bytes maxL ret ws rm as' cs Q := by
  intro h hH
  refine MetFree.of_bodySF hpl hisR ?_
  intro p e s m args below meth c s₁ Bd hml0 hPP hK
  obtain ⟨rfl, hZ, hh⟩ := hPP
  have hown : s.vm.findClass y.cls = some m.cls := findClass_of_methodNamed Bd.named
  have hnm := (name_of_methodNamed Bd.named Bd.method).1
  have X0 : Stand p l e rm s m _ below meth c s₁ [] 0 0 := Stand.of_body Bd
  have e0 : s₁.heap = h := by rw [← hh, Bd.state]; rfl
  obtain ⟨T', cs', k, n, pc, L, ⟨locs, X, N, hH'⟩, hk, hn, hE⟩ := body p e s m below meth c s₁ Bd.exec hZ hown Bd.bytes hml0 hnm ⟨[], X0, Fr.nil _, e0 ▸ hH⟩
  rcases hE with ⟨rfl, hQ, hd, st⟩ | ⟨t, v, S, i, rfl, hQ, hd, hr, st⟩
  · obtain ⟨fs, hr', hrun, hended, hW, hsame⟩ := X.leave (v := none) (fun _ => rfl)
    exact ⟨_, _, castTop (hef m) (st _ (X.returnOut Bd.exec Bd.returns (Jvm.hb Bd.bytes hd) hr')), hrun, hended, _, _, rfl, ⟨N, cs', hQ, hH'⟩, ⟨_, rfl⟩, hW, hsame.mono hk hn⟩
  · obtain ⟨fs, hr', hrun, hended, hW, hsame⟩ := X.leave (v := some v) (fun h => by rw [Bd.returns] at h; cases h)
    exact ⟨_, _, castTop (hef m) (st _ (retOut X Bd.exec Bd.returns hr.1 hr.2 (Jvm.hb Bd.bytes hd) hr')), hrun, hended, _, _, rfl, ⟨N, cs', hQ, hH'⟩, ⟨_, rfl⟩, hW, hsame.mono hk hn⟩
section Calls
variable {p : Program} {l : Launch} {e : Env} {R : Room} {s : State} {m : MethodId} {args : Array Value} {below : List Frame} {meth : Method} {c : Code} {T : State} {Z : State} {a0 : Array Value} {hb : Heap} {cs : List (Addr × own_Cel)} {k n : Nat}
theorem own_callS (H : own_S p l e R s m args below meth c Z a0 hb T cs k n) (hx : p.tables.exec = Jvm.exec) (hZ : Z.Warmed39 s.vm) {own : String} {index : Nat} {y : MethodName} {bytes : ByteArray} {maxL : Nat} {ret : Option FieldType} (hown : s.vm.findClass own = some m.cls)
    (w1 : (Jvm.Cond.methodLink own index y).before a0 Z = true) (w2 : (Jvm.Cond.static y).before a0 Z = true) (w3 : (Jvm.Cond.initialized y.cls).before a0 Z = true) (w4 : (Jvm.Cond.code y bytes maxL ret).before a0 Z = true) (hy : y.cls ≠ "java/lang/invoke/MethodHandle" ∧ y.cls ≠ "java/lang/invoke/VarHandle")
    {rm : Room} {W : Nat} {argsL rest : List Value} {Q : Option Value → List (Addr × own_Cel) → Prop} (hM : own_Met l Z a0 hb y bytes maxL ret [] rm argsL.toArray cs Q) (hf : rm.frames + 1 ≤ R.frames) (hl : W + (maxL + 11) + rm.locals ≤ R.locals) (hc : k + rm.cells ≤ R.cells) (hs : n + rm.slots ≤ R.slots)
    {g : JFrame} (hg : g.method = m) (hsize : g.locals.size = c.maxLocals) (hlen : ∀ sig, parseMethodDescriptor y.desc = some sig → argsL.length = sig.parameters.length) (hst : g.stack = argsL.reverse ++ rest) (hW : 2 * g.monitorRoom + (rest.map fun v => v.category).sum ≤ W) (hd : decode c.code g.pc = .ok (.invokestatic index, 3)) :
    ∃ T' v cs', Q v cs' ∧ own_S p l e R s m args below meth c Z a0 hb T' cs' (k + rm.cells) (n + rm.slots) ∧ ∀ target, Steps p.tables e below (T'.setTop { g with pc := g.pc + 3, stack := v.toList ++ rest }) target → Steps p.tables e below (T.setTop g) target := by
  obtain ⟨locs, X, N, hH⟩ := H
  obtain ⟨v', vm1, ⟨T2, L2, k2, n2⟩, -, X2, ⟨Lc, hQ, l2, y2, z2⟩, st⟩ := Jvm.LawKit.callS X hx hown (mvT hZ w1) (mvT hZ w2) (mvT hZ w3) (mvT hZ w4) hy (backOf (W := W) (rm := rm) (Q := fun w H L => Fr hb.size L ∧ ∃ cs', Q w cs' ∧ own_Hp Z a0 hb H cs') (hM _ hH) hZ w4 w3 hf hl) hg hsize hlen hst hW hd (fun _ _ => ⟨rfl, rfl, hc, hs⟩)
  dsimp only [Pt.U, Pt.locs, Pt.cells, Pt.slots] at X2 l2 y2 z2 st hQ
  obtain ⟨N2, cs', hQ', hH'⟩ := hQ
  subst l2 y2 z2
  exact ⟨T2, v', cs', hQ', ⟨_, X2, N.app N2, hH'⟩, st⟩
theorem own_callI (H : own_S p l e R s m args below meth c Z a0 hb T cs k n) (hx : p.tables.exec = Jvm.exec) (hZ : Z.Warmed39 s.vm) {own : String} {index : Nat} {y : MethodName} {bytes : ByteArray} {maxL : Nat} (hown : s.vm.findClass own = some m.cls) (hy1 : y.name = "<init>")
    (w1 : (Jvm.Cond.methodLink own index y).before a0 Z = true) (w2 : (Jvm.Cond.instanceMethod y).before a0 Z = true) (w3 : (Jvm.Cond.initialized y.cls).before a0 Z = true) (w4 : (Jvm.Cond.code y bytes maxL none).before a0 Z = true) (hy : y.cls ≠ "java/lang/invoke/MethodHandle" ∧ y.cls ≠ "java/lang/invoke/VarHandle")
    {rm : Room} {W : Nat} {x : Addr} {argsL rest : List Value} {Q : Option Value → List (Addr × own_Cel) → Prop} (hM : own_Met l Z a0 hb y bytes maxL none [] rm (Value.ref x :: argsL).toArray cs Q) (hf : rm.frames + 1 ≤ R.frames) (hl : W + (maxL + 11) + rm.locals ≤ R.locals) (hc : k + rm.cells ≤ R.cells) (hs : n + rm.slots ≤ R.slots)
    {g : JFrame} (hg : g.method = m) (hsize : g.locals.size = c.maxLocals) (hlen : ∀ sig, parseMethodDescriptor y.desc = some sig → argsL.length = sig.parameters.length) (hst : g.stack = argsL.reverse ++ .ref x :: rest) (hW : 2 * g.monitorRoom + (rest.map fun v => v.category).sum ≤ W) (hd : decode c.code g.pc = .ok (.invokespecial index, 3)) :
    ∃ T' v cs', Q v cs' ∧ own_S p l e R s m args below meth c Z a0 hb T' cs' (k + rm.cells) (n + rm.slots) ∧ ∀ target, Steps p.tables e below (T'.setTop { g with pc := g.pc + 3, stack := v.toList ++ rest }) target → Steps p.tables e below (T.setTop g) target := by
  obtain ⟨locs, X, N, hH⟩ := H
  obtain ⟨v', vm1, ⟨T2, L2, k2, n2⟩, -, X2, ⟨Lc, hQ, l2, y2, z2⟩, st⟩ := X.specialBack hx hy1 hown (mvT hZ w1) (mvT hZ w2) (mvT hZ w4) hy (backOf (W := W) (rm := rm) (Q := fun w H L => Fr hb.size L ∧ ∃ cs', Q w cs' ∧ own_Hp Z a0 hb H cs') (hM _ hH) hZ w4 w3 hf hl) hg hsize (Steps.refl _) hlen hst hW hd (fun _ _ => ⟨rfl, rfl, hc, hs⟩)
  dsimp only [Pt.U, Pt.locs, Pt.cells, Pt.slots] at X2 l2 y2 z2 st hQ
  obtain ⟨N2, cs', hQ', hH'⟩ := hQ
  subst l2 y2 z2
  exact ⟨T2, v', cs', hQ', ⟨_, X2, N.app N2, hH'⟩, fun target q => st.trans q⟩
theorem own_callV (H : own_S p l e R s m args below meth c Z a0 hb T cs k n) (hx : p.tables.exec = Jvm.exec) (hZ : Z.Warmed39 s.vm) {own C : String} {index : Nat} {y : MethodName} {bytes : ByteArray} {maxL : Nat} {ret : Option FieldType} (hown : s.vm.findClass own = some m.cls)
    (w1 : (Jvm.Cond.methodLink own index y).before a0 Z = true) (w2 : (Jvm.Cond.declares y).before a0 Z = true) (w5 : (Jvm.Cond.selects C y y).before a0 Z = true) (w6 : (Jvm.Cond.instanceMethod y).before a0 Z = true) (w3 : (Jvm.Cond.initialized y.cls).before a0 Z = true) (w4 : (Jvm.Cond.code y bytes maxL ret).before a0 Z = true) (hy : y.cls ≠ "java/lang/invoke/MethodHandle" ∧ y.cls ≠ "java/lang/invoke/VarHandle")
    {rm : Room} {W : Nat} {x : Addr} {fs : List (String × String × String × Value)} (i : Nat) (hi : cs[i]? = some (x, own_O C fs)) {argsL rest : List Value} {Q : Option Value → List (Addr × own_Cel) → Prop} (hM : own_Met l Z a0 hb y bytes maxL ret [] rm (Value.ref x :: argsL).toArray cs Q) (hf : rm.frames + 1 ≤ R.frames) (hl : W + (maxL + 11) + rm.locals ≤ R.locals) (hc : k + rm.cells ≤ R.cells) (hs : n + rm.slots ≤ R.slots)
    {g : JFrame} (hg : g.method = m) (hsize : g.locals.size = c.maxLocals) (hlen : ∀ sig, parseMethodDescriptor y.desc = some sig → argsL.length = sig.parameters.length) (hst : g.stack = argsL.reverse ++ .ref x :: rest) (hW : 2 * g.monitorRoom + (rest.map fun v => v.category).sum ≤ W) (hd : decode c.code g.pc = .ok (.invokevirtual index, 3)) :
    ∃ T' v cs', Q v cs' ∧ own_S p l e R s m args below meth c Z a0 hb T' cs' (k + rm.cells) (n + rm.slots) ∧ ∀ target, Steps p.tables e below (T'.setTop { g with pc := g.pc + 3, stack := v.toList ++ rest }) target → Steps p.tables e below (T.setTop g) target := by
  obtain ⟨locs, X, N, hH⟩ := H
  obtain ⟨cq, kq, qa, qb, qc⟩ := isOf hZ rfl (own_get hH hi).1.1
  obtain ⟨v', vm1, ⟨T2, L2, k2, n2⟩, -, X2, ⟨Lc, hQ, l2, y2, z2⟩, st⟩ := X.virtualBack hx hown (mvT hZ w1) (mvT hZ w2) (notFace_of_selects (args := #[]) (mvT hZ w5)) (mvT hZ w5) (mvT hZ w6) hy (backOf (W := W) (rm := rm) (Q := fun w H L => Fr hb.size L ∧ ∃ cs', Q w cs' ∧ own_Hp Z a0 hb H cs') (hM _ hH) hZ w4 w3 hf hl) qa qc hg hsize (Steps.refl _) hlen hst hW hd (fun _ _ => ⟨rfl, rfl, hc, hs⟩)
  dsimp only [Pt.U, Pt.locs, Pt.cells, Pt.slots] at X2 l2 y2 z2 st hQ
  obtain ⟨N2, cs', hQ', hH'⟩ := hQ
  subst l2 y2 z2
  exact ⟨T2, v', cs', hQ', ⟨_, X2, N.app N2, hH'⟩, fun target q => st.trans q⟩
end Calls
theorem own_ACd {Z : State} {h : Heap} {x : Addr} {c : Cell} : own_AC Z h x c .double ↔ Exa Z h x "[D" := by
  show Exa Z h x ("[" ++ FieldType.double.toString) ↔ _
  rw [show "[" ++ FieldType.double.toString = "[D" from by decide]
end OwnHeap
section OwnHeap2
open Jvm.Free Jvm.Stand Jvm.LawKit Jvm.RoadKit
variable {p : Program} {l : Launch} {e : Env} {R : Room} {s : State} {m : MethodId} {args : Array Value} {below : List Frame} {meth : Method} {c : Code} {T : State} {Z : State} {a0 : Array Value} {hb : Heap} {cs : List (Addr × own_Cel)} {k n : Nat}
/-- a private method, called by invokevirtual -/
theorem own_callPr (H : own_S p l e R s m args below meth c Z a0 hb T cs k n) (hx : p.tables.exec = Jvm.exec) (hZ : Z.Warmed39 s.vm) {own : String} {index nn : Nat} {y : MethodName} {bytes : ByteArray} {maxL : Nat} {ret : Option FieldType} (hown : s.vm.findClass own = some m.cls)
    (w1 : (Jvm.Cond.methodLink own index y).before a0 Z = true) (w2 : (Jvm.Cond.instanceMethod y).before a0 Z = true) (w5 : (Jvm.Cond.privateMethod y).before a0 Z = true) (w6 : (Jvm.Cond.instantiable y.cls nn).before a0 Z = true) (w3 : (Jvm.Cond.initialized y.cls).before a0 Z = true) (w4 : (Jvm.Cond.code y bytes maxL ret).before a0 Z = true) (hy : y.cls ≠ "java/lang/invoke/MethodHandle" ∧ y.cls ≠ "java/lang/invoke/VarHandle")
    {rm : Room} {W : Nat} {x : Addr} {C : String} {fs : List (String × String × String × Value)} (i : Nat) (hi : cs[i]? = some (x, own_O C fs)) {argsL rest : List Value} {Q : Option Value → List (Addr × own_Cel) → Prop} (hM : own_Met l Z a0 hb y bytes maxL ret [] rm (Value.ref x :: argsL).toArray cs Q) (hf : rm.frames + 1 ≤ R.frames) (hl : W + (maxL + 11) + rm.locals ≤ R.locals) (hc : k + rm.cells ≤ R.cells) (hs : n + rm.slots ≤ R.slots)
    {g : JFrame} (hg : g.method = m) (hsize : g.locals.size = c.maxLocals) (hlen : ∀ sig, parseMethodDescriptor y.desc = some sig → argsL.length = sig.parameters.length) (hst : g.stack = argsL.reverse ++ .ref x :: rest) (hW : 2 * g.monitorRoom + (rest.map fun v => v.category).sum ≤ W) (hd : decode c.code g.pc = .ok (.invokevirtual index, 3)) :
    ∃ T' v cs', Q v cs' ∧ own_S p l e R s m args below meth c Z a0 hb T' cs' (k + rm.cells) (n + rm.slots) ∧ ∀ target, Steps p.tables e below (T'.setTop { g with pc := g.pc + 3, stack := v.toList ++ rest }) target → Steps p.tables e below (T.setTop g) target := by
  obtain ⟨locs, X, N, hH⟩ := H
  have hsel : (Jvm.Cond.selects y.cls y y).before a0 Z = true := Jvm.Kit.selects_private hy w6 w5 w2
  obtain ⟨cell, kk, q1, q2, q3, q4, -⟩ := (own_get hH hi).1.1
  obtain ⟨v', vm1, ⟨T2, L2, k2, n2⟩, -, X2, ⟨Lc, hQ, l2, y2, z2⟩, st⟩ := X.privateBack hx hown (mvT hZ w1) (mvT hZ w2) (mvT hZ hsel) (Cond.privateMethod_at (mvP hZ w5 (args := #[]))) (mvT hZ w4) hy (backOf (W := W) (rm := rm) (Q := fun w H L => Fr hb.size L ∧ ∃ cs', Q w cs' ∧ own_Hp Z a0 hb H cs') (hM _ hH) hZ w4 w3 hf hl) hg hsize (Steps.refl _) (a := x) q1 (fun q e => by rw [e] at q4; cases q4) hlen hst hW hd (fun _ _ => ⟨rfl, rfl, hc, hs⟩)
  dsimp only [Pt.U, Pt.locs, Pt.cells, Pt.slots] at X2 l2 y2 z2 st hQ
  obtain ⟨N2, cs', hQ', hH'⟩ := hQ
  subst l2 y2 z2
  exact ⟨T2, v', cs', hQ', ⟨_, X2, N.app N2, hH'⟩, fun target q => st.trans q⟩
/-- Math.abs of a double -/
theorem own_absD (H : own_S p l e R s m args below meth c Z a0 hb T cs k n) (hx : p.tables.exec = Jvm.exec) (hZ : Z.Warmed39 s.vm) {own : String} {index : Nat} (hown : s.vm.findClass own = some m.cls)
    (w1 : (Jvm.Cond.methodLink own index Jvm.Free.Fl.Abs.absDN).before a0 Z = true) (w2 : (Jvm.Cond.static Jvm.Free.Fl.Abs.absDN).before a0 Z = true) (w3 : (Jvm.Cond.initialized "java/lang/Math").before a0 Z = true) (w4 : (Jvm.Cond.code Jvm.Free.Fl.Abs.absDN Jvm.Free.Fl.Abs.absDCode 2 (some .double)).before a0 Z = true)
    {a : UInt64} (ha : Jvm.Free.Fl.NoNaN64 a) {W : Nat} {rest : List Value} (hf : 1 ≤ R.frames) (hl : W + 13 ≤ R.locals) (hc : k ≤ R.cells) (hs : n ≤ R.slots)
    {g : JFrame} (hg : g.method = m) (hsize : g.locals.size = c.maxLocals) (hst : g.stack = .double a :: rest) (hW : 2 * g.monitorRoom + (rest.map fun v => v.category).sum ≤ W) (hd : decode c.code g.pc = .ok (.invokestatic index, 3)) :
    ∃ T', own_S p l e R s m args below meth c Z a0 hb T' cs k n ∧ ∀ target, Steps p.tables e below (T'.setTop { g with pc := g.pc + 3, stack := .double (a &&& 0x7fffffffffffffff) :: rest }) target → Steps p.tables e below (T.setTop g) target := by
  obtain ⟨locs, X, N, hH⟩ := H
  have hpd : parseMethodDescriptor "(D)D" = some ⟨[.double], some .double⟩ := by decide +kernel
  obtain ⟨T', X', e', st⟩ := natS X hx hZ hown w1 w2 w3 w4 (by decide) rfl (F := fun a' => a' = #[.double a] ∧ Jvm.Free.Fl.NoNaN64 a) (fun c4 => Jvm.Free.Fl.Abs.absD_pays (W := W) a c4 hf hl) hg hsize (argsL := [.double a]) (rest := rest) (lenOf hpd rfl) hst hW hd hc hs ⟨rfl, ha⟩ rfl
  exact ⟨T', ⟨locs, X', N, e' ▸ hH⟩, st⟩
end OwnHeap2
section OwnClaim
open Jvm.Free.Fl
def own_K0 : List (Nat × Value) := []
theorem own_K0_ok : ∀ q ∈ own_K0, ∃ w ∈ tables_1, own_Word "com/example/recourse/recourse/network/NodeHeapIsEmptyPinLaw" q.1 q.2 w := by
  intro q hq
  exact absurd hq (List.not_mem_nil)
theorem own_pn0 : plainName "com/example/recourse/recourse/network/NodeHeapIsEmptyPinLaw" = true := by first | (simp [plainName, overriddenIn]; done) | decide +kernel
theorem d1_0 : decode prog_51_method_1_code 0 = .ok (.aload_n 0, 1) := by decide +kernel
theorem d1_1 : decode prog_51_method_1_code 1 = .ok (.invokespecial 1, 3) := by decide +kernel
theorem d1_4 : decode prog_51_method_1_code 4 = .ok (.aload_n 0, 1) := by decide +kernel
theorem d1_5 : decode prog_51_method_1_code 5 = .ok (.bipush 16, 2) := by decide +kernel
theorem d1_7 : decode prog_51_method_1_code 7 = .ok (.iload_n 1, 1) := by decide +kernel
theorem d1_8 : decode prog_51_method_1_code 8 = .ok (.invokestatic 7, 3) := by decide +kernel
theorem d1_11 : decode prog_51_method_1_code 11 = .ok (.newarray .int, 2) := by decide +kernel
theorem d1_13 : decode prog_51_method_1_code 13 = .ok (.putfield 13, 3) := by decide +kernel
theorem d1_16 : decode prog_51_method_1_code 16 = .ok (.aload_n 0, 1) := by decide +kernel
theorem d1_17 : decode prog_51_method_1_code 17 = .ok (.aload_n 0, 1) := by decide +kernel
theorem d1_18 : decode prog_51_method_1_code 18 = .ok (.getfield 13, 3) := by decide +kernel
theorem d1_21 : decode prog_51_method_1_code 21 = .ok (.arraylength, 1) := by decide +kernel
theorem d1_22 : decode prog_51_method_1_code 22 = .ok (.newarray .double, 2) := by decide +kernel
theorem d1_24 : decode prog_51_method_1_code 24 = .ok (.putfield 19, 3) := by decide +kernel
theorem d1_27 : decode prog_51_method_1_code 27 = .ok (.aload_n 0, 1) := by decide +kernel
theorem d1_28 : decode prog_51_method_1_code 28 = .ok (.aload_n 0, 1) := by decide +kernel
theorem d1_29 : decode prog_51_method_1_code 29 = .ok (.getfield 13, 3) := by decide +kernel
theorem d1_32 : decode prog_51_method_1_code 32 = .ok (.arraylength, 1) := by decide +kernel
theorem d1_33 : decode prog_51_method_1_code 33 = .ok (.newarray .double, 2) := by decide +kernel
theorem d1_35 : decode prog_51_method_1_code 35 = .ok (.putfield 23, 3) := by decide +kernel
theorem d1_38 : decode prog_51_method_1_code 38 = .ok (.return_, 1) := by decide +kernel
def own_K1 : List (Nat × Value) := []
theorem own_K1_ok : ∀ q ∈ own_K1, ∃ w ∈ tables_1, own_Word "com/example/recourse/recourse/network/NodeHeap" q.1 q.2 w := by
  intro q hq
  exact absurd hq (List.not_mem_nil)
theorem own_pn1 : plainName "com/example/recourse/recourse/network/NodeHeap" = true := by first | (simp [plainName, overriddenIn]; done) | decide +kernel
theorem d4_0 : decode prog_51_method_2_code 0 = .ok (.aload_n 0, 1) := by decide +kernel
theorem d4_1 : decode prog_51_method_2_code 1 = .ok (.getfield 26, 3) := by decide +kernel
theorem d4_4 : decode prog_51_method_2_code 4 = .ok (.ifCond .ne 7, 3) := by decide +kernel
theorem d4_7 : decode prog_51_method_2_code 7 = .ok (.iconst 1, 1) := by decide +kernel
theorem d4_8 : decode prog_51_method_2_code 8 = .ok (.goto 4, 3) := by decide +kernel
theorem d4_11 : decode prog_51_method_2_code 11 = .ok (.iconst 0, 1) := by decide +kernel
theorem d4_12 : decode prog_51_method_2_code 12 = .ok (.ireturn, 1) := by decide +kernel
def own_K4 : List (Nat × Value) := []
theorem own_K4_ok : ∀ q ∈ own_K4, ∃ w ∈ tables_1, own_Word "com/example/recourse/recourse/network/NodeHeap" q.1 q.2 w := by
  intro q hq
  exact absurd hq (List.not_mem_nil)
theorem own_pn4 : plainName "com/example/recourse/recourse/network/NodeHeap" = true := by first | (simp [plainName, overriddenIn]; done) | decide +kernel
theorem d5_0 : decode prog_51_method_3_code 0 = .ok (.aload_n 0, 1) := by decide +kernel
theorem d5_1 : decode prog_51_method_3_code 1 = .ok (.iload_n 1, 1) := by decide +kernel
theorem d5_2 : decode prog_51_method_3_code 2 = .ok (.dload_n 2, 1) := by decide +kernel
theorem d5_3 : decode prog_51_method_3_code 3 = .ok (.dconst 0, 1) := by decide +kernel
theorem d5_4 : decode prog_51_method_3_code 4 = .ok (.invokevirtual 30, 3) := by decide +kernel
theorem d5_7 : decode prog_51_method_3_code 7 = .ok (.return_, 1) := by decide +kernel
def own_K5 : List (Nat × Value) := []
theorem own_K5_ok : ∀ q ∈ own_K5, ∃ w ∈ tables_1, own_Word "com/example/recourse/recourse/network/NodeHeap" q.1 q.2 w := by
  intro q hq
  exact absurd hq (List.not_mem_nil)
theorem own_pn5 : plainName "com/example/recourse/recourse/network/NodeHeap" = true := by first | (simp [plainName, overriddenIn]; done) | decide +kernel
theorem d6_0 : decode prog_51_method_4_code 0 = .ok (.aload_n 0, 1) := by decide +kernel
theorem d6_1 : decode prog_51_method_4_code 1 = .ok (.getfield 26, 3) := by decide +kernel
theorem d6_4 : decode prog_51_method_4_code 4 = .ok (.aload_n 0, 1) := by decide +kernel
theorem d6_5 : decode prog_51_method_4_code 5 = .ok (.getfield 13, 3) := by decide +kernel
theorem d6_8 : decode prog_51_method_4_code 8 = .ok (.arraylength, 1) := by decide +kernel
theorem d6_9 : decode prog_51_method_4_code 9 = .ok (.if_icmp .ne 54, 3) := by decide +kernel
theorem d6_12 : decode prog_51_method_4_code 12 = .ok (.aload_n 0, 1) := by decide +kernel
theorem d6_13 : decode prog_51_method_4_code 13 = .ok (.aload_n 0, 1) := by decide +kernel
theorem d6_14 : decode prog_51_method_4_code 14 = .ok (.getfield 13, 3) := by decide +kernel
theorem d6_17 : decode prog_51_method_4_code 17 = .ok (.iconst 2, 1) := by decide +kernel
theorem d6_18 : decode prog_51_method_4_code 18 = .ok (.aload_n 0, 1) := by decide +kernel
theorem d6_19 : decode prog_51_method_4_code 19 = .ok (.getfield 26, 3) := by decide +kernel
theorem d6_22 : decode prog_51_method_4_code 22 = .ok (.imul, 1) := by decide +kernel
theorem d6_23 : decode prog_51_method_4_code 23 = .ok (.invokestatic 34, 3) := by decide +kernel
theorem d6_26 : decode prog_51_method_4_code 26 = .ok (.putfield 13, 3) := by decide +kernel
theorem d6_29 : decode prog_51_method_4_code 29 = .ok (.aload_n 0, 1) := by decide +kernel
theorem d6_30 : decode prog_51_method_4_code 30 = .ok (.aload_n 0, 1) := by decide +kernel
theorem d6_31 : decode prog_51_method_4_code 31 = .ok (.getfield 19, 3) := by decide +kernel
theorem d6_34 : decode prog_51_method_4_code 34 = .ok (.iconst 2, 1) := by decide +kernel
theorem d6_35 : decode prog_51_method_4_code 35 = .ok (.aload_n 0, 1) := by decide +kernel
theorem d6_36 : decode prog_51_method_4_code 36 = .ok (.getfield 26, 3) := by decide +kernel
theorem d6_39 : decode prog_51_method_4_code 39 = .ok (.imul, 1) := by decide +kernel
theorem d6_40 : decode prog_51_method_4_code 40 = .ok (.invokestatic 40, 3) := by decide +kernel
theorem d6_43 : decode prog_51_method_4_code 43 = .ok (.putfield 19, 3) := by decide +kernel
theorem d6_46 : decode prog_51_method_4_code 46 = .ok (.aload_n 0, 1) := by decide +kernel
theorem d6_47 : decode prog_51_method_4_code 47 = .ok (.aload_n 0, 1) := by decide +kernel
theorem d6_48 : decode prog_51_method_4_code 48 = .ok (.getfield 23, 3) := by decide +kernel
theorem d6_51 : decode prog_51_method_4_code 51 = .ok (.iconst 2, 1) := by decide +kernel
theorem d6_52 : decode prog_51_method_4_code 52 = .ok (.aload_n 0, 1) := by decide +kernel
theorem d6_53 : decode prog_51_method_4_code 53 = .ok (.getfield 26, 3) := by decide +kernel
theorem d6_56 : decode prog_51_method_4_code 56 = .ok (.imul, 1) := by decide +kernel
theorem d6_57 : decode prog_51_method_4_code 57 = .ok (.invokestatic 40, 3) := by decide +kernel
theorem d6_60 : decode prog_51_method_4_code 60 = .ok (.putfield 23, 3) := by decide +kernel
theorem d6_63 : decode prog_51_method_4_code 63 = .ok (.aload_n 0, 1) := by decide +kernel
theorem d6_64 : decode prog_51_method_4_code 64 = .ok (.dup, 1) := by decide +kernel
theorem d6_65 : decode prog_51_method_4_code 65 = .ok (.getfield 26, 3) := by decide +kernel
theorem d6_68 : decode prog_51_method_4_code 68 = .ok (.dup_x1, 1) := by decide +kernel
theorem d6_69 : decode prog_51_method_4_code 69 = .ok (.iconst 1, 1) := by decide +kernel
theorem d6_70 : decode prog_51_method_4_code 70 = .ok (.iadd, 1) := by decide +kernel
theorem d6_71 : decode prog_51_method_4_code 71 = .ok (.putfield 26, 3) := by decide +kernel
theorem d6_74 : decode prog_51_method_4_code 74 = .ok (.istore 6, 2) := by decide +kernel
theorem d6_76 : decode prog_51_method_4_code 76 = .ok (.iload 6, 2) := by decide +kernel
theorem d6_78 : decode prog_51_method_4_code 78 = .ok (.ifCond .le 52, 3) := by decide +kernel
theorem d6_81 : decode prog_51_method_4_code 81 = .ok (.iload 6, 2) := by decide +kernel
theorem d6_83 : decode prog_51_method_4_code 83 = .ok (.iconst 1, 1) := by decide +kernel
theorem d6_84 : decode prog_51_method_4_code 84 = .ok (.isub, 1) := by decide +kernel
theorem d6_85 : decode prog_51_method_4_code 85 = .ok (.iconst 2, 1) := by decide +kernel
theorem d6_86 : decode prog_51_method_4_code 86 = .ok (.idiv, 1) := by decide +kernel
theorem d6_87 : decode prog_51_method_4_code 87 = .ok (.istore 7, 2) := by decide +kernel
theorem d6_89 : decode prog_51_method_4_code 89 = .ok (.dload_n 2, 1) := by decide +kernel
theorem d6_90 : decode prog_51_method_4_code 90 = .ok (.dload 4, 2) := by decide +kernel
theorem d6_92 : decode prog_51_method_4_code 92 = .ok (.aload_n 0, 1) := by decide +kernel
theorem d6_93 : decode prog_51_method_4_code 93 = .ok (.getfield 19, 3) := by decide +kernel
theorem d6_96 : decode prog_51_method_4_code 96 = .ok (.iload 7, 2) := by decide +kernel
theorem d6_98 : decode prog_51_method_4_code 98 = .ok (.daload, 1) := by decide +kernel
theorem d6_99 : decode prog_51_method_4_code 99 = .ok (.aload_n 0, 1) := by decide +kernel
theorem d6_100 : decode prog_51_method_4_code 100 = .ok (.getfield 23, 3) := by decide +kernel
theorem d6_103 : decode prog_51_method_4_code 103 = .ok (.iload 7, 2) := by decide +kernel
theorem d6_105 : decode prog_51_method_4_code 105 = .ok (.daload, 1) := by decide +kernel
theorem d6_106 : decode prog_51_method_4_code 106 = .ok (.invokestatic 43, 3) := by decide +kernel
theorem d6_109 : decode prog_51_method_4_code 109 = .ok (.ifCond .ne 6, 3) := by decide +kernel
theorem d6_112 : decode prog_51_method_4_code 112 = .ok (.goto 18, 3) := by decide +kernel
theorem d6_115 : decode prog_51_method_4_code 115 = .ok (.aload_n 0, 1) := by decide +kernel
theorem d6_116 : decode prog_51_method_4_code 116 = .ok (.iload 7, 2) := by decide +kernel
theorem d6_118 : decode prog_51_method_4_code 118 = .ok (.iload 6, 2) := by decide +kernel
theorem d6_120 : decode prog_51_method_4_code 120 = .ok (.invokevirtual 49, 3) := by decide +kernel
theorem d6_123 : decode prog_51_method_4_code 123 = .ok (.iload 7, 2) := by decide +kernel
theorem d6_125 : decode prog_51_method_4_code 125 = .ok (.istore 6, 2) := by decide +kernel
theorem d6_127 : decode prog_51_method_4_code 127 = .ok (.goto (-51), 3) := by decide +kernel
theorem d6_130 : decode prog_51_method_4_code 130 = .ok (.aload_n 0, 1) := by decide +kernel
theorem d6_131 : decode prog_51_method_4_code 131 = .ok (.getfield 13, 3) := by decide +kernel
theorem d6_134 : decode prog_51_method_4_code 134 = .ok (.iload 6, 2) := by decide +kernel
theorem d6_136 : decode prog_51_method_4_code 136 = .ok (.iload_n 1, 1) := by decide +kernel
theorem d6_137 : decode prog_51_method_4_code 137 = .ok (.iastore, 1) := by decide +kernel
theorem d6_138 : decode prog_51_method_4_code 138 = .ok (.aload_n 0, 1) := by decide +kernel
theorem d6_139 : decode prog_51_method_4_code 139 = .ok (.getfield 19, 3) := by decide +kernel
theorem d6_142 : decode prog_51_method_4_code 142 = .ok (.iload 6, 2) := by decide +kernel
theorem d6_144 : decode prog_51_method_4_code 144 = .ok (.dload_n 2, 1) := by decide +kernel
theorem d6_145 : decode prog_51_method_4_code 145 = .ok (.dastore, 1) := by decide +kernel
theorem d6_146 : decode prog_51_method_4_code 146 = .ok (.aload_n 0, 1) := by decide +kernel
theorem d6_147 : decode prog_51_method_4_code 147 = .ok (.getfield 23, 3) := by decide +kernel
theorem d6_150 : decode prog_51_method_4_code 150 = .ok (.iload 6, 2) := by decide +kernel
theorem d6_152 : decode prog_51_method_4_code 152 = .ok (.dload 4, 2) := by decide +kernel
theorem d6_154 : decode prog_51_method_4_code 154 = .ok (.dastore, 1) := by decide +kernel
theorem d6_155 : decode prog_51_method_4_code 155 = .ok (.return_, 1) := by decide +kernel
def own_K6 : List (Nat × Value) := []
theorem own_K6_ok : ∀ q ∈ own_K6, ∃ w ∈ tables_1, own_Word "com/example/recourse/recourse/network/NodeHeap" q.1 q.2 w := by
  intro q hq
  exact absurd hq (List.not_mem_nil)
theorem own_pn6 : plainName "com/example/recourse/recourse/network/NodeHeap" = true := by first | (simp [plainName, overriddenIn]; done) | decide +kernel
theorem d7_0 : decode prog_46_method_5_code 0 = .ok (.dload_n 0, 1) := by decide +kernel
theorem d7_1 : decode prog_46_method_5_code 1 = .ok (.dload 4, 2) := by decide +kernel
theorem d7_3 : decode prog_46_method_5_code 3 = .ok (.dcmp .g, 1) := by decide +kernel
theorem d7_4 : decode prog_46_method_5_code 4 = .ok (.ifCond .lt 17, 3) := by decide +kernel
theorem d7_7 : decode prog_46_method_5_code 7 = .ok (.dload_n 0, 1) := by decide +kernel
theorem d7_8 : decode prog_46_method_5_code 8 = .ok (.dload 4, 2) := by decide +kernel
theorem d7_10 : decode prog_46_method_5_code 10 = .ok (.dcmp .l, 1) := by decide +kernel
theorem d7_11 : decode prog_46_method_5_code 11 = .ok (.ifCond .ne 14, 3) := by decide +kernel
theorem d7_14 : decode prog_46_method_5_code 14 = .ok (.dload_n 2, 1) := by decide +kernel
theorem d7_15 : decode prog_46_method_5_code 15 = .ok (.dload 6, 2) := by decide +kernel
theorem d7_17 : decode prog_46_method_5_code 17 = .ok (.dcmp .g, 1) := by decide +kernel
theorem d7_18 : decode prog_46_method_5_code 18 = .ok (.ifCond .ge 7, 3) := by decide +kernel
theorem d7_21 : decode prog_46_method_5_code 21 = .ok (.iconst 1, 1) := by decide +kernel
theorem d7_22 : decode prog_46_method_5_code 22 = .ok (.goto 4, 3) := by decide +kernel
theorem d7_25 : decode prog_46_method_5_code 25 = .ok (.iconst 0, 1) := by decide +kernel
theorem d7_26 : decode prog_46_method_5_code 26 = .ok (.ireturn, 1) := by decide +kernel
def own_K7 : List (Nat × Value) := []
theorem own_K7_ok : ∀ q ∈ own_K7, ∃ w ∈ tables_1, own_Word "com/example/recourse/recourse/network/DoubleDouble" q.1 q.2 w := by
  intro q hq
  exact absurd hq (List.not_mem_nil)
theorem own_pn7 : plainName "com/example/recourse/recourse/network/DoubleDouble" = true := by first | (simp [plainName, overriddenIn]; done) | decide +kernel
theorem d8_0 : decode prog_51_method_7_code 0 = .ok (.aload_n 0, 1) := by decide +kernel
theorem d8_1 : decode prog_51_method_7_code 1 = .ok (.getfield 13, 3) := by decide +kernel
theorem d8_4 : decode prog_51_method_7_code 4 = .ok (.iload_n 2, 1) := by decide +kernel
theorem d8_5 : decode prog_51_method_7_code 5 = .ok (.aload_n 0, 1) := by decide +kernel
theorem d8_6 : decode prog_51_method_7_code 6 = .ok (.getfield 13, 3) := by decide +kernel
theorem d8_9 : decode prog_51_method_7_code 9 = .ok (.iload_n 1, 1) := by decide +kernel
theorem d8_10 : decode prog_51_method_7_code 10 = .ok (.iaload, 1) := by decide +kernel
theorem d8_11 : decode prog_51_method_7_code 11 = .ok (.iastore, 1) := by decide +kernel
theorem d8_12 : decode prog_51_method_7_code 12 = .ok (.aload_n 0, 1) := by decide +kernel
theorem d8_13 : decode prog_51_method_7_code 13 = .ok (.getfield 19, 3) := by decide +kernel
theorem d8_16 : decode prog_51_method_7_code 16 = .ok (.iload_n 2, 1) := by decide +kernel
theorem d8_17 : decode prog_51_method_7_code 17 = .ok (.aload_n 0, 1) := by decide +kernel
theorem d8_18 : decode prog_51_method_7_code 18 = .ok (.getfield 19, 3) := by decide +kernel
theorem d8_21 : decode prog_51_method_7_code 21 = .ok (.iload_n 1, 1) := by decide +kernel
theorem d8_22 : decode prog_51_method_7_code 22 = .ok (.daload, 1) := by decide +kernel
theorem d8_23 : decode prog_51_method_7_code 23 = .ok (.dastore, 1) := by decide +kernel
theorem d8_24 : decode prog_51_method_7_code 24 = .ok (.aload_n 0, 1) := by decide +kernel
theorem d8_25 : decode prog_51_method_7_code 25 = .ok (.getfield 23, 3) := by decide +kernel
theorem d8_28 : decode prog_51_method_7_code 28 = .ok (.iload_n 2, 1) := by decide +kernel
theorem d8_29 : decode prog_51_method_7_code 29 = .ok (.aload_n 0, 1) := by decide +kernel
theorem d8_30 : decode prog_51_method_7_code 30 = .ok (.getfield 23, 3) := by decide +kernel
theorem d8_33 : decode prog_51_method_7_code 33 = .ok (.iload_n 1, 1) := by decide +kernel
theorem d8_34 : decode prog_51_method_7_code 34 = .ok (.daload, 1) := by decide +kernel
theorem d8_35 : decode prog_51_method_7_code 35 = .ok (.dastore, 1) := by decide +kernel
theorem d8_36 : decode prog_51_method_7_code 36 = .ok (.return_, 1) := by decide +kernel
def own_K8 : List (Nat × Value) := []
theorem own_K8_ok : ∀ q ∈ own_K8, ∃ w ∈ tables_1, own_Word "com/example/recourse/recourse/network/NodeHeap" q.1 q.2 w := by
  intro q hq
  exact absurd hq (List.not_mem_nil)
theorem own_pn8 : plainName "com/example/recourse/recourse/network/NodeHeap" = true := by first | (simp [plainName, overriddenIn]; done) | decide +kernel
theorem d9_0 : decode prog_51_method_6_code 0 = .ok (.aload_n 0, 1) := by decide +kernel
theorem d9_1 : decode prog_51_method_6_code 1 = .ok (.getfield 13, 3) := by decide +kernel
theorem d9_4 : decode prog_51_method_6_code 4 = .ok (.iconst 0, 1) := by decide +kernel
theorem d9_5 : decode prog_51_method_6_code 5 = .ok (.iaload, 1) := by decide +kernel
theorem d9_6 : decode prog_51_method_6_code 6 = .ok (.istore_n 1, 1) := by decide +kernel
theorem d9_7 : decode prog_51_method_6_code 7 = .ok (.aload_n 0, 1) := by decide +kernel
theorem d9_8 : decode prog_51_method_6_code 8 = .ok (.dup, 1) := by decide +kernel
theorem d9_9 : decode prog_51_method_6_code 9 = .ok (.getfield 26, 3) := by decide +kernel
theorem d9_12 : decode prog_51_method_6_code 12 = .ok (.iconst 1, 1) := by decide +kernel
theorem d9_13 : decode prog_51_method_6_code 13 = .ok (.isub, 1) := by decide +kernel
theorem d9_14 : decode prog_51_method_6_code 14 = .ok (.putfield 26, 3) := by decide +kernel
theorem d9_17 : decode prog_51_method_6_code 17 = .ok (.aload_n 0, 1) := by decide +kernel
theorem d9_18 : decode prog_51_method_6_code 18 = .ok (.getfield 13, 3) := by decide +kernel
theorem d9_21 : decode prog_51_method_6_code 21 = .ok (.aload_n 0, 1) := by decide +kernel
theorem d9_22 : decode prog_51_method_6_code 22 = .ok (.getfield 26, 3) := by decide +kernel
theorem d9_25 : decode prog_51_method_6_code 25 = .ok (.iaload, 1) := by decide +kernel
theorem d9_26 : decode prog_51_method_6_code 26 = .ok (.istore_n 2, 1) := by decide +kernel
theorem d9_27 : decode prog_51_method_6_code 27 = .ok (.aload_n 0, 1) := by decide +kernel
theorem d9_28 : decode prog_51_method_6_code 28 = .ok (.getfield 19, 3) := by decide +kernel
theorem d9_31 : decode prog_51_method_6_code 31 = .ok (.aload_n 0, 1) := by decide +kernel
theorem d9_32 : decode prog_51_method_6_code 32 = .ok (.getfield 26, 3) := by decide +kernel
theorem d9_35 : decode prog_51_method_6_code 35 = .ok (.daload, 1) := by decide +kernel
theorem d9_36 : decode prog_51_method_6_code 36 = .ok (.dstore_n 3, 1) := by decide +kernel
theorem d9_37 : decode prog_51_method_6_code 37 = .ok (.aload_n 0, 1) := by decide +kernel
theorem d9_38 : decode prog_51_method_6_code 38 = .ok (.getfield 23, 3) := by decide +kernel
theorem d9_41 : decode prog_51_method_6_code 41 = .ok (.aload_n 0, 1) := by decide +kernel
theorem d9_42 : decode prog_51_method_6_code 42 = .ok (.getfield 26, 3) := by decide +kernel
theorem d9_45 : decode prog_51_method_6_code 45 = .ok (.daload, 1) := by decide +kernel
theorem d9_46 : decode prog_51_method_6_code 46 = .ok (.dstore 5, 2) := by decide +kernel
theorem d9_48 : decode prog_51_method_6_code 48 = .ok (.iconst 0, 1) := by decide +kernel
theorem d9_49 : decode prog_51_method_6_code 49 = .ok (.istore 7, 2) := by decide +kernel
theorem d9_51 : decode prog_51_method_6_code 51 = .ok (.iconst 2, 1) := by decide +kernel
theorem d9_52 : decode prog_51_method_6_code 52 = .ok (.iload 7, 2) := by decide +kernel
theorem d9_54 : decode prog_51_method_6_code 54 = .ok (.imul, 1) := by decide +kernel
theorem d9_55 : decode prog_51_method_6_code 55 = .ok (.iconst 1, 1) := by decide +kernel
theorem d9_56 : decode prog_51_method_6_code 56 = .ok (.iadd, 1) := by decide +kernel
theorem d9_57 : decode prog_51_method_6_code 57 = .ok (.aload_n 0, 1) := by decide +kernel
theorem d9_58 : decode prog_51_method_6_code 58 = .ok (.getfield 26, 3) := by decide +kernel
theorem d9_61 : decode prog_51_method_6_code 61 = .ok (.if_icmp .ge 104, 3) := by decide +kernel
theorem d9_64 : decode prog_51_method_6_code 64 = .ok (.iconst 2, 1) := by decide +kernel
theorem d9_65 : decode prog_51_method_6_code 65 = .ok (.iload 7, 2) := by decide +kernel
theorem d9_67 : decode prog_51_method_6_code 67 = .ok (.imul, 1) := by decide +kernel
theorem d9_68 : decode prog_51_method_6_code 68 = .ok (.iconst 1, 1) := by decide +kernel
theorem d9_69 : decode prog_51_method_6_code 69 = .ok (.iadd, 1) := by decide +kernel
theorem d9_70 : decode prog_51_method_6_code 70 = .ok (.istore 8, 2) := by decide +kernel
theorem d9_72 : decode prog_51_method_6_code 72 = .ok (.iload 8, 2) := by decide +kernel
theorem d9_74 : decode prog_51_method_6_code 74 = .ok (.iconst 1, 1) := by decide +kernel
theorem d9_75 : decode prog_51_method_6_code 75 = .ok (.iadd, 1) := by decide +kernel
theorem d9_76 : decode prog_51_method_6_code 76 = .ok (.aload_n 0, 1) := by decide +kernel
theorem d9_77 : decode prog_51_method_6_code 77 = .ok (.getfield 26, 3) := by decide +kernel
theorem d9_80 : decode prog_51_method_6_code 80 = .ok (.if_icmp .ge 44, 3) := by decide +kernel
theorem d9_83 : decode prog_51_method_6_code 83 = .ok (.aload_n 0, 1) := by decide +kernel
theorem d9_84 : decode prog_51_method_6_code 84 = .ok (.getfield 19, 3) := by decide +kernel
theorem d9_87 : decode prog_51_method_6_code 87 = .ok (.iload 8, 2) := by decide +kernel
theorem d9_89 : decode prog_51_method_6_code 89 = .ok (.iconst 1, 1) := by decide +kernel
theorem d9_90 : decode prog_51_method_6_code 90 = .ok (.iadd, 1) := by decide +kernel
theorem d9_91 : decode prog_51_method_6_code 91 = .ok (.daload, 1) := by decide +kernel
theorem d9_92 : decode prog_51_method_6_code 92 = .ok (.aload_n 0, 1) := by decide +kernel
theorem d9_93 : decode prog_51_method_6_code 93 = .ok (.getfield 23, 3) := by decide +kernel
theorem d9_96 : decode prog_51_method_6_code 96 = .ok (.iload 8, 2) := by decide +kernel
theorem d9_98 : decode prog_51_method_6_code 98 = .ok (.iconst 1, 1) := by decide +kernel
theorem d9_99 : decode prog_51_method_6_code 99 = .ok (.iadd, 1) := by decide +kernel
theorem d9_100 : decode prog_51_method_6_code 100 = .ok (.daload, 1) := by decide +kernel
theorem d9_101 : decode prog_51_method_6_code 101 = .ok (.aload_n 0, 1) := by decide +kernel
theorem d9_102 : decode prog_51_method_6_code 102 = .ok (.getfield 19, 3) := by decide +kernel
theorem d9_105 : decode prog_51_method_6_code 105 = .ok (.iload 8, 2) := by decide +kernel
theorem d9_107 : decode prog_51_method_6_code 107 = .ok (.daload, 1) := by decide +kernel
theorem d9_108 : decode prog_51_method_6_code 108 = .ok (.aload_n 0, 1) := by decide +kernel
theorem d9_109 : decode prog_51_method_6_code 109 = .ok (.getfield 23, 3) := by decide +kernel
theorem d9_112 : decode prog_51_method_6_code 112 = .ok (.iload 8, 2) := by decide +kernel
theorem d9_114 : decode prog_51_method_6_code 114 = .ok (.daload, 1) := by decide +kernel
theorem d9_115 : decode prog_51_method_6_code 115 = .ok (.invokestatic 43, 3) := by decide +kernel
theorem d9_118 : decode prog_51_method_6_code 118 = .ok (.ifCond .eq 6, 3) := by decide +kernel
theorem d9_121 : decode prog_51_method_6_code 121 = .ok (.iinc 8 1, 3) := by decide +kernel
theorem d9_124 : decode prog_51_method_6_code 124 = .ok (.aload_n 0, 1) := by decide +kernel
theorem d9_125 : decode prog_51_method_6_code 125 = .ok (.getfield 19, 3) := by decide +kernel
theorem d9_128 : decode prog_51_method_6_code 128 = .ok (.iload 8, 2) := by decide +kernel
theorem d9_130 : decode prog_51_method_6_code 130 = .ok (.daload, 1) := by decide +kernel
theorem d9_131 : decode prog_51_method_6_code 131 = .ok (.aload_n 0, 1) := by decide +kernel
theorem d9_132 : decode prog_51_method_6_code 132 = .ok (.getfield 23, 3) := by decide +kernel
theorem d9_135 : decode prog_51_method_6_code 135 = .ok (.iload 8, 2) := by decide +kernel
theorem d9_137 : decode prog_51_method_6_code 137 = .ok (.daload, 1) := by decide +kernel
theorem d9_138 : decode prog_51_method_6_code 138 = .ok (.dload_n 3, 1) := by decide +kernel
theorem d9_139 : decode prog_51_method_6_code 139 = .ok (.dload 5, 2) := by decide +kernel
theorem d9_141 : decode prog_51_method_6_code 141 = .ok (.invokestatic 43, 3) := by decide +kernel
theorem d9_144 : decode prog_51_method_6_code 144 = .ok (.ifCond .ne 6, 3) := by decide +kernel
theorem d9_147 : decode prog_51_method_6_code 147 = .ok (.goto 18, 3) := by decide +kernel
theorem d9_150 : decode prog_51_method_6_code 150 = .ok (.aload_n 0, 1) := by decide +kernel
theorem d9_151 : decode prog_51_method_6_code 151 = .ok (.iload 8, 2) := by decide +kernel
theorem d9_153 : decode prog_51_method_6_code 153 = .ok (.iload 7, 2) := by decide +kernel
theorem d9_155 : decode prog_51_method_6_code 155 = .ok (.invokevirtual 49, 3) := by decide +kernel
theorem d9_158 : decode prog_51_method_6_code 158 = .ok (.iload 8, 2) := by decide +kernel
theorem d9_160 : decode prog_51_method_6_code 160 = .ok (.istore 7, 2) := by decide +kernel
theorem d9_162 : decode prog_51_method_6_code 162 = .ok (.goto (-111), 3) := by decide +kernel
theorem d9_165 : decode prog_51_method_6_code 165 = .ok (.aload_n 0, 1) := by decide +kernel
theorem d9_166 : decode prog_51_method_6_code 166 = .ok (.getfield 13, 3) := by decide +kernel
theorem d9_169 : decode prog_51_method_6_code 169 = .ok (.iload 7, 2) := by decide +kernel
theorem d9_171 : decode prog_51_method_6_code 171 = .ok (.iload_n 2, 1) := by decide +kernel
theorem d9_172 : decode prog_51_method_6_code 172 = .ok (.iastore, 1) := by decide +kernel
theorem d9_173 : decode prog_51_method_6_code 173 = .ok (.aload_n 0, 1) := by decide +kernel
theorem d9_174 : decode prog_51_method_6_code 174 = .ok (.getfield 19, 3) := by decide +kernel
theorem d9_177 : decode prog_51_method_6_code 177 = .ok (.iload 7, 2) := by decide +kernel
theorem d9_179 : decode prog_51_method_6_code 179 = .ok (.dload_n 3, 1) := by decide +kernel
theorem d9_180 : decode prog_51_method_6_code 180 = .ok (.dastore, 1) := by decide +kernel
theorem d9_181 : decode prog_51_method_6_code 181 = .ok (.aload_n 0, 1) := by decide +kernel
theorem d9_182 : decode prog_51_method_6_code 182 = .ok (.getfield 23, 3) := by decide +kernel
theorem d9_185 : decode prog_51_method_6_code 185 = .ok (.iload 7, 2) := by decide +kernel
theorem d9_187 : decode prog_51_method_6_code 187 = .ok (.dload 5, 2) := by decide +kernel
theorem d9_189 : decode prog_51_method_6_code 189 = .ok (.dastore, 1) := by decide +kernel
theorem d9_190 : decode prog_51_method_6_code 190 = .ok (.iload_n 1, 1) := by decide +kernel
theorem d9_191 : decode prog_51_method_6_code 191 = .ok (.ireturn, 1) := by decide +kernel
def own_K9 : List (Nat × Value) := []
theorem own_K9_ok : ∀ q ∈ own_K9, ∃ w ∈ tables_1, own_Word "com/example/recourse/recourse/network/NodeHeap" q.1 q.2 w := by
  intro q hq
  exact absurd hq (List.not_mem_nil)
theorem own_pn9 : plainName "com/example/recourse/recourse/network/NodeHeap" = true := by first | (simp [plainName, overriddenIn]; done) | decide +kernel
theorem own_pd0 : parseMethodDescriptor "()I" = some ⟨[], some .int⟩ := by decide +kernel
theorem own_pd1 : parseMethodDescriptor "()V" = some ⟨[], none⟩ := by decide +kernel
theorem own_pd2 : parseMethodDescriptor "()Z" = some ⟨[], some .boolean⟩ := by decide +kernel
theorem own_pd3 : parseMethodDescriptor "(DDDD)Z" = some ⟨[.double, .double, .double, .double], some .boolean⟩ := by decide +kernel
theorem own_pd4 : parseMethodDescriptor "(I)V" = some ⟨[.int], none⟩ := by decide +kernel
theorem own_pd5 : parseMethodDescriptor "(ID)V" = some ⟨[.int, .double], none⟩ := by decide +kernel
theorem own_pd6 : parseMethodDescriptor "(IDD)V" = some ⟨[.int, .double, .double], none⟩ := by decide +kernel
theorem own_pd7 : parseMethodDescriptor "(II)I" = some ⟨[.int, .int], some .int⟩ := by decide +kernel
theorem own_pd8 : parseMethodDescriptor "(II)V" = some ⟨[.int, .int], none⟩ := by decide +kernel
theorem d3_0 : decode jdk_29_method_65_code 0 = .ok (.iload_n 0, 1) := by decide +kernel
theorem d3_1 : decode jdk_29_method_65_code 1 = .ok (.iload_n 1, 1) := by decide +kernel
theorem d3_2 : decode jdk_29_method_65_code 2 = .ok (.if_icmp .lt 7, 3) := by decide +kernel
theorem d3_5 : decode jdk_29_method_65_code 5 = .ok (.iload_n 0, 1) := by decide +kernel
theorem d3_6 : decode jdk_29_method_65_code 6 = .ok (.goto 4, 3) := by decide +kernel
theorem d3_9 : decode jdk_29_method_65_code 9 = .ok (.iload_n 1, 1) := by decide +kernel
theorem d3_10 : decode jdk_29_method_65_code 10 = .ok (.ireturn, 1) := by decide +kernel
def own_K3 : List (Nat × Value) := []
theorem own_K3_ok : ∀ q ∈ own_K3, ∃ w ∈ tables_1, own_Word "java/lang/Math" q.1 q.2 w := by
  intro q hq
  exact absurd hq (List.not_mem_nil)
theorem own_ef0 (m : MethodId) (x0 : Int32) (x1 : Int32) (x2 : Int32) (x3 : Int32) (x4 : Int32) (x5 : Int32) : entryFrame m #[(.int x0), (.int x1), (.int x2), (.int x3), (.int x4), (.int x5)] maxLocals = mkF m 0 #[.val (.int x0), .val (.int x1), .val (.int x2), .val (.int x3), .val (.int x4), .val (.int x5), .unset, .unset, .unset, .unset] [] := by first | (simp [entryFrame, mkF, argsToLocals, Value.category, maxLocals]; done) | rfl
theorem own_ef1 (m : MethodId) (x0 : Addr) (x1 : Int32) : entryFrame m #[(.ref x0), (.int x1)] 2 = mkF m 0 #[.val (.ref x0), .val (.int x1)] [] := by first | (simp [entryFrame, mkF, argsToLocals, Value.category]; done) | rfl
theorem own_ef3 (m : MethodId) (x0 : Int32) (x1 : Int32) : entryFrame m #[(.int x0), (.int x1)] 2 = mkF m 0 #[.val (.int x0), .val (.int x1)] [] := by first | (simp [entryFrame, mkF, argsToLocals, Value.category]; done) | rfl
theorem own_ef4 (m : MethodId) (x0 : Addr) : entryFrame m #[(.ref x0)] 1 = mkF m 0 #[.val (.ref x0)] [] := by first | (simp [entryFrame, mkF, argsToLocals, Value.category]; done) | rfl
theorem own_ef5 (m : MethodId) (x0 : Addr) (x1 : Int32) (x2 : UInt64) : entryFrame m #[(.ref x0), (.int x1), (.double x2)] 4 = mkF m 0 #[.val (.ref x0), .val (.int x1), .val (.double x2), .second] [] := by first | (simp [entryFrame, mkF, argsToLocals, Value.category]; done) | rfl
theorem own_ef6 (m : MethodId) (x0 : Addr) (x1 : Int32) (x2 : UInt64) (x3 : UInt64) : entryFrame m #[(.ref x0), (.int x1), (.double x2), (.double x3)] 8 = mkF m 0 #[.val (.ref x0), .val (.int x1), .val (.double x2), .second, .val (.double x3), .second, .unset, .unset] [] := by first | (simp [entryFrame, mkF, argsToLocals, Value.category]; done) | rfl
theorem own_ef7 (m : MethodId) (x0 : UInt64) (x1 : UInt64) (x2 : UInt64) (x3 : UInt64) : entryFrame m #[(.double x0), (.double x1), (.double x2), (.double x3)] 8 = mkF m 0 #[.val (.double x0), .second, .val (.double x1), .second, .val (.double x2), .second, .val (.double x3), .second] [] := by first | (simp [entryFrame, mkF, argsToLocals, Value.category]; done) | rfl
theorem own_ef8 (m : MethodId) (x0 : Addr) (x1 : Int32) (x2 : Int32) : entryFrame m #[(.ref x0), (.int x1), (.int x2)] 3 = mkF m 0 #[.val (.ref x0), .val (.int x1), .val (.int x2)] [] := by first | (simp [entryFrame, mkF, argsToLocals, Value.category]; done) | rfl
theorem own_ef9 (m : MethodId) (x0 : Addr) : entryFrame m #[(.ref x0)] 9 = mkF m 0 #[.val (.ref x0), .unset, .unset, .unset, .unset, .unset, .unset, .unset, .unset] [] := by first | (simp [entryFrame, mkF, argsToLocals, Value.category]; done) | rfl
theorem own_b0 (p0 : UInt64) (p1 : UInt64) (p2 : UInt64) (p3 : UInt64) (v3 : Int32) (hv3 : (cmpValue (FP.dcmp p0 p2) .g) = v3) (v10 : Int32) (hv10 : (cmpValue (FP.dcmp p0 p2) .l) = v10) (v17 : Int32) (hv17 : (cmpValue (FP.dcmp p1 p3) .g) = v17) (t26_0 : Int32) (ht26_0 : (bif ifCond.holds .lt v3 then (1 : Int32) else (bif ifCond.holds .ne v10 then (0 : Int32) else (bif ifCond.holds .ge v17 then (0 : Int32) else (1 : Int32)))) = t26_0) :
    own_Go own_K7 prog_46_method_5_code 0 #[.val (.double p0), .second, .val (.double p1), .second, .val (.double p2), .second, .val (.double p3), .second] [] 26 #[.val (.double p0), .second, .val (.double p1), .second, .val (.double p2), .second, .val (.double p3), .second] [(.int t26_0)] := by
  subst ht26_0
  refine own_dloadN (pc2 := 1) d7_0 rfl rfl ?_
  refine own_dload (pc2 := 3) d7_1 rfl rfl ?_
  refine own_dcmp (pc2 := 4) d7_3 rfl (v := v3) hv3 ?_
  cases hb4 : ifCond.holds .lt v3
  · refine own_ifNo (pc2 := 7) d7_4 rfl hb4 ?_
    refine own_dloadN (pc2 := 8) d7_7 rfl rfl ?_
    refine own_dload (pc2 := 10) d7_8 rfl rfl ?_
    refine own_dcmp (pc2 := 11) d7_10 rfl (v := v10) hv10 ?_
    cases hb11 : ifCond.holds .ne v10
    · refine own_ifNo (pc2 := 14) d7_11 rfl hb11 ?_
      refine own_dloadN (pc2 := 15) d7_14 rfl rfl ?_
      refine own_dload (pc2 := 17) d7_15 rfl rfl ?_
      refine own_dcmp (pc2 := 18) d7_17 rfl (v := v17) hv17 ?_
      cases hb18 : ifCond.holds .ge v17
      · refine own_ifNo (pc2 := 21) d7_18 rfl hb18 ?_
        refine own_iconst (v := 1) (pc2 := 22) d7_21 rfl rfl ?_
        refine own_goto (pc' := 26) d7_22 (by decide) (by decide) ?_
        exact own_refl
      · refine own_ifYes (pc' := 25) d7_18 hb18 (by decide) (by decide) ?_
        refine own_iconst (v := 0) (pc2 := 26) d7_25 rfl rfl ?_
        exact own_refl
    · refine own_ifYes (pc' := 25) d7_11 hb11 (by decide) (by decide) ?_
      refine own_iconst (v := 0) (pc2 := 26) d7_25 rfl rfl ?_
      exact own_refl
  · refine own_ifYes (pc' := 21) d7_4 hb4 (by decide) (by decide) ?_
    refine own_iconst (v := 1) (pc2 := 22) d7_21 rfl rfl ?_
    refine own_goto (pc' := 26) d7_22 (by decide) (by decide) ?_
    exact own_refl
set_option maxRecDepth 65536 in
set_option maxHeartbeats 4000000 in
theorem own_below (l : Launch) (Z : State) (a0 : Array Value) (hb0 : Heap) (hw : ∀ d ∈ tables_1, d.before a0 Z = true) (p0 : UInt64) (p1 : UInt64) (p2 : UInt64) (p3 : UInt64) (cs : List (Addr × own_Cel)) :
    own_Met l Z a0 hb0 (⟨"com/example/recourse/recourse/network/DoubleDouble", "below", "(DDDD)Z"⟩ : MethodName) prog_46_method_5_code 8 (some .boolean) [] ({ frames := 0, cells := 0, slots := 0, locals := 0 } : Room) #[(.double p0), (.double p1), (.double p2), (.double p3)] cs (fun v cs' => (∃ b, v = some (.int b) ∧ (b = 0 ∨ b = 1)) ∧ cs' = cs) := by
  refine own_met_of (L0 := #[.val (.double p0), .second, .val (.double p1), .second, .val (.double p2), .second, .val (.double p3), .second]) (plainFor_of_name own_pn7) (fun m => own_ef7 m p0 p1 p2 p3) ?_
  intro p e s m below meth c T0 hx hZ hown hby hml hnm H0
  obtain ⟨v3, hv3⟩ : ∃ z : Int32, (cmpValue (FP.dcmp p0 p2) .g) = z := ⟨_, rfl⟩
  obtain ⟨v10, hv10⟩ : ∃ z : Int32, (cmpValue (FP.dcmp p0 p2) .l) = z := ⟨_, rfl⟩
  obtain ⟨v17, hv17⟩ : ∃ z : Int32, (cmpValue (FP.dcmp p1 p3) .g) = z := ⟨_, rfl⟩
  obtain ⟨t26_0, ht26_0⟩ : ∃ z : Int32, (bif ifCond.holds .lt v3 then (1 : Int32) else (bif ifCond.holds .ne v10 then (0 : Int32) else (bif ifCond.holds .ge v17 then (0 : Int32) else (1 : Int32)))) = z := ⟨_, rfl⟩
  have hz : t26_0 = 0 ∨ t26_0 = 1 := by rw [← ht26_0]; simp only [cond_eq_ite]; repeat (first | split | (exact Or.inl rfl) | (exact Or.inr rfl))
  refine ⟨_, _, _, _, 26, #[.val (.double p0), .second, .val (.double p1), .second, .val (.double p2), .second, .val (.double p3), .second], H0, by decide, by decide, Or.inr ⟨.boolean, (.int t26_0), [], .ireturn, rfl, ⟨⟨_, rfl, hz⟩, rfl⟩, d7_26, own_retZ hz, fun target q => ?_⟩⟩
  refine own_go H0 hx hZ hown hby hw own_K7_ok (own_b0 p0 p1 p2 p3 v3 hv3 v10 hv10 v17 hv17 t26_0 ht26_0) _ ?_
  exact q
theorem own_mx0 (k : Int32) (t10_0 : Int32) (ht10_0 : (bif if_icmp.holds .lt (16 : Int32) k then k else (16 : Int32)) = t10_0) :
    own_Go own_K3 jdk_29_method_65_code 0 #[.val (.int (16 : Int32)), .val (.int k)] [] 10 #[.val (.int (16 : Int32)), .val (.int k)] [(.int t10_0)] := by
  subst ht10_0
  refine own_iloadN (pc2 := 1) d3_0 rfl rfl ?_
  refine own_iloadN (pc2 := 2) d3_1 rfl rfl ?_
  cases hb2 : if_icmp.holds .lt (16 : Int32) k
  · refine own_icmpNo (pc2 := 5) d3_2 rfl hb2 ?_
    refine own_iloadN (pc2 := 6) d3_5 rfl rfl ?_
    refine own_goto (pc' := 10) d3_6 (by decide) (by decide) ?_
    exact own_refl
  · refine own_icmpYes (pc' := 9) d3_2 hb2 (by decide) (by decide) ?_
    refine own_iloadN (pc2 := 10) d3_9 rfl rfl ?_
    exact own_refl
set_option maxRecDepth 65536 in
set_option maxHeartbeats 4000000 in
theorem own_max (l : Launch) (Z : State) (a0 : Array Value) (hb0 : Heap) (hw : ∀ d ∈ tables_1, d.before a0 Z = true) (k : Int32) (hk : k.toInt ≤ 47) (cs : List (Addr × own_Cel)) :
    own_Met l Z a0 hb0 (⟨"java/lang/Math", "max", "(II)I"⟩ : MethodName) jdk_29_method_65_code 2 (some .int) [] ({ frames := 0, cells := 0, slots := 0, locals := 0 } : Room) #[(.int (16 : Int32)), (.int k)] cs (fun v cs' => (∃ b : Int32, v = some (.int b) ∧ 16 ≤ b.toInt ∧ b.toInt ≤ 47) ∧ cs' = cs) := by
  refine own_met_of (L0 := #[.val (.int (16 : Int32)), .val (.int k)]) (by decide +kernel) (fun m => own_ef3 m (16 : Int32) k) ?_
  intro p e s m below meth c T0 hx hZ hown hby hml hnm H0
  obtain ⟨t10_0, ht10_0⟩ : ∃ z : Int32, (bif if_icmp.holds .lt (16 : Int32) k then k else (16 : Int32)) = z := ⟨_, rfl⟩
  have hz : 16 ≤ t10_0.toInt ∧ t10_0.toInt ≤ 47 := by
    rw [← ht10_0]
    cases h : if_icmp.holds .lt (16 : Int32) k
    · simp only [cond_false]; decide
    · simp only [cond_true]; rw [own_i_lt] at h; simp at h; omega
  refine ⟨_, _, _, _, 10, #[.val (.int (16 : Int32)), .val (.int k)], H0, by decide, by decide, Or.inr ⟨.int, (.int t10_0), [], .ireturn, rfl, ⟨⟨_, rfl, hz⟩, rfl⟩, d3_10, own_retI _, fun target q => ?_⟩⟩
  refine own_go H0 hx hZ hown hby hw own_K3_ok (own_mx0 k t10_0 ht10_0) _ ?_
  exact q
theorem own_mv01_0 (x : Addr) :
    own_Go own_K8 prog_51_method_7_code 0 #[.val (.ref x), .val (.int (0 : Int32)), .val (.int (1 : Int32))] [] 1 #[.val (.ref x), .val (.int (0 : Int32)), .val (.int (1 : Int32))] [(.ref x)] := by
  refine own_aloadN (pc2 := 1) d8_0 rfl rfl rfl ?_
  exact own_refl
theorem own_mv01_1 (x : Addr) (an : Addr) :
    own_Go own_K8 prog_51_method_7_code 4 #[.val (.ref x), .val (.int (0 : Int32)), .val (.int (1 : Int32))] [(.ref an)] 6 #[.val (.ref x), .val (.int (0 : Int32)), .val (.int (1 : Int32))] [(.ref x), (.int (1 : Int32)), (.ref an)] := by
  refine own_iloadN (pc2 := 5) d8_4 rfl rfl ?_
  refine own_aloadN (pc2 := 6) d8_5 rfl rfl rfl ?_
  exact own_refl
theorem own_mv01_2 (x : Addr) (an : Addr) :
    own_Go own_K8 prog_51_method_7_code 9 #[.val (.ref x), .val (.int (0 : Int32)), .val (.int (1 : Int32))] [(.ref an), (.int (1 : Int32)), (.ref an)] 10 #[.val (.ref x), .val (.int (0 : Int32)), .val (.int (1 : Int32))] [(.int (0 : Int32)), (.ref an), (.int (1 : Int32)), (.ref an)] := by
  refine own_iloadN (pc2 := 10) d8_9 rfl rfl ?_
  exact own_refl
theorem own_mv01_3 (x : Addr) :
    own_Go own_K8 prog_51_method_7_code 12 #[.val (.ref x), .val (.int (0 : Int32)), .val (.int (1 : Int32))] [] 13 #[.val (.ref x), .val (.int (0 : Int32)), .val (.int (1 : Int32))] [(.ref x)] := by
  refine own_aloadN (pc2 := 13) d8_12 rfl rfl rfl ?_
  exact own_refl
theorem own_mv01_4 (x : Addr) (ad : Addr) :
    own_Go own_K8 prog_51_method_7_code 16 #[.val (.ref x), .val (.int (0 : Int32)), .val (.int (1 : Int32))] [(.ref ad)] 18 #[.val (.ref x), .val (.int (0 : Int32)), .val (.int (1 : Int32))] [(.ref x), (.int (1 : Int32)), (.ref ad)] := by
  refine own_iloadN (pc2 := 17) d8_16 rfl rfl ?_
  refine own_aloadN (pc2 := 18) d8_17 rfl rfl rfl ?_
  exact own_refl
theorem own_mv01_5 (x : Addr) (ad : Addr) :
    own_Go own_K8 prog_51_method_7_code 21 #[.val (.ref x), .val (.int (0 : Int32)), .val (.int (1 : Int32))] [(.ref ad), (.int (1 : Int32)), (.ref ad)] 22 #[.val (.ref x), .val (.int (0 : Int32)), .val (.int (1 : Int32))] [(.int (0 : Int32)), (.ref ad), (.int (1 : Int32)), (.ref ad)] := by
  refine own_iloadN (pc2 := 22) d8_21 rfl rfl ?_
  exact own_refl
theorem own_mv01_6 (x : Addr) :
    own_Go own_K8 prog_51_method_7_code 24 #[.val (.ref x), .val (.int (0 : Int32)), .val (.int (1 : Int32))] [] 25 #[.val (.ref x), .val (.int (0 : Int32)), .val (.int (1 : Int32))] [(.ref x)] := by
  refine own_aloadN (pc2 := 25) d8_24 rfl rfl rfl ?_
  exact own_refl
theorem own_mv01_7 (x : Addr) (ar : Addr) :
    own_Go own_K8 prog_51_method_7_code 28 #[.val (.ref x), .val (.int (0 : Int32)), .val (.int (1 : Int32))] [(.ref ar)] 30 #[.val (.ref x), .val (.int (0 : Int32)), .val (.int (1 : Int32))] [(.ref x), (.int (1 : Int32)), (.ref ar)] := by
  refine own_iloadN (pc2 := 29) d8_28 rfl rfl ?_
  refine own_aloadN (pc2 := 30) d8_29 rfl rfl rfl ?_
  exact own_refl
theorem own_mv01_8 (x : Addr) (ar : Addr) :
    own_Go own_K8 prog_51_method_7_code 33 #[.val (.ref x), .val (.int (0 : Int32)), .val (.int (1 : Int32))] [(.ref ar), (.int (1 : Int32)), (.ref ar)] 34 #[.val (.ref x), .val (.int (0 : Int32)), .val (.int (1 : Int32))] [(.int (0 : Int32)), (.ref ar), (.int (1 : Int32)), (.ref ar)] := by
  refine own_iloadN (pc2 := 34) d8_33 rfl rfl ?_
  exact own_refl
set_option maxRecDepth 65536 in
set_option maxHeartbeats 4000000 in
theorem own_move01 (l : Launch) (Z : State) (a0 : Array Value) (hb0 : Heap) (hw : ∀ d ∈ tables_1, d.before a0 Z = true) (x : Addr) (an ad ar : Addr) (mm : Nat) (n0 n1 n2 : Int32) (d0 d1 d2 r0 r1 r2 : UInt64) (sz : Int32) :
    own_Met l Z a0 hb0 (⟨"com/example/recourse/recourse/network/NodeHeap", "move", "(II)V"⟩ : MethodName) prog_51_method_7_code 3 none [] ({ frames := 0, cells := 0, slots := 0, locals := 0 } : Room) #[(.ref x), (.int (0 : Int32)), (.int (1 : Int32))] [(x, own_O "com/example/recourse/recourse/network/NodeHeap" [("com/example/recourse/recourse/network/NodeHeap", "nodes", "[I", .ref an), ("com/example/recourse/recourse/network/NodeHeap", "distances", "[D", .ref ad), ("com/example/recourse/recourse/network/NodeHeap", "remainders", "[D", .ref ar), ("com/example/recourse/recourse/network/NodeHeap", "size", "I", .int sz)]), (an, own_A .int ((.int n0) :: (.int n1) :: (.int n2) :: List.replicate mm (.int 0))), (ad, own_A .double ((.double d0) :: (.double d1) :: (.double d2) :: List.replicate mm (.double 0))), (ar, own_A .double ((.double r0) :: (.double r1) :: (.double r2) :: List.replicate mm (.double 0)))] (fun v cs' => v = none ∧ cs' = [(x, own_O "com/example/recourse/recourse/network/NodeHeap" [("com/example/recourse/recourse/network/NodeHeap", "nodes", "[I", .ref an), ("com/example/recourse/recourse/network/NodeHeap", "distances", "[D", .ref ad), ("com/example/recourse/recourse/network/NodeHeap", "remainders", "[D", .ref ar), ("com/example/recourse/recourse/network/NodeHeap", "size", "I", .int sz)]), (an, own_A .int ((.int n0) :: (.int n0) :: (.int n2) :: List.replicate mm (.int 0))), (ad, own_A .double ((.double d0) :: (.double d0) :: (.double d2) :: List.replicate mm (.double 0))), (ar, own_A .double ((.double r0) :: (.double r0) :: (.double r2) :: List.replicate mm (.double 0)))]) := by
  refine own_met_of (L0 := #[.val (.ref x), .val (.int (0 : Int32)), .val (.int (1 : Int32))]) (plainFor_of_name own_pn8) (fun m => own_ef8 m x (0 : Int32) (1 : Int32)) ?_
  intro p e s m below meth c T0 hx hZ hown hby hml hnm H0
  obtain ⟨Tmv01_1, Hmv01_1, stmv01_1⟩ := own_getF H0 hx hZ hown (hw _ (List.mem_of_getElem? (i := 14) rfl)) 0 0 rfl rfl (g := (mkF m 1 #[.val (.ref x), .val (.int (0 : Int32)), .val (.int (1 : Int32))] [(.ref x)])) rfl rfl (hb hby d8_1)
  change own_S _ _ _ _ _ _ _ _ _ _ _ _ _ _ [(x, own_O "com/example/recourse/recourse/network/NodeHeap" [("com/example/recourse/recourse/network/NodeHeap", "nodes", "[I", .ref an), ("com/example/recourse/recourse/network/NodeHeap", "distances", "[D", .ref ad), ("com/example/recourse/recourse/network/NodeHeap", "remainders", "[D", .ref ar), ("com/example/recourse/recourse/network/NodeHeap", "size", "I", .int sz)]), (an, own_A .int ((.int n0) :: (.int n1) :: (.int n2) :: List.replicate mm (.int 0))), (ad, own_A .double ((.double d0) :: (.double d1) :: (.double d2) :: List.replicate mm (.double 0))), (ar, own_A .double ((.double r0) :: (.double r1) :: (.double r2) :: List.replicate mm (.double 0)))] _ _ at Hmv01_1
  obtain ⟨Tmv01_2, Hmv01_2, stmv01_2⟩ := own_getF Hmv01_1 hx hZ hown (hw _ (List.mem_of_getElem? (i := 14) rfl)) 0 0 rfl rfl (g := (mkF m 6 #[.val (.ref x), .val (.int (0 : Int32)), .val (.int (1 : Int32))] [(.ref x), (.int (1 : Int32)), (.ref an)])) rfl rfl (hb hby d8_6)
  change own_S _ _ _ _ _ _ _ _ _ _ _ _ _ _ [(x, own_O "com/example/recourse/recourse/network/NodeHeap" [("com/example/recourse/recourse/network/NodeHeap", "nodes", "[I", .ref an), ("com/example/recourse/recourse/network/NodeHeap", "distances", "[D", .ref ad), ("com/example/recourse/recourse/network/NodeHeap", "remainders", "[D", .ref ar), ("com/example/recourse/recourse/network/NodeHeap", "size", "I", .int sz)]), (an, own_A .int ((.int n0) :: (.int n1) :: (.int n2) :: List.replicate mm (.int 0))), (ad, own_A .double ((.double d0) :: (.double d1) :: (.double d2) :: List.replicate mm (.double 0))), (ar, own_A .double ((.double r0) :: (.double r1) :: (.double r2) :: List.replicate mm (.double 0)))] _ _ at Hmv01_2
  obtain ⟨Tmv01_4, Hmv01_4, stmv01_4⟩ := own_iastore Hmv01_2 hx hZ 1 1 rfl (by decide) (Nat.le_of_ble_eq_true rfl) (g := (mkF m 11 #[.val (.ref x), .val (.int (0 : Int32)), .val (.int (1 : Int32))] [(.int n0), (.int (1 : Int32)), (.ref an)])) rfl rfl (hb hby d8_11)
  change own_S _ _ _ _ _ _ _ _ _ _ _ _ _ _ [(x, own_O "com/example/recourse/recourse/network/NodeHeap" [("com/example/recourse/recourse/network/NodeHeap", "nodes", "[I", .ref an), ("com/example/recourse/recourse/network/NodeHeap", "distances", "[D", .ref ad), ("com/example/recourse/recourse/network/NodeHeap", "remainders", "[D", .ref ar), ("com/example/recourse/recourse/network/NodeHeap", "size", "I", .int sz)]), (an, own_A .int ((.int n0) :: (.int n0) :: (.int n2) :: List.replicate mm (.int 0))), (ad, own_A .double ((.double d0) :: (.double d1) :: (.double d2) :: List.replicate mm (.double 0))), (ar, own_A .double ((.double r0) :: (.double r1) :: (.double r2) :: List.replicate mm (.double 0)))] _ _ at Hmv01_4
  obtain ⟨Tmv01_5, Hmv01_5, stmv01_5⟩ := own_getF Hmv01_4 hx hZ hown (hw _ (List.mem_of_getElem? (i := 17) rfl)) 0 1 rfl rfl (g := (mkF m 13 #[.val (.ref x), .val (.int (0 : Int32)), .val (.int (1 : Int32))] [(.ref x)])) rfl rfl (hb hby d8_13)
  change own_S _ _ _ _ _ _ _ _ _ _ _ _ _ _ [(x, own_O "com/example/recourse/recourse/network/NodeHeap" [("com/example/recourse/recourse/network/NodeHeap", "nodes", "[I", .ref an), ("com/example/recourse/recourse/network/NodeHeap", "distances", "[D", .ref ad), ("com/example/recourse/recourse/network/NodeHeap", "remainders", "[D", .ref ar), ("com/example/recourse/recourse/network/NodeHeap", "size", "I", .int sz)]), (an, own_A .int ((.int n0) :: (.int n0) :: (.int n2) :: List.replicate mm (.int 0))), (ad, own_A .double ((.double d0) :: (.double d1) :: (.double d2) :: List.replicate mm (.double 0))), (ar, own_A .double ((.double r0) :: (.double r1) :: (.double r2) :: List.replicate mm (.double 0)))] _ _ at Hmv01_5
  obtain ⟨Tmv01_6, Hmv01_6, stmv01_6⟩ := own_getF Hmv01_5 hx hZ hown (hw _ (List.mem_of_getElem? (i := 17) rfl)) 0 1 rfl rfl (g := (mkF m 18 #[.val (.ref x), .val (.int (0 : Int32)), .val (.int (1 : Int32))] [(.ref x), (.int (1 : Int32)), (.ref ad)])) rfl rfl (hb hby d8_18)
  change own_S _ _ _ _ _ _ _ _ _ _ _ _ _ _ [(x, own_O "com/example/recourse/recourse/network/NodeHeap" [("com/example/recourse/recourse/network/NodeHeap", "nodes", "[I", .ref an), ("com/example/recourse/recourse/network/NodeHeap", "distances", "[D", .ref ad), ("com/example/recourse/recourse/network/NodeHeap", "remainders", "[D", .ref ar), ("com/example/recourse/recourse/network/NodeHeap", "size", "I", .int sz)]), (an, own_A .int ((.int n0) :: (.int n0) :: (.int n2) :: List.replicate mm (.int 0))), (ad, own_A .double ((.double d0) :: (.double d1) :: (.double d2) :: List.replicate mm (.double 0))), (ar, own_A .double ((.double r0) :: (.double r1) :: (.double r2) :: List.replicate mm (.double 0)))] _ _ at Hmv01_6
  obtain ⟨Tmv01_8, Hmv01_8, stmv01_8⟩ := own_dastore Hmv01_6 hx hZ 2 1 rfl (by decide) (Nat.le_of_ble_eq_true rfl) (g := (mkF m 23 #[.val (.ref x), .val (.int (0 : Int32)), .val (.int (1 : Int32))] [(.double d0), (.int (1 : Int32)), (.ref ad)])) rfl rfl (hb hby d8_23)
  change own_S _ _ _ _ _ _ _ _ _ _ _ _ _ _ [(x, own_O "com/example/recourse/recourse/network/NodeHeap" [("com/example/recourse/recourse/network/NodeHeap", "nodes", "[I", .ref an), ("com/example/recourse/recourse/network/NodeHeap", "distances", "[D", .ref ad), ("com/example/recourse/recourse/network/NodeHeap", "remainders", "[D", .ref ar), ("com/example/recourse/recourse/network/NodeHeap", "size", "I", .int sz)]), (an, own_A .int ((.int n0) :: (.int n0) :: (.int n2) :: List.replicate mm (.int 0))), (ad, own_A .double ((.double d0) :: (.double d0) :: (.double d2) :: List.replicate mm (.double 0))), (ar, own_A .double ((.double r0) :: (.double r1) :: (.double r2) :: List.replicate mm (.double 0)))] _ _ at Hmv01_8
  obtain ⟨Tmv01_9, Hmv01_9, stmv01_9⟩ := own_getF Hmv01_8 hx hZ hown (hw _ (List.mem_of_getElem? (i := 19) rfl)) 0 2 rfl rfl (g := (mkF m 25 #[.val (.ref x), .val (.int (0 : Int32)), .val (.int (1 : Int32))] [(.ref x)])) rfl rfl (hb hby d8_25)
  change own_S _ _ _ _ _ _ _ _ _ _ _ _ _ _ [(x, own_O "com/example/recourse/recourse/network/NodeHeap" [("com/example/recourse/recourse/network/NodeHeap", "nodes", "[I", .ref an), ("com/example/recourse/recourse/network/NodeHeap", "distances", "[D", .ref ad), ("com/example/recourse/recourse/network/NodeHeap", "remainders", "[D", .ref ar), ("com/example/recourse/recourse/network/NodeHeap", "size", "I", .int sz)]), (an, own_A .int ((.int n0) :: (.int n0) :: (.int n2) :: List.replicate mm (.int 0))), (ad, own_A .double ((.double d0) :: (.double d0) :: (.double d2) :: List.replicate mm (.double 0))), (ar, own_A .double ((.double r0) :: (.double r1) :: (.double r2) :: List.replicate mm (.double 0)))] _ _ at Hmv01_9
  obtain ⟨Tmv01_10, Hmv01_10, stmv01_10⟩ := own_getF Hmv01_9 hx hZ hown (hw _ (List.mem_of_getElem? (i := 19) rfl)) 0 2 rfl rfl (g := (mkF m 30 #[.val (.ref x), .val (.int (0 : Int32)), .val (.int (1 : Int32))] [(.ref x), (.int (1 : Int32)), (.ref ar)])) rfl rfl (hb hby d8_30)
  change own_S _ _ _ _ _ _ _ _ _ _ _ _ _ _ [(x, own_O "com/example/recourse/recourse/network/NodeHeap" [("com/example/recourse/recourse/network/NodeHeap", "nodes", "[I", .ref an), ("com/example/recourse/recourse/network/NodeHeap", "distances", "[D", .ref ad), ("com/example/recourse/recourse/network/NodeHeap", "remainders", "[D", .ref ar), ("com/example/recourse/recourse/network/NodeHeap", "size", "I", .int sz)]), (an, own_A .int ((.int n0) :: (.int n0) :: (.int n2) :: List.replicate mm (.int 0))), (ad, own_A .double ((.double d0) :: (.double d0) :: (.double d2) :: List.replicate mm (.double 0))), (ar, own_A .double ((.double r0) :: (.double r1) :: (.double r2) :: List.replicate mm (.double 0)))] _ _ at Hmv01_10
  obtain ⟨Tmv01_12, Hmv01_12, stmv01_12⟩ := own_dastore Hmv01_10 hx hZ 3 1 rfl (by decide) (Nat.le_of_ble_eq_true rfl) (g := (mkF m 35 #[.val (.ref x), .val (.int (0 : Int32)), .val (.int (1 : Int32))] [(.double r0), (.int (1 : Int32)), (.ref ar)])) rfl rfl (hb hby d8_35)
  change own_S _ _ _ _ _ _ _ _ _ _ _ _ _ _ [(x, own_O "com/example/recourse/recourse/network/NodeHeap" [("com/example/recourse/recourse/network/NodeHeap", "nodes", "[I", .ref an), ("com/example/recourse/recourse/network/NodeHeap", "distances", "[D", .ref ad), ("com/example/recourse/recourse/network/NodeHeap", "remainders", "[D", .ref ar), ("com/example/recourse/recourse/network/NodeHeap", "size", "I", .int sz)]), (an, own_A .int ((.int n0) :: (.int n0) :: (.int n2) :: List.replicate mm (.int 0))), (ad, own_A .double ((.double d0) :: (.double d0) :: (.double d2) :: List.replicate mm (.double 0))), (ar, own_A .double ((.double r0) :: (.double r0) :: (.double r2) :: List.replicate mm (.double 0)))] _ _ at Hmv01_12
  refine ⟨_, _, _, _, 36, #[.val (.ref x), .val (.int (0 : Int32)), .val (.int (1 : Int32))], Hmv01_12, by decide, by decide, Or.inl ⟨rfl, ⟨rfl, rfl⟩, d8_36, fun target q => ?_⟩⟩
  refine own_go H0 hx hZ hown hby hw own_K8_ok (own_mv01_0 x) _ ?_
  refine stmv01_1 _ ?_
  refine own_go Hmv01_1 hx hZ hown hby hw own_K8_ok (own_mv01_1 x an) _ ?_
  refine stmv01_2 _ ?_
  refine own_go Hmv01_2 hx hZ hown hby hw own_K8_ok (own_mv01_2 x an) _ ?_
  refine own_iaload Hmv01_2 hx hZ 1 0 rfl (by decide) rfl (g := (mkF m 10 #[.val (.ref x), .val (.int (0 : Int32)), .val (.int (1 : Int32))] [(.int (0 : Int32)), (.ref an), (.int (1 : Int32)), (.ref an)])) rfl rfl (hb hby d8_10) _ ?_
  refine stmv01_4 _ ?_
  refine own_go Hmv01_4 hx hZ hown hby hw own_K8_ok (own_mv01_3 x) _ ?_
  refine stmv01_5 _ ?_
  refine own_go Hmv01_5 hx hZ hown hby hw own_K8_ok (own_mv01_4 x ad) _ ?_
  refine stmv01_6 _ ?_
  refine own_go Hmv01_6 hx hZ hown hby hw own_K8_ok (own_mv01_5 x ad) _ ?_
  refine own_daload Hmv01_6 hx hZ 2 0 rfl (by decide) rfl (g := (mkF m 22 #[.val (.ref x), .val (.int (0 : Int32)), .val (.int (1 : Int32))] [(.int (0 : Int32)), (.ref ad), (.int (1 : Int32)), (.ref ad)])) rfl rfl (hb hby d8_22) _ ?_
  refine stmv01_8 _ ?_
  refine own_go Hmv01_8 hx hZ hown hby hw own_K8_ok (own_mv01_6 x) _ ?_
  refine stmv01_9 _ ?_
  refine own_go Hmv01_9 hx hZ hown hby hw own_K8_ok (own_mv01_7 x ar) _ ?_
  refine stmv01_10 _ ?_
  refine own_go Hmv01_10 hx hZ hown hby hw own_K8_ok (own_mv01_8 x ar) _ ?_
  refine own_daload Hmv01_10 hx hZ 3 0 rfl (by decide) rfl (g := (mkF m 34 #[.val (.ref x), .val (.int (0 : Int32)), .val (.int (1 : Int32))] [(.int (0 : Int32)), (.ref ar), (.int (1 : Int32)), (.ref ar)])) rfl rfl (hb hby d8_34) _ ?_
  refine stmv01_12 _ ?_
  exact q
theorem own_mv02_0 (x : Addr) :
    own_Go own_K8 prog_51_method_7_code 0 #[.val (.ref x), .val (.int (0 : Int32)), .val (.int (2 : Int32))] [] 1 #[.val (.ref x), .val (.int (0 : Int32)), .val (.int (2 : Int32))] [(.ref x)] := by
  refine own_aloadN (pc2 := 1) d8_0 rfl rfl rfl ?_
  exact own_refl
theorem own_mv02_1 (x : Addr) (an : Addr) :
    own_Go own_K8 prog_51_method_7_code 4 #[.val (.ref x), .val (.int (0 : Int32)), .val (.int (2 : Int32))] [(.ref an)] 6 #[.val (.ref x), .val (.int (0 : Int32)), .val (.int (2 : Int32))] [(.ref x), (.int (2 : Int32)), (.ref an)] := by
  refine own_iloadN (pc2 := 5) d8_4 rfl rfl ?_
  refine own_aloadN (pc2 := 6) d8_5 rfl rfl rfl ?_
  exact own_refl
theorem own_mv02_2 (x : Addr) (an : Addr) :
    own_Go own_K8 prog_51_method_7_code 9 #[.val (.ref x), .val (.int (0 : Int32)), .val (.int (2 : Int32))] [(.ref an), (.int (2 : Int32)), (.ref an)] 10 #[.val (.ref x), .val (.int (0 : Int32)), .val (.int (2 : Int32))] [(.int (0 : Int32)), (.ref an), (.int (2 : Int32)), (.ref an)] := by
  refine own_iloadN (pc2 := 10) d8_9 rfl rfl ?_
  exact own_refl
theorem own_mv02_3 (x : Addr) :
    own_Go own_K8 prog_51_method_7_code 12 #[.val (.ref x), .val (.int (0 : Int32)), .val (.int (2 : Int32))] [] 13 #[.val (.ref x), .val (.int (0 : Int32)), .val (.int (2 : Int32))] [(.ref x)] := by
  refine own_aloadN (pc2 := 13) d8_12 rfl rfl rfl ?_
  exact own_refl
theorem own_mv02_4 (x : Addr) (ad : Addr) :
    own_Go own_K8 prog_51_method_7_code 16 #[.val (.ref x), .val (.int (0 : Int32)), .val (.int (2 : Int32))] [(.ref ad)] 18 #[.val (.ref x), .val (.int (0 : Int32)), .val (.int (2 : Int32))] [(.ref x), (.int (2 : Int32)), (.ref ad)] := by
  refine own_iloadN (pc2 := 17) d8_16 rfl rfl ?_
  refine own_aloadN (pc2 := 18) d8_17 rfl rfl rfl ?_
  exact own_refl
theorem own_mv02_5 (x : Addr) (ad : Addr) :
    own_Go own_K8 prog_51_method_7_code 21 #[.val (.ref x), .val (.int (0 : Int32)), .val (.int (2 : Int32))] [(.ref ad), (.int (2 : Int32)), (.ref ad)] 22 #[.val (.ref x), .val (.int (0 : Int32)), .val (.int (2 : Int32))] [(.int (0 : Int32)), (.ref ad), (.int (2 : Int32)), (.ref ad)] := by
  refine own_iloadN (pc2 := 22) d8_21 rfl rfl ?_
  exact own_refl
theorem own_mv02_6 (x : Addr) :
    own_Go own_K8 prog_51_method_7_code 24 #[.val (.ref x), .val (.int (0 : Int32)), .val (.int (2 : Int32))] [] 25 #[.val (.ref x), .val (.int (0 : Int32)), .val (.int (2 : Int32))] [(.ref x)] := by
  refine own_aloadN (pc2 := 25) d8_24 rfl rfl rfl ?_
  exact own_refl
theorem own_mv02_7 (x : Addr) (ar : Addr) :
    own_Go own_K8 prog_51_method_7_code 28 #[.val (.ref x), .val (.int (0 : Int32)), .val (.int (2 : Int32))] [(.ref ar)] 30 #[.val (.ref x), .val (.int (0 : Int32)), .val (.int (2 : Int32))] [(.ref x), (.int (2 : Int32)), (.ref ar)] := by
  refine own_iloadN (pc2 := 29) d8_28 rfl rfl ?_
  refine own_aloadN (pc2 := 30) d8_29 rfl rfl rfl ?_
  exact own_refl
theorem own_mv02_8 (x : Addr) (ar : Addr) :
    own_Go own_K8 prog_51_method_7_code 33 #[.val (.ref x), .val (.int (0 : Int32)), .val (.int (2 : Int32))] [(.ref ar), (.int (2 : Int32)), (.ref ar)] 34 #[.val (.ref x), .val (.int (0 : Int32)), .val (.int (2 : Int32))] [(.int (0 : Int32)), (.ref ar), (.int (2 : Int32)), (.ref ar)] := by
  refine own_iloadN (pc2 := 34) d8_33 rfl rfl ?_
  exact own_refl
set_option maxRecDepth 65536 in
set_option maxHeartbeats 4000000 in
theorem own_move02 (l : Launch) (Z : State) (a0 : Array Value) (hb0 : Heap) (hw : ∀ d ∈ tables_1, d.before a0 Z = true) (x : Addr) (an ad ar : Addr) (mm : Nat) (n0 n1 n2 : Int32) (d0 d1 d2 r0 r1 r2 : UInt64) (sz : Int32) :
    own_Met l Z a0 hb0 (⟨"com/example/recourse/recourse/network/NodeHeap", "move", "(II)V"⟩ : MethodName) prog_51_method_7_code 3 none [] ({ frames := 0, cells := 0, slots := 0, locals := 0 } : Room) #[(.ref x), (.int (0 : Int32)), (.int (2 : Int32))] [(x, own_O "com/example/recourse/recourse/network/NodeHeap" [("com/example/recourse/recourse/network/NodeHeap", "nodes", "[I", .ref an), ("com/example/recourse/recourse/network/NodeHeap", "distances", "[D", .ref ad), ("com/example/recourse/recourse/network/NodeHeap", "remainders", "[D", .ref ar), ("com/example/recourse/recourse/network/NodeHeap", "size", "I", .int sz)]), (an, own_A .int ((.int n0) :: (.int n1) :: (.int n2) :: List.replicate mm (.int 0))), (ad, own_A .double ((.double d0) :: (.double d1) :: (.double d2) :: List.replicate mm (.double 0))), (ar, own_A .double ((.double r0) :: (.double r1) :: (.double r2) :: List.replicate mm (.double 0)))] (fun v cs' => v = none ∧ cs' = [(x, own_O "com/example/recourse/recourse/network/NodeHeap" [("com/example/recourse/recourse/network/NodeHeap", "nodes", "[I", .ref an), ("com/example/recourse/recourse/network/NodeHeap", "distances", "[D", .ref ad), ("com/example/recourse/recourse/network/NodeHeap", "remainders", "[D", .ref ar), ("com/example/recourse/recourse/network/NodeHeap", "size", "I", .int sz)]), (an, own_A .int ((.int n0) :: (.int n1) :: (.int n0) :: List.replicate mm (.int 0))), (ad, own_A .double ((.double d0) :: (.double d1) :: (.double d0) :: List.replicate mm (.double 0))), (ar, own_A .double ((.double r0) :: (.double r1) :: (.double r0) :: List.replicate mm (.double 0)))]) := by
  refine own_met_of (L0 := #[.val (.ref x), .val (.int (0 : Int32)), .val (.int (2 : Int32))]) (plainFor_of_name own_pn8) (fun m => own_ef8 m x (0 : Int32) (2 : Int32)) ?_
  intro p e s m below meth c T0 hx hZ hown hby hml hnm H0
  obtain ⟨Tmv02_1, Hmv02_1, stmv02_1⟩ := own_getF H0 hx hZ hown (hw _ (List.mem_of_getElem? (i := 14) rfl)) 0 0 rfl rfl (g := (mkF m 1 #[.val (.ref x), .val (.int (0 : Int32)), .val (.int (2 : Int32))] [(.ref x)])) rfl rfl (hb hby d8_1)
  change own_S _ _ _ _ _ _ _ _ _ _ _ _ _ _ [(x, own_O "com/example/recourse/recourse/network/NodeHeap" [("com/example/recourse/recourse/network/NodeHeap", "nodes", "[I", .ref an), ("com/example/recourse/recourse/network/NodeHeap", "distances", "[D", .ref ad), ("com/example/recourse/recourse/network/NodeHeap", "remainders", "[D", .ref ar), ("com/example/recourse/recourse/network/NodeHeap", "size", "I", .int sz)]), (an, own_A .int ((.int n0) :: (.int n1) :: (.int n2) :: List.replicate mm (.int 0))), (ad, own_A .double ((.double d0) :: (.double d1) :: (.double d2) :: List.replicate mm (.double 0))), (ar, own_A .double ((.double r0) :: (.double r1) :: (.double r2) :: List.replicate mm (.double 0)))] _ _ at Hmv02_1
  obtain ⟨Tmv02_2, Hmv02_2, stmv02_2⟩ := own_getF Hmv02_1 hx hZ hown (hw _ (List.mem_of_getElem? (i := 14) rfl)) 0 0 rfl rfl (g := (mkF m 6 #[.val (.ref x), .val (.int (0 : Int32)), .val (.int (2 : Int32))] [(.ref x), (.int (2 : Int32)), (.ref an)])) rfl rfl (hb hby d8_6)
  change own_S _ _ _ _ _ _ _ _ _ _ _ _ _ _ [(x, own_O "com/example/recourse/recourse/network/NodeHeap" [("com/example/recourse/recourse/network/NodeHeap", "nodes", "[I", .ref an), ("com/example/recourse/recourse/network/NodeHeap", "distances", "[D", .ref ad), ("com/example/recourse/recourse/network/NodeHeap", "remainders", "[D", .ref ar), ("com/example/recourse/recourse/network/NodeHeap", "size", "I", .int sz)]), (an, own_A .int ((.int n0) :: (.int n1) :: (.int n2) :: List.replicate mm (.int 0))), (ad, own_A .double ((.double d0) :: (.double d1) :: (.double d2) :: List.replicate mm (.double 0))), (ar, own_A .double ((.double r0) :: (.double r1) :: (.double r2) :: List.replicate mm (.double 0)))] _ _ at Hmv02_2
  obtain ⟨Tmv02_4, Hmv02_4, stmv02_4⟩ := own_iastore Hmv02_2 hx hZ 1 2 rfl (by decide) (Nat.le_of_ble_eq_true rfl) (g := (mkF m 11 #[.val (.ref x), .val (.int (0 : Int32)), .val (.int (2 : Int32))] [(.int n0), (.int (2 : Int32)), (.ref an)])) rfl rfl (hb hby d8_11)
  change own_S _ _ _ _ _ _ _ _ _ _ _ _ _ _ [(x, own_O "com/example/recourse/recourse/network/NodeHeap" [("com/example/recourse/recourse/network/NodeHeap", "nodes", "[I", .ref an), ("com/example/recourse/recourse/network/NodeHeap", "distances", "[D", .ref ad), ("com/example/recourse/recourse/network/NodeHeap", "remainders", "[D", .ref ar), ("com/example/recourse/recourse/network/NodeHeap", "size", "I", .int sz)]), (an, own_A .int ((.int n0) :: (.int n1) :: (.int n0) :: List.replicate mm (.int 0))), (ad, own_A .double ((.double d0) :: (.double d1) :: (.double d2) :: List.replicate mm (.double 0))), (ar, own_A .double ((.double r0) :: (.double r1) :: (.double r2) :: List.replicate mm (.double 0)))] _ _ at Hmv02_4
  obtain ⟨Tmv02_5, Hmv02_5, stmv02_5⟩ := own_getF Hmv02_4 hx hZ hown (hw _ (List.mem_of_getElem? (i := 17) rfl)) 0 1 rfl rfl (g := (mkF m 13 #[.val (.ref x), .val (.int (0 : Int32)), .val (.int (2 : Int32))] [(.ref x)])) rfl rfl (hb hby d8_13)
  change own_S _ _ _ _ _ _ _ _ _ _ _ _ _ _ [(x, own_O "com/example/recourse/recourse/network/NodeHeap" [("com/example/recourse/recourse/network/NodeHeap", "nodes", "[I", .ref an), ("com/example/recourse/recourse/network/NodeHeap", "distances", "[D", .ref ad), ("com/example/recourse/recourse/network/NodeHeap", "remainders", "[D", .ref ar), ("com/example/recourse/recourse/network/NodeHeap", "size", "I", .int sz)]), (an, own_A .int ((.int n0) :: (.int n1) :: (.int n0) :: List.replicate mm (.int 0))), (ad, own_A .double ((.double d0) :: (.double d1) :: (.double d2) :: List.replicate mm (.double 0))), (ar, own_A .double ((.double r0) :: (.double r1) :: (.double r2) :: List.replicate mm (.double 0)))] _ _ at Hmv02_5
  obtain ⟨Tmv02_6, Hmv02_6, stmv02_6⟩ := own_getF Hmv02_5 hx hZ hown (hw _ (List.mem_of_getElem? (i := 17) rfl)) 0 1 rfl rfl (g := (mkF m 18 #[.val (.ref x), .val (.int (0 : Int32)), .val (.int (2 : Int32))] [(.ref x), (.int (2 : Int32)), (.ref ad)])) rfl rfl (hb hby d8_18)
  change own_S _ _ _ _ _ _ _ _ _ _ _ _ _ _ [(x, own_O "com/example/recourse/recourse/network/NodeHeap" [("com/example/recourse/recourse/network/NodeHeap", "nodes", "[I", .ref an), ("com/example/recourse/recourse/network/NodeHeap", "distances", "[D", .ref ad), ("com/example/recourse/recourse/network/NodeHeap", "remainders", "[D", .ref ar), ("com/example/recourse/recourse/network/NodeHeap", "size", "I", .int sz)]), (an, own_A .int ((.int n0) :: (.int n1) :: (.int n0) :: List.replicate mm (.int 0))), (ad, own_A .double ((.double d0) :: (.double d1) :: (.double d2) :: List.replicate mm (.double 0))), (ar, own_A .double ((.double r0) :: (.double r1) :: (.double r2) :: List.replicate mm (.double 0)))] _ _ at Hmv02_6
  obtain ⟨Tmv02_8, Hmv02_8, stmv02_8⟩ := own_dastore Hmv02_6 hx hZ 2 2 rfl (by decide) (Nat.le_of_ble_eq_true rfl) (g := (mkF m 23 #[.val (.ref x), .val (.int (0 : Int32)), .val (.int (2 : Int32))] [(.double d0), (.int (2 : Int32)), (.ref ad)])) rfl rfl (hb hby d8_23)
  change own_S _ _ _ _ _ _ _ _ _ _ _ _ _ _ [(x, own_O "com/example/recourse/recourse/network/NodeHeap" [("com/example/recourse/recourse/network/NodeHeap", "nodes", "[I", .ref an), ("com/example/recourse/recourse/network/NodeHeap", "distances", "[D", .ref ad), ("com/example/recourse/recourse/network/NodeHeap", "remainders", "[D", .ref ar), ("com/example/recourse/recourse/network/NodeHeap", "size", "I", .int sz)]), (an, own_A .int ((.int n0) :: (.int n1) :: (.int n0) :: List.replicate mm (.int 0))), (ad, own_A .double ((.double d0) :: (.double d1) :: (.double d0) :: List.replicate mm (.double 0))), (ar, own_A .double ((.double r0) :: (.double r1) :: (.double r2) :: List.replicate mm (.double 0)))] _ _ at Hmv02_8
  obtain ⟨Tmv02_9, Hmv02_9, stmv02_9⟩ := own_getF Hmv02_8 hx hZ hown (hw _ (List.mem_of_getElem? (i := 19) rfl)) 0 2 rfl rfl (g := (mkF m 25 #[.val (.ref x), .val (.int (0 : Int32)), .val (.int (2 : Int32))] [(.ref x)])) rfl rfl (hb hby d8_25)
  change own_S _ _ _ _ _ _ _ _ _ _ _ _ _ _ [(x, own_O "com/example/recourse/recourse/network/NodeHeap" [("com/example/recourse/recourse/network/NodeHeap", "nodes", "[I", .ref an), ("com/example/recourse/recourse/network/NodeHeap", "distances", "[D", .ref ad), ("com/example/recourse/recourse/network/NodeHeap", "remainders", "[D", .ref ar), ("com/example/recourse/recourse/network/NodeHeap", "size", "I", .int sz)]), (an, own_A .int ((.int n0) :: (.int n1) :: (.int n0) :: List.replicate mm (.int 0))), (ad, own_A .double ((.double d0) :: (.double d1) :: (.double d0) :: List.replicate mm (.double 0))), (ar, own_A .double ((.double r0) :: (.double r1) :: (.double r2) :: List.replicate mm (.double 0)))] _ _ at Hmv02_9
  obtain ⟨Tmv02_10, Hmv02_10, stmv02_10⟩ := own_getF Hmv02_9 hx hZ hown (hw _ (List.mem_of_getElem? (i := 19) rfl)) 0 2 rfl rfl (g := (mkF m 30 #[.val (.ref x), .val (.int (0 : Int32)), .val (.int (2 : Int32))] [(.ref x), (.int (2 : Int32)), (.ref ar)])) rfl rfl (hb hby d8_30)
  change own_S _ _ _ _ _ _ _ _ _ _ _ _ _ _ [(x, own_O "com/example/recourse/recourse/network/NodeHeap" [("com/example/recourse/recourse/network/NodeHeap", "nodes", "[I", .ref an), ("com/example/recourse/recourse/network/NodeHeap", "distances", "[D", .ref ad), ("com/example/recourse/recourse/network/NodeHeap", "remainders", "[D", .ref ar), ("com/example/recourse/recourse/network/NodeHeap", "size", "I", .int sz)]), (an, own_A .int ((.int n0) :: (.int n1) :: (.int n0) :: List.replicate mm (.int 0))), (ad, own_A .double ((.double d0) :: (.double d1) :: (.double d0) :: List.replicate mm (.double 0))), (ar, own_A .double ((.double r0) :: (.double r1) :: (.double r2) :: List.replicate mm (.double 0)))] _ _ at Hmv02_10
  obtain ⟨Tmv02_12, Hmv02_12, stmv02_12⟩ := own_dastore Hmv02_10 hx hZ 3 2 rfl (by decide) (Nat.le_of_ble_eq_true rfl) (g := (mkF m 35 #[.val (.ref x), .val (.int (0 : Int32)), .val (.int (2 : Int32))] [(.double r0), (.int (2 : Int32)), (.ref ar)])) rfl rfl (hb hby d8_35)
  change own_S _ _ _ _ _ _ _ _ _ _ _ _ _ _ [(x, own_O "com/example/recourse/recourse/network/NodeHeap" [("com/example/recourse/recourse/network/NodeHeap", "nodes", "[I", .ref an), ("com/example/recourse/recourse/network/NodeHeap", "distances", "[D", .ref ad), ("com/example/recourse/recourse/network/NodeHeap", "remainders", "[D", .ref ar), ("com/example/recourse/recourse/network/NodeHeap", "size", "I", .int sz)]), (an, own_A .int ((.int n0) :: (.int n1) :: (.int n0) :: List.replicate mm (.int 0))), (ad, own_A .double ((.double d0) :: (.double d1) :: (.double d0) :: List.replicate mm (.double 0))), (ar, own_A .double ((.double r0) :: (.double r1) :: (.double r0) :: List.replicate mm (.double 0)))] _ _ at Hmv02_12
  refine ⟨_, _, _, _, 36, #[.val (.ref x), .val (.int (0 : Int32)), .val (.int (2 : Int32))], Hmv02_12, by decide, by decide, Or.inl ⟨rfl, ⟨rfl, rfl⟩, d8_36, fun target q => ?_⟩⟩
  refine own_go H0 hx hZ hown hby hw own_K8_ok (own_mv02_0 x) _ ?_
  refine stmv02_1 _ ?_
  refine own_go Hmv02_1 hx hZ hown hby hw own_K8_ok (own_mv02_1 x an) _ ?_
  refine stmv02_2 _ ?_
  refine own_go Hmv02_2 hx hZ hown hby hw own_K8_ok (own_mv02_2 x an) _ ?_
  refine own_iaload Hmv02_2 hx hZ 1 0 rfl (by decide) rfl (g := (mkF m 10 #[.val (.ref x), .val (.int (0 : Int32)), .val (.int (2 : Int32))] [(.int (0 : Int32)), (.ref an), (.int (2 : Int32)), (.ref an)])) rfl rfl (hb hby d8_10) _ ?_
  refine stmv02_4 _ ?_
  refine own_go Hmv02_4 hx hZ hown hby hw own_K8_ok (own_mv02_3 x) _ ?_
  refine stmv02_5 _ ?_
  refine own_go Hmv02_5 hx hZ hown hby hw own_K8_ok (own_mv02_4 x ad) _ ?_
  refine stmv02_6 _ ?_
  refine own_go Hmv02_6 hx hZ hown hby hw own_K8_ok (own_mv02_5 x ad) _ ?_
  refine own_daload Hmv02_6 hx hZ 2 0 rfl (by decide) rfl (g := (mkF m 22 #[.val (.ref x), .val (.int (0 : Int32)), .val (.int (2 : Int32))] [(.int (0 : Int32)), (.ref ad), (.int (2 : Int32)), (.ref ad)])) rfl rfl (hb hby d8_22) _ ?_
  refine stmv02_8 _ ?_
  refine own_go Hmv02_8 hx hZ hown hby hw own_K8_ok (own_mv02_6 x) _ ?_
  refine stmv02_9 _ ?_
  refine own_go Hmv02_9 hx hZ hown hby hw own_K8_ok (own_mv02_7 x ar) _ ?_
  refine stmv02_10 _ ?_
  refine own_go Hmv02_10 hx hZ hown hby hw own_K8_ok (own_mv02_8 x ar) _ ?_
  refine own_daload Hmv02_10 hx hZ 3 0 rfl (by decide) rfl (g := (mkF m 34 #[.val (.ref x), .val (.int (0 : Int32)), .val (.int (2 : Int32))] [(.int (0 : Int32)), (.ref ar), (.int (2 : Int32)), (.ref ar)])) rfl rfl (hb hby d8_34) _ ?_
  refine stmv02_12 _ ?_
  exact q
theorem own_mv10_0 (x : Addr) :
    own_Go own_K8 prog_51_method_7_code 0 #[.val (.ref x), .val (.int (1 : Int32)), .val (.int (0 : Int32))] [] 1 #[.val (.ref x), .val (.int (1 : Int32)), .val (.int (0 : Int32))] [(.ref x)] := by
  refine own_aloadN (pc2 := 1) d8_0 rfl rfl rfl ?_
  exact own_refl
theorem own_mv10_1 (x : Addr) (an : Addr) :
    own_Go own_K8 prog_51_method_7_code 4 #[.val (.ref x), .val (.int (1 : Int32)), .val (.int (0 : Int32))] [(.ref an)] 6 #[.val (.ref x), .val (.int (1 : Int32)), .val (.int (0 : Int32))] [(.ref x), (.int (0 : Int32)), (.ref an)] := by
  refine own_iloadN (pc2 := 5) d8_4 rfl rfl ?_
  refine own_aloadN (pc2 := 6) d8_5 rfl rfl rfl ?_
  exact own_refl
theorem own_mv10_2 (x : Addr) (an : Addr) :
    own_Go own_K8 prog_51_method_7_code 9 #[.val (.ref x), .val (.int (1 : Int32)), .val (.int (0 : Int32))] [(.ref an), (.int (0 : Int32)), (.ref an)] 10 #[.val (.ref x), .val (.int (1 : Int32)), .val (.int (0 : Int32))] [(.int (1 : Int32)), (.ref an), (.int (0 : Int32)), (.ref an)] := by
  refine own_iloadN (pc2 := 10) d8_9 rfl rfl ?_
  exact own_refl
theorem own_mv10_3 (x : Addr) :
    own_Go own_K8 prog_51_method_7_code 12 #[.val (.ref x), .val (.int (1 : Int32)), .val (.int (0 : Int32))] [] 13 #[.val (.ref x), .val (.int (1 : Int32)), .val (.int (0 : Int32))] [(.ref x)] := by
  refine own_aloadN (pc2 := 13) d8_12 rfl rfl rfl ?_
  exact own_refl
theorem own_mv10_4 (x : Addr) (ad : Addr) :
    own_Go own_K8 prog_51_method_7_code 16 #[.val (.ref x), .val (.int (1 : Int32)), .val (.int (0 : Int32))] [(.ref ad)] 18 #[.val (.ref x), .val (.int (1 : Int32)), .val (.int (0 : Int32))] [(.ref x), (.int (0 : Int32)), (.ref ad)] := by
  refine own_iloadN (pc2 := 17) d8_16 rfl rfl ?_
  refine own_aloadN (pc2 := 18) d8_17 rfl rfl rfl ?_
  exact own_refl
theorem own_mv10_5 (x : Addr) (ad : Addr) :
    own_Go own_K8 prog_51_method_7_code 21 #[.val (.ref x), .val (.int (1 : Int32)), .val (.int (0 : Int32))] [(.ref ad), (.int (0 : Int32)), (.ref ad)] 22 #[.val (.ref x), .val (.int (1 : Int32)), .val (.int (0 : Int32))] [(.int (1 : Int32)), (.ref ad), (.int (0 : Int32)), (.ref ad)] := by
  refine own_iloadN (pc2 := 22) d8_21 rfl rfl ?_
  exact own_refl
theorem own_mv10_6 (x : Addr) :
    own_Go own_K8 prog_51_method_7_code 24 #[.val (.ref x), .val (.int (1 : Int32)), .val (.int (0 : Int32))] [] 25 #[.val (.ref x), .val (.int (1 : Int32)), .val (.int (0 : Int32))] [(.ref x)] := by
  refine own_aloadN (pc2 := 25) d8_24 rfl rfl rfl ?_
  exact own_refl
theorem own_mv10_7 (x : Addr) (ar : Addr) :
    own_Go own_K8 prog_51_method_7_code 28 #[.val (.ref x), .val (.int (1 : Int32)), .val (.int (0 : Int32))] [(.ref ar)] 30 #[.val (.ref x), .val (.int (1 : Int32)), .val (.int (0 : Int32))] [(.ref x), (.int (0 : Int32)), (.ref ar)] := by
  refine own_iloadN (pc2 := 29) d8_28 rfl rfl ?_
  refine own_aloadN (pc2 := 30) d8_29 rfl rfl rfl ?_
  exact own_refl
theorem own_mv10_8 (x : Addr) (ar : Addr) :
    own_Go own_K8 prog_51_method_7_code 33 #[.val (.ref x), .val (.int (1 : Int32)), .val (.int (0 : Int32))] [(.ref ar), (.int (0 : Int32)), (.ref ar)] 34 #[.val (.ref x), .val (.int (1 : Int32)), .val (.int (0 : Int32))] [(.int (1 : Int32)), (.ref ar), (.int (0 : Int32)), (.ref ar)] := by
  refine own_iloadN (pc2 := 34) d8_33 rfl rfl ?_
  exact own_refl
set_option maxRecDepth 65536 in
set_option maxHeartbeats 4000000 in
theorem own_move10 (l : Launch) (Z : State) (a0 : Array Value) (hb0 : Heap) (hw : ∀ d ∈ tables_1, d.before a0 Z = true) (x : Addr) (an ad ar : Addr) (mm : Nat) (n0 n1 n2 : Int32) (d0 d1 d2 r0 r1 r2 : UInt64) (sz : Int32) :
    own_Met l Z a0 hb0 (⟨"com/example/recourse/recourse/network/NodeHeap", "move", "(II)V"⟩ : MethodName) prog_51_method_7_code 3 none [] ({ frames := 0, cells := 0, slots := 0, locals := 0 } : Room) #[(.ref x), (.int (1 : Int32)), (.int (0 : Int32))] [(x, own_O "com/example/recourse/recourse/network/NodeHeap" [("com/example/recourse/recourse/network/NodeHeap", "nodes", "[I", .ref an), ("com/example/recourse/recourse/network/NodeHeap", "distances", "[D", .ref ad), ("com/example/recourse/recourse/network/NodeHeap", "remainders", "[D", .ref ar), ("com/example/recourse/recourse/network/NodeHeap", "size", "I", .int sz)]), (an, own_A .int ((.int n0) :: (.int n1) :: (.int n2) :: List.replicate mm (.int 0))), (ad, own_A .double ((.double d0) :: (.double d1) :: (.double d2) :: List.replicate mm (.double 0))), (ar, own_A .double ((.double r0) :: (.double r1) :: (.double r2) :: List.replicate mm (.double 0)))] (fun v cs' => v = none ∧ cs' = [(x, own_O "com/example/recourse/recourse/network/NodeHeap" [("com/example/recourse/recourse/network/NodeHeap", "nodes", "[I", .ref an), ("com/example/recourse/recourse/network/NodeHeap", "distances", "[D", .ref ad), ("com/example/recourse/recourse/network/NodeHeap", "remainders", "[D", .ref ar), ("com/example/recourse/recourse/network/NodeHeap", "size", "I", .int sz)]), (an, own_A .int ((.int n1) :: (.int n1) :: (.int n2) :: List.replicate mm (.int 0))), (ad, own_A .double ((.double d1) :: (.double d1) :: (.double d2) :: List.replicate mm (.double 0))), (ar, own_A .double ((.double r1) :: (.double r1) :: (.double r2) :: List.replicate mm (.double 0)))]) := by
  refine own_met_of (L0 := #[.val (.ref x), .val (.int (1 : Int32)), .val (.int (0 : Int32))]) (plainFor_of_name own_pn8) (fun m => own_ef8 m x (1 : Int32) (0 : Int32)) ?_
  intro p e s m below meth c T0 hx hZ hown hby hml hnm H0
  obtain ⟨Tmv10_1, Hmv10_1, stmv10_1⟩ := own_getF H0 hx hZ hown (hw _ (List.mem_of_getElem? (i := 14) rfl)) 0 0 rfl rfl (g := (mkF m 1 #[.val (.ref x), .val (.int (1 : Int32)), .val (.int (0 : Int32))] [(.ref x)])) rfl rfl (hb hby d8_1)
  change own_S _ _ _ _ _ _ _ _ _ _ _ _ _ _ [(x, own_O "com/example/recourse/recourse/network/NodeHeap" [("com/example/recourse/recourse/network/NodeHeap", "nodes", "[I", .ref an), ("com/example/recourse/recourse/network/NodeHeap", "distances", "[D", .ref ad), ("com/example/recourse/recourse/network/NodeHeap", "remainders", "[D", .ref ar), ("com/example/recourse/recourse/network/NodeHeap", "size", "I", .int sz)]), (an, own_A .int ((.int n0) :: (.int n1) :: (.int n2) :: List.replicate mm (.int 0))), (ad, own_A .double ((.double d0) :: (.double d1) :: (.double d2) :: List.replicate mm (.double 0))), (ar, own_A .double ((.double r0) :: (.double r1) :: (.double r2) :: List.replicate mm (.double 0)))] _ _ at Hmv10_1
  obtain ⟨Tmv10_2, Hmv10_2, stmv10_2⟩ := own_getF Hmv10_1 hx hZ hown (hw _ (List.mem_of_getElem? (i := 14) rfl)) 0 0 rfl rfl (g := (mkF m 6 #[.val (.ref x), .val (.int (1 : Int32)), .val (.int (0 : Int32))] [(.ref x), (.int (0 : Int32)), (.ref an)])) rfl rfl (hb hby d8_6)
  change own_S _ _ _ _ _ _ _ _ _ _ _ _ _ _ [(x, own_O "com/example/recourse/recourse/network/NodeHeap" [("com/example/recourse/recourse/network/NodeHeap", "nodes", "[I", .ref an), ("com/example/recourse/recourse/network/NodeHeap", "distances", "[D", .ref ad), ("com/example/recourse/recourse/network/NodeHeap", "remainders", "[D", .ref ar), ("com/example/recourse/recourse/network/NodeHeap", "size", "I", .int sz)]), (an, own_A .int ((.int n0) :: (.int n1) :: (.int n2) :: List.replicate mm (.int 0))), (ad, own_A .double ((.double d0) :: (.double d1) :: (.double d2) :: List.replicate mm (.double 0))), (ar, own_A .double ((.double r0) :: (.double r1) :: (.double r2) :: List.replicate mm (.double 0)))] _ _ at Hmv10_2
  obtain ⟨Tmv10_4, Hmv10_4, stmv10_4⟩ := own_iastore Hmv10_2 hx hZ 1 0 rfl (by decide) (Nat.le_of_ble_eq_true rfl) (g := (mkF m 11 #[.val (.ref x), .val (.int (1 : Int32)), .val (.int (0 : Int32))] [(.int n1), (.int (0 : Int32)), (.ref an)])) rfl rfl (hb hby d8_11)
  change own_S _ _ _ _ _ _ _ _ _ _ _ _ _ _ [(x, own_O "com/example/recourse/recourse/network/NodeHeap" [("com/example/recourse/recourse/network/NodeHeap", "nodes", "[I", .ref an), ("com/example/recourse/recourse/network/NodeHeap", "distances", "[D", .ref ad), ("com/example/recourse/recourse/network/NodeHeap", "remainders", "[D", .ref ar), ("com/example/recourse/recourse/network/NodeHeap", "size", "I", .int sz)]), (an, own_A .int ((.int n1) :: (.int n1) :: (.int n2) :: List.replicate mm (.int 0))), (ad, own_A .double ((.double d0) :: (.double d1) :: (.double d2) :: List.replicate mm (.double 0))), (ar, own_A .double ((.double r0) :: (.double r1) :: (.double r2) :: List.replicate mm (.double 0)))] _ _ at Hmv10_4
  obtain ⟨Tmv10_5, Hmv10_5, stmv10_5⟩ := own_getF Hmv10_4 hx hZ hown (hw _ (List.mem_of_getElem? (i := 17) rfl)) 0 1 rfl rfl (g := (mkF m 13 #[.val (.ref x), .val (.int (1 : Int32)), .val (.int (0 : Int32))] [(.ref x)])) rfl rfl (hb hby d8_13)
  change own_S _ _ _ _ _ _ _ _ _ _ _ _ _ _ [(x, own_O "com/example/recourse/recourse/network/NodeHeap" [("com/example/recourse/recourse/network/NodeHeap", "nodes", "[I", .ref an), ("com/example/recourse/recourse/network/NodeHeap", "distances", "[D", .ref ad), ("com/example/recourse/recourse/network/NodeHeap", "remainders", "[D", .ref ar), ("com/example/recourse/recourse/network/NodeHeap", "size", "I", .int sz)]), (an, own_A .int ((.int n1) :: (.int n1) :: (.int n2) :: List.replicate mm (.int 0))), (ad, own_A .double ((.double d0) :: (.double d1) :: (.double d2) :: List.replicate mm (.double 0))), (ar, own_A .double ((.double r0) :: (.double r1) :: (.double r2) :: List.replicate mm (.double 0)))] _ _ at Hmv10_5
  obtain ⟨Tmv10_6, Hmv10_6, stmv10_6⟩ := own_getF Hmv10_5 hx hZ hown (hw _ (List.mem_of_getElem? (i := 17) rfl)) 0 1 rfl rfl (g := (mkF m 18 #[.val (.ref x), .val (.int (1 : Int32)), .val (.int (0 : Int32))] [(.ref x), (.int (0 : Int32)), (.ref ad)])) rfl rfl (hb hby d8_18)
  change own_S _ _ _ _ _ _ _ _ _ _ _ _ _ _ [(x, own_O "com/example/recourse/recourse/network/NodeHeap" [("com/example/recourse/recourse/network/NodeHeap", "nodes", "[I", .ref an), ("com/example/recourse/recourse/network/NodeHeap", "distances", "[D", .ref ad), ("com/example/recourse/recourse/network/NodeHeap", "remainders", "[D", .ref ar), ("com/example/recourse/recourse/network/NodeHeap", "size", "I", .int sz)]), (an, own_A .int ((.int n1) :: (.int n1) :: (.int n2) :: List.replicate mm (.int 0))), (ad, own_A .double ((.double d0) :: (.double d1) :: (.double d2) :: List.replicate mm (.double 0))), (ar, own_A .double ((.double r0) :: (.double r1) :: (.double r2) :: List.replicate mm (.double 0)))] _ _ at Hmv10_6
  obtain ⟨Tmv10_8, Hmv10_8, stmv10_8⟩ := own_dastore Hmv10_6 hx hZ 2 0 rfl (by decide) (Nat.le_of_ble_eq_true rfl) (g := (mkF m 23 #[.val (.ref x), .val (.int (1 : Int32)), .val (.int (0 : Int32))] [(.double d1), (.int (0 : Int32)), (.ref ad)])) rfl rfl (hb hby d8_23)
  change own_S _ _ _ _ _ _ _ _ _ _ _ _ _ _ [(x, own_O "com/example/recourse/recourse/network/NodeHeap" [("com/example/recourse/recourse/network/NodeHeap", "nodes", "[I", .ref an), ("com/example/recourse/recourse/network/NodeHeap", "distances", "[D", .ref ad), ("com/example/recourse/recourse/network/NodeHeap", "remainders", "[D", .ref ar), ("com/example/recourse/recourse/network/NodeHeap", "size", "I", .int sz)]), (an, own_A .int ((.int n1) :: (.int n1) :: (.int n2) :: List.replicate mm (.int 0))), (ad, own_A .double ((.double d1) :: (.double d1) :: (.double d2) :: List.replicate mm (.double 0))), (ar, own_A .double ((.double r0) :: (.double r1) :: (.double r2) :: List.replicate mm (.double 0)))] _ _ at Hmv10_8
  obtain ⟨Tmv10_9, Hmv10_9, stmv10_9⟩ := own_getF Hmv10_8 hx hZ hown (hw _ (List.mem_of_getElem? (i := 19) rfl)) 0 2 rfl rfl (g := (mkF m 25 #[.val (.ref x), .val (.int (1 : Int32)), .val (.int (0 : Int32))] [(.ref x)])) rfl rfl (hb hby d8_25)
  change own_S _ _ _ _ _ _ _ _ _ _ _ _ _ _ [(x, own_O "com/example/recourse/recourse/network/NodeHeap" [("com/example/recourse/recourse/network/NodeHeap", "nodes", "[I", .ref an), ("com/example/recourse/recourse/network/NodeHeap", "distances", "[D", .ref ad), ("com/example/recourse/recourse/network/NodeHeap", "remainders", "[D", .ref ar), ("com/example/recourse/recourse/network/NodeHeap", "size", "I", .int sz)]), (an, own_A .int ((.int n1) :: (.int n1) :: (.int n2) :: List.replicate mm (.int 0))), (ad, own_A .double ((.double d1) :: (.double d1) :: (.double d2) :: List.replicate mm (.double 0))), (ar, own_A .double ((.double r0) :: (.double r1) :: (.double r2) :: List.replicate mm (.double 0)))] _ _ at Hmv10_9
  obtain ⟨Tmv10_10, Hmv10_10, stmv10_10⟩ := own_getF Hmv10_9 hx hZ hown (hw _ (List.mem_of_getElem? (i := 19) rfl)) 0 2 rfl rfl (g := (mkF m 30 #[.val (.ref x), .val (.int (1 : Int32)), .val (.int (0 : Int32))] [(.ref x), (.int (0 : Int32)), (.ref ar)])) rfl rfl (hb hby d8_30)
  change own_S _ _ _ _ _ _ _ _ _ _ _ _ _ _ [(x, own_O "com/example/recourse/recourse/network/NodeHeap" [("com/example/recourse/recourse/network/NodeHeap", "nodes", "[I", .ref an), ("com/example/recourse/recourse/network/NodeHeap", "distances", "[D", .ref ad), ("com/example/recourse/recourse/network/NodeHeap", "remainders", "[D", .ref ar), ("com/example/recourse/recourse/network/NodeHeap", "size", "I", .int sz)]), (an, own_A .int ((.int n1) :: (.int n1) :: (.int n2) :: List.replicate mm (.int 0))), (ad, own_A .double ((.double d1) :: (.double d1) :: (.double d2) :: List.replicate mm (.double 0))), (ar, own_A .double ((.double r0) :: (.double r1) :: (.double r2) :: List.replicate mm (.double 0)))] _ _ at Hmv10_10
  obtain ⟨Tmv10_12, Hmv10_12, stmv10_12⟩ := own_dastore Hmv10_10 hx hZ 3 0 rfl (by decide) (Nat.le_of_ble_eq_true rfl) (g := (mkF m 35 #[.val (.ref x), .val (.int (1 : Int32)), .val (.int (0 : Int32))] [(.double r1), (.int (0 : Int32)), (.ref ar)])) rfl rfl (hb hby d8_35)
  change own_S _ _ _ _ _ _ _ _ _ _ _ _ _ _ [(x, own_O "com/example/recourse/recourse/network/NodeHeap" [("com/example/recourse/recourse/network/NodeHeap", "nodes", "[I", .ref an), ("com/example/recourse/recourse/network/NodeHeap", "distances", "[D", .ref ad), ("com/example/recourse/recourse/network/NodeHeap", "remainders", "[D", .ref ar), ("com/example/recourse/recourse/network/NodeHeap", "size", "I", .int sz)]), (an, own_A .int ((.int n1) :: (.int n1) :: (.int n2) :: List.replicate mm (.int 0))), (ad, own_A .double ((.double d1) :: (.double d1) :: (.double d2) :: List.replicate mm (.double 0))), (ar, own_A .double ((.double r1) :: (.double r1) :: (.double r2) :: List.replicate mm (.double 0)))] _ _ at Hmv10_12
  refine ⟨_, _, _, _, 36, #[.val (.ref x), .val (.int (1 : Int32)), .val (.int (0 : Int32))], Hmv10_12, by decide, by decide, Or.inl ⟨rfl, ⟨rfl, rfl⟩, d8_36, fun target q => ?_⟩⟩
  refine own_go H0 hx hZ hown hby hw own_K8_ok (own_mv10_0 x) _ ?_
  refine stmv10_1 _ ?_
  refine own_go Hmv10_1 hx hZ hown hby hw own_K8_ok (own_mv10_1 x an) _ ?_
  refine stmv10_2 _ ?_
  refine own_go Hmv10_2 hx hZ hown hby hw own_K8_ok (own_mv10_2 x an) _ ?_
  refine own_iaload Hmv10_2 hx hZ 1 1 rfl (by decide) rfl (g := (mkF m 10 #[.val (.ref x), .val (.int (1 : Int32)), .val (.int (0 : Int32))] [(.int (1 : Int32)), (.ref an), (.int (0 : Int32)), (.ref an)])) rfl rfl (hb hby d8_10) _ ?_
  refine stmv10_4 _ ?_
  refine own_go Hmv10_4 hx hZ hown hby hw own_K8_ok (own_mv10_3 x) _ ?_
  refine stmv10_5 _ ?_
  refine own_go Hmv10_5 hx hZ hown hby hw own_K8_ok (own_mv10_4 x ad) _ ?_
  refine stmv10_6 _ ?_
  refine own_go Hmv10_6 hx hZ hown hby hw own_K8_ok (own_mv10_5 x ad) _ ?_
  refine own_daload Hmv10_6 hx hZ 2 1 rfl (by decide) rfl (g := (mkF m 22 #[.val (.ref x), .val (.int (1 : Int32)), .val (.int (0 : Int32))] [(.int (1 : Int32)), (.ref ad), (.int (0 : Int32)), (.ref ad)])) rfl rfl (hb hby d8_22) _ ?_
  refine stmv10_8 _ ?_
  refine own_go Hmv10_8 hx hZ hown hby hw own_K8_ok (own_mv10_6 x) _ ?_
  refine stmv10_9 _ ?_
  refine own_go Hmv10_9 hx hZ hown hby hw own_K8_ok (own_mv10_7 x ar) _ ?_
  refine stmv10_10 _ ?_
  refine own_go Hmv10_10 hx hZ hown hby hw own_K8_ok (own_mv10_8 x ar) _ ?_
  refine own_daload Hmv10_10 hx hZ 3 1 rfl (by decide) rfl (g := (mkF m 34 #[.val (.ref x), .val (.int (1 : Int32)), .val (.int (0 : Int32))] [(.int (1 : Int32)), (.ref ar), (.int (0 : Int32)), (.ref ar)])) rfl rfl (hb hby d8_34) _ ?_
  refine stmv10_12 _ ?_
  exact q
theorem own_e0_0 (x : Addr) :
    own_Go own_K4 prog_51_method_2_code 0 #[.val (.ref x)] [] 1 #[.val (.ref x)] [(.ref x)] := by
  refine own_aloadN (pc2 := 1) d4_0 rfl rfl rfl ?_
  exact own_refl
theorem own_e0_1 (x : Addr) :
    own_Go own_K4 prog_51_method_2_code 4 #[.val (.ref x)] [(.int (0 : Int32))] 12 #[.val (.ref x)] [(.int (1 : Int32))] := by
  refine own_ifNo (pc2 := 7) d4_4 rfl (by decide) ?_
  refine own_iconst (v := 1) (pc2 := 8) d4_7 rfl rfl ?_
  refine own_goto (pc' := 12) d4_8 (by decide) (by decide) ?_
  exact own_refl
set_option maxRecDepth 65536 in
set_option maxHeartbeats 4000000 in
theorem own_emp0 (l : Launch) (Z : State) (a0 : Array Value) (hb0 : Heap) (hw : ∀ d ∈ tables_1, d.before a0 Z = true) (x : Addr) (an ad ar : Addr) (mm : Nat) (n0 n1 n2 : Int32) (d0 d1 d2 r0 r1 r2 : UInt64) :
    own_Met l Z a0 hb0 (⟨"com/example/recourse/recourse/network/NodeHeap", "isEmpty", "()Z"⟩ : MethodName) prog_51_method_2_code 1 (some .boolean) [] ({ frames := 0, cells := 0, slots := 0, locals := 0 } : Room) #[(.ref x)] [(x, own_O "com/example/recourse/recourse/network/NodeHeap" [("com/example/recourse/recourse/network/NodeHeap", "nodes", "[I", .ref an), ("com/example/recourse/recourse/network/NodeHeap", "distances", "[D", .ref ad), ("com/example/recourse/recourse/network/NodeHeap", "remainders", "[D", .ref ar), ("com/example/recourse/recourse/network/NodeHeap", "size", "I", .int 0)]), (an, own_A .int ((.int n0) :: (.int n1) :: (.int n2) :: List.replicate mm (.int 0))), (ad, own_A .double ((.double d0) :: (.double d1) :: (.double d2) :: List.replicate mm (.double 0))), (ar, own_A .double ((.double r0) :: (.double r1) :: (.double r2) :: List.replicate mm (.double 0)))] (fun v cs' => v = some (.int 1) ∧ cs' = [(x, own_O "com/example/recourse/recourse/network/NodeHeap" [("com/example/recourse/recourse/network/NodeHeap", "nodes", "[I", .ref an), ("com/example/recourse/recourse/network/NodeHeap", "distances", "[D", .ref ad), ("com/example/recourse/recourse/network/NodeHeap", "remainders", "[D", .ref ar), ("com/example/recourse/recourse/network/NodeHeap", "size", "I", .int 0)]), (an, own_A .int ((.int n0) :: (.int n1) :: (.int n2) :: List.replicate mm (.int 0))), (ad, own_A .double ((.double d0) :: (.double d1) :: (.double d2) :: List.replicate mm (.double 0))), (ar, own_A .double ((.double r0) :: (.double r1) :: (.double r2) :: List.replicate mm (.double 0)))]) := by
  refine own_met_of (L0 := #[.val (.ref x)]) (plainFor_of_name own_pn4) (fun m => own_ef4 m x) ?_
  intro p e s m below meth c T0 hx hZ hown hby hml hnm H0
  obtain ⟨Te0_1, He0_1, ste0_1⟩ := own_getF H0 hx hZ hown (hw _ (List.mem_of_getElem? (i := 26) rfl)) 0 3 rfl rfl (g := (mkF m 1 #[.val (.ref x)] [(.ref x)])) rfl rfl (hb hby d4_1)
  change own_S _ _ _ _ _ _ _ _ _ _ _ _ _ _ [(x, own_O "com/example/recourse/recourse/network/NodeHeap" [("com/example/recourse/recourse/network/NodeHeap", "nodes", "[I", .ref an), ("com/example/recourse/recourse/network/NodeHeap", "distances", "[D", .ref ad), ("com/example/recourse/recourse/network/NodeHeap", "remainders", "[D", .ref ar), ("com/example/recourse/recourse/network/NodeHeap", "size", "I", .int 0)]), (an, own_A .int ((.int n0) :: (.int n1) :: (.int n2) :: List.replicate mm (.int 0))), (ad, own_A .double ((.double d0) :: (.double d1) :: (.double d2) :: List.replicate mm (.double 0))), (ar, own_A .double ((.double r0) :: (.double r1) :: (.double r2) :: List.replicate mm (.double 0)))] _ _ at He0_1
  refine ⟨_, _, _, _, 12, #[.val (.ref x)], He0_1, by decide, by decide, Or.inr ⟨.boolean, (.int (1 : Int32)), [], .ireturn, rfl, ⟨rfl, rfl⟩, d4_12, own_retZ (Or.inr rfl), fun target q => ?_⟩⟩
  refine own_go H0 hx hZ hown hby hw own_K4_ok (own_e0_0 x) _ ?_
  refine ste0_1 _ ?_
  refine own_go He0_1 hx hZ hown hby hw own_K4_ok (own_e0_1 x) _ ?_
  exact q
theorem own_e1_0 (x : Addr) :
    own_Go own_K4 prog_51_method_2_code 0 #[.val (.ref x)] [] 1 #[.val (.ref x)] [(.ref x)] := by
  refine own_aloadN (pc2 := 1) d4_0 rfl rfl rfl ?_
  exact own_refl
theorem own_e1_1 (x : Addr) :
    own_Go own_K4 prog_51_method_2_code 4 #[.val (.ref x)] [(.int (1 : Int32))] 12 #[.val (.ref x)] [(.int (0 : Int32))] := by
  refine own_ifYes (pc' := 11) d4_4 (by decide) (by decide) (by decide) ?_
  refine own_iconst (v := 0) (pc2 := 12) d4_11 rfl rfl ?_
  exact own_refl
set_option maxRecDepth 65536 in
set_option maxHeartbeats 4000000 in
theorem own_emp1 (l : Launch) (Z : State) (a0 : Array Value) (hb0 : Heap) (hw : ∀ d ∈ tables_1, d.before a0 Z = true) (x : Addr) (an ad ar : Addr) (mm : Nat) (n0 n1 n2 : Int32) (d0 d1 d2 r0 r1 r2 : UInt64) :
    own_Met l Z a0 hb0 (⟨"com/example/recourse/recourse/network/NodeHeap", "isEmpty", "()Z"⟩ : MethodName) prog_51_method_2_code 1 (some .boolean) [] ({ frames := 0, cells := 0, slots := 0, locals := 0 } : Room) #[(.ref x)] [(x, own_O "com/example/recourse/recourse/network/NodeHeap" [("com/example/recourse/recourse/network/NodeHeap", "nodes", "[I", .ref an), ("com/example/recourse/recourse/network/NodeHeap", "distances", "[D", .ref ad), ("com/example/recourse/recourse/network/NodeHeap", "remainders", "[D", .ref ar), ("com/example/recourse/recourse/network/NodeHeap", "size", "I", .int 1)]), (an, own_A .int ((.int n0) :: (.int n1) :: (.int n2) :: List.replicate mm (.int 0))), (ad, own_A .double ((.double d0) :: (.double d1) :: (.double d2) :: List.replicate mm (.double 0))), (ar, own_A .double ((.double r0) :: (.double r1) :: (.double r2) :: List.replicate mm (.double 0)))] (fun v cs' => v = some (.int 0) ∧ cs' = [(x, own_O "com/example/recourse/recourse/network/NodeHeap" [("com/example/recourse/recourse/network/NodeHeap", "nodes", "[I", .ref an), ("com/example/recourse/recourse/network/NodeHeap", "distances", "[D", .ref ad), ("com/example/recourse/recourse/network/NodeHeap", "remainders", "[D", .ref ar), ("com/example/recourse/recourse/network/NodeHeap", "size", "I", .int 1)]), (an, own_A .int ((.int n0) :: (.int n1) :: (.int n2) :: List.replicate mm (.int 0))), (ad, own_A .double ((.double d0) :: (.double d1) :: (.double d2) :: List.replicate mm (.double 0))), (ar, own_A .double ((.double r0) :: (.double r1) :: (.double r2) :: List.replicate mm (.double 0)))]) := by
  refine own_met_of (L0 := #[.val (.ref x)]) (plainFor_of_name own_pn4) (fun m => own_ef4 m x) ?_
  intro p e s m below meth c T0 hx hZ hown hby hml hnm H0
  obtain ⟨Te1_1, He1_1, ste1_1⟩ := own_getF H0 hx hZ hown (hw _ (List.mem_of_getElem? (i := 26) rfl)) 0 3 rfl rfl (g := (mkF m 1 #[.val (.ref x)] [(.ref x)])) rfl rfl (hb hby d4_1)
  change own_S _ _ _ _ _ _ _ _ _ _ _ _ _ _ [(x, own_O "com/example/recourse/recourse/network/NodeHeap" [("com/example/recourse/recourse/network/NodeHeap", "nodes", "[I", .ref an), ("com/example/recourse/recourse/network/NodeHeap", "distances", "[D", .ref ad), ("com/example/recourse/recourse/network/NodeHeap", "remainders", "[D", .ref ar), ("com/example/recourse/recourse/network/NodeHeap", "size", "I", .int 1)]), (an, own_A .int ((.int n0) :: (.int n1) :: (.int n2) :: List.replicate mm (.int 0))), (ad, own_A .double ((.double d0) :: (.double d1) :: (.double d2) :: List.replicate mm (.double 0))), (ar, own_A .double ((.double r0) :: (.double r1) :: (.double r2) :: List.replicate mm (.double 0)))] _ _ at He1_1
  refine ⟨_, _, _, _, 12, #[.val (.ref x)], He1_1, by decide, by decide, Or.inr ⟨.boolean, (.int (0 : Int32)), [], .ireturn, rfl, ⟨rfl, rfl⟩, d4_12, own_retZ (Or.inl rfl), fun target q => ?_⟩⟩
  refine own_go H0 hx hZ hown hby hw own_K4_ok (own_e1_0 x) _ ?_
  refine ste1_1 _ ?_
  refine own_go He1_1 hx hZ hown hby hw own_K4_ok (own_e1_1 x) _ ?_
  exact q
theorem own_e2_0 (x : Addr) :
    own_Go own_K4 prog_51_method_2_code 0 #[.val (.ref x)] [] 1 #[.val (.ref x)] [(.ref x)] := by
  refine own_aloadN (pc2 := 1) d4_0 rfl rfl rfl ?_
  exact own_refl
theorem own_e2_1 (x : Addr) :
    own_Go own_K4 prog_51_method_2_code 4 #[.val (.ref x)] [(.int (2 : Int32))] 12 #[.val (.ref x)] [(.int (0 : Int32))] := by
  refine own_ifYes (pc' := 11) d4_4 (by decide) (by decide) (by decide) ?_
  refine own_iconst (v := 0) (pc2 := 12) d4_11 rfl rfl ?_
  exact own_refl
set_option maxRecDepth 65536 in
set_option maxHeartbeats 4000000 in
theorem own_emp2 (l : Launch) (Z : State) (a0 : Array Value) (hb0 : Heap) (hw : ∀ d ∈ tables_1, d.before a0 Z = true) (x : Addr) (an ad ar : Addr) (mm : Nat) (n0 n1 n2 : Int32) (d0 d1 d2 r0 r1 r2 : UInt64) :
    own_Met l Z a0 hb0 (⟨"com/example/recourse/recourse/network/NodeHeap", "isEmpty", "()Z"⟩ : MethodName) prog_51_method_2_code 1 (some .boolean) [] ({ frames := 0, cells := 0, slots := 0, locals := 0 } : Room) #[(.ref x)] [(x, own_O "com/example/recourse/recourse/network/NodeHeap" [("com/example/recourse/recourse/network/NodeHeap", "nodes", "[I", .ref an), ("com/example/recourse/recourse/network/NodeHeap", "distances", "[D", .ref ad), ("com/example/recourse/recourse/network/NodeHeap", "remainders", "[D", .ref ar), ("com/example/recourse/recourse/network/NodeHeap", "size", "I", .int 2)]), (an, own_A .int ((.int n0) :: (.int n1) :: (.int n2) :: List.replicate mm (.int 0))), (ad, own_A .double ((.double d0) :: (.double d1) :: (.double d2) :: List.replicate mm (.double 0))), (ar, own_A .double ((.double r0) :: (.double r1) :: (.double r2) :: List.replicate mm (.double 0)))] (fun v cs' => v = some (.int 0) ∧ cs' = [(x, own_O "com/example/recourse/recourse/network/NodeHeap" [("com/example/recourse/recourse/network/NodeHeap", "nodes", "[I", .ref an), ("com/example/recourse/recourse/network/NodeHeap", "distances", "[D", .ref ad), ("com/example/recourse/recourse/network/NodeHeap", "remainders", "[D", .ref ar), ("com/example/recourse/recourse/network/NodeHeap", "size", "I", .int 2)]), (an, own_A .int ((.int n0) :: (.int n1) :: (.int n2) :: List.replicate mm (.int 0))), (ad, own_A .double ((.double d0) :: (.double d1) :: (.double d2) :: List.replicate mm (.double 0))), (ar, own_A .double ((.double r0) :: (.double r1) :: (.double r2) :: List.replicate mm (.double 0)))]) := by
  refine own_met_of (L0 := #[.val (.ref x)]) (plainFor_of_name own_pn4) (fun m => own_ef4 m x) ?_
  intro p e s m below meth c T0 hx hZ hown hby hml hnm H0
  obtain ⟨Te2_1, He2_1, ste2_1⟩ := own_getF H0 hx hZ hown (hw _ (List.mem_of_getElem? (i := 26) rfl)) 0 3 rfl rfl (g := (mkF m 1 #[.val (.ref x)] [(.ref x)])) rfl rfl (hb hby d4_1)
  change own_S _ _ _ _ _ _ _ _ _ _ _ _ _ _ [(x, own_O "com/example/recourse/recourse/network/NodeHeap" [("com/example/recourse/recourse/network/NodeHeap", "nodes", "[I", .ref an), ("com/example/recourse/recourse/network/NodeHeap", "distances", "[D", .ref ad), ("com/example/recourse/recourse/network/NodeHeap", "remainders", "[D", .ref ar), ("com/example/recourse/recourse/network/NodeHeap", "size", "I", .int 2)]), (an, own_A .int ((.int n0) :: (.int n1) :: (.int n2) :: List.replicate mm (.int 0))), (ad, own_A .double ((.double d0) :: (.double d1) :: (.double d2) :: List.replicate mm (.double 0))), (ar, own_A .double ((.double r0) :: (.double r1) :: (.double r2) :: List.replicate mm (.double 0)))] _ _ at He2_1
  refine ⟨_, _, _, _, 12, #[.val (.ref x)], He2_1, by decide, by decide, Or.inr ⟨.boolean, (.int (0 : Int32)), [], .ireturn, rfl, ⟨rfl, rfl⟩, d4_12, own_retZ (Or.inl rfl), fun target q => ?_⟩⟩
  refine own_go H0 hx hZ hown hby hw own_K4_ok (own_e2_0 x) _ ?_
  refine ste2_1 _ ?_
  refine own_go He2_1 hx hZ hown hby hw own_K4_ok (own_e2_1 x) _ ?_
  exact q
theorem own_e3_0 (x : Addr) :
    own_Go own_K4 prog_51_method_2_code 0 #[.val (.ref x)] [] 1 #[.val (.ref x)] [(.ref x)] := by
  refine own_aloadN (pc2 := 1) d4_0 rfl rfl rfl ?_
  exact own_refl
theorem own_e3_1 (x : Addr) :
    own_Go own_K4 prog_51_method_2_code 4 #[.val (.ref x)] [(.int (3 : Int32))] 12 #[.val (.ref x)] [(.int (0 : Int32))] := by
  refine own_ifYes (pc' := 11) d4_4 (by decide) (by decide) (by decide) ?_
  refine own_iconst (v := 0) (pc2 := 12) d4_11 rfl rfl ?_
  exact own_refl
set_option maxRecDepth 65536 in
set_option maxHeartbeats 4000000 in
theorem own_emp3 (l : Launch) (Z : State) (a0 : Array Value) (hb0 : Heap) (hw : ∀ d ∈ tables_1, d.before a0 Z = true) (x : Addr) (an ad ar : Addr) (mm : Nat) (n0 n1 n2 : Int32) (d0 d1 d2 r0 r1 r2 : UInt64) :
    own_Met l Z a0 hb0 (⟨"com/example/recourse/recourse/network/NodeHeap", "isEmpty", "()Z"⟩ : MethodName) prog_51_method_2_code 1 (some .boolean) [] ({ frames := 0, cells := 0, slots := 0, locals := 0 } : Room) #[(.ref x)] [(x, own_O "com/example/recourse/recourse/network/NodeHeap" [("com/example/recourse/recourse/network/NodeHeap", "nodes", "[I", .ref an), ("com/example/recourse/recourse/network/NodeHeap", "distances", "[D", .ref ad), ("com/example/recourse/recourse/network/NodeHeap", "remainders", "[D", .ref ar), ("com/example/recourse/recourse/network/NodeHeap", "size", "I", .int 3)]), (an, own_A .int ((.int n0) :: (.int n1) :: (.int n2) :: List.replicate mm (.int 0))), (ad, own_A .double ((.double d0) :: (.double d1) :: (.double d2) :: List.replicate mm (.double 0))), (ar, own_A .double ((.double r0) :: (.double r1) :: (.double r2) :: List.replicate mm (.double 0)))] (fun v cs' => v = some (.int 0) ∧ cs' = [(x, own_O "com/example/recourse/recourse/network/NodeHeap" [("com/example/recourse/recourse/network/NodeHeap", "nodes", "[I", .ref an), ("com/example/recourse/recourse/network/NodeHeap", "distances", "[D", .ref ad), ("com/example/recourse/recourse/network/NodeHeap", "remainders", "[D", .ref ar), ("com/example/recourse/recourse/network/NodeHeap", "size", "I", .int 3)]), (an, own_A .int ((.int n0) :: (.int n1) :: (.int n2) :: List.replicate mm (.int 0))), (ad, own_A .double ((.double d0) :: (.double d1) :: (.double d2) :: List.replicate mm (.double 0))), (ar, own_A .double ((.double r0) :: (.double r1) :: (.double r2) :: List.replicate mm (.double 0)))]) := by
  refine own_met_of (L0 := #[.val (.ref x)]) (plainFor_of_name own_pn4) (fun m => own_ef4 m x) ?_
  intro p e s m below meth c T0 hx hZ hown hby hml hnm H0
  obtain ⟨Te3_1, He3_1, ste3_1⟩ := own_getF H0 hx hZ hown (hw _ (List.mem_of_getElem? (i := 26) rfl)) 0 3 rfl rfl (g := (mkF m 1 #[.val (.ref x)] [(.ref x)])) rfl rfl (hb hby d4_1)
  change own_S _ _ _ _ _ _ _ _ _ _ _ _ _ _ [(x, own_O "com/example/recourse/recourse/network/NodeHeap" [("com/example/recourse/recourse/network/NodeHeap", "nodes", "[I", .ref an), ("com/example/recourse/recourse/network/NodeHeap", "distances", "[D", .ref ad), ("com/example/recourse/recourse/network/NodeHeap", "remainders", "[D", .ref ar), ("com/example/recourse/recourse/network/NodeHeap", "size", "I", .int 3)]), (an, own_A .int ((.int n0) :: (.int n1) :: (.int n2) :: List.replicate mm (.int 0))), (ad, own_A .double ((.double d0) :: (.double d1) :: (.double d2) :: List.replicate mm (.double 0))), (ar, own_A .double ((.double r0) :: (.double r1) :: (.double r2) :: List.replicate mm (.double 0)))] _ _ at He3_1
  refine ⟨_, _, _, _, 12, #[.val (.ref x)], He3_1, by decide, by decide, Or.inr ⟨.boolean, (.int (0 : Int32)), [], .ireturn, rfl, ⟨rfl, rfl⟩, d4_12, own_retZ (Or.inl rfl), fun target q => ?_⟩⟩
  refine own_go H0 hx hZ hown hby hw own_K4_ok (own_e3_0 x) _ ?_
  refine ste3_1 _ ?_
  refine own_go He3_1 hx hZ hown hby hw own_K4_ok (own_e3_1 x) _ ?_
  exact q
theorem own_a0_0 (x : Addr) (qv : Int32) (u : UInt64) (w : UInt64) :
    own_Go own_K6 prog_51_method_4_code 0 #[.val (.ref x), .val (.int qv), .val (.double u), .second, .val (.double w), .second, .unset, .unset] [] 1 #[.val (.ref x), .val (.int qv), .val (.double u), .second, .val (.double w), .second, .unset, .unset] [(.ref x)] := by
  refine own_aloadN (pc2 := 1) d6_0 rfl rfl rfl ?_
  exact own_refl
theorem own_a0_1 (x : Addr) (qv : Int32) (u : UInt64) (w : UInt64) :
    own_Go own_K6 prog_51_method_4_code 4 #[.val (.ref x), .val (.int qv), .val (.double u), .second, .val (.double w), .second, .unset, .unset] [(.int (0 : Int32))] 5 #[.val (.ref x), .val (.int qv), .val (.double u), .second, .val (.double w), .second, .unset, .unset] [(.ref x), (.int (0 : Int32))] := by
  refine own_aloadN (pc2 := 5) d6_4 rfl rfl rfl ?_
  exact own_refl
theorem own_a0_2 (x : Addr) (qv : Int32) (u : UInt64) (w : UInt64) (z : Int32) (hb9 : if_icmp.holds .ne (0 : Int32) z = true) :
    own_Go own_K6 prog_51_method_4_code 9 #[.val (.ref x), .val (.int qv), .val (.double u), .second, .val (.double w), .second, .unset, .unset] [(.int z), (.int (0 : Int32))] 65 #[.val (.ref x), .val (.int qv), .val (.double u), .second, .val (.double w), .second, .unset, .unset] [(.ref x), (.ref x)] := by
  refine own_icmpYes (pc' := 63) d6_9 hb9 (by decide) (by decide) ?_
  refine own_aloadN (pc2 := 64) d6_63 rfl rfl rfl ?_
  refine own_dup (pc2 := 65) d6_64 rfl rfl ?_
  exact own_refl
theorem own_a0_3 (x : Addr) (qv : Int32) (u : UInt64) (w : UInt64) :
    own_Go own_K6 prog_51_method_4_code 68 #[.val (.ref x), .val (.int qv), .val (.double u), .second, .val (.double w), .second, .unset, .unset] [(.int (0 : Int32)), (.ref x)] 71 #[.val (.ref x), .val (.int qv), .val (.double u), .second, .val (.double w), .second, .unset, .unset] [(.int (1 : Int32)), (.ref x), (.int (0 : Int32))] := by
  refine own_dupX1 (pc2 := 69) d6_68 rfl rfl rfl ?_
  refine own_iconst (v := 1) (pc2 := 70) d6_69 rfl rfl ?_
  refine own_iadd (pc2 := 71) d6_70 rfl (v := (1 : Int32)) (by decide) ?_
  exact own_refl
theorem own_a0_4 (x : Addr) (qv : Int32) (u : UInt64) (w : UInt64) :
    own_Go own_K6 prog_51_method_4_code 74 #[.val (.ref x), .val (.int qv), .val (.double u), .second, .val (.double w), .second, .unset, .unset] [(.int (0 : Int32))] 131 #[.val (.ref x), .val (.int qv), .val (.double u), .second, .val (.double w), .second, .val (.int (0 : Int32)), .unset] [(.ref x)] := by
  refine own_istore (pc2 := 76) d6_74 rfl (L' := #[.val (.ref x), .val (.int qv), .val (.double u), .second, .val (.double w), .second, .val (.int (0 : Int32)), .unset]) rfl ?_
  refine own_iload (pc2 := 78) d6_76 rfl rfl ?_
  refine own_ifYes (pc' := 130) d6_78 (by decide) (by decide) (by decide) ?_
  refine own_aloadN (pc2 := 131) d6_130 rfl rfl rfl ?_
  exact own_refl
theorem own_a0_5 (x : Addr) (qv : Int32) (u : UInt64) (w : UInt64) (an : Addr) :
    own_Go own_K6 prog_51_method_4_code 134 #[.val (.ref x), .val (.int qv), .val (.double u), .second, .val (.double w), .second, .val (.int (0 : Int32)), .unset] [(.ref an)] 137 #[.val (.ref x), .val (.int qv), .val (.double u), .second, .val (.double w), .second, .val (.int (0 : Int32)), .unset] [(.int qv), (.int (0 : Int32)), (.ref an)] := by
  refine own_iload (pc2 := 136) d6_134 rfl rfl ?_
  refine own_iloadN (pc2 := 137) d6_136 rfl rfl ?_
  exact own_refl
theorem own_a0_6 (x : Addr) (qv : Int32) (u : UInt64) (w : UInt64) :
    own_Go own_K6 prog_51_method_4_code 138 #[.val (.ref x), .val (.int qv), .val (.double u), .second, .val (.double w), .second, .val (.int (0 : Int32)), .unset] [] 139 #[.val (.ref x), .val (.int qv), .val (.double u), .second, .val (.double w), .second, .val (.int (0 : Int32)), .unset] [(.ref x)] := by
  refine own_aloadN (pc2 := 139) d6_138 rfl rfl rfl ?_
  exact own_refl
theorem own_a0_7 (x : Addr) (qv : Int32) (u : UInt64) (w : UInt64) (ad : Addr) :
    own_Go own_K6 prog_51_method_4_code 142 #[.val (.ref x), .val (.int qv), .val (.double u), .second, .val (.double w), .second, .val (.int (0 : Int32)), .unset] [(.ref ad)] 145 #[.val (.ref x), .val (.int qv), .val (.double u), .second, .val (.double w), .second, .val (.int (0 : Int32)), .unset] [(.double u), (.int (0 : Int32)), (.ref ad)] := by
  refine own_iload (pc2 := 144) d6_142 rfl rfl ?_
  refine own_dloadN (pc2 := 145) d6_144 rfl rfl ?_
  exact own_refl
theorem own_a0_8 (x : Addr) (qv : Int32) (u : UInt64) (w : UInt64) :
    own_Go own_K6 prog_51_method_4_code 146 #[.val (.ref x), .val (.int qv), .val (.double u), .second, .val (.double w), .second, .val (.int (0 : Int32)), .unset] [] 147 #[.val (.ref x), .val (.int qv), .val (.double u), .second, .val (.double w), .second, .val (.int (0 : Int32)), .unset] [(.ref x)] := by
  refine own_aloadN (pc2 := 147) d6_146 rfl rfl rfl ?_
  exact own_refl
theorem own_a0_9 (x : Addr) (qv : Int32) (u : UInt64) (w : UInt64) (ar : Addr) :
    own_Go own_K6 prog_51_method_4_code 150 #[.val (.ref x), .val (.int qv), .val (.double u), .second, .val (.double w), .second, .val (.int (0 : Int32)), .unset] [(.ref ar)] 154 #[.val (.ref x), .val (.int qv), .val (.double u), .second, .val (.double w), .second, .val (.int (0 : Int32)), .unset] [(.double w), (.int (0 : Int32)), (.ref ar)] := by
  refine own_iload (pc2 := 152) d6_150 rfl rfl ?_
  refine own_dload (pc2 := 154) d6_152 rfl rfl ?_
  exact own_refl
set_option maxRecDepth 65536 in
set_option maxHeartbeats 4000000 in
theorem own_add0 (l : Launch) (Z : State) (a0 : Array Value) (hb0 : Heap) (hw : ∀ d ∈ tables_1, d.before a0 Z = true) (x : Addr) (qv : Int32) (u : UInt64) (w : UInt64) (an ad ar : Addr) (mm : Nat) (n0 n1 n2 : Int32) (d0 d1 d2 r0 r1 r2 : UInt64) (z : Int32) (hlen : ((.int n0 :: .int n1 :: .int n2 :: List.replicate mm (.int 0) : List Value)).length.toInt32 = z) (hzz : 16 ≤ z.toInt) :
    own_Met l Z a0 hb0 (⟨"com/example/recourse/recourse/network/NodeHeap", "add", "(IDD)V"⟩ : MethodName) prog_51_method_4_code 8 none [] ({ frames := 1, cells := 0, slots := 0, locals := 40 } : Room) #[(.ref x), (.int qv), (.double u), (.double w)] [(x, own_O "com/example/recourse/recourse/network/NodeHeap" [("com/example/recourse/recourse/network/NodeHeap", "nodes", "[I", .ref an), ("com/example/recourse/recourse/network/NodeHeap", "distances", "[D", .ref ad), ("com/example/recourse/recourse/network/NodeHeap", "remainders", "[D", .ref ar), ("com/example/recourse/recourse/network/NodeHeap", "size", "I", .int 0)]), (an, own_A .int ((.int n0) :: (.int n1) :: (.int n2) :: List.replicate mm (.int 0))), (ad, own_A .double ((.double d0) :: (.double d1) :: (.double d2) :: List.replicate mm (.double 0))), (ar, own_A .double ((.double r0) :: (.double r1) :: (.double r2) :: List.replicate mm (.double 0)))] (fun v cs' => ∃ (m0 m1 m2 : Int32) (e0 e1 e2 f0 f1 f2 : UInt64), v = none ∧ cs' = [(x, own_O "com/example/recourse/recourse/network/NodeHeap" [("com/example/recourse/recourse/network/NodeHeap", "nodes", "[I", .ref an), ("com/example/recourse/recourse/network/NodeHeap", "distances", "[D", .ref ad), ("com/example/recourse/recourse/network/NodeHeap", "remainders", "[D", .ref ar), ("com/example/recourse/recourse/network/NodeHeap", "size", "I", .int 1)]), (an, own_A .int ((.int m0) :: (.int m1) :: (.int m2) :: List.replicate mm (.int 0))), (ad, own_A .double ((.double e0) :: (.double e1) :: (.double e2) :: List.replicate mm (.double 0))), (ar, own_A .double ((.double f0) :: (.double f1) :: (.double f2) :: List.replicate mm (.double 0)))]) := by
  refine own_met_of (L0 := #[.val (.ref x), .val (.int qv), .val (.double u), .second, .val (.double w), .second, .unset, .unset]) (plainFor_of_name own_pn6) (fun m => own_ef6 m x qv u w) ?_
  intro p e s m below meth c T0 hx hZ hown hby hml hnm H0
  obtain ⟨Ta0_1, Ha0_1, sta0_1⟩ := own_getF H0 hx hZ hown (hw _ (List.mem_of_getElem? (i := 26) rfl)) 0 3 rfl rfl (g := (mkF m 1 #[.val (.ref x), .val (.int qv), .val (.double u), .second, .val (.double w), .second, .unset, .unset] [(.ref x)])) rfl rfl (hb hby d6_1)
  change own_S _ _ _ _ _ _ _ _ _ _ _ _ _ _ [(x, own_O "com/example/recourse/recourse/network/NodeHeap" [("com/example/recourse/recourse/network/NodeHeap", "nodes", "[I", .ref an), ("com/example/recourse/recourse/network/NodeHeap", "distances", "[D", .ref ad), ("com/example/recourse/recourse/network/NodeHeap", "remainders", "[D", .ref ar), ("com/example/recourse/recourse/network/NodeHeap", "size", "I", .int 0)]), (an, own_A .int ((.int n0) :: (.int n1) :: (.int n2) :: List.replicate mm (.int 0))), (ad, own_A .double ((.double d0) :: (.double d1) :: (.double d2) :: List.replicate mm (.double 0))), (ar, own_A .double ((.double r0) :: (.double r1) :: (.double r2) :: List.replicate mm (.double 0)))] _ _ at Ha0_1
  obtain ⟨Ta0_2, Ha0_2, sta0_2⟩ := own_getF Ha0_1 hx hZ hown (hw _ (List.mem_of_getElem? (i := 14) rfl)) 0 0 rfl rfl (g := (mkF m 5 #[.val (.ref x), .val (.int qv), .val (.double u), .second, .val (.double w), .second, .unset, .unset] [(.ref x), (.int (0 : Int32))])) rfl rfl (hb hby d6_5)
  change own_S _ _ _ _ _ _ _ _ _ _ _ _ _ _ [(x, own_O "com/example/recourse/recourse/network/NodeHeap" [("com/example/recourse/recourse/network/NodeHeap", "nodes", "[I", .ref an), ("com/example/recourse/recourse/network/NodeHeap", "distances", "[D", .ref ad), ("com/example/recourse/recourse/network/NodeHeap", "remainders", "[D", .ref ar), ("com/example/recourse/recourse/network/NodeHeap", "size", "I", .int 0)]), (an, own_A .int ((.int n0) :: (.int n1) :: (.int n2) :: List.replicate mm (.int 0))), (ad, own_A .double ((.double d0) :: (.double d1) :: (.double d2) :: List.replicate mm (.double 0))), (ar, own_A .double ((.double r0) :: (.double r1) :: (.double r2) :: List.replicate mm (.double 0)))] _ _ at Ha0_2
  obtain ⟨Ta0_4, Ha0_4, sta0_4⟩ := own_getF Ha0_2 hx hZ hown (hw _ (List.mem_of_getElem? (i := 26) rfl)) 0 3 rfl rfl (g := (mkF m 65 #[.val (.ref x), .val (.int qv), .val (.double u), .second, .val (.double w), .second, .unset, .unset] [(.ref x), (.ref x)])) rfl rfl (hb hby d6_65)
  change own_S _ _ _ _ _ _ _ _ _ _ _ _ _ _ [(x, own_O "com/example/recourse/recourse/network/NodeHeap" [("com/example/recourse/recourse/network/NodeHeap", "nodes", "[I", .ref an), ("com/example/recourse/recourse/network/NodeHeap", "distances", "[D", .ref ad), ("com/example/recourse/recourse/network/NodeHeap", "remainders", "[D", .ref ar), ("com/example/recourse/recourse/network/NodeHeap", "size", "I", .int 0)]), (an, own_A .int ((.int n0) :: (.int n1) :: (.int n2) :: List.replicate mm (.int 0))), (ad, own_A .double ((.double d0) :: (.double d1) :: (.double d2) :: List.replicate mm (.double 0))), (ar, own_A .double ((.double r0) :: (.double r1) :: (.double r2) :: List.replicate mm (.double 0)))] _ _ at Ha0_4
  obtain ⟨Ta0_5, Ha0_5, sta0_5⟩ := own_putF Ha0_4 hx hZ hown (hw _ (List.mem_of_getElem? (i := 26) rfl)) 0 3 rfl rfl (Or.inl (hw _ (List.mem_of_getElem? (i := 27) rfl))) (hw _ (List.mem_of_getElem? (i := 1) rfl)) (ty := .int) (by decide) rfl rfl (g := (mkF m 71 #[.val (.ref x), .val (.int qv), .val (.double u), .second, .val (.double w), .second, .unset, .unset] [(.int (1 : Int32)), (.ref x), (.int (0 : Int32))])) rfl rfl (hb hby d6_71)
  change own_S _ _ _ _ _ _ _ _ _ _ _ _ _ _ [(x, own_O "com/example/recourse/recourse/network/NodeHeap" [("com/example/recourse/recourse/network/NodeHeap", "nodes", "[I", .ref an), ("com/example/recourse/recourse/network/NodeHeap", "distances", "[D", .ref ad), ("com/example/recourse/recourse/network/NodeHeap", "remainders", "[D", .ref ar), ("com/example/recourse/recourse/network/NodeHeap", "size", "I", .int (1 : Int32))]), (an, own_A .int ((.int n0) :: (.int n1) :: (.int n2) :: List.replicate mm (.int 0))), (ad, own_A .double ((.double d0) :: (.double d1) :: (.double d2) :: List.replicate mm (.double 0))), (ar, own_A .double ((.double r0) :: (.double r1) :: (.double r2) :: List.replicate mm (.double 0)))] _ _ at Ha0_5
  obtain ⟨Ta0_6, Ha0_6, sta0_6⟩ := own_getF Ha0_5 hx hZ hown (hw _ (List.mem_of_getElem? (i := 14) rfl)) 0 0 rfl rfl (g := (mkF m 131 #[.val (.ref x), .val (.int qv), .val (.double u), .second, .val (.double w), .second, .val (.int (0 : Int32)), .unset] [(.ref x)])) rfl rfl (hb hby d6_131)
  change own_S _ _ _ _ _ _ _ _ _ _ _ _ _ _ [(x, own_O "com/example/recourse/recourse/network/NodeHeap" [("com/example/recourse/recourse/network/NodeHeap", "nodes", "[I", .ref an), ("com/example/recourse/recourse/network/NodeHeap", "distances", "[D", .ref ad), ("com/example/recourse/recourse/network/NodeHeap", "remainders", "[D", .ref ar), ("com/example/recourse/recourse/network/NodeHeap", "size", "I", .int (1 : Int32))]), (an, own_A .int ((.int n0) :: (.int n1) :: (.int n2) :: List.replicate mm (.int 0))), (ad, own_A .double ((.double d0) :: (.double d1) :: (.double d2) :: List.replicate mm (.double 0))), (ar, own_A .double ((.double r0) :: (.double r1) :: (.double r2) :: List.replicate mm (.double 0)))] _ _ at Ha0_6
  obtain ⟨Ta0_7, Ha0_7, sta0_7⟩ := own_iastore Ha0_6 hx hZ 1 0 rfl (by decide) (Nat.le_of_ble_eq_true rfl) (g := (mkF m 137 #[.val (.ref x), .val (.int qv), .val (.double u), .second, .val (.double w), .second, .val (.int (0 : Int32)), .unset] [(.int qv), (.int (0 : Int32)), (.ref an)])) rfl rfl (hb hby d6_137)
  change own_S _ _ _ _ _ _ _ _ _ _ _ _ _ _ [(x, own_O "com/example/recourse/recourse/network/NodeHeap" [("com/example/recourse/recourse/network/NodeHeap", "nodes", "[I", .ref an), ("com/example/recourse/recourse/network/NodeHeap", "distances", "[D", .ref ad), ("com/example/recourse/recourse/network/NodeHeap", "remainders", "[D", .ref ar), ("com/example/recourse/recourse/network/NodeHeap", "size", "I", .int (1 : Int32))]), (an, own_A .int ((.int qv) :: (.int n1) :: (.int n2) :: List.replicate mm (.int 0))), (ad, own_A .double ((.double d0) :: (.double d1) :: (.double d2) :: List.replicate mm (.double 0))), (ar, own_A .double ((.double r0) :: (.double r1) :: (.double r2) :: List.replicate mm (.double 0)))] _ _ at Ha0_7
  obtain ⟨Ta0_8, Ha0_8, sta0_8⟩ := own_getF Ha0_7 hx hZ hown (hw _ (List.mem_of_getElem? (i := 17) rfl)) 0 1 rfl rfl (g := (mkF m 139 #[.val (.ref x), .val (.int qv), .val (.double u), .second, .val (.double w), .second, .val (.int (0 : Int32)), .unset] [(.ref x)])) rfl rfl (hb hby d6_139)
  change own_S _ _ _ _ _ _ _ _ _ _ _ _ _ _ [(x, own_O "com/example/recourse/recourse/network/NodeHeap" [("com/example/recourse/recourse/network/NodeHeap", "nodes", "[I", .ref an), ("com/example/recourse/recourse/network/NodeHeap", "distances", "[D", .ref ad), ("com/example/recourse/recourse/network/NodeHeap", "remainders", "[D", .ref ar), ("com/example/recourse/recourse/network/NodeHeap", "size", "I", .int (1 : Int32))]), (an, own_A .int ((.int qv) :: (.int n1) :: (.int n2) :: List.replicate mm (.int 0))), (ad, own_A .double ((.double d0) :: (.double d1) :: (.double d2) :: List.replicate mm (.double 0))), (ar, own_A .double ((.double r0) :: (.double r1) :: (.double r2) :: List.replicate mm (.double 0)))] _ _ at Ha0_8
  obtain ⟨Ta0_9, Ha0_9, sta0_9⟩ := own_dastore Ha0_8 hx hZ 2 0 rfl (by decide) (Nat.le_of_ble_eq_true rfl) (g := (mkF m 145 #[.val (.ref x), .val (.int qv), .val (.double u), .second, .val (.double w), .second, .val (.int (0 : Int32)), .unset] [(.double u), (.int (0 : Int32)), (.ref ad)])) rfl rfl (hb hby d6_145)
  change own_S _ _ _ _ _ _ _ _ _ _ _ _ _ _ [(x, own_O "com/example/recourse/recourse/network/NodeHeap" [("com/example/recourse/recourse/network/NodeHeap", "nodes", "[I", .ref an), ("com/example/recourse/recourse/network/NodeHeap", "distances", "[D", .ref ad), ("com/example/recourse/recourse/network/NodeHeap", "remainders", "[D", .ref ar), ("com/example/recourse/recourse/network/NodeHeap", "size", "I", .int (1 : Int32))]), (an, own_A .int ((.int qv) :: (.int n1) :: (.int n2) :: List.replicate mm (.int 0))), (ad, own_A .double ((.double u) :: (.double d1) :: (.double d2) :: List.replicate mm (.double 0))), (ar, own_A .double ((.double r0) :: (.double r1) :: (.double r2) :: List.replicate mm (.double 0)))] _ _ at Ha0_9
  obtain ⟨Ta0_10, Ha0_10, sta0_10⟩ := own_getF Ha0_9 hx hZ hown (hw _ (List.mem_of_getElem? (i := 19) rfl)) 0 2 rfl rfl (g := (mkF m 147 #[.val (.ref x), .val (.int qv), .val (.double u), .second, .val (.double w), .second, .val (.int (0 : Int32)), .unset] [(.ref x)])) rfl rfl (hb hby d6_147)
  change own_S _ _ _ _ _ _ _ _ _ _ _ _ _ _ [(x, own_O "com/example/recourse/recourse/network/NodeHeap" [("com/example/recourse/recourse/network/NodeHeap", "nodes", "[I", .ref an), ("com/example/recourse/recourse/network/NodeHeap", "distances", "[D", .ref ad), ("com/example/recourse/recourse/network/NodeHeap", "remainders", "[D", .ref ar), ("com/example/recourse/recourse/network/NodeHeap", "size", "I", .int (1 : Int32))]), (an, own_A .int ((.int qv) :: (.int n1) :: (.int n2) :: List.replicate mm (.int 0))), (ad, own_A .double ((.double u) :: (.double d1) :: (.double d2) :: List.replicate mm (.double 0))), (ar, own_A .double ((.double r0) :: (.double r1) :: (.double r2) :: List.replicate mm (.double 0)))] _ _ at Ha0_10
  obtain ⟨Ta0_11, Ha0_11, sta0_11⟩ := own_dastore Ha0_10 hx hZ 3 0 rfl (by decide) (Nat.le_of_ble_eq_true rfl) (g := (mkF m 154 #[.val (.ref x), .val (.int qv), .val (.double u), .second, .val (.double w), .second, .val (.int (0 : Int32)), .unset] [(.double w), (.int (0 : Int32)), (.ref ar)])) rfl rfl (hb hby d6_154)
  change own_S _ _ _ _ _ _ _ _ _ _ _ _ _ _ [(x, own_O "com/example/recourse/recourse/network/NodeHeap" [("com/example/recourse/recourse/network/NodeHeap", "nodes", "[I", .ref an), ("com/example/recourse/recourse/network/NodeHeap", "distances", "[D", .ref ad), ("com/example/recourse/recourse/network/NodeHeap", "remainders", "[D", .ref ar), ("com/example/recourse/recourse/network/NodeHeap", "size", "I", .int (1 : Int32))]), (an, own_A .int ((.int qv) :: (.int n1) :: (.int n2) :: List.replicate mm (.int 0))), (ad, own_A .double ((.double u) :: (.double d1) :: (.double d2) :: List.replicate mm (.double 0))), (ar, own_A .double ((.double w) :: (.double r1) :: (.double r2) :: List.replicate mm (.double 0)))] _ _ at Ha0_11
  have hb9 : if_icmp.holds .ne (0 : Int32) z = true := by rw [own_i_ne]; exact decide_eq_true (fun h => by rw [← h] at hzz; exact absurd hzz (by decide))
  refine ⟨_, _, _, _, 155, #[.val (.ref x), .val (.int qv), .val (.double u), .second, .val (.double w), .second, .val (.int (0 : Int32)), .unset], Ha0_11, by decide, by decide, Or.inl ⟨rfl, ⟨qv, n1, n2, u, d1, d2, w, r1, r2, rfl, rfl⟩, d6_155, fun target q => ?_⟩⟩
  refine own_go H0 hx hZ hown hby hw own_K6_ok (own_a0_0 x qv u w) _ ?_
  refine sta0_1 _ ?_
  refine own_go Ha0_1 hx hZ hown hby hw own_K6_ok (own_a0_1 x qv u w) _ ?_
  refine sta0_2 _ ?_
  refine own_arrlen Ha0_2 hx hZ 1 rfl (z := z) hlen (g := (mkF m 8 #[.val (.ref x), .val (.int qv), .val (.double u), .second, .val (.double w), .second, .unset, .unset] [(.ref an), (.int (0 : Int32))])) rfl rfl (hb hby d6_8) _ ?_
  refine own_go Ha0_2 hx hZ hown hby hw own_K6_ok (own_a0_2 x qv u w z hb9) _ ?_
  refine sta0_4 _ ?_
  refine own_go Ha0_4 hx hZ hown hby hw own_K6_ok (own_a0_3 x qv u w) _ ?_
  refine sta0_5 _ ?_
  refine own_go Ha0_5 hx hZ hown hby hw own_K6_ok (own_a0_4 x qv u w) _ ?_
  refine sta0_6 _ ?_
  refine own_go Ha0_6 hx hZ hown hby hw own_K6_ok (own_a0_5 x qv u w an) _ ?_
  refine sta0_7 _ ?_
  refine own_go Ha0_7 hx hZ hown hby hw own_K6_ok (own_a0_6 x qv u w) _ ?_
  refine sta0_8 _ ?_
  refine own_go Ha0_8 hx hZ hown hby hw own_K6_ok (own_a0_7 x qv u w ad) _ ?_
  refine sta0_9 _ ?_
  refine own_go Ha0_9 hx hZ hown hby hw own_K6_ok (own_a0_8 x qv u w) _ ?_
  refine sta0_10 _ ?_
  refine own_go Ha0_10 hx hZ hown hby hw own_K6_ok (own_a0_9 x qv u w ar) _ ?_
  refine sta0_11 _ ?_
  exact q
theorem own_a1_A8 (x : Addr) (qv : Int32) (u : UInt64) (w : UInt64) :
    own_Go own_K6 prog_51_method_4_code 109 #[.val (.ref x), .val (.int qv), .val (.double u), .second, .val (.double w), .second, .val (.int (1 : Int32)), .val (.int (0 : Int32))] [(.int (0 : Int32))] 131 #[.val (.ref x), .val (.int qv), .val (.double u), .second, .val (.double w), .second, .val (.int (1 : Int32)), .val (.int (0 : Int32))] [(.ref x)] := by
  refine own_ifNo (pc2 := 112) d6_109 rfl (by decide) ?_
  refine own_goto (pc' := 130) d6_112 (by decide) (by decide) ?_
  refine own_aloadN (pc2 := 131) d6_130 rfl rfl rfl ?_
  exact own_refl
theorem own_a1_A9 (x : Addr) (qv : Int32) (u : UInt64) (w : UInt64) (an : Addr) :
    own_Go own_K6 prog_51_method_4_code 134 #[.val (.ref x), .val (.int qv), .val (.double u), .second, .val (.double w), .second, .val (.int (1 : Int32)), .val (.int (0 : Int32))] [(.ref an)] 137 #[.val (.ref x), .val (.int qv), .val (.double u), .second, .val (.double w), .second, .val (.int (1 : Int32)), .val (.int (0 : Int32))] [(.int qv), (.int (1 : Int32)), (.ref an)] := by
  refine own_iload (pc2 := 136) d6_134 rfl rfl ?_
  refine own_iloadN (pc2 := 137) d6_136 rfl rfl ?_
  exact own_refl
theorem own_a1_A10 (x : Addr) (qv : Int32) (u : UInt64) (w : UInt64) :
    own_Go own_K6 prog_51_method_4_code 138 #[.val (.ref x), .val (.int qv), .val (.double u), .second, .val (.double w), .second, .val (.int (1 : Int32)), .val (.int (0 : Int32))] [] 139 #[.val (.ref x), .val (.int qv), .val (.double u), .second, .val (.double w), .second, .val (.int (1 : Int32)), .val (.int (0 : Int32))] [(.ref x)] := by
  refine own_aloadN (pc2 := 139) d6_138 rfl rfl rfl ?_
  exact own_refl
theorem own_a1_A11 (x : Addr) (qv : Int32) (u : UInt64) (w : UInt64) (ad : Addr) :
    own_Go own_K6 prog_51_method_4_code 142 #[.val (.ref x), .val (.int qv), .val (.double u), .second, .val (.double w), .second, .val (.int (1 : Int32)), .val (.int (0 : Int32))] [(.ref ad)] 145 #[.val (.ref x), .val (.int qv), .val (.double u), .second, .val (.double w), .second, .val (.int (1 : Int32)), .val (.int (0 : Int32))] [(.double u), (.int (1 : Int32)), (.ref ad)] := by
  refine own_iload (pc2 := 144) d6_142 rfl rfl ?_
  refine own_dloadN (pc2 := 145) d6_144 rfl rfl ?_
  exact own_refl
theorem own_a1_A12 (x : Addr) (qv : Int32) (u : UInt64) (w : UInt64) :
    own_Go own_K6 prog_51_method_4_code 146 #[.val (.ref x), .val (.int qv), .val (.double u), .second, .val (.double w), .second, .val (.int (1 : Int32)), .val (.int (0 : Int32))] [] 147 #[.val (.ref x), .val (.int qv), .val (.double u), .second, .val (.double w), .second, .val (.int (1 : Int32)), .val (.int (0 : Int32))] [(.ref x)] := by
  refine own_aloadN (pc2 := 147) d6_146 rfl rfl rfl ?_
  exact own_refl
theorem own_a1_A13 (x : Addr) (qv : Int32) (u : UInt64) (w : UInt64) (ar : Addr) :
    own_Go own_K6 prog_51_method_4_code 150 #[.val (.ref x), .val (.int qv), .val (.double u), .second, .val (.double w), .second, .val (.int (1 : Int32)), .val (.int (0 : Int32))] [(.ref ar)] 154 #[.val (.ref x), .val (.int qv), .val (.double u), .second, .val (.double w), .second, .val (.int (1 : Int32)), .val (.int (0 : Int32))] [(.double w), (.int (1 : Int32)), (.ref ar)] := by
  refine own_iload (pc2 := 152) d6_150 rfl rfl ?_
  refine own_dload (pc2 := 154) d6_152 rfl rfl ?_
  exact own_refl
theorem own_a1_B8 (x : Addr) (qv : Int32) (u : UInt64) (w : UInt64) :
    own_Go own_K6 prog_51_method_4_code 109 #[.val (.ref x), .val (.int qv), .val (.double u), .second, .val (.double w), .second, .val (.int (1 : Int32)), .val (.int (0 : Int32))] [(.int (1 : Int32))] 120 #[.val (.ref x), .val (.int qv), .val (.double u), .second, .val (.double w), .second, .val (.int (1 : Int32)), .val (.int (0 : Int32))] [(.int (1 : Int32)), (.int (0 : Int32)), (.ref x)] := by
  refine own_ifYes (pc' := 115) d6_109 (by decide) (by decide) (by decide) ?_
  refine own_aloadN (pc2 := 116) d6_115 rfl rfl rfl ?_
  refine own_iload (pc2 := 118) d6_116 rfl rfl ?_
  refine own_iload (pc2 := 120) d6_118 rfl rfl ?_
  exact own_refl
theorem own_a1_B9 (x : Addr) (qv : Int32) (u : UInt64) (w : UInt64) :
    own_Go own_K6 prog_51_method_4_code 123 #[.val (.ref x), .val (.int qv), .val (.double u), .second, .val (.double w), .second, .val (.int (1 : Int32)), .val (.int (0 : Int32))] [] 131 #[.val (.ref x), .val (.int qv), .val (.double u), .second, .val (.double w), .second, .val (.int (0 : Int32)), .val (.int (0 : Int32))] [(.ref x)] := by
  refine own_iload (pc2 := 125) d6_123 rfl rfl ?_
  refine own_istore (pc2 := 127) d6_125 rfl (L' := #[.val (.ref x), .val (.int qv), .val (.double u), .second, .val (.double w), .second, .val (.int (0 : Int32)), .val (.int (0 : Int32))]) rfl ?_
  refine own_goto (pc' := 76) d6_127 (by decide) (by decide) ?_
  refine own_iload (pc2 := 78) d6_76 rfl rfl ?_
  refine own_ifYes (pc' := 130) d6_78 (by decide) (by decide) (by decide) ?_
  refine own_aloadN (pc2 := 131) d6_130 rfl rfl rfl ?_
  exact own_refl
theorem own_a1_B10 (x : Addr) (qv : Int32) (u : UInt64) (w : UInt64) (an : Addr) :
    own_Go own_K6 prog_51_method_4_code 134 #[.val (.ref x), .val (.int qv), .val (.double u), .second, .val (.double w), .second, .val (.int (0 : Int32)), .val (.int (0 : Int32))] [(.ref an)] 137 #[.val (.ref x), .val (.int qv), .val (.double u), .second, .val (.double w), .second, .val (.int (0 : Int32)), .val (.int (0 : Int32))] [(.int qv), (.int (0 : Int32)), (.ref an)] := by
  refine own_iload (pc2 := 136) d6_134 rfl rfl ?_
  refine own_iloadN (pc2 := 137) d6_136 rfl rfl ?_
  exact own_refl
theorem own_a1_B11 (x : Addr) (qv : Int32) (u : UInt64) (w : UInt64) :
    own_Go own_K6 prog_51_method_4_code 138 #[.val (.ref x), .val (.int qv), .val (.double u), .second, .val (.double w), .second, .val (.int (0 : Int32)), .val (.int (0 : Int32))] [] 139 #[.val (.ref x), .val (.int qv), .val (.double u), .second, .val (.double w), .second, .val (.int (0 : Int32)), .val (.int (0 : Int32))] [(.ref x)] := by
  refine own_aloadN (pc2 := 139) d6_138 rfl rfl rfl ?_
  exact own_refl
theorem own_a1_B12 (x : Addr) (qv : Int32) (u : UInt64) (w : UInt64) (ad : Addr) :
    own_Go own_K6 prog_51_method_4_code 142 #[.val (.ref x), .val (.int qv), .val (.double u), .second, .val (.double w), .second, .val (.int (0 : Int32)), .val (.int (0 : Int32))] [(.ref ad)] 145 #[.val (.ref x), .val (.int qv), .val (.double u), .second, .val (.double w), .second, .val (.int (0 : Int32)), .val (.int (0 : Int32))] [(.double u), (.int (0 : Int32)), (.ref ad)] := by
  refine own_iload (pc2 := 144) d6_142 rfl rfl ?_
  refine own_dloadN (pc2 := 145) d6_144 rfl rfl ?_
  exact own_refl
theorem own_a1_B13 (x : Addr) (qv : Int32) (u : UInt64) (w : UInt64) :
    own_Go own_K6 prog_51_method_4_code 146 #[.val (.ref x), .val (.int qv), .val (.double u), .second, .val (.double w), .second, .val (.int (0 : Int32)), .val (.int (0 : Int32))] [] 147 #[.val (.ref x), .val (.int qv), .val (.double u), .second, .val (.double w), .second, .val (.int (0 : Int32)), .val (.int (0 : Int32))] [(.ref x)] := by
  refine own_aloadN (pc2 := 147) d6_146 rfl rfl rfl ?_
  exact own_refl
theorem own_a1_B14 (x : Addr) (qv : Int32) (u : UInt64) (w : UInt64) (ar : Addr) :
    own_Go own_K6 prog_51_method_4_code 150 #[.val (.ref x), .val (.int qv), .val (.double u), .second, .val (.double w), .second, .val (.int (0 : Int32)), .val (.int (0 : Int32))] [(.ref ar)] 154 #[.val (.ref x), .val (.int qv), .val (.double u), .second, .val (.double w), .second, .val (.int (0 : Int32)), .val (.int (0 : Int32))] [(.double w), (.int (0 : Int32)), (.ref ar)] := by
  refine own_iload (pc2 := 152) d6_150 rfl rfl ?_
  refine own_dload (pc2 := 154) d6_152 rfl rfl ?_
  exact own_refl
theorem own_a1_0 (x : Addr) (qv : Int32) (u : UInt64) (w : UInt64) :
    own_Go own_K6 prog_51_method_4_code 0 #[.val (.ref x), .val (.int qv), .val (.double u), .second, .val (.double w), .second, .unset, .unset] [] 1 #[.val (.ref x), .val (.int qv), .val (.double u), .second, .val (.double w), .second, .unset, .unset] [(.ref x)] := by
  refine own_aloadN (pc2 := 1) d6_0 rfl rfl rfl ?_
  exact own_refl
theorem own_a1_1 (x : Addr) (qv : Int32) (u : UInt64) (w : UInt64) :
    own_Go own_K6 prog_51_method_4_code 4 #[.val (.ref x), .val (.int qv), .val (.double u), .second, .val (.double w), .second, .unset, .unset] [(.int (1 : Int32))] 5 #[.val (.ref x), .val (.int qv), .val (.double u), .second, .val (.double w), .second, .unset, .unset] [(.ref x), (.int (1 : Int32))] := by
  refine own_aloadN (pc2 := 5) d6_4 rfl rfl rfl ?_
  exact own_refl
theorem own_a1_2 (x : Addr) (qv : Int32) (u : UInt64) (w : UInt64) (z : Int32) (hb9 : if_icmp.holds .ne (1 : Int32) z = true) :
    own_Go own_K6 prog_51_method_4_code 9 #[.val (.ref x), .val (.int qv), .val (.double u), .second, .val (.double w), .second, .unset, .unset] [(.int z), (.int (1 : Int32))] 65 #[.val (.ref x), .val (.int qv), .val (.double u), .second, .val (.double w), .second, .unset, .unset] [(.ref x), (.ref x)] := by
  refine own_icmpYes (pc' := 63) d6_9 hb9 (by decide) (by decide) ?_
  refine own_aloadN (pc2 := 64) d6_63 rfl rfl rfl ?_
  refine own_dup (pc2 := 65) d6_64 rfl rfl ?_
  exact own_refl
theorem own_a1_3 (x : Addr) (qv : Int32) (u : UInt64) (w : UInt64) :
    own_Go own_K6 prog_51_method_4_code 68 #[.val (.ref x), .val (.int qv), .val (.double u), .second, .val (.double w), .second, .unset, .unset] [(.int (1 : Int32)), (.ref x)] 71 #[.val (.ref x), .val (.int qv), .val (.double u), .second, .val (.double w), .second, .unset, .unset] [(.int (2 : Int32)), (.ref x), (.int (1 : Int32))] := by
  refine own_dupX1 (pc2 := 69) d6_68 rfl rfl rfl ?_
  refine own_iconst (v := 1) (pc2 := 70) d6_69 rfl rfl ?_
  refine own_iadd (pc2 := 71) d6_70 rfl (v := (2 : Int32)) (by decide) ?_
  exact own_refl
theorem own_a1_4 (x : Addr) (qv : Int32) (u : UInt64) (w : UInt64) :
    own_Go own_K6 prog_51_method_4_code 74 #[.val (.ref x), .val (.int qv), .val (.double u), .second, .val (.double w), .second, .unset, .unset] [(.int (1 : Int32))] 93 #[.val (.ref x), .val (.int qv), .val (.double u), .second, .val (.double w), .second, .val (.int (1 : Int32)), .val (.int (0 : Int32))] [(.ref x), (.double w), (.double u)] := by
  refine own_istore (pc2 := 76) d6_74 rfl (L' := #[.val (.ref x), .val (.int qv), .val (.double u), .second, .val (.double w), .second, .val (.int (1 : Int32)), .unset]) rfl ?_
  refine own_iload (pc2 := 78) d6_76 rfl rfl ?_
  refine own_ifNo (pc2 := 81) d6_78 rfl (by decide) ?_
  refine own_iload (pc2 := 83) d6_81 rfl rfl ?_
  refine own_iconst (v := 1) (pc2 := 84) d6_83 rfl rfl ?_
  refine own_isub (pc2 := 85) d6_84 rfl (v := (0 : Int32)) (by decide) ?_
  refine own_iconst (v := 2) (pc2 := 86) d6_85 rfl rfl ?_
  refine own_idiv (pc2 := 87) d6_86 rfl (by decide) (v := (0 : Int32)) (by decide) ?_
  refine own_istore (pc2 := 89) d6_87 rfl (L' := #[.val (.ref x), .val (.int qv), .val (.double u), .second, .val (.double w), .second, .val (.int (1 : Int32)), .val (.int (0 : Int32))]) rfl ?_
  refine own_dloadN (pc2 := 90) d6_89 rfl rfl ?_
  refine own_dload (pc2 := 92) d6_90 rfl rfl ?_
  refine own_aloadN (pc2 := 93) d6_92 rfl rfl rfl ?_
  exact own_refl
theorem own_a1_5 (x : Addr) (qv : Int32) (u : UInt64) (w : UInt64) (ad : Addr) :
    own_Go own_K6 prog_51_method_4_code 96 #[.val (.ref x), .val (.int qv), .val (.double u), .second, .val (.double w), .second, .val (.int (1 : Int32)), .val (.int (0 : Int32))] [(.ref ad), (.double w), (.double u)] 98 #[.val (.ref x), .val (.int qv), .val (.double u), .second, .val (.double w), .second, .val (.int (1 : Int32)), .val (.int (0 : Int32))] [(.int (0 : Int32)), (.ref ad), (.double w), (.double u)] := by
  refine own_iload (pc2 := 98) d6_96 rfl rfl ?_
  exact own_refl
theorem own_a1_6 (x : Addr) (qv : Int32) (u : UInt64) (w : UInt64) (d0 : UInt64) :
    own_Go own_K6 prog_51_method_4_code 99 #[.val (.ref x), .val (.int qv), .val (.double u), .second, .val (.double w), .second, .val (.int (1 : Int32)), .val (.int (0 : Int32))] [(.double d0), (.double w), (.double u)] 100 #[.val (.ref x), .val (.int qv), .val (.double u), .second, .val (.double w), .second, .val (.int (1 : Int32)), .val (.int (0 : Int32))] [(.ref x), (.double d0), (.double w), (.double u)] := by
  refine own_aloadN (pc2 := 100) d6_99 rfl rfl rfl ?_
  exact own_refl
theorem own_a1_7 (x : Addr) (qv : Int32) (u : UInt64) (w : UInt64) (ar : Addr) (d0 : UInt64) :
    own_Go own_K6 prog_51_method_4_code 103 #[.val (.ref x), .val (.int qv), .val (.double u), .second, .val (.double w), .second, .val (.int (1 : Int32)), .val (.int (0 : Int32))] [(.ref ar), (.double d0), (.double w), (.double u)] 105 #[.val (.ref x), .val (.int qv), .val (.double u), .second, .val (.double w), .second, .val (.int (1 : Int32)), .val (.int (0 : Int32))] [(.int (0 : Int32)), (.ref ar), (.double d0), (.double w), (.double u)] := by
  refine own_iload (pc2 := 105) d6_103 rfl rfl ?_
  exact own_refl
set_option maxRecDepth 65536 in
set_option maxHeartbeats 4000000 in
theorem own_add1 (l : Launch) (Z : State) (a0 : Array Value) (hb0 : Heap) (hw : ∀ d ∈ tables_1, d.before a0 Z = true) (x : Addr) (qv : Int32) (u : UInt64) (w : UInt64) (an ad ar : Addr) (mm : Nat) (n0 n1 n2 : Int32) (d0 d1 d2 r0 r1 r2 : UInt64) (z : Int32) (hlen : ((.int n0 :: .int n1 :: .int n2 :: List.replicate mm (.int 0) : List Value)).length.toInt32 = z) (hzz : 16 ≤ z.toInt) :
    own_Met l Z a0 hb0 (⟨"com/example/recourse/recourse/network/NodeHeap", "add", "(IDD)V"⟩ : MethodName) prog_51_method_4_code 8 none [] ({ frames := 1, cells := 0, slots := 0, locals := 40 } : Room) #[(.ref x), (.int qv), (.double u), (.double w)] [(x, own_O "com/example/recourse/recourse/network/NodeHeap" [("com/example/recourse/recourse/network/NodeHeap", "nodes", "[I", .ref an), ("com/example/recourse/recourse/network/NodeHeap", "distances", "[D", .ref ad), ("com/example/recourse/recourse/network/NodeHeap", "remainders", "[D", .ref ar), ("com/example/recourse/recourse/network/NodeHeap", "size", "I", .int 1)]), (an, own_A .int ((.int n0) :: (.int n1) :: (.int n2) :: List.replicate mm (.int 0))), (ad, own_A .double ((.double d0) :: (.double d1) :: (.double d2) :: List.replicate mm (.double 0))), (ar, own_A .double ((.double r0) :: (.double r1) :: (.double r2) :: List.replicate mm (.double 0)))] (fun v cs' => ∃ (m0 m1 m2 : Int32) (e0 e1 e2 f0 f1 f2 : UInt64), v = none ∧ cs' = [(x, own_O "com/example/recourse/recourse/network/NodeHeap" [("com/example/recourse/recourse/network/NodeHeap", "nodes", "[I", .ref an), ("com/example/recourse/recourse/network/NodeHeap", "distances", "[D", .ref ad), ("com/example/recourse/recourse/network/NodeHeap", "remainders", "[D", .ref ar), ("com/example/recourse/recourse/network/NodeHeap", "size", "I", .int 2)]), (an, own_A .int ((.int m0) :: (.int m1) :: (.int m2) :: List.replicate mm (.int 0))), (ad, own_A .double ((.double e0) :: (.double e1) :: (.double e2) :: List.replicate mm (.double 0))), (ar, own_A .double ((.double f0) :: (.double f1) :: (.double f2) :: List.replicate mm (.double 0)))]) := by
  refine own_met_of (L0 := #[.val (.ref x), .val (.int qv), .val (.double u), .second, .val (.double w), .second, .unset, .unset]) (plainFor_of_name own_pn6) (fun m => own_ef6 m x qv u w) ?_
  intro p e s m below meth c T0 hx hZ hown hby hml hnm H0
  obtain ⟨Ta1_1, Ha1_1, sta1_1⟩ := own_getF H0 hx hZ hown (hw _ (List.mem_of_getElem? (i := 26) rfl)) 0 3 rfl rfl (g := (mkF m 1 #[.val (.ref x), .val (.int qv), .val (.double u), .second, .val (.double w), .second, .unset, .unset] [(.ref x)])) rfl rfl (hb hby d6_1)
  change own_S _ _ _ _ _ _ _ _ _ _ _ _ _ _ [(x, own_O "com/example/recourse/recourse/network/NodeHeap" [("com/example/recourse/recourse/network/NodeHeap", "nodes", "[I", .ref an), ("com/example/recourse/recourse/network/NodeHeap", "distances", "[D", .ref ad), ("com/example/recourse/recourse/network/NodeHeap", "remainders", "[D", .ref ar), ("com/example/recourse/recourse/network/NodeHeap", "size", "I", .int 1)]), (an, own_A .int ((.int n0) :: (.int n1) :: (.int n2) :: List.replicate mm (.int 0))), (ad, own_A .double ((.double d0) :: (.double d1) :: (.double d2) :: List.replicate mm (.double 0))), (ar, own_A .double ((.double r0) :: (.double r1) :: (.double r2) :: List.replicate mm (.double 0)))] _ _ at Ha1_1
  obtain ⟨Ta1_2, Ha1_2, sta1_2⟩ := own_getF Ha1_1 hx hZ hown (hw _ (List.mem_of_getElem? (i := 14) rfl)) 0 0 rfl rfl (g := (mkF m 5 #[.val (.ref x), .val (.int qv), .val (.double u), .second, .val (.double w), .second, .unset, .unset] [(.ref x), (.int (1 : Int32))])) rfl rfl (hb hby d6_5)
  change own_S _ _ _ _ _ _ _ _ _ _ _ _ _ _ [(x, own_O "com/example/recourse/recourse/network/NodeHeap" [("com/example/recourse/recourse/network/NodeHeap", "nodes", "[I", .ref an), ("com/example/recourse/recourse/network/NodeHeap", "distances", "[D", .ref ad), ("com/example/recourse/recourse/network/NodeHeap", "remainders", "[D", .ref ar), ("com/example/recourse/recourse/network/NodeHeap", "size", "I", .int 1)]), (an, own_A .int ((.int n0) :: (.int n1) :: (.int n2) :: List.replicate mm (.int 0))), (ad, own_A .double ((.double d0) :: (.double d1) :: (.double d2) :: List.replicate mm (.double 0))), (ar, own_A .double ((.double r0) :: (.double r1) :: (.double r2) :: List.replicate mm (.double 0)))] _ _ at Ha1_2
  obtain ⟨Ta1_4, Ha1_4, sta1_4⟩ := own_getF Ha1_2 hx hZ hown (hw _ (List.mem_of_getElem? (i := 26) rfl)) 0 3 rfl rfl (g := (mkF m 65 #[.val (.ref x), .val (.int qv), .val (.double u), .second, .val (.double w), .second, .unset, .unset] [(.ref x), (.ref x)])) rfl rfl (hb hby d6_65)
  change own_S _ _ _ _ _ _ _ _ _ _ _ _ _ _ [(x, own_O "com/example/recourse/recourse/network/NodeHeap" [("com/example/recourse/recourse/network/NodeHeap", "nodes", "[I", .ref an), ("com/example/recourse/recourse/network/NodeHeap", "distances", "[D", .ref ad), ("com/example/recourse/recourse/network/NodeHeap", "remainders", "[D", .ref ar), ("com/example/recourse/recourse/network/NodeHeap", "size", "I", .int 1)]), (an, own_A .int ((.int n0) :: (.int n1) :: (.int n2) :: List.replicate mm (.int 0))), (ad, own_A .double ((.double d0) :: (.double d1) :: (.double d2) :: List.replicate mm (.double 0))), (ar, own_A .double ((.double r0) :: (.double r1) :: (.double r2) :: List.replicate mm (.double 0)))] _ _ at Ha1_4
  obtain ⟨Ta1_5, Ha1_5, sta1_5⟩ := own_putF Ha1_4 hx hZ hown (hw _ (List.mem_of_getElem? (i := 26) rfl)) 0 3 rfl rfl (Or.inl (hw _ (List.mem_of_getElem? (i := 27) rfl))) (hw _ (List.mem_of_getElem? (i := 1) rfl)) (ty := .int) (by decide) rfl rfl (g := (mkF m 71 #[.val (.ref x), .val (.int qv), .val (.double u), .second, .val (.double w), .second, .unset, .unset] [(.int (2 : Int32)), (.ref x), (.int (1 : Int32))])) rfl rfl (hb hby d6_71)
  change own_S _ _ _ _ _ _ _ _ _ _ _ _ _ _ [(x, own_O "com/example/recourse/recourse/network/NodeHeap" [("com/example/recourse/recourse/network/NodeHeap", "nodes", "[I", .ref an), ("com/example/recourse/recourse/network/NodeHeap", "distances", "[D", .ref ad), ("com/example/recourse/recourse/network/NodeHeap", "remainders", "[D", .ref ar), ("com/example/recourse/recourse/network/NodeHeap", "size", "I", .int (2 : Int32))]), (an, own_A .int ((.int n0) :: (.int n1) :: (.int n2) :: List.replicate mm (.int 0))), (ad, own_A .double ((.double d0) :: (.double d1) :: (.double d2) :: List.replicate mm (.double 0))), (ar, own_A .double ((.double r0) :: (.double r1) :: (.double r2) :: List.replicate mm (.double 0)))] _ _ at Ha1_5
  obtain ⟨Ta1_6, Ha1_6, sta1_6⟩ := own_getF Ha1_5 hx hZ hown (hw _ (List.mem_of_getElem? (i := 17) rfl)) 0 1 rfl rfl (g := (mkF m 93 #[.val (.ref x), .val (.int qv), .val (.double u), .second, .val (.double w), .second, .val (.int (1 : Int32)), .val (.int (0 : Int32))] [(.ref x), (.double w), (.double u)])) rfl rfl (hb hby d6_93)
  change own_S _ _ _ _ _ _ _ _ _ _ _ _ _ _ [(x, own_O "com/example/recourse/recourse/network/NodeHeap" [("com/example/recourse/recourse/network/NodeHeap", "nodes", "[I", .ref an), ("com/example/recourse/recourse/network/NodeHeap", "distances", "[D", .ref ad), ("com/example/recourse/recourse/network/NodeHeap", "remainders", "[D", .ref ar), ("com/example/recourse/recourse/network/NodeHeap", "size", "I", .int (2 : Int32))]), (an, own_A .int ((.int n0) :: (.int n1) :: (.int n2) :: List.replicate mm (.int 0))), (ad, own_A .double ((.double d0) :: (.double d1) :: (.double d2) :: List.replicate mm (.double 0))), (ar, own_A .double ((.double r0) :: (.double r1) :: (.double r2) :: List.replicate mm (.double 0)))] _ _ at Ha1_6
  obtain ⟨Ta1_8, Ha1_8, sta1_8⟩ := own_getF Ha1_6 hx hZ hown (hw _ (List.mem_of_getElem? (i := 19) rfl)) 0 2 rfl rfl (g := (mkF m 100 #[.val (.ref x), .val (.int qv), .val (.double u), .second, .val (.double w), .second, .val (.int (1 : Int32)), .val (.int (0 : Int32))] [(.ref x), (.double d0), (.double w), (.double u)])) rfl rfl (hb hby d6_100)
  change own_S _ _ _ _ _ _ _ _ _ _ _ _ _ _ [(x, own_O "com/example/recourse/recourse/network/NodeHeap" [("com/example/recourse/recourse/network/NodeHeap", "nodes", "[I", .ref an), ("com/example/recourse/recourse/network/NodeHeap", "distances", "[D", .ref ad), ("com/example/recourse/recourse/network/NodeHeap", "remainders", "[D", .ref ar), ("com/example/recourse/recourse/network/NodeHeap", "size", "I", .int (2 : Int32))]), (an, own_A .int ((.int n0) :: (.int n1) :: (.int n2) :: List.replicate mm (.int 0))), (ad, own_A .double ((.double d0) :: (.double d1) :: (.double d2) :: List.replicate mm (.double 0))), (ar, own_A .double ((.double r0) :: (.double r1) :: (.double r2) :: List.replicate mm (.double 0)))] _ _ at Ha1_8
  obtain ⟨Ta1_10, va1_10_, csa1_10_, qa1_10, Ha1_10, sta1_10⟩ := own_callS Ha1_8 hx hZ hown (hw _ (List.mem_of_getElem? (i := 38) rfl)) (hw _ (List.mem_of_getElem? (i := 39) rfl)) (hw _ (List.mem_of_getElem? (i := 40) rfl)) (hw _ (List.mem_of_getElem? (i := 41) rfl)) (by decide) (argsL := [(.double u), (.double w), (.double d0), (.double r0)]) (rest := []) (W := 0) (own_below l Z a0 hb0 hw _ _ _ _ _) (by decide) (by decide) (by decide) (by decide) (g := (mkF m 106 #[.val (.ref x), .val (.int qv), .val (.double u), .second, .val (.double w), .second, .val (.int (1 : Int32)), .val (.int (0 : Int32))] [(.double r0), (.double d0), (.double w), (.double u)])) rfl (by rw [hml]; rfl) (lenOf own_pd3 rfl) rfl (by show 2 * 0 + _ ≤ _; exact Nat.le_of_eq rfl) (hb hby d6_106)
  obtain ⟨⟨b, rfl, hbb⟩, rfl⟩ := qa1_10
  change own_S _ _ _ _ _ _ _ _ _ _ _ _ _ _ [(x, own_O "com/example/recourse/recourse/network/NodeHeap" [("com/example/recourse/recourse/network/NodeHeap", "nodes", "[I", .ref an), ("com/example/recourse/recourse/network/NodeHeap", "distances", "[D", .ref ad), ("com/example/recourse/recourse/network/NodeHeap", "remainders", "[D", .ref ar), ("com/example/recourse/recourse/network/NodeHeap", "size", "I", .int (2 : Int32))]), (an, own_A .int ((.int n0) :: (.int n1) :: (.int n2) :: List.replicate mm (.int 0))), (ad, own_A .double ((.double d0) :: (.double d1) :: (.double d2) :: List.replicate mm (.double 0))), (ar, own_A .double ((.double r0) :: (.double r1) :: (.double r2) :: List.replicate mm (.double 0)))] _ _ at Ha1_10
  have hb9 : if_icmp.holds .ne (1 : Int32) z = true := by rw [own_i_ne]; exact decide_eq_true (fun h => by rw [← h] at hzz; exact absurd hzz (by decide))
  rcases hbb with rfl | rfl
  · obtain ⟨Ta1_A11, Ha1_A11, sta1_A11⟩ := own_getF Ha1_10 hx hZ hown (hw _ (List.mem_of_getElem? (i := 14) rfl)) 0 0 rfl rfl (g := (mkF m 131 #[.val (.ref x), .val (.int qv), .val (.double u), .second, .val (.double w), .second, .val (.int (1 : Int32)), .val (.int (0 : Int32))] [(.ref x)])) rfl rfl (hb hby d6_131)
    change own_S _ _ _ _ _ _ _ _ _ _ _ _ _ _ [(x, own_O "com/example/recourse/recourse/network/NodeHeap" [("com/example/recourse/recourse/network/NodeHeap", "nodes", "[I", .ref an), ("com/example/recourse/recourse/network/NodeHeap", "distances", "[D", .ref ad), ("com/example/recourse/recourse/network/NodeHeap", "remainders", "[D", .ref ar), ("com/example/recourse/recourse/network/NodeHeap", "size", "I", .int (2 : Int32))]), (an, own_A .int ((.int n0) :: (.int n1) :: (.int n2) :: List.replicate mm (.int 0))), (ad, own_A .double ((.double d0) :: (.double d1) :: (.double d2) :: List.replicate mm (.double 0))), (ar, own_A .double ((.double r0) :: (.double r1) :: (.double r2) :: List.replicate mm (.double 0)))] _ _ at Ha1_A11
    obtain ⟨Ta1_A12, Ha1_A12, sta1_A12⟩ := own_iastore Ha1_A11 hx hZ 1 1 rfl (by decide) (Nat.le_of_ble_eq_true rfl) (g := (mkF m 137 #[.val (.ref x), .val (.int qv), .val (.double u), .second, .val (.double w), .second, .val (.int (1 : Int32)), .val (.int (0 : Int32))] [(.int qv), (.int (1 : Int32)), (.ref an)])) rfl rfl (hb hby d6_137)
    change own_S _ _ _ _ _ _ _ _ _ _ _ _ _ _ [(x, own_O "com/example/recourse/recourse/network/NodeHeap" [("com/example/recourse/recourse/network/NodeHeap", "nodes", "[I", .ref an), ("com/example/recourse/recourse/network/NodeHeap", "distances", "[D", .ref ad), ("com/example/recourse/recourse/network/NodeHeap", "remainders", "[D", .ref ar), ("com/example/recourse/recourse/network/NodeHeap", "size", "I", .int (2 : Int32))]), (an, own_A .int ((.int n0) :: (.int qv) :: (.int n2) :: List.replicate mm (.int 0))), (ad, own_A .double ((.double d0) :: (.double d1) :: (.double d2) :: List.replicate mm (.double 0))), (ar, own_A .double ((.double r0) :: (.double r1) :: (.double r2) :: List.replicate mm (.double 0)))] _ _ at Ha1_A12
    obtain ⟨Ta1_A13, Ha1_A13, sta1_A13⟩ := own_getF Ha1_A12 hx hZ hown (hw _ (List.mem_of_getElem? (i := 17) rfl)) 0 1 rfl rfl (g := (mkF m 139 #[.val (.ref x), .val (.int qv), .val (.double u), .second, .val (.double w), .second, .val (.int (1 : Int32)), .val (.int (0 : Int32))] [(.ref x)])) rfl rfl (hb hby d6_139)
    change own_S _ _ _ _ _ _ _ _ _ _ _ _ _ _ [(x, own_O "com/example/recourse/recourse/network/NodeHeap" [("com/example/recourse/recourse/network/NodeHeap", "nodes", "[I", .ref an), ("com/example/recourse/recourse/network/NodeHeap", "distances", "[D", .ref ad), ("com/example/recourse/recourse/network/NodeHeap", "remainders", "[D", .ref ar), ("com/example/recourse/recourse/network/NodeHeap", "size", "I", .int (2 : Int32))]), (an, own_A .int ((.int n0) :: (.int qv) :: (.int n2) :: List.replicate mm (.int 0))), (ad, own_A .double ((.double d0) :: (.double d1) :: (.double d2) :: List.replicate mm (.double 0))), (ar, own_A .double ((.double r0) :: (.double r1) :: (.double r2) :: List.replicate mm (.double 0)))] _ _ at Ha1_A13
    obtain ⟨Ta1_A14, Ha1_A14, sta1_A14⟩ := own_dastore Ha1_A13 hx hZ 2 1 rfl (by decide) (Nat.le_of_ble_eq_true rfl) (g := (mkF m 145 #[.val (.ref x), .val (.int qv), .val (.double u), .second, .val (.double w), .second, .val (.int (1 : Int32)), .val (.int (0 : Int32))] [(.double u), (.int (1 : Int32)), (.ref ad)])) rfl rfl (hb hby d6_145)
    change own_S _ _ _ _ _ _ _ _ _ _ _ _ _ _ [(x, own_O "com/example/recourse/recourse/network/NodeHeap" [("com/example/recourse/recourse/network/NodeHeap", "nodes", "[I", .ref an), ("com/example/recourse/recourse/network/NodeHeap", "distances", "[D", .ref ad), ("com/example/recourse/recourse/network/NodeHeap", "remainders", "[D", .ref ar), ("com/example/recourse/recourse/network/NodeHeap", "size", "I", .int (2 : Int32))]), (an, own_A .int ((.int n0) :: (.int qv) :: (.int n2) :: List.replicate mm (.int 0))), (ad, own_A .double ((.double d0) :: (.double u) :: (.double d2) :: List.replicate mm (.double 0))), (ar, own_A .double ((.double r0) :: (.double r1) :: (.double r2) :: List.replicate mm (.double 0)))] _ _ at Ha1_A14
    obtain ⟨Ta1_A15, Ha1_A15, sta1_A15⟩ := own_getF Ha1_A14 hx hZ hown (hw _ (List.mem_of_getElem? (i := 19) rfl)) 0 2 rfl rfl (g := (mkF m 147 #[.val (.ref x), .val (.int qv), .val (.double u), .second, .val (.double w), .second, .val (.int (1 : Int32)), .val (.int (0 : Int32))] [(.ref x)])) rfl rfl (hb hby d6_147)
    change own_S _ _ _ _ _ _ _ _ _ _ _ _ _ _ [(x, own_O "com/example/recourse/recourse/network/NodeHeap" [("com/example/recourse/recourse/network/NodeHeap", "nodes", "[I", .ref an), ("com/example/recourse/recourse/network/NodeHeap", "distances", "[D", .ref ad), ("com/example/recourse/recourse/network/NodeHeap", "remainders", "[D", .ref ar), ("com/example/recourse/recourse/network/NodeHeap", "size", "I", .int (2 : Int32))]), (an, own_A .int ((.int n0) :: (.int qv) :: (.int n2) :: List.replicate mm (.int 0))), (ad, own_A .double ((.double d0) :: (.double u) :: (.double d2) :: List.replicate mm (.double 0))), (ar, own_A .double ((.double r0) :: (.double r1) :: (.double r2) :: List.replicate mm (.double 0)))] _ _ at Ha1_A15
    obtain ⟨Ta1_A16, Ha1_A16, sta1_A16⟩ := own_dastore Ha1_A15 hx hZ 3 1 rfl (by decide) (Nat.le_of_ble_eq_true rfl) (g := (mkF m 154 #[.val (.ref x), .val (.int qv), .val (.double u), .second, .val (.double w), .second, .val (.int (1 : Int32)), .val (.int (0 : Int32))] [(.double w), (.int (1 : Int32)), (.ref ar)])) rfl rfl (hb hby d6_154)
    change own_S _ _ _ _ _ _ _ _ _ _ _ _ _ _ [(x, own_O "com/example/recourse/recourse/network/NodeHeap" [("com/example/recourse/recourse/network/NodeHeap", "nodes", "[I", .ref an), ("com/example/recourse/recourse/network/NodeHeap", "distances", "[D", .ref ad), ("com/example/recourse/recourse/network/NodeHeap", "remainders", "[D", .ref ar), ("com/example/recourse/recourse/network/NodeHeap", "size", "I", .int (2 : Int32))]), (an, own_A .int ((.int n0) :: (.int qv) :: (.int n2) :: List.replicate mm (.int 0))), (ad, own_A .double ((.double d0) :: (.double u) :: (.double d2) :: List.replicate mm (.double 0))), (ar, own_A .double ((.double r0) :: (.double w) :: (.double r2) :: List.replicate mm (.double 0)))] _ _ at Ha1_A16
    refine ⟨_, _, _, _, 155, #[.val (.ref x), .val (.int qv), .val (.double u), .second, .val (.double w), .second, .val (.int (1 : Int32)), .val (.int (0 : Int32))], Ha1_A16, by decide, by decide, Or.inl ⟨rfl, ⟨n0, qv, n2, d0, u, d2, r0, w, r2, rfl, rfl⟩, d6_155, fun target q => ?_⟩⟩
    refine own_go H0 hx hZ hown hby hw own_K6_ok (own_a1_0 x qv u w) _ ?_
    refine sta1_1 _ ?_
    refine own_go Ha1_1 hx hZ hown hby hw own_K6_ok (own_a1_1 x qv u w) _ ?_
    refine sta1_2 _ ?_
    refine own_arrlen Ha1_2 hx hZ 1 rfl (z := z) hlen (g := (mkF m 8 #[.val (.ref x), .val (.int qv), .val (.double u), .second, .val (.double w), .second, .unset, .unset] [(.ref an), (.int (1 : Int32))])) rfl rfl (hb hby d6_8) _ ?_
    refine own_go Ha1_2 hx hZ hown hby hw own_K6_ok (own_a1_2 x qv u w z hb9) _ ?_
    refine sta1_4 _ ?_
    refine own_go Ha1_4 hx hZ hown hby hw own_K6_ok (own_a1_3 x qv u w) _ ?_
    refine sta1_5 _ ?_
    refine own_go Ha1_5 hx hZ hown hby hw own_K6_ok (own_a1_4 x qv u w) _ ?_
    refine sta1_6 _ ?_
    refine own_go Ha1_6 hx hZ hown hby hw own_K6_ok (own_a1_5 x qv u w ad) _ ?_
    refine own_daload Ha1_6 hx hZ 2 0 rfl (by decide) rfl (g := (mkF m 98 #[.val (.ref x), .val (.int qv), .val (.double u), .second, .val (.double w), .second, .val (.int (1 : Int32)), .val (.int (0 : Int32))] [(.int (0 : Int32)), (.ref ad), (.double w), (.double u)])) rfl rfl (hb hby d6_98) _ ?_
    refine own_go Ha1_6 hx hZ hown hby hw own_K6_ok (own_a1_6 x qv u w d0) _ ?_
    refine sta1_8 _ ?_
    refine own_go Ha1_8 hx hZ hown hby hw own_K6_ok (own_a1_7 x qv u w ar d0) _ ?_
    refine own_daload Ha1_8 hx hZ 3 0 rfl (by decide) rfl (g := (mkF m 105 #[.val (.ref x), .val (.int qv), .val (.double u), .second, .val (.double w), .second, .val (.int (1 : Int32)), .val (.int (0 : Int32))] [(.int (0 : Int32)), (.ref ar), (.double d0), (.double w), (.double u)])) rfl rfl (hb hby d6_105) _ ?_
    refine sta1_10 _ ?_
    refine own_go Ha1_10 hx hZ hown hby hw own_K6_ok (own_a1_A8 x qv u w) _ ?_
    refine sta1_A11 _ ?_
    refine own_go Ha1_A11 hx hZ hown hby hw own_K6_ok (own_a1_A9 x qv u w an) _ ?_
    refine sta1_A12 _ ?_
    refine own_go Ha1_A12 hx hZ hown hby hw own_K6_ok (own_a1_A10 x qv u w) _ ?_
    refine sta1_A13 _ ?_
    refine own_go Ha1_A13 hx hZ hown hby hw own_K6_ok (own_a1_A11 x qv u w ad) _ ?_
    refine sta1_A14 _ ?_
    refine own_go Ha1_A14 hx hZ hown hby hw own_K6_ok (own_a1_A12 x qv u w) _ ?_
    refine sta1_A15 _ ?_
    refine own_go Ha1_A15 hx hZ hown hby hw own_K6_ok (own_a1_A13 x qv u w ar) _ ?_
    refine sta1_A16 _ ?_
    exact q
  · obtain ⟨Ta1_B11, va1_B11_, csa1_B11_, qa1_B11, Ha1_B11, sta1_B11⟩ := own_callPr Ha1_10 hx hZ hown (hw _ (List.mem_of_getElem? (i := 42) rfl)) (hw _ (List.mem_of_getElem? (i := 43) rfl)) (hw _ (List.mem_of_getElem? (i := 44) rfl)) (hw _ (List.mem_of_getElem? (i := 1) rfl)) (hw _ (List.mem_of_getElem? (i := 2) rfl)) (hw _ (List.mem_of_getElem? (i := 45) rfl)) (by decide) (x := x) 0 rfl (argsL := [(.int (0 : Int32)), (.int (1 : Int32))]) (rest := []) (W := 0) (own_move01 l Z a0 hb0 hw x an ad ar mm n0 n1 n2 d0 d1 d2 r0 r1 r2 (2 : Int32)) (by decide) (by decide) (by decide) (by decide) (g := (mkF m 120 #[.val (.ref x), .val (.int qv), .val (.double u), .second, .val (.double w), .second, .val (.int (1 : Int32)), .val (.int (0 : Int32))] [(.int (1 : Int32)), (.int (0 : Int32)), (.ref x)])) rfl (by rw [hml]; rfl) (lenOf own_pd8 rfl) rfl (by show 2 * 0 + _ ≤ _; exact Nat.le_of_eq rfl) (hb hby d6_120)
    obtain ⟨rfl, rfl⟩ := qa1_B11
    change own_S _ _ _ _ _ _ _ _ _ _ _ _ _ _ [(x, own_O "com/example/recourse/recourse/network/NodeHeap" [("com/example/recourse/recourse/network/NodeHeap", "nodes", "[I", .ref an), ("com/example/recourse/recourse/network/NodeHeap", "distances", "[D", .ref ad), ("com/example/recourse/recourse/network/NodeHeap", "remainders", "[D", .ref ar), ("com/example/recourse/recourse/network/NodeHeap", "size", "I", .int 2)]), (an, own_A .int ((.int n0) :: (.int n0) :: (.int n2) :: List.replicate mm (.int 0))), (ad, own_A .double ((.double d0) :: (.double d0) :: (.double d2) :: List.replicate mm (.double 0))), (ar, own_A .double ((.double r0) :: (.double r0) :: (.double r2) :: List.replicate mm (.double 0)))] _ _ at Ha1_B11
    obtain ⟨Ta1_B12, Ha1_B12, sta1_B12⟩ := own_getF Ha1_B11 hx hZ hown (hw _ (List.mem_of_getElem? (i := 14) rfl)) 0 0 rfl rfl (g := (mkF m 131 #[.val (.ref x), .val (.int qv), .val (.double u), .second, .val (.double w), .second, .val (.int (0 : Int32)), .val (.int (0 : Int32))] [(.ref x)])) rfl rfl (hb hby d6_131)
    change own_S _ _ _ _ _ _ _ _ _ _ _ _ _ _ [(x, own_O "com/example/recourse/recourse/network/NodeHeap" [("com/example/recourse/recourse/network/NodeHeap", "nodes", "[I", .ref an), ("com/example/recourse/recourse/network/NodeHeap", "distances", "[D", .ref ad), ("com/example/recourse/recourse/network/NodeHeap", "remainders", "[D", .ref ar), ("com/example/recourse/recourse/network/NodeHeap", "size", "I", .int 2)]), (an, own_A .int ((.int n0) :: (.int n0) :: (.int n2) :: List.replicate mm (.int 0))), (ad, own_A .double ((.double d0) :: (.double d0) :: (.double d2) :: List.replicate mm (.double 0))), (ar, own_A .double ((.double r0) :: (.double r0) :: (.double r2) :: List.replicate mm (.double 0)))] _ _ at Ha1_B12
    obtain ⟨Ta1_B13, Ha1_B13, sta1_B13⟩ := own_iastore Ha1_B12 hx hZ 1 0 rfl (by decide) (Nat.le_of_ble_eq_true rfl) (g := (mkF m 137 #[.val (.ref x), .val (.int qv), .val (.double u), .second, .val (.double w), .second, .val (.int (0 : Int32)), .val (.int (0 : Int32))] [(.int qv), (.int (0 : Int32)), (.ref an)])) rfl rfl (hb hby d6_137)
    change own_S _ _ _ _ _ _ _ _ _ _ _ _ _ _ [(x, own_O "com/example/recourse/recourse/network/NodeHeap" [("com/example/recourse/recourse/network/NodeHeap", "nodes", "[I", .ref an), ("com/example/recourse/recourse/network/NodeHeap", "distances", "[D", .ref ad), ("com/example/recourse/recourse/network/NodeHeap", "remainders", "[D", .ref ar), ("com/example/recourse/recourse/network/NodeHeap", "size", "I", .int 2)]), (an, own_A .int ((.int qv) :: (.int n0) :: (.int n2) :: List.replicate mm (.int 0))), (ad, own_A .double ((.double d0) :: (.double d0) :: (.double d2) :: List.replicate mm (.double 0))), (ar, own_A .double ((.double r0) :: (.double r0) :: (.double r2) :: List.replicate mm (.double 0)))] _ _ at Ha1_B13
    obtain ⟨Ta1_B14, Ha1_B14, sta1_B14⟩ := own_getF Ha1_B13 hx hZ hown (hw _ (List.mem_of_getElem? (i := 17) rfl)) 0 1 rfl rfl (g := (mkF m 139 #[.val (.ref x), .val (.int qv), .val (.double u), .second, .val (.double w), .second, .val (.int (0 : Int32)), .val (.int (0 : Int32))] [(.ref x)])) rfl rfl (hb hby d6_139)
    change own_S _ _ _ _ _ _ _ _ _ _ _ _ _ _ [(x, own_O "com/example/recourse/recourse/network/NodeHeap" [("com/example/recourse/recourse/network/NodeHeap", "nodes", "[I", .ref an), ("com/example/recourse/recourse/network/NodeHeap", "distances", "[D", .ref ad), ("com/example/recourse/recourse/network/NodeHeap", "remainders", "[D", .ref ar), ("com/example/recourse/recourse/network/NodeHeap", "size", "I", .int 2)]), (an, own_A .int ((.int qv) :: (.int n0) :: (.int n2) :: List.replicate mm (.int 0))), (ad, own_A .double ((.double d0) :: (.double d0) :: (.double d2) :: List.replicate mm (.double 0))), (ar, own_A .double ((.double r0) :: (.double r0) :: (.double r2) :: List.replicate mm (.double 0)))] _ _ at Ha1_B14
    obtain ⟨Ta1_B15, Ha1_B15, sta1_B15⟩ := own_dastore Ha1_B14 hx hZ 2 0 rfl (by decide) (Nat.le_of_ble_eq_true rfl) (g := (mkF m 145 #[.val (.ref x), .val (.int qv), .val (.double u), .second, .val (.double w), .second, .val (.int (0 : Int32)), .val (.int (0 : Int32))] [(.double u), (.int (0 : Int32)), (.ref ad)])) rfl rfl (hb hby d6_145)
    change own_S _ _ _ _ _ _ _ _ _ _ _ _ _ _ [(x, own_O "com/example/recourse/recourse/network/NodeHeap" [("com/example/recourse/recourse/network/NodeHeap", "nodes", "[I", .ref an), ("com/example/recourse/recourse/network/NodeHeap", "distances", "[D", .ref ad), ("com/example/recourse/recourse/network/NodeHeap", "remainders", "[D", .ref ar), ("com/example/recourse/recourse/network/NodeHeap", "size", "I", .int 2)]), (an, own_A .int ((.int qv) :: (.int n0) :: (.int n2) :: List.replicate mm (.int 0))), (ad, own_A .double ((.double u) :: (.double d0) :: (.double d2) :: List.replicate mm (.double 0))), (ar, own_A .double ((.double r0) :: (.double r0) :: (.double r2) :: List.replicate mm (.double 0)))] _ _ at Ha1_B15
    obtain ⟨Ta1_B16, Ha1_B16, sta1_B16⟩ := own_getF Ha1_B15 hx hZ hown (hw _ (List.mem_of_getElem? (i := 19) rfl)) 0 2 rfl rfl (g := (mkF m 147 #[.val (.ref x), .val (.int qv), .val (.double u), .second, .val (.double w), .second, .val (.int (0 : Int32)), .val (.int (0 : Int32))] [(.ref x)])) rfl rfl (hb hby d6_147)
    change own_S _ _ _ _ _ _ _ _ _ _ _ _ _ _ [(x, own_O "com/example/recourse/recourse/network/NodeHeap" [("com/example/recourse/recourse/network/NodeHeap", "nodes", "[I", .ref an), ("com/example/recourse/recourse/network/NodeHeap", "distances", "[D", .ref ad), ("com/example/recourse/recourse/network/NodeHeap", "remainders", "[D", .ref ar), ("com/example/recourse/recourse/network/NodeHeap", "size", "I", .int 2)]), (an, own_A .int ((.int qv) :: (.int n0) :: (.int n2) :: List.replicate mm (.int 0))), (ad, own_A .double ((.double u) :: (.double d0) :: (.double d2) :: List.replicate mm (.double 0))), (ar, own_A .double ((.double r0) :: (.double r0) :: (.double r2) :: List.replicate mm (.double 0)))] _ _ at Ha1_B16
    obtain ⟨Ta1_B17, Ha1_B17, sta1_B17⟩ := own_dastore Ha1_B16 hx hZ 3 0 rfl (by decide) (Nat.le_of_ble_eq_true rfl) (g := (mkF m 154 #[.val (.ref x), .val (.int qv), .val (.double u), .second, .val (.double w), .second, .val (.int (0 : Int32)), .val (.int (0 : Int32))] [(.double w), (.int (0 : Int32)), (.ref ar)])) rfl rfl (hb hby d6_154)
    change own_S _ _ _ _ _ _ _ _ _ _ _ _ _ _ [(x, own_O "com/example/recourse/recourse/network/NodeHeap" [("com/example/recourse/recourse/network/NodeHeap", "nodes", "[I", .ref an), ("com/example/recourse/recourse/network/NodeHeap", "distances", "[D", .ref ad), ("com/example/recourse/recourse/network/NodeHeap", "remainders", "[D", .ref ar), ("com/example/recourse/recourse/network/NodeHeap", "size", "I", .int 2)]), (an, own_A .int ((.int qv) :: (.int n0) :: (.int n2) :: List.replicate mm (.int 0))), (ad, own_A .double ((.double u) :: (.double d0) :: (.double d2) :: List.replicate mm (.double 0))), (ar, own_A .double ((.double w) :: (.double r0) :: (.double r2) :: List.replicate mm (.double 0)))] _ _ at Ha1_B17
    refine ⟨_, _, _, _, 155, #[.val (.ref x), .val (.int qv), .val (.double u), .second, .val (.double w), .second, .val (.int (0 : Int32)), .val (.int (0 : Int32))], Ha1_B17, by decide, by decide, Or.inl ⟨rfl, ⟨qv, n0, n2, u, d0, d2, w, r0, r2, rfl, rfl⟩, d6_155, fun target q => ?_⟩⟩
    refine own_go H0 hx hZ hown hby hw own_K6_ok (own_a1_0 x qv u w) _ ?_
    refine sta1_1 _ ?_
    refine own_go Ha1_1 hx hZ hown hby hw own_K6_ok (own_a1_1 x qv u w) _ ?_
    refine sta1_2 _ ?_
    refine own_arrlen Ha1_2 hx hZ 1 rfl (z := z) hlen (g := (mkF m 8 #[.val (.ref x), .val (.int qv), .val (.double u), .second, .val (.double w), .second, .unset, .unset] [(.ref an), (.int (1 : Int32))])) rfl rfl (hb hby d6_8) _ ?_
    refine own_go Ha1_2 hx hZ hown hby hw own_K6_ok (own_a1_2 x qv u w z hb9) _ ?_
    refine sta1_4 _ ?_
    refine own_go Ha1_4 hx hZ hown hby hw own_K6_ok (own_a1_3 x qv u w) _ ?_
    refine sta1_5 _ ?_
    refine own_go Ha1_5 hx hZ hown hby hw own_K6_ok (own_a1_4 x qv u w) _ ?_
    refine sta1_6 _ ?_
    refine own_go Ha1_6 hx hZ hown hby hw own_K6_ok (own_a1_5 x qv u w ad) _ ?_
    refine own_daload Ha1_6 hx hZ 2 0 rfl (by decide) rfl (g := (mkF m 98 #[.val (.ref x), .val (.int qv), .val (.double u), .second, .val (.double w), .second, .val (.int (1 : Int32)), .val (.int (0 : Int32))] [(.int (0 : Int32)), (.ref ad), (.double w), (.double u)])) rfl rfl (hb hby d6_98) _ ?_
    refine own_go Ha1_6 hx hZ hown hby hw own_K6_ok (own_a1_6 x qv u w d0) _ ?_
    refine sta1_8 _ ?_
    refine own_go Ha1_8 hx hZ hown hby hw own_K6_ok (own_a1_7 x qv u w ar d0) _ ?_
    refine own_daload Ha1_8 hx hZ 3 0 rfl (by decide) rfl (g := (mkF m 105 #[.val (.ref x), .val (.int qv), .val (.double u), .second, .val (.double w), .second, .val (.int (1 : Int32)), .val (.int (0 : Int32))] [(.int (0 : Int32)), (.ref ar), (.double d0), (.double w), (.double u)])) rfl rfl (hb hby d6_105) _ ?_
    refine sta1_10 _ ?_
    refine own_go Ha1_10 hx hZ hown hby hw own_K6_ok (own_a1_B8 x qv u w) _ ?_
    refine sta1_B11 _ ?_
    refine own_go Ha1_B11 hx hZ hown hby hw own_K6_ok (own_a1_B9 x qv u w) _ ?_
    refine sta1_B12 _ ?_
    refine own_go Ha1_B12 hx hZ hown hby hw own_K6_ok (own_a1_B10 x qv u w an) _ ?_
    refine sta1_B13 _ ?_
    refine own_go Ha1_B13 hx hZ hown hby hw own_K6_ok (own_a1_B11 x qv u w) _ ?_
    refine sta1_B14 _ ?_
    refine own_go Ha1_B14 hx hZ hown hby hw own_K6_ok (own_a1_B12 x qv u w ad) _ ?_
    refine sta1_B15 _ ?_
    refine own_go Ha1_B15 hx hZ hown hby hw own_K6_ok (own_a1_B13 x qv u w) _ ?_
    refine sta1_B16 _ ?_
    refine own_go Ha1_B16 hx hZ hown hby hw own_K6_ok (own_a1_B14 x qv u w ar) _ ?_
    refine sta1_B17 _ ?_
    exact q
theorem own_a2_A8 (x : Addr) (qv : Int32) (u : UInt64) (w : UInt64) :
    own_Go own_K6 prog_51_method_4_code 109 #[.val (.ref x), .val (.int qv), .val (.double u), .second, .val (.double w), .second, .val (.int (2 : Int32)), .val (.int (0 : Int32))] [(.int (0 : Int32))] 131 #[.val (.ref x), .val (.int qv), .val (.double u), .second, .val (.double w), .second, .val (.int (2 : Int32)), .val (.int (0 : Int32))] [(.ref x)] := by
  refine own_ifNo (pc2 := 112) d6_109 rfl (by decide) ?_
  refine own_goto (pc' := 130) d6_112 (by decide) (by decide) ?_
  refine own_aloadN (pc2 := 131) d6_130 rfl rfl rfl ?_
  exact own_refl
theorem own_a2_A9 (x : Addr) (qv : Int32) (u : UInt64) (w : UInt64) (an : Addr) :
    own_Go own_K6 prog_51_method_4_code 134 #[.val (.ref x), .val (.int qv), .val (.double u), .second, .val (.double w), .second, .val (.int (2 : Int32)), .val (.int (0 : Int32))] [(.ref an)] 137 #[.val (.ref x), .val (.int qv), .val (.double u), .second, .val (.double w), .second, .val (.int (2 : Int32)), .val (.int (0 : Int32))] [(.int qv), (.int (2 : Int32)), (.ref an)] := by
  refine own_iload (pc2 := 136) d6_134 rfl rfl ?_
  refine own_iloadN (pc2 := 137) d6_136 rfl rfl ?_
  exact own_refl
theorem own_a2_A10 (x : Addr) (qv : Int32) (u : UInt64) (w : UInt64) :
    own_Go own_K6 prog_51_method_4_code 138 #[.val (.ref x), .val (.int qv), .val (.double u), .second, .val (.double w), .second, .val (.int (2 : Int32)), .val (.int (0 : Int32))] [] 139 #[.val (.ref x), .val (.int qv), .val (.double u), .second, .val (.double w), .second, .val (.int (2 : Int32)), .val (.int (0 : Int32))] [(.ref x)] := by
  refine own_aloadN (pc2 := 139) d6_138 rfl rfl rfl ?_
  exact own_refl
theorem own_a2_A11 (x : Addr) (qv : Int32) (u : UInt64) (w : UInt64) (ad : Addr) :
    own_Go own_K6 prog_51_method_4_code 142 #[.val (.ref x), .val (.int qv), .val (.double u), .second, .val (.double w), .second, .val (.int (2 : Int32)), .val (.int (0 : Int32))] [(.ref ad)] 145 #[.val (.ref x), .val (.int qv), .val (.double u), .second, .val (.double w), .second, .val (.int (2 : Int32)), .val (.int (0 : Int32))] [(.double u), (.int (2 : Int32)), (.ref ad)] := by
  refine own_iload (pc2 := 144) d6_142 rfl rfl ?_
  refine own_dloadN (pc2 := 145) d6_144 rfl rfl ?_
  exact own_refl
theorem own_a2_A12 (x : Addr) (qv : Int32) (u : UInt64) (w : UInt64) :
    own_Go own_K6 prog_51_method_4_code 146 #[.val (.ref x), .val (.int qv), .val (.double u), .second, .val (.double w), .second, .val (.int (2 : Int32)), .val (.int (0 : Int32))] [] 147 #[.val (.ref x), .val (.int qv), .val (.double u), .second, .val (.double w), .second, .val (.int (2 : Int32)), .val (.int (0 : Int32))] [(.ref x)] := by
  refine own_aloadN (pc2 := 147) d6_146 rfl rfl rfl ?_
  exact own_refl
theorem own_a2_A13 (x : Addr) (qv : Int32) (u : UInt64) (w : UInt64) (ar : Addr) :
    own_Go own_K6 prog_51_method_4_code 150 #[.val (.ref x), .val (.int qv), .val (.double u), .second, .val (.double w), .second, .val (.int (2 : Int32)), .val (.int (0 : Int32))] [(.ref ar)] 154 #[.val (.ref x), .val (.int qv), .val (.double u), .second, .val (.double w), .second, .val (.int (2 : Int32)), .val (.int (0 : Int32))] [(.double w), (.int (2 : Int32)), (.ref ar)] := by
  refine own_iload (pc2 := 152) d6_150 rfl rfl ?_
  refine own_dload (pc2 := 154) d6_152 rfl rfl ?_
  exact own_refl
theorem own_a2_B8 (x : Addr) (qv : Int32) (u : UInt64) (w : UInt64) :
    own_Go own_K6 prog_51_method_4_code 109 #[.val (.ref x), .val (.int qv), .val (.double u), .second, .val (.double w), .second, .val (.int (2 : Int32)), .val (.int (0 : Int32))] [(.int (1 : Int32))] 120 #[.val (.ref x), .val (.int qv), .val (.double u), .second, .val (.double w), .second, .val (.int (2 : Int32)), .val (.int (0 : Int32))] [(.int (2 : Int32)), (.int (0 : Int32)), (.ref x)] := by
  refine own_ifYes (pc' := 115) d6_109 (by decide) (by decide) (by decide) ?_
  refine own_aloadN (pc2 := 116) d6_115 rfl rfl rfl ?_
  refine own_iload (pc2 := 118) d6_116 rfl rfl ?_
  refine own_iload (pc2 := 120) d6_118 rfl rfl ?_
  exact own_refl
theorem own_a2_B9 (x : Addr) (qv : Int32) (u : UInt64) (w : UInt64) :
    own_Go own_K6 prog_51_method_4_code 123 #[.val (.ref x), .val (.int qv), .val (.double u), .second, .val (.double w), .second, .val (.int (2 : Int32)), .val (.int (0 : Int32))] [] 131 #[.val (.ref x), .val (.int qv), .val (.double u), .second, .val (.double w), .second, .val (.int (0 : Int32)), .val (.int (0 : Int32))] [(.ref x)] := by
  refine own_iload (pc2 := 125) d6_123 rfl rfl ?_
  refine own_istore (pc2 := 127) d6_125 rfl (L' := #[.val (.ref x), .val (.int qv), .val (.double u), .second, .val (.double w), .second, .val (.int (0 : Int32)), .val (.int (0 : Int32))]) rfl ?_
  refine own_goto (pc' := 76) d6_127 (by decide) (by decide) ?_
  refine own_iload (pc2 := 78) d6_76 rfl rfl ?_
  refine own_ifYes (pc' := 130) d6_78 (by decide) (by decide) (by decide) ?_
  refine own_aloadN (pc2 := 131) d6_130 rfl rfl rfl ?_
  exact own_refl
theorem own_a2_B10 (x : Addr) (qv : Int32) (u : UInt64) (w : UInt64) (an : Addr) :
    own_Go own_K6 prog_51_method_4_code 134 #[.val (.ref x), .val (.int qv), .val (.double u), .second, .val (.double w), .second, .val (.int (0 : Int32)), .val (.int (0 : Int32))] [(.ref an)] 137 #[.val (.ref x), .val (.int qv), .val (.double u), .second, .val (.double w), .second, .val (.int (0 : Int32)), .val (.int (0 : Int32))] [(.int qv), (.int (0 : Int32)), (.ref an)] := by
  refine own_iload (pc2 := 136) d6_134 rfl rfl ?_
  refine own_iloadN (pc2 := 137) d6_136 rfl rfl ?_
  exact own_refl
theorem own_a2_B11 (x : Addr) (qv : Int32) (u : UInt64) (w : UInt64) :
    own_Go own_K6 prog_51_method_4_code 138 #[.val (.ref x), .val (.int qv), .val (.double u), .second, .val (.double w), .second, .val (.int (0 : Int32)), .val (.int (0 : Int32))] [] 139 #[.val (.ref x), .val (.int qv), .val (.double u), .second, .val (.double w), .second, .val (.int (0 : Int32)), .val (.int (0 : Int32))] [(.ref x)] := by
  refine own_aloadN (pc2 := 139) d6_138 rfl rfl rfl ?_
  exact own_refl
theorem own_a2_B12 (x : Addr) (qv : Int32) (u : UInt64) (w : UInt64) (ad : Addr) :
    own_Go own_K6 prog_51_method_4_code 142 #[.val (.ref x), .val (.int qv), .val (.double u), .second, .val (.double w), .second, .val (.int (0 : Int32)), .val (.int (0 : Int32))] [(.ref ad)] 145 #[.val (.ref x), .val (.int qv), .val (.double u), .second, .val (.double w), .second, .val (.int (0 : Int32)), .val (.int (0 : Int32))] [(.double u), (.int (0 : Int32)), (.ref ad)] := by
  refine own_iload (pc2 := 144) d6_142 rfl rfl ?_
  refine own_dloadN (pc2 := 145) d6_144 rfl rfl ?_
  exact own_refl
theorem own_a2_B13 (x : Addr) (qv : Int32) (u : UInt64) (w : UInt64) :
    own_Go own_K6 prog_51_method_4_code 146 #[.val (.ref x), .val (.int qv), .val (.double u), .second, .val (.double w), .second, .val (.int (0 : Int32)), .val (.int (0 : Int32))] [] 147 #[.val (.ref x), .val (.int qv), .val (.double u), .second, .val (.double w), .second, .val (.int (0 : Int32)), .val (.int (0 : Int32))] [(.ref x)] := by
  refine own_aloadN (pc2 := 147) d6_146 rfl rfl rfl ?_
  exact own_refl
theorem own_a2_B14 (x : Addr) (qv : Int32) (u : UInt64) (w : UInt64) (ar : Addr) :
    own_Go own_K6 prog_51_method_4_code 150 #[.val (.ref x), .val (.int qv), .val (.double u), .second, .val (.double w), .second, .val (.int (0 : Int32)), .val (.int (0 : Int32))] [(.ref ar)] 154 #[.val (.ref x), .val (.int qv), .val (.double u), .second, .val (.double w), .second, .val (.int (0 : Int32)), .val (.int (0 : Int32))] [(.double w), (.int (0 : Int32)), (.ref ar)] := by
  refine own_iload (pc2 := 152) d6_150 rfl rfl ?_
  refine own_dload (pc2 := 154) d6_152 rfl rfl ?_
  exact own_refl
theorem own_a2_0 (x : Addr) (qv : Int32) (u : UInt64) (w : UInt64) :
    own_Go own_K6 prog_51_method_4_code 0 #[.val (.ref x), .val (.int qv), .val (.double u), .second, .val (.double w), .second, .unset, .unset] [] 1 #[.val (.ref x), .val (.int qv), .val (.double u), .second, .val (.double w), .second, .unset, .unset] [(.ref x)] := by
  refine own_aloadN (pc2 := 1) d6_0 rfl rfl rfl ?_
  exact own_refl
theorem own_a2_1 (x : Addr) (qv : Int32) (u : UInt64) (w : UInt64) :
    own_Go own_K6 prog_51_method_4_code 4 #[.val (.ref x), .val (.int qv), .val (.double u), .second, .val (.double w), .second, .unset, .unset] [(.int (2 : Int32))] 5 #[.val (.ref x), .val (.int qv), .val (.double u), .second, .val (.double w), .second, .unset, .unset] [(.ref x), (.int (2 : Int32))] := by
  refine own_aloadN (pc2 := 5) d6_4 rfl rfl rfl ?_
  exact own_refl
theorem own_a2_2 (x : Addr) (qv : Int32) (u : UInt64) (w : UInt64) (z : Int32) (hb9 : if_icmp.holds .ne (2 : Int32) z = true) :
    own_Go own_K6 prog_51_method_4_code 9 #[.val (.ref x), .val (.int qv), .val (.double u), .second, .val (.double w), .second, .unset, .unset] [(.int z), (.int (2 : Int32))] 65 #[.val (.ref x), .val (.int qv), .val (.double u), .second, .val (.double w), .second, .unset, .unset] [(.ref x), (.ref x)] := by
  refine own_icmpYes (pc' := 63) d6_9 hb9 (by decide) (by decide) ?_
  refine own_aloadN (pc2 := 64) d6_63 rfl rfl rfl ?_
  refine own_dup (pc2 := 65) d6_64 rfl rfl ?_
  exact own_refl
theorem own_a2_3 (x : Addr) (qv : Int32) (u : UInt64) (w : UInt64) :
    own_Go own_K6 prog_51_method_4_code 68 #[.val (.ref x), .val (.int qv), .val (.double u), .second, .val (.double w), .second, .unset, .unset] [(.int (2 : Int32)), (.ref x)] 71 #[.val (.ref x), .val (.int qv), .val (.double u), .second, .val (.double w), .second, .unset, .unset] [(.int (3 : Int32)), (.ref x), (.int (2 : Int32))] := by
  refine own_dupX1 (pc2 := 69) d6_68 rfl rfl rfl ?_
  refine own_iconst (v := 1) (pc2 := 70) d6_69 rfl rfl ?_
  refine own_iadd (pc2 := 71) d6_70 rfl (v := (3 : Int32)) (by decide) ?_
  exact own_refl
theorem own_a2_4 (x : Addr) (qv : Int32) (u : UInt64) (w : UInt64) :
    own_Go own_K6 prog_51_method_4_code 74 #[.val (.ref x), .val (.int qv), .val (.double u), .second, .val (.double w), .second, .unset, .unset] [(.int (2 : Int32))] 93 #[.val (.ref x), .val (.int qv), .val (.double u), .second, .val (.double w), .second, .val (.int (2 : Int32)), .val (.int (0 : Int32))] [(.ref x), (.double w), (.double u)] := by
  refine own_istore (pc2 := 76) d6_74 rfl (L' := #[.val (.ref x), .val (.int qv), .val (.double u), .second, .val (.double w), .second, .val (.int (2 : Int32)), .unset]) rfl ?_
  refine own_iload (pc2 := 78) d6_76 rfl rfl ?_
  refine own_ifNo (pc2 := 81) d6_78 rfl (by decide) ?_
  refine own_iload (pc2 := 83) d6_81 rfl rfl ?_
  refine own_iconst (v := 1) (pc2 := 84) d6_83 rfl rfl ?_
  refine own_isub (pc2 := 85) d6_84 rfl (v := (1 : Int32)) (by decide) ?_
  refine own_iconst (v := 2) (pc2 := 86) d6_85 rfl rfl ?_
  refine own_idiv (pc2 := 87) d6_86 rfl (by decide) (v := (0 : Int32)) (by decide) ?_
  refine own_istore (pc2 := 89) d6_87 rfl (L' := #[.val (.ref x), .val (.int qv), .val (.double u), .second, .val (.double w), .second, .val (.int (2 : Int32)), .val (.int (0 : Int32))]) rfl ?_
  refine own_dloadN (pc2 := 90) d6_89 rfl rfl ?_
  refine own_dload (pc2 := 92) d6_90 rfl rfl ?_
  refine own_aloadN (pc2 := 93) d6_92 rfl rfl rfl ?_
  exact own_refl
theorem own_a2_5 (x : Addr) (qv : Int32) (u : UInt64) (w : UInt64) (ad : Addr) :
    own_Go own_K6 prog_51_method_4_code 96 #[.val (.ref x), .val (.int qv), .val (.double u), .second, .val (.double w), .second, .val (.int (2 : Int32)), .val (.int (0 : Int32))] [(.ref ad), (.double w), (.double u)] 98 #[.val (.ref x), .val (.int qv), .val (.double u), .second, .val (.double w), .second, .val (.int (2 : Int32)), .val (.int (0 : Int32))] [(.int (0 : Int32)), (.ref ad), (.double w), (.double u)] := by
  refine own_iload (pc2 := 98) d6_96 rfl rfl ?_
  exact own_refl
theorem own_a2_6 (x : Addr) (qv : Int32) (u : UInt64) (w : UInt64) (d0 : UInt64) :
    own_Go own_K6 prog_51_method_4_code 99 #[.val (.ref x), .val (.int qv), .val (.double u), .second, .val (.double w), .second, .val (.int (2 : Int32)), .val (.int (0 : Int32))] [(.double d0), (.double w), (.double u)] 100 #[.val (.ref x), .val (.int qv), .val (.double u), .second, .val (.double w), .second, .val (.int (2 : Int32)), .val (.int (0 : Int32))] [(.ref x), (.double d0), (.double w), (.double u)] := by
  refine own_aloadN (pc2 := 100) d6_99 rfl rfl rfl ?_
  exact own_refl
theorem own_a2_7 (x : Addr) (qv : Int32) (u : UInt64) (w : UInt64) (ar : Addr) (d0 : UInt64) :
    own_Go own_K6 prog_51_method_4_code 103 #[.val (.ref x), .val (.int qv), .val (.double u), .second, .val (.double w), .second, .val (.int (2 : Int32)), .val (.int (0 : Int32))] [(.ref ar), (.double d0), (.double w), (.double u)] 105 #[.val (.ref x), .val (.int qv), .val (.double u), .second, .val (.double w), .second, .val (.int (2 : Int32)), .val (.int (0 : Int32))] [(.int (0 : Int32)), (.ref ar), (.double d0), (.double w), (.double u)] := by
  refine own_iload (pc2 := 105) d6_103 rfl rfl ?_
  exact own_refl
set_option maxRecDepth 65536 in
set_option maxHeartbeats 4000000 in
theorem own_add2 (l : Launch) (Z : State) (a0 : Array Value) (hb0 : Heap) (hw : ∀ d ∈ tables_1, d.before a0 Z = true) (x : Addr) (qv : Int32) (u : UInt64) (w : UInt64) (an ad ar : Addr) (mm : Nat) (n0 n1 n2 : Int32) (d0 d1 d2 r0 r1 r2 : UInt64) (z : Int32) (hlen : ((.int n0 :: .int n1 :: .int n2 :: List.replicate mm (.int 0) : List Value)).length.toInt32 = z) (hzz : 16 ≤ z.toInt) :
    own_Met l Z a0 hb0 (⟨"com/example/recourse/recourse/network/NodeHeap", "add", "(IDD)V"⟩ : MethodName) prog_51_method_4_code 8 none [] ({ frames := 1, cells := 0, slots := 0, locals := 40 } : Room) #[(.ref x), (.int qv), (.double u), (.double w)] [(x, own_O "com/example/recourse/recourse/network/NodeHeap" [("com/example/recourse/recourse/network/NodeHeap", "nodes", "[I", .ref an), ("com/example/recourse/recourse/network/NodeHeap", "distances", "[D", .ref ad), ("com/example/recourse/recourse/network/NodeHeap", "remainders", "[D", .ref ar), ("com/example/recourse/recourse/network/NodeHeap", "size", "I", .int 2)]), (an, own_A .int ((.int n0) :: (.int n1) :: (.int n2) :: List.replicate mm (.int 0))), (ad, own_A .double ((.double d0) :: (.double d1) :: (.double d2) :: List.replicate mm (.double 0))), (ar, own_A .double ((.double r0) :: (.double r1) :: (.double r2) :: List.replicate mm (.double 0)))] (fun v cs' => ∃ (m0 m1 m2 : Int32) (e0 e1 e2 f0 f1 f2 : UInt64), v = none ∧ cs' = [(x, own_O "com/example/recourse/recourse/network/NodeHeap" [("com/example/recourse/recourse/network/NodeHeap", "nodes", "[I", .ref an), ("com/example/recourse/recourse/network/NodeHeap", "distances", "[D", .ref ad), ("com/example/recourse/recourse/network/NodeHeap", "remainders", "[D", .ref ar), ("com/example/recourse/recourse/network/NodeHeap", "size", "I", .int 3)]), (an, own_A .int ((.int m0) :: (.int m1) :: (.int m2) :: List.replicate mm (.int 0))), (ad, own_A .double ((.double e0) :: (.double e1) :: (.double e2) :: List.replicate mm (.double 0))), (ar, own_A .double ((.double f0) :: (.double f1) :: (.double f2) :: List.replicate mm (.double 0)))]) := by
  refine own_met_of (L0 := #[.val (.ref x), .val (.int qv), .val (.double u), .second, .val (.double w), .second, .unset, .unset]) (plainFor_of_name own_pn6) (fun m => own_ef6 m x qv u w) ?_
  intro p e s m below meth c T0 hx hZ hown hby hml hnm H0
  obtain ⟨Ta2_1, Ha2_1, sta2_1⟩ := own_getF H0 hx hZ hown (hw _ (List.mem_of_getElem? (i := 26) rfl)) 0 3 rfl rfl (g := (mkF m 1 #[.val (.ref x), .val (.int qv), .val (.double u), .second, .val (.double w), .second, .unset, .unset] [(.ref x)])) rfl rfl (hb hby d6_1)
  change own_S _ _ _ _ _ _ _ _ _ _ _ _ _ _ [(x, own_O "com/example/recourse/recourse/network/NodeHeap" [("com/example/recourse/recourse/network/NodeHeap", "nodes", "[I", .ref an), ("com/example/recourse/recourse/network/NodeHeap", "distances", "[D", .ref ad), ("com/example/recourse/recourse/network/NodeHeap", "remainders", "[D", .ref ar), ("com/example/recourse/recourse/network/NodeHeap", "size", "I", .int 2)]), (an, own_A .int ((.int n0) :: (.int n1) :: (.int n2) :: List.replicate mm (.int 0))), (ad, own_A .double ((.double d0) :: (.double d1) :: (.double d2) :: List.replicate mm (.double 0))), (ar, own_A .double ((.double r0) :: (.double r1) :: (.double r2) :: List.replicate mm (.double 0)))] _ _ at Ha2_1
  obtain ⟨Ta2_2, Ha2_2, sta2_2⟩ := own_getF Ha2_1 hx hZ hown (hw _ (List.mem_of_getElem? (i := 14) rfl)) 0 0 rfl rfl (g := (mkF m 5 #[.val (.ref x), .val (.int qv), .val (.double u), .second, .val (.double w), .second, .unset, .unset] [(.ref x), (.int (2 : Int32))])) rfl rfl (hb hby d6_5)
  change own_S _ _ _ _ _ _ _ _ _ _ _ _ _ _ [(x, own_O "com/example/recourse/recourse/network/NodeHeap" [("com/example/recourse/recourse/network/NodeHeap", "nodes", "[I", .ref an), ("com/example/recourse/recourse/network/NodeHeap", "distances", "[D", .ref ad), ("com/example/recourse/recourse/network/NodeHeap", "remainders", "[D", .ref ar), ("com/example/recourse/recourse/network/NodeHeap", "size", "I", .int 2)]), (an, own_A .int ((.int n0) :: (.int n1) :: (.int n2) :: List.replicate mm (.int 0))), (ad, own_A .double ((.double d0) :: (.double d1) :: (.double d2) :: List.replicate mm (.double 0))), (ar, own_A .double ((.double r0) :: (.double r1) :: (.double r2) :: List.replicate mm (.double 0)))] _ _ at Ha2_2
  obtain ⟨Ta2_4, Ha2_4, sta2_4⟩ := own_getF Ha2_2 hx hZ hown (hw _ (List.mem_of_getElem? (i := 26) rfl)) 0 3 rfl rfl (g := (mkF m 65 #[.val (.ref x), .val (.int qv), .val (.double u), .second, .val (.double w), .second, .unset, .unset] [(.ref x), (.ref x)])) rfl rfl (hb hby d6_65)
  change own_S _ _ _ _ _ _ _ _ _ _ _ _ _ _ [(x, own_O "com/example/recourse/recourse/network/NodeHeap" [("com/example/recourse/recourse/network/NodeHeap", "nodes", "[I", .ref an), ("com/example/recourse/recourse/network/NodeHeap", "distances", "[D", .ref ad), ("com/example/recourse/recourse/network/NodeHeap", "remainders", "[D", .ref ar), ("com/example/recourse/recourse/network/NodeHeap", "size", "I", .int 2)]), (an, own_A .int ((.int n0) :: (.int n1) :: (.int n2) :: List.replicate mm (.int 0))), (ad, own_A .double ((.double d0) :: (.double d1) :: (.double d2) :: List.replicate mm (.double 0))), (ar, own_A .double ((.double r0) :: (.double r1) :: (.double r2) :: List.replicate mm (.double 0)))] _ _ at Ha2_4
  obtain ⟨Ta2_5, Ha2_5, sta2_5⟩ := own_putF Ha2_4 hx hZ hown (hw _ (List.mem_of_getElem? (i := 26) rfl)) 0 3 rfl rfl (Or.inl (hw _ (List.mem_of_getElem? (i := 27) rfl))) (hw _ (List.mem_of_getElem? (i := 1) rfl)) (ty := .int) (by decide) rfl rfl (g := (mkF m 71 #[.val (.ref x), .val (.int qv), .val (.double u), .second, .val (.double w), .second, .unset, .unset] [(.int (3 : Int32)), (.ref x), (.int (2 : Int32))])) rfl rfl (hb hby d6_71)
  change own_S _ _ _ _ _ _ _ _ _ _ _ _ _ _ [(x, own_O "com/example/recourse/recourse/network/NodeHeap" [("com/example/recourse/recourse/network/NodeHeap", "nodes", "[I", .ref an), ("com/example/recourse/recourse/network/NodeHeap", "distances", "[D", .ref ad), ("com/example/recourse/recourse/network/NodeHeap", "remainders", "[D", .ref ar), ("com/example/recourse/recourse/network/NodeHeap", "size", "I", .int (3 : Int32))]), (an, own_A .int ((.int n0) :: (.int n1) :: (.int n2) :: List.replicate mm (.int 0))), (ad, own_A .double ((.double d0) :: (.double d1) :: (.double d2) :: List.replicate mm (.double 0))), (ar, own_A .double ((.double r0) :: (.double r1) :: (.double r2) :: List.replicate mm (.double 0)))] _ _ at Ha2_5
  obtain ⟨Ta2_6, Ha2_6, sta2_6⟩ := own_getF Ha2_5 hx hZ hown (hw _ (List.mem_of_getElem? (i := 17) rfl)) 0 1 rfl rfl (g := (mkF m 93 #[.val (.ref x), .val (.int qv), .val (.double u), .second, .val (.double w), .second, .val (.int (2 : Int32)), .val (.int (0 : Int32))] [(.ref x), (.double w), (.double u)])) rfl rfl (hb hby d6_93)
  change own_S _ _ _ _ _ _ _ _ _ _ _ _ _ _ [(x, own_O "com/example/recourse/recourse/network/NodeHeap" [("com/example/recourse/recourse/network/NodeHeap", "nodes", "[I", .ref an), ("com/example/recourse/recourse/network/NodeHeap", "distances", "[D", .ref ad), ("com/example/recourse/recourse/network/NodeHeap", "remainders", "[D", .ref ar), ("com/example/recourse/recourse/network/NodeHeap", "size", "I", .int (3 : Int32))]), (an, own_A .int ((.int n0) :: (.int n1) :: (.int n2) :: List.replicate mm (.int 0))), (ad, own_A .double ((.double d0) :: (.double d1) :: (.double d2) :: List.replicate mm (.double 0))), (ar, own_A .double ((.double r0) :: (.double r1) :: (.double r2) :: List.replicate mm (.double 0)))] _ _ at Ha2_6
  obtain ⟨Ta2_8, Ha2_8, sta2_8⟩ := own_getF Ha2_6 hx hZ hown (hw _ (List.mem_of_getElem? (i := 19) rfl)) 0 2 rfl rfl (g := (mkF m 100 #[.val (.ref x), .val (.int qv), .val (.double u), .second, .val (.double w), .second, .val (.int (2 : Int32)), .val (.int (0 : Int32))] [(.ref x), (.double d0), (.double w), (.double u)])) rfl rfl (hb hby d6_100)
  change own_S _ _ _ _ _ _ _ _ _ _ _ _ _ _ [(x, own_O "com/example/recourse/recourse/network/NodeHeap" [("com/example/recourse/recourse/network/NodeHeap", "nodes", "[I", .ref an), ("com/example/recourse/recourse/network/NodeHeap", "distances", "[D", .ref ad), ("com/example/recourse/recourse/network/NodeHeap", "remainders", "[D", .ref ar), ("com/example/recourse/recourse/network/NodeHeap", "size", "I", .int (3 : Int32))]), (an, own_A .int ((.int n0) :: (.int n1) :: (.int n2) :: List.replicate mm (.int 0))), (ad, own_A .double ((.double d0) :: (.double d1) :: (.double d2) :: List.replicate mm (.double 0))), (ar, own_A .double ((.double r0) :: (.double r1) :: (.double r2) :: List.replicate mm (.double 0)))] _ _ at Ha2_8
  obtain ⟨Ta2_10, va2_10_, csa2_10_, qa2_10, Ha2_10, sta2_10⟩ := own_callS Ha2_8 hx hZ hown (hw _ (List.mem_of_getElem? (i := 38) rfl)) (hw _ (List.mem_of_getElem? (i := 39) rfl)) (hw _ (List.mem_of_getElem? (i := 40) rfl)) (hw _ (List.mem_of_getElem? (i := 41) rfl)) (by decide) (argsL := [(.double u), (.double w), (.double d0), (.double r0)]) (rest := []) (W := 0) (own_below l Z a0 hb0 hw _ _ _ _ _) (by decide) (by decide) (by decide) (by decide) (g := (mkF m 106 #[.val (.ref x), .val (.int qv), .val (.double u), .second, .val (.double w), .second, .val (.int (2 : Int32)), .val (.int (0 : Int32))] [(.double r0), (.double d0), (.double w), (.double u)])) rfl (by rw [hml]; rfl) (lenOf own_pd3 rfl) rfl (by show 2 * 0 + _ ≤ _; exact Nat.le_of_eq rfl) (hb hby d6_106)
  obtain ⟨⟨b, rfl, hbb⟩, rfl⟩ := qa2_10
  change own_S _ _ _ _ _ _ _ _ _ _ _ _ _ _ [(x, own_O "com/example/recourse/recourse/network/NodeHeap" [("com/example/recourse/recourse/network/NodeHeap", "nodes", "[I", .ref an), ("com/example/recourse/recourse/network/NodeHeap", "distances", "[D", .ref ad), ("com/example/recourse/recourse/network/NodeHeap", "remainders", "[D", .ref ar), ("com/example/recourse/recourse/network/NodeHeap", "size", "I", .int (3 : Int32))]), (an, own_A .int ((.int n0) :: (.int n1) :: (.int n2) :: List.replicate mm (.int 0))), (ad, own_A .double ((.double d0) :: (.double d1) :: (.double d2) :: List.replicate mm (.double 0))), (ar, own_A .double ((.double r0) :: (.double r1) :: (.double r2) :: List.replicate mm (.double 0)))] _ _ at Ha2_10
  have hb9 : if_icmp.holds .ne (2 : Int32) z = true := by rw [own_i_ne]; exact decide_eq_true (fun h => by rw [← h] at hzz; exact absurd hzz (by decide))
  rcases hbb with rfl | rfl
  · obtain ⟨Ta2_A11, Ha2_A11, sta2_A11⟩ := own_getF Ha2_10 hx hZ hown (hw _ (List.mem_of_getElem? (i := 14) rfl)) 0 0 rfl rfl (g := (mkF m 131 #[.val (.ref x), .val (.int qv), .val (.double u), .second, .val (.double w), .second, .val (.int (2 : Int32)), .val (.int (0 : Int32))] [(.ref x)])) rfl rfl (hb hby d6_131)
    change own_S _ _ _ _ _ _ _ _ _ _ _ _ _ _ [(x, own_O "com/example/recourse/recourse/network/NodeHeap" [("com/example/recourse/recourse/network/NodeHeap", "nodes", "[I", .ref an), ("com/example/recourse/recourse/network/NodeHeap", "distances", "[D", .ref ad), ("com/example/recourse/recourse/network/NodeHeap", "remainders", "[D", .ref ar), ("com/example/recourse/recourse/network/NodeHeap", "size", "I", .int (3 : Int32))]), (an, own_A .int ((.int n0) :: (.int n1) :: (.int n2) :: List.replicate mm (.int 0))), (ad, own_A .double ((.double d0) :: (.double d1) :: (.double d2) :: List.replicate mm (.double 0))), (ar, own_A .double ((.double r0) :: (.double r1) :: (.double r2) :: List.replicate mm (.double 0)))] _ _ at Ha2_A11
    obtain ⟨Ta2_A12, Ha2_A12, sta2_A12⟩ := own_iastore Ha2_A11 hx hZ 1 2 rfl (by decide) (Nat.le_of_ble_eq_true rfl) (g := (mkF m 137 #[.val (.ref x), .val (.int qv), .val (.double u), .second, .val (.double w), .second, .val (.int (2 : Int32)), .val (.int (0 : Int32))] [(.int qv), (.int (2 : Int32)), (.ref an)])) rfl rfl (hb hby d6_137)
    change own_S _ _ _ _ _ _ _ _ _ _ _ _ _ _ [(x, own_O "com/example/recourse/recourse/network/NodeHeap" [("com/example/recourse/recourse/network/NodeHeap", "nodes", "[I", .ref an), ("com/example/recourse/recourse/network/NodeHeap", "distances", "[D", .ref ad), ("com/example/recourse/recourse/network/NodeHeap", "remainders", "[D", .ref ar), ("com/example/recourse/recourse/network/NodeHeap", "size", "I", .int (3 : Int32))]), (an, own_A .int ((.int n0) :: (.int n1) :: (.int qv) :: List.replicate mm (.int 0))), (ad, own_A .double ((.double d0) :: (.double d1) :: (.double d2) :: List.replicate mm (.double 0))), (ar, own_A .double ((.double r0) :: (.double r1) :: (.double r2) :: List.replicate mm (.double 0)))] _ _ at Ha2_A12
    obtain ⟨Ta2_A13, Ha2_A13, sta2_A13⟩ := own_getF Ha2_A12 hx hZ hown (hw _ (List.mem_of_getElem? (i := 17) rfl)) 0 1 rfl rfl (g := (mkF m 139 #[.val (.ref x), .val (.int qv), .val (.double u), .second, .val (.double w), .second, .val (.int (2 : Int32)), .val (.int (0 : Int32))] [(.ref x)])) rfl rfl (hb hby d6_139)
    change own_S _ _ _ _ _ _ _ _ _ _ _ _ _ _ [(x, own_O "com/example/recourse/recourse/network/NodeHeap" [("com/example/recourse/recourse/network/NodeHeap", "nodes", "[I", .ref an), ("com/example/recourse/recourse/network/NodeHeap", "distances", "[D", .ref ad), ("com/example/recourse/recourse/network/NodeHeap", "remainders", "[D", .ref ar), ("com/example/recourse/recourse/network/NodeHeap", "size", "I", .int (3 : Int32))]), (an, own_A .int ((.int n0) :: (.int n1) :: (.int qv) :: List.replicate mm (.int 0))), (ad, own_A .double ((.double d0) :: (.double d1) :: (.double d2) :: List.replicate mm (.double 0))), (ar, own_A .double ((.double r0) :: (.double r1) :: (.double r2) :: List.replicate mm (.double 0)))] _ _ at Ha2_A13
    obtain ⟨Ta2_A14, Ha2_A14, sta2_A14⟩ := own_dastore Ha2_A13 hx hZ 2 2 rfl (by decide) (Nat.le_of_ble_eq_true rfl) (g := (mkF m 145 #[.val (.ref x), .val (.int qv), .val (.double u), .second, .val (.double w), .second, .val (.int (2 : Int32)), .val (.int (0 : Int32))] [(.double u), (.int (2 : Int32)), (.ref ad)])) rfl rfl (hb hby d6_145)
    change own_S _ _ _ _ _ _ _ _ _ _ _ _ _ _ [(x, own_O "com/example/recourse/recourse/network/NodeHeap" [("com/example/recourse/recourse/network/NodeHeap", "nodes", "[I", .ref an), ("com/example/recourse/recourse/network/NodeHeap", "distances", "[D", .ref ad), ("com/example/recourse/recourse/network/NodeHeap", "remainders", "[D", .ref ar), ("com/example/recourse/recourse/network/NodeHeap", "size", "I", .int (3 : Int32))]), (an, own_A .int ((.int n0) :: (.int n1) :: (.int qv) :: List.replicate mm (.int 0))), (ad, own_A .double ((.double d0) :: (.double d1) :: (.double u) :: List.replicate mm (.double 0))), (ar, own_A .double ((.double r0) :: (.double r1) :: (.double r2) :: List.replicate mm (.double 0)))] _ _ at Ha2_A14
    obtain ⟨Ta2_A15, Ha2_A15, sta2_A15⟩ := own_getF Ha2_A14 hx hZ hown (hw _ (List.mem_of_getElem? (i := 19) rfl)) 0 2 rfl rfl (g := (mkF m 147 #[.val (.ref x), .val (.int qv), .val (.double u), .second, .val (.double w), .second, .val (.int (2 : Int32)), .val (.int (0 : Int32))] [(.ref x)])) rfl rfl (hb hby d6_147)
    change own_S _ _ _ _ _ _ _ _ _ _ _ _ _ _ [(x, own_O "com/example/recourse/recourse/network/NodeHeap" [("com/example/recourse/recourse/network/NodeHeap", "nodes", "[I", .ref an), ("com/example/recourse/recourse/network/NodeHeap", "distances", "[D", .ref ad), ("com/example/recourse/recourse/network/NodeHeap", "remainders", "[D", .ref ar), ("com/example/recourse/recourse/network/NodeHeap", "size", "I", .int (3 : Int32))]), (an, own_A .int ((.int n0) :: (.int n1) :: (.int qv) :: List.replicate mm (.int 0))), (ad, own_A .double ((.double d0) :: (.double d1) :: (.double u) :: List.replicate mm (.double 0))), (ar, own_A .double ((.double r0) :: (.double r1) :: (.double r2) :: List.replicate mm (.double 0)))] _ _ at Ha2_A15
    obtain ⟨Ta2_A16, Ha2_A16, sta2_A16⟩ := own_dastore Ha2_A15 hx hZ 3 2 rfl (by decide) (Nat.le_of_ble_eq_true rfl) (g := (mkF m 154 #[.val (.ref x), .val (.int qv), .val (.double u), .second, .val (.double w), .second, .val (.int (2 : Int32)), .val (.int (0 : Int32))] [(.double w), (.int (2 : Int32)), (.ref ar)])) rfl rfl (hb hby d6_154)
    change own_S _ _ _ _ _ _ _ _ _ _ _ _ _ _ [(x, own_O "com/example/recourse/recourse/network/NodeHeap" [("com/example/recourse/recourse/network/NodeHeap", "nodes", "[I", .ref an), ("com/example/recourse/recourse/network/NodeHeap", "distances", "[D", .ref ad), ("com/example/recourse/recourse/network/NodeHeap", "remainders", "[D", .ref ar), ("com/example/recourse/recourse/network/NodeHeap", "size", "I", .int (3 : Int32))]), (an, own_A .int ((.int n0) :: (.int n1) :: (.int qv) :: List.replicate mm (.int 0))), (ad, own_A .double ((.double d0) :: (.double d1) :: (.double u) :: List.replicate mm (.double 0))), (ar, own_A .double ((.double r0) :: (.double r1) :: (.double w) :: List.replicate mm (.double 0)))] _ _ at Ha2_A16
    refine ⟨_, _, _, _, 155, #[.val (.ref x), .val (.int qv), .val (.double u), .second, .val (.double w), .second, .val (.int (2 : Int32)), .val (.int (0 : Int32))], Ha2_A16, by decide, by decide, Or.inl ⟨rfl, ⟨n0, n1, qv, d0, d1, u, r0, r1, w, rfl, rfl⟩, d6_155, fun target q => ?_⟩⟩
    refine own_go H0 hx hZ hown hby hw own_K6_ok (own_a2_0 x qv u w) _ ?_
    refine sta2_1 _ ?_
    refine own_go Ha2_1 hx hZ hown hby hw own_K6_ok (own_a2_1 x qv u w) _ ?_
    refine sta2_2 _ ?_
    refine own_arrlen Ha2_2 hx hZ 1 rfl (z := z) hlen (g := (mkF m 8 #[.val (.ref x), .val (.int qv), .val (.double u), .second, .val (.double w), .second, .unset, .unset] [(.ref an), (.int (2 : Int32))])) rfl rfl (hb hby d6_8) _ ?_
    refine own_go Ha2_2 hx hZ hown hby hw own_K6_ok (own_a2_2 x qv u w z hb9) _ ?_
    refine sta2_4 _ ?_
    refine own_go Ha2_4 hx hZ hown hby hw own_K6_ok (own_a2_3 x qv u w) _ ?_
    refine sta2_5 _ ?_
    refine own_go Ha2_5 hx hZ hown hby hw own_K6_ok (own_a2_4 x qv u w) _ ?_
    refine sta2_6 _ ?_
    refine own_go Ha2_6 hx hZ hown hby hw own_K6_ok (own_a2_5 x qv u w ad) _ ?_
    refine own_daload Ha2_6 hx hZ 2 0 rfl (by decide) rfl (g := (mkF m 98 #[.val (.ref x), .val (.int qv), .val (.double u), .second, .val (.double w), .second, .val (.int (2 : Int32)), .val (.int (0 : Int32))] [(.int (0 : Int32)), (.ref ad), (.double w), (.double u)])) rfl rfl (hb hby d6_98) _ ?_
    refine own_go Ha2_6 hx hZ hown hby hw own_K6_ok (own_a2_6 x qv u w d0) _ ?_
    refine sta2_8 _ ?_
    refine own_go Ha2_8 hx hZ hown hby hw own_K6_ok (own_a2_7 x qv u w ar d0) _ ?_
    refine own_daload Ha2_8 hx hZ 3 0 rfl (by decide) rfl (g := (mkF m 105 #[.val (.ref x), .val (.int qv), .val (.double u), .second, .val (.double w), .second, .val (.int (2 : Int32)), .val (.int (0 : Int32))] [(.int (0 : Int32)), (.ref ar), (.double d0), (.double w), (.double u)])) rfl rfl (hb hby d6_105) _ ?_
    refine sta2_10 _ ?_
    refine own_go Ha2_10 hx hZ hown hby hw own_K6_ok (own_a2_A8 x qv u w) _ ?_
    refine sta2_A11 _ ?_
    refine own_go Ha2_A11 hx hZ hown hby hw own_K6_ok (own_a2_A9 x qv u w an) _ ?_
    refine sta2_A12 _ ?_
    refine own_go Ha2_A12 hx hZ hown hby hw own_K6_ok (own_a2_A10 x qv u w) _ ?_
    refine sta2_A13 _ ?_
    refine own_go Ha2_A13 hx hZ hown hby hw own_K6_ok (own_a2_A11 x qv u w ad) _ ?_
    refine sta2_A14 _ ?_
    refine own_go Ha2_A14 hx hZ hown hby hw own_K6_ok (own_a2_A12 x qv u w) _ ?_
    refine sta2_A15 _ ?_
    refine own_go Ha2_A15 hx hZ hown hby hw own_K6_ok (own_a2_A13 x qv u w ar) _ ?_
    refine sta2_A16 _ ?_
    exact q
  · obtain ⟨Ta2_B11, va2_B11_, csa2_B11_, qa2_B11, Ha2_B11, sta2_B11⟩ := own_callPr Ha2_10 hx hZ hown (hw _ (List.mem_of_getElem? (i := 42) rfl)) (hw _ (List.mem_of_getElem? (i := 43) rfl)) (hw _ (List.mem_of_getElem? (i := 44) rfl)) (hw _ (List.mem_of_getElem? (i := 1) rfl)) (hw _ (List.mem_of_getElem? (i := 2) rfl)) (hw _ (List.mem_of_getElem? (i := 45) rfl)) (by decide) (x := x) 0 rfl (argsL := [(.int (0 : Int32)), (.int (2 : Int32))]) (rest := []) (W := 0) (own_move02 l Z a0 hb0 hw x an ad ar mm n0 n1 n2 d0 d1 d2 r0 r1 r2 (3 : Int32)) (by decide) (by decide) (by decide) (by decide) (g := (mkF m 120 #[.val (.ref x), .val (.int qv), .val (.double u), .second, .val (.double w), .second, .val (.int (2 : Int32)), .val (.int (0 : Int32))] [(.int (2 : Int32)), (.int (0 : Int32)), (.ref x)])) rfl (by rw [hml]; rfl) (lenOf own_pd8 rfl) rfl (by show 2 * 0 + _ ≤ _; exact Nat.le_of_eq rfl) (hb hby d6_120)
    obtain ⟨rfl, rfl⟩ := qa2_B11
    change own_S _ _ _ _ _ _ _ _ _ _ _ _ _ _ [(x, own_O "com/example/recourse/recourse/network/NodeHeap" [("com/example/recourse/recourse/network/NodeHeap", "nodes", "[I", .ref an), ("com/example/recourse/recourse/network/NodeHeap", "distances", "[D", .ref ad), ("com/example/recourse/recourse/network/NodeHeap", "remainders", "[D", .ref ar), ("com/example/recourse/recourse/network/NodeHeap", "size", "I", .int 3)]), (an, own_A .int ((.int n0) :: (.int n1) :: (.int n0) :: List.replicate mm (.int 0))), (ad, own_A .double ((.double d0) :: (.double d1) :: (.double d0) :: List.replicate mm (.double 0))), (ar, own_A .double ((.double r0) :: (.double r1) :: (.double r0) :: List.replicate mm (.double 0)))] _ _ at Ha2_B11
    obtain ⟨Ta2_B12, Ha2_B12, sta2_B12⟩ := own_getF Ha2_B11 hx hZ hown (hw _ (List.mem_of_getElem? (i := 14) rfl)) 0 0 rfl rfl (g := (mkF m 131 #[.val (.ref x), .val (.int qv), .val (.double u), .second, .val (.double w), .second, .val (.int (0 : Int32)), .val (.int (0 : Int32))] [(.ref x)])) rfl rfl (hb hby d6_131)
    change own_S _ _ _ _ _ _ _ _ _ _ _ _ _ _ [(x, own_O "com/example/recourse/recourse/network/NodeHeap" [("com/example/recourse/recourse/network/NodeHeap", "nodes", "[I", .ref an), ("com/example/recourse/recourse/network/NodeHeap", "distances", "[D", .ref ad), ("com/example/recourse/recourse/network/NodeHeap", "remainders", "[D", .ref ar), ("com/example/recourse/recourse/network/NodeHeap", "size", "I", .int 3)]), (an, own_A .int ((.int n0) :: (.int n1) :: (.int n0) :: List.replicate mm (.int 0))), (ad, own_A .double ((.double d0) :: (.double d1) :: (.double d0) :: List.replicate mm (.double 0))), (ar, own_A .double ((.double r0) :: (.double r1) :: (.double r0) :: List.replicate mm (.double 0)))] _ _ at Ha2_B12
    obtain ⟨Ta2_B13, Ha2_B13, sta2_B13⟩ := own_iastore Ha2_B12 hx hZ 1 0 rfl (by decide) (Nat.le_of_ble_eq_true rfl) (g := (mkF m 137 #[.val (.ref x), .val (.int qv), .val (.double u), .second, .val (.double w), .second, .val (.int (0 : Int32)), .val (.int (0 : Int32))] [(.int qv), (.int (0 : Int32)), (.ref an)])) rfl rfl (hb hby d6_137)
    change own_S _ _ _ _ _ _ _ _ _ _ _ _ _ _ [(x, own_O "com/example/recourse/recourse/network/NodeHeap" [("com/example/recourse/recourse/network/NodeHeap", "nodes", "[I", .ref an), ("com/example/recourse/recourse/network/NodeHeap", "distances", "[D", .ref ad), ("com/example/recourse/recourse/network/NodeHeap", "remainders", "[D", .ref ar), ("com/example/recourse/recourse/network/NodeHeap", "size", "I", .int 3)]), (an, own_A .int ((.int qv) :: (.int n1) :: (.int n0) :: List.replicate mm (.int 0))), (ad, own_A .double ((.double d0) :: (.double d1) :: (.double d0) :: List.replicate mm (.double 0))), (ar, own_A .double ((.double r0) :: (.double r1) :: (.double r0) :: List.replicate mm (.double 0)))] _ _ at Ha2_B13
    obtain ⟨Ta2_B14, Ha2_B14, sta2_B14⟩ := own_getF Ha2_B13 hx hZ hown (hw _ (List.mem_of_getElem? (i := 17) rfl)) 0 1 rfl rfl (g := (mkF m 139 #[.val (.ref x), .val (.int qv), .val (.double u), .second, .val (.double w), .second, .val (.int (0 : Int32)), .val (.int (0 : Int32))] [(.ref x)])) rfl rfl (hb hby d6_139)
    change own_S _ _ _ _ _ _ _ _ _ _ _ _ _ _ [(x, own_O "com/example/recourse/recourse/network/NodeHeap" [("com/example/recourse/recourse/network/NodeHeap", "nodes", "[I", .ref an), ("com/example/recourse/recourse/network/NodeHeap", "distances", "[D", .ref ad), ("com/example/recourse/recourse/network/NodeHeap", "remainders", "[D", .ref ar), ("com/example/recourse/recourse/network/NodeHeap", "size", "I", .int 3)]), (an, own_A .int ((.int qv) :: (.int n1) :: (.int n0) :: List.replicate mm (.int 0))), (ad, own_A .double ((.double d0) :: (.double d1) :: (.double d0) :: List.replicate mm (.double 0))), (ar, own_A .double ((.double r0) :: (.double r1) :: (.double r0) :: List.replicate mm (.double 0)))] _ _ at Ha2_B14
    obtain ⟨Ta2_B15, Ha2_B15, sta2_B15⟩ := own_dastore Ha2_B14 hx hZ 2 0 rfl (by decide) (Nat.le_of_ble_eq_true rfl) (g := (mkF m 145 #[.val (.ref x), .val (.int qv), .val (.double u), .second, .val (.double w), .second, .val (.int (0 : Int32)), .val (.int (0 : Int32))] [(.double u), (.int (0 : Int32)), (.ref ad)])) rfl rfl (hb hby d6_145)
    change own_S _ _ _ _ _ _ _ _ _ _ _ _ _ _ [(x, own_O "com/example/recourse/recourse/network/NodeHeap" [("com/example/recourse/recourse/network/NodeHeap", "nodes", "[I", .ref an), ("com/example/recourse/recourse/network/NodeHeap", "distances", "[D", .ref ad), ("com/example/recourse/recourse/network/NodeHeap", "remainders", "[D", .ref ar), ("com/example/recourse/recourse/network/NodeHeap", "size", "I", .int 3)]), (an, own_A .int ((.int qv) :: (.int n1) :: (.int n0) :: List.replicate mm (.int 0))), (ad, own_A .double ((.double u) :: (.double d1) :: (.double d0) :: List.replicate mm (.double 0))), (ar, own_A .double ((.double r0) :: (.double r1) :: (.double r0) :: List.replicate mm (.double 0)))] _ _ at Ha2_B15
    obtain ⟨Ta2_B16, Ha2_B16, sta2_B16⟩ := own_getF Ha2_B15 hx hZ hown (hw _ (List.mem_of_getElem? (i := 19) rfl)) 0 2 rfl rfl (g := (mkF m 147 #[.val (.ref x), .val (.int qv), .val (.double u), .second, .val (.double w), .second, .val (.int (0 : Int32)), .val (.int (0 : Int32))] [(.ref x)])) rfl rfl (hb hby d6_147)
    change own_S _ _ _ _ _ _ _ _ _ _ _ _ _ _ [(x, own_O "com/example/recourse/recourse/network/NodeHeap" [("com/example/recourse/recourse/network/NodeHeap", "nodes", "[I", .ref an), ("com/example/recourse/recourse/network/NodeHeap", "distances", "[D", .ref ad), ("com/example/recourse/recourse/network/NodeHeap", "remainders", "[D", .ref ar), ("com/example/recourse/recourse/network/NodeHeap", "size", "I", .int 3)]), (an, own_A .int ((.int qv) :: (.int n1) :: (.int n0) :: List.replicate mm (.int 0))), (ad, own_A .double ((.double u) :: (.double d1) :: (.double d0) :: List.replicate mm (.double 0))), (ar, own_A .double ((.double r0) :: (.double r1) :: (.double r0) :: List.replicate mm (.double 0)))] _ _ at Ha2_B16
    obtain ⟨Ta2_B17, Ha2_B17, sta2_B17⟩ := own_dastore Ha2_B16 hx hZ 3 0 rfl (by decide) (Nat.le_of_ble_eq_true rfl) (g := (mkF m 154 #[.val (.ref x), .val (.int qv), .val (.double u), .second, .val (.double w), .second, .val (.int (0 : Int32)), .val (.int (0 : Int32))] [(.double w), (.int (0 : Int32)), (.ref ar)])) rfl rfl (hb hby d6_154)
    change own_S _ _ _ _ _ _ _ _ _ _ _ _ _ _ [(x, own_O "com/example/recourse/recourse/network/NodeHeap" [("com/example/recourse/recourse/network/NodeHeap", "nodes", "[I", .ref an), ("com/example/recourse/recourse/network/NodeHeap", "distances", "[D", .ref ad), ("com/example/recourse/recourse/network/NodeHeap", "remainders", "[D", .ref ar), ("com/example/recourse/recourse/network/NodeHeap", "size", "I", .int 3)]), (an, own_A .int ((.int qv) :: (.int n1) :: (.int n0) :: List.replicate mm (.int 0))), (ad, own_A .double ((.double u) :: (.double d1) :: (.double d0) :: List.replicate mm (.double 0))), (ar, own_A .double ((.double w) :: (.double r1) :: (.double r0) :: List.replicate mm (.double 0)))] _ _ at Ha2_B17
    refine ⟨_, _, _, _, 155, #[.val (.ref x), .val (.int qv), .val (.double u), .second, .val (.double w), .second, .val (.int (0 : Int32)), .val (.int (0 : Int32))], Ha2_B17, by decide, by decide, Or.inl ⟨rfl, ⟨qv, n1, n0, u, d1, d0, w, r1, r0, rfl, rfl⟩, d6_155, fun target q => ?_⟩⟩
    refine own_go H0 hx hZ hown hby hw own_K6_ok (own_a2_0 x qv u w) _ ?_
    refine sta2_1 _ ?_
    refine own_go Ha2_1 hx hZ hown hby hw own_K6_ok (own_a2_1 x qv u w) _ ?_
    refine sta2_2 _ ?_
    refine own_arrlen Ha2_2 hx hZ 1 rfl (z := z) hlen (g := (mkF m 8 #[.val (.ref x), .val (.int qv), .val (.double u), .second, .val (.double w), .second, .unset, .unset] [(.ref an), (.int (2 : Int32))])) rfl rfl (hb hby d6_8) _ ?_
    refine own_go Ha2_2 hx hZ hown hby hw own_K6_ok (own_a2_2 x qv u w z hb9) _ ?_
    refine sta2_4 _ ?_
    refine own_go Ha2_4 hx hZ hown hby hw own_K6_ok (own_a2_3 x qv u w) _ ?_
    refine sta2_5 _ ?_
    refine own_go Ha2_5 hx hZ hown hby hw own_K6_ok (own_a2_4 x qv u w) _ ?_
    refine sta2_6 _ ?_
    refine own_go Ha2_6 hx hZ hown hby hw own_K6_ok (own_a2_5 x qv u w ad) _ ?_
    refine own_daload Ha2_6 hx hZ 2 0 rfl (by decide) rfl (g := (mkF m 98 #[.val (.ref x), .val (.int qv), .val (.double u), .second, .val (.double w), .second, .val (.int (2 : Int32)), .val (.int (0 : Int32))] [(.int (0 : Int32)), (.ref ad), (.double w), (.double u)])) rfl rfl (hb hby d6_98) _ ?_
    refine own_go Ha2_6 hx hZ hown hby hw own_K6_ok (own_a2_6 x qv u w d0) _ ?_
    refine sta2_8 _ ?_
    refine own_go Ha2_8 hx hZ hown hby hw own_K6_ok (own_a2_7 x qv u w ar d0) _ ?_
    refine own_daload Ha2_8 hx hZ 3 0 rfl (by decide) rfl (g := (mkF m 105 #[.val (.ref x), .val (.int qv), .val (.double u), .second, .val (.double w), .second, .val (.int (2 : Int32)), .val (.int (0 : Int32))] [(.int (0 : Int32)), (.ref ar), (.double d0), (.double w), (.double u)])) rfl rfl (hb hby d6_105) _ ?_
    refine sta2_10 _ ?_
    refine own_go Ha2_10 hx hZ hown hby hw own_K6_ok (own_a2_B8 x qv u w) _ ?_
    refine sta2_B11 _ ?_
    refine own_go Ha2_B11 hx hZ hown hby hw own_K6_ok (own_a2_B9 x qv u w) _ ?_
    refine sta2_B12 _ ?_
    refine own_go Ha2_B12 hx hZ hown hby hw own_K6_ok (own_a2_B10 x qv u w an) _ ?_
    refine sta2_B13 _ ?_
    refine own_go Ha2_B13 hx hZ hown hby hw own_K6_ok (own_a2_B11 x qv u w) _ ?_
    refine sta2_B14 _ ?_
    refine own_go Ha2_B14 hx hZ hown hby hw own_K6_ok (own_a2_B12 x qv u w ad) _ ?_
    refine sta2_B15 _ ?_
    refine own_go Ha2_B15 hx hZ hown hby hw own_K6_ok (own_a2_B13 x qv u w) _ ?_
    refine sta2_B16 _ ?_
    refine own_go Ha2_B16 hx hZ hown hby hw own_K6_ok (own_a2_B14 x qv u w ar) _ ?_
    refine sta2_B17 _ ?_
    exact q
theorem own_ai0_0 (x : Addr) (qv : Int32) (u : UInt64) :
    own_Go own_K5 prog_51_method_3_code 0 #[.val (.ref x), .val (.int qv), .val (.double u), .second] [] 4 #[.val (.ref x), .val (.int qv), .val (.double u), .second] [(.double (0 : UInt64)), (.double u), (.int qv), (.ref x)] := by
  refine own_aloadN (pc2 := 1) d5_0 rfl rfl rfl ?_
  refine own_iloadN (pc2 := 2) d5_1 rfl rfl ?_
  refine own_dloadN (pc2 := 3) d5_2 rfl rfl ?_
  refine own_dconst0 (v := 0) (pc2 := 4) d5_3 rfl rfl ?_
  exact own_refl
set_option maxRecDepth 65536 in
set_option maxHeartbeats 4000000 in
theorem own_adi0 (l : Launch) (Z : State) (a0 : Array Value) (hb0 : Heap) (hw : ∀ d ∈ tables_1, d.before a0 Z = true) (x : Addr) (qv : Int32) (u : UInt64) (an ad ar : Addr) (mm : Nat) (n0 n1 n2 : Int32) (d0 d1 d2 r0 r1 r2 : UInt64) (z : Int32) (hlen : ((.int n0 :: .int n1 :: .int n2 :: List.replicate mm (.int 0) : List Value)).length.toInt32 = z) (hzz : 16 ≤ z.toInt) :
    own_Met l Z a0 hb0 (⟨"com/example/recourse/recourse/network/NodeHeap", "add", "(ID)V"⟩ : MethodName) prog_51_method_3_code 4 none [] ({ frames := 2, cells := 0, slots := 0, locals := 60 } : Room) #[(.ref x), (.int qv), (.double u)] [(x, own_O "com/example/recourse/recourse/network/NodeHeap" [("com/example/recourse/recourse/network/NodeHeap", "nodes", "[I", .ref an), ("com/example/recourse/recourse/network/NodeHeap", "distances", "[D", .ref ad), ("com/example/recourse/recourse/network/NodeHeap", "remainders", "[D", .ref ar), ("com/example/recourse/recourse/network/NodeHeap", "size", "I", .int 0)]), (an, own_A .int ((.int n0) :: (.int n1) :: (.int n2) :: List.replicate mm (.int 0))), (ad, own_A .double ((.double d0) :: (.double d1) :: (.double d2) :: List.replicate mm (.double 0))), (ar, own_A .double ((.double r0) :: (.double r1) :: (.double r2) :: List.replicate mm (.double 0)))] (fun v cs' => ∃ (m0 m1 m2 : Int32) (e0 e1 e2 f0 f1 f2 : UInt64), v = none ∧ cs' = [(x, own_O "com/example/recourse/recourse/network/NodeHeap" [("com/example/recourse/recourse/network/NodeHeap", "nodes", "[I", .ref an), ("com/example/recourse/recourse/network/NodeHeap", "distances", "[D", .ref ad), ("com/example/recourse/recourse/network/NodeHeap", "remainders", "[D", .ref ar), ("com/example/recourse/recourse/network/NodeHeap", "size", "I", .int 1)]), (an, own_A .int ((.int m0) :: (.int m1) :: (.int m2) :: List.replicate mm (.int 0))), (ad, own_A .double ((.double e0) :: (.double e1) :: (.double e2) :: List.replicate mm (.double 0))), (ar, own_A .double ((.double f0) :: (.double f1) :: (.double f2) :: List.replicate mm (.double 0)))]) := by
  refine own_met_of (L0 := #[.val (.ref x), .val (.int qv), .val (.double u), .second]) (plainFor_of_name own_pn5) (fun m => own_ef5 m x qv u) ?_
  intro p e s m below meth c T0 hx hZ hown hby hml hnm H0
  obtain ⟨Tai0_1, vai0_1_, csai0_1_, qai0_1, Hai0_1, stai0_1⟩ := own_callV H0 hx hZ hown (hw _ (List.mem_of_getElem? (i := 33) rfl)) (hw _ (List.mem_of_getElem? (i := 34) rfl)) (hw _ (List.mem_of_getElem? (i := 36) rfl)) (hw _ (List.mem_of_getElem? (i := 35) rfl)) (hw _ (List.mem_of_getElem? (i := 2) rfl)) (hw _ (List.mem_of_getElem? (i := 37) rfl)) (by decide) (x := x) 0 rfl (argsL := [(.int qv), (.double u), (.double (0 : UInt64))]) (rest := []) (W := 0) (own_add0 l Z a0 hb0 hw x qv u _ an ad ar mm n0 n1 n2 d0 d1 d2 r0 r1 r2 z hlen hzz) (by decide) (by decide) (by decide) (by decide) (g := (mkF m 4 #[.val (.ref x), .val (.int qv), .val (.double u), .second] [(.double (0 : UInt64)), (.double u), (.int qv), (.ref x)])) rfl (by rw [hml]; rfl) (lenOf own_pd6 rfl) rfl (by show 2 * 0 + _ ≤ _; exact Nat.le_of_eq rfl) (hb hby d5_4)
  obtain ⟨m0, m1, m2, e0, e1, e2, f0, f1, f2, rfl, rfl⟩ := qai0_1
  change own_S _ _ _ _ _ _ _ _ _ _ _ _ _ _ [(x, own_O "com/example/recourse/recourse/network/NodeHeap" [("com/example/recourse/recourse/network/NodeHeap", "nodes", "[I", .ref an), ("com/example/recourse/recourse/network/NodeHeap", "distances", "[D", .ref ad), ("com/example/recourse/recourse/network/NodeHeap", "remainders", "[D", .ref ar), ("com/example/recourse/recourse/network/NodeHeap", "size", "I", .int 1)]), (an, own_A .int ((.int m0) :: (.int m1) :: (.int m2) :: List.replicate mm (.int 0))), (ad, own_A .double ((.double e0) :: (.double e1) :: (.double e2) :: List.replicate mm (.double 0))), (ar, own_A .double ((.double f0) :: (.double f1) :: (.double f2) :: List.replicate mm (.double 0)))] _ _ at Hai0_1
  refine ⟨_, _, _, _, 7, #[.val (.ref x), .val (.int qv), .val (.double u), .second], Hai0_1, by decide, by decide, Or.inl ⟨rfl, ⟨m0, m1, m2, e0, e1, e2, f0, f1, f2, rfl, rfl⟩, d5_7, fun target q => ?_⟩⟩
  refine own_go H0 hx hZ hown hby hw own_K5_ok (own_ai0_0 x qv u) _ ?_
  refine stai0_1 _ ?_
  exact q
theorem own_ai1_0 (x : Addr) (qv : Int32) (u : UInt64) :
    own_Go own_K5 prog_51_method_3_code 0 #[.val (.ref x), .val (.int qv), .val (.double u), .second] [] 4 #[.val (.ref x), .val (.int qv), .val (.double u), .second] [(.double (0 : UInt64)), (.double u), (.int qv), (.ref x)] := by
  refine own_aloadN (pc2 := 1) d5_0 rfl rfl rfl ?_
  refine own_iloadN (pc2 := 2) d5_1 rfl rfl ?_
  refine own_dloadN (pc2 := 3) d5_2 rfl rfl ?_
  refine own_dconst0 (v := 0) (pc2 := 4) d5_3 rfl rfl ?_
  exact own_refl
set_option maxRecDepth 65536 in
set_option maxHeartbeats 4000000 in
theorem own_adi1 (l : Launch) (Z : State) (a0 : Array Value) (hb0 : Heap) (hw : ∀ d ∈ tables_1, d.before a0 Z = true) (x : Addr) (qv : Int32) (u : UInt64) (an ad ar : Addr) (mm : Nat) (n0 n1 n2 : Int32) (d0 d1 d2 r0 r1 r2 : UInt64) (z : Int32) (hlen : ((.int n0 :: .int n1 :: .int n2 :: List.replicate mm (.int 0) : List Value)).length.toInt32 = z) (hzz : 16 ≤ z.toInt) :
    own_Met l Z a0 hb0 (⟨"com/example/recourse/recourse/network/NodeHeap", "add", "(ID)V"⟩ : MethodName) prog_51_method_3_code 4 none [] ({ frames := 2, cells := 0, slots := 0, locals := 60 } : Room) #[(.ref x), (.int qv), (.double u)] [(x, own_O "com/example/recourse/recourse/network/NodeHeap" [("com/example/recourse/recourse/network/NodeHeap", "nodes", "[I", .ref an), ("com/example/recourse/recourse/network/NodeHeap", "distances", "[D", .ref ad), ("com/example/recourse/recourse/network/NodeHeap", "remainders", "[D", .ref ar), ("com/example/recourse/recourse/network/NodeHeap", "size", "I", .int 1)]), (an, own_A .int ((.int n0) :: (.int n1) :: (.int n2) :: List.replicate mm (.int 0))), (ad, own_A .double ((.double d0) :: (.double d1) :: (.double d2) :: List.replicate mm (.double 0))), (ar, own_A .double ((.double r0) :: (.double r1) :: (.double r2) :: List.replicate mm (.double 0)))] (fun v cs' => ∃ (m0 m1 m2 : Int32) (e0 e1 e2 f0 f1 f2 : UInt64), v = none ∧ cs' = [(x, own_O "com/example/recourse/recourse/network/NodeHeap" [("com/example/recourse/recourse/network/NodeHeap", "nodes", "[I", .ref an), ("com/example/recourse/recourse/network/NodeHeap", "distances", "[D", .ref ad), ("com/example/recourse/recourse/network/NodeHeap", "remainders", "[D", .ref ar), ("com/example/recourse/recourse/network/NodeHeap", "size", "I", .int 2)]), (an, own_A .int ((.int m0) :: (.int m1) :: (.int m2) :: List.replicate mm (.int 0))), (ad, own_A .double ((.double e0) :: (.double e1) :: (.double e2) :: List.replicate mm (.double 0))), (ar, own_A .double ((.double f0) :: (.double f1) :: (.double f2) :: List.replicate mm (.double 0)))]) := by
  refine own_met_of (L0 := #[.val (.ref x), .val (.int qv), .val (.double u), .second]) (plainFor_of_name own_pn5) (fun m => own_ef5 m x qv u) ?_
  intro p e s m below meth c T0 hx hZ hown hby hml hnm H0
  obtain ⟨Tai1_1, vai1_1_, csai1_1_, qai1_1, Hai1_1, stai1_1⟩ := own_callV H0 hx hZ hown (hw _ (List.mem_of_getElem? (i := 33) rfl)) (hw _ (List.mem_of_getElem? (i := 34) rfl)) (hw _ (List.mem_of_getElem? (i := 36) rfl)) (hw _ (List.mem_of_getElem? (i := 35) rfl)) (hw _ (List.mem_of_getElem? (i := 2) rfl)) (hw _ (List.mem_of_getElem? (i := 37) rfl)) (by decide) (x := x) 0 rfl (argsL := [(.int qv), (.double u), (.double (0 : UInt64))]) (rest := []) (W := 0) (own_add1 l Z a0 hb0 hw x qv u _ an ad ar mm n0 n1 n2 d0 d1 d2 r0 r1 r2 z hlen hzz) (by decide) (by decide) (by decide) (by decide) (g := (mkF m 4 #[.val (.ref x), .val (.int qv), .val (.double u), .second] [(.double (0 : UInt64)), (.double u), (.int qv), (.ref x)])) rfl (by rw [hml]; rfl) (lenOf own_pd6 rfl) rfl (by show 2 * 0 + _ ≤ _; exact Nat.le_of_eq rfl) (hb hby d5_4)
  obtain ⟨m0, m1, m2, e0, e1, e2, f0, f1, f2, rfl, rfl⟩ := qai1_1
  change own_S _ _ _ _ _ _ _ _ _ _ _ _ _ _ [(x, own_O "com/example/recourse/recourse/network/NodeHeap" [("com/example/recourse/recourse/network/NodeHeap", "nodes", "[I", .ref an), ("com/example/recourse/recourse/network/NodeHeap", "distances", "[D", .ref ad), ("com/example/recourse/recourse/network/NodeHeap", "remainders", "[D", .ref ar), ("com/example/recourse/recourse/network/NodeHeap", "size", "I", .int 2)]), (an, own_A .int ((.int m0) :: (.int m1) :: (.int m2) :: List.replicate mm (.int 0))), (ad, own_A .double ((.double e0) :: (.double e1) :: (.double e2) :: List.replicate mm (.double 0))), (ar, own_A .double ((.double f0) :: (.double f1) :: (.double f2) :: List.replicate mm (.double 0)))] _ _ at Hai1_1
  refine ⟨_, _, _, _, 7, #[.val (.ref x), .val (.int qv), .val (.double u), .second], Hai1_1, by decide, by decide, Or.inl ⟨rfl, ⟨m0, m1, m2, e0, e1, e2, f0, f1, f2, rfl, rfl⟩, d5_7, fun target q => ?_⟩⟩
  refine own_go H0 hx hZ hown hby hw own_K5_ok (own_ai1_0 x qv u) _ ?_
  refine stai1_1 _ ?_
  exact q
theorem own_ai2_0 (x : Addr) (qv : Int32) (u : UInt64) :
    own_Go own_K5 prog_51_method_3_code 0 #[.val (.ref x), .val (.int qv), .val (.double u), .second] [] 4 #[.val (.ref x), .val (.int qv), .val (.double u), .second] [(.double (0 : UInt64)), (.double u), (.int qv), (.ref x)] := by
  refine own_aloadN (pc2 := 1) d5_0 rfl rfl rfl ?_
  refine own_iloadN (pc2 := 2) d5_1 rfl rfl ?_
  refine own_dloadN (pc2 := 3) d5_2 rfl rfl ?_
  refine own_dconst0 (v := 0) (pc2 := 4) d5_3 rfl rfl ?_
  exact own_refl
set_option maxRecDepth 65536 in
set_option maxHeartbeats 4000000 in
theorem own_adi2 (l : Launch) (Z : State) (a0 : Array Value) (hb0 : Heap) (hw : ∀ d ∈ tables_1, d.before a0 Z = true) (x : Addr) (qv : Int32) (u : UInt64) (an ad ar : Addr) (mm : Nat) (n0 n1 n2 : Int32) (d0 d1 d2 r0 r1 r2 : UInt64) (z : Int32) (hlen : ((.int n0 :: .int n1 :: .int n2 :: List.replicate mm (.int 0) : List Value)).length.toInt32 = z) (hzz : 16 ≤ z.toInt) :
    own_Met l Z a0 hb0 (⟨"com/example/recourse/recourse/network/NodeHeap", "add", "(ID)V"⟩ : MethodName) prog_51_method_3_code 4 none [] ({ frames := 2, cells := 0, slots := 0, locals := 60 } : Room) #[(.ref x), (.int qv), (.double u)] [(x, own_O "com/example/recourse/recourse/network/NodeHeap" [("com/example/recourse/recourse/network/NodeHeap", "nodes", "[I", .ref an), ("com/example/recourse/recourse/network/NodeHeap", "distances", "[D", .ref ad), ("com/example/recourse/recourse/network/NodeHeap", "remainders", "[D", .ref ar), ("com/example/recourse/recourse/network/NodeHeap", "size", "I", .int 2)]), (an, own_A .int ((.int n0) :: (.int n1) :: (.int n2) :: List.replicate mm (.int 0))), (ad, own_A .double ((.double d0) :: (.double d1) :: (.double d2) :: List.replicate mm (.double 0))), (ar, own_A .double ((.double r0) :: (.double r1) :: (.double r2) :: List.replicate mm (.double 0)))] (fun v cs' => ∃ (m0 m1 m2 : Int32) (e0 e1 e2 f0 f1 f2 : UInt64), v = none ∧ cs' = [(x, own_O "com/example/recourse/recourse/network/NodeHeap" [("com/example/recourse/recourse/network/NodeHeap", "nodes", "[I", .ref an), ("com/example/recourse/recourse/network/NodeHeap", "distances", "[D", .ref ad), ("com/example/recourse/recourse/network/NodeHeap", "remainders", "[D", .ref ar), ("com/example/recourse/recourse/network/NodeHeap", "size", "I", .int 3)]), (an, own_A .int ((.int m0) :: (.int m1) :: (.int m2) :: List.replicate mm (.int 0))), (ad, own_A .double ((.double e0) :: (.double e1) :: (.double e2) :: List.replicate mm (.double 0))), (ar, own_A .double ((.double f0) :: (.double f1) :: (.double f2) :: List.replicate mm (.double 0)))]) := by
  refine own_met_of (L0 := #[.val (.ref x), .val (.int qv), .val (.double u), .second]) (plainFor_of_name own_pn5) (fun m => own_ef5 m x qv u) ?_
  intro p e s m below meth c T0 hx hZ hown hby hml hnm H0
  obtain ⟨Tai2_1, vai2_1_, csai2_1_, qai2_1, Hai2_1, stai2_1⟩ := own_callV H0 hx hZ hown (hw _ (List.mem_of_getElem? (i := 33) rfl)) (hw _ (List.mem_of_getElem? (i := 34) rfl)) (hw _ (List.mem_of_getElem? (i := 36) rfl)) (hw _ (List.mem_of_getElem? (i := 35) rfl)) (hw _ (List.mem_of_getElem? (i := 2) rfl)) (hw _ (List.mem_of_getElem? (i := 37) rfl)) (by decide) (x := x) 0 rfl (argsL := [(.int qv), (.double u), (.double (0 : UInt64))]) (rest := []) (W := 0) (own_add2 l Z a0 hb0 hw x qv u _ an ad ar mm n0 n1 n2 d0 d1 d2 r0 r1 r2 z hlen hzz) (by decide) (by decide) (by decide) (by decide) (g := (mkF m 4 #[.val (.ref x), .val (.int qv), .val (.double u), .second] [(.double (0 : UInt64)), (.double u), (.int qv), (.ref x)])) rfl (by rw [hml]; rfl) (lenOf own_pd6 rfl) rfl (by show 2 * 0 + _ ≤ _; exact Nat.le_of_eq rfl) (hb hby d5_4)
  obtain ⟨m0, m1, m2, e0, e1, e2, f0, f1, f2, rfl, rfl⟩ := qai2_1
  change own_S _ _ _ _ _ _ _ _ _ _ _ _ _ _ [(x, own_O "com/example/recourse/recourse/network/NodeHeap" [("com/example/recourse/recourse/network/NodeHeap", "nodes", "[I", .ref an), ("com/example/recourse/recourse/network/NodeHeap", "distances", "[D", .ref ad), ("com/example/recourse/recourse/network/NodeHeap", "remainders", "[D", .ref ar), ("com/example/recourse/recourse/network/NodeHeap", "size", "I", .int 3)]), (an, own_A .int ((.int m0) :: (.int m1) :: (.int m2) :: List.replicate mm (.int 0))), (ad, own_A .double ((.double e0) :: (.double e1) :: (.double e2) :: List.replicate mm (.double 0))), (ar, own_A .double ((.double f0) :: (.double f1) :: (.double f2) :: List.replicate mm (.double 0)))] _ _ at Hai2_1
  refine ⟨_, _, _, _, 7, #[.val (.ref x), .val (.int qv), .val (.double u), .second], Hai2_1, by decide, by decide, Or.inl ⟨rfl, ⟨m0, m1, m2, e0, e1, e2, f0, f1, f2, rfl, rfl⟩, d5_7, fun target q => ?_⟩⟩
  refine own_go H0 hx hZ hown hby hw own_K5_ok (own_ai2_0 x qv u) _ ?_
  refine stai2_1 _ ?_
  exact q
theorem own_po1_0 (x : Addr) :
    own_Go own_K9 prog_51_method_6_code 0 #[.val (.ref x), .unset, .unset, .unset, .unset, .unset, .unset, .unset, .unset] [] 1 #[.val (.ref x), .unset, .unset, .unset, .unset, .unset, .unset, .unset, .unset] [(.ref x)] := by
  refine own_aloadN (pc2 := 1) d9_0 rfl rfl rfl ?_
  exact own_refl
theorem own_po1_1 (x : Addr) (an : Addr) :
    own_Go own_K9 prog_51_method_6_code 4 #[.val (.ref x), .unset, .unset, .unset, .unset, .unset, .unset, .unset, .unset] [(.ref an)] 5 #[.val (.ref x), .unset, .unset, .unset, .unset, .unset, .unset, .unset, .unset] [(.int (0 : Int32)), (.ref an)] := by
  refine own_iconst (v := 0) (pc2 := 5) d9_4 rfl rfl ?_
  exact own_refl
theorem own_po1_2 (x : Addr) (n0 : Int32) :
    own_Go own_K9 prog_51_method_6_code 6 #[.val (.ref x), .unset, .unset, .unset, .unset, .unset, .unset, .unset, .unset] [(.int n0)] 9 #[.val (.ref x), .val (.int n0), .unset, .unset, .unset, .unset, .unset, .unset, .unset] [(.ref x), (.ref x)] := by
  refine own_istoreN (pc2 := 7) d9_6 rfl (L' := #[.val (.ref x), .val (.int n0), .unset, .unset, .unset, .unset, .unset, .unset, .unset]) rfl ?_
  refine own_aloadN (pc2 := 8) d9_7 rfl rfl rfl ?_
  refine own_dup (pc2 := 9) d9_8 rfl rfl ?_
  exact own_refl
theorem own_po1_3 (x : Addr) (n0 : Int32) :
    own_Go own_K9 prog_51_method_6_code 12 #[.val (.ref x), .val (.int n0), .unset, .unset, .unset, .unset, .unset, .unset, .unset] [(.int (1 : Int32)), (.ref x)] 14 #[.val (.ref x), .val (.int n0), .unset, .unset, .unset, .unset, .unset, .unset, .unset] [(.int (0 : Int32)), (.ref x)] := by
  refine own_iconst (v := 1) (pc2 := 13) d9_12 rfl rfl ?_
  refine own_isub (pc2 := 14) d9_13 rfl (v := (0 : Int32)) (by decide) ?_
  exact own_refl
theorem own_po1_4 (x : Addr) (n0 : Int32) :
    own_Go own_K9 prog_51_method_6_code 17 #[.val (.ref x), .val (.int n0), .unset, .unset, .unset, .unset, .unset, .unset, .unset] [] 18 #[.val (.ref x), .val (.int n0), .unset, .unset, .unset, .unset, .unset, .unset, .unset] [(.ref x)] := by
  refine own_aloadN (pc2 := 18) d9_17 rfl rfl rfl ?_
  exact own_refl
theorem own_po1_5 (x : Addr) (n0 : Int32) (an : Addr) :
    own_Go own_K9 prog_51_method_6_code 21 #[.val (.ref x), .val (.int n0), .unset, .unset, .unset, .unset, .unset, .unset, .unset] [(.ref an)] 22 #[.val (.ref x), .val (.int n0), .unset, .unset, .unset, .unset, .unset, .unset, .unset] [(.ref x), (.ref an)] := by
  refine own_aloadN (pc2 := 22) d9_21 rfl rfl rfl ?_
  exact own_refl
theorem own_po1_6 (x : Addr) (n0 : Int32) :
    own_Go own_K9 prog_51_method_6_code 26 #[.val (.ref x), .val (.int n0), .unset, .unset, .unset, .unset, .unset, .unset, .unset] [(.int n0)] 28 #[.val (.ref x), .val (.int n0), .val (.int n0), .unset, .unset, .unset, .unset, .unset, .unset] [(.ref x)] := by
  refine own_istoreN (pc2 := 27) d9_26 rfl (L' := #[.val (.ref x), .val (.int n0), .val (.int n0), .unset, .unset, .unset, .unset, .unset, .unset]) rfl ?_
  refine own_aloadN (pc2 := 28) d9_27 rfl rfl rfl ?_
  exact own_refl
theorem own_po1_7 (x : Addr) (n0 : Int32) (ad : Addr) :
    own_Go own_K9 prog_51_method_6_code 31 #[.val (.ref x), .val (.int n0), .val (.int n0), .unset, .unset, .unset, .unset, .unset, .unset] [(.ref ad)] 32 #[.val (.ref x), .val (.int n0), .val (.int n0), .unset, .unset, .unset, .unset, .unset, .unset] [(.ref x), (.ref ad)] := by
  refine own_aloadN (pc2 := 32) d9_31 rfl rfl rfl ?_
  exact own_refl
theorem own_po1_8 (x : Addr) (n0 : Int32) (d0 : UInt64) :
    own_Go own_K9 prog_51_method_6_code 36 #[.val (.ref x), .val (.int n0), .val (.int n0), .unset, .unset, .unset, .unset, .unset, .unset] [(.double d0)] 38 #[.val (.ref x), .val (.int n0), .val (.int n0), .val (.double d0), .second, .unset, .unset, .unset, .unset] [(.ref x)] := by
  refine own_dstoreN (pc2 := 37) d9_36 rfl (L' := #[.val (.ref x), .val (.int n0), .val (.int n0), .val (.double d0), .second, .unset, .unset, .unset, .unset]) rfl ?_
  refine own_aloadN (pc2 := 38) d9_37 rfl rfl rfl ?_
  exact own_refl
theorem own_po1_9 (x : Addr) (n0 : Int32) (d0 : UInt64) (ar : Addr) :
    own_Go own_K9 prog_51_method_6_code 41 #[.val (.ref x), .val (.int n0), .val (.int n0), .val (.double d0), .second, .unset, .unset, .unset, .unset] [(.ref ar)] 42 #[.val (.ref x), .val (.int n0), .val (.int n0), .val (.double d0), .second, .unset, .unset, .unset, .unset] [(.ref x), (.ref ar)] := by
  refine own_aloadN (pc2 := 42) d9_41 rfl rfl rfl ?_
  exact own_refl
theorem own_po1_10 (x : Addr) (n0 : Int32) (d0 : UInt64) (r0 : UInt64) :
    own_Go own_K9 prog_51_method_6_code 46 #[.val (.ref x), .val (.int n0), .val (.int n0), .val (.double d0), .second, .unset, .unset, .unset, .unset] [(.double r0)] 58 #[.val (.ref x), .val (.int n0), .val (.int n0), .val (.double d0), .second, .val (.double r0), .second, .val (.int (0 : Int32)), .unset] [(.ref x), (.int (1 : Int32))] := by
  refine own_dstore (pc2 := 48) d9_46 rfl (L' := #[.val (.ref x), .val (.int n0), .val (.int n0), .val (.double d0), .second, .val (.double r0), .second, .unset, .unset]) rfl ?_
  refine own_iconst (v := 0) (pc2 := 49) d9_48 rfl rfl ?_
  refine own_istore (pc2 := 51) d9_49 rfl (L' := #[.val (.ref x), .val (.int n0), .val (.int n0), .val (.double d0), .second, .val (.double r0), .second, .val (.int (0 : Int32)), .unset]) rfl ?_
  refine own_iconst (v := 2) (pc2 := 52) d9_51 rfl rfl ?_
  refine own_iload (pc2 := 54) d9_52 rfl rfl ?_
  refine own_imul (pc2 := 55) d9_54 rfl (v := (0 : Int32)) (by decide) ?_
  refine own_iconst (v := 1) (pc2 := 56) d9_55 rfl rfl ?_
  refine own_iadd (pc2 := 57) d9_56 rfl (v := (1 : Int32)) (by decide) ?_
  refine own_aloadN (pc2 := 58) d9_57 rfl rfl rfl ?_
  exact own_refl
theorem own_po1_11 (x : Addr) (n0 : Int32) (d0 : UInt64) (r0 : UInt64) :
    own_Go own_K9 prog_51_method_6_code 61 #[.val (.ref x), .val (.int n0), .val (.int n0), .val (.double d0), .second, .val (.double r0), .second, .val (.int (0 : Int32)), .unset] [(.int (0 : Int32)), (.int (1 : Int32))] 166 #[.val (.ref x), .val (.int n0), .val (.int n0), .val (.double d0), .second, .val (.double r0), .second, .val (.int (0 : Int32)), .unset] [(.ref x)] := by
  refine own_icmpYes (pc' := 165) d9_61 (by decide) (by decide) (by decide) ?_
  refine own_aloadN (pc2 := 166) d9_165 rfl rfl rfl ?_
  exact own_refl
theorem own_po1_12 (x : Addr) (n0 : Int32) (d0 : UInt64) (r0 : UInt64) (an : Addr) :
    own_Go own_K9 prog_51_method_6_code 169 #[.val (.ref x), .val (.int n0), .val (.int n0), .val (.double d0), .second, .val (.double r0), .second, .val (.int (0 : Int32)), .unset] [(.ref an)] 172 #[.val (.ref x), .val (.int n0), .val (.int n0), .val (.double d0), .second, .val (.double r0), .second, .val (.int (0 : Int32)), .unset] [(.int n0), (.int (0 : Int32)), (.ref an)] := by
  refine own_iload (pc2 := 171) d9_169 rfl rfl ?_
  refine own_iloadN (pc2 := 172) d9_171 rfl rfl ?_
  exact own_refl
theorem own_po1_13 (x : Addr) (n0 : Int32) (d0 : UInt64) (r0 : UInt64) :
    own_Go own_K9 prog_51_method_6_code 173 #[.val (.ref x), .val (.int n0), .val (.int n0), .val (.double d0), .second, .val (.double r0), .second, .val (.int (0 : Int32)), .unset] [] 174 #[.val (.ref x), .val (.int n0), .val (.int n0), .val (.double d0), .second, .val (.double r0), .second, .val (.int (0 : Int32)), .unset] [(.ref x)] := by
  refine own_aloadN (pc2 := 174) d9_173 rfl rfl rfl ?_
  exact own_refl
theorem own_po1_14 (x : Addr) (n0 : Int32) (d0 : UInt64) (r0 : UInt64) (ad : Addr) :
    own_Go own_K9 prog_51_method_6_code 177 #[.val (.ref x), .val (.int n0), .val (.int n0), .val (.double d0), .second, .val (.double r0), .second, .val (.int (0 : Int32)), .unset] [(.ref ad)] 180 #[.val (.ref x), .val (.int n0), .val (.int n0), .val (.double d0), .second, .val (.double r0), .second, .val (.int (0 : Int32)), .unset] [(.double d0), (.int (0 : Int32)), (.ref ad)] := by
  refine own_iload (pc2 := 179) d9_177 rfl rfl ?_
  refine own_dloadN (pc2 := 180) d9_179 rfl rfl ?_
  exact own_refl
theorem own_po1_15 (x : Addr) (n0 : Int32) (d0 : UInt64) (r0 : UInt64) :
    own_Go own_K9 prog_51_method_6_code 181 #[.val (.ref x), .val (.int n0), .val (.int n0), .val (.double d0), .second, .val (.double r0), .second, .val (.int (0 : Int32)), .unset] [] 182 #[.val (.ref x), .val (.int n0), .val (.int n0), .val (.double d0), .second, .val (.double r0), .second, .val (.int (0 : Int32)), .unset] [(.ref x)] := by
  refine own_aloadN (pc2 := 182) d9_181 rfl rfl rfl ?_
  exact own_refl
theorem own_po1_16 (x : Addr) (n0 : Int32) (d0 : UInt64) (r0 : UInt64) (ar : Addr) :
    own_Go own_K9 prog_51_method_6_code 185 #[.val (.ref x), .val (.int n0), .val (.int n0), .val (.double d0), .second, .val (.double r0), .second, .val (.int (0 : Int32)), .unset] [(.ref ar)] 189 #[.val (.ref x), .val (.int n0), .val (.int n0), .val (.double d0), .second, .val (.double r0), .second, .val (.int (0 : Int32)), .unset] [(.double r0), (.int (0 : Int32)), (.ref ar)] := by
  refine own_iload (pc2 := 187) d9_185 rfl rfl ?_
  refine own_dload (pc2 := 189) d9_187 rfl rfl ?_
  exact own_refl
theorem own_po1_17 (x : Addr) (n0 : Int32) (d0 : UInt64) (r0 : UInt64) :
    own_Go own_K9 prog_51_method_6_code 190 #[.val (.ref x), .val (.int n0), .val (.int n0), .val (.double d0), .second, .val (.double r0), .second, .val (.int (0 : Int32)), .unset] [] 191 #[.val (.ref x), .val (.int n0), .val (.int n0), .val (.double d0), .second, .val (.double r0), .second, .val (.int (0 : Int32)), .unset] [(.int n0)] := by
  refine own_iloadN (pc2 := 191) d9_190 rfl rfl ?_
  exact own_refl
set_option maxRecDepth 65536 in
set_option maxHeartbeats 4000000 in
theorem own_poll1 (l : Launch) (Z : State) (a0 : Array Value) (hb0 : Heap) (hw : ∀ d ∈ tables_1, d.before a0 Z = true) (x : Addr) (an ad ar : Addr) (mm : Nat) (n0 n1 n2 : Int32) (d0 d1 d2 r0 r1 r2 : UInt64) :
    own_Met l Z a0 hb0 (⟨"com/example/recourse/recourse/network/NodeHeap", "poll", "()I"⟩ : MethodName) prog_51_method_6_code 9 (some .int) [] ({ frames := 1, cells := 0, slots := 0, locals := 40 } : Room) #[(.ref x)] [(x, own_O "com/example/recourse/recourse/network/NodeHeap" [("com/example/recourse/recourse/network/NodeHeap", "nodes", "[I", .ref an), ("com/example/recourse/recourse/network/NodeHeap", "distances", "[D", .ref ad), ("com/example/recourse/recourse/network/NodeHeap", "remainders", "[D", .ref ar), ("com/example/recourse/recourse/network/NodeHeap", "size", "I", .int 1)]), (an, own_A .int ((.int n0) :: (.int n1) :: (.int n2) :: List.replicate mm (.int 0))), (ad, own_A .double ((.double d0) :: (.double d1) :: (.double d2) :: List.replicate mm (.double 0))), (ar, own_A .double ((.double r0) :: (.double r1) :: (.double r2) :: List.replicate mm (.double 0)))] (fun v cs' => ∃ (m0 m1 m2 : Int32) (e0 e1 e2 f0 f1 f2 : UInt64), ∃ rv : Int32, v = some (.int rv) ∧ cs' = [(x, own_O "com/example/recourse/recourse/network/NodeHeap" [("com/example/recourse/recourse/network/NodeHeap", "nodes", "[I", .ref an), ("com/example/recourse/recourse/network/NodeHeap", "distances", "[D", .ref ad), ("com/example/recourse/recourse/network/NodeHeap", "remainders", "[D", .ref ar), ("com/example/recourse/recourse/network/NodeHeap", "size", "I", .int 0)]), (an, own_A .int ((.int m0) :: (.int m1) :: (.int m2) :: List.replicate mm (.int 0))), (ad, own_A .double ((.double e0) :: (.double e1) :: (.double e2) :: List.replicate mm (.double 0))), (ar, own_A .double ((.double f0) :: (.double f1) :: (.double f2) :: List.replicate mm (.double 0)))]) := by
  refine own_met_of (L0 := #[.val (.ref x), .unset, .unset, .unset, .unset, .unset, .unset, .unset, .unset]) (plainFor_of_name own_pn9) (fun m => own_ef9 m x) ?_
  intro p e s m below meth c T0 hx hZ hown hby hml hnm H0
  obtain ⟨Tpo1_1, Hpo1_1, stpo1_1⟩ := own_getF H0 hx hZ hown (hw _ (List.mem_of_getElem? (i := 14) rfl)) 0 0 rfl rfl (g := (mkF m 1 #[.val (.ref x), .unset, .unset, .unset, .unset, .unset, .unset, .unset, .unset] [(.ref x)])) rfl rfl (hb hby d9_1)
  change own_S _ _ _ _ _ _ _ _ _ _ _ _ _ _ [(x, own_O "com/example/recourse/recourse/network/NodeHeap" [("com/example/recourse/recourse/network/NodeHeap", "nodes", "[I", .ref an), ("com/example/recourse/recourse/network/NodeHeap", "distances", "[D", .ref ad), ("com/example/recourse/recourse/network/NodeHeap", "remainders", "[D", .ref ar), ("com/example/recourse/recourse/network/NodeHeap", "size", "I", .int 1)]), (an, own_A .int ((.int n0) :: (.int n1) :: (.int n2) :: List.replicate mm (.int 0))), (ad, own_A .double ((.double d0) :: (.double d1) :: (.double d2) :: List.replicate mm (.double 0))), (ar, own_A .double ((.double r0) :: (.double r1) :: (.double r2) :: List.replicate mm (.double 0)))] _ _ at Hpo1_1
  obtain ⟨Tpo1_3, Hpo1_3, stpo1_3⟩ := own_getF Hpo1_1 hx hZ hown (hw _ (List.mem_of_getElem? (i := 26) rfl)) 0 3 rfl rfl (g := (mkF m 9 #[.val (.ref x), .val (.int n0), .unset, .unset, .unset, .unset, .unset, .unset, .unset] [(.ref x), (.ref x)])) rfl rfl (hb hby d9_9)
  change own_S _ _ _ _ _ _ _ _ _ _ _ _ _ _ [(x, own_O "com/example/recourse/recourse/network/NodeHeap" [("com/example/recourse/recourse/network/NodeHeap", "nodes", "[I", .ref an), ("com/example/recourse/recourse/network/NodeHeap", "distances", "[D", .ref ad), ("com/example/recourse/recourse/network/NodeHeap", "remainders", "[D", .ref ar), ("com/example/recourse/recourse/network/NodeHeap", "size", "I", .int 1)]), (an, own_A .int ((.int n0) :: (.int n1) :: (.int n2) :: List.replicate mm (.int 0))), (ad, own_A .double ((.double d0) :: (.double d1) :: (.double d2) :: List.replicate mm (.double 0))), (ar, own_A .double ((.double r0) :: (.double r1) :: (.double r2) :: List.replicate mm (.double 0)))] _ _ at Hpo1_3
  obtain ⟨Tpo1_4, Hpo1_4, stpo1_4⟩ := own_putF Hpo1_3 hx hZ hown (hw _ (List.mem_of_getElem? (i := 26) rfl)) 0 3 rfl rfl (Or.inl (hw _ (List.mem_of_getElem? (i := 27) rfl))) (hw _ (List.mem_of_getElem? (i := 1) rfl)) (ty := .int) (by decide) rfl rfl (g := (mkF m 14 #[.val (.ref x), .val (.int n0), .unset, .unset, .unset, .unset, .unset, .unset, .unset] [(.int (0 : Int32)), (.ref x)])) rfl rfl (hb hby d9_14)
  change own_S _ _ _ _ _ _ _ _ _ _ _ _ _ _ [(x, own_O "com/example/recourse/recourse/network/NodeHeap" [("com/example/recourse/recourse/network/NodeHeap", "nodes", "[I", .ref an), ("com/example/recourse/recourse/network/NodeHeap", "distances", "[D", .ref ad), ("com/example/recourse/recourse/network/NodeHeap", "remainders", "[D", .ref ar), ("com/example/recourse/recourse/network/NodeHeap", "size", "I", .int (0 : Int32))]), (an, own_A .int ((.int n0) :: (.int n1) :: (.int n2) :: List.replicate mm (.int 0))), (ad, own_A .double ((.double d0) :: (.double d1) :: (.double d2) :: List.replicate mm (.double 0))), (ar, own_A .double ((.double r0) :: (.double r1) :: (.double r2) :: List.replicate mm (.double 0)))] _ _ at Hpo1_4
  obtain ⟨Tpo1_5, Hpo1_5, stpo1_5⟩ := own_getF Hpo1_4 hx hZ hown (hw _ (List.mem_of_getElem? (i := 14) rfl)) 0 0 rfl rfl (g := (mkF m 18 #[.val (.ref x), .val (.int n0), .unset, .unset, .unset, .unset, .unset, .unset, .unset] [(.ref x)])) rfl rfl (hb hby d9_18)
  change own_S _ _ _ _ _ _ _ _ _ _ _ _ _ _ [(x, own_O "com/example/recourse/recourse/network/NodeHeap" [("com/example/recourse/recourse/network/NodeHeap", "nodes", "[I", .ref an), ("com/example/recourse/recourse/network/NodeHeap", "distances", "[D", .ref ad), ("com/example/recourse/recourse/network/NodeHeap", "remainders", "[D", .ref ar), ("com/example/recourse/recourse/network/NodeHeap", "size", "I", .int (0 : Int32))]), (an, own_A .int ((.int n0) :: (.int n1) :: (.int n2) :: List.replicate mm (.int 0))), (ad, own_A .double ((.double d0) :: (.double d1) :: (.double d2) :: List.replicate mm (.double 0))), (ar, own_A .double ((.double r0) :: (.double r1) :: (.double r2) :: List.replicate mm (.double 0)))] _ _ at Hpo1_5
  obtain ⟨Tpo1_6, Hpo1_6, stpo1_6⟩ := own_getF Hpo1_5 hx hZ hown (hw _ (List.mem_of_getElem? (i := 26) rfl)) 0 3 rfl rfl (g := (mkF m 22 #[.val (.ref x), .val (.int n0), .unset, .unset, .unset, .unset, .unset, .unset, .unset] [(.ref x), (.ref an)])) rfl rfl (hb hby d9_22)
  change own_S _ _ _ _ _ _ _ _ _ _ _ _ _ _ [(x, own_O "com/example/recourse/recourse/network/NodeHeap" [("com/example/recourse/recourse/network/NodeHeap", "nodes", "[I", .ref an), ("com/example/recourse/recourse/network/NodeHeap", "distances", "[D", .ref ad), ("com/example/recourse/recourse/network/NodeHeap", "remainders", "[D", .ref ar), ("com/example/recourse/recourse/network/NodeHeap", "size", "I", .int (0 : Int32))]), (an, own_A .int ((.int n0) :: (.int n1) :: (.int n2) :: List.replicate mm (.int 0))), (ad, own_A .double ((.double d0) :: (.double d1) :: (.double d2) :: List.replicate mm (.double 0))), (ar, own_A .double ((.double r0) :: (.double r1) :: (.double r2) :: List.replicate mm (.double 0)))] _ _ at Hpo1_6
  obtain ⟨Tpo1_8, Hpo1_8, stpo1_8⟩ := own_getF Hpo1_6 hx hZ hown (hw _ (List.mem_of_getElem? (i := 17) rfl)) 0 1 rfl rfl (g := (mkF m 28 #[.val (.ref x), .val (.int n0), .val (.int n0), .unset, .unset, .unset, .unset, .unset, .unset] [(.ref x)])) rfl rfl (hb hby d9_28)
  change own_S _ _ _ _ _ _ _ _ _ _ _ _ _ _ [(x, own_O "com/example/recourse/recourse/network/NodeHeap" [("com/example/recourse/recourse/network/NodeHeap", "nodes", "[I", .ref an), ("com/example/recourse/recourse/network/NodeHeap", "distances", "[D", .ref ad), ("com/example/recourse/recourse/network/NodeHeap", "remainders", "[D", .ref ar), ("com/example/recourse/recourse/network/NodeHeap", "size", "I", .int (0 : Int32))]), (an, own_A .int ((.int n0) :: (.int n1) :: (.int n2) :: List.replicate mm (.int 0))), (ad, own_A .double ((.double d0) :: (.double d1) :: (.double d2) :: List.replicate mm (.double 0))), (ar, own_A .double ((.double r0) :: (.double r1) :: (.double r2) :: List.replicate mm (.double 0)))] _ _ at Hpo1_8
  obtain ⟨Tpo1_9, Hpo1_9, stpo1_9⟩ := own_getF Hpo1_8 hx hZ hown (hw _ (List.mem_of_getElem? (i := 26) rfl)) 0 3 rfl rfl (g := (mkF m 32 #[.val (.ref x), .val (.int n0), .val (.int n0), .unset, .unset, .unset, .unset, .unset, .unset] [(.ref x), (.ref ad)])) rfl rfl (hb hby d9_32)
  change own_S _ _ _ _ _ _ _ _ _ _ _ _ _ _ [(x, own_O "com/example/recourse/recourse/network/NodeHeap" [("com/example/recourse/recourse/network/NodeHeap", "nodes", "[I", .ref an), ("com/example/recourse/recourse/network/NodeHeap", "distances", "[D", .ref ad), ("com/example/recourse/recourse/network/NodeHeap", "remainders", "[D", .ref ar), ("com/example/recourse/recourse/network/NodeHeap", "size", "I", .int (0 : Int32))]), (an, own_A .int ((.int n0) :: (.int n1) :: (.int n2) :: List.replicate mm (.int 0))), (ad, own_A .double ((.double d0) :: (.double d1) :: (.double d2) :: List.replicate mm (.double 0))), (ar, own_A .double ((.double r0) :: (.double r1) :: (.double r2) :: List.replicate mm (.double 0)))] _ _ at Hpo1_9
  obtain ⟨Tpo1_11, Hpo1_11, stpo1_11⟩ := own_getF Hpo1_9 hx hZ hown (hw _ (List.mem_of_getElem? (i := 19) rfl)) 0 2 rfl rfl (g := (mkF m 38 #[.val (.ref x), .val (.int n0), .val (.int n0), .val (.double d0), .second, .unset, .unset, .unset, .unset] [(.ref x)])) rfl rfl (hb hby d9_38)
  change own_S _ _ _ _ _ _ _ _ _ _ _ _ _ _ [(x, own_O "com/example/recourse/recourse/network/NodeHeap" [("com/example/recourse/recourse/network/NodeHeap", "nodes", "[I", .ref an), ("com/example/recourse/recourse/network/NodeHeap", "distances", "[D", .ref ad), ("com/example/recourse/recourse/network/NodeHeap", "remainders", "[D", .ref ar), ("com/example/recourse/recourse/network/NodeHeap", "size", "I", .int (0 : Int32))]), (an, own_A .int ((.int n0) :: (.int n1) :: (.int n2) :: List.replicate mm (.int 0))), (ad, own_A .double ((.double d0) :: (.double d1) :: (.double d2) :: List.replicate mm (.double 0))), (ar, own_A .double ((.double r0) :: (.double r1) :: (.double r2) :: List.replicate mm (.double 0)))] _ _ at Hpo1_11
  obtain ⟨Tpo1_12, Hpo1_12, stpo1_12⟩ := own_getF Hpo1_11 hx hZ hown (hw _ (List.mem_of_getElem? (i := 26) rfl)) 0 3 rfl rfl (g := (mkF m 42 #[.val (.ref x), .val (.int n0), .val (.int n0), .val (.double d0), .second, .unset, .unset, .unset, .unset] [(.ref x), (.ref ar)])) rfl rfl (hb hby d9_42)
  change own_S _ _ _ _ _ _ _ _ _ _ _ _ _ _ [(x, own_O "com/example/recourse/recourse/network/NodeHeap" [("com/example/recourse/recourse/network/NodeHeap", "nodes", "[I", .ref an), ("com/example/recourse/recourse/network/NodeHeap", "distances", "[D", .ref ad), ("com/example/recourse/recourse/network/NodeHeap", "remainders", "[D", .ref ar), ("com/example/recourse/recourse/network/NodeHeap", "size", "I", .int (0 : Int32))]), (an, own_A .int ((.int n0) :: (.int n1) :: (.int n2) :: List.replicate mm (.int 0))), (ad, own_A .double ((.double d0) :: (.double d1) :: (.double d2) :: List.replicate mm (.double 0))), (ar, own_A .double ((.double r0) :: (.double r1) :: (.double r2) :: List.replicate mm (.double 0)))] _ _ at Hpo1_12
  obtain ⟨Tpo1_14, Hpo1_14, stpo1_14⟩ := own_getF Hpo1_12 hx hZ hown (hw _ (List.mem_of_getElem? (i := 26) rfl)) 0 3 rfl rfl (g := (mkF m 58 #[.val (.ref x), .val (.int n0), .val (.int n0), .val (.double d0), .second, .val (.double r0), .second, .val (.int (0 : Int32)), .unset] [(.ref x), (.int (1 : Int32))])) rfl rfl (hb hby d9_58)
  change own_S _ _ _ _ _ _ _ _ _ _ _ _ _ _ [(x, own_O "com/example/recourse/recourse/network/NodeHeap" [("com/example/recourse/recourse/network/NodeHeap", "nodes", "[I", .ref an), ("com/example/recourse/recourse/network/NodeHeap", "distances", "[D", .ref ad), ("com/example/recourse/recourse/network/NodeHeap", "remainders", "[D", .ref ar), ("com/example/recourse/recourse/network/NodeHeap", "size", "I", .int (0 : Int32))]), (an, own_A .int ((.int n0) :: (.int n1) :: (.int n2) :: List.replicate mm (.int 0))), (ad, own_A .double ((.double d0) :: (.double d1) :: (.double d2) :: List.replicate mm (.double 0))), (ar, own_A .double ((.double r0) :: (.double r1) :: (.double r2) :: List.replicate mm (.double 0)))] _ _ at Hpo1_14
  obtain ⟨Tpo1_15, Hpo1_15, stpo1_15⟩ := own_getF Hpo1_14 hx hZ hown (hw _ (List.mem_of_getElem? (i := 14) rfl)) 0 0 rfl rfl (g := (mkF m 166 #[.val (.ref x), .val (.int n0), .val (.int n0), .val (.double d0), .second, .val (.double r0), .second, .val (.int (0 : Int32)), .unset] [(.ref x)])) rfl rfl (hb hby d9_166)
  change own_S _ _ _ _ _ _ _ _ _ _ _ _ _ _ [(x, own_O "com/example/recourse/recourse/network/NodeHeap" [("com/example/recourse/recourse/network/NodeHeap", "nodes", "[I", .ref an), ("com/example/recourse/recourse/network/NodeHeap", "distances", "[D", .ref ad), ("com/example/recourse/recourse/network/NodeHeap", "remainders", "[D", .ref ar), ("com/example/recourse/recourse/network/NodeHeap", "size", "I", .int (0 : Int32))]), (an, own_A .int ((.int n0) :: (.int n1) :: (.int n2) :: List.replicate mm (.int 0))), (ad, own_A .double ((.double d0) :: (.double d1) :: (.double d2) :: List.replicate mm (.double 0))), (ar, own_A .double ((.double r0) :: (.double r1) :: (.double r2) :: List.replicate mm (.double 0)))] _ _ at Hpo1_15
  obtain ⟨Tpo1_16, Hpo1_16, stpo1_16⟩ := own_iastore Hpo1_15 hx hZ 1 0 rfl (by decide) (Nat.le_of_ble_eq_true rfl) (g := (mkF m 172 #[.val (.ref x), .val (.int n0), .val (.int n0), .val (.double d0), .second, .val (.double r0), .second, .val (.int (0 : Int32)), .unset] [(.int n0), (.int (0 : Int32)), (.ref an)])) rfl rfl (hb hby d9_172)
  change own_S _ _ _ _ _ _ _ _ _ _ _ _ _ _ [(x, own_O "com/example/recourse/recourse/network/NodeHeap" [("com/example/recourse/recourse/network/NodeHeap", "nodes", "[I", .ref an), ("com/example/recourse/recourse/network/NodeHeap", "distances", "[D", .ref ad), ("com/example/recourse/recourse/network/NodeHeap", "remainders", "[D", .ref ar), ("com/example/recourse/recourse/network/NodeHeap", "size", "I", .int (0 : Int32))]), (an, own_A .int ((.int n0) :: (.int n1) :: (.int n2) :: List.replicate mm (.int 0))), (ad, own_A .double ((.double d0) :: (.double d1) :: (.double d2) :: List.replicate mm (.double 0))), (ar, own_A .double ((.double r0) :: (.double r1) :: (.double r2) :: List.replicate mm (.double 0)))] _ _ at Hpo1_16
  obtain ⟨Tpo1_17, Hpo1_17, stpo1_17⟩ := own_getF Hpo1_16 hx hZ hown (hw _ (List.mem_of_getElem? (i := 17) rfl)) 0 1 rfl rfl (g := (mkF m 174 #[.val (.ref x), .val (.int n0), .val (.int n0), .val (.double d0), .second, .val (.double r0), .second, .val (.int (0 : Int32)), .unset] [(.ref x)])) rfl rfl (hb hby d9_174)
  change own_S _ _ _ _ _ _ _ _ _ _ _ _ _ _ [(x, own_O "com/example/recourse/recourse/network/NodeHeap" [("com/example/recourse/recourse/network/NodeHeap", "nodes", "[I", .ref an), ("com/example/recourse/recourse/network/NodeHeap", "distances", "[D", .ref ad), ("com/example/recourse/recourse/network/NodeHeap", "remainders", "[D", .ref ar), ("com/example/recourse/recourse/network/NodeHeap", "size", "I", .int (0 : Int32))]), (an, own_A .int ((.int n0) :: (.int n1) :: (.int n2) :: List.replicate mm (.int 0))), (ad, own_A .double ((.double d0) :: (.double d1) :: (.double d2) :: List.replicate mm (.double 0))), (ar, own_A .double ((.double r0) :: (.double r1) :: (.double r2) :: List.replicate mm (.double 0)))] _ _ at Hpo1_17
  obtain ⟨Tpo1_18, Hpo1_18, stpo1_18⟩ := own_dastore Hpo1_17 hx hZ 2 0 rfl (by decide) (Nat.le_of_ble_eq_true rfl) (g := (mkF m 180 #[.val (.ref x), .val (.int n0), .val (.int n0), .val (.double d0), .second, .val (.double r0), .second, .val (.int (0 : Int32)), .unset] [(.double d0), (.int (0 : Int32)), (.ref ad)])) rfl rfl (hb hby d9_180)
  change own_S _ _ _ _ _ _ _ _ _ _ _ _ _ _ [(x, own_O "com/example/recourse/recourse/network/NodeHeap" [("com/example/recourse/recourse/network/NodeHeap", "nodes", "[I", .ref an), ("com/example/recourse/recourse/network/NodeHeap", "distances", "[D", .ref ad), ("com/example/recourse/recourse/network/NodeHeap", "remainders", "[D", .ref ar), ("com/example/recourse/recourse/network/NodeHeap", "size", "I", .int (0 : Int32))]), (an, own_A .int ((.int n0) :: (.int n1) :: (.int n2) :: List.replicate mm (.int 0))), (ad, own_A .double ((.double d0) :: (.double d1) :: (.double d2) :: List.replicate mm (.double 0))), (ar, own_A .double ((.double r0) :: (.double r1) :: (.double r2) :: List.replicate mm (.double 0)))] _ _ at Hpo1_18
  obtain ⟨Tpo1_19, Hpo1_19, stpo1_19⟩ := own_getF Hpo1_18 hx hZ hown (hw _ (List.mem_of_getElem? (i := 19) rfl)) 0 2 rfl rfl (g := (mkF m 182 #[.val (.ref x), .val (.int n0), .val (.int n0), .val (.double d0), .second, .val (.double r0), .second, .val (.int (0 : Int32)), .unset] [(.ref x)])) rfl rfl (hb hby d9_182)
  change own_S _ _ _ _ _ _ _ _ _ _ _ _ _ _ [(x, own_O "com/example/recourse/recourse/network/NodeHeap" [("com/example/recourse/recourse/network/NodeHeap", "nodes", "[I", .ref an), ("com/example/recourse/recourse/network/NodeHeap", "distances", "[D", .ref ad), ("com/example/recourse/recourse/network/NodeHeap", "remainders", "[D", .ref ar), ("com/example/recourse/recourse/network/NodeHeap", "size", "I", .int (0 : Int32))]), (an, own_A .int ((.int n0) :: (.int n1) :: (.int n2) :: List.replicate mm (.int 0))), (ad, own_A .double ((.double d0) :: (.double d1) :: (.double d2) :: List.replicate mm (.double 0))), (ar, own_A .double ((.double r0) :: (.double r1) :: (.double r2) :: List.replicate mm (.double 0)))] _ _ at Hpo1_19
  obtain ⟨Tpo1_20, Hpo1_20, stpo1_20⟩ := own_dastore Hpo1_19 hx hZ 3 0 rfl (by decide) (Nat.le_of_ble_eq_true rfl) (g := (mkF m 189 #[.val (.ref x), .val (.int n0), .val (.int n0), .val (.double d0), .second, .val (.double r0), .second, .val (.int (0 : Int32)), .unset] [(.double r0), (.int (0 : Int32)), (.ref ar)])) rfl rfl (hb hby d9_189)
  change own_S _ _ _ _ _ _ _ _ _ _ _ _ _ _ [(x, own_O "com/example/recourse/recourse/network/NodeHeap" [("com/example/recourse/recourse/network/NodeHeap", "nodes", "[I", .ref an), ("com/example/recourse/recourse/network/NodeHeap", "distances", "[D", .ref ad), ("com/example/recourse/recourse/network/NodeHeap", "remainders", "[D", .ref ar), ("com/example/recourse/recourse/network/NodeHeap", "size", "I", .int (0 : Int32))]), (an, own_A .int ((.int n0) :: (.int n1) :: (.int n2) :: List.replicate mm (.int 0))), (ad, own_A .double ((.double d0) :: (.double d1) :: (.double d2) :: List.replicate mm (.double 0))), (ar, own_A .double ((.double r0) :: (.double r1) :: (.double r2) :: List.replicate mm (.double 0)))] _ _ at Hpo1_20
  refine ⟨_, _, _, _, 191, #[.val (.ref x), .val (.int n0), .val (.int n0), .val (.double d0), .second, .val (.double r0), .second, .val (.int (0 : Int32)), .unset], Hpo1_20, by decide, by decide, Or.inr ⟨.int, (.int n0), [], .ireturn, rfl, ⟨n0, n1, n2, d0, d1, d2, r0, r1, r2, _, rfl, rfl⟩, d9_191, own_retI _, fun target q => ?_⟩⟩
  refine own_go H0 hx hZ hown hby hw own_K9_ok (own_po1_0 x) _ ?_
  refine stpo1_1 _ ?_
  refine own_go Hpo1_1 hx hZ hown hby hw own_K9_ok (own_po1_1 x an) _ ?_
  refine own_iaload Hpo1_1 hx hZ 1 0 rfl (by decide) rfl (g := (mkF m 5 #[.val (.ref x), .unset, .unset, .unset, .unset, .unset, .unset, .unset, .unset] [(.int (0 : Int32)), (.ref an)])) rfl rfl (hb hby d9_5) _ ?_
  refine own_go Hpo1_1 hx hZ hown hby hw own_K9_ok (own_po1_2 x n0) _ ?_
  refine stpo1_3 _ ?_
  refine own_go Hpo1_3 hx hZ hown hby hw own_K9_ok (own_po1_3 x n0) _ ?_
  refine stpo1_4 _ ?_
  refine own_go Hpo1_4 hx hZ hown hby hw own_K9_ok (own_po1_4 x n0) _ ?_
  refine stpo1_5 _ ?_
  refine own_go Hpo1_5 hx hZ hown hby hw own_K9_ok (own_po1_5 x n0 an) _ ?_
  refine stpo1_6 _ ?_
  refine own_iaload Hpo1_6 hx hZ 1 0 rfl (by decide) rfl (g := (mkF m 25 #[.val (.ref x), .val (.int n0), .unset, .unset, .unset, .unset, .unset, .unset, .unset] [(.int (0 : Int32)), (.ref an)])) rfl rfl (hb hby d9_25) _ ?_
  refine own_go Hpo1_6 hx hZ hown hby hw own_K9_ok (own_po1_6 x n0) _ ?_
  refine stpo1_8 _ ?_
  refine own_go Hpo1_8 hx hZ hown hby hw own_K9_ok (own_po1_7 x n0 ad) _ ?_
  refine stpo1_9 _ ?_
  refine own_daload Hpo1_9 hx hZ 2 0 rfl (by decide) rfl (g := (mkF m 35 #[.val (.ref x), .val (.int n0), .val (.int n0), .unset, .unset, .unset, .unset, .unset, .unset] [(.int (0 : Int32)), (.ref ad)])) rfl rfl (hb hby d9_35) _ ?_
  refine own_go Hpo1_9 hx hZ hown hby hw own_K9_ok (own_po1_8 x n0 d0) _ ?_
  refine stpo1_11 _ ?_
  refine own_go Hpo1_11 hx hZ hown hby hw own_K9_ok (own_po1_9 x n0 d0 ar) _ ?_
  refine stpo1_12 _ ?_
  refine own_daload Hpo1_12 hx hZ 3 0 rfl (by decide) rfl (g := (mkF m 45 #[.val (.ref x), .val (.int n0), .val (.int n0), .val (.double d0), .second, .unset, .unset, .unset, .unset] [(.int (0 : Int32)), (.ref ar)])) rfl rfl (hb hby d9_45) _ ?_
  refine own_go Hpo1_12 hx hZ hown hby hw own_K9_ok (own_po1_10 x n0 d0 r0) _ ?_
  refine stpo1_14 _ ?_
  refine own_go Hpo1_14 hx hZ hown hby hw own_K9_ok (own_po1_11 x n0 d0 r0) _ ?_
  refine stpo1_15 _ ?_
  refine own_go Hpo1_15 hx hZ hown hby hw own_K9_ok (own_po1_12 x n0 d0 r0 an) _ ?_
  refine stpo1_16 _ ?_
  refine own_go Hpo1_16 hx hZ hown hby hw own_K9_ok (own_po1_13 x n0 d0 r0) _ ?_
  refine stpo1_17 _ ?_
  refine own_go Hpo1_17 hx hZ hown hby hw own_K9_ok (own_po1_14 x n0 d0 r0 ad) _ ?_
  refine stpo1_18 _ ?_
  refine own_go Hpo1_18 hx hZ hown hby hw own_K9_ok (own_po1_15 x n0 d0 r0) _ ?_
  refine stpo1_19 _ ?_
  refine own_go Hpo1_19 hx hZ hown hby hw own_K9_ok (own_po1_16 x n0 d0 r0 ar) _ ?_
  refine stpo1_20 _ ?_
  refine own_go Hpo1_20 hx hZ hown hby hw own_K9_ok (own_po1_17 x n0 d0 r0) _ ?_
  exact q
theorem own_po2_0 (x : Addr) :
    own_Go own_K9 prog_51_method_6_code 0 #[.val (.ref x), .unset, .unset, .unset, .unset, .unset, .unset, .unset, .unset] [] 1 #[.val (.ref x), .unset, .unset, .unset, .unset, .unset, .unset, .unset, .unset] [(.ref x)] := by
  refine own_aloadN (pc2 := 1) d9_0 rfl rfl rfl ?_
  exact own_refl
theorem own_po2_1 (x : Addr) (an : Addr) :
    own_Go own_K9 prog_51_method_6_code 4 #[.val (.ref x), .unset, .unset, .unset, .unset, .unset, .unset, .unset, .unset] [(.ref an)] 5 #[.val (.ref x), .unset, .unset, .unset, .unset, .unset, .unset, .unset, .unset] [(.int (0 : Int32)), (.ref an)] := by
  refine own_iconst (v := 0) (pc2 := 5) d9_4 rfl rfl ?_
  exact own_refl
theorem own_po2_2 (x : Addr) (n0 : Int32) :
    own_Go own_K9 prog_51_method_6_code 6 #[.val (.ref x), .unset, .unset, .unset, .unset, .unset, .unset, .unset, .unset] [(.int n0)] 9 #[.val (.ref x), .val (.int n0), .unset, .unset, .unset, .unset, .unset, .unset, .unset] [(.ref x), (.ref x)] := by
  refine own_istoreN (pc2 := 7) d9_6 rfl (L' := #[.val (.ref x), .val (.int n0), .unset, .unset, .unset, .unset, .unset, .unset, .unset]) rfl ?_
  refine own_aloadN (pc2 := 8) d9_7 rfl rfl rfl ?_
  refine own_dup (pc2 := 9) d9_8 rfl rfl ?_
  exact own_refl
theorem own_po2_3 (x : Addr) (n0 : Int32) :
    own_Go own_K9 prog_51_method_6_code 12 #[.val (.ref x), .val (.int n0), .unset, .unset, .unset, .unset, .unset, .unset, .unset] [(.int (2 : Int32)), (.ref x)] 14 #[.val (.ref x), .val (.int n0), .unset, .unset, .unset, .unset, .unset, .unset, .unset] [(.int (1 : Int32)), (.ref x)] := by
  refine own_iconst (v := 1) (pc2 := 13) d9_12 rfl rfl ?_
  refine own_isub (pc2 := 14) d9_13 rfl (v := (1 : Int32)) (by decide) ?_
  exact own_refl
theorem own_po2_4 (x : Addr) (n0 : Int32) :
    own_Go own_K9 prog_51_method_6_code 17 #[.val (.ref x), .val (.int n0), .unset, .unset, .unset, .unset, .unset, .unset, .unset] [] 18 #[.val (.ref x), .val (.int n0), .unset, .unset, .unset, .unset, .unset, .unset, .unset] [(.ref x)] := by
  refine own_aloadN (pc2 := 18) d9_17 rfl rfl rfl ?_
  exact own_refl
theorem own_po2_5 (x : Addr) (n0 : Int32) (an : Addr) :
    own_Go own_K9 prog_51_method_6_code 21 #[.val (.ref x), .val (.int n0), .unset, .unset, .unset, .unset, .unset, .unset, .unset] [(.ref an)] 22 #[.val (.ref x), .val (.int n0), .unset, .unset, .unset, .unset, .unset, .unset, .unset] [(.ref x), (.ref an)] := by
  refine own_aloadN (pc2 := 22) d9_21 rfl rfl rfl ?_
  exact own_refl
theorem own_po2_6 (x : Addr) (n0 : Int32) (n1 : Int32) :
    own_Go own_K9 prog_51_method_6_code 26 #[.val (.ref x), .val (.int n0), .unset, .unset, .unset, .unset, .unset, .unset, .unset] [(.int n1)] 28 #[.val (.ref x), .val (.int n0), .val (.int n1), .unset, .unset, .unset, .unset, .unset, .unset] [(.ref x)] := by
  refine own_istoreN (pc2 := 27) d9_26 rfl (L' := #[.val (.ref x), .val (.int n0), .val (.int n1), .unset, .unset, .unset, .unset, .unset, .unset]) rfl ?_
  refine own_aloadN (pc2 := 28) d9_27 rfl rfl rfl ?_
  exact own_refl
theorem own_po2_7 (x : Addr) (n0 : Int32) (n1 : Int32) (ad : Addr) :
    own_Go own_K9 prog_51_method_6_code 31 #[.val (.ref x), .val (.int n0), .val (.int n1), .unset, .unset, .unset, .unset, .unset, .unset] [(.ref ad)] 32 #[.val (.ref x), .val (.int n0), .val (.int n1), .unset, .unset, .unset, .unset, .unset, .unset] [(.ref x), (.ref ad)] := by
  refine own_aloadN (pc2 := 32) d9_31 rfl rfl rfl ?_
  exact own_refl
theorem own_po2_8 (x : Addr) (n0 : Int32) (n1 : Int32) (d1 : UInt64) :
    own_Go own_K9 prog_51_method_6_code 36 #[.val (.ref x), .val (.int n0), .val (.int n1), .unset, .unset, .unset, .unset, .unset, .unset] [(.double d1)] 38 #[.val (.ref x), .val (.int n0), .val (.int n1), .val (.double d1), .second, .unset, .unset, .unset, .unset] [(.ref x)] := by
  refine own_dstoreN (pc2 := 37) d9_36 rfl (L' := #[.val (.ref x), .val (.int n0), .val (.int n1), .val (.double d1), .second, .unset, .unset, .unset, .unset]) rfl ?_
  refine own_aloadN (pc2 := 38) d9_37 rfl rfl rfl ?_
  exact own_refl
theorem own_po2_9 (x : Addr) (n0 : Int32) (n1 : Int32) (d1 : UInt64) (ar : Addr) :
    own_Go own_K9 prog_51_method_6_code 41 #[.val (.ref x), .val (.int n0), .val (.int n1), .val (.double d1), .second, .unset, .unset, .unset, .unset] [(.ref ar)] 42 #[.val (.ref x), .val (.int n0), .val (.int n1), .val (.double d1), .second, .unset, .unset, .unset, .unset] [(.ref x), (.ref ar)] := by
  refine own_aloadN (pc2 := 42) d9_41 rfl rfl rfl ?_
  exact own_refl
theorem own_po2_10 (x : Addr) (n0 : Int32) (n1 : Int32) (d1 : UInt64) (r1 : UInt64) :
    own_Go own_K9 prog_51_method_6_code 46 #[.val (.ref x), .val (.int n0), .val (.int n1), .val (.double d1), .second, .unset, .unset, .unset, .unset] [(.double r1)] 58 #[.val (.ref x), .val (.int n0), .val (.int n1), .val (.double d1), .second, .val (.double r1), .second, .val (.int (0 : Int32)), .unset] [(.ref x), (.int (1 : Int32))] := by
  refine own_dstore (pc2 := 48) d9_46 rfl (L' := #[.val (.ref x), .val (.int n0), .val (.int n1), .val (.double d1), .second, .val (.double r1), .second, .unset, .unset]) rfl ?_
  refine own_iconst (v := 0) (pc2 := 49) d9_48 rfl rfl ?_
  refine own_istore (pc2 := 51) d9_49 rfl (L' := #[.val (.ref x), .val (.int n0), .val (.int n1), .val (.double d1), .second, .val (.double r1), .second, .val (.int (0 : Int32)), .unset]) rfl ?_
  refine own_iconst (v := 2) (pc2 := 52) d9_51 rfl rfl ?_
  refine own_iload (pc2 := 54) d9_52 rfl rfl ?_
  refine own_imul (pc2 := 55) d9_54 rfl (v := (0 : Int32)) (by decide) ?_
  refine own_iconst (v := 1) (pc2 := 56) d9_55 rfl rfl ?_
  refine own_iadd (pc2 := 57) d9_56 rfl (v := (1 : Int32)) (by decide) ?_
  refine own_aloadN (pc2 := 58) d9_57 rfl rfl rfl ?_
  exact own_refl
theorem own_po2_11 (x : Addr) (n0 : Int32) (n1 : Int32) (d1 : UInt64) (r1 : UInt64) :
    own_Go own_K9 prog_51_method_6_code 61 #[.val (.ref x), .val (.int n0), .val (.int n1), .val (.double d1), .second, .val (.double r1), .second, .val (.int (0 : Int32)), .unset] [(.int (1 : Int32)), (.int (1 : Int32))] 166 #[.val (.ref x), .val (.int n0), .val (.int n1), .val (.double d1), .second, .val (.double r1), .second, .val (.int (0 : Int32)), .unset] [(.ref x)] := by
  refine own_icmpYes (pc' := 165) d9_61 (by decide) (by decide) (by decide) ?_
  refine own_aloadN (pc2 := 166) d9_165 rfl rfl rfl ?_
  exact own_refl
theorem own_po2_12 (x : Addr) (n0 : Int32) (n1 : Int32) (d1 : UInt64) (r1 : UInt64) (an : Addr) :
    own_Go own_K9 prog_51_method_6_code 169 #[.val (.ref x), .val (.int n0), .val (.int n1), .val (.double d1), .second, .val (.double r1), .second, .val (.int (0 : Int32)), .unset] [(.ref an)] 172 #[.val (.ref x), .val (.int n0), .val (.int n1), .val (.double d1), .second, .val (.double r1), .second, .val (.int (0 : Int32)), .unset] [(.int n1), (.int (0 : Int32)), (.ref an)] := by
  refine own_iload (pc2 := 171) d9_169 rfl rfl ?_
  refine own_iloadN (pc2 := 172) d9_171 rfl rfl ?_
  exact own_refl
theorem own_po2_13 (x : Addr) (n0 : Int32) (n1 : Int32) (d1 : UInt64) (r1 : UInt64) :
    own_Go own_K9 prog_51_method_6_code 173 #[.val (.ref x), .val (.int n0), .val (.int n1), .val (.double d1), .second, .val (.double r1), .second, .val (.int (0 : Int32)), .unset] [] 174 #[.val (.ref x), .val (.int n0), .val (.int n1), .val (.double d1), .second, .val (.double r1), .second, .val (.int (0 : Int32)), .unset] [(.ref x)] := by
  refine own_aloadN (pc2 := 174) d9_173 rfl rfl rfl ?_
  exact own_refl
theorem own_po2_14 (x : Addr) (n0 : Int32) (n1 : Int32) (d1 : UInt64) (r1 : UInt64) (ad : Addr) :
    own_Go own_K9 prog_51_method_6_code 177 #[.val (.ref x), .val (.int n0), .val (.int n1), .val (.double d1), .second, .val (.double r1), .second, .val (.int (0 : Int32)), .unset] [(.ref ad)] 180 #[.val (.ref x), .val (.int n0), .val (.int n1), .val (.double d1), .second, .val (.double r1), .second, .val (.int (0 : Int32)), .unset] [(.double d1), (.int (0 : Int32)), (.ref ad)] := by
  refine own_iload (pc2 := 179) d9_177 rfl rfl ?_
  refine own_dloadN (pc2 := 180) d9_179 rfl rfl ?_
  exact own_refl
theorem own_po2_15 (x : Addr) (n0 : Int32) (n1 : Int32) (d1 : UInt64) (r1 : UInt64) :
    own_Go own_K9 prog_51_method_6_code 181 #[.val (.ref x), .val (.int n0), .val (.int n1), .val (.double d1), .second, .val (.double r1), .second, .val (.int (0 : Int32)), .unset] [] 182 #[.val (.ref x), .val (.int n0), .val (.int n1), .val (.double d1), .second, .val (.double r1), .second, .val (.int (0 : Int32)), .unset] [(.ref x)] := by
  refine own_aloadN (pc2 := 182) d9_181 rfl rfl rfl ?_
  exact own_refl
theorem own_po2_16 (x : Addr) (n0 : Int32) (n1 : Int32) (d1 : UInt64) (r1 : UInt64) (ar : Addr) :
    own_Go own_K9 prog_51_method_6_code 185 #[.val (.ref x), .val (.int n0), .val (.int n1), .val (.double d1), .second, .val (.double r1), .second, .val (.int (0 : Int32)), .unset] [(.ref ar)] 189 #[.val (.ref x), .val (.int n0), .val (.int n1), .val (.double d1), .second, .val (.double r1), .second, .val (.int (0 : Int32)), .unset] [(.double r1), (.int (0 : Int32)), (.ref ar)] := by
  refine own_iload (pc2 := 187) d9_185 rfl rfl ?_
  refine own_dload (pc2 := 189) d9_187 rfl rfl ?_
  exact own_refl
theorem own_po2_17 (x : Addr) (n0 : Int32) (n1 : Int32) (d1 : UInt64) (r1 : UInt64) :
    own_Go own_K9 prog_51_method_6_code 190 #[.val (.ref x), .val (.int n0), .val (.int n1), .val (.double d1), .second, .val (.double r1), .second, .val (.int (0 : Int32)), .unset] [] 191 #[.val (.ref x), .val (.int n0), .val (.int n1), .val (.double d1), .second, .val (.double r1), .second, .val (.int (0 : Int32)), .unset] [(.int n0)] := by
  refine own_iloadN (pc2 := 191) d9_190 rfl rfl ?_
  exact own_refl
set_option maxRecDepth 65536 in
set_option maxHeartbeats 4000000 in
theorem own_poll2 (l : Launch) (Z : State) (a0 : Array Value) (hb0 : Heap) (hw : ∀ d ∈ tables_1, d.before a0 Z = true) (x : Addr) (an ad ar : Addr) (mm : Nat) (n0 n1 n2 : Int32) (d0 d1 d2 r0 r1 r2 : UInt64) :
    own_Met l Z a0 hb0 (⟨"com/example/recourse/recourse/network/NodeHeap", "poll", "()I"⟩ : MethodName) prog_51_method_6_code 9 (some .int) [] ({ frames := 1, cells := 0, slots := 0, locals := 40 } : Room) #[(.ref x)] [(x, own_O "com/example/recourse/recourse/network/NodeHeap" [("com/example/recourse/recourse/network/NodeHeap", "nodes", "[I", .ref an), ("com/example/recourse/recourse/network/NodeHeap", "distances", "[D", .ref ad), ("com/example/recourse/recourse/network/NodeHeap", "remainders", "[D", .ref ar), ("com/example/recourse/recourse/network/NodeHeap", "size", "I", .int 2)]), (an, own_A .int ((.int n0) :: (.int n1) :: (.int n2) :: List.replicate mm (.int 0))), (ad, own_A .double ((.double d0) :: (.double d1) :: (.double d2) :: List.replicate mm (.double 0))), (ar, own_A .double ((.double r0) :: (.double r1) :: (.double r2) :: List.replicate mm (.double 0)))] (fun v cs' => ∃ (m0 m1 m2 : Int32) (e0 e1 e2 f0 f1 f2 : UInt64), ∃ rv : Int32, v = some (.int rv) ∧ cs' = [(x, own_O "com/example/recourse/recourse/network/NodeHeap" [("com/example/recourse/recourse/network/NodeHeap", "nodes", "[I", .ref an), ("com/example/recourse/recourse/network/NodeHeap", "distances", "[D", .ref ad), ("com/example/recourse/recourse/network/NodeHeap", "remainders", "[D", .ref ar), ("com/example/recourse/recourse/network/NodeHeap", "size", "I", .int 1)]), (an, own_A .int ((.int m0) :: (.int m1) :: (.int m2) :: List.replicate mm (.int 0))), (ad, own_A .double ((.double e0) :: (.double e1) :: (.double e2) :: List.replicate mm (.double 0))), (ar, own_A .double ((.double f0) :: (.double f1) :: (.double f2) :: List.replicate mm (.double 0)))]) := by
  refine own_met_of (L0 := #[.val (.ref x), .unset, .unset, .unset, .unset, .unset, .unset, .unset, .unset]) (plainFor_of_name own_pn9) (fun m => own_ef9 m x) ?_
  intro p e s m below meth c T0 hx hZ hown hby hml hnm H0
  obtain ⟨Tpo2_1, Hpo2_1, stpo2_1⟩ := own_getF H0 hx hZ hown (hw _ (List.mem_of_getElem? (i := 14) rfl)) 0 0 rfl rfl (g := (mkF m 1 #[.val (.ref x), .unset, .unset, .unset, .unset, .unset, .unset, .unset, .unset] [(.ref x)])) rfl rfl (hb hby d9_1)
  change own_S _ _ _ _ _ _ _ _ _ _ _ _ _ _ [(x, own_O "com/example/recourse/recourse/network/NodeHeap" [("com/example/recourse/recourse/network/NodeHeap", "nodes", "[I", .ref an), ("com/example/recourse/recourse/network/NodeHeap", "distances", "[D", .ref ad), ("com/example/recourse/recourse/network/NodeHeap", "remainders", "[D", .ref ar), ("com/example/recourse/recourse/network/NodeHeap", "size", "I", .int 2)]), (an, own_A .int ((.int n0) :: (.int n1) :: (.int n2) :: List.replicate mm (.int 0))), (ad, own_A .double ((.double d0) :: (.double d1) :: (.double d2) :: List.replicate mm (.double 0))), (ar, own_A .double ((.double r0) :: (.double r1) :: (.double r2) :: List.replicate mm (.double 0)))] _ _ at Hpo2_1
  obtain ⟨Tpo2_3, Hpo2_3, stpo2_3⟩ := own_getF Hpo2_1 hx hZ hown (hw _ (List.mem_of_getElem? (i := 26) rfl)) 0 3 rfl rfl (g := (mkF m 9 #[.val (.ref x), .val (.int n0), .unset, .unset, .unset, .unset, .unset, .unset, .unset] [(.ref x), (.ref x)])) rfl rfl (hb hby d9_9)
  change own_S _ _ _ _ _ _ _ _ _ _ _ _ _ _ [(x, own_O "com/example/recourse/recourse/network/NodeHeap" [("com/example/recourse/recourse/network/NodeHeap", "nodes", "[I", .ref an), ("com/example/recourse/recourse/network/NodeHeap", "distances", "[D", .ref ad), ("com/example/recourse/recourse/network/NodeHeap", "remainders", "[D", .ref ar), ("com/example/recourse/recourse/network/NodeHeap", "size", "I", .int 2)]), (an, own_A .int ((.int n0) :: (.int n1) :: (.int n2) :: List.replicate mm (.int 0))), (ad, own_A .double ((.double d0) :: (.double d1) :: (.double d2) :: List.replicate mm (.double 0))), (ar, own_A .double ((.double r0) :: (.double r1) :: (.double r2) :: List.replicate mm (.double 0)))] _ _ at Hpo2_3
  obtain ⟨Tpo2_4, Hpo2_4, stpo2_4⟩ := own_putF Hpo2_3 hx hZ hown (hw _ (List.mem_of_getElem? (i := 26) rfl)) 0 3 rfl rfl (Or.inl (hw _ (List.mem_of_getElem? (i := 27) rfl))) (hw _ (List.mem_of_getElem? (i := 1) rfl)) (ty := .int) (by decide) rfl rfl (g := (mkF m 14 #[.val (.ref x), .val (.int n0), .unset, .unset, .unset, .unset, .unset, .unset, .unset] [(.int (1 : Int32)), (.ref x)])) rfl rfl (hb hby d9_14)
  change own_S _ _ _ _ _ _ _ _ _ _ _ _ _ _ [(x, own_O "com/example/recourse/recourse/network/NodeHeap" [("com/example/recourse/recourse/network/NodeHeap", "nodes", "[I", .ref an), ("com/example/recourse/recourse/network/NodeHeap", "distances", "[D", .ref ad), ("com/example/recourse/recourse/network/NodeHeap", "remainders", "[D", .ref ar), ("com/example/recourse/recourse/network/NodeHeap", "size", "I", .int (1 : Int32))]), (an, own_A .int ((.int n0) :: (.int n1) :: (.int n2) :: List.replicate mm (.int 0))), (ad, own_A .double ((.double d0) :: (.double d1) :: (.double d2) :: List.replicate mm (.double 0))), (ar, own_A .double ((.double r0) :: (.double r1) :: (.double r2) :: List.replicate mm (.double 0)))] _ _ at Hpo2_4
  obtain ⟨Tpo2_5, Hpo2_5, stpo2_5⟩ := own_getF Hpo2_4 hx hZ hown (hw _ (List.mem_of_getElem? (i := 14) rfl)) 0 0 rfl rfl (g := (mkF m 18 #[.val (.ref x), .val (.int n0), .unset, .unset, .unset, .unset, .unset, .unset, .unset] [(.ref x)])) rfl rfl (hb hby d9_18)
  change own_S _ _ _ _ _ _ _ _ _ _ _ _ _ _ [(x, own_O "com/example/recourse/recourse/network/NodeHeap" [("com/example/recourse/recourse/network/NodeHeap", "nodes", "[I", .ref an), ("com/example/recourse/recourse/network/NodeHeap", "distances", "[D", .ref ad), ("com/example/recourse/recourse/network/NodeHeap", "remainders", "[D", .ref ar), ("com/example/recourse/recourse/network/NodeHeap", "size", "I", .int (1 : Int32))]), (an, own_A .int ((.int n0) :: (.int n1) :: (.int n2) :: List.replicate mm (.int 0))), (ad, own_A .double ((.double d0) :: (.double d1) :: (.double d2) :: List.replicate mm (.double 0))), (ar, own_A .double ((.double r0) :: (.double r1) :: (.double r2) :: List.replicate mm (.double 0)))] _ _ at Hpo2_5
  obtain ⟨Tpo2_6, Hpo2_6, stpo2_6⟩ := own_getF Hpo2_5 hx hZ hown (hw _ (List.mem_of_getElem? (i := 26) rfl)) 0 3 rfl rfl (g := (mkF m 22 #[.val (.ref x), .val (.int n0), .unset, .unset, .unset, .unset, .unset, .unset, .unset] [(.ref x), (.ref an)])) rfl rfl (hb hby d9_22)
  change own_S _ _ _ _ _ _ _ _ _ _ _ _ _ _ [(x, own_O "com/example/recourse/recourse/network/NodeHeap" [("com/example/recourse/recourse/network/NodeHeap", "nodes", "[I", .ref an), ("com/example/recourse/recourse/network/NodeHeap", "distances", "[D", .ref ad), ("com/example/recourse/recourse/network/NodeHeap", "remainders", "[D", .ref ar), ("com/example/recourse/recourse/network/NodeHeap", "size", "I", .int (1 : Int32))]), (an, own_A .int ((.int n0) :: (.int n1) :: (.int n2) :: List.replicate mm (.int 0))), (ad, own_A .double ((.double d0) :: (.double d1) :: (.double d2) :: List.replicate mm (.double 0))), (ar, own_A .double ((.double r0) :: (.double r1) :: (.double r2) :: List.replicate mm (.double 0)))] _ _ at Hpo2_6
  obtain ⟨Tpo2_8, Hpo2_8, stpo2_8⟩ := own_getF Hpo2_6 hx hZ hown (hw _ (List.mem_of_getElem? (i := 17) rfl)) 0 1 rfl rfl (g := (mkF m 28 #[.val (.ref x), .val (.int n0), .val (.int n1), .unset, .unset, .unset, .unset, .unset, .unset] [(.ref x)])) rfl rfl (hb hby d9_28)
  change own_S _ _ _ _ _ _ _ _ _ _ _ _ _ _ [(x, own_O "com/example/recourse/recourse/network/NodeHeap" [("com/example/recourse/recourse/network/NodeHeap", "nodes", "[I", .ref an), ("com/example/recourse/recourse/network/NodeHeap", "distances", "[D", .ref ad), ("com/example/recourse/recourse/network/NodeHeap", "remainders", "[D", .ref ar), ("com/example/recourse/recourse/network/NodeHeap", "size", "I", .int (1 : Int32))]), (an, own_A .int ((.int n0) :: (.int n1) :: (.int n2) :: List.replicate mm (.int 0))), (ad, own_A .double ((.double d0) :: (.double d1) :: (.double d2) :: List.replicate mm (.double 0))), (ar, own_A .double ((.double r0) :: (.double r1) :: (.double r2) :: List.replicate mm (.double 0)))] _ _ at Hpo2_8
  obtain ⟨Tpo2_9, Hpo2_9, stpo2_9⟩ := own_getF Hpo2_8 hx hZ hown (hw _ (List.mem_of_getElem? (i := 26) rfl)) 0 3 rfl rfl (g := (mkF m 32 #[.val (.ref x), .val (.int n0), .val (.int n1), .unset, .unset, .unset, .unset, .unset, .unset] [(.ref x), (.ref ad)])) rfl rfl (hb hby d9_32)
  change own_S _ _ _ _ _ _ _ _ _ _ _ _ _ _ [(x, own_O "com/example/recourse/recourse/network/NodeHeap" [("com/example/recourse/recourse/network/NodeHeap", "nodes", "[I", .ref an), ("com/example/recourse/recourse/network/NodeHeap", "distances", "[D", .ref ad), ("com/example/recourse/recourse/network/NodeHeap", "remainders", "[D", .ref ar), ("com/example/recourse/recourse/network/NodeHeap", "size", "I", .int (1 : Int32))]), (an, own_A .int ((.int n0) :: (.int n1) :: (.int n2) :: List.replicate mm (.int 0))), (ad, own_A .double ((.double d0) :: (.double d1) :: (.double d2) :: List.replicate mm (.double 0))), (ar, own_A .double ((.double r0) :: (.double r1) :: (.double r2) :: List.replicate mm (.double 0)))] _ _ at Hpo2_9
  obtain ⟨Tpo2_11, Hpo2_11, stpo2_11⟩ := own_getF Hpo2_9 hx hZ hown (hw _ (List.mem_of_getElem? (i := 19) rfl)) 0 2 rfl rfl (g := (mkF m 38 #[.val (.ref x), .val (.int n0), .val (.int n1), .val (.double d1), .second, .unset, .unset, .unset, .unset] [(.ref x)])) rfl rfl (hb hby d9_38)
  change own_S _ _ _ _ _ _ _ _ _ _ _ _ _ _ [(x, own_O "com/example/recourse/recourse/network/NodeHeap" [("com/example/recourse/recourse/network/NodeHeap", "nodes", "[I", .ref an), ("com/example/recourse/recourse/network/NodeHeap", "distances", "[D", .ref ad), ("com/example/recourse/recourse/network/NodeHeap", "remainders", "[D", .ref ar), ("com/example/recourse/recourse/network/NodeHeap", "size", "I", .int (1 : Int32))]), (an, own_A .int ((.int n0) :: (.int n1) :: (.int n2) :: List.replicate mm (.int 0))), (ad, own_A .double ((.double d0) :: (.double d1) :: (.double d2) :: List.replicate mm (.double 0))), (ar, own_A .double ((.double r0) :: (.double r1) :: (.double r2) :: List.replicate mm (.double 0)))] _ _ at Hpo2_11
  obtain ⟨Tpo2_12, Hpo2_12, stpo2_12⟩ := own_getF Hpo2_11 hx hZ hown (hw _ (List.mem_of_getElem? (i := 26) rfl)) 0 3 rfl rfl (g := (mkF m 42 #[.val (.ref x), .val (.int n0), .val (.int n1), .val (.double d1), .second, .unset, .unset, .unset, .unset] [(.ref x), (.ref ar)])) rfl rfl (hb hby d9_42)
  change own_S _ _ _ _ _ _ _ _ _ _ _ _ _ _ [(x, own_O "com/example/recourse/recourse/network/NodeHeap" [("com/example/recourse/recourse/network/NodeHeap", "nodes", "[I", .ref an), ("com/example/recourse/recourse/network/NodeHeap", "distances", "[D", .ref ad), ("com/example/recourse/recourse/network/NodeHeap", "remainders", "[D", .ref ar), ("com/example/recourse/recourse/network/NodeHeap", "size", "I", .int (1 : Int32))]), (an, own_A .int ((.int n0) :: (.int n1) :: (.int n2) :: List.replicate mm (.int 0))), (ad, own_A .double ((.double d0) :: (.double d1) :: (.double d2) :: List.replicate mm (.double 0))), (ar, own_A .double ((.double r0) :: (.double r1) :: (.double r2) :: List.replicate mm (.double 0)))] _ _ at Hpo2_12
  obtain ⟨Tpo2_14, Hpo2_14, stpo2_14⟩ := own_getF Hpo2_12 hx hZ hown (hw _ (List.mem_of_getElem? (i := 26) rfl)) 0 3 rfl rfl (g := (mkF m 58 #[.val (.ref x), .val (.int n0), .val (.int n1), .val (.double d1), .second, .val (.double r1), .second, .val (.int (0 : Int32)), .unset] [(.ref x), (.int (1 : Int32))])) rfl rfl (hb hby d9_58)
  change own_S _ _ _ _ _ _ _ _ _ _ _ _ _ _ [(x, own_O "com/example/recourse/recourse/network/NodeHeap" [("com/example/recourse/recourse/network/NodeHeap", "nodes", "[I", .ref an), ("com/example/recourse/recourse/network/NodeHeap", "distances", "[D", .ref ad), ("com/example/recourse/recourse/network/NodeHeap", "remainders", "[D", .ref ar), ("com/example/recourse/recourse/network/NodeHeap", "size", "I", .int (1 : Int32))]), (an, own_A .int ((.int n0) :: (.int n1) :: (.int n2) :: List.replicate mm (.int 0))), (ad, own_A .double ((.double d0) :: (.double d1) :: (.double d2) :: List.replicate mm (.double 0))), (ar, own_A .double ((.double r0) :: (.double r1) :: (.double r2) :: List.replicate mm (.double 0)))] _ _ at Hpo2_14
  obtain ⟨Tpo2_15, Hpo2_15, stpo2_15⟩ := own_getF Hpo2_14 hx hZ hown (hw _ (List.mem_of_getElem? (i := 14) rfl)) 0 0 rfl rfl (g := (mkF m 166 #[.val (.ref x), .val (.int n0), .val (.int n1), .val (.double d1), .second, .val (.double r1), .second, .val (.int (0 : Int32)), .unset] [(.ref x)])) rfl rfl (hb hby d9_166)
  change own_S _ _ _ _ _ _ _ _ _ _ _ _ _ _ [(x, own_O "com/example/recourse/recourse/network/NodeHeap" [("com/example/recourse/recourse/network/NodeHeap", "nodes", "[I", .ref an), ("com/example/recourse/recourse/network/NodeHeap", "distances", "[D", .ref ad), ("com/example/recourse/recourse/network/NodeHeap", "remainders", "[D", .ref ar), ("com/example/recourse/recourse/network/NodeHeap", "size", "I", .int (1 : Int32))]), (an, own_A .int ((.int n0) :: (.int n1) :: (.int n2) :: List.replicate mm (.int 0))), (ad, own_A .double ((.double d0) :: (.double d1) :: (.double d2) :: List.replicate mm (.double 0))), (ar, own_A .double ((.double r0) :: (.double r1) :: (.double r2) :: List.replicate mm (.double 0)))] _ _ at Hpo2_15
  obtain ⟨Tpo2_16, Hpo2_16, stpo2_16⟩ := own_iastore Hpo2_15 hx hZ 1 0 rfl (by decide) (Nat.le_of_ble_eq_true rfl) (g := (mkF m 172 #[.val (.ref x), .val (.int n0), .val (.int n1), .val (.double d1), .second, .val (.double r1), .second, .val (.int (0 : Int32)), .unset] [(.int n1), (.int (0 : Int32)), (.ref an)])) rfl rfl (hb hby d9_172)
  change own_S _ _ _ _ _ _ _ _ _ _ _ _ _ _ [(x, own_O "com/example/recourse/recourse/network/NodeHeap" [("com/example/recourse/recourse/network/NodeHeap", "nodes", "[I", .ref an), ("com/example/recourse/recourse/network/NodeHeap", "distances", "[D", .ref ad), ("com/example/recourse/recourse/network/NodeHeap", "remainders", "[D", .ref ar), ("com/example/recourse/recourse/network/NodeHeap", "size", "I", .int (1 : Int32))]), (an, own_A .int ((.int n1) :: (.int n1) :: (.int n2) :: List.replicate mm (.int 0))), (ad, own_A .double ((.double d0) :: (.double d1) :: (.double d2) :: List.replicate mm (.double 0))), (ar, own_A .double ((.double r0) :: (.double r1) :: (.double r2) :: List.replicate mm (.double 0)))] _ _ at Hpo2_16
  obtain ⟨Tpo2_17, Hpo2_17, stpo2_17⟩ := own_getF Hpo2_16 hx hZ hown (hw _ (List.mem_of_getElem? (i := 17) rfl)) 0 1 rfl rfl (g := (mkF m 174 #[.val (.ref x), .val (.int n0), .val (.int n1), .val (.double d1), .second, .val (.double r1), .second, .val (.int (0 : Int32)), .unset] [(.ref x)])) rfl rfl (hb hby d9_174)
  change own_S _ _ _ _ _ _ _ _ _ _ _ _ _ _ [(x, own_O "com/example/recourse/recourse/network/NodeHeap" [("com/example/recourse/recourse/network/NodeHeap", "nodes", "[I", .ref an), ("com/example/recourse/recourse/network/NodeHeap", "distances", "[D", .ref ad), ("com/example/recourse/recourse/network/NodeHeap", "remainders", "[D", .ref ar), ("com/example/recourse/recourse/network/NodeHeap", "size", "I", .int (1 : Int32))]), (an, own_A .int ((.int n1) :: (.int n1) :: (.int n2) :: List.replicate mm (.int 0))), (ad, own_A .double ((.double d0) :: (.double d1) :: (.double d2) :: List.replicate mm (.double 0))), (ar, own_A .double ((.double r0) :: (.double r1) :: (.double r2) :: List.replicate mm (.double 0)))] _ _ at Hpo2_17
  obtain ⟨Tpo2_18, Hpo2_18, stpo2_18⟩ := own_dastore Hpo2_17 hx hZ 2 0 rfl (by decide) (Nat.le_of_ble_eq_true rfl) (g := (mkF m 180 #[.val (.ref x), .val (.int n0), .val (.int n1), .val (.double d1), .second, .val (.double r1), .second, .val (.int (0 : Int32)), .unset] [(.double d1), (.int (0 : Int32)), (.ref ad)])) rfl rfl (hb hby d9_180)
  change own_S _ _ _ _ _ _ _ _ _ _ _ _ _ _ [(x, own_O "com/example/recourse/recourse/network/NodeHeap" [("com/example/recourse/recourse/network/NodeHeap", "nodes", "[I", .ref an), ("com/example/recourse/recourse/network/NodeHeap", "distances", "[D", .ref ad), ("com/example/recourse/recourse/network/NodeHeap", "remainders", "[D", .ref ar), ("com/example/recourse/recourse/network/NodeHeap", "size", "I", .int (1 : Int32))]), (an, own_A .int ((.int n1) :: (.int n1) :: (.int n2) :: List.replicate mm (.int 0))), (ad, own_A .double ((.double d1) :: (.double d1) :: (.double d2) :: List.replicate mm (.double 0))), (ar, own_A .double ((.double r0) :: (.double r1) :: (.double r2) :: List.replicate mm (.double 0)))] _ _ at Hpo2_18
  obtain ⟨Tpo2_19, Hpo2_19, stpo2_19⟩ := own_getF Hpo2_18 hx hZ hown (hw _ (List.mem_of_getElem? (i := 19) rfl)) 0 2 rfl rfl (g := (mkF m 182 #[.val (.ref x), .val (.int n0), .val (.int n1), .val (.double d1), .second, .val (.double r1), .second, .val (.int (0 : Int32)), .unset] [(.ref x)])) rfl rfl (hb hby d9_182)
  change own_S _ _ _ _ _ _ _ _ _ _ _ _ _ _ [(x, own_O "com/example/recourse/recourse/network/NodeHeap" [("com/example/recourse/recourse/network/NodeHeap", "nodes", "[I", .ref an), ("com/example/recourse/recourse/network/NodeHeap", "distances", "[D", .ref ad), ("com/example/recourse/recourse/network/NodeHeap", "remainders", "[D", .ref ar), ("com/example/recourse/recourse/network/NodeHeap", "size", "I", .int (1 : Int32))]), (an, own_A .int ((.int n1) :: (.int n1) :: (.int n2) :: List.replicate mm (.int 0))), (ad, own_A .double ((.double d1) :: (.double d1) :: (.double d2) :: List.replicate mm (.double 0))), (ar, own_A .double ((.double r0) :: (.double r1) :: (.double r2) :: List.replicate mm (.double 0)))] _ _ at Hpo2_19
  obtain ⟨Tpo2_20, Hpo2_20, stpo2_20⟩ := own_dastore Hpo2_19 hx hZ 3 0 rfl (by decide) (Nat.le_of_ble_eq_true rfl) (g := (mkF m 189 #[.val (.ref x), .val (.int n0), .val (.int n1), .val (.double d1), .second, .val (.double r1), .second, .val (.int (0 : Int32)), .unset] [(.double r1), (.int (0 : Int32)), (.ref ar)])) rfl rfl (hb hby d9_189)
  change own_S _ _ _ _ _ _ _ _ _ _ _ _ _ _ [(x, own_O "com/example/recourse/recourse/network/NodeHeap" [("com/example/recourse/recourse/network/NodeHeap", "nodes", "[I", .ref an), ("com/example/recourse/recourse/network/NodeHeap", "distances", "[D", .ref ad), ("com/example/recourse/recourse/network/NodeHeap", "remainders", "[D", .ref ar), ("com/example/recourse/recourse/network/NodeHeap", "size", "I", .int (1 : Int32))]), (an, own_A .int ((.int n1) :: (.int n1) :: (.int n2) :: List.replicate mm (.int 0))), (ad, own_A .double ((.double d1) :: (.double d1) :: (.double d2) :: List.replicate mm (.double 0))), (ar, own_A .double ((.double r1) :: (.double r1) :: (.double r2) :: List.replicate mm (.double 0)))] _ _ at Hpo2_20
  refine ⟨_, _, _, _, 191, #[.val (.ref x), .val (.int n0), .val (.int n1), .val (.double d1), .second, .val (.double r1), .second, .val (.int (0 : Int32)), .unset], Hpo2_20, by decide, by decide, Or.inr ⟨.int, (.int n0), [], .ireturn, rfl, ⟨n1, n1, n2, d1, d1, d2, r1, r1, r2, _, rfl, rfl⟩, d9_191, own_retI _, fun target q => ?_⟩⟩
  refine own_go H0 hx hZ hown hby hw own_K9_ok (own_po2_0 x) _ ?_
  refine stpo2_1 _ ?_
  refine own_go Hpo2_1 hx hZ hown hby hw own_K9_ok (own_po2_1 x an) _ ?_
  refine own_iaload Hpo2_1 hx hZ 1 0 rfl (by decide) rfl (g := (mkF m 5 #[.val (.ref x), .unset, .unset, .unset, .unset, .unset, .unset, .unset, .unset] [(.int (0 : Int32)), (.ref an)])) rfl rfl (hb hby d9_5) _ ?_
  refine own_go Hpo2_1 hx hZ hown hby hw own_K9_ok (own_po2_2 x n0) _ ?_
  refine stpo2_3 _ ?_
  refine own_go Hpo2_3 hx hZ hown hby hw own_K9_ok (own_po2_3 x n0) _ ?_
  refine stpo2_4 _ ?_
  refine own_go Hpo2_4 hx hZ hown hby hw own_K9_ok (own_po2_4 x n0) _ ?_
  refine stpo2_5 _ ?_
  refine own_go Hpo2_5 hx hZ hown hby hw own_K9_ok (own_po2_5 x n0 an) _ ?_
  refine stpo2_6 _ ?_
  refine own_iaload Hpo2_6 hx hZ 1 1 rfl (by decide) rfl (g := (mkF m 25 #[.val (.ref x), .val (.int n0), .unset, .unset, .unset, .unset, .unset, .unset, .unset] [(.int (1 : Int32)), (.ref an)])) rfl rfl (hb hby d9_25) _ ?_
  refine own_go Hpo2_6 hx hZ hown hby hw own_K9_ok (own_po2_6 x n0 n1) _ ?_
  refine stpo2_8 _ ?_
  refine own_go Hpo2_8 hx hZ hown hby hw own_K9_ok (own_po2_7 x n0 n1 ad) _ ?_
  refine stpo2_9 _ ?_
  refine own_daload Hpo2_9 hx hZ 2 1 rfl (by decide) rfl (g := (mkF m 35 #[.val (.ref x), .val (.int n0), .val (.int n1), .unset, .unset, .unset, .unset, .unset, .unset] [(.int (1 : Int32)), (.ref ad)])) rfl rfl (hb hby d9_35) _ ?_
  refine own_go Hpo2_9 hx hZ hown hby hw own_K9_ok (own_po2_8 x n0 n1 d1) _ ?_
  refine stpo2_11 _ ?_
  refine own_go Hpo2_11 hx hZ hown hby hw own_K9_ok (own_po2_9 x n0 n1 d1 ar) _ ?_
  refine stpo2_12 _ ?_
  refine own_daload Hpo2_12 hx hZ 3 1 rfl (by decide) rfl (g := (mkF m 45 #[.val (.ref x), .val (.int n0), .val (.int n1), .val (.double d1), .second, .unset, .unset, .unset, .unset] [(.int (1 : Int32)), (.ref ar)])) rfl rfl (hb hby d9_45) _ ?_
  refine own_go Hpo2_12 hx hZ hown hby hw own_K9_ok (own_po2_10 x n0 n1 d1 r1) _ ?_
  refine stpo2_14 _ ?_
  refine own_go Hpo2_14 hx hZ hown hby hw own_K9_ok (own_po2_11 x n0 n1 d1 r1) _ ?_
  refine stpo2_15 _ ?_
  refine own_go Hpo2_15 hx hZ hown hby hw own_K9_ok (own_po2_12 x n0 n1 d1 r1 an) _ ?_
  refine stpo2_16 _ ?_
  refine own_go Hpo2_16 hx hZ hown hby hw own_K9_ok (own_po2_13 x n0 n1 d1 r1) _ ?_
  refine stpo2_17 _ ?_
  refine own_go Hpo2_17 hx hZ hown hby hw own_K9_ok (own_po2_14 x n0 n1 d1 r1 ad) _ ?_
  refine stpo2_18 _ ?_
  refine own_go Hpo2_18 hx hZ hown hby hw own_K9_ok (own_po2_15 x n0 n1 d1 r1) _ ?_
  refine stpo2_19 _ ?_
  refine own_go Hpo2_19 hx hZ hown hby hw own_K9_ok (own_po2_16 x n0 n1 d1 r1 ar) _ ?_
  refine stpo2_20 _ ?_
  refine own_go Hpo2_20 hx hZ hown hby hw own_K9_ok (own_po2_17 x n0 n1 d1 r1) _ ?_
  exact q
theorem own_po3_A17 (x : Addr) (n0 : Int32) (n2 : Int32) (d2 : UInt64) (r2 : UInt64) :
    own_Go own_K9 prog_51_method_6_code 144 #[.val (.ref x), .val (.int n0), .val (.int n2), .val (.double d2), .second, .val (.double r2), .second, .val (.int (0 : Int32)), .val (.int (1 : Int32))] [(.int (0 : Int32))] 166 #[.val (.ref x), .val (.int n0), .val (.int n2), .val (.double d2), .second, .val (.double r2), .second, .val (.int (0 : Int32)), .val (.int (1 : Int32))] [(.ref x)] := by
  refine own_ifNo (pc2 := 147) d9_144 rfl (by decide) ?_
  refine own_goto (pc' := 165) d9_147 (by decide) (by decide) ?_
  refine own_aloadN (pc2 := 166) d9_165 rfl rfl rfl ?_
  exact own_refl
theorem own_po3_A18 (x : Addr) (n0 : Int32) (n2 : Int32) (d2 : UInt64) (r2 : UInt64) (an : Addr) :
    own_Go own_K9 prog_51_method_6_code 169 #[.val (.ref x), .val (.int n0), .val (.int n2), .val (.double d2), .second, .val (.double r2), .second, .val (.int (0 : Int32)), .val (.int (1 : Int32))] [(.ref an)] 172 #[.val (.ref x), .val (.int n0), .val (.int n2), .val (.double d2), .second, .val (.double r2), .second, .val (.int (0 : Int32)), .val (.int (1 : Int32))] [(.int n2), (.int (0 : Int32)), (.ref an)] := by
  refine own_iload (pc2 := 171) d9_169 rfl rfl ?_
  refine own_iloadN (pc2 := 172) d9_171 rfl rfl ?_
  exact own_refl
theorem own_po3_A19 (x : Addr) (n0 : Int32) (n2 : Int32) (d2 : UInt64) (r2 : UInt64) :
    own_Go own_K9 prog_51_method_6_code 173 #[.val (.ref x), .val (.int n0), .val (.int n2), .val (.double d2), .second, .val (.double r2), .second, .val (.int (0 : Int32)), .val (.int (1 : Int32))] [] 174 #[.val (.ref x), .val (.int n0), .val (.int n2), .val (.double d2), .second, .val (.double r2), .second, .val (.int (0 : Int32)), .val (.int (1 : Int32))] [(.ref x)] := by
  refine own_aloadN (pc2 := 174) d9_173 rfl rfl rfl ?_
  exact own_refl
theorem own_po3_A20 (x : Addr) (n0 : Int32) (n2 : Int32) (d2 : UInt64) (r2 : UInt64) (ad : Addr) :
    own_Go own_K9 prog_51_method_6_code 177 #[.val (.ref x), .val (.int n0), .val (.int n2), .val (.double d2), .second, .val (.double r2), .second, .val (.int (0 : Int32)), .val (.int (1 : Int32))] [(.ref ad)] 180 #[.val (.ref x), .val (.int n0), .val (.int n2), .val (.double d2), .second, .val (.double r2), .second, .val (.int (0 : Int32)), .val (.int (1 : Int32))] [(.double d2), (.int (0 : Int32)), (.ref ad)] := by
  refine own_iload (pc2 := 179) d9_177 rfl rfl ?_
  refine own_dloadN (pc2 := 180) d9_179 rfl rfl ?_
  exact own_refl
theorem own_po3_A21 (x : Addr) (n0 : Int32) (n2 : Int32) (d2 : UInt64) (r2 : UInt64) :
    own_Go own_K9 prog_51_method_6_code 181 #[.val (.ref x), .val (.int n0), .val (.int n2), .val (.double d2), .second, .val (.double r2), .second, .val (.int (0 : Int32)), .val (.int (1 : Int32))] [] 182 #[.val (.ref x), .val (.int n0), .val (.int n2), .val (.double d2), .second, .val (.double r2), .second, .val (.int (0 : Int32)), .val (.int (1 : Int32))] [(.ref x)] := by
  refine own_aloadN (pc2 := 182) d9_181 rfl rfl rfl ?_
  exact own_refl
theorem own_po3_A22 (x : Addr) (n0 : Int32) (n2 : Int32) (d2 : UInt64) (r2 : UInt64) (ar : Addr) :
    own_Go own_K9 prog_51_method_6_code 185 #[.val (.ref x), .val (.int n0), .val (.int n2), .val (.double d2), .second, .val (.double r2), .second, .val (.int (0 : Int32)), .val (.int (1 : Int32))] [(.ref ar)] 189 #[.val (.ref x), .val (.int n0), .val (.int n2), .val (.double d2), .second, .val (.double r2), .second, .val (.int (0 : Int32)), .val (.int (1 : Int32))] [(.double r2), (.int (0 : Int32)), (.ref ar)] := by
  refine own_iload (pc2 := 187) d9_185 rfl rfl ?_
  refine own_dload (pc2 := 189) d9_187 rfl rfl ?_
  exact own_refl
theorem own_po3_A23 (x : Addr) (n0 : Int32) (n2 : Int32) (d2 : UInt64) (r2 : UInt64) :
    own_Go own_K9 prog_51_method_6_code 190 #[.val (.ref x), .val (.int n0), .val (.int n2), .val (.double d2), .second, .val (.double r2), .second, .val (.int (0 : Int32)), .val (.int (1 : Int32))] [] 191 #[.val (.ref x), .val (.int n0), .val (.int n2), .val (.double d2), .second, .val (.double r2), .second, .val (.int (0 : Int32)), .val (.int (1 : Int32))] [(.int n0)] := by
  refine own_iloadN (pc2 := 191) d9_190 rfl rfl ?_
  exact own_refl
theorem own_po3_B17 (x : Addr) (n0 : Int32) (n2 : Int32) (d2 : UInt64) (r2 : UInt64) :
    own_Go own_K9 prog_51_method_6_code 144 #[.val (.ref x), .val (.int n0), .val (.int n2), .val (.double d2), .second, .val (.double r2), .second, .val (.int (0 : Int32)), .val (.int (1 : Int32))] [(.int (1 : Int32))] 155 #[.val (.ref x), .val (.int n0), .val (.int n2), .val (.double d2), .second, .val (.double r2), .second, .val (.int (0 : Int32)), .val (.int (1 : Int32))] [(.int (0 : Int32)), (.int (1 : Int32)), (.ref x)] := by
  refine own_ifYes (pc' := 150) d9_144 (by decide) (by decide) (by decide) ?_
  refine own_aloadN (pc2 := 151) d9_150 rfl rfl rfl ?_
  refine own_iload (pc2 := 153) d9_151 rfl rfl ?_
  refine own_iload (pc2 := 155) d9_153 rfl rfl ?_
  exact own_refl
theorem own_po3_B18 (x : Addr) (n0 : Int32) (n2 : Int32) (d2 : UInt64) (r2 : UInt64) :
    own_Go own_K9 prog_51_method_6_code 158 #[.val (.ref x), .val (.int n0), .val (.int n2), .val (.double d2), .second, .val (.double r2), .second, .val (.int (0 : Int32)), .val (.int (1 : Int32))] [] 58 #[.val (.ref x), .val (.int n0), .val (.int n2), .val (.double d2), .second, .val (.double r2), .second, .val (.int (1 : Int32)), .val (.int (1 : Int32))] [(.ref x), (.int (3 : Int32))] := by
  refine own_iload (pc2 := 160) d9_158 rfl rfl ?_
  refine own_istore (pc2 := 162) d9_160 rfl (L' := #[.val (.ref x), .val (.int n0), .val (.int n2), .val (.double d2), .second, .val (.double r2), .second, .val (.int (1 : Int32)), .val (.int (1 : Int32))]) rfl ?_
  refine own_goto (pc' := 51) d9_162 (by decide) (by decide) ?_
  refine own_iconst (v := 2) (pc2 := 52) d9_51 rfl rfl ?_
  refine own_iload (pc2 := 54) d9_52 rfl rfl ?_
  refine own_imul (pc2 := 55) d9_54 rfl (v := (2 : Int32)) (by decide) ?_
  refine own_iconst (v := 1) (pc2 := 56) d9_55 rfl rfl ?_
  refine own_iadd (pc2 := 57) d9_56 rfl (v := (3 : Int32)) (by decide) ?_
  refine own_aloadN (pc2 := 58) d9_57 rfl rfl rfl ?_
  exact own_refl
theorem own_po3_B19 (x : Addr) (n0 : Int32) (n2 : Int32) (d2 : UInt64) (r2 : UInt64) :
    own_Go own_K9 prog_51_method_6_code 61 #[.val (.ref x), .val (.int n0), .val (.int n2), .val (.double d2), .second, .val (.double r2), .second, .val (.int (1 : Int32)), .val (.int (1 : Int32))] [(.int (2 : Int32)), (.int (3 : Int32))] 166 #[.val (.ref x), .val (.int n0), .val (.int n2), .val (.double d2), .second, .val (.double r2), .second, .val (.int (1 : Int32)), .val (.int (1 : Int32))] [(.ref x)] := by
  refine own_icmpYes (pc' := 165) d9_61 (by decide) (by decide) (by decide) ?_
  refine own_aloadN (pc2 := 166) d9_165 rfl rfl rfl ?_
  exact own_refl
theorem own_po3_B20 (x : Addr) (n0 : Int32) (n2 : Int32) (d2 : UInt64) (r2 : UInt64) (an : Addr) :
    own_Go own_K9 prog_51_method_6_code 169 #[.val (.ref x), .val (.int n0), .val (.int n2), .val (.double d2), .second, .val (.double r2), .second, .val (.int (1 : Int32)), .val (.int (1 : Int32))] [(.ref an)] 172 #[.val (.ref x), .val (.int n0), .val (.int n2), .val (.double d2), .second, .val (.double r2), .second, .val (.int (1 : Int32)), .val (.int (1 : Int32))] [(.int n2), (.int (1 : Int32)), (.ref an)] := by
  refine own_iload (pc2 := 171) d9_169 rfl rfl ?_
  refine own_iloadN (pc2 := 172) d9_171 rfl rfl ?_
  exact own_refl
theorem own_po3_B21 (x : Addr) (n0 : Int32) (n2 : Int32) (d2 : UInt64) (r2 : UInt64) :
    own_Go own_K9 prog_51_method_6_code 173 #[.val (.ref x), .val (.int n0), .val (.int n2), .val (.double d2), .second, .val (.double r2), .second, .val (.int (1 : Int32)), .val (.int (1 : Int32))] [] 174 #[.val (.ref x), .val (.int n0), .val (.int n2), .val (.double d2), .second, .val (.double r2), .second, .val (.int (1 : Int32)), .val (.int (1 : Int32))] [(.ref x)] := by
  refine own_aloadN (pc2 := 174) d9_173 rfl rfl rfl ?_
  exact own_refl
theorem own_po3_B22 (x : Addr) (n0 : Int32) (n2 : Int32) (d2 : UInt64) (r2 : UInt64) (ad : Addr) :
    own_Go own_K9 prog_51_method_6_code 177 #[.val (.ref x), .val (.int n0), .val (.int n2), .val (.double d2), .second, .val (.double r2), .second, .val (.int (1 : Int32)), .val (.int (1 : Int32))] [(.ref ad)] 180 #[.val (.ref x), .val (.int n0), .val (.int n2), .val (.double d2), .second, .val (.double r2), .second, .val (.int (1 : Int32)), .val (.int (1 : Int32))] [(.double d2), (.int (1 : Int32)), (.ref ad)] := by
  refine own_iload (pc2 := 179) d9_177 rfl rfl ?_
  refine own_dloadN (pc2 := 180) d9_179 rfl rfl ?_
  exact own_refl
theorem own_po3_B23 (x : Addr) (n0 : Int32) (n2 : Int32) (d2 : UInt64) (r2 : UInt64) :
    own_Go own_K9 prog_51_method_6_code 181 #[.val (.ref x), .val (.int n0), .val (.int n2), .val (.double d2), .second, .val (.double r2), .second, .val (.int (1 : Int32)), .val (.int (1 : Int32))] [] 182 #[.val (.ref x), .val (.int n0), .val (.int n2), .val (.double d2), .second, .val (.double r2), .second, .val (.int (1 : Int32)), .val (.int (1 : Int32))] [(.ref x)] := by
  refine own_aloadN (pc2 := 182) d9_181 rfl rfl rfl ?_
  exact own_refl
theorem own_po3_B24 (x : Addr) (n0 : Int32) (n2 : Int32) (d2 : UInt64) (r2 : UInt64) (ar : Addr) :
    own_Go own_K9 prog_51_method_6_code 185 #[.val (.ref x), .val (.int n0), .val (.int n2), .val (.double d2), .second, .val (.double r2), .second, .val (.int (1 : Int32)), .val (.int (1 : Int32))] [(.ref ar)] 189 #[.val (.ref x), .val (.int n0), .val (.int n2), .val (.double d2), .second, .val (.double r2), .second, .val (.int (1 : Int32)), .val (.int (1 : Int32))] [(.double r2), (.int (1 : Int32)), (.ref ar)] := by
  refine own_iload (pc2 := 187) d9_185 rfl rfl ?_
  refine own_dload (pc2 := 189) d9_187 rfl rfl ?_
  exact own_refl
theorem own_po3_B25 (x : Addr) (n0 : Int32) (n2 : Int32) (d2 : UInt64) (r2 : UInt64) :
    own_Go own_K9 prog_51_method_6_code 190 #[.val (.ref x), .val (.int n0), .val (.int n2), .val (.double d2), .second, .val (.double r2), .second, .val (.int (1 : Int32)), .val (.int (1 : Int32))] [] 191 #[.val (.ref x), .val (.int n0), .val (.int n2), .val (.double d2), .second, .val (.double r2), .second, .val (.int (1 : Int32)), .val (.int (1 : Int32))] [(.int n0)] := by
  refine own_iloadN (pc2 := 191) d9_190 rfl rfl ?_
  exact own_refl
theorem own_po3_0 (x : Addr) :
    own_Go own_K9 prog_51_method_6_code 0 #[.val (.ref x), .unset, .unset, .unset, .unset, .unset, .unset, .unset, .unset] [] 1 #[.val (.ref x), .unset, .unset, .unset, .unset, .unset, .unset, .unset, .unset] [(.ref x)] := by
  refine own_aloadN (pc2 := 1) d9_0 rfl rfl rfl ?_
  exact own_refl
theorem own_po3_1 (x : Addr) (an : Addr) :
    own_Go own_K9 prog_51_method_6_code 4 #[.val (.ref x), .unset, .unset, .unset, .unset, .unset, .unset, .unset, .unset] [(.ref an)] 5 #[.val (.ref x), .unset, .unset, .unset, .unset, .unset, .unset, .unset, .unset] [(.int (0 : Int32)), (.ref an)] := by
  refine own_iconst (v := 0) (pc2 := 5) d9_4 rfl rfl ?_
  exact own_refl
theorem own_po3_2 (x : Addr) (n0 : Int32) :
    own_Go own_K9 prog_51_method_6_code 6 #[.val (.ref x), .unset, .unset, .unset, .unset, .unset, .unset, .unset, .unset] [(.int n0)] 9 #[.val (.ref x), .val (.int n0), .unset, .unset, .unset, .unset, .unset, .unset, .unset] [(.ref x), (.ref x)] := by
  refine own_istoreN (pc2 := 7) d9_6 rfl (L' := #[.val (.ref x), .val (.int n0), .unset, .unset, .unset, .unset, .unset, .unset, .unset]) rfl ?_
  refine own_aloadN (pc2 := 8) d9_7 rfl rfl rfl ?_
  refine own_dup (pc2 := 9) d9_8 rfl rfl ?_
  exact own_refl
theorem own_po3_3 (x : Addr) (n0 : Int32) :
    own_Go own_K9 prog_51_method_6_code 12 #[.val (.ref x), .val (.int n0), .unset, .unset, .unset, .unset, .unset, .unset, .unset] [(.int (3 : Int32)), (.ref x)] 14 #[.val (.ref x), .val (.int n0), .unset, .unset, .unset, .unset, .unset, .unset, .unset] [(.int (2 : Int32)), (.ref x)] := by
  refine own_iconst (v := 1) (pc2 := 13) d9_12 rfl rfl ?_
  refine own_isub (pc2 := 14) d9_13 rfl (v := (2 : Int32)) (by decide) ?_
  exact own_refl
theorem own_po3_4 (x : Addr) (n0 : Int32) :
    own_Go own_K9 prog_51_method_6_code 17 #[.val (.ref x), .val (.int n0), .unset, .unset, .unset, .unset, .unset, .unset, .unset] [] 18 #[.val (.ref x), .val (.int n0), .unset, .unset, .unset, .unset, .unset, .unset, .unset] [(.ref x)] := by
  refine own_aloadN (pc2 := 18) d9_17 rfl rfl rfl ?_
  exact own_refl
theorem own_po3_5 (x : Addr) (n0 : Int32) (an : Addr) :
    own_Go own_K9 prog_51_method_6_code 21 #[.val (.ref x), .val (.int n0), .unset, .unset, .unset, .unset, .unset, .unset, .unset] [(.ref an)] 22 #[.val (.ref x), .val (.int n0), .unset, .unset, .unset, .unset, .unset, .unset, .unset] [(.ref x), (.ref an)] := by
  refine own_aloadN (pc2 := 22) d9_21 rfl rfl rfl ?_
  exact own_refl
theorem own_po3_6 (x : Addr) (n0 : Int32) (n2 : Int32) :
    own_Go own_K9 prog_51_method_6_code 26 #[.val (.ref x), .val (.int n0), .unset, .unset, .unset, .unset, .unset, .unset, .unset] [(.int n2)] 28 #[.val (.ref x), .val (.int n0), .val (.int n2), .unset, .unset, .unset, .unset, .unset, .unset] [(.ref x)] := by
  refine own_istoreN (pc2 := 27) d9_26 rfl (L' := #[.val (.ref x), .val (.int n0), .val (.int n2), .unset, .unset, .unset, .unset, .unset, .unset]) rfl ?_
  refine own_aloadN (pc2 := 28) d9_27 rfl rfl rfl ?_
  exact own_refl
theorem own_po3_7 (x : Addr) (n0 : Int32) (n2 : Int32) (ad : Addr) :
    own_Go own_K9 prog_51_method_6_code 31 #[.val (.ref x), .val (.int n0), .val (.int n2), .unset, .unset, .unset, .unset, .unset, .unset] [(.ref ad)] 32 #[.val (.ref x), .val (.int n0), .val (.int n2), .unset, .unset, .unset, .unset, .unset, .unset] [(.ref x), (.ref ad)] := by
  refine own_aloadN (pc2 := 32) d9_31 rfl rfl rfl ?_
  exact own_refl
theorem own_po3_8 (x : Addr) (n0 : Int32) (n2 : Int32) (d2 : UInt64) :
    own_Go own_K9 prog_51_method_6_code 36 #[.val (.ref x), .val (.int n0), .val (.int n2), .unset, .unset, .unset, .unset, .unset, .unset] [(.double d2)] 38 #[.val (.ref x), .val (.int n0), .val (.int n2), .val (.double d2), .second, .unset, .unset, .unset, .unset] [(.ref x)] := by
  refine own_dstoreN (pc2 := 37) d9_36 rfl (L' := #[.val (.ref x), .val (.int n0), .val (.int n2), .val (.double d2), .second, .unset, .unset, .unset, .unset]) rfl ?_
  refine own_aloadN (pc2 := 38) d9_37 rfl rfl rfl ?_
  exact own_refl
theorem own_po3_9 (x : Addr) (n0 : Int32) (n2 : Int32) (d2 : UInt64) (ar : Addr) :
    own_Go own_K9 prog_51_method_6_code 41 #[.val (.ref x), .val (.int n0), .val (.int n2), .val (.double d2), .second, .unset, .unset, .unset, .unset] [(.ref ar)] 42 #[.val (.ref x), .val (.int n0), .val (.int n2), .val (.double d2), .second, .unset, .unset, .unset, .unset] [(.ref x), (.ref ar)] := by
  refine own_aloadN (pc2 := 42) d9_41 rfl rfl rfl ?_
  exact own_refl
theorem own_po3_10 (x : Addr) (n0 : Int32) (n2 : Int32) (d2 : UInt64) (r2 : UInt64) :
    own_Go own_K9 prog_51_method_6_code 46 #[.val (.ref x), .val (.int n0), .val (.int n2), .val (.double d2), .second, .unset, .unset, .unset, .unset] [(.double r2)] 58 #[.val (.ref x), .val (.int n0), .val (.int n2), .val (.double d2), .second, .val (.double r2), .second, .val (.int (0 : Int32)), .unset] [(.ref x), (.int (1 : Int32))] := by
  refine own_dstore (pc2 := 48) d9_46 rfl (L' := #[.val (.ref x), .val (.int n0), .val (.int n2), .val (.double d2), .second, .val (.double r2), .second, .unset, .unset]) rfl ?_
  refine own_iconst (v := 0) (pc2 := 49) d9_48 rfl rfl ?_
  refine own_istore (pc2 := 51) d9_49 rfl (L' := #[.val (.ref x), .val (.int n0), .val (.int n2), .val (.double d2), .second, .val (.double r2), .second, .val (.int (0 : Int32)), .unset]) rfl ?_
  refine own_iconst (v := 2) (pc2 := 52) d9_51 rfl rfl ?_
  refine own_iload (pc2 := 54) d9_52 rfl rfl ?_
  refine own_imul (pc2 := 55) d9_54 rfl (v := (0 : Int32)) (by decide) ?_
  refine own_iconst (v := 1) (pc2 := 56) d9_55 rfl rfl ?_
  refine own_iadd (pc2 := 57) d9_56 rfl (v := (1 : Int32)) (by decide) ?_
  refine own_aloadN (pc2 := 58) d9_57 rfl rfl rfl ?_
  exact own_refl
theorem own_po3_11 (x : Addr) (n0 : Int32) (n2 : Int32) (d2 : UInt64) (r2 : UInt64) :
    own_Go own_K9 prog_51_method_6_code 61 #[.val (.ref x), .val (.int n0), .val (.int n2), .val (.double d2), .second, .val (.double r2), .second, .val (.int (0 : Int32)), .unset] [(.int (2 : Int32)), (.int (1 : Int32))] 77 #[.val (.ref x), .val (.int n0), .val (.int n2), .val (.double d2), .second, .val (.double r2), .second, .val (.int (0 : Int32)), .val (.int (1 : Int32))] [(.ref x), (.int (2 : Int32))] := by
  refine own_icmpNo (pc2 := 64) d9_61 rfl (by decide) ?_
  refine own_iconst (v := 2) (pc2 := 65) d9_64 rfl rfl ?_
  refine own_iload (pc2 := 67) d9_65 rfl rfl ?_
  refine own_imul (pc2 := 68) d9_67 rfl (v := (0 : Int32)) (by decide) ?_
  refine own_iconst (v := 1) (pc2 := 69) d9_68 rfl rfl ?_
  refine own_iadd (pc2 := 70) d9_69 rfl (v := (1 : Int32)) (by decide) ?_
  refine own_istore (pc2 := 72) d9_70 rfl (L' := #[.val (.ref x), .val (.int n0), .val (.int n2), .val (.double d2), .second, .val (.double r2), .second, .val (.int (0 : Int32)), .val (.int (1 : Int32))]) rfl ?_
  refine own_iload (pc2 := 74) d9_72 rfl rfl ?_
  refine own_iconst (v := 1) (pc2 := 75) d9_74 rfl rfl ?_
  refine own_iadd (pc2 := 76) d9_75 rfl (v := (2 : Int32)) (by decide) ?_
  refine own_aloadN (pc2 := 77) d9_76 rfl rfl rfl ?_
  exact own_refl
theorem own_po3_12 (x : Addr) (n0 : Int32) (n2 : Int32) (d2 : UInt64) (r2 : UInt64) :
    own_Go own_K9 prog_51_method_6_code 80 #[.val (.ref x), .val (.int n0), .val (.int n2), .val (.double d2), .second, .val (.double r2), .second, .val (.int (0 : Int32)), .val (.int (1 : Int32))] [(.int (2 : Int32)), (.int (2 : Int32))] 125 #[.val (.ref x), .val (.int n0), .val (.int n2), .val (.double d2), .second, .val (.double r2), .second, .val (.int (0 : Int32)), .val (.int (1 : Int32))] [(.ref x)] := by
  refine own_icmpYes (pc' := 124) d9_80 (by decide) (by decide) (by decide) ?_
  refine own_aloadN (pc2 := 125) d9_124 rfl rfl rfl ?_
  exact own_refl
theorem own_po3_13 (x : Addr) (n0 : Int32) (n2 : Int32) (d2 : UInt64) (r2 : UInt64) (ad : Addr) :
    own_Go own_K9 prog_51_method_6_code 128 #[.val (.ref x), .val (.int n0), .val (.int n2), .val (.double d2), .second, .val (.double r2), .second, .val (.int (0 : Int32)), .val (.int (1 : Int32))] [(.ref ad)] 130 #[.val (.ref x), .val (.int n0), .val (.int n2), .val (.double d2), .second, .val (.double r2), .second, .val (.int (0 : Int32)), .val (.int (1 : Int32))] [(.int (1 : Int32)), (.ref ad)] := by
  refine own_iload (pc2 := 130) d9_128 rfl rfl ?_
  exact own_refl
theorem own_po3_14 (x : Addr) (n0 : Int32) (n2 : Int32) (d2 : UInt64) (r2 : UInt64) (d1 : UInt64) :
    own_Go own_K9 prog_51_method_6_code 131 #[.val (.ref x), .val (.int n0), .val (.int n2), .val (.double d2), .second, .val (.double r2), .second, .val (.int (0 : Int32)), .val (.int (1 : Int32))] [(.double d1)] 132 #[.val (.ref x), .val (.int n0), .val (.int n2), .val (.double d2), .second, .val (.double r2), .second, .val (.int (0 : Int32)), .val (.int (1 : Int32))] [(.ref x), (.double d1)] := by
  refine own_aloadN (pc2 := 132) d9_131 rfl rfl rfl ?_
  exact own_refl
theorem own_po3_15 (x : Addr) (n0 : Int32) (n2 : Int32) (d2 : UInt64) (r2 : UInt64) (ar : Addr) (d1 : UInt64) :
    own_Go own_K9 prog_51_method_6_code 135 #[.val (.ref x), .val (.int n0), .val (.int n2), .val (.double d2), .second, .val (.double r2), .second, .val (.int (0 : Int32)), .val (.int (1 : Int32))] [(.ref ar), (.double d1)] 137 #[.val (.ref x), .val (.int n0), .val (.int n2), .val (.double d2), .second, .val (.double r2), .second, .val (.int (0 : Int32)), .val (.int (1 : Int32))] [(.int (1 : Int32)), (.ref ar), (.double d1)] := by
  refine own_iload (pc2 := 137) d9_135 rfl rfl ?_
  exact own_refl
theorem own_po3_16 (x : Addr) (n0 : Int32) (n2 : Int32) (d2 : UInt64) (r2 : UInt64) (r1 : UInt64) (d1 : UInt64) :
    own_Go own_K9 prog_51_method_6_code 138 #[.val (.ref x), .val (.int n0), .val (.int n2), .val (.double d2), .second, .val (.double r2), .second, .val (.int (0 : Int32)), .val (.int (1 : Int32))] [(.double r1), (.double d1)] 141 #[.val (.ref x), .val (.int n0), .val (.int n2), .val (.double d2), .second, .val (.double r2), .second, .val (.int (0 : Int32)), .val (.int (1 : Int32))] [(.double r2), (.double d2), (.double r1), (.double d1)] := by
  refine own_dloadN (pc2 := 139) d9_138 rfl rfl ?_
  refine own_dload (pc2 := 141) d9_139 rfl rfl ?_
  exact own_refl
set_option maxRecDepth 65536 in
set_option maxHeartbeats 4000000 in
theorem own_poll3 (l : Launch) (Z : State) (a0 : Array Value) (hb0 : Heap) (hw : ∀ d ∈ tables_1, d.before a0 Z = true) (x : Addr) (an ad ar : Addr) (mm : Nat) (n0 n1 n2 : Int32) (d0 d1 d2 r0 r1 r2 : UInt64) :
    own_Met l Z a0 hb0 (⟨"com/example/recourse/recourse/network/NodeHeap", "poll", "()I"⟩ : MethodName) prog_51_method_6_code 9 (some .int) [] ({ frames := 1, cells := 0, slots := 0, locals := 40 } : Room) #[(.ref x)] [(x, own_O "com/example/recourse/recourse/network/NodeHeap" [("com/example/recourse/recourse/network/NodeHeap", "nodes", "[I", .ref an), ("com/example/recourse/recourse/network/NodeHeap", "distances", "[D", .ref ad), ("com/example/recourse/recourse/network/NodeHeap", "remainders", "[D", .ref ar), ("com/example/recourse/recourse/network/NodeHeap", "size", "I", .int 3)]), (an, own_A .int ((.int n0) :: (.int n1) :: (.int n2) :: List.replicate mm (.int 0))), (ad, own_A .double ((.double d0) :: (.double d1) :: (.double d2) :: List.replicate mm (.double 0))), (ar, own_A .double ((.double r0) :: (.double r1) :: (.double r2) :: List.replicate mm (.double 0)))] (fun v cs' => ∃ (m0 m1 m2 : Int32) (e0 e1 e2 f0 f1 f2 : UInt64), ∃ rv : Int32, v = some (.int rv) ∧ cs' = [(x, own_O "com/example/recourse/recourse/network/NodeHeap" [("com/example/recourse/recourse/network/NodeHeap", "nodes", "[I", .ref an), ("com/example/recourse/recourse/network/NodeHeap", "distances", "[D", .ref ad), ("com/example/recourse/recourse/network/NodeHeap", "remainders", "[D", .ref ar), ("com/example/recourse/recourse/network/NodeHeap", "size", "I", .int 2)]), (an, own_A .int ((.int m0) :: (.int m1) :: (.int m2) :: List.replicate mm (.int 0))), (ad, own_A .double ((.double e0) :: (.double e1) :: (.double e2) :: List.replicate mm (.double 0))), (ar, own_A .double ((.double f0) :: (.double f1) :: (.double f2) :: List.replicate mm (.double 0)))]) := by
  refine own_met_of (L0 := #[.val (.ref x), .unset, .unset, .unset, .unset, .unset, .unset, .unset, .unset]) (plainFor_of_name own_pn9) (fun m => own_ef9 m x) ?_
  intro p e s m below meth c T0 hx hZ hown hby hml hnm H0
  obtain ⟨Tpo3_1, Hpo3_1, stpo3_1⟩ := own_getF H0 hx hZ hown (hw _ (List.mem_of_getElem? (i := 14) rfl)) 0 0 rfl rfl (g := (mkF m 1 #[.val (.ref x), .unset, .unset, .unset, .unset, .unset, .unset, .unset, .unset] [(.ref x)])) rfl rfl (hb hby d9_1)
  change own_S _ _ _ _ _ _ _ _ _ _ _ _ _ _ [(x, own_O "com/example/recourse/recourse/network/NodeHeap" [("com/example/recourse/recourse/network/NodeHeap", "nodes", "[I", .ref an), ("com/example/recourse/recourse/network/NodeHeap", "distances", "[D", .ref ad), ("com/example/recourse/recourse/network/NodeHeap", "remainders", "[D", .ref ar), ("com/example/recourse/recourse/network/NodeHeap", "size", "I", .int 3)]), (an, own_A .int ((.int n0) :: (.int n1) :: (.int n2) :: List.replicate mm (.int 0))), (ad, own_A .double ((.double d0) :: (.double d1) :: (.double d2) :: List.replicate mm (.double 0))), (ar, own_A .double ((.double r0) :: (.double r1) :: (.double r2) :: List.replicate mm (.double 0)))] _ _ at Hpo3_1
  obtain ⟨Tpo3_3, Hpo3_3, stpo3_3⟩ := own_getF Hpo3_1 hx hZ hown (hw _ (List.mem_of_getElem? (i := 26) rfl)) 0 3 rfl rfl (g := (mkF m 9 #[.val (.ref x), .val (.int n0), .unset, .unset, .unset, .unset, .unset, .unset, .unset] [(.ref x), (.ref x)])) rfl rfl (hb hby d9_9)
  change own_S _ _ _ _ _ _ _ _ _ _ _ _ _ _ [(x, own_O "com/example/recourse/recourse/network/NodeHeap" [("com/example/recourse/recourse/network/NodeHeap", "nodes", "[I", .ref an), ("com/example/recourse/recourse/network/NodeHeap", "distances", "[D", .ref ad), ("com/example/recourse/recourse/network/NodeHeap", "remainders", "[D", .ref ar), ("com/example/recourse/recourse/network/NodeHeap", "size", "I", .int 3)]), (an, own_A .int ((.int n0) :: (.int n1) :: (.int n2) :: List.replicate mm (.int 0))), (ad, own_A .double ((.double d0) :: (.double d1) :: (.double d2) :: List.replicate mm (.double 0))), (ar, own_A .double ((.double r0) :: (.double r1) :: (.double r2) :: List.replicate mm (.double 0)))] _ _ at Hpo3_3
  obtain ⟨Tpo3_4, Hpo3_4, stpo3_4⟩ := own_putF Hpo3_3 hx hZ hown (hw _ (List.mem_of_getElem? (i := 26) rfl)) 0 3 rfl rfl (Or.inl (hw _ (List.mem_of_getElem? (i := 27) rfl))) (hw _ (List.mem_of_getElem? (i := 1) rfl)) (ty := .int) (by decide) rfl rfl (g := (mkF m 14 #[.val (.ref x), .val (.int n0), .unset, .unset, .unset, .unset, .unset, .unset, .unset] [(.int (2 : Int32)), (.ref x)])) rfl rfl (hb hby d9_14)
  change own_S _ _ _ _ _ _ _ _ _ _ _ _ _ _ [(x, own_O "com/example/recourse/recourse/network/NodeHeap" [("com/example/recourse/recourse/network/NodeHeap", "nodes", "[I", .ref an), ("com/example/recourse/recourse/network/NodeHeap", "distances", "[D", .ref ad), ("com/example/recourse/recourse/network/NodeHeap", "remainders", "[D", .ref ar), ("com/example/recourse/recourse/network/NodeHeap", "size", "I", .int (2 : Int32))]), (an, own_A .int ((.int n0) :: (.int n1) :: (.int n2) :: List.replicate mm (.int 0))), (ad, own_A .double ((.double d0) :: (.double d1) :: (.double d2) :: List.replicate mm (.double 0))), (ar, own_A .double ((.double r0) :: (.double r1) :: (.double r2) :: List.replicate mm (.double 0)))] _ _ at Hpo3_4
  obtain ⟨Tpo3_5, Hpo3_5, stpo3_5⟩ := own_getF Hpo3_4 hx hZ hown (hw _ (List.mem_of_getElem? (i := 14) rfl)) 0 0 rfl rfl (g := (mkF m 18 #[.val (.ref x), .val (.int n0), .unset, .unset, .unset, .unset, .unset, .unset, .unset] [(.ref x)])) rfl rfl (hb hby d9_18)
  change own_S _ _ _ _ _ _ _ _ _ _ _ _ _ _ [(x, own_O "com/example/recourse/recourse/network/NodeHeap" [("com/example/recourse/recourse/network/NodeHeap", "nodes", "[I", .ref an), ("com/example/recourse/recourse/network/NodeHeap", "distances", "[D", .ref ad), ("com/example/recourse/recourse/network/NodeHeap", "remainders", "[D", .ref ar), ("com/example/recourse/recourse/network/NodeHeap", "size", "I", .int (2 : Int32))]), (an, own_A .int ((.int n0) :: (.int n1) :: (.int n2) :: List.replicate mm (.int 0))), (ad, own_A .double ((.double d0) :: (.double d1) :: (.double d2) :: List.replicate mm (.double 0))), (ar, own_A .double ((.double r0) :: (.double r1) :: (.double r2) :: List.replicate mm (.double 0)))] _ _ at Hpo3_5
  obtain ⟨Tpo3_6, Hpo3_6, stpo3_6⟩ := own_getF Hpo3_5 hx hZ hown (hw _ (List.mem_of_getElem? (i := 26) rfl)) 0 3 rfl rfl (g := (mkF m 22 #[.val (.ref x), .val (.int n0), .unset, .unset, .unset, .unset, .unset, .unset, .unset] [(.ref x), (.ref an)])) rfl rfl (hb hby d9_22)
  change own_S _ _ _ _ _ _ _ _ _ _ _ _ _ _ [(x, own_O "com/example/recourse/recourse/network/NodeHeap" [("com/example/recourse/recourse/network/NodeHeap", "nodes", "[I", .ref an), ("com/example/recourse/recourse/network/NodeHeap", "distances", "[D", .ref ad), ("com/example/recourse/recourse/network/NodeHeap", "remainders", "[D", .ref ar), ("com/example/recourse/recourse/network/NodeHeap", "size", "I", .int (2 : Int32))]), (an, own_A .int ((.int n0) :: (.int n1) :: (.int n2) :: List.replicate mm (.int 0))), (ad, own_A .double ((.double d0) :: (.double d1) :: (.double d2) :: List.replicate mm (.double 0))), (ar, own_A .double ((.double r0) :: (.double r1) :: (.double r2) :: List.replicate mm (.double 0)))] _ _ at Hpo3_6
  obtain ⟨Tpo3_8, Hpo3_8, stpo3_8⟩ := own_getF Hpo3_6 hx hZ hown (hw _ (List.mem_of_getElem? (i := 17) rfl)) 0 1 rfl rfl (g := (mkF m 28 #[.val (.ref x), .val (.int n0), .val (.int n2), .unset, .unset, .unset, .unset, .unset, .unset] [(.ref x)])) rfl rfl (hb hby d9_28)
  change own_S _ _ _ _ _ _ _ _ _ _ _ _ _ _ [(x, own_O "com/example/recourse/recourse/network/NodeHeap" [("com/example/recourse/recourse/network/NodeHeap", "nodes", "[I", .ref an), ("com/example/recourse/recourse/network/NodeHeap", "distances", "[D", .ref ad), ("com/example/recourse/recourse/network/NodeHeap", "remainders", "[D", .ref ar), ("com/example/recourse/recourse/network/NodeHeap", "size", "I", .int (2 : Int32))]), (an, own_A .int ((.int n0) :: (.int n1) :: (.int n2) :: List.replicate mm (.int 0))), (ad, own_A .double ((.double d0) :: (.double d1) :: (.double d2) :: List.replicate mm (.double 0))), (ar, own_A .double ((.double r0) :: (.double r1) :: (.double r2) :: List.replicate mm (.double 0)))] _ _ at Hpo3_8
  obtain ⟨Tpo3_9, Hpo3_9, stpo3_9⟩ := own_getF Hpo3_8 hx hZ hown (hw _ (List.mem_of_getElem? (i := 26) rfl)) 0 3 rfl rfl (g := (mkF m 32 #[.val (.ref x), .val (.int n0), .val (.int n2), .unset, .unset, .unset, .unset, .unset, .unset] [(.ref x), (.ref ad)])) rfl rfl (hb hby d9_32)
  change own_S _ _ _ _ _ _ _ _ _ _ _ _ _ _ [(x, own_O "com/example/recourse/recourse/network/NodeHeap" [("com/example/recourse/recourse/network/NodeHeap", "nodes", "[I", .ref an), ("com/example/recourse/recourse/network/NodeHeap", "distances", "[D", .ref ad), ("com/example/recourse/recourse/network/NodeHeap", "remainders", "[D", .ref ar), ("com/example/recourse/recourse/network/NodeHeap", "size", "I", .int (2 : Int32))]), (an, own_A .int ((.int n0) :: (.int n1) :: (.int n2) :: List.replicate mm (.int 0))), (ad, own_A .double ((.double d0) :: (.double d1) :: (.double d2) :: List.replicate mm (.double 0))), (ar, own_A .double ((.double r0) :: (.double r1) :: (.double r2) :: List.replicate mm (.double 0)))] _ _ at Hpo3_9
  obtain ⟨Tpo3_11, Hpo3_11, stpo3_11⟩ := own_getF Hpo3_9 hx hZ hown (hw _ (List.mem_of_getElem? (i := 19) rfl)) 0 2 rfl rfl (g := (mkF m 38 #[.val (.ref x), .val (.int n0), .val (.int n2), .val (.double d2), .second, .unset, .unset, .unset, .unset] [(.ref x)])) rfl rfl (hb hby d9_38)
  change own_S _ _ _ _ _ _ _ _ _ _ _ _ _ _ [(x, own_O "com/example/recourse/recourse/network/NodeHeap" [("com/example/recourse/recourse/network/NodeHeap", "nodes", "[I", .ref an), ("com/example/recourse/recourse/network/NodeHeap", "distances", "[D", .ref ad), ("com/example/recourse/recourse/network/NodeHeap", "remainders", "[D", .ref ar), ("com/example/recourse/recourse/network/NodeHeap", "size", "I", .int (2 : Int32))]), (an, own_A .int ((.int n0) :: (.int n1) :: (.int n2) :: List.replicate mm (.int 0))), (ad, own_A .double ((.double d0) :: (.double d1) :: (.double d2) :: List.replicate mm (.double 0))), (ar, own_A .double ((.double r0) :: (.double r1) :: (.double r2) :: List.replicate mm (.double 0)))] _ _ at Hpo3_11
  obtain ⟨Tpo3_12, Hpo3_12, stpo3_12⟩ := own_getF Hpo3_11 hx hZ hown (hw _ (List.mem_of_getElem? (i := 26) rfl)) 0 3 rfl rfl (g := (mkF m 42 #[.val (.ref x), .val (.int n0), .val (.int n2), .val (.double d2), .second, .unset, .unset, .unset, .unset] [(.ref x), (.ref ar)])) rfl rfl (hb hby d9_42)
  change own_S _ _ _ _ _ _ _ _ _ _ _ _ _ _ [(x, own_O "com/example/recourse/recourse/network/NodeHeap" [("com/example/recourse/recourse/network/NodeHeap", "nodes", "[I", .ref an), ("com/example/recourse/recourse/network/NodeHeap", "distances", "[D", .ref ad), ("com/example/recourse/recourse/network/NodeHeap", "remainders", "[D", .ref ar), ("com/example/recourse/recourse/network/NodeHeap", "size", "I", .int (2 : Int32))]), (an, own_A .int ((.int n0) :: (.int n1) :: (.int n2) :: List.replicate mm (.int 0))), (ad, own_A .double ((.double d0) :: (.double d1) :: (.double d2) :: List.replicate mm (.double 0))), (ar, own_A .double ((.double r0) :: (.double r1) :: (.double r2) :: List.replicate mm (.double 0)))] _ _ at Hpo3_12
  obtain ⟨Tpo3_14, Hpo3_14, stpo3_14⟩ := own_getF Hpo3_12 hx hZ hown (hw _ (List.mem_of_getElem? (i := 26) rfl)) 0 3 rfl rfl (g := (mkF m 58 #[.val (.ref x), .val (.int n0), .val (.int n2), .val (.double d2), .second, .val (.double r2), .second, .val (.int (0 : Int32)), .unset] [(.ref x), (.int (1 : Int32))])) rfl rfl (hb hby d9_58)
  change own_S _ _ _ _ _ _ _ _ _ _ _ _ _ _ [(x, own_O "com/example/recourse/recourse/network/NodeHeap" [("com/example/recourse/recourse/network/NodeHeap", "nodes", "[I", .ref an), ("com/example/recourse/recourse/network/NodeHeap", "distances", "[D", .ref ad), ("com/example/recourse/recourse/network/NodeHeap", "remainders", "[D", .ref ar), ("com/example/recourse/recourse/network/NodeHeap", "size", "I", .int (2 : Int32))]), (an, own_A .int ((.int n0) :: (.int n1) :: (.int n2) :: List.replicate mm (.int 0))), (ad, own_A .double ((.double d0) :: (.double d1) :: (.double d2) :: List.replicate mm (.double 0))), (ar, own_A .double ((.double r0) :: (.double r1) :: (.double r2) :: List.replicate mm (.double 0)))] _ _ at Hpo3_14
  obtain ⟨Tpo3_15, Hpo3_15, stpo3_15⟩ := own_getF Hpo3_14 hx hZ hown (hw _ (List.mem_of_getElem? (i := 26) rfl)) 0 3 rfl rfl (g := (mkF m 77 #[.val (.ref x), .val (.int n0), .val (.int n2), .val (.double d2), .second, .val (.double r2), .second, .val (.int (0 : Int32)), .val (.int (1 : Int32))] [(.ref x), (.int (2 : Int32))])) rfl rfl (hb hby d9_77)
  change own_S _ _ _ _ _ _ _ _ _ _ _ _ _ _ [(x, own_O "com/example/recourse/recourse/network/NodeHeap" [("com/example/recourse/recourse/network/NodeHeap", "nodes", "[I", .ref an), ("com/example/recourse/recourse/network/NodeHeap", "distances", "[D", .ref ad), ("com/example/recourse/recourse/network/NodeHeap", "remainders", "[D", .ref ar), ("com/example/recourse/recourse/network/NodeHeap", "size", "I", .int (2 : Int32))]), (an, own_A .int ((.int n0) :: (.int n1) :: (.int n2) :: List.replicate mm (.int 0))), (ad, own_A .double ((.double d0) :: (.double d1) :: (.double d2) :: List.replicate mm (.double 0))), (ar, own_A .double ((.double r0) :: (.double r1) :: (.double r2) :: List.replicate mm (.double 0)))] _ _ at Hpo3_15
  obtain ⟨Tpo3_16, Hpo3_16, stpo3_16⟩ := own_getF Hpo3_15 hx hZ hown (hw _ (List.mem_of_getElem? (i := 17) rfl)) 0 1 rfl rfl (g := (mkF m 125 #[.val (.ref x), .val (.int n0), .val (.int n2), .val (.double d2), .second, .val (.double r2), .second, .val (.int (0 : Int32)), .val (.int (1 : Int32))] [(.ref x)])) rfl rfl (hb hby d9_125)
  change own_S _ _ _ _ _ _ _ _ _ _ _ _ _ _ [(x, own_O "com/example/recourse/recourse/network/NodeHeap" [("com/example/recourse/recourse/network/NodeHeap", "nodes", "[I", .ref an), ("com/example/recourse/recourse/network/NodeHeap", "distances", "[D", .ref ad), ("com/example/recourse/recourse/network/NodeHeap", "remainders", "[D", .ref ar), ("com/example/recourse/recourse/network/NodeHeap", "size", "I", .int (2 : Int32))]), (an, own_A .int ((.int n0) :: (.int n1) :: (.int n2) :: List.replicate mm (.int 0))), (ad, own_A .double ((.double d0) :: (.double d1) :: (.double d2) :: List.replicate mm (.double 0))), (ar, own_A .double ((.double r0) :: (.double r1) :: (.double r2) :: List.replicate mm (.double 0)))] _ _ at Hpo3_16
  obtain ⟨Tpo3_18, Hpo3_18, stpo3_18⟩ := own_getF Hpo3_16 hx hZ hown (hw _ (List.mem_of_getElem? (i := 19) rfl)) 0 2 rfl rfl (g := (mkF m 132 #[.val (.ref x), .val (.int n0), .val (.int n2), .val (.double d2), .second, .val (.double r2), .second, .val (.int (0 : Int32)), .val (.int (1 : Int32))] [(.ref x), (.double d1)])) rfl rfl (hb hby d9_132)
  change own_S _ _ _ _ _ _ _ _ _ _ _ _ _ _ [(x, own_O "com/example/recourse/recourse/network/NodeHeap" [("com/example/recourse/recourse/network/NodeHeap", "nodes", "[I", .ref an), ("com/example/recourse/recourse/network/NodeHeap", "distances", "[D", .ref ad), ("com/example/recourse/recourse/network/NodeHeap", "remainders", "[D", .ref ar), ("com/example/recourse/recourse/network/NodeHeap", "size", "I", .int (2 : Int32))]), (an, own_A .int ((.int n0) :: (.int n1) :: (.int n2) :: List.replicate mm (.int 0))), (ad, own_A .double ((.double d0) :: (.double d1) :: (.double d2) :: List.replicate mm (.double 0))), (ar, own_A .double ((.double r0) :: (.double r1) :: (.double r2) :: List.replicate mm (.double 0)))] _ _ at Hpo3_18
  obtain ⟨Tpo3_20, vpo3_20_, cspo3_20_, qpo3_20, Hpo3_20, stpo3_20⟩ := own_callS Hpo3_18 hx hZ hown (hw _ (List.mem_of_getElem? (i := 38) rfl)) (hw _ (List.mem_of_getElem? (i := 39) rfl)) (hw _ (List.mem_of_getElem? (i := 40) rfl)) (hw _ (List.mem_of_getElem? (i := 41) rfl)) (by decide) (argsL := [(.double d1), (.double r1), (.double d2), (.double r2)]) (rest := []) (W := 0) (own_below l Z a0 hb0 hw _ _ _ _ _) (by decide) (by decide) (by decide) (by decide) (g := (mkF m 141 #[.val (.ref x), .val (.int n0), .val (.int n2), .val (.double d2), .second, .val (.double r2), .second, .val (.int (0 : Int32)), .val (.int (1 : Int32))] [(.double r2), (.double d2), (.double r1), (.double d1)])) rfl (by rw [hml]; rfl) (lenOf own_pd3 rfl) rfl (by show 2 * 0 + _ ≤ _; exact Nat.le_of_eq rfl) (hb hby d9_141)
  obtain ⟨⟨b, rfl, hbb⟩, rfl⟩ := qpo3_20
  change own_S _ _ _ _ _ _ _ _ _ _ _ _ _ _ [(x, own_O "com/example/recourse/recourse/network/NodeHeap" [("com/example/recourse/recourse/network/NodeHeap", "nodes", "[I", .ref an), ("com/example/recourse/recourse/network/NodeHeap", "distances", "[D", .ref ad), ("com/example/recourse/recourse/network/NodeHeap", "remainders", "[D", .ref ar), ("com/example/recourse/recourse/network/NodeHeap", "size", "I", .int (2 : Int32))]), (an, own_A .int ((.int n0) :: (.int n1) :: (.int n2) :: List.replicate mm (.int 0))), (ad, own_A .double ((.double d0) :: (.double d1) :: (.double d2) :: List.replicate mm (.double 0))), (ar, own_A .double ((.double r0) :: (.double r1) :: (.double r2) :: List.replicate mm (.double 0)))] _ _ at Hpo3_20
  rcases hbb with rfl | rfl
  · obtain ⟨Tpo3_A21, Hpo3_A21, stpo3_A21⟩ := own_getF Hpo3_20 hx hZ hown (hw _ (List.mem_of_getElem? (i := 14) rfl)) 0 0 rfl rfl (g := (mkF m 166 #[.val (.ref x), .val (.int n0), .val (.int n2), .val (.double d2), .second, .val (.double r2), .second, .val (.int (0 : Int32)), .val (.int (1 : Int32))] [(.ref x)])) rfl rfl (hb hby d9_166)
    change own_S _ _ _ _ _ _ _ _ _ _ _ _ _ _ [(x, own_O "com/example/recourse/recourse/network/NodeHeap" [("com/example/recourse/recourse/network/NodeHeap", "nodes", "[I", .ref an), ("com/example/recourse/recourse/network/NodeHeap", "distances", "[D", .ref ad), ("com/example/recourse/recourse/network/NodeHeap", "remainders", "[D", .ref ar), ("com/example/recourse/recourse/network/NodeHeap", "size", "I", .int (2 : Int32))]), (an, own_A .int ((.int n0) :: (.int n1) :: (.int n2) :: List.replicate mm (.int 0))), (ad, own_A .double ((.double d0) :: (.double d1) :: (.double d2) :: List.replicate mm (.double 0))), (ar, own_A .double ((.double r0) :: (.double r1) :: (.double r2) :: List.replicate mm (.double 0)))] _ _ at Hpo3_A21
    obtain ⟨Tpo3_A22, Hpo3_A22, stpo3_A22⟩ := own_iastore Hpo3_A21 hx hZ 1 0 rfl (by decide) (Nat.le_of_ble_eq_true rfl) (g := (mkF m 172 #[.val (.ref x), .val (.int n0), .val (.int n2), .val (.double d2), .second, .val (.double r2), .second, .val (.int (0 : Int32)), .val (.int (1 : Int32))] [(.int n2), (.int (0 : Int32)), (.ref an)])) rfl rfl (hb hby d9_172)
    change own_S _ _ _ _ _ _ _ _ _ _ _ _ _ _ [(x, own_O "com/example/recourse/recourse/network/NodeHeap" [("com/example/recourse/recourse/network/NodeHeap", "nodes", "[I", .ref an), ("com/example/recourse/recourse/network/NodeHeap", "distances", "[D", .ref ad), ("com/example/recourse/recourse/network/NodeHeap", "remainders", "[D", .ref ar), ("com/example/recourse/recourse/network/NodeHeap", "size", "I", .int (2 : Int32))]), (an, own_A .int ((.int n2) :: (.int n1) :: (.int n2) :: List.replicate mm (.int 0))), (ad, own_A .double ((.double d0) :: (.double d1) :: (.double d2) :: List.replicate mm (.double 0))), (ar, own_A .double ((.double r0) :: (.double r1) :: (.double r2) :: List.replicate mm (.double 0)))] _ _ at Hpo3_A22
    obtain ⟨Tpo3_A23, Hpo3_A23, stpo3_A23⟩ := own_getF Hpo3_A22 hx hZ hown (hw _ (List.mem_of_getElem? (i := 17) rfl)) 0 1 rfl rfl (g := (mkF m 174 #[.val (.ref x), .val (.int n0), .val (.int n2), .val (.double d2), .second, .val (.double r2), .second, .val (.int (0 : Int32)), .val (.int (1 : Int32))] [(.ref x)])) rfl rfl (hb hby d9_174)
    change own_S _ _ _ _ _ _ _ _ _ _ _ _ _ _ [(x, own_O "com/example/recourse/recourse/network/NodeHeap" [("com/example/recourse/recourse/network/NodeHeap", "nodes", "[I", .ref an), ("com/example/recourse/recourse/network/NodeHeap", "distances", "[D", .ref ad), ("com/example/recourse/recourse/network/NodeHeap", "remainders", "[D", .ref ar), ("com/example/recourse/recourse/network/NodeHeap", "size", "I", .int (2 : Int32))]), (an, own_A .int ((.int n2) :: (.int n1) :: (.int n2) :: List.replicate mm (.int 0))), (ad, own_A .double ((.double d0) :: (.double d1) :: (.double d2) :: List.replicate mm (.double 0))), (ar, own_A .double ((.double r0) :: (.double r1) :: (.double r2) :: List.replicate mm (.double 0)))] _ _ at Hpo3_A23
    obtain ⟨Tpo3_A24, Hpo3_A24, stpo3_A24⟩ := own_dastore Hpo3_A23 hx hZ 2 0 rfl (by decide) (Nat.le_of_ble_eq_true rfl) (g := (mkF m 180 #[.val (.ref x), .val (.int n0), .val (.int n2), .val (.double d2), .second, .val (.double r2), .second, .val (.int (0 : Int32)), .val (.int (1 : Int32))] [(.double d2), (.int (0 : Int32)), (.ref ad)])) rfl rfl (hb hby d9_180)
    change own_S _ _ _ _ _ _ _ _ _ _ _ _ _ _ [(x, own_O "com/example/recourse/recourse/network/NodeHeap" [("com/example/recourse/recourse/network/NodeHeap", "nodes", "[I", .ref an), ("com/example/recourse/recourse/network/NodeHeap", "distances", "[D", .ref ad), ("com/example/recourse/recourse/network/NodeHeap", "remainders", "[D", .ref ar), ("com/example/recourse/recourse/network/NodeHeap", "size", "I", .int (2 : Int32))]), (an, own_A .int ((.int n2) :: (.int n1) :: (.int n2) :: List.replicate mm (.int 0))), (ad, own_A .double ((.double d2) :: (.double d1) :: (.double d2) :: List.replicate mm (.double 0))), (ar, own_A .double ((.double r0) :: (.double r1) :: (.double r2) :: List.replicate mm (.double 0)))] _ _ at Hpo3_A24
    obtain ⟨Tpo3_A25, Hpo3_A25, stpo3_A25⟩ := own_getF Hpo3_A24 hx hZ hown (hw _ (List.mem_of_getElem? (i := 19) rfl)) 0 2 rfl rfl (g := (mkF m 182 #[.val (.ref x), .val (.int n0), .val (.int n2), .val (.double d2), .second, .val (.double r2), .second, .val (.int (0 : Int32)), .val (.int (1 : Int32))] [(.ref x)])) rfl rfl (hb hby d9_182)
    change own_S _ _ _ _ _ _ _ _ _ _ _ _ _ _ [(x, own_O "com/example/recourse/recourse/network/NodeHeap" [("com/example/recourse/recourse/network/NodeHeap", "nodes", "[I", .ref an), ("com/example/recourse/recourse/network/NodeHeap", "distances", "[D", .ref ad), ("com/example/recourse/recourse/network/NodeHeap", "remainders", "[D", .ref ar), ("com/example/recourse/recourse/network/NodeHeap", "size", "I", .int (2 : Int32))]), (an, own_A .int ((.int n2) :: (.int n1) :: (.int n2) :: List.replicate mm (.int 0))), (ad, own_A .double ((.double d2) :: (.double d1) :: (.double d2) :: List.replicate mm (.double 0))), (ar, own_A .double ((.double r0) :: (.double r1) :: (.double r2) :: List.replicate mm (.double 0)))] _ _ at Hpo3_A25
    obtain ⟨Tpo3_A26, Hpo3_A26, stpo3_A26⟩ := own_dastore Hpo3_A25 hx hZ 3 0 rfl (by decide) (Nat.le_of_ble_eq_true rfl) (g := (mkF m 189 #[.val (.ref x), .val (.int n0), .val (.int n2), .val (.double d2), .second, .val (.double r2), .second, .val (.int (0 : Int32)), .val (.int (1 : Int32))] [(.double r2), (.int (0 : Int32)), (.ref ar)])) rfl rfl (hb hby d9_189)
    change own_S _ _ _ _ _ _ _ _ _ _ _ _ _ _ [(x, own_O "com/example/recourse/recourse/network/NodeHeap" [("com/example/recourse/recourse/network/NodeHeap", "nodes", "[I", .ref an), ("com/example/recourse/recourse/network/NodeHeap", "distances", "[D", .ref ad), ("com/example/recourse/recourse/network/NodeHeap", "remainders", "[D", .ref ar), ("com/example/recourse/recourse/network/NodeHeap", "size", "I", .int (2 : Int32))]), (an, own_A .int ((.int n2) :: (.int n1) :: (.int n2) :: List.replicate mm (.int 0))), (ad, own_A .double ((.double d2) :: (.double d1) :: (.double d2) :: List.replicate mm (.double 0))), (ar, own_A .double ((.double r2) :: (.double r1) :: (.double r2) :: List.replicate mm (.double 0)))] _ _ at Hpo3_A26
    refine ⟨_, _, _, _, 191, #[.val (.ref x), .val (.int n0), .val (.int n2), .val (.double d2), .second, .val (.double r2), .second, .val (.int (0 : Int32)), .val (.int (1 : Int32))], Hpo3_A26, by decide, by decide, Or.inr ⟨.int, (.int n0), [], .ireturn, rfl, ⟨n2, n1, n2, d2, d1, d2, r2, r1, r2, _, rfl, rfl⟩, d9_191, own_retI _, fun target q => ?_⟩⟩
    refine own_go H0 hx hZ hown hby hw own_K9_ok (own_po3_0 x) _ ?_
    refine stpo3_1 _ ?_
    refine own_go Hpo3_1 hx hZ hown hby hw own_K9_ok (own_po3_1 x an) _ ?_
    refine own_iaload Hpo3_1 hx hZ 1 0 rfl (by decide) rfl (g := (mkF m 5 #[.val (.ref x), .unset, .unset, .unset, .unset, .unset, .unset, .unset, .unset] [(.int (0 : Int32)), (.ref an)])) rfl rfl (hb hby d9_5) _ ?_
    refine own_go Hpo3_1 hx hZ hown hby hw own_K9_ok (own_po3_2 x n0) _ ?_
    refine stpo3_3 _ ?_
    refine own_go Hpo3_3 hx hZ hown hby hw own_K9_ok (own_po3_3 x n0) _ ?_
    refine stpo3_4 _ ?_
    refine own_go Hpo3_4 hx hZ hown hby hw own_K9_ok (own_po3_4 x n0) _ ?_
    refine stpo3_5 _ ?_
    refine own_go Hpo3_5 hx hZ hown hby hw own_K9_ok (own_po3_5 x n0 an) _ ?_
    refine stpo3_6 _ ?_
    refine own_iaload Hpo3_6 hx hZ 1 2 rfl (by decide) rfl (g := (mkF m 25 #[.val (.ref x), .val (.int n0), .unset, .unset, .unset, .unset, .unset, .unset, .unset] [(.int (2 : Int32)), (.ref an)])) rfl rfl (hb hby d9_25) _ ?_
    refine own_go Hpo3_6 hx hZ hown hby hw own_K9_ok (own_po3_6 x n0 n2) _ ?_
    refine stpo3_8 _ ?_
    refine own_go Hpo3_8 hx hZ hown hby hw own_K9_ok (own_po3_7 x n0 n2 ad) _ ?_
    refine stpo3_9 _ ?_
    refine own_daload Hpo3_9 hx hZ 2 2 rfl (by decide) rfl (g := (mkF m 35 #[.val (.ref x), .val (.int n0), .val (.int n2), .unset, .unset, .unset, .unset, .unset, .unset] [(.int (2 : Int32)), (.ref ad)])) rfl rfl (hb hby d9_35) _ ?_
    refine own_go Hpo3_9 hx hZ hown hby hw own_K9_ok (own_po3_8 x n0 n2 d2) _ ?_
    refine stpo3_11 _ ?_
    refine own_go Hpo3_11 hx hZ hown hby hw own_K9_ok (own_po3_9 x n0 n2 d2 ar) _ ?_
    refine stpo3_12 _ ?_
    refine own_daload Hpo3_12 hx hZ 3 2 rfl (by decide) rfl (g := (mkF m 45 #[.val (.ref x), .val (.int n0), .val (.int n2), .val (.double d2), .second, .unset, .unset, .unset, .unset] [(.int (2 : Int32)), (.ref ar)])) rfl rfl (hb hby d9_45) _ ?_
    refine own_go Hpo3_12 hx hZ hown hby hw own_K9_ok (own_po3_10 x n0 n2 d2 r2) _ ?_
    refine stpo3_14 _ ?_
    refine own_go Hpo3_14 hx hZ hown hby hw own_K9_ok (own_po3_11 x n0 n2 d2 r2) _ ?_
    refine stpo3_15 _ ?_
    refine own_go Hpo3_15 hx hZ hown hby hw own_K9_ok (own_po3_12 x n0 n2 d2 r2) _ ?_
    refine stpo3_16 _ ?_
    refine own_go Hpo3_16 hx hZ hown hby hw own_K9_ok (own_po3_13 x n0 n2 d2 r2 ad) _ ?_
    refine own_daload Hpo3_16 hx hZ 2 1 rfl (by decide) rfl (g := (mkF m 130 #[.val (.ref x), .val (.int n0), .val (.int n2), .val (.double d2), .second, .val (.double r2), .second, .val (.int (0 : Int32)), .val (.int (1 : Int32))] [(.int (1 : Int32)), (.ref ad)])) rfl rfl (hb hby d9_130) _ ?_
    refine own_go Hpo3_16 hx hZ hown hby hw own_K9_ok (own_po3_14 x n0 n2 d2 r2 d1) _ ?_
    refine stpo3_18 _ ?_
    refine own_go Hpo3_18 hx hZ hown hby hw own_K9_ok (own_po3_15 x n0 n2 d2 r2 ar d1) _ ?_
    refine own_daload Hpo3_18 hx hZ 3 1 rfl (by decide) rfl (g := (mkF m 137 #[.val (.ref x), .val (.int n0), .val (.int n2), .val (.double d2), .second, .val (.double r2), .second, .val (.int (0 : Int32)), .val (.int (1 : Int32))] [(.int (1 : Int32)), (.ref ar), (.double d1)])) rfl rfl (hb hby d9_137) _ ?_
    refine own_go Hpo3_18 hx hZ hown hby hw own_K9_ok (own_po3_16 x n0 n2 d2 r2 r1 d1) _ ?_
    refine stpo3_20 _ ?_
    refine own_go Hpo3_20 hx hZ hown hby hw own_K9_ok (own_po3_A17 x n0 n2 d2 r2) _ ?_
    refine stpo3_A21 _ ?_
    refine own_go Hpo3_A21 hx hZ hown hby hw own_K9_ok (own_po3_A18 x n0 n2 d2 r2 an) _ ?_
    refine stpo3_A22 _ ?_
    refine own_go Hpo3_A22 hx hZ hown hby hw own_K9_ok (own_po3_A19 x n0 n2 d2 r2) _ ?_
    refine stpo3_A23 _ ?_
    refine own_go Hpo3_A23 hx hZ hown hby hw own_K9_ok (own_po3_A20 x n0 n2 d2 r2 ad) _ ?_
    refine stpo3_A24 _ ?_
    refine own_go Hpo3_A24 hx hZ hown hby hw own_K9_ok (own_po3_A21 x n0 n2 d2 r2) _ ?_
    refine stpo3_A25 _ ?_
    refine own_go Hpo3_A25 hx hZ hown hby hw own_K9_ok (own_po3_A22 x n0 n2 d2 r2 ar) _ ?_
    refine stpo3_A26 _ ?_
    refine own_go Hpo3_A26 hx hZ hown hby hw own_K9_ok (own_po3_A23 x n0 n2 d2 r2) _ ?_
    exact q
  · obtain ⟨Tpo3_B21, vpo3_B21_, cspo3_B21_, qpo3_B21, Hpo3_B21, stpo3_B21⟩ := own_callPr Hpo3_20 hx hZ hown (hw _ (List.mem_of_getElem? (i := 42) rfl)) (hw _ (List.mem_of_getElem? (i := 43) rfl)) (hw _ (List.mem_of_getElem? (i := 44) rfl)) (hw _ (List.mem_of_getElem? (i := 1) rfl)) (hw _ (List.mem_of_getElem? (i := 2) rfl)) (hw _ (List.mem_of_getElem? (i := 45) rfl)) (by decide) (x := x) 0 rfl (argsL := [(.int (1 : Int32)), (.int (0 : Int32))]) (rest := []) (W := 0) (own_move10 l Z a0 hb0 hw x an ad ar mm n0 n1 n2 d0 d1 d2 r0 r1 r2 (2 : Int32)) (by decide) (by decide) (by decide) (by decide) (g := (mkF m 155 #[.val (.ref x), .val (.int n0), .val (.int n2), .val (.double d2), .second, .val (.double r2), .second, .val (.int (0 : Int32)), .val (.int (1 : Int32))] [(.int (0 : Int32)), (.int (1 : Int32)), (.ref x)])) rfl (by rw [hml]; rfl) (lenOf own_pd8 rfl) rfl (by show 2 * 0 + _ ≤ _; exact Nat.le_of_eq rfl) (hb hby d9_155)
    obtain ⟨rfl, rfl⟩ := qpo3_B21
    change own_S _ _ _ _ _ _ _ _ _ _ _ _ _ _ [(x, own_O "com/example/recourse/recourse/network/NodeHeap" [("com/example/recourse/recourse/network/NodeHeap", "nodes", "[I", .ref an), ("com/example/recourse/recourse/network/NodeHeap", "distances", "[D", .ref ad), ("com/example/recourse/recourse/network/NodeHeap", "remainders", "[D", .ref ar), ("com/example/recourse/recourse/network/NodeHeap", "size", "I", .int 2)]), (an, own_A .int ((.int n1) :: (.int n1) :: (.int n2) :: List.replicate mm (.int 0))), (ad, own_A .double ((.double d1) :: (.double d1) :: (.double d2) :: List.replicate mm (.double 0))), (ar, own_A .double ((.double r1) :: (.double r1) :: (.double r2) :: List.replicate mm (.double 0)))] _ _ at Hpo3_B21
    obtain ⟨Tpo3_B22, Hpo3_B22, stpo3_B22⟩ := own_getF Hpo3_B21 hx hZ hown (hw _ (List.mem_of_getElem? (i := 26) rfl)) 0 3 rfl rfl (g := (mkF m 58 #[.val (.ref x), .val (.int n0), .val (.int n2), .val (.double d2), .second, .val (.double r2), .second, .val (.int (1 : Int32)), .val (.int (1 : Int32))] [(.ref x), (.int (3 : Int32))])) rfl rfl (hb hby d9_58)
    change own_S _ _ _ _ _ _ _ _ _ _ _ _ _ _ [(x, own_O "com/example/recourse/recourse/network/NodeHeap" [("com/example/recourse/recourse/network/NodeHeap", "nodes", "[I", .ref an), ("com/example/recourse/recourse/network/NodeHeap", "distances", "[D", .ref ad), ("com/example/recourse/recourse/network/NodeHeap", "remainders", "[D", .ref ar), ("com/example/recourse/recourse/network/NodeHeap", "size", "I", .int 2)]), (an, own_A .int ((.int n1) :: (.int n1) :: (.int n2) :: List.replicate mm (.int 0))), (ad, own_A .double ((.double d1) :: (.double d1) :: (.double d2) :: List.replicate mm (.double 0))), (ar, own_A .double ((.double r1) :: (.double r1) :: (.double r2) :: List.replicate mm (.double 0)))] _ _ at Hpo3_B22
    obtain ⟨Tpo3_B23, Hpo3_B23, stpo3_B23⟩ := own_getF Hpo3_B22 hx hZ hown (hw _ (List.mem_of_getElem? (i := 14) rfl)) 0 0 rfl rfl (g := (mkF m 166 #[.val (.ref x), .val (.int n0), .val (.int n2), .val (.double d2), .second, .val (.double r2), .second, .val (.int (1 : Int32)), .val (.int (1 : Int32))] [(.ref x)])) rfl rfl (hb hby d9_166)
    change own_S _ _ _ _ _ _ _ _ _ _ _ _ _ _ [(x, own_O "com/example/recourse/recourse/network/NodeHeap" [("com/example/recourse/recourse/network/NodeHeap", "nodes", "[I", .ref an), ("com/example/recourse/recourse/network/NodeHeap", "distances", "[D", .ref ad), ("com/example/recourse/recourse/network/NodeHeap", "remainders", "[D", .ref ar), ("com/example/recourse/recourse/network/NodeHeap", "size", "I", .int 2)]), (an, own_A .int ((.int n1) :: (.int n1) :: (.int n2) :: List.replicate mm (.int 0))), (ad, own_A .double ((.double d1) :: (.double d1) :: (.double d2) :: List.replicate mm (.double 0))), (ar, own_A .double ((.double r1) :: (.double r1) :: (.double r2) :: List.replicate mm (.double 0)))] _ _ at Hpo3_B23
    obtain ⟨Tpo3_B24, Hpo3_B24, stpo3_B24⟩ := own_iastore Hpo3_B23 hx hZ 1 1 rfl (by decide) (Nat.le_of_ble_eq_true rfl) (g := (mkF m 172 #[.val (.ref x), .val (.int n0), .val (.int n2), .val (.double d2), .second, .val (.double r2), .second, .val (.int (1 : Int32)), .val (.int (1 : Int32))] [(.int n2), (.int (1 : Int32)), (.ref an)])) rfl rfl (hb hby d9_172)
    change own_S _ _ _ _ _ _ _ _ _ _ _ _ _ _ [(x, own_O "com/example/recourse/recourse/network/NodeHeap" [("com/example/recourse/recourse/network/NodeHeap", "nodes", "[I", .ref an), ("com/example/recourse/recourse/network/NodeHeap", "distances", "[D", .ref ad), ("com/example/recourse/recourse/network/NodeHeap", "remainders", "[D", .ref ar), ("com/example/recourse/recourse/network/NodeHeap", "size", "I", .int 2)]), (an, own_A .int ((.int n1) :: (.int n2) :: (.int n2) :: List.replicate mm (.int 0))), (ad, own_A .double ((.double d1) :: (.double d1) :: (.double d2) :: List.replicate mm (.double 0))), (ar, own_A .double ((.double r1) :: (.double r1) :: (.double r2) :: List.replicate mm (.double 0)))] _ _ at Hpo3_B24
    obtain ⟨Tpo3_B25, Hpo3_B25, stpo3_B25⟩ := own_getF Hpo3_B24 hx hZ hown (hw _ (List.mem_of_getElem? (i := 17) rfl)) 0 1 rfl rfl (g := (mkF m 174 #[.val (.ref x), .val (.int n0), .val (.int n2), .val (.double d2), .second, .val (.double r2), .second, .val (.int (1 : Int32)), .val (.int (1 : Int32))] [(.ref x)])) rfl rfl (hb hby d9_174)
    change own_S _ _ _ _ _ _ _ _ _ _ _ _ _ _ [(x, own_O "com/example/recourse/recourse/network/NodeHeap" [("com/example/recourse/recourse/network/NodeHeap", "nodes", "[I", .ref an), ("com/example/recourse/recourse/network/NodeHeap", "distances", "[D", .ref ad), ("com/example/recourse/recourse/network/NodeHeap", "remainders", "[D", .ref ar), ("com/example/recourse/recourse/network/NodeHeap", "size", "I", .int 2)]), (an, own_A .int ((.int n1) :: (.int n2) :: (.int n2) :: List.replicate mm (.int 0))), (ad, own_A .double ((.double d1) :: (.double d1) :: (.double d2) :: List.replicate mm (.double 0))), (ar, own_A .double ((.double r1) :: (.double r1) :: (.double r2) :: List.replicate mm (.double 0)))] _ _ at Hpo3_B25
    obtain ⟨Tpo3_B26, Hpo3_B26, stpo3_B26⟩ := own_dastore Hpo3_B25 hx hZ 2 1 rfl (by decide) (Nat.le_of_ble_eq_true rfl) (g := (mkF m 180 #[.val (.ref x), .val (.int n0), .val (.int n2), .val (.double d2), .second, .val (.double r2), .second, .val (.int (1 : Int32)), .val (.int (1 : Int32))] [(.double d2), (.int (1 : Int32)), (.ref ad)])) rfl rfl (hb hby d9_180)
    change own_S _ _ _ _ _ _ _ _ _ _ _ _ _ _ [(x, own_O "com/example/recourse/recourse/network/NodeHeap" [("com/example/recourse/recourse/network/NodeHeap", "nodes", "[I", .ref an), ("com/example/recourse/recourse/network/NodeHeap", "distances", "[D", .ref ad), ("com/example/recourse/recourse/network/NodeHeap", "remainders", "[D", .ref ar), ("com/example/recourse/recourse/network/NodeHeap", "size", "I", .int 2)]), (an, own_A .int ((.int n1) :: (.int n2) :: (.int n2) :: List.replicate mm (.int 0))), (ad, own_A .double ((.double d1) :: (.double d2) :: (.double d2) :: List.replicate mm (.double 0))), (ar, own_A .double ((.double r1) :: (.double r1) :: (.double r2) :: List.replicate mm (.double 0)))] _ _ at Hpo3_B26
    obtain ⟨Tpo3_B27, Hpo3_B27, stpo3_B27⟩ := own_getF Hpo3_B26 hx hZ hown (hw _ (List.mem_of_getElem? (i := 19) rfl)) 0 2 rfl rfl (g := (mkF m 182 #[.val (.ref x), .val (.int n0), .val (.int n2), .val (.double d2), .second, .val (.double r2), .second, .val (.int (1 : Int32)), .val (.int (1 : Int32))] [(.ref x)])) rfl rfl (hb hby d9_182)
    change own_S _ _ _ _ _ _ _ _ _ _ _ _ _ _ [(x, own_O "com/example/recourse/recourse/network/NodeHeap" [("com/example/recourse/recourse/network/NodeHeap", "nodes", "[I", .ref an), ("com/example/recourse/recourse/network/NodeHeap", "distances", "[D", .ref ad), ("com/example/recourse/recourse/network/NodeHeap", "remainders", "[D", .ref ar), ("com/example/recourse/recourse/network/NodeHeap", "size", "I", .int 2)]), (an, own_A .int ((.int n1) :: (.int n2) :: (.int n2) :: List.replicate mm (.int 0))), (ad, own_A .double ((.double d1) :: (.double d2) :: (.double d2) :: List.replicate mm (.double 0))), (ar, own_A .double ((.double r1) :: (.double r1) :: (.double r2) :: List.replicate mm (.double 0)))] _ _ at Hpo3_B27
    obtain ⟨Tpo3_B28, Hpo3_B28, stpo3_B28⟩ := own_dastore Hpo3_B27 hx hZ 3 1 rfl (by decide) (Nat.le_of_ble_eq_true rfl) (g := (mkF m 189 #[.val (.ref x), .val (.int n0), .val (.int n2), .val (.double d2), .second, .val (.double r2), .second, .val (.int (1 : Int32)), .val (.int (1 : Int32))] [(.double r2), (.int (1 : Int32)), (.ref ar)])) rfl rfl (hb hby d9_189)
    change own_S _ _ _ _ _ _ _ _ _ _ _ _ _ _ [(x, own_O "com/example/recourse/recourse/network/NodeHeap" [("com/example/recourse/recourse/network/NodeHeap", "nodes", "[I", .ref an), ("com/example/recourse/recourse/network/NodeHeap", "distances", "[D", .ref ad), ("com/example/recourse/recourse/network/NodeHeap", "remainders", "[D", .ref ar), ("com/example/recourse/recourse/network/NodeHeap", "size", "I", .int 2)]), (an, own_A .int ((.int n1) :: (.int n2) :: (.int n2) :: List.replicate mm (.int 0))), (ad, own_A .double ((.double d1) :: (.double d2) :: (.double d2) :: List.replicate mm (.double 0))), (ar, own_A .double ((.double r1) :: (.double r2) :: (.double r2) :: List.replicate mm (.double 0)))] _ _ at Hpo3_B28
    refine ⟨_, _, _, _, 191, #[.val (.ref x), .val (.int n0), .val (.int n2), .val (.double d2), .second, .val (.double r2), .second, .val (.int (1 : Int32)), .val (.int (1 : Int32))], Hpo3_B28, by decide, by decide, Or.inr ⟨.int, (.int n0), [], .ireturn, rfl, ⟨n1, n2, n2, d1, d2, d2, r1, r2, r2, _, rfl, rfl⟩, d9_191, own_retI _, fun target q => ?_⟩⟩
    refine own_go H0 hx hZ hown hby hw own_K9_ok (own_po3_0 x) _ ?_
    refine stpo3_1 _ ?_
    refine own_go Hpo3_1 hx hZ hown hby hw own_K9_ok (own_po3_1 x an) _ ?_
    refine own_iaload Hpo3_1 hx hZ 1 0 rfl (by decide) rfl (g := (mkF m 5 #[.val (.ref x), .unset, .unset, .unset, .unset, .unset, .unset, .unset, .unset] [(.int (0 : Int32)), (.ref an)])) rfl rfl (hb hby d9_5) _ ?_
    refine own_go Hpo3_1 hx hZ hown hby hw own_K9_ok (own_po3_2 x n0) _ ?_
    refine stpo3_3 _ ?_
    refine own_go Hpo3_3 hx hZ hown hby hw own_K9_ok (own_po3_3 x n0) _ ?_
    refine stpo3_4 _ ?_
    refine own_go Hpo3_4 hx hZ hown hby hw own_K9_ok (own_po3_4 x n0) _ ?_
    refine stpo3_5 _ ?_
    refine own_go Hpo3_5 hx hZ hown hby hw own_K9_ok (own_po3_5 x n0 an) _ ?_
    refine stpo3_6 _ ?_
    refine own_iaload Hpo3_6 hx hZ 1 2 rfl (by decide) rfl (g := (mkF m 25 #[.val (.ref x), .val (.int n0), .unset, .unset, .unset, .unset, .unset, .unset, .unset] [(.int (2 : Int32)), (.ref an)])) rfl rfl (hb hby d9_25) _ ?_
    refine own_go Hpo3_6 hx hZ hown hby hw own_K9_ok (own_po3_6 x n0 n2) _ ?_
    refine stpo3_8 _ ?_
    refine own_go Hpo3_8 hx hZ hown hby hw own_K9_ok (own_po3_7 x n0 n2 ad) _ ?_
    refine stpo3_9 _ ?_
    refine own_daload Hpo3_9 hx hZ 2 2 rfl (by decide) rfl (g := (mkF m 35 #[.val (.ref x), .val (.int n0), .val (.int n2), .unset, .unset, .unset, .unset, .unset, .unset] [(.int (2 : Int32)), (.ref ad)])) rfl rfl (hb hby d9_35) _ ?_
    refine own_go Hpo3_9 hx hZ hown hby hw own_K9_ok (own_po3_8 x n0 n2 d2) _ ?_
    refine stpo3_11 _ ?_
    refine own_go Hpo3_11 hx hZ hown hby hw own_K9_ok (own_po3_9 x n0 n2 d2 ar) _ ?_
    refine stpo3_12 _ ?_
    refine own_daload Hpo3_12 hx hZ 3 2 rfl (by decide) rfl (g := (mkF m 45 #[.val (.ref x), .val (.int n0), .val (.int n2), .val (.double d2), .second, .unset, .unset, .unset, .unset] [(.int (2 : Int32)), (.ref ar)])) rfl rfl (hb hby d9_45) _ ?_
    refine own_go Hpo3_12 hx hZ hown hby hw own_K9_ok (own_po3_10 x n0 n2 d2 r2) _ ?_
    refine stpo3_14 _ ?_
    refine own_go Hpo3_14 hx hZ hown hby hw own_K9_ok (own_po3_11 x n0 n2 d2 r2) _ ?_
    refine stpo3_15 _ ?_
    refine own_go Hpo3_15 hx hZ hown hby hw own_K9_ok (own_po3_12 x n0 n2 d2 r2) _ ?_
    refine stpo3_16 _ ?_
    refine own_go Hpo3_16 hx hZ hown hby hw own_K9_ok (own_po3_13 x n0 n2 d2 r2 ad) _ ?_
    refine own_daload Hpo3_16 hx hZ 2 1 rfl (by decide) rfl (g := (mkF m 130 #[.val (.ref x), .val (.int n0), .val (.int n2), .val (.double d2), .second, .val (.double r2), .second, .val (.int (0 : Int32)), .val (.int (1 : Int32))] [(.int (1 : Int32)), (.ref ad)])) rfl rfl (hb hby d9_130) _ ?_
    refine own_go Hpo3_16 hx hZ hown hby hw own_K9_ok (own_po3_14 x n0 n2 d2 r2 d1) _ ?_
    refine stpo3_18 _ ?_
    refine own_go Hpo3_18 hx hZ hown hby hw own_K9_ok (own_po3_15 x n0 n2 d2 r2 ar d1) _ ?_
    refine own_daload Hpo3_18 hx hZ 3 1 rfl (by decide) rfl (g := (mkF m 137 #[.val (.ref x), .val (.int n0), .val (.int n2), .val (.double d2), .second, .val (.double r2), .second, .val (.int (0 : Int32)), .val (.int (1 : Int32))] [(.int (1 : Int32)), (.ref ar), (.double d1)])) rfl rfl (hb hby d9_137) _ ?_
    refine own_go Hpo3_18 hx hZ hown hby hw own_K9_ok (own_po3_16 x n0 n2 d2 r2 r1 d1) _ ?_
    refine stpo3_20 _ ?_
    refine own_go Hpo3_20 hx hZ hown hby hw own_K9_ok (own_po3_B17 x n0 n2 d2 r2) _ ?_
    refine stpo3_B21 _ ?_
    refine own_go Hpo3_B21 hx hZ hown hby hw own_K9_ok (own_po3_B18 x n0 n2 d2 r2) _ ?_
    refine stpo3_B22 _ ?_
    refine own_go Hpo3_B22 hx hZ hown hby hw own_K9_ok (own_po3_B19 x n0 n2 d2 r2) _ ?_
    refine stpo3_B23 _ ?_
    refine own_go Hpo3_B23 hx hZ hown hby hw own_K9_ok (own_po3_B20 x n0 n2 d2 r2 an) _ ?_
    refine stpo3_B24 _ ?_
    refine own_go Hpo3_B24 hx hZ hown hby hw own_K9_ok (own_po3_B21 x n0 n2 d2 r2) _ ?_
    refine stpo3_B25 _ ?_
    refine own_go Hpo3_B25 hx hZ hown hby hw own_K9_ok (own_po3_B22 x n0 n2 d2 r2 ad) _ ?_
    refine stpo3_B26 _ ?_
    refine own_go Hpo3_B26 hx hZ hown hby hw own_K9_ok (own_po3_B23 x n0 n2 d2 r2) _ ?_
    refine stpo3_B27 _ ?_
    refine own_go Hpo3_B27 hx hZ hown hby hw own_K9_ok (own_po3_B24 x n0 n2 d2 r2 ar) _ ?_
    refine stpo3_B28 _ ?_
    refine own_go Hpo3_B28 hx hZ hown hby hw own_K9_ok (own_po3_B25 x n0 n2 d2 r2) _ ?_
    exact q

theorem own_len (zz : Int32) (h : 0 ≤ zz.toInt) : zz.toNatClampNeg.toInt32 = zz := by
  first
  | exact Int32.ofNat_toNatClampNeg zz (by rw [Int32.le_iff_toInt_le]; exact h)
  | (apply Int32.toInt_inj.mp
     have := rng32 zz
     show (Int32.ofNat zz.toInt.toNat).toInt = _
     rw [Int32.toInt_ofNat_of_lt (by omega)]; omega)
theorem own_in0 (x : Addr) (k : Int32) :
    own_Go own_K1 prog_51_method_1_code 0 #[.val (.ref x), .val (.int k)] [] 1 #[.val (.ref x), .val (.int k)] [(.ref x)] := by
  refine own_aloadN (pc2 := 1) d1_0 rfl rfl rfl ?_
  exact own_refl
theorem own_in1 (x : Addr) (k : Int32) :
    own_Go own_K1 prog_51_method_1_code 4 #[.val (.ref x), .val (.int k)] [] 8 #[.val (.ref x), .val (.int k)] [(.int k), (.int (16 : Int32)), (.ref x)] := by
  refine own_aloadN (pc2 := 5) d1_4 rfl rfl rfl ?_
  refine own_bipush (v := 16) (pc2 := 7) d1_5 rfl rfl ?_
  refine own_iloadN (pc2 := 8) d1_7 rfl rfl ?_
  exact own_refl
theorem own_in2 (x : Addr) (k : Int32) :
    own_Go own_K1 prog_51_method_1_code 16 #[.val (.ref x), .val (.int k)] [] 18 #[.val (.ref x), .val (.int k)] [(.ref x), (.ref x)] := by
  refine own_aloadN (pc2 := 17) d1_16 rfl rfl rfl ?_
  refine own_aloadN (pc2 := 18) d1_17 rfl rfl rfl ?_
  exact own_refl
theorem own_in3 (x : Addr) (k : Int32) :
    own_Go own_K1 prog_51_method_1_code 27 #[.val (.ref x), .val (.int k)] [] 29 #[.val (.ref x), .val (.int k)] [(.ref x), (.ref x)] := by
  refine own_aloadN (pc2 := 28) d1_27 rfl rfl rfl ?_
  refine own_aloadN (pc2 := 29) d1_28 rfl rfl rfl ?_
  exact own_refl
set_option maxRecDepth 65536 in
set_option maxHeartbeats 4000000 in
theorem own_init (l : Launch) (Z : State) (a0 : Array Value) (hb0 : Heap) (hw : ∀ d ∈ tables_1, d.before a0 Z = true) (x : Addr) (k : Int32) (hk : k.toInt ≤ 47) :
    own_Met l Z a0 hb0 (⟨"com/example/recourse/recourse/network/NodeHeap", "<init>", "(I)V"⟩ : MethodName) prog_51_method_1_code 2 none [] ({ frames := 1, cells := 3, slots := 141, locals := 30 } : Room) #[(.ref x), (.int k)] [(x, own_O "com/example/recourse/recourse/network/NodeHeap" [("com/example/recourse/recourse/network/NodeHeap", "nodes", "[I", .null), ("com/example/recourse/recourse/network/NodeHeap", "distances", "[D", .null), ("com/example/recourse/recourse/network/NodeHeap", "remainders", "[D", .null), ("com/example/recourse/recourse/network/NodeHeap", "size", "I", .int 0)])] (fun v cs' => ∃ (an ad ar : Addr) (mm : Nat) (z : Int32), ((.int 0 :: .int 0 :: .int 0 :: List.replicate mm (.int 0) : List Value)).length.toInt32 = z ∧ 16 ≤ z.toInt ∧ v = none ∧ cs' = [(x, own_O "com/example/recourse/recourse/network/NodeHeap" [("com/example/recourse/recourse/network/NodeHeap", "nodes", "[I", .ref an), ("com/example/recourse/recourse/network/NodeHeap", "distances", "[D", .ref ad), ("com/example/recourse/recourse/network/NodeHeap", "remainders", "[D", .ref ar), ("com/example/recourse/recourse/network/NodeHeap", "size", "I", .int 0)]), (an, own_A .int ((.int 0) :: (.int 0) :: (.int 0) :: List.replicate mm (.int 0))), (ad, own_A .double ((.double 0) :: (.double 0) :: (.double 0) :: List.replicate mm (.double 0))), (ar, own_A .double ((.double 0) :: (.double 0) :: (.double 0) :: List.replicate mm (.double 0)))]) := by
  refine own_met_of (L0 := #[.val (.ref x), .val (.int k)]) (plainFor_of_name own_pn1) (fun m => own_ef1 m x k) ?_
  intro p e s m below meth c T0 hx hZ hown hby hml hnm H0
  obtain ⟨Tin1, Hin1, stin1⟩ := own_initO H0 hx hZ hown (hw _ (List.mem_of_getElem? (i := 6) rfl)) (hw _ (List.mem_of_getElem? (i := 7) rfl)) (hw _ (List.mem_of_getElem? (i := 8) rfl)) (g := (mkF m 1 #[.val (.ref x), .val (.int k)] [(.ref x)])) rfl (by rw [hml]; rfl) rfl (hb hby d1_1) (by decide) (W := 0) (by show 2 * 0 + _ ≤ _; exact Nat.le_of_eq rfl) (by decide)
  change own_S _ _ _ _ _ _ _ _ _ _ _ _ _ _ [(x, own_O "com/example/recourse/recourse/network/NodeHeap" [("com/example/recourse/recourse/network/NodeHeap", "nodes", "[I", .null), ("com/example/recourse/recourse/network/NodeHeap", "distances", "[D", .null), ("com/example/recourse/recourse/network/NodeHeap", "remainders", "[D", .null), ("com/example/recourse/recourse/network/NodeHeap", "size", "I", .int 0)])] _ _ at Hin1
  obtain ⟨Tin2, vin2_, csin2_, qin2, Hin2, stin2⟩ := own_callS Hin1 hx hZ hown (hw _ (List.mem_of_getElem? (i := 9) rfl)) (hw _ (List.mem_of_getElem? (i := 10) rfl)) (hw _ (List.mem_of_getElem? (i := 11) rfl)) (hw _ (List.mem_of_getElem? (i := 12) rfl)) (by decide) (argsL := [(.int (16 : Int32)), (.int k)]) (rest := [(.ref x)]) (W := 1) (own_max l Z a0 hb0 hw k hk _) (by decide) (by decide) (by decide) (by decide) (g := (mkF m 8 #[.val (.ref x), .val (.int k)] [(.int k), (.int (16 : Int32)), (.ref x)])) rfl (by rw [hml]; rfl) (lenOf own_pd7 rfl) rfl (by show 2 * 0 + _ ≤ _; exact Nat.le_of_eq rfl) (hb hby d1_8)
  obtain ⟨⟨zz, rfl, hz1, hz2⟩, rfl⟩ := qin2
  change own_S _ _ _ _ _ _ _ _ _ _ _ _ _ _ [(x, own_O "com/example/recourse/recourse/network/NodeHeap" [("com/example/recourse/recourse/network/NodeHeap", "nodes", "[I", .null), ("com/example/recourse/recourse/network/NodeHeap", "distances", "[D", .null), ("com/example/recourse/recourse/network/NodeHeap", "remainders", "[D", .null), ("com/example/recourse/recourse/network/NodeHeap", "size", "I", .int 0)])] _ _ at Hin2
  have hneg : ¬ zz < 0 := by rw [Int32.lt_iff_toInt_lt, show (0 : Int32).toInt = 0 from rfl]; omega
  have hcap : zz.toNatClampNeg ≤ 47 := by show zz.toInt.toNat ≤ 47; omega
  have hlen : (List.replicate zz.toNatClampNeg (Value.int 0)).length.toInt32 = zz := by rw [List.length_replicate]; exact own_len zz (by omega)
  obtain ⟨Tin3, an, Hin3, stin3⟩ := own_newA Hin2 hx hZ (hw _ (List.mem_of_getElem? (i := 13) rfl)) (g := (mkF m 11 #[.val (.ref x), .val (.int k)] [(.int zz), (.ref x)])) rfl (hb hby d1_11) rfl hneg (cap := 47) hcap (by decide) (by decide) (by decide)
  change own_S _ _ _ _ _ _ _ _ _ _ _ _ _ _ [(x, own_O "com/example/recourse/recourse/network/NodeHeap" [("com/example/recourse/recourse/network/NodeHeap", "nodes", "[I", .null), ("com/example/recourse/recourse/network/NodeHeap", "distances", "[D", .null), ("com/example/recourse/recourse/network/NodeHeap", "remainders", "[D", .null), ("com/example/recourse/recourse/network/NodeHeap", "size", "I", .int 0)]), (an, own_A .int (List.replicate zz.toNatClampNeg (.int 0)))] _ _ at Hin3
  obtain ⟨Tin4, Hin4, stin4⟩ := own_putF Hin3 hx hZ hown (hw _ (List.mem_of_getElem? (i := 14) rfl)) 0 0 rfl rfl (Or.inl (hw _ (List.mem_of_getElem? (i := 15) rfl))) (hw _ (List.mem_of_getElem? (i := 1) rfl)) (ty := (.array .int)) (by decide) rfl rfl (g := (mkF m 13 #[.val (.ref x), .val (.int k)] [(.ref an), (.ref x)])) rfl rfl (hb hby d1_13)
  change own_S _ _ _ _ _ _ _ _ _ _ _ _ _ _ [(x, own_O "com/example/recourse/recourse/network/NodeHeap" [("com/example/recourse/recourse/network/NodeHeap", "nodes", "[I", .ref an), ("com/example/recourse/recourse/network/NodeHeap", "distances", "[D", .null), ("com/example/recourse/recourse/network/NodeHeap", "remainders", "[D", .null), ("com/example/recourse/recourse/network/NodeHeap", "size", "I", .int 0)]), (an, own_A .int (List.replicate zz.toNatClampNeg (.int 0)))] _ _ at Hin4
  obtain ⟨Tin5, Hin5, stin5⟩ := own_getF Hin4 hx hZ hown (hw _ (List.mem_of_getElem? (i := 14) rfl)) 0 0 rfl rfl (g := (mkF m 18 #[.val (.ref x), .val (.int k)] [(.ref x), (.ref x)])) rfl rfl (hb hby d1_18)
  change own_S _ _ _ _ _ _ _ _ _ _ _ _ _ _ [(x, own_O "com/example/recourse/recourse/network/NodeHeap" [("com/example/recourse/recourse/network/NodeHeap", "nodes", "[I", .ref an), ("com/example/recourse/recourse/network/NodeHeap", "distances", "[D", .null), ("com/example/recourse/recourse/network/NodeHeap", "remainders", "[D", .null), ("com/example/recourse/recourse/network/NodeHeap", "size", "I", .int 0)]), (an, own_A .int (List.replicate zz.toNatClampNeg (.int 0)))] _ _ at Hin5
  obtain ⟨Tin7, ad, Hin7, stin7⟩ := own_newA Hin5 hx hZ (hw _ (List.mem_of_getElem? (i := 16) rfl)) (g := (mkF m 22 #[.val (.ref x), .val (.int k)] [(.int zz), (.ref x)])) rfl (hb hby d1_22) rfl hneg (cap := 47) hcap (by decide) (by decide) (by decide)
  change own_S _ _ _ _ _ _ _ _ _ _ _ _ _ _ [(x, own_O "com/example/recourse/recourse/network/NodeHeap" [("com/example/recourse/recourse/network/NodeHeap", "nodes", "[I", .ref an), ("com/example/recourse/recourse/network/NodeHeap", "distances", "[D", .null), ("com/example/recourse/recourse/network/NodeHeap", "remainders", "[D", .null), ("com/example/recourse/recourse/network/NodeHeap", "size", "I", .int 0)]), (an, own_A .int (List.replicate zz.toNatClampNeg (.int 0))), (ad, own_A .double (List.replicate zz.toNatClampNeg (.double 0)))] _ _ at Hin7
  obtain ⟨Tin8, Hin8, stin8⟩ := own_putF Hin7 hx hZ hown (hw _ (List.mem_of_getElem? (i := 17) rfl)) 0 1 rfl rfl (Or.inl (hw _ (List.mem_of_getElem? (i := 18) rfl))) (hw _ (List.mem_of_getElem? (i := 1) rfl)) (ty := (.array .double)) (by decide) rfl rfl (g := (mkF m 24 #[.val (.ref x), .val (.int k)] [(.ref ad), (.ref x)])) rfl rfl (hb hby d1_24)
  change own_S _ _ _ _ _ _ _ _ _ _ _ _ _ _ [(x, own_O "com/example/recourse/recourse/network/NodeHeap" [("com/example/recourse/recourse/network/NodeHeap", "nodes", "[I", .ref an), ("com/example/recourse/recourse/network/NodeHeap", "distances", "[D", .ref ad), ("com/example/recourse/recourse/network/NodeHeap", "remainders", "[D", .null), ("com/example/recourse/recourse/network/NodeHeap", "size", "I", .int 0)]), (an, own_A .int (List.replicate zz.toNatClampNeg (.int 0))), (ad, own_A .double (List.replicate zz.toNatClampNeg (.double 0)))] _ _ at Hin8
  obtain ⟨Tin9, Hin9, stin9⟩ := own_getF Hin8 hx hZ hown (hw _ (List.mem_of_getElem? (i := 14) rfl)) 0 0 rfl rfl (g := (mkF m 29 #[.val (.ref x), .val (.int k)] [(.ref x), (.ref x)])) rfl rfl (hb hby d1_29)
  change own_S _ _ _ _ _ _ _ _ _ _ _ _ _ _ [(x, own_O "com/example/recourse/recourse/network/NodeHeap" [("com/example/recourse/recourse/network/NodeHeap", "nodes", "[I", .ref an), ("com/example/recourse/recourse/network/NodeHeap", "distances", "[D", .ref ad), ("com/example/recourse/recourse/network/NodeHeap", "remainders", "[D", .null), ("com/example/recourse/recourse/network/NodeHeap", "size", "I", .int 0)]), (an, own_A .int (List.replicate zz.toNatClampNeg (.int 0))), (ad, own_A .double (List.replicate zz.toNatClampNeg (.double 0)))] _ _ at Hin9
  obtain ⟨Tin11, ar, Hin11, stin11⟩ := own_newA Hin9 hx hZ (hw _ (List.mem_of_getElem? (i := 16) rfl)) (g := (mkF m 33 #[.val (.ref x), .val (.int k)] [(.int zz), (.ref x)])) rfl (hb hby d1_33) rfl hneg (cap := 47) hcap (by decide) (by decide) (by decide)
  change own_S _ _ _ _ _ _ _ _ _ _ _ _ _ _ [(x, own_O "com/example/recourse/recourse/network/NodeHeap" [("com/example/recourse/recourse/network/NodeHeap", "nodes", "[I", .ref an), ("com/example/recourse/recourse/network/NodeHeap", "distances", "[D", .ref ad), ("com/example/recourse/recourse/network/NodeHeap", "remainders", "[D", .null), ("com/example/recourse/recourse/network/NodeHeap", "size", "I", .int 0)]), (an, own_A .int (List.replicate zz.toNatClampNeg (.int 0))), (ad, own_A .double (List.replicate zz.toNatClampNeg (.double 0))), (ar, own_A .double (List.replicate zz.toNatClampNeg (.double 0)))] _ _ at Hin11
  obtain ⟨Tin12, Hin12, stin12⟩ := own_putF Hin11 hx hZ hown (hw _ (List.mem_of_getElem? (i := 19) rfl)) 0 2 rfl rfl (Or.inl (hw _ (List.mem_of_getElem? (i := 20) rfl))) (hw _ (List.mem_of_getElem? (i := 1) rfl)) (ty := (.array .double)) (by decide) rfl rfl (g := (mkF m 35 #[.val (.ref x), .val (.int k)] [(.ref ar), (.ref x)])) rfl rfl (hb hby d1_35)
  change own_S _ _ _ _ _ _ _ _ _ _ _ _ _ _ [(x, own_O "com/example/recourse/recourse/network/NodeHeap" [("com/example/recourse/recourse/network/NodeHeap", "nodes", "[I", .ref an), ("com/example/recourse/recourse/network/NodeHeap", "distances", "[D", .ref ad), ("com/example/recourse/recourse/network/NodeHeap", "remainders", "[D", .ref ar), ("com/example/recourse/recourse/network/NodeHeap", "size", "I", .int 0)]), (an, own_A .int (List.replicate zz.toNatClampNeg (.int 0))), (ad, own_A .double (List.replicate zz.toNatClampNeg (.double 0))), (ar, own_A .double (List.replicate zz.toNatClampNeg (.double 0)))] _ _ at Hin12
  obtain ⟨mm, hmm⟩ : ∃ mm, zz.toNatClampNeg = mm + 3 := ⟨zz.toNatClampNeg - 3, by have : zz.toNatClampNeg = zz.toInt.toNat := rfl; omega⟩
  refine ⟨_, _, _, _, 38, #[.val (.ref x), .val (.int k)], Hin12, by decide, by decide, Or.inl ⟨rfl, ⟨an, ad, ar, mm, zz, by rw [hmm] at hlen; exact hlen, hz1, rfl, by rw [hmm]; rfl⟩, d1_38, fun target q => ?_⟩⟩
  refine own_go H0 hx hZ hown hby hw own_K1_ok (own_in0 x k) _ ?_
  refine stin1 _ ?_
  refine own_go Hin1 hx hZ hown hby hw own_K1_ok (own_in1 x k) _ ?_
  refine stin2 _ ?_
  refine stin3 _ ?_
  refine stin4 _ ?_
  refine own_go Hin4 hx hZ hown hby hw own_K1_ok (own_in2 x k) _ ?_
  refine stin5 _ ?_
  refine own_arrlen Hin5 hx hZ 1 rfl (z := zz) hlen (g := (mkF m 21 #[.val (.ref x), .val (.int k)] [(.ref an), (.ref x)])) rfl rfl (hb hby d1_21) _ ?_
  refine stin7 _ ?_
  refine stin8 _ ?_
  refine own_go Hin8 hx hZ hown hby hw own_K1_ok (own_in3 x k) _ ?_
  refine stin9 _ ?_
  refine own_arrlen Hin9 hx hZ 1 rfl (z := zz) hlen (g := (mkF m 32 #[.val (.ref x), .val (.int k)] [(.ref an), (.ref x)])) rfl rfl (hb hby d1_32) _ ?_
  refine stin11 _ ?_
  refine stin12 _ ?_
  exact q

theorem own_m3 (x : Int32) : (x &&& 3) = 0 ∨ (x &&& 3) = 1 ∨ (x &&& 3) = 2 ∨ (x &&& 3) = 3 := by
  have h := c_mask x 3 2 (by decide) (by decide)
  have := rng32 (x &&& 3)
  have hx : (x &&& 3).toInt = 0 ∨ (x &&& 3).toInt = 1 ∨ (x &&& 3).toInt = 2 ∨ (x &&& 3).toInt = 3 := by omega
  rcases hx with q | q | q | q
  · exact Or.inl (Int32.toInt_inj.mp q)
  · exact Or.inr (Or.inl (Int32.toInt_inj.mp q))
  · exact Or.inr (Or.inr (Or.inl (Int32.toInt_inj.mp q)))
  · exact Or.inr (Or.inr (Or.inr (Int32.toInt_inj.mp q)))
theorem own_s00_0 (xc : Int32) (xn : Int32) (xp : Int32) (y0 : Int32) (y1 : Int32) (y2 : Int32) (x : Addr) (v7 : Int32) (hv7 : (xc &&& (63 : Int32)) = v7) (v10 : Int32) (hv10 : (v7 - (16 : Int32)) = v10) :
    own_Go own_K0 code 3 #[.val (.int xc), .val (.int xn), .val (.int xp), .val (.int y0), .val (.int y1), .val (.int y2), .unset, .unset, .unset, .unset] [(.ref x)] 11 #[.val (.int xc), .val (.int xn), .val (.int xp), .val (.int y0), .val (.int y1), .val (.int y2), .unset, .unset, .unset, .unset] [(.int v10), (.ref x), (.ref x)] := by
  refine own_dup (pc2 := 4) at_3 rfl rfl ?_
  refine own_iloadN (pc2 := 5) at_4 rfl rfl ?_
  refine own_bipush (v := 63) (pc2 := 7) at_5 rfl rfl ?_
  refine own_iand (pc2 := 8) at_7 rfl (v := v7) hv7 ?_
  refine own_bipush (v := 16) (pc2 := 10) at_8 rfl rfl ?_
  refine own_isub (pc2 := 11) at_10 rfl (v := v10) hv10 ?_
  exact own_refl
theorem own_s00_1 (xc : Int32) (xn : Int32) (xp : Int32) (y0 : Int32) (y1 : Int32) (y2 : Int32) (x : Addr) :
    own_Go own_K0 code 14 #[.val (.int xc), .val (.int xn), .val (.int xp), .val (.int y0), .val (.int y1), .val (.int y2), .unset, .unset, .unset, .unset] [(.ref x)] 18 #[.val (.int xc), .val (.int xn), .val (.int xp), .val (.int y0), .val (.int y1), .val (.int y2), .val (.ref x), .unset, .unset, .unset] [(.ref x)] := by
  refine own_astore (pc2 := 16) at_14 rfl rfl (L' := #[.val (.int xc), .val (.int xn), .val (.int xp), .val (.int y0), .val (.int y1), .val (.int y2), .val (.ref x), .unset, .unset, .unset]) rfl ?_
  refine own_aload (pc2 := 18) at_16 rfl rfl rfl ?_
  exact own_refl
theorem own_s00_2 (xc : Int32) (xn : Int32) (xp : Int32) (y0 : Int32) (y1 : Int32) (y2 : Int32) (x : Addr) (hkk : (xn &&& (3 : Int32)) = (0 : Int32)) (hpp : (xp &&& (3 : Int32)) = (0 : Int32)) :
    own_Go own_K0 code 21 #[.val (.int xc), .val (.int xn), .val (.int xp), .val (.int y0), .val (.int y1), .val (.int y2), .val (.ref x), .unset, .unset, .unset] [(.int (1 : Int32))] 96 #[.val (.int xc), .val (.int xn), .val (.int xp), .val (.int y0), .val (.int y1), .val (.int y2), .val (.ref x), .val (.int (1 : Int32)), .val (.int (0 : Int32)), .val (.int (0 : Int32))] [(.ref x)] := by
  refine own_istore (pc2 := 23) at_21 rfl (L' := #[.val (.int xc), .val (.int xn), .val (.int xp), .val (.int y0), .val (.int y1), .val (.int y2), .val (.ref x), .val (.int (1 : Int32)), .unset, .unset]) rfl ?_
  refine own_iloadN (pc2 := 24) at_23 rfl rfl ?_
  refine own_iconst (v := 3) (pc2 := 25) at_24 rfl rfl ?_
  refine own_iand (pc2 := 26) at_25 rfl (v := (0 : Int32)) hkk ?_
  refine own_istore (pc2 := 28) at_26 rfl (L' := #[.val (.int xc), .val (.int xn), .val (.int xp), .val (.int y0), .val (.int y1), .val (.int y2), .val (.ref x), .val (.int (1 : Int32)), .val (.int (0 : Int32)), .unset]) rfl ?_
  refine own_iloadN (pc2 := 29) at_28 rfl rfl ?_
  refine own_iconst (v := 3) (pc2 := 30) at_29 rfl rfl ?_
  refine own_iand (pc2 := 31) at_30 rfl (v := (0 : Int32)) hpp ?_
  refine own_istore (pc2 := 33) at_31 rfl (L' := #[.val (.int xc), .val (.int xn), .val (.int xp), .val (.int y0), .val (.int y1), .val (.int y2), .val (.ref x), .val (.int (1 : Int32)), .val (.int (0 : Int32)), .val (.int (0 : Int32))]) rfl ?_
  refine own_iload (pc2 := 35) at_33 rfl rfl ?_
  refine own_iload (pc2 := 37) at_35 rfl rfl ?_
  refine own_icmpYes (pc' := 44) at_37 (by decide) (by decide) (by decide) ?_
  refine own_iload (pc2 := 46) at_44 rfl rfl ?_
  refine own_ifYes (pc' := 57) at_46 (by decide) (by decide) (by decide) ?_
  refine own_iload (pc2 := 59) at_57 rfl rfl ?_
  refine own_iconst (v := 1) (pc2 := 60) at_59 rfl rfl ?_
  refine own_icmpYes (pc' := 73) at_60 (by decide) (by decide) (by decide) ?_
  refine own_iload (pc2 := 75) at_73 rfl rfl ?_
  refine own_iconst (v := 2) (pc2 := 76) at_75 rfl rfl ?_
  refine own_icmpYes (pc' := 89) at_76 (by decide) (by decide) (by decide) ?_
  refine own_iload (pc2 := 91) at_89 rfl rfl ?_
  refine own_ifNo (pc2 := 94) at_91 rfl (by decide) ?_
  refine own_aload (pc2 := 96) at_94 rfl rfl rfl ?_
  exact own_refl
theorem own_s00_3 (xc : Int32) (xn : Int32) (xp : Int32) (y0 : Int32) (y1 : Int32) (y2 : Int32) (x : Addr) :
    own_Go own_K0 code 99 #[.val (.int xc), .val (.int xn), .val (.int xp), .val (.int y0), .val (.int y1), .val (.int y2), .val (.ref x), .val (.int (1 : Int32)), .val (.int (0 : Int32)), .val (.int (0 : Int32))] [(.int (1 : Int32))] 161 #[.val (.int xc), .val (.int xn), .val (.int xp), .val (.int y0), .val (.int y1), .val (.int y2), .val (.ref x), .val (.int (1 : Int32)), .val (.int (0 : Int32)), .val (.int (0 : Int32))] [(.ref x)] := by
  refine own_iload (pc2 := 101) at_99 rfl rfl ?_
  refine own_ifNo (pc2 := 104) at_101 rfl (by decide) ?_
  refine own_iconst (v := 1) (pc2 := 105) at_104 rfl rfl ?_
  refine own_goto (pc' := 109) at_105 (by decide) (by decide) ?_
  refine own_icmpNo (pc2 := 112) at_109 rfl (by decide) ?_
  refine own_iconst (v := 1) (pc2 := 113) at_112 rfl rfl ?_
  refine own_goto (pc' := 117) at_113 (by decide) (by decide) ?_
  refine own_istore (pc2 := 119) at_117 rfl (L' := #[.val (.int xc), .val (.int xn), .val (.int xp), .val (.int y0), .val (.int y1), .val (.int y2), .val (.ref x), .val (.int (1 : Int32)), .val (.int (0 : Int32)), .val (.int (0 : Int32))]) rfl ?_
  refine own_iload (pc2 := 121) at_119 rfl rfl ?_
  refine own_ifYes (pc' := 130) at_121 (by decide) (by decide) (by decide) ?_
  refine own_iload (pc2 := 132) at_130 rfl rfl ?_
  refine own_iconst (v := 1) (pc2 := 133) at_132 rfl rfl ?_
  refine own_icmpYes (pc' := 142) at_133 (by decide) (by decide) (by decide) ?_
  refine own_iload (pc2 := 144) at_142 rfl rfl ?_
  refine own_iconst (v := 2) (pc2 := 145) at_144 rfl rfl ?_
  refine own_icmpYes (pc' := 154) at_145 (by decide) (by decide) (by decide) ?_
  refine own_iload (pc2 := 156) at_154 rfl rfl ?_
  refine own_ifNo (pc2 := 159) at_156 rfl (by decide) ?_
  refine own_aload (pc2 := 161) at_159 rfl rfl rfl ?_
  exact own_refl
theorem own_s00_4 (xc : Int32) (xn : Int32) (xp : Int32) (y0 : Int32) (y1 : Int32) (y2 : Int32) (x : Addr) :
    own_Go own_K0 code 164 #[.val (.int xc), .val (.int xn), .val (.int xp), .val (.int y0), .val (.int y1), .val (.int y2), .val (.ref x), .val (.int (1 : Int32)), .val (.int (0 : Int32)), .val (.int (0 : Int32))] [(.int (1 : Int32))] 188 #[.val (.int xc), .val (.int xn), .val (.int xp), .val (.int y0), .val (.int y1), .val (.int y2), .val (.ref x), .val (.int (1 : Int32)), .val (.int (0 : Int32)), .val (.int (0 : Int32))] [(.int (1 : Int32))] := by
  refine own_iload (pc2 := 166) at_164 rfl rfl ?_
  refine own_iload (pc2 := 168) at_166 rfl rfl ?_
  refine own_icmpNo (pc2 := 171) at_168 rfl (by decide) ?_
  refine own_iconst (v := 1) (pc2 := 172) at_171 rfl rfl ?_
  refine own_goto (pc' := 176) at_172 (by decide) (by decide) ?_
  refine own_icmpNo (pc2 := 179) at_176 rfl (by decide) ?_
  refine own_iconst (v := 1) (pc2 := 180) at_179 rfl rfl ?_
  refine own_goto (pc' := 184) at_180 (by decide) (by decide) ?_
  refine own_istore (pc2 := 186) at_184 rfl (L' := #[.val (.int xc), .val (.int xn), .val (.int xp), .val (.int y0), .val (.int y1), .val (.int y2), .val (.ref x), .val (.int (1 : Int32)), .val (.int (0 : Int32)), .val (.int (0 : Int32))]) rfl ?_
  refine own_iload (pc2 := 188) at_186 rfl rfl ?_
  exact own_refl
set_option maxRecDepth 65536 in
set_option maxHeartbeats 40000000 in
theorem own_law00 (l : Launch) (Z : State) (a0 : Array Value) (hb0 : Heap) (hw : ∀ d ∈ tables_1, d.before a0 Z = true) (xc : Int32) (xn : Int32) (xp : Int32) (y0 : Int32) (y1 : Int32) (y2 : Int32) (hkk : (xn &&& (3 : Int32)) = (0 : Int32)) (hpp : (xp &&& (3 : Int32)) = (0 : Int32)) :
    own_Met l Z a0 hb0 x code maxLocals ret tables_1 room_1 #[(.int xc), (.int xn), (.int xp), (.int y0), (.int y1), (.int y2)] [] (fun v _ => v = some (.int 1)) := by
  refine own_met_of (L0 := #[.val (.int xc), .val (.int xn), .val (.int xp), .val (.int y0), .val (.int y1), .val (.int y2), .unset, .unset, .unset, .unset]) (plainFor_of_name own_pn0) (fun m => own_ef0 m xc xn xp y0 y1 y2) ?_
  intro p e s m below meth c T0 hx hZ hown hby hml hnm H0
  have hown : s.vm.findClass "com/example/recourse/recourse/network/NodeHeapIsEmptyPinLaw" = some m.cls := hown
  have hml : c.maxLocals = 10 := hml
  obtain ⟨Ts00_1, x, Hs00_1, sts00_1⟩ := own_newO H0 hx hZ hown (hw _ (List.mem_of_getElem? (i := 0) rfl)) (hw _ (List.mem_of_getElem? (i := 1) rfl)) (hw _ (List.mem_of_getElem? (i := 2) rfl)) [("com/example/recourse/recourse/network/NodeHeap", "nodes", "[I", .null), ("com/example/recourse/recourse/network/NodeHeap", "distances", "[D", .null), ("com/example/recourse/recourse/network/NodeHeap", "remainders", "[D", .null), ("com/example/recourse/recourse/network/NodeHeap", "size", "I", .int 0)] (by
      intro f hf
      simp only [List.mem_cons, List.not_mem_nil, or_false] at hf
      rcases hf with rfl | rfl | rfl | rfl
      · exact ⟨Or.inl (hw _ (List.mem_of_getElem? (i := 15) rfl)), (.array .int), by decide, rfl⟩
      · exact ⟨Or.inl (hw _ (List.mem_of_getElem? (i := 18) rfl)), (.array .double), by decide, rfl⟩
      · exact ⟨Or.inl (hw _ (List.mem_of_getElem? (i := 20) rfl)), (.array .double), by decide, rfl⟩
      · exact ⟨Or.inl (hw _ (List.mem_of_getElem? (i := 27) rfl)), .int, by decide, rfl⟩) (by decide) (g := (mkF m 0 #[.val (.int xc), .val (.int xn), .val (.int xp), .val (.int y0), .val (.int y1), .val (.int y2), .unset, .unset, .unset, .unset] [])) rfl (hb hby at_0) (by decide) (by decide)
  change own_S _ _ _ _ _ _ _ _ _ _ _ _ _ _ [(x, own_O "com/example/recourse/recourse/network/NodeHeap" [("com/example/recourse/recourse/network/NodeHeap", "nodes", "[I", .null), ("com/example/recourse/recourse/network/NodeHeap", "distances", "[D", .null), ("com/example/recourse/recourse/network/NodeHeap", "remainders", "[D", .null), ("com/example/recourse/recourse/network/NodeHeap", "size", "I", .int 0)])] _ _ at Hs00_1
  obtain ⟨v7, hv7⟩ : ∃ z : Int32, (xc &&& (63 : Int32)) = z := ⟨_, rfl⟩
  obtain ⟨v10, hv10⟩ : ∃ z : Int32, (v7 - (16 : Int32)) = z := ⟨_, rfl⟩
  have hk : v10.toInt ≤ 47 := by
    have h1 := c_mask xc 63 6 (by decide) (by decide)
    have h2 := c_isub v7 16
    have := rng32 v10
    rw [hv7] at h1
    rw [hv10, show (16 : Int32).toInt = 16 from rfl] at h2
    omega
  obtain ⟨Ts00_2, vs00_2_, css00_2_, qs00_2, Hs00_2, sts00_2⟩ := own_callI Hs00_1 hx hZ hown rfl (hw _ (List.mem_of_getElem? (i := 3) rfl)) (hw _ (List.mem_of_getElem? (i := 4) rfl)) (hw _ (List.mem_of_getElem? (i := 2) rfl)) (hw _ (List.mem_of_getElem? (i := 5) rfl)) (by decide) (x := x) (argsL := [(.int v10)]) (rest := [(.ref x)]) (W := 1) (own_init l Z a0 hb0 hw x v10 hk) (by decide) (by decide) (by decide) (by decide) (g := (mkF m 11 #[.val (.int xc), .val (.int xn), .val (.int xp), .val (.int y0), .val (.int y1), .val (.int y2), .unset, .unset, .unset, .unset] [(.int v10), (.ref x), (.ref x)])) rfl (by rw [hml]; rfl) (lenOf own_pd4 rfl) rfl (by show 2 * 0 + _ ≤ _; exact Nat.le_of_eq rfl) (hb hby at_11)
  obtain ⟨an, ad, ar, mm, z, hl, hzz, rfl, rfl⟩ := qs00_2
  change own_S _ _ _ _ _ _ _ _ _ _ _ _ _ _ [(x, own_O "com/example/recourse/recourse/network/NodeHeap" [("com/example/recourse/recourse/network/NodeHeap", "nodes", "[I", .ref an), ("com/example/recourse/recourse/network/NodeHeap", "distances", "[D", .ref ad), ("com/example/recourse/recourse/network/NodeHeap", "remainders", "[D", .ref ar), ("com/example/recourse/recourse/network/NodeHeap", "size", "I", .int 0)]), (an, own_A .int ((.int 0) :: (.int 0) :: (.int 0) :: List.replicate mm (.int 0))), (ad, own_A .double ((.double 0) :: (.double 0) :: (.double 0) :: List.replicate mm (.double 0))), (ar, own_A .double ((.double 0) :: (.double 0) :: (.double 0) :: List.replicate mm (.double 0)))] _ _ at Hs00_2
  obtain ⟨Ts00_3, vs00_3_, css00_3_, qs00_3, Hs00_3, sts00_3⟩ := own_callV Hs00_2 hx hZ hown (hw _ (List.mem_of_getElem? (i := 21) rfl)) (hw _ (List.mem_of_getElem? (i := 22) rfl)) (hw _ (List.mem_of_getElem? (i := 24) rfl)) (hw _ (List.mem_of_getElem? (i := 23) rfl)) (hw _ (List.mem_of_getElem? (i := 2) rfl)) (hw _ (List.mem_of_getElem? (i := 25) rfl)) (by decide) (x := x) 0 rfl (argsL := []) (rest := []) (W := 0) (own_emp0 l Z a0 hb0 hw x an ad ar mm 0 0 0 0 0 0 0 0 0) (by decide) (by decide) (by decide) (by decide) (g := (mkF m 18 #[.val (.int xc), .val (.int xn), .val (.int xp), .val (.int y0), .val (.int y1), .val (.int y2), .val (.ref x), .unset, .unset, .unset] [(.ref x)])) rfl (by rw [hml]; rfl) (lenOf own_pd2 rfl) rfl (by show 2 * 0 + _ ≤ _; exact Nat.le_of_eq rfl) (hb hby at_18)
  obtain ⟨rfl, rfl⟩ := qs00_3
  change own_S _ _ _ _ _ _ _ _ _ _ _ _ _ _ [(x, own_O "com/example/recourse/recourse/network/NodeHeap" [("com/example/recourse/recourse/network/NodeHeap", "nodes", "[I", .ref an), ("com/example/recourse/recourse/network/NodeHeap", "distances", "[D", .ref ad), ("com/example/recourse/recourse/network/NodeHeap", "remainders", "[D", .ref ar), ("com/example/recourse/recourse/network/NodeHeap", "size", "I", .int 0)]), (an, own_A .int ((.int 0) :: (.int 0) :: (.int 0) :: List.replicate mm (.int 0))), (ad, own_A .double ((.double 0) :: (.double 0) :: (.double 0) :: List.replicate mm (.double 0))), (ar, own_A .double ((.double 0) :: (.double 0) :: (.double 0) :: List.replicate mm (.double 0)))] _ _ at Hs00_3
  obtain ⟨Ts00_4, vs00_4_, css00_4_, qs00_4, Hs00_4, sts00_4⟩ := own_callV Hs00_3 hx hZ hown (hw _ (List.mem_of_getElem? (i := 21) rfl)) (hw _ (List.mem_of_getElem? (i := 22) rfl)) (hw _ (List.mem_of_getElem? (i := 24) rfl)) (hw _ (List.mem_of_getElem? (i := 23) rfl)) (hw _ (List.mem_of_getElem? (i := 2) rfl)) (hw _ (List.mem_of_getElem? (i := 25) rfl)) (by decide) (x := x) 0 rfl (argsL := []) (rest := []) (W := 0) (own_emp0 l Z a0 hb0 hw x an ad ar mm 0 0 0 0 0 0 0 0 0) (by decide) (by decide) (by decide) (by decide) (g := (mkF m 96 #[.val (.int xc), .val (.int xn), .val (.int xp), .val (.int y0), .val (.int y1), .val (.int y2), .val (.ref x), .val (.int (1 : Int32)), .val (.int (0 : Int32)), .val (.int (0 : Int32))] [(.ref x)])) rfl (by rw [hml]; rfl) (lenOf own_pd2 rfl) rfl (by show 2 * 0 + _ ≤ _; exact Nat.le_of_eq rfl) (hb hby at_96)
  obtain ⟨rfl, rfl⟩ := qs00_4
  change own_S _ _ _ _ _ _ _ _ _ _ _ _ _ _ [(x, own_O "com/example/recourse/recourse/network/NodeHeap" [("com/example/recourse/recourse/network/NodeHeap", "nodes", "[I", .ref an), ("com/example/recourse/recourse/network/NodeHeap", "distances", "[D", .ref ad), ("com/example/recourse/recourse/network/NodeHeap", "remainders", "[D", .ref ar), ("com/example/recourse/recourse/network/NodeHeap", "size", "I", .int 0)]), (an, own_A .int ((.int 0) :: (.int 0) :: (.int 0) :: List.replicate mm (.int 0))), (ad, own_A .double ((.double 0) :: (.double 0) :: (.double 0) :: List.replicate mm (.double 0))), (ar, own_A .double ((.double 0) :: (.double 0) :: (.double 0) :: List.replicate mm (.double 0)))] _ _ at Hs00_4
  obtain ⟨Ts00_5, vs00_5_, css00_5_, qs00_5, Hs00_5, sts00_5⟩ := own_callV Hs00_4 hx hZ hown (hw _ (List.mem_of_getElem? (i := 21) rfl)) (hw _ (List.mem_of_getElem? (i := 22) rfl)) (hw _ (List.mem_of_getElem? (i := 24) rfl)) (hw _ (List.mem_of_getElem? (i := 23) rfl)) (hw _ (List.mem_of_getElem? (i := 2) rfl)) (hw _ (List.mem_of_getElem? (i := 25) rfl)) (by decide) (x := x) 0 rfl (argsL := []) (rest := []) (W := 0) (own_emp0 l Z a0 hb0 hw x an ad ar mm 0 0 0 0 0 0 0 0 0) (by decide) (by decide) (by decide) (by decide) (g := (mkF m 161 #[.val (.int xc), .val (.int xn), .val (.int xp), .val (.int y0), .val (.int y1), .val (.int y2), .val (.ref x), .val (.int (1 : Int32)), .val (.int (0 : Int32)), .val (.int (0 : Int32))] [(.ref x)])) rfl (by rw [hml]; rfl) (lenOf own_pd2 rfl) rfl (by show 2 * 0 + _ ≤ _; exact Nat.le_of_eq rfl) (hb hby at_161)
  obtain ⟨rfl, rfl⟩ := qs00_5
  change own_S _ _ _ _ _ _ _ _ _ _ _ _ _ _ [(x, own_O "com/example/recourse/recourse/network/NodeHeap" [("com/example/recourse/recourse/network/NodeHeap", "nodes", "[I", .ref an), ("com/example/recourse/recourse/network/NodeHeap", "distances", "[D", .ref ad), ("com/example/recourse/recourse/network/NodeHeap", "remainders", "[D", .ref ar), ("com/example/recourse/recourse/network/NodeHeap", "size", "I", .int 0)]), (an, own_A .int ((.int 0) :: (.int 0) :: (.int 0) :: List.replicate mm (.int 0))), (ad, own_A .double ((.double 0) :: (.double 0) :: (.double 0) :: List.replicate mm (.double 0))), (ar, own_A .double ((.double 0) :: (.double 0) :: (.double 0) :: List.replicate mm (.double 0)))] _ _ at Hs00_5
  refine ⟨_, _, _, _, 188, #[.val (.int xc), .val (.int xn), .val (.int xp), .val (.int y0), .val (.int y1), .val (.int y2), .val (.ref x), .val (.int (1 : Int32)), .val (.int (0 : Int32)), .val (.int (0 : Int32))], Hs00_5, by decide, by decide, Or.inr ⟨.boolean, (.int (1 : Int32)), [], .ireturn, rfl, rfl, at_188, own_retZ (Or.inr rfl), fun target q => ?_⟩⟩
  refine sts00_1 _ ?_
  refine own_go Hs00_1 hx hZ hown hby hw own_K0_ok (own_s00_0 xc xn xp y0 y1 y2 x v7 hv7 v10 hv10) _ ?_
  refine sts00_2 _ ?_
  refine own_go Hs00_2 hx hZ hown hby hw own_K0_ok (own_s00_1 xc xn xp y0 y1 y2 x) _ ?_
  refine sts00_3 _ ?_
  refine own_go Hs00_3 hx hZ hown hby hw own_K0_ok (own_s00_2 xc xn xp y0 y1 y2 x hkk hpp) _ ?_
  refine sts00_4 _ ?_
  refine own_go Hs00_4 hx hZ hown hby hw own_K0_ok (own_s00_3 xc xn xp y0 y1 y2 x) _ ?_
  refine sts00_5 _ ?_
  refine own_go Hs00_5 hx hZ hown hby hw own_K0_ok (own_s00_4 xc xn xp y0 y1 y2 x) _ ?_
  exact q
theorem own_s01_0 (xc : Int32) (xn : Int32) (xp : Int32) (y0 : Int32) (y1 : Int32) (y2 : Int32) (x : Addr) (v7 : Int32) (hv7 : (xc &&& (63 : Int32)) = v7) (v10 : Int32) (hv10 : (v7 - (16 : Int32)) = v10) :
    own_Go own_K0 code 3 #[.val (.int xc), .val (.int xn), .val (.int xp), .val (.int y0), .val (.int y1), .val (.int y2), .unset, .unset, .unset, .unset] [(.ref x)] 11 #[.val (.int xc), .val (.int xn), .val (.int xp), .val (.int y0), .val (.int y1), .val (.int y2), .unset, .unset, .unset, .unset] [(.int v10), (.ref x), (.ref x)] := by
  refine own_dup (pc2 := 4) at_3 rfl rfl ?_
  refine own_iloadN (pc2 := 5) at_4 rfl rfl ?_
  refine own_bipush (v := 63) (pc2 := 7) at_5 rfl rfl ?_
  refine own_iand (pc2 := 8) at_7 rfl (v := v7) hv7 ?_
  refine own_bipush (v := 16) (pc2 := 10) at_8 rfl rfl ?_
  refine own_isub (pc2 := 11) at_10 rfl (v := v10) hv10 ?_
  exact own_refl
theorem own_s01_1 (xc : Int32) (xn : Int32) (xp : Int32) (y0 : Int32) (y1 : Int32) (y2 : Int32) (x : Addr) :
    own_Go own_K0 code 14 #[.val (.int xc), .val (.int xn), .val (.int xp), .val (.int y0), .val (.int y1), .val (.int y2), .unset, .unset, .unset, .unset] [(.ref x)] 18 #[.val (.int xc), .val (.int xn), .val (.int xp), .val (.int y0), .val (.int y1), .val (.int y2), .val (.ref x), .unset, .unset, .unset] [(.ref x)] := by
  refine own_astore (pc2 := 16) at_14 rfl rfl (L' := #[.val (.int xc), .val (.int xn), .val (.int xp), .val (.int y0), .val (.int y1), .val (.int y2), .val (.ref x), .unset, .unset, .unset]) rfl ?_
  refine own_aload (pc2 := 18) at_16 rfl rfl rfl ?_
  exact own_refl
theorem own_s01_2 (xc : Int32) (xn : Int32) (xp : Int32) (y0 : Int32) (y1 : Int32) (y2 : Int32) (x : Addr) (hkk : (xn &&& (3 : Int32)) = (0 : Int32)) (hpp : (xp &&& (3 : Int32)) = (1 : Int32)) :
    own_Go own_K0 code 21 #[.val (.int xc), .val (.int xn), .val (.int xp), .val (.int y0), .val (.int y1), .val (.int y2), .val (.ref x), .unset, .unset, .unset] [(.int (1 : Int32))] 96 #[.val (.int xc), .val (.int xn), .val (.int xp), .val (.int y0), .val (.int y1), .val (.int y2), .val (.ref x), .val (.int (1 : Int32)), .val (.int (0 : Int32)), .val (.int (0 : Int32))] [(.ref x)] := by
  refine own_istore (pc2 := 23) at_21 rfl (L' := #[.val (.int xc), .val (.int xn), .val (.int xp), .val (.int y0), .val (.int y1), .val (.int y2), .val (.ref x), .val (.int (1 : Int32)), .unset, .unset]) rfl ?_
  refine own_iloadN (pc2 := 24) at_23 rfl rfl ?_
  refine own_iconst (v := 3) (pc2 := 25) at_24 rfl rfl ?_
  refine own_iand (pc2 := 26) at_25 rfl (v := (0 : Int32)) hkk ?_
  refine own_istore (pc2 := 28) at_26 rfl (L' := #[.val (.int xc), .val (.int xn), .val (.int xp), .val (.int y0), .val (.int y1), .val (.int y2), .val (.ref x), .val (.int (1 : Int32)), .val (.int (0 : Int32)), .unset]) rfl ?_
  refine own_iloadN (pc2 := 29) at_28 rfl rfl ?_
  refine own_iconst (v := 3) (pc2 := 30) at_29 rfl rfl ?_
  refine own_iand (pc2 := 31) at_30 rfl (v := (1 : Int32)) hpp ?_
  refine own_istore (pc2 := 33) at_31 rfl (L' := #[.val (.int xc), .val (.int xn), .val (.int xp), .val (.int y0), .val (.int y1), .val (.int y2), .val (.ref x), .val (.int (1 : Int32)), .val (.int (0 : Int32)), .val (.int (1 : Int32))]) rfl ?_
  refine own_iload (pc2 := 35) at_33 rfl rfl ?_
  refine own_iload (pc2 := 37) at_35 rfl rfl ?_
  refine own_icmpNo (pc2 := 40) at_37 rfl (by decide) ?_
  refine own_iload (pc2 := 42) at_40 rfl rfl ?_
  refine own_istore (pc2 := 44) at_42 rfl (L' := #[.val (.int xc), .val (.int xn), .val (.int xp), .val (.int y0), .val (.int y1), .val (.int y2), .val (.ref x), .val (.int (1 : Int32)), .val (.int (0 : Int32)), .val (.int (0 : Int32))]) rfl ?_
  refine own_iload (pc2 := 46) at_44 rfl rfl ?_
  refine own_ifYes (pc' := 57) at_46 (by decide) (by decide) (by decide) ?_
  refine own_iload (pc2 := 59) at_57 rfl rfl ?_
  refine own_iconst (v := 1) (pc2 := 60) at_59 rfl rfl ?_
  refine own_icmpYes (pc' := 73) at_60 (by decide) (by decide) (by decide) ?_
  refine own_iload (pc2 := 75) at_73 rfl rfl ?_
  refine own_iconst (v := 2) (pc2 := 76) at_75 rfl rfl ?_
  refine own_icmpYes (pc' := 89) at_76 (by decide) (by decide) (by decide) ?_
  refine own_iload (pc2 := 91) at_89 rfl rfl ?_
  refine own_ifNo (pc2 := 94) at_91 rfl (by decide) ?_
  refine own_aload (pc2 := 96) at_94 rfl rfl rfl ?_
  exact own_refl
theorem own_s01_3 (xc : Int32) (xn : Int32) (xp : Int32) (y0 : Int32) (y1 : Int32) (y2 : Int32) (x : Addr) :
    own_Go own_K0 code 99 #[.val (.int xc), .val (.int xn), .val (.int xp), .val (.int y0), .val (.int y1), .val (.int y2), .val (.ref x), .val (.int (1 : Int32)), .val (.int (0 : Int32)), .val (.int (0 : Int32))] [(.int (1 : Int32))] 161 #[.val (.int xc), .val (.int xn), .val (.int xp), .val (.int y0), .val (.int y1), .val (.int y2), .val (.ref x), .val (.int (1 : Int32)), .val (.int (0 : Int32)), .val (.int (0 : Int32))] [(.ref x)] := by
  refine own_iload (pc2 := 101) at_99 rfl rfl ?_
  refine own_ifNo (pc2 := 104) at_101 rfl (by decide) ?_
  refine own_iconst (v := 1) (pc2 := 105) at_104 rfl rfl ?_
  refine own_goto (pc' := 109) at_105 (by decide) (by decide) ?_
  refine own_icmpNo (pc2 := 112) at_109 rfl (by decide) ?_
  refine own_iconst (v := 1) (pc2 := 113) at_112 rfl rfl ?_
  refine own_goto (pc' := 117) at_113 (by decide) (by decide) ?_
  refine own_istore (pc2 := 119) at_117 rfl (L' := #[.val (.int xc), .val (.int xn), .val (.int xp), .val (.int y0), .val (.int y1), .val (.int y2), .val (.ref x), .val (.int (1 : Int32)), .val (.int (0 : Int32)), .val (.int (0 : Int32))]) rfl ?_
  refine own_iload (pc2 := 121) at_119 rfl rfl ?_
  refine own_ifYes (pc' := 130) at_121 (by decide) (by decide) (by decide) ?_
  refine own_iload (pc2 := 132) at_130 rfl rfl ?_
  refine own_iconst (v := 1) (pc2 := 133) at_132 rfl rfl ?_
  refine own_icmpYes (pc' := 142) at_133 (by decide) (by decide) (by decide) ?_
  refine own_iload (pc2 := 144) at_142 rfl rfl ?_
  refine own_iconst (v := 2) (pc2 := 145) at_144 rfl rfl ?_
  refine own_icmpYes (pc' := 154) at_145 (by decide) (by decide) (by decide) ?_
  refine own_iload (pc2 := 156) at_154 rfl rfl ?_
  refine own_ifNo (pc2 := 159) at_156 rfl (by decide) ?_
  refine own_aload (pc2 := 161) at_159 rfl rfl rfl ?_
  exact own_refl
theorem own_s01_4 (xc : Int32) (xn : Int32) (xp : Int32) (y0 : Int32) (y1 : Int32) (y2 : Int32) (x : Addr) :
    own_Go own_K0 code 164 #[.val (.int xc), .val (.int xn), .val (.int xp), .val (.int y0), .val (.int y1), .val (.int y2), .val (.ref x), .val (.int (1 : Int32)), .val (.int (0 : Int32)), .val (.int (0 : Int32))] [(.int (1 : Int32))] 188 #[.val (.int xc), .val (.int xn), .val (.int xp), .val (.int y0), .val (.int y1), .val (.int y2), .val (.ref x), .val (.int (1 : Int32)), .val (.int (0 : Int32)), .val (.int (0 : Int32))] [(.int (1 : Int32))] := by
  refine own_iload (pc2 := 166) at_164 rfl rfl ?_
  refine own_iload (pc2 := 168) at_166 rfl rfl ?_
  refine own_icmpNo (pc2 := 171) at_168 rfl (by decide) ?_
  refine own_iconst (v := 1) (pc2 := 172) at_171 rfl rfl ?_
  refine own_goto (pc' := 176) at_172 (by decide) (by decide) ?_
  refine own_icmpNo (pc2 := 179) at_176 rfl (by decide) ?_
  refine own_iconst (v := 1) (pc2 := 180) at_179 rfl rfl ?_
  refine own_goto (pc' := 184) at_180 (by decide) (by decide) ?_
  refine own_istore (pc2 := 186) at_184 rfl (L' := #[.val (.int xc), .val (.int xn), .val (.int xp), .val (.int y0), .val (.int y1), .val (.int y2), .val (.ref x), .val (.int (1 : Int32)), .val (.int (0 : Int32)), .val (.int (0 : Int32))]) rfl ?_
  refine own_iload (pc2 := 188) at_186 rfl rfl ?_
  exact own_refl
set_option maxRecDepth 65536 in
set_option maxHeartbeats 40000000 in
theorem own_law01 (l : Launch) (Z : State) (a0 : Array Value) (hb0 : Heap) (hw : ∀ d ∈ tables_1, d.before a0 Z = true) (xc : Int32) (xn : Int32) (xp : Int32) (y0 : Int32) (y1 : Int32) (y2 : Int32) (hkk : (xn &&& (3 : Int32)) = (0 : Int32)) (hpp : (xp &&& (3 : Int32)) = (1 : Int32)) :
    own_Met l Z a0 hb0 x code maxLocals ret tables_1 room_1 #[(.int xc), (.int xn), (.int xp), (.int y0), (.int y1), (.int y2)] [] (fun v _ => v = some (.int 1)) := by
  refine own_met_of (L0 := #[.val (.int xc), .val (.int xn), .val (.int xp), .val (.int y0), .val (.int y1), .val (.int y2), .unset, .unset, .unset, .unset]) (plainFor_of_name own_pn0) (fun m => own_ef0 m xc xn xp y0 y1 y2) ?_
  intro p e s m below meth c T0 hx hZ hown hby hml hnm H0
  have hown : s.vm.findClass "com/example/recourse/recourse/network/NodeHeapIsEmptyPinLaw" = some m.cls := hown
  have hml : c.maxLocals = 10 := hml
  obtain ⟨Ts01_1, x, Hs01_1, sts01_1⟩ := own_newO H0 hx hZ hown (hw _ (List.mem_of_getElem? (i := 0) rfl)) (hw _ (List.mem_of_getElem? (i := 1) rfl)) (hw _ (List.mem_of_getElem? (i := 2) rfl)) [("com/example/recourse/recourse/network/NodeHeap", "nodes", "[I", .null), ("com/example/recourse/recourse/network/NodeHeap", "distances", "[D", .null), ("com/example/recourse/recourse/network/NodeHeap", "remainders", "[D", .null), ("com/example/recourse/recourse/network/NodeHeap", "size", "I", .int 0)] (by
      intro f hf
      simp only [List.mem_cons, List.not_mem_nil, or_false] at hf
      rcases hf with rfl | rfl | rfl | rfl
      · exact ⟨Or.inl (hw _ (List.mem_of_getElem? (i := 15) rfl)), (.array .int), by decide, rfl⟩
      · exact ⟨Or.inl (hw _ (List.mem_of_getElem? (i := 18) rfl)), (.array .double), by decide, rfl⟩
      · exact ⟨Or.inl (hw _ (List.mem_of_getElem? (i := 20) rfl)), (.array .double), by decide, rfl⟩
      · exact ⟨Or.inl (hw _ (List.mem_of_getElem? (i := 27) rfl)), .int, by decide, rfl⟩) (by decide) (g := (mkF m 0 #[.val (.int xc), .val (.int xn), .val (.int xp), .val (.int y0), .val (.int y1), .val (.int y2), .unset, .unset, .unset, .unset] [])) rfl (hb hby at_0) (by decide) (by decide)
  change own_S _ _ _ _ _ _ _ _ _ _ _ _ _ _ [(x, own_O "com/example/recourse/recourse/network/NodeHeap" [("com/example/recourse/recourse/network/NodeHeap", "nodes", "[I", .null), ("com/example/recourse/recourse/network/NodeHeap", "distances", "[D", .null), ("com/example/recourse/recourse/network/NodeHeap", "remainders", "[D", .null), ("com/example/recourse/recourse/network/NodeHeap", "size", "I", .int 0)])] _ _ at Hs01_1
  obtain ⟨v7, hv7⟩ : ∃ z : Int32, (xc &&& (63 : Int32)) = z := ⟨_, rfl⟩
  obtain ⟨v10, hv10⟩ : ∃ z : Int32, (v7 - (16 : Int32)) = z := ⟨_, rfl⟩
  have hk : v10.toInt ≤ 47 := by
    have h1 := c_mask xc 63 6 (by decide) (by decide)
    have h2 := c_isub v7 16
    have := rng32 v10
    rw [hv7] at h1
    rw [hv10, show (16 : Int32).toInt = 16 from rfl] at h2
    omega
  obtain ⟨Ts01_2, vs01_2_, css01_2_, qs01_2, Hs01_2, sts01_2⟩ := own_callI Hs01_1 hx hZ hown rfl (hw _ (List.mem_of_getElem? (i := 3) rfl)) (hw _ (List.mem_of_getElem? (i := 4) rfl)) (hw _ (List.mem_of_getElem? (i := 2) rfl)) (hw _ (List.mem_of_getElem? (i := 5) rfl)) (by decide) (x := x) (argsL := [(.int v10)]) (rest := [(.ref x)]) (W := 1) (own_init l Z a0 hb0 hw x v10 hk) (by decide) (by decide) (by decide) (by decide) (g := (mkF m 11 #[.val (.int xc), .val (.int xn), .val (.int xp), .val (.int y0), .val (.int y1), .val (.int y2), .unset, .unset, .unset, .unset] [(.int v10), (.ref x), (.ref x)])) rfl (by rw [hml]; rfl) (lenOf own_pd4 rfl) rfl (by show 2 * 0 + _ ≤ _; exact Nat.le_of_eq rfl) (hb hby at_11)
  obtain ⟨an, ad, ar, mm, z, hl, hzz, rfl, rfl⟩ := qs01_2
  change own_S _ _ _ _ _ _ _ _ _ _ _ _ _ _ [(x, own_O "com/example/recourse/recourse/network/NodeHeap" [("com/example/recourse/recourse/network/NodeHeap", "nodes", "[I", .ref an), ("com/example/recourse/recourse/network/NodeHeap", "distances", "[D", .ref ad), ("com/example/recourse/recourse/network/NodeHeap", "remainders", "[D", .ref ar), ("com/example/recourse/recourse/network/NodeHeap", "size", "I", .int 0)]), (an, own_A .int ((.int 0) :: (.int 0) :: (.int 0) :: List.replicate mm (.int 0))), (ad, own_A .double ((.double 0) :: (.double 0) :: (.double 0) :: List.replicate mm (.double 0))), (ar, own_A .double ((.double 0) :: (.double 0) :: (.double 0) :: List.replicate mm (.double 0)))] _ _ at Hs01_2
  obtain ⟨Ts01_3, vs01_3_, css01_3_, qs01_3, Hs01_3, sts01_3⟩ := own_callV Hs01_2 hx hZ hown (hw _ (List.mem_of_getElem? (i := 21) rfl)) (hw _ (List.mem_of_getElem? (i := 22) rfl)) (hw _ (List.mem_of_getElem? (i := 24) rfl)) (hw _ (List.mem_of_getElem? (i := 23) rfl)) (hw _ (List.mem_of_getElem? (i := 2) rfl)) (hw _ (List.mem_of_getElem? (i := 25) rfl)) (by decide) (x := x) 0 rfl (argsL := []) (rest := []) (W := 0) (own_emp0 l Z a0 hb0 hw x an ad ar mm 0 0 0 0 0 0 0 0 0) (by decide) (by decide) (by decide) (by decide) (g := (mkF m 18 #[.val (.int xc), .val (.int xn), .val (.int xp), .val (.int y0), .val (.int y1), .val (.int y2), .val (.ref x), .unset, .unset, .unset] [(.ref x)])) rfl (by rw [hml]; rfl) (lenOf own_pd2 rfl) rfl (by show 2 * 0 + _ ≤ _; exact Nat.le_of_eq rfl) (hb hby at_18)
  obtain ⟨rfl, rfl⟩ := qs01_3
  change own_S _ _ _ _ _ _ _ _ _ _ _ _ _ _ [(x, own_O "com/example/recourse/recourse/network/NodeHeap" [("com/example/recourse/recourse/network/NodeHeap", "nodes", "[I", .ref an), ("com/example/recourse/recourse/network/NodeHeap", "distances", "[D", .ref ad), ("com/example/recourse/recourse/network/NodeHeap", "remainders", "[D", .ref ar), ("com/example/recourse/recourse/network/NodeHeap", "size", "I", .int 0)]), (an, own_A .int ((.int 0) :: (.int 0) :: (.int 0) :: List.replicate mm (.int 0))), (ad, own_A .double ((.double 0) :: (.double 0) :: (.double 0) :: List.replicate mm (.double 0))), (ar, own_A .double ((.double 0) :: (.double 0) :: (.double 0) :: List.replicate mm (.double 0)))] _ _ at Hs01_3
  obtain ⟨Ts01_4, vs01_4_, css01_4_, qs01_4, Hs01_4, sts01_4⟩ := own_callV Hs01_3 hx hZ hown (hw _ (List.mem_of_getElem? (i := 21) rfl)) (hw _ (List.mem_of_getElem? (i := 22) rfl)) (hw _ (List.mem_of_getElem? (i := 24) rfl)) (hw _ (List.mem_of_getElem? (i := 23) rfl)) (hw _ (List.mem_of_getElem? (i := 2) rfl)) (hw _ (List.mem_of_getElem? (i := 25) rfl)) (by decide) (x := x) 0 rfl (argsL := []) (rest := []) (W := 0) (own_emp0 l Z a0 hb0 hw x an ad ar mm 0 0 0 0 0 0 0 0 0) (by decide) (by decide) (by decide) (by decide) (g := (mkF m 96 #[.val (.int xc), .val (.int xn), .val (.int xp), .val (.int y0), .val (.int y1), .val (.int y2), .val (.ref x), .val (.int (1 : Int32)), .val (.int (0 : Int32)), .val (.int (0 : Int32))] [(.ref x)])) rfl (by rw [hml]; rfl) (lenOf own_pd2 rfl) rfl (by show 2 * 0 + _ ≤ _; exact Nat.le_of_eq rfl) (hb hby at_96)
  obtain ⟨rfl, rfl⟩ := qs01_4
  change own_S _ _ _ _ _ _ _ _ _ _ _ _ _ _ [(x, own_O "com/example/recourse/recourse/network/NodeHeap" [("com/example/recourse/recourse/network/NodeHeap", "nodes", "[I", .ref an), ("com/example/recourse/recourse/network/NodeHeap", "distances", "[D", .ref ad), ("com/example/recourse/recourse/network/NodeHeap", "remainders", "[D", .ref ar), ("com/example/recourse/recourse/network/NodeHeap", "size", "I", .int 0)]), (an, own_A .int ((.int 0) :: (.int 0) :: (.int 0) :: List.replicate mm (.int 0))), (ad, own_A .double ((.double 0) :: (.double 0) :: (.double 0) :: List.replicate mm (.double 0))), (ar, own_A .double ((.double 0) :: (.double 0) :: (.double 0) :: List.replicate mm (.double 0)))] _ _ at Hs01_4
  obtain ⟨Ts01_5, vs01_5_, css01_5_, qs01_5, Hs01_5, sts01_5⟩ := own_callV Hs01_4 hx hZ hown (hw _ (List.mem_of_getElem? (i := 21) rfl)) (hw _ (List.mem_of_getElem? (i := 22) rfl)) (hw _ (List.mem_of_getElem? (i := 24) rfl)) (hw _ (List.mem_of_getElem? (i := 23) rfl)) (hw _ (List.mem_of_getElem? (i := 2) rfl)) (hw _ (List.mem_of_getElem? (i := 25) rfl)) (by decide) (x := x) 0 rfl (argsL := []) (rest := []) (W := 0) (own_emp0 l Z a0 hb0 hw x an ad ar mm 0 0 0 0 0 0 0 0 0) (by decide) (by decide) (by decide) (by decide) (g := (mkF m 161 #[.val (.int xc), .val (.int xn), .val (.int xp), .val (.int y0), .val (.int y1), .val (.int y2), .val (.ref x), .val (.int (1 : Int32)), .val (.int (0 : Int32)), .val (.int (0 : Int32))] [(.ref x)])) rfl (by rw [hml]; rfl) (lenOf own_pd2 rfl) rfl (by show 2 * 0 + _ ≤ _; exact Nat.le_of_eq rfl) (hb hby at_161)
  obtain ⟨rfl, rfl⟩ := qs01_5
  change own_S _ _ _ _ _ _ _ _ _ _ _ _ _ _ [(x, own_O "com/example/recourse/recourse/network/NodeHeap" [("com/example/recourse/recourse/network/NodeHeap", "nodes", "[I", .ref an), ("com/example/recourse/recourse/network/NodeHeap", "distances", "[D", .ref ad), ("com/example/recourse/recourse/network/NodeHeap", "remainders", "[D", .ref ar), ("com/example/recourse/recourse/network/NodeHeap", "size", "I", .int 0)]), (an, own_A .int ((.int 0) :: (.int 0) :: (.int 0) :: List.replicate mm (.int 0))), (ad, own_A .double ((.double 0) :: (.double 0) :: (.double 0) :: List.replicate mm (.double 0))), (ar, own_A .double ((.double 0) :: (.double 0) :: (.double 0) :: List.replicate mm (.double 0)))] _ _ at Hs01_5
  refine ⟨_, _, _, _, 188, #[.val (.int xc), .val (.int xn), .val (.int xp), .val (.int y0), .val (.int y1), .val (.int y2), .val (.ref x), .val (.int (1 : Int32)), .val (.int (0 : Int32)), .val (.int (0 : Int32))], Hs01_5, by decide, by decide, Or.inr ⟨.boolean, (.int (1 : Int32)), [], .ireturn, rfl, rfl, at_188, own_retZ (Or.inr rfl), fun target q => ?_⟩⟩
  refine sts01_1 _ ?_
  refine own_go Hs01_1 hx hZ hown hby hw own_K0_ok (own_s01_0 xc xn xp y0 y1 y2 x v7 hv7 v10 hv10) _ ?_
  refine sts01_2 _ ?_
  refine own_go Hs01_2 hx hZ hown hby hw own_K0_ok (own_s01_1 xc xn xp y0 y1 y2 x) _ ?_
  refine sts01_3 _ ?_
  refine own_go Hs01_3 hx hZ hown hby hw own_K0_ok (own_s01_2 xc xn xp y0 y1 y2 x hkk hpp) _ ?_
  refine sts01_4 _ ?_
  refine own_go Hs01_4 hx hZ hown hby hw own_K0_ok (own_s01_3 xc xn xp y0 y1 y2 x) _ ?_
  refine sts01_5 _ ?_
  refine own_go Hs01_5 hx hZ hown hby hw own_K0_ok (own_s01_4 xc xn xp y0 y1 y2 x) _ ?_
  exact q
theorem own_s02_0 (xc : Int32) (xn : Int32) (xp : Int32) (y0 : Int32) (y1 : Int32) (y2 : Int32) (x : Addr) (v7 : Int32) (hv7 : (xc &&& (63 : Int32)) = v7) (v10 : Int32) (hv10 : (v7 - (16 : Int32)) = v10) :
    own_Go own_K0 code 3 #[.val (.int xc), .val (.int xn), .val (.int xp), .val (.int y0), .val (.int y1), .val (.int y2), .unset, .unset, .unset, .unset] [(.ref x)] 11 #[.val (.int xc), .val (.int xn), .val (.int xp), .val (.int y0), .val (.int y1), .val (.int y2), .unset, .unset, .unset, .unset] [(.int v10), (.ref x), (.ref x)] := by
  refine own_dup (pc2 := 4) at_3 rfl rfl ?_
  refine own_iloadN (pc2 := 5) at_4 rfl rfl ?_
  refine own_bipush (v := 63) (pc2 := 7) at_5 rfl rfl ?_
  refine own_iand (pc2 := 8) at_7 rfl (v := v7) hv7 ?_
  refine own_bipush (v := 16) (pc2 := 10) at_8 rfl rfl ?_
  refine own_isub (pc2 := 11) at_10 rfl (v := v10) hv10 ?_
  exact own_refl
theorem own_s02_1 (xc : Int32) (xn : Int32) (xp : Int32) (y0 : Int32) (y1 : Int32) (y2 : Int32) (x : Addr) :
    own_Go own_K0 code 14 #[.val (.int xc), .val (.int xn), .val (.int xp), .val (.int y0), .val (.int y1), .val (.int y2), .unset, .unset, .unset, .unset] [(.ref x)] 18 #[.val (.int xc), .val (.int xn), .val (.int xp), .val (.int y0), .val (.int y1), .val (.int y2), .val (.ref x), .unset, .unset, .unset] [(.ref x)] := by
  refine own_astore (pc2 := 16) at_14 rfl rfl (L' := #[.val (.int xc), .val (.int xn), .val (.int xp), .val (.int y0), .val (.int y1), .val (.int y2), .val (.ref x), .unset, .unset, .unset]) rfl ?_
  refine own_aload (pc2 := 18) at_16 rfl rfl rfl ?_
  exact own_refl
theorem own_s02_2 (xc : Int32) (xn : Int32) (xp : Int32) (y0 : Int32) (y1 : Int32) (y2 : Int32) (x : Addr) (hkk : (xn &&& (3 : Int32)) = (0 : Int32)) (hpp : (xp &&& (3 : Int32)) = (2 : Int32)) :
    own_Go own_K0 code 21 #[.val (.int xc), .val (.int xn), .val (.int xp), .val (.int y0), .val (.int y1), .val (.int y2), .val (.ref x), .unset, .unset, .unset] [(.int (1 : Int32))] 96 #[.val (.int xc), .val (.int xn), .val (.int xp), .val (.int y0), .val (.int y1), .val (.int y2), .val (.ref x), .val (.int (1 : Int32)), .val (.int (0 : Int32)), .val (.int (0 : Int32))] [(.ref x)] := by
  refine own_istore (pc2 := 23) at_21 rfl (L' := #[.val (.int xc), .val (.int xn), .val (.int xp), .val (.int y0), .val (.int y1), .val (.int y2), .val (.ref x), .val (.int (1 : Int32)), .unset, .unset]) rfl ?_
  refine own_iloadN (pc2 := 24) at_23 rfl rfl ?_
  refine own_iconst (v := 3) (pc2 := 25) at_24 rfl rfl ?_
  refine own_iand (pc2 := 26) at_25 rfl (v := (0 : Int32)) hkk ?_
  refine own_istore (pc2 := 28) at_26 rfl (L' := #[.val (.int xc), .val (.int xn), .val (.int xp), .val (.int y0), .val (.int y1), .val (.int y2), .val (.ref x), .val (.int (1 : Int32)), .val (.int (0 : Int32)), .unset]) rfl ?_
  refine own_iloadN (pc2 := 29) at_28 rfl rfl ?_
  refine own_iconst (v := 3) (pc2 := 30) at_29 rfl rfl ?_
  refine own_iand (pc2 := 31) at_30 rfl (v := (2 : Int32)) hpp ?_
  refine own_istore (pc2 := 33) at_31 rfl (L' := #[.val (.int xc), .val (.int xn), .val (.int xp), .val (.int y0), .val (.int y1), .val (.int y2), .val (.ref x), .val (.int (1 : Int32)), .val (.int (0 : Int32)), .val (.int (2 : Int32))]) rfl ?_
  refine own_iload (pc2 := 35) at_33 rfl rfl ?_
  refine own_iload (pc2 := 37) at_35 rfl rfl ?_
  refine own_icmpNo (pc2 := 40) at_37 rfl (by decide) ?_
  refine own_iload (pc2 := 42) at_40 rfl rfl ?_
  refine own_istore (pc2 := 44) at_42 rfl (L' := #[.val (.int xc), .val (.int xn), .val (.int xp), .val (.int y0), .val (.int y1), .val (.int y2), .val (.ref x), .val (.int (1 : Int32)), .val (.int (0 : Int32)), .val (.int (0 : Int32))]) rfl ?_
  refine own_iload (pc2 := 46) at_44 rfl rfl ?_
  refine own_ifYes (pc' := 57) at_46 (by decide) (by decide) (by decide) ?_
  refine own_iload (pc2 := 59) at_57 rfl rfl ?_
  refine own_iconst (v := 1) (pc2 := 60) at_59 rfl rfl ?_
  refine own_icmpYes (pc' := 73) at_60 (by decide) (by decide) (by decide) ?_
  refine own_iload (pc2 := 75) at_73 rfl rfl ?_
  refine own_iconst (v := 2) (pc2 := 76) at_75 rfl rfl ?_
  refine own_icmpYes (pc' := 89) at_76 (by decide) (by decide) (by decide) ?_
  refine own_iload (pc2 := 91) at_89 rfl rfl ?_
  refine own_ifNo (pc2 := 94) at_91 rfl (by decide) ?_
  refine own_aload (pc2 := 96) at_94 rfl rfl rfl ?_
  exact own_refl
theorem own_s02_3 (xc : Int32) (xn : Int32) (xp : Int32) (y0 : Int32) (y1 : Int32) (y2 : Int32) (x : Addr) :
    own_Go own_K0 code 99 #[.val (.int xc), .val (.int xn), .val (.int xp), .val (.int y0), .val (.int y1), .val (.int y2), .val (.ref x), .val (.int (1 : Int32)), .val (.int (0 : Int32)), .val (.int (0 : Int32))] [(.int (1 : Int32))] 161 #[.val (.int xc), .val (.int xn), .val (.int xp), .val (.int y0), .val (.int y1), .val (.int y2), .val (.ref x), .val (.int (1 : Int32)), .val (.int (0 : Int32)), .val (.int (0 : Int32))] [(.ref x)] := by
  refine own_iload (pc2 := 101) at_99 rfl rfl ?_
  refine own_ifNo (pc2 := 104) at_101 rfl (by decide) ?_
  refine own_iconst (v := 1) (pc2 := 105) at_104 rfl rfl ?_
  refine own_goto (pc' := 109) at_105 (by decide) (by decide) ?_
  refine own_icmpNo (pc2 := 112) at_109 rfl (by decide) ?_
  refine own_iconst (v := 1) (pc2 := 113) at_112 rfl rfl ?_
  refine own_goto (pc' := 117) at_113 (by decide) (by decide) ?_
  refine own_istore (pc2 := 119) at_117 rfl (L' := #[.val (.int xc), .val (.int xn), .val (.int xp), .val (.int y0), .val (.int y1), .val (.int y2), .val (.ref x), .val (.int (1 : Int32)), .val (.int (0 : Int32)), .val (.int (0 : Int32))]) rfl ?_
  refine own_iload (pc2 := 121) at_119 rfl rfl ?_
  refine own_ifYes (pc' := 130) at_121 (by decide) (by decide) (by decide) ?_
  refine own_iload (pc2 := 132) at_130 rfl rfl ?_
  refine own_iconst (v := 1) (pc2 := 133) at_132 rfl rfl ?_
  refine own_icmpYes (pc' := 142) at_133 (by decide) (by decide) (by decide) ?_
  refine own_iload (pc2 := 144) at_142 rfl rfl ?_
  refine own_iconst (v := 2) (pc2 := 145) at_144 rfl rfl ?_
  refine own_icmpYes (pc' := 154) at_145 (by decide) (by decide) (by decide) ?_
  refine own_iload (pc2 := 156) at_154 rfl rfl ?_
  refine own_ifNo (pc2 := 159) at_156 rfl (by decide) ?_
  refine own_aload (pc2 := 161) at_159 rfl rfl rfl ?_
  exact own_refl
theorem own_s02_4 (xc : Int32) (xn : Int32) (xp : Int32) (y0 : Int32) (y1 : Int32) (y2 : Int32) (x : Addr) :
    own_Go own_K0 code 164 #[.val (.int xc), .val (.int xn), .val (.int xp), .val (.int y0), .val (.int y1), .val (.int y2), .val (.ref x), .val (.int (1 : Int32)), .val (.int (0 : Int32)), .val (.int (0 : Int32))] [(.int (1 : Int32))] 188 #[.val (.int xc), .val (.int xn), .val (.int xp), .val (.int y0), .val (.int y1), .val (.int y2), .val (.ref x), .val (.int (1 : Int32)), .val (.int (0 : Int32)), .val (.int (0 : Int32))] [(.int (1 : Int32))] := by
  refine own_iload (pc2 := 166) at_164 rfl rfl ?_
  refine own_iload (pc2 := 168) at_166 rfl rfl ?_
  refine own_icmpNo (pc2 := 171) at_168 rfl (by decide) ?_
  refine own_iconst (v := 1) (pc2 := 172) at_171 rfl rfl ?_
  refine own_goto (pc' := 176) at_172 (by decide) (by decide) ?_
  refine own_icmpNo (pc2 := 179) at_176 rfl (by decide) ?_
  refine own_iconst (v := 1) (pc2 := 180) at_179 rfl rfl ?_
  refine own_goto (pc' := 184) at_180 (by decide) (by decide) ?_
  refine own_istore (pc2 := 186) at_184 rfl (L' := #[.val (.int xc), .val (.int xn), .val (.int xp), .val (.int y0), .val (.int y1), .val (.int y2), .val (.ref x), .val (.int (1 : Int32)), .val (.int (0 : Int32)), .val (.int (0 : Int32))]) rfl ?_
  refine own_iload (pc2 := 188) at_186 rfl rfl ?_
  exact own_refl
set_option maxRecDepth 65536 in
set_option maxHeartbeats 40000000 in
theorem own_law02 (l : Launch) (Z : State) (a0 : Array Value) (hb0 : Heap) (hw : ∀ d ∈ tables_1, d.before a0 Z = true) (xc : Int32) (xn : Int32) (xp : Int32) (y0 : Int32) (y1 : Int32) (y2 : Int32) (hkk : (xn &&& (3 : Int32)) = (0 : Int32)) (hpp : (xp &&& (3 : Int32)) = (2 : Int32)) :
    own_Met l Z a0 hb0 x code maxLocals ret tables_1 room_1 #[(.int xc), (.int xn), (.int xp), (.int y0), (.int y1), (.int y2)] [] (fun v _ => v = some (.int 1)) := by
  refine own_met_of (L0 := #[.val (.int xc), .val (.int xn), .val (.int xp), .val (.int y0), .val (.int y1), .val (.int y2), .unset, .unset, .unset, .unset]) (plainFor_of_name own_pn0) (fun m => own_ef0 m xc xn xp y0 y1 y2) ?_
  intro p e s m below meth c T0 hx hZ hown hby hml hnm H0
  have hown : s.vm.findClass "com/example/recourse/recourse/network/NodeHeapIsEmptyPinLaw" = some m.cls := hown
  have hml : c.maxLocals = 10 := hml
  obtain ⟨Ts02_1, x, Hs02_1, sts02_1⟩ := own_newO H0 hx hZ hown (hw _ (List.mem_of_getElem? (i := 0) rfl)) (hw _ (List.mem_of_getElem? (i := 1) rfl)) (hw _ (List.mem_of_getElem? (i := 2) rfl)) [("com/example/recourse/recourse/network/NodeHeap", "nodes", "[I", .null), ("com/example/recourse/recourse/network/NodeHeap", "distances", "[D", .null), ("com/example/recourse/recourse/network/NodeHeap", "remainders", "[D", .null), ("com/example/recourse/recourse/network/NodeHeap", "size", "I", .int 0)] (by
      intro f hf
      simp only [List.mem_cons, List.not_mem_nil, or_false] at hf
      rcases hf with rfl | rfl | rfl | rfl
      · exact ⟨Or.inl (hw _ (List.mem_of_getElem? (i := 15) rfl)), (.array .int), by decide, rfl⟩
      · exact ⟨Or.inl (hw _ (List.mem_of_getElem? (i := 18) rfl)), (.array .double), by decide, rfl⟩
      · exact ⟨Or.inl (hw _ (List.mem_of_getElem? (i := 20) rfl)), (.array .double), by decide, rfl⟩
      · exact ⟨Or.inl (hw _ (List.mem_of_getElem? (i := 27) rfl)), .int, by decide, rfl⟩) (by decide) (g := (mkF m 0 #[.val (.int xc), .val (.int xn), .val (.int xp), .val (.int y0), .val (.int y1), .val (.int y2), .unset, .unset, .unset, .unset] [])) rfl (hb hby at_0) (by decide) (by decide)
  change own_S _ _ _ _ _ _ _ _ _ _ _ _ _ _ [(x, own_O "com/example/recourse/recourse/network/NodeHeap" [("com/example/recourse/recourse/network/NodeHeap", "nodes", "[I", .null), ("com/example/recourse/recourse/network/NodeHeap", "distances", "[D", .null), ("com/example/recourse/recourse/network/NodeHeap", "remainders", "[D", .null), ("com/example/recourse/recourse/network/NodeHeap", "size", "I", .int 0)])] _ _ at Hs02_1
  obtain ⟨v7, hv7⟩ : ∃ z : Int32, (xc &&& (63 : Int32)) = z := ⟨_, rfl⟩
  obtain ⟨v10, hv10⟩ : ∃ z : Int32, (v7 - (16 : Int32)) = z := ⟨_, rfl⟩
  have hk : v10.toInt ≤ 47 := by
    have h1 := c_mask xc 63 6 (by decide) (by decide)
    have h2 := c_isub v7 16
    have := rng32 v10
    rw [hv7] at h1
    rw [hv10, show (16 : Int32).toInt = 16 from rfl] at h2
    omega
  obtain ⟨Ts02_2, vs02_2_, css02_2_, qs02_2, Hs02_2, sts02_2⟩ := own_callI Hs02_1 hx hZ hown rfl (hw _ (List.mem_of_getElem? (i := 3) rfl)) (hw _ (List.mem_of_getElem? (i := 4) rfl)) (hw _ (List.mem_of_getElem? (i := 2) rfl)) (hw _ (List.mem_of_getElem? (i := 5) rfl)) (by decide) (x := x) (argsL := [(.int v10)]) (rest := [(.ref x)]) (W := 1) (own_init l Z a0 hb0 hw x v10 hk) (by decide) (by decide) (by decide) (by decide) (g := (mkF m 11 #[.val (.int xc), .val (.int xn), .val (.int xp), .val (.int y0), .val (.int y1), .val (.int y2), .unset, .unset, .unset, .unset] [(.int v10), (.ref x), (.ref x)])) rfl (by rw [hml]; rfl) (lenOf own_pd4 rfl) rfl (by show 2 * 0 + _ ≤ _; exact Nat.le_of_eq rfl) (hb hby at_11)
  obtain ⟨an, ad, ar, mm, z, hl, hzz, rfl, rfl⟩ := qs02_2
  change own_S _ _ _ _ _ _ _ _ _ _ _ _ _ _ [(x, own_O "com/example/recourse/recourse/network/NodeHeap" [("com/example/recourse/recourse/network/NodeHeap", "nodes", "[I", .ref an), ("com/example/recourse/recourse/network/NodeHeap", "distances", "[D", .ref ad), ("com/example/recourse/recourse/network/NodeHeap", "remainders", "[D", .ref ar), ("com/example/recourse/recourse/network/NodeHeap", "size", "I", .int 0)]), (an, own_A .int ((.int 0) :: (.int 0) :: (.int 0) :: List.replicate mm (.int 0))), (ad, own_A .double ((.double 0) :: (.double 0) :: (.double 0) :: List.replicate mm (.double 0))), (ar, own_A .double ((.double 0) :: (.double 0) :: (.double 0) :: List.replicate mm (.double 0)))] _ _ at Hs02_2
  obtain ⟨Ts02_3, vs02_3_, css02_3_, qs02_3, Hs02_3, sts02_3⟩ := own_callV Hs02_2 hx hZ hown (hw _ (List.mem_of_getElem? (i := 21) rfl)) (hw _ (List.mem_of_getElem? (i := 22) rfl)) (hw _ (List.mem_of_getElem? (i := 24) rfl)) (hw _ (List.mem_of_getElem? (i := 23) rfl)) (hw _ (List.mem_of_getElem? (i := 2) rfl)) (hw _ (List.mem_of_getElem? (i := 25) rfl)) (by decide) (x := x) 0 rfl (argsL := []) (rest := []) (W := 0) (own_emp0 l Z a0 hb0 hw x an ad ar mm 0 0 0 0 0 0 0 0 0) (by decide) (by decide) (by decide) (by decide) (g := (mkF m 18 #[.val (.int xc), .val (.int xn), .val (.int xp), .val (.int y0), .val (.int y1), .val (.int y2), .val (.ref x), .unset, .unset, .unset] [(.ref x)])) rfl (by rw [hml]; rfl) (lenOf own_pd2 rfl) rfl (by show 2 * 0 + _ ≤ _; exact Nat.le_of_eq rfl) (hb hby at_18)
  obtain ⟨rfl, rfl⟩ := qs02_3
  change own_S _ _ _ _ _ _ _ _ _ _ _ _ _ _ [(x, own_O "com/example/recourse/recourse/network/NodeHeap" [("com/example/recourse/recourse/network/NodeHeap", "nodes", "[I", .ref an), ("com/example/recourse/recourse/network/NodeHeap", "distances", "[D", .ref ad), ("com/example/recourse/recourse/network/NodeHeap", "remainders", "[D", .ref ar), ("com/example/recourse/recourse/network/NodeHeap", "size", "I", .int 0)]), (an, own_A .int ((.int 0) :: (.int 0) :: (.int 0) :: List.replicate mm (.int 0))), (ad, own_A .double ((.double 0) :: (.double 0) :: (.double 0) :: List.replicate mm (.double 0))), (ar, own_A .double ((.double 0) :: (.double 0) :: (.double 0) :: List.replicate mm (.double 0)))] _ _ at Hs02_3
  obtain ⟨Ts02_4, vs02_4_, css02_4_, qs02_4, Hs02_4, sts02_4⟩ := own_callV Hs02_3 hx hZ hown (hw _ (List.mem_of_getElem? (i := 21) rfl)) (hw _ (List.mem_of_getElem? (i := 22) rfl)) (hw _ (List.mem_of_getElem? (i := 24) rfl)) (hw _ (List.mem_of_getElem? (i := 23) rfl)) (hw _ (List.mem_of_getElem? (i := 2) rfl)) (hw _ (List.mem_of_getElem? (i := 25) rfl)) (by decide) (x := x) 0 rfl (argsL := []) (rest := []) (W := 0) (own_emp0 l Z a0 hb0 hw x an ad ar mm 0 0 0 0 0 0 0 0 0) (by decide) (by decide) (by decide) (by decide) (g := (mkF m 96 #[.val (.int xc), .val (.int xn), .val (.int xp), .val (.int y0), .val (.int y1), .val (.int y2), .val (.ref x), .val (.int (1 : Int32)), .val (.int (0 : Int32)), .val (.int (0 : Int32))] [(.ref x)])) rfl (by rw [hml]; rfl) (lenOf own_pd2 rfl) rfl (by show 2 * 0 + _ ≤ _; exact Nat.le_of_eq rfl) (hb hby at_96)
  obtain ⟨rfl, rfl⟩ := qs02_4
  change own_S _ _ _ _ _ _ _ _ _ _ _ _ _ _ [(x, own_O "com/example/recourse/recourse/network/NodeHeap" [("com/example/recourse/recourse/network/NodeHeap", "nodes", "[I", .ref an), ("com/example/recourse/recourse/network/NodeHeap", "distances", "[D", .ref ad), ("com/example/recourse/recourse/network/NodeHeap", "remainders", "[D", .ref ar), ("com/example/recourse/recourse/network/NodeHeap", "size", "I", .int 0)]), (an, own_A .int ((.int 0) :: (.int 0) :: (.int 0) :: List.replicate mm (.int 0))), (ad, own_A .double ((.double 0) :: (.double 0) :: (.double 0) :: List.replicate mm (.double 0))), (ar, own_A .double ((.double 0) :: (.double 0) :: (.double 0) :: List.replicate mm (.double 0)))] _ _ at Hs02_4
  obtain ⟨Ts02_5, vs02_5_, css02_5_, qs02_5, Hs02_5, sts02_5⟩ := own_callV Hs02_4 hx hZ hown (hw _ (List.mem_of_getElem? (i := 21) rfl)) (hw _ (List.mem_of_getElem? (i := 22) rfl)) (hw _ (List.mem_of_getElem? (i := 24) rfl)) (hw _ (List.mem_of_getElem? (i := 23) rfl)) (hw _ (List.mem_of_getElem? (i := 2) rfl)) (hw _ (List.mem_of_getElem? (i := 25) rfl)) (by decide) (x := x) 0 rfl (argsL := []) (rest := []) (W := 0) (own_emp0 l Z a0 hb0 hw x an ad ar mm 0 0 0 0 0 0 0 0 0) (by decide) (by decide) (by decide) (by decide) (g := (mkF m 161 #[.val (.int xc), .val (.int xn), .val (.int xp), .val (.int y0), .val (.int y1), .val (.int y2), .val (.ref x), .val (.int (1 : Int32)), .val (.int (0 : Int32)), .val (.int (0 : Int32))] [(.ref x)])) rfl (by rw [hml]; rfl) (lenOf own_pd2 rfl) rfl (by show 2 * 0 + _ ≤ _; exact Nat.le_of_eq rfl) (hb hby at_161)
  obtain ⟨rfl, rfl⟩ := qs02_5
  change own_S _ _ _ _ _ _ _ _ _ _ _ _ _ _ [(x, own_O "com/example/recourse/recourse/network/NodeHeap" [("com/example/recourse/recourse/network/NodeHeap", "nodes", "[I", .ref an), ("com/example/recourse/recourse/network/NodeHeap", "distances", "[D", .ref ad), ("com/example/recourse/recourse/network/NodeHeap", "remainders", "[D", .ref ar), ("com/example/recourse/recourse/network/NodeHeap", "size", "I", .int 0)]), (an, own_A .int ((.int 0) :: (.int 0) :: (.int 0) :: List.replicate mm (.int 0))), (ad, own_A .double ((.double 0) :: (.double 0) :: (.double 0) :: List.replicate mm (.double 0))), (ar, own_A .double ((.double 0) :: (.double 0) :: (.double 0) :: List.replicate mm (.double 0)))] _ _ at Hs02_5
  refine ⟨_, _, _, _, 188, #[.val (.int xc), .val (.int xn), .val (.int xp), .val (.int y0), .val (.int y1), .val (.int y2), .val (.ref x), .val (.int (1 : Int32)), .val (.int (0 : Int32)), .val (.int (0 : Int32))], Hs02_5, by decide, by decide, Or.inr ⟨.boolean, (.int (1 : Int32)), [], .ireturn, rfl, rfl, at_188, own_retZ (Or.inr rfl), fun target q => ?_⟩⟩
  refine sts02_1 _ ?_
  refine own_go Hs02_1 hx hZ hown hby hw own_K0_ok (own_s02_0 xc xn xp y0 y1 y2 x v7 hv7 v10 hv10) _ ?_
  refine sts02_2 _ ?_
  refine own_go Hs02_2 hx hZ hown hby hw own_K0_ok (own_s02_1 xc xn xp y0 y1 y2 x) _ ?_
  refine sts02_3 _ ?_
  refine own_go Hs02_3 hx hZ hown hby hw own_K0_ok (own_s02_2 xc xn xp y0 y1 y2 x hkk hpp) _ ?_
  refine sts02_4 _ ?_
  refine own_go Hs02_4 hx hZ hown hby hw own_K0_ok (own_s02_3 xc xn xp y0 y1 y2 x) _ ?_
  refine sts02_5 _ ?_
  refine own_go Hs02_5 hx hZ hown hby hw own_K0_ok (own_s02_4 xc xn xp y0 y1 y2 x) _ ?_
  exact q
theorem own_s03_0 (xc : Int32) (xn : Int32) (xp : Int32) (y0 : Int32) (y1 : Int32) (y2 : Int32) (x : Addr) (v7 : Int32) (hv7 : (xc &&& (63 : Int32)) = v7) (v10 : Int32) (hv10 : (v7 - (16 : Int32)) = v10) :
    own_Go own_K0 code 3 #[.val (.int xc), .val (.int xn), .val (.int xp), .val (.int y0), .val (.int y1), .val (.int y2), .unset, .unset, .unset, .unset] [(.ref x)] 11 #[.val (.int xc), .val (.int xn), .val (.int xp), .val (.int y0), .val (.int y1), .val (.int y2), .unset, .unset, .unset, .unset] [(.int v10), (.ref x), (.ref x)] := by
  refine own_dup (pc2 := 4) at_3 rfl rfl ?_
  refine own_iloadN (pc2 := 5) at_4 rfl rfl ?_
  refine own_bipush (v := 63) (pc2 := 7) at_5 rfl rfl ?_
  refine own_iand (pc2 := 8) at_7 rfl (v := v7) hv7 ?_
  refine own_bipush (v := 16) (pc2 := 10) at_8 rfl rfl ?_
  refine own_isub (pc2 := 11) at_10 rfl (v := v10) hv10 ?_
  exact own_refl
theorem own_s03_1 (xc : Int32) (xn : Int32) (xp : Int32) (y0 : Int32) (y1 : Int32) (y2 : Int32) (x : Addr) :
    own_Go own_K0 code 14 #[.val (.int xc), .val (.int xn), .val (.int xp), .val (.int y0), .val (.int y1), .val (.int y2), .unset, .unset, .unset, .unset] [(.ref x)] 18 #[.val (.int xc), .val (.int xn), .val (.int xp), .val (.int y0), .val (.int y1), .val (.int y2), .val (.ref x), .unset, .unset, .unset] [(.ref x)] := by
  refine own_astore (pc2 := 16) at_14 rfl rfl (L' := #[.val (.int xc), .val (.int xn), .val (.int xp), .val (.int y0), .val (.int y1), .val (.int y2), .val (.ref x), .unset, .unset, .unset]) rfl ?_
  refine own_aload (pc2 := 18) at_16 rfl rfl rfl ?_
  exact own_refl
theorem own_s03_2 (xc : Int32) (xn : Int32) (xp : Int32) (y0 : Int32) (y1 : Int32) (y2 : Int32) (x : Addr) (hkk : (xn &&& (3 : Int32)) = (0 : Int32)) (hpp : (xp &&& (3 : Int32)) = (3 : Int32)) :
    own_Go own_K0 code 21 #[.val (.int xc), .val (.int xn), .val (.int xp), .val (.int y0), .val (.int y1), .val (.int y2), .val (.ref x), .unset, .unset, .unset] [(.int (1 : Int32))] 96 #[.val (.int xc), .val (.int xn), .val (.int xp), .val (.int y0), .val (.int y1), .val (.int y2), .val (.ref x), .val (.int (1 : Int32)), .val (.int (0 : Int32)), .val (.int (0 : Int32))] [(.ref x)] := by
  refine own_istore (pc2 := 23) at_21 rfl (L' := #[.val (.int xc), .val (.int xn), .val (.int xp), .val (.int y0), .val (.int y1), .val (.int y2), .val (.ref x), .val (.int (1 : Int32)), .unset, .unset]) rfl ?_
  refine own_iloadN (pc2 := 24) at_23 rfl rfl ?_
  refine own_iconst (v := 3) (pc2 := 25) at_24 rfl rfl ?_
  refine own_iand (pc2 := 26) at_25 rfl (v := (0 : Int32)) hkk ?_
  refine own_istore (pc2 := 28) at_26 rfl (L' := #[.val (.int xc), .val (.int xn), .val (.int xp), .val (.int y0), .val (.int y1), .val (.int y2), .val (.ref x), .val (.int (1 : Int32)), .val (.int (0 : Int32)), .unset]) rfl ?_
  refine own_iloadN (pc2 := 29) at_28 rfl rfl ?_
  refine own_iconst (v := 3) (pc2 := 30) at_29 rfl rfl ?_
  refine own_iand (pc2 := 31) at_30 rfl (v := (3 : Int32)) hpp ?_
  refine own_istore (pc2 := 33) at_31 rfl (L' := #[.val (.int xc), .val (.int xn), .val (.int xp), .val (.int y0), .val (.int y1), .val (.int y2), .val (.ref x), .val (.int (1 : Int32)), .val (.int (0 : Int32)), .val (.int (3 : Int32))]) rfl ?_
  refine own_iload (pc2 := 35) at_33 rfl rfl ?_
  refine own_iload (pc2 := 37) at_35 rfl rfl ?_
  refine own_icmpNo (pc2 := 40) at_37 rfl (by decide) ?_
  refine own_iload (pc2 := 42) at_40 rfl rfl ?_
  refine own_istore (pc2 := 44) at_42 rfl (L' := #[.val (.int xc), .val (.int xn), .val (.int xp), .val (.int y0), .val (.int y1), .val (.int y2), .val (.ref x), .val (.int (1 : Int32)), .val (.int (0 : Int32)), .val (.int (0 : Int32))]) rfl ?_
  refine own_iload (pc2 := 46) at_44 rfl rfl ?_
  refine own_ifYes (pc' := 57) at_46 (by decide) (by decide) (by decide) ?_
  refine own_iload (pc2 := 59) at_57 rfl rfl ?_
  refine own_iconst (v := 1) (pc2 := 60) at_59 rfl rfl ?_
  refine own_icmpYes (pc' := 73) at_60 (by decide) (by decide) (by decide) ?_
  refine own_iload (pc2 := 75) at_73 rfl rfl ?_
  refine own_iconst (v := 2) (pc2 := 76) at_75 rfl rfl ?_
  refine own_icmpYes (pc' := 89) at_76 (by decide) (by decide) (by decide) ?_
  refine own_iload (pc2 := 91) at_89 rfl rfl ?_
  refine own_ifNo (pc2 := 94) at_91 rfl (by decide) ?_
  refine own_aload (pc2 := 96) at_94 rfl rfl rfl ?_
  exact own_refl
theorem own_s03_3 (xc : Int32) (xn : Int32) (xp : Int32) (y0 : Int32) (y1 : Int32) (y2 : Int32) (x : Addr) :
    own_Go own_K0 code 99 #[.val (.int xc), .val (.int xn), .val (.int xp), .val (.int y0), .val (.int y1), .val (.int y2), .val (.ref x), .val (.int (1 : Int32)), .val (.int (0 : Int32)), .val (.int (0 : Int32))] [(.int (1 : Int32))] 161 #[.val (.int xc), .val (.int xn), .val (.int xp), .val (.int y0), .val (.int y1), .val (.int y2), .val (.ref x), .val (.int (1 : Int32)), .val (.int (0 : Int32)), .val (.int (0 : Int32))] [(.ref x)] := by
  refine own_iload (pc2 := 101) at_99 rfl rfl ?_
  refine own_ifNo (pc2 := 104) at_101 rfl (by decide) ?_
  refine own_iconst (v := 1) (pc2 := 105) at_104 rfl rfl ?_
  refine own_goto (pc' := 109) at_105 (by decide) (by decide) ?_
  refine own_icmpNo (pc2 := 112) at_109 rfl (by decide) ?_
  refine own_iconst (v := 1) (pc2 := 113) at_112 rfl rfl ?_
  refine own_goto (pc' := 117) at_113 (by decide) (by decide) ?_
  refine own_istore (pc2 := 119) at_117 rfl (L' := #[.val (.int xc), .val (.int xn), .val (.int xp), .val (.int y0), .val (.int y1), .val (.int y2), .val (.ref x), .val (.int (1 : Int32)), .val (.int (0 : Int32)), .val (.int (0 : Int32))]) rfl ?_
  refine own_iload (pc2 := 121) at_119 rfl rfl ?_
  refine own_ifYes (pc' := 130) at_121 (by decide) (by decide) (by decide) ?_
  refine own_iload (pc2 := 132) at_130 rfl rfl ?_
  refine own_iconst (v := 1) (pc2 := 133) at_132 rfl rfl ?_
  refine own_icmpYes (pc' := 142) at_133 (by decide) (by decide) (by decide) ?_
  refine own_iload (pc2 := 144) at_142 rfl rfl ?_
  refine own_iconst (v := 2) (pc2 := 145) at_144 rfl rfl ?_
  refine own_icmpYes (pc' := 154) at_145 (by decide) (by decide) (by decide) ?_
  refine own_iload (pc2 := 156) at_154 rfl rfl ?_
  refine own_ifNo (pc2 := 159) at_156 rfl (by decide) ?_
  refine own_aload (pc2 := 161) at_159 rfl rfl rfl ?_
  exact own_refl
theorem own_s03_4 (xc : Int32) (xn : Int32) (xp : Int32) (y0 : Int32) (y1 : Int32) (y2 : Int32) (x : Addr) :
    own_Go own_K0 code 164 #[.val (.int xc), .val (.int xn), .val (.int xp), .val (.int y0), .val (.int y1), .val (.int y2), .val (.ref x), .val (.int (1 : Int32)), .val (.int (0 : Int32)), .val (.int (0 : Int32))] [(.int (1 : Int32))] 188 #[.val (.int xc), .val (.int xn), .val (.int xp), .val (.int y0), .val (.int y1), .val (.int y2), .val (.ref x), .val (.int (1 : Int32)), .val (.int (0 : Int32)), .val (.int (0 : Int32))] [(.int (1 : Int32))] := by
  refine own_iload (pc2 := 166) at_164 rfl rfl ?_
  refine own_iload (pc2 := 168) at_166 rfl rfl ?_
  refine own_icmpNo (pc2 := 171) at_168 rfl (by decide) ?_
  refine own_iconst (v := 1) (pc2 := 172) at_171 rfl rfl ?_
  refine own_goto (pc' := 176) at_172 (by decide) (by decide) ?_
  refine own_icmpNo (pc2 := 179) at_176 rfl (by decide) ?_
  refine own_iconst (v := 1) (pc2 := 180) at_179 rfl rfl ?_
  refine own_goto (pc' := 184) at_180 (by decide) (by decide) ?_
  refine own_istore (pc2 := 186) at_184 rfl (L' := #[.val (.int xc), .val (.int xn), .val (.int xp), .val (.int y0), .val (.int y1), .val (.int y2), .val (.ref x), .val (.int (1 : Int32)), .val (.int (0 : Int32)), .val (.int (0 : Int32))]) rfl ?_
  refine own_iload (pc2 := 188) at_186 rfl rfl ?_
  exact own_refl
set_option maxRecDepth 65536 in
set_option maxHeartbeats 40000000 in
theorem own_law03 (l : Launch) (Z : State) (a0 : Array Value) (hb0 : Heap) (hw : ∀ d ∈ tables_1, d.before a0 Z = true) (xc : Int32) (xn : Int32) (xp : Int32) (y0 : Int32) (y1 : Int32) (y2 : Int32) (hkk : (xn &&& (3 : Int32)) = (0 : Int32)) (hpp : (xp &&& (3 : Int32)) = (3 : Int32)) :
    own_Met l Z a0 hb0 x code maxLocals ret tables_1 room_1 #[(.int xc), (.int xn), (.int xp), (.int y0), (.int y1), (.int y2)] [] (fun v _ => v = some (.int 1)) := by
  refine own_met_of (L0 := #[.val (.int xc), .val (.int xn), .val (.int xp), .val (.int y0), .val (.int y1), .val (.int y2), .unset, .unset, .unset, .unset]) (plainFor_of_name own_pn0) (fun m => own_ef0 m xc xn xp y0 y1 y2) ?_
  intro p e s m below meth c T0 hx hZ hown hby hml hnm H0
  have hown : s.vm.findClass "com/example/recourse/recourse/network/NodeHeapIsEmptyPinLaw" = some m.cls := hown
  have hml : c.maxLocals = 10 := hml
  obtain ⟨Ts03_1, x, Hs03_1, sts03_1⟩ := own_newO H0 hx hZ hown (hw _ (List.mem_of_getElem? (i := 0) rfl)) (hw _ (List.mem_of_getElem? (i := 1) rfl)) (hw _ (List.mem_of_getElem? (i := 2) rfl)) [("com/example/recourse/recourse/network/NodeHeap", "nodes", "[I", .null), ("com/example/recourse/recourse/network/NodeHeap", "distances", "[D", .null), ("com/example/recourse/recourse/network/NodeHeap", "remainders", "[D", .null), ("com/example/recourse/recourse/network/NodeHeap", "size", "I", .int 0)] (by
      intro f hf
      simp only [List.mem_cons, List.not_mem_nil, or_false] at hf
      rcases hf with rfl | rfl | rfl | rfl
      · exact ⟨Or.inl (hw _ (List.mem_of_getElem? (i := 15) rfl)), (.array .int), by decide, rfl⟩
      · exact ⟨Or.inl (hw _ (List.mem_of_getElem? (i := 18) rfl)), (.array .double), by decide, rfl⟩
      · exact ⟨Or.inl (hw _ (List.mem_of_getElem? (i := 20) rfl)), (.array .double), by decide, rfl⟩
      · exact ⟨Or.inl (hw _ (List.mem_of_getElem? (i := 27) rfl)), .int, by decide, rfl⟩) (by decide) (g := (mkF m 0 #[.val (.int xc), .val (.int xn), .val (.int xp), .val (.int y0), .val (.int y1), .val (.int y2), .unset, .unset, .unset, .unset] [])) rfl (hb hby at_0) (by decide) (by decide)
  change own_S _ _ _ _ _ _ _ _ _ _ _ _ _ _ [(x, own_O "com/example/recourse/recourse/network/NodeHeap" [("com/example/recourse/recourse/network/NodeHeap", "nodes", "[I", .null), ("com/example/recourse/recourse/network/NodeHeap", "distances", "[D", .null), ("com/example/recourse/recourse/network/NodeHeap", "remainders", "[D", .null), ("com/example/recourse/recourse/network/NodeHeap", "size", "I", .int 0)])] _ _ at Hs03_1
  obtain ⟨v7, hv7⟩ : ∃ z : Int32, (xc &&& (63 : Int32)) = z := ⟨_, rfl⟩
  obtain ⟨v10, hv10⟩ : ∃ z : Int32, (v7 - (16 : Int32)) = z := ⟨_, rfl⟩
  have hk : v10.toInt ≤ 47 := by
    have h1 := c_mask xc 63 6 (by decide) (by decide)
    have h2 := c_isub v7 16
    have := rng32 v10
    rw [hv7] at h1
    rw [hv10, show (16 : Int32).toInt = 16 from rfl] at h2
    omega
  obtain ⟨Ts03_2, vs03_2_, css03_2_, qs03_2, Hs03_2, sts03_2⟩ := own_callI Hs03_1 hx hZ hown rfl (hw _ (List.mem_of_getElem? (i := 3) rfl)) (hw _ (List.mem_of_getElem? (i := 4) rfl)) (hw _ (List.mem_of_getElem? (i := 2) rfl)) (hw _ (List.mem_of_getElem? (i := 5) rfl)) (by decide) (x := x) (argsL := [(.int v10)]) (rest := [(.ref x)]) (W := 1) (own_init l Z a0 hb0 hw x v10 hk) (by decide) (by decide) (by decide) (by decide) (g := (mkF m 11 #[.val (.int xc), .val (.int xn), .val (.int xp), .val (.int y0), .val (.int y1), .val (.int y2), .unset, .unset, .unset, .unset] [(.int v10), (.ref x), (.ref x)])) rfl (by rw [hml]; rfl) (lenOf own_pd4 rfl) rfl (by show 2 * 0 + _ ≤ _; exact Nat.le_of_eq rfl) (hb hby at_11)
  obtain ⟨an, ad, ar, mm, z, hl, hzz, rfl, rfl⟩ := qs03_2
  change own_S _ _ _ _ _ _ _ _ _ _ _ _ _ _ [(x, own_O "com/example/recourse/recourse/network/NodeHeap" [("com/example/recourse/recourse/network/NodeHeap", "nodes", "[I", .ref an), ("com/example/recourse/recourse/network/NodeHeap", "distances", "[D", .ref ad), ("com/example/recourse/recourse/network/NodeHeap", "remainders", "[D", .ref ar), ("com/example/recourse/recourse/network/NodeHeap", "size", "I", .int 0)]), (an, own_A .int ((.int 0) :: (.int 0) :: (.int 0) :: List.replicate mm (.int 0))), (ad, own_A .double ((.double 0) :: (.double 0) :: (.double 0) :: List.replicate mm (.double 0))), (ar, own_A .double ((.double 0) :: (.double 0) :: (.double 0) :: List.replicate mm (.double 0)))] _ _ at Hs03_2
  obtain ⟨Ts03_3, vs03_3_, css03_3_, qs03_3, Hs03_3, sts03_3⟩ := own_callV Hs03_2 hx hZ hown (hw _ (List.mem_of_getElem? (i := 21) rfl)) (hw _ (List.mem_of_getElem? (i := 22) rfl)) (hw _ (List.mem_of_getElem? (i := 24) rfl)) (hw _ (List.mem_of_getElem? (i := 23) rfl)) (hw _ (List.mem_of_getElem? (i := 2) rfl)) (hw _ (List.mem_of_getElem? (i := 25) rfl)) (by decide) (x := x) 0 rfl (argsL := []) (rest := []) (W := 0) (own_emp0 l Z a0 hb0 hw x an ad ar mm 0 0 0 0 0 0 0 0 0) (by decide) (by decide) (by decide) (by decide) (g := (mkF m 18 #[.val (.int xc), .val (.int xn), .val (.int xp), .val (.int y0), .val (.int y1), .val (.int y2), .val (.ref x), .unset, .unset, .unset] [(.ref x)])) rfl (by rw [hml]; rfl) (lenOf own_pd2 rfl) rfl (by show 2 * 0 + _ ≤ _; exact Nat.le_of_eq rfl) (hb hby at_18)
  obtain ⟨rfl, rfl⟩ := qs03_3
  change own_S _ _ _ _ _ _ _ _ _ _ _ _ _ _ [(x, own_O "com/example/recourse/recourse/network/NodeHeap" [("com/example/recourse/recourse/network/NodeHeap", "nodes", "[I", .ref an), ("com/example/recourse/recourse/network/NodeHeap", "distances", "[D", .ref ad), ("com/example/recourse/recourse/network/NodeHeap", "remainders", "[D", .ref ar), ("com/example/recourse/recourse/network/NodeHeap", "size", "I", .int 0)]), (an, own_A .int ((.int 0) :: (.int 0) :: (.int 0) :: List.replicate mm (.int 0))), (ad, own_A .double ((.double 0) :: (.double 0) :: (.double 0) :: List.replicate mm (.double 0))), (ar, own_A .double ((.double 0) :: (.double 0) :: (.double 0) :: List.replicate mm (.double 0)))] _ _ at Hs03_3
  obtain ⟨Ts03_4, vs03_4_, css03_4_, qs03_4, Hs03_4, sts03_4⟩ := own_callV Hs03_3 hx hZ hown (hw _ (List.mem_of_getElem? (i := 21) rfl)) (hw _ (List.mem_of_getElem? (i := 22) rfl)) (hw _ (List.mem_of_getElem? (i := 24) rfl)) (hw _ (List.mem_of_getElem? (i := 23) rfl)) (hw _ (List.mem_of_getElem? (i := 2) rfl)) (hw _ (List.mem_of_getElem? (i := 25) rfl)) (by decide) (x := x) 0 rfl (argsL := []) (rest := []) (W := 0) (own_emp0 l Z a0 hb0 hw x an ad ar mm 0 0 0 0 0 0 0 0 0) (by decide) (by decide) (by decide) (by decide) (g := (mkF m 96 #[.val (.int xc), .val (.int xn), .val (.int xp), .val (.int y0), .val (.int y1), .val (.int y2), .val (.ref x), .val (.int (1 : Int32)), .val (.int (0 : Int32)), .val (.int (0 : Int32))] [(.ref x)])) rfl (by rw [hml]; rfl) (lenOf own_pd2 rfl) rfl (by show 2 * 0 + _ ≤ _; exact Nat.le_of_eq rfl) (hb hby at_96)
  obtain ⟨rfl, rfl⟩ := qs03_4
  change own_S _ _ _ _ _ _ _ _ _ _ _ _ _ _ [(x, own_O "com/example/recourse/recourse/network/NodeHeap" [("com/example/recourse/recourse/network/NodeHeap", "nodes", "[I", .ref an), ("com/example/recourse/recourse/network/NodeHeap", "distances", "[D", .ref ad), ("com/example/recourse/recourse/network/NodeHeap", "remainders", "[D", .ref ar), ("com/example/recourse/recourse/network/NodeHeap", "size", "I", .int 0)]), (an, own_A .int ((.int 0) :: (.int 0) :: (.int 0) :: List.replicate mm (.int 0))), (ad, own_A .double ((.double 0) :: (.double 0) :: (.double 0) :: List.replicate mm (.double 0))), (ar, own_A .double ((.double 0) :: (.double 0) :: (.double 0) :: List.replicate mm (.double 0)))] _ _ at Hs03_4
  obtain ⟨Ts03_5, vs03_5_, css03_5_, qs03_5, Hs03_5, sts03_5⟩ := own_callV Hs03_4 hx hZ hown (hw _ (List.mem_of_getElem? (i := 21) rfl)) (hw _ (List.mem_of_getElem? (i := 22) rfl)) (hw _ (List.mem_of_getElem? (i := 24) rfl)) (hw _ (List.mem_of_getElem? (i := 23) rfl)) (hw _ (List.mem_of_getElem? (i := 2) rfl)) (hw _ (List.mem_of_getElem? (i := 25) rfl)) (by decide) (x := x) 0 rfl (argsL := []) (rest := []) (W := 0) (own_emp0 l Z a0 hb0 hw x an ad ar mm 0 0 0 0 0 0 0 0 0) (by decide) (by decide) (by decide) (by decide) (g := (mkF m 161 #[.val (.int xc), .val (.int xn), .val (.int xp), .val (.int y0), .val (.int y1), .val (.int y2), .val (.ref x), .val (.int (1 : Int32)), .val (.int (0 : Int32)), .val (.int (0 : Int32))] [(.ref x)])) rfl (by rw [hml]; rfl) (lenOf own_pd2 rfl) rfl (by show 2 * 0 + _ ≤ _; exact Nat.le_of_eq rfl) (hb hby at_161)
  obtain ⟨rfl, rfl⟩ := qs03_5
  change own_S _ _ _ _ _ _ _ _ _ _ _ _ _ _ [(x, own_O "com/example/recourse/recourse/network/NodeHeap" [("com/example/recourse/recourse/network/NodeHeap", "nodes", "[I", .ref an), ("com/example/recourse/recourse/network/NodeHeap", "distances", "[D", .ref ad), ("com/example/recourse/recourse/network/NodeHeap", "remainders", "[D", .ref ar), ("com/example/recourse/recourse/network/NodeHeap", "size", "I", .int 0)]), (an, own_A .int ((.int 0) :: (.int 0) :: (.int 0) :: List.replicate mm (.int 0))), (ad, own_A .double ((.double 0) :: (.double 0) :: (.double 0) :: List.replicate mm (.double 0))), (ar, own_A .double ((.double 0) :: (.double 0) :: (.double 0) :: List.replicate mm (.double 0)))] _ _ at Hs03_5
  refine ⟨_, _, _, _, 188, #[.val (.int xc), .val (.int xn), .val (.int xp), .val (.int y0), .val (.int y1), .val (.int y2), .val (.ref x), .val (.int (1 : Int32)), .val (.int (0 : Int32)), .val (.int (0 : Int32))], Hs03_5, by decide, by decide, Or.inr ⟨.boolean, (.int (1 : Int32)), [], .ireturn, rfl, rfl, at_188, own_retZ (Or.inr rfl), fun target q => ?_⟩⟩
  refine sts03_1 _ ?_
  refine own_go Hs03_1 hx hZ hown hby hw own_K0_ok (own_s03_0 xc xn xp y0 y1 y2 x v7 hv7 v10 hv10) _ ?_
  refine sts03_2 _ ?_
  refine own_go Hs03_2 hx hZ hown hby hw own_K0_ok (own_s03_1 xc xn xp y0 y1 y2 x) _ ?_
  refine sts03_3 _ ?_
  refine own_go Hs03_3 hx hZ hown hby hw own_K0_ok (own_s03_2 xc xn xp y0 y1 y2 x hkk hpp) _ ?_
  refine sts03_4 _ ?_
  refine own_go Hs03_4 hx hZ hown hby hw own_K0_ok (own_s03_3 xc xn xp y0 y1 y2 x) _ ?_
  refine sts03_5 _ ?_
  refine own_go Hs03_5 hx hZ hown hby hw own_K0_ok (own_s03_4 xc xn xp y0 y1 y2 x) _ ?_
  exact q
theorem own_s10_0 (xc : Int32) (xn : Int32) (xp : Int32) (y0 : Int32) (y1 : Int32) (y2 : Int32) (x : Addr) (v7 : Int32) (hv7 : (xc &&& (63 : Int32)) = v7) (v10 : Int32) (hv10 : (v7 - (16 : Int32)) = v10) :
    own_Go own_K0 code 3 #[.val (.int xc), .val (.int xn), .val (.int xp), .val (.int y0), .val (.int y1), .val (.int y2), .unset, .unset, .unset, .unset] [(.ref x)] 11 #[.val (.int xc), .val (.int xn), .val (.int xp), .val (.int y0), .val (.int y1), .val (.int y2), .unset, .unset, .unset, .unset] [(.int v10), (.ref x), (.ref x)] := by
  refine own_dup (pc2 := 4) at_3 rfl rfl ?_
  refine own_iloadN (pc2 := 5) at_4 rfl rfl ?_
  refine own_bipush (v := 63) (pc2 := 7) at_5 rfl rfl ?_
  refine own_iand (pc2 := 8) at_7 rfl (v := v7) hv7 ?_
  refine own_bipush (v := 16) (pc2 := 10) at_8 rfl rfl ?_
  refine own_isub (pc2 := 11) at_10 rfl (v := v10) hv10 ?_
  exact own_refl
theorem own_s10_1 (xc : Int32) (xn : Int32) (xp : Int32) (y0 : Int32) (y1 : Int32) (y2 : Int32) (x : Addr) :
    own_Go own_K0 code 14 #[.val (.int xc), .val (.int xn), .val (.int xp), .val (.int y0), .val (.int y1), .val (.int y2), .unset, .unset, .unset, .unset] [(.ref x)] 18 #[.val (.int xc), .val (.int xn), .val (.int xp), .val (.int y0), .val (.int y1), .val (.int y2), .val (.ref x), .unset, .unset, .unset] [(.ref x)] := by
  refine own_astore (pc2 := 16) at_14 rfl rfl (L' := #[.val (.int xc), .val (.int xn), .val (.int xp), .val (.int y0), .val (.int y1), .val (.int y2), .val (.ref x), .unset, .unset, .unset]) rfl ?_
  refine own_aload (pc2 := 18) at_16 rfl rfl rfl ?_
  exact own_refl
theorem own_s10_2 (xc : Int32) (xn : Int32) (xp : Int32) (y0 : Int32) (y1 : Int32) (y2 : Int32) (x : Addr) (hkk : (xn &&& (3 : Int32)) = (1 : Int32)) (hpp : (xp &&& (3 : Int32)) = (0 : Int32)) (v53 : UInt64) (hv53 : (FP.i2d y0) = v53) :
    own_Go own_K0 code 21 #[.val (.int xc), .val (.int xn), .val (.int xp), .val (.int y0), .val (.int y1), .val (.int y2), .val (.ref x), .unset, .unset, .unset] [(.int (1 : Int32))] 54 #[.val (.int xc), .val (.int xn), .val (.int xp), .val (.int y0), .val (.int y1), .val (.int y2), .val (.ref x), .val (.int (1 : Int32)), .val (.int (1 : Int32)), .val (.int (0 : Int32))] [(.double v53), (.int y0), (.ref x)] := by
  refine own_istore (pc2 := 23) at_21 rfl (L' := #[.val (.int xc), .val (.int xn), .val (.int xp), .val (.int y0), .val (.int y1), .val (.int y2), .val (.ref x), .val (.int (1 : Int32)), .unset, .unset]) rfl ?_
  refine own_iloadN (pc2 := 24) at_23 rfl rfl ?_
  refine own_iconst (v := 3) (pc2 := 25) at_24 rfl rfl ?_
  refine own_iand (pc2 := 26) at_25 rfl (v := (1 : Int32)) hkk ?_
  refine own_istore (pc2 := 28) at_26 rfl (L' := #[.val (.int xc), .val (.int xn), .val (.int xp), .val (.int y0), .val (.int y1), .val (.int y2), .val (.ref x), .val (.int (1 : Int32)), .val (.int (1 : Int32)), .unset]) rfl ?_
  refine own_iloadN (pc2 := 29) at_28 rfl rfl ?_
  refine own_iconst (v := 3) (pc2 := 30) at_29 rfl rfl ?_
  refine own_iand (pc2 := 31) at_30 rfl (v := (0 : Int32)) hpp ?_
  refine own_istore (pc2 := 33) at_31 rfl (L' := #[.val (.int xc), .val (.int xn), .val (.int xp), .val (.int y0), .val (.int y1), .val (.int y2), .val (.ref x), .val (.int (1 : Int32)), .val (.int (1 : Int32)), .val (.int (0 : Int32))]) rfl ?_
  refine own_iload (pc2 := 35) at_33 rfl rfl ?_
  refine own_iload (pc2 := 37) at_35 rfl rfl ?_
  refine own_icmpYes (pc' := 44) at_37 (by decide) (by decide) (by decide) ?_
  refine own_iload (pc2 := 46) at_44 rfl rfl ?_
  refine own_ifNo (pc2 := 49) at_46 rfl (by decide) ?_
  refine own_aload (pc2 := 51) at_49 rfl rfl rfl ?_
  refine own_iloadN (pc2 := 52) at_51 rfl rfl ?_
  refine own_iloadN (pc2 := 53) at_52 rfl rfl ?_
  refine own_i2d (pc2 := 54) at_53 rfl (v := v53) hv53 ?_
  exact own_refl
theorem own_s10_3 (xc : Int32) (xn : Int32) (xp : Int32) (y0 : Int32) (y1 : Int32) (y2 : Int32) (x : Addr) :
    own_Go own_K0 code 57 #[.val (.int xc), .val (.int xn), .val (.int xp), .val (.int y0), .val (.int y1), .val (.int y2), .val (.ref x), .val (.int (1 : Int32)), .val (.int (1 : Int32)), .val (.int (0 : Int32))] [] 96 #[.val (.int xc), .val (.int xn), .val (.int xp), .val (.int y0), .val (.int y1), .val (.int y2), .val (.ref x), .val (.int (1 : Int32)), .val (.int (1 : Int32)), .val (.int (0 : Int32))] [(.ref x)] := by
  refine own_iload (pc2 := 59) at_57 rfl rfl ?_
  refine own_iconst (v := 1) (pc2 := 60) at_59 rfl rfl ?_
  refine own_icmpYes (pc' := 73) at_60 (by decide) (by decide) (by decide) ?_
  refine own_iload (pc2 := 75) at_73 rfl rfl ?_
  refine own_iconst (v := 2) (pc2 := 76) at_75 rfl rfl ?_
  refine own_icmpYes (pc' := 89) at_76 (by decide) (by decide) (by decide) ?_
  refine own_iload (pc2 := 91) at_89 rfl rfl ?_
  refine own_ifNo (pc2 := 94) at_91 rfl (by decide) ?_
  refine own_aload (pc2 := 96) at_94 rfl rfl rfl ?_
  exact own_refl
theorem own_s10_4 (xc : Int32) (xn : Int32) (xp : Int32) (y0 : Int32) (y1 : Int32) (y2 : Int32) (x : Addr) :
    own_Go own_K0 code 99 #[.val (.int xc), .val (.int xn), .val (.int xp), .val (.int y0), .val (.int y1), .val (.int y2), .val (.ref x), .val (.int (1 : Int32)), .val (.int (1 : Int32)), .val (.int (0 : Int32))] [(.int (0 : Int32))] 161 #[.val (.int xc), .val (.int xn), .val (.int xp), .val (.int y0), .val (.int y1), .val (.int y2), .val (.ref x), .val (.int (1 : Int32)), .val (.int (1 : Int32)), .val (.int (0 : Int32))] [(.ref x)] := by
  refine own_iload (pc2 := 101) at_99 rfl rfl ?_
  refine own_ifYes (pc' := 108) at_101 (by decide) (by decide) (by decide) ?_
  refine own_iconst (v := 0) (pc2 := 109) at_108 rfl rfl ?_
  refine own_icmpNo (pc2 := 112) at_109 rfl (by decide) ?_
  refine own_iconst (v := 1) (pc2 := 113) at_112 rfl rfl ?_
  refine own_goto (pc' := 117) at_113 (by decide) (by decide) ?_
  refine own_istore (pc2 := 119) at_117 rfl (L' := #[.val (.int xc), .val (.int xn), .val (.int xp), .val (.int y0), .val (.int y1), .val (.int y2), .val (.ref x), .val (.int (1 : Int32)), .val (.int (1 : Int32)), .val (.int (0 : Int32))]) rfl ?_
  refine own_iload (pc2 := 121) at_119 rfl rfl ?_
  refine own_ifYes (pc' := 130) at_121 (by decide) (by decide) (by decide) ?_
  refine own_iload (pc2 := 132) at_130 rfl rfl ?_
  refine own_iconst (v := 1) (pc2 := 133) at_132 rfl rfl ?_
  refine own_icmpYes (pc' := 142) at_133 (by decide) (by decide) (by decide) ?_
  refine own_iload (pc2 := 144) at_142 rfl rfl ?_
  refine own_iconst (v := 2) (pc2 := 145) at_144 rfl rfl ?_
  refine own_icmpYes (pc' := 154) at_145 (by decide) (by decide) (by decide) ?_
  refine own_iload (pc2 := 156) at_154 rfl rfl ?_
  refine own_ifNo (pc2 := 159) at_156 rfl (by decide) ?_
  refine own_aload (pc2 := 161) at_159 rfl rfl rfl ?_
  exact own_refl
theorem own_s10_5 (xc : Int32) (xn : Int32) (xp : Int32) (y0 : Int32) (y1 : Int32) (y2 : Int32) (x : Addr) :
    own_Go own_K0 code 164 #[.val (.int xc), .val (.int xn), .val (.int xp), .val (.int y0), .val (.int y1), .val (.int y2), .val (.ref x), .val (.int (1 : Int32)), .val (.int (1 : Int32)), .val (.int (0 : Int32))] [(.int (0 : Int32))] 188 #[.val (.int xc), .val (.int xn), .val (.int xp), .val (.int y0), .val (.int y1), .val (.int y2), .val (.ref x), .val (.int (1 : Int32)), .val (.int (1 : Int32)), .val (.int (0 : Int32))] [(.int (1 : Int32))] := by
  refine own_iload (pc2 := 166) at_164 rfl rfl ?_
  refine own_iload (pc2 := 168) at_166 rfl rfl ?_
  refine own_icmpYes (pc' := 175) at_168 (by decide) (by decide) (by decide) ?_
  refine own_iconst (v := 0) (pc2 := 176) at_175 rfl rfl ?_
  refine own_icmpNo (pc2 := 179) at_176 rfl (by decide) ?_
  refine own_iconst (v := 1) (pc2 := 180) at_179 rfl rfl ?_
  refine own_goto (pc' := 184) at_180 (by decide) (by decide) ?_
  refine own_istore (pc2 := 186) at_184 rfl (L' := #[.val (.int xc), .val (.int xn), .val (.int xp), .val (.int y0), .val (.int y1), .val (.int y2), .val (.ref x), .val (.int (1 : Int32)), .val (.int (1 : Int32)), .val (.int (0 : Int32))]) rfl ?_
  refine own_iload (pc2 := 188) at_186 rfl rfl ?_
  exact own_refl
set_option maxRecDepth 65536 in
set_option maxHeartbeats 40000000 in
theorem own_law10 (l : Launch) (Z : State) (a0 : Array Value) (hb0 : Heap) (hw : ∀ d ∈ tables_1, d.before a0 Z = true) (xc : Int32) (xn : Int32) (xp : Int32) (y0 : Int32) (y1 : Int32) (y2 : Int32) (hkk : (xn &&& (3 : Int32)) = (1 : Int32)) (hpp : (xp &&& (3 : Int32)) = (0 : Int32)) :
    own_Met l Z a0 hb0 x code maxLocals ret tables_1 room_1 #[(.int xc), (.int xn), (.int xp), (.int y0), (.int y1), (.int y2)] [] (fun v _ => v = some (.int 1)) := by
  refine own_met_of (L0 := #[.val (.int xc), .val (.int xn), .val (.int xp), .val (.int y0), .val (.int y1), .val (.int y2), .unset, .unset, .unset, .unset]) (plainFor_of_name own_pn0) (fun m => own_ef0 m xc xn xp y0 y1 y2) ?_
  intro p e s m below meth c T0 hx hZ hown hby hml hnm H0
  have hown : s.vm.findClass "com/example/recourse/recourse/network/NodeHeapIsEmptyPinLaw" = some m.cls := hown
  have hml : c.maxLocals = 10 := hml
  obtain ⟨Ts10_1, x, Hs10_1, sts10_1⟩ := own_newO H0 hx hZ hown (hw _ (List.mem_of_getElem? (i := 0) rfl)) (hw _ (List.mem_of_getElem? (i := 1) rfl)) (hw _ (List.mem_of_getElem? (i := 2) rfl)) [("com/example/recourse/recourse/network/NodeHeap", "nodes", "[I", .null), ("com/example/recourse/recourse/network/NodeHeap", "distances", "[D", .null), ("com/example/recourse/recourse/network/NodeHeap", "remainders", "[D", .null), ("com/example/recourse/recourse/network/NodeHeap", "size", "I", .int 0)] (by
      intro f hf
      simp only [List.mem_cons, List.not_mem_nil, or_false] at hf
      rcases hf with rfl | rfl | rfl | rfl
      · exact ⟨Or.inl (hw _ (List.mem_of_getElem? (i := 15) rfl)), (.array .int), by decide, rfl⟩
      · exact ⟨Or.inl (hw _ (List.mem_of_getElem? (i := 18) rfl)), (.array .double), by decide, rfl⟩
      · exact ⟨Or.inl (hw _ (List.mem_of_getElem? (i := 20) rfl)), (.array .double), by decide, rfl⟩
      · exact ⟨Or.inl (hw _ (List.mem_of_getElem? (i := 27) rfl)), .int, by decide, rfl⟩) (by decide) (g := (mkF m 0 #[.val (.int xc), .val (.int xn), .val (.int xp), .val (.int y0), .val (.int y1), .val (.int y2), .unset, .unset, .unset, .unset] [])) rfl (hb hby at_0) (by decide) (by decide)
  change own_S _ _ _ _ _ _ _ _ _ _ _ _ _ _ [(x, own_O "com/example/recourse/recourse/network/NodeHeap" [("com/example/recourse/recourse/network/NodeHeap", "nodes", "[I", .null), ("com/example/recourse/recourse/network/NodeHeap", "distances", "[D", .null), ("com/example/recourse/recourse/network/NodeHeap", "remainders", "[D", .null), ("com/example/recourse/recourse/network/NodeHeap", "size", "I", .int 0)])] _ _ at Hs10_1
  obtain ⟨v7, hv7⟩ : ∃ z : Int32, (xc &&& (63 : Int32)) = z := ⟨_, rfl⟩
  obtain ⟨v10, hv10⟩ : ∃ z : Int32, (v7 - (16 : Int32)) = z := ⟨_, rfl⟩
  have hk : v10.toInt ≤ 47 := by
    have h1 := c_mask xc 63 6 (by decide) (by decide)
    have h2 := c_isub v7 16
    have := rng32 v10
    rw [hv7] at h1
    rw [hv10, show (16 : Int32).toInt = 16 from rfl] at h2
    omega
  obtain ⟨Ts10_2, vs10_2_, css10_2_, qs10_2, Hs10_2, sts10_2⟩ := own_callI Hs10_1 hx hZ hown rfl (hw _ (List.mem_of_getElem? (i := 3) rfl)) (hw _ (List.mem_of_getElem? (i := 4) rfl)) (hw _ (List.mem_of_getElem? (i := 2) rfl)) (hw _ (List.mem_of_getElem? (i := 5) rfl)) (by decide) (x := x) (argsL := [(.int v10)]) (rest := [(.ref x)]) (W := 1) (own_init l Z a0 hb0 hw x v10 hk) (by decide) (by decide) (by decide) (by decide) (g := (mkF m 11 #[.val (.int xc), .val (.int xn), .val (.int xp), .val (.int y0), .val (.int y1), .val (.int y2), .unset, .unset, .unset, .unset] [(.int v10), (.ref x), (.ref x)])) rfl (by rw [hml]; rfl) (lenOf own_pd4 rfl) rfl (by show 2 * 0 + _ ≤ _; exact Nat.le_of_eq rfl) (hb hby at_11)
  obtain ⟨an, ad, ar, mm, z, hl, hzz, rfl, rfl⟩ := qs10_2
  change own_S _ _ _ _ _ _ _ _ _ _ _ _ _ _ [(x, own_O "com/example/recourse/recourse/network/NodeHeap" [("com/example/recourse/recourse/network/NodeHeap", "nodes", "[I", .ref an), ("com/example/recourse/recourse/network/NodeHeap", "distances", "[D", .ref ad), ("com/example/recourse/recourse/network/NodeHeap", "remainders", "[D", .ref ar), ("com/example/recourse/recourse/network/NodeHeap", "size", "I", .int 0)]), (an, own_A .int ((.int 0) :: (.int 0) :: (.int 0) :: List.replicate mm (.int 0))), (ad, own_A .double ((.double 0) :: (.double 0) :: (.double 0) :: List.replicate mm (.double 0))), (ar, own_A .double ((.double 0) :: (.double 0) :: (.double 0) :: List.replicate mm (.double 0)))] _ _ at Hs10_2
  obtain ⟨Ts10_3, vs10_3_, css10_3_, qs10_3, Hs10_3, sts10_3⟩ := own_callV Hs10_2 hx hZ hown (hw _ (List.mem_of_getElem? (i := 21) rfl)) (hw _ (List.mem_of_getElem? (i := 22) rfl)) (hw _ (List.mem_of_getElem? (i := 24) rfl)) (hw _ (List.mem_of_getElem? (i := 23) rfl)) (hw _ (List.mem_of_getElem? (i := 2) rfl)) (hw _ (List.mem_of_getElem? (i := 25) rfl)) (by decide) (x := x) 0 rfl (argsL := []) (rest := []) (W := 0) (own_emp0 l Z a0 hb0 hw x an ad ar mm 0 0 0 0 0 0 0 0 0) (by decide) (by decide) (by decide) (by decide) (g := (mkF m 18 #[.val (.int xc), .val (.int xn), .val (.int xp), .val (.int y0), .val (.int y1), .val (.int y2), .val (.ref x), .unset, .unset, .unset] [(.ref x)])) rfl (by rw [hml]; rfl) (lenOf own_pd2 rfl) rfl (by show 2 * 0 + _ ≤ _; exact Nat.le_of_eq rfl) (hb hby at_18)
  obtain ⟨rfl, rfl⟩ := qs10_3
  change own_S _ _ _ _ _ _ _ _ _ _ _ _ _ _ [(x, own_O "com/example/recourse/recourse/network/NodeHeap" [("com/example/recourse/recourse/network/NodeHeap", "nodes", "[I", .ref an), ("com/example/recourse/recourse/network/NodeHeap", "distances", "[D", .ref ad), ("com/example/recourse/recourse/network/NodeHeap", "remainders", "[D", .ref ar), ("com/example/recourse/recourse/network/NodeHeap", "size", "I", .int 0)]), (an, own_A .int ((.int 0) :: (.int 0) :: (.int 0) :: List.replicate mm (.int 0))), (ad, own_A .double ((.double 0) :: (.double 0) :: (.double 0) :: List.replicate mm (.double 0))), (ar, own_A .double ((.double 0) :: (.double 0) :: (.double 0) :: List.replicate mm (.double 0)))] _ _ at Hs10_3
  obtain ⟨v53, hv53⟩ : ∃ z : UInt64, (FP.i2d y0) = z := ⟨_, rfl⟩
  obtain ⟨Ts10_4, vs10_4_, css10_4_, qs10_4, Hs10_4, sts10_4⟩ := own_callV Hs10_3 hx hZ hown (hw _ (List.mem_of_getElem? (i := 28) rfl)) (hw _ (List.mem_of_getElem? (i := 29) rfl)) (hw _ (List.mem_of_getElem? (i := 31) rfl)) (hw _ (List.mem_of_getElem? (i := 30) rfl)) (hw _ (List.mem_of_getElem? (i := 2) rfl)) (hw _ (List.mem_of_getElem? (i := 32) rfl)) (by decide) (x := x) 0 rfl (argsL := [(.int y0), (.double v53)]) (rest := []) (W := 0) (own_adi0 l Z a0 hb0 hw x _ _ an ad ar mm 0 0 0 0 0 0 0 0 0 z hl hzz) (by decide) (by decide) (by decide) (by decide) (g := (mkF m 54 #[.val (.int xc), .val (.int xn), .val (.int xp), .val (.int y0), .val (.int y1), .val (.int y2), .val (.ref x), .val (.int (1 : Int32)), .val (.int (1 : Int32)), .val (.int (0 : Int32))] [(.double v53), (.int y0), (.ref x)])) rfl (by rw [hml]; rfl) (lenOf own_pd5 rfl) rfl (by show 2 * 0 + _ ≤ _; exact Nat.le_of_eq rfl) (hb hby at_54)
  obtain ⟨g1_0, g1_1, g1_2, g1_3, g1_4, g1_5, g1_6, g1_7, g1_8, rfl, rfl⟩ := qs10_4
  change own_S _ _ _ _ _ _ _ _ _ _ _ _ _ _ [(x, own_O "com/example/recourse/recourse/network/NodeHeap" [("com/example/recourse/recourse/network/NodeHeap", "nodes", "[I", .ref an), ("com/example/recourse/recourse/network/NodeHeap", "distances", "[D", .ref ad), ("com/example/recourse/recourse/network/NodeHeap", "remainders", "[D", .ref ar), ("com/example/recourse/recourse/network/NodeHeap", "size", "I", .int 1)]), (an, own_A .int ((.int g1_0) :: (.int g1_1) :: (.int g1_2) :: List.replicate mm (.int 0))), (ad, own_A .double ((.double g1_3) :: (.double g1_4) :: (.double g1_5) :: List.replicate mm (.double 0))), (ar, own_A .double ((.double g1_6) :: (.double g1_7) :: (.double g1_8) :: List.replicate mm (.double 0)))] _ _ at Hs10_4
  obtain ⟨Ts10_5, vs10_5_, css10_5_, qs10_5, Hs10_5, sts10_5⟩ := own_callV Hs10_4 hx hZ hown (hw _ (List.mem_of_getElem? (i := 21) rfl)) (hw _ (List.mem_of_getElem? (i := 22) rfl)) (hw _ (List.mem_of_getElem? (i := 24) rfl)) (hw _ (List.mem_of_getElem? (i := 23) rfl)) (hw _ (List.mem_of_getElem? (i := 2) rfl)) (hw _ (List.mem_of_getElem? (i := 25) rfl)) (by decide) (x := x) 0 rfl (argsL := []) (rest := []) (W := 0) (own_emp1 l Z a0 hb0 hw x an ad ar mm g1_0 g1_1 g1_2 g1_3 g1_4 g1_5 g1_6 g1_7 g1_8) (by decide) (by decide) (by decide) (by decide) (g := (mkF m 96 #[.val (.int xc), .val (.int xn), .val (.int xp), .val (.int y0), .val (.int y1), .val (.int y2), .val (.ref x), .val (.int (1 : Int32)), .val (.int (1 : Int32)), .val (.int (0 : Int32))] [(.ref x)])) rfl (by rw [hml]; rfl) (lenOf own_pd2 rfl) rfl (by show 2 * 0 + _ ≤ _; exact Nat.le_of_eq rfl) (hb hby at_96)
  obtain ⟨rfl, rfl⟩ := qs10_5
  change own_S _ _ _ _ _ _ _ _ _ _ _ _ _ _ [(x, own_O "com/example/recourse/recourse/network/NodeHeap" [("com/example/recourse/recourse/network/NodeHeap", "nodes", "[I", .ref an), ("com/example/recourse/recourse/network/NodeHeap", "distances", "[D", .ref ad), ("com/example/recourse/recourse/network/NodeHeap", "remainders", "[D", .ref ar), ("com/example/recourse/recourse/network/NodeHeap", "size", "I", .int 1)]), (an, own_A .int ((.int g1_0) :: (.int g1_1) :: (.int g1_2) :: List.replicate mm (.int 0))), (ad, own_A .double ((.double g1_3) :: (.double g1_4) :: (.double g1_5) :: List.replicate mm (.double 0))), (ar, own_A .double ((.double g1_6) :: (.double g1_7) :: (.double g1_8) :: List.replicate mm (.double 0)))] _ _ at Hs10_5
  obtain ⟨Ts10_6, vs10_6_, css10_6_, qs10_6, Hs10_6, sts10_6⟩ := own_callV Hs10_5 hx hZ hown (hw _ (List.mem_of_getElem? (i := 21) rfl)) (hw _ (List.mem_of_getElem? (i := 22) rfl)) (hw _ (List.mem_of_getElem? (i := 24) rfl)) (hw _ (List.mem_of_getElem? (i := 23) rfl)) (hw _ (List.mem_of_getElem? (i := 2) rfl)) (hw _ (List.mem_of_getElem? (i := 25) rfl)) (by decide) (x := x) 0 rfl (argsL := []) (rest := []) (W := 0) (own_emp1 l Z a0 hb0 hw x an ad ar mm g1_0 g1_1 g1_2 g1_3 g1_4 g1_5 g1_6 g1_7 g1_8) (by decide) (by decide) (by decide) (by decide) (g := (mkF m 161 #[.val (.int xc), .val (.int xn), .val (.int xp), .val (.int y0), .val (.int y1), .val (.int y2), .val (.ref x), .val (.int (1 : Int32)), .val (.int (1 : Int32)), .val (.int (0 : Int32))] [(.ref x)])) rfl (by rw [hml]; rfl) (lenOf own_pd2 rfl) rfl (by show 2 * 0 + _ ≤ _; exact Nat.le_of_eq rfl) (hb hby at_161)
  obtain ⟨rfl, rfl⟩ := qs10_6
  change own_S _ _ _ _ _ _ _ _ _ _ _ _ _ _ [(x, own_O "com/example/recourse/recourse/network/NodeHeap" [("com/example/recourse/recourse/network/NodeHeap", "nodes", "[I", .ref an), ("com/example/recourse/recourse/network/NodeHeap", "distances", "[D", .ref ad), ("com/example/recourse/recourse/network/NodeHeap", "remainders", "[D", .ref ar), ("com/example/recourse/recourse/network/NodeHeap", "size", "I", .int 1)]), (an, own_A .int ((.int g1_0) :: (.int g1_1) :: (.int g1_2) :: List.replicate mm (.int 0))), (ad, own_A .double ((.double g1_3) :: (.double g1_4) :: (.double g1_5) :: List.replicate mm (.double 0))), (ar, own_A .double ((.double g1_6) :: (.double g1_7) :: (.double g1_8) :: List.replicate mm (.double 0)))] _ _ at Hs10_6
  refine ⟨_, _, _, _, 188, #[.val (.int xc), .val (.int xn), .val (.int xp), .val (.int y0), .val (.int y1), .val (.int y2), .val (.ref x), .val (.int (1 : Int32)), .val (.int (1 : Int32)), .val (.int (0 : Int32))], Hs10_6, by decide, by decide, Or.inr ⟨.boolean, (.int (1 : Int32)), [], .ireturn, rfl, rfl, at_188, own_retZ (Or.inr rfl), fun target q => ?_⟩⟩
  refine sts10_1 _ ?_
  refine own_go Hs10_1 hx hZ hown hby hw own_K0_ok (own_s10_0 xc xn xp y0 y1 y2 x v7 hv7 v10 hv10) _ ?_
  refine sts10_2 _ ?_
  refine own_go Hs10_2 hx hZ hown hby hw own_K0_ok (own_s10_1 xc xn xp y0 y1 y2 x) _ ?_
  refine sts10_3 _ ?_
  refine own_go Hs10_3 hx hZ hown hby hw own_K0_ok (own_s10_2 xc xn xp y0 y1 y2 x hkk hpp v53 hv53) _ ?_
  refine sts10_4 _ ?_
  refine own_go Hs10_4 hx hZ hown hby hw own_K0_ok (own_s10_3 xc xn xp y0 y1 y2 x) _ ?_
  refine sts10_5 _ ?_
  refine own_go Hs10_5 hx hZ hown hby hw own_K0_ok (own_s10_4 xc xn xp y0 y1 y2 x) _ ?_
  refine sts10_6 _ ?_
  refine own_go Hs10_6 hx hZ hown hby hw own_K0_ok (own_s10_5 xc xn xp y0 y1 y2 x) _ ?_
  exact q
theorem own_s11_0 (xc : Int32) (xn : Int32) (xp : Int32) (y0 : Int32) (y1 : Int32) (y2 : Int32) (x : Addr) (v7 : Int32) (hv7 : (xc &&& (63 : Int32)) = v7) (v10 : Int32) (hv10 : (v7 - (16 : Int32)) = v10) :
    own_Go own_K0 code 3 #[.val (.int xc), .val (.int xn), .val (.int xp), .val (.int y0), .val (.int y1), .val (.int y2), .unset, .unset, .unset, .unset] [(.ref x)] 11 #[.val (.int xc), .val (.int xn), .val (.int xp), .val (.int y0), .val (.int y1), .val (.int y2), .unset, .unset, .unset, .unset] [(.int v10), (.ref x), (.ref x)] := by
  refine own_dup (pc2 := 4) at_3 rfl rfl ?_
  refine own_iloadN (pc2 := 5) at_4 rfl rfl ?_
  refine own_bipush (v := 63) (pc2 := 7) at_5 rfl rfl ?_
  refine own_iand (pc2 := 8) at_7 rfl (v := v7) hv7 ?_
  refine own_bipush (v := 16) (pc2 := 10) at_8 rfl rfl ?_
  refine own_isub (pc2 := 11) at_10 rfl (v := v10) hv10 ?_
  exact own_refl
theorem own_s11_1 (xc : Int32) (xn : Int32) (xp : Int32) (y0 : Int32) (y1 : Int32) (y2 : Int32) (x : Addr) :
    own_Go own_K0 code 14 #[.val (.int xc), .val (.int xn), .val (.int xp), .val (.int y0), .val (.int y1), .val (.int y2), .unset, .unset, .unset, .unset] [(.ref x)] 18 #[.val (.int xc), .val (.int xn), .val (.int xp), .val (.int y0), .val (.int y1), .val (.int y2), .val (.ref x), .unset, .unset, .unset] [(.ref x)] := by
  refine own_astore (pc2 := 16) at_14 rfl rfl (L' := #[.val (.int xc), .val (.int xn), .val (.int xp), .val (.int y0), .val (.int y1), .val (.int y2), .val (.ref x), .unset, .unset, .unset]) rfl ?_
  refine own_aload (pc2 := 18) at_16 rfl rfl rfl ?_
  exact own_refl
theorem own_s11_2 (xc : Int32) (xn : Int32) (xp : Int32) (y0 : Int32) (y1 : Int32) (y2 : Int32) (x : Addr) (hkk : (xn &&& (3 : Int32)) = (1 : Int32)) (hpp : (xp &&& (3 : Int32)) = (1 : Int32)) (v53 : UInt64) (hv53 : (FP.i2d y0) = v53) :
    own_Go own_K0 code 21 #[.val (.int xc), .val (.int xn), .val (.int xp), .val (.int y0), .val (.int y1), .val (.int y2), .val (.ref x), .unset, .unset, .unset] [(.int (1 : Int32))] 54 #[.val (.int xc), .val (.int xn), .val (.int xp), .val (.int y0), .val (.int y1), .val (.int y2), .val (.ref x), .val (.int (1 : Int32)), .val (.int (1 : Int32)), .val (.int (1 : Int32))] [(.double v53), (.int y0), (.ref x)] := by
  refine own_istore (pc2 := 23) at_21 rfl (L' := #[.val (.int xc), .val (.int xn), .val (.int xp), .val (.int y0), .val (.int y1), .val (.int y2), .val (.ref x), .val (.int (1 : Int32)), .unset, .unset]) rfl ?_
  refine own_iloadN (pc2 := 24) at_23 rfl rfl ?_
  refine own_iconst (v := 3) (pc2 := 25) at_24 rfl rfl ?_
  refine own_iand (pc2 := 26) at_25 rfl (v := (1 : Int32)) hkk ?_
  refine own_istore (pc2 := 28) at_26 rfl (L' := #[.val (.int xc), .val (.int xn), .val (.int xp), .val (.int y0), .val (.int y1), .val (.int y2), .val (.ref x), .val (.int (1 : Int32)), .val (.int (1 : Int32)), .unset]) rfl ?_
  refine own_iloadN (pc2 := 29) at_28 rfl rfl ?_
  refine own_iconst (v := 3) (pc2 := 30) at_29 rfl rfl ?_
  refine own_iand (pc2 := 31) at_30 rfl (v := (1 : Int32)) hpp ?_
  refine own_istore (pc2 := 33) at_31 rfl (L' := #[.val (.int xc), .val (.int xn), .val (.int xp), .val (.int y0), .val (.int y1), .val (.int y2), .val (.ref x), .val (.int (1 : Int32)), .val (.int (1 : Int32)), .val (.int (1 : Int32))]) rfl ?_
  refine own_iload (pc2 := 35) at_33 rfl rfl ?_
  refine own_iload (pc2 := 37) at_35 rfl rfl ?_
  refine own_icmpYes (pc' := 44) at_37 (by decide) (by decide) (by decide) ?_
  refine own_iload (pc2 := 46) at_44 rfl rfl ?_
  refine own_ifNo (pc2 := 49) at_46 rfl (by decide) ?_
  refine own_aload (pc2 := 51) at_49 rfl rfl rfl ?_
  refine own_iloadN (pc2 := 52) at_51 rfl rfl ?_
  refine own_iloadN (pc2 := 53) at_52 rfl rfl ?_
  refine own_i2d (pc2 := 54) at_53 rfl (v := v53) hv53 ?_
  exact own_refl
theorem own_s11_3 (xc : Int32) (xn : Int32) (xp : Int32) (y0 : Int32) (y1 : Int32) (y2 : Int32) (x : Addr) :
    own_Go own_K0 code 57 #[.val (.int xc), .val (.int xn), .val (.int xp), .val (.int y0), .val (.int y1), .val (.int y2), .val (.ref x), .val (.int (1 : Int32)), .val (.int (1 : Int32)), .val (.int (1 : Int32))] [] 96 #[.val (.int xc), .val (.int xn), .val (.int xp), .val (.int y0), .val (.int y1), .val (.int y2), .val (.ref x), .val (.int (1 : Int32)), .val (.int (1 : Int32)), .val (.int (1 : Int32))] [(.ref x)] := by
  refine own_iload (pc2 := 59) at_57 rfl rfl ?_
  refine own_iconst (v := 1) (pc2 := 60) at_59 rfl rfl ?_
  refine own_icmpYes (pc' := 73) at_60 (by decide) (by decide) (by decide) ?_
  refine own_iload (pc2 := 75) at_73 rfl rfl ?_
  refine own_iconst (v := 2) (pc2 := 76) at_75 rfl rfl ?_
  refine own_icmpYes (pc' := 89) at_76 (by decide) (by decide) (by decide) ?_
  refine own_iload (pc2 := 91) at_89 rfl rfl ?_
  refine own_ifNo (pc2 := 94) at_91 rfl (by decide) ?_
  refine own_aload (pc2 := 96) at_94 rfl rfl rfl ?_
  exact own_refl
theorem own_s11_4 (xc : Int32) (xn : Int32) (xp : Int32) (y0 : Int32) (y1 : Int32) (y2 : Int32) (x : Addr) :
    own_Go own_K0 code 99 #[.val (.int xc), .val (.int xn), .val (.int xp), .val (.int y0), .val (.int y1), .val (.int y2), .val (.ref x), .val (.int (1 : Int32)), .val (.int (1 : Int32)), .val (.int (1 : Int32))] [(.int (0 : Int32))] 126 #[.val (.int xc), .val (.int xn), .val (.int xp), .val (.int y0), .val (.int y1), .val (.int y2), .val (.ref x), .val (.int (1 : Int32)), .val (.int (1 : Int32)), .val (.int (1 : Int32))] [(.ref x)] := by
  refine own_iload (pc2 := 101) at_99 rfl rfl ?_
  refine own_ifYes (pc' := 108) at_101 (by decide) (by decide) (by decide) ?_
  refine own_iconst (v := 0) (pc2 := 109) at_108 rfl rfl ?_
  refine own_icmpNo (pc2 := 112) at_109 rfl (by decide) ?_
  refine own_iconst (v := 1) (pc2 := 113) at_112 rfl rfl ?_
  refine own_goto (pc' := 117) at_113 (by decide) (by decide) ?_
  refine own_istore (pc2 := 119) at_117 rfl (L' := #[.val (.int xc), .val (.int xn), .val (.int xp), .val (.int y0), .val (.int y1), .val (.int y2), .val (.ref x), .val (.int (1 : Int32)), .val (.int (1 : Int32)), .val (.int (1 : Int32))]) rfl ?_
  refine own_iload (pc2 := 121) at_119 rfl rfl ?_
  refine own_ifNo (pc2 := 124) at_121 rfl (by decide) ?_
  refine own_aload (pc2 := 126) at_124 rfl rfl rfl ?_
  exact own_refl
theorem own_s11_5 (xc : Int32) (xn : Int32) (xp : Int32) (y0 : Int32) (y1 : Int32) (y2 : Int32) (x : Addr) (rv2 : Int32) :
    own_Go own_K0 code 129 #[.val (.int xc), .val (.int xn), .val (.int xp), .val (.int y0), .val (.int y1), .val (.int y2), .val (.ref x), .val (.int (1 : Int32)), .val (.int (1 : Int32)), .val (.int (1 : Int32))] [(.int rv2)] 161 #[.val (.int xc), .val (.int xn), .val (.int xp), .val (.int y0), .val (.int y1), .val (.int y2), .val (.ref x), .val (.int (1 : Int32)), .val (.int (1 : Int32)), .val (.int (1 : Int32))] [(.ref x)] := by
  refine own_pop (pc2 := 130) at_129 rfl rfl ?_
  refine own_iload (pc2 := 132) at_130 rfl rfl ?_
  refine own_iconst (v := 1) (pc2 := 133) at_132 rfl rfl ?_
  refine own_icmpYes (pc' := 142) at_133 (by decide) (by decide) (by decide) ?_
  refine own_iload (pc2 := 144) at_142 rfl rfl ?_
  refine own_iconst (v := 2) (pc2 := 145) at_144 rfl rfl ?_
  refine own_icmpYes (pc' := 154) at_145 (by decide) (by decide) (by decide) ?_
  refine own_iload (pc2 := 156) at_154 rfl rfl ?_
  refine own_ifNo (pc2 := 159) at_156 rfl (by decide) ?_
  refine own_aload (pc2 := 161) at_159 rfl rfl rfl ?_
  exact own_refl
theorem own_s11_6 (xc : Int32) (xn : Int32) (xp : Int32) (y0 : Int32) (y1 : Int32) (y2 : Int32) (x : Addr) :
    own_Go own_K0 code 164 #[.val (.int xc), .val (.int xn), .val (.int xp), .val (.int y0), .val (.int y1), .val (.int y2), .val (.ref x), .val (.int (1 : Int32)), .val (.int (1 : Int32)), .val (.int (1 : Int32))] [(.int (1 : Int32))] 188 #[.val (.int xc), .val (.int xn), .val (.int xp), .val (.int y0), .val (.int y1), .val (.int y2), .val (.ref x), .val (.int (1 : Int32)), .val (.int (1 : Int32)), .val (.int (1 : Int32))] [(.int (1 : Int32))] := by
  refine own_iload (pc2 := 166) at_164 rfl rfl ?_
  refine own_iload (pc2 := 168) at_166 rfl rfl ?_
  refine own_icmpNo (pc2 := 171) at_168 rfl (by decide) ?_
  refine own_iconst (v := 1) (pc2 := 172) at_171 rfl rfl ?_
  refine own_goto (pc' := 176) at_172 (by decide) (by decide) ?_
  refine own_icmpNo (pc2 := 179) at_176 rfl (by decide) ?_
  refine own_iconst (v := 1) (pc2 := 180) at_179 rfl rfl ?_
  refine own_goto (pc' := 184) at_180 (by decide) (by decide) ?_
  refine own_istore (pc2 := 186) at_184 rfl (L' := #[.val (.int xc), .val (.int xn), .val (.int xp), .val (.int y0), .val (.int y1), .val (.int y2), .val (.ref x), .val (.int (1 : Int32)), .val (.int (1 : Int32)), .val (.int (1 : Int32))]) rfl ?_
  refine own_iload (pc2 := 188) at_186 rfl rfl ?_
  exact own_refl
set_option maxRecDepth 65536 in
set_option maxHeartbeats 40000000 in
theorem own_law11 (l : Launch) (Z : State) (a0 : Array Value) (hb0 : Heap) (hw : ∀ d ∈ tables_1, d.before a0 Z = true) (xc : Int32) (xn : Int32) (xp : Int32) (y0 : Int32) (y1 : Int32) (y2 : Int32) (hkk : (xn &&& (3 : Int32)) = (1 : Int32)) (hpp : (xp &&& (3 : Int32)) = (1 : Int32)) :
    own_Met l Z a0 hb0 x code maxLocals ret tables_1 room_1 #[(.int xc), (.int xn), (.int xp), (.int y0), (.int y1), (.int y2)] [] (fun v _ => v = some (.int 1)) := by
  refine own_met_of (L0 := #[.val (.int xc), .val (.int xn), .val (.int xp), .val (.int y0), .val (.int y1), .val (.int y2), .unset, .unset, .unset, .unset]) (plainFor_of_name own_pn0) (fun m => own_ef0 m xc xn xp y0 y1 y2) ?_
  intro p e s m below meth c T0 hx hZ hown hby hml hnm H0
  have hown : s.vm.findClass "com/example/recourse/recourse/network/NodeHeapIsEmptyPinLaw" = some m.cls := hown
  have hml : c.maxLocals = 10 := hml
  obtain ⟨Ts11_1, x, Hs11_1, sts11_1⟩ := own_newO H0 hx hZ hown (hw _ (List.mem_of_getElem? (i := 0) rfl)) (hw _ (List.mem_of_getElem? (i := 1) rfl)) (hw _ (List.mem_of_getElem? (i := 2) rfl)) [("com/example/recourse/recourse/network/NodeHeap", "nodes", "[I", .null), ("com/example/recourse/recourse/network/NodeHeap", "distances", "[D", .null), ("com/example/recourse/recourse/network/NodeHeap", "remainders", "[D", .null), ("com/example/recourse/recourse/network/NodeHeap", "size", "I", .int 0)] (by
      intro f hf
      simp only [List.mem_cons, List.not_mem_nil, or_false] at hf
      rcases hf with rfl | rfl | rfl | rfl
      · exact ⟨Or.inl (hw _ (List.mem_of_getElem? (i := 15) rfl)), (.array .int), by decide, rfl⟩
      · exact ⟨Or.inl (hw _ (List.mem_of_getElem? (i := 18) rfl)), (.array .double), by decide, rfl⟩
      · exact ⟨Or.inl (hw _ (List.mem_of_getElem? (i := 20) rfl)), (.array .double), by decide, rfl⟩
      · exact ⟨Or.inl (hw _ (List.mem_of_getElem? (i := 27) rfl)), .int, by decide, rfl⟩) (by decide) (g := (mkF m 0 #[.val (.int xc), .val (.int xn), .val (.int xp), .val (.int y0), .val (.int y1), .val (.int y2), .unset, .unset, .unset, .unset] [])) rfl (hb hby at_0) (by decide) (by decide)
  change own_S _ _ _ _ _ _ _ _ _ _ _ _ _ _ [(x, own_O "com/example/recourse/recourse/network/NodeHeap" [("com/example/recourse/recourse/network/NodeHeap", "nodes", "[I", .null), ("com/example/recourse/recourse/network/NodeHeap", "distances", "[D", .null), ("com/example/recourse/recourse/network/NodeHeap", "remainders", "[D", .null), ("com/example/recourse/recourse/network/NodeHeap", "size", "I", .int 0)])] _ _ at Hs11_1
  obtain ⟨v7, hv7⟩ : ∃ z : Int32, (xc &&& (63 : Int32)) = z := ⟨_, rfl⟩
  obtain ⟨v10, hv10⟩ : ∃ z : Int32, (v7 - (16 : Int32)) = z := ⟨_, rfl⟩
  have hk : v10.toInt ≤ 47 := by
    have h1 := c_mask xc 63 6 (by decide) (by decide)
    have h2 := c_isub v7 16
    have := rng32 v10
    rw [hv7] at h1
    rw [hv10, show (16 : Int32).toInt = 16 from rfl] at h2
    omega
  obtain ⟨Ts11_2, vs11_2_, css11_2_, qs11_2, Hs11_2, sts11_2⟩ := own_callI Hs11_1 hx hZ hown rfl (hw _ (List.mem_of_getElem? (i := 3) rfl)) (hw _ (List.mem_of_getElem? (i := 4) rfl)) (hw _ (List.mem_of_getElem? (i := 2) rfl)) (hw _ (List.mem_of_getElem? (i := 5) rfl)) (by decide) (x := x) (argsL := [(.int v10)]) (rest := [(.ref x)]) (W := 1) (own_init l Z a0 hb0 hw x v10 hk) (by decide) (by decide) (by decide) (by decide) (g := (mkF m 11 #[.val (.int xc), .val (.int xn), .val (.int xp), .val (.int y0), .val (.int y1), .val (.int y2), .unset, .unset, .unset, .unset] [(.int v10), (.ref x), (.ref x)])) rfl (by rw [hml]; rfl) (lenOf own_pd4 rfl) rfl (by show 2 * 0 + _ ≤ _; exact Nat.le_of_eq rfl) (hb hby at_11)
  obtain ⟨an, ad, ar, mm, z, hl, hzz, rfl, rfl⟩ := qs11_2
  change own_S _ _ _ _ _ _ _ _ _ _ _ _ _ _ [(x, own_O "com/example/recourse/recourse/network/NodeHeap" [("com/example/recourse/recourse/network/NodeHeap", "nodes", "[I", .ref an), ("com/example/recourse/recourse/network/NodeHeap", "distances", "[D", .ref ad), ("com/example/recourse/recourse/network/NodeHeap", "remainders", "[D", .ref ar), ("com/example/recourse/recourse/network/NodeHeap", "size", "I", .int 0)]), (an, own_A .int ((.int 0) :: (.int 0) :: (.int 0) :: List.replicate mm (.int 0))), (ad, own_A .double ((.double 0) :: (.double 0) :: (.double 0) :: List.replicate mm (.double 0))), (ar, own_A .double ((.double 0) :: (.double 0) :: (.double 0) :: List.replicate mm (.double 0)))] _ _ at Hs11_2
  obtain ⟨Ts11_3, vs11_3_, css11_3_, qs11_3, Hs11_3, sts11_3⟩ := own_callV Hs11_2 hx hZ hown (hw _ (List.mem_of_getElem? (i := 21) rfl)) (hw _ (List.mem_of_getElem? (i := 22) rfl)) (hw _ (List.mem_of_getElem? (i := 24) rfl)) (hw _ (List.mem_of_getElem? (i := 23) rfl)) (hw _ (List.mem_of_getElem? (i := 2) rfl)) (hw _ (List.mem_of_getElem? (i := 25) rfl)) (by decide) (x := x) 0 rfl (argsL := []) (rest := []) (W := 0) (own_emp0 l Z a0 hb0 hw x an ad ar mm 0 0 0 0 0 0 0 0 0) (by decide) (by decide) (by decide) (by decide) (g := (mkF m 18 #[.val (.int xc), .val (.int xn), .val (.int xp), .val (.int y0), .val (.int y1), .val (.int y2), .val (.ref x), .unset, .unset, .unset] [(.ref x)])) rfl (by rw [hml]; rfl) (lenOf own_pd2 rfl) rfl (by show 2 * 0 + _ ≤ _; exact Nat.le_of_eq rfl) (hb hby at_18)
  obtain ⟨rfl, rfl⟩ := qs11_3
  change own_S _ _ _ _ _ _ _ _ _ _ _ _ _ _ [(x, own_O "com/example/recourse/recourse/network/NodeHeap" [("com/example/recourse/recourse/network/NodeHeap", "nodes", "[I", .ref an), ("com/example/recourse/recourse/network/NodeHeap", "distances", "[D", .ref ad), ("com/example/recourse/recourse/network/NodeHeap", "remainders", "[D", .ref ar), ("com/example/recourse/recourse/network/NodeHeap", "size", "I", .int 0)]), (an, own_A .int ((.int 0) :: (.int 0) :: (.int 0) :: List.replicate mm (.int 0))), (ad, own_A .double ((.double 0) :: (.double 0) :: (.double 0) :: List.replicate mm (.double 0))), (ar, own_A .double ((.double 0) :: (.double 0) :: (.double 0) :: List.replicate mm (.double 0)))] _ _ at Hs11_3
  obtain ⟨v53, hv53⟩ : ∃ z : UInt64, (FP.i2d y0) = z := ⟨_, rfl⟩
  obtain ⟨Ts11_4, vs11_4_, css11_4_, qs11_4, Hs11_4, sts11_4⟩ := own_callV Hs11_3 hx hZ hown (hw _ (List.mem_of_getElem? (i := 28) rfl)) (hw _ (List.mem_of_getElem? (i := 29) rfl)) (hw _ (List.mem_of_getElem? (i := 31) rfl)) (hw _ (List.mem_of_getElem? (i := 30) rfl)) (hw _ (List.mem_of_getElem? (i := 2) rfl)) (hw _ (List.mem_of_getElem? (i := 32) rfl)) (by decide) (x := x) 0 rfl (argsL := [(.int y0), (.double v53)]) (rest := []) (W := 0) (own_adi0 l Z a0 hb0 hw x _ _ an ad ar mm 0 0 0 0 0 0 0 0 0 z hl hzz) (by decide) (by decide) (by decide) (by decide) (g := (mkF m 54 #[.val (.int xc), .val (.int xn), .val (.int xp), .val (.int y0), .val (.int y1), .val (.int y2), .val (.ref x), .val (.int (1 : Int32)), .val (.int (1 : Int32)), .val (.int (1 : Int32))] [(.double v53), (.int y0), (.ref x)])) rfl (by rw [hml]; rfl) (lenOf own_pd5 rfl) rfl (by show 2 * 0 + _ ≤ _; exact Nat.le_of_eq rfl) (hb hby at_54)
  obtain ⟨g1_0, g1_1, g1_2, g1_3, g1_4, g1_5, g1_6, g1_7, g1_8, rfl, rfl⟩ := qs11_4
  change own_S _ _ _ _ _ _ _ _ _ _ _ _ _ _ [(x, own_O "com/example/recourse/recourse/network/NodeHeap" [("com/example/recourse/recourse/network/NodeHeap", "nodes", "[I", .ref an), ("com/example/recourse/recourse/network/NodeHeap", "distances", "[D", .ref ad), ("com/example/recourse/recourse/network/NodeHeap", "remainders", "[D", .ref ar), ("com/example/recourse/recourse/network/NodeHeap", "size", "I", .int 1)]), (an, own_A .int ((.int g1_0) :: (.int g1_1) :: (.int g1_2) :: List.replicate mm (.int 0))), (ad, own_A .double ((.double g1_3) :: (.double g1_4) :: (.double g1_5) :: List.replicate mm (.double 0))), (ar, own_A .double ((.double g1_6) :: (.double g1_7) :: (.double g1_8) :: List.replicate mm (.double 0)))] _ _ at Hs11_4
  obtain ⟨Ts11_5, vs11_5_, css11_5_, qs11_5, Hs11_5, sts11_5⟩ := own_callV Hs11_4 hx hZ hown (hw _ (List.mem_of_getElem? (i := 21) rfl)) (hw _ (List.mem_of_getElem? (i := 22) rfl)) (hw _ (List.mem_of_getElem? (i := 24) rfl)) (hw _ (List.mem_of_getElem? (i := 23) rfl)) (hw _ (List.mem_of_getElem? (i := 2) rfl)) (hw _ (List.mem_of_getElem? (i := 25) rfl)) (by decide) (x := x) 0 rfl (argsL := []) (rest := []) (W := 0) (own_emp1 l Z a0 hb0 hw x an ad ar mm g1_0 g1_1 g1_2 g1_3 g1_4 g1_5 g1_6 g1_7 g1_8) (by decide) (by decide) (by decide) (by decide) (g := (mkF m 96 #[.val (.int xc), .val (.int xn), .val (.int xp), .val (.int y0), .val (.int y1), .val (.int y2), .val (.ref x), .val (.int (1 : Int32)), .val (.int (1 : Int32)), .val (.int (1 : Int32))] [(.ref x)])) rfl (by rw [hml]; rfl) (lenOf own_pd2 rfl) rfl (by show 2 * 0 + _ ≤ _; exact Nat.le_of_eq rfl) (hb hby at_96)
  obtain ⟨rfl, rfl⟩ := qs11_5
  change own_S _ _ _ _ _ _ _ _ _ _ _ _ _ _ [(x, own_O "com/example/recourse/recourse/network/NodeHeap" [("com/example/recourse/recourse/network/NodeHeap", "nodes", "[I", .ref an), ("com/example/recourse/recourse/network/NodeHeap", "distances", "[D", .ref ad), ("com/example/recourse/recourse/network/NodeHeap", "remainders", "[D", .ref ar), ("com/example/recourse/recourse/network/NodeHeap", "size", "I", .int 1)]), (an, own_A .int ((.int g1_0) :: (.int g1_1) :: (.int g1_2) :: List.replicate mm (.int 0))), (ad, own_A .double ((.double g1_3) :: (.double g1_4) :: (.double g1_5) :: List.replicate mm (.double 0))), (ar, own_A .double ((.double g1_6) :: (.double g1_7) :: (.double g1_8) :: List.replicate mm (.double 0)))] _ _ at Hs11_5
  obtain ⟨Ts11_6, vs11_6_, css11_6_, qs11_6, Hs11_6, sts11_6⟩ := own_callV Hs11_5 hx hZ hown (hw _ (List.mem_of_getElem? (i := 46) rfl)) (hw _ (List.mem_of_getElem? (i := 47) rfl)) (hw _ (List.mem_of_getElem? (i := 49) rfl)) (hw _ (List.mem_of_getElem? (i := 48) rfl)) (hw _ (List.mem_of_getElem? (i := 2) rfl)) (hw _ (List.mem_of_getElem? (i := 50) rfl)) (by decide) (x := x) 0 rfl (argsL := []) (rest := []) (W := 0) (own_poll1 l Z a0 hb0 hw x an ad ar mm g1_0 g1_1 g1_2 g1_3 g1_4 g1_5 g1_6 g1_7 g1_8) (by decide) (by decide) (by decide) (by decide) (g := (mkF m 126 #[.val (.int xc), .val (.int xn), .val (.int xp), .val (.int y0), .val (.int y1), .val (.int y2), .val (.ref x), .val (.int (1 : Int32)), .val (.int (1 : Int32)), .val (.int (1 : Int32))] [(.ref x)])) rfl (by rw [hml]; rfl) (lenOf own_pd0 rfl) rfl (by show 2 * 0 + _ ≤ _; exact Nat.le_of_eq rfl) (hb hby at_126)
  obtain ⟨g2_0, g2_1, g2_2, g2_3, g2_4, g2_5, g2_6, g2_7, g2_8, rv2, rfl, rfl⟩ := qs11_6
  change own_S _ _ _ _ _ _ _ _ _ _ _ _ _ _ [(x, own_O "com/example/recourse/recourse/network/NodeHeap" [("com/example/recourse/recourse/network/NodeHeap", "nodes", "[I", .ref an), ("com/example/recourse/recourse/network/NodeHeap", "distances", "[D", .ref ad), ("com/example/recourse/recourse/network/NodeHeap", "remainders", "[D", .ref ar), ("com/example/recourse/recourse/network/NodeHeap", "size", "I", .int 0)]), (an, own_A .int ((.int g2_0) :: (.int g2_1) :: (.int g2_2) :: List.replicate mm (.int 0))), (ad, own_A .double ((.double g2_3) :: (.double g2_4) :: (.double g2_5) :: List.replicate mm (.double 0))), (ar, own_A .double ((.double g2_6) :: (.double g2_7) :: (.double g2_8) :: List.replicate mm (.double 0)))] _ _ at Hs11_6
  obtain ⟨Ts11_7, vs11_7_, css11_7_, qs11_7, Hs11_7, sts11_7⟩ := own_callV Hs11_6 hx hZ hown (hw _ (List.mem_of_getElem? (i := 21) rfl)) (hw _ (List.mem_of_getElem? (i := 22) rfl)) (hw _ (List.mem_of_getElem? (i := 24) rfl)) (hw _ (List.mem_of_getElem? (i := 23) rfl)) (hw _ (List.mem_of_getElem? (i := 2) rfl)) (hw _ (List.mem_of_getElem? (i := 25) rfl)) (by decide) (x := x) 0 rfl (argsL := []) (rest := []) (W := 0) (own_emp0 l Z a0 hb0 hw x an ad ar mm g2_0 g2_1 g2_2 g2_3 g2_4 g2_5 g2_6 g2_7 g2_8) (by decide) (by decide) (by decide) (by decide) (g := (mkF m 161 #[.val (.int xc), .val (.int xn), .val (.int xp), .val (.int y0), .val (.int y1), .val (.int y2), .val (.ref x), .val (.int (1 : Int32)), .val (.int (1 : Int32)), .val (.int (1 : Int32))] [(.ref x)])) rfl (by rw [hml]; rfl) (lenOf own_pd2 rfl) rfl (by show 2 * 0 + _ ≤ _; exact Nat.le_of_eq rfl) (hb hby at_161)
  obtain ⟨rfl, rfl⟩ := qs11_7
  change own_S _ _ _ _ _ _ _ _ _ _ _ _ _ _ [(x, own_O "com/example/recourse/recourse/network/NodeHeap" [("com/example/recourse/recourse/network/NodeHeap", "nodes", "[I", .ref an), ("com/example/recourse/recourse/network/NodeHeap", "distances", "[D", .ref ad), ("com/example/recourse/recourse/network/NodeHeap", "remainders", "[D", .ref ar), ("com/example/recourse/recourse/network/NodeHeap", "size", "I", .int 0)]), (an, own_A .int ((.int g2_0) :: (.int g2_1) :: (.int g2_2) :: List.replicate mm (.int 0))), (ad, own_A .double ((.double g2_3) :: (.double g2_4) :: (.double g2_5) :: List.replicate mm (.double 0))), (ar, own_A .double ((.double g2_6) :: (.double g2_7) :: (.double g2_8) :: List.replicate mm (.double 0)))] _ _ at Hs11_7
  refine ⟨_, _, _, _, 188, #[.val (.int xc), .val (.int xn), .val (.int xp), .val (.int y0), .val (.int y1), .val (.int y2), .val (.ref x), .val (.int (1 : Int32)), .val (.int (1 : Int32)), .val (.int (1 : Int32))], Hs11_7, by decide, by decide, Or.inr ⟨.boolean, (.int (1 : Int32)), [], .ireturn, rfl, rfl, at_188, own_retZ (Or.inr rfl), fun target q => ?_⟩⟩
  refine sts11_1 _ ?_
  refine own_go Hs11_1 hx hZ hown hby hw own_K0_ok (own_s11_0 xc xn xp y0 y1 y2 x v7 hv7 v10 hv10) _ ?_
  refine sts11_2 _ ?_
  refine own_go Hs11_2 hx hZ hown hby hw own_K0_ok (own_s11_1 xc xn xp y0 y1 y2 x) _ ?_
  refine sts11_3 _ ?_
  refine own_go Hs11_3 hx hZ hown hby hw own_K0_ok (own_s11_2 xc xn xp y0 y1 y2 x hkk hpp v53 hv53) _ ?_
  refine sts11_4 _ ?_
  refine own_go Hs11_4 hx hZ hown hby hw own_K0_ok (own_s11_3 xc xn xp y0 y1 y2 x) _ ?_
  refine sts11_5 _ ?_
  refine own_go Hs11_5 hx hZ hown hby hw own_K0_ok (own_s11_4 xc xn xp y0 y1 y2 x) _ ?_
  refine sts11_6 _ ?_
  refine own_go Hs11_6 hx hZ hown hby hw own_K0_ok (own_s11_5 xc xn xp y0 y1 y2 x rv2) _ ?_
  refine sts11_7 _ ?_
  refine own_go Hs11_7 hx hZ hown hby hw own_K0_ok (own_s11_6 xc xn xp y0 y1 y2 x) _ ?_
  exact q
theorem own_s12_0 (xc : Int32) (xn : Int32) (xp : Int32) (y0 : Int32) (y1 : Int32) (y2 : Int32) (x : Addr) (v7 : Int32) (hv7 : (xc &&& (63 : Int32)) = v7) (v10 : Int32) (hv10 : (v7 - (16 : Int32)) = v10) :
    own_Go own_K0 code 3 #[.val (.int xc), .val (.int xn), .val (.int xp), .val (.int y0), .val (.int y1), .val (.int y2), .unset, .unset, .unset, .unset] [(.ref x)] 11 #[.val (.int xc), .val (.int xn), .val (.int xp), .val (.int y0), .val (.int y1), .val (.int y2), .unset, .unset, .unset, .unset] [(.int v10), (.ref x), (.ref x)] := by
  refine own_dup (pc2 := 4) at_3 rfl rfl ?_
  refine own_iloadN (pc2 := 5) at_4 rfl rfl ?_
  refine own_bipush (v := 63) (pc2 := 7) at_5 rfl rfl ?_
  refine own_iand (pc2 := 8) at_7 rfl (v := v7) hv7 ?_
  refine own_bipush (v := 16) (pc2 := 10) at_8 rfl rfl ?_
  refine own_isub (pc2 := 11) at_10 rfl (v := v10) hv10 ?_
  exact own_refl
theorem own_s12_1 (xc : Int32) (xn : Int32) (xp : Int32) (y0 : Int32) (y1 : Int32) (y2 : Int32) (x : Addr) :
    own_Go own_K0 code 14 #[.val (.int xc), .val (.int xn), .val (.int xp), .val (.int y0), .val (.int y1), .val (.int y2), .unset, .unset, .unset, .unset] [(.ref x)] 18 #[.val (.int xc), .val (.int xn), .val (.int xp), .val (.int y0), .val (.int y1), .val (.int y2), .val (.ref x), .unset, .unset, .unset] [(.ref x)] := by
  refine own_astore (pc2 := 16) at_14 rfl rfl (L' := #[.val (.int xc), .val (.int xn), .val (.int xp), .val (.int y0), .val (.int y1), .val (.int y2), .val (.ref x), .unset, .unset, .unset]) rfl ?_
  refine own_aload (pc2 := 18) at_16 rfl rfl rfl ?_
  exact own_refl
theorem own_s12_2 (xc : Int32) (xn : Int32) (xp : Int32) (y0 : Int32) (y1 : Int32) (y2 : Int32) (x : Addr) (hkk : (xn &&& (3 : Int32)) = (1 : Int32)) (hpp : (xp &&& (3 : Int32)) = (2 : Int32)) (v53 : UInt64) (hv53 : (FP.i2d y0) = v53) :
    own_Go own_K0 code 21 #[.val (.int xc), .val (.int xn), .val (.int xp), .val (.int y0), .val (.int y1), .val (.int y2), .val (.ref x), .unset, .unset, .unset] [(.int (1 : Int32))] 54 #[.val (.int xc), .val (.int xn), .val (.int xp), .val (.int y0), .val (.int y1), .val (.int y2), .val (.ref x), .val (.int (1 : Int32)), .val (.int (1 : Int32)), .val (.int (1 : Int32))] [(.double v53), (.int y0), (.ref x)] := by
  refine own_istore (pc2 := 23) at_21 rfl (L' := #[.val (.int xc), .val (.int xn), .val (.int xp), .val (.int y0), .val (.int y1), .val (.int y2), .val (.ref x), .val (.int (1 : Int32)), .unset, .unset]) rfl ?_
  refine own_iloadN (pc2 := 24) at_23 rfl rfl ?_
  refine own_iconst (v := 3) (pc2 := 25) at_24 rfl rfl ?_
  refine own_iand (pc2 := 26) at_25 rfl (v := (1 : Int32)) hkk ?_
  refine own_istore (pc2 := 28) at_26 rfl (L' := #[.val (.int xc), .val (.int xn), .val (.int xp), .val (.int y0), .val (.int y1), .val (.int y2), .val (.ref x), .val (.int (1 : Int32)), .val (.int (1 : Int32)), .unset]) rfl ?_
  refine own_iloadN (pc2 := 29) at_28 rfl rfl ?_
  refine own_iconst (v := 3) (pc2 := 30) at_29 rfl rfl ?_
  refine own_iand (pc2 := 31) at_30 rfl (v := (2 : Int32)) hpp ?_
  refine own_istore (pc2 := 33) at_31 rfl (L' := #[.val (.int xc), .val (.int xn), .val (.int xp), .val (.int y0), .val (.int y1), .val (.int y2), .val (.ref x), .val (.int (1 : Int32)), .val (.int (1 : Int32)), .val (.int (2 : Int32))]) rfl ?_
  refine own_iload (pc2 := 35) at_33 rfl rfl ?_
  refine own_iload (pc2 := 37) at_35 rfl rfl ?_
  refine own_icmpNo (pc2 := 40) at_37 rfl (by decide) ?_
  refine own_iload (pc2 := 42) at_40 rfl rfl ?_
  refine own_istore (pc2 := 44) at_42 rfl (L' := #[.val (.int xc), .val (.int xn), .val (.int xp), .val (.int y0), .val (.int y1), .val (.int y2), .val (.ref x), .val (.int (1 : Int32)), .val (.int (1 : Int32)), .val (.int (1 : Int32))]) rfl ?_
  refine own_iload (pc2 := 46) at_44 rfl rfl ?_
  refine own_ifNo (pc2 := 49) at_46 rfl (by decide) ?_
  refine own_aload (pc2 := 51) at_49 rfl rfl rfl ?_
  refine own_iloadN (pc2 := 52) at_51 rfl rfl ?_
  refine own_iloadN (pc2 := 53) at_52 rfl rfl ?_
  refine own_i2d (pc2 := 54) at_53 rfl (v := v53) hv53 ?_
  exact own_refl
theorem own_s12_3 (xc : Int32) (xn : Int32) (xp : Int32) (y0 : Int32) (y1 : Int32) (y2 : Int32) (x : Addr) :
    own_Go own_K0 code 57 #[.val (.int xc), .val (.int xn), .val (.int xp), .val (.int y0), .val (.int y1), .val (.int y2), .val (.ref x), .val (.int (1 : Int32)), .val (.int (1 : Int32)), .val (.int (1 : Int32))] [] 96 #[.val (.int xc), .val (.int xn), .val (.int xp), .val (.int y0), .val (.int y1), .val (.int y2), .val (.ref x), .val (.int (1 : Int32)), .val (.int (1 : Int32)), .val (.int (1 : Int32))] [(.ref x)] := by
  refine own_iload (pc2 := 59) at_57 rfl rfl ?_
  refine own_iconst (v := 1) (pc2 := 60) at_59 rfl rfl ?_
  refine own_icmpYes (pc' := 73) at_60 (by decide) (by decide) (by decide) ?_
  refine own_iload (pc2 := 75) at_73 rfl rfl ?_
  refine own_iconst (v := 2) (pc2 := 76) at_75 rfl rfl ?_
  refine own_icmpYes (pc' := 89) at_76 (by decide) (by decide) (by decide) ?_
  refine own_iload (pc2 := 91) at_89 rfl rfl ?_
  refine own_ifNo (pc2 := 94) at_91 rfl (by decide) ?_
  refine own_aload (pc2 := 96) at_94 rfl rfl rfl ?_
  exact own_refl
theorem own_s12_4 (xc : Int32) (xn : Int32) (xp : Int32) (y0 : Int32) (y1 : Int32) (y2 : Int32) (x : Addr) :
    own_Go own_K0 code 99 #[.val (.int xc), .val (.int xn), .val (.int xp), .val (.int y0), .val (.int y1), .val (.int y2), .val (.ref x), .val (.int (1 : Int32)), .val (.int (1 : Int32)), .val (.int (1 : Int32))] [(.int (0 : Int32))] 126 #[.val (.int xc), .val (.int xn), .val (.int xp), .val (.int y0), .val (.int y1), .val (.int y2), .val (.ref x), .val (.int (1 : Int32)), .val (.int (1 : Int32)), .val (.int (1 : Int32))] [(.ref x)] := by
  refine own_iload (pc2 := 101) at_99 rfl rfl ?_
  refine own_ifYes (pc' := 108) at_101 (by decide) (by decide) (by decide) ?_
  refine own_iconst (v := 0) (pc2 := 109) at_108 rfl rfl ?_
  refine own_icmpNo (pc2 := 112) at_109 rfl (by decide) ?_
  refine own_iconst (v := 1) (pc2 := 113) at_112 rfl rfl ?_
  refine own_goto (pc' := 117) at_113 (by decide) (by decide) ?_
  refine own_istore (pc2 := 119) at_117 rfl (L' := #[.val (.int xc), .val (.int xn), .val (.int xp), .val (.int y0), .val (.int y1), .val (.int y2), .val (.ref x), .val (.int (1 : Int32)), .val (.int (1 : Int32)), .val (.int (1 : Int32))]) rfl ?_
  refine own_iload (pc2 := 121) at_119 rfl rfl ?_
  refine own_ifNo (pc2 := 124) at_121 rfl (by decide) ?_
  refine own_aload (pc2 := 126) at_124 rfl rfl rfl ?_
  exact own_refl
theorem own_s12_5 (xc : Int32) (xn : Int32) (xp : Int32) (y0 : Int32) (y1 : Int32) (y2 : Int32) (x : Addr) (rv2 : Int32) :
    own_Go own_K0 code 129 #[.val (.int xc), .val (.int xn), .val (.int xp), .val (.int y0), .val (.int y1), .val (.int y2), .val (.ref x), .val (.int (1 : Int32)), .val (.int (1 : Int32)), .val (.int (1 : Int32))] [(.int rv2)] 161 #[.val (.int xc), .val (.int xn), .val (.int xp), .val (.int y0), .val (.int y1), .val (.int y2), .val (.ref x), .val (.int (1 : Int32)), .val (.int (1 : Int32)), .val (.int (1 : Int32))] [(.ref x)] := by
  refine own_pop (pc2 := 130) at_129 rfl rfl ?_
  refine own_iload (pc2 := 132) at_130 rfl rfl ?_
  refine own_iconst (v := 1) (pc2 := 133) at_132 rfl rfl ?_
  refine own_icmpYes (pc' := 142) at_133 (by decide) (by decide) (by decide) ?_
  refine own_iload (pc2 := 144) at_142 rfl rfl ?_
  refine own_iconst (v := 2) (pc2 := 145) at_144 rfl rfl ?_
  refine own_icmpYes (pc' := 154) at_145 (by decide) (by decide) (by decide) ?_
  refine own_iload (pc2 := 156) at_154 rfl rfl ?_
  refine own_ifNo (pc2 := 159) at_156 rfl (by decide) ?_
  refine own_aload (pc2 := 161) at_159 rfl rfl rfl ?_
  exact own_refl
theorem own_s12_6 (xc : Int32) (xn : Int32) (xp : Int32) (y0 : Int32) (y1 : Int32) (y2 : Int32) (x : Addr) :
    own_Go own_K0 code 164 #[.val (.int xc), .val (.int xn), .val (.int xp), .val (.int y0), .val (.int y1), .val (.int y2), .val (.ref x), .val (.int (1 : Int32)), .val (.int (1 : Int32)), .val (.int (1 : Int32))] [(.int (1 : Int32))] 188 #[.val (.int xc), .val (.int xn), .val (.int xp), .val (.int y0), .val (.int y1), .val (.int y2), .val (.ref x), .val (.int (1 : Int32)), .val (.int (1 : Int32)), .val (.int (1 : Int32))] [(.int (1 : Int32))] := by
  refine own_iload (pc2 := 166) at_164 rfl rfl ?_
  refine own_iload (pc2 := 168) at_166 rfl rfl ?_
  refine own_icmpNo (pc2 := 171) at_168 rfl (by decide) ?_
  refine own_iconst (v := 1) (pc2 := 172) at_171 rfl rfl ?_
  refine own_goto (pc' := 176) at_172 (by decide) (by decide) ?_
  refine own_icmpNo (pc2 := 179) at_176 rfl (by decide) ?_
  refine own_iconst (v := 1) (pc2 := 180) at_179 rfl rfl ?_
  refine own_goto (pc' := 184) at_180 (by decide) (by decide) ?_
  refine own_istore (pc2 := 186) at_184 rfl (L' := #[.val (.int xc), .val (.int xn), .val (.int xp), .val (.int y0), .val (.int y1), .val (.int y2), .val (.ref x), .val (.int (1 : Int32)), .val (.int (1 : Int32)), .val (.int (1 : Int32))]) rfl ?_
  refine own_iload (pc2 := 188) at_186 rfl rfl ?_
  exact own_refl
set_option maxRecDepth 65536 in
set_option maxHeartbeats 40000000 in
theorem own_law12 (l : Launch) (Z : State) (a0 : Array Value) (hb0 : Heap) (hw : ∀ d ∈ tables_1, d.before a0 Z = true) (xc : Int32) (xn : Int32) (xp : Int32) (y0 : Int32) (y1 : Int32) (y2 : Int32) (hkk : (xn &&& (3 : Int32)) = (1 : Int32)) (hpp : (xp &&& (3 : Int32)) = (2 : Int32)) :
    own_Met l Z a0 hb0 x code maxLocals ret tables_1 room_1 #[(.int xc), (.int xn), (.int xp), (.int y0), (.int y1), (.int y2)] [] (fun v _ => v = some (.int 1)) := by
  refine own_met_of (L0 := #[.val (.int xc), .val (.int xn), .val (.int xp), .val (.int y0), .val (.int y1), .val (.int y2), .unset, .unset, .unset, .unset]) (plainFor_of_name own_pn0) (fun m => own_ef0 m xc xn xp y0 y1 y2) ?_
  intro p e s m below meth c T0 hx hZ hown hby hml hnm H0
  have hown : s.vm.findClass "com/example/recourse/recourse/network/NodeHeapIsEmptyPinLaw" = some m.cls := hown
  have hml : c.maxLocals = 10 := hml
  obtain ⟨Ts12_1, x, Hs12_1, sts12_1⟩ := own_newO H0 hx hZ hown (hw _ (List.mem_of_getElem? (i := 0) rfl)) (hw _ (List.mem_of_getElem? (i := 1) rfl)) (hw _ (List.mem_of_getElem? (i := 2) rfl)) [("com/example/recourse/recourse/network/NodeHeap", "nodes", "[I", .null), ("com/example/recourse/recourse/network/NodeHeap", "distances", "[D", .null), ("com/example/recourse/recourse/network/NodeHeap", "remainders", "[D", .null), ("com/example/recourse/recourse/network/NodeHeap", "size", "I", .int 0)] (by
      intro f hf
      simp only [List.mem_cons, List.not_mem_nil, or_false] at hf
      rcases hf with rfl | rfl | rfl | rfl
      · exact ⟨Or.inl (hw _ (List.mem_of_getElem? (i := 15) rfl)), (.array .int), by decide, rfl⟩
      · exact ⟨Or.inl (hw _ (List.mem_of_getElem? (i := 18) rfl)), (.array .double), by decide, rfl⟩
      · exact ⟨Or.inl (hw _ (List.mem_of_getElem? (i := 20) rfl)), (.array .double), by decide, rfl⟩
      · exact ⟨Or.inl (hw _ (List.mem_of_getElem? (i := 27) rfl)), .int, by decide, rfl⟩) (by decide) (g := (mkF m 0 #[.val (.int xc), .val (.int xn), .val (.int xp), .val (.int y0), .val (.int y1), .val (.int y2), .unset, .unset, .unset, .unset] [])) rfl (hb hby at_0) (by decide) (by decide)
  change own_S _ _ _ _ _ _ _ _ _ _ _ _ _ _ [(x, own_O "com/example/recourse/recourse/network/NodeHeap" [("com/example/recourse/recourse/network/NodeHeap", "nodes", "[I", .null), ("com/example/recourse/recourse/network/NodeHeap", "distances", "[D", .null), ("com/example/recourse/recourse/network/NodeHeap", "remainders", "[D", .null), ("com/example/recourse/recourse/network/NodeHeap", "size", "I", .int 0)])] _ _ at Hs12_1
  obtain ⟨v7, hv7⟩ : ∃ z : Int32, (xc &&& (63 : Int32)) = z := ⟨_, rfl⟩
  obtain ⟨v10, hv10⟩ : ∃ z : Int32, (v7 - (16 : Int32)) = z := ⟨_, rfl⟩
  have hk : v10.toInt ≤ 47 := by
    have h1 := c_mask xc 63 6 (by decide) (by decide)
    have h2 := c_isub v7 16
    have := rng32 v10
    rw [hv7] at h1
    rw [hv10, show (16 : Int32).toInt = 16 from rfl] at h2
    omega
  obtain ⟨Ts12_2, vs12_2_, css12_2_, qs12_2, Hs12_2, sts12_2⟩ := own_callI Hs12_1 hx hZ hown rfl (hw _ (List.mem_of_getElem? (i := 3) rfl)) (hw _ (List.mem_of_getElem? (i := 4) rfl)) (hw _ (List.mem_of_getElem? (i := 2) rfl)) (hw _ (List.mem_of_getElem? (i := 5) rfl)) (by decide) (x := x) (argsL := [(.int v10)]) (rest := [(.ref x)]) (W := 1) (own_init l Z a0 hb0 hw x v10 hk) (by decide) (by decide) (by decide) (by decide) (g := (mkF m 11 #[.val (.int xc), .val (.int xn), .val (.int xp), .val (.int y0), .val (.int y1), .val (.int y2), .unset, .unset, .unset, .unset] [(.int v10), (.ref x), (.ref x)])) rfl (by rw [hml]; rfl) (lenOf own_pd4 rfl) rfl (by show 2 * 0 + _ ≤ _; exact Nat.le_of_eq rfl) (hb hby at_11)
  obtain ⟨an, ad, ar, mm, z, hl, hzz, rfl, rfl⟩ := qs12_2
  change own_S _ _ _ _ _ _ _ _ _ _ _ _ _ _ [(x, own_O "com/example/recourse/recourse/network/NodeHeap" [("com/example/recourse/recourse/network/NodeHeap", "nodes", "[I", .ref an), ("com/example/recourse/recourse/network/NodeHeap", "distances", "[D", .ref ad), ("com/example/recourse/recourse/network/NodeHeap", "remainders", "[D", .ref ar), ("com/example/recourse/recourse/network/NodeHeap", "size", "I", .int 0)]), (an, own_A .int ((.int 0) :: (.int 0) :: (.int 0) :: List.replicate mm (.int 0))), (ad, own_A .double ((.double 0) :: (.double 0) :: (.double 0) :: List.replicate mm (.double 0))), (ar, own_A .double ((.double 0) :: (.double 0) :: (.double 0) :: List.replicate mm (.double 0)))] _ _ at Hs12_2
  obtain ⟨Ts12_3, vs12_3_, css12_3_, qs12_3, Hs12_3, sts12_3⟩ := own_callV Hs12_2 hx hZ hown (hw _ (List.mem_of_getElem? (i := 21) rfl)) (hw _ (List.mem_of_getElem? (i := 22) rfl)) (hw _ (List.mem_of_getElem? (i := 24) rfl)) (hw _ (List.mem_of_getElem? (i := 23) rfl)) (hw _ (List.mem_of_getElem? (i := 2) rfl)) (hw _ (List.mem_of_getElem? (i := 25) rfl)) (by decide) (x := x) 0 rfl (argsL := []) (rest := []) (W := 0) (own_emp0 l Z a0 hb0 hw x an ad ar mm 0 0 0 0 0 0 0 0 0) (by decide) (by decide) (by decide) (by decide) (g := (mkF m 18 #[.val (.int xc), .val (.int xn), .val (.int xp), .val (.int y0), .val (.int y1), .val (.int y2), .val (.ref x), .unset, .unset, .unset] [(.ref x)])) rfl (by rw [hml]; rfl) (lenOf own_pd2 rfl) rfl (by show 2 * 0 + _ ≤ _; exact Nat.le_of_eq rfl) (hb hby at_18)
  obtain ⟨rfl, rfl⟩ := qs12_3
  change own_S _ _ _ _ _ _ _ _ _ _ _ _ _ _ [(x, own_O "com/example/recourse/recourse/network/NodeHeap" [("com/example/recourse/recourse/network/NodeHeap", "nodes", "[I", .ref an), ("com/example/recourse/recourse/network/NodeHeap", "distances", "[D", .ref ad), ("com/example/recourse/recourse/network/NodeHeap", "remainders", "[D", .ref ar), ("com/example/recourse/recourse/network/NodeHeap", "size", "I", .int 0)]), (an, own_A .int ((.int 0) :: (.int 0) :: (.int 0) :: List.replicate mm (.int 0))), (ad, own_A .double ((.double 0) :: (.double 0) :: (.double 0) :: List.replicate mm (.double 0))), (ar, own_A .double ((.double 0) :: (.double 0) :: (.double 0) :: List.replicate mm (.double 0)))] _ _ at Hs12_3
  obtain ⟨v53, hv53⟩ : ∃ z : UInt64, (FP.i2d y0) = z := ⟨_, rfl⟩
  obtain ⟨Ts12_4, vs12_4_, css12_4_, qs12_4, Hs12_4, sts12_4⟩ := own_callV Hs12_3 hx hZ hown (hw _ (List.mem_of_getElem? (i := 28) rfl)) (hw _ (List.mem_of_getElem? (i := 29) rfl)) (hw _ (List.mem_of_getElem? (i := 31) rfl)) (hw _ (List.mem_of_getElem? (i := 30) rfl)) (hw _ (List.mem_of_getElem? (i := 2) rfl)) (hw _ (List.mem_of_getElem? (i := 32) rfl)) (by decide) (x := x) 0 rfl (argsL := [(.int y0), (.double v53)]) (rest := []) (W := 0) (own_adi0 l Z a0 hb0 hw x _ _ an ad ar mm 0 0 0 0 0 0 0 0 0 z hl hzz) (by decide) (by decide) (by decide) (by decide) (g := (mkF m 54 #[.val (.int xc), .val (.int xn), .val (.int xp), .val (.int y0), .val (.int y1), .val (.int y2), .val (.ref x), .val (.int (1 : Int32)), .val (.int (1 : Int32)), .val (.int (1 : Int32))] [(.double v53), (.int y0), (.ref x)])) rfl (by rw [hml]; rfl) (lenOf own_pd5 rfl) rfl (by show 2 * 0 + _ ≤ _; exact Nat.le_of_eq rfl) (hb hby at_54)
  obtain ⟨g1_0, g1_1, g1_2, g1_3, g1_4, g1_5, g1_6, g1_7, g1_8, rfl, rfl⟩ := qs12_4
  change own_S _ _ _ _ _ _ _ _ _ _ _ _ _ _ [(x, own_O "com/example/recourse/recourse/network/NodeHeap" [("com/example/recourse/recourse/network/NodeHeap", "nodes", "[I", .ref an), ("com/example/recourse/recourse/network/NodeHeap", "distances", "[D", .ref ad), ("com/example/recourse/recourse/network/NodeHeap", "remainders", "[D", .ref ar), ("com/example/recourse/recourse/network/NodeHeap", "size", "I", .int 1)]), (an, own_A .int ((.int g1_0) :: (.int g1_1) :: (.int g1_2) :: List.replicate mm (.int 0))), (ad, own_A .double ((.double g1_3) :: (.double g1_4) :: (.double g1_5) :: List.replicate mm (.double 0))), (ar, own_A .double ((.double g1_6) :: (.double g1_7) :: (.double g1_8) :: List.replicate mm (.double 0)))] _ _ at Hs12_4
  obtain ⟨Ts12_5, vs12_5_, css12_5_, qs12_5, Hs12_5, sts12_5⟩ := own_callV Hs12_4 hx hZ hown (hw _ (List.mem_of_getElem? (i := 21) rfl)) (hw _ (List.mem_of_getElem? (i := 22) rfl)) (hw _ (List.mem_of_getElem? (i := 24) rfl)) (hw _ (List.mem_of_getElem? (i := 23) rfl)) (hw _ (List.mem_of_getElem? (i := 2) rfl)) (hw _ (List.mem_of_getElem? (i := 25) rfl)) (by decide) (x := x) 0 rfl (argsL := []) (rest := []) (W := 0) (own_emp1 l Z a0 hb0 hw x an ad ar mm g1_0 g1_1 g1_2 g1_3 g1_4 g1_5 g1_6 g1_7 g1_8) (by decide) (by decide) (by decide) (by decide) (g := (mkF m 96 #[.val (.int xc), .val (.int xn), .val (.int xp), .val (.int y0), .val (.int y1), .val (.int y2), .val (.ref x), .val (.int (1 : Int32)), .val (.int (1 : Int32)), .val (.int (1 : Int32))] [(.ref x)])) rfl (by rw [hml]; rfl) (lenOf own_pd2 rfl) rfl (by show 2 * 0 + _ ≤ _; exact Nat.le_of_eq rfl) (hb hby at_96)
  obtain ⟨rfl, rfl⟩ := qs12_5
  change own_S _ _ _ _ _ _ _ _ _ _ _ _ _ _ [(x, own_O "com/example/recourse/recourse/network/NodeHeap" [("com/example/recourse/recourse/network/NodeHeap", "nodes", "[I", .ref an), ("com/example/recourse/recourse/network/NodeHeap", "distances", "[D", .ref ad), ("com/example/recourse/recourse/network/NodeHeap", "remainders", "[D", .ref ar), ("com/example/recourse/recourse/network/NodeHeap", "size", "I", .int 1)]), (an, own_A .int ((.int g1_0) :: (.int g1_1) :: (.int g1_2) :: List.replicate mm (.int 0))), (ad, own_A .double ((.double g1_3) :: (.double g1_4) :: (.double g1_5) :: List.replicate mm (.double 0))), (ar, own_A .double ((.double g1_6) :: (.double g1_7) :: (.double g1_8) :: List.replicate mm (.double 0)))] _ _ at Hs12_5
  obtain ⟨Ts12_6, vs12_6_, css12_6_, qs12_6, Hs12_6, sts12_6⟩ := own_callV Hs12_5 hx hZ hown (hw _ (List.mem_of_getElem? (i := 46) rfl)) (hw _ (List.mem_of_getElem? (i := 47) rfl)) (hw _ (List.mem_of_getElem? (i := 49) rfl)) (hw _ (List.mem_of_getElem? (i := 48) rfl)) (hw _ (List.mem_of_getElem? (i := 2) rfl)) (hw _ (List.mem_of_getElem? (i := 50) rfl)) (by decide) (x := x) 0 rfl (argsL := []) (rest := []) (W := 0) (own_poll1 l Z a0 hb0 hw x an ad ar mm g1_0 g1_1 g1_2 g1_3 g1_4 g1_5 g1_6 g1_7 g1_8) (by decide) (by decide) (by decide) (by decide) (g := (mkF m 126 #[.val (.int xc), .val (.int xn), .val (.int xp), .val (.int y0), .val (.int y1), .val (.int y2), .val (.ref x), .val (.int (1 : Int32)), .val (.int (1 : Int32)), .val (.int (1 : Int32))] [(.ref x)])) rfl (by rw [hml]; rfl) (lenOf own_pd0 rfl) rfl (by show 2 * 0 + _ ≤ _; exact Nat.le_of_eq rfl) (hb hby at_126)
  obtain ⟨g2_0, g2_1, g2_2, g2_3, g2_4, g2_5, g2_6, g2_7, g2_8, rv2, rfl, rfl⟩ := qs12_6
  change own_S _ _ _ _ _ _ _ _ _ _ _ _ _ _ [(x, own_O "com/example/recourse/recourse/network/NodeHeap" [("com/example/recourse/recourse/network/NodeHeap", "nodes", "[I", .ref an), ("com/example/recourse/recourse/network/NodeHeap", "distances", "[D", .ref ad), ("com/example/recourse/recourse/network/NodeHeap", "remainders", "[D", .ref ar), ("com/example/recourse/recourse/network/NodeHeap", "size", "I", .int 0)]), (an, own_A .int ((.int g2_0) :: (.int g2_1) :: (.int g2_2) :: List.replicate mm (.int 0))), (ad, own_A .double ((.double g2_3) :: (.double g2_4) :: (.double g2_5) :: List.replicate mm (.double 0))), (ar, own_A .double ((.double g2_6) :: (.double g2_7) :: (.double g2_8) :: List.replicate mm (.double 0)))] _ _ at Hs12_6
  obtain ⟨Ts12_7, vs12_7_, css12_7_, qs12_7, Hs12_7, sts12_7⟩ := own_callV Hs12_6 hx hZ hown (hw _ (List.mem_of_getElem? (i := 21) rfl)) (hw _ (List.mem_of_getElem? (i := 22) rfl)) (hw _ (List.mem_of_getElem? (i := 24) rfl)) (hw _ (List.mem_of_getElem? (i := 23) rfl)) (hw _ (List.mem_of_getElem? (i := 2) rfl)) (hw _ (List.mem_of_getElem? (i := 25) rfl)) (by decide) (x := x) 0 rfl (argsL := []) (rest := []) (W := 0) (own_emp0 l Z a0 hb0 hw x an ad ar mm g2_0 g2_1 g2_2 g2_3 g2_4 g2_5 g2_6 g2_7 g2_8) (by decide) (by decide) (by decide) (by decide) (g := (mkF m 161 #[.val (.int xc), .val (.int xn), .val (.int xp), .val (.int y0), .val (.int y1), .val (.int y2), .val (.ref x), .val (.int (1 : Int32)), .val (.int (1 : Int32)), .val (.int (1 : Int32))] [(.ref x)])) rfl (by rw [hml]; rfl) (lenOf own_pd2 rfl) rfl (by show 2 * 0 + _ ≤ _; exact Nat.le_of_eq rfl) (hb hby at_161)
  obtain ⟨rfl, rfl⟩ := qs12_7
  change own_S _ _ _ _ _ _ _ _ _ _ _ _ _ _ [(x, own_O "com/example/recourse/recourse/network/NodeHeap" [("com/example/recourse/recourse/network/NodeHeap", "nodes", "[I", .ref an), ("com/example/recourse/recourse/network/NodeHeap", "distances", "[D", .ref ad), ("com/example/recourse/recourse/network/NodeHeap", "remainders", "[D", .ref ar), ("com/example/recourse/recourse/network/NodeHeap", "size", "I", .int 0)]), (an, own_A .int ((.int g2_0) :: (.int g2_1) :: (.int g2_2) :: List.replicate mm (.int 0))), (ad, own_A .double ((.double g2_3) :: (.double g2_4) :: (.double g2_5) :: List.replicate mm (.double 0))), (ar, own_A .double ((.double g2_6) :: (.double g2_7) :: (.double g2_8) :: List.replicate mm (.double 0)))] _ _ at Hs12_7
  refine ⟨_, _, _, _, 188, #[.val (.int xc), .val (.int xn), .val (.int xp), .val (.int y0), .val (.int y1), .val (.int y2), .val (.ref x), .val (.int (1 : Int32)), .val (.int (1 : Int32)), .val (.int (1 : Int32))], Hs12_7, by decide, by decide, Or.inr ⟨.boolean, (.int (1 : Int32)), [], .ireturn, rfl, rfl, at_188, own_retZ (Or.inr rfl), fun target q => ?_⟩⟩
  refine sts12_1 _ ?_
  refine own_go Hs12_1 hx hZ hown hby hw own_K0_ok (own_s12_0 xc xn xp y0 y1 y2 x v7 hv7 v10 hv10) _ ?_
  refine sts12_2 _ ?_
  refine own_go Hs12_2 hx hZ hown hby hw own_K0_ok (own_s12_1 xc xn xp y0 y1 y2 x) _ ?_
  refine sts12_3 _ ?_
  refine own_go Hs12_3 hx hZ hown hby hw own_K0_ok (own_s12_2 xc xn xp y0 y1 y2 x hkk hpp v53 hv53) _ ?_
  refine sts12_4 _ ?_
  refine own_go Hs12_4 hx hZ hown hby hw own_K0_ok (own_s12_3 xc xn xp y0 y1 y2 x) _ ?_
  refine sts12_5 _ ?_
  refine own_go Hs12_5 hx hZ hown hby hw own_K0_ok (own_s12_4 xc xn xp y0 y1 y2 x) _ ?_
  refine sts12_6 _ ?_
  refine own_go Hs12_6 hx hZ hown hby hw own_K0_ok (own_s12_5 xc xn xp y0 y1 y2 x rv2) _ ?_
  refine sts12_7 _ ?_
  refine own_go Hs12_7 hx hZ hown hby hw own_K0_ok (own_s12_6 xc xn xp y0 y1 y2 x) _ ?_
  exact q
theorem own_s13_0 (xc : Int32) (xn : Int32) (xp : Int32) (y0 : Int32) (y1 : Int32) (y2 : Int32) (x : Addr) (v7 : Int32) (hv7 : (xc &&& (63 : Int32)) = v7) (v10 : Int32) (hv10 : (v7 - (16 : Int32)) = v10) :
    own_Go own_K0 code 3 #[.val (.int xc), .val (.int xn), .val (.int xp), .val (.int y0), .val (.int y1), .val (.int y2), .unset, .unset, .unset, .unset] [(.ref x)] 11 #[.val (.int xc), .val (.int xn), .val (.int xp), .val (.int y0), .val (.int y1), .val (.int y2), .unset, .unset, .unset, .unset] [(.int v10), (.ref x), (.ref x)] := by
  refine own_dup (pc2 := 4) at_3 rfl rfl ?_
  refine own_iloadN (pc2 := 5) at_4 rfl rfl ?_
  refine own_bipush (v := 63) (pc2 := 7) at_5 rfl rfl ?_
  refine own_iand (pc2 := 8) at_7 rfl (v := v7) hv7 ?_
  refine own_bipush (v := 16) (pc2 := 10) at_8 rfl rfl ?_
  refine own_isub (pc2 := 11) at_10 rfl (v := v10) hv10 ?_
  exact own_refl
theorem own_s13_1 (xc : Int32) (xn : Int32) (xp : Int32) (y0 : Int32) (y1 : Int32) (y2 : Int32) (x : Addr) :
    own_Go own_K0 code 14 #[.val (.int xc), .val (.int xn), .val (.int xp), .val (.int y0), .val (.int y1), .val (.int y2), .unset, .unset, .unset, .unset] [(.ref x)] 18 #[.val (.int xc), .val (.int xn), .val (.int xp), .val (.int y0), .val (.int y1), .val (.int y2), .val (.ref x), .unset, .unset, .unset] [(.ref x)] := by
  refine own_astore (pc2 := 16) at_14 rfl rfl (L' := #[.val (.int xc), .val (.int xn), .val (.int xp), .val (.int y0), .val (.int y1), .val (.int y2), .val (.ref x), .unset, .unset, .unset]) rfl ?_
  refine own_aload (pc2 := 18) at_16 rfl rfl rfl ?_
  exact own_refl
theorem own_s13_2 (xc : Int32) (xn : Int32) (xp : Int32) (y0 : Int32) (y1 : Int32) (y2 : Int32) (x : Addr) (hkk : (xn &&& (3 : Int32)) = (1 : Int32)) (hpp : (xp &&& (3 : Int32)) = (3 : Int32)) (v53 : UInt64) (hv53 : (FP.i2d y0) = v53) :
    own_Go own_K0 code 21 #[.val (.int xc), .val (.int xn), .val (.int xp), .val (.int y0), .val (.int y1), .val (.int y2), .val (.ref x), .unset, .unset, .unset] [(.int (1 : Int32))] 54 #[.val (.int xc), .val (.int xn), .val (.int xp), .val (.int y0), .val (.int y1), .val (.int y2), .val (.ref x), .val (.int (1 : Int32)), .val (.int (1 : Int32)), .val (.int (1 : Int32))] [(.double v53), (.int y0), (.ref x)] := by
  refine own_istore (pc2 := 23) at_21 rfl (L' := #[.val (.int xc), .val (.int xn), .val (.int xp), .val (.int y0), .val (.int y1), .val (.int y2), .val (.ref x), .val (.int (1 : Int32)), .unset, .unset]) rfl ?_
  refine own_iloadN (pc2 := 24) at_23 rfl rfl ?_
  refine own_iconst (v := 3) (pc2 := 25) at_24 rfl rfl ?_
  refine own_iand (pc2 := 26) at_25 rfl (v := (1 : Int32)) hkk ?_
  refine own_istore (pc2 := 28) at_26 rfl (L' := #[.val (.int xc), .val (.int xn), .val (.int xp), .val (.int y0), .val (.int y1), .val (.int y2), .val (.ref x), .val (.int (1 : Int32)), .val (.int (1 : Int32)), .unset]) rfl ?_
  refine own_iloadN (pc2 := 29) at_28 rfl rfl ?_
  refine own_iconst (v := 3) (pc2 := 30) at_29 rfl rfl ?_
  refine own_iand (pc2 := 31) at_30 rfl (v := (3 : Int32)) hpp ?_
  refine own_istore (pc2 := 33) at_31 rfl (L' := #[.val (.int xc), .val (.int xn), .val (.int xp), .val (.int y0), .val (.int y1), .val (.int y2), .val (.ref x), .val (.int (1 : Int32)), .val (.int (1 : Int32)), .val (.int (3 : Int32))]) rfl ?_
  refine own_iload (pc2 := 35) at_33 rfl rfl ?_
  refine own_iload (pc2 := 37) at_35 rfl rfl ?_
  refine own_icmpNo (pc2 := 40) at_37 rfl (by decide) ?_
  refine own_iload (pc2 := 42) at_40 rfl rfl ?_
  refine own_istore (pc2 := 44) at_42 rfl (L' := #[.val (.int xc), .val (.int xn), .val (.int xp), .val (.int y0), .val (.int y1), .val (.int y2), .val (.ref x), .val (.int (1 : Int32)), .val (.int (1 : Int32)), .val (.int (1 : Int32))]) rfl ?_
  refine own_iload (pc2 := 46) at_44 rfl rfl ?_
  refine own_ifNo (pc2 := 49) at_46 rfl (by decide) ?_
  refine own_aload (pc2 := 51) at_49 rfl rfl rfl ?_
  refine own_iloadN (pc2 := 52) at_51 rfl rfl ?_
  refine own_iloadN (pc2 := 53) at_52 rfl rfl ?_
  refine own_i2d (pc2 := 54) at_53 rfl (v := v53) hv53 ?_
  exact own_refl
theorem own_s13_3 (xc : Int32) (xn : Int32) (xp : Int32) (y0 : Int32) (y1 : Int32) (y2 : Int32) (x : Addr) :
    own_Go own_K0 code 57 #[.val (.int xc), .val (.int xn), .val (.int xp), .val (.int y0), .val (.int y1), .val (.int y2), .val (.ref x), .val (.int (1 : Int32)), .val (.int (1 : Int32)), .val (.int (1 : Int32))] [] 96 #[.val (.int xc), .val (.int xn), .val (.int xp), .val (.int y0), .val (.int y1), .val (.int y2), .val (.ref x), .val (.int (1 : Int32)), .val (.int (1 : Int32)), .val (.int (1 : Int32))] [(.ref x)] := by
  refine own_iload (pc2 := 59) at_57 rfl rfl ?_
  refine own_iconst (v := 1) (pc2 := 60) at_59 rfl rfl ?_
  refine own_icmpYes (pc' := 73) at_60 (by decide) (by decide) (by decide) ?_
  refine own_iload (pc2 := 75) at_73 rfl rfl ?_
  refine own_iconst (v := 2) (pc2 := 76) at_75 rfl rfl ?_
  refine own_icmpYes (pc' := 89) at_76 (by decide) (by decide) (by decide) ?_
  refine own_iload (pc2 := 91) at_89 rfl rfl ?_
  refine own_ifNo (pc2 := 94) at_91 rfl (by decide) ?_
  refine own_aload (pc2 := 96) at_94 rfl rfl rfl ?_
  exact own_refl
theorem own_s13_4 (xc : Int32) (xn : Int32) (xp : Int32) (y0 : Int32) (y1 : Int32) (y2 : Int32) (x : Addr) :
    own_Go own_K0 code 99 #[.val (.int xc), .val (.int xn), .val (.int xp), .val (.int y0), .val (.int y1), .val (.int y2), .val (.ref x), .val (.int (1 : Int32)), .val (.int (1 : Int32)), .val (.int (1 : Int32))] [(.int (0 : Int32))] 126 #[.val (.int xc), .val (.int xn), .val (.int xp), .val (.int y0), .val (.int y1), .val (.int y2), .val (.ref x), .val (.int (1 : Int32)), .val (.int (1 : Int32)), .val (.int (1 : Int32))] [(.ref x)] := by
  refine own_iload (pc2 := 101) at_99 rfl rfl ?_
  refine own_ifYes (pc' := 108) at_101 (by decide) (by decide) (by decide) ?_
  refine own_iconst (v := 0) (pc2 := 109) at_108 rfl rfl ?_
  refine own_icmpNo (pc2 := 112) at_109 rfl (by decide) ?_
  refine own_iconst (v := 1) (pc2 := 113) at_112 rfl rfl ?_
  refine own_goto (pc' := 117) at_113 (by decide) (by decide) ?_
  refine own_istore (pc2 := 119) at_117 rfl (L' := #[.val (.int xc), .val (.int xn), .val (.int xp), .val (.int y0), .val (.int y1), .val (.int y2), .val (.ref x), .val (.int (1 : Int32)), .val (.int (1 : Int32)), .val (.int (1 : Int32))]) rfl ?_
  refine own_iload (pc2 := 121) at_119 rfl rfl ?_
  refine own_ifNo (pc2 := 124) at_121 rfl (by decide) ?_
  refine own_aload (pc2 := 126) at_124 rfl rfl rfl ?_
  exact own_refl
theorem own_s13_5 (xc : Int32) (xn : Int32) (xp : Int32) (y0 : Int32) (y1 : Int32) (y2 : Int32) (x : Addr) (rv2 : Int32) :
    own_Go own_K0 code 129 #[.val (.int xc), .val (.int xn), .val (.int xp), .val (.int y0), .val (.int y1), .val (.int y2), .val (.ref x), .val (.int (1 : Int32)), .val (.int (1 : Int32)), .val (.int (1 : Int32))] [(.int rv2)] 161 #[.val (.int xc), .val (.int xn), .val (.int xp), .val (.int y0), .val (.int y1), .val (.int y2), .val (.ref x), .val (.int (1 : Int32)), .val (.int (1 : Int32)), .val (.int (1 : Int32))] [(.ref x)] := by
  refine own_pop (pc2 := 130) at_129 rfl rfl ?_
  refine own_iload (pc2 := 132) at_130 rfl rfl ?_
  refine own_iconst (v := 1) (pc2 := 133) at_132 rfl rfl ?_
  refine own_icmpYes (pc' := 142) at_133 (by decide) (by decide) (by decide) ?_
  refine own_iload (pc2 := 144) at_142 rfl rfl ?_
  refine own_iconst (v := 2) (pc2 := 145) at_144 rfl rfl ?_
  refine own_icmpYes (pc' := 154) at_145 (by decide) (by decide) (by decide) ?_
  refine own_iload (pc2 := 156) at_154 rfl rfl ?_
  refine own_ifNo (pc2 := 159) at_156 rfl (by decide) ?_
  refine own_aload (pc2 := 161) at_159 rfl rfl rfl ?_
  exact own_refl
theorem own_s13_6 (xc : Int32) (xn : Int32) (xp : Int32) (y0 : Int32) (y1 : Int32) (y2 : Int32) (x : Addr) :
    own_Go own_K0 code 164 #[.val (.int xc), .val (.int xn), .val (.int xp), .val (.int y0), .val (.int y1), .val (.int y2), .val (.ref x), .val (.int (1 : Int32)), .val (.int (1 : Int32)), .val (.int (1 : Int32))] [(.int (1 : Int32))] 188 #[.val (.int xc), .val (.int xn), .val (.int xp), .val (.int y0), .val (.int y1), .val (.int y2), .val (.ref x), .val (.int (1 : Int32)), .val (.int (1 : Int32)), .val (.int (1 : Int32))] [(.int (1 : Int32))] := by
  refine own_iload (pc2 := 166) at_164 rfl rfl ?_
  refine own_iload (pc2 := 168) at_166 rfl rfl ?_
  refine own_icmpNo (pc2 := 171) at_168 rfl (by decide) ?_
  refine own_iconst (v := 1) (pc2 := 172) at_171 rfl rfl ?_
  refine own_goto (pc' := 176) at_172 (by decide) (by decide) ?_
  refine own_icmpNo (pc2 := 179) at_176 rfl (by decide) ?_
  refine own_iconst (v := 1) (pc2 := 180) at_179 rfl rfl ?_
  refine own_goto (pc' := 184) at_180 (by decide) (by decide) ?_
  refine own_istore (pc2 := 186) at_184 rfl (L' := #[.val (.int xc), .val (.int xn), .val (.int xp), .val (.int y0), .val (.int y1), .val (.int y2), .val (.ref x), .val (.int (1 : Int32)), .val (.int (1 : Int32)), .val (.int (1 : Int32))]) rfl ?_
  refine own_iload (pc2 := 188) at_186 rfl rfl ?_
  exact own_refl
set_option maxRecDepth 65536 in
set_option maxHeartbeats 40000000 in
theorem own_law13 (l : Launch) (Z : State) (a0 : Array Value) (hb0 : Heap) (hw : ∀ d ∈ tables_1, d.before a0 Z = true) (xc : Int32) (xn : Int32) (xp : Int32) (y0 : Int32) (y1 : Int32) (y2 : Int32) (hkk : (xn &&& (3 : Int32)) = (1 : Int32)) (hpp : (xp &&& (3 : Int32)) = (3 : Int32)) :
    own_Met l Z a0 hb0 x code maxLocals ret tables_1 room_1 #[(.int xc), (.int xn), (.int xp), (.int y0), (.int y1), (.int y2)] [] (fun v _ => v = some (.int 1)) := by
  refine own_met_of (L0 := #[.val (.int xc), .val (.int xn), .val (.int xp), .val (.int y0), .val (.int y1), .val (.int y2), .unset, .unset, .unset, .unset]) (plainFor_of_name own_pn0) (fun m => own_ef0 m xc xn xp y0 y1 y2) ?_
  intro p e s m below meth c T0 hx hZ hown hby hml hnm H0
  have hown : s.vm.findClass "com/example/recourse/recourse/network/NodeHeapIsEmptyPinLaw" = some m.cls := hown
  have hml : c.maxLocals = 10 := hml
  obtain ⟨Ts13_1, x, Hs13_1, sts13_1⟩ := own_newO H0 hx hZ hown (hw _ (List.mem_of_getElem? (i := 0) rfl)) (hw _ (List.mem_of_getElem? (i := 1) rfl)) (hw _ (List.mem_of_getElem? (i := 2) rfl)) [("com/example/recourse/recourse/network/NodeHeap", "nodes", "[I", .null), ("com/example/recourse/recourse/network/NodeHeap", "distances", "[D", .null), ("com/example/recourse/recourse/network/NodeHeap", "remainders", "[D", .null), ("com/example/recourse/recourse/network/NodeHeap", "size", "I", .int 0)] (by
      intro f hf
      simp only [List.mem_cons, List.not_mem_nil, or_false] at hf
      rcases hf with rfl | rfl | rfl | rfl
      · exact ⟨Or.inl (hw _ (List.mem_of_getElem? (i := 15) rfl)), (.array .int), by decide, rfl⟩
      · exact ⟨Or.inl (hw _ (List.mem_of_getElem? (i := 18) rfl)), (.array .double), by decide, rfl⟩
      · exact ⟨Or.inl (hw _ (List.mem_of_getElem? (i := 20) rfl)), (.array .double), by decide, rfl⟩
      · exact ⟨Or.inl (hw _ (List.mem_of_getElem? (i := 27) rfl)), .int, by decide, rfl⟩) (by decide) (g := (mkF m 0 #[.val (.int xc), .val (.int xn), .val (.int xp), .val (.int y0), .val (.int y1), .val (.int y2), .unset, .unset, .unset, .unset] [])) rfl (hb hby at_0) (by decide) (by decide)
  change own_S _ _ _ _ _ _ _ _ _ _ _ _ _ _ [(x, own_O "com/example/recourse/recourse/network/NodeHeap" [("com/example/recourse/recourse/network/NodeHeap", "nodes", "[I", .null), ("com/example/recourse/recourse/network/NodeHeap", "distances", "[D", .null), ("com/example/recourse/recourse/network/NodeHeap", "remainders", "[D", .null), ("com/example/recourse/recourse/network/NodeHeap", "size", "I", .int 0)])] _ _ at Hs13_1
  obtain ⟨v7, hv7⟩ : ∃ z : Int32, (xc &&& (63 : Int32)) = z := ⟨_, rfl⟩
  obtain ⟨v10, hv10⟩ : ∃ z : Int32, (v7 - (16 : Int32)) = z := ⟨_, rfl⟩
  have hk : v10.toInt ≤ 47 := by
    have h1 := c_mask xc 63 6 (by decide) (by decide)
    have h2 := c_isub v7 16
    have := rng32 v10
    rw [hv7] at h1
    rw [hv10, show (16 : Int32).toInt = 16 from rfl] at h2
    omega
  obtain ⟨Ts13_2, vs13_2_, css13_2_, qs13_2, Hs13_2, sts13_2⟩ := own_callI Hs13_1 hx hZ hown rfl (hw _ (List.mem_of_getElem? (i := 3) rfl)) (hw _ (List.mem_of_getElem? (i := 4) rfl)) (hw _ (List.mem_of_getElem? (i := 2) rfl)) (hw _ (List.mem_of_getElem? (i := 5) rfl)) (by decide) (x := x) (argsL := [(.int v10)]) (rest := [(.ref x)]) (W := 1) (own_init l Z a0 hb0 hw x v10 hk) (by decide) (by decide) (by decide) (by decide) (g := (mkF m 11 #[.val (.int xc), .val (.int xn), .val (.int xp), .val (.int y0), .val (.int y1), .val (.int y2), .unset, .unset, .unset, .unset] [(.int v10), (.ref x), (.ref x)])) rfl (by rw [hml]; rfl) (lenOf own_pd4 rfl) rfl (by show 2 * 0 + _ ≤ _; exact Nat.le_of_eq rfl) (hb hby at_11)
  obtain ⟨an, ad, ar, mm, z, hl, hzz, rfl, rfl⟩ := qs13_2
  change own_S _ _ _ _ _ _ _ _ _ _ _ _ _ _ [(x, own_O "com/example/recourse/recourse/network/NodeHeap" [("com/example/recourse/recourse/network/NodeHeap", "nodes", "[I", .ref an), ("com/example/recourse/recourse/network/NodeHeap", "distances", "[D", .ref ad), ("com/example/recourse/recourse/network/NodeHeap", "remainders", "[D", .ref ar), ("com/example/recourse/recourse/network/NodeHeap", "size", "I", .int 0)]), (an, own_A .int ((.int 0) :: (.int 0) :: (.int 0) :: List.replicate mm (.int 0))), (ad, own_A .double ((.double 0) :: (.double 0) :: (.double 0) :: List.replicate mm (.double 0))), (ar, own_A .double ((.double 0) :: (.double 0) :: (.double 0) :: List.replicate mm (.double 0)))] _ _ at Hs13_2
  obtain ⟨Ts13_3, vs13_3_, css13_3_, qs13_3, Hs13_3, sts13_3⟩ := own_callV Hs13_2 hx hZ hown (hw _ (List.mem_of_getElem? (i := 21) rfl)) (hw _ (List.mem_of_getElem? (i := 22) rfl)) (hw _ (List.mem_of_getElem? (i := 24) rfl)) (hw _ (List.mem_of_getElem? (i := 23) rfl)) (hw _ (List.mem_of_getElem? (i := 2) rfl)) (hw _ (List.mem_of_getElem? (i := 25) rfl)) (by decide) (x := x) 0 rfl (argsL := []) (rest := []) (W := 0) (own_emp0 l Z a0 hb0 hw x an ad ar mm 0 0 0 0 0 0 0 0 0) (by decide) (by decide) (by decide) (by decide) (g := (mkF m 18 #[.val (.int xc), .val (.int xn), .val (.int xp), .val (.int y0), .val (.int y1), .val (.int y2), .val (.ref x), .unset, .unset, .unset] [(.ref x)])) rfl (by rw [hml]; rfl) (lenOf own_pd2 rfl) rfl (by show 2 * 0 + _ ≤ _; exact Nat.le_of_eq rfl) (hb hby at_18)
  obtain ⟨rfl, rfl⟩ := qs13_3
  change own_S _ _ _ _ _ _ _ _ _ _ _ _ _ _ [(x, own_O "com/example/recourse/recourse/network/NodeHeap" [("com/example/recourse/recourse/network/NodeHeap", "nodes", "[I", .ref an), ("com/example/recourse/recourse/network/NodeHeap", "distances", "[D", .ref ad), ("com/example/recourse/recourse/network/NodeHeap", "remainders", "[D", .ref ar), ("com/example/recourse/recourse/network/NodeHeap", "size", "I", .int 0)]), (an, own_A .int ((.int 0) :: (.int 0) :: (.int 0) :: List.replicate mm (.int 0))), (ad, own_A .double ((.double 0) :: (.double 0) :: (.double 0) :: List.replicate mm (.double 0))), (ar, own_A .double ((.double 0) :: (.double 0) :: (.double 0) :: List.replicate mm (.double 0)))] _ _ at Hs13_3
  obtain ⟨v53, hv53⟩ : ∃ z : UInt64, (FP.i2d y0) = z := ⟨_, rfl⟩
  obtain ⟨Ts13_4, vs13_4_, css13_4_, qs13_4, Hs13_4, sts13_4⟩ := own_callV Hs13_3 hx hZ hown (hw _ (List.mem_of_getElem? (i := 28) rfl)) (hw _ (List.mem_of_getElem? (i := 29) rfl)) (hw _ (List.mem_of_getElem? (i := 31) rfl)) (hw _ (List.mem_of_getElem? (i := 30) rfl)) (hw _ (List.mem_of_getElem? (i := 2) rfl)) (hw _ (List.mem_of_getElem? (i := 32) rfl)) (by decide) (x := x) 0 rfl (argsL := [(.int y0), (.double v53)]) (rest := []) (W := 0) (own_adi0 l Z a0 hb0 hw x _ _ an ad ar mm 0 0 0 0 0 0 0 0 0 z hl hzz) (by decide) (by decide) (by decide) (by decide) (g := (mkF m 54 #[.val (.int xc), .val (.int xn), .val (.int xp), .val (.int y0), .val (.int y1), .val (.int y2), .val (.ref x), .val (.int (1 : Int32)), .val (.int (1 : Int32)), .val (.int (1 : Int32))] [(.double v53), (.int y0), (.ref x)])) rfl (by rw [hml]; rfl) (lenOf own_pd5 rfl) rfl (by show 2 * 0 + _ ≤ _; exact Nat.le_of_eq rfl) (hb hby at_54)
  obtain ⟨g1_0, g1_1, g1_2, g1_3, g1_4, g1_5, g1_6, g1_7, g1_8, rfl, rfl⟩ := qs13_4
  change own_S _ _ _ _ _ _ _ _ _ _ _ _ _ _ [(x, own_O "com/example/recourse/recourse/network/NodeHeap" [("com/example/recourse/recourse/network/NodeHeap", "nodes", "[I", .ref an), ("com/example/recourse/recourse/network/NodeHeap", "distances", "[D", .ref ad), ("com/example/recourse/recourse/network/NodeHeap", "remainders", "[D", .ref ar), ("com/example/recourse/recourse/network/NodeHeap", "size", "I", .int 1)]), (an, own_A .int ((.int g1_0) :: (.int g1_1) :: (.int g1_2) :: List.replicate mm (.int 0))), (ad, own_A .double ((.double g1_3) :: (.double g1_4) :: (.double g1_5) :: List.replicate mm (.double 0))), (ar, own_A .double ((.double g1_6) :: (.double g1_7) :: (.double g1_8) :: List.replicate mm (.double 0)))] _ _ at Hs13_4
  obtain ⟨Ts13_5, vs13_5_, css13_5_, qs13_5, Hs13_5, sts13_5⟩ := own_callV Hs13_4 hx hZ hown (hw _ (List.mem_of_getElem? (i := 21) rfl)) (hw _ (List.mem_of_getElem? (i := 22) rfl)) (hw _ (List.mem_of_getElem? (i := 24) rfl)) (hw _ (List.mem_of_getElem? (i := 23) rfl)) (hw _ (List.mem_of_getElem? (i := 2) rfl)) (hw _ (List.mem_of_getElem? (i := 25) rfl)) (by decide) (x := x) 0 rfl (argsL := []) (rest := []) (W := 0) (own_emp1 l Z a0 hb0 hw x an ad ar mm g1_0 g1_1 g1_2 g1_3 g1_4 g1_5 g1_6 g1_7 g1_8) (by decide) (by decide) (by decide) (by decide) (g := (mkF m 96 #[.val (.int xc), .val (.int xn), .val (.int xp), .val (.int y0), .val (.int y1), .val (.int y2), .val (.ref x), .val (.int (1 : Int32)), .val (.int (1 : Int32)), .val (.int (1 : Int32))] [(.ref x)])) rfl (by rw [hml]; rfl) (lenOf own_pd2 rfl) rfl (by show 2 * 0 + _ ≤ _; exact Nat.le_of_eq rfl) (hb hby at_96)
  obtain ⟨rfl, rfl⟩ := qs13_5
  change own_S _ _ _ _ _ _ _ _ _ _ _ _ _ _ [(x, own_O "com/example/recourse/recourse/network/NodeHeap" [("com/example/recourse/recourse/network/NodeHeap", "nodes", "[I", .ref an), ("com/example/recourse/recourse/network/NodeHeap", "distances", "[D", .ref ad), ("com/example/recourse/recourse/network/NodeHeap", "remainders", "[D", .ref ar), ("com/example/recourse/recourse/network/NodeHeap", "size", "I", .int 1)]), (an, own_A .int ((.int g1_0) :: (.int g1_1) :: (.int g1_2) :: List.replicate mm (.int 0))), (ad, own_A .double ((.double g1_3) :: (.double g1_4) :: (.double g1_5) :: List.replicate mm (.double 0))), (ar, own_A .double ((.double g1_6) :: (.double g1_7) :: (.double g1_8) :: List.replicate mm (.double 0)))] _ _ at Hs13_5
  obtain ⟨Ts13_6, vs13_6_, css13_6_, qs13_6, Hs13_6, sts13_6⟩ := own_callV Hs13_5 hx hZ hown (hw _ (List.mem_of_getElem? (i := 46) rfl)) (hw _ (List.mem_of_getElem? (i := 47) rfl)) (hw _ (List.mem_of_getElem? (i := 49) rfl)) (hw _ (List.mem_of_getElem? (i := 48) rfl)) (hw _ (List.mem_of_getElem? (i := 2) rfl)) (hw _ (List.mem_of_getElem? (i := 50) rfl)) (by decide) (x := x) 0 rfl (argsL := []) (rest := []) (W := 0) (own_poll1 l Z a0 hb0 hw x an ad ar mm g1_0 g1_1 g1_2 g1_3 g1_4 g1_5 g1_6 g1_7 g1_8) (by decide) (by decide) (by decide) (by decide) (g := (mkF m 126 #[.val (.int xc), .val (.int xn), .val (.int xp), .val (.int y0), .val (.int y1), .val (.int y2), .val (.ref x), .val (.int (1 : Int32)), .val (.int (1 : Int32)), .val (.int (1 : Int32))] [(.ref x)])) rfl (by rw [hml]; rfl) (lenOf own_pd0 rfl) rfl (by show 2 * 0 + _ ≤ _; exact Nat.le_of_eq rfl) (hb hby at_126)
  obtain ⟨g2_0, g2_1, g2_2, g2_3, g2_4, g2_5, g2_6, g2_7, g2_8, rv2, rfl, rfl⟩ := qs13_6
  change own_S _ _ _ _ _ _ _ _ _ _ _ _ _ _ [(x, own_O "com/example/recourse/recourse/network/NodeHeap" [("com/example/recourse/recourse/network/NodeHeap", "nodes", "[I", .ref an), ("com/example/recourse/recourse/network/NodeHeap", "distances", "[D", .ref ad), ("com/example/recourse/recourse/network/NodeHeap", "remainders", "[D", .ref ar), ("com/example/recourse/recourse/network/NodeHeap", "size", "I", .int 0)]), (an, own_A .int ((.int g2_0) :: (.int g2_1) :: (.int g2_2) :: List.replicate mm (.int 0))), (ad, own_A .double ((.double g2_3) :: (.double g2_4) :: (.double g2_5) :: List.replicate mm (.double 0))), (ar, own_A .double ((.double g2_6) :: (.double g2_7) :: (.double g2_8) :: List.replicate mm (.double 0)))] _ _ at Hs13_6
  obtain ⟨Ts13_7, vs13_7_, css13_7_, qs13_7, Hs13_7, sts13_7⟩ := own_callV Hs13_6 hx hZ hown (hw _ (List.mem_of_getElem? (i := 21) rfl)) (hw _ (List.mem_of_getElem? (i := 22) rfl)) (hw _ (List.mem_of_getElem? (i := 24) rfl)) (hw _ (List.mem_of_getElem? (i := 23) rfl)) (hw _ (List.mem_of_getElem? (i := 2) rfl)) (hw _ (List.mem_of_getElem? (i := 25) rfl)) (by decide) (x := x) 0 rfl (argsL := []) (rest := []) (W := 0) (own_emp0 l Z a0 hb0 hw x an ad ar mm g2_0 g2_1 g2_2 g2_3 g2_4 g2_5 g2_6 g2_7 g2_8) (by decide) (by decide) (by decide) (by decide) (g := (mkF m 161 #[.val (.int xc), .val (.int xn), .val (.int xp), .val (.int y0), .val (.int y1), .val (.int y2), .val (.ref x), .val (.int (1 : Int32)), .val (.int (1 : Int32)), .val (.int (1 : Int32))] [(.ref x)])) rfl (by rw [hml]; rfl) (lenOf own_pd2 rfl) rfl (by show 2 * 0 + _ ≤ _; exact Nat.le_of_eq rfl) (hb hby at_161)
  obtain ⟨rfl, rfl⟩ := qs13_7
  change own_S _ _ _ _ _ _ _ _ _ _ _ _ _ _ [(x, own_O "com/example/recourse/recourse/network/NodeHeap" [("com/example/recourse/recourse/network/NodeHeap", "nodes", "[I", .ref an), ("com/example/recourse/recourse/network/NodeHeap", "distances", "[D", .ref ad), ("com/example/recourse/recourse/network/NodeHeap", "remainders", "[D", .ref ar), ("com/example/recourse/recourse/network/NodeHeap", "size", "I", .int 0)]), (an, own_A .int ((.int g2_0) :: (.int g2_1) :: (.int g2_2) :: List.replicate mm (.int 0))), (ad, own_A .double ((.double g2_3) :: (.double g2_4) :: (.double g2_5) :: List.replicate mm (.double 0))), (ar, own_A .double ((.double g2_6) :: (.double g2_7) :: (.double g2_8) :: List.replicate mm (.double 0)))] _ _ at Hs13_7
  refine ⟨_, _, _, _, 188, #[.val (.int xc), .val (.int xn), .val (.int xp), .val (.int y0), .val (.int y1), .val (.int y2), .val (.ref x), .val (.int (1 : Int32)), .val (.int (1 : Int32)), .val (.int (1 : Int32))], Hs13_7, by decide, by decide, Or.inr ⟨.boolean, (.int (1 : Int32)), [], .ireturn, rfl, rfl, at_188, own_retZ (Or.inr rfl), fun target q => ?_⟩⟩
  refine sts13_1 _ ?_
  refine own_go Hs13_1 hx hZ hown hby hw own_K0_ok (own_s13_0 xc xn xp y0 y1 y2 x v7 hv7 v10 hv10) _ ?_
  refine sts13_2 _ ?_
  refine own_go Hs13_2 hx hZ hown hby hw own_K0_ok (own_s13_1 xc xn xp y0 y1 y2 x) _ ?_
  refine sts13_3 _ ?_
  refine own_go Hs13_3 hx hZ hown hby hw own_K0_ok (own_s13_2 xc xn xp y0 y1 y2 x hkk hpp v53 hv53) _ ?_
  refine sts13_4 _ ?_
  refine own_go Hs13_4 hx hZ hown hby hw own_K0_ok (own_s13_3 xc xn xp y0 y1 y2 x) _ ?_
  refine sts13_5 _ ?_
  refine own_go Hs13_5 hx hZ hown hby hw own_K0_ok (own_s13_4 xc xn xp y0 y1 y2 x) _ ?_
  refine sts13_6 _ ?_
  refine own_go Hs13_6 hx hZ hown hby hw own_K0_ok (own_s13_5 xc xn xp y0 y1 y2 x rv2) _ ?_
  refine sts13_7 _ ?_
  refine own_go Hs13_7 hx hZ hown hby hw own_K0_ok (own_s13_6 xc xn xp y0 y1 y2 x) _ ?_
  exact q
theorem own_s20_0 (xc : Int32) (xn : Int32) (xp : Int32) (y0 : Int32) (y1 : Int32) (y2 : Int32) (x : Addr) (v7 : Int32) (hv7 : (xc &&& (63 : Int32)) = v7) (v10 : Int32) (hv10 : (v7 - (16 : Int32)) = v10) :
    own_Go own_K0 code 3 #[.val (.int xc), .val (.int xn), .val (.int xp), .val (.int y0), .val (.int y1), .val (.int y2), .unset, .unset, .unset, .unset] [(.ref x)] 11 #[.val (.int xc), .val (.int xn), .val (.int xp), .val (.int y0), .val (.int y1), .val (.int y2), .unset, .unset, .unset, .unset] [(.int v10), (.ref x), (.ref x)] := by
  refine own_dup (pc2 := 4) at_3 rfl rfl ?_
  refine own_iloadN (pc2 := 5) at_4 rfl rfl ?_
  refine own_bipush (v := 63) (pc2 := 7) at_5 rfl rfl ?_
  refine own_iand (pc2 := 8) at_7 rfl (v := v7) hv7 ?_
  refine own_bipush (v := 16) (pc2 := 10) at_8 rfl rfl ?_
  refine own_isub (pc2 := 11) at_10 rfl (v := v10) hv10 ?_
  exact own_refl
theorem own_s20_1 (xc : Int32) (xn : Int32) (xp : Int32) (y0 : Int32) (y1 : Int32) (y2 : Int32) (x : Addr) :
    own_Go own_K0 code 14 #[.val (.int xc), .val (.int xn), .val (.int xp), .val (.int y0), .val (.int y1), .val (.int y2), .unset, .unset, .unset, .unset] [(.ref x)] 18 #[.val (.int xc), .val (.int xn), .val (.int xp), .val (.int y0), .val (.int y1), .val (.int y2), .val (.ref x), .unset, .unset, .unset] [(.ref x)] := by
  refine own_astore (pc2 := 16) at_14 rfl rfl (L' := #[.val (.int xc), .val (.int xn), .val (.int xp), .val (.int y0), .val (.int y1), .val (.int y2), .val (.ref x), .unset, .unset, .unset]) rfl ?_
  refine own_aload (pc2 := 18) at_16 rfl rfl rfl ?_
  exact own_refl
theorem own_s20_2 (xc : Int32) (xn : Int32) (xp : Int32) (y0 : Int32) (y1 : Int32) (y2 : Int32) (x : Addr) (hkk : (xn &&& (3 : Int32)) = (2 : Int32)) (hpp : (xp &&& (3 : Int32)) = (0 : Int32)) (v53 : UInt64) (hv53 : (FP.i2d y0) = v53) :
    own_Go own_K0 code 21 #[.val (.int xc), .val (.int xn), .val (.int xp), .val (.int y0), .val (.int y1), .val (.int y2), .val (.ref x), .unset, .unset, .unset] [(.int (1 : Int32))] 54 #[.val (.int xc), .val (.int xn), .val (.int xp), .val (.int y0), .val (.int y1), .val (.int y2), .val (.ref x), .val (.int (1 : Int32)), .val (.int (2 : Int32)), .val (.int (0 : Int32))] [(.double v53), (.int y0), (.ref x)] := by
  refine own_istore (pc2 := 23) at_21 rfl (L' := #[.val (.int xc), .val (.int xn), .val (.int xp), .val (.int y0), .val (.int y1), .val (.int y2), .val (.ref x), .val (.int (1 : Int32)), .unset, .unset]) rfl ?_
  refine own_iloadN (pc2 := 24) at_23 rfl rfl ?_
  refine own_iconst (v := 3) (pc2 := 25) at_24 rfl rfl ?_
  refine own_iand (pc2 := 26) at_25 rfl (v := (2 : Int32)) hkk ?_
  refine own_istore (pc2 := 28) at_26 rfl (L' := #[.val (.int xc), .val (.int xn), .val (.int xp), .val (.int y0), .val (.int y1), .val (.int y2), .val (.ref x), .val (.int (1 : Int32)), .val (.int (2 : Int32)), .unset]) rfl ?_
  refine own_iloadN (pc2 := 29) at_28 rfl rfl ?_
  refine own_iconst (v := 3) (pc2 := 30) at_29 rfl rfl ?_
  refine own_iand (pc2 := 31) at_30 rfl (v := (0 : Int32)) hpp ?_
  refine own_istore (pc2 := 33) at_31 rfl (L' := #[.val (.int xc), .val (.int xn), .val (.int xp), .val (.int y0), .val (.int y1), .val (.int y2), .val (.ref x), .val (.int (1 : Int32)), .val (.int (2 : Int32)), .val (.int (0 : Int32))]) rfl ?_
  refine own_iload (pc2 := 35) at_33 rfl rfl ?_
  refine own_iload (pc2 := 37) at_35 rfl rfl ?_
  refine own_icmpYes (pc' := 44) at_37 (by decide) (by decide) (by decide) ?_
  refine own_iload (pc2 := 46) at_44 rfl rfl ?_
  refine own_ifNo (pc2 := 49) at_46 rfl (by decide) ?_
  refine own_aload (pc2 := 51) at_49 rfl rfl rfl ?_
  refine own_iloadN (pc2 := 52) at_51 rfl rfl ?_
  refine own_iloadN (pc2 := 53) at_52 rfl rfl ?_
  refine own_i2d (pc2 := 54) at_53 rfl (v := v53) hv53 ?_
  exact own_refl
theorem own_s20_3 (xc : Int32) (xn : Int32) (xp : Int32) (y0 : Int32) (y1 : Int32) (y2 : Int32) (x : Addr) (v69 : UInt64) (hv69 : (FP.i2d y1) = v69) :
    own_Go own_K0 code 57 #[.val (.int xc), .val (.int xn), .val (.int xp), .val (.int y0), .val (.int y1), .val (.int y2), .val (.ref x), .val (.int (1 : Int32)), .val (.int (2 : Int32)), .val (.int (0 : Int32))] [] 70 #[.val (.int xc), .val (.int xn), .val (.int xp), .val (.int y0), .val (.int y1), .val (.int y2), .val (.ref x), .val (.int (1 : Int32)), .val (.int (2 : Int32)), .val (.int (0 : Int32))] [(.double v69), (.int y1), (.ref x)] := by
  refine own_iload (pc2 := 59) at_57 rfl rfl ?_
  refine own_iconst (v := 1) (pc2 := 60) at_59 rfl rfl ?_
  refine own_icmpNo (pc2 := 63) at_60 rfl (by decide) ?_
  refine own_aload (pc2 := 65) at_63 rfl rfl rfl ?_
  refine own_iload (pc2 := 67) at_65 rfl rfl ?_
  refine own_iload (pc2 := 69) at_67 rfl rfl ?_
  refine own_i2d (pc2 := 70) at_69 rfl (v := v69) hv69 ?_
  exact own_refl
theorem own_s20_4 (xc : Int32) (xn : Int32) (xp : Int32) (y0 : Int32) (y1 : Int32) (y2 : Int32) (x : Addr) :
    own_Go own_K0 code 73 #[.val (.int xc), .val (.int xn), .val (.int xp), .val (.int y0), .val (.int y1), .val (.int y2), .val (.ref x), .val (.int (1 : Int32)), .val (.int (2 : Int32)), .val (.int (0 : Int32))] [] 96 #[.val (.int xc), .val (.int xn), .val (.int xp), .val (.int y0), .val (.int y1), .val (.int y2), .val (.ref x), .val (.int (1 : Int32)), .val (.int (2 : Int32)), .val (.int (0 : Int32))] [(.ref x)] := by
  refine own_iload (pc2 := 75) at_73 rfl rfl ?_
  refine own_iconst (v := 2) (pc2 := 76) at_75 rfl rfl ?_
  refine own_icmpYes (pc' := 89) at_76 (by decide) (by decide) (by decide) ?_
  refine own_iload (pc2 := 91) at_89 rfl rfl ?_
  refine own_ifNo (pc2 := 94) at_91 rfl (by decide) ?_
  refine own_aload (pc2 := 96) at_94 rfl rfl rfl ?_
  exact own_refl
theorem own_s20_5 (xc : Int32) (xn : Int32) (xp : Int32) (y0 : Int32) (y1 : Int32) (y2 : Int32) (x : Addr) :
    own_Go own_K0 code 99 #[.val (.int xc), .val (.int xn), .val (.int xp), .val (.int y0), .val (.int y1), .val (.int y2), .val (.ref x), .val (.int (1 : Int32)), .val (.int (2 : Int32)), .val (.int (0 : Int32))] [(.int (0 : Int32))] 161 #[.val (.int xc), .val (.int xn), .val (.int xp), .val (.int y0), .val (.int y1), .val (.int y2), .val (.ref x), .val (.int (1 : Int32)), .val (.int (2 : Int32)), .val (.int (0 : Int32))] [(.ref x)] := by
  refine own_iload (pc2 := 101) at_99 rfl rfl ?_
  refine own_ifYes (pc' := 108) at_101 (by decide) (by decide) (by decide) ?_
  refine own_iconst (v := 0) (pc2 := 109) at_108 rfl rfl ?_
  refine own_icmpNo (pc2 := 112) at_109 rfl (by decide) ?_
  refine own_iconst (v := 1) (pc2 := 113) at_112 rfl rfl ?_
  refine own_goto (pc' := 117) at_113 (by decide) (by decide) ?_
  refine own_istore (pc2 := 119) at_117 rfl (L' := #[.val (.int xc), .val (.int xn), .val (.int xp), .val (.int y0), .val (.int y1), .val (.int y2), .val (.ref x), .val (.int (1 : Int32)), .val (.int (2 : Int32)), .val (.int (0 : Int32))]) rfl ?_
  refine own_iload (pc2 := 121) at_119 rfl rfl ?_
  refine own_ifYes (pc' := 130) at_121 (by decide) (by decide) (by decide) ?_
  refine own_iload (pc2 := 132) at_130 rfl rfl ?_
  refine own_iconst (v := 1) (pc2 := 133) at_132 rfl rfl ?_
  refine own_icmpYes (pc' := 142) at_133 (by decide) (by decide) (by decide) ?_
  refine own_iload (pc2 := 144) at_142 rfl rfl ?_
  refine own_iconst (v := 2) (pc2 := 145) at_144 rfl rfl ?_
  refine own_icmpYes (pc' := 154) at_145 (by decide) (by decide) (by decide) ?_
  refine own_iload (pc2 := 156) at_154 rfl rfl ?_
  refine own_ifNo (pc2 := 159) at_156 rfl (by decide) ?_
  refine own_aload (pc2 := 161) at_159 rfl rfl rfl ?_
  exact own_refl
theorem own_s20_6 (xc : Int32) (xn : Int32) (xp : Int32) (y0 : Int32) (y1 : Int32) (y2 : Int32) (x : Addr) :
    own_Go own_K0 code 164 #[.val (.int xc), .val (.int xn), .val (.int xp), .val (.int y0), .val (.int y1), .val (.int y2), .val (.ref x), .val (.int (1 : Int32)), .val (.int (2 : Int32)), .val (.int (0 : Int32))] [(.int (0 : Int32))] 188 #[.val (.int xc), .val (.int xn), .val (.int xp), .val (.int y0), .val (.int y1), .val (.int y2), .val (.ref x), .val (.int (1 : Int32)), .val (.int (2 : Int32)), .val (.int (0 : Int32))] [(.int (1 : Int32))] := by
  refine own_iload (pc2 := 166) at_164 rfl rfl ?_
  refine own_iload (pc2 := 168) at_166 rfl rfl ?_
  refine own_icmpYes (pc' := 175) at_168 (by decide) (by decide) (by decide) ?_
  refine own_iconst (v := 0) (pc2 := 176) at_175 rfl rfl ?_
  refine own_icmpNo (pc2 := 179) at_176 rfl (by decide) ?_
  refine own_iconst (v := 1) (pc2 := 180) at_179 rfl rfl ?_
  refine own_goto (pc' := 184) at_180 (by decide) (by decide) ?_
  refine own_istore (pc2 := 186) at_184 rfl (L' := #[.val (.int xc), .val (.int xn), .val (.int xp), .val (.int y0), .val (.int y1), .val (.int y2), .val (.ref x), .val (.int (1 : Int32)), .val (.int (2 : Int32)), .val (.int (0 : Int32))]) rfl ?_
  refine own_iload (pc2 := 188) at_186 rfl rfl ?_
  exact own_refl
set_option maxRecDepth 65536 in
set_option maxHeartbeats 40000000 in
theorem own_law20 (l : Launch) (Z : State) (a0 : Array Value) (hb0 : Heap) (hw : ∀ d ∈ tables_1, d.before a0 Z = true) (xc : Int32) (xn : Int32) (xp : Int32) (y0 : Int32) (y1 : Int32) (y2 : Int32) (hkk : (xn &&& (3 : Int32)) = (2 : Int32)) (hpp : (xp &&& (3 : Int32)) = (0 : Int32)) :
    own_Met l Z a0 hb0 x code maxLocals ret tables_1 room_1 #[(.int xc), (.int xn), (.int xp), (.int y0), (.int y1), (.int y2)] [] (fun v _ => v = some (.int 1)) := by
  refine own_met_of (L0 := #[.val (.int xc), .val (.int xn), .val (.int xp), .val (.int y0), .val (.int y1), .val (.int y2), .unset, .unset, .unset, .unset]) (plainFor_of_name own_pn0) (fun m => own_ef0 m xc xn xp y0 y1 y2) ?_
  intro p e s m below meth c T0 hx hZ hown hby hml hnm H0
  have hown : s.vm.findClass "com/example/recourse/recourse/network/NodeHeapIsEmptyPinLaw" = some m.cls := hown
  have hml : c.maxLocals = 10 := hml
  obtain ⟨Ts20_1, x, Hs20_1, sts20_1⟩ := own_newO H0 hx hZ hown (hw _ (List.mem_of_getElem? (i := 0) rfl)) (hw _ (List.mem_of_getElem? (i := 1) rfl)) (hw _ (List.mem_of_getElem? (i := 2) rfl)) [("com/example/recourse/recourse/network/NodeHeap", "nodes", "[I", .null), ("com/example/recourse/recourse/network/NodeHeap", "distances", "[D", .null), ("com/example/recourse/recourse/network/NodeHeap", "remainders", "[D", .null), ("com/example/recourse/recourse/network/NodeHeap", "size", "I", .int 0)] (by
      intro f hf
      simp only [List.mem_cons, List.not_mem_nil, or_false] at hf
      rcases hf with rfl | rfl | rfl | rfl
      · exact ⟨Or.inl (hw _ (List.mem_of_getElem? (i := 15) rfl)), (.array .int), by decide, rfl⟩
      · exact ⟨Or.inl (hw _ (List.mem_of_getElem? (i := 18) rfl)), (.array .double), by decide, rfl⟩
      · exact ⟨Or.inl (hw _ (List.mem_of_getElem? (i := 20) rfl)), (.array .double), by decide, rfl⟩
      · exact ⟨Or.inl (hw _ (List.mem_of_getElem? (i := 27) rfl)), .int, by decide, rfl⟩) (by decide) (g := (mkF m 0 #[.val (.int xc), .val (.int xn), .val (.int xp), .val (.int y0), .val (.int y1), .val (.int y2), .unset, .unset, .unset, .unset] [])) rfl (hb hby at_0) (by decide) (by decide)
  change own_S _ _ _ _ _ _ _ _ _ _ _ _ _ _ [(x, own_O "com/example/recourse/recourse/network/NodeHeap" [("com/example/recourse/recourse/network/NodeHeap", "nodes", "[I", .null), ("com/example/recourse/recourse/network/NodeHeap", "distances", "[D", .null), ("com/example/recourse/recourse/network/NodeHeap", "remainders", "[D", .null), ("com/example/recourse/recourse/network/NodeHeap", "size", "I", .int 0)])] _ _ at Hs20_1
  obtain ⟨v7, hv7⟩ : ∃ z : Int32, (xc &&& (63 : Int32)) = z := ⟨_, rfl⟩
  obtain ⟨v10, hv10⟩ : ∃ z : Int32, (v7 - (16 : Int32)) = z := ⟨_, rfl⟩
  have hk : v10.toInt ≤ 47 := by
    have h1 := c_mask xc 63 6 (by decide) (by decide)
    have h2 := c_isub v7 16
    have := rng32 v10
    rw [hv7] at h1
    rw [hv10, show (16 : Int32).toInt = 16 from rfl] at h2
    omega
  obtain ⟨Ts20_2, vs20_2_, css20_2_, qs20_2, Hs20_2, sts20_2⟩ := own_callI Hs20_1 hx hZ hown rfl (hw _ (List.mem_of_getElem? (i := 3) rfl)) (hw _ (List.mem_of_getElem? (i := 4) rfl)) (hw _ (List.mem_of_getElem? (i := 2) rfl)) (hw _ (List.mem_of_getElem? (i := 5) rfl)) (by decide) (x := x) (argsL := [(.int v10)]) (rest := [(.ref x)]) (W := 1) (own_init l Z a0 hb0 hw x v10 hk) (by decide) (by decide) (by decide) (by decide) (g := (mkF m 11 #[.val (.int xc), .val (.int xn), .val (.int xp), .val (.int y0), .val (.int y1), .val (.int y2), .unset, .unset, .unset, .unset] [(.int v10), (.ref x), (.ref x)])) rfl (by rw [hml]; rfl) (lenOf own_pd4 rfl) rfl (by show 2 * 0 + _ ≤ _; exact Nat.le_of_eq rfl) (hb hby at_11)
  obtain ⟨an, ad, ar, mm, z, hl, hzz, rfl, rfl⟩ := qs20_2
  change own_S _ _ _ _ _ _ _ _ _ _ _ _ _ _ [(x, own_O "com/example/recourse/recourse/network/NodeHeap" [("com/example/recourse/recourse/network/NodeHeap", "nodes", "[I", .ref an), ("com/example/recourse/recourse/network/NodeHeap", "distances", "[D", .ref ad), ("com/example/recourse/recourse/network/NodeHeap", "remainders", "[D", .ref ar), ("com/example/recourse/recourse/network/NodeHeap", "size", "I", .int 0)]), (an, own_A .int ((.int 0) :: (.int 0) :: (.int 0) :: List.replicate mm (.int 0))), (ad, own_A .double ((.double 0) :: (.double 0) :: (.double 0) :: List.replicate mm (.double 0))), (ar, own_A .double ((.double 0) :: (.double 0) :: (.double 0) :: List.replicate mm (.double 0)))] _ _ at Hs20_2
  obtain ⟨Ts20_3, vs20_3_, css20_3_, qs20_3, Hs20_3, sts20_3⟩ := own_callV Hs20_2 hx hZ hown (hw _ (List.mem_of_getElem? (i := 21) rfl)) (hw _ (List.mem_of_getElem? (i := 22) rfl)) (hw _ (List.mem_of_getElem? (i := 24) rfl)) (hw _ (List.mem_of_getElem? (i := 23) rfl)) (hw _ (List.mem_of_getElem? (i := 2) rfl)) (hw _ (List.mem_of_getElem? (i := 25) rfl)) (by decide) (x := x) 0 rfl (argsL := []) (rest := []) (W := 0) (own_emp0 l Z a0 hb0 hw x an ad ar mm 0 0 0 0 0 0 0 0 0) (by decide) (by decide) (by decide) (by decide) (g := (mkF m 18 #[.val (.int xc), .val (.int xn), .val (.int xp), .val (.int y0), .val (.int y1), .val (.int y2), .val (.ref x), .unset, .unset, .unset] [(.ref x)])) rfl (by rw [hml]; rfl) (lenOf own_pd2 rfl) rfl (by show 2 * 0 + _ ≤ _; exact Nat.le_of_eq rfl) (hb hby at_18)
  obtain ⟨rfl, rfl⟩ := qs20_3
  change own_S _ _ _ _ _ _ _ _ _ _ _ _ _ _ [(x, own_O "com/example/recourse/recourse/network/NodeHeap" [("com/example/recourse/recourse/network/NodeHeap", "nodes", "[I", .ref an), ("com/example/recourse/recourse/network/NodeHeap", "distances", "[D", .ref ad), ("com/example/recourse/recourse/network/NodeHeap", "remainders", "[D", .ref ar), ("com/example/recourse/recourse/network/NodeHeap", "size", "I", .int 0)]), (an, own_A .int ((.int 0) :: (.int 0) :: (.int 0) :: List.replicate mm (.int 0))), (ad, own_A .double ((.double 0) :: (.double 0) :: (.double 0) :: List.replicate mm (.double 0))), (ar, own_A .double ((.double 0) :: (.double 0) :: (.double 0) :: List.replicate mm (.double 0)))] _ _ at Hs20_3
  obtain ⟨v53, hv53⟩ : ∃ z : UInt64, (FP.i2d y0) = z := ⟨_, rfl⟩
  obtain ⟨Ts20_4, vs20_4_, css20_4_, qs20_4, Hs20_4, sts20_4⟩ := own_callV Hs20_3 hx hZ hown (hw _ (List.mem_of_getElem? (i := 28) rfl)) (hw _ (List.mem_of_getElem? (i := 29) rfl)) (hw _ (List.mem_of_getElem? (i := 31) rfl)) (hw _ (List.mem_of_getElem? (i := 30) rfl)) (hw _ (List.mem_of_getElem? (i := 2) rfl)) (hw _ (List.mem_of_getElem? (i := 32) rfl)) (by decide) (x := x) 0 rfl (argsL := [(.int y0), (.double v53)]) (rest := []) (W := 0) (own_adi0 l Z a0 hb0 hw x _ _ an ad ar mm 0 0 0 0 0 0 0 0 0 z hl hzz) (by decide) (by decide) (by decide) (by decide) (g := (mkF m 54 #[.val (.int xc), .val (.int xn), .val (.int xp), .val (.int y0), .val (.int y1), .val (.int y2), .val (.ref x), .val (.int (1 : Int32)), .val (.int (2 : Int32)), .val (.int (0 : Int32))] [(.double v53), (.int y0), (.ref x)])) rfl (by rw [hml]; rfl) (lenOf own_pd5 rfl) rfl (by show 2 * 0 + _ ≤ _; exact Nat.le_of_eq rfl) (hb hby at_54)
  obtain ⟨g1_0, g1_1, g1_2, g1_3, g1_4, g1_5, g1_6, g1_7, g1_8, rfl, rfl⟩ := qs20_4
  change own_S _ _ _ _ _ _ _ _ _ _ _ _ _ _ [(x, own_O "com/example/recourse/recourse/network/NodeHeap" [("com/example/recourse/recourse/network/NodeHeap", "nodes", "[I", .ref an), ("com/example/recourse/recourse/network/NodeHeap", "distances", "[D", .ref ad), ("com/example/recourse/recourse/network/NodeHeap", "remainders", "[D", .ref ar), ("com/example/recourse/recourse/network/NodeHeap", "size", "I", .int 1)]), (an, own_A .int ((.int g1_0) :: (.int g1_1) :: (.int g1_2) :: List.replicate mm (.int 0))), (ad, own_A .double ((.double g1_3) :: (.double g1_4) :: (.double g1_5) :: List.replicate mm (.double 0))), (ar, own_A .double ((.double g1_6) :: (.double g1_7) :: (.double g1_8) :: List.replicate mm (.double 0)))] _ _ at Hs20_4
  obtain ⟨v69, hv69⟩ : ∃ z : UInt64, (FP.i2d y1) = z := ⟨_, rfl⟩
  obtain ⟨Ts20_5, vs20_5_, css20_5_, qs20_5, Hs20_5, sts20_5⟩ := own_callV Hs20_4 hx hZ hown (hw _ (List.mem_of_getElem? (i := 28) rfl)) (hw _ (List.mem_of_getElem? (i := 29) rfl)) (hw _ (List.mem_of_getElem? (i := 31) rfl)) (hw _ (List.mem_of_getElem? (i := 30) rfl)) (hw _ (List.mem_of_getElem? (i := 2) rfl)) (hw _ (List.mem_of_getElem? (i := 32) rfl)) (by decide) (x := x) 0 rfl (argsL := [(.int y1), (.double v69)]) (rest := []) (W := 0) (own_adi1 l Z a0 hb0 hw x _ _ an ad ar mm g1_0 g1_1 g1_2 g1_3 g1_4 g1_5 g1_6 g1_7 g1_8 z hl hzz) (by decide) (by decide) (by decide) (by decide) (g := (mkF m 70 #[.val (.int xc), .val (.int xn), .val (.int xp), .val (.int y0), .val (.int y1), .val (.int y2), .val (.ref x), .val (.int (1 : Int32)), .val (.int (2 : Int32)), .val (.int (0 : Int32))] [(.double v69), (.int y1), (.ref x)])) rfl (by rw [hml]; rfl) (lenOf own_pd5 rfl) rfl (by show 2 * 0 + _ ≤ _; exact Nat.le_of_eq rfl) (hb hby at_70)
  obtain ⟨g2_0, g2_1, g2_2, g2_3, g2_4, g2_5, g2_6, g2_7, g2_8, rfl, rfl⟩ := qs20_5
  change own_S _ _ _ _ _ _ _ _ _ _ _ _ _ _ [(x, own_O "com/example/recourse/recourse/network/NodeHeap" [("com/example/recourse/recourse/network/NodeHeap", "nodes", "[I", .ref an), ("com/example/recourse/recourse/network/NodeHeap", "distances", "[D", .ref ad), ("com/example/recourse/recourse/network/NodeHeap", "remainders", "[D", .ref ar), ("com/example/recourse/recourse/network/NodeHeap", "size", "I", .int 2)]), (an, own_A .int ((.int g2_0) :: (.int g2_1) :: (.int g2_2) :: List.replicate mm (.int 0))), (ad, own_A .double ((.double g2_3) :: (.double g2_4) :: (.double g2_5) :: List.replicate mm (.double 0))), (ar, own_A .double ((.double g2_6) :: (.double g2_7) :: (.double g2_8) :: List.replicate mm (.double 0)))] _ _ at Hs20_5
  obtain ⟨Ts20_6, vs20_6_, css20_6_, qs20_6, Hs20_6, sts20_6⟩ := own_callV Hs20_5 hx hZ hown (hw _ (List.mem_of_getElem? (i := 21) rfl)) (hw _ (List.mem_of_getElem? (i := 22) rfl)) (hw _ (List.mem_of_getElem? (i := 24) rfl)) (hw _ (List.mem_of_getElem? (i := 23) rfl)) (hw _ (List.mem_of_getElem? (i := 2) rfl)) (hw _ (List.mem_of_getElem? (i := 25) rfl)) (by decide) (x := x) 0 rfl (argsL := []) (rest := []) (W := 0) (own_emp2 l Z a0 hb0 hw x an ad ar mm g2_0 g2_1 g2_2 g2_3 g2_4 g2_5 g2_6 g2_7 g2_8) (by decide) (by decide) (by decide) (by decide) (g := (mkF m 96 #[.val (.int xc), .val (.int xn), .val (.int xp), .val (.int y0), .val (.int y1), .val (.int y2), .val (.ref x), .val (.int (1 : Int32)), .val (.int (2 : Int32)), .val (.int (0 : Int32))] [(.ref x)])) rfl (by rw [hml]; rfl) (lenOf own_pd2 rfl) rfl (by show 2 * 0 + _ ≤ _; exact Nat.le_of_eq rfl) (hb hby at_96)
  obtain ⟨rfl, rfl⟩ := qs20_6
  change own_S _ _ _ _ _ _ _ _ _ _ _ _ _ _ [(x, own_O "com/example/recourse/recourse/network/NodeHeap" [("com/example/recourse/recourse/network/NodeHeap", "nodes", "[I", .ref an), ("com/example/recourse/recourse/network/NodeHeap", "distances", "[D", .ref ad), ("com/example/recourse/recourse/network/NodeHeap", "remainders", "[D", .ref ar), ("com/example/recourse/recourse/network/NodeHeap", "size", "I", .int 2)]), (an, own_A .int ((.int g2_0) :: (.int g2_1) :: (.int g2_2) :: List.replicate mm (.int 0))), (ad, own_A .double ((.double g2_3) :: (.double g2_4) :: (.double g2_5) :: List.replicate mm (.double 0))), (ar, own_A .double ((.double g2_6) :: (.double g2_7) :: (.double g2_8) :: List.replicate mm (.double 0)))] _ _ at Hs20_6
  obtain ⟨Ts20_7, vs20_7_, css20_7_, qs20_7, Hs20_7, sts20_7⟩ := own_callV Hs20_6 hx hZ hown (hw _ (List.mem_of_getElem? (i := 21) rfl)) (hw _ (List.mem_of_getElem? (i := 22) rfl)) (hw _ (List.mem_of_getElem? (i := 24) rfl)) (hw _ (List.mem_of_getElem? (i := 23) rfl)) (hw _ (List.mem_of_getElem? (i := 2) rfl)) (hw _ (List.mem_of_getElem? (i := 25) rfl)) (by decide) (x := x) 0 rfl (argsL := []) (rest := []) (W := 0) (own_emp2 l Z a0 hb0 hw x an ad ar mm g2_0 g2_1 g2_2 g2_3 g2_4 g2_5 g2_6 g2_7 g2_8) (by decide) (by decide) (by decide) (by decide) (g := (mkF m 161 #[.val (.int xc), .val (.int xn), .val (.int xp), .val (.int y0), .val (.int y1), .val (.int y2), .val (.ref x), .val (.int (1 : Int32)), .val (.int (2 : Int32)), .val (.int (0 : Int32))] [(.ref x)])) rfl (by rw [hml]; rfl) (lenOf own_pd2 rfl) rfl (by show 2 * 0 + _ ≤ _; exact Nat.le_of_eq rfl) (hb hby at_161)
  obtain ⟨rfl, rfl⟩ := qs20_7
  change own_S _ _ _ _ _ _ _ _ _ _ _ _ _ _ [(x, own_O "com/example/recourse/recourse/network/NodeHeap" [("com/example/recourse/recourse/network/NodeHeap", "nodes", "[I", .ref an), ("com/example/recourse/recourse/network/NodeHeap", "distances", "[D", .ref ad), ("com/example/recourse/recourse/network/NodeHeap", "remainders", "[D", .ref ar), ("com/example/recourse/recourse/network/NodeHeap", "size", "I", .int 2)]), (an, own_A .int ((.int g2_0) :: (.int g2_1) :: (.int g2_2) :: List.replicate mm (.int 0))), (ad, own_A .double ((.double g2_3) :: (.double g2_4) :: (.double g2_5) :: List.replicate mm (.double 0))), (ar, own_A .double ((.double g2_6) :: (.double g2_7) :: (.double g2_8) :: List.replicate mm (.double 0)))] _ _ at Hs20_7
  refine ⟨_, _, _, _, 188, #[.val (.int xc), .val (.int xn), .val (.int xp), .val (.int y0), .val (.int y1), .val (.int y2), .val (.ref x), .val (.int (1 : Int32)), .val (.int (2 : Int32)), .val (.int (0 : Int32))], Hs20_7, by decide, by decide, Or.inr ⟨.boolean, (.int (1 : Int32)), [], .ireturn, rfl, rfl, at_188, own_retZ (Or.inr rfl), fun target q => ?_⟩⟩
  refine sts20_1 _ ?_
  refine own_go Hs20_1 hx hZ hown hby hw own_K0_ok (own_s20_0 xc xn xp y0 y1 y2 x v7 hv7 v10 hv10) _ ?_
  refine sts20_2 _ ?_
  refine own_go Hs20_2 hx hZ hown hby hw own_K0_ok (own_s20_1 xc xn xp y0 y1 y2 x) _ ?_
  refine sts20_3 _ ?_
  refine own_go Hs20_3 hx hZ hown hby hw own_K0_ok (own_s20_2 xc xn xp y0 y1 y2 x hkk hpp v53 hv53) _ ?_
  refine sts20_4 _ ?_
  refine own_go Hs20_4 hx hZ hown hby hw own_K0_ok (own_s20_3 xc xn xp y0 y1 y2 x v69 hv69) _ ?_
  refine sts20_5 _ ?_
  refine own_go Hs20_5 hx hZ hown hby hw own_K0_ok (own_s20_4 xc xn xp y0 y1 y2 x) _ ?_
  refine sts20_6 _ ?_
  refine own_go Hs20_6 hx hZ hown hby hw own_K0_ok (own_s20_5 xc xn xp y0 y1 y2 x) _ ?_
  refine sts20_7 _ ?_
  refine own_go Hs20_7 hx hZ hown hby hw own_K0_ok (own_s20_6 xc xn xp y0 y1 y2 x) _ ?_
  exact q
theorem own_s21_0 (xc : Int32) (xn : Int32) (xp : Int32) (y0 : Int32) (y1 : Int32) (y2 : Int32) (x : Addr) (v7 : Int32) (hv7 : (xc &&& (63 : Int32)) = v7) (v10 : Int32) (hv10 : (v7 - (16 : Int32)) = v10) :
    own_Go own_K0 code 3 #[.val (.int xc), .val (.int xn), .val (.int xp), .val (.int y0), .val (.int y1), .val (.int y2), .unset, .unset, .unset, .unset] [(.ref x)] 11 #[.val (.int xc), .val (.int xn), .val (.int xp), .val (.int y0), .val (.int y1), .val (.int y2), .unset, .unset, .unset, .unset] [(.int v10), (.ref x), (.ref x)] := by
  refine own_dup (pc2 := 4) at_3 rfl rfl ?_
  refine own_iloadN (pc2 := 5) at_4 rfl rfl ?_
  refine own_bipush (v := 63) (pc2 := 7) at_5 rfl rfl ?_
  refine own_iand (pc2 := 8) at_7 rfl (v := v7) hv7 ?_
  refine own_bipush (v := 16) (pc2 := 10) at_8 rfl rfl ?_
  refine own_isub (pc2 := 11) at_10 rfl (v := v10) hv10 ?_
  exact own_refl
theorem own_s21_1 (xc : Int32) (xn : Int32) (xp : Int32) (y0 : Int32) (y1 : Int32) (y2 : Int32) (x : Addr) :
    own_Go own_K0 code 14 #[.val (.int xc), .val (.int xn), .val (.int xp), .val (.int y0), .val (.int y1), .val (.int y2), .unset, .unset, .unset, .unset] [(.ref x)] 18 #[.val (.int xc), .val (.int xn), .val (.int xp), .val (.int y0), .val (.int y1), .val (.int y2), .val (.ref x), .unset, .unset, .unset] [(.ref x)] := by
  refine own_astore (pc2 := 16) at_14 rfl rfl (L' := #[.val (.int xc), .val (.int xn), .val (.int xp), .val (.int y0), .val (.int y1), .val (.int y2), .val (.ref x), .unset, .unset, .unset]) rfl ?_
  refine own_aload (pc2 := 18) at_16 rfl rfl rfl ?_
  exact own_refl
theorem own_s21_2 (xc : Int32) (xn : Int32) (xp : Int32) (y0 : Int32) (y1 : Int32) (y2 : Int32) (x : Addr) (hkk : (xn &&& (3 : Int32)) = (2 : Int32)) (hpp : (xp &&& (3 : Int32)) = (1 : Int32)) (v53 : UInt64) (hv53 : (FP.i2d y0) = v53) :
    own_Go own_K0 code 21 #[.val (.int xc), .val (.int xn), .val (.int xp), .val (.int y0), .val (.int y1), .val (.int y2), .val (.ref x), .unset, .unset, .unset] [(.int (1 : Int32))] 54 #[.val (.int xc), .val (.int xn), .val (.int xp), .val (.int y0), .val (.int y1), .val (.int y2), .val (.ref x), .val (.int (1 : Int32)), .val (.int (2 : Int32)), .val (.int (1 : Int32))] [(.double v53), (.int y0), (.ref x)] := by
  refine own_istore (pc2 := 23) at_21 rfl (L' := #[.val (.int xc), .val (.int xn), .val (.int xp), .val (.int y0), .val (.int y1), .val (.int y2), .val (.ref x), .val (.int (1 : Int32)), .unset, .unset]) rfl ?_
  refine own_iloadN (pc2 := 24) at_23 rfl rfl ?_
  refine own_iconst (v := 3) (pc2 := 25) at_24 rfl rfl ?_
  refine own_iand (pc2 := 26) at_25 rfl (v := (2 : Int32)) hkk ?_
  refine own_istore (pc2 := 28) at_26 rfl (L' := #[.val (.int xc), .val (.int xn), .val (.int xp), .val (.int y0), .val (.int y1), .val (.int y2), .val (.ref x), .val (.int (1 : Int32)), .val (.int (2 : Int32)), .unset]) rfl ?_
  refine own_iloadN (pc2 := 29) at_28 rfl rfl ?_
  refine own_iconst (v := 3) (pc2 := 30) at_29 rfl rfl ?_
  refine own_iand (pc2 := 31) at_30 rfl (v := (1 : Int32)) hpp ?_
  refine own_istore (pc2 := 33) at_31 rfl (L' := #[.val (.int xc), .val (.int xn), .val (.int xp), .val (.int y0), .val (.int y1), .val (.int y2), .val (.ref x), .val (.int (1 : Int32)), .val (.int (2 : Int32)), .val (.int (1 : Int32))]) rfl ?_
  refine own_iload (pc2 := 35) at_33 rfl rfl ?_
  refine own_iload (pc2 := 37) at_35 rfl rfl ?_
  refine own_icmpYes (pc' := 44) at_37 (by decide) (by decide) (by decide) ?_
  refine own_iload (pc2 := 46) at_44 rfl rfl ?_
  refine own_ifNo (pc2 := 49) at_46 rfl (by decide) ?_
  refine own_aload (pc2 := 51) at_49 rfl rfl rfl ?_
  refine own_iloadN (pc2 := 52) at_51 rfl rfl ?_
  refine own_iloadN (pc2 := 53) at_52 rfl rfl ?_
  refine own_i2d (pc2 := 54) at_53 rfl (v := v53) hv53 ?_
  exact own_refl
theorem own_s21_3 (xc : Int32) (xn : Int32) (xp : Int32) (y0 : Int32) (y1 : Int32) (y2 : Int32) (x : Addr) (v69 : UInt64) (hv69 : (FP.i2d y1) = v69) :
    own_Go own_K0 code 57 #[.val (.int xc), .val (.int xn), .val (.int xp), .val (.int y0), .val (.int y1), .val (.int y2), .val (.ref x), .val (.int (1 : Int32)), .val (.int (2 : Int32)), .val (.int (1 : Int32))] [] 70 #[.val (.int xc), .val (.int xn), .val (.int xp), .val (.int y0), .val (.int y1), .val (.int y2), .val (.ref x), .val (.int (1 : Int32)), .val (.int (2 : Int32)), .val (.int (1 : Int32))] [(.double v69), (.int y1), (.ref x)] := by
  refine own_iload (pc2 := 59) at_57 rfl rfl ?_
  refine own_iconst (v := 1) (pc2 := 60) at_59 rfl rfl ?_
  refine own_icmpNo (pc2 := 63) at_60 rfl (by decide) ?_
  refine own_aload (pc2 := 65) at_63 rfl rfl rfl ?_
  refine own_iload (pc2 := 67) at_65 rfl rfl ?_
  refine own_iload (pc2 := 69) at_67 rfl rfl ?_
  refine own_i2d (pc2 := 70) at_69 rfl (v := v69) hv69 ?_
  exact own_refl
theorem own_s21_4 (xc : Int32) (xn : Int32) (xp : Int32) (y0 : Int32) (y1 : Int32) (y2 : Int32) (x : Addr) :
    own_Go own_K0 code 73 #[.val (.int xc), .val (.int xn), .val (.int xp), .val (.int y0), .val (.int y1), .val (.int y2), .val (.ref x), .val (.int (1 : Int32)), .val (.int (2 : Int32)), .val (.int (1 : Int32))] [] 96 #[.val (.int xc), .val (.int xn), .val (.int xp), .val (.int y0), .val (.int y1), .val (.int y2), .val (.ref x), .val (.int (1 : Int32)), .val (.int (2 : Int32)), .val (.int (1 : Int32))] [(.ref x)] := by
  refine own_iload (pc2 := 75) at_73 rfl rfl ?_
  refine own_iconst (v := 2) (pc2 := 76) at_75 rfl rfl ?_
  refine own_icmpYes (pc' := 89) at_76 (by decide) (by decide) (by decide) ?_
  refine own_iload (pc2 := 91) at_89 rfl rfl ?_
  refine own_ifNo (pc2 := 94) at_91 rfl (by decide) ?_
  refine own_aload (pc2 := 96) at_94 rfl rfl rfl ?_
  exact own_refl
theorem own_s21_5 (xc : Int32) (xn : Int32) (xp : Int32) (y0 : Int32) (y1 : Int32) (y2 : Int32) (x : Addr) :
    own_Go own_K0 code 99 #[.val (.int xc), .val (.int xn), .val (.int xp), .val (.int y0), .val (.int y1), .val (.int y2), .val (.ref x), .val (.int (1 : Int32)), .val (.int (2 : Int32)), .val (.int (1 : Int32))] [(.int (0 : Int32))] 126 #[.val (.int xc), .val (.int xn), .val (.int xp), .val (.int y0), .val (.int y1), .val (.int y2), .val (.ref x), .val (.int (1 : Int32)), .val (.int (2 : Int32)), .val (.int (1 : Int32))] [(.ref x)] := by
  refine own_iload (pc2 := 101) at_99 rfl rfl ?_
  refine own_ifYes (pc' := 108) at_101 (by decide) (by decide) (by decide) ?_
  refine own_iconst (v := 0) (pc2 := 109) at_108 rfl rfl ?_
  refine own_icmpNo (pc2 := 112) at_109 rfl (by decide) ?_
  refine own_iconst (v := 1) (pc2 := 113) at_112 rfl rfl ?_
  refine own_goto (pc' := 117) at_113 (by decide) (by decide) ?_
  refine own_istore (pc2 := 119) at_117 rfl (L' := #[.val (.int xc), .val (.int xn), .val (.int xp), .val (.int y0), .val (.int y1), .val (.int y2), .val (.ref x), .val (.int (1 : Int32)), .val (.int (2 : Int32)), .val (.int (1 : Int32))]) rfl ?_
  refine own_iload (pc2 := 121) at_119 rfl rfl ?_
  refine own_ifNo (pc2 := 124) at_121 rfl (by decide) ?_
  refine own_aload (pc2 := 126) at_124 rfl rfl rfl ?_
  exact own_refl
theorem own_s21_6 (xc : Int32) (xn : Int32) (xp : Int32) (y0 : Int32) (y1 : Int32) (y2 : Int32) (x : Addr) (rv3 : Int32) :
    own_Go own_K0 code 129 #[.val (.int xc), .val (.int xn), .val (.int xp), .val (.int y0), .val (.int y1), .val (.int y2), .val (.ref x), .val (.int (1 : Int32)), .val (.int (2 : Int32)), .val (.int (1 : Int32))] [(.int rv3)] 161 #[.val (.int xc), .val (.int xn), .val (.int xp), .val (.int y0), .val (.int y1), .val (.int y2), .val (.ref x), .val (.int (1 : Int32)), .val (.int (2 : Int32)), .val (.int (1 : Int32))] [(.ref x)] := by
  refine own_pop (pc2 := 130) at_129 rfl rfl ?_
  refine own_iload (pc2 := 132) at_130 rfl rfl ?_
  refine own_iconst (v := 1) (pc2 := 133) at_132 rfl rfl ?_
  refine own_icmpYes (pc' := 142) at_133 (by decide) (by decide) (by decide) ?_
  refine own_iload (pc2 := 144) at_142 rfl rfl ?_
  refine own_iconst (v := 2) (pc2 := 145) at_144 rfl rfl ?_
  refine own_icmpYes (pc' := 154) at_145 (by decide) (by decide) (by decide) ?_
  refine own_iload (pc2 := 156) at_154 rfl rfl ?_
  refine own_ifNo (pc2 := 159) at_156 rfl (by decide) ?_
  refine own_aload (pc2 := 161) at_159 rfl rfl rfl ?_
  exact own_refl
theorem own_s21_7 (xc : Int32) (xn : Int32) (xp : Int32) (y0 : Int32) (y1 : Int32) (y2 : Int32) (x : Addr) :
    own_Go own_K0 code 164 #[.val (.int xc), .val (.int xn), .val (.int xp), .val (.int y0), .val (.int y1), .val (.int y2), .val (.ref x), .val (.int (1 : Int32)), .val (.int (2 : Int32)), .val (.int (1 : Int32))] [(.int (0 : Int32))] 188 #[.val (.int xc), .val (.int xn), .val (.int xp), .val (.int y0), .val (.int y1), .val (.int y2), .val (.ref x), .val (.int (1 : Int32)), .val (.int (2 : Int32)), .val (.int (1 : Int32))] [(.int (1 : Int32))] := by
  refine own_iload (pc2 := 166) at_164 rfl rfl ?_
  refine own_iload (pc2 := 168) at_166 rfl rfl ?_
  refine own_icmpYes (pc' := 175) at_168 (by decide) (by decide) (by decide) ?_
  refine own_iconst (v := 0) (pc2 := 176) at_175 rfl rfl ?_
  refine own_icmpNo (pc2 := 179) at_176 rfl (by decide) ?_
  refine own_iconst (v := 1) (pc2 := 180) at_179 rfl rfl ?_
  refine own_goto (pc' := 184) at_180 (by decide) (by decide) ?_
  refine own_istore (pc2 := 186) at_184 rfl (L' := #[.val (.int xc), .val (.int xn), .val (.int xp), .val (.int y0), .val (.int y1), .val (.int y2), .val (.ref x), .val (.int (1 : Int32)), .val (.int (2 : Int32)), .val (.int (1 : Int32))]) rfl ?_
  refine own_iload (pc2 := 188) at_186 rfl rfl ?_
  exact own_refl
set_option maxRecDepth 65536 in
set_option maxHeartbeats 40000000 in
theorem own_law21 (l : Launch) (Z : State) (a0 : Array Value) (hb0 : Heap) (hw : ∀ d ∈ tables_1, d.before a0 Z = true) (xc : Int32) (xn : Int32) (xp : Int32) (y0 : Int32) (y1 : Int32) (y2 : Int32) (hkk : (xn &&& (3 : Int32)) = (2 : Int32)) (hpp : (xp &&& (3 : Int32)) = (1 : Int32)) :
    own_Met l Z a0 hb0 x code maxLocals ret tables_1 room_1 #[(.int xc), (.int xn), (.int xp), (.int y0), (.int y1), (.int y2)] [] (fun v _ => v = some (.int 1)) := by
  refine own_met_of (L0 := #[.val (.int xc), .val (.int xn), .val (.int xp), .val (.int y0), .val (.int y1), .val (.int y2), .unset, .unset, .unset, .unset]) (plainFor_of_name own_pn0) (fun m => own_ef0 m xc xn xp y0 y1 y2) ?_
  intro p e s m below meth c T0 hx hZ hown hby hml hnm H0
  have hown : s.vm.findClass "com/example/recourse/recourse/network/NodeHeapIsEmptyPinLaw" = some m.cls := hown
  have hml : c.maxLocals = 10 := hml
  obtain ⟨Ts21_1, x, Hs21_1, sts21_1⟩ := own_newO H0 hx hZ hown (hw _ (List.mem_of_getElem? (i := 0) rfl)) (hw _ (List.mem_of_getElem? (i := 1) rfl)) (hw _ (List.mem_of_getElem? (i := 2) rfl)) [("com/example/recourse/recourse/network/NodeHeap", "nodes", "[I", .null), ("com/example/recourse/recourse/network/NodeHeap", "distances", "[D", .null), ("com/example/recourse/recourse/network/NodeHeap", "remainders", "[D", .null), ("com/example/recourse/recourse/network/NodeHeap", "size", "I", .int 0)] (by
      intro f hf
      simp only [List.mem_cons, List.not_mem_nil, or_false] at hf
      rcases hf with rfl | rfl | rfl | rfl
      · exact ⟨Or.inl (hw _ (List.mem_of_getElem? (i := 15) rfl)), (.array .int), by decide, rfl⟩
      · exact ⟨Or.inl (hw _ (List.mem_of_getElem? (i := 18) rfl)), (.array .double), by decide, rfl⟩
      · exact ⟨Or.inl (hw _ (List.mem_of_getElem? (i := 20) rfl)), (.array .double), by decide, rfl⟩
      · exact ⟨Or.inl (hw _ (List.mem_of_getElem? (i := 27) rfl)), .int, by decide, rfl⟩) (by decide) (g := (mkF m 0 #[.val (.int xc), .val (.int xn), .val (.int xp), .val (.int y0), .val (.int y1), .val (.int y2), .unset, .unset, .unset, .unset] [])) rfl (hb hby at_0) (by decide) (by decide)
  change own_S _ _ _ _ _ _ _ _ _ _ _ _ _ _ [(x, own_O "com/example/recourse/recourse/network/NodeHeap" [("com/example/recourse/recourse/network/NodeHeap", "nodes", "[I", .null), ("com/example/recourse/recourse/network/NodeHeap", "distances", "[D", .null), ("com/example/recourse/recourse/network/NodeHeap", "remainders", "[D", .null), ("com/example/recourse/recourse/network/NodeHeap", "size", "I", .int 0)])] _ _ at Hs21_1
  obtain ⟨v7, hv7⟩ : ∃ z : Int32, (xc &&& (63 : Int32)) = z := ⟨_, rfl⟩
  obtain ⟨v10, hv10⟩ : ∃ z : Int32, (v7 - (16 : Int32)) = z := ⟨_, rfl⟩
  have hk : v10.toInt ≤ 47 := by
    have h1 := c_mask xc 63 6 (by decide) (by decide)
    have h2 := c_isub v7 16
    have := rng32 v10
    rw [hv7] at h1
    rw [hv10, show (16 : Int32).toInt = 16 from rfl] at h2
    omega
  obtain ⟨Ts21_2, vs21_2_, css21_2_, qs21_2, Hs21_2, sts21_2⟩ := own_callI Hs21_1 hx hZ hown rfl (hw _ (List.mem_of_getElem? (i := 3) rfl)) (hw _ (List.mem_of_getElem? (i := 4) rfl)) (hw _ (List.mem_of_getElem? (i := 2) rfl)) (hw _ (List.mem_of_getElem? (i := 5) rfl)) (by decide) (x := x) (argsL := [(.int v10)]) (rest := [(.ref x)]) (W := 1) (own_init l Z a0 hb0 hw x v10 hk) (by decide) (by decide) (by decide) (by decide) (g := (mkF m 11 #[.val (.int xc), .val (.int xn), .val (.int xp), .val (.int y0), .val (.int y1), .val (.int y2), .unset, .unset, .unset, .unset] [(.int v10), (.ref x), (.ref x)])) rfl (by rw [hml]; rfl) (lenOf own_pd4 rfl) rfl (by show 2 * 0 + _ ≤ _; exact Nat.le_of_eq rfl) (hb hby at_11)
  obtain ⟨an, ad, ar, mm, z, hl, hzz, rfl, rfl⟩ := qs21_2
  change own_S _ _ _ _ _ _ _ _ _ _ _ _ _ _ [(x, own_O "com/example/recourse/recourse/network/NodeHeap" [("com/example/recourse/recourse/network/NodeHeap", "nodes", "[I", .ref an), ("com/example/recourse/recourse/network/NodeHeap", "distances", "[D", .ref ad), ("com/example/recourse/recourse/network/NodeHeap", "remainders", "[D", .ref ar), ("com/example/recourse/recourse/network/NodeHeap", "size", "I", .int 0)]), (an, own_A .int ((.int 0) :: (.int 0) :: (.int 0) :: List.replicate mm (.int 0))), (ad, own_A .double ((.double 0) :: (.double 0) :: (.double 0) :: List.replicate mm (.double 0))), (ar, own_A .double ((.double 0) :: (.double 0) :: (.double 0) :: List.replicate mm (.double 0)))] _ _ at Hs21_2
  obtain ⟨Ts21_3, vs21_3_, css21_3_, qs21_3, Hs21_3, sts21_3⟩ := own_callV Hs21_2 hx hZ hown (hw _ (List.mem_of_getElem? (i := 21) rfl)) (hw _ (List.mem_of_getElem? (i := 22) rfl)) (hw _ (List.mem_of_getElem? (i := 24) rfl)) (hw _ (List.mem_of_getElem? (i := 23) rfl)) (hw _ (List.mem_of_getElem? (i := 2) rfl)) (hw _ (List.mem_of_getElem? (i := 25) rfl)) (by decide) (x := x) 0 rfl (argsL := []) (rest := []) (W := 0) (own_emp0 l Z a0 hb0 hw x an ad ar mm 0 0 0 0 0 0 0 0 0) (by decide) (by decide) (by decide) (by decide) (g := (mkF m 18 #[.val (.int xc), .val (.int xn), .val (.int xp), .val (.int y0), .val (.int y1), .val (.int y2), .val (.ref x), .unset, .unset, .unset] [(.ref x)])) rfl (by rw [hml]; rfl) (lenOf own_pd2 rfl) rfl (by show 2 * 0 + _ ≤ _; exact Nat.le_of_eq rfl) (hb hby at_18)
  obtain ⟨rfl, rfl⟩ := qs21_3
  change own_S _ _ _ _ _ _ _ _ _ _ _ _ _ _ [(x, own_O "com/example/recourse/recourse/network/NodeHeap" [("com/example/recourse/recourse/network/NodeHeap", "nodes", "[I", .ref an), ("com/example/recourse/recourse/network/NodeHeap", "distances", "[D", .ref ad), ("com/example/recourse/recourse/network/NodeHeap", "remainders", "[D", .ref ar), ("com/example/recourse/recourse/network/NodeHeap", "size", "I", .int 0)]), (an, own_A .int ((.int 0) :: (.int 0) :: (.int 0) :: List.replicate mm (.int 0))), (ad, own_A .double ((.double 0) :: (.double 0) :: (.double 0) :: List.replicate mm (.double 0))), (ar, own_A .double ((.double 0) :: (.double 0) :: (.double 0) :: List.replicate mm (.double 0)))] _ _ at Hs21_3
  obtain ⟨v53, hv53⟩ : ∃ z : UInt64, (FP.i2d y0) = z := ⟨_, rfl⟩
  obtain ⟨Ts21_4, vs21_4_, css21_4_, qs21_4, Hs21_4, sts21_4⟩ := own_callV Hs21_3 hx hZ hown (hw _ (List.mem_of_getElem? (i := 28) rfl)) (hw _ (List.mem_of_getElem? (i := 29) rfl)) (hw _ (List.mem_of_getElem? (i := 31) rfl)) (hw _ (List.mem_of_getElem? (i := 30) rfl)) (hw _ (List.mem_of_getElem? (i := 2) rfl)) (hw _ (List.mem_of_getElem? (i := 32) rfl)) (by decide) (x := x) 0 rfl (argsL := [(.int y0), (.double v53)]) (rest := []) (W := 0) (own_adi0 l Z a0 hb0 hw x _ _ an ad ar mm 0 0 0 0 0 0 0 0 0 z hl hzz) (by decide) (by decide) (by decide) (by decide) (g := (mkF m 54 #[.val (.int xc), .val (.int xn), .val (.int xp), .val (.int y0), .val (.int y1), .val (.int y2), .val (.ref x), .val (.int (1 : Int32)), .val (.int (2 : Int32)), .val (.int (1 : Int32))] [(.double v53), (.int y0), (.ref x)])) rfl (by rw [hml]; rfl) (lenOf own_pd5 rfl) rfl (by show 2 * 0 + _ ≤ _; exact Nat.le_of_eq rfl) (hb hby at_54)
  obtain ⟨g1_0, g1_1, g1_2, g1_3, g1_4, g1_5, g1_6, g1_7, g1_8, rfl, rfl⟩ := qs21_4
  change own_S _ _ _ _ _ _ _ _ _ _ _ _ _ _ [(x, own_O "com/example/recourse/recourse/network/NodeHeap" [("com/example/recourse/recourse/network/NodeHeap", "nodes", "[I", .ref an), ("com/example/recourse/recourse/network/NodeHeap", "distances", "[D", .ref ad), ("com/example/recourse/recourse/network/NodeHeap", "remainders", "[D", .ref ar), ("com/example/recourse/recourse/network/NodeHeap", "size", "I", .int 1)]), (an, own_A .int ((.int g1_0) :: (.int g1_1) :: (.int g1_2) :: List.replicate mm (.int 0))), (ad, own_A .double ((.double g1_3) :: (.double g1_4) :: (.double g1_5) :: List.replicate mm (.double 0))), (ar, own_A .double ((.double g1_6) :: (.double g1_7) :: (.double g1_8) :: List.replicate mm (.double 0)))] _ _ at Hs21_4
  obtain ⟨v69, hv69⟩ : ∃ z : UInt64, (FP.i2d y1) = z := ⟨_, rfl⟩
  obtain ⟨Ts21_5, vs21_5_, css21_5_, qs21_5, Hs21_5, sts21_5⟩ := own_callV Hs21_4 hx hZ hown (hw _ (List.mem_of_getElem? (i := 28) rfl)) (hw _ (List.mem_of_getElem? (i := 29) rfl)) (hw _ (List.mem_of_getElem? (i := 31) rfl)) (hw _ (List.mem_of_getElem? (i := 30) rfl)) (hw _ (List.mem_of_getElem? (i := 2) rfl)) (hw _ (List.mem_of_getElem? (i := 32) rfl)) (by decide) (x := x) 0 rfl (argsL := [(.int y1), (.double v69)]) (rest := []) (W := 0) (own_adi1 l Z a0 hb0 hw x _ _ an ad ar mm g1_0 g1_1 g1_2 g1_3 g1_4 g1_5 g1_6 g1_7 g1_8 z hl hzz) (by decide) (by decide) (by decide) (by decide) (g := (mkF m 70 #[.val (.int xc), .val (.int xn), .val (.int xp), .val (.int y0), .val (.int y1), .val (.int y2), .val (.ref x), .val (.int (1 : Int32)), .val (.int (2 : Int32)), .val (.int (1 : Int32))] [(.double v69), (.int y1), (.ref x)])) rfl (by rw [hml]; rfl) (lenOf own_pd5 rfl) rfl (by show 2 * 0 + _ ≤ _; exact Nat.le_of_eq rfl) (hb hby at_70)
  obtain ⟨g2_0, g2_1, g2_2, g2_3, g2_4, g2_5, g2_6, g2_7, g2_8, rfl, rfl⟩ := qs21_5
  change own_S _ _ _ _ _ _ _ _ _ _ _ _ _ _ [(x, own_O "com/example/recourse/recourse/network/NodeHeap" [("com/example/recourse/recourse/network/NodeHeap", "nodes", "[I", .ref an), ("com/example/recourse/recourse/network/NodeHeap", "distances", "[D", .ref ad), ("com/example/recourse/recourse/network/NodeHeap", "remainders", "[D", .ref ar), ("com/example/recourse/recourse/network/NodeHeap", "size", "I", .int 2)]), (an, own_A .int ((.int g2_0) :: (.int g2_1) :: (.int g2_2) :: List.replicate mm (.int 0))), (ad, own_A .double ((.double g2_3) :: (.double g2_4) :: (.double g2_5) :: List.replicate mm (.double 0))), (ar, own_A .double ((.double g2_6) :: (.double g2_7) :: (.double g2_8) :: List.replicate mm (.double 0)))] _ _ at Hs21_5
  obtain ⟨Ts21_6, vs21_6_, css21_6_, qs21_6, Hs21_6, sts21_6⟩ := own_callV Hs21_5 hx hZ hown (hw _ (List.mem_of_getElem? (i := 21) rfl)) (hw _ (List.mem_of_getElem? (i := 22) rfl)) (hw _ (List.mem_of_getElem? (i := 24) rfl)) (hw _ (List.mem_of_getElem? (i := 23) rfl)) (hw _ (List.mem_of_getElem? (i := 2) rfl)) (hw _ (List.mem_of_getElem? (i := 25) rfl)) (by decide) (x := x) 0 rfl (argsL := []) (rest := []) (W := 0) (own_emp2 l Z a0 hb0 hw x an ad ar mm g2_0 g2_1 g2_2 g2_3 g2_4 g2_5 g2_6 g2_7 g2_8) (by decide) (by decide) (by decide) (by decide) (g := (mkF m 96 #[.val (.int xc), .val (.int xn), .val (.int xp), .val (.int y0), .val (.int y1), .val (.int y2), .val (.ref x), .val (.int (1 : Int32)), .val (.int (2 : Int32)), .val (.int (1 : Int32))] [(.ref x)])) rfl (by rw [hml]; rfl) (lenOf own_pd2 rfl) rfl (by show 2 * 0 + _ ≤ _; exact Nat.le_of_eq rfl) (hb hby at_96)
  obtain ⟨rfl, rfl⟩ := qs21_6
  change own_S _ _ _ _ _ _ _ _ _ _ _ _ _ _ [(x, own_O "com/example/recourse/recourse/network/NodeHeap" [("com/example/recourse/recourse/network/NodeHeap", "nodes", "[I", .ref an), ("com/example/recourse/recourse/network/NodeHeap", "distances", "[D", .ref ad), ("com/example/recourse/recourse/network/NodeHeap", "remainders", "[D", .ref ar), ("com/example/recourse/recourse/network/NodeHeap", "size", "I", .int 2)]), (an, own_A .int ((.int g2_0) :: (.int g2_1) :: (.int g2_2) :: List.replicate mm (.int 0))), (ad, own_A .double ((.double g2_3) :: (.double g2_4) :: (.double g2_5) :: List.replicate mm (.double 0))), (ar, own_A .double ((.double g2_6) :: (.double g2_7) :: (.double g2_8) :: List.replicate mm (.double 0)))] _ _ at Hs21_6
  obtain ⟨Ts21_7, vs21_7_, css21_7_, qs21_7, Hs21_7, sts21_7⟩ := own_callV Hs21_6 hx hZ hown (hw _ (List.mem_of_getElem? (i := 46) rfl)) (hw _ (List.mem_of_getElem? (i := 47) rfl)) (hw _ (List.mem_of_getElem? (i := 49) rfl)) (hw _ (List.mem_of_getElem? (i := 48) rfl)) (hw _ (List.mem_of_getElem? (i := 2) rfl)) (hw _ (List.mem_of_getElem? (i := 50) rfl)) (by decide) (x := x) 0 rfl (argsL := []) (rest := []) (W := 0) (own_poll2 l Z a0 hb0 hw x an ad ar mm g2_0 g2_1 g2_2 g2_3 g2_4 g2_5 g2_6 g2_7 g2_8) (by decide) (by decide) (by decide) (by decide) (g := (mkF m 126 #[.val (.int xc), .val (.int xn), .val (.int xp), .val (.int y0), .val (.int y1), .val (.int y2), .val (.ref x), .val (.int (1 : Int32)), .val (.int (2 : Int32)), .val (.int (1 : Int32))] [(.ref x)])) rfl (by rw [hml]; rfl) (lenOf own_pd0 rfl) rfl (by show 2 * 0 + _ ≤ _; exact Nat.le_of_eq rfl) (hb hby at_126)
  obtain ⟨g3_0, g3_1, g3_2, g3_3, g3_4, g3_5, g3_6, g3_7, g3_8, rv3, rfl, rfl⟩ := qs21_7
  change own_S _ _ _ _ _ _ _ _ _ _ _ _ _ _ [(x, own_O "com/example/recourse/recourse/network/NodeHeap" [("com/example/recourse/recourse/network/NodeHeap", "nodes", "[I", .ref an), ("com/example/recourse/recourse/network/NodeHeap", "distances", "[D", .ref ad), ("com/example/recourse/recourse/network/NodeHeap", "remainders", "[D", .ref ar), ("com/example/recourse/recourse/network/NodeHeap", "size", "I", .int 1)]), (an, own_A .int ((.int g3_0) :: (.int g3_1) :: (.int g3_2) :: List.replicate mm (.int 0))), (ad, own_A .double ((.double g3_3) :: (.double g3_4) :: (.double g3_5) :: List.replicate mm (.double 0))), (ar, own_A .double ((.double g3_6) :: (.double g3_7) :: (.double g3_8) :: List.replicate mm (.double 0)))] _ _ at Hs21_7
  obtain ⟨Ts21_8, vs21_8_, css21_8_, qs21_8, Hs21_8, sts21_8⟩ := own_callV Hs21_7 hx hZ hown (hw _ (List.mem_of_getElem? (i := 21) rfl)) (hw _ (List.mem_of_getElem? (i := 22) rfl)) (hw _ (List.mem_of_getElem? (i := 24) rfl)) (hw _ (List.mem_of_getElem? (i := 23) rfl)) (hw _ (List.mem_of_getElem? (i := 2) rfl)) (hw _ (List.mem_of_getElem? (i := 25) rfl)) (by decide) (x := x) 0 rfl (argsL := []) (rest := []) (W := 0) (own_emp1 l Z a0 hb0 hw x an ad ar mm g3_0 g3_1 g3_2 g3_3 g3_4 g3_5 g3_6 g3_7 g3_8) (by decide) (by decide) (by decide) (by decide) (g := (mkF m 161 #[.val (.int xc), .val (.int xn), .val (.int xp), .val (.int y0), .val (.int y1), .val (.int y2), .val (.ref x), .val (.int (1 : Int32)), .val (.int (2 : Int32)), .val (.int (1 : Int32))] [(.ref x)])) rfl (by rw [hml]; rfl) (lenOf own_pd2 rfl) rfl (by show 2 * 0 + _ ≤ _; exact Nat.le_of_eq rfl) (hb hby at_161)
  obtain ⟨rfl, rfl⟩ := qs21_8
  change own_S _ _ _ _ _ _ _ _ _ _ _ _ _ _ [(x, own_O "com/example/recourse/recourse/network/NodeHeap" [("com/example/recourse/recourse/network/NodeHeap", "nodes", "[I", .ref an), ("com/example/recourse/recourse/network/NodeHeap", "distances", "[D", .ref ad), ("com/example/recourse/recourse/network/NodeHeap", "remainders", "[D", .ref ar), ("com/example/recourse/recourse/network/NodeHeap", "size", "I", .int 1)]), (an, own_A .int ((.int g3_0) :: (.int g3_1) :: (.int g3_2) :: List.replicate mm (.int 0))), (ad, own_A .double ((.double g3_3) :: (.double g3_4) :: (.double g3_5) :: List.replicate mm (.double 0))), (ar, own_A .double ((.double g3_6) :: (.double g3_7) :: (.double g3_8) :: List.replicate mm (.double 0)))] _ _ at Hs21_8
  refine ⟨_, _, _, _, 188, #[.val (.int xc), .val (.int xn), .val (.int xp), .val (.int y0), .val (.int y1), .val (.int y2), .val (.ref x), .val (.int (1 : Int32)), .val (.int (2 : Int32)), .val (.int (1 : Int32))], Hs21_8, by decide, by decide, Or.inr ⟨.boolean, (.int (1 : Int32)), [], .ireturn, rfl, rfl, at_188, own_retZ (Or.inr rfl), fun target q => ?_⟩⟩
  refine sts21_1 _ ?_
  refine own_go Hs21_1 hx hZ hown hby hw own_K0_ok (own_s21_0 xc xn xp y0 y1 y2 x v7 hv7 v10 hv10) _ ?_
  refine sts21_2 _ ?_
  refine own_go Hs21_2 hx hZ hown hby hw own_K0_ok (own_s21_1 xc xn xp y0 y1 y2 x) _ ?_
  refine sts21_3 _ ?_
  refine own_go Hs21_3 hx hZ hown hby hw own_K0_ok (own_s21_2 xc xn xp y0 y1 y2 x hkk hpp v53 hv53) _ ?_
  refine sts21_4 _ ?_
  refine own_go Hs21_4 hx hZ hown hby hw own_K0_ok (own_s21_3 xc xn xp y0 y1 y2 x v69 hv69) _ ?_
  refine sts21_5 _ ?_
  refine own_go Hs21_5 hx hZ hown hby hw own_K0_ok (own_s21_4 xc xn xp y0 y1 y2 x) _ ?_
  refine sts21_6 _ ?_
  refine own_go Hs21_6 hx hZ hown hby hw own_K0_ok (own_s21_5 xc xn xp y0 y1 y2 x) _ ?_
  refine sts21_7 _ ?_
  refine own_go Hs21_7 hx hZ hown hby hw own_K0_ok (own_s21_6 xc xn xp y0 y1 y2 x rv3) _ ?_
  refine sts21_8 _ ?_
  refine own_go Hs21_8 hx hZ hown hby hw own_K0_ok (own_s21_7 xc xn xp y0 y1 y2 x) _ ?_
  exact q
theorem own_s22_0 (xc : Int32) (xn : Int32) (xp : Int32) (y0 : Int32) (y1 : Int32) (y2 : Int32) (x : Addr) (v7 : Int32) (hv7 : (xc &&& (63 : Int32)) = v7) (v10 : Int32) (hv10 : (v7 - (16 : Int32)) = v10) :
    own_Go own_K0 code 3 #[.val (.int xc), .val (.int xn), .val (.int xp), .val (.int y0), .val (.int y1), .val (.int y2), .unset, .unset, .unset, .unset] [(.ref x)] 11 #[.val (.int xc), .val (.int xn), .val (.int xp), .val (.int y0), .val (.int y1), .val (.int y2), .unset, .unset, .unset, .unset] [(.int v10), (.ref x), (.ref x)] := by
  refine own_dup (pc2 := 4) at_3 rfl rfl ?_
  refine own_iloadN (pc2 := 5) at_4 rfl rfl ?_
  refine own_bipush (v := 63) (pc2 := 7) at_5 rfl rfl ?_
  refine own_iand (pc2 := 8) at_7 rfl (v := v7) hv7 ?_
  refine own_bipush (v := 16) (pc2 := 10) at_8 rfl rfl ?_
  refine own_isub (pc2 := 11) at_10 rfl (v := v10) hv10 ?_
  exact own_refl
theorem own_s22_1 (xc : Int32) (xn : Int32) (xp : Int32) (y0 : Int32) (y1 : Int32) (y2 : Int32) (x : Addr) :
    own_Go own_K0 code 14 #[.val (.int xc), .val (.int xn), .val (.int xp), .val (.int y0), .val (.int y1), .val (.int y2), .unset, .unset, .unset, .unset] [(.ref x)] 18 #[.val (.int xc), .val (.int xn), .val (.int xp), .val (.int y0), .val (.int y1), .val (.int y2), .val (.ref x), .unset, .unset, .unset] [(.ref x)] := by
  refine own_astore (pc2 := 16) at_14 rfl rfl (L' := #[.val (.int xc), .val (.int xn), .val (.int xp), .val (.int y0), .val (.int y1), .val (.int y2), .val (.ref x), .unset, .unset, .unset]) rfl ?_
  refine own_aload (pc2 := 18) at_16 rfl rfl rfl ?_
  exact own_refl
theorem own_s22_2 (xc : Int32) (xn : Int32) (xp : Int32) (y0 : Int32) (y1 : Int32) (y2 : Int32) (x : Addr) (hkk : (xn &&& (3 : Int32)) = (2 : Int32)) (hpp : (xp &&& (3 : Int32)) = (2 : Int32)) (v53 : UInt64) (hv53 : (FP.i2d y0) = v53) :
    own_Go own_K0 code 21 #[.val (.int xc), .val (.int xn), .val (.int xp), .val (.int y0), .val (.int y1), .val (.int y2), .val (.ref x), .unset, .unset, .unset] [(.int (1 : Int32))] 54 #[.val (.int xc), .val (.int xn), .val (.int xp), .val (.int y0), .val (.int y1), .val (.int y2), .val (.ref x), .val (.int (1 : Int32)), .val (.int (2 : Int32)), .val (.int (2 : Int32))] [(.double v53), (.int y0), (.ref x)] := by
  refine own_istore (pc2 := 23) at_21 rfl (L' := #[.val (.int xc), .val (.int xn), .val (.int xp), .val (.int y0), .val (.int y1), .val (.int y2), .val (.ref x), .val (.int (1 : Int32)), .unset, .unset]) rfl ?_
  refine own_iloadN (pc2 := 24) at_23 rfl rfl ?_
  refine own_iconst (v := 3) (pc2 := 25) at_24 rfl rfl ?_
  refine own_iand (pc2 := 26) at_25 rfl (v := (2 : Int32)) hkk ?_
  refine own_istore (pc2 := 28) at_26 rfl (L' := #[.val (.int xc), .val (.int xn), .val (.int xp), .val (.int y0), .val (.int y1), .val (.int y2), .val (.ref x), .val (.int (1 : Int32)), .val (.int (2 : Int32)), .unset]) rfl ?_
  refine own_iloadN (pc2 := 29) at_28 rfl rfl ?_
  refine own_iconst (v := 3) (pc2 := 30) at_29 rfl rfl ?_
  refine own_iand (pc2 := 31) at_30 rfl (v := (2 : Int32)) hpp ?_
  refine own_istore (pc2 := 33) at_31 rfl (L' := #[.val (.int xc), .val (.int xn), .val (.int xp), .val (.int y0), .val (.int y1), .val (.int y2), .val (.ref x), .val (.int (1 : Int32)), .val (.int (2 : Int32)), .val (.int (2 : Int32))]) rfl ?_
  refine own_iload (pc2 := 35) at_33 rfl rfl ?_
  refine own_iload (pc2 := 37) at_35 rfl rfl ?_
  refine own_icmpYes (pc' := 44) at_37 (by decide) (by decide) (by decide) ?_
  refine own_iload (pc2 := 46) at_44 rfl rfl ?_
  refine own_ifNo (pc2 := 49) at_46 rfl (by decide) ?_
  refine own_aload (pc2 := 51) at_49 rfl rfl rfl ?_
  refine own_iloadN (pc2 := 52) at_51 rfl rfl ?_
  refine own_iloadN (pc2 := 53) at_52 rfl rfl ?_
  refine own_i2d (pc2 := 54) at_53 rfl (v := v53) hv53 ?_
  exact own_refl
theorem own_s22_3 (xc : Int32) (xn : Int32) (xp : Int32) (y0 : Int32) (y1 : Int32) (y2 : Int32) (x : Addr) (v69 : UInt64) (hv69 : (FP.i2d y1) = v69) :
    own_Go own_K0 code 57 #[.val (.int xc), .val (.int xn), .val (.int xp), .val (.int y0), .val (.int y1), .val (.int y2), .val (.ref x), .val (.int (1 : Int32)), .val (.int (2 : Int32)), .val (.int (2 : Int32))] [] 70 #[.val (.int xc), .val (.int xn), .val (.int xp), .val (.int y0), .val (.int y1), .val (.int y2), .val (.ref x), .val (.int (1 : Int32)), .val (.int (2 : Int32)), .val (.int (2 : Int32))] [(.double v69), (.int y1), (.ref x)] := by
  refine own_iload (pc2 := 59) at_57 rfl rfl ?_
  refine own_iconst (v := 1) (pc2 := 60) at_59 rfl rfl ?_
  refine own_icmpNo (pc2 := 63) at_60 rfl (by decide) ?_
  refine own_aload (pc2 := 65) at_63 rfl rfl rfl ?_
  refine own_iload (pc2 := 67) at_65 rfl rfl ?_
  refine own_iload (pc2 := 69) at_67 rfl rfl ?_
  refine own_i2d (pc2 := 70) at_69 rfl (v := v69) hv69 ?_
  exact own_refl
theorem own_s22_4 (xc : Int32) (xn : Int32) (xp : Int32) (y0 : Int32) (y1 : Int32) (y2 : Int32) (x : Addr) :
    own_Go own_K0 code 73 #[.val (.int xc), .val (.int xn), .val (.int xp), .val (.int y0), .val (.int y1), .val (.int y2), .val (.ref x), .val (.int (1 : Int32)), .val (.int (2 : Int32)), .val (.int (2 : Int32))] [] 96 #[.val (.int xc), .val (.int xn), .val (.int xp), .val (.int y0), .val (.int y1), .val (.int y2), .val (.ref x), .val (.int (1 : Int32)), .val (.int (2 : Int32)), .val (.int (2 : Int32))] [(.ref x)] := by
  refine own_iload (pc2 := 75) at_73 rfl rfl ?_
  refine own_iconst (v := 2) (pc2 := 76) at_75 rfl rfl ?_
  refine own_icmpYes (pc' := 89) at_76 (by decide) (by decide) (by decide) ?_
  refine own_iload (pc2 := 91) at_89 rfl rfl ?_
  refine own_ifNo (pc2 := 94) at_91 rfl (by decide) ?_
  refine own_aload (pc2 := 96) at_94 rfl rfl rfl ?_
  exact own_refl
theorem own_s22_5 (xc : Int32) (xn : Int32) (xp : Int32) (y0 : Int32) (y1 : Int32) (y2 : Int32) (x : Addr) :
    own_Go own_K0 code 99 #[.val (.int xc), .val (.int xn), .val (.int xp), .val (.int y0), .val (.int y1), .val (.int y2), .val (.ref x), .val (.int (1 : Int32)), .val (.int (2 : Int32)), .val (.int (2 : Int32))] [(.int (0 : Int32))] 126 #[.val (.int xc), .val (.int xn), .val (.int xp), .val (.int y0), .val (.int y1), .val (.int y2), .val (.ref x), .val (.int (1 : Int32)), .val (.int (2 : Int32)), .val (.int (2 : Int32))] [(.ref x)] := by
  refine own_iload (pc2 := 101) at_99 rfl rfl ?_
  refine own_ifYes (pc' := 108) at_101 (by decide) (by decide) (by decide) ?_
  refine own_iconst (v := 0) (pc2 := 109) at_108 rfl rfl ?_
  refine own_icmpNo (pc2 := 112) at_109 rfl (by decide) ?_
  refine own_iconst (v := 1) (pc2 := 113) at_112 rfl rfl ?_
  refine own_goto (pc' := 117) at_113 (by decide) (by decide) ?_
  refine own_istore (pc2 := 119) at_117 rfl (L' := #[.val (.int xc), .val (.int xn), .val (.int xp), .val (.int y0), .val (.int y1), .val (.int y2), .val (.ref x), .val (.int (1 : Int32)), .val (.int (2 : Int32)), .val (.int (2 : Int32))]) rfl ?_
  refine own_iload (pc2 := 121) at_119 rfl rfl ?_
  refine own_ifNo (pc2 := 124) at_121 rfl (by decide) ?_
  refine own_aload (pc2 := 126) at_124 rfl rfl rfl ?_
  exact own_refl
theorem own_s22_6 (xc : Int32) (xn : Int32) (xp : Int32) (y0 : Int32) (y1 : Int32) (y2 : Int32) (x : Addr) (rv3 : Int32) :
    own_Go own_K0 code 129 #[.val (.int xc), .val (.int xn), .val (.int xp), .val (.int y0), .val (.int y1), .val (.int y2), .val (.ref x), .val (.int (1 : Int32)), .val (.int (2 : Int32)), .val (.int (2 : Int32))] [(.int rv3)] 138 #[.val (.int xc), .val (.int xn), .val (.int xp), .val (.int y0), .val (.int y1), .val (.int y2), .val (.ref x), .val (.int (1 : Int32)), .val (.int (2 : Int32)), .val (.int (2 : Int32))] [(.ref x)] := by
  refine own_pop (pc2 := 130) at_129 rfl rfl ?_
  refine own_iload (pc2 := 132) at_130 rfl rfl ?_
  refine own_iconst (v := 1) (pc2 := 133) at_132 rfl rfl ?_
  refine own_icmpNo (pc2 := 136) at_133 rfl (by decide) ?_
  refine own_aload (pc2 := 138) at_136 rfl rfl rfl ?_
  exact own_refl
theorem own_s22_7 (xc : Int32) (xn : Int32) (xp : Int32) (y0 : Int32) (y1 : Int32) (y2 : Int32) (x : Addr) (rv4 : Int32) :
    own_Go own_K0 code 141 #[.val (.int xc), .val (.int xn), .val (.int xp), .val (.int y0), .val (.int y1), .val (.int y2), .val (.ref x), .val (.int (1 : Int32)), .val (.int (2 : Int32)), .val (.int (2 : Int32))] [(.int rv4)] 161 #[.val (.int xc), .val (.int xn), .val (.int xp), .val (.int y0), .val (.int y1), .val (.int y2), .val (.ref x), .val (.int (1 : Int32)), .val (.int (2 : Int32)), .val (.int (2 : Int32))] [(.ref x)] := by
  refine own_pop (pc2 := 142) at_141 rfl rfl ?_
  refine own_iload (pc2 := 144) at_142 rfl rfl ?_
  refine own_iconst (v := 2) (pc2 := 145) at_144 rfl rfl ?_
  refine own_icmpYes (pc' := 154) at_145 (by decide) (by decide) (by decide) ?_
  refine own_iload (pc2 := 156) at_154 rfl rfl ?_
  refine own_ifNo (pc2 := 159) at_156 rfl (by decide) ?_
  refine own_aload (pc2 := 161) at_159 rfl rfl rfl ?_
  exact own_refl
theorem own_s22_8 (xc : Int32) (xn : Int32) (xp : Int32) (y0 : Int32) (y1 : Int32) (y2 : Int32) (x : Addr) :
    own_Go own_K0 code 164 #[.val (.int xc), .val (.int xn), .val (.int xp), .val (.int y0), .val (.int y1), .val (.int y2), .val (.ref x), .val (.int (1 : Int32)), .val (.int (2 : Int32)), .val (.int (2 : Int32))] [(.int (1 : Int32))] 188 #[.val (.int xc), .val (.int xn), .val (.int xp), .val (.int y0), .val (.int y1), .val (.int y2), .val (.ref x), .val (.int (1 : Int32)), .val (.int (2 : Int32)), .val (.int (2 : Int32))] [(.int (1 : Int32))] := by
  refine own_iload (pc2 := 166) at_164 rfl rfl ?_
  refine own_iload (pc2 := 168) at_166 rfl rfl ?_
  refine own_icmpNo (pc2 := 171) at_168 rfl (by decide) ?_
  refine own_iconst (v := 1) (pc2 := 172) at_171 rfl rfl ?_
  refine own_goto (pc' := 176) at_172 (by decide) (by decide) ?_
  refine own_icmpNo (pc2 := 179) at_176 rfl (by decide) ?_
  refine own_iconst (v := 1) (pc2 := 180) at_179 rfl rfl ?_
  refine own_goto (pc' := 184) at_180 (by decide) (by decide) ?_
  refine own_istore (pc2 := 186) at_184 rfl (L' := #[.val (.int xc), .val (.int xn), .val (.int xp), .val (.int y0), .val (.int y1), .val (.int y2), .val (.ref x), .val (.int (1 : Int32)), .val (.int (2 : Int32)), .val (.int (2 : Int32))]) rfl ?_
  refine own_iload (pc2 := 188) at_186 rfl rfl ?_
  exact own_refl
set_option maxRecDepth 65536 in
set_option maxHeartbeats 40000000 in
theorem own_law22 (l : Launch) (Z : State) (a0 : Array Value) (hb0 : Heap) (hw : ∀ d ∈ tables_1, d.before a0 Z = true) (xc : Int32) (xn : Int32) (xp : Int32) (y0 : Int32) (y1 : Int32) (y2 : Int32) (hkk : (xn &&& (3 : Int32)) = (2 : Int32)) (hpp : (xp &&& (3 : Int32)) = (2 : Int32)) :
    own_Met l Z a0 hb0 x code maxLocals ret tables_1 room_1 #[(.int xc), (.int xn), (.int xp), (.int y0), (.int y1), (.int y2)] [] (fun v _ => v = some (.int 1)) := by
  refine own_met_of (L0 := #[.val (.int xc), .val (.int xn), .val (.int xp), .val (.int y0), .val (.int y1), .val (.int y2), .unset, .unset, .unset, .unset]) (plainFor_of_name own_pn0) (fun m => own_ef0 m xc xn xp y0 y1 y2) ?_
  intro p e s m below meth c T0 hx hZ hown hby hml hnm H0
  have hown : s.vm.findClass "com/example/recourse/recourse/network/NodeHeapIsEmptyPinLaw" = some m.cls := hown
  have hml : c.maxLocals = 10 := hml
  obtain ⟨Ts22_1, x, Hs22_1, sts22_1⟩ := own_newO H0 hx hZ hown (hw _ (List.mem_of_getElem? (i := 0) rfl)) (hw _ (List.mem_of_getElem? (i := 1) rfl)) (hw _ (List.mem_of_getElem? (i := 2) rfl)) [("com/example/recourse/recourse/network/NodeHeap", "nodes", "[I", .null), ("com/example/recourse/recourse/network/NodeHeap", "distances", "[D", .null), ("com/example/recourse/recourse/network/NodeHeap", "remainders", "[D", .null), ("com/example/recourse/recourse/network/NodeHeap", "size", "I", .int 0)] (by
      intro f hf
      simp only [List.mem_cons, List.not_mem_nil, or_false] at hf
      rcases hf with rfl | rfl | rfl | rfl
      · exact ⟨Or.inl (hw _ (List.mem_of_getElem? (i := 15) rfl)), (.array .int), by decide, rfl⟩
      · exact ⟨Or.inl (hw _ (List.mem_of_getElem? (i := 18) rfl)), (.array .double), by decide, rfl⟩
      · exact ⟨Or.inl (hw _ (List.mem_of_getElem? (i := 20) rfl)), (.array .double), by decide, rfl⟩
      · exact ⟨Or.inl (hw _ (List.mem_of_getElem? (i := 27) rfl)), .int, by decide, rfl⟩) (by decide) (g := (mkF m 0 #[.val (.int xc), .val (.int xn), .val (.int xp), .val (.int y0), .val (.int y1), .val (.int y2), .unset, .unset, .unset, .unset] [])) rfl (hb hby at_0) (by decide) (by decide)
  change own_S _ _ _ _ _ _ _ _ _ _ _ _ _ _ [(x, own_O "com/example/recourse/recourse/network/NodeHeap" [("com/example/recourse/recourse/network/NodeHeap", "nodes", "[I", .null), ("com/example/recourse/recourse/network/NodeHeap", "distances", "[D", .null), ("com/example/recourse/recourse/network/NodeHeap", "remainders", "[D", .null), ("com/example/recourse/recourse/network/NodeHeap", "size", "I", .int 0)])] _ _ at Hs22_1
  obtain ⟨v7, hv7⟩ : ∃ z : Int32, (xc &&& (63 : Int32)) = z := ⟨_, rfl⟩
  obtain ⟨v10, hv10⟩ : ∃ z : Int32, (v7 - (16 : Int32)) = z := ⟨_, rfl⟩
  have hk : v10.toInt ≤ 47 := by
    have h1 := c_mask xc 63 6 (by decide) (by decide)
    have h2 := c_isub v7 16
    have := rng32 v10
    rw [hv7] at h1
    rw [hv10, show (16 : Int32).toInt = 16 from rfl] at h2
    omega
  obtain ⟨Ts22_2, vs22_2_, css22_2_, qs22_2, Hs22_2, sts22_2⟩ := own_callI Hs22_1 hx hZ hown rfl (hw _ (List.mem_of_getElem? (i := 3) rfl)) (hw _ (List.mem_of_getElem? (i := 4) rfl)) (hw _ (List.mem_of_getElem? (i := 2) rfl)) (hw _ (List.mem_of_getElem? (i := 5) rfl)) (by decide) (x := x) (argsL := [(.int v10)]) (rest := [(.ref x)]) (W := 1) (own_init l Z a0 hb0 hw x v10 hk) (by decide) (by decide) (by decide) (by decide) (g := (mkF m 11 #[.val (.int xc), .val (.int xn), .val (.int xp), .val (.int y0), .val (.int y1), .val (.int y2), .unset, .unset, .unset, .unset] [(.int v10), (.ref x), (.ref x)])) rfl (by rw [hml]; rfl) (lenOf own_pd4 rfl) rfl (by show 2 * 0 + _ ≤ _; exact Nat.le_of_eq rfl) (hb hby at_11)
  obtain ⟨an, ad, ar, mm, z, hl, hzz, rfl, rfl⟩ := qs22_2
  change own_S _ _ _ _ _ _ _ _ _ _ _ _ _ _ [(x, own_O "com/example/recourse/recourse/network/NodeHeap" [("com/example/recourse/recourse/network/NodeHeap", "nodes", "[I", .ref an), ("com/example/recourse/recourse/network/NodeHeap", "distances", "[D", .ref ad), ("com/example/recourse/recourse/network/NodeHeap", "remainders", "[D", .ref ar), ("com/example/recourse/recourse/network/NodeHeap", "size", "I", .int 0)]), (an, own_A .int ((.int 0) :: (.int 0) :: (.int 0) :: List.replicate mm (.int 0))), (ad, own_A .double ((.double 0) :: (.double 0) :: (.double 0) :: List.replicate mm (.double 0))), (ar, own_A .double ((.double 0) :: (.double 0) :: (.double 0) :: List.replicate mm (.double 0)))] _ _ at Hs22_2
  obtain ⟨Ts22_3, vs22_3_, css22_3_, qs22_3, Hs22_3, sts22_3⟩ := own_callV Hs22_2 hx hZ hown (hw _ (List.mem_of_getElem? (i := 21) rfl)) (hw _ (List.mem_of_getElem? (i := 22) rfl)) (hw _ (List.mem_of_getElem? (i := 24) rfl)) (hw _ (List.mem_of_getElem? (i := 23) rfl)) (hw _ (List.mem_of_getElem? (i := 2) rfl)) (hw _ (List.mem_of_getElem? (i := 25) rfl)) (by decide) (x := x) 0 rfl (argsL := []) (rest := []) (W := 0) (own_emp0 l Z a0 hb0 hw x an ad ar mm 0 0 0 0 0 0 0 0 0) (by decide) (by decide) (by decide) (by decide) (g := (mkF m 18 #[.val (.int xc), .val (.int xn), .val (.int xp), .val (.int y0), .val (.int y1), .val (.int y2), .val (.ref x), .unset, .unset, .unset] [(.ref x)])) rfl (by rw [hml]; rfl) (lenOf own_pd2 rfl) rfl (by show 2 * 0 + _ ≤ _; exact Nat.le_of_eq rfl) (hb hby at_18)
  obtain ⟨rfl, rfl⟩ := qs22_3
  change own_S _ _ _ _ _ _ _ _ _ _ _ _ _ _ [(x, own_O "com/example/recourse/recourse/network/NodeHeap" [("com/example/recourse/recourse/network/NodeHeap", "nodes", "[I", .ref an), ("com/example/recourse/recourse/network/NodeHeap", "distances", "[D", .ref ad), ("com/example/recourse/recourse/network/NodeHeap", "remainders", "[D", .ref ar), ("com/example/recourse/recourse/network/NodeHeap", "size", "I", .int 0)]), (an, own_A .int ((.int 0) :: (.int 0) :: (.int 0) :: List.replicate mm (.int 0))), (ad, own_A .double ((.double 0) :: (.double 0) :: (.double 0) :: List.replicate mm (.double 0))), (ar, own_A .double ((.double 0) :: (.double 0) :: (.double 0) :: List.replicate mm (.double 0)))] _ _ at Hs22_3
  obtain ⟨v53, hv53⟩ : ∃ z : UInt64, (FP.i2d y0) = z := ⟨_, rfl⟩
  obtain ⟨Ts22_4, vs22_4_, css22_4_, qs22_4, Hs22_4, sts22_4⟩ := own_callV Hs22_3 hx hZ hown (hw _ (List.mem_of_getElem? (i := 28) rfl)) (hw _ (List.mem_of_getElem? (i := 29) rfl)) (hw _ (List.mem_of_getElem? (i := 31) rfl)) (hw _ (List.mem_of_getElem? (i := 30) rfl)) (hw _ (List.mem_of_getElem? (i := 2) rfl)) (hw _ (List.mem_of_getElem? (i := 32) rfl)) (by decide) (x := x) 0 rfl (argsL := [(.int y0), (.double v53)]) (rest := []) (W := 0) (own_adi0 l Z a0 hb0 hw x _ _ an ad ar mm 0 0 0 0 0 0 0 0 0 z hl hzz) (by decide) (by decide) (by decide) (by decide) (g := (mkF m 54 #[.val (.int xc), .val (.int xn), .val (.int xp), .val (.int y0), .val (.int y1), .val (.int y2), .val (.ref x), .val (.int (1 : Int32)), .val (.int (2 : Int32)), .val (.int (2 : Int32))] [(.double v53), (.int y0), (.ref x)])) rfl (by rw [hml]; rfl) (lenOf own_pd5 rfl) rfl (by show 2 * 0 + _ ≤ _; exact Nat.le_of_eq rfl) (hb hby at_54)
  obtain ⟨g1_0, g1_1, g1_2, g1_3, g1_4, g1_5, g1_6, g1_7, g1_8, rfl, rfl⟩ := qs22_4
  change own_S _ _ _ _ _ _ _ _ _ _ _ _ _ _ [(x, own_O "com/example/recourse/recourse/network/NodeHeap" [("com/example/recourse/recourse/network/NodeHeap", "nodes", "[I", .ref an), ("com/example/recourse/recourse/network/NodeHeap", "distances", "[D", .ref ad), ("com/example/recourse/recourse/network/NodeHeap", "remainders", "[D", .ref ar), ("com/example/recourse/recourse/network/NodeHeap", "size", "I", .int 1)]), (an, own_A .int ((.int g1_0) :: (.int g1_1) :: (.int g1_2) :: List.replicate mm (.int 0))), (ad, own_A .double ((.double g1_3) :: (.double g1_4) :: (.double g1_5) :: List.replicate mm (.double 0))), (ar, own_A .double ((.double g1_6) :: (.double g1_7) :: (.double g1_8) :: List.replicate mm (.double 0)))] _ _ at Hs22_4
  obtain ⟨v69, hv69⟩ : ∃ z : UInt64, (FP.i2d y1) = z := ⟨_, rfl⟩
  obtain ⟨Ts22_5, vs22_5_, css22_5_, qs22_5, Hs22_5, sts22_5⟩ := own_callV Hs22_4 hx hZ hown (hw _ (List.mem_of_getElem? (i := 28) rfl)) (hw _ (List.mem_of_getElem? (i := 29) rfl)) (hw _ (List.mem_of_getElem? (i := 31) rfl)) (hw _ (List.mem_of_getElem? (i := 30) rfl)) (hw _ (List.mem_of_getElem? (i := 2) rfl)) (hw _ (List.mem_of_getElem? (i := 32) rfl)) (by decide) (x := x) 0 rfl (argsL := [(.int y1), (.double v69)]) (rest := []) (W := 0) (own_adi1 l Z a0 hb0 hw x _ _ an ad ar mm g1_0 g1_1 g1_2 g1_3 g1_4 g1_5 g1_6 g1_7 g1_8 z hl hzz) (by decide) (by decide) (by decide) (by decide) (g := (mkF m 70 #[.val (.int xc), .val (.int xn), .val (.int xp), .val (.int y0), .val (.int y1), .val (.int y2), .val (.ref x), .val (.int (1 : Int32)), .val (.int (2 : Int32)), .val (.int (2 : Int32))] [(.double v69), (.int y1), (.ref x)])) rfl (by rw [hml]; rfl) (lenOf own_pd5 rfl) rfl (by show 2 * 0 + _ ≤ _; exact Nat.le_of_eq rfl) (hb hby at_70)
  obtain ⟨g2_0, g2_1, g2_2, g2_3, g2_4, g2_5, g2_6, g2_7, g2_8, rfl, rfl⟩ := qs22_5
  change own_S _ _ _ _ _ _ _ _ _ _ _ _ _ _ [(x, own_O "com/example/recourse/recourse/network/NodeHeap" [("com/example/recourse/recourse/network/NodeHeap", "nodes", "[I", .ref an), ("com/example/recourse/recourse/network/NodeHeap", "distances", "[D", .ref ad), ("com/example/recourse/recourse/network/NodeHeap", "remainders", "[D", .ref ar), ("com/example/recourse/recourse/network/NodeHeap", "size", "I", .int 2)]), (an, own_A .int ((.int g2_0) :: (.int g2_1) :: (.int g2_2) :: List.replicate mm (.int 0))), (ad, own_A .double ((.double g2_3) :: (.double g2_4) :: (.double g2_5) :: List.replicate mm (.double 0))), (ar, own_A .double ((.double g2_6) :: (.double g2_7) :: (.double g2_8) :: List.replicate mm (.double 0)))] _ _ at Hs22_5
  obtain ⟨Ts22_6, vs22_6_, css22_6_, qs22_6, Hs22_6, sts22_6⟩ := own_callV Hs22_5 hx hZ hown (hw _ (List.mem_of_getElem? (i := 21) rfl)) (hw _ (List.mem_of_getElem? (i := 22) rfl)) (hw _ (List.mem_of_getElem? (i := 24) rfl)) (hw _ (List.mem_of_getElem? (i := 23) rfl)) (hw _ (List.mem_of_getElem? (i := 2) rfl)) (hw _ (List.mem_of_getElem? (i := 25) rfl)) (by decide) (x := x) 0 rfl (argsL := []) (rest := []) (W := 0) (own_emp2 l Z a0 hb0 hw x an ad ar mm g2_0 g2_1 g2_2 g2_3 g2_4 g2_5 g2_6 g2_7 g2_8) (by decide) (by decide) (by decide) (by decide) (g := (mkF m 96 #[.val (.int xc), .val (.int xn), .val (.int xp), .val (.int y0), .val (.int y1), .val (.int y2), .val (.ref x), .val (.int (1 : Int32)), .val (.int (2 : Int32)), .val (.int (2 : Int32))] [(.ref x)])) rfl (by rw [hml]; rfl) (lenOf own_pd2 rfl) rfl (by show 2 * 0 + _ ≤ _; exact Nat.le_of_eq rfl) (hb hby at_96)
  obtain ⟨rfl, rfl⟩ := qs22_6
  change own_S _ _ _ _ _ _ _ _ _ _ _ _ _ _ [(x, own_O "com/example/recourse/recourse/network/NodeHeap" [("com/example/recourse/recourse/network/NodeHeap", "nodes", "[I", .ref an), ("com/example/recourse/recourse/network/NodeHeap", "distances", "[D", .ref ad), ("com/example/recourse/recourse/network/NodeHeap", "remainders", "[D", .ref ar), ("com/example/recourse/recourse/network/NodeHeap", "size", "I", .int 2)]), (an, own_A .int ((.int g2_0) :: (.int g2_1) :: (.int g2_2) :: List.replicate mm (.int 0))), (ad, own_A .double ((.double g2_3) :: (.double g2_4) :: (.double g2_5) :: List.replicate mm (.double 0))), (ar, own_A .double ((.double g2_6) :: (.double g2_7) :: (.double g2_8) :: List.replicate mm (.double 0)))] _ _ at Hs22_6
  obtain ⟨Ts22_7, vs22_7_, css22_7_, qs22_7, Hs22_7, sts22_7⟩ := own_callV Hs22_6 hx hZ hown (hw _ (List.mem_of_getElem? (i := 46) rfl)) (hw _ (List.mem_of_getElem? (i := 47) rfl)) (hw _ (List.mem_of_getElem? (i := 49) rfl)) (hw _ (List.mem_of_getElem? (i := 48) rfl)) (hw _ (List.mem_of_getElem? (i := 2) rfl)) (hw _ (List.mem_of_getElem? (i := 50) rfl)) (by decide) (x := x) 0 rfl (argsL := []) (rest := []) (W := 0) (own_poll2 l Z a0 hb0 hw x an ad ar mm g2_0 g2_1 g2_2 g2_3 g2_4 g2_5 g2_6 g2_7 g2_8) (by decide) (by decide) (by decide) (by decide) (g := (mkF m 126 #[.val (.int xc), .val (.int xn), .val (.int xp), .val (.int y0), .val (.int y1), .val (.int y2), .val (.ref x), .val (.int (1 : Int32)), .val (.int (2 : Int32)), .val (.int (2 : Int32))] [(.ref x)])) rfl (by rw [hml]; rfl) (lenOf own_pd0 rfl) rfl (by show 2 * 0 + _ ≤ _; exact Nat.le_of_eq rfl) (hb hby at_126)
  obtain ⟨g3_0, g3_1, g3_2, g3_3, g3_4, g3_5, g3_6, g3_7, g3_8, rv3, rfl, rfl⟩ := qs22_7
  change own_S _ _ _ _ _ _ _ _ _ _ _ _ _ _ [(x, own_O "com/example/recourse/recourse/network/NodeHeap" [("com/example/recourse/recourse/network/NodeHeap", "nodes", "[I", .ref an), ("com/example/recourse/recourse/network/NodeHeap", "distances", "[D", .ref ad), ("com/example/recourse/recourse/network/NodeHeap", "remainders", "[D", .ref ar), ("com/example/recourse/recourse/network/NodeHeap", "size", "I", .int 1)]), (an, own_A .int ((.int g3_0) :: (.int g3_1) :: (.int g3_2) :: List.replicate mm (.int 0))), (ad, own_A .double ((.double g3_3) :: (.double g3_4) :: (.double g3_5) :: List.replicate mm (.double 0))), (ar, own_A .double ((.double g3_6) :: (.double g3_7) :: (.double g3_8) :: List.replicate mm (.double 0)))] _ _ at Hs22_7
  obtain ⟨Ts22_8, vs22_8_, css22_8_, qs22_8, Hs22_8, sts22_8⟩ := own_callV Hs22_7 hx hZ hown (hw _ (List.mem_of_getElem? (i := 46) rfl)) (hw _ (List.mem_of_getElem? (i := 47) rfl)) (hw _ (List.mem_of_getElem? (i := 49) rfl)) (hw _ (List.mem_of_getElem? (i := 48) rfl)) (hw _ (List.mem_of_getElem? (i := 2) rfl)) (hw _ (List.mem_of_getElem? (i := 50) rfl)) (by decide) (x := x) 0 rfl (argsL := []) (rest := []) (W := 0) (own_poll1 l Z a0 hb0 hw x an ad ar mm g3_0 g3_1 g3_2 g3_3 g3_4 g3_5 g3_6 g3_7 g3_8) (by decide) (by decide) (by decide) (by decide) (g := (mkF m 138 #[.val (.int xc), .val (.int xn), .val (.int xp), .val (.int y0), .val (.int y1), .val (.int y2), .val (.ref x), .val (.int (1 : Int32)), .val (.int (2 : Int32)), .val (.int (2 : Int32))] [(.ref x)])) rfl (by rw [hml]; rfl) (lenOf own_pd0 rfl) rfl (by show 2 * 0 + _ ≤ _; exact Nat.le_of_eq rfl) (hb hby at_138)
  obtain ⟨g4_0, g4_1, g4_2, g4_3, g4_4, g4_5, g4_6, g4_7, g4_8, rv4, rfl, rfl⟩ := qs22_8
  change own_S _ _ _ _ _ _ _ _ _ _ _ _ _ _ [(x, own_O "com/example/recourse/recourse/network/NodeHeap" [("com/example/recourse/recourse/network/NodeHeap", "nodes", "[I", .ref an), ("com/example/recourse/recourse/network/NodeHeap", "distances", "[D", .ref ad), ("com/example/recourse/recourse/network/NodeHeap", "remainders", "[D", .ref ar), ("com/example/recourse/recourse/network/NodeHeap", "size", "I", .int 0)]), (an, own_A .int ((.int g4_0) :: (.int g4_1) :: (.int g4_2) :: List.replicate mm (.int 0))), (ad, own_A .double ((.double g4_3) :: (.double g4_4) :: (.double g4_5) :: List.replicate mm (.double 0))), (ar, own_A .double ((.double g4_6) :: (.double g4_7) :: (.double g4_8) :: List.replicate mm (.double 0)))] _ _ at Hs22_8
  obtain ⟨Ts22_9, vs22_9_, css22_9_, qs22_9, Hs22_9, sts22_9⟩ := own_callV Hs22_8 hx hZ hown (hw _ (List.mem_of_getElem? (i := 21) rfl)) (hw _ (List.mem_of_getElem? (i := 22) rfl)) (hw _ (List.mem_of_getElem? (i := 24) rfl)) (hw _ (List.mem_of_getElem? (i := 23) rfl)) (hw _ (List.mem_of_getElem? (i := 2) rfl)) (hw _ (List.mem_of_getElem? (i := 25) rfl)) (by decide) (x := x) 0 rfl (argsL := []) (rest := []) (W := 0) (own_emp0 l Z a0 hb0 hw x an ad ar mm g4_0 g4_1 g4_2 g4_3 g4_4 g4_5 g4_6 g4_7 g4_8) (by decide) (by decide) (by decide) (by decide) (g := (mkF m 161 #[.val (.int xc), .val (.int xn), .val (.int xp), .val (.int y0), .val (.int y1), .val (.int y2), .val (.ref x), .val (.int (1 : Int32)), .val (.int (2 : Int32)), .val (.int (2 : Int32))] [(.ref x)])) rfl (by rw [hml]; rfl) (lenOf own_pd2 rfl) rfl (by show 2 * 0 + _ ≤ _; exact Nat.le_of_eq rfl) (hb hby at_161)
  obtain ⟨rfl, rfl⟩ := qs22_9
  change own_S _ _ _ _ _ _ _ _ _ _ _ _ _ _ [(x, own_O "com/example/recourse/recourse/network/NodeHeap" [("com/example/recourse/recourse/network/NodeHeap", "nodes", "[I", .ref an), ("com/example/recourse/recourse/network/NodeHeap", "distances", "[D", .ref ad), ("com/example/recourse/recourse/network/NodeHeap", "remainders", "[D", .ref ar), ("com/example/recourse/recourse/network/NodeHeap", "size", "I", .int 0)]), (an, own_A .int ((.int g4_0) :: (.int g4_1) :: (.int g4_2) :: List.replicate mm (.int 0))), (ad, own_A .double ((.double g4_3) :: (.double g4_4) :: (.double g4_5) :: List.replicate mm (.double 0))), (ar, own_A .double ((.double g4_6) :: (.double g4_7) :: (.double g4_8) :: List.replicate mm (.double 0)))] _ _ at Hs22_9
  refine ⟨_, _, _, _, 188, #[.val (.int xc), .val (.int xn), .val (.int xp), .val (.int y0), .val (.int y1), .val (.int y2), .val (.ref x), .val (.int (1 : Int32)), .val (.int (2 : Int32)), .val (.int (2 : Int32))], Hs22_9, by decide, by decide, Or.inr ⟨.boolean, (.int (1 : Int32)), [], .ireturn, rfl, rfl, at_188, own_retZ (Or.inr rfl), fun target q => ?_⟩⟩
  refine sts22_1 _ ?_
  refine own_go Hs22_1 hx hZ hown hby hw own_K0_ok (own_s22_0 xc xn xp y0 y1 y2 x v7 hv7 v10 hv10) _ ?_
  refine sts22_2 _ ?_
  refine own_go Hs22_2 hx hZ hown hby hw own_K0_ok (own_s22_1 xc xn xp y0 y1 y2 x) _ ?_
  refine sts22_3 _ ?_
  refine own_go Hs22_3 hx hZ hown hby hw own_K0_ok (own_s22_2 xc xn xp y0 y1 y2 x hkk hpp v53 hv53) _ ?_
  refine sts22_4 _ ?_
  refine own_go Hs22_4 hx hZ hown hby hw own_K0_ok (own_s22_3 xc xn xp y0 y1 y2 x v69 hv69) _ ?_
  refine sts22_5 _ ?_
  refine own_go Hs22_5 hx hZ hown hby hw own_K0_ok (own_s22_4 xc xn xp y0 y1 y2 x) _ ?_
  refine sts22_6 _ ?_
  refine own_go Hs22_6 hx hZ hown hby hw own_K0_ok (own_s22_5 xc xn xp y0 y1 y2 x) _ ?_
  refine sts22_7 _ ?_
  refine own_go Hs22_7 hx hZ hown hby hw own_K0_ok (own_s22_6 xc xn xp y0 y1 y2 x rv3) _ ?_
  refine sts22_8 _ ?_
  refine own_go Hs22_8 hx hZ hown hby hw own_K0_ok (own_s22_7 xc xn xp y0 y1 y2 x rv4) _ ?_
  refine sts22_9 _ ?_
  refine own_go Hs22_9 hx hZ hown hby hw own_K0_ok (own_s22_8 xc xn xp y0 y1 y2 x) _ ?_
  exact q
theorem own_s23_0 (xc : Int32) (xn : Int32) (xp : Int32) (y0 : Int32) (y1 : Int32) (y2 : Int32) (x : Addr) (v7 : Int32) (hv7 : (xc &&& (63 : Int32)) = v7) (v10 : Int32) (hv10 : (v7 - (16 : Int32)) = v10) :
    own_Go own_K0 code 3 #[.val (.int xc), .val (.int xn), .val (.int xp), .val (.int y0), .val (.int y1), .val (.int y2), .unset, .unset, .unset, .unset] [(.ref x)] 11 #[.val (.int xc), .val (.int xn), .val (.int xp), .val (.int y0), .val (.int y1), .val (.int y2), .unset, .unset, .unset, .unset] [(.int v10), (.ref x), (.ref x)] := by
  refine own_dup (pc2 := 4) at_3 rfl rfl ?_
  refine own_iloadN (pc2 := 5) at_4 rfl rfl ?_
  refine own_bipush (v := 63) (pc2 := 7) at_5 rfl rfl ?_
  refine own_iand (pc2 := 8) at_7 rfl (v := v7) hv7 ?_
  refine own_bipush (v := 16) (pc2 := 10) at_8 rfl rfl ?_
  refine own_isub (pc2 := 11) at_10 rfl (v := v10) hv10 ?_
  exact own_refl
theorem own_s23_1 (xc : Int32) (xn : Int32) (xp : Int32) (y0 : Int32) (y1 : Int32) (y2 : Int32) (x : Addr) :
    own_Go own_K0 code 14 #[.val (.int xc), .val (.int xn), .val (.int xp), .val (.int y0), .val (.int y1), .val (.int y2), .unset, .unset, .unset, .unset] [(.ref x)] 18 #[.val (.int xc), .val (.int xn), .val (.int xp), .val (.int y0), .val (.int y1), .val (.int y2), .val (.ref x), .unset, .unset, .unset] [(.ref x)] := by
  refine own_astore (pc2 := 16) at_14 rfl rfl (L' := #[.val (.int xc), .val (.int xn), .val (.int xp), .val (.int y0), .val (.int y1), .val (.int y2), .val (.ref x), .unset, .unset, .unset]) rfl ?_
  refine own_aload (pc2 := 18) at_16 rfl rfl rfl ?_
  exact own_refl
theorem own_s23_2 (xc : Int32) (xn : Int32) (xp : Int32) (y0 : Int32) (y1 : Int32) (y2 : Int32) (x : Addr) (hkk : (xn &&& (3 : Int32)) = (2 : Int32)) (hpp : (xp &&& (3 : Int32)) = (3 : Int32)) (v53 : UInt64) (hv53 : (FP.i2d y0) = v53) :
    own_Go own_K0 code 21 #[.val (.int xc), .val (.int xn), .val (.int xp), .val (.int y0), .val (.int y1), .val (.int y2), .val (.ref x), .unset, .unset, .unset] [(.int (1 : Int32))] 54 #[.val (.int xc), .val (.int xn), .val (.int xp), .val (.int y0), .val (.int y1), .val (.int y2), .val (.ref x), .val (.int (1 : Int32)), .val (.int (2 : Int32)), .val (.int (2 : Int32))] [(.double v53), (.int y0), (.ref x)] := by
  refine own_istore (pc2 := 23) at_21 rfl (L' := #[.val (.int xc), .val (.int xn), .val (.int xp), .val (.int y0), .val (.int y1), .val (.int y2), .val (.ref x), .val (.int (1 : Int32)), .unset, .unset]) rfl ?_
  refine own_iloadN (pc2 := 24) at_23 rfl rfl ?_
  refine own_iconst (v := 3) (pc2 := 25) at_24 rfl rfl ?_
  refine own_iand (pc2 := 26) at_25 rfl (v := (2 : Int32)) hkk ?_
  refine own_istore (pc2 := 28) at_26 rfl (L' := #[.val (.int xc), .val (.int xn), .val (.int xp), .val (.int y0), .val (.int y1), .val (.int y2), .val (.ref x), .val (.int (1 : Int32)), .val (.int (2 : Int32)), .unset]) rfl ?_
  refine own_iloadN (pc2 := 29) at_28 rfl rfl ?_
  refine own_iconst (v := 3) (pc2 := 30) at_29 rfl rfl ?_
  refine own_iand (pc2 := 31) at_30 rfl (v := (3 : Int32)) hpp ?_
  refine own_istore (pc2 := 33) at_31 rfl (L' := #[.val (.int xc), .val (.int xn), .val (.int xp), .val (.int y0), .val (.int y1), .val (.int y2), .val (.ref x), .val (.int (1 : Int32)), .val (.int (2 : Int32)), .val (.int (3 : Int32))]) rfl ?_
  refine own_iload (pc2 := 35) at_33 rfl rfl ?_
  refine own_iload (pc2 := 37) at_35 rfl rfl ?_
  refine own_icmpNo (pc2 := 40) at_37 rfl (by decide) ?_
  refine own_iload (pc2 := 42) at_40 rfl rfl ?_
  refine own_istore (pc2 := 44) at_42 rfl (L' := #[.val (.int xc), .val (.int xn), .val (.int xp), .val (.int y0), .val (.int y1), .val (.int y2), .val (.ref x), .val (.int (1 : Int32)), .val (.int (2 : Int32)), .val (.int (2 : Int32))]) rfl ?_
  refine own_iload (pc2 := 46) at_44 rfl rfl ?_
  refine own_ifNo (pc2 := 49) at_46 rfl (by decide) ?_
  refine own_aload (pc2 := 51) at_49 rfl rfl rfl ?_
  refine own_iloadN (pc2 := 52) at_51 rfl rfl ?_
  refine own_iloadN (pc2 := 53) at_52 rfl rfl ?_
  refine own_i2d (pc2 := 54) at_53 rfl (v := v53) hv53 ?_
  exact own_refl
theorem own_s23_3 (xc : Int32) (xn : Int32) (xp : Int32) (y0 : Int32) (y1 : Int32) (y2 : Int32) (x : Addr) (v69 : UInt64) (hv69 : (FP.i2d y1) = v69) :
    own_Go own_K0 code 57 #[.val (.int xc), .val (.int xn), .val (.int xp), .val (.int y0), .val (.int y1), .val (.int y2), .val (.ref x), .val (.int (1 : Int32)), .val (.int (2 : Int32)), .val (.int (2 : Int32))] [] 70 #[.val (.int xc), .val (.int xn), .val (.int xp), .val (.int y0), .val (.int y1), .val (.int y2), .val (.ref x), .val (.int (1 : Int32)), .val (.int (2 : Int32)), .val (.int (2 : Int32))] [(.double v69), (.int y1), (.ref x)] := by
  refine own_iload (pc2 := 59) at_57 rfl rfl ?_
  refine own_iconst (v := 1) (pc2 := 60) at_59 rfl rfl ?_
  refine own_icmpNo (pc2 := 63) at_60 rfl (by decide) ?_
  refine own_aload (pc2 := 65) at_63 rfl rfl rfl ?_
  refine own_iload (pc2 := 67) at_65 rfl rfl ?_
  refine own_iload (pc2 := 69) at_67 rfl rfl ?_
  refine own_i2d (pc2 := 70) at_69 rfl (v := v69) hv69 ?_
  exact own_refl
theorem own_s23_4 (xc : Int32) (xn : Int32) (xp : Int32) (y0 : Int32) (y1 : Int32) (y2 : Int32) (x : Addr) :
    own_Go own_K0 code 73 #[.val (.int xc), .val (.int xn), .val (.int xp), .val (.int y0), .val (.int y1), .val (.int y2), .val (.ref x), .val (.int (1 : Int32)), .val (.int (2 : Int32)), .val (.int (2 : Int32))] [] 96 #[.val (.int xc), .val (.int xn), .val (.int xp), .val (.int y0), .val (.int y1), .val (.int y2), .val (.ref x), .val (.int (1 : Int32)), .val (.int (2 : Int32)), .val (.int (2 : Int32))] [(.ref x)] := by
  refine own_iload (pc2 := 75) at_73 rfl rfl ?_
  refine own_iconst (v := 2) (pc2 := 76) at_75 rfl rfl ?_
  refine own_icmpYes (pc' := 89) at_76 (by decide) (by decide) (by decide) ?_
  refine own_iload (pc2 := 91) at_89 rfl rfl ?_
  refine own_ifNo (pc2 := 94) at_91 rfl (by decide) ?_
  refine own_aload (pc2 := 96) at_94 rfl rfl rfl ?_
  exact own_refl
theorem own_s23_5 (xc : Int32) (xn : Int32) (xp : Int32) (y0 : Int32) (y1 : Int32) (y2 : Int32) (x : Addr) :
    own_Go own_K0 code 99 #[.val (.int xc), .val (.int xn), .val (.int xp), .val (.int y0), .val (.int y1), .val (.int y2), .val (.ref x), .val (.int (1 : Int32)), .val (.int (2 : Int32)), .val (.int (2 : Int32))] [(.int (0 : Int32))] 126 #[.val (.int xc), .val (.int xn), .val (.int xp), .val (.int y0), .val (.int y1), .val (.int y2), .val (.ref x), .val (.int (1 : Int32)), .val (.int (2 : Int32)), .val (.int (2 : Int32))] [(.ref x)] := by
  refine own_iload (pc2 := 101) at_99 rfl rfl ?_
  refine own_ifYes (pc' := 108) at_101 (by decide) (by decide) (by decide) ?_
  refine own_iconst (v := 0) (pc2 := 109) at_108 rfl rfl ?_
  refine own_icmpNo (pc2 := 112) at_109 rfl (by decide) ?_
  refine own_iconst (v := 1) (pc2 := 113) at_112 rfl rfl ?_
  refine own_goto (pc' := 117) at_113 (by decide) (by decide) ?_
  refine own_istore (pc2 := 119) at_117 rfl (L' := #[.val (.int xc), .val (.int xn), .val (.int xp), .val (.int y0), .val (.int y1), .val (.int y2), .val (.ref x), .val (.int (1 : Int32)), .val (.int (2 : Int32)), .val (.int (2 : Int32))]) rfl ?_
  refine own_iload (pc2 := 121) at_119 rfl rfl ?_
  refine own_ifNo (pc2 := 124) at_121 rfl (by decide) ?_
  refine own_aload (pc2 := 126) at_124 rfl rfl rfl ?_
  exact own_refl
theorem own_s23_6 (xc : Int32) (xn : Int32) (xp : Int32) (y0 : Int32) (y1 : Int32) (y2 : Int32) (x : Addr) (rv3 : Int32) :
    own_Go own_K0 code 129 #[.val (.int xc), .val (.int xn), .val (.int xp), .val (.int y0), .val (.int y1), .val (.int y2), .val (.ref x), .val (.int (1 : Int32)), .val (.int (2 : Int32)), .val (.int (2 : Int32))] [(.int rv3)] 138 #[.val (.int xc), .val (.int xn), .val (.int xp), .val (.int y0), .val (.int y1), .val (.int y2), .val (.ref x), .val (.int (1 : Int32)), .val (.int (2 : Int32)), .val (.int (2 : Int32))] [(.ref x)] := by
  refine own_pop (pc2 := 130) at_129 rfl rfl ?_
  refine own_iload (pc2 := 132) at_130 rfl rfl ?_
  refine own_iconst (v := 1) (pc2 := 133) at_132 rfl rfl ?_
  refine own_icmpNo (pc2 := 136) at_133 rfl (by decide) ?_
  refine own_aload (pc2 := 138) at_136 rfl rfl rfl ?_
  exact own_refl
theorem own_s23_7 (xc : Int32) (xn : Int32) (xp : Int32) (y0 : Int32) (y1 : Int32) (y2 : Int32) (x : Addr) (rv4 : Int32) :
    own_Go own_K0 code 141 #[.val (.int xc), .val (.int xn), .val (.int xp), .val (.int y0), .val (.int y1), .val (.int y2), .val (.ref x), .val (.int (1 : Int32)), .val (.int (2 : Int32)), .val (.int (2 : Int32))] [(.int rv4)] 161 #[.val (.int xc), .val (.int xn), .val (.int xp), .val (.int y0), .val (.int y1), .val (.int y2), .val (.ref x), .val (.int (1 : Int32)), .val (.int (2 : Int32)), .val (.int (2 : Int32))] [(.ref x)] := by
  refine own_pop (pc2 := 142) at_141 rfl rfl ?_
  refine own_iload (pc2 := 144) at_142 rfl rfl ?_
  refine own_iconst (v := 2) (pc2 := 145) at_144 rfl rfl ?_
  refine own_icmpYes (pc' := 154) at_145 (by decide) (by decide) (by decide) ?_
  refine own_iload (pc2 := 156) at_154 rfl rfl ?_
  refine own_ifNo (pc2 := 159) at_156 rfl (by decide) ?_
  refine own_aload (pc2 := 161) at_159 rfl rfl rfl ?_
  exact own_refl
theorem own_s23_8 (xc : Int32) (xn : Int32) (xp : Int32) (y0 : Int32) (y1 : Int32) (y2 : Int32) (x : Addr) :
    own_Go own_K0 code 164 #[.val (.int xc), .val (.int xn), .val (.int xp), .val (.int y0), .val (.int y1), .val (.int y2), .val (.ref x), .val (.int (1 : Int32)), .val (.int (2 : Int32)), .val (.int (2 : Int32))] [(.int (1 : Int32))] 188 #[.val (.int xc), .val (.int xn), .val (.int xp), .val (.int y0), .val (.int y1), .val (.int y2), .val (.ref x), .val (.int (1 : Int32)), .val (.int (2 : Int32)), .val (.int (2 : Int32))] [(.int (1 : Int32))] := by
  refine own_iload (pc2 := 166) at_164 rfl rfl ?_
  refine own_iload (pc2 := 168) at_166 rfl rfl ?_
  refine own_icmpNo (pc2 := 171) at_168 rfl (by decide) ?_
  refine own_iconst (v := 1) (pc2 := 172) at_171 rfl rfl ?_
  refine own_goto (pc' := 176) at_172 (by decide) (by decide) ?_
  refine own_icmpNo (pc2 := 179) at_176 rfl (by decide) ?_
  refine own_iconst (v := 1) (pc2 := 180) at_179 rfl rfl ?_
  refine own_goto (pc' := 184) at_180 (by decide) (by decide) ?_
  refine own_istore (pc2 := 186) at_184 rfl (L' := #[.val (.int xc), .val (.int xn), .val (.int xp), .val (.int y0), .val (.int y1), .val (.int y2), .val (.ref x), .val (.int (1 : Int32)), .val (.int (2 : Int32)), .val (.int (2 : Int32))]) rfl ?_
  refine own_iload (pc2 := 188) at_186 rfl rfl ?_
  exact own_refl
set_option maxRecDepth 65536 in
set_option maxHeartbeats 40000000 in
theorem own_law23 (l : Launch) (Z : State) (a0 : Array Value) (hb0 : Heap) (hw : ∀ d ∈ tables_1, d.before a0 Z = true) (xc : Int32) (xn : Int32) (xp : Int32) (y0 : Int32) (y1 : Int32) (y2 : Int32) (hkk : (xn &&& (3 : Int32)) = (2 : Int32)) (hpp : (xp &&& (3 : Int32)) = (3 : Int32)) :
    own_Met l Z a0 hb0 x code maxLocals ret tables_1 room_1 #[(.int xc), (.int xn), (.int xp), (.int y0), (.int y1), (.int y2)] [] (fun v _ => v = some (.int 1)) := by
  refine own_met_of (L0 := #[.val (.int xc), .val (.int xn), .val (.int xp), .val (.int y0), .val (.int y1), .val (.int y2), .unset, .unset, .unset, .unset]) (plainFor_of_name own_pn0) (fun m => own_ef0 m xc xn xp y0 y1 y2) ?_
  intro p e s m below meth c T0 hx hZ hown hby hml hnm H0
  have hown : s.vm.findClass "com/example/recourse/recourse/network/NodeHeapIsEmptyPinLaw" = some m.cls := hown
  have hml : c.maxLocals = 10 := hml
  obtain ⟨Ts23_1, x, Hs23_1, sts23_1⟩ := own_newO H0 hx hZ hown (hw _ (List.mem_of_getElem? (i := 0) rfl)) (hw _ (List.mem_of_getElem? (i := 1) rfl)) (hw _ (List.mem_of_getElem? (i := 2) rfl)) [("com/example/recourse/recourse/network/NodeHeap", "nodes", "[I", .null), ("com/example/recourse/recourse/network/NodeHeap", "distances", "[D", .null), ("com/example/recourse/recourse/network/NodeHeap", "remainders", "[D", .null), ("com/example/recourse/recourse/network/NodeHeap", "size", "I", .int 0)] (by
      intro f hf
      simp only [List.mem_cons, List.not_mem_nil, or_false] at hf
      rcases hf with rfl | rfl | rfl | rfl
      · exact ⟨Or.inl (hw _ (List.mem_of_getElem? (i := 15) rfl)), (.array .int), by decide, rfl⟩
      · exact ⟨Or.inl (hw _ (List.mem_of_getElem? (i := 18) rfl)), (.array .double), by decide, rfl⟩
      · exact ⟨Or.inl (hw _ (List.mem_of_getElem? (i := 20) rfl)), (.array .double), by decide, rfl⟩
      · exact ⟨Or.inl (hw _ (List.mem_of_getElem? (i := 27) rfl)), .int, by decide, rfl⟩) (by decide) (g := (mkF m 0 #[.val (.int xc), .val (.int xn), .val (.int xp), .val (.int y0), .val (.int y1), .val (.int y2), .unset, .unset, .unset, .unset] [])) rfl (hb hby at_0) (by decide) (by decide)
  change own_S _ _ _ _ _ _ _ _ _ _ _ _ _ _ [(x, own_O "com/example/recourse/recourse/network/NodeHeap" [("com/example/recourse/recourse/network/NodeHeap", "nodes", "[I", .null), ("com/example/recourse/recourse/network/NodeHeap", "distances", "[D", .null), ("com/example/recourse/recourse/network/NodeHeap", "remainders", "[D", .null), ("com/example/recourse/recourse/network/NodeHeap", "size", "I", .int 0)])] _ _ at Hs23_1
  obtain ⟨v7, hv7⟩ : ∃ z : Int32, (xc &&& (63 : Int32)) = z := ⟨_, rfl⟩
  obtain ⟨v10, hv10⟩ : ∃ z : Int32, (v7 - (16 : Int32)) = z := ⟨_, rfl⟩
  have hk : v10.toInt ≤ 47 := by
    have h1 := c_mask xc 63 6 (by decide) (by decide)
    have h2 := c_isub v7 16
    have := rng32 v10
    rw [hv7] at h1
    rw [hv10, show (16 : Int32).toInt = 16 from rfl] at h2
    omega
  obtain ⟨Ts23_2, vs23_2_, css23_2_, qs23_2, Hs23_2, sts23_2⟩ := own_callI Hs23_1 hx hZ hown rfl (hw _ (List.mem_of_getElem? (i := 3) rfl)) (hw _ (List.mem_of_getElem? (i := 4) rfl)) (hw _ (List.mem_of_getElem? (i := 2) rfl)) (hw _ (List.mem_of_getElem? (i := 5) rfl)) (by decide) (x := x) (argsL := [(.int v10)]) (rest := [(.ref x)]) (W := 1) (own_init l Z a0 hb0 hw x v10 hk) (by decide) (by decide) (by decide) (by decide) (g := (mkF m 11 #[.val (.int xc), .val (.int xn), .val (.int xp), .val (.int y0), .val (.int y1), .val (.int y2), .unset, .unset, .unset, .unset] [(.int v10), (.ref x), (.ref x)])) rfl (by rw [hml]; rfl) (lenOf own_pd4 rfl) rfl (by show 2 * 0 + _ ≤ _; exact Nat.le_of_eq rfl) (hb hby at_11)
  obtain ⟨an, ad, ar, mm, z, hl, hzz, rfl, rfl⟩ := qs23_2
  change own_S _ _ _ _ _ _ _ _ _ _ _ _ _ _ [(x, own_O "com/example/recourse/recourse/network/NodeHeap" [("com/example/recourse/recourse/network/NodeHeap", "nodes", "[I", .ref an), ("com/example/recourse/recourse/network/NodeHeap", "distances", "[D", .ref ad), ("com/example/recourse/recourse/network/NodeHeap", "remainders", "[D", .ref ar), ("com/example/recourse/recourse/network/NodeHeap", "size", "I", .int 0)]), (an, own_A .int ((.int 0) :: (.int 0) :: (.int 0) :: List.replicate mm (.int 0))), (ad, own_A .double ((.double 0) :: (.double 0) :: (.double 0) :: List.replicate mm (.double 0))), (ar, own_A .double ((.double 0) :: (.double 0) :: (.double 0) :: List.replicate mm (.double 0)))] _ _ at Hs23_2
  obtain ⟨Ts23_3, vs23_3_, css23_3_, qs23_3, Hs23_3, sts23_3⟩ := own_callV Hs23_2 hx hZ hown (hw _ (List.mem_of_getElem? (i := 21) rfl)) (hw _ (List.mem_of_getElem? (i := 22) rfl)) (hw _ (List.mem_of_getElem? (i := 24) rfl)) (hw _ (List.mem_of_getElem? (i := 23) rfl)) (hw _ (List.mem_of_getElem? (i := 2) rfl)) (hw _ (List.mem_of_getElem? (i := 25) rfl)) (by decide) (x := x) 0 rfl (argsL := []) (rest := []) (W := 0) (own_emp0 l Z a0 hb0 hw x an ad ar mm 0 0 0 0 0 0 0 0 0) (by decide) (by decide) (by decide) (by decide) (g := (mkF m 18 #[.val (.int xc), .val (.int xn), .val (.int xp), .val (.int y0), .val (.int y1), .val (.int y2), .val (.ref x), .unset, .unset, .unset] [(.ref x)])) rfl (by rw [hml]; rfl) (lenOf own_pd2 rfl) rfl (by show 2 * 0 + _ ≤ _; exact Nat.le_of_eq rfl) (hb hby at_18)
  obtain ⟨rfl, rfl⟩ := qs23_3
  change own_S _ _ _ _ _ _ _ _ _ _ _ _ _ _ [(x, own_O "com/example/recourse/recourse/network/NodeHeap" [("com/example/recourse/recourse/network/NodeHeap", "nodes", "[I", .ref an), ("com/example/recourse/recourse/network/NodeHeap", "distances", "[D", .ref ad), ("com/example/recourse/recourse/network/NodeHeap", "remainders", "[D", .ref ar), ("com/example/recourse/recourse/network/NodeHeap", "size", "I", .int 0)]), (an, own_A .int ((.int 0) :: (.int 0) :: (.int 0) :: List.replicate mm (.int 0))), (ad, own_A .double ((.double 0) :: (.double 0) :: (.double 0) :: List.replicate mm (.double 0))), (ar, own_A .double ((.double 0) :: (.double 0) :: (.double 0) :: List.replicate mm (.double 0)))] _ _ at Hs23_3
  obtain ⟨v53, hv53⟩ : ∃ z : UInt64, (FP.i2d y0) = z := ⟨_, rfl⟩
  obtain ⟨Ts23_4, vs23_4_, css23_4_, qs23_4, Hs23_4, sts23_4⟩ := own_callV Hs23_3 hx hZ hown (hw _ (List.mem_of_getElem? (i := 28) rfl)) (hw _ (List.mem_of_getElem? (i := 29) rfl)) (hw _ (List.mem_of_getElem? (i := 31) rfl)) (hw _ (List.mem_of_getElem? (i := 30) rfl)) (hw _ (List.mem_of_getElem? (i := 2) rfl)) (hw _ (List.mem_of_getElem? (i := 32) rfl)) (by decide) (x := x) 0 rfl (argsL := [(.int y0), (.double v53)]) (rest := []) (W := 0) (own_adi0 l Z a0 hb0 hw x _ _ an ad ar mm 0 0 0 0 0 0 0 0 0 z hl hzz) (by decide) (by decide) (by decide) (by decide) (g := (mkF m 54 #[.val (.int xc), .val (.int xn), .val (.int xp), .val (.int y0), .val (.int y1), .val (.int y2), .val (.ref x), .val (.int (1 : Int32)), .val (.int (2 : Int32)), .val (.int (2 : Int32))] [(.double v53), (.int y0), (.ref x)])) rfl (by rw [hml]; rfl) (lenOf own_pd5 rfl) rfl (by show 2 * 0 + _ ≤ _; exact Nat.le_of_eq rfl) (hb hby at_54)
  obtain ⟨g1_0, g1_1, g1_2, g1_3, g1_4, g1_5, g1_6, g1_7, g1_8, rfl, rfl⟩ := qs23_4
  change own_S _ _ _ _ _ _ _ _ _ _ _ _ _ _ [(x, own_O "com/example/recourse/recourse/network/NodeHeap" [("com/example/recourse/recourse/network/NodeHeap", "nodes", "[I", .ref an), ("com/example/recourse/recourse/network/NodeHeap", "distances", "[D", .ref ad), ("com/example/recourse/recourse/network/NodeHeap", "remainders", "[D", .ref ar), ("com/example/recourse/recourse/network/NodeHeap", "size", "I", .int 1)]), (an, own_A .int ((.int g1_0) :: (.int g1_1) :: (.int g1_2) :: List.replicate mm (.int 0))), (ad, own_A .double ((.double g1_3) :: (.double g1_4) :: (.double g1_5) :: List.replicate mm (.double 0))), (ar, own_A .double ((.double g1_6) :: (.double g1_7) :: (.double g1_8) :: List.replicate mm (.double 0)))] _ _ at Hs23_4
  obtain ⟨v69, hv69⟩ : ∃ z : UInt64, (FP.i2d y1) = z := ⟨_, rfl⟩
  obtain ⟨Ts23_5, vs23_5_, css23_5_, qs23_5, Hs23_5, sts23_5⟩ := own_callV Hs23_4 hx hZ hown (hw _ (List.mem_of_getElem? (i := 28) rfl)) (hw _ (List.mem_of_getElem? (i := 29) rfl)) (hw _ (List.mem_of_getElem? (i := 31) rfl)) (hw _ (List.mem_of_getElem? (i := 30) rfl)) (hw _ (List.mem_of_getElem? (i := 2) rfl)) (hw _ (List.mem_of_getElem? (i := 32) rfl)) (by decide) (x := x) 0 rfl (argsL := [(.int y1), (.double v69)]) (rest := []) (W := 0) (own_adi1 l Z a0 hb0 hw x _ _ an ad ar mm g1_0 g1_1 g1_2 g1_3 g1_4 g1_5 g1_6 g1_7 g1_8 z hl hzz) (by decide) (by decide) (by decide) (by decide) (g := (mkF m 70 #[.val (.int xc), .val (.int xn), .val (.int xp), .val (.int y0), .val (.int y1), .val (.int y2), .val (.ref x), .val (.int (1 : Int32)), .val (.int (2 : Int32)), .val (.int (2 : Int32))] [(.double v69), (.int y1), (.ref x)])) rfl (by rw [hml]; rfl) (lenOf own_pd5 rfl) rfl (by show 2 * 0 + _ ≤ _; exact Nat.le_of_eq rfl) (hb hby at_70)
  obtain ⟨g2_0, g2_1, g2_2, g2_3, g2_4, g2_5, g2_6, g2_7, g2_8, rfl, rfl⟩ := qs23_5
  change own_S _ _ _ _ _ _ _ _ _ _ _ _ _ _ [(x, own_O "com/example/recourse/recourse/network/NodeHeap" [("com/example/recourse/recourse/network/NodeHeap", "nodes", "[I", .ref an), ("com/example/recourse/recourse/network/NodeHeap", "distances", "[D", .ref ad), ("com/example/recourse/recourse/network/NodeHeap", "remainders", "[D", .ref ar), ("com/example/recourse/recourse/network/NodeHeap", "size", "I", .int 2)]), (an, own_A .int ((.int g2_0) :: (.int g2_1) :: (.int g2_2) :: List.replicate mm (.int 0))), (ad, own_A .double ((.double g2_3) :: (.double g2_4) :: (.double g2_5) :: List.replicate mm (.double 0))), (ar, own_A .double ((.double g2_6) :: (.double g2_7) :: (.double g2_8) :: List.replicate mm (.double 0)))] _ _ at Hs23_5
  obtain ⟨Ts23_6, vs23_6_, css23_6_, qs23_6, Hs23_6, sts23_6⟩ := own_callV Hs23_5 hx hZ hown (hw _ (List.mem_of_getElem? (i := 21) rfl)) (hw _ (List.mem_of_getElem? (i := 22) rfl)) (hw _ (List.mem_of_getElem? (i := 24) rfl)) (hw _ (List.mem_of_getElem? (i := 23) rfl)) (hw _ (List.mem_of_getElem? (i := 2) rfl)) (hw _ (List.mem_of_getElem? (i := 25) rfl)) (by decide) (x := x) 0 rfl (argsL := []) (rest := []) (W := 0) (own_emp2 l Z a0 hb0 hw x an ad ar mm g2_0 g2_1 g2_2 g2_3 g2_4 g2_5 g2_6 g2_7 g2_8) (by decide) (by decide) (by decide) (by decide) (g := (mkF m 96 #[.val (.int xc), .val (.int xn), .val (.int xp), .val (.int y0), .val (.int y1), .val (.int y2), .val (.ref x), .val (.int (1 : Int32)), .val (.int (2 : Int32)), .val (.int (2 : Int32))] [(.ref x)])) rfl (by rw [hml]; rfl) (lenOf own_pd2 rfl) rfl (by show 2 * 0 + _ ≤ _; exact Nat.le_of_eq rfl) (hb hby at_96)
  obtain ⟨rfl, rfl⟩ := qs23_6
  change own_S _ _ _ _ _ _ _ _ _ _ _ _ _ _ [(x, own_O "com/example/recourse/recourse/network/NodeHeap" [("com/example/recourse/recourse/network/NodeHeap", "nodes", "[I", .ref an), ("com/example/recourse/recourse/network/NodeHeap", "distances", "[D", .ref ad), ("com/example/recourse/recourse/network/NodeHeap", "remainders", "[D", .ref ar), ("com/example/recourse/recourse/network/NodeHeap", "size", "I", .int 2)]), (an, own_A .int ((.int g2_0) :: (.int g2_1) :: (.int g2_2) :: List.replicate mm (.int 0))), (ad, own_A .double ((.double g2_3) :: (.double g2_4) :: (.double g2_5) :: List.replicate mm (.double 0))), (ar, own_A .double ((.double g2_6) :: (.double g2_7) :: (.double g2_8) :: List.replicate mm (.double 0)))] _ _ at Hs23_6
  obtain ⟨Ts23_7, vs23_7_, css23_7_, qs23_7, Hs23_7, sts23_7⟩ := own_callV Hs23_6 hx hZ hown (hw _ (List.mem_of_getElem? (i := 46) rfl)) (hw _ (List.mem_of_getElem? (i := 47) rfl)) (hw _ (List.mem_of_getElem? (i := 49) rfl)) (hw _ (List.mem_of_getElem? (i := 48) rfl)) (hw _ (List.mem_of_getElem? (i := 2) rfl)) (hw _ (List.mem_of_getElem? (i := 50) rfl)) (by decide) (x := x) 0 rfl (argsL := []) (rest := []) (W := 0) (own_poll2 l Z a0 hb0 hw x an ad ar mm g2_0 g2_1 g2_2 g2_3 g2_4 g2_5 g2_6 g2_7 g2_8) (by decide) (by decide) (by decide) (by decide) (g := (mkF m 126 #[.val (.int xc), .val (.int xn), .val (.int xp), .val (.int y0), .val (.int y1), .val (.int y2), .val (.ref x), .val (.int (1 : Int32)), .val (.int (2 : Int32)), .val (.int (2 : Int32))] [(.ref x)])) rfl (by rw [hml]; rfl) (lenOf own_pd0 rfl) rfl (by show 2 * 0 + _ ≤ _; exact Nat.le_of_eq rfl) (hb hby at_126)
  obtain ⟨g3_0, g3_1, g3_2, g3_3, g3_4, g3_5, g3_6, g3_7, g3_8, rv3, rfl, rfl⟩ := qs23_7
  change own_S _ _ _ _ _ _ _ _ _ _ _ _ _ _ [(x, own_O "com/example/recourse/recourse/network/NodeHeap" [("com/example/recourse/recourse/network/NodeHeap", "nodes", "[I", .ref an), ("com/example/recourse/recourse/network/NodeHeap", "distances", "[D", .ref ad), ("com/example/recourse/recourse/network/NodeHeap", "remainders", "[D", .ref ar), ("com/example/recourse/recourse/network/NodeHeap", "size", "I", .int 1)]), (an, own_A .int ((.int g3_0) :: (.int g3_1) :: (.int g3_2) :: List.replicate mm (.int 0))), (ad, own_A .double ((.double g3_3) :: (.double g3_4) :: (.double g3_5) :: List.replicate mm (.double 0))), (ar, own_A .double ((.double g3_6) :: (.double g3_7) :: (.double g3_8) :: List.replicate mm (.double 0)))] _ _ at Hs23_7
  obtain ⟨Ts23_8, vs23_8_, css23_8_, qs23_8, Hs23_8, sts23_8⟩ := own_callV Hs23_7 hx hZ hown (hw _ (List.mem_of_getElem? (i := 46) rfl)) (hw _ (List.mem_of_getElem? (i := 47) rfl)) (hw _ (List.mem_of_getElem? (i := 49) rfl)) (hw _ (List.mem_of_getElem? (i := 48) rfl)) (hw _ (List.mem_of_getElem? (i := 2) rfl)) (hw _ (List.mem_of_getElem? (i := 50) rfl)) (by decide) (x := x) 0 rfl (argsL := []) (rest := []) (W := 0) (own_poll1 l Z a0 hb0 hw x an ad ar mm g3_0 g3_1 g3_2 g3_3 g3_4 g3_5 g3_6 g3_7 g3_8) (by decide) (by decide) (by decide) (by decide) (g := (mkF m 138 #[.val (.int xc), .val (.int xn), .val (.int xp), .val (.int y0), .val (.int y1), .val (.int y2), .val (.ref x), .val (.int (1 : Int32)), .val (.int (2 : Int32)), .val (.int (2 : Int32))] [(.ref x)])) rfl (by rw [hml]; rfl) (lenOf own_pd0 rfl) rfl (by show 2 * 0 + _ ≤ _; exact Nat.le_of_eq rfl) (hb hby at_138)
  obtain ⟨g4_0, g4_1, g4_2, g4_3, g4_4, g4_5, g4_6, g4_7, g4_8, rv4, rfl, rfl⟩ := qs23_8
  change own_S _ _ _ _ _ _ _ _ _ _ _ _ _ _ [(x, own_O "com/example/recourse/recourse/network/NodeHeap" [("com/example/recourse/recourse/network/NodeHeap", "nodes", "[I", .ref an), ("com/example/recourse/recourse/network/NodeHeap", "distances", "[D", .ref ad), ("com/example/recourse/recourse/network/NodeHeap", "remainders", "[D", .ref ar), ("com/example/recourse/recourse/network/NodeHeap", "size", "I", .int 0)]), (an, own_A .int ((.int g4_0) :: (.int g4_1) :: (.int g4_2) :: List.replicate mm (.int 0))), (ad, own_A .double ((.double g4_3) :: (.double g4_4) :: (.double g4_5) :: List.replicate mm (.double 0))), (ar, own_A .double ((.double g4_6) :: (.double g4_7) :: (.double g4_8) :: List.replicate mm (.double 0)))] _ _ at Hs23_8
  obtain ⟨Ts23_9, vs23_9_, css23_9_, qs23_9, Hs23_9, sts23_9⟩ := own_callV Hs23_8 hx hZ hown (hw _ (List.mem_of_getElem? (i := 21) rfl)) (hw _ (List.mem_of_getElem? (i := 22) rfl)) (hw _ (List.mem_of_getElem? (i := 24) rfl)) (hw _ (List.mem_of_getElem? (i := 23) rfl)) (hw _ (List.mem_of_getElem? (i := 2) rfl)) (hw _ (List.mem_of_getElem? (i := 25) rfl)) (by decide) (x := x) 0 rfl (argsL := []) (rest := []) (W := 0) (own_emp0 l Z a0 hb0 hw x an ad ar mm g4_0 g4_1 g4_2 g4_3 g4_4 g4_5 g4_6 g4_7 g4_8) (by decide) (by decide) (by decide) (by decide) (g := (mkF m 161 #[.val (.int xc), .val (.int xn), .val (.int xp), .val (.int y0), .val (.int y1), .val (.int y2), .val (.ref x), .val (.int (1 : Int32)), .val (.int (2 : Int32)), .val (.int (2 : Int32))] [(.ref x)])) rfl (by rw [hml]; rfl) (lenOf own_pd2 rfl) rfl (by show 2 * 0 + _ ≤ _; exact Nat.le_of_eq rfl) (hb hby at_161)
  obtain ⟨rfl, rfl⟩ := qs23_9
  change own_S _ _ _ _ _ _ _ _ _ _ _ _ _ _ [(x, own_O "com/example/recourse/recourse/network/NodeHeap" [("com/example/recourse/recourse/network/NodeHeap", "nodes", "[I", .ref an), ("com/example/recourse/recourse/network/NodeHeap", "distances", "[D", .ref ad), ("com/example/recourse/recourse/network/NodeHeap", "remainders", "[D", .ref ar), ("com/example/recourse/recourse/network/NodeHeap", "size", "I", .int 0)]), (an, own_A .int ((.int g4_0) :: (.int g4_1) :: (.int g4_2) :: List.replicate mm (.int 0))), (ad, own_A .double ((.double g4_3) :: (.double g4_4) :: (.double g4_5) :: List.replicate mm (.double 0))), (ar, own_A .double ((.double g4_6) :: (.double g4_7) :: (.double g4_8) :: List.replicate mm (.double 0)))] _ _ at Hs23_9
  refine ⟨_, _, _, _, 188, #[.val (.int xc), .val (.int xn), .val (.int xp), .val (.int y0), .val (.int y1), .val (.int y2), .val (.ref x), .val (.int (1 : Int32)), .val (.int (2 : Int32)), .val (.int (2 : Int32))], Hs23_9, by decide, by decide, Or.inr ⟨.boolean, (.int (1 : Int32)), [], .ireturn, rfl, rfl, at_188, own_retZ (Or.inr rfl), fun target q => ?_⟩⟩
  refine sts23_1 _ ?_
  refine own_go Hs23_1 hx hZ hown hby hw own_K0_ok (own_s23_0 xc xn xp y0 y1 y2 x v7 hv7 v10 hv10) _ ?_
  refine sts23_2 _ ?_
  refine own_go Hs23_2 hx hZ hown hby hw own_K0_ok (own_s23_1 xc xn xp y0 y1 y2 x) _ ?_
  refine sts23_3 _ ?_
  refine own_go Hs23_3 hx hZ hown hby hw own_K0_ok (own_s23_2 xc xn xp y0 y1 y2 x hkk hpp v53 hv53) _ ?_
  refine sts23_4 _ ?_
  refine own_go Hs23_4 hx hZ hown hby hw own_K0_ok (own_s23_3 xc xn xp y0 y1 y2 x v69 hv69) _ ?_
  refine sts23_5 _ ?_
  refine own_go Hs23_5 hx hZ hown hby hw own_K0_ok (own_s23_4 xc xn xp y0 y1 y2 x) _ ?_
  refine sts23_6 _ ?_
  refine own_go Hs23_6 hx hZ hown hby hw own_K0_ok (own_s23_5 xc xn xp y0 y1 y2 x) _ ?_
  refine sts23_7 _ ?_
  refine own_go Hs23_7 hx hZ hown hby hw own_K0_ok (own_s23_6 xc xn xp y0 y1 y2 x rv3) _ ?_
  refine sts23_8 _ ?_
  refine own_go Hs23_8 hx hZ hown hby hw own_K0_ok (own_s23_7 xc xn xp y0 y1 y2 x rv4) _ ?_
  refine sts23_9 _ ?_
  refine own_go Hs23_9 hx hZ hown hby hw own_K0_ok (own_s23_8 xc xn xp y0 y1 y2 x) _ ?_
  exact q
theorem own_s30_0 (xc : Int32) (xn : Int32) (xp : Int32) (y0 : Int32) (y1 : Int32) (y2 : Int32) (x : Addr) (v7 : Int32) (hv7 : (xc &&& (63 : Int32)) = v7) (v10 : Int32) (hv10 : (v7 - (16 : Int32)) = v10) :
    own_Go own_K0 code 3 #[.val (.int xc), .val (.int xn), .val (.int xp), .val (.int y0), .val (.int y1), .val (.int y2), .unset, .unset, .unset, .unset] [(.ref x)] 11 #[.val (.int xc), .val (.int xn), .val (.int xp), .val (.int y0), .val (.int y1), .val (.int y2), .unset, .unset, .unset, .unset] [(.int v10), (.ref x), (.ref x)] := by
  refine own_dup (pc2 := 4) at_3 rfl rfl ?_
  refine own_iloadN (pc2 := 5) at_4 rfl rfl ?_
  refine own_bipush (v := 63) (pc2 := 7) at_5 rfl rfl ?_
  refine own_iand (pc2 := 8) at_7 rfl (v := v7) hv7 ?_
  refine own_bipush (v := 16) (pc2 := 10) at_8 rfl rfl ?_
  refine own_isub (pc2 := 11) at_10 rfl (v := v10) hv10 ?_
  exact own_refl
theorem own_s30_1 (xc : Int32) (xn : Int32) (xp : Int32) (y0 : Int32) (y1 : Int32) (y2 : Int32) (x : Addr) :
    own_Go own_K0 code 14 #[.val (.int xc), .val (.int xn), .val (.int xp), .val (.int y0), .val (.int y1), .val (.int y2), .unset, .unset, .unset, .unset] [(.ref x)] 18 #[.val (.int xc), .val (.int xn), .val (.int xp), .val (.int y0), .val (.int y1), .val (.int y2), .val (.ref x), .unset, .unset, .unset] [(.ref x)] := by
  refine own_astore (pc2 := 16) at_14 rfl rfl (L' := #[.val (.int xc), .val (.int xn), .val (.int xp), .val (.int y0), .val (.int y1), .val (.int y2), .val (.ref x), .unset, .unset, .unset]) rfl ?_
  refine own_aload (pc2 := 18) at_16 rfl rfl rfl ?_
  exact own_refl
theorem own_s30_2 (xc : Int32) (xn : Int32) (xp : Int32) (y0 : Int32) (y1 : Int32) (y2 : Int32) (x : Addr) (hkk : (xn &&& (3 : Int32)) = (3 : Int32)) (hpp : (xp &&& (3 : Int32)) = (0 : Int32)) (v53 : UInt64) (hv53 : (FP.i2d y0) = v53) :
    own_Go own_K0 code 21 #[.val (.int xc), .val (.int xn), .val (.int xp), .val (.int y0), .val (.int y1), .val (.int y2), .val (.ref x), .unset, .unset, .unset] [(.int (1 : Int32))] 54 #[.val (.int xc), .val (.int xn), .val (.int xp), .val (.int y0), .val (.int y1), .val (.int y2), .val (.ref x), .val (.int (1 : Int32)), .val (.int (3 : Int32)), .val (.int (0 : Int32))] [(.double v53), (.int y0), (.ref x)] := by
  refine own_istore (pc2 := 23) at_21 rfl (L' := #[.val (.int xc), .val (.int xn), .val (.int xp), .val (.int y0), .val (.int y1), .val (.int y2), .val (.ref x), .val (.int (1 : Int32)), .unset, .unset]) rfl ?_
  refine own_iloadN (pc2 := 24) at_23 rfl rfl ?_
  refine own_iconst (v := 3) (pc2 := 25) at_24 rfl rfl ?_
  refine own_iand (pc2 := 26) at_25 rfl (v := (3 : Int32)) hkk ?_
  refine own_istore (pc2 := 28) at_26 rfl (L' := #[.val (.int xc), .val (.int xn), .val (.int xp), .val (.int y0), .val (.int y1), .val (.int y2), .val (.ref x), .val (.int (1 : Int32)), .val (.int (3 : Int32)), .unset]) rfl ?_
  refine own_iloadN (pc2 := 29) at_28 rfl rfl ?_
  refine own_iconst (v := 3) (pc2 := 30) at_29 rfl rfl ?_
  refine own_iand (pc2 := 31) at_30 rfl (v := (0 : Int32)) hpp ?_
  refine own_istore (pc2 := 33) at_31 rfl (L' := #[.val (.int xc), .val (.int xn), .val (.int xp), .val (.int y0), .val (.int y1), .val (.int y2), .val (.ref x), .val (.int (1 : Int32)), .val (.int (3 : Int32)), .val (.int (0 : Int32))]) rfl ?_
  refine own_iload (pc2 := 35) at_33 rfl rfl ?_
  refine own_iload (pc2 := 37) at_35 rfl rfl ?_
  refine own_icmpYes (pc' := 44) at_37 (by decide) (by decide) (by decide) ?_
  refine own_iload (pc2 := 46) at_44 rfl rfl ?_
  refine own_ifNo (pc2 := 49) at_46 rfl (by decide) ?_
  refine own_aload (pc2 := 51) at_49 rfl rfl rfl ?_
  refine own_iloadN (pc2 := 52) at_51 rfl rfl ?_
  refine own_iloadN (pc2 := 53) at_52 rfl rfl ?_
  refine own_i2d (pc2 := 54) at_53 rfl (v := v53) hv53 ?_
  exact own_refl
theorem own_s30_3 (xc : Int32) (xn : Int32) (xp : Int32) (y0 : Int32) (y1 : Int32) (y2 : Int32) (x : Addr) (v69 : UInt64) (hv69 : (FP.i2d y1) = v69) :
    own_Go own_K0 code 57 #[.val (.int xc), .val (.int xn), .val (.int xp), .val (.int y0), .val (.int y1), .val (.int y2), .val (.ref x), .val (.int (1 : Int32)), .val (.int (3 : Int32)), .val (.int (0 : Int32))] [] 70 #[.val (.int xc), .val (.int xn), .val (.int xp), .val (.int y0), .val (.int y1), .val (.int y2), .val (.ref x), .val (.int (1 : Int32)), .val (.int (3 : Int32)), .val (.int (0 : Int32))] [(.double v69), (.int y1), (.ref x)] := by
  refine own_iload (pc2 := 59) at_57 rfl rfl ?_
  refine own_iconst (v := 1) (pc2 := 60) at_59 rfl rfl ?_
  refine own_icmpNo (pc2 := 63) at_60 rfl (by decide) ?_
  refine own_aload (pc2 := 65) at_63 rfl rfl rfl ?_
  refine own_iload (pc2 := 67) at_65 rfl rfl ?_
  refine own_iload (pc2 := 69) at_67 rfl rfl ?_
  refine own_i2d (pc2 := 70) at_69 rfl (v := v69) hv69 ?_
  exact own_refl
theorem own_s30_4 (xc : Int32) (xn : Int32) (xp : Int32) (y0 : Int32) (y1 : Int32) (y2 : Int32) (x : Addr) (v85 : UInt64) (hv85 : (FP.i2d y2) = v85) :
    own_Go own_K0 code 73 #[.val (.int xc), .val (.int xn), .val (.int xp), .val (.int y0), .val (.int y1), .val (.int y2), .val (.ref x), .val (.int (1 : Int32)), .val (.int (3 : Int32)), .val (.int (0 : Int32))] [] 86 #[.val (.int xc), .val (.int xn), .val (.int xp), .val (.int y0), .val (.int y1), .val (.int y2), .val (.ref x), .val (.int (1 : Int32)), .val (.int (3 : Int32)), .val (.int (0 : Int32))] [(.double v85), (.int y2), (.ref x)] := by
  refine own_iload (pc2 := 75) at_73 rfl rfl ?_
  refine own_iconst (v := 2) (pc2 := 76) at_75 rfl rfl ?_
  refine own_icmpNo (pc2 := 79) at_76 rfl (by decide) ?_
  refine own_aload (pc2 := 81) at_79 rfl rfl rfl ?_
  refine own_iload (pc2 := 83) at_81 rfl rfl ?_
  refine own_iload (pc2 := 85) at_83 rfl rfl ?_
  refine own_i2d (pc2 := 86) at_85 rfl (v := v85) hv85 ?_
  exact own_refl
theorem own_s30_5 (xc : Int32) (xn : Int32) (xp : Int32) (y0 : Int32) (y1 : Int32) (y2 : Int32) (x : Addr) :
    own_Go own_K0 code 89 #[.val (.int xc), .val (.int xn), .val (.int xp), .val (.int y0), .val (.int y1), .val (.int y2), .val (.ref x), .val (.int (1 : Int32)), .val (.int (3 : Int32)), .val (.int (0 : Int32))] [] 96 #[.val (.int xc), .val (.int xn), .val (.int xp), .val (.int y0), .val (.int y1), .val (.int y2), .val (.ref x), .val (.int (1 : Int32)), .val (.int (3 : Int32)), .val (.int (0 : Int32))] [(.ref x)] := by
  refine own_iload (pc2 := 91) at_89 rfl rfl ?_
  refine own_ifNo (pc2 := 94) at_91 rfl (by decide) ?_
  refine own_aload (pc2 := 96) at_94 rfl rfl rfl ?_
  exact own_refl
theorem own_s30_6 (xc : Int32) (xn : Int32) (xp : Int32) (y0 : Int32) (y1 : Int32) (y2 : Int32) (x : Addr) :
    own_Go own_K0 code 99 #[.val (.int xc), .val (.int xn), .val (.int xp), .val (.int y0), .val (.int y1), .val (.int y2), .val (.ref x), .val (.int (1 : Int32)), .val (.int (3 : Int32)), .val (.int (0 : Int32))] [(.int (0 : Int32))] 161 #[.val (.int xc), .val (.int xn), .val (.int xp), .val (.int y0), .val (.int y1), .val (.int y2), .val (.ref x), .val (.int (1 : Int32)), .val (.int (3 : Int32)), .val (.int (0 : Int32))] [(.ref x)] := by
  refine own_iload (pc2 := 101) at_99 rfl rfl ?_
  refine own_ifYes (pc' := 108) at_101 (by decide) (by decide) (by decide) ?_
  refine own_iconst (v := 0) (pc2 := 109) at_108 rfl rfl ?_
  refine own_icmpNo (pc2 := 112) at_109 rfl (by decide) ?_
  refine own_iconst (v := 1) (pc2 := 113) at_112 rfl rfl ?_
  refine own_goto (pc' := 117) at_113 (by decide) (by decide) ?_
  refine own_istore (pc2 := 119) at_117 rfl (L' := #[.val (.int xc), .val (.int xn), .val (.int xp), .val (.int y0), .val (.int y1), .val (.int y2), .val (.ref x), .val (.int (1 : Int32)), .val (.int (3 : Int32)), .val (.int (0 : Int32))]) rfl ?_
  refine own_iload (pc2 := 121) at_119 rfl rfl ?_
  refine own_ifYes (pc' := 130) at_121 (by decide) (by decide) (by decide) ?_
  refine own_iload (pc2 := 132) at_130 rfl rfl ?_
  refine own_iconst (v := 1) (pc2 := 133) at_132 rfl rfl ?_
  refine own_icmpYes (pc' := 142) at_133 (by decide) (by decide) (by decide) ?_
  refine own_iload (pc2 := 144) at_142 rfl rfl ?_
  refine own_iconst (v := 2) (pc2 := 145) at_144 rfl rfl ?_
  refine own_icmpYes (pc' := 154) at_145 (by decide) (by decide) (by decide) ?_
  refine own_iload (pc2 := 156) at_154 rfl rfl ?_
  refine own_ifNo (pc2 := 159) at_156 rfl (by decide) ?_
  refine own_aload (pc2 := 161) at_159 rfl rfl rfl ?_
  exact own_refl
theorem own_s30_7 (xc : Int32) (xn : Int32) (xp : Int32) (y0 : Int32) (y1 : Int32) (y2 : Int32) (x : Addr) :
    own_Go own_K0 code 164 #[.val (.int xc), .val (.int xn), .val (.int xp), .val (.int y0), .val (.int y1), .val (.int y2), .val (.ref x), .val (.int (1 : Int32)), .val (.int (3 : Int32)), .val (.int (0 : Int32))] [(.int (0 : Int32))] 188 #[.val (.int xc), .val (.int xn), .val (.int xp), .val (.int y0), .val (.int y1), .val (.int y2), .val (.ref x), .val (.int (1 : Int32)), .val (.int (3 : Int32)), .val (.int (0 : Int32))] [(.int (1 : Int32))] := by
  refine own_iload (pc2 := 166) at_164 rfl rfl ?_
  refine own_iload (pc2 := 168) at_166 rfl rfl ?_
  refine own_icmpYes (pc' := 175) at_168 (by decide) (by decide) (by decide) ?_
  refine own_iconst (v := 0) (pc2 := 176) at_175 rfl rfl ?_
  refine own_icmpNo (pc2 := 179) at_176 rfl (by decide) ?_
  refine own_iconst (v := 1) (pc2 := 180) at_179 rfl rfl ?_
  refine own_goto (pc' := 184) at_180 (by decide) (by decide) ?_
  refine own_istore (pc2 := 186) at_184 rfl (L' := #[.val (.int xc), .val (.int xn), .val (.int xp), .val (.int y0), .val (.int y1), .val (.int y2), .val (.ref x), .val (.int (1 : Int32)), .val (.int (3 : Int32)), .val (.int (0 : Int32))]) rfl ?_
  refine own_iload (pc2 := 188) at_186 rfl rfl ?_
  exact own_refl
set_option maxRecDepth 65536 in
set_option maxHeartbeats 40000000 in
theorem own_law30 (l : Launch) (Z : State) (a0 : Array Value) (hb0 : Heap) (hw : ∀ d ∈ tables_1, d.before a0 Z = true) (xc : Int32) (xn : Int32) (xp : Int32) (y0 : Int32) (y1 : Int32) (y2 : Int32) (hkk : (xn &&& (3 : Int32)) = (3 : Int32)) (hpp : (xp &&& (3 : Int32)) = (0 : Int32)) :
    own_Met l Z a0 hb0 x code maxLocals ret tables_1 room_1 #[(.int xc), (.int xn), (.int xp), (.int y0), (.int y1), (.int y2)] [] (fun v _ => v = some (.int 1)) := by
  refine own_met_of (L0 := #[.val (.int xc), .val (.int xn), .val (.int xp), .val (.int y0), .val (.int y1), .val (.int y2), .unset, .unset, .unset, .unset]) (plainFor_of_name own_pn0) (fun m => own_ef0 m xc xn xp y0 y1 y2) ?_
  intro p e s m below meth c T0 hx hZ hown hby hml hnm H0
  have hown : s.vm.findClass "com/example/recourse/recourse/network/NodeHeapIsEmptyPinLaw" = some m.cls := hown
  have hml : c.maxLocals = 10 := hml
  obtain ⟨Ts30_1, x, Hs30_1, sts30_1⟩ := own_newO H0 hx hZ hown (hw _ (List.mem_of_getElem? (i := 0) rfl)) (hw _ (List.mem_of_getElem? (i := 1) rfl)) (hw _ (List.mem_of_getElem? (i := 2) rfl)) [("com/example/recourse/recourse/network/NodeHeap", "nodes", "[I", .null), ("com/example/recourse/recourse/network/NodeHeap", "distances", "[D", .null), ("com/example/recourse/recourse/network/NodeHeap", "remainders", "[D", .null), ("com/example/recourse/recourse/network/NodeHeap", "size", "I", .int 0)] (by
      intro f hf
      simp only [List.mem_cons, List.not_mem_nil, or_false] at hf
      rcases hf with rfl | rfl | rfl | rfl
      · exact ⟨Or.inl (hw _ (List.mem_of_getElem? (i := 15) rfl)), (.array .int), by decide, rfl⟩
      · exact ⟨Or.inl (hw _ (List.mem_of_getElem? (i := 18) rfl)), (.array .double), by decide, rfl⟩
      · exact ⟨Or.inl (hw _ (List.mem_of_getElem? (i := 20) rfl)), (.array .double), by decide, rfl⟩
      · exact ⟨Or.inl (hw _ (List.mem_of_getElem? (i := 27) rfl)), .int, by decide, rfl⟩) (by decide) (g := (mkF m 0 #[.val (.int xc), .val (.int xn), .val (.int xp), .val (.int y0), .val (.int y1), .val (.int y2), .unset, .unset, .unset, .unset] [])) rfl (hb hby at_0) (by decide) (by decide)
  change own_S _ _ _ _ _ _ _ _ _ _ _ _ _ _ [(x, own_O "com/example/recourse/recourse/network/NodeHeap" [("com/example/recourse/recourse/network/NodeHeap", "nodes", "[I", .null), ("com/example/recourse/recourse/network/NodeHeap", "distances", "[D", .null), ("com/example/recourse/recourse/network/NodeHeap", "remainders", "[D", .null), ("com/example/recourse/recourse/network/NodeHeap", "size", "I", .int 0)])] _ _ at Hs30_1
  obtain ⟨v7, hv7⟩ : ∃ z : Int32, (xc &&& (63 : Int32)) = z := ⟨_, rfl⟩
  obtain ⟨v10, hv10⟩ : ∃ z : Int32, (v7 - (16 : Int32)) = z := ⟨_, rfl⟩
  have hk : v10.toInt ≤ 47 := by
    have h1 := c_mask xc 63 6 (by decide) (by decide)
    have h2 := c_isub v7 16
    have := rng32 v10
    rw [hv7] at h1
    rw [hv10, show (16 : Int32).toInt = 16 from rfl] at h2
    omega
  obtain ⟨Ts30_2, vs30_2_, css30_2_, qs30_2, Hs30_2, sts30_2⟩ := own_callI Hs30_1 hx hZ hown rfl (hw _ (List.mem_of_getElem? (i := 3) rfl)) (hw _ (List.mem_of_getElem? (i := 4) rfl)) (hw _ (List.mem_of_getElem? (i := 2) rfl)) (hw _ (List.mem_of_getElem? (i := 5) rfl)) (by decide) (x := x) (argsL := [(.int v10)]) (rest := [(.ref x)]) (W := 1) (own_init l Z a0 hb0 hw x v10 hk) (by decide) (by decide) (by decide) (by decide) (g := (mkF m 11 #[.val (.int xc), .val (.int xn), .val (.int xp), .val (.int y0), .val (.int y1), .val (.int y2), .unset, .unset, .unset, .unset] [(.int v10), (.ref x), (.ref x)])) rfl (by rw [hml]; rfl) (lenOf own_pd4 rfl) rfl (by show 2 * 0 + _ ≤ _; exact Nat.le_of_eq rfl) (hb hby at_11)
  obtain ⟨an, ad, ar, mm, z, hl, hzz, rfl, rfl⟩ := qs30_2
  change own_S _ _ _ _ _ _ _ _ _ _ _ _ _ _ [(x, own_O "com/example/recourse/recourse/network/NodeHeap" [("com/example/recourse/recourse/network/NodeHeap", "nodes", "[I", .ref an), ("com/example/recourse/recourse/network/NodeHeap", "distances", "[D", .ref ad), ("com/example/recourse/recourse/network/NodeHeap", "remainders", "[D", .ref ar), ("com/example/recourse/recourse/network/NodeHeap", "size", "I", .int 0)]), (an, own_A .int ((.int 0) :: (.int 0) :: (.int 0) :: List.replicate mm (.int 0))), (ad, own_A .double ((.double 0) :: (.double 0) :: (.double 0) :: List.replicate mm (.double 0))), (ar, own_A .double ((.double 0) :: (.double 0) :: (.double 0) :: List.replicate mm (.double 0)))] _ _ at Hs30_2
  obtain ⟨Ts30_3, vs30_3_, css30_3_, qs30_3, Hs30_3, sts30_3⟩ := own_callV Hs30_2 hx hZ hown (hw _ (List.mem_of_getElem? (i := 21) rfl)) (hw _ (List.mem_of_getElem? (i := 22) rfl)) (hw _ (List.mem_of_getElem? (i := 24) rfl)) (hw _ (List.mem_of_getElem? (i := 23) rfl)) (hw _ (List.mem_of_getElem? (i := 2) rfl)) (hw _ (List.mem_of_getElem? (i := 25) rfl)) (by decide) (x := x) 0 rfl (argsL := []) (rest := []) (W := 0) (own_emp0 l Z a0 hb0 hw x an ad ar mm 0 0 0 0 0 0 0 0 0) (by decide) (by decide) (by decide) (by decide) (g := (mkF m 18 #[.val (.int xc), .val (.int xn), .val (.int xp), .val (.int y0), .val (.int y1), .val (.int y2), .val (.ref x), .unset, .unset, .unset] [(.ref x)])) rfl (by rw [hml]; rfl) (lenOf own_pd2 rfl) rfl (by show 2 * 0 + _ ≤ _; exact Nat.le_of_eq rfl) (hb hby at_18)
  obtain ⟨rfl, rfl⟩ := qs30_3
  change own_S _ _ _ _ _ _ _ _ _ _ _ _ _ _ [(x, own_O "com/example/recourse/recourse/network/NodeHeap" [("com/example/recourse/recourse/network/NodeHeap", "nodes", "[I", .ref an), ("com/example/recourse/recourse/network/NodeHeap", "distances", "[D", .ref ad), ("com/example/recourse/recourse/network/NodeHeap", "remainders", "[D", .ref ar), ("com/example/recourse/recourse/network/NodeHeap", "size", "I", .int 0)]), (an, own_A .int ((.int 0) :: (.int 0) :: (.int 0) :: List.replicate mm (.int 0))), (ad, own_A .double ((.double 0) :: (.double 0) :: (.double 0) :: List.replicate mm (.double 0))), (ar, own_A .double ((.double 0) :: (.double 0) :: (.double 0) :: List.replicate mm (.double 0)))] _ _ at Hs30_3
  obtain ⟨v53, hv53⟩ : ∃ z : UInt64, (FP.i2d y0) = z := ⟨_, rfl⟩
  obtain ⟨Ts30_4, vs30_4_, css30_4_, qs30_4, Hs30_4, sts30_4⟩ := own_callV Hs30_3 hx hZ hown (hw _ (List.mem_of_getElem? (i := 28) rfl)) (hw _ (List.mem_of_getElem? (i := 29) rfl)) (hw _ (List.mem_of_getElem? (i := 31) rfl)) (hw _ (List.mem_of_getElem? (i := 30) rfl)) (hw _ (List.mem_of_getElem? (i := 2) rfl)) (hw _ (List.mem_of_getElem? (i := 32) rfl)) (by decide) (x := x) 0 rfl (argsL := [(.int y0), (.double v53)]) (rest := []) (W := 0) (own_adi0 l Z a0 hb0 hw x _ _ an ad ar mm 0 0 0 0 0 0 0 0 0 z hl hzz) (by decide) (by decide) (by decide) (by decide) (g := (mkF m 54 #[.val (.int xc), .val (.int xn), .val (.int xp), .val (.int y0), .val (.int y1), .val (.int y2), .val (.ref x), .val (.int (1 : Int32)), .val (.int (3 : Int32)), .val (.int (0 : Int32))] [(.double v53), (.int y0), (.ref x)])) rfl (by rw [hml]; rfl) (lenOf own_pd5 rfl) rfl (by show 2 * 0 + _ ≤ _; exact Nat.le_of_eq rfl) (hb hby at_54)
  obtain ⟨g1_0, g1_1, g1_2, g1_3, g1_4, g1_5, g1_6, g1_7, g1_8, rfl, rfl⟩ := qs30_4
  change own_S _ _ _ _ _ _ _ _ _ _ _ _ _ _ [(x, own_O "com/example/recourse/recourse/network/NodeHeap" [("com/example/recourse/recourse/network/NodeHeap", "nodes", "[I", .ref an), ("com/example/recourse/recourse/network/NodeHeap", "distances", "[D", .ref ad), ("com/example/recourse/recourse/network/NodeHeap", "remainders", "[D", .ref ar), ("com/example/recourse/recourse/network/NodeHeap", "size", "I", .int 1)]), (an, own_A .int ((.int g1_0) :: (.int g1_1) :: (.int g1_2) :: List.replicate mm (.int 0))), (ad, own_A .double ((.double g1_3) :: (.double g1_4) :: (.double g1_5) :: List.replicate mm (.double 0))), (ar, own_A .double ((.double g1_6) :: (.double g1_7) :: (.double g1_8) :: List.replicate mm (.double 0)))] _ _ at Hs30_4
  obtain ⟨v69, hv69⟩ : ∃ z : UInt64, (FP.i2d y1) = z := ⟨_, rfl⟩
  obtain ⟨Ts30_5, vs30_5_, css30_5_, qs30_5, Hs30_5, sts30_5⟩ := own_callV Hs30_4 hx hZ hown (hw _ (List.mem_of_getElem? (i := 28) rfl)) (hw _ (List.mem_of_getElem? (i := 29) rfl)) (hw _ (List.mem_of_getElem? (i := 31) rfl)) (hw _ (List.mem_of_getElem? (i := 30) rfl)) (hw _ (List.mem_of_getElem? (i := 2) rfl)) (hw _ (List.mem_of_getElem? (i := 32) rfl)) (by decide) (x := x) 0 rfl (argsL := [(.int y1), (.double v69)]) (rest := []) (W := 0) (own_adi1 l Z a0 hb0 hw x _ _ an ad ar mm g1_0 g1_1 g1_2 g1_3 g1_4 g1_5 g1_6 g1_7 g1_8 z hl hzz) (by decide) (by decide) (by decide) (by decide) (g := (mkF m 70 #[.val (.int xc), .val (.int xn), .val (.int xp), .val (.int y0), .val (.int y1), .val (.int y2), .val (.ref x), .val (.int (1 : Int32)), .val (.int (3 : Int32)), .val (.int (0 : Int32))] [(.double v69), (.int y1), (.ref x)])) rfl (by rw [hml]; rfl) (lenOf own_pd5 rfl) rfl (by show 2 * 0 + _ ≤ _; exact Nat.le_of_eq rfl) (hb hby at_70)
  obtain ⟨g2_0, g2_1, g2_2, g2_3, g2_4, g2_5, g2_6, g2_7, g2_8, rfl, rfl⟩ := qs30_5
  change own_S _ _ _ _ _ _ _ _ _ _ _ _ _ _ [(x, own_O "com/example/recourse/recourse/network/NodeHeap" [("com/example/recourse/recourse/network/NodeHeap", "nodes", "[I", .ref an), ("com/example/recourse/recourse/network/NodeHeap", "distances", "[D", .ref ad), ("com/example/recourse/recourse/network/NodeHeap", "remainders", "[D", .ref ar), ("com/example/recourse/recourse/network/NodeHeap", "size", "I", .int 2)]), (an, own_A .int ((.int g2_0) :: (.int g2_1) :: (.int g2_2) :: List.replicate mm (.int 0))), (ad, own_A .double ((.double g2_3) :: (.double g2_4) :: (.double g2_5) :: List.replicate mm (.double 0))), (ar, own_A .double ((.double g2_6) :: (.double g2_7) :: (.double g2_8) :: List.replicate mm (.double 0)))] _ _ at Hs30_5
  obtain ⟨v85, hv85⟩ : ∃ z : UInt64, (FP.i2d y2) = z := ⟨_, rfl⟩
  obtain ⟨Ts30_6, vs30_6_, css30_6_, qs30_6, Hs30_6, sts30_6⟩ := own_callV Hs30_5 hx hZ hown (hw _ (List.mem_of_getElem? (i := 28) rfl)) (hw _ (List.mem_of_getElem? (i := 29) rfl)) (hw _ (List.mem_of_getElem? (i := 31) rfl)) (hw _ (List.mem_of_getElem? (i := 30) rfl)) (hw _ (List.mem_of_getElem? (i := 2) rfl)) (hw _ (List.mem_of_getElem? (i := 32) rfl)) (by decide) (x := x) 0 rfl (argsL := [(.int y2), (.double v85)]) (rest := []) (W := 0) (own_adi2 l Z a0 hb0 hw x _ _ an ad ar mm g2_0 g2_1 g2_2 g2_3 g2_4 g2_5 g2_6 g2_7 g2_8 z hl hzz) (by decide) (by decide) (by decide) (by decide) (g := (mkF m 86 #[.val (.int xc), .val (.int xn), .val (.int xp), .val (.int y0), .val (.int y1), .val (.int y2), .val (.ref x), .val (.int (1 : Int32)), .val (.int (3 : Int32)), .val (.int (0 : Int32))] [(.double v85), (.int y2), (.ref x)])) rfl (by rw [hml]; rfl) (lenOf own_pd5 rfl) rfl (by show 2 * 0 + _ ≤ _; exact Nat.le_of_eq rfl) (hb hby at_86)
  obtain ⟨g3_0, g3_1, g3_2, g3_3, g3_4, g3_5, g3_6, g3_7, g3_8, rfl, rfl⟩ := qs30_6
  change own_S _ _ _ _ _ _ _ _ _ _ _ _ _ _ [(x, own_O "com/example/recourse/recourse/network/NodeHeap" [("com/example/recourse/recourse/network/NodeHeap", "nodes", "[I", .ref an), ("com/example/recourse/recourse/network/NodeHeap", "distances", "[D", .ref ad), ("com/example/recourse/recourse/network/NodeHeap", "remainders", "[D", .ref ar), ("com/example/recourse/recourse/network/NodeHeap", "size", "I", .int 3)]), (an, own_A .int ((.int g3_0) :: (.int g3_1) :: (.int g3_2) :: List.replicate mm (.int 0))), (ad, own_A .double ((.double g3_3) :: (.double g3_4) :: (.double g3_5) :: List.replicate mm (.double 0))), (ar, own_A .double ((.double g3_6) :: (.double g3_7) :: (.double g3_8) :: List.replicate mm (.double 0)))] _ _ at Hs30_6
  obtain ⟨Ts30_7, vs30_7_, css30_7_, qs30_7, Hs30_7, sts30_7⟩ := own_callV Hs30_6 hx hZ hown (hw _ (List.mem_of_getElem? (i := 21) rfl)) (hw _ (List.mem_of_getElem? (i := 22) rfl)) (hw _ (List.mem_of_getElem? (i := 24) rfl)) (hw _ (List.mem_of_getElem? (i := 23) rfl)) (hw _ (List.mem_of_getElem? (i := 2) rfl)) (hw _ (List.mem_of_getElem? (i := 25) rfl)) (by decide) (x := x) 0 rfl (argsL := []) (rest := []) (W := 0) (own_emp3 l Z a0 hb0 hw x an ad ar mm g3_0 g3_1 g3_2 g3_3 g3_4 g3_5 g3_6 g3_7 g3_8) (by decide) (by decide) (by decide) (by decide) (g := (mkF m 96 #[.val (.int xc), .val (.int xn), .val (.int xp), .val (.int y0), .val (.int y1), .val (.int y2), .val (.ref x), .val (.int (1 : Int32)), .val (.int (3 : Int32)), .val (.int (0 : Int32))] [(.ref x)])) rfl (by rw [hml]; rfl) (lenOf own_pd2 rfl) rfl (by show 2 * 0 + _ ≤ _; exact Nat.le_of_eq rfl) (hb hby at_96)
  obtain ⟨rfl, rfl⟩ := qs30_7
  change own_S _ _ _ _ _ _ _ _ _ _ _ _ _ _ [(x, own_O "com/example/recourse/recourse/network/NodeHeap" [("com/example/recourse/recourse/network/NodeHeap", "nodes", "[I", .ref an), ("com/example/recourse/recourse/network/NodeHeap", "distances", "[D", .ref ad), ("com/example/recourse/recourse/network/NodeHeap", "remainders", "[D", .ref ar), ("com/example/recourse/recourse/network/NodeHeap", "size", "I", .int 3)]), (an, own_A .int ((.int g3_0) :: (.int g3_1) :: (.int g3_2) :: List.replicate mm (.int 0))), (ad, own_A .double ((.double g3_3) :: (.double g3_4) :: (.double g3_5) :: List.replicate mm (.double 0))), (ar, own_A .double ((.double g3_6) :: (.double g3_7) :: (.double g3_8) :: List.replicate mm (.double 0)))] _ _ at Hs30_7
  obtain ⟨Ts30_8, vs30_8_, css30_8_, qs30_8, Hs30_8, sts30_8⟩ := own_callV Hs30_7 hx hZ hown (hw _ (List.mem_of_getElem? (i := 21) rfl)) (hw _ (List.mem_of_getElem? (i := 22) rfl)) (hw _ (List.mem_of_getElem? (i := 24) rfl)) (hw _ (List.mem_of_getElem? (i := 23) rfl)) (hw _ (List.mem_of_getElem? (i := 2) rfl)) (hw _ (List.mem_of_getElem? (i := 25) rfl)) (by decide) (x := x) 0 rfl (argsL := []) (rest := []) (W := 0) (own_emp3 l Z a0 hb0 hw x an ad ar mm g3_0 g3_1 g3_2 g3_3 g3_4 g3_5 g3_6 g3_7 g3_8) (by decide) (by decide) (by decide) (by decide) (g := (mkF m 161 #[.val (.int xc), .val (.int xn), .val (.int xp), .val (.int y0), .val (.int y1), .val (.int y2), .val (.ref x), .val (.int (1 : Int32)), .val (.int (3 : Int32)), .val (.int (0 : Int32))] [(.ref x)])) rfl (by rw [hml]; rfl) (lenOf own_pd2 rfl) rfl (by show 2 * 0 + _ ≤ _; exact Nat.le_of_eq rfl) (hb hby at_161)
  obtain ⟨rfl, rfl⟩ := qs30_8
  change own_S _ _ _ _ _ _ _ _ _ _ _ _ _ _ [(x, own_O "com/example/recourse/recourse/network/NodeHeap" [("com/example/recourse/recourse/network/NodeHeap", "nodes", "[I", .ref an), ("com/example/recourse/recourse/network/NodeHeap", "distances", "[D", .ref ad), ("com/example/recourse/recourse/network/NodeHeap", "remainders", "[D", .ref ar), ("com/example/recourse/recourse/network/NodeHeap", "size", "I", .int 3)]), (an, own_A .int ((.int g3_0) :: (.int g3_1) :: (.int g3_2) :: List.replicate mm (.int 0))), (ad, own_A .double ((.double g3_3) :: (.double g3_4) :: (.double g3_5) :: List.replicate mm (.double 0))), (ar, own_A .double ((.double g3_6) :: (.double g3_7) :: (.double g3_8) :: List.replicate mm (.double 0)))] _ _ at Hs30_8
  refine ⟨_, _, _, _, 188, #[.val (.int xc), .val (.int xn), .val (.int xp), .val (.int y0), .val (.int y1), .val (.int y2), .val (.ref x), .val (.int (1 : Int32)), .val (.int (3 : Int32)), .val (.int (0 : Int32))], Hs30_8, by decide, by decide, Or.inr ⟨.boolean, (.int (1 : Int32)), [], .ireturn, rfl, rfl, at_188, own_retZ (Or.inr rfl), fun target q => ?_⟩⟩
  refine sts30_1 _ ?_
  refine own_go Hs30_1 hx hZ hown hby hw own_K0_ok (own_s30_0 xc xn xp y0 y1 y2 x v7 hv7 v10 hv10) _ ?_
  refine sts30_2 _ ?_
  refine own_go Hs30_2 hx hZ hown hby hw own_K0_ok (own_s30_1 xc xn xp y0 y1 y2 x) _ ?_
  refine sts30_3 _ ?_
  refine own_go Hs30_3 hx hZ hown hby hw own_K0_ok (own_s30_2 xc xn xp y0 y1 y2 x hkk hpp v53 hv53) _ ?_
  refine sts30_4 _ ?_
  refine own_go Hs30_4 hx hZ hown hby hw own_K0_ok (own_s30_3 xc xn xp y0 y1 y2 x v69 hv69) _ ?_
  refine sts30_5 _ ?_
  refine own_go Hs30_5 hx hZ hown hby hw own_K0_ok (own_s30_4 xc xn xp y0 y1 y2 x v85 hv85) _ ?_
  refine sts30_6 _ ?_
  refine own_go Hs30_6 hx hZ hown hby hw own_K0_ok (own_s30_5 xc xn xp y0 y1 y2 x) _ ?_
  refine sts30_7 _ ?_
  refine own_go Hs30_7 hx hZ hown hby hw own_K0_ok (own_s30_6 xc xn xp y0 y1 y2 x) _ ?_
  refine sts30_8 _ ?_
  refine own_go Hs30_8 hx hZ hown hby hw own_K0_ok (own_s30_7 xc xn xp y0 y1 y2 x) _ ?_
  exact q
theorem own_s31_0 (xc : Int32) (xn : Int32) (xp : Int32) (y0 : Int32) (y1 : Int32) (y2 : Int32) (x : Addr) (v7 : Int32) (hv7 : (xc &&& (63 : Int32)) = v7) (v10 : Int32) (hv10 : (v7 - (16 : Int32)) = v10) :
    own_Go own_K0 code 3 #[.val (.int xc), .val (.int xn), .val (.int xp), .val (.int y0), .val (.int y1), .val (.int y2), .unset, .unset, .unset, .unset] [(.ref x)] 11 #[.val (.int xc), .val (.int xn), .val (.int xp), .val (.int y0), .val (.int y1), .val (.int y2), .unset, .unset, .unset, .unset] [(.int v10), (.ref x), (.ref x)] := by
  refine own_dup (pc2 := 4) at_3 rfl rfl ?_
  refine own_iloadN (pc2 := 5) at_4 rfl rfl ?_
  refine own_bipush (v := 63) (pc2 := 7) at_5 rfl rfl ?_
  refine own_iand (pc2 := 8) at_7 rfl (v := v7) hv7 ?_
  refine own_bipush (v := 16) (pc2 := 10) at_8 rfl rfl ?_
  refine own_isub (pc2 := 11) at_10 rfl (v := v10) hv10 ?_
  exact own_refl
theorem own_s31_1 (xc : Int32) (xn : Int32) (xp : Int32) (y0 : Int32) (y1 : Int32) (y2 : Int32) (x : Addr) :
    own_Go own_K0 code 14 #[.val (.int xc), .val (.int xn), .val (.int xp), .val (.int y0), .val (.int y1), .val (.int y2), .unset, .unset, .unset, .unset] [(.ref x)] 18 #[.val (.int xc), .val (.int xn), .val (.int xp), .val (.int y0), .val (.int y1), .val (.int y2), .val (.ref x), .unset, .unset, .unset] [(.ref x)] := by
  refine own_astore (pc2 := 16) at_14 rfl rfl (L' := #[.val (.int xc), .val (.int xn), .val (.int xp), .val (.int y0), .val (.int y1), .val (.int y2), .val (.ref x), .unset, .unset, .unset]) rfl ?_
  refine own_aload (pc2 := 18) at_16 rfl rfl rfl ?_
  exact own_refl
theorem own_s31_2 (xc : Int32) (xn : Int32) (xp : Int32) (y0 : Int32) (y1 : Int32) (y2 : Int32) (x : Addr) (hkk : (xn &&& (3 : Int32)) = (3 : Int32)) (hpp : (xp &&& (3 : Int32)) = (1 : Int32)) (v53 : UInt64) (hv53 : (FP.i2d y0) = v53) :
    own_Go own_K0 code 21 #[.val (.int xc), .val (.int xn), .val (.int xp), .val (.int y0), .val (.int y1), .val (.int y2), .val (.ref x), .unset, .unset, .unset] [(.int (1 : Int32))] 54 #[.val (.int xc), .val (.int xn), .val (.int xp), .val (.int y0), .val (.int y1), .val (.int y2), .val (.ref x), .val (.int (1 : Int32)), .val (.int (3 : Int32)), .val (.int (1 : Int32))] [(.double v53), (.int y0), (.ref x)] := by
  refine own_istore (pc2 := 23) at_21 rfl (L' := #[.val (.int xc), .val (.int xn), .val (.int xp), .val (.int y0), .val (.int y1), .val (.int y2), .val (.ref x), .val (.int (1 : Int32)), .unset, .unset]) rfl ?_
  refine own_iloadN (pc2 := 24) at_23 rfl rfl ?_
  refine own_iconst (v := 3) (pc2 := 25) at_24 rfl rfl ?_
  refine own_iand (pc2 := 26) at_25 rfl (v := (3 : Int32)) hkk ?_
  refine own_istore (pc2 := 28) at_26 rfl (L' := #[.val (.int xc), .val (.int xn), .val (.int xp), .val (.int y0), .val (.int y1), .val (.int y2), .val (.ref x), .val (.int (1 : Int32)), .val (.int (3 : Int32)), .unset]) rfl ?_
  refine own_iloadN (pc2 := 29) at_28 rfl rfl ?_
  refine own_iconst (v := 3) (pc2 := 30) at_29 rfl rfl ?_
  refine own_iand (pc2 := 31) at_30 rfl (v := (1 : Int32)) hpp ?_
  refine own_istore (pc2 := 33) at_31 rfl (L' := #[.val (.int xc), .val (.int xn), .val (.int xp), .val (.int y0), .val (.int y1), .val (.int y2), .val (.ref x), .val (.int (1 : Int32)), .val (.int (3 : Int32)), .val (.int (1 : Int32))]) rfl ?_
  refine own_iload (pc2 := 35) at_33 rfl rfl ?_
  refine own_iload (pc2 := 37) at_35 rfl rfl ?_
  refine own_icmpYes (pc' := 44) at_37 (by decide) (by decide) (by decide) ?_
  refine own_iload (pc2 := 46) at_44 rfl rfl ?_
  refine own_ifNo (pc2 := 49) at_46 rfl (by decide) ?_
  refine own_aload (pc2 := 51) at_49 rfl rfl rfl ?_
  refine own_iloadN (pc2 := 52) at_51 rfl rfl ?_
  refine own_iloadN (pc2 := 53) at_52 rfl rfl ?_
  refine own_i2d (pc2 := 54) at_53 rfl (v := v53) hv53 ?_
  exact own_refl
theorem own_s31_3 (xc : Int32) (xn : Int32) (xp : Int32) (y0 : Int32) (y1 : Int32) (y2 : Int32) (x : Addr) (v69 : UInt64) (hv69 : (FP.i2d y1) = v69) :
    own_Go own_K0 code 57 #[.val (.int xc), .val (.int xn), .val (.int xp), .val (.int y0), .val (.int y1), .val (.int y2), .val (.ref x), .val (.int (1 : Int32)), .val (.int (3 : Int32)), .val (.int (1 : Int32))] [] 70 #[.val (.int xc), .val (.int xn), .val (.int xp), .val (.int y0), .val (.int y1), .val (.int y2), .val (.ref x), .val (.int (1 : Int32)), .val (.int (3 : Int32)), .val (.int (1 : Int32))] [(.double v69), (.int y1), (.ref x)] := by
  refine own_iload (pc2 := 59) at_57 rfl rfl ?_
  refine own_iconst (v := 1) (pc2 := 60) at_59 rfl rfl ?_
  refine own_icmpNo (pc2 := 63) at_60 rfl (by decide) ?_
  refine own_aload (pc2 := 65) at_63 rfl rfl rfl ?_
  refine own_iload (pc2 := 67) at_65 rfl rfl ?_
  refine own_iload (pc2 := 69) at_67 rfl rfl ?_
  refine own_i2d (pc2 := 70) at_69 rfl (v := v69) hv69 ?_
  exact own_refl
theorem own_s31_4 (xc : Int32) (xn : Int32) (xp : Int32) (y0 : Int32) (y1 : Int32) (y2 : Int32) (x : Addr) (v85 : UInt64) (hv85 : (FP.i2d y2) = v85) :
    own_Go own_K0 code 73 #[.val (.int xc), .val (.int xn), .val (.int xp), .val (.int y0), .val (.int y1), .val (.int y2), .val (.ref x), .val (.int (1 : Int32)), .val (.int (3 : Int32)), .val (.int (1 : Int32))] [] 86 #[.val (.int xc), .val (.int xn), .val (.int xp), .val (.int y0), .val (.int y1), .val (.int y2), .val (.ref x), .val (.int (1 : Int32)), .val (.int (3 : Int32)), .val (.int (1 : Int32))] [(.double v85), (.int y2), (.ref x)] := by
  refine own_iload (pc2 := 75) at_73 rfl rfl ?_
  refine own_iconst (v := 2) (pc2 := 76) at_75 rfl rfl ?_
  refine own_icmpNo (pc2 := 79) at_76 rfl (by decide) ?_
  refine own_aload (pc2 := 81) at_79 rfl rfl rfl ?_
  refine own_iload (pc2 := 83) at_81 rfl rfl ?_
  refine own_iload (pc2 := 85) at_83 rfl rfl ?_
  refine own_i2d (pc2 := 86) at_85 rfl (v := v85) hv85 ?_
  exact own_refl
theorem own_s31_5 (xc : Int32) (xn : Int32) (xp : Int32) (y0 : Int32) (y1 : Int32) (y2 : Int32) (x : Addr) :
    own_Go own_K0 code 89 #[.val (.int xc), .val (.int xn), .val (.int xp), .val (.int y0), .val (.int y1), .val (.int y2), .val (.ref x), .val (.int (1 : Int32)), .val (.int (3 : Int32)), .val (.int (1 : Int32))] [] 96 #[.val (.int xc), .val (.int xn), .val (.int xp), .val (.int y0), .val (.int y1), .val (.int y2), .val (.ref x), .val (.int (1 : Int32)), .val (.int (3 : Int32)), .val (.int (1 : Int32))] [(.ref x)] := by
  refine own_iload (pc2 := 91) at_89 rfl rfl ?_
  refine own_ifNo (pc2 := 94) at_91 rfl (by decide) ?_
  refine own_aload (pc2 := 96) at_94 rfl rfl rfl ?_
  exact own_refl
theorem own_s31_6 (xc : Int32) (xn : Int32) (xp : Int32) (y0 : Int32) (y1 : Int32) (y2 : Int32) (x : Addr) :
    own_Go own_K0 code 99 #[.val (.int xc), .val (.int xn), .val (.int xp), .val (.int y0), .val (.int y1), .val (.int y2), .val (.ref x), .val (.int (1 : Int32)), .val (.int (3 : Int32)), .val (.int (1 : Int32))] [(.int (0 : Int32))] 126 #[.val (.int xc), .val (.int xn), .val (.int xp), .val (.int y0), .val (.int y1), .val (.int y2), .val (.ref x), .val (.int (1 : Int32)), .val (.int (3 : Int32)), .val (.int (1 : Int32))] [(.ref x)] := by
  refine own_iload (pc2 := 101) at_99 rfl rfl ?_
  refine own_ifYes (pc' := 108) at_101 (by decide) (by decide) (by decide) ?_
  refine own_iconst (v := 0) (pc2 := 109) at_108 rfl rfl ?_
  refine own_icmpNo (pc2 := 112) at_109 rfl (by decide) ?_
  refine own_iconst (v := 1) (pc2 := 113) at_112 rfl rfl ?_
  refine own_goto (pc' := 117) at_113 (by decide) (by decide) ?_
  refine own_istore (pc2 := 119) at_117 rfl (L' := #[.val (.int xc), .val (.int xn), .val (.int xp), .val (.int y0), .val (.int y1), .val (.int y2), .val (.ref x), .val (.int (1 : Int32)), .val (.int (3 : Int32)), .val (.int (1 : Int32))]) rfl ?_
  refine own_iload (pc2 := 121) at_119 rfl rfl ?_
  refine own_ifNo (pc2 := 124) at_121 rfl (by decide) ?_
  refine own_aload (pc2 := 126) at_124 rfl rfl rfl ?_
  exact own_refl
theorem own_s31_7 (xc : Int32) (xn : Int32) (xp : Int32) (y0 : Int32) (y1 : Int32) (y2 : Int32) (x : Addr) (rv4 : Int32) :
    own_Go own_K0 code 129 #[.val (.int xc), .val (.int xn), .val (.int xp), .val (.int y0), .val (.int y1), .val (.int y2), .val (.ref x), .val (.int (1 : Int32)), .val (.int (3 : Int32)), .val (.int (1 : Int32))] [(.int rv4)] 161 #[.val (.int xc), .val (.int xn), .val (.int xp), .val (.int y0), .val (.int y1), .val (.int y2), .val (.ref x), .val (.int (1 : Int32)), .val (.int (3 : Int32)), .val (.int (1 : Int32))] [(.ref x)] := by
  refine own_pop (pc2 := 130) at_129 rfl rfl ?_
  refine own_iload (pc2 := 132) at_130 rfl rfl ?_
  refine own_iconst (v := 1) (pc2 := 133) at_132 rfl rfl ?_
  refine own_icmpYes (pc' := 142) at_133 (by decide) (by decide) (by decide) ?_
  refine own_iload (pc2 := 144) at_142 rfl rfl ?_
  refine own_iconst (v := 2) (pc2 := 145) at_144 rfl rfl ?_
  refine own_icmpYes (pc' := 154) at_145 (by decide) (by decide) (by decide) ?_
  refine own_iload (pc2 := 156) at_154 rfl rfl ?_
  refine own_ifNo (pc2 := 159) at_156 rfl (by decide) ?_
  refine own_aload (pc2 := 161) at_159 rfl rfl rfl ?_
  exact own_refl
theorem own_s31_8 (xc : Int32) (xn : Int32) (xp : Int32) (y0 : Int32) (y1 : Int32) (y2 : Int32) (x : Addr) :
    own_Go own_K0 code 164 #[.val (.int xc), .val (.int xn), .val (.int xp), .val (.int y0), .val (.int y1), .val (.int y2), .val (.ref x), .val (.int (1 : Int32)), .val (.int (3 : Int32)), .val (.int (1 : Int32))] [(.int (0 : Int32))] 188 #[.val (.int xc), .val (.int xn), .val (.int xp), .val (.int y0), .val (.int y1), .val (.int y2), .val (.ref x), .val (.int (1 : Int32)), .val (.int (3 : Int32)), .val (.int (1 : Int32))] [(.int (1 : Int32))] := by
  refine own_iload (pc2 := 166) at_164 rfl rfl ?_
  refine own_iload (pc2 := 168) at_166 rfl rfl ?_
  refine own_icmpYes (pc' := 175) at_168 (by decide) (by decide) (by decide) ?_
  refine own_iconst (v := 0) (pc2 := 176) at_175 rfl rfl ?_
  refine own_icmpNo (pc2 := 179) at_176 rfl (by decide) ?_
  refine own_iconst (v := 1) (pc2 := 180) at_179 rfl rfl ?_
  refine own_goto (pc' := 184) at_180 (by decide) (by decide) ?_
  refine own_istore (pc2 := 186) at_184 rfl (L' := #[.val (.int xc), .val (.int xn), .val (.int xp), .val (.int y0), .val (.int y1), .val (.int y2), .val (.ref x), .val (.int (1 : Int32)), .val (.int (3 : Int32)), .val (.int (1 : Int32))]) rfl ?_
  refine own_iload (pc2 := 188) at_186 rfl rfl ?_
  exact own_refl
set_option maxRecDepth 65536 in
set_option maxHeartbeats 40000000 in
theorem own_law31 (l : Launch) (Z : State) (a0 : Array Value) (hb0 : Heap) (hw : ∀ d ∈ tables_1, d.before a0 Z = true) (xc : Int32) (xn : Int32) (xp : Int32) (y0 : Int32) (y1 : Int32) (y2 : Int32) (hkk : (xn &&& (3 : Int32)) = (3 : Int32)) (hpp : (xp &&& (3 : Int32)) = (1 : Int32)) :
    own_Met l Z a0 hb0 x code maxLocals ret tables_1 room_1 #[(.int xc), (.int xn), (.int xp), (.int y0), (.int y1), (.int y2)] [] (fun v _ => v = some (.int 1)) := by
  refine own_met_of (L0 := #[.val (.int xc), .val (.int xn), .val (.int xp), .val (.int y0), .val (.int y1), .val (.int y2), .unset, .unset, .unset, .unset]) (plainFor_of_name own_pn0) (fun m => own_ef0 m xc xn xp y0 y1 y2) ?_
  intro p e s m below meth c T0 hx hZ hown hby hml hnm H0
  have hown : s.vm.findClass "com/example/recourse/recourse/network/NodeHeapIsEmptyPinLaw" = some m.cls := hown
  have hml : c.maxLocals = 10 := hml
  obtain ⟨Ts31_1, x, Hs31_1, sts31_1⟩ := own_newO H0 hx hZ hown (hw _ (List.mem_of_getElem? (i := 0) rfl)) (hw _ (List.mem_of_getElem? (i := 1) rfl)) (hw _ (List.mem_of_getElem? (i := 2) rfl)) [("com/example/recourse/recourse/network/NodeHeap", "nodes", "[I", .null), ("com/example/recourse/recourse/network/NodeHeap", "distances", "[D", .null), ("com/example/recourse/recourse/network/NodeHeap", "remainders", "[D", .null), ("com/example/recourse/recourse/network/NodeHeap", "size", "I", .int 0)] (by
      intro f hf
      simp only [List.mem_cons, List.not_mem_nil, or_false] at hf
      rcases hf with rfl | rfl | rfl | rfl
      · exact ⟨Or.inl (hw _ (List.mem_of_getElem? (i := 15) rfl)), (.array .int), by decide, rfl⟩
      · exact ⟨Or.inl (hw _ (List.mem_of_getElem? (i := 18) rfl)), (.array .double), by decide, rfl⟩
      · exact ⟨Or.inl (hw _ (List.mem_of_getElem? (i := 20) rfl)), (.array .double), by decide, rfl⟩
      · exact ⟨Or.inl (hw _ (List.mem_of_getElem? (i := 27) rfl)), .int, by decide, rfl⟩) (by decide) (g := (mkF m 0 #[.val (.int xc), .val (.int xn), .val (.int xp), .val (.int y0), .val (.int y1), .val (.int y2), .unset, .unset, .unset, .unset] [])) rfl (hb hby at_0) (by decide) (by decide)
  change own_S _ _ _ _ _ _ _ _ _ _ _ _ _ _ [(x, own_O "com/example/recourse/recourse/network/NodeHeap" [("com/example/recourse/recourse/network/NodeHeap", "nodes", "[I", .null), ("com/example/recourse/recourse/network/NodeHeap", "distances", "[D", .null), ("com/example/recourse/recourse/network/NodeHeap", "remainders", "[D", .null), ("com/example/recourse/recourse/network/NodeHeap", "size", "I", .int 0)])] _ _ at Hs31_1
  obtain ⟨v7, hv7⟩ : ∃ z : Int32, (xc &&& (63 : Int32)) = z := ⟨_, rfl⟩
  obtain ⟨v10, hv10⟩ : ∃ z : Int32, (v7 - (16 : Int32)) = z := ⟨_, rfl⟩
  have hk : v10.toInt ≤ 47 := by
    have h1 := c_mask xc 63 6 (by decide) (by decide)
    have h2 := c_isub v7 16
    have := rng32 v10
    rw [hv7] at h1
    rw [hv10, show (16 : Int32).toInt = 16 from rfl] at h2
    omega
  obtain ⟨Ts31_2, vs31_2_, css31_2_, qs31_2, Hs31_2, sts31_2⟩ := own_callI Hs31_1 hx hZ hown rfl (hw _ (List.mem_of_getElem? (i := 3) rfl)) (hw _ (List.mem_of_getElem? (i := 4) rfl)) (hw _ (List.mem_of_getElem? (i := 2) rfl)) (hw _ (List.mem_of_getElem? (i := 5) rfl)) (by decide) (x := x) (argsL := [(.int v10)]) (rest := [(.ref x)]) (W := 1) (own_init l Z a0 hb0 hw x v10 hk) (by decide) (by decide) (by decide) (by decide) (g := (mkF m 11 #[.val (.int xc), .val (.int xn), .val (.int xp), .val (.int y0), .val (.int y1), .val (.int y2), .unset, .unset, .unset, .unset] [(.int v10), (.ref x), (.ref x)])) rfl (by rw [hml]; rfl) (lenOf own_pd4 rfl) rfl (by show 2 * 0 + _ ≤ _; exact Nat.le_of_eq rfl) (hb hby at_11)
  obtain ⟨an, ad, ar, mm, z, hl, hzz, rfl, rfl⟩ := qs31_2
  change own_S _ _ _ _ _ _ _ _ _ _ _ _ _ _ [(x, own_O "com/example/recourse/recourse/network/NodeHeap" [("com/example/recourse/recourse/network/NodeHeap", "nodes", "[I", .ref an), ("com/example/recourse/recourse/network/NodeHeap", "distances", "[D", .ref ad), ("com/example/recourse/recourse/network/NodeHeap", "remainders", "[D", .ref ar), ("com/example/recourse/recourse/network/NodeHeap", "size", "I", .int 0)]), (an, own_A .int ((.int 0) :: (.int 0) :: (.int 0) :: List.replicate mm (.int 0))), (ad, own_A .double ((.double 0) :: (.double 0) :: (.double 0) :: List.replicate mm (.double 0))), (ar, own_A .double ((.double 0) :: (.double 0) :: (.double 0) :: List.replicate mm (.double 0)))] _ _ at Hs31_2
  obtain ⟨Ts31_3, vs31_3_, css31_3_, qs31_3, Hs31_3, sts31_3⟩ := own_callV Hs31_2 hx hZ hown (hw _ (List.mem_of_getElem? (i := 21) rfl)) (hw _ (List.mem_of_getElem? (i := 22) rfl)) (hw _ (List.mem_of_getElem? (i := 24) rfl)) (hw _ (List.mem_of_getElem? (i := 23) rfl)) (hw _ (List.mem_of_getElem? (i := 2) rfl)) (hw _ (List.mem_of_getElem? (i := 25) rfl)) (by decide) (x := x) 0 rfl (argsL := []) (rest := []) (W := 0) (own_emp0 l Z a0 hb0 hw x an ad ar mm 0 0 0 0 0 0 0 0 0) (by decide) (by decide) (by decide) (by decide) (g := (mkF m 18 #[.val (.int xc), .val (.int xn), .val (.int xp), .val (.int y0), .val (.int y1), .val (.int y2), .val (.ref x), .unset, .unset, .unset] [(.ref x)])) rfl (by rw [hml]; rfl) (lenOf own_pd2 rfl) rfl (by show 2 * 0 + _ ≤ _; exact Nat.le_of_eq rfl) (hb hby at_18)
  obtain ⟨rfl, rfl⟩ := qs31_3
  change own_S _ _ _ _ _ _ _ _ _ _ _ _ _ _ [(x, own_O "com/example/recourse/recourse/network/NodeHeap" [("com/example/recourse/recourse/network/NodeHeap", "nodes", "[I", .ref an), ("com/example/recourse/recourse/network/NodeHeap", "distances", "[D", .ref ad), ("com/example/recourse/recourse/network/NodeHeap", "remainders", "[D", .ref ar), ("com/example/recourse/recourse/network/NodeHeap", "size", "I", .int 0)]), (an, own_A .int ((.int 0) :: (.int 0) :: (.int 0) :: List.replicate mm (.int 0))), (ad, own_A .double ((.double 0) :: (.double 0) :: (.double 0) :: List.replicate mm (.double 0))), (ar, own_A .double ((.double 0) :: (.double 0) :: (.double 0) :: List.replicate mm (.double 0)))] _ _ at Hs31_3
  obtain ⟨v53, hv53⟩ : ∃ z : UInt64, (FP.i2d y0) = z := ⟨_, rfl⟩
  obtain ⟨Ts31_4, vs31_4_, css31_4_, qs31_4, Hs31_4, sts31_4⟩ := own_callV Hs31_3 hx hZ hown (hw _ (List.mem_of_getElem? (i := 28) rfl)) (hw _ (List.mem_of_getElem? (i := 29) rfl)) (hw _ (List.mem_of_getElem? (i := 31) rfl)) (hw _ (List.mem_of_getElem? (i := 30) rfl)) (hw _ (List.mem_of_getElem? (i := 2) rfl)) (hw _ (List.mem_of_getElem? (i := 32) rfl)) (by decide) (x := x) 0 rfl (argsL := [(.int y0), (.double v53)]) (rest := []) (W := 0) (own_adi0 l Z a0 hb0 hw x _ _ an ad ar mm 0 0 0 0 0 0 0 0 0 z hl hzz) (by decide) (by decide) (by decide) (by decide) (g := (mkF m 54 #[.val (.int xc), .val (.int xn), .val (.int xp), .val (.int y0), .val (.int y1), .val (.int y2), .val (.ref x), .val (.int (1 : Int32)), .val (.int (3 : Int32)), .val (.int (1 : Int32))] [(.double v53), (.int y0), (.ref x)])) rfl (by rw [hml]; rfl) (lenOf own_pd5 rfl) rfl (by show 2 * 0 + _ ≤ _; exact Nat.le_of_eq rfl) (hb hby at_54)
  obtain ⟨g1_0, g1_1, g1_2, g1_3, g1_4, g1_5, g1_6, g1_7, g1_8, rfl, rfl⟩ := qs31_4
  change own_S _ _ _ _ _ _ _ _ _ _ _ _ _ _ [(x, own_O "com/example/recourse/recourse/network/NodeHeap" [("com/example/recourse/recourse/network/NodeHeap", "nodes", "[I", .ref an), ("com/example/recourse/recourse/network/NodeHeap", "distances", "[D", .ref ad), ("com/example/recourse/recourse/network/NodeHeap", "remainders", "[D", .ref ar), ("com/example/recourse/recourse/network/NodeHeap", "size", "I", .int 1)]), (an, own_A .int ((.int g1_0) :: (.int g1_1) :: (.int g1_2) :: List.replicate mm (.int 0))), (ad, own_A .double ((.double g1_3) :: (.double g1_4) :: (.double g1_5) :: List.replicate mm (.double 0))), (ar, own_A .double ((.double g1_6) :: (.double g1_7) :: (.double g1_8) :: List.replicate mm (.double 0)))] _ _ at Hs31_4
  obtain ⟨v69, hv69⟩ : ∃ z : UInt64, (FP.i2d y1) = z := ⟨_, rfl⟩
  obtain ⟨Ts31_5, vs31_5_, css31_5_, qs31_5, Hs31_5, sts31_5⟩ := own_callV Hs31_4 hx hZ hown (hw _ (List.mem_of_getElem? (i := 28) rfl)) (hw _ (List.mem_of_getElem? (i := 29) rfl)) (hw _ (List.mem_of_getElem? (i := 31) rfl)) (hw _ (List.mem_of_getElem? (i := 30) rfl)) (hw _ (List.mem_of_getElem? (i := 2) rfl)) (hw _ (List.mem_of_getElem? (i := 32) rfl)) (by decide) (x := x) 0 rfl (argsL := [(.int y1), (.double v69)]) (rest := []) (W := 0) (own_adi1 l Z a0 hb0 hw x _ _ an ad ar mm g1_0 g1_1 g1_2 g1_3 g1_4 g1_5 g1_6 g1_7 g1_8 z hl hzz) (by decide) (by decide) (by decide) (by decide) (g := (mkF m 70 #[.val (.int xc), .val (.int xn), .val (.int xp), .val (.int y0), .val (.int y1), .val (.int y2), .val (.ref x), .val (.int (1 : Int32)), .val (.int (3 : Int32)), .val (.int (1 : Int32))] [(.double v69), (.int y1), (.ref x)])) rfl (by rw [hml]; rfl) (lenOf own_pd5 rfl) rfl (by show 2 * 0 + _ ≤ _; exact Nat.le_of_eq rfl) (hb hby at_70)
  obtain ⟨g2_0, g2_1, g2_2, g2_3, g2_4, g2_5, g2_6, g2_7, g2_8, rfl, rfl⟩ := qs31_5
  change own_S _ _ _ _ _ _ _ _ _ _ _ _ _ _ [(x, own_O "com/example/recourse/recourse/network/NodeHeap" [("com/example/recourse/recourse/network/NodeHeap", "nodes", "[I", .ref an), ("com/example/recourse/recourse/network/NodeHeap", "distances", "[D", .ref ad), ("com/example/recourse/recourse/network/NodeHeap", "remainders", "[D", .ref ar), ("com/example/recourse/recourse/network/NodeHeap", "size", "I", .int 2)]), (an, own_A .int ((.int g2_0) :: (.int g2_1) :: (.int g2_2) :: List.replicate mm (.int 0))), (ad, own_A .double ((.double g2_3) :: (.double g2_4) :: (.double g2_5) :: List.replicate mm (.double 0))), (ar, own_A .double ((.double g2_6) :: (.double g2_7) :: (.double g2_8) :: List.replicate mm (.double 0)))] _ _ at Hs31_5
  obtain ⟨v85, hv85⟩ : ∃ z : UInt64, (FP.i2d y2) = z := ⟨_, rfl⟩
  obtain ⟨Ts31_6, vs31_6_, css31_6_, qs31_6, Hs31_6, sts31_6⟩ := own_callV Hs31_5 hx hZ hown (hw _ (List.mem_of_getElem? (i := 28) rfl)) (hw _ (List.mem_of_getElem? (i := 29) rfl)) (hw _ (List.mem_of_getElem? (i := 31) rfl)) (hw _ (List.mem_of_getElem? (i := 30) rfl)) (hw _ (List.mem_of_getElem? (i := 2) rfl)) (hw _ (List.mem_of_getElem? (i := 32) rfl)) (by decide) (x := x) 0 rfl (argsL := [(.int y2), (.double v85)]) (rest := []) (W := 0) (own_adi2 l Z a0 hb0 hw x _ _ an ad ar mm g2_0 g2_1 g2_2 g2_3 g2_4 g2_5 g2_6 g2_7 g2_8 z hl hzz) (by decide) (by decide) (by decide) (by decide) (g := (mkF m 86 #[.val (.int xc), .val (.int xn), .val (.int xp), .val (.int y0), .val (.int y1), .val (.int y2), .val (.ref x), .val (.int (1 : Int32)), .val (.int (3 : Int32)), .val (.int (1 : Int32))] [(.double v85), (.int y2), (.ref x)])) rfl (by rw [hml]; rfl) (lenOf own_pd5 rfl) rfl (by show 2 * 0 + _ ≤ _; exact Nat.le_of_eq rfl) (hb hby at_86)
  obtain ⟨g3_0, g3_1, g3_2, g3_3, g3_4, g3_5, g3_6, g3_7, g3_8, rfl, rfl⟩ := qs31_6
  change own_S _ _ _ _ _ _ _ _ _ _ _ _ _ _ [(x, own_O "com/example/recourse/recourse/network/NodeHeap" [("com/example/recourse/recourse/network/NodeHeap", "nodes", "[I", .ref an), ("com/example/recourse/recourse/network/NodeHeap", "distances", "[D", .ref ad), ("com/example/recourse/recourse/network/NodeHeap", "remainders", "[D", .ref ar), ("com/example/recourse/recourse/network/NodeHeap", "size", "I", .int 3)]), (an, own_A .int ((.int g3_0) :: (.int g3_1) :: (.int g3_2) :: List.replicate mm (.int 0))), (ad, own_A .double ((.double g3_3) :: (.double g3_4) :: (.double g3_5) :: List.replicate mm (.double 0))), (ar, own_A .double ((.double g3_6) :: (.double g3_7) :: (.double g3_8) :: List.replicate mm (.double 0)))] _ _ at Hs31_6
  obtain ⟨Ts31_7, vs31_7_, css31_7_, qs31_7, Hs31_7, sts31_7⟩ := own_callV Hs31_6 hx hZ hown (hw _ (List.mem_of_getElem? (i := 21) rfl)) (hw _ (List.mem_of_getElem? (i := 22) rfl)) (hw _ (List.mem_of_getElem? (i := 24) rfl)) (hw _ (List.mem_of_getElem? (i := 23) rfl)) (hw _ (List.mem_of_getElem? (i := 2) rfl)) (hw _ (List.mem_of_getElem? (i := 25) rfl)) (by decide) (x := x) 0 rfl (argsL := []) (rest := []) (W := 0) (own_emp3 l Z a0 hb0 hw x an ad ar mm g3_0 g3_1 g3_2 g3_3 g3_4 g3_5 g3_6 g3_7 g3_8) (by decide) (by decide) (by decide) (by decide) (g := (mkF m 96 #[.val (.int xc), .val (.int xn), .val (.int xp), .val (.int y0), .val (.int y1), .val (.int y2), .val (.ref x), .val (.int (1 : Int32)), .val (.int (3 : Int32)), .val (.int (1 : Int32))] [(.ref x)])) rfl (by rw [hml]; rfl) (lenOf own_pd2 rfl) rfl (by show 2 * 0 + _ ≤ _; exact Nat.le_of_eq rfl) (hb hby at_96)
  obtain ⟨rfl, rfl⟩ := qs31_7
  change own_S _ _ _ _ _ _ _ _ _ _ _ _ _ _ [(x, own_O "com/example/recourse/recourse/network/NodeHeap" [("com/example/recourse/recourse/network/NodeHeap", "nodes", "[I", .ref an), ("com/example/recourse/recourse/network/NodeHeap", "distances", "[D", .ref ad), ("com/example/recourse/recourse/network/NodeHeap", "remainders", "[D", .ref ar), ("com/example/recourse/recourse/network/NodeHeap", "size", "I", .int 3)]), (an, own_A .int ((.int g3_0) :: (.int g3_1) :: (.int g3_2) :: List.replicate mm (.int 0))), (ad, own_A .double ((.double g3_3) :: (.double g3_4) :: (.double g3_5) :: List.replicate mm (.double 0))), (ar, own_A .double ((.double g3_6) :: (.double g3_7) :: (.double g3_8) :: List.replicate mm (.double 0)))] _ _ at Hs31_7
  obtain ⟨Ts31_8, vs31_8_, css31_8_, qs31_8, Hs31_8, sts31_8⟩ := own_callV Hs31_7 hx hZ hown (hw _ (List.mem_of_getElem? (i := 46) rfl)) (hw _ (List.mem_of_getElem? (i := 47) rfl)) (hw _ (List.mem_of_getElem? (i := 49) rfl)) (hw _ (List.mem_of_getElem? (i := 48) rfl)) (hw _ (List.mem_of_getElem? (i := 2) rfl)) (hw _ (List.mem_of_getElem? (i := 50) rfl)) (by decide) (x := x) 0 rfl (argsL := []) (rest := []) (W := 0) (own_poll3 l Z a0 hb0 hw x an ad ar mm g3_0 g3_1 g3_2 g3_3 g3_4 g3_5 g3_6 g3_7 g3_8) (by decide) (by decide) (by decide) (by decide) (g := (mkF m 126 #[.val (.int xc), .val (.int xn), .val (.int xp), .val (.int y0), .val (.int y1), .val (.int y2), .val (.ref x), .val (.int (1 : Int32)), .val (.int (3 : Int32)), .val (.int (1 : Int32))] [(.ref x)])) rfl (by rw [hml]; rfl) (lenOf own_pd0 rfl) rfl (by show 2 * 0 + _ ≤ _; exact Nat.le_of_eq rfl) (hb hby at_126)
  obtain ⟨g4_0, g4_1, g4_2, g4_3, g4_4, g4_5, g4_6, g4_7, g4_8, rv4, rfl, rfl⟩ := qs31_8
  change own_S _ _ _ _ _ _ _ _ _ _ _ _ _ _ [(x, own_O "com/example/recourse/recourse/network/NodeHeap" [("com/example/recourse/recourse/network/NodeHeap", "nodes", "[I", .ref an), ("com/example/recourse/recourse/network/NodeHeap", "distances", "[D", .ref ad), ("com/example/recourse/recourse/network/NodeHeap", "remainders", "[D", .ref ar), ("com/example/recourse/recourse/network/NodeHeap", "size", "I", .int 2)]), (an, own_A .int ((.int g4_0) :: (.int g4_1) :: (.int g4_2) :: List.replicate mm (.int 0))), (ad, own_A .double ((.double g4_3) :: (.double g4_4) :: (.double g4_5) :: List.replicate mm (.double 0))), (ar, own_A .double ((.double g4_6) :: (.double g4_7) :: (.double g4_8) :: List.replicate mm (.double 0)))] _ _ at Hs31_8
  obtain ⟨Ts31_9, vs31_9_, css31_9_, qs31_9, Hs31_9, sts31_9⟩ := own_callV Hs31_8 hx hZ hown (hw _ (List.mem_of_getElem? (i := 21) rfl)) (hw _ (List.mem_of_getElem? (i := 22) rfl)) (hw _ (List.mem_of_getElem? (i := 24) rfl)) (hw _ (List.mem_of_getElem? (i := 23) rfl)) (hw _ (List.mem_of_getElem? (i := 2) rfl)) (hw _ (List.mem_of_getElem? (i := 25) rfl)) (by decide) (x := x) 0 rfl (argsL := []) (rest := []) (W := 0) (own_emp2 l Z a0 hb0 hw x an ad ar mm g4_0 g4_1 g4_2 g4_3 g4_4 g4_5 g4_6 g4_7 g4_8) (by decide) (by decide) (by decide) (by decide) (g := (mkF m 161 #[.val (.int xc), .val (.int xn), .val (.int xp), .val (.int y0), .val (.int y1), .val (.int y2), .val (.ref x), .val (.int (1 : Int32)), .val (.int (3 : Int32)), .val (.int (1 : Int32))] [(.ref x)])) rfl (by rw [hml]; rfl) (lenOf own_pd2 rfl) rfl (by show 2 * 0 + _ ≤ _; exact Nat.le_of_eq rfl) (hb hby at_161)
  obtain ⟨rfl, rfl⟩ := qs31_9
  change own_S _ _ _ _ _ _ _ _ _ _ _ _ _ _ [(x, own_O "com/example/recourse/recourse/network/NodeHeap" [("com/example/recourse/recourse/network/NodeHeap", "nodes", "[I", .ref an), ("com/example/recourse/recourse/network/NodeHeap", "distances", "[D", .ref ad), ("com/example/recourse/recourse/network/NodeHeap", "remainders", "[D", .ref ar), ("com/example/recourse/recourse/network/NodeHeap", "size", "I", .int 2)]), (an, own_A .int ((.int g4_0) :: (.int g4_1) :: (.int g4_2) :: List.replicate mm (.int 0))), (ad, own_A .double ((.double g4_3) :: (.double g4_4) :: (.double g4_5) :: List.replicate mm (.double 0))), (ar, own_A .double ((.double g4_6) :: (.double g4_7) :: (.double g4_8) :: List.replicate mm (.double 0)))] _ _ at Hs31_9
  refine ⟨_, _, _, _, 188, #[.val (.int xc), .val (.int xn), .val (.int xp), .val (.int y0), .val (.int y1), .val (.int y2), .val (.ref x), .val (.int (1 : Int32)), .val (.int (3 : Int32)), .val (.int (1 : Int32))], Hs31_9, by decide, by decide, Or.inr ⟨.boolean, (.int (1 : Int32)), [], .ireturn, rfl, rfl, at_188, own_retZ (Or.inr rfl), fun target q => ?_⟩⟩
  refine sts31_1 _ ?_
  refine own_go Hs31_1 hx hZ hown hby hw own_K0_ok (own_s31_0 xc xn xp y0 y1 y2 x v7 hv7 v10 hv10) _ ?_
  refine sts31_2 _ ?_
  refine own_go Hs31_2 hx hZ hown hby hw own_K0_ok (own_s31_1 xc xn xp y0 y1 y2 x) _ ?_
  refine sts31_3 _ ?_
  refine own_go Hs31_3 hx hZ hown hby hw own_K0_ok (own_s31_2 xc xn xp y0 y1 y2 x hkk hpp v53 hv53) _ ?_
  refine sts31_4 _ ?_
  refine own_go Hs31_4 hx hZ hown hby hw own_K0_ok (own_s31_3 xc xn xp y0 y1 y2 x v69 hv69) _ ?_
  refine sts31_5 _ ?_
  refine own_go Hs31_5 hx hZ hown hby hw own_K0_ok (own_s31_4 xc xn xp y0 y1 y2 x v85 hv85) _ ?_
  refine sts31_6 _ ?_
  refine own_go Hs31_6 hx hZ hown hby hw own_K0_ok (own_s31_5 xc xn xp y0 y1 y2 x) _ ?_
  refine sts31_7 _ ?_
  refine own_go Hs31_7 hx hZ hown hby hw own_K0_ok (own_s31_6 xc xn xp y0 y1 y2 x) _ ?_
  refine sts31_8 _ ?_
  refine own_go Hs31_8 hx hZ hown hby hw own_K0_ok (own_s31_7 xc xn xp y0 y1 y2 x rv4) _ ?_
  refine sts31_9 _ ?_
  refine own_go Hs31_9 hx hZ hown hby hw own_K0_ok (own_s31_8 xc xn xp y0 y1 y2 x) _ ?_
  exact q
theorem own_s32_0 (xc : Int32) (xn : Int32) (xp : Int32) (y0 : Int32) (y1 : Int32) (y2 : Int32) (x : Addr) (v7 : Int32) (hv7 : (xc &&& (63 : Int32)) = v7) (v10 : Int32) (hv10 : (v7 - (16 : Int32)) = v10) :
    own_Go own_K0 code 3 #[.val (.int xc), .val (.int xn), .val (.int xp), .val (.int y0), .val (.int y1), .val (.int y2), .unset, .unset, .unset, .unset] [(.ref x)] 11 #[.val (.int xc), .val (.int xn), .val (.int xp), .val (.int y0), .val (.int y1), .val (.int y2), .unset, .unset, .unset, .unset] [(.int v10), (.ref x), (.ref x)] := by
  refine own_dup (pc2 := 4) at_3 rfl rfl ?_
  refine own_iloadN (pc2 := 5) at_4 rfl rfl ?_
  refine own_bipush (v := 63) (pc2 := 7) at_5 rfl rfl ?_
  refine own_iand (pc2 := 8) at_7 rfl (v := v7) hv7 ?_
  refine own_bipush (v := 16) (pc2 := 10) at_8 rfl rfl ?_
  refine own_isub (pc2 := 11) at_10 rfl (v := v10) hv10 ?_
  exact own_refl
theorem own_s32_1 (xc : Int32) (xn : Int32) (xp : Int32) (y0 : Int32) (y1 : Int32) (y2 : Int32) (x : Addr) :
    own_Go own_K0 code 14 #[.val (.int xc), .val (.int xn), .val (.int xp), .val (.int y0), .val (.int y1), .val (.int y2), .unset, .unset, .unset, .unset] [(.ref x)] 18 #[.val (.int xc), .val (.int xn), .val (.int xp), .val (.int y0), .val (.int y1), .val (.int y2), .val (.ref x), .unset, .unset, .unset] [(.ref x)] := by
  refine own_astore (pc2 := 16) at_14 rfl rfl (L' := #[.val (.int xc), .val (.int xn), .val (.int xp), .val (.int y0), .val (.int y1), .val (.int y2), .val (.ref x), .unset, .unset, .unset]) rfl ?_
  refine own_aload (pc2 := 18) at_16 rfl rfl rfl ?_
  exact own_refl
theorem own_s32_2 (xc : Int32) (xn : Int32) (xp : Int32) (y0 : Int32) (y1 : Int32) (y2 : Int32) (x : Addr) (hkk : (xn &&& (3 : Int32)) = (3 : Int32)) (hpp : (xp &&& (3 : Int32)) = (2 : Int32)) (v53 : UInt64) (hv53 : (FP.i2d y0) = v53) :
    own_Go own_K0 code 21 #[.val (.int xc), .val (.int xn), .val (.int xp), .val (.int y0), .val (.int y1), .val (.int y2), .val (.ref x), .unset, .unset, .unset] [(.int (1 : Int32))] 54 #[.val (.int xc), .val (.int xn), .val (.int xp), .val (.int y0), .val (.int y1), .val (.int y2), .val (.ref x), .val (.int (1 : Int32)), .val (.int (3 : Int32)), .val (.int (2 : Int32))] [(.double v53), (.int y0), (.ref x)] := by
  refine own_istore (pc2 := 23) at_21 rfl (L' := #[.val (.int xc), .val (.int xn), .val (.int xp), .val (.int y0), .val (.int y1), .val (.int y2), .val (.ref x), .val (.int (1 : Int32)), .unset, .unset]) rfl ?_
  refine own_iloadN (pc2 := 24) at_23 rfl rfl ?_
  refine own_iconst (v := 3) (pc2 := 25) at_24 rfl rfl ?_
  refine own_iand (pc2 := 26) at_25 rfl (v := (3 : Int32)) hkk ?_
  refine own_istore (pc2 := 28) at_26 rfl (L' := #[.val (.int xc), .val (.int xn), .val (.int xp), .val (.int y0), .val (.int y1), .val (.int y2), .val (.ref x), .val (.int (1 : Int32)), .val (.int (3 : Int32)), .unset]) rfl ?_
  refine own_iloadN (pc2 := 29) at_28 rfl rfl ?_
  refine own_iconst (v := 3) (pc2 := 30) at_29 rfl rfl ?_
  refine own_iand (pc2 := 31) at_30 rfl (v := (2 : Int32)) hpp ?_
  refine own_istore (pc2 := 33) at_31 rfl (L' := #[.val (.int xc), .val (.int xn), .val (.int xp), .val (.int y0), .val (.int y1), .val (.int y2), .val (.ref x), .val (.int (1 : Int32)), .val (.int (3 : Int32)), .val (.int (2 : Int32))]) rfl ?_
  refine own_iload (pc2 := 35) at_33 rfl rfl ?_
  refine own_iload (pc2 := 37) at_35 rfl rfl ?_
  refine own_icmpYes (pc' := 44) at_37 (by decide) (by decide) (by decide) ?_
  refine own_iload (pc2 := 46) at_44 rfl rfl ?_
  refine own_ifNo (pc2 := 49) at_46 rfl (by decide) ?_
  refine own_aload (pc2 := 51) at_49 rfl rfl rfl ?_
  refine own_iloadN (pc2 := 52) at_51 rfl rfl ?_
  refine own_iloadN (pc2 := 53) at_52 rfl rfl ?_
  refine own_i2d (pc2 := 54) at_53 rfl (v := v53) hv53 ?_
  exact own_refl
theorem own_s32_3 (xc : Int32) (xn : Int32) (xp : Int32) (y0 : Int32) (y1 : Int32) (y2 : Int32) (x : Addr) (v69 : UInt64) (hv69 : (FP.i2d y1) = v69) :
    own_Go own_K0 code 57 #[.val (.int xc), .val (.int xn), .val (.int xp), .val (.int y0), .val (.int y1), .val (.int y2), .val (.ref x), .val (.int (1 : Int32)), .val (.int (3 : Int32)), .val (.int (2 : Int32))] [] 70 #[.val (.int xc), .val (.int xn), .val (.int xp), .val (.int y0), .val (.int y1), .val (.int y2), .val (.ref x), .val (.int (1 : Int32)), .val (.int (3 : Int32)), .val (.int (2 : Int32))] [(.double v69), (.int y1), (.ref x)] := by
  refine own_iload (pc2 := 59) at_57 rfl rfl ?_
  refine own_iconst (v := 1) (pc2 := 60) at_59 rfl rfl ?_
  refine own_icmpNo (pc2 := 63) at_60 rfl (by decide) ?_
  refine own_aload (pc2 := 65) at_63 rfl rfl rfl ?_
  refine own_iload (pc2 := 67) at_65 rfl rfl ?_
  refine own_iload (pc2 := 69) at_67 rfl rfl ?_
  refine own_i2d (pc2 := 70) at_69 rfl (v := v69) hv69 ?_
  exact own_refl
theorem own_s32_4 (xc : Int32) (xn : Int32) (xp : Int32) (y0 : Int32) (y1 : Int32) (y2 : Int32) (x : Addr) (v85 : UInt64) (hv85 : (FP.i2d y2) = v85) :
    own_Go own_K0 code 73 #[.val (.int xc), .val (.int xn), .val (.int xp), .val (.int y0), .val (.int y1), .val (.int y2), .val (.ref x), .val (.int (1 : Int32)), .val (.int (3 : Int32)), .val (.int (2 : Int32))] [] 86 #[.val (.int xc), .val (.int xn), .val (.int xp), .val (.int y0), .val (.int y1), .val (.int y2), .val (.ref x), .val (.int (1 : Int32)), .val (.int (3 : Int32)), .val (.int (2 : Int32))] [(.double v85), (.int y2), (.ref x)] := by
  refine own_iload (pc2 := 75) at_73 rfl rfl ?_
  refine own_iconst (v := 2) (pc2 := 76) at_75 rfl rfl ?_
  refine own_icmpNo (pc2 := 79) at_76 rfl (by decide) ?_
  refine own_aload (pc2 := 81) at_79 rfl rfl rfl ?_
  refine own_iload (pc2 := 83) at_81 rfl rfl ?_
  refine own_iload (pc2 := 85) at_83 rfl rfl ?_
  refine own_i2d (pc2 := 86) at_85 rfl (v := v85) hv85 ?_
  exact own_refl
theorem own_s32_5 (xc : Int32) (xn : Int32) (xp : Int32) (y0 : Int32) (y1 : Int32) (y2 : Int32) (x : Addr) :
    own_Go own_K0 code 89 #[.val (.int xc), .val (.int xn), .val (.int xp), .val (.int y0), .val (.int y1), .val (.int y2), .val (.ref x), .val (.int (1 : Int32)), .val (.int (3 : Int32)), .val (.int (2 : Int32))] [] 96 #[.val (.int xc), .val (.int xn), .val (.int xp), .val (.int y0), .val (.int y1), .val (.int y2), .val (.ref x), .val (.int (1 : Int32)), .val (.int (3 : Int32)), .val (.int (2 : Int32))] [(.ref x)] := by
  refine own_iload (pc2 := 91) at_89 rfl rfl ?_
  refine own_ifNo (pc2 := 94) at_91 rfl (by decide) ?_
  refine own_aload (pc2 := 96) at_94 rfl rfl rfl ?_
  exact own_refl
theorem own_s32_6 (xc : Int32) (xn : Int32) (xp : Int32) (y0 : Int32) (y1 : Int32) (y2 : Int32) (x : Addr) :
    own_Go own_K0 code 99 #[.val (.int xc), .val (.int xn), .val (.int xp), .val (.int y0), .val (.int y1), .val (.int y2), .val (.ref x), .val (.int (1 : Int32)), .val (.int (3 : Int32)), .val (.int (2 : Int32))] [(.int (0 : Int32))] 126 #[.val (.int xc), .val (.int xn), .val (.int xp), .val (.int y0), .val (.int y1), .val (.int y2), .val (.ref x), .val (.int (1 : Int32)), .val (.int (3 : Int32)), .val (.int (2 : Int32))] [(.ref x)] := by
  refine own_iload (pc2 := 101) at_99 rfl rfl ?_
  refine own_ifYes (pc' := 108) at_101 (by decide) (by decide) (by decide) ?_
  refine own_iconst (v := 0) (pc2 := 109) at_108 rfl rfl ?_
  refine own_icmpNo (pc2 := 112) at_109 rfl (by decide) ?_
  refine own_iconst (v := 1) (pc2 := 113) at_112 rfl rfl ?_
  refine own_goto (pc' := 117) at_113 (by decide) (by decide) ?_
  refine own_istore (pc2 := 119) at_117 rfl (L' := #[.val (.int xc), .val (.int xn), .val (.int xp), .val (.int y0), .val (.int y1), .val (.int y2), .val (.ref x), .val (.int (1 : Int32)), .val (.int (3 : Int32)), .val (.int (2 : Int32))]) rfl ?_
  refine own_iload (pc2 := 121) at_119 rfl rfl ?_
  refine own_ifNo (pc2 := 124) at_121 rfl (by decide) ?_
  refine own_aload (pc2 := 126) at_124 rfl rfl rfl ?_
  exact own_refl
theorem own_s32_7 (xc : Int32) (xn : Int32) (xp : Int32) (y0 : Int32) (y1 : Int32) (y2 : Int32) (x : Addr) (rv4 : Int32) :
    own_Go own_K0 code 129 #[.val (.int xc), .val (.int xn), .val (.int xp), .val (.int y0), .val (.int y1), .val (.int y2), .val (.ref x), .val (.int (1 : Int32)), .val (.int (3 : Int32)), .val (.int (2 : Int32))] [(.int rv4)] 138 #[.val (.int xc), .val (.int xn), .val (.int xp), .val (.int y0), .val (.int y1), .val (.int y2), .val (.ref x), .val (.int (1 : Int32)), .val (.int (3 : Int32)), .val (.int (2 : Int32))] [(.ref x)] := by
  refine own_pop (pc2 := 130) at_129 rfl rfl ?_
  refine own_iload (pc2 := 132) at_130 rfl rfl ?_
  refine own_iconst (v := 1) (pc2 := 133) at_132 rfl rfl ?_
  refine own_icmpNo (pc2 := 136) at_133 rfl (by decide) ?_
  refine own_aload (pc2 := 138) at_136 rfl rfl rfl ?_
  exact own_refl
theorem own_s32_8 (xc : Int32) (xn : Int32) (xp : Int32) (y0 : Int32) (y1 : Int32) (y2 : Int32) (x : Addr) (rv5 : Int32) :
    own_Go own_K0 code 141 #[.val (.int xc), .val (.int xn), .val (.int xp), .val (.int y0), .val (.int y1), .val (.int y2), .val (.ref x), .val (.int (1 : Int32)), .val (.int (3 : Int32)), .val (.int (2 : Int32))] [(.int rv5)] 161 #[.val (.int xc), .val (.int xn), .val (.int xp), .val (.int y0), .val (.int y1), .val (.int y2), .val (.ref x), .val (.int (1 : Int32)), .val (.int (3 : Int32)), .val (.int (2 : Int32))] [(.ref x)] := by
  refine own_pop (pc2 := 142) at_141 rfl rfl ?_
  refine own_iload (pc2 := 144) at_142 rfl rfl ?_
  refine own_iconst (v := 2) (pc2 := 145) at_144 rfl rfl ?_
  refine own_icmpYes (pc' := 154) at_145 (by decide) (by decide) (by decide) ?_
  refine own_iload (pc2 := 156) at_154 rfl rfl ?_
  refine own_ifNo (pc2 := 159) at_156 rfl (by decide) ?_
  refine own_aload (pc2 := 161) at_159 rfl rfl rfl ?_
  exact own_refl
theorem own_s32_9 (xc : Int32) (xn : Int32) (xp : Int32) (y0 : Int32) (y1 : Int32) (y2 : Int32) (x : Addr) :
    own_Go own_K0 code 164 #[.val (.int xc), .val (.int xn), .val (.int xp), .val (.int y0), .val (.int y1), .val (.int y2), .val (.ref x), .val (.int (1 : Int32)), .val (.int (3 : Int32)), .val (.int (2 : Int32))] [(.int (0 : Int32))] 188 #[.val (.int xc), .val (.int xn), .val (.int xp), .val (.int y0), .val (.int y1), .val (.int y2), .val (.ref x), .val (.int (1 : Int32)), .val (.int (3 : Int32)), .val (.int (2 : Int32))] [(.int (1 : Int32))] := by
  refine own_iload (pc2 := 166) at_164 rfl rfl ?_
  refine own_iload (pc2 := 168) at_166 rfl rfl ?_
  refine own_icmpYes (pc' := 175) at_168 (by decide) (by decide) (by decide) ?_
  refine own_iconst (v := 0) (pc2 := 176) at_175 rfl rfl ?_
  refine own_icmpNo (pc2 := 179) at_176 rfl (by decide) ?_
  refine own_iconst (v := 1) (pc2 := 180) at_179 rfl rfl ?_
  refine own_goto (pc' := 184) at_180 (by decide) (by decide) ?_
  refine own_istore (pc2 := 186) at_184 rfl (L' := #[.val (.int xc), .val (.int xn), .val (.int xp), .val (.int y0), .val (.int y1), .val (.int y2), .val (.ref x), .val (.int (1 : Int32)), .val (.int (3 : Int32)), .val (.int (2 : Int32))]) rfl ?_
  refine own_iload (pc2 := 188) at_186 rfl rfl ?_
  exact own_refl
set_option maxRecDepth 65536 in
set_option maxHeartbeats 40000000 in
theorem own_law32 (l : Launch) (Z : State) (a0 : Array Value) (hb0 : Heap) (hw : ∀ d ∈ tables_1, d.before a0 Z = true) (xc : Int32) (xn : Int32) (xp : Int32) (y0 : Int32) (y1 : Int32) (y2 : Int32) (hkk : (xn &&& (3 : Int32)) = (3 : Int32)) (hpp : (xp &&& (3 : Int32)) = (2 : Int32)) :
    own_Met l Z a0 hb0 x code maxLocals ret tables_1 room_1 #[(.int xc), (.int xn), (.int xp), (.int y0), (.int y1), (.int y2)] [] (fun v _ => v = some (.int 1)) := by
  refine own_met_of (L0 := #[.val (.int xc), .val (.int xn), .val (.int xp), .val (.int y0), .val (.int y1), .val (.int y2), .unset, .unset, .unset, .unset]) (plainFor_of_name own_pn0) (fun m => own_ef0 m xc xn xp y0 y1 y2) ?_
  intro p e s m below meth c T0 hx hZ hown hby hml hnm H0
  have hown : s.vm.findClass "com/example/recourse/recourse/network/NodeHeapIsEmptyPinLaw" = some m.cls := hown
  have hml : c.maxLocals = 10 := hml
  obtain ⟨Ts32_1, x, Hs32_1, sts32_1⟩ := own_newO H0 hx hZ hown (hw _ (List.mem_of_getElem? (i := 0) rfl)) (hw _ (List.mem_of_getElem? (i := 1) rfl)) (hw _ (List.mem_of_getElem? (i := 2) rfl)) [("com/example/recourse/recourse/network/NodeHeap", "nodes", "[I", .null), ("com/example/recourse/recourse/network/NodeHeap", "distances", "[D", .null), ("com/example/recourse/recourse/network/NodeHeap", "remainders", "[D", .null), ("com/example/recourse/recourse/network/NodeHeap", "size", "I", .int 0)] (by
      intro f hf
      simp only [List.mem_cons, List.not_mem_nil, or_false] at hf
      rcases hf with rfl | rfl | rfl | rfl
      · exact ⟨Or.inl (hw _ (List.mem_of_getElem? (i := 15) rfl)), (.array .int), by decide, rfl⟩
      · exact ⟨Or.inl (hw _ (List.mem_of_getElem? (i := 18) rfl)), (.array .double), by decide, rfl⟩
      · exact ⟨Or.inl (hw _ (List.mem_of_getElem? (i := 20) rfl)), (.array .double), by decide, rfl⟩
      · exact ⟨Or.inl (hw _ (List.mem_of_getElem? (i := 27) rfl)), .int, by decide, rfl⟩) (by decide) (g := (mkF m 0 #[.val (.int xc), .val (.int xn), .val (.int xp), .val (.int y0), .val (.int y1), .val (.int y2), .unset, .unset, .unset, .unset] [])) rfl (hb hby at_0) (by decide) (by decide)
  change own_S _ _ _ _ _ _ _ _ _ _ _ _ _ _ [(x, own_O "com/example/recourse/recourse/network/NodeHeap" [("com/example/recourse/recourse/network/NodeHeap", "nodes", "[I", .null), ("com/example/recourse/recourse/network/NodeHeap", "distances", "[D", .null), ("com/example/recourse/recourse/network/NodeHeap", "remainders", "[D", .null), ("com/example/recourse/recourse/network/NodeHeap", "size", "I", .int 0)])] _ _ at Hs32_1
  obtain ⟨v7, hv7⟩ : ∃ z : Int32, (xc &&& (63 : Int32)) = z := ⟨_, rfl⟩
  obtain ⟨v10, hv10⟩ : ∃ z : Int32, (v7 - (16 : Int32)) = z := ⟨_, rfl⟩
  have hk : v10.toInt ≤ 47 := by
    have h1 := c_mask xc 63 6 (by decide) (by decide)
    have h2 := c_isub v7 16
    have := rng32 v10
    rw [hv7] at h1
    rw [hv10, show (16 : Int32).toInt = 16 from rfl] at h2
    omega
  obtain ⟨Ts32_2, vs32_2_, css32_2_, qs32_2, Hs32_2, sts32_2⟩ := own_callI Hs32_1 hx hZ hown rfl (hw _ (List.mem_of_getElem? (i := 3) rfl)) (hw _ (List.mem_of_getElem? (i := 4) rfl)) (hw _ (List.mem_of_getElem? (i := 2) rfl)) (hw _ (List.mem_of_getElem? (i := 5) rfl)) (by decide) (x := x) (argsL := [(.int v10)]) (rest := [(.ref x)]) (W := 1) (own_init l Z a0 hb0 hw x v10 hk) (by decide) (by decide) (by decide) (by decide) (g := (mkF m 11 #[.val (.int xc), .val (.int xn), .val (.int xp), .val (.int y0), .val (.int y1), .val (.int y2), .unset, .unset, .unset, .unset] [(.int v10), (.ref x), (.ref x)])) rfl (by rw [hml]; rfl) (lenOf own_pd4 rfl) rfl (by show 2 * 0 + _ ≤ _; exact Nat.le_of_eq rfl) (hb hby at_11)
  obtain ⟨an, ad, ar, mm, z, hl, hzz, rfl, rfl⟩ := qs32_2
  change own_S _ _ _ _ _ _ _ _ _ _ _ _ _ _ [(x, own_O "com/example/recourse/recourse/network/NodeHeap" [("com/example/recourse/recourse/network/NodeHeap", "nodes", "[I", .ref an), ("com/example/recourse/recourse/network/NodeHeap", "distances", "[D", .ref ad), ("com/example/recourse/recourse/network/NodeHeap", "remainders", "[D", .ref ar), ("com/example/recourse/recourse/network/NodeHeap", "size", "I", .int 0)]), (an, own_A .int ((.int 0) :: (.int 0) :: (.int 0) :: List.replicate mm (.int 0))), (ad, own_A .double ((.double 0) :: (.double 0) :: (.double 0) :: List.replicate mm (.double 0))), (ar, own_A .double ((.double 0) :: (.double 0) :: (.double 0) :: List.replicate mm (.double 0)))] _ _ at Hs32_2
  obtain ⟨Ts32_3, vs32_3_, css32_3_, qs32_3, Hs32_3, sts32_3⟩ := own_callV Hs32_2 hx hZ hown (hw _ (List.mem_of_getElem? (i := 21) rfl)) (hw _ (List.mem_of_getElem? (i := 22) rfl)) (hw _ (List.mem_of_getElem? (i := 24) rfl)) (hw _ (List.mem_of_getElem? (i := 23) rfl)) (hw _ (List.mem_of_getElem? (i := 2) rfl)) (hw _ (List.mem_of_getElem? (i := 25) rfl)) (by decide) (x := x) 0 rfl (argsL := []) (rest := []) (W := 0) (own_emp0 l Z a0 hb0 hw x an ad ar mm 0 0 0 0 0 0 0 0 0) (by decide) (by decide) (by decide) (by decide) (g := (mkF m 18 #[.val (.int xc), .val (.int xn), .val (.int xp), .val (.int y0), .val (.int y1), .val (.int y2), .val (.ref x), .unset, .unset, .unset] [(.ref x)])) rfl (by rw [hml]; rfl) (lenOf own_pd2 rfl) rfl (by show 2 * 0 + _ ≤ _; exact Nat.le_of_eq rfl) (hb hby at_18)
  obtain ⟨rfl, rfl⟩ := qs32_3
  change own_S _ _ _ _ _ _ _ _ _ _ _ _ _ _ [(x, own_O "com/example/recourse/recourse/network/NodeHeap" [("com/example/recourse/recourse/network/NodeHeap", "nodes", "[I", .ref an), ("com/example/recourse/recourse/network/NodeHeap", "distances", "[D", .ref ad), ("com/example/recourse/recourse/network/NodeHeap", "remainders", "[D", .ref ar), ("com/example/recourse/recourse/network/NodeHeap", "size", "I", .int 0)]), (an, own_A .int ((.int 0) :: (.int 0) :: (.int 0) :: List.replicate mm (.int 0))), (ad, own_A .double ((.double 0) :: (.double 0) :: (.double 0) :: List.replicate mm (.double 0))), (ar, own_A .double ((.double 0) :: (.double 0) :: (.double 0) :: List.replicate mm (.double 0)))] _ _ at Hs32_3
  obtain ⟨v53, hv53⟩ : ∃ z : UInt64, (FP.i2d y0) = z := ⟨_, rfl⟩
  obtain ⟨Ts32_4, vs32_4_, css32_4_, qs32_4, Hs32_4, sts32_4⟩ := own_callV Hs32_3 hx hZ hown (hw _ (List.mem_of_getElem? (i := 28) rfl)) (hw _ (List.mem_of_getElem? (i := 29) rfl)) (hw _ (List.mem_of_getElem? (i := 31) rfl)) (hw _ (List.mem_of_getElem? (i := 30) rfl)) (hw _ (List.mem_of_getElem? (i := 2) rfl)) (hw _ (List.mem_of_getElem? (i := 32) rfl)) (by decide) (x := x) 0 rfl (argsL := [(.int y0), (.double v53)]) (rest := []) (W := 0) (own_adi0 l Z a0 hb0 hw x _ _ an ad ar mm 0 0 0 0 0 0 0 0 0 z hl hzz) (by decide) (by decide) (by decide) (by decide) (g := (mkF m 54 #[.val (.int xc), .val (.int xn), .val (.int xp), .val (.int y0), .val (.int y1), .val (.int y2), .val (.ref x), .val (.int (1 : Int32)), .val (.int (3 : Int32)), .val (.int (2 : Int32))] [(.double v53), (.int y0), (.ref x)])) rfl (by rw [hml]; rfl) (lenOf own_pd5 rfl) rfl (by show 2 * 0 + _ ≤ _; exact Nat.le_of_eq rfl) (hb hby at_54)
  obtain ⟨g1_0, g1_1, g1_2, g1_3, g1_4, g1_5, g1_6, g1_7, g1_8, rfl, rfl⟩ := qs32_4
  change own_S _ _ _ _ _ _ _ _ _ _ _ _ _ _ [(x, own_O "com/example/recourse/recourse/network/NodeHeap" [("com/example/recourse/recourse/network/NodeHeap", "nodes", "[I", .ref an), ("com/example/recourse/recourse/network/NodeHeap", "distances", "[D", .ref ad), ("com/example/recourse/recourse/network/NodeHeap", "remainders", "[D", .ref ar), ("com/example/recourse/recourse/network/NodeHeap", "size", "I", .int 1)]), (an, own_A .int ((.int g1_0) :: (.int g1_1) :: (.int g1_2) :: List.replicate mm (.int 0))), (ad, own_A .double ((.double g1_3) :: (.double g1_4) :: (.double g1_5) :: List.replicate mm (.double 0))), (ar, own_A .double ((.double g1_6) :: (.double g1_7) :: (.double g1_8) :: List.replicate mm (.double 0)))] _ _ at Hs32_4
  obtain ⟨v69, hv69⟩ : ∃ z : UInt64, (FP.i2d y1) = z := ⟨_, rfl⟩
  obtain ⟨Ts32_5, vs32_5_, css32_5_, qs32_5, Hs32_5, sts32_5⟩ := own_callV Hs32_4 hx hZ hown (hw _ (List.mem_of_getElem? (i := 28) rfl)) (hw _ (List.mem_of_getElem? (i := 29) rfl)) (hw _ (List.mem_of_getElem? (i := 31) rfl)) (hw _ (List.mem_of_getElem? (i := 30) rfl)) (hw _ (List.mem_of_getElem? (i := 2) rfl)) (hw _ (List.mem_of_getElem? (i := 32) rfl)) (by decide) (x := x) 0 rfl (argsL := [(.int y1), (.double v69)]) (rest := []) (W := 0) (own_adi1 l Z a0 hb0 hw x _ _ an ad ar mm g1_0 g1_1 g1_2 g1_3 g1_4 g1_5 g1_6 g1_7 g1_8 z hl hzz) (by decide) (by decide) (by decide) (by decide) (g := (mkF m 70 #[.val (.int xc), .val (.int xn), .val (.int xp), .val (.int y0), .val (.int y1), .val (.int y2), .val (.ref x), .val (.int (1 : Int32)), .val (.int (3 : Int32)), .val (.int (2 : Int32))] [(.double v69), (.int y1), (.ref x)])) rfl (by rw [hml]; rfl) (lenOf own_pd5 rfl) rfl (by show 2 * 0 + _ ≤ _; exact Nat.le_of_eq rfl) (hb hby at_70)
  obtain ⟨g2_0, g2_1, g2_2, g2_3, g2_4, g2_5, g2_6, g2_7, g2_8, rfl, rfl⟩ := qs32_5
  change own_S _ _ _ _ _ _ _ _ _ _ _ _ _ _ [(x, own_O "com/example/recourse/recourse/network/NodeHeap" [("com/example/recourse/recourse/network/NodeHeap", "nodes", "[I", .ref an), ("com/example/recourse/recourse/network/NodeHeap", "distances", "[D", .ref ad), ("com/example/recourse/recourse/network/NodeHeap", "remainders", "[D", .ref ar), ("com/example/recourse/recourse/network/NodeHeap", "size", "I", .int 2)]), (an, own_A .int ((.int g2_0) :: (.int g2_1) :: (.int g2_2) :: List.replicate mm (.int 0))), (ad, own_A .double ((.double g2_3) :: (.double g2_4) :: (.double g2_5) :: List.replicate mm (.double 0))), (ar, own_A .double ((.double g2_6) :: (.double g2_7) :: (.double g2_8) :: List.replicate mm (.double 0)))] _ _ at Hs32_5
  obtain ⟨v85, hv85⟩ : ∃ z : UInt64, (FP.i2d y2) = z := ⟨_, rfl⟩
  obtain ⟨Ts32_6, vs32_6_, css32_6_, qs32_6, Hs32_6, sts32_6⟩ := own_callV Hs32_5 hx hZ hown (hw _ (List.mem_of_getElem? (i := 28) rfl)) (hw _ (List.mem_of_getElem? (i := 29) rfl)) (hw _ (List.mem_of_getElem? (i := 31) rfl)) (hw _ (List.mem_of_getElem? (i := 30) rfl)) (hw _ (List.mem_of_getElem? (i := 2) rfl)) (hw _ (List.mem_of_getElem? (i := 32) rfl)) (by decide) (x := x) 0 rfl (argsL := [(.int y2), (.double v85)]) (rest := []) (W := 0) (own_adi2 l Z a0 hb0 hw x _ _ an ad ar mm g2_0 g2_1 g2_2 g2_3 g2_4 g2_5 g2_6 g2_7 g2_8 z hl hzz) (by decide) (by decide) (by decide) (by decide) (g := (mkF m 86 #[.val (.int xc), .val (.int xn), .val (.int xp), .val (.int y0), .val (.int y1), .val (.int y2), .val (.ref x), .val (.int (1 : Int32)), .val (.int (3 : Int32)), .val (.int (2 : Int32))] [(.double v85), (.int y2), (.ref x)])) rfl (by rw [hml]; rfl) (lenOf own_pd5 rfl) rfl (by show 2 * 0 + _ ≤ _; exact Nat.le_of_eq rfl) (hb hby at_86)
  obtain ⟨g3_0, g3_1, g3_2, g3_3, g3_4, g3_5, g3_6, g3_7, g3_8, rfl, rfl⟩ := qs32_6
  change own_S _ _ _ _ _ _ _ _ _ _ _ _ _ _ [(x, own_O "com/example/recourse/recourse/network/NodeHeap" [("com/example/recourse/recourse/network/NodeHeap", "nodes", "[I", .ref an), ("com/example/recourse/recourse/network/NodeHeap", "distances", "[D", .ref ad), ("com/example/recourse/recourse/network/NodeHeap", "remainders", "[D", .ref ar), ("com/example/recourse/recourse/network/NodeHeap", "size", "I", .int 3)]), (an, own_A .int ((.int g3_0) :: (.int g3_1) :: (.int g3_2) :: List.replicate mm (.int 0))), (ad, own_A .double ((.double g3_3) :: (.double g3_4) :: (.double g3_5) :: List.replicate mm (.double 0))), (ar, own_A .double ((.double g3_6) :: (.double g3_7) :: (.double g3_8) :: List.replicate mm (.double 0)))] _ _ at Hs32_6
  obtain ⟨Ts32_7, vs32_7_, css32_7_, qs32_7, Hs32_7, sts32_7⟩ := own_callV Hs32_6 hx hZ hown (hw _ (List.mem_of_getElem? (i := 21) rfl)) (hw _ (List.mem_of_getElem? (i := 22) rfl)) (hw _ (List.mem_of_getElem? (i := 24) rfl)) (hw _ (List.mem_of_getElem? (i := 23) rfl)) (hw _ (List.mem_of_getElem? (i := 2) rfl)) (hw _ (List.mem_of_getElem? (i := 25) rfl)) (by decide) (x := x) 0 rfl (argsL := []) (rest := []) (W := 0) (own_emp3 l Z a0 hb0 hw x an ad ar mm g3_0 g3_1 g3_2 g3_3 g3_4 g3_5 g3_6 g3_7 g3_8) (by decide) (by decide) (by decide) (by decide) (g := (mkF m 96 #[.val (.int xc), .val (.int xn), .val (.int xp), .val (.int y0), .val (.int y1), .val (.int y2), .val (.ref x), .val (.int (1 : Int32)), .val (.int (3 : Int32)), .val (.int (2 : Int32))] [(.ref x)])) rfl (by rw [hml]; rfl) (lenOf own_pd2 rfl) rfl (by show 2 * 0 + _ ≤ _; exact Nat.le_of_eq rfl) (hb hby at_96)
  obtain ⟨rfl, rfl⟩ := qs32_7
  change own_S _ _ _ _ _ _ _ _ _ _ _ _ _ _ [(x, own_O "com/example/recourse/recourse/network/NodeHeap" [("com/example/recourse/recourse/network/NodeHeap", "nodes", "[I", .ref an), ("com/example/recourse/recourse/network/NodeHeap", "distances", "[D", .ref ad), ("com/example/recourse/recourse/network/NodeHeap", "remainders", "[D", .ref ar), ("com/example/recourse/recourse/network/NodeHeap", "size", "I", .int 3)]), (an, own_A .int ((.int g3_0) :: (.int g3_1) :: (.int g3_2) :: List.replicate mm (.int 0))), (ad, own_A .double ((.double g3_3) :: (.double g3_4) :: (.double g3_5) :: List.replicate mm (.double 0))), (ar, own_A .double ((.double g3_6) :: (.double g3_7) :: (.double g3_8) :: List.replicate mm (.double 0)))] _ _ at Hs32_7
  obtain ⟨Ts32_8, vs32_8_, css32_8_, qs32_8, Hs32_8, sts32_8⟩ := own_callV Hs32_7 hx hZ hown (hw _ (List.mem_of_getElem? (i := 46) rfl)) (hw _ (List.mem_of_getElem? (i := 47) rfl)) (hw _ (List.mem_of_getElem? (i := 49) rfl)) (hw _ (List.mem_of_getElem? (i := 48) rfl)) (hw _ (List.mem_of_getElem? (i := 2) rfl)) (hw _ (List.mem_of_getElem? (i := 50) rfl)) (by decide) (x := x) 0 rfl (argsL := []) (rest := []) (W := 0) (own_poll3 l Z a0 hb0 hw x an ad ar mm g3_0 g3_1 g3_2 g3_3 g3_4 g3_5 g3_6 g3_7 g3_8) (by decide) (by decide) (by decide) (by decide) (g := (mkF m 126 #[.val (.int xc), .val (.int xn), .val (.int xp), .val (.int y0), .val (.int y1), .val (.int y2), .val (.ref x), .val (.int (1 : Int32)), .val (.int (3 : Int32)), .val (.int (2 : Int32))] [(.ref x)])) rfl (by rw [hml]; rfl) (lenOf own_pd0 rfl) rfl (by show 2 * 0 + _ ≤ _; exact Nat.le_of_eq rfl) (hb hby at_126)
  obtain ⟨g4_0, g4_1, g4_2, g4_3, g4_4, g4_5, g4_6, g4_7, g4_8, rv4, rfl, rfl⟩ := qs32_8
  change own_S _ _ _ _ _ _ _ _ _ _ _ _ _ _ [(x, own_O "com/example/recourse/recourse/network/NodeHeap" [("com/example/recourse/recourse/network/NodeHeap", "nodes", "[I", .ref an), ("com/example/recourse/recourse/network/NodeHeap", "distances", "[D", .ref ad), ("com/example/recourse/recourse/network/NodeHeap", "remainders", "[D", .ref ar), ("com/example/recourse/recourse/network/NodeHeap", "size", "I", .int 2)]), (an, own_A .int ((.int g4_0) :: (.int g4_1) :: (.int g4_2) :: List.replicate mm (.int 0))), (ad, own_A .double ((.double g4_3) :: (.double g4_4) :: (.double g4_5) :: List.replicate mm (.double 0))), (ar, own_A .double ((.double g4_6) :: (.double g4_7) :: (.double g4_8) :: List.replicate mm (.double 0)))] _ _ at Hs32_8
  obtain ⟨Ts32_9, vs32_9_, css32_9_, qs32_9, Hs32_9, sts32_9⟩ := own_callV Hs32_8 hx hZ hown (hw _ (List.mem_of_getElem? (i := 46) rfl)) (hw _ (List.mem_of_getElem? (i := 47) rfl)) (hw _ (List.mem_of_getElem? (i := 49) rfl)) (hw _ (List.mem_of_getElem? (i := 48) rfl)) (hw _ (List.mem_of_getElem? (i := 2) rfl)) (hw _ (List.mem_of_getElem? (i := 50) rfl)) (by decide) (x := x) 0 rfl (argsL := []) (rest := []) (W := 0) (own_poll2 l Z a0 hb0 hw x an ad ar mm g4_0 g4_1 g4_2 g4_3 g4_4 g4_5 g4_6 g4_7 g4_8) (by decide) (by decide) (by decide) (by decide) (g := (mkF m 138 #[.val (.int xc), .val (.int xn), .val (.int xp), .val (.int y0), .val (.int y1), .val (.int y2), .val (.ref x), .val (.int (1 : Int32)), .val (.int (3 : Int32)), .val (.int (2 : Int32))] [(.ref x)])) rfl (by rw [hml]; rfl) (lenOf own_pd0 rfl) rfl (by show 2 * 0 + _ ≤ _; exact Nat.le_of_eq rfl) (hb hby at_138)
  obtain ⟨g5_0, g5_1, g5_2, g5_3, g5_4, g5_5, g5_6, g5_7, g5_8, rv5, rfl, rfl⟩ := qs32_9
  change own_S _ _ _ _ _ _ _ _ _ _ _ _ _ _ [(x, own_O "com/example/recourse/recourse/network/NodeHeap" [("com/example/recourse/recourse/network/NodeHeap", "nodes", "[I", .ref an), ("com/example/recourse/recourse/network/NodeHeap", "distances", "[D", .ref ad), ("com/example/recourse/recourse/network/NodeHeap", "remainders", "[D", .ref ar), ("com/example/recourse/recourse/network/NodeHeap", "size", "I", .int 1)]), (an, own_A .int ((.int g5_0) :: (.int g5_1) :: (.int g5_2) :: List.replicate mm (.int 0))), (ad, own_A .double ((.double g5_3) :: (.double g5_4) :: (.double g5_5) :: List.replicate mm (.double 0))), (ar, own_A .double ((.double g5_6) :: (.double g5_7) :: (.double g5_8) :: List.replicate mm (.double 0)))] _ _ at Hs32_9
  obtain ⟨Ts32_10, vs32_10_, css32_10_, qs32_10, Hs32_10, sts32_10⟩ := own_callV Hs32_9 hx hZ hown (hw _ (List.mem_of_getElem? (i := 21) rfl)) (hw _ (List.mem_of_getElem? (i := 22) rfl)) (hw _ (List.mem_of_getElem? (i := 24) rfl)) (hw _ (List.mem_of_getElem? (i := 23) rfl)) (hw _ (List.mem_of_getElem? (i := 2) rfl)) (hw _ (List.mem_of_getElem? (i := 25) rfl)) (by decide) (x := x) 0 rfl (argsL := []) (rest := []) (W := 0) (own_emp1 l Z a0 hb0 hw x an ad ar mm g5_0 g5_1 g5_2 g5_3 g5_4 g5_5 g5_6 g5_7 g5_8) (by decide) (by decide) (by decide) (by decide) (g := (mkF m 161 #[.val (.int xc), .val (.int xn), .val (.int xp), .val (.int y0), .val (.int y1), .val (.int y2), .val (.ref x), .val (.int (1 : Int32)), .val (.int (3 : Int32)), .val (.int (2 : Int32))] [(.ref x)])) rfl (by rw [hml]; rfl) (lenOf own_pd2 rfl) rfl (by show 2 * 0 + _ ≤ _; exact Nat.le_of_eq rfl) (hb hby at_161)
  obtain ⟨rfl, rfl⟩ := qs32_10
  change own_S _ _ _ _ _ _ _ _ _ _ _ _ _ _ [(x, own_O "com/example/recourse/recourse/network/NodeHeap" [("com/example/recourse/recourse/network/NodeHeap", "nodes", "[I", .ref an), ("com/example/recourse/recourse/network/NodeHeap", "distances", "[D", .ref ad), ("com/example/recourse/recourse/network/NodeHeap", "remainders", "[D", .ref ar), ("com/example/recourse/recourse/network/NodeHeap", "size", "I", .int 1)]), (an, own_A .int ((.int g5_0) :: (.int g5_1) :: (.int g5_2) :: List.replicate mm (.int 0))), (ad, own_A .double ((.double g5_3) :: (.double g5_4) :: (.double g5_5) :: List.replicate mm (.double 0))), (ar, own_A .double ((.double g5_6) :: (.double g5_7) :: (.double g5_8) :: List.replicate mm (.double 0)))] _ _ at Hs32_10
  refine ⟨_, _, _, _, 188, #[.val (.int xc), .val (.int xn), .val (.int xp), .val (.int y0), .val (.int y1), .val (.int y2), .val (.ref x), .val (.int (1 : Int32)), .val (.int (3 : Int32)), .val (.int (2 : Int32))], Hs32_10, by decide, by decide, Or.inr ⟨.boolean, (.int (1 : Int32)), [], .ireturn, rfl, rfl, at_188, own_retZ (Or.inr rfl), fun target q => ?_⟩⟩
  refine sts32_1 _ ?_
  refine own_go Hs32_1 hx hZ hown hby hw own_K0_ok (own_s32_0 xc xn xp y0 y1 y2 x v7 hv7 v10 hv10) _ ?_
  refine sts32_2 _ ?_
  refine own_go Hs32_2 hx hZ hown hby hw own_K0_ok (own_s32_1 xc xn xp y0 y1 y2 x) _ ?_
  refine sts32_3 _ ?_
  refine own_go Hs32_3 hx hZ hown hby hw own_K0_ok (own_s32_2 xc xn xp y0 y1 y2 x hkk hpp v53 hv53) _ ?_
  refine sts32_4 _ ?_
  refine own_go Hs32_4 hx hZ hown hby hw own_K0_ok (own_s32_3 xc xn xp y0 y1 y2 x v69 hv69) _ ?_
  refine sts32_5 _ ?_
  refine own_go Hs32_5 hx hZ hown hby hw own_K0_ok (own_s32_4 xc xn xp y0 y1 y2 x v85 hv85) _ ?_
  refine sts32_6 _ ?_
  refine own_go Hs32_6 hx hZ hown hby hw own_K0_ok (own_s32_5 xc xn xp y0 y1 y2 x) _ ?_
  refine sts32_7 _ ?_
  refine own_go Hs32_7 hx hZ hown hby hw own_K0_ok (own_s32_6 xc xn xp y0 y1 y2 x) _ ?_
  refine sts32_8 _ ?_
  refine own_go Hs32_8 hx hZ hown hby hw own_K0_ok (own_s32_7 xc xn xp y0 y1 y2 x rv4) _ ?_
  refine sts32_9 _ ?_
  refine own_go Hs32_9 hx hZ hown hby hw own_K0_ok (own_s32_8 xc xn xp y0 y1 y2 x rv5) _ ?_
  refine sts32_10 _ ?_
  refine own_go Hs32_10 hx hZ hown hby hw own_K0_ok (own_s32_9 xc xn xp y0 y1 y2 x) _ ?_
  exact q
theorem own_s33_0 (xc : Int32) (xn : Int32) (xp : Int32) (y0 : Int32) (y1 : Int32) (y2 : Int32) (x : Addr) (v7 : Int32) (hv7 : (xc &&& (63 : Int32)) = v7) (v10 : Int32) (hv10 : (v7 - (16 : Int32)) = v10) :
    own_Go own_K0 code 3 #[.val (.int xc), .val (.int xn), .val (.int xp), .val (.int y0), .val (.int y1), .val (.int y2), .unset, .unset, .unset, .unset] [(.ref x)] 11 #[.val (.int xc), .val (.int xn), .val (.int xp), .val (.int y0), .val (.int y1), .val (.int y2), .unset, .unset, .unset, .unset] [(.int v10), (.ref x), (.ref x)] := by
  refine own_dup (pc2 := 4) at_3 rfl rfl ?_
  refine own_iloadN (pc2 := 5) at_4 rfl rfl ?_
  refine own_bipush (v := 63) (pc2 := 7) at_5 rfl rfl ?_
  refine own_iand (pc2 := 8) at_7 rfl (v := v7) hv7 ?_
  refine own_bipush (v := 16) (pc2 := 10) at_8 rfl rfl ?_
  refine own_isub (pc2 := 11) at_10 rfl (v := v10) hv10 ?_
  exact own_refl
theorem own_s33_1 (xc : Int32) (xn : Int32) (xp : Int32) (y0 : Int32) (y1 : Int32) (y2 : Int32) (x : Addr) :
    own_Go own_K0 code 14 #[.val (.int xc), .val (.int xn), .val (.int xp), .val (.int y0), .val (.int y1), .val (.int y2), .unset, .unset, .unset, .unset] [(.ref x)] 18 #[.val (.int xc), .val (.int xn), .val (.int xp), .val (.int y0), .val (.int y1), .val (.int y2), .val (.ref x), .unset, .unset, .unset] [(.ref x)] := by
  refine own_astore (pc2 := 16) at_14 rfl rfl (L' := #[.val (.int xc), .val (.int xn), .val (.int xp), .val (.int y0), .val (.int y1), .val (.int y2), .val (.ref x), .unset, .unset, .unset]) rfl ?_
  refine own_aload (pc2 := 18) at_16 rfl rfl rfl ?_
  exact own_refl
theorem own_s33_2 (xc : Int32) (xn : Int32) (xp : Int32) (y0 : Int32) (y1 : Int32) (y2 : Int32) (x : Addr) (hkk : (xn &&& (3 : Int32)) = (3 : Int32)) (hpp : (xp &&& (3 : Int32)) = (3 : Int32)) (v53 : UInt64) (hv53 : (FP.i2d y0) = v53) :
    own_Go own_K0 code 21 #[.val (.int xc), .val (.int xn), .val (.int xp), .val (.int y0), .val (.int y1), .val (.int y2), .val (.ref x), .unset, .unset, .unset] [(.int (1 : Int32))] 54 #[.val (.int xc), .val (.int xn), .val (.int xp), .val (.int y0), .val (.int y1), .val (.int y2), .val (.ref x), .val (.int (1 : Int32)), .val (.int (3 : Int32)), .val (.int (3 : Int32))] [(.double v53), (.int y0), (.ref x)] := by
  refine own_istore (pc2 := 23) at_21 rfl (L' := #[.val (.int xc), .val (.int xn), .val (.int xp), .val (.int y0), .val (.int y1), .val (.int y2), .val (.ref x), .val (.int (1 : Int32)), .unset, .unset]) rfl ?_
  refine own_iloadN (pc2 := 24) at_23 rfl rfl ?_
  refine own_iconst (v := 3) (pc2 := 25) at_24 rfl rfl ?_
  refine own_iand (pc2 := 26) at_25 rfl (v := (3 : Int32)) hkk ?_
  refine own_istore (pc2 := 28) at_26 rfl (L' := #[.val (.int xc), .val (.int xn), .val (.int xp), .val (.int y0), .val (.int y1), .val (.int y2), .val (.ref x), .val (.int (1 : Int32)), .val (.int (3 : Int32)), .unset]) rfl ?_
  refine own_iloadN (pc2 := 29) at_28 rfl rfl ?_
  refine own_iconst (v := 3) (pc2 := 30) at_29 rfl rfl ?_
  refine own_iand (pc2 := 31) at_30 rfl (v := (3 : Int32)) hpp ?_
  refine own_istore (pc2 := 33) at_31 rfl (L' := #[.val (.int xc), .val (.int xn), .val (.int xp), .val (.int y0), .val (.int y1), .val (.int y2), .val (.ref x), .val (.int (1 : Int32)), .val (.int (3 : Int32)), .val (.int (3 : Int32))]) rfl ?_
  refine own_iload (pc2 := 35) at_33 rfl rfl ?_
  refine own_iload (pc2 := 37) at_35 rfl rfl ?_
  refine own_icmpYes (pc' := 44) at_37 (by decide) (by decide) (by decide) ?_
  refine own_iload (pc2 := 46) at_44 rfl rfl ?_
  refine own_ifNo (pc2 := 49) at_46 rfl (by decide) ?_
  refine own_aload (pc2 := 51) at_49 rfl rfl rfl ?_
  refine own_iloadN (pc2 := 52) at_51 rfl rfl ?_
  refine own_iloadN (pc2 := 53) at_52 rfl rfl ?_
  refine own_i2d (pc2 := 54) at_53 rfl (v := v53) hv53 ?_
  exact own_refl
theorem own_s33_3 (xc : Int32) (xn : Int32) (xp : Int32) (y0 : Int32) (y1 : Int32) (y2 : Int32) (x : Addr) (v69 : UInt64) (hv69 : (FP.i2d y1) = v69) :
    own_Go own_K0 code 57 #[.val (.int xc), .val (.int xn), .val (.int xp), .val (.int y0), .val (.int y1), .val (.int y2), .val (.ref x), .val (.int (1 : Int32)), .val (.int (3 : Int32)), .val (.int (3 : Int32))] [] 70 #[.val (.int xc), .val (.int xn), .val (.int xp), .val (.int y0), .val (.int y1), .val (.int y2), .val (.ref x), .val (.int (1 : Int32)), .val (.int (3 : Int32)), .val (.int (3 : Int32))] [(.double v69), (.int y1), (.ref x)] := by
  refine own_iload (pc2 := 59) at_57 rfl rfl ?_
  refine own_iconst (v := 1) (pc2 := 60) at_59 rfl rfl ?_
  refine own_icmpNo (pc2 := 63) at_60 rfl (by decide) ?_
  refine own_aload (pc2 := 65) at_63 rfl rfl rfl ?_
  refine own_iload (pc2 := 67) at_65 rfl rfl ?_
  refine own_iload (pc2 := 69) at_67 rfl rfl ?_
  refine own_i2d (pc2 := 70) at_69 rfl (v := v69) hv69 ?_
  exact own_refl
theorem own_s33_4 (xc : Int32) (xn : Int32) (xp : Int32) (y0 : Int32) (y1 : Int32) (y2 : Int32) (x : Addr) (v85 : UInt64) (hv85 : (FP.i2d y2) = v85) :
    own_Go own_K0 code 73 #[.val (.int xc), .val (.int xn), .val (.int xp), .val (.int y0), .val (.int y1), .val (.int y2), .val (.ref x), .val (.int (1 : Int32)), .val (.int (3 : Int32)), .val (.int (3 : Int32))] [] 86 #[.val (.int xc), .val (.int xn), .val (.int xp), .val (.int y0), .val (.int y1), .val (.int y2), .val (.ref x), .val (.int (1 : Int32)), .val (.int (3 : Int32)), .val (.int (3 : Int32))] [(.double v85), (.int y2), (.ref x)] := by
  refine own_iload (pc2 := 75) at_73 rfl rfl ?_
  refine own_iconst (v := 2) (pc2 := 76) at_75 rfl rfl ?_
  refine own_icmpNo (pc2 := 79) at_76 rfl (by decide) ?_
  refine own_aload (pc2 := 81) at_79 rfl rfl rfl ?_
  refine own_iload (pc2 := 83) at_81 rfl rfl ?_
  refine own_iload (pc2 := 85) at_83 rfl rfl ?_
  refine own_i2d (pc2 := 86) at_85 rfl (v := v85) hv85 ?_
  exact own_refl
theorem own_s33_5 (xc : Int32) (xn : Int32) (xp : Int32) (y0 : Int32) (y1 : Int32) (y2 : Int32) (x : Addr) :
    own_Go own_K0 code 89 #[.val (.int xc), .val (.int xn), .val (.int xp), .val (.int y0), .val (.int y1), .val (.int y2), .val (.ref x), .val (.int (1 : Int32)), .val (.int (3 : Int32)), .val (.int (3 : Int32))] [] 96 #[.val (.int xc), .val (.int xn), .val (.int xp), .val (.int y0), .val (.int y1), .val (.int y2), .val (.ref x), .val (.int (1 : Int32)), .val (.int (3 : Int32)), .val (.int (3 : Int32))] [(.ref x)] := by
  refine own_iload (pc2 := 91) at_89 rfl rfl ?_
  refine own_ifNo (pc2 := 94) at_91 rfl (by decide) ?_
  refine own_aload (pc2 := 96) at_94 rfl rfl rfl ?_
  exact own_refl
theorem own_s33_6 (xc : Int32) (xn : Int32) (xp : Int32) (y0 : Int32) (y1 : Int32) (y2 : Int32) (x : Addr) :
    own_Go own_K0 code 99 #[.val (.int xc), .val (.int xn), .val (.int xp), .val (.int y0), .val (.int y1), .val (.int y2), .val (.ref x), .val (.int (1 : Int32)), .val (.int (3 : Int32)), .val (.int (3 : Int32))] [(.int (0 : Int32))] 126 #[.val (.int xc), .val (.int xn), .val (.int xp), .val (.int y0), .val (.int y1), .val (.int y2), .val (.ref x), .val (.int (1 : Int32)), .val (.int (3 : Int32)), .val (.int (3 : Int32))] [(.ref x)] := by
  refine own_iload (pc2 := 101) at_99 rfl rfl ?_
  refine own_ifYes (pc' := 108) at_101 (by decide) (by decide) (by decide) ?_
  refine own_iconst (v := 0) (pc2 := 109) at_108 rfl rfl ?_
  refine own_icmpNo (pc2 := 112) at_109 rfl (by decide) ?_
  refine own_iconst (v := 1) (pc2 := 113) at_112 rfl rfl ?_
  refine own_goto (pc' := 117) at_113 (by decide) (by decide) ?_
  refine own_istore (pc2 := 119) at_117 rfl (L' := #[.val (.int xc), .val (.int xn), .val (.int xp), .val (.int y0), .val (.int y1), .val (.int y2), .val (.ref x), .val (.int (1 : Int32)), .val (.int (3 : Int32)), .val (.int (3 : Int32))]) rfl ?_
  refine own_iload (pc2 := 121) at_119 rfl rfl ?_
  refine own_ifNo (pc2 := 124) at_121 rfl (by decide) ?_
  refine own_aload (pc2 := 126) at_124 rfl rfl rfl ?_
  exact own_refl
theorem own_s33_7 (xc : Int32) (xn : Int32) (xp : Int32) (y0 : Int32) (y1 : Int32) (y2 : Int32) (x : Addr) (rv4 : Int32) :
    own_Go own_K0 code 129 #[.val (.int xc), .val (.int xn), .val (.int xp), .val (.int y0), .val (.int y1), .val (.int y2), .val (.ref x), .val (.int (1 : Int32)), .val (.int (3 : Int32)), .val (.int (3 : Int32))] [(.int rv4)] 138 #[.val (.int xc), .val (.int xn), .val (.int xp), .val (.int y0), .val (.int y1), .val (.int y2), .val (.ref x), .val (.int (1 : Int32)), .val (.int (3 : Int32)), .val (.int (3 : Int32))] [(.ref x)] := by
  refine own_pop (pc2 := 130) at_129 rfl rfl ?_
  refine own_iload (pc2 := 132) at_130 rfl rfl ?_
  refine own_iconst (v := 1) (pc2 := 133) at_132 rfl rfl ?_
  refine own_icmpNo (pc2 := 136) at_133 rfl (by decide) ?_
  refine own_aload (pc2 := 138) at_136 rfl rfl rfl ?_
  exact own_refl
theorem own_s33_8 (xc : Int32) (xn : Int32) (xp : Int32) (y0 : Int32) (y1 : Int32) (y2 : Int32) (x : Addr) (rv5 : Int32) :
    own_Go own_K0 code 141 #[.val (.int xc), .val (.int xn), .val (.int xp), .val (.int y0), .val (.int y1), .val (.int y2), .val (.ref x), .val (.int (1 : Int32)), .val (.int (3 : Int32)), .val (.int (3 : Int32))] [(.int rv5)] 150 #[.val (.int xc), .val (.int xn), .val (.int xp), .val (.int y0), .val (.int y1), .val (.int y2), .val (.ref x), .val (.int (1 : Int32)), .val (.int (3 : Int32)), .val (.int (3 : Int32))] [(.ref x)] := by
  refine own_pop (pc2 := 142) at_141 rfl rfl ?_
  refine own_iload (pc2 := 144) at_142 rfl rfl ?_
  refine own_iconst (v := 2) (pc2 := 145) at_144 rfl rfl ?_
  refine own_icmpNo (pc2 := 148) at_145 rfl (by decide) ?_
  refine own_aload (pc2 := 150) at_148 rfl rfl rfl ?_
  exact own_refl
theorem own_s33_9 (xc : Int32) (xn : Int32) (xp : Int32) (y0 : Int32) (y1 : Int32) (y2 : Int32) (x : Addr) (rv6 : Int32) :
    own_Go own_K0 code 153 #[.val (.int xc), .val (.int xn), .val (.int xp), .val (.int y0), .val (.int y1), .val (.int y2), .val (.ref x), .val (.int (1 : Int32)), .val (.int (3 : Int32)), .val (.int (3 : Int32))] [(.int rv6)] 161 #[.val (.int xc), .val (.int xn), .val (.int xp), .val (.int y0), .val (.int y1), .val (.int y2), .val (.ref x), .val (.int (1 : Int32)), .val (.int (3 : Int32)), .val (.int (3 : Int32))] [(.ref x)] := by
  refine own_pop (pc2 := 154) at_153 rfl rfl ?_
  refine own_iload (pc2 := 156) at_154 rfl rfl ?_
  refine own_ifNo (pc2 := 159) at_156 rfl (by decide) ?_
  refine own_aload (pc2 := 161) at_159 rfl rfl rfl ?_
  exact own_refl
theorem own_s33_10 (xc : Int32) (xn : Int32) (xp : Int32) (y0 : Int32) (y1 : Int32) (y2 : Int32) (x : Addr) :
    own_Go own_K0 code 164 #[.val (.int xc), .val (.int xn), .val (.int xp), .val (.int y0), .val (.int y1), .val (.int y2), .val (.ref x), .val (.int (1 : Int32)), .val (.int (3 : Int32)), .val (.int (3 : Int32))] [(.int (1 : Int32))] 188 #[.val (.int xc), .val (.int xn), .val (.int xp), .val (.int y0), .val (.int y1), .val (.int y2), .val (.ref x), .val (.int (1 : Int32)), .val (.int (3 : Int32)), .val (.int (3 : Int32))] [(.int (1 : Int32))] := by
  refine own_iload (pc2 := 166) at_164 rfl rfl ?_
  refine own_iload (pc2 := 168) at_166 rfl rfl ?_
  refine own_icmpNo (pc2 := 171) at_168 rfl (by decide) ?_
  refine own_iconst (v := 1) (pc2 := 172) at_171 rfl rfl ?_
  refine own_goto (pc' := 176) at_172 (by decide) (by decide) ?_
  refine own_icmpNo (pc2 := 179) at_176 rfl (by decide) ?_
  refine own_iconst (v := 1) (pc2 := 180) at_179 rfl rfl ?_
  refine own_goto (pc' := 184) at_180 (by decide) (by decide) ?_
  refine own_istore (pc2 := 186) at_184 rfl (L' := #[.val (.int xc), .val (.int xn), .val (.int xp), .val (.int y0), .val (.int y1), .val (.int y2), .val (.ref x), .val (.int (1 : Int32)), .val (.int (3 : Int32)), .val (.int (3 : Int32))]) rfl ?_
  refine own_iload (pc2 := 188) at_186 rfl rfl ?_
  exact own_refl
set_option maxRecDepth 65536 in
set_option maxHeartbeats 40000000 in
theorem own_law33 (l : Launch) (Z : State) (a0 : Array Value) (hb0 : Heap) (hw : ∀ d ∈ tables_1, d.before a0 Z = true) (xc : Int32) (xn : Int32) (xp : Int32) (y0 : Int32) (y1 : Int32) (y2 : Int32) (hkk : (xn &&& (3 : Int32)) = (3 : Int32)) (hpp : (xp &&& (3 : Int32)) = (3 : Int32)) :
    own_Met l Z a0 hb0 x code maxLocals ret tables_1 room_1 #[(.int xc), (.int xn), (.int xp), (.int y0), (.int y1), (.int y2)] [] (fun v _ => v = some (.int 1)) := by
  refine own_met_of (L0 := #[.val (.int xc), .val (.int xn), .val (.int xp), .val (.int y0), .val (.int y1), .val (.int y2), .unset, .unset, .unset, .unset]) (plainFor_of_name own_pn0) (fun m => own_ef0 m xc xn xp y0 y1 y2) ?_
  intro p e s m below meth c T0 hx hZ hown hby hml hnm H0
  have hown : s.vm.findClass "com/example/recourse/recourse/network/NodeHeapIsEmptyPinLaw" = some m.cls := hown
  have hml : c.maxLocals = 10 := hml
  obtain ⟨Ts33_1, x, Hs33_1, sts33_1⟩ := own_newO H0 hx hZ hown (hw _ (List.mem_of_getElem? (i := 0) rfl)) (hw _ (List.mem_of_getElem? (i := 1) rfl)) (hw _ (List.mem_of_getElem? (i := 2) rfl)) [("com/example/recourse/recourse/network/NodeHeap", "nodes", "[I", .null), ("com/example/recourse/recourse/network/NodeHeap", "distances", "[D", .null), ("com/example/recourse/recourse/network/NodeHeap", "remainders", "[D", .null), ("com/example/recourse/recourse/network/NodeHeap", "size", "I", .int 0)] (by
      intro f hf
      simp only [List.mem_cons, List.not_mem_nil, or_false] at hf
      rcases hf with rfl | rfl | rfl | rfl
      · exact ⟨Or.inl (hw _ (List.mem_of_getElem? (i := 15) rfl)), (.array .int), by decide, rfl⟩
      · exact ⟨Or.inl (hw _ (List.mem_of_getElem? (i := 18) rfl)), (.array .double), by decide, rfl⟩
      · exact ⟨Or.inl (hw _ (List.mem_of_getElem? (i := 20) rfl)), (.array .double), by decide, rfl⟩
      · exact ⟨Or.inl (hw _ (List.mem_of_getElem? (i := 27) rfl)), .int, by decide, rfl⟩) (by decide) (g := (mkF m 0 #[.val (.int xc), .val (.int xn), .val (.int xp), .val (.int y0), .val (.int y1), .val (.int y2), .unset, .unset, .unset, .unset] [])) rfl (hb hby at_0) (by decide) (by decide)
  change own_S _ _ _ _ _ _ _ _ _ _ _ _ _ _ [(x, own_O "com/example/recourse/recourse/network/NodeHeap" [("com/example/recourse/recourse/network/NodeHeap", "nodes", "[I", .null), ("com/example/recourse/recourse/network/NodeHeap", "distances", "[D", .null), ("com/example/recourse/recourse/network/NodeHeap", "remainders", "[D", .null), ("com/example/recourse/recourse/network/NodeHeap", "size", "I", .int 0)])] _ _ at Hs33_1
  obtain ⟨v7, hv7⟩ : ∃ z : Int32, (xc &&& (63 : Int32)) = z := ⟨_, rfl⟩
  obtain ⟨v10, hv10⟩ : ∃ z : Int32, (v7 - (16 : Int32)) = z := ⟨_, rfl⟩
  have hk : v10.toInt ≤ 47 := by
    have h1 := c_mask xc 63 6 (by decide) (by decide)
    have h2 := c_isub v7 16
    have := rng32 v10
    rw [hv7] at h1
    rw [hv10, show (16 : Int32).toInt = 16 from rfl] at h2
    omega
  obtain ⟨Ts33_2, vs33_2_, css33_2_, qs33_2, Hs33_2, sts33_2⟩ := own_callI Hs33_1 hx hZ hown rfl (hw _ (List.mem_of_getElem? (i := 3) rfl)) (hw _ (List.mem_of_getElem? (i := 4) rfl)) (hw _ (List.mem_of_getElem? (i := 2) rfl)) (hw _ (List.mem_of_getElem? (i := 5) rfl)) (by decide) (x := x) (argsL := [(.int v10)]) (rest := [(.ref x)]) (W := 1) (own_init l Z a0 hb0 hw x v10 hk) (by decide) (by decide) (by decide) (by decide) (g := (mkF m 11 #[.val (.int xc), .val (.int xn), .val (.int xp), .val (.int y0), .val (.int y1), .val (.int y2), .unset, .unset, .unset, .unset] [(.int v10), (.ref x), (.ref x)])) rfl (by rw [hml]; rfl) (lenOf own_pd4 rfl) rfl (by show 2 * 0 + _ ≤ _; exact Nat.le_of_eq rfl) (hb hby at_11)
  obtain ⟨an, ad, ar, mm, z, hl, hzz, rfl, rfl⟩ := qs33_2
  change own_S _ _ _ _ _ _ _ _ _ _ _ _ _ _ [(x, own_O "com/example/recourse/recourse/network/NodeHeap" [("com/example/recourse/recourse/network/NodeHeap", "nodes", "[I", .ref an), ("com/example/recourse/recourse/network/NodeHeap", "distances", "[D", .ref ad), ("com/example/recourse/recourse/network/NodeHeap", "remainders", "[D", .ref ar), ("com/example/recourse/recourse/network/NodeHeap", "size", "I", .int 0)]), (an, own_A .int ((.int 0) :: (.int 0) :: (.int 0) :: List.replicate mm (.int 0))), (ad, own_A .double ((.double 0) :: (.double 0) :: (.double 0) :: List.replicate mm (.double 0))), (ar, own_A .double ((.double 0) :: (.double 0) :: (.double 0) :: List.replicate mm (.double 0)))] _ _ at Hs33_2
  obtain ⟨Ts33_3, vs33_3_, css33_3_, qs33_3, Hs33_3, sts33_3⟩ := own_callV Hs33_2 hx hZ hown (hw _ (List.mem_of_getElem? (i := 21) rfl)) (hw _ (List.mem_of_getElem? (i := 22) rfl)) (hw _ (List.mem_of_getElem? (i := 24) rfl)) (hw _ (List.mem_of_getElem? (i := 23) rfl)) (hw _ (List.mem_of_getElem? (i := 2) rfl)) (hw _ (List.mem_of_getElem? (i := 25) rfl)) (by decide) (x := x) 0 rfl (argsL := []) (rest := []) (W := 0) (own_emp0 l Z a0 hb0 hw x an ad ar mm 0 0 0 0 0 0 0 0 0) (by decide) (by decide) (by decide) (by decide) (g := (mkF m 18 #[.val (.int xc), .val (.int xn), .val (.int xp), .val (.int y0), .val (.int y1), .val (.int y2), .val (.ref x), .unset, .unset, .unset] [(.ref x)])) rfl (by rw [hml]; rfl) (lenOf own_pd2 rfl) rfl (by show 2 * 0 + _ ≤ _; exact Nat.le_of_eq rfl) (hb hby at_18)
  obtain ⟨rfl, rfl⟩ := qs33_3
  change own_S _ _ _ _ _ _ _ _ _ _ _ _ _ _ [(x, own_O "com/example/recourse/recourse/network/NodeHeap" [("com/example/recourse/recourse/network/NodeHeap", "nodes", "[I", .ref an), ("com/example/recourse/recourse/network/NodeHeap", "distances", "[D", .ref ad), ("com/example/recourse/recourse/network/NodeHeap", "remainders", "[D", .ref ar), ("com/example/recourse/recourse/network/NodeHeap", "size", "I", .int 0)]), (an, own_A .int ((.int 0) :: (.int 0) :: (.int 0) :: List.replicate mm (.int 0))), (ad, own_A .double ((.double 0) :: (.double 0) :: (.double 0) :: List.replicate mm (.double 0))), (ar, own_A .double ((.double 0) :: (.double 0) :: (.double 0) :: List.replicate mm (.double 0)))] _ _ at Hs33_3
  obtain ⟨v53, hv53⟩ : ∃ z : UInt64, (FP.i2d y0) = z := ⟨_, rfl⟩
  obtain ⟨Ts33_4, vs33_4_, css33_4_, qs33_4, Hs33_4, sts33_4⟩ := own_callV Hs33_3 hx hZ hown (hw _ (List.mem_of_getElem? (i := 28) rfl)) (hw _ (List.mem_of_getElem? (i := 29) rfl)) (hw _ (List.mem_of_getElem? (i := 31) rfl)) (hw _ (List.mem_of_getElem? (i := 30) rfl)) (hw _ (List.mem_of_getElem? (i := 2) rfl)) (hw _ (List.mem_of_getElem? (i := 32) rfl)) (by decide) (x := x) 0 rfl (argsL := [(.int y0), (.double v53)]) (rest := []) (W := 0) (own_adi0 l Z a0 hb0 hw x _ _ an ad ar mm 0 0 0 0 0 0 0 0 0 z hl hzz) (by decide) (by decide) (by decide) (by decide) (g := (mkF m 54 #[.val (.int xc), .val (.int xn), .val (.int xp), .val (.int y0), .val (.int y1), .val (.int y2), .val (.ref x), .val (.int (1 : Int32)), .val (.int (3 : Int32)), .val (.int (3 : Int32))] [(.double v53), (.int y0), (.ref x)])) rfl (by rw [hml]; rfl) (lenOf own_pd5 rfl) rfl (by show 2 * 0 + _ ≤ _; exact Nat.le_of_eq rfl) (hb hby at_54)
  obtain ⟨g1_0, g1_1, g1_2, g1_3, g1_4, g1_5, g1_6, g1_7, g1_8, rfl, rfl⟩ := qs33_4
  change own_S _ _ _ _ _ _ _ _ _ _ _ _ _ _ [(x, own_O "com/example/recourse/recourse/network/NodeHeap" [("com/example/recourse/recourse/network/NodeHeap", "nodes", "[I", .ref an), ("com/example/recourse/recourse/network/NodeHeap", "distances", "[D", .ref ad), ("com/example/recourse/recourse/network/NodeHeap", "remainders", "[D", .ref ar), ("com/example/recourse/recourse/network/NodeHeap", "size", "I", .int 1)]), (an, own_A .int ((.int g1_0) :: (.int g1_1) :: (.int g1_2) :: List.replicate mm (.int 0))), (ad, own_A .double ((.double g1_3) :: (.double g1_4) :: (.double g1_5) :: List.replicate mm (.double 0))), (ar, own_A .double ((.double g1_6) :: (.double g1_7) :: (.double g1_8) :: List.replicate mm (.double 0)))] _ _ at Hs33_4
  obtain ⟨v69, hv69⟩ : ∃ z : UInt64, (FP.i2d y1) = z := ⟨_, rfl⟩
  obtain ⟨Ts33_5, vs33_5_, css33_5_, qs33_5, Hs33_5, sts33_5⟩ := own_callV Hs33_4 hx hZ hown (hw _ (List.mem_of_getElem? (i := 28) rfl)) (hw _ (List.mem_of_getElem? (i := 29) rfl)) (hw _ (List.mem_of_getElem? (i := 31) rfl)) (hw _ (List.mem_of_getElem? (i := 30) rfl)) (hw _ (List.mem_of_getElem? (i := 2) rfl)) (hw _ (List.mem_of_getElem? (i := 32) rfl)) (by decide) (x := x) 0 rfl (argsL := [(.int y1), (.double v69)]) (rest := []) (W := 0) (own_adi1 l Z a0 hb0 hw x _ _ an ad ar mm g1_0 g1_1 g1_2 g1_3 g1_4 g1_5 g1_6 g1_7 g1_8 z hl hzz) (by decide) (by decide) (by decide) (by decide) (g := (mkF m 70 #[.val (.int xc), .val (.int xn), .val (.int xp), .val (.int y0), .val (.int y1), .val (.int y2), .val (.ref x), .val (.int (1 : Int32)), .val (.int (3 : Int32)), .val (.int (3 : Int32))] [(.double v69), (.int y1), (.ref x)])) rfl (by rw [hml]; rfl) (lenOf own_pd5 rfl) rfl (by show 2 * 0 + _ ≤ _; exact Nat.le_of_eq rfl) (hb hby at_70)
  obtain ⟨g2_0, g2_1, g2_2, g2_3, g2_4, g2_5, g2_6, g2_7, g2_8, rfl, rfl⟩ := qs33_5
  change own_S _ _ _ _ _ _ _ _ _ _ _ _ _ _ [(x, own_O "com/example/recourse/recourse/network/NodeHeap" [("com/example/recourse/recourse/network/NodeHeap", "nodes", "[I", .ref an), ("com/example/recourse/recourse/network/NodeHeap", "distances", "[D", .ref ad), ("com/example/recourse/recourse/network/NodeHeap", "remainders", "[D", .ref ar), ("com/example/recourse/recourse/network/NodeHeap", "size", "I", .int 2)]), (an, own_A .int ((.int g2_0) :: (.int g2_1) :: (.int g2_2) :: List.replicate mm (.int 0))), (ad, own_A .double ((.double g2_3) :: (.double g2_4) :: (.double g2_5) :: List.replicate mm (.double 0))), (ar, own_A .double ((.double g2_6) :: (.double g2_7) :: (.double g2_8) :: List.replicate mm (.double 0)))] _ _ at Hs33_5
  obtain ⟨v85, hv85⟩ : ∃ z : UInt64, (FP.i2d y2) = z := ⟨_, rfl⟩
  obtain ⟨Ts33_6, vs33_6_, css33_6_, qs33_6, Hs33_6, sts33_6⟩ := own_callV Hs33_5 hx hZ hown (hw _ (List.mem_of_getElem? (i := 28) rfl)) (hw _ (List.mem_of_getElem? (i := 29) rfl)) (hw _ (List.mem_of_getElem? (i := 31) rfl)) (hw _ (List.mem_of_getElem? (i := 30) rfl)) (hw _ (List.mem_of_getElem? (i := 2) rfl)) (hw _ (List.mem_of_getElem? (i := 32) rfl)) (by decide) (x := x) 0 rfl (argsL := [(.int y2), (.double v85)]) (rest := []) (W := 0) (own_adi2 l Z a0 hb0 hw x _ _ an ad ar mm g2_0 g2_1 g2_2 g2_3 g2_4 g2_5 g2_6 g2_7 g2_8 z hl hzz) (by decide) (by decide) (by decide) (by decide) (g := (mkF m 86 #[.val (.int xc), .val (.int xn), .val (.int xp), .val (.int y0), .val (.int y1), .val (.int y2), .val (.ref x), .val (.int (1 : Int32)), .val (.int (3 : Int32)), .val (.int (3 : Int32))] [(.double v85), (.int y2), (.ref x)])) rfl (by rw [hml]; rfl) (lenOf own_pd5 rfl) rfl (by show 2 * 0 + _ ≤ _; exact Nat.le_of_eq rfl) (hb hby at_86)
  obtain ⟨g3_0, g3_1, g3_2, g3_3, g3_4, g3_5, g3_6, g3_7, g3_8, rfl, rfl⟩ := qs33_6
  change own_S _ _ _ _ _ _ _ _ _ _ _ _ _ _ [(x, own_O "com/example/recourse/recourse/network/NodeHeap" [("com/example/recourse/recourse/network/NodeHeap", "nodes", "[I", .ref an), ("com/example/recourse/recourse/network/NodeHeap", "distances", "[D", .ref ad), ("com/example/recourse/recourse/network/NodeHeap", "remainders", "[D", .ref ar), ("com/example/recourse/recourse/network/NodeHeap", "size", "I", .int 3)]), (an, own_A .int ((.int g3_0) :: (.int g3_1) :: (.int g3_2) :: List.replicate mm (.int 0))), (ad, own_A .double ((.double g3_3) :: (.double g3_4) :: (.double g3_5) :: List.replicate mm (.double 0))), (ar, own_A .double ((.double g3_6) :: (.double g3_7) :: (.double g3_8) :: List.replicate mm (.double 0)))] _ _ at Hs33_6
  obtain ⟨Ts33_7, vs33_7_, css33_7_, qs33_7, Hs33_7, sts33_7⟩ := own_callV Hs33_6 hx hZ hown (hw _ (List.mem_of_getElem? (i := 21) rfl)) (hw _ (List.mem_of_getElem? (i := 22) rfl)) (hw _ (List.mem_of_getElem? (i := 24) rfl)) (hw _ (List.mem_of_getElem? (i := 23) rfl)) (hw _ (List.mem_of_getElem? (i := 2) rfl)) (hw _ (List.mem_of_getElem? (i := 25) rfl)) (by decide) (x := x) 0 rfl (argsL := []) (rest := []) (W := 0) (own_emp3 l Z a0 hb0 hw x an ad ar mm g3_0 g3_1 g3_2 g3_3 g3_4 g3_5 g3_6 g3_7 g3_8) (by decide) (by decide) (by decide) (by decide) (g := (mkF m 96 #[.val (.int xc), .val (.int xn), .val (.int xp), .val (.int y0), .val (.int y1), .val (.int y2), .val (.ref x), .val (.int (1 : Int32)), .val (.int (3 : Int32)), .val (.int (3 : Int32))] [(.ref x)])) rfl (by rw [hml]; rfl) (lenOf own_pd2 rfl) rfl (by show 2 * 0 + _ ≤ _; exact Nat.le_of_eq rfl) (hb hby at_96)
  obtain ⟨rfl, rfl⟩ := qs33_7
  change own_S _ _ _ _ _ _ _ _ _ _ _ _ _ _ [(x, own_O "com/example/recourse/recourse/network/NodeHeap" [("com/example/recourse/recourse/network/NodeHeap", "nodes", "[I", .ref an), ("com/example/recourse/recourse/network/NodeHeap", "distances", "[D", .ref ad), ("com/example/recourse/recourse/network/NodeHeap", "remainders", "[D", .ref ar), ("com/example/recourse/recourse/network/NodeHeap", "size", "I", .int 3)]), (an, own_A .int ((.int g3_0) :: (.int g3_1) :: (.int g3_2) :: List.replicate mm (.int 0))), (ad, own_A .double ((.double g3_3) :: (.double g3_4) :: (.double g3_5) :: List.replicate mm (.double 0))), (ar, own_A .double ((.double g3_6) :: (.double g3_7) :: (.double g3_8) :: List.replicate mm (.double 0)))] _ _ at Hs33_7
  obtain ⟨Ts33_8, vs33_8_, css33_8_, qs33_8, Hs33_8, sts33_8⟩ := own_callV Hs33_7 hx hZ hown (hw _ (List.mem_of_getElem? (i := 46) rfl)) (hw _ (List.mem_of_getElem? (i := 47) rfl)) (hw _ (List.mem_of_getElem? (i := 49) rfl)) (hw _ (List.mem_of_getElem? (i := 48) rfl)) (hw _ (List.mem_of_getElem? (i := 2) rfl)) (hw _ (List.mem_of_getElem? (i := 50) rfl)) (by decide) (x := x) 0 rfl (argsL := []) (rest := []) (W := 0) (own_poll3 l Z a0 hb0 hw x an ad ar mm g3_0 g3_1 g3_2 g3_3 g3_4 g3_5 g3_6 g3_7 g3_8) (by decide) (by decide) (by decide) (by decide) (g := (mkF m 126 #[.val (.int xc), .val (.int xn), .val (.int xp), .val (.int y0), .val (.int y1), .val (.int y2), .val (.ref x), .val (.int (1 : Int32)), .val (.int (3 : Int32)), .val (.int (3 : Int32))] [(.ref x)])) rfl (by rw [hml]; rfl) (lenOf own_pd0 rfl) rfl (by show 2 * 0 + _ ≤ _; exact Nat.le_of_eq rfl) (hb hby at_126)
  obtain ⟨g4_0, g4_1, g4_2, g4_3, g4_4, g4_5, g4_6, g4_7, g4_8, rv4, rfl, rfl⟩ := qs33_8
  change own_S _ _ _ _ _ _ _ _ _ _ _ _ _ _ [(x, own_O "com/example/recourse/recourse/network/NodeHeap" [("com/example/recourse/recourse/network/NodeHeap", "nodes", "[I", .ref an), ("com/example/recourse/recourse/network/NodeHeap", "distances", "[D", .ref ad), ("com/example/recourse/recourse/network/NodeHeap", "remainders", "[D", .ref ar), ("com/example/recourse/recourse/network/NodeHeap", "size", "I", .int 2)]), (an, own_A .int ((.int g4_0) :: (.int g4_1) :: (.int g4_2) :: List.replicate mm (.int 0))), (ad, own_A .double ((.double g4_3) :: (.double g4_4) :: (.double g4_5) :: List.replicate mm (.double 0))), (ar, own_A .double ((.double g4_6) :: (.double g4_7) :: (.double g4_8) :: List.replicate mm (.double 0)))] _ _ at Hs33_8
  obtain ⟨Ts33_9, vs33_9_, css33_9_, qs33_9, Hs33_9, sts33_9⟩ := own_callV Hs33_8 hx hZ hown (hw _ (List.mem_of_getElem? (i := 46) rfl)) (hw _ (List.mem_of_getElem? (i := 47) rfl)) (hw _ (List.mem_of_getElem? (i := 49) rfl)) (hw _ (List.mem_of_getElem? (i := 48) rfl)) (hw _ (List.mem_of_getElem? (i := 2) rfl)) (hw _ (List.mem_of_getElem? (i := 50) rfl)) (by decide) (x := x) 0 rfl (argsL := []) (rest := []) (W := 0) (own_poll2 l Z a0 hb0 hw x an ad ar mm g4_0 g4_1 g4_2 g4_3 g4_4 g4_5 g4_6 g4_7 g4_8) (by decide) (by decide) (by decide) (by decide) (g := (mkF m 138 #[.val (.int xc), .val (.int xn), .val (.int xp), .val (.int y0), .val (.int y1), .val (.int y2), .val (.ref x), .val (.int (1 : Int32)), .val (.int (3 : Int32)), .val (.int (3 : Int32))] [(.ref x)])) rfl (by rw [hml]; rfl) (lenOf own_pd0 rfl) rfl (by show 2 * 0 + _ ≤ _; exact Nat.le_of_eq rfl) (hb hby at_138)
  obtain ⟨g5_0, g5_1, g5_2, g5_3, g5_4, g5_5, g5_6, g5_7, g5_8, rv5, rfl, rfl⟩ := qs33_9
  change own_S _ _ _ _ _ _ _ _ _ _ _ _ _ _ [(x, own_O "com/example/recourse/recourse/network/NodeHeap" [("com/example/recourse/recourse/network/NodeHeap", "nodes", "[I", .ref an), ("com/example/recourse/recourse/network/NodeHeap", "distances", "[D", .ref ad), ("com/example/recourse/recourse/network/NodeHeap", "remainders", "[D", .ref ar), ("com/example/recourse/recourse/network/NodeHeap", "size", "I", .int 1)]), (an, own_A .int ((.int g5_0) :: (.int g5_1) :: (.int g5_2) :: List.replicate mm (.int 0))), (ad, own_A .double ((.double g5_3) :: (.double g5_4) :: (.double g5_5) :: List.replicate mm (.double 0))), (ar, own_A .double ((.double g5_6) :: (.double g5_7) :: (.double g5_8) :: List.replicate mm (.double 0)))] _ _ at Hs33_9
  obtain ⟨Ts33_10, vs33_10_, css33_10_, qs33_10, Hs33_10, sts33_10⟩ := own_callV Hs33_9 hx hZ hown (hw _ (List.mem_of_getElem? (i := 46) rfl)) (hw _ (List.mem_of_getElem? (i := 47) rfl)) (hw _ (List.mem_of_getElem? (i := 49) rfl)) (hw _ (List.mem_of_getElem? (i := 48) rfl)) (hw _ (List.mem_of_getElem? (i := 2) rfl)) (hw _ (List.mem_of_getElem? (i := 50) rfl)) (by decide) (x := x) 0 rfl (argsL := []) (rest := []) (W := 0) (own_poll1 l Z a0 hb0 hw x an ad ar mm g5_0 g5_1 g5_2 g5_3 g5_4 g5_5 g5_6 g5_7 g5_8) (by decide) (by decide) (by decide) (by decide) (g := (mkF m 150 #[.val (.int xc), .val (.int xn), .val (.int xp), .val (.int y0), .val (.int y1), .val (.int y2), .val (.ref x), .val (.int (1 : Int32)), .val (.int (3 : Int32)), .val (.int (3 : Int32))] [(.ref x)])) rfl (by rw [hml]; rfl) (lenOf own_pd0 rfl) rfl (by show 2 * 0 + _ ≤ _; exact Nat.le_of_eq rfl) (hb hby at_150)
  obtain ⟨g6_0, g6_1, g6_2, g6_3, g6_4, g6_5, g6_6, g6_7, g6_8, rv6, rfl, rfl⟩ := qs33_10
  change own_S _ _ _ _ _ _ _ _ _ _ _ _ _ _ [(x, own_O "com/example/recourse/recourse/network/NodeHeap" [("com/example/recourse/recourse/network/NodeHeap", "nodes", "[I", .ref an), ("com/example/recourse/recourse/network/NodeHeap", "distances", "[D", .ref ad), ("com/example/recourse/recourse/network/NodeHeap", "remainders", "[D", .ref ar), ("com/example/recourse/recourse/network/NodeHeap", "size", "I", .int 0)]), (an, own_A .int ((.int g6_0) :: (.int g6_1) :: (.int g6_2) :: List.replicate mm (.int 0))), (ad, own_A .double ((.double g6_3) :: (.double g6_4) :: (.double g6_5) :: List.replicate mm (.double 0))), (ar, own_A .double ((.double g6_6) :: (.double g6_7) :: (.double g6_8) :: List.replicate mm (.double 0)))] _ _ at Hs33_10
  obtain ⟨Ts33_11, vs33_11_, css33_11_, qs33_11, Hs33_11, sts33_11⟩ := own_callV Hs33_10 hx hZ hown (hw _ (List.mem_of_getElem? (i := 21) rfl)) (hw _ (List.mem_of_getElem? (i := 22) rfl)) (hw _ (List.mem_of_getElem? (i := 24) rfl)) (hw _ (List.mem_of_getElem? (i := 23) rfl)) (hw _ (List.mem_of_getElem? (i := 2) rfl)) (hw _ (List.mem_of_getElem? (i := 25) rfl)) (by decide) (x := x) 0 rfl (argsL := []) (rest := []) (W := 0) (own_emp0 l Z a0 hb0 hw x an ad ar mm g6_0 g6_1 g6_2 g6_3 g6_4 g6_5 g6_6 g6_7 g6_8) (by decide) (by decide) (by decide) (by decide) (g := (mkF m 161 #[.val (.int xc), .val (.int xn), .val (.int xp), .val (.int y0), .val (.int y1), .val (.int y2), .val (.ref x), .val (.int (1 : Int32)), .val (.int (3 : Int32)), .val (.int (3 : Int32))] [(.ref x)])) rfl (by rw [hml]; rfl) (lenOf own_pd2 rfl) rfl (by show 2 * 0 + _ ≤ _; exact Nat.le_of_eq rfl) (hb hby at_161)
  obtain ⟨rfl, rfl⟩ := qs33_11
  change own_S _ _ _ _ _ _ _ _ _ _ _ _ _ _ [(x, own_O "com/example/recourse/recourse/network/NodeHeap" [("com/example/recourse/recourse/network/NodeHeap", "nodes", "[I", .ref an), ("com/example/recourse/recourse/network/NodeHeap", "distances", "[D", .ref ad), ("com/example/recourse/recourse/network/NodeHeap", "remainders", "[D", .ref ar), ("com/example/recourse/recourse/network/NodeHeap", "size", "I", .int 0)]), (an, own_A .int ((.int g6_0) :: (.int g6_1) :: (.int g6_2) :: List.replicate mm (.int 0))), (ad, own_A .double ((.double g6_3) :: (.double g6_4) :: (.double g6_5) :: List.replicate mm (.double 0))), (ar, own_A .double ((.double g6_6) :: (.double g6_7) :: (.double g6_8) :: List.replicate mm (.double 0)))] _ _ at Hs33_11
  refine ⟨_, _, _, _, 188, #[.val (.int xc), .val (.int xn), .val (.int xp), .val (.int y0), .val (.int y1), .val (.int y2), .val (.ref x), .val (.int (1 : Int32)), .val (.int (3 : Int32)), .val (.int (3 : Int32))], Hs33_11, by decide, by decide, Or.inr ⟨.boolean, (.int (1 : Int32)), [], .ireturn, rfl, rfl, at_188, own_retZ (Or.inr rfl), fun target q => ?_⟩⟩
  refine sts33_1 _ ?_
  refine own_go Hs33_1 hx hZ hown hby hw own_K0_ok (own_s33_0 xc xn xp y0 y1 y2 x v7 hv7 v10 hv10) _ ?_
  refine sts33_2 _ ?_
  refine own_go Hs33_2 hx hZ hown hby hw own_K0_ok (own_s33_1 xc xn xp y0 y1 y2 x) _ ?_
  refine sts33_3 _ ?_
  refine own_go Hs33_3 hx hZ hown hby hw own_K0_ok (own_s33_2 xc xn xp y0 y1 y2 x hkk hpp v53 hv53) _ ?_
  refine sts33_4 _ ?_
  refine own_go Hs33_4 hx hZ hown hby hw own_K0_ok (own_s33_3 xc xn xp y0 y1 y2 x v69 hv69) _ ?_
  refine sts33_5 _ ?_
  refine own_go Hs33_5 hx hZ hown hby hw own_K0_ok (own_s33_4 xc xn xp y0 y1 y2 x v85 hv85) _ ?_
  refine sts33_6 _ ?_
  refine own_go Hs33_6 hx hZ hown hby hw own_K0_ok (own_s33_5 xc xn xp y0 y1 y2 x) _ ?_
  refine sts33_7 _ ?_
  refine own_go Hs33_7 hx hZ hown hby hw own_K0_ok (own_s33_6 xc xn xp y0 y1 y2 x) _ ?_
  refine sts33_8 _ ?_
  refine own_go Hs33_8 hx hZ hown hby hw own_K0_ok (own_s33_7 xc xn xp y0 y1 y2 x rv4) _ ?_
  refine sts33_9 _ ?_
  refine own_go Hs33_9 hx hZ hown hby hw own_K0_ok (own_s33_8 xc xn xp y0 y1 y2 x rv5) _ ?_
  refine sts33_10 _ ?_
  refine own_go Hs33_10 hx hZ hown hby hw own_K0_ok (own_s33_9 xc xn xp y0 y1 y2 x rv6) _ ?_
  refine sts33_11 _ ?_
  refine own_go Hs33_11 hx hZ hown hby hw own_K0_ok (own_s33_10 xc xn xp y0 y1 y2 x) _ ?_
  exact q
theorem own_law (l : Launch) (Z : State) (a0 : Array Value) (hb0 : Heap) (hw : ∀ d ∈ tables_1, d.before a0 Z = true) (xc : Int32) (xn : Int32) (xp : Int32) (y0 : Int32) (y1 : Int32) (y2 : Int32) :
    own_Met l Z a0 hb0 x code maxLocals ret tables_1 room_1 #[(.int xc), (.int xn), (.int xp), (.int y0), (.int y1), (.int y2)] [] (fun v _ => v = some (.int 1)) := by
  rcases own_m3 xn with h | h | h | h <;> rcases own_m3 xp with q | q | q | q
  · exact own_law00 l Z a0 hb0 hw xc xn xp y0 y1 y2 h q
  · exact own_law01 l Z a0 hb0 hw xc xn xp y0 y1 y2 h q
  · exact own_law02 l Z a0 hb0 hw xc xn xp y0 y1 y2 h q
  · exact own_law03 l Z a0 hb0 hw xc xn xp y0 y1 y2 h q
  · exact own_law10 l Z a0 hb0 hw xc xn xp y0 y1 y2 h q
  · exact own_law11 l Z a0 hb0 hw xc xn xp y0 y1 y2 h q
  · exact own_law12 l Z a0 hb0 hw xc xn xp y0 y1 y2 h q
  · exact own_law13 l Z a0 hb0 hw xc xn xp y0 y1 y2 h q
  · exact own_law20 l Z a0 hb0 hw xc xn xp y0 y1 y2 h q
  · exact own_law21 l Z a0 hb0 hw xc xn xp y0 y1 y2 h q
  · exact own_law22 l Z a0 hb0 hw xc xn xp y0 y1 y2 h q
  · exact own_law23 l Z a0 hb0 hw xc xn xp y0 y1 y2 h q
  · exact own_law30 l Z a0 hb0 hw xc xn xp y0 y1 y2 h q
  · exact own_law31 l Z a0 hb0 hw xc xn xp y0 y1 y2 h q
  · exact own_law32 l Z a0 hb0 hw xc xn xp y0 y1 y2 h q
  · exact own_law33 l Z a0 hb0 hw xc xn xp y0 y1 y2 h q
set_option maxRecDepth 65536 in
set_option maxHeartbeats 40000000 in
theorem own_comes {Post : Tables → Env → Array Value → State → Outcome → State → Prop} (hpost : ∀ tb e args s v u, (limb_1_1.after args s (.returned v) u = true ∧ limb_1_2.after args s (.returned v) u = true ∧ True) → FrameEnd s (.returned v) u (Jvm.fieldLocs frame_1_writes args s ++ Jvm.arrayLocs frame_1_arrays args s ++ Jvm.staticLocs frame_1_statics s) 16 384 → Post tb e args s (.returned v) u) :
    ArmFor flags0 classFile x code maxLocals ret World_1 tables_1 room_1 Calls_1 rest_1 Pre_1 Post := by
  intro l hfl _ _ p e ha hc hk s m args below hf hA hF happ hP
  obtain ⟨hcalls, hrest, hpre⟩ := hP
  obtain ⟨-, -, -, hnamed, -, -, -, hat⟩ := (Spec.applies_iff hf).mp happ
  obtain ⟨hg, hn⟩ := and_e (Cond.before_iff.mp (show (Jvm.Cond.and given_1 narrow_1).before args s = true from hpre))
  obtain ⟨h1, g0⟩ := and_e hg
  obtain ⟨w0, w1, w2, w3, w4, w5, rfl⟩ : ∃ w0 w1 w2 w3 w4 w5 : Value, args = #[w0, w1, w2, w3, w4, w5] := by
    have hs : args.size = 6 := by simpa [Cond.value, given_1] using h1
    obtain ⟨L⟩ := args
    match L, hs with
    | [w0, w1, w2, w3, w4, w5], _ => exact ⟨w0, w1, w2, w3, w4, w5, rfl⟩
  have hw := fun d (hd : d ∈ tables_1) => atoms_spec (ws := Jvm.Cond.code x code maxLocals ret :: tables_1) hat d (List.mem_cons_of_mem _ hd)
  have hfit : Fit s := fun {y c} hc i hi => by
    obtain ⟨ha, rfl⟩ := Array.getElem?_eq_some_iff.mp hc
    have q := List.all_eq_true.mp ((Array.all_eq_true_iff_forall_mem.mp hF) _ (Array.getElem_mem ha)) i (List.mem_range.mpr hi)
    simpa [Array.getElem?_eq_getElem hi] using q
  obtain ⟨f0, g1⟩ := and_e g0
  obtain ⟨i0, e0⟩ := is_v f0
  obtain rfl : w0 = (.int i0) := Option.some.inj e0
  obtain ⟨f1, g2⟩ := and_e g1
  obtain ⟨i1, e1⟩ := is_v f1
  obtain rfl : w1 = (.int i1) := Option.some.inj e1
  obtain ⟨f2, g3⟩ := and_e g2
  obtain ⟨i2, e2⟩ := is_v f2
  obtain rfl : w2 = (.int i2) := Option.some.inj e2
  obtain ⟨f3, g4⟩ := and_e g3
  obtain ⟨i3, e3⟩ := is_v f3
  obtain rfl : w3 = (.int i3) := Option.some.inj e3
  obtain ⟨f4, g5⟩ := and_e g4
  obtain ⟨i4, e4⟩ := is_v f4
  obtain rfl : w4 = (.int i4) := Option.some.inj e4
  obtain ⟨i5, e5⟩ := is_v g5
  obtain rfl : w5 = (.int i5) := Option.some.inj e5
  obtain ⟨n, o, h1, h2, h3, _, L, rfl, ⟨N, cs', rfl, -⟩, hq⟩ := own_law l s _ s.heap hw i0 i1 i2 i3 i4 i5  s.heap (own_Hp_start s _ s.heap) p e ha hc hk s m _ below hf ((Spec.applies_iff_loose hf).mp happ).1 ⟨rfl, State.Warmed39.refl s, rfl⟩ trivial
  refine ⟨n, _, h1, h2, h3, hpost _ _ _ _ _ _ ⟨Cond.after_iff.mpr rfl, Cond.after_iff.mpr (eq_i res_at (Term.int_eval (1)) rfl), trivial⟩ ⟨hq.1, hq.2.1, (hq.2.2.sift fun y hy => Or.inr (N y hy)).mono (by decide) (by decide)⟩⟩
theorem main_1_1 : Claimed_1_1 := own_comes fun _ _ _ _ _ _ h hF => ⟨h.1, hF⟩
theorem main_1_2 : Claimed_1_2 := own_comes fun _ _ _ _ _ _ h hF => ⟨h.2.1, hF⟩
end OwnClaim
end Jvm.Pilot.@@N@@
namespace Jvm.Pilot.@@N@@
open Jvm Jvm.ClassFile Sem Op Lib Jvm.Free Jvm.Stand Jvm.Pilot.@@N@@.Jvm.D
/-! MADE BY PROGRAM (witnessworld.py) out of the Statement's table words and the real class files: 13 classes; the members and pool entries that the words name. The judged class is class 1, her method 1. -/
namespace start1
open Jvm.ClassFile
def u (s : String) : CpInfo := .utf8 (stringToUtf16 s)
/-- a pool by its gaps: so many unusable entries, then the entry; so many at the end -/
def gap : Nat → List CpInfo → List CpInfo
  | 0, r => r
  | n + 1, r => .unusable :: gap n r
def poolList (es : List (Nat × CpInfo)) (last : Nat) : List CpInfo := es.foldr (fun e r => gap e.1 (e.2 :: r)) (gap last [])
def pool (es : List (Nat × CpInfo)) (last : Nat) : Array CpInfo := ⟨poolList es last⟩
def fileOf (pool : Array CpInfo) (this : Nat) (attrs : Array Attribute := #[]) (ms : Array MethodInfo := #[]) (fl : Nat := 33) (sup : Nat := 0) (ifs : Array Nat := #[]) (fds : Array FieldInfo := #[]) : ClassFile where
  minorVersion := 0
  majorVersion := 65
  constantPool := pool
  accessFlags := fl
  thisClass := this
  superClass := sup
  interfaces := ifs
  fields := fds
  methods := ms
  attributes := attrs
def plain (name : String) (sup : Option ClassId) : Class where
  name := name
  kind := .ordinary
  loader := none
  accessFlags := 33
  super := sup
  interfaces := #[]
  cf := none
  fields := #[]
  methods := #[]
  instanceTypes := #[]
  staticTypes := #[]
  resolved := #[]
  callSites := []
  init := .initialized
  statics := none
  mirror := none

def pool0 : Array CpInfo := pool [(5, u "<init>"), (0, u "()V"), (1, .class_ 10), (1, u "java/lang/Object")] 113

def k0c0 : Code := { maxStack := 0, maxLocals := 1, code := object_method_1_code, exceptionTable := #[], attributes := #[] }
def k0m0 : Method := { name := "<init>", desc := "()V", sig := { parameters := [], returnType := none }, accessFlags := 1, code := some k0c0 }
/-- java/lang/Object -/
def k0 : Class := { plain "java/lang/Object" none with
  accessFlags := 33
  interfaces := #[]
  cf := some (fileOf pool0 8 #[] #[{ accessFlags := 1, nameIndex := 5, descriptorIndex := 6, attributes := #[] }] 33 0 #[] #[])
  fields := #[]
  methods := #[k0m0]
  instanceTypes := #[]
  staticTypes := #[]
  resolved := Array.replicate 124 none
  statics := none }

def pool1 : Array CpInfo := pool [(2, .class_ 4), (1, u "java/lang/Object"), (0, u "<init>"), (0, u "()V"), (0, .class_ 8), (0, u "com/example/recourse/recourse/network/NodeHeap"), (0, .methodref 7 10), (0, .nameAndType 5 11), (0, u "(I)V"), (0, .methodref 7 13), (0, .nameAndType 14 15), (0, u "isEmpty"), (0, u "()Z"), (0, .methodref 7 17), (0, .nameAndType 18 19), (0, u "add"), (0, u "(ID)V"), (0, .methodref 7 21), (0, .nameAndType 22 23), (0, u "poll"), (0, u "()I"), (0, .class_ 25), (0, u "com/example/recourse/recourse/network/NodeHeapIsEmptyPinLaw"), (2, u "law"), (0, u "(IIIIII)Z")] 3

def k1m0 : Method := { name := "<init>", desc := "()V", sig := { parameters := [], returnType := none }, accessFlags := 2, code := none }
def k1c1 : Code := { maxStack := 4, maxLocals := 10, code := code, exceptionTable := #[], attributes := #[] }
def k1m1 : Method := { name := "law", desc := "(IIIIII)Z", sig := { parameters := [.int, .int, .int, .int, .int, .int], returnType := some .boolean }, accessFlags := 9, code := some k1c1 }
/-- com/example/recourse/recourse/network/NodeHeapIsEmptyPinLaw -/
def k1 : Class := { plain "com/example/recourse/recourse/network/NodeHeapIsEmptyPinLaw" (some 0) with
  accessFlags := 49
  interfaces := #[]
  cf := some (fileOf pool1 24 #[] #[{ accessFlags := 2, nameIndex := 5, descriptorIndex := 6, attributes := #[] }, { accessFlags := 9, nameIndex := 28, descriptorIndex := 29, attributes := #[] }] 49 2 #[] #[])
  fields := #[]
  methods := #[k1m0, k1m1]
  instanceTypes := #[]
  staticTypes := #[]
  resolved := Array.replicate 33 none
  statics := none }

def pool2 : Array CpInfo := pool [(1, .methodref 2 3), (0, .class_ 4), (0, .nameAndType 5 6), (0, u "java/lang/Object"), (0, u "<init>"), (0, u "()V"), (0, .methodref 8 9), (0, .class_ 10), (0, .nameAndType 11 12), (0, u "java/lang/Math"), (0, u "max"), (0, u "(II)I"), (0, .fieldref 14 15), (0, .class_ 16), (0, .nameAndType 17 18), (0, u "com/example/recourse/recourse/network/NodeHeap"), (0, u "nodes"), (0, u "[I"), (0, .fieldref 14 20), (0, .nameAndType 21 22), (0, u "distances"), (0, u "[D"), (0, .fieldref 14 24), (0, .nameAndType 25 22), (0, u "remainders"), (0, .fieldref 14 27), (0, .nameAndType 28 29), (0, u "size"), (0, u "I"), (0, .methodref 14 31), (0, .nameAndType 32 33), (0, u "add"), (0, u "(IDD)V"), (9, .methodref 44 45), (0, .class_ 46), (0, .nameAndType 47 48), (0, u "com/example/recourse/recourse/network/DoubleDouble"), (0, u "below"), (0, u "(DDDD)Z"), (0, .methodref 14 50), (0, .nameAndType 51 52), (0, u "move"), (0, u "(II)V"), (0, u "(I)V"), (2, u "isEmpty"), (0, u "()Z"), (1, u "(ID)V"), (2, u "poll"), (0, u "()I")] 2

def k2c0 : Code := { maxStack := 3, maxLocals := 2, code := prog_51_method_1_code, exceptionTable := #[], attributes := #[] }
def k2m0 : Method := { name := "<init>", desc := "(I)V", sig := { parameters := [.int], returnType := none }, accessFlags := 1, code := some k2c0 }
def k2c1 : Code := { maxStack := 1, maxLocals := 1, code := prog_51_method_2_code, exceptionTable := #[], attributes := #[] }
def k2m1 : Method := { name := "isEmpty", desc := "()Z", sig := { parameters := [], returnType := some .boolean }, accessFlags := 1, code := some k2c1 }
def k2c2 : Code := { maxStack := 6, maxLocals := 4, code := prog_51_method_3_code, exceptionTable := #[], attributes := #[] }
def k2m2 : Method := { name := "add", desc := "(ID)V", sig := { parameters := [.int, .double], returnType := none }, accessFlags := 1, code := some k2c2 }
def k2c3 : Code := { maxStack := 8, maxLocals := 8, code := prog_51_method_4_code, exceptionTable := #[], attributes := #[] }
def k2m3 : Method := { name := "add", desc := "(IDD)V", sig := { parameters := [.int, .double, .double], returnType := none }, accessFlags := 1, code := some k2c3 }
def k2c4 : Code := { maxStack := 8, maxLocals := 9, code := prog_51_method_6_code, exceptionTable := #[], attributes := #[] }
def k2m4 : Method := { name := "poll", desc := "()I", sig := { parameters := [], returnType := some .int }, accessFlags := 1, code := some k2c4 }
def k2c5 : Code := { maxStack := 4, maxLocals := 3, code := prog_51_method_7_code, exceptionTable := #[], attributes := #[] }
def k2m5 : Method := { name := "move", desc := "(II)V", sig := { parameters := [.int, .int], returnType := none }, accessFlags := 2, code := some k2c5 }
/-- com/example/recourse/recourse/network/NodeHeap -/
def k2 : Class := { plain "com/example/recourse/recourse/network/NodeHeap" (some 0) with
  accessFlags := 49
  interfaces := #[]
  cf := some (fileOf pool2 14 #[] #[{ accessFlags := 1, nameIndex := 5, descriptorIndex := 53, attributes := #[] }, { accessFlags := 1, nameIndex := 56, descriptorIndex := 57, attributes := #[] }, { accessFlags := 1, nameIndex := 32, descriptorIndex := 59, attributes := #[] }, { accessFlags := 1, nameIndex := 32, descriptorIndex := 33, attributes := #[] }, { accessFlags := 1, nameIndex := 62, descriptorIndex := 63, attributes := #[] }, { accessFlags := 2, nameIndex := 51, descriptorIndex := 52, attributes := #[] }] 49 2 #[] #[{ accessFlags := 2, nameIndex := 17, descriptorIndex := 18, attributes := #[] }, { accessFlags := 2, nameIndex := 21, descriptorIndex := 22, attributes := #[] }, { accessFlags := 2, nameIndex := 25, descriptorIndex := 22, attributes := #[] }, { accessFlags := 2, nameIndex := 28, descriptorIndex := 29, attributes := #[] }])
  fields := #[{ name := "nodes", type := (.array .int), accessFlags := 2, slot := 0, constantValue := 0 }, { name := "distances", type := (.array .double), accessFlags := 2, slot := 1, constantValue := 0 }, { name := "remainders", type := (.array .double), accessFlags := 2, slot := 2, constantValue := 0 }, { name := "size", type := .int, accessFlags := 2, slot := 3, constantValue := 0 }]
  methods := #[k2m0, k2m1, k2m2, k2m3, k2m4, k2m5]
  instanceTypes := #[(.array .int), (.array .double), (.array .double), .int]
  staticTypes := #[]
  resolved := Array.replicate 66 none
  statics := none }

def pool3 : Array CpInfo := pool [(1, .class_ 2), (0, u "java/lang/Math"), (1, .class_ 6), (1, u "java/lang/Object"), (0, u "<init>"), (0, u "()V"), (89, .class_ 100), (1, u "java/lang/Math$RandomNumberGeneratorHolder"), (71, u "negativeZeroFloatBits"), (0, u "J"), (2, u "negativeZeroDoubleBits"), (21, u "max"), (46, u "$assertionsDisabled"), (0, u "Z"), (88, u "(II)I"), (2, u "twoToTheDoubleScaleDown"), (0, u "D"), (4, u "twoToTheDoubleScaleUp"), (9, u "E"), (3, u "PI"), (2, u "TAU"), (2, u "DEGREES_TO_RADIANS"), (0, u "RADIANS_TO_DEGREES")] 94

def k3m0 : Method := { name := "<init>", desc := "()V", sig := { parameters := [], returnType := none }, accessFlags := 2, code := none }
def k3c1 : Code := { maxStack := 2, maxLocals := 2, code := jdk_29_method_65_code, exceptionTable := #[], attributes := #[] }
def k3m1 : Method := { name := "max", desc := "(II)I", sig := { parameters := [.int, .int], returnType := some .int }, accessFlags := 9, code := some k3c1 }
/-- java/lang/Math -/
def k3 : Class := { plain "java/lang/Math" (some 0) with
  accessFlags := 49
  interfaces := #[]
  cf := some (fileOf pool3 1 #[.nestMembers #[98]] #[{ accessFlags := 2, nameIndex := 7, descriptorIndex := 8, attributes := #[] }, { accessFlags := 9, nameIndex := 198, descriptorIndex := 335, attributes := #[] }] 49 4 #[] #[{ accessFlags := 25, nameIndex := 354, descriptorIndex := 339, attributes := #[] }, { accessFlags := 25, nameIndex := 358, descriptorIndex := 339, attributes := #[] }, { accessFlags := 25, nameIndex := 361, descriptorIndex := 339, attributes := #[] }, { accessFlags := 26, nameIndex := 364, descriptorIndex := 339, attributes := #[] }, { accessFlags := 26, nameIndex := 365, descriptorIndex := 339, attributes := #[] }, { accessFlags := 26, nameIndex := 172, descriptorIndex := 173, attributes := #[] }, { accessFlags := 26, nameIndex := 176, descriptorIndex := 173, attributes := #[] }, { accessFlags := 8, nameIndex := 344, descriptorIndex := 339, attributes := #[] }, { accessFlags := 8, nameIndex := 338, descriptorIndex := 339, attributes := #[] }, { accessFlags := 4120, nameIndex := 245, descriptorIndex := 246, attributes := #[] }])
  fields := #[{ name := "E", type := .double, accessFlags := 25, slot := 0, constantValue := 0 }, { name := "PI", type := .double, accessFlags := 25, slot := 1, constantValue := 0 }, { name := "TAU", type := .double, accessFlags := 25, slot := 2, constantValue := 0 }, { name := "DEGREES_TO_RADIANS", type := .double, accessFlags := 26, slot := 3, constantValue := 0 }, { name := "RADIANS_TO_DEGREES", type := .double, accessFlags := 26, slot := 4, constantValue := 0 }, { name := "negativeZeroFloatBits", type := .long, accessFlags := 26, slot := 5, constantValue := 0 }, { name := "negativeZeroDoubleBits", type := .long, accessFlags := 26, slot := 6, constantValue := 0 }, { name := "twoToTheDoubleScaleUp", type := .double, accessFlags := 8, slot := 7, constantValue := 0 }, { name := "twoToTheDoubleScaleDown", type := .double, accessFlags := 8, slot := 8, constantValue := 0 }, { name := "$assertionsDisabled", type := .boolean, accessFlags := 4120, slot := 9, constantValue := 0 }]
  methods := #[k3m0, k3m1]
  instanceTypes := #[]
  staticTypes := #[.double, .double, .double, .double, .double, .long, .long, .double, .double, .boolean]
  resolved := Array.replicate 460 none
  statics := none }

def pool4 : Array CpInfo := pool [(2, .class_ 4), (1, u "java/lang/Object"), (0, u "<init>"), (0, u "()V"), (1, .class_ 10), (1, u "com/example/recourse/recourse/network/DoubleDouble"), (7, u "below"), (0, u "(DDDD)Z")] 3

def k4m0 : Method := { name := "<init>", desc := "()V", sig := { parameters := [], returnType := none }, accessFlags := 2, code := none }
def k4c1 : Code := { maxStack := 4, maxLocals := 8, code := prog_46_method_5_code, exceptionTable := #[], attributes := #[] }
def k4m1 : Method := { name := "below", desc := "(DDDD)Z", sig := { parameters := [.double, .double, .double, .double], returnType := some .boolean }, accessFlags := 9, code := some k4c1 }
/-- com/example/recourse/recourse/network/DoubleDouble -/
def k4 : Class := { plain "com/example/recourse/recourse/network/DoubleDouble" (some 0) with
  accessFlags := 49
  interfaces := #[]
  cf := some (fileOf pool4 8 #[] #[{ accessFlags := 2, nameIndex := 5, descriptorIndex := 6, attributes := #[] }, { accessFlags := 9, nameIndex := 18, descriptorIndex := 19, attributes := #[] }] 49 2 #[] #[])
  fields := #[]
  methods := #[k4m0, k4m1]
  instanceTypes := #[]
  staticTypes := #[]
  resolved := Array.replicate 23 none
  statics := none }

def pool5 : Array CpInfo := pool [(1, u "java/lang/Cloneable"), (0, .class_ 1), (0, u "java/lang/Object"), (0, .class_ 3)] 3

/-- java/lang/Cloneable -/
def k5 : Class := { plain "java/lang/Cloneable" (some 0) with
  accessFlags := 1537
  interfaces := #[]
  cf := some (fileOf pool5 2 #[] #[] 1537 4 #[] #[])
  fields := #[]
  methods := #[]
  instanceTypes := #[]
  staticTypes := #[]
  resolved := Array.replicate 8 none
  statics := none }

def pool6 : Array CpInfo := pool [(1, u "java/io/Serializable"), (0, .class_ 1), (0, u "java/lang/Object"), (0, .class_ 3)] 3

/-- java/io/Serializable -/
def k6 : Class := { plain "java/io/Serializable" (some 0) with
  accessFlags := 1537
  interfaces := #[]
  cf := some (fileOf pool6 2 #[] #[] 1537 4 #[] #[])
  fields := #[]
  methods := #[]
  instanceTypes := #[]
  staticTypes := #[]
  resolved := Array.replicate 8 none
  statics := none }

/-- the primitive byte -/
def k7 : Class := { plain "byte" none with kind := .primitive 'B', accessFlags := 0x411 }
/-- [B -/
def k8 : Class := { plain "[B" (some 0) with kind := .array 7 .byte, interfaces := #[5, 6], accessFlags := 1041 }

/-- the primitive double -/
def k9 : Class := { plain "double" none with kind := .primitive 'D', accessFlags := 0x411 }
/-- [D -/
def k10 : Class := { plain "[D" (some 0) with kind := .array 9 .double, interfaces := #[5, 6], accessFlags := 1041 }

/-- the primitive int -/
def k11 : Class := { plain "int" none with kind := .primitive 'I', accessFlags := 0x411 }
/-- [I -/
def k12 : Class := { plain "[I" (some 0) with kind := .array 11 .int, interfaces := #[5, 6], accessFlags := 1041 }

def heap : Heap := #[]
def classes : Array Class := #[k0, k1, k2, k3, k4, k5, k6, k7, k8, k9, k10, k11, k12]
def interned : List (Array UInt16 × Addr) := []
def slotsUsed : Nat := 0
def theMethod : MethodId := ⟨1, 1⟩
def args0 : Array Value := #[.int 5, .int 7, .int 9, .int 2, .int 3, .int 4]
def aboutOver (below : List Frame) : State where
  vm := { classes := classes, interned := interned.toArray }
  heap := heap
  slotsUsed := slotsUsed
  threads := #[{ frames := .invoking theMethod args0 :: below }]
def below0 : List Frame := [.native { method := ⟨0, 0⟩, args := #[] }]
def about1 : State := aboutOver below0
def p0 : Program := .bare "" "" ""
def e0 : Env := launch0.env 0 0 0
theorem w_frames : about1.frames = Frame.invoking theMethod args0 :: below0 := rfl
set_option maxRecDepth 65536 in
theorem w_args : argsFit about1.vm theMethod args0 = true := by decide +kernel
set_option maxRecDepth 65536 in
theorem w_heap : heapFits about1 = true := by decide +kernel
set_option maxRecDepth 65536 in
theorem w_runnable : about1.curStatus? = some .runnable := by decide +kernel
set_option maxRecDepth 65536 in
theorem w_alone : about1.alone = true := by decide +kernel
set_option maxRecDepth 65536 in
theorem w_named : about1.methodNamed? x = some theMethod := by decide +kernel
set_option maxRecDepth 65536 in
theorem w_hears : about1.hears theMethod below0 = true := by decide +kernel
set_option maxRecDepth 65536 in
theorem w_ripe : about1.ripe theMethod args0 below0 = true := by decide +kernel
theorem w_running : about1.status = .running := rfl
set_option maxRecDepth 65536 in
theorem w_room : about1.hasRoom e0.platform room_1 = true :=
  launch0.hasRoom_least _ room_1 (by decide +kernel) (by decide +kernel) (by decide +kernel) (by decide +kernel) (by decide +kernel) (by decide +kernel)
theorem allAtoms_all (ts : List Jvm.Cond) (a : Array Jvm.Value) (st : Jvm.State) : (allAtoms ts).before a st = ts.all (fun c => c.before a st) := by
  induction ts with
  | nil => rfl
  | cons c t ih =>
    show (Jvm.Cond.and c (allAtoms t)).before a st = _
    rw [Jvm.Cond.before_and, ih, List.all_cons]
def words1 : List Jvm.Cond := Jvm.Cond.code x code maxLocals ret :: tables_1
/-- a 'code' word, met by the world's own term for the bytes: nothing is compared byte by byte -/
theorem code_word {y : MethodName} {bytes : ByteArray} {mx : Nat} {rt : Option FieldType} {a : Array Value} {s : State} {m : MethodId} {meth : Method} {c : Code} (h1 : s.methodNamed? y = some m) (h2 : s.vm.method? m = some meth) (h3 : meth.code = some c) (h4 : c.code = bytes)
    (h5 : (c.maxLocals == mx && c.exceptionTable.isEmpty && decide (c.maxStack ≤ mostOperands) && decide (meth.sig.returnType = rt) && !meth.locks && decide (parseMethodDescriptor y.desc = some meth.sig)) = true) : (Jvm.Cond.code y bytes mx rt).before a s = true := by
  simp only [Bool.and_eq_true, beq_iff_eq, Bool.not_eq_true', decide_eq_true_eq] at h5
  obtain ⟨⟨⟨⟨⟨g1, g2⟩, g3⟩, g4⟩, g5⟩, g6⟩ := h5
  simp [Cond.before, Cond.holds, Cond.value, h1, h2, h3, h4, g1, g2, g3, g4, g5, g6]
def isCode : Jvm.Cond → Bool
  | .code _ _ _ _ => true
  | _ => false
theorem all_split {L : List Jvm.Cond} {P : Jvm.Cond → Bool} (h1 : L.all (fun c => isCode c || P c) = true) (h2 : ∀ c ∈ L.filter isCode, P c = true) : L.all P = true := by
  refine List.all_eq_true.mpr fun c hc => ?_
  have h := List.all_eq_true.mp h1 c hc
  rcases Bool.eq_false_or_eq_true (isCode c) with hi | hi
  · exact h2 c (List.mem_filter.mpr ⟨hc, hi⟩)
  · simpa [hi] using h
set_option maxRecDepth 65536 in
theorem w_c0 : (Jvm.Cond.code x code maxLocals ret).before args0 about1 = true := code_word (m := ⟨1, 1⟩) (meth := k1m1) (c := k1c1) (by decide +kernel) rfl rfl rfl (by decide +kernel)
set_option maxRecDepth 65536 in
theorem w_c1 : (Jvm.Cond.code ({ cls := "com/example/recourse/recourse/network/NodeHeap", name := "<init>", desc := "(I)V" } : Jvm.MethodName) prog_51_method_1_code (2 : Nat) (Option.none : Option Jvm.ClassFile.FieldType)).before args0 about1 = true := code_word (m := ⟨2, 0⟩) (meth := k2m0) (c := k2c0) (by decide +kernel) rfl rfl rfl (by decide +kernel)
set_option maxRecDepth 65536 in
theorem w_c2 : (Jvm.Cond.code ({ cls := "java/lang/Object", name := "<init>", desc := "()V" } : Jvm.MethodName) object_method_1_code (1 : Nat) (Option.none : Option Jvm.ClassFile.FieldType)).before args0 about1 = true := code_word (m := ⟨0, 0⟩) (meth := k0m0) (c := k0c0) (by decide +kernel) rfl rfl rfl (by decide +kernel)
set_option maxRecDepth 65536 in
theorem w_c3 : (Jvm.Cond.code ({ cls := "java/lang/Math", name := "max", desc := "(II)I" } : Jvm.MethodName) jdk_29_method_65_code (2 : Nat) (Option.some Jvm.ClassFile.FieldType.int)).before args0 about1 = true := code_word (m := ⟨3, 1⟩) (meth := k3m1) (c := k3c1) (by decide +kernel) rfl rfl rfl (by decide +kernel)
set_option maxRecDepth 65536 in
theorem w_c4 : (Jvm.Cond.code ({ cls := "com/example/recourse/recourse/network/NodeHeap", name := "isEmpty", desc := "()Z" } : Jvm.MethodName) prog_51_method_2_code (1 : Nat) (Option.some Jvm.ClassFile.FieldType.boolean)).before args0 about1 = true := code_word (m := ⟨2, 1⟩) (meth := k2m1) (c := k2c1) (by decide +kernel) rfl rfl rfl (by decide +kernel)
set_option maxRecDepth 65536 in
theorem w_c5 : (Jvm.Cond.code ({ cls := "com/example/recourse/recourse/network/NodeHeap", name := "add", desc := "(ID)V" } : Jvm.MethodName) prog_51_method_3_code (4 : Nat) (Option.none : Option Jvm.ClassFile.FieldType)).before args0 about1 = true := code_word (m := ⟨2, 2⟩) (meth := k2m2) (c := k2c2) (by decide +kernel) rfl rfl rfl (by decide +kernel)
set_option maxRecDepth 65536 in
theorem w_c6 : (Jvm.Cond.code ({ cls := "com/example/recourse/recourse/network/NodeHeap", name := "add", desc := "(IDD)V" } : Jvm.MethodName) prog_51_method_4_code (8 : Nat) (Option.none : Option Jvm.ClassFile.FieldType)).before args0 about1 = true := code_word (m := ⟨2, 3⟩) (meth := k2m3) (c := k2c3) (by decide +kernel) rfl rfl rfl (by decide +kernel)
set_option maxRecDepth 65536 in
theorem w_c7 : (Jvm.Cond.code ({ cls := "com/example/recourse/recourse/network/DoubleDouble", name := "below", desc := "(DDDD)Z" } : Jvm.MethodName) prog_46_method_5_code (8 : Nat) (Option.some Jvm.ClassFile.FieldType.boolean)).before args0 about1 = true := code_word (m := ⟨4, 1⟩) (meth := k4m1) (c := k4c1) (by decide +kernel) rfl rfl rfl (by decide +kernel)
set_option maxRecDepth 65536 in
theorem w_c8 : (Jvm.Cond.code ({ cls := "com/example/recourse/recourse/network/NodeHeap", name := "move", desc := "(II)V" } : Jvm.MethodName) prog_51_method_7_code (3 : Nat) (Option.none : Option Jvm.ClassFile.FieldType)).before args0 about1 = true := code_word (m := ⟨2, 5⟩) (meth := k2m5) (c := k2c5) (by decide +kernel) rfl rfl rfl (by decide +kernel)
set_option maxRecDepth 65536 in
theorem w_c9 : (Jvm.Cond.code ({ cls := "com/example/recourse/recourse/network/NodeHeap", name := "poll", desc := "()I" } : Jvm.MethodName) prog_51_method_6_code (9 : Nat) (Option.some Jvm.ClassFile.FieldType.int)).before args0 about1 = true := code_word (m := ⟨2, 4⟩) (meth := k2m4) (c := k2c4) (by decide +kernel) rfl rfl rfl (by decide +kernel)
def codes1 : List Jvm.Cond := [Jvm.Cond.code x code maxLocals ret, Jvm.Cond.code ({ cls := "com/example/recourse/recourse/network/NodeHeap", name := "<init>", desc := "(I)V" } : Jvm.MethodName) prog_51_method_1_code (2 : Nat) (Option.none : Option Jvm.ClassFile.FieldType), Jvm.Cond.code ({ cls := "java/lang/Object", name := "<init>", desc := "()V" } : Jvm.MethodName) object_method_1_code (1 : Nat) (Option.none : Option Jvm.ClassFile.FieldType), Jvm.Cond.code ({ cls := "java/lang/Math", name := "max", desc := "(II)I" } : Jvm.MethodName) jdk_29_method_65_code (2 : Nat) (Option.some Jvm.ClassFile.FieldType.int), Jvm.Cond.code ({ cls := "com/example/recourse/recourse/network/NodeHeap", name := "isEmpty", desc := "()Z" } : Jvm.MethodName) prog_51_method_2_code (1 : Nat) (Option.some Jvm.ClassFile.FieldType.boolean), Jvm.Cond.code ({ cls := "com/example/recourse/recourse/network/NodeHeap", name := "add", desc := "(ID)V" } : Jvm.MethodName) prog_51_method_3_code (4 : Nat) (Option.none : Option Jvm.ClassFile.FieldType), Jvm.Cond.code ({ cls := "com/example/recourse/recourse/network/NodeHeap", name := "add", desc := "(IDD)V" } : Jvm.MethodName) prog_51_method_4_code (8 : Nat) (Option.none : Option Jvm.ClassFile.FieldType), Jvm.Cond.code ({ cls := "com/example/recourse/recourse/network/DoubleDouble", name := "below", desc := "(DDDD)Z" } : Jvm.MethodName) prog_46_method_5_code (8 : Nat) (Option.some Jvm.ClassFile.FieldType.boolean), Jvm.Cond.code ({ cls := "com/example/recourse/recourse/network/NodeHeap", name := "move", desc := "(II)V" } : Jvm.MethodName) prog_51_method_7_code (3 : Nat) (Option.none : Option Jvm.ClassFile.FieldType), Jvm.Cond.code ({ cls := "com/example/recourse/recourse/network/NodeHeap", name := "poll", desc := "()I" } : Jvm.MethodName) prog_51_method_6_code (9 : Nat) (Option.some Jvm.ClassFile.FieldType.int)]
set_option maxRecDepth 65536 in
theorem codes_eq : words1.filter isCode = codes1 := rfl
theorem w_codes : ∀ c ∈ words1.filter isCode, c.before args0 about1 = true := by
  rw [codes_eq]
  intro c hc
  simp only [codes1, List.mem_cons, List.not_mem_nil, or_false] at hc
  rcases hc with rfl | rfl | rfl | rfl | rfl | rfl | rfl | rfl | rfl | rfl
  · exact w_c0
  · exact w_c1
  · exact w_c2
  · exact w_c3
  · exact w_c4
  · exact w_c5
  · exact w_c6
  · exact w_c7
  · exact w_c8
  · exact w_c9
set_option maxRecDepth 65536 in
theorem w_t1 : (words1.take 24).all (fun c => isCode c || c.before args0 about1) = true := by decide +kernel
set_option maxRecDepth 65536 in
theorem w_t2 : ((words1.drop 24).take 24).all (fun c => isCode c || c.before args0 about1) = true := by decide +kernel
set_option maxRecDepth 65536 in
theorem w_t3 : ((words1.drop 24).drop 24).all (fun c => isCode c || c.before args0 about1) = true := by decide +kernel
theorem w_tables : (allAtoms (Jvm.Cond.code x code maxLocals ret :: tables_1)).before args0 about1 = true := by
  rw [allAtoms_all]
  show words1.all (fun c => c.before args0 about1) = true
  refine all_split ?_ w_codes
  rw [← List.take_append_drop 24 words1, List.all_append, w_t1, ← List.take_append_drop 24 (words1.drop 24), List.all_append, w_t2, w_t3]
  rfl
set_option maxRecDepth 65536 in
theorem w_case : (Jvm.Cond.and given_1 narrow_1).before args0 about1 = true := by decide +kernel
theorem w_applies : (headSpec (Jvm.Cond.code x code maxLocals ret :: tables_1) room_1).applies x e0.platform about1 = true :=
  (Spec.applies_iff w_frames).mpr ⟨w_running, w_runnable, w_alone, w_named, w_hears, w_ripe, w_room, w_tables⟩
theorem atStart : AtStart classFile x code maxLocals ret World_1 tables_1 room_1 Calls_1 rest_1 Pre_1 launch0 p0 e0 about1 theMethod args0 below0 :=
  ⟨lists_1, trivial, launch0.admits_env _ _ _, launch0.least_env, fairChoices_fair.cas, fairChoices_fair.clock, w_frames, w_args, w_heap, w_applies, trivial, trivial, w_case⟩
end start1
theorem witness_1 : WitnessClaimed_1 := ⟨start1.p0, start1.e0, start1.about1, start1.theMethod, start1.args0, start1.below0, start1.atStart⟩
end Jvm.Pilot.@@N@@
