import JvmDerived
import JvmDerived.Pilot.@@N@@Statement
import JvmDerived.Pilot.@@N@@Code
set_option linter.unusedVariables false
set_option linter.unusedSimpArgs false
@@BLOCK:HandJ.lean.txt@@
@@BLOCK:SymMore.lean.txt@@
namespace Jvm.Pilot.@@N@@
section OwnNum
open Jvm.FP.Core Jvm.Free.Fl
theorem zDN : (1 : Rat)⁻¹ = 1 := Rat.inv_eq_of_mul_eq_one (Rat.mul_one 1)
theorem zBf (q : Int) : (0 : Rat) < (2 : Rat) ^ q := Rat.zpow_pos (by decide)
theorem zCC (q : Int) : (2 : Rat) ^ q ≠ 0 := Rat.ne_of_gt (zBf q)
theorem zBg (a b : Int) : (2 : Rat) ^ (a + b) = 2 ^ a * 2 ^ b := Rat.zpow_add (by decide) a b
theorem own_p_nat (n : Nat) : ((2 ^ n : Nat) : Rat) = (2 : Rat) ^ (n : Int) := by rw [Rat.natCast_pow]; rfl
theorem zCD {a : Int} (h : 0 ≤ a) : ((2 ^ a.toNat : Nat) : Rat) = (2 : Rat) ^ a := by rw [own_p_nat, Int.toNat_of_nonneg h]
theorem own_p_neg (a : Int) : (2 : Rat) ^ a * 2 ^ (-a) = 1 := by rw [← zBg, Int.add_right_neg]; rfl
def zN (x : UInt64) (r : Rat) : Prop := ∃ s c q, val64 x = .fin s c q ∧ r = ((signed s c : Int) : Rat) * (2 : Rat) ^ q
def zBH (x : UInt64) (r : Rat) : Prop := ∃ s A B e, 0 < B ∧ val64 x = roundRatio b64 s A B e ∧ r = ((signed s A : Int) : Rat) / ((B : Nat) : Rat) * (2 : Rat) ^ e
theorem zDO (s : Bool) (c k : Nat) : ((signed s (c * k) : Int) : Rat) = ((signed s c : Int) : Rat) * ((k : Nat) : Rat) := by
  rw [signed_mul, Rat.intCast_mul]; rfl
theorem zCW {s : Bool} {c : Nat} {q : Int} (h : FP.Core.fits b64 (.fin s c q)) : ((zmag b64 (.fin s c q) : Nat) : Rat) = (c : Rat) * 2 ^ q * 2 ^ (1074 : Int) := by
  have h1 : b64.qmin ≤ q := h.2.1
  rw [qmin_b64] at h1
  show ((c * 2 ^ (q - b64.qmin).toNat : Nat) : Rat) = _
  rw [Rat.natCast_mul, zCD (by rw [qmin_b64]; omega), qmin_b64, show q - (-1074) = q + 1074 by omega, zBg, Rat.mul_assoc]
theorem zBX {x : UInt64} {r : Rat} (h : zN x r) : ((zval b64 (val64 x) : Int) : Rat) = r * 2 ^ (1074 : Int) := by
  obtain ⟨s, c, q, h1, rfl⟩ := h
  have hf := val64_fits x
  rw [h1] at hf ⊢
  have h2 := zCW hf
  show ((signed s (zmag b64 (.fin s c q)) : Int) : Rat) = _
  cases s
  · show ((zmag b64 (.fin false c q) : Nat) : Rat) = ((c : Nat) : Rat) * _ * _
    rw [h2]
  · show ((-(zmag b64 (.fin true c q) : Int) : Int) : Rat) = ((-(c : Int) : Int) : Rat) * _ * _
    rw [Rat.intCast_neg, Rat.intCast_neg, Rat.neg_mul, Rat.neg_mul]
    exact congrArg _ h2
theorem zCX {x : UInt64} {r : Rat} (h : zN x r) : val64 x ≠ .nan := by
  obtain ⟨s, c, q, h1, -⟩ := h; rw [h1]; exact Datum.noConfusion
theorem own_lt_of {a b : Rat} (h : a < b) (q : Int) : a * 2 ^ q < b * 2 ^ q := Rat.mul_lt_mul_of_pos_right h (zBf q)
theorem zCE {x y : UInt64} {a b : Rat} (hx : zN x a) (hy : zN y b) : FP.dcmp x y = some .lt ↔ a < b := by
  rw [show FP.dcmp x y = FP.Core.dcmp x y from rfl, dcmp_lt]
  constructor
  · rintro ⟨-, -, h⟩
    have h2 := Rat.intCast_lt_intCast.mpr h
    rw [zBX hx, zBX hy] at h2
    exact Rat.lt_of_mul_lt_mul_right h2 (Rat.le_of_lt (zBf _))
  · intro h
    refine ⟨zCX hx, zCX hy, Rat.intCast_lt_intCast.mp ?_⟩
    rw [zBX hx, zBX hy]
    exact own_lt_of h _
theorem own_is_gt {x y : UInt64} {a b : Rat} (hx : zN x a) (hy : zN y b) : FP.dcmp x y = some .gt ↔ b < a := by
  rw [← zCE hy hx, show FP.dcmp x y = FP.Core.dcmp x y from rfl, show FP.dcmp y x = FP.Core.dcmp y x from rfl, dcmp_gt, dcmp_lt]
  exact ⟨fun ⟨h1, h2, h⟩ => ⟨h2, h1, h⟩, fun ⟨h1, h2, h⟩ => ⟨h2, h1, h⟩⟩
theorem own_is_eq {x y : UInt64} {a b : Rat} (hx : zN x a) (hy : zN y b) : FP.dcmp x y = some .eq ↔ a = b := by
  rw [show FP.dcmp x y = FP.Core.dcmp x y from rfl, dcmp_eq]
  constructor
  · rintro ⟨-, -, h⟩
    have h2 : ((zval b64 (val64 x) : Int) : Rat) = ((zval b64 (val64 y) : Int) : Rat) := by rw [h]
    rw [zBX hx, zBX hy] at h2
    have h3 := zCC 1074
    calc a = a * 2 ^ (1074 : Int) / 2 ^ (1074 : Int) := (Rat.mul_div_cancel h3).symm
      _ = b * 2 ^ (1074 : Int) / 2 ^ (1074 : Int) := by rw [h2]
      _ = b := Rat.mul_div_cancel h3
  · rintro rfl
    exact ⟨zCX hx, zCX hy, Rat.intCast_inj.mp (by rw [zBX hx, zBX hy])⟩
theorem own_signed_zero {s : Bool} {A : Nat} : ((signed s A : Int) : Rat) = 0 ↔ A = 0 := by
  rw [Rat.intCast_eq_zero_iff, signed_eq_zero]
theorem zDP {s : Bool} {A B : Nat} {e : Int} (hB : 0 < B) : ((signed s A : Int) : Rat) / ((B : Nat) : Rat) * (2 : Rat) ^ e = 0 ↔ A = 0 := by
  have hb : ((B : Nat) : Rat) ≠ 0 := by rw [Ne, Rat.natCast_eq_zero_iff]; omega
  constructor
  · intro h
    rcases Rat.mul_eq_zero.mp h with h | h
    · rw [Rat.div_def] at h
      rcases Rat.mul_eq_zero.mp h with h | h
      · exact own_signed_zero.mp h
      · exact absurd (by rw [← Rat.inv_inv ((B : Nat) : Rat), h, Rat.inv_zero]) hb
    · exact absurd h (zCC e)
  · rintro rfl
    rw [own_signed_zero.mpr rfl, Rat.div_def, Rat.zero_mul, Rat.zero_mul]
end OwnNum
section OwnNum2
open Jvm.FP.Core Jvm.Free.Fl
theorem zCY {B : Nat} (h : 0 < B) : (0 : Rat) < ((B : Nat) : Rat) := Rat.natCast_pos.mpr h
theorem zCZ {B : Nat} (h : 0 < B) : ((B : Nat) : Rat) ≠ 0 := Rat.ne_of_gt (zCY h)
theorem own_cross {a b a' b' P P' : Rat} (hb : b ≠ 0) (hb' : b' ≠ 0) (h : a / b * P = a' / b' * P') : a * b' * P = a' * b * P' := by
  have h1 : a = a / b * b := (Rat.div_mul_cancel hb).symm
  have h2 : a' = a' / b' * b' := (Rat.div_mul_cancel hb').symm
  generalize a / b = u at *
  generalize a' / b' = w at *
  subst h1 h2
  grind
theorem own_cancel {a b P : Rat} (hP : P ≠ 0) (h : a * P = b * P) : a = b := by
  rw [← Rat.mul_div_cancel (a := a) hP, h, Rat.mul_div_cancel hP]
theorem own_sig_eq {s s' : Bool} {X Y : Nat} (hX : 0 < X) (h : signed s X = signed s' Y) : s = s' ∧ X = Y := by
  cases s <;> cases s' <;> simp only [signed, Bool.false_eq_true, if_true, if_false] at h <;> first | exact ⟨rfl, by omega⟩ | omega
theorem own_ratio_le {s s' : Bool} {A B A' B' : Nat} {e e' : Int} (hB : 0 < B) (hB' : 0 < B') (hA : 0 < A) (hle : e' ≤ e)
    (h : ((signed s A : Int) : Rat) / ((B : Nat) : Rat) * (2 : Rat) ^ e = ((signed s' A' : Int) : Rat) / ((B' : Nat) : Rat) * (2 : Rat) ^ e') :
    s = s' ∧ A * B' * 2 ^ (e - e').toNat = A' * B := by
  have h1 := own_cross (zCZ hB) (zCZ hB') h
  have h2 : (2 : Rat) ^ e = 2 ^ (e - e') * 2 ^ e' := by rw [← zBg]; congr 1; omega
  rw [h2, ← Rat.mul_assoc] at h1
  have h3 := own_cancel (zCC e') h1
  rw [← zCD (by omega), ← zDO, ← zDO, ← zDO, Rat.intCast_inj] at h3
  exact own_sig_eq (Nat.mul_pos (Nat.mul_pos hA hB') (Nat.two_pow_pos _)) h3
theorem own_ratio_eq {s s' : Bool} {A B A' B' : Nat} {e e' : Int} (hB : 0 < B) (hB' : 0 < B') (hA : 0 < A)
    (h : ((signed s A : Int) : Rat) / ((B : Nat) : Rat) * (2 : Rat) ^ e = ((signed s' A' : Int) : Rat) / ((B' : Nat) : Rat) * (2 : Rat) ^ e') :
    s = s' ∧ roundRatio b64 s A B e = roundRatio b64 s' A' B' e' := by
  have hA' : 0 < A' := by
    rcases Nat.eq_zero_or_pos A' with h0 | h0
    · rw [(zDP hB').mpr h0, zDP hB] at h; omega
    · exact h0
  rcases Int.le_total e' e with hle | hle
  · obtain ⟨rfl, h1⟩ := own_ratio_le hB hB' hA hle h
    refine ⟨rfl, roundRatio_congr hB hB' ?_⟩
    rw [h1, show (e' - e).toNat = 0 by omega]; simp
  · obtain ⟨rfl, h1⟩ := own_ratio_le hB' hB hA' hle h.symm
    refine ⟨rfl, (roundRatio_congr hB' hB ?_).symm⟩
    rw [h1, show (e - e').toNat = 0 by omega]; simp
theorem zDQ {x : UInt64} {r : Rat} (h : zBH x r) {m : Int} {k : Int} (hr : r = (m : Rat) * (2 : Rat) ^ k) (hm : m.natAbs < 2 ^ 53) (hk : -1074 ≤ k) (hk2 : k ≤ 971) : zN x r := by
  obtain ⟨s, A, B, e, hB, hv, hr0⟩ := h
  have hcan : ∀ (t : Bool), ((signed t m.natAbs : Int) : Rat) * (2 : Rat) ^ k = r → roundRatio b64 s A B e = round b64 (.fin t m.natAbs k) → zN x r := by
    intro t ht hq
    obtain ⟨c', q', h1, h2⟩ := round_exact good_b64 t (c := m.natAbs) (q := k) hm (by rw [qmin_b64]; exact hk) (by exact hk2)
    have hx : val64 x = .fin t c' q' := by rw [hv, hq, h1]
    refine ⟨t, c', q', hx, ?_⟩
    have hf := val64_fits x
    rw [hx] at hf
    have z1 := zCW hf
    have z2 : ((inUnits c' q' b64.qmin : Nat) : Rat) = ((m.natAbs : Nat) : Rat) * 2 ^ k * 2 ^ (1074 : Int) := by
      rw [h2]; unfold inUnits
      rw [Rat.natCast_mul, zCD (by rw [qmin_b64]; omega), qmin_b64, show k - (-1074) = k + 1074 by omega, zBg, Rat.mul_assoc]
    have z3 : (c' : Rat) * 2 ^ q' = ((m.natAbs : Nat) : Rat) * 2 ^ k := own_cancel (zCC 1074) (z1.symm.trans z2)
    rw [← ht]
    cases t
    · exact z3.symm
    · show ((-(m.natAbs : Int) : Int) : Rat) * _ = ((-(c' : Int) : Int) : Rat) * _
      rw [Rat.intCast_neg, Rat.intCast_neg, Rat.neg_mul, Rat.neg_mul]
      exact congrArg _ z3.symm
  rcases Nat.eq_zero_or_pos A with hA | hA
  · have h0 : r = 0 := by rw [hr0]; exact (zDP hB).mpr hA
    have hm0 : m = 0 := by
      rw [h0] at hr
      rcases Rat.mul_eq_zero.mp hr.symm with h1 | h1
      · exact Rat.intCast_eq_zero_iff.mp h1
      · exact absurd h1 (zCC k)
    subst hm0 hA
    refine hcan s ?_ ?_
    · rw [h0]; cases s <;> simp [signed]
    · show Datum.fin s 0 b64.qmin = Datum.fin s 0 b64.qmin
      rfl
  · have h1 : ((signed s A : Int) : Rat) / ((B : Nat) : Rat) * (2 : Rat) ^ e = ((signed (decide (m < 0)) m.natAbs : Int) : Rat) / (((1 : Nat) : Nat) : Rat) * (2 : Rat) ^ k := by
      rw [← hr0, hr, show (((1 : Nat) : Rat)) = 1 from rfl, Rat.div_def, zDN, Rat.mul_one]
      congr 2
      unfold signed
      by_cases hmn : m < 0 <;> simp [hmn] <;> omega
    obtain ⟨-, h2⟩ := own_ratio_eq hB (by decide) hA h1
    refine hcan (decide (m < 0)) ?_ h2
    rw [hr]
    congr 2
    unfold signed
    by_cases hmn : m < 0 <;> simp [hmn] <;> omega
theorem own_neg {x : UInt64} {a : Rat} (hx : zN x a) : zN (FP.dneg x) (-a) := by
  obtain ⟨s, c, q, h1, rfl⟩ := hx
  refine ⟨!s, c, q, (FP.val64_dneg x).trans (by rw [h1]; rfl), ?_⟩
  rw [signed_not, Rat.intCast_neg, Rat.neg_mul]
theorem own_rdL (a : Int64) : zBH (FP.l2d a) ((a.toInt : Int) : Rat) := by
  refine ⟨decide (a.toInt < 0), a.toInt.natAbs, 1, 0, by decide, val64_l2d a, ?_⟩
  rw [show (((1 : Nat) : Rat)) = 1 from rfl, Rat.div_def, zDN, Rat.mul_one, Rat.zpow_zero, Rat.mul_one]
  congr 1
  unfold signed
  by_cases hmn : a.toInt < 0 <;> simp [hmn] <;> omega
theorem zCF (a : Int32) : zN (FP.i2d a) ((a.toInt : Int) : Rat) := by
  have h : FP.i2d a = FP.l2d a.toInt64 := i2d_l2d a
  have h2 := own_rdL a.toInt64
  rw [Int32.toInt_toInt64] at h2
  rw [h]
  refine zDQ h2 (m := a.toInt) (k := 0) (by rw [Rat.zpow_zero, Rat.mul_one]) ?_ (by decide) (by decide)
  have := a.le_toInt; have := a.toInt_lt; omega
end OwnNum2
section OwnNum3
open Jvm.FP.Core Jvm.Free.Fl
theorem own_units {A B : Nat} {e : Int} {c : Nat} {q : Int} {s : Bool} (hf : FP.Core.fits b64 (.fin s c q)) (e0 : Int) (h0 : e0 ≤ b64.qmin) (h0e : e0 ≤ e) :
    (((inUnits A e e0 : Nat) : Rat) = (A : Rat) * 2 ^ e * 2 ^ (-e0)) ∧ (((zmag b64 (.fin s c q) * 2 ^ (b64.qmin - e0).toNat * B : Nat) : Rat) = ((c : Rat) * 2 ^ q) * (B : Rat) * 2 ^ (-e0)) := by
  constructor
  · unfold inUnits
    rw [Rat.natCast_mul, zCD (by omega), show e - e0 = e + -e0 by omega, zBg, Rat.mul_assoc]
  · rw [Rat.natCast_mul, Rat.natCast_mul, zCW hf, zCD (by omega), show b64.qmin - e0 = -1074 + -e0 by rw [qmin_b64]; omega, zBg]
    have := own_p_neg 1074
    grind
theorem own_le_div {a b w : Rat} (hb : 0 < b) : w ≤ a / b ↔ w * b ≤ a := by
  have h1 : a = a / b * b := (Rat.div_mul_cancel (Rat.ne_of_gt hb)).symm
  constructor
  · intro h; rw [h1]; exact Rat.mul_le_mul_of_nonneg_right h (Rat.le_of_lt hb)
  · intro h; rw [h1] at h; exact Rat.le_of_mul_le_mul_right h hb
theorem own_mag_le {A B : Nat} {e : Int} {s t : Bool} {c : Nat} {q : Int} (hB : 0 < B) (hf : FP.Core.fits b64 (.fin t c q)) (h : (A : Rat) / (B : Rat) * 2 ^ e ≤ (c : Rat) * 2 ^ q) : zmag b64 (roundRatio b64 s A B e) ≤ zmag b64 (.fin t c q) := by
  obtain ⟨u1, u2⟩ := own_units (A := A) (B := B) (e := e) hf (min e b64.qmin) (by omega) (by omega)
  refine zmag_roundRatio_le good_b64 hB hf Datum.noConfusion (e0 := min e b64.qmin) (by omega) (by omega) (Rat.natCast_le_natCast.mp ?_)
  rw [u1, u2]
  refine Rat.mul_le_mul_of_nonneg_right ?_ (Rat.le_of_lt (zBf _))
  have hb := zCY hB
  have h2 := Rat.mul_le_mul_of_nonneg_right h (Rat.le_of_lt hb)
  have h3 : (A : Rat) / (B : Rat) * 2 ^ e * (B : Rat) = (A : Rat) * 2 ^ e := by
    rw [Rat.mul_assoc, Rat.mul_comm ((2 : Rat) ^ e), ← Rat.mul_assoc, Rat.div_mul_cancel (zCZ hB)]
  rw [h3] at h2
  exact h2
theorem own_mag_ge {A B : Nat} {e : Int} {s t : Bool} {c : Nat} {q : Int} (hB : 0 < B) (hf : FP.Core.fits b64 (.fin t c q)) (h : (c : Rat) * 2 ^ q ≤ (A : Rat) / (B : Rat) * 2 ^ e) : zmag b64 (.fin t c q) ≤ zmag b64 (roundRatio b64 s A B e) := by
  obtain ⟨u1, u2⟩ := own_units (A := A) (B := B) (e := e) hf (min e b64.qmin) (by omega) (by omega)
  refine zmag_roundRatio_ge good_b64 hB hf (e0 := min e b64.qmin) (by omega) (by omega) (Rat.natCast_le_natCast.mp ?_)
  rw [u1, u2]
  refine Rat.mul_le_mul_of_nonneg_right ?_ (Rat.le_of_lt (zBf _))
  have hb := zCY hB
  have h2 := Rat.mul_le_mul_of_nonneg_right h (Rat.le_of_lt hb)
  have h3 : (A : Rat) / (B : Rat) * 2 ^ e * (B : Rat) = (A : Rat) * 2 ^ e := by
    rw [Rat.mul_assoc, Rat.mul_comm ((2 : Rat) ^ e), ← Rat.mul_assoc, Rat.div_mul_cancel (zCZ hB)]
  rw [h3] at h2
  exact h2
theorem own_signed_ratio (s : Bool) (A B : Nat) (e : Int) : ((signed s A : Int) : Rat) / ((B : Nat) : Rat) * (2 : Rat) ^ e = if s then -((A : Rat) / (B : Rat) * 2 ^ e) else (A : Rat) / (B : Rat) * 2 ^ e := by
  cases s
  · rfl
  · show ((-(A : Int) : Int) : Rat) / _ * _ = _
    rw [Rat.intCast_neg, Rat.div_def, Rat.neg_mul, Rat.neg_mul]; rfl
theorem own_signed_pow (s : Bool) (c : Nat) (q : Int) : ((signed s c : Int) : Rat) * (2 : Rat) ^ q = if s then -((c : Rat) * 2 ^ q) else (c : Rat) * 2 ^ q := by
  cases s
  · rfl
  · show ((-(c : Int) : Int) : Rat) * _ = _
    rw [Rat.intCast_neg, Rat.neg_mul]; rfl
theorem own_ratio_nonneg (A B : Nat) (e : Int) : 0 ≤ (A : Rat) / (B : Rat) * 2 ^ e := by
  refine Rat.mul_nonneg ?_ (Rat.le_of_lt (zBf e))
  rcases Nat.eq_zero_or_pos B with rfl | hB
  · rw [Rat.div_def]; exact Rat.mul_nonneg Rat.natCast_nonneg (by rw [show ((0 : Nat) : Rat) = 0 from rfl, Rat.inv_zero]; exact Rat.le_refl)
  · rw [own_le_div (zCY hB), Rat.zero_mul]; exact Rat.natCast_nonneg
theorem own_rd_le {x V : UInt64} {r y : Rat} (h : zBH x r) (hV : zN V y) (hle : r ≤ y) : zval b64 (val64 x) ≤ zval b64 (val64 V) := by
  obtain ⟨s, A, B, e, hB, hv, hr⟩ := h
  obtain ⟨t, c, q, hVv, hy⟩ := hV
  have hf := val64_fits V
  rw [hVv] at hf
  rw [hv, hVv]
  have m1 := own_mag_le (A := A) (e := e) (s := s) hB hf
  have m2 := own_mag_ge (A := A) (e := e) (s := s) hB hf
  unfold zval
  rw [sgn_roundRatio]
  show _ ≤ signed t (zmag b64 (.fin t c q))
  rw [own_signed_ratio] at hr
  rw [own_signed_pow] at hy
  have p1 := own_ratio_nonneg A B e
  have p2 : 0 ≤ (c : Rat) * 2 ^ q := Rat.mul_nonneg Rat.natCast_nonneg (Rat.le_of_lt (zBf q))
  have hz : (c : Rat) * 2 ^ q ≤ 0 → zmag b64 (.fin t c q) = 0 := by
    intro h0
    have h1 : (c : Rat) * 2 ^ q = 0 := Rat.le_antisymm h0 p2
    have h2 := zCW hf
    rw [h1, Rat.zero_mul] at h2
    exact Rat.natCast_eq_zero_iff.mp h2
  generalize (A : Rat) / (B : Rat) * 2 ^ e = ra at *
  generalize (c : Rat) * 2 ^ q = rc at *
  generalize zmag b64 (roundRatio b64 s A B e) = za at *
  generalize zmag b64 (.fin t c q) = zc at *
  cases s <;> cases t <;> simp only [signed, Bool.false_eq_true, if_true, if_false] at hr hy ⊢
  · have := m1 (by grind); omega
  · have := m1 (by grind); have := hz (by grind); omega
  · omega
  · have := m2 (by grind); omega
theorem own_rd_neg {x : UInt64} {r : Rat} (h : zBH x r) : zBH (FP.dneg x) (-r) := by
  obtain ⟨s, A, B, e, hB, hv, hr⟩ := h
  refine ⟨!s, A, B, e, hB, (FP.val64_dneg x).trans (by rw [hv, negate_roundRatio]), ?_⟩
  rw [hr, signed_not, Rat.intCast_neg, Rat.div_def, Rat.div_def, Rat.neg_mul, Rat.neg_mul]
theorem own_zval_neg (x : UInt64) : zval b64 (val64 (FP.dneg x)) = -zval b64 (val64 x) := by
  rw [show val64 (FP.dneg x) = negate (val64 x) from FP.val64_dneg x, zval_negate]
theorem own_rd_ge {x V : UInt64} {r y : Rat} (h : zBH x r) (hV : zN V y) (hle : y ≤ r) : zval b64 (val64 V) ≤ zval b64 (val64 x) := by
  have h1 := own_rd_le (own_rd_neg h) (own_neg hV) (Rat.neg_le_neg hle)
  rw [own_zval_neg, own_zval_neg] at h1
  omega
theorem own_big : zN 9110782046170513408 ((2 : Rat) ^ (1000 : Int)) := ⟨false, 2 ^ 52, 948, by decide +kernel, by
  show _ = (((2 ^ 52 : Nat) : Rat)) * _
  rw [own_p_nat, ← zBg]; rfl⟩
theorem own_rd_le' {x V : UInt64} {r v y : Rat} (h : zBH x r) (hx : zN x v) (hV : zN V y) (hle : r ≤ y) : v ≤ y := by
  have h1 := own_rd_le h hV hle
  refine Rat.not_lt.mp fun h2 => ?_
  have h3 := (dcmp_lt.mp ((zCE hV hx).mpr h2)).2.2
  omega
theorem own_rd_ge' {x V : UInt64} {r v y : Rat} (h : zBH x r) (hx : zN x v) (hV : zN V y) (hle : y ≤ r) : y ≤ v := by
  have h1 := own_rd_ge h hV hle
  refine Rat.not_lt.mp fun h2 => ?_
  have h3 := (dcmp_lt.mp ((zCE hx hV).mpr h2)).2.2
  omega
theorem own_rep {m k : Int} (hm : m.natAbs < 2 ^ 53) (hk : -1074 ≤ k) (hk2 : k ≤ 971) : ∃ V, zN V ((m : Rat) * (2 : Rat) ^ k) := by
  have hf : FP.Core.fits b64 (roundRatio b64 (decide (m < 0)) m.natAbs 1 k) := roundRatio_fits good_b64 _ _ (by decide) _
  refine ⟨of64 (roundRatio b64 (decide (m < 0)) m.natAbs 1 k), zDQ ⟨decide (m < 0), m.natAbs, 1, k, by decide, val64_of64 hf, ?_⟩ rfl hm hk hk2⟩
  rw [show (((1 : Nat) : Rat)) = 1 from rfl, Rat.div_def, zDN, Rat.mul_one]
  congr 2
  unfold signed
  by_cases hmn : m < 0 <;> simp [hmn] <;> omega
end OwnNum3
section OwnNum4
open Jvm.FP.Core Jvm.Free.Fl
theorem own_rep' {m k : Int} {r : Rat} (hr : r = (m : Rat) * (2 : Rat) ^ k) (hm : m.natAbs < 2 ^ 53) (hk : -1074 ≤ k) (hk2 : k ≤ 971) : ∃ V, zN V r := by rw [hr]; exact own_rep hm hk hk2
theorem zCG {x y : UInt64} {a b : Rat} (hx : zN x a) (hy : zN y b) (o : ClassFile.CmpOp) : Op.cmpValue (FP.dcmp x y) o = if a < b then -1 else if a = b then 0 else 1 := by
  by_cases h1 : a < b
  · rw [(zCE hx hy).mpr h1, if_pos h1]; rfl
  · by_cases h2 : a = b
    · rw [(own_is_eq hx hy).mpr h2, if_neg h1, if_pos h2]; rfl
    · have h3 : b < a := by grind
      rw [(own_is_gt hx hy).mpr h3, if_neg h1, if_neg h2]; rfl
theorem zAg {x y : UInt64} {a b : Rat} (hx : zN x a) (hy : zN y b) (o : ClassFile.CmpOp) : Op.ifCond.holds .lt (Op.cmpValue (FP.dcmp x y) o) = decide (a < b) := by
  rw [zCG hx hy]; by_cases h1 : a < b <;> by_cases h2 : a = b <;> simp [h1, h2, Op.ifCond.holds]
theorem zCa {x y : UInt64} {a b : Rat} (hx : zN x a) (hy : zN y b) (o : ClassFile.CmpOp) : Op.ifCond.holds .ge (Op.cmpValue (FP.dcmp x y) o) = decide (b ≤ a) := by
  rw [zCG hx hy]
  by_cases h1 : a < b
  · simp [h1, Rat.not_le.mpr h1, Op.ifCond.holds]
  · by_cases h2 : a = b <;> simp [h1, h2, Rat.not_lt.mp h1, Op.ifCond.holds, Rat.le_refl]
theorem zAc {x y : UInt64} {a b : Rat} (hx : zN x a) (hy : zN y b) (o : ClassFile.CmpOp) : Op.ifCond.holds .gt (Op.cmpValue (FP.dcmp x y) o) = decide (b < a) := by
  rw [zCG hx hy]
  by_cases h1 : a < b
  · have : ¬ b < a := by grind
    simp [h1, this, Op.ifCond.holds]
  · by_cases h2 : a = b
    · subst h2; simp [Rat.lt_irrefl, Op.ifCond.holds]
    · have : b < a := by grind
      simp [h1, h2, this, Op.ifCond.holds]
theorem zBI {x y : UInt64} {a b : Rat} (hx : zN x a) (hy : zN y b) (o : ClassFile.CmpOp) : Op.ifCond.holds .le (Op.cmpValue (FP.dcmp x y) o) = decide (a ≤ b) := by
  rw [zCG hx hy]
  by_cases h1 : a < b
  · simp [h1, Rat.le_of_lt h1, Op.ifCond.holds]
  · by_cases h2 : a = b
    · subst h2; simp [Rat.lt_irrefl, Rat.le_refl, Op.ifCond.holds]
    · have : ¬ a ≤ b := by grind
      simp [h1, h2, this, Op.ifCond.holds]
theorem own_c_ne {x y : UInt64} {a b : Rat} (hx : zN x a) (hy : zN y b) (o : ClassFile.CmpOp) : Op.ifCond.holds .ne (Op.cmpValue (FP.dcmp x y) o) = decide (a ≠ b) := by
  rw [zCG hx hy]
  by_cases h1 : a < b
  · have : ¬ a = b := by grind
    simp [h1, this, Op.ifCond.holds]
  · by_cases h2 : a = b <;> simp [h1, h2, Op.ifCond.holds]
theorem zCH (x y : Int32) : Op.if_icmp.holds .ge x y = decide (y.toInt ≤ x.toInt) := by simp only [Op.if_icmp.holds, GE.ge, Int32.le_iff_toInt_le]
theorem zCb (x y : Int32) : Op.if_icmp.holds .eq x y = decide (x = y) := by rw [Bool.eq_iff_iff]; simp [Op.if_icmp.holds]
theorem zAQ (x y : Int32) : Op.if_icmp.holds .ne x y = decide (x ≠ y) := by rw [Bool.eq_iff_iff]; simp [Op.if_icmp.holds]
theorem own_z_lt (x : Int32) : Op.ifCond.holds .lt x = decide (x.toInt < 0) := by simp only [Op.ifCond.holds, Int32.lt_iff_toInt_lt]; rfl
theorem zBY (x : Int32) : Op.ifCond.holds .eq x = decide (x = 0) := by rw [Bool.eq_iff_iff]; simp [Op.ifCond.holds]
theorem own_lc_gt (x y : Int64) : Op.ifCond.holds .gt (if x > y then (1 : Int32) else if x = y then 0 else -1) = decide (y.toInt < x.toInt) := by
  simp only [GT.gt, Int64.lt_iff_toInt_lt, ← Int64.toInt_inj]
  by_cases h1 : y.toInt < x.toInt
  · simp [h1, Op.ifCond.holds]
  · by_cases h2 : x.toInt = y.toInt
    · simp [h2, Op.ifCond.holds]
    · simp [h1, h2, Op.ifCond.holds]
theorem zAt (x y : Int64) : Op.ifCond.holds .le (if x > y then (1 : Int32) else if x = y then 0 else -1) = decide (x.toInt ≤ y.toInt) := by
  simp only [GT.gt, Int64.lt_iff_toInt_lt, ← Int64.toInt_inj]
  by_cases h1 : y.toInt < x.toInt
  · simp [h1, Op.ifCond.holds, show ¬ x.toInt ≤ y.toInt by omega]
  · by_cases h2 : x.toInt = y.toInt
    · simp [h2, Op.ifCond.holds]
    · simp [h1, h2, Op.ifCond.holds, show x.toInt ≤ y.toInt by omega]
theorem own_lc_ne (x y : Int64) : Op.ifCond.holds .ne (if x > y then (1 : Int32) else if x = y then 0 else -1) = decide (x.toInt ≠ y.toInt) := by
  simp only [GT.gt, Int64.lt_iff_toInt_lt, ← Int64.toInt_inj]
  by_cases h1 : y.toInt < x.toInt
  · simp [h1, Op.ifCond.holds, show ¬ x.toInt = y.toInt by omega]
  · by_cases h2 : x.toInt = y.toInt
    · simp [h2, Op.ifCond.holds]
    · simp [h1, h2, Op.ifCond.holds]
end OwnNum4
section OwnNum5
open Jvm.FP.Core Jvm.Free.Fl
theorem own_rd_small {x : UInt64} {i : Int} (h : zBH x (i : Rat)) (hs : i.natAbs < 2 ^ 53) : zN x (i : Rat) :=
  zDQ h (m := i) (k := 0) (by rw [Rat.zpow_zero, Rat.mul_one]) hs (by decide) (by decide)
end OwnNum5
section OwnNum6
open Jvm.FP.Core Jvm.Free.Fl
def own_Rep (r : Rat) : Prop := ∃ m k : Int, r = (m : Rat) * (2 : Rat) ^ k ∧ m.natAbs < 2 ^ 53 ∧ -1074 ≤ k ∧ k ≤ 971
theorem zAS {a b : Int} (h : a ≤ b) : ((a : Int) : Rat) ≤ ((b : Int) : Rat) := Rat.intCast_le_intCast.mpr h
end OwnNum6
open Jvm Jvm.ClassFile Sem Op Lib Jvm.Free Jvm.Stand Jvm.LawKit Jvm.RoadKit Bundle Jvm.Pilot.@@N@@.Jvm.D
abbrev oi (w : Int32) : Slot := .val (.int w)
abbrev oa (x : Addr) : Slot := .val (.ref x)
abbrev ou : Slot := .unset
theorem zB {a0 : Array Value} {Z : State} (hw : ∀ d ∈ tables_1, d.before a0 Z = true) (i : Nat) {d : Jvm.Cond} (h : tables_1[i]? = some d) : d.before a0 Z = true := hw _ (List.mem_of_getElem? h)
abbrev ok0 := jdk_29_method_70_code
abbrev ok1 := jdk_33_method_47_code
abbrev ok2 := prog_125_method_10_code
abbrev ok3 := prog_125_method_1_code
abbrev ok4 := prog_125_method_4_code
abbrev ok5 := prog_125_method_5_code
abbrev ok6 := prog_150_method_1_code
abbrev ok7 := prog_150_method_2_code
abbrev ok8 := prog_150_method_3_code
abbrev ok9 := prog_150_method_4_code
abbrev ok10 := prog_150_method_5_code
abbrev ok11 := prog_150_method_6_code
section OwnWalk
open Jvm.Free Jvm.Free.Fl
def zDR (tb : Tables) (e : Env) (below : List Frame) (T : State) (m : MethodId) (c : Code) (i : Nat) (v : Value) : Prop :=
  ∀ (g : JFrame) (target : State), g.method = m →
    ((∃ x, v = .int x) → decode c.code g.pc = .ok (.ldc i, 2) → Steps tb e below (T.setTop { g with pc := g.pc + 2, stack := v :: g.stack }) target → Steps tb e below (T.setTop g) target) ∧
    ((∃ x, v = .int x) → decode c.code g.pc = .ok (.ldc_w i, 3) → Steps tb e below (T.setTop { g with pc := g.pc + 3, stack := v :: g.stack }) target → Steps tb e below (T.setTop g) target) ∧
    (((∃ x, v = .long x) ∨ ∃ x, v = .double x) → decode c.code g.pc = .ok (.ldc2_w i, 3) → Steps tb e below (T.setTop { g with pc := g.pc + 3, stack := v :: g.stack }) target → Steps tb e below (T.setTop g) target)
def zF (P : List (Nat × Value)) (b : ByteArray) (pc : Nat) (L : Array Slot) (S : List Value) (pc' : Nat) (L' : Array Slot) (S' : List Value) : Prop :=
  ∀ (tb : Tables) [Ours tb] (e : Env) (below : List Frame) (T target : State) (m : MethodId) (c : Code), At T m c below → tb.exec = Jvm.exec → c.code = b →
    (∀ q ∈ P, zDR tb e below T m c q.1 q.2) → Steps tb e below (T.setTop (mkF m pc' L' S')) target → Steps tb e below (T.setTop (mkF m pc L S)) target
variable {P : List (Nat × Value)} {b : ByteArray} {pc pcE : Nat} {L L' LE : Array Slot} {S SE : List Value}
theorem zH : zF P b pc L S pc L S := fun tb _ e below T target m c h hx hy hP k => k
theorem zn {j : Nat} {v : Int32} {pc2 : Nat} (hd : decode b pc = .ok (.iload j, 2)) (hpc : pc + 2 = pc2) (hl : L[j]? = some (.val (.int v))) (r : zF P b pc2 L (.int v :: S) pcE LE SE) : zF P b pc L (S) pcE LE SE := by
  intro tb _ e below T target m c h hx hy hP k; subst hpc; exact XS.iload h hx rfl (hb hy hd) hl (r tb e below T target m c h hx hy hP k)
theorem zM {j : Fin 4} {v : Int32} {pc2 : Nat} (hd : decode b pc = .ok (.iload_n j, 1)) (hpc : pc + 1 = pc2) (hl : L[j.val]? = some (.val (.int v))) (r : zF P b pc2 L (.int v :: S) pcE LE SE) : zF P b pc L (S) pcE LE SE := by
  intro tb _ e below T target m c h hx hy hP k; subst hpc; exact XS.iloadN h hx rfl (hb hy hd) hl (r tb e below T target m c h hx hy hP k)
theorem zBJ {j : Nat} {v : Int32} {rest : List Value} {pc2 : Nat} (hd : decode b pc = .ok (.istore j, 2)) (hpc : pc + 2 = pc2) (hl : storeLocals L j (.int v) = some L') (r : zF P b pc2 L' (rest) pcE LE SE) : zF P b pc L (.int v :: rest) pcE LE SE := by
  intro tb _ e below T target m c h hx hy hP k; subst hpc; exact XS.istore h hx rfl (hb hy hd) rfl hl (r tb e below T target m c h hx hy hP k)
theorem zAG {j : Fin 4} {v : Int32} {rest : List Value} {pc2 : Nat} (hd : decode b pc = .ok (.istore_n j, 1)) (hpc : pc + 1 = pc2) (hl : storeLocals L j.val (.int v) = some L') (r : zF P b pc2 L' (rest) pcE LE SE) : zF P b pc L (.int v :: rest) pcE LE SE := by
  intro tb _ e below T target m c h hx hy hP k; subst hpc; exact XS.istoreN h hx rfl (hb hy hd) rfl hl (r tb e below T target m c h hx hy hP k)
theorem zAh {j : Nat} {v : Int64} {pc2 : Nat} (hd : decode b pc = .ok (.lload j, 2)) (hpc : pc + 2 = pc2) (hl : L[j]? = some (.val (.long v))) (r : zF P b pc2 L (.long v :: S) pcE LE SE) : zF P b pc L (S) pcE LE SE := by
  intro tb _ e below T target m c h hx hy hP k; subst hpc; exact XS.lload h hx rfl (hb hy hd) hl (r tb e below T target m c h hx hy hP k)
theorem zBK {j : Fin 4} {v : Int64} {pc2 : Nat} (hd : decode b pc = .ok (.lload_n j, 1)) (hpc : pc + 1 = pc2) (hl : L[j.val]? = some (.val (.long v))) (r : zF P b pc2 L (.long v :: S) pcE LE SE) : zF P b pc L (S) pcE LE SE := by
  intro tb _ e below T target m c h hx hy hP k; subst hpc; exact XS.lloadN h hx rfl (hb hy hd) hl (r tb e below T target m c h hx hy hP k)
theorem zCc {j : Nat} {v : Int64} {rest : List Value} {pc2 : Nat} (hd : decode b pc = .ok (.lstore j, 2)) (hpc : pc + 2 = pc2) (hl : storeLocals L j (.long v) = some L') (r : zF P b pc2 L' (rest) pcE LE SE) : zF P b pc L (.long v :: rest) pcE LE SE := by
  intro tb _ e below T target m c h hx hy hP k; subst hpc; exact XS.lstore h hx rfl (hb hy hd) rfl hl (r tb e below T target m c h hx hy hP k)
theorem zCI {j : Fin 4} {v : Int64} {rest : List Value} {pc2 : Nat} (hd : decode b pc = .ok (.lstore_n j, 1)) (hpc : pc + 1 = pc2) (hl : storeLocals L j.val (.long v) = some L') (r : zF P b pc2 L' (rest) pcE LE SE) : zF P b pc L (.long v :: rest) pcE LE SE := by
  intro tb _ e below T target m c h hx hy hP k; subst hpc; exact XS.lstoreN h hx rfl (hb hy hd) rfl hl (r tb e below T target m c h hx hy hP k)
theorem zCd {j : Nat} {v : UInt64} {pc2 : Nat} (hd : decode b pc = .ok (.dload j, 2)) (hpc : pc + 2 = pc2) (hl : L[j]? = some (.val (.double v))) (r : zF P b pc2 L (.double v :: S) pcE LE SE) : zF P b pc L (S) pcE LE SE := by
  intro tb _ e below T target m c h hx hy hP k; subst hpc; exact XS.dload h hx rfl (hb hy hd) hl (r tb e below T target m c h hx hy hP k)
theorem zBt {j : Fin 4} {v : UInt64} {pc2 : Nat} (hd : decode b pc = .ok (.dload_n j, 1)) (hpc : pc + 1 = pc2) (hl : L[j.val]? = some (.val (.double v))) (r : zF P b pc2 L (.double v :: S) pcE LE SE) : zF P b pc L (S) pcE LE SE := by
  intro tb _ e below T target m c h hx hy hP k; subst hpc; exact XS.dloadN h hx rfl (hb hy hd) hl (r tb e below T target m c h hx hy hP k)
theorem zCe {j : Nat} {v : UInt64} {rest : List Value} {pc2 : Nat} (hd : decode b pc = .ok (.dstore j, 2)) (hpc : pc + 2 = pc2) (hl : storeLocals L j (.double v) = some L') (r : zF P b pc2 L' (rest) pcE LE SE) : zF P b pc L (.double v :: rest) pcE LE SE := by
  intro tb _ e below T target m c h hx hy hP k; subst hpc; exact XS.dstore h hx rfl (hb hy hd) rfl hl (r tb e below T target m c h hx hy hP k)
theorem zp {j : Nat} {v : Value} {pc2 : Nat} (hd : decode b pc = .ok (.aload j, 2)) (hpc : pc + 2 = pc2) (hl : L[j]? = some (.val v)) (hr : v.isRef = true) (r : zF P b pc2 L (v :: S) pcE LE SE) : zF P b pc L (S) pcE LE SE := by
  intro tb _ e below T target m c h hx hy hP k; subst hpc; exact XS.aload h hx rfl (hb hy hd) hl hr (r tb e below T target m c h hx hy hP k)
theorem zJ {j : Fin 4} {v : Value} {pc2 : Nat} (hd : decode b pc = .ok (.aload_n j, 1)) (hpc : pc + 1 = pc2) (hl : L[j.val]? = some (.val v)) (hr : v.isRef = true) (r : zF P b pc2 L (v :: S) pcE LE SE) : zF P b pc L (S) pcE LE SE := by
  intro tb _ e below T target m c h hx hy hP k; subst hpc; exact XS.aloadN h hx rfl (hb hy hd) hl hr (r tb e below T target m c h hx hy hP k)
theorem zDS {j : Nat} {v : Value} {rest : List Value} {pc2 : Nat} (hd : decode b pc = .ok (.astore j, 2)) (hpc : pc + 2 = pc2) (hr : v.isRef = true) (hl : storeLocals L j v = some L') (r : zF P b pc2 L' (rest) pcE LE SE) : zF P b pc L (v :: rest) pcE LE SE := by
  intro tb _ e below T target m c h hx hy hP k; subst hpc; exact XS.astore h hx rfl (hb hy hd) rfl hr hl (r tb e below T target m c h hx hy hP k)
theorem zT {i : Int} {v : Int32} {pc2 : Nat} (hd : decode b pc = .ok (.iconst i, 1)) (hpc : pc + 1 = pc2) (hv : Int32.ofInt i = v) (r : zF P b pc2 L (.int v :: S) pcE LE SE) : zF P b pc L (S) pcE LE SE := by
  intro tb _ e below T target m c h hx hy hP k; subst hpc; subst hv; exact XS.iconst h hx rfl (hb hy hd) (r tb e below T target m c h hx hy hP k)
theorem zAu {i : Int} {v : Int32} {pc2 : Nat} (hd : decode b pc = .ok (.bipush i, 2)) (hpc : pc + 2 = pc2) (hv : (Int8.ofInt i).toInt32 = v) (r : zF P b pc2 L (.int v :: S) pcE LE SE) : zF P b pc L (S) pcE LE SE := by
  intro tb _ e below T target m c h hx hy hP k; subst hpc; subst hv; exact XS.bipush h hx rfl (hb hy hd) (r tb e below T target m c h hx hy hP k)
theorem own_sipush {i : Int} {v : Int32} {pc2 : Nat} (hd : decode b pc = .ok (.sipush i, 3)) (hpc : pc + 3 = pc2) (hv : (Int16.ofInt i).toInt32 = v) (r : zF P b pc2 L (.int v :: S) pcE LE SE) : zF P b pc L (S) pcE LE SE := by
  intro tb _ e below T target m c h hx hy hP k; subst hpc; subst hv; exact XS.sipush h hx rfl (hb hy hd) (r tb e below T target m c h hx hy hP k)
theorem zAI {x y : Int32} {v : Int32} {rest : List Value} {pc2 : Nat} (hd : decode b pc = .ok (.iadd, 1)) (hpc : pc + 1 = pc2) (hv : x + y = v) (r : zF P b pc2 L (.int v :: rest) pcE LE SE) : zF P b pc L (.int y :: .int x :: rest) pcE LE SE := by
  intro tb _ e below T target m c h hx hy hP k; subst hpc; subst hv; exact XS.iadd h hx rfl (hb hy hd) rfl (r tb e below T target m c h hx hy hP k)
theorem zAU {x y : Int32} {v : Int32} {rest : List Value} {pc2 : Nat} (hd : decode b pc = .ok (.isub, 1)) (hpc : pc + 1 = pc2) (hv : x - y = v) (r : zF P b pc2 L (.int v :: rest) pcE LE SE) : zF P b pc L (.int y :: .int x :: rest) pcE LE SE := by
  intro tb _ e below T target m c h hx hy hP k; subst hpc; subst hv; exact XS.isub h hx rfl (hb hy hd) rfl (r tb e below T target m c h hx hy hP k)
theorem zAq {x y : Int32} {v : Int32} {rest : List Value} {pc2 : Nat} (hd : decode b pc = .ok (.imul, 1)) (hpc : pc + 1 = pc2) (hv : x * y = v) (r : zF P b pc2 L (.int v :: rest) pcE LE SE) : zF P b pc L (.int y :: .int x :: rest) pcE LE SE := by
  intro tb _ e below T target m c h hx hy hP k; subst hpc; subst hv; exact XS.imul h hx rfl (hb hy hd) rfl (r tb e below T target m c h hx hy hP k)
theorem zBu {x y : Int32} {v : Int32} {rest : List Value} {pc2 : Nat} (hd : decode b pc = .ok (.iand, 1)) (hpc : pc + 1 = pc2) (hv : x &&& y = v) (r : zF P b pc2 L (.int v :: rest) pcE LE SE) : zF P b pc L (.int y :: .int x :: rest) pcE LE SE := by
  intro tb _ e below T target m c h hx hy hP k; subst hpc; subst hv; exact XS.iand h hx rfl (hb hy hd) rfl (r tb e below T target m c h hx hy hP k)
theorem zAr {x y : Int32} {v : Int32} {rest : List Value} {pc2 : Nat} (hd : decode b pc = .ok (.iushr, 1)) (hpc : pc + 1 = pc2) (hv : (x.toUInt32 >>> (y &&& 31).toUInt32).toInt32 = v) (r : zF P b pc2 L (.int v :: rest) pcE LE SE) : zF P b pc L (.int y :: .int x :: rest) pcE LE SE := by
  intro tb _ e below T target m c h hx hy hP k; subst hpc; subst hv; exact XS.iushr h hx rfl (hb hy hd) rfl (r tb e below T target m c h hx hy hP k)
theorem zCf {x y : Int32} {v : Int32} {rest : List Value} {pc2 : Nat} (hd : decode b pc = .ok (.idiv, 1)) (hpc : pc + 1 = pc2) (hn : y ≠ 0) (hv : x / y = v) (r : zF P b pc2 L (.int v :: rest) pcE LE SE) : zF P b pc L (.int y :: .int x :: rest) pcE LE SE := by
  intro tb _ e below T target m c h hx hy hP k; subst hpc; subst hv; exact XS.idiv h hx rfl (hb hy hd) rfl hn (r tb e below T target m c h hx hy hP k)
theorem zAi {x y : Int64} {v : Int32} {rest : List Value} {pc2 : Nat} (hd : decode b pc = .ok (.lcmp, 1)) (hpc : pc + 1 = pc2) (hv : (if x > y then 1 else if x = y then 0 else -1) = v) (r : zF P b pc2 L (.int v :: rest) pcE LE SE) : zF P b pc L (.long y :: .long x :: rest) pcE LE SE := by
  intro tb _ e below T target m c h hx hy hP k; subst hpc; subst hv; exact XS.lcmp h hx rfl (hb hy hd) rfl (r tb e below T target m c h hx hy hP k)
theorem zAv {x : Int32} {v : Int64} {rest : List Value} {pc2 : Nat} (hd : decode b pc = .ok (.i2l, 1)) (hpc : pc + 1 = pc2) (hv : x.toInt64 = v) (r : zF P b pc2 L (.long v :: rest) pcE LE SE) : zF P b pc L (.int x :: rest) pcE LE SE := by
  intro tb _ e below T target m c h hx hy hP k; subst hpc; subst hv; exact XS.i2l h hx rfl (hb hy hd) rfl (r tb e below T target m c h hx hy hP k)
theorem zCJ {x : Int32} {v : UInt64} {rest : List Value} {pc2 : Nat} (hd : decode b pc = .ok (.i2d, 1)) (hpc : pc + 1 = pc2) (hv : FP.i2d x = v) (r : zF P b pc2 L (.double v :: rest) pcE LE SE) : zF P b pc L (.int x :: rest) pcE LE SE := by
  intro tb _ e below T target m c h hx hy hP k; subst hpc; subst hv; exact XS.i2dS h hx rfl (hb hy hd) rfl rfl (r tb e below T target m c h hx hy hP k)
theorem own_l2d {x : Int64} {v : UInt64} {rest : List Value} {pc2 : Nat} (hd : decode b pc = .ok (.l2d, 1)) (hpc : pc + 1 = pc2) (hv : FP.l2d x = v) (r : zF P b pc2 L (.double v :: rest) pcE LE SE) : zF P b pc L (.long x :: rest) pcE LE SE := by
  intro tb _ e below T target m c h hx hy hP k; subst hpc; subst hv; exact XS.l2dS h hx rfl (hb hy hd) rfl rfl (r tb e below T target m c h hx hy hP k)
theorem zAD {o : CmpOp} {x y : UInt64} {v : Int32} {rest : List Value} {pc2 : Nat} (hd : decode b pc = .ok (.dcmp o, 1)) (hpc : pc + 1 = pc2) (hv : cmpValue (FP.dcmp x y) o = v) (r : zF P b pc2 L (.int v :: rest) pcE LE SE) : zF P b pc L (.double y :: .double x :: rest) pcE LE SE := by
  intro tb _ e below T target m c h hx hy hP k; subst hpc; subst hv; exact XS.dcmpS h hx rfl (hb hy hd) rfl rfl (r tb e below T target m c h hx hy hP k)
theorem zBh {v : Value} {rest : List Value} {pc2 : Nat} (hd : decode b pc = .ok (.dup, 1)) (hpc : pc + 1 = pc2) (hc : v.category = 1) (r : zF P b pc2 L (v :: v :: rest) pcE LE SE) : zF P b pc L (v :: rest) pcE LE SE := by
  intro tb _ e below T target m c h hx hy hP k; subst hpc; exact XS.dup h hx rfl (hb hy hd) rfl hc (r tb e below T target m c h hx hy hP k)
theorem zCK {v w : Value} {rest : List Value} {pc2 : Nat} (hd : decode b pc = .ok (.dup_x1, 1)) (hpc : pc + 1 = pc2) (hc : v.category = 1) (hc' : w.category = 1) (r : zF P b pc2 L (v :: w :: v :: rest) pcE LE SE) : zF P b pc L (v :: w :: rest) pcE LE SE := by
  intro tb _ e below T target m c h hx hy hP k; subst hpc; exact XS.dupX1 h hx rfl (hb hy hd) rfl hc hc' (r tb e below T target m c h hx hy hP k)
theorem zx {cd : ClassFile.Cond} {x : Int32} {o : Int} {pc' : Nat} {rest : List Value} (hd : decode b pc = .ok (.ifCond cd o, 3)) (hc : ifCond.holds cd x = true) (ho : 0 ≤ (pc : Int) + o) (hp : ((pc : Int) + o).toNat = pc') (r : zF P b pc' L rest pcE LE SE) : zF P b pc L (.int x :: rest) pcE LE SE := by
  intro tb _ e below T target m c h hx hy hP k; exact XS.ifYes h hx rfl rfl (hb hy hd) rfl hc ho hp (r tb e below T target m c h hx hy hP k)
theorem zy {cd : ClassFile.Cond} {x : Int32} {o : Int} {rest : List Value} {pc2 : Nat} (hd : decode b pc = .ok (.ifCond cd o, 3)) (hpc : pc + 3 = pc2) (hc : ifCond.holds cd x = false) (r : zF P b pc2 L rest pcE LE SE) : zF P b pc L (.int x :: rest) pcE LE SE := by
  intro tb _ e below T target m c h hx hy hP k; subst hpc; exact XS.ifNo h hx rfl (hb hy hd) rfl hc (r tb e below T target m c h hx hy hP k)
theorem zAJ {cd : ClassFile.Cond} {x y : Int32} {o : Int} {pc' : Nat} {rest : List Value} (hd : decode b pc = .ok (.if_icmp cd o, 3)) (hc : if_icmp.holds cd x y = true) (ho : 0 ≤ (pc : Int) + o) (hp : ((pc : Int) + o).toNat = pc') (r : zF P b pc' L rest pcE LE SE) : zF P b pc L (.int y :: .int x :: rest) pcE LE SE := by
  intro tb _ e below T target m c h hx hy hP k; exact XS.icmpYes h hx rfl rfl (hb hy hd) rfl hc ho hp (r tb e below T target m c h hx hy hP k)
theorem zAw {cd : ClassFile.Cond} {x y : Int32} {o : Int} {rest : List Value} {pc2 : Nat} (hd : decode b pc = .ok (.if_icmp cd o, 3)) (hpc : pc + 3 = pc2) (hc : if_icmp.holds cd x y = false) (r : zF P b pc2 L rest pcE LE SE) : zF P b pc L (.int y :: .int x :: rest) pcE LE SE := by
  intro tb _ e below T target m c h hx hy hP k; subst hpc; exact XS.icmpNo h hx rfl (hb hy hd) rfl hc (r tb e below T target m c h hx hy hP k)
theorem zCg {o : Int} {pc' : Nat} {rest : List Value} (hd : decode b pc = .ok (.ifnull o, 3)) (ho : 0 ≤ (pc : Int) + o) (hp : ((pc : Int) + o).toNat = pc') (r : zF P b pc' L rest pcE LE SE) : zF P b pc L (.null :: rest) pcE LE SE := by
  intro tb _ e below T target m c h hx hy hP k; exact XS.ifnullYes h hx rfl rfl (hb hy hd) rfl ho hp (r tb e below T target m c h hx hy hP k)
theorem zCh {o : Int} {rest : List Value} {pc2 : Nat} (hd : decode b pc = .ok (.ifnonnull o, 3)) (hpc : pc + 3 = pc2) (r : zF P b pc2 L rest pcE LE SE) : zF P b pc L (.null :: rest) pcE LE SE := by
  intro tb _ e below T target m c h hx hy hP k; subst hpc; exact XS.ifnonnullNo h hx rfl (hb hy hd) rfl (r tb e below T target m c h hx hy hP k)
theorem zAN {o : Int} {pc' : Nat} (hd : decode b pc = .ok (.goto o, 3)) (ho : 0 ≤ (pc : Int) + o) (hp : ((pc : Int) + o).toNat = pc') (r : zF P b pc' L S pcE LE SE) : zF P b pc L S pcE LE SE := by
  intro tb _ e below T target m c h hx hy hP k; exact XS.goto h hx rfl rfl (hb hy hd) ho hp (r tb e below T target m c h hx hy hP k)
theorem own_iinc {j : Nat} {cst : Int} {x v : Int32} {pc2 : Nat} (hd : decode b pc = .ok (.iinc j cst, 3)) (hpc : pc + 3 = pc2) (hl : L[j]? = some (.val (.int x))) (hv : x + Int32.ofInt cst = v) (hl' : storeLocals L j (.int v) = some L') (r : zF P b pc2 L' S pcE LE SE) : zF P b pc L S pcE LE SE := by
  intro tb _ e below T target m c h hx hy hP k; subst hpc; subst hv; exact XS.iinc h hx rfl (hb hy hd) hl hl' (r tb e below T target m c h hx hy hP k)
theorem zCi {i : Nat} {v : Int32} {pc2 : Nat} (hd : decode b pc = .ok (.ldc i, 2)) (hpc : pc + 2 = pc2) (hk : (i, Value.int v) ∈ P) (r : zF P b pc2 L (.int v :: S) pcE LE SE) : zF P b pc L S pcE LE SE := by
  intro tb _ e below T target m c h hx hy hP k; subst hpc; exact (hP _ hk (mkF m pc L S) target rfl).1 ⟨_, rfl⟩ (hb hy hd) (r tb e below T target m c h hx hy hP k)
theorem own_ldcW {i : Nat} {v : Int32} {pc2 : Nat} (hd : decode b pc = .ok (.ldc_w i, 3)) (hpc : pc + 3 = pc2) (hk : (i, Value.int v) ∈ P) (r : zF P b pc2 L (.int v :: S) pcE LE SE) : zF P b pc L S pcE LE SE := by
  intro tb _ e below T target m c h hx hy hP k; subst hpc; exact (hP _ hk (mkF m pc L S) target rfl).2.1 ⟨_, rfl⟩ (hb hy hd) (r tb e below T target m c h hx hy hP k)
theorem own_ldc2L {i : Nat} {v : Int64} {pc2 : Nat} (hd : decode b pc = .ok (.ldc2_w i, 3)) (hpc : pc + 3 = pc2) (hk : (i, Value.long v) ∈ P) (r : zF P b pc2 L (.long v :: S) pcE LE SE) : zF P b pc L S pcE LE SE := by
  intro tb _ e below T target m c h hx hy hP k; subst hpc; exact (hP _ hk (mkF m pc L S) target rfl).2.2 (Or.inl ⟨_, rfl⟩) (hb hy hd) (r tb e below T target m c h hx hy hP k)
theorem zDT {i : Nat} {v : UInt64} {pc2 : Nat} (hd : decode b pc = .ok (.ldc2_w i, 3)) (hpc : pc + 3 = pc2) (hk : (i, Value.double v) ∈ P) (r : zF P b pc2 L (.double v :: S) pcE LE SE) : zF P b pc L S pcE LE SE := by
  intro tb _ e below T target m c h hx hy hP k; subst hpc; exact (hP _ hk (mkF m pc L S) target rfl).2.2 (Or.inr ⟨_, rfl⟩) (hb hy hd) (r tb e below T target m c h hx hy hP k)
end OwnWalk
section OwnPool
open Jvm.Free Jvm.Stand
variable {p : Program} {l : Launch} {e : Env} {R : Room} {s : State} {m : MethodId} {args : Array Value} {below : List Frame} {meth : Method} {c : Code} {T : State} {locs : List Loc} {cells slots : Nat} {Z : State} {a0 : Array Value}
def zAY (own : String) (i : Nat) : Value → Jvm.Cond → Prop
  | .int v, w => w = .constant own i v
  | .long v, w => w = .constantLong own i v
  | .double v, w => w = .constantDouble own i v
  | _, _ => False
theorem own_pool1 (X : Stand p l e R s m args below meth c T locs cells slots) (hx : p.tables.exec = Jvm.exec) (hZ : Z.Warmed39 s.vm) {own : String} (hown : s.vm.findClass own = some m.cls) {i : Nat} {v : Value} {w : Jvm.Cond} (hv : zAY own i v w) (hw : w.before a0 Z = true) : zDR p.tables e below T m c i v := by
  intro g target hg
  cases v with
  | int v =>
    cases (show w = .constant own i v from hv)
    exact ⟨fun _ hd k => X.ldcInt hx hown (mvT hZ hw) hg hd target k, fun _ hd k => X.ldcwInt hx hown (mvT hZ hw) hg hd target k, fun h => (by rcases h with ⟨_, h⟩ | ⟨_, h⟩ <;> cases h)⟩
  | long v =>
    cases (show w = .constantLong own i v from hv)
    exact ⟨fun h => (by obtain ⟨_, h⟩ := h; cases h), fun h => (by obtain ⟨_, h⟩ := h; cases h), fun _ hd k => X.ldc2Long hx hown (mvT hZ hw) hg hd target k⟩
  | double v =>
    cases (show w = .constantDouble own i v from hv)
    exact ⟨fun h => (by obtain ⟨_, h⟩ := h; cases h), fun h => (by obtain ⟨_, h⟩ := h; cases h), fun _ hd k => X.ldc2DoubleC hx hown (mvT hZ hw) hg hd target k⟩
  | _ => exact absurd hv (fun h => h)
theorem own_pool (X : Stand p l e R s m args below meth c T locs cells slots) (hx : p.tables.exec = Jvm.exec) (hZ : Z.Warmed39 s.vm) {own : String} (hown : s.vm.findClass own = some m.cls) {ws : List Jvm.Cond} (hw : ∀ d ∈ ws, d.before a0 Z = true) {P : List (Nat × Value)} (hP : ∀ q ∈ P, ∃ w ∈ ws, zAY own q.1 q.2 w) : ∀ q ∈ P, zDR p.tables e below T m c q.1 q.2 := by
  intro q hq
  obtain ⟨w, h1, h2⟩ := hP q hq
  exact own_pool1 X hx hZ hown h2 (hw w h1)
end OwnPool
section OwnCall
open Jvm.Free Jvm.Stand Jvm.LawKit Jvm.RoadKit
variable {p : Program} {l : Launch} {e : Env} {R : Room} {s : State} {m : MethodId} {args : Array Value} {below : List Frame} {meth : Method} {c : Code} {T : State} {locs : List Loc} {cells slots : Nat} {Z : State} {a0 : Array Value} {h : Heap}
abbrev zDU (fr lo : Nat) : Room := { frames := fr, cells := 0, slots := 0, locals := lo }
def own_Pure (l : Launch) (Z : State) (y : MethodName) (bytes : ByteArray) (maxL : Nat) (ret : Option FieldType) (fr lo : Nat) (as' : Array Value) (h : Heap) (v : Option Value) : Prop :=
  MetFree l y (head1 [Jvm.Cond.code y bytes maxL ret] (zDU fr lo)) (fun a U => a = as' ∧ Z.Warmed39 U.vm ∧ U.heap = h) (fun _ _ _ _ _ => True) (fun _ U o U' => ∃ w L, o = .returned w ∧ (w = v ∧ L = [] ∧ U'.heap = h) ∧ FrameEnd U o U' L (zDU fr lo).cells (zDU fr lo).slots)
def zCL (i : Instr) (t : FieldType) (w : Value) : Prop := narrow t w = w ∧ ((i = .ireturn ∧ (t = .int ∨ t = .boolean ∨ t = .byte ∨ t = .char ∨ t = .short) ∧ ∃ z, w = .int z) ∨ (i = .lreturn ∧ t = .long ∧ ∃ z, w = .long z) ∨ (i = .dreturn ∧ t = .double ∧ ∃ z, w = .double z) ∨ (i = .freturn ∧ t = .float ∧ ∃ z, w = .float z) ∨ (i = .areturn ∧ t.isReference = true ∧ w.isRef = true))
theorem own_retD (x : UInt64) : zCL .dreturn .double (.double x) := ⟨rfl, Or.inr (Or.inr (Or.inl ⟨rfl, rfl, x, rfl⟩))⟩
theorem zAe (x : Int32) : zCL .ireturn .int (.int x) := ⟨rfl, Or.inl ⟨rfl, Or.inl rfl, x, rfl⟩⟩
theorem own_retJ (x : Int64) : zCL .lreturn .long (.long x) := ⟨rfl, Or.inr (Or.inl ⟨rfl, rfl, x, rfl⟩)⟩
theorem own_retZ {x : Int32} (hx : x = 0 ∨ x = 1) : zCL .ireturn .boolean (.int x) := ⟨by rcases hx with rfl | rfl <;> rfl, Or.inl ⟨rfl, Or.inr (Or.inl rfl), x, rfl⟩⟩
end OwnCall
section OwnHeap
open Jvm.Free Jvm.Stand Jvm.LawKit Jvm.RoadKit
abbrev zr := (String × List (String × String × String × Value)) ⊕ (FieldType × List Value)
abbrev zAx (C : String) (fs : List (String × String × String × Value)) : zr := Sum.inl (C, fs)
abbrev zA (ty : FieldType) (vs : List Value) : zr := Sum.inr (ty, vs)
def zCj (Z : State) (h : Heap) (a : Addr) (c : Cell) (ty : FieldType) : Prop :=
  match ty with
  | .object C => Ovr Z c.cls C
  | .array t => OvrA Z c.cls t (FieldType.array t).toString ∧ Exa Z h a ("[" ++ (FieldType.array t).toString)
  | t => Exa Z h a ("[" ++ t.toString)
theorem zDV {Z : State} {h h' : Heap} {a : Addr} {c c' : Cell} {ty : FieldType} (hc : c'.cls = c.cls) (hE : ∀ C, Exa Z h a C → Exa Z h' a C) (H : zCj Z h a c ty) : zCj Z h' a c' ty := by
  cases ty <;> simp only [zCj, hc] at H ⊢ <;> first | exact H | exact hE _ H | exact ⟨H.1, hE _ H.2⟩
def zAj (Z : State) (a0 : Array Value) (h : Heap) (a : Addr) (q : zr) : Prop :=
  match q with
  | .inl (C, fs) => Exa Z h a C ∧ (∀ f ∈ fs, Fld Z h a f.1 f.2.1 f.2.2.1 f.2.2.2 ∧ Laid Z a0 C f.1 f.2.1 f.2.2.1 ∧ ∃ t, parseFieldDescriptor f.2.2.1 = some t) ∧ (fs.map fun f => f.2.1).Nodup
  | .inr (ty, vs) => ∃ c : Cell, Arr Z h a c ty ∧ c.slots.toList = vs ∧ zCj Z h a c ty
abbrev zU : Type := Heap × Nat
abbrev zU.b (hb : zU) : Heap := hb.1
abbrev zU.fl (hb : zU) : Nat := hb.2
abbrev zU.size (hb : zU) : Nat := hb.b.size
def zCM (hb : zU) (h : Heap) : Prop := Ext hb.b h ∧ hb.fl ≤ h.size
def zAf (Z : State) (a0 : Array Value) (hb : zU) (h : Heap) (cs : List (Addr × zr)) : Prop := zCM hb h ∧ (∀ q ∈ cs, zAj Z a0 h q.1 q.2 ∧ hb.size ≤ q.1) ∧ (cs.map Prod.fst).Nodup
section Facts
variable {Z : State} {a0 : Array Value} {hb : zU} {h h' : Heap} {cs : List (Addr × zr)} {a b : Addr} {q : zr}
theorem own_Is_lt (H : zAj Z a0 h a q) : a < h.size := by
  match q, H with
  | .inl (C, fs), H => exact H.1.lt
  | .inr (ty, vs), ⟨c, A, _⟩ => exact A.lt
theorem own_Is_ext (E : Ext h h') (H : zAj Z a0 h a q) : zAj Z a0 h' a q := by
  match q, H with
  | .inl (C, fs), H => exact ⟨H.1.ext E, fun f hf => ⟨(H.2.1 f hf).1.ext E, (H.2.1 f hf).2⟩, H.2.2⟩
  | .inr (ty, vs), ⟨c, A, e⟩ => exact ⟨c, A.ext E, e.1, zDV rfl (fun C F => F.ext E) e.2⟩
theorem own_Is_wr {sl : Nat} {v : Value} (W : Wr h h' b sl v) (hne : a ≠ b) (H : zAj Z a0 h a q) : zAj Z a0 h' a q := by
  match q, H with
  | .inl (C, fs), H => exact ⟨H.1.wr W, fun f hf => ⟨(H.2.1 f hf).1.other W (Or.inl hne), (H.2.1 f hf).2⟩, H.2.2⟩
  | .inr (ty, vs), ⟨c, A, e⟩ => exact ⟨c, A.other W hne, e.1, zDV rfl (fun C F => F.wr W) e.2⟩
theorem own_ext_trans {h1 h2 h3 : Heap} (E : Ext h1 h2) (F : Ext h2 h3) : Ext h1 h3 := ⟨Nat.le_trans E.1 F.1, fun a c q => F.2 a c (E.2 a c q)⟩
theorem own_ext_refl (h1 : Heap) : Ext h1 h1 := ⟨Nat.le_refl _, fun _ _ q => q⟩
theorem own_bx_trans (E : zCM hb h) (F : Ext h h') : zCM hb h' := ⟨own_ext_trans E.1 F, Nat.le_trans E.2 F.1⟩
theorem own_ext_wr {sl : Nat} {v : Value} (E0 : zCM hb h) (W : Wr h h' b sl v) (hn : hb.size ≤ b) : zCM hb h' := by
  obtain ⟨E, E2⟩ := E0
  refine ⟨⟨by rw [W.size]; exact E.1, fun x c q => ?_⟩, by rw [W.size]; exact E2⟩
  have hx : x < hb.size := (Array.getElem?_eq_some_iff.mp q).1
  obtain ⟨cb, h1, -, -, -, h5, -⟩ := wr_at W (E.2 x c q)
  rw [h1, h5 (Nat.ne_of_lt (Nat.lt_of_lt_of_le hx hn))]
theorem own_Hp_start (Z : State) (a0 : Array Value) (hb : Heap) : zAf Z a0 ⟨hb, 0⟩ hb [] := ⟨⟨own_ext_refl hb, Nat.zero_le _⟩, fun q hq => absurd hq List.not_mem_nil, List.nodup_nil⟩
theorem own_Hp_new (H : zAf Z a0 hb h cs) (E : Ext h h') (N : zAj Z a0 h' h.size q) : zAf Z a0 hb h' (cs ++ [(h.size, q)]) := by
  refine ⟨own_bx_trans H.1 E, fun p hp => ?_, ?_⟩
  · rcases List.mem_append.mp hp with hp | hp
    · exact ⟨own_Is_ext E (H.2.1 p hp).1, (H.2.1 p hp).2⟩
    · cases List.mem_singleton.mp hp
      exact ⟨N, H.1.1.1⟩
  · rw [List.map_append, List.nodup_append]
    refine ⟨H.2.2, by simp, fun x hx y hy => ?_⟩
    simp only [List.map_cons, List.map_nil, List.mem_singleton] at hy
    subst hy
    obtain ⟨p, hp, rfl⟩ := List.mem_map.mp hx
    exact Nat.ne_of_lt (own_Is_lt (H.2.1 p hp).1)
theorem zAk (H : zAf Z a0 hb h cs) {i : Nat} (hi : cs[i]? = some (a, q)) : zAj Z a0 h a q ∧ hb.size ≤ a := H.2.1 _ (List.mem_of_getElem? hi)
theorem own_ne (H : zAf Z a0 hb h cs) {i j : Nat} {q' : zr} (hi : cs[i]? = some (a, q)) (hj : cs[j]? = some (b, q')) (hne : i ≠ j) : a ≠ b := by
  rintro rfl
  have hN := H.2.2
  obtain ⟨hi1, hi2⟩ := List.getElem?_eq_some_iff.mp hi
  obtain ⟨hj1, hj2⟩ := List.getElem?_eq_some_iff.mp hj
  have := (List.getElem_inj (xs := cs.map Prod.fst) (i := i) (j := j) (h₀ := by simpa using hi1) (h₁ := by simpa using hj1) hN).mp (by simp [hi2, hj2])
  exact hne this
theorem zCk (H : zAf Z a0 hb h cs) {i : Nat} {q' : zr} {sl : Nat} {v : Value} (hi : cs[i]? = some (a, q)) (W : Wr h h' a sl v) (N : zAj Z a0 h' a q') : zAf Z a0 hb h' (cs.set i (a, q')) := by
  obtain ⟨hi1, hi2⟩ := List.getElem?_eq_some_iff.mp hi
  refine ⟨own_ext_wr H.1 W (zAk H hi).2, fun p hp => ?_, ?_⟩
  · obtain ⟨j, hj, rfl⟩ := List.mem_iff_getElem.mp hp
    rw [List.getElem_set]
    split
    · exact ⟨N, (zAk H hi).2⟩
    · rename_i hne
      have hj' : j < cs.length := by simpa using hj
      have hm := H.2.1 cs[j] (List.getElem_mem hj')
      refine ⟨own_Is_wr W ?_ hm.1, hm.2⟩
      intro e
      exact own_ne H hi (j := j) (b := cs[j].1) (q' := cs[j].2) (List.getElem?_eq_getElem hj') hne e.symm
  · rw [List.map_set, show (a, q').fst = (cs.map Prod.fst)[i]'(by simpa using hi1) by simp [hi2], List.set_getElem_self]
    exact H.2.2
theorem own_Is_fld {C : String} {fs : List (String × String × String × Value)} {j : Nat} {O n d : String} {old v : Value} (H : zAj Z a0 h a (zAx C fs)) (hj : fs[j]? = some (O, n, d, old)) (W : Wr h h' a (RoadKit.slotOf Z O n d) v) : zAj Z a0 h' a (zAx C (fs.set j (O, n, d, v))) := by
  obtain ⟨h1, h2, h3⟩ := H
  obtain ⟨hj1, hj2⟩ := List.getElem?_eq_some_iff.mp hj
  refine ⟨h1.wr W, fun f hf => ?_, ?_⟩
  · obtain ⟨k, hk, rfl⟩ := List.mem_iff_getElem.mp hf
    have hm := h2 _ (List.mem_of_getElem? hj)
    rw [List.getElem_set]
    split
    · exact ⟨hm.1.same W, hm.2⟩
    · rename_i hne
      have hk' : k < fs.length := by simpa using hk
      have hk2 := h2 fs[k] (List.getElem_mem hk')
      obtain ⟨t, ht⟩ := hk2.2.2
      obtain ⟨t', ht'⟩ := hm.2.2
      refine ⟨hk2.1.other W (Or.inr (slot_ne hk2.2.1 hm.2.1 (fun e => ?_) ht ht')), hk2.2⟩
      have := (List.getElem_inj (xs := fs.map fun f => f.2.1) (i := k) (j := j) (h₀ := by simpa using hk') (h₁ := by simpa using hj1) h3).mp (by simp [hj2]; exact e)
      exact hne this.symm
  · rw [List.map_set, show (O, n, d, v).2.1 = (fs.map fun f => f.2.1)[j]'(by simpa using hj1) by simp [hj2], List.set_getElem_self]
    exact h3
theorem zDW {ty : FieldType} {vs : List Value} {j : Nat} {v : Value} (H : zAj Z a0 h a (zA ty vs)) (W : Wr h h' a j v) : zAj Z a0 h' a (zA ty (vs.set j v)) := by
  obtain ⟨c, A, e⟩ := H
  refine ⟨_, A.same W, ?_, zDV rfl (fun C F => F.wr W) e.2⟩
  rw [← e.1]
  simp [Cell.setSlot]
end Facts
def zR (p : Program) (l : Launch) (e : Env) (R : Room) (s : State) (m : MethodId) (args : Array Value) (below : List Frame) (meth : Method) (c : Code) (Z : State) (a0 : Array Value) (hb : zU) (T : State) (cs : List (Addr × zr)) (k n : Nat) : Prop :=
  ∃ locs, Stand p l e R s m args below meth c T locs k n ∧ Fr hb.size locs ∧ zAf Z a0 hb T.heap cs
section Rules
variable {p : Program} {l : Launch} {e : Env} {R : Room} {s : State} {m : MethodId} {args : Array Value} {below : List Frame} {meth : Method} {c : Code} {T : State} {Z : State} {a0 : Array Value} {hb : zU} {cs : List (Addr × zr)} {k n : Nat}
theorem zC (H : zR p l e R s m args below meth c Z a0 hb T cs k n) (hx : p.tables.exec = Jvm.exec) (hZ : Z.Warmed39 s.vm) {own : String} (hown : s.vm.findClass own = some m.cls) {bytes : ByteArray} (hby : c.code = bytes) {ws : List Jvm.Cond} (hw : ∀ d ∈ ws, d.before a0 Z = true) {P : List (Nat × Value)} (hP : ∀ q ∈ P, ∃ w ∈ ws, zAY own q.1 q.2 w)
    {pc pc' : Nat} {L L' : Array Slot} {S S' : List Value} (r : zF P bytes pc L S pc' L' S') : ∀ target, Steps p.tables e below (T.setTop (mkF m pc' L' S')) target → Steps p.tables e below (T.setTop (mkF m pc L S)) target := by
  obtain ⟨locs, X, -, -⟩ := H
  exact fun target q => r p.tables e below T target m c X.here hx hby (own_pool X hx hZ hown hw hP) q
theorem own_newO (H : zR p l e R s m args below meth c Z a0 hb T cs k n) (hx : p.tables.exec = Jvm.exec) (hZ : Z.Warmed39 s.vm) {own C : String} {index nn : Nat} (hown : s.vm.findClass own = some m.cls) (w : (Jvm.Cond.classLink own index C).before a0 Z = true) (wi : (Jvm.Cond.instantiable C nn).before a0 Z = true) (wz : (Jvm.Cond.initialized C).before a0 Z = true)
    (fs : List (String × String × String × Value)) (hfs : ∀ f ∈ fs, Laid Z a0 C f.1 f.2.1 f.2.2.1 ∧ ∃ t, parseFieldDescriptor f.2.2.1 = some t ∧ defaultValue t = f.2.2.2) (hN : (fs.map fun f => f.2.1).Nodup)
    {g : JFrame} (hg : g.method = m) (hd : decode c.code g.pc = .ok (.new index, 3)) (hc : k + 1 ≤ R.cells) (hl : n + nn ≤ R.slots) :
    ∃ T' x, zR p l e R s m args below meth c Z a0 hb T' (cs ++ [(x, zAx C fs)]) (k + 1) (n + nn) ∧ ∀ target, Steps p.tables e below (T'.setTop { g with pc := g.pc + 3, stack := .ref x :: g.stack }) target → Steps p.tables e below (T.setTop g) target := by
  obtain ⟨locs, X, N, hH⟩ := H
  obtain ⟨T', h', X', e', E, A, D, -, st⟩ := newO X hx hZ hown w wi wz rfl hg hd hc hl
  refine ⟨T', T.heap.size, ⟨locs, X', N, ?_⟩, st⟩
  rw [e']
  refine own_Hp_new hH E ⟨A, fun f hf => ?_, hN⟩
  obtain ⟨h1, t, h2, h3⟩ := hfs f hf
  exact ⟨h3 ▸ D h1 h2, h1, t, h2⟩
theorem zBi (H : zR p l e R s m args below meth c Z a0 hb T cs k n) (hx : p.tables.exec = Jvm.exec) (hZ : Z.Warmed39 s.vm) {aty : ArrayType} (w : (Jvm.Cond.arrayClass (newarray.typeOf aty)).before a0 Z = true) {g : JFrame} (hg : g.method = m) (hd : decode c.code g.pc = .ok (.newarray aty, 2)) {z : Int32} {rest : List Value} (hs : g.stack = .int z :: rest)
    (hn : ¬ z < 0) {cap : Nat} (hcap : z.toNatClampNeg ≤ cap) (hb8 : cap * 8 ≤ 536870912) (hc : k + 1 ≤ R.cells) (hl : n + cap ≤ R.slots) :
    ∃ T' x, zR p l e R s m args below meth c Z a0 hb T' (cs ++ [(x, zA (newarray.typeOf aty) (List.replicate z.toNatClampNeg (defaultValue (newarray.typeOf aty))))]) (k + 1) (n + cap) ∧ ∀ target, Steps p.tables e below (T'.setTop { g with pc := g.pc + 2, stack := .ref x :: rest }) target → Steps p.tables e below (T.setTop g) target := by
  obtain ⟨locs, X, N, hH⟩ := H
  obtain ⟨T', h', cA, X', e', E, A, F, st⟩ := newPE X hx hZ w rfl hg hd hs hn hcap hb8 hc hl rfl
  refine ⟨T', T.heap.size, ⟨locs, X', N, ?_⟩, st⟩
  rw [e']
  exact own_Hp_new hH E ⟨_, A, by simp [newA], by cases aty <;> exact F⟩
theorem zI (H : zR p l e R s m args below meth c Z a0 hb T cs k n) (hx : p.tables.exec = Jvm.exec) (hZ : Z.Warmed39 s.vm) {own O nm d : String} {index : Nat} (hown : s.vm.findClass own = some m.cls) (w : (Jvm.Cond.fieldLink own index O nm d).before a0 Z = true)
    {x : Addr} {C : String} {fs : List (String × String × String × Value)} {v : Value} (i j : Nat) (hi : cs[i]? = some (x, zAx C fs)) (hj : fs[j]? = some (O, nm, d, v)) {g : JFrame} (hg : g.method = m) {rest : List Value} (hs : g.stack = .ref x :: rest) (hd : decode c.code g.pc = .ok (.getfield index, 3)) :
    ∃ T', zR p l e R s m args below meth c Z a0 hb T' cs k n ∧ ∀ target, Steps p.tables e below (T'.setTop { g with pc := g.pc + 3, stack := v :: rest }) target → Steps p.tables e below (T.setTop g) target := by
  obtain ⟨locs, X, N, hH⟩ := H
  have F := ((zAk hH hi).1.2.1 _ (List.mem_of_getElem? hj)).1
  obtain ⟨T', X', e', st⟩ := getF X hx hZ hown (host := "") (Or.inl w) Via.refl rfl F hg hs hd
  exact ⟨T', ⟨locs, X', N, e' ▸ hH⟩, st⟩
theorem zAl (H : zR p l e R s m args below meth c Z a0 hb T cs k n) (hx : p.tables.exec = Jvm.exec) (hZ : Z.Warmed39 s.vm) {own O nm d : String} {index kk : Nat} {ty : FieldType} (hown : s.vm.findClass own = some m.cls) (w : (Jvm.Cond.fieldLink own index O nm d).before a0 Z = true)
    {x : Addr} {C : String} {fs : List (String × String × String × Value)} {v old : Value} (i j : Nat) (hi : cs[i]? = some (x, zAx C fs)) (hj : fs[j]? = some (O, nm, d, old)) (L : (Jvm.Cond.lays C O nm d).before a0 Z = true ∨ ((Jvm.Cond.laysFinal C O nm d).before a0 Z = true ∧ own = O ∧ meth.name = "<init>")) (wi : (Jvm.Cond.instantiable C kk).before a0 Z = true)
    (hty : parseFieldDescriptor d = some ty) (hn : narrow ty v = v) (hf : fits ty v = true) {g : JFrame} (hg : g.method = m) {rest : List Value} (hs : g.stack = v :: .ref x :: rest) (hd : decode c.code g.pc = .ok (.putfield index, 3)) :
    ∃ T', zR p l e R s m args below meth c Z a0 hb T' (cs.set i (x, zAx C (fs.set j (O, nm, d, v)))) k n ∧ ∀ target, Steps p.tables e below (T'.setTop { g with pc := g.pc + 3, stack := rest }) target → Steps p.tables e below (T.setTop g) target := by
  obtain ⟨locs, X, N, hH⟩ := H
  have I := zAk hH hi
  have F := (I.1.2.1 _ (List.mem_of_getElem? hj)).1
  obtain ⟨T', h', X', e', W, st⟩ := putF X hx hZ hown (host := "") (Or.inl w) Via.refl rfl F I.1.1 L wi hty hn hf hg hs hd
  refine ⟨T', ⟨_, X', Fr.snoc X' N I.2, ?_⟩, st⟩
  rw [e']
  exact zCk hH hi W (own_Is_fld I.1 hj W)
theorem own_initO (H : zR p l e R s m args below meth c Z a0 hb T cs k n) (hx : p.tables.exec = Jvm.exec) (hZ : Z.Warmed39 s.vm) {own : String} {idx : Nat} (hown : s.vm.findClass own = some m.cls) (w1 : (Jvm.Cond.methodLink own idx Lib.objectInit).before a0 Z = true) (w2 : (Jvm.Cond.instanceMethod Lib.objectInit).before a0 Z = true)
    (w3 : (Jvm.Cond.code Lib.objectInit ⟨#[0xb1]⟩ 1 none).before a0 Z = true) {g : JFrame} (hg : g.method = m) (hsize : g.locals.size = c.maxLocals) {a : Addr} {rest : List Value} (hs : g.stack = .ref a :: rest) (hd : decode c.code g.pc = .ok (.invokespecial idx, 3))
    (hf : 1 ≤ R.frames) {W : Nat} (hW : 2 * g.monitorRoom + (rest.map fun v => v.category).sum ≤ W) (hl : W + 12 ≤ R.locals) :
    ∃ T', zR p l e R s m args below meth c Z a0 hb T' cs k n ∧ ∀ target, Steps p.tables e below (T'.setTop { g with pc := g.pc + 3, stack := rest }) target → Steps p.tables e below (T.setTop g) target := by
  obtain ⟨locs, X, N, hH⟩ := H
  obtain ⟨T', X', e', st⟩ := initO X hx hZ hown w1 w2 w3 rfl hg hsize hs hd hf hW hl
  exact ⟨T', ⟨locs, X', N, e' ▸ hH⟩, st⟩
theorem zBv {j : Int32} {vs : List Value} {cl : Cell} (e : cl.slots.toList = vs) (h0 : 0 ≤ j.toInt) (h1 : j.toInt < vs.length) : ¬ (j < 0 ∨ cl.slots.size ≤ j.toNatClampNeg) := by
  have hl : cl.slots.size = vs.length := by rw [← e]; simp
  rintro (q | q)
  · rw [Int32.lt_iff_toInt_lt] at q; rw [show (0 : Int32).toInt = 0 from rfl] at q; omega
  · have : j.toNatClampNeg = j.toInt.toNat := rfl
    omega
theorem zDX {j : Int32} {vs : List Value} {cl : Cell} {v : Value} (e : cl.slots.toList = vs) {i : Nat} (hi : j.toInt = i) (hv : vs[i]? = some v) : cl.slots[j.toNatClampNeg]? = some v := by
  have : j.toNatClampNeg = i := by show j.toInt.toNat = i; omega
  rw [this, ← Array.getElem?_toList, e]; exact hv
theorem zCl (H : zR p l e R s m args below meth c Z a0 hb T cs k n) (hx : p.tables.exec = Jvm.exec) (hZ : Z.Warmed39 s.vm) {x : Addr} {vs : List Value} {j : Int32} {v : Value} (i jj : Nat) (hi : cs[i]? = some (x, zA .double vs)) (hj : j.toInt = jj) (hv : vs[jj]? = some v)
    {g : JFrame} (hg : g.method = m) {rest : List Value} (hs : g.stack = .int j :: .ref x :: rest) (hd : decode c.code g.pc = .ok (.daload, 1)) :
    ∀ target, Steps p.tables e below (T.setTop { g with pc := g.pc + 1, stack := v :: rest }) target → Steps p.tables e below (T.setTop g) target := by
  obtain ⟨locs, X, N, hH⟩ := H
  obtain ⟨cl, A, hc, -⟩ := (zAk hH hi).1
  have hlt : jj < vs.length := (List.getElem?_eq_some_iff.mp hv).1
  exact fun target q => X.daload hx A.1 (State.isArrayOf_alike hZ.alike A.2.1) A.2.2 (zBv hc (by omega) (by omega)) (zDX hc hj hv) hg hs hd target q
theorem zAF (H : zR p l e R s m args below meth c Z a0 hb T cs k n) (hx : p.tables.exec = Jvm.exec) (hZ : Z.Warmed39 s.vm) {x : Addr} {vs : List Value} {j : Int32} {v : Value} (i jj : Nat) (hi : cs[i]? = some (x, zA .int vs)) (hj : j.toInt = jj) (hv : vs[jj]? = some v)
    {g : JFrame} (hg : g.method = m) {rest : List Value} (hs : g.stack = .int j :: .ref x :: rest) (hd : decode c.code g.pc = .ok (.iaload, 1)) :
    ∀ target, Steps p.tables e below (T.setTop { g with pc := g.pc + 1, stack := v :: rest }) target → Steps p.tables e below (T.setTop g) target := by
  obtain ⟨locs, X, N, hH⟩ := H
  obtain ⟨cl, A, hc, -⟩ := (zAk hH hi).1
  have hlt : jj < vs.length := (List.getElem?_eq_some_iff.mp hv).1
  exact fun target q => X.iaload hx A.1 (State.isArrayOf_alike hZ.alike A.2.1) A.2.2 (zBv hc (by omega) (by omega)) (zDX hc hj hv) hg hs hd target q
theorem zv (H : zR p l e R s m args below meth c Z a0 hb T cs k n) (hx : p.tables.exec = Jvm.exec) (hZ : Z.Warmed39 s.vm) {x : Addr} {vs : List Value} {j : Int32} {v : Value} (i jj : Nat) (hi : cs[i]? = some (x, zA .long vs)) (hj : j.toInt = jj) (hv : vs[jj]? = some v)
    {g : JFrame} (hg : g.method = m) {rest : List Value} (hs : g.stack = .int j :: .ref x :: rest) (hd : decode c.code g.pc = .ok (.laload, 1)) :
    ∀ target, Steps p.tables e below (T.setTop { g with pc := g.pc + 1, stack := v :: rest }) target → Steps p.tables e below (T.setTop g) target := by
  obtain ⟨locs, X, N, hH⟩ := H
  obtain ⟨cl, A, hc, -⟩ := (zAk hH hi).1
  have hlt : jj < vs.length := (List.getElem?_eq_some_iff.mp hv).1
  exact fun target q => X.laload hx A.1 (State.isArrayOf_alike hZ.alike A.2.1) A.2.2 (zBv hc (by omega) (by omega)) (zDX hc hj hv) hg hs hd target q
theorem zAK (H : zR p l e R s m args below meth c Z a0 hb T cs k n) (hx : p.tables.exec = Jvm.exec) (hZ : Z.Warmed39 s.vm) {x : Addr} {ty : FieldType} {vs : List Value} (i : Nat) (hi : cs[i]? = some (x, zA ty vs)) {z : Int32} (hz : vs.length.toInt32 = z)
    {g : JFrame} (hg : g.method = m) {rest : List Value} (hs : g.stack = .ref x :: rest) (hd : decode c.code g.pc = .ok (.arraylength, 1)) :
    ∀ target, Steps p.tables e below (T.setTop { g with pc := g.pc + 1, stack := .int z :: rest }) target → Steps p.tables e below (T.setTop g) target := by
  obtain ⟨locs, X, N, hH⟩ := H
  obtain ⟨cl, A, hc, -⟩ := (zAk hH hi).1
  have hl : cl.slots.size = vs.length := by rw [← hc]; simp
  refine fun target q => X.arraylength hx A.1 (State.isArrayOf_alike hZ.alike A.2.1) hg hs hd target ?_
  rw [hl, hz]; exact q
theorem zCm (H : zR p l e R s m args below meth c Z a0 hb T cs k n) (hx : p.tables.exec = Jvm.exec) (hZ : Z.Warmed39 s.vm) {x : Addr} {vs : List Value} {j : Int32} {v : UInt64} (i jj : Nat) (hi : cs[i]? = some (x, zA .double vs)) (hj : j.toInt = jj) (hlt : jj < vs.length)
    {g : JFrame} (hg : g.method = m) {rest : List Value} (hs : g.stack = .double v :: .int j :: .ref x :: rest) (hd : decode c.code g.pc = .ok (.dastore, 1)) :
    ∃ T', zR p l e R s m args below meth c Z a0 hb T' (cs.set i (x, zA .double (vs.set jj (.double v)))) k n ∧ ∀ target, Steps p.tables e below (T'.setTop { g with pc := g.pc + 1, stack := rest }) target → Steps p.tables e below (T.setTop g) target := by
  obtain ⟨locs, X, N, hH⟩ := H
  have I := zAk hH hi
  obtain ⟨cl, A, hc, -⟩ := I.1
  obtain ⟨T', h', X', e', W, st⟩ := stD X hx hZ rfl A (zBv hc (by omega) (by omega)) hg hs hd
  have hjj : j.toNatClampNeg = jj := by show j.toInt.toNat = jj; omega
  rw [hjj] at W
  refine ⟨T', ⟨_, X', Fr.snoc X' N I.2, ?_⟩, st⟩
  rw [e']
  exact zCk hH hi W (zDW I.1 W)
theorem zBZ (H : zR p l e R s m args below meth c Z a0 hb T cs k n) (hx : p.tables.exec = Jvm.exec) (hZ : Z.Warmed39 s.vm) {x : Addr} {vs : List Value} {j : Int32} {v : Int32} (i jj : Nat) (hi : cs[i]? = some (x, zA .int vs)) (hj : j.toInt = jj) (hlt : jj < vs.length)
    {g : JFrame} (hg : g.method = m) {rest : List Value} (hs : g.stack = .int v :: .int j :: .ref x :: rest) (hd : decode c.code g.pc = .ok (.iastore, 1)) :
    ∃ T', zR p l e R s m args below meth c Z a0 hb T' (cs.set i (x, zA .int (vs.set jj (.int v)))) k n ∧ ∀ target, Steps p.tables e below (T'.setTop { g with pc := g.pc + 1, stack := rest }) target → Steps p.tables e below (T.setTop g) target := by
  obtain ⟨locs, X, N, hH⟩ := H
  have I := zAk hH hi
  obtain ⟨cl, A, hc, -⟩ := I.1
  obtain ⟨T', h', X', e', W, st⟩ := stI X hx hZ rfl A (zBv hc (by omega) (by omega)) hg hs hd
  have hjj : j.toNatClampNeg = jj := by show j.toInt.toNat = jj; omega
  rw [hjj] at W
  refine ⟨T', ⟨_, X', Fr.snoc X' N I.2, ?_⟩, st⟩
  rw [e']
  exact zCk hH hi W (zDW I.1 W)
theorem zAO (H : zR p l e R s m args below meth c Z a0 hb T cs k n) (hx : p.tables.exec = Jvm.exec) (hZ : Z.Warmed39 s.vm) {x : Addr} {vs : List Value} {j : Int32} {v : Int64} (i jj : Nat) (hi : cs[i]? = some (x, zA .long vs)) (hj : j.toInt = jj) (hlt : jj < vs.length)
    {g : JFrame} (hg : g.method = m) {rest : List Value} (hs : g.stack = .long v :: .int j :: .ref x :: rest) (hd : decode c.code g.pc = .ok (.lastore, 1)) :
    ∃ T', zR p l e R s m args below meth c Z a0 hb T' (cs.set i (x, zA .long (vs.set jj (.long v)))) k n ∧ ∀ target, Steps p.tables e below (T'.setTop { g with pc := g.pc + 1, stack := rest }) target → Steps p.tables e below (T.setTop g) target := by
  obtain ⟨locs, X, N, hH⟩ := H
  have I := zAk hH hi
  obtain ⟨cl, A, hc, -⟩ := I.1
  obtain ⟨T', h', X', e', W, st⟩ := stJ X hx hZ rfl A (zBv hc (by omega) (by omega)) hg hs hd
  have hjj : j.toNatClampNeg = jj := by show j.toInt.toNat = jj; omega
  rw [hjj] at W
  refine ⟨T', ⟨_, X', Fr.snoc X' N I.2, ?_⟩, st⟩
  rw [e']
  exact zCk hH hi W (zDW I.1 W)
end Rules
def zX (l : Launch) (Z : State) (a0 : Array Value) (hb : zU) (y : MethodName) (bytes : ByteArray) (maxL : Nat) (ret : Option FieldType) (ws : List Jvm.Cond) (rm : Room) (as' : Array Value) (cs : List (Addr × zr)) (Q : Option Value → List (Addr × zr) → Prop) : Prop :=
  ∀ h, zAf Z a0 hb h cs → MetFree l y (head1 (Jvm.Cond.code y bytes maxL ret :: ws) rm) (fun a U => a = as' ∧ Z.Warmed39 U.vm ∧ U.heap = h) (fun _ _ _ _ _ => True) (fun _ U o U' => ∃ w L, o = .returned w ∧ (Fr hb.size L ∧ ∃ cs', Q w cs' ∧ zAf Z a0 hb U'.heap cs') ∧ FrameEnd U o U' L rm.cells rm.slots)
def own_Ends (p : Program) (l : Launch) (e : Env) (R : Room) (s : State) (m : MethodId) (args : Array Value) (below : List Frame) (meth : Method) (c : Code) (Z : State) (a0 : Array Value) (hb : zU) (bytes : ByteArray) (ret : Option FieldType) (Q : Option Value → List (Addr × zr) → Prop) (T : State) (g : JFrame) : Prop :=
  ∃ T' cs' k n pc L, zR p l e R s m args below meth c Z a0 hb T' cs' k n ∧ k ≤ R.cells ∧ n ≤ R.slots ∧
    ((ret = none ∧ Q none cs' ∧ decode bytes pc = .ok (.return_, 1) ∧ ∀ target, Steps p.tables e below (T'.setTop (mkF m pc L [])) target → Steps p.tables e below (T.setTop g) target) ∨
     (∃ t v S i, ret = some t ∧ Q (some v) cs' ∧ decode bytes pc = .ok (i, 1) ∧ zCL i t v ∧ ∀ target, Steps p.tables e below (T'.setTop (mkF m pc L (v :: S))) target → Steps p.tables e below (T.setTop g) target))
theorem zh {l : Launch} {Z : State} {a0 : Array Value} {hb : zU} {y : MethodName} {bytes : ByteArray} {maxL : Nat} {ret : Option FieldType} {ws : List Jvm.Cond} {rm : Room} {as' : Array Value} {cs : List (Addr × zr)} {Q : Option Value → List (Addr × zr) → Prop} {L0 : Array Slot} (hpl : plainFor y = true) (hef : ∀ m, entryFrame m as' maxL = mkF m 0 L0 [])
    (body : ∀ (p : Program) (e : Env) (s : State) (m : MethodId) (below : List Frame) (meth : Method) (c : Code) (T : State), p.tables.exec = Jvm.exec → Z.Warmed39 s.vm → s.vm.findClass y.cls = some m.cls → c.code = bytes → c.maxLocals = maxL → meth.name = y.name → zR p l e rm s m as' below meth c Z a0 hb T cs 0 0 → own_Ends p l e rm s m as' below meth c Z a0 hb bytes ret Q T (mkF m 0 L0 [])) :
    zX l Z a0 hb y bytes maxL ret ws rm as' cs Q := by
  intro h hH
  refine MetFree.of_bodySF hpl hisR ?_
  intro p e s m args below meth c s₁ Bd hml0 hPP hK
  obtain ⟨rfl, hZ, hh⟩ := hPP
  have hown : s.vm.findClass y.cls = some m.cls := findClass_of_methodNamed Bd.named
  have hnm := (name_of_methodNamed Bd.named Bd.method).1
  have X0 : Stand p l e rm s m _ below meth c s₁ [] 0 0 := Stand.of_body Bd
  have e0 : s₁.heap = h := by rw [← hh, Bd.state]; rfl
  obtain ⟨T', cs', k, n, pc, L, ⟨locs, X, N, hH'⟩, hk, hn, hE⟩ := body p e s m below meth c s₁ Bd.exec hZ hown Bd.bytes hml0 hnm ⟨[], X0, Fr.nil _, e0 ▸ hH⟩
  rcases hE with ⟨rfl, hQ, hd, st⟩ | ⟨t, v, S, i, rfl, hQ, hd, hr, st⟩
  · obtain ⟨fs, hr', hrun, hended, hW, hsame⟩ := X.leave (v := none) (fun _ => rfl)
    exact ⟨_, _, castTop (hef m) (st _ (X.returnOut Bd.exec Bd.returns (Jvm.hb Bd.bytes hd) hr')), hrun, hended, _, _, rfl, ⟨N, cs', hQ, hH'⟩, ⟨_, rfl⟩, hW, hsame.mono hk hn⟩
  · obtain ⟨fs, hr', hrun, hended, hW, hsame⟩ := X.leave (v := some v) (fun h => by rw [Bd.returns] at h; cases h)
    exact ⟨_, _, castTop (hef m) (st _ (retOut X Bd.exec Bd.returns hr.1 hr.2 (Jvm.hb Bd.bytes hd) hr')), hrun, hended, _, _, rfl, ⟨N, cs', hQ, hH'⟩, ⟨_, rfl⟩, hW, hsame.mono hk hn⟩
section Calls
variable {p : Program} {l : Launch} {e : Env} {R : Room} {s : State} {m : MethodId} {args : Array Value} {below : List Frame} {meth : Method} {c : Code} {T : State} {Z : State} {a0 : Array Value} {hb : zU} {cs : List (Addr × zr)} {k n : Nat}
theorem zAL (H : zR p l e R s m args below meth c Z a0 hb T cs k n) (hx : p.tables.exec = Jvm.exec) (hZ : Z.Warmed39 s.vm) {own : String} {index : Nat} {y : MethodName} {bytes : ByteArray} {maxL : Nat} {ret : Option FieldType} (hown : s.vm.findClass own = some m.cls)
    (w1 : (Jvm.Cond.methodLink own index y).before a0 Z = true) (w2 : (Jvm.Cond.static y).before a0 Z = true) (w3 : (Jvm.Cond.initialized y.cls).before a0 Z = true) (w4 : (Jvm.Cond.code y bytes maxL ret).before a0 Z = true) (hy : y.cls ≠ "java/lang/invoke/MethodHandle" ∧ y.cls ≠ "java/lang/invoke/VarHandle")
    {rm : Room} {W : Nat} {argsL rest : List Value} {Q : Option Value → List (Addr × zr) → Prop} (hM : zX l Z a0 hb y bytes maxL ret [] rm argsL.toArray cs Q) (hf : rm.frames + 1 ≤ R.frames) (hl : W + (maxL + 11) + rm.locals ≤ R.locals) (hc : k + rm.cells ≤ R.cells) (hs : n + rm.slots ≤ R.slots)
    {g : JFrame} (hg : g.method = m) (hsize : g.locals.size = c.maxLocals) (hlen : ∀ sig, parseMethodDescriptor y.desc = some sig → argsL.length = sig.parameters.length) (hst : g.stack = argsL.reverse ++ rest) (hW : 2 * g.monitorRoom + (rest.map fun v => v.category).sum ≤ W) (hd : decode c.code g.pc = .ok (.invokestatic index, 3)) :
    ∃ T' v cs', Q v cs' ∧ zR p l e R s m args below meth c Z a0 hb T' cs' (k + rm.cells) (n + rm.slots) ∧ ∀ target, Steps p.tables e below (T'.setTop { g with pc := g.pc + 3, stack := v.toList ++ rest }) target → Steps p.tables e below (T.setTop g) target := by
  obtain ⟨locs, X, N, hH⟩ := H
  obtain ⟨v', vm1, ⟨T2, L2, k2, n2⟩, -, X2, ⟨Lc, hQ, l2, y2, z2⟩, st⟩ := Jvm.LawKit.callS X hx hown (mvT hZ w1) (mvT hZ w2) (mvT hZ w3) (mvT hZ w4) hy (backOf (W := W) (rm := rm) (Q := fun w H L => Fr hb.size L ∧ ∃ cs', Q w cs' ∧ zAf Z a0 hb H cs') (hM _ hH) hZ w4 w3 hf hl) hg hsize hlen hst hW hd (fun _ _ => ⟨rfl, rfl, hc, hs⟩)
  dsimp only [Pt.U, Pt.locs, Pt.cells, Pt.slots] at X2 l2 y2 z2 st hQ
  obtain ⟨N2, cs', hQ', hH'⟩ := hQ
  subst l2 y2 z2
  exact ⟨T2, v', cs', hQ', ⟨_, X2, N.app N2, hH'⟩, st⟩
theorem own_callI (H : zR p l e R s m args below meth c Z a0 hb T cs k n) (hx : p.tables.exec = Jvm.exec) (hZ : Z.Warmed39 s.vm) {own : String} {index : Nat} {y : MethodName} {bytes : ByteArray} {maxL : Nat} (hown : s.vm.findClass own = some m.cls) (hy1 : y.name = "<init>")
    (w1 : (Jvm.Cond.methodLink own index y).before a0 Z = true) (w2 : (Jvm.Cond.instanceMethod y).before a0 Z = true) (w3 : (Jvm.Cond.initialized y.cls).before a0 Z = true) (w4 : (Jvm.Cond.code y bytes maxL none).before a0 Z = true) (hy : y.cls ≠ "java/lang/invoke/MethodHandle" ∧ y.cls ≠ "java/lang/invoke/VarHandle")
    {rm : Room} {W : Nat} {x : Addr} {argsL rest : List Value} {Q : Option Value → List (Addr × zr) → Prop} (hM : zX l Z a0 hb y bytes maxL none [] rm (Value.ref x :: argsL).toArray cs Q) (hf : rm.frames + 1 ≤ R.frames) (hl : W + (maxL + 11) + rm.locals ≤ R.locals) (hc : k + rm.cells ≤ R.cells) (hs : n + rm.slots ≤ R.slots)
    {g : JFrame} (hg : g.method = m) (hsize : g.locals.size = c.maxLocals) (hlen : ∀ sig, parseMethodDescriptor y.desc = some sig → argsL.length = sig.parameters.length) (hst : g.stack = argsL.reverse ++ .ref x :: rest) (hW : 2 * g.monitorRoom + (rest.map fun v => v.category).sum ≤ W) (hd : decode c.code g.pc = .ok (.invokespecial index, 3)) :
    ∃ T' v cs', Q v cs' ∧ zR p l e R s m args below meth c Z a0 hb T' cs' (k + rm.cells) (n + rm.slots) ∧ ∀ target, Steps p.tables e below (T'.setTop { g with pc := g.pc + 3, stack := v.toList ++ rest }) target → Steps p.tables e below (T.setTop g) target := by
  obtain ⟨locs, X, N, hH⟩ := H
  obtain ⟨v', vm1, ⟨T2, L2, k2, n2⟩, -, X2, ⟨Lc, hQ, l2, y2, z2⟩, st⟩ := X.specialBack hx hy1 hown (mvT hZ w1) (mvT hZ w2) (mvT hZ w4) hy (backOf (W := W) (rm := rm) (Q := fun w H L => Fr hb.size L ∧ ∃ cs', Q w cs' ∧ zAf Z a0 hb H cs') (hM _ hH) hZ w4 w3 hf hl) hg hsize (Steps.refl _) hlen hst hW hd (fun _ _ => ⟨rfl, rfl, hc, hs⟩)
  dsimp only [Pt.U, Pt.locs, Pt.cells, Pt.slots] at X2 l2 y2 z2 st hQ
  obtain ⟨N2, cs', hQ', hH'⟩ := hQ
  subst l2 y2 z2
  exact ⟨T2, v', cs', hQ', ⟨_, X2, N.app N2, hH'⟩, fun target q => st.trans q⟩
theorem zAR (H : zR p l e R s m args below meth c Z a0 hb T cs k n) (hx : p.tables.exec = Jvm.exec) (hZ : Z.Warmed39 s.vm) {own C : String} {index : Nat} {y : MethodName} {bytes : ByteArray} {maxL : Nat} {ret : Option FieldType} (hown : s.vm.findClass own = some m.cls)
    (w1 : (Jvm.Cond.methodLink own index y).before a0 Z = true) (w2 : (Jvm.Cond.declares y).before a0 Z = true) (w5 : (Jvm.Cond.selects C y y).before a0 Z = true) (w6 : (Jvm.Cond.instanceMethod y).before a0 Z = true) (w3 : (Jvm.Cond.initialized y.cls).before a0 Z = true) (w4 : (Jvm.Cond.code y bytes maxL ret).before a0 Z = true) (hy : y.cls ≠ "java/lang/invoke/MethodHandle" ∧ y.cls ≠ "java/lang/invoke/VarHandle")
    {rm : Room} {W : Nat} {x : Addr} {fs : List (String × String × String × Value)} (i : Nat) (hi : cs[i]? = some (x, zAx C fs)) {argsL rest : List Value} {Q : Option Value → List (Addr × zr) → Prop} (hM : zX l Z a0 hb y bytes maxL ret [] rm (Value.ref x :: argsL).toArray cs Q) (hf : rm.frames + 1 ≤ R.frames) (hl : W + (maxL + 11) + rm.locals ≤ R.locals) (hc : k + rm.cells ≤ R.cells) (hs : n + rm.slots ≤ R.slots)
    {g : JFrame} (hg : g.method = m) (hsize : g.locals.size = c.maxLocals) (hlen : ∀ sig, parseMethodDescriptor y.desc = some sig → argsL.length = sig.parameters.length) (hst : g.stack = argsL.reverse ++ .ref x :: rest) (hW : 2 * g.monitorRoom + (rest.map fun v => v.category).sum ≤ W) (hd : decode c.code g.pc = .ok (.invokevirtual index, 3)) :
    ∃ T' v cs', Q v cs' ∧ zR p l e R s m args below meth c Z a0 hb T' cs' (k + rm.cells) (n + rm.slots) ∧ ∀ target, Steps p.tables e below (T'.setTop { g with pc := g.pc + 3, stack := v.toList ++ rest }) target → Steps p.tables e below (T.setTop g) target := by
  obtain ⟨locs, X, N, hH⟩ := H
  obtain ⟨cq, kq, qa, qb, qc⟩ := isOf hZ rfl (zAk hH hi).1.1
  obtain ⟨v', vm1, ⟨T2, L2, k2, n2⟩, -, X2, ⟨Lc, hQ, l2, y2, z2⟩, st⟩ := X.virtualBack hx hown (mvT hZ w1) (mvT hZ w2) (notFace_of_selects (args := #[]) (mvT hZ w5)) (mvT hZ w5) (mvT hZ w6) hy (backOf (W := W) (rm := rm) (Q := fun w H L => Fr hb.size L ∧ ∃ cs', Q w cs' ∧ zAf Z a0 hb H cs') (hM _ hH) hZ w4 w3 hf hl) qa qc hg hsize (Steps.refl _) hlen hst hW hd (fun _ _ => ⟨rfl, rfl, hc, hs⟩)
  dsimp only [Pt.U, Pt.locs, Pt.cells, Pt.slots] at X2 l2 y2 z2 st hQ
  obtain ⟨N2, cs', hQ', hH'⟩ := hQ
  subst l2 y2 z2
  exact ⟨T2, v', cs', hQ', ⟨_, X2, N.app N2, hH'⟩, fun target q => st.trans q⟩
end Calls
end OwnHeap
section OwnHeap2
open Jvm.Free Jvm.Stand Jvm.LawKit Jvm.RoadKit
variable {p : Program} {l : Launch} {e : Env} {R : Room} {s : State} {m : MethodId} {args : Array Value} {below : List Frame} {meth : Method} {c : Code} {T : State} {Z : State} {a0 : Array Value} {hb : zU} {cs : List (Addr × zr)} {k n : Nat}
theorem zo (H : zR p l e R s m args below meth c Z a0 hb T cs k n) (hx : p.tables.exec = Jvm.exec) (hZ : Z.Warmed39 s.vm) {own : String} {index nn : Nat} {y : MethodName} {bytes : ByteArray} {maxL : Nat} {ret : Option FieldType} (hown : s.vm.findClass own = some m.cls)
    (w1 : (Jvm.Cond.methodLink own index y).before a0 Z = true) (w2 : (Jvm.Cond.instanceMethod y).before a0 Z = true) (w5 : (Jvm.Cond.privateMethod y).before a0 Z = true) (w6 : (Jvm.Cond.instantiable y.cls nn).before a0 Z = true) (w3 : (Jvm.Cond.initialized y.cls).before a0 Z = true) (w4 : (Jvm.Cond.code y bytes maxL ret).before a0 Z = true) (hy : y.cls ≠ "java/lang/invoke/MethodHandle" ∧ y.cls ≠ "java/lang/invoke/VarHandle")
    {rm : Room} {W : Nat} {x : Addr} {C : String} {fs : List (String × String × String × Value)} (i : Nat) (hi : cs[i]? = some (x, zAx C fs)) {argsL rest : List Value} {Q : Option Value → List (Addr × zr) → Prop} (hM : zX l Z a0 hb y bytes maxL ret [] rm (Value.ref x :: argsL).toArray cs Q) (hf : rm.frames + 1 ≤ R.frames) (hl : W + (maxL + 11) + rm.locals ≤ R.locals) (hc : k + rm.cells ≤ R.cells) (hs : n + rm.slots ≤ R.slots)
    {g : JFrame} (hg : g.method = m) (hsize : g.locals.size = c.maxLocals) (hlen : ∀ sig, parseMethodDescriptor y.desc = some sig → argsL.length = sig.parameters.length) (hst : g.stack = argsL.reverse ++ .ref x :: rest) (hW : 2 * g.monitorRoom + (rest.map fun v => v.category).sum ≤ W) (hd : decode c.code g.pc = .ok (.invokevirtual index, 3)) :
    ∃ T' v cs', Q v cs' ∧ zR p l e R s m args below meth c Z a0 hb T' cs' (k + rm.cells) (n + rm.slots) ∧ ∀ target, Steps p.tables e below (T'.setTop { g with pc := g.pc + 3, stack := v.toList ++ rest }) target → Steps p.tables e below (T.setTop g) target := by
  obtain ⟨locs, X, N, hH⟩ := H
  have hsel : (Jvm.Cond.selects y.cls y y).before a0 Z = true := Jvm.Kit.selects_private hy w6 w5 w2
  obtain ⟨cell, kk, q1, q2, q3, q4, -⟩ := (zAk hH hi).1.1
  obtain ⟨v', vm1, ⟨T2, L2, k2, n2⟩, -, X2, ⟨Lc, hQ, l2, y2, z2⟩, st⟩ := X.privateBack hx hown (mvT hZ w1) (mvT hZ w2) (mvT hZ hsel) (Cond.privateMethod_at (mvP hZ w5 (args := #[]))) (mvT hZ w4) hy (backOf (W := W) (rm := rm) (Q := fun w H L => Fr hb.size L ∧ ∃ cs', Q w cs' ∧ zAf Z a0 hb H cs') (hM _ hH) hZ w4 w3 hf hl) hg hsize (Steps.refl _) (a := x) q1 (fun q e => by rw [e] at q4; cases q4) hlen hst hW hd (fun _ _ => ⟨rfl, rfl, hc, hs⟩)
  dsimp only [Pt.U, Pt.locs, Pt.cells, Pt.slots] at X2 l2 y2 z2 st hQ
  obtain ⟨N2, cs', hQ', hH'⟩ := hQ
  subst l2 y2 z2
  exact ⟨T2, v', cs', hQ', ⟨_, X2, N.app N2, hH'⟩, fun target q => st.trans q⟩
end OwnHeap2
section OwnInts
open Jvm.Free Jvm.Stand Jvm.LawKit Jvm.RoadKit
end OwnInts
section OwnPure

def zD (A : Int32 → Int32) (l v : Int32) : Int32 → Int32 := fun j => if j = l then v else A j
def zG (n j : Int32) : Prop := 0 ≤ j ∧ j < n
abbrev zZ (A L : Int32 → Int32) (n c h num : Int32) : Prop :=
  (∀ i, zG c i → i ≠ h → zG n (L i) ∧ A (L i) = i ∧ L i ≠ num) ∧ zG n num ∧ (∀ j, zG n j → j ≠ num → A j = -1 ∨ (zG c (A j) ∧ A j ≠ h ∧ L (A j) = j))
theorem zZ.p1 {A L : Int32 → Int32} {n c h num : Int32} (H : zZ A L n c h num) : ∀ i, zG c i → i ≠ h → zG n (L i) ∧ A (L i) = i ∧ L i ≠ num := H.1
theorem zZ.p2 {A L : Int32 → Int32} {n c h num : Int32} (H : zZ A L n c h num) : zG n num := H.2.1
theorem zZ.p3 {A L : Int32 → Int32} {n c h num : Int32} (H : zZ A L n c h num) : ∀ j, zG n j → j ≠ num → A j = -1 ∨ (zG c (A j) ∧ A j ≠ h ∧ L (A j) = j) := H.2.2
abbrev zY (A L : Int32 → Int32) (n c : Int32) : Prop :=
  (∀ i, zG c i → zG n (L i) ∧ A (L i) = i) ∧ (∀ j, zG n j → A j = -1 ∨ (zG c (A j) ∧ L (A j) = j))
theorem zY.p1 {A L : Int32 → Int32} {n c : Int32} (H : zY A L n c) : ∀ i, zG c i → zG n (L i) ∧ A (L i) = i := H.1
theorem zY.p3 {A L : Int32 → Int32} {n c : Int32} (H : zY A L n c) : ∀ j, zG n j → A j = -1 ∨ (zG c (A j) ∧ L (A j) = j) := H.2
abbrev zO (L : Int32 → Int32) (X : Int32 → Int) (c : Int32) : Prop :=
  ((1 : Int32) < c → X (L 1) ≤ X (L 0)) ∧ ((2 : Int32) < c → X (L 2) ≤ X (L 0)) ∧ ((3 : Int32) < c → X (L 3) ≤ X (L 1))
theorem zO.o1 {L : Int32 → Int32} {X : Int32 → Int} {c : Int32} (H : zO L X c) : (1 : Int32) < c → X (L 1) ≤ X (L 0) := H.1
theorem zO.o2 {L : Int32 → Int32} {X : Int32 → Int} {c : Int32} (H : zO L X c) : (2 : Int32) < c → X (L 2) ≤ X (L 0) := H.2.1
theorem zO.o3 {L : Int32 → Int32} {X : Int32 → Int} {c : Int32} (H : zO L X c) : (3 : Int32) < c → X (L 3) ≤ X (L 1) := H.2.2
theorem zs {A : Int32 → Int32} {l v j : Int32} (h : zD A l v j = -1) (hv : v ≠ -1) : j ≠ l ∧ A j = -1 := by
  by_cases e : j = l
  · simp [zD, e] at h; exact absurd h hv
  · simp [zD, e] at h; exact ⟨e, h⟩
theorem zAm {A L : Int32 → Int32} {n c h num ch : Int32} (H : zZ A L n c h num) (hch : zG c ch) (hne : ch ≠ h) (hh : zG c h) : zZ (zD A (L ch) h) (zD L h (L ch)) n c ch num := by
  obtain ⟨p1, p2, p3⟩ := H
  have q := p1 ch hch hne
  refine ⟨?_, p2, ?_⟩
  · intro i hi hic
    simp only [zD]
    by_cases e : i = h
    · subst e; simp [q]
    · have r := p1 i hi e
      have ne : L i ≠ L ch := by intro z; rw [z] at r; exact hic (r.2.1.symm.trans q.2.1)
      simp [e, ne, r]
  · intro j hj hjn
    simp only [zD]
    by_cases e : j = L ch
    · subst e; exact Or.inr (by simp [hh, Ne.symm hne])
    · rcases p3 j hj hjn with r | ⟨r1, r2, r3⟩
      · exact Or.inl (by simp [e, r])
      · refine Or.inr ?_
        have : A j ≠ ch := by intro z; rw [z] at r3; exact e r3.symm
        simp [e, r1, r2, r3, this]
theorem zAH {A L : Int32 → Int32} {n c h num : Int32} (H : zZ A L n c h num) (hh : zG c h) : zY (zD A num h) (zD L h num) n c := by
  obtain ⟨p1, p2, p3⟩ := H
  refine ⟨?_, ?_⟩
  · intro i hi
    simp only [zD]
    by_cases e : i = h
    · subst e; simp [p2]
    · have r := p1 i hi e
      simp [e, r]
  · intro j hj
    simp only [zD]
    by_cases e : j = num
    · subst e; exact Or.inr (by simp [hh])
    · rcases p3 j hj e with r | ⟨r1, r2, r3⟩
      · exact Or.inl (by simp [e, r])
      · exact Or.inr (by simp [e, r1, r2, r3])
theorem own_hole_a {A L : Int32 → Int32} {n c num : Int32} (H : zY A L n c) (hn : zG n num) (hm : A num ≠ -1) : zZ A L n c (A num) num := by
  obtain ⟨p1, p3⟩ := H
  have q := (p3 num hn).resolve_left hm
  refine ⟨?_, hn, ?_⟩
  · intro i hi hne
    have r := p1 i hi
    refine ⟨r.1, r.2, ?_⟩
    intro z; rw [z] at r; exact hne r.2.symm
  · intro j hj hjn
    rcases p3 j hj with r | ⟨r1, r2⟩
    · exact Or.inl r
    · refine Or.inr ⟨r1, ?_, r2⟩
      intro z; rw [z, q.2] at r2; exact hjn r2.symm
theorem own_hole_c {A L : Int32 → Int32} {n c num : Int32} (H : zY A L n c) (hc : zG c 0) (hn : zG n num) (hm : A num = -1) : zZ (zD A (L 0) (-1)) L n c 0 num := by
  obtain ⟨p1, p3⟩ := H
  have q := p1 0 hc
  refine ⟨?_, hn, ?_⟩
  · intro i hi hne
    have r := p1 i hi
    have ne : L i ≠ L 0 := by intro z; rw [z] at r; exact hne (r.2.symm.trans q.2)
    refine ⟨r.1, by simp [zD, ne, r.2], ?_⟩
    intro z; rw [z] at r
    have h0 : i = -1 := r.2.symm.trans hm
    rw [h0] at hi
    exact absurd hi.1 (by decide)
  · intro j hj hjn
    by_cases e : j = L 0
    · exact Or.inl (by simp [zD, e])
    · rcases p3 j hj with r | ⟨r1, r2⟩
      · exact Or.inl (by simp [zD, e, r])
      · refine Or.inr ⟨by simpa [zD, e] using r1, ?_, by simpa [zD, e] using r2⟩
        intro z; simp [zD, e] at z; rw [z] at r2; exact e r2.symm
theorem own_hole_u {A L : Int32 → Int32} {n c c' num : Int32} (H : zY A L n c) (hc' : ∀ i, zG c' i ↔ zG c i ∨ i = c) (hn : zG n num) (hm : A num = -1) (hcc : ¬ zG c c) : zZ A L n c' c num := by
  obtain ⟨p1, p3⟩ := H
  refine ⟨?_, hn, ?_⟩
  · intro i hi hne
    have hi' := ((hc' i).mp hi).resolve_right hne
    have r := p1 i hi'
    refine ⟨r.1, r.2, ?_⟩
    intro z; rw [z] at r
    have h0 : i = -1 := r.2.symm.trans hm
    rw [h0] at hi'
    exact absurd hi'.1 (by decide)
  · intro j hj hjn
    rcases p3 j hj with r | ⟨r1, r2⟩
    · exact Or.inl r
    · refine Or.inr ⟨(hc' _).mpr (Or.inl r1), ?_, r2⟩
      intro z; rw [z] at r1; exact hcc r1
theorem zCn {A L : Int32 → Int32} {n n' c : Int32} (H : zY A L n c) (hn' : ∀ i, zG n' i ↔ zG n i ∨ i = n) (hnn : ¬ zG n n) : zY (zD A n (-1)) L n' c := by
  obtain ⟨p1, p3⟩ := H
  refine ⟨?_, ?_⟩
  · intro i hi
    have r := p1 i hi
    have ne : L i ≠ n := by intro z; rw [z] at r; exact hnn r.1
    exact ⟨(hn' _).mpr (Or.inl r.1), by simp [zD, ne, r.2]⟩
  · intro j hj
    by_cases e : j = n
    · exact Or.inl (by simp [zD, e])
    · have hj' := ((hn' j).mp hj).resolve_right e
      rcases p3 j hj' with r | ⟨r1, r2⟩
      · exact Or.inl (by simp [zD, e, r])
      · exact Or.inr (by simpa [zD, e] using ⟨r1, r2⟩)
theorem own_sd10_0 {A L : Int32 → Int32} {X X0 : Int32 → Int} {n num : Int32} (H : zZ A L n (1 : Int32) (0 : Int32) num) (O : zO (zD L (0 : Int32) num) X0 (1 : Int32)) (hx : ∀ j, j ≠ num → X0 j = X j) (hn : X num ≤ X0 num) :
    zY (zD A num (0 : Int32)) (zD L (0 : Int32) num) n (1 : Int32) ∧ zO (zD L (0 : Int32) num) X (1 : Int32) ∧ X ((zD L (0 : Int32) num) 0) ≤ X0 (zD L (0 : Int32) num 0) ∧ (∀ j, (zD A num (0 : Int32)) j = -1 → j ≠ num ∧ A j = -1) := by
  have q := zAH H ⟨by decide, by decide⟩
  have e : ∀ (L : Int32 → Int32) (h v j : Int32), j ≠ h → zD L h v j = L j := fun L h v j hj => by simp [zD, hj]
  obtain ⟨o1, o2, o3⟩ := O
  clear o1
  clear o2
  clear o3
  refine ⟨?_, ?_, ?_, ?_⟩
  · first | exact q | (simp only [zD] at q ⊢; simpa using q)
  · refine ⟨?_, ?_, ?_⟩
    · intro h; exact absurd h (by decide)
    · intro h; exact absurd h (by decide)
    · intro h; exact absurd h (by decide)
  · simp [zD] at *
    omega
  · intro j hj
    have z := zs hj (by decide)
    exact ⟨z.1, z.2⟩
theorem own_sd20_0 {A L : Int32 → Int32} {X X0 : Int32 → Int} {n num : Int32} (H : zZ A L n (2 : Int32) (0 : Int32) num) (O : zO (zD L (0 : Int32) num) X0 (2 : Int32)) (hx : ∀ j, j ≠ num → X0 j = X j) (hn : X num ≤ X0 num) (d0 : X (L (1 : Int32)) ≤ X num) :
    zY (zD A num (0 : Int32)) (zD L (0 : Int32) num) n (2 : Int32) ∧ zO (zD L (0 : Int32) num) X (2 : Int32) ∧ X ((zD L (0 : Int32) num) 0) ≤ X0 (zD L (0 : Int32) num 0) ∧ (∀ j, (zD A num (0 : Int32)) j = -1 → j ≠ num ∧ A j = -1) := by
  have q := zAH H ⟨by decide, by decide⟩
  have e : ∀ (L : Int32 → Int32) (h v j : Int32), j ≠ h → zD L h v j = L j := fun L h v j hj => by simp [zD, hj]
  have n1 := (H.p1 (1 : Int32) ⟨by decide, by decide⟩ (by decide)).2.2
  have x1 := hx (L (1 : Int32)) n1
  obtain ⟨o1, o2, o3⟩ := O
  have o1 := o1 (by decide)
  clear o2
  clear o3
  refine ⟨?_, ?_, ?_, ?_⟩
  · first | exact q | (simp only [zD] at q ⊢; simpa using q)
  · refine ⟨?_, ?_, ?_⟩
    · intro _
      simp [zD] at *
      omega
    · intro h; exact absurd h (by decide)
    · intro h; exact absurd h (by decide)
  · simp [zD] at *
    omega
  · intro j hj
    have z := zs hj (by decide)
    exact ⟨z.1, z.2⟩
theorem own_sd20_1 {A L : Int32 → Int32} {X X0 : Int32 → Int} {n num : Int32} (H : zZ A L n (2 : Int32) (0 : Int32) num) (O : zO (zD L (0 : Int32) num) X0 (2 : Int32)) (hx : ∀ j, j ≠ num → X0 j = X j) (hn : X num ≤ X0 num) (d0 : X num < X (L (1 : Int32))) :
    zY (zD (zD A (L (1 : Int32)) (0 : Int32)) num (1 : Int32)) (zD (zD L (0 : Int32) (L (1 : Int32))) (1 : Int32) num) n (2 : Int32) ∧ zO (zD (zD L (0 : Int32) (L (1 : Int32))) (1 : Int32) num) X (2 : Int32) ∧ X ((zD (zD L (0 : Int32) (L (1 : Int32))) (1 : Int32) num) 0) ≤ X0 (zD L (0 : Int32) num 0) ∧ (∀ j, (zD (zD A (L (1 : Int32)) (0 : Int32)) num (1 : Int32)) j = -1 → j ≠ num ∧ A j = -1) := by
  have q := zAH (zAm (ch := (1 : Int32)) H ⟨by decide, by decide⟩ (by decide) ⟨by decide, by decide⟩) ⟨by decide, by decide⟩
  have e : ∀ (L : Int32 → Int32) (h v j : Int32), j ≠ h → zD L h v j = L j := fun L h v j hj => by simp [zD, hj]
  have n1 := (H.p1 (1 : Int32) ⟨by decide, by decide⟩ (by decide)).2.2
  have x1 := hx (L (1 : Int32)) n1
  obtain ⟨o1, o2, o3⟩ := O
  have o1 := o1 (by decide)
  clear o2
  clear o3
  refine ⟨?_, ?_, ?_, ?_⟩
  · first | exact q | (simp only [zD] at q ⊢; simpa using q)
  · refine ⟨?_, ?_, ?_⟩
    · intro _
      simp [zD] at *
      omega
    · intro h; exact absurd h (by decide)
    · intro h; exact absurd h (by decide)
  · simp [zD] at *
    omega
  · intro j hj
    have z := zs hj (by decide)
    have z0 := zs z.2 (by decide)
    exact ⟨z.1, z0.2⟩
theorem own_sd21_0 {A L : Int32 → Int32} {X X0 : Int32 → Int} {n num : Int32} (H : zZ A L n (2 : Int32) (1 : Int32) num) (O : zO (zD L (1 : Int32) num) X0 (2 : Int32)) (hx : ∀ j, j ≠ num → X0 j = X j) (hn : X num ≤ X0 num) :
    zY (zD A num (1 : Int32)) (zD L (1 : Int32) num) n (2 : Int32) ∧ zO (zD L (1 : Int32) num) X (2 : Int32) ∧ X ((zD L (1 : Int32) num) 0) ≤ X0 (zD L (1 : Int32) num 0) ∧ (∀ j, (zD A num (1 : Int32)) j = -1 → j ≠ num ∧ A j = -1) := by
  have q := zAH H ⟨by decide, by decide⟩
  have e : ∀ (L : Int32 → Int32) (h v j : Int32), j ≠ h → zD L h v j = L j := fun L h v j hj => by simp [zD, hj]
  have n0 := (H.p1 (0 : Int32) ⟨by decide, by decide⟩ (by decide)).2.2
  have x0 := hx (L (0 : Int32)) n0
  obtain ⟨o1, o2, o3⟩ := O
  have o1 := o1 (by decide)
  clear o2
  clear o3
  refine ⟨?_, ?_, ?_, ?_⟩
  · first | exact q | (simp only [zD] at q ⊢; simpa using q)
  · refine ⟨?_, ?_, ?_⟩
    · intro _
      simp [zD] at *
      omega
    · intro h; exact absurd h (by decide)
    · intro h; exact absurd h (by decide)
  · simp [zD] at *
    omega
  · intro j hj
    have z := zs hj (by decide)
    exact ⟨z.1, z.2⟩
theorem own_sd30_0 {A L : Int32 → Int32} {X X0 : Int32 → Int} {n num : Int32} (H : zZ A L n (3 : Int32) (0 : Int32) num) (O : zO (zD L (0 : Int32) num) X0 (3 : Int32)) (hx : ∀ j, j ≠ num → X0 j = X j) (hn : X num ≤ X0 num) (d0 : X (L (2 : Int32)) ≤ X (L (1 : Int32))) (d1 : X (L (1 : Int32)) ≤ X num) :
    zY (zD A num (0 : Int32)) (zD L (0 : Int32) num) n (3 : Int32) ∧ zO (zD L (0 : Int32) num) X (3 : Int32) ∧ X ((zD L (0 : Int32) num) 0) ≤ X0 (zD L (0 : Int32) num 0) ∧ (∀ j, (zD A num (0 : Int32)) j = -1 → j ≠ num ∧ A j = -1) := by
  have q := zAH H ⟨by decide, by decide⟩
  have e : ∀ (L : Int32 → Int32) (h v j : Int32), j ≠ h → zD L h v j = L j := fun L h v j hj => by simp [zD, hj]
  have n1 := (H.p1 (1 : Int32) ⟨by decide, by decide⟩ (by decide)).2.2
  have n2 := (H.p1 (2 : Int32) ⟨by decide, by decide⟩ (by decide)).2.2
  have x1 := hx (L (1 : Int32)) n1
  have x2 := hx (L (2 : Int32)) n2
  obtain ⟨o1, o2, o3⟩ := O
  have o1 := o1 (by decide)
  have o2 := o2 (by decide)
  clear o3
  refine ⟨?_, ?_, ?_, ?_⟩
  · first | exact q | (simp only [zD] at q ⊢; simpa using q)
  · refine ⟨?_, ?_, ?_⟩
    · intro _
      simp [zD] at *
      omega
    · intro _
      simp [zD] at *
      omega
    · intro h; exact absurd h (by decide)
  · simp [zD] at *
    omega
  · intro j hj
    have z := zs hj (by decide)
    exact ⟨z.1, z.2⟩
theorem own_sd30_1 {A L : Int32 → Int32} {X X0 : Int32 → Int} {n num : Int32} (H : zZ A L n (3 : Int32) (0 : Int32) num) (O : zO (zD L (0 : Int32) num) X0 (3 : Int32)) (hx : ∀ j, j ≠ num → X0 j = X j) (hn : X num ≤ X0 num) (d0 : X (L (2 : Int32)) ≤ X (L (1 : Int32))) (d1 : X num < X (L (1 : Int32))) :
    zY (zD (zD A (L (1 : Int32)) (0 : Int32)) num (1 : Int32)) (zD (zD L (0 : Int32) (L (1 : Int32))) (1 : Int32) num) n (3 : Int32) ∧ zO (zD (zD L (0 : Int32) (L (1 : Int32))) (1 : Int32) num) X (3 : Int32) ∧ X ((zD (zD L (0 : Int32) (L (1 : Int32))) (1 : Int32) num) 0) ≤ X0 (zD L (0 : Int32) num 0) ∧ (∀ j, (zD (zD A (L (1 : Int32)) (0 : Int32)) num (1 : Int32)) j = -1 → j ≠ num ∧ A j = -1) := by
  have q := zAH (zAm (ch := (1 : Int32)) H ⟨by decide, by decide⟩ (by decide) ⟨by decide, by decide⟩) ⟨by decide, by decide⟩
  have e : ∀ (L : Int32 → Int32) (h v j : Int32), j ≠ h → zD L h v j = L j := fun L h v j hj => by simp [zD, hj]
  have n1 := (H.p1 (1 : Int32) ⟨by decide, by decide⟩ (by decide)).2.2
  have n2 := (H.p1 (2 : Int32) ⟨by decide, by decide⟩ (by decide)).2.2
  have x1 := hx (L (1 : Int32)) n1
  have x2 := hx (L (2 : Int32)) n2
  obtain ⟨o1, o2, o3⟩ := O
  have o1 := o1 (by decide)
  have o2 := o2 (by decide)
  clear o3
  refine ⟨?_, ?_, ?_, ?_⟩
  · first | exact q | (simp only [zD] at q ⊢; simpa using q)
  · refine ⟨?_, ?_, ?_⟩
    · intro _
      simp [zD] at *
      omega
    · intro _
      simp [zD] at *
      omega
    · intro h; exact absurd h (by decide)
  · simp [zD] at *
    omega
  · intro j hj
    have z := zs hj (by decide)
    have z0 := zs z.2 (by decide)
    exact ⟨z.1, z0.2⟩
theorem own_sd30_2 {A L : Int32 → Int32} {X X0 : Int32 → Int} {n num : Int32} (H : zZ A L n (3 : Int32) (0 : Int32) num) (O : zO (zD L (0 : Int32) num) X0 (3 : Int32)) (hx : ∀ j, j ≠ num → X0 j = X j) (hn : X num ≤ X0 num) (d0 : X (L (1 : Int32)) < X (L (2 : Int32))) (d1 : X (L (2 : Int32)) ≤ X num) :
    zY (zD A num (0 : Int32)) (zD L (0 : Int32) num) n (3 : Int32) ∧ zO (zD L (0 : Int32) num) X (3 : Int32) ∧ X ((zD L (0 : Int32) num) 0) ≤ X0 (zD L (0 : Int32) num 0) ∧ (∀ j, (zD A num (0 : Int32)) j = -1 → j ≠ num ∧ A j = -1) := by
  have q := zAH H ⟨by decide, by decide⟩
  have e : ∀ (L : Int32 → Int32) (h v j : Int32), j ≠ h → zD L h v j = L j := fun L h v j hj => by simp [zD, hj]
  have n1 := (H.p1 (1 : Int32) ⟨by decide, by decide⟩ (by decide)).2.2
  have n2 := (H.p1 (2 : Int32) ⟨by decide, by decide⟩ (by decide)).2.2
  have x1 := hx (L (1 : Int32)) n1
  have x2 := hx (L (2 : Int32)) n2
  obtain ⟨o1, o2, o3⟩ := O
  have o1 := o1 (by decide)
  have o2 := o2 (by decide)
  clear o3
  refine ⟨?_, ?_, ?_, ?_⟩
  · first | exact q | (simp only [zD] at q ⊢; simpa using q)
  · refine ⟨?_, ?_, ?_⟩
    · intro _
      simp [zD] at *
      omega
    · intro _
      simp [zD] at *
      omega
    · intro h; exact absurd h (by decide)
  · simp [zD] at *
    omega
  · intro j hj
    have z := zs hj (by decide)
    exact ⟨z.1, z.2⟩
theorem own_sd30_3 {A L : Int32 → Int32} {X X0 : Int32 → Int} {n num : Int32} (H : zZ A L n (3 : Int32) (0 : Int32) num) (O : zO (zD L (0 : Int32) num) X0 (3 : Int32)) (hx : ∀ j, j ≠ num → X0 j = X j) (hn : X num ≤ X0 num) (d0 : X (L (1 : Int32)) < X (L (2 : Int32))) (d1 : X num < X (L (2 : Int32))) :
    zY (zD (zD A (L (2 : Int32)) (0 : Int32)) num (2 : Int32)) (zD (zD L (0 : Int32) (L (2 : Int32))) (2 : Int32) num) n (3 : Int32) ∧ zO (zD (zD L (0 : Int32) (L (2 : Int32))) (2 : Int32) num) X (3 : Int32) ∧ X ((zD (zD L (0 : Int32) (L (2 : Int32))) (2 : Int32) num) 0) ≤ X0 (zD L (0 : Int32) num 0) ∧ (∀ j, (zD (zD A (L (2 : Int32)) (0 : Int32)) num (2 : Int32)) j = -1 → j ≠ num ∧ A j = -1) := by
  have q := zAH (zAm (ch := (2 : Int32)) H ⟨by decide, by decide⟩ (by decide) ⟨by decide, by decide⟩) ⟨by decide, by decide⟩
  have e : ∀ (L : Int32 → Int32) (h v j : Int32), j ≠ h → zD L h v j = L j := fun L h v j hj => by simp [zD, hj]
  have n1 := (H.p1 (1 : Int32) ⟨by decide, by decide⟩ (by decide)).2.2
  have n2 := (H.p1 (2 : Int32) ⟨by decide, by decide⟩ (by decide)).2.2
  have x1 := hx (L (1 : Int32)) n1
  have x2 := hx (L (2 : Int32)) n2
  obtain ⟨o1, o2, o3⟩ := O
  have o1 := o1 (by decide)
  have o2 := o2 (by decide)
  clear o3
  refine ⟨?_, ?_, ?_, ?_⟩
  · first | exact q | (simp only [zD] at q ⊢; simpa using q)
  · refine ⟨?_, ?_, ?_⟩
    · intro _
      simp [zD] at *
      omega
    · intro _
      simp [zD] at *
      omega
    · intro h; exact absurd h (by decide)
  · simp [zD] at *
    omega
  · intro j hj
    have z := zs hj (by decide)
    have z0 := zs z.2 (by decide)
    exact ⟨z.1, z0.2⟩
theorem own_sd31_0 {A L : Int32 → Int32} {X X0 : Int32 → Int} {n num : Int32} (H : zZ A L n (3 : Int32) (1 : Int32) num) (O : zO (zD L (1 : Int32) num) X0 (3 : Int32)) (hx : ∀ j, j ≠ num → X0 j = X j) (hn : X num ≤ X0 num) :
    zY (zD A num (1 : Int32)) (zD L (1 : Int32) num) n (3 : Int32) ∧ zO (zD L (1 : Int32) num) X (3 : Int32) ∧ X ((zD L (1 : Int32) num) 0) ≤ X0 (zD L (1 : Int32) num 0) ∧ (∀ j, (zD A num (1 : Int32)) j = -1 → j ≠ num ∧ A j = -1) := by
  have q := zAH H ⟨by decide, by decide⟩
  have e : ∀ (L : Int32 → Int32) (h v j : Int32), j ≠ h → zD L h v j = L j := fun L h v j hj => by simp [zD, hj]
  have n0 := (H.p1 (0 : Int32) ⟨by decide, by decide⟩ (by decide)).2.2
  have n2 := (H.p1 (2 : Int32) ⟨by decide, by decide⟩ (by decide)).2.2
  have x0 := hx (L (0 : Int32)) n0
  have x2 := hx (L (2 : Int32)) n2
  obtain ⟨o1, o2, o3⟩ := O
  have o1 := o1 (by decide)
  have o2 := o2 (by decide)
  clear o3
  refine ⟨?_, ?_, ?_, ?_⟩
  · first | exact q | (simp only [zD] at q ⊢; simpa using q)
  · refine ⟨?_, ?_, ?_⟩
    · intro _
      simp [zD] at *
      omega
    · intro _
      simp [zD] at *
      omega
    · intro h; exact absurd h (by decide)
  · simp [zD] at *
    omega
  · intro j hj
    have z := zs hj (by decide)
    exact ⟨z.1, z.2⟩
theorem own_sd32_0 {A L : Int32 → Int32} {X X0 : Int32 → Int} {n num : Int32} (H : zZ A L n (3 : Int32) (2 : Int32) num) (O : zO (zD L (2 : Int32) num) X0 (3 : Int32)) (hx : ∀ j, j ≠ num → X0 j = X j) (hn : X num ≤ X0 num) :
    zY (zD A num (2 : Int32)) (zD L (2 : Int32) num) n (3 : Int32) ∧ zO (zD L (2 : Int32) num) X (3 : Int32) ∧ X ((zD L (2 : Int32) num) 0) ≤ X0 (zD L (2 : Int32) num 0) ∧ (∀ j, (zD A num (2 : Int32)) j = -1 → j ≠ num ∧ A j = -1) := by
  have q := zAH H ⟨by decide, by decide⟩
  have e : ∀ (L : Int32 → Int32) (h v j : Int32), j ≠ h → zD L h v j = L j := fun L h v j hj => by simp [zD, hj]
  have n0 := (H.p1 (0 : Int32) ⟨by decide, by decide⟩ (by decide)).2.2
  have n1 := (H.p1 (1 : Int32) ⟨by decide, by decide⟩ (by decide)).2.2
  have x0 := hx (L (0 : Int32)) n0
  have x1 := hx (L (1 : Int32)) n1
  obtain ⟨o1, o2, o3⟩ := O
  have o1 := o1 (by decide)
  have o2 := o2 (by decide)
  clear o3
  refine ⟨?_, ?_, ?_, ?_⟩
  · first | exact q | (simp only [zD] at q ⊢; simpa using q)
  · refine ⟨?_, ?_, ?_⟩
    · intro _
      simp [zD] at *
      omega
    · intro _
      simp [zD] at *
      omega
    · intro h; exact absurd h (by decide)
  · simp [zD] at *
    omega
  · intro j hj
    have z := zs hj (by decide)
    exact ⟨z.1, z.2⟩
theorem own_sd40_0 {A L : Int32 → Int32} {X X0 : Int32 → Int} {n num : Int32} (H : zZ A L n (4 : Int32) (0 : Int32) num) (O : zO (zD L (0 : Int32) num) X0 (4 : Int32)) (hx : ∀ j, j ≠ num → X0 j = X j) (hn : X num ≤ X0 num) (d0 : X (L (2 : Int32)) ≤ X (L (1 : Int32))) (d1 : X (L (1 : Int32)) ≤ X num) :
    zY (zD A num (0 : Int32)) (zD L (0 : Int32) num) n (4 : Int32) ∧ zO (zD L (0 : Int32) num) X (4 : Int32) ∧ X ((zD L (0 : Int32) num) 0) ≤ X0 (zD L (0 : Int32) num 0) ∧ (∀ j, (zD A num (0 : Int32)) j = -1 → j ≠ num ∧ A j = -1) := by
  have q := zAH H ⟨by decide, by decide⟩
  have e : ∀ (L : Int32 → Int32) (h v j : Int32), j ≠ h → zD L h v j = L j := fun L h v j hj => by simp [zD, hj]
  have n1 := (H.p1 (1 : Int32) ⟨by decide, by decide⟩ (by decide)).2.2
  have n2 := (H.p1 (2 : Int32) ⟨by decide, by decide⟩ (by decide)).2.2
  have n3 := (H.p1 (3 : Int32) ⟨by decide, by decide⟩ (by decide)).2.2
  have x1 := hx (L (1 : Int32)) n1
  have x2 := hx (L (2 : Int32)) n2
  have x3 := hx (L (3 : Int32)) n3
  obtain ⟨o1, o2, o3⟩ := O
  have o1 := o1 (by decide)
  have o2 := o2 (by decide)
  have o3 := o3 (by decide)
  refine ⟨?_, ?_, ?_, ?_⟩
  · first | exact q | (simp only [zD] at q ⊢; simpa using q)
  · refine ⟨?_, ?_, ?_⟩
    · intro _
      simp [zD] at *
      omega
    · intro _
      simp [zD] at *
      omega
    · intro _
      simp [zD] at *
      omega
  · simp [zD] at *
    omega
  · intro j hj
    have z := zs hj (by decide)
    exact ⟨z.1, z.2⟩
theorem own_sd40_1 {A L : Int32 → Int32} {X X0 : Int32 → Int} {n num : Int32} (H : zZ A L n (4 : Int32) (0 : Int32) num) (O : zO (zD L (0 : Int32) num) X0 (4 : Int32)) (hx : ∀ j, j ≠ num → X0 j = X j) (hn : X num ≤ X0 num) (d0 : X (L (2 : Int32)) ≤ X (L (1 : Int32))) (d1 : X num < X (L (1 : Int32))) (d2 : X (L (3 : Int32)) ≤ X num) :
    zY (zD (zD A (L (1 : Int32)) (0 : Int32)) num (1 : Int32)) (zD (zD L (0 : Int32) (L (1 : Int32))) (1 : Int32) num) n (4 : Int32) ∧ zO (zD (zD L (0 : Int32) (L (1 : Int32))) (1 : Int32) num) X (4 : Int32) ∧ X ((zD (zD L (0 : Int32) (L (1 : Int32))) (1 : Int32) num) 0) ≤ X0 (zD L (0 : Int32) num 0) ∧ (∀ j, (zD (zD A (L (1 : Int32)) (0 : Int32)) num (1 : Int32)) j = -1 → j ≠ num ∧ A j = -1) := by
  have q := zAH (zAm (ch := (1 : Int32)) H ⟨by decide, by decide⟩ (by decide) ⟨by decide, by decide⟩) ⟨by decide, by decide⟩
  have e : ∀ (L : Int32 → Int32) (h v j : Int32), j ≠ h → zD L h v j = L j := fun L h v j hj => by simp [zD, hj]
  have n1 := (H.p1 (1 : Int32) ⟨by decide, by decide⟩ (by decide)).2.2
  have n2 := (H.p1 (2 : Int32) ⟨by decide, by decide⟩ (by decide)).2.2
  have n3 := (H.p1 (3 : Int32) ⟨by decide, by decide⟩ (by decide)).2.2
  have x1 := hx (L (1 : Int32)) n1
  have x2 := hx (L (2 : Int32)) n2
  have x3 := hx (L (3 : Int32)) n3
  obtain ⟨o1, o2, o3⟩ := O
  have o1 := o1 (by decide)
  have o2 := o2 (by decide)
  have o3 := o3 (by decide)
  refine ⟨?_, ?_, ?_, ?_⟩
  · first | exact q | (simp only [zD] at q ⊢; simpa using q)
  · refine ⟨?_, ?_, ?_⟩
    · intro _
      simp [zD] at *
      omega
    · intro _
      simp [zD] at *
      omega
    · intro _
      simp [zD] at *
      omega
  · simp [zD] at *
    omega
  · intro j hj
    have z := zs hj (by decide)
    have z0 := zs z.2 (by decide)
    exact ⟨z.1, z0.2⟩
theorem own_sd40_2 {A L : Int32 → Int32} {X X0 : Int32 → Int} {n num : Int32} (H : zZ A L n (4 : Int32) (0 : Int32) num) (O : zO (zD L (0 : Int32) num) X0 (4 : Int32)) (hx : ∀ j, j ≠ num → X0 j = X j) (hn : X num ≤ X0 num) (d0 : X (L (2 : Int32)) ≤ X (L (1 : Int32))) (d1 : X num < X (L (1 : Int32))) (d2 : X num < X (L (3 : Int32))) :
    zY (zD (zD (zD A (L (1 : Int32)) (0 : Int32)) (L (3 : Int32)) (1 : Int32)) num (3 : Int32)) (zD (zD (zD L (0 : Int32) (L (1 : Int32))) (1 : Int32) (L (3 : Int32))) (3 : Int32) num) n (4 : Int32) ∧ zO (zD (zD (zD L (0 : Int32) (L (1 : Int32))) (1 : Int32) (L (3 : Int32))) (3 : Int32) num) X (4 : Int32) ∧ X ((zD (zD (zD L (0 : Int32) (L (1 : Int32))) (1 : Int32) (L (3 : Int32))) (3 : Int32) num) 0) ≤ X0 (zD L (0 : Int32) num 0) ∧ (∀ j, (zD (zD (zD A (L (1 : Int32)) (0 : Int32)) (L (3 : Int32)) (1 : Int32)) num (3 : Int32)) j = -1 → j ≠ num ∧ A j = -1) := by
  have q := zAH (zAm (ch := (3 : Int32)) (zAm (ch := (1 : Int32)) H ⟨by decide, by decide⟩ (by decide) ⟨by decide, by decide⟩) ⟨by decide, by decide⟩ (by decide) ⟨by decide, by decide⟩) ⟨by decide, by decide⟩
  have e : ∀ (L : Int32 → Int32) (h v j : Int32), j ≠ h → zD L h v j = L j := fun L h v j hj => by simp [zD, hj]
  have n1 := (H.p1 (1 : Int32) ⟨by decide, by decide⟩ (by decide)).2.2
  have n2 := (H.p1 (2 : Int32) ⟨by decide, by decide⟩ (by decide)).2.2
  have n3 := (H.p1 (3 : Int32) ⟨by decide, by decide⟩ (by decide)).2.2
  have x1 := hx (L (1 : Int32)) n1
  have x2 := hx (L (2 : Int32)) n2
  have x3 := hx (L (3 : Int32)) n3
  obtain ⟨o1, o2, o3⟩ := O
  have o1 := o1 (by decide)
  have o2 := o2 (by decide)
  have o3 := o3 (by decide)
  refine ⟨?_, ?_, ?_, ?_⟩
  · first | exact q | (simp only [zD] at q ⊢; simpa using q)
  · refine ⟨?_, ?_, ?_⟩
    · intro _
      simp [zD] at *
      omega
    · intro _
      simp [zD] at *
      omega
    · intro _
      simp [zD] at *
      omega
  · simp [zD] at *
    omega
  · intro j hj
    have z := zs hj (by decide)
    have z0 := zs z.2 (by decide)
    have z1 := zs z0.2 (by decide)
    exact ⟨z.1, z1.2⟩
theorem own_sd40_3 {A L : Int32 → Int32} {X X0 : Int32 → Int} {n num : Int32} (H : zZ A L n (4 : Int32) (0 : Int32) num) (O : zO (zD L (0 : Int32) num) X0 (4 : Int32)) (hx : ∀ j, j ≠ num → X0 j = X j) (hn : X num ≤ X0 num) (d0 : X (L (1 : Int32)) < X (L (2 : Int32))) (d1 : X (L (2 : Int32)) ≤ X num) :
    zY (zD A num (0 : Int32)) (zD L (0 : Int32) num) n (4 : Int32) ∧ zO (zD L (0 : Int32) num) X (4 : Int32) ∧ X ((zD L (0 : Int32) num) 0) ≤ X0 (zD L (0 : Int32) num 0) ∧ (∀ j, (zD A num (0 : Int32)) j = -1 → j ≠ num ∧ A j = -1) := by
  have q := zAH H ⟨by decide, by decide⟩
  have e : ∀ (L : Int32 → Int32) (h v j : Int32), j ≠ h → zD L h v j = L j := fun L h v j hj => by simp [zD, hj]
  have n1 := (H.p1 (1 : Int32) ⟨by decide, by decide⟩ (by decide)).2.2
  have n2 := (H.p1 (2 : Int32) ⟨by decide, by decide⟩ (by decide)).2.2
  have n3 := (H.p1 (3 : Int32) ⟨by decide, by decide⟩ (by decide)).2.2
  have x1 := hx (L (1 : Int32)) n1
  have x2 := hx (L (2 : Int32)) n2
  have x3 := hx (L (3 : Int32)) n3
  obtain ⟨o1, o2, o3⟩ := O
  have o1 := o1 (by decide)
  have o2 := o2 (by decide)
  have o3 := o3 (by decide)
  refine ⟨?_, ?_, ?_, ?_⟩
  · first | exact q | (simp only [zD] at q ⊢; simpa using q)
  · refine ⟨?_, ?_, ?_⟩
    · intro _
      simp [zD] at *
      omega
    · intro _
      simp [zD] at *
      omega
    · intro _
      simp [zD] at *
      omega
  · simp [zD] at *
    omega
  · intro j hj
    have z := zs hj (by decide)
    exact ⟨z.1, z.2⟩
theorem own_sd40_4 {A L : Int32 → Int32} {X X0 : Int32 → Int} {n num : Int32} (H : zZ A L n (4 : Int32) (0 : Int32) num) (O : zO (zD L (0 : Int32) num) X0 (4 : Int32)) (hx : ∀ j, j ≠ num → X0 j = X j) (hn : X num ≤ X0 num) (d0 : X (L (1 : Int32)) < X (L (2 : Int32))) (d1 : X num < X (L (2 : Int32))) :
    zY (zD (zD A (L (2 : Int32)) (0 : Int32)) num (2 : Int32)) (zD (zD L (0 : Int32) (L (2 : Int32))) (2 : Int32) num) n (4 : Int32) ∧ zO (zD (zD L (0 : Int32) (L (2 : Int32))) (2 : Int32) num) X (4 : Int32) ∧ X ((zD (zD L (0 : Int32) (L (2 : Int32))) (2 : Int32) num) 0) ≤ X0 (zD L (0 : Int32) num 0) ∧ (∀ j, (zD (zD A (L (2 : Int32)) (0 : Int32)) num (2 : Int32)) j = -1 → j ≠ num ∧ A j = -1) := by
  have q := zAH (zAm (ch := (2 : Int32)) H ⟨by decide, by decide⟩ (by decide) ⟨by decide, by decide⟩) ⟨by decide, by decide⟩
  have e : ∀ (L : Int32 → Int32) (h v j : Int32), j ≠ h → zD L h v j = L j := fun L h v j hj => by simp [zD, hj]
  have n1 := (H.p1 (1 : Int32) ⟨by decide, by decide⟩ (by decide)).2.2
  have n2 := (H.p1 (2 : Int32) ⟨by decide, by decide⟩ (by decide)).2.2
  have n3 := (H.p1 (3 : Int32) ⟨by decide, by decide⟩ (by decide)).2.2
  have x1 := hx (L (1 : Int32)) n1
  have x2 := hx (L (2 : Int32)) n2
  have x3 := hx (L (3 : Int32)) n3
  obtain ⟨o1, o2, o3⟩ := O
  have o1 := o1 (by decide)
  have o2 := o2 (by decide)
  have o3 := o3 (by decide)
  refine ⟨?_, ?_, ?_, ?_⟩
  · first | exact q | (simp only [zD] at q ⊢; simpa using q)
  · refine ⟨?_, ?_, ?_⟩
    · intro _
      simp [zD] at *
      omega
    · intro _
      simp [zD] at *
      omega
    · intro _
      simp [zD] at *
      omega
  · simp [zD] at *
    omega
  · intro j hj
    have z := zs hj (by decide)
    have z0 := zs z.2 (by decide)
    exact ⟨z.1, z0.2⟩
theorem own_sd41_0 {A L : Int32 → Int32} {X X0 : Int32 → Int} {n num : Int32} (H : zZ A L n (4 : Int32) (1 : Int32) num) (O : zO (zD L (1 : Int32) num) X0 (4 : Int32)) (hx : ∀ j, j ≠ num → X0 j = X j) (hn : X num ≤ X0 num) (d0 : X (L (3 : Int32)) ≤ X num) :
    zY (zD A num (1 : Int32)) (zD L (1 : Int32) num) n (4 : Int32) ∧ zO (zD L (1 : Int32) num) X (4 : Int32) ∧ X ((zD L (1 : Int32) num) 0) ≤ X0 (zD L (1 : Int32) num 0) ∧ (∀ j, (zD A num (1 : Int32)) j = -1 → j ≠ num ∧ A j = -1) := by
  have q := zAH H ⟨by decide, by decide⟩
  have e : ∀ (L : Int32 → Int32) (h v j : Int32), j ≠ h → zD L h v j = L j := fun L h v j hj => by simp [zD, hj]
  have n0 := (H.p1 (0 : Int32) ⟨by decide, by decide⟩ (by decide)).2.2
  have n2 := (H.p1 (2 : Int32) ⟨by decide, by decide⟩ (by decide)).2.2
  have n3 := (H.p1 (3 : Int32) ⟨by decide, by decide⟩ (by decide)).2.2
  have x0 := hx (L (0 : Int32)) n0
  have x2 := hx (L (2 : Int32)) n2
  have x3 := hx (L (3 : Int32)) n3
  obtain ⟨o1, o2, o3⟩ := O
  have o1 := o1 (by decide)
  have o2 := o2 (by decide)
  have o3 := o3 (by decide)
  refine ⟨?_, ?_, ?_, ?_⟩
  · first | exact q | (simp only [zD] at q ⊢; simpa using q)
  · refine ⟨?_, ?_, ?_⟩
    · intro _
      simp [zD] at *
      omega
    · intro _
      simp [zD] at *
      omega
    · intro _
      simp [zD] at *
      omega
  · simp [zD] at *
    omega
  · intro j hj
    have z := zs hj (by decide)
    exact ⟨z.1, z.2⟩
theorem own_sd41_1 {A L : Int32 → Int32} {X X0 : Int32 → Int} {n num : Int32} (H : zZ A L n (4 : Int32) (1 : Int32) num) (O : zO (zD L (1 : Int32) num) X0 (4 : Int32)) (hx : ∀ j, j ≠ num → X0 j = X j) (hn : X num ≤ X0 num) (d0 : X num < X (L (3 : Int32))) :
    zY (zD (zD A (L (3 : Int32)) (1 : Int32)) num (3 : Int32)) (zD (zD L (1 : Int32) (L (3 : Int32))) (3 : Int32) num) n (4 : Int32) ∧ zO (zD (zD L (1 : Int32) (L (3 : Int32))) (3 : Int32) num) X (4 : Int32) ∧ X ((zD (zD L (1 : Int32) (L (3 : Int32))) (3 : Int32) num) 0) ≤ X0 (zD L (1 : Int32) num 0) ∧ (∀ j, (zD (zD A (L (3 : Int32)) (1 : Int32)) num (3 : Int32)) j = -1 → j ≠ num ∧ A j = -1) := by
  have q := zAH (zAm (ch := (3 : Int32)) H ⟨by decide, by decide⟩ (by decide) ⟨by decide, by decide⟩) ⟨by decide, by decide⟩
  have e : ∀ (L : Int32 → Int32) (h v j : Int32), j ≠ h → zD L h v j = L j := fun L h v j hj => by simp [zD, hj]
  have n0 := (H.p1 (0 : Int32) ⟨by decide, by decide⟩ (by decide)).2.2
  have n2 := (H.p1 (2 : Int32) ⟨by decide, by decide⟩ (by decide)).2.2
  have n3 := (H.p1 (3 : Int32) ⟨by decide, by decide⟩ (by decide)).2.2
  have x0 := hx (L (0 : Int32)) n0
  have x2 := hx (L (2 : Int32)) n2
  have x3 := hx (L (3 : Int32)) n3
  obtain ⟨o1, o2, o3⟩ := O
  have o1 := o1 (by decide)
  have o2 := o2 (by decide)
  have o3 := o3 (by decide)
  refine ⟨?_, ?_, ?_, ?_⟩
  · first | exact q | (simp only [zD] at q ⊢; simpa using q)
  · refine ⟨?_, ?_, ?_⟩
    · intro _
      simp [zD] at *
      omega
    · intro _
      simp [zD] at *
      omega
    · intro _
      simp [zD] at *
      omega
  · simp [zD] at *
    omega
  · intro j hj
    have z := zs hj (by decide)
    have z0 := zs z.2 (by decide)
    exact ⟨z.1, z0.2⟩
theorem own_sd42_0 {A L : Int32 → Int32} {X X0 : Int32 → Int} {n num : Int32} (H : zZ A L n (4 : Int32) (2 : Int32) num) (O : zO (zD L (2 : Int32) num) X0 (4 : Int32)) (hx : ∀ j, j ≠ num → X0 j = X j) (hn : X num ≤ X0 num) :
    zY (zD A num (2 : Int32)) (zD L (2 : Int32) num) n (4 : Int32) ∧ zO (zD L (2 : Int32) num) X (4 : Int32) ∧ X ((zD L (2 : Int32) num) 0) ≤ X0 (zD L (2 : Int32) num 0) ∧ (∀ j, (zD A num (2 : Int32)) j = -1 → j ≠ num ∧ A j = -1) := by
  have q := zAH H ⟨by decide, by decide⟩
  have e : ∀ (L : Int32 → Int32) (h v j : Int32), j ≠ h → zD L h v j = L j := fun L h v j hj => by simp [zD, hj]
  have n0 := (H.p1 (0 : Int32) ⟨by decide, by decide⟩ (by decide)).2.2
  have n1 := (H.p1 (1 : Int32) ⟨by decide, by decide⟩ (by decide)).2.2
  have n3 := (H.p1 (3 : Int32) ⟨by decide, by decide⟩ (by decide)).2.2
  have x0 := hx (L (0 : Int32)) n0
  have x1 := hx (L (1 : Int32)) n1
  have x3 := hx (L (3 : Int32)) n3
  obtain ⟨o1, o2, o3⟩ := O
  have o1 := o1 (by decide)
  have o2 := o2 (by decide)
  have o3 := o3 (by decide)
  refine ⟨?_, ?_, ?_, ?_⟩
  · first | exact q | (simp only [zD] at q ⊢; simpa using q)
  · refine ⟨?_, ?_, ?_⟩
    · intro _
      simp [zD] at *
      omega
    · intro _
      simp [zD] at *
      omega
    · intro _
      simp [zD] at *
      omega
  · simp [zD] at *
    omega
  · intro j hj
    have z := zs hj (by decide)
    exact ⟨z.1, z.2⟩
theorem own_sd43_0 {A L : Int32 → Int32} {X X0 : Int32 → Int} {n num : Int32} (H : zZ A L n (4 : Int32) (3 : Int32) num) (O : zO (zD L (3 : Int32) num) X0 (4 : Int32)) (hx : ∀ j, j ≠ num → X0 j = X j) (hn : X num ≤ X0 num) :
    zY (zD A num (3 : Int32)) (zD L (3 : Int32) num) n (4 : Int32) ∧ zO (zD L (3 : Int32) num) X (4 : Int32) ∧ X ((zD L (3 : Int32) num) 0) ≤ X0 (zD L (3 : Int32) num 0) ∧ (∀ j, (zD A num (3 : Int32)) j = -1 → j ≠ num ∧ A j = -1) := by
  have q := zAH H ⟨by decide, by decide⟩
  have e : ∀ (L : Int32 → Int32) (h v j : Int32), j ≠ h → zD L h v j = L j := fun L h v j hj => by simp [zD, hj]
  have n0 := (H.p1 (0 : Int32) ⟨by decide, by decide⟩ (by decide)).2.2
  have n1 := (H.p1 (1 : Int32) ⟨by decide, by decide⟩ (by decide)).2.2
  have n2 := (H.p1 (2 : Int32) ⟨by decide, by decide⟩ (by decide)).2.2
  have x0 := hx (L (0 : Int32)) n0
  have x1 := hx (L (1 : Int32)) n1
  have x2 := hx (L (2 : Int32)) n2
  obtain ⟨o1, o2, o3⟩ := O
  have o1 := o1 (by decide)
  have o2 := o2 (by decide)
  have o3 := o3 (by decide)
  refine ⟨?_, ?_, ?_, ?_⟩
  · first | exact q | (simp only [zD] at q ⊢; simpa using q)
  · refine ⟨?_, ?_, ?_⟩
    · intro _
      simp [zD] at *
      omega
    · intro _
      simp [zD] at *
      omega
    · intro _
      simp [zD] at *
      omega
  · simp [zD] at *
    omega
  · intro j hj
    have z := zs hj (by decide)
    exact ⟨z.1, z.2⟩
theorem own_su0_0 {A L : Int32 → Int32} {X : Int32 → Int} {n num : Int32} (H : zZ A L n (1 : Int32) (0 : Int32) num) (O : zO L X (0 : Int32)) :
    zY (zD A num (0 : Int32)) (zD L (0 : Int32) num) n (1 : Int32) ∧ zO (zD L (0 : Int32) num) X (1 : Int32) ∧ (∀ j, (zD A num (0 : Int32)) j = -1 → j ≠ num ∧ A j = -1) := by
  have q := zAH H ⟨by decide, by decide⟩
  have e : ∀ (L : Int32 → Int32) (h v j : Int32), j ≠ h → zD L h v j = L j := fun L h v j hj => by simp [zD, hj]
  obtain ⟨o1, o2, o3⟩ := O
  clear o1
  clear o2
  clear o3
  refine ⟨?_, ?_, ?_⟩
  · first | exact q | (simp only [zD] at q ⊢; simpa using q)
  · refine ⟨?_, ?_, ?_⟩
    · intro h; exact absurd h (by decide)
    · intro h; exact absurd h (by decide)
    · intro h; exact absurd h (by decide)
  · intro j hj
    have z := zs hj (by decide)
    exact ⟨z.1, z.2⟩
theorem own_su1_0 {A L : Int32 → Int32} {X : Int32 → Int} {n num : Int32} (H : zZ A L n (2 : Int32) (1 : Int32) num) (O : zO L X (1 : Int32)) (d0 : X num ≤ X (L (0 : Int32))) :
    zY (zD A num (1 : Int32)) (zD L (1 : Int32) num) n (2 : Int32) ∧ zO (zD L (1 : Int32) num) X (2 : Int32) ∧ (∀ j, (zD A num (1 : Int32)) j = -1 → j ≠ num ∧ A j = -1) := by
  have q := zAH H ⟨by decide, by decide⟩
  have e : ∀ (L : Int32 → Int32) (h v j : Int32), j ≠ h → zD L h v j = L j := fun L h v j hj => by simp [zD, hj]
  have n0 := (H.p1 (0 : Int32) ⟨by decide, by decide⟩ (by decide)).2.2
  obtain ⟨o1, o2, o3⟩ := O
  clear o1
  clear o2
  clear o3
  refine ⟨?_, ?_, ?_⟩
  · first | exact q | (simp only [zD] at q ⊢; simpa using q)
  · refine ⟨?_, ?_, ?_⟩
    · intro _
      simp [zD] at *
      omega
    · intro h; exact absurd h (by decide)
    · intro h; exact absurd h (by decide)
  · intro j hj
    have z := zs hj (by decide)
    exact ⟨z.1, z.2⟩
theorem own_su1_1 {A L : Int32 → Int32} {X : Int32 → Int} {n num : Int32} (H : zZ A L n (2 : Int32) (1 : Int32) num) (O : zO L X (1 : Int32)) (d0 : X (L (0 : Int32)) < X num) :
    zY (zD (zD A (L (0 : Int32)) (1 : Int32)) num (0 : Int32)) (zD (zD L (1 : Int32) (L (0 : Int32))) (0 : Int32) num) n (2 : Int32) ∧ zO (zD (zD L (1 : Int32) (L (0 : Int32))) (0 : Int32) num) X (2 : Int32) ∧ (∀ j, (zD (zD A (L (0 : Int32)) (1 : Int32)) num (0 : Int32)) j = -1 → j ≠ num ∧ A j = -1) := by
  have q := zAH (zAm (ch := (0 : Int32)) H ⟨by decide, by decide⟩ (by decide) ⟨by decide, by decide⟩) ⟨by decide, by decide⟩
  have e : ∀ (L : Int32 → Int32) (h v j : Int32), j ≠ h → zD L h v j = L j := fun L h v j hj => by simp [zD, hj]
  have n0 := (H.p1 (0 : Int32) ⟨by decide, by decide⟩ (by decide)).2.2
  obtain ⟨o1, o2, o3⟩ := O
  clear o1
  clear o2
  clear o3
  refine ⟨?_, ?_, ?_⟩
  · first | exact q | (simp only [zD] at q ⊢; simpa using q)
  · refine ⟨?_, ?_, ?_⟩
    · intro _
      simp [zD] at *
      omega
    · intro h; exact absurd h (by decide)
    · intro h; exact absurd h (by decide)
  · intro j hj
    have z := zs hj (by decide)
    have z0 := zs z.2 (by decide)
    exact ⟨z.1, z0.2⟩
theorem own_su2_0 {A L : Int32 → Int32} {X : Int32 → Int} {n num : Int32} (H : zZ A L n (3 : Int32) (2 : Int32) num) (O : zO L X (2 : Int32)) (d0 : X num ≤ X (L (0 : Int32))) :
    zY (zD A num (2 : Int32)) (zD L (2 : Int32) num) n (3 : Int32) ∧ zO (zD L (2 : Int32) num) X (3 : Int32) ∧ (∀ j, (zD A num (2 : Int32)) j = -1 → j ≠ num ∧ A j = -1) := by
  have q := zAH H ⟨by decide, by decide⟩
  have e : ∀ (L : Int32 → Int32) (h v j : Int32), j ≠ h → zD L h v j = L j := fun L h v j hj => by simp [zD, hj]
  have n0 := (H.p1 (0 : Int32) ⟨by decide, by decide⟩ (by decide)).2.2
  have n1 := (H.p1 (1 : Int32) ⟨by decide, by decide⟩ (by decide)).2.2
  obtain ⟨o1, o2, o3⟩ := O
  have o1 := o1 (by decide)
  clear o2
  clear o3
  refine ⟨?_, ?_, ?_⟩
  · first | exact q | (simp only [zD] at q ⊢; simpa using q)
  · refine ⟨?_, ?_, ?_⟩
    · intro _
      simp [zD] at *
      omega
    · intro _
      simp [zD] at *
      omega
    · intro h; exact absurd h (by decide)
  · intro j hj
    have z := zs hj (by decide)
    exact ⟨z.1, z.2⟩
theorem own_su2_1 {A L : Int32 → Int32} {X : Int32 → Int} {n num : Int32} (H : zZ A L n (3 : Int32) (2 : Int32) num) (O : zO L X (2 : Int32)) (d0 : X (L (0 : Int32)) < X num) :
    zY (zD (zD A (L (0 : Int32)) (2 : Int32)) num (0 : Int32)) (zD (zD L (2 : Int32) (L (0 : Int32))) (0 : Int32) num) n (3 : Int32) ∧ zO (zD (zD L (2 : Int32) (L (0 : Int32))) (0 : Int32) num) X (3 : Int32) ∧ (∀ j, (zD (zD A (L (0 : Int32)) (2 : Int32)) num (0 : Int32)) j = -1 → j ≠ num ∧ A j = -1) := by
  have q := zAH (zAm (ch := (0 : Int32)) H ⟨by decide, by decide⟩ (by decide) ⟨by decide, by decide⟩) ⟨by decide, by decide⟩
  have e : ∀ (L : Int32 → Int32) (h v j : Int32), j ≠ h → zD L h v j = L j := fun L h v j hj => by simp [zD, hj]
  have n0 := (H.p1 (0 : Int32) ⟨by decide, by decide⟩ (by decide)).2.2
  have n1 := (H.p1 (1 : Int32) ⟨by decide, by decide⟩ (by decide)).2.2
  obtain ⟨o1, o2, o3⟩ := O
  have o1 := o1 (by decide)
  clear o2
  clear o3
  refine ⟨?_, ?_, ?_⟩
  · first | exact q | (simp only [zD] at q ⊢; simpa using q)
  · refine ⟨?_, ?_, ?_⟩
    · intro _
      simp [zD] at *
      omega
    · intro _
      simp [zD] at *
      omega
    · intro h; exact absurd h (by decide)
  · intro j hj
    have z := zs hj (by decide)
    have z0 := zs z.2 (by decide)
    exact ⟨z.1, z0.2⟩
theorem own_su3_0 {A L : Int32 → Int32} {X : Int32 → Int} {n num : Int32} (H : zZ A L n (4 : Int32) (3 : Int32) num) (O : zO L X (3 : Int32)) (d0 : X num ≤ X (L (1 : Int32))) :
    zY (zD A num (3 : Int32)) (zD L (3 : Int32) num) n (4 : Int32) ∧ zO (zD L (3 : Int32) num) X (4 : Int32) ∧ (∀ j, (zD A num (3 : Int32)) j = -1 → j ≠ num ∧ A j = -1) := by
  have q := zAH H ⟨by decide, by decide⟩
  have e : ∀ (L : Int32 → Int32) (h v j : Int32), j ≠ h → zD L h v j = L j := fun L h v j hj => by simp [zD, hj]
  have n0 := (H.p1 (0 : Int32) ⟨by decide, by decide⟩ (by decide)).2.2
  have n1 := (H.p1 (1 : Int32) ⟨by decide, by decide⟩ (by decide)).2.2
  have n2 := (H.p1 (2 : Int32) ⟨by decide, by decide⟩ (by decide)).2.2
  obtain ⟨o1, o2, o3⟩ := O
  have o1 := o1 (by decide)
  have o2 := o2 (by decide)
  clear o3
  refine ⟨?_, ?_, ?_⟩
  · first | exact q | (simp only [zD] at q ⊢; simpa using q)
  · refine ⟨?_, ?_, ?_⟩
    · intro _
      simp [zD] at *
      omega
    · intro _
      simp [zD] at *
      omega
    · intro _
      simp [zD] at *
      omega
  · intro j hj
    have z := zs hj (by decide)
    exact ⟨z.1, z.2⟩
theorem own_su3_1 {A L : Int32 → Int32} {X : Int32 → Int} {n num : Int32} (H : zZ A L n (4 : Int32) (3 : Int32) num) (O : zO L X (3 : Int32)) (d0 : X (L (1 : Int32)) < X num) (d1 : X num ≤ X (L (0 : Int32))) :
    zY (zD (zD A (L (1 : Int32)) (3 : Int32)) num (1 : Int32)) (zD (zD L (3 : Int32) (L (1 : Int32))) (1 : Int32) num) n (4 : Int32) ∧ zO (zD (zD L (3 : Int32) (L (1 : Int32))) (1 : Int32) num) X (4 : Int32) ∧ (∀ j, (zD (zD A (L (1 : Int32)) (3 : Int32)) num (1 : Int32)) j = -1 → j ≠ num ∧ A j = -1) := by
  have q := zAH (zAm (ch := (1 : Int32)) H ⟨by decide, by decide⟩ (by decide) ⟨by decide, by decide⟩) ⟨by decide, by decide⟩
  have e : ∀ (L : Int32 → Int32) (h v j : Int32), j ≠ h → zD L h v j = L j := fun L h v j hj => by simp [zD, hj]
  have n0 := (H.p1 (0 : Int32) ⟨by decide, by decide⟩ (by decide)).2.2
  have n1 := (H.p1 (1 : Int32) ⟨by decide, by decide⟩ (by decide)).2.2
  have n2 := (H.p1 (2 : Int32) ⟨by decide, by decide⟩ (by decide)).2.2
  obtain ⟨o1, o2, o3⟩ := O
  have o1 := o1 (by decide)
  have o2 := o2 (by decide)
  clear o3
  refine ⟨?_, ?_, ?_⟩
  · first | exact q | (simp only [zD] at q ⊢; simpa using q)
  · refine ⟨?_, ?_, ?_⟩
    · intro _
      simp [zD] at *
      omega
    · intro _
      simp [zD] at *
      omega
    · intro _
      simp [zD] at *
      omega
  · intro j hj
    have z := zs hj (by decide)
    have z0 := zs z.2 (by decide)
    exact ⟨z.1, z0.2⟩
theorem own_su3_2 {A L : Int32 → Int32} {X : Int32 → Int} {n num : Int32} (H : zZ A L n (4 : Int32) (3 : Int32) num) (O : zO L X (3 : Int32)) (d0 : X (L (1 : Int32)) < X num) (d1 : X (L (0 : Int32)) < X num) :
    zY (zD (zD (zD A (L (1 : Int32)) (3 : Int32)) (L (0 : Int32)) (1 : Int32)) num (0 : Int32)) (zD (zD (zD L (3 : Int32) (L (1 : Int32))) (1 : Int32) (L (0 : Int32))) (0 : Int32) num) n (4 : Int32) ∧ zO (zD (zD (zD L (3 : Int32) (L (1 : Int32))) (1 : Int32) (L (0 : Int32))) (0 : Int32) num) X (4 : Int32) ∧ (∀ j, (zD (zD (zD A (L (1 : Int32)) (3 : Int32)) (L (0 : Int32)) (1 : Int32)) num (0 : Int32)) j = -1 → j ≠ num ∧ A j = -1) := by
  have q := zAH (zAm (ch := (0 : Int32)) (zAm (ch := (1 : Int32)) H ⟨by decide, by decide⟩ (by decide) ⟨by decide, by decide⟩) ⟨by decide, by decide⟩ (by decide) ⟨by decide, by decide⟩) ⟨by decide, by decide⟩
  have e : ∀ (L : Int32 → Int32) (h v j : Int32), j ≠ h → zD L h v j = L j := fun L h v j hj => by simp [zD, hj]
  have n0 := (H.p1 (0 : Int32) ⟨by decide, by decide⟩ (by decide)).2.2
  have n1 := (H.p1 (1 : Int32) ⟨by decide, by decide⟩ (by decide)).2.2
  have n2 := (H.p1 (2 : Int32) ⟨by decide, by decide⟩ (by decide)).2.2
  obtain ⟨o1, o2, o3⟩ := O
  have o1 := o1 (by decide)
  have o2 := o2 (by decide)
  clear o3
  refine ⟨?_, ?_, ?_⟩
  · first | exact q | (simp only [zD] at q ⊢; simpa using q)
  · refine ⟨?_, ?_, ?_⟩
    · intro _
      simp [zD] at *
      omega
    · intro _
      simp [zD] at *
      omega
    · intro _
      simp [zD] at *
      omega
  · intro j hj
    have z := zs hj (by decide)
    have z0 := zs z.2 (by decide)
    have z1 := zs z0.2 (by decide)
    exact ⟨z.1, z1.2⟩
end OwnPure
section OwnHeap5
open Jvm.Free Jvm.Stand Jvm.LawKit Jvm.RoadKit
variable {p : Program} {l : Launch} {e : Env} {R : Room} {s : State} {m : MethodId} {args : Array Value} {below : List Frame} {meth : Method} {c : Code} {T : State} {Z : State} {a0 : Array Value} {hb : zU} {cs : List (Addr × zr)} {k n : Nat}
def ze (B : Int32 → UInt64) (l : Int32) (v : UInt64) : Int32 → UInt64 := fun j => if j = l then v else B j
def zW (B : Int32 → Int64) (l : Int32) (v : Int64) : Int32 → Int64 := fun j => if j = l then v else B j
def zE (A : Int32 → Int32) : List Value := [.int (A 0), .int (A 1), .int (A 2), .int (A 3), .int 0, .int 0, .int 0, .int 0]
def zK (B : Int32 → UInt64) : List Value := [.double (B 0), .double (B 1), .double (B 2), .double (B 3), .double 0, .double 0, .double 0, .double 0]
def zAE (B : Int32 → Int64) : List Value := [.long (B 0), .long (B 1), .long (B 2), .long (B 3)]
theorem zAn {j : Int32} (h : zG 4 j) : j = 0 ∨ j = 1 ∨ j = 2 ∨ j = 3 := by
  have h1 : (0 : Int32).toInt ≤ j.toInt := Int32.le_iff_toInt_le.mp h.1
  have h2 : j.toInt < (4 : Int32).toInt := Int32.lt_iff_toInt_lt.mp h.2
  have z0 : (0 : Int32).toInt = 0 := rfl
  have z4 : (4 : Int32).toInt = 4 := rfl
  have q : j.toInt = 0 ∨ j.toInt = 1 ∨ j.toInt = 2 ∨ j.toInt = 3 := by omega
  rcases q with q | q | q | q
  · exact Or.inl (Int32.toInt_inj.mp q)
  · exact Or.inr (Or.inl (Int32.toInt_inj.mp q))
  · exact Or.inr (Or.inr (Or.inl (Int32.toInt_inj.mp q)))
  · exact Or.inr (Or.inr (Or.inr (Int32.toInt_inj.mp q)))
theorem zf (H : zR p l e R s m args below meth c Z a0 hb T cs k n) (hx : p.tables.exec = Jvm.exec) (hZ : Z.Warmed39 s.vm) {x : Addr} {A : Int32 → Int32} {j w : Int32} (i : Nat) (hi : cs[i]? = some (x, zA .int (zE A))) (hj : zG 4 j) (hv : A j = w)
    {g : JFrame} (hg : g.method = m) {rest : List Value} (hs : g.stack = .int j :: .ref x :: rest) (hd : decode c.code g.pc = .ok (.iaload, 1)) :
    ∀ target, Steps p.tables e below (T.setTop { g with pc := g.pc + 1, stack := .int w :: rest }) target → Steps p.tables e below (T.setTop g) target := by
  subst hv
  rcases zAn hj with rfl | rfl | rfl | rfl
  · exact zAF H hx hZ i 0 hi (by decide) rfl hg hs hd
  · exact zAF H hx hZ i 1 hi (by decide) rfl hg hs hd
  · exact zAF H hx hZ i 2 hi (by decide) rfl hg hs hd
  · exact zAF H hx hZ i 3 hi (by decide) rfl hg hs hd
theorem zd (H : zR p l e R s m args below meth c Z a0 hb T cs k n) (hx : p.tables.exec = Jvm.exec) (hZ : Z.Warmed39 s.vm) {x : Addr} {A : Int32 → UInt64} {j : Int32} {w : UInt64} (i : Nat) (hi : cs[i]? = some (x, zA .double (zK A))) (hj : zG 4 j) (hv : A j = w)
    {g : JFrame} (hg : g.method = m) {rest : List Value} (hs : g.stack = .int j :: .ref x :: rest) (hd : decode c.code g.pc = .ok (.daload, 1)) :
    ∀ target, Steps p.tables e below (T.setTop { g with pc := g.pc + 1, stack := .double w :: rest }) target → Steps p.tables e below (T.setTop g) target := by
  subst hv
  rcases zAn hj with rfl | rfl | rfl | rfl
  · exact zCl H hx hZ i 0 hi (by decide) rfl hg hs hd
  · exact zCl H hx hZ i 1 hi (by decide) rfl hg hs hd
  · exact zCl H hx hZ i 2 hi (by decide) rfl hg hs hd
  · exact zCl H hx hZ i 3 hi (by decide) rfl hg hs hd
theorem zAy (H : zR p l e R s m args below meth c Z a0 hb T cs k n) (hx : p.tables.exec = Jvm.exec) (hZ : Z.Warmed39 s.vm) {x : Addr} {A : Int32 → Int64} {j : Int32} {w : Int64} (i : Nat) (hi : cs[i]? = some (x, zA .long (zAE A))) (hj : zG 4 j) (hv : A j = w)
    {g : JFrame} (hg : g.method = m) {rest : List Value} (hs : g.stack = .int j :: .ref x :: rest) (hd : decode c.code g.pc = .ok (.laload, 1)) :
    ∀ target, Steps p.tables e below (T.setTop { g with pc := g.pc + 1, stack := .long w :: rest }) target → Steps p.tables e below (T.setTop g) target := by
  subst hv
  rcases zAn hj with rfl | rfl | rfl | rfl
  · exact zv H hx hZ i 0 hi (by decide) rfl hg hs hd
  · exact zv H hx hZ i 1 hi (by decide) rfl hg hs hd
  · exact zv H hx hZ i 2 hi (by decide) rfl hg hs hd
  · exact zv H hx hZ i 3 hi (by decide) rfl hg hs hd
theorem zAs (H : zR p l e R s m args below meth c Z a0 hb T cs k n) (hx : p.tables.exec = Jvm.exec) (hZ : Z.Warmed39 s.vm) {x : Addr} {A : Int32 → Int32} {j v : Int32} (i : Nat) (hi : cs[i]? = some (x, zA .int (zE A))) (hj : zG 4 j)
    {g : JFrame} (hg : g.method = m) {rest : List Value} (hs : g.stack = .int v :: .int j :: .ref x :: rest) (hd : decode c.code g.pc = .ok (.iastore, 1)) :
    ∃ T', zR p l e R s m args below meth c Z a0 hb T' (cs.set i (x, zA .int (zE (zD A j v)))) k n ∧ ∀ target, Steps p.tables e below (T'.setTop { g with pc := g.pc + 1, stack := rest }) target → Steps p.tables e below (T.setTop g) target := by
  rcases zAn hj with rfl | rfl | rfl | rfl
  · obtain ⟨T', H', st⟩ := zBZ H hx hZ i 0 hi (by decide) (Nat.le_of_ble_eq_true rfl) hg hs hd
    exact ⟨T', by have e : (zE A).set 0 (.int v) = zE (zD A 0 v) := by simp [zE, zD]
                  rw [e] at H'; exact H', st⟩
  · obtain ⟨T', H', st⟩ := zBZ H hx hZ i 1 hi (by decide) (Nat.le_of_ble_eq_true rfl) hg hs hd
    exact ⟨T', by have e : (zE A).set 1 (.int v) = zE (zD A 1 v) := by simp [zE, zD]
                  rw [e] at H'; exact H', st⟩
  · obtain ⟨T', H', st⟩ := zBZ H hx hZ i 2 hi (by decide) (Nat.le_of_ble_eq_true rfl) hg hs hd
    exact ⟨T', by have e : (zE A).set 2 (.int v) = zE (zD A 2 v) := by simp [zE, zD]
                  rw [e] at H'; exact H', st⟩
  · obtain ⟨T', H', st⟩ := zBZ H hx hZ i 3 hi (by decide) (Nat.le_of_ble_eq_true rfl) hg hs hd
    exact ⟨T', by have e : (zE A).set 3 (.int v) = zE (zD A 3 v) := by simp [zE, zD]
                  rw [e] at H'; exact H', st⟩
theorem zBL (H : zR p l e R s m args below meth c Z a0 hb T cs k n) (hx : p.tables.exec = Jvm.exec) (hZ : Z.Warmed39 s.vm) {x : Addr} {A : Int32 → UInt64} {j : Int32} {v : UInt64} (i : Nat) (hi : cs[i]? = some (x, zA .double (zK A))) (hj : zG 4 j)
    {g : JFrame} (hg : g.method = m) {rest : List Value} (hs : g.stack = .double v :: .int j :: .ref x :: rest) (hd : decode c.code g.pc = .ok (.dastore, 1)) :
    ∃ T', zR p l e R s m args below meth c Z a0 hb T' (cs.set i (x, zA .double (zK (ze A j v)))) k n ∧ ∀ target, Steps p.tables e below (T'.setTop { g with pc := g.pc + 1, stack := rest }) target → Steps p.tables e below (T.setTop g) target := by
  rcases zAn hj with rfl | rfl | rfl | rfl
  · obtain ⟨T', H', st⟩ := zCm H hx hZ i 0 hi (by decide) (Nat.le_of_ble_eq_true rfl) hg hs hd
    exact ⟨T', by have e : (zK A).set 0 (.double v) = zK (ze A 0 v) := by simp [zK, ze]
                  rw [e] at H'; exact H', st⟩
  · obtain ⟨T', H', st⟩ := zCm H hx hZ i 1 hi (by decide) (Nat.le_of_ble_eq_true rfl) hg hs hd
    exact ⟨T', by have e : (zK A).set 1 (.double v) = zK (ze A 1 v) := by simp [zK, ze]
                  rw [e] at H'; exact H', st⟩
  · obtain ⟨T', H', st⟩ := zCm H hx hZ i 2 hi (by decide) (Nat.le_of_ble_eq_true rfl) hg hs hd
    exact ⟨T', by have e : (zK A).set 2 (.double v) = zK (ze A 2 v) := by simp [zK, ze]
                  rw [e] at H'; exact H', st⟩
  · obtain ⟨T', H', st⟩ := zCm H hx hZ i 3 hi (by decide) (Nat.le_of_ble_eq_true rfl) hg hs hd
    exact ⟨T', by have e : (zK A).set 3 (.double v) = zK (ze A 3 v) := by simp [zK, ze]
                  rw [e] at H'; exact H', st⟩
theorem zAz (H : zR p l e R s m args below meth c Z a0 hb T cs k n) (hx : p.tables.exec = Jvm.exec) (hZ : Z.Warmed39 s.vm) {x : Addr} {A : Int32 → Int64} {j : Int32} {v : Int64} (i : Nat) (hi : cs[i]? = some (x, zA .long (zAE A))) (hj : zG 4 j)
    {g : JFrame} (hg : g.method = m) {rest : List Value} (hs : g.stack = .long v :: .int j :: .ref x :: rest) (hd : decode c.code g.pc = .ok (.lastore, 1)) :
    ∃ T', zR p l e R s m args below meth c Z a0 hb T' (cs.set i (x, zA .long (zAE (zW A j v)))) k n ∧ ∀ target, Steps p.tables e below (T'.setTop { g with pc := g.pc + 1, stack := rest }) target → Steps p.tables e below (T.setTop g) target := by
  rcases zAn hj with rfl | rfl | rfl | rfl
  · obtain ⟨T', H', st⟩ := zAO H hx hZ i 0 hi (by decide) (Nat.le_of_ble_eq_true rfl) hg hs hd
    exact ⟨T', by have e : (zAE A).set 0 (.long v) = zAE (zW A 0 v) := by simp [zAE, zW]
                  rw [e] at H'; exact H', st⟩
  · obtain ⟨T', H', st⟩ := zAO H hx hZ i 1 hi (by decide) (Nat.le_of_ble_eq_true rfl) hg hs hd
    exact ⟨T', by have e : (zAE A).set 1 (.long v) = zAE (zW A 1 v) := by simp [zAE, zW]
                  rw [e] at H'; exact H', st⟩
  · obtain ⟨T', H', st⟩ := zAO H hx hZ i 2 hi (by decide) (Nat.le_of_ble_eq_true rfl) hg hs hd
    exact ⟨T', by have e : (zAE A).set 2 (.long v) = zAE (zW A 2 v) := by simp [zAE, zW]
                  rw [e] at H'; exact H', st⟩
  · obtain ⟨T', H', st⟩ := zAO H hx hZ i 3 hi (by decide) (Nat.le_of_ble_eq_true rfl) hg hs hd
    exact ⟨T', by have e : (zAE A).set 3 (.long v) = zAE (zW A 3 v) := by simp [zAE, zW]
                  rw [e] at H'; exact H', st⟩
end OwnHeap5
section OwnClaim
abbrev oc1 (v0 v1 v2 v3 v4 v5 : Value) : zr := zAx "com/example/tidewise/tidewise/search/UpperBounds" [("com/example/tidewise/tidewise/search/UpperBounds", "bound", "[D", v0), ("com/example/tidewise/tidewise/search/UpperBounds", "least", "[I", v1), ("com/example/tidewise/tidewise/search/UpperBounds", "leastAt", "[I", v2), ("com/example/tidewise/tidewise/search/UpperBounds", "k", "I", v3), ("com/example/tidewise/tidewise/search/UpperBounds", "offered", "Lcom/example/tidewise/tidewise/search/Numbering;", v4), ("com/example/tidewise/tidewise/search/UpperBounds", "leastCount", "I", v5)]
abbrev oc2 (v0 v1 v2 v3 v4 v5 : Value) : zr := zAx "com/example/tidewise/tidewise/search/Numbering" [("com/example/tidewise/tidewise/search/Numbering", "range", "I", v0), ("com/example/tidewise/tidewise/search/Numbering", "things", "[I", v1), ("com/example/tidewise/tidewise/search/Numbering", "slots", "[I", v2), ("com/example/tidewise/tidewise/search/Numbering", "count", "I", v3), ("com/example/tidewise/tidewise/search/Numbering", "table", "Lcom/example/tidewise/tidewise/search/Numbering$Table;", v4), ("com/example/tidewise/tidewise/search/Numbering", "stamp", "I", v5)]
open Jvm.Free.Fl
def zm : List (Nat × Value) := [(22, .long 9223372036854775807), (38, .double 9218868437227405312)]
theorem zj : ∀ q ∈ zm, ∃ w ∈ tables_1, zAY "com/example/tidewise/tidewise/search/UpperBoundsKthPinLaw" q.1 q.2 w := by
  intro q hq
  simp only [zm, List.mem_cons, List.not_mem_nil, or_false] at hq
  rcases hq with rfl | rfl
  · exact ⟨_, List.mem_of_getElem? (i := 83) rfl, rfl⟩
  · exact ⟨_, List.mem_of_getElem? (i := 93) rfl, rfl⟩
theorem own_pn0 : plainName "com/example/tidewise/tidewise/search/UpperBoundsKthPinLaw" = true := by first | (simp [plainName, overriddenIn]; done) | decide +kernel
theorem d1_0 : decode ok6 0 = .ok (.aload_n 0, 1) := by decide +kernel
theorem d1_1 : decode ok6 1 = .ok (.invokespecial 1, 3) := by decide +kernel
theorem d1_4 : decode ok6 4 = .ok (.aload_n 0, 1) := by decide +kernel
theorem d1_5 : decode ok6 5 = .ok (.bipush 8, 2) := by decide +kernel
theorem d1_7 : decode ok6 7 = .ok (.newarray .double, 2) := by decide +kernel
theorem d1_9 : decode ok6 9 = .ok (.putfield 7, 3) := by decide +kernel
theorem d1_12 : decode ok6 12 = .ok (.aload_n 0, 1) := by decide +kernel
theorem d1_13 : decode ok6 13 = .ok (.bipush 8, 2) := by decide +kernel
theorem d1_15 : decode ok6 15 = .ok (.newarray .int, 2) := by decide +kernel
theorem d1_17 : decode ok6 17 = .ok (.putfield 13, 3) := by decide +kernel
theorem d1_20 : decode ok6 20 = .ok (.aload_n 0, 1) := by decide +kernel
theorem d1_21 : decode ok6 21 = .ok (.bipush 8, 2) := by decide +kernel
theorem d1_23 : decode ok6 23 = .ok (.newarray .int, 2) := by decide +kernel
theorem d1_25 : decode ok6 25 = .ok (.putfield 17, 3) := by decide +kernel
theorem d1_28 : decode ok6 28 = .ok (.aload_n 0, 1) := by decide +kernel
theorem d1_29 : decode ok6 29 = .ok (.iload_n 1, 1) := by decide +kernel
theorem d1_30 : decode ok6 30 = .ok (.putfield 20, 3) := by decide +kernel
theorem d1_33 : decode ok6 33 = .ok (.aload_n 0, 1) := by decide +kernel
theorem d1_34 : decode ok6 34 = .ok (.new 24, 3) := by decide +kernel
theorem d1_37 : decode ok6 37 = .ok (.dup, 1) := by decide +kernel
theorem d1_38 : decode ok6 38 = .ok (.iload_n 2, 1) := by decide +kernel
theorem d1_39 : decode ok6 39 = .ok (.invokespecial 26, 3) := by decide +kernel
theorem d1_42 : decode ok6 42 = .ok (.putfield 29, 3) := by decide +kernel
theorem d1_45 : decode ok6 45 = .ok (.return_, 1) := by decide +kernel
def zBM : List (Nat × Value) := [(52, .double 9218868437227405312)]
theorem zBj : ∀ q ∈ zBM, ∃ w ∈ tables_1, zAY "com/example/tidewise/tidewise/search/UpperBounds" q.1 q.2 w := by
  intro q hq
  simp only [zBM, List.mem_cons, List.not_mem_nil, or_false] at hq
  rcases hq with rfl
  · exact ⟨_, List.mem_of_getElem? (i := 63) rfl, rfl⟩
theorem own_pn1 : plainName "com/example/tidewise/tidewise/search/UpperBounds" = true := by first | (simp [plainName, overriddenIn]; done) | decide +kernel
theorem d3_0 : decode ok3 0 = .ok (.aload_n 0, 1) := by decide +kernel
theorem d3_1 : decode ok3 1 = .ok (.invokespecial 1, 3) := by decide +kernel
theorem d3_4 : decode ok3 4 = .ok (.aload_n 0, 1) := by decide +kernel
theorem d3_5 : decode ok3 5 = .ok (.iload_n 1, 1) := by decide +kernel
theorem d3_6 : decode ok3 6 = .ok (.putfield 7, 3) := by decide +kernel
theorem d3_9 : decode ok3 9 = .ok (.aload_n 0, 1) := by decide +kernel
theorem d3_10 : decode ok3 10 = .ok (.bipush 8, 2) := by decide +kernel
theorem d3_12 : decode ok3 12 = .ok (.newarray .int, 2) := by decide +kernel
theorem d3_14 : decode ok3 14 = .ok (.putfield 13, 3) := by decide +kernel
theorem d3_17 : decode ok3 17 = .ok (.aload_n 0, 1) := by decide +kernel
theorem d3_18 : decode ok3 18 = .ok (.bipush 16, 2) := by decide +kernel
theorem d3_20 : decode ok3 20 = .ok (.newarray .int, 2) := by decide +kernel
theorem d3_22 : decode ok3 22 = .ok (.putfield 17, 3) := by decide +kernel
theorem d3_25 : decode ok3 25 = .ok (.return_, 1) := by decide +kernel
def zBw : List (Nat × Value) := [(69, .int (-1640531527))]
theorem zCo : ∀ q ∈ zBw, ∃ w ∈ tables_1, zAY "com/example/tidewise/tidewise/search/Numbering" q.1 q.2 w := by
  intro q hq
  simp only [zBw, List.mem_cons, List.not_mem_nil, or_false] at hq
  rcases hq with rfl
  · exact ⟨_, List.mem_of_getElem? (i := 57) rfl, rfl⟩
theorem own_pn3 : plainName "com/example/tidewise/tidewise/search/Numbering" = true := by first | (simp [plainName, overriddenIn]; done) | decide +kernel
theorem d4_0 : decode ok7 0 = .ok (.aload_n 0, 1) := by decide +kernel
theorem d4_1 : decode ok7 1 = .ok (.getfield 29, 3) := by decide +kernel
theorem d4_4 : decode ok7 4 = .ok (.invokevirtual 33, 3) := by decide +kernel
theorem d4_7 : decode ok7 7 = .ok (.istore 4, 2) := by decide +kernel
theorem d4_9 : decode ok7 9 = .ok (.aload_n 0, 1) := by decide +kernel
theorem d4_10 : decode ok7 10 = .ok (.getfield 29, 3) := by decide +kernel
theorem d4_13 : decode ok7 13 = .ok (.iload_n 1, 1) := by decide +kernel
theorem d4_14 : decode ok7 14 = .ok (.invokevirtual 37, 3) := by decide +kernel
theorem d4_17 : decode ok7 17 = .ok (.istore 5, 2) := by decide +kernel
theorem d4_19 : decode ok7 19 = .ok (.iload 5, 2) := by decide +kernel
theorem d4_21 : decode ok7 21 = .ok (.iload 4, 2) := by decide +kernel
theorem d4_23 : decode ok7 23 = .ok (.if_icmp .ne 61, 3) := by decide +kernel
theorem d4_26 : decode ok7 26 = .ok (.iload 5, 2) := by decide +kernel
theorem d4_28 : decode ok7 28 = .ok (.aload_n 0, 1) := by decide +kernel
theorem d4_29 : decode ok7 29 = .ok (.getfield 7, 3) := by decide +kernel
theorem d4_32 : decode ok7 32 = .ok (.arraylength, 1) := by decide +kernel
theorem d4_33 : decode ok7 33 = .ok (.if_icmp .ne 33, 3) := by decide +kernel
theorem d4_66 : decode ok7 66 = .ok (.aload_n 0, 1) := by decide +kernel
theorem d4_67 : decode ok7 67 = .ok (.getfield 7, 3) := by decide +kernel
theorem d4_70 : decode ok7 70 = .ok (.iload 5, 2) := by decide +kernel
theorem d4_72 : decode ok7 72 = .ok (.ldc2_w 52, 3) := by decide +kernel
theorem d4_75 : decode ok7 75 = .ok (.dastore, 1) := by decide +kernel
theorem d4_76 : decode ok7 76 = .ok (.aload_n 0, 1) := by decide +kernel
theorem d4_77 : decode ok7 77 = .ok (.getfield 17, 3) := by decide +kernel
theorem d4_80 : decode ok7 80 = .ok (.iload 5, 2) := by decide +kernel
theorem d4_82 : decode ok7 82 = .ok (.iconst (-1), 1) := by decide +kernel
theorem d4_83 : decode ok7 83 = .ok (.iastore, 1) := by decide +kernel
theorem d4_84 : decode ok7 84 = .ok (.dload_n 2, 1) := by decide +kernel
theorem d4_85 : decode ok7 85 = .ok (.aload_n 0, 1) := by decide +kernel
theorem d4_86 : decode ok7 86 = .ok (.getfield 7, 3) := by decide +kernel
theorem d4_89 : decode ok7 89 = .ok (.iload 5, 2) := by decide +kernel
theorem d4_91 : decode ok7 91 = .ok (.daload, 1) := by decide +kernel
theorem d4_92 : decode ok7 92 = .ok (.dcmp .g, 1) := by decide +kernel
theorem d4_93 : decode ok7 93 = .ok (.ifCond .lt 4, 3) := by decide +kernel
theorem d4_96 : decode ok7 96 = .ok (.return_, 1) := by decide +kernel
theorem d4_97 : decode ok7 97 = .ok (.aload_n 0, 1) := by decide +kernel
theorem d4_98 : decode ok7 98 = .ok (.getfield 7, 3) := by decide +kernel
theorem d4_101 : decode ok7 101 = .ok (.iload 5, 2) := by decide +kernel
theorem d4_103 : decode ok7 103 = .ok (.dload_n 2, 1) := by decide +kernel
theorem d4_104 : decode ok7 104 = .ok (.dastore, 1) := by decide +kernel
theorem d4_105 : decode ok7 105 = .ok (.aload_n 0, 1) := by decide +kernel
theorem d4_106 : decode ok7 106 = .ok (.getfield 17, 3) := by decide +kernel
theorem d4_109 : decode ok7 109 = .ok (.iload 5, 2) := by decide +kernel
theorem d4_111 : decode ok7 111 = .ok (.iaload, 1) := by decide +kernel
theorem d4_112 : decode ok7 112 = .ok (.ifCond .lt 19, 3) := by decide +kernel
theorem d4_115 : decode ok7 115 = .ok (.aload_n 0, 1) := by decide +kernel
theorem d4_116 : decode ok7 116 = .ok (.aload_n 0, 1) := by decide +kernel
theorem d4_117 : decode ok7 117 = .ok (.getfield 17, 3) := by decide +kernel
theorem d4_120 : decode ok7 120 = .ok (.iload 5, 2) := by decide +kernel
theorem d4_122 : decode ok7 122 = .ok (.iaload, 1) := by decide +kernel
theorem d4_123 : decode ok7 123 = .ok (.iload 5, 2) := by decide +kernel
theorem d4_125 : decode ok7 125 = .ok (.invokevirtual 54, 3) := by decide +kernel
theorem d4_128 : decode ok7 128 = .ok (.goto 98, 3) := by decide +kernel
theorem d4_131 : decode ok7 131 = .ok (.aload_n 0, 1) := by decide +kernel
theorem d4_132 : decode ok7 132 = .ok (.getfield 58, 3) := by decide +kernel
theorem d4_135 : decode ok7 135 = .ok (.aload_n 0, 1) := by decide +kernel
theorem d4_136 : decode ok7 136 = .ok (.getfield 20, 3) := by decide +kernel
theorem d4_139 : decode ok7 139 = .ok (.if_icmp .ge 52, 3) := by decide +kernel
theorem d4_142 : decode ok7 142 = .ok (.aload_n 0, 1) := by decide +kernel
theorem d4_143 : decode ok7 143 = .ok (.getfield 58, 3) := by decide +kernel
theorem d4_146 : decode ok7 146 = .ok (.aload_n 0, 1) := by decide +kernel
theorem d4_147 : decode ok7 147 = .ok (.getfield 13, 3) := by decide +kernel
theorem d4_150 : decode ok7 150 = .ok (.arraylength, 1) := by decide +kernel
theorem d4_151 : decode ok7 151 = .ok (.if_icmp .ne 20, 3) := by decide +kernel
theorem d4_171 : decode ok7 171 = .ok (.aload_n 0, 1) := by decide +kernel
theorem d4_172 : decode ok7 172 = .ok (.aload_n 0, 1) := by decide +kernel
theorem d4_173 : decode ok7 173 = .ok (.dup, 1) := by decide +kernel
theorem d4_174 : decode ok7 174 = .ok (.getfield 58, 3) := by decide +kernel
theorem d4_177 : decode ok7 177 = .ok (.dup_x1, 1) := by decide +kernel
theorem d4_178 : decode ok7 178 = .ok (.iconst 1, 1) := by decide +kernel
theorem d4_179 : decode ok7 179 = .ok (.iadd, 1) := by decide +kernel
theorem d4_180 : decode ok7 180 = .ok (.putfield 58, 3) := by decide +kernel
theorem d4_183 : decode ok7 183 = .ok (.iload 5, 2) := by decide +kernel
theorem d4_185 : decode ok7 185 = .ok (.invokevirtual 61, 3) := by decide +kernel
theorem d4_188 : decode ok7 188 = .ok (.goto 38, 3) := by decide +kernel
theorem d4_191 : decode ok7 191 = .ok (.dload_n 2, 1) := by decide +kernel
theorem d4_192 : decode ok7 192 = .ok (.aload_n 0, 1) := by decide +kernel
theorem d4_193 : decode ok7 193 = .ok (.getfield 7, 3) := by decide +kernel
theorem d4_196 : decode ok7 196 = .ok (.aload_n 0, 1) := by decide +kernel
theorem d4_197 : decode ok7 197 = .ok (.getfield 13, 3) := by decide +kernel
theorem d4_200 : decode ok7 200 = .ok (.iconst 0, 1) := by decide +kernel
theorem d4_201 : decode ok7 201 = .ok (.iaload, 1) := by decide +kernel
theorem d4_202 : decode ok7 202 = .ok (.daload, 1) := by decide +kernel
theorem d4_203 : decode ok7 203 = .ok (.dcmp .g, 1) := by decide +kernel
theorem d4_204 : decode ok7 204 = .ok (.ifCond .ge 22, 3) := by decide +kernel
theorem d4_207 : decode ok7 207 = .ok (.aload_n 0, 1) := by decide +kernel
theorem d4_208 : decode ok7 208 = .ok (.getfield 17, 3) := by decide +kernel
theorem d4_211 : decode ok7 211 = .ok (.aload_n 0, 1) := by decide +kernel
theorem d4_212 : decode ok7 212 = .ok (.getfield 13, 3) := by decide +kernel
theorem d4_215 : decode ok7 215 = .ok (.iconst 0, 1) := by decide +kernel
theorem d4_216 : decode ok7 216 = .ok (.iaload, 1) := by decide +kernel
theorem d4_217 : decode ok7 217 = .ok (.iconst (-1), 1) := by decide +kernel
theorem d4_218 : decode ok7 218 = .ok (.iastore, 1) := by decide +kernel
theorem d4_219 : decode ok7 219 = .ok (.aload_n 0, 1) := by decide +kernel
theorem d4_220 : decode ok7 220 = .ok (.iconst 0, 1) := by decide +kernel
theorem d4_221 : decode ok7 221 = .ok (.iload 5, 2) := by decide +kernel
theorem d4_223 : decode ok7 223 = .ok (.invokevirtual 54, 3) := by decide +kernel
theorem d4_226 : decode ok7 226 = .ok (.return_, 1) := by decide +kernel
def zl : List (Nat × Value) := [(52, .double 9218868437227405312)]
theorem zQ : ∀ q ∈ zl, ∃ w ∈ tables_1, zAY "com/example/tidewise/tidewise/search/UpperBounds" q.1 q.2 w := by
  intro q hq
  simp only [zl, List.mem_cons, List.not_mem_nil, or_false] at hq
  rcases hq with rfl
  · exact ⟨_, List.mem_of_getElem? (i := 63) rfl, rfl⟩
theorem zBk : plainName "com/example/tidewise/tidewise/search/UpperBounds" = true := by first | (simp [plainName, overriddenIn]; done) | decide +kernel
theorem d5_0 : decode ok5 0 = .ok (.aload_n 0, 1) := by decide +kernel
theorem d5_1 : decode ok5 1 = .ok (.getfield 41, 3) := by decide +kernel
theorem d5_4 : decode ok5 4 = .ok (.ireturn, 1) := by decide +kernel
def zDY : List (Nat × Value) := [(69, .int (-1640531527))]
theorem own_K5_ok : ∀ q ∈ zDY, ∃ w ∈ tables_1, zAY "com/example/tidewise/tidewise/search/Numbering" q.1 q.2 w := by
  intro q hq
  simp only [zDY, List.mem_cons, List.not_mem_nil, or_false] at hq
  rcases hq with rfl
  · exact ⟨_, List.mem_of_getElem? (i := 57) rfl, rfl⟩
theorem own_pn5 : plainName "com/example/tidewise/tidewise/search/Numbering" = true := by first | (simp [plainName, overriddenIn]; done) | decide +kernel
theorem d6_0 : decode ok4 0 = .ok (.aload_n 0, 1) := by decide +kernel
theorem d6_1 : decode ok4 1 = .ok (.getfield 30, 3) := by decide +kernel
theorem d6_4 : decode ok4 4 = .ok (.ifnonnull 19, 3) := by decide +kernel
theorem d6_7 : decode ok4 7 = .ok (.aload_n 0, 1) := by decide +kernel
theorem d6_8 : decode ok4 8 = .ok (.getfield 41, 3) := by decide +kernel
theorem d6_11 : decode ok4 11 = .ok (.aload_n 0, 1) := by decide +kernel
theorem d6_12 : decode ok4 12 = .ok (.getfield 13, 3) := by decide +kernel
theorem d6_15 : decode ok4 15 = .ok (.arraylength, 1) := by decide +kernel
theorem d6_16 : decode ok4 16 = .ok (.if_icmp .ne 7, 3) := by decide +kernel
theorem d6_23 : decode ok4 23 = .ok (.aload_n 0, 1) := by decide +kernel
theorem d6_24 : decode ok4 24 = .ok (.getfield 30, 3) := by decide +kernel
theorem d6_27 : decode ok4 27 = .ok (.ifnull 53, 3) := by decide +kernel
theorem d6_80 : decode ok4 80 = .ok (.aload_n 0, 1) := by decide +kernel
theorem d6_81 : decode ok4 81 = .ok (.getfield 17, 3) := by decide +kernel
theorem d6_84 : decode ok4 84 = .ok (.arraylength, 1) := by decide +kernel
theorem d6_85 : decode ok4 85 = .ok (.iconst 1, 1) := by decide +kernel
theorem d6_86 : decode ok4 86 = .ok (.isub, 1) := by decide +kernel
theorem d6_87 : decode ok4 87 = .ok (.istore_n 2, 1) := by decide +kernel
theorem d6_88 : decode ok4 88 = .ok (.aload_n 0, 1) := by decide +kernel
theorem d6_89 : decode ok4 89 = .ok (.iload_n 1, 1) := by decide +kernel
theorem d6_90 : decode ok4 90 = .ok (.invokevirtual 37, 3) := by decide +kernel
theorem d6_93 : decode ok4 93 = .ok (.istore_n 3, 1) := by decide +kernel
theorem d6_94 : decode ok4 94 = .ok (.aload_n 0, 1) := by decide +kernel
theorem d6_95 : decode ok4 95 = .ok (.getfield 17, 3) := by decide +kernel
theorem d6_98 : decode ok4 98 = .ok (.iload_n 3, 1) := by decide +kernel
theorem d6_99 : decode ok4 99 = .ok (.iaload, 1) := by decide +kernel
theorem d6_100 : decode ok4 100 = .ok (.ifCond .eq 29, 3) := by decide +kernel
theorem d6_103 : decode ok4 103 = .ok (.aload_n 0, 1) := by decide +kernel
theorem d6_104 : decode ok4 104 = .ok (.getfield 13, 3) := by decide +kernel
theorem d6_107 : decode ok4 107 = .ok (.aload_n 0, 1) := by decide +kernel
theorem d6_108 : decode ok4 108 = .ok (.getfield 17, 3) := by decide +kernel
theorem d6_111 : decode ok4 111 = .ok (.iload_n 3, 1) := by decide +kernel
theorem d6_112 : decode ok4 112 = .ok (.iaload, 1) := by decide +kernel
theorem d6_113 : decode ok4 113 = .ok (.iconst 1, 1) := by decide +kernel
theorem d6_114 : decode ok4 114 = .ok (.isub, 1) := by decide +kernel
theorem d6_115 : decode ok4 115 = .ok (.iaload, 1) := by decide +kernel
theorem d6_116 : decode ok4 116 = .ok (.iload_n 1, 1) := by decide +kernel
theorem d6_117 : decode ok4 117 = .ok (.if_icmp .eq 12, 3) := by decide +kernel
theorem d6_129 : decode ok4 129 = .ok (.aload_n 0, 1) := by decide +kernel
theorem d6_130 : decode ok4 130 = .ok (.getfield 17, 3) := by decide +kernel
theorem d6_133 : decode ok4 133 = .ok (.iload_n 3, 1) := by decide +kernel
theorem d6_134 : decode ok4 134 = .ok (.iaload, 1) := by decide +kernel
theorem d6_135 : decode ok4 135 = .ok (.ifCond .eq 12, 3) := by decide +kernel
theorem d6_138 : decode ok4 138 = .ok (.aload_n 0, 1) := by decide +kernel
theorem d6_139 : decode ok4 139 = .ok (.getfield 17, 3) := by decide +kernel
theorem d6_142 : decode ok4 142 = .ok (.iload_n 3, 1) := by decide +kernel
theorem d6_143 : decode ok4 143 = .ok (.iaload, 1) := by decide +kernel
theorem d6_144 : decode ok4 144 = .ok (.iconst 1, 1) := by decide +kernel
theorem d6_145 : decode ok4 145 = .ok (.isub, 1) := by decide +kernel
theorem d6_146 : decode ok4 146 = .ok (.ireturn, 1) := by decide +kernel
theorem d6_147 : decode ok4 147 = .ok (.aload_n 0, 1) := by decide +kernel
theorem d6_148 : decode ok4 148 = .ok (.getfield 13, 3) := by decide +kernel
theorem d6_151 : decode ok4 151 = .ok (.aload_n 0, 1) := by decide +kernel
theorem d6_152 : decode ok4 152 = .ok (.getfield 41, 3) := by decide +kernel
theorem d6_155 : decode ok4 155 = .ok (.iload_n 1, 1) := by decide +kernel
theorem d6_156 : decode ok4 156 = .ok (.iastore, 1) := by decide +kernel
theorem d6_157 : decode ok4 157 = .ok (.aload_n 0, 1) := by decide +kernel
theorem d6_158 : decode ok4 158 = .ok (.getfield 17, 3) := by decide +kernel
theorem d6_161 : decode ok4 161 = .ok (.iload_n 3, 1) := by decide +kernel
theorem d6_162 : decode ok4 162 = .ok (.aload_n 0, 1) := by decide +kernel
theorem d6_163 : decode ok4 163 = .ok (.getfield 41, 3) := by decide +kernel
theorem d6_166 : decode ok4 166 = .ok (.iconst 1, 1) := by decide +kernel
theorem d6_167 : decode ok4 167 = .ok (.iadd, 1) := by decide +kernel
theorem d6_168 : decode ok4 168 = .ok (.iastore, 1) := by decide +kernel
theorem d6_169 : decode ok4 169 = .ok (.aload_n 0, 1) := by decide +kernel
theorem d6_170 : decode ok4 170 = .ok (.dup, 1) := by decide +kernel
theorem d6_171 : decode ok4 171 = .ok (.getfield 41, 3) := by decide +kernel
theorem d6_174 : decode ok4 174 = .ok (.dup_x1, 1) := by decide +kernel
theorem d6_175 : decode ok4 175 = .ok (.iconst 1, 1) := by decide +kernel
theorem d6_176 : decode ok4 176 = .ok (.iadd, 1) := by decide +kernel
theorem d6_177 : decode ok4 177 = .ok (.putfield 41, 3) := by decide +kernel
theorem d6_180 : decode ok4 180 = .ok (.ireturn, 1) := by decide +kernel
def zV : List (Nat × Value) := [(69, .int (-1640531527))]
theorem zP : ∀ q ∈ zV, ∃ w ∈ tables_1, zAY "com/example/tidewise/tidewise/search/Numbering" q.1 q.2 w := by
  intro q hq
  simp only [zV, List.mem_cons, List.not_mem_nil, or_false] at hq
  rcases hq with rfl
  · exact ⟨_, List.mem_of_getElem? (i := 57) rfl, rfl⟩
theorem zBa : plainName "com/example/tidewise/tidewise/search/Numbering" = true := by first | (simp [plainName, overriddenIn]; done) | decide +kernel
theorem d7_0 : decode ok2 0 = .ok (.iload_n 1, 1) := by decide +kernel
theorem d7_1 : decode ok2 1 = .ok (.ldc 69, 2) := by decide +kernel
theorem d7_3 : decode ok2 3 = .ok (.imul, 1) := by decide +kernel
theorem d7_4 : decode ok2 4 = .ok (.aload_n 0, 1) := by decide +kernel
theorem d7_5 : decode ok2 5 = .ok (.getfield 17, 3) := by decide +kernel
theorem d7_8 : decode ok2 8 = .ok (.arraylength, 1) := by decide +kernel
theorem d7_9 : decode ok2 9 = .ok (.invokestatic 70, 3) := by decide +kernel
theorem d7_12 : decode ok2 12 = .ok (.iconst 1, 1) := by decide +kernel
theorem d7_13 : decode ok2 13 = .ok (.iadd, 1) := by decide +kernel
theorem d7_14 : decode ok2 14 = .ok (.iushr, 1) := by decide +kernel
theorem d7_15 : decode ok2 15 = .ok (.ireturn, 1) := by decide +kernel
def zBA : List (Nat × Value) := [(69, .int (-1640531527))]
theorem zBb : ∀ q ∈ zBA, ∃ w ∈ tables_1, zAY "com/example/tidewise/tidewise/search/Numbering" q.1 q.2 w := by
  intro q hq
  simp only [zBA, List.mem_cons, List.not_mem_nil, or_false] at hq
  rcases hq with rfl
  · exact ⟨_, List.mem_of_getElem? (i := 57) rfl, rfl⟩
theorem zCp : plainName "com/example/tidewise/tidewise/search/Numbering" = true := by first | (simp [plainName, overriddenIn]; done) | decide +kernel
theorem d8_0 : decode ok1 0 = .ok (.iload_n 0, 1) := by decide +kernel
theorem d8_1 : decode ok1 1 = .ok (.ifCond .gt 14, 3) := by decide +kernel
theorem d8_15 : decode ok1 15 = .ok (.bipush 31, 2) := by decide +kernel
theorem d8_17 : decode ok1 17 = .ok (.istore_n 1, 1) := by decide +kernel
theorem d8_18 : decode ok1 18 = .ok (.iload_n 0, 1) := by decide +kernel
theorem d8_19 : decode ok1 19 = .ok (.ldc_w 264, 3) := by decide +kernel
theorem d8_22 : decode ok1 22 = .ok (.if_icmp .lt 11, 3) := by decide +kernel
theorem d8_33 : decode ok1 33 = .ok (.iload_n 0, 1) := by decide +kernel
theorem d8_34 : decode ok1 34 = .ok (.sipush 256, 3) := by decide +kernel
theorem d8_37 : decode ok1 37 = .ok (.if_icmp .lt 11, 3) := by decide +kernel
theorem d8_48 : decode ok1 48 = .ok (.iload_n 0, 1) := by decide +kernel
theorem d8_49 : decode ok1 49 = .ok (.bipush 16, 2) := by decide +kernel
theorem d8_51 : decode ok1 51 = .ok (.if_icmp .lt 10, 3) := by decide +kernel
theorem d8_54 : decode ok1 54 = .ok (.iinc 1 (-4), 3) := by decide +kernel
theorem d8_57 : decode ok1 57 = .ok (.iload_n 0, 1) := by decide +kernel
theorem d8_58 : decode ok1 58 = .ok (.iconst 4, 1) := by decide +kernel
theorem d8_59 : decode ok1 59 = .ok (.iushr, 1) := by decide +kernel
theorem d8_60 : decode ok1 60 = .ok (.istore_n 0, 1) := by decide +kernel
theorem d8_61 : decode ok1 61 = .ok (.iload_n 0, 1) := by decide +kernel
theorem d8_62 : decode ok1 62 = .ok (.iconst 4, 1) := by decide +kernel
theorem d8_63 : decode ok1 63 = .ok (.if_icmp .lt 10, 3) := by decide +kernel
theorem d8_73 : decode ok1 73 = .ok (.iload_n 1, 1) := by decide +kernel
theorem d8_74 : decode ok1 74 = .ok (.iload_n 0, 1) := by decide +kernel
theorem d8_75 : decode ok1 75 = .ok (.iconst 1, 1) := by decide +kernel
theorem d8_76 : decode ok1 76 = .ok (.iushr, 1) := by decide +kernel
theorem d8_77 : decode ok1 77 = .ok (.isub, 1) := by decide +kernel
theorem d8_78 : decode ok1 78 = .ok (.ireturn, 1) := by decide +kernel
def zDZ : List (Nat × Value) := [(264, .int 65536)]
theorem own_K8_ok : ∀ q ∈ zDZ, ∃ w ∈ tables_1, zAY "java/lang/Integer" q.1 q.2 w := by
  intro q hq
  simp only [zDZ, List.mem_cons, List.not_mem_nil, or_false] at hq
  rcases hq with rfl
  · exact ⟨_, List.mem_of_getElem? (i := 62) rfl, rfl⟩
theorem d9_0 : decode ok9 0 = .ok (.iload_n 1, 1) := by decide +kernel
theorem d9_1 : decode ok9 1 = .ok (.ifCond .le 49, 3) := by decide +kernel
theorem d9_4 : decode ok9 4 = .ok (.iload_n 1, 1) := by decide +kernel
theorem d9_5 : decode ok9 5 = .ok (.iconst 1, 1) := by decide +kernel
theorem d9_6 : decode ok9 6 = .ok (.isub, 1) := by decide +kernel
theorem d9_7 : decode ok9 7 = .ok (.iconst 2, 1) := by decide +kernel
theorem d9_8 : decode ok9 8 = .ok (.idiv, 1) := by decide +kernel
theorem d9_9 : decode ok9 9 = .ok (.istore_n 3, 1) := by decide +kernel
theorem d9_10 : decode ok9 10 = .ok (.aload_n 0, 1) := by decide +kernel
theorem d9_11 : decode ok9 11 = .ok (.getfield 7, 3) := by decide +kernel
theorem d9_14 : decode ok9 14 = .ok (.aload_n 0, 1) := by decide +kernel
theorem d9_15 : decode ok9 15 = .ok (.getfield 13, 3) := by decide +kernel
theorem d9_18 : decode ok9 18 = .ok (.iload_n 3, 1) := by decide +kernel
theorem d9_19 : decode ok9 19 = .ok (.iaload, 1) := by decide +kernel
theorem d9_20 : decode ok9 20 = .ok (.daload, 1) := by decide +kernel
theorem d9_21 : decode ok9 21 = .ok (.aload_n 0, 1) := by decide +kernel
theorem d9_22 : decode ok9 22 = .ok (.getfield 7, 3) := by decide +kernel
theorem d9_25 : decode ok9 25 = .ok (.iload_n 2, 1) := by decide +kernel
theorem d9_26 : decode ok9 26 = .ok (.daload, 1) := by decide +kernel
theorem d9_27 : decode ok9 27 = .ok (.dcmp .l, 1) := by decide +kernel
theorem d9_28 : decode ok9 28 = .ok (.ifCond .lt 6, 3) := by decide +kernel
theorem d9_31 : decode ok9 31 = .ok (.goto 19, 3) := by decide +kernel
theorem d9_34 : decode ok9 34 = .ok (.aload_n 0, 1) := by decide +kernel
theorem d9_35 : decode ok9 35 = .ok (.iload_n 1, 1) := by decide +kernel
theorem d9_36 : decode ok9 36 = .ok (.aload_n 0, 1) := by decide +kernel
theorem d9_37 : decode ok9 37 = .ok (.getfield 13, 3) := by decide +kernel
theorem d9_40 : decode ok9 40 = .ok (.iload_n 3, 1) := by decide +kernel
theorem d9_41 : decode ok9 41 = .ok (.iaload, 1) := by decide +kernel
theorem d9_42 : decode ok9 42 = .ok (.invokevirtual 64, 3) := by decide +kernel
theorem d9_45 : decode ok9 45 = .ok (.iload_n 3, 1) := by decide +kernel
theorem d9_46 : decode ok9 46 = .ok (.istore_n 1, 1) := by decide +kernel
theorem d9_47 : decode ok9 47 = .ok (.goto (-47), 3) := by decide +kernel
theorem d9_50 : decode ok9 50 = .ok (.aload_n 0, 1) := by decide +kernel
theorem d9_51 : decode ok9 51 = .ok (.iload_n 1, 1) := by decide +kernel
theorem d9_52 : decode ok9 52 = .ok (.iload_n 2, 1) := by decide +kernel
theorem d9_53 : decode ok9 53 = .ok (.invokevirtual 64, 3) := by decide +kernel
theorem d9_56 : decode ok9 56 = .ok (.return_, 1) := by decide +kernel
def zz : List (Nat × Value) := [(52, .double 9218868437227405312)]
theorem zi : ∀ q ∈ zz, ∃ w ∈ tables_1, zAY "com/example/tidewise/tidewise/search/UpperBounds" q.1 q.2 w := by
  intro q hq
  simp only [zz, List.mem_cons, List.not_mem_nil, or_false] at hq
  rcases hq with rfl
  · exact ⟨_, List.mem_of_getElem? (i := 63) rfl, rfl⟩
theorem zBc : plainName "com/example/tidewise/tidewise/search/UpperBounds" = true := by first | (simp [plainName, overriddenIn]; done) | decide +kernel
theorem d10_0 : decode ok11 0 = .ok (.aload_n 0, 1) := by decide +kernel
theorem d10_1 : decode ok11 1 = .ok (.getfield 13, 3) := by decide +kernel
theorem d10_4 : decode ok11 4 = .ok (.iload_n 1, 1) := by decide +kernel
theorem d10_5 : decode ok11 5 = .ok (.iload_n 2, 1) := by decide +kernel
theorem d10_6 : decode ok11 6 = .ok (.iastore, 1) := by decide +kernel
theorem d10_7 : decode ok11 7 = .ok (.aload_n 0, 1) := by decide +kernel
theorem d10_8 : decode ok11 8 = .ok (.getfield 17, 3) := by decide +kernel
theorem d10_11 : decode ok11 11 = .ok (.iload_n 2, 1) := by decide +kernel
theorem d10_12 : decode ok11 12 = .ok (.iload_n 1, 1) := by decide +kernel
theorem d10_13 : decode ok11 13 = .ok (.iastore, 1) := by decide +kernel
theorem d10_14 : decode ok11 14 = .ok (.return_, 1) := by decide +kernel
def zBx : List (Nat × Value) := [(52, .double 9218868437227405312)]
theorem zCq : ∀ q ∈ zBx, ∃ w ∈ tables_1, zAY "com/example/tidewise/tidewise/search/UpperBounds" q.1 q.2 w := by
  intro q hq
  simp only [zBx, List.mem_cons, List.not_mem_nil, or_false] at hq
  rcases hq with rfl
  · exact ⟨_, List.mem_of_getElem? (i := 63) rfl, rfl⟩
theorem own_pn10 : plainName "com/example/tidewise/tidewise/search/UpperBounds" = true := by first | (simp [plainName, overriddenIn]; done) | decide +kernel
theorem d11_0 : decode ok10 0 = .ok (.iconst 2, 1) := by decide +kernel
theorem d11_1 : decode ok10 1 = .ok (.iload_n 1, 1) := by decide +kernel
theorem d11_2 : decode ok10 2 = .ok (.imul, 1) := by decide +kernel
theorem d11_3 : decode ok10 3 = .ok (.iconst 1, 1) := by decide +kernel
theorem d11_4 : decode ok10 4 = .ok (.iadd, 1) := by decide +kernel
theorem d11_5 : decode ok10 5 = .ok (.istore_n 3, 1) := by decide +kernel
theorem d11_6 : decode ok10 6 = .ok (.iload_n 3, 1) := by decide +kernel
theorem d11_7 : decode ok10 7 = .ok (.aload_n 0, 1) := by decide +kernel
theorem d11_8 : decode ok10 8 = .ok (.getfield 58, 3) := by decide +kernel
theorem d11_11 : decode ok10 11 = .ok (.if_icmp .ge 90, 3) := by decide +kernel
theorem d11_14 : decode ok10 14 = .ok (.iload_n 3, 1) := by decide +kernel
theorem d11_15 : decode ok10 15 = .ok (.iconst 1, 1) := by decide +kernel
theorem d11_16 : decode ok10 16 = .ok (.iadd, 1) := by decide +kernel
theorem d11_17 : decode ok10 17 = .ok (.aload_n 0, 1) := by decide +kernel
theorem d11_18 : decode ok10 18 = .ok (.getfield 58, 3) := by decide +kernel
theorem d11_21 : decode ok10 21 = .ok (.if_icmp .ge 34, 3) := by decide +kernel
theorem d11_24 : decode ok10 24 = .ok (.aload_n 0, 1) := by decide +kernel
theorem d11_25 : decode ok10 25 = .ok (.getfield 7, 3) := by decide +kernel
theorem d11_28 : decode ok10 28 = .ok (.aload_n 0, 1) := by decide +kernel
theorem d11_29 : decode ok10 29 = .ok (.getfield 13, 3) := by decide +kernel
theorem d11_32 : decode ok10 32 = .ok (.iload_n 3, 1) := by decide +kernel
theorem d11_33 : decode ok10 33 = .ok (.iconst 1, 1) := by decide +kernel
theorem d11_34 : decode ok10 34 = .ok (.iadd, 1) := by decide +kernel
theorem d11_35 : decode ok10 35 = .ok (.iaload, 1) := by decide +kernel
theorem d11_36 : decode ok10 36 = .ok (.daload, 1) := by decide +kernel
theorem d11_37 : decode ok10 37 = .ok (.aload_n 0, 1) := by decide +kernel
theorem d11_38 : decode ok10 38 = .ok (.getfield 7, 3) := by decide +kernel
theorem d11_41 : decode ok10 41 = .ok (.aload_n 0, 1) := by decide +kernel
theorem d11_42 : decode ok10 42 = .ok (.getfield 13, 3) := by decide +kernel
theorem d11_45 : decode ok10 45 = .ok (.iload_n 3, 1) := by decide +kernel
theorem d11_46 : decode ok10 46 = .ok (.iaload, 1) := by decide +kernel
theorem d11_47 : decode ok10 47 = .ok (.daload, 1) := by decide +kernel
theorem d11_48 : decode ok10 48 = .ok (.dcmp .l, 1) := by decide +kernel
theorem d11_49 : decode ok10 49 = .ok (.ifCond .le 6, 3) := by decide +kernel
theorem d11_52 : decode ok10 52 = .ok (.iinc 3 1, 3) := by decide +kernel
theorem d11_55 : decode ok10 55 = .ok (.aload_n 0, 1) := by decide +kernel
theorem d11_56 : decode ok10 56 = .ok (.getfield 7, 3) := by decide +kernel
theorem d11_59 : decode ok10 59 = .ok (.aload_n 0, 1) := by decide +kernel
theorem d11_60 : decode ok10 60 = .ok (.getfield 13, 3) := by decide +kernel
theorem d11_63 : decode ok10 63 = .ok (.iload_n 3, 1) := by decide +kernel
theorem d11_64 : decode ok10 64 = .ok (.iaload, 1) := by decide +kernel
theorem d11_65 : decode ok10 65 = .ok (.daload, 1) := by decide +kernel
theorem d11_66 : decode ok10 66 = .ok (.aload_n 0, 1) := by decide +kernel
theorem d11_67 : decode ok10 67 = .ok (.getfield 7, 3) := by decide +kernel
theorem d11_70 : decode ok10 70 = .ok (.iload_n 2, 1) := by decide +kernel
theorem d11_71 : decode ok10 71 = .ok (.daload, 1) := by decide +kernel
theorem d11_72 : decode ok10 72 = .ok (.dcmp .g, 1) := by decide +kernel
theorem d11_73 : decode ok10 73 = .ok (.ifCond .gt 6, 3) := by decide +kernel
theorem d11_76 : decode ok10 76 = .ok (.goto 25, 3) := by decide +kernel
theorem d11_79 : decode ok10 79 = .ok (.aload_n 0, 1) := by decide +kernel
theorem d11_80 : decode ok10 80 = .ok (.iload_n 1, 1) := by decide +kernel
theorem d11_81 : decode ok10 81 = .ok (.aload_n 0, 1) := by decide +kernel
theorem d11_82 : decode ok10 82 = .ok (.getfield 13, 3) := by decide +kernel
theorem d11_85 : decode ok10 85 = .ok (.iload_n 3, 1) := by decide +kernel
theorem d11_86 : decode ok10 86 = .ok (.iaload, 1) := by decide +kernel
theorem d11_87 : decode ok10 87 = .ok (.invokevirtual 64, 3) := by decide +kernel
theorem d11_90 : decode ok10 90 = .ok (.iload_n 3, 1) := by decide +kernel
theorem d11_91 : decode ok10 91 = .ok (.istore_n 1, 1) := by decide +kernel
theorem d11_92 : decode ok10 92 = .ok (.iconst 2, 1) := by decide +kernel
theorem d11_93 : decode ok10 93 = .ok (.iload_n 1, 1) := by decide +kernel
theorem d11_94 : decode ok10 94 = .ok (.imul, 1) := by decide +kernel
theorem d11_95 : decode ok10 95 = .ok (.iconst 1, 1) := by decide +kernel
theorem d11_96 : decode ok10 96 = .ok (.iadd, 1) := by decide +kernel
theorem d11_97 : decode ok10 97 = .ok (.istore_n 3, 1) := by decide +kernel
theorem d11_98 : decode ok10 98 = .ok (.goto (-92), 3) := by decide +kernel
theorem d11_101 : decode ok10 101 = .ok (.aload_n 0, 1) := by decide +kernel
theorem d11_102 : decode ok10 102 = .ok (.iload_n 1, 1) := by decide +kernel
theorem d11_103 : decode ok10 103 = .ok (.iload_n 2, 1) := by decide +kernel
theorem d11_104 : decode ok10 104 = .ok (.invokevirtual 64, 3) := by decide +kernel
theorem d11_107 : decode ok10 107 = .ok (.return_, 1) := by decide +kernel
def zk : List (Nat × Value) := [(52, .double 9218868437227405312)]
theorem zL : ∀ q ∈ zk, ∃ w ∈ tables_1, zAY "com/example/tidewise/tidewise/search/UpperBounds" q.1 q.2 w := by
  intro q hq
  simp only [zk, List.mem_cons, List.not_mem_nil, or_false] at hq
  rcases hq with rfl
  · exact ⟨_, List.mem_of_getElem? (i := 63) rfl, rfl⟩
theorem zAV : plainName "com/example/tidewise/tidewise/search/UpperBounds" = true := by first | (simp [plainName, overriddenIn]; done) | decide +kernel
theorem d12_0 : decode ok8 0 = .ok (.aload_n 0, 1) := by decide +kernel
theorem d12_1 : decode ok8 1 = .ok (.getfield 58, 3) := by decide +kernel
theorem d12_4 : decode ok8 4 = .ok (.aload_n 0, 1) := by decide +kernel
theorem d12_5 : decode ok8 5 = .ok (.getfield 20, 3) := by decide +kernel
theorem d12_8 : decode ok8 8 = .ok (.if_icmp .ne 17, 3) := by decide +kernel
theorem d12_11 : decode ok8 11 = .ok (.aload_n 0, 1) := by decide +kernel
theorem d12_12 : decode ok8 12 = .ok (.getfield 7, 3) := by decide +kernel
theorem d12_15 : decode ok8 15 = .ok (.aload_n 0, 1) := by decide +kernel
theorem d12_16 : decode ok8 16 = .ok (.getfield 13, 3) := by decide +kernel
theorem d12_19 : decode ok8 19 = .ok (.iconst 0, 1) := by decide +kernel
theorem d12_20 : decode ok8 20 = .ok (.iaload, 1) := by decide +kernel
theorem d12_21 : decode ok8 21 = .ok (.daload, 1) := by decide +kernel
theorem d12_22 : decode ok8 22 = .ok (.goto 6, 3) := by decide +kernel
theorem d12_25 : decode ok8 25 = .ok (.ldc2_w 52, 3) := by decide +kernel
theorem d12_28 : decode ok8 28 = .ok (.dreturn, 1) := by decide +kernel
def zBN : List (Nat × Value) := [(52, .double 9218868437227405312)]
theorem zBO : ∀ q ∈ zBN, ∃ w ∈ tables_1, zAY "com/example/tidewise/tidewise/search/UpperBounds" q.1 q.2 w := by
  intro q hq
  simp only [zBN, List.mem_cons, List.not_mem_nil, or_false] at hq
  rcases hq with rfl
  · exact ⟨_, List.mem_of_getElem? (i := 63) rfl, rfl⟩
theorem own_pn12 : plainName "com/example/tidewise/tidewise/search/UpperBounds" = true := by first | (simp [plainName, overriddenIn]; done) | decide +kernel
theorem d13_0 : decode ok0 0 = .ok (.lload_n 0, 1) := by decide +kernel
theorem d13_1 : decode ok0 1 = .ok (.lload_n 2, 1) := by decide +kernel
theorem d13_2 : decode ok0 2 = .ok (.lcmp, 1) := by decide +kernel
theorem d13_3 : decode ok0 3 = .ok (.ifCond .gt 7, 3) := by decide +kernel
theorem d13_6 : decode ok0 6 = .ok (.lload_n 0, 1) := by decide +kernel
theorem d13_7 : decode ok0 7 = .ok (.goto 4, 3) := by decide +kernel
theorem d13_10 : decode ok0 10 = .ok (.lload_n 2, 1) := by decide +kernel
theorem d13_11 : decode ok0 11 = .ok (.lreturn, 1) := by decide +kernel
def own_K13 : List (Nat × Value) := []
theorem own_K13_ok : ∀ q ∈ own_K13, ∃ w ∈ tables_1, zAY "java/lang/Math" q.1 q.2 w := by
  intro q hq
  exact absurd hq (List.not_mem_nil)
theorem d14_0 : decode method_2_code 0 = .ok (.aload_n 0, 1) := by decide +kernel
theorem d14_1 : decode method_2_code 1 = .ok (.iload_n 1, 1) := by decide +kernel
theorem d14_2 : decode method_2_code 2 = .ok (.laload, 1) := by decide +kernel
theorem d14_3 : decode method_2_code 3 = .ok (.aload_n 0, 1) := by decide +kernel
theorem d14_4 : decode method_2_code 4 = .ok (.iload_n 2, 1) := by decide +kernel
theorem d14_5 : decode method_2_code 5 = .ok (.laload, 1) := by decide +kernel
theorem d14_6 : decode method_2_code 6 = .ok (.lcmp, 1) := by decide +kernel
theorem d14_7 : decode method_2_code 7 = .ok (.ifCond .le 17, 3) := by decide +kernel
theorem d14_10 : decode method_2_code 10 = .ok (.aload_n 0, 1) := by decide +kernel
theorem d14_11 : decode method_2_code 11 = .ok (.iload_n 1, 1) := by decide +kernel
theorem d14_12 : decode method_2_code 12 = .ok (.laload, 1) := by decide +kernel
theorem d14_13 : decode method_2_code 13 = .ok (.lstore_n 3, 1) := by decide +kernel
theorem d14_14 : decode method_2_code 14 = .ok (.aload_n 0, 1) := by decide +kernel
theorem d14_15 : decode method_2_code 15 = .ok (.iload_n 1, 1) := by decide +kernel
theorem d14_16 : decode method_2_code 16 = .ok (.aload_n 0, 1) := by decide +kernel
theorem d14_17 : decode method_2_code 17 = .ok (.iload_n 2, 1) := by decide +kernel
theorem d14_18 : decode method_2_code 18 = .ok (.laload, 1) := by decide +kernel
theorem d14_19 : decode method_2_code 19 = .ok (.lastore, 1) := by decide +kernel
theorem d14_20 : decode method_2_code 20 = .ok (.aload_n 0, 1) := by decide +kernel
theorem d14_21 : decode method_2_code 21 = .ok (.iload_n 2, 1) := by decide +kernel
theorem d14_22 : decode method_2_code 22 = .ok (.lload_n 3, 1) := by decide +kernel
theorem d14_23 : decode method_2_code 23 = .ok (.lastore, 1) := by decide +kernel
theorem d14_24 : decode method_2_code 24 = .ok (.return_, 1) := by decide +kernel
def zAB : List (Nat × Value) := [(22, .long 9223372036854775807), (38, .double 9218868437227405312)]
theorem zt : ∀ q ∈ zAB, ∃ w ∈ tables_1, zAY "com/example/tidewise/tidewise/search/UpperBoundsKthPinLaw" q.1 q.2 w := by
  intro q hq
  simp only [zAB, List.mem_cons, List.not_mem_nil, or_false] at hq
  rcases hq with rfl | rfl
  · exact ⟨_, List.mem_of_getElem? (i := 83) rfl, rfl⟩
  · exact ⟨_, List.mem_of_getElem? (i := 93) rfl, rfl⟩
theorem zBB : plainName "com/example/tidewise/tidewise/search/UpperBoundsKthPinLaw" = true := by first | (simp [plainName, overriddenIn]; done) | decide +kernel
theorem own_pd0 : parseMethodDescriptor "()D" = some ⟨[], some .double⟩ := by decide +kernel
theorem zBl : parseMethodDescriptor "()I" = some ⟨[], some .int⟩ := by decide +kernel
theorem zAW : parseMethodDescriptor "(I)I" = some ⟨[.int], some .int⟩ := by decide +kernel
theorem own_pd4 : parseMethodDescriptor "(I)V" = some ⟨[.int], none⟩ := by decide +kernel
theorem zCN : parseMethodDescriptor "(ID)V" = some ⟨[.int, .double], none⟩ := by decide +kernel
theorem zq : parseMethodDescriptor "(II)V" = some ⟨[.int, .int], none⟩ := by decide +kernel
theorem zBC : parseMethodDescriptor "(JJ)J" = some ⟨[.long, .long], some .long⟩ := by decide +kernel
theorem zBD : parseMethodDescriptor "([JII)V" = some ⟨[(.array .long), .int, .int], none⟩ := by decide +kernel
theorem own_ef0 (m : MethodId) (x0 : Int32) (x1 : Int32) (x2 : Int32) (x3 : Int32) (x4 : Int32) (x5 : Int32) : entryFrame m #[(.int x0), (.int x1), (.int x2), (.int x3), (.int x4), (.int x5)] maxLocals = mkF m 0 #[oi x0, oi x1, oi x2, oi x3, oi x4, oi x5, ou, ou, ou, ou, ou, ou, ou, ou, ou, ou, ou, ou, ou, ou, ou, ou] [] := by first | (simp [entryFrame, mkF, argsToLocals, Value.category, maxLocals]; done) | rfl
theorem own_ef1 (m : MethodId) (x0 : Addr) (x1 : Int32) (x2 : Int32) : entryFrame m #[(.ref x0), (.int x1), (.int x2)] 3 = mkF m 0 #[oa x0, oi x1, oi x2] [] := by first | (simp [entryFrame, mkF, argsToLocals, Value.category]; done) | rfl
theorem own_ef3 (m : MethodId) (x0 : Addr) (x1 : Int32) : entryFrame m #[(.ref x0), (.int x1)] 2 = mkF m 0 #[oa x0, oi x1] [] := by first | (simp [entryFrame, mkF, argsToLocals, Value.category]; done) | rfl
theorem zBm (m : MethodId) (x0 : Addr) (x1 : Int32) (x2 : UInt64) : entryFrame m #[(.ref x0), (.int x1), (.double x2)] 6 = mkF m 0 #[oa x0, oi x1, .val (.double x2), .second, ou, ou] [] := by first | (simp [entryFrame, mkF, argsToLocals, Value.category]; done) | rfl
theorem own_ef5 (m : MethodId) (x0 : Addr) : entryFrame m #[(.ref x0)] 1 = mkF m 0 #[oa x0] [] := by first | (simp [entryFrame, mkF, argsToLocals, Value.category]; done) | rfl
theorem zBd (m : MethodId) (x0 : Addr) (x1 : Int32) : entryFrame m #[(.ref x0), (.int x1)] 5 = mkF m 0 #[oa x0, oi x1, ou, ou, ou] [] := by first | (simp [entryFrame, mkF, argsToLocals, Value.category]; done) | rfl
theorem zCr (m : MethodId) (x0 : Addr) (x1 : Int32) : entryFrame m #[(.ref x0), (.int x1)] 2 = mkF m 0 #[oa x0, oi x1] [] := by first | (simp [entryFrame, mkF, argsToLocals, Value.category]; done) | rfl
theorem own_ef8 (m : MethodId) (x0 : Int32) : entryFrame m #[(.int x0)] 2 = mkF m 0 #[oi x0, ou] [] := by first | (simp [entryFrame, mkF, argsToLocals, Value.category]; done) | rfl
theorem zBe (m : MethodId) (x0 : Addr) (x1 : Int32) (x2 : Int32) : entryFrame m #[(.ref x0), (.int x1), (.int x2)] 4 = mkF m 0 #[oa x0, oi x1, oi x2, ou] [] := by first | (simp [entryFrame, mkF, argsToLocals, Value.category]; done) | rfl
theorem own_ef10 (m : MethodId) (x0 : Addr) (x1 : Int32) (x2 : Int32) : entryFrame m #[(.ref x0), (.int x1), (.int x2)] 3 = mkF m 0 #[oa x0, oi x1, oi x2] [] := by first | (simp [entryFrame, mkF, argsToLocals, Value.category]; done) | rfl
theorem zAX (m : MethodId) (x0 : Addr) (x1 : Int32) (x2 : Int32) : entryFrame m #[(.ref x0), (.int x1), (.int x2)] 4 = mkF m 0 #[oa x0, oi x1, oi x2, ou] [] := by first | (simp [entryFrame, mkF, argsToLocals, Value.category]; done) | rfl
theorem own_ef12 (m : MethodId) (x0 : Addr) : entryFrame m #[(.ref x0)] 1 = mkF m 0 #[oa x0] [] := by first | (simp [entryFrame, mkF, argsToLocals, Value.category]; done) | rfl
theorem own_ef13 (m : MethodId) (x0 : Int64) (x1 : Int64) : entryFrame m #[(.long x0), (.long x1)] 4 = mkF m 0 #[.val (.long x0), .second, .val (.long x1), .second] [] := by first | (simp [entryFrame, mkF, argsToLocals, Value.category]; done) | rfl
theorem zBE (m : MethodId) (x0 : Addr) (x1 : Int32) (x2 : Int32) : entryFrame m #[(.ref x0), (.int x1), (.int x2)] 5 = mkF m 0 #[oa x0, oi x1, oi x2, ou, ou] [] := by first | (simp [entryFrame, mkF, argsToLocals, Value.category]; done) | rfl
theorem own_pt0 (u : Addr) (ip : Int32) (nm : Int32) :
    zF zBx ok11 0 #[oa u, oi ip, oi nm] [] 1 #[oa u, oi ip, oi nm] [(.ref u)] := by
  refine zJ (pc2 := 1) d10_0 rfl rfl rfl ?_
  exact zH
theorem own_pt1 (u : Addr) (ip : Int32) (nm : Int32) (xl : Addr) :
    zF zBx ok11 4 #[oa u, oi ip, oi nm] [(.ref xl)] 6 #[oa u, oi ip, oi nm] [(.int nm), (.int ip), (.ref xl)] := by
  refine zM (pc2 := 5) d10_4 rfl rfl ?_
  refine zM (pc2 := 6) d10_5 rfl rfl ?_
  exact zH
theorem own_pt2 (u : Addr) (ip : Int32) (nm : Int32) :
    zF zBx ok11 7 #[oa u, oi ip, oi nm] [] 8 #[oa u, oi ip, oi nm] [(.ref u)] := by
  refine zJ (pc2 := 8) d10_7 rfl rfl rfl ?_
  exact zH
theorem own_pt3 (u : Addr) (ip : Int32) (nm : Int32) (xp : Addr) :
    zF zBx ok11 11 #[oa u, oi ip, oi nm] [(.ref xp)] 13 #[oa u, oi ip, oi nm] [(.int ip), (.int nm), (.ref xp)] := by
  refine zM (pc2 := 12) d10_11 rfl rfl ?_
  refine zM (pc2 := 13) d10_12 rfl rfl ?_
  exact zH
set_option maxRecDepth 65536 in
set_option maxHeartbeats 4000000 in
theorem zu (l : Launch) (Z : State) (a0 : Array Value) (hb0 : zU) (hw : ∀ d ∈ tables_1, d.before a0 Z = true) (u : Addr) (ip : Int32) (nm : Int32) (xb xl xp nu xt xs : Addr) (fb : Int32 → UInt64) (fl fa ft : Int32 → Int32) (kk cc nn : Int32) (s0 s1 s2 s3 : Int32) (h1 : zG 4 ip) (h2 : zG 4 nm) :
    zX l Z a0 hb0 (⟨"com/example/tidewise/tidewise/search/UpperBounds", "put", "(II)V"⟩ : MethodName) ok11 3 none [] ({ frames := 0, cells := 0, slots := 0, locals := 0 } : Room) #[(.ref u), (.int ip), (.int nm)] [(u, oc1 (.ref xb) (.ref xl) (.ref xp) (.int kk) (.ref nu) (.int cc)), (xb, zA .double (zK fb)), (xl, zA .int (zE fl)), (xp, zA .int (zE fa)), (nu, oc2 (.int 4) (.ref xt) (.ref xs) (.int nn) .null (.int 0)), (xt, zA .int (zE ft)), (xs, zA .int [.int s0, .int 0, .int 0, .int s2, .int 0, .int 0, .int 0, .int 0, .int 0, .int s1, .int 0, .int 0, .int 0, .int s3, .int 0, .int 0])] (fun r cs' => r = none ∧ cs' = [(u, oc1 (.ref xb) (.ref xl) (.ref xp) (.int kk) (.ref nu) (.int cc)), (xb, zA .double (zK fb)), (xl, zA .int (zE (zD fl ip nm))), (xp, zA .int (zE (zD fa nm ip))), (nu, oc2 (.int 4) (.ref xt) (.ref xs) (.int nn) .null (.int 0)), (xt, zA .int (zE ft)), (xs, zA .int [.int s0, .int 0, .int 0, .int s2, .int 0, .int 0, .int 0, .int 0, .int 0, .int s1, .int 0, .int 0, .int 0, .int s3, .int 0, .int 0])]) := by
  refine zh (L0 := #[oa u, oi ip, oi nm]) (plainFor_of_name own_pn10) (fun m => own_ef10 m u ip nm) ?_
  intro p e s m below meth c T0 hx hZ hown hby hml hnm H0
  obtain ⟨Tpt1, Hpt1, stpt1⟩ := zI H0 hx hZ hown (zB hw 13 rfl) 0 1 rfl rfl (g := (mkF m 1 #[oa u, oi ip, oi nm] [(.ref u)])) rfl rfl (hb hby d10_1)
  obtain ⟨Tpt2, Hpt2, stpt2⟩ := zAs Hpt1 hx hZ 2 rfl h1 (g := (mkF m 6 #[oa u, oi ip, oi nm] [(.int nm), (.int ip), (.ref xl)])) rfl rfl (hb hby d10_6)
  change zR _ _ _ _ _ _ _ _ _ _ _ _ _ _ [(u, oc1 (.ref xb) (.ref xl) (.ref xp) (.int kk) (.ref nu) (.int cc)), (xb, zA .double (zK fb)), (xl, zA .int (zE (zD fl ip nm))), (xp, zA .int (zE fa)), (nu, oc2 (.int 4) (.ref xt) (.ref xs) (.int nn) .null (.int 0)), (xt, zA .int (zE ft)), (xs, zA .int [.int s0, .int 0, .int 0, .int s2, .int 0, .int 0, .int 0, .int 0, .int 0, .int s1, .int 0, .int 0, .int 0, .int s3, .int 0, .int 0])] _ _ at Hpt2
  obtain ⟨Tpt3, Hpt3, stpt3⟩ := zI Hpt2 hx hZ hown (zB hw 15 rfl) 0 2 rfl rfl (g := (mkF m 8 #[oa u, oi ip, oi nm] [(.ref u)])) rfl rfl (hb hby d10_8)
  obtain ⟨Tpt4, Hpt4, stpt4⟩ := zAs Hpt3 hx hZ 3 rfl h2 (g := (mkF m 13 #[oa u, oi ip, oi nm] [(.int ip), (.int nm), (.ref xp)])) rfl rfl (hb hby d10_13)
  change zR _ _ _ _ _ _ _ _ _ _ _ _ _ _ [(u, oc1 (.ref xb) (.ref xl) (.ref xp) (.int kk) (.ref nu) (.int cc)), (xb, zA .double (zK fb)), (xl, zA .int (zE (zD fl ip nm))), (xp, zA .int (zE (zD fa nm ip))), (nu, oc2 (.int 4) (.ref xt) (.ref xs) (.int nn) .null (.int 0)), (xt, zA .int (zE ft)), (xs, zA .int [.int s0, .int 0, .int 0, .int s2, .int 0, .int 0, .int 0, .int 0, .int 0, .int s1, .int 0, .int 0, .int 0, .int s3, .int 0, .int 0])] _ _ at Hpt4
  refine ⟨_, _, _, _, 14, #[oa u, oi ip, oi nm], Hpt4, by decide, by decide, Or.inl ⟨rfl, ⟨rfl, rfl⟩, d10_14, fun target q => ?_⟩⟩
  refine zC H0 hx hZ hown hby hw zCq (own_pt0 u ip nm) _ ?_
  refine stpt1 _ ?_
  refine zC Hpt1 hx hZ hown hby hw zCq (own_pt1 u ip nm xl) _ ?_
  refine stpt2 _ ?_
  refine zC Hpt2 hx hZ hown hby hw zCq (own_pt2 u ip nm) _ ?_
  refine stpt3 _ ?_
  refine zC Hpt3 hx hZ hown hby hw zCq (own_pt3 u ip nm xp) _ ?_
  refine stpt4 _ ?_
  exact q
theorem zAP {a b : Int} (h : a < b) : ((a : Int) : Rat) < ((b : Int) : Rat) := Rat.intCast_lt_intCast.mpr h
theorem zAo (u : Addr) (nm : Int32) :
    zF zk ok10 0 #[oa u, oi 0, oi nm, ou] [] 8 #[oa u, oi 0, oi nm, oi 1] [(.ref u), (.int 1)] := by
  refine zT (v := 2) (pc2 := 1) d11_0 rfl rfl ?_
  refine zM (pc2 := 2) d11_1 rfl rfl ?_
  refine zAq (pc2 := 3) d11_2 rfl (v := (0 : Int32)) (by decide) ?_
  refine zT (v := 1) (pc2 := 4) d11_3 rfl rfl ?_
  refine zAI (pc2 := 5) d11_4 rfl (v := (1 : Int32)) (by decide) ?_
  refine zAG (pc2 := 6) d11_5 rfl (L' := #[oa u, oi 0, oi nm, oi 1]) rfl ?_
  refine zM (pc2 := 7) d11_6 rfl rfl ?_
  refine zJ (pc2 := 8) d11_7 rfl rfl rfl ?_
  exact zH
theorem own_SD10_0_1 (u : Addr) (nm : Int32) :
    zF zk ok10 11 #[oa u, oi 0, oi nm, oi 1] [(.int 1), (.int 1)] 104 #[oa u, oi 0, oi nm, oi 1] [(.int nm), (.int 0), (.ref u)] := by
  refine zAJ (pc' := 101) d11_11 (by decide) (by decide) (by decide) ?_
  refine zJ (pc2 := 102) d11_101 rfl rfl rfl ?_
  refine zM (pc2 := 103) d11_102 rfl rfl ?_
  refine zM (pc2 := 104) d11_103 rfl rfl ?_
  exact zH
set_option maxRecDepth 65536 in
set_option maxHeartbeats 4000000 in
theorem own_SD10_0 (l : Launch) (Z : State) (a0 : Array Value) (hb0 : zU) (hw : ∀ d ∈ tables_1, d.before a0 Z = true) (u : Addr) (nm : Int32) (xb xl xp nu xt xs : Addr) (fb : Int32 → UInt64) (fl fa ft : Int32 → Int32) (kk nn : Int32) (s0 s1 s2 s3 : Int32) (X X0 : Int32 → Int) (H : zZ fa fl nn (1 : Int32) (0 : Int32) nm) (O : zO (zD fl (0 : Int32) nm) X0 (1 : Int32)) (hx0 : ∀ j, j ≠ nm → X0 j = X j) (hn0 : X nm ≤ X0 nm) (hn4 : ∀ j, zG nn j → zG 4 j) (hbD : ∀ j, zG nn j → zN (fb j) ((X j : Int) : Rat)) :
    zX l Z a0 hb0 (⟨"com/example/tidewise/tidewise/search/UpperBounds", "siftDown", "(II)V"⟩ : MethodName) ok10 4 none [] ({ frames := 1, cells := 0, slots := 0, locals := 14 } : Room) #[(.ref u), (.int 0), (.int nm)] [(u, oc1 (.ref xb) (.ref xl) (.ref xp) (.int kk) (.ref nu) (.int 1)), (xb, zA .double (zK fb)), (xl, zA .int (zE fl)), (xp, zA .int (zE fa)), (nu, oc2 (.int 4) (.ref xt) (.ref xs) (.int nn) .null (.int 0)), (xt, zA .int (zE ft)), (xs, zA .int [.int s0, .int 0, .int 0, .int s2, .int 0, .int 0, .int 0, .int 0, .int 0, .int s1, .int 0, .int 0, .int 0, .int s3, .int 0, .int 0])] (fun r cs' => ∃ fl' fa' : Int32 → Int32, zY fa' fl' nn (1 : Int32) ∧ zO fl' X (1 : Int32) ∧ X (fl' 0) ≤ X0 (zD fl (0 : Int32) nm 0) ∧ (∀ j, fa' j = -1 → j ≠ nm ∧ fa j = -1) ∧ r = none ∧ cs' = [(u, oc1 (.ref xb) (.ref xl) (.ref xp) (.int kk) (.ref nu) (.int 1)), (xb, zA .double (zK fb)), (xl, zA .int (zE fl')), (xp, zA .int (zE fa')), (nu, oc2 (.int 4) (.ref xt) (.ref xs) (.int nn) .null (.int 0)), (xt, zA .int (zE ft)), (xs, zA .int [.int s0, .int 0, .int 0, .int s2, .int 0, .int 0, .int 0, .int 0, .int 0, .int s1, .int 0, .int 0, .int 0, .int s3, .int 0, .int 0])]) := by
  refine zh (L0 := #[oa u, oi 0, oi nm, ou]) (plainFor_of_name zAV) (fun m => zAX m u (0 : Int32) nm) ?_
  intro p e s m below meth c T0 hx hZ hown hby hml hnm H0
  obtain ⟨TSD10_0_1, HSD10_0_1, stSD10_0_1⟩ := zI H0 hx hZ hown (zB hw 64 rfl) 0 5 rfl rfl (g := (mkF m 8 #[oa u, oi 0, oi nm, oi 1] [(.ref u), (.int 1)])) rfl rfl (hb hby d11_8)
  obtain ⟨TSD10_0_2, vSD10_0_2_, csSD10_0_2_, qSD10_0_2, HSD10_0_2, stSD10_0_2⟩ := zo HSD10_0_1 hx hZ hown (zB hw 70 rfl) (zB hw 71 rfl) (zB hw 72 rfl) (zB hw 1 rfl) (zB hw 2 rfl) (zB hw 73 rfl) (by decide) (x := u) 0 rfl (argsL := [(.int 0), (.int nm)]) (rest := []) (W := 0) (zu l Z a0 hb0 hw u (0 : Int32) nm xb xl xp nu xt xs fb fl fa ft kk (1 : Int32) nn s0 s1 s2 s3 ⟨by decide, by decide⟩ (hn4 _ H.p2)) (by decide) (by decide) (by decide) (by decide) (g := (mkF m 104 #[oa u, oi 0, oi nm, oi 1] [(.int nm), (.int 0), (.ref u)])) rfl (by rw [hml]; rfl) (lenOf zq rfl) rfl (by show 2 * 0 + _ ≤ _; exact Nat.le_of_eq rfl) (hb hby d11_104)
  obtain ⟨rfl, rfl⟩ := qSD10_0_2
  have q := own_sd10_0 H O hx0 hn0 
  refine ⟨_, _, _, _, 107, #[oa u, oi 0, oi nm, oi 1], HSD10_0_2, by decide, by decide, Or.inl ⟨rfl, ⟨_, _, q.1, q.2.1, q.2.2.1, q.2.2.2, rfl, rfl⟩, d11_107, fun target q => ?_⟩⟩
  refine zC H0 hx hZ hown hby hw zL (zAo u nm) _ ?_
  refine stSD10_0_1 _ ?_
  refine zC HSD10_0_1 hx hZ hown hby hw zL (own_SD10_0_1 u nm) _ ?_
  refine stSD10_0_2 _ ?_
  exact q
theorem own_SD10 (l : Launch) (Z : State) (a0 : Array Value) (hb0 : zU) (hw : ∀ d ∈ tables_1, d.before a0 Z = true) (u : Addr) (nm : Int32) (xb xl xp nu xt xs : Addr) (fb : Int32 → UInt64) (fl fa ft : Int32 → Int32) (kk nn : Int32) (s0 s1 s2 s3 : Int32) (X X0 : Int32 → Int) (H : zZ fa fl nn (1 : Int32) (0 : Int32) nm) (O : zO (zD fl (0 : Int32) nm) X0 (1 : Int32)) (hx0 : ∀ j, j ≠ nm → X0 j = X j) (hn0 : X nm ≤ X0 nm) (hn4 : ∀ j, zG nn j → zG 4 j) (hbD : ∀ j, zG nn j → zN (fb j) ((X j : Int) : Rat)) :
    zX l Z a0 hb0 (⟨"com/example/tidewise/tidewise/search/UpperBounds", "siftDown", "(II)V"⟩ : MethodName) ok10 4 none [] ({ frames := 1, cells := 0, slots := 0, locals := 14 } : Room) #[(.ref u), (.int 0), (.int nm)] [(u, oc1 (.ref xb) (.ref xl) (.ref xp) (.int kk) (.ref nu) (.int 1)), (xb, zA .double (zK fb)), (xl, zA .int (zE fl)), (xp, zA .int (zE fa)), (nu, oc2 (.int 4) (.ref xt) (.ref xs) (.int nn) .null (.int 0)), (xt, zA .int (zE ft)), (xs, zA .int [.int s0, .int 0, .int 0, .int s2, .int 0, .int 0, .int 0, .int 0, .int 0, .int s1, .int 0, .int 0, .int 0, .int s3, .int 0, .int 0])] (fun r cs' => ∃ fl' fa' : Int32 → Int32, zY fa' fl' nn (1 : Int32) ∧ zO fl' X (1 : Int32) ∧ X (fl' 0) ≤ X0 (zD fl (0 : Int32) nm 0) ∧ (∀ j, fa' j = -1 → j ≠ nm ∧ fa j = -1) ∧ r = none ∧ cs' = [(u, oc1 (.ref xb) (.ref xl) (.ref xp) (.int kk) (.ref nu) (.int 1)), (xb, zA .double (zK fb)), (xl, zA .int (zE fl')), (xp, zA .int (zE fa')), (nu, oc2 (.int 4) (.ref xt) (.ref xs) (.int nn) .null (.int 0)), (xt, zA .int (zE ft)), (xs, zA .int [.int s0, .int 0, .int 0, .int s2, .int 0, .int 0, .int 0, .int 0, .int 0, .int s1, .int 0, .int 0, .int 0, .int s3, .int 0, .int 0])]) := by
  exact own_SD10_0 l Z a0 hb0 hw u nm xb xl xp nu xt xs fb fl fa ft kk nn s0 s1 s2 s3 X X0 H O hx0 hn0 hn4 hbD 
theorem own_SD20_0_1 (u : Addr) (nm : Int32) :
    zF zk ok10 11 #[oa u, oi 0, oi nm, oi 1] [(.int 2), (.int 1)] 18 #[oa u, oi 0, oi nm, oi 1] [(.ref u), (.int 2)] := by
  refine zAw (pc2 := 14) d11_11 rfl (by decide) ?_
  refine zM (pc2 := 15) d11_14 rfl rfl ?_
  refine zT (v := 1) (pc2 := 16) d11_15 rfl rfl ?_
  refine zAI (pc2 := 17) d11_16 rfl (v := (2 : Int32)) (by decide) ?_
  refine zJ (pc2 := 18) d11_17 rfl rfl rfl ?_
  exact zH
theorem own_SD20_0_2 (u : Addr) (nm : Int32) :
    zF zk ok10 21 #[oa u, oi 0, oi nm, oi 1] [(.int 2), (.int 2)] 56 #[oa u, oi 0, oi nm, oi 1] [(.ref u)] := by
  refine zAJ (pc' := 55) d11_21 (by decide) (by decide) (by decide) ?_
  refine zJ (pc2 := 56) d11_55 rfl rfl rfl ?_
  exact zH
theorem zBn (u : Addr) (nm : Int32) (xb : Addr) :
    zF zk ok10 59 #[oa u, oi 0, oi nm, oi 1] [(.ref xb)] 60 #[oa u, oi 0, oi nm, oi 1] [(.ref u), (.ref xb)] := by
  refine zJ (pc2 := 60) d11_59 rfl rfl rfl ?_
  exact zH
theorem zBo (u : Addr) (nm : Int32) (xl : Addr) (xb : Addr) :
    zF zk ok10 63 #[oa u, oi 0, oi nm, oi 1] [(.ref xl), (.ref xb)] 64 #[oa u, oi 0, oi nm, oi 1] [(.int 1), (.ref xl), (.ref xb)] := by
  refine zM (pc2 := 64) d11_63 rfl rfl ?_
  exact zH
theorem own_SD20_0_5 (u : Addr) (nm : Int32) (w1 : UInt64) :
    zF zk ok10 66 #[oa u, oi 0, oi nm, oi 1] [(.double w1)] 67 #[oa u, oi 0, oi nm, oi 1] [(.ref u), (.double w1)] := by
  refine zJ (pc2 := 67) d11_66 rfl rfl rfl ?_
  exact zH
theorem own_SD20_0_6 (u : Addr) (nm : Int32) (xb : Addr) (w1 : UInt64) :
    zF zk ok10 70 #[oa u, oi 0, oi nm, oi 1] [(.ref xb), (.double w1)] 71 #[oa u, oi 0, oi nm, oi 1] [(.int nm), (.ref xb), (.double w1)] := by
  refine zM (pc2 := 71) d11_70 rfl rfl ?_
  exact zH
theorem own_SD20_0_7 (u : Addr) (nm : Int32) (w2 : UInt64) (w1 : UInt64) (v72 : Int32) (hv72 : (cmpValue (FP.dcmp w1 w2) .g) = v72) (hb73_0 : ifCond.holds .gt v72 = false) :
    zF zk ok10 72 #[oa u, oi 0, oi nm, oi 1] [(.double w2), (.double w1)] 104 #[oa u, oi 0, oi nm, oi 1] [(.int nm), (.int 0), (.ref u)] := by
  refine zAD (pc2 := 73) d11_72 rfl (v := v72) hv72 ?_
  refine zy (pc2 := 76) d11_73 rfl hb73_0 ?_
  refine zAN (pc' := 101) d11_76 (by decide) (by decide) ?_
  refine zJ (pc2 := 102) d11_101 rfl rfl rfl ?_
  refine zM (pc2 := 103) d11_102 rfl rfl ?_
  refine zM (pc2 := 104) d11_103 rfl rfl ?_
  exact zH
set_option maxRecDepth 65536 in
set_option maxHeartbeats 4000000 in
theorem own_SD20_0 (l : Launch) (Z : State) (a0 : Array Value) (hb0 : zU) (hw : ∀ d ∈ tables_1, d.before a0 Z = true) (u : Addr) (nm : Int32) (xb xl xp nu xt xs : Addr) (fb : Int32 → UInt64) (fl fa ft : Int32 → Int32) (kk nn : Int32) (s0 s1 s2 s3 : Int32) (X X0 : Int32 → Int) (H : zZ fa fl nn (2 : Int32) (0 : Int32) nm) (O : zO (zD fl (0 : Int32) nm) X0 (2 : Int32)) (hx0 : ∀ j, j ≠ nm → X0 j = X j) (hn0 : X nm ≤ X0 nm) (hn4 : ∀ j, zG nn j → zG 4 j) (hbD : ∀ j, zG nn j → zN (fb j) ((X j : Int) : Rat)) (d0 : X (fl (1 : Int32)) ≤ X nm) :
    zX l Z a0 hb0 (⟨"com/example/tidewise/tidewise/search/UpperBounds", "siftDown", "(II)V"⟩ : MethodName) ok10 4 none [] ({ frames := 1, cells := 0, slots := 0, locals := 14 } : Room) #[(.ref u), (.int 0), (.int nm)] [(u, oc1 (.ref xb) (.ref xl) (.ref xp) (.int kk) (.ref nu) (.int 2)), (xb, zA .double (zK fb)), (xl, zA .int (zE fl)), (xp, zA .int (zE fa)), (nu, oc2 (.int 4) (.ref xt) (.ref xs) (.int nn) .null (.int 0)), (xt, zA .int (zE ft)), (xs, zA .int [.int s0, .int 0, .int 0, .int s2, .int 0, .int 0, .int 0, .int 0, .int 0, .int s1, .int 0, .int 0, .int 0, .int s3, .int 0, .int 0])] (fun r cs' => ∃ fl' fa' : Int32 → Int32, zY fa' fl' nn (2 : Int32) ∧ zO fl' X (2 : Int32) ∧ X (fl' 0) ≤ X0 (zD fl (0 : Int32) nm 0) ∧ (∀ j, fa' j = -1 → j ≠ nm ∧ fa j = -1) ∧ r = none ∧ cs' = [(u, oc1 (.ref xb) (.ref xl) (.ref xp) (.int kk) (.ref nu) (.int 2)), (xb, zA .double (zK fb)), (xl, zA .int (zE fl')), (xp, zA .int (zE fa')), (nu, oc2 (.int 4) (.ref xt) (.ref xs) (.int nn) .null (.int 0)), (xt, zA .int (zE ft)), (xs, zA .int [.int s0, .int 0, .int 0, .int s2, .int 0, .int 0, .int 0, .int 0, .int 0, .int s1, .int 0, .int 0, .int 0, .int s3, .int 0, .int 0])]) := by
  refine zh (L0 := #[oa u, oi 0, oi nm, ou]) (plainFor_of_name zAV) (fun m => zAX m u (0 : Int32) nm) ?_
  intro p e s m below meth c T0 hx hZ hown hby hml hnm H0
  obtain ⟨TSD20_0_1, HSD20_0_1, stSD20_0_1⟩ := zI H0 hx hZ hown (zB hw 64 rfl) 0 5 rfl rfl (g := (mkF m 8 #[oa u, oi 0, oi nm, oi 1] [(.ref u), (.int 1)])) rfl rfl (hb hby d11_8)
  obtain ⟨TSD20_0_2, HSD20_0_2, stSD20_0_2⟩ := zI HSD20_0_1 hx hZ hown (zB hw 64 rfl) 0 5 rfl rfl (g := (mkF m 18 #[oa u, oi 0, oi nm, oi 1] [(.ref u), (.int 2)])) rfl rfl (hb hby d11_18)
  obtain ⟨TSD20_0_3, HSD20_0_3, stSD20_0_3⟩ := zI HSD20_0_2 hx hZ hown (zB hw 10 rfl) 0 0 rfl rfl (g := (mkF m 56 #[oa u, oi 0, oi nm, oi 1] [(.ref u)])) rfl rfl (hb hby d11_56)
  obtain ⟨TSD20_0_4, HSD20_0_4, stSD20_0_4⟩ := zI HSD20_0_3 hx hZ hown (zB hw 13 rfl) 0 1 rfl rfl (g := (mkF m 60 #[oa u, oi 0, oi nm, oi 1] [(.ref u), (.ref xb)])) rfl rfl (hb hby d11_60)
  obtain ⟨w0, hw0⟩ : ∃ z, fl (1 : Int32) = z := ⟨_, rfl⟩
  have ew0 : w0 = fl (1 : Int32) := by rw [← hw0]
  have mw0 : zG nn w0 := by rw [ew0]; exact (H.p1 (1 : Int32) ⟨by decide, by decide⟩ (by decide)).1
  have iw0 := hn4 _ mw0
  obtain ⟨w1, hw1⟩ : ∃ z, fb w0 = z := ⟨_, rfl⟩
  have vw1 : zN w1 ((X w0 : Int) : Rat) := by rw [← hw1]; exact hbD _ mw0
  obtain ⟨TSD20_0_7, HSD20_0_7, stSD20_0_7⟩ := zI HSD20_0_4 hx hZ hown (zB hw 10 rfl) 0 0 rfl rfl (g := (mkF m 67 #[oa u, oi 0, oi nm, oi 1] [(.ref u), (.double w1)])) rfl rfl (hb hby d11_67)
  obtain ⟨w2, hw2⟩ : ∃ z, fb nm = z := ⟨_, rfl⟩
  have vw2 : zN w2 ((X nm : Int) : Rat) := by rw [← hw2]; exact hbD _ H.p2
  obtain ⟨v72, hv72⟩ : ∃ z : Int32, (cmpValue (FP.dcmp w1 w2) .g) = z := ⟨_, rfl⟩
  obtain ⟨TSD20_0_9, vSD20_0_9_, csSD20_0_9_, qSD20_0_9, HSD20_0_9, stSD20_0_9⟩ := zo HSD20_0_7 hx hZ hown (zB hw 70 rfl) (zB hw 71 rfl) (zB hw 72 rfl) (zB hw 1 rfl) (zB hw 2 rfl) (zB hw 73 rfl) (by decide) (x := u) 0 rfl (argsL := [(.int 0), (.int nm)]) (rest := []) (W := 0) (zu l Z a0 hb0 hw u (0 : Int32) nm xb xl xp nu xt xs fb fl fa ft kk (2 : Int32) nn s0 s1 s2 s3 ⟨by decide, by decide⟩ (hn4 _ H.p2)) (by decide) (by decide) (by decide) (by decide) (g := (mkF m 104 #[oa u, oi 0, oi nm, oi 1] [(.int nm), (.int 0), (.ref u)])) rfl (by rw [hml]; rfl) (lenOf zq rfl) rfl (by show 2 * 0 + _ ≤ _; exact Nat.le_of_eq rfl) (hb hby d11_104)
  obtain ⟨rfl, rfl⟩ := qSD20_0_9
  have d0' := d0
  rw [← ew0] at d0'
  have hb73_0 : ifCond.holds .gt v72 = false := by
    rw [← hv72, zAc vw1 vw2]
    exact decide_eq_false (Rat.not_lt.mpr (zAS d0'))
  have q := own_sd20_0 H O hx0 hn0 d0
  refine ⟨_, _, _, _, 107, #[oa u, oi 0, oi nm, oi 1], HSD20_0_9, by decide, by decide, Or.inl ⟨rfl, ⟨_, _, q.1, q.2.1, q.2.2.1, q.2.2.2, rfl, rfl⟩, d11_107, fun target q => ?_⟩⟩
  refine zC H0 hx hZ hown hby hw zL (zAo u nm) _ ?_
  refine stSD20_0_1 _ ?_
  refine zC HSD20_0_1 hx hZ hown hby hw zL (own_SD20_0_1 u nm) _ ?_
  refine stSD20_0_2 _ ?_
  refine zC HSD20_0_2 hx hZ hown hby hw zL (own_SD20_0_2 u nm) _ ?_
  refine stSD20_0_3 _ ?_
  refine zC HSD20_0_3 hx hZ hown hby hw zL (zBn u nm xb) _ ?_
  refine stSD20_0_4 _ ?_
  refine zC HSD20_0_4 hx hZ hown hby hw zL (zBo u nm xl xb) _ ?_
  refine zf HSD20_0_4 hx hZ 2 rfl ⟨by decide, by decide⟩ hw0 (g := (mkF m 64 #[oa u, oi 0, oi nm, oi 1] [(.int 1), (.ref xl), (.ref xb)])) rfl rfl (hb hby d11_64) _ ?_
  refine zd HSD20_0_4 hx hZ 1 rfl iw0 hw1 (g := (mkF m 65 #[oa u, oi 0, oi nm, oi 1] [(.int w0), (.ref xb)])) rfl rfl (hb hby d11_65) _ ?_
  refine zC HSD20_0_4 hx hZ hown hby hw zL (own_SD20_0_5 u nm w1) _ ?_
  refine stSD20_0_7 _ ?_
  refine zC HSD20_0_7 hx hZ hown hby hw zL (own_SD20_0_6 u nm xb w1) _ ?_
  refine zd HSD20_0_7 hx hZ 1 rfl (hn4 _ H.p2) hw2 (g := (mkF m 71 #[oa u, oi 0, oi nm, oi 1] [(.int nm), (.ref xb), (.double w1)])) rfl rfl (hb hby d11_71) _ ?_
  refine zC HSD20_0_7 hx hZ hown hby hw zL (own_SD20_0_7 u nm w2 w1 v72 hv72 hb73_0) _ ?_
  refine stSD20_0_9 _ ?_
  exact q
theorem own_SD20_1_7 (u : Addr) (nm : Int32) (w2 : UInt64) (w1 : UInt64) (v72 : Int32) (hv72 : (cmpValue (FP.dcmp w1 w2) .g) = v72) (hb73_0 : ifCond.holds .gt v72 = true) :
    zF zk ok10 72 #[oa u, oi 0, oi nm, oi 1] [(.double w2), (.double w1)] 82 #[oa u, oi 0, oi nm, oi 1] [(.ref u), (.int 0), (.ref u)] := by
  refine zAD (pc2 := 73) d11_72 rfl (v := v72) hv72 ?_
  refine zx (pc' := 79) d11_73 hb73_0 (by decide) (by decide) ?_
  refine zJ (pc2 := 80) d11_79 rfl rfl rfl ?_
  refine zM (pc2 := 81) d11_80 rfl rfl ?_
  refine zJ (pc2 := 82) d11_81 rfl rfl rfl ?_
  exact zH
theorem zCs (u : Addr) (nm : Int32) (xl : Addr) :
    zF zk ok10 85 #[oa u, oi 0, oi nm, oi 1] [(.ref xl), (.int 0), (.ref u)] 86 #[oa u, oi 0, oi nm, oi 1] [(.int 1), (.ref xl), (.int 0), (.ref u)] := by
  refine zM (pc2 := 86) d11_85 rfl rfl ?_
  exact zH
theorem zCt (u : Addr) (nm : Int32) :
    zF zk ok10 90 #[oa u, oi 0, oi nm, oi 1] [] 8 #[oa u, oi 1, oi nm, oi 3] [(.ref u), (.int 3)] := by
  refine zM (pc2 := 91) d11_90 rfl rfl ?_
  refine zAG (pc2 := 92) d11_91 rfl (L' := #[oa u, oi 1, oi nm, oi 1]) rfl ?_
  refine zT (v := 2) (pc2 := 93) d11_92 rfl rfl ?_
  refine zM (pc2 := 94) d11_93 rfl rfl ?_
  refine zAq (pc2 := 95) d11_94 rfl (v := (2 : Int32)) (by decide) ?_
  refine zT (v := 1) (pc2 := 96) d11_95 rfl rfl ?_
  refine zAI (pc2 := 97) d11_96 rfl (v := (3 : Int32)) (by decide) ?_
  refine zAG (pc2 := 98) d11_97 rfl (L' := #[oa u, oi 1, oi nm, oi 3]) rfl ?_
  refine zAN (pc' := 6) d11_98 (by decide) (by decide) ?_
  refine zM (pc2 := 7) d11_6 rfl rfl ?_
  refine zJ (pc2 := 8) d11_7 rfl rfl rfl ?_
  exact zH
theorem own_SD20_1_10 (u : Addr) (nm : Int32) :
    zF zk ok10 11 #[oa u, oi 1, oi nm, oi 3] [(.int 2), (.int 3)] 104 #[oa u, oi 1, oi nm, oi 3] [(.int nm), (.int 1), (.ref u)] := by
  refine zAJ (pc' := 101) d11_11 (by decide) (by decide) (by decide) ?_
  refine zJ (pc2 := 102) d11_101 rfl rfl rfl ?_
  refine zM (pc2 := 103) d11_102 rfl rfl ?_
  refine zM (pc2 := 104) d11_103 rfl rfl ?_
  exact zH
set_option maxRecDepth 65536 in
set_option maxHeartbeats 4000000 in
theorem own_SD20_1 (l : Launch) (Z : State) (a0 : Array Value) (hb0 : zU) (hw : ∀ d ∈ tables_1, d.before a0 Z = true) (u : Addr) (nm : Int32) (xb xl xp nu xt xs : Addr) (fb : Int32 → UInt64) (fl fa ft : Int32 → Int32) (kk nn : Int32) (s0 s1 s2 s3 : Int32) (X X0 : Int32 → Int) (H : zZ fa fl nn (2 : Int32) (0 : Int32) nm) (O : zO (zD fl (0 : Int32) nm) X0 (2 : Int32)) (hx0 : ∀ j, j ≠ nm → X0 j = X j) (hn0 : X nm ≤ X0 nm) (hn4 : ∀ j, zG nn j → zG 4 j) (hbD : ∀ j, zG nn j → zN (fb j) ((X j : Int) : Rat)) (d0 : X nm < X (fl (1 : Int32))) :
    zX l Z a0 hb0 (⟨"com/example/tidewise/tidewise/search/UpperBounds", "siftDown", "(II)V"⟩ : MethodName) ok10 4 none [] ({ frames := 1, cells := 0, slots := 0, locals := 14 } : Room) #[(.ref u), (.int 0), (.int nm)] [(u, oc1 (.ref xb) (.ref xl) (.ref xp) (.int kk) (.ref nu) (.int 2)), (xb, zA .double (zK fb)), (xl, zA .int (zE fl)), (xp, zA .int (zE fa)), (nu, oc2 (.int 4) (.ref xt) (.ref xs) (.int nn) .null (.int 0)), (xt, zA .int (zE ft)), (xs, zA .int [.int s0, .int 0, .int 0, .int s2, .int 0, .int 0, .int 0, .int 0, .int 0, .int s1, .int 0, .int 0, .int 0, .int s3, .int 0, .int 0])] (fun r cs' => ∃ fl' fa' : Int32 → Int32, zY fa' fl' nn (2 : Int32) ∧ zO fl' X (2 : Int32) ∧ X (fl' 0) ≤ X0 (zD fl (0 : Int32) nm 0) ∧ (∀ j, fa' j = -1 → j ≠ nm ∧ fa j = -1) ∧ r = none ∧ cs' = [(u, oc1 (.ref xb) (.ref xl) (.ref xp) (.int kk) (.ref nu) (.int 2)), (xb, zA .double (zK fb)), (xl, zA .int (zE fl')), (xp, zA .int (zE fa')), (nu, oc2 (.int 4) (.ref xt) (.ref xs) (.int nn) .null (.int 0)), (xt, zA .int (zE ft)), (xs, zA .int [.int s0, .int 0, .int 0, .int s2, .int 0, .int 0, .int 0, .int 0, .int 0, .int s1, .int 0, .int 0, .int 0, .int s3, .int 0, .int 0])]) := by
  refine zh (L0 := #[oa u, oi 0, oi nm, ou]) (plainFor_of_name zAV) (fun m => zAX m u (0 : Int32) nm) ?_
  intro p e s m below meth c T0 hx hZ hown hby hml hnm H0
  obtain ⟨TSD20_1_1, HSD20_1_1, stSD20_1_1⟩ := zI H0 hx hZ hown (zB hw 64 rfl) 0 5 rfl rfl (g := (mkF m 8 #[oa u, oi 0, oi nm, oi 1] [(.ref u), (.int 1)])) rfl rfl (hb hby d11_8)
  obtain ⟨TSD20_1_2, HSD20_1_2, stSD20_1_2⟩ := zI HSD20_1_1 hx hZ hown (zB hw 64 rfl) 0 5 rfl rfl (g := (mkF m 18 #[oa u, oi 0, oi nm, oi 1] [(.ref u), (.int 2)])) rfl rfl (hb hby d11_18)
  obtain ⟨TSD20_1_3, HSD20_1_3, stSD20_1_3⟩ := zI HSD20_1_2 hx hZ hown (zB hw 10 rfl) 0 0 rfl rfl (g := (mkF m 56 #[oa u, oi 0, oi nm, oi 1] [(.ref u)])) rfl rfl (hb hby d11_56)
  obtain ⟨TSD20_1_4, HSD20_1_4, stSD20_1_4⟩ := zI HSD20_1_3 hx hZ hown (zB hw 13 rfl) 0 1 rfl rfl (g := (mkF m 60 #[oa u, oi 0, oi nm, oi 1] [(.ref u), (.ref xb)])) rfl rfl (hb hby d11_60)
  obtain ⟨w0, hw0⟩ : ∃ z, fl (1 : Int32) = z := ⟨_, rfl⟩
  have ew0 : w0 = fl (1 : Int32) := by rw [← hw0]
  have mw0 : zG nn w0 := by rw [ew0]; exact (H.p1 (1 : Int32) ⟨by decide, by decide⟩ (by decide)).1
  have iw0 := hn4 _ mw0
  obtain ⟨w1, hw1⟩ : ∃ z, fb w0 = z := ⟨_, rfl⟩
  have vw1 : zN w1 ((X w0 : Int) : Rat) := by rw [← hw1]; exact hbD _ mw0
  obtain ⟨TSD20_1_7, HSD20_1_7, stSD20_1_7⟩ := zI HSD20_1_4 hx hZ hown (zB hw 10 rfl) 0 0 rfl rfl (g := (mkF m 67 #[oa u, oi 0, oi nm, oi 1] [(.ref u), (.double w1)])) rfl rfl (hb hby d11_67)
  obtain ⟨w2, hw2⟩ : ∃ z, fb nm = z := ⟨_, rfl⟩
  have vw2 : zN w2 ((X nm : Int) : Rat) := by rw [← hw2]; exact hbD _ H.p2
  obtain ⟨v72, hv72⟩ : ∃ z : Int32, (cmpValue (FP.dcmp w1 w2) .g) = z := ⟨_, rfl⟩
  obtain ⟨TSD20_1_9, HSD20_1_9, stSD20_1_9⟩ := zI HSD20_1_7 hx hZ hown (zB hw 13 rfl) 0 1 rfl rfl (g := (mkF m 82 #[oa u, oi 0, oi nm, oi 1] [(.ref u), (.int 0), (.ref u)])) rfl rfl (hb hby d11_82)
  obtain ⟨w3, hw3⟩ : ∃ z, fl (1 : Int32) = z := ⟨_, rfl⟩
  have ew3 : w3 = fl (1 : Int32) := by rw [← hw3]
  have mw3 : zG nn w3 := by rw [ew3]; exact (H.p1 (1 : Int32) ⟨by decide, by decide⟩ (by decide)).1
  have iw3 := hn4 _ mw3
  obtain ⟨TSD20_1_11, vSD20_1_11_, csSD20_1_11_, qSD20_1_11, HSD20_1_11, stSD20_1_11⟩ := zo HSD20_1_9 hx hZ hown (zB hw 70 rfl) (zB hw 71 rfl) (zB hw 72 rfl) (zB hw 1 rfl) (zB hw 2 rfl) (zB hw 73 rfl) (by decide) (x := u) 0 rfl (argsL := [(.int 0), (.int w3)]) (rest := []) (W := 0) (zu l Z a0 hb0 hw u (0 : Int32) w3 xb xl xp nu xt xs fb fl fa ft kk (2 : Int32) nn s0 s1 s2 s3 ⟨by decide, by decide⟩ iw3) (by decide) (by decide) (by decide) (by decide) (g := (mkF m 87 #[oa u, oi 0, oi nm, oi 1] [(.int w3), (.int 0), (.ref u)])) rfl (by rw [hml]; rfl) (lenOf zq rfl) rfl (by show 2 * 0 + _ ≤ _; exact Nat.le_of_eq rfl) (hb hby d11_87)
  obtain ⟨rfl, rfl⟩ := qSD20_1_11
  obtain ⟨TSD20_1_12, HSD20_1_12, stSD20_1_12⟩ := zI HSD20_1_11 hx hZ hown (zB hw 64 rfl) 0 5 rfl rfl (g := (mkF m 8 #[oa u, oi 1, oi nm, oi 3] [(.ref u), (.int 3)])) rfl rfl (hb hby d11_8)
  obtain ⟨TSD20_1_13, vSD20_1_13_, csSD20_1_13_, qSD20_1_13, HSD20_1_13, stSD20_1_13⟩ := zo HSD20_1_12 hx hZ hown (zB hw 70 rfl) (zB hw 71 rfl) (zB hw 72 rfl) (zB hw 1 rfl) (zB hw 2 rfl) (zB hw 73 rfl) (by decide) (x := u) 0 rfl (argsL := [(.int 1), (.int nm)]) (rest := []) (W := 0) (zu l Z a0 hb0 hw u (1 : Int32) nm xb xl xp nu xt xs fb (zD fl (0 : Int32) w3) (zD fa w3 (0 : Int32)) ft kk (2 : Int32) nn s0 s1 s2 s3 ⟨by decide, by decide⟩ (hn4 _ H.p2)) (by decide) (by decide) (by decide) (by decide) (g := (mkF m 104 #[oa u, oi 1, oi nm, oi 3] [(.int nm), (.int 1), (.ref u)])) rfl (by rw [hml]; rfl) (lenOf zq rfl) rfl (by show 2 * 0 + _ ≤ _; exact Nat.le_of_eq rfl) (hb hby d11_104)
  obtain ⟨rfl, rfl⟩ := qSD20_1_13
  have d0' := d0
  rw [← ew0] at d0'
  have hb73_0 : ifCond.holds .gt v72 = true := by
    rw [← hv72, zAc vw1 vw2]
    exact decide_eq_true (zAP d0')
  have q := own_sd20_1 H O hx0 hn0 d0
  rw [← ew3] at q
  refine ⟨_, _, _, _, 107, #[oa u, oi 1, oi nm, oi 3], HSD20_1_13, by decide, by decide, Or.inl ⟨rfl, ⟨_, _, q.1, q.2.1, q.2.2.1, q.2.2.2, rfl, rfl⟩, d11_107, fun target q => ?_⟩⟩
  refine zC H0 hx hZ hown hby hw zL (zAo u nm) _ ?_
  refine stSD20_1_1 _ ?_
  refine zC HSD20_1_1 hx hZ hown hby hw zL (own_SD20_0_1 u nm) _ ?_
  refine stSD20_1_2 _ ?_
  refine zC HSD20_1_2 hx hZ hown hby hw zL (own_SD20_0_2 u nm) _ ?_
  refine stSD20_1_3 _ ?_
  refine zC HSD20_1_3 hx hZ hown hby hw zL (zBn u nm xb) _ ?_
  refine stSD20_1_4 _ ?_
  refine zC HSD20_1_4 hx hZ hown hby hw zL (zBo u nm xl xb) _ ?_
  refine zf HSD20_1_4 hx hZ 2 rfl ⟨by decide, by decide⟩ hw0 (g := (mkF m 64 #[oa u, oi 0, oi nm, oi 1] [(.int 1), (.ref xl), (.ref xb)])) rfl rfl (hb hby d11_64) _ ?_
  refine zd HSD20_1_4 hx hZ 1 rfl iw0 hw1 (g := (mkF m 65 #[oa u, oi 0, oi nm, oi 1] [(.int w0), (.ref xb)])) rfl rfl (hb hby d11_65) _ ?_
  refine zC HSD20_1_4 hx hZ hown hby hw zL (own_SD20_0_5 u nm w1) _ ?_
  refine stSD20_1_7 _ ?_
  refine zC HSD20_1_7 hx hZ hown hby hw zL (own_SD20_0_6 u nm xb w1) _ ?_
  refine zd HSD20_1_7 hx hZ 1 rfl (hn4 _ H.p2) hw2 (g := (mkF m 71 #[oa u, oi 0, oi nm, oi 1] [(.int nm), (.ref xb), (.double w1)])) rfl rfl (hb hby d11_71) _ ?_
  refine zC HSD20_1_7 hx hZ hown hby hw zL (own_SD20_1_7 u nm w2 w1 v72 hv72 hb73_0) _ ?_
  refine stSD20_1_9 _ ?_
  refine zC HSD20_1_9 hx hZ hown hby hw zL (zCs u nm xl) _ ?_
  refine zf HSD20_1_9 hx hZ 2 rfl ⟨by decide, by decide⟩ hw3 (g := (mkF m 86 #[oa u, oi 0, oi nm, oi 1] [(.int 1), (.ref xl), (.int 0), (.ref u)])) rfl rfl (hb hby d11_86) _ ?_
  refine stSD20_1_11 _ ?_
  refine zC HSD20_1_11 hx hZ hown hby hw zL (zCt u nm) _ ?_
  refine stSD20_1_12 _ ?_
  refine zC HSD20_1_12 hx hZ hown hby hw zL (own_SD20_1_10 u nm) _ ?_
  refine stSD20_1_13 _ ?_
  exact q
theorem own_SD20 (l : Launch) (Z : State) (a0 : Array Value) (hb0 : zU) (hw : ∀ d ∈ tables_1, d.before a0 Z = true) (u : Addr) (nm : Int32) (xb xl xp nu xt xs : Addr) (fb : Int32 → UInt64) (fl fa ft : Int32 → Int32) (kk nn : Int32) (s0 s1 s2 s3 : Int32) (X X0 : Int32 → Int) (H : zZ fa fl nn (2 : Int32) (0 : Int32) nm) (O : zO (zD fl (0 : Int32) nm) X0 (2 : Int32)) (hx0 : ∀ j, j ≠ nm → X0 j = X j) (hn0 : X nm ≤ X0 nm) (hn4 : ∀ j, zG nn j → zG 4 j) (hbD : ∀ j, zG nn j → zN (fb j) ((X j : Int) : Rat)) :
    zX l Z a0 hb0 (⟨"com/example/tidewise/tidewise/search/UpperBounds", "siftDown", "(II)V"⟩ : MethodName) ok10 4 none [] ({ frames := 1, cells := 0, slots := 0, locals := 14 } : Room) #[(.ref u), (.int 0), (.int nm)] [(u, oc1 (.ref xb) (.ref xl) (.ref xp) (.int kk) (.ref nu) (.int 2)), (xb, zA .double (zK fb)), (xl, zA .int (zE fl)), (xp, zA .int (zE fa)), (nu, oc2 (.int 4) (.ref xt) (.ref xs) (.int nn) .null (.int 0)), (xt, zA .int (zE ft)), (xs, zA .int [.int s0, .int 0, .int 0, .int s2, .int 0, .int 0, .int 0, .int 0, .int 0, .int s1, .int 0, .int 0, .int 0, .int s3, .int 0, .int 0])] (fun r cs' => ∃ fl' fa' : Int32 → Int32, zY fa' fl' nn (2 : Int32) ∧ zO fl' X (2 : Int32) ∧ X (fl' 0) ≤ X0 (zD fl (0 : Int32) nm 0) ∧ (∀ j, fa' j = -1 → j ≠ nm ∧ fa j = -1) ∧ r = none ∧ cs' = [(u, oc1 (.ref xb) (.ref xl) (.ref xp) (.int kk) (.ref nu) (.int 2)), (xb, zA .double (zK fb)), (xl, zA .int (zE fl')), (xp, zA .int (zE fa')), (nu, oc2 (.int 4) (.ref xt) (.ref xs) (.int nn) .null (.int 0)), (xt, zA .int (zE ft)), (xs, zA .int [.int s0, .int 0, .int 0, .int s2, .int 0, .int 0, .int 0, .int 0, .int 0, .int s1, .int 0, .int 0, .int 0, .int s3, .int 0, .int 0])]) := by
  rcases Int.lt_or_le (X nm) (X (fl (1 : Int32))) with c0 | c0
  · skip
    exact own_SD20_1 l Z a0 hb0 hw u nm xb xl xp nu xt xs fb fl fa ft kk nn s0 s1 s2 s3 X X0 H O hx0 hn0 hn4 hbD c0
  · skip
    exact own_SD20_0 l Z a0 hb0 hw u nm xb xl xp nu xt xs fb fl fa ft kk nn s0 s1 s2 s3 X X0 H O hx0 hn0 hn4 hbD c0
theorem zCu (u : Addr) (nm : Int32) :
    zF zk ok10 0 #[oa u, oi 1, oi nm, ou] [] 8 #[oa u, oi 1, oi nm, oi 3] [(.ref u), (.int 3)] := by
  refine zT (v := 2) (pc2 := 1) d11_0 rfl rfl ?_
  refine zM (pc2 := 2) d11_1 rfl rfl ?_
  refine zAq (pc2 := 3) d11_2 rfl (v := (2 : Int32)) (by decide) ?_
  refine zT (v := 1) (pc2 := 4) d11_3 rfl rfl ?_
  refine zAI (pc2 := 5) d11_4 rfl (v := (3 : Int32)) (by decide) ?_
  refine zAG (pc2 := 6) d11_5 rfl (L' := #[oa u, oi 1, oi nm, oi 3]) rfl ?_
  refine zM (pc2 := 7) d11_6 rfl rfl ?_
  refine zJ (pc2 := 8) d11_7 rfl rfl rfl ?_
  exact zH
set_option maxRecDepth 65536 in
set_option maxHeartbeats 4000000 in
theorem own_SD21_0 (l : Launch) (Z : State) (a0 : Array Value) (hb0 : zU) (hw : ∀ d ∈ tables_1, d.before a0 Z = true) (u : Addr) (nm : Int32) (xb xl xp nu xt xs : Addr) (fb : Int32 → UInt64) (fl fa ft : Int32 → Int32) (kk nn : Int32) (s0 s1 s2 s3 : Int32) (X X0 : Int32 → Int) (H : zZ fa fl nn (2 : Int32) (1 : Int32) nm) (O : zO (zD fl (1 : Int32) nm) X0 (2 : Int32)) (hx0 : ∀ j, j ≠ nm → X0 j = X j) (hn0 : X nm ≤ X0 nm) (hn4 : ∀ j, zG nn j → zG 4 j) (hbD : ∀ j, zG nn j → zN (fb j) ((X j : Int) : Rat)) :
    zX l Z a0 hb0 (⟨"com/example/tidewise/tidewise/search/UpperBounds", "siftDown", "(II)V"⟩ : MethodName) ok10 4 none [] ({ frames := 1, cells := 0, slots := 0, locals := 14 } : Room) #[(.ref u), (.int 1), (.int nm)] [(u, oc1 (.ref xb) (.ref xl) (.ref xp) (.int kk) (.ref nu) (.int 2)), (xb, zA .double (zK fb)), (xl, zA .int (zE fl)), (xp, zA .int (zE fa)), (nu, oc2 (.int 4) (.ref xt) (.ref xs) (.int nn) .null (.int 0)), (xt, zA .int (zE ft)), (xs, zA .int [.int s0, .int 0, .int 0, .int s2, .int 0, .int 0, .int 0, .int 0, .int 0, .int s1, .int 0, .int 0, .int 0, .int s3, .int 0, .int 0])] (fun r cs' => ∃ fl' fa' : Int32 → Int32, zY fa' fl' nn (2 : Int32) ∧ zO fl' X (2 : Int32) ∧ X (fl' 0) ≤ X0 (zD fl (1 : Int32) nm 0) ∧ (∀ j, fa' j = -1 → j ≠ nm ∧ fa j = -1) ∧ r = none ∧ cs' = [(u, oc1 (.ref xb) (.ref xl) (.ref xp) (.int kk) (.ref nu) (.int 2)), (xb, zA .double (zK fb)), (xl, zA .int (zE fl')), (xp, zA .int (zE fa')), (nu, oc2 (.int 4) (.ref xt) (.ref xs) (.int nn) .null (.int 0)), (xt, zA .int (zE ft)), (xs, zA .int [.int s0, .int 0, .int 0, .int s2, .int 0, .int 0, .int 0, .int 0, .int 0, .int s1, .int 0, .int 0, .int 0, .int s3, .int 0, .int 0])]) := by
  refine zh (L0 := #[oa u, oi 1, oi nm, ou]) (plainFor_of_name zAV) (fun m => zAX m u (1 : Int32) nm) ?_
  intro p e s m below meth c T0 hx hZ hown hby hml hnm H0
  obtain ⟨TSD21_0_1, HSD21_0_1, stSD21_0_1⟩ := zI H0 hx hZ hown (zB hw 64 rfl) 0 5 rfl rfl (g := (mkF m 8 #[oa u, oi 1, oi nm, oi 3] [(.ref u), (.int 3)])) rfl rfl (hb hby d11_8)
  obtain ⟨TSD21_0_2, vSD21_0_2_, csSD21_0_2_, qSD21_0_2, HSD21_0_2, stSD21_0_2⟩ := zo HSD21_0_1 hx hZ hown (zB hw 70 rfl) (zB hw 71 rfl) (zB hw 72 rfl) (zB hw 1 rfl) (zB hw 2 rfl) (zB hw 73 rfl) (by decide) (x := u) 0 rfl (argsL := [(.int 1), (.int nm)]) (rest := []) (W := 0) (zu l Z a0 hb0 hw u (1 : Int32) nm xb xl xp nu xt xs fb fl fa ft kk (2 : Int32) nn s0 s1 s2 s3 ⟨by decide, by decide⟩ (hn4 _ H.p2)) (by decide) (by decide) (by decide) (by decide) (g := (mkF m 104 #[oa u, oi 1, oi nm, oi 3] [(.int nm), (.int 1), (.ref u)])) rfl (by rw [hml]; rfl) (lenOf zq rfl) rfl (by show 2 * 0 + _ ≤ _; exact Nat.le_of_eq rfl) (hb hby d11_104)
  obtain ⟨rfl, rfl⟩ := qSD21_0_2
  have q := own_sd21_0 H O hx0 hn0 
  refine ⟨_, _, _, _, 107, #[oa u, oi 1, oi nm, oi 3], HSD21_0_2, by decide, by decide, Or.inl ⟨rfl, ⟨_, _, q.1, q.2.1, q.2.2.1, q.2.2.2, rfl, rfl⟩, d11_107, fun target q => ?_⟩⟩
  refine zC H0 hx hZ hown hby hw zL (zCu u nm) _ ?_
  refine stSD21_0_1 _ ?_
  refine zC HSD21_0_1 hx hZ hown hby hw zL (own_SD20_1_10 u nm) _ ?_
  refine stSD21_0_2 _ ?_
  exact q
theorem own_SD21 (l : Launch) (Z : State) (a0 : Array Value) (hb0 : zU) (hw : ∀ d ∈ tables_1, d.before a0 Z = true) (u : Addr) (nm : Int32) (xb xl xp nu xt xs : Addr) (fb : Int32 → UInt64) (fl fa ft : Int32 → Int32) (kk nn : Int32) (s0 s1 s2 s3 : Int32) (X X0 : Int32 → Int) (H : zZ fa fl nn (2 : Int32) (1 : Int32) nm) (O : zO (zD fl (1 : Int32) nm) X0 (2 : Int32)) (hx0 : ∀ j, j ≠ nm → X0 j = X j) (hn0 : X nm ≤ X0 nm) (hn4 : ∀ j, zG nn j → zG 4 j) (hbD : ∀ j, zG nn j → zN (fb j) ((X j : Int) : Rat)) :
    zX l Z a0 hb0 (⟨"com/example/tidewise/tidewise/search/UpperBounds", "siftDown", "(II)V"⟩ : MethodName) ok10 4 none [] ({ frames := 1, cells := 0, slots := 0, locals := 14 } : Room) #[(.ref u), (.int 1), (.int nm)] [(u, oc1 (.ref xb) (.ref xl) (.ref xp) (.int kk) (.ref nu) (.int 2)), (xb, zA .double (zK fb)), (xl, zA .int (zE fl)), (xp, zA .int (zE fa)), (nu, oc2 (.int 4) (.ref xt) (.ref xs) (.int nn) .null (.int 0)), (xt, zA .int (zE ft)), (xs, zA .int [.int s0, .int 0, .int 0, .int s2, .int 0, .int 0, .int 0, .int 0, .int 0, .int s1, .int 0, .int 0, .int 0, .int s3, .int 0, .int 0])] (fun r cs' => ∃ fl' fa' : Int32 → Int32, zY fa' fl' nn (2 : Int32) ∧ zO fl' X (2 : Int32) ∧ X (fl' 0) ≤ X0 (zD fl (1 : Int32) nm 0) ∧ (∀ j, fa' j = -1 → j ≠ nm ∧ fa j = -1) ∧ r = none ∧ cs' = [(u, oc1 (.ref xb) (.ref xl) (.ref xp) (.int kk) (.ref nu) (.int 2)), (xb, zA .double (zK fb)), (xl, zA .int (zE fl')), (xp, zA .int (zE fa')), (nu, oc2 (.int 4) (.ref xt) (.ref xs) (.int nn) .null (.int 0)), (xt, zA .int (zE ft)), (xs, zA .int [.int s0, .int 0, .int 0, .int s2, .int 0, .int 0, .int 0, .int 0, .int 0, .int s1, .int 0, .int 0, .int 0, .int s3, .int 0, .int 0])]) := by
  exact own_SD21_0 l Z a0 hb0 hw u nm xb xl xp nu xt xs fb fl fa ft kk nn s0 s1 s2 s3 X X0 H O hx0 hn0 hn4 hbD 
theorem zCv (u : Addr) (nm : Int32) :
    zF zk ok10 11 #[oa u, oi 0, oi nm, oi 1] [(.int 3), (.int 1)] 18 #[oa u, oi 0, oi nm, oi 1] [(.ref u), (.int 2)] := by
  refine zAw (pc2 := 14) d11_11 rfl (by decide) ?_
  refine zM (pc2 := 15) d11_14 rfl rfl ?_
  refine zT (v := 1) (pc2 := 16) d11_15 rfl rfl ?_
  refine zAI (pc2 := 17) d11_16 rfl (v := (2 : Int32)) (by decide) ?_
  refine zJ (pc2 := 18) d11_17 rfl rfl rfl ?_
  exact zH
theorem zCw (u : Addr) (nm : Int32) :
    zF zk ok10 21 #[oa u, oi 0, oi nm, oi 1] [(.int 3), (.int 2)] 25 #[oa u, oi 0, oi nm, oi 1] [(.ref u)] := by
  refine zAw (pc2 := 24) d11_21 rfl (by decide) ?_
  refine zJ (pc2 := 25) d11_24 rfl rfl rfl ?_
  exact zH
theorem zBP (u : Addr) (nm : Int32) (xb : Addr) :
    zF zk ok10 28 #[oa u, oi 0, oi nm, oi 1] [(.ref xb)] 29 #[oa u, oi 0, oi nm, oi 1] [(.ref u), (.ref xb)] := by
  refine zJ (pc2 := 29) d11_28 rfl rfl rfl ?_
  exact zH
theorem zBQ (u : Addr) (nm : Int32) (xl : Addr) (xb : Addr) :
    zF zk ok10 32 #[oa u, oi 0, oi nm, oi 1] [(.ref xl), (.ref xb)] 35 #[oa u, oi 0, oi nm, oi 1] [(.int 2), (.ref xl), (.ref xb)] := by
  refine zM (pc2 := 33) d11_32 rfl rfl ?_
  refine zT (v := 1) (pc2 := 34) d11_33 rfl rfl ?_
  refine zAI (pc2 := 35) d11_34 rfl (v := (2 : Int32)) (by decide) ?_
  exact zH
theorem zBR (u : Addr) (nm : Int32) (w1 : UInt64) :
    zF zk ok10 37 #[oa u, oi 0, oi nm, oi 1] [(.double w1)] 38 #[oa u, oi 0, oi nm, oi 1] [(.ref u), (.double w1)] := by
  refine zJ (pc2 := 38) d11_37 rfl rfl rfl ?_
  exact zH
theorem zBS (u : Addr) (nm : Int32) (xb : Addr) (w1 : UInt64) :
    zF zk ok10 41 #[oa u, oi 0, oi nm, oi 1] [(.ref xb), (.double w1)] 42 #[oa u, oi 0, oi nm, oi 1] [(.ref u), (.ref xb), (.double w1)] := by
  refine zJ (pc2 := 42) d11_41 rfl rfl rfl ?_
  exact zH
theorem zBT (u : Addr) (nm : Int32) (xl : Addr) (xb : Addr) (w1 : UInt64) :
    zF zk ok10 45 #[oa u, oi 0, oi nm, oi 1] [(.ref xl), (.ref xb), (.double w1)] 46 #[oa u, oi 0, oi nm, oi 1] [(.int 1), (.ref xl), (.ref xb), (.double w1)] := by
  refine zM (pc2 := 46) d11_45 rfl rfl ?_
  exact zH
theorem zCO (u : Addr) (nm : Int32) (w3 : UInt64) (w1 : UInt64) (v48 : Int32) (hv48 : (cmpValue (FP.dcmp w1 w3) .l) = v48) (hb49_0 : ifCond.holds .le v48 = true) :
    zF zk ok10 48 #[oa u, oi 0, oi nm, oi 1] [(.double w3), (.double w1)] 56 #[oa u, oi 0, oi nm, oi 1] [(.ref u)] := by
  refine zAD (pc2 := 49) d11_48 rfl (v := v48) hv48 ?_
  refine zx (pc' := 55) d11_49 hb49_0 (by decide) (by decide) ?_
  refine zJ (pc2 := 56) d11_55 rfl rfl rfl ?_
  exact zH
theorem zCP (u : Addr) (nm : Int32) (w5 : UInt64) :
    zF zk ok10 66 #[oa u, oi 0, oi nm, oi 1] [(.double w5)] 67 #[oa u, oi 0, oi nm, oi 1] [(.ref u), (.double w5)] := by
  refine zJ (pc2 := 67) d11_66 rfl rfl rfl ?_
  exact zH
theorem zCQ (u : Addr) (nm : Int32) (xb : Addr) (w5 : UInt64) :
    zF zk ok10 70 #[oa u, oi 0, oi nm, oi 1] [(.ref xb), (.double w5)] 71 #[oa u, oi 0, oi nm, oi 1] [(.int nm), (.ref xb), (.double w5)] := by
  refine zM (pc2 := 71) d11_70 rfl rfl ?_
  exact zH
theorem own_SD30_0_13 (u : Addr) (nm : Int32) (w6 : UInt64) (w5 : UInt64) (v72 : Int32) (hv72 : (cmpValue (FP.dcmp w5 w6) .g) = v72) (hb73_0 : ifCond.holds .gt v72 = false) :
    zF zk ok10 72 #[oa u, oi 0, oi nm, oi 1] [(.double w6), (.double w5)] 104 #[oa u, oi 0, oi nm, oi 1] [(.int nm), (.int 0), (.ref u)] := by
  refine zAD (pc2 := 73) d11_72 rfl (v := v72) hv72 ?_
  refine zy (pc2 := 76) d11_73 rfl hb73_0 ?_
  refine zAN (pc' := 101) d11_76 (by decide) (by decide) ?_
  refine zJ (pc2 := 102) d11_101 rfl rfl rfl ?_
  refine zM (pc2 := 103) d11_102 rfl rfl ?_
  refine zM (pc2 := 104) d11_103 rfl rfl ?_
  exact zH
set_option maxRecDepth 65536 in
set_option maxHeartbeats 4000000 in
theorem own_SD30_0 (l : Launch) (Z : State) (a0 : Array Value) (hb0 : zU) (hw : ∀ d ∈ tables_1, d.before a0 Z = true) (u : Addr) (nm : Int32) (xb xl xp nu xt xs : Addr) (fb : Int32 → UInt64) (fl fa ft : Int32 → Int32) (kk nn : Int32) (s0 s1 s2 s3 : Int32) (X X0 : Int32 → Int) (H : zZ fa fl nn (3 : Int32) (0 : Int32) nm) (O : zO (zD fl (0 : Int32) nm) X0 (3 : Int32)) (hx0 : ∀ j, j ≠ nm → X0 j = X j) (hn0 : X nm ≤ X0 nm) (hn4 : ∀ j, zG nn j → zG 4 j) (hbD : ∀ j, zG nn j → zN (fb j) ((X j : Int) : Rat)) (d0 : X (fl (2 : Int32)) ≤ X (fl (1 : Int32))) (d1 : X (fl (1 : Int32)) ≤ X nm) :
    zX l Z a0 hb0 (⟨"com/example/tidewise/tidewise/search/UpperBounds", "siftDown", "(II)V"⟩ : MethodName) ok10 4 none [] ({ frames := 1, cells := 0, slots := 0, locals := 14 } : Room) #[(.ref u), (.int 0), (.int nm)] [(u, oc1 (.ref xb) (.ref xl) (.ref xp) (.int kk) (.ref nu) (.int 3)), (xb, zA .double (zK fb)), (xl, zA .int (zE fl)), (xp, zA .int (zE fa)), (nu, oc2 (.int 4) (.ref xt) (.ref xs) (.int nn) .null (.int 0)), (xt, zA .int (zE ft)), (xs, zA .int [.int s0, .int 0, .int 0, .int s2, .int 0, .int 0, .int 0, .int 0, .int 0, .int s1, .int 0, .int 0, .int 0, .int s3, .int 0, .int 0])] (fun r cs' => ∃ fl' fa' : Int32 → Int32, zY fa' fl' nn (3 : Int32) ∧ zO fl' X (3 : Int32) ∧ X (fl' 0) ≤ X0 (zD fl (0 : Int32) nm 0) ∧ (∀ j, fa' j = -1 → j ≠ nm ∧ fa j = -1) ∧ r = none ∧ cs' = [(u, oc1 (.ref xb) (.ref xl) (.ref xp) (.int kk) (.ref nu) (.int 3)), (xb, zA .double (zK fb)), (xl, zA .int (zE fl')), (xp, zA .int (zE fa')), (nu, oc2 (.int 4) (.ref xt) (.ref xs) (.int nn) .null (.int 0)), (xt, zA .int (zE ft)), (xs, zA .int [.int s0, .int 0, .int 0, .int s2, .int 0, .int 0, .int 0, .int 0, .int 0, .int s1, .int 0, .int 0, .int 0, .int s3, .int 0, .int 0])]) := by
  refine zh (L0 := #[oa u, oi 0, oi nm, ou]) (plainFor_of_name zAV) (fun m => zAX m u (0 : Int32) nm) ?_
  intro p e s m below meth c T0 hx hZ hown hby hml hnm H0
  obtain ⟨TSD30_0_1, HSD30_0_1, stSD30_0_1⟩ := zI H0 hx hZ hown (zB hw 64 rfl) 0 5 rfl rfl (g := (mkF m 8 #[oa u, oi 0, oi nm, oi 1] [(.ref u), (.int 1)])) rfl rfl (hb hby d11_8)
  obtain ⟨TSD30_0_2, HSD30_0_2, stSD30_0_2⟩ := zI HSD30_0_1 hx hZ hown (zB hw 64 rfl) 0 5 rfl rfl (g := (mkF m 18 #[oa u, oi 0, oi nm, oi 1] [(.ref u), (.int 2)])) rfl rfl (hb hby d11_18)
  obtain ⟨TSD30_0_3, HSD30_0_3, stSD30_0_3⟩ := zI HSD30_0_2 hx hZ hown (zB hw 10 rfl) 0 0 rfl rfl (g := (mkF m 25 #[oa u, oi 0, oi nm, oi 1] [(.ref u)])) rfl rfl (hb hby d11_25)
  obtain ⟨TSD30_0_4, HSD30_0_4, stSD30_0_4⟩ := zI HSD30_0_3 hx hZ hown (zB hw 13 rfl) 0 1 rfl rfl (g := (mkF m 29 #[oa u, oi 0, oi nm, oi 1] [(.ref u), (.ref xb)])) rfl rfl (hb hby d11_29)
  obtain ⟨w0, hw0⟩ : ∃ z, fl (2 : Int32) = z := ⟨_, rfl⟩
  have ew0 : w0 = fl (2 : Int32) := by rw [← hw0]
  have mw0 : zG nn w0 := by rw [ew0]; exact (H.p1 (2 : Int32) ⟨by decide, by decide⟩ (by decide)).1
  have iw0 := hn4 _ mw0
  obtain ⟨w1, hw1⟩ : ∃ z, fb w0 = z := ⟨_, rfl⟩
  have vw1 : zN w1 ((X w0 : Int) : Rat) := by rw [← hw1]; exact hbD _ mw0
  obtain ⟨TSD30_0_7, HSD30_0_7, stSD30_0_7⟩ := zI HSD30_0_4 hx hZ hown (zB hw 10 rfl) 0 0 rfl rfl (g := (mkF m 38 #[oa u, oi 0, oi nm, oi 1] [(.ref u), (.double w1)])) rfl rfl (hb hby d11_38)
  obtain ⟨TSD30_0_8, HSD30_0_8, stSD30_0_8⟩ := zI HSD30_0_7 hx hZ hown (zB hw 13 rfl) 0 1 rfl rfl (g := (mkF m 42 #[oa u, oi 0, oi nm, oi 1] [(.ref u), (.ref xb), (.double w1)])) rfl rfl (hb hby d11_42)
  obtain ⟨w2, hw2⟩ : ∃ z, fl (1 : Int32) = z := ⟨_, rfl⟩
  have ew2 : w2 = fl (1 : Int32) := by rw [← hw2]
  have mw2 : zG nn w2 := by rw [ew2]; exact (H.p1 (1 : Int32) ⟨by decide, by decide⟩ (by decide)).1
  have iw2 := hn4 _ mw2
  obtain ⟨w3, hw3⟩ : ∃ z, fb w2 = z := ⟨_, rfl⟩
  have vw3 : zN w3 ((X w2 : Int) : Rat) := by rw [← hw3]; exact hbD _ mw2
  obtain ⟨v48, hv48⟩ : ∃ z : Int32, (cmpValue (FP.dcmp w1 w3) .l) = z := ⟨_, rfl⟩
  obtain ⟨TSD30_0_11, HSD30_0_11, stSD30_0_11⟩ := zI HSD30_0_8 hx hZ hown (zB hw 10 rfl) 0 0 rfl rfl (g := (mkF m 56 #[oa u, oi 0, oi nm, oi 1] [(.ref u)])) rfl rfl (hb hby d11_56)
  obtain ⟨TSD30_0_12, HSD30_0_12, stSD30_0_12⟩ := zI HSD30_0_11 hx hZ hown (zB hw 13 rfl) 0 1 rfl rfl (g := (mkF m 60 #[oa u, oi 0, oi nm, oi 1] [(.ref u), (.ref xb)])) rfl rfl (hb hby d11_60)
  obtain ⟨w4, hw4⟩ : ∃ z, fl (1 : Int32) = z := ⟨_, rfl⟩
  have ew4 : w4 = fl (1 : Int32) := by rw [← hw4]
  have mw4 : zG nn w4 := by rw [ew4]; exact (H.p1 (1 : Int32) ⟨by decide, by decide⟩ (by decide)).1
  have iw4 := hn4 _ mw4
  obtain ⟨w5, hw5⟩ : ∃ z, fb w4 = z := ⟨_, rfl⟩
  have vw5 : zN w5 ((X w4 : Int) : Rat) := by rw [← hw5]; exact hbD _ mw4
  obtain ⟨TSD30_0_15, HSD30_0_15, stSD30_0_15⟩ := zI HSD30_0_12 hx hZ hown (zB hw 10 rfl) 0 0 rfl rfl (g := (mkF m 67 #[oa u, oi 0, oi nm, oi 1] [(.ref u), (.double w5)])) rfl rfl (hb hby d11_67)
  obtain ⟨w6, hw6⟩ : ∃ z, fb nm = z := ⟨_, rfl⟩
  have vw6 : zN w6 ((X nm : Int) : Rat) := by rw [← hw6]; exact hbD _ H.p2
  obtain ⟨v72, hv72⟩ : ∃ z : Int32, (cmpValue (FP.dcmp w5 w6) .g) = z := ⟨_, rfl⟩
  obtain ⟨TSD30_0_17, vSD30_0_17_, csSD30_0_17_, qSD30_0_17, HSD30_0_17, stSD30_0_17⟩ := zo HSD30_0_15 hx hZ hown (zB hw 70 rfl) (zB hw 71 rfl) (zB hw 72 rfl) (zB hw 1 rfl) (zB hw 2 rfl) (zB hw 73 rfl) (by decide) (x := u) 0 rfl (argsL := [(.int 0), (.int nm)]) (rest := []) (W := 0) (zu l Z a0 hb0 hw u (0 : Int32) nm xb xl xp nu xt xs fb fl fa ft kk (3 : Int32) nn s0 s1 s2 s3 ⟨by decide, by decide⟩ (hn4 _ H.p2)) (by decide) (by decide) (by decide) (by decide) (g := (mkF m 104 #[oa u, oi 0, oi nm, oi 1] [(.int nm), (.int 0), (.ref u)])) rfl (by rw [hml]; rfl) (lenOf zq rfl) rfl (by show 2 * 0 + _ ≤ _; exact Nat.le_of_eq rfl) (hb hby d11_104)
  obtain ⟨rfl, rfl⟩ := qSD30_0_17
  have d0' := d0
  rw [← ew0, ← ew2] at d0'
  have hb49_0 : ifCond.holds .le v48 = true := by
    rw [← hv48, zBI vw1 vw3]
    exact decide_eq_true (zAS d0')
  have d1' := d1
  rw [← ew4] at d1'
  have hb73_0 : ifCond.holds .gt v72 = false := by
    rw [← hv72, zAc vw5 vw6]
    exact decide_eq_false (Rat.not_lt.mpr (zAS d1'))
  have q := own_sd30_0 H O hx0 hn0 d0 d1
  refine ⟨_, _, _, _, 107, #[oa u, oi 0, oi nm, oi 1], HSD30_0_17, by decide, by decide, Or.inl ⟨rfl, ⟨_, _, q.1, q.2.1, q.2.2.1, q.2.2.2, rfl, rfl⟩, d11_107, fun target q => ?_⟩⟩
  refine zC H0 hx hZ hown hby hw zL (zAo u nm) _ ?_
  refine stSD30_0_1 _ ?_
  refine zC HSD30_0_1 hx hZ hown hby hw zL (zCv u nm) _ ?_
  refine stSD30_0_2 _ ?_
  refine zC HSD30_0_2 hx hZ hown hby hw zL (zCw u nm) _ ?_
  refine stSD30_0_3 _ ?_
  refine zC HSD30_0_3 hx hZ hown hby hw zL (zBP u nm xb) _ ?_
  refine stSD30_0_4 _ ?_
  refine zC HSD30_0_4 hx hZ hown hby hw zL (zBQ u nm xl xb) _ ?_
  refine zf HSD30_0_4 hx hZ 2 rfl ⟨by decide, by decide⟩ hw0 (g := (mkF m 35 #[oa u, oi 0, oi nm, oi 1] [(.int 2), (.ref xl), (.ref xb)])) rfl rfl (hb hby d11_35) _ ?_
  refine zd HSD30_0_4 hx hZ 1 rfl iw0 hw1 (g := (mkF m 36 #[oa u, oi 0, oi nm, oi 1] [(.int w0), (.ref xb)])) rfl rfl (hb hby d11_36) _ ?_
  refine zC HSD30_0_4 hx hZ hown hby hw zL (zBR u nm w1) _ ?_
  refine stSD30_0_7 _ ?_
  refine zC HSD30_0_7 hx hZ hown hby hw zL (zBS u nm xb w1) _ ?_
  refine stSD30_0_8 _ ?_
  refine zC HSD30_0_8 hx hZ hown hby hw zL (zBT u nm xl xb w1) _ ?_
  refine zf HSD30_0_8 hx hZ 2 rfl ⟨by decide, by decide⟩ hw2 (g := (mkF m 46 #[oa u, oi 0, oi nm, oi 1] [(.int 1), (.ref xl), (.ref xb), (.double w1)])) rfl rfl (hb hby d11_46) _ ?_
  refine zd HSD30_0_8 hx hZ 1 rfl iw2 hw3 (g := (mkF m 47 #[oa u, oi 0, oi nm, oi 1] [(.int w2), (.ref xb), (.double w1)])) rfl rfl (hb hby d11_47) _ ?_
  refine zC HSD30_0_8 hx hZ hown hby hw zL (zCO u nm w3 w1 v48 hv48 hb49_0) _ ?_
  refine stSD30_0_11 _ ?_
  refine zC HSD30_0_11 hx hZ hown hby hw zL (zBn u nm xb) _ ?_
  refine stSD30_0_12 _ ?_
  refine zC HSD30_0_12 hx hZ hown hby hw zL (zBo u nm xl xb) _ ?_
  refine zf HSD30_0_12 hx hZ 2 rfl ⟨by decide, by decide⟩ hw4 (g := (mkF m 64 #[oa u, oi 0, oi nm, oi 1] [(.int 1), (.ref xl), (.ref xb)])) rfl rfl (hb hby d11_64) _ ?_
  refine zd HSD30_0_12 hx hZ 1 rfl iw4 hw5 (g := (mkF m 65 #[oa u, oi 0, oi nm, oi 1] [(.int w4), (.ref xb)])) rfl rfl (hb hby d11_65) _ ?_
  refine zC HSD30_0_12 hx hZ hown hby hw zL (zCP u nm w5) _ ?_
  refine stSD30_0_15 _ ?_
  refine zC HSD30_0_15 hx hZ hown hby hw zL (zCQ u nm xb w5) _ ?_
  refine zd HSD30_0_15 hx hZ 1 rfl (hn4 _ H.p2) hw6 (g := (mkF m 71 #[oa u, oi 0, oi nm, oi 1] [(.int nm), (.ref xb), (.double w5)])) rfl rfl (hb hby d11_71) _ ?_
  refine zC HSD30_0_15 hx hZ hown hby hw zL (own_SD30_0_13 u nm w6 w5 v72 hv72 hb73_0) _ ?_
  refine stSD30_0_17 _ ?_
  exact q
theorem zDa (u : Addr) (nm : Int32) (w6 : UInt64) (w5 : UInt64) (v72 : Int32) (hv72 : (cmpValue (FP.dcmp w5 w6) .g) = v72) (hb73_0 : ifCond.holds .gt v72 = true) :
    zF zk ok10 72 #[oa u, oi 0, oi nm, oi 1] [(.double w6), (.double w5)] 82 #[oa u, oi 0, oi nm, oi 1] [(.ref u), (.int 0), (.ref u)] := by
  refine zAD (pc2 := 73) d11_72 rfl (v := v72) hv72 ?_
  refine zx (pc' := 79) d11_73 hb73_0 (by decide) (by decide) ?_
  refine zJ (pc2 := 80) d11_79 rfl rfl rfl ?_
  refine zM (pc2 := 81) d11_80 rfl rfl ?_
  refine zJ (pc2 := 82) d11_81 rfl rfl rfl ?_
  exact zH
theorem own_SD30_1_16 (u : Addr) (nm : Int32) :
    zF zk ok10 11 #[oa u, oi 1, oi nm, oi 3] [(.int 3), (.int 3)] 104 #[oa u, oi 1, oi nm, oi 3] [(.int nm), (.int 1), (.ref u)] := by
  refine zAJ (pc' := 101) d11_11 (by decide) (by decide) (by decide) ?_
  refine zJ (pc2 := 102) d11_101 rfl rfl rfl ?_
  refine zM (pc2 := 103) d11_102 rfl rfl ?_
  refine zM (pc2 := 104) d11_103 rfl rfl ?_
  exact zH
set_option maxRecDepth 65536 in
set_option maxHeartbeats 4000000 in
theorem own_SD30_1 (l : Launch) (Z : State) (a0 : Array Value) (hb0 : zU) (hw : ∀ d ∈ tables_1, d.before a0 Z = true) (u : Addr) (nm : Int32) (xb xl xp nu xt xs : Addr) (fb : Int32 → UInt64) (fl fa ft : Int32 → Int32) (kk nn : Int32) (s0 s1 s2 s3 : Int32) (X X0 : Int32 → Int) (H : zZ fa fl nn (3 : Int32) (0 : Int32) nm) (O : zO (zD fl (0 : Int32) nm) X0 (3 : Int32)) (hx0 : ∀ j, j ≠ nm → X0 j = X j) (hn0 : X nm ≤ X0 nm) (hn4 : ∀ j, zG nn j → zG 4 j) (hbD : ∀ j, zG nn j → zN (fb j) ((X j : Int) : Rat)) (d0 : X (fl (2 : Int32)) ≤ X (fl (1 : Int32))) (d1 : X nm < X (fl (1 : Int32))) :
    zX l Z a0 hb0 (⟨"com/example/tidewise/tidewise/search/UpperBounds", "siftDown", "(II)V"⟩ : MethodName) ok10 4 none [] ({ frames := 1, cells := 0, slots := 0, locals := 14 } : Room) #[(.ref u), (.int 0), (.int nm)] [(u, oc1 (.ref xb) (.ref xl) (.ref xp) (.int kk) (.ref nu) (.int 3)), (xb, zA .double (zK fb)), (xl, zA .int (zE fl)), (xp, zA .int (zE fa)), (nu, oc2 (.int 4) (.ref xt) (.ref xs) (.int nn) .null (.int 0)), (xt, zA .int (zE ft)), (xs, zA .int [.int s0, .int 0, .int 0, .int s2, .int 0, .int 0, .int 0, .int 0, .int 0, .int s1, .int 0, .int 0, .int 0, .int s3, .int 0, .int 0])] (fun r cs' => ∃ fl' fa' : Int32 → Int32, zY fa' fl' nn (3 : Int32) ∧ zO fl' X (3 : Int32) ∧ X (fl' 0) ≤ X0 (zD fl (0 : Int32) nm 0) ∧ (∀ j, fa' j = -1 → j ≠ nm ∧ fa j = -1) ∧ r = none ∧ cs' = [(u, oc1 (.ref xb) (.ref xl) (.ref xp) (.int kk) (.ref nu) (.int 3)), (xb, zA .double (zK fb)), (xl, zA .int (zE fl')), (xp, zA .int (zE fa')), (nu, oc2 (.int 4) (.ref xt) (.ref xs) (.int nn) .null (.int 0)), (xt, zA .int (zE ft)), (xs, zA .int [.int s0, .int 0, .int 0, .int s2, .int 0, .int 0, .int 0, .int 0, .int 0, .int s1, .int 0, .int 0, .int 0, .int s3, .int 0, .int 0])]) := by
  refine zh (L0 := #[oa u, oi 0, oi nm, ou]) (plainFor_of_name zAV) (fun m => zAX m u (0 : Int32) nm) ?_
  intro p e s m below meth c T0 hx hZ hown hby hml hnm H0
  obtain ⟨TSD30_1_1, HSD30_1_1, stSD30_1_1⟩ := zI H0 hx hZ hown (zB hw 64 rfl) 0 5 rfl rfl (g := (mkF m 8 #[oa u, oi 0, oi nm, oi 1] [(.ref u), (.int 1)])) rfl rfl (hb hby d11_8)
  obtain ⟨TSD30_1_2, HSD30_1_2, stSD30_1_2⟩ := zI HSD30_1_1 hx hZ hown (zB hw 64 rfl) 0 5 rfl rfl (g := (mkF m 18 #[oa u, oi 0, oi nm, oi 1] [(.ref u), (.int 2)])) rfl rfl (hb hby d11_18)
  obtain ⟨TSD30_1_3, HSD30_1_3, stSD30_1_3⟩ := zI HSD30_1_2 hx hZ hown (zB hw 10 rfl) 0 0 rfl rfl (g := (mkF m 25 #[oa u, oi 0, oi nm, oi 1] [(.ref u)])) rfl rfl (hb hby d11_25)
  obtain ⟨TSD30_1_4, HSD30_1_4, stSD30_1_4⟩ := zI HSD30_1_3 hx hZ hown (zB hw 13 rfl) 0 1 rfl rfl (g := (mkF m 29 #[oa u, oi 0, oi nm, oi 1] [(.ref u), (.ref xb)])) rfl rfl (hb hby d11_29)
  obtain ⟨w0, hw0⟩ : ∃ z, fl (2 : Int32) = z := ⟨_, rfl⟩
  have ew0 : w0 = fl (2 : Int32) := by rw [← hw0]
  have mw0 : zG nn w0 := by rw [ew0]; exact (H.p1 (2 : Int32) ⟨by decide, by decide⟩ (by decide)).1
  have iw0 := hn4 _ mw0
  obtain ⟨w1, hw1⟩ : ∃ z, fb w0 = z := ⟨_, rfl⟩
  have vw1 : zN w1 ((X w0 : Int) : Rat) := by rw [← hw1]; exact hbD _ mw0
  obtain ⟨TSD30_1_7, HSD30_1_7, stSD30_1_7⟩ := zI HSD30_1_4 hx hZ hown (zB hw 10 rfl) 0 0 rfl rfl (g := (mkF m 38 #[oa u, oi 0, oi nm, oi 1] [(.ref u), (.double w1)])) rfl rfl (hb hby d11_38)
  obtain ⟨TSD30_1_8, HSD30_1_8, stSD30_1_8⟩ := zI HSD30_1_7 hx hZ hown (zB hw 13 rfl) 0 1 rfl rfl (g := (mkF m 42 #[oa u, oi 0, oi nm, oi 1] [(.ref u), (.ref xb), (.double w1)])) rfl rfl (hb hby d11_42)
  obtain ⟨w2, hw2⟩ : ∃ z, fl (1 : Int32) = z := ⟨_, rfl⟩
  have ew2 : w2 = fl (1 : Int32) := by rw [← hw2]
  have mw2 : zG nn w2 := by rw [ew2]; exact (H.p1 (1 : Int32) ⟨by decide, by decide⟩ (by decide)).1
  have iw2 := hn4 _ mw2
  obtain ⟨w3, hw3⟩ : ∃ z, fb w2 = z := ⟨_, rfl⟩
  have vw3 : zN w3 ((X w2 : Int) : Rat) := by rw [← hw3]; exact hbD _ mw2
  obtain ⟨v48, hv48⟩ : ∃ z : Int32, (cmpValue (FP.dcmp w1 w3) .l) = z := ⟨_, rfl⟩
  obtain ⟨TSD30_1_11, HSD30_1_11, stSD30_1_11⟩ := zI HSD30_1_8 hx hZ hown (zB hw 10 rfl) 0 0 rfl rfl (g := (mkF m 56 #[oa u, oi 0, oi nm, oi 1] [(.ref u)])) rfl rfl (hb hby d11_56)
  obtain ⟨TSD30_1_12, HSD30_1_12, stSD30_1_12⟩ := zI HSD30_1_11 hx hZ hown (zB hw 13 rfl) 0 1 rfl rfl (g := (mkF m 60 #[oa u, oi 0, oi nm, oi 1] [(.ref u), (.ref xb)])) rfl rfl (hb hby d11_60)
  obtain ⟨w4, hw4⟩ : ∃ z, fl (1 : Int32) = z := ⟨_, rfl⟩
  have ew4 : w4 = fl (1 : Int32) := by rw [← hw4]
  have mw4 : zG nn w4 := by rw [ew4]; exact (H.p1 (1 : Int32) ⟨by decide, by decide⟩ (by decide)).1
  have iw4 := hn4 _ mw4
  obtain ⟨w5, hw5⟩ : ∃ z, fb w4 = z := ⟨_, rfl⟩
  have vw5 : zN w5 ((X w4 : Int) : Rat) := by rw [← hw5]; exact hbD _ mw4
  obtain ⟨TSD30_1_15, HSD30_1_15, stSD30_1_15⟩ := zI HSD30_1_12 hx hZ hown (zB hw 10 rfl) 0 0 rfl rfl (g := (mkF m 67 #[oa u, oi 0, oi nm, oi 1] [(.ref u), (.double w5)])) rfl rfl (hb hby d11_67)
  obtain ⟨w6, hw6⟩ : ∃ z, fb nm = z := ⟨_, rfl⟩
  have vw6 : zN w6 ((X nm : Int) : Rat) := by rw [← hw6]; exact hbD _ H.p2
  obtain ⟨v72, hv72⟩ : ∃ z : Int32, (cmpValue (FP.dcmp w5 w6) .g) = z := ⟨_, rfl⟩
  obtain ⟨TSD30_1_17, HSD30_1_17, stSD30_1_17⟩ := zI HSD30_1_15 hx hZ hown (zB hw 13 rfl) 0 1 rfl rfl (g := (mkF m 82 #[oa u, oi 0, oi nm, oi 1] [(.ref u), (.int 0), (.ref u)])) rfl rfl (hb hby d11_82)
  obtain ⟨w7, hw7⟩ : ∃ z, fl (1 : Int32) = z := ⟨_, rfl⟩
  have ew7 : w7 = fl (1 : Int32) := by rw [← hw7]
  have mw7 : zG nn w7 := by rw [ew7]; exact (H.p1 (1 : Int32) ⟨by decide, by decide⟩ (by decide)).1
  have iw7 := hn4 _ mw7
  obtain ⟨TSD30_1_19, vSD30_1_19_, csSD30_1_19_, qSD30_1_19, HSD30_1_19, stSD30_1_19⟩ := zo HSD30_1_17 hx hZ hown (zB hw 70 rfl) (zB hw 71 rfl) (zB hw 72 rfl) (zB hw 1 rfl) (zB hw 2 rfl) (zB hw 73 rfl) (by decide) (x := u) 0 rfl (argsL := [(.int 0), (.int w7)]) (rest := []) (W := 0) (zu l Z a0 hb0 hw u (0 : Int32) w7 xb xl xp nu xt xs fb fl fa ft kk (3 : Int32) nn s0 s1 s2 s3 ⟨by decide, by decide⟩ iw7) (by decide) (by decide) (by decide) (by decide) (g := (mkF m 87 #[oa u, oi 0, oi nm, oi 1] [(.int w7), (.int 0), (.ref u)])) rfl (by rw [hml]; rfl) (lenOf zq rfl) rfl (by show 2 * 0 + _ ≤ _; exact Nat.le_of_eq rfl) (hb hby d11_87)
  obtain ⟨rfl, rfl⟩ := qSD30_1_19
  obtain ⟨TSD30_1_20, HSD30_1_20, stSD30_1_20⟩ := zI HSD30_1_19 hx hZ hown (zB hw 64 rfl) 0 5 rfl rfl (g := (mkF m 8 #[oa u, oi 1, oi nm, oi 3] [(.ref u), (.int 3)])) rfl rfl (hb hby d11_8)
  obtain ⟨TSD30_1_21, vSD30_1_21_, csSD30_1_21_, qSD30_1_21, HSD30_1_21, stSD30_1_21⟩ := zo HSD30_1_20 hx hZ hown (zB hw 70 rfl) (zB hw 71 rfl) (zB hw 72 rfl) (zB hw 1 rfl) (zB hw 2 rfl) (zB hw 73 rfl) (by decide) (x := u) 0 rfl (argsL := [(.int 1), (.int nm)]) (rest := []) (W := 0) (zu l Z a0 hb0 hw u (1 : Int32) nm xb xl xp nu xt xs fb (zD fl (0 : Int32) w7) (zD fa w7 (0 : Int32)) ft kk (3 : Int32) nn s0 s1 s2 s3 ⟨by decide, by decide⟩ (hn4 _ H.p2)) (by decide) (by decide) (by decide) (by decide) (g := (mkF m 104 #[oa u, oi 1, oi nm, oi 3] [(.int nm), (.int 1), (.ref u)])) rfl (by rw [hml]; rfl) (lenOf zq rfl) rfl (by show 2 * 0 + _ ≤ _; exact Nat.le_of_eq rfl) (hb hby d11_104)
  obtain ⟨rfl, rfl⟩ := qSD30_1_21
  have d0' := d0
  rw [← ew0, ← ew2] at d0'
  have hb49_0 : ifCond.holds .le v48 = true := by
    rw [← hv48, zBI vw1 vw3]
    exact decide_eq_true (zAS d0')
  have d1' := d1
  rw [← ew4] at d1'
  have hb73_0 : ifCond.holds .gt v72 = true := by
    rw [← hv72, zAc vw5 vw6]
    exact decide_eq_true (zAP d1')
  have q := own_sd30_1 H O hx0 hn0 d0 d1
  rw [← ew7] at q
  refine ⟨_, _, _, _, 107, #[oa u, oi 1, oi nm, oi 3], HSD30_1_21, by decide, by decide, Or.inl ⟨rfl, ⟨_, _, q.1, q.2.1, q.2.2.1, q.2.2.2, rfl, rfl⟩, d11_107, fun target q => ?_⟩⟩
  refine zC H0 hx hZ hown hby hw zL (zAo u nm) _ ?_
  refine stSD30_1_1 _ ?_
  refine zC HSD30_1_1 hx hZ hown hby hw zL (zCv u nm) _ ?_
  refine stSD30_1_2 _ ?_
  refine zC HSD30_1_2 hx hZ hown hby hw zL (zCw u nm) _ ?_
  refine stSD30_1_3 _ ?_
  refine zC HSD30_1_3 hx hZ hown hby hw zL (zBP u nm xb) _ ?_
  refine stSD30_1_4 _ ?_
  refine zC HSD30_1_4 hx hZ hown hby hw zL (zBQ u nm xl xb) _ ?_
  refine zf HSD30_1_4 hx hZ 2 rfl ⟨by decide, by decide⟩ hw0 (g := (mkF m 35 #[oa u, oi 0, oi nm, oi 1] [(.int 2), (.ref xl), (.ref xb)])) rfl rfl (hb hby d11_35) _ ?_
  refine zd HSD30_1_4 hx hZ 1 rfl iw0 hw1 (g := (mkF m 36 #[oa u, oi 0, oi nm, oi 1] [(.int w0), (.ref xb)])) rfl rfl (hb hby d11_36) _ ?_
  refine zC HSD30_1_4 hx hZ hown hby hw zL (zBR u nm w1) _ ?_
  refine stSD30_1_7 _ ?_
  refine zC HSD30_1_7 hx hZ hown hby hw zL (zBS u nm xb w1) _ ?_
  refine stSD30_1_8 _ ?_
  refine zC HSD30_1_8 hx hZ hown hby hw zL (zBT u nm xl xb w1) _ ?_
  refine zf HSD30_1_8 hx hZ 2 rfl ⟨by decide, by decide⟩ hw2 (g := (mkF m 46 #[oa u, oi 0, oi nm, oi 1] [(.int 1), (.ref xl), (.ref xb), (.double w1)])) rfl rfl (hb hby d11_46) _ ?_
  refine zd HSD30_1_8 hx hZ 1 rfl iw2 hw3 (g := (mkF m 47 #[oa u, oi 0, oi nm, oi 1] [(.int w2), (.ref xb), (.double w1)])) rfl rfl (hb hby d11_47) _ ?_
  refine zC HSD30_1_8 hx hZ hown hby hw zL (zCO u nm w3 w1 v48 hv48 hb49_0) _ ?_
  refine stSD30_1_11 _ ?_
  refine zC HSD30_1_11 hx hZ hown hby hw zL (zBn u nm xb) _ ?_
  refine stSD30_1_12 _ ?_
  refine zC HSD30_1_12 hx hZ hown hby hw zL (zBo u nm xl xb) _ ?_
  refine zf HSD30_1_12 hx hZ 2 rfl ⟨by decide, by decide⟩ hw4 (g := (mkF m 64 #[oa u, oi 0, oi nm, oi 1] [(.int 1), (.ref xl), (.ref xb)])) rfl rfl (hb hby d11_64) _ ?_
  refine zd HSD30_1_12 hx hZ 1 rfl iw4 hw5 (g := (mkF m 65 #[oa u, oi 0, oi nm, oi 1] [(.int w4), (.ref xb)])) rfl rfl (hb hby d11_65) _ ?_
  refine zC HSD30_1_12 hx hZ hown hby hw zL (zCP u nm w5) _ ?_
  refine stSD30_1_15 _ ?_
  refine zC HSD30_1_15 hx hZ hown hby hw zL (zCQ u nm xb w5) _ ?_
  refine zd HSD30_1_15 hx hZ 1 rfl (hn4 _ H.p2) hw6 (g := (mkF m 71 #[oa u, oi 0, oi nm, oi 1] [(.int nm), (.ref xb), (.double w5)])) rfl rfl (hb hby d11_71) _ ?_
  refine zC HSD30_1_15 hx hZ hown hby hw zL (zDa u nm w6 w5 v72 hv72 hb73_0) _ ?_
  refine stSD30_1_17 _ ?_
  refine zC HSD30_1_17 hx hZ hown hby hw zL (zCs u nm xl) _ ?_
  refine zf HSD30_1_17 hx hZ 2 rfl ⟨by decide, by decide⟩ hw7 (g := (mkF m 86 #[oa u, oi 0, oi nm, oi 1] [(.int 1), (.ref xl), (.int 0), (.ref u)])) rfl rfl (hb hby d11_86) _ ?_
  refine stSD30_1_19 _ ?_
  refine zC HSD30_1_19 hx hZ hown hby hw zL (zCt u nm) _ ?_
  refine stSD30_1_20 _ ?_
  refine zC HSD30_1_20 hx hZ hown hby hw zL (own_SD30_1_16 u nm) _ ?_
  refine stSD30_1_21 _ ?_
  exact q
theorem zCx (u : Addr) (nm : Int32) (w3 : UInt64) (w1 : UInt64) (v48 : Int32) (hv48 : (cmpValue (FP.dcmp w1 w3) .l) = v48) (hb49_0 : ifCond.holds .le v48 = false) :
    zF zk ok10 48 #[oa u, oi 0, oi nm, oi 1] [(.double w3), (.double w1)] 56 #[oa u, oi 0, oi nm, oi 2] [(.ref u)] := by
  refine zAD (pc2 := 49) d11_48 rfl (v := v48) hv48 ?_
  refine zy (pc2 := 52) d11_49 rfl hb49_0 ?_
  refine own_iinc (pc2 := 55) d11_52 rfl rfl (v := (2 : Int32)) (by decide) (L' := #[oa u, oi 0, oi nm, oi 2]) rfl ?_
  refine zJ (pc2 := 56) d11_55 rfl rfl rfl ?_
  exact zH
theorem zCy (u : Addr) (nm : Int32) (xb : Addr) :
    zF zk ok10 59 #[oa u, oi 0, oi nm, oi 2] [(.ref xb)] 60 #[oa u, oi 0, oi nm, oi 2] [(.ref u), (.ref xb)] := by
  refine zJ (pc2 := 60) d11_59 rfl rfl rfl ?_
  exact zH
theorem zCz (u : Addr) (nm : Int32) (xl : Addr) (xb : Addr) :
    zF zk ok10 63 #[oa u, oi 0, oi nm, oi 2] [(.ref xl), (.ref xb)] 64 #[oa u, oi 0, oi nm, oi 2] [(.int 2), (.ref xl), (.ref xb)] := by
  refine zM (pc2 := 64) d11_63 rfl rfl ?_
  exact zH
theorem zDA (u : Addr) (nm : Int32) (w5 : UInt64) :
    zF zk ok10 66 #[oa u, oi 0, oi nm, oi 2] [(.double w5)] 67 #[oa u, oi 0, oi nm, oi 2] [(.ref u), (.double w5)] := by
  refine zJ (pc2 := 67) d11_66 rfl rfl rfl ?_
  exact zH
theorem zDB (u : Addr) (nm : Int32) (xb : Addr) (w5 : UInt64) :
    zF zk ok10 70 #[oa u, oi 0, oi nm, oi 2] [(.ref xb), (.double w5)] 71 #[oa u, oi 0, oi nm, oi 2] [(.int nm), (.ref xb), (.double w5)] := by
  refine zM (pc2 := 71) d11_70 rfl rfl ?_
  exact zH
theorem own_SD30_2_13 (u : Addr) (nm : Int32) (w6 : UInt64) (w5 : UInt64) (v72 : Int32) (hv72 : (cmpValue (FP.dcmp w5 w6) .g) = v72) (hb73_0 : ifCond.holds .gt v72 = false) :
    zF zk ok10 72 #[oa u, oi 0, oi nm, oi 2] [(.double w6), (.double w5)] 104 #[oa u, oi 0, oi nm, oi 2] [(.int nm), (.int 0), (.ref u)] := by
  refine zAD (pc2 := 73) d11_72 rfl (v := v72) hv72 ?_
  refine zy (pc2 := 76) d11_73 rfl hb73_0 ?_
  refine zAN (pc' := 101) d11_76 (by decide) (by decide) ?_
  refine zJ (pc2 := 102) d11_101 rfl rfl rfl ?_
  refine zM (pc2 := 103) d11_102 rfl rfl ?_
  refine zM (pc2 := 104) d11_103 rfl rfl ?_
  exact zH
set_option maxRecDepth 65536 in
set_option maxHeartbeats 4000000 in
theorem own_SD30_2 (l : Launch) (Z : State) (a0 : Array Value) (hb0 : zU) (hw : ∀ d ∈ tables_1, d.before a0 Z = true) (u : Addr) (nm : Int32) (xb xl xp nu xt xs : Addr) (fb : Int32 → UInt64) (fl fa ft : Int32 → Int32) (kk nn : Int32) (s0 s1 s2 s3 : Int32) (X X0 : Int32 → Int) (H : zZ fa fl nn (3 : Int32) (0 : Int32) nm) (O : zO (zD fl (0 : Int32) nm) X0 (3 : Int32)) (hx0 : ∀ j, j ≠ nm → X0 j = X j) (hn0 : X nm ≤ X0 nm) (hn4 : ∀ j, zG nn j → zG 4 j) (hbD : ∀ j, zG nn j → zN (fb j) ((X j : Int) : Rat)) (d0 : X (fl (1 : Int32)) < X (fl (2 : Int32))) (d1 : X (fl (2 : Int32)) ≤ X nm) :
    zX l Z a0 hb0 (⟨"com/example/tidewise/tidewise/search/UpperBounds", "siftDown", "(II)V"⟩ : MethodName) ok10 4 none [] ({ frames := 1, cells := 0, slots := 0, locals := 14 } : Room) #[(.ref u), (.int 0), (.int nm)] [(u, oc1 (.ref xb) (.ref xl) (.ref xp) (.int kk) (.ref nu) (.int 3)), (xb, zA .double (zK fb)), (xl, zA .int (zE fl)), (xp, zA .int (zE fa)), (nu, oc2 (.int 4) (.ref xt) (.ref xs) (.int nn) .null (.int 0)), (xt, zA .int (zE ft)), (xs, zA .int [.int s0, .int 0, .int 0, .int s2, .int 0, .int 0, .int 0, .int 0, .int 0, .int s1, .int 0, .int 0, .int 0, .int s3, .int 0, .int 0])] (fun r cs' => ∃ fl' fa' : Int32 → Int32, zY fa' fl' nn (3 : Int32) ∧ zO fl' X (3 : Int32) ∧ X (fl' 0) ≤ X0 (zD fl (0 : Int32) nm 0) ∧ (∀ j, fa' j = -1 → j ≠ nm ∧ fa j = -1) ∧ r = none ∧ cs' = [(u, oc1 (.ref xb) (.ref xl) (.ref xp) (.int kk) (.ref nu) (.int 3)), (xb, zA .double (zK fb)), (xl, zA .int (zE fl')), (xp, zA .int (zE fa')), (nu, oc2 (.int 4) (.ref xt) (.ref xs) (.int nn) .null (.int 0)), (xt, zA .int (zE ft)), (xs, zA .int [.int s0, .int 0, .int 0, .int s2, .int 0, .int 0, .int 0, .int 0, .int 0, .int s1, .int 0, .int 0, .int 0, .int s3, .int 0, .int 0])]) := by
  refine zh (L0 := #[oa u, oi 0, oi nm, ou]) (plainFor_of_name zAV) (fun m => zAX m u (0 : Int32) nm) ?_
  intro p e s m below meth c T0 hx hZ hown hby hml hnm H0
  obtain ⟨TSD30_2_1, HSD30_2_1, stSD30_2_1⟩ := zI H0 hx hZ hown (zB hw 64 rfl) 0 5 rfl rfl (g := (mkF m 8 #[oa u, oi 0, oi nm, oi 1] [(.ref u), (.int 1)])) rfl rfl (hb hby d11_8)
  obtain ⟨TSD30_2_2, HSD30_2_2, stSD30_2_2⟩ := zI HSD30_2_1 hx hZ hown (zB hw 64 rfl) 0 5 rfl rfl (g := (mkF m 18 #[oa u, oi 0, oi nm, oi 1] [(.ref u), (.int 2)])) rfl rfl (hb hby d11_18)
  obtain ⟨TSD30_2_3, HSD30_2_3, stSD30_2_3⟩ := zI HSD30_2_2 hx hZ hown (zB hw 10 rfl) 0 0 rfl rfl (g := (mkF m 25 #[oa u, oi 0, oi nm, oi 1] [(.ref u)])) rfl rfl (hb hby d11_25)
  obtain ⟨TSD30_2_4, HSD30_2_4, stSD30_2_4⟩ := zI HSD30_2_3 hx hZ hown (zB hw 13 rfl) 0 1 rfl rfl (g := (mkF m 29 #[oa u, oi 0, oi nm, oi 1] [(.ref u), (.ref xb)])) rfl rfl (hb hby d11_29)
  obtain ⟨w0, hw0⟩ : ∃ z, fl (2 : Int32) = z := ⟨_, rfl⟩
  have ew0 : w0 = fl (2 : Int32) := by rw [← hw0]
  have mw0 : zG nn w0 := by rw [ew0]; exact (H.p1 (2 : Int32) ⟨by decide, by decide⟩ (by decide)).1
  have iw0 := hn4 _ mw0
  obtain ⟨w1, hw1⟩ : ∃ z, fb w0 = z := ⟨_, rfl⟩
  have vw1 : zN w1 ((X w0 : Int) : Rat) := by rw [← hw1]; exact hbD _ mw0
  obtain ⟨TSD30_2_7, HSD30_2_7, stSD30_2_7⟩ := zI HSD30_2_4 hx hZ hown (zB hw 10 rfl) 0 0 rfl rfl (g := (mkF m 38 #[oa u, oi 0, oi nm, oi 1] [(.ref u), (.double w1)])) rfl rfl (hb hby d11_38)
  obtain ⟨TSD30_2_8, HSD30_2_8, stSD30_2_8⟩ := zI HSD30_2_7 hx hZ hown (zB hw 13 rfl) 0 1 rfl rfl (g := (mkF m 42 #[oa u, oi 0, oi nm, oi 1] [(.ref u), (.ref xb), (.double w1)])) rfl rfl (hb hby d11_42)
  obtain ⟨w2, hw2⟩ : ∃ z, fl (1 : Int32) = z := ⟨_, rfl⟩
  have ew2 : w2 = fl (1 : Int32) := by rw [← hw2]
  have mw2 : zG nn w2 := by rw [ew2]; exact (H.p1 (1 : Int32) ⟨by decide, by decide⟩ (by decide)).1
  have iw2 := hn4 _ mw2
  obtain ⟨w3, hw3⟩ : ∃ z, fb w2 = z := ⟨_, rfl⟩
  have vw3 : zN w3 ((X w2 : Int) : Rat) := by rw [← hw3]; exact hbD _ mw2
  obtain ⟨v48, hv48⟩ : ∃ z : Int32, (cmpValue (FP.dcmp w1 w3) .l) = z := ⟨_, rfl⟩
  obtain ⟨TSD30_2_11, HSD30_2_11, stSD30_2_11⟩ := zI HSD30_2_8 hx hZ hown (zB hw 10 rfl) 0 0 rfl rfl (g := (mkF m 56 #[oa u, oi 0, oi nm, oi 2] [(.ref u)])) rfl rfl (hb hby d11_56)
  obtain ⟨TSD30_2_12, HSD30_2_12, stSD30_2_12⟩ := zI HSD30_2_11 hx hZ hown (zB hw 13 rfl) 0 1 rfl rfl (g := (mkF m 60 #[oa u, oi 0, oi nm, oi 2] [(.ref u), (.ref xb)])) rfl rfl (hb hby d11_60)
  obtain ⟨w4, hw4⟩ : ∃ z, fl (2 : Int32) = z := ⟨_, rfl⟩
  have ew4 : w4 = fl (2 : Int32) := by rw [← hw4]
  have mw4 : zG nn w4 := by rw [ew4]; exact (H.p1 (2 : Int32) ⟨by decide, by decide⟩ (by decide)).1
  have iw4 := hn4 _ mw4
  obtain ⟨w5, hw5⟩ : ∃ z, fb w4 = z := ⟨_, rfl⟩
  have vw5 : zN w5 ((X w4 : Int) : Rat) := by rw [← hw5]; exact hbD _ mw4
  obtain ⟨TSD30_2_15, HSD30_2_15, stSD30_2_15⟩ := zI HSD30_2_12 hx hZ hown (zB hw 10 rfl) 0 0 rfl rfl (g := (mkF m 67 #[oa u, oi 0, oi nm, oi 2] [(.ref u), (.double w5)])) rfl rfl (hb hby d11_67)
  obtain ⟨w6, hw6⟩ : ∃ z, fb nm = z := ⟨_, rfl⟩
  have vw6 : zN w6 ((X nm : Int) : Rat) := by rw [← hw6]; exact hbD _ H.p2
  obtain ⟨v72, hv72⟩ : ∃ z : Int32, (cmpValue (FP.dcmp w5 w6) .g) = z := ⟨_, rfl⟩
  obtain ⟨TSD30_2_17, vSD30_2_17_, csSD30_2_17_, qSD30_2_17, HSD30_2_17, stSD30_2_17⟩ := zo HSD30_2_15 hx hZ hown (zB hw 70 rfl) (zB hw 71 rfl) (zB hw 72 rfl) (zB hw 1 rfl) (zB hw 2 rfl) (zB hw 73 rfl) (by decide) (x := u) 0 rfl (argsL := [(.int 0), (.int nm)]) (rest := []) (W := 0) (zu l Z a0 hb0 hw u (0 : Int32) nm xb xl xp nu xt xs fb fl fa ft kk (3 : Int32) nn s0 s1 s2 s3 ⟨by decide, by decide⟩ (hn4 _ H.p2)) (by decide) (by decide) (by decide) (by decide) (g := (mkF m 104 #[oa u, oi 0, oi nm, oi 2] [(.int nm), (.int 0), (.ref u)])) rfl (by rw [hml]; rfl) (lenOf zq rfl) rfl (by show 2 * 0 + _ ≤ _; exact Nat.le_of_eq rfl) (hb hby d11_104)
  obtain ⟨rfl, rfl⟩ := qSD30_2_17
  have d0' := d0
  rw [← ew0, ← ew2] at d0'
  have hb49_0 : ifCond.holds .le v48 = false := by
    rw [← hv48, zBI vw1 vw3]
    exact decide_eq_false (Rat.not_le.mpr (zAP d0'))
  have d1' := d1
  rw [← ew4] at d1'
  have hb73_0 : ifCond.holds .gt v72 = false := by
    rw [← hv72, zAc vw5 vw6]
    exact decide_eq_false (Rat.not_lt.mpr (zAS d1'))
  have q := own_sd30_2 H O hx0 hn0 d0 d1
  refine ⟨_, _, _, _, 107, #[oa u, oi 0, oi nm, oi 2], HSD30_2_17, by decide, by decide, Or.inl ⟨rfl, ⟨_, _, q.1, q.2.1, q.2.2.1, q.2.2.2, rfl, rfl⟩, d11_107, fun target q => ?_⟩⟩
  refine zC H0 hx hZ hown hby hw zL (zAo u nm) _ ?_
  refine stSD30_2_1 _ ?_
  refine zC HSD30_2_1 hx hZ hown hby hw zL (zCv u nm) _ ?_
  refine stSD30_2_2 _ ?_
  refine zC HSD30_2_2 hx hZ hown hby hw zL (zCw u nm) _ ?_
  refine stSD30_2_3 _ ?_
  refine zC HSD30_2_3 hx hZ hown hby hw zL (zBP u nm xb) _ ?_
  refine stSD30_2_4 _ ?_
  refine zC HSD30_2_4 hx hZ hown hby hw zL (zBQ u nm xl xb) _ ?_
  refine zf HSD30_2_4 hx hZ 2 rfl ⟨by decide, by decide⟩ hw0 (g := (mkF m 35 #[oa u, oi 0, oi nm, oi 1] [(.int 2), (.ref xl), (.ref xb)])) rfl rfl (hb hby d11_35) _ ?_
  refine zd HSD30_2_4 hx hZ 1 rfl iw0 hw1 (g := (mkF m 36 #[oa u, oi 0, oi nm, oi 1] [(.int w0), (.ref xb)])) rfl rfl (hb hby d11_36) _ ?_
  refine zC HSD30_2_4 hx hZ hown hby hw zL (zBR u nm w1) _ ?_
  refine stSD30_2_7 _ ?_
  refine zC HSD30_2_7 hx hZ hown hby hw zL (zBS u nm xb w1) _ ?_
  refine stSD30_2_8 _ ?_
  refine zC HSD30_2_8 hx hZ hown hby hw zL (zBT u nm xl xb w1) _ ?_
  refine zf HSD30_2_8 hx hZ 2 rfl ⟨by decide, by decide⟩ hw2 (g := (mkF m 46 #[oa u, oi 0, oi nm, oi 1] [(.int 1), (.ref xl), (.ref xb), (.double w1)])) rfl rfl (hb hby d11_46) _ ?_
  refine zd HSD30_2_8 hx hZ 1 rfl iw2 hw3 (g := (mkF m 47 #[oa u, oi 0, oi nm, oi 1] [(.int w2), (.ref xb), (.double w1)])) rfl rfl (hb hby d11_47) _ ?_
  refine zC HSD30_2_8 hx hZ hown hby hw zL (zCx u nm w3 w1 v48 hv48 hb49_0) _ ?_
  refine stSD30_2_11 _ ?_
  refine zC HSD30_2_11 hx hZ hown hby hw zL (zCy u nm xb) _ ?_
  refine stSD30_2_12 _ ?_
  refine zC HSD30_2_12 hx hZ hown hby hw zL (zCz u nm xl xb) _ ?_
  refine zf HSD30_2_12 hx hZ 2 rfl ⟨by decide, by decide⟩ hw4 (g := (mkF m 64 #[oa u, oi 0, oi nm, oi 2] [(.int 2), (.ref xl), (.ref xb)])) rfl rfl (hb hby d11_64) _ ?_
  refine zd HSD30_2_12 hx hZ 1 rfl iw4 hw5 (g := (mkF m 65 #[oa u, oi 0, oi nm, oi 2] [(.int w4), (.ref xb)])) rfl rfl (hb hby d11_65) _ ?_
  refine zC HSD30_2_12 hx hZ hown hby hw zL (zDA u nm w5) _ ?_
  refine stSD30_2_15 _ ?_
  refine zC HSD30_2_15 hx hZ hown hby hw zL (zDB u nm xb w5) _ ?_
  refine zd HSD30_2_15 hx hZ 1 rfl (hn4 _ H.p2) hw6 (g := (mkF m 71 #[oa u, oi 0, oi nm, oi 2] [(.int nm), (.ref xb), (.double w5)])) rfl rfl (hb hby d11_71) _ ?_
  refine zC HSD30_2_15 hx hZ hown hby hw zL (own_SD30_2_13 u nm w6 w5 v72 hv72 hb73_0) _ ?_
  refine stSD30_2_17 _ ?_
  exact q
theorem own_SD30_3_13 (u : Addr) (nm : Int32) (w6 : UInt64) (w5 : UInt64) (v72 : Int32) (hv72 : (cmpValue (FP.dcmp w5 w6) .g) = v72) (hb73_0 : ifCond.holds .gt v72 = true) :
    zF zk ok10 72 #[oa u, oi 0, oi nm, oi 2] [(.double w6), (.double w5)] 82 #[oa u, oi 0, oi nm, oi 2] [(.ref u), (.int 0), (.ref u)] := by
  refine zAD (pc2 := 73) d11_72 rfl (v := v72) hv72 ?_
  refine zx (pc' := 79) d11_73 hb73_0 (by decide) (by decide) ?_
  refine zJ (pc2 := 80) d11_79 rfl rfl rfl ?_
  refine zM (pc2 := 81) d11_80 rfl rfl ?_
  refine zJ (pc2 := 82) d11_81 rfl rfl rfl ?_
  exact zH
theorem own_SD30_3_14 (u : Addr) (nm : Int32) (xl : Addr) :
    zF zk ok10 85 #[oa u, oi 0, oi nm, oi 2] [(.ref xl), (.int 0), (.ref u)] 86 #[oa u, oi 0, oi nm, oi 2] [(.int 2), (.ref xl), (.int 0), (.ref u)] := by
  refine zM (pc2 := 86) d11_85 rfl rfl ?_
  exact zH
theorem own_SD30_3_15 (u : Addr) (nm : Int32) :
    zF zk ok10 90 #[oa u, oi 0, oi nm, oi 2] [] 8 #[oa u, oi 2, oi nm, oi 5] [(.ref u), (.int 5)] := by
  refine zM (pc2 := 91) d11_90 rfl rfl ?_
  refine zAG (pc2 := 92) d11_91 rfl (L' := #[oa u, oi 2, oi nm, oi 2]) rfl ?_
  refine zT (v := 2) (pc2 := 93) d11_92 rfl rfl ?_
  refine zM (pc2 := 94) d11_93 rfl rfl ?_
  refine zAq (pc2 := 95) d11_94 rfl (v := (4 : Int32)) (by decide) ?_
  refine zT (v := 1) (pc2 := 96) d11_95 rfl rfl ?_
  refine zAI (pc2 := 97) d11_96 rfl (v := (5 : Int32)) (by decide) ?_
  refine zAG (pc2 := 98) d11_97 rfl (L' := #[oa u, oi 2, oi nm, oi 5]) rfl ?_
  refine zAN (pc' := 6) d11_98 (by decide) (by decide) ?_
  refine zM (pc2 := 7) d11_6 rfl rfl ?_
  refine zJ (pc2 := 8) d11_7 rfl rfl rfl ?_
  exact zH
theorem own_SD30_3_16 (u : Addr) (nm : Int32) :
    zF zk ok10 11 #[oa u, oi 2, oi nm, oi 5] [(.int 3), (.int 5)] 104 #[oa u, oi 2, oi nm, oi 5] [(.int nm), (.int 2), (.ref u)] := by
  refine zAJ (pc' := 101) d11_11 (by decide) (by decide) (by decide) ?_
  refine zJ (pc2 := 102) d11_101 rfl rfl rfl ?_
  refine zM (pc2 := 103) d11_102 rfl rfl ?_
  refine zM (pc2 := 104) d11_103 rfl rfl ?_
  exact zH
set_option maxRecDepth 65536 in
set_option maxHeartbeats 4000000 in
theorem own_SD30_3 (l : Launch) (Z : State) (a0 : Array Value) (hb0 : zU) (hw : ∀ d ∈ tables_1, d.before a0 Z = true) (u : Addr) (nm : Int32) (xb xl xp nu xt xs : Addr) (fb : Int32 → UInt64) (fl fa ft : Int32 → Int32) (kk nn : Int32) (s0 s1 s2 s3 : Int32) (X X0 : Int32 → Int) (H : zZ fa fl nn (3 : Int32) (0 : Int32) nm) (O : zO (zD fl (0 : Int32) nm) X0 (3 : Int32)) (hx0 : ∀ j, j ≠ nm → X0 j = X j) (hn0 : X nm ≤ X0 nm) (hn4 : ∀ j, zG nn j → zG 4 j) (hbD : ∀ j, zG nn j → zN (fb j) ((X j : Int) : Rat)) (d0 : X (fl (1 : Int32)) < X (fl (2 : Int32))) (d1 : X nm < X (fl (2 : Int32))) :
    zX l Z a0 hb0 (⟨"com/example/tidewise/tidewise/search/UpperBounds", "siftDown", "(II)V"⟩ : MethodName) ok10 4 none [] ({ frames := 1, cells := 0, slots := 0, locals := 14 } : Room) #[(.ref u), (.int 0), (.int nm)] [(u, oc1 (.ref xb) (.ref xl) (.ref xp) (.int kk) (.ref nu) (.int 3)), (xb, zA .double (zK fb)), (xl, zA .int (zE fl)), (xp, zA .int (zE fa)), (nu, oc2 (.int 4) (.ref xt) (.ref xs) (.int nn) .null (.int 0)), (xt, zA .int (zE ft)), (xs, zA .int [.int s0, .int 0, .int 0, .int s2, .int 0, .int 0, .int 0, .int 0, .int 0, .int s1, .int 0, .int 0, .int 0, .int s3, .int 0, .int 0])] (fun r cs' => ∃ fl' fa' : Int32 → Int32, zY fa' fl' nn (3 : Int32) ∧ zO fl' X (3 : Int32) ∧ X (fl' 0) ≤ X0 (zD fl (0 : Int32) nm 0) ∧ (∀ j, fa' j = -1 → j ≠ nm ∧ fa j = -1) ∧ r = none ∧ cs' = [(u, oc1 (.ref xb) (.ref xl) (.ref xp) (.int kk) (.ref nu) (.int 3)), (xb, zA .double (zK fb)), (xl, zA .int (zE fl')), (xp, zA .int (zE fa')), (nu, oc2 (.int 4) (.ref xt) (.ref xs) (.int nn) .null (.int 0)), (xt, zA .int (zE ft)), (xs, zA .int [.int s0, .int 0, .int 0, .int s2, .int 0, .int 0, .int 0, .int 0, .int 0, .int s1, .int 0, .int 0, .int 0, .int s3, .int 0, .int 0])]) := by
  refine zh (L0 := #[oa u, oi 0, oi nm, ou]) (plainFor_of_name zAV) (fun m => zAX m u (0 : Int32) nm) ?_
  intro p e s m below meth c T0 hx hZ hown hby hml hnm H0
  obtain ⟨TSD30_3_1, HSD30_3_1, stSD30_3_1⟩ := zI H0 hx hZ hown (zB hw 64 rfl) 0 5 rfl rfl (g := (mkF m 8 #[oa u, oi 0, oi nm, oi 1] [(.ref u), (.int 1)])) rfl rfl (hb hby d11_8)
  obtain ⟨TSD30_3_2, HSD30_3_2, stSD30_3_2⟩ := zI HSD30_3_1 hx hZ hown (zB hw 64 rfl) 0 5 rfl rfl (g := (mkF m 18 #[oa u, oi 0, oi nm, oi 1] [(.ref u), (.int 2)])) rfl rfl (hb hby d11_18)
  obtain ⟨TSD30_3_3, HSD30_3_3, stSD30_3_3⟩ := zI HSD30_3_2 hx hZ hown (zB hw 10 rfl) 0 0 rfl rfl (g := (mkF m 25 #[oa u, oi 0, oi nm, oi 1] [(.ref u)])) rfl rfl (hb hby d11_25)
  obtain ⟨TSD30_3_4, HSD30_3_4, stSD30_3_4⟩ := zI HSD30_3_3 hx hZ hown (zB hw 13 rfl) 0 1 rfl rfl (g := (mkF m 29 #[oa u, oi 0, oi nm, oi 1] [(.ref u), (.ref xb)])) rfl rfl (hb hby d11_29)
  obtain ⟨w0, hw0⟩ : ∃ z, fl (2 : Int32) = z := ⟨_, rfl⟩
  have ew0 : w0 = fl (2 : Int32) := by rw [← hw0]
  have mw0 : zG nn w0 := by rw [ew0]; exact (H.p1 (2 : Int32) ⟨by decide, by decide⟩ (by decide)).1
  have iw0 := hn4 _ mw0
  obtain ⟨w1, hw1⟩ : ∃ z, fb w0 = z := ⟨_, rfl⟩
  have vw1 : zN w1 ((X w0 : Int) : Rat) := by rw [← hw1]; exact hbD _ mw0
  obtain ⟨TSD30_3_7, HSD30_3_7, stSD30_3_7⟩ := zI HSD30_3_4 hx hZ hown (zB hw 10 rfl) 0 0 rfl rfl (g := (mkF m 38 #[oa u, oi 0, oi nm, oi 1] [(.ref u), (.double w1)])) rfl rfl (hb hby d11_38)
  obtain ⟨TSD30_3_8, HSD30_3_8, stSD30_3_8⟩ := zI HSD30_3_7 hx hZ hown (zB hw 13 rfl) 0 1 rfl rfl (g := (mkF m 42 #[oa u, oi 0, oi nm, oi 1] [(.ref u), (.ref xb), (.double w1)])) rfl rfl (hb hby d11_42)
  obtain ⟨w2, hw2⟩ : ∃ z, fl (1 : Int32) = z := ⟨_, rfl⟩
  have ew2 : w2 = fl (1 : Int32) := by rw [← hw2]
  have mw2 : zG nn w2 := by rw [ew2]; exact (H.p1 (1 : Int32) ⟨by decide, by decide⟩ (by decide)).1
  have iw2 := hn4 _ mw2
  obtain ⟨w3, hw3⟩ : ∃ z, fb w2 = z := ⟨_, rfl⟩
  have vw3 : zN w3 ((X w2 : Int) : Rat) := by rw [← hw3]; exact hbD _ mw2
  obtain ⟨v48, hv48⟩ : ∃ z : Int32, (cmpValue (FP.dcmp w1 w3) .l) = z := ⟨_, rfl⟩
  obtain ⟨TSD30_3_11, HSD30_3_11, stSD30_3_11⟩ := zI HSD30_3_8 hx hZ hown (zB hw 10 rfl) 0 0 rfl rfl (g := (mkF m 56 #[oa u, oi 0, oi nm, oi 2] [(.ref u)])) rfl rfl (hb hby d11_56)
  obtain ⟨TSD30_3_12, HSD30_3_12, stSD30_3_12⟩ := zI HSD30_3_11 hx hZ hown (zB hw 13 rfl) 0 1 rfl rfl (g := (mkF m 60 #[oa u, oi 0, oi nm, oi 2] [(.ref u), (.ref xb)])) rfl rfl (hb hby d11_60)
  obtain ⟨w4, hw4⟩ : ∃ z, fl (2 : Int32) = z := ⟨_, rfl⟩
  have ew4 : w4 = fl (2 : Int32) := by rw [← hw4]
  have mw4 : zG nn w4 := by rw [ew4]; exact (H.p1 (2 : Int32) ⟨by decide, by decide⟩ (by decide)).1
  have iw4 := hn4 _ mw4
  obtain ⟨w5, hw5⟩ : ∃ z, fb w4 = z := ⟨_, rfl⟩
  have vw5 : zN w5 ((X w4 : Int) : Rat) := by rw [← hw5]; exact hbD _ mw4
  obtain ⟨TSD30_3_15, HSD30_3_15, stSD30_3_15⟩ := zI HSD30_3_12 hx hZ hown (zB hw 10 rfl) 0 0 rfl rfl (g := (mkF m 67 #[oa u, oi 0, oi nm, oi 2] [(.ref u), (.double w5)])) rfl rfl (hb hby d11_67)
  obtain ⟨w6, hw6⟩ : ∃ z, fb nm = z := ⟨_, rfl⟩
  have vw6 : zN w6 ((X nm : Int) : Rat) := by rw [← hw6]; exact hbD _ H.p2
  obtain ⟨v72, hv72⟩ : ∃ z : Int32, (cmpValue (FP.dcmp w5 w6) .g) = z := ⟨_, rfl⟩
  obtain ⟨TSD30_3_17, HSD30_3_17, stSD30_3_17⟩ := zI HSD30_3_15 hx hZ hown (zB hw 13 rfl) 0 1 rfl rfl (g := (mkF m 82 #[oa u, oi 0, oi nm, oi 2] [(.ref u), (.int 0), (.ref u)])) rfl rfl (hb hby d11_82)
  obtain ⟨w7, hw7⟩ : ∃ z, fl (2 : Int32) = z := ⟨_, rfl⟩
  have ew7 : w7 = fl (2 : Int32) := by rw [← hw7]
  have mw7 : zG nn w7 := by rw [ew7]; exact (H.p1 (2 : Int32) ⟨by decide, by decide⟩ (by decide)).1
  have iw7 := hn4 _ mw7
  obtain ⟨TSD30_3_19, vSD30_3_19_, csSD30_3_19_, qSD30_3_19, HSD30_3_19, stSD30_3_19⟩ := zo HSD30_3_17 hx hZ hown (zB hw 70 rfl) (zB hw 71 rfl) (zB hw 72 rfl) (zB hw 1 rfl) (zB hw 2 rfl) (zB hw 73 rfl) (by decide) (x := u) 0 rfl (argsL := [(.int 0), (.int w7)]) (rest := []) (W := 0) (zu l Z a0 hb0 hw u (0 : Int32) w7 xb xl xp nu xt xs fb fl fa ft kk (3 : Int32) nn s0 s1 s2 s3 ⟨by decide, by decide⟩ iw7) (by decide) (by decide) (by decide) (by decide) (g := (mkF m 87 #[oa u, oi 0, oi nm, oi 2] [(.int w7), (.int 0), (.ref u)])) rfl (by rw [hml]; rfl) (lenOf zq rfl) rfl (by show 2 * 0 + _ ≤ _; exact Nat.le_of_eq rfl) (hb hby d11_87)
  obtain ⟨rfl, rfl⟩ := qSD30_3_19
  obtain ⟨TSD30_3_20, HSD30_3_20, stSD30_3_20⟩ := zI HSD30_3_19 hx hZ hown (zB hw 64 rfl) 0 5 rfl rfl (g := (mkF m 8 #[oa u, oi 2, oi nm, oi 5] [(.ref u), (.int 5)])) rfl rfl (hb hby d11_8)
  obtain ⟨TSD30_3_21, vSD30_3_21_, csSD30_3_21_, qSD30_3_21, HSD30_3_21, stSD30_3_21⟩ := zo HSD30_3_20 hx hZ hown (zB hw 70 rfl) (zB hw 71 rfl) (zB hw 72 rfl) (zB hw 1 rfl) (zB hw 2 rfl) (zB hw 73 rfl) (by decide) (x := u) 0 rfl (argsL := [(.int 2), (.int nm)]) (rest := []) (W := 0) (zu l Z a0 hb0 hw u (2 : Int32) nm xb xl xp nu xt xs fb (zD fl (0 : Int32) w7) (zD fa w7 (0 : Int32)) ft kk (3 : Int32) nn s0 s1 s2 s3 ⟨by decide, by decide⟩ (hn4 _ H.p2)) (by decide) (by decide) (by decide) (by decide) (g := (mkF m 104 #[oa u, oi 2, oi nm, oi 5] [(.int nm), (.int 2), (.ref u)])) rfl (by rw [hml]; rfl) (lenOf zq rfl) rfl (by show 2 * 0 + _ ≤ _; exact Nat.le_of_eq rfl) (hb hby d11_104)
  obtain ⟨rfl, rfl⟩ := qSD30_3_21
  have d0' := d0
  rw [← ew0, ← ew2] at d0'
  have hb49_0 : ifCond.holds .le v48 = false := by
    rw [← hv48, zBI vw1 vw3]
    exact decide_eq_false (Rat.not_le.mpr (zAP d0'))
  have d1' := d1
  rw [← ew4] at d1'
  have hb73_0 : ifCond.holds .gt v72 = true := by
    rw [← hv72, zAc vw5 vw6]
    exact decide_eq_true (zAP d1')
  have q := own_sd30_3 H O hx0 hn0 d0 d1
  rw [← ew7] at q
  refine ⟨_, _, _, _, 107, #[oa u, oi 2, oi nm, oi 5], HSD30_3_21, by decide, by decide, Or.inl ⟨rfl, ⟨_, _, q.1, q.2.1, q.2.2.1, q.2.2.2, rfl, rfl⟩, d11_107, fun target q => ?_⟩⟩
  refine zC H0 hx hZ hown hby hw zL (zAo u nm) _ ?_
  refine stSD30_3_1 _ ?_
  refine zC HSD30_3_1 hx hZ hown hby hw zL (zCv u nm) _ ?_
  refine stSD30_3_2 _ ?_
  refine zC HSD30_3_2 hx hZ hown hby hw zL (zCw u nm) _ ?_
  refine stSD30_3_3 _ ?_
  refine zC HSD30_3_3 hx hZ hown hby hw zL (zBP u nm xb) _ ?_
  refine stSD30_3_4 _ ?_
  refine zC HSD30_3_4 hx hZ hown hby hw zL (zBQ u nm xl xb) _ ?_
  refine zf HSD30_3_4 hx hZ 2 rfl ⟨by decide, by decide⟩ hw0 (g := (mkF m 35 #[oa u, oi 0, oi nm, oi 1] [(.int 2), (.ref xl), (.ref xb)])) rfl rfl (hb hby d11_35) _ ?_
  refine zd HSD30_3_4 hx hZ 1 rfl iw0 hw1 (g := (mkF m 36 #[oa u, oi 0, oi nm, oi 1] [(.int w0), (.ref xb)])) rfl rfl (hb hby d11_36) _ ?_
  refine zC HSD30_3_4 hx hZ hown hby hw zL (zBR u nm w1) _ ?_
  refine stSD30_3_7 _ ?_
  refine zC HSD30_3_7 hx hZ hown hby hw zL (zBS u nm xb w1) _ ?_
  refine stSD30_3_8 _ ?_
  refine zC HSD30_3_8 hx hZ hown hby hw zL (zBT u nm xl xb w1) _ ?_
  refine zf HSD30_3_8 hx hZ 2 rfl ⟨by decide, by decide⟩ hw2 (g := (mkF m 46 #[oa u, oi 0, oi nm, oi 1] [(.int 1), (.ref xl), (.ref xb), (.double w1)])) rfl rfl (hb hby d11_46) _ ?_
  refine zd HSD30_3_8 hx hZ 1 rfl iw2 hw3 (g := (mkF m 47 #[oa u, oi 0, oi nm, oi 1] [(.int w2), (.ref xb), (.double w1)])) rfl rfl (hb hby d11_47) _ ?_
  refine zC HSD30_3_8 hx hZ hown hby hw zL (zCx u nm w3 w1 v48 hv48 hb49_0) _ ?_
  refine stSD30_3_11 _ ?_
  refine zC HSD30_3_11 hx hZ hown hby hw zL (zCy u nm xb) _ ?_
  refine stSD30_3_12 _ ?_
  refine zC HSD30_3_12 hx hZ hown hby hw zL (zCz u nm xl xb) _ ?_
  refine zf HSD30_3_12 hx hZ 2 rfl ⟨by decide, by decide⟩ hw4 (g := (mkF m 64 #[oa u, oi 0, oi nm, oi 2] [(.int 2), (.ref xl), (.ref xb)])) rfl rfl (hb hby d11_64) _ ?_
  refine zd HSD30_3_12 hx hZ 1 rfl iw4 hw5 (g := (mkF m 65 #[oa u, oi 0, oi nm, oi 2] [(.int w4), (.ref xb)])) rfl rfl (hb hby d11_65) _ ?_
  refine zC HSD30_3_12 hx hZ hown hby hw zL (zDA u nm w5) _ ?_
  refine stSD30_3_15 _ ?_
  refine zC HSD30_3_15 hx hZ hown hby hw zL (zDB u nm xb w5) _ ?_
  refine zd HSD30_3_15 hx hZ 1 rfl (hn4 _ H.p2) hw6 (g := (mkF m 71 #[oa u, oi 0, oi nm, oi 2] [(.int nm), (.ref xb), (.double w5)])) rfl rfl (hb hby d11_71) _ ?_
  refine zC HSD30_3_15 hx hZ hown hby hw zL (own_SD30_3_13 u nm w6 w5 v72 hv72 hb73_0) _ ?_
  refine stSD30_3_17 _ ?_
  refine zC HSD30_3_17 hx hZ hown hby hw zL (own_SD30_3_14 u nm xl) _ ?_
  refine zf HSD30_3_17 hx hZ 2 rfl ⟨by decide, by decide⟩ hw7 (g := (mkF m 86 #[oa u, oi 0, oi nm, oi 2] [(.int 2), (.ref xl), (.int 0), (.ref u)])) rfl rfl (hb hby d11_86) _ ?_
  refine stSD30_3_19 _ ?_
  refine zC HSD30_3_19 hx hZ hown hby hw zL (own_SD30_3_15 u nm) _ ?_
  refine stSD30_3_20 _ ?_
  refine zC HSD30_3_20 hx hZ hown hby hw zL (own_SD30_3_16 u nm) _ ?_
  refine stSD30_3_21 _ ?_
  exact q
theorem own_SD30 (l : Launch) (Z : State) (a0 : Array Value) (hb0 : zU) (hw : ∀ d ∈ tables_1, d.before a0 Z = true) (u : Addr) (nm : Int32) (xb xl xp nu xt xs : Addr) (fb : Int32 → UInt64) (fl fa ft : Int32 → Int32) (kk nn : Int32) (s0 s1 s2 s3 : Int32) (X X0 : Int32 → Int) (H : zZ fa fl nn (3 : Int32) (0 : Int32) nm) (O : zO (zD fl (0 : Int32) nm) X0 (3 : Int32)) (hx0 : ∀ j, j ≠ nm → X0 j = X j) (hn0 : X nm ≤ X0 nm) (hn4 : ∀ j, zG nn j → zG 4 j) (hbD : ∀ j, zG nn j → zN (fb j) ((X j : Int) : Rat)) :
    zX l Z a0 hb0 (⟨"com/example/tidewise/tidewise/search/UpperBounds", "siftDown", "(II)V"⟩ : MethodName) ok10 4 none [] ({ frames := 1, cells := 0, slots := 0, locals := 14 } : Room) #[(.ref u), (.int 0), (.int nm)] [(u, oc1 (.ref xb) (.ref xl) (.ref xp) (.int kk) (.ref nu) (.int 3)), (xb, zA .double (zK fb)), (xl, zA .int (zE fl)), (xp, zA .int (zE fa)), (nu, oc2 (.int 4) (.ref xt) (.ref xs) (.int nn) .null (.int 0)), (xt, zA .int (zE ft)), (xs, zA .int [.int s0, .int 0, .int 0, .int s2, .int 0, .int 0, .int 0, .int 0, .int 0, .int s1, .int 0, .int 0, .int 0, .int s3, .int 0, .int 0])] (fun r cs' => ∃ fl' fa' : Int32 → Int32, zY fa' fl' nn (3 : Int32) ∧ zO fl' X (3 : Int32) ∧ X (fl' 0) ≤ X0 (zD fl (0 : Int32) nm 0) ∧ (∀ j, fa' j = -1 → j ≠ nm ∧ fa j = -1) ∧ r = none ∧ cs' = [(u, oc1 (.ref xb) (.ref xl) (.ref xp) (.int kk) (.ref nu) (.int 3)), (xb, zA .double (zK fb)), (xl, zA .int (zE fl')), (xp, zA .int (zE fa')), (nu, oc2 (.int 4) (.ref xt) (.ref xs) (.int nn) .null (.int 0)), (xt, zA .int (zE ft)), (xs, zA .int [.int s0, .int 0, .int 0, .int s2, .int 0, .int 0, .int 0, .int 0, .int 0, .int s1, .int 0, .int 0, .int 0, .int s3, .int 0, .int 0])]) := by
  rcases Int.lt_or_le (X (fl (1 : Int32))) (X (fl (2 : Int32))) with c0 | c0
  · skip
    rcases Int.lt_or_le (X nm) (X (fl (2 : Int32))) with c1 | c1
    · skip
      exact own_SD30_3 l Z a0 hb0 hw u nm xb xl xp nu xt xs fb fl fa ft kk nn s0 s1 s2 s3 X X0 H O hx0 hn0 hn4 hbD c0 c1
    · skip
      exact own_SD30_2 l Z a0 hb0 hw u nm xb xl xp nu xt xs fb fl fa ft kk nn s0 s1 s2 s3 X X0 H O hx0 hn0 hn4 hbD c0 c1
  · skip
    rcases Int.lt_or_le (X nm) (X (fl (1 : Int32))) with c1 | c1
    · skip
      exact own_SD30_1 l Z a0 hb0 hw u nm xb xl xp nu xt xs fb fl fa ft kk nn s0 s1 s2 s3 X X0 H O hx0 hn0 hn4 hbD c0 c1
    · skip
      exact own_SD30_0 l Z a0 hb0 hw u nm xb xl xp nu xt xs fb fl fa ft kk nn s0 s1 s2 s3 X X0 H O hx0 hn0 hn4 hbD c0 c1
set_option maxRecDepth 65536 in
set_option maxHeartbeats 4000000 in
theorem own_SD31_0 (l : Launch) (Z : State) (a0 : Array Value) (hb0 : zU) (hw : ∀ d ∈ tables_1, d.before a0 Z = true) (u : Addr) (nm : Int32) (xb xl xp nu xt xs : Addr) (fb : Int32 → UInt64) (fl fa ft : Int32 → Int32) (kk nn : Int32) (s0 s1 s2 s3 : Int32) (X X0 : Int32 → Int) (H : zZ fa fl nn (3 : Int32) (1 : Int32) nm) (O : zO (zD fl (1 : Int32) nm) X0 (3 : Int32)) (hx0 : ∀ j, j ≠ nm → X0 j = X j) (hn0 : X nm ≤ X0 nm) (hn4 : ∀ j, zG nn j → zG 4 j) (hbD : ∀ j, zG nn j → zN (fb j) ((X j : Int) : Rat)) :
    zX l Z a0 hb0 (⟨"com/example/tidewise/tidewise/search/UpperBounds", "siftDown", "(II)V"⟩ : MethodName) ok10 4 none [] ({ frames := 1, cells := 0, slots := 0, locals := 14 } : Room) #[(.ref u), (.int 1), (.int nm)] [(u, oc1 (.ref xb) (.ref xl) (.ref xp) (.int kk) (.ref nu) (.int 3)), (xb, zA .double (zK fb)), (xl, zA .int (zE fl)), (xp, zA .int (zE fa)), (nu, oc2 (.int 4) (.ref xt) (.ref xs) (.int nn) .null (.int 0)), (xt, zA .int (zE ft)), (xs, zA .int [.int s0, .int 0, .int 0, .int s2, .int 0, .int 0, .int 0, .int 0, .int 0, .int s1, .int 0, .int 0, .int 0, .int s3, .int 0, .int 0])] (fun r cs' => ∃ fl' fa' : Int32 → Int32, zY fa' fl' nn (3 : Int32) ∧ zO fl' X (3 : Int32) ∧ X (fl' 0) ≤ X0 (zD fl (1 : Int32) nm 0) ∧ (∀ j, fa' j = -1 → j ≠ nm ∧ fa j = -1) ∧ r = none ∧ cs' = [(u, oc1 (.ref xb) (.ref xl) (.ref xp) (.int kk) (.ref nu) (.int 3)), (xb, zA .double (zK fb)), (xl, zA .int (zE fl')), (xp, zA .int (zE fa')), (nu, oc2 (.int 4) (.ref xt) (.ref xs) (.int nn) .null (.int 0)), (xt, zA .int (zE ft)), (xs, zA .int [.int s0, .int 0, .int 0, .int s2, .int 0, .int 0, .int 0, .int 0, .int 0, .int s1, .int 0, .int 0, .int 0, .int s3, .int 0, .int 0])]) := by
  refine zh (L0 := #[oa u, oi 1, oi nm, ou]) (plainFor_of_name zAV) (fun m => zAX m u (1 : Int32) nm) ?_
  intro p e s m below meth c T0 hx hZ hown hby hml hnm H0
  obtain ⟨TSD31_0_1, HSD31_0_1, stSD31_0_1⟩ := zI H0 hx hZ hown (zB hw 64 rfl) 0 5 rfl rfl (g := (mkF m 8 #[oa u, oi 1, oi nm, oi 3] [(.ref u), (.int 3)])) rfl rfl (hb hby d11_8)
  obtain ⟨TSD31_0_2, vSD31_0_2_, csSD31_0_2_, qSD31_0_2, HSD31_0_2, stSD31_0_2⟩ := zo HSD31_0_1 hx hZ hown (zB hw 70 rfl) (zB hw 71 rfl) (zB hw 72 rfl) (zB hw 1 rfl) (zB hw 2 rfl) (zB hw 73 rfl) (by decide) (x := u) 0 rfl (argsL := [(.int 1), (.int nm)]) (rest := []) (W := 0) (zu l Z a0 hb0 hw u (1 : Int32) nm xb xl xp nu xt xs fb fl fa ft kk (3 : Int32) nn s0 s1 s2 s3 ⟨by decide, by decide⟩ (hn4 _ H.p2)) (by decide) (by decide) (by decide) (by decide) (g := (mkF m 104 #[oa u, oi 1, oi nm, oi 3] [(.int nm), (.int 1), (.ref u)])) rfl (by rw [hml]; rfl) (lenOf zq rfl) rfl (by show 2 * 0 + _ ≤ _; exact Nat.le_of_eq rfl) (hb hby d11_104)
  obtain ⟨rfl, rfl⟩ := qSD31_0_2
  have q := own_sd31_0 H O hx0 hn0 
  refine ⟨_, _, _, _, 107, #[oa u, oi 1, oi nm, oi 3], HSD31_0_2, by decide, by decide, Or.inl ⟨rfl, ⟨_, _, q.1, q.2.1, q.2.2.1, q.2.2.2, rfl, rfl⟩, d11_107, fun target q => ?_⟩⟩
  refine zC H0 hx hZ hown hby hw zL (zCu u nm) _ ?_
  refine stSD31_0_1 _ ?_
  refine zC HSD31_0_1 hx hZ hown hby hw zL (own_SD30_1_16 u nm) _ ?_
  refine stSD31_0_2 _ ?_
  exact q
theorem own_SD31 (l : Launch) (Z : State) (a0 : Array Value) (hb0 : zU) (hw : ∀ d ∈ tables_1, d.before a0 Z = true) (u : Addr) (nm : Int32) (xb xl xp nu xt xs : Addr) (fb : Int32 → UInt64) (fl fa ft : Int32 → Int32) (kk nn : Int32) (s0 s1 s2 s3 : Int32) (X X0 : Int32 → Int) (H : zZ fa fl nn (3 : Int32) (1 : Int32) nm) (O : zO (zD fl (1 : Int32) nm) X0 (3 : Int32)) (hx0 : ∀ j, j ≠ nm → X0 j = X j) (hn0 : X nm ≤ X0 nm) (hn4 : ∀ j, zG nn j → zG 4 j) (hbD : ∀ j, zG nn j → zN (fb j) ((X j : Int) : Rat)) :
    zX l Z a0 hb0 (⟨"com/example/tidewise/tidewise/search/UpperBounds", "siftDown", "(II)V"⟩ : MethodName) ok10 4 none [] ({ frames := 1, cells := 0, slots := 0, locals := 14 } : Room) #[(.ref u), (.int 1), (.int nm)] [(u, oc1 (.ref xb) (.ref xl) (.ref xp) (.int kk) (.ref nu) (.int 3)), (xb, zA .double (zK fb)), (xl, zA .int (zE fl)), (xp, zA .int (zE fa)), (nu, oc2 (.int 4) (.ref xt) (.ref xs) (.int nn) .null (.int 0)), (xt, zA .int (zE ft)), (xs, zA .int [.int s0, .int 0, .int 0, .int s2, .int 0, .int 0, .int 0, .int 0, .int 0, .int s1, .int 0, .int 0, .int 0, .int s3, .int 0, .int 0])] (fun r cs' => ∃ fl' fa' : Int32 → Int32, zY fa' fl' nn (3 : Int32) ∧ zO fl' X (3 : Int32) ∧ X (fl' 0) ≤ X0 (zD fl (1 : Int32) nm 0) ∧ (∀ j, fa' j = -1 → j ≠ nm ∧ fa j = -1) ∧ r = none ∧ cs' = [(u, oc1 (.ref xb) (.ref xl) (.ref xp) (.int kk) (.ref nu) (.int 3)), (xb, zA .double (zK fb)), (xl, zA .int (zE fl')), (xp, zA .int (zE fa')), (nu, oc2 (.int 4) (.ref xt) (.ref xs) (.int nn) .null (.int 0)), (xt, zA .int (zE ft)), (xs, zA .int [.int s0, .int 0, .int 0, .int s2, .int 0, .int 0, .int 0, .int 0, .int 0, .int s1, .int 0, .int 0, .int 0, .int s3, .int 0, .int 0])]) := by
  exact own_SD31_0 l Z a0 hb0 hw u nm xb xl xp nu xt xs fb fl fa ft kk nn s0 s1 s2 s3 X X0 H O hx0 hn0 hn4 hbD 
theorem own_SD32_0_0 (u : Addr) (nm : Int32) :
    zF zk ok10 0 #[oa u, oi 2, oi nm, ou] [] 8 #[oa u, oi 2, oi nm, oi 5] [(.ref u), (.int 5)] := by
  refine zT (v := 2) (pc2 := 1) d11_0 rfl rfl ?_
  refine zM (pc2 := 2) d11_1 rfl rfl ?_
  refine zAq (pc2 := 3) d11_2 rfl (v := (4 : Int32)) (by decide) ?_
  refine zT (v := 1) (pc2 := 4) d11_3 rfl rfl ?_
  refine zAI (pc2 := 5) d11_4 rfl (v := (5 : Int32)) (by decide) ?_
  refine zAG (pc2 := 6) d11_5 rfl (L' := #[oa u, oi 2, oi nm, oi 5]) rfl ?_
  refine zM (pc2 := 7) d11_6 rfl rfl ?_
  refine zJ (pc2 := 8) d11_7 rfl rfl rfl ?_
  exact zH
set_option maxRecDepth 65536 in
set_option maxHeartbeats 4000000 in
theorem own_SD32_0 (l : Launch) (Z : State) (a0 : Array Value) (hb0 : zU) (hw : ∀ d ∈ tables_1, d.before a0 Z = true) (u : Addr) (nm : Int32) (xb xl xp nu xt xs : Addr) (fb : Int32 → UInt64) (fl fa ft : Int32 → Int32) (kk nn : Int32) (s0 s1 s2 s3 : Int32) (X X0 : Int32 → Int) (H : zZ fa fl nn (3 : Int32) (2 : Int32) nm) (O : zO (zD fl (2 : Int32) nm) X0 (3 : Int32)) (hx0 : ∀ j, j ≠ nm → X0 j = X j) (hn0 : X nm ≤ X0 nm) (hn4 : ∀ j, zG nn j → zG 4 j) (hbD : ∀ j, zG nn j → zN (fb j) ((X j : Int) : Rat)) :
    zX l Z a0 hb0 (⟨"com/example/tidewise/tidewise/search/UpperBounds", "siftDown", "(II)V"⟩ : MethodName) ok10 4 none [] ({ frames := 1, cells := 0, slots := 0, locals := 14 } : Room) #[(.ref u), (.int 2), (.int nm)] [(u, oc1 (.ref xb) (.ref xl) (.ref xp) (.int kk) (.ref nu) (.int 3)), (xb, zA .double (zK fb)), (xl, zA .int (zE fl)), (xp, zA .int (zE fa)), (nu, oc2 (.int 4) (.ref xt) (.ref xs) (.int nn) .null (.int 0)), (xt, zA .int (zE ft)), (xs, zA .int [.int s0, .int 0, .int 0, .int s2, .int 0, .int 0, .int 0, .int 0, .int 0, .int s1, .int 0, .int 0, .int 0, .int s3, .int 0, .int 0])] (fun r cs' => ∃ fl' fa' : Int32 → Int32, zY fa' fl' nn (3 : Int32) ∧ zO fl' X (3 : Int32) ∧ X (fl' 0) ≤ X0 (zD fl (2 : Int32) nm 0) ∧ (∀ j, fa' j = -1 → j ≠ nm ∧ fa j = -1) ∧ r = none ∧ cs' = [(u, oc1 (.ref xb) (.ref xl) (.ref xp) (.int kk) (.ref nu) (.int 3)), (xb, zA .double (zK fb)), (xl, zA .int (zE fl')), (xp, zA .int (zE fa')), (nu, oc2 (.int 4) (.ref xt) (.ref xs) (.int nn) .null (.int 0)), (xt, zA .int (zE ft)), (xs, zA .int [.int s0, .int 0, .int 0, .int s2, .int 0, .int 0, .int 0, .int 0, .int 0, .int s1, .int 0, .int 0, .int 0, .int s3, .int 0, .int 0])]) := by
  refine zh (L0 := #[oa u, oi 2, oi nm, ou]) (plainFor_of_name zAV) (fun m => zAX m u (2 : Int32) nm) ?_
  intro p e s m below meth c T0 hx hZ hown hby hml hnm H0
  obtain ⟨TSD32_0_1, HSD32_0_1, stSD32_0_1⟩ := zI H0 hx hZ hown (zB hw 64 rfl) 0 5 rfl rfl (g := (mkF m 8 #[oa u, oi 2, oi nm, oi 5] [(.ref u), (.int 5)])) rfl rfl (hb hby d11_8)
  obtain ⟨TSD32_0_2, vSD32_0_2_, csSD32_0_2_, qSD32_0_2, HSD32_0_2, stSD32_0_2⟩ := zo HSD32_0_1 hx hZ hown (zB hw 70 rfl) (zB hw 71 rfl) (zB hw 72 rfl) (zB hw 1 rfl) (zB hw 2 rfl) (zB hw 73 rfl) (by decide) (x := u) 0 rfl (argsL := [(.int 2), (.int nm)]) (rest := []) (W := 0) (zu l Z a0 hb0 hw u (2 : Int32) nm xb xl xp nu xt xs fb fl fa ft kk (3 : Int32) nn s0 s1 s2 s3 ⟨by decide, by decide⟩ (hn4 _ H.p2)) (by decide) (by decide) (by decide) (by decide) (g := (mkF m 104 #[oa u, oi 2, oi nm, oi 5] [(.int nm), (.int 2), (.ref u)])) rfl (by rw [hml]; rfl) (lenOf zq rfl) rfl (by show 2 * 0 + _ ≤ _; exact Nat.le_of_eq rfl) (hb hby d11_104)
  obtain ⟨rfl, rfl⟩ := qSD32_0_2
  have q := own_sd32_0 H O hx0 hn0 
  refine ⟨_, _, _, _, 107, #[oa u, oi 2, oi nm, oi 5], HSD32_0_2, by decide, by decide, Or.inl ⟨rfl, ⟨_, _, q.1, q.2.1, q.2.2.1, q.2.2.2, rfl, rfl⟩, d11_107, fun target q => ?_⟩⟩
  refine zC H0 hx hZ hown hby hw zL (own_SD32_0_0 u nm) _ ?_
  refine stSD32_0_1 _ ?_
  refine zC HSD32_0_1 hx hZ hown hby hw zL (own_SD30_3_16 u nm) _ ?_
  refine stSD32_0_2 _ ?_
  exact q
theorem own_SD32 (l : Launch) (Z : State) (a0 : Array Value) (hb0 : zU) (hw : ∀ d ∈ tables_1, d.before a0 Z = true) (u : Addr) (nm : Int32) (xb xl xp nu xt xs : Addr) (fb : Int32 → UInt64) (fl fa ft : Int32 → Int32) (kk nn : Int32) (s0 s1 s2 s3 : Int32) (X X0 : Int32 → Int) (H : zZ fa fl nn (3 : Int32) (2 : Int32) nm) (O : zO (zD fl (2 : Int32) nm) X0 (3 : Int32)) (hx0 : ∀ j, j ≠ nm → X0 j = X j) (hn0 : X nm ≤ X0 nm) (hn4 : ∀ j, zG nn j → zG 4 j) (hbD : ∀ j, zG nn j → zN (fb j) ((X j : Int) : Rat)) :
    zX l Z a0 hb0 (⟨"com/example/tidewise/tidewise/search/UpperBounds", "siftDown", "(II)V"⟩ : MethodName) ok10 4 none [] ({ frames := 1, cells := 0, slots := 0, locals := 14 } : Room) #[(.ref u), (.int 2), (.int nm)] [(u, oc1 (.ref xb) (.ref xl) (.ref xp) (.int kk) (.ref nu) (.int 3)), (xb, zA .double (zK fb)), (xl, zA .int (zE fl)), (xp, zA .int (zE fa)), (nu, oc2 (.int 4) (.ref xt) (.ref xs) (.int nn) .null (.int 0)), (xt, zA .int (zE ft)), (xs, zA .int [.int s0, .int 0, .int 0, .int s2, .int 0, .int 0, .int 0, .int 0, .int 0, .int s1, .int 0, .int 0, .int 0, .int s3, .int 0, .int 0])] (fun r cs' => ∃ fl' fa' : Int32 → Int32, zY fa' fl' nn (3 : Int32) ∧ zO fl' X (3 : Int32) ∧ X (fl' 0) ≤ X0 (zD fl (2 : Int32) nm 0) ∧ (∀ j, fa' j = -1 → j ≠ nm ∧ fa j = -1) ∧ r = none ∧ cs' = [(u, oc1 (.ref xb) (.ref xl) (.ref xp) (.int kk) (.ref nu) (.int 3)), (xb, zA .double (zK fb)), (xl, zA .int (zE fl')), (xp, zA .int (zE fa')), (nu, oc2 (.int 4) (.ref xt) (.ref xs) (.int nn) .null (.int 0)), (xt, zA .int (zE ft)), (xs, zA .int [.int s0, .int 0, .int 0, .int s2, .int 0, .int 0, .int 0, .int 0, .int 0, .int s1, .int 0, .int 0, .int 0, .int s3, .int 0, .int 0])]) := by
  exact own_SD32_0 l Z a0 hb0 hw u nm xb xl xp nu xt xs fb fl fa ft kk nn s0 s1 s2 s3 X X0 H O hx0 hn0 hn4 hbD 
theorem zCR (u : Addr) (nm : Int32) :
    zF zk ok10 11 #[oa u, oi 0, oi nm, oi 1] [(.int 4), (.int 1)] 18 #[oa u, oi 0, oi nm, oi 1] [(.ref u), (.int 2)] := by
  refine zAw (pc2 := 14) d11_11 rfl (by decide) ?_
  refine zM (pc2 := 15) d11_14 rfl rfl ?_
  refine zT (v := 1) (pc2 := 16) d11_15 rfl rfl ?_
  refine zAI (pc2 := 17) d11_16 rfl (v := (2 : Int32)) (by decide) ?_
  refine zJ (pc2 := 18) d11_17 rfl rfl rfl ?_
  exact zH
theorem zCS (u : Addr) (nm : Int32) :
    zF zk ok10 21 #[oa u, oi 0, oi nm, oi 1] [(.int 4), (.int 2)] 25 #[oa u, oi 0, oi nm, oi 1] [(.ref u)] := by
  refine zAw (pc2 := 24) d11_21 rfl (by decide) ?_
  refine zJ (pc2 := 25) d11_24 rfl rfl rfl ?_
  exact zH
set_option maxRecDepth 65536 in
set_option maxHeartbeats 4000000 in
theorem own_SD40_0 (l : Launch) (Z : State) (a0 : Array Value) (hb0 : zU) (hw : ∀ d ∈ tables_1, d.before a0 Z = true) (u : Addr) (nm : Int32) (xb xl xp nu xt xs : Addr) (fb : Int32 → UInt64) (fl fa ft : Int32 → Int32) (kk nn : Int32) (s0 s1 s2 s3 : Int32) (X X0 : Int32 → Int) (H : zZ fa fl nn (4 : Int32) (0 : Int32) nm) (O : zO (zD fl (0 : Int32) nm) X0 (4 : Int32)) (hx0 : ∀ j, j ≠ nm → X0 j = X j) (hn0 : X nm ≤ X0 nm) (hn4 : ∀ j, zG nn j → zG 4 j) (hbD : ∀ j, zG nn j → zN (fb j) ((X j : Int) : Rat)) (d0 : X (fl (2 : Int32)) ≤ X (fl (1 : Int32))) (d1 : X (fl (1 : Int32)) ≤ X nm) :
    zX l Z a0 hb0 (⟨"com/example/tidewise/tidewise/search/UpperBounds", "siftDown", "(II)V"⟩ : MethodName) ok10 4 none [] ({ frames := 1, cells := 0, slots := 0, locals := 14 } : Room) #[(.ref u), (.int 0), (.int nm)] [(u, oc1 (.ref xb) (.ref xl) (.ref xp) (.int kk) (.ref nu) (.int 4)), (xb, zA .double (zK fb)), (xl, zA .int (zE fl)), (xp, zA .int (zE fa)), (nu, oc2 (.int 4) (.ref xt) (.ref xs) (.int nn) .null (.int 0)), (xt, zA .int (zE ft)), (xs, zA .int [.int s0, .int 0, .int 0, .int s2, .int 0, .int 0, .int 0, .int 0, .int 0, .int s1, .int 0, .int 0, .int 0, .int s3, .int 0, .int 0])] (fun r cs' => ∃ fl' fa' : Int32 → Int32, zY fa' fl' nn (4 : Int32) ∧ zO fl' X (4 : Int32) ∧ X (fl' 0) ≤ X0 (zD fl (0 : Int32) nm 0) ∧ (∀ j, fa' j = -1 → j ≠ nm ∧ fa j = -1) ∧ r = none ∧ cs' = [(u, oc1 (.ref xb) (.ref xl) (.ref xp) (.int kk) (.ref nu) (.int 4)), (xb, zA .double (zK fb)), (xl, zA .int (zE fl')), (xp, zA .int (zE fa')), (nu, oc2 (.int 4) (.ref xt) (.ref xs) (.int nn) .null (.int 0)), (xt, zA .int (zE ft)), (xs, zA .int [.int s0, .int 0, .int 0, .int s2, .int 0, .int 0, .int 0, .int 0, .int 0, .int s1, .int 0, .int 0, .int 0, .int s3, .int 0, .int 0])]) := by
  refine zh (L0 := #[oa u, oi 0, oi nm, ou]) (plainFor_of_name zAV) (fun m => zAX m u (0 : Int32) nm) ?_
  intro p e s m below meth c T0 hx hZ hown hby hml hnm H0
  obtain ⟨TSD40_0_1, HSD40_0_1, stSD40_0_1⟩ := zI H0 hx hZ hown (zB hw 64 rfl) 0 5 rfl rfl (g := (mkF m 8 #[oa u, oi 0, oi nm, oi 1] [(.ref u), (.int 1)])) rfl rfl (hb hby d11_8)
  obtain ⟨TSD40_0_2, HSD40_0_2, stSD40_0_2⟩ := zI HSD40_0_1 hx hZ hown (zB hw 64 rfl) 0 5 rfl rfl (g := (mkF m 18 #[oa u, oi 0, oi nm, oi 1] [(.ref u), (.int 2)])) rfl rfl (hb hby d11_18)
  obtain ⟨TSD40_0_3, HSD40_0_3, stSD40_0_3⟩ := zI HSD40_0_2 hx hZ hown (zB hw 10 rfl) 0 0 rfl rfl (g := (mkF m 25 #[oa u, oi 0, oi nm, oi 1] [(.ref u)])) rfl rfl (hb hby d11_25)
  obtain ⟨TSD40_0_4, HSD40_0_4, stSD40_0_4⟩ := zI HSD40_0_3 hx hZ hown (zB hw 13 rfl) 0 1 rfl rfl (g := (mkF m 29 #[oa u, oi 0, oi nm, oi 1] [(.ref u), (.ref xb)])) rfl rfl (hb hby d11_29)
  obtain ⟨w0, hw0⟩ : ∃ z, fl (2 : Int32) = z := ⟨_, rfl⟩
  have ew0 : w0 = fl (2 : Int32) := by rw [← hw0]
  have mw0 : zG nn w0 := by rw [ew0]; exact (H.p1 (2 : Int32) ⟨by decide, by decide⟩ (by decide)).1
  have iw0 := hn4 _ mw0
  obtain ⟨w1, hw1⟩ : ∃ z, fb w0 = z := ⟨_, rfl⟩
  have vw1 : zN w1 ((X w0 : Int) : Rat) := by rw [← hw1]; exact hbD _ mw0
  obtain ⟨TSD40_0_7, HSD40_0_7, stSD40_0_7⟩ := zI HSD40_0_4 hx hZ hown (zB hw 10 rfl) 0 0 rfl rfl (g := (mkF m 38 #[oa u, oi 0, oi nm, oi 1] [(.ref u), (.double w1)])) rfl rfl (hb hby d11_38)
  obtain ⟨TSD40_0_8, HSD40_0_8, stSD40_0_8⟩ := zI HSD40_0_7 hx hZ hown (zB hw 13 rfl) 0 1 rfl rfl (g := (mkF m 42 #[oa u, oi 0, oi nm, oi 1] [(.ref u), (.ref xb), (.double w1)])) rfl rfl (hb hby d11_42)
  obtain ⟨w2, hw2⟩ : ∃ z, fl (1 : Int32) = z := ⟨_, rfl⟩
  have ew2 : w2 = fl (1 : Int32) := by rw [← hw2]
  have mw2 : zG nn w2 := by rw [ew2]; exact (H.p1 (1 : Int32) ⟨by decide, by decide⟩ (by decide)).1
  have iw2 := hn4 _ mw2
  obtain ⟨w3, hw3⟩ : ∃ z, fb w2 = z := ⟨_, rfl⟩
  have vw3 : zN w3 ((X w2 : Int) : Rat) := by rw [← hw3]; exact hbD _ mw2
  obtain ⟨v48, hv48⟩ : ∃ z : Int32, (cmpValue (FP.dcmp w1 w3) .l) = z := ⟨_, rfl⟩
  obtain ⟨TSD40_0_11, HSD40_0_11, stSD40_0_11⟩ := zI HSD40_0_8 hx hZ hown (zB hw 10 rfl) 0 0 rfl rfl (g := (mkF m 56 #[oa u, oi 0, oi nm, oi 1] [(.ref u)])) rfl rfl (hb hby d11_56)
  obtain ⟨TSD40_0_12, HSD40_0_12, stSD40_0_12⟩ := zI HSD40_0_11 hx hZ hown (zB hw 13 rfl) 0 1 rfl rfl (g := (mkF m 60 #[oa u, oi 0, oi nm, oi 1] [(.ref u), (.ref xb)])) rfl rfl (hb hby d11_60)
  obtain ⟨w4, hw4⟩ : ∃ z, fl (1 : Int32) = z := ⟨_, rfl⟩
  have ew4 : w4 = fl (1 : Int32) := by rw [← hw4]
  have mw4 : zG nn w4 := by rw [ew4]; exact (H.p1 (1 : Int32) ⟨by decide, by decide⟩ (by decide)).1
  have iw4 := hn4 _ mw4
  obtain ⟨w5, hw5⟩ : ∃ z, fb w4 = z := ⟨_, rfl⟩
  have vw5 : zN w5 ((X w4 : Int) : Rat) := by rw [← hw5]; exact hbD _ mw4
  obtain ⟨TSD40_0_15, HSD40_0_15, stSD40_0_15⟩ := zI HSD40_0_12 hx hZ hown (zB hw 10 rfl) 0 0 rfl rfl (g := (mkF m 67 #[oa u, oi 0, oi nm, oi 1] [(.ref u), (.double w5)])) rfl rfl (hb hby d11_67)
  obtain ⟨w6, hw6⟩ : ∃ z, fb nm = z := ⟨_, rfl⟩
  have vw6 : zN w6 ((X nm : Int) : Rat) := by rw [← hw6]; exact hbD _ H.p2
  obtain ⟨v72, hv72⟩ : ∃ z : Int32, (cmpValue (FP.dcmp w5 w6) .g) = z := ⟨_, rfl⟩
  obtain ⟨TSD40_0_17, vSD40_0_17_, csSD40_0_17_, qSD40_0_17, HSD40_0_17, stSD40_0_17⟩ := zo HSD40_0_15 hx hZ hown (zB hw 70 rfl) (zB hw 71 rfl) (zB hw 72 rfl) (zB hw 1 rfl) (zB hw 2 rfl) (zB hw 73 rfl) (by decide) (x := u) 0 rfl (argsL := [(.int 0), (.int nm)]) (rest := []) (W := 0) (zu l Z a0 hb0 hw u (0 : Int32) nm xb xl xp nu xt xs fb fl fa ft kk (4 : Int32) nn s0 s1 s2 s3 ⟨by decide, by decide⟩ (hn4 _ H.p2)) (by decide) (by decide) (by decide) (by decide) (g := (mkF m 104 #[oa u, oi 0, oi nm, oi 1] [(.int nm), (.int 0), (.ref u)])) rfl (by rw [hml]; rfl) (lenOf zq rfl) rfl (by show 2 * 0 + _ ≤ _; exact Nat.le_of_eq rfl) (hb hby d11_104)
  obtain ⟨rfl, rfl⟩ := qSD40_0_17
  have d0' := d0
  rw [← ew0, ← ew2] at d0'
  have hb49_0 : ifCond.holds .le v48 = true := by
    rw [← hv48, zBI vw1 vw3]
    exact decide_eq_true (zAS d0')
  have d1' := d1
  rw [← ew4] at d1'
  have hb73_0 : ifCond.holds .gt v72 = false := by
    rw [← hv72, zAc vw5 vw6]
    exact decide_eq_false (Rat.not_lt.mpr (zAS d1'))
  have q := own_sd40_0 H O hx0 hn0 d0 d1
  refine ⟨_, _, _, _, 107, #[oa u, oi 0, oi nm, oi 1], HSD40_0_17, by decide, by decide, Or.inl ⟨rfl, ⟨_, _, q.1, q.2.1, q.2.2.1, q.2.2.2, rfl, rfl⟩, d11_107, fun target q => ?_⟩⟩
  refine zC H0 hx hZ hown hby hw zL (zAo u nm) _ ?_
  refine stSD40_0_1 _ ?_
  refine zC HSD40_0_1 hx hZ hown hby hw zL (zCR u nm) _ ?_
  refine stSD40_0_2 _ ?_
  refine zC HSD40_0_2 hx hZ hown hby hw zL (zCS u nm) _ ?_
  refine stSD40_0_3 _ ?_
  refine zC HSD40_0_3 hx hZ hown hby hw zL (zBP u nm xb) _ ?_
  refine stSD40_0_4 _ ?_
  refine zC HSD40_0_4 hx hZ hown hby hw zL (zBQ u nm xl xb) _ ?_
  refine zf HSD40_0_4 hx hZ 2 rfl ⟨by decide, by decide⟩ hw0 (g := (mkF m 35 #[oa u, oi 0, oi nm, oi 1] [(.int 2), (.ref xl), (.ref xb)])) rfl rfl (hb hby d11_35) _ ?_
  refine zd HSD40_0_4 hx hZ 1 rfl iw0 hw1 (g := (mkF m 36 #[oa u, oi 0, oi nm, oi 1] [(.int w0), (.ref xb)])) rfl rfl (hb hby d11_36) _ ?_
  refine zC HSD40_0_4 hx hZ hown hby hw zL (zBR u nm w1) _ ?_
  refine stSD40_0_7 _ ?_
  refine zC HSD40_0_7 hx hZ hown hby hw zL (zBS u nm xb w1) _ ?_
  refine stSD40_0_8 _ ?_
  refine zC HSD40_0_8 hx hZ hown hby hw zL (zBT u nm xl xb w1) _ ?_
  refine zf HSD40_0_8 hx hZ 2 rfl ⟨by decide, by decide⟩ hw2 (g := (mkF m 46 #[oa u, oi 0, oi nm, oi 1] [(.int 1), (.ref xl), (.ref xb), (.double w1)])) rfl rfl (hb hby d11_46) _ ?_
  refine zd HSD40_0_8 hx hZ 1 rfl iw2 hw3 (g := (mkF m 47 #[oa u, oi 0, oi nm, oi 1] [(.int w2), (.ref xb), (.double w1)])) rfl rfl (hb hby d11_47) _ ?_
  refine zC HSD40_0_8 hx hZ hown hby hw zL (zCO u nm w3 w1 v48 hv48 hb49_0) _ ?_
  refine stSD40_0_11 _ ?_
  refine zC HSD40_0_11 hx hZ hown hby hw zL (zBn u nm xb) _ ?_
  refine stSD40_0_12 _ ?_
  refine zC HSD40_0_12 hx hZ hown hby hw zL (zBo u nm xl xb) _ ?_
  refine zf HSD40_0_12 hx hZ 2 rfl ⟨by decide, by decide⟩ hw4 (g := (mkF m 64 #[oa u, oi 0, oi nm, oi 1] [(.int 1), (.ref xl), (.ref xb)])) rfl rfl (hb hby d11_64) _ ?_
  refine zd HSD40_0_12 hx hZ 1 rfl iw4 hw5 (g := (mkF m 65 #[oa u, oi 0, oi nm, oi 1] [(.int w4), (.ref xb)])) rfl rfl (hb hby d11_65) _ ?_
  refine zC HSD40_0_12 hx hZ hown hby hw zL (zCP u nm w5) _ ?_
  refine stSD40_0_15 _ ?_
  refine zC HSD40_0_15 hx hZ hown hby hw zL (zCQ u nm xb w5) _ ?_
  refine zd HSD40_0_15 hx hZ 1 rfl (hn4 _ H.p2) hw6 (g := (mkF m 71 #[oa u, oi 0, oi nm, oi 1] [(.int nm), (.ref xb), (.double w5)])) rfl rfl (hb hby d11_71) _ ?_
  refine zC HSD40_0_15 hx hZ hown hby hw zL (own_SD30_0_13 u nm w6 w5 v72 hv72 hb73_0) _ ?_
  refine stSD40_0_17 _ ?_
  exact q
theorem zDC (u : Addr) (nm : Int32) :
    zF zk ok10 11 #[oa u, oi 1, oi nm, oi 3] [(.int 4), (.int 3)] 18 #[oa u, oi 1, oi nm, oi 3] [(.ref u), (.int 4)] := by
  refine zAw (pc2 := 14) d11_11 rfl (by decide) ?_
  refine zM (pc2 := 15) d11_14 rfl rfl ?_
  refine zT (v := 1) (pc2 := 16) d11_15 rfl rfl ?_
  refine zAI (pc2 := 17) d11_16 rfl (v := (4 : Int32)) (by decide) ?_
  refine zJ (pc2 := 18) d11_17 rfl rfl rfl ?_
  exact zH
theorem zDD (u : Addr) (nm : Int32) :
    zF zk ok10 21 #[oa u, oi 1, oi nm, oi 3] [(.int 4), (.int 4)] 56 #[oa u, oi 1, oi nm, oi 3] [(.ref u)] := by
  refine zAJ (pc' := 55) d11_21 (by decide) (by decide) (by decide) ?_
  refine zJ (pc2 := 56) d11_55 rfl rfl rfl ?_
  exact zH
theorem zDE (u : Addr) (nm : Int32) (xb : Addr) :
    zF zk ok10 59 #[oa u, oi 1, oi nm, oi 3] [(.ref xb)] 60 #[oa u, oi 1, oi nm, oi 3] [(.ref u), (.ref xb)] := by
  refine zJ (pc2 := 60) d11_59 rfl rfl rfl ?_
  exact zH
theorem zDF (u : Addr) (nm : Int32) (xl : Addr) (xb : Addr) :
    zF zk ok10 63 #[oa u, oi 1, oi nm, oi 3] [(.ref xl), (.ref xb)] 64 #[oa u, oi 1, oi nm, oi 3] [(.int 3), (.ref xl), (.ref xb)] := by
  refine zM (pc2 := 64) d11_63 rfl rfl ?_
  exact zH
theorem own_SD40_1_20 (u : Addr) (nm : Int32) (w9 : UInt64) :
    zF zk ok10 66 #[oa u, oi 1, oi nm, oi 3] [(.double w9)] 67 #[oa u, oi 1, oi nm, oi 3] [(.ref u), (.double w9)] := by
  refine zJ (pc2 := 67) d11_66 rfl rfl rfl ?_
  exact zH
theorem own_SD40_1_21 (u : Addr) (nm : Int32) (xb : Addr) (w9 : UInt64) :
    zF zk ok10 70 #[oa u, oi 1, oi nm, oi 3] [(.ref xb), (.double w9)] 71 #[oa u, oi 1, oi nm, oi 3] [(.int nm), (.ref xb), (.double w9)] := by
  refine zM (pc2 := 71) d11_70 rfl rfl ?_
  exact zH
theorem own_SD40_1_22 (u : Addr) (nm : Int32) (w10 : UInt64) (w9 : UInt64) (v72' : Int32) (hv72' : (cmpValue (FP.dcmp w9 w10) .g) = v72') (hb73_1 : ifCond.holds .gt v72' = false) :
    zF zk ok10 72 #[oa u, oi 1, oi nm, oi 3] [(.double w10), (.double w9)] 104 #[oa u, oi 1, oi nm, oi 3] [(.int nm), (.int 1), (.ref u)] := by
  refine zAD (pc2 := 73) d11_72 rfl (v := v72') hv72' ?_
  refine zy (pc2 := 76) d11_73 rfl hb73_1 ?_
  refine zAN (pc' := 101) d11_76 (by decide) (by decide) ?_
  refine zJ (pc2 := 102) d11_101 rfl rfl rfl ?_
  refine zM (pc2 := 103) d11_102 rfl rfl ?_
  refine zM (pc2 := 104) d11_103 rfl rfl ?_
  exact zH
set_option maxRecDepth 65536 in
set_option maxHeartbeats 4000000 in
theorem own_SD40_1 (l : Launch) (Z : State) (a0 : Array Value) (hb0 : zU) (hw : ∀ d ∈ tables_1, d.before a0 Z = true) (u : Addr) (nm : Int32) (xb xl xp nu xt xs : Addr) (fb : Int32 → UInt64) (fl fa ft : Int32 → Int32) (kk nn : Int32) (s0 s1 s2 s3 : Int32) (X X0 : Int32 → Int) (H : zZ fa fl nn (4 : Int32) (0 : Int32) nm) (O : zO (zD fl (0 : Int32) nm) X0 (4 : Int32)) (hx0 : ∀ j, j ≠ nm → X0 j = X j) (hn0 : X nm ≤ X0 nm) (hn4 : ∀ j, zG nn j → zG 4 j) (hbD : ∀ j, zG nn j → zN (fb j) ((X j : Int) : Rat)) (d0 : X (fl (2 : Int32)) ≤ X (fl (1 : Int32))) (d1 : X nm < X (fl (1 : Int32))) (d2 : X (fl (3 : Int32)) ≤ X nm) :
    zX l Z a0 hb0 (⟨"com/example/tidewise/tidewise/search/UpperBounds", "siftDown", "(II)V"⟩ : MethodName) ok10 4 none [] ({ frames := 1, cells := 0, slots := 0, locals := 14 } : Room) #[(.ref u), (.int 0), (.int nm)] [(u, oc1 (.ref xb) (.ref xl) (.ref xp) (.int kk) (.ref nu) (.int 4)), (xb, zA .double (zK fb)), (xl, zA .int (zE fl)), (xp, zA .int (zE fa)), (nu, oc2 (.int 4) (.ref xt) (.ref xs) (.int nn) .null (.int 0)), (xt, zA .int (zE ft)), (xs, zA .int [.int s0, .int 0, .int 0, .int s2, .int 0, .int 0, .int 0, .int 0, .int 0, .int s1, .int 0, .int 0, .int 0, .int s3, .int 0, .int 0])] (fun r cs' => ∃ fl' fa' : Int32 → Int32, zY fa' fl' nn (4 : Int32) ∧ zO fl' X (4 : Int32) ∧ X (fl' 0) ≤ X0 (zD fl (0 : Int32) nm 0) ∧ (∀ j, fa' j = -1 → j ≠ nm ∧ fa j = -1) ∧ r = none ∧ cs' = [(u, oc1 (.ref xb) (.ref xl) (.ref xp) (.int kk) (.ref nu) (.int 4)), (xb, zA .double (zK fb)), (xl, zA .int (zE fl')), (xp, zA .int (zE fa')), (nu, oc2 (.int 4) (.ref xt) (.ref xs) (.int nn) .null (.int 0)), (xt, zA .int (zE ft)), (xs, zA .int [.int s0, .int 0, .int 0, .int s2, .int 0, .int 0, .int 0, .int 0, .int 0, .int s1, .int 0, .int 0, .int 0, .int s3, .int 0, .int 0])]) := by
  refine zh (L0 := #[oa u, oi 0, oi nm, ou]) (plainFor_of_name zAV) (fun m => zAX m u (0 : Int32) nm) ?_
  intro p e s m below meth c T0 hx hZ hown hby hml hnm H0
  obtain ⟨TSD40_1_1, HSD40_1_1, stSD40_1_1⟩ := zI H0 hx hZ hown (zB hw 64 rfl) 0 5 rfl rfl (g := (mkF m 8 #[oa u, oi 0, oi nm, oi 1] [(.ref u), (.int 1)])) rfl rfl (hb hby d11_8)
  obtain ⟨TSD40_1_2, HSD40_1_2, stSD40_1_2⟩ := zI HSD40_1_1 hx hZ hown (zB hw 64 rfl) 0 5 rfl rfl (g := (mkF m 18 #[oa u, oi 0, oi nm, oi 1] [(.ref u), (.int 2)])) rfl rfl (hb hby d11_18)
  obtain ⟨TSD40_1_3, HSD40_1_3, stSD40_1_3⟩ := zI HSD40_1_2 hx hZ hown (zB hw 10 rfl) 0 0 rfl rfl (g := (mkF m 25 #[oa u, oi 0, oi nm, oi 1] [(.ref u)])) rfl rfl (hb hby d11_25)
  obtain ⟨TSD40_1_4, HSD40_1_4, stSD40_1_4⟩ := zI HSD40_1_3 hx hZ hown (zB hw 13 rfl) 0 1 rfl rfl (g := (mkF m 29 #[oa u, oi 0, oi nm, oi 1] [(.ref u), (.ref xb)])) rfl rfl (hb hby d11_29)
  obtain ⟨w0, hw0⟩ : ∃ z, fl (2 : Int32) = z := ⟨_, rfl⟩
  have ew0 : w0 = fl (2 : Int32) := by rw [← hw0]
  have mw0 : zG nn w0 := by rw [ew0]; exact (H.p1 (2 : Int32) ⟨by decide, by decide⟩ (by decide)).1
  have iw0 := hn4 _ mw0
  obtain ⟨w1, hw1⟩ : ∃ z, fb w0 = z := ⟨_, rfl⟩
  have vw1 : zN w1 ((X w0 : Int) : Rat) := by rw [← hw1]; exact hbD _ mw0
  obtain ⟨TSD40_1_7, HSD40_1_7, stSD40_1_7⟩ := zI HSD40_1_4 hx hZ hown (zB hw 10 rfl) 0 0 rfl rfl (g := (mkF m 38 #[oa u, oi 0, oi nm, oi 1] [(.ref u), (.double w1)])) rfl rfl (hb hby d11_38)
  obtain ⟨TSD40_1_8, HSD40_1_8, stSD40_1_8⟩ := zI HSD40_1_7 hx hZ hown (zB hw 13 rfl) 0 1 rfl rfl (g := (mkF m 42 #[oa u, oi 0, oi nm, oi 1] [(.ref u), (.ref xb), (.double w1)])) rfl rfl (hb hby d11_42)
  obtain ⟨w2, hw2⟩ : ∃ z, fl (1 : Int32) = z := ⟨_, rfl⟩
  have ew2 : w2 = fl (1 : Int32) := by rw [← hw2]
  have mw2 : zG nn w2 := by rw [ew2]; exact (H.p1 (1 : Int32) ⟨by decide, by decide⟩ (by decide)).1
  have iw2 := hn4 _ mw2
  obtain ⟨w3, hw3⟩ : ∃ z, fb w2 = z := ⟨_, rfl⟩
  have vw3 : zN w3 ((X w2 : Int) : Rat) := by rw [← hw3]; exact hbD _ mw2
  obtain ⟨v48, hv48⟩ : ∃ z : Int32, (cmpValue (FP.dcmp w1 w3) .l) = z := ⟨_, rfl⟩
  obtain ⟨TSD40_1_11, HSD40_1_11, stSD40_1_11⟩ := zI HSD40_1_8 hx hZ hown (zB hw 10 rfl) 0 0 rfl rfl (g := (mkF m 56 #[oa u, oi 0, oi nm, oi 1] [(.ref u)])) rfl rfl (hb hby d11_56)
  obtain ⟨TSD40_1_12, HSD40_1_12, stSD40_1_12⟩ := zI HSD40_1_11 hx hZ hown (zB hw 13 rfl) 0 1 rfl rfl (g := (mkF m 60 #[oa u, oi 0, oi nm, oi 1] [(.ref u), (.ref xb)])) rfl rfl (hb hby d11_60)
  obtain ⟨w4, hw4⟩ : ∃ z, fl (1 : Int32) = z := ⟨_, rfl⟩
  have ew4 : w4 = fl (1 : Int32) := by rw [← hw4]
  have mw4 : zG nn w4 := by rw [ew4]; exact (H.p1 (1 : Int32) ⟨by decide, by decide⟩ (by decide)).1
  have iw4 := hn4 _ mw4
  obtain ⟨w5, hw5⟩ : ∃ z, fb w4 = z := ⟨_, rfl⟩
  have vw5 : zN w5 ((X w4 : Int) : Rat) := by rw [← hw5]; exact hbD _ mw4
  obtain ⟨TSD40_1_15, HSD40_1_15, stSD40_1_15⟩ := zI HSD40_1_12 hx hZ hown (zB hw 10 rfl) 0 0 rfl rfl (g := (mkF m 67 #[oa u, oi 0, oi nm, oi 1] [(.ref u), (.double w5)])) rfl rfl (hb hby d11_67)
  obtain ⟨w6, hw6⟩ : ∃ z, fb nm = z := ⟨_, rfl⟩
  have vw6 : zN w6 ((X nm : Int) : Rat) := by rw [← hw6]; exact hbD _ H.p2
  obtain ⟨v72, hv72⟩ : ∃ z : Int32, (cmpValue (FP.dcmp w5 w6) .g) = z := ⟨_, rfl⟩
  obtain ⟨TSD40_1_17, HSD40_1_17, stSD40_1_17⟩ := zI HSD40_1_15 hx hZ hown (zB hw 13 rfl) 0 1 rfl rfl (g := (mkF m 82 #[oa u, oi 0, oi nm, oi 1] [(.ref u), (.int 0), (.ref u)])) rfl rfl (hb hby d11_82)
  obtain ⟨w7, hw7⟩ : ∃ z, fl (1 : Int32) = z := ⟨_, rfl⟩
  have ew7 : w7 = fl (1 : Int32) := by rw [← hw7]
  have mw7 : zG nn w7 := by rw [ew7]; exact (H.p1 (1 : Int32) ⟨by decide, by decide⟩ (by decide)).1
  have iw7 := hn4 _ mw7
  obtain ⟨TSD40_1_19, vSD40_1_19_, csSD40_1_19_, qSD40_1_19, HSD40_1_19, stSD40_1_19⟩ := zo HSD40_1_17 hx hZ hown (zB hw 70 rfl) (zB hw 71 rfl) (zB hw 72 rfl) (zB hw 1 rfl) (zB hw 2 rfl) (zB hw 73 rfl) (by decide) (x := u) 0 rfl (argsL := [(.int 0), (.int w7)]) (rest := []) (W := 0) (zu l Z a0 hb0 hw u (0 : Int32) w7 xb xl xp nu xt xs fb fl fa ft kk (4 : Int32) nn s0 s1 s2 s3 ⟨by decide, by decide⟩ iw7) (by decide) (by decide) (by decide) (by decide) (g := (mkF m 87 #[oa u, oi 0, oi nm, oi 1] [(.int w7), (.int 0), (.ref u)])) rfl (by rw [hml]; rfl) (lenOf zq rfl) rfl (by show 2 * 0 + _ ≤ _; exact Nat.le_of_eq rfl) (hb hby d11_87)
  obtain ⟨rfl, rfl⟩ := qSD40_1_19
  obtain ⟨TSD40_1_20, HSD40_1_20, stSD40_1_20⟩ := zI HSD40_1_19 hx hZ hown (zB hw 64 rfl) 0 5 rfl rfl (g := (mkF m 8 #[oa u, oi 1, oi nm, oi 3] [(.ref u), (.int 3)])) rfl rfl (hb hby d11_8)
  obtain ⟨TSD40_1_21, HSD40_1_21, stSD40_1_21⟩ := zI HSD40_1_20 hx hZ hown (zB hw 64 rfl) 0 5 rfl rfl (g := (mkF m 18 #[oa u, oi 1, oi nm, oi 3] [(.ref u), (.int 4)])) rfl rfl (hb hby d11_18)
  obtain ⟨TSD40_1_22, HSD40_1_22, stSD40_1_22⟩ := zI HSD40_1_21 hx hZ hown (zB hw 10 rfl) 0 0 rfl rfl (g := (mkF m 56 #[oa u, oi 1, oi nm, oi 3] [(.ref u)])) rfl rfl (hb hby d11_56)
  obtain ⟨TSD40_1_23, HSD40_1_23, stSD40_1_23⟩ := zI HSD40_1_22 hx hZ hown (zB hw 13 rfl) 0 1 rfl rfl (g := (mkF m 60 #[oa u, oi 1, oi nm, oi 3] [(.ref u), (.ref xb)])) rfl rfl (hb hby d11_60)
  obtain ⟨w8, hw8⟩ : ∃ z, (zD fl (0 : Int32) w7) (3 : Int32) = z := ⟨_, rfl⟩
  have ew8 : w8 = fl (3 : Int32) := by rw [← hw8]; simp [zD]
  have mw8 : zG nn w8 := by rw [ew8]; exact (H.p1 (3 : Int32) ⟨by decide, by decide⟩ (by decide)).1
  have iw8 := hn4 _ mw8
  obtain ⟨w9, hw9⟩ : ∃ z, fb w8 = z := ⟨_, rfl⟩
  have vw9 : zN w9 ((X w8 : Int) : Rat) := by rw [← hw9]; exact hbD _ mw8
  obtain ⟨TSD40_1_26, HSD40_1_26, stSD40_1_26⟩ := zI HSD40_1_23 hx hZ hown (zB hw 10 rfl) 0 0 rfl rfl (g := (mkF m 67 #[oa u, oi 1, oi nm, oi 3] [(.ref u), (.double w9)])) rfl rfl (hb hby d11_67)
  obtain ⟨w10, hw10⟩ : ∃ z, fb nm = z := ⟨_, rfl⟩
  have vw10 : zN w10 ((X nm : Int) : Rat) := by rw [← hw10]; exact hbD _ H.p2
  obtain ⟨v72', hv72'⟩ : ∃ z : Int32, (cmpValue (FP.dcmp w9 w10) .g) = z := ⟨_, rfl⟩
  obtain ⟨TSD40_1_28, vSD40_1_28_, csSD40_1_28_, qSD40_1_28, HSD40_1_28, stSD40_1_28⟩ := zo HSD40_1_26 hx hZ hown (zB hw 70 rfl) (zB hw 71 rfl) (zB hw 72 rfl) (zB hw 1 rfl) (zB hw 2 rfl) (zB hw 73 rfl) (by decide) (x := u) 0 rfl (argsL := [(.int 1), (.int nm)]) (rest := []) (W := 0) (zu l Z a0 hb0 hw u (1 : Int32) nm xb xl xp nu xt xs fb (zD fl (0 : Int32) w7) (zD fa w7 (0 : Int32)) ft kk (4 : Int32) nn s0 s1 s2 s3 ⟨by decide, by decide⟩ (hn4 _ H.p2)) (by decide) (by decide) (by decide) (by decide) (g := (mkF m 104 #[oa u, oi 1, oi nm, oi 3] [(.int nm), (.int 1), (.ref u)])) rfl (by rw [hml]; rfl) (lenOf zq rfl) rfl (by show 2 * 0 + _ ≤ _; exact Nat.le_of_eq rfl) (hb hby d11_104)
  obtain ⟨rfl, rfl⟩ := qSD40_1_28
  have d0' := d0
  rw [← ew0, ← ew2] at d0'
  have hb49_0 : ifCond.holds .le v48 = true := by
    rw [← hv48, zBI vw1 vw3]
    exact decide_eq_true (zAS d0')
  have d1' := d1
  rw [← ew4] at d1'
  have hb73_0 : ifCond.holds .gt v72 = true := by
    rw [← hv72, zAc vw5 vw6]
    exact decide_eq_true (zAP d1')
  have d2' := d2
  rw [← ew8] at d2'
  have hb73_1 : ifCond.holds .gt v72' = false := by
    rw [← hv72', zAc vw9 vw10]
    exact decide_eq_false (Rat.not_lt.mpr (zAS d2'))
  have q := own_sd40_1 H O hx0 hn0 d0 d1 d2
  rw [← ew7] at q
  refine ⟨_, _, _, _, 107, #[oa u, oi 1, oi nm, oi 3], HSD40_1_28, by decide, by decide, Or.inl ⟨rfl, ⟨_, _, q.1, q.2.1, q.2.2.1, q.2.2.2, rfl, rfl⟩, d11_107, fun target q => ?_⟩⟩
  refine zC H0 hx hZ hown hby hw zL (zAo u nm) _ ?_
  refine stSD40_1_1 _ ?_
  refine zC HSD40_1_1 hx hZ hown hby hw zL (zCR u nm) _ ?_
  refine stSD40_1_2 _ ?_
  refine zC HSD40_1_2 hx hZ hown hby hw zL (zCS u nm) _ ?_
  refine stSD40_1_3 _ ?_
  refine zC HSD40_1_3 hx hZ hown hby hw zL (zBP u nm xb) _ ?_
  refine stSD40_1_4 _ ?_
  refine zC HSD40_1_4 hx hZ hown hby hw zL (zBQ u nm xl xb) _ ?_
  refine zf HSD40_1_4 hx hZ 2 rfl ⟨by decide, by decide⟩ hw0 (g := (mkF m 35 #[oa u, oi 0, oi nm, oi 1] [(.int 2), (.ref xl), (.ref xb)])) rfl rfl (hb hby d11_35) _ ?_
  refine zd HSD40_1_4 hx hZ 1 rfl iw0 hw1 (g := (mkF m 36 #[oa u, oi 0, oi nm, oi 1] [(.int w0), (.ref xb)])) rfl rfl (hb hby d11_36) _ ?_
  refine zC HSD40_1_4 hx hZ hown hby hw zL (zBR u nm w1) _ ?_
  refine stSD40_1_7 _ ?_
  refine zC HSD40_1_7 hx hZ hown hby hw zL (zBS u nm xb w1) _ ?_
  refine stSD40_1_8 _ ?_
  refine zC HSD40_1_8 hx hZ hown hby hw zL (zBT u nm xl xb w1) _ ?_
  refine zf HSD40_1_8 hx hZ 2 rfl ⟨by decide, by decide⟩ hw2 (g := (mkF m 46 #[oa u, oi 0, oi nm, oi 1] [(.int 1), (.ref xl), (.ref xb), (.double w1)])) rfl rfl (hb hby d11_46) _ ?_
  refine zd HSD40_1_8 hx hZ 1 rfl iw2 hw3 (g := (mkF m 47 #[oa u, oi 0, oi nm, oi 1] [(.int w2), (.ref xb), (.double w1)])) rfl rfl (hb hby d11_47) _ ?_
  refine zC HSD40_1_8 hx hZ hown hby hw zL (zCO u nm w3 w1 v48 hv48 hb49_0) _ ?_
  refine stSD40_1_11 _ ?_
  refine zC HSD40_1_11 hx hZ hown hby hw zL (zBn u nm xb) _ ?_
  refine stSD40_1_12 _ ?_
  refine zC HSD40_1_12 hx hZ hown hby hw zL (zBo u nm xl xb) _ ?_
  refine zf HSD40_1_12 hx hZ 2 rfl ⟨by decide, by decide⟩ hw4 (g := (mkF m 64 #[oa u, oi 0, oi nm, oi 1] [(.int 1), (.ref xl), (.ref xb)])) rfl rfl (hb hby d11_64) _ ?_
  refine zd HSD40_1_12 hx hZ 1 rfl iw4 hw5 (g := (mkF m 65 #[oa u, oi 0, oi nm, oi 1] [(.int w4), (.ref xb)])) rfl rfl (hb hby d11_65) _ ?_
  refine zC HSD40_1_12 hx hZ hown hby hw zL (zCP u nm w5) _ ?_
  refine stSD40_1_15 _ ?_
  refine zC HSD40_1_15 hx hZ hown hby hw zL (zCQ u nm xb w5) _ ?_
  refine zd HSD40_1_15 hx hZ 1 rfl (hn4 _ H.p2) hw6 (g := (mkF m 71 #[oa u, oi 0, oi nm, oi 1] [(.int nm), (.ref xb), (.double w5)])) rfl rfl (hb hby d11_71) _ ?_
  refine zC HSD40_1_15 hx hZ hown hby hw zL (zDa u nm w6 w5 v72 hv72 hb73_0) _ ?_
  refine stSD40_1_17 _ ?_
  refine zC HSD40_1_17 hx hZ hown hby hw zL (zCs u nm xl) _ ?_
  refine zf HSD40_1_17 hx hZ 2 rfl ⟨by decide, by decide⟩ hw7 (g := (mkF m 86 #[oa u, oi 0, oi nm, oi 1] [(.int 1), (.ref xl), (.int 0), (.ref u)])) rfl rfl (hb hby d11_86) _ ?_
  refine stSD40_1_19 _ ?_
  refine zC HSD40_1_19 hx hZ hown hby hw zL (zCt u nm) _ ?_
  refine stSD40_1_20 _ ?_
  refine zC HSD40_1_20 hx hZ hown hby hw zL (zDC u nm) _ ?_
  refine stSD40_1_21 _ ?_
  refine zC HSD40_1_21 hx hZ hown hby hw zL (zDD u nm) _ ?_
  refine stSD40_1_22 _ ?_
  refine zC HSD40_1_22 hx hZ hown hby hw zL (zDE u nm xb) _ ?_
  refine stSD40_1_23 _ ?_
  refine zC HSD40_1_23 hx hZ hown hby hw zL (zDF u nm xl xb) _ ?_
  refine zf HSD40_1_23 hx hZ 2 rfl ⟨by decide, by decide⟩ hw8 (g := (mkF m 64 #[oa u, oi 1, oi nm, oi 3] [(.int 3), (.ref xl), (.ref xb)])) rfl rfl (hb hby d11_64) _ ?_
  refine zd HSD40_1_23 hx hZ 1 rfl iw8 hw9 (g := (mkF m 65 #[oa u, oi 1, oi nm, oi 3] [(.int w8), (.ref xb)])) rfl rfl (hb hby d11_65) _ ?_
  refine zC HSD40_1_23 hx hZ hown hby hw zL (own_SD40_1_20 u nm w9) _ ?_
  refine stSD40_1_26 _ ?_
  refine zC HSD40_1_26 hx hZ hown hby hw zL (own_SD40_1_21 u nm xb w9) _ ?_
  refine zd HSD40_1_26 hx hZ 1 rfl (hn4 _ H.p2) hw10 (g := (mkF m 71 #[oa u, oi 1, oi nm, oi 3] [(.int nm), (.ref xb), (.double w9)])) rfl rfl (hb hby d11_71) _ ?_
  refine zC HSD40_1_26 hx hZ hown hby hw zL (own_SD40_1_22 u nm w10 w9 v72' hv72' hb73_1) _ ?_
  refine stSD40_1_28 _ ?_
  exact q
theorem own_SD40_2_22 (u : Addr) (nm : Int32) (w10 : UInt64) (w9 : UInt64) (v72' : Int32) (hv72' : (cmpValue (FP.dcmp w9 w10) .g) = v72') (hb73_1 : ifCond.holds .gt v72' = true) :
    zF zk ok10 72 #[oa u, oi 1, oi nm, oi 3] [(.double w10), (.double w9)] 82 #[oa u, oi 1, oi nm, oi 3] [(.ref u), (.int 1), (.ref u)] := by
  refine zAD (pc2 := 73) d11_72 rfl (v := v72') hv72' ?_
  refine zx (pc' := 79) d11_73 hb73_1 (by decide) (by decide) ?_
  refine zJ (pc2 := 80) d11_79 rfl rfl rfl ?_
  refine zM (pc2 := 81) d11_80 rfl rfl ?_
  refine zJ (pc2 := 82) d11_81 rfl rfl rfl ?_
  exact zH
theorem own_SD40_2_23 (u : Addr) (nm : Int32) (xl : Addr) :
    zF zk ok10 85 #[oa u, oi 1, oi nm, oi 3] [(.ref xl), (.int 1), (.ref u)] 86 #[oa u, oi 1, oi nm, oi 3] [(.int 3), (.ref xl), (.int 1), (.ref u)] := by
  refine zM (pc2 := 86) d11_85 rfl rfl ?_
  exact zH
theorem own_SD40_2_24 (u : Addr) (nm : Int32) :
    zF zk ok10 90 #[oa u, oi 1, oi nm, oi 3] [] 8 #[oa u, oi 3, oi nm, oi 7] [(.ref u), (.int 7)] := by
  refine zM (pc2 := 91) d11_90 rfl rfl ?_
  refine zAG (pc2 := 92) d11_91 rfl (L' := #[oa u, oi 3, oi nm, oi 3]) rfl ?_
  refine zT (v := 2) (pc2 := 93) d11_92 rfl rfl ?_
  refine zM (pc2 := 94) d11_93 rfl rfl ?_
  refine zAq (pc2 := 95) d11_94 rfl (v := (6 : Int32)) (by decide) ?_
  refine zT (v := 1) (pc2 := 96) d11_95 rfl rfl ?_
  refine zAI (pc2 := 97) d11_96 rfl (v := (7 : Int32)) (by decide) ?_
  refine zAG (pc2 := 98) d11_97 rfl (L' := #[oa u, oi 3, oi nm, oi 7]) rfl ?_
  refine zAN (pc' := 6) d11_98 (by decide) (by decide) ?_
  refine zM (pc2 := 7) d11_6 rfl rfl ?_
  refine zJ (pc2 := 8) d11_7 rfl rfl rfl ?_
  exact zH
theorem zDb (u : Addr) (nm : Int32) :
    zF zk ok10 11 #[oa u, oi 3, oi nm, oi 7] [(.int 4), (.int 7)] 104 #[oa u, oi 3, oi nm, oi 7] [(.int nm), (.int 3), (.ref u)] := by
  refine zAJ (pc' := 101) d11_11 (by decide) (by decide) (by decide) ?_
  refine zJ (pc2 := 102) d11_101 rfl rfl rfl ?_
  refine zM (pc2 := 103) d11_102 rfl rfl ?_
  refine zM (pc2 := 104) d11_103 rfl rfl ?_
  exact zH
set_option maxRecDepth 65536 in
set_option maxHeartbeats 4000000 in
theorem own_SD40_2 (l : Launch) (Z : State) (a0 : Array Value) (hb0 : zU) (hw : ∀ d ∈ tables_1, d.before a0 Z = true) (u : Addr) (nm : Int32) (xb xl xp nu xt xs : Addr) (fb : Int32 → UInt64) (fl fa ft : Int32 → Int32) (kk nn : Int32) (s0 s1 s2 s3 : Int32) (X X0 : Int32 → Int) (H : zZ fa fl nn (4 : Int32) (0 : Int32) nm) (O : zO (zD fl (0 : Int32) nm) X0 (4 : Int32)) (hx0 : ∀ j, j ≠ nm → X0 j = X j) (hn0 : X nm ≤ X0 nm) (hn4 : ∀ j, zG nn j → zG 4 j) (hbD : ∀ j, zG nn j → zN (fb j) ((X j : Int) : Rat)) (d0 : X (fl (2 : Int32)) ≤ X (fl (1 : Int32))) (d1 : X nm < X (fl (1 : Int32))) (d2 : X nm < X (fl (3 : Int32))) :
    zX l Z a0 hb0 (⟨"com/example/tidewise/tidewise/search/UpperBounds", "siftDown", "(II)V"⟩ : MethodName) ok10 4 none [] ({ frames := 1, cells := 0, slots := 0, locals := 14 } : Room) #[(.ref u), (.int 0), (.int nm)] [(u, oc1 (.ref xb) (.ref xl) (.ref xp) (.int kk) (.ref nu) (.int 4)), (xb, zA .double (zK fb)), (xl, zA .int (zE fl)), (xp, zA .int (zE fa)), (nu, oc2 (.int 4) (.ref xt) (.ref xs) (.int nn) .null (.int 0)), (xt, zA .int (zE ft)), (xs, zA .int [.int s0, .int 0, .int 0, .int s2, .int 0, .int 0, .int 0, .int 0, .int 0, .int s1, .int 0, .int 0, .int 0, .int s3, .int 0, .int 0])] (fun r cs' => ∃ fl' fa' : Int32 → Int32, zY fa' fl' nn (4 : Int32) ∧ zO fl' X (4 : Int32) ∧ X (fl' 0) ≤ X0 (zD fl (0 : Int32) nm 0) ∧ (∀ j, fa' j = -1 → j ≠ nm ∧ fa j = -1) ∧ r = none ∧ cs' = [(u, oc1 (.ref xb) (.ref xl) (.ref xp) (.int kk) (.ref nu) (.int 4)), (xb, zA .double (zK fb)), (xl, zA .int (zE fl')), (xp, zA .int (zE fa')), (nu, oc2 (.int 4) (.ref xt) (.ref xs) (.int nn) .null (.int 0)), (xt, zA .int (zE ft)), (xs, zA .int [.int s0, .int 0, .int 0, .int s2, .int 0, .int 0, .int 0, .int 0, .int 0, .int s1, .int 0, .int 0, .int 0, .int s3, .int 0, .int 0])]) := by
  refine zh (L0 := #[oa u, oi 0, oi nm, ou]) (plainFor_of_name zAV) (fun m => zAX m u (0 : Int32) nm) ?_
  intro p e s m below meth c T0 hx hZ hown hby hml hnm H0
  obtain ⟨TSD40_2_1, HSD40_2_1, stSD40_2_1⟩ := zI H0 hx hZ hown (zB hw 64 rfl) 0 5 rfl rfl (g := (mkF m 8 #[oa u, oi 0, oi nm, oi 1] [(.ref u), (.int 1)])) rfl rfl (hb hby d11_8)
  obtain ⟨TSD40_2_2, HSD40_2_2, stSD40_2_2⟩ := zI HSD40_2_1 hx hZ hown (zB hw 64 rfl) 0 5 rfl rfl (g := (mkF m 18 #[oa u, oi 0, oi nm, oi 1] [(.ref u), (.int 2)])) rfl rfl (hb hby d11_18)
  obtain ⟨TSD40_2_3, HSD40_2_3, stSD40_2_3⟩ := zI HSD40_2_2 hx hZ hown (zB hw 10 rfl) 0 0 rfl rfl (g := (mkF m 25 #[oa u, oi 0, oi nm, oi 1] [(.ref u)])) rfl rfl (hb hby d11_25)
  obtain ⟨TSD40_2_4, HSD40_2_4, stSD40_2_4⟩ := zI HSD40_2_3 hx hZ hown (zB hw 13 rfl) 0 1 rfl rfl (g := (mkF m 29 #[oa u, oi 0, oi nm, oi 1] [(.ref u), (.ref xb)])) rfl rfl (hb hby d11_29)
  obtain ⟨w0, hw0⟩ : ∃ z, fl (2 : Int32) = z := ⟨_, rfl⟩
  have ew0 : w0 = fl (2 : Int32) := by rw [← hw0]
  have mw0 : zG nn w0 := by rw [ew0]; exact (H.p1 (2 : Int32) ⟨by decide, by decide⟩ (by decide)).1
  have iw0 := hn4 _ mw0
  obtain ⟨w1, hw1⟩ : ∃ z, fb w0 = z := ⟨_, rfl⟩
  have vw1 : zN w1 ((X w0 : Int) : Rat) := by rw [← hw1]; exact hbD _ mw0
  obtain ⟨TSD40_2_7, HSD40_2_7, stSD40_2_7⟩ := zI HSD40_2_4 hx hZ hown (zB hw 10 rfl) 0 0 rfl rfl (g := (mkF m 38 #[oa u, oi 0, oi nm, oi 1] [(.ref u), (.double w1)])) rfl rfl (hb hby d11_38)
  obtain ⟨TSD40_2_8, HSD40_2_8, stSD40_2_8⟩ := zI HSD40_2_7 hx hZ hown (zB hw 13 rfl) 0 1 rfl rfl (g := (mkF m 42 #[oa u, oi 0, oi nm, oi 1] [(.ref u), (.ref xb), (.double w1)])) rfl rfl (hb hby d11_42)
  obtain ⟨w2, hw2⟩ : ∃ z, fl (1 : Int32) = z := ⟨_, rfl⟩
  have ew2 : w2 = fl (1 : Int32) := by rw [← hw2]
  have mw2 : zG nn w2 := by rw [ew2]; exact (H.p1 (1 : Int32) ⟨by decide, by decide⟩ (by decide)).1
  have iw2 := hn4 _ mw2
  obtain ⟨w3, hw3⟩ : ∃ z, fb w2 = z := ⟨_, rfl⟩
  have vw3 : zN w3 ((X w2 : Int) : Rat) := by rw [← hw3]; exact hbD _ mw2
  obtain ⟨v48, hv48⟩ : ∃ z : Int32, (cmpValue (FP.dcmp w1 w3) .l) = z := ⟨_, rfl⟩
  obtain ⟨TSD40_2_11, HSD40_2_11, stSD40_2_11⟩ := zI HSD40_2_8 hx hZ hown (zB hw 10 rfl) 0 0 rfl rfl (g := (mkF m 56 #[oa u, oi 0, oi nm, oi 1] [(.ref u)])) rfl rfl (hb hby d11_56)
  obtain ⟨TSD40_2_12, HSD40_2_12, stSD40_2_12⟩ := zI HSD40_2_11 hx hZ hown (zB hw 13 rfl) 0 1 rfl rfl (g := (mkF m 60 #[oa u, oi 0, oi nm, oi 1] [(.ref u), (.ref xb)])) rfl rfl (hb hby d11_60)
  obtain ⟨w4, hw4⟩ : ∃ z, fl (1 : Int32) = z := ⟨_, rfl⟩
  have ew4 : w4 = fl (1 : Int32) := by rw [← hw4]
  have mw4 : zG nn w4 := by rw [ew4]; exact (H.p1 (1 : Int32) ⟨by decide, by decide⟩ (by decide)).1
  have iw4 := hn4 _ mw4
  obtain ⟨w5, hw5⟩ : ∃ z, fb w4 = z := ⟨_, rfl⟩
  have vw5 : zN w5 ((X w4 : Int) : Rat) := by rw [← hw5]; exact hbD _ mw4
  obtain ⟨TSD40_2_15, HSD40_2_15, stSD40_2_15⟩ := zI HSD40_2_12 hx hZ hown (zB hw 10 rfl) 0 0 rfl rfl (g := (mkF m 67 #[oa u, oi 0, oi nm, oi 1] [(.ref u), (.double w5)])) rfl rfl (hb hby d11_67)
  obtain ⟨w6, hw6⟩ : ∃ z, fb nm = z := ⟨_, rfl⟩
  have vw6 : zN w6 ((X nm : Int) : Rat) := by rw [← hw6]; exact hbD _ H.p2
  obtain ⟨v72, hv72⟩ : ∃ z : Int32, (cmpValue (FP.dcmp w5 w6) .g) = z := ⟨_, rfl⟩
  obtain ⟨TSD40_2_17, HSD40_2_17, stSD40_2_17⟩ := zI HSD40_2_15 hx hZ hown (zB hw 13 rfl) 0 1 rfl rfl (g := (mkF m 82 #[oa u, oi 0, oi nm, oi 1] [(.ref u), (.int 0), (.ref u)])) rfl rfl (hb hby d11_82)
  obtain ⟨w7, hw7⟩ : ∃ z, fl (1 : Int32) = z := ⟨_, rfl⟩
  have ew7 : w7 = fl (1 : Int32) := by rw [← hw7]
  have mw7 : zG nn w7 := by rw [ew7]; exact (H.p1 (1 : Int32) ⟨by decide, by decide⟩ (by decide)).1
  have iw7 := hn4 _ mw7
  obtain ⟨TSD40_2_19, vSD40_2_19_, csSD40_2_19_, qSD40_2_19, HSD40_2_19, stSD40_2_19⟩ := zo HSD40_2_17 hx hZ hown (zB hw 70 rfl) (zB hw 71 rfl) (zB hw 72 rfl) (zB hw 1 rfl) (zB hw 2 rfl) (zB hw 73 rfl) (by decide) (x := u) 0 rfl (argsL := [(.int 0), (.int w7)]) (rest := []) (W := 0) (zu l Z a0 hb0 hw u (0 : Int32) w7 xb xl xp nu xt xs fb fl fa ft kk (4 : Int32) nn s0 s1 s2 s3 ⟨by decide, by decide⟩ iw7) (by decide) (by decide) (by decide) (by decide) (g := (mkF m 87 #[oa u, oi 0, oi nm, oi 1] [(.int w7), (.int 0), (.ref u)])) rfl (by rw [hml]; rfl) (lenOf zq rfl) rfl (by show 2 * 0 + _ ≤ _; exact Nat.le_of_eq rfl) (hb hby d11_87)
  obtain ⟨rfl, rfl⟩ := qSD40_2_19
  obtain ⟨TSD40_2_20, HSD40_2_20, stSD40_2_20⟩ := zI HSD40_2_19 hx hZ hown (zB hw 64 rfl) 0 5 rfl rfl (g := (mkF m 8 #[oa u, oi 1, oi nm, oi 3] [(.ref u), (.int 3)])) rfl rfl (hb hby d11_8)
  obtain ⟨TSD40_2_21, HSD40_2_21, stSD40_2_21⟩ := zI HSD40_2_20 hx hZ hown (zB hw 64 rfl) 0 5 rfl rfl (g := (mkF m 18 #[oa u, oi 1, oi nm, oi 3] [(.ref u), (.int 4)])) rfl rfl (hb hby d11_18)
  obtain ⟨TSD40_2_22, HSD40_2_22, stSD40_2_22⟩ := zI HSD40_2_21 hx hZ hown (zB hw 10 rfl) 0 0 rfl rfl (g := (mkF m 56 #[oa u, oi 1, oi nm, oi 3] [(.ref u)])) rfl rfl (hb hby d11_56)
  obtain ⟨TSD40_2_23, HSD40_2_23, stSD40_2_23⟩ := zI HSD40_2_22 hx hZ hown (zB hw 13 rfl) 0 1 rfl rfl (g := (mkF m 60 #[oa u, oi 1, oi nm, oi 3] [(.ref u), (.ref xb)])) rfl rfl (hb hby d11_60)
  obtain ⟨w8, hw8⟩ : ∃ z, (zD fl (0 : Int32) w7) (3 : Int32) = z := ⟨_, rfl⟩
  have ew8 : w8 = fl (3 : Int32) := by rw [← hw8]; simp [zD]
  have mw8 : zG nn w8 := by rw [ew8]; exact (H.p1 (3 : Int32) ⟨by decide, by decide⟩ (by decide)).1
  have iw8 := hn4 _ mw8
  obtain ⟨w9, hw9⟩ : ∃ z, fb w8 = z := ⟨_, rfl⟩
  have vw9 : zN w9 ((X w8 : Int) : Rat) := by rw [← hw9]; exact hbD _ mw8
  obtain ⟨TSD40_2_26, HSD40_2_26, stSD40_2_26⟩ := zI HSD40_2_23 hx hZ hown (zB hw 10 rfl) 0 0 rfl rfl (g := (mkF m 67 #[oa u, oi 1, oi nm, oi 3] [(.ref u), (.double w9)])) rfl rfl (hb hby d11_67)
  obtain ⟨w10, hw10⟩ : ∃ z, fb nm = z := ⟨_, rfl⟩
  have vw10 : zN w10 ((X nm : Int) : Rat) := by rw [← hw10]; exact hbD _ H.p2
  obtain ⟨v72', hv72'⟩ : ∃ z : Int32, (cmpValue (FP.dcmp w9 w10) .g) = z := ⟨_, rfl⟩
  obtain ⟨TSD40_2_28, HSD40_2_28, stSD40_2_28⟩ := zI HSD40_2_26 hx hZ hown (zB hw 13 rfl) 0 1 rfl rfl (g := (mkF m 82 #[oa u, oi 1, oi nm, oi 3] [(.ref u), (.int 1), (.ref u)])) rfl rfl (hb hby d11_82)
  obtain ⟨w11, hw11⟩ : ∃ z, (zD fl (0 : Int32) w7) (3 : Int32) = z := ⟨_, rfl⟩
  have ew11 : w11 = fl (3 : Int32) := by rw [← hw11]; simp [zD]
  have mw11 : zG nn w11 := by rw [ew11]; exact (H.p1 (3 : Int32) ⟨by decide, by decide⟩ (by decide)).1
  have iw11 := hn4 _ mw11
  obtain ⟨TSD40_2_30, vSD40_2_30_, csSD40_2_30_, qSD40_2_30, HSD40_2_30, stSD40_2_30⟩ := zo HSD40_2_28 hx hZ hown (zB hw 70 rfl) (zB hw 71 rfl) (zB hw 72 rfl) (zB hw 1 rfl) (zB hw 2 rfl) (zB hw 73 rfl) (by decide) (x := u) 0 rfl (argsL := [(.int 1), (.int w11)]) (rest := []) (W := 0) (zu l Z a0 hb0 hw u (1 : Int32) w11 xb xl xp nu xt xs fb (zD fl (0 : Int32) w7) (zD fa w7 (0 : Int32)) ft kk (4 : Int32) nn s0 s1 s2 s3 ⟨by decide, by decide⟩ iw11) (by decide) (by decide) (by decide) (by decide) (g := (mkF m 87 #[oa u, oi 1, oi nm, oi 3] [(.int w11), (.int 1), (.ref u)])) rfl (by rw [hml]; rfl) (lenOf zq rfl) rfl (by show 2 * 0 + _ ≤ _; exact Nat.le_of_eq rfl) (hb hby d11_87)
  obtain ⟨rfl, rfl⟩ := qSD40_2_30
  obtain ⟨TSD40_2_31, HSD40_2_31, stSD40_2_31⟩ := zI HSD40_2_30 hx hZ hown (zB hw 64 rfl) 0 5 rfl rfl (g := (mkF m 8 #[oa u, oi 3, oi nm, oi 7] [(.ref u), (.int 7)])) rfl rfl (hb hby d11_8)
  obtain ⟨TSD40_2_32, vSD40_2_32_, csSD40_2_32_, qSD40_2_32, HSD40_2_32, stSD40_2_32⟩ := zo HSD40_2_31 hx hZ hown (zB hw 70 rfl) (zB hw 71 rfl) (zB hw 72 rfl) (zB hw 1 rfl) (zB hw 2 rfl) (zB hw 73 rfl) (by decide) (x := u) 0 rfl (argsL := [(.int 3), (.int nm)]) (rest := []) (W := 0) (zu l Z a0 hb0 hw u (3 : Int32) nm xb xl xp nu xt xs fb (zD (zD fl (0 : Int32) w7) (1 : Int32) w11) (zD (zD fa w7 (0 : Int32)) w11 (1 : Int32)) ft kk (4 : Int32) nn s0 s1 s2 s3 ⟨by decide, by decide⟩ (hn4 _ H.p2)) (by decide) (by decide) (by decide) (by decide) (g := (mkF m 104 #[oa u, oi 3, oi nm, oi 7] [(.int nm), (.int 3), (.ref u)])) rfl (by rw [hml]; rfl) (lenOf zq rfl) rfl (by show 2 * 0 + _ ≤ _; exact Nat.le_of_eq rfl) (hb hby d11_104)
  obtain ⟨rfl, rfl⟩ := qSD40_2_32
  have d0' := d0
  rw [← ew0, ← ew2] at d0'
  have hb49_0 : ifCond.holds .le v48 = true := by
    rw [← hv48, zBI vw1 vw3]
    exact decide_eq_true (zAS d0')
  have d1' := d1
  rw [← ew4] at d1'
  have hb73_0 : ifCond.holds .gt v72 = true := by
    rw [← hv72, zAc vw5 vw6]
    exact decide_eq_true (zAP d1')
  have d2' := d2
  rw [← ew8] at d2'
  have hb73_1 : ifCond.holds .gt v72' = true := by
    rw [← hv72', zAc vw9 vw10]
    exact decide_eq_true (zAP d2')
  have q := own_sd40_2 H O hx0 hn0 d0 d1 d2
  rw [← ew7] at q
  rw [← ew11] at q
  refine ⟨_, _, _, _, 107, #[oa u, oi 3, oi nm, oi 7], HSD40_2_32, by decide, by decide, Or.inl ⟨rfl, ⟨_, _, q.1, q.2.1, q.2.2.1, q.2.2.2, rfl, rfl⟩, d11_107, fun target q => ?_⟩⟩
  refine zC H0 hx hZ hown hby hw zL (zAo u nm) _ ?_
  refine stSD40_2_1 _ ?_
  refine zC HSD40_2_1 hx hZ hown hby hw zL (zCR u nm) _ ?_
  refine stSD40_2_2 _ ?_
  refine zC HSD40_2_2 hx hZ hown hby hw zL (zCS u nm) _ ?_
  refine stSD40_2_3 _ ?_
  refine zC HSD40_2_3 hx hZ hown hby hw zL (zBP u nm xb) _ ?_
  refine stSD40_2_4 _ ?_
  refine zC HSD40_2_4 hx hZ hown hby hw zL (zBQ u nm xl xb) _ ?_
  refine zf HSD40_2_4 hx hZ 2 rfl ⟨by decide, by decide⟩ hw0 (g := (mkF m 35 #[oa u, oi 0, oi nm, oi 1] [(.int 2), (.ref xl), (.ref xb)])) rfl rfl (hb hby d11_35) _ ?_
  refine zd HSD40_2_4 hx hZ 1 rfl iw0 hw1 (g := (mkF m 36 #[oa u, oi 0, oi nm, oi 1] [(.int w0), (.ref xb)])) rfl rfl (hb hby d11_36) _ ?_
  refine zC HSD40_2_4 hx hZ hown hby hw zL (zBR u nm w1) _ ?_
  refine stSD40_2_7 _ ?_
  refine zC HSD40_2_7 hx hZ hown hby hw zL (zBS u nm xb w1) _ ?_
  refine stSD40_2_8 _ ?_
  refine zC HSD40_2_8 hx hZ hown hby hw zL (zBT u nm xl xb w1) _ ?_
  refine zf HSD40_2_8 hx hZ 2 rfl ⟨by decide, by decide⟩ hw2 (g := (mkF m 46 #[oa u, oi 0, oi nm, oi 1] [(.int 1), (.ref xl), (.ref xb), (.double w1)])) rfl rfl (hb hby d11_46) _ ?_
  refine zd HSD40_2_8 hx hZ 1 rfl iw2 hw3 (g := (mkF m 47 #[oa u, oi 0, oi nm, oi 1] [(.int w2), (.ref xb), (.double w1)])) rfl rfl (hb hby d11_47) _ ?_
  refine zC HSD40_2_8 hx hZ hown hby hw zL (zCO u nm w3 w1 v48 hv48 hb49_0) _ ?_
  refine stSD40_2_11 _ ?_
  refine zC HSD40_2_11 hx hZ hown hby hw zL (zBn u nm xb) _ ?_
  refine stSD40_2_12 _ ?_
  refine zC HSD40_2_12 hx hZ hown hby hw zL (zBo u nm xl xb) _ ?_
  refine zf HSD40_2_12 hx hZ 2 rfl ⟨by decide, by decide⟩ hw4 (g := (mkF m 64 #[oa u, oi 0, oi nm, oi 1] [(.int 1), (.ref xl), (.ref xb)])) rfl rfl (hb hby d11_64) _ ?_
  refine zd HSD40_2_12 hx hZ 1 rfl iw4 hw5 (g := (mkF m 65 #[oa u, oi 0, oi nm, oi 1] [(.int w4), (.ref xb)])) rfl rfl (hb hby d11_65) _ ?_
  refine zC HSD40_2_12 hx hZ hown hby hw zL (zCP u nm w5) _ ?_
  refine stSD40_2_15 _ ?_
  refine zC HSD40_2_15 hx hZ hown hby hw zL (zCQ u nm xb w5) _ ?_
  refine zd HSD40_2_15 hx hZ 1 rfl (hn4 _ H.p2) hw6 (g := (mkF m 71 #[oa u, oi 0, oi nm, oi 1] [(.int nm), (.ref xb), (.double w5)])) rfl rfl (hb hby d11_71) _ ?_
  refine zC HSD40_2_15 hx hZ hown hby hw zL (zDa u nm w6 w5 v72 hv72 hb73_0) _ ?_
  refine stSD40_2_17 _ ?_
  refine zC HSD40_2_17 hx hZ hown hby hw zL (zCs u nm xl) _ ?_
  refine zf HSD40_2_17 hx hZ 2 rfl ⟨by decide, by decide⟩ hw7 (g := (mkF m 86 #[oa u, oi 0, oi nm, oi 1] [(.int 1), (.ref xl), (.int 0), (.ref u)])) rfl rfl (hb hby d11_86) _ ?_
  refine stSD40_2_19 _ ?_
  refine zC HSD40_2_19 hx hZ hown hby hw zL (zCt u nm) _ ?_
  refine stSD40_2_20 _ ?_
  refine zC HSD40_2_20 hx hZ hown hby hw zL (zDC u nm) _ ?_
  refine stSD40_2_21 _ ?_
  refine zC HSD40_2_21 hx hZ hown hby hw zL (zDD u nm) _ ?_
  refine stSD40_2_22 _ ?_
  refine zC HSD40_2_22 hx hZ hown hby hw zL (zDE u nm xb) _ ?_
  refine stSD40_2_23 _ ?_
  refine zC HSD40_2_23 hx hZ hown hby hw zL (zDF u nm xl xb) _ ?_
  refine zf HSD40_2_23 hx hZ 2 rfl ⟨by decide, by decide⟩ hw8 (g := (mkF m 64 #[oa u, oi 1, oi nm, oi 3] [(.int 3), (.ref xl), (.ref xb)])) rfl rfl (hb hby d11_64) _ ?_
  refine zd HSD40_2_23 hx hZ 1 rfl iw8 hw9 (g := (mkF m 65 #[oa u, oi 1, oi nm, oi 3] [(.int w8), (.ref xb)])) rfl rfl (hb hby d11_65) _ ?_
  refine zC HSD40_2_23 hx hZ hown hby hw zL (own_SD40_1_20 u nm w9) _ ?_
  refine stSD40_2_26 _ ?_
  refine zC HSD40_2_26 hx hZ hown hby hw zL (own_SD40_1_21 u nm xb w9) _ ?_
  refine zd HSD40_2_26 hx hZ 1 rfl (hn4 _ H.p2) hw10 (g := (mkF m 71 #[oa u, oi 1, oi nm, oi 3] [(.int nm), (.ref xb), (.double w9)])) rfl rfl (hb hby d11_71) _ ?_
  refine zC HSD40_2_26 hx hZ hown hby hw zL (own_SD40_2_22 u nm w10 w9 v72' hv72' hb73_1) _ ?_
  refine stSD40_2_28 _ ?_
  refine zC HSD40_2_28 hx hZ hown hby hw zL (own_SD40_2_23 u nm xl) _ ?_
  refine zf HSD40_2_28 hx hZ 2 rfl ⟨by decide, by decide⟩ hw11 (g := (mkF m 86 #[oa u, oi 1, oi nm, oi 3] [(.int 3), (.ref xl), (.int 1), (.ref u)])) rfl rfl (hb hby d11_86) _ ?_
  refine stSD40_2_30 _ ?_
  refine zC HSD40_2_30 hx hZ hown hby hw zL (own_SD40_2_24 u nm) _ ?_
  refine stSD40_2_31 _ ?_
  refine zC HSD40_2_31 hx hZ hown hby hw zL (zDb u nm) _ ?_
  refine stSD40_2_32 _ ?_
  exact q
set_option maxRecDepth 65536 in
set_option maxHeartbeats 4000000 in
theorem own_SD40_3 (l : Launch) (Z : State) (a0 : Array Value) (hb0 : zU) (hw : ∀ d ∈ tables_1, d.before a0 Z = true) (u : Addr) (nm : Int32) (xb xl xp nu xt xs : Addr) (fb : Int32 → UInt64) (fl fa ft : Int32 → Int32) (kk nn : Int32) (s0 s1 s2 s3 : Int32) (X X0 : Int32 → Int) (H : zZ fa fl nn (4 : Int32) (0 : Int32) nm) (O : zO (zD fl (0 : Int32) nm) X0 (4 : Int32)) (hx0 : ∀ j, j ≠ nm → X0 j = X j) (hn0 : X nm ≤ X0 nm) (hn4 : ∀ j, zG nn j → zG 4 j) (hbD : ∀ j, zG nn j → zN (fb j) ((X j : Int) : Rat)) (d0 : X (fl (1 : Int32)) < X (fl (2 : Int32))) (d1 : X (fl (2 : Int32)) ≤ X nm) :
    zX l Z a0 hb0 (⟨"com/example/tidewise/tidewise/search/UpperBounds", "siftDown", "(II)V"⟩ : MethodName) ok10 4 none [] ({ frames := 1, cells := 0, slots := 0, locals := 14 } : Room) #[(.ref u), (.int 0), (.int nm)] [(u, oc1 (.ref xb) (.ref xl) (.ref xp) (.int kk) (.ref nu) (.int 4)), (xb, zA .double (zK fb)), (xl, zA .int (zE fl)), (xp, zA .int (zE fa)), (nu, oc2 (.int 4) (.ref xt) (.ref xs) (.int nn) .null (.int 0)), (xt, zA .int (zE ft)), (xs, zA .int [.int s0, .int 0, .int 0, .int s2, .int 0, .int 0, .int 0, .int 0, .int 0, .int s1, .int 0, .int 0, .int 0, .int s3, .int 0, .int 0])] (fun r cs' => ∃ fl' fa' : Int32 → Int32, zY fa' fl' nn (4 : Int32) ∧ zO fl' X (4 : Int32) ∧ X (fl' 0) ≤ X0 (zD fl (0 : Int32) nm 0) ∧ (∀ j, fa' j = -1 → j ≠ nm ∧ fa j = -1) ∧ r = none ∧ cs' = [(u, oc1 (.ref xb) (.ref xl) (.ref xp) (.int kk) (.ref nu) (.int 4)), (xb, zA .double (zK fb)), (xl, zA .int (zE fl')), (xp, zA .int (zE fa')), (nu, oc2 (.int 4) (.ref xt) (.ref xs) (.int nn) .null (.int 0)), (xt, zA .int (zE ft)), (xs, zA .int [.int s0, .int 0, .int 0, .int s2, .int 0, .int 0, .int 0, .int 0, .int 0, .int s1, .int 0, .int 0, .int 0, .int s3, .int 0, .int 0])]) := by
  refine zh (L0 := #[oa u, oi 0, oi nm, ou]) (plainFor_of_name zAV) (fun m => zAX m u (0 : Int32) nm) ?_
  intro p e s m below meth c T0 hx hZ hown hby hml hnm H0
  obtain ⟨TSD40_3_1, HSD40_3_1, stSD40_3_1⟩ := zI H0 hx hZ hown (zB hw 64 rfl) 0 5 rfl rfl (g := (mkF m 8 #[oa u, oi 0, oi nm, oi 1] [(.ref u), (.int 1)])) rfl rfl (hb hby d11_8)
  obtain ⟨TSD40_3_2, HSD40_3_2, stSD40_3_2⟩ := zI HSD40_3_1 hx hZ hown (zB hw 64 rfl) 0 5 rfl rfl (g := (mkF m 18 #[oa u, oi 0, oi nm, oi 1] [(.ref u), (.int 2)])) rfl rfl (hb hby d11_18)
  obtain ⟨TSD40_3_3, HSD40_3_3, stSD40_3_3⟩ := zI HSD40_3_2 hx hZ hown (zB hw 10 rfl) 0 0 rfl rfl (g := (mkF m 25 #[oa u, oi 0, oi nm, oi 1] [(.ref u)])) rfl rfl (hb hby d11_25)
  obtain ⟨TSD40_3_4, HSD40_3_4, stSD40_3_4⟩ := zI HSD40_3_3 hx hZ hown (zB hw 13 rfl) 0 1 rfl rfl (g := (mkF m 29 #[oa u, oi 0, oi nm, oi 1] [(.ref u), (.ref xb)])) rfl rfl (hb hby d11_29)
  obtain ⟨w0, hw0⟩ : ∃ z, fl (2 : Int32) = z := ⟨_, rfl⟩
  have ew0 : w0 = fl (2 : Int32) := by rw [← hw0]
  have mw0 : zG nn w0 := by rw [ew0]; exact (H.p1 (2 : Int32) ⟨by decide, by decide⟩ (by decide)).1
  have iw0 := hn4 _ mw0
  obtain ⟨w1, hw1⟩ : ∃ z, fb w0 = z := ⟨_, rfl⟩
  have vw1 : zN w1 ((X w0 : Int) : Rat) := by rw [← hw1]; exact hbD _ mw0
  obtain ⟨TSD40_3_7, HSD40_3_7, stSD40_3_7⟩ := zI HSD40_3_4 hx hZ hown (zB hw 10 rfl) 0 0 rfl rfl (g := (mkF m 38 #[oa u, oi 0, oi nm, oi 1] [(.ref u), (.double w1)])) rfl rfl (hb hby d11_38)
  obtain ⟨TSD40_3_8, HSD40_3_8, stSD40_3_8⟩ := zI HSD40_3_7 hx hZ hown (zB hw 13 rfl) 0 1 rfl rfl (g := (mkF m 42 #[oa u, oi 0, oi nm, oi 1] [(.ref u), (.ref xb), (.double w1)])) rfl rfl (hb hby d11_42)
  obtain ⟨w2, hw2⟩ : ∃ z, fl (1 : Int32) = z := ⟨_, rfl⟩
  have ew2 : w2 = fl (1 : Int32) := by rw [← hw2]
  have mw2 : zG nn w2 := by rw [ew2]; exact (H.p1 (1 : Int32) ⟨by decide, by decide⟩ (by decide)).1
  have iw2 := hn4 _ mw2
  obtain ⟨w3, hw3⟩ : ∃ z, fb w2 = z := ⟨_, rfl⟩
  have vw3 : zN w3 ((X w2 : Int) : Rat) := by rw [← hw3]; exact hbD _ mw2
  obtain ⟨v48, hv48⟩ : ∃ z : Int32, (cmpValue (FP.dcmp w1 w3) .l) = z := ⟨_, rfl⟩
  obtain ⟨TSD40_3_11, HSD40_3_11, stSD40_3_11⟩ := zI HSD40_3_8 hx hZ hown (zB hw 10 rfl) 0 0 rfl rfl (g := (mkF m 56 #[oa u, oi 0, oi nm, oi 2] [(.ref u)])) rfl rfl (hb hby d11_56)
  obtain ⟨TSD40_3_12, HSD40_3_12, stSD40_3_12⟩ := zI HSD40_3_11 hx hZ hown (zB hw 13 rfl) 0 1 rfl rfl (g := (mkF m 60 #[oa u, oi 0, oi nm, oi 2] [(.ref u), (.ref xb)])) rfl rfl (hb hby d11_60)
  obtain ⟨w4, hw4⟩ : ∃ z, fl (2 : Int32) = z := ⟨_, rfl⟩
  have ew4 : w4 = fl (2 : Int32) := by rw [← hw4]
  have mw4 : zG nn w4 := by rw [ew4]; exact (H.p1 (2 : Int32) ⟨by decide, by decide⟩ (by decide)).1
  have iw4 := hn4 _ mw4
  obtain ⟨w5, hw5⟩ : ∃ z, fb w4 = z := ⟨_, rfl⟩
  have vw5 : zN w5 ((X w4 : Int) : Rat) := by rw [← hw5]; exact hbD _ mw4
  obtain ⟨TSD40_3_15, HSD40_3_15, stSD40_3_15⟩ := zI HSD40_3_12 hx hZ hown (zB hw 10 rfl) 0 0 rfl rfl (g := (mkF m 67 #[oa u, oi 0, oi nm, oi 2] [(.ref u), (.double w5)])) rfl rfl (hb hby d11_67)
  obtain ⟨w6, hw6⟩ : ∃ z, fb nm = z := ⟨_, rfl⟩
  have vw6 : zN w6 ((X nm : Int) : Rat) := by rw [← hw6]; exact hbD _ H.p2
  obtain ⟨v72, hv72⟩ : ∃ z : Int32, (cmpValue (FP.dcmp w5 w6) .g) = z := ⟨_, rfl⟩
  obtain ⟨TSD40_3_17, vSD40_3_17_, csSD40_3_17_, qSD40_3_17, HSD40_3_17, stSD40_3_17⟩ := zo HSD40_3_15 hx hZ hown (zB hw 70 rfl) (zB hw 71 rfl) (zB hw 72 rfl) (zB hw 1 rfl) (zB hw 2 rfl) (zB hw 73 rfl) (by decide) (x := u) 0 rfl (argsL := [(.int 0), (.int nm)]) (rest := []) (W := 0) (zu l Z a0 hb0 hw u (0 : Int32) nm xb xl xp nu xt xs fb fl fa ft kk (4 : Int32) nn s0 s1 s2 s3 ⟨by decide, by decide⟩ (hn4 _ H.p2)) (by decide) (by decide) (by decide) (by decide) (g := (mkF m 104 #[oa u, oi 0, oi nm, oi 2] [(.int nm), (.int 0), (.ref u)])) rfl (by rw [hml]; rfl) (lenOf zq rfl) rfl (by show 2 * 0 + _ ≤ _; exact Nat.le_of_eq rfl) (hb hby d11_104)
  obtain ⟨rfl, rfl⟩ := qSD40_3_17
  have d0' := d0
  rw [← ew0, ← ew2] at d0'
  have hb49_0 : ifCond.holds .le v48 = false := by
    rw [← hv48, zBI vw1 vw3]
    exact decide_eq_false (Rat.not_le.mpr (zAP d0'))
  have d1' := d1
  rw [← ew4] at d1'
  have hb73_0 : ifCond.holds .gt v72 = false := by
    rw [← hv72, zAc vw5 vw6]
    exact decide_eq_false (Rat.not_lt.mpr (zAS d1'))
  have q := own_sd40_3 H O hx0 hn0 d0 d1
  refine ⟨_, _, _, _, 107, #[oa u, oi 0, oi nm, oi 2], HSD40_3_17, by decide, by decide, Or.inl ⟨rfl, ⟨_, _, q.1, q.2.1, q.2.2.1, q.2.2.2, rfl, rfl⟩, d11_107, fun target q => ?_⟩⟩
  refine zC H0 hx hZ hown hby hw zL (zAo u nm) _ ?_
  refine stSD40_3_1 _ ?_
  refine zC HSD40_3_1 hx hZ hown hby hw zL (zCR u nm) _ ?_
  refine stSD40_3_2 _ ?_
  refine zC HSD40_3_2 hx hZ hown hby hw zL (zCS u nm) _ ?_
  refine stSD40_3_3 _ ?_
  refine zC HSD40_3_3 hx hZ hown hby hw zL (zBP u nm xb) _ ?_
  refine stSD40_3_4 _ ?_
  refine zC HSD40_3_4 hx hZ hown hby hw zL (zBQ u nm xl xb) _ ?_
  refine zf HSD40_3_4 hx hZ 2 rfl ⟨by decide, by decide⟩ hw0 (g := (mkF m 35 #[oa u, oi 0, oi nm, oi 1] [(.int 2), (.ref xl), (.ref xb)])) rfl rfl (hb hby d11_35) _ ?_
  refine zd HSD40_3_4 hx hZ 1 rfl iw0 hw1 (g := (mkF m 36 #[oa u, oi 0, oi nm, oi 1] [(.int w0), (.ref xb)])) rfl rfl (hb hby d11_36) _ ?_
  refine zC HSD40_3_4 hx hZ hown hby hw zL (zBR u nm w1) _ ?_
  refine stSD40_3_7 _ ?_
  refine zC HSD40_3_7 hx hZ hown hby hw zL (zBS u nm xb w1) _ ?_
  refine stSD40_3_8 _ ?_
  refine zC HSD40_3_8 hx hZ hown hby hw zL (zBT u nm xl xb w1) _ ?_
  refine zf HSD40_3_8 hx hZ 2 rfl ⟨by decide, by decide⟩ hw2 (g := (mkF m 46 #[oa u, oi 0, oi nm, oi 1] [(.int 1), (.ref xl), (.ref xb), (.double w1)])) rfl rfl (hb hby d11_46) _ ?_
  refine zd HSD40_3_8 hx hZ 1 rfl iw2 hw3 (g := (mkF m 47 #[oa u, oi 0, oi nm, oi 1] [(.int w2), (.ref xb), (.double w1)])) rfl rfl (hb hby d11_47) _ ?_
  refine zC HSD40_3_8 hx hZ hown hby hw zL (zCx u nm w3 w1 v48 hv48 hb49_0) _ ?_
  refine stSD40_3_11 _ ?_
  refine zC HSD40_3_11 hx hZ hown hby hw zL (zCy u nm xb) _ ?_
  refine stSD40_3_12 _ ?_
  refine zC HSD40_3_12 hx hZ hown hby hw zL (zCz u nm xl xb) _ ?_
  refine zf HSD40_3_12 hx hZ 2 rfl ⟨by decide, by decide⟩ hw4 (g := (mkF m 64 #[oa u, oi 0, oi nm, oi 2] [(.int 2), (.ref xl), (.ref xb)])) rfl rfl (hb hby d11_64) _ ?_
  refine zd HSD40_3_12 hx hZ 1 rfl iw4 hw5 (g := (mkF m 65 #[oa u, oi 0, oi nm, oi 2] [(.int w4), (.ref xb)])) rfl rfl (hb hby d11_65) _ ?_
  refine zC HSD40_3_12 hx hZ hown hby hw zL (zDA u nm w5) _ ?_
  refine stSD40_3_15 _ ?_
  refine zC HSD40_3_15 hx hZ hown hby hw zL (zDB u nm xb w5) _ ?_
  refine zd HSD40_3_15 hx hZ 1 rfl (hn4 _ H.p2) hw6 (g := (mkF m 71 #[oa u, oi 0, oi nm, oi 2] [(.int nm), (.ref xb), (.double w5)])) rfl rfl (hb hby d11_71) _ ?_
  refine zC HSD40_3_15 hx hZ hown hby hw zL (own_SD30_2_13 u nm w6 w5 v72 hv72 hb73_0) _ ?_
  refine stSD40_3_17 _ ?_
  exact q
theorem own_SD40_4_16 (u : Addr) (nm : Int32) :
    zF zk ok10 11 #[oa u, oi 2, oi nm, oi 5] [(.int 4), (.int 5)] 104 #[oa u, oi 2, oi nm, oi 5] [(.int nm), (.int 2), (.ref u)] := by
  refine zAJ (pc' := 101) d11_11 (by decide) (by decide) (by decide) ?_
  refine zJ (pc2 := 102) d11_101 rfl rfl rfl ?_
  refine zM (pc2 := 103) d11_102 rfl rfl ?_
  refine zM (pc2 := 104) d11_103 rfl rfl ?_
  exact zH
set_option maxRecDepth 65536 in
set_option maxHeartbeats 4000000 in
theorem own_SD40_4 (l : Launch) (Z : State) (a0 : Array Value) (hb0 : zU) (hw : ∀ d ∈ tables_1, d.before a0 Z = true) (u : Addr) (nm : Int32) (xb xl xp nu xt xs : Addr) (fb : Int32 → UInt64) (fl fa ft : Int32 → Int32) (kk nn : Int32) (s0 s1 s2 s3 : Int32) (X X0 : Int32 → Int) (H : zZ fa fl nn (4 : Int32) (0 : Int32) nm) (O : zO (zD fl (0 : Int32) nm) X0 (4 : Int32)) (hx0 : ∀ j, j ≠ nm → X0 j = X j) (hn0 : X nm ≤ X0 nm) (hn4 : ∀ j, zG nn j → zG 4 j) (hbD : ∀ j, zG nn j → zN (fb j) ((X j : Int) : Rat)) (d0 : X (fl (1 : Int32)) < X (fl (2 : Int32))) (d1 : X nm < X (fl (2 : Int32))) :
    zX l Z a0 hb0 (⟨"com/example/tidewise/tidewise/search/UpperBounds", "siftDown", "(II)V"⟩ : MethodName) ok10 4 none [] ({ frames := 1, cells := 0, slots := 0, locals := 14 } : Room) #[(.ref u), (.int 0), (.int nm)] [(u, oc1 (.ref xb) (.ref xl) (.ref xp) (.int kk) (.ref nu) (.int 4)), (xb, zA .double (zK fb)), (xl, zA .int (zE fl)), (xp, zA .int (zE fa)), (nu, oc2 (.int 4) (.ref xt) (.ref xs) (.int nn) .null (.int 0)), (xt, zA .int (zE ft)), (xs, zA .int [.int s0, .int 0, .int 0, .int s2, .int 0, .int 0, .int 0, .int 0, .int 0, .int s1, .int 0, .int 0, .int 0, .int s3, .int 0, .int 0])] (fun r cs' => ∃ fl' fa' : Int32 → Int32, zY fa' fl' nn (4 : Int32) ∧ zO fl' X (4 : Int32) ∧ X (fl' 0) ≤ X0 (zD fl (0 : Int32) nm 0) ∧ (∀ j, fa' j = -1 → j ≠ nm ∧ fa j = -1) ∧ r = none ∧ cs' = [(u, oc1 (.ref xb) (.ref xl) (.ref xp) (.int kk) (.ref nu) (.int 4)), (xb, zA .double (zK fb)), (xl, zA .int (zE fl')), (xp, zA .int (zE fa')), (nu, oc2 (.int 4) (.ref xt) (.ref xs) (.int nn) .null (.int 0)), (xt, zA .int (zE ft)), (xs, zA .int [.int s0, .int 0, .int 0, .int s2, .int 0, .int 0, .int 0, .int 0, .int 0, .int s1, .int 0, .int 0, .int 0, .int s3, .int 0, .int 0])]) := by
  refine zh (L0 := #[oa u, oi 0, oi nm, ou]) (plainFor_of_name zAV) (fun m => zAX m u (0 : Int32) nm) ?_
  intro p e s m below meth c T0 hx hZ hown hby hml hnm H0
  obtain ⟨TSD40_4_1, HSD40_4_1, stSD40_4_1⟩ := zI H0 hx hZ hown (zB hw 64 rfl) 0 5 rfl rfl (g := (mkF m 8 #[oa u, oi 0, oi nm, oi 1] [(.ref u), (.int 1)])) rfl rfl (hb hby d11_8)
  obtain ⟨TSD40_4_2, HSD40_4_2, stSD40_4_2⟩ := zI HSD40_4_1 hx hZ hown (zB hw 64 rfl) 0 5 rfl rfl (g := (mkF m 18 #[oa u, oi 0, oi nm, oi 1] [(.ref u), (.int 2)])) rfl rfl (hb hby d11_18)
  obtain ⟨TSD40_4_3, HSD40_4_3, stSD40_4_3⟩ := zI HSD40_4_2 hx hZ hown (zB hw 10 rfl) 0 0 rfl rfl (g := (mkF m 25 #[oa u, oi 0, oi nm, oi 1] [(.ref u)])) rfl rfl (hb hby d11_25)
  obtain ⟨TSD40_4_4, HSD40_4_4, stSD40_4_4⟩ := zI HSD40_4_3 hx hZ hown (zB hw 13 rfl) 0 1 rfl rfl (g := (mkF m 29 #[oa u, oi 0, oi nm, oi 1] [(.ref u), (.ref xb)])) rfl rfl (hb hby d11_29)
  obtain ⟨w0, hw0⟩ : ∃ z, fl (2 : Int32) = z := ⟨_, rfl⟩
  have ew0 : w0 = fl (2 : Int32) := by rw [← hw0]
  have mw0 : zG nn w0 := by rw [ew0]; exact (H.p1 (2 : Int32) ⟨by decide, by decide⟩ (by decide)).1
  have iw0 := hn4 _ mw0
  obtain ⟨w1, hw1⟩ : ∃ z, fb w0 = z := ⟨_, rfl⟩
  have vw1 : zN w1 ((X w0 : Int) : Rat) := by rw [← hw1]; exact hbD _ mw0
  obtain ⟨TSD40_4_7, HSD40_4_7, stSD40_4_7⟩ := zI HSD40_4_4 hx hZ hown (zB hw 10 rfl) 0 0 rfl rfl (g := (mkF m 38 #[oa u, oi 0, oi nm, oi 1] [(.ref u), (.double w1)])) rfl rfl (hb hby d11_38)
  obtain ⟨TSD40_4_8, HSD40_4_8, stSD40_4_8⟩ := zI HSD40_4_7 hx hZ hown (zB hw 13 rfl) 0 1 rfl rfl (g := (mkF m 42 #[oa u, oi 0, oi nm, oi 1] [(.ref u), (.ref xb), (.double w1)])) rfl rfl (hb hby d11_42)
  obtain ⟨w2, hw2⟩ : ∃ z, fl (1 : Int32) = z := ⟨_, rfl⟩
  have ew2 : w2 = fl (1 : Int32) := by rw [← hw2]
  have mw2 : zG nn w2 := by rw [ew2]; exact (H.p1 (1 : Int32) ⟨by decide, by decide⟩ (by decide)).1
  have iw2 := hn4 _ mw2
  obtain ⟨w3, hw3⟩ : ∃ z, fb w2 = z := ⟨_, rfl⟩
  have vw3 : zN w3 ((X w2 : Int) : Rat) := by rw [← hw3]; exact hbD _ mw2
  obtain ⟨v48, hv48⟩ : ∃ z : Int32, (cmpValue (FP.dcmp w1 w3) .l) = z := ⟨_, rfl⟩
  obtain ⟨TSD40_4_11, HSD40_4_11, stSD40_4_11⟩ := zI HSD40_4_8 hx hZ hown (zB hw 10 rfl) 0 0 rfl rfl (g := (mkF m 56 #[oa u, oi 0, oi nm, oi 2] [(.ref u)])) rfl rfl (hb hby d11_56)
  obtain ⟨TSD40_4_12, HSD40_4_12, stSD40_4_12⟩ := zI HSD40_4_11 hx hZ hown (zB hw 13 rfl) 0 1 rfl rfl (g := (mkF m 60 #[oa u, oi 0, oi nm, oi 2] [(.ref u), (.ref xb)])) rfl rfl (hb hby d11_60)
  obtain ⟨w4, hw4⟩ : ∃ z, fl (2 : Int32) = z := ⟨_, rfl⟩
  have ew4 : w4 = fl (2 : Int32) := by rw [← hw4]
  have mw4 : zG nn w4 := by rw [ew4]; exact (H.p1 (2 : Int32) ⟨by decide, by decide⟩ (by decide)).1
  have iw4 := hn4 _ mw4
  obtain ⟨w5, hw5⟩ : ∃ z, fb w4 = z := ⟨_, rfl⟩
  have vw5 : zN w5 ((X w4 : Int) : Rat) := by rw [← hw5]; exact hbD _ mw4
  obtain ⟨TSD40_4_15, HSD40_4_15, stSD40_4_15⟩ := zI HSD40_4_12 hx hZ hown (zB hw 10 rfl) 0 0 rfl rfl (g := (mkF m 67 #[oa u, oi 0, oi nm, oi 2] [(.ref u), (.double w5)])) rfl rfl (hb hby d11_67)
  obtain ⟨w6, hw6⟩ : ∃ z, fb nm = z := ⟨_, rfl⟩
  have vw6 : zN w6 ((X nm : Int) : Rat) := by rw [← hw6]; exact hbD _ H.p2
  obtain ⟨v72, hv72⟩ : ∃ z : Int32, (cmpValue (FP.dcmp w5 w6) .g) = z := ⟨_, rfl⟩
  obtain ⟨TSD40_4_17, HSD40_4_17, stSD40_4_17⟩ := zI HSD40_4_15 hx hZ hown (zB hw 13 rfl) 0 1 rfl rfl (g := (mkF m 82 #[oa u, oi 0, oi nm, oi 2] [(.ref u), (.int 0), (.ref u)])) rfl rfl (hb hby d11_82)
  obtain ⟨w7, hw7⟩ : ∃ z, fl (2 : Int32) = z := ⟨_, rfl⟩
  have ew7 : w7 = fl (2 : Int32) := by rw [← hw7]
  have mw7 : zG nn w7 := by rw [ew7]; exact (H.p1 (2 : Int32) ⟨by decide, by decide⟩ (by decide)).1
  have iw7 := hn4 _ mw7
  obtain ⟨TSD40_4_19, vSD40_4_19_, csSD40_4_19_, qSD40_4_19, HSD40_4_19, stSD40_4_19⟩ := zo HSD40_4_17 hx hZ hown (zB hw 70 rfl) (zB hw 71 rfl) (zB hw 72 rfl) (zB hw 1 rfl) (zB hw 2 rfl) (zB hw 73 rfl) (by decide) (x := u) 0 rfl (argsL := [(.int 0), (.int w7)]) (rest := []) (W := 0) (zu l Z a0 hb0 hw u (0 : Int32) w7 xb xl xp nu xt xs fb fl fa ft kk (4 : Int32) nn s0 s1 s2 s3 ⟨by decide, by decide⟩ iw7) (by decide) (by decide) (by decide) (by decide) (g := (mkF m 87 #[oa u, oi 0, oi nm, oi 2] [(.int w7), (.int 0), (.ref u)])) rfl (by rw [hml]; rfl) (lenOf zq rfl) rfl (by show 2 * 0 + _ ≤ _; exact Nat.le_of_eq rfl) (hb hby d11_87)
  obtain ⟨rfl, rfl⟩ := qSD40_4_19
  obtain ⟨TSD40_4_20, HSD40_4_20, stSD40_4_20⟩ := zI HSD40_4_19 hx hZ hown (zB hw 64 rfl) 0 5 rfl rfl (g := (mkF m 8 #[oa u, oi 2, oi nm, oi 5] [(.ref u), (.int 5)])) rfl rfl (hb hby d11_8)
  obtain ⟨TSD40_4_21, vSD40_4_21_, csSD40_4_21_, qSD40_4_21, HSD40_4_21, stSD40_4_21⟩ := zo HSD40_4_20 hx hZ hown (zB hw 70 rfl) (zB hw 71 rfl) (zB hw 72 rfl) (zB hw 1 rfl) (zB hw 2 rfl) (zB hw 73 rfl) (by decide) (x := u) 0 rfl (argsL := [(.int 2), (.int nm)]) (rest := []) (W := 0) (zu l Z a0 hb0 hw u (2 : Int32) nm xb xl xp nu xt xs fb (zD fl (0 : Int32) w7) (zD fa w7 (0 : Int32)) ft kk (4 : Int32) nn s0 s1 s2 s3 ⟨by decide, by decide⟩ (hn4 _ H.p2)) (by decide) (by decide) (by decide) (by decide) (g := (mkF m 104 #[oa u, oi 2, oi nm, oi 5] [(.int nm), (.int 2), (.ref u)])) rfl (by rw [hml]; rfl) (lenOf zq rfl) rfl (by show 2 * 0 + _ ≤ _; exact Nat.le_of_eq rfl) (hb hby d11_104)
  obtain ⟨rfl, rfl⟩ := qSD40_4_21
  have d0' := d0
  rw [← ew0, ← ew2] at d0'
  have hb49_0 : ifCond.holds .le v48 = false := by
    rw [← hv48, zBI vw1 vw3]
    exact decide_eq_false (Rat.not_le.mpr (zAP d0'))
  have d1' := d1
  rw [← ew4] at d1'
  have hb73_0 : ifCond.holds .gt v72 = true := by
    rw [← hv72, zAc vw5 vw6]
    exact decide_eq_true (zAP d1')
  have q := own_sd40_4 H O hx0 hn0 d0 d1
  rw [← ew7] at q
  refine ⟨_, _, _, _, 107, #[oa u, oi 2, oi nm, oi 5], HSD40_4_21, by decide, by decide, Or.inl ⟨rfl, ⟨_, _, q.1, q.2.1, q.2.2.1, q.2.2.2, rfl, rfl⟩, d11_107, fun target q => ?_⟩⟩
  refine zC H0 hx hZ hown hby hw zL (zAo u nm) _ ?_
  refine stSD40_4_1 _ ?_
  refine zC HSD40_4_1 hx hZ hown hby hw zL (zCR u nm) _ ?_
  refine stSD40_4_2 _ ?_
  refine zC HSD40_4_2 hx hZ hown hby hw zL (zCS u nm) _ ?_
  refine stSD40_4_3 _ ?_
  refine zC HSD40_4_3 hx hZ hown hby hw zL (zBP u nm xb) _ ?_
  refine stSD40_4_4 _ ?_
  refine zC HSD40_4_4 hx hZ hown hby hw zL (zBQ u nm xl xb) _ ?_
  refine zf HSD40_4_4 hx hZ 2 rfl ⟨by decide, by decide⟩ hw0 (g := (mkF m 35 #[oa u, oi 0, oi nm, oi 1] [(.int 2), (.ref xl), (.ref xb)])) rfl rfl (hb hby d11_35) _ ?_
  refine zd HSD40_4_4 hx hZ 1 rfl iw0 hw1 (g := (mkF m 36 #[oa u, oi 0, oi nm, oi 1] [(.int w0), (.ref xb)])) rfl rfl (hb hby d11_36) _ ?_
  refine zC HSD40_4_4 hx hZ hown hby hw zL (zBR u nm w1) _ ?_
  refine stSD40_4_7 _ ?_
  refine zC HSD40_4_7 hx hZ hown hby hw zL (zBS u nm xb w1) _ ?_
  refine stSD40_4_8 _ ?_
  refine zC HSD40_4_8 hx hZ hown hby hw zL (zBT u nm xl xb w1) _ ?_
  refine zf HSD40_4_8 hx hZ 2 rfl ⟨by decide, by decide⟩ hw2 (g := (mkF m 46 #[oa u, oi 0, oi nm, oi 1] [(.int 1), (.ref xl), (.ref xb), (.double w1)])) rfl rfl (hb hby d11_46) _ ?_
  refine zd HSD40_4_8 hx hZ 1 rfl iw2 hw3 (g := (mkF m 47 #[oa u, oi 0, oi nm, oi 1] [(.int w2), (.ref xb), (.double w1)])) rfl rfl (hb hby d11_47) _ ?_
  refine zC HSD40_4_8 hx hZ hown hby hw zL (zCx u nm w3 w1 v48 hv48 hb49_0) _ ?_
  refine stSD40_4_11 _ ?_
  refine zC HSD40_4_11 hx hZ hown hby hw zL (zCy u nm xb) _ ?_
  refine stSD40_4_12 _ ?_
  refine zC HSD40_4_12 hx hZ hown hby hw zL (zCz u nm xl xb) _ ?_
  refine zf HSD40_4_12 hx hZ 2 rfl ⟨by decide, by decide⟩ hw4 (g := (mkF m 64 #[oa u, oi 0, oi nm, oi 2] [(.int 2), (.ref xl), (.ref xb)])) rfl rfl (hb hby d11_64) _ ?_
  refine zd HSD40_4_12 hx hZ 1 rfl iw4 hw5 (g := (mkF m 65 #[oa u, oi 0, oi nm, oi 2] [(.int w4), (.ref xb)])) rfl rfl (hb hby d11_65) _ ?_
  refine zC HSD40_4_12 hx hZ hown hby hw zL (zDA u nm w5) _ ?_
  refine stSD40_4_15 _ ?_
  refine zC HSD40_4_15 hx hZ hown hby hw zL (zDB u nm xb w5) _ ?_
  refine zd HSD40_4_15 hx hZ 1 rfl (hn4 _ H.p2) hw6 (g := (mkF m 71 #[oa u, oi 0, oi nm, oi 2] [(.int nm), (.ref xb), (.double w5)])) rfl rfl (hb hby d11_71) _ ?_
  refine zC HSD40_4_15 hx hZ hown hby hw zL (own_SD30_3_13 u nm w6 w5 v72 hv72 hb73_0) _ ?_
  refine stSD40_4_17 _ ?_
  refine zC HSD40_4_17 hx hZ hown hby hw zL (own_SD30_3_14 u nm xl) _ ?_
  refine zf HSD40_4_17 hx hZ 2 rfl ⟨by decide, by decide⟩ hw7 (g := (mkF m 86 #[oa u, oi 0, oi nm, oi 2] [(.int 2), (.ref xl), (.int 0), (.ref u)])) rfl rfl (hb hby d11_86) _ ?_
  refine stSD40_4_19 _ ?_
  refine zC HSD40_4_19 hx hZ hown hby hw zL (own_SD30_3_15 u nm) _ ?_
  refine stSD40_4_20 _ ?_
  refine zC HSD40_4_20 hx hZ hown hby hw zL (own_SD40_4_16 u nm) _ ?_
  refine stSD40_4_21 _ ?_
  exact q
theorem own_SD40 (l : Launch) (Z : State) (a0 : Array Value) (hb0 : zU) (hw : ∀ d ∈ tables_1, d.before a0 Z = true) (u : Addr) (nm : Int32) (xb xl xp nu xt xs : Addr) (fb : Int32 → UInt64) (fl fa ft : Int32 → Int32) (kk nn : Int32) (s0 s1 s2 s3 : Int32) (X X0 : Int32 → Int) (H : zZ fa fl nn (4 : Int32) (0 : Int32) nm) (O : zO (zD fl (0 : Int32) nm) X0 (4 : Int32)) (hx0 : ∀ j, j ≠ nm → X0 j = X j) (hn0 : X nm ≤ X0 nm) (hn4 : ∀ j, zG nn j → zG 4 j) (hbD : ∀ j, zG nn j → zN (fb j) ((X j : Int) : Rat)) :
    zX l Z a0 hb0 (⟨"com/example/tidewise/tidewise/search/UpperBounds", "siftDown", "(II)V"⟩ : MethodName) ok10 4 none [] ({ frames := 1, cells := 0, slots := 0, locals := 14 } : Room) #[(.ref u), (.int 0), (.int nm)] [(u, oc1 (.ref xb) (.ref xl) (.ref xp) (.int kk) (.ref nu) (.int 4)), (xb, zA .double (zK fb)), (xl, zA .int (zE fl)), (xp, zA .int (zE fa)), (nu, oc2 (.int 4) (.ref xt) (.ref xs) (.int nn) .null (.int 0)), (xt, zA .int (zE ft)), (xs, zA .int [.int s0, .int 0, .int 0, .int s2, .int 0, .int 0, .int 0, .int 0, .int 0, .int s1, .int 0, .int 0, .int 0, .int s3, .int 0, .int 0])] (fun r cs' => ∃ fl' fa' : Int32 → Int32, zY fa' fl' nn (4 : Int32) ∧ zO fl' X (4 : Int32) ∧ X (fl' 0) ≤ X0 (zD fl (0 : Int32) nm 0) ∧ (∀ j, fa' j = -1 → j ≠ nm ∧ fa j = -1) ∧ r = none ∧ cs' = [(u, oc1 (.ref xb) (.ref xl) (.ref xp) (.int kk) (.ref nu) (.int 4)), (xb, zA .double (zK fb)), (xl, zA .int (zE fl')), (xp, zA .int (zE fa')), (nu, oc2 (.int 4) (.ref xt) (.ref xs) (.int nn) .null (.int 0)), (xt, zA .int (zE ft)), (xs, zA .int [.int s0, .int 0, .int 0, .int s2, .int 0, .int 0, .int 0, .int 0, .int 0, .int s1, .int 0, .int 0, .int 0, .int s3, .int 0, .int 0])]) := by
  rcases Int.lt_or_le (X (fl (1 : Int32))) (X (fl (2 : Int32))) with c0 | c0
  · skip
    rcases Int.lt_or_le (X nm) (X (fl (2 : Int32))) with c1 | c1
    · skip
      exact own_SD40_4 l Z a0 hb0 hw u nm xb xl xp nu xt xs fb fl fa ft kk nn s0 s1 s2 s3 X X0 H O hx0 hn0 hn4 hbD c0 c1
    · skip
      exact own_SD40_3 l Z a0 hb0 hw u nm xb xl xp nu xt xs fb fl fa ft kk nn s0 s1 s2 s3 X X0 H O hx0 hn0 hn4 hbD c0 c1
  · skip
    rcases Int.lt_or_le (X nm) (X (fl (1 : Int32))) with c1 | c1
    · skip
      rcases Int.lt_or_le (X nm) (X (fl (3 : Int32))) with c2 | c2
      · skip
        exact own_SD40_2 l Z a0 hb0 hw u nm xb xl xp nu xt xs fb fl fa ft kk nn s0 s1 s2 s3 X X0 H O hx0 hn0 hn4 hbD c0 c1 c2
      · skip
        exact own_SD40_1 l Z a0 hb0 hw u nm xb xl xp nu xt xs fb fl fa ft kk nn s0 s1 s2 s3 X X0 H O hx0 hn0 hn4 hbD c0 c1 c2
    · skip
      exact own_SD40_0 l Z a0 hb0 hw u nm xb xl xp nu xt xs fb fl fa ft kk nn s0 s1 s2 s3 X X0 H O hx0 hn0 hn4 hbD c0 c1
theorem own_SD41_0_5 (u : Addr) (nm : Int32) (w1 : UInt64) :
    zF zk ok10 66 #[oa u, oi 1, oi nm, oi 3] [(.double w1)] 67 #[oa u, oi 1, oi nm, oi 3] [(.ref u), (.double w1)] := by
  refine zJ (pc2 := 67) d11_66 rfl rfl rfl ?_
  exact zH
theorem own_SD41_0_6 (u : Addr) (nm : Int32) (xb : Addr) (w1 : UInt64) :
    zF zk ok10 70 #[oa u, oi 1, oi nm, oi 3] [(.ref xb), (.double w1)] 71 #[oa u, oi 1, oi nm, oi 3] [(.int nm), (.ref xb), (.double w1)] := by
  refine zM (pc2 := 71) d11_70 rfl rfl ?_
  exact zH
theorem own_SD41_0_7 (u : Addr) (nm : Int32) (w2 : UInt64) (w1 : UInt64) (v72 : Int32) (hv72 : (cmpValue (FP.dcmp w1 w2) .g) = v72) (hb73_0 : ifCond.holds .gt v72 = false) :
    zF zk ok10 72 #[oa u, oi 1, oi nm, oi 3] [(.double w2), (.double w1)] 104 #[oa u, oi 1, oi nm, oi 3] [(.int nm), (.int 1), (.ref u)] := by
  refine zAD (pc2 := 73) d11_72 rfl (v := v72) hv72 ?_
  refine zy (pc2 := 76) d11_73 rfl hb73_0 ?_
  refine zAN (pc' := 101) d11_76 (by decide) (by decide) ?_
  refine zJ (pc2 := 102) d11_101 rfl rfl rfl ?_
  refine zM (pc2 := 103) d11_102 rfl rfl ?_
  refine zM (pc2 := 104) d11_103 rfl rfl ?_
  exact zH
set_option maxRecDepth 65536 in
set_option maxHeartbeats 4000000 in
theorem own_SD41_0 (l : Launch) (Z : State) (a0 : Array Value) (hb0 : zU) (hw : ∀ d ∈ tables_1, d.before a0 Z = true) (u : Addr) (nm : Int32) (xb xl xp nu xt xs : Addr) (fb : Int32 → UInt64) (fl fa ft : Int32 → Int32) (kk nn : Int32) (s0 s1 s2 s3 : Int32) (X X0 : Int32 → Int) (H : zZ fa fl nn (4 : Int32) (1 : Int32) nm) (O : zO (zD fl (1 : Int32) nm) X0 (4 : Int32)) (hx0 : ∀ j, j ≠ nm → X0 j = X j) (hn0 : X nm ≤ X0 nm) (hn4 : ∀ j, zG nn j → zG 4 j) (hbD : ∀ j, zG nn j → zN (fb j) ((X j : Int) : Rat)) (d0 : X (fl (3 : Int32)) ≤ X nm) :
    zX l Z a0 hb0 (⟨"com/example/tidewise/tidewise/search/UpperBounds", "siftDown", "(II)V"⟩ : MethodName) ok10 4 none [] ({ frames := 1, cells := 0, slots := 0, locals := 14 } : Room) #[(.ref u), (.int 1), (.int nm)] [(u, oc1 (.ref xb) (.ref xl) (.ref xp) (.int kk) (.ref nu) (.int 4)), (xb, zA .double (zK fb)), (xl, zA .int (zE fl)), (xp, zA .int (zE fa)), (nu, oc2 (.int 4) (.ref xt) (.ref xs) (.int nn) .null (.int 0)), (xt, zA .int (zE ft)), (xs, zA .int [.int s0, .int 0, .int 0, .int s2, .int 0, .int 0, .int 0, .int 0, .int 0, .int s1, .int 0, .int 0, .int 0, .int s3, .int 0, .int 0])] (fun r cs' => ∃ fl' fa' : Int32 → Int32, zY fa' fl' nn (4 : Int32) ∧ zO fl' X (4 : Int32) ∧ X (fl' 0) ≤ X0 (zD fl (1 : Int32) nm 0) ∧ (∀ j, fa' j = -1 → j ≠ nm ∧ fa j = -1) ∧ r = none ∧ cs' = [(u, oc1 (.ref xb) (.ref xl) (.ref xp) (.int kk) (.ref nu) (.int 4)), (xb, zA .double (zK fb)), (xl, zA .int (zE fl')), (xp, zA .int (zE fa')), (nu, oc2 (.int 4) (.ref xt) (.ref xs) (.int nn) .null (.int 0)), (xt, zA .int (zE ft)), (xs, zA .int [.int s0, .int 0, .int 0, .int s2, .int 0, .int 0, .int 0, .int 0, .int 0, .int s1, .int 0, .int 0, .int 0, .int s3, .int 0, .int 0])]) := by
  refine zh (L0 := #[oa u, oi 1, oi nm, ou]) (plainFor_of_name zAV) (fun m => zAX m u (1 : Int32) nm) ?_
  intro p e s m below meth c T0 hx hZ hown hby hml hnm H0
  obtain ⟨TSD41_0_1, HSD41_0_1, stSD41_0_1⟩ := zI H0 hx hZ hown (zB hw 64 rfl) 0 5 rfl rfl (g := (mkF m 8 #[oa u, oi 1, oi nm, oi 3] [(.ref u), (.int 3)])) rfl rfl (hb hby d11_8)
  obtain ⟨TSD41_0_2, HSD41_0_2, stSD41_0_2⟩ := zI HSD41_0_1 hx hZ hown (zB hw 64 rfl) 0 5 rfl rfl (g := (mkF m 18 #[oa u, oi 1, oi nm, oi 3] [(.ref u), (.int 4)])) rfl rfl (hb hby d11_18)
  obtain ⟨TSD41_0_3, HSD41_0_3, stSD41_0_3⟩ := zI HSD41_0_2 hx hZ hown (zB hw 10 rfl) 0 0 rfl rfl (g := (mkF m 56 #[oa u, oi 1, oi nm, oi 3] [(.ref u)])) rfl rfl (hb hby d11_56)
  obtain ⟨TSD41_0_4, HSD41_0_4, stSD41_0_4⟩ := zI HSD41_0_3 hx hZ hown (zB hw 13 rfl) 0 1 rfl rfl (g := (mkF m 60 #[oa u, oi 1, oi nm, oi 3] [(.ref u), (.ref xb)])) rfl rfl (hb hby d11_60)
  obtain ⟨w0, hw0⟩ : ∃ z, fl (3 : Int32) = z := ⟨_, rfl⟩
  have ew0 : w0 = fl (3 : Int32) := by rw [← hw0]
  have mw0 : zG nn w0 := by rw [ew0]; exact (H.p1 (3 : Int32) ⟨by decide, by decide⟩ (by decide)).1
  have iw0 := hn4 _ mw0
  obtain ⟨w1, hw1⟩ : ∃ z, fb w0 = z := ⟨_, rfl⟩
  have vw1 : zN w1 ((X w0 : Int) : Rat) := by rw [← hw1]; exact hbD _ mw0
  obtain ⟨TSD41_0_7, HSD41_0_7, stSD41_0_7⟩ := zI HSD41_0_4 hx hZ hown (zB hw 10 rfl) 0 0 rfl rfl (g := (mkF m 67 #[oa u, oi 1, oi nm, oi 3] [(.ref u), (.double w1)])) rfl rfl (hb hby d11_67)
  obtain ⟨w2, hw2⟩ : ∃ z, fb nm = z := ⟨_, rfl⟩
  have vw2 : zN w2 ((X nm : Int) : Rat) := by rw [← hw2]; exact hbD _ H.p2
  obtain ⟨v72, hv72⟩ : ∃ z : Int32, (cmpValue (FP.dcmp w1 w2) .g) = z := ⟨_, rfl⟩
  obtain ⟨TSD41_0_9, vSD41_0_9_, csSD41_0_9_, qSD41_0_9, HSD41_0_9, stSD41_0_9⟩ := zo HSD41_0_7 hx hZ hown (zB hw 70 rfl) (zB hw 71 rfl) (zB hw 72 rfl) (zB hw 1 rfl) (zB hw 2 rfl) (zB hw 73 rfl) (by decide) (x := u) 0 rfl (argsL := [(.int 1), (.int nm)]) (rest := []) (W := 0) (zu l Z a0 hb0 hw u (1 : Int32) nm xb xl xp nu xt xs fb fl fa ft kk (4 : Int32) nn s0 s1 s2 s3 ⟨by decide, by decide⟩ (hn4 _ H.p2)) (by decide) (by decide) (by decide) (by decide) (g := (mkF m 104 #[oa u, oi 1, oi nm, oi 3] [(.int nm), (.int 1), (.ref u)])) rfl (by rw [hml]; rfl) (lenOf zq rfl) rfl (by show 2 * 0 + _ ≤ _; exact Nat.le_of_eq rfl) (hb hby d11_104)
  obtain ⟨rfl, rfl⟩ := qSD41_0_9
  have d0' := d0
  rw [← ew0] at d0'
  have hb73_0 : ifCond.holds .gt v72 = false := by
    rw [← hv72, zAc vw1 vw2]
    exact decide_eq_false (Rat.not_lt.mpr (zAS d0'))
  have q := own_sd41_0 H O hx0 hn0 d0
  refine ⟨_, _, _, _, 107, #[oa u, oi 1, oi nm, oi 3], HSD41_0_9, by decide, by decide, Or.inl ⟨rfl, ⟨_, _, q.1, q.2.1, q.2.2.1, q.2.2.2, rfl, rfl⟩, d11_107, fun target q => ?_⟩⟩
  refine zC H0 hx hZ hown hby hw zL (zCu u nm) _ ?_
  refine stSD41_0_1 _ ?_
  refine zC HSD41_0_1 hx hZ hown hby hw zL (zDC u nm) _ ?_
  refine stSD41_0_2 _ ?_
  refine zC HSD41_0_2 hx hZ hown hby hw zL (zDD u nm) _ ?_
  refine stSD41_0_3 _ ?_
  refine zC HSD41_0_3 hx hZ hown hby hw zL (zDE u nm xb) _ ?_
  refine stSD41_0_4 _ ?_
  refine zC HSD41_0_4 hx hZ hown hby hw zL (zDF u nm xl xb) _ ?_
  refine zf HSD41_0_4 hx hZ 2 rfl ⟨by decide, by decide⟩ hw0 (g := (mkF m 64 #[oa u, oi 1, oi nm, oi 3] [(.int 3), (.ref xl), (.ref xb)])) rfl rfl (hb hby d11_64) _ ?_
  refine zd HSD41_0_4 hx hZ 1 rfl iw0 hw1 (g := (mkF m 65 #[oa u, oi 1, oi nm, oi 3] [(.int w0), (.ref xb)])) rfl rfl (hb hby d11_65) _ ?_
  refine zC HSD41_0_4 hx hZ hown hby hw zL (own_SD41_0_5 u nm w1) _ ?_
  refine stSD41_0_7 _ ?_
  refine zC HSD41_0_7 hx hZ hown hby hw zL (own_SD41_0_6 u nm xb w1) _ ?_
  refine zd HSD41_0_7 hx hZ 1 rfl (hn4 _ H.p2) hw2 (g := (mkF m 71 #[oa u, oi 1, oi nm, oi 3] [(.int nm), (.ref xb), (.double w1)])) rfl rfl (hb hby d11_71) _ ?_
  refine zC HSD41_0_7 hx hZ hown hby hw zL (own_SD41_0_7 u nm w2 w1 v72 hv72 hb73_0) _ ?_
  refine stSD41_0_9 _ ?_
  exact q
theorem own_SD41_1_7 (u : Addr) (nm : Int32) (w2 : UInt64) (w1 : UInt64) (v72 : Int32) (hv72 : (cmpValue (FP.dcmp w1 w2) .g) = v72) (hb73_0 : ifCond.holds .gt v72 = true) :
    zF zk ok10 72 #[oa u, oi 1, oi nm, oi 3] [(.double w2), (.double w1)] 82 #[oa u, oi 1, oi nm, oi 3] [(.ref u), (.int 1), (.ref u)] := by
  refine zAD (pc2 := 73) d11_72 rfl (v := v72) hv72 ?_
  refine zx (pc' := 79) d11_73 hb73_0 (by decide) (by decide) ?_
  refine zJ (pc2 := 80) d11_79 rfl rfl rfl ?_
  refine zM (pc2 := 81) d11_80 rfl rfl ?_
  refine zJ (pc2 := 82) d11_81 rfl rfl rfl ?_
  exact zH
set_option maxRecDepth 65536 in
set_option maxHeartbeats 4000000 in
theorem own_SD41_1 (l : Launch) (Z : State) (a0 : Array Value) (hb0 : zU) (hw : ∀ d ∈ tables_1, d.before a0 Z = true) (u : Addr) (nm : Int32) (xb xl xp nu xt xs : Addr) (fb : Int32 → UInt64) (fl fa ft : Int32 → Int32) (kk nn : Int32) (s0 s1 s2 s3 : Int32) (X X0 : Int32 → Int) (H : zZ fa fl nn (4 : Int32) (1 : Int32) nm) (O : zO (zD fl (1 : Int32) nm) X0 (4 : Int32)) (hx0 : ∀ j, j ≠ nm → X0 j = X j) (hn0 : X nm ≤ X0 nm) (hn4 : ∀ j, zG nn j → zG 4 j) (hbD : ∀ j, zG nn j → zN (fb j) ((X j : Int) : Rat)) (d0 : X nm < X (fl (3 : Int32))) :
    zX l Z a0 hb0 (⟨"com/example/tidewise/tidewise/search/UpperBounds", "siftDown", "(II)V"⟩ : MethodName) ok10 4 none [] ({ frames := 1, cells := 0, slots := 0, locals := 14 } : Room) #[(.ref u), (.int 1), (.int nm)] [(u, oc1 (.ref xb) (.ref xl) (.ref xp) (.int kk) (.ref nu) (.int 4)), (xb, zA .double (zK fb)), (xl, zA .int (zE fl)), (xp, zA .int (zE fa)), (nu, oc2 (.int 4) (.ref xt) (.ref xs) (.int nn) .null (.int 0)), (xt, zA .int (zE ft)), (xs, zA .int [.int s0, .int 0, .int 0, .int s2, .int 0, .int 0, .int 0, .int 0, .int 0, .int s1, .int 0, .int 0, .int 0, .int s3, .int 0, .int 0])] (fun r cs' => ∃ fl' fa' : Int32 → Int32, zY fa' fl' nn (4 : Int32) ∧ zO fl' X (4 : Int32) ∧ X (fl' 0) ≤ X0 (zD fl (1 : Int32) nm 0) ∧ (∀ j, fa' j = -1 → j ≠ nm ∧ fa j = -1) ∧ r = none ∧ cs' = [(u, oc1 (.ref xb) (.ref xl) (.ref xp) (.int kk) (.ref nu) (.int 4)), (xb, zA .double (zK fb)), (xl, zA .int (zE fl')), (xp, zA .int (zE fa')), (nu, oc2 (.int 4) (.ref xt) (.ref xs) (.int nn) .null (.int 0)), (xt, zA .int (zE ft)), (xs, zA .int [.int s0, .int 0, .int 0, .int s2, .int 0, .int 0, .int 0, .int 0, .int 0, .int s1, .int 0, .int 0, .int 0, .int s3, .int 0, .int 0])]) := by
  refine zh (L0 := #[oa u, oi 1, oi nm, ou]) (plainFor_of_name zAV) (fun m => zAX m u (1 : Int32) nm) ?_
  intro p e s m below meth c T0 hx hZ hown hby hml hnm H0
  obtain ⟨TSD41_1_1, HSD41_1_1, stSD41_1_1⟩ := zI H0 hx hZ hown (zB hw 64 rfl) 0 5 rfl rfl (g := (mkF m 8 #[oa u, oi 1, oi nm, oi 3] [(.ref u), (.int 3)])) rfl rfl (hb hby d11_8)
  obtain ⟨TSD41_1_2, HSD41_1_2, stSD41_1_2⟩ := zI HSD41_1_1 hx hZ hown (zB hw 64 rfl) 0 5 rfl rfl (g := (mkF m 18 #[oa u, oi 1, oi nm, oi 3] [(.ref u), (.int 4)])) rfl rfl (hb hby d11_18)
  obtain ⟨TSD41_1_3, HSD41_1_3, stSD41_1_3⟩ := zI HSD41_1_2 hx hZ hown (zB hw 10 rfl) 0 0 rfl rfl (g := (mkF m 56 #[oa u, oi 1, oi nm, oi 3] [(.ref u)])) rfl rfl (hb hby d11_56)
  obtain ⟨TSD41_1_4, HSD41_1_4, stSD41_1_4⟩ := zI HSD41_1_3 hx hZ hown (zB hw 13 rfl) 0 1 rfl rfl (g := (mkF m 60 #[oa u, oi 1, oi nm, oi 3] [(.ref u), (.ref xb)])) rfl rfl (hb hby d11_60)
  obtain ⟨w0, hw0⟩ : ∃ z, fl (3 : Int32) = z := ⟨_, rfl⟩
  have ew0 : w0 = fl (3 : Int32) := by rw [← hw0]
  have mw0 : zG nn w0 := by rw [ew0]; exact (H.p1 (3 : Int32) ⟨by decide, by decide⟩ (by decide)).1
  have iw0 := hn4 _ mw0
  obtain ⟨w1, hw1⟩ : ∃ z, fb w0 = z := ⟨_, rfl⟩
  have vw1 : zN w1 ((X w0 : Int) : Rat) := by rw [← hw1]; exact hbD _ mw0
  obtain ⟨TSD41_1_7, HSD41_1_7, stSD41_1_7⟩ := zI HSD41_1_4 hx hZ hown (zB hw 10 rfl) 0 0 rfl rfl (g := (mkF m 67 #[oa u, oi 1, oi nm, oi 3] [(.ref u), (.double w1)])) rfl rfl (hb hby d11_67)
  obtain ⟨w2, hw2⟩ : ∃ z, fb nm = z := ⟨_, rfl⟩
  have vw2 : zN w2 ((X nm : Int) : Rat) := by rw [← hw2]; exact hbD _ H.p2
  obtain ⟨v72, hv72⟩ : ∃ z : Int32, (cmpValue (FP.dcmp w1 w2) .g) = z := ⟨_, rfl⟩
  obtain ⟨TSD41_1_9, HSD41_1_9, stSD41_1_9⟩ := zI HSD41_1_7 hx hZ hown (zB hw 13 rfl) 0 1 rfl rfl (g := (mkF m 82 #[oa u, oi 1, oi nm, oi 3] [(.ref u), (.int 1), (.ref u)])) rfl rfl (hb hby d11_82)
  obtain ⟨w3, hw3⟩ : ∃ z, fl (3 : Int32) = z := ⟨_, rfl⟩
  have ew3 : w3 = fl (3 : Int32) := by rw [← hw3]
  have mw3 : zG nn w3 := by rw [ew3]; exact (H.p1 (3 : Int32) ⟨by decide, by decide⟩ (by decide)).1
  have iw3 := hn4 _ mw3
  obtain ⟨TSD41_1_11, vSD41_1_11_, csSD41_1_11_, qSD41_1_11, HSD41_1_11, stSD41_1_11⟩ := zo HSD41_1_9 hx hZ hown (zB hw 70 rfl) (zB hw 71 rfl) (zB hw 72 rfl) (zB hw 1 rfl) (zB hw 2 rfl) (zB hw 73 rfl) (by decide) (x := u) 0 rfl (argsL := [(.int 1), (.int w3)]) (rest := []) (W := 0) (zu l Z a0 hb0 hw u (1 : Int32) w3 xb xl xp nu xt xs fb fl fa ft kk (4 : Int32) nn s0 s1 s2 s3 ⟨by decide, by decide⟩ iw3) (by decide) (by decide) (by decide) (by decide) (g := (mkF m 87 #[oa u, oi 1, oi nm, oi 3] [(.int w3), (.int 1), (.ref u)])) rfl (by rw [hml]; rfl) (lenOf zq rfl) rfl (by show 2 * 0 + _ ≤ _; exact Nat.le_of_eq rfl) (hb hby d11_87)
  obtain ⟨rfl, rfl⟩ := qSD41_1_11
  obtain ⟨TSD41_1_12, HSD41_1_12, stSD41_1_12⟩ := zI HSD41_1_11 hx hZ hown (zB hw 64 rfl) 0 5 rfl rfl (g := (mkF m 8 #[oa u, oi 3, oi nm, oi 7] [(.ref u), (.int 7)])) rfl rfl (hb hby d11_8)
  obtain ⟨TSD41_1_13, vSD41_1_13_, csSD41_1_13_, qSD41_1_13, HSD41_1_13, stSD41_1_13⟩ := zo HSD41_1_12 hx hZ hown (zB hw 70 rfl) (zB hw 71 rfl) (zB hw 72 rfl) (zB hw 1 rfl) (zB hw 2 rfl) (zB hw 73 rfl) (by decide) (x := u) 0 rfl (argsL := [(.int 3), (.int nm)]) (rest := []) (W := 0) (zu l Z a0 hb0 hw u (3 : Int32) nm xb xl xp nu xt xs fb (zD fl (1 : Int32) w3) (zD fa w3 (1 : Int32)) ft kk (4 : Int32) nn s0 s1 s2 s3 ⟨by decide, by decide⟩ (hn4 _ H.p2)) (by decide) (by decide) (by decide) (by decide) (g := (mkF m 104 #[oa u, oi 3, oi nm, oi 7] [(.int nm), (.int 3), (.ref u)])) rfl (by rw [hml]; rfl) (lenOf zq rfl) rfl (by show 2 * 0 + _ ≤ _; exact Nat.le_of_eq rfl) (hb hby d11_104)
  obtain ⟨rfl, rfl⟩ := qSD41_1_13
  have d0' := d0
  rw [← ew0] at d0'
  have hb73_0 : ifCond.holds .gt v72 = true := by
    rw [← hv72, zAc vw1 vw2]
    exact decide_eq_true (zAP d0')
  have q := own_sd41_1 H O hx0 hn0 d0
  rw [← ew3] at q
  refine ⟨_, _, _, _, 107, #[oa u, oi 3, oi nm, oi 7], HSD41_1_13, by decide, by decide, Or.inl ⟨rfl, ⟨_, _, q.1, q.2.1, q.2.2.1, q.2.2.2, rfl, rfl⟩, d11_107, fun target q => ?_⟩⟩
  refine zC H0 hx hZ hown hby hw zL (zCu u nm) _ ?_
  refine stSD41_1_1 _ ?_
  refine zC HSD41_1_1 hx hZ hown hby hw zL (zDC u nm) _ ?_
  refine stSD41_1_2 _ ?_
  refine zC HSD41_1_2 hx hZ hown hby hw zL (zDD u nm) _ ?_
  refine stSD41_1_3 _ ?_
  refine zC HSD41_1_3 hx hZ hown hby hw zL (zDE u nm xb) _ ?_
  refine stSD41_1_4 _ ?_
  refine zC HSD41_1_4 hx hZ hown hby hw zL (zDF u nm xl xb) _ ?_
  refine zf HSD41_1_4 hx hZ 2 rfl ⟨by decide, by decide⟩ hw0 (g := (mkF m 64 #[oa u, oi 1, oi nm, oi 3] [(.int 3), (.ref xl), (.ref xb)])) rfl rfl (hb hby d11_64) _ ?_
  refine zd HSD41_1_4 hx hZ 1 rfl iw0 hw1 (g := (mkF m 65 #[oa u, oi 1, oi nm, oi 3] [(.int w0), (.ref xb)])) rfl rfl (hb hby d11_65) _ ?_
  refine zC HSD41_1_4 hx hZ hown hby hw zL (own_SD41_0_5 u nm w1) _ ?_
  refine stSD41_1_7 _ ?_
  refine zC HSD41_1_7 hx hZ hown hby hw zL (own_SD41_0_6 u nm xb w1) _ ?_
  refine zd HSD41_1_7 hx hZ 1 rfl (hn4 _ H.p2) hw2 (g := (mkF m 71 #[oa u, oi 1, oi nm, oi 3] [(.int nm), (.ref xb), (.double w1)])) rfl rfl (hb hby d11_71) _ ?_
  refine zC HSD41_1_7 hx hZ hown hby hw zL (own_SD41_1_7 u nm w2 w1 v72 hv72 hb73_0) _ ?_
  refine stSD41_1_9 _ ?_
  refine zC HSD41_1_9 hx hZ hown hby hw zL (own_SD40_2_23 u nm xl) _ ?_
  refine zf HSD41_1_9 hx hZ 2 rfl ⟨by decide, by decide⟩ hw3 (g := (mkF m 86 #[oa u, oi 1, oi nm, oi 3] [(.int 3), (.ref xl), (.int 1), (.ref u)])) rfl rfl (hb hby d11_86) _ ?_
  refine stSD41_1_11 _ ?_
  refine zC HSD41_1_11 hx hZ hown hby hw zL (own_SD40_2_24 u nm) _ ?_
  refine stSD41_1_12 _ ?_
  refine zC HSD41_1_12 hx hZ hown hby hw zL (zDb u nm) _ ?_
  refine stSD41_1_13 _ ?_
  exact q
theorem own_SD41 (l : Launch) (Z : State) (a0 : Array Value) (hb0 : zU) (hw : ∀ d ∈ tables_1, d.before a0 Z = true) (u : Addr) (nm : Int32) (xb xl xp nu xt xs : Addr) (fb : Int32 → UInt64) (fl fa ft : Int32 → Int32) (kk nn : Int32) (s0 s1 s2 s3 : Int32) (X X0 : Int32 → Int) (H : zZ fa fl nn (4 : Int32) (1 : Int32) nm) (O : zO (zD fl (1 : Int32) nm) X0 (4 : Int32)) (hx0 : ∀ j, j ≠ nm → X0 j = X j) (hn0 : X nm ≤ X0 nm) (hn4 : ∀ j, zG nn j → zG 4 j) (hbD : ∀ j, zG nn j → zN (fb j) ((X j : Int) : Rat)) :
    zX l Z a0 hb0 (⟨"com/example/tidewise/tidewise/search/UpperBounds", "siftDown", "(II)V"⟩ : MethodName) ok10 4 none [] ({ frames := 1, cells := 0, slots := 0, locals := 14 } : Room) #[(.ref u), (.int 1), (.int nm)] [(u, oc1 (.ref xb) (.ref xl) (.ref xp) (.int kk) (.ref nu) (.int 4)), (xb, zA .double (zK fb)), (xl, zA .int (zE fl)), (xp, zA .int (zE fa)), (nu, oc2 (.int 4) (.ref xt) (.ref xs) (.int nn) .null (.int 0)), (xt, zA .int (zE ft)), (xs, zA .int [.int s0, .int 0, .int 0, .int s2, .int 0, .int 0, .int 0, .int 0, .int 0, .int s1, .int 0, .int 0, .int 0, .int s3, .int 0, .int 0])] (fun r cs' => ∃ fl' fa' : Int32 → Int32, zY fa' fl' nn (4 : Int32) ∧ zO fl' X (4 : Int32) ∧ X (fl' 0) ≤ X0 (zD fl (1 : Int32) nm 0) ∧ (∀ j, fa' j = -1 → j ≠ nm ∧ fa j = -1) ∧ r = none ∧ cs' = [(u, oc1 (.ref xb) (.ref xl) (.ref xp) (.int kk) (.ref nu) (.int 4)), (xb, zA .double (zK fb)), (xl, zA .int (zE fl')), (xp, zA .int (zE fa')), (nu, oc2 (.int 4) (.ref xt) (.ref xs) (.int nn) .null (.int 0)), (xt, zA .int (zE ft)), (xs, zA .int [.int s0, .int 0, .int 0, .int s2, .int 0, .int 0, .int 0, .int 0, .int 0, .int s1, .int 0, .int 0, .int 0, .int s3, .int 0, .int 0])]) := by
  rcases Int.lt_or_le (X nm) (X (fl (3 : Int32))) with c0 | c0
  · skip
    exact own_SD41_1 l Z a0 hb0 hw u nm xb xl xp nu xt xs fb fl fa ft kk nn s0 s1 s2 s3 X X0 H O hx0 hn0 hn4 hbD c0
  · skip
    exact own_SD41_0 l Z a0 hb0 hw u nm xb xl xp nu xt xs fb fl fa ft kk nn s0 s1 s2 s3 X X0 H O hx0 hn0 hn4 hbD c0
set_option maxRecDepth 65536 in
set_option maxHeartbeats 4000000 in
theorem own_SD42_0 (l : Launch) (Z : State) (a0 : Array Value) (hb0 : zU) (hw : ∀ d ∈ tables_1, d.before a0 Z = true) (u : Addr) (nm : Int32) (xb xl xp nu xt xs : Addr) (fb : Int32 → UInt64) (fl fa ft : Int32 → Int32) (kk nn : Int32) (s0 s1 s2 s3 : Int32) (X X0 : Int32 → Int) (H : zZ fa fl nn (4 : Int32) (2 : Int32) nm) (O : zO (zD fl (2 : Int32) nm) X0 (4 : Int32)) (hx0 : ∀ j, j ≠ nm → X0 j = X j) (hn0 : X nm ≤ X0 nm) (hn4 : ∀ j, zG nn j → zG 4 j) (hbD : ∀ j, zG nn j → zN (fb j) ((X j : Int) : Rat)) :
    zX l Z a0 hb0 (⟨"com/example/tidewise/tidewise/search/UpperBounds", "siftDown", "(II)V"⟩ : MethodName) ok10 4 none [] ({ frames := 1, cells := 0, slots := 0, locals := 14 } : Room) #[(.ref u), (.int 2), (.int nm)] [(u, oc1 (.ref xb) (.ref xl) (.ref xp) (.int kk) (.ref nu) (.int 4)), (xb, zA .double (zK fb)), (xl, zA .int (zE fl)), (xp, zA .int (zE fa)), (nu, oc2 (.int 4) (.ref xt) (.ref xs) (.int nn) .null (.int 0)), (xt, zA .int (zE ft)), (xs, zA .int [.int s0, .int 0, .int 0, .int s2, .int 0, .int 0, .int 0, .int 0, .int 0, .int s1, .int 0, .int 0, .int 0, .int s3, .int 0, .int 0])] (fun r cs' => ∃ fl' fa' : Int32 → Int32, zY fa' fl' nn (4 : Int32) ∧ zO fl' X (4 : Int32) ∧ X (fl' 0) ≤ X0 (zD fl (2 : Int32) nm 0) ∧ (∀ j, fa' j = -1 → j ≠ nm ∧ fa j = -1) ∧ r = none ∧ cs' = [(u, oc1 (.ref xb) (.ref xl) (.ref xp) (.int kk) (.ref nu) (.int 4)), (xb, zA .double (zK fb)), (xl, zA .int (zE fl')), (xp, zA .int (zE fa')), (nu, oc2 (.int 4) (.ref xt) (.ref xs) (.int nn) .null (.int 0)), (xt, zA .int (zE ft)), (xs, zA .int [.int s0, .int 0, .int 0, .int s2, .int 0, .int 0, .int 0, .int 0, .int 0, .int s1, .int 0, .int 0, .int 0, .int s3, .int 0, .int 0])]) := by
  refine zh (L0 := #[oa u, oi 2, oi nm, ou]) (plainFor_of_name zAV) (fun m => zAX m u (2 : Int32) nm) ?_
  intro p e s m below meth c T0 hx hZ hown hby hml hnm H0
  obtain ⟨TSD42_0_1, HSD42_0_1, stSD42_0_1⟩ := zI H0 hx hZ hown (zB hw 64 rfl) 0 5 rfl rfl (g := (mkF m 8 #[oa u, oi 2, oi nm, oi 5] [(.ref u), (.int 5)])) rfl rfl (hb hby d11_8)
  obtain ⟨TSD42_0_2, vSD42_0_2_, csSD42_0_2_, qSD42_0_2, HSD42_0_2, stSD42_0_2⟩ := zo HSD42_0_1 hx hZ hown (zB hw 70 rfl) (zB hw 71 rfl) (zB hw 72 rfl) (zB hw 1 rfl) (zB hw 2 rfl) (zB hw 73 rfl) (by decide) (x := u) 0 rfl (argsL := [(.int 2), (.int nm)]) (rest := []) (W := 0) (zu l Z a0 hb0 hw u (2 : Int32) nm xb xl xp nu xt xs fb fl fa ft kk (4 : Int32) nn s0 s1 s2 s3 ⟨by decide, by decide⟩ (hn4 _ H.p2)) (by decide) (by decide) (by decide) (by decide) (g := (mkF m 104 #[oa u, oi 2, oi nm, oi 5] [(.int nm), (.int 2), (.ref u)])) rfl (by rw [hml]; rfl) (lenOf zq rfl) rfl (by show 2 * 0 + _ ≤ _; exact Nat.le_of_eq rfl) (hb hby d11_104)
  obtain ⟨rfl, rfl⟩ := qSD42_0_2
  have q := own_sd42_0 H O hx0 hn0 
  refine ⟨_, _, _, _, 107, #[oa u, oi 2, oi nm, oi 5], HSD42_0_2, by decide, by decide, Or.inl ⟨rfl, ⟨_, _, q.1, q.2.1, q.2.2.1, q.2.2.2, rfl, rfl⟩, d11_107, fun target q => ?_⟩⟩
  refine zC H0 hx hZ hown hby hw zL (own_SD32_0_0 u nm) _ ?_
  refine stSD42_0_1 _ ?_
  refine zC HSD42_0_1 hx hZ hown hby hw zL (own_SD40_4_16 u nm) _ ?_
  refine stSD42_0_2 _ ?_
  exact q
theorem own_SD42 (l : Launch) (Z : State) (a0 : Array Value) (hb0 : zU) (hw : ∀ d ∈ tables_1, d.before a0 Z = true) (u : Addr) (nm : Int32) (xb xl xp nu xt xs : Addr) (fb : Int32 → UInt64) (fl fa ft : Int32 → Int32) (kk nn : Int32) (s0 s1 s2 s3 : Int32) (X X0 : Int32 → Int) (H : zZ fa fl nn (4 : Int32) (2 : Int32) nm) (O : zO (zD fl (2 : Int32) nm) X0 (4 : Int32)) (hx0 : ∀ j, j ≠ nm → X0 j = X j) (hn0 : X nm ≤ X0 nm) (hn4 : ∀ j, zG nn j → zG 4 j) (hbD : ∀ j, zG nn j → zN (fb j) ((X j : Int) : Rat)) :
    zX l Z a0 hb0 (⟨"com/example/tidewise/tidewise/search/UpperBounds", "siftDown", "(II)V"⟩ : MethodName) ok10 4 none [] ({ frames := 1, cells := 0, slots := 0, locals := 14 } : Room) #[(.ref u), (.int 2), (.int nm)] [(u, oc1 (.ref xb) (.ref xl) (.ref xp) (.int kk) (.ref nu) (.int 4)), (xb, zA .double (zK fb)), (xl, zA .int (zE fl)), (xp, zA .int (zE fa)), (nu, oc2 (.int 4) (.ref xt) (.ref xs) (.int nn) .null (.int 0)), (xt, zA .int (zE ft)), (xs, zA .int [.int s0, .int 0, .int 0, .int s2, .int 0, .int 0, .int 0, .int 0, .int 0, .int s1, .int 0, .int 0, .int 0, .int s3, .int 0, .int 0])] (fun r cs' => ∃ fl' fa' : Int32 → Int32, zY fa' fl' nn (4 : Int32) ∧ zO fl' X (4 : Int32) ∧ X (fl' 0) ≤ X0 (zD fl (2 : Int32) nm 0) ∧ (∀ j, fa' j = -1 → j ≠ nm ∧ fa j = -1) ∧ r = none ∧ cs' = [(u, oc1 (.ref xb) (.ref xl) (.ref xp) (.int kk) (.ref nu) (.int 4)), (xb, zA .double (zK fb)), (xl, zA .int (zE fl')), (xp, zA .int (zE fa')), (nu, oc2 (.int 4) (.ref xt) (.ref xs) (.int nn) .null (.int 0)), (xt, zA .int (zE ft)), (xs, zA .int [.int s0, .int 0, .int 0, .int s2, .int 0, .int 0, .int 0, .int 0, .int 0, .int s1, .int 0, .int 0, .int 0, .int s3, .int 0, .int 0])]) := by
  exact own_SD42_0 l Z a0 hb0 hw u nm xb xl xp nu xt xs fb fl fa ft kk nn s0 s1 s2 s3 X X0 H O hx0 hn0 hn4 hbD 
theorem own_SD43_0_0 (u : Addr) (nm : Int32) :
    zF zk ok10 0 #[oa u, oi 3, oi nm, ou] [] 8 #[oa u, oi 3, oi nm, oi 7] [(.ref u), (.int 7)] := by
  refine zT (v := 2) (pc2 := 1) d11_0 rfl rfl ?_
  refine zM (pc2 := 2) d11_1 rfl rfl ?_
  refine zAq (pc2 := 3) d11_2 rfl (v := (6 : Int32)) (by decide) ?_
  refine zT (v := 1) (pc2 := 4) d11_3 rfl rfl ?_
  refine zAI (pc2 := 5) d11_4 rfl (v := (7 : Int32)) (by decide) ?_
  refine zAG (pc2 := 6) d11_5 rfl (L' := #[oa u, oi 3, oi nm, oi 7]) rfl ?_
  refine zM (pc2 := 7) d11_6 rfl rfl ?_
  refine zJ (pc2 := 8) d11_7 rfl rfl rfl ?_
  exact zH
set_option maxRecDepth 65536 in
set_option maxHeartbeats 4000000 in
theorem own_SD43_0 (l : Launch) (Z : State) (a0 : Array Value) (hb0 : zU) (hw : ∀ d ∈ tables_1, d.before a0 Z = true) (u : Addr) (nm : Int32) (xb xl xp nu xt xs : Addr) (fb : Int32 → UInt64) (fl fa ft : Int32 → Int32) (kk nn : Int32) (s0 s1 s2 s3 : Int32) (X X0 : Int32 → Int) (H : zZ fa fl nn (4 : Int32) (3 : Int32) nm) (O : zO (zD fl (3 : Int32) nm) X0 (4 : Int32)) (hx0 : ∀ j, j ≠ nm → X0 j = X j) (hn0 : X nm ≤ X0 nm) (hn4 : ∀ j, zG nn j → zG 4 j) (hbD : ∀ j, zG nn j → zN (fb j) ((X j : Int) : Rat)) :
    zX l Z a0 hb0 (⟨"com/example/tidewise/tidewise/search/UpperBounds", "siftDown", "(II)V"⟩ : MethodName) ok10 4 none [] ({ frames := 1, cells := 0, slots := 0, locals := 14 } : Room) #[(.ref u), (.int 3), (.int nm)] [(u, oc1 (.ref xb) (.ref xl) (.ref xp) (.int kk) (.ref nu) (.int 4)), (xb, zA .double (zK fb)), (xl, zA .int (zE fl)), (xp, zA .int (zE fa)), (nu, oc2 (.int 4) (.ref xt) (.ref xs) (.int nn) .null (.int 0)), (xt, zA .int (zE ft)), (xs, zA .int [.int s0, .int 0, .int 0, .int s2, .int 0, .int 0, .int 0, .int 0, .int 0, .int s1, .int 0, .int 0, .int 0, .int s3, .int 0, .int 0])] (fun r cs' => ∃ fl' fa' : Int32 → Int32, zY fa' fl' nn (4 : Int32) ∧ zO fl' X (4 : Int32) ∧ X (fl' 0) ≤ X0 (zD fl (3 : Int32) nm 0) ∧ (∀ j, fa' j = -1 → j ≠ nm ∧ fa j = -1) ∧ r = none ∧ cs' = [(u, oc1 (.ref xb) (.ref xl) (.ref xp) (.int kk) (.ref nu) (.int 4)), (xb, zA .double (zK fb)), (xl, zA .int (zE fl')), (xp, zA .int (zE fa')), (nu, oc2 (.int 4) (.ref xt) (.ref xs) (.int nn) .null (.int 0)), (xt, zA .int (zE ft)), (xs, zA .int [.int s0, .int 0, .int 0, .int s2, .int 0, .int 0, .int 0, .int 0, .int 0, .int s1, .int 0, .int 0, .int 0, .int s3, .int 0, .int 0])]) := by
  refine zh (L0 := #[oa u, oi 3, oi nm, ou]) (plainFor_of_name zAV) (fun m => zAX m u (3 : Int32) nm) ?_
  intro p e s m below meth c T0 hx hZ hown hby hml hnm H0
  obtain ⟨TSD43_0_1, HSD43_0_1, stSD43_0_1⟩ := zI H0 hx hZ hown (zB hw 64 rfl) 0 5 rfl rfl (g := (mkF m 8 #[oa u, oi 3, oi nm, oi 7] [(.ref u), (.int 7)])) rfl rfl (hb hby d11_8)
  obtain ⟨TSD43_0_2, vSD43_0_2_, csSD43_0_2_, qSD43_0_2, HSD43_0_2, stSD43_0_2⟩ := zo HSD43_0_1 hx hZ hown (zB hw 70 rfl) (zB hw 71 rfl) (zB hw 72 rfl) (zB hw 1 rfl) (zB hw 2 rfl) (zB hw 73 rfl) (by decide) (x := u) 0 rfl (argsL := [(.int 3), (.int nm)]) (rest := []) (W := 0) (zu l Z a0 hb0 hw u (3 : Int32) nm xb xl xp nu xt xs fb fl fa ft kk (4 : Int32) nn s0 s1 s2 s3 ⟨by decide, by decide⟩ (hn4 _ H.p2)) (by decide) (by decide) (by decide) (by decide) (g := (mkF m 104 #[oa u, oi 3, oi nm, oi 7] [(.int nm), (.int 3), (.ref u)])) rfl (by rw [hml]; rfl) (lenOf zq rfl) rfl (by show 2 * 0 + _ ≤ _; exact Nat.le_of_eq rfl) (hb hby d11_104)
  obtain ⟨rfl, rfl⟩ := qSD43_0_2
  have q := own_sd43_0 H O hx0 hn0 
  refine ⟨_, _, _, _, 107, #[oa u, oi 3, oi nm, oi 7], HSD43_0_2, by decide, by decide, Or.inl ⟨rfl, ⟨_, _, q.1, q.2.1, q.2.2.1, q.2.2.2, rfl, rfl⟩, d11_107, fun target q => ?_⟩⟩
  refine zC H0 hx hZ hown hby hw zL (own_SD43_0_0 u nm) _ ?_
  refine stSD43_0_1 _ ?_
  refine zC HSD43_0_1 hx hZ hown hby hw zL (zDb u nm) _ ?_
  refine stSD43_0_2 _ ?_
  exact q
theorem own_SD43 (l : Launch) (Z : State) (a0 : Array Value) (hb0 : zU) (hw : ∀ d ∈ tables_1, d.before a0 Z = true) (u : Addr) (nm : Int32) (xb xl xp nu xt xs : Addr) (fb : Int32 → UInt64) (fl fa ft : Int32 → Int32) (kk nn : Int32) (s0 s1 s2 s3 : Int32) (X X0 : Int32 → Int) (H : zZ fa fl nn (4 : Int32) (3 : Int32) nm) (O : zO (zD fl (3 : Int32) nm) X0 (4 : Int32)) (hx0 : ∀ j, j ≠ nm → X0 j = X j) (hn0 : X nm ≤ X0 nm) (hn4 : ∀ j, zG nn j → zG 4 j) (hbD : ∀ j, zG nn j → zN (fb j) ((X j : Int) : Rat)) :
    zX l Z a0 hb0 (⟨"com/example/tidewise/tidewise/search/UpperBounds", "siftDown", "(II)V"⟩ : MethodName) ok10 4 none [] ({ frames := 1, cells := 0, slots := 0, locals := 14 } : Room) #[(.ref u), (.int 3), (.int nm)] [(u, oc1 (.ref xb) (.ref xl) (.ref xp) (.int kk) (.ref nu) (.int 4)), (xb, zA .double (zK fb)), (xl, zA .int (zE fl)), (xp, zA .int (zE fa)), (nu, oc2 (.int 4) (.ref xt) (.ref xs) (.int nn) .null (.int 0)), (xt, zA .int (zE ft)), (xs, zA .int [.int s0, .int 0, .int 0, .int s2, .int 0, .int 0, .int 0, .int 0, .int 0, .int s1, .int 0, .int 0, .int 0, .int s3, .int 0, .int 0])] (fun r cs' => ∃ fl' fa' : Int32 → Int32, zY fa' fl' nn (4 : Int32) ∧ zO fl' X (4 : Int32) ∧ X (fl' 0) ≤ X0 (zD fl (3 : Int32) nm 0) ∧ (∀ j, fa' j = -1 → j ≠ nm ∧ fa j = -1) ∧ r = none ∧ cs' = [(u, oc1 (.ref xb) (.ref xl) (.ref xp) (.int kk) (.ref nu) (.int 4)), (xb, zA .double (zK fb)), (xl, zA .int (zE fl')), (xp, zA .int (zE fa')), (nu, oc2 (.int 4) (.ref xt) (.ref xs) (.int nn) .null (.int 0)), (xt, zA .int (zE ft)), (xs, zA .int [.int s0, .int 0, .int 0, .int s2, .int 0, .int 0, .int 0, .int 0, .int 0, .int s1, .int 0, .int 0, .int 0, .int s3, .int 0, .int 0])]) := by
  exact own_SD43_0 l Z a0 hb0 hw u nm xb xl xp nu xt xs fb fl fa ft kk nn s0 s1 s2 s3 X X0 H O hx0 hn0 hn4 hbD 
theorem own_SU0_0_0 (u : Addr) (nm : Int32) :
    zF zz ok9 0 #[oa u, oi 0, oi nm, ou] [] 53 #[oa u, oi 0, oi nm, ou] [(.int nm), (.int 0), (.ref u)] := by
  refine zM (pc2 := 1) d9_0 rfl rfl ?_
  refine zx (pc' := 50) d9_1 (by decide) (by decide) (by decide) ?_
  refine zJ (pc2 := 51) d9_50 rfl rfl rfl ?_
  refine zM (pc2 := 52) d9_51 rfl rfl ?_
  refine zM (pc2 := 53) d9_52 rfl rfl ?_
  exact zH
set_option maxRecDepth 65536 in
set_option maxHeartbeats 4000000 in
theorem own_SU0_0 (l : Launch) (Z : State) (a0 : Array Value) (hb0 : zU) (hw : ∀ d ∈ tables_1, d.before a0 Z = true) (u : Addr) (nm : Int32) (xb xl xp nu xt xs : Addr) (fb : Int32 → UInt64) (fl fa ft : Int32 → Int32) (kk nn : Int32) (s0 s1 s2 s3 : Int32) (X : Int32 → Int) (H : zZ fa fl nn (1 : Int32) (0 : Int32) nm) (O : zO fl X (0 : Int32)) (hn4 : ∀ j, zG nn j → zG 4 j) (hbD : ∀ j, zG nn j → zN (fb j) ((X j : Int) : Rat)) :
    zX l Z a0 hb0 (⟨"com/example/tidewise/tidewise/search/UpperBounds", "siftUp", "(II)V"⟩ : MethodName) ok9 4 none [] ({ frames := 1, cells := 0, slots := 0, locals := 14 } : Room) #[(.ref u), (.int 0), (.int nm)] [(u, oc1 (.ref xb) (.ref xl) (.ref xp) (.int kk) (.ref nu) (.int 1)), (xb, zA .double (zK fb)), (xl, zA .int (zE fl)), (xp, zA .int (zE fa)), (nu, oc2 (.int 4) (.ref xt) (.ref xs) (.int nn) .null (.int 0)), (xt, zA .int (zE ft)), (xs, zA .int [.int s0, .int 0, .int 0, .int s2, .int 0, .int 0, .int 0, .int 0, .int 0, .int s1, .int 0, .int 0, .int 0, .int s3, .int 0, .int 0])] (fun r cs' => ∃ fl' fa' : Int32 → Int32, zY fa' fl' nn (1 : Int32) ∧ zO fl' X (1 : Int32) ∧ (∀ j, fa' j = -1 → j ≠ nm ∧ fa j = -1) ∧ r = none ∧ cs' = [(u, oc1 (.ref xb) (.ref xl) (.ref xp) (.int kk) (.ref nu) (.int 1)), (xb, zA .double (zK fb)), (xl, zA .int (zE fl')), (xp, zA .int (zE fa')), (nu, oc2 (.int 4) (.ref xt) (.ref xs) (.int nn) .null (.int 0)), (xt, zA .int (zE ft)), (xs, zA .int [.int s0, .int 0, .int 0, .int s2, .int 0, .int 0, .int 0, .int 0, .int 0, .int s1, .int 0, .int 0, .int 0, .int s3, .int 0, .int 0])]) := by
  refine zh (L0 := #[oa u, oi 0, oi nm, ou]) (plainFor_of_name zBc) (fun m => zBe m u (0 : Int32) nm) ?_
  intro p e s m below meth c T0 hx hZ hown hby hml hnm H0
  obtain ⟨TSU0_0_1, vSU0_0_1_, csSU0_0_1_, qSU0_0_1, HSU0_0_1, stSU0_0_1⟩ := zo H0 hx hZ hown (zB hw 70 rfl) (zB hw 71 rfl) (zB hw 72 rfl) (zB hw 1 rfl) (zB hw 2 rfl) (zB hw 73 rfl) (by decide) (x := u) 0 rfl (argsL := [(.int 0), (.int nm)]) (rest := []) (W := 0) (zu l Z a0 hb0 hw u (0 : Int32) nm xb xl xp nu xt xs fb fl fa ft kk (1 : Int32) nn s0 s1 s2 s3 ⟨by decide, by decide⟩ (hn4 _ H.p2)) (by decide) (by decide) (by decide) (by decide) (g := (mkF m 53 #[oa u, oi 0, oi nm, ou] [(.int nm), (.int 0), (.ref u)])) rfl (by rw [hml]; rfl) (lenOf zq rfl) rfl (by show 2 * 0 + _ ≤ _; exact Nat.le_of_eq rfl) (hb hby d9_53)
  obtain ⟨rfl, rfl⟩ := qSU0_0_1
  have q := own_su0_0 H O 
  refine ⟨_, _, _, _, 56, #[oa u, oi 0, oi nm, ou], HSU0_0_1, by decide, by decide, Or.inl ⟨rfl, ⟨_, _, q.1, q.2.1, q.2.2, rfl, rfl⟩, d9_56, fun target q => ?_⟩⟩
  refine zC H0 hx hZ hown hby hw zi (own_SU0_0_0 u nm) _ ?_
  refine stSU0_0_1 _ ?_
  exact q
theorem own_SU0 (l : Launch) (Z : State) (a0 : Array Value) (hb0 : zU) (hw : ∀ d ∈ tables_1, d.before a0 Z = true) (u : Addr) (nm : Int32) (xb xl xp nu xt xs : Addr) (fb : Int32 → UInt64) (fl fa ft : Int32 → Int32) (kk nn : Int32) (s0 s1 s2 s3 : Int32) (X : Int32 → Int) (H : zZ fa fl nn (1 : Int32) (0 : Int32) nm) (O : zO fl X (0 : Int32)) (hn4 : ∀ j, zG nn j → zG 4 j) (hbD : ∀ j, zG nn j → zN (fb j) ((X j : Int) : Rat)) :
    zX l Z a0 hb0 (⟨"com/example/tidewise/tidewise/search/UpperBounds", "siftUp", "(II)V"⟩ : MethodName) ok9 4 none [] ({ frames := 1, cells := 0, slots := 0, locals := 14 } : Room) #[(.ref u), (.int 0), (.int nm)] [(u, oc1 (.ref xb) (.ref xl) (.ref xp) (.int kk) (.ref nu) (.int 1)), (xb, zA .double (zK fb)), (xl, zA .int (zE fl)), (xp, zA .int (zE fa)), (nu, oc2 (.int 4) (.ref xt) (.ref xs) (.int nn) .null (.int 0)), (xt, zA .int (zE ft)), (xs, zA .int [.int s0, .int 0, .int 0, .int s2, .int 0, .int 0, .int 0, .int 0, .int 0, .int s1, .int 0, .int 0, .int 0, .int s3, .int 0, .int 0])] (fun r cs' => ∃ fl' fa' : Int32 → Int32, zY fa' fl' nn (1 : Int32) ∧ zO fl' X (1 : Int32) ∧ (∀ j, fa' j = -1 → j ≠ nm ∧ fa j = -1) ∧ r = none ∧ cs' = [(u, oc1 (.ref xb) (.ref xl) (.ref xp) (.int kk) (.ref nu) (.int 1)), (xb, zA .double (zK fb)), (xl, zA .int (zE fl')), (xp, zA .int (zE fa')), (nu, oc2 (.int 4) (.ref xt) (.ref xs) (.int nn) .null (.int 0)), (xt, zA .int (zE ft)), (xs, zA .int [.int s0, .int 0, .int 0, .int s2, .int 0, .int 0, .int 0, .int 0, .int 0, .int s1, .int 0, .int 0, .int 0, .int s3, .int 0, .int 0])]) := by
  exact own_SU0_0 l Z a0 hb0 hw u nm xb xl xp nu xt xs fb fl fa ft kk nn s0 s1 s2 s3 X H O hn4 hbD 
theorem own_SU1_0_0 (u : Addr) (nm : Int32) :
    zF zz ok9 0 #[oa u, oi 1, oi nm, ou] [] 11 #[oa u, oi 1, oi nm, oi 0] [(.ref u)] := by
  refine zM (pc2 := 1) d9_0 rfl rfl ?_
  refine zy (pc2 := 4) d9_1 rfl (by decide) ?_
  refine zM (pc2 := 5) d9_4 rfl rfl ?_
  refine zT (v := 1) (pc2 := 6) d9_5 rfl rfl ?_
  refine zAU (pc2 := 7) d9_6 rfl (v := (0 : Int32)) (by decide) ?_
  refine zT (v := 2) (pc2 := 8) d9_7 rfl rfl ?_
  refine zCf (pc2 := 9) d9_8 rfl (by decide) (v := (0 : Int32)) (by decide) ?_
  refine zAG (pc2 := 10) d9_9 rfl (L' := #[oa u, oi 1, oi nm, oi 0]) rfl ?_
  refine zJ (pc2 := 11) d9_10 rfl rfl rfl ?_
  exact zH
theorem zDG (u : Addr) (nm : Int32) (xb : Addr) :
    zF zz ok9 14 #[oa u, oi 1, oi nm, oi 0] [(.ref xb)] 15 #[oa u, oi 1, oi nm, oi 0] [(.ref u), (.ref xb)] := by
  refine zJ (pc2 := 15) d9_14 rfl rfl rfl ?_
  exact zH
theorem zDH (u : Addr) (nm : Int32) (xl : Addr) (xb : Addr) :
    zF zz ok9 18 #[oa u, oi 1, oi nm, oi 0] [(.ref xl), (.ref xb)] 19 #[oa u, oi 1, oi nm, oi 0] [(.int 0), (.ref xl), (.ref xb)] := by
  refine zM (pc2 := 19) d9_18 rfl rfl ?_
  exact zH
theorem own_SU1_0_3 (u : Addr) (nm : Int32) (w1 : UInt64) :
    zF zz ok9 21 #[oa u, oi 1, oi nm, oi 0] [(.double w1)] 22 #[oa u, oi 1, oi nm, oi 0] [(.ref u), (.double w1)] := by
  refine zJ (pc2 := 22) d9_21 rfl rfl rfl ?_
  exact zH
theorem own_SU1_0_4 (u : Addr) (nm : Int32) (xb : Addr) (w1 : UInt64) :
    zF zz ok9 25 #[oa u, oi 1, oi nm, oi 0] [(.ref xb), (.double w1)] 26 #[oa u, oi 1, oi nm, oi 0] [(.int nm), (.ref xb), (.double w1)] := by
  refine zM (pc2 := 26) d9_25 rfl rfl ?_
  exact zH
theorem own_SU1_0_5 (u : Addr) (nm : Int32) (w2 : UInt64) (w1 : UInt64) (v27 : Int32) (hv27 : (cmpValue (FP.dcmp w1 w2) .l) = v27) (hb28_0 : ifCond.holds .lt v27 = false) :
    zF zz ok9 27 #[oa u, oi 1, oi nm, oi 0] [(.double w2), (.double w1)] 53 #[oa u, oi 1, oi nm, oi 0] [(.int nm), (.int 1), (.ref u)] := by
  refine zAD (pc2 := 28) d9_27 rfl (v := v27) hv27 ?_
  refine zy (pc2 := 31) d9_28 rfl hb28_0 ?_
  refine zAN (pc' := 50) d9_31 (by decide) (by decide) ?_
  refine zJ (pc2 := 51) d9_50 rfl rfl rfl ?_
  refine zM (pc2 := 52) d9_51 rfl rfl ?_
  refine zM (pc2 := 53) d9_52 rfl rfl ?_
  exact zH
set_option maxRecDepth 65536 in
set_option maxHeartbeats 4000000 in
theorem own_SU1_0 (l : Launch) (Z : State) (a0 : Array Value) (hb0 : zU) (hw : ∀ d ∈ tables_1, d.before a0 Z = true) (u : Addr) (nm : Int32) (xb xl xp nu xt xs : Addr) (fb : Int32 → UInt64) (fl fa ft : Int32 → Int32) (kk nn : Int32) (s0 s1 s2 s3 : Int32) (X : Int32 → Int) (H : zZ fa fl nn (2 : Int32) (1 : Int32) nm) (O : zO fl X (1 : Int32)) (hn4 : ∀ j, zG nn j → zG 4 j) (hbD : ∀ j, zG nn j → zN (fb j) ((X j : Int) : Rat)) (d0 : X nm ≤ X (fl (0 : Int32))) :
    zX l Z a0 hb0 (⟨"com/example/tidewise/tidewise/search/UpperBounds", "siftUp", "(II)V"⟩ : MethodName) ok9 4 none [] ({ frames := 1, cells := 0, slots := 0, locals := 14 } : Room) #[(.ref u), (.int 1), (.int nm)] [(u, oc1 (.ref xb) (.ref xl) (.ref xp) (.int kk) (.ref nu) (.int 2)), (xb, zA .double (zK fb)), (xl, zA .int (zE fl)), (xp, zA .int (zE fa)), (nu, oc2 (.int 4) (.ref xt) (.ref xs) (.int nn) .null (.int 0)), (xt, zA .int (zE ft)), (xs, zA .int [.int s0, .int 0, .int 0, .int s2, .int 0, .int 0, .int 0, .int 0, .int 0, .int s1, .int 0, .int 0, .int 0, .int s3, .int 0, .int 0])] (fun r cs' => ∃ fl' fa' : Int32 → Int32, zY fa' fl' nn (2 : Int32) ∧ zO fl' X (2 : Int32) ∧ (∀ j, fa' j = -1 → j ≠ nm ∧ fa j = -1) ∧ r = none ∧ cs' = [(u, oc1 (.ref xb) (.ref xl) (.ref xp) (.int kk) (.ref nu) (.int 2)), (xb, zA .double (zK fb)), (xl, zA .int (zE fl')), (xp, zA .int (zE fa')), (nu, oc2 (.int 4) (.ref xt) (.ref xs) (.int nn) .null (.int 0)), (xt, zA .int (zE ft)), (xs, zA .int [.int s0, .int 0, .int 0, .int s2, .int 0, .int 0, .int 0, .int 0, .int 0, .int s1, .int 0, .int 0, .int 0, .int s3, .int 0, .int 0])]) := by
  refine zh (L0 := #[oa u, oi 1, oi nm, ou]) (plainFor_of_name zBc) (fun m => zBe m u (1 : Int32) nm) ?_
  intro p e s m below meth c T0 hx hZ hown hby hml hnm H0
  obtain ⟨TSU1_0_1, HSU1_0_1, stSU1_0_1⟩ := zI H0 hx hZ hown (zB hw 10 rfl) 0 0 rfl rfl (g := (mkF m 11 #[oa u, oi 1, oi nm, oi 0] [(.ref u)])) rfl rfl (hb hby d9_11)
  obtain ⟨TSU1_0_2, HSU1_0_2, stSU1_0_2⟩ := zI HSU1_0_1 hx hZ hown (zB hw 13 rfl) 0 1 rfl rfl (g := (mkF m 15 #[oa u, oi 1, oi nm, oi 0] [(.ref u), (.ref xb)])) rfl rfl (hb hby d9_15)
  obtain ⟨w0, hw0⟩ : ∃ z, fl (0 : Int32) = z := ⟨_, rfl⟩
  have ew0 : w0 = fl (0 : Int32) := by rw [← hw0]
  have mw0 : zG nn w0 := by rw [ew0]; exact (H.p1 (0 : Int32) ⟨by decide, by decide⟩ (by decide)).1
  have iw0 := hn4 _ mw0
  obtain ⟨w1, hw1⟩ : ∃ z, fb w0 = z := ⟨_, rfl⟩
  have vw1 : zN w1 ((X w0 : Int) : Rat) := by rw [← hw1]; exact hbD _ mw0
  obtain ⟨TSU1_0_5, HSU1_0_5, stSU1_0_5⟩ := zI HSU1_0_2 hx hZ hown (zB hw 10 rfl) 0 0 rfl rfl (g := (mkF m 22 #[oa u, oi 1, oi nm, oi 0] [(.ref u), (.double w1)])) rfl rfl (hb hby d9_22)
  obtain ⟨w2, hw2⟩ : ∃ z, fb nm = z := ⟨_, rfl⟩
  have vw2 : zN w2 ((X nm : Int) : Rat) := by rw [← hw2]; exact hbD _ H.p2
  obtain ⟨v27, hv27⟩ : ∃ z : Int32, (cmpValue (FP.dcmp w1 w2) .l) = z := ⟨_, rfl⟩
  obtain ⟨TSU1_0_7, vSU1_0_7_, csSU1_0_7_, qSU1_0_7, HSU1_0_7, stSU1_0_7⟩ := zo HSU1_0_5 hx hZ hown (zB hw 70 rfl) (zB hw 71 rfl) (zB hw 72 rfl) (zB hw 1 rfl) (zB hw 2 rfl) (zB hw 73 rfl) (by decide) (x := u) 0 rfl (argsL := [(.int 1), (.int nm)]) (rest := []) (W := 0) (zu l Z a0 hb0 hw u (1 : Int32) nm xb xl xp nu xt xs fb fl fa ft kk (2 : Int32) nn s0 s1 s2 s3 ⟨by decide, by decide⟩ (hn4 _ H.p2)) (by decide) (by decide) (by decide) (by decide) (g := (mkF m 53 #[oa u, oi 1, oi nm, oi 0] [(.int nm), (.int 1), (.ref u)])) rfl (by rw [hml]; rfl) (lenOf zq rfl) rfl (by show 2 * 0 + _ ≤ _; exact Nat.le_of_eq rfl) (hb hby d9_53)
  obtain ⟨rfl, rfl⟩ := qSU1_0_7
  have d0' := d0
  rw [← ew0] at d0'
  have hb28_0 : ifCond.holds .lt v27 = false := by
    rw [← hv27, zAg vw1 vw2]
    exact decide_eq_false (Rat.not_lt.mpr (zAS d0'))
  have q := own_su1_0 H O d0
  refine ⟨_, _, _, _, 56, #[oa u, oi 1, oi nm, oi 0], HSU1_0_7, by decide, by decide, Or.inl ⟨rfl, ⟨_, _, q.1, q.2.1, q.2.2, rfl, rfl⟩, d9_56, fun target q => ?_⟩⟩
  refine zC H0 hx hZ hown hby hw zi (own_SU1_0_0 u nm) _ ?_
  refine stSU1_0_1 _ ?_
  refine zC HSU1_0_1 hx hZ hown hby hw zi (zDG u nm xb) _ ?_
  refine stSU1_0_2 _ ?_
  refine zC HSU1_0_2 hx hZ hown hby hw zi (zDH u nm xl xb) _ ?_
  refine zf HSU1_0_2 hx hZ 2 rfl ⟨by decide, by decide⟩ hw0 (g := (mkF m 19 #[oa u, oi 1, oi nm, oi 0] [(.int 0), (.ref xl), (.ref xb)])) rfl rfl (hb hby d9_19) _ ?_
  refine zd HSU1_0_2 hx hZ 1 rfl iw0 hw1 (g := (mkF m 20 #[oa u, oi 1, oi nm, oi 0] [(.int w0), (.ref xb)])) rfl rfl (hb hby d9_20) _ ?_
  refine zC HSU1_0_2 hx hZ hown hby hw zi (own_SU1_0_3 u nm w1) _ ?_
  refine stSU1_0_5 _ ?_
  refine zC HSU1_0_5 hx hZ hown hby hw zi (own_SU1_0_4 u nm xb w1) _ ?_
  refine zd HSU1_0_5 hx hZ 1 rfl (hn4 _ H.p2) hw2 (g := (mkF m 26 #[oa u, oi 1, oi nm, oi 0] [(.int nm), (.ref xb), (.double w1)])) rfl rfl (hb hby d9_26) _ ?_
  refine zC HSU1_0_5 hx hZ hown hby hw zi (own_SU1_0_5 u nm w2 w1 v27 hv27 hb28_0) _ ?_
  refine stSU1_0_7 _ ?_
  exact q
theorem own_SU1_1_5 (u : Addr) (nm : Int32) (w2 : UInt64) (w1 : UInt64) (v27 : Int32) (hv27 : (cmpValue (FP.dcmp w1 w2) .l) = v27) (hb28_0 : ifCond.holds .lt v27 = true) :
    zF zz ok9 27 #[oa u, oi 1, oi nm, oi 0] [(.double w2), (.double w1)] 37 #[oa u, oi 1, oi nm, oi 0] [(.ref u), (.int 1), (.ref u)] := by
  refine zAD (pc2 := 28) d9_27 rfl (v := v27) hv27 ?_
  refine zx (pc' := 34) d9_28 hb28_0 (by decide) (by decide) ?_
  refine zJ (pc2 := 35) d9_34 rfl rfl rfl ?_
  refine zM (pc2 := 36) d9_35 rfl rfl ?_
  refine zJ (pc2 := 37) d9_36 rfl rfl rfl ?_
  exact zH
theorem own_SU1_1_6 (u : Addr) (nm : Int32) (xl : Addr) :
    zF zz ok9 40 #[oa u, oi 1, oi nm, oi 0] [(.ref xl), (.int 1), (.ref u)] 41 #[oa u, oi 1, oi nm, oi 0] [(.int 0), (.ref xl), (.int 1), (.ref u)] := by
  refine zM (pc2 := 41) d9_40 rfl rfl ?_
  exact zH
theorem own_SU1_1_7 (u : Addr) (nm : Int32) :
    zF zz ok9 45 #[oa u, oi 1, oi nm, oi 0] [] 53 #[oa u, oi 0, oi nm, oi 0] [(.int nm), (.int 0), (.ref u)] := by
  refine zM (pc2 := 46) d9_45 rfl rfl ?_
  refine zAG (pc2 := 47) d9_46 rfl (L' := #[oa u, oi 0, oi nm, oi 0]) rfl ?_
  refine zAN (pc' := 0) d9_47 (by decide) (by decide) ?_
  refine zM (pc2 := 1) d9_0 rfl rfl ?_
  refine zx (pc' := 50) d9_1 (by decide) (by decide) (by decide) ?_
  refine zJ (pc2 := 51) d9_50 rfl rfl rfl ?_
  refine zM (pc2 := 52) d9_51 rfl rfl ?_
  refine zM (pc2 := 53) d9_52 rfl rfl ?_
  exact zH
set_option maxRecDepth 65536 in
set_option maxHeartbeats 4000000 in
theorem own_SU1_1 (l : Launch) (Z : State) (a0 : Array Value) (hb0 : zU) (hw : ∀ d ∈ tables_1, d.before a0 Z = true) (u : Addr) (nm : Int32) (xb xl xp nu xt xs : Addr) (fb : Int32 → UInt64) (fl fa ft : Int32 → Int32) (kk nn : Int32) (s0 s1 s2 s3 : Int32) (X : Int32 → Int) (H : zZ fa fl nn (2 : Int32) (1 : Int32) nm) (O : zO fl X (1 : Int32)) (hn4 : ∀ j, zG nn j → zG 4 j) (hbD : ∀ j, zG nn j → zN (fb j) ((X j : Int) : Rat)) (d0 : X (fl (0 : Int32)) < X nm) :
    zX l Z a0 hb0 (⟨"com/example/tidewise/tidewise/search/UpperBounds", "siftUp", "(II)V"⟩ : MethodName) ok9 4 none [] ({ frames := 1, cells := 0, slots := 0, locals := 14 } : Room) #[(.ref u), (.int 1), (.int nm)] [(u, oc1 (.ref xb) (.ref xl) (.ref xp) (.int kk) (.ref nu) (.int 2)), (xb, zA .double (zK fb)), (xl, zA .int (zE fl)), (xp, zA .int (zE fa)), (nu, oc2 (.int 4) (.ref xt) (.ref xs) (.int nn) .null (.int 0)), (xt, zA .int (zE ft)), (xs, zA .int [.int s0, .int 0, .int 0, .int s2, .int 0, .int 0, .int 0, .int 0, .int 0, .int s1, .int 0, .int 0, .int 0, .int s3, .int 0, .int 0])] (fun r cs' => ∃ fl' fa' : Int32 → Int32, zY fa' fl' nn (2 : Int32) ∧ zO fl' X (2 : Int32) ∧ (∀ j, fa' j = -1 → j ≠ nm ∧ fa j = -1) ∧ r = none ∧ cs' = [(u, oc1 (.ref xb) (.ref xl) (.ref xp) (.int kk) (.ref nu) (.int 2)), (xb, zA .double (zK fb)), (xl, zA .int (zE fl')), (xp, zA .int (zE fa')), (nu, oc2 (.int 4) (.ref xt) (.ref xs) (.int nn) .null (.int 0)), (xt, zA .int (zE ft)), (xs, zA .int [.int s0, .int 0, .int 0, .int s2, .int 0, .int 0, .int 0, .int 0, .int 0, .int s1, .int 0, .int 0, .int 0, .int s3, .int 0, .int 0])]) := by
  refine zh (L0 := #[oa u, oi 1, oi nm, ou]) (plainFor_of_name zBc) (fun m => zBe m u (1 : Int32) nm) ?_
  intro p e s m below meth c T0 hx hZ hown hby hml hnm H0
  obtain ⟨TSU1_1_1, HSU1_1_1, stSU1_1_1⟩ := zI H0 hx hZ hown (zB hw 10 rfl) 0 0 rfl rfl (g := (mkF m 11 #[oa u, oi 1, oi nm, oi 0] [(.ref u)])) rfl rfl (hb hby d9_11)
  obtain ⟨TSU1_1_2, HSU1_1_2, stSU1_1_2⟩ := zI HSU1_1_1 hx hZ hown (zB hw 13 rfl) 0 1 rfl rfl (g := (mkF m 15 #[oa u, oi 1, oi nm, oi 0] [(.ref u), (.ref xb)])) rfl rfl (hb hby d9_15)
  obtain ⟨w0, hw0⟩ : ∃ z, fl (0 : Int32) = z := ⟨_, rfl⟩
  have ew0 : w0 = fl (0 : Int32) := by rw [← hw0]
  have mw0 : zG nn w0 := by rw [ew0]; exact (H.p1 (0 : Int32) ⟨by decide, by decide⟩ (by decide)).1
  have iw0 := hn4 _ mw0
  obtain ⟨w1, hw1⟩ : ∃ z, fb w0 = z := ⟨_, rfl⟩
  have vw1 : zN w1 ((X w0 : Int) : Rat) := by rw [← hw1]; exact hbD _ mw0
  obtain ⟨TSU1_1_5, HSU1_1_5, stSU1_1_5⟩ := zI HSU1_1_2 hx hZ hown (zB hw 10 rfl) 0 0 rfl rfl (g := (mkF m 22 #[oa u, oi 1, oi nm, oi 0] [(.ref u), (.double w1)])) rfl rfl (hb hby d9_22)
  obtain ⟨w2, hw2⟩ : ∃ z, fb nm = z := ⟨_, rfl⟩
  have vw2 : zN w2 ((X nm : Int) : Rat) := by rw [← hw2]; exact hbD _ H.p2
  obtain ⟨v27, hv27⟩ : ∃ z : Int32, (cmpValue (FP.dcmp w1 w2) .l) = z := ⟨_, rfl⟩
  obtain ⟨TSU1_1_7, HSU1_1_7, stSU1_1_7⟩ := zI HSU1_1_5 hx hZ hown (zB hw 13 rfl) 0 1 rfl rfl (g := (mkF m 37 #[oa u, oi 1, oi nm, oi 0] [(.ref u), (.int 1), (.ref u)])) rfl rfl (hb hby d9_37)
  obtain ⟨w3, hw3⟩ : ∃ z, fl (0 : Int32) = z := ⟨_, rfl⟩
  have ew3 : w3 = fl (0 : Int32) := by rw [← hw3]
  have mw3 : zG nn w3 := by rw [ew3]; exact (H.p1 (0 : Int32) ⟨by decide, by decide⟩ (by decide)).1
  have iw3 := hn4 _ mw3
  obtain ⟨TSU1_1_9, vSU1_1_9_, csSU1_1_9_, qSU1_1_9, HSU1_1_9, stSU1_1_9⟩ := zo HSU1_1_7 hx hZ hown (zB hw 70 rfl) (zB hw 71 rfl) (zB hw 72 rfl) (zB hw 1 rfl) (zB hw 2 rfl) (zB hw 73 rfl) (by decide) (x := u) 0 rfl (argsL := [(.int 1), (.int w3)]) (rest := []) (W := 0) (zu l Z a0 hb0 hw u (1 : Int32) w3 xb xl xp nu xt xs fb fl fa ft kk (2 : Int32) nn s0 s1 s2 s3 ⟨by decide, by decide⟩ iw3) (by decide) (by decide) (by decide) (by decide) (g := (mkF m 42 #[oa u, oi 1, oi nm, oi 0] [(.int w3), (.int 1), (.ref u)])) rfl (by rw [hml]; rfl) (lenOf zq rfl) rfl (by show 2 * 0 + _ ≤ _; exact Nat.le_of_eq rfl) (hb hby d9_42)
  obtain ⟨rfl, rfl⟩ := qSU1_1_9
  obtain ⟨TSU1_1_10, vSU1_1_10_, csSU1_1_10_, qSU1_1_10, HSU1_1_10, stSU1_1_10⟩ := zo HSU1_1_9 hx hZ hown (zB hw 70 rfl) (zB hw 71 rfl) (zB hw 72 rfl) (zB hw 1 rfl) (zB hw 2 rfl) (zB hw 73 rfl) (by decide) (x := u) 0 rfl (argsL := [(.int 0), (.int nm)]) (rest := []) (W := 0) (zu l Z a0 hb0 hw u (0 : Int32) nm xb xl xp nu xt xs fb (zD fl (1 : Int32) w3) (zD fa w3 (1 : Int32)) ft kk (2 : Int32) nn s0 s1 s2 s3 ⟨by decide, by decide⟩ (hn4 _ H.p2)) (by decide) (by decide) (by decide) (by decide) (g := (mkF m 53 #[oa u, oi 0, oi nm, oi 0] [(.int nm), (.int 0), (.ref u)])) rfl (by rw [hml]; rfl) (lenOf zq rfl) rfl (by show 2 * 0 + _ ≤ _; exact Nat.le_of_eq rfl) (hb hby d9_53)
  obtain ⟨rfl, rfl⟩ := qSU1_1_10
  have d0' := d0
  rw [← ew0] at d0'
  have hb28_0 : ifCond.holds .lt v27 = true := by
    rw [← hv27, zAg vw1 vw2]
    exact decide_eq_true (zAP d0')
  have q := own_su1_1 H O d0
  rw [← ew3] at q
  refine ⟨_, _, _, _, 56, #[oa u, oi 0, oi nm, oi 0], HSU1_1_10, by decide, by decide, Or.inl ⟨rfl, ⟨_, _, q.1, q.2.1, q.2.2, rfl, rfl⟩, d9_56, fun target q => ?_⟩⟩
  refine zC H0 hx hZ hown hby hw zi (own_SU1_0_0 u nm) _ ?_
  refine stSU1_1_1 _ ?_
  refine zC HSU1_1_1 hx hZ hown hby hw zi (zDG u nm xb) _ ?_
  refine stSU1_1_2 _ ?_
  refine zC HSU1_1_2 hx hZ hown hby hw zi (zDH u nm xl xb) _ ?_
  refine zf HSU1_1_2 hx hZ 2 rfl ⟨by decide, by decide⟩ hw0 (g := (mkF m 19 #[oa u, oi 1, oi nm, oi 0] [(.int 0), (.ref xl), (.ref xb)])) rfl rfl (hb hby d9_19) _ ?_
  refine zd HSU1_1_2 hx hZ 1 rfl iw0 hw1 (g := (mkF m 20 #[oa u, oi 1, oi nm, oi 0] [(.int w0), (.ref xb)])) rfl rfl (hb hby d9_20) _ ?_
  refine zC HSU1_1_2 hx hZ hown hby hw zi (own_SU1_0_3 u nm w1) _ ?_
  refine stSU1_1_5 _ ?_
  refine zC HSU1_1_5 hx hZ hown hby hw zi (own_SU1_0_4 u nm xb w1) _ ?_
  refine zd HSU1_1_5 hx hZ 1 rfl (hn4 _ H.p2) hw2 (g := (mkF m 26 #[oa u, oi 1, oi nm, oi 0] [(.int nm), (.ref xb), (.double w1)])) rfl rfl (hb hby d9_26) _ ?_
  refine zC HSU1_1_5 hx hZ hown hby hw zi (own_SU1_1_5 u nm w2 w1 v27 hv27 hb28_0) _ ?_
  refine stSU1_1_7 _ ?_
  refine zC HSU1_1_7 hx hZ hown hby hw zi (own_SU1_1_6 u nm xl) _ ?_
  refine zf HSU1_1_7 hx hZ 2 rfl ⟨by decide, by decide⟩ hw3 (g := (mkF m 41 #[oa u, oi 1, oi nm, oi 0] [(.int 0), (.ref xl), (.int 1), (.ref u)])) rfl rfl (hb hby d9_41) _ ?_
  refine stSU1_1_9 _ ?_
  refine zC HSU1_1_9 hx hZ hown hby hw zi (own_SU1_1_7 u nm) _ ?_
  refine stSU1_1_10 _ ?_
  exact q
theorem own_SU1 (l : Launch) (Z : State) (a0 : Array Value) (hb0 : zU) (hw : ∀ d ∈ tables_1, d.before a0 Z = true) (u : Addr) (nm : Int32) (xb xl xp nu xt xs : Addr) (fb : Int32 → UInt64) (fl fa ft : Int32 → Int32) (kk nn : Int32) (s0 s1 s2 s3 : Int32) (X : Int32 → Int) (H : zZ fa fl nn (2 : Int32) (1 : Int32) nm) (O : zO fl X (1 : Int32)) (hn4 : ∀ j, zG nn j → zG 4 j) (hbD : ∀ j, zG nn j → zN (fb j) ((X j : Int) : Rat)) :
    zX l Z a0 hb0 (⟨"com/example/tidewise/tidewise/search/UpperBounds", "siftUp", "(II)V"⟩ : MethodName) ok9 4 none [] ({ frames := 1, cells := 0, slots := 0, locals := 14 } : Room) #[(.ref u), (.int 1), (.int nm)] [(u, oc1 (.ref xb) (.ref xl) (.ref xp) (.int kk) (.ref nu) (.int 2)), (xb, zA .double (zK fb)), (xl, zA .int (zE fl)), (xp, zA .int (zE fa)), (nu, oc2 (.int 4) (.ref xt) (.ref xs) (.int nn) .null (.int 0)), (xt, zA .int (zE ft)), (xs, zA .int [.int s0, .int 0, .int 0, .int s2, .int 0, .int 0, .int 0, .int 0, .int 0, .int s1, .int 0, .int 0, .int 0, .int s3, .int 0, .int 0])] (fun r cs' => ∃ fl' fa' : Int32 → Int32, zY fa' fl' nn (2 : Int32) ∧ zO fl' X (2 : Int32) ∧ (∀ j, fa' j = -1 → j ≠ nm ∧ fa j = -1) ∧ r = none ∧ cs' = [(u, oc1 (.ref xb) (.ref xl) (.ref xp) (.int kk) (.ref nu) (.int 2)), (xb, zA .double (zK fb)), (xl, zA .int (zE fl')), (xp, zA .int (zE fa')), (nu, oc2 (.int 4) (.ref xt) (.ref xs) (.int nn) .null (.int 0)), (xt, zA .int (zE ft)), (xs, zA .int [.int s0, .int 0, .int 0, .int s2, .int 0, .int 0, .int 0, .int 0, .int 0, .int s1, .int 0, .int 0, .int 0, .int s3, .int 0, .int 0])]) := by
  rcases Int.lt_or_le (X (fl (0 : Int32))) (X nm) with c0 | c0
  · skip
    exact own_SU1_1 l Z a0 hb0 hw u nm xb xl xp nu xt xs fb fl fa ft kk nn s0 s1 s2 s3 X H O hn4 hbD c0
  · skip
    exact own_SU1_0 l Z a0 hb0 hw u nm xb xl xp nu xt xs fb fl fa ft kk nn s0 s1 s2 s3 X H O hn4 hbD c0
theorem own_SU2_0_0 (u : Addr) (nm : Int32) :
    zF zz ok9 0 #[oa u, oi 2, oi nm, ou] [] 11 #[oa u, oi 2, oi nm, oi 0] [(.ref u)] := by
  refine zM (pc2 := 1) d9_0 rfl rfl ?_
  refine zy (pc2 := 4) d9_1 rfl (by decide) ?_
  refine zM (pc2 := 5) d9_4 rfl rfl ?_
  refine zT (v := 1) (pc2 := 6) d9_5 rfl rfl ?_
  refine zAU (pc2 := 7) d9_6 rfl (v := (1 : Int32)) (by decide) ?_
  refine zT (v := 2) (pc2 := 8) d9_7 rfl rfl ?_
  refine zCf (pc2 := 9) d9_8 rfl (by decide) (v := (0 : Int32)) (by decide) ?_
  refine zAG (pc2 := 10) d9_9 rfl (L' := #[oa u, oi 2, oi nm, oi 0]) rfl ?_
  refine zJ (pc2 := 11) d9_10 rfl rfl rfl ?_
  exact zH
theorem own_SU2_0_1 (u : Addr) (nm : Int32) (xb : Addr) :
    zF zz ok9 14 #[oa u, oi 2, oi nm, oi 0] [(.ref xb)] 15 #[oa u, oi 2, oi nm, oi 0] [(.ref u), (.ref xb)] := by
  refine zJ (pc2 := 15) d9_14 rfl rfl rfl ?_
  exact zH
theorem own_SU2_0_2 (u : Addr) (nm : Int32) (xl : Addr) (xb : Addr) :
    zF zz ok9 18 #[oa u, oi 2, oi nm, oi 0] [(.ref xl), (.ref xb)] 19 #[oa u, oi 2, oi nm, oi 0] [(.int 0), (.ref xl), (.ref xb)] := by
  refine zM (pc2 := 19) d9_18 rfl rfl ?_
  exact zH
theorem own_SU2_0_3 (u : Addr) (nm : Int32) (w1 : UInt64) :
    zF zz ok9 21 #[oa u, oi 2, oi nm, oi 0] [(.double w1)] 22 #[oa u, oi 2, oi nm, oi 0] [(.ref u), (.double w1)] := by
  refine zJ (pc2 := 22) d9_21 rfl rfl rfl ?_
  exact zH
theorem own_SU2_0_4 (u : Addr) (nm : Int32) (xb : Addr) (w1 : UInt64) :
    zF zz ok9 25 #[oa u, oi 2, oi nm, oi 0] [(.ref xb), (.double w1)] 26 #[oa u, oi 2, oi nm, oi 0] [(.int nm), (.ref xb), (.double w1)] := by
  refine zM (pc2 := 26) d9_25 rfl rfl ?_
  exact zH
theorem own_SU2_0_5 (u : Addr) (nm : Int32) (w2 : UInt64) (w1 : UInt64) (v27 : Int32) (hv27 : (cmpValue (FP.dcmp w1 w2) .l) = v27) (hb28_0 : ifCond.holds .lt v27 = false) :
    zF zz ok9 27 #[oa u, oi 2, oi nm, oi 0] [(.double w2), (.double w1)] 53 #[oa u, oi 2, oi nm, oi 0] [(.int nm), (.int 2), (.ref u)] := by
  refine zAD (pc2 := 28) d9_27 rfl (v := v27) hv27 ?_
  refine zy (pc2 := 31) d9_28 rfl hb28_0 ?_
  refine zAN (pc' := 50) d9_31 (by decide) (by decide) ?_
  refine zJ (pc2 := 51) d9_50 rfl rfl rfl ?_
  refine zM (pc2 := 52) d9_51 rfl rfl ?_
  refine zM (pc2 := 53) d9_52 rfl rfl ?_
  exact zH
set_option maxRecDepth 65536 in
set_option maxHeartbeats 4000000 in
theorem own_SU2_0 (l : Launch) (Z : State) (a0 : Array Value) (hb0 : zU) (hw : ∀ d ∈ tables_1, d.before a0 Z = true) (u : Addr) (nm : Int32) (xb xl xp nu xt xs : Addr) (fb : Int32 → UInt64) (fl fa ft : Int32 → Int32) (kk nn : Int32) (s0 s1 s2 s3 : Int32) (X : Int32 → Int) (H : zZ fa fl nn (3 : Int32) (2 : Int32) nm) (O : zO fl X (2 : Int32)) (hn4 : ∀ j, zG nn j → zG 4 j) (hbD : ∀ j, zG nn j → zN (fb j) ((X j : Int) : Rat)) (d0 : X nm ≤ X (fl (0 : Int32))) :
    zX l Z a0 hb0 (⟨"com/example/tidewise/tidewise/search/UpperBounds", "siftUp", "(II)V"⟩ : MethodName) ok9 4 none [] ({ frames := 1, cells := 0, slots := 0, locals := 14 } : Room) #[(.ref u), (.int 2), (.int nm)] [(u, oc1 (.ref xb) (.ref xl) (.ref xp) (.int kk) (.ref nu) (.int 3)), (xb, zA .double (zK fb)), (xl, zA .int (zE fl)), (xp, zA .int (zE fa)), (nu, oc2 (.int 4) (.ref xt) (.ref xs) (.int nn) .null (.int 0)), (xt, zA .int (zE ft)), (xs, zA .int [.int s0, .int 0, .int 0, .int s2, .int 0, .int 0, .int 0, .int 0, .int 0, .int s1, .int 0, .int 0, .int 0, .int s3, .int 0, .int 0])] (fun r cs' => ∃ fl' fa' : Int32 → Int32, zY fa' fl' nn (3 : Int32) ∧ zO fl' X (3 : Int32) ∧ (∀ j, fa' j = -1 → j ≠ nm ∧ fa j = -1) ∧ r = none ∧ cs' = [(u, oc1 (.ref xb) (.ref xl) (.ref xp) (.int kk) (.ref nu) (.int 3)), (xb, zA .double (zK fb)), (xl, zA .int (zE fl')), (xp, zA .int (zE fa')), (nu, oc2 (.int 4) (.ref xt) (.ref xs) (.int nn) .null (.int 0)), (xt, zA .int (zE ft)), (xs, zA .int [.int s0, .int 0, .int 0, .int s2, .int 0, .int 0, .int 0, .int 0, .int 0, .int s1, .int 0, .int 0, .int 0, .int s3, .int 0, .int 0])]) := by
  refine zh (L0 := #[oa u, oi 2, oi nm, ou]) (plainFor_of_name zBc) (fun m => zBe m u (2 : Int32) nm) ?_
  intro p e s m below meth c T0 hx hZ hown hby hml hnm H0
  obtain ⟨TSU2_0_1, HSU2_0_1, stSU2_0_1⟩ := zI H0 hx hZ hown (zB hw 10 rfl) 0 0 rfl rfl (g := (mkF m 11 #[oa u, oi 2, oi nm, oi 0] [(.ref u)])) rfl rfl (hb hby d9_11)
  obtain ⟨TSU2_0_2, HSU2_0_2, stSU2_0_2⟩ := zI HSU2_0_1 hx hZ hown (zB hw 13 rfl) 0 1 rfl rfl (g := (mkF m 15 #[oa u, oi 2, oi nm, oi 0] [(.ref u), (.ref xb)])) rfl rfl (hb hby d9_15)
  obtain ⟨w0, hw0⟩ : ∃ z, fl (0 : Int32) = z := ⟨_, rfl⟩
  have ew0 : w0 = fl (0 : Int32) := by rw [← hw0]
  have mw0 : zG nn w0 := by rw [ew0]; exact (H.p1 (0 : Int32) ⟨by decide, by decide⟩ (by decide)).1
  have iw0 := hn4 _ mw0
  obtain ⟨w1, hw1⟩ : ∃ z, fb w0 = z := ⟨_, rfl⟩
  have vw1 : zN w1 ((X w0 : Int) : Rat) := by rw [← hw1]; exact hbD _ mw0
  obtain ⟨TSU2_0_5, HSU2_0_5, stSU2_0_5⟩ := zI HSU2_0_2 hx hZ hown (zB hw 10 rfl) 0 0 rfl rfl (g := (mkF m 22 #[oa u, oi 2, oi nm, oi 0] [(.ref u), (.double w1)])) rfl rfl (hb hby d9_22)
  obtain ⟨w2, hw2⟩ : ∃ z, fb nm = z := ⟨_, rfl⟩
  have vw2 : zN w2 ((X nm : Int) : Rat) := by rw [← hw2]; exact hbD _ H.p2
  obtain ⟨v27, hv27⟩ : ∃ z : Int32, (cmpValue (FP.dcmp w1 w2) .l) = z := ⟨_, rfl⟩
  obtain ⟨TSU2_0_7, vSU2_0_7_, csSU2_0_7_, qSU2_0_7, HSU2_0_7, stSU2_0_7⟩ := zo HSU2_0_5 hx hZ hown (zB hw 70 rfl) (zB hw 71 rfl) (zB hw 72 rfl) (zB hw 1 rfl) (zB hw 2 rfl) (zB hw 73 rfl) (by decide) (x := u) 0 rfl (argsL := [(.int 2), (.int nm)]) (rest := []) (W := 0) (zu l Z a0 hb0 hw u (2 : Int32) nm xb xl xp nu xt xs fb fl fa ft kk (3 : Int32) nn s0 s1 s2 s3 ⟨by decide, by decide⟩ (hn4 _ H.p2)) (by decide) (by decide) (by decide) (by decide) (g := (mkF m 53 #[oa u, oi 2, oi nm, oi 0] [(.int nm), (.int 2), (.ref u)])) rfl (by rw [hml]; rfl) (lenOf zq rfl) rfl (by show 2 * 0 + _ ≤ _; exact Nat.le_of_eq rfl) (hb hby d9_53)
  obtain ⟨rfl, rfl⟩ := qSU2_0_7
  have d0' := d0
  rw [← ew0] at d0'
  have hb28_0 : ifCond.holds .lt v27 = false := by
    rw [← hv27, zAg vw1 vw2]
    exact decide_eq_false (Rat.not_lt.mpr (zAS d0'))
  have q := own_su2_0 H O d0
  refine ⟨_, _, _, _, 56, #[oa u, oi 2, oi nm, oi 0], HSU2_0_7, by decide, by decide, Or.inl ⟨rfl, ⟨_, _, q.1, q.2.1, q.2.2, rfl, rfl⟩, d9_56, fun target q => ?_⟩⟩
  refine zC H0 hx hZ hown hby hw zi (own_SU2_0_0 u nm) _ ?_
  refine stSU2_0_1 _ ?_
  refine zC HSU2_0_1 hx hZ hown hby hw zi (own_SU2_0_1 u nm xb) _ ?_
  refine stSU2_0_2 _ ?_
  refine zC HSU2_0_2 hx hZ hown hby hw zi (own_SU2_0_2 u nm xl xb) _ ?_
  refine zf HSU2_0_2 hx hZ 2 rfl ⟨by decide, by decide⟩ hw0 (g := (mkF m 19 #[oa u, oi 2, oi nm, oi 0] [(.int 0), (.ref xl), (.ref xb)])) rfl rfl (hb hby d9_19) _ ?_
  refine zd HSU2_0_2 hx hZ 1 rfl iw0 hw1 (g := (mkF m 20 #[oa u, oi 2, oi nm, oi 0] [(.int w0), (.ref xb)])) rfl rfl (hb hby d9_20) _ ?_
  refine zC HSU2_0_2 hx hZ hown hby hw zi (own_SU2_0_3 u nm w1) _ ?_
  refine stSU2_0_5 _ ?_
  refine zC HSU2_0_5 hx hZ hown hby hw zi (own_SU2_0_4 u nm xb w1) _ ?_
  refine zd HSU2_0_5 hx hZ 1 rfl (hn4 _ H.p2) hw2 (g := (mkF m 26 #[oa u, oi 2, oi nm, oi 0] [(.int nm), (.ref xb), (.double w1)])) rfl rfl (hb hby d9_26) _ ?_
  refine zC HSU2_0_5 hx hZ hown hby hw zi (own_SU2_0_5 u nm w2 w1 v27 hv27 hb28_0) _ ?_
  refine stSU2_0_7 _ ?_
  exact q
theorem own_SU2_1_5 (u : Addr) (nm : Int32) (w2 : UInt64) (w1 : UInt64) (v27 : Int32) (hv27 : (cmpValue (FP.dcmp w1 w2) .l) = v27) (hb28_0 : ifCond.holds .lt v27 = true) :
    zF zz ok9 27 #[oa u, oi 2, oi nm, oi 0] [(.double w2), (.double w1)] 37 #[oa u, oi 2, oi nm, oi 0] [(.ref u), (.int 2), (.ref u)] := by
  refine zAD (pc2 := 28) d9_27 rfl (v := v27) hv27 ?_
  refine zx (pc' := 34) d9_28 hb28_0 (by decide) (by decide) ?_
  refine zJ (pc2 := 35) d9_34 rfl rfl rfl ?_
  refine zM (pc2 := 36) d9_35 rfl rfl ?_
  refine zJ (pc2 := 37) d9_36 rfl rfl rfl ?_
  exact zH
theorem own_SU2_1_6 (u : Addr) (nm : Int32) (xl : Addr) :
    zF zz ok9 40 #[oa u, oi 2, oi nm, oi 0] [(.ref xl), (.int 2), (.ref u)] 41 #[oa u, oi 2, oi nm, oi 0] [(.int 0), (.ref xl), (.int 2), (.ref u)] := by
  refine zM (pc2 := 41) d9_40 rfl rfl ?_
  exact zH
theorem own_SU2_1_7 (u : Addr) (nm : Int32) :
    zF zz ok9 45 #[oa u, oi 2, oi nm, oi 0] [] 53 #[oa u, oi 0, oi nm, oi 0] [(.int nm), (.int 0), (.ref u)] := by
  refine zM (pc2 := 46) d9_45 rfl rfl ?_
  refine zAG (pc2 := 47) d9_46 rfl (L' := #[oa u, oi 0, oi nm, oi 0]) rfl ?_
  refine zAN (pc' := 0) d9_47 (by decide) (by decide) ?_
  refine zM (pc2 := 1) d9_0 rfl rfl ?_
  refine zx (pc' := 50) d9_1 (by decide) (by decide) (by decide) ?_
  refine zJ (pc2 := 51) d9_50 rfl rfl rfl ?_
  refine zM (pc2 := 52) d9_51 rfl rfl ?_
  refine zM (pc2 := 53) d9_52 rfl rfl ?_
  exact zH
set_option maxRecDepth 65536 in
set_option maxHeartbeats 4000000 in
theorem own_SU2_1 (l : Launch) (Z : State) (a0 : Array Value) (hb0 : zU) (hw : ∀ d ∈ tables_1, d.before a0 Z = true) (u : Addr) (nm : Int32) (xb xl xp nu xt xs : Addr) (fb : Int32 → UInt64) (fl fa ft : Int32 → Int32) (kk nn : Int32) (s0 s1 s2 s3 : Int32) (X : Int32 → Int) (H : zZ fa fl nn (3 : Int32) (2 : Int32) nm) (O : zO fl X (2 : Int32)) (hn4 : ∀ j, zG nn j → zG 4 j) (hbD : ∀ j, zG nn j → zN (fb j) ((X j : Int) : Rat)) (d0 : X (fl (0 : Int32)) < X nm) :
    zX l Z a0 hb0 (⟨"com/example/tidewise/tidewise/search/UpperBounds", "siftUp", "(II)V"⟩ : MethodName) ok9 4 none [] ({ frames := 1, cells := 0, slots := 0, locals := 14 } : Room) #[(.ref u), (.int 2), (.int nm)] [(u, oc1 (.ref xb) (.ref xl) (.ref xp) (.int kk) (.ref nu) (.int 3)), (xb, zA .double (zK fb)), (xl, zA .int (zE fl)), (xp, zA .int (zE fa)), (nu, oc2 (.int 4) (.ref xt) (.ref xs) (.int nn) .null (.int 0)), (xt, zA .int (zE ft)), (xs, zA .int [.int s0, .int 0, .int 0, .int s2, .int 0, .int 0, .int 0, .int 0, .int 0, .int s1, .int 0, .int 0, .int 0, .int s3, .int 0, .int 0])] (fun r cs' => ∃ fl' fa' : Int32 → Int32, zY fa' fl' nn (3 : Int32) ∧ zO fl' X (3 : Int32) ∧ (∀ j, fa' j = -1 → j ≠ nm ∧ fa j = -1) ∧ r = none ∧ cs' = [(u, oc1 (.ref xb) (.ref xl) (.ref xp) (.int kk) (.ref nu) (.int 3)), (xb, zA .double (zK fb)), (xl, zA .int (zE fl')), (xp, zA .int (zE fa')), (nu, oc2 (.int 4) (.ref xt) (.ref xs) (.int nn) .null (.int 0)), (xt, zA .int (zE ft)), (xs, zA .int [.int s0, .int 0, .int 0, .int s2, .int 0, .int 0, .int 0, .int 0, .int 0, .int s1, .int 0, .int 0, .int 0, .int s3, .int 0, .int 0])]) := by
  refine zh (L0 := #[oa u, oi 2, oi nm, ou]) (plainFor_of_name zBc) (fun m => zBe m u (2 : Int32) nm) ?_
  intro p e s m below meth c T0 hx hZ hown hby hml hnm H0
  obtain ⟨TSU2_1_1, HSU2_1_1, stSU2_1_1⟩ := zI H0 hx hZ hown (zB hw 10 rfl) 0 0 rfl rfl (g := (mkF m 11 #[oa u, oi 2, oi nm, oi 0] [(.ref u)])) rfl rfl (hb hby d9_11)
  obtain ⟨TSU2_1_2, HSU2_1_2, stSU2_1_2⟩ := zI HSU2_1_1 hx hZ hown (zB hw 13 rfl) 0 1 rfl rfl (g := (mkF m 15 #[oa u, oi 2, oi nm, oi 0] [(.ref u), (.ref xb)])) rfl rfl (hb hby d9_15)
  obtain ⟨w0, hw0⟩ : ∃ z, fl (0 : Int32) = z := ⟨_, rfl⟩
  have ew0 : w0 = fl (0 : Int32) := by rw [← hw0]
  have mw0 : zG nn w0 := by rw [ew0]; exact (H.p1 (0 : Int32) ⟨by decide, by decide⟩ (by decide)).1
  have iw0 := hn4 _ mw0
  obtain ⟨w1, hw1⟩ : ∃ z, fb w0 = z := ⟨_, rfl⟩
  have vw1 : zN w1 ((X w0 : Int) : Rat) := by rw [← hw1]; exact hbD _ mw0
  obtain ⟨TSU2_1_5, HSU2_1_5, stSU2_1_5⟩ := zI HSU2_1_2 hx hZ hown (zB hw 10 rfl) 0 0 rfl rfl (g := (mkF m 22 #[oa u, oi 2, oi nm, oi 0] [(.ref u), (.double w1)])) rfl rfl (hb hby d9_22)
  obtain ⟨w2, hw2⟩ : ∃ z, fb nm = z := ⟨_, rfl⟩
  have vw2 : zN w2 ((X nm : Int) : Rat) := by rw [← hw2]; exact hbD _ H.p2
  obtain ⟨v27, hv27⟩ : ∃ z : Int32, (cmpValue (FP.dcmp w1 w2) .l) = z := ⟨_, rfl⟩
  obtain ⟨TSU2_1_7, HSU2_1_7, stSU2_1_7⟩ := zI HSU2_1_5 hx hZ hown (zB hw 13 rfl) 0 1 rfl rfl (g := (mkF m 37 #[oa u, oi 2, oi nm, oi 0] [(.ref u), (.int 2), (.ref u)])) rfl rfl (hb hby d9_37)
  obtain ⟨w3, hw3⟩ : ∃ z, fl (0 : Int32) = z := ⟨_, rfl⟩
  have ew3 : w3 = fl (0 : Int32) := by rw [← hw3]
  have mw3 : zG nn w3 := by rw [ew3]; exact (H.p1 (0 : Int32) ⟨by decide, by decide⟩ (by decide)).1
  have iw3 := hn4 _ mw3
  obtain ⟨TSU2_1_9, vSU2_1_9_, csSU2_1_9_, qSU2_1_9, HSU2_1_9, stSU2_1_9⟩ := zo HSU2_1_7 hx hZ hown (zB hw 70 rfl) (zB hw 71 rfl) (zB hw 72 rfl) (zB hw 1 rfl) (zB hw 2 rfl) (zB hw 73 rfl) (by decide) (x := u) 0 rfl (argsL := [(.int 2), (.int w3)]) (rest := []) (W := 0) (zu l Z a0 hb0 hw u (2 : Int32) w3 xb xl xp nu xt xs fb fl fa ft kk (3 : Int32) nn s0 s1 s2 s3 ⟨by decide, by decide⟩ iw3) (by decide) (by decide) (by decide) (by decide) (g := (mkF m 42 #[oa u, oi 2, oi nm, oi 0] [(.int w3), (.int 2), (.ref u)])) rfl (by rw [hml]; rfl) (lenOf zq rfl) rfl (by show 2 * 0 + _ ≤ _; exact Nat.le_of_eq rfl) (hb hby d9_42)
  obtain ⟨rfl, rfl⟩ := qSU2_1_9
  obtain ⟨TSU2_1_10, vSU2_1_10_, csSU2_1_10_, qSU2_1_10, HSU2_1_10, stSU2_1_10⟩ := zo HSU2_1_9 hx hZ hown (zB hw 70 rfl) (zB hw 71 rfl) (zB hw 72 rfl) (zB hw 1 rfl) (zB hw 2 rfl) (zB hw 73 rfl) (by decide) (x := u) 0 rfl (argsL := [(.int 0), (.int nm)]) (rest := []) (W := 0) (zu l Z a0 hb0 hw u (0 : Int32) nm xb xl xp nu xt xs fb (zD fl (2 : Int32) w3) (zD fa w3 (2 : Int32)) ft kk (3 : Int32) nn s0 s1 s2 s3 ⟨by decide, by decide⟩ (hn4 _ H.p2)) (by decide) (by decide) (by decide) (by decide) (g := (mkF m 53 #[oa u, oi 0, oi nm, oi 0] [(.int nm), (.int 0), (.ref u)])) rfl (by rw [hml]; rfl) (lenOf zq rfl) rfl (by show 2 * 0 + _ ≤ _; exact Nat.le_of_eq rfl) (hb hby d9_53)
  obtain ⟨rfl, rfl⟩ := qSU2_1_10
  have d0' := d0
  rw [← ew0] at d0'
  have hb28_0 : ifCond.holds .lt v27 = true := by
    rw [← hv27, zAg vw1 vw2]
    exact decide_eq_true (zAP d0')
  have q := own_su2_1 H O d0
  rw [← ew3] at q
  refine ⟨_, _, _, _, 56, #[oa u, oi 0, oi nm, oi 0], HSU2_1_10, by decide, by decide, Or.inl ⟨rfl, ⟨_, _, q.1, q.2.1, q.2.2, rfl, rfl⟩, d9_56, fun target q => ?_⟩⟩
  refine zC H0 hx hZ hown hby hw zi (own_SU2_0_0 u nm) _ ?_
  refine stSU2_1_1 _ ?_
  refine zC HSU2_1_1 hx hZ hown hby hw zi (own_SU2_0_1 u nm xb) _ ?_
  refine stSU2_1_2 _ ?_
  refine zC HSU2_1_2 hx hZ hown hby hw zi (own_SU2_0_2 u nm xl xb) _ ?_
  refine zf HSU2_1_2 hx hZ 2 rfl ⟨by decide, by decide⟩ hw0 (g := (mkF m 19 #[oa u, oi 2, oi nm, oi 0] [(.int 0), (.ref xl), (.ref xb)])) rfl rfl (hb hby d9_19) _ ?_
  refine zd HSU2_1_2 hx hZ 1 rfl iw0 hw1 (g := (mkF m 20 #[oa u, oi 2, oi nm, oi 0] [(.int w0), (.ref xb)])) rfl rfl (hb hby d9_20) _ ?_
  refine zC HSU2_1_2 hx hZ hown hby hw zi (own_SU2_0_3 u nm w1) _ ?_
  refine stSU2_1_5 _ ?_
  refine zC HSU2_1_5 hx hZ hown hby hw zi (own_SU2_0_4 u nm xb w1) _ ?_
  refine zd HSU2_1_5 hx hZ 1 rfl (hn4 _ H.p2) hw2 (g := (mkF m 26 #[oa u, oi 2, oi nm, oi 0] [(.int nm), (.ref xb), (.double w1)])) rfl rfl (hb hby d9_26) _ ?_
  refine zC HSU2_1_5 hx hZ hown hby hw zi (own_SU2_1_5 u nm w2 w1 v27 hv27 hb28_0) _ ?_
  refine stSU2_1_7 _ ?_
  refine zC HSU2_1_7 hx hZ hown hby hw zi (own_SU2_1_6 u nm xl) _ ?_
  refine zf HSU2_1_7 hx hZ 2 rfl ⟨by decide, by decide⟩ hw3 (g := (mkF m 41 #[oa u, oi 2, oi nm, oi 0] [(.int 0), (.ref xl), (.int 2), (.ref u)])) rfl rfl (hb hby d9_41) _ ?_
  refine stSU2_1_9 _ ?_
  refine zC HSU2_1_9 hx hZ hown hby hw zi (own_SU2_1_7 u nm) _ ?_
  refine stSU2_1_10 _ ?_
  exact q
theorem own_SU2 (l : Launch) (Z : State) (a0 : Array Value) (hb0 : zU) (hw : ∀ d ∈ tables_1, d.before a0 Z = true) (u : Addr) (nm : Int32) (xb xl xp nu xt xs : Addr) (fb : Int32 → UInt64) (fl fa ft : Int32 → Int32) (kk nn : Int32) (s0 s1 s2 s3 : Int32) (X : Int32 → Int) (H : zZ fa fl nn (3 : Int32) (2 : Int32) nm) (O : zO fl X (2 : Int32)) (hn4 : ∀ j, zG nn j → zG 4 j) (hbD : ∀ j, zG nn j → zN (fb j) ((X j : Int) : Rat)) :
    zX l Z a0 hb0 (⟨"com/example/tidewise/tidewise/search/UpperBounds", "siftUp", "(II)V"⟩ : MethodName) ok9 4 none [] ({ frames := 1, cells := 0, slots := 0, locals := 14 } : Room) #[(.ref u), (.int 2), (.int nm)] [(u, oc1 (.ref xb) (.ref xl) (.ref xp) (.int kk) (.ref nu) (.int 3)), (xb, zA .double (zK fb)), (xl, zA .int (zE fl)), (xp, zA .int (zE fa)), (nu, oc2 (.int 4) (.ref xt) (.ref xs) (.int nn) .null (.int 0)), (xt, zA .int (zE ft)), (xs, zA .int [.int s0, .int 0, .int 0, .int s2, .int 0, .int 0, .int 0, .int 0, .int 0, .int s1, .int 0, .int 0, .int 0, .int s3, .int 0, .int 0])] (fun r cs' => ∃ fl' fa' : Int32 → Int32, zY fa' fl' nn (3 : Int32) ∧ zO fl' X (3 : Int32) ∧ (∀ j, fa' j = -1 → j ≠ nm ∧ fa j = -1) ∧ r = none ∧ cs' = [(u, oc1 (.ref xb) (.ref xl) (.ref xp) (.int kk) (.ref nu) (.int 3)), (xb, zA .double (zK fb)), (xl, zA .int (zE fl')), (xp, zA .int (zE fa')), (nu, oc2 (.int 4) (.ref xt) (.ref xs) (.int nn) .null (.int 0)), (xt, zA .int (zE ft)), (xs, zA .int [.int s0, .int 0, .int 0, .int s2, .int 0, .int 0, .int 0, .int 0, .int 0, .int s1, .int 0, .int 0, .int 0, .int s3, .int 0, .int 0])]) := by
  rcases Int.lt_or_le (X (fl (0 : Int32))) (X nm) with c0 | c0
  · skip
    exact own_SU2_1 l Z a0 hb0 hw u nm xb xl xp nu xt xs fb fl fa ft kk nn s0 s1 s2 s3 X H O hn4 hbD c0
  · skip
    exact own_SU2_0 l Z a0 hb0 hw u nm xb xl xp nu xt xs fb fl fa ft kk nn s0 s1 s2 s3 X H O hn4 hbD c0
theorem zDc (u : Addr) (nm : Int32) :
    zF zz ok9 0 #[oa u, oi 3, oi nm, ou] [] 11 #[oa u, oi 3, oi nm, oi 1] [(.ref u)] := by
  refine zM (pc2 := 1) d9_0 rfl rfl ?_
  refine zy (pc2 := 4) d9_1 rfl (by decide) ?_
  refine zM (pc2 := 5) d9_4 rfl rfl ?_
  refine zT (v := 1) (pc2 := 6) d9_5 rfl rfl ?_
  refine zAU (pc2 := 7) d9_6 rfl (v := (2 : Int32)) (by decide) ?_
  refine zT (v := 2) (pc2 := 8) d9_7 rfl rfl ?_
  refine zCf (pc2 := 9) d9_8 rfl (by decide) (v := (1 : Int32)) (by decide) ?_
  refine zAG (pc2 := 10) d9_9 rfl (L' := #[oa u, oi 3, oi nm, oi 1]) rfl ?_
  refine zJ (pc2 := 11) d9_10 rfl rfl rfl ?_
  exact zH
theorem zDd (u : Addr) (nm : Int32) (xb : Addr) :
    zF zz ok9 14 #[oa u, oi 3, oi nm, oi 1] [(.ref xb)] 15 #[oa u, oi 3, oi nm, oi 1] [(.ref u), (.ref xb)] := by
  refine zJ (pc2 := 15) d9_14 rfl rfl rfl ?_
  exact zH
theorem zDe (u : Addr) (nm : Int32) (xl : Addr) (xb : Addr) :
    zF zz ok9 18 #[oa u, oi 3, oi nm, oi 1] [(.ref xl), (.ref xb)] 19 #[oa u, oi 3, oi nm, oi 1] [(.int 1), (.ref xl), (.ref xb)] := by
  refine zM (pc2 := 19) d9_18 rfl rfl ?_
  exact zH
theorem zDf (u : Addr) (nm : Int32) (w1 : UInt64) :
    zF zz ok9 21 #[oa u, oi 3, oi nm, oi 1] [(.double w1)] 22 #[oa u, oi 3, oi nm, oi 1] [(.ref u), (.double w1)] := by
  refine zJ (pc2 := 22) d9_21 rfl rfl rfl ?_
  exact zH
theorem zDg (u : Addr) (nm : Int32) (xb : Addr) (w1 : UInt64) :
    zF zz ok9 25 #[oa u, oi 3, oi nm, oi 1] [(.ref xb), (.double w1)] 26 #[oa u, oi 3, oi nm, oi 1] [(.int nm), (.ref xb), (.double w1)] := by
  refine zM (pc2 := 26) d9_25 rfl rfl ?_
  exact zH
theorem own_SU3_0_5 (u : Addr) (nm : Int32) (w2 : UInt64) (w1 : UInt64) (v27 : Int32) (hv27 : (cmpValue (FP.dcmp w1 w2) .l) = v27) (hb28_0 : ifCond.holds .lt v27 = false) :
    zF zz ok9 27 #[oa u, oi 3, oi nm, oi 1] [(.double w2), (.double w1)] 53 #[oa u, oi 3, oi nm, oi 1] [(.int nm), (.int 3), (.ref u)] := by
  refine zAD (pc2 := 28) d9_27 rfl (v := v27) hv27 ?_
  refine zy (pc2 := 31) d9_28 rfl hb28_0 ?_
  refine zAN (pc' := 50) d9_31 (by decide) (by decide) ?_
  refine zJ (pc2 := 51) d9_50 rfl rfl rfl ?_
  refine zM (pc2 := 52) d9_51 rfl rfl ?_
  refine zM (pc2 := 53) d9_52 rfl rfl ?_
  exact zH
set_option maxRecDepth 65536 in
set_option maxHeartbeats 4000000 in
theorem own_SU3_0 (l : Launch) (Z : State) (a0 : Array Value) (hb0 : zU) (hw : ∀ d ∈ tables_1, d.before a0 Z = true) (u : Addr) (nm : Int32) (xb xl xp nu xt xs : Addr) (fb : Int32 → UInt64) (fl fa ft : Int32 → Int32) (kk nn : Int32) (s0 s1 s2 s3 : Int32) (X : Int32 → Int) (H : zZ fa fl nn (4 : Int32) (3 : Int32) nm) (O : zO fl X (3 : Int32)) (hn4 : ∀ j, zG nn j → zG 4 j) (hbD : ∀ j, zG nn j → zN (fb j) ((X j : Int) : Rat)) (d0 : X nm ≤ X (fl (1 : Int32))) :
    zX l Z a0 hb0 (⟨"com/example/tidewise/tidewise/search/UpperBounds", "siftUp", "(II)V"⟩ : MethodName) ok9 4 none [] ({ frames := 1, cells := 0, slots := 0, locals := 14 } : Room) #[(.ref u), (.int 3), (.int nm)] [(u, oc1 (.ref xb) (.ref xl) (.ref xp) (.int kk) (.ref nu) (.int 4)), (xb, zA .double (zK fb)), (xl, zA .int (zE fl)), (xp, zA .int (zE fa)), (nu, oc2 (.int 4) (.ref xt) (.ref xs) (.int nn) .null (.int 0)), (xt, zA .int (zE ft)), (xs, zA .int [.int s0, .int 0, .int 0, .int s2, .int 0, .int 0, .int 0, .int 0, .int 0, .int s1, .int 0, .int 0, .int 0, .int s3, .int 0, .int 0])] (fun r cs' => ∃ fl' fa' : Int32 → Int32, zY fa' fl' nn (4 : Int32) ∧ zO fl' X (4 : Int32) ∧ (∀ j, fa' j = -1 → j ≠ nm ∧ fa j = -1) ∧ r = none ∧ cs' = [(u, oc1 (.ref xb) (.ref xl) (.ref xp) (.int kk) (.ref nu) (.int 4)), (xb, zA .double (zK fb)), (xl, zA .int (zE fl')), (xp, zA .int (zE fa')), (nu, oc2 (.int 4) (.ref xt) (.ref xs) (.int nn) .null (.int 0)), (xt, zA .int (zE ft)), (xs, zA .int [.int s0, .int 0, .int 0, .int s2, .int 0, .int 0, .int 0, .int 0, .int 0, .int s1, .int 0, .int 0, .int 0, .int s3, .int 0, .int 0])]) := by
  refine zh (L0 := #[oa u, oi 3, oi nm, ou]) (plainFor_of_name zBc) (fun m => zBe m u (3 : Int32) nm) ?_
  intro p e s m below meth c T0 hx hZ hown hby hml hnm H0
  obtain ⟨TSU3_0_1, HSU3_0_1, stSU3_0_1⟩ := zI H0 hx hZ hown (zB hw 10 rfl) 0 0 rfl rfl (g := (mkF m 11 #[oa u, oi 3, oi nm, oi 1] [(.ref u)])) rfl rfl (hb hby d9_11)
  obtain ⟨TSU3_0_2, HSU3_0_2, stSU3_0_2⟩ := zI HSU3_0_1 hx hZ hown (zB hw 13 rfl) 0 1 rfl rfl (g := (mkF m 15 #[oa u, oi 3, oi nm, oi 1] [(.ref u), (.ref xb)])) rfl rfl (hb hby d9_15)
  obtain ⟨w0, hw0⟩ : ∃ z, fl (1 : Int32) = z := ⟨_, rfl⟩
  have ew0 : w0 = fl (1 : Int32) := by rw [← hw0]
  have mw0 : zG nn w0 := by rw [ew0]; exact (H.p1 (1 : Int32) ⟨by decide, by decide⟩ (by decide)).1
  have iw0 := hn4 _ mw0
  obtain ⟨w1, hw1⟩ : ∃ z, fb w0 = z := ⟨_, rfl⟩
  have vw1 : zN w1 ((X w0 : Int) : Rat) := by rw [← hw1]; exact hbD _ mw0
  obtain ⟨TSU3_0_5, HSU3_0_5, stSU3_0_5⟩ := zI HSU3_0_2 hx hZ hown (zB hw 10 rfl) 0 0 rfl rfl (g := (mkF m 22 #[oa u, oi 3, oi nm, oi 1] [(.ref u), (.double w1)])) rfl rfl (hb hby d9_22)
  obtain ⟨w2, hw2⟩ : ∃ z, fb nm = z := ⟨_, rfl⟩
  have vw2 : zN w2 ((X nm : Int) : Rat) := by rw [← hw2]; exact hbD _ H.p2
  obtain ⟨v27, hv27⟩ : ∃ z : Int32, (cmpValue (FP.dcmp w1 w2) .l) = z := ⟨_, rfl⟩
  obtain ⟨TSU3_0_7, vSU3_0_7_, csSU3_0_7_, qSU3_0_7, HSU3_0_7, stSU3_0_7⟩ := zo HSU3_0_5 hx hZ hown (zB hw 70 rfl) (zB hw 71 rfl) (zB hw 72 rfl) (zB hw 1 rfl) (zB hw 2 rfl) (zB hw 73 rfl) (by decide) (x := u) 0 rfl (argsL := [(.int 3), (.int nm)]) (rest := []) (W := 0) (zu l Z a0 hb0 hw u (3 : Int32) nm xb xl xp nu xt xs fb fl fa ft kk (4 : Int32) nn s0 s1 s2 s3 ⟨by decide, by decide⟩ (hn4 _ H.p2)) (by decide) (by decide) (by decide) (by decide) (g := (mkF m 53 #[oa u, oi 3, oi nm, oi 1] [(.int nm), (.int 3), (.ref u)])) rfl (by rw [hml]; rfl) (lenOf zq rfl) rfl (by show 2 * 0 + _ ≤ _; exact Nat.le_of_eq rfl) (hb hby d9_53)
  obtain ⟨rfl, rfl⟩ := qSU3_0_7
  have d0' := d0
  rw [← ew0] at d0'
  have hb28_0 : ifCond.holds .lt v27 = false := by
    rw [← hv27, zAg vw1 vw2]
    exact decide_eq_false (Rat.not_lt.mpr (zAS d0'))
  have q := own_su3_0 H O d0
  refine ⟨_, _, _, _, 56, #[oa u, oi 3, oi nm, oi 1], HSU3_0_7, by decide, by decide, Or.inl ⟨rfl, ⟨_, _, q.1, q.2.1, q.2.2, rfl, rfl⟩, d9_56, fun target q => ?_⟩⟩
  refine zC H0 hx hZ hown hby hw zi (zDc u nm) _ ?_
  refine stSU3_0_1 _ ?_
  refine zC HSU3_0_1 hx hZ hown hby hw zi (zDd u nm xb) _ ?_
  refine stSU3_0_2 _ ?_
  refine zC HSU3_0_2 hx hZ hown hby hw zi (zDe u nm xl xb) _ ?_
  refine zf HSU3_0_2 hx hZ 2 rfl ⟨by decide, by decide⟩ hw0 (g := (mkF m 19 #[oa u, oi 3, oi nm, oi 1] [(.int 1), (.ref xl), (.ref xb)])) rfl rfl (hb hby d9_19) _ ?_
  refine zd HSU3_0_2 hx hZ 1 rfl iw0 hw1 (g := (mkF m 20 #[oa u, oi 3, oi nm, oi 1] [(.int w0), (.ref xb)])) rfl rfl (hb hby d9_20) _ ?_
  refine zC HSU3_0_2 hx hZ hown hby hw zi (zDf u nm w1) _ ?_
  refine stSU3_0_5 _ ?_
  refine zC HSU3_0_5 hx hZ hown hby hw zi (zDg u nm xb w1) _ ?_
  refine zd HSU3_0_5 hx hZ 1 rfl (hn4 _ H.p2) hw2 (g := (mkF m 26 #[oa u, oi 3, oi nm, oi 1] [(.int nm), (.ref xb), (.double w1)])) rfl rfl (hb hby d9_26) _ ?_
  refine zC HSU3_0_5 hx hZ hown hby hw zi (own_SU3_0_5 u nm w2 w1 v27 hv27 hb28_0) _ ?_
  refine stSU3_0_7 _ ?_
  exact q
theorem own_SU3_1_5 (u : Addr) (nm : Int32) (w2 : UInt64) (w1 : UInt64) (v27 : Int32) (hv27 : (cmpValue (FP.dcmp w1 w2) .l) = v27) (hb28_0 : ifCond.holds .lt v27 = true) :
    zF zz ok9 27 #[oa u, oi 3, oi nm, oi 1] [(.double w2), (.double w1)] 37 #[oa u, oi 3, oi nm, oi 1] [(.ref u), (.int 3), (.ref u)] := by
  refine zAD (pc2 := 28) d9_27 rfl (v := v27) hv27 ?_
  refine zx (pc' := 34) d9_28 hb28_0 (by decide) (by decide) ?_
  refine zJ (pc2 := 35) d9_34 rfl rfl rfl ?_
  refine zM (pc2 := 36) d9_35 rfl rfl ?_
  refine zJ (pc2 := 37) d9_36 rfl rfl rfl ?_
  exact zH
theorem own_SU3_1_6 (u : Addr) (nm : Int32) (xl : Addr) :
    zF zz ok9 40 #[oa u, oi 3, oi nm, oi 1] [(.ref xl), (.int 3), (.ref u)] 41 #[oa u, oi 3, oi nm, oi 1] [(.int 1), (.ref xl), (.int 3), (.ref u)] := by
  refine zM (pc2 := 41) d9_40 rfl rfl ?_
  exact zH
theorem own_SU3_1_7 (u : Addr) (nm : Int32) :
    zF zz ok9 45 #[oa u, oi 3, oi nm, oi 1] [] 11 #[oa u, oi 1, oi nm, oi 0] [(.ref u)] := by
  refine zM (pc2 := 46) d9_45 rfl rfl ?_
  refine zAG (pc2 := 47) d9_46 rfl (L' := #[oa u, oi 1, oi nm, oi 1]) rfl ?_
  refine zAN (pc' := 0) d9_47 (by decide) (by decide) ?_
  refine zM (pc2 := 1) d9_0 rfl rfl ?_
  refine zy (pc2 := 4) d9_1 rfl (by decide) ?_
  refine zM (pc2 := 5) d9_4 rfl rfl ?_
  refine zT (v := 1) (pc2 := 6) d9_5 rfl rfl ?_
  refine zAU (pc2 := 7) d9_6 rfl (v := (0 : Int32)) (by decide) ?_
  refine zT (v := 2) (pc2 := 8) d9_7 rfl rfl ?_
  refine zCf (pc2 := 9) d9_8 rfl (by decide) (v := (0 : Int32)) (by decide) ?_
  refine zAG (pc2 := 10) d9_9 rfl (L' := #[oa u, oi 1, oi nm, oi 0]) rfl ?_
  refine zJ (pc2 := 11) d9_10 rfl rfl rfl ?_
  exact zH
theorem own_SU3_1_10 (u : Addr) (nm : Int32) (w5 : UInt64) :
    zF zz ok9 21 #[oa u, oi 1, oi nm, oi 0] [(.double w5)] 22 #[oa u, oi 1, oi nm, oi 0] [(.ref u), (.double w5)] := by
  refine zJ (pc2 := 22) d9_21 rfl rfl rfl ?_
  exact zH
theorem own_SU3_1_11 (u : Addr) (nm : Int32) (xb : Addr) (w5 : UInt64) :
    zF zz ok9 25 #[oa u, oi 1, oi nm, oi 0] [(.ref xb), (.double w5)] 26 #[oa u, oi 1, oi nm, oi 0] [(.int nm), (.ref xb), (.double w5)] := by
  refine zM (pc2 := 26) d9_25 rfl rfl ?_
  exact zH
theorem own_SU3_1_12 (u : Addr) (nm : Int32) (w6 : UInt64) (w5 : UInt64) (v27' : Int32) (hv27' : (cmpValue (FP.dcmp w5 w6) .l) = v27') (hb28_1 : ifCond.holds .lt v27' = false) :
    zF zz ok9 27 #[oa u, oi 1, oi nm, oi 0] [(.double w6), (.double w5)] 53 #[oa u, oi 1, oi nm, oi 0] [(.int nm), (.int 1), (.ref u)] := by
  refine zAD (pc2 := 28) d9_27 rfl (v := v27') hv27' ?_
  refine zy (pc2 := 31) d9_28 rfl hb28_1 ?_
  refine zAN (pc' := 50) d9_31 (by decide) (by decide) ?_
  refine zJ (pc2 := 51) d9_50 rfl rfl rfl ?_
  refine zM (pc2 := 52) d9_51 rfl rfl ?_
  refine zM (pc2 := 53) d9_52 rfl rfl ?_
  exact zH
set_option maxRecDepth 65536 in
set_option maxHeartbeats 4000000 in
theorem own_SU3_1 (l : Launch) (Z : State) (a0 : Array Value) (hb0 : zU) (hw : ∀ d ∈ tables_1, d.before a0 Z = true) (u : Addr) (nm : Int32) (xb xl xp nu xt xs : Addr) (fb : Int32 → UInt64) (fl fa ft : Int32 → Int32) (kk nn : Int32) (s0 s1 s2 s3 : Int32) (X : Int32 → Int) (H : zZ fa fl nn (4 : Int32) (3 : Int32) nm) (O : zO fl X (3 : Int32)) (hn4 : ∀ j, zG nn j → zG 4 j) (hbD : ∀ j, zG nn j → zN (fb j) ((X j : Int) : Rat)) (d0 : X (fl (1 : Int32)) < X nm) (d1 : X nm ≤ X (fl (0 : Int32))) :
    zX l Z a0 hb0 (⟨"com/example/tidewise/tidewise/search/UpperBounds", "siftUp", "(II)V"⟩ : MethodName) ok9 4 none [] ({ frames := 1, cells := 0, slots := 0, locals := 14 } : Room) #[(.ref u), (.int 3), (.int nm)] [(u, oc1 (.ref xb) (.ref xl) (.ref xp) (.int kk) (.ref nu) (.int 4)), (xb, zA .double (zK fb)), (xl, zA .int (zE fl)), (xp, zA .int (zE fa)), (nu, oc2 (.int 4) (.ref xt) (.ref xs) (.int nn) .null (.int 0)), (xt, zA .int (zE ft)), (xs, zA .int [.int s0, .int 0, .int 0, .int s2, .int 0, .int 0, .int 0, .int 0, .int 0, .int s1, .int 0, .int 0, .int 0, .int s3, .int 0, .int 0])] (fun r cs' => ∃ fl' fa' : Int32 → Int32, zY fa' fl' nn (4 : Int32) ∧ zO fl' X (4 : Int32) ∧ (∀ j, fa' j = -1 → j ≠ nm ∧ fa j = -1) ∧ r = none ∧ cs' = [(u, oc1 (.ref xb) (.ref xl) (.ref xp) (.int kk) (.ref nu) (.int 4)), (xb, zA .double (zK fb)), (xl, zA .int (zE fl')), (xp, zA .int (zE fa')), (nu, oc2 (.int 4) (.ref xt) (.ref xs) (.int nn) .null (.int 0)), (xt, zA .int (zE ft)), (xs, zA .int [.int s0, .int 0, .int 0, .int s2, .int 0, .int 0, .int 0, .int 0, .int 0, .int s1, .int 0, .int 0, .int 0, .int s3, .int 0, .int 0])]) := by
  refine zh (L0 := #[oa u, oi 3, oi nm, ou]) (plainFor_of_name zBc) (fun m => zBe m u (3 : Int32) nm) ?_
  intro p e s m below meth c T0 hx hZ hown hby hml hnm H0
  obtain ⟨TSU3_1_1, HSU3_1_1, stSU3_1_1⟩ := zI H0 hx hZ hown (zB hw 10 rfl) 0 0 rfl rfl (g := (mkF m 11 #[oa u, oi 3, oi nm, oi 1] [(.ref u)])) rfl rfl (hb hby d9_11)
  obtain ⟨TSU3_1_2, HSU3_1_2, stSU3_1_2⟩ := zI HSU3_1_1 hx hZ hown (zB hw 13 rfl) 0 1 rfl rfl (g := (mkF m 15 #[oa u, oi 3, oi nm, oi 1] [(.ref u), (.ref xb)])) rfl rfl (hb hby d9_15)
  obtain ⟨w0, hw0⟩ : ∃ z, fl (1 : Int32) = z := ⟨_, rfl⟩
  have ew0 : w0 = fl (1 : Int32) := by rw [← hw0]
  have mw0 : zG nn w0 := by rw [ew0]; exact (H.p1 (1 : Int32) ⟨by decide, by decide⟩ (by decide)).1
  have iw0 := hn4 _ mw0
  obtain ⟨w1, hw1⟩ : ∃ z, fb w0 = z := ⟨_, rfl⟩
  have vw1 : zN w1 ((X w0 : Int) : Rat) := by rw [← hw1]; exact hbD _ mw0
  obtain ⟨TSU3_1_5, HSU3_1_5, stSU3_1_5⟩ := zI HSU3_1_2 hx hZ hown (zB hw 10 rfl) 0 0 rfl rfl (g := (mkF m 22 #[oa u, oi 3, oi nm, oi 1] [(.ref u), (.double w1)])) rfl rfl (hb hby d9_22)
  obtain ⟨w2, hw2⟩ : ∃ z, fb nm = z := ⟨_, rfl⟩
  have vw2 : zN w2 ((X nm : Int) : Rat) := by rw [← hw2]; exact hbD _ H.p2
  obtain ⟨v27, hv27⟩ : ∃ z : Int32, (cmpValue (FP.dcmp w1 w2) .l) = z := ⟨_, rfl⟩
  obtain ⟨TSU3_1_7, HSU3_1_7, stSU3_1_7⟩ := zI HSU3_1_5 hx hZ hown (zB hw 13 rfl) 0 1 rfl rfl (g := (mkF m 37 #[oa u, oi 3, oi nm, oi 1] [(.ref u), (.int 3), (.ref u)])) rfl rfl (hb hby d9_37)
  obtain ⟨w3, hw3⟩ : ∃ z, fl (1 : Int32) = z := ⟨_, rfl⟩
  have ew3 : w3 = fl (1 : Int32) := by rw [← hw3]
  have mw3 : zG nn w3 := by rw [ew3]; exact (H.p1 (1 : Int32) ⟨by decide, by decide⟩ (by decide)).1
  have iw3 := hn4 _ mw3
  obtain ⟨TSU3_1_9, vSU3_1_9_, csSU3_1_9_, qSU3_1_9, HSU3_1_9, stSU3_1_9⟩ := zo HSU3_1_7 hx hZ hown (zB hw 70 rfl) (zB hw 71 rfl) (zB hw 72 rfl) (zB hw 1 rfl) (zB hw 2 rfl) (zB hw 73 rfl) (by decide) (x := u) 0 rfl (argsL := [(.int 3), (.int w3)]) (rest := []) (W := 0) (zu l Z a0 hb0 hw u (3 : Int32) w3 xb xl xp nu xt xs fb fl fa ft kk (4 : Int32) nn s0 s1 s2 s3 ⟨by decide, by decide⟩ iw3) (by decide) (by decide) (by decide) (by decide) (g := (mkF m 42 #[oa u, oi 3, oi nm, oi 1] [(.int w3), (.int 3), (.ref u)])) rfl (by rw [hml]; rfl) (lenOf zq rfl) rfl (by show 2 * 0 + _ ≤ _; exact Nat.le_of_eq rfl) (hb hby d9_42)
  obtain ⟨rfl, rfl⟩ := qSU3_1_9
  obtain ⟨TSU3_1_10, HSU3_1_10, stSU3_1_10⟩ := zI HSU3_1_9 hx hZ hown (zB hw 10 rfl) 0 0 rfl rfl (g := (mkF m 11 #[oa u, oi 1, oi nm, oi 0] [(.ref u)])) rfl rfl (hb hby d9_11)
  obtain ⟨TSU3_1_11, HSU3_1_11, stSU3_1_11⟩ := zI HSU3_1_10 hx hZ hown (zB hw 13 rfl) 0 1 rfl rfl (g := (mkF m 15 #[oa u, oi 1, oi nm, oi 0] [(.ref u), (.ref xb)])) rfl rfl (hb hby d9_15)
  obtain ⟨w4, hw4⟩ : ∃ z, (zD fl (3 : Int32) w3) (0 : Int32) = z := ⟨_, rfl⟩
  have ew4 : w4 = fl (0 : Int32) := by rw [← hw4]; simp [zD]
  have mw4 : zG nn w4 := by rw [ew4]; exact (H.p1 (0 : Int32) ⟨by decide, by decide⟩ (by decide)).1
  have iw4 := hn4 _ mw4
  obtain ⟨w5, hw5⟩ : ∃ z, fb w4 = z := ⟨_, rfl⟩
  have vw5 : zN w5 ((X w4 : Int) : Rat) := by rw [← hw5]; exact hbD _ mw4
  obtain ⟨TSU3_1_14, HSU3_1_14, stSU3_1_14⟩ := zI HSU3_1_11 hx hZ hown (zB hw 10 rfl) 0 0 rfl rfl (g := (mkF m 22 #[oa u, oi 1, oi nm, oi 0] [(.ref u), (.double w5)])) rfl rfl (hb hby d9_22)
  obtain ⟨w6, hw6⟩ : ∃ z, fb nm = z := ⟨_, rfl⟩
  have vw6 : zN w6 ((X nm : Int) : Rat) := by rw [← hw6]; exact hbD _ H.p2
  obtain ⟨v27', hv27'⟩ : ∃ z : Int32, (cmpValue (FP.dcmp w5 w6) .l) = z := ⟨_, rfl⟩
  obtain ⟨TSU3_1_16, vSU3_1_16_, csSU3_1_16_, qSU3_1_16, HSU3_1_16, stSU3_1_16⟩ := zo HSU3_1_14 hx hZ hown (zB hw 70 rfl) (zB hw 71 rfl) (zB hw 72 rfl) (zB hw 1 rfl) (zB hw 2 rfl) (zB hw 73 rfl) (by decide) (x := u) 0 rfl (argsL := [(.int 1), (.int nm)]) (rest := []) (W := 0) (zu l Z a0 hb0 hw u (1 : Int32) nm xb xl xp nu xt xs fb (zD fl (3 : Int32) w3) (zD fa w3 (3 : Int32)) ft kk (4 : Int32) nn s0 s1 s2 s3 ⟨by decide, by decide⟩ (hn4 _ H.p2)) (by decide) (by decide) (by decide) (by decide) (g := (mkF m 53 #[oa u, oi 1, oi nm, oi 0] [(.int nm), (.int 1), (.ref u)])) rfl (by rw [hml]; rfl) (lenOf zq rfl) rfl (by show 2 * 0 + _ ≤ _; exact Nat.le_of_eq rfl) (hb hby d9_53)
  obtain ⟨rfl, rfl⟩ := qSU3_1_16
  have d0' := d0
  rw [← ew0] at d0'
  have hb28_0 : ifCond.holds .lt v27 = true := by
    rw [← hv27, zAg vw1 vw2]
    exact decide_eq_true (zAP d0')
  have d1' := d1
  rw [← ew4] at d1'
  have hb28_1 : ifCond.holds .lt v27' = false := by
    rw [← hv27', zAg vw5 vw6]
    exact decide_eq_false (Rat.not_lt.mpr (zAS d1'))
  have q := own_su3_1 H O d0 d1
  rw [← ew3] at q
  refine ⟨_, _, _, _, 56, #[oa u, oi 1, oi nm, oi 0], HSU3_1_16, by decide, by decide, Or.inl ⟨rfl, ⟨_, _, q.1, q.2.1, q.2.2, rfl, rfl⟩, d9_56, fun target q => ?_⟩⟩
  refine zC H0 hx hZ hown hby hw zi (zDc u nm) _ ?_
  refine stSU3_1_1 _ ?_
  refine zC HSU3_1_1 hx hZ hown hby hw zi (zDd u nm xb) _ ?_
  refine stSU3_1_2 _ ?_
  refine zC HSU3_1_2 hx hZ hown hby hw zi (zDe u nm xl xb) _ ?_
  refine zf HSU3_1_2 hx hZ 2 rfl ⟨by decide, by decide⟩ hw0 (g := (mkF m 19 #[oa u, oi 3, oi nm, oi 1] [(.int 1), (.ref xl), (.ref xb)])) rfl rfl (hb hby d9_19) _ ?_
  refine zd HSU3_1_2 hx hZ 1 rfl iw0 hw1 (g := (mkF m 20 #[oa u, oi 3, oi nm, oi 1] [(.int w0), (.ref xb)])) rfl rfl (hb hby d9_20) _ ?_
  refine zC HSU3_1_2 hx hZ hown hby hw zi (zDf u nm w1) _ ?_
  refine stSU3_1_5 _ ?_
  refine zC HSU3_1_5 hx hZ hown hby hw zi (zDg u nm xb w1) _ ?_
  refine zd HSU3_1_5 hx hZ 1 rfl (hn4 _ H.p2) hw2 (g := (mkF m 26 #[oa u, oi 3, oi nm, oi 1] [(.int nm), (.ref xb), (.double w1)])) rfl rfl (hb hby d9_26) _ ?_
  refine zC HSU3_1_5 hx hZ hown hby hw zi (own_SU3_1_5 u nm w2 w1 v27 hv27 hb28_0) _ ?_
  refine stSU3_1_7 _ ?_
  refine zC HSU3_1_7 hx hZ hown hby hw zi (own_SU3_1_6 u nm xl) _ ?_
  refine zf HSU3_1_7 hx hZ 2 rfl ⟨by decide, by decide⟩ hw3 (g := (mkF m 41 #[oa u, oi 3, oi nm, oi 1] [(.int 1), (.ref xl), (.int 3), (.ref u)])) rfl rfl (hb hby d9_41) _ ?_
  refine stSU3_1_9 _ ?_
  refine zC HSU3_1_9 hx hZ hown hby hw zi (own_SU3_1_7 u nm) _ ?_
  refine stSU3_1_10 _ ?_
  refine zC HSU3_1_10 hx hZ hown hby hw zi (zDG u nm xb) _ ?_
  refine stSU3_1_11 _ ?_
  refine zC HSU3_1_11 hx hZ hown hby hw zi (zDH u nm xl xb) _ ?_
  refine zf HSU3_1_11 hx hZ 2 rfl ⟨by decide, by decide⟩ hw4 (g := (mkF m 19 #[oa u, oi 1, oi nm, oi 0] [(.int 0), (.ref xl), (.ref xb)])) rfl rfl (hb hby d9_19) _ ?_
  refine zd HSU3_1_11 hx hZ 1 rfl iw4 hw5 (g := (mkF m 20 #[oa u, oi 1, oi nm, oi 0] [(.int w4), (.ref xb)])) rfl rfl (hb hby d9_20) _ ?_
  refine zC HSU3_1_11 hx hZ hown hby hw zi (own_SU3_1_10 u nm w5) _ ?_
  refine stSU3_1_14 _ ?_
  refine zC HSU3_1_14 hx hZ hown hby hw zi (own_SU3_1_11 u nm xb w5) _ ?_
  refine zd HSU3_1_14 hx hZ 1 rfl (hn4 _ H.p2) hw6 (g := (mkF m 26 #[oa u, oi 1, oi nm, oi 0] [(.int nm), (.ref xb), (.double w5)])) rfl rfl (hb hby d9_26) _ ?_
  refine zC HSU3_1_14 hx hZ hown hby hw zi (own_SU3_1_12 u nm w6 w5 v27' hv27' hb28_1) _ ?_
  refine stSU3_1_16 _ ?_
  exact q
theorem own_SU3_2_12 (u : Addr) (nm : Int32) (w6 : UInt64) (w5 : UInt64) (v27' : Int32) (hv27' : (cmpValue (FP.dcmp w5 w6) .l) = v27') (hb28_1 : ifCond.holds .lt v27' = true) :
    zF zz ok9 27 #[oa u, oi 1, oi nm, oi 0] [(.double w6), (.double w5)] 37 #[oa u, oi 1, oi nm, oi 0] [(.ref u), (.int 1), (.ref u)] := by
  refine zAD (pc2 := 28) d9_27 rfl (v := v27') hv27' ?_
  refine zx (pc' := 34) d9_28 hb28_1 (by decide) (by decide) ?_
  refine zJ (pc2 := 35) d9_34 rfl rfl rfl ?_
  refine zM (pc2 := 36) d9_35 rfl rfl ?_
  refine zJ (pc2 := 37) d9_36 rfl rfl rfl ?_
  exact zH
set_option maxRecDepth 65536 in
set_option maxHeartbeats 4000000 in
theorem own_SU3_2 (l : Launch) (Z : State) (a0 : Array Value) (hb0 : zU) (hw : ∀ d ∈ tables_1, d.before a0 Z = true) (u : Addr) (nm : Int32) (xb xl xp nu xt xs : Addr) (fb : Int32 → UInt64) (fl fa ft : Int32 → Int32) (kk nn : Int32) (s0 s1 s2 s3 : Int32) (X : Int32 → Int) (H : zZ fa fl nn (4 : Int32) (3 : Int32) nm) (O : zO fl X (3 : Int32)) (hn4 : ∀ j, zG nn j → zG 4 j) (hbD : ∀ j, zG nn j → zN (fb j) ((X j : Int) : Rat)) (d0 : X (fl (1 : Int32)) < X nm) (d1 : X (fl (0 : Int32)) < X nm) :
    zX l Z a0 hb0 (⟨"com/example/tidewise/tidewise/search/UpperBounds", "siftUp", "(II)V"⟩ : MethodName) ok9 4 none [] ({ frames := 1, cells := 0, slots := 0, locals := 14 } : Room) #[(.ref u), (.int 3), (.int nm)] [(u, oc1 (.ref xb) (.ref xl) (.ref xp) (.int kk) (.ref nu) (.int 4)), (xb, zA .double (zK fb)), (xl, zA .int (zE fl)), (xp, zA .int (zE fa)), (nu, oc2 (.int 4) (.ref xt) (.ref xs) (.int nn) .null (.int 0)), (xt, zA .int (zE ft)), (xs, zA .int [.int s0, .int 0, .int 0, .int s2, .int 0, .int 0, .int 0, .int 0, .int 0, .int s1, .int 0, .int 0, .int 0, .int s3, .int 0, .int 0])] (fun r cs' => ∃ fl' fa' : Int32 → Int32, zY fa' fl' nn (4 : Int32) ∧ zO fl' X (4 : Int32) ∧ (∀ j, fa' j = -1 → j ≠ nm ∧ fa j = -1) ∧ r = none ∧ cs' = [(u, oc1 (.ref xb) (.ref xl) (.ref xp) (.int kk) (.ref nu) (.int 4)), (xb, zA .double (zK fb)), (xl, zA .int (zE fl')), (xp, zA .int (zE fa')), (nu, oc2 (.int 4) (.ref xt) (.ref xs) (.int nn) .null (.int 0)), (xt, zA .int (zE ft)), (xs, zA .int [.int s0, .int 0, .int 0, .int s2, .int 0, .int 0, .int 0, .int 0, .int 0, .int s1, .int 0, .int 0, .int 0, .int s3, .int 0, .int 0])]) := by
  refine zh (L0 := #[oa u, oi 3, oi nm, ou]) (plainFor_of_name zBc) (fun m => zBe m u (3 : Int32) nm) ?_
  intro p e s m below meth c T0 hx hZ hown hby hml hnm H0
  obtain ⟨TSU3_2_1, HSU3_2_1, stSU3_2_1⟩ := zI H0 hx hZ hown (zB hw 10 rfl) 0 0 rfl rfl (g := (mkF m 11 #[oa u, oi 3, oi nm, oi 1] [(.ref u)])) rfl rfl (hb hby d9_11)
  obtain ⟨TSU3_2_2, HSU3_2_2, stSU3_2_2⟩ := zI HSU3_2_1 hx hZ hown (zB hw 13 rfl) 0 1 rfl rfl (g := (mkF m 15 #[oa u, oi 3, oi nm, oi 1] [(.ref u), (.ref xb)])) rfl rfl (hb hby d9_15)
  obtain ⟨w0, hw0⟩ : ∃ z, fl (1 : Int32) = z := ⟨_, rfl⟩
  have ew0 : w0 = fl (1 : Int32) := by rw [← hw0]
  have mw0 : zG nn w0 := by rw [ew0]; exact (H.p1 (1 : Int32) ⟨by decide, by decide⟩ (by decide)).1
  have iw0 := hn4 _ mw0
  obtain ⟨w1, hw1⟩ : ∃ z, fb w0 = z := ⟨_, rfl⟩
  have vw1 : zN w1 ((X w0 : Int) : Rat) := by rw [← hw1]; exact hbD _ mw0
  obtain ⟨TSU3_2_5, HSU3_2_5, stSU3_2_5⟩ := zI HSU3_2_2 hx hZ hown (zB hw 10 rfl) 0 0 rfl rfl (g := (mkF m 22 #[oa u, oi 3, oi nm, oi 1] [(.ref u), (.double w1)])) rfl rfl (hb hby d9_22)
  obtain ⟨w2, hw2⟩ : ∃ z, fb nm = z := ⟨_, rfl⟩
  have vw2 : zN w2 ((X nm : Int) : Rat) := by rw [← hw2]; exact hbD _ H.p2
  obtain ⟨v27, hv27⟩ : ∃ z : Int32, (cmpValue (FP.dcmp w1 w2) .l) = z := ⟨_, rfl⟩
  obtain ⟨TSU3_2_7, HSU3_2_7, stSU3_2_7⟩ := zI HSU3_2_5 hx hZ hown (zB hw 13 rfl) 0 1 rfl rfl (g := (mkF m 37 #[oa u, oi 3, oi nm, oi 1] [(.ref u), (.int 3), (.ref u)])) rfl rfl (hb hby d9_37)
  obtain ⟨w3, hw3⟩ : ∃ z, fl (1 : Int32) = z := ⟨_, rfl⟩
  have ew3 : w3 = fl (1 : Int32) := by rw [← hw3]
  have mw3 : zG nn w3 := by rw [ew3]; exact (H.p1 (1 : Int32) ⟨by decide, by decide⟩ (by decide)).1
  have iw3 := hn4 _ mw3
  obtain ⟨TSU3_2_9, vSU3_2_9_, csSU3_2_9_, qSU3_2_9, HSU3_2_9, stSU3_2_9⟩ := zo HSU3_2_7 hx hZ hown (zB hw 70 rfl) (zB hw 71 rfl) (zB hw 72 rfl) (zB hw 1 rfl) (zB hw 2 rfl) (zB hw 73 rfl) (by decide) (x := u) 0 rfl (argsL := [(.int 3), (.int w3)]) (rest := []) (W := 0) (zu l Z a0 hb0 hw u (3 : Int32) w3 xb xl xp nu xt xs fb fl fa ft kk (4 : Int32) nn s0 s1 s2 s3 ⟨by decide, by decide⟩ iw3) (by decide) (by decide) (by decide) (by decide) (g := (mkF m 42 #[oa u, oi 3, oi nm, oi 1] [(.int w3), (.int 3), (.ref u)])) rfl (by rw [hml]; rfl) (lenOf zq rfl) rfl (by show 2 * 0 + _ ≤ _; exact Nat.le_of_eq rfl) (hb hby d9_42)
  obtain ⟨rfl, rfl⟩ := qSU3_2_9
  obtain ⟨TSU3_2_10, HSU3_2_10, stSU3_2_10⟩ := zI HSU3_2_9 hx hZ hown (zB hw 10 rfl) 0 0 rfl rfl (g := (mkF m 11 #[oa u, oi 1, oi nm, oi 0] [(.ref u)])) rfl rfl (hb hby d9_11)
  obtain ⟨TSU3_2_11, HSU3_2_11, stSU3_2_11⟩ := zI HSU3_2_10 hx hZ hown (zB hw 13 rfl) 0 1 rfl rfl (g := (mkF m 15 #[oa u, oi 1, oi nm, oi 0] [(.ref u), (.ref xb)])) rfl rfl (hb hby d9_15)
  obtain ⟨w4, hw4⟩ : ∃ z, (zD fl (3 : Int32) w3) (0 : Int32) = z := ⟨_, rfl⟩
  have ew4 : w4 = fl (0 : Int32) := by rw [← hw4]; simp [zD]
  have mw4 : zG nn w4 := by rw [ew4]; exact (H.p1 (0 : Int32) ⟨by decide, by decide⟩ (by decide)).1
  have iw4 := hn4 _ mw4
  obtain ⟨w5, hw5⟩ : ∃ z, fb w4 = z := ⟨_, rfl⟩
  have vw5 : zN w5 ((X w4 : Int) : Rat) := by rw [← hw5]; exact hbD _ mw4
  obtain ⟨TSU3_2_14, HSU3_2_14, stSU3_2_14⟩ := zI HSU3_2_11 hx hZ hown (zB hw 10 rfl) 0 0 rfl rfl (g := (mkF m 22 #[oa u, oi 1, oi nm, oi 0] [(.ref u), (.double w5)])) rfl rfl (hb hby d9_22)
  obtain ⟨w6, hw6⟩ : ∃ z, fb nm = z := ⟨_, rfl⟩
  have vw6 : zN w6 ((X nm : Int) : Rat) := by rw [← hw6]; exact hbD _ H.p2
  obtain ⟨v27', hv27'⟩ : ∃ z : Int32, (cmpValue (FP.dcmp w5 w6) .l) = z := ⟨_, rfl⟩
  obtain ⟨TSU3_2_16, HSU3_2_16, stSU3_2_16⟩ := zI HSU3_2_14 hx hZ hown (zB hw 13 rfl) 0 1 rfl rfl (g := (mkF m 37 #[oa u, oi 1, oi nm, oi 0] [(.ref u), (.int 1), (.ref u)])) rfl rfl (hb hby d9_37)
  obtain ⟨w7, hw7⟩ : ∃ z, (zD fl (3 : Int32) w3) (0 : Int32) = z := ⟨_, rfl⟩
  have ew7 : w7 = fl (0 : Int32) := by rw [← hw7]; simp [zD]
  have mw7 : zG nn w7 := by rw [ew7]; exact (H.p1 (0 : Int32) ⟨by decide, by decide⟩ (by decide)).1
  have iw7 := hn4 _ mw7
  obtain ⟨TSU3_2_18, vSU3_2_18_, csSU3_2_18_, qSU3_2_18, HSU3_2_18, stSU3_2_18⟩ := zo HSU3_2_16 hx hZ hown (zB hw 70 rfl) (zB hw 71 rfl) (zB hw 72 rfl) (zB hw 1 rfl) (zB hw 2 rfl) (zB hw 73 rfl) (by decide) (x := u) 0 rfl (argsL := [(.int 1), (.int w7)]) (rest := []) (W := 0) (zu l Z a0 hb0 hw u (1 : Int32) w7 xb xl xp nu xt xs fb (zD fl (3 : Int32) w3) (zD fa w3 (3 : Int32)) ft kk (4 : Int32) nn s0 s1 s2 s3 ⟨by decide, by decide⟩ iw7) (by decide) (by decide) (by decide) (by decide) (g := (mkF m 42 #[oa u, oi 1, oi nm, oi 0] [(.int w7), (.int 1), (.ref u)])) rfl (by rw [hml]; rfl) (lenOf zq rfl) rfl (by show 2 * 0 + _ ≤ _; exact Nat.le_of_eq rfl) (hb hby d9_42)
  obtain ⟨rfl, rfl⟩ := qSU3_2_18
  obtain ⟨TSU3_2_19, vSU3_2_19_, csSU3_2_19_, qSU3_2_19, HSU3_2_19, stSU3_2_19⟩ := zo HSU3_2_18 hx hZ hown (zB hw 70 rfl) (zB hw 71 rfl) (zB hw 72 rfl) (zB hw 1 rfl) (zB hw 2 rfl) (zB hw 73 rfl) (by decide) (x := u) 0 rfl (argsL := [(.int 0), (.int nm)]) (rest := []) (W := 0) (zu l Z a0 hb0 hw u (0 : Int32) nm xb xl xp nu xt xs fb (zD (zD fl (3 : Int32) w3) (1 : Int32) w7) (zD (zD fa w3 (3 : Int32)) w7 (1 : Int32)) ft kk (4 : Int32) nn s0 s1 s2 s3 ⟨by decide, by decide⟩ (hn4 _ H.p2)) (by decide) (by decide) (by decide) (by decide) (g := (mkF m 53 #[oa u, oi 0, oi nm, oi 0] [(.int nm), (.int 0), (.ref u)])) rfl (by rw [hml]; rfl) (lenOf zq rfl) rfl (by show 2 * 0 + _ ≤ _; exact Nat.le_of_eq rfl) (hb hby d9_53)
  obtain ⟨rfl, rfl⟩ := qSU3_2_19
  have d0' := d0
  rw [← ew0] at d0'
  have hb28_0 : ifCond.holds .lt v27 = true := by
    rw [← hv27, zAg vw1 vw2]
    exact decide_eq_true (zAP d0')
  have d1' := d1
  rw [← ew4] at d1'
  have hb28_1 : ifCond.holds .lt v27' = true := by
    rw [← hv27', zAg vw5 vw6]
    exact decide_eq_true (zAP d1')
  have q := own_su3_2 H O d0 d1
  rw [← ew3] at q
  rw [← ew7] at q
  refine ⟨_, _, _, _, 56, #[oa u, oi 0, oi nm, oi 0], HSU3_2_19, by decide, by decide, Or.inl ⟨rfl, ⟨_, _, q.1, q.2.1, q.2.2, rfl, rfl⟩, d9_56, fun target q => ?_⟩⟩
  refine zC H0 hx hZ hown hby hw zi (zDc u nm) _ ?_
  refine stSU3_2_1 _ ?_
  refine zC HSU3_2_1 hx hZ hown hby hw zi (zDd u nm xb) _ ?_
  refine stSU3_2_2 _ ?_
  refine zC HSU3_2_2 hx hZ hown hby hw zi (zDe u nm xl xb) _ ?_
  refine zf HSU3_2_2 hx hZ 2 rfl ⟨by decide, by decide⟩ hw0 (g := (mkF m 19 #[oa u, oi 3, oi nm, oi 1] [(.int 1), (.ref xl), (.ref xb)])) rfl rfl (hb hby d9_19) _ ?_
  refine zd HSU3_2_2 hx hZ 1 rfl iw0 hw1 (g := (mkF m 20 #[oa u, oi 3, oi nm, oi 1] [(.int w0), (.ref xb)])) rfl rfl (hb hby d9_20) _ ?_
  refine zC HSU3_2_2 hx hZ hown hby hw zi (zDf u nm w1) _ ?_
  refine stSU3_2_5 _ ?_
  refine zC HSU3_2_5 hx hZ hown hby hw zi (zDg u nm xb w1) _ ?_
  refine zd HSU3_2_5 hx hZ 1 rfl (hn4 _ H.p2) hw2 (g := (mkF m 26 #[oa u, oi 3, oi nm, oi 1] [(.int nm), (.ref xb), (.double w1)])) rfl rfl (hb hby d9_26) _ ?_
  refine zC HSU3_2_5 hx hZ hown hby hw zi (own_SU3_1_5 u nm w2 w1 v27 hv27 hb28_0) _ ?_
  refine stSU3_2_7 _ ?_
  refine zC HSU3_2_7 hx hZ hown hby hw zi (own_SU3_1_6 u nm xl) _ ?_
  refine zf HSU3_2_7 hx hZ 2 rfl ⟨by decide, by decide⟩ hw3 (g := (mkF m 41 #[oa u, oi 3, oi nm, oi 1] [(.int 1), (.ref xl), (.int 3), (.ref u)])) rfl rfl (hb hby d9_41) _ ?_
  refine stSU3_2_9 _ ?_
  refine zC HSU3_2_9 hx hZ hown hby hw zi (own_SU3_1_7 u nm) _ ?_
  refine stSU3_2_10 _ ?_
  refine zC HSU3_2_10 hx hZ hown hby hw zi (zDG u nm xb) _ ?_
  refine stSU3_2_11 _ ?_
  refine zC HSU3_2_11 hx hZ hown hby hw zi (zDH u nm xl xb) _ ?_
  refine zf HSU3_2_11 hx hZ 2 rfl ⟨by decide, by decide⟩ hw4 (g := (mkF m 19 #[oa u, oi 1, oi nm, oi 0] [(.int 0), (.ref xl), (.ref xb)])) rfl rfl (hb hby d9_19) _ ?_
  refine zd HSU3_2_11 hx hZ 1 rfl iw4 hw5 (g := (mkF m 20 #[oa u, oi 1, oi nm, oi 0] [(.int w4), (.ref xb)])) rfl rfl (hb hby d9_20) _ ?_
  refine zC HSU3_2_11 hx hZ hown hby hw zi (own_SU3_1_10 u nm w5) _ ?_
  refine stSU3_2_14 _ ?_
  refine zC HSU3_2_14 hx hZ hown hby hw zi (own_SU3_1_11 u nm xb w5) _ ?_
  refine zd HSU3_2_14 hx hZ 1 rfl (hn4 _ H.p2) hw6 (g := (mkF m 26 #[oa u, oi 1, oi nm, oi 0] [(.int nm), (.ref xb), (.double w5)])) rfl rfl (hb hby d9_26) _ ?_
  refine zC HSU3_2_14 hx hZ hown hby hw zi (own_SU3_2_12 u nm w6 w5 v27' hv27' hb28_1) _ ?_
  refine stSU3_2_16 _ ?_
  refine zC HSU3_2_16 hx hZ hown hby hw zi (own_SU1_1_6 u nm xl) _ ?_
  refine zf HSU3_2_16 hx hZ 2 rfl ⟨by decide, by decide⟩ hw7 (g := (mkF m 41 #[oa u, oi 1, oi nm, oi 0] [(.int 0), (.ref xl), (.int 1), (.ref u)])) rfl rfl (hb hby d9_41) _ ?_
  refine stSU3_2_18 _ ?_
  refine zC HSU3_2_18 hx hZ hown hby hw zi (own_SU1_1_7 u nm) _ ?_
  refine stSU3_2_19 _ ?_
  exact q
theorem own_SU3 (l : Launch) (Z : State) (a0 : Array Value) (hb0 : zU) (hw : ∀ d ∈ tables_1, d.before a0 Z = true) (u : Addr) (nm : Int32) (xb xl xp nu xt xs : Addr) (fb : Int32 → UInt64) (fl fa ft : Int32 → Int32) (kk nn : Int32) (s0 s1 s2 s3 : Int32) (X : Int32 → Int) (H : zZ fa fl nn (4 : Int32) (3 : Int32) nm) (O : zO fl X (3 : Int32)) (hn4 : ∀ j, zG nn j → zG 4 j) (hbD : ∀ j, zG nn j → zN (fb j) ((X j : Int) : Rat)) :
    zX l Z a0 hb0 (⟨"com/example/tidewise/tidewise/search/UpperBounds", "siftUp", "(II)V"⟩ : MethodName) ok9 4 none [] ({ frames := 1, cells := 0, slots := 0, locals := 14 } : Room) #[(.ref u), (.int 3), (.int nm)] [(u, oc1 (.ref xb) (.ref xl) (.ref xp) (.int kk) (.ref nu) (.int 4)), (xb, zA .double (zK fb)), (xl, zA .int (zE fl)), (xp, zA .int (zE fa)), (nu, oc2 (.int 4) (.ref xt) (.ref xs) (.int nn) .null (.int 0)), (xt, zA .int (zE ft)), (xs, zA .int [.int s0, .int 0, .int 0, .int s2, .int 0, .int 0, .int 0, .int 0, .int 0, .int s1, .int 0, .int 0, .int 0, .int s3, .int 0, .int 0])] (fun r cs' => ∃ fl' fa' : Int32 → Int32, zY fa' fl' nn (4 : Int32) ∧ zO fl' X (4 : Int32) ∧ (∀ j, fa' j = -1 → j ≠ nm ∧ fa j = -1) ∧ r = none ∧ cs' = [(u, oc1 (.ref xb) (.ref xl) (.ref xp) (.int kk) (.ref nu) (.int 4)), (xb, zA .double (zK fb)), (xl, zA .int (zE fl')), (xp, zA .int (zE fa')), (nu, oc2 (.int 4) (.ref xt) (.ref xs) (.int nn) .null (.int 0)), (xt, zA .int (zE ft)), (xs, zA .int [.int s0, .int 0, .int 0, .int s2, .int 0, .int 0, .int 0, .int 0, .int 0, .int s1, .int 0, .int 0, .int 0, .int s3, .int 0, .int 0])]) := by
  rcases Int.lt_or_le (X (fl (1 : Int32))) (X nm) with c0 | c0
  · skip
    rcases Int.lt_or_le (X (fl (0 : Int32))) (X nm) with c1 | c1
    · skip
      exact own_SU3_2 l Z a0 hb0 hw u nm xb xl xp nu xt xs fb fl fa ft kk nn s0 s1 s2 s3 X H O hn4 hbD c0 c1
    · skip
      exact own_SU3_1 l Z a0 hb0 hw u nm xb xl xp nu xt xs fb fl fa ft kk nn s0 s1 s2 s3 X H O hn4 hbD c0 c1
  · skip
    exact own_SU3_0 l Z a0 hb0 hw u nm xb xl xp nu xt xs fb fl fa ft kk nn s0 s1 s2 s3 X H O hn4 hbD c0
theorem own_lz0 (hl59 : (((16 : Int32).toUInt32 >>> ((4 : Int32) &&& 31).toUInt32).toInt32) = (1 : Int32)) (hl76 : (((1 : Int32).toUInt32 >>> ((1 : Int32) &&& 31).toUInt32).toInt32) = (0 : Int32)) :
    zF zDZ ok1 0 #[oi 16, ou] [] 78 #[oi 1, oi 27] [(.int 27)] := by
  refine zM (pc2 := 1) d8_0 rfl rfl ?_
  refine zx (pc' := 15) d8_1 (by decide) (by decide) (by decide) ?_
  refine zAu (v := 31) (pc2 := 17) d8_15 rfl rfl ?_
  refine zAG (pc2 := 18) d8_17 rfl (L' := #[oi 16, oi 31]) rfl ?_
  refine zM (pc2 := 19) d8_18 rfl rfl ?_
  refine own_ldcW (v := (65536 : Int32)) (pc2 := 22) d8_19 rfl (List.mem_of_getElem? (i := 0) rfl) ?_
  refine zAJ (pc' := 33) d8_22 (by decide) (by decide) (by decide) ?_
  refine zM (pc2 := 34) d8_33 rfl rfl ?_
  refine own_sipush (v := 256) (pc2 := 37) d8_34 rfl rfl ?_
  refine zAJ (pc' := 48) d8_37 (by decide) (by decide) (by decide) ?_
  refine zM (pc2 := 49) d8_48 rfl rfl ?_
  refine zAu (v := 16) (pc2 := 51) d8_49 rfl rfl ?_
  refine zAw (pc2 := 54) d8_51 rfl (by decide) ?_
  refine own_iinc (pc2 := 57) d8_54 rfl rfl (v := (27 : Int32)) (by decide) (L' := #[oi 16, oi 27]) rfl ?_
  refine zM (pc2 := 58) d8_57 rfl rfl ?_
  refine zT (v := 4) (pc2 := 59) d8_58 rfl rfl ?_
  refine zAr (pc2 := 60) d8_59 rfl (v := (1 : Int32)) hl59 ?_
  refine zAG (pc2 := 61) d8_60 rfl (L' := #[oi 1, oi 27]) rfl ?_
  refine zM (pc2 := 62) d8_61 rfl rfl ?_
  refine zT (v := 4) (pc2 := 63) d8_62 rfl rfl ?_
  refine zAJ (pc' := 73) d8_63 (by decide) (by decide) (by decide) ?_
  refine zM (pc2 := 74) d8_73 rfl rfl ?_
  refine zM (pc2 := 75) d8_74 rfl rfl ?_
  refine zT (v := 1) (pc2 := 76) d8_75 rfl rfl ?_
  refine zAr (pc2 := 77) d8_76 rfl (v := (0 : Int32)) hl76 ?_
  refine zAU (pc2 := 78) d8_77 rfl (v := (27 : Int32)) (by decide) ?_
  exact zH
set_option maxRecDepth 65536 in
set_option maxHeartbeats 4000000 in
theorem zDI (l : Launch) (Z : State) (a0 : Array Value) (hb0 : zU) (hw : ∀ d ∈ tables_1, d.before a0 Z = true) (cs : List (Addr × zr)) :
    zX l Z a0 hb0 (⟨"java/lang/Integer", "numberOfLeadingZeros", "(I)I"⟩ : MethodName) ok1 2 (some .int) [] ({ frames := 0, cells := 0, slots := 0, locals := 0 } : Room) #[(.int 16)] cs (fun r cs' => r = some (.int 27) ∧ cs' = cs) := by
  refine zh (L0 := #[oi 16, ou]) (by decide +kernel) (fun m => own_ef8 m (16 : Int32)) ?_
  intro p e s m below meth c T0 hx hZ hown hby hml hnm H0
  have hl59 : ((16 : Int32).toUInt32 >>> ((4 : Int32) &&& 31).toUInt32).toInt32 = (1 : Int32) := by decide
  have hl76 : ((1 : Int32).toUInt32 >>> ((1 : Int32) &&& 31).toUInt32).toInt32 = (0 : Int32) := by decide
  refine ⟨_, _, _, _, 78, #[oi 1, oi 27], H0, by decide, by decide, Or.inr ⟨.int, (.int 27), [], .ireturn, rfl, ⟨rfl, rfl⟩, d8_78, zAe _, fun target q => ?_⟩⟩
  refine zC H0 hx hZ hown hby hw own_K8_ok (own_lz0 hl59 hl76) _ ?_
  exact q
theorem own_sl0_0 (nu : Addr) :
    zF zBA ok2 0 #[oa nu, oi 0] [] 5 #[oa nu, oi 0] [(.ref nu), (.int 0)] := by
  refine zM (pc2 := 1) d7_0 rfl rfl ?_
  refine zCi (v := (-1640531527 : Int32)) (pc2 := 3) d7_1 rfl (List.mem_of_getElem? (i := 0) rfl) ?_
  refine zAq (pc2 := 4) d7_3 rfl (v := (0 : Int32)) (by decide) ?_
  refine zJ (pc2 := 5) d7_4 rfl rfl rfl ?_
  exact zH
theorem own_sl0_1 (nu : Addr) (hl14 : (((0 : Int32).toUInt32 >>> ((28 : Int32) &&& 31).toUInt32).toInt32) = (0 : Int32)) :
    zF zBA ok2 12 #[oa nu, oi 0] [(.int 27), (.int 0)] 15 #[oa nu, oi 0] [(.int 0)] := by
  refine zT (v := 1) (pc2 := 13) d7_12 rfl rfl ?_
  refine zAI (pc2 := 14) d7_13 rfl (v := (28 : Int32)) (by decide) ?_
  refine zAr (pc2 := 15) d7_14 rfl (v := (0 : Int32)) hl14 ?_
  exact zH
set_option maxRecDepth 65536 in
set_option maxHeartbeats 4000000 in
theorem own_slot0 (l : Launch) (Z : State) (a0 : Array Value) (hb0 : zU) (hw : ∀ d ∈ tables_1, d.before a0 Z = true) (nu : Addr) (u xb xl xp xt xs : Addr) (fb : Int32 → UInt64) (fl fa ft : Int32 → Int32) (kk cc nn : Int32) (s0 s1 s2 s3 : Int32) :
    zX l Z a0 hb0 (⟨"com/example/tidewise/tidewise/search/Numbering", "slot", "(I)I"⟩ : MethodName) ok2 2 (some .int) [] ({ frames := 1, cells := 0, slots := 0, locals := 20 } : Room) #[(.ref nu), (.int 0)] [(u, oc1 (.ref xb) (.ref xl) (.ref xp) (.int kk) (.ref nu) (.int cc)), (xb, zA .double (zK fb)), (xl, zA .int (zE fl)), (xp, zA .int (zE fa)), (nu, oc2 (.int 4) (.ref xt) (.ref xs) (.int nn) .null (.int 0)), (xt, zA .int (zE ft)), (xs, zA .int [.int s0, .int 0, .int 0, .int s2, .int 0, .int 0, .int 0, .int 0, .int 0, .int s1, .int 0, .int 0, .int 0, .int s3, .int 0, .int 0])] (fun r cs' => r = some (.int 0) ∧ cs' = [(u, oc1 (.ref xb) (.ref xl) (.ref xp) (.int kk) (.ref nu) (.int cc)), (xb, zA .double (zK fb)), (xl, zA .int (zE fl)), (xp, zA .int (zE fa)), (nu, oc2 (.int 4) (.ref xt) (.ref xs) (.int nn) .null (.int 0)), (xt, zA .int (zE ft)), (xs, zA .int [.int s0, .int 0, .int 0, .int s2, .int 0, .int 0, .int 0, .int 0, .int 0, .int s1, .int 0, .int 0, .int 0, .int s3, .int 0, .int 0])]) := by
  refine zh (L0 := #[oa nu, oi 0]) (plainFor_of_name zCp) (fun m => zCr m nu (0 : Int32)) ?_
  intro p e s m below meth c T0 hx hZ hown hby hml hnm H0
  obtain ⟨Tsl0_1, Hsl0_1, stsl0_1⟩ := zI H0 hx hZ hown (zB hw 30 rfl) 4 2 rfl rfl (g := (mkF m 5 #[oa nu, oi 0] [(.ref nu), (.int 0)])) rfl rfl (hb hby d7_5)
  obtain ⟨Tsl0_3, vsl0_3_, cssl0_3_, qsl0_3, Hsl0_3, stsl0_3⟩ := zAL Hsl0_1 hx hZ hown (zB hw 58 rfl) (zB hw 59 rfl) (zB hw 60 rfl) (zB hw 61 rfl) (by decide) (argsL := [(.int 16)]) (rest := [(.int 0)]) (W := 1) (zDI l Z a0 hb0 hw _) (by decide) (by decide) (by decide) (by decide) (g := (mkF m 9 #[oa nu, oi 0] [(.int 16), (.int 0)])) rfl (by rw [hml]; rfl) (lenOf zAW rfl) rfl (by show 2 * 0 + _ ≤ _; exact Nat.le_of_eq rfl) (hb hby d7_9)
  obtain ⟨rfl, rfl⟩ := qsl0_3
  have hl14 : ((0 : Int32).toUInt32 >>> ((28 : Int32) &&& 31).toUInt32).toInt32 = (0 : Int32) := by decide
  refine ⟨_, _, _, _, 15, #[oa nu, oi 0], Hsl0_3, by decide, by decide, Or.inr ⟨.int, (.int 0), [], .ireturn, rfl, ⟨rfl, rfl⟩, d7_15, zAe _, fun target q => ?_⟩⟩
  refine zC H0 hx hZ hown hby hw zBb (own_sl0_0 nu) _ ?_
  refine stsl0_1 _ ?_
  refine zAK Hsl0_1 hx hZ 6 rfl (z := (16 : Int32)) rfl (g := (mkF m 8 #[oa nu, oi 0] [(.ref xs), (.int 0)])) rfl rfl (hb hby d7_8) _ ?_
  refine stsl0_3 _ ?_
  refine zC Hsl0_3 hx hZ hown hby hw zBb (own_sl0_1 nu hl14) _ ?_
  exact q
theorem own_sl1_0 (nu : Addr) :
    zF zBA ok2 0 #[oa nu, oi 1] [] 5 #[oa nu, oi 1] [(.ref nu), (.int (-1640531527 : Int32))] := by
  refine zM (pc2 := 1) d7_0 rfl rfl ?_
  refine zCi (v := (-1640531527 : Int32)) (pc2 := 3) d7_1 rfl (List.mem_of_getElem? (i := 0) rfl) ?_
  refine zAq (pc2 := 4) d7_3 rfl (v := (-1640531527 : Int32)) (by decide) ?_
  refine zJ (pc2 := 5) d7_4 rfl rfl rfl ?_
  exact zH
theorem own_sl1_1 (nu : Addr) (hl14 : (((-1640531527 : Int32).toUInt32 >>> ((28 : Int32) &&& 31).toUInt32).toInt32) = (9 : Int32)) :
    zF zBA ok2 12 #[oa nu, oi 1] [(.int 27), (.int (-1640531527 : Int32))] 15 #[oa nu, oi 1] [(.int 9)] := by
  refine zT (v := 1) (pc2 := 13) d7_12 rfl rfl ?_
  refine zAI (pc2 := 14) d7_13 rfl (v := (28 : Int32)) (by decide) ?_
  refine zAr (pc2 := 15) d7_14 rfl (v := (9 : Int32)) hl14 ?_
  exact zH
set_option maxRecDepth 65536 in
set_option maxHeartbeats 4000000 in
theorem own_slot1 (l : Launch) (Z : State) (a0 : Array Value) (hb0 : zU) (hw : ∀ d ∈ tables_1, d.before a0 Z = true) (nu : Addr) (u xb xl xp xt xs : Addr) (fb : Int32 → UInt64) (fl fa ft : Int32 → Int32) (kk cc nn : Int32) (s0 s1 s2 s3 : Int32) :
    zX l Z a0 hb0 (⟨"com/example/tidewise/tidewise/search/Numbering", "slot", "(I)I"⟩ : MethodName) ok2 2 (some .int) [] ({ frames := 1, cells := 0, slots := 0, locals := 20 } : Room) #[(.ref nu), (.int 1)] [(u, oc1 (.ref xb) (.ref xl) (.ref xp) (.int kk) (.ref nu) (.int cc)), (xb, zA .double (zK fb)), (xl, zA .int (zE fl)), (xp, zA .int (zE fa)), (nu, oc2 (.int 4) (.ref xt) (.ref xs) (.int nn) .null (.int 0)), (xt, zA .int (zE ft)), (xs, zA .int [.int s0, .int 0, .int 0, .int s2, .int 0, .int 0, .int 0, .int 0, .int 0, .int s1, .int 0, .int 0, .int 0, .int s3, .int 0, .int 0])] (fun r cs' => r = some (.int 9) ∧ cs' = [(u, oc1 (.ref xb) (.ref xl) (.ref xp) (.int kk) (.ref nu) (.int cc)), (xb, zA .double (zK fb)), (xl, zA .int (zE fl)), (xp, zA .int (zE fa)), (nu, oc2 (.int 4) (.ref xt) (.ref xs) (.int nn) .null (.int 0)), (xt, zA .int (zE ft)), (xs, zA .int [.int s0, .int 0, .int 0, .int s2, .int 0, .int 0, .int 0, .int 0, .int 0, .int s1, .int 0, .int 0, .int 0, .int s3, .int 0, .int 0])]) := by
  refine zh (L0 := #[oa nu, oi 1]) (plainFor_of_name zCp) (fun m => zCr m nu (1 : Int32)) ?_
  intro p e s m below meth c T0 hx hZ hown hby hml hnm H0
  obtain ⟨Tsl1_1, Hsl1_1, stsl1_1⟩ := zI H0 hx hZ hown (zB hw 30 rfl) 4 2 rfl rfl (g := (mkF m 5 #[oa nu, oi 1] [(.ref nu), (.int (-1640531527 : Int32))])) rfl rfl (hb hby d7_5)
  obtain ⟨Tsl1_3, vsl1_3_, cssl1_3_, qsl1_3, Hsl1_3, stsl1_3⟩ := zAL Hsl1_1 hx hZ hown (zB hw 58 rfl) (zB hw 59 rfl) (zB hw 60 rfl) (zB hw 61 rfl) (by decide) (argsL := [(.int 16)]) (rest := [(.int (-1640531527 : Int32))]) (W := 1) (zDI l Z a0 hb0 hw _) (by decide) (by decide) (by decide) (by decide) (g := (mkF m 9 #[oa nu, oi 1] [(.int 16), (.int (-1640531527 : Int32))])) rfl (by rw [hml]; rfl) (lenOf zAW rfl) rfl (by show 2 * 0 + _ ≤ _; exact Nat.le_of_eq rfl) (hb hby d7_9)
  obtain ⟨rfl, rfl⟩ := qsl1_3
  have hl14 : ((-1640531527 : Int32).toUInt32 >>> ((28 : Int32) &&& 31).toUInt32).toInt32 = (9 : Int32) := by decide
  refine ⟨_, _, _, _, 15, #[oa nu, oi 1], Hsl1_3, by decide, by decide, Or.inr ⟨.int, (.int 9), [], .ireturn, rfl, ⟨rfl, rfl⟩, d7_15, zAe _, fun target q => ?_⟩⟩
  refine zC H0 hx hZ hown hby hw zBb (own_sl1_0 nu) _ ?_
  refine stsl1_1 _ ?_
  refine zAK Hsl1_1 hx hZ 6 rfl (z := (16 : Int32)) rfl (g := (mkF m 8 #[oa nu, oi 1] [(.ref xs), (.int (-1640531527 : Int32))])) rfl rfl (hb hby d7_8) _ ?_
  refine stsl1_3 _ ?_
  refine zC Hsl1_3 hx hZ hown hby hw zBb (own_sl1_1 nu hl14) _ ?_
  exact q
theorem own_sl2_0 (nu : Addr) :
    zF zBA ok2 0 #[oa nu, oi 2] [] 5 #[oa nu, oi 2] [(.ref nu), (.int 1013904242)] := by
  refine zM (pc2 := 1) d7_0 rfl rfl ?_
  refine zCi (v := (-1640531527 : Int32)) (pc2 := 3) d7_1 rfl (List.mem_of_getElem? (i := 0) rfl) ?_
  refine zAq (pc2 := 4) d7_3 rfl (v := (1013904242 : Int32)) (by decide) ?_
  refine zJ (pc2 := 5) d7_4 rfl rfl rfl ?_
  exact zH
theorem own_sl2_1 (nu : Addr) (hl14 : (((1013904242 : Int32).toUInt32 >>> ((28 : Int32) &&& 31).toUInt32).toInt32) = (3 : Int32)) :
    zF zBA ok2 12 #[oa nu, oi 2] [(.int 27), (.int 1013904242)] 15 #[oa nu, oi 2] [(.int 3)] := by
  refine zT (v := 1) (pc2 := 13) d7_12 rfl rfl ?_
  refine zAI (pc2 := 14) d7_13 rfl (v := (28 : Int32)) (by decide) ?_
  refine zAr (pc2 := 15) d7_14 rfl (v := (3 : Int32)) hl14 ?_
  exact zH
set_option maxRecDepth 65536 in
set_option maxHeartbeats 4000000 in
theorem own_slot2 (l : Launch) (Z : State) (a0 : Array Value) (hb0 : zU) (hw : ∀ d ∈ tables_1, d.before a0 Z = true) (nu : Addr) (u xb xl xp xt xs : Addr) (fb : Int32 → UInt64) (fl fa ft : Int32 → Int32) (kk cc nn : Int32) (s0 s1 s2 s3 : Int32) :
    zX l Z a0 hb0 (⟨"com/example/tidewise/tidewise/search/Numbering", "slot", "(I)I"⟩ : MethodName) ok2 2 (some .int) [] ({ frames := 1, cells := 0, slots := 0, locals := 20 } : Room) #[(.ref nu), (.int 2)] [(u, oc1 (.ref xb) (.ref xl) (.ref xp) (.int kk) (.ref nu) (.int cc)), (xb, zA .double (zK fb)), (xl, zA .int (zE fl)), (xp, zA .int (zE fa)), (nu, oc2 (.int 4) (.ref xt) (.ref xs) (.int nn) .null (.int 0)), (xt, zA .int (zE ft)), (xs, zA .int [.int s0, .int 0, .int 0, .int s2, .int 0, .int 0, .int 0, .int 0, .int 0, .int s1, .int 0, .int 0, .int 0, .int s3, .int 0, .int 0])] (fun r cs' => r = some (.int 3) ∧ cs' = [(u, oc1 (.ref xb) (.ref xl) (.ref xp) (.int kk) (.ref nu) (.int cc)), (xb, zA .double (zK fb)), (xl, zA .int (zE fl)), (xp, zA .int (zE fa)), (nu, oc2 (.int 4) (.ref xt) (.ref xs) (.int nn) .null (.int 0)), (xt, zA .int (zE ft)), (xs, zA .int [.int s0, .int 0, .int 0, .int s2, .int 0, .int 0, .int 0, .int 0, .int 0, .int s1, .int 0, .int 0, .int 0, .int s3, .int 0, .int 0])]) := by
  refine zh (L0 := #[oa nu, oi 2]) (plainFor_of_name zCp) (fun m => zCr m nu (2 : Int32)) ?_
  intro p e s m below meth c T0 hx hZ hown hby hml hnm H0
  obtain ⟨Tsl2_1, Hsl2_1, stsl2_1⟩ := zI H0 hx hZ hown (zB hw 30 rfl) 4 2 rfl rfl (g := (mkF m 5 #[oa nu, oi 2] [(.ref nu), (.int 1013904242)])) rfl rfl (hb hby d7_5)
  obtain ⟨Tsl2_3, vsl2_3_, cssl2_3_, qsl2_3, Hsl2_3, stsl2_3⟩ := zAL Hsl2_1 hx hZ hown (zB hw 58 rfl) (zB hw 59 rfl) (zB hw 60 rfl) (zB hw 61 rfl) (by decide) (argsL := [(.int 16)]) (rest := [(.int 1013904242)]) (W := 1) (zDI l Z a0 hb0 hw _) (by decide) (by decide) (by decide) (by decide) (g := (mkF m 9 #[oa nu, oi 2] [(.int 16), (.int 1013904242)])) rfl (by rw [hml]; rfl) (lenOf zAW rfl) rfl (by show 2 * 0 + _ ≤ _; exact Nat.le_of_eq rfl) (hb hby d7_9)
  obtain ⟨rfl, rfl⟩ := qsl2_3
  have hl14 : ((1013904242 : Int32).toUInt32 >>> ((28 : Int32) &&& 31).toUInt32).toInt32 = (3 : Int32) := by decide
  refine ⟨_, _, _, _, 15, #[oa nu, oi 2], Hsl2_3, by decide, by decide, Or.inr ⟨.int, (.int 3), [], .ireturn, rfl, ⟨rfl, rfl⟩, d7_15, zAe _, fun target q => ?_⟩⟩
  refine zC H0 hx hZ hown hby hw zBb (own_sl2_0 nu) _ ?_
  refine stsl2_1 _ ?_
  refine zAK Hsl2_1 hx hZ 6 rfl (z := (16 : Int32)) rfl (g := (mkF m 8 #[oa nu, oi 2] [(.ref xs), (.int 1013904242)])) rfl rfl (hb hby d7_8) _ ?_
  refine stsl2_3 _ ?_
  refine zC Hsl2_3 hx hZ hown hby hw zBb (own_sl2_1 nu hl14) _ ?_
  exact q
theorem own_sl3_0 (nu : Addr) :
    zF zBA ok2 0 #[oa nu, oi 3] [] 5 #[oa nu, oi 3] [(.ref nu), (.int (-626627285 : Int32))] := by
  refine zM (pc2 := 1) d7_0 rfl rfl ?_
  refine zCi (v := (-1640531527 : Int32)) (pc2 := 3) d7_1 rfl (List.mem_of_getElem? (i := 0) rfl) ?_
  refine zAq (pc2 := 4) d7_3 rfl (v := (-626627285 : Int32)) (by decide) ?_
  refine zJ (pc2 := 5) d7_4 rfl rfl rfl ?_
  exact zH
theorem own_sl3_1 (nu : Addr) (hl14 : (((-626627285 : Int32).toUInt32 >>> ((28 : Int32) &&& 31).toUInt32).toInt32) = (13 : Int32)) :
    zF zBA ok2 12 #[oa nu, oi 3] [(.int 27), (.int (-626627285 : Int32))] 15 #[oa nu, oi 3] [(.int 13)] := by
  refine zT (v := 1) (pc2 := 13) d7_12 rfl rfl ?_
  refine zAI (pc2 := 14) d7_13 rfl (v := (28 : Int32)) (by decide) ?_
  refine zAr (pc2 := 15) d7_14 rfl (v := (13 : Int32)) hl14 ?_
  exact zH
set_option maxRecDepth 65536 in
set_option maxHeartbeats 4000000 in
theorem own_slot3 (l : Launch) (Z : State) (a0 : Array Value) (hb0 : zU) (hw : ∀ d ∈ tables_1, d.before a0 Z = true) (nu : Addr) (u xb xl xp xt xs : Addr) (fb : Int32 → UInt64) (fl fa ft : Int32 → Int32) (kk cc nn : Int32) (s0 s1 s2 s3 : Int32) :
    zX l Z a0 hb0 (⟨"com/example/tidewise/tidewise/search/Numbering", "slot", "(I)I"⟩ : MethodName) ok2 2 (some .int) [] ({ frames := 1, cells := 0, slots := 0, locals := 20 } : Room) #[(.ref nu), (.int 3)] [(u, oc1 (.ref xb) (.ref xl) (.ref xp) (.int kk) (.ref nu) (.int cc)), (xb, zA .double (zK fb)), (xl, zA .int (zE fl)), (xp, zA .int (zE fa)), (nu, oc2 (.int 4) (.ref xt) (.ref xs) (.int nn) .null (.int 0)), (xt, zA .int (zE ft)), (xs, zA .int [.int s0, .int 0, .int 0, .int s2, .int 0, .int 0, .int 0, .int 0, .int 0, .int s1, .int 0, .int 0, .int 0, .int s3, .int 0, .int 0])] (fun r cs' => r = some (.int 13) ∧ cs' = [(u, oc1 (.ref xb) (.ref xl) (.ref xp) (.int kk) (.ref nu) (.int cc)), (xb, zA .double (zK fb)), (xl, zA .int (zE fl)), (xp, zA .int (zE fa)), (nu, oc2 (.int 4) (.ref xt) (.ref xs) (.int nn) .null (.int 0)), (xt, zA .int (zE ft)), (xs, zA .int [.int s0, .int 0, .int 0, .int s2, .int 0, .int 0, .int 0, .int 0, .int 0, .int s1, .int 0, .int 0, .int 0, .int s3, .int 0, .int 0])]) := by
  refine zh (L0 := #[oa nu, oi 3]) (plainFor_of_name zCp) (fun m => zCr m nu (3 : Int32)) ?_
  intro p e s m below meth c T0 hx hZ hown hby hml hnm H0
  obtain ⟨Tsl3_1, Hsl3_1, stsl3_1⟩ := zI H0 hx hZ hown (zB hw 30 rfl) 4 2 rfl rfl (g := (mkF m 5 #[oa nu, oi 3] [(.ref nu), (.int (-626627285 : Int32))])) rfl rfl (hb hby d7_5)
  obtain ⟨Tsl3_3, vsl3_3_, cssl3_3_, qsl3_3, Hsl3_3, stsl3_3⟩ := zAL Hsl3_1 hx hZ hown (zB hw 58 rfl) (zB hw 59 rfl) (zB hw 60 rfl) (zB hw 61 rfl) (by decide) (argsL := [(.int 16)]) (rest := [(.int (-626627285 : Int32))]) (W := 1) (zDI l Z a0 hb0 hw _) (by decide) (by decide) (by decide) (by decide) (g := (mkF m 9 #[oa nu, oi 3] [(.int 16), (.int (-626627285 : Int32))])) rfl (by rw [hml]; rfl) (lenOf zAW rfl) rfl (by show 2 * 0 + _ ≤ _; exact Nat.le_of_eq rfl) (hb hby d7_9)
  obtain ⟨rfl, rfl⟩ := qsl3_3
  have hl14 : ((-626627285 : Int32).toUInt32 >>> ((28 : Int32) &&& 31).toUInt32).toInt32 = (13 : Int32) := by decide
  refine ⟨_, _, _, _, 15, #[oa nu, oi 3], Hsl3_3, by decide, by decide, Or.inr ⟨.int, (.int 13), [], .ireturn, rfl, ⟨rfl, rfl⟩, d7_15, zAe _, fun target q => ?_⟩⟩
  refine zC H0 hx hZ hown hby hw zBb (own_sl3_0 nu) _ ?_
  refine stsl3_1 _ ?_
  refine zAK Hsl3_1 hx hZ 6 rfl (z := (16 : Int32)) rfl (g := (mkF m 8 #[oa nu, oi 3] [(.ref xs), (.int (-626627285 : Int32))])) rfl rfl (hb hby d7_8) _ ?_
  refine stsl3_3 _ ?_
  refine zC Hsl3_3 hx hZ hown hby hw zBb (own_sl3_1 nu hl14) _ ?_
  exact q
theorem own_ct0 (nu : Addr) :
    zF zDY ok5 0 #[oa nu] [] 1 #[oa nu] [(.ref nu)] := by
  refine zJ (pc2 := 1) d5_0 rfl rfl rfl ?_
  exact zH
set_option maxRecDepth 65536 in
set_option maxHeartbeats 4000000 in
theorem zBp (l : Launch) (Z : State) (a0 : Array Value) (hb0 : zU) (hw : ∀ d ∈ tables_1, d.before a0 Z = true) (nu : Addr) (u xb xl xp xt xs : Addr) (fb : Int32 → UInt64) (fl fa ft : Int32 → Int32) (kk cc nn : Int32) (s0 s1 s2 s3 : Int32) :
    zX l Z a0 hb0 (⟨"com/example/tidewise/tidewise/search/Numbering", "count", "()I"⟩ : MethodName) ok5 1 (some .int) [] ({ frames := 0, cells := 0, slots := 0, locals := 0 } : Room) #[(.ref nu)] [(u, oc1 (.ref xb) (.ref xl) (.ref xp) (.int kk) (.ref nu) (.int cc)), (xb, zA .double (zK fb)), (xl, zA .int (zE fl)), (xp, zA .int (zE fa)), (nu, oc2 (.int 4) (.ref xt) (.ref xs) (.int nn) .null (.int 0)), (xt, zA .int (zE ft)), (xs, zA .int [.int s0, .int 0, .int 0, .int s2, .int 0, .int 0, .int 0, .int 0, .int 0, .int s1, .int 0, .int 0, .int 0, .int s3, .int 0, .int 0])] (fun r cs' => r = some (.int nn) ∧ cs' = [(u, oc1 (.ref xb) (.ref xl) (.ref xp) (.int kk) (.ref nu) (.int cc)), (xb, zA .double (zK fb)), (xl, zA .int (zE fl)), (xp, zA .int (zE fa)), (nu, oc2 (.int 4) (.ref xt) (.ref xs) (.int nn) .null (.int 0)), (xt, zA .int (zE ft)), (xs, zA .int [.int s0, .int 0, .int 0, .int s2, .int 0, .int 0, .int 0, .int 0, .int 0, .int s1, .int 0, .int 0, .int 0, .int s3, .int 0, .int 0])]) := by
  refine zh (L0 := #[oa nu]) (plainFor_of_name own_pn5) (fun m => own_ef5 m nu) ?_
  intro p e s m below meth c T0 hx hZ hown hby hml hnm H0
  obtain ⟨Tct1, Hct1, stct1⟩ := zI H0 hx hZ hown (zB hw 44 rfl) 4 3 rfl rfl (g := (mkF m 1 #[oa nu] [(.ref nu)])) rfl rfl (hb hby d5_1)
  refine ⟨_, _, _, _, 4, #[oa nu], Hct1, by decide, by decide, Or.inr ⟨.int, (.int nn), [], .ireturn, rfl, ⟨rfl, rfl⟩, d5_4, zAe _, fun target q => ?_⟩⟩
  refine zC H0 hx hZ hown hby hw own_K5_ok (own_ct0 nu) _ ?_
  refine stct1 _ ?_
  exact q
theorem own_nu00_0 (nu : Addr) :
    zF zV ok4 0 #[oa nu, oi 0, ou, ou, ou] [] 1 #[oa nu, oi 0, ou, ou, ou] [(.ref nu)] := by
  refine zJ (pc2 := 1) d6_0 rfl rfl rfl ?_
  exact zH
theorem own_nu00_1 (nu : Addr) :
    zF zV ok4 4 #[oa nu, oi 0, ou, ou, ou] [.null] 8 #[oa nu, oi 0, ou, ou, ou] [(.ref nu)] := by
  refine zCh (pc2 := 7) d6_4 rfl ?_
  refine zJ (pc2 := 8) d6_7 rfl rfl rfl ?_
  exact zH
theorem own_nu00_2 (nu : Addr) (nn : Int32) :
    zF zV ok4 11 #[oa nu, oi 0, ou, ou, ou] [(.int nn)] 12 #[oa nu, oi 0, ou, ou, ou] [(.ref nu), (.int nn)] := by
  refine zJ (pc2 := 12) d6_11 rfl rfl rfl ?_
  exact zH
theorem own_nu00_3 (nu : Addr) (nn : Int32) (hb16 : if_icmp.holds .ne nn (8 : Int32) = true) :
    zF zV ok4 16 #[oa nu, oi 0, ou, ou, ou] [(.int 8), (.int nn)] 24 #[oa nu, oi 0, ou, ou, ou] [(.ref nu)] := by
  refine zAJ (pc' := 23) d6_16 hb16 (by decide) (by decide) ?_
  refine zJ (pc2 := 24) d6_23 rfl rfl rfl ?_
  exact zH
theorem own_nu00_4 (nu : Addr) :
    zF zV ok4 27 #[oa nu, oi 0, ou, ou, ou] [.null] 81 #[oa nu, oi 0, ou, ou, ou] [(.ref nu)] := by
  refine zCg (pc' := 80) d6_27 (by decide) (by decide) ?_
  refine zJ (pc2 := 81) d6_80 rfl rfl rfl ?_
  exact zH
theorem own_nu00_5 (nu : Addr) :
    zF zV ok4 85 #[oa nu, oi 0, ou, ou, ou] [(.int 16)] 90 #[oa nu, oi 0, oi 15, ou, ou] [(.int 0), (.ref nu)] := by
  refine zT (v := 1) (pc2 := 86) d6_85 rfl rfl ?_
  refine zAU (pc2 := 87) d6_86 rfl (v := (15 : Int32)) (by decide) ?_
  refine zAG (pc2 := 88) d6_87 rfl (L' := #[oa nu, oi 0, oi 15, ou, ou]) rfl ?_
  refine zJ (pc2 := 89) d6_88 rfl rfl rfl ?_
  refine zM (pc2 := 90) d6_89 rfl rfl ?_
  exact zH
theorem own_nu00_6 (nu : Addr) :
    zF zV ok4 93 #[oa nu, oi 0, oi 15, ou, ou] [(.int 0)] 95 #[oa nu, oi 0, oi 15, oi 0, ou] [(.ref nu)] := by
  refine zAG (pc2 := 94) d6_93 rfl (L' := #[oa nu, oi 0, oi 15, oi 0, ou]) rfl ?_
  refine zJ (pc2 := 95) d6_94 rfl rfl rfl ?_
  exact zH
theorem own_nu00_7 (nu : Addr) (xs : Addr) :
    zF zV ok4 98 #[oa nu, oi 0, oi 15, oi 0, ou] [(.ref xs)] 99 #[oa nu, oi 0, oi 15, oi 0, ou] [(.int 0), (.ref xs)] := by
  refine zM (pc2 := 99) d6_98 rfl rfl ?_
  exact zH
theorem own_nu00_8 (nu : Addr) (s0 : Int32) (hb100 : ifCond.holds .eq s0 = false) :
    zF zV ok4 100 #[oa nu, oi 0, oi 15, oi 0, ou] [(.int s0)] 104 #[oa nu, oi 0, oi 15, oi 0, ou] [(.ref nu)] := by
  refine zy (pc2 := 103) d6_100 rfl hb100 ?_
  refine zJ (pc2 := 104) d6_103 rfl rfl rfl ?_
  exact zH
theorem own_nu00_9 (nu : Addr) (xt : Addr) :
    zF zV ok4 107 #[oa nu, oi 0, oi 15, oi 0, ou] [(.ref xt)] 108 #[oa nu, oi 0, oi 15, oi 0, ou] [(.ref nu), (.ref xt)] := by
  refine zJ (pc2 := 108) d6_107 rfl rfl rfl ?_
  exact zH
theorem own_nu00_10 (nu : Addr) (xs : Addr) (xt : Addr) :
    zF zV ok4 111 #[oa nu, oi 0, oi 15, oi 0, ou] [(.ref xs), (.ref xt)] 112 #[oa nu, oi 0, oi 15, oi 0, ou] [(.int 0), (.ref xs), (.ref xt)] := by
  refine zM (pc2 := 112) d6_111 rfl rfl ?_
  exact zH
theorem own_nu00_11 (nu : Addr) (s0 : Int32) (xt : Addr) (v114 : Int32) (hv114 : (s0 - (1 : Int32)) = v114) :
    zF zV ok4 113 #[oa nu, oi 0, oi 15, oi 0, ou] [(.int s0), (.ref xt)] 115 #[oa nu, oi 0, oi 15, oi 0, ou] [(.int v114), (.ref xt)] := by
  refine zT (v := 1) (pc2 := 114) d6_113 rfl rfl ?_
  refine zAU (pc2 := 115) d6_114 rfl (v := v114) hv114 ?_
  exact zH
theorem own_nu00_12 (nu : Addr) (w0 : Int32) (hb117 : if_icmp.holds .eq w0 (0 : Int32) = true) :
    zF zV ok4 116 #[oa nu, oi 0, oi 15, oi 0, ou] [(.int w0)] 130 #[oa nu, oi 0, oi 15, oi 0, ou] [(.ref nu)] := by
  refine zM (pc2 := 117) d6_116 rfl rfl ?_
  refine zAJ (pc' := 129) d6_117 hb117 (by decide) (by decide) ?_
  refine zJ (pc2 := 130) d6_129 rfl rfl rfl ?_
  exact zH
theorem own_nu00_13 (nu : Addr) (xs : Addr) :
    zF zV ok4 133 #[oa nu, oi 0, oi 15, oi 0, ou] [(.ref xs)] 134 #[oa nu, oi 0, oi 15, oi 0, ou] [(.int 0), (.ref xs)] := by
  refine zM (pc2 := 134) d6_133 rfl rfl ?_
  exact zH
theorem own_nu00_14 (nu : Addr) (s0 : Int32) (hb135 : ifCond.holds .eq s0 = false) :
    zF zV ok4 135 #[oa nu, oi 0, oi 15, oi 0, ou] [(.int s0)] 139 #[oa nu, oi 0, oi 15, oi 0, ou] [(.ref nu)] := by
  refine zy (pc2 := 138) d6_135 rfl hb135 ?_
  refine zJ (pc2 := 139) d6_138 rfl rfl rfl ?_
  exact zH
theorem own_nu00_15 (nu : Addr) (xs : Addr) :
    zF zV ok4 142 #[oa nu, oi 0, oi 15, oi 0, ou] [(.ref xs)] 143 #[oa nu, oi 0, oi 15, oi 0, ou] [(.int 0), (.ref xs)] := by
  refine zM (pc2 := 143) d6_142 rfl rfl ?_
  exact zH
theorem own_nu00_16 (nu : Addr) (s0 : Int32) (v145 : Int32) (hv145 : (s0 - (1 : Int32)) = v145) :
    zF zV ok4 144 #[oa nu, oi 0, oi 15, oi 0, ou] [(.int s0)] 146 #[oa nu, oi 0, oi 15, oi 0, ou] [(.int v145)] := by
  refine zT (v := 1) (pc2 := 145) d6_144 rfl rfl ?_
  refine zAU (pc2 := 146) d6_145 rfl (v := v145) hv145 ?_
  exact zH
set_option maxRecDepth 65536 in
set_option maxHeartbeats 4000000 in
theorem own_num00 (l : Launch) (Z : State) (a0 : Array Value) (hb0 : zU) (hw : ∀ d ∈ tables_1, d.before a0 Z = true) (nu : Addr) (u xb xl xp xt xs : Addr) (fb : Int32 → UInt64) (fl fa ft : Int32 → Int32) (kk cc nn : Int32) (s0 s1 s2 s3 : Int32) (hn8 : nn.toInt ≤ 4) (hs : ¬ s0 = 0) (h4 : zG 4 (s0 - (1 : Int32))) (ht : ft (s0 - (1 : Int32)) = (0 : Int32)) :
    zX l Z a0 hb0 (⟨"com/example/tidewise/tidewise/search/Numbering", "number", "(I)I"⟩ : MethodName) ok4 5 (some .int) [] ({ frames := 2, cells := 0, slots := 0, locals := 45 } : Room) #[(.ref nu), (.int 0)] [(u, oc1 (.ref xb) (.ref xl) (.ref xp) (.int kk) (.ref nu) (.int cc)), (xb, zA .double (zK fb)), (xl, zA .int (zE fl)), (xp, zA .int (zE fa)), (nu, oc2 (.int 4) (.ref xt) (.ref xs) (.int nn) .null (.int 0)), (xt, zA .int (zE ft)), (xs, zA .int [.int s0, .int 0, .int 0, .int s2, .int 0, .int 0, .int 0, .int 0, .int 0, .int s1, .int 0, .int 0, .int 0, .int s3, .int 0, .int 0])] (fun r cs' => ∃ z, z = s0 - (1 : Int32) ∧ r = some (.int z) ∧ cs' = [(u, oc1 (.ref xb) (.ref xl) (.ref xp) (.int kk) (.ref nu) (.int cc)), (xb, zA .double (zK fb)), (xl, zA .int (zE fl)), (xp, zA .int (zE fa)), (nu, oc2 (.int 4) (.ref xt) (.ref xs) (.int nn) .null (.int 0)), (xt, zA .int (zE ft)), (xs, zA .int [.int s0, .int 0, .int 0, .int s2, .int 0, .int 0, .int 0, .int 0, .int 0, .int s1, .int 0, .int 0, .int 0, .int s3, .int 0, .int 0])]) := by
  refine zh (L0 := #[oa nu, oi 0, ou, ou, ou]) (plainFor_of_name zBa) (fun m => zBd m nu (0 : Int32)) ?_
  intro p e s m below meth c T0 hx hZ hown hby hml hnm H0
  obtain ⟨Tnu00_1, Hnu00_1, stnu00_1⟩ := zI H0 hx hZ hown (zB hw 51 rfl) 4 4 rfl rfl (g := (mkF m 1 #[oa nu, oi 0, ou, ou, ou] [(.ref nu)])) rfl rfl (hb hby d6_1)
  obtain ⟨Tnu00_2, Hnu00_2, stnu00_2⟩ := zI Hnu00_1 hx hZ hown (zB hw 44 rfl) 4 3 rfl rfl (g := (mkF m 8 #[oa nu, oi 0, ou, ou, ou] [(.ref nu)])) rfl rfl (hb hby d6_8)
  obtain ⟨Tnu00_3, Hnu00_3, stnu00_3⟩ := zI Hnu00_2 hx hZ hown (zB hw 28 rfl) 4 1 rfl rfl (g := (mkF m 12 #[oa nu, oi 0, ou, ou, ou] [(.ref nu), (.int nn)])) rfl rfl (hb hby d6_12)
  obtain ⟨Tnu00_5, Hnu00_5, stnu00_5⟩ := zI Hnu00_3 hx hZ hown (zB hw 51 rfl) 4 4 rfl rfl (g := (mkF m 24 #[oa nu, oi 0, ou, ou, ou] [(.ref nu)])) rfl rfl (hb hby d6_24)
  obtain ⟨Tnu00_6, Hnu00_6, stnu00_6⟩ := zI Hnu00_5 hx hZ hown (zB hw 30 rfl) 4 2 rfl rfl (g := (mkF m 81 #[oa nu, oi 0, ou, ou, ou] [(.ref nu)])) rfl rfl (hb hby d6_81)
  obtain ⟨Tnu00_8, vnu00_8_, csnu00_8_, qnu00_8, Hnu00_8, stnu00_8⟩ := zo Hnu00_6 hx hZ hown (zB hw 53 rfl) (zB hw 54 rfl) (zB hw 55 rfl) (zB hw 20 rfl) (zB hw 21 rfl) (zB hw 56 rfl) (by decide) (x := nu) 4 rfl (argsL := [(.int 0)]) (rest := []) (W := 0) (own_slot0 l Z a0 hb0 hw nu u xb xl xp xt xs fb fl fa ft kk cc nn s0 s1 s2 s3) (by decide) (by decide) (by decide) (by decide) (g := (mkF m 90 #[oa nu, oi 0, oi 15, ou, ou] [(.int 0), (.ref nu)])) rfl (by rw [hml]; rfl) (lenOf zAW rfl) rfl (by show 2 * 0 + _ ≤ _; exact Nat.le_of_eq rfl) (hb hby d6_90)
  obtain ⟨rfl, rfl⟩ := qnu00_8
  obtain ⟨Tnu00_9, Hnu00_9, stnu00_9⟩ := zI Hnu00_8 hx hZ hown (zB hw 30 rfl) 4 2 rfl rfl (g := (mkF m 95 #[oa nu, oi 0, oi 15, oi 0, ou] [(.ref nu)])) rfl rfl (hb hby d6_95)
  obtain ⟨Tnu00_11, Hnu00_11, stnu00_11⟩ := zI Hnu00_9 hx hZ hown (zB hw 28 rfl) 4 1 rfl rfl (g := (mkF m 104 #[oa nu, oi 0, oi 15, oi 0, ou] [(.ref nu)])) rfl rfl (hb hby d6_104)
  obtain ⟨Tnu00_12, Hnu00_12, stnu00_12⟩ := zI Hnu00_11 hx hZ hown (zB hw 30 rfl) 4 2 rfl rfl (g := (mkF m 108 #[oa nu, oi 0, oi 15, oi 0, ou] [(.ref nu), (.ref xt)])) rfl rfl (hb hby d6_108)
  obtain ⟨v114, hv114⟩ : ∃ z : Int32, (s0 - (1 : Int32)) = z := ⟨_, rfl⟩
  have h4' : zG 4 v114 := by rw [← hv114]; exact h4
  obtain ⟨w0, hw0⟩ : ∃ z, ft v114 = z := ⟨_, rfl⟩
  obtain ⟨Tnu00_15, Hnu00_15, stnu00_15⟩ := zI Hnu00_12 hx hZ hown (zB hw 30 rfl) 4 2 rfl rfl (g := (mkF m 130 #[oa nu, oi 0, oi 15, oi 0, ou] [(.ref nu)])) rfl rfl (hb hby d6_130)
  obtain ⟨Tnu00_17, Hnu00_17, stnu00_17⟩ := zI Hnu00_15 hx hZ hown (zB hw 30 rfl) 4 2 rfl rfl (g := (mkF m 139 #[oa nu, oi 0, oi 15, oi 0, ou] [(.ref nu)])) rfl rfl (hb hby d6_139)
  obtain ⟨v145, hv145⟩ : ∃ z : Int32, (s0 - (1 : Int32)) = z := ⟨_, rfl⟩
  have hb16 : if_icmp.holds .ne nn (8 : Int32) = true := by rw [zAQ]; exact decide_eq_true (fun z => by rw [z] at hn8; exact absurd hn8 (by decide))
  have hb100 : ifCond.holds .eq s0 = false := by rw [zBY]; exact decide_eq_false hs
  have hb135 : ifCond.holds .eq s0 = false := hb100
  have hb117 : if_icmp.holds .eq w0 (0 : Int32) = true := by rw [zCb]; exact decide_eq_true (by rw [← hw0, ← hv114]; exact ht)
  refine ⟨_, _, _, _, 146, #[oa nu, oi 0, oi 15, oi 0, ou], Hnu00_17, by decide, by decide, Or.inr ⟨.int, (.int v145), [], .ireturn, rfl, ⟨v145, hv145.symm, rfl, rfl⟩, d6_146, zAe _, fun target q => ?_⟩⟩
  refine zC H0 hx hZ hown hby hw zP (own_nu00_0 nu) _ ?_
  refine stnu00_1 _ ?_
  refine zC Hnu00_1 hx hZ hown hby hw zP (own_nu00_1 nu) _ ?_
  refine stnu00_2 _ ?_
  refine zC Hnu00_2 hx hZ hown hby hw zP (own_nu00_2 nu nn) _ ?_
  refine stnu00_3 _ ?_
  refine zAK Hnu00_3 hx hZ 5 rfl (z := (8 : Int32)) rfl (g := (mkF m 15 #[oa nu, oi 0, ou, ou, ou] [(.ref xt), (.int nn)])) rfl rfl (hb hby d6_15) _ ?_
  refine zC Hnu00_3 hx hZ hown hby hw zP (own_nu00_3 nu nn hb16) _ ?_
  refine stnu00_5 _ ?_
  refine zC Hnu00_5 hx hZ hown hby hw zP (own_nu00_4 nu) _ ?_
  refine stnu00_6 _ ?_
  refine zAK Hnu00_6 hx hZ 6 rfl (z := (16 : Int32)) rfl (g := (mkF m 84 #[oa nu, oi 0, ou, ou, ou] [(.ref xs)])) rfl rfl (hb hby d6_84) _ ?_
  refine zC Hnu00_6 hx hZ hown hby hw zP (own_nu00_5 nu) _ ?_
  refine stnu00_8 _ ?_
  refine zC Hnu00_8 hx hZ hown hby hw zP (own_nu00_6 nu) _ ?_
  refine stnu00_9 _ ?_
  refine zC Hnu00_9 hx hZ hown hby hw zP (own_nu00_7 nu xs) _ ?_
  refine zAF Hnu00_9 hx hZ 6 0 rfl (by decide) rfl (g := (mkF m 99 #[oa nu, oi 0, oi 15, oi 0, ou] [(.int 0), (.ref xs)])) rfl rfl (hb hby d6_99) _ ?_
  refine zC Hnu00_9 hx hZ hown hby hw zP (own_nu00_8 nu s0 hb100) _ ?_
  refine stnu00_11 _ ?_
  refine zC Hnu00_11 hx hZ hown hby hw zP (own_nu00_9 nu xt) _ ?_
  refine stnu00_12 _ ?_
  refine zC Hnu00_12 hx hZ hown hby hw zP (own_nu00_10 nu xs xt) _ ?_
  refine zAF Hnu00_12 hx hZ 6 0 rfl (by decide) rfl (g := (mkF m 112 #[oa nu, oi 0, oi 15, oi 0, ou] [(.int 0), (.ref xs), (.ref xt)])) rfl rfl (hb hby d6_112) _ ?_
  refine zC Hnu00_12 hx hZ hown hby hw zP (own_nu00_11 nu s0 xt v114 hv114) _ ?_
  refine zf Hnu00_12 hx hZ 5 rfl h4' hw0 (g := (mkF m 115 #[oa nu, oi 0, oi 15, oi 0, ou] [(.int v114), (.ref xt)])) rfl rfl (hb hby d6_115) _ ?_
  refine zC Hnu00_12 hx hZ hown hby hw zP (own_nu00_12 nu w0 hb117) _ ?_
  refine stnu00_15 _ ?_
  refine zC Hnu00_15 hx hZ hown hby hw zP (own_nu00_13 nu xs) _ ?_
  refine zAF Hnu00_15 hx hZ 6 0 rfl (by decide) rfl (g := (mkF m 134 #[oa nu, oi 0, oi 15, oi 0, ou] [(.int 0), (.ref xs)])) rfl rfl (hb hby d6_134) _ ?_
  refine zC Hnu00_15 hx hZ hown hby hw zP (own_nu00_14 nu s0 hb135) _ ?_
  refine stnu00_17 _ ?_
  refine zC Hnu00_17 hx hZ hown hby hw zP (own_nu00_15 nu xs) _ ?_
  refine zAF Hnu00_17 hx hZ 6 0 rfl (by decide) rfl (g := (mkF m 143 #[oa nu, oi 0, oi 15, oi 0, ou] [(.int 0), (.ref xs)])) rfl rfl (hb hby d6_143) _ ?_
  refine zC Hnu00_17 hx hZ hown hby hw zP (own_nu00_16 nu s0 v145 hv145) _ ?_
  exact q
theorem own_nu01_8 (nu : Addr) (s0 : Int32) (hb100 : ifCond.holds .eq s0 = true) :
    zF zV ok4 100 #[oa nu, oi 0, oi 15, oi 0, ou] [(.int s0)] 130 #[oa nu, oi 0, oi 15, oi 0, ou] [(.ref nu)] := by
  refine zx (pc' := 129) d6_100 hb100 (by decide) (by decide) ?_
  refine zJ (pc2 := 130) d6_129 rfl rfl rfl ?_
  exact zH
theorem own_nu01_10 (nu : Addr) (s0 : Int32) (hb135 : ifCond.holds .eq s0 = true) :
    zF zV ok4 135 #[oa nu, oi 0, oi 15, oi 0, ou] [(.int s0)] 148 #[oa nu, oi 0, oi 15, oi 0, ou] [(.ref nu)] := by
  refine zx (pc' := 147) d6_135 hb135 (by decide) (by decide) ?_
  refine zJ (pc2 := 148) d6_147 rfl rfl rfl ?_
  exact zH
theorem own_nu01_11 (nu : Addr) (xt : Addr) :
    zF zV ok4 151 #[oa nu, oi 0, oi 15, oi 0, ou] [(.ref xt)] 152 #[oa nu, oi 0, oi 15, oi 0, ou] [(.ref nu), (.ref xt)] := by
  refine zJ (pc2 := 152) d6_151 rfl rfl rfl ?_
  exact zH
theorem own_nu01_12 (nu : Addr) (nn : Int32) (xt : Addr) :
    zF zV ok4 155 #[oa nu, oi 0, oi 15, oi 0, ou] [(.int nn), (.ref xt)] 156 #[oa nu, oi 0, oi 15, oi 0, ou] [(.int 0), (.int nn), (.ref xt)] := by
  refine zM (pc2 := 156) d6_155 rfl rfl ?_
  exact zH
theorem own_nu01_13 (nu : Addr) :
    zF zV ok4 157 #[oa nu, oi 0, oi 15, oi 0, ou] [] 158 #[oa nu, oi 0, oi 15, oi 0, ou] [(.ref nu)] := by
  refine zJ (pc2 := 158) d6_157 rfl rfl rfl ?_
  exact zH
theorem own_nu01_14 (nu : Addr) (xs : Addr) :
    zF zV ok4 161 #[oa nu, oi 0, oi 15, oi 0, ou] [(.ref xs)] 163 #[oa nu, oi 0, oi 15, oi 0, ou] [(.ref nu), (.int 0), (.ref xs)] := by
  refine zM (pc2 := 162) d6_161 rfl rfl ?_
  refine zJ (pc2 := 163) d6_162 rfl rfl rfl ?_
  exact zH
theorem own_nu01_15 (nu : Addr) (nn : Int32) (xs : Addr) (v167 : Int32) (hv167 : (nn + (1 : Int32)) = v167) :
    zF zV ok4 166 #[oa nu, oi 0, oi 15, oi 0, ou] [(.int nn), (.int 0), (.ref xs)] 168 #[oa nu, oi 0, oi 15, oi 0, ou] [(.int v167), (.int 0), (.ref xs)] := by
  refine zT (v := 1) (pc2 := 167) d6_166 rfl rfl ?_
  refine zAI (pc2 := 168) d6_167 rfl (v := v167) hv167 ?_
  exact zH
theorem own_nu01_16 (nu : Addr) :
    zF zV ok4 169 #[oa nu, oi 0, oi 15, oi 0, ou] [] 171 #[oa nu, oi 0, oi 15, oi 0, ou] [(.ref nu), (.ref nu)] := by
  refine zJ (pc2 := 170) d6_169 rfl rfl rfl ?_
  refine zBh (pc2 := 171) d6_170 rfl rfl ?_
  exact zH
theorem own_nu01_17 (nu : Addr) (nn : Int32) (v176 : Int32) (hv176 : (nn + (1 : Int32)) = v176) :
    zF zV ok4 174 #[oa nu, oi 0, oi 15, oi 0, ou] [(.int nn), (.ref nu)] 177 #[oa nu, oi 0, oi 15, oi 0, ou] [(.int v176), (.ref nu), (.int nn)] := by
  refine zCK (pc2 := 175) d6_174 rfl rfl rfl ?_
  refine zT (v := 1) (pc2 := 176) d6_175 rfl rfl ?_
  refine zAI (pc2 := 177) d6_176 rfl (v := v176) hv176 ?_
  exact zH
set_option maxRecDepth 65536 in
set_option maxHeartbeats 4000000 in
theorem own_num01 (l : Launch) (Z : State) (a0 : Array Value) (hb0 : zU) (hw : ∀ d ∈ tables_1, d.before a0 Z = true) (nu : Addr) (u xb xl xp xt xs : Addr) (fb : Int32 → UInt64) (fl fa ft : Int32 → Int32) (kk cc nn : Int32) (s0 s1 s2 s3 : Int32) (hn8 : nn.toInt ≤ 4) (hs : s0 = 0) (h4 : zG 4 nn) :
    zX l Z a0 hb0 (⟨"com/example/tidewise/tidewise/search/Numbering", "number", "(I)I"⟩ : MethodName) ok4 5 (some .int) [] ({ frames := 2, cells := 0, slots := 0, locals := 45 } : Room) #[(.ref nu), (.int 0)] [(u, oc1 (.ref xb) (.ref xl) (.ref xp) (.int kk) (.ref nu) (.int cc)), (xb, zA .double (zK fb)), (xl, zA .int (zE fl)), (xp, zA .int (zE fa)), (nu, oc2 (.int 4) (.ref xt) (.ref xs) (.int nn) .null (.int 0)), (xt, zA .int (zE ft)), (xs, zA .int [.int s0, .int 0, .int 0, .int s2, .int 0, .int 0, .int 0, .int 0, .int 0, .int s1, .int 0, .int 0, .int 0, .int s3, .int 0, .int 0])] (fun r cs' => r = some (.int nn) ∧ cs' = [(u, oc1 (.ref xb) (.ref xl) (.ref xp) (.int kk) (.ref nu) (.int cc)), (xb, zA .double (zK fb)), (xl, zA .int (zE fl)), (xp, zA .int (zE fa)), (nu, oc2 (.int 4) (.ref xt) (.ref xs) (.int (nn + (1 : Int32))) .null (.int 0)), (xt, zA .int (zE (zD ft nn (0 : Int32)))), (xs, zA .int [.int (nn + (1 : Int32)), .int 0, .int 0, .int s2, .int 0, .int 0, .int 0, .int 0, .int 0, .int s1, .int 0, .int 0, .int 0, .int s3, .int 0, .int 0])]) := by
  refine zh (L0 := #[oa nu, oi 0, ou, ou, ou]) (plainFor_of_name zBa) (fun m => zBd m nu (0 : Int32)) ?_
  intro p e s m below meth c T0 hx hZ hown hby hml hnm H0
  obtain ⟨Tnu01_1, Hnu01_1, stnu01_1⟩ := zI H0 hx hZ hown (zB hw 51 rfl) 4 4 rfl rfl (g := (mkF m 1 #[oa nu, oi 0, ou, ou, ou] [(.ref nu)])) rfl rfl (hb hby d6_1)
  obtain ⟨Tnu01_2, Hnu01_2, stnu01_2⟩ := zI Hnu01_1 hx hZ hown (zB hw 44 rfl) 4 3 rfl rfl (g := (mkF m 8 #[oa nu, oi 0, ou, ou, ou] [(.ref nu)])) rfl rfl (hb hby d6_8)
  obtain ⟨Tnu01_3, Hnu01_3, stnu01_3⟩ := zI Hnu01_2 hx hZ hown (zB hw 28 rfl) 4 1 rfl rfl (g := (mkF m 12 #[oa nu, oi 0, ou, ou, ou] [(.ref nu), (.int nn)])) rfl rfl (hb hby d6_12)
  obtain ⟨Tnu01_5, Hnu01_5, stnu01_5⟩ := zI Hnu01_3 hx hZ hown (zB hw 51 rfl) 4 4 rfl rfl (g := (mkF m 24 #[oa nu, oi 0, ou, ou, ou] [(.ref nu)])) rfl rfl (hb hby d6_24)
  obtain ⟨Tnu01_6, Hnu01_6, stnu01_6⟩ := zI Hnu01_5 hx hZ hown (zB hw 30 rfl) 4 2 rfl rfl (g := (mkF m 81 #[oa nu, oi 0, ou, ou, ou] [(.ref nu)])) rfl rfl (hb hby d6_81)
  obtain ⟨Tnu01_8, vnu01_8_, csnu01_8_, qnu01_8, Hnu01_8, stnu01_8⟩ := zo Hnu01_6 hx hZ hown (zB hw 53 rfl) (zB hw 54 rfl) (zB hw 55 rfl) (zB hw 20 rfl) (zB hw 21 rfl) (zB hw 56 rfl) (by decide) (x := nu) 4 rfl (argsL := [(.int 0)]) (rest := []) (W := 0) (own_slot0 l Z a0 hb0 hw nu u xb xl xp xt xs fb fl fa ft kk cc nn s0 s1 s2 s3) (by decide) (by decide) (by decide) (by decide) (g := (mkF m 90 #[oa nu, oi 0, oi 15, ou, ou] [(.int 0), (.ref nu)])) rfl (by rw [hml]; rfl) (lenOf zAW rfl) rfl (by show 2 * 0 + _ ≤ _; exact Nat.le_of_eq rfl) (hb hby d6_90)
  obtain ⟨rfl, rfl⟩ := qnu01_8
  obtain ⟨Tnu01_9, Hnu01_9, stnu01_9⟩ := zI Hnu01_8 hx hZ hown (zB hw 30 rfl) 4 2 rfl rfl (g := (mkF m 95 #[oa nu, oi 0, oi 15, oi 0, ou] [(.ref nu)])) rfl rfl (hb hby d6_95)
  obtain ⟨Tnu01_11, Hnu01_11, stnu01_11⟩ := zI Hnu01_9 hx hZ hown (zB hw 30 rfl) 4 2 rfl rfl (g := (mkF m 130 #[oa nu, oi 0, oi 15, oi 0, ou] [(.ref nu)])) rfl rfl (hb hby d6_130)
  obtain ⟨Tnu01_13, Hnu01_13, stnu01_13⟩ := zI Hnu01_11 hx hZ hown (zB hw 28 rfl) 4 1 rfl rfl (g := (mkF m 148 #[oa nu, oi 0, oi 15, oi 0, ou] [(.ref nu)])) rfl rfl (hb hby d6_148)
  obtain ⟨Tnu01_14, Hnu01_14, stnu01_14⟩ := zI Hnu01_13 hx hZ hown (zB hw 44 rfl) 4 3 rfl rfl (g := (mkF m 152 #[oa nu, oi 0, oi 15, oi 0, ou] [(.ref nu), (.ref xt)])) rfl rfl (hb hby d6_152)
  obtain ⟨Tnu01_15, Hnu01_15, stnu01_15⟩ := zAs Hnu01_14 hx hZ 5 rfl h4 (g := (mkF m 156 #[oa nu, oi 0, oi 15, oi 0, ou] [(.int 0), (.int nn), (.ref xt)])) rfl rfl (hb hby d6_156)
  change zR _ _ _ _ _ _ _ _ _ _ _ _ _ _ [(u, oc1 (.ref xb) (.ref xl) (.ref xp) (.int kk) (.ref nu) (.int cc)), (xb, zA .double (zK fb)), (xl, zA .int (zE fl)), (xp, zA .int (zE fa)), (nu, oc2 (.int 4) (.ref xt) (.ref xs) (.int nn) .null (.int 0)), (xt, zA .int (zE (zD ft nn (0 : Int32)))), (xs, zA .int [.int s0, .int 0, .int 0, .int s2, .int 0, .int 0, .int 0, .int 0, .int 0, .int s1, .int 0, .int 0, .int 0, .int s3, .int 0, .int 0])] _ _ at Hnu01_15
  obtain ⟨Tnu01_16, Hnu01_16, stnu01_16⟩ := zI Hnu01_15 hx hZ hown (zB hw 30 rfl) 4 2 rfl rfl (g := (mkF m 158 #[oa nu, oi 0, oi 15, oi 0, ou] [(.ref nu)])) rfl rfl (hb hby d6_158)
  obtain ⟨Tnu01_17, Hnu01_17, stnu01_17⟩ := zI Hnu01_16 hx hZ hown (zB hw 44 rfl) 4 3 rfl rfl (g := (mkF m 163 #[oa nu, oi 0, oi 15, oi 0, ou] [(.ref nu), (.int 0), (.ref xs)])) rfl rfl (hb hby d6_163)
  obtain ⟨v167, hv167⟩ : ∃ z : Int32, (nn + (1 : Int32)) = z := ⟨_, rfl⟩
  obtain ⟨Tnu01_18, Hnu01_18, stnu01_18⟩ := zBZ Hnu01_17 hx hZ 6 0 rfl (by decide) (Nat.le_of_ble_eq_true rfl) (g := (mkF m 168 #[oa nu, oi 0, oi 15, oi 0, ou] [(.int v167), (.int 0), (.ref xs)])) rfl rfl (hb hby d6_168)
  change zR _ _ _ _ _ _ _ _ _ _ _ _ _ _ [(u, oc1 (.ref xb) (.ref xl) (.ref xp) (.int kk) (.ref nu) (.int cc)), (xb, zA .double (zK fb)), (xl, zA .int (zE fl)), (xp, zA .int (zE fa)), (nu, oc2 (.int 4) (.ref xt) (.ref xs) (.int nn) .null (.int 0)), (xt, zA .int (zE (zD ft nn (0 : Int32)))), (xs, zA .int [.int v167, .int 0, .int 0, .int s2, .int 0, .int 0, .int 0, .int 0, .int 0, .int s1, .int 0, .int 0, .int 0, .int s3, .int 0, .int 0])] _ _ at Hnu01_18
  obtain ⟨Tnu01_19, Hnu01_19, stnu01_19⟩ := zI Hnu01_18 hx hZ hown (zB hw 44 rfl) 4 3 rfl rfl (g := (mkF m 171 #[oa nu, oi 0, oi 15, oi 0, ou] [(.ref nu), (.ref nu)])) rfl rfl (hb hby d6_171)
  obtain ⟨v176, hv176⟩ : ∃ z : Int32, (nn + (1 : Int32)) = z := ⟨_, rfl⟩
  obtain ⟨Tnu01_20, Hnu01_20, stnu01_20⟩ := zAl Hnu01_19 hx hZ hown (zB hw 44 rfl) 4 3 rfl rfl (Or.inl (zB hw 45 rfl)) (zB hw 20 rfl) (ty := .int) (by decide) rfl rfl (g := (mkF m 177 #[oa nu, oi 0, oi 15, oi 0, ou] [(.int v176), (.ref nu), (.int nn)])) rfl rfl (hb hby d6_177)
  change zR _ _ _ _ _ _ _ _ _ _ _ _ _ _ [(u, oc1 (.ref xb) (.ref xl) (.ref xp) (.int kk) (.ref nu) (.int cc)), (xb, zA .double (zK fb)), (xl, zA .int (zE fl)), (xp, zA .int (zE fa)), (nu, oc2 (.int 4) (.ref xt) (.ref xs) (.int v176) .null (.int 0)), (xt, zA .int (zE (zD ft nn (0 : Int32)))), (xs, zA .int [.int v167, .int 0, .int 0, .int s2, .int 0, .int 0, .int 0, .int 0, .int 0, .int s1, .int 0, .int 0, .int 0, .int s3, .int 0, .int 0])] _ _ at Hnu01_20
  have hb16 : if_icmp.holds .ne nn (8 : Int32) = true := by rw [zAQ]; exact decide_eq_true (fun z => by rw [z] at hn8; exact absurd hn8 (by decide))
  have hb100 : ifCond.holds .eq s0 = true := by rw [zBY]; exact decide_eq_true hs
  have hb135 : ifCond.holds .eq s0 = true := hb100
  refine ⟨_, _, _, _, 180, #[oa nu, oi 0, oi 15, oi 0, ou], Hnu01_20, by decide, by decide, Or.inr ⟨.int, (.int nn), [], .ireturn, rfl, ⟨rfl, by rw [← hv167, ← hv176]⟩, d6_180, zAe _, fun target q => ?_⟩⟩
  refine zC H0 hx hZ hown hby hw zP (own_nu00_0 nu) _ ?_
  refine stnu01_1 _ ?_
  refine zC Hnu01_1 hx hZ hown hby hw zP (own_nu00_1 nu) _ ?_
  refine stnu01_2 _ ?_
  refine zC Hnu01_2 hx hZ hown hby hw zP (own_nu00_2 nu nn) _ ?_
  refine stnu01_3 _ ?_
  refine zAK Hnu01_3 hx hZ 5 rfl (z := (8 : Int32)) rfl (g := (mkF m 15 #[oa nu, oi 0, ou, ou, ou] [(.ref xt), (.int nn)])) rfl rfl (hb hby d6_15) _ ?_
  refine zC Hnu01_3 hx hZ hown hby hw zP (own_nu00_3 nu nn hb16) _ ?_
  refine stnu01_5 _ ?_
  refine zC Hnu01_5 hx hZ hown hby hw zP (own_nu00_4 nu) _ ?_
  refine stnu01_6 _ ?_
  refine zAK Hnu01_6 hx hZ 6 rfl (z := (16 : Int32)) rfl (g := (mkF m 84 #[oa nu, oi 0, ou, ou, ou] [(.ref xs)])) rfl rfl (hb hby d6_84) _ ?_
  refine zC Hnu01_6 hx hZ hown hby hw zP (own_nu00_5 nu) _ ?_
  refine stnu01_8 _ ?_
  refine zC Hnu01_8 hx hZ hown hby hw zP (own_nu00_6 nu) _ ?_
  refine stnu01_9 _ ?_
  refine zC Hnu01_9 hx hZ hown hby hw zP (own_nu00_7 nu xs) _ ?_
  refine zAF Hnu01_9 hx hZ 6 0 rfl (by decide) rfl (g := (mkF m 99 #[oa nu, oi 0, oi 15, oi 0, ou] [(.int 0), (.ref xs)])) rfl rfl (hb hby d6_99) _ ?_
  refine zC Hnu01_9 hx hZ hown hby hw zP (own_nu01_8 nu s0 hb100) _ ?_
  refine stnu01_11 _ ?_
  refine zC Hnu01_11 hx hZ hown hby hw zP (own_nu00_13 nu xs) _ ?_
  refine zAF Hnu01_11 hx hZ 6 0 rfl (by decide) rfl (g := (mkF m 134 #[oa nu, oi 0, oi 15, oi 0, ou] [(.int 0), (.ref xs)])) rfl rfl (hb hby d6_134) _ ?_
  refine zC Hnu01_11 hx hZ hown hby hw zP (own_nu01_10 nu s0 hb135) _ ?_
  refine stnu01_13 _ ?_
  refine zC Hnu01_13 hx hZ hown hby hw zP (own_nu01_11 nu xt) _ ?_
  refine stnu01_14 _ ?_
  refine zC Hnu01_14 hx hZ hown hby hw zP (own_nu01_12 nu nn xt) _ ?_
  refine stnu01_15 _ ?_
  refine zC Hnu01_15 hx hZ hown hby hw zP (own_nu01_13 nu) _ ?_
  refine stnu01_16 _ ?_
  refine zC Hnu01_16 hx hZ hown hby hw zP (own_nu01_14 nu xs) _ ?_
  refine stnu01_17 _ ?_
  refine zC Hnu01_17 hx hZ hown hby hw zP (own_nu01_15 nu nn xs v167 hv167) _ ?_
  refine stnu01_18 _ ?_
  refine zC Hnu01_18 hx hZ hown hby hw zP (own_nu01_16 nu) _ ?_
  refine stnu01_19 _ ?_
  refine zC Hnu01_19 hx hZ hown hby hw zP (own_nu01_17 nu nn v176 hv176) _ ?_
  refine stnu01_20 _ ?_
  exact q
theorem own_nu10_0 (nu : Addr) :
    zF zV ok4 0 #[oa nu, oi 1, ou, ou, ou] [] 1 #[oa nu, oi 1, ou, ou, ou] [(.ref nu)] := by
  refine zJ (pc2 := 1) d6_0 rfl rfl rfl ?_
  exact zH
theorem own_nu10_1 (nu : Addr) :
    zF zV ok4 4 #[oa nu, oi 1, ou, ou, ou] [.null] 8 #[oa nu, oi 1, ou, ou, ou] [(.ref nu)] := by
  refine zCh (pc2 := 7) d6_4 rfl ?_
  refine zJ (pc2 := 8) d6_7 rfl rfl rfl ?_
  exact zH
theorem own_nu10_2 (nu : Addr) (nn : Int32) :
    zF zV ok4 11 #[oa nu, oi 1, ou, ou, ou] [(.int nn)] 12 #[oa nu, oi 1, ou, ou, ou] [(.ref nu), (.int nn)] := by
  refine zJ (pc2 := 12) d6_11 rfl rfl rfl ?_
  exact zH
theorem own_nu10_3 (nu : Addr) (nn : Int32) (hb16 : if_icmp.holds .ne nn (8 : Int32) = true) :
    zF zV ok4 16 #[oa nu, oi 1, ou, ou, ou] [(.int 8), (.int nn)] 24 #[oa nu, oi 1, ou, ou, ou] [(.ref nu)] := by
  refine zAJ (pc' := 23) d6_16 hb16 (by decide) (by decide) ?_
  refine zJ (pc2 := 24) d6_23 rfl rfl rfl ?_
  exact zH
theorem own_nu10_4 (nu : Addr) :
    zF zV ok4 27 #[oa nu, oi 1, ou, ou, ou] [.null] 81 #[oa nu, oi 1, ou, ou, ou] [(.ref nu)] := by
  refine zCg (pc' := 80) d6_27 (by decide) (by decide) ?_
  refine zJ (pc2 := 81) d6_80 rfl rfl rfl ?_
  exact zH
theorem own_nu10_5 (nu : Addr) :
    zF zV ok4 85 #[oa nu, oi 1, ou, ou, ou] [(.int 16)] 90 #[oa nu, oi 1, oi 15, ou, ou] [(.int 1), (.ref nu)] := by
  refine zT (v := 1) (pc2 := 86) d6_85 rfl rfl ?_
  refine zAU (pc2 := 87) d6_86 rfl (v := (15 : Int32)) (by decide) ?_
  refine zAG (pc2 := 88) d6_87 rfl (L' := #[oa nu, oi 1, oi 15, ou, ou]) rfl ?_
  refine zJ (pc2 := 89) d6_88 rfl rfl rfl ?_
  refine zM (pc2 := 90) d6_89 rfl rfl ?_
  exact zH
theorem own_nu10_6 (nu : Addr) :
    zF zV ok4 93 #[oa nu, oi 1, oi 15, ou, ou] [(.int 9)] 95 #[oa nu, oi 1, oi 15, oi 9, ou] [(.ref nu)] := by
  refine zAG (pc2 := 94) d6_93 rfl (L' := #[oa nu, oi 1, oi 15, oi 9, ou]) rfl ?_
  refine zJ (pc2 := 95) d6_94 rfl rfl rfl ?_
  exact zH
theorem own_nu10_7 (nu : Addr) (xs : Addr) :
    zF zV ok4 98 #[oa nu, oi 1, oi 15, oi 9, ou] [(.ref xs)] 99 #[oa nu, oi 1, oi 15, oi 9, ou] [(.int 9), (.ref xs)] := by
  refine zM (pc2 := 99) d6_98 rfl rfl ?_
  exact zH
theorem own_nu10_8 (nu : Addr) (s1 : Int32) (hb100 : ifCond.holds .eq s1 = false) :
    zF zV ok4 100 #[oa nu, oi 1, oi 15, oi 9, ou] [(.int s1)] 104 #[oa nu, oi 1, oi 15, oi 9, ou] [(.ref nu)] := by
  refine zy (pc2 := 103) d6_100 rfl hb100 ?_
  refine zJ (pc2 := 104) d6_103 rfl rfl rfl ?_
  exact zH
theorem own_nu10_9 (nu : Addr) (xt : Addr) :
    zF zV ok4 107 #[oa nu, oi 1, oi 15, oi 9, ou] [(.ref xt)] 108 #[oa nu, oi 1, oi 15, oi 9, ou] [(.ref nu), (.ref xt)] := by
  refine zJ (pc2 := 108) d6_107 rfl rfl rfl ?_
  exact zH
theorem own_nu10_10 (nu : Addr) (xs : Addr) (xt : Addr) :
    zF zV ok4 111 #[oa nu, oi 1, oi 15, oi 9, ou] [(.ref xs), (.ref xt)] 112 #[oa nu, oi 1, oi 15, oi 9, ou] [(.int 9), (.ref xs), (.ref xt)] := by
  refine zM (pc2 := 112) d6_111 rfl rfl ?_
  exact zH
theorem own_nu10_11 (nu : Addr) (s1 : Int32) (xt : Addr) (v114 : Int32) (hv114 : (s1 - (1 : Int32)) = v114) :
    zF zV ok4 113 #[oa nu, oi 1, oi 15, oi 9, ou] [(.int s1), (.ref xt)] 115 #[oa nu, oi 1, oi 15, oi 9, ou] [(.int v114), (.ref xt)] := by
  refine zT (v := 1) (pc2 := 114) d6_113 rfl rfl ?_
  refine zAU (pc2 := 115) d6_114 rfl (v := v114) hv114 ?_
  exact zH
theorem own_nu10_12 (nu : Addr) (w0 : Int32) (hb117 : if_icmp.holds .eq w0 (1 : Int32) = true) :
    zF zV ok4 116 #[oa nu, oi 1, oi 15, oi 9, ou] [(.int w0)] 130 #[oa nu, oi 1, oi 15, oi 9, ou] [(.ref nu)] := by
  refine zM (pc2 := 117) d6_116 rfl rfl ?_
  refine zAJ (pc' := 129) d6_117 hb117 (by decide) (by decide) ?_
  refine zJ (pc2 := 130) d6_129 rfl rfl rfl ?_
  exact zH
theorem own_nu10_13 (nu : Addr) (xs : Addr) :
    zF zV ok4 133 #[oa nu, oi 1, oi 15, oi 9, ou] [(.ref xs)] 134 #[oa nu, oi 1, oi 15, oi 9, ou] [(.int 9), (.ref xs)] := by
  refine zM (pc2 := 134) d6_133 rfl rfl ?_
  exact zH
theorem own_nu10_14 (nu : Addr) (s1 : Int32) (hb135 : ifCond.holds .eq s1 = false) :
    zF zV ok4 135 #[oa nu, oi 1, oi 15, oi 9, ou] [(.int s1)] 139 #[oa nu, oi 1, oi 15, oi 9, ou] [(.ref nu)] := by
  refine zy (pc2 := 138) d6_135 rfl hb135 ?_
  refine zJ (pc2 := 139) d6_138 rfl rfl rfl ?_
  exact zH
theorem own_nu10_15 (nu : Addr) (xs : Addr) :
    zF zV ok4 142 #[oa nu, oi 1, oi 15, oi 9, ou] [(.ref xs)] 143 #[oa nu, oi 1, oi 15, oi 9, ou] [(.int 9), (.ref xs)] := by
  refine zM (pc2 := 143) d6_142 rfl rfl ?_
  exact zH
theorem own_nu10_16 (nu : Addr) (s1 : Int32) (v145 : Int32) (hv145 : (s1 - (1 : Int32)) = v145) :
    zF zV ok4 144 #[oa nu, oi 1, oi 15, oi 9, ou] [(.int s1)] 146 #[oa nu, oi 1, oi 15, oi 9, ou] [(.int v145)] := by
  refine zT (v := 1) (pc2 := 145) d6_144 rfl rfl ?_
  refine zAU (pc2 := 146) d6_145 rfl (v := v145) hv145 ?_
  exact zH
set_option maxRecDepth 65536 in
set_option maxHeartbeats 4000000 in
theorem own_num10 (l : Launch) (Z : State) (a0 : Array Value) (hb0 : zU) (hw : ∀ d ∈ tables_1, d.before a0 Z = true) (nu : Addr) (u xb xl xp xt xs : Addr) (fb : Int32 → UInt64) (fl fa ft : Int32 → Int32) (kk cc nn : Int32) (s0 s1 s2 s3 : Int32) (hn8 : nn.toInt ≤ 4) (hs : ¬ s1 = 0) (h4 : zG 4 (s1 - (1 : Int32))) (ht : ft (s1 - (1 : Int32)) = (1 : Int32)) :
    zX l Z a0 hb0 (⟨"com/example/tidewise/tidewise/search/Numbering", "number", "(I)I"⟩ : MethodName) ok4 5 (some .int) [] ({ frames := 2, cells := 0, slots := 0, locals := 45 } : Room) #[(.ref nu), (.int 1)] [(u, oc1 (.ref xb) (.ref xl) (.ref xp) (.int kk) (.ref nu) (.int cc)), (xb, zA .double (zK fb)), (xl, zA .int (zE fl)), (xp, zA .int (zE fa)), (nu, oc2 (.int 4) (.ref xt) (.ref xs) (.int nn) .null (.int 0)), (xt, zA .int (zE ft)), (xs, zA .int [.int s0, .int 0, .int 0, .int s2, .int 0, .int 0, .int 0, .int 0, .int 0, .int s1, .int 0, .int 0, .int 0, .int s3, .int 0, .int 0])] (fun r cs' => ∃ z, z = s1 - (1 : Int32) ∧ r = some (.int z) ∧ cs' = [(u, oc1 (.ref xb) (.ref xl) (.ref xp) (.int kk) (.ref nu) (.int cc)), (xb, zA .double (zK fb)), (xl, zA .int (zE fl)), (xp, zA .int (zE fa)), (nu, oc2 (.int 4) (.ref xt) (.ref xs) (.int nn) .null (.int 0)), (xt, zA .int (zE ft)), (xs, zA .int [.int s0, .int 0, .int 0, .int s2, .int 0, .int 0, .int 0, .int 0, .int 0, .int s1, .int 0, .int 0, .int 0, .int s3, .int 0, .int 0])]) := by
  refine zh (L0 := #[oa nu, oi 1, ou, ou, ou]) (plainFor_of_name zBa) (fun m => zBd m nu (1 : Int32)) ?_
  intro p e s m below meth c T0 hx hZ hown hby hml hnm H0
  obtain ⟨Tnu10_1, Hnu10_1, stnu10_1⟩ := zI H0 hx hZ hown (zB hw 51 rfl) 4 4 rfl rfl (g := (mkF m 1 #[oa nu, oi 1, ou, ou, ou] [(.ref nu)])) rfl rfl (hb hby d6_1)
  obtain ⟨Tnu10_2, Hnu10_2, stnu10_2⟩ := zI Hnu10_1 hx hZ hown (zB hw 44 rfl) 4 3 rfl rfl (g := (mkF m 8 #[oa nu, oi 1, ou, ou, ou] [(.ref nu)])) rfl rfl (hb hby d6_8)
  obtain ⟨Tnu10_3, Hnu10_3, stnu10_3⟩ := zI Hnu10_2 hx hZ hown (zB hw 28 rfl) 4 1 rfl rfl (g := (mkF m 12 #[oa nu, oi 1, ou, ou, ou] [(.ref nu), (.int nn)])) rfl rfl (hb hby d6_12)
  obtain ⟨Tnu10_5, Hnu10_5, stnu10_5⟩ := zI Hnu10_3 hx hZ hown (zB hw 51 rfl) 4 4 rfl rfl (g := (mkF m 24 #[oa nu, oi 1, ou, ou, ou] [(.ref nu)])) rfl rfl (hb hby d6_24)
  obtain ⟨Tnu10_6, Hnu10_6, stnu10_6⟩ := zI Hnu10_5 hx hZ hown (zB hw 30 rfl) 4 2 rfl rfl (g := (mkF m 81 #[oa nu, oi 1, ou, ou, ou] [(.ref nu)])) rfl rfl (hb hby d6_81)
  obtain ⟨Tnu10_8, vnu10_8_, csnu10_8_, qnu10_8, Hnu10_8, stnu10_8⟩ := zo Hnu10_6 hx hZ hown (zB hw 53 rfl) (zB hw 54 rfl) (zB hw 55 rfl) (zB hw 20 rfl) (zB hw 21 rfl) (zB hw 56 rfl) (by decide) (x := nu) 4 rfl (argsL := [(.int 1)]) (rest := []) (W := 0) (own_slot1 l Z a0 hb0 hw nu u xb xl xp xt xs fb fl fa ft kk cc nn s0 s1 s2 s3) (by decide) (by decide) (by decide) (by decide) (g := (mkF m 90 #[oa nu, oi 1, oi 15, ou, ou] [(.int 1), (.ref nu)])) rfl (by rw [hml]; rfl) (lenOf zAW rfl) rfl (by show 2 * 0 + _ ≤ _; exact Nat.le_of_eq rfl) (hb hby d6_90)
  obtain ⟨rfl, rfl⟩ := qnu10_8
  obtain ⟨Tnu10_9, Hnu10_9, stnu10_9⟩ := zI Hnu10_8 hx hZ hown (zB hw 30 rfl) 4 2 rfl rfl (g := (mkF m 95 #[oa nu, oi 1, oi 15, oi 9, ou] [(.ref nu)])) rfl rfl (hb hby d6_95)
  obtain ⟨Tnu10_11, Hnu10_11, stnu10_11⟩ := zI Hnu10_9 hx hZ hown (zB hw 28 rfl) 4 1 rfl rfl (g := (mkF m 104 #[oa nu, oi 1, oi 15, oi 9, ou] [(.ref nu)])) rfl rfl (hb hby d6_104)
  obtain ⟨Tnu10_12, Hnu10_12, stnu10_12⟩ := zI Hnu10_11 hx hZ hown (zB hw 30 rfl) 4 2 rfl rfl (g := (mkF m 108 #[oa nu, oi 1, oi 15, oi 9, ou] [(.ref nu), (.ref xt)])) rfl rfl (hb hby d6_108)
  obtain ⟨v114, hv114⟩ : ∃ z : Int32, (s1 - (1 : Int32)) = z := ⟨_, rfl⟩
  have h4' : zG 4 v114 := by rw [← hv114]; exact h4
  obtain ⟨w0, hw0⟩ : ∃ z, ft v114 = z := ⟨_, rfl⟩
  obtain ⟨Tnu10_15, Hnu10_15, stnu10_15⟩ := zI Hnu10_12 hx hZ hown (zB hw 30 rfl) 4 2 rfl rfl (g := (mkF m 130 #[oa nu, oi 1, oi 15, oi 9, ou] [(.ref nu)])) rfl rfl (hb hby d6_130)
  obtain ⟨Tnu10_17, Hnu10_17, stnu10_17⟩ := zI Hnu10_15 hx hZ hown (zB hw 30 rfl) 4 2 rfl rfl (g := (mkF m 139 #[oa nu, oi 1, oi 15, oi 9, ou] [(.ref nu)])) rfl rfl (hb hby d6_139)
  obtain ⟨v145, hv145⟩ : ∃ z : Int32, (s1 - (1 : Int32)) = z := ⟨_, rfl⟩
  have hb16 : if_icmp.holds .ne nn (8 : Int32) = true := by rw [zAQ]; exact decide_eq_true (fun z => by rw [z] at hn8; exact absurd hn8 (by decide))
  have hb100 : ifCond.holds .eq s1 = false := by rw [zBY]; exact decide_eq_false hs
  have hb135 : ifCond.holds .eq s1 = false := hb100
  have hb117 : if_icmp.holds .eq w0 (1 : Int32) = true := by rw [zCb]; exact decide_eq_true (by rw [← hw0, ← hv114]; exact ht)
  refine ⟨_, _, _, _, 146, #[oa nu, oi 1, oi 15, oi 9, ou], Hnu10_17, by decide, by decide, Or.inr ⟨.int, (.int v145), [], .ireturn, rfl, ⟨v145, hv145.symm, rfl, rfl⟩, d6_146, zAe _, fun target q => ?_⟩⟩
  refine zC H0 hx hZ hown hby hw zP (own_nu10_0 nu) _ ?_
  refine stnu10_1 _ ?_
  refine zC Hnu10_1 hx hZ hown hby hw zP (own_nu10_1 nu) _ ?_
  refine stnu10_2 _ ?_
  refine zC Hnu10_2 hx hZ hown hby hw zP (own_nu10_2 nu nn) _ ?_
  refine stnu10_3 _ ?_
  refine zAK Hnu10_3 hx hZ 5 rfl (z := (8 : Int32)) rfl (g := (mkF m 15 #[oa nu, oi 1, ou, ou, ou] [(.ref xt), (.int nn)])) rfl rfl (hb hby d6_15) _ ?_
  refine zC Hnu10_3 hx hZ hown hby hw zP (own_nu10_3 nu nn hb16) _ ?_
  refine stnu10_5 _ ?_
  refine zC Hnu10_5 hx hZ hown hby hw zP (own_nu10_4 nu) _ ?_
  refine stnu10_6 _ ?_
  refine zAK Hnu10_6 hx hZ 6 rfl (z := (16 : Int32)) rfl (g := (mkF m 84 #[oa nu, oi 1, ou, ou, ou] [(.ref xs)])) rfl rfl (hb hby d6_84) _ ?_
  refine zC Hnu10_6 hx hZ hown hby hw zP (own_nu10_5 nu) _ ?_
  refine stnu10_8 _ ?_
  refine zC Hnu10_8 hx hZ hown hby hw zP (own_nu10_6 nu) _ ?_
  refine stnu10_9 _ ?_
  refine zC Hnu10_9 hx hZ hown hby hw zP (own_nu10_7 nu xs) _ ?_
  refine zAF Hnu10_9 hx hZ 6 9 rfl (by decide) rfl (g := (mkF m 99 #[oa nu, oi 1, oi 15, oi 9, ou] [(.int 9), (.ref xs)])) rfl rfl (hb hby d6_99) _ ?_
  refine zC Hnu10_9 hx hZ hown hby hw zP (own_nu10_8 nu s1 hb100) _ ?_
  refine stnu10_11 _ ?_
  refine zC Hnu10_11 hx hZ hown hby hw zP (own_nu10_9 nu xt) _ ?_
  refine stnu10_12 _ ?_
  refine zC Hnu10_12 hx hZ hown hby hw zP (own_nu10_10 nu xs xt) _ ?_
  refine zAF Hnu10_12 hx hZ 6 9 rfl (by decide) rfl (g := (mkF m 112 #[oa nu, oi 1, oi 15, oi 9, ou] [(.int 9), (.ref xs), (.ref xt)])) rfl rfl (hb hby d6_112) _ ?_
  refine zC Hnu10_12 hx hZ hown hby hw zP (own_nu10_11 nu s1 xt v114 hv114) _ ?_
  refine zf Hnu10_12 hx hZ 5 rfl h4' hw0 (g := (mkF m 115 #[oa nu, oi 1, oi 15, oi 9, ou] [(.int v114), (.ref xt)])) rfl rfl (hb hby d6_115) _ ?_
  refine zC Hnu10_12 hx hZ hown hby hw zP (own_nu10_12 nu w0 hb117) _ ?_
  refine stnu10_15 _ ?_
  refine zC Hnu10_15 hx hZ hown hby hw zP (own_nu10_13 nu xs) _ ?_
  refine zAF Hnu10_15 hx hZ 6 9 rfl (by decide) rfl (g := (mkF m 134 #[oa nu, oi 1, oi 15, oi 9, ou] [(.int 9), (.ref xs)])) rfl rfl (hb hby d6_134) _ ?_
  refine zC Hnu10_15 hx hZ hown hby hw zP (own_nu10_14 nu s1 hb135) _ ?_
  refine stnu10_17 _ ?_
  refine zC Hnu10_17 hx hZ hown hby hw zP (own_nu10_15 nu xs) _ ?_
  refine zAF Hnu10_17 hx hZ 6 9 rfl (by decide) rfl (g := (mkF m 143 #[oa nu, oi 1, oi 15, oi 9, ou] [(.int 9), (.ref xs)])) rfl rfl (hb hby d6_143) _ ?_
  refine zC Hnu10_17 hx hZ hown hby hw zP (own_nu10_16 nu s1 v145 hv145) _ ?_
  exact q
theorem own_nu11_8 (nu : Addr) (s1 : Int32) (hb100 : ifCond.holds .eq s1 = true) :
    zF zV ok4 100 #[oa nu, oi 1, oi 15, oi 9, ou] [(.int s1)] 130 #[oa nu, oi 1, oi 15, oi 9, ou] [(.ref nu)] := by
  refine zx (pc' := 129) d6_100 hb100 (by decide) (by decide) ?_
  refine zJ (pc2 := 130) d6_129 rfl rfl rfl ?_
  exact zH
theorem own_nu11_10 (nu : Addr) (s1 : Int32) (hb135 : ifCond.holds .eq s1 = true) :
    zF zV ok4 135 #[oa nu, oi 1, oi 15, oi 9, ou] [(.int s1)] 148 #[oa nu, oi 1, oi 15, oi 9, ou] [(.ref nu)] := by
  refine zx (pc' := 147) d6_135 hb135 (by decide) (by decide) ?_
  refine zJ (pc2 := 148) d6_147 rfl rfl rfl ?_
  exact zH
theorem own_nu11_11 (nu : Addr) (xt : Addr) :
    zF zV ok4 151 #[oa nu, oi 1, oi 15, oi 9, ou] [(.ref xt)] 152 #[oa nu, oi 1, oi 15, oi 9, ou] [(.ref nu), (.ref xt)] := by
  refine zJ (pc2 := 152) d6_151 rfl rfl rfl ?_
  exact zH
theorem own_nu11_12 (nu : Addr) (nn : Int32) (xt : Addr) :
    zF zV ok4 155 #[oa nu, oi 1, oi 15, oi 9, ou] [(.int nn), (.ref xt)] 156 #[oa nu, oi 1, oi 15, oi 9, ou] [(.int 1), (.int nn), (.ref xt)] := by
  refine zM (pc2 := 156) d6_155 rfl rfl ?_
  exact zH
theorem own_nu11_13 (nu : Addr) :
    zF zV ok4 157 #[oa nu, oi 1, oi 15, oi 9, ou] [] 158 #[oa nu, oi 1, oi 15, oi 9, ou] [(.ref nu)] := by
  refine zJ (pc2 := 158) d6_157 rfl rfl rfl ?_
  exact zH
theorem own_nu11_14 (nu : Addr) (xs : Addr) :
    zF zV ok4 161 #[oa nu, oi 1, oi 15, oi 9, ou] [(.ref xs)] 163 #[oa nu, oi 1, oi 15, oi 9, ou] [(.ref nu), (.int 9), (.ref xs)] := by
  refine zM (pc2 := 162) d6_161 rfl rfl ?_
  refine zJ (pc2 := 163) d6_162 rfl rfl rfl ?_
  exact zH
theorem own_nu11_15 (nu : Addr) (nn : Int32) (xs : Addr) (v167 : Int32) (hv167 : (nn + (1 : Int32)) = v167) :
    zF zV ok4 166 #[oa nu, oi 1, oi 15, oi 9, ou] [(.int nn), (.int 9), (.ref xs)] 168 #[oa nu, oi 1, oi 15, oi 9, ou] [(.int v167), (.int 9), (.ref xs)] := by
  refine zT (v := 1) (pc2 := 167) d6_166 rfl rfl ?_
  refine zAI (pc2 := 168) d6_167 rfl (v := v167) hv167 ?_
  exact zH
theorem own_nu11_16 (nu : Addr) :
    zF zV ok4 169 #[oa nu, oi 1, oi 15, oi 9, ou] [] 171 #[oa nu, oi 1, oi 15, oi 9, ou] [(.ref nu), (.ref nu)] := by
  refine zJ (pc2 := 170) d6_169 rfl rfl rfl ?_
  refine zBh (pc2 := 171) d6_170 rfl rfl ?_
  exact zH
theorem own_nu11_17 (nu : Addr) (nn : Int32) (v176 : Int32) (hv176 : (nn + (1 : Int32)) = v176) :
    zF zV ok4 174 #[oa nu, oi 1, oi 15, oi 9, ou] [(.int nn), (.ref nu)] 177 #[oa nu, oi 1, oi 15, oi 9, ou] [(.int v176), (.ref nu), (.int nn)] := by
  refine zCK (pc2 := 175) d6_174 rfl rfl rfl ?_
  refine zT (v := 1) (pc2 := 176) d6_175 rfl rfl ?_
  refine zAI (pc2 := 177) d6_176 rfl (v := v176) hv176 ?_
  exact zH
set_option maxRecDepth 65536 in
set_option maxHeartbeats 4000000 in
theorem own_num11 (l : Launch) (Z : State) (a0 : Array Value) (hb0 : zU) (hw : ∀ d ∈ tables_1, d.before a0 Z = true) (nu : Addr) (u xb xl xp xt xs : Addr) (fb : Int32 → UInt64) (fl fa ft : Int32 → Int32) (kk cc nn : Int32) (s0 s1 s2 s3 : Int32) (hn8 : nn.toInt ≤ 4) (hs : s1 = 0) (h4 : zG 4 nn) :
    zX l Z a0 hb0 (⟨"com/example/tidewise/tidewise/search/Numbering", "number", "(I)I"⟩ : MethodName) ok4 5 (some .int) [] ({ frames := 2, cells := 0, slots := 0, locals := 45 } : Room) #[(.ref nu), (.int 1)] [(u, oc1 (.ref xb) (.ref xl) (.ref xp) (.int kk) (.ref nu) (.int cc)), (xb, zA .double (zK fb)), (xl, zA .int (zE fl)), (xp, zA .int (zE fa)), (nu, oc2 (.int 4) (.ref xt) (.ref xs) (.int nn) .null (.int 0)), (xt, zA .int (zE ft)), (xs, zA .int [.int s0, .int 0, .int 0, .int s2, .int 0, .int 0, .int 0, .int 0, .int 0, .int s1, .int 0, .int 0, .int 0, .int s3, .int 0, .int 0])] (fun r cs' => r = some (.int nn) ∧ cs' = [(u, oc1 (.ref xb) (.ref xl) (.ref xp) (.int kk) (.ref nu) (.int cc)), (xb, zA .double (zK fb)), (xl, zA .int (zE fl)), (xp, zA .int (zE fa)), (nu, oc2 (.int 4) (.ref xt) (.ref xs) (.int (nn + (1 : Int32))) .null (.int 0)), (xt, zA .int (zE (zD ft nn (1 : Int32)))), (xs, zA .int [.int s0, .int 0, .int 0, .int s2, .int 0, .int 0, .int 0, .int 0, .int 0, .int (nn + (1 : Int32)), .int 0, .int 0, .int 0, .int s3, .int 0, .int 0])]) := by
  refine zh (L0 := #[oa nu, oi 1, ou, ou, ou]) (plainFor_of_name zBa) (fun m => zBd m nu (1 : Int32)) ?_
  intro p e s m below meth c T0 hx hZ hown hby hml hnm H0
  obtain ⟨Tnu11_1, Hnu11_1, stnu11_1⟩ := zI H0 hx hZ hown (zB hw 51 rfl) 4 4 rfl rfl (g := (mkF m 1 #[oa nu, oi 1, ou, ou, ou] [(.ref nu)])) rfl rfl (hb hby d6_1)
  obtain ⟨Tnu11_2, Hnu11_2, stnu11_2⟩ := zI Hnu11_1 hx hZ hown (zB hw 44 rfl) 4 3 rfl rfl (g := (mkF m 8 #[oa nu, oi 1, ou, ou, ou] [(.ref nu)])) rfl rfl (hb hby d6_8)
  obtain ⟨Tnu11_3, Hnu11_3, stnu11_3⟩ := zI Hnu11_2 hx hZ hown (zB hw 28 rfl) 4 1 rfl rfl (g := (mkF m 12 #[oa nu, oi 1, ou, ou, ou] [(.ref nu), (.int nn)])) rfl rfl (hb hby d6_12)
  obtain ⟨Tnu11_5, Hnu11_5, stnu11_5⟩ := zI Hnu11_3 hx hZ hown (zB hw 51 rfl) 4 4 rfl rfl (g := (mkF m 24 #[oa nu, oi 1, ou, ou, ou] [(.ref nu)])) rfl rfl (hb hby d6_24)
  obtain ⟨Tnu11_6, Hnu11_6, stnu11_6⟩ := zI Hnu11_5 hx hZ hown (zB hw 30 rfl) 4 2 rfl rfl (g := (mkF m 81 #[oa nu, oi 1, ou, ou, ou] [(.ref nu)])) rfl rfl (hb hby d6_81)
  obtain ⟨Tnu11_8, vnu11_8_, csnu11_8_, qnu11_8, Hnu11_8, stnu11_8⟩ := zo Hnu11_6 hx hZ hown (zB hw 53 rfl) (zB hw 54 rfl) (zB hw 55 rfl) (zB hw 20 rfl) (zB hw 21 rfl) (zB hw 56 rfl) (by decide) (x := nu) 4 rfl (argsL := [(.int 1)]) (rest := []) (W := 0) (own_slot1 l Z a0 hb0 hw nu u xb xl xp xt xs fb fl fa ft kk cc nn s0 s1 s2 s3) (by decide) (by decide) (by decide) (by decide) (g := (mkF m 90 #[oa nu, oi 1, oi 15, ou, ou] [(.int 1), (.ref nu)])) rfl (by rw [hml]; rfl) (lenOf zAW rfl) rfl (by show 2 * 0 + _ ≤ _; exact Nat.le_of_eq rfl) (hb hby d6_90)
  obtain ⟨rfl, rfl⟩ := qnu11_8
  obtain ⟨Tnu11_9, Hnu11_9, stnu11_9⟩ := zI Hnu11_8 hx hZ hown (zB hw 30 rfl) 4 2 rfl rfl (g := (mkF m 95 #[oa nu, oi 1, oi 15, oi 9, ou] [(.ref nu)])) rfl rfl (hb hby d6_95)
  obtain ⟨Tnu11_11, Hnu11_11, stnu11_11⟩ := zI Hnu11_9 hx hZ hown (zB hw 30 rfl) 4 2 rfl rfl (g := (mkF m 130 #[oa nu, oi 1, oi 15, oi 9, ou] [(.ref nu)])) rfl rfl (hb hby d6_130)
  obtain ⟨Tnu11_13, Hnu11_13, stnu11_13⟩ := zI Hnu11_11 hx hZ hown (zB hw 28 rfl) 4 1 rfl rfl (g := (mkF m 148 #[oa nu, oi 1, oi 15, oi 9, ou] [(.ref nu)])) rfl rfl (hb hby d6_148)
  obtain ⟨Tnu11_14, Hnu11_14, stnu11_14⟩ := zI Hnu11_13 hx hZ hown (zB hw 44 rfl) 4 3 rfl rfl (g := (mkF m 152 #[oa nu, oi 1, oi 15, oi 9, ou] [(.ref nu), (.ref xt)])) rfl rfl (hb hby d6_152)
  obtain ⟨Tnu11_15, Hnu11_15, stnu11_15⟩ := zAs Hnu11_14 hx hZ 5 rfl h4 (g := (mkF m 156 #[oa nu, oi 1, oi 15, oi 9, ou] [(.int 1), (.int nn), (.ref xt)])) rfl rfl (hb hby d6_156)
  change zR _ _ _ _ _ _ _ _ _ _ _ _ _ _ [(u, oc1 (.ref xb) (.ref xl) (.ref xp) (.int kk) (.ref nu) (.int cc)), (xb, zA .double (zK fb)), (xl, zA .int (zE fl)), (xp, zA .int (zE fa)), (nu, oc2 (.int 4) (.ref xt) (.ref xs) (.int nn) .null (.int 0)), (xt, zA .int (zE (zD ft nn (1 : Int32)))), (xs, zA .int [.int s0, .int 0, .int 0, .int s2, .int 0, .int 0, .int 0, .int 0, .int 0, .int s1, .int 0, .int 0, .int 0, .int s3, .int 0, .int 0])] _ _ at Hnu11_15
  obtain ⟨Tnu11_16, Hnu11_16, stnu11_16⟩ := zI Hnu11_15 hx hZ hown (zB hw 30 rfl) 4 2 rfl rfl (g := (mkF m 158 #[oa nu, oi 1, oi 15, oi 9, ou] [(.ref nu)])) rfl rfl (hb hby d6_158)
  obtain ⟨Tnu11_17, Hnu11_17, stnu11_17⟩ := zI Hnu11_16 hx hZ hown (zB hw 44 rfl) 4 3 rfl rfl (g := (mkF m 163 #[oa nu, oi 1, oi 15, oi 9, ou] [(.ref nu), (.int 9), (.ref xs)])) rfl rfl (hb hby d6_163)
  obtain ⟨v167, hv167⟩ : ∃ z : Int32, (nn + (1 : Int32)) = z := ⟨_, rfl⟩
  obtain ⟨Tnu11_18, Hnu11_18, stnu11_18⟩ := zBZ Hnu11_17 hx hZ 6 9 rfl (by decide) (Nat.le_of_ble_eq_true rfl) (g := (mkF m 168 #[oa nu, oi 1, oi 15, oi 9, ou] [(.int v167), (.int 9), (.ref xs)])) rfl rfl (hb hby d6_168)
  change zR _ _ _ _ _ _ _ _ _ _ _ _ _ _ [(u, oc1 (.ref xb) (.ref xl) (.ref xp) (.int kk) (.ref nu) (.int cc)), (xb, zA .double (zK fb)), (xl, zA .int (zE fl)), (xp, zA .int (zE fa)), (nu, oc2 (.int 4) (.ref xt) (.ref xs) (.int nn) .null (.int 0)), (xt, zA .int (zE (zD ft nn (1 : Int32)))), (xs, zA .int [.int s0, .int 0, .int 0, .int s2, .int 0, .int 0, .int 0, .int 0, .int 0, .int v167, .int 0, .int 0, .int 0, .int s3, .int 0, .int 0])] _ _ at Hnu11_18
  obtain ⟨Tnu11_19, Hnu11_19, stnu11_19⟩ := zI Hnu11_18 hx hZ hown (zB hw 44 rfl) 4 3 rfl rfl (g := (mkF m 171 #[oa nu, oi 1, oi 15, oi 9, ou] [(.ref nu), (.ref nu)])) rfl rfl (hb hby d6_171)
  obtain ⟨v176, hv176⟩ : ∃ z : Int32, (nn + (1 : Int32)) = z := ⟨_, rfl⟩
  obtain ⟨Tnu11_20, Hnu11_20, stnu11_20⟩ := zAl Hnu11_19 hx hZ hown (zB hw 44 rfl) 4 3 rfl rfl (Or.inl (zB hw 45 rfl)) (zB hw 20 rfl) (ty := .int) (by decide) rfl rfl (g := (mkF m 177 #[oa nu, oi 1, oi 15, oi 9, ou] [(.int v176), (.ref nu), (.int nn)])) rfl rfl (hb hby d6_177)
  change zR _ _ _ _ _ _ _ _ _ _ _ _ _ _ [(u, oc1 (.ref xb) (.ref xl) (.ref xp) (.int kk) (.ref nu) (.int cc)), (xb, zA .double (zK fb)), (xl, zA .int (zE fl)), (xp, zA .int (zE fa)), (nu, oc2 (.int 4) (.ref xt) (.ref xs) (.int v176) .null (.int 0)), (xt, zA .int (zE (zD ft nn (1 : Int32)))), (xs, zA .int [.int s0, .int 0, .int 0, .int s2, .int 0, .int 0, .int 0, .int 0, .int 0, .int v167, .int 0, .int 0, .int 0, .int s3, .int 0, .int 0])] _ _ at Hnu11_20
  have hb16 : if_icmp.holds .ne nn (8 : Int32) = true := by rw [zAQ]; exact decide_eq_true (fun z => by rw [z] at hn8; exact absurd hn8 (by decide))
  have hb100 : ifCond.holds .eq s1 = true := by rw [zBY]; exact decide_eq_true hs
  have hb135 : ifCond.holds .eq s1 = true := hb100
  refine ⟨_, _, _, _, 180, #[oa nu, oi 1, oi 15, oi 9, ou], Hnu11_20, by decide, by decide, Or.inr ⟨.int, (.int nn), [], .ireturn, rfl, ⟨rfl, by rw [← hv167, ← hv176]⟩, d6_180, zAe _, fun target q => ?_⟩⟩
  refine zC H0 hx hZ hown hby hw zP (own_nu10_0 nu) _ ?_
  refine stnu11_1 _ ?_
  refine zC Hnu11_1 hx hZ hown hby hw zP (own_nu10_1 nu) _ ?_
  refine stnu11_2 _ ?_
  refine zC Hnu11_2 hx hZ hown hby hw zP (own_nu10_2 nu nn) _ ?_
  refine stnu11_3 _ ?_
  refine zAK Hnu11_3 hx hZ 5 rfl (z := (8 : Int32)) rfl (g := (mkF m 15 #[oa nu, oi 1, ou, ou, ou] [(.ref xt), (.int nn)])) rfl rfl (hb hby d6_15) _ ?_
  refine zC Hnu11_3 hx hZ hown hby hw zP (own_nu10_3 nu nn hb16) _ ?_
  refine stnu11_5 _ ?_
  refine zC Hnu11_5 hx hZ hown hby hw zP (own_nu10_4 nu) _ ?_
  refine stnu11_6 _ ?_
  refine zAK Hnu11_6 hx hZ 6 rfl (z := (16 : Int32)) rfl (g := (mkF m 84 #[oa nu, oi 1, ou, ou, ou] [(.ref xs)])) rfl rfl (hb hby d6_84) _ ?_
  refine zC Hnu11_6 hx hZ hown hby hw zP (own_nu10_5 nu) _ ?_
  refine stnu11_8 _ ?_
  refine zC Hnu11_8 hx hZ hown hby hw zP (own_nu10_6 nu) _ ?_
  refine stnu11_9 _ ?_
  refine zC Hnu11_9 hx hZ hown hby hw zP (own_nu10_7 nu xs) _ ?_
  refine zAF Hnu11_9 hx hZ 6 9 rfl (by decide) rfl (g := (mkF m 99 #[oa nu, oi 1, oi 15, oi 9, ou] [(.int 9), (.ref xs)])) rfl rfl (hb hby d6_99) _ ?_
  refine zC Hnu11_9 hx hZ hown hby hw zP (own_nu11_8 nu s1 hb100) _ ?_
  refine stnu11_11 _ ?_
  refine zC Hnu11_11 hx hZ hown hby hw zP (own_nu10_13 nu xs) _ ?_
  refine zAF Hnu11_11 hx hZ 6 9 rfl (by decide) rfl (g := (mkF m 134 #[oa nu, oi 1, oi 15, oi 9, ou] [(.int 9), (.ref xs)])) rfl rfl (hb hby d6_134) _ ?_
  refine zC Hnu11_11 hx hZ hown hby hw zP (own_nu11_10 nu s1 hb135) _ ?_
  refine stnu11_13 _ ?_
  refine zC Hnu11_13 hx hZ hown hby hw zP (own_nu11_11 nu xt) _ ?_
  refine stnu11_14 _ ?_
  refine zC Hnu11_14 hx hZ hown hby hw zP (own_nu11_12 nu nn xt) _ ?_
  refine stnu11_15 _ ?_
  refine zC Hnu11_15 hx hZ hown hby hw zP (own_nu11_13 nu) _ ?_
  refine stnu11_16 _ ?_
  refine zC Hnu11_16 hx hZ hown hby hw zP (own_nu11_14 nu xs) _ ?_
  refine stnu11_17 _ ?_
  refine zC Hnu11_17 hx hZ hown hby hw zP (own_nu11_15 nu nn xs v167 hv167) _ ?_
  refine stnu11_18 _ ?_
  refine zC Hnu11_18 hx hZ hown hby hw zP (own_nu11_16 nu) _ ?_
  refine stnu11_19 _ ?_
  refine zC Hnu11_19 hx hZ hown hby hw zP (own_nu11_17 nu nn v176 hv176) _ ?_
  refine stnu11_20 _ ?_
  exact q
theorem own_nu20_0 (nu : Addr) :
    zF zV ok4 0 #[oa nu, oi 2, ou, ou, ou] [] 1 #[oa nu, oi 2, ou, ou, ou] [(.ref nu)] := by
  refine zJ (pc2 := 1) d6_0 rfl rfl rfl ?_
  exact zH
theorem own_nu20_1 (nu : Addr) :
    zF zV ok4 4 #[oa nu, oi 2, ou, ou, ou] [.null] 8 #[oa nu, oi 2, ou, ou, ou] [(.ref nu)] := by
  refine zCh (pc2 := 7) d6_4 rfl ?_
  refine zJ (pc2 := 8) d6_7 rfl rfl rfl ?_
  exact zH
theorem own_nu20_2 (nu : Addr) (nn : Int32) :
    zF zV ok4 11 #[oa nu, oi 2, ou, ou, ou] [(.int nn)] 12 #[oa nu, oi 2, ou, ou, ou] [(.ref nu), (.int nn)] := by
  refine zJ (pc2 := 12) d6_11 rfl rfl rfl ?_
  exact zH
theorem own_nu20_3 (nu : Addr) (nn : Int32) (hb16 : if_icmp.holds .ne nn (8 : Int32) = true) :
    zF zV ok4 16 #[oa nu, oi 2, ou, ou, ou] [(.int 8), (.int nn)] 24 #[oa nu, oi 2, ou, ou, ou] [(.ref nu)] := by
  refine zAJ (pc' := 23) d6_16 hb16 (by decide) (by decide) ?_
  refine zJ (pc2 := 24) d6_23 rfl rfl rfl ?_
  exact zH
theorem own_nu20_4 (nu : Addr) :
    zF zV ok4 27 #[oa nu, oi 2, ou, ou, ou] [.null] 81 #[oa nu, oi 2, ou, ou, ou] [(.ref nu)] := by
  refine zCg (pc' := 80) d6_27 (by decide) (by decide) ?_
  refine zJ (pc2 := 81) d6_80 rfl rfl rfl ?_
  exact zH
theorem own_nu20_5 (nu : Addr) :
    zF zV ok4 85 #[oa nu, oi 2, ou, ou, ou] [(.int 16)] 90 #[oa nu, oi 2, oi 15, ou, ou] [(.int 2), (.ref nu)] := by
  refine zT (v := 1) (pc2 := 86) d6_85 rfl rfl ?_
  refine zAU (pc2 := 87) d6_86 rfl (v := (15 : Int32)) (by decide) ?_
  refine zAG (pc2 := 88) d6_87 rfl (L' := #[oa nu, oi 2, oi 15, ou, ou]) rfl ?_
  refine zJ (pc2 := 89) d6_88 rfl rfl rfl ?_
  refine zM (pc2 := 90) d6_89 rfl rfl ?_
  exact zH
theorem own_nu20_6 (nu : Addr) :
    zF zV ok4 93 #[oa nu, oi 2, oi 15, ou, ou] [(.int 3)] 95 #[oa nu, oi 2, oi 15, oi 3, ou] [(.ref nu)] := by
  refine zAG (pc2 := 94) d6_93 rfl (L' := #[oa nu, oi 2, oi 15, oi 3, ou]) rfl ?_
  refine zJ (pc2 := 95) d6_94 rfl rfl rfl ?_
  exact zH
theorem own_nu20_7 (nu : Addr) (xs : Addr) :
    zF zV ok4 98 #[oa nu, oi 2, oi 15, oi 3, ou] [(.ref xs)] 99 #[oa nu, oi 2, oi 15, oi 3, ou] [(.int 3), (.ref xs)] := by
  refine zM (pc2 := 99) d6_98 rfl rfl ?_
  exact zH
theorem own_nu20_8 (nu : Addr) (s2 : Int32) (hb100 : ifCond.holds .eq s2 = false) :
    zF zV ok4 100 #[oa nu, oi 2, oi 15, oi 3, ou] [(.int s2)] 104 #[oa nu, oi 2, oi 15, oi 3, ou] [(.ref nu)] := by
  refine zy (pc2 := 103) d6_100 rfl hb100 ?_
  refine zJ (pc2 := 104) d6_103 rfl rfl rfl ?_
  exact zH
theorem own_nu20_9 (nu : Addr) (xt : Addr) :
    zF zV ok4 107 #[oa nu, oi 2, oi 15, oi 3, ou] [(.ref xt)] 108 #[oa nu, oi 2, oi 15, oi 3, ou] [(.ref nu), (.ref xt)] := by
  refine zJ (pc2 := 108) d6_107 rfl rfl rfl ?_
  exact zH
theorem own_nu20_10 (nu : Addr) (xs : Addr) (xt : Addr) :
    zF zV ok4 111 #[oa nu, oi 2, oi 15, oi 3, ou] [(.ref xs), (.ref xt)] 112 #[oa nu, oi 2, oi 15, oi 3, ou] [(.int 3), (.ref xs), (.ref xt)] := by
  refine zM (pc2 := 112) d6_111 rfl rfl ?_
  exact zH
theorem own_nu20_11 (nu : Addr) (s2 : Int32) (xt : Addr) (v114 : Int32) (hv114 : (s2 - (1 : Int32)) = v114) :
    zF zV ok4 113 #[oa nu, oi 2, oi 15, oi 3, ou] [(.int s2), (.ref xt)] 115 #[oa nu, oi 2, oi 15, oi 3, ou] [(.int v114), (.ref xt)] := by
  refine zT (v := 1) (pc2 := 114) d6_113 rfl rfl ?_
  refine zAU (pc2 := 115) d6_114 rfl (v := v114) hv114 ?_
  exact zH
theorem own_nu20_12 (nu : Addr) (w0 : Int32) (hb117 : if_icmp.holds .eq w0 (2 : Int32) = true) :
    zF zV ok4 116 #[oa nu, oi 2, oi 15, oi 3, ou] [(.int w0)] 130 #[oa nu, oi 2, oi 15, oi 3, ou] [(.ref nu)] := by
  refine zM (pc2 := 117) d6_116 rfl rfl ?_
  refine zAJ (pc' := 129) d6_117 hb117 (by decide) (by decide) ?_
  refine zJ (pc2 := 130) d6_129 rfl rfl rfl ?_
  exact zH
theorem own_nu20_13 (nu : Addr) (xs : Addr) :
    zF zV ok4 133 #[oa nu, oi 2, oi 15, oi 3, ou] [(.ref xs)] 134 #[oa nu, oi 2, oi 15, oi 3, ou] [(.int 3), (.ref xs)] := by
  refine zM (pc2 := 134) d6_133 rfl rfl ?_
  exact zH
theorem own_nu20_14 (nu : Addr) (s2 : Int32) (hb135 : ifCond.holds .eq s2 = false) :
    zF zV ok4 135 #[oa nu, oi 2, oi 15, oi 3, ou] [(.int s2)] 139 #[oa nu, oi 2, oi 15, oi 3, ou] [(.ref nu)] := by
  refine zy (pc2 := 138) d6_135 rfl hb135 ?_
  refine zJ (pc2 := 139) d6_138 rfl rfl rfl ?_
  exact zH
theorem own_nu20_15 (nu : Addr) (xs : Addr) :
    zF zV ok4 142 #[oa nu, oi 2, oi 15, oi 3, ou] [(.ref xs)] 143 #[oa nu, oi 2, oi 15, oi 3, ou] [(.int 3), (.ref xs)] := by
  refine zM (pc2 := 143) d6_142 rfl rfl ?_
  exact zH
theorem own_nu20_16 (nu : Addr) (s2 : Int32) (v145 : Int32) (hv145 : (s2 - (1 : Int32)) = v145) :
    zF zV ok4 144 #[oa nu, oi 2, oi 15, oi 3, ou] [(.int s2)] 146 #[oa nu, oi 2, oi 15, oi 3, ou] [(.int v145)] := by
  refine zT (v := 1) (pc2 := 145) d6_144 rfl rfl ?_
  refine zAU (pc2 := 146) d6_145 rfl (v := v145) hv145 ?_
  exact zH
set_option maxRecDepth 65536 in
set_option maxHeartbeats 4000000 in
theorem own_num20 (l : Launch) (Z : State) (a0 : Array Value) (hb0 : zU) (hw : ∀ d ∈ tables_1, d.before a0 Z = true) (nu : Addr) (u xb xl xp xt xs : Addr) (fb : Int32 → UInt64) (fl fa ft : Int32 → Int32) (kk cc nn : Int32) (s0 s1 s2 s3 : Int32) (hn8 : nn.toInt ≤ 4) (hs : ¬ s2 = 0) (h4 : zG 4 (s2 - (1 : Int32))) (ht : ft (s2 - (1 : Int32)) = (2 : Int32)) :
    zX l Z a0 hb0 (⟨"com/example/tidewise/tidewise/search/Numbering", "number", "(I)I"⟩ : MethodName) ok4 5 (some .int) [] ({ frames := 2, cells := 0, slots := 0, locals := 45 } : Room) #[(.ref nu), (.int 2)] [(u, oc1 (.ref xb) (.ref xl) (.ref xp) (.int kk) (.ref nu) (.int cc)), (xb, zA .double (zK fb)), (xl, zA .int (zE fl)), (xp, zA .int (zE fa)), (nu, oc2 (.int 4) (.ref xt) (.ref xs) (.int nn) .null (.int 0)), (xt, zA .int (zE ft)), (xs, zA .int [.int s0, .int 0, .int 0, .int s2, .int 0, .int 0, .int 0, .int 0, .int 0, .int s1, .int 0, .int 0, .int 0, .int s3, .int 0, .int 0])] (fun r cs' => ∃ z, z = s2 - (1 : Int32) ∧ r = some (.int z) ∧ cs' = [(u, oc1 (.ref xb) (.ref xl) (.ref xp) (.int kk) (.ref nu) (.int cc)), (xb, zA .double (zK fb)), (xl, zA .int (zE fl)), (xp, zA .int (zE fa)), (nu, oc2 (.int 4) (.ref xt) (.ref xs) (.int nn) .null (.int 0)), (xt, zA .int (zE ft)), (xs, zA .int [.int s0, .int 0, .int 0, .int s2, .int 0, .int 0, .int 0, .int 0, .int 0, .int s1, .int 0, .int 0, .int 0, .int s3, .int 0, .int 0])]) := by
  refine zh (L0 := #[oa nu, oi 2, ou, ou, ou]) (plainFor_of_name zBa) (fun m => zBd m nu (2 : Int32)) ?_
  intro p e s m below meth c T0 hx hZ hown hby hml hnm H0
  obtain ⟨Tnu20_1, Hnu20_1, stnu20_1⟩ := zI H0 hx hZ hown (zB hw 51 rfl) 4 4 rfl rfl (g := (mkF m 1 #[oa nu, oi 2, ou, ou, ou] [(.ref nu)])) rfl rfl (hb hby d6_1)
  obtain ⟨Tnu20_2, Hnu20_2, stnu20_2⟩ := zI Hnu20_1 hx hZ hown (zB hw 44 rfl) 4 3 rfl rfl (g := (mkF m 8 #[oa nu, oi 2, ou, ou, ou] [(.ref nu)])) rfl rfl (hb hby d6_8)
  obtain ⟨Tnu20_3, Hnu20_3, stnu20_3⟩ := zI Hnu20_2 hx hZ hown (zB hw 28 rfl) 4 1 rfl rfl (g := (mkF m 12 #[oa nu, oi 2, ou, ou, ou] [(.ref nu), (.int nn)])) rfl rfl (hb hby d6_12)
  obtain ⟨Tnu20_5, Hnu20_5, stnu20_5⟩ := zI Hnu20_3 hx hZ hown (zB hw 51 rfl) 4 4 rfl rfl (g := (mkF m 24 #[oa nu, oi 2, ou, ou, ou] [(.ref nu)])) rfl rfl (hb hby d6_24)
  obtain ⟨Tnu20_6, Hnu20_6, stnu20_6⟩ := zI Hnu20_5 hx hZ hown (zB hw 30 rfl) 4 2 rfl rfl (g := (mkF m 81 #[oa nu, oi 2, ou, ou, ou] [(.ref nu)])) rfl rfl (hb hby d6_81)
  obtain ⟨Tnu20_8, vnu20_8_, csnu20_8_, qnu20_8, Hnu20_8, stnu20_8⟩ := zo Hnu20_6 hx hZ hown (zB hw 53 rfl) (zB hw 54 rfl) (zB hw 55 rfl) (zB hw 20 rfl) (zB hw 21 rfl) (zB hw 56 rfl) (by decide) (x := nu) 4 rfl (argsL := [(.int 2)]) (rest := []) (W := 0) (own_slot2 l Z a0 hb0 hw nu u xb xl xp xt xs fb fl fa ft kk cc nn s0 s1 s2 s3) (by decide) (by decide) (by decide) (by decide) (g := (mkF m 90 #[oa nu, oi 2, oi 15, ou, ou] [(.int 2), (.ref nu)])) rfl (by rw [hml]; rfl) (lenOf zAW rfl) rfl (by show 2 * 0 + _ ≤ _; exact Nat.le_of_eq rfl) (hb hby d6_90)
  obtain ⟨rfl, rfl⟩ := qnu20_8
  obtain ⟨Tnu20_9, Hnu20_9, stnu20_9⟩ := zI Hnu20_8 hx hZ hown (zB hw 30 rfl) 4 2 rfl rfl (g := (mkF m 95 #[oa nu, oi 2, oi 15, oi 3, ou] [(.ref nu)])) rfl rfl (hb hby d6_95)
  obtain ⟨Tnu20_11, Hnu20_11, stnu20_11⟩ := zI Hnu20_9 hx hZ hown (zB hw 28 rfl) 4 1 rfl rfl (g := (mkF m 104 #[oa nu, oi 2, oi 15, oi 3, ou] [(.ref nu)])) rfl rfl (hb hby d6_104)
  obtain ⟨Tnu20_12, Hnu20_12, stnu20_12⟩ := zI Hnu20_11 hx hZ hown (zB hw 30 rfl) 4 2 rfl rfl (g := (mkF m 108 #[oa nu, oi 2, oi 15, oi 3, ou] [(.ref nu), (.ref xt)])) rfl rfl (hb hby d6_108)
  obtain ⟨v114, hv114⟩ : ∃ z : Int32, (s2 - (1 : Int32)) = z := ⟨_, rfl⟩
  have h4' : zG 4 v114 := by rw [← hv114]; exact h4
  obtain ⟨w0, hw0⟩ : ∃ z, ft v114 = z := ⟨_, rfl⟩
  obtain ⟨Tnu20_15, Hnu20_15, stnu20_15⟩ := zI Hnu20_12 hx hZ hown (zB hw 30 rfl) 4 2 rfl rfl (g := (mkF m 130 #[oa nu, oi 2, oi 15, oi 3, ou] [(.ref nu)])) rfl rfl (hb hby d6_130)
  obtain ⟨Tnu20_17, Hnu20_17, stnu20_17⟩ := zI Hnu20_15 hx hZ hown (zB hw 30 rfl) 4 2 rfl rfl (g := (mkF m 139 #[oa nu, oi 2, oi 15, oi 3, ou] [(.ref nu)])) rfl rfl (hb hby d6_139)
  obtain ⟨v145, hv145⟩ : ∃ z : Int32, (s2 - (1 : Int32)) = z := ⟨_, rfl⟩
  have hb16 : if_icmp.holds .ne nn (8 : Int32) = true := by rw [zAQ]; exact decide_eq_true (fun z => by rw [z] at hn8; exact absurd hn8 (by decide))
  have hb100 : ifCond.holds .eq s2 = false := by rw [zBY]; exact decide_eq_false hs
  have hb135 : ifCond.holds .eq s2 = false := hb100
  have hb117 : if_icmp.holds .eq w0 (2 : Int32) = true := by rw [zCb]; exact decide_eq_true (by rw [← hw0, ← hv114]; exact ht)
  refine ⟨_, _, _, _, 146, #[oa nu, oi 2, oi 15, oi 3, ou], Hnu20_17, by decide, by decide, Or.inr ⟨.int, (.int v145), [], .ireturn, rfl, ⟨v145, hv145.symm, rfl, rfl⟩, d6_146, zAe _, fun target q => ?_⟩⟩
  refine zC H0 hx hZ hown hby hw zP (own_nu20_0 nu) _ ?_
  refine stnu20_1 _ ?_
  refine zC Hnu20_1 hx hZ hown hby hw zP (own_nu20_1 nu) _ ?_
  refine stnu20_2 _ ?_
  refine zC Hnu20_2 hx hZ hown hby hw zP (own_nu20_2 nu nn) _ ?_
  refine stnu20_3 _ ?_
  refine zAK Hnu20_3 hx hZ 5 rfl (z := (8 : Int32)) rfl (g := (mkF m 15 #[oa nu, oi 2, ou, ou, ou] [(.ref xt), (.int nn)])) rfl rfl (hb hby d6_15) _ ?_
  refine zC Hnu20_3 hx hZ hown hby hw zP (own_nu20_3 nu nn hb16) _ ?_
  refine stnu20_5 _ ?_
  refine zC Hnu20_5 hx hZ hown hby hw zP (own_nu20_4 nu) _ ?_
  refine stnu20_6 _ ?_
  refine zAK Hnu20_6 hx hZ 6 rfl (z := (16 : Int32)) rfl (g := (mkF m 84 #[oa nu, oi 2, ou, ou, ou] [(.ref xs)])) rfl rfl (hb hby d6_84) _ ?_
  refine zC Hnu20_6 hx hZ hown hby hw zP (own_nu20_5 nu) _ ?_
  refine stnu20_8 _ ?_
  refine zC Hnu20_8 hx hZ hown hby hw zP (own_nu20_6 nu) _ ?_
  refine stnu20_9 _ ?_
  refine zC Hnu20_9 hx hZ hown hby hw zP (own_nu20_7 nu xs) _ ?_
  refine zAF Hnu20_9 hx hZ 6 3 rfl (by decide) rfl (g := (mkF m 99 #[oa nu, oi 2, oi 15, oi 3, ou] [(.int 3), (.ref xs)])) rfl rfl (hb hby d6_99) _ ?_
  refine zC Hnu20_9 hx hZ hown hby hw zP (own_nu20_8 nu s2 hb100) _ ?_
  refine stnu20_11 _ ?_
  refine zC Hnu20_11 hx hZ hown hby hw zP (own_nu20_9 nu xt) _ ?_
  refine stnu20_12 _ ?_
  refine zC Hnu20_12 hx hZ hown hby hw zP (own_nu20_10 nu xs xt) _ ?_
  refine zAF Hnu20_12 hx hZ 6 3 rfl (by decide) rfl (g := (mkF m 112 #[oa nu, oi 2, oi 15, oi 3, ou] [(.int 3), (.ref xs), (.ref xt)])) rfl rfl (hb hby d6_112) _ ?_
  refine zC Hnu20_12 hx hZ hown hby hw zP (own_nu20_11 nu s2 xt v114 hv114) _ ?_
  refine zf Hnu20_12 hx hZ 5 rfl h4' hw0 (g := (mkF m 115 #[oa nu, oi 2, oi 15, oi 3, ou] [(.int v114), (.ref xt)])) rfl rfl (hb hby d6_115) _ ?_
  refine zC Hnu20_12 hx hZ hown hby hw zP (own_nu20_12 nu w0 hb117) _ ?_
  refine stnu20_15 _ ?_
  refine zC Hnu20_15 hx hZ hown hby hw zP (own_nu20_13 nu xs) _ ?_
  refine zAF Hnu20_15 hx hZ 6 3 rfl (by decide) rfl (g := (mkF m 134 #[oa nu, oi 2, oi 15, oi 3, ou] [(.int 3), (.ref xs)])) rfl rfl (hb hby d6_134) _ ?_
  refine zC Hnu20_15 hx hZ hown hby hw zP (own_nu20_14 nu s2 hb135) _ ?_
  refine stnu20_17 _ ?_
  refine zC Hnu20_17 hx hZ hown hby hw zP (own_nu20_15 nu xs) _ ?_
  refine zAF Hnu20_17 hx hZ 6 3 rfl (by decide) rfl (g := (mkF m 143 #[oa nu, oi 2, oi 15, oi 3, ou] [(.int 3), (.ref xs)])) rfl rfl (hb hby d6_143) _ ?_
  refine zC Hnu20_17 hx hZ hown hby hw zP (own_nu20_16 nu s2 v145 hv145) _ ?_
  exact q
theorem own_nu21_8 (nu : Addr) (s2 : Int32) (hb100 : ifCond.holds .eq s2 = true) :
    zF zV ok4 100 #[oa nu, oi 2, oi 15, oi 3, ou] [(.int s2)] 130 #[oa nu, oi 2, oi 15, oi 3, ou] [(.ref nu)] := by
  refine zx (pc' := 129) d6_100 hb100 (by decide) (by decide) ?_
  refine zJ (pc2 := 130) d6_129 rfl rfl rfl ?_
  exact zH
theorem own_nu21_10 (nu : Addr) (s2 : Int32) (hb135 : ifCond.holds .eq s2 = true) :
    zF zV ok4 135 #[oa nu, oi 2, oi 15, oi 3, ou] [(.int s2)] 148 #[oa nu, oi 2, oi 15, oi 3, ou] [(.ref nu)] := by
  refine zx (pc' := 147) d6_135 hb135 (by decide) (by decide) ?_
  refine zJ (pc2 := 148) d6_147 rfl rfl rfl ?_
  exact zH
theorem own_nu21_11 (nu : Addr) (xt : Addr) :
    zF zV ok4 151 #[oa nu, oi 2, oi 15, oi 3, ou] [(.ref xt)] 152 #[oa nu, oi 2, oi 15, oi 3, ou] [(.ref nu), (.ref xt)] := by
  refine zJ (pc2 := 152) d6_151 rfl rfl rfl ?_
  exact zH
theorem own_nu21_12 (nu : Addr) (nn : Int32) (xt : Addr) :
    zF zV ok4 155 #[oa nu, oi 2, oi 15, oi 3, ou] [(.int nn), (.ref xt)] 156 #[oa nu, oi 2, oi 15, oi 3, ou] [(.int 2), (.int nn), (.ref xt)] := by
  refine zM (pc2 := 156) d6_155 rfl rfl ?_
  exact zH
theorem own_nu21_13 (nu : Addr) :
    zF zV ok4 157 #[oa nu, oi 2, oi 15, oi 3, ou] [] 158 #[oa nu, oi 2, oi 15, oi 3, ou] [(.ref nu)] := by
  refine zJ (pc2 := 158) d6_157 rfl rfl rfl ?_
  exact zH
theorem own_nu21_14 (nu : Addr) (xs : Addr) :
    zF zV ok4 161 #[oa nu, oi 2, oi 15, oi 3, ou] [(.ref xs)] 163 #[oa nu, oi 2, oi 15, oi 3, ou] [(.ref nu), (.int 3), (.ref xs)] := by
  refine zM (pc2 := 162) d6_161 rfl rfl ?_
  refine zJ (pc2 := 163) d6_162 rfl rfl rfl ?_
  exact zH
theorem own_nu21_15 (nu : Addr) (nn : Int32) (xs : Addr) (v167 : Int32) (hv167 : (nn + (1 : Int32)) = v167) :
    zF zV ok4 166 #[oa nu, oi 2, oi 15, oi 3, ou] [(.int nn), (.int 3), (.ref xs)] 168 #[oa nu, oi 2, oi 15, oi 3, ou] [(.int v167), (.int 3), (.ref xs)] := by
  refine zT (v := 1) (pc2 := 167) d6_166 rfl rfl ?_
  refine zAI (pc2 := 168) d6_167 rfl (v := v167) hv167 ?_
  exact zH
theorem own_nu21_16 (nu : Addr) :
    zF zV ok4 169 #[oa nu, oi 2, oi 15, oi 3, ou] [] 171 #[oa nu, oi 2, oi 15, oi 3, ou] [(.ref nu), (.ref nu)] := by
  refine zJ (pc2 := 170) d6_169 rfl rfl rfl ?_
  refine zBh (pc2 := 171) d6_170 rfl rfl ?_
  exact zH
theorem own_nu21_17 (nu : Addr) (nn : Int32) (v176 : Int32) (hv176 : (nn + (1 : Int32)) = v176) :
    zF zV ok4 174 #[oa nu, oi 2, oi 15, oi 3, ou] [(.int nn), (.ref nu)] 177 #[oa nu, oi 2, oi 15, oi 3, ou] [(.int v176), (.ref nu), (.int nn)] := by
  refine zCK (pc2 := 175) d6_174 rfl rfl rfl ?_
  refine zT (v := 1) (pc2 := 176) d6_175 rfl rfl ?_
  refine zAI (pc2 := 177) d6_176 rfl (v := v176) hv176 ?_
  exact zH
set_option maxRecDepth 65536 in
set_option maxHeartbeats 4000000 in
theorem own_num21 (l : Launch) (Z : State) (a0 : Array Value) (hb0 : zU) (hw : ∀ d ∈ tables_1, d.before a0 Z = true) (nu : Addr) (u xb xl xp xt xs : Addr) (fb : Int32 → UInt64) (fl fa ft : Int32 → Int32) (kk cc nn : Int32) (s0 s1 s2 s3 : Int32) (hn8 : nn.toInt ≤ 4) (hs : s2 = 0) (h4 : zG 4 nn) :
    zX l Z a0 hb0 (⟨"com/example/tidewise/tidewise/search/Numbering", "number", "(I)I"⟩ : MethodName) ok4 5 (some .int) [] ({ frames := 2, cells := 0, slots := 0, locals := 45 } : Room) #[(.ref nu), (.int 2)] [(u, oc1 (.ref xb) (.ref xl) (.ref xp) (.int kk) (.ref nu) (.int cc)), (xb, zA .double (zK fb)), (xl, zA .int (zE fl)), (xp, zA .int (zE fa)), (nu, oc2 (.int 4) (.ref xt) (.ref xs) (.int nn) .null (.int 0)), (xt, zA .int (zE ft)), (xs, zA .int [.int s0, .int 0, .int 0, .int s2, .int 0, .int 0, .int 0, .int 0, .int 0, .int s1, .int 0, .int 0, .int 0, .int s3, .int 0, .int 0])] (fun r cs' => r = some (.int nn) ∧ cs' = [(u, oc1 (.ref xb) (.ref xl) (.ref xp) (.int kk) (.ref nu) (.int cc)), (xb, zA .double (zK fb)), (xl, zA .int (zE fl)), (xp, zA .int (zE fa)), (nu, oc2 (.int 4) (.ref xt) (.ref xs) (.int (nn + (1 : Int32))) .null (.int 0)), (xt, zA .int (zE (zD ft nn (2 : Int32)))), (xs, zA .int [.int s0, .int 0, .int 0, .int (nn + (1 : Int32)), .int 0, .int 0, .int 0, .int 0, .int 0, .int s1, .int 0, .int 0, .int 0, .int s3, .int 0, .int 0])]) := by
  refine zh (L0 := #[oa nu, oi 2, ou, ou, ou]) (plainFor_of_name zBa) (fun m => zBd m nu (2 : Int32)) ?_
  intro p e s m below meth c T0 hx hZ hown hby hml hnm H0
  obtain ⟨Tnu21_1, Hnu21_1, stnu21_1⟩ := zI H0 hx hZ hown (zB hw 51 rfl) 4 4 rfl rfl (g := (mkF m 1 #[oa nu, oi 2, ou, ou, ou] [(.ref nu)])) rfl rfl (hb hby d6_1)
  obtain ⟨Tnu21_2, Hnu21_2, stnu21_2⟩ := zI Hnu21_1 hx hZ hown (zB hw 44 rfl) 4 3 rfl rfl (g := (mkF m 8 #[oa nu, oi 2, ou, ou, ou] [(.ref nu)])) rfl rfl (hb hby d6_8)
  obtain ⟨Tnu21_3, Hnu21_3, stnu21_3⟩ := zI Hnu21_2 hx hZ hown (zB hw 28 rfl) 4 1 rfl rfl (g := (mkF m 12 #[oa nu, oi 2, ou, ou, ou] [(.ref nu), (.int nn)])) rfl rfl (hb hby d6_12)
  obtain ⟨Tnu21_5, Hnu21_5, stnu21_5⟩ := zI Hnu21_3 hx hZ hown (zB hw 51 rfl) 4 4 rfl rfl (g := (mkF m 24 #[oa nu, oi 2, ou, ou, ou] [(.ref nu)])) rfl rfl (hb hby d6_24)
  obtain ⟨Tnu21_6, Hnu21_6, stnu21_6⟩ := zI Hnu21_5 hx hZ hown (zB hw 30 rfl) 4 2 rfl rfl (g := (mkF m 81 #[oa nu, oi 2, ou, ou, ou] [(.ref nu)])) rfl rfl (hb hby d6_81)
  obtain ⟨Tnu21_8, vnu21_8_, csnu21_8_, qnu21_8, Hnu21_8, stnu21_8⟩ := zo Hnu21_6 hx hZ hown (zB hw 53 rfl) (zB hw 54 rfl) (zB hw 55 rfl) (zB hw 20 rfl) (zB hw 21 rfl) (zB hw 56 rfl) (by decide) (x := nu) 4 rfl (argsL := [(.int 2)]) (rest := []) (W := 0) (own_slot2 l Z a0 hb0 hw nu u xb xl xp xt xs fb fl fa ft kk cc nn s0 s1 s2 s3) (by decide) (by decide) (by decide) (by decide) (g := (mkF m 90 #[oa nu, oi 2, oi 15, ou, ou] [(.int 2), (.ref nu)])) rfl (by rw [hml]; rfl) (lenOf zAW rfl) rfl (by show 2 * 0 + _ ≤ _; exact Nat.le_of_eq rfl) (hb hby d6_90)
  obtain ⟨rfl, rfl⟩ := qnu21_8
  obtain ⟨Tnu21_9, Hnu21_9, stnu21_9⟩ := zI Hnu21_8 hx hZ hown (zB hw 30 rfl) 4 2 rfl rfl (g := (mkF m 95 #[oa nu, oi 2, oi 15, oi 3, ou] [(.ref nu)])) rfl rfl (hb hby d6_95)
  obtain ⟨Tnu21_11, Hnu21_11, stnu21_11⟩ := zI Hnu21_9 hx hZ hown (zB hw 30 rfl) 4 2 rfl rfl (g := (mkF m 130 #[oa nu, oi 2, oi 15, oi 3, ou] [(.ref nu)])) rfl rfl (hb hby d6_130)
  obtain ⟨Tnu21_13, Hnu21_13, stnu21_13⟩ := zI Hnu21_11 hx hZ hown (zB hw 28 rfl) 4 1 rfl rfl (g := (mkF m 148 #[oa nu, oi 2, oi 15, oi 3, ou] [(.ref nu)])) rfl rfl (hb hby d6_148)
  obtain ⟨Tnu21_14, Hnu21_14, stnu21_14⟩ := zI Hnu21_13 hx hZ hown (zB hw 44 rfl) 4 3 rfl rfl (g := (mkF m 152 #[oa nu, oi 2, oi 15, oi 3, ou] [(.ref nu), (.ref xt)])) rfl rfl (hb hby d6_152)
  obtain ⟨Tnu21_15, Hnu21_15, stnu21_15⟩ := zAs Hnu21_14 hx hZ 5 rfl h4 (g := (mkF m 156 #[oa nu, oi 2, oi 15, oi 3, ou] [(.int 2), (.int nn), (.ref xt)])) rfl rfl (hb hby d6_156)
  change zR _ _ _ _ _ _ _ _ _ _ _ _ _ _ [(u, oc1 (.ref xb) (.ref xl) (.ref xp) (.int kk) (.ref nu) (.int cc)), (xb, zA .double (zK fb)), (xl, zA .int (zE fl)), (xp, zA .int (zE fa)), (nu, oc2 (.int 4) (.ref xt) (.ref xs) (.int nn) .null (.int 0)), (xt, zA .int (zE (zD ft nn (2 : Int32)))), (xs, zA .int [.int s0, .int 0, .int 0, .int s2, .int 0, .int 0, .int 0, .int 0, .int 0, .int s1, .int 0, .int 0, .int 0, .int s3, .int 0, .int 0])] _ _ at Hnu21_15
  obtain ⟨Tnu21_16, Hnu21_16, stnu21_16⟩ := zI Hnu21_15 hx hZ hown (zB hw 30 rfl) 4 2 rfl rfl (g := (mkF m 158 #[oa nu, oi 2, oi 15, oi 3, ou] [(.ref nu)])) rfl rfl (hb hby d6_158)
  obtain ⟨Tnu21_17, Hnu21_17, stnu21_17⟩ := zI Hnu21_16 hx hZ hown (zB hw 44 rfl) 4 3 rfl rfl (g := (mkF m 163 #[oa nu, oi 2, oi 15, oi 3, ou] [(.ref nu), (.int 3), (.ref xs)])) rfl rfl (hb hby d6_163)
  obtain ⟨v167, hv167⟩ : ∃ z : Int32, (nn + (1 : Int32)) = z := ⟨_, rfl⟩
  obtain ⟨Tnu21_18, Hnu21_18, stnu21_18⟩ := zBZ Hnu21_17 hx hZ 6 3 rfl (by decide) (Nat.le_of_ble_eq_true rfl) (g := (mkF m 168 #[oa nu, oi 2, oi 15, oi 3, ou] [(.int v167), (.int 3), (.ref xs)])) rfl rfl (hb hby d6_168)
  change zR _ _ _ _ _ _ _ _ _ _ _ _ _ _ [(u, oc1 (.ref xb) (.ref xl) (.ref xp) (.int kk) (.ref nu) (.int cc)), (xb, zA .double (zK fb)), (xl, zA .int (zE fl)), (xp, zA .int (zE fa)), (nu, oc2 (.int 4) (.ref xt) (.ref xs) (.int nn) .null (.int 0)), (xt, zA .int (zE (zD ft nn (2 : Int32)))), (xs, zA .int [.int s0, .int 0, .int 0, .int v167, .int 0, .int 0, .int 0, .int 0, .int 0, .int s1, .int 0, .int 0, .int 0, .int s3, .int 0, .int 0])] _ _ at Hnu21_18
  obtain ⟨Tnu21_19, Hnu21_19, stnu21_19⟩ := zI Hnu21_18 hx hZ hown (zB hw 44 rfl) 4 3 rfl rfl (g := (mkF m 171 #[oa nu, oi 2, oi 15, oi 3, ou] [(.ref nu), (.ref nu)])) rfl rfl (hb hby d6_171)
  obtain ⟨v176, hv176⟩ : ∃ z : Int32, (nn + (1 : Int32)) = z := ⟨_, rfl⟩
  obtain ⟨Tnu21_20, Hnu21_20, stnu21_20⟩ := zAl Hnu21_19 hx hZ hown (zB hw 44 rfl) 4 3 rfl rfl (Or.inl (zB hw 45 rfl)) (zB hw 20 rfl) (ty := .int) (by decide) rfl rfl (g := (mkF m 177 #[oa nu, oi 2, oi 15, oi 3, ou] [(.int v176), (.ref nu), (.int nn)])) rfl rfl (hb hby d6_177)
  change zR _ _ _ _ _ _ _ _ _ _ _ _ _ _ [(u, oc1 (.ref xb) (.ref xl) (.ref xp) (.int kk) (.ref nu) (.int cc)), (xb, zA .double (zK fb)), (xl, zA .int (zE fl)), (xp, zA .int (zE fa)), (nu, oc2 (.int 4) (.ref xt) (.ref xs) (.int v176) .null (.int 0)), (xt, zA .int (zE (zD ft nn (2 : Int32)))), (xs, zA .int [.int s0, .int 0, .int 0, .int v167, .int 0, .int 0, .int 0, .int 0, .int 0, .int s1, .int 0, .int 0, .int 0, .int s3, .int 0, .int 0])] _ _ at Hnu21_20
  have hb16 : if_icmp.holds .ne nn (8 : Int32) = true := by rw [zAQ]; exact decide_eq_true (fun z => by rw [z] at hn8; exact absurd hn8 (by decide))
  have hb100 : ifCond.holds .eq s2 = true := by rw [zBY]; exact decide_eq_true hs
  have hb135 : ifCond.holds .eq s2 = true := hb100
  refine ⟨_, _, _, _, 180, #[oa nu, oi 2, oi 15, oi 3, ou], Hnu21_20, by decide, by decide, Or.inr ⟨.int, (.int nn), [], .ireturn, rfl, ⟨rfl, by rw [← hv167, ← hv176]⟩, d6_180, zAe _, fun target q => ?_⟩⟩
  refine zC H0 hx hZ hown hby hw zP (own_nu20_0 nu) _ ?_
  refine stnu21_1 _ ?_
  refine zC Hnu21_1 hx hZ hown hby hw zP (own_nu20_1 nu) _ ?_
  refine stnu21_2 _ ?_
  refine zC Hnu21_2 hx hZ hown hby hw zP (own_nu20_2 nu nn) _ ?_
  refine stnu21_3 _ ?_
  refine zAK Hnu21_3 hx hZ 5 rfl (z := (8 : Int32)) rfl (g := (mkF m 15 #[oa nu, oi 2, ou, ou, ou] [(.ref xt), (.int nn)])) rfl rfl (hb hby d6_15) _ ?_
  refine zC Hnu21_3 hx hZ hown hby hw zP (own_nu20_3 nu nn hb16) _ ?_
  refine stnu21_5 _ ?_
  refine zC Hnu21_5 hx hZ hown hby hw zP (own_nu20_4 nu) _ ?_
  refine stnu21_6 _ ?_
  refine zAK Hnu21_6 hx hZ 6 rfl (z := (16 : Int32)) rfl (g := (mkF m 84 #[oa nu, oi 2, ou, ou, ou] [(.ref xs)])) rfl rfl (hb hby d6_84) _ ?_
  refine zC Hnu21_6 hx hZ hown hby hw zP (own_nu20_5 nu) _ ?_
  refine stnu21_8 _ ?_
  refine zC Hnu21_8 hx hZ hown hby hw zP (own_nu20_6 nu) _ ?_
  refine stnu21_9 _ ?_
  refine zC Hnu21_9 hx hZ hown hby hw zP (own_nu20_7 nu xs) _ ?_
  refine zAF Hnu21_9 hx hZ 6 3 rfl (by decide) rfl (g := (mkF m 99 #[oa nu, oi 2, oi 15, oi 3, ou] [(.int 3), (.ref xs)])) rfl rfl (hb hby d6_99) _ ?_
  refine zC Hnu21_9 hx hZ hown hby hw zP (own_nu21_8 nu s2 hb100) _ ?_
  refine stnu21_11 _ ?_
  refine zC Hnu21_11 hx hZ hown hby hw zP (own_nu20_13 nu xs) _ ?_
  refine zAF Hnu21_11 hx hZ 6 3 rfl (by decide) rfl (g := (mkF m 134 #[oa nu, oi 2, oi 15, oi 3, ou] [(.int 3), (.ref xs)])) rfl rfl (hb hby d6_134) _ ?_
  refine zC Hnu21_11 hx hZ hown hby hw zP (own_nu21_10 nu s2 hb135) _ ?_
  refine stnu21_13 _ ?_
  refine zC Hnu21_13 hx hZ hown hby hw zP (own_nu21_11 nu xt) _ ?_
  refine stnu21_14 _ ?_
  refine zC Hnu21_14 hx hZ hown hby hw zP (own_nu21_12 nu nn xt) _ ?_
  refine stnu21_15 _ ?_
  refine zC Hnu21_15 hx hZ hown hby hw zP (own_nu21_13 nu) _ ?_
  refine stnu21_16 _ ?_
  refine zC Hnu21_16 hx hZ hown hby hw zP (own_nu21_14 nu xs) _ ?_
  refine stnu21_17 _ ?_
  refine zC Hnu21_17 hx hZ hown hby hw zP (own_nu21_15 nu nn xs v167 hv167) _ ?_
  refine stnu21_18 _ ?_
  refine zC Hnu21_18 hx hZ hown hby hw zP (own_nu21_16 nu) _ ?_
  refine stnu21_19 _ ?_
  refine zC Hnu21_19 hx hZ hown hby hw zP (own_nu21_17 nu nn v176 hv176) _ ?_
  refine stnu21_20 _ ?_
  exact q
theorem own_nu30_0 (nu : Addr) :
    zF zV ok4 0 #[oa nu, oi 3, ou, ou, ou] [] 1 #[oa nu, oi 3, ou, ou, ou] [(.ref nu)] := by
  refine zJ (pc2 := 1) d6_0 rfl rfl rfl ?_
  exact zH
theorem own_nu30_1 (nu : Addr) :
    zF zV ok4 4 #[oa nu, oi 3, ou, ou, ou] [.null] 8 #[oa nu, oi 3, ou, ou, ou] [(.ref nu)] := by
  refine zCh (pc2 := 7) d6_4 rfl ?_
  refine zJ (pc2 := 8) d6_7 rfl rfl rfl ?_
  exact zH
theorem own_nu30_2 (nu : Addr) (nn : Int32) :
    zF zV ok4 11 #[oa nu, oi 3, ou, ou, ou] [(.int nn)] 12 #[oa nu, oi 3, ou, ou, ou] [(.ref nu), (.int nn)] := by
  refine zJ (pc2 := 12) d6_11 rfl rfl rfl ?_
  exact zH
theorem own_nu30_3 (nu : Addr) (nn : Int32) (hb16 : if_icmp.holds .ne nn (8 : Int32) = true) :
    zF zV ok4 16 #[oa nu, oi 3, ou, ou, ou] [(.int 8), (.int nn)] 24 #[oa nu, oi 3, ou, ou, ou] [(.ref nu)] := by
  refine zAJ (pc' := 23) d6_16 hb16 (by decide) (by decide) ?_
  refine zJ (pc2 := 24) d6_23 rfl rfl rfl ?_
  exact zH
theorem own_nu30_4 (nu : Addr) :
    zF zV ok4 27 #[oa nu, oi 3, ou, ou, ou] [.null] 81 #[oa nu, oi 3, ou, ou, ou] [(.ref nu)] := by
  refine zCg (pc' := 80) d6_27 (by decide) (by decide) ?_
  refine zJ (pc2 := 81) d6_80 rfl rfl rfl ?_
  exact zH
theorem own_nu30_5 (nu : Addr) :
    zF zV ok4 85 #[oa nu, oi 3, ou, ou, ou] [(.int 16)] 90 #[oa nu, oi 3, oi 15, ou, ou] [(.int 3), (.ref nu)] := by
  refine zT (v := 1) (pc2 := 86) d6_85 rfl rfl ?_
  refine zAU (pc2 := 87) d6_86 rfl (v := (15 : Int32)) (by decide) ?_
  refine zAG (pc2 := 88) d6_87 rfl (L' := #[oa nu, oi 3, oi 15, ou, ou]) rfl ?_
  refine zJ (pc2 := 89) d6_88 rfl rfl rfl ?_
  refine zM (pc2 := 90) d6_89 rfl rfl ?_
  exact zH
theorem own_nu30_6 (nu : Addr) :
    zF zV ok4 93 #[oa nu, oi 3, oi 15, ou, ou] [(.int 13)] 95 #[oa nu, oi 3, oi 15, oi 13, ou] [(.ref nu)] := by
  refine zAG (pc2 := 94) d6_93 rfl (L' := #[oa nu, oi 3, oi 15, oi 13, ou]) rfl ?_
  refine zJ (pc2 := 95) d6_94 rfl rfl rfl ?_
  exact zH
theorem own_nu30_7 (nu : Addr) (xs : Addr) :
    zF zV ok4 98 #[oa nu, oi 3, oi 15, oi 13, ou] [(.ref xs)] 99 #[oa nu, oi 3, oi 15, oi 13, ou] [(.int 13), (.ref xs)] := by
  refine zM (pc2 := 99) d6_98 rfl rfl ?_
  exact zH
theorem own_nu30_8 (nu : Addr) (s3 : Int32) (hb100 : ifCond.holds .eq s3 = false) :
    zF zV ok4 100 #[oa nu, oi 3, oi 15, oi 13, ou] [(.int s3)] 104 #[oa nu, oi 3, oi 15, oi 13, ou] [(.ref nu)] := by
  refine zy (pc2 := 103) d6_100 rfl hb100 ?_
  refine zJ (pc2 := 104) d6_103 rfl rfl rfl ?_
  exact zH
theorem own_nu30_9 (nu : Addr) (xt : Addr) :
    zF zV ok4 107 #[oa nu, oi 3, oi 15, oi 13, ou] [(.ref xt)] 108 #[oa nu, oi 3, oi 15, oi 13, ou] [(.ref nu), (.ref xt)] := by
  refine zJ (pc2 := 108) d6_107 rfl rfl rfl ?_
  exact zH
theorem own_nu30_10 (nu : Addr) (xs : Addr) (xt : Addr) :
    zF zV ok4 111 #[oa nu, oi 3, oi 15, oi 13, ou] [(.ref xs), (.ref xt)] 112 #[oa nu, oi 3, oi 15, oi 13, ou] [(.int 13), (.ref xs), (.ref xt)] := by
  refine zM (pc2 := 112) d6_111 rfl rfl ?_
  exact zH
theorem own_nu30_11 (nu : Addr) (s3 : Int32) (xt : Addr) (v114 : Int32) (hv114 : (s3 - (1 : Int32)) = v114) :
    zF zV ok4 113 #[oa nu, oi 3, oi 15, oi 13, ou] [(.int s3), (.ref xt)] 115 #[oa nu, oi 3, oi 15, oi 13, ou] [(.int v114), (.ref xt)] := by
  refine zT (v := 1) (pc2 := 114) d6_113 rfl rfl ?_
  refine zAU (pc2 := 115) d6_114 rfl (v := v114) hv114 ?_
  exact zH
theorem own_nu30_12 (nu : Addr) (w0 : Int32) (hb117 : if_icmp.holds .eq w0 (3 : Int32) = true) :
    zF zV ok4 116 #[oa nu, oi 3, oi 15, oi 13, ou] [(.int w0)] 130 #[oa nu, oi 3, oi 15, oi 13, ou] [(.ref nu)] := by
  refine zM (pc2 := 117) d6_116 rfl rfl ?_
  refine zAJ (pc' := 129) d6_117 hb117 (by decide) (by decide) ?_
  refine zJ (pc2 := 130) d6_129 rfl rfl rfl ?_
  exact zH
theorem own_nu30_13 (nu : Addr) (xs : Addr) :
    zF zV ok4 133 #[oa nu, oi 3, oi 15, oi 13, ou] [(.ref xs)] 134 #[oa nu, oi 3, oi 15, oi 13, ou] [(.int 13), (.ref xs)] := by
  refine zM (pc2 := 134) d6_133 rfl rfl ?_
  exact zH
theorem own_nu30_14 (nu : Addr) (s3 : Int32) (hb135 : ifCond.holds .eq s3 = false) :
    zF zV ok4 135 #[oa nu, oi 3, oi 15, oi 13, ou] [(.int s3)] 139 #[oa nu, oi 3, oi 15, oi 13, ou] [(.ref nu)] := by
  refine zy (pc2 := 138) d6_135 rfl hb135 ?_
  refine zJ (pc2 := 139) d6_138 rfl rfl rfl ?_
  exact zH
theorem own_nu30_15 (nu : Addr) (xs : Addr) :
    zF zV ok4 142 #[oa nu, oi 3, oi 15, oi 13, ou] [(.ref xs)] 143 #[oa nu, oi 3, oi 15, oi 13, ou] [(.int 13), (.ref xs)] := by
  refine zM (pc2 := 143) d6_142 rfl rfl ?_
  exact zH
theorem own_nu30_16 (nu : Addr) (s3 : Int32) (v145 : Int32) (hv145 : (s3 - (1 : Int32)) = v145) :
    zF zV ok4 144 #[oa nu, oi 3, oi 15, oi 13, ou] [(.int s3)] 146 #[oa nu, oi 3, oi 15, oi 13, ou] [(.int v145)] := by
  refine zT (v := 1) (pc2 := 145) d6_144 rfl rfl ?_
  refine zAU (pc2 := 146) d6_145 rfl (v := v145) hv145 ?_
  exact zH
set_option maxRecDepth 65536 in
set_option maxHeartbeats 4000000 in
theorem own_num30 (l : Launch) (Z : State) (a0 : Array Value) (hb0 : zU) (hw : ∀ d ∈ tables_1, d.before a0 Z = true) (nu : Addr) (u xb xl xp xt xs : Addr) (fb : Int32 → UInt64) (fl fa ft : Int32 → Int32) (kk cc nn : Int32) (s0 s1 s2 s3 : Int32) (hn8 : nn.toInt ≤ 4) (hs : ¬ s3 = 0) (h4 : zG 4 (s3 - (1 : Int32))) (ht : ft (s3 - (1 : Int32)) = (3 : Int32)) :
    zX l Z a0 hb0 (⟨"com/example/tidewise/tidewise/search/Numbering", "number", "(I)I"⟩ : MethodName) ok4 5 (some .int) [] ({ frames := 2, cells := 0, slots := 0, locals := 45 } : Room) #[(.ref nu), (.int 3)] [(u, oc1 (.ref xb) (.ref xl) (.ref xp) (.int kk) (.ref nu) (.int cc)), (xb, zA .double (zK fb)), (xl, zA .int (zE fl)), (xp, zA .int (zE fa)), (nu, oc2 (.int 4) (.ref xt) (.ref xs) (.int nn) .null (.int 0)), (xt, zA .int (zE ft)), (xs, zA .int [.int s0, .int 0, .int 0, .int s2, .int 0, .int 0, .int 0, .int 0, .int 0, .int s1, .int 0, .int 0, .int 0, .int s3, .int 0, .int 0])] (fun r cs' => ∃ z, z = s3 - (1 : Int32) ∧ r = some (.int z) ∧ cs' = [(u, oc1 (.ref xb) (.ref xl) (.ref xp) (.int kk) (.ref nu) (.int cc)), (xb, zA .double (zK fb)), (xl, zA .int (zE fl)), (xp, zA .int (zE fa)), (nu, oc2 (.int 4) (.ref xt) (.ref xs) (.int nn) .null (.int 0)), (xt, zA .int (zE ft)), (xs, zA .int [.int s0, .int 0, .int 0, .int s2, .int 0, .int 0, .int 0, .int 0, .int 0, .int s1, .int 0, .int 0, .int 0, .int s3, .int 0, .int 0])]) := by
  refine zh (L0 := #[oa nu, oi 3, ou, ou, ou]) (plainFor_of_name zBa) (fun m => zBd m nu (3 : Int32)) ?_
  intro p e s m below meth c T0 hx hZ hown hby hml hnm H0
  obtain ⟨Tnu30_1, Hnu30_1, stnu30_1⟩ := zI H0 hx hZ hown (zB hw 51 rfl) 4 4 rfl rfl (g := (mkF m 1 #[oa nu, oi 3, ou, ou, ou] [(.ref nu)])) rfl rfl (hb hby d6_1)
  obtain ⟨Tnu30_2, Hnu30_2, stnu30_2⟩ := zI Hnu30_1 hx hZ hown (zB hw 44 rfl) 4 3 rfl rfl (g := (mkF m 8 #[oa nu, oi 3, ou, ou, ou] [(.ref nu)])) rfl rfl (hb hby d6_8)
  obtain ⟨Tnu30_3, Hnu30_3, stnu30_3⟩ := zI Hnu30_2 hx hZ hown (zB hw 28 rfl) 4 1 rfl rfl (g := (mkF m 12 #[oa nu, oi 3, ou, ou, ou] [(.ref nu), (.int nn)])) rfl rfl (hb hby d6_12)
  obtain ⟨Tnu30_5, Hnu30_5, stnu30_5⟩ := zI Hnu30_3 hx hZ hown (zB hw 51 rfl) 4 4 rfl rfl (g := (mkF m 24 #[oa nu, oi 3, ou, ou, ou] [(.ref nu)])) rfl rfl (hb hby d6_24)
  obtain ⟨Tnu30_6, Hnu30_6, stnu30_6⟩ := zI Hnu30_5 hx hZ hown (zB hw 30 rfl) 4 2 rfl rfl (g := (mkF m 81 #[oa nu, oi 3, ou, ou, ou] [(.ref nu)])) rfl rfl (hb hby d6_81)
  obtain ⟨Tnu30_8, vnu30_8_, csnu30_8_, qnu30_8, Hnu30_8, stnu30_8⟩ := zo Hnu30_6 hx hZ hown (zB hw 53 rfl) (zB hw 54 rfl) (zB hw 55 rfl) (zB hw 20 rfl) (zB hw 21 rfl) (zB hw 56 rfl) (by decide) (x := nu) 4 rfl (argsL := [(.int 3)]) (rest := []) (W := 0) (own_slot3 l Z a0 hb0 hw nu u xb xl xp xt xs fb fl fa ft kk cc nn s0 s1 s2 s3) (by decide) (by decide) (by decide) (by decide) (g := (mkF m 90 #[oa nu, oi 3, oi 15, ou, ou] [(.int 3), (.ref nu)])) rfl (by rw [hml]; rfl) (lenOf zAW rfl) rfl (by show 2 * 0 + _ ≤ _; exact Nat.le_of_eq rfl) (hb hby d6_90)
  obtain ⟨rfl, rfl⟩ := qnu30_8
  obtain ⟨Tnu30_9, Hnu30_9, stnu30_9⟩ := zI Hnu30_8 hx hZ hown (zB hw 30 rfl) 4 2 rfl rfl (g := (mkF m 95 #[oa nu, oi 3, oi 15, oi 13, ou] [(.ref nu)])) rfl rfl (hb hby d6_95)
  obtain ⟨Tnu30_11, Hnu30_11, stnu30_11⟩ := zI Hnu30_9 hx hZ hown (zB hw 28 rfl) 4 1 rfl rfl (g := (mkF m 104 #[oa nu, oi 3, oi 15, oi 13, ou] [(.ref nu)])) rfl rfl (hb hby d6_104)
  obtain ⟨Tnu30_12, Hnu30_12, stnu30_12⟩ := zI Hnu30_11 hx hZ hown (zB hw 30 rfl) 4 2 rfl rfl (g := (mkF m 108 #[oa nu, oi 3, oi 15, oi 13, ou] [(.ref nu), (.ref xt)])) rfl rfl (hb hby d6_108)
  obtain ⟨v114, hv114⟩ : ∃ z : Int32, (s3 - (1 : Int32)) = z := ⟨_, rfl⟩
  have h4' : zG 4 v114 := by rw [← hv114]; exact h4
  obtain ⟨w0, hw0⟩ : ∃ z, ft v114 = z := ⟨_, rfl⟩
  obtain ⟨Tnu30_15, Hnu30_15, stnu30_15⟩ := zI Hnu30_12 hx hZ hown (zB hw 30 rfl) 4 2 rfl rfl (g := (mkF m 130 #[oa nu, oi 3, oi 15, oi 13, ou] [(.ref nu)])) rfl rfl (hb hby d6_130)
  obtain ⟨Tnu30_17, Hnu30_17, stnu30_17⟩ := zI Hnu30_15 hx hZ hown (zB hw 30 rfl) 4 2 rfl rfl (g := (mkF m 139 #[oa nu, oi 3, oi 15, oi 13, ou] [(.ref nu)])) rfl rfl (hb hby d6_139)
  obtain ⟨v145, hv145⟩ : ∃ z : Int32, (s3 - (1 : Int32)) = z := ⟨_, rfl⟩
  have hb16 : if_icmp.holds .ne nn (8 : Int32) = true := by rw [zAQ]; exact decide_eq_true (fun z => by rw [z] at hn8; exact absurd hn8 (by decide))
  have hb100 : ifCond.holds .eq s3 = false := by rw [zBY]; exact decide_eq_false hs
  have hb135 : ifCond.holds .eq s3 = false := hb100
  have hb117 : if_icmp.holds .eq w0 (3 : Int32) = true := by rw [zCb]; exact decide_eq_true (by rw [← hw0, ← hv114]; exact ht)
  refine ⟨_, _, _, _, 146, #[oa nu, oi 3, oi 15, oi 13, ou], Hnu30_17, by decide, by decide, Or.inr ⟨.int, (.int v145), [], .ireturn, rfl, ⟨v145, hv145.symm, rfl, rfl⟩, d6_146, zAe _, fun target q => ?_⟩⟩
  refine zC H0 hx hZ hown hby hw zP (own_nu30_0 nu) _ ?_
  refine stnu30_1 _ ?_
  refine zC Hnu30_1 hx hZ hown hby hw zP (own_nu30_1 nu) _ ?_
  refine stnu30_2 _ ?_
  refine zC Hnu30_2 hx hZ hown hby hw zP (own_nu30_2 nu nn) _ ?_
  refine stnu30_3 _ ?_
  refine zAK Hnu30_3 hx hZ 5 rfl (z := (8 : Int32)) rfl (g := (mkF m 15 #[oa nu, oi 3, ou, ou, ou] [(.ref xt), (.int nn)])) rfl rfl (hb hby d6_15) _ ?_
  refine zC Hnu30_3 hx hZ hown hby hw zP (own_nu30_3 nu nn hb16) _ ?_
  refine stnu30_5 _ ?_
  refine zC Hnu30_5 hx hZ hown hby hw zP (own_nu30_4 nu) _ ?_
  refine stnu30_6 _ ?_
  refine zAK Hnu30_6 hx hZ 6 rfl (z := (16 : Int32)) rfl (g := (mkF m 84 #[oa nu, oi 3, ou, ou, ou] [(.ref xs)])) rfl rfl (hb hby d6_84) _ ?_
  refine zC Hnu30_6 hx hZ hown hby hw zP (own_nu30_5 nu) _ ?_
  refine stnu30_8 _ ?_
  refine zC Hnu30_8 hx hZ hown hby hw zP (own_nu30_6 nu) _ ?_
  refine stnu30_9 _ ?_
  refine zC Hnu30_9 hx hZ hown hby hw zP (own_nu30_7 nu xs) _ ?_
  refine zAF Hnu30_9 hx hZ 6 13 rfl (by decide) rfl (g := (mkF m 99 #[oa nu, oi 3, oi 15, oi 13, ou] [(.int 13), (.ref xs)])) rfl rfl (hb hby d6_99) _ ?_
  refine zC Hnu30_9 hx hZ hown hby hw zP (own_nu30_8 nu s3 hb100) _ ?_
  refine stnu30_11 _ ?_
  refine zC Hnu30_11 hx hZ hown hby hw zP (own_nu30_9 nu xt) _ ?_
  refine stnu30_12 _ ?_
  refine zC Hnu30_12 hx hZ hown hby hw zP (own_nu30_10 nu xs xt) _ ?_
  refine zAF Hnu30_12 hx hZ 6 13 rfl (by decide) rfl (g := (mkF m 112 #[oa nu, oi 3, oi 15, oi 13, ou] [(.int 13), (.ref xs), (.ref xt)])) rfl rfl (hb hby d6_112) _ ?_
  refine zC Hnu30_12 hx hZ hown hby hw zP (own_nu30_11 nu s3 xt v114 hv114) _ ?_
  refine zf Hnu30_12 hx hZ 5 rfl h4' hw0 (g := (mkF m 115 #[oa nu, oi 3, oi 15, oi 13, ou] [(.int v114), (.ref xt)])) rfl rfl (hb hby d6_115) _ ?_
  refine zC Hnu30_12 hx hZ hown hby hw zP (own_nu30_12 nu w0 hb117) _ ?_
  refine stnu30_15 _ ?_
  refine zC Hnu30_15 hx hZ hown hby hw zP (own_nu30_13 nu xs) _ ?_
  refine zAF Hnu30_15 hx hZ 6 13 rfl (by decide) rfl (g := (mkF m 134 #[oa nu, oi 3, oi 15, oi 13, ou] [(.int 13), (.ref xs)])) rfl rfl (hb hby d6_134) _ ?_
  refine zC Hnu30_15 hx hZ hown hby hw zP (own_nu30_14 nu s3 hb135) _ ?_
  refine stnu30_17 _ ?_
  refine zC Hnu30_17 hx hZ hown hby hw zP (own_nu30_15 nu xs) _ ?_
  refine zAF Hnu30_17 hx hZ 6 13 rfl (by decide) rfl (g := (mkF m 143 #[oa nu, oi 3, oi 15, oi 13, ou] [(.int 13), (.ref xs)])) rfl rfl (hb hby d6_143) _ ?_
  refine zC Hnu30_17 hx hZ hown hby hw zP (own_nu30_16 nu s3 v145 hv145) _ ?_
  exact q
theorem own_nu31_8 (nu : Addr) (s3 : Int32) (hb100 : ifCond.holds .eq s3 = true) :
    zF zV ok4 100 #[oa nu, oi 3, oi 15, oi 13, ou] [(.int s3)] 130 #[oa nu, oi 3, oi 15, oi 13, ou] [(.ref nu)] := by
  refine zx (pc' := 129) d6_100 hb100 (by decide) (by decide) ?_
  refine zJ (pc2 := 130) d6_129 rfl rfl rfl ?_
  exact zH
theorem own_nu31_10 (nu : Addr) (s3 : Int32) (hb135 : ifCond.holds .eq s3 = true) :
    zF zV ok4 135 #[oa nu, oi 3, oi 15, oi 13, ou] [(.int s3)] 148 #[oa nu, oi 3, oi 15, oi 13, ou] [(.ref nu)] := by
  refine zx (pc' := 147) d6_135 hb135 (by decide) (by decide) ?_
  refine zJ (pc2 := 148) d6_147 rfl rfl rfl ?_
  exact zH
theorem own_nu31_11 (nu : Addr) (xt : Addr) :
    zF zV ok4 151 #[oa nu, oi 3, oi 15, oi 13, ou] [(.ref xt)] 152 #[oa nu, oi 3, oi 15, oi 13, ou] [(.ref nu), (.ref xt)] := by
  refine zJ (pc2 := 152) d6_151 rfl rfl rfl ?_
  exact zH
theorem own_nu31_12 (nu : Addr) (nn : Int32) (xt : Addr) :
    zF zV ok4 155 #[oa nu, oi 3, oi 15, oi 13, ou] [(.int nn), (.ref xt)] 156 #[oa nu, oi 3, oi 15, oi 13, ou] [(.int 3), (.int nn), (.ref xt)] := by
  refine zM (pc2 := 156) d6_155 rfl rfl ?_
  exact zH
theorem own_nu31_13 (nu : Addr) :
    zF zV ok4 157 #[oa nu, oi 3, oi 15, oi 13, ou] [] 158 #[oa nu, oi 3, oi 15, oi 13, ou] [(.ref nu)] := by
  refine zJ (pc2 := 158) d6_157 rfl rfl rfl ?_
  exact zH
theorem own_nu31_14 (nu : Addr) (xs : Addr) :
    zF zV ok4 161 #[oa nu, oi 3, oi 15, oi 13, ou] [(.ref xs)] 163 #[oa nu, oi 3, oi 15, oi 13, ou] [(.ref nu), (.int 13), (.ref xs)] := by
  refine zM (pc2 := 162) d6_161 rfl rfl ?_
  refine zJ (pc2 := 163) d6_162 rfl rfl rfl ?_
  exact zH
theorem own_nu31_15 (nu : Addr) (nn : Int32) (xs : Addr) (v167 : Int32) (hv167 : (nn + (1 : Int32)) = v167) :
    zF zV ok4 166 #[oa nu, oi 3, oi 15, oi 13, ou] [(.int nn), (.int 13), (.ref xs)] 168 #[oa nu, oi 3, oi 15, oi 13, ou] [(.int v167), (.int 13), (.ref xs)] := by
  refine zT (v := 1) (pc2 := 167) d6_166 rfl rfl ?_
  refine zAI (pc2 := 168) d6_167 rfl (v := v167) hv167 ?_
  exact zH
theorem own_nu31_16 (nu : Addr) :
    zF zV ok4 169 #[oa nu, oi 3, oi 15, oi 13, ou] [] 171 #[oa nu, oi 3, oi 15, oi 13, ou] [(.ref nu), (.ref nu)] := by
  refine zJ (pc2 := 170) d6_169 rfl rfl rfl ?_
  refine zBh (pc2 := 171) d6_170 rfl rfl ?_
  exact zH
theorem own_nu31_17 (nu : Addr) (nn : Int32) (v176 : Int32) (hv176 : (nn + (1 : Int32)) = v176) :
    zF zV ok4 174 #[oa nu, oi 3, oi 15, oi 13, ou] [(.int nn), (.ref nu)] 177 #[oa nu, oi 3, oi 15, oi 13, ou] [(.int v176), (.ref nu), (.int nn)] := by
  refine zCK (pc2 := 175) d6_174 rfl rfl rfl ?_
  refine zT (v := 1) (pc2 := 176) d6_175 rfl rfl ?_
  refine zAI (pc2 := 177) d6_176 rfl (v := v176) hv176 ?_
  exact zH
set_option maxRecDepth 65536 in
set_option maxHeartbeats 4000000 in
theorem own_num31 (l : Launch) (Z : State) (a0 : Array Value) (hb0 : zU) (hw : ∀ d ∈ tables_1, d.before a0 Z = true) (nu : Addr) (u xb xl xp xt xs : Addr) (fb : Int32 → UInt64) (fl fa ft : Int32 → Int32) (kk cc nn : Int32) (s0 s1 s2 s3 : Int32) (hn8 : nn.toInt ≤ 4) (hs : s3 = 0) (h4 : zG 4 nn) :
    zX l Z a0 hb0 (⟨"com/example/tidewise/tidewise/search/Numbering", "number", "(I)I"⟩ : MethodName) ok4 5 (some .int) [] ({ frames := 2, cells := 0, slots := 0, locals := 45 } : Room) #[(.ref nu), (.int 3)] [(u, oc1 (.ref xb) (.ref xl) (.ref xp) (.int kk) (.ref nu) (.int cc)), (xb, zA .double (zK fb)), (xl, zA .int (zE fl)), (xp, zA .int (zE fa)), (nu, oc2 (.int 4) (.ref xt) (.ref xs) (.int nn) .null (.int 0)), (xt, zA .int (zE ft)), (xs, zA .int [.int s0, .int 0, .int 0, .int s2, .int 0, .int 0, .int 0, .int 0, .int 0, .int s1, .int 0, .int 0, .int 0, .int s3, .int 0, .int 0])] (fun r cs' => r = some (.int nn) ∧ cs' = [(u, oc1 (.ref xb) (.ref xl) (.ref xp) (.int kk) (.ref nu) (.int cc)), (xb, zA .double (zK fb)), (xl, zA .int (zE fl)), (xp, zA .int (zE fa)), (nu, oc2 (.int 4) (.ref xt) (.ref xs) (.int (nn + (1 : Int32))) .null (.int 0)), (xt, zA .int (zE (zD ft nn (3 : Int32)))), (xs, zA .int [.int s0, .int 0, .int 0, .int s2, .int 0, .int 0, .int 0, .int 0, .int 0, .int s1, .int 0, .int 0, .int 0, .int (nn + (1 : Int32)), .int 0, .int 0])]) := by
  refine zh (L0 := #[oa nu, oi 3, ou, ou, ou]) (plainFor_of_name zBa) (fun m => zBd m nu (3 : Int32)) ?_
  intro p e s m below meth c T0 hx hZ hown hby hml hnm H0
  obtain ⟨Tnu31_1, Hnu31_1, stnu31_1⟩ := zI H0 hx hZ hown (zB hw 51 rfl) 4 4 rfl rfl (g := (mkF m 1 #[oa nu, oi 3, ou, ou, ou] [(.ref nu)])) rfl rfl (hb hby d6_1)
  obtain ⟨Tnu31_2, Hnu31_2, stnu31_2⟩ := zI Hnu31_1 hx hZ hown (zB hw 44 rfl) 4 3 rfl rfl (g := (mkF m 8 #[oa nu, oi 3, ou, ou, ou] [(.ref nu)])) rfl rfl (hb hby d6_8)
  obtain ⟨Tnu31_3, Hnu31_3, stnu31_3⟩ := zI Hnu31_2 hx hZ hown (zB hw 28 rfl) 4 1 rfl rfl (g := (mkF m 12 #[oa nu, oi 3, ou, ou, ou] [(.ref nu), (.int nn)])) rfl rfl (hb hby d6_12)
  obtain ⟨Tnu31_5, Hnu31_5, stnu31_5⟩ := zI Hnu31_3 hx hZ hown (zB hw 51 rfl) 4 4 rfl rfl (g := (mkF m 24 #[oa nu, oi 3, ou, ou, ou] [(.ref nu)])) rfl rfl (hb hby d6_24)
  obtain ⟨Tnu31_6, Hnu31_6, stnu31_6⟩ := zI Hnu31_5 hx hZ hown (zB hw 30 rfl) 4 2 rfl rfl (g := (mkF m 81 #[oa nu, oi 3, ou, ou, ou] [(.ref nu)])) rfl rfl (hb hby d6_81)
  obtain ⟨Tnu31_8, vnu31_8_, csnu31_8_, qnu31_8, Hnu31_8, stnu31_8⟩ := zo Hnu31_6 hx hZ hown (zB hw 53 rfl) (zB hw 54 rfl) (zB hw 55 rfl) (zB hw 20 rfl) (zB hw 21 rfl) (zB hw 56 rfl) (by decide) (x := nu) 4 rfl (argsL := [(.int 3)]) (rest := []) (W := 0) (own_slot3 l Z a0 hb0 hw nu u xb xl xp xt xs fb fl fa ft kk cc nn s0 s1 s2 s3) (by decide) (by decide) (by decide) (by decide) (g := (mkF m 90 #[oa nu, oi 3, oi 15, ou, ou] [(.int 3), (.ref nu)])) rfl (by rw [hml]; rfl) (lenOf zAW rfl) rfl (by show 2 * 0 + _ ≤ _; exact Nat.le_of_eq rfl) (hb hby d6_90)
  obtain ⟨rfl, rfl⟩ := qnu31_8
  obtain ⟨Tnu31_9, Hnu31_9, stnu31_9⟩ := zI Hnu31_8 hx hZ hown (zB hw 30 rfl) 4 2 rfl rfl (g := (mkF m 95 #[oa nu, oi 3, oi 15, oi 13, ou] [(.ref nu)])) rfl rfl (hb hby d6_95)
  obtain ⟨Tnu31_11, Hnu31_11, stnu31_11⟩ := zI Hnu31_9 hx hZ hown (zB hw 30 rfl) 4 2 rfl rfl (g := (mkF m 130 #[oa nu, oi 3, oi 15, oi 13, ou] [(.ref nu)])) rfl rfl (hb hby d6_130)
  obtain ⟨Tnu31_13, Hnu31_13, stnu31_13⟩ := zI Hnu31_11 hx hZ hown (zB hw 28 rfl) 4 1 rfl rfl (g := (mkF m 148 #[oa nu, oi 3, oi 15, oi 13, ou] [(.ref nu)])) rfl rfl (hb hby d6_148)
  obtain ⟨Tnu31_14, Hnu31_14, stnu31_14⟩ := zI Hnu31_13 hx hZ hown (zB hw 44 rfl) 4 3 rfl rfl (g := (mkF m 152 #[oa nu, oi 3, oi 15, oi 13, ou] [(.ref nu), (.ref xt)])) rfl rfl (hb hby d6_152)
  obtain ⟨Tnu31_15, Hnu31_15, stnu31_15⟩ := zAs Hnu31_14 hx hZ 5 rfl h4 (g := (mkF m 156 #[oa nu, oi 3, oi 15, oi 13, ou] [(.int 3), (.int nn), (.ref xt)])) rfl rfl (hb hby d6_156)
  change zR _ _ _ _ _ _ _ _ _ _ _ _ _ _ [(u, oc1 (.ref xb) (.ref xl) (.ref xp) (.int kk) (.ref nu) (.int cc)), (xb, zA .double (zK fb)), (xl, zA .int (zE fl)), (xp, zA .int (zE fa)), (nu, oc2 (.int 4) (.ref xt) (.ref xs) (.int nn) .null (.int 0)), (xt, zA .int (zE (zD ft nn (3 : Int32)))), (xs, zA .int [.int s0, .int 0, .int 0, .int s2, .int 0, .int 0, .int 0, .int 0, .int 0, .int s1, .int 0, .int 0, .int 0, .int s3, .int 0, .int 0])] _ _ at Hnu31_15
  obtain ⟨Tnu31_16, Hnu31_16, stnu31_16⟩ := zI Hnu31_15 hx hZ hown (zB hw 30 rfl) 4 2 rfl rfl (g := (mkF m 158 #[oa nu, oi 3, oi 15, oi 13, ou] [(.ref nu)])) rfl rfl (hb hby d6_158)
  obtain ⟨Tnu31_17, Hnu31_17, stnu31_17⟩ := zI Hnu31_16 hx hZ hown (zB hw 44 rfl) 4 3 rfl rfl (g := (mkF m 163 #[oa nu, oi 3, oi 15, oi 13, ou] [(.ref nu), (.int 13), (.ref xs)])) rfl rfl (hb hby d6_163)
  obtain ⟨v167, hv167⟩ : ∃ z : Int32, (nn + (1 : Int32)) = z := ⟨_, rfl⟩
  obtain ⟨Tnu31_18, Hnu31_18, stnu31_18⟩ := zBZ Hnu31_17 hx hZ 6 13 rfl (by decide) (Nat.le_of_ble_eq_true rfl) (g := (mkF m 168 #[oa nu, oi 3, oi 15, oi 13, ou] [(.int v167), (.int 13), (.ref xs)])) rfl rfl (hb hby d6_168)
  change zR _ _ _ _ _ _ _ _ _ _ _ _ _ _ [(u, oc1 (.ref xb) (.ref xl) (.ref xp) (.int kk) (.ref nu) (.int cc)), (xb, zA .double (zK fb)), (xl, zA .int (zE fl)), (xp, zA .int (zE fa)), (nu, oc2 (.int 4) (.ref xt) (.ref xs) (.int nn) .null (.int 0)), (xt, zA .int (zE (zD ft nn (3 : Int32)))), (xs, zA .int [.int s0, .int 0, .int 0, .int s2, .int 0, .int 0, .int 0, .int 0, .int 0, .int s1, .int 0, .int 0, .int 0, .int v167, .int 0, .int 0])] _ _ at Hnu31_18
  obtain ⟨Tnu31_19, Hnu31_19, stnu31_19⟩ := zI Hnu31_18 hx hZ hown (zB hw 44 rfl) 4 3 rfl rfl (g := (mkF m 171 #[oa nu, oi 3, oi 15, oi 13, ou] [(.ref nu), (.ref nu)])) rfl rfl (hb hby d6_171)
  obtain ⟨v176, hv176⟩ : ∃ z : Int32, (nn + (1 : Int32)) = z := ⟨_, rfl⟩
  obtain ⟨Tnu31_20, Hnu31_20, stnu31_20⟩ := zAl Hnu31_19 hx hZ hown (zB hw 44 rfl) 4 3 rfl rfl (Or.inl (zB hw 45 rfl)) (zB hw 20 rfl) (ty := .int) (by decide) rfl rfl (g := (mkF m 177 #[oa nu, oi 3, oi 15, oi 13, ou] [(.int v176), (.ref nu), (.int nn)])) rfl rfl (hb hby d6_177)
  change zR _ _ _ _ _ _ _ _ _ _ _ _ _ _ [(u, oc1 (.ref xb) (.ref xl) (.ref xp) (.int kk) (.ref nu) (.int cc)), (xb, zA .double (zK fb)), (xl, zA .int (zE fl)), (xp, zA .int (zE fa)), (nu, oc2 (.int 4) (.ref xt) (.ref xs) (.int v176) .null (.int 0)), (xt, zA .int (zE (zD ft nn (3 : Int32)))), (xs, zA .int [.int s0, .int 0, .int 0, .int s2, .int 0, .int 0, .int 0, .int 0, .int 0, .int s1, .int 0, .int 0, .int 0, .int v167, .int 0, .int 0])] _ _ at Hnu31_20
  have hb16 : if_icmp.holds .ne nn (8 : Int32) = true := by rw [zAQ]; exact decide_eq_true (fun z => by rw [z] at hn8; exact absurd hn8 (by decide))
  have hb100 : ifCond.holds .eq s3 = true := by rw [zBY]; exact decide_eq_true hs
  have hb135 : ifCond.holds .eq s3 = true := hb100
  refine ⟨_, _, _, _, 180, #[oa nu, oi 3, oi 15, oi 13, ou], Hnu31_20, by decide, by decide, Or.inr ⟨.int, (.int nn), [], .ireturn, rfl, ⟨rfl, by rw [← hv167, ← hv176]⟩, d6_180, zAe _, fun target q => ?_⟩⟩
  refine zC H0 hx hZ hown hby hw zP (own_nu30_0 nu) _ ?_
  refine stnu31_1 _ ?_
  refine zC Hnu31_1 hx hZ hown hby hw zP (own_nu30_1 nu) _ ?_
  refine stnu31_2 _ ?_
  refine zC Hnu31_2 hx hZ hown hby hw zP (own_nu30_2 nu nn) _ ?_
  refine stnu31_3 _ ?_
  refine zAK Hnu31_3 hx hZ 5 rfl (z := (8 : Int32)) rfl (g := (mkF m 15 #[oa nu, oi 3, ou, ou, ou] [(.ref xt), (.int nn)])) rfl rfl (hb hby d6_15) _ ?_
  refine zC Hnu31_3 hx hZ hown hby hw zP (own_nu30_3 nu nn hb16) _ ?_
  refine stnu31_5 _ ?_
  refine zC Hnu31_5 hx hZ hown hby hw zP (own_nu30_4 nu) _ ?_
  refine stnu31_6 _ ?_
  refine zAK Hnu31_6 hx hZ 6 rfl (z := (16 : Int32)) rfl (g := (mkF m 84 #[oa nu, oi 3, ou, ou, ou] [(.ref xs)])) rfl rfl (hb hby d6_84) _ ?_
  refine zC Hnu31_6 hx hZ hown hby hw zP (own_nu30_5 nu) _ ?_
  refine stnu31_8 _ ?_
  refine zC Hnu31_8 hx hZ hown hby hw zP (own_nu30_6 nu) _ ?_
  refine stnu31_9 _ ?_
  refine zC Hnu31_9 hx hZ hown hby hw zP (own_nu30_7 nu xs) _ ?_
  refine zAF Hnu31_9 hx hZ 6 13 rfl (by decide) rfl (g := (mkF m 99 #[oa nu, oi 3, oi 15, oi 13, ou] [(.int 13), (.ref xs)])) rfl rfl (hb hby d6_99) _ ?_
  refine zC Hnu31_9 hx hZ hown hby hw zP (own_nu31_8 nu s3 hb100) _ ?_
  refine stnu31_11 _ ?_
  refine zC Hnu31_11 hx hZ hown hby hw zP (own_nu30_13 nu xs) _ ?_
  refine zAF Hnu31_11 hx hZ 6 13 rfl (by decide) rfl (g := (mkF m 134 #[oa nu, oi 3, oi 15, oi 13, ou] [(.int 13), (.ref xs)])) rfl rfl (hb hby d6_134) _ ?_
  refine zC Hnu31_11 hx hZ hown hby hw zP (own_nu31_10 nu s3 hb135) _ ?_
  refine stnu31_13 _ ?_
  refine zC Hnu31_13 hx hZ hown hby hw zP (own_nu31_11 nu xt) _ ?_
  refine stnu31_14 _ ?_
  refine zC Hnu31_14 hx hZ hown hby hw zP (own_nu31_12 nu nn xt) _ ?_
  refine stnu31_15 _ ?_
  refine zC Hnu31_15 hx hZ hown hby hw zP (own_nu31_13 nu) _ ?_
  refine stnu31_16 _ ?_
  refine zC Hnu31_16 hx hZ hown hby hw zP (own_nu31_14 nu xs) _ ?_
  refine stnu31_17 _ ?_
  refine zC Hnu31_17 hx hZ hown hby hw zP (own_nu31_15 nu nn xs v167 hv167) _ ?_
  refine stnu31_18 _ ?_
  refine zC Hnu31_18 hx hZ hown hby hw zP (own_nu31_16 nu) _ ?_
  refine stnu31_19 _ ?_
  refine zC Hnu31_19 hx hZ hown hby hw zP (own_nu31_17 nu nn v176 hv176) _ ?_
  refine stnu31_20 _ ?_
  exact q
theorem zDJ (l : Launch) (Z : State) (a0 : Array Value) (hb0 : zU) (hw : ∀ d ∈ tables_1, d.before a0 Z = true) (nu : Addr) (pp : Int32) (u xb xl xp xt xs : Addr) (fb : Int32 → UInt64) (fl fa ft : Int32 → Int32) (kk cc nn : Int32) (fs : Int32 → Int32) (hp4 : zG 4 pp) (hn8 : nn.toInt ≤ 4) (hs : ¬ fs pp = 0) (h4 : zG 4 (fs pp - (1 : Int32))) (ht : ft (fs pp - (1 : Int32)) = pp) :
    zX l Z a0 hb0 (⟨"com/example/tidewise/tidewise/search/Numbering", "number", "(I)I"⟩ : MethodName) ok4 5 (some .int) [] ({ frames := 2, cells := 0, slots := 0, locals := 45 } : Room) #[(.ref nu), (.int pp)] [(u, oc1 (.ref xb) (.ref xl) (.ref xp) (.int kk) (.ref nu) (.int cc)), (xb, zA .double (zK fb)), (xl, zA .int (zE fl)), (xp, zA .int (zE fa)), (nu, oc2 (.int 4) (.ref xt) (.ref xs) (.int nn) .null (.int 0)), (xt, zA .int (zE ft)), (xs, zA .int [.int (fs (0 : Int32)), .int 0, .int 0, .int (fs (2 : Int32)), .int 0, .int 0, .int 0, .int 0, .int 0, .int (fs (1 : Int32)), .int 0, .int 0, .int 0, .int (fs (3 : Int32)), .int 0, .int 0])] (fun r cs' => ∃ z, z = fs pp - (1 : Int32) ∧ r = some (.int z) ∧ cs' = [(u, oc1 (.ref xb) (.ref xl) (.ref xp) (.int kk) (.ref nu) (.int cc)), (xb, zA .double (zK fb)), (xl, zA .int (zE fl)), (xp, zA .int (zE fa)), (nu, oc2 (.int 4) (.ref xt) (.ref xs) (.int nn) .null (.int 0)), (xt, zA .int (zE ft)), (xs, zA .int [.int (fs (0 : Int32)), .int 0, .int 0, .int (fs (2 : Int32)), .int 0, .int 0, .int 0, .int 0, .int 0, .int (fs (1 : Int32)), .int 0, .int 0, .int 0, .int (fs (3 : Int32)), .int 0, .int 0])]) := by
  rcases zAn hp4 with rfl | rfl | rfl | rfl
  · exact own_num00 l Z a0 hb0 hw nu u xb xl xp xt xs fb fl fa ft kk cc nn _ _ _ _ hn8 hs h4 ht
  · exact own_num10 l Z a0 hb0 hw nu u xb xl xp xt xs fb fl fa ft kk cc nn _ _ _ _ hn8 hs h4 ht
  · exact own_num20 l Z a0 hb0 hw nu u xb xl xp xt xs fb fl fa ft kk cc nn _ _ _ _ hn8 hs h4 ht
  · exact own_num30 l Z a0 hb0 hw nu u xb xl xp xt xs fb fl fa ft kk cc nn _ _ _ _ hn8 hs h4 ht
theorem zDh (l : Launch) (Z : State) (a0 : Array Value) (hb0 : zU) (hw : ∀ d ∈ tables_1, d.before a0 Z = true) (nu : Addr) (pp : Int32) (u xb xl xp xt xs : Addr) (fb : Int32 → UInt64) (fl fa ft : Int32 → Int32) (kk cc nn : Int32) (fs : Int32 → Int32) (hp4 : zG 4 pp) (hn8 : nn.toInt ≤ 4) (hs : fs pp = 0) (h4 : zG 4 nn) :
    zX l Z a0 hb0 (⟨"com/example/tidewise/tidewise/search/Numbering", "number", "(I)I"⟩ : MethodName) ok4 5 (some .int) [] ({ frames := 2, cells := 0, slots := 0, locals := 45 } : Room) #[(.ref nu), (.int pp)] [(u, oc1 (.ref xb) (.ref xl) (.ref xp) (.int kk) (.ref nu) (.int cc)), (xb, zA .double (zK fb)), (xl, zA .int (zE fl)), (xp, zA .int (zE fa)), (nu, oc2 (.int 4) (.ref xt) (.ref xs) (.int nn) .null (.int 0)), (xt, zA .int (zE ft)), (xs, zA .int [.int (fs (0 : Int32)), .int 0, .int 0, .int (fs (2 : Int32)), .int 0, .int 0, .int 0, .int 0, .int 0, .int (fs (1 : Int32)), .int 0, .int 0, .int 0, .int (fs (3 : Int32)), .int 0, .int 0])] (fun r cs' => r = some (.int nn) ∧ cs' = [(u, oc1 (.ref xb) (.ref xl) (.ref xp) (.int kk) (.ref nu) (.int cc)), (xb, zA .double (zK fb)), (xl, zA .int (zE fl)), (xp, zA .int (zE fa)), (nu, oc2 (.int 4) (.ref xt) (.ref xs) (.int (nn + (1 : Int32))) .null (.int 0)), (xt, zA .int (zE (zD ft nn pp))), (xs, zA .int [.int ((zD fs pp (nn + (1 : Int32))) (0 : Int32)), .int 0, .int 0, .int ((zD fs pp (nn + (1 : Int32))) (2 : Int32)), .int 0, .int 0, .int 0, .int 0, .int 0, .int ((zD fs pp (nn + (1 : Int32))) (1 : Int32)), .int 0, .int 0, .int 0, .int ((zD fs pp (nn + (1 : Int32))) (3 : Int32)), .int 0, .int 0])]) := by
  rcases zAn hp4 with rfl | rfl | rfl | rfl
  · exact own_num01 l Z a0 hb0 hw nu u xb xl xp xt xs fb fl fa ft kk cc nn _ _ _ _ hn8 hs h4
  · exact own_num11 l Z a0 hb0 hw nu u xb xl xp xt xs fb fl fa ft kk cc nn _ _ _ _ hn8 hs h4
  · exact own_num21 l Z a0 hb0 hw nu u xb xl xp xt xs fb fl fa ft kk cc nn _ _ _ _ hn8 hs h4
  · exact own_num31 l Z a0 hb0 hw nu u xb xl xp xt xs fb fl fa ft kk cc nn _ _ _ _ hn8 hs h4
section OwnKth
def zS (X : Int32 → Int) (l : Int32) (v : Int) : Int32 → Int := fun j => if j = l then v else X j
def zAC (g : Int32 → Int) : Int := g 0 + g 1 + g 2 + g 3
def zCT (n j : Int32) (x z : Int) : Decidable (zG n j ∧ x ≤ z) := inferInstanceAs (Decidable ((0 ≤ j ∧ j < n) ∧ x ≤ z))
def zCU (n j v : Int32) : Decidable (zG n j ∧ v ≠ -1) := inferInstanceAs (Decidable ((0 ≤ j ∧ j < n) ∧ v ≠ -1))
theorem zAd {X : Int32 → Int} {l j : Int32} {v : Int} (h : j ≠ l) : zS X l v j = X j := by simp [zS, h]
theorem own_iteA {n n' j : Int32} {x x' z : Int} (h : (zG n j ∧ x ≤ z) ↔ (zG n' j ∧ x' ≤ z)) : @ite Int (zG n j ∧ x ≤ z) (zCT n j x z) 1 0 = @ite Int (zG n' j ∧ x' ≤ z) (zCT n' j x' z) 1 0 := by
  by_cases q : zG n j ∧ x ≤ z
  · rw [if_pos q, if_pos (h.mp q)]
  · rw [if_neg q, if_neg (fun r => q (h.mpr r))]
theorem zAb {g : Int32 → Int} {l : Int32} (h : zG 4 l) (v : Int) : zAC (zS g l v) = zAC g - g l + v := by
  rcases zAn h with rfl | rfl | rfl | rfl <;> simp [zAC, zS] <;> omega
theorem zBy {g g' : Int32 → Int} (h : ∀ j, zG 4 j → g j = g' j) : zAC g = zAC g' := by
  simp only [zAC, h 0 ⟨by decide, by decide⟩, h 1 ⟨by decide, by decide⟩, h 2 ⟨by decide, by decide⟩, h 3 ⟨by decide, by decide⟩]
def zBU (n : Int32) (X : Int32 → Int) (z : Int) : Int := zAC (fun j => @ite Int (zG n j ∧ X j ≤ z) (zCT n j (X j) z) 1 0)
def zAZ (M : Int32 → Int) (z : Int) : Int := zAC (fun p => if M p ≤ z then 1 else 0)
abbrev zAA (fb : Int32 → UInt64) (ft fs : Int32 → Int32) (nn : Int32) (X M : Int32 → Int) : Prop :=
  (0 ≤ nn.toInt ∧ nn.toInt ≤ 4) ∧ (∀ p, zG 4 p → (fs p = 0 ∧ M p = 9223372036854775807) ∨ (fs p ≠ 0 ∧ zG nn (fs p - 1) ∧ ft (fs p - 1) = p ∧ M p = X (fs p - 1))) ∧ (nn.toInt = zAC (fun p => if fs p ≠ 0 then 1 else 0)) ∧ (∀ j, zG nn j → zN (fb j) ((X j : Int) : Rat) ∧ -2147483648 ≤ X j ∧ X j ≤ 2147483647) ∧ (∀ z, z < 9223372036854775807 → zBU nn X z = zAZ M z)
theorem zAA.n4 {fb : Int32 → UInt64} {ft fs : Int32 → Int32} {nn : Int32} {X M : Int32 → Int} (H : zAA fb ft fs nn X M) : 0 ≤ nn.toInt ∧ nn.toInt ≤ 4 := H.1
theorem zAA.num {fb : Int32 → UInt64} {ft fs : Int32 → Int32} {nn : Int32} {X M : Int32 → Int} (H : zAA fb ft fs nn X M) : ∀ p, zG 4 p → (fs p = 0 ∧ M p = 9223372036854775807) ∨ (fs p ≠ 0 ∧ zG nn (fs p - 1) ∧ ft (fs p - 1) = p ∧ M p = X (fs p - 1)) := H.2.1
theorem zAA.cnt {fb : Int32 → UInt64} {ft fs : Int32 → Int32} {nn : Int32} {X M : Int32 → Int} (H : zAA fb ft fs nn X M) : nn.toInt = zAC (fun p => if fs p ≠ 0 then 1 else 0) := H.2.2.1
theorem zAA.bnd {fb : Int32 → UInt64} {ft fs : Int32 → Int32} {nn : Int32} {X M : Int32 → Int} (H : zAA fb ft fs nn X M) : ∀ j, zG nn j → zN (fb j) ((X j : Int) : Rat) ∧ -2147483648 ≤ X j ∧ X j ≤ 2147483647 := H.2.2.2.1
theorem zAA.eqn {fb : Int32 → UInt64} {ft fs : Int32 → Int32} {nn : Int32} {X M : Int32 → Int} (H : zAA fb ft fs nn X M) : ∀ z, z < 9223372036854775807 → zBU nn X z = zAZ M z := H.2.2.2.2
abbrev zw (fl fa : Int32 → Int32) (kk cc nn : Int32) (X : Int32 → Int) : Prop :=
  (1 ≤ kk.toInt ∧ kk.toInt ≤ 4) ∧ (0 ≤ cc.toInt ∧ cc.toInt ≤ kk.toInt) ∧ (zY fa fl nn cc) ∧ (zO fl X cc) ∧ (∀ j, zG nn j → fa j = -1 → cc = kk ∧ X (fl 0) ≤ X j)
theorem zw.k4 {fl fa : Int32 → Int32} {kk cc nn : Int32} {X : Int32 → Int} (H : zw fl fa kk cc nn X) : 1 ≤ kk.toInt ∧ kk.toInt ≤ 4 := H.1
theorem zw.ck {fl fa : Int32 → Int32} {kk cc nn : Int32} {X : Int32 → Int} (H : zw fl fa kk cc nn X) : 0 ≤ cc.toInt ∧ cc.toInt ≤ kk.toInt := H.2.1
theorem zw.h12 {fl fa : Int32 → Int32} {kk cc nn : Int32} {X : Int32 → Int} (H : zw fl fa kk cc nn X) : zY fa fl nn cc := H.2.2.1
theorem zw.h3 {fl fa : Int32 → Int32} {kk cc nn : Int32} {X : Int32 → Int} (H : zw fl fa kk cc nn X) : zO fl X cc := H.2.2.2.1
theorem zw.h4 {fl fa : Int32 → Int32} {kk cc nn : Int32} {X : Int32 → Int} (H : zw fl fa kk cc nn X) : ∀ j, zG nn j → fa j = -1 → cc = kk ∧ X (fl 0) ≤ X j := H.2.2.2.2
theorem zAM {n j : Int32} : zG n j ↔ 0 ≤ j.toInt ∧ j.toInt < n.toInt := by
  unfold zG
  rw [Int32.le_iff_toInt_le, Int32.lt_iff_toInt_lt]
  rfl
theorem zAT {nn j : Int32} (h : 0 ≤ nn.toInt ∧ nn.toInt ≤ 4) (hj : zG nn j) : zG 4 j := by
  rw [zAM] at *
  have : (4 : Int32).toInt = 4 := rfl
  omega
theorem zDi {n : Int32} (h : 0 ≤ n.toInt ∧ n.toInt ≤ 4) : (n + 1).toInt = n.toInt + 1 := by
  have q := c_iadd n 1
  have := rng32 (n + 1)
  rw [show (1 : Int32).toInt = 1 from rfl] at q
  omega
theorem zAa {n : Int32} (h : 0 ≤ n.toInt ∧ n.toInt ≤ 4) (i : Int32) : zG (n + 1) i ↔ zG n i ∨ i = n := by
  rw [zAM, zAM, zDi h]
  constructor
  · intro q
    rcases Int.lt_or_le i.toInt n.toInt with z | z
    · exact Or.inl (by omega)
    · exact Or.inr (Int32.toInt_inj.mp (by omega))
  · rintro (q | rfl)
    · omega
    · omega
theorem zAp (n : Int32) : ¬ zG n n := by rw [zAM]; omega
theorem zDj {fb : Int32 → UInt64} {ft fs : Int32 → Int32} {nn pp nm : Int32} {X M : Int32 → Int} {sd : UInt64} {sv : Int} (H : zAA fb ft fs nn X M) (hp : zG 4 pp) (hs : fs pp ≠ 0) (hm : nm = fs pp - 1) (hsd : zN sd ((sv : Int) : Rat)) (b : -2147483648 ≤ sv ∧ sv ≤ 2147483647) : zAA (ze fb nm sd) ft fs nn (zS X nm sv) (zS M pp sv) := by
  obtain ⟨n4, num, cnt, bnd, eqn⟩ := H
  have q := (num pp hp).resolve_left (fun z => hs z.1)
  rw [← hm] at q
  have m4 := zAT n4 q.2.1
  refine ⟨n4, ?_, cnt, ?_, ?_⟩
  · intro p hp'
    by_cases e : p = pp
    · subst e
      exact Or.inr ⟨hs, by rw [← hm]; exact q.2.1, by rw [← hm]; exact q.2.2.1, by rw [← hm]; simp [zS]⟩
    · rcases num p hp' with r | r
      · exact Or.inl ⟨r.1, by simp [zS, e, r.2]⟩
      · refine Or.inr ⟨r.1, r.2.1, r.2.2.1, ?_⟩
        have ne : fs p - 1 ≠ nm := by intro z; rw [z, q.2.2.1] at r; exact e r.2.2.1.symm
        simp [zS, e, ne, r.2.2.2]
  · intro j hj
    by_cases e : j = nm
    · subst e; simpa [ze, zS] using ⟨hsd, b⟩
    · simpa [ze, zS, e] using bnd j hj
  · intro z hz
    have e1 : zBU nn (zS X nm sv) z = zAC (zS (fun j => @ite Int (zG nn j ∧ X j ≤ z) (zCT nn j (X j) z) 1 0) nm (if sv ≤ z then 1 else 0)) := by
      refine zBy (fun j _ => ?_)
      by_cases e : j = nm
      · subst e; simp [zS, q.2.1]
      · refine Eq.trans (own_iteA (n' := nn) (x' := X j) ?_) ?_
        · rw [zAd e]
        · rw [zAd e]
    have e2 : zAZ (zS M pp sv) z = zAC (zS (fun p => if M p ≤ z then 1 else 0) pp (if sv ≤ z then 1 else 0)) := by
      refine zBy (fun j _ => ?_)
      by_cases e : j = pp
      · subst e; simp [zS]
      · simp [zS, e]
    rw [e1, e2, zAb m4, zAb hp]
    have e3 := eqn z hz
    unfold zBU zAZ at e3
    rw [e3, q.2.2.2]
    simp [q.2.1]
theorem zDK {fb : Int32 → UInt64} {ft fs : Int32 → Int32} {nn pp : Int32} {X M : Int32 → Int} (H : zAA fb ft fs nn X M) (hp : zG 4 pp) (hs : fs pp = 0) : zG 4 nn := by
  have h := H.cnt
  have n4 := H.n4
  rw [zAM]
  have z4 : (4 : Int32).toInt = 4 := rfl
  have g : ∀ p, (if fs p ≠ 0 then (1 : Int) else 0) ≤ 1 := by intro p; split <;> omega
  have g0 := g 0
  have g1 := g 1
  have g2 := g 2
  have g3 := g 3
  unfold zAC at h
  rcases zAn hp with rfl | rfl | rfl | rfl <;> simp only [hs, ne_eq, not_true_eq_false, if_false] at h <;> omega
theorem zDk {fb : Int32 → UInt64} {ft fs : Int32 → Int32} {nn pp : Int32} {X M : Int32 → Int} {sd : UInt64} {sv : Int} (H : zAA fb ft fs nn X M) (hp : zG 4 pp) (hs : fs pp = 0) (hsd : zN sd ((sv : Int) : Rat)) (b : -2147483648 ≤ sv ∧ sv ≤ 2147483647) (v : UInt64) : zAA (ze (ze fb nn v) nn sd) (zD ft nn pp) (zD fs pp (nn + 1)) (nn + 1) (zS X nn sv) (zS M pp sv) := by
  have h4 := zDK H hp hs
  obtain ⟨n4, num, cnt, bnd, eqn⟩ := H
  have su := zDi n4
  have hx := zAM.mp h4
  have z4 : (4 : Int32).toInt = 4 := rfl
  have z0 : (0 : Int32).toInt = 0 := rfl
  have ne0 : nn + 1 ≠ 0 := by intro z; have := congrArg Int32.toInt z; rw [su, z0] at this; omega
  have sub : nn + 1 - 1 = nn := by
    apply Int32.toInt_inj.mp
    have q := c_isub (nn + 1) 1
    have := rng32 (nn + 1 - 1)
    rw [su, show (1 : Int32).toInt = 1 from rfl] at q
    omega
  have hM : M pp = 9223372036854775807 := by
    rcases num pp hp with r | r
    · exact r.2
    · exact absurd hs r.1
  refine ⟨by rw [su]; omega, ?_, ?_, ?_, ?_⟩
  · intro p hp'
    by_cases e : p = pp
    · subst e
      refine Or.inr ⟨by simp [zD, ne0], ?_, ?_, ?_⟩
      · simp only [zD, if_true, sub]; exact (zAa n4 nn).mpr (Or.inr rfl)
      · simp [zD, sub]
      · simp [zD, zS, sub]
    · rcases num p hp' with r | r
      · exact Or.inl ⟨by simp [zD, e, r.1], by simp [zS, e, r.2]⟩
      · have ne : fs p - 1 ≠ nn := by intro z; rw [z] at r; exact zAp nn r.2.1
        refine Or.inr ⟨by simp [zD, e, r.1], ?_, ?_, ?_⟩
        · simp only [zD, e, if_false]; exact (zAa n4 _).mpr (Or.inl r.2.1)
        · simp [zD, e, ne, r.2.2.1]
        · simp [zD, zS, e, ne, r.2.2.2]
  · have e1 : zAC (fun p => if zD fs pp (nn + 1) p ≠ 0 then 1 else 0) = zAC (zS (fun p => if fs p ≠ 0 then 1 else 0) pp 1) := by
      refine zBy (fun j _ => ?_)
      by_cases e : j = pp
      · subst e; simp [zD, zS, ne0]
      · simp [zD, zS, e]
    rw [e1, zAb hp, su, cnt]
    simp [hs]
  · intro j hj
    by_cases e : j = nn
    · subst e; simpa [ze, zS] using ⟨hsd, b⟩
    · have hj' := ((zAa n4 j).mp hj).resolve_right e
      simpa [ze, zS, e] using bnd j hj'
  · intro z hz
    have e1 : zBU (nn + 1) (zS X nn sv) z = zAC (zS (fun j => @ite Int (zG nn j ∧ X j ≤ z) (zCT nn j (X j) z) 1 0) nn (if sv ≤ z then 1 else 0)) := by
      refine zBy (fun j _ => ?_)
      by_cases e : j = nn
      · subst e; simp [zS, zAa n4]
      · refine Eq.trans (own_iteA (n' := nn) (x' := X j) ?_) ?_
        · rw [zAd e, zAa n4]; simp [e]
        · rw [zAd e]
    have e2 : zAZ (zS M pp sv) z = zAC (zS (fun p => if M p ≤ z then 1 else 0) pp (if sv ≤ z then 1 else 0)) := by
      refine zBy (fun j _ => ?_)
      by_cases e : j = pp
      · subst e; simp [zS]
      · simp [zS, e]
    rw [e1, e2, zAb h4, zAb hp]
    have e3 := eqn z hz
    unfold zBU zAZ at e3
    rw [e3, hM]
    have i1 : ¬ zG nn nn := zAp nn
    have i2 : ¬ (9223372036854775807 : Int) ≤ z := by omega
    simp [i1, i2]
end OwnKth
section OwnKth2
theorem zBV {X : Int32 → Int} {l : Int32} {v : Int} : zS X l v l = v := by simp [zS]
theorem zBz {fl fa : Int32 → Int32} {nn cc nm i : Int32} (H : zY fa fl nn cc) (hi : zG cc i) (hm : fa nm = -1) : fl i ≠ nm := by
  intro z
  have r := (H.p1 i hi).2
  rw [z, hm] at r
  rw [← r] at hi
  exact absurd hi.1 (by decide)
theorem own_H3_congr {fl : Int32 → Int32} {X X' : Int32 → Int} {cc : Int32} (H : zO fl X cc) (h : ∀ i, zG cc i → X' (fl i) = X (fl i)) : zO fl X' cc := by
  obtain ⟨o1, o2, o3⟩ := H
  have lt : ∀ {a b : Int32}, 0 ≤ a → a < b → b < cc → zG cc a := fun h0 h1 h2 => ⟨h0, by rw [Int32.lt_iff_toInt_lt] at *; omega⟩
  refine ⟨fun q => ?_, fun q => ?_, fun q => ?_⟩
  · rw [h 1 ⟨by decide, q⟩, h 0 (lt (by decide) (by decide) q)]; exact o1 q
  · rw [h 2 ⟨by decide, q⟩, h 0 (lt (by decide) (by decide) q)]; exact o2 q
  · rw [h 3 ⟨by decide, q⟩, h 1 (lt (by decide) (by decide) q)]; exact o3 q
theorem own_He_a {fl fa : Int32 → Int32} {kk cc nn nm : Int32} {X : Int32 → Int} {sv : Int} (H : zw fl fa kk cc nn X) (hn : zG nn nm) (hm : fa nm ≠ -1) (hsv : sv ≤ X nm) :
    zG cc (fa nm) ∧ zZ fa fl nn cc (fa nm) nm ∧ zO (zD fl (fa nm) nm) X cc ∧ (∀ j, j ≠ nm → X j = zS X nm sv j) ∧ zS X nm sv nm ≤ X nm ∧
    ∀ fl' fa', zY fa' fl' nn cc → zO fl' (zS X nm sv) cc → zS X nm sv (fl' 0) ≤ X (zD fl (fa nm) nm 0) → (∀ j, fa' j = -1 → j ≠ nm ∧ fa j = -1) → zw fl' fa' kk cc nn (zS X nm sv) := by
  have q := (H.h12.p3 nm hn).resolve_left hm
  have e : zD fl (fa nm) nm = fl := by
    funext j
    by_cases z : j = fa nm
    · rw [z]; simp [zD, q.2]
    · simp [zD, z]
  refine ⟨q.1, own_hole_a H.h12 hn hm, by rw [e]; exact H.h3, fun j hj => (zAd hj).symm, by rw [zBV]; exact hsv, ?_⟩
  intro fl' fa' g1 g2 g3 g4
  rw [e] at g3
  refine ⟨H.k4, H.ck, g1, g2, fun j hj hf => ?_⟩
  obtain ⟨z1, z2⟩ := g4 j hf
  have r := H.h4 j hj z2
  exact ⟨r.1, by rw [zAd z1]; exact Int.le_trans g3 r.2⟩
theorem own_He_c {fl fa : Int32 → Int32} {kk cc nn nm : Int32} {X : Int32 → Int} {sv : Int} (H12 : zY fa fl nn cc) (H3 : zO fl X cc) (hk : 1 ≤ kk.toInt ∧ kk.toInt ≤ 4) (hck : cc = kk) (h4 : ∀ j, zG nn j → j ≠ nm → fa j = -1 → X (fl 0) ≤ X j) (hn : zG nn nm) (hm : fa nm = -1) (hsv : sv ≤ X (fl 0)) :
    zG cc 0 ∧ zZ (zD fa (fl 0) (-1)) fl nn cc 0 nm ∧ zO (zD fl 0 nm) (zS X nm (X (fl 0))) cc ∧ (∀ j, j ≠ nm → zS X nm (X (fl 0)) j = zS X nm sv j) ∧ zS X nm sv nm ≤ zS X nm (X (fl 0)) nm ∧
    ∀ fl' fa', zY fa' fl' nn cc → zO fl' (zS X nm sv) cc → zS X nm sv (fl' 0) ≤ zS X nm (X (fl 0)) (zD fl 0 nm 0) → (∀ j, fa' j = -1 → j ≠ nm ∧ zD fa (fl 0) (-1) j = -1) → zw fl' fa' kk cc nn (zS X nm sv) := by
  have c0 : zG cc 0 := by rw [zAM, hck]; exact ⟨by decide, by have : (0 : Int32).toInt = 0 := rfl; omega⟩
  have lt : ∀ {a b : Int32}, 0 ≤ a → a < b → b < cc → zG cc a := fun h0 h1 h2 => ⟨h0, by rw [Int32.lt_iff_toInt_lt] at *; omega⟩
  have ne : ∀ i, zG cc i → zS X nm (X (fl 0)) (fl i) = X (fl i) := fun i hi => zAd (zBz H12 hi hm)
  refine ⟨c0, own_hole_c H12 c0 hn hm, ⟨fun q => ?_, fun q => ?_, fun q => ?_⟩, fun j hj => by rw [zAd hj, zAd hj], by rw [zBV, zBV]; exact hsv, ?_⟩
  · have z := ne 1 ⟨by decide, q⟩
    simp only [zD]
    simp only [show ¬ (1 : Int32) = 0 by decide, if_false, if_true]
    rw [z, zBV]; exact H3.o1 q
  · have z := ne 2 ⟨by decide, q⟩
    simp only [zD]
    simp only [show ¬ (2 : Int32) = 0 by decide, if_false, if_true]
    rw [z, zBV]; exact H3.o2 q
  · have z := ne 3 ⟨by decide, q⟩
    have z1 := ne 1 (lt (by decide) (by decide) q)
    simp only [zD]
    simp only [show ¬ (3 : Int32) = 0 by decide, show ¬ (1 : Int32) = 0 by decide, if_false]
    rw [z, z1]; exact H3.o3 q
  · intro fl' fa' g1 g2 g3 g4
    have e : zD fl 0 nm 0 = nm := by simp [zD]
    rw [e, zBV] at g3
    refine ⟨hk, by rw [hck]; omega, g1, g2, fun j hj hf => ?_⟩
    obtain ⟨z1, z2⟩ := g4 j hf
    refine ⟨hck, ?_⟩
    rw [zAd z1]
    by_cases e : j = fl 0
    · rw [e]; exact g3
    · simp [zD, e] at z2
      exact Int.le_trans g3 (h4 j hj z1 z2)
theorem own_He_o {fl fa : Int32 → Int32} {kk cc nn nm : Int32} {X : Int32 → Int} {sv : Int} (H12 : zY fa fl nn cc) (H3 : zO fl X cc) (hk : 1 ≤ kk.toInt ∧ kk.toInt ≤ 4) (hck : cc = kk) (h4 : ∀ j, zG nn j → j ≠ nm → fa j = -1 → X (fl 0) ≤ X j) (hm : fa nm = -1) (hsv : X (fl 0) ≤ sv) : zw fl fa kk cc nn (zS X nm sv) := by
  have c0 : zG cc 0 := by rw [zAM, hck]; exact ⟨by decide, by have : (0 : Int32).toInt = 0 := rfl; omega⟩
  have ne : ∀ i, zG cc i → zS X nm sv (fl i) = X (fl i) := fun i hi => zAd (zBz H12 hi hm)
  refine ⟨hk, by rw [hck]; omega, H12, own_H3_congr H3 ne, fun j hj hf => ⟨hck, ?_⟩⟩
  rw [ne 0 c0]
  by_cases e : j = nm
  · rw [e, zBV]; exact hsv
  · rw [zAd e]; exact h4 j hj e hf
theorem own_He_u {fl fa : Int32 → Int32} {kk cc nn : Int32} {X : Int32 → Int} {sv : Int} (H : zw fl fa kk cc nn X) (n4 : 0 ≤ nn.toInt ∧ nn.toInt ≤ 4) (hlt : cc.toInt < kk.toInt) :
    zZ (zD fa nn (-1)) fl (nn + 1) (cc + 1) cc nn ∧ zO fl (zS X nn sv) cc ∧
    ∀ fl' fa', zY fa' fl' (nn + 1) (cc + 1) → zO fl' (zS X nn sv) (cc + 1) → (∀ j, fa' j = -1 → j ≠ nn ∧ zD fa nn (-1) j = -1) → zw fl' fa' kk (cc + 1) (nn + 1) (zS X nn sv) := by
  have k4 := H.k4
  have ck := H.ck
  have su := zDi (n := cc) (by omega)
  have a := zCn H.h12 (zAa n4) (zAp nn)
  refine ⟨own_hole_u a (zAa (by omega)) ((zAa n4 nn).mpr (Or.inr rfl)) (by simp [zD]) (zAp cc), own_H3_congr H.h3 (fun i hi => zAd ?_), ?_⟩
  · intro z
    have r := (H.h12.p1 i hi).1
    rw [z] at r
    exact zAp nn r
  · intro fl' fa' g1 g2 g3
    refine ⟨k4, by rw [su]; omega, g1, g2, fun j hj hf => ?_⟩
    obtain ⟨z1, z2⟩ := g3 j hf
    simp [zD, z1] at z2
    have hj' := ((zAa n4 j).mp hj).resolve_right z1
    have r := (H.h4 j hj' z2).1
    rw [r] at hlt
    omega
end OwnKth2
section OwnKth3
theorem zDl {g g' : Int32 → Int} (h : ∀ j, zG 4 j → g j ≤ g' j) : zAC g ≤ zAC g' := by
  have h0 := h 0 ⟨by decide, by decide⟩
  have h1 := h 1 ⟨by decide, by decide⟩
  have h2 := h 2 ⟨by decide, by decide⟩
  have h3 := h 3 ⟨by decide, by decide⟩
  unfold zAC
  omega
theorem zBW {c i : Int32} (hc : c.toInt ≤ 4) (hi : zG c i) : i = 0 ∨ i = 1 ∨ i = 2 ∨ i = 3 := by
  rw [zAM] at hi
  exact zAn (by rw [zAM]; have : (4 : Int32).toInt = 4 := rfl; omega)
theorem own_c5 {c : Int32} (h0 : 0 ≤ c.toInt) (h4 : c.toInt ≤ 4) : c = 0 ∨ c = 1 ∨ c = 2 ∨ c = 3 ∨ c = 4 := by
  have q : c.toInt = 0 ∨ c.toInt = 1 ∨ c.toInt = 2 ∨ c.toInt = 3 ∨ c.toInt = 4 := by omega
  rcases q with q | q | q | q | q
  · exact Or.inl (Int32.toInt_inj.mp q)
  · exact Or.inr (Or.inl (Int32.toInt_inj.mp q))
  · exact Or.inr (Or.inr (Or.inl (Int32.toInt_inj.mp q)))
  · exact Or.inr (Or.inr (Or.inr (Or.inl (Int32.toInt_inj.mp q))))
  · exact Or.inr (Or.inr (Or.inr (Or.inr (Int32.toInt_inj.mp q))))
theorem own_hs {fl fa : Int32 → Int32} {nn cc : Int32} (H : zY fa fl nn cc) (n4 : 0 ≤ nn.toInt ∧ nn.toInt ≤ 4) (h0 : 0 ≤ cc.toInt) (hc : cc.toInt ≤ 4) : zAC (fun j => @ite Int (zG nn j ∧ fa j ≠ -1) (zCU nn j (fa j)) 1 0) = cc.toInt := by
  have key : ∀ g : Int32 → Int, (∀ j, zG 4 j → (g j = 1 ∧ ∃ i, zG cc i ∧ fl i = j) ∨ (g j = 0 ∧ ∀ i, zG cc i → fl i ≠ j)) → zAC (fun j => @ite Int (zG nn j ∧ fa j ≠ -1) (zCU nn j (fa j)) 1 0) = zAC g := by
    intro g hg
    refine zBy (fun j hj => ?_)
    rcases hg j hj with ⟨g1, i, hi, e⟩ | ⟨g1, g2⟩
    · have r := H.p1 i hi
      rw [e] at r
      have ne : fa j ≠ -1 := by
        rw [r.2]; intro z; rw [z] at hi; exact absurd hi.1 (by decide)
      rw [if_pos ⟨r.1, ne⟩, g1]
    · rw [if_neg, g1]
      rintro ⟨z1, z2⟩
      have r := (H.p3 j z1).resolve_left z2
      exact g2 _ r.1 r.2
  have d : ∀ i j, zG cc i → zG cc j → i ≠ j → fl i ≠ fl j := by
    intro i j hi hj hne z
    have r1 := (H.p1 i hi).2
    have r2 := (H.p1 j hj).2
    rw [z] at r1
    exact hne (r1.symm.trans r2)
  have i4 : ∀ i, zG cc i → zG 4 (fl i) := fun i hi => zAT n4 (H.p1 i hi).1
  have z0 : zAC (fun _ => 0) = 0 := by simp [zAC]
  rcases own_c5 h0 hc with rfl | rfl | rfl | rfl | rfl
  · rw [key (fun _ => 0) (fun j _ => Or.inr ⟨rfl, fun i hi => by rw [zAM] at hi; have : (0 : Int32).toInt = 0 := rfl; omega⟩)]
    exact z0
  · have a0 : zG 1 0 := ⟨by decide, by decide⟩
    rw [key (zS (fun _ => 0) (fl 0) 1), zAb (i4 0 a0), z0]
    · rfl
    · intro j hj
      by_cases e : j = fl 0
      · exact Or.inl ⟨by simp [zS, e], 0, a0, e.symm⟩
      · refine Or.inr ⟨by simp [zS, e], fun i hi z => ?_⟩
        rcases zBW hc hi with rfl | rfl | rfl | rfl
        · exact e z.symm
        all_goals exact absurd hi.2 (by decide)
  · have a0 : zG 2 0 := ⟨by decide, by decide⟩
    have a1 : zG 2 1 := ⟨by decide, by decide⟩
    have d10 := d 1 0 a1 a0 (by decide)
    rw [key (zS (zS (fun _ => 0) (fl 0) 1) (fl 1) 1), zAb (i4 1 a1), zAb (i4 0 a0), z0]
    · simp [zS, d10]
    · intro j hj
      by_cases e : j = fl 0
      · exact Or.inl ⟨by simp [zS, e], 0, a0, e.symm⟩
      · by_cases e1 : j = fl 1
        · exact Or.inl ⟨by simp [zS, e1], 1, a1, e1.symm⟩
        · refine Or.inr ⟨by simp [zS, e, e1], fun i hi z => ?_⟩
          rcases zBW hc hi with rfl | rfl | rfl | rfl
          · exact e z.symm
          · exact e1 z.symm
          all_goals exact absurd hi.2 (by decide)
  · have a0 : zG 3 0 := ⟨by decide, by decide⟩
    have a1 : zG 3 1 := ⟨by decide, by decide⟩
    have a2 : zG 3 2 := ⟨by decide, by decide⟩
    have d10 := d 1 0 a1 a0 (by decide)
    have d20 := d 2 0 a2 a0 (by decide)
    have d21 := d 2 1 a2 a1 (by decide)
    rw [key (zS (zS (zS (fun _ => 0) (fl 0) 1) (fl 1) 1) (fl 2) 1), zAb (i4 2 a2), zAb (i4 1 a1), zAb (i4 0 a0), z0]
    · simp [zS, d10, d20, d21]
    · intro j hj
      by_cases e : j = fl 0
      · exact Or.inl ⟨by simp [zS, e], 0, a0, e.symm⟩
      · by_cases e1 : j = fl 1
        · exact Or.inl ⟨by simp [zS, e1], 1, a1, e1.symm⟩
        · by_cases e2 : j = fl 2
          · exact Or.inl ⟨by simp [zS, e2], 2, a2, e2.symm⟩
          · refine Or.inr ⟨by simp [zS, e, e1, e2], fun i hi z => ?_⟩
            rcases zBW hc hi with rfl | rfl | rfl | rfl
            · exact e z.symm
            · exact e1 z.symm
            · exact e2 z.symm
            · exact absurd hi.2 (by decide)
  · have a0 : zG 4 0 := ⟨by decide, by decide⟩
    have a1 : zG 4 1 := ⟨by decide, by decide⟩
    have a2 : zG 4 2 := ⟨by decide, by decide⟩
    have a3 : zG 4 3 := ⟨by decide, by decide⟩
    have d10 := d 1 0 a1 a0 (by decide)
    have d20 := d 2 0 a2 a0 (by decide)
    have d21 := d 2 1 a2 a1 (by decide)
    have d30 := d 3 0 a3 a0 (by decide)
    have d31 := d 3 1 a3 a1 (by decide)
    have d32 := d 3 2 a3 a2 (by decide)
    rw [key (zS (zS (zS (zS (fun _ => 0) (fl 0) 1) (fl 1) 1) (fl 2) 1) (fl 3) 1), zAb (i4 3 a3), zAb (i4 2 a2), zAb (i4 1 a1), zAb (i4 0 a0), z0]
    · simp [zS, d10, d20, d21, d30, d31, d32]
    · intro j hj
      by_cases e : j = fl 0
      · exact Or.inl ⟨by simp [zS, e], 0, a0, e.symm⟩
      · by_cases e1 : j = fl 1
        · exact Or.inl ⟨by simp [zS, e1], 1, a1, e1.symm⟩
        · by_cases e2 : j = fl 2
          · exact Or.inl ⟨by simp [zS, e2], 2, a2, e2.symm⟩
          · by_cases e3 : j = fl 3
            · exact Or.inl ⟨by simp [zS, e3], 3, a3, e3.symm⟩
            · refine Or.inr ⟨by simp [zS, e, e1, e2, e3], fun i hi z => ?_⟩
              rcases zBW hc hi with rfl | rfl | rfl | rfl
              · exact e z.symm
              · exact e1 z.symm
              · exact e2 z.symm
              · exact e3 z.symm
theorem own_root {fl fa : Int32 → Int32} {kk cc nn : Int32} {X : Int32 → Int} (H : zw fl fa kk cc nn X) {j : Int32} (hj : zG nn j) (hf : fa j ≠ -1) : X j ≤ X (fl 0) := by
  have q := (H.h12.p3 j hj).resolve_left hf
  have k4 := H.k4
  have ck := H.ck
  obtain ⟨o1, o2, o3⟩ := H.h3
  have e := q.2
  rcases zBW (by omega) q.1 with z | z | z | z
  · rw [z] at e; rw [← e]; omega
  · rw [z] at e; have := o1 (by have := q.1.2; rw [z] at this; exact this); rw [← e]; exact this
  · rw [z] at e; have := o2 (by have := q.1.2; rw [z] at this; exact this); rw [← e]; exact this
  · rw [z] at e
    have l3 : (3 : Int32) < cc := by have := q.1.2; rw [z] at this; exact this
    have l1 : (1 : Int32) < cc := by rw [Int32.lt_iff_toInt_lt] at *; have : (3 : Int32).toInt = 3 := rfl; have : (1 : Int32).toInt = 1 := rfl; omega
    have a := o3 l3
    have b := o1 l1
    rw [← e]; omega
theorem own_kth_eq {fb : Int32 → UInt64} {fl fa ft fs : Int32 → Int32} {kk cc nn : Int32} {X M : Int32 → Int} (N : zAA fb ft fs nn X M) (H : zw fl fa kk cc nn X) (hc : cc = kk) : kk.toInt ≤ zAZ M (X (fl 0)) ∧ zAZ M (X (fl 0) - 1) ≤ kk.toInt - 1 ∧ zG nn (fl 0) := by
  have k4 := H.k4
  have ck := H.ck
  have n4 := N.n4
  have c0 : zG cc 0 := by rw [zAM, hc]; exact ⟨by decide, by have : (0 : Int32).toInt = 0 := rfl; omega⟩
  have r0 := (H.h12.p1 0 c0)
  have b0 := (N.bnd _ r0.1).2
  have s := own_hs H.h12 n4 (by omega) (by omega)
  refine ⟨?_, ?_, r0.1⟩
  · rw [← N.eqn _ (by omega), ← hc, ← s]
    refine zDl (fun j _ => ?_)
    by_cases e : zG nn j ∧ fa j ≠ -1
    · rw [if_pos e, if_pos ⟨e.1, own_root H e.1 e.2⟩]; omega
    · rw [if_neg e]; split <;> omega
  · rw [← N.eqn _ (by omega), ← hc, ← s]
    have e1 := zAb (g := fun j => @ite Int (zG nn j ∧ fa j ≠ -1) (zCU nn j (fa j)) 1 0) (zAT n4 r0.1) 0
    have f0 : fa (fl 0) ≠ -1 := by rw [r0.2]; decide
    simp only [if_pos (And.intro r0.1 f0)] at e1
    have e2 : zBU nn X (X (fl 0) - 1) ≤ zAC (zS (fun j => @ite Int (zG nn j ∧ fa j ≠ -1) (zCU nn j (fa j)) 1 0) (fl 0) 0) := by
      refine zDl (fun j _ => ?_)
      by_cases e : zG nn j ∧ X j ≤ X (fl 0) - 1
      · have ne : j ≠ fl 0 := by intro z; rw [z] at e; omega
        have nf : fa j ≠ -1 := by intro z; have := (H.h4 j e.1 z).2; omega
        rw [if_pos e, zAd ne, if_pos ⟨e.1, nf⟩]; omega
      · rw [if_neg e]
        by_cases z : j = fl 0
        · rw [z, zBV]; omega
        · rw [zAd z]; split <;> omega
    omega
theorem own_kth_ne {fb : Int32 → UInt64} {fl fa ft fs : Int32 → Int32} {kk cc nn : Int32} {X M : Int32 → Int} (N : zAA fb ft fs nn X M) (H : zw fl fa kk cc nn X) (hc : cc ≠ kk) : zAZ M 9223372036854775806 ≤ kk.toInt - 1 := by
  have k4 := H.k4
  have ck := H.ck
  have s := own_hs H.h12 N.n4 (by omega) (by omega)
  have ne : cc.toInt ≠ kk.toInt := fun z => hc (Int32.toInt_inj.mp z)
  rw [← N.eqn _ (by omega)]
  have e : zBU nn X 9223372036854775806 ≤ zAC (fun j => @ite Int (zG nn j ∧ fa j ≠ -1) (zCU nn j (fa j)) 1 0) := by
    refine zDl (fun j _ => ?_)
    by_cases z : zG nn j ∧ X j ≤ 9223372036854775806
    · have nf : fa j ≠ -1 := fun q => hc (H.h4 j z.1 q).1
      rw [if_pos z, if_pos ⟨z.1, nf⟩]; omega
    · rw [if_neg z]; split <;> omega
  omega
theorem zDm {M : Int32 → Int} {y0 y1 y2 y3 : Int} (hs : y0 ≤ y1 ∧ y1 ≤ y2 ∧ y2 ≤ y3) (hm : ∀ z, zAZ M z = (if y0 ≤ z then 1 else 0) + (if y1 ≤ z then 1 else 0) + (if y2 ≤ z then 1 else 0) + (if y3 ≤ z then 1 else 0)) {k z : Int} :
    (k ≤ zAZ M z → (k = 1 → y0 ≤ z) ∧ (k = 2 → y1 ≤ z) ∧ (k = 3 → y2 ≤ z) ∧ (k = 4 → y3 ≤ z)) ∧ (zAZ M z ≤ k - 1 → (k = 1 → z < y0) ∧ (k = 2 → z < y1) ∧ (k = 3 → z < y2) ∧ (k = 4 → z < y3)) := by
  rw [hm z]
  constructor
  · intro h
    refine ⟨fun e => ?_, fun e => ?_, fun e => ?_, fun e => ?_⟩ <;> (apply Int.not_lt.mp; intro q; rw [if_neg (by omega)] at h) <;> (repeat' split at h) <;> omega
  · intro h
    refine ⟨fun e => ?_, fun e => ?_, fun e => ?_, fun e => ?_⟩ <;> (apply Int.not_le.mp; intro q; rw [if_pos (by omega)] at h) <;> (repeat' split at h) <;> omega
theorem own_net {a b c d a1 b1 c2 d2 a3 c3 b4 d4 b5 c5 : Int} (h1 : a1 ≤ b1 ∧ ((a1 = a ∧ b1 = b) ∨ (a1 = b ∧ b1 = a))) (h2 : c2 ≤ d2 ∧ ((c2 = c ∧ d2 = d) ∨ (c2 = d ∧ d2 = c))) (h3 : a3 ≤ c3 ∧ ((a3 = a1 ∧ c3 = c2) ∨ (a3 = c2 ∧ c3 = a1))) (h4 : b4 ≤ d4 ∧ ((b4 = b1 ∧ d4 = d2) ∨ (b4 = d2 ∧ d4 = b1))) (h5 : b5 ≤ c5 ∧ ((b5 = b4 ∧ c5 = c3) ∨ (b5 = c3 ∧ c5 = b4))) :
    (a3 ≤ b5 ∧ b5 ≤ c5 ∧ c5 ≤ d4) ∧ ∀ z : Int, (if a ≤ z then (1 : Int) else 0) + (if b ≤ z then 1 else 0) + (if c ≤ z then 1 else 0) + (if d ≤ z then 1 else 0) = (if a3 ≤ z then 1 else 0) + (if b5 ≤ z then 1 else 0) + (if c5 ≤ z then 1 else 0) + (if d4 ≤ z then 1 else 0) := by
  constructor
  · omega
  · intro z
    obtain ⟨-, h1⟩ := h1
    obtain ⟨-, h2⟩ := h2
    obtain ⟨-, h3⟩ := h3
    obtain ⟨-, h4⟩ := h4
    obtain ⟨-, h5⟩ := h5
    have e1 : (if a ≤ z then (1 : Int) else 0) + (if b ≤ z then 1 else 0) = (if a1 ≤ z then 1 else 0) + (if b1 ≤ z then 1 else 0) := by rcases h1 with ⟨rfl, rfl⟩ | ⟨rfl, rfl⟩ <;> omega
    have e2 : (if c ≤ z then (1 : Int) else 0) + (if d ≤ z then 1 else 0) = (if c2 ≤ z then 1 else 0) + (if d2 ≤ z then 1 else 0) := by rcases h2 with ⟨rfl, rfl⟩ | ⟨rfl, rfl⟩ <;> omega
    have e3 : (if a1 ≤ z then (1 : Int) else 0) + (if c2 ≤ z then 1 else 0) = (if a3 ≤ z then 1 else 0) + (if c3 ≤ z then 1 else 0) := by rcases h3 with ⟨rfl, rfl⟩ | ⟨rfl, rfl⟩ <;> omega
    have e4 : (if b1 ≤ z then (1 : Int) else 0) + (if d2 ≤ z then 1 else 0) = (if b4 ≤ z then 1 else 0) + (if d4 ≤ z then 1 else 0) := by rcases h4 with ⟨rfl, rfl⟩ | ⟨rfl, rfl⟩ <;> omega
    have e5 : (if b4 ≤ z then (1 : Int) else 0) + (if c3 ≤ z then 1 else 0) = (if b5 ≤ z then 1 else 0) + (if c5 ≤ z then 1 else 0) := by rcases h5 with ⟨rfl, rfl⟩ | ⟨rfl, rfl⟩ <;> omega
    omega
end OwnKth3
section OwnKth4
def zg (M : Int32 → Int) (p : Int32) (s : Int) : Int32 → Int := zS M p (if M p ≤ s then M p else s)
theorem own_mM_same {M : Int32 → Int} {p : Int32} {s : Int} (h : M p ≤ s) : zg M p s = M := by
  funext q
  by_cases e : q = p
  · rw [e]; simp [zg, zS, h]
  · simp [zg, zS, e]
theorem zCA {M : Int32 → Int} {p : Int32} {s : Int} (h : ¬ M p ≤ s) : zg M p s = zS M p s := by simp [zg, h]
theorem own_Nu0 : zAA (fun _ => 0) (fun _ => 0) (fun _ => 0) 0 (fun _ => 0) (fun _ => 9223372036854775807) := by
  refine ⟨by decide, fun p _ => Or.inl ⟨rfl, rfl⟩, by simp [zAC], fun j hj => absurd (Int32.lt_iff_toInt_lt.mp hj.2) (by have := Int32.le_iff_toInt_le.mp hj.1; omega), fun z hz => ?_⟩
  have h1 : ∀ j, ¬ zG 0 j := fun j hj => absurd (Int32.lt_iff_toInt_lt.mp hj.2) (by have := Int32.le_iff_toInt_le.mp hj.1; omega)
  have h2 : ¬ (9223372036854775807 : Int) ≤ z := by omega
  simp [zBU, zAZ, zAC, h1, h2]
theorem own_He0 {kk : Int32} (hk : 1 ≤ kk.toInt ∧ kk.toInt ≤ 4) : zw (fun _ => 0) (fun _ => 0) kk 0 0 (fun _ => 0) := by
  have h1 : ∀ j, ¬ zG 0 j := fun j hj => absurd (Int32.lt_iff_toInt_lt.mp hj.2) (by have := Int32.le_iff_toInt_le.mp hj.1; omega)
  exact ⟨hk, ⟨by decide, by have : (0 : Int32).toInt = 0 := rfl; omega⟩, ⟨fun i hi => absurd hi (h1 i), fun j hj => absurd hj (h1 j)⟩, ⟨fun q => absurd q (by decide), fun q => absurd q (by decide), fun q => absurd q (by decide)⟩, fun j hj => absurd hj (h1 j)⟩
theorem zBF {F : Int32 → Int64} {M : Int32 → Int} {p : Int32} {s : Int} {z : Int64} (h : ∀ q, (F q).toInt = M q) (hz : z.toInt = if M p ≤ s then M p else s) : ∀ q, (zW F p z q).toInt = zg M p s q := by
  intro q
  by_cases e : q = p
  · simp [zW, zg, zS, e, hz]
  · simp [zW, zg, zS, e, h]
end OwnKth4
theorem zDn (l : Launch) (Z : State) (a0 : Array Value) (hb0 : zU) (hw : ∀ d ∈ tables_1, d.before a0 Z = true) (u : Addr) (ip nm : Int32) (xb xl xp nu xt xs : Addr) (fb : Int32 → UInt64) (fl fa ft : Int32 → Int32) (kk cc nn : Int32) (fs : Int32 → Int32) (X X0 : Int32 → Int) (H : zZ fa fl nn cc ip nm) (O : zO (zD fl ip nm) X0 cc) (hx0 : ∀ j, j ≠ nm → X0 j = X j) (hn0 : X nm ≤ X0 nm) (hn4 : ∀ j, zG nn j → zG 4 j) (hbD : ∀ j, zG nn j → zN (fb j) ((X j : Int) : Rat)) (hc : cc.toInt ≤ 4) (hip : zG cc ip) :
    zX l Z a0 hb0 (⟨"com/example/tidewise/tidewise/search/UpperBounds", "siftDown", "(II)V"⟩ : MethodName) ok10 4 none [] ({ frames := 1, cells := 0, slots := 0, locals := 14 } : Room) #[(.ref u), (.int ip), (.int nm)] [(u, oc1 (.ref xb) (.ref xl) (.ref xp) (.int kk) (.ref nu) (.int cc)), (xb, zA .double (zK fb)), (xl, zA .int (zE fl)), (xp, zA .int (zE fa)), (nu, oc2 (.int 4) (.ref xt) (.ref xs) (.int nn) .null (.int 0)), (xt, zA .int (zE ft)), (xs, zA .int [.int (fs (0 : Int32)), .int 0, .int 0, .int (fs (2 : Int32)), .int 0, .int 0, .int 0, .int 0, .int 0, .int (fs (1 : Int32)), .int 0, .int 0, .int 0, .int (fs (3 : Int32)), .int 0, .int 0])] (fun r cs' => ∃ fl' fa' : Int32 → Int32, zY fa' fl' nn cc ∧ zO fl' X cc ∧ X (fl' 0) ≤ X0 (zD fl ip nm 0) ∧ (∀ j, fa' j = -1 → j ≠ nm ∧ fa j = -1) ∧ r = none ∧ cs' = [(u, oc1 (.ref xb) (.ref xl) (.ref xp) (.int kk) (.ref nu) (.int cc)), (xb, zA .double (zK fb)), (xl, zA .int (zE fl')), (xp, zA .int (zE fa')), (nu, oc2 (.int 4) (.ref xt) (.ref xs) (.int nn) .null (.int 0)), (xt, zA .int (zE ft)), (xs, zA .int [.int (fs (0 : Int32)), .int 0, .int 0, .int (fs (2 : Int32)), .int 0, .int 0, .int 0, .int 0, .int 0, .int (fs (1 : Int32)), .int 0, .int 0, .int 0, .int (fs (3 : Int32)), .int 0, .int 0])]) := by
  have hc0 : 0 ≤ cc.toInt := by have := zAM.mp hip; omega
  rcases own_c5 hc0 hc with rfl | rfl | rfl | rfl | rfl
  · exact absurd (zAM.mp hip) (by have : (0 : Int32).toInt = 0 := rfl; omega)
  · rcases zBW hc hip with rfl | rfl | rfl | rfl
    · exact own_SD10 l Z a0 hb0 hw u nm xb xl xp nu xt xs fb fl fa ft kk nn _ _ _ _ X X0 H O hx0 hn0 hn4 hbD
    · exact absurd hip.2 (by decide)
    · exact absurd hip.2 (by decide)
    · exact absurd hip.2 (by decide)
  · rcases zBW hc hip with rfl | rfl | rfl | rfl
    · exact own_SD20 l Z a0 hb0 hw u nm xb xl xp nu xt xs fb fl fa ft kk nn _ _ _ _ X X0 H O hx0 hn0 hn4 hbD
    · exact own_SD21 l Z a0 hb0 hw u nm xb xl xp nu xt xs fb fl fa ft kk nn _ _ _ _ X X0 H O hx0 hn0 hn4 hbD
    · exact absurd hip.2 (by decide)
    · exact absurd hip.2 (by decide)
  · rcases zBW hc hip with rfl | rfl | rfl | rfl
    · exact own_SD30 l Z a0 hb0 hw u nm xb xl xp nu xt xs fb fl fa ft kk nn _ _ _ _ X X0 H O hx0 hn0 hn4 hbD
    · exact own_SD31 l Z a0 hb0 hw u nm xb xl xp nu xt xs fb fl fa ft kk nn _ _ _ _ X X0 H O hx0 hn0 hn4 hbD
    · exact own_SD32 l Z a0 hb0 hw u nm xb xl xp nu xt xs fb fl fa ft kk nn _ _ _ _ X X0 H O hx0 hn0 hn4 hbD
    · exact absurd hip.2 (by decide)
  · rcases zBW hc hip with rfl | rfl | rfl | rfl
    · exact own_SD40 l Z a0 hb0 hw u nm xb xl xp nu xt xs fb fl fa ft kk nn _ _ _ _ X X0 H O hx0 hn0 hn4 hbD
    · exact own_SD41 l Z a0 hb0 hw u nm xb xl xp nu xt xs fb fl fa ft kk nn _ _ _ _ X X0 H O hx0 hn0 hn4 hbD
    · exact own_SD42 l Z a0 hb0 hw u nm xb xl xp nu xt xs fb fl fa ft kk nn _ _ _ _ X X0 H O hx0 hn0 hn4 hbD
    · exact own_SD43 l Z a0 hb0 hw u nm xb xl xp nu xt xs fb fl fa ft kk nn _ _ _ _ X X0 H O hx0 hn0 hn4 hbD
theorem own_SUm (l : Launch) (Z : State) (a0 : Array Value) (hb0 : zU) (hw : ∀ d ∈ tables_1, d.before a0 Z = true) (u : Addr) (c0 nm : Int32) (xb xl xp nu xt xs : Addr) (fb : Int32 → UInt64) (fl fa ft : Int32 → Int32) (kk c1 nn : Int32) (fs : Int32 → Int32) (e1 : c0 + 1 = c1) (X : Int32 → Int) (H : zZ fa fl nn c1 c0 nm) (O : zO fl X c0) (hn4 : ∀ j, zG nn j → zG 4 j) (hbD : ∀ j, zG nn j → zN (fb j) ((X j : Int) : Rat)) (h0 : zG 4 c0) :
    zX l Z a0 hb0 (⟨"com/example/tidewise/tidewise/search/UpperBounds", "siftUp", "(II)V"⟩ : MethodName) ok9 4 none [] ({ frames := 1, cells := 0, slots := 0, locals := 14 } : Room) #[(.ref u), (.int c0), (.int nm)] [(u, oc1 (.ref xb) (.ref xl) (.ref xp) (.int kk) (.ref nu) (.int c1)), (xb, zA .double (zK fb)), (xl, zA .int (zE fl)), (xp, zA .int (zE fa)), (nu, oc2 (.int 4) (.ref xt) (.ref xs) (.int nn) .null (.int 0)), (xt, zA .int (zE ft)), (xs, zA .int [.int (fs (0 : Int32)), .int 0, .int 0, .int (fs (2 : Int32)), .int 0, .int 0, .int 0, .int 0, .int 0, .int (fs (1 : Int32)), .int 0, .int 0, .int 0, .int (fs (3 : Int32)), .int 0, .int 0])] (fun r cs' => ∃ fl' fa' : Int32 → Int32, zY fa' fl' nn c1 ∧ zO fl' X c1 ∧ (∀ j, fa' j = -1 → j ≠ nm ∧ fa j = -1) ∧ r = none ∧ cs' = [(u, oc1 (.ref xb) (.ref xl) (.ref xp) (.int kk) (.ref nu) (.int c1)), (xb, zA .double (zK fb)), (xl, zA .int (zE fl')), (xp, zA .int (zE fa')), (nu, oc2 (.int 4) (.ref xt) (.ref xs) (.int nn) .null (.int 0)), (xt, zA .int (zE ft)), (xs, zA .int [.int (fs (0 : Int32)), .int 0, .int 0, .int (fs (2 : Int32)), .int 0, .int 0, .int 0, .int 0, .int 0, .int (fs (1 : Int32)), .int 0, .int 0, .int 0, .int (fs (3 : Int32)), .int 0, .int 0])]) := by
  rcases zAn h0 with rfl | rfl | rfl | rfl
  · have e2 : c1 = (1 : Int32) := e1.symm.trans (by decide)
    subst e2
    exact own_SU0 l Z a0 hb0 hw u nm xb xl xp nu xt xs fb fl fa ft kk nn _ _ _ _ X H O hn4 hbD
  · have e2 : c1 = (2 : Int32) := e1.symm.trans (by decide)
    subst e2
    exact own_SU1 l Z a0 hb0 hw u nm xb xl xp nu xt xs fb fl fa ft kk nn _ _ _ _ X H O hn4 hbD
  · have e2 : c1 = (3 : Int32) := e1.symm.trans (by decide)
    subst e2
    exact own_SU2 l Z a0 hb0 hw u nm xb xl xp nu xt xs fb fl fa ft kk nn _ _ _ _ X H O hn4 hbD
  · have e2 : c1 = (4 : Int32) := e1.symm.trans (by decide)
    subst e2
    exact own_SU3 l Z a0 hb0 hw u nm xb xl xp nu xt xs fb fl fa ft kk nn _ _ _ _ X H O hn4 hbD

theorem own_inf {x : UInt64} {r : Rat} (hx : zN x r) (h : r ≤ 1606938044258990275541962092341162602522202993782792835301376) : FP.dcmp x 9218868437227405312 = some .lt := by
  have h1 := (zCE hx own_big).mpr (Std.lt_of_le_of_lt h (by decide +kernel))
  rw [show FP.dcmp x 9110782046170513408 = FP.Core.dcmp x 9110782046170513408 from rfl, FP.Core.dcmp_lt] at h1
  rw [show FP.dcmp x 9218868437227405312 = FP.Core.dcmp x 9218868437227405312 from rfl, FP.Core.dcmp_lt]
  exact ⟨h1.1, by decide +kernel, Int.lt_trans h1.2.2 (by decide +kernel)⟩
theorem zDo {x : UInt64} {i : Int} (hx : zN x ((i : Int) : Rat)) (h : i ≤ 2147483647) : FP.dcmp x 9218868437227405312 = some .lt := own_inf hx (Rat.le_trans (zAS h) (by decide +kernel))
theorem zBq (u : Addr) (pp : Int32) (sd : UInt64) :
    zF zl ok7 0 #[oa u, oi pp, .val (.double sd), .second, ou, ou] [] 1 #[oa u, oi pp, .val (.double sd), .second, ou, ou] [(.ref u)] := by
  refine zJ (pc2 := 1) d4_0 rfl rfl rfl ?_
  exact zH
theorem zBr (u : Addr) (pp : Int32) (sd : UInt64) (nn : Int32) :
    zF zl ok7 7 #[oa u, oi pp, .val (.double sd), .second, ou, ou] [(.int nn)] 10 #[oa u, oi pp, .val (.double sd), .second, oi nn, ou] [(.ref u)] := by
  refine zBJ (pc2 := 9) d4_7 rfl (L' := #[oa u, oi pp, .val (.double sd), .second, oi nn, ou]) rfl ?_
  refine zJ (pc2 := 10) d4_9 rfl rfl rfl ?_
  exact zH
theorem zBs (u : Addr) (pp : Int32) (sd : UInt64) (nn : Int32) (nu : Addr) :
    zF zl ok7 13 #[oa u, oi pp, .val (.double sd), .second, oi nn, ou] [(.ref nu)] 14 #[oa u, oi pp, .val (.double sd), .second, oi nn, ou] [(.int pp), (.ref nu)] := by
  refine zM (pc2 := 14) d4_13 rfl rfl ?_
  exact zH
theorem zDL (u : Addr) (pp : Int32) (sd : UInt64) (nn : Int32) (nm : Int32) (hb23 : if_icmp.holds .ne nm nn = true) :
    zF zl ok7 17 #[oa u, oi pp, .val (.double sd), .second, oi nn, ou] [(.int nm)] 86 #[oa u, oi pp, .val (.double sd), .second, oi nn, oi nm] [(.ref u), (.double sd)] := by
  refine zBJ (pc2 := 19) d4_17 rfl (L' := #[oa u, oi pp, .val (.double sd), .second, oi nn, oi nm]) rfl ?_
  refine zn (pc2 := 21) d4_19 rfl rfl ?_
  refine zn (pc2 := 23) d4_21 rfl rfl ?_
  refine zAJ (pc' := 84) d4_23 hb23 (by decide) (by decide) ?_
  refine zBt (pc2 := 85) d4_84 rfl rfl ?_
  refine zJ (pc2 := 86) d4_85 rfl rfl rfl ?_
  exact zH
theorem zDM (u : Addr) (pp : Int32) (sd : UInt64) (nn : Int32) (nm : Int32) (xb : Addr) :
    zF zl ok7 89 #[oa u, oi pp, .val (.double sd), .second, oi nn, oi nm] [(.ref xb), (.double sd)] 91 #[oa u, oi pp, .val (.double sd), .second, oi nn, oi nm] [(.int nm), (.ref xb), (.double sd)] := by
  refine zn (pc2 := 91) d4_89 rfl rfl ?_
  exact zH
theorem own_E1_5 (u : Addr) (pp : Int32) (sd : UInt64) (nn : Int32) (nm : Int32) (w0 : UInt64) (v92 : Int32) (hv92 : (cmpValue (FP.dcmp sd w0) .g) = v92) (hb93 : ifCond.holds .lt v92 = false) :
    zF zl ok7 92 #[oa u, oi pp, .val (.double sd), .second, oi nn, oi nm] [(.double w0), (.double sd)] 96 #[oa u, oi pp, .val (.double sd), .second, oi nn, oi nm] [] := by
  refine zAD (pc2 := 93) d4_92 rfl (v := v92) hv92 ?_
  refine zy (pc2 := 96) d4_93 rfl hb93 ?_
  exact zH
set_option maxRecDepth 65536 in
set_option maxHeartbeats 4000000 in
theorem own_ofE1 (l : Launch) (Z : State) (a0 : Array Value) (hb0 : zU) (hw : ∀ d ∈ tables_1, d.before a0 Z = true) (u : Addr) (pp : Int32) (sd : UInt64) (xb xl xp nu xt xs : Addr) (fb : Int32 → UInt64) (fl fa ft : Int32 → Int32) (kk cc nn : Int32) (fs : Int32 → Int32) (X M : Int32 → Int) (sv : Int) (N : zAA fb ft fs nn X M) (He : zw fl fa kk cc nn X) (hp4 : zG 4 pp) (hsd : zN sd ((sv : Int) : Rat)) (bsv : -2147483648 ≤ sv ∧ sv ≤ 2147483647) (hs : fs pp ≠ 0) (hl : X (fs pp - 1) ≤ sv) :
    zX l Z a0 hb0 (⟨"com/example/tidewise/tidewise/search/UpperBounds", "offer", "(ID)V"⟩ : MethodName) ok7 6 none [] ({ frames := 3, cells := 0, slots := 0, locals := 80 } : Room) #[(.ref u), (.int pp), (.double sd)] [(u, oc1 (.ref xb) (.ref xl) (.ref xp) (.int kk) (.ref nu) (.int cc)), (xb, zA .double (zK fb)), (xl, zA .int (zE fl)), (xp, zA .int (zE fa)), (nu, oc2 (.int 4) (.ref xt) (.ref xs) (.int nn) .null (.int 0)), (xt, zA .int (zE ft)), (xs, zA .int [.int (fs (0 : Int32)), .int 0, .int 0, .int (fs (2 : Int32)), .int 0, .int 0, .int 0, .int 0, .int 0, .int (fs (1 : Int32)), .int 0, .int 0, .int 0, .int (fs (3 : Int32)), .int 0, .int 0])] (fun r cs' => ∃ (fb' : Int32 → UInt64) (fl' fa' ft' fs' : Int32 → Int32) (cc' nn' : Int32) (X' : Int32 → Int), zAA fb' ft' fs' nn' X' (zg M pp sv) ∧ zw fl' fa' kk cc' nn' X' ∧ r = none ∧ cs' = [(u, oc1 (.ref xb) (.ref xl) (.ref xp) (.int kk) (.ref nu) (.int cc')), (xb, zA .double (zK fb')), (xl, zA .int (zE fl')), (xp, zA .int (zE fa')), (nu, oc2 (.int 4) (.ref xt) (.ref xs) (.int nn') .null (.int 0)), (xt, zA .int (zE ft')), (xs, zA .int [.int (fs' (0 : Int32)), .int 0, .int 0, .int (fs' (2 : Int32)), .int 0, .int 0, .int 0, .int 0, .int 0, .int (fs' (1 : Int32)), .int 0, .int 0, .int 0, .int (fs' (3 : Int32)), .int 0, .int 0])]) := by
  refine zh (L0 := #[oa u, oi pp, .val (.double sd), .second, ou, ou]) (plainFor_of_name zBk) (fun m => zBm m u pp sd) ?_
  intro p e s m below meth c T0 hx hZ hown hby hml hnm H0
  obtain ⟨TE1_1, HE1_1, stE1_1⟩ := zI H0 hx hZ hown (zB hw 32 rfl) 0 4 rfl rfl (g := (mkF m 1 #[oa u, oi pp, .val (.double sd), .second, ou, ou] [(.ref u)])) rfl rfl (hb hby d4_1)
  obtain ⟨TE1_2, vE1_2_, csE1_2_, qE1_2, HE1_2, stE1_2⟩ := zAR HE1_1 hx hZ hown (zB hw 39 rfl) (zB hw 40 rfl) (zB hw 42 rfl) (zB hw 41 rfl) (zB hw 21 rfl) (zB hw 43 rfl) (by decide) (x := nu) 4 rfl (argsL := []) (rest := []) (W := 0) (zBp l Z a0 hb0 hw nu u xb xl xp xt xs fb fl fa ft kk cc nn _ _ _ _) (by decide) (by decide) (by decide) (by decide) (g := (mkF m 4 #[oa u, oi pp, .val (.double sd), .second, ou, ou] [(.ref nu)])) rfl (by rw [hml]; rfl) (lenOf zBl rfl) rfl (by show 2 * 0 + _ ≤ _; exact Nat.le_of_eq rfl) (hb hby d4_4)
  obtain ⟨rfl, rfl⟩ := qE1_2
  obtain ⟨TE1_3, HE1_3, stE1_3⟩ := zI HE1_2 hx hZ hown (zB hw 32 rfl) 0 4 rfl rfl (g := (mkF m 10 #[oa u, oi pp, .val (.double sd), .second, oi nn, ou] [(.ref u)])) rfl rfl (hb hby d4_10)
  have n4 := N.n4
  have k4 := He.k4
  have ck := He.ck
  have q := (N.num pp hp4).resolve_left (fun z => hs z.1)
  have m4 := zAT n4 q.2.1
  obtain ⟨TE1_4, vE1_4_, csE1_4_, qE1_4, HE1_4, stE1_4⟩ := zAR HE1_3 hx hZ hown (zB hw 46 rfl) (zB hw 47 rfl) (zB hw 49 rfl) (zB hw 48 rfl) (zB hw 21 rfl) (zB hw 50 rfl) (by decide) (x := nu) 4 rfl (argsL := [(.int pp)]) (rest := []) (W := 0) (zDJ l Z a0 hb0 hw nu pp u xb xl xp xt xs fb fl fa ft kk cc nn fs hp4 N.n4.2 hs m4 q.2.2.1) (by decide) (by decide) (by decide) (by decide) (g := (mkF m 14 #[oa u, oi pp, .val (.double sd), .second, oi nn, ou] [(.int pp), (.ref nu)])) rfl (by rw [hml]; rfl) (lenOf zAW rfl) rfl (by show 2 * 0 + _ ≤ _; exact Nat.le_of_eq rfl) (hb hby d4_14)
  obtain ⟨nm, enm, rfl, rfl⟩ := qE1_4
  rw [← enm] at q m4
  have i4 := m4
  have mi := q.2.1
  obtain ⟨TE1_5, HE1_5, stE1_5⟩ := zI HE1_4 hx hZ hown (zB hw 10 rfl) 0 0 rfl rfl (g := (mkF m 86 #[oa u, oi pp, .val (.double sd), .second, oi nn, oi nm] [(.ref u), (.double sd)])) rfl rfl (hb hby d4_86)
  obtain ⟨w0, hw0⟩ : ∃ z, fb nm = z := ⟨_, rfl⟩
  obtain ⟨v92, hv92⟩ : ∃ z : Int32, (cmpValue (FP.dcmp sd w0) .g) = z := ⟨_, rfl⟩
  rw [← enm] at hl
  have hb23 : if_icmp.holds .ne nm nn = true := by rw [zAQ]; exact decide_eq_true (fun z => by rw [z] at mi; exact zAp nn mi)
  have bw0 : zN w0 ((X nm : Int) : Rat) := by rw [← hw0]; exact (N.bnd nm mi).1
  have hb93 : ifCond.holds .lt v92 = false := by rw [← hv92, zAg hsd bw0]; exact decide_eq_false (Rat.not_lt.mpr (zAS hl))
  refine ⟨_, _, _, _, 96, #[oa u, oi pp, .val (.double sd), .second, oi nn, oi nm], HE1_5, by decide, by decide, Or.inl ⟨rfl, ⟨fb, fl, fa, ft, fs, cc, nn, X, by rw [own_mM_same (by rw [q.2.2.2]; exact hl)]; exact N, He, rfl, rfl⟩, d4_96, fun target q => ?_⟩⟩
  refine zC H0 hx hZ hown hby hw zQ (zBq u pp sd) _ ?_
  refine stE1_1 _ ?_
  refine stE1_2 _ ?_
  refine zC HE1_2 hx hZ hown hby hw zQ (zBr u pp sd nn) _ ?_
  refine stE1_3 _ ?_
  refine zC HE1_3 hx hZ hown hby hw zQ (zBs u pp sd nn nu) _ ?_
  refine stE1_4 _ ?_
  refine zC HE1_4 hx hZ hown hby hw zQ (zDL u pp sd nn nm hb23) _ ?_
  refine stE1_5 _ ?_
  refine zC HE1_5 hx hZ hown hby hw zQ (zDM u pp sd nn nm xb) _ ?_
  refine zd HE1_5 hx hZ 1 rfl i4 hw0 (g := (mkF m 91 #[oa u, oi pp, .val (.double sd), .second, oi nn, oi nm] [(.int nm), (.ref xb), (.double sd)])) rfl rfl (hb hby d4_91) _ ?_
  refine zC HE1_5 hx hZ hown hby hw zQ (own_E1_5 u pp sd nn nm w0 v92 hv92 hb93) _ ?_
  exact q
theorem zDp (u : Addr) (pp : Int32) (sd : UInt64) (nn : Int32) (nm : Int32) (w0 : UInt64) (v92 : Int32) (hv92 : (cmpValue (FP.dcmp sd w0) .g) = v92) (hb93 : ifCond.holds .lt v92 = true) :
    zF zl ok7 92 #[oa u, oi pp, .val (.double sd), .second, oi nn, oi nm] [(.double w0), (.double sd)] 97 #[oa u, oi pp, .val (.double sd), .second, oi nn, oi nm] [] := by
  refine zAD (pc2 := 93) d4_92 rfl (v := v92) hv92 ?_
  refine zx (pc' := 97) d4_93 hb93 (by decide) (by decide) ?_
  exact zH
theorem zDq (u : Addr) (pp : Int32) (sd : UInt64) (nn : Int32) (nm : Int32) :
    zF zl ok7 97 #[oa u, oi pp, .val (.double sd), .second, oi nn, oi nm] [] 98 #[oa u, oi pp, .val (.double sd), .second, oi nn, oi nm] [(.ref u)] := by
  refine zJ (pc2 := 98) d4_97 rfl rfl rfl ?_
  exact zH
theorem zDr (u : Addr) (pp : Int32) (sd : UInt64) (nn : Int32) (nm : Int32) (xb : Addr) :
    zF zl ok7 101 #[oa u, oi pp, .val (.double sd), .second, oi nn, oi nm] [(.ref xb)] 104 #[oa u, oi pp, .val (.double sd), .second, oi nn, oi nm] [(.double sd), (.int nm), (.ref xb)] := by
  refine zn (pc2 := 103) d4_101 rfl rfl ?_
  refine zBt (pc2 := 104) d4_103 rfl rfl ?_
  exact zH
theorem zDs (u : Addr) (pp : Int32) (sd : UInt64) (nn : Int32) (nm : Int32) :
    zF zl ok7 105 #[oa u, oi pp, .val (.double sd), .second, oi nn, oi nm] [] 106 #[oa u, oi pp, .val (.double sd), .second, oi nn, oi nm] [(.ref u)] := by
  refine zJ (pc2 := 106) d4_105 rfl rfl rfl ?_
  exact zH
theorem zDt (u : Addr) (pp : Int32) (sd : UInt64) (nn : Int32) (nm : Int32) (xp : Addr) :
    zF zl ok7 109 #[oa u, oi pp, .val (.double sd), .second, oi nn, oi nm] [(.ref xp)] 111 #[oa u, oi pp, .val (.double sd), .second, oi nn, oi nm] [(.int nm), (.ref xp)] := by
  refine zn (pc2 := 111) d4_109 rfl rfl ?_
  exact zH
theorem own_E2_10 (u : Addr) (pp : Int32) (sd : UInt64) (nn : Int32) (nm : Int32) (w1 : Int32) (hb112 : ifCond.holds .lt w1 = false) :
    zF zl ok7 112 #[oa u, oi pp, .val (.double sd), .second, oi nn, oi nm] [(.int w1)] 117 #[oa u, oi pp, .val (.double sd), .second, oi nn, oi nm] [(.ref u), (.ref u)] := by
  refine zy (pc2 := 115) d4_112 rfl hb112 ?_
  refine zJ (pc2 := 116) d4_115 rfl rfl rfl ?_
  refine zJ (pc2 := 117) d4_116 rfl rfl rfl ?_
  exact zH
theorem own_E2_11 (u : Addr) (pp : Int32) (sd : UInt64) (nn : Int32) (nm : Int32) (xp : Addr) :
    zF zl ok7 120 #[oa u, oi pp, .val (.double sd), .second, oi nn, oi nm] [(.ref xp), (.ref u)] 122 #[oa u, oi pp, .val (.double sd), .second, oi nn, oi nm] [(.int nm), (.ref xp), (.ref u)] := by
  refine zn (pc2 := 122) d4_120 rfl rfl ?_
  exact zH
theorem own_E2_12 (u : Addr) (pp : Int32) (sd : UInt64) (nn : Int32) (nm : Int32) (w2 : Int32) :
    zF zl ok7 123 #[oa u, oi pp, .val (.double sd), .second, oi nn, oi nm] [(.int w2), (.ref u)] 125 #[oa u, oi pp, .val (.double sd), .second, oi nn, oi nm] [(.int nm), (.int w2), (.ref u)] := by
  refine zn (pc2 := 125) d4_123 rfl rfl ?_
  exact zH
theorem own_E2_13 (u : Addr) (pp : Int32) (sd : UInt64) (nn : Int32) (nm : Int32) :
    zF zl ok7 128 #[oa u, oi pp, .val (.double sd), .second, oi nn, oi nm] [] 226 #[oa u, oi pp, .val (.double sd), .second, oi nn, oi nm] [] := by
  refine zAN (pc' := 226) d4_128 (by decide) (by decide) ?_
  exact zH
set_option maxRecDepth 65536 in
set_option maxHeartbeats 4000000 in
theorem own_ofE2 (l : Launch) (Z : State) (a0 : Array Value) (hb0 : zU) (hw : ∀ d ∈ tables_1, d.before a0 Z = true) (u : Addr) (pp : Int32) (sd : UInt64) (xb xl xp nu xt xs : Addr) (fb : Int32 → UInt64) (fl fa ft : Int32 → Int32) (kk cc nn : Int32) (fs : Int32 → Int32) (X M : Int32 → Int) (sv : Int) (N : zAA fb ft fs nn X M) (He : zw fl fa kk cc nn X) (hp4 : zG 4 pp) (hsd : zN sd ((sv : Int) : Rat)) (bsv : -2147483648 ≤ sv ∧ sv ≤ 2147483647) (hs : fs pp ≠ 0) (hl : sv < X (fs pp - 1)) (hm : fa (fs pp - 1) ≠ -1) :
    zX l Z a0 hb0 (⟨"com/example/tidewise/tidewise/search/UpperBounds", "offer", "(ID)V"⟩ : MethodName) ok7 6 none [] ({ frames := 3, cells := 0, slots := 0, locals := 80 } : Room) #[(.ref u), (.int pp), (.double sd)] [(u, oc1 (.ref xb) (.ref xl) (.ref xp) (.int kk) (.ref nu) (.int cc)), (xb, zA .double (zK fb)), (xl, zA .int (zE fl)), (xp, zA .int (zE fa)), (nu, oc2 (.int 4) (.ref xt) (.ref xs) (.int nn) .null (.int 0)), (xt, zA .int (zE ft)), (xs, zA .int [.int (fs (0 : Int32)), .int 0, .int 0, .int (fs (2 : Int32)), .int 0, .int 0, .int 0, .int 0, .int 0, .int (fs (1 : Int32)), .int 0, .int 0, .int 0, .int (fs (3 : Int32)), .int 0, .int 0])] (fun r cs' => ∃ (fb' : Int32 → UInt64) (fl' fa' ft' fs' : Int32 → Int32) (cc' nn' : Int32) (X' : Int32 → Int), zAA fb' ft' fs' nn' X' (zg M pp sv) ∧ zw fl' fa' kk cc' nn' X' ∧ r = none ∧ cs' = [(u, oc1 (.ref xb) (.ref xl) (.ref xp) (.int kk) (.ref nu) (.int cc')), (xb, zA .double (zK fb')), (xl, zA .int (zE fl')), (xp, zA .int (zE fa')), (nu, oc2 (.int 4) (.ref xt) (.ref xs) (.int nn') .null (.int 0)), (xt, zA .int (zE ft')), (xs, zA .int [.int (fs' (0 : Int32)), .int 0, .int 0, .int (fs' (2 : Int32)), .int 0, .int 0, .int 0, .int 0, .int 0, .int (fs' (1 : Int32)), .int 0, .int 0, .int 0, .int (fs' (3 : Int32)), .int 0, .int 0])]) := by
  refine zh (L0 := #[oa u, oi pp, .val (.double sd), .second, ou, ou]) (plainFor_of_name zBk) (fun m => zBm m u pp sd) ?_
  intro p e s m below meth c T0 hx hZ hown hby hml hnm H0
  obtain ⟨TE2_1, HE2_1, stE2_1⟩ := zI H0 hx hZ hown (zB hw 32 rfl) 0 4 rfl rfl (g := (mkF m 1 #[oa u, oi pp, .val (.double sd), .second, ou, ou] [(.ref u)])) rfl rfl (hb hby d4_1)
  obtain ⟨TE2_2, vE2_2_, csE2_2_, qE2_2, HE2_2, stE2_2⟩ := zAR HE2_1 hx hZ hown (zB hw 39 rfl) (zB hw 40 rfl) (zB hw 42 rfl) (zB hw 41 rfl) (zB hw 21 rfl) (zB hw 43 rfl) (by decide) (x := nu) 4 rfl (argsL := []) (rest := []) (W := 0) (zBp l Z a0 hb0 hw nu u xb xl xp xt xs fb fl fa ft kk cc nn _ _ _ _) (by decide) (by decide) (by decide) (by decide) (g := (mkF m 4 #[oa u, oi pp, .val (.double sd), .second, ou, ou] [(.ref nu)])) rfl (by rw [hml]; rfl) (lenOf zBl rfl) rfl (by show 2 * 0 + _ ≤ _; exact Nat.le_of_eq rfl) (hb hby d4_4)
  obtain ⟨rfl, rfl⟩ := qE2_2
  obtain ⟨TE2_3, HE2_3, stE2_3⟩ := zI HE2_2 hx hZ hown (zB hw 32 rfl) 0 4 rfl rfl (g := (mkF m 10 #[oa u, oi pp, .val (.double sd), .second, oi nn, ou] [(.ref u)])) rfl rfl (hb hby d4_10)
  have n4 := N.n4
  have k4 := He.k4
  have ck := He.ck
  have q := (N.num pp hp4).resolve_left (fun z => hs z.1)
  have m4 := zAT n4 q.2.1
  obtain ⟨TE2_4, vE2_4_, csE2_4_, qE2_4, HE2_4, stE2_4⟩ := zAR HE2_3 hx hZ hown (zB hw 46 rfl) (zB hw 47 rfl) (zB hw 49 rfl) (zB hw 48 rfl) (zB hw 21 rfl) (zB hw 50 rfl) (by decide) (x := nu) 4 rfl (argsL := [(.int pp)]) (rest := []) (W := 0) (zDJ l Z a0 hb0 hw nu pp u xb xl xp xt xs fb fl fa ft kk cc nn fs hp4 N.n4.2 hs m4 q.2.2.1) (by decide) (by decide) (by decide) (by decide) (g := (mkF m 14 #[oa u, oi pp, .val (.double sd), .second, oi nn, ou] [(.int pp), (.ref nu)])) rfl (by rw [hml]; rfl) (lenOf zAW rfl) rfl (by show 2 * 0 + _ ≤ _; exact Nat.le_of_eq rfl) (hb hby d4_14)
  obtain ⟨nm, enm, rfl, rfl⟩ := qE2_4
  rw [← enm] at q m4
  have i4 := m4
  have mi := q.2.1
  obtain ⟨TE2_5, HE2_5, stE2_5⟩ := zI HE2_4 hx hZ hown (zB hw 10 rfl) 0 0 rfl rfl (g := (mkF m 86 #[oa u, oi pp, .val (.double sd), .second, oi nn, oi nm] [(.ref u), (.double sd)])) rfl rfl (hb hby d4_86)
  obtain ⟨w0, hw0⟩ : ∃ z, fb nm = z := ⟨_, rfl⟩
  obtain ⟨v92, hv92⟩ : ∃ z : Int32, (cmpValue (FP.dcmp sd w0) .g) = z := ⟨_, rfl⟩
  have N' := zDj N hp4 hs enm hsd bsv
  have hl' : sv < X nm := by rw [enm]; exact hl
  have eM : zg M pp sv = zS M pp sv := zCA (by rw [q.2.2.2]; omega)
  have hbN : ∀ j, zG nn j → zN ((ze fb nm sd) j) (((zS X nm sv) j : Int) : Rat) := fun j hj => (N'.bnd j hj).1
  have hN4 : ∀ j, zG nn j → zG 4 j := fun j hj => zAT N'.n4 hj
  obtain ⟨TE2_7, HE2_7, stE2_7⟩ := zI HE2_5 hx hZ hown (zB hw 10 rfl) 0 0 rfl rfl (g := (mkF m 98 #[oa u, oi pp, .val (.double sd), .second, oi nn, oi nm] [(.ref u)])) rfl rfl (hb hby d4_98)
  obtain ⟨TE2_8, HE2_8, stE2_8⟩ := zBL HE2_7 hx hZ 1 rfl i4 (g := (mkF m 104 #[oa u, oi pp, .val (.double sd), .second, oi nn, oi nm] [(.double sd), (.int nm), (.ref xb)])) rfl rfl (hb hby d4_104)
  change zR _ _ _ _ _ _ _ _ _ _ _ _ _ _ [(u, oc1 (.ref xb) (.ref xl) (.ref xp) (.int kk) (.ref nu) (.int cc)), (xb, zA .double (zK (ze fb nm sd))), (xl, zA .int (zE fl)), (xp, zA .int (zE fa)), (nu, oc2 (.int 4) (.ref xt) (.ref xs) (.int nn) .null (.int 0)), (xt, zA .int (zE ft)), (xs, zA .int [.int (fs (0 : Int32)), .int 0, .int 0, .int (fs (2 : Int32)), .int 0, .int 0, .int 0, .int 0, .int 0, .int (fs (1 : Int32)), .int 0, .int 0, .int 0, .int (fs (3 : Int32)), .int 0, .int 0])] _ _ at HE2_8
  obtain ⟨TE2_9, HE2_9, stE2_9⟩ := zI HE2_8 hx hZ hown (zB hw 15 rfl) 0 2 rfl rfl (g := (mkF m 106 #[oa u, oi pp, .val (.double sd), .second, oi nn, oi nm] [(.ref u)])) rfl rfl (hb hby d4_106)
  obtain ⟨w1, hw1⟩ : ∃ z, fa nm = z := ⟨_, rfl⟩
  obtain ⟨TE2_11, HE2_11, stE2_11⟩ := zI HE2_9 hx hZ hown (zB hw 15 rfl) 0 2 rfl rfl (g := (mkF m 117 #[oa u, oi pp, .val (.double sd), .second, oi nn, oi nm] [(.ref u), (.ref u)])) rfl rfl (hb hby d4_117)
  obtain ⟨w2, hw2⟩ : ∃ z, fa nm = z := ⟨_, rfl⟩
  have hm' : fa nm ≠ -1 := by rw [enm]; exact hm
  obtain ⟨A1, A2, A3, A4, A5, A6⟩ := own_He_a He mi hm' (Int.le_of_lt hl')
  rw [hw2] at A1 A2 A3 A6
  obtain ⟨TE2_13, vE2_13_, csE2_13_, qE2_13, HE2_13, stE2_13⟩ := zo HE2_11 hx hZ hown (zB hw 74 rfl) (zB hw 75 rfl) (zB hw 76 rfl) (zB hw 1 rfl) (zB hw 2 rfl) (zB hw 77 rfl) (by decide) (x := u) 0 rfl (argsL := [(.int w2), (.int nm)]) (rest := []) (W := 0) (zDn l Z a0 hb0 hw u w2 nm xb xl xp nu xt xs (ze fb nm sd) fl fa ft kk cc nn fs (zS X nm sv) X A2 A3 A4 (by rw [zBV]; exact Int.le_of_lt hl') hN4 hbN (by omega) A1) (by decide) (by decide) (by decide) (by decide) (g := (mkF m 125 #[oa u, oi pp, .val (.double sd), .second, oi nn, oi nm] [(.int nm), (.int w2), (.ref u)])) rfl (by rw [hml]; rfl) (lenOf zq rfl) rfl (by show 2 * 0 + _ ≤ _; exact Nat.le_of_eq rfl) (hb hby d4_125)
  obtain ⟨fl', fa', g1, g2, g3, g4, rfl, rfl⟩ := qE2_13
  have hb23 : if_icmp.holds .ne nm nn = true := by rw [zAQ]; exact decide_eq_true (fun z => by rw [z] at mi; exact zAp nn mi)
  have bw0 : zN w0 ((X nm : Int) : Rat) := by rw [← hw0]; exact (N.bnd nm mi).1
  have hb93 : ifCond.holds .lt v92 = true := by rw [← hv92, zAg hsd bw0]; exact decide_eq_true (zAP hl')
  have hb112 : ifCond.holds .lt w1 = false := by
    rw [own_z_lt]
    have A1' := A1
    rw [← hw2, hw1, zAM] at A1'
    exact decide_eq_false (by omega)
  refine ⟨_, _, _, _, 226, #[oa u, oi pp, .val (.double sd), .second, oi nn, oi nm], HE2_13, by decide, by decide, Or.inl ⟨rfl, ⟨(ze fb nm sd), fl', fa', ft, fs, cc, nn, (zS X nm sv), by rw [eM]; exact N', A6 fl' fa' g1 g2 g3 g4, rfl, rfl⟩, d4_226, fun target q => ?_⟩⟩
  refine zC H0 hx hZ hown hby hw zQ (zBq u pp sd) _ ?_
  refine stE2_1 _ ?_
  refine stE2_2 _ ?_
  refine zC HE2_2 hx hZ hown hby hw zQ (zBr u pp sd nn) _ ?_
  refine stE2_3 _ ?_
  refine zC HE2_3 hx hZ hown hby hw zQ (zBs u pp sd nn nu) _ ?_
  refine stE2_4 _ ?_
  refine zC HE2_4 hx hZ hown hby hw zQ (zDL u pp sd nn nm hb23) _ ?_
  refine stE2_5 _ ?_
  refine zC HE2_5 hx hZ hown hby hw zQ (zDM u pp sd nn nm xb) _ ?_
  refine zd HE2_5 hx hZ 1 rfl i4 hw0 (g := (mkF m 91 #[oa u, oi pp, .val (.double sd), .second, oi nn, oi nm] [(.int nm), (.ref xb), (.double sd)])) rfl rfl (hb hby d4_91) _ ?_
  refine zC HE2_5 hx hZ hown hby hw zQ (zDp u pp sd nn nm w0 v92 hv92 hb93) _ ?_
  refine zC HE2_5 hx hZ hown hby hw zQ (zDq u pp sd nn nm) _ ?_
  refine stE2_7 _ ?_
  refine zC HE2_7 hx hZ hown hby hw zQ (zDr u pp sd nn nm xb) _ ?_
  refine stE2_8 _ ?_
  refine zC HE2_8 hx hZ hown hby hw zQ (zDs u pp sd nn nm) _ ?_
  refine stE2_9 _ ?_
  refine zC HE2_9 hx hZ hown hby hw zQ (zDt u pp sd nn nm xp) _ ?_
  refine zf HE2_9 hx hZ 3 rfl i4 hw1 (g := (mkF m 111 #[oa u, oi pp, .val (.double sd), .second, oi nn, oi nm] [(.int nm), (.ref xp)])) rfl rfl (hb hby d4_111) _ ?_
  refine zC HE2_9 hx hZ hown hby hw zQ (own_E2_10 u pp sd nn nm w1 hb112) _ ?_
  refine stE2_11 _ ?_
  refine zC HE2_11 hx hZ hown hby hw zQ (own_E2_11 u pp sd nn nm xp) _ ?_
  refine zf HE2_11 hx hZ 3 rfl i4 hw2 (g := (mkF m 122 #[oa u, oi pp, .val (.double sd), .second, oi nn, oi nm] [(.int nm), (.ref xp), (.ref u)])) rfl rfl (hb hby d4_122) _ ?_
  refine zC HE2_11 hx hZ hown hby hw zQ (own_E2_12 u pp sd nn nm w2) _ ?_
  refine stE2_13 _ ?_
  refine zC HE2_13 hx hZ hown hby hw zQ (own_E2_13 u pp sd nn nm) _ ?_
  exact q
theorem own_E3_10 (u : Addr) (pp : Int32) (sd : UInt64) (nn : Int32) (nm : Int32) (w1 : Int32) (hb112 : ifCond.holds .lt w1 = true) :
    zF zl ok7 112 #[oa u, oi pp, .val (.double sd), .second, oi nn, oi nm] [(.int w1)] 132 #[oa u, oi pp, .val (.double sd), .second, oi nn, oi nm] [(.ref u)] := by
  refine zx (pc' := 131) d4_112 hb112 (by decide) (by decide) ?_
  refine zJ (pc2 := 132) d4_131 rfl rfl rfl ?_
  exact zH
theorem own_E3_11 (u : Addr) (pp : Int32) (sd : UInt64) (nn : Int32) (nm : Int32) (cc : Int32) :
    zF zl ok7 135 #[oa u, oi pp, .val (.double sd), .second, oi nn, oi nm] [(.int cc)] 136 #[oa u, oi pp, .val (.double sd), .second, oi nn, oi nm] [(.ref u), (.int cc)] := by
  refine zJ (pc2 := 136) d4_135 rfl rfl rfl ?_
  exact zH
theorem own_E3_12 (u : Addr) (pp : Int32) (sd : UInt64) (nn : Int32) (nm : Int32) (kk : Int32) (cc : Int32) (hb139 : if_icmp.holds .ge cc kk = true) :
    zF zl ok7 139 #[oa u, oi pp, .val (.double sd), .second, oi nn, oi nm] [(.int kk), (.int cc)] 193 #[oa u, oi pp, .val (.double sd), .second, oi nn, oi nm] [(.ref u), (.double sd)] := by
  refine zAJ (pc' := 191) d4_139 hb139 (by decide) (by decide) ?_
  refine zBt (pc2 := 192) d4_191 rfl rfl ?_
  refine zJ (pc2 := 193) d4_192 rfl rfl rfl ?_
  exact zH
theorem own_E3_13 (u : Addr) (pp : Int32) (sd : UInt64) (nn : Int32) (nm : Int32) (xb : Addr) :
    zF zl ok7 196 #[oa u, oi pp, .val (.double sd), .second, oi nn, oi nm] [(.ref xb), (.double sd)] 197 #[oa u, oi pp, .val (.double sd), .second, oi nn, oi nm] [(.ref u), (.ref xb), (.double sd)] := by
  refine zJ (pc2 := 197) d4_196 rfl rfl rfl ?_
  exact zH
theorem own_E3_14 (u : Addr) (pp : Int32) (sd : UInt64) (nn : Int32) (nm : Int32) (xl : Addr) (xb : Addr) :
    zF zl ok7 200 #[oa u, oi pp, .val (.double sd), .second, oi nn, oi nm] [(.ref xl), (.ref xb), (.double sd)] 201 #[oa u, oi pp, .val (.double sd), .second, oi nn, oi nm] [(.int 0), (.ref xl), (.ref xb), (.double sd)] := by
  refine zT (v := 0) (pc2 := 201) d4_200 rfl rfl ?_
  exact zH
theorem own_E3_15 (u : Addr) (pp : Int32) (sd : UInt64) (nn : Int32) (nm : Int32) (w3 : UInt64) (v203 : Int32) (hv203 : (cmpValue (FP.dcmp sd w3) .g) = v203) (hb204 : ifCond.holds .ge v203 = false) :
    zF zl ok7 203 #[oa u, oi pp, .val (.double sd), .second, oi nn, oi nm] [(.double w3), (.double sd)] 208 #[oa u, oi pp, .val (.double sd), .second, oi nn, oi nm] [(.ref u)] := by
  refine zAD (pc2 := 204) d4_203 rfl (v := v203) hv203 ?_
  refine zy (pc2 := 207) d4_204 rfl hb204 ?_
  refine zJ (pc2 := 208) d4_207 rfl rfl rfl ?_
  exact zH
theorem own_E3_16 (u : Addr) (pp : Int32) (sd : UInt64) (nn : Int32) (nm : Int32) (xp : Addr) :
    zF zl ok7 211 #[oa u, oi pp, .val (.double sd), .second, oi nn, oi nm] [(.ref xp)] 212 #[oa u, oi pp, .val (.double sd), .second, oi nn, oi nm] [(.ref u), (.ref xp)] := by
  refine zJ (pc2 := 212) d4_211 rfl rfl rfl ?_
  exact zH
theorem own_E3_17 (u : Addr) (pp : Int32) (sd : UInt64) (nn : Int32) (nm : Int32) (xl : Addr) (xp : Addr) :
    zF zl ok7 215 #[oa u, oi pp, .val (.double sd), .second, oi nn, oi nm] [(.ref xl), (.ref xp)] 216 #[oa u, oi pp, .val (.double sd), .second, oi nn, oi nm] [(.int 0), (.ref xl), (.ref xp)] := by
  refine zT (v := 0) (pc2 := 216) d4_215 rfl rfl ?_
  exact zH
theorem own_E3_18 (u : Addr) (pp : Int32) (sd : UInt64) (nn : Int32) (nm : Int32) (w4 : Int32) (xp : Addr) :
    zF zl ok7 217 #[oa u, oi pp, .val (.double sd), .second, oi nn, oi nm] [(.int w4), (.ref xp)] 218 #[oa u, oi pp, .val (.double sd), .second, oi nn, oi nm] [(.int (-1 : Int32)), (.int w4), (.ref xp)] := by
  refine zT (v := -1) (pc2 := 218) d4_217 rfl rfl ?_
  exact zH
theorem own_E3_19 (u : Addr) (pp : Int32) (sd : UInt64) (nn : Int32) (nm : Int32) :
    zF zl ok7 219 #[oa u, oi pp, .val (.double sd), .second, oi nn, oi nm] [] 223 #[oa u, oi pp, .val (.double sd), .second, oi nn, oi nm] [(.int nm), (.int 0), (.ref u)] := by
  refine zJ (pc2 := 220) d4_219 rfl rfl rfl ?_
  refine zT (v := 0) (pc2 := 221) d4_220 rfl rfl ?_
  refine zn (pc2 := 223) d4_221 rfl rfl ?_
  exact zH
set_option maxRecDepth 65536 in
set_option maxHeartbeats 4000000 in
theorem own_ofE3 (l : Launch) (Z : State) (a0 : Array Value) (hb0 : zU) (hw : ∀ d ∈ tables_1, d.before a0 Z = true) (u : Addr) (pp : Int32) (sd : UInt64) (xb xl xp nu xt xs : Addr) (fb : Int32 → UInt64) (fl fa ft : Int32 → Int32) (kk cc nn : Int32) (fs : Int32 → Int32) (X M : Int32 → Int) (sv : Int) (N : zAA fb ft fs nn X M) (He : zw fl fa kk cc nn X) (hp4 : zG 4 pp) (hsd : zN sd ((sv : Int) : Rat)) (bsv : -2147483648 ≤ sv ∧ sv ≤ 2147483647) (hs : fs pp ≠ 0) (hl : sv < X (fs pp - 1)) (hck : cc = kk) (hm : fa (fs pp - 1) = -1) (hr : sv < X (fl 0)) :
    zX l Z a0 hb0 (⟨"com/example/tidewise/tidewise/search/UpperBounds", "offer", "(ID)V"⟩ : MethodName) ok7 6 none [] ({ frames := 3, cells := 0, slots := 0, locals := 80 } : Room) #[(.ref u), (.int pp), (.double sd)] [(u, oc1 (.ref xb) (.ref xl) (.ref xp) (.int kk) (.ref nu) (.int cc)), (xb, zA .double (zK fb)), (xl, zA .int (zE fl)), (xp, zA .int (zE fa)), (nu, oc2 (.int 4) (.ref xt) (.ref xs) (.int nn) .null (.int 0)), (xt, zA .int (zE ft)), (xs, zA .int [.int (fs (0 : Int32)), .int 0, .int 0, .int (fs (2 : Int32)), .int 0, .int 0, .int 0, .int 0, .int 0, .int (fs (1 : Int32)), .int 0, .int 0, .int 0, .int (fs (3 : Int32)), .int 0, .int 0])] (fun r cs' => ∃ (fb' : Int32 → UInt64) (fl' fa' ft' fs' : Int32 → Int32) (cc' nn' : Int32) (X' : Int32 → Int), zAA fb' ft' fs' nn' X' (zg M pp sv) ∧ zw fl' fa' kk cc' nn' X' ∧ r = none ∧ cs' = [(u, oc1 (.ref xb) (.ref xl) (.ref xp) (.int kk) (.ref nu) (.int cc')), (xb, zA .double (zK fb')), (xl, zA .int (zE fl')), (xp, zA .int (zE fa')), (nu, oc2 (.int 4) (.ref xt) (.ref xs) (.int nn') .null (.int 0)), (xt, zA .int (zE ft')), (xs, zA .int [.int (fs' (0 : Int32)), .int 0, .int 0, .int (fs' (2 : Int32)), .int 0, .int 0, .int 0, .int 0, .int 0, .int (fs' (1 : Int32)), .int 0, .int 0, .int 0, .int (fs' (3 : Int32)), .int 0, .int 0])]) := by
  refine zh (L0 := #[oa u, oi pp, .val (.double sd), .second, ou, ou]) (plainFor_of_name zBk) (fun m => zBm m u pp sd) ?_
  intro p e s m below meth c T0 hx hZ hown hby hml hnm H0
  obtain ⟨TE3_1, HE3_1, stE3_1⟩ := zI H0 hx hZ hown (zB hw 32 rfl) 0 4 rfl rfl (g := (mkF m 1 #[oa u, oi pp, .val (.double sd), .second, ou, ou] [(.ref u)])) rfl rfl (hb hby d4_1)
  obtain ⟨TE3_2, vE3_2_, csE3_2_, qE3_2, HE3_2, stE3_2⟩ := zAR HE3_1 hx hZ hown (zB hw 39 rfl) (zB hw 40 rfl) (zB hw 42 rfl) (zB hw 41 rfl) (zB hw 21 rfl) (zB hw 43 rfl) (by decide) (x := nu) 4 rfl (argsL := []) (rest := []) (W := 0) (zBp l Z a0 hb0 hw nu u xb xl xp xt xs fb fl fa ft kk cc nn _ _ _ _) (by decide) (by decide) (by decide) (by decide) (g := (mkF m 4 #[oa u, oi pp, .val (.double sd), .second, ou, ou] [(.ref nu)])) rfl (by rw [hml]; rfl) (lenOf zBl rfl) rfl (by show 2 * 0 + _ ≤ _; exact Nat.le_of_eq rfl) (hb hby d4_4)
  obtain ⟨rfl, rfl⟩ := qE3_2
  obtain ⟨TE3_3, HE3_3, stE3_3⟩ := zI HE3_2 hx hZ hown (zB hw 32 rfl) 0 4 rfl rfl (g := (mkF m 10 #[oa u, oi pp, .val (.double sd), .second, oi nn, ou] [(.ref u)])) rfl rfl (hb hby d4_10)
  have n4 := N.n4
  have k4 := He.k4
  have ck := He.ck
  have q := (N.num pp hp4).resolve_left (fun z => hs z.1)
  have m4 := zAT n4 q.2.1
  obtain ⟨TE3_4, vE3_4_, csE3_4_, qE3_4, HE3_4, stE3_4⟩ := zAR HE3_3 hx hZ hown (zB hw 46 rfl) (zB hw 47 rfl) (zB hw 49 rfl) (zB hw 48 rfl) (zB hw 21 rfl) (zB hw 50 rfl) (by decide) (x := nu) 4 rfl (argsL := [(.int pp)]) (rest := []) (W := 0) (zDJ l Z a0 hb0 hw nu pp u xb xl xp xt xs fb fl fa ft kk cc nn fs hp4 N.n4.2 hs m4 q.2.2.1) (by decide) (by decide) (by decide) (by decide) (g := (mkF m 14 #[oa u, oi pp, .val (.double sd), .second, oi nn, ou] [(.int pp), (.ref nu)])) rfl (by rw [hml]; rfl) (lenOf zAW rfl) rfl (by show 2 * 0 + _ ≤ _; exact Nat.le_of_eq rfl) (hb hby d4_14)
  obtain ⟨nm, enm, rfl, rfl⟩ := qE3_4
  rw [← enm] at q m4
  have i4 := m4
  have mi := q.2.1
  obtain ⟨TE3_5, HE3_5, stE3_5⟩ := zI HE3_4 hx hZ hown (zB hw 10 rfl) 0 0 rfl rfl (g := (mkF m 86 #[oa u, oi pp, .val (.double sd), .second, oi nn, oi nm] [(.ref u), (.double sd)])) rfl rfl (hb hby d4_86)
  obtain ⟨w0, hw0⟩ : ∃ z, fb nm = z := ⟨_, rfl⟩
  obtain ⟨v92, hv92⟩ : ∃ z : Int32, (cmpValue (FP.dcmp sd w0) .g) = z := ⟨_, rfl⟩
  have N' := zDj N hp4 hs enm hsd bsv
  have hl' : sv < X nm := by rw [enm]; exact hl
  have eM : zg M pp sv = zS M pp sv := zCA (by rw [q.2.2.2]; omega)
  have hbN : ∀ j, zG nn j → zN ((ze fb nm sd) j) (((zS X nm sv) j : Int) : Rat) := fun j hj => (N'.bnd j hj).1
  have hN4 : ∀ j, zG nn j → zG 4 j := fun j hj => zAT N'.n4 hj
  obtain ⟨TE3_7, HE3_7, stE3_7⟩ := zI HE3_5 hx hZ hown (zB hw 10 rfl) 0 0 rfl rfl (g := (mkF m 98 #[oa u, oi pp, .val (.double sd), .second, oi nn, oi nm] [(.ref u)])) rfl rfl (hb hby d4_98)
  obtain ⟨TE3_8, HE3_8, stE3_8⟩ := zBL HE3_7 hx hZ 1 rfl i4 (g := (mkF m 104 #[oa u, oi pp, .val (.double sd), .second, oi nn, oi nm] [(.double sd), (.int nm), (.ref xb)])) rfl rfl (hb hby d4_104)
  change zR _ _ _ _ _ _ _ _ _ _ _ _ _ _ [(u, oc1 (.ref xb) (.ref xl) (.ref xp) (.int kk) (.ref nu) (.int cc)), (xb, zA .double (zK (ze fb nm sd))), (xl, zA .int (zE fl)), (xp, zA .int (zE fa)), (nu, oc2 (.int 4) (.ref xt) (.ref xs) (.int nn) .null (.int 0)), (xt, zA .int (zE ft)), (xs, zA .int [.int (fs (0 : Int32)), .int 0, .int 0, .int (fs (2 : Int32)), .int 0, .int 0, .int 0, .int 0, .int 0, .int (fs (1 : Int32)), .int 0, .int 0, .int 0, .int (fs (3 : Int32)), .int 0, .int 0])] _ _ at HE3_8
  obtain ⟨TE3_9, HE3_9, stE3_9⟩ := zI HE3_8 hx hZ hown (zB hw 15 rfl) 0 2 rfl rfl (g := (mkF m 106 #[oa u, oi pp, .val (.double sd), .second, oi nn, oi nm] [(.ref u)])) rfl rfl (hb hby d4_106)
  obtain ⟨w1, hw1⟩ : ∃ z, fa nm = z := ⟨_, rfl⟩
  obtain ⟨TE3_11, HE3_11, stE3_11⟩ := zI HE3_9 hx hZ hown (zB hw 64 rfl) 0 5 rfl rfl (g := (mkF m 132 #[oa u, oi pp, .val (.double sd), .second, oi nn, oi nm] [(.ref u)])) rfl rfl (hb hby d4_132)
  obtain ⟨TE3_12, HE3_12, stE3_12⟩ := zI HE3_11 hx hZ hown (zB hw 17 rfl) 0 3 rfl rfl (g := (mkF m 136 #[oa u, oi pp, .val (.double sd), .second, oi nn, oi nm] [(.ref u), (.int cc)])) rfl rfl (hb hby d4_136)
  obtain ⟨TE3_13, HE3_13, stE3_13⟩ := zI HE3_12 hx hZ hown (zB hw 10 rfl) 0 0 rfl rfl (g := (mkF m 193 #[oa u, oi pp, .val (.double sd), .second, oi nn, oi nm] [(.ref u), (.double sd)])) rfl rfl (hb hby d4_193)
  obtain ⟨TE3_14, HE3_14, stE3_14⟩ := zI HE3_13 hx hZ hown (zB hw 13 rfl) 0 1 rfl rfl (g := (mkF m 197 #[oa u, oi pp, .val (.double sd), .second, oi nn, oi nm] [(.ref u), (.ref xb), (.double sd)])) rfl rfl (hb hby d4_197)
  obtain ⟨w2, hw2⟩ : ∃ z, fl (0 : Int32) = z := ⟨_, rfl⟩
  have c0_ : zG cc 0 := by rw [hck]; rw [zAM]; exact ⟨by decide, by have : (0 : Int32).toInt = 0 := rfl; omega⟩
  have mw2 : zG nn w2 := by rw [← hw2]; exact (He.h12.p1 0 c0_).1
  have iw2 := zAT n4 mw2
  obtain ⟨w3, hw3⟩ : ∃ z, (ze fb nm sd) w2 = z := ⟨_, rfl⟩
  obtain ⟨v203, hv203⟩ : ∃ z : Int32, (cmpValue (FP.dcmp sd w3) .g) = z := ⟨_, rfl⟩
  obtain ⟨TE3_17, HE3_17, stE3_17⟩ := zI HE3_14 hx hZ hown (zB hw 15 rfl) 0 2 rfl rfl (g := (mkF m 208 #[oa u, oi pp, .val (.double sd), .second, oi nn, oi nm] [(.ref u)])) rfl rfl (hb hby d4_208)
  obtain ⟨TE3_18, HE3_18, stE3_18⟩ := zI HE3_17 hx hZ hown (zB hw 13 rfl) 0 1 rfl rfl (g := (mkF m 212 #[oa u, oi pp, .val (.double sd), .second, oi nn, oi nm] [(.ref u), (.ref xp)])) rfl rfl (hb hby d4_212)
  obtain ⟨w4, hw4⟩ : ∃ z, fl (0 : Int32) = z := ⟨_, rfl⟩
  have c0_ : zG cc 0 := by rw [hck]; rw [zAM]; exact ⟨by decide, by have : (0 : Int32).toInt = 0 := rfl; omega⟩
  have mw4 : zG nn w4 := by rw [← hw4]; exact (He.h12.p1 0 c0_).1
  have iw4 := zAT n4 mw4
  obtain ⟨TE3_20, HE3_20, stE3_20⟩ := zAs HE3_18 hx hZ 3 rfl iw4 (g := (mkF m 218 #[oa u, oi pp, .val (.double sd), .second, oi nn, oi nm] [(.int (-1 : Int32)), (.int w4), (.ref xp)])) rfl rfl (hb hby d4_218)
  change zR _ _ _ _ _ _ _ _ _ _ _ _ _ _ [(u, oc1 (.ref xb) (.ref xl) (.ref xp) (.int kk) (.ref nu) (.int cc)), (xb, zA .double (zK (ze fb nm sd))), (xl, zA .int (zE fl)), (xp, zA .int (zE (zD fa w4 (-1 : Int32)))), (nu, oc2 (.int 4) (.ref xt) (.ref xs) (.int nn) .null (.int 0)), (xt, zA .int (zE ft)), (xs, zA .int [.int (fs (0 : Int32)), .int 0, .int 0, .int (fs (2 : Int32)), .int 0, .int 0, .int 0, .int 0, .int 0, .int (fs (1 : Int32)), .int 0, .int 0, .int 0, .int (fs (3 : Int32)), .int 0, .int 0])] _ _ at HE3_20
  have hmN : fa nm = -1 := by rw [enm]; exact hm
  have e12 : zY fa fl nn cc := He.h12
  have e4 : ∀ j, zG nn j → j ≠ nm → fa j = -1 → X (fl 0) ≤ X j := by
    intro j hj hne hf
    exact (He.h4 j hj hf).2
  obtain ⟨A1, A2, A3, A4, A5, A6⟩ := own_He_c (sv := sv) e12 He.h3 k4 hck e4 mi hmN (Int.le_of_lt hr)
  rw [hw4] at A2
  obtain ⟨TE3_21, vE3_21_, csE3_21_, qE3_21, HE3_21, stE3_21⟩ := zo HE3_20 hx hZ hown (zB hw 74 rfl) (zB hw 75 rfl) (zB hw 76 rfl) (zB hw 1 rfl) (zB hw 2 rfl) (zB hw 77 rfl) (by decide) (x := u) 0 rfl (argsL := [(.int 0), (.int nm)]) (rest := []) (W := 0) (zDn l Z a0 hb0 hw u (0 : Int32) nm xb xl xp nu xt xs (ze fb nm sd) fl (zD fa w4 (-1 : Int32)) ft kk cc nn fs (zS X nm sv) (zS X nm (X (fl 0))) A2 A3 A4 A5 hN4 hbN (by omega) A1) (by decide) (by decide) (by decide) (by decide) (g := (mkF m 223 #[oa u, oi pp, .val (.double sd), .second, oi nn, oi nm] [(.int nm), (.int 0), (.ref u)])) rfl (by rw [hml]; rfl) (lenOf zq rfl) rfl (by show 2 * 0 + _ ≤ _; exact Nat.le_of_eq rfl) (hb hby d4_223)
  obtain ⟨fl', fa', g1, g2, g3, g4, rfl, rfl⟩ := qE3_21
  have hb23 : if_icmp.holds .ne nm nn = true := by rw [zAQ]; exact decide_eq_true (fun z => by rw [z] at mi; exact zAp nn mi)
  have bw0 : zN w0 ((X nm : Int) : Rat) := by rw [← hw0]; exact (N.bnd nm mi).1
  have hb93 : ifCond.holds .lt v92 = true := by rw [← hv92, zAg hsd bw0]; exact decide_eq_true (zAP hl')
  have ew1 : w1 = -1 := by rw [← hw1]; exact hmN
  have hb112 : ifCond.holds .lt w1 = true := by rw [ew1]; decide
  have hb139 : if_icmp.holds .ge cc kk = true := by rw [zCH, hck]; exact decide_eq_true (Int.le_refl _)
  have nw2 : w2 ≠ nm := by
    rw [← hw2]
    exact zBz e12 c0_ hmN
  have bw3 : zN w3 ((X (fl 0) : Int) : Rat) := by
    rw [← hw3, hw2]
    have z := (N.bnd w2 mw2).1
    simpa [ze, nw2] using z
  have hb204 : ifCond.holds .ge v203 = false := by rw [← hv203, zCa hsd bw3]; exact decide_eq_false (Rat.not_le.mpr (zAP hr))
  refine ⟨_, _, _, _, 226, #[oa u, oi pp, .val (.double sd), .second, oi nn, oi nm], HE3_21, by decide, by decide, Or.inl ⟨rfl, ⟨(ze fb nm sd), fl', fa', ft, fs, cc, nn, (zS X nm sv), by rw [eM]; exact N', A6 fl' fa' g1 g2 g3 (by rw [hw4]; exact g4), rfl, rfl⟩, d4_226, fun target q => ?_⟩⟩
  refine zC H0 hx hZ hown hby hw zQ (zBq u pp sd) _ ?_
  refine stE3_1 _ ?_
  refine stE3_2 _ ?_
  refine zC HE3_2 hx hZ hown hby hw zQ (zBr u pp sd nn) _ ?_
  refine stE3_3 _ ?_
  refine zC HE3_3 hx hZ hown hby hw zQ (zBs u pp sd nn nu) _ ?_
  refine stE3_4 _ ?_
  refine zC HE3_4 hx hZ hown hby hw zQ (zDL u pp sd nn nm hb23) _ ?_
  refine stE3_5 _ ?_
  refine zC HE3_5 hx hZ hown hby hw zQ (zDM u pp sd nn nm xb) _ ?_
  refine zd HE3_5 hx hZ 1 rfl i4 hw0 (g := (mkF m 91 #[oa u, oi pp, .val (.double sd), .second, oi nn, oi nm] [(.int nm), (.ref xb), (.double sd)])) rfl rfl (hb hby d4_91) _ ?_
  refine zC HE3_5 hx hZ hown hby hw zQ (zDp u pp sd nn nm w0 v92 hv92 hb93) _ ?_
  refine zC HE3_5 hx hZ hown hby hw zQ (zDq u pp sd nn nm) _ ?_
  refine stE3_7 _ ?_
  refine zC HE3_7 hx hZ hown hby hw zQ (zDr u pp sd nn nm xb) _ ?_
  refine stE3_8 _ ?_
  refine zC HE3_8 hx hZ hown hby hw zQ (zDs u pp sd nn nm) _ ?_
  refine stE3_9 _ ?_
  refine zC HE3_9 hx hZ hown hby hw zQ (zDt u pp sd nn nm xp) _ ?_
  refine zf HE3_9 hx hZ 3 rfl i4 hw1 (g := (mkF m 111 #[oa u, oi pp, .val (.double sd), .second, oi nn, oi nm] [(.int nm), (.ref xp)])) rfl rfl (hb hby d4_111) _ ?_
  refine zC HE3_9 hx hZ hown hby hw zQ (own_E3_10 u pp sd nn nm w1 hb112) _ ?_
  refine stE3_11 _ ?_
  refine zC HE3_11 hx hZ hown hby hw zQ (own_E3_11 u pp sd nn nm cc) _ ?_
  refine stE3_12 _ ?_
  refine zC HE3_12 hx hZ hown hby hw zQ (own_E3_12 u pp sd nn nm kk cc hb139) _ ?_
  refine stE3_13 _ ?_
  refine zC HE3_13 hx hZ hown hby hw zQ (own_E3_13 u pp sd nn nm xb) _ ?_
  refine stE3_14 _ ?_
  refine zC HE3_14 hx hZ hown hby hw zQ (own_E3_14 u pp sd nn nm xl xb) _ ?_
  refine zf HE3_14 hx hZ 2 rfl ⟨by decide, by decide⟩ hw2 (g := (mkF m 201 #[oa u, oi pp, .val (.double sd), .second, oi nn, oi nm] [(.int 0), (.ref xl), (.ref xb), (.double sd)])) rfl rfl (hb hby d4_201) _ ?_
  refine zd HE3_14 hx hZ 1 rfl iw2 hw3 (g := (mkF m 202 #[oa u, oi pp, .val (.double sd), .second, oi nn, oi nm] [(.int w2), (.ref xb), (.double sd)])) rfl rfl (hb hby d4_202) _ ?_
  refine zC HE3_14 hx hZ hown hby hw zQ (own_E3_15 u pp sd nn nm w3 v203 hv203 hb204) _ ?_
  refine stE3_17 _ ?_
  refine zC HE3_17 hx hZ hown hby hw zQ (own_E3_16 u pp sd nn nm xp) _ ?_
  refine stE3_18 _ ?_
  refine zC HE3_18 hx hZ hown hby hw zQ (own_E3_17 u pp sd nn nm xl xp) _ ?_
  refine zf HE3_18 hx hZ 2 rfl ⟨by decide, by decide⟩ hw4 (g := (mkF m 216 #[oa u, oi pp, .val (.double sd), .second, oi nn, oi nm] [(.int 0), (.ref xl), (.ref xp)])) rfl rfl (hb hby d4_216) _ ?_
  refine zC HE3_18 hx hZ hown hby hw zQ (own_E3_18 u pp sd nn nm w4 xp) _ ?_
  refine stE3_20 _ ?_
  refine zC HE3_20 hx hZ hown hby hw zQ (own_E3_19 u pp sd nn nm) _ ?_
  refine stE3_21 _ ?_
  exact q
theorem own_E4_15 (u : Addr) (pp : Int32) (sd : UInt64) (nn : Int32) (nm : Int32) (w3 : UInt64) (v203 : Int32) (hv203 : (cmpValue (FP.dcmp sd w3) .g) = v203) (hb204 : ifCond.holds .ge v203 = true) :
    zF zl ok7 203 #[oa u, oi pp, .val (.double sd), .second, oi nn, oi nm] [(.double w3), (.double sd)] 226 #[oa u, oi pp, .val (.double sd), .second, oi nn, oi nm] [] := by
  refine zAD (pc2 := 204) d4_203 rfl (v := v203) hv203 ?_
  refine zx (pc' := 226) d4_204 hb204 (by decide) (by decide) ?_
  exact zH
set_option maxRecDepth 65536 in
set_option maxHeartbeats 4000000 in
theorem own_ofE4 (l : Launch) (Z : State) (a0 : Array Value) (hb0 : zU) (hw : ∀ d ∈ tables_1, d.before a0 Z = true) (u : Addr) (pp : Int32) (sd : UInt64) (xb xl xp nu xt xs : Addr) (fb : Int32 → UInt64) (fl fa ft : Int32 → Int32) (kk cc nn : Int32) (fs : Int32 → Int32) (X M : Int32 → Int) (sv : Int) (N : zAA fb ft fs nn X M) (He : zw fl fa kk cc nn X) (hp4 : zG 4 pp) (hsd : zN sd ((sv : Int) : Rat)) (bsv : -2147483648 ≤ sv ∧ sv ≤ 2147483647) (hs : fs pp ≠ 0) (hl : sv < X (fs pp - 1)) (hck : cc = kk) (hm : fa (fs pp - 1) = -1) (hr : X (fl 0) ≤ sv) :
    zX l Z a0 hb0 (⟨"com/example/tidewise/tidewise/search/UpperBounds", "offer", "(ID)V"⟩ : MethodName) ok7 6 none [] ({ frames := 3, cells := 0, slots := 0, locals := 80 } : Room) #[(.ref u), (.int pp), (.double sd)] [(u, oc1 (.ref xb) (.ref xl) (.ref xp) (.int kk) (.ref nu) (.int cc)), (xb, zA .double (zK fb)), (xl, zA .int (zE fl)), (xp, zA .int (zE fa)), (nu, oc2 (.int 4) (.ref xt) (.ref xs) (.int nn) .null (.int 0)), (xt, zA .int (zE ft)), (xs, zA .int [.int (fs (0 : Int32)), .int 0, .int 0, .int (fs (2 : Int32)), .int 0, .int 0, .int 0, .int 0, .int 0, .int (fs (1 : Int32)), .int 0, .int 0, .int 0, .int (fs (3 : Int32)), .int 0, .int 0])] (fun r cs' => ∃ (fb' : Int32 → UInt64) (fl' fa' ft' fs' : Int32 → Int32) (cc' nn' : Int32) (X' : Int32 → Int), zAA fb' ft' fs' nn' X' (zg M pp sv) ∧ zw fl' fa' kk cc' nn' X' ∧ r = none ∧ cs' = [(u, oc1 (.ref xb) (.ref xl) (.ref xp) (.int kk) (.ref nu) (.int cc')), (xb, zA .double (zK fb')), (xl, zA .int (zE fl')), (xp, zA .int (zE fa')), (nu, oc2 (.int 4) (.ref xt) (.ref xs) (.int nn') .null (.int 0)), (xt, zA .int (zE ft')), (xs, zA .int [.int (fs' (0 : Int32)), .int 0, .int 0, .int (fs' (2 : Int32)), .int 0, .int 0, .int 0, .int 0, .int 0, .int (fs' (1 : Int32)), .int 0, .int 0, .int 0, .int (fs' (3 : Int32)), .int 0, .int 0])]) := by
  refine zh (L0 := #[oa u, oi pp, .val (.double sd), .second, ou, ou]) (plainFor_of_name zBk) (fun m => zBm m u pp sd) ?_
  intro p e s m below meth c T0 hx hZ hown hby hml hnm H0
  obtain ⟨TE4_1, HE4_1, stE4_1⟩ := zI H0 hx hZ hown (zB hw 32 rfl) 0 4 rfl rfl (g := (mkF m 1 #[oa u, oi pp, .val (.double sd), .second, ou, ou] [(.ref u)])) rfl rfl (hb hby d4_1)
  obtain ⟨TE4_2, vE4_2_, csE4_2_, qE4_2, HE4_2, stE4_2⟩ := zAR HE4_1 hx hZ hown (zB hw 39 rfl) (zB hw 40 rfl) (zB hw 42 rfl) (zB hw 41 rfl) (zB hw 21 rfl) (zB hw 43 rfl) (by decide) (x := nu) 4 rfl (argsL := []) (rest := []) (W := 0) (zBp l Z a0 hb0 hw nu u xb xl xp xt xs fb fl fa ft kk cc nn _ _ _ _) (by decide) (by decide) (by decide) (by decide) (g := (mkF m 4 #[oa u, oi pp, .val (.double sd), .second, ou, ou] [(.ref nu)])) rfl (by rw [hml]; rfl) (lenOf zBl rfl) rfl (by show 2 * 0 + _ ≤ _; exact Nat.le_of_eq rfl) (hb hby d4_4)
  obtain ⟨rfl, rfl⟩ := qE4_2
  obtain ⟨TE4_3, HE4_3, stE4_3⟩ := zI HE4_2 hx hZ hown (zB hw 32 rfl) 0 4 rfl rfl (g := (mkF m 10 #[oa u, oi pp, .val (.double sd), .second, oi nn, ou] [(.ref u)])) rfl rfl (hb hby d4_10)
  have n4 := N.n4
  have k4 := He.k4
  have ck := He.ck
  have q := (N.num pp hp4).resolve_left (fun z => hs z.1)
  have m4 := zAT n4 q.2.1
  obtain ⟨TE4_4, vE4_4_, csE4_4_, qE4_4, HE4_4, stE4_4⟩ := zAR HE4_3 hx hZ hown (zB hw 46 rfl) (zB hw 47 rfl) (zB hw 49 rfl) (zB hw 48 rfl) (zB hw 21 rfl) (zB hw 50 rfl) (by decide) (x := nu) 4 rfl (argsL := [(.int pp)]) (rest := []) (W := 0) (zDJ l Z a0 hb0 hw nu pp u xb xl xp xt xs fb fl fa ft kk cc nn fs hp4 N.n4.2 hs m4 q.2.2.1) (by decide) (by decide) (by decide) (by decide) (g := (mkF m 14 #[oa u, oi pp, .val (.double sd), .second, oi nn, ou] [(.int pp), (.ref nu)])) rfl (by rw [hml]; rfl) (lenOf zAW rfl) rfl (by show 2 * 0 + _ ≤ _; exact Nat.le_of_eq rfl) (hb hby d4_14)
  obtain ⟨nm, enm, rfl, rfl⟩ := qE4_4
  rw [← enm] at q m4
  have i4 := m4
  have mi := q.2.1
  obtain ⟨TE4_5, HE4_5, stE4_5⟩ := zI HE4_4 hx hZ hown (zB hw 10 rfl) 0 0 rfl rfl (g := (mkF m 86 #[oa u, oi pp, .val (.double sd), .second, oi nn, oi nm] [(.ref u), (.double sd)])) rfl rfl (hb hby d4_86)
  obtain ⟨w0, hw0⟩ : ∃ z, fb nm = z := ⟨_, rfl⟩
  obtain ⟨v92, hv92⟩ : ∃ z : Int32, (cmpValue (FP.dcmp sd w0) .g) = z := ⟨_, rfl⟩
  have N' := zDj N hp4 hs enm hsd bsv
  have hl' : sv < X nm := by rw [enm]; exact hl
  have eM : zg M pp sv = zS M pp sv := zCA (by rw [q.2.2.2]; omega)
  have hbN : ∀ j, zG nn j → zN ((ze fb nm sd) j) (((zS X nm sv) j : Int) : Rat) := fun j hj => (N'.bnd j hj).1
  have hN4 : ∀ j, zG nn j → zG 4 j := fun j hj => zAT N'.n4 hj
  obtain ⟨TE4_7, HE4_7, stE4_7⟩ := zI HE4_5 hx hZ hown (zB hw 10 rfl) 0 0 rfl rfl (g := (mkF m 98 #[oa u, oi pp, .val (.double sd), .second, oi nn, oi nm] [(.ref u)])) rfl rfl (hb hby d4_98)
  obtain ⟨TE4_8, HE4_8, stE4_8⟩ := zBL HE4_7 hx hZ 1 rfl i4 (g := (mkF m 104 #[oa u, oi pp, .val (.double sd), .second, oi nn, oi nm] [(.double sd), (.int nm), (.ref xb)])) rfl rfl (hb hby d4_104)
  change zR _ _ _ _ _ _ _ _ _ _ _ _ _ _ [(u, oc1 (.ref xb) (.ref xl) (.ref xp) (.int kk) (.ref nu) (.int cc)), (xb, zA .double (zK (ze fb nm sd))), (xl, zA .int (zE fl)), (xp, zA .int (zE fa)), (nu, oc2 (.int 4) (.ref xt) (.ref xs) (.int nn) .null (.int 0)), (xt, zA .int (zE ft)), (xs, zA .int [.int (fs (0 : Int32)), .int 0, .int 0, .int (fs (2 : Int32)), .int 0, .int 0, .int 0, .int 0, .int 0, .int (fs (1 : Int32)), .int 0, .int 0, .int 0, .int (fs (3 : Int32)), .int 0, .int 0])] _ _ at HE4_8
  obtain ⟨TE4_9, HE4_9, stE4_9⟩ := zI HE4_8 hx hZ hown (zB hw 15 rfl) 0 2 rfl rfl (g := (mkF m 106 #[oa u, oi pp, .val (.double sd), .second, oi nn, oi nm] [(.ref u)])) rfl rfl (hb hby d4_106)
  obtain ⟨w1, hw1⟩ : ∃ z, fa nm = z := ⟨_, rfl⟩
  obtain ⟨TE4_11, HE4_11, stE4_11⟩ := zI HE4_9 hx hZ hown (zB hw 64 rfl) 0 5 rfl rfl (g := (mkF m 132 #[oa u, oi pp, .val (.double sd), .second, oi nn, oi nm] [(.ref u)])) rfl rfl (hb hby d4_132)
  obtain ⟨TE4_12, HE4_12, stE4_12⟩ := zI HE4_11 hx hZ hown (zB hw 17 rfl) 0 3 rfl rfl (g := (mkF m 136 #[oa u, oi pp, .val (.double sd), .second, oi nn, oi nm] [(.ref u), (.int cc)])) rfl rfl (hb hby d4_136)
  obtain ⟨TE4_13, HE4_13, stE4_13⟩ := zI HE4_12 hx hZ hown (zB hw 10 rfl) 0 0 rfl rfl (g := (mkF m 193 #[oa u, oi pp, .val (.double sd), .second, oi nn, oi nm] [(.ref u), (.double sd)])) rfl rfl (hb hby d4_193)
  obtain ⟨TE4_14, HE4_14, stE4_14⟩ := zI HE4_13 hx hZ hown (zB hw 13 rfl) 0 1 rfl rfl (g := (mkF m 197 #[oa u, oi pp, .val (.double sd), .second, oi nn, oi nm] [(.ref u), (.ref xb), (.double sd)])) rfl rfl (hb hby d4_197)
  obtain ⟨w2, hw2⟩ : ∃ z, fl (0 : Int32) = z := ⟨_, rfl⟩
  have c0_ : zG cc 0 := by rw [hck]; rw [zAM]; exact ⟨by decide, by have : (0 : Int32).toInt = 0 := rfl; omega⟩
  have mw2 : zG nn w2 := by rw [← hw2]; exact (He.h12.p1 0 c0_).1
  have iw2 := zAT n4 mw2
  obtain ⟨w3, hw3⟩ : ∃ z, (ze fb nm sd) w2 = z := ⟨_, rfl⟩
  obtain ⟨v203, hv203⟩ : ∃ z : Int32, (cmpValue (FP.dcmp sd w3) .g) = z := ⟨_, rfl⟩
  have hb23 : if_icmp.holds .ne nm nn = true := by rw [zAQ]; exact decide_eq_true (fun z => by rw [z] at mi; exact zAp nn mi)
  have bw0 : zN w0 ((X nm : Int) : Rat) := by rw [← hw0]; exact (N.bnd nm mi).1
  have hb93 : ifCond.holds .lt v92 = true := by rw [← hv92, zAg hsd bw0]; exact decide_eq_true (zAP hl')
  have hmN : fa nm = -1 := by rw [enm]; exact hm
  have e12 : zY fa fl nn cc := He.h12
  have e4 : ∀ j, zG nn j → j ≠ nm → fa j = -1 → X (fl 0) ≤ X j := by
    intro j hj hne hf
    exact (He.h4 j hj hf).2
  have ew1 : w1 = -1 := by rw [← hw1]; exact hmN
  have hb112 : ifCond.holds .lt w1 = true := by rw [ew1]; decide
  have hb139 : if_icmp.holds .ge cc kk = true := by rw [zCH, hck]; exact decide_eq_true (Int.le_refl _)
  have nw2 : w2 ≠ nm := by
    rw [← hw2]
    exact zBz e12 c0_ hmN
  have bw3 : zN w3 ((X (fl 0) : Int) : Rat) := by
    rw [← hw3, hw2]
    have z := (N.bnd w2 mw2).1
    simpa [ze, nw2] using z
  have hb204 : ifCond.holds .ge v203 = true := by rw [← hv203, zCa hsd bw3]; exact decide_eq_true (zAS hr)
  refine ⟨_, _, _, _, 226, #[oa u, oi pp, .val (.double sd), .second, oi nn, oi nm], HE4_14, by decide, by decide, Or.inl ⟨rfl, ⟨(ze fb nm sd), fl, fa, ft, fs, cc, nn, (zS X nm sv), by rw [eM]; exact N', own_He_o e12 He.h3 k4 hck e4 hmN hr, rfl, rfl⟩, d4_226, fun target q => ?_⟩⟩
  refine zC H0 hx hZ hown hby hw zQ (zBq u pp sd) _ ?_
  refine stE4_1 _ ?_
  refine stE4_2 _ ?_
  refine zC HE4_2 hx hZ hown hby hw zQ (zBr u pp sd nn) _ ?_
  refine stE4_3 _ ?_
  refine zC HE4_3 hx hZ hown hby hw zQ (zBs u pp sd nn nu) _ ?_
  refine stE4_4 _ ?_
  refine zC HE4_4 hx hZ hown hby hw zQ (zDL u pp sd nn nm hb23) _ ?_
  refine stE4_5 _ ?_
  refine zC HE4_5 hx hZ hown hby hw zQ (zDM u pp sd nn nm xb) _ ?_
  refine zd HE4_5 hx hZ 1 rfl i4 hw0 (g := (mkF m 91 #[oa u, oi pp, .val (.double sd), .second, oi nn, oi nm] [(.int nm), (.ref xb), (.double sd)])) rfl rfl (hb hby d4_91) _ ?_
  refine zC HE4_5 hx hZ hown hby hw zQ (zDp u pp sd nn nm w0 v92 hv92 hb93) _ ?_
  refine zC HE4_5 hx hZ hown hby hw zQ (zDq u pp sd nn nm) _ ?_
  refine stE4_7 _ ?_
  refine zC HE4_7 hx hZ hown hby hw zQ (zDr u pp sd nn nm xb) _ ?_
  refine stE4_8 _ ?_
  refine zC HE4_8 hx hZ hown hby hw zQ (zDs u pp sd nn nm) _ ?_
  refine stE4_9 _ ?_
  refine zC HE4_9 hx hZ hown hby hw zQ (zDt u pp sd nn nm xp) _ ?_
  refine zf HE4_9 hx hZ 3 rfl i4 hw1 (g := (mkF m 111 #[oa u, oi pp, .val (.double sd), .second, oi nn, oi nm] [(.int nm), (.ref xp)])) rfl rfl (hb hby d4_111) _ ?_
  refine zC HE4_9 hx hZ hown hby hw zQ (own_E3_10 u pp sd nn nm w1 hb112) _ ?_
  refine stE4_11 _ ?_
  refine zC HE4_11 hx hZ hown hby hw zQ (own_E3_11 u pp sd nn nm cc) _ ?_
  refine stE4_12 _ ?_
  refine zC HE4_12 hx hZ hown hby hw zQ (own_E3_12 u pp sd nn nm kk cc hb139) _ ?_
  refine stE4_13 _ ?_
  refine zC HE4_13 hx hZ hown hby hw zQ (own_E3_13 u pp sd nn nm xb) _ ?_
  refine stE4_14 _ ?_
  refine zC HE4_14 hx hZ hown hby hw zQ (own_E3_14 u pp sd nn nm xl xb) _ ?_
  refine zf HE4_14 hx hZ 2 rfl ⟨by decide, by decide⟩ hw2 (g := (mkF m 201 #[oa u, oi pp, .val (.double sd), .second, oi nn, oi nm] [(.int 0), (.ref xl), (.ref xb), (.double sd)])) rfl rfl (hb hby d4_201) _ ?_
  refine zd HE4_14 hx hZ 1 rfl iw2 hw3 (g := (mkF m 202 #[oa u, oi pp, .val (.double sd), .second, oi nn, oi nm] [(.int w2), (.ref xb), (.double sd)])) rfl rfl (hb hby d4_202) _ ?_
  refine zC HE4_14 hx hZ hown hby hw zQ (own_E4_15 u pp sd nn nm w3 v203 hv203 hb204) _ ?_
  exact q
theorem zDu (u : Addr) (pp : Int32) (sd : UInt64) (nn : Int32) (hb23 : if_icmp.holds .ne nn nn = false) :
    zF zl ok7 17 #[oa u, oi pp, .val (.double sd), .second, oi nn, ou] [(.int nn)] 29 #[oa u, oi pp, .val (.double sd), .second, oi nn, oi nn] [(.ref u), (.int nn)] := by
  refine zBJ (pc2 := 19) d4_17 rfl (L' := #[oa u, oi pp, .val (.double sd), .second, oi nn, oi nn]) rfl ?_
  refine zn (pc2 := 21) d4_19 rfl rfl ?_
  refine zn (pc2 := 23) d4_21 rfl rfl ?_
  refine zAw (pc2 := 26) d4_23 rfl hb23 ?_
  refine zn (pc2 := 28) d4_26 rfl rfl ?_
  refine zJ (pc2 := 29) d4_28 rfl rfl rfl ?_
  exact zH
theorem zDv (u : Addr) (pp : Int32) (sd : UInt64) (nn : Int32) (hb33 : if_icmp.holds .ne nn (8 : Int32) = true) :
    zF zl ok7 33 #[oa u, oi pp, .val (.double sd), .second, oi nn, oi nn] [(.int 8), (.int nn)] 67 #[oa u, oi pp, .val (.double sd), .second, oi nn, oi nn] [(.ref u)] := by
  refine zAJ (pc' := 66) d4_33 hb33 (by decide) (by decide) ?_
  refine zJ (pc2 := 67) d4_66 rfl rfl rfl ?_
  exact zH
theorem zDw (u : Addr) (pp : Int32) (sd : UInt64) (nn : Int32) (xb : Addr) :
    zF zl ok7 70 #[oa u, oi pp, .val (.double sd), .second, oi nn, oi nn] [(.ref xb)] 75 #[oa u, oi pp, .val (.double sd), .second, oi nn, oi nn] [(.double 9218868437227405312), (.int nn), (.ref xb)] := by
  refine zn (pc2 := 72) d4_70 rfl rfl ?_
  refine zDT (v := (9218868437227405312 : UInt64)) (pc2 := 75) d4_72 rfl (List.mem_of_getElem? (i := 0) rfl) ?_
  exact zH
theorem zDx (u : Addr) (pp : Int32) (sd : UInt64) (nn : Int32) :
    zF zl ok7 76 #[oa u, oi pp, .val (.double sd), .second, oi nn, oi nn] [] 77 #[oa u, oi pp, .val (.double sd), .second, oi nn, oi nn] [(.ref u)] := by
  refine zJ (pc2 := 77) d4_76 rfl rfl rfl ?_
  exact zH
theorem zDy (u : Addr) (pp : Int32) (sd : UInt64) (nn : Int32) (xp : Addr) :
    zF zl ok7 80 #[oa u, oi pp, .val (.double sd), .second, oi nn, oi nn] [(.ref xp)] 83 #[oa u, oi pp, .val (.double sd), .second, oi nn, oi nn] [(.int (-1 : Int32)), (.int nn), (.ref xp)] := by
  refine zn (pc2 := 82) d4_80 rfl rfl ?_
  refine zT (v := -1) (pc2 := 83) d4_82 rfl rfl ?_
  exact zH
theorem zDz (u : Addr) (pp : Int32) (sd : UInt64) (nn : Int32) :
    zF zl ok7 84 #[oa u, oi pp, .val (.double sd), .second, oi nn, oi nn] [] 86 #[oa u, oi pp, .val (.double sd), .second, oi nn, oi nn] [(.ref u), (.double sd)] := by
  refine zBt (pc2 := 85) d4_84 rfl rfl ?_
  refine zJ (pc2 := 86) d4_85 rfl rfl rfl ?_
  exact zH
theorem zEA (u : Addr) (pp : Int32) (sd : UInt64) (nn : Int32) (xb : Addr) :
    zF zl ok7 89 #[oa u, oi pp, .val (.double sd), .second, oi nn, oi nn] [(.ref xb), (.double sd)] 91 #[oa u, oi pp, .val (.double sd), .second, oi nn, oi nn] [(.int nn), (.ref xb), (.double sd)] := by
  refine zn (pc2 := 91) d4_89 rfl rfl ?_
  exact zH
theorem zEB (u : Addr) (pp : Int32) (sd : UInt64) (nn : Int32) (w0 : UInt64) (v92 : Int32) (hv92 : (cmpValue (FP.dcmp sd w0) .g) = v92) (hb93 : ifCond.holds .lt v92 = true) :
    zF zl ok7 92 #[oa u, oi pp, .val (.double sd), .second, oi nn, oi nn] [(.double w0), (.double sd)] 97 #[oa u, oi pp, .val (.double sd), .second, oi nn, oi nn] [] := by
  refine zAD (pc2 := 93) d4_92 rfl (v := v92) hv92 ?_
  refine zx (pc' := 97) d4_93 hb93 (by decide) (by decide) ?_
  exact zH
theorem zEC (u : Addr) (pp : Int32) (sd : UInt64) (nn : Int32) :
    zF zl ok7 97 #[oa u, oi pp, .val (.double sd), .second, oi nn, oi nn] [] 98 #[oa u, oi pp, .val (.double sd), .second, oi nn, oi nn] [(.ref u)] := by
  refine zJ (pc2 := 98) d4_97 rfl rfl rfl ?_
  exact zH
theorem zED (u : Addr) (pp : Int32) (sd : UInt64) (nn : Int32) (xb : Addr) :
    zF zl ok7 101 #[oa u, oi pp, .val (.double sd), .second, oi nn, oi nn] [(.ref xb)] 104 #[oa u, oi pp, .val (.double sd), .second, oi nn, oi nn] [(.double sd), (.int nn), (.ref xb)] := by
  refine zn (pc2 := 103) d4_101 rfl rfl ?_
  refine zBt (pc2 := 104) d4_103 rfl rfl ?_
  exact zH
theorem zEE (u : Addr) (pp : Int32) (sd : UInt64) (nn : Int32) :
    zF zl ok7 105 #[oa u, oi pp, .val (.double sd), .second, oi nn, oi nn] [] 106 #[oa u, oi pp, .val (.double sd), .second, oi nn, oi nn] [(.ref u)] := by
  refine zJ (pc2 := 106) d4_105 rfl rfl rfl ?_
  exact zH
theorem zEF (u : Addr) (pp : Int32) (sd : UInt64) (nn : Int32) (xp : Addr) :
    zF zl ok7 109 #[oa u, oi pp, .val (.double sd), .second, oi nn, oi nn] [(.ref xp)] 111 #[oa u, oi pp, .val (.double sd), .second, oi nn, oi nn] [(.int nn), (.ref xp)] := by
  refine zn (pc2 := 111) d4_109 rfl rfl ?_
  exact zH
theorem zEG (u : Addr) (pp : Int32) (sd : UInt64) (nn : Int32) (w1 : Int32) (hb112 : ifCond.holds .lt w1 = true) :
    zF zl ok7 112 #[oa u, oi pp, .val (.double sd), .second, oi nn, oi nn] [(.int w1)] 132 #[oa u, oi pp, .val (.double sd), .second, oi nn, oi nn] [(.ref u)] := by
  refine zx (pc' := 131) d4_112 hb112 (by decide) (by decide) ?_
  refine zJ (pc2 := 132) d4_131 rfl rfl rfl ?_
  exact zH
theorem zEH (u : Addr) (pp : Int32) (sd : UInt64) (nn : Int32) (cc : Int32) :
    zF zl ok7 135 #[oa u, oi pp, .val (.double sd), .second, oi nn, oi nn] [(.int cc)] 136 #[oa u, oi pp, .val (.double sd), .second, oi nn, oi nn] [(.ref u), (.int cc)] := by
  refine zJ (pc2 := 136) d4_135 rfl rfl rfl ?_
  exact zH
theorem own_N5_17 (u : Addr) (pp : Int32) (sd : UInt64) (nn : Int32) (kk : Int32) (cc : Int32) (hb139 : if_icmp.holds .ge cc kk = false) :
    zF zl ok7 139 #[oa u, oi pp, .val (.double sd), .second, oi nn, oi nn] [(.int kk), (.int cc)] 143 #[oa u, oi pp, .val (.double sd), .second, oi nn, oi nn] [(.ref u)] := by
  refine zAw (pc2 := 142) d4_139 rfl hb139 ?_
  refine zJ (pc2 := 143) d4_142 rfl rfl rfl ?_
  exact zH
theorem own_N5_18 (u : Addr) (pp : Int32) (sd : UInt64) (nn : Int32) (cc : Int32) :
    zF zl ok7 146 #[oa u, oi pp, .val (.double sd), .second, oi nn, oi nn] [(.int cc)] 147 #[oa u, oi pp, .val (.double sd), .second, oi nn, oi nn] [(.ref u), (.int cc)] := by
  refine zJ (pc2 := 147) d4_146 rfl rfl rfl ?_
  exact zH
theorem own_N5_19 (u : Addr) (pp : Int32) (sd : UInt64) (nn : Int32) (cc : Int32) (hb151 : if_icmp.holds .ne cc (8 : Int32) = true) :
    zF zl ok7 151 #[oa u, oi pp, .val (.double sd), .second, oi nn, oi nn] [(.int 8), (.int cc)] 174 #[oa u, oi pp, .val (.double sd), .second, oi nn, oi nn] [(.ref u), (.ref u), (.ref u)] := by
  refine zAJ (pc' := 171) d4_151 hb151 (by decide) (by decide) ?_
  refine zJ (pc2 := 172) d4_171 rfl rfl rfl ?_
  refine zJ (pc2 := 173) d4_172 rfl rfl rfl ?_
  refine zBh (pc2 := 174) d4_173 rfl rfl ?_
  exact zH
theorem own_N5_20 (u : Addr) (pp : Int32) (sd : UInt64) (nn : Int32) (cc : Int32) (v179 : Int32) (hv179 : (cc + (1 : Int32)) = v179) :
    zF zl ok7 177 #[oa u, oi pp, .val (.double sd), .second, oi nn, oi nn] [(.int cc), (.ref u), (.ref u)] 180 #[oa u, oi pp, .val (.double sd), .second, oi nn, oi nn] [(.int v179), (.ref u), (.int cc), (.ref u)] := by
  refine zCK (pc2 := 178) d4_177 rfl rfl rfl ?_
  refine zT (v := 1) (pc2 := 179) d4_178 rfl rfl ?_
  refine zAI (pc2 := 180) d4_179 rfl (v := v179) hv179 ?_
  exact zH
theorem own_N5_21 (u : Addr) (pp : Int32) (sd : UInt64) (nn : Int32) (cc : Int32) :
    zF zl ok7 183 #[oa u, oi pp, .val (.double sd), .second, oi nn, oi nn] [(.int cc), (.ref u)] 185 #[oa u, oi pp, .val (.double sd), .second, oi nn, oi nn] [(.int nn), (.int cc), (.ref u)] := by
  refine zn (pc2 := 185) d4_183 rfl rfl ?_
  exact zH
theorem own_N5_22 (u : Addr) (pp : Int32) (sd : UInt64) (nn : Int32) :
    zF zl ok7 188 #[oa u, oi pp, .val (.double sd), .second, oi nn, oi nn] [] 226 #[oa u, oi pp, .val (.double sd), .second, oi nn, oi nn] [] := by
  refine zAN (pc' := 226) d4_188 (by decide) (by decide) ?_
  exact zH
set_option maxRecDepth 65536 in
set_option maxHeartbeats 4000000 in
theorem own_ofN5 (l : Launch) (Z : State) (a0 : Array Value) (hb0 : zU) (hw : ∀ d ∈ tables_1, d.before a0 Z = true) (u : Addr) (pp : Int32) (sd : UInt64) (xb xl xp nu xt xs : Addr) (fb : Int32 → UInt64) (fl fa ft : Int32 → Int32) (kk cc nn : Int32) (fs : Int32 → Int32) (X M : Int32 → Int) (sv : Int) (N : zAA fb ft fs nn X M) (He : zw fl fa kk cc nn X) (hp4 : zG 4 pp) (hsd : zN sd ((sv : Int) : Rat)) (bsv : -2147483648 ≤ sv ∧ sv ≤ 2147483647) (hs : fs pp = 0) (hck : cc.toInt < kk.toInt) :
    zX l Z a0 hb0 (⟨"com/example/tidewise/tidewise/search/UpperBounds", "offer", "(ID)V"⟩ : MethodName) ok7 6 none [] ({ frames := 3, cells := 0, slots := 0, locals := 80 } : Room) #[(.ref u), (.int pp), (.double sd)] [(u, oc1 (.ref xb) (.ref xl) (.ref xp) (.int kk) (.ref nu) (.int cc)), (xb, zA .double (zK fb)), (xl, zA .int (zE fl)), (xp, zA .int (zE fa)), (nu, oc2 (.int 4) (.ref xt) (.ref xs) (.int nn) .null (.int 0)), (xt, zA .int (zE ft)), (xs, zA .int [.int (fs (0 : Int32)), .int 0, .int 0, .int (fs (2 : Int32)), .int 0, .int 0, .int 0, .int 0, .int 0, .int (fs (1 : Int32)), .int 0, .int 0, .int 0, .int (fs (3 : Int32)), .int 0, .int 0])] (fun r cs' => ∃ (fb' : Int32 → UInt64) (fl' fa' ft' fs' : Int32 → Int32) (cc' nn' : Int32) (X' : Int32 → Int), zAA fb' ft' fs' nn' X' (zg M pp sv) ∧ zw fl' fa' kk cc' nn' X' ∧ r = none ∧ cs' = [(u, oc1 (.ref xb) (.ref xl) (.ref xp) (.int kk) (.ref nu) (.int cc')), (xb, zA .double (zK fb')), (xl, zA .int (zE fl')), (xp, zA .int (zE fa')), (nu, oc2 (.int 4) (.ref xt) (.ref xs) (.int nn') .null (.int 0)), (xt, zA .int (zE ft')), (xs, zA .int [.int (fs' (0 : Int32)), .int 0, .int 0, .int (fs' (2 : Int32)), .int 0, .int 0, .int 0, .int 0, .int 0, .int (fs' (1 : Int32)), .int 0, .int 0, .int 0, .int (fs' (3 : Int32)), .int 0, .int 0])]) := by
  refine zh (L0 := #[oa u, oi pp, .val (.double sd), .second, ou, ou]) (plainFor_of_name zBk) (fun m => zBm m u pp sd) ?_
  intro p e s m below meth c T0 hx hZ hown hby hml hnm H0
  obtain ⟨TN5_1, HN5_1, stN5_1⟩ := zI H0 hx hZ hown (zB hw 32 rfl) 0 4 rfl rfl (g := (mkF m 1 #[oa u, oi pp, .val (.double sd), .second, ou, ou] [(.ref u)])) rfl rfl (hb hby d4_1)
  obtain ⟨TN5_2, vN5_2_, csN5_2_, qN5_2, HN5_2, stN5_2⟩ := zAR HN5_1 hx hZ hown (zB hw 39 rfl) (zB hw 40 rfl) (zB hw 42 rfl) (zB hw 41 rfl) (zB hw 21 rfl) (zB hw 43 rfl) (by decide) (x := nu) 4 rfl (argsL := []) (rest := []) (W := 0) (zBp l Z a0 hb0 hw nu u xb xl xp xt xs fb fl fa ft kk cc nn _ _ _ _) (by decide) (by decide) (by decide) (by decide) (g := (mkF m 4 #[oa u, oi pp, .val (.double sd), .second, ou, ou] [(.ref nu)])) rfl (by rw [hml]; rfl) (lenOf zBl rfl) rfl (by show 2 * 0 + _ ≤ _; exact Nat.le_of_eq rfl) (hb hby d4_4)
  obtain ⟨rfl, rfl⟩ := qN5_2
  obtain ⟨TN5_3, HN5_3, stN5_3⟩ := zI HN5_2 hx hZ hown (zB hw 32 rfl) 0 4 rfl rfl (g := (mkF m 10 #[oa u, oi pp, .val (.double sd), .second, oi nn, ou] [(.ref u)])) rfl rfl (hb hby d4_10)
  have n4 := N.n4
  have k4 := He.k4
  have ck := He.ck
  have h4 := zDK N hp4 hs
  obtain ⟨TN5_4, vN5_4_, csN5_4_, qN5_4, HN5_4, stN5_4⟩ := zAR HN5_3 hx hZ hown (zB hw 46 rfl) (zB hw 47 rfl) (zB hw 49 rfl) (zB hw 48 rfl) (zB hw 21 rfl) (zB hw 50 rfl) (by decide) (x := nu) 4 rfl (argsL := [(.int pp)]) (rest := []) (W := 0) (zDh l Z a0 hb0 hw nu pp u xb xl xp xt xs fb fl fa ft kk cc nn fs hp4 N.n4.2 hs h4) (by decide) (by decide) (by decide) (by decide) (g := (mkF m 14 #[oa u, oi pp, .val (.double sd), .second, oi nn, ou] [(.int pp), (.ref nu)])) rfl (by rw [hml]; rfl) (lenOf zAW rfl) rfl (by show 2 * 0 + _ ≤ _; exact Nat.le_of_eq rfl) (hb hby d4_14)
  obtain ⟨rfl, rfl⟩ := qN5_4
  have N' := zDk N hp4 hs hsd bsv (9218868437227405312 : UInt64)
  have hMp : M pp = 9223372036854775807 := by
    rcases N.num pp hp4 with r | r
    · exact r.2
    · exact absurd hs r.1
  have eM : zg M pp sv = zS M pp sv := zCA (by omega)
  have a12 := zCn He.h12 (zAa n4) (zAp nn)
  have mi : zG (nn + 1) nn := (zAa n4 nn).mpr (Or.inr rfl)
  obtain ⟨TN5_5, HN5_5, stN5_5⟩ := zI HN5_4 hx hZ hown (zB hw 10 rfl) 0 0 rfl rfl (g := (mkF m 29 #[oa u, oi pp, .val (.double sd), .second, oi nn, oi nn] [(.ref u), (.int nn)])) rfl rfl (hb hby d4_29)
  obtain ⟨TN5_7, HN5_7, stN5_7⟩ := zI HN5_5 hx hZ hown (zB hw 10 rfl) 0 0 rfl rfl (g := (mkF m 67 #[oa u, oi pp, .val (.double sd), .second, oi nn, oi nn] [(.ref u)])) rfl rfl (hb hby d4_67)
  obtain ⟨TN5_8, HN5_8, stN5_8⟩ := zBL HN5_7 hx hZ 1 rfl h4 (g := (mkF m 75 #[oa u, oi pp, .val (.double sd), .second, oi nn, oi nn] [(.double 9218868437227405312), (.int nn), (.ref xb)])) rfl rfl (hb hby d4_75)
  change zR _ _ _ _ _ _ _ _ _ _ _ _ _ _ [(u, oc1 (.ref xb) (.ref xl) (.ref xp) (.int kk) (.ref nu) (.int cc)), (xb, zA .double (zK (ze fb nn (9218868437227405312 : UInt64)))), (xl, zA .int (zE fl)), (xp, zA .int (zE fa)), (nu, oc2 (.int 4) (.ref xt) (.ref xs) (.int (nn + (1 : Int32))) .null (.int 0)), (xt, zA .int (zE (zD ft nn pp))), (xs, zA .int [.int ((zD fs pp (nn + (1 : Int32))) (0 : Int32)), .int 0, .int 0, .int ((zD fs pp (nn + (1 : Int32))) (2 : Int32)), .int 0, .int 0, .int 0, .int 0, .int 0, .int ((zD fs pp (nn + (1 : Int32))) (1 : Int32)), .int 0, .int 0, .int 0, .int ((zD fs pp (nn + (1 : Int32))) (3 : Int32)), .int 0, .int 0])] _ _ at HN5_8
  obtain ⟨TN5_9, HN5_9, stN5_9⟩ := zI HN5_8 hx hZ hown (zB hw 15 rfl) 0 2 rfl rfl (g := (mkF m 77 #[oa u, oi pp, .val (.double sd), .second, oi nn, oi nn] [(.ref u)])) rfl rfl (hb hby d4_77)
  obtain ⟨TN5_10, HN5_10, stN5_10⟩ := zAs HN5_9 hx hZ 3 rfl h4 (g := (mkF m 83 #[oa u, oi pp, .val (.double sd), .second, oi nn, oi nn] [(.int (-1 : Int32)), (.int nn), (.ref xp)])) rfl rfl (hb hby d4_83)
  change zR _ _ _ _ _ _ _ _ _ _ _ _ _ _ [(u, oc1 (.ref xb) (.ref xl) (.ref xp) (.int kk) (.ref nu) (.int cc)), (xb, zA .double (zK (ze fb nn (9218868437227405312 : UInt64)))), (xl, zA .int (zE fl)), (xp, zA .int (zE (zD fa nn (-1 : Int32)))), (nu, oc2 (.int 4) (.ref xt) (.ref xs) (.int (nn + (1 : Int32))) .null (.int 0)), (xt, zA .int (zE (zD ft nn pp))), (xs, zA .int [.int ((zD fs pp (nn + (1 : Int32))) (0 : Int32)), .int 0, .int 0, .int ((zD fs pp (nn + (1 : Int32))) (2 : Int32)), .int 0, .int 0, .int 0, .int 0, .int 0, .int ((zD fs pp (nn + (1 : Int32))) (1 : Int32)), .int 0, .int 0, .int 0, .int ((zD fs pp (nn + (1 : Int32))) (3 : Int32)), .int 0, .int 0])] _ _ at HN5_10
  obtain ⟨TN5_11, HN5_11, stN5_11⟩ := zI HN5_10 hx hZ hown (zB hw 10 rfl) 0 0 rfl rfl (g := (mkF m 86 #[oa u, oi pp, .val (.double sd), .second, oi nn, oi nn] [(.ref u), (.double sd)])) rfl rfl (hb hby d4_86)
  obtain ⟨w0, hw0⟩ : ∃ z, (ze fb nn (9218868437227405312 : UInt64)) nn = z := ⟨_, rfl⟩
  obtain ⟨v92, hv92⟩ : ∃ z : Int32, (cmpValue (FP.dcmp sd w0) .g) = z := ⟨_, rfl⟩
  have hbN : ∀ j, zG (nn + (1 : Int32)) j → zN ((ze (ze fb nn (9218868437227405312 : UInt64)) nn sd) j) (((zS X nn sv) j : Int) : Rat) := fun j hj => (N'.bnd j hj).1
  have hN4 : ∀ j, zG (nn + (1 : Int32)) j → zG 4 j := fun j hj => zAT N'.n4 hj
  obtain ⟨TN5_13, HN5_13, stN5_13⟩ := zI HN5_11 hx hZ hown (zB hw 10 rfl) 0 0 rfl rfl (g := (mkF m 98 #[oa u, oi pp, .val (.double sd), .second, oi nn, oi nn] [(.ref u)])) rfl rfl (hb hby d4_98)
  obtain ⟨TN5_14, HN5_14, stN5_14⟩ := zBL HN5_13 hx hZ 1 rfl h4 (g := (mkF m 104 #[oa u, oi pp, .val (.double sd), .second, oi nn, oi nn] [(.double sd), (.int nn), (.ref xb)])) rfl rfl (hb hby d4_104)
  change zR _ _ _ _ _ _ _ _ _ _ _ _ _ _ [(u, oc1 (.ref xb) (.ref xl) (.ref xp) (.int kk) (.ref nu) (.int cc)), (xb, zA .double (zK (ze (ze fb nn (9218868437227405312 : UInt64)) nn sd))), (xl, zA .int (zE fl)), (xp, zA .int (zE (zD fa nn (-1 : Int32)))), (nu, oc2 (.int 4) (.ref xt) (.ref xs) (.int (nn + (1 : Int32))) .null (.int 0)), (xt, zA .int (zE (zD ft nn pp))), (xs, zA .int [.int ((zD fs pp (nn + (1 : Int32))) (0 : Int32)), .int 0, .int 0, .int ((zD fs pp (nn + (1 : Int32))) (2 : Int32)), .int 0, .int 0, .int 0, .int 0, .int 0, .int ((zD fs pp (nn + (1 : Int32))) (1 : Int32)), .int 0, .int 0, .int 0, .int ((zD fs pp (nn + (1 : Int32))) (3 : Int32)), .int 0, .int 0])] _ _ at HN5_14
  obtain ⟨TN5_15, HN5_15, stN5_15⟩ := zI HN5_14 hx hZ hown (zB hw 15 rfl) 0 2 rfl rfl (g := (mkF m 106 #[oa u, oi pp, .val (.double sd), .second, oi nn, oi nn] [(.ref u)])) rfl rfl (hb hby d4_106)
  obtain ⟨w1, hw1⟩ : ∃ z, (zD fa nn (-1 : Int32)) nn = z := ⟨_, rfl⟩
  obtain ⟨TN5_17, HN5_17, stN5_17⟩ := zI HN5_15 hx hZ hown (zB hw 64 rfl) 0 5 rfl rfl (g := (mkF m 132 #[oa u, oi pp, .val (.double sd), .second, oi nn, oi nn] [(.ref u)])) rfl rfl (hb hby d4_132)
  obtain ⟨TN5_18, HN5_18, stN5_18⟩ := zI HN5_17 hx hZ hown (zB hw 17 rfl) 0 3 rfl rfl (g := (mkF m 136 #[oa u, oi pp, .val (.double sd), .second, oi nn, oi nn] [(.ref u), (.int cc)])) rfl rfl (hb hby d4_136)
  obtain ⟨TN5_19, HN5_19, stN5_19⟩ := zI HN5_18 hx hZ hown (zB hw 64 rfl) 0 5 rfl rfl (g := (mkF m 143 #[oa u, oi pp, .val (.double sd), .second, oi nn, oi nn] [(.ref u)])) rfl rfl (hb hby d4_143)
  obtain ⟨TN5_20, HN5_20, stN5_20⟩ := zI HN5_19 hx hZ hown (zB hw 13 rfl) 0 1 rfl rfl (g := (mkF m 147 #[oa u, oi pp, .val (.double sd), .second, oi nn, oi nn] [(.ref u), (.int cc)])) rfl rfl (hb hby d4_147)
  obtain ⟨TN5_22, HN5_22, stN5_22⟩ := zI HN5_20 hx hZ hown (zB hw 64 rfl) 0 5 rfl rfl (g := (mkF m 174 #[oa u, oi pp, .val (.double sd), .second, oi nn, oi nn] [(.ref u), (.ref u), (.ref u)])) rfl rfl (hb hby d4_174)
  obtain ⟨v179, hv179⟩ : ∃ z : Int32, (cc + (1 : Int32)) = z := ⟨_, rfl⟩
  obtain ⟨TN5_23, HN5_23, stN5_23⟩ := zAl HN5_22 hx hZ hown (zB hw 64 rfl) 0 5 rfl rfl (Or.inl (zB hw 65 rfl)) (zB hw 1 rfl) (ty := .int) (by decide) rfl rfl (g := (mkF m 180 #[oa u, oi pp, .val (.double sd), .second, oi nn, oi nn] [(.int v179), (.ref u), (.int cc), (.ref u)])) rfl rfl (hb hby d4_180)
  change zR _ _ _ _ _ _ _ _ _ _ _ _ _ _ [(u, oc1 (.ref xb) (.ref xl) (.ref xp) (.int kk) (.ref nu) (.int v179)), (xb, zA .double (zK (ze (ze fb nn (9218868437227405312 : UInt64)) nn sd))), (xl, zA .int (zE fl)), (xp, zA .int (zE (zD fa nn (-1 : Int32)))), (nu, oc2 (.int 4) (.ref xt) (.ref xs) (.int (nn + (1 : Int32))) .null (.int 0)), (xt, zA .int (zE (zD ft nn pp))), (xs, zA .int [.int ((zD fs pp (nn + (1 : Int32))) (0 : Int32)), .int 0, .int 0, .int ((zD fs pp (nn + (1 : Int32))) (2 : Int32)), .int 0, .int 0, .int 0, .int 0, .int 0, .int ((zD fs pp (nn + (1 : Int32))) (1 : Int32)), .int 0, .int 0, .int 0, .int ((zD fs pp (nn + (1 : Int32))) (3 : Int32)), .int 0, .int 0])] _ _ at HN5_23
  obtain ⟨A1, A2, A3⟩ := own_He_u (sv := sv) He n4 hck
  have hv' : cc + 1 = v179 := hv179
  rw [hv'] at A1 A3
  obtain ⟨TN5_24, vN5_24_, csN5_24_, qN5_24, HN5_24, stN5_24⟩ := zo HN5_23 hx hZ hown (zB hw 66 rfl) (zB hw 67 rfl) (zB hw 68 rfl) (zB hw 1 rfl) (zB hw 2 rfl) (zB hw 69 rfl) (by decide) (x := u) 0 rfl (argsL := [(.int cc), (.int nn)]) (rest := []) (W := 0) (own_SUm l Z a0 hb0 hw u cc nn xb xl xp nu xt xs (ze (ze fb nn (9218868437227405312 : UInt64)) nn sd) fl (zD fa nn (-1 : Int32)) (zD ft nn pp) kk v179 (nn + (1 : Int32)) (zD fs pp (nn + (1 : Int32))) hv' (zS X nn sv) A1 A2 hN4 hbN (by rw [zAM]; have : (4 : Int32).toInt = 4 := rfl; omega)) (by decide) (by decide) (by decide) (by decide) (g := (mkF m 185 #[oa u, oi pp, .val (.double sd), .second, oi nn, oi nn] [(.int nn), (.int cc), (.ref u)])) rfl (by rw [hml]; rfl) (lenOf zq rfl) rfl (by show 2 * 0 + _ ≤ _; exact Nat.le_of_eq rfl) (hb hby d4_185)
  obtain ⟨fl', fa', g1, g2, g3, rfl, rfl⟩ := qN5_24
  have hb23 : if_icmp.holds .ne nn nn = false := by rw [zAQ]; exact decide_eq_false (not_not_intro rfl)
  have hb33 : if_icmp.holds .ne nn (8 : Int32) = true := by rw [zAQ]; exact decide_eq_true (fun z => by rw [z] at n4; exact absurd n4.2 (by decide))
  have ew0 : w0 = (9218868437227405312 : UInt64) := by rw [← hw0]; simp [ze]
  have hb93 : ifCond.holds .lt v92 = true := by rw [← hv92, ew0, zDo hsd bsv.2]; rfl
  have ew1 : w1 = -1 := by rw [← hw1]; simp [zD]
  have hb112 : ifCond.holds .lt w1 = true := by rw [ew1]; decide
  have hb139 : if_icmp.holds .ge cc kk = false := by rw [zCH]; exact decide_eq_false (by omega)
  have hb151 : if_icmp.holds .ne cc (8 : Int32) = true := by rw [zAQ]; exact decide_eq_true (fun z => by rw [z] at ck; have : (8 : Int32).toInt = 8 := rfl; omega)
  refine ⟨_, _, _, _, 226, #[oa u, oi pp, .val (.double sd), .second, oi nn, oi nn], HN5_24, by decide, by decide, Or.inl ⟨rfl, ⟨(ze (ze fb nn (9218868437227405312 : UInt64)) nn sd), fl', fa', (zD ft nn pp), (zD fs pp (nn + (1 : Int32))), v179, (nn + (1 : Int32)), (zS X nn sv), by rw [eM]; exact N', A3 fl' fa' g1 g2 g3, rfl, rfl⟩, d4_226, fun target q => ?_⟩⟩
  refine zC H0 hx hZ hown hby hw zQ (zBq u pp sd) _ ?_
  refine stN5_1 _ ?_
  refine stN5_2 _ ?_
  refine zC HN5_2 hx hZ hown hby hw zQ (zBr u pp sd nn) _ ?_
  refine stN5_3 _ ?_
  refine zC HN5_3 hx hZ hown hby hw zQ (zBs u pp sd nn nu) _ ?_
  refine stN5_4 _ ?_
  refine zC HN5_4 hx hZ hown hby hw zQ (zDu u pp sd nn hb23) _ ?_
  refine stN5_5 _ ?_
  refine zAK HN5_5 hx hZ 1 rfl (z := (8 : Int32)) rfl (g := (mkF m 32 #[oa u, oi pp, .val (.double sd), .second, oi nn, oi nn] [(.ref xb), (.int nn)])) rfl rfl (hb hby d4_32) _ ?_
  refine zC HN5_5 hx hZ hown hby hw zQ (zDv u pp sd nn hb33) _ ?_
  refine stN5_7 _ ?_
  refine zC HN5_7 hx hZ hown hby hw zQ (zDw u pp sd nn xb) _ ?_
  refine stN5_8 _ ?_
  refine zC HN5_8 hx hZ hown hby hw zQ (zDx u pp sd nn) _ ?_
  refine stN5_9 _ ?_
  refine zC HN5_9 hx hZ hown hby hw zQ (zDy u pp sd nn xp) _ ?_
  refine stN5_10 _ ?_
  refine zC HN5_10 hx hZ hown hby hw zQ (zDz u pp sd nn) _ ?_
  refine stN5_11 _ ?_
  refine zC HN5_11 hx hZ hown hby hw zQ (zEA u pp sd nn xb) _ ?_
  refine zd HN5_11 hx hZ 1 rfl h4 hw0 (g := (mkF m 91 #[oa u, oi pp, .val (.double sd), .second, oi nn, oi nn] [(.int nn), (.ref xb), (.double sd)])) rfl rfl (hb hby d4_91) _ ?_
  refine zC HN5_11 hx hZ hown hby hw zQ (zEB u pp sd nn w0 v92 hv92 hb93) _ ?_
  refine zC HN5_11 hx hZ hown hby hw zQ (zEC u pp sd nn) _ ?_
  refine stN5_13 _ ?_
  refine zC HN5_13 hx hZ hown hby hw zQ (zED u pp sd nn xb) _ ?_
  refine stN5_14 _ ?_
  refine zC HN5_14 hx hZ hown hby hw zQ (zEE u pp sd nn) _ ?_
  refine stN5_15 _ ?_
  refine zC HN5_15 hx hZ hown hby hw zQ (zEF u pp sd nn xp) _ ?_
  refine zf HN5_15 hx hZ 3 rfl h4 hw1 (g := (mkF m 111 #[oa u, oi pp, .val (.double sd), .second, oi nn, oi nn] [(.int nn), (.ref xp)])) rfl rfl (hb hby d4_111) _ ?_
  refine zC HN5_15 hx hZ hown hby hw zQ (zEG u pp sd nn w1 hb112) _ ?_
  refine stN5_17 _ ?_
  refine zC HN5_17 hx hZ hown hby hw zQ (zEH u pp sd nn cc) _ ?_
  refine stN5_18 _ ?_
  refine zC HN5_18 hx hZ hown hby hw zQ (own_N5_17 u pp sd nn kk cc hb139) _ ?_
  refine stN5_19 _ ?_
  refine zC HN5_19 hx hZ hown hby hw zQ (own_N5_18 u pp sd nn cc) _ ?_
  refine stN5_20 _ ?_
  refine zAK HN5_20 hx hZ 2 rfl (z := (8 : Int32)) rfl (g := (mkF m 150 #[oa u, oi pp, .val (.double sd), .second, oi nn, oi nn] [(.ref xl), (.int cc)])) rfl rfl (hb hby d4_150) _ ?_
  refine zC HN5_20 hx hZ hown hby hw zQ (own_N5_19 u pp sd nn cc hb151) _ ?_
  refine stN5_22 _ ?_
  refine zC HN5_22 hx hZ hown hby hw zQ (own_N5_20 u pp sd nn cc v179 hv179) _ ?_
  refine stN5_23 _ ?_
  refine zC HN5_23 hx hZ hown hby hw zQ (own_N5_21 u pp sd nn cc) _ ?_
  refine stN5_24 _ ?_
  refine zC HN5_24 hx hZ hown hby hw zQ (own_N5_22 u pp sd nn) _ ?_
  exact q
theorem own_N6_17 (u : Addr) (pp : Int32) (sd : UInt64) (nn : Int32) (kk : Int32) (cc : Int32) (hb139 : if_icmp.holds .ge cc kk = true) :
    zF zl ok7 139 #[oa u, oi pp, .val (.double sd), .second, oi nn, oi nn] [(.int kk), (.int cc)] 193 #[oa u, oi pp, .val (.double sd), .second, oi nn, oi nn] [(.ref u), (.double sd)] := by
  refine zAJ (pc' := 191) d4_139 hb139 (by decide) (by decide) ?_
  refine zBt (pc2 := 192) d4_191 rfl rfl ?_
  refine zJ (pc2 := 193) d4_192 rfl rfl rfl ?_
  exact zH
theorem own_N6_18 (u : Addr) (pp : Int32) (sd : UInt64) (nn : Int32) (xb : Addr) :
    zF zl ok7 196 #[oa u, oi pp, .val (.double sd), .second, oi nn, oi nn] [(.ref xb), (.double sd)] 197 #[oa u, oi pp, .val (.double sd), .second, oi nn, oi nn] [(.ref u), (.ref xb), (.double sd)] := by
  refine zJ (pc2 := 197) d4_196 rfl rfl rfl ?_
  exact zH
theorem own_N6_19 (u : Addr) (pp : Int32) (sd : UInt64) (nn : Int32) (xl : Addr) (xb : Addr) :
    zF zl ok7 200 #[oa u, oi pp, .val (.double sd), .second, oi nn, oi nn] [(.ref xl), (.ref xb), (.double sd)] 201 #[oa u, oi pp, .val (.double sd), .second, oi nn, oi nn] [(.int 0), (.ref xl), (.ref xb), (.double sd)] := by
  refine zT (v := 0) (pc2 := 201) d4_200 rfl rfl ?_
  exact zH
theorem own_N6_20 (u : Addr) (pp : Int32) (sd : UInt64) (nn : Int32) (w3 : UInt64) (v203 : Int32) (hv203 : (cmpValue (FP.dcmp sd w3) .g) = v203) (hb204 : ifCond.holds .ge v203 = false) :
    zF zl ok7 203 #[oa u, oi pp, .val (.double sd), .second, oi nn, oi nn] [(.double w3), (.double sd)] 208 #[oa u, oi pp, .val (.double sd), .second, oi nn, oi nn] [(.ref u)] := by
  refine zAD (pc2 := 204) d4_203 rfl (v := v203) hv203 ?_
  refine zy (pc2 := 207) d4_204 rfl hb204 ?_
  refine zJ (pc2 := 208) d4_207 rfl rfl rfl ?_
  exact zH
theorem own_N6_21 (u : Addr) (pp : Int32) (sd : UInt64) (nn : Int32) (xp : Addr) :
    zF zl ok7 211 #[oa u, oi pp, .val (.double sd), .second, oi nn, oi nn] [(.ref xp)] 212 #[oa u, oi pp, .val (.double sd), .second, oi nn, oi nn] [(.ref u), (.ref xp)] := by
  refine zJ (pc2 := 212) d4_211 rfl rfl rfl ?_
  exact zH
theorem own_N6_22 (u : Addr) (pp : Int32) (sd : UInt64) (nn : Int32) (xl : Addr) (xp : Addr) :
    zF zl ok7 215 #[oa u, oi pp, .val (.double sd), .second, oi nn, oi nn] [(.ref xl), (.ref xp)] 216 #[oa u, oi pp, .val (.double sd), .second, oi nn, oi nn] [(.int 0), (.ref xl), (.ref xp)] := by
  refine zT (v := 0) (pc2 := 216) d4_215 rfl rfl ?_
  exact zH
theorem own_N6_23 (u : Addr) (pp : Int32) (sd : UInt64) (nn : Int32) (w4 : Int32) (xp : Addr) :
    zF zl ok7 217 #[oa u, oi pp, .val (.double sd), .second, oi nn, oi nn] [(.int w4), (.ref xp)] 218 #[oa u, oi pp, .val (.double sd), .second, oi nn, oi nn] [(.int (-1 : Int32)), (.int w4), (.ref xp)] := by
  refine zT (v := -1) (pc2 := 218) d4_217 rfl rfl ?_
  exact zH
theorem own_N6_24 (u : Addr) (pp : Int32) (sd : UInt64) (nn : Int32) :
    zF zl ok7 219 #[oa u, oi pp, .val (.double sd), .second, oi nn, oi nn] [] 223 #[oa u, oi pp, .val (.double sd), .second, oi nn, oi nn] [(.int nn), (.int 0), (.ref u)] := by
  refine zJ (pc2 := 220) d4_219 rfl rfl rfl ?_
  refine zT (v := 0) (pc2 := 221) d4_220 rfl rfl ?_
  refine zn (pc2 := 223) d4_221 rfl rfl ?_
  exact zH
set_option maxRecDepth 65536 in
set_option maxHeartbeats 4000000 in
theorem own_ofN6 (l : Launch) (Z : State) (a0 : Array Value) (hb0 : zU) (hw : ∀ d ∈ tables_1, d.before a0 Z = true) (u : Addr) (pp : Int32) (sd : UInt64) (xb xl xp nu xt xs : Addr) (fb : Int32 → UInt64) (fl fa ft : Int32 → Int32) (kk cc nn : Int32) (fs : Int32 → Int32) (X M : Int32 → Int) (sv : Int) (N : zAA fb ft fs nn X M) (He : zw fl fa kk cc nn X) (hp4 : zG 4 pp) (hsd : zN sd ((sv : Int) : Rat)) (bsv : -2147483648 ≤ sv ∧ sv ≤ 2147483647) (hs : fs pp = 0) (hck : cc = kk) (hr : sv < X (fl 0)) :
    zX l Z a0 hb0 (⟨"com/example/tidewise/tidewise/search/UpperBounds", "offer", "(ID)V"⟩ : MethodName) ok7 6 none [] ({ frames := 3, cells := 0, slots := 0, locals := 80 } : Room) #[(.ref u), (.int pp), (.double sd)] [(u, oc1 (.ref xb) (.ref xl) (.ref xp) (.int kk) (.ref nu) (.int cc)), (xb, zA .double (zK fb)), (xl, zA .int (zE fl)), (xp, zA .int (zE fa)), (nu, oc2 (.int 4) (.ref xt) (.ref xs) (.int nn) .null (.int 0)), (xt, zA .int (zE ft)), (xs, zA .int [.int (fs (0 : Int32)), .int 0, .int 0, .int (fs (2 : Int32)), .int 0, .int 0, .int 0, .int 0, .int 0, .int (fs (1 : Int32)), .int 0, .int 0, .int 0, .int (fs (3 : Int32)), .int 0, .int 0])] (fun r cs' => ∃ (fb' : Int32 → UInt64) (fl' fa' ft' fs' : Int32 → Int32) (cc' nn' : Int32) (X' : Int32 → Int), zAA fb' ft' fs' nn' X' (zg M pp sv) ∧ zw fl' fa' kk cc' nn' X' ∧ r = none ∧ cs' = [(u, oc1 (.ref xb) (.ref xl) (.ref xp) (.int kk) (.ref nu) (.int cc')), (xb, zA .double (zK fb')), (xl, zA .int (zE fl')), (xp, zA .int (zE fa')), (nu, oc2 (.int 4) (.ref xt) (.ref xs) (.int nn') .null (.int 0)), (xt, zA .int (zE ft')), (xs, zA .int [.int (fs' (0 : Int32)), .int 0, .int 0, .int (fs' (2 : Int32)), .int 0, .int 0, .int 0, .int 0, .int 0, .int (fs' (1 : Int32)), .int 0, .int 0, .int 0, .int (fs' (3 : Int32)), .int 0, .int 0])]) := by
  refine zh (L0 := #[oa u, oi pp, .val (.double sd), .second, ou, ou]) (plainFor_of_name zBk) (fun m => zBm m u pp sd) ?_
  intro p e s m below meth c T0 hx hZ hown hby hml hnm H0
  obtain ⟨TN6_1, HN6_1, stN6_1⟩ := zI H0 hx hZ hown (zB hw 32 rfl) 0 4 rfl rfl (g := (mkF m 1 #[oa u, oi pp, .val (.double sd), .second, ou, ou] [(.ref u)])) rfl rfl (hb hby d4_1)
  obtain ⟨TN6_2, vN6_2_, csN6_2_, qN6_2, HN6_2, stN6_2⟩ := zAR HN6_1 hx hZ hown (zB hw 39 rfl) (zB hw 40 rfl) (zB hw 42 rfl) (zB hw 41 rfl) (zB hw 21 rfl) (zB hw 43 rfl) (by decide) (x := nu) 4 rfl (argsL := []) (rest := []) (W := 0) (zBp l Z a0 hb0 hw nu u xb xl xp xt xs fb fl fa ft kk cc nn _ _ _ _) (by decide) (by decide) (by decide) (by decide) (g := (mkF m 4 #[oa u, oi pp, .val (.double sd), .second, ou, ou] [(.ref nu)])) rfl (by rw [hml]; rfl) (lenOf zBl rfl) rfl (by show 2 * 0 + _ ≤ _; exact Nat.le_of_eq rfl) (hb hby d4_4)
  obtain ⟨rfl, rfl⟩ := qN6_2
  obtain ⟨TN6_3, HN6_3, stN6_3⟩ := zI HN6_2 hx hZ hown (zB hw 32 rfl) 0 4 rfl rfl (g := (mkF m 10 #[oa u, oi pp, .val (.double sd), .second, oi nn, ou] [(.ref u)])) rfl rfl (hb hby d4_10)
  have n4 := N.n4
  have k4 := He.k4
  have ck := He.ck
  have h4 := zDK N hp4 hs
  obtain ⟨TN6_4, vN6_4_, csN6_4_, qN6_4, HN6_4, stN6_4⟩ := zAR HN6_3 hx hZ hown (zB hw 46 rfl) (zB hw 47 rfl) (zB hw 49 rfl) (zB hw 48 rfl) (zB hw 21 rfl) (zB hw 50 rfl) (by decide) (x := nu) 4 rfl (argsL := [(.int pp)]) (rest := []) (W := 0) (zDh l Z a0 hb0 hw nu pp u xb xl xp xt xs fb fl fa ft kk cc nn fs hp4 N.n4.2 hs h4) (by decide) (by decide) (by decide) (by decide) (g := (mkF m 14 #[oa u, oi pp, .val (.double sd), .second, oi nn, ou] [(.int pp), (.ref nu)])) rfl (by rw [hml]; rfl) (lenOf zAW rfl) rfl (by show 2 * 0 + _ ≤ _; exact Nat.le_of_eq rfl) (hb hby d4_14)
  obtain ⟨rfl, rfl⟩ := qN6_4
  have N' := zDk N hp4 hs hsd bsv (9218868437227405312 : UInt64)
  have hMp : M pp = 9223372036854775807 := by
    rcases N.num pp hp4 with r | r
    · exact r.2
    · exact absurd hs r.1
  have eM : zg M pp sv = zS M pp sv := zCA (by omega)
  have a12 := zCn He.h12 (zAa n4) (zAp nn)
  have mi : zG (nn + 1) nn := (zAa n4 nn).mpr (Or.inr rfl)
  obtain ⟨TN6_5, HN6_5, stN6_5⟩ := zI HN6_4 hx hZ hown (zB hw 10 rfl) 0 0 rfl rfl (g := (mkF m 29 #[oa u, oi pp, .val (.double sd), .second, oi nn, oi nn] [(.ref u), (.int nn)])) rfl rfl (hb hby d4_29)
  obtain ⟨TN6_7, HN6_7, stN6_7⟩ := zI HN6_5 hx hZ hown (zB hw 10 rfl) 0 0 rfl rfl (g := (mkF m 67 #[oa u, oi pp, .val (.double sd), .second, oi nn, oi nn] [(.ref u)])) rfl rfl (hb hby d4_67)
  obtain ⟨TN6_8, HN6_8, stN6_8⟩ := zBL HN6_7 hx hZ 1 rfl h4 (g := (mkF m 75 #[oa u, oi pp, .val (.double sd), .second, oi nn, oi nn] [(.double 9218868437227405312), (.int nn), (.ref xb)])) rfl rfl (hb hby d4_75)
  change zR _ _ _ _ _ _ _ _ _ _ _ _ _ _ [(u, oc1 (.ref xb) (.ref xl) (.ref xp) (.int kk) (.ref nu) (.int cc)), (xb, zA .double (zK (ze fb nn (9218868437227405312 : UInt64)))), (xl, zA .int (zE fl)), (xp, zA .int (zE fa)), (nu, oc2 (.int 4) (.ref xt) (.ref xs) (.int (nn + (1 : Int32))) .null (.int 0)), (xt, zA .int (zE (zD ft nn pp))), (xs, zA .int [.int ((zD fs pp (nn + (1 : Int32))) (0 : Int32)), .int 0, .int 0, .int ((zD fs pp (nn + (1 : Int32))) (2 : Int32)), .int 0, .int 0, .int 0, .int 0, .int 0, .int ((zD fs pp (nn + (1 : Int32))) (1 : Int32)), .int 0, .int 0, .int 0, .int ((zD fs pp (nn + (1 : Int32))) (3 : Int32)), .int 0, .int 0])] _ _ at HN6_8
  obtain ⟨TN6_9, HN6_9, stN6_9⟩ := zI HN6_8 hx hZ hown (zB hw 15 rfl) 0 2 rfl rfl (g := (mkF m 77 #[oa u, oi pp, .val (.double sd), .second, oi nn, oi nn] [(.ref u)])) rfl rfl (hb hby d4_77)
  obtain ⟨TN6_10, HN6_10, stN6_10⟩ := zAs HN6_9 hx hZ 3 rfl h4 (g := (mkF m 83 #[oa u, oi pp, .val (.double sd), .second, oi nn, oi nn] [(.int (-1 : Int32)), (.int nn), (.ref xp)])) rfl rfl (hb hby d4_83)
  change zR _ _ _ _ _ _ _ _ _ _ _ _ _ _ [(u, oc1 (.ref xb) (.ref xl) (.ref xp) (.int kk) (.ref nu) (.int cc)), (xb, zA .double (zK (ze fb nn (9218868437227405312 : UInt64)))), (xl, zA .int (zE fl)), (xp, zA .int (zE (zD fa nn (-1 : Int32)))), (nu, oc2 (.int 4) (.ref xt) (.ref xs) (.int (nn + (1 : Int32))) .null (.int 0)), (xt, zA .int (zE (zD ft nn pp))), (xs, zA .int [.int ((zD fs pp (nn + (1 : Int32))) (0 : Int32)), .int 0, .int 0, .int ((zD fs pp (nn + (1 : Int32))) (2 : Int32)), .int 0, .int 0, .int 0, .int 0, .int 0, .int ((zD fs pp (nn + (1 : Int32))) (1 : Int32)), .int 0, .int 0, .int 0, .int ((zD fs pp (nn + (1 : Int32))) (3 : Int32)), .int 0, .int 0])] _ _ at HN6_10
  obtain ⟨TN6_11, HN6_11, stN6_11⟩ := zI HN6_10 hx hZ hown (zB hw 10 rfl) 0 0 rfl rfl (g := (mkF m 86 #[oa u, oi pp, .val (.double sd), .second, oi nn, oi nn] [(.ref u), (.double sd)])) rfl rfl (hb hby d4_86)
  obtain ⟨w0, hw0⟩ : ∃ z, (ze fb nn (9218868437227405312 : UInt64)) nn = z := ⟨_, rfl⟩
  obtain ⟨v92, hv92⟩ : ∃ z : Int32, (cmpValue (FP.dcmp sd w0) .g) = z := ⟨_, rfl⟩
  have hbN : ∀ j, zG (nn + (1 : Int32)) j → zN ((ze (ze fb nn (9218868437227405312 : UInt64)) nn sd) j) (((zS X nn sv) j : Int) : Rat) := fun j hj => (N'.bnd j hj).1
  have hN4 : ∀ j, zG (nn + (1 : Int32)) j → zG 4 j := fun j hj => zAT N'.n4 hj
  obtain ⟨TN6_13, HN6_13, stN6_13⟩ := zI HN6_11 hx hZ hown (zB hw 10 rfl) 0 0 rfl rfl (g := (mkF m 98 #[oa u, oi pp, .val (.double sd), .second, oi nn, oi nn] [(.ref u)])) rfl rfl (hb hby d4_98)
  obtain ⟨TN6_14, HN6_14, stN6_14⟩ := zBL HN6_13 hx hZ 1 rfl h4 (g := (mkF m 104 #[oa u, oi pp, .val (.double sd), .second, oi nn, oi nn] [(.double sd), (.int nn), (.ref xb)])) rfl rfl (hb hby d4_104)
  change zR _ _ _ _ _ _ _ _ _ _ _ _ _ _ [(u, oc1 (.ref xb) (.ref xl) (.ref xp) (.int kk) (.ref nu) (.int cc)), (xb, zA .double (zK (ze (ze fb nn (9218868437227405312 : UInt64)) nn sd))), (xl, zA .int (zE fl)), (xp, zA .int (zE (zD fa nn (-1 : Int32)))), (nu, oc2 (.int 4) (.ref xt) (.ref xs) (.int (nn + (1 : Int32))) .null (.int 0)), (xt, zA .int (zE (zD ft nn pp))), (xs, zA .int [.int ((zD fs pp (nn + (1 : Int32))) (0 : Int32)), .int 0, .int 0, .int ((zD fs pp (nn + (1 : Int32))) (2 : Int32)), .int 0, .int 0, .int 0, .int 0, .int 0, .int ((zD fs pp (nn + (1 : Int32))) (1 : Int32)), .int 0, .int 0, .int 0, .int ((zD fs pp (nn + (1 : Int32))) (3 : Int32)), .int 0, .int 0])] _ _ at HN6_14
  obtain ⟨TN6_15, HN6_15, stN6_15⟩ := zI HN6_14 hx hZ hown (zB hw 15 rfl) 0 2 rfl rfl (g := (mkF m 106 #[oa u, oi pp, .val (.double sd), .second, oi nn, oi nn] [(.ref u)])) rfl rfl (hb hby d4_106)
  obtain ⟨w1, hw1⟩ : ∃ z, (zD fa nn (-1 : Int32)) nn = z := ⟨_, rfl⟩
  obtain ⟨TN6_17, HN6_17, stN6_17⟩ := zI HN6_15 hx hZ hown (zB hw 64 rfl) 0 5 rfl rfl (g := (mkF m 132 #[oa u, oi pp, .val (.double sd), .second, oi nn, oi nn] [(.ref u)])) rfl rfl (hb hby d4_132)
  obtain ⟨TN6_18, HN6_18, stN6_18⟩ := zI HN6_17 hx hZ hown (zB hw 17 rfl) 0 3 rfl rfl (g := (mkF m 136 #[oa u, oi pp, .val (.double sd), .second, oi nn, oi nn] [(.ref u), (.int cc)])) rfl rfl (hb hby d4_136)
  obtain ⟨TN6_19, HN6_19, stN6_19⟩ := zI HN6_18 hx hZ hown (zB hw 10 rfl) 0 0 rfl rfl (g := (mkF m 193 #[oa u, oi pp, .val (.double sd), .second, oi nn, oi nn] [(.ref u), (.double sd)])) rfl rfl (hb hby d4_193)
  obtain ⟨TN6_20, HN6_20, stN6_20⟩ := zI HN6_19 hx hZ hown (zB hw 13 rfl) 0 1 rfl rfl (g := (mkF m 197 #[oa u, oi pp, .val (.double sd), .second, oi nn, oi nn] [(.ref u), (.ref xb), (.double sd)])) rfl rfl (hb hby d4_197)
  obtain ⟨w2, hw2⟩ : ∃ z, fl (0 : Int32) = z := ⟨_, rfl⟩
  have c0_ : zG cc 0 := by rw [hck]; rw [zAM]; exact ⟨by decide, by have : (0 : Int32).toInt = 0 := rfl; omega⟩
  have mw2 : zG nn w2 := by rw [← hw2]; exact (He.h12.p1 0 c0_).1
  have iw2 := zAT n4 mw2
  obtain ⟨w3, hw3⟩ : ∃ z, (ze (ze fb nn (9218868437227405312 : UInt64)) nn sd) w2 = z := ⟨_, rfl⟩
  obtain ⟨v203, hv203⟩ : ∃ z : Int32, (cmpValue (FP.dcmp sd w3) .g) = z := ⟨_, rfl⟩
  obtain ⟨TN6_23, HN6_23, stN6_23⟩ := zI HN6_20 hx hZ hown (zB hw 15 rfl) 0 2 rfl rfl (g := (mkF m 208 #[oa u, oi pp, .val (.double sd), .second, oi nn, oi nn] [(.ref u)])) rfl rfl (hb hby d4_208)
  obtain ⟨TN6_24, HN6_24, stN6_24⟩ := zI HN6_23 hx hZ hown (zB hw 13 rfl) 0 1 rfl rfl (g := (mkF m 212 #[oa u, oi pp, .val (.double sd), .second, oi nn, oi nn] [(.ref u), (.ref xp)])) rfl rfl (hb hby d4_212)
  obtain ⟨w4, hw4⟩ : ∃ z, fl (0 : Int32) = z := ⟨_, rfl⟩
  have c0_ : zG cc 0 := by rw [hck]; rw [zAM]; exact ⟨by decide, by have : (0 : Int32).toInt = 0 := rfl; omega⟩
  have mw4 : zG nn w4 := by rw [← hw4]; exact (He.h12.p1 0 c0_).1
  have iw4 := zAT n4 mw4
  obtain ⟨TN6_26, HN6_26, stN6_26⟩ := zAs HN6_24 hx hZ 3 rfl iw4 (g := (mkF m 218 #[oa u, oi pp, .val (.double sd), .second, oi nn, oi nn] [(.int (-1 : Int32)), (.int w4), (.ref xp)])) rfl rfl (hb hby d4_218)
  change zR _ _ _ _ _ _ _ _ _ _ _ _ _ _ [(u, oc1 (.ref xb) (.ref xl) (.ref xp) (.int kk) (.ref nu) (.int cc)), (xb, zA .double (zK (ze (ze fb nn (9218868437227405312 : UInt64)) nn sd))), (xl, zA .int (zE fl)), (xp, zA .int (zE (zD (zD fa nn (-1 : Int32)) w4 (-1 : Int32)))), (nu, oc2 (.int 4) (.ref xt) (.ref xs) (.int (nn + (1 : Int32))) .null (.int 0)), (xt, zA .int (zE (zD ft nn pp))), (xs, zA .int [.int ((zD fs pp (nn + (1 : Int32))) (0 : Int32)), .int 0, .int 0, .int ((zD fs pp (nn + (1 : Int32))) (2 : Int32)), .int 0, .int 0, .int 0, .int 0, .int 0, .int ((zD fs pp (nn + (1 : Int32))) (1 : Int32)), .int 0, .int 0, .int 0, .int ((zD fs pp (nn + (1 : Int32))) (3 : Int32)), .int 0, .int 0])] _ _ at HN6_26
  have hmN : (zD fa nn (-1 : Int32)) nn = -1 := by simp [zD]
  have e12 : zY (zD fa nn (-1 : Int32)) fl (nn + (1 : Int32)) cc := a12
  have e4 : ∀ j, zG (nn + (1 : Int32)) j → j ≠ nn → (zD fa nn (-1 : Int32)) j = -1 → X (fl 0) ≤ X j := by
    intro j hj hne hf
    have hj' := ((zAa n4 j).mp hj).resolve_right hne
    have hf' : fa j = -1 := by simpa [zD, hne] using hf
    exact (He.h4 j hj' hf').2
  obtain ⟨A1, A2, A3, A4, A5, A6⟩ := own_He_c (sv := sv) e12 He.h3 k4 hck e4 mi hmN (Int.le_of_lt hr)
  rw [hw4] at A2
  obtain ⟨TN6_27, vN6_27_, csN6_27_, qN6_27, HN6_27, stN6_27⟩ := zo HN6_26 hx hZ hown (zB hw 74 rfl) (zB hw 75 rfl) (zB hw 76 rfl) (zB hw 1 rfl) (zB hw 2 rfl) (zB hw 77 rfl) (by decide) (x := u) 0 rfl (argsL := [(.int 0), (.int nn)]) (rest := []) (W := 0) (zDn l Z a0 hb0 hw u (0 : Int32) nn xb xl xp nu xt xs (ze (ze fb nn (9218868437227405312 : UInt64)) nn sd) fl (zD (zD fa nn (-1 : Int32)) w4 (-1 : Int32)) (zD ft nn pp) kk cc (nn + (1 : Int32)) (zD fs pp (nn + (1 : Int32))) (zS X nn sv) (zS X nn (X (fl 0))) A2 A3 A4 A5 hN4 hbN (by omega) A1) (by decide) (by decide) (by decide) (by decide) (g := (mkF m 223 #[oa u, oi pp, .val (.double sd), .second, oi nn, oi nn] [(.int nn), (.int 0), (.ref u)])) rfl (by rw [hml]; rfl) (lenOf zq rfl) rfl (by show 2 * 0 + _ ≤ _; exact Nat.le_of_eq rfl) (hb hby d4_223)
  obtain ⟨fl', fa', g1, g2, g3, g4, rfl, rfl⟩ := qN6_27
  have hb23 : if_icmp.holds .ne nn nn = false := by rw [zAQ]; exact decide_eq_false (not_not_intro rfl)
  have hb33 : if_icmp.holds .ne nn (8 : Int32) = true := by rw [zAQ]; exact decide_eq_true (fun z => by rw [z] at n4; exact absurd n4.2 (by decide))
  have ew0 : w0 = (9218868437227405312 : UInt64) := by rw [← hw0]; simp [ze]
  have hb93 : ifCond.holds .lt v92 = true := by rw [← hv92, ew0, zDo hsd bsv.2]; rfl
  have ew1 : w1 = -1 := by rw [← hw1]; exact hmN
  have hb112 : ifCond.holds .lt w1 = true := by rw [ew1]; decide
  have hb139 : if_icmp.holds .ge cc kk = true := by rw [zCH, hck]; exact decide_eq_true (Int.le_refl _)
  have nw2 : w2 ≠ nn := by
    rw [← hw2]
    exact zBz e12 c0_ hmN
  have bw3 : zN w3 ((X (fl 0) : Int) : Rat) := by
    rw [← hw3, hw2]
    have z := (N.bnd w2 mw2).1
    simpa [ze, nw2] using z
  have hb204 : ifCond.holds .ge v203 = false := by rw [← hv203, zCa hsd bw3]; exact decide_eq_false (Rat.not_le.mpr (zAP hr))
  refine ⟨_, _, _, _, 226, #[oa u, oi pp, .val (.double sd), .second, oi nn, oi nn], HN6_27, by decide, by decide, Or.inl ⟨rfl, ⟨(ze (ze fb nn (9218868437227405312 : UInt64)) nn sd), fl', fa', (zD ft nn pp), (zD fs pp (nn + (1 : Int32))), cc, (nn + (1 : Int32)), (zS X nn sv), by rw [eM]; exact N', A6 fl' fa' g1 g2 g3 (by rw [hw4]; exact g4), rfl, rfl⟩, d4_226, fun target q => ?_⟩⟩
  refine zC H0 hx hZ hown hby hw zQ (zBq u pp sd) _ ?_
  refine stN6_1 _ ?_
  refine stN6_2 _ ?_
  refine zC HN6_2 hx hZ hown hby hw zQ (zBr u pp sd nn) _ ?_
  refine stN6_3 _ ?_
  refine zC HN6_3 hx hZ hown hby hw zQ (zBs u pp sd nn nu) _ ?_
  refine stN6_4 _ ?_
  refine zC HN6_4 hx hZ hown hby hw zQ (zDu u pp sd nn hb23) _ ?_
  refine stN6_5 _ ?_
  refine zAK HN6_5 hx hZ 1 rfl (z := (8 : Int32)) rfl (g := (mkF m 32 #[oa u, oi pp, .val (.double sd), .second, oi nn, oi nn] [(.ref xb), (.int nn)])) rfl rfl (hb hby d4_32) _ ?_
  refine zC HN6_5 hx hZ hown hby hw zQ (zDv u pp sd nn hb33) _ ?_
  refine stN6_7 _ ?_
  refine zC HN6_7 hx hZ hown hby hw zQ (zDw u pp sd nn xb) _ ?_
  refine stN6_8 _ ?_
  refine zC HN6_8 hx hZ hown hby hw zQ (zDx u pp sd nn) _ ?_
  refine stN6_9 _ ?_
  refine zC HN6_9 hx hZ hown hby hw zQ (zDy u pp sd nn xp) _ ?_
  refine stN6_10 _ ?_
  refine zC HN6_10 hx hZ hown hby hw zQ (zDz u pp sd nn) _ ?_
  refine stN6_11 _ ?_
  refine zC HN6_11 hx hZ hown hby hw zQ (zEA u pp sd nn xb) _ ?_
  refine zd HN6_11 hx hZ 1 rfl h4 hw0 (g := (mkF m 91 #[oa u, oi pp, .val (.double sd), .second, oi nn, oi nn] [(.int nn), (.ref xb), (.double sd)])) rfl rfl (hb hby d4_91) _ ?_
  refine zC HN6_11 hx hZ hown hby hw zQ (zEB u pp sd nn w0 v92 hv92 hb93) _ ?_
  refine zC HN6_11 hx hZ hown hby hw zQ (zEC u pp sd nn) _ ?_
  refine stN6_13 _ ?_
  refine zC HN6_13 hx hZ hown hby hw zQ (zED u pp sd nn xb) _ ?_
  refine stN6_14 _ ?_
  refine zC HN6_14 hx hZ hown hby hw zQ (zEE u pp sd nn) _ ?_
  refine stN6_15 _ ?_
  refine zC HN6_15 hx hZ hown hby hw zQ (zEF u pp sd nn xp) _ ?_
  refine zf HN6_15 hx hZ 3 rfl h4 hw1 (g := (mkF m 111 #[oa u, oi pp, .val (.double sd), .second, oi nn, oi nn] [(.int nn), (.ref xp)])) rfl rfl (hb hby d4_111) _ ?_
  refine zC HN6_15 hx hZ hown hby hw zQ (zEG u pp sd nn w1 hb112) _ ?_
  refine stN6_17 _ ?_
  refine zC HN6_17 hx hZ hown hby hw zQ (zEH u pp sd nn cc) _ ?_
  refine stN6_18 _ ?_
  refine zC HN6_18 hx hZ hown hby hw zQ (own_N6_17 u pp sd nn kk cc hb139) _ ?_
  refine stN6_19 _ ?_
  refine zC HN6_19 hx hZ hown hby hw zQ (own_N6_18 u pp sd nn xb) _ ?_
  refine stN6_20 _ ?_
  refine zC HN6_20 hx hZ hown hby hw zQ (own_N6_19 u pp sd nn xl xb) _ ?_
  refine zf HN6_20 hx hZ 2 rfl ⟨by decide, by decide⟩ hw2 (g := (mkF m 201 #[oa u, oi pp, .val (.double sd), .second, oi nn, oi nn] [(.int 0), (.ref xl), (.ref xb), (.double sd)])) rfl rfl (hb hby d4_201) _ ?_
  refine zd HN6_20 hx hZ 1 rfl iw2 hw3 (g := (mkF m 202 #[oa u, oi pp, .val (.double sd), .second, oi nn, oi nn] [(.int w2), (.ref xb), (.double sd)])) rfl rfl (hb hby d4_202) _ ?_
  refine zC HN6_20 hx hZ hown hby hw zQ (own_N6_20 u pp sd nn w3 v203 hv203 hb204) _ ?_
  refine stN6_23 _ ?_
  refine zC HN6_23 hx hZ hown hby hw zQ (own_N6_21 u pp sd nn xp) _ ?_
  refine stN6_24 _ ?_
  refine zC HN6_24 hx hZ hown hby hw zQ (own_N6_22 u pp sd nn xl xp) _ ?_
  refine zf HN6_24 hx hZ 2 rfl ⟨by decide, by decide⟩ hw4 (g := (mkF m 216 #[oa u, oi pp, .val (.double sd), .second, oi nn, oi nn] [(.int 0), (.ref xl), (.ref xp)])) rfl rfl (hb hby d4_216) _ ?_
  refine zC HN6_24 hx hZ hown hby hw zQ (own_N6_23 u pp sd nn w4 xp) _ ?_
  refine stN6_26 _ ?_
  refine zC HN6_26 hx hZ hown hby hw zQ (own_N6_24 u pp sd nn) _ ?_
  refine stN6_27 _ ?_
  exact q
theorem own_N7_20 (u : Addr) (pp : Int32) (sd : UInt64) (nn : Int32) (w3 : UInt64) (v203 : Int32) (hv203 : (cmpValue (FP.dcmp sd w3) .g) = v203) (hb204 : ifCond.holds .ge v203 = true) :
    zF zl ok7 203 #[oa u, oi pp, .val (.double sd), .second, oi nn, oi nn] [(.double w3), (.double sd)] 226 #[oa u, oi pp, .val (.double sd), .second, oi nn, oi nn] [] := by
  refine zAD (pc2 := 204) d4_203 rfl (v := v203) hv203 ?_
  refine zx (pc' := 226) d4_204 hb204 (by decide) (by decide) ?_
  exact zH
set_option maxRecDepth 65536 in
set_option maxHeartbeats 4000000 in
theorem own_ofN7 (l : Launch) (Z : State) (a0 : Array Value) (hb0 : zU) (hw : ∀ d ∈ tables_1, d.before a0 Z = true) (u : Addr) (pp : Int32) (sd : UInt64) (xb xl xp nu xt xs : Addr) (fb : Int32 → UInt64) (fl fa ft : Int32 → Int32) (kk cc nn : Int32) (fs : Int32 → Int32) (X M : Int32 → Int) (sv : Int) (N : zAA fb ft fs nn X M) (He : zw fl fa kk cc nn X) (hp4 : zG 4 pp) (hsd : zN sd ((sv : Int) : Rat)) (bsv : -2147483648 ≤ sv ∧ sv ≤ 2147483647) (hs : fs pp = 0) (hck : cc = kk) (hr : X (fl 0) ≤ sv) :
    zX l Z a0 hb0 (⟨"com/example/tidewise/tidewise/search/UpperBounds", "offer", "(ID)V"⟩ : MethodName) ok7 6 none [] ({ frames := 3, cells := 0, slots := 0, locals := 80 } : Room) #[(.ref u), (.int pp), (.double sd)] [(u, oc1 (.ref xb) (.ref xl) (.ref xp) (.int kk) (.ref nu) (.int cc)), (xb, zA .double (zK fb)), (xl, zA .int (zE fl)), (xp, zA .int (zE fa)), (nu, oc2 (.int 4) (.ref xt) (.ref xs) (.int nn) .null (.int 0)), (xt, zA .int (zE ft)), (xs, zA .int [.int (fs (0 : Int32)), .int 0, .int 0, .int (fs (2 : Int32)), .int 0, .int 0, .int 0, .int 0, .int 0, .int (fs (1 : Int32)), .int 0, .int 0, .int 0, .int (fs (3 : Int32)), .int 0, .int 0])] (fun r cs' => ∃ (fb' : Int32 → UInt64) (fl' fa' ft' fs' : Int32 → Int32) (cc' nn' : Int32) (X' : Int32 → Int), zAA fb' ft' fs' nn' X' (zg M pp sv) ∧ zw fl' fa' kk cc' nn' X' ∧ r = none ∧ cs' = [(u, oc1 (.ref xb) (.ref xl) (.ref xp) (.int kk) (.ref nu) (.int cc')), (xb, zA .double (zK fb')), (xl, zA .int (zE fl')), (xp, zA .int (zE fa')), (nu, oc2 (.int 4) (.ref xt) (.ref xs) (.int nn') .null (.int 0)), (xt, zA .int (zE ft')), (xs, zA .int [.int (fs' (0 : Int32)), .int 0, .int 0, .int (fs' (2 : Int32)), .int 0, .int 0, .int 0, .int 0, .int 0, .int (fs' (1 : Int32)), .int 0, .int 0, .int 0, .int (fs' (3 : Int32)), .int 0, .int 0])]) := by
  refine zh (L0 := #[oa u, oi pp, .val (.double sd), .second, ou, ou]) (plainFor_of_name zBk) (fun m => zBm m u pp sd) ?_
  intro p e s m below meth c T0 hx hZ hown hby hml hnm H0
  obtain ⟨TN7_1, HN7_1, stN7_1⟩ := zI H0 hx hZ hown (zB hw 32 rfl) 0 4 rfl rfl (g := (mkF m 1 #[oa u, oi pp, .val (.double sd), .second, ou, ou] [(.ref u)])) rfl rfl (hb hby d4_1)
  obtain ⟨TN7_2, vN7_2_, csN7_2_, qN7_2, HN7_2, stN7_2⟩ := zAR HN7_1 hx hZ hown (zB hw 39 rfl) (zB hw 40 rfl) (zB hw 42 rfl) (zB hw 41 rfl) (zB hw 21 rfl) (zB hw 43 rfl) (by decide) (x := nu) 4 rfl (argsL := []) (rest := []) (W := 0) (zBp l Z a0 hb0 hw nu u xb xl xp xt xs fb fl fa ft kk cc nn _ _ _ _) (by decide) (by decide) (by decide) (by decide) (g := (mkF m 4 #[oa u, oi pp, .val (.double sd), .second, ou, ou] [(.ref nu)])) rfl (by rw [hml]; rfl) (lenOf zBl rfl) rfl (by show 2 * 0 + _ ≤ _; exact Nat.le_of_eq rfl) (hb hby d4_4)
  obtain ⟨rfl, rfl⟩ := qN7_2
  obtain ⟨TN7_3, HN7_3, stN7_3⟩ := zI HN7_2 hx hZ hown (zB hw 32 rfl) 0 4 rfl rfl (g := (mkF m 10 #[oa u, oi pp, .val (.double sd), .second, oi nn, ou] [(.ref u)])) rfl rfl (hb hby d4_10)
  have n4 := N.n4
  have k4 := He.k4
  have ck := He.ck
  have h4 := zDK N hp4 hs
  obtain ⟨TN7_4, vN7_4_, csN7_4_, qN7_4, HN7_4, stN7_4⟩ := zAR HN7_3 hx hZ hown (zB hw 46 rfl) (zB hw 47 rfl) (zB hw 49 rfl) (zB hw 48 rfl) (zB hw 21 rfl) (zB hw 50 rfl) (by decide) (x := nu) 4 rfl (argsL := [(.int pp)]) (rest := []) (W := 0) (zDh l Z a0 hb0 hw nu pp u xb xl xp xt xs fb fl fa ft kk cc nn fs hp4 N.n4.2 hs h4) (by decide) (by decide) (by decide) (by decide) (g := (mkF m 14 #[oa u, oi pp, .val (.double sd), .second, oi nn, ou] [(.int pp), (.ref nu)])) rfl (by rw [hml]; rfl) (lenOf zAW rfl) rfl (by show 2 * 0 + _ ≤ _; exact Nat.le_of_eq rfl) (hb hby d4_14)
  obtain ⟨rfl, rfl⟩ := qN7_4
  have N' := zDk N hp4 hs hsd bsv (9218868437227405312 : UInt64)
  have hMp : M pp = 9223372036854775807 := by
    rcases N.num pp hp4 with r | r
    · exact r.2
    · exact absurd hs r.1
  have eM : zg M pp sv = zS M pp sv := zCA (by omega)
  have a12 := zCn He.h12 (zAa n4) (zAp nn)
  have mi : zG (nn + 1) nn := (zAa n4 nn).mpr (Or.inr rfl)
  obtain ⟨TN7_5, HN7_5, stN7_5⟩ := zI HN7_4 hx hZ hown (zB hw 10 rfl) 0 0 rfl rfl (g := (mkF m 29 #[oa u, oi pp, .val (.double sd), .second, oi nn, oi nn] [(.ref u), (.int nn)])) rfl rfl (hb hby d4_29)
  obtain ⟨TN7_7, HN7_7, stN7_7⟩ := zI HN7_5 hx hZ hown (zB hw 10 rfl) 0 0 rfl rfl (g := (mkF m 67 #[oa u, oi pp, .val (.double sd), .second, oi nn, oi nn] [(.ref u)])) rfl rfl (hb hby d4_67)
  obtain ⟨TN7_8, HN7_8, stN7_8⟩ := zBL HN7_7 hx hZ 1 rfl h4 (g := (mkF m 75 #[oa u, oi pp, .val (.double sd), .second, oi nn, oi nn] [(.double 9218868437227405312), (.int nn), (.ref xb)])) rfl rfl (hb hby d4_75)
  change zR _ _ _ _ _ _ _ _ _ _ _ _ _ _ [(u, oc1 (.ref xb) (.ref xl) (.ref xp) (.int kk) (.ref nu) (.int cc)), (xb, zA .double (zK (ze fb nn (9218868437227405312 : UInt64)))), (xl, zA .int (zE fl)), (xp, zA .int (zE fa)), (nu, oc2 (.int 4) (.ref xt) (.ref xs) (.int (nn + (1 : Int32))) .null (.int 0)), (xt, zA .int (zE (zD ft nn pp))), (xs, zA .int [.int ((zD fs pp (nn + (1 : Int32))) (0 : Int32)), .int 0, .int 0, .int ((zD fs pp (nn + (1 : Int32))) (2 : Int32)), .int 0, .int 0, .int 0, .int 0, .int 0, .int ((zD fs pp (nn + (1 : Int32))) (1 : Int32)), .int 0, .int 0, .int 0, .int ((zD fs pp (nn + (1 : Int32))) (3 : Int32)), .int 0, .int 0])] _ _ at HN7_8
  obtain ⟨TN7_9, HN7_9, stN7_9⟩ := zI HN7_8 hx hZ hown (zB hw 15 rfl) 0 2 rfl rfl (g := (mkF m 77 #[oa u, oi pp, .val (.double sd), .second, oi nn, oi nn] [(.ref u)])) rfl rfl (hb hby d4_77)
  obtain ⟨TN7_10, HN7_10, stN7_10⟩ := zAs HN7_9 hx hZ 3 rfl h4 (g := (mkF m 83 #[oa u, oi pp, .val (.double sd), .second, oi nn, oi nn] [(.int (-1 : Int32)), (.int nn), (.ref xp)])) rfl rfl (hb hby d4_83)
  change zR _ _ _ _ _ _ _ _ _ _ _ _ _ _ [(u, oc1 (.ref xb) (.ref xl) (.ref xp) (.int kk) (.ref nu) (.int cc)), (xb, zA .double (zK (ze fb nn (9218868437227405312 : UInt64)))), (xl, zA .int (zE fl)), (xp, zA .int (zE (zD fa nn (-1 : Int32)))), (nu, oc2 (.int 4) (.ref xt) (.ref xs) (.int (nn + (1 : Int32))) .null (.int 0)), (xt, zA .int (zE (zD ft nn pp))), (xs, zA .int [.int ((zD fs pp (nn + (1 : Int32))) (0 : Int32)), .int 0, .int 0, .int ((zD fs pp (nn + (1 : Int32))) (2 : Int32)), .int 0, .int 0, .int 0, .int 0, .int 0, .int ((zD fs pp (nn + (1 : Int32))) (1 : Int32)), .int 0, .int 0, .int 0, .int ((zD fs pp (nn + (1 : Int32))) (3 : Int32)), .int 0, .int 0])] _ _ at HN7_10
  obtain ⟨TN7_11, HN7_11, stN7_11⟩ := zI HN7_10 hx hZ hown (zB hw 10 rfl) 0 0 rfl rfl (g := (mkF m 86 #[oa u, oi pp, .val (.double sd), .second, oi nn, oi nn] [(.ref u), (.double sd)])) rfl rfl (hb hby d4_86)
  obtain ⟨w0, hw0⟩ : ∃ z, (ze fb nn (9218868437227405312 : UInt64)) nn = z := ⟨_, rfl⟩
  obtain ⟨v92, hv92⟩ : ∃ z : Int32, (cmpValue (FP.dcmp sd w0) .g) = z := ⟨_, rfl⟩
  have hbN : ∀ j, zG (nn + (1 : Int32)) j → zN ((ze (ze fb nn (9218868437227405312 : UInt64)) nn sd) j) (((zS X nn sv) j : Int) : Rat) := fun j hj => (N'.bnd j hj).1
  have hN4 : ∀ j, zG (nn + (1 : Int32)) j → zG 4 j := fun j hj => zAT N'.n4 hj
  obtain ⟨TN7_13, HN7_13, stN7_13⟩ := zI HN7_11 hx hZ hown (zB hw 10 rfl) 0 0 rfl rfl (g := (mkF m 98 #[oa u, oi pp, .val (.double sd), .second, oi nn, oi nn] [(.ref u)])) rfl rfl (hb hby d4_98)
  obtain ⟨TN7_14, HN7_14, stN7_14⟩ := zBL HN7_13 hx hZ 1 rfl h4 (g := (mkF m 104 #[oa u, oi pp, .val (.double sd), .second, oi nn, oi nn] [(.double sd), (.int nn), (.ref xb)])) rfl rfl (hb hby d4_104)
  change zR _ _ _ _ _ _ _ _ _ _ _ _ _ _ [(u, oc1 (.ref xb) (.ref xl) (.ref xp) (.int kk) (.ref nu) (.int cc)), (xb, zA .double (zK (ze (ze fb nn (9218868437227405312 : UInt64)) nn sd))), (xl, zA .int (zE fl)), (xp, zA .int (zE (zD fa nn (-1 : Int32)))), (nu, oc2 (.int 4) (.ref xt) (.ref xs) (.int (nn + (1 : Int32))) .null (.int 0)), (xt, zA .int (zE (zD ft nn pp))), (xs, zA .int [.int ((zD fs pp (nn + (1 : Int32))) (0 : Int32)), .int 0, .int 0, .int ((zD fs pp (nn + (1 : Int32))) (2 : Int32)), .int 0, .int 0, .int 0, .int 0, .int 0, .int ((zD fs pp (nn + (1 : Int32))) (1 : Int32)), .int 0, .int 0, .int 0, .int ((zD fs pp (nn + (1 : Int32))) (3 : Int32)), .int 0, .int 0])] _ _ at HN7_14
  obtain ⟨TN7_15, HN7_15, stN7_15⟩ := zI HN7_14 hx hZ hown (zB hw 15 rfl) 0 2 rfl rfl (g := (mkF m 106 #[oa u, oi pp, .val (.double sd), .second, oi nn, oi nn] [(.ref u)])) rfl rfl (hb hby d4_106)
  obtain ⟨w1, hw1⟩ : ∃ z, (zD fa nn (-1 : Int32)) nn = z := ⟨_, rfl⟩
  obtain ⟨TN7_17, HN7_17, stN7_17⟩ := zI HN7_15 hx hZ hown (zB hw 64 rfl) 0 5 rfl rfl (g := (mkF m 132 #[oa u, oi pp, .val (.double sd), .second, oi nn, oi nn] [(.ref u)])) rfl rfl (hb hby d4_132)
  obtain ⟨TN7_18, HN7_18, stN7_18⟩ := zI HN7_17 hx hZ hown (zB hw 17 rfl) 0 3 rfl rfl (g := (mkF m 136 #[oa u, oi pp, .val (.double sd), .second, oi nn, oi nn] [(.ref u), (.int cc)])) rfl rfl (hb hby d4_136)
  obtain ⟨TN7_19, HN7_19, stN7_19⟩ := zI HN7_18 hx hZ hown (zB hw 10 rfl) 0 0 rfl rfl (g := (mkF m 193 #[oa u, oi pp, .val (.double sd), .second, oi nn, oi nn] [(.ref u), (.double sd)])) rfl rfl (hb hby d4_193)
  obtain ⟨TN7_20, HN7_20, stN7_20⟩ := zI HN7_19 hx hZ hown (zB hw 13 rfl) 0 1 rfl rfl (g := (mkF m 197 #[oa u, oi pp, .val (.double sd), .second, oi nn, oi nn] [(.ref u), (.ref xb), (.double sd)])) rfl rfl (hb hby d4_197)
  obtain ⟨w2, hw2⟩ : ∃ z, fl (0 : Int32) = z := ⟨_, rfl⟩
  have c0_ : zG cc 0 := by rw [hck]; rw [zAM]; exact ⟨by decide, by have : (0 : Int32).toInt = 0 := rfl; omega⟩
  have mw2 : zG nn w2 := by rw [← hw2]; exact (He.h12.p1 0 c0_).1
  have iw2 := zAT n4 mw2
  obtain ⟨w3, hw3⟩ : ∃ z, (ze (ze fb nn (9218868437227405312 : UInt64)) nn sd) w2 = z := ⟨_, rfl⟩
  obtain ⟨v203, hv203⟩ : ∃ z : Int32, (cmpValue (FP.dcmp sd w3) .g) = z := ⟨_, rfl⟩
  have hb23 : if_icmp.holds .ne nn nn = false := by rw [zAQ]; exact decide_eq_false (not_not_intro rfl)
  have hb33 : if_icmp.holds .ne nn (8 : Int32) = true := by rw [zAQ]; exact decide_eq_true (fun z => by rw [z] at n4; exact absurd n4.2 (by decide))
  have ew0 : w0 = (9218868437227405312 : UInt64) := by rw [← hw0]; simp [ze]
  have hb93 : ifCond.holds .lt v92 = true := by rw [← hv92, ew0, zDo hsd bsv.2]; rfl
  have hmN : (zD fa nn (-1 : Int32)) nn = -1 := by simp [zD]
  have e12 : zY (zD fa nn (-1 : Int32)) fl (nn + (1 : Int32)) cc := a12
  have e4 : ∀ j, zG (nn + (1 : Int32)) j → j ≠ nn → (zD fa nn (-1 : Int32)) j = -1 → X (fl 0) ≤ X j := by
    intro j hj hne hf
    have hj' := ((zAa n4 j).mp hj).resolve_right hne
    have hf' : fa j = -1 := by simpa [zD, hne] using hf
    exact (He.h4 j hj' hf').2
  have ew1 : w1 = -1 := by rw [← hw1]; exact hmN
  have hb112 : ifCond.holds .lt w1 = true := by rw [ew1]; decide
  have hb139 : if_icmp.holds .ge cc kk = true := by rw [zCH, hck]; exact decide_eq_true (Int.le_refl _)
  have nw2 : w2 ≠ nn := by
    rw [← hw2]
    exact zBz e12 c0_ hmN
  have bw3 : zN w3 ((X (fl 0) : Int) : Rat) := by
    rw [← hw3, hw2]
    have z := (N.bnd w2 mw2).1
    simpa [ze, nw2] using z
  have hb204 : ifCond.holds .ge v203 = true := by rw [← hv203, zCa hsd bw3]; exact decide_eq_true (zAS hr)
  refine ⟨_, _, _, _, 226, #[oa u, oi pp, .val (.double sd), .second, oi nn, oi nn], HN7_20, by decide, by decide, Or.inl ⟨rfl, ⟨(ze (ze fb nn (9218868437227405312 : UInt64)) nn sd), fl, (zD fa nn (-1 : Int32)), (zD ft nn pp), (zD fs pp (nn + (1 : Int32))), cc, (nn + (1 : Int32)), (zS X nn sv), by rw [eM]; exact N', own_He_o e12 He.h3 k4 hck e4 hmN hr, rfl, rfl⟩, d4_226, fun target q => ?_⟩⟩
  refine zC H0 hx hZ hown hby hw zQ (zBq u pp sd) _ ?_
  refine stN7_1 _ ?_
  refine stN7_2 _ ?_
  refine zC HN7_2 hx hZ hown hby hw zQ (zBr u pp sd nn) _ ?_
  refine stN7_3 _ ?_
  refine zC HN7_3 hx hZ hown hby hw zQ (zBs u pp sd nn nu) _ ?_
  refine stN7_4 _ ?_
  refine zC HN7_4 hx hZ hown hby hw zQ (zDu u pp sd nn hb23) _ ?_
  refine stN7_5 _ ?_
  refine zAK HN7_5 hx hZ 1 rfl (z := (8 : Int32)) rfl (g := (mkF m 32 #[oa u, oi pp, .val (.double sd), .second, oi nn, oi nn] [(.ref xb), (.int nn)])) rfl rfl (hb hby d4_32) _ ?_
  refine zC HN7_5 hx hZ hown hby hw zQ (zDv u pp sd nn hb33) _ ?_
  refine stN7_7 _ ?_
  refine zC HN7_7 hx hZ hown hby hw zQ (zDw u pp sd nn xb) _ ?_
  refine stN7_8 _ ?_
  refine zC HN7_8 hx hZ hown hby hw zQ (zDx u pp sd nn) _ ?_
  refine stN7_9 _ ?_
  refine zC HN7_9 hx hZ hown hby hw zQ (zDy u pp sd nn xp) _ ?_
  refine stN7_10 _ ?_
  refine zC HN7_10 hx hZ hown hby hw zQ (zDz u pp sd nn) _ ?_
  refine stN7_11 _ ?_
  refine zC HN7_11 hx hZ hown hby hw zQ (zEA u pp sd nn xb) _ ?_
  refine zd HN7_11 hx hZ 1 rfl h4 hw0 (g := (mkF m 91 #[oa u, oi pp, .val (.double sd), .second, oi nn, oi nn] [(.int nn), (.ref xb), (.double sd)])) rfl rfl (hb hby d4_91) _ ?_
  refine zC HN7_11 hx hZ hown hby hw zQ (zEB u pp sd nn w0 v92 hv92 hb93) _ ?_
  refine zC HN7_11 hx hZ hown hby hw zQ (zEC u pp sd nn) _ ?_
  refine stN7_13 _ ?_
  refine zC HN7_13 hx hZ hown hby hw zQ (zED u pp sd nn xb) _ ?_
  refine stN7_14 _ ?_
  refine zC HN7_14 hx hZ hown hby hw zQ (zEE u pp sd nn) _ ?_
  refine stN7_15 _ ?_
  refine zC HN7_15 hx hZ hown hby hw zQ (zEF u pp sd nn xp) _ ?_
  refine zf HN7_15 hx hZ 3 rfl h4 hw1 (g := (mkF m 111 #[oa u, oi pp, .val (.double sd), .second, oi nn, oi nn] [(.int nn), (.ref xp)])) rfl rfl (hb hby d4_111) _ ?_
  refine zC HN7_15 hx hZ hown hby hw zQ (zEG u pp sd nn w1 hb112) _ ?_
  refine stN7_17 _ ?_
  refine zC HN7_17 hx hZ hown hby hw zQ (zEH u pp sd nn cc) _ ?_
  refine stN7_18 _ ?_
  refine zC HN7_18 hx hZ hown hby hw zQ (own_N6_17 u pp sd nn kk cc hb139) _ ?_
  refine stN7_19 _ ?_
  refine zC HN7_19 hx hZ hown hby hw zQ (own_N6_18 u pp sd nn xb) _ ?_
  refine stN7_20 _ ?_
  refine zC HN7_20 hx hZ hown hby hw zQ (own_N6_19 u pp sd nn xl xb) _ ?_
  refine zf HN7_20 hx hZ 2 rfl ⟨by decide, by decide⟩ hw2 (g := (mkF m 201 #[oa u, oi pp, .val (.double sd), .second, oi nn, oi nn] [(.int 0), (.ref xl), (.ref xb), (.double sd)])) rfl rfl (hb hby d4_201) _ ?_
  refine zd HN7_20 hx hZ 1 rfl iw2 hw3 (g := (mkF m 202 #[oa u, oi pp, .val (.double sd), .second, oi nn, oi nn] [(.int w2), (.ref xb), (.double sd)])) rfl rfl (hb hby d4_202) _ ?_
  refine zC HN7_20 hx hZ hown hby hw zQ (own_N7_20 u pp sd nn w3 v203 hv203 hb204) _ ?_
  exact q
theorem zCV (l : Launch) (Z : State) (a0 : Array Value) (hb0 : zU) (hw : ∀ d ∈ tables_1, d.before a0 Z = true) (u : Addr) (pp : Int32) (sd : UInt64) (xb xl xp nu xt xs : Addr) (fb : Int32 → UInt64) (fl fa ft : Int32 → Int32) (kk cc nn : Int32) (fs : Int32 → Int32) (X M : Int32 → Int) (sv : Int) (N : zAA fb ft fs nn X M) (He : zw fl fa kk cc nn X) (hp4 : zG 4 pp) (hsd : zN sd ((sv : Int) : Rat)) (bsv : -2147483648 ≤ sv ∧ sv ≤ 2147483647) :
    zX l Z a0 hb0 (⟨"com/example/tidewise/tidewise/search/UpperBounds", "offer", "(ID)V"⟩ : MethodName) ok7 6 none [] ({ frames := 3, cells := 0, slots := 0, locals := 80 } : Room) #[(.ref u), (.int pp), (.double sd)] [(u, oc1 (.ref xb) (.ref xl) (.ref xp) (.int kk) (.ref nu) (.int cc)), (xb, zA .double (zK fb)), (xl, zA .int (zE fl)), (xp, zA .int (zE fa)), (nu, oc2 (.int 4) (.ref xt) (.ref xs) (.int nn) .null (.int 0)), (xt, zA .int (zE ft)), (xs, zA .int [.int (fs (0 : Int32)), .int 0, .int 0, .int (fs (2 : Int32)), .int 0, .int 0, .int 0, .int 0, .int 0, .int (fs (1 : Int32)), .int 0, .int 0, .int 0, .int (fs (3 : Int32)), .int 0, .int 0])] (fun r cs' => ∃ (fb' : Int32 → UInt64) (fl' fa' ft' fs' : Int32 → Int32) (cc' nn' : Int32) (X' : Int32 → Int), zAA fb' ft' fs' nn' X' (zg M pp sv) ∧ zw fl' fa' kk cc' nn' X' ∧ r = none ∧ cs' = [(u, oc1 (.ref xb) (.ref xl) (.ref xp) (.int kk) (.ref nu) (.int cc')), (xb, zA .double (zK fb')), (xl, zA .int (zE fl')), (xp, zA .int (zE fa')), (nu, oc2 (.int 4) (.ref xt) (.ref xs) (.int nn') .null (.int 0)), (xt, zA .int (zE ft')), (xs, zA .int [.int (fs' (0 : Int32)), .int 0, .int 0, .int (fs' (2 : Int32)), .int 0, .int 0, .int 0, .int 0, .int 0, .int (fs' (1 : Int32)), .int 0, .int 0, .int 0, .int (fs' (3 : Int32)), .int 0, .int 0])]) := by
  by_cases hs : fs pp = 0
  · by_cases hck : cc = kk
    · rcases Int.lt_or_le sv (X (fl 0)) with hr | hr
      · exact own_ofN6 l Z a0 hb0 hw u pp sd xb xl xp nu xt xs fb fl fa ft kk cc nn fs X M sv N He hp4 hsd bsv hs hck hr
      · exact own_ofN7 l Z a0 hb0 hw u pp sd xb xl xp nu xt xs fb fl fa ft kk cc nn fs X M sv N He hp4 hsd bsv hs hck hr
    · have ck := He.ck
      have ne : cc.toInt ≠ kk.toInt := fun z => hck (Int32.toInt_inj.mp z)
      exact own_ofN5 l Z a0 hb0 hw u pp sd xb xl xp nu xt xs fb fl fa ft kk cc nn fs X M sv N He hp4 hsd bsv hs (by omega)
  · rcases Int.lt_or_le sv (X (fs pp - 1)) with hl | hl
    · by_cases hm : fa (fs pp - 1) = -1
      · have q := (N.num pp hp4).resolve_left (fun z => hs z.1)
        have hck := (He.h4 _ q.2.1 hm).1
        rcases Int.lt_or_le sv (X (fl 0)) with hr | hr
        · exact own_ofE3 l Z a0 hb0 hw u pp sd xb xl xp nu xt xs fb fl fa ft kk cc nn fs X M sv N He hp4 hsd bsv hs hl hck hm hr
        · exact own_ofE4 l Z a0 hb0 hw u pp sd xb xl xp nu xt xs fb fl fa ft kk cc nn fs X M sv N He hp4 hsd bsv hs hl hck hm hr
      · exact own_ofE2 l Z a0 hb0 hw u pp sd xb xl xp nu xt xs fb fl fa ft kk cc nn fs X M sv N He hp4 hsd bsv hs hl hm
    · exact own_ofE1 l Z a0 hb0 hw u pp sd xb xl xp nu xt xs fb fl fa ft kk cc nn fs X M sv N He hp4 hsd bsv hs hl
theorem own_kt1_0 (u : Addr) :
    zF zBN ok8 0 #[oa u] [] 1 #[oa u] [(.ref u)] := by
  refine zJ (pc2 := 1) d12_0 rfl rfl rfl ?_
  exact zH
theorem own_kt1_1 (u : Addr) (cc : Int32) :
    zF zBN ok8 4 #[oa u] [(.int cc)] 5 #[oa u] [(.ref u), (.int cc)] := by
  refine zJ (pc2 := 5) d12_4 rfl rfl rfl ?_
  exact zH
theorem own_kt1_2 (u : Addr) (kk : Int32) (cc : Int32) (hb8 : if_icmp.holds .ne cc kk = false) :
    zF zBN ok8 8 #[oa u] [(.int kk), (.int cc)] 12 #[oa u] [(.ref u)] := by
  refine zAw (pc2 := 11) d12_8 rfl hb8 ?_
  refine zJ (pc2 := 12) d12_11 rfl rfl rfl ?_
  exact zH
theorem own_kt1_3 (u : Addr) (xb : Addr) :
    zF zBN ok8 15 #[oa u] [(.ref xb)] 16 #[oa u] [(.ref u), (.ref xb)] := by
  refine zJ (pc2 := 16) d12_15 rfl rfl rfl ?_
  exact zH
theorem own_kt1_4 (u : Addr) (xl : Addr) (xb : Addr) :
    zF zBN ok8 19 #[oa u] [(.ref xl), (.ref xb)] 20 #[oa u] [(.int 0), (.ref xl), (.ref xb)] := by
  refine zT (v := 0) (pc2 := 20) d12_19 rfl rfl ?_
  exact zH
theorem own_kt1_5 (u : Addr) (w1 : UInt64) :
    zF zBN ok8 22 #[oa u] [(.double w1)] 28 #[oa u] [(.double w1)] := by
  refine zAN (pc' := 28) d12_22 (by decide) (by decide) ?_
  exact zH
set_option maxRecDepth 65536 in
set_option maxHeartbeats 4000000 in
theorem own_kth1 (l : Launch) (Z : State) (a0 : Array Value) (hb0 : zU) (hw : ∀ d ∈ tables_1, d.before a0 Z = true) (u : Addr) (xb xl xp nu xt xs : Addr) (fb : Int32 → UInt64) (fl fa ft : Int32 → Int32) (kk cc nn : Int32) (fs : Int32 → Int32) (hck : cc = kk) (h0 : zG 4 (fl 0)) :
    zX l Z a0 hb0 (⟨"com/example/tidewise/tidewise/search/UpperBounds", "kth", "()D"⟩ : MethodName) ok8 1 (some .double) [] ({ frames := 0, cells := 0, slots := 0, locals := 0 } : Room) #[(.ref u)] [(u, oc1 (.ref xb) (.ref xl) (.ref xp) (.int kk) (.ref nu) (.int cc)), (xb, zA .double (zK fb)), (xl, zA .int (zE fl)), (xp, zA .int (zE fa)), (nu, oc2 (.int 4) (.ref xt) (.ref xs) (.int nn) .null (.int 0)), (xt, zA .int (zE ft)), (xs, zA .int [.int (fs (0 : Int32)), .int 0, .int 0, .int (fs (2 : Int32)), .int 0, .int 0, .int 0, .int 0, .int 0, .int (fs (1 : Int32)), .int 0, .int 0, .int 0, .int (fs (3 : Int32)), .int 0, .int 0])] (fun r cs' => (∃ z, z = fb (fl 0) ∧ r = some (.double z)) ∧ cs' = [(u, oc1 (.ref xb) (.ref xl) (.ref xp) (.int kk) (.ref nu) (.int cc)), (xb, zA .double (zK fb)), (xl, zA .int (zE fl)), (xp, zA .int (zE fa)), (nu, oc2 (.int 4) (.ref xt) (.ref xs) (.int nn) .null (.int 0)), (xt, zA .int (zE ft)), (xs, zA .int [.int (fs (0 : Int32)), .int 0, .int 0, .int (fs (2 : Int32)), .int 0, .int 0, .int 0, .int 0, .int 0, .int (fs (1 : Int32)), .int 0, .int 0, .int 0, .int (fs (3 : Int32)), .int 0, .int 0])]) := by
  refine zh (L0 := #[oa u]) (plainFor_of_name own_pn12) (fun m => own_ef12 m u) ?_
  intro p e s m below meth c T0 hx hZ hown hby hml hnm H0
  obtain ⟨Tkt1_1, Hkt1_1, stkt1_1⟩ := zI H0 hx hZ hown (zB hw 64 rfl) 0 5 rfl rfl (g := (mkF m 1 #[oa u] [(.ref u)])) rfl rfl (hb hby d12_1)
  obtain ⟨Tkt1_2, Hkt1_2, stkt1_2⟩ := zI Hkt1_1 hx hZ hown (zB hw 17 rfl) 0 3 rfl rfl (g := (mkF m 5 #[oa u] [(.ref u), (.int cc)])) rfl rfl (hb hby d12_5)
  obtain ⟨Tkt1_3, Hkt1_3, stkt1_3⟩ := zI Hkt1_2 hx hZ hown (zB hw 10 rfl) 0 0 rfl rfl (g := (mkF m 12 #[oa u] [(.ref u)])) rfl rfl (hb hby d12_12)
  obtain ⟨Tkt1_4, Hkt1_4, stkt1_4⟩ := zI Hkt1_3 hx hZ hown (zB hw 13 rfl) 0 1 rfl rfl (g := (mkF m 16 #[oa u] [(.ref u), (.ref xb)])) rfl rfl (hb hby d12_16)
  obtain ⟨w0, hw0⟩ : ∃ z, fl (0 : Int32) = z := ⟨_, rfl⟩
  have i0 : zG 4 w0 := by rw [← hw0]; exact h0
  obtain ⟨w1, hw1⟩ : ∃ z, fb w0 = z := ⟨_, rfl⟩
  have hb8 : if_icmp.holds .ne cc kk = false := by rw [zAQ]; exact decide_eq_false (not_not_intro hck)
  refine ⟨_, _, _, _, 28, #[oa u], Hkt1_4, by decide, by decide, Or.inr ⟨.double, (.double w1), [], .dreturn, rfl, ⟨⟨w1, by rw [← hw1, hw0], rfl⟩, rfl⟩, d12_28, own_retD _, fun target q => ?_⟩⟩
  refine zC H0 hx hZ hown hby hw zBO (own_kt1_0 u) _ ?_
  refine stkt1_1 _ ?_
  refine zC Hkt1_1 hx hZ hown hby hw zBO (own_kt1_1 u cc) _ ?_
  refine stkt1_2 _ ?_
  refine zC Hkt1_2 hx hZ hown hby hw zBO (own_kt1_2 u kk cc hb8) _ ?_
  refine stkt1_3 _ ?_
  refine zC Hkt1_3 hx hZ hown hby hw zBO (own_kt1_3 u xb) _ ?_
  refine stkt1_4 _ ?_
  refine zC Hkt1_4 hx hZ hown hby hw zBO (own_kt1_4 u xl xb) _ ?_
  refine zf Hkt1_4 hx hZ 2 rfl ⟨by decide, by decide⟩ hw0 (g := (mkF m 20 #[oa u] [(.int 0), (.ref xl), (.ref xb)])) rfl rfl (hb hby d12_20) _ ?_
  refine zd Hkt1_4 hx hZ 1 rfl i0 hw1 (g := (mkF m 21 #[oa u] [(.int w0), (.ref xb)])) rfl rfl (hb hby d12_21) _ ?_
  refine zC Hkt1_4 hx hZ hown hby hw zBO (own_kt1_5 u w1) _ ?_
  exact q
theorem own_kt0_2 (u : Addr) (kk : Int32) (cc : Int32) (hb8 : if_icmp.holds .ne cc kk = true) :
    zF zBN ok8 8 #[oa u] [(.int kk), (.int cc)] 28 #[oa u] [(.double 9218868437227405312)] := by
  refine zAJ (pc' := 25) d12_8 hb8 (by decide) (by decide) ?_
  refine zDT (v := (9218868437227405312 : UInt64)) (pc2 := 28) d12_25 rfl (List.mem_of_getElem? (i := 0) rfl) ?_
  exact zH
set_option maxRecDepth 65536 in
set_option maxHeartbeats 4000000 in
theorem own_kth0 (l : Launch) (Z : State) (a0 : Array Value) (hb0 : zU) (hw : ∀ d ∈ tables_1, d.before a0 Z = true) (u : Addr) (xb xl xp nu xt xs : Addr) (fb : Int32 → UInt64) (fl fa ft : Int32 → Int32) (kk cc nn : Int32) (fs : Int32 → Int32) (hck : cc ≠ kk) :
    zX l Z a0 hb0 (⟨"com/example/tidewise/tidewise/search/UpperBounds", "kth", "()D"⟩ : MethodName) ok8 1 (some .double) [] ({ frames := 0, cells := 0, slots := 0, locals := 0 } : Room) #[(.ref u)] [(u, oc1 (.ref xb) (.ref xl) (.ref xp) (.int kk) (.ref nu) (.int cc)), (xb, zA .double (zK fb)), (xl, zA .int (zE fl)), (xp, zA .int (zE fa)), (nu, oc2 (.int 4) (.ref xt) (.ref xs) (.int nn) .null (.int 0)), (xt, zA .int (zE ft)), (xs, zA .int [.int (fs (0 : Int32)), .int 0, .int 0, .int (fs (2 : Int32)), .int 0, .int 0, .int 0, .int 0, .int 0, .int (fs (1 : Int32)), .int 0, .int 0, .int 0, .int (fs (3 : Int32)), .int 0, .int 0])] (fun r cs' => r = some (.double 9218868437227405312) ∧ cs' = [(u, oc1 (.ref xb) (.ref xl) (.ref xp) (.int kk) (.ref nu) (.int cc)), (xb, zA .double (zK fb)), (xl, zA .int (zE fl)), (xp, zA .int (zE fa)), (nu, oc2 (.int 4) (.ref xt) (.ref xs) (.int nn) .null (.int 0)), (xt, zA .int (zE ft)), (xs, zA .int [.int (fs (0 : Int32)), .int 0, .int 0, .int (fs (2 : Int32)), .int 0, .int 0, .int 0, .int 0, .int 0, .int (fs (1 : Int32)), .int 0, .int 0, .int 0, .int (fs (3 : Int32)), .int 0, .int 0])]) := by
  refine zh (L0 := #[oa u]) (plainFor_of_name own_pn12) (fun m => own_ef12 m u) ?_
  intro p e s m below meth c T0 hx hZ hown hby hml hnm H0
  obtain ⟨Tkt0_1, Hkt0_1, stkt0_1⟩ := zI H0 hx hZ hown (zB hw 64 rfl) 0 5 rfl rfl (g := (mkF m 1 #[oa u] [(.ref u)])) rfl rfl (hb hby d12_1)
  obtain ⟨Tkt0_2, Hkt0_2, stkt0_2⟩ := zI Hkt0_1 hx hZ hown (zB hw 17 rfl) 0 3 rfl rfl (g := (mkF m 5 #[oa u] [(.ref u), (.int cc)])) rfl rfl (hb hby d12_5)
  have hb8 : if_icmp.holds .ne cc kk = true := by rw [zAQ]; exact decide_eq_true hck
  refine ⟨_, _, _, _, 28, #[oa u], Hkt0_2, by decide, by decide, Or.inr ⟨.double, (.double 9218868437227405312), [], .dreturn, rfl, ⟨rfl, rfl⟩, d12_28, own_retD _, fun target q => ?_⟩⟩
  refine zC H0 hx hZ hown hby hw zBO (own_kt1_0 u) _ ?_
  refine stkt0_1 _ ?_
  refine zC Hkt0_1 hx hZ hown hby hw zBO (own_kt1_1 u cc) _ ?_
  refine stkt0_2 _ ?_
  refine zC Hkt0_2 hx hZ hown hby hw zBO (own_kt0_2 u kk cc hb8) _ ?_
  exact q
theorem own_ni0 (nu : Addr) :
    zF zBw ok3 0 #[oa nu, oi 4] [] 1 #[oa nu, oi 4] [(.ref nu)] := by
  refine zJ (pc2 := 1) d3_0 rfl rfl rfl ?_
  exact zH
theorem own_ni1 (nu : Addr) :
    zF zBw ok3 4 #[oa nu, oi 4] [] 6 #[oa nu, oi 4] [(.int 4), (.ref nu)] := by
  refine zJ (pc2 := 5) d3_4 rfl rfl rfl ?_
  refine zM (pc2 := 6) d3_5 rfl rfl ?_
  exact zH
theorem own_ni2 (nu : Addr) :
    zF zBw ok3 9 #[oa nu, oi 4] [] 12 #[oa nu, oi 4] [(.int 8), (.ref nu)] := by
  refine zJ (pc2 := 10) d3_9 rfl rfl rfl ?_
  refine zAu (v := 8) (pc2 := 12) d3_10 rfl rfl ?_
  exact zH
theorem own_ni3 (nu : Addr) :
    zF zBw ok3 17 #[oa nu, oi 4] [] 20 #[oa nu, oi 4] [(.int 16), (.ref nu)] := by
  refine zJ (pc2 := 18) d3_17 rfl rfl rfl ?_
  refine zAu (v := 16) (pc2 := 20) d3_18 rfl rfl ?_
  exact zH
set_option maxRecDepth 65536 in
set_option maxHeartbeats 4000000 in
theorem own_nin (l : Launch) (Z : State) (a0 : Array Value) (hb0 : zU) (hw : ∀ d ∈ tables_1, d.before a0 Z = true) (nu : Addr) (u xb xl xp : Addr) (kk : Int32) :
    zX l Z a0 hb0 (⟨"com/example/tidewise/tidewise/search/Numbering", "<init>", "(I)V"⟩ : MethodName) ok3 2 none [] ({ frames := 1, cells := 2, slots := 24, locals := 12 } : Room) #[(.ref nu), (.int 4)] [(u, oc1 (.ref xb) (.ref xl) (.ref xp) (.int kk) .null (.int 0)), (xb, zA .double [.double 0, .double 0, .double 0, .double 0, .double 0, .double 0, .double 0, .double 0]), (xl, zA .int [.int 0, .int 0, .int 0, .int 0, .int 0, .int 0, .int 0, .int 0]), (xp, zA .int [.int 0, .int 0, .int 0, .int 0, .int 0, .int 0, .int 0, .int 0]), (nu, oc2 (.int 0) .null .null (.int 0) .null (.int 0))] (fun r cs' => ∃ xt xs, r = none ∧ cs' = [(u, oc1 (.ref xb) (.ref xl) (.ref xp) (.int kk) .null (.int 0)), (xb, zA .double [.double 0, .double 0, .double 0, .double 0, .double 0, .double 0, .double 0, .double 0]), (xl, zA .int [.int 0, .int 0, .int 0, .int 0, .int 0, .int 0, .int 0, .int 0]), (xp, zA .int [.int 0, .int 0, .int 0, .int 0, .int 0, .int 0, .int 0, .int 0]), (nu, oc2 (.int 4) (.ref xt) (.ref xs) (.int 0) .null (.int 0)), (xt, zA .int [.int 0, .int 0, .int 0, .int 0, .int 0, .int 0, .int 0, .int 0]), (xs, zA .int [.int 0, .int 0, .int 0, .int 0, .int 0, .int 0, .int 0, .int 0, .int 0, .int 0, .int 0, .int 0, .int 0, .int 0, .int 0, .int 0])]) := by
  refine zh (L0 := #[oa nu, oi 4]) (plainFor_of_name own_pn3) (fun m => own_ef3 m nu (4 : Int32)) ?_
  intro p e s m below meth c T0 hx hZ hown hby hml hnm H0
  obtain ⟨Tni1, Hni1, stni1⟩ := own_initO H0 hx hZ hown (zB hw 25 rfl) (zB hw 7 rfl) (zB hw 8 rfl) (g := (mkF m 1 #[oa nu, oi 4] [(.ref nu)])) rfl (by rw [hml]; rfl) rfl (hb hby d3_1) (by decide) (W := 0) (by show 2 * 0 + _ ≤ _; exact Nat.le_of_eq rfl) (by decide)
  obtain ⟨Tni2, Hni2, stni2⟩ := zAl Hni1 hx hZ hown (zB hw 26 rfl) 4 0 rfl rfl (Or.inr ⟨(zB hw 27 rfl), rfl, hnm⟩) (zB hw 20 rfl) (ty := .int) (by decide) rfl rfl (g := (mkF m 6 #[oa nu, oi 4] [(.int 4), (.ref nu)])) rfl rfl (hb hby d3_6)
  change zR _ _ _ _ _ _ _ _ _ _ _ _ _ _ [(u, oc1 (.ref xb) (.ref xl) (.ref xp) (.int kk) .null (.int 0)), (xb, zA .double [.double 0, .double 0, .double 0, .double 0, .double 0, .double 0, .double 0, .double 0]), (xl, zA .int [.int 0, .int 0, .int 0, .int 0, .int 0, .int 0, .int 0, .int 0]), (xp, zA .int [.int 0, .int 0, .int 0, .int 0, .int 0, .int 0, .int 0, .int 0]), (nu, oc2 (.int 4) .null .null (.int 0) .null (.int 0))] _ _ at Hni2
  obtain ⟨Tni3, xt, Hni3, stni3⟩ := zBi Hni2 hx hZ (zB hw 12 rfl) (g := (mkF m 12 #[oa nu, oi 4] [(.int 8), (.ref nu)])) rfl (hb hby d3_12) rfl (by decide) (cap := 8) (by decide) (by decide) (by decide) (by decide)
  change zR _ _ _ _ _ _ _ _ _ _ _ _ _ _ [(u, oc1 (.ref xb) (.ref xl) (.ref xp) (.int kk) .null (.int 0)), (xb, zA .double [.double 0, .double 0, .double 0, .double 0, .double 0, .double 0, .double 0, .double 0]), (xl, zA .int [.int 0, .int 0, .int 0, .int 0, .int 0, .int 0, .int 0, .int 0]), (xp, zA .int [.int 0, .int 0, .int 0, .int 0, .int 0, .int 0, .int 0, .int 0]), (nu, oc2 (.int 4) .null .null (.int 0) .null (.int 0)), (xt, zA .int [.int 0, .int 0, .int 0, .int 0, .int 0, .int 0, .int 0, .int 0])] _ _ at Hni3
  obtain ⟨Tni4, Hni4, stni4⟩ := zAl Hni3 hx hZ hown (zB hw 28 rfl) 4 1 rfl rfl (Or.inl (zB hw 29 rfl)) (zB hw 20 rfl) (ty := (.array .int)) (by decide) rfl rfl (g := (mkF m 14 #[oa nu, oi 4] [(.ref xt), (.ref nu)])) rfl rfl (hb hby d3_14)
  change zR _ _ _ _ _ _ _ _ _ _ _ _ _ _ [(u, oc1 (.ref xb) (.ref xl) (.ref xp) (.int kk) .null (.int 0)), (xb, zA .double [.double 0, .double 0, .double 0, .double 0, .double 0, .double 0, .double 0, .double 0]), (xl, zA .int [.int 0, .int 0, .int 0, .int 0, .int 0, .int 0, .int 0, .int 0]), (xp, zA .int [.int 0, .int 0, .int 0, .int 0, .int 0, .int 0, .int 0, .int 0]), (nu, oc2 (.int 4) (.ref xt) .null (.int 0) .null (.int 0)), (xt, zA .int [.int 0, .int 0, .int 0, .int 0, .int 0, .int 0, .int 0, .int 0])] _ _ at Hni4
  obtain ⟨Tni5, xs, Hni5, stni5⟩ := zBi Hni4 hx hZ (zB hw 12 rfl) (g := (mkF m 20 #[oa nu, oi 4] [(.int 16), (.ref nu)])) rfl (hb hby d3_20) rfl (by decide) (cap := 16) (by decide) (by decide) (by decide) (by decide)
  change zR _ _ _ _ _ _ _ _ _ _ _ _ _ _ [(u, oc1 (.ref xb) (.ref xl) (.ref xp) (.int kk) .null (.int 0)), (xb, zA .double [.double 0, .double 0, .double 0, .double 0, .double 0, .double 0, .double 0, .double 0]), (xl, zA .int [.int 0, .int 0, .int 0, .int 0, .int 0, .int 0, .int 0, .int 0]), (xp, zA .int [.int 0, .int 0, .int 0, .int 0, .int 0, .int 0, .int 0, .int 0]), (nu, oc2 (.int 4) (.ref xt) .null (.int 0) .null (.int 0)), (xt, zA .int [.int 0, .int 0, .int 0, .int 0, .int 0, .int 0, .int 0, .int 0]), (xs, zA .int [.int 0, .int 0, .int 0, .int 0, .int 0, .int 0, .int 0, .int 0, .int 0, .int 0, .int 0, .int 0, .int 0, .int 0, .int 0, .int 0])] _ _ at Hni5
  obtain ⟨Tni6, Hni6, stni6⟩ := zAl Hni5 hx hZ hown (zB hw 30 rfl) 4 2 rfl rfl (Or.inl (zB hw 31 rfl)) (zB hw 20 rfl) (ty := (.array .int)) (by decide) rfl rfl (g := (mkF m 22 #[oa nu, oi 4] [(.ref xs), (.ref nu)])) rfl rfl (hb hby d3_22)
  change zR _ _ _ _ _ _ _ _ _ _ _ _ _ _ [(u, oc1 (.ref xb) (.ref xl) (.ref xp) (.int kk) .null (.int 0)), (xb, zA .double [.double 0, .double 0, .double 0, .double 0, .double 0, .double 0, .double 0, .double 0]), (xl, zA .int [.int 0, .int 0, .int 0, .int 0, .int 0, .int 0, .int 0, .int 0]), (xp, zA .int [.int 0, .int 0, .int 0, .int 0, .int 0, .int 0, .int 0, .int 0]), (nu, oc2 (.int 4) (.ref xt) (.ref xs) (.int 0) .null (.int 0)), (xt, zA .int [.int 0, .int 0, .int 0, .int 0, .int 0, .int 0, .int 0, .int 0]), (xs, zA .int [.int 0, .int 0, .int 0, .int 0, .int 0, .int 0, .int 0, .int 0, .int 0, .int 0, .int 0, .int 0, .int 0, .int 0, .int 0, .int 0])] _ _ at Hni6
  refine ⟨_, _, _, _, 25, #[oa nu, oi 4], Hni6, by decide, by decide, Or.inl ⟨rfl, ⟨xt, xs, rfl, rfl⟩, d3_25, fun target q => ?_⟩⟩
  refine zC H0 hx hZ hown hby hw zCo (own_ni0 nu) _ ?_
  refine stni1 _ ?_
  refine zC Hni1 hx hZ hown hby hw zCo (own_ni1 nu) _ ?_
  refine stni2 _ ?_
  refine zC Hni2 hx hZ hown hby hw zCo (own_ni2 nu) _ ?_
  refine stni3 _ ?_
  refine stni4 _ ?_
  refine zC Hni4 hx hZ hown hby hw zCo (own_ni3 nu) _ ?_
  refine stni5 _ ?_
  refine stni6 _ ?_
  exact q
theorem own_ui0 (u : Addr) (kk : Int32) :
    zF zBM ok6 0 #[oa u, oi kk, oi 4] [] 1 #[oa u, oi kk, oi 4] [(.ref u)] := by
  refine zJ (pc2 := 1) d1_0 rfl rfl rfl ?_
  exact zH
theorem own_ui1 (u : Addr) (kk : Int32) :
    zF zBM ok6 4 #[oa u, oi kk, oi 4] [] 7 #[oa u, oi kk, oi 4] [(.int 8), (.ref u)] := by
  refine zJ (pc2 := 5) d1_4 rfl rfl rfl ?_
  refine zAu (v := 8) (pc2 := 7) d1_5 rfl rfl ?_
  exact zH
theorem own_ui2 (u : Addr) (kk : Int32) :
    zF zBM ok6 12 #[oa u, oi kk, oi 4] [] 15 #[oa u, oi kk, oi 4] [(.int 8), (.ref u)] := by
  refine zJ (pc2 := 13) d1_12 rfl rfl rfl ?_
  refine zAu (v := 8) (pc2 := 15) d1_13 rfl rfl ?_
  exact zH
theorem own_ui3 (u : Addr) (kk : Int32) :
    zF zBM ok6 20 #[oa u, oi kk, oi 4] [] 23 #[oa u, oi kk, oi 4] [(.int 8), (.ref u)] := by
  refine zJ (pc2 := 21) d1_20 rfl rfl rfl ?_
  refine zAu (v := 8) (pc2 := 23) d1_21 rfl rfl ?_
  exact zH
theorem own_ui4 (u : Addr) (kk : Int32) :
    zF zBM ok6 28 #[oa u, oi kk, oi 4] [] 30 #[oa u, oi kk, oi 4] [(.int kk), (.ref u)] := by
  refine zJ (pc2 := 29) d1_28 rfl rfl rfl ?_
  refine zM (pc2 := 30) d1_29 rfl rfl ?_
  exact zH
theorem own_ui5 (u : Addr) (kk : Int32) :
    zF zBM ok6 33 #[oa u, oi kk, oi 4] [] 34 #[oa u, oi kk, oi 4] [(.ref u)] := by
  refine zJ (pc2 := 34) d1_33 rfl rfl rfl ?_
  exact zH
theorem own_ui6 (u : Addr) (kk : Int32) (nu : Addr) :
    zF zBM ok6 37 #[oa u, oi kk, oi 4] [(.ref nu), (.ref u)] 39 #[oa u, oi kk, oi 4] [(.int 4), (.ref nu), (.ref nu), (.ref u)] := by
  refine zBh (pc2 := 38) d1_37 rfl rfl ?_
  refine zM (pc2 := 39) d1_38 rfl rfl ?_
  exact zH
set_option maxRecDepth 65536 in
set_option maxHeartbeats 4000000 in
theorem own_uin (l : Launch) (Z : State) (a0 : Array Value) (hb0 : zU) (hw : ∀ d ∈ tables_1, d.before a0 Z = true) (u : Addr) (kk : Int32)  :
    zX l Z a0 hb0 (⟨"com/example/tidewise/tidewise/search/UpperBounds", "<init>", "(II)V"⟩ : MethodName) ok6 3 none [] ({ frames := 2, cells := 6, slots := 54, locals := 40 } : Room) #[(.ref u), (.int kk), (.int 4)] [(u, oc1 .null .null .null (.int 0) .null (.int 0))] (fun r cs' => ∃ xb xl xp nu xt xs, r = none ∧ cs' = [(u, oc1 (.ref xb) (.ref xl) (.ref xp) (.int kk) (.ref nu) (.int 0)), (xb, zA .double (zK (fun _ => (0 : UInt64)))), (xl, zA .int (zE (fun _ => (0 : Int32)))), (xp, zA .int (zE (fun _ => (0 : Int32)))), (nu, oc2 (.int 4) (.ref xt) (.ref xs) (.int 0) .null (.int 0)), (xt, zA .int (zE (fun _ => (0 : Int32)))), (xs, zA .int [.int ((fun _ => (0 : Int32)) (0 : Int32)), .int 0, .int 0, .int ((fun _ => (0 : Int32)) (2 : Int32)), .int 0, .int 0, .int 0, .int 0, .int 0, .int ((fun _ => (0 : Int32)) (1 : Int32)), .int 0, .int 0, .int 0, .int ((fun _ => (0 : Int32)) (3 : Int32)), .int 0, .int 0])]) := by
  refine zh (L0 := #[oa u, oi kk, oi 4]) (plainFor_of_name own_pn1) (fun m => own_ef1 m u kk (4 : Int32)) ?_
  intro p e s m below meth c T0 hx hZ hown hby hml hnm H0
  obtain ⟨Tui1, Hui1, stui1⟩ := own_initO H0 hx hZ hown (zB hw 6 rfl) (zB hw 7 rfl) (zB hw 8 rfl) (g := (mkF m 1 #[oa u, oi kk, oi 4] [(.ref u)])) rfl (by rw [hml]; rfl) rfl (hb hby d1_1) (by decide) (W := 0) (by show 2 * 0 + _ ≤ _; exact Nat.le_of_eq rfl) (by decide)
  obtain ⟨Tui2, xb, Hui2, stui2⟩ := zBi Hui1 hx hZ (zB hw 9 rfl) (g := (mkF m 7 #[oa u, oi kk, oi 4] [(.int 8), (.ref u)])) rfl (hb hby d1_7) rfl (by decide) (cap := 8) (by decide) (by decide) (by decide) (by decide)
  change zR _ _ _ _ _ _ _ _ _ _ _ _ _ _ [(u, oc1 .null .null .null (.int 0) .null (.int 0)), (xb, zA .double [.double 0, .double 0, .double 0, .double 0, .double 0, .double 0, .double 0, .double 0])] _ _ at Hui2
  obtain ⟨Tui3, Hui3, stui3⟩ := zAl Hui2 hx hZ hown (zB hw 10 rfl) 0 0 rfl rfl (Or.inl (zB hw 11 rfl)) (zB hw 1 rfl) (ty := (.array .double)) (by decide) rfl rfl (g := (mkF m 9 #[oa u, oi kk, oi 4] [(.ref xb), (.ref u)])) rfl rfl (hb hby d1_9)
  change zR _ _ _ _ _ _ _ _ _ _ _ _ _ _ [(u, oc1 (.ref xb) .null .null (.int 0) .null (.int 0)), (xb, zA .double [.double 0, .double 0, .double 0, .double 0, .double 0, .double 0, .double 0, .double 0])] _ _ at Hui3
  obtain ⟨Tui4, xl, Hui4, stui4⟩ := zBi Hui3 hx hZ (zB hw 12 rfl) (g := (mkF m 15 #[oa u, oi kk, oi 4] [(.int 8), (.ref u)])) rfl (hb hby d1_15) rfl (by decide) (cap := 8) (by decide) (by decide) (by decide) (by decide)
  change zR _ _ _ _ _ _ _ _ _ _ _ _ _ _ [(u, oc1 (.ref xb) .null .null (.int 0) .null (.int 0)), (xb, zA .double [.double 0, .double 0, .double 0, .double 0, .double 0, .double 0, .double 0, .double 0]), (xl, zA .int [.int 0, .int 0, .int 0, .int 0, .int 0, .int 0, .int 0, .int 0])] _ _ at Hui4
  obtain ⟨Tui5, Hui5, stui5⟩ := zAl Hui4 hx hZ hown (zB hw 13 rfl) 0 1 rfl rfl (Or.inl (zB hw 14 rfl)) (zB hw 1 rfl) (ty := (.array .int)) (by decide) rfl rfl (g := (mkF m 17 #[oa u, oi kk, oi 4] [(.ref xl), (.ref u)])) rfl rfl (hb hby d1_17)
  change zR _ _ _ _ _ _ _ _ _ _ _ _ _ _ [(u, oc1 (.ref xb) (.ref xl) .null (.int 0) .null (.int 0)), (xb, zA .double [.double 0, .double 0, .double 0, .double 0, .double 0, .double 0, .double 0, .double 0]), (xl, zA .int [.int 0, .int 0, .int 0, .int 0, .int 0, .int 0, .int 0, .int 0])] _ _ at Hui5
  obtain ⟨Tui6, xp, Hui6, stui6⟩ := zBi Hui5 hx hZ (zB hw 12 rfl) (g := (mkF m 23 #[oa u, oi kk, oi 4] [(.int 8), (.ref u)])) rfl (hb hby d1_23) rfl (by decide) (cap := 8) (by decide) (by decide) (by decide) (by decide)
  change zR _ _ _ _ _ _ _ _ _ _ _ _ _ _ [(u, oc1 (.ref xb) (.ref xl) .null (.int 0) .null (.int 0)), (xb, zA .double [.double 0, .double 0, .double 0, .double 0, .double 0, .double 0, .double 0, .double 0]), (xl, zA .int [.int 0, .int 0, .int 0, .int 0, .int 0, .int 0, .int 0, .int 0]), (xp, zA .int [.int 0, .int 0, .int 0, .int 0, .int 0, .int 0, .int 0, .int 0])] _ _ at Hui6
  obtain ⟨Tui7, Hui7, stui7⟩ := zAl Hui6 hx hZ hown (zB hw 15 rfl) 0 2 rfl rfl (Or.inl (zB hw 16 rfl)) (zB hw 1 rfl) (ty := (.array .int)) (by decide) rfl rfl (g := (mkF m 25 #[oa u, oi kk, oi 4] [(.ref xp), (.ref u)])) rfl rfl (hb hby d1_25)
  change zR _ _ _ _ _ _ _ _ _ _ _ _ _ _ [(u, oc1 (.ref xb) (.ref xl) (.ref xp) (.int 0) .null (.int 0)), (xb, zA .double [.double 0, .double 0, .double 0, .double 0, .double 0, .double 0, .double 0, .double 0]), (xl, zA .int [.int 0, .int 0, .int 0, .int 0, .int 0, .int 0, .int 0, .int 0]), (xp, zA .int [.int 0, .int 0, .int 0, .int 0, .int 0, .int 0, .int 0, .int 0])] _ _ at Hui7
  obtain ⟨Tui8, Hui8, stui8⟩ := zAl Hui7 hx hZ hown (zB hw 17 rfl) 0 3 rfl rfl (Or.inr ⟨(zB hw 18 rfl), rfl, hnm⟩) (zB hw 1 rfl) (ty := .int) (by decide) rfl rfl (g := (mkF m 30 #[oa u, oi kk, oi 4] [(.int kk), (.ref u)])) rfl rfl (hb hby d1_30)
  change zR _ _ _ _ _ _ _ _ _ _ _ _ _ _ [(u, oc1 (.ref xb) (.ref xl) (.ref xp) (.int kk) .null (.int 0)), (xb, zA .double [.double 0, .double 0, .double 0, .double 0, .double 0, .double 0, .double 0, .double 0]), (xl, zA .int [.int 0, .int 0, .int 0, .int 0, .int 0, .int 0, .int 0, .int 0]), (xp, zA .int [.int 0, .int 0, .int 0, .int 0, .int 0, .int 0, .int 0, .int 0])] _ _ at Hui8
  obtain ⟨Tui9, nu, Hui9, stui9⟩ := own_newO Hui8 hx hZ hown (zB hw 19 rfl) (zB hw 20 rfl) (zB hw 21 rfl) [("com/example/tidewise/tidewise/search/Numbering", "range", "I", .int 0), ("com/example/tidewise/tidewise/search/Numbering", "things", "[I", .null), ("com/example/tidewise/tidewise/search/Numbering", "slots", "[I", .null), ("com/example/tidewise/tidewise/search/Numbering", "count", "I", .int 0), ("com/example/tidewise/tidewise/search/Numbering", "table", "Lcom/example/tidewise/tidewise/search/Numbering$Table;", .null), ("com/example/tidewise/tidewise/search/Numbering", "stamp", "I", .int 0)] (by
      intro f hf
      simp only [List.mem_cons, List.not_mem_nil, or_false] at hf
      rcases hf with rfl | rfl | rfl | rfl | rfl | rfl
      · exact ⟨Or.inr (zB hw 27 rfl), .int, by decide, rfl⟩
      · exact ⟨Or.inl (zB hw 29 rfl), (.array .int), by decide, rfl⟩
      · exact ⟨Or.inl (zB hw 31 rfl), (.array .int), by decide, rfl⟩
      · exact ⟨Or.inl (zB hw 45 rfl), .int, by decide, rfl⟩
      · exact ⟨Or.inl (zB hw 52 rfl), (.object "com/example/tidewise/tidewise/search/Numbering$Table"), by decide, rfl⟩
      · exact ⟨Or.inl (zB hw 95 rfl), .int, by decide, rfl⟩) (by decide) (g := (mkF m 34 #[oa u, oi kk, oi 4] [(.ref u)])) rfl (hb hby d1_34) (by decide) (by decide)
  change zR _ _ _ _ _ _ _ _ _ _ _ _ _ _ [(u, oc1 (.ref xb) (.ref xl) (.ref xp) (.int kk) .null (.int 0)), (xb, zA .double [.double 0, .double 0, .double 0, .double 0, .double 0, .double 0, .double 0, .double 0]), (xl, zA .int [.int 0, .int 0, .int 0, .int 0, .int 0, .int 0, .int 0, .int 0]), (xp, zA .int [.int 0, .int 0, .int 0, .int 0, .int 0, .int 0, .int 0, .int 0]), (nu, oc2 (.int 0) .null .null (.int 0) .null (.int 0))] _ _ at Hui9
  obtain ⟨Tui10, vui10_, csui10_, qui10, Hui10, stui10⟩ := own_callI Hui9 hx hZ hown rfl (zB hw 22 rfl) (zB hw 23 rfl) (zB hw 21 rfl) (zB hw 24 rfl) (by decide) (x := nu) (argsL := [(.int 4)]) (rest := [(.ref nu), (.ref u)]) (W := 2) (own_nin l Z a0 hb0 hw nu u xb xl xp kk) (by decide) (by decide) (by decide) (by decide) (g := (mkF m 39 #[oa u, oi kk, oi 4] [(.int 4), (.ref nu), (.ref nu), (.ref u)])) rfl (by rw [hml]; rfl) (lenOf own_pd4 rfl) rfl (by show 2 * 0 + _ ≤ _; exact Nat.le_of_eq rfl) (hb hby d1_39)
  obtain ⟨xt, xs, rfl, rfl⟩ := qui10
  obtain ⟨Tui11, Hui11, stui11⟩ := zAl Hui10 hx hZ hown (zB hw 32 rfl) 0 4 rfl rfl (Or.inr ⟨(zB hw 33 rfl), rfl, hnm⟩) (zB hw 1 rfl) (ty := (.object "com/example/tidewise/tidewise/search/Numbering")) (by decide) rfl rfl (g := (mkF m 42 #[oa u, oi kk, oi 4] [(.ref nu), (.ref u)])) rfl rfl (hb hby d1_42)
  change zR _ _ _ _ _ _ _ _ _ _ _ _ _ _ [(u, oc1 (.ref xb) (.ref xl) (.ref xp) (.int kk) (.ref nu) (.int 0)), (xb, zA .double [.double 0, .double 0, .double 0, .double 0, .double 0, .double 0, .double 0, .double 0]), (xl, zA .int [.int 0, .int 0, .int 0, .int 0, .int 0, .int 0, .int 0, .int 0]), (xp, zA .int [.int 0, .int 0, .int 0, .int 0, .int 0, .int 0, .int 0, .int 0]), (nu, oc2 (.int 4) (.ref xt) (.ref xs) (.int 0) .null (.int 0)), (xt, zA .int [.int 0, .int 0, .int 0, .int 0, .int 0, .int 0, .int 0, .int 0]), (xs, zA .int [.int 0, .int 0, .int 0, .int 0, .int 0, .int 0, .int 0, .int 0, .int 0, .int 0, .int 0, .int 0, .int 0, .int 0, .int 0, .int 0])] _ _ at Hui11
  refine ⟨_, _, _, _, 45, #[oa u, oi kk, oi 4], Hui11, by decide, by decide, Or.inl ⟨rfl, ⟨xb, xl, xp, nu, xt, xs, rfl, rfl⟩, d1_45, fun target q => ?_⟩⟩
  refine zC H0 hx hZ hown hby hw zBj (own_ui0 u kk) _ ?_
  refine stui1 _ ?_
  refine zC Hui1 hx hZ hown hby hw zBj (own_ui1 u kk) _ ?_
  refine stui2 _ ?_
  refine stui3 _ ?_
  refine zC Hui3 hx hZ hown hby hw zBj (own_ui2 u kk) _ ?_
  refine stui4 _ ?_
  refine stui5 _ ?_
  refine zC Hui5 hx hZ hown hby hw zBj (own_ui3 u kk) _ ?_
  refine stui6 _ ?_
  refine stui7 _ ?_
  refine zC Hui7 hx hZ hown hby hw zBj (own_ui4 u kk) _ ?_
  refine stui8 _ ?_
  refine zC Hui8 hx hZ hown hby hw zBj (own_ui5 u kk) _ ?_
  refine stui9 _ ?_
  refine zC Hui9 hx hZ hown hby hw zBj (own_ui6 u kk nu) _ ?_
  refine stui10 _ ?_
  refine stui11 _ ?_
  exact q
theorem own_mn0 (ja : Int64) (jb : Int64) (v2 : Int32) (hv2 : (if ja > jb then (1 : Int32) else if ja = jb then 0 else -1) = v2) (t11_0 : Int64) (ht11_0 : (bif ifCond.holds .gt v2 then jb else ja) = t11_0) :
    zF own_K13 ok0 0 #[.val (.long ja), .second, .val (.long jb), .second] [] 11 #[.val (.long ja), .second, .val (.long jb), .second] [(.long t11_0)] := by
  subst ht11_0
  refine zBK (pc2 := 1) d13_0 rfl rfl ?_
  refine zBK (pc2 := 2) d13_1 rfl rfl ?_
  refine zAi (pc2 := 3) d13_2 rfl (v := v2) hv2 ?_
  cases hb3 : ifCond.holds .gt v2
  · refine zy (pc2 := 6) d13_3 rfl hb3 ?_
    refine zBK (pc2 := 7) d13_6 rfl rfl ?_
    refine zAN (pc' := 11) d13_7 (by decide) (by decide) ?_
    exact zH
  · refine zx (pc' := 10) d13_3 hb3 (by decide) (by decide) ?_
    refine zBK (pc2 := 11) d13_10 rfl rfl ?_
    exact zH
set_option maxRecDepth 65536 in
set_option maxHeartbeats 4000000 in
theorem zBG (l : Launch) (Z : State) (a0 : Array Value) (hb0 : zU) (hw : ∀ d ∈ tables_1, d.before a0 Z = true) (ja : Int64) (jb : Int64) (cs : List (Addr × zr)) :
    zX l Z a0 hb0 (⟨"java/lang/Math", "min", "(JJ)J"⟩ : MethodName) ok0 4 (some .long) [] ({ frames := 0, cells := 0, slots := 0, locals := 0 } : Room) #[(.long ja), (.long jb)] cs (fun r cs' => ∃ z : Int64, z.toInt = (if ja.toInt ≤ jb.toInt then ja.toInt else jb.toInt) ∧ r = some (.long z) ∧ cs' = cs) := by
  refine zh (L0 := #[.val (.long ja), .second, .val (.long jb), .second]) (by decide +kernel) (fun m => own_ef13 m ja jb) ?_
  intro p e s m below meth c T0 hx hZ hown hby hml hnm H0
  obtain ⟨v2, hv2⟩ : ∃ z : Int32, (if ja > jb then (1 : Int32) else if ja = jb then 0 else -1) = z := ⟨_, rfl⟩
  obtain ⟨t11_0, ht11_0⟩ : ∃ z : Int64, (bif ifCond.holds .gt v2 then jb else ja) = z := ⟨_, rfl⟩
  have e : t11_0.toInt = if ja.toInt ≤ jb.toInt then ja.toInt else jb.toInt := by
    rw [← ht11_0, ← hv2, own_lc_gt]
    by_cases h : jb.toInt < ja.toInt
    · rw [decide_eq_true h, if_neg (by omega)]; rfl
    · rw [decide_eq_false h, if_pos (by omega)]; rfl
  refine ⟨_, _, _, _, 11, #[.val (.long ja), .second, .val (.long jb), .second], H0, by decide, by decide, Or.inr ⟨.long, (.long t11_0), [], .lreturn, rfl, ⟨_, e, rfl, rfl⟩, d13_11, own_retJ _, fun target q => ?_⟩⟩
  refine zC H0 hx hZ hown hby hw own_K13_ok (own_mn0 ja jb v2 hv2 t11_0 ht11_0) _ ?_
  exact q
theorem own_cx010_0 (xm : Addr) :
    zF zAB method_2_code 0 #[oa xm, oi 0, oi 1, ou, ou] [] 2 #[oa xm, oi 0, oi 1, ou, ou] [(.int 0), (.ref xm)] := by
  refine zJ (pc2 := 1) d14_0 rfl rfl rfl ?_
  refine zM (pc2 := 2) d14_1 rfl rfl ?_
  exact zH
theorem own_cx010_1 (xm : Addr) (m0 : Int64) :
    zF zAB method_2_code 3 #[oa xm, oi 0, oi 1, ou, ou] [(.long m0)] 5 #[oa xm, oi 0, oi 1, ou, ou] [(.int 1), (.ref xm), (.long m0)] := by
  refine zJ (pc2 := 4) d14_3 rfl rfl rfl ?_
  refine zM (pc2 := 5) d14_4 rfl rfl ?_
  exact zH
theorem own_cx010_2 (xm : Addr) (m1 : Int64) (m0 : Int64) (v6 : Int32) (hv6 : (if m0 > m1 then (1 : Int32) else if m0 = m1 then 0 else -1) = v6) (hb7 : ifCond.holds .le v6 = true) :
    zF zAB method_2_code 6 #[oa xm, oi 0, oi 1, ou, ou] [(.long m1), (.long m0)] 24 #[oa xm, oi 0, oi 1, ou, ou] [] := by
  refine zAi (pc2 := 7) d14_6 rfl (v := v6) hv6 ?_
  refine zx (pc' := 24) d14_7 hb7 (by decide) (by decide) ?_
  exact zH
set_option maxRecDepth 65536 in
set_option maxHeartbeats 4000000 in
theorem own_cx010 (l : Launch) (Z : State) (a0 : Array Value) (hb0 : zU) (hw : ∀ d ∈ tables_1, d.before a0 Z = true) (xm : Addr) (u xb xl xp nu xt xs : Addr) (r0 r1 r2 r3 r4 r5 r6 : zr) (m0 m1 m2 m3 : Int64) (h : m0.toInt ≤ m1.toInt) :
    zX l Z a0 hb0 (⟨"com/example/tidewise/tidewise/search/UpperBoundsKthPinLaw", "cx", "([JII)V"⟩ : MethodName) method_2_code 5 none [] ({ frames := 0, cells := 0, slots := 0, locals := 0 } : Room) #[(.ref xm), (.int 0), (.int 1)] [(u, r0), (xb, r1), (xl, r2), (xp, r3), (nu, r4), (xt, r5), (xs, r6), (xm, zA .long [.long m0, .long m1, .long m2, .long m3])] (fun r cs' => ∃ za zb : Int64, (za.toInt ≤ zb.toInt ∧ ((za.toInt = m0.toInt ∧ zb.toInt = m1.toInt) ∨ (za.toInt = m1.toInt ∧ zb.toInt = m0.toInt))) ∧ r = none ∧ cs' = [(u, r0), (xb, r1), (xl, r2), (xp, r3), (nu, r4), (xt, r5), (xs, r6), (xm, zA .long [.long za, .long zb, .long m2, .long m3])]) := by
  refine zh (L0 := #[oa xm, oi 0, oi 1, ou, ou]) (plainFor_of_name zBB) (fun m => zBE m xm (0 : Int32) (1 : Int32)) ?_
  intro p e s m below meth c T0 hx hZ hown hby hml hnm H0
  obtain ⟨v6, hv6⟩ : ∃ z : Int32, (if m0 > m1 then (1 : Int32) else if m0 = m1 then 0 else -1) = z := ⟨_, rfl⟩
  have hb7 : ifCond.holds .le v6 = true := by rw [← hv6, zAt]; exact decide_eq_true h
  refine ⟨_, _, _, _, 24, #[oa xm, oi 0, oi 1, ou, ou], H0, by decide, by decide, Or.inl ⟨rfl, ⟨m0, m1, ⟨by omega, Or.inl ⟨rfl, rfl⟩⟩, rfl, rfl⟩, d14_24, fun target q => ?_⟩⟩
  refine zC H0 hx hZ hown hby hw zt (own_cx010_0 xm) _ ?_
  refine zv H0 hx hZ 7 0 rfl (by decide) rfl (g := (mkF m 2 #[oa xm, oi 0, oi 1, ou, ou] [(.int 0), (.ref xm)])) rfl rfl (hb hby d14_2) _ ?_
  refine zC H0 hx hZ hown hby hw zt (own_cx010_1 xm m0) _ ?_
  refine zv H0 hx hZ 7 1 rfl (by decide) rfl (g := (mkF m 5 #[oa xm, oi 0, oi 1, ou, ou] [(.int 1), (.ref xm), (.long m0)])) rfl rfl (hb hby d14_5) _ ?_
  refine zC H0 hx hZ hown hby hw zt (own_cx010_2 xm m1 m0 v6 hv6 hb7) _ ?_
  exact q
theorem own_cx011_2 (xm : Addr) (m1 : Int64) (m0 : Int64) (v6 : Int32) (hv6 : (if m0 > m1 then (1 : Int32) else if m0 = m1 then 0 else -1) = v6) (hb7 : ifCond.holds .le v6 = false) :
    zF zAB method_2_code 6 #[oa xm, oi 0, oi 1, ou, ou] [(.long m1), (.long m0)] 12 #[oa xm, oi 0, oi 1, ou, ou] [(.int 0), (.ref xm)] := by
  refine zAi (pc2 := 7) d14_6 rfl (v := v6) hv6 ?_
  refine zy (pc2 := 10) d14_7 rfl hb7 ?_
  refine zJ (pc2 := 11) d14_10 rfl rfl rfl ?_
  refine zM (pc2 := 12) d14_11 rfl rfl ?_
  exact zH
theorem own_cx011_3 (xm : Addr) (m0 : Int64) :
    zF zAB method_2_code 13 #[oa xm, oi 0, oi 1, ou, ou] [(.long m0)] 18 #[oa xm, oi 0, oi 1, .val (.long m0), .second] [(.int 1), (.ref xm), (.int 0), (.ref xm)] := by
  refine zCI (pc2 := 14) d14_13 rfl (L' := #[oa xm, oi 0, oi 1, .val (.long m0), .second]) rfl ?_
  refine zJ (pc2 := 15) d14_14 rfl rfl rfl ?_
  refine zM (pc2 := 16) d14_15 rfl rfl ?_
  refine zJ (pc2 := 17) d14_16 rfl rfl rfl ?_
  refine zM (pc2 := 18) d14_17 rfl rfl ?_
  exact zH
theorem own_cx011_4 (xm : Addr) (m0 : Int64) :
    zF zAB method_2_code 20 #[oa xm, oi 0, oi 1, .val (.long m0), .second] [] 23 #[oa xm, oi 0, oi 1, .val (.long m0), .second] [(.long m0), (.int 1), (.ref xm)] := by
  refine zJ (pc2 := 21) d14_20 rfl rfl rfl ?_
  refine zM (pc2 := 22) d14_21 rfl rfl ?_
  refine zBK (pc2 := 23) d14_22 rfl rfl ?_
  exact zH
set_option maxRecDepth 65536 in
set_option maxHeartbeats 4000000 in
theorem own_cx011 (l : Launch) (Z : State) (a0 : Array Value) (hb0 : zU) (hw : ∀ d ∈ tables_1, d.before a0 Z = true) (xm : Addr) (u xb xl xp nu xt xs : Addr) (r0 r1 r2 r3 r4 r5 r6 : zr) (m0 m1 m2 m3 : Int64) (h : ¬ m0.toInt ≤ m1.toInt) :
    zX l Z a0 hb0 (⟨"com/example/tidewise/tidewise/search/UpperBoundsKthPinLaw", "cx", "([JII)V"⟩ : MethodName) method_2_code 5 none [] ({ frames := 0, cells := 0, slots := 0, locals := 0 } : Room) #[(.ref xm), (.int 0), (.int 1)] [(u, r0), (xb, r1), (xl, r2), (xp, r3), (nu, r4), (xt, r5), (xs, r6), (xm, zA .long [.long m0, .long m1, .long m2, .long m3])] (fun r cs' => ∃ za zb : Int64, (za.toInt ≤ zb.toInt ∧ ((za.toInt = m0.toInt ∧ zb.toInt = m1.toInt) ∨ (za.toInt = m1.toInt ∧ zb.toInt = m0.toInt))) ∧ r = none ∧ cs' = [(u, r0), (xb, r1), (xl, r2), (xp, r3), (nu, r4), (xt, r5), (xs, r6), (xm, zA .long [.long za, .long zb, .long m2, .long m3])]) := by
  refine zh (L0 := #[oa xm, oi 0, oi 1, ou, ou]) (plainFor_of_name zBB) (fun m => zBE m xm (0 : Int32) (1 : Int32)) ?_
  intro p e s m below meth c T0 hx hZ hown hby hml hnm H0
  obtain ⟨v6, hv6⟩ : ∃ z : Int32, (if m0 > m1 then (1 : Int32) else if m0 = m1 then 0 else -1) = z := ⟨_, rfl⟩
  obtain ⟨Tcx011_5, Hcx011_5, stcx011_5⟩ := zAO H0 hx hZ 7 0 rfl (by decide) (Nat.le_of_ble_eq_true rfl) (g := (mkF m 19 #[oa xm, oi 0, oi 1, .val (.long m0), .second] [(.long m1), (.int 0), (.ref xm)])) rfl rfl (hb hby d14_19)
  change zR _ _ _ _ _ _ _ _ _ _ _ _ _ _ [(u, r0), (xb, r1), (xl, r2), (xp, r3), (nu, r4), (xt, r5), (xs, r6), (xm, zA .long [.long m1, .long m1, .long m2, .long m3])] _ _ at Hcx011_5
  obtain ⟨Tcx011_6, Hcx011_6, stcx011_6⟩ := zAO Hcx011_5 hx hZ 7 1 rfl (by decide) (Nat.le_of_ble_eq_true rfl) (g := (mkF m 23 #[oa xm, oi 0, oi 1, .val (.long m0), .second] [(.long m0), (.int 1), (.ref xm)])) rfl rfl (hb hby d14_23)
  change zR _ _ _ _ _ _ _ _ _ _ _ _ _ _ [(u, r0), (xb, r1), (xl, r2), (xp, r3), (nu, r4), (xt, r5), (xs, r6), (xm, zA .long [.long m1, .long m0, .long m2, .long m3])] _ _ at Hcx011_6
  have hb7 : ifCond.holds .le v6 = false := by rw [← hv6, zAt]; exact decide_eq_false (by omega)
  refine ⟨_, _, _, _, 24, #[oa xm, oi 0, oi 1, .val (.long m0), .second], Hcx011_6, by decide, by decide, Or.inl ⟨rfl, ⟨m1, m0, ⟨by omega, Or.inr ⟨rfl, rfl⟩⟩, rfl, rfl⟩, d14_24, fun target q => ?_⟩⟩
  refine zC H0 hx hZ hown hby hw zt (own_cx010_0 xm) _ ?_
  refine zv H0 hx hZ 7 0 rfl (by decide) rfl (g := (mkF m 2 #[oa xm, oi 0, oi 1, ou, ou] [(.int 0), (.ref xm)])) rfl rfl (hb hby d14_2) _ ?_
  refine zC H0 hx hZ hown hby hw zt (own_cx010_1 xm m0) _ ?_
  refine zv H0 hx hZ 7 1 rfl (by decide) rfl (g := (mkF m 5 #[oa xm, oi 0, oi 1, ou, ou] [(.int 1), (.ref xm), (.long m0)])) rfl rfl (hb hby d14_5) _ ?_
  refine zC H0 hx hZ hown hby hw zt (own_cx011_2 xm m1 m0 v6 hv6 hb7) _ ?_
  refine zv H0 hx hZ 7 0 rfl (by decide) rfl (g := (mkF m 12 #[oa xm, oi 0, oi 1, ou, ou] [(.int 0), (.ref xm)])) rfl rfl (hb hby d14_12) _ ?_
  refine zC H0 hx hZ hown hby hw zt (own_cx011_3 xm m0) _ ?_
  refine zv H0 hx hZ 7 1 rfl (by decide) rfl (g := (mkF m 18 #[oa xm, oi 0, oi 1, .val (.long m0), .second] [(.int 1), (.ref xm), (.int 0), (.ref xm)])) rfl rfl (hb hby d14_18) _ ?_
  refine stcx011_5 _ ?_
  refine zC Hcx011_5 hx hZ hown hby hw zt (own_cx011_4 xm m0) _ ?_
  refine stcx011_6 _ ?_
  exact q
theorem own_cx01 (l : Launch) (Z : State) (a0 : Array Value) (hb0 : zU) (hw : ∀ d ∈ tables_1, d.before a0 Z = true) (xm : Addr) (u xb xl xp nu xt xs : Addr) (r0 r1 r2 r3 r4 r5 r6 : zr) (m0 m1 m2 m3 : Int64) :
    zX l Z a0 hb0 (⟨"com/example/tidewise/tidewise/search/UpperBoundsKthPinLaw", "cx", "([JII)V"⟩ : MethodName) method_2_code 5 none [] ({ frames := 0, cells := 0, slots := 0, locals := 0 } : Room) #[(.ref xm), (.int 0), (.int 1)] [(u, r0), (xb, r1), (xl, r2), (xp, r3), (nu, r4), (xt, r5), (xs, r6), (xm, zA .long [.long m0, .long m1, .long m2, .long m3])] (fun r cs' => ∃ za zb : Int64, (za.toInt ≤ zb.toInt ∧ ((za.toInt = m0.toInt ∧ zb.toInt = m1.toInt) ∨ (za.toInt = m1.toInt ∧ zb.toInt = m0.toInt))) ∧ r = none ∧ cs' = [(u, r0), (xb, r1), (xl, r2), (xp, r3), (nu, r4), (xt, r5), (xs, r6), (xm, zA .long [.long za, .long zb, .long m2, .long m3])]) := by
  by_cases h : m0.toInt ≤ m1.toInt
  · exact own_cx010 l Z a0 hb0 hw xm u xb xl xp nu xt xs r0 r1 r2 r3 r4 r5 r6 m0 m1 m2 m3 h
  · exact own_cx011 l Z a0 hb0 hw xm u xb xl xp nu xt xs r0 r1 r2 r3 r4 r5 r6 m0 m1 m2 m3 h
theorem own_cx230_0 (xm : Addr) :
    zF zAB method_2_code 0 #[oa xm, oi 2, oi 3, ou, ou] [] 2 #[oa xm, oi 2, oi 3, ou, ou] [(.int 2), (.ref xm)] := by
  refine zJ (pc2 := 1) d14_0 rfl rfl rfl ?_
  refine zM (pc2 := 2) d14_1 rfl rfl ?_
  exact zH
theorem own_cx230_1 (xm : Addr) (m2 : Int64) :
    zF zAB method_2_code 3 #[oa xm, oi 2, oi 3, ou, ou] [(.long m2)] 5 #[oa xm, oi 2, oi 3, ou, ou] [(.int 3), (.ref xm), (.long m2)] := by
  refine zJ (pc2 := 4) d14_3 rfl rfl rfl ?_
  refine zM (pc2 := 5) d14_4 rfl rfl ?_
  exact zH
theorem own_cx230_2 (xm : Addr) (m3 : Int64) (m2 : Int64) (v6 : Int32) (hv6 : (if m2 > m3 then (1 : Int32) else if m2 = m3 then 0 else -1) = v6) (hb7 : ifCond.holds .le v6 = true) :
    zF zAB method_2_code 6 #[oa xm, oi 2, oi 3, ou, ou] [(.long m3), (.long m2)] 24 #[oa xm, oi 2, oi 3, ou, ou] [] := by
  refine zAi (pc2 := 7) d14_6 rfl (v := v6) hv6 ?_
  refine zx (pc' := 24) d14_7 hb7 (by decide) (by decide) ?_
  exact zH
set_option maxRecDepth 65536 in
set_option maxHeartbeats 4000000 in
theorem own_cx230 (l : Launch) (Z : State) (a0 : Array Value) (hb0 : zU) (hw : ∀ d ∈ tables_1, d.before a0 Z = true) (xm : Addr) (u xb xl xp nu xt xs : Addr) (r0 r1 r2 r3 r4 r5 r6 : zr) (m0 m1 m2 m3 : Int64) (h : m2.toInt ≤ m3.toInt) :
    zX l Z a0 hb0 (⟨"com/example/tidewise/tidewise/search/UpperBoundsKthPinLaw", "cx", "([JII)V"⟩ : MethodName) method_2_code 5 none [] ({ frames := 0, cells := 0, slots := 0, locals := 0 } : Room) #[(.ref xm), (.int 2), (.int 3)] [(u, r0), (xb, r1), (xl, r2), (xp, r3), (nu, r4), (xt, r5), (xs, r6), (xm, zA .long [.long m0, .long m1, .long m2, .long m3])] (fun r cs' => ∃ za zb : Int64, (za.toInt ≤ zb.toInt ∧ ((za.toInt = m2.toInt ∧ zb.toInt = m3.toInt) ∨ (za.toInt = m3.toInt ∧ zb.toInt = m2.toInt))) ∧ r = none ∧ cs' = [(u, r0), (xb, r1), (xl, r2), (xp, r3), (nu, r4), (xt, r5), (xs, r6), (xm, zA .long [.long m0, .long m1, .long za, .long zb])]) := by
  refine zh (L0 := #[oa xm, oi 2, oi 3, ou, ou]) (plainFor_of_name zBB) (fun m => zBE m xm (2 : Int32) (3 : Int32)) ?_
  intro p e s m below meth c T0 hx hZ hown hby hml hnm H0
  obtain ⟨v6, hv6⟩ : ∃ z : Int32, (if m2 > m3 then (1 : Int32) else if m2 = m3 then 0 else -1) = z := ⟨_, rfl⟩
  have hb7 : ifCond.holds .le v6 = true := by rw [← hv6, zAt]; exact decide_eq_true h
  refine ⟨_, _, _, _, 24, #[oa xm, oi 2, oi 3, ou, ou], H0, by decide, by decide, Or.inl ⟨rfl, ⟨m2, m3, ⟨by omega, Or.inl ⟨rfl, rfl⟩⟩, rfl, rfl⟩, d14_24, fun target q => ?_⟩⟩
  refine zC H0 hx hZ hown hby hw zt (own_cx230_0 xm) _ ?_
  refine zv H0 hx hZ 7 2 rfl (by decide) rfl (g := (mkF m 2 #[oa xm, oi 2, oi 3, ou, ou] [(.int 2), (.ref xm)])) rfl rfl (hb hby d14_2) _ ?_
  refine zC H0 hx hZ hown hby hw zt (own_cx230_1 xm m2) _ ?_
  refine zv H0 hx hZ 7 3 rfl (by decide) rfl (g := (mkF m 5 #[oa xm, oi 2, oi 3, ou, ou] [(.int 3), (.ref xm), (.long m2)])) rfl rfl (hb hby d14_5) _ ?_
  refine zC H0 hx hZ hown hby hw zt (own_cx230_2 xm m3 m2 v6 hv6 hb7) _ ?_
  exact q
theorem own_cx231_2 (xm : Addr) (m3 : Int64) (m2 : Int64) (v6 : Int32) (hv6 : (if m2 > m3 then (1 : Int32) else if m2 = m3 then 0 else -1) = v6) (hb7 : ifCond.holds .le v6 = false) :
    zF zAB method_2_code 6 #[oa xm, oi 2, oi 3, ou, ou] [(.long m3), (.long m2)] 12 #[oa xm, oi 2, oi 3, ou, ou] [(.int 2), (.ref xm)] := by
  refine zAi (pc2 := 7) d14_6 rfl (v := v6) hv6 ?_
  refine zy (pc2 := 10) d14_7 rfl hb7 ?_
  refine zJ (pc2 := 11) d14_10 rfl rfl rfl ?_
  refine zM (pc2 := 12) d14_11 rfl rfl ?_
  exact zH
theorem own_cx231_3 (xm : Addr) (m2 : Int64) :
    zF zAB method_2_code 13 #[oa xm, oi 2, oi 3, ou, ou] [(.long m2)] 18 #[oa xm, oi 2, oi 3, .val (.long m2), .second] [(.int 3), (.ref xm), (.int 2), (.ref xm)] := by
  refine zCI (pc2 := 14) d14_13 rfl (L' := #[oa xm, oi 2, oi 3, .val (.long m2), .second]) rfl ?_
  refine zJ (pc2 := 15) d14_14 rfl rfl rfl ?_
  refine zM (pc2 := 16) d14_15 rfl rfl ?_
  refine zJ (pc2 := 17) d14_16 rfl rfl rfl ?_
  refine zM (pc2 := 18) d14_17 rfl rfl ?_
  exact zH
theorem own_cx231_4 (xm : Addr) (m2 : Int64) :
    zF zAB method_2_code 20 #[oa xm, oi 2, oi 3, .val (.long m2), .second] [] 23 #[oa xm, oi 2, oi 3, .val (.long m2), .second] [(.long m2), (.int 3), (.ref xm)] := by
  refine zJ (pc2 := 21) d14_20 rfl rfl rfl ?_
  refine zM (pc2 := 22) d14_21 rfl rfl ?_
  refine zBK (pc2 := 23) d14_22 rfl rfl ?_
  exact zH
set_option maxRecDepth 65536 in
set_option maxHeartbeats 4000000 in
theorem own_cx231 (l : Launch) (Z : State) (a0 : Array Value) (hb0 : zU) (hw : ∀ d ∈ tables_1, d.before a0 Z = true) (xm : Addr) (u xb xl xp nu xt xs : Addr) (r0 r1 r2 r3 r4 r5 r6 : zr) (m0 m1 m2 m3 : Int64) (h : ¬ m2.toInt ≤ m3.toInt) :
    zX l Z a0 hb0 (⟨"com/example/tidewise/tidewise/search/UpperBoundsKthPinLaw", "cx", "([JII)V"⟩ : MethodName) method_2_code 5 none [] ({ frames := 0, cells := 0, slots := 0, locals := 0 } : Room) #[(.ref xm), (.int 2), (.int 3)] [(u, r0), (xb, r1), (xl, r2), (xp, r3), (nu, r4), (xt, r5), (xs, r6), (xm, zA .long [.long m0, .long m1, .long m2, .long m3])] (fun r cs' => ∃ za zb : Int64, (za.toInt ≤ zb.toInt ∧ ((za.toInt = m2.toInt ∧ zb.toInt = m3.toInt) ∨ (za.toInt = m3.toInt ∧ zb.toInt = m2.toInt))) ∧ r = none ∧ cs' = [(u, r0), (xb, r1), (xl, r2), (xp, r3), (nu, r4), (xt, r5), (xs, r6), (xm, zA .long [.long m0, .long m1, .long za, .long zb])]) := by
  refine zh (L0 := #[oa xm, oi 2, oi 3, ou, ou]) (plainFor_of_name zBB) (fun m => zBE m xm (2 : Int32) (3 : Int32)) ?_
  intro p e s m below meth c T0 hx hZ hown hby hml hnm H0
  obtain ⟨v6, hv6⟩ : ∃ z : Int32, (if m2 > m3 then (1 : Int32) else if m2 = m3 then 0 else -1) = z := ⟨_, rfl⟩
  obtain ⟨Tcx231_5, Hcx231_5, stcx231_5⟩ := zAO H0 hx hZ 7 2 rfl (by decide) (Nat.le_of_ble_eq_true rfl) (g := (mkF m 19 #[oa xm, oi 2, oi 3, .val (.long m2), .second] [(.long m3), (.int 2), (.ref xm)])) rfl rfl (hb hby d14_19)
  change zR _ _ _ _ _ _ _ _ _ _ _ _ _ _ [(u, r0), (xb, r1), (xl, r2), (xp, r3), (nu, r4), (xt, r5), (xs, r6), (xm, zA .long [.long m0, .long m1, .long m3, .long m3])] _ _ at Hcx231_5
  obtain ⟨Tcx231_6, Hcx231_6, stcx231_6⟩ := zAO Hcx231_5 hx hZ 7 3 rfl (by decide) (Nat.le_of_ble_eq_true rfl) (g := (mkF m 23 #[oa xm, oi 2, oi 3, .val (.long m2), .second] [(.long m2), (.int 3), (.ref xm)])) rfl rfl (hb hby d14_23)
  change zR _ _ _ _ _ _ _ _ _ _ _ _ _ _ [(u, r0), (xb, r1), (xl, r2), (xp, r3), (nu, r4), (xt, r5), (xs, r6), (xm, zA .long [.long m0, .long m1, .long m3, .long m2])] _ _ at Hcx231_6
  have hb7 : ifCond.holds .le v6 = false := by rw [← hv6, zAt]; exact decide_eq_false (by omega)
  refine ⟨_, _, _, _, 24, #[oa xm, oi 2, oi 3, .val (.long m2), .second], Hcx231_6, by decide, by decide, Or.inl ⟨rfl, ⟨m3, m2, ⟨by omega, Or.inr ⟨rfl, rfl⟩⟩, rfl, rfl⟩, d14_24, fun target q => ?_⟩⟩
  refine zC H0 hx hZ hown hby hw zt (own_cx230_0 xm) _ ?_
  refine zv H0 hx hZ 7 2 rfl (by decide) rfl (g := (mkF m 2 #[oa xm, oi 2, oi 3, ou, ou] [(.int 2), (.ref xm)])) rfl rfl (hb hby d14_2) _ ?_
  refine zC H0 hx hZ hown hby hw zt (own_cx230_1 xm m2) _ ?_
  refine zv H0 hx hZ 7 3 rfl (by decide) rfl (g := (mkF m 5 #[oa xm, oi 2, oi 3, ou, ou] [(.int 3), (.ref xm), (.long m2)])) rfl rfl (hb hby d14_5) _ ?_
  refine zC H0 hx hZ hown hby hw zt (own_cx231_2 xm m3 m2 v6 hv6 hb7) _ ?_
  refine zv H0 hx hZ 7 2 rfl (by decide) rfl (g := (mkF m 12 #[oa xm, oi 2, oi 3, ou, ou] [(.int 2), (.ref xm)])) rfl rfl (hb hby d14_12) _ ?_
  refine zC H0 hx hZ hown hby hw zt (own_cx231_3 xm m2) _ ?_
  refine zv H0 hx hZ 7 3 rfl (by decide) rfl (g := (mkF m 18 #[oa xm, oi 2, oi 3, .val (.long m2), .second] [(.int 3), (.ref xm), (.int 2), (.ref xm)])) rfl rfl (hb hby d14_18) _ ?_
  refine stcx231_5 _ ?_
  refine zC Hcx231_5 hx hZ hown hby hw zt (own_cx231_4 xm m2) _ ?_
  refine stcx231_6 _ ?_
  exact q
theorem own_cx23 (l : Launch) (Z : State) (a0 : Array Value) (hb0 : zU) (hw : ∀ d ∈ tables_1, d.before a0 Z = true) (xm : Addr) (u xb xl xp nu xt xs : Addr) (r0 r1 r2 r3 r4 r5 r6 : zr) (m0 m1 m2 m3 : Int64) :
    zX l Z a0 hb0 (⟨"com/example/tidewise/tidewise/search/UpperBoundsKthPinLaw", "cx", "([JII)V"⟩ : MethodName) method_2_code 5 none [] ({ frames := 0, cells := 0, slots := 0, locals := 0 } : Room) #[(.ref xm), (.int 2), (.int 3)] [(u, r0), (xb, r1), (xl, r2), (xp, r3), (nu, r4), (xt, r5), (xs, r6), (xm, zA .long [.long m0, .long m1, .long m2, .long m3])] (fun r cs' => ∃ za zb : Int64, (za.toInt ≤ zb.toInt ∧ ((za.toInt = m2.toInt ∧ zb.toInt = m3.toInt) ∨ (za.toInt = m3.toInt ∧ zb.toInt = m2.toInt))) ∧ r = none ∧ cs' = [(u, r0), (xb, r1), (xl, r2), (xp, r3), (nu, r4), (xt, r5), (xs, r6), (xm, zA .long [.long m0, .long m1, .long za, .long zb])]) := by
  by_cases h : m2.toInt ≤ m3.toInt
  · exact own_cx230 l Z a0 hb0 hw xm u xb xl xp nu xt xs r0 r1 r2 r3 r4 r5 r6 m0 m1 m2 m3 h
  · exact own_cx231 l Z a0 hb0 hw xm u xb xl xp nu xt xs r0 r1 r2 r3 r4 r5 r6 m0 m1 m2 m3 h
theorem own_cx020_0 (xm : Addr) :
    zF zAB method_2_code 0 #[oa xm, oi 0, oi 2, ou, ou] [] 2 #[oa xm, oi 0, oi 2, ou, ou] [(.int 0), (.ref xm)] := by
  refine zJ (pc2 := 1) d14_0 rfl rfl rfl ?_
  refine zM (pc2 := 2) d14_1 rfl rfl ?_
  exact zH
theorem own_cx020_1 (xm : Addr) (m0 : Int64) :
    zF zAB method_2_code 3 #[oa xm, oi 0, oi 2, ou, ou] [(.long m0)] 5 #[oa xm, oi 0, oi 2, ou, ou] [(.int 2), (.ref xm), (.long m0)] := by
  refine zJ (pc2 := 4) d14_3 rfl rfl rfl ?_
  refine zM (pc2 := 5) d14_4 rfl rfl ?_
  exact zH
theorem own_cx020_2 (xm : Addr) (m2 : Int64) (m0 : Int64) (v6 : Int32) (hv6 : (if m0 > m2 then (1 : Int32) else if m0 = m2 then 0 else -1) = v6) (hb7 : ifCond.holds .le v6 = true) :
    zF zAB method_2_code 6 #[oa xm, oi 0, oi 2, ou, ou] [(.long m2), (.long m0)] 24 #[oa xm, oi 0, oi 2, ou, ou] [] := by
  refine zAi (pc2 := 7) d14_6 rfl (v := v6) hv6 ?_
  refine zx (pc' := 24) d14_7 hb7 (by decide) (by decide) ?_
  exact zH
set_option maxRecDepth 65536 in
set_option maxHeartbeats 4000000 in
theorem own_cx020 (l : Launch) (Z : State) (a0 : Array Value) (hb0 : zU) (hw : ∀ d ∈ tables_1, d.before a0 Z = true) (xm : Addr) (u xb xl xp nu xt xs : Addr) (r0 r1 r2 r3 r4 r5 r6 : zr) (m0 m1 m2 m3 : Int64) (h : m0.toInt ≤ m2.toInt) :
    zX l Z a0 hb0 (⟨"com/example/tidewise/tidewise/search/UpperBoundsKthPinLaw", "cx", "([JII)V"⟩ : MethodName) method_2_code 5 none [] ({ frames := 0, cells := 0, slots := 0, locals := 0 } : Room) #[(.ref xm), (.int 0), (.int 2)] [(u, r0), (xb, r1), (xl, r2), (xp, r3), (nu, r4), (xt, r5), (xs, r6), (xm, zA .long [.long m0, .long m1, .long m2, .long m3])] (fun r cs' => ∃ za zb : Int64, (za.toInt ≤ zb.toInt ∧ ((za.toInt = m0.toInt ∧ zb.toInt = m2.toInt) ∨ (za.toInt = m2.toInt ∧ zb.toInt = m0.toInt))) ∧ r = none ∧ cs' = [(u, r0), (xb, r1), (xl, r2), (xp, r3), (nu, r4), (xt, r5), (xs, r6), (xm, zA .long [.long za, .long m1, .long zb, .long m3])]) := by
  refine zh (L0 := #[oa xm, oi 0, oi 2, ou, ou]) (plainFor_of_name zBB) (fun m => zBE m xm (0 : Int32) (2 : Int32)) ?_
  intro p e s m below meth c T0 hx hZ hown hby hml hnm H0
  obtain ⟨v6, hv6⟩ : ∃ z : Int32, (if m0 > m2 then (1 : Int32) else if m0 = m2 then 0 else -1) = z := ⟨_, rfl⟩
  have hb7 : ifCond.holds .le v6 = true := by rw [← hv6, zAt]; exact decide_eq_true h
  refine ⟨_, _, _, _, 24, #[oa xm, oi 0, oi 2, ou, ou], H0, by decide, by decide, Or.inl ⟨rfl, ⟨m0, m2, ⟨by omega, Or.inl ⟨rfl, rfl⟩⟩, rfl, rfl⟩, d14_24, fun target q => ?_⟩⟩
  refine zC H0 hx hZ hown hby hw zt (own_cx020_0 xm) _ ?_
  refine zv H0 hx hZ 7 0 rfl (by decide) rfl (g := (mkF m 2 #[oa xm, oi 0, oi 2, ou, ou] [(.int 0), (.ref xm)])) rfl rfl (hb hby d14_2) _ ?_
  refine zC H0 hx hZ hown hby hw zt (own_cx020_1 xm m0) _ ?_
  refine zv H0 hx hZ 7 2 rfl (by decide) rfl (g := (mkF m 5 #[oa xm, oi 0, oi 2, ou, ou] [(.int 2), (.ref xm), (.long m0)])) rfl rfl (hb hby d14_5) _ ?_
  refine zC H0 hx hZ hown hby hw zt (own_cx020_2 xm m2 m0 v6 hv6 hb7) _ ?_
  exact q
theorem own_cx021_2 (xm : Addr) (m2 : Int64) (m0 : Int64) (v6 : Int32) (hv6 : (if m0 > m2 then (1 : Int32) else if m0 = m2 then 0 else -1) = v6) (hb7 : ifCond.holds .le v6 = false) :
    zF zAB method_2_code 6 #[oa xm, oi 0, oi 2, ou, ou] [(.long m2), (.long m0)] 12 #[oa xm, oi 0, oi 2, ou, ou] [(.int 0), (.ref xm)] := by
  refine zAi (pc2 := 7) d14_6 rfl (v := v6) hv6 ?_
  refine zy (pc2 := 10) d14_7 rfl hb7 ?_
  refine zJ (pc2 := 11) d14_10 rfl rfl rfl ?_
  refine zM (pc2 := 12) d14_11 rfl rfl ?_
  exact zH
theorem own_cx021_3 (xm : Addr) (m0 : Int64) :
    zF zAB method_2_code 13 #[oa xm, oi 0, oi 2, ou, ou] [(.long m0)] 18 #[oa xm, oi 0, oi 2, .val (.long m0), .second] [(.int 2), (.ref xm), (.int 0), (.ref xm)] := by
  refine zCI (pc2 := 14) d14_13 rfl (L' := #[oa xm, oi 0, oi 2, .val (.long m0), .second]) rfl ?_
  refine zJ (pc2 := 15) d14_14 rfl rfl rfl ?_
  refine zM (pc2 := 16) d14_15 rfl rfl ?_
  refine zJ (pc2 := 17) d14_16 rfl rfl rfl ?_
  refine zM (pc2 := 18) d14_17 rfl rfl ?_
  exact zH
theorem own_cx021_4 (xm : Addr) (m0 : Int64) :
    zF zAB method_2_code 20 #[oa xm, oi 0, oi 2, .val (.long m0), .second] [] 23 #[oa xm, oi 0, oi 2, .val (.long m0), .second] [(.long m0), (.int 2), (.ref xm)] := by
  refine zJ (pc2 := 21) d14_20 rfl rfl rfl ?_
  refine zM (pc2 := 22) d14_21 rfl rfl ?_
  refine zBK (pc2 := 23) d14_22 rfl rfl ?_
  exact zH
set_option maxRecDepth 65536 in
set_option maxHeartbeats 4000000 in
theorem own_cx021 (l : Launch) (Z : State) (a0 : Array Value) (hb0 : zU) (hw : ∀ d ∈ tables_1, d.before a0 Z = true) (xm : Addr) (u xb xl xp nu xt xs : Addr) (r0 r1 r2 r3 r4 r5 r6 : zr) (m0 m1 m2 m3 : Int64) (h : ¬ m0.toInt ≤ m2.toInt) :
    zX l Z a0 hb0 (⟨"com/example/tidewise/tidewise/search/UpperBoundsKthPinLaw", "cx", "([JII)V"⟩ : MethodName) method_2_code 5 none [] ({ frames := 0, cells := 0, slots := 0, locals := 0 } : Room) #[(.ref xm), (.int 0), (.int 2)] [(u, r0), (xb, r1), (xl, r2), (xp, r3), (nu, r4), (xt, r5), (xs, r6), (xm, zA .long [.long m0, .long m1, .long m2, .long m3])] (fun r cs' => ∃ za zb : Int64, (za.toInt ≤ zb.toInt ∧ ((za.toInt = m0.toInt ∧ zb.toInt = m2.toInt) ∨ (za.toInt = m2.toInt ∧ zb.toInt = m0.toInt))) ∧ r = none ∧ cs' = [(u, r0), (xb, r1), (xl, r2), (xp, r3), (nu, r4), (xt, r5), (xs, r6), (xm, zA .long [.long za, .long m1, .long zb, .long m3])]) := by
  refine zh (L0 := #[oa xm, oi 0, oi 2, ou, ou]) (plainFor_of_name zBB) (fun m => zBE m xm (0 : Int32) (2 : Int32)) ?_
  intro p e s m below meth c T0 hx hZ hown hby hml hnm H0
  obtain ⟨v6, hv6⟩ : ∃ z : Int32, (if m0 > m2 then (1 : Int32) else if m0 = m2 then 0 else -1) = z := ⟨_, rfl⟩
  obtain ⟨Tcx021_5, Hcx021_5, stcx021_5⟩ := zAO H0 hx hZ 7 0 rfl (by decide) (Nat.le_of_ble_eq_true rfl) (g := (mkF m 19 #[oa xm, oi 0, oi 2, .val (.long m0), .second] [(.long m2), (.int 0), (.ref xm)])) rfl rfl (hb hby d14_19)
  change zR _ _ _ _ _ _ _ _ _ _ _ _ _ _ [(u, r0), (xb, r1), (xl, r2), (xp, r3), (nu, r4), (xt, r5), (xs, r6), (xm, zA .long [.long m2, .long m1, .long m2, .long m3])] _ _ at Hcx021_5
  obtain ⟨Tcx021_6, Hcx021_6, stcx021_6⟩ := zAO Hcx021_5 hx hZ 7 2 rfl (by decide) (Nat.le_of_ble_eq_true rfl) (g := (mkF m 23 #[oa xm, oi 0, oi 2, .val (.long m0), .second] [(.long m0), (.int 2), (.ref xm)])) rfl rfl (hb hby d14_23)
  change zR _ _ _ _ _ _ _ _ _ _ _ _ _ _ [(u, r0), (xb, r1), (xl, r2), (xp, r3), (nu, r4), (xt, r5), (xs, r6), (xm, zA .long [.long m2, .long m1, .long m0, .long m3])] _ _ at Hcx021_6
  have hb7 : ifCond.holds .le v6 = false := by rw [← hv6, zAt]; exact decide_eq_false (by omega)
  refine ⟨_, _, _, _, 24, #[oa xm, oi 0, oi 2, .val (.long m0), .second], Hcx021_6, by decide, by decide, Or.inl ⟨rfl, ⟨m2, m0, ⟨by omega, Or.inr ⟨rfl, rfl⟩⟩, rfl, rfl⟩, d14_24, fun target q => ?_⟩⟩
  refine zC H0 hx hZ hown hby hw zt (own_cx020_0 xm) _ ?_
  refine zv H0 hx hZ 7 0 rfl (by decide) rfl (g := (mkF m 2 #[oa xm, oi 0, oi 2, ou, ou] [(.int 0), (.ref xm)])) rfl rfl (hb hby d14_2) _ ?_
  refine zC H0 hx hZ hown hby hw zt (own_cx020_1 xm m0) _ ?_
  refine zv H0 hx hZ 7 2 rfl (by decide) rfl (g := (mkF m 5 #[oa xm, oi 0, oi 2, ou, ou] [(.int 2), (.ref xm), (.long m0)])) rfl rfl (hb hby d14_5) _ ?_
  refine zC H0 hx hZ hown hby hw zt (own_cx021_2 xm m2 m0 v6 hv6 hb7) _ ?_
  refine zv H0 hx hZ 7 0 rfl (by decide) rfl (g := (mkF m 12 #[oa xm, oi 0, oi 2, ou, ou] [(.int 0), (.ref xm)])) rfl rfl (hb hby d14_12) _ ?_
  refine zC H0 hx hZ hown hby hw zt (own_cx021_3 xm m0) _ ?_
  refine zv H0 hx hZ 7 2 rfl (by decide) rfl (g := (mkF m 18 #[oa xm, oi 0, oi 2, .val (.long m0), .second] [(.int 2), (.ref xm), (.int 0), (.ref xm)])) rfl rfl (hb hby d14_18) _ ?_
  refine stcx021_5 _ ?_
  refine zC Hcx021_5 hx hZ hown hby hw zt (own_cx021_4 xm m0) _ ?_
  refine stcx021_6 _ ?_
  exact q
theorem own_cx02 (l : Launch) (Z : State) (a0 : Array Value) (hb0 : zU) (hw : ∀ d ∈ tables_1, d.before a0 Z = true) (xm : Addr) (u xb xl xp nu xt xs : Addr) (r0 r1 r2 r3 r4 r5 r6 : zr) (m0 m1 m2 m3 : Int64) :
    zX l Z a0 hb0 (⟨"com/example/tidewise/tidewise/search/UpperBoundsKthPinLaw", "cx", "([JII)V"⟩ : MethodName) method_2_code 5 none [] ({ frames := 0, cells := 0, slots := 0, locals := 0 } : Room) #[(.ref xm), (.int 0), (.int 2)] [(u, r0), (xb, r1), (xl, r2), (xp, r3), (nu, r4), (xt, r5), (xs, r6), (xm, zA .long [.long m0, .long m1, .long m2, .long m3])] (fun r cs' => ∃ za zb : Int64, (za.toInt ≤ zb.toInt ∧ ((za.toInt = m0.toInt ∧ zb.toInt = m2.toInt) ∨ (za.toInt = m2.toInt ∧ zb.toInt = m0.toInt))) ∧ r = none ∧ cs' = [(u, r0), (xb, r1), (xl, r2), (xp, r3), (nu, r4), (xt, r5), (xs, r6), (xm, zA .long [.long za, .long m1, .long zb, .long m3])]) := by
  by_cases h : m0.toInt ≤ m2.toInt
  · exact own_cx020 l Z a0 hb0 hw xm u xb xl xp nu xt xs r0 r1 r2 r3 r4 r5 r6 m0 m1 m2 m3 h
  · exact own_cx021 l Z a0 hb0 hw xm u xb xl xp nu xt xs r0 r1 r2 r3 r4 r5 r6 m0 m1 m2 m3 h
theorem own_cx130_0 (xm : Addr) :
    zF zAB method_2_code 0 #[oa xm, oi 1, oi 3, ou, ou] [] 2 #[oa xm, oi 1, oi 3, ou, ou] [(.int 1), (.ref xm)] := by
  refine zJ (pc2 := 1) d14_0 rfl rfl rfl ?_
  refine zM (pc2 := 2) d14_1 rfl rfl ?_
  exact zH
theorem own_cx130_1 (xm : Addr) (m1 : Int64) :
    zF zAB method_2_code 3 #[oa xm, oi 1, oi 3, ou, ou] [(.long m1)] 5 #[oa xm, oi 1, oi 3, ou, ou] [(.int 3), (.ref xm), (.long m1)] := by
  refine zJ (pc2 := 4) d14_3 rfl rfl rfl ?_
  refine zM (pc2 := 5) d14_4 rfl rfl ?_
  exact zH
theorem own_cx130_2 (xm : Addr) (m3 : Int64) (m1 : Int64) (v6 : Int32) (hv6 : (if m1 > m3 then (1 : Int32) else if m1 = m3 then 0 else -1) = v6) (hb7 : ifCond.holds .le v6 = true) :
    zF zAB method_2_code 6 #[oa xm, oi 1, oi 3, ou, ou] [(.long m3), (.long m1)] 24 #[oa xm, oi 1, oi 3, ou, ou] [] := by
  refine zAi (pc2 := 7) d14_6 rfl (v := v6) hv6 ?_
  refine zx (pc' := 24) d14_7 hb7 (by decide) (by decide) ?_
  exact zH
set_option maxRecDepth 65536 in
set_option maxHeartbeats 4000000 in
theorem own_cx130 (l : Launch) (Z : State) (a0 : Array Value) (hb0 : zU) (hw : ∀ d ∈ tables_1, d.before a0 Z = true) (xm : Addr) (u xb xl xp nu xt xs : Addr) (r0 r1 r2 r3 r4 r5 r6 : zr) (m0 m1 m2 m3 : Int64) (h : m1.toInt ≤ m3.toInt) :
    zX l Z a0 hb0 (⟨"com/example/tidewise/tidewise/search/UpperBoundsKthPinLaw", "cx", "([JII)V"⟩ : MethodName) method_2_code 5 none [] ({ frames := 0, cells := 0, slots := 0, locals := 0 } : Room) #[(.ref xm), (.int 1), (.int 3)] [(u, r0), (xb, r1), (xl, r2), (xp, r3), (nu, r4), (xt, r5), (xs, r6), (xm, zA .long [.long m0, .long m1, .long m2, .long m3])] (fun r cs' => ∃ za zb : Int64, (za.toInt ≤ zb.toInt ∧ ((za.toInt = m1.toInt ∧ zb.toInt = m3.toInt) ∨ (za.toInt = m3.toInt ∧ zb.toInt = m1.toInt))) ∧ r = none ∧ cs' = [(u, r0), (xb, r1), (xl, r2), (xp, r3), (nu, r4), (xt, r5), (xs, r6), (xm, zA .long [.long m0, .long za, .long m2, .long zb])]) := by
  refine zh (L0 := #[oa xm, oi 1, oi 3, ou, ou]) (plainFor_of_name zBB) (fun m => zBE m xm (1 : Int32) (3 : Int32)) ?_
  intro p e s m below meth c T0 hx hZ hown hby hml hnm H0
  obtain ⟨v6, hv6⟩ : ∃ z : Int32, (if m1 > m3 then (1 : Int32) else if m1 = m3 then 0 else -1) = z := ⟨_, rfl⟩
  have hb7 : ifCond.holds .le v6 = true := by rw [← hv6, zAt]; exact decide_eq_true h
  refine ⟨_, _, _, _, 24, #[oa xm, oi 1, oi 3, ou, ou], H0, by decide, by decide, Or.inl ⟨rfl, ⟨m1, m3, ⟨by omega, Or.inl ⟨rfl, rfl⟩⟩, rfl, rfl⟩, d14_24, fun target q => ?_⟩⟩
  refine zC H0 hx hZ hown hby hw zt (own_cx130_0 xm) _ ?_
  refine zv H0 hx hZ 7 1 rfl (by decide) rfl (g := (mkF m 2 #[oa xm, oi 1, oi 3, ou, ou] [(.int 1), (.ref xm)])) rfl rfl (hb hby d14_2) _ ?_
  refine zC H0 hx hZ hown hby hw zt (own_cx130_1 xm m1) _ ?_
  refine zv H0 hx hZ 7 3 rfl (by decide) rfl (g := (mkF m 5 #[oa xm, oi 1, oi 3, ou, ou] [(.int 3), (.ref xm), (.long m1)])) rfl rfl (hb hby d14_5) _ ?_
  refine zC H0 hx hZ hown hby hw zt (own_cx130_2 xm m3 m1 v6 hv6 hb7) _ ?_
  exact q
theorem own_cx131_2 (xm : Addr) (m3 : Int64) (m1 : Int64) (v6 : Int32) (hv6 : (if m1 > m3 then (1 : Int32) else if m1 = m3 then 0 else -1) = v6) (hb7 : ifCond.holds .le v6 = false) :
    zF zAB method_2_code 6 #[oa xm, oi 1, oi 3, ou, ou] [(.long m3), (.long m1)] 12 #[oa xm, oi 1, oi 3, ou, ou] [(.int 1), (.ref xm)] := by
  refine zAi (pc2 := 7) d14_6 rfl (v := v6) hv6 ?_
  refine zy (pc2 := 10) d14_7 rfl hb7 ?_
  refine zJ (pc2 := 11) d14_10 rfl rfl rfl ?_
  refine zM (pc2 := 12) d14_11 rfl rfl ?_
  exact zH
theorem own_cx131_3 (xm : Addr) (m1 : Int64) :
    zF zAB method_2_code 13 #[oa xm, oi 1, oi 3, ou, ou] [(.long m1)] 18 #[oa xm, oi 1, oi 3, .val (.long m1), .second] [(.int 3), (.ref xm), (.int 1), (.ref xm)] := by
  refine zCI (pc2 := 14) d14_13 rfl (L' := #[oa xm, oi 1, oi 3, .val (.long m1), .second]) rfl ?_
  refine zJ (pc2 := 15) d14_14 rfl rfl rfl ?_
  refine zM (pc2 := 16) d14_15 rfl rfl ?_
  refine zJ (pc2 := 17) d14_16 rfl rfl rfl ?_
  refine zM (pc2 := 18) d14_17 rfl rfl ?_
  exact zH
theorem own_cx131_4 (xm : Addr) (m1 : Int64) :
    zF zAB method_2_code 20 #[oa xm, oi 1, oi 3, .val (.long m1), .second] [] 23 #[oa xm, oi 1, oi 3, .val (.long m1), .second] [(.long m1), (.int 3), (.ref xm)] := by
  refine zJ (pc2 := 21) d14_20 rfl rfl rfl ?_
  refine zM (pc2 := 22) d14_21 rfl rfl ?_
  refine zBK (pc2 := 23) d14_22 rfl rfl ?_
  exact zH
set_option maxRecDepth 65536 in
set_option maxHeartbeats 4000000 in
theorem own_cx131 (l : Launch) (Z : State) (a0 : Array Value) (hb0 : zU) (hw : ∀ d ∈ tables_1, d.before a0 Z = true) (xm : Addr) (u xb xl xp nu xt xs : Addr) (r0 r1 r2 r3 r4 r5 r6 : zr) (m0 m1 m2 m3 : Int64) (h : ¬ m1.toInt ≤ m3.toInt) :
    zX l Z a0 hb0 (⟨"com/example/tidewise/tidewise/search/UpperBoundsKthPinLaw", "cx", "([JII)V"⟩ : MethodName) method_2_code 5 none [] ({ frames := 0, cells := 0, slots := 0, locals := 0 } : Room) #[(.ref xm), (.int 1), (.int 3)] [(u, r0), (xb, r1), (xl, r2), (xp, r3), (nu, r4), (xt, r5), (xs, r6), (xm, zA .long [.long m0, .long m1, .long m2, .long m3])] (fun r cs' => ∃ za zb : Int64, (za.toInt ≤ zb.toInt ∧ ((za.toInt = m1.toInt ∧ zb.toInt = m3.toInt) ∨ (za.toInt = m3.toInt ∧ zb.toInt = m1.toInt))) ∧ r = none ∧ cs' = [(u, r0), (xb, r1), (xl, r2), (xp, r3), (nu, r4), (xt, r5), (xs, r6), (xm, zA .long [.long m0, .long za, .long m2, .long zb])]) := by
  refine zh (L0 := #[oa xm, oi 1, oi 3, ou, ou]) (plainFor_of_name zBB) (fun m => zBE m xm (1 : Int32) (3 : Int32)) ?_
  intro p e s m below meth c T0 hx hZ hown hby hml hnm H0
  obtain ⟨v6, hv6⟩ : ∃ z : Int32, (if m1 > m3 then (1 : Int32) else if m1 = m3 then 0 else -1) = z := ⟨_, rfl⟩
  obtain ⟨Tcx131_5, Hcx131_5, stcx131_5⟩ := zAO H0 hx hZ 7 1 rfl (by decide) (Nat.le_of_ble_eq_true rfl) (g := (mkF m 19 #[oa xm, oi 1, oi 3, .val (.long m1), .second] [(.long m3), (.int 1), (.ref xm)])) rfl rfl (hb hby d14_19)
  change zR _ _ _ _ _ _ _ _ _ _ _ _ _ _ [(u, r0), (xb, r1), (xl, r2), (xp, r3), (nu, r4), (xt, r5), (xs, r6), (xm, zA .long [.long m0, .long m3, .long m2, .long m3])] _ _ at Hcx131_5
  obtain ⟨Tcx131_6, Hcx131_6, stcx131_6⟩ := zAO Hcx131_5 hx hZ 7 3 rfl (by decide) (Nat.le_of_ble_eq_true rfl) (g := (mkF m 23 #[oa xm, oi 1, oi 3, .val (.long m1), .second] [(.long m1), (.int 3), (.ref xm)])) rfl rfl (hb hby d14_23)
  change zR _ _ _ _ _ _ _ _ _ _ _ _ _ _ [(u, r0), (xb, r1), (xl, r2), (xp, r3), (nu, r4), (xt, r5), (xs, r6), (xm, zA .long [.long m0, .long m3, .long m2, .long m1])] _ _ at Hcx131_6
  have hb7 : ifCond.holds .le v6 = false := by rw [← hv6, zAt]; exact decide_eq_false (by omega)
  refine ⟨_, _, _, _, 24, #[oa xm, oi 1, oi 3, .val (.long m1), .second], Hcx131_6, by decide, by decide, Or.inl ⟨rfl, ⟨m3, m1, ⟨by omega, Or.inr ⟨rfl, rfl⟩⟩, rfl, rfl⟩, d14_24, fun target q => ?_⟩⟩
  refine zC H0 hx hZ hown hby hw zt (own_cx130_0 xm) _ ?_
  refine zv H0 hx hZ 7 1 rfl (by decide) rfl (g := (mkF m 2 #[oa xm, oi 1, oi 3, ou, ou] [(.int 1), (.ref xm)])) rfl rfl (hb hby d14_2) _ ?_
  refine zC H0 hx hZ hown hby hw zt (own_cx130_1 xm m1) _ ?_
  refine zv H0 hx hZ 7 3 rfl (by decide) rfl (g := (mkF m 5 #[oa xm, oi 1, oi 3, ou, ou] [(.int 3), (.ref xm), (.long m1)])) rfl rfl (hb hby d14_5) _ ?_
  refine zC H0 hx hZ hown hby hw zt (own_cx131_2 xm m3 m1 v6 hv6 hb7) _ ?_
  refine zv H0 hx hZ 7 1 rfl (by decide) rfl (g := (mkF m 12 #[oa xm, oi 1, oi 3, ou, ou] [(.int 1), (.ref xm)])) rfl rfl (hb hby d14_12) _ ?_
  refine zC H0 hx hZ hown hby hw zt (own_cx131_3 xm m1) _ ?_
  refine zv H0 hx hZ 7 3 rfl (by decide) rfl (g := (mkF m 18 #[oa xm, oi 1, oi 3, .val (.long m1), .second] [(.int 3), (.ref xm), (.int 1), (.ref xm)])) rfl rfl (hb hby d14_18) _ ?_
  refine stcx131_5 _ ?_
  refine zC Hcx131_5 hx hZ hown hby hw zt (own_cx131_4 xm m1) _ ?_
  refine stcx131_6 _ ?_
  exact q
theorem own_cx13 (l : Launch) (Z : State) (a0 : Array Value) (hb0 : zU) (hw : ∀ d ∈ tables_1, d.before a0 Z = true) (xm : Addr) (u xb xl xp nu xt xs : Addr) (r0 r1 r2 r3 r4 r5 r6 : zr) (m0 m1 m2 m3 : Int64) :
    zX l Z a0 hb0 (⟨"com/example/tidewise/tidewise/search/UpperBoundsKthPinLaw", "cx", "([JII)V"⟩ : MethodName) method_2_code 5 none [] ({ frames := 0, cells := 0, slots := 0, locals := 0 } : Room) #[(.ref xm), (.int 1), (.int 3)] [(u, r0), (xb, r1), (xl, r2), (xp, r3), (nu, r4), (xt, r5), (xs, r6), (xm, zA .long [.long m0, .long m1, .long m2, .long m3])] (fun r cs' => ∃ za zb : Int64, (za.toInt ≤ zb.toInt ∧ ((za.toInt = m1.toInt ∧ zb.toInt = m3.toInt) ∨ (za.toInt = m3.toInt ∧ zb.toInt = m1.toInt))) ∧ r = none ∧ cs' = [(u, r0), (xb, r1), (xl, r2), (xp, r3), (nu, r4), (xt, r5), (xs, r6), (xm, zA .long [.long m0, .long za, .long m2, .long zb])]) := by
  by_cases h : m1.toInt ≤ m3.toInt
  · exact own_cx130 l Z a0 hb0 hw xm u xb xl xp nu xt xs r0 r1 r2 r3 r4 r5 r6 m0 m1 m2 m3 h
  · exact own_cx131 l Z a0 hb0 hw xm u xb xl xp nu xt xs r0 r1 r2 r3 r4 r5 r6 m0 m1 m2 m3 h
theorem own_cx120_0 (xm : Addr) :
    zF zAB method_2_code 0 #[oa xm, oi 1, oi 2, ou, ou] [] 2 #[oa xm, oi 1, oi 2, ou, ou] [(.int 1), (.ref xm)] := by
  refine zJ (pc2 := 1) d14_0 rfl rfl rfl ?_
  refine zM (pc2 := 2) d14_1 rfl rfl ?_
  exact zH
theorem own_cx120_1 (xm : Addr) (m1 : Int64) :
    zF zAB method_2_code 3 #[oa xm, oi 1, oi 2, ou, ou] [(.long m1)] 5 #[oa xm, oi 1, oi 2, ou, ou] [(.int 2), (.ref xm), (.long m1)] := by
  refine zJ (pc2 := 4) d14_3 rfl rfl rfl ?_
  refine zM (pc2 := 5) d14_4 rfl rfl ?_
  exact zH
theorem own_cx120_2 (xm : Addr) (m2 : Int64) (m1 : Int64) (v6 : Int32) (hv6 : (if m1 > m2 then (1 : Int32) else if m1 = m2 then 0 else -1) = v6) (hb7 : ifCond.holds .le v6 = true) :
    zF zAB method_2_code 6 #[oa xm, oi 1, oi 2, ou, ou] [(.long m2), (.long m1)] 24 #[oa xm, oi 1, oi 2, ou, ou] [] := by
  refine zAi (pc2 := 7) d14_6 rfl (v := v6) hv6 ?_
  refine zx (pc' := 24) d14_7 hb7 (by decide) (by decide) ?_
  exact zH
set_option maxRecDepth 65536 in
set_option maxHeartbeats 4000000 in
theorem own_cx120 (l : Launch) (Z : State) (a0 : Array Value) (hb0 : zU) (hw : ∀ d ∈ tables_1, d.before a0 Z = true) (xm : Addr) (u xb xl xp nu xt xs : Addr) (r0 r1 r2 r3 r4 r5 r6 : zr) (m0 m1 m2 m3 : Int64) (h : m1.toInt ≤ m2.toInt) :
    zX l Z a0 hb0 (⟨"com/example/tidewise/tidewise/search/UpperBoundsKthPinLaw", "cx", "([JII)V"⟩ : MethodName) method_2_code 5 none [] ({ frames := 0, cells := 0, slots := 0, locals := 0 } : Room) #[(.ref xm), (.int 1), (.int 2)] [(u, r0), (xb, r1), (xl, r2), (xp, r3), (nu, r4), (xt, r5), (xs, r6), (xm, zA .long [.long m0, .long m1, .long m2, .long m3])] (fun r cs' => ∃ za zb : Int64, (za.toInt ≤ zb.toInt ∧ ((za.toInt = m1.toInt ∧ zb.toInt = m2.toInt) ∨ (za.toInt = m2.toInt ∧ zb.toInt = m1.toInt))) ∧ r = none ∧ cs' = [(u, r0), (xb, r1), (xl, r2), (xp, r3), (nu, r4), (xt, r5), (xs, r6), (xm, zA .long [.long m0, .long za, .long zb, .long m3])]) := by
  refine zh (L0 := #[oa xm, oi 1, oi 2, ou, ou]) (plainFor_of_name zBB) (fun m => zBE m xm (1 : Int32) (2 : Int32)) ?_
  intro p e s m below meth c T0 hx hZ hown hby hml hnm H0
  obtain ⟨v6, hv6⟩ : ∃ z : Int32, (if m1 > m2 then (1 : Int32) else if m1 = m2 then 0 else -1) = z := ⟨_, rfl⟩
  have hb7 : ifCond.holds .le v6 = true := by rw [← hv6, zAt]; exact decide_eq_true h
  refine ⟨_, _, _, _, 24, #[oa xm, oi 1, oi 2, ou, ou], H0, by decide, by decide, Or.inl ⟨rfl, ⟨m1, m2, ⟨by omega, Or.inl ⟨rfl, rfl⟩⟩, rfl, rfl⟩, d14_24, fun target q => ?_⟩⟩
  refine zC H0 hx hZ hown hby hw zt (own_cx120_0 xm) _ ?_
  refine zv H0 hx hZ 7 1 rfl (by decide) rfl (g := (mkF m 2 #[oa xm, oi 1, oi 2, ou, ou] [(.int 1), (.ref xm)])) rfl rfl (hb hby d14_2) _ ?_
  refine zC H0 hx hZ hown hby hw zt (own_cx120_1 xm m1) _ ?_
  refine zv H0 hx hZ 7 2 rfl (by decide) rfl (g := (mkF m 5 #[oa xm, oi 1, oi 2, ou, ou] [(.int 2), (.ref xm), (.long m1)])) rfl rfl (hb hby d14_5) _ ?_
  refine zC H0 hx hZ hown hby hw zt (own_cx120_2 xm m2 m1 v6 hv6 hb7) _ ?_
  exact q
theorem own_cx121_2 (xm : Addr) (m2 : Int64) (m1 : Int64) (v6 : Int32) (hv6 : (if m1 > m2 then (1 : Int32) else if m1 = m2 then 0 else -1) = v6) (hb7 : ifCond.holds .le v6 = false) :
    zF zAB method_2_code 6 #[oa xm, oi 1, oi 2, ou, ou] [(.long m2), (.long m1)] 12 #[oa xm, oi 1, oi 2, ou, ou] [(.int 1), (.ref xm)] := by
  refine zAi (pc2 := 7) d14_6 rfl (v := v6) hv6 ?_
  refine zy (pc2 := 10) d14_7 rfl hb7 ?_
  refine zJ (pc2 := 11) d14_10 rfl rfl rfl ?_
  refine zM (pc2 := 12) d14_11 rfl rfl ?_
  exact zH
theorem own_cx121_3 (xm : Addr) (m1 : Int64) :
    zF zAB method_2_code 13 #[oa xm, oi 1, oi 2, ou, ou] [(.long m1)] 18 #[oa xm, oi 1, oi 2, .val (.long m1), .second] [(.int 2), (.ref xm), (.int 1), (.ref xm)] := by
  refine zCI (pc2 := 14) d14_13 rfl (L' := #[oa xm, oi 1, oi 2, .val (.long m1), .second]) rfl ?_
  refine zJ (pc2 := 15) d14_14 rfl rfl rfl ?_
  refine zM (pc2 := 16) d14_15 rfl rfl ?_
  refine zJ (pc2 := 17) d14_16 rfl rfl rfl ?_
  refine zM (pc2 := 18) d14_17 rfl rfl ?_
  exact zH
theorem own_cx121_4 (xm : Addr) (m1 : Int64) :
    zF zAB method_2_code 20 #[oa xm, oi 1, oi 2, .val (.long m1), .second] [] 23 #[oa xm, oi 1, oi 2, .val (.long m1), .second] [(.long m1), (.int 2), (.ref xm)] := by
  refine zJ (pc2 := 21) d14_20 rfl rfl rfl ?_
  refine zM (pc2 := 22) d14_21 rfl rfl ?_
  refine zBK (pc2 := 23) d14_22 rfl rfl ?_
  exact zH
set_option maxRecDepth 65536 in
set_option maxHeartbeats 4000000 in
theorem own_cx121 (l : Launch) (Z : State) (a0 : Array Value) (hb0 : zU) (hw : ∀ d ∈ tables_1, d.before a0 Z = true) (xm : Addr) (u xb xl xp nu xt xs : Addr) (r0 r1 r2 r3 r4 r5 r6 : zr) (m0 m1 m2 m3 : Int64) (h : ¬ m1.toInt ≤ m2.toInt) :
    zX l Z a0 hb0 (⟨"com/example/tidewise/tidewise/search/UpperBoundsKthPinLaw", "cx", "([JII)V"⟩ : MethodName) method_2_code 5 none [] ({ frames := 0, cells := 0, slots := 0, locals := 0 } : Room) #[(.ref xm), (.int 1), (.int 2)] [(u, r0), (xb, r1), (xl, r2), (xp, r3), (nu, r4), (xt, r5), (xs, r6), (xm, zA .long [.long m0, .long m1, .long m2, .long m3])] (fun r cs' => ∃ za zb : Int64, (za.toInt ≤ zb.toInt ∧ ((za.toInt = m1.toInt ∧ zb.toInt = m2.toInt) ∨ (za.toInt = m2.toInt ∧ zb.toInt = m1.toInt))) ∧ r = none ∧ cs' = [(u, r0), (xb, r1), (xl, r2), (xp, r3), (nu, r4), (xt, r5), (xs, r6), (xm, zA .long [.long m0, .long za, .long zb, .long m3])]) := by
  refine zh (L0 := #[oa xm, oi 1, oi 2, ou, ou]) (plainFor_of_name zBB) (fun m => zBE m xm (1 : Int32) (2 : Int32)) ?_
  intro p e s m below meth c T0 hx hZ hown hby hml hnm H0
  obtain ⟨v6, hv6⟩ : ∃ z : Int32, (if m1 > m2 then (1 : Int32) else if m1 = m2 then 0 else -1) = z := ⟨_, rfl⟩
  obtain ⟨Tcx121_5, Hcx121_5, stcx121_5⟩ := zAO H0 hx hZ 7 1 rfl (by decide) (Nat.le_of_ble_eq_true rfl) (g := (mkF m 19 #[oa xm, oi 1, oi 2, .val (.long m1), .second] [(.long m2), (.int 1), (.ref xm)])) rfl rfl (hb hby d14_19)
  change zR _ _ _ _ _ _ _ _ _ _ _ _ _ _ [(u, r0), (xb, r1), (xl, r2), (xp, r3), (nu, r4), (xt, r5), (xs, r6), (xm, zA .long [.long m0, .long m2, .long m2, .long m3])] _ _ at Hcx121_5
  obtain ⟨Tcx121_6, Hcx121_6, stcx121_6⟩ := zAO Hcx121_5 hx hZ 7 2 rfl (by decide) (Nat.le_of_ble_eq_true rfl) (g := (mkF m 23 #[oa xm, oi 1, oi 2, .val (.long m1), .second] [(.long m1), (.int 2), (.ref xm)])) rfl rfl (hb hby d14_23)
  change zR _ _ _ _ _ _ _ _ _ _ _ _ _ _ [(u, r0), (xb, r1), (xl, r2), (xp, r3), (nu, r4), (xt, r5), (xs, r6), (xm, zA .long [.long m0, .long m2, .long m1, .long m3])] _ _ at Hcx121_6
  have hb7 : ifCond.holds .le v6 = false := by rw [← hv6, zAt]; exact decide_eq_false (by omega)
  refine ⟨_, _, _, _, 24, #[oa xm, oi 1, oi 2, .val (.long m1), .second], Hcx121_6, by decide, by decide, Or.inl ⟨rfl, ⟨m2, m1, ⟨by omega, Or.inr ⟨rfl, rfl⟩⟩, rfl, rfl⟩, d14_24, fun target q => ?_⟩⟩
  refine zC H0 hx hZ hown hby hw zt (own_cx120_0 xm) _ ?_
  refine zv H0 hx hZ 7 1 rfl (by decide) rfl (g := (mkF m 2 #[oa xm, oi 1, oi 2, ou, ou] [(.int 1), (.ref xm)])) rfl rfl (hb hby d14_2) _ ?_
  refine zC H0 hx hZ hown hby hw zt (own_cx120_1 xm m1) _ ?_
  refine zv H0 hx hZ 7 2 rfl (by decide) rfl (g := (mkF m 5 #[oa xm, oi 1, oi 2, ou, ou] [(.int 2), (.ref xm), (.long m1)])) rfl rfl (hb hby d14_5) _ ?_
  refine zC H0 hx hZ hown hby hw zt (own_cx121_2 xm m2 m1 v6 hv6 hb7) _ ?_
  refine zv H0 hx hZ 7 1 rfl (by decide) rfl (g := (mkF m 12 #[oa xm, oi 1, oi 2, ou, ou] [(.int 1), (.ref xm)])) rfl rfl (hb hby d14_12) _ ?_
  refine zC H0 hx hZ hown hby hw zt (own_cx121_3 xm m1) _ ?_
  refine zv H0 hx hZ 7 2 rfl (by decide) rfl (g := (mkF m 18 #[oa xm, oi 1, oi 2, .val (.long m1), .second] [(.int 2), (.ref xm), (.int 1), (.ref xm)])) rfl rfl (hb hby d14_18) _ ?_
  refine stcx121_5 _ ?_
  refine zC Hcx121_5 hx hZ hown hby hw zt (own_cx121_4 xm m1) _ ?_
  refine stcx121_6 _ ?_
  exact q
theorem own_cx12 (l : Launch) (Z : State) (a0 : Array Value) (hb0 : zU) (hw : ∀ d ∈ tables_1, d.before a0 Z = true) (xm : Addr) (u xb xl xp nu xt xs : Addr) (r0 r1 r2 r3 r4 r5 r6 : zr) (m0 m1 m2 m3 : Int64) :
    zX l Z a0 hb0 (⟨"com/example/tidewise/tidewise/search/UpperBoundsKthPinLaw", "cx", "([JII)V"⟩ : MethodName) method_2_code 5 none [] ({ frames := 0, cells := 0, slots := 0, locals := 0 } : Room) #[(.ref xm), (.int 1), (.int 2)] [(u, r0), (xb, r1), (xl, r2), (xp, r3), (nu, r4), (xt, r5), (xs, r6), (xm, zA .long [.long m0, .long m1, .long m2, .long m3])] (fun r cs' => ∃ za zb : Int64, (za.toInt ≤ zb.toInt ∧ ((za.toInt = m1.toInt ∧ zb.toInt = m2.toInt) ∨ (za.toInt = m2.toInt ∧ zb.toInt = m1.toInt))) ∧ r = none ∧ cs' = [(u, r0), (xb, r1), (xl, r2), (xp, r3), (nu, r4), (xt, r5), (xs, r6), (xm, zA .long [.long m0, .long za, .long zb, .long m3])]) := by
  by_cases h : m1.toInt ≤ m2.toInt
  · exact own_cx120 l Z a0 hb0 hw xm u xb xl xp nu xt xs r0 r1 r2 r3 r4 r5 r6 m0 m1 m2 m3 h
  · exact own_cx121 l Z a0 hb0 hw xm u xb xl xp nu xt xs r0 r1 r2 r3 r4 r5 r6 m0 m1 m2 m3 h

theorem zCB (x y : Int32) (h : (x &&& 3) = y) : zG 4 y := by
  have q := c_mask x 3 2 (by decide) (by decide)
  rw [h] at q
  rw [zAM]
  have : (4 : Int32).toInt = 4 := rfl
  omega
theorem own_sel4 {kk v : Int32} (hk : 1 ≤ kk.toInt ∧ kk.toInt ≤ 4) (hv : kk - 1 = v) (y0 y1 y2 y3 : Int64) : ∃ (jj : Nat) (yv : Int64), v.toInt = jj ∧ ([.long y0, .long y1, .long y2, .long y3] : List Value)[jj]? = some (.long yv) ∧ (kk.toInt = 1 → yv = y0) ∧ (kk.toInt = 2 → yv = y1) ∧ (kk.toInt = 3 → yv = y2) ∧ (kk.toInt = 4 → yv = y3) := by
  have q := c_isub kk 1
  have := rng32 v
  rw [hv, show (1 : Int32).toInt = 1 from rfl] at q
  have e : v.toInt = kk.toInt - 1 := by omega
  have z : kk.toInt = 1 ∨ kk.toInt = 2 ∨ kk.toInt = 3 ∨ kk.toInt = 4 := by omega
  rcases z with z | z | z | z
  · exact ⟨0, y0, by omega, rfl, fun _ => rfl, fun _ => by omega, fun _ => by omega, fun _ => by omega⟩
  · exact ⟨1, y1, by omega, rfl, fun _ => by omega, fun _ => rfl, fun _ => by omega, fun _ => by omega⟩
  · exact ⟨2, y2, by omega, rfl, fun _ => by omega, fun _ => by omega, fun _ => rfl, fun _ => by omega⟩
  · exact ⟨3, y3, by omega, rfl, fun _ => by omega, fun _ => by omega, fun _ => by omega, fun _ => rfl⟩
theorem own_w0 (xc : Int32) (y0 : Int32) (y1 : Int32) (y2 : Int32) (y3 : Int32) (y4 : Int32) (v2 : Int32) (hv2 : (xc &&& (3 : Int32)) = v2) (v7 : Int32) (hv7 : ((xc.toUInt32 >>> ((2 : Int32) &&& 31).toUInt32).toInt32) = v7) (v9 : Int32) (hv9 : (v7 &&& (3 : Int32)) = v9) (v14 : Int32) (hv14 : ((xc.toUInt32 >>> ((4 : Int32) &&& 31).toUInt32).toInt32) = v14) (v16 : Int32) (hv16 : (v14 &&& (3 : Int32)) = v16) (v22 : Int32) (hv22 : ((xc.toUInt32 >>> ((6 : Int32) &&& 31).toUInt32).toInt32) = v22) (v24 : Int32) (hv24 : (v22 &&& (3 : Int32)) = v24) (v30 : Int32) (hv30 : ((xc.toUInt32 >>> ((8 : Int32) &&& 31).toUInt32).toInt32) = v30) (v32 : Int32) (hv32 : (v30 &&& (3 : Int32)) = v32) (v39 : Int32) (hv39 : ((xc.toUInt32 >>> ((10 : Int32) &&& 31).toUInt32).toInt32) = v39) (v41 : Int32) (hv41 : (v39 &&& (3 : Int32)) = v41) (v42 : Int32) (hv42 : ((1 : Int32) + v41) = v42) :
    zF zm code 0 #[oi xc, oi y0, oi y1, oi y2, oi y3, oi y4, ou, ou, ou, ou, ou, ou, ou, ou, ou, ou, ou, ou, ou, ou, ou, ou] [] 45 #[oi xc, oi y0, oi y1, oi y2, oi y3, oi y4, oi v2, oi v9, oi v16, oi v24, oi v32, oi v42, ou, ou, ou, ou, ou, ou, ou, ou, ou, ou] [] := by
  refine zM (pc2 := 1) at_0 rfl rfl ?_
  refine zT (v := 3) (pc2 := 2) at_1 rfl rfl ?_
  refine zBu (pc2 := 3) at_2 rfl (v := v2) hv2 ?_
  refine zBJ (pc2 := 5) at_3 rfl (L' := #[oi xc, oi y0, oi y1, oi y2, oi y3, oi y4, oi v2, ou, ou, ou, ou, ou, ou, ou, ou, ou, ou, ou, ou, ou, ou, ou]) rfl ?_
  refine zM (pc2 := 6) at_5 rfl rfl ?_
  refine zT (v := 2) (pc2 := 7) at_6 rfl rfl ?_
  refine zAr (pc2 := 8) at_7 rfl (v := v7) hv7 ?_
  refine zT (v := 3) (pc2 := 9) at_8 rfl rfl ?_
  refine zBu (pc2 := 10) at_9 rfl (v := v9) hv9 ?_
  refine zBJ (pc2 := 12) at_10 rfl (L' := #[oi xc, oi y0, oi y1, oi y2, oi y3, oi y4, oi v2, oi v9, ou, ou, ou, ou, ou, ou, ou, ou, ou, ou, ou, ou, ou, ou]) rfl ?_
  refine zM (pc2 := 13) at_12 rfl rfl ?_
  refine zT (v := 4) (pc2 := 14) at_13 rfl rfl ?_
  refine zAr (pc2 := 15) at_14 rfl (v := v14) hv14 ?_
  refine zT (v := 3) (pc2 := 16) at_15 rfl rfl ?_
  refine zBu (pc2 := 17) at_16 rfl (v := v16) hv16 ?_
  refine zBJ (pc2 := 19) at_17 rfl (L' := #[oi xc, oi y0, oi y1, oi y2, oi y3, oi y4, oi v2, oi v9, oi v16, ou, ou, ou, ou, ou, ou, ou, ou, ou, ou, ou, ou, ou]) rfl ?_
  refine zM (pc2 := 20) at_19 rfl rfl ?_
  refine zAu (v := 6) (pc2 := 22) at_20 rfl rfl ?_
  refine zAr (pc2 := 23) at_22 rfl (v := v22) hv22 ?_
  refine zT (v := 3) (pc2 := 24) at_23 rfl rfl ?_
  refine zBu (pc2 := 25) at_24 rfl (v := v24) hv24 ?_
  refine zBJ (pc2 := 27) at_25 rfl (L' := #[oi xc, oi y0, oi y1, oi y2, oi y3, oi y4, oi v2, oi v9, oi v16, oi v24, ou, ou, ou, ou, ou, ou, ou, ou, ou, ou, ou, ou]) rfl ?_
  refine zM (pc2 := 28) at_27 rfl rfl ?_
  refine zAu (v := 8) (pc2 := 30) at_28 rfl rfl ?_
  refine zAr (pc2 := 31) at_30 rfl (v := v30) hv30 ?_
  refine zT (v := 3) (pc2 := 32) at_31 rfl rfl ?_
  refine zBu (pc2 := 33) at_32 rfl (v := v32) hv32 ?_
  refine zBJ (pc2 := 35) at_33 rfl (L' := #[oi xc, oi y0, oi y1, oi y2, oi y3, oi y4, oi v2, oi v9, oi v16, oi v24, oi v32, ou, ou, ou, ou, ou, ou, ou, ou, ou, ou, ou]) rfl ?_
  refine zT (v := 1) (pc2 := 36) at_35 rfl rfl ?_
  refine zM (pc2 := 37) at_36 rfl rfl ?_
  refine zAu (v := 10) (pc2 := 39) at_37 rfl rfl ?_
  refine zAr (pc2 := 40) at_39 rfl (v := v39) hv39 ?_
  refine zT (v := 3) (pc2 := 41) at_40 rfl rfl ?_
  refine zBu (pc2 := 42) at_41 rfl (v := v41) hv41 ?_
  refine zAI (pc2 := 43) at_42 rfl (v := v42) hv42 ?_
  refine zBJ (pc2 := 45) at_43 rfl (L' := #[oi xc, oi y0, oi y1, oi y2, oi y3, oi y4, oi v2, oi v9, oi v16, oi v24, oi v32, oi v42, ou, ou, ou, ou, ou, ou, ou, ou, ou, ou]) rfl ?_
  exact zH
theorem own_w1 (xc : Int32) (y0 : Int32) (y1 : Int32) (y2 : Int32) (y3 : Int32) (y4 : Int32) (v2 : Int32) (v9 : Int32) (v16 : Int32) (v24 : Int32) (v32 : Int32) (v42 : Int32) (u : Addr) :
    zF zm code 48 #[oi xc, oi y0, oi y1, oi y2, oi y3, oi y4, oi v2, oi v9, oi v16, oi v24, oi v32, oi v42, ou, ou, ou, ou, ou, ou, ou, ou, ou, ou] [(.ref u)] 52 #[oi xc, oi y0, oi y1, oi y2, oi y3, oi y4, oi v2, oi v9, oi v16, oi v24, oi v32, oi v42, ou, ou, ou, ou, ou, ou, ou, ou, ou, ou] [(.int 4), (.int v42), (.ref u), (.ref u)] := by
  refine zBh (pc2 := 49) at_48 rfl rfl ?_
  refine zn (pc2 := 51) at_49 rfl rfl ?_
  refine zT (v := 4) (pc2 := 52) at_51 rfl rfl ?_
  exact zH
theorem own_w2 (xc : Int32) (y0 : Int32) (y1 : Int32) (y2 : Int32) (y3 : Int32) (y4 : Int32) (v2 : Int32) (v9 : Int32) (v16 : Int32) (v24 : Int32) (v32 : Int32) (v42 : Int32) (u : Addr) (v62 : UInt64) (hv62 : (FP.i2d y0) = v62) :
    zF zm code 55 #[oi xc, oi y0, oi y1, oi y2, oi y3, oi y4, oi v2, oi v9, oi v16, oi v24, oi v32, oi v42, ou, ou, ou, ou, ou, ou, ou, ou, ou, ou] [(.ref u)] 63 #[oi xc, oi y0, oi y1, oi y2, oi y3, oi y4, oi v2, oi v9, oi v16, oi v24, oi v32, oi v42, oa u, ou, ou, ou, ou, ou, ou, ou, ou, ou] [(.double v62), (.int v2), (.ref u)] := by
  refine zDS (pc2 := 57) at_55 rfl rfl (L' := #[oi xc, oi y0, oi y1, oi y2, oi y3, oi y4, oi v2, oi v9, oi v16, oi v24, oi v32, oi v42, oa u, ou, ou, ou, ou, ou, ou, ou, ou, ou]) rfl ?_
  refine zp (pc2 := 59) at_57 rfl rfl rfl ?_
  refine zn (pc2 := 61) at_59 rfl rfl ?_
  refine zM (pc2 := 62) at_61 rfl rfl ?_
  refine zCJ (pc2 := 63) at_62 rfl (v := v62) hv62 ?_
  exact zH
theorem own_w3 (xc : Int32) (y0 : Int32) (y1 : Int32) (y2 : Int32) (y3 : Int32) (y4 : Int32) (v2 : Int32) (v9 : Int32) (v16 : Int32) (v24 : Int32) (v32 : Int32) (v42 : Int32) (u : Addr) (v71 : UInt64) (hv71 : (FP.i2d y1) = v71) :
    zF zm code 66 #[oi xc, oi y0, oi y1, oi y2, oi y3, oi y4, oi v2, oi v9, oi v16, oi v24, oi v32, oi v42, oa u, ou, ou, ou, ou, ou, ou, ou, ou, ou] [] 72 #[oi xc, oi y0, oi y1, oi y2, oi y3, oi y4, oi v2, oi v9, oi v16, oi v24, oi v32, oi v42, oa u, ou, ou, ou, ou, ou, ou, ou, ou, ou] [(.double v71), (.int v9), (.ref u)] := by
  refine zp (pc2 := 68) at_66 rfl rfl rfl ?_
  refine zn (pc2 := 70) at_68 rfl rfl ?_
  refine zM (pc2 := 71) at_70 rfl rfl ?_
  refine zCJ (pc2 := 72) at_71 rfl (v := v71) hv71 ?_
  exact zH
theorem own_w4 (xc : Int32) (y0 : Int32) (y1 : Int32) (y2 : Int32) (y3 : Int32) (y4 : Int32) (v2 : Int32) (v9 : Int32) (v16 : Int32) (v24 : Int32) (v32 : Int32) (v42 : Int32) (u : Addr) (v80 : UInt64) (hv80 : (FP.i2d y2) = v80) :
    zF zm code 75 #[oi xc, oi y0, oi y1, oi y2, oi y3, oi y4, oi v2, oi v9, oi v16, oi v24, oi v32, oi v42, oa u, ou, ou, ou, ou, ou, ou, ou, ou, ou] [] 81 #[oi xc, oi y0, oi y1, oi y2, oi y3, oi y4, oi v2, oi v9, oi v16, oi v24, oi v32, oi v42, oa u, ou, ou, ou, ou, ou, ou, ou, ou, ou] [(.double v80), (.int v16), (.ref u)] := by
  refine zp (pc2 := 77) at_75 rfl rfl rfl ?_
  refine zn (pc2 := 79) at_77 rfl rfl ?_
  refine zM (pc2 := 80) at_79 rfl rfl ?_
  refine zCJ (pc2 := 81) at_80 rfl (v := v80) hv80 ?_
  exact zH
theorem own_w5 (xc : Int32) (y0 : Int32) (y1 : Int32) (y2 : Int32) (y3 : Int32) (y4 : Int32) (v2 : Int32) (v9 : Int32) (v16 : Int32) (v24 : Int32) (v32 : Int32) (v42 : Int32) (u : Addr) (v90 : UInt64) (hv90 : (FP.i2d y3) = v90) :
    zF zm code 84 #[oi xc, oi y0, oi y1, oi y2, oi y3, oi y4, oi v2, oi v9, oi v16, oi v24, oi v32, oi v42, oa u, ou, ou, ou, ou, ou, ou, ou, ou, ou] [] 91 #[oi xc, oi y0, oi y1, oi y2, oi y3, oi y4, oi v2, oi v9, oi v16, oi v24, oi v32, oi v42, oa u, ou, ou, ou, ou, ou, ou, ou, ou, ou] [(.double v90), (.int v24), (.ref u)] := by
  refine zp (pc2 := 86) at_84 rfl rfl rfl ?_
  refine zn (pc2 := 88) at_86 rfl rfl ?_
  refine zn (pc2 := 90) at_88 rfl rfl ?_
  refine zCJ (pc2 := 91) at_90 rfl (v := v90) hv90 ?_
  exact zH
theorem own_w6 (xc : Int32) (y0 : Int32) (y1 : Int32) (y2 : Int32) (y3 : Int32) (y4 : Int32) (v2 : Int32) (v9 : Int32) (v16 : Int32) (v24 : Int32) (v32 : Int32) (v42 : Int32) (u : Addr) (v100 : UInt64) (hv100 : (FP.i2d y4) = v100) :
    zF zm code 94 #[oi xc, oi y0, oi y1, oi y2, oi y3, oi y4, oi v2, oi v9, oi v16, oi v24, oi v32, oi v42, oa u, ou, ou, ou, ou, ou, ou, ou, ou, ou] [] 101 #[oi xc, oi y0, oi y1, oi y2, oi y3, oi y4, oi v2, oi v9, oi v16, oi v24, oi v32, oi v42, oa u, ou, ou, ou, ou, ou, ou, ou, ou, ou] [(.double v100), (.int v32), (.ref u)] := by
  refine zp (pc2 := 96) at_94 rfl rfl rfl ?_
  refine zn (pc2 := 98) at_96 rfl rfl ?_
  refine zn (pc2 := 100) at_98 rfl rfl ?_
  refine zCJ (pc2 := 101) at_100 rfl (v := v100) hv100 ?_
  exact zH
theorem own_w7 (xc : Int32) (y0 : Int32) (y1 : Int32) (y2 : Int32) (y3 : Int32) (y4 : Int32) (v2 : Int32) (v9 : Int32) (v16 : Int32) (v24 : Int32) (v32 : Int32) (v42 : Int32) (u : Addr) :
    zF zm code 104 #[oi xc, oi y0, oi y1, oi y2, oi y3, oi y4, oi v2, oi v9, oi v16, oi v24, oi v32, oi v42, oa u, ou, ou, ou, ou, ou, ou, ou, ou, ou] [] 106 #[oi xc, oi y0, oi y1, oi y2, oi y3, oi y4, oi v2, oi v9, oi v16, oi v24, oi v32, oi v42, oa u, ou, ou, ou, ou, ou, ou, ou, ou, ou] [(.ref u)] := by
  refine zp (pc2 := 106) at_104 rfl rfl rfl ?_
  exact zH
theorem own_q1_0 (xc : Int32) (y0 : Int32) (y1 : Int32) (y2 : Int32) (y3 : Int32) (y4 : Int32) (v2 : Int32) (v9 : Int32) (v16 : Int32) (v24 : Int32) (v32 : Int32) (v42 : Int32) (u : Addr) (got : UInt64) :
    zF zm code 109 #[oi xc, oi y0, oi y1, oi y2, oi y3, oi y4, oi v2, oi v9, oi v16, oi v24, oi v32, oi v42, oa u, ou, ou, ou, ou, ou, ou, ou, ou, ou] [(.double got)] 117 #[oi xc, oi y0, oi y1, oi y2, oi y3, oi y4, oi v2, oi v9, oi v16, oi v24, oi v32, oi v42, oa u, .val (.double got), .second, .val (.long (9223372036854775807 : Int64)), .second, ou, ou, ou, ou, ou] [(.int 4)] := by
  refine zCe (pc2 := 111) at_109 rfl (L' := #[oi xc, oi y0, oi y1, oi y2, oi y3, oi y4, oi v2, oi v9, oi v16, oi v24, oi v32, oi v42, oa u, .val (.double got), .second, ou, ou, ou, ou, ou, ou, ou]) rfl ?_
  refine own_ldc2L (v := (9223372036854775807 : Int64)) (pc2 := 114) at_111 rfl (List.mem_of_getElem? (i := 0) rfl) ?_
  refine zCc (pc2 := 116) at_114 rfl (L' := #[oi xc, oi y0, oi y1, oi y2, oi y3, oi y4, oi v2, oi v9, oi v16, oi v24, oi v32, oi v42, oa u, .val (.double got), .second, .val (.long (9223372036854775807 : Int64)), .second, ou, ou, ou, ou, ou]) rfl ?_
  refine zT (v := 4) (pc2 := 117) at_116 rfl rfl ?_
  exact zH
theorem own_q1_1 (xc : Int32) (y0 : Int32) (y1 : Int32) (y2 : Int32) (y3 : Int32) (y4 : Int32) (v2 : Int32) (v9 : Int32) (v16 : Int32) (v24 : Int32) (v32 : Int32) (v42 : Int32) (u : Addr) (got : UInt64) (xm : Addr) :
    zF zm code 119 #[oi xc, oi y0, oi y1, oi y2, oi y3, oi y4, oi v2, oi v9, oi v16, oi v24, oi v32, oi v42, oa u, .val (.double got), .second, .val (.long (9223372036854775807 : Int64)), .second, ou, ou, ou, ou, ou] [(.ref xm)] 126 #[oi xc, oi y0, oi y1, oi y2, oi y3, oi y4, oi v2, oi v9, oi v16, oi v24, oi v32, oi v42, oa u, .val (.double got), .second, .val (.long (9223372036854775807 : Int64)), .second, oa xm, ou, ou, ou, ou] [(.long (9223372036854775807 : Int64)), (.int 0), (.ref xm)] := by
  refine zDS (pc2 := 121) at_119 rfl rfl (L' := #[oi xc, oi y0, oi y1, oi y2, oi y3, oi y4, oi v2, oi v9, oi v16, oi v24, oi v32, oi v42, oa u, .val (.double got), .second, .val (.long (9223372036854775807 : Int64)), .second, oa xm, ou, ou, ou, ou]) rfl ?_
  refine zp (pc2 := 123) at_121 rfl rfl rfl ?_
  refine zT (v := 0) (pc2 := 124) at_123 rfl rfl ?_
  refine zAh (pc2 := 126) at_124 rfl rfl ?_
  exact zH
theorem own_q1_2 (xc : Int32) (y0 : Int32) (y1 : Int32) (y2 : Int32) (y3 : Int32) (y4 : Int32) (v2 : Int32) (v9 : Int32) (v16 : Int32) (v24 : Int32) (v32 : Int32) (v42 : Int32) (u : Addr) (got : UInt64) (xm : Addr) :
    zF zm code 127 #[oi xc, oi y0, oi y1, oi y2, oi y3, oi y4, oi v2, oi v9, oi v16, oi v24, oi v32, oi v42, oa u, .val (.double got), .second, .val (.long (9223372036854775807 : Int64)), .second, oa xm, ou, ou, ou, ou] [] 132 #[oi xc, oi y0, oi y1, oi y2, oi y3, oi y4, oi v2, oi v9, oi v16, oi v24, oi v32, oi v42, oa u, .val (.double got), .second, .val (.long (9223372036854775807 : Int64)), .second, oa xm, ou, ou, ou, ou] [(.long (9223372036854775807 : Int64)), (.int 1), (.ref xm)] := by
  refine zp (pc2 := 129) at_127 rfl rfl rfl ?_
  refine zT (v := 1) (pc2 := 130) at_129 rfl rfl ?_
  refine zAh (pc2 := 132) at_130 rfl rfl ?_
  exact zH
theorem own_q1_3 (xc : Int32) (y0 : Int32) (y1 : Int32) (y2 : Int32) (y3 : Int32) (y4 : Int32) (v2 : Int32) (v9 : Int32) (v16 : Int32) (v24 : Int32) (v32 : Int32) (v42 : Int32) (u : Addr) (got : UInt64) (xm : Addr) :
    zF zm code 133 #[oi xc, oi y0, oi y1, oi y2, oi y3, oi y4, oi v2, oi v9, oi v16, oi v24, oi v32, oi v42, oa u, .val (.double got), .second, .val (.long (9223372036854775807 : Int64)), .second, oa xm, ou, ou, ou, ou] [] 138 #[oi xc, oi y0, oi y1, oi y2, oi y3, oi y4, oi v2, oi v9, oi v16, oi v24, oi v32, oi v42, oa u, .val (.double got), .second, .val (.long (9223372036854775807 : Int64)), .second, oa xm, ou, ou, ou, ou] [(.long (9223372036854775807 : Int64)), (.int 2), (.ref xm)] := by
  refine zp (pc2 := 135) at_133 rfl rfl rfl ?_
  refine zT (v := 2) (pc2 := 136) at_135 rfl rfl ?_
  refine zAh (pc2 := 138) at_136 rfl rfl ?_
  exact zH
theorem own_q1_4 (xc : Int32) (y0 : Int32) (y1 : Int32) (y2 : Int32) (y3 : Int32) (y4 : Int32) (v2 : Int32) (v9 : Int32) (v16 : Int32) (v24 : Int32) (v32 : Int32) (v42 : Int32) (u : Addr) (got : UInt64) (xm : Addr) :
    zF zm code 139 #[oi xc, oi y0, oi y1, oi y2, oi y3, oi y4, oi v2, oi v9, oi v16, oi v24, oi v32, oi v42, oa u, .val (.double got), .second, .val (.long (9223372036854775807 : Int64)), .second, oa xm, ou, ou, ou, ou] [] 144 #[oi xc, oi y0, oi y1, oi y2, oi y3, oi y4, oi v2, oi v9, oi v16, oi v24, oi v32, oi v42, oa u, .val (.double got), .second, .val (.long (9223372036854775807 : Int64)), .second, oa xm, ou, ou, ou, ou] [(.long (9223372036854775807 : Int64)), (.int 3), (.ref xm)] := by
  refine zp (pc2 := 141) at_139 rfl rfl rfl ?_
  refine zT (v := 3) (pc2 := 142) at_141 rfl rfl ?_
  refine zAh (pc2 := 144) at_142 rfl rfl ?_
  exact zH
theorem own_q1_5 (xc : Int32) (y0 : Int32) (y1 : Int32) (y2 : Int32) (y3 : Int32) (y4 : Int32) (v2 : Int32) (v9 : Int32) (v16 : Int32) (v24 : Int32) (v32 : Int32) (v42 : Int32) (u : Addr) (got : UInt64) (xm : Addr) :
    zF zm code 145 #[oi xc, oi y0, oi y1, oi y2, oi y3, oi y4, oi v2, oi v9, oi v16, oi v24, oi v32, oi v42, oa u, .val (.double got), .second, .val (.long (9223372036854775807 : Int64)), .second, oa xm, ou, ou, ou, ou] [] 153 #[oi xc, oi y0, oi y1, oi y2, oi y3, oi y4, oi v2, oi v9, oi v16, oi v24, oi v32, oi v42, oa u, .val (.double got), .second, .val (.long (9223372036854775807 : Int64)), .second, oa xm, ou, ou, ou, ou] [(.int v2), (.ref xm), (.int v2), (.ref xm)] := by
  refine zp (pc2 := 147) at_145 rfl rfl rfl ?_
  refine zn (pc2 := 149) at_147 rfl rfl ?_
  refine zp (pc2 := 151) at_149 rfl rfl rfl ?_
  refine zn (pc2 := 153) at_151 rfl rfl ?_
  exact zH
theorem own_q1_6 (xc : Int32) (y0 : Int32) (y1 : Int32) (y2 : Int32) (y3 : Int32) (y4 : Int32) (v2 : Int32) (v9 : Int32) (v16 : Int32) (v24 : Int32) (v32 : Int32) (v42 : Int32) (u : Addr) (got : UInt64) (xm : Addr) (w50 : Int64) (v155 : Int64) (hv155 : y0.toInt64 = v155) :
    zF zm code 154 #[oi xc, oi y0, oi y1, oi y2, oi y3, oi y4, oi v2, oi v9, oi v16, oi v24, oi v32, oi v42, oa u, .val (.double got), .second, .val (.long (9223372036854775807 : Int64)), .second, oa xm, ou, ou, ou, ou] [(.long w50), (.int v2), (.ref xm)] 156 #[oi xc, oi y0, oi y1, oi y2, oi y3, oi y4, oi v2, oi v9, oi v16, oi v24, oi v32, oi v42, oa u, .val (.double got), .second, .val (.long (9223372036854775807 : Int64)), .second, oa xm, ou, ou, ou, ou] [(.long v155), (.long w50), (.int v2), (.ref xm)] := by
  refine zM (pc2 := 155) at_154 rfl rfl ?_
  refine zAv (pc2 := 156) at_155 rfl (v := v155) hv155 ?_
  exact zH
theorem own_q1_7 (xc : Int32) (y0 : Int32) (y1 : Int32) (y2 : Int32) (y3 : Int32) (y4 : Int32) (v2 : Int32) (v9 : Int32) (v16 : Int32) (v24 : Int32) (v32 : Int32) (v42 : Int32) (u : Addr) (got : UInt64) (xm : Addr) :
    zF zm code 160 #[oi xc, oi y0, oi y1, oi y2, oi y3, oi y4, oi v2, oi v9, oi v16, oi v24, oi v32, oi v42, oa u, .val (.double got), .second, .val (.long (9223372036854775807 : Int64)), .second, oa xm, ou, ou, ou, ou] [] 168 #[oi xc, oi y0, oi y1, oi y2, oi y3, oi y4, oi v2, oi v9, oi v16, oi v24, oi v32, oi v42, oa u, .val (.double got), .second, .val (.long (9223372036854775807 : Int64)), .second, oa xm, ou, ou, ou, ou] [(.int v9), (.ref xm), (.int v9), (.ref xm)] := by
  refine zp (pc2 := 162) at_160 rfl rfl rfl ?_
  refine zn (pc2 := 164) at_162 rfl rfl ?_
  refine zp (pc2 := 166) at_164 rfl rfl rfl ?_
  refine zn (pc2 := 168) at_166 rfl rfl ?_
  exact zH
theorem own_q1_8 (xc : Int32) (y0 : Int32) (y1 : Int32) (y2 : Int32) (y3 : Int32) (y4 : Int32) (v2 : Int32) (v9 : Int32) (v16 : Int32) (v24 : Int32) (v32 : Int32) (v42 : Int32) (u : Addr) (got : UInt64) (xm : Addr) (w51 : Int64) (v170 : Int64) (hv170 : y1.toInt64 = v170) :
    zF zm code 169 #[oi xc, oi y0, oi y1, oi y2, oi y3, oi y4, oi v2, oi v9, oi v16, oi v24, oi v32, oi v42, oa u, .val (.double got), .second, .val (.long (9223372036854775807 : Int64)), .second, oa xm, ou, ou, ou, ou] [(.long w51), (.int v9), (.ref xm)] 171 #[oi xc, oi y0, oi y1, oi y2, oi y3, oi y4, oi v2, oi v9, oi v16, oi v24, oi v32, oi v42, oa u, .val (.double got), .second, .val (.long (9223372036854775807 : Int64)), .second, oa xm, ou, ou, ou, ou] [(.long v170), (.long w51), (.int v9), (.ref xm)] := by
  refine zM (pc2 := 170) at_169 rfl rfl ?_
  refine zAv (pc2 := 171) at_170 rfl (v := v170) hv170 ?_
  exact zH
theorem own_q1_9 (xc : Int32) (y0 : Int32) (y1 : Int32) (y2 : Int32) (y3 : Int32) (y4 : Int32) (v2 : Int32) (v9 : Int32) (v16 : Int32) (v24 : Int32) (v32 : Int32) (v42 : Int32) (u : Addr) (got : UInt64) (xm : Addr) :
    zF zm code 175 #[oi xc, oi y0, oi y1, oi y2, oi y3, oi y4, oi v2, oi v9, oi v16, oi v24, oi v32, oi v42, oa u, .val (.double got), .second, .val (.long (9223372036854775807 : Int64)), .second, oa xm, ou, ou, ou, ou] [] 183 #[oi xc, oi y0, oi y1, oi y2, oi y3, oi y4, oi v2, oi v9, oi v16, oi v24, oi v32, oi v42, oa u, .val (.double got), .second, .val (.long (9223372036854775807 : Int64)), .second, oa xm, ou, ou, ou, ou] [(.int v16), (.ref xm), (.int v16), (.ref xm)] := by
  refine zp (pc2 := 177) at_175 rfl rfl rfl ?_
  refine zn (pc2 := 179) at_177 rfl rfl ?_
  refine zp (pc2 := 181) at_179 rfl rfl rfl ?_
  refine zn (pc2 := 183) at_181 rfl rfl ?_
  exact zH
theorem own_q1_10 (xc : Int32) (y0 : Int32) (y1 : Int32) (y2 : Int32) (y3 : Int32) (y4 : Int32) (v2 : Int32) (v9 : Int32) (v16 : Int32) (v24 : Int32) (v32 : Int32) (v42 : Int32) (u : Addr) (got : UInt64) (xm : Addr) (w52 : Int64) (v185 : Int64) (hv185 : y2.toInt64 = v185) :
    zF zm code 184 #[oi xc, oi y0, oi y1, oi y2, oi y3, oi y4, oi v2, oi v9, oi v16, oi v24, oi v32, oi v42, oa u, .val (.double got), .second, .val (.long (9223372036854775807 : Int64)), .second, oa xm, ou, ou, ou, ou] [(.long w52), (.int v16), (.ref xm)] 186 #[oi xc, oi y0, oi y1, oi y2, oi y3, oi y4, oi v2, oi v9, oi v16, oi v24, oi v32, oi v42, oa u, .val (.double got), .second, .val (.long (9223372036854775807 : Int64)), .second, oa xm, ou, ou, ou, ou] [(.long v185), (.long w52), (.int v16), (.ref xm)] := by
  refine zM (pc2 := 185) at_184 rfl rfl ?_
  refine zAv (pc2 := 186) at_185 rfl (v := v185) hv185 ?_
  exact zH
theorem own_q1_11 (xc : Int32) (y0 : Int32) (y1 : Int32) (y2 : Int32) (y3 : Int32) (y4 : Int32) (v2 : Int32) (v9 : Int32) (v16 : Int32) (v24 : Int32) (v32 : Int32) (v42 : Int32) (u : Addr) (got : UInt64) (xm : Addr) :
    zF zm code 190 #[oi xc, oi y0, oi y1, oi y2, oi y3, oi y4, oi v2, oi v9, oi v16, oi v24, oi v32, oi v42, oa u, .val (.double got), .second, .val (.long (9223372036854775807 : Int64)), .second, oa xm, ou, ou, ou, ou] [] 198 #[oi xc, oi y0, oi y1, oi y2, oi y3, oi y4, oi v2, oi v9, oi v16, oi v24, oi v32, oi v42, oa u, .val (.double got), .second, .val (.long (9223372036854775807 : Int64)), .second, oa xm, ou, ou, ou, ou] [(.int v24), (.ref xm), (.int v24), (.ref xm)] := by
  refine zp (pc2 := 192) at_190 rfl rfl rfl ?_
  refine zn (pc2 := 194) at_192 rfl rfl ?_
  refine zp (pc2 := 196) at_194 rfl rfl rfl ?_
  refine zn (pc2 := 198) at_196 rfl rfl ?_
  exact zH
theorem own_q1_12 (xc : Int32) (y0 : Int32) (y1 : Int32) (y2 : Int32) (y3 : Int32) (y4 : Int32) (v2 : Int32) (v9 : Int32) (v16 : Int32) (v24 : Int32) (v32 : Int32) (v42 : Int32) (u : Addr) (got : UInt64) (xm : Addr) (w53 : Int64) (v201 : Int64) (hv201 : y3.toInt64 = v201) :
    zF zm code 199 #[oi xc, oi y0, oi y1, oi y2, oi y3, oi y4, oi v2, oi v9, oi v16, oi v24, oi v32, oi v42, oa u, .val (.double got), .second, .val (.long (9223372036854775807 : Int64)), .second, oa xm, ou, ou, ou, ou] [(.long w53), (.int v24), (.ref xm)] 202 #[oi xc, oi y0, oi y1, oi y2, oi y3, oi y4, oi v2, oi v9, oi v16, oi v24, oi v32, oi v42, oa u, .val (.double got), .second, .val (.long (9223372036854775807 : Int64)), .second, oa xm, ou, ou, ou, ou] [(.long v201), (.long w53), (.int v24), (.ref xm)] := by
  refine zn (pc2 := 201) at_199 rfl rfl ?_
  refine zAv (pc2 := 202) at_201 rfl (v := v201) hv201 ?_
  exact zH
theorem own_q1_13 (xc : Int32) (y0 : Int32) (y1 : Int32) (y2 : Int32) (y3 : Int32) (y4 : Int32) (v2 : Int32) (v9 : Int32) (v16 : Int32) (v24 : Int32) (v32 : Int32) (v42 : Int32) (u : Addr) (got : UInt64) (xm : Addr) :
    zF zm code 206 #[oi xc, oi y0, oi y1, oi y2, oi y3, oi y4, oi v2, oi v9, oi v16, oi v24, oi v32, oi v42, oa u, .val (.double got), .second, .val (.long (9223372036854775807 : Int64)), .second, oa xm, ou, ou, ou, ou] [] 214 #[oi xc, oi y0, oi y1, oi y2, oi y3, oi y4, oi v2, oi v9, oi v16, oi v24, oi v32, oi v42, oa u, .val (.double got), .second, .val (.long (9223372036854775807 : Int64)), .second, oa xm, ou, ou, ou, ou] [(.int v32), (.ref xm), (.int v32), (.ref xm)] := by
  refine zp (pc2 := 208) at_206 rfl rfl rfl ?_
  refine zn (pc2 := 210) at_208 rfl rfl ?_
  refine zp (pc2 := 212) at_210 rfl rfl rfl ?_
  refine zn (pc2 := 214) at_212 rfl rfl ?_
  exact zH
theorem own_q1_14 (xc : Int32) (y0 : Int32) (y1 : Int32) (y2 : Int32) (y3 : Int32) (y4 : Int32) (v2 : Int32) (v9 : Int32) (v16 : Int32) (v24 : Int32) (v32 : Int32) (v42 : Int32) (u : Addr) (got : UInt64) (xm : Addr) (w54 : Int64) (v217 : Int64) (hv217 : y4.toInt64 = v217) :
    zF zm code 215 #[oi xc, oi y0, oi y1, oi y2, oi y3, oi y4, oi v2, oi v9, oi v16, oi v24, oi v32, oi v42, oa u, .val (.double got), .second, .val (.long (9223372036854775807 : Int64)), .second, oa xm, ou, ou, ou, ou] [(.long w54), (.int v32), (.ref xm)] 218 #[oi xc, oi y0, oi y1, oi y2, oi y3, oi y4, oi v2, oi v9, oi v16, oi v24, oi v32, oi v42, oa u, .val (.double got), .second, .val (.long (9223372036854775807 : Int64)), .second, oa xm, ou, ou, ou, ou] [(.long v217), (.long w54), (.int v32), (.ref xm)] := by
  refine zn (pc2 := 217) at_215 rfl rfl ?_
  refine zAv (pc2 := 218) at_217 rfl (v := v217) hv217 ?_
  exact zH
theorem own_q1_15 (xc : Int32) (y0 : Int32) (y1 : Int32) (y2 : Int32) (y3 : Int32) (y4 : Int32) (v2 : Int32) (v9 : Int32) (v16 : Int32) (v24 : Int32) (v32 : Int32) (v42 : Int32) (u : Addr) (got : UInt64) (xm : Addr) :
    zF zm code 222 #[oi xc, oi y0, oi y1, oi y2, oi y3, oi y4, oi v2, oi v9, oi v16, oi v24, oi v32, oi v42, oa u, .val (.double got), .second, .val (.long (9223372036854775807 : Int64)), .second, oa xm, ou, ou, ou, ou] [] 226 #[oi xc, oi y0, oi y1, oi y2, oi y3, oi y4, oi v2, oi v9, oi v16, oi v24, oi v32, oi v42, oa u, .val (.double got), .second, .val (.long (9223372036854775807 : Int64)), .second, oa xm, ou, ou, ou, ou] [(.int 1), (.int 0), (.ref xm)] := by
  refine zp (pc2 := 224) at_222 rfl rfl rfl ?_
  refine zT (v := 0) (pc2 := 225) at_224 rfl rfl ?_
  refine zT (v := 1) (pc2 := 226) at_225 rfl rfl ?_
  exact zH
theorem own_q1_16 (xc : Int32) (y0 : Int32) (y1 : Int32) (y2 : Int32) (y3 : Int32) (y4 : Int32) (v2 : Int32) (v9 : Int32) (v16 : Int32) (v24 : Int32) (v32 : Int32) (v42 : Int32) (u : Addr) (got : UInt64) (xm : Addr) :
    zF zm code 229 #[oi xc, oi y0, oi y1, oi y2, oi y3, oi y4, oi v2, oi v9, oi v16, oi v24, oi v32, oi v42, oa u, .val (.double got), .second, .val (.long (9223372036854775807 : Int64)), .second, oa xm, ou, ou, ou, ou] [] 233 #[oi xc, oi y0, oi y1, oi y2, oi y3, oi y4, oi v2, oi v9, oi v16, oi v24, oi v32, oi v42, oa u, .val (.double got), .second, .val (.long (9223372036854775807 : Int64)), .second, oa xm, ou, ou, ou, ou] [(.int 3), (.int 2), (.ref xm)] := by
  refine zp (pc2 := 231) at_229 rfl rfl rfl ?_
  refine zT (v := 2) (pc2 := 232) at_231 rfl rfl ?_
  refine zT (v := 3) (pc2 := 233) at_232 rfl rfl ?_
  exact zH
theorem own_q1_17 (xc : Int32) (y0 : Int32) (y1 : Int32) (y2 : Int32) (y3 : Int32) (y4 : Int32) (v2 : Int32) (v9 : Int32) (v16 : Int32) (v24 : Int32) (v32 : Int32) (v42 : Int32) (u : Addr) (got : UInt64) (xm : Addr) :
    zF zm code 236 #[oi xc, oi y0, oi y1, oi y2, oi y3, oi y4, oi v2, oi v9, oi v16, oi v24, oi v32, oi v42, oa u, .val (.double got), .second, .val (.long (9223372036854775807 : Int64)), .second, oa xm, ou, ou, ou, ou] [] 240 #[oi xc, oi y0, oi y1, oi y2, oi y3, oi y4, oi v2, oi v9, oi v16, oi v24, oi v32, oi v42, oa u, .val (.double got), .second, .val (.long (9223372036854775807 : Int64)), .second, oa xm, ou, ou, ou, ou] [(.int 2), (.int 0), (.ref xm)] := by
  refine zp (pc2 := 238) at_236 rfl rfl rfl ?_
  refine zT (v := 0) (pc2 := 239) at_238 rfl rfl ?_
  refine zT (v := 2) (pc2 := 240) at_239 rfl rfl ?_
  exact zH
theorem own_q1_18 (xc : Int32) (y0 : Int32) (y1 : Int32) (y2 : Int32) (y3 : Int32) (y4 : Int32) (v2 : Int32) (v9 : Int32) (v16 : Int32) (v24 : Int32) (v32 : Int32) (v42 : Int32) (u : Addr) (got : UInt64) (xm : Addr) :
    zF zm code 243 #[oi xc, oi y0, oi y1, oi y2, oi y3, oi y4, oi v2, oi v9, oi v16, oi v24, oi v32, oi v42, oa u, .val (.double got), .second, .val (.long (9223372036854775807 : Int64)), .second, oa xm, ou, ou, ou, ou] [] 247 #[oi xc, oi y0, oi y1, oi y2, oi y3, oi y4, oi v2, oi v9, oi v16, oi v24, oi v32, oi v42, oa u, .val (.double got), .second, .val (.long (9223372036854775807 : Int64)), .second, oa xm, ou, ou, ou, ou] [(.int 3), (.int 1), (.ref xm)] := by
  refine zp (pc2 := 245) at_243 rfl rfl rfl ?_
  refine zT (v := 1) (pc2 := 246) at_245 rfl rfl ?_
  refine zT (v := 3) (pc2 := 247) at_246 rfl rfl ?_
  exact zH
theorem own_q1_19 (xc : Int32) (y0 : Int32) (y1 : Int32) (y2 : Int32) (y3 : Int32) (y4 : Int32) (v2 : Int32) (v9 : Int32) (v16 : Int32) (v24 : Int32) (v32 : Int32) (v42 : Int32) (u : Addr) (got : UInt64) (xm : Addr) :
    zF zm code 250 #[oi xc, oi y0, oi y1, oi y2, oi y3, oi y4, oi v2, oi v9, oi v16, oi v24, oi v32, oi v42, oa u, .val (.double got), .second, .val (.long (9223372036854775807 : Int64)), .second, oa xm, ou, ou, ou, ou] [] 254 #[oi xc, oi y0, oi y1, oi y2, oi y3, oi y4, oi v2, oi v9, oi v16, oi v24, oi v32, oi v42, oa u, .val (.double got), .second, .val (.long (9223372036854775807 : Int64)), .second, oa xm, ou, ou, ou, ou] [(.int 2), (.int 1), (.ref xm)] := by
  refine zp (pc2 := 252) at_250 rfl rfl rfl ?_
  refine zT (v := 1) (pc2 := 253) at_252 rfl rfl ?_
  refine zT (v := 2) (pc2 := 254) at_253 rfl rfl ?_
  exact zH
theorem own_q1_20 (xc : Int32) (y0 : Int32) (y1 : Int32) (y2 : Int32) (y3 : Int32) (y4 : Int32) (v2 : Int32) (v9 : Int32) (v16 : Int32) (v24 : Int32) (v32 : Int32) (v42 : Int32) (u : Addr) (got : UInt64) (xm : Addr) (v262 : Int32) (hv262 : (v42 - (1 : Int32)) = v262) :
    zF zm code 257 #[oi xc, oi y0, oi y1, oi y2, oi y3, oi y4, oi v2, oi v9, oi v16, oi v24, oi v32, oi v42, oa u, .val (.double got), .second, .val (.long (9223372036854775807 : Int64)), .second, oa xm, ou, ou, ou, ou] [] 263 #[oi xc, oi y0, oi y1, oi y2, oi y3, oi y4, oi v2, oi v9, oi v16, oi v24, oi v32, oi v42, oa u, .val (.double got), .second, .val (.long (9223372036854775807 : Int64)), .second, oa xm, ou, ou, ou, ou] [(.int v262), (.ref xm)] := by
  refine zp (pc2 := 259) at_257 rfl rfl rfl ?_
  refine zn (pc2 := 261) at_259 rfl rfl ?_
  refine zT (v := 1) (pc2 := 262) at_261 rfl rfl ?_
  refine zAU (pc2 := 263) at_262 rfl (v := v262) hv262 ?_
  exact zH
theorem own_q1_21 (xc : Int32) (y0 : Int32) (y1 : Int32) (y2 : Int32) (y3 : Int32) (y4 : Int32) (v2 : Int32) (v9 : Int32) (v16 : Int32) (v24 : Int32) (v32 : Int32) (v42 : Int32) (u : Addr) (got : UInt64) (xm : Addr) (yv : Int64) (v270 : Int32) (hv270 : (if yv > (9223372036854775807 : Int64) then (1 : Int32) else if yv = (9223372036854775807 : Int64) then 0 else -1) = v270) (hb271 : ifCond.holds .ne v270 = true) (v282 : UInt64) (hv282 : (FP.l2d yv) = v282) (v289 : Int32) (hv289 : (cmpValue (FP.dcmp got v282) .l) = v289) (hb290 : ifCond.holds .ne v289 = false) :
    zF zm code 264 #[oi xc, oi y0, oi y1, oi y2, oi y3, oi y4, oi v2, oi v9, oi v16, oi v24, oi v32, oi v42, oa u, .val (.double got), .second, .val (.long (9223372036854775807 : Int64)), .second, oa xm, ou, ou, ou, ou] [(.long yv)] 298 #[oi xc, oi y0, oi y1, oi y2, oi y3, oi y4, oi v2, oi v9, oi v16, oi v24, oi v32, oi v42, oa u, .val (.double got), .second, .val (.long (9223372036854775807 : Int64)), .second, oa xm, .val (.long yv), .second, .val (.double v282), .second] [(.int 1)] := by
  refine zCc (pc2 := 266) at_264 rfl (L' := #[oi xc, oi y0, oi y1, oi y2, oi y3, oi y4, oi v2, oi v9, oi v16, oi v24, oi v32, oi v42, oa u, .val (.double got), .second, .val (.long (9223372036854775807 : Int64)), .second, oa xm, .val (.long yv), .second, ou, ou]) rfl ?_
  refine zAh (pc2 := 268) at_266 rfl rfl ?_
  refine zAh (pc2 := 270) at_268 rfl rfl ?_
  refine zAi (pc2 := 271) at_270 rfl (v := v270) hv270 ?_
  refine zx (pc' := 280) at_271 hb271 (by decide) (by decide) ?_
  refine zAh (pc2 := 282) at_280 rfl rfl ?_
  refine own_l2d (pc2 := 283) at_282 rfl (v := v282) hv282 ?_
  refine zCe (pc2 := 285) at_283 rfl (L' := #[oi xc, oi y0, oi y1, oi y2, oi y3, oi y4, oi v2, oi v9, oi v16, oi v24, oi v32, oi v42, oa u, .val (.double got), .second, .val (.long (9223372036854775807 : Int64)), .second, oa xm, .val (.long yv), .second, .val (.double v282), .second]) rfl ?_
  refine zCd (pc2 := 287) at_285 rfl rfl ?_
  refine zCd (pc2 := 289) at_287 rfl rfl ?_
  refine zAD (pc2 := 290) at_289 rfl (v := v289) hv289 ?_
  refine zy (pc2 := 293) at_290 rfl hb290 ?_
  refine zT (v := 1) (pc2 := 294) at_293 rfl rfl ?_
  refine zAN (pc' := 298) at_294 (by decide) (by decide) ?_
  exact zH
theorem own_q0_0 (xc : Int32) (y0 : Int32) (y1 : Int32) (y2 : Int32) (y3 : Int32) (y4 : Int32) (v2 : Int32) (v9 : Int32) (v16 : Int32) (v24 : Int32) (v32 : Int32) (v42 : Int32) (u : Addr) :
    zF zm code 109 #[oi xc, oi y0, oi y1, oi y2, oi y3, oi y4, oi v2, oi v9, oi v16, oi v24, oi v32, oi v42, oa u, ou, ou, ou, ou, ou, ou, ou, ou, ou] [(.double 9218868437227405312)] 117 #[oi xc, oi y0, oi y1, oi y2, oi y3, oi y4, oi v2, oi v9, oi v16, oi v24, oi v32, oi v42, oa u, .val (.double 9218868437227405312), .second, .val (.long (9223372036854775807 : Int64)), .second, ou, ou, ou, ou, ou] [(.int 4)] := by
  refine zCe (pc2 := 111) at_109 rfl (L' := #[oi xc, oi y0, oi y1, oi y2, oi y3, oi y4, oi v2, oi v9, oi v16, oi v24, oi v32, oi v42, oa u, .val (.double 9218868437227405312), .second, ou, ou, ou, ou, ou, ou, ou]) rfl ?_
  refine own_ldc2L (v := (9223372036854775807 : Int64)) (pc2 := 114) at_111 rfl (List.mem_of_getElem? (i := 0) rfl) ?_
  refine zCc (pc2 := 116) at_114 rfl (L' := #[oi xc, oi y0, oi y1, oi y2, oi y3, oi y4, oi v2, oi v9, oi v16, oi v24, oi v32, oi v42, oa u, .val (.double 9218868437227405312), .second, .val (.long (9223372036854775807 : Int64)), .second, ou, ou, ou, ou, ou]) rfl ?_
  refine zT (v := 4) (pc2 := 117) at_116 rfl rfl ?_
  exact zH
theorem own_q0_1 (xc : Int32) (y0 : Int32) (y1 : Int32) (y2 : Int32) (y3 : Int32) (y4 : Int32) (v2 : Int32) (v9 : Int32) (v16 : Int32) (v24 : Int32) (v32 : Int32) (v42 : Int32) (u : Addr) (xm : Addr) :
    zF zm code 119 #[oi xc, oi y0, oi y1, oi y2, oi y3, oi y4, oi v2, oi v9, oi v16, oi v24, oi v32, oi v42, oa u, .val (.double 9218868437227405312), .second, .val (.long (9223372036854775807 : Int64)), .second, ou, ou, ou, ou, ou] [(.ref xm)] 126 #[oi xc, oi y0, oi y1, oi y2, oi y3, oi y4, oi v2, oi v9, oi v16, oi v24, oi v32, oi v42, oa u, .val (.double 9218868437227405312), .second, .val (.long (9223372036854775807 : Int64)), .second, oa xm, ou, ou, ou, ou] [(.long (9223372036854775807 : Int64)), (.int 0), (.ref xm)] := by
  refine zDS (pc2 := 121) at_119 rfl rfl (L' := #[oi xc, oi y0, oi y1, oi y2, oi y3, oi y4, oi v2, oi v9, oi v16, oi v24, oi v32, oi v42, oa u, .val (.double 9218868437227405312), .second, .val (.long (9223372036854775807 : Int64)), .second, oa xm, ou, ou, ou, ou]) rfl ?_
  refine zp (pc2 := 123) at_121 rfl rfl rfl ?_
  refine zT (v := 0) (pc2 := 124) at_123 rfl rfl ?_
  refine zAh (pc2 := 126) at_124 rfl rfl ?_
  exact zH
theorem own_q0_2 (xc : Int32) (y0 : Int32) (y1 : Int32) (y2 : Int32) (y3 : Int32) (y4 : Int32) (v2 : Int32) (v9 : Int32) (v16 : Int32) (v24 : Int32) (v32 : Int32) (v42 : Int32) (u : Addr) (xm : Addr) :
    zF zm code 127 #[oi xc, oi y0, oi y1, oi y2, oi y3, oi y4, oi v2, oi v9, oi v16, oi v24, oi v32, oi v42, oa u, .val (.double 9218868437227405312), .second, .val (.long (9223372036854775807 : Int64)), .second, oa xm, ou, ou, ou, ou] [] 132 #[oi xc, oi y0, oi y1, oi y2, oi y3, oi y4, oi v2, oi v9, oi v16, oi v24, oi v32, oi v42, oa u, .val (.double 9218868437227405312), .second, .val (.long (9223372036854775807 : Int64)), .second, oa xm, ou, ou, ou, ou] [(.long (9223372036854775807 : Int64)), (.int 1), (.ref xm)] := by
  refine zp (pc2 := 129) at_127 rfl rfl rfl ?_
  refine zT (v := 1) (pc2 := 130) at_129 rfl rfl ?_
  refine zAh (pc2 := 132) at_130 rfl rfl ?_
  exact zH
theorem own_q0_3 (xc : Int32) (y0 : Int32) (y1 : Int32) (y2 : Int32) (y3 : Int32) (y4 : Int32) (v2 : Int32) (v9 : Int32) (v16 : Int32) (v24 : Int32) (v32 : Int32) (v42 : Int32) (u : Addr) (xm : Addr) :
    zF zm code 133 #[oi xc, oi y0, oi y1, oi y2, oi y3, oi y4, oi v2, oi v9, oi v16, oi v24, oi v32, oi v42, oa u, .val (.double 9218868437227405312), .second, .val (.long (9223372036854775807 : Int64)), .second, oa xm, ou, ou, ou, ou] [] 138 #[oi xc, oi y0, oi y1, oi y2, oi y3, oi y4, oi v2, oi v9, oi v16, oi v24, oi v32, oi v42, oa u, .val (.double 9218868437227405312), .second, .val (.long (9223372036854775807 : Int64)), .second, oa xm, ou, ou, ou, ou] [(.long (9223372036854775807 : Int64)), (.int 2), (.ref xm)] := by
  refine zp (pc2 := 135) at_133 rfl rfl rfl ?_
  refine zT (v := 2) (pc2 := 136) at_135 rfl rfl ?_
  refine zAh (pc2 := 138) at_136 rfl rfl ?_
  exact zH
theorem own_q0_4 (xc : Int32) (y0 : Int32) (y1 : Int32) (y2 : Int32) (y3 : Int32) (y4 : Int32) (v2 : Int32) (v9 : Int32) (v16 : Int32) (v24 : Int32) (v32 : Int32) (v42 : Int32) (u : Addr) (xm : Addr) :
    zF zm code 139 #[oi xc, oi y0, oi y1, oi y2, oi y3, oi y4, oi v2, oi v9, oi v16, oi v24, oi v32, oi v42, oa u, .val (.double 9218868437227405312), .second, .val (.long (9223372036854775807 : Int64)), .second, oa xm, ou, ou, ou, ou] [] 144 #[oi xc, oi y0, oi y1, oi y2, oi y3, oi y4, oi v2, oi v9, oi v16, oi v24, oi v32, oi v42, oa u, .val (.double 9218868437227405312), .second, .val (.long (9223372036854775807 : Int64)), .second, oa xm, ou, ou, ou, ou] [(.long (9223372036854775807 : Int64)), (.int 3), (.ref xm)] := by
  refine zp (pc2 := 141) at_139 rfl rfl rfl ?_
  refine zT (v := 3) (pc2 := 142) at_141 rfl rfl ?_
  refine zAh (pc2 := 144) at_142 rfl rfl ?_
  exact zH
theorem own_q0_5 (xc : Int32) (y0 : Int32) (y1 : Int32) (y2 : Int32) (y3 : Int32) (y4 : Int32) (v2 : Int32) (v9 : Int32) (v16 : Int32) (v24 : Int32) (v32 : Int32) (v42 : Int32) (u : Addr) (xm : Addr) :
    zF zm code 145 #[oi xc, oi y0, oi y1, oi y2, oi y3, oi y4, oi v2, oi v9, oi v16, oi v24, oi v32, oi v42, oa u, .val (.double 9218868437227405312), .second, .val (.long (9223372036854775807 : Int64)), .second, oa xm, ou, ou, ou, ou] [] 153 #[oi xc, oi y0, oi y1, oi y2, oi y3, oi y4, oi v2, oi v9, oi v16, oi v24, oi v32, oi v42, oa u, .val (.double 9218868437227405312), .second, .val (.long (9223372036854775807 : Int64)), .second, oa xm, ou, ou, ou, ou] [(.int v2), (.ref xm), (.int v2), (.ref xm)] := by
  refine zp (pc2 := 147) at_145 rfl rfl rfl ?_
  refine zn (pc2 := 149) at_147 rfl rfl ?_
  refine zp (pc2 := 151) at_149 rfl rfl rfl ?_
  refine zn (pc2 := 153) at_151 rfl rfl ?_
  exact zH
theorem own_q0_6 (xc : Int32) (y0 : Int32) (y1 : Int32) (y2 : Int32) (y3 : Int32) (y4 : Int32) (v2 : Int32) (v9 : Int32) (v16 : Int32) (v24 : Int32) (v32 : Int32) (v42 : Int32) (u : Addr) (xm : Addr) (w50 : Int64) (v155 : Int64) (hv155 : y0.toInt64 = v155) :
    zF zm code 154 #[oi xc, oi y0, oi y1, oi y2, oi y3, oi y4, oi v2, oi v9, oi v16, oi v24, oi v32, oi v42, oa u, .val (.double 9218868437227405312), .second, .val (.long (9223372036854775807 : Int64)), .second, oa xm, ou, ou, ou, ou] [(.long w50), (.int v2), (.ref xm)] 156 #[oi xc, oi y0, oi y1, oi y2, oi y3, oi y4, oi v2, oi v9, oi v16, oi v24, oi v32, oi v42, oa u, .val (.double 9218868437227405312), .second, .val (.long (9223372036854775807 : Int64)), .second, oa xm, ou, ou, ou, ou] [(.long v155), (.long w50), (.int v2), (.ref xm)] := by
  refine zM (pc2 := 155) at_154 rfl rfl ?_
  refine zAv (pc2 := 156) at_155 rfl (v := v155) hv155 ?_
  exact zH
theorem own_q0_7 (xc : Int32) (y0 : Int32) (y1 : Int32) (y2 : Int32) (y3 : Int32) (y4 : Int32) (v2 : Int32) (v9 : Int32) (v16 : Int32) (v24 : Int32) (v32 : Int32) (v42 : Int32) (u : Addr) (xm : Addr) :
    zF zm code 160 #[oi xc, oi y0, oi y1, oi y2, oi y3, oi y4, oi v2, oi v9, oi v16, oi v24, oi v32, oi v42, oa u, .val (.double 9218868437227405312), .second, .val (.long (9223372036854775807 : Int64)), .second, oa xm, ou, ou, ou, ou] [] 168 #[oi xc, oi y0, oi y1, oi y2, oi y3, oi y4, oi v2, oi v9, oi v16, oi v24, oi v32, oi v42, oa u, .val (.double 9218868437227405312), .second, .val (.long (9223372036854775807 : Int64)), .second, oa xm, ou, ou, ou, ou] [(.int v9), (.ref xm), (.int v9), (.ref xm)] := by
  refine zp (pc2 := 162) at_160 rfl rfl rfl ?_
  refine zn (pc2 := 164) at_162 rfl rfl ?_
  refine zp (pc2 := 166) at_164 rfl rfl rfl ?_
  refine zn (pc2 := 168) at_166 rfl rfl ?_
  exact zH
theorem own_q0_8 (xc : Int32) (y0 : Int32) (y1 : Int32) (y2 : Int32) (y3 : Int32) (y4 : Int32) (v2 : Int32) (v9 : Int32) (v16 : Int32) (v24 : Int32) (v32 : Int32) (v42 : Int32) (u : Addr) (xm : Addr) (w51 : Int64) (v170 : Int64) (hv170 : y1.toInt64 = v170) :
    zF zm code 169 #[oi xc, oi y0, oi y1, oi y2, oi y3, oi y4, oi v2, oi v9, oi v16, oi v24, oi v32, oi v42, oa u, .val (.double 9218868437227405312), .second, .val (.long (9223372036854775807 : Int64)), .second, oa xm, ou, ou, ou, ou] [(.long w51), (.int v9), (.ref xm)] 171 #[oi xc, oi y0, oi y1, oi y2, oi y3, oi y4, oi v2, oi v9, oi v16, oi v24, oi v32, oi v42, oa u, .val (.double 9218868437227405312), .second, .val (.long (9223372036854775807 : Int64)), .second, oa xm, ou, ou, ou, ou] [(.long v170), (.long w51), (.int v9), (.ref xm)] := by
  refine zM (pc2 := 170) at_169 rfl rfl ?_
  refine zAv (pc2 := 171) at_170 rfl (v := v170) hv170 ?_
  exact zH
theorem own_q0_9 (xc : Int32) (y0 : Int32) (y1 : Int32) (y2 : Int32) (y3 : Int32) (y4 : Int32) (v2 : Int32) (v9 : Int32) (v16 : Int32) (v24 : Int32) (v32 : Int32) (v42 : Int32) (u : Addr) (xm : Addr) :
    zF zm code 175 #[oi xc, oi y0, oi y1, oi y2, oi y3, oi y4, oi v2, oi v9, oi v16, oi v24, oi v32, oi v42, oa u, .val (.double 9218868437227405312), .second, .val (.long (9223372036854775807 : Int64)), .second, oa xm, ou, ou, ou, ou] [] 183 #[oi xc, oi y0, oi y1, oi y2, oi y3, oi y4, oi v2, oi v9, oi v16, oi v24, oi v32, oi v42, oa u, .val (.double 9218868437227405312), .second, .val (.long (9223372036854775807 : Int64)), .second, oa xm, ou, ou, ou, ou] [(.int v16), (.ref xm), (.int v16), (.ref xm)] := by
  refine zp (pc2 := 177) at_175 rfl rfl rfl ?_
  refine zn (pc2 := 179) at_177 rfl rfl ?_
  refine zp (pc2 := 181) at_179 rfl rfl rfl ?_
  refine zn (pc2 := 183) at_181 rfl rfl ?_
  exact zH
theorem own_q0_10 (xc : Int32) (y0 : Int32) (y1 : Int32) (y2 : Int32) (y3 : Int32) (y4 : Int32) (v2 : Int32) (v9 : Int32) (v16 : Int32) (v24 : Int32) (v32 : Int32) (v42 : Int32) (u : Addr) (xm : Addr) (w52 : Int64) (v185 : Int64) (hv185 : y2.toInt64 = v185) :
    zF zm code 184 #[oi xc, oi y0, oi y1, oi y2, oi y3, oi y4, oi v2, oi v9, oi v16, oi v24, oi v32, oi v42, oa u, .val (.double 9218868437227405312), .second, .val (.long (9223372036854775807 : Int64)), .second, oa xm, ou, ou, ou, ou] [(.long w52), (.int v16), (.ref xm)] 186 #[oi xc, oi y0, oi y1, oi y2, oi y3, oi y4, oi v2, oi v9, oi v16, oi v24, oi v32, oi v42, oa u, .val (.double 9218868437227405312), .second, .val (.long (9223372036854775807 : Int64)), .second, oa xm, ou, ou, ou, ou] [(.long v185), (.long w52), (.int v16), (.ref xm)] := by
  refine zM (pc2 := 185) at_184 rfl rfl ?_
  refine zAv (pc2 := 186) at_185 rfl (v := v185) hv185 ?_
  exact zH
theorem own_q0_11 (xc : Int32) (y0 : Int32) (y1 : Int32) (y2 : Int32) (y3 : Int32) (y4 : Int32) (v2 : Int32) (v9 : Int32) (v16 : Int32) (v24 : Int32) (v32 : Int32) (v42 : Int32) (u : Addr) (xm : Addr) :
    zF zm code 190 #[oi xc, oi y0, oi y1, oi y2, oi y3, oi y4, oi v2, oi v9, oi v16, oi v24, oi v32, oi v42, oa u, .val (.double 9218868437227405312), .second, .val (.long (9223372036854775807 : Int64)), .second, oa xm, ou, ou, ou, ou] [] 198 #[oi xc, oi y0, oi y1, oi y2, oi y3, oi y4, oi v2, oi v9, oi v16, oi v24, oi v32, oi v42, oa u, .val (.double 9218868437227405312), .second, .val (.long (9223372036854775807 : Int64)), .second, oa xm, ou, ou, ou, ou] [(.int v24), (.ref xm), (.int v24), (.ref xm)] := by
  refine zp (pc2 := 192) at_190 rfl rfl rfl ?_
  refine zn (pc2 := 194) at_192 rfl rfl ?_
  refine zp (pc2 := 196) at_194 rfl rfl rfl ?_
  refine zn (pc2 := 198) at_196 rfl rfl ?_
  exact zH
theorem own_q0_12 (xc : Int32) (y0 : Int32) (y1 : Int32) (y2 : Int32) (y3 : Int32) (y4 : Int32) (v2 : Int32) (v9 : Int32) (v16 : Int32) (v24 : Int32) (v32 : Int32) (v42 : Int32) (u : Addr) (xm : Addr) (w53 : Int64) (v201 : Int64) (hv201 : y3.toInt64 = v201) :
    zF zm code 199 #[oi xc, oi y0, oi y1, oi y2, oi y3, oi y4, oi v2, oi v9, oi v16, oi v24, oi v32, oi v42, oa u, .val (.double 9218868437227405312), .second, .val (.long (9223372036854775807 : Int64)), .second, oa xm, ou, ou, ou, ou] [(.long w53), (.int v24), (.ref xm)] 202 #[oi xc, oi y0, oi y1, oi y2, oi y3, oi y4, oi v2, oi v9, oi v16, oi v24, oi v32, oi v42, oa u, .val (.double 9218868437227405312), .second, .val (.long (9223372036854775807 : Int64)), .second, oa xm, ou, ou, ou, ou] [(.long v201), (.long w53), (.int v24), (.ref xm)] := by
  refine zn (pc2 := 201) at_199 rfl rfl ?_
  refine zAv (pc2 := 202) at_201 rfl (v := v201) hv201 ?_
  exact zH
theorem own_q0_13 (xc : Int32) (y0 : Int32) (y1 : Int32) (y2 : Int32) (y3 : Int32) (y4 : Int32) (v2 : Int32) (v9 : Int32) (v16 : Int32) (v24 : Int32) (v32 : Int32) (v42 : Int32) (u : Addr) (xm : Addr) :
    zF zm code 206 #[oi xc, oi y0, oi y1, oi y2, oi y3, oi y4, oi v2, oi v9, oi v16, oi v24, oi v32, oi v42, oa u, .val (.double 9218868437227405312), .second, .val (.long (9223372036854775807 : Int64)), .second, oa xm, ou, ou, ou, ou] [] 214 #[oi xc, oi y0, oi y1, oi y2, oi y3, oi y4, oi v2, oi v9, oi v16, oi v24, oi v32, oi v42, oa u, .val (.double 9218868437227405312), .second, .val (.long (9223372036854775807 : Int64)), .second, oa xm, ou, ou, ou, ou] [(.int v32), (.ref xm), (.int v32), (.ref xm)] := by
  refine zp (pc2 := 208) at_206 rfl rfl rfl ?_
  refine zn (pc2 := 210) at_208 rfl rfl ?_
  refine zp (pc2 := 212) at_210 rfl rfl rfl ?_
  refine zn (pc2 := 214) at_212 rfl rfl ?_
  exact zH
theorem own_q0_14 (xc : Int32) (y0 : Int32) (y1 : Int32) (y2 : Int32) (y3 : Int32) (y4 : Int32) (v2 : Int32) (v9 : Int32) (v16 : Int32) (v24 : Int32) (v32 : Int32) (v42 : Int32) (u : Addr) (xm : Addr) (w54 : Int64) (v217 : Int64) (hv217 : y4.toInt64 = v217) :
    zF zm code 215 #[oi xc, oi y0, oi y1, oi y2, oi y3, oi y4, oi v2, oi v9, oi v16, oi v24, oi v32, oi v42, oa u, .val (.double 9218868437227405312), .second, .val (.long (9223372036854775807 : Int64)), .second, oa xm, ou, ou, ou, ou] [(.long w54), (.int v32), (.ref xm)] 218 #[oi xc, oi y0, oi y1, oi y2, oi y3, oi y4, oi v2, oi v9, oi v16, oi v24, oi v32, oi v42, oa u, .val (.double 9218868437227405312), .second, .val (.long (9223372036854775807 : Int64)), .second, oa xm, ou, ou, ou, ou] [(.long v217), (.long w54), (.int v32), (.ref xm)] := by
  refine zn (pc2 := 217) at_215 rfl rfl ?_
  refine zAv (pc2 := 218) at_217 rfl (v := v217) hv217 ?_
  exact zH
theorem own_q0_15 (xc : Int32) (y0 : Int32) (y1 : Int32) (y2 : Int32) (y3 : Int32) (y4 : Int32) (v2 : Int32) (v9 : Int32) (v16 : Int32) (v24 : Int32) (v32 : Int32) (v42 : Int32) (u : Addr) (xm : Addr) :
    zF zm code 222 #[oi xc, oi y0, oi y1, oi y2, oi y3, oi y4, oi v2, oi v9, oi v16, oi v24, oi v32, oi v42, oa u, .val (.double 9218868437227405312), .second, .val (.long (9223372036854775807 : Int64)), .second, oa xm, ou, ou, ou, ou] [] 226 #[oi xc, oi y0, oi y1, oi y2, oi y3, oi y4, oi v2, oi v9, oi v16, oi v24, oi v32, oi v42, oa u, .val (.double 9218868437227405312), .second, .val (.long (9223372036854775807 : Int64)), .second, oa xm, ou, ou, ou, ou] [(.int 1), (.int 0), (.ref xm)] := by
  refine zp (pc2 := 224) at_222 rfl rfl rfl ?_
  refine zT (v := 0) (pc2 := 225) at_224 rfl rfl ?_
  refine zT (v := 1) (pc2 := 226) at_225 rfl rfl ?_
  exact zH
theorem own_q0_16 (xc : Int32) (y0 : Int32) (y1 : Int32) (y2 : Int32) (y3 : Int32) (y4 : Int32) (v2 : Int32) (v9 : Int32) (v16 : Int32) (v24 : Int32) (v32 : Int32) (v42 : Int32) (u : Addr) (xm : Addr) :
    zF zm code 229 #[oi xc, oi y0, oi y1, oi y2, oi y3, oi y4, oi v2, oi v9, oi v16, oi v24, oi v32, oi v42, oa u, .val (.double 9218868437227405312), .second, .val (.long (9223372036854775807 : Int64)), .second, oa xm, ou, ou, ou, ou] [] 233 #[oi xc, oi y0, oi y1, oi y2, oi y3, oi y4, oi v2, oi v9, oi v16, oi v24, oi v32, oi v42, oa u, .val (.double 9218868437227405312), .second, .val (.long (9223372036854775807 : Int64)), .second, oa xm, ou, ou, ou, ou] [(.int 3), (.int 2), (.ref xm)] := by
  refine zp (pc2 := 231) at_229 rfl rfl rfl ?_
  refine zT (v := 2) (pc2 := 232) at_231 rfl rfl ?_
  refine zT (v := 3) (pc2 := 233) at_232 rfl rfl ?_
  exact zH
theorem own_q0_17 (xc : Int32) (y0 : Int32) (y1 : Int32) (y2 : Int32) (y3 : Int32) (y4 : Int32) (v2 : Int32) (v9 : Int32) (v16 : Int32) (v24 : Int32) (v32 : Int32) (v42 : Int32) (u : Addr) (xm : Addr) :
    zF zm code 236 #[oi xc, oi y0, oi y1, oi y2, oi y3, oi y4, oi v2, oi v9, oi v16, oi v24, oi v32, oi v42, oa u, .val (.double 9218868437227405312), .second, .val (.long (9223372036854775807 : Int64)), .second, oa xm, ou, ou, ou, ou] [] 240 #[oi xc, oi y0, oi y1, oi y2, oi y3, oi y4, oi v2, oi v9, oi v16, oi v24, oi v32, oi v42, oa u, .val (.double 9218868437227405312), .second, .val (.long (9223372036854775807 : Int64)), .second, oa xm, ou, ou, ou, ou] [(.int 2), (.int 0), (.ref xm)] := by
  refine zp (pc2 := 238) at_236 rfl rfl rfl ?_
  refine zT (v := 0) (pc2 := 239) at_238 rfl rfl ?_
  refine zT (v := 2) (pc2 := 240) at_239 rfl rfl ?_
  exact zH
theorem own_q0_18 (xc : Int32) (y0 : Int32) (y1 : Int32) (y2 : Int32) (y3 : Int32) (y4 : Int32) (v2 : Int32) (v9 : Int32) (v16 : Int32) (v24 : Int32) (v32 : Int32) (v42 : Int32) (u : Addr) (xm : Addr) :
    zF zm code 243 #[oi xc, oi y0, oi y1, oi y2, oi y3, oi y4, oi v2, oi v9, oi v16, oi v24, oi v32, oi v42, oa u, .val (.double 9218868437227405312), .second, .val (.long (9223372036854775807 : Int64)), .second, oa xm, ou, ou, ou, ou] [] 247 #[oi xc, oi y0, oi y1, oi y2, oi y3, oi y4, oi v2, oi v9, oi v16, oi v24, oi v32, oi v42, oa u, .val (.double 9218868437227405312), .second, .val (.long (9223372036854775807 : Int64)), .second, oa xm, ou, ou, ou, ou] [(.int 3), (.int 1), (.ref xm)] := by
  refine zp (pc2 := 245) at_243 rfl rfl rfl ?_
  refine zT (v := 1) (pc2 := 246) at_245 rfl rfl ?_
  refine zT (v := 3) (pc2 := 247) at_246 rfl rfl ?_
  exact zH
theorem own_q0_19 (xc : Int32) (y0 : Int32) (y1 : Int32) (y2 : Int32) (y3 : Int32) (y4 : Int32) (v2 : Int32) (v9 : Int32) (v16 : Int32) (v24 : Int32) (v32 : Int32) (v42 : Int32) (u : Addr) (xm : Addr) :
    zF zm code 250 #[oi xc, oi y0, oi y1, oi y2, oi y3, oi y4, oi v2, oi v9, oi v16, oi v24, oi v32, oi v42, oa u, .val (.double 9218868437227405312), .second, .val (.long (9223372036854775807 : Int64)), .second, oa xm, ou, ou, ou, ou] [] 254 #[oi xc, oi y0, oi y1, oi y2, oi y3, oi y4, oi v2, oi v9, oi v16, oi v24, oi v32, oi v42, oa u, .val (.double 9218868437227405312), .second, .val (.long (9223372036854775807 : Int64)), .second, oa xm, ou, ou, ou, ou] [(.int 2), (.int 1), (.ref xm)] := by
  refine zp (pc2 := 252) at_250 rfl rfl rfl ?_
  refine zT (v := 1) (pc2 := 253) at_252 rfl rfl ?_
  refine zT (v := 2) (pc2 := 254) at_253 rfl rfl ?_
  exact zH
theorem own_q0_20 (xc : Int32) (y0 : Int32) (y1 : Int32) (y2 : Int32) (y3 : Int32) (y4 : Int32) (v2 : Int32) (v9 : Int32) (v16 : Int32) (v24 : Int32) (v32 : Int32) (v42 : Int32) (u : Addr) (xm : Addr) (v262 : Int32) (hv262 : (v42 - (1 : Int32)) = v262) :
    zF zm code 257 #[oi xc, oi y0, oi y1, oi y2, oi y3, oi y4, oi v2, oi v9, oi v16, oi v24, oi v32, oi v42, oa u, .val (.double 9218868437227405312), .second, .val (.long (9223372036854775807 : Int64)), .second, oa xm, ou, ou, ou, ou] [] 263 #[oi xc, oi y0, oi y1, oi y2, oi y3, oi y4, oi v2, oi v9, oi v16, oi v24, oi v32, oi v42, oa u, .val (.double 9218868437227405312), .second, .val (.long (9223372036854775807 : Int64)), .second, oa xm, ou, ou, ou, ou] [(.int v262), (.ref xm)] := by
  refine zp (pc2 := 259) at_257 rfl rfl rfl ?_
  refine zn (pc2 := 261) at_259 rfl rfl ?_
  refine zT (v := 1) (pc2 := 262) at_261 rfl rfl ?_
  refine zAU (pc2 := 263) at_262 rfl (v := v262) hv262 ?_
  exact zH
theorem own_q0_21 (xc : Int32) (y0 : Int32) (y1 : Int32) (y2 : Int32) (y3 : Int32) (y4 : Int32) (v2 : Int32) (v9 : Int32) (v16 : Int32) (v24 : Int32) (v32 : Int32) (v42 : Int32) (u : Addr) (xm : Addr) (yv : Int64) (v270 : Int32) (hv270 : (if yv > (9223372036854775807 : Int64) then (1 : Int32) else if yv = (9223372036854775807 : Int64) then 0 else -1) = v270) (hb271 : ifCond.holds .ne v270 = false) (v289 : Int32) (hv289 : (cmpValue (FP.dcmp (9218868437227405312 : UInt64) (9218868437227405312 : UInt64)) .l) = v289) (hb290 : ifCond.holds .ne v289 = false) :
    zF zm code 264 #[oi xc, oi y0, oi y1, oi y2, oi y3, oi y4, oi v2, oi v9, oi v16, oi v24, oi v32, oi v42, oa u, .val (.double 9218868437227405312), .second, .val (.long (9223372036854775807 : Int64)), .second, oa xm, ou, ou, ou, ou] [(.long yv)] 298 #[oi xc, oi y0, oi y1, oi y2, oi y3, oi y4, oi v2, oi v9, oi v16, oi v24, oi v32, oi v42, oa u, .val (.double 9218868437227405312), .second, .val (.long (9223372036854775807 : Int64)), .second, oa xm, .val (.long yv), .second, .val (.double 9218868437227405312), .second] [(.int 1)] := by
  refine zCc (pc2 := 266) at_264 rfl (L' := #[oi xc, oi y0, oi y1, oi y2, oi y3, oi y4, oi v2, oi v9, oi v16, oi v24, oi v32, oi v42, oa u, .val (.double 9218868437227405312), .second, .val (.long (9223372036854775807 : Int64)), .second, oa xm, .val (.long yv), .second, ou, ou]) rfl ?_
  refine zAh (pc2 := 268) at_266 rfl rfl ?_
  refine zAh (pc2 := 270) at_268 rfl rfl ?_
  refine zAi (pc2 := 271) at_270 rfl (v := v270) hv270 ?_
  refine zy (pc2 := 274) at_271 rfl hb271 ?_
  refine zDT (v := (9218868437227405312 : UInt64)) (pc2 := 277) at_274 rfl (List.mem_of_getElem? (i := 1) rfl) ?_
  refine zAN (pc' := 283) at_277 (by decide) (by decide) ?_
  refine zCe (pc2 := 285) at_283 rfl (L' := #[oi xc, oi y0, oi y1, oi y2, oi y3, oi y4, oi v2, oi v9, oi v16, oi v24, oi v32, oi v42, oa u, .val (.double 9218868437227405312), .second, .val (.long (9223372036854775807 : Int64)), .second, oa xm, .val (.long yv), .second, .val (.double 9218868437227405312), .second]) rfl ?_
  refine zCd (pc2 := 287) at_285 rfl rfl ?_
  refine zCd (pc2 := 289) at_287 rfl rfl ?_
  refine zAD (pc2 := 290) at_289 rfl (v := v289) hv289 ?_
  refine zy (pc2 := 293) at_290 rfl hb290 ?_
  refine zT (v := 1) (pc2 := 294) at_293 rfl rfl ?_
  refine zAN (pc' := 298) at_294 (by decide) (by decide) ?_
  exact zH
set_option maxRecDepth 65536 in
set_option maxHeartbeats 40000000 in
theorem own_law (l : Launch) (Z : State) (a0 : Array Value) (hb0 : zU) (hw : ∀ d ∈ tables_1, d.before a0 Z = true) (xc : Int32) (y0 : Int32) (y1 : Int32) (y2 : Int32) (y3 : Int32) (y4 : Int32) :
    zX l Z a0 hb0 x code maxLocals ret tables_1 room_1 #[(.int xc), (.int y0), (.int y1), (.int y2), (.int y3), (.int y4)] [] (fun v _ => v = some (.int 1)) := by
  refine zh (L0 := #[oi xc, oi y0, oi y1, oi y2, oi y3, oi y4, ou, ou, ou, ou, ou, ou, ou, ou, ou, ou, ou, ou, ou, ou, ou, ou]) (plainFor_of_name own_pn0) (fun m => own_ef0 m xc y0 y1 y2 y3 y4) ?_
  intro p e s m below meth c T0 hx hZ hown hby hml hnm H0
  have hown : s.vm.findClass "com/example/tidewise/tidewise/search/UpperBoundsKthPinLaw" = some m.cls := hown
  have hml : c.maxLocals = 22 := hml
  obtain ⟨v2, hv2⟩ : ∃ z : Int32, (xc &&& (3 : Int32)) = z := ⟨_, rfl⟩
  obtain ⟨v7, hv7⟩ : ∃ z : Int32, ((xc.toUInt32 >>> ((2 : Int32) &&& 31).toUInt32).toInt32) = z := ⟨_, rfl⟩
  obtain ⟨v9, hv9⟩ : ∃ z : Int32, (v7 &&& (3 : Int32)) = z := ⟨_, rfl⟩
  obtain ⟨v14, hv14⟩ : ∃ z : Int32, ((xc.toUInt32 >>> ((4 : Int32) &&& 31).toUInt32).toInt32) = z := ⟨_, rfl⟩
  obtain ⟨v16, hv16⟩ : ∃ z : Int32, (v14 &&& (3 : Int32)) = z := ⟨_, rfl⟩
  obtain ⟨v22, hv22⟩ : ∃ z : Int32, ((xc.toUInt32 >>> ((6 : Int32) &&& 31).toUInt32).toInt32) = z := ⟨_, rfl⟩
  obtain ⟨v24, hv24⟩ : ∃ z : Int32, (v22 &&& (3 : Int32)) = z := ⟨_, rfl⟩
  obtain ⟨v30, hv30⟩ : ∃ z : Int32, ((xc.toUInt32 >>> ((8 : Int32) &&& 31).toUInt32).toInt32) = z := ⟨_, rfl⟩
  obtain ⟨v32, hv32⟩ : ∃ z : Int32, (v30 &&& (3 : Int32)) = z := ⟨_, rfl⟩
  obtain ⟨v39, hv39⟩ : ∃ z : Int32, ((xc.toUInt32 >>> ((10 : Int32) &&& 31).toUInt32).toInt32) = z := ⟨_, rfl⟩
  obtain ⟨v41, hv41⟩ : ∃ z : Int32, (v39 &&& (3 : Int32)) = z := ⟨_, rfl⟩
  obtain ⟨v42, hv42⟩ : ∃ z : Int32, ((1 : Int32) + v41) = z := ⟨_, rfl⟩
  obtain ⟨Tw1, u, Hw1, stw1⟩ := own_newO H0 hx hZ hown (zB hw 0 rfl) (zB hw 1 rfl) (zB hw 2 rfl) [("com/example/tidewise/tidewise/search/UpperBounds", "bound", "[D", .null), ("com/example/tidewise/tidewise/search/UpperBounds", "least", "[I", .null), ("com/example/tidewise/tidewise/search/UpperBounds", "leastAt", "[I", .null), ("com/example/tidewise/tidewise/search/UpperBounds", "k", "I", .int 0), ("com/example/tidewise/tidewise/search/UpperBounds", "offered", "Lcom/example/tidewise/tidewise/search/Numbering;", .null), ("com/example/tidewise/tidewise/search/UpperBounds", "leastCount", "I", .int 0)] (by
      intro f hf
      simp only [List.mem_cons, List.not_mem_nil, or_false] at hf
      rcases hf with rfl | rfl | rfl | rfl | rfl | rfl
      · exact ⟨Or.inl (zB hw 11 rfl), (.array .double), by decide, rfl⟩
      · exact ⟨Or.inl (zB hw 14 rfl), (.array .int), by decide, rfl⟩
      · exact ⟨Or.inl (zB hw 16 rfl), (.array .int), by decide, rfl⟩
      · exact ⟨Or.inr (zB hw 18 rfl), .int, by decide, rfl⟩
      · exact ⟨Or.inr (zB hw 33 rfl), (.object "com/example/tidewise/tidewise/search/Numbering"), by decide, rfl⟩
      · exact ⟨Or.inl (zB hw 65 rfl), .int, by decide, rfl⟩) (by decide) (g := (mkF m 45 #[oi xc, oi y0, oi y1, oi y2, oi y3, oi y4, oi v2, oi v9, oi v16, oi v24, oi v32, oi v42, ou, ou, ou, ou, ou, ou, ou, ou, ou, ou] [])) rfl (hb hby at_45) (by decide) (by decide)
  change zR _ _ _ _ _ _ _ _ _ _ _ _ _ _ [(u, oc1 .null .null .null (.int 0) .null (.int 0))] _ _ at Hw1
  have h4_0 := zCB xc v2 hv2
  have h4_1 := zCB v7 v9 hv9
  have h4_2 := zCB v14 v16 hv16
  have h4_3 := zCB v22 v24 hv24
  have h4_4 := zCB v30 v32 hv32
  have hk : 1 ≤ v42.toInt ∧ v42.toInt ≤ 4 := by
    have z := zAM.mp (zCB v39 v41 hv41)
    have z4 : (4 : Int32).toInt = 4 := rfl
    have a := c_iadd 1 v41
    have := rng32 v42
    rw [hv42, show (1 : Int32).toInt = 1 from rfl] at a
    omega
  obtain ⟨Tw2, vw2_, csw2_, qw2, Hw2, stw2⟩ := own_callI Hw1 hx hZ hown rfl (zB hw 3 rfl) (zB hw 4 rfl) (zB hw 2 rfl) (zB hw 5 rfl) (by decide) (x := u) (argsL := [(.int v42), (.int 4)]) (rest := [(.ref u)]) (W := 1) (own_uin l Z a0 hb0 hw u v42) (by decide) (by decide) (by decide) (by decide) (g := (mkF m 52 #[oi xc, oi y0, oi y1, oi y2, oi y3, oi y4, oi v2, oi v9, oi v16, oi v24, oi v32, oi v42, ou, ou, ou, ou, ou, ou, ou, ou, ou, ou] [(.int 4), (.int v42), (.ref u), (.ref u)])) rfl (by rw [hml]; rfl) (lenOf zq rfl) rfl (by show 2 * 0 + _ ≤ _; exact Nat.le_of_eq rfl) (hb hby at_52)
  obtain ⟨xb, xl, xp, nu, xt, xs, rfl, rfl⟩ := qw2
  obtain ⟨v62, hv62⟩ : ∃ z : UInt64, (FP.i2d y0) = z := ⟨_, rfl⟩
  have is0 : zN v62 ((y0.toInt : Int) : Rat) := by rw [← hv62]; exact zCF _
  have by0 := rng32 y0
  obtain ⟨Tw3, vw3_, csw3_, qw3, Hw3, stw3⟩ := zAR Hw2 hx hZ hown (zB hw 34 rfl) (zB hw 35 rfl) (zB hw 37 rfl) (zB hw 36 rfl) (zB hw 2 rfl) (zB hw 38 rfl) (by decide) (x := u) 0 rfl (argsL := [(.int v2), (.double v62)]) (rest := []) (W := 0) (zCV l Z a0 hb0 hw u v2 v62 xb xl xp nu xt xs (fun _ => (0 : UInt64)) (fun _ => (0 : Int32)) (fun _ => (0 : Int32)) (fun _ => (0 : Int32)) v42 (0 : Int32) (0 : Int32) (fun _ => (0 : Int32)) (fun _ : Int32 => (0 : Int)) (fun _ : Int32 => (9223372036854775807 : Int)) _ own_Nu0 (own_He0 hk) h4_0 is0 (by omega)) (by decide) (by decide) (by decide) (by decide) (g := (mkF m 63 #[oi xc, oi y0, oi y1, oi y2, oi y3, oi y4, oi v2, oi v9, oi v16, oi v24, oi v32, oi v42, oa u, ou, ou, ou, ou, ou, ou, ou, ou, ou] [(.double v62), (.int v2), (.ref u)])) rfl (by rw [hml]; rfl) (lenOf zCN rfl) rfl (by show 2 * 0 + _ ≤ _; exact Nat.le_of_eq rfl) (hb hby at_63)
  obtain ⟨fb_0, fl_0, fa_0, ft_0, fs_0, cc_0, nn_0, X_0, N_0, He_0, rfl, rfl⟩ := qw3
  obtain ⟨v71, hv71⟩ : ∃ z : UInt64, (FP.i2d y1) = z := ⟨_, rfl⟩
  have is1 : zN v71 ((y1.toInt : Int) : Rat) := by rw [← hv71]; exact zCF _
  have by1 := rng32 y1
  obtain ⟨Tw4, vw4_, csw4_, qw4, Hw4, stw4⟩ := zAR Hw3 hx hZ hown (zB hw 34 rfl) (zB hw 35 rfl) (zB hw 37 rfl) (zB hw 36 rfl) (zB hw 2 rfl) (zB hw 38 rfl) (by decide) (x := u) 0 rfl (argsL := [(.int v9), (.double v71)]) (rest := []) (W := 0) (zCV l Z a0 hb0 hw u v9 v71 xb xl xp nu xt xs fb_0 fl_0 fa_0 ft_0 v42 cc_0 nn_0 fs_0 X_0 (zg (fun _ : Int32 => (9223372036854775807 : Int)) v2 y0.toInt) _ N_0 He_0 h4_1 is1 (by omega)) (by decide) (by decide) (by decide) (by decide) (g := (mkF m 72 #[oi xc, oi y0, oi y1, oi y2, oi y3, oi y4, oi v2, oi v9, oi v16, oi v24, oi v32, oi v42, oa u, ou, ou, ou, ou, ou, ou, ou, ou, ou] [(.double v71), (.int v9), (.ref u)])) rfl (by rw [hml]; rfl) (lenOf zCN rfl) rfl (by show 2 * 0 + _ ≤ _; exact Nat.le_of_eq rfl) (hb hby at_72)
  obtain ⟨fb_1, fl_1, fa_1, ft_1, fs_1, cc_1, nn_1, X_1, N_1, He_1, rfl, rfl⟩ := qw4
  obtain ⟨v80, hv80⟩ : ∃ z : UInt64, (FP.i2d y2) = z := ⟨_, rfl⟩
  have is2 : zN v80 ((y2.toInt : Int) : Rat) := by rw [← hv80]; exact zCF _
  have by2 := rng32 y2
  obtain ⟨Tw5, vw5_, csw5_, qw5, Hw5, stw5⟩ := zAR Hw4 hx hZ hown (zB hw 34 rfl) (zB hw 35 rfl) (zB hw 37 rfl) (zB hw 36 rfl) (zB hw 2 rfl) (zB hw 38 rfl) (by decide) (x := u) 0 rfl (argsL := [(.int v16), (.double v80)]) (rest := []) (W := 0) (zCV l Z a0 hb0 hw u v16 v80 xb xl xp nu xt xs fb_1 fl_1 fa_1 ft_1 v42 cc_1 nn_1 fs_1 X_1 (zg (zg (fun _ : Int32 => (9223372036854775807 : Int)) v2 y0.toInt) v9 y1.toInt) _ N_1 He_1 h4_2 is2 (by omega)) (by decide) (by decide) (by decide) (by decide) (g := (mkF m 81 #[oi xc, oi y0, oi y1, oi y2, oi y3, oi y4, oi v2, oi v9, oi v16, oi v24, oi v32, oi v42, oa u, ou, ou, ou, ou, ou, ou, ou, ou, ou] [(.double v80), (.int v16), (.ref u)])) rfl (by rw [hml]; rfl) (lenOf zCN rfl) rfl (by show 2 * 0 + _ ≤ _; exact Nat.le_of_eq rfl) (hb hby at_81)
  obtain ⟨fb_2, fl_2, fa_2, ft_2, fs_2, cc_2, nn_2, X_2, N_2, He_2, rfl, rfl⟩ := qw5
  obtain ⟨v90, hv90⟩ : ∃ z : UInt64, (FP.i2d y3) = z := ⟨_, rfl⟩
  have is3 : zN v90 ((y3.toInt : Int) : Rat) := by rw [← hv90]; exact zCF _
  have by3 := rng32 y3
  obtain ⟨Tw6, vw6_, csw6_, qw6, Hw6, stw6⟩ := zAR Hw5 hx hZ hown (zB hw 34 rfl) (zB hw 35 rfl) (zB hw 37 rfl) (zB hw 36 rfl) (zB hw 2 rfl) (zB hw 38 rfl) (by decide) (x := u) 0 rfl (argsL := [(.int v24), (.double v90)]) (rest := []) (W := 0) (zCV l Z a0 hb0 hw u v24 v90 xb xl xp nu xt xs fb_2 fl_2 fa_2 ft_2 v42 cc_2 nn_2 fs_2 X_2 (zg (zg (zg (fun _ : Int32 => (9223372036854775807 : Int)) v2 y0.toInt) v9 y1.toInt) v16 y2.toInt) _ N_2 He_2 h4_3 is3 (by omega)) (by decide) (by decide) (by decide) (by decide) (g := (mkF m 91 #[oi xc, oi y0, oi y1, oi y2, oi y3, oi y4, oi v2, oi v9, oi v16, oi v24, oi v32, oi v42, oa u, ou, ou, ou, ou, ou, ou, ou, ou, ou] [(.double v90), (.int v24), (.ref u)])) rfl (by rw [hml]; rfl) (lenOf zCN rfl) rfl (by show 2 * 0 + _ ≤ _; exact Nat.le_of_eq rfl) (hb hby at_91)
  obtain ⟨fb_3, fl_3, fa_3, ft_3, fs_3, cc_3, nn_3, X_3, N_3, He_3, rfl, rfl⟩ := qw6
  obtain ⟨v100, hv100⟩ : ∃ z : UInt64, (FP.i2d y4) = z := ⟨_, rfl⟩
  have is4 : zN v100 ((y4.toInt : Int) : Rat) := by rw [← hv100]; exact zCF _
  have by4 := rng32 y4
  obtain ⟨Tw7, vw7_, csw7_, qw7, Hw7, stw7⟩ := zAR Hw6 hx hZ hown (zB hw 34 rfl) (zB hw 35 rfl) (zB hw 37 rfl) (zB hw 36 rfl) (zB hw 2 rfl) (zB hw 38 rfl) (by decide) (x := u) 0 rfl (argsL := [(.int v32), (.double v100)]) (rest := []) (W := 0) (zCV l Z a0 hb0 hw u v32 v100 xb xl xp nu xt xs fb_3 fl_3 fa_3 ft_3 v42 cc_3 nn_3 fs_3 X_3 (zg (zg (zg (zg (fun _ : Int32 => (9223372036854775807 : Int)) v2 y0.toInt) v9 y1.toInt) v16 y2.toInt) v24 y3.toInt) _ N_3 He_3 h4_4 is4 (by omega)) (by decide) (by decide) (by decide) (by decide) (g := (mkF m 101 #[oi xc, oi y0, oi y1, oi y2, oi y3, oi y4, oi v2, oi v9, oi v16, oi v24, oi v32, oi v42, oa u, ou, ou, ou, ou, ou, ou, ou, ou, ou] [(.double v100), (.int v32), (.ref u)])) rfl (by rw [hml]; rfl) (lenOf zCN rfl) rfl (by show 2 * 0 + _ ≤ _; exact Nat.le_of_eq rfl) (hb hby at_101)
  obtain ⟨fb_4, fl_4, fa_4, ft_4, fs_4, cc_4, nn_4, X_4, N_4, He_4, rfl, rfl⟩ := qw7
  by_cases hck : cc_4 = v42
  · skip
    have K := own_kth_eq N_4 He_4 hck
    have b4 := N_4.bnd _ K.2.2
    obtain ⟨Tq1_1, vq1_1_, csq1_1_, qq1_1, Hq1_1, stq1_1⟩ := zAR Hw7 hx hZ hown (zB hw 78 rfl) (zB hw 79 rfl) (zB hw 81 rfl) (zB hw 80 rfl) (zB hw 2 rfl) (zB hw 82 rfl) (by decide) (x := u) 0 rfl (argsL := []) (rest := []) (W := 0) (own_kth1 l Z a0 hb0 hw u xb xl xp nu xt xs fb_4 fl_4 fa_4 ft_4 v42 cc_4 nn_4 fs_4 hck (zAT N_4.n4 K.2.2)) (by decide) (by decide) (by decide) (by decide) (g := (mkF m 106 #[oi xc, oi y0, oi y1, oi y2, oi y3, oi y4, oi v2, oi v9, oi v16, oi v24, oi v32, oi v42, oa u, ou, ou, ou, ou, ou, ou, ou, ou, ou] [(.ref u)])) rfl (by rw [hml]; rfl) (lenOf own_pd0 rfl) rfl (by show 2 * 0 + _ ≤ _; exact Nat.le_of_eq rfl) (hb hby at_106)
    obtain ⟨⟨got, eg, rfl⟩, rfl⟩ := qq1_1
    have ig : zN got ((X_4 (fl_4 0) : Int) : Rat) := by rw [eg]; exact b4.1
    obtain ⟨Tq1_2, xm, Hq1_2, stq1_2⟩ := zBi Hq1_1 hx hZ (zB hw 84 rfl) (g := (mkF m 117 #[oi xc, oi y0, oi y1, oi y2, oi y3, oi y4, oi v2, oi v9, oi v16, oi v24, oi v32, oi v42, oa u, .val (.double got), .second, .val (.long (9223372036854775807 : Int64)), .second, ou, ou, ou, ou, ou] [(.int 4)])) rfl (hb hby at_117) rfl (by decide) (cap := 4) (by decide) (by decide) (by decide) (by decide)
    change zR _ _ _ _ _ _ _ _ _ _ _ _ _ _ [(u, oc1 (.ref xb) (.ref xl) (.ref xp) (.int v42) (.ref nu) (.int cc_4)), (xb, zA .double (zK fb_4)), (xl, zA .int (zE fl_4)), (xp, zA .int (zE fa_4)), (nu, oc2 (.int 4) (.ref xt) (.ref xs) (.int nn_4) .null (.int 0)), (xt, zA .int (zE ft_4)), (xs, zA .int [.int (fs_4 (0 : Int32)), .int 0, .int 0, .int (fs_4 (2 : Int32)), .int 0, .int 0, .int 0, .int 0, .int 0, .int (fs_4 (1 : Int32)), .int 0, .int 0, .int 0, .int (fs_4 (3 : Int32)), .int 0, .int 0]), (xm, zA .long [.long 0, .long 0, .long 0, .long 0])] _ _ at Hq1_2
    obtain ⟨Tq1_3, Hq1_3, stq1_3⟩ := zAO Hq1_2 hx hZ 7 0 rfl (by decide) (Nat.le_of_ble_eq_true rfl) (g := (mkF m 126 #[oi xc, oi y0, oi y1, oi y2, oi y3, oi y4, oi v2, oi v9, oi v16, oi v24, oi v32, oi v42, oa u, .val (.double got), .second, .val (.long (9223372036854775807 : Int64)), .second, oa xm, ou, ou, ou, ou] [(.long (9223372036854775807 : Int64)), (.int 0), (.ref xm)])) rfl rfl (hb hby at_126)
    change zR _ _ _ _ _ _ _ _ _ _ _ _ _ _ [(u, oc1 (.ref xb) (.ref xl) (.ref xp) (.int v42) (.ref nu) (.int cc_4)), (xb, zA .double (zK fb_4)), (xl, zA .int (zE fl_4)), (xp, zA .int (zE fa_4)), (nu, oc2 (.int 4) (.ref xt) (.ref xs) (.int nn_4) .null (.int 0)), (xt, zA .int (zE ft_4)), (xs, zA .int [.int (fs_4 (0 : Int32)), .int 0, .int 0, .int (fs_4 (2 : Int32)), .int 0, .int 0, .int 0, .int 0, .int 0, .int (fs_4 (1 : Int32)), .int 0, .int 0, .int 0, .int (fs_4 (3 : Int32)), .int 0, .int 0]), (xm, zA .long [.long (9223372036854775807 : Int64), .long 0, .long 0, .long 0])] _ _ at Hq1_3
    obtain ⟨Tq1_4, Hq1_4, stq1_4⟩ := zAO Hq1_3 hx hZ 7 1 rfl (by decide) (Nat.le_of_ble_eq_true rfl) (g := (mkF m 132 #[oi xc, oi y0, oi y1, oi y2, oi y3, oi y4, oi v2, oi v9, oi v16, oi v24, oi v32, oi v42, oa u, .val (.double got), .second, .val (.long (9223372036854775807 : Int64)), .second, oa xm, ou, ou, ou, ou] [(.long (9223372036854775807 : Int64)), (.int 1), (.ref xm)])) rfl rfl (hb hby at_132)
    change zR _ _ _ _ _ _ _ _ _ _ _ _ _ _ [(u, oc1 (.ref xb) (.ref xl) (.ref xp) (.int v42) (.ref nu) (.int cc_4)), (xb, zA .double (zK fb_4)), (xl, zA .int (zE fl_4)), (xp, zA .int (zE fa_4)), (nu, oc2 (.int 4) (.ref xt) (.ref xs) (.int nn_4) .null (.int 0)), (xt, zA .int (zE ft_4)), (xs, zA .int [.int (fs_4 (0 : Int32)), .int 0, .int 0, .int (fs_4 (2 : Int32)), .int 0, .int 0, .int 0, .int 0, .int 0, .int (fs_4 (1 : Int32)), .int 0, .int 0, .int 0, .int (fs_4 (3 : Int32)), .int 0, .int 0]), (xm, zA .long [.long (9223372036854775807 : Int64), .long (9223372036854775807 : Int64), .long 0, .long 0])] _ _ at Hq1_4
    obtain ⟨Tq1_5, Hq1_5, stq1_5⟩ := zAO Hq1_4 hx hZ 7 2 rfl (by decide) (Nat.le_of_ble_eq_true rfl) (g := (mkF m 138 #[oi xc, oi y0, oi y1, oi y2, oi y3, oi y4, oi v2, oi v9, oi v16, oi v24, oi v32, oi v42, oa u, .val (.double got), .second, .val (.long (9223372036854775807 : Int64)), .second, oa xm, ou, ou, ou, ou] [(.long (9223372036854775807 : Int64)), (.int 2), (.ref xm)])) rfl rfl (hb hby at_138)
    change zR _ _ _ _ _ _ _ _ _ _ _ _ _ _ [(u, oc1 (.ref xb) (.ref xl) (.ref xp) (.int v42) (.ref nu) (.int cc_4)), (xb, zA .double (zK fb_4)), (xl, zA .int (zE fl_4)), (xp, zA .int (zE fa_4)), (nu, oc2 (.int 4) (.ref xt) (.ref xs) (.int nn_4) .null (.int 0)), (xt, zA .int (zE ft_4)), (xs, zA .int [.int (fs_4 (0 : Int32)), .int 0, .int 0, .int (fs_4 (2 : Int32)), .int 0, .int 0, .int 0, .int 0, .int 0, .int (fs_4 (1 : Int32)), .int 0, .int 0, .int 0, .int (fs_4 (3 : Int32)), .int 0, .int 0]), (xm, zA .long [.long (9223372036854775807 : Int64), .long (9223372036854775807 : Int64), .long (9223372036854775807 : Int64), .long 0])] _ _ at Hq1_5
    obtain ⟨Tq1_6, Hq1_6, stq1_6⟩ := zAO Hq1_5 hx hZ 7 3 rfl (by decide) (Nat.le_of_ble_eq_true rfl) (g := (mkF m 144 #[oi xc, oi y0, oi y1, oi y2, oi y3, oi y4, oi v2, oi v9, oi v16, oi v24, oi v32, oi v42, oa u, .val (.double got), .second, .val (.long (9223372036854775807 : Int64)), .second, oa xm, ou, ou, ou, ou] [(.long (9223372036854775807 : Int64)), (.int 3), (.ref xm)])) rfl rfl (hb hby at_144)
    change zR _ _ _ _ _ _ _ _ _ _ _ _ _ _ [(u, oc1 (.ref xb) (.ref xl) (.ref xp) (.int v42) (.ref nu) (.int cc_4)), (xb, zA .double (zK fb_4)), (xl, zA .int (zE fl_4)), (xp, zA .int (zE fa_4)), (nu, oc2 (.int 4) (.ref xt) (.ref xs) (.int nn_4) .null (.int 0)), (xt, zA .int (zE ft_4)), (xs, zA .int [.int (fs_4 (0 : Int32)), .int 0, .int 0, .int (fs_4 (2 : Int32)), .int 0, .int 0, .int 0, .int 0, .int 0, .int (fs_4 (1 : Int32)), .int 0, .int 0, .int 0, .int (fs_4 (3 : Int32)), .int 0, .int 0]), (xm, zA .long [.long (9223372036854775807 : Int64), .long (9223372036854775807 : Int64), .long (9223372036854775807 : Int64), .long (9223372036854775807 : Int64)])] _ _ at Hq1_6
    change zR _ _ _ _ _ _ _ _ _ _ _ _ _ _ [(u, oc1 (.ref xb) (.ref xl) (.ref xp) (.int v42) (.ref nu) (.int cc_4)), (xb, zA .double (zK fb_4)), (xl, zA .int (zE fl_4)), (xp, zA .int (zE fa_4)), (nu, oc2 (.int 4) (.ref xt) (.ref xs) (.int nn_4) .null (.int 0)), (xt, zA .int (zE ft_4)), (xs, zA .int [.int (fs_4 (0 : Int32)), .int 0, .int 0, .int (fs_4 (2 : Int32)), .int 0, .int 0, .int 0, .int 0, .int 0, .int (fs_4 (1 : Int32)), .int 0, .int 0, .int 0, .int (fs_4 (3 : Int32)), .int 0, .int 0]), (xm, zA .long (zAE (fun _ : Int32 => (9223372036854775807 : Int64))))] _ _ at Hq1_6
    have FM : ∀ q : Int32, ((fun _ : Int32 => (9223372036854775807 : Int64)) q).toInt = (fun _ : Int32 => (9223372036854775807 : Int)) q := fun _ => rfl
    obtain ⟨w50, hw50⟩ : ∃ z, (fun _ : Int32 => (9223372036854775807 : Int64)) v2 = z := ⟨_, rfl⟩
    obtain ⟨v155, hv155⟩ : ∃ z : Int64, y0.toInt64 = z := ⟨_, rfl⟩
    obtain ⟨Tq1_8, vq1_8_, csq1_8_, qq1_8, Hq1_8, stq1_8⟩ := zAL Hq1_6 hx hZ hown (zB hw 85 rfl) (zB hw 86 rfl) (zB hw 87 rfl) (zB hw 88 rfl) (by decide) (argsL := [(.long w50), (.long v155)]) (rest := [(.int v2), (.ref xm)]) (W := 2) (zBG l Z a0 hb0 hw w50 v155 _) (by decide) (by decide) (by decide) (by decide) (g := (mkF m 156 #[oi xc, oi y0, oi y1, oi y2, oi y3, oi y4, oi v2, oi v9, oi v16, oi v24, oi v32, oi v42, oa u, .val (.double got), .second, .val (.long (9223372036854775807 : Int64)), .second, oa xm, ou, ou, ou, ou] [(.long v155), (.long w50), (.int v2), (.ref xm)])) rfl (by rw [hml]; rfl) (lenOf zBC rfl) rfl (by show 2 * 0 + _ ≤ _; exact Nat.le_of_eq rfl) (hb hby at_156)
    obtain ⟨z0, ez0, rfl, rfl⟩ := qq1_8
    obtain ⟨Tq1_9, Hq1_9, stq1_9⟩ := zAz Hq1_8 hx hZ 7 rfl h4_0 (g := (mkF m 159 #[oi xc, oi y0, oi y1, oi y2, oi y3, oi y4, oi v2, oi v9, oi v16, oi v24, oi v32, oi v42, oa u, .val (.double got), .second, .val (.long (9223372036854775807 : Int64)), .second, oa xm, ou, ou, ou, ou] [(.long z0), (.int v2), (.ref xm)])) rfl rfl (hb hby at_159)
    change zR _ _ _ _ _ _ _ _ _ _ _ _ _ _ [(u, oc1 (.ref xb) (.ref xl) (.ref xp) (.int v42) (.ref nu) (.int cc_4)), (xb, zA .double (zK fb_4)), (xl, zA .int (zE fl_4)), (xp, zA .int (zE fa_4)), (nu, oc2 (.int 4) (.ref xt) (.ref xs) (.int nn_4) .null (.int 0)), (xt, zA .int (zE ft_4)), (xs, zA .int [.int (fs_4 (0 : Int32)), .int 0, .int 0, .int (fs_4 (2 : Int32)), .int 0, .int 0, .int 0, .int 0, .int 0, .int (fs_4 (1 : Int32)), .int 0, .int 0, .int 0, .int (fs_4 (3 : Int32)), .int 0, .int 0]), (xm, zA .long (zAE (zW (fun _ : Int32 => (9223372036854775807 : Int64)) v2 z0)))] _ _ at Hq1_9
    have FM0 : ∀ q : Int32, ((zW (fun _ : Int32 => (9223372036854775807 : Int64)) v2 z0) q).toInt = (zg (fun _ : Int32 => (9223372036854775807 : Int)) v2 y0.toInt) q := zBF FM (by rw [ez0, ← hw50, ← hv155, c_i2l, FM v2])
    obtain ⟨w51, hw51⟩ : ∃ z, (zW (fun _ : Int32 => (9223372036854775807 : Int64)) v2 z0) v9 = z := ⟨_, rfl⟩
    obtain ⟨v170, hv170⟩ : ∃ z : Int64, y1.toInt64 = z := ⟨_, rfl⟩
    obtain ⟨Tq1_11, vq1_11_, csq1_11_, qq1_11, Hq1_11, stq1_11⟩ := zAL Hq1_9 hx hZ hown (zB hw 85 rfl) (zB hw 86 rfl) (zB hw 87 rfl) (zB hw 88 rfl) (by decide) (argsL := [(.long w51), (.long v170)]) (rest := [(.int v9), (.ref xm)]) (W := 2) (zBG l Z a0 hb0 hw w51 v170 _) (by decide) (by decide) (by decide) (by decide) (g := (mkF m 171 #[oi xc, oi y0, oi y1, oi y2, oi y3, oi y4, oi v2, oi v9, oi v16, oi v24, oi v32, oi v42, oa u, .val (.double got), .second, .val (.long (9223372036854775807 : Int64)), .second, oa xm, ou, ou, ou, ou] [(.long v170), (.long w51), (.int v9), (.ref xm)])) rfl (by rw [hml]; rfl) (lenOf zBC rfl) rfl (by show 2 * 0 + _ ≤ _; exact Nat.le_of_eq rfl) (hb hby at_171)
    obtain ⟨z1, ez1, rfl, rfl⟩ := qq1_11
    obtain ⟨Tq1_12, Hq1_12, stq1_12⟩ := zAz Hq1_11 hx hZ 7 rfl h4_1 (g := (mkF m 174 #[oi xc, oi y0, oi y1, oi y2, oi y3, oi y4, oi v2, oi v9, oi v16, oi v24, oi v32, oi v42, oa u, .val (.double got), .second, .val (.long (9223372036854775807 : Int64)), .second, oa xm, ou, ou, ou, ou] [(.long z1), (.int v9), (.ref xm)])) rfl rfl (hb hby at_174)
    change zR _ _ _ _ _ _ _ _ _ _ _ _ _ _ [(u, oc1 (.ref xb) (.ref xl) (.ref xp) (.int v42) (.ref nu) (.int cc_4)), (xb, zA .double (zK fb_4)), (xl, zA .int (zE fl_4)), (xp, zA .int (zE fa_4)), (nu, oc2 (.int 4) (.ref xt) (.ref xs) (.int nn_4) .null (.int 0)), (xt, zA .int (zE ft_4)), (xs, zA .int [.int (fs_4 (0 : Int32)), .int 0, .int 0, .int (fs_4 (2 : Int32)), .int 0, .int 0, .int 0, .int 0, .int 0, .int (fs_4 (1 : Int32)), .int 0, .int 0, .int 0, .int (fs_4 (3 : Int32)), .int 0, .int 0]), (xm, zA .long (zAE (zW (zW (fun _ : Int32 => (9223372036854775807 : Int64)) v2 z0) v9 z1)))] _ _ at Hq1_12
    have FM1 : ∀ q : Int32, ((zW (zW (fun _ : Int32 => (9223372036854775807 : Int64)) v2 z0) v9 z1) q).toInt = (zg (zg (fun _ : Int32 => (9223372036854775807 : Int)) v2 y0.toInt) v9 y1.toInt) q := zBF FM0 (by rw [ez1, ← hw51, ← hv170, c_i2l, FM0 v9])
    obtain ⟨w52, hw52⟩ : ∃ z, (zW (zW (fun _ : Int32 => (9223372036854775807 : Int64)) v2 z0) v9 z1) v16 = z := ⟨_, rfl⟩
    obtain ⟨v185, hv185⟩ : ∃ z : Int64, y2.toInt64 = z := ⟨_, rfl⟩
    obtain ⟨Tq1_14, vq1_14_, csq1_14_, qq1_14, Hq1_14, stq1_14⟩ := zAL Hq1_12 hx hZ hown (zB hw 85 rfl) (zB hw 86 rfl) (zB hw 87 rfl) (zB hw 88 rfl) (by decide) (argsL := [(.long w52), (.long v185)]) (rest := [(.int v16), (.ref xm)]) (W := 2) (zBG l Z a0 hb0 hw w52 v185 _) (by decide) (by decide) (by decide) (by decide) (g := (mkF m 186 #[oi xc, oi y0, oi y1, oi y2, oi y3, oi y4, oi v2, oi v9, oi v16, oi v24, oi v32, oi v42, oa u, .val (.double got), .second, .val (.long (9223372036854775807 : Int64)), .second, oa xm, ou, ou, ou, ou] [(.long v185), (.long w52), (.int v16), (.ref xm)])) rfl (by rw [hml]; rfl) (lenOf zBC rfl) rfl (by show 2 * 0 + _ ≤ _; exact Nat.le_of_eq rfl) (hb hby at_186)
    obtain ⟨z2, ez2, rfl, rfl⟩ := qq1_14
    obtain ⟨Tq1_15, Hq1_15, stq1_15⟩ := zAz Hq1_14 hx hZ 7 rfl h4_2 (g := (mkF m 189 #[oi xc, oi y0, oi y1, oi y2, oi y3, oi y4, oi v2, oi v9, oi v16, oi v24, oi v32, oi v42, oa u, .val (.double got), .second, .val (.long (9223372036854775807 : Int64)), .second, oa xm, ou, ou, ou, ou] [(.long z2), (.int v16), (.ref xm)])) rfl rfl (hb hby at_189)
    change zR _ _ _ _ _ _ _ _ _ _ _ _ _ _ [(u, oc1 (.ref xb) (.ref xl) (.ref xp) (.int v42) (.ref nu) (.int cc_4)), (xb, zA .double (zK fb_4)), (xl, zA .int (zE fl_4)), (xp, zA .int (zE fa_4)), (nu, oc2 (.int 4) (.ref xt) (.ref xs) (.int nn_4) .null (.int 0)), (xt, zA .int (zE ft_4)), (xs, zA .int [.int (fs_4 (0 : Int32)), .int 0, .int 0, .int (fs_4 (2 : Int32)), .int 0, .int 0, .int 0, .int 0, .int 0, .int (fs_4 (1 : Int32)), .int 0, .int 0, .int 0, .int (fs_4 (3 : Int32)), .int 0, .int 0]), (xm, zA .long (zAE (zW (zW (zW (fun _ : Int32 => (9223372036854775807 : Int64)) v2 z0) v9 z1) v16 z2)))] _ _ at Hq1_15
    have FM2 : ∀ q : Int32, ((zW (zW (zW (fun _ : Int32 => (9223372036854775807 : Int64)) v2 z0) v9 z1) v16 z2) q).toInt = (zg (zg (zg (fun _ : Int32 => (9223372036854775807 : Int)) v2 y0.toInt) v9 y1.toInt) v16 y2.toInt) q := zBF FM1 (by rw [ez2, ← hw52, ← hv185, c_i2l, FM1 v16])
    obtain ⟨w53, hw53⟩ : ∃ z, (zW (zW (zW (fun _ : Int32 => (9223372036854775807 : Int64)) v2 z0) v9 z1) v16 z2) v24 = z := ⟨_, rfl⟩
    obtain ⟨v201, hv201⟩ : ∃ z : Int64, y3.toInt64 = z := ⟨_, rfl⟩
    obtain ⟨Tq1_17, vq1_17_, csq1_17_, qq1_17, Hq1_17, stq1_17⟩ := zAL Hq1_15 hx hZ hown (zB hw 85 rfl) (zB hw 86 rfl) (zB hw 87 rfl) (zB hw 88 rfl) (by decide) (argsL := [(.long w53), (.long v201)]) (rest := [(.int v24), (.ref xm)]) (W := 2) (zBG l Z a0 hb0 hw w53 v201 _) (by decide) (by decide) (by decide) (by decide) (g := (mkF m 202 #[oi xc, oi y0, oi y1, oi y2, oi y3, oi y4, oi v2, oi v9, oi v16, oi v24, oi v32, oi v42, oa u, .val (.double got), .second, .val (.long (9223372036854775807 : Int64)), .second, oa xm, ou, ou, ou, ou] [(.long v201), (.long w53), (.int v24), (.ref xm)])) rfl (by rw [hml]; rfl) (lenOf zBC rfl) rfl (by show 2 * 0 + _ ≤ _; exact Nat.le_of_eq rfl) (hb hby at_202)
    obtain ⟨z3, ez3, rfl, rfl⟩ := qq1_17
    obtain ⟨Tq1_18, Hq1_18, stq1_18⟩ := zAz Hq1_17 hx hZ 7 rfl h4_3 (g := (mkF m 205 #[oi xc, oi y0, oi y1, oi y2, oi y3, oi y4, oi v2, oi v9, oi v16, oi v24, oi v32, oi v42, oa u, .val (.double got), .second, .val (.long (9223372036854775807 : Int64)), .second, oa xm, ou, ou, ou, ou] [(.long z3), (.int v24), (.ref xm)])) rfl rfl (hb hby at_205)
    change zR _ _ _ _ _ _ _ _ _ _ _ _ _ _ [(u, oc1 (.ref xb) (.ref xl) (.ref xp) (.int v42) (.ref nu) (.int cc_4)), (xb, zA .double (zK fb_4)), (xl, zA .int (zE fl_4)), (xp, zA .int (zE fa_4)), (nu, oc2 (.int 4) (.ref xt) (.ref xs) (.int nn_4) .null (.int 0)), (xt, zA .int (zE ft_4)), (xs, zA .int [.int (fs_4 (0 : Int32)), .int 0, .int 0, .int (fs_4 (2 : Int32)), .int 0, .int 0, .int 0, .int 0, .int 0, .int (fs_4 (1 : Int32)), .int 0, .int 0, .int 0, .int (fs_4 (3 : Int32)), .int 0, .int 0]), (xm, zA .long (zAE (zW (zW (zW (zW (fun _ : Int32 => (9223372036854775807 : Int64)) v2 z0) v9 z1) v16 z2) v24 z3)))] _ _ at Hq1_18
    have FM3 : ∀ q : Int32, ((zW (zW (zW (zW (fun _ : Int32 => (9223372036854775807 : Int64)) v2 z0) v9 z1) v16 z2) v24 z3) q).toInt = (zg (zg (zg (zg (fun _ : Int32 => (9223372036854775807 : Int)) v2 y0.toInt) v9 y1.toInt) v16 y2.toInt) v24 y3.toInt) q := zBF FM2 (by rw [ez3, ← hw53, ← hv201, c_i2l, FM2 v24])
    obtain ⟨w54, hw54⟩ : ∃ z, (zW (zW (zW (zW (fun _ : Int32 => (9223372036854775807 : Int64)) v2 z0) v9 z1) v16 z2) v24 z3) v32 = z := ⟨_, rfl⟩
    obtain ⟨v217, hv217⟩ : ∃ z : Int64, y4.toInt64 = z := ⟨_, rfl⟩
    obtain ⟨Tq1_20, vq1_20_, csq1_20_, qq1_20, Hq1_20, stq1_20⟩ := zAL Hq1_18 hx hZ hown (zB hw 85 rfl) (zB hw 86 rfl) (zB hw 87 rfl) (zB hw 88 rfl) (by decide) (argsL := [(.long w54), (.long v217)]) (rest := [(.int v32), (.ref xm)]) (W := 2) (zBG l Z a0 hb0 hw w54 v217 _) (by decide) (by decide) (by decide) (by decide) (g := (mkF m 218 #[oi xc, oi y0, oi y1, oi y2, oi y3, oi y4, oi v2, oi v9, oi v16, oi v24, oi v32, oi v42, oa u, .val (.double got), .second, .val (.long (9223372036854775807 : Int64)), .second, oa xm, ou, ou, ou, ou] [(.long v217), (.long w54), (.int v32), (.ref xm)])) rfl (by rw [hml]; rfl) (lenOf zBC rfl) rfl (by show 2 * 0 + _ ≤ _; exact Nat.le_of_eq rfl) (hb hby at_218)
    obtain ⟨z4, ez4, rfl, rfl⟩ := qq1_20
    obtain ⟨Tq1_21, Hq1_21, stq1_21⟩ := zAz Hq1_20 hx hZ 7 rfl h4_4 (g := (mkF m 221 #[oi xc, oi y0, oi y1, oi y2, oi y3, oi y4, oi v2, oi v9, oi v16, oi v24, oi v32, oi v42, oa u, .val (.double got), .second, .val (.long (9223372036854775807 : Int64)), .second, oa xm, ou, ou, ou, ou] [(.long z4), (.int v32), (.ref xm)])) rfl rfl (hb hby at_221)
    change zR _ _ _ _ _ _ _ _ _ _ _ _ _ _ [(u, oc1 (.ref xb) (.ref xl) (.ref xp) (.int v42) (.ref nu) (.int cc_4)), (xb, zA .double (zK fb_4)), (xl, zA .int (zE fl_4)), (xp, zA .int (zE fa_4)), (nu, oc2 (.int 4) (.ref xt) (.ref xs) (.int nn_4) .null (.int 0)), (xt, zA .int (zE ft_4)), (xs, zA .int [.int (fs_4 (0 : Int32)), .int 0, .int 0, .int (fs_4 (2 : Int32)), .int 0, .int 0, .int 0, .int 0, .int 0, .int (fs_4 (1 : Int32)), .int 0, .int 0, .int 0, .int (fs_4 (3 : Int32)), .int 0, .int 0]), (xm, zA .long (zAE (zW (zW (zW (zW (zW (fun _ : Int32 => (9223372036854775807 : Int64)) v2 z0) v9 z1) v16 z2) v24 z3) v32 z4)))] _ _ at Hq1_21
    have FM4 : ∀ q : Int32, ((zW (zW (zW (zW (zW (fun _ : Int32 => (9223372036854775807 : Int64)) v2 z0) v9 z1) v16 z2) v24 z3) v32 z4) q).toInt = (zg (zg (zg (zg (zg (fun _ : Int32 => (9223372036854775807 : Int)) v2 y0.toInt) v9 y1.toInt) v16 y2.toInt) v24 y3.toInt) v32 y4.toInt) q := zBF FM3 (by rw [ez4, ← hw54, ← hv217, c_i2l, FM3 v32])
    obtain ⟨FF, hFF⟩ : ∃ z, (zW (zW (zW (zW (zW (fun _ : Int32 => (9223372036854775807 : Int64)) v2 z0) v9 z1) v16 z2) v24 z3) v32 z4) = z := ⟨_, rfl⟩
    rw [hFF] at Hq1_21 FM4
    obtain ⟨m0, hm0⟩ : ∃ z, FF (0 : Int32) = z := ⟨_, rfl⟩
    obtain ⟨m1, hm1⟩ : ∃ z, FF (1 : Int32) = z := ⟨_, rfl⟩
    obtain ⟨m2, hm2⟩ : ∃ z, FF (2 : Int32) = z := ⟨_, rfl⟩
    obtain ⟨m3, hm3⟩ : ∃ z, FF (3 : Int32) = z := ⟨_, rfl⟩
    have eV : zAE FF = [.long m0, .long m1, .long m2, .long m3] := by rw [← hm0, ← hm1, ← hm2, ← hm3]; rfl
    rw [eV] at Hq1_21
    change zR _ _ _ _ _ _ _ _ _ _ _ _ _ _ [(u, oc1 (.ref xb) (.ref xl) (.ref xp) (.int v42) (.ref nu) (.int cc_4)), (xb, zA .double (zK fb_4)), (xl, zA .int (zE fl_4)), (xp, zA .int (zE fa_4)), (nu, oc2 (.int 4) (.ref xt) (.ref xs) (.int nn_4) .null (.int 0)), (xt, zA .int (zE ft_4)), (xs, zA .int [.int (fs_4 (0 : Int32)), .int 0, .int 0, .int (fs_4 (2 : Int32)), .int 0, .int 0, .int 0, .int 0, .int 0, .int (fs_4 (1 : Int32)), .int 0, .int 0, .int 0, .int (fs_4 (3 : Int32)), .int 0, .int 0]), (xm, zA .long [.long m0, .long m1, .long m2, .long m3])] _ _ at Hq1_21
    obtain ⟨Tq1_22, vq1_22_, csq1_22_, qq1_22, Hq1_22, stq1_22⟩ := zAL Hq1_21 hx hZ hown (zB hw 89 rfl) (zB hw 90 rfl) (zB hw 91 rfl) (zB hw 92 rfl) (by decide) (argsL := [(.ref xm), (.int 0), (.int 1)]) (rest := []) (W := 0) (own_cx01 l Z a0 hb0 hw xm u xb xl xp nu xt xs _ _ _ _ _ _ _ m0 m1 m2 m3) (by decide) (by decide) (by decide) (by decide) (g := (mkF m 226 #[oi xc, oi y0, oi y1, oi y2, oi y3, oi y4, oi v2, oi v9, oi v16, oi v24, oi v32, oi v42, oa u, .val (.double got), .second, .val (.long (9223372036854775807 : Int64)), .second, oa xm, ou, ou, ou, ou] [(.int 1), (.int 0), (.ref xm)])) rfl (by rw [hml]; rfl) (lenOf zBD rfl) rfl (by show 2 * 0 + _ ≤ _; exact Nat.le_of_eq rfl) (hb hby at_226)
    obtain ⟨za0, zb0, hc0, rfl, rfl⟩ := qq1_22
    obtain ⟨Tq1_23, vq1_23_, csq1_23_, qq1_23, Hq1_23, stq1_23⟩ := zAL Hq1_22 hx hZ hown (zB hw 89 rfl) (zB hw 90 rfl) (zB hw 91 rfl) (zB hw 92 rfl) (by decide) (argsL := [(.ref xm), (.int 2), (.int 3)]) (rest := []) (W := 0) (own_cx23 l Z a0 hb0 hw xm u xb xl xp nu xt xs _ _ _ _ _ _ _ za0 zb0 m2 m3) (by decide) (by decide) (by decide) (by decide) (g := (mkF m 233 #[oi xc, oi y0, oi y1, oi y2, oi y3, oi y4, oi v2, oi v9, oi v16, oi v24, oi v32, oi v42, oa u, .val (.double got), .second, .val (.long (9223372036854775807 : Int64)), .second, oa xm, ou, ou, ou, ou] [(.int 3), (.int 2), (.ref xm)])) rfl (by rw [hml]; rfl) (lenOf zBD rfl) rfl (by show 2 * 0 + _ ≤ _; exact Nat.le_of_eq rfl) (hb hby at_233)
    obtain ⟨za1, zb1, hc1, rfl, rfl⟩ := qq1_23
    obtain ⟨Tq1_24, vq1_24_, csq1_24_, qq1_24, Hq1_24, stq1_24⟩ := zAL Hq1_23 hx hZ hown (zB hw 89 rfl) (zB hw 90 rfl) (zB hw 91 rfl) (zB hw 92 rfl) (by decide) (argsL := [(.ref xm), (.int 0), (.int 2)]) (rest := []) (W := 0) (own_cx02 l Z a0 hb0 hw xm u xb xl xp nu xt xs _ _ _ _ _ _ _ za0 zb0 za1 zb1) (by decide) (by decide) (by decide) (by decide) (g := (mkF m 240 #[oi xc, oi y0, oi y1, oi y2, oi y3, oi y4, oi v2, oi v9, oi v16, oi v24, oi v32, oi v42, oa u, .val (.double got), .second, .val (.long (9223372036854775807 : Int64)), .second, oa xm, ou, ou, ou, ou] [(.int 2), (.int 0), (.ref xm)])) rfl (by rw [hml]; rfl) (lenOf zBD rfl) rfl (by show 2 * 0 + _ ≤ _; exact Nat.le_of_eq rfl) (hb hby at_240)
    obtain ⟨za2, zb2, hc2, rfl, rfl⟩ := qq1_24
    obtain ⟨Tq1_25, vq1_25_, csq1_25_, qq1_25, Hq1_25, stq1_25⟩ := zAL Hq1_24 hx hZ hown (zB hw 89 rfl) (zB hw 90 rfl) (zB hw 91 rfl) (zB hw 92 rfl) (by decide) (argsL := [(.ref xm), (.int 1), (.int 3)]) (rest := []) (W := 0) (own_cx13 l Z a0 hb0 hw xm u xb xl xp nu xt xs _ _ _ _ _ _ _ za2 zb0 zb2 zb1) (by decide) (by decide) (by decide) (by decide) (g := (mkF m 247 #[oi xc, oi y0, oi y1, oi y2, oi y3, oi y4, oi v2, oi v9, oi v16, oi v24, oi v32, oi v42, oa u, .val (.double got), .second, .val (.long (9223372036854775807 : Int64)), .second, oa xm, ou, ou, ou, ou] [(.int 3), (.int 1), (.ref xm)])) rfl (by rw [hml]; rfl) (lenOf zBD rfl) rfl (by show 2 * 0 + _ ≤ _; exact Nat.le_of_eq rfl) (hb hby at_247)
    obtain ⟨za3, zb3, hc3, rfl, rfl⟩ := qq1_25
    obtain ⟨Tq1_26, vq1_26_, csq1_26_, qq1_26, Hq1_26, stq1_26⟩ := zAL Hq1_25 hx hZ hown (zB hw 89 rfl) (zB hw 90 rfl) (zB hw 91 rfl) (zB hw 92 rfl) (by decide) (argsL := [(.ref xm), (.int 1), (.int 2)]) (rest := []) (W := 0) (own_cx12 l Z a0 hb0 hw xm u xb xl xp nu xt xs _ _ _ _ _ _ _ za2 za3 zb2 zb3) (by decide) (by decide) (by decide) (by decide) (g := (mkF m 254 #[oi xc, oi y0, oi y1, oi y2, oi y3, oi y4, oi v2, oi v9, oi v16, oi v24, oi v32, oi v42, oa u, .val (.double got), .second, .val (.long (9223372036854775807 : Int64)), .second, oa xm, ou, ou, ou, ou] [(.int 2), (.int 1), (.ref xm)])) rfl (by rw [hml]; rfl) (lenOf zBD rfl) rfl (by show 2 * 0 + _ ≤ _; exact Nat.le_of_eq rfl) (hb hby at_254)
    obtain ⟨za4, zb4, hc4, rfl, rfl⟩ := qq1_26
    obtain ⟨v262, hv262⟩ : ∃ z : Int32, (v42 - (1 : Int32)) = z := ⟨_, rfl⟩
    obtain ⟨jj, yv, ej, hy, s1, s2, s3, s4⟩ := own_sel4 hk hv262 za2 za4 zb4 zb3
    have net := own_net hc0 hc1 hc2 hc3 hc4
    have hM : ∀ z, zAZ (zg (zg (zg (zg (zg (fun _ : Int32 => (9223372036854775807 : Int)) v2 y0.toInt) v9 y1.toInt) v16 y2.toInt) v24 y3.toInt) v32 y4.toInt) z = (if za2.toInt ≤ z then 1 else 0) + (if za4.toInt ≤ z then 1 else 0) + (if zb4.toInt ≤ z then 1 else 0) + (if zb3.toInt ≤ z then 1 else 0) := by
      intro z
      rw [← net.2 z]
      simp only [zAZ, zAC, ← FM4, hm0, hm1, hm2, hm3]
    obtain ⟨v270, hv270⟩ : ∃ z : Int32, (if yv > (9223372036854775807 : Int64) then (1 : Int32) else if yv = (9223372036854775807 : Int64) then 0 else -1) = z := ⟨_, rfl⟩
    obtain ⟨v282, hv282⟩ : ∃ z : UInt64, (FP.l2d yv) = z := ⟨_, rfl⟩
    obtain ⟨v289, hv289⟩ : ∃ z : Int32, (cmpValue (FP.dcmp got v282) .l) = z := ⟨_, rfl⟩
    have P1 := (zDm net.1 hM (k := v42.toInt) (z := X_4 (fl_4 0))).1 K.1
    have P2 := (zDm net.1 hM (k := v42.toInt) (z := X_4 (fl_4 0) - 1)).2 K.2.1
    have ey : yv.toInt = X_4 (fl_4 0) := by
      have z : v42.toInt = 1 ∨ v42.toInt = 2 ∨ v42.toInt = 3 ∨ v42.toInt = 4 := by omega
      rcases z with z | z | z | z
      · rw [s1 z]; have := P1.1 z; have := P2.1 z; omega
      · rw [s2 z]; have := P1.2.1 z; have := P2.2.1 z; omega
      · rw [s3 z]; have := P1.2.2.1 z; have := P2.2.2.1 z; omega
      · rw [s4 z]; have := P1.2.2.2 z; have := P2.2.2.2 z; omega
    have hb271 : ifCond.holds .ne v270 = true := by rw [← hv270, own_lc_ne, ey]; exact decide_eq_true (by have : (9223372036854775807 : Int64).toInt = 9223372036854775807 := rfl; omega)
    have iy : zN v282 ((X_4 (fl_4 0) : Int) : Rat) := by rw [← hv282, ← ey]; exact own_rd_small (own_rdL yv) (by omega)
    have hb290 : ifCond.holds .ne v289 = false := by rw [← hv289, own_c_ne ig iy]; exact decide_eq_false (not_not_intro rfl)
    refine ⟨_, _, _, _, 298, #[oi xc, oi y0, oi y1, oi y2, oi y3, oi y4, oi v2, oi v9, oi v16, oi v24, oi v32, oi v42, oa u, .val (.double got), .second, .val (.long (9223372036854775807 : Int64)), .second, oa xm, .val (.long yv), .second, .val (.double v282), .second], Hq1_26, by decide, by decide, Or.inr ⟨.boolean, (.int 1), [], .ireturn, rfl, rfl, at_298, own_retZ (Or.inr rfl), fun target q => ?_⟩⟩
    refine zC H0 hx hZ hown hby hw zj (own_w0 xc y0 y1 y2 y3 y4 v2 hv2 v7 hv7 v9 hv9 v14 hv14 v16 hv16 v22 hv22 v24 hv24 v30 hv30 v32 hv32 v39 hv39 v41 hv41 v42 hv42) _ ?_
    refine stw1 _ ?_
    refine zC Hw1 hx hZ hown hby hw zj (own_w1 xc y0 y1 y2 y3 y4 v2 v9 v16 v24 v32 v42 u) _ ?_
    refine stw2 _ ?_
    refine zC Hw2 hx hZ hown hby hw zj (own_w2 xc y0 y1 y2 y3 y4 v2 v9 v16 v24 v32 v42 u v62 hv62) _ ?_
    refine stw3 _ ?_
    refine zC Hw3 hx hZ hown hby hw zj (own_w3 xc y0 y1 y2 y3 y4 v2 v9 v16 v24 v32 v42 u v71 hv71) _ ?_
    refine stw4 _ ?_
    refine zC Hw4 hx hZ hown hby hw zj (own_w4 xc y0 y1 y2 y3 y4 v2 v9 v16 v24 v32 v42 u v80 hv80) _ ?_
    refine stw5 _ ?_
    refine zC Hw5 hx hZ hown hby hw zj (own_w5 xc y0 y1 y2 y3 y4 v2 v9 v16 v24 v32 v42 u v90 hv90) _ ?_
    refine stw6 _ ?_
    refine zC Hw6 hx hZ hown hby hw zj (own_w6 xc y0 y1 y2 y3 y4 v2 v9 v16 v24 v32 v42 u v100 hv100) _ ?_
    refine stw7 _ ?_
    refine zC Hw7 hx hZ hown hby hw zj (own_w7 xc y0 y1 y2 y3 y4 v2 v9 v16 v24 v32 v42 u) _ ?_
    refine stq1_1 _ ?_
    refine zC Hq1_1 hx hZ hown hby hw zj (own_q1_0 xc y0 y1 y2 y3 y4 v2 v9 v16 v24 v32 v42 u got) _ ?_
    refine stq1_2 _ ?_
    refine zC Hq1_2 hx hZ hown hby hw zj (own_q1_1 xc y0 y1 y2 y3 y4 v2 v9 v16 v24 v32 v42 u got xm) _ ?_
    refine stq1_3 _ ?_
    refine zC Hq1_3 hx hZ hown hby hw zj (own_q1_2 xc y0 y1 y2 y3 y4 v2 v9 v16 v24 v32 v42 u got xm) _ ?_
    refine stq1_4 _ ?_
    refine zC Hq1_4 hx hZ hown hby hw zj (own_q1_3 xc y0 y1 y2 y3 y4 v2 v9 v16 v24 v32 v42 u got xm) _ ?_
    refine stq1_5 _ ?_
    refine zC Hq1_5 hx hZ hown hby hw zj (own_q1_4 xc y0 y1 y2 y3 y4 v2 v9 v16 v24 v32 v42 u got xm) _ ?_
    refine stq1_6 _ ?_
    refine zC Hq1_6 hx hZ hown hby hw zj (own_q1_5 xc y0 y1 y2 y3 y4 v2 v9 v16 v24 v32 v42 u got xm) _ ?_
    refine zAy Hq1_6 hx hZ 7 rfl h4_0 hw50 (g := (mkF m 153 #[oi xc, oi y0, oi y1, oi y2, oi y3, oi y4, oi v2, oi v9, oi v16, oi v24, oi v32, oi v42, oa u, .val (.double got), .second, .val (.long (9223372036854775807 : Int64)), .second, oa xm, ou, ou, ou, ou] [(.int v2), (.ref xm), (.int v2), (.ref xm)])) rfl rfl (hb hby at_153) _ ?_
    refine zC Hq1_6 hx hZ hown hby hw zj (own_q1_6 xc y0 y1 y2 y3 y4 v2 v9 v16 v24 v32 v42 u got xm w50 v155 hv155) _ ?_
    refine stq1_8 _ ?_
    refine stq1_9 _ ?_
    refine zC Hq1_9 hx hZ hown hby hw zj (own_q1_7 xc y0 y1 y2 y3 y4 v2 v9 v16 v24 v32 v42 u got xm) _ ?_
    refine zAy Hq1_9 hx hZ 7 rfl h4_1 hw51 (g := (mkF m 168 #[oi xc, oi y0, oi y1, oi y2, oi y3, oi y4, oi v2, oi v9, oi v16, oi v24, oi v32, oi v42, oa u, .val (.double got), .second, .val (.long (9223372036854775807 : Int64)), .second, oa xm, ou, ou, ou, ou] [(.int v9), (.ref xm), (.int v9), (.ref xm)])) rfl rfl (hb hby at_168) _ ?_
    refine zC Hq1_9 hx hZ hown hby hw zj (own_q1_8 xc y0 y1 y2 y3 y4 v2 v9 v16 v24 v32 v42 u got xm w51 v170 hv170) _ ?_
    refine stq1_11 _ ?_
    refine stq1_12 _ ?_
    refine zC Hq1_12 hx hZ hown hby hw zj (own_q1_9 xc y0 y1 y2 y3 y4 v2 v9 v16 v24 v32 v42 u got xm) _ ?_
    refine zAy Hq1_12 hx hZ 7 rfl h4_2 hw52 (g := (mkF m 183 #[oi xc, oi y0, oi y1, oi y2, oi y3, oi y4, oi v2, oi v9, oi v16, oi v24, oi v32, oi v42, oa u, .val (.double got), .second, .val (.long (9223372036854775807 : Int64)), .second, oa xm, ou, ou, ou, ou] [(.int v16), (.ref xm), (.int v16), (.ref xm)])) rfl rfl (hb hby at_183) _ ?_
    refine zC Hq1_12 hx hZ hown hby hw zj (own_q1_10 xc y0 y1 y2 y3 y4 v2 v9 v16 v24 v32 v42 u got xm w52 v185 hv185) _ ?_
    refine stq1_14 _ ?_
    refine stq1_15 _ ?_
    refine zC Hq1_15 hx hZ hown hby hw zj (own_q1_11 xc y0 y1 y2 y3 y4 v2 v9 v16 v24 v32 v42 u got xm) _ ?_
    refine zAy Hq1_15 hx hZ 7 rfl h4_3 hw53 (g := (mkF m 198 #[oi xc, oi y0, oi y1, oi y2, oi y3, oi y4, oi v2, oi v9, oi v16, oi v24, oi v32, oi v42, oa u, .val (.double got), .second, .val (.long (9223372036854775807 : Int64)), .second, oa xm, ou, ou, ou, ou] [(.int v24), (.ref xm), (.int v24), (.ref xm)])) rfl rfl (hb hby at_198) _ ?_
    refine zC Hq1_15 hx hZ hown hby hw zj (own_q1_12 xc y0 y1 y2 y3 y4 v2 v9 v16 v24 v32 v42 u got xm w53 v201 hv201) _ ?_
    refine stq1_17 _ ?_
    refine stq1_18 _ ?_
    refine zC Hq1_18 hx hZ hown hby hw zj (own_q1_13 xc y0 y1 y2 y3 y4 v2 v9 v16 v24 v32 v42 u got xm) _ ?_
    refine zAy Hq1_18 hx hZ 7 rfl h4_4 hw54 (g := (mkF m 214 #[oi xc, oi y0, oi y1, oi y2, oi y3, oi y4, oi v2, oi v9, oi v16, oi v24, oi v32, oi v42, oa u, .val (.double got), .second, .val (.long (9223372036854775807 : Int64)), .second, oa xm, ou, ou, ou, ou] [(.int v32), (.ref xm), (.int v32), (.ref xm)])) rfl rfl (hb hby at_214) _ ?_
    refine zC Hq1_18 hx hZ hown hby hw zj (own_q1_14 xc y0 y1 y2 y3 y4 v2 v9 v16 v24 v32 v42 u got xm w54 v217 hv217) _ ?_
    refine stq1_20 _ ?_
    refine stq1_21 _ ?_
    refine zC Hq1_21 hx hZ hown hby hw zj (own_q1_15 xc y0 y1 y2 y3 y4 v2 v9 v16 v24 v32 v42 u got xm) _ ?_
    refine stq1_22 _ ?_
    refine zC Hq1_22 hx hZ hown hby hw zj (own_q1_16 xc y0 y1 y2 y3 y4 v2 v9 v16 v24 v32 v42 u got xm) _ ?_
    refine stq1_23 _ ?_
    refine zC Hq1_23 hx hZ hown hby hw zj (own_q1_17 xc y0 y1 y2 y3 y4 v2 v9 v16 v24 v32 v42 u got xm) _ ?_
    refine stq1_24 _ ?_
    refine zC Hq1_24 hx hZ hown hby hw zj (own_q1_18 xc y0 y1 y2 y3 y4 v2 v9 v16 v24 v32 v42 u got xm) _ ?_
    refine stq1_25 _ ?_
    refine zC Hq1_25 hx hZ hown hby hw zj (own_q1_19 xc y0 y1 y2 y3 y4 v2 v9 v16 v24 v32 v42 u got xm) _ ?_
    refine stq1_26 _ ?_
    refine zC Hq1_26 hx hZ hown hby hw zj (own_q1_20 xc y0 y1 y2 y3 y4 v2 v9 v16 v24 v32 v42 u got xm v262 hv262) _ ?_
    refine zv Hq1_26 hx hZ 7 jj rfl ej hy (g := (mkF m 263 #[oi xc, oi y0, oi y1, oi y2, oi y3, oi y4, oi v2, oi v9, oi v16, oi v24, oi v32, oi v42, oa u, .val (.double got), .second, .val (.long (9223372036854775807 : Int64)), .second, oa xm, ou, ou, ou, ou] [(.int v262), (.ref xm)])) rfl rfl (hb hby at_263) _ ?_
    refine zC Hq1_26 hx hZ hown hby hw zj (own_q1_21 xc y0 y1 y2 y3 y4 v2 v9 v16 v24 v32 v42 u got xm yv v270 hv270 hb271 v282 hv282 v289 hv289 hb290) _ ?_
    exact q
  · skip
    have K := own_kth_ne N_4 He_4 hck
    obtain ⟨Tq0_1, vq0_1_, csq0_1_, qq0_1, Hq0_1, stq0_1⟩ := zAR Hw7 hx hZ hown (zB hw 78 rfl) (zB hw 79 rfl) (zB hw 81 rfl) (zB hw 80 rfl) (zB hw 2 rfl) (zB hw 82 rfl) (by decide) (x := u) 0 rfl (argsL := []) (rest := []) (W := 0) (own_kth0 l Z a0 hb0 hw u xb xl xp nu xt xs fb_4 fl_4 fa_4 ft_4 v42 cc_4 nn_4 fs_4 hck) (by decide) (by decide) (by decide) (by decide) (g := (mkF m 106 #[oi xc, oi y0, oi y1, oi y2, oi y3, oi y4, oi v2, oi v9, oi v16, oi v24, oi v32, oi v42, oa u, ou, ou, ou, ou, ou, ou, ou, ou, ou] [(.ref u)])) rfl (by rw [hml]; rfl) (lenOf own_pd0 rfl) rfl (by show 2 * 0 + _ ≤ _; exact Nat.le_of_eq rfl) (hb hby at_106)
    obtain ⟨rfl, rfl⟩ := qq0_1
    obtain ⟨Tq0_2, xm, Hq0_2, stq0_2⟩ := zBi Hq0_1 hx hZ (zB hw 84 rfl) (g := (mkF m 117 #[oi xc, oi y0, oi y1, oi y2, oi y3, oi y4, oi v2, oi v9, oi v16, oi v24, oi v32, oi v42, oa u, .val (.double 9218868437227405312), .second, .val (.long (9223372036854775807 : Int64)), .second, ou, ou, ou, ou, ou] [(.int 4)])) rfl (hb hby at_117) rfl (by decide) (cap := 4) (by decide) (by decide) (by decide) (by decide)
    change zR _ _ _ _ _ _ _ _ _ _ _ _ _ _ [(u, oc1 (.ref xb) (.ref xl) (.ref xp) (.int v42) (.ref nu) (.int cc_4)), (xb, zA .double (zK fb_4)), (xl, zA .int (zE fl_4)), (xp, zA .int (zE fa_4)), (nu, oc2 (.int 4) (.ref xt) (.ref xs) (.int nn_4) .null (.int 0)), (xt, zA .int (zE ft_4)), (xs, zA .int [.int (fs_4 (0 : Int32)), .int 0, .int 0, .int (fs_4 (2 : Int32)), .int 0, .int 0, .int 0, .int 0, .int 0, .int (fs_4 (1 : Int32)), .int 0, .int 0, .int 0, .int (fs_4 (3 : Int32)), .int 0, .int 0]), (xm, zA .long [.long 0, .long 0, .long 0, .long 0])] _ _ at Hq0_2
    obtain ⟨Tq0_3, Hq0_3, stq0_3⟩ := zAO Hq0_2 hx hZ 7 0 rfl (by decide) (Nat.le_of_ble_eq_true rfl) (g := (mkF m 126 #[oi xc, oi y0, oi y1, oi y2, oi y3, oi y4, oi v2, oi v9, oi v16, oi v24, oi v32, oi v42, oa u, .val (.double 9218868437227405312), .second, .val (.long (9223372036854775807 : Int64)), .second, oa xm, ou, ou, ou, ou] [(.long (9223372036854775807 : Int64)), (.int 0), (.ref xm)])) rfl rfl (hb hby at_126)
    change zR _ _ _ _ _ _ _ _ _ _ _ _ _ _ [(u, oc1 (.ref xb) (.ref xl) (.ref xp) (.int v42) (.ref nu) (.int cc_4)), (xb, zA .double (zK fb_4)), (xl, zA .int (zE fl_4)), (xp, zA .int (zE fa_4)), (nu, oc2 (.int 4) (.ref xt) (.ref xs) (.int nn_4) .null (.int 0)), (xt, zA .int (zE ft_4)), (xs, zA .int [.int (fs_4 (0 : Int32)), .int 0, .int 0, .int (fs_4 (2 : Int32)), .int 0, .int 0, .int 0, .int 0, .int 0, .int (fs_4 (1 : Int32)), .int 0, .int 0, .int 0, .int (fs_4 (3 : Int32)), .int 0, .int 0]), (xm, zA .long [.long (9223372036854775807 : Int64), .long 0, .long 0, .long 0])] _ _ at Hq0_3
    obtain ⟨Tq0_4, Hq0_4, stq0_4⟩ := zAO Hq0_3 hx hZ 7 1 rfl (by decide) (Nat.le_of_ble_eq_true rfl) (g := (mkF m 132 #[oi xc, oi y0, oi y1, oi y2, oi y3, oi y4, oi v2, oi v9, oi v16, oi v24, oi v32, oi v42, oa u, .val (.double 9218868437227405312), .second, .val (.long (9223372036854775807 : Int64)), .second, oa xm, ou, ou, ou, ou] [(.long (9223372036854775807 : Int64)), (.int 1), (.ref xm)])) rfl rfl (hb hby at_132)
    change zR _ _ _ _ _ _ _ _ _ _ _ _ _ _ [(u, oc1 (.ref xb) (.ref xl) (.ref xp) (.int v42) (.ref nu) (.int cc_4)), (xb, zA .double (zK fb_4)), (xl, zA .int (zE fl_4)), (xp, zA .int (zE fa_4)), (nu, oc2 (.int 4) (.ref xt) (.ref xs) (.int nn_4) .null (.int 0)), (xt, zA .int (zE ft_4)), (xs, zA .int [.int (fs_4 (0 : Int32)), .int 0, .int 0, .int (fs_4 (2 : Int32)), .int 0, .int 0, .int 0, .int 0, .int 0, .int (fs_4 (1 : Int32)), .int 0, .int 0, .int 0, .int (fs_4 (3 : Int32)), .int 0, .int 0]), (xm, zA .long [.long (9223372036854775807 : Int64), .long (9223372036854775807 : Int64), .long 0, .long 0])] _ _ at Hq0_4
    obtain ⟨Tq0_5, Hq0_5, stq0_5⟩ := zAO Hq0_4 hx hZ 7 2 rfl (by decide) (Nat.le_of_ble_eq_true rfl) (g := (mkF m 138 #[oi xc, oi y0, oi y1, oi y2, oi y3, oi y4, oi v2, oi v9, oi v16, oi v24, oi v32, oi v42, oa u, .val (.double 9218868437227405312), .second, .val (.long (9223372036854775807 : Int64)), .second, oa xm, ou, ou, ou, ou] [(.long (9223372036854775807 : Int64)), (.int 2), (.ref xm)])) rfl rfl (hb hby at_138)
    change zR _ _ _ _ _ _ _ _ _ _ _ _ _ _ [(u, oc1 (.ref xb) (.ref xl) (.ref xp) (.int v42) (.ref nu) (.int cc_4)), (xb, zA .double (zK fb_4)), (xl, zA .int (zE fl_4)), (xp, zA .int (zE fa_4)), (nu, oc2 (.int 4) (.ref xt) (.ref xs) (.int nn_4) .null (.int 0)), (xt, zA .int (zE ft_4)), (xs, zA .int [.int (fs_4 (0 : Int32)), .int 0, .int 0, .int (fs_4 (2 : Int32)), .int 0, .int 0, .int 0, .int 0, .int 0, .int (fs_4 (1 : Int32)), .int 0, .int 0, .int 0, .int (fs_4 (3 : Int32)), .int 0, .int 0]), (xm, zA .long [.long (9223372036854775807 : Int64), .long (9223372036854775807 : Int64), .long (9223372036854775807 : Int64), .long 0])] _ _ at Hq0_5
    obtain ⟨Tq0_6, Hq0_6, stq0_6⟩ := zAO Hq0_5 hx hZ 7 3 rfl (by decide) (Nat.le_of_ble_eq_true rfl) (g := (mkF m 144 #[oi xc, oi y0, oi y1, oi y2, oi y3, oi y4, oi v2, oi v9, oi v16, oi v24, oi v32, oi v42, oa u, .val (.double 9218868437227405312), .second, .val (.long (9223372036854775807 : Int64)), .second, oa xm, ou, ou, ou, ou] [(.long (9223372036854775807 : Int64)), (.int 3), (.ref xm)])) rfl rfl (hb hby at_144)
    change zR _ _ _ _ _ _ _ _ _ _ _ _ _ _ [(u, oc1 (.ref xb) (.ref xl) (.ref xp) (.int v42) (.ref nu) (.int cc_4)), (xb, zA .double (zK fb_4)), (xl, zA .int (zE fl_4)), (xp, zA .int (zE fa_4)), (nu, oc2 (.int 4) (.ref xt) (.ref xs) (.int nn_4) .null (.int 0)), (xt, zA .int (zE ft_4)), (xs, zA .int [.int (fs_4 (0 : Int32)), .int 0, .int 0, .int (fs_4 (2 : Int32)), .int 0, .int 0, .int 0, .int 0, .int 0, .int (fs_4 (1 : Int32)), .int 0, .int 0, .int 0, .int (fs_4 (3 : Int32)), .int 0, .int 0]), (xm, zA .long [.long (9223372036854775807 : Int64), .long (9223372036854775807 : Int64), .long (9223372036854775807 : Int64), .long (9223372036854775807 : Int64)])] _ _ at Hq0_6
    change zR _ _ _ _ _ _ _ _ _ _ _ _ _ _ [(u, oc1 (.ref xb) (.ref xl) (.ref xp) (.int v42) (.ref nu) (.int cc_4)), (xb, zA .double (zK fb_4)), (xl, zA .int (zE fl_4)), (xp, zA .int (zE fa_4)), (nu, oc2 (.int 4) (.ref xt) (.ref xs) (.int nn_4) .null (.int 0)), (xt, zA .int (zE ft_4)), (xs, zA .int [.int (fs_4 (0 : Int32)), .int 0, .int 0, .int (fs_4 (2 : Int32)), .int 0, .int 0, .int 0, .int 0, .int 0, .int (fs_4 (1 : Int32)), .int 0, .int 0, .int 0, .int (fs_4 (3 : Int32)), .int 0, .int 0]), (xm, zA .long (zAE (fun _ : Int32 => (9223372036854775807 : Int64))))] _ _ at Hq0_6
    have FM : ∀ q : Int32, ((fun _ : Int32 => (9223372036854775807 : Int64)) q).toInt = (fun _ : Int32 => (9223372036854775807 : Int)) q := fun _ => rfl
    obtain ⟨w50, hw50⟩ : ∃ z, (fun _ : Int32 => (9223372036854775807 : Int64)) v2 = z := ⟨_, rfl⟩
    obtain ⟨v155, hv155⟩ : ∃ z : Int64, y0.toInt64 = z := ⟨_, rfl⟩
    obtain ⟨Tq0_8, vq0_8_, csq0_8_, qq0_8, Hq0_8, stq0_8⟩ := zAL Hq0_6 hx hZ hown (zB hw 85 rfl) (zB hw 86 rfl) (zB hw 87 rfl) (zB hw 88 rfl) (by decide) (argsL := [(.long w50), (.long v155)]) (rest := [(.int v2), (.ref xm)]) (W := 2) (zBG l Z a0 hb0 hw w50 v155 _) (by decide) (by decide) (by decide) (by decide) (g := (mkF m 156 #[oi xc, oi y0, oi y1, oi y2, oi y3, oi y4, oi v2, oi v9, oi v16, oi v24, oi v32, oi v42, oa u, .val (.double 9218868437227405312), .second, .val (.long (9223372036854775807 : Int64)), .second, oa xm, ou, ou, ou, ou] [(.long v155), (.long w50), (.int v2), (.ref xm)])) rfl (by rw [hml]; rfl) (lenOf zBC rfl) rfl (by show 2 * 0 + _ ≤ _; exact Nat.le_of_eq rfl) (hb hby at_156)
    obtain ⟨z0, ez0, rfl, rfl⟩ := qq0_8
    obtain ⟨Tq0_9, Hq0_9, stq0_9⟩ := zAz Hq0_8 hx hZ 7 rfl h4_0 (g := (mkF m 159 #[oi xc, oi y0, oi y1, oi y2, oi y3, oi y4, oi v2, oi v9, oi v16, oi v24, oi v32, oi v42, oa u, .val (.double 9218868437227405312), .second, .val (.long (9223372036854775807 : Int64)), .second, oa xm, ou, ou, ou, ou] [(.long z0), (.int v2), (.ref xm)])) rfl rfl (hb hby at_159)
    change zR _ _ _ _ _ _ _ _ _ _ _ _ _ _ [(u, oc1 (.ref xb) (.ref xl) (.ref xp) (.int v42) (.ref nu) (.int cc_4)), (xb, zA .double (zK fb_4)), (xl, zA .int (zE fl_4)), (xp, zA .int (zE fa_4)), (nu, oc2 (.int 4) (.ref xt) (.ref xs) (.int nn_4) .null (.int 0)), (xt, zA .int (zE ft_4)), (xs, zA .int [.int (fs_4 (0 : Int32)), .int 0, .int 0, .int (fs_4 (2 : Int32)), .int 0, .int 0, .int 0, .int 0, .int 0, .int (fs_4 (1 : Int32)), .int 0, .int 0, .int 0, .int (fs_4 (3 : Int32)), .int 0, .int 0]), (xm, zA .long (zAE (zW (fun _ : Int32 => (9223372036854775807 : Int64)) v2 z0)))] _ _ at Hq0_9
    have FM0 : ∀ q : Int32, ((zW (fun _ : Int32 => (9223372036854775807 : Int64)) v2 z0) q).toInt = (zg (fun _ : Int32 => (9223372036854775807 : Int)) v2 y0.toInt) q := zBF FM (by rw [ez0, ← hw50, ← hv155, c_i2l, FM v2])
    obtain ⟨w51, hw51⟩ : ∃ z, (zW (fun _ : Int32 => (9223372036854775807 : Int64)) v2 z0) v9 = z := ⟨_, rfl⟩
    obtain ⟨v170, hv170⟩ : ∃ z : Int64, y1.toInt64 = z := ⟨_, rfl⟩
    obtain ⟨Tq0_11, vq0_11_, csq0_11_, qq0_11, Hq0_11, stq0_11⟩ := zAL Hq0_9 hx hZ hown (zB hw 85 rfl) (zB hw 86 rfl) (zB hw 87 rfl) (zB hw 88 rfl) (by decide) (argsL := [(.long w51), (.long v170)]) (rest := [(.int v9), (.ref xm)]) (W := 2) (zBG l Z a0 hb0 hw w51 v170 _) (by decide) (by decide) (by decide) (by decide) (g := (mkF m 171 #[oi xc, oi y0, oi y1, oi y2, oi y3, oi y4, oi v2, oi v9, oi v16, oi v24, oi v32, oi v42, oa u, .val (.double 9218868437227405312), .second, .val (.long (9223372036854775807 : Int64)), .second, oa xm, ou, ou, ou, ou] [(.long v170), (.long w51), (.int v9), (.ref xm)])) rfl (by rw [hml]; rfl) (lenOf zBC rfl) rfl (by show 2 * 0 + _ ≤ _; exact Nat.le_of_eq rfl) (hb hby at_171)
    obtain ⟨z1, ez1, rfl, rfl⟩ := qq0_11
    obtain ⟨Tq0_12, Hq0_12, stq0_12⟩ := zAz Hq0_11 hx hZ 7 rfl h4_1 (g := (mkF m 174 #[oi xc, oi y0, oi y1, oi y2, oi y3, oi y4, oi v2, oi v9, oi v16, oi v24, oi v32, oi v42, oa u, .val (.double 9218868437227405312), .second, .val (.long (9223372036854775807 : Int64)), .second, oa xm, ou, ou, ou, ou] [(.long z1), (.int v9), (.ref xm)])) rfl rfl (hb hby at_174)
    change zR _ _ _ _ _ _ _ _ _ _ _ _ _ _ [(u, oc1 (.ref xb) (.ref xl) (.ref xp) (.int v42) (.ref nu) (.int cc_4)), (xb, zA .double (zK fb_4)), (xl, zA .int (zE fl_4)), (xp, zA .int (zE fa_4)), (nu, oc2 (.int 4) (.ref xt) (.ref xs) (.int nn_4) .null (.int 0)), (xt, zA .int (zE ft_4)), (xs, zA .int [.int (fs_4 (0 : Int32)), .int 0, .int 0, .int (fs_4 (2 : Int32)), .int 0, .int 0, .int 0, .int 0, .int 0, .int (fs_4 (1 : Int32)), .int 0, .int 0, .int 0, .int (fs_4 (3 : Int32)), .int 0, .int 0]), (xm, zA .long (zAE (zW (zW (fun _ : Int32 => (9223372036854775807 : Int64)) v2 z0) v9 z1)))] _ _ at Hq0_12
    have FM1 : ∀ q : Int32, ((zW (zW (fun _ : Int32 => (9223372036854775807 : Int64)) v2 z0) v9 z1) q).toInt = (zg (zg (fun _ : Int32 => (9223372036854775807 : Int)) v2 y0.toInt) v9 y1.toInt) q := zBF FM0 (by rw [ez1, ← hw51, ← hv170, c_i2l, FM0 v9])
    obtain ⟨w52, hw52⟩ : ∃ z, (zW (zW (fun _ : Int32 => (9223372036854775807 : Int64)) v2 z0) v9 z1) v16 = z := ⟨_, rfl⟩
    obtain ⟨v185, hv185⟩ : ∃ z : Int64, y2.toInt64 = z := ⟨_, rfl⟩
    obtain ⟨Tq0_14, vq0_14_, csq0_14_, qq0_14, Hq0_14, stq0_14⟩ := zAL Hq0_12 hx hZ hown (zB hw 85 rfl) (zB hw 86 rfl) (zB hw 87 rfl) (zB hw 88 rfl) (by decide) (argsL := [(.long w52), (.long v185)]) (rest := [(.int v16), (.ref xm)]) (W := 2) (zBG l Z a0 hb0 hw w52 v185 _) (by decide) (by decide) (by decide) (by decide) (g := (mkF m 186 #[oi xc, oi y0, oi y1, oi y2, oi y3, oi y4, oi v2, oi v9, oi v16, oi v24, oi v32, oi v42, oa u, .val (.double 9218868437227405312), .second, .val (.long (9223372036854775807 : Int64)), .second, oa xm, ou, ou, ou, ou] [(.long v185), (.long w52), (.int v16), (.ref xm)])) rfl (by rw [hml]; rfl) (lenOf zBC rfl) rfl (by show 2 * 0 + _ ≤ _; exact Nat.le_of_eq rfl) (hb hby at_186)
    obtain ⟨z2, ez2, rfl, rfl⟩ := qq0_14
    obtain ⟨Tq0_15, Hq0_15, stq0_15⟩ := zAz Hq0_14 hx hZ 7 rfl h4_2 (g := (mkF m 189 #[oi xc, oi y0, oi y1, oi y2, oi y3, oi y4, oi v2, oi v9, oi v16, oi v24, oi v32, oi v42, oa u, .val (.double 9218868437227405312), .second, .val (.long (9223372036854775807 : Int64)), .second, oa xm, ou, ou, ou, ou] [(.long z2), (.int v16), (.ref xm)])) rfl rfl (hb hby at_189)
    change zR _ _ _ _ _ _ _ _ _ _ _ _ _ _ [(u, oc1 (.ref xb) (.ref xl) (.ref xp) (.int v42) (.ref nu) (.int cc_4)), (xb, zA .double (zK fb_4)), (xl, zA .int (zE fl_4)), (xp, zA .int (zE fa_4)), (nu, oc2 (.int 4) (.ref xt) (.ref xs) (.int nn_4) .null (.int 0)), (xt, zA .int (zE ft_4)), (xs, zA .int [.int (fs_4 (0 : Int32)), .int 0, .int 0, .int (fs_4 (2 : Int32)), .int 0, .int 0, .int 0, .int 0, .int 0, .int (fs_4 (1 : Int32)), .int 0, .int 0, .int 0, .int (fs_4 (3 : Int32)), .int 0, .int 0]), (xm, zA .long (zAE (zW (zW (zW (fun _ : Int32 => (9223372036854775807 : Int64)) v2 z0) v9 z1) v16 z2)))] _ _ at Hq0_15
    have FM2 : ∀ q : Int32, ((zW (zW (zW (fun _ : Int32 => (9223372036854775807 : Int64)) v2 z0) v9 z1) v16 z2) q).toInt = (zg (zg (zg (fun _ : Int32 => (9223372036854775807 : Int)) v2 y0.toInt) v9 y1.toInt) v16 y2.toInt) q := zBF FM1 (by rw [ez2, ← hw52, ← hv185, c_i2l, FM1 v16])
    obtain ⟨w53, hw53⟩ : ∃ z, (zW (zW (zW (fun _ : Int32 => (9223372036854775807 : Int64)) v2 z0) v9 z1) v16 z2) v24 = z := ⟨_, rfl⟩
    obtain ⟨v201, hv201⟩ : ∃ z : Int64, y3.toInt64 = z := ⟨_, rfl⟩
    obtain ⟨Tq0_17, vq0_17_, csq0_17_, qq0_17, Hq0_17, stq0_17⟩ := zAL Hq0_15 hx hZ hown (zB hw 85 rfl) (zB hw 86 rfl) (zB hw 87 rfl) (zB hw 88 rfl) (by decide) (argsL := [(.long w53), (.long v201)]) (rest := [(.int v24), (.ref xm)]) (W := 2) (zBG l Z a0 hb0 hw w53 v201 _) (by decide) (by decide) (by decide) (by decide) (g := (mkF m 202 #[oi xc, oi y0, oi y1, oi y2, oi y3, oi y4, oi v2, oi v9, oi v16, oi v24, oi v32, oi v42, oa u, .val (.double 9218868437227405312), .second, .val (.long (9223372036854775807 : Int64)), .second, oa xm, ou, ou, ou, ou] [(.long v201), (.long w53), (.int v24), (.ref xm)])) rfl (by rw [hml]; rfl) (lenOf zBC rfl) rfl (by show 2 * 0 + _ ≤ _; exact Nat.le_of_eq rfl) (hb hby at_202)
    obtain ⟨z3, ez3, rfl, rfl⟩ := qq0_17
    obtain ⟨Tq0_18, Hq0_18, stq0_18⟩ := zAz Hq0_17 hx hZ 7 rfl h4_3 (g := (mkF m 205 #[oi xc, oi y0, oi y1, oi y2, oi y3, oi y4, oi v2, oi v9, oi v16, oi v24, oi v32, oi v42, oa u, .val (.double 9218868437227405312), .second, .val (.long (9223372036854775807 : Int64)), .second, oa xm, ou, ou, ou, ou] [(.long z3), (.int v24), (.ref xm)])) rfl rfl (hb hby at_205)
    change zR _ _ _ _ _ _ _ _ _ _ _ _ _ _ [(u, oc1 (.ref xb) (.ref xl) (.ref xp) (.int v42) (.ref nu) (.int cc_4)), (xb, zA .double (zK fb_4)), (xl, zA .int (zE fl_4)), (xp, zA .int (zE fa_4)), (nu, oc2 (.int 4) (.ref xt) (.ref xs) (.int nn_4) .null (.int 0)), (xt, zA .int (zE ft_4)), (xs, zA .int [.int (fs_4 (0 : Int32)), .int 0, .int 0, .int (fs_4 (2 : Int32)), .int 0, .int 0, .int 0, .int 0, .int 0, .int (fs_4 (1 : Int32)), .int 0, .int 0, .int 0, .int (fs_4 (3 : Int32)), .int 0, .int 0]), (xm, zA .long (zAE (zW (zW (zW (zW (fun _ : Int32 => (9223372036854775807 : Int64)) v2 z0) v9 z1) v16 z2) v24 z3)))] _ _ at Hq0_18
    have FM3 : ∀ q : Int32, ((zW (zW (zW (zW (fun _ : Int32 => (9223372036854775807 : Int64)) v2 z0) v9 z1) v16 z2) v24 z3) q).toInt = (zg (zg (zg (zg (fun _ : Int32 => (9223372036854775807 : Int)) v2 y0.toInt) v9 y1.toInt) v16 y2.toInt) v24 y3.toInt) q := zBF FM2 (by rw [ez3, ← hw53, ← hv201, c_i2l, FM2 v24])
    obtain ⟨w54, hw54⟩ : ∃ z, (zW (zW (zW (zW (fun _ : Int32 => (9223372036854775807 : Int64)) v2 z0) v9 z1) v16 z2) v24 z3) v32 = z := ⟨_, rfl⟩
    obtain ⟨v217, hv217⟩ : ∃ z : Int64, y4.toInt64 = z := ⟨_, rfl⟩
    obtain ⟨Tq0_20, vq0_20_, csq0_20_, qq0_20, Hq0_20, stq0_20⟩ := zAL Hq0_18 hx hZ hown (zB hw 85 rfl) (zB hw 86 rfl) (zB hw 87 rfl) (zB hw 88 rfl) (by decide) (argsL := [(.long w54), (.long v217)]) (rest := [(.int v32), (.ref xm)]) (W := 2) (zBG l Z a0 hb0 hw w54 v217 _) (by decide) (by decide) (by decide) (by decide) (g := (mkF m 218 #[oi xc, oi y0, oi y1, oi y2, oi y3, oi y4, oi v2, oi v9, oi v16, oi v24, oi v32, oi v42, oa u, .val (.double 9218868437227405312), .second, .val (.long (9223372036854775807 : Int64)), .second, oa xm, ou, ou, ou, ou] [(.long v217), (.long w54), (.int v32), (.ref xm)])) rfl (by rw [hml]; rfl) (lenOf zBC rfl) rfl (by show 2 * 0 + _ ≤ _; exact Nat.le_of_eq rfl) (hb hby at_218)
    obtain ⟨z4, ez4, rfl, rfl⟩ := qq0_20
    obtain ⟨Tq0_21, Hq0_21, stq0_21⟩ := zAz Hq0_20 hx hZ 7 rfl h4_4 (g := (mkF m 221 #[oi xc, oi y0, oi y1, oi y2, oi y3, oi y4, oi v2, oi v9, oi v16, oi v24, oi v32, oi v42, oa u, .val (.double 9218868437227405312), .second, .val (.long (9223372036854775807 : Int64)), .second, oa xm, ou, ou, ou, ou] [(.long z4), (.int v32), (.ref xm)])) rfl rfl (hb hby at_221)
    change zR _ _ _ _ _ _ _ _ _ _ _ _ _ _ [(u, oc1 (.ref xb) (.ref xl) (.ref xp) (.int v42) (.ref nu) (.int cc_4)), (xb, zA .double (zK fb_4)), (xl, zA .int (zE fl_4)), (xp, zA .int (zE fa_4)), (nu, oc2 (.int 4) (.ref xt) (.ref xs) (.int nn_4) .null (.int 0)), (xt, zA .int (zE ft_4)), (xs, zA .int [.int (fs_4 (0 : Int32)), .int 0, .int 0, .int (fs_4 (2 : Int32)), .int 0, .int 0, .int 0, .int 0, .int 0, .int (fs_4 (1 : Int32)), .int 0, .int 0, .int 0, .int (fs_4 (3 : Int32)), .int 0, .int 0]), (xm, zA .long (zAE (zW (zW (zW (zW (zW (fun _ : Int32 => (9223372036854775807 : Int64)) v2 z0) v9 z1) v16 z2) v24 z3) v32 z4)))] _ _ at Hq0_21
    have FM4 : ∀ q : Int32, ((zW (zW (zW (zW (zW (fun _ : Int32 => (9223372036854775807 : Int64)) v2 z0) v9 z1) v16 z2) v24 z3) v32 z4) q).toInt = (zg (zg (zg (zg (zg (fun _ : Int32 => (9223372036854775807 : Int)) v2 y0.toInt) v9 y1.toInt) v16 y2.toInt) v24 y3.toInt) v32 y4.toInt) q := zBF FM3 (by rw [ez4, ← hw54, ← hv217, c_i2l, FM3 v32])
    obtain ⟨FF, hFF⟩ : ∃ z, (zW (zW (zW (zW (zW (fun _ : Int32 => (9223372036854775807 : Int64)) v2 z0) v9 z1) v16 z2) v24 z3) v32 z4) = z := ⟨_, rfl⟩
    rw [hFF] at Hq0_21 FM4
    obtain ⟨m0, hm0⟩ : ∃ z, FF (0 : Int32) = z := ⟨_, rfl⟩
    obtain ⟨m1, hm1⟩ : ∃ z, FF (1 : Int32) = z := ⟨_, rfl⟩
    obtain ⟨m2, hm2⟩ : ∃ z, FF (2 : Int32) = z := ⟨_, rfl⟩
    obtain ⟨m3, hm3⟩ : ∃ z, FF (3 : Int32) = z := ⟨_, rfl⟩
    have eV : zAE FF = [.long m0, .long m1, .long m2, .long m3] := by rw [← hm0, ← hm1, ← hm2, ← hm3]; rfl
    rw [eV] at Hq0_21
    change zR _ _ _ _ _ _ _ _ _ _ _ _ _ _ [(u, oc1 (.ref xb) (.ref xl) (.ref xp) (.int v42) (.ref nu) (.int cc_4)), (xb, zA .double (zK fb_4)), (xl, zA .int (zE fl_4)), (xp, zA .int (zE fa_4)), (nu, oc2 (.int 4) (.ref xt) (.ref xs) (.int nn_4) .null (.int 0)), (xt, zA .int (zE ft_4)), (xs, zA .int [.int (fs_4 (0 : Int32)), .int 0, .int 0, .int (fs_4 (2 : Int32)), .int 0, .int 0, .int 0, .int 0, .int 0, .int (fs_4 (1 : Int32)), .int 0, .int 0, .int 0, .int (fs_4 (3 : Int32)), .int 0, .int 0]), (xm, zA .long [.long m0, .long m1, .long m2, .long m3])] _ _ at Hq0_21
    obtain ⟨Tq0_22, vq0_22_, csq0_22_, qq0_22, Hq0_22, stq0_22⟩ := zAL Hq0_21 hx hZ hown (zB hw 89 rfl) (zB hw 90 rfl) (zB hw 91 rfl) (zB hw 92 rfl) (by decide) (argsL := [(.ref xm), (.int 0), (.int 1)]) (rest := []) (W := 0) (own_cx01 l Z a0 hb0 hw xm u xb xl xp nu xt xs _ _ _ _ _ _ _ m0 m1 m2 m3) (by decide) (by decide) (by decide) (by decide) (g := (mkF m 226 #[oi xc, oi y0, oi y1, oi y2, oi y3, oi y4, oi v2, oi v9, oi v16, oi v24, oi v32, oi v42, oa u, .val (.double 9218868437227405312), .second, .val (.long (9223372036854775807 : Int64)), .second, oa xm, ou, ou, ou, ou] [(.int 1), (.int 0), (.ref xm)])) rfl (by rw [hml]; rfl) (lenOf zBD rfl) rfl (by show 2 * 0 + _ ≤ _; exact Nat.le_of_eq rfl) (hb hby at_226)
    obtain ⟨za0, zb0, hc0, rfl, rfl⟩ := qq0_22
    obtain ⟨Tq0_23, vq0_23_, csq0_23_, qq0_23, Hq0_23, stq0_23⟩ := zAL Hq0_22 hx hZ hown (zB hw 89 rfl) (zB hw 90 rfl) (zB hw 91 rfl) (zB hw 92 rfl) (by decide) (argsL := [(.ref xm), (.int 2), (.int 3)]) (rest := []) (W := 0) (own_cx23 l Z a0 hb0 hw xm u xb xl xp nu xt xs _ _ _ _ _ _ _ za0 zb0 m2 m3) (by decide) (by decide) (by decide) (by decide) (g := (mkF m 233 #[oi xc, oi y0, oi y1, oi y2, oi y3, oi y4, oi v2, oi v9, oi v16, oi v24, oi v32, oi v42, oa u, .val (.double 9218868437227405312), .second, .val (.long (9223372036854775807 : Int64)), .second, oa xm, ou, ou, ou, ou] [(.int 3), (.int 2), (.ref xm)])) rfl (by rw [hml]; rfl) (lenOf zBD rfl) rfl (by show 2 * 0 + _ ≤ _; exact Nat.le_of_eq rfl) (hb hby at_233)
    obtain ⟨za1, zb1, hc1, rfl, rfl⟩ := qq0_23
    obtain ⟨Tq0_24, vq0_24_, csq0_24_, qq0_24, Hq0_24, stq0_24⟩ := zAL Hq0_23 hx hZ hown (zB hw 89 rfl) (zB hw 90 rfl) (zB hw 91 rfl) (zB hw 92 rfl) (by decide) (argsL := [(.ref xm), (.int 0), (.int 2)]) (rest := []) (W := 0) (own_cx02 l Z a0 hb0 hw xm u xb xl xp nu xt xs _ _ _ _ _ _ _ za0 zb0 za1 zb1) (by decide) (by decide) (by decide) (by decide) (g := (mkF m 240 #[oi xc, oi y0, oi y1, oi y2, oi y3, oi y4, oi v2, oi v9, oi v16, oi v24, oi v32, oi v42, oa u, .val (.double 9218868437227405312), .second, .val (.long (9223372036854775807 : Int64)), .second, oa xm, ou, ou, ou, ou] [(.int 2), (.int 0), (.ref xm)])) rfl (by rw [hml]; rfl) (lenOf zBD rfl) rfl (by show 2 * 0 + _ ≤ _; exact Nat.le_of_eq rfl) (hb hby at_240)
    obtain ⟨za2, zb2, hc2, rfl, rfl⟩ := qq0_24
    obtain ⟨Tq0_25, vq0_25_, csq0_25_, qq0_25, Hq0_25, stq0_25⟩ := zAL Hq0_24 hx hZ hown (zB hw 89 rfl) (zB hw 90 rfl) (zB hw 91 rfl) (zB hw 92 rfl) (by decide) (argsL := [(.ref xm), (.int 1), (.int 3)]) (rest := []) (W := 0) (own_cx13 l Z a0 hb0 hw xm u xb xl xp nu xt xs _ _ _ _ _ _ _ za2 zb0 zb2 zb1) (by decide) (by decide) (by decide) (by decide) (g := (mkF m 247 #[oi xc, oi y0, oi y1, oi y2, oi y3, oi y4, oi v2, oi v9, oi v16, oi v24, oi v32, oi v42, oa u, .val (.double 9218868437227405312), .second, .val (.long (9223372036854775807 : Int64)), .second, oa xm, ou, ou, ou, ou] [(.int 3), (.int 1), (.ref xm)])) rfl (by rw [hml]; rfl) (lenOf zBD rfl) rfl (by show 2 * 0 + _ ≤ _; exact Nat.le_of_eq rfl) (hb hby at_247)
    obtain ⟨za3, zb3, hc3, rfl, rfl⟩ := qq0_25
    obtain ⟨Tq0_26, vq0_26_, csq0_26_, qq0_26, Hq0_26, stq0_26⟩ := zAL Hq0_25 hx hZ hown (zB hw 89 rfl) (zB hw 90 rfl) (zB hw 91 rfl) (zB hw 92 rfl) (by decide) (argsL := [(.ref xm), (.int 1), (.int 2)]) (rest := []) (W := 0) (own_cx12 l Z a0 hb0 hw xm u xb xl xp nu xt xs _ _ _ _ _ _ _ za2 za3 zb2 zb3) (by decide) (by decide) (by decide) (by decide) (g := (mkF m 254 #[oi xc, oi y0, oi y1, oi y2, oi y3, oi y4, oi v2, oi v9, oi v16, oi v24, oi v32, oi v42, oa u, .val (.double 9218868437227405312), .second, .val (.long (9223372036854775807 : Int64)), .second, oa xm, ou, ou, ou, ou] [(.int 2), (.int 1), (.ref xm)])) rfl (by rw [hml]; rfl) (lenOf zBD rfl) rfl (by show 2 * 0 + _ ≤ _; exact Nat.le_of_eq rfl) (hb hby at_254)
    obtain ⟨za4, zb4, hc4, rfl, rfl⟩ := qq0_26
    obtain ⟨v262, hv262⟩ : ∃ z : Int32, (v42 - (1 : Int32)) = z := ⟨_, rfl⟩
    obtain ⟨jj, yv, ej, hy, s1, s2, s3, s4⟩ := own_sel4 hk hv262 za2 za4 zb4 zb3
    have net := own_net hc0 hc1 hc2 hc3 hc4
    have hM : ∀ z, zAZ (zg (zg (zg (zg (zg (fun _ : Int32 => (9223372036854775807 : Int)) v2 y0.toInt) v9 y1.toInt) v16 y2.toInt) v24 y3.toInt) v32 y4.toInt) z = (if za2.toInt ≤ z then 1 else 0) + (if za4.toInt ≤ z then 1 else 0) + (if zb4.toInt ≤ z then 1 else 0) + (if zb3.toInt ≤ z then 1 else 0) := by
      intro z
      rw [← net.2 z]
      simp only [zAZ, zAC, ← FM4, hm0, hm1, hm2, hm3]
    obtain ⟨v270, hv270⟩ : ∃ z : Int32, (if yv > (9223372036854775807 : Int64) then (1 : Int32) else if yv = (9223372036854775807 : Int64) then 0 else -1) = z := ⟨_, rfl⟩
    obtain ⟨v289, hv289⟩ : ∃ z : Int32, (cmpValue (FP.dcmp (9218868437227405312 : UInt64) (9218868437227405312 : UInt64)) .l) = z := ⟨_, rfl⟩
    have P2 := (zDm net.1 hM (k := v42.toInt) (z := 9223372036854775806)).2 K
    have ey : yv.toInt = 9223372036854775807 := by
      have b := rng64 yv
      have z : v42.toInt = 1 ∨ v42.toInt = 2 ∨ v42.toInt = 3 ∨ v42.toInt = 4 := by omega
      rcases z with z | z | z | z
      · rw [s1 z] at b ⊢; have := P2.1 z; omega
      · rw [s2 z] at b ⊢; have := P2.2.1 z; omega
      · rw [s3 z] at b ⊢; have := P2.2.2.1 z; omega
      · rw [s4 z] at b ⊢; have := P2.2.2.2 z; omega
    have hb271 : ifCond.holds .ne v270 = false := by rw [← hv270, own_lc_ne, ey]; exact decide_eq_false (not_not_intro rfl)
    have hb290 : ifCond.holds .ne v289 = false := by rw [← hv289]; decide +kernel
    refine ⟨_, _, _, _, 298, #[oi xc, oi y0, oi y1, oi y2, oi y3, oi y4, oi v2, oi v9, oi v16, oi v24, oi v32, oi v42, oa u, .val (.double 9218868437227405312), .second, .val (.long (9223372036854775807 : Int64)), .second, oa xm, .val (.long yv), .second, .val (.double 9218868437227405312), .second], Hq0_26, by decide, by decide, Or.inr ⟨.boolean, (.int 1), [], .ireturn, rfl, rfl, at_298, own_retZ (Or.inr rfl), fun target q => ?_⟩⟩
    refine zC H0 hx hZ hown hby hw zj (own_w0 xc y0 y1 y2 y3 y4 v2 hv2 v7 hv7 v9 hv9 v14 hv14 v16 hv16 v22 hv22 v24 hv24 v30 hv30 v32 hv32 v39 hv39 v41 hv41 v42 hv42) _ ?_
    refine stw1 _ ?_
    refine zC Hw1 hx hZ hown hby hw zj (own_w1 xc y0 y1 y2 y3 y4 v2 v9 v16 v24 v32 v42 u) _ ?_
    refine stw2 _ ?_
    refine zC Hw2 hx hZ hown hby hw zj (own_w2 xc y0 y1 y2 y3 y4 v2 v9 v16 v24 v32 v42 u v62 hv62) _ ?_
    refine stw3 _ ?_
    refine zC Hw3 hx hZ hown hby hw zj (own_w3 xc y0 y1 y2 y3 y4 v2 v9 v16 v24 v32 v42 u v71 hv71) _ ?_
    refine stw4 _ ?_
    refine zC Hw4 hx hZ hown hby hw zj (own_w4 xc y0 y1 y2 y3 y4 v2 v9 v16 v24 v32 v42 u v80 hv80) _ ?_
    refine stw5 _ ?_
    refine zC Hw5 hx hZ hown hby hw zj (own_w5 xc y0 y1 y2 y3 y4 v2 v9 v16 v24 v32 v42 u v90 hv90) _ ?_
    refine stw6 _ ?_
    refine zC Hw6 hx hZ hown hby hw zj (own_w6 xc y0 y1 y2 y3 y4 v2 v9 v16 v24 v32 v42 u v100 hv100) _ ?_
    refine stw7 _ ?_
    refine zC Hw7 hx hZ hown hby hw zj (own_w7 xc y0 y1 y2 y3 y4 v2 v9 v16 v24 v32 v42 u) _ ?_
    refine stq0_1 _ ?_
    refine zC Hq0_1 hx hZ hown hby hw zj (own_q0_0 xc y0 y1 y2 y3 y4 v2 v9 v16 v24 v32 v42 u) _ ?_
    refine stq0_2 _ ?_
    refine zC Hq0_2 hx hZ hown hby hw zj (own_q0_1 xc y0 y1 y2 y3 y4 v2 v9 v16 v24 v32 v42 u xm) _ ?_
    refine stq0_3 _ ?_
    refine zC Hq0_3 hx hZ hown hby hw zj (own_q0_2 xc y0 y1 y2 y3 y4 v2 v9 v16 v24 v32 v42 u xm) _ ?_
    refine stq0_4 _ ?_
    refine zC Hq0_4 hx hZ hown hby hw zj (own_q0_3 xc y0 y1 y2 y3 y4 v2 v9 v16 v24 v32 v42 u xm) _ ?_
    refine stq0_5 _ ?_
    refine zC Hq0_5 hx hZ hown hby hw zj (own_q0_4 xc y0 y1 y2 y3 y4 v2 v9 v16 v24 v32 v42 u xm) _ ?_
    refine stq0_6 _ ?_
    refine zC Hq0_6 hx hZ hown hby hw zj (own_q0_5 xc y0 y1 y2 y3 y4 v2 v9 v16 v24 v32 v42 u xm) _ ?_
    refine zAy Hq0_6 hx hZ 7 rfl h4_0 hw50 (g := (mkF m 153 #[oi xc, oi y0, oi y1, oi y2, oi y3, oi y4, oi v2, oi v9, oi v16, oi v24, oi v32, oi v42, oa u, .val (.double 9218868437227405312), .second, .val (.long (9223372036854775807 : Int64)), .second, oa xm, ou, ou, ou, ou] [(.int v2), (.ref xm), (.int v2), (.ref xm)])) rfl rfl (hb hby at_153) _ ?_
    refine zC Hq0_6 hx hZ hown hby hw zj (own_q0_6 xc y0 y1 y2 y3 y4 v2 v9 v16 v24 v32 v42 u xm w50 v155 hv155) _ ?_
    refine stq0_8 _ ?_
    refine stq0_9 _ ?_
    refine zC Hq0_9 hx hZ hown hby hw zj (own_q0_7 xc y0 y1 y2 y3 y4 v2 v9 v16 v24 v32 v42 u xm) _ ?_
    refine zAy Hq0_9 hx hZ 7 rfl h4_1 hw51 (g := (mkF m 168 #[oi xc, oi y0, oi y1, oi y2, oi y3, oi y4, oi v2, oi v9, oi v16, oi v24, oi v32, oi v42, oa u, .val (.double 9218868437227405312), .second, .val (.long (9223372036854775807 : Int64)), .second, oa xm, ou, ou, ou, ou] [(.int v9), (.ref xm), (.int v9), (.ref xm)])) rfl rfl (hb hby at_168) _ ?_
    refine zC Hq0_9 hx hZ hown hby hw zj (own_q0_8 xc y0 y1 y2 y3 y4 v2 v9 v16 v24 v32 v42 u xm w51 v170 hv170) _ ?_
    refine stq0_11 _ ?_
    refine stq0_12 _ ?_
    refine zC Hq0_12 hx hZ hown hby hw zj (own_q0_9 xc y0 y1 y2 y3 y4 v2 v9 v16 v24 v32 v42 u xm) _ ?_
    refine zAy Hq0_12 hx hZ 7 rfl h4_2 hw52 (g := (mkF m 183 #[oi xc, oi y0, oi y1, oi y2, oi y3, oi y4, oi v2, oi v9, oi v16, oi v24, oi v32, oi v42, oa u, .val (.double 9218868437227405312), .second, .val (.long (9223372036854775807 : Int64)), .second, oa xm, ou, ou, ou, ou] [(.int v16), (.ref xm), (.int v16), (.ref xm)])) rfl rfl (hb hby at_183) _ ?_
    refine zC Hq0_12 hx hZ hown hby hw zj (own_q0_10 xc y0 y1 y2 y3 y4 v2 v9 v16 v24 v32 v42 u xm w52 v185 hv185) _ ?_
    refine stq0_14 _ ?_
    refine stq0_15 _ ?_
    refine zC Hq0_15 hx hZ hown hby hw zj (own_q0_11 xc y0 y1 y2 y3 y4 v2 v9 v16 v24 v32 v42 u xm) _ ?_
    refine zAy Hq0_15 hx hZ 7 rfl h4_3 hw53 (g := (mkF m 198 #[oi xc, oi y0, oi y1, oi y2, oi y3, oi y4, oi v2, oi v9, oi v16, oi v24, oi v32, oi v42, oa u, .val (.double 9218868437227405312), .second, .val (.long (9223372036854775807 : Int64)), .second, oa xm, ou, ou, ou, ou] [(.int v24), (.ref xm), (.int v24), (.ref xm)])) rfl rfl (hb hby at_198) _ ?_
    refine zC Hq0_15 hx hZ hown hby hw zj (own_q0_12 xc y0 y1 y2 y3 y4 v2 v9 v16 v24 v32 v42 u xm w53 v201 hv201) _ ?_
    refine stq0_17 _ ?_
    refine stq0_18 _ ?_
    refine zC Hq0_18 hx hZ hown hby hw zj (own_q0_13 xc y0 y1 y2 y3 y4 v2 v9 v16 v24 v32 v42 u xm) _ ?_
    refine zAy Hq0_18 hx hZ 7 rfl h4_4 hw54 (g := (mkF m 214 #[oi xc, oi y0, oi y1, oi y2, oi y3, oi y4, oi v2, oi v9, oi v16, oi v24, oi v32, oi v42, oa u, .val (.double 9218868437227405312), .second, .val (.long (9223372036854775807 : Int64)), .second, oa xm, ou, ou, ou, ou] [(.int v32), (.ref xm), (.int v32), (.ref xm)])) rfl rfl (hb hby at_214) _ ?_
    refine zC Hq0_18 hx hZ hown hby hw zj (own_q0_14 xc y0 y1 y2 y3 y4 v2 v9 v16 v24 v32 v42 u xm w54 v217 hv217) _ ?_
    refine stq0_20 _ ?_
    refine stq0_21 _ ?_
    refine zC Hq0_21 hx hZ hown hby hw zj (own_q0_15 xc y0 y1 y2 y3 y4 v2 v9 v16 v24 v32 v42 u xm) _ ?_
    refine stq0_22 _ ?_
    refine zC Hq0_22 hx hZ hown hby hw zj (own_q0_16 xc y0 y1 y2 y3 y4 v2 v9 v16 v24 v32 v42 u xm) _ ?_
    refine stq0_23 _ ?_
    refine zC Hq0_23 hx hZ hown hby hw zj (own_q0_17 xc y0 y1 y2 y3 y4 v2 v9 v16 v24 v32 v42 u xm) _ ?_
    refine stq0_24 _ ?_
    refine zC Hq0_24 hx hZ hown hby hw zj (own_q0_18 xc y0 y1 y2 y3 y4 v2 v9 v16 v24 v32 v42 u xm) _ ?_
    refine stq0_25 _ ?_
    refine zC Hq0_25 hx hZ hown hby hw zj (own_q0_19 xc y0 y1 y2 y3 y4 v2 v9 v16 v24 v32 v42 u xm) _ ?_
    refine stq0_26 _ ?_
    refine zC Hq0_26 hx hZ hown hby hw zj (own_q0_20 xc y0 y1 y2 y3 y4 v2 v9 v16 v24 v32 v42 u xm v262 hv262) _ ?_
    refine zv Hq0_26 hx hZ 7 jj rfl ej hy (g := (mkF m 263 #[oi xc, oi y0, oi y1, oi y2, oi y3, oi y4, oi v2, oi v9, oi v16, oi v24, oi v32, oi v42, oa u, .val (.double 9218868437227405312), .second, .val (.long (9223372036854775807 : Int64)), .second, oa xm, ou, ou, ou, ou] [(.int v262), (.ref xm)])) rfl rfl (hb hby at_263) _ ?_
    refine zC Hq0_26 hx hZ hown hby hw zj (own_q0_21 xc y0 y1 y2 y3 y4 v2 v9 v16 v24 v32 v42 u xm yv v270 hv270 hb271 v289 hv289 hb290) _ ?_
    exact q
set_option maxRecDepth 65536 in
set_option maxHeartbeats 40000000 in
theorem own_comes {Post : Tables → Env → Array Value → State → Outcome → State → Prop} (hpost : ∀ tb e args s v u, (limb_1_1.after args s (.returned v) u = true ∧ limb_1_2.after args s (.returned v) u = true ∧ True) → FrameEnd s (.returned v) u (Jvm.fieldLocs frame_1_writes args s ++ Jvm.arrayLocs frame_1_arrays args s ++ Jvm.staticLocs frame_1_statics s) 24 192 → Post tb e args s (.returned v) u) :
    ArmFor flags0 classFile x code maxLocals ret World_1 tables_1 room_1 Calls_1 rest_1 Pre_1 Post := by
  intro l hfl _ _ p e ha hc hk s m args below hf hA hF happ hP
  obtain ⟨hcalls, hrest, hpre⟩ := hP
  obtain ⟨-, -, -, hnamed, -, -, -, hat⟩ := (Spec.applies_iff hf).mp happ
  obtain ⟨hg, hn⟩ := and_e (Cond.before_iff.mp (show (Jvm.Cond.and given_1 narrow_1).before args s = true from hpre))
  obtain ⟨h1, g0⟩ := and_e hg
  obtain ⟨w0, w1, w2, w3, w4, w5, rfl⟩ : ∃ w0 w1 w2 w3 w4 w5 : Value, args = #[w0, w1, w2, w3, w4, w5] := by
    have hs : args.size = 6 := by simpa [Cond.value, given_1] using h1
    obtain ⟨L⟩ := args
    match L, hs with
    | [w0, w1, w2, w3, w4, w5], _ => exact ⟨w0, w1, w2, w3, w4, w5, rfl⟩
  have hw := fun d (hd : d ∈ tables_1) => atoms_spec (ws := Jvm.Cond.code x code maxLocals ret :: tables_1) hat d (List.mem_cons_of_mem _ hd)
  have hfit : Fit s := fun {y c} hc i hi => by
    obtain ⟨ha, rfl⟩ := Array.getElem?_eq_some_iff.mp hc
    have q := List.all_eq_true.mp ((Array.all_eq_true_iff_forall_mem.mp hF) _ (Array.getElem_mem ha)) i (List.mem_range.mpr hi)
    simpa [Array.getElem?_eq_getElem hi] using q
  obtain ⟨f0, g1⟩ := and_e g0
  obtain ⟨i0, e0⟩ := is_v f0
  obtain rfl : w0 = (.int i0) := Option.some.inj e0
  obtain ⟨f1, g2⟩ := and_e g1
  obtain ⟨i1, e1⟩ := is_v f1
  obtain rfl : w1 = (.int i1) := Option.some.inj e1
  obtain ⟨f2, g3⟩ := and_e g2
  obtain ⟨i2, e2⟩ := is_v f2
  obtain rfl : w2 = (.int i2) := Option.some.inj e2
  obtain ⟨f3, g4⟩ := and_e g3
  obtain ⟨i3, e3⟩ := is_v f3
  obtain rfl : w3 = (.int i3) := Option.some.inj e3
  obtain ⟨f4, g5⟩ := and_e g4
  obtain ⟨i4, e4⟩ := is_v f4
  obtain rfl : w4 = (.int i4) := Option.some.inj e4
  obtain ⟨i5, e5⟩ := is_v g5
  obtain rfl : w5 = (.int i5) := Option.some.inj e5
  obtain ⟨n, o, h1, h2, h3, _, L, rfl, ⟨N, cs', rfl, -⟩, hq⟩ := own_law l s _ ⟨s.heap, 0⟩ hw i0 i1 i2 i3 i4 i5  s.heap (own_Hp_start s _ s.heap) p e ha hc hk s m _ below hf ((Spec.applies_iff_loose hf).mp happ).1 ⟨rfl, State.Warmed39.refl s, rfl⟩ trivial
  refine ⟨n, _, h1, h2, h3, hpost _ _ _ _ _ _ ⟨Cond.after_iff.mpr rfl, Cond.after_iff.mpr (eq_i res_at (Term.int_eval (1)) rfl), trivial⟩ ⟨hq.1, hq.2.1, (hq.2.2.sift fun y hy => Or.inr (N y hy)).mono (by decide) (by decide)⟩⟩
theorem main_1_1 : Claimed_1_1 := own_comes fun _ _ _ _ _ _ h hF => ⟨h.1, hF⟩
theorem main_1_2 : Claimed_1_2 := own_comes fun _ _ _ _ _ _ h hF => ⟨h.2.1, hF⟩
end OwnClaim
end Jvm.Pilot.@@N@@
namespace Jvm.Pilot.@@N@@
open Jvm Jvm.ClassFile Sem Op Lib Jvm.Free Jvm.Stand Jvm.Pilot.@@N@@.Jvm.D
namespace start1
open Jvm.ClassFile
def u (s : String) : CpInfo := .utf8 (stringToUtf16 s)
/-- a pool by its gaps: so many unusable entries, then the entry; so many at the end -/
def gap : Nat → List CpInfo → List CpInfo
  | 0, r => r
  | n + 1, r => .unusable :: gap n r
def poolList (es : List (Nat × CpInfo)) (last : Nat) : List CpInfo := es.foldr (fun e r => gap e.1 (e.2 :: r)) (gap last [])
def pool (es : List (Nat × CpInfo)) (last : Nat) : Array CpInfo := ⟨poolList es last⟩
def fileOf (pool : Array CpInfo) (this : Nat) (attrs : Array Attribute := #[]) (ms : Array MethodInfo := #[]) (fl : Nat := 33) (sup : Nat := 0) (ifs : Array Nat := #[]) (fds : Array FieldInfo := #[]) : ClassFile where
  minorVersion := 0
  majorVersion := 65
  constantPool := pool
  accessFlags := fl
  thisClass := this
  superClass := sup
  interfaces := ifs
  fields := fds
  methods := ms
  attributes := attrs
def plain (name : String) (sup : Option ClassId) : Class where
  name := name
  kind := .ordinary
  loader := none
  accessFlags := 33
  super := sup
  interfaces := #[]
  cf := none
  fields := #[]
  methods := #[]
  instanceTypes := #[]
  staticTypes := #[]
  resolved := #[]
  callSites := []
  init := .initialized
  statics := none
  mirror := none

def pool0 : Array CpInfo := pool [(5, u "<init>"), (0, u "()V"), (1, .class_ 10), (1, u "java/lang/Object")] 113

def k0c0 : Code := { maxStack := 0, maxLocals := 1, code := object_method_1_code, exceptionTable := #[], attributes := #[] }
def k0m0 : Method := { name := "<init>", desc := "()V", sig := { parameters := [], returnType := none }, accessFlags := 1, code := some k0c0 }
/-- java/lang/Object -/
def k0 : Class := { plain "java/lang/Object" none with
  accessFlags := 33
  interfaces := #[]
  cf := some (fileOf pool0 8 #[] #[{ accessFlags := 1, nameIndex := 5, descriptorIndex := 6, attributes := #[] }] 33 0 #[] #[])
  fields := #[]
  methods := #[k0m0]
  instanceTypes := #[]
  staticTypes := #[]
  resolved := Array.replicate 124 none
  statics := none }

def pool1 : Array CpInfo := pool [(2, .class_ 4), (1, u "java/lang/Object"), (0, u "<init>"), (0, u "()V"), (0, .class_ 8), (0, u "com/example/tidewise/tidewise/search/UpperBounds"), (0, .methodref 7 10), (0, .nameAndType 5 11), (0, u "(II)V"), (0, .methodref 7 13), (0, .nameAndType 14 15), (0, u "offer"), (0, u "(ID)V"), (0, .methodref 7 17), (0, .nameAndType 18 19), (0, u "kth"), (0, u "()D"), (2, .long 9223372036854775807), (1, .methodref 25 26), (0, .class_ 27), (0, .nameAndType 28 29), (0, u "java/lang/Math"), (0, u "min"), (0, u "(JJ)J"), (0, .methodref 31 32), (0, .class_ 33), (0, .nameAndType 34 35), (0, u "com/example/tidewise/tidewise/search/UpperBoundsKthPinLaw"), (0, u "cx"), (0, u "([JII)V"), (2, .double 9218868437227405312), (4, u "law"), (0, u "(IIIIII)Z")] 4

def k1m0 : Method := { name := "<init>", desc := "()V", sig := { parameters := [], returnType := none }, accessFlags := 1, code := none }
def k1c1 : Code := { maxStack := 4, maxLocals := 5, code := method_2_code, exceptionTable := #[], attributes := #[] }
def k1m1 : Method := { name := "cx", desc := "([JII)V", sig := { parameters := [(.array .long), .int, .int], returnType := none }, accessFlags := 10, code := some k1c1 }
def k1c2 : Code := { maxStack := 6, maxLocals := 22, code := code, exceptionTable := #[], attributes := #[] }
def k1m2 : Method := { name := "law", desc := "(IIIIII)Z", sig := { parameters := [.int, .int, .int, .int, .int, .int], returnType := some .boolean }, accessFlags := 9, code := some k1c2 }
/-- com/example/tidewise/tidewise/search/UpperBoundsKthPinLaw -/
def k1 : Class := { plain "com/example/tidewise/tidewise/search/UpperBoundsKthPinLaw" (some 0) with
  accessFlags := 49
  interfaces := #[]
  cf := some (fileOf pool1 31 #[] #[{ accessFlags := 1, nameIndex := 5, descriptorIndex := 6, attributes := #[] }, { accessFlags := 10, nameIndex := 34, descriptorIndex := 35, attributes := #[] }, { accessFlags := 9, nameIndex := 43, descriptorIndex := 44, attributes := #[] }] 49 2 #[] #[])
  fields := #[]
  methods := #[k1m0, k1m1, k1m2]
  instanceTypes := #[]
  staticTypes := #[]
  resolved := Array.replicate 49 none
  statics := none }

def pool2 : Array CpInfo := pool [(1, .methodref 2 3), (0, .class_ 4), (0, .nameAndType 5 6), (0, u "java/lang/Object"), (0, u "<init>"), (0, u "()V"), (0, .fieldref 8 9), (0, .class_ 10), (0, .nameAndType 11 12), (0, u "com/example/tidewise/tidewise/search/UpperBounds"), (0, u "bound"), (0, u "[D"), (0, .fieldref 8 14), (0, .nameAndType 15 16), (0, u "least"), (0, u "[I"), (0, .fieldref 8 18), (0, .nameAndType 19 16), (0, u "leastAt"), (0, .fieldref 8 21), (0, .nameAndType 22 23), (0, u "k"), (0, u "I"), (0, .class_ 25), (0, u "com/example/tidewise/tidewise/search/Numbering"), (0, .methodref 24 27), (0, .nameAndType 5 28), (0, u "(I)V"), (0, .fieldref 8 30), (0, .nameAndType 31 32), (0, u "offered"), (0, u "Lcom/example/tidewise/tidewise/search/Numbering;"), (0, .methodref 24 34), (0, .nameAndType 35 36), (0, u "count"), (0, u "()I"), (0, .methodref 24 38), (0, .nameAndType 39 40), (0, u "number"), (0, u "(I)I"), (11, .double 9218868437227405312), (1, .methodref 8 55), (0, .nameAndType 56 57), (0, u "siftDown"), (0, u "(II)V"), (0, .fieldref 8 59), (0, .nameAndType 60 23), (0, u "leastCount"), (0, .methodref 8 62), (0, .nameAndType 63 57), (0, u "siftUp"), (0, .methodref 8 65), (0, .nameAndType 66 57), (0, u "put"), (2, u "offer"), (0, u "(ID)V"), (1, u "kth"), (0, u "()D")] 2

def k2c0 : Code := { maxStack := 4, maxLocals := 3, code := prog_150_method_1_code, exceptionTable := #[], attributes := #[] }
def k2m0 : Method := { name := "<init>", desc := "(II)V", sig := { parameters := [.int, .int], returnType := none }, accessFlags := 0, code := some k2c0 }
def k2c1 : Code := { maxStack := 5, maxLocals := 6, code := prog_150_method_2_code, exceptionTable := #[], attributes := #[] }
def k2m1 : Method := { name := "offer", desc := "(ID)V", sig := { parameters := [.int, .double], returnType := none }, accessFlags := 0, code := some k2c1 }
def k2c2 : Code := { maxStack := 3, maxLocals := 1, code := prog_150_method_3_code, exceptionTable := #[], attributes := #[] }
def k2m2 : Method := { name := "kth", desc := "()D", sig := { parameters := [], returnType := some .double }, accessFlags := 0, code := some k2c2 }
def k2c3 : Code := { maxStack := 4, maxLocals := 4, code := prog_150_method_4_code, exceptionTable := #[], attributes := #[] }
def k2m3 : Method := { name := "siftUp", desc := "(II)V", sig := { parameters := [.int, .int], returnType := none }, accessFlags := 2, code := some k2c3 }
def k2c4 : Code := { maxStack := 5, maxLocals := 4, code := prog_150_method_5_code, exceptionTable := #[], attributes := #[] }
def k2m4 : Method := { name := "siftDown", desc := "(II)V", sig := { parameters := [.int, .int], returnType := none }, accessFlags := 2, code := some k2c4 }
def k2c5 : Code := { maxStack := 3, maxLocals := 3, code := prog_150_method_6_code, exceptionTable := #[], attributes := #[] }
def k2m5 : Method := { name := "put", desc := "(II)V", sig := { parameters := [.int, .int], returnType := none }, accessFlags := 2, code := some k2c5 }
/-- com/example/tidewise/tidewise/search/UpperBounds -/
def k2 : Class := { plain "com/example/tidewise/tidewise/search/UpperBounds" (some 0) with
  accessFlags := 48
  interfaces := #[]
  cf := some (fileOf pool2 8 #[] #[{ accessFlags := 0, nameIndex := 5, descriptorIndex := 57, attributes := #[] }, { accessFlags := 0, nameIndex := 69, descriptorIndex := 70, attributes := #[] }, { accessFlags := 0, nameIndex := 72, descriptorIndex := 73, attributes := #[] }, { accessFlags := 2, nameIndex := 63, descriptorIndex := 57, attributes := #[] }, { accessFlags := 2, nameIndex := 56, descriptorIndex := 57, attributes := #[] }, { accessFlags := 2, nameIndex := 66, descriptorIndex := 57, attributes := #[] }] 48 2 #[] #[{ accessFlags := 18, nameIndex := 22, descriptorIndex := 23, attributes := #[] }, { accessFlags := 18, nameIndex := 31, descriptorIndex := 32, attributes := #[] }, { accessFlags := 2, nameIndex := 11, descriptorIndex := 12, attributes := #[] }, { accessFlags := 2, nameIndex := 15, descriptorIndex := 16, attributes := #[] }, { accessFlags := 2, nameIndex := 60, descriptorIndex := 23, attributes := #[] }, { accessFlags := 2, nameIndex := 19, descriptorIndex := 16, attributes := #[] }])
  fields := #[{ name := "k", type := .int, accessFlags := 18, slot := 0, constantValue := 0 }, { name := "offered", type := (.object "com/example/tidewise/tidewise/search/Numbering"), accessFlags := 18, slot := 1, constantValue := 0 }, { name := "bound", type := (.array .double), accessFlags := 2, slot := 2, constantValue := 0 }, { name := "least", type := (.array .int), accessFlags := 2, slot := 3, constantValue := 0 }, { name := "leastCount", type := .int, accessFlags := 2, slot := 4, constantValue := 0 }, { name := "leastAt", type := (.array .int), accessFlags := 2, slot := 5, constantValue := 0 }]
  methods := #[k2m0, k2m1, k2m2, k2m3, k2m4, k2m5]
  instanceTypes := #[.int, (.object "com/example/tidewise/tidewise/search/Numbering"), (.array .double), (.array .int), .int, (.array .int)]
  staticTypes := #[]
  resolved := Array.replicate 76 none
  statics := none }

def pool3 : Array CpInfo := pool [(1, .methodref 2 3), (0, .class_ 4), (0, .nameAndType 5 6), (0, u "java/lang/Object"), (0, u "<init>"), (0, u "()V"), (0, .fieldref 8 9), (0, .class_ 10), (0, .nameAndType 11 12), (0, u "com/example/tidewise/tidewise/search/Numbering"), (0, u "range"), (0, u "I"), (0, .fieldref 8 14), (0, .nameAndType 15 16), (0, u "things"), (0, u "[I"), (0, .fieldref 8 18), (0, .nameAndType 19 16), (0, u "slots"), (1, .class_ 23), (1, u "com/example/tidewise/tidewise/search/Numbering$Table"), (6, .fieldref 8 31), (0, .nameAndType 32 33), (0, u "table"), (0, u "Lcom/example/tidewise/tidewise/search/Numbering$Table;"), (0, .fieldref 8 35), (0, .nameAndType 36 12), (0, u "stamp"), (0, .methodref 8 38), (0, .nameAndType 39 40), (0, u "slot"), (0, u "(I)I"), (0, .fieldref 8 42), (0, .nameAndType 43 12), (0, u "count"), (10, u "()I"), (4, u "(I)V"), (9, .integer 2654435769), (0, .methodref 71 72), (0, .class_ 73), (0, .nameAndType 74 40), (0, u "java/lang/Integer"), (0, u "numberOfLeadingZeros"), (0, u "DIRECT_SHARE"), (6, u "number")] 7

def k3c0 : Code := { maxStack := 2, maxLocals := 2, code := prog_125_method_1_code, exceptionTable := #[], attributes := #[] }
def k3m0 : Method := { name := "<init>", desc := "(I)V", sig := { parameters := [.int], returnType := none }, accessFlags := 0, code := some k3c0 }
def k3c1 : Code := { maxStack := 4, maxLocals := 5, code := prog_125_method_4_code, exceptionTable := #[], attributes := #[] }
def k3m1 : Method := { name := "number", desc := "(I)I", sig := { parameters := [.int], returnType := some .int }, accessFlags := 0, code := some k3c1 }
def k3c2 : Code := { maxStack := 1, maxLocals := 1, code := prog_125_method_5_code, exceptionTable := #[], attributes := #[] }
def k3m2 : Method := { name := "count", desc := "()I", sig := { parameters := [], returnType := some .int }, accessFlags := 0, code := some k3c2 }
def k3c3 : Code := { maxStack := 3, maxLocals := 2, code := prog_125_method_10_code, exceptionTable := #[], attributes := #[] }
def k3m3 : Method := { name := "slot", desc := "(I)I", sig := { parameters := [.int], returnType := some .int }, accessFlags := 2, code := some k3c3 }
/-- com/example/tidewise/tidewise/search/Numbering -/
def k3 : Class := { plain "com/example/tidewise/tidewise/search/Numbering" (some 0) with
  accessFlags := 48
  interfaces := #[]
  cf := some (fileOf pool3 8 #[.nestMembers #[21]] #[{ accessFlags := 0, nameIndex := 5, descriptorIndex := 59, attributes := #[] }, { accessFlags := 0, nameIndex := 82, descriptorIndex := 40, attributes := #[] }, { accessFlags := 0, nameIndex := 43, descriptorIndex := 54, attributes := #[] }, { accessFlags := 2, nameIndex := 39, descriptorIndex := 40, attributes := #[] }] 48 2 #[] #[{ accessFlags := 26, nameIndex := 75, descriptorIndex := 12, attributes := #[] }, { accessFlags := 18, nameIndex := 11, descriptorIndex := 12, attributes := #[] }, { accessFlags := 2, nameIndex := 15, descriptorIndex := 16, attributes := #[] }, { accessFlags := 2, nameIndex := 19, descriptorIndex := 16, attributes := #[] }, { accessFlags := 2, nameIndex := 32, descriptorIndex := 33, attributes := #[] }, { accessFlags := 2, nameIndex := 36, descriptorIndex := 12, attributes := #[] }, { accessFlags := 2, nameIndex := 43, descriptorIndex := 12, attributes := #[] }])
  fields := #[{ name := "DIRECT_SHARE", type := .int, accessFlags := 26, slot := 0, constantValue := 0 }, { name := "range", type := .int, accessFlags := 18, slot := 0, constantValue := 0 }, { name := "things", type := (.array .int), accessFlags := 2, slot := 1, constantValue := 0 }, { name := "slots", type := (.array .int), accessFlags := 2, slot := 2, constantValue := 0 }, { name := "table", type := (.object "com/example/tidewise/tidewise/search/Numbering$Table"), accessFlags := 2, slot := 3, constantValue := 0 }, { name := "stamp", type := .int, accessFlags := 2, slot := 4, constantValue := 0 }, { name := "count", type := .int, accessFlags := 2, slot := 5, constantValue := 0 }]
  methods := #[k3m0, k3m1, k3m2, k3m3]
  instanceTypes := #[.int, (.array .int), (.array .int), (.object "com/example/tidewise/tidewise/search/Numbering$Table"), .int, .int]
  staticTypes := #[.int]
  resolved := Array.replicate 90 none
  statics := none }

def pool4 : Array CpInfo := pool [(1, .class_ 2), (0, u "java/io/Serializable"), (0, .class_ 4), (0, u "java/lang/Object")] 2

/-- java/io/Serializable -/
def k4 : Class := { plain "java/io/Serializable" (some 0) with
  accessFlags := 1537
  interfaces := #[]
  cf := some (fileOf pool4 1 #[] #[] 1537 3 #[] #[])
  fields := #[]
  methods := #[]
  instanceTypes := #[]
  staticTypes := #[]
  resolved := Array.replicate 7 none
  statics := none }

def pool5 : Array CpInfo := pool [(2, .class_ 4), (1, u "java/lang/Object"), (0, u "<init>"), (0, u "()V"), (1, .class_ 10), (1, u "java/lang/Number"), (2, .class_ 14), (0, u "java/io/Serializable"), (0, u "serialVersionUID"), (0, u "J")] 20

def k5m0 : Method := { name := "<init>", desc := "()V", sig := { parameters := [], returnType := none }, accessFlags := 1, code := none }
/-- java/lang/Number -/
def k5 : Class := { plain "java/lang/Number" (some 0) with
  accessFlags := 1057
  interfaces := #[4]
  cf := some (fileOf pool5 8 #[] #[{ accessFlags := 1, nameIndex := 5, descriptorIndex := 6, attributes := #[] }] 1057 2 #[13] #[{ accessFlags := 26, nameIndex := 15, descriptorIndex := 16, attributes := #[] }])
  fields := #[{ name := "serialVersionUID", type := .long, accessFlags := 26, slot := 0, constantValue := 0 }]
  methods := #[k5m0]
  instanceTypes := #[]
  staticTypes := #[.long]
  resolved := Array.replicate 37 none
  statics := none }

def pool6 : Array CpInfo := pool [(1, .class_ 2), (0, u "java/lang/Comparable"), (0, .class_ 4), (0, u "java/lang/Object")] 7

/-- java/lang/Comparable -/
def k6 : Class := { plain "java/lang/Comparable" (some 0) with
  accessFlags := 1537
  interfaces := #[]
  cf := some (fileOf pool6 1 #[] #[] 1537 3 #[] #[])
  fields := #[]
  methods := #[]
  instanceTypes := #[]
  staticTypes := #[]
  resolved := Array.replicate 12 none
  statics := none }

def pool7 : Array CpInfo := pool [(1, .class_ 2), (0, u "java/lang/constant/Constable"), (0, .class_ 4), (0, u "java/lang/Object")] 6

/-- java/lang/constant/Constable -/
def k7 : Class := { plain "java/lang/constant/Constable" (some 0) with
  accessFlags := 1537
  interfaces := #[]
  cf := some (fileOf pool7 1 #[] #[] 1537 3 #[] #[])
  fields := #[]
  methods := #[]
  instanceTypes := #[]
  staticTypes := #[]
  resolved := Array.replicate 11 none
  statics := none }

def pool8 : Array CpInfo := pool [(1, .class_ 2), (0, u "java/lang/constant/ConstantDesc"), (0, .class_ 4), (0, u "java/lang/Object")] 32

/-- java/lang/constant/ConstantDesc -/
def k8 : Class := { plain "java/lang/constant/ConstantDesc" (some 0) with
  accessFlags := 1537
  interfaces := #[]
  cf := some (fileOf pool8 1 #[] #[] 1537 3 #[] #[])
  fields := #[]
  methods := #[]
  instanceTypes := #[]
  staticTypes := #[]
  resolved := Array.replicate 37 none
  statics := none }

def pool9 : Array CpInfo := pool [(1, .class_ 2), (0, u "java/lang/Integer"), (16, u "digits"), (0, u "[C"), (32, u "numberOfLeadingZeros"), (0, u "(I)I"), (30, u "DigitOnes"), (0, u "[B"), (2, u "DigitTens"), (99, .class_ 190), (0, u "java/lang/Integer$IntegerCache"), (3, u "I"), (8, .class_ 204), (0, u "java/lang/Number"), (2, u "value"), (56, .integer 65536), (37, u "TYPE"), (0, u "Ljava/lang/Class;"), (0, .class_ 305), (0, u "java/lang/Comparable"), (0, .class_ 307), (0, u "java/lang/constant/Constable"), (0, .class_ 309), (0, u "java/lang/constant/ConstantDesc"), (0, u "MIN_VALUE"), (1, u "MAX_VALUE"), (3, u "SIZE"), (1, u "BYTES"), (1, u "serialVersionUID"), (0, u "J")] 131

def k9c0 : Code := { maxStack := 3, maxLocals := 2, code := jdk_33_method_47_code, exceptionTable := #[], attributes := #[] }
def k9m0 : Method := { name := "numberOfLeadingZeros", desc := "(I)I", sig := { parameters := [.int], returnType := some .int }, accessFlags := 9, code := some k9c0 }
/-- java/lang/Integer -/
def k9 : Class := { plain "java/lang/Integer" (some 5) with
  accessFlags := 49
  interfaces := #[6, 7, 8]
  cf := some (fileOf pool9 1 #[.nestMembers #[189]] #[{ accessFlags := 9, nameIndex := 53, descriptorIndex := 54, attributes := #[] }] 49 203 #[304, 306, 308] #[{ accessFlags := 25, nameIndex := 310, descriptorIndex := 194, attributes := #[] }, { accessFlags := 25, nameIndex := 312, descriptorIndex := 194, attributes := #[] }, { accessFlags := 25, nameIndex := 302, descriptorIndex := 303, attributes := #[] }, { accessFlags := 24, nameIndex := 19, descriptorIndex := 20, attributes := #[] }, { accessFlags := 24, nameIndex := 89, descriptorIndex := 86, attributes := #[] }, { accessFlags := 24, nameIndex := 85, descriptorIndex := 86, attributes := #[] }, { accessFlags := 18, nameIndex := 207, descriptorIndex := 194, attributes := #[] }, { accessFlags := 25, nameIndex := 316, descriptorIndex := 194, attributes := #[] }, { accessFlags := 25, nameIndex := 318, descriptorIndex := 194, attributes := #[] }, { accessFlags := 26, nameIndex := 320, descriptorIndex := 321, attributes := #[] }])
  fields := #[{ name := "MIN_VALUE", type := .int, accessFlags := 25, slot := 0, constantValue := 0 }, { name := "MAX_VALUE", type := .int, accessFlags := 25, slot := 1, constantValue := 0 }, { name := "TYPE", type := (.object "java/lang/Class"), accessFlags := 25, slot := 2, constantValue := 0 }, { name := "digits", type := (.array .char), accessFlags := 24, slot := 3, constantValue := 0 }, { name := "DigitTens", type := (.array .byte), accessFlags := 24, slot := 4, constantValue := 0 }, { name := "DigitOnes", type := (.array .byte), accessFlags := 24, slot := 5, constantValue := 0 }, { name := "value", type := .int, accessFlags := 18, slot := 0, constantValue := 0 }, { name := "SIZE", type := .int, accessFlags := 25, slot := 6, constantValue := 0 }, { name := "BYTES", type := .int, accessFlags := 25, slot := 7, constantValue := 0 }, { name := "serialVersionUID", type := .long, accessFlags := 26, slot := 8, constantValue := 0 }]
  methods := #[k9m0]
  instanceTypes := #[.int]
  staticTypes := #[.int, .int, (.object "java/lang/Class"), (.array .char), (.array .byte), (.array .byte), .int, .int, .long]
  resolved := Array.replicate 453 none
  statics := none }

def pool10 : Array CpInfo := pool [(1, .class_ 2), (0, u "java/lang/Math"), (1, .class_ 6), (1, u "java/lang/Object"), (0, u "<init>"), (0, u "()V"), (89, .class_ 100), (1, u "java/lang/Math$RandomNumberGeneratorHolder"), (20, u "(JJ)J"), (50, u "negativeZeroFloatBits"), (0, u "J"), (2, u "negativeZeroDoubleBits"), (24, u "min"), (43, u "$assertionsDisabled"), (0, u "Z"), (91, u "twoToTheDoubleScaleDown"), (0, u "D"), (4, u "twoToTheDoubleScaleUp"), (9, u "E"), (3, u "PI"), (2, u "TAU"), (2, u "DEGREES_TO_RADIANS"), (0, u "RADIANS_TO_DEGREES")] 94

def k10m0 : Method := { name := "<init>", desc := "()V", sig := { parameters := [], returnType := none }, accessFlags := 2, code := none }
def k10c1 : Code := { maxStack := 4, maxLocals := 4, code := jdk_29_method_70_code, exceptionTable := #[], attributes := #[] }
def k10m1 : Method := { name := "min", desc := "(JJ)J", sig := { parameters := [.long, .long], returnType := some .long }, accessFlags := 9, code := some k10c1 }
/-- java/lang/Math -/
def k10 : Class := { plain "java/lang/Math" (some 0) with
  accessFlags := 49
  interfaces := #[]
  cf := some (fileOf pool10 1 #[.nestMembers #[98]] #[{ accessFlags := 2, nameIndex := 7, descriptorIndex := 8, attributes := #[] }, { accessFlags := 9, nameIndex := 201, descriptorIndex := 121, attributes := #[] }] 49 4 #[] #[{ accessFlags := 25, nameIndex := 354, descriptorIndex := 339, attributes := #[] }, { accessFlags := 25, nameIndex := 358, descriptorIndex := 339, attributes := #[] }, { accessFlags := 25, nameIndex := 361, descriptorIndex := 339, attributes := #[] }, { accessFlags := 26, nameIndex := 364, descriptorIndex := 339, attributes := #[] }, { accessFlags := 26, nameIndex := 365, descriptorIndex := 339, attributes := #[] }, { accessFlags := 26, nameIndex := 172, descriptorIndex := 173, attributes := #[] }, { accessFlags := 26, nameIndex := 176, descriptorIndex := 173, attributes := #[] }, { accessFlags := 8, nameIndex := 344, descriptorIndex := 339, attributes := #[] }, { accessFlags := 8, nameIndex := 338, descriptorIndex := 339, attributes := #[] }, { accessFlags := 4120, nameIndex := 245, descriptorIndex := 246, attributes := #[] }])
  fields := #[{ name := "E", type := .double, accessFlags := 25, slot := 0, constantValue := 0 }, { name := "PI", type := .double, accessFlags := 25, slot := 1, constantValue := 0 }, { name := "TAU", type := .double, accessFlags := 25, slot := 2, constantValue := 0 }, { name := "DEGREES_TO_RADIANS", type := .double, accessFlags := 26, slot := 3, constantValue := 0 }, { name := "RADIANS_TO_DEGREES", type := .double, accessFlags := 26, slot := 4, constantValue := 0 }, { name := "negativeZeroFloatBits", type := .long, accessFlags := 26, slot := 5, constantValue := 0 }, { name := "negativeZeroDoubleBits", type := .long, accessFlags := 26, slot := 6, constantValue := 0 }, { name := "twoToTheDoubleScaleUp", type := .double, accessFlags := 8, slot := 7, constantValue := 0 }, { name := "twoToTheDoubleScaleDown", type := .double, accessFlags := 8, slot := 8, constantValue := 0 }, { name := "$assertionsDisabled", type := .boolean, accessFlags := 4120, slot := 9, constantValue := 0 }]
  methods := #[k10m0, k10m1]
  instanceTypes := #[]
  staticTypes := #[.double, .double, .double, .double, .double, .long, .long, .double, .double, .boolean]
  resolved := Array.replicate 460 none
  statics := none }

def pool11 : Array CpInfo := pool [(1, u "java/lang/Cloneable"), (0, .class_ 1), (0, u "java/lang/Object"), (0, .class_ 3)] 3

/-- java/lang/Cloneable -/
def k11 : Class := { plain "java/lang/Cloneable" (some 0) with
  accessFlags := 1537
  interfaces := #[]
  cf := some (fileOf pool11 2 #[] #[] 1537 4 #[] #[])
  fields := #[]
  methods := #[]
  instanceTypes := #[]
  staticTypes := #[]
  resolved := Array.replicate 8 none
  statics := none }

/-- the primitive byte -/
def k12 : Class := { plain "byte" none with kind := .primitive 'B', accessFlags := 0x411 }
/-- [B -/
def k13 : Class := { plain "[B" (some 0) with kind := .array 12 .byte, interfaces := #[11, 4], accessFlags := 1041 }

/-- the primitive double -/
def k14 : Class := { plain "double" none with kind := .primitive 'D', accessFlags := 0x411 }
/-- [D -/
def k15 : Class := { plain "[D" (some 0) with kind := .array 14 .double, interfaces := #[11, 4], accessFlags := 1041 }

/-- the primitive int -/
def k16 : Class := { plain "int" none with kind := .primitive 'I', accessFlags := 0x411 }
/-- [I -/
def k17 : Class := { plain "[I" (some 0) with kind := .array 16 .int, interfaces := #[11, 4], accessFlags := 1041 }

/-- the primitive long -/
def k18 : Class := { plain "long" none with kind := .primitive 'J', accessFlags := 0x411 }
/-- [J -/
def k19 : Class := { plain "[J" (some 0) with kind := .array 18 .long, interfaces := #[11, 4], accessFlags := 1041 }

def heap : Heap := #[]
def classes : Array Class := #[k0, k1, k2, k3, k4, k5, k6, k7, k8, k9, k10, k11, k12, k13, k14, k15, k16, k17, k18, k19]
def interned : List (Array UInt16 × Addr) := []
def slotsUsed : Nat := 0
def theMethod : MethodId := ⟨1, 2⟩
def args0 : Array Value := #[.int 5, .int 7, .int 9, .int 11, .int 13, .int 15]
def aboutOver (below : List Frame) : State where
  vm := { classes := classes, interned := interned.toArray }
  heap := heap
  slotsUsed := slotsUsed
  threads := #[{ frames := .invoking theMethod args0 :: below }]
def below0 : List Frame := [.native { method := ⟨0, 0⟩, args := #[] }]
def about1 : State := aboutOver below0
def p0 : Program := .bare "" "" ""
def e0 : Env := launch0.env 0 0 0
theorem w_frames : about1.frames = Frame.invoking theMethod args0 :: below0 := rfl
set_option maxRecDepth 65536 in
theorem w_args : argsFit about1.vm theMethod args0 = true := by decide +kernel
set_option maxRecDepth 65536 in
theorem w_heap : heapFits about1 = true := by decide +kernel
set_option maxRecDepth 65536 in
theorem w_runnable : about1.curStatus? = some .runnable := by decide +kernel
set_option maxRecDepth 65536 in
theorem w_alone : about1.alone = true := by decide +kernel
set_option maxRecDepth 65536 in
theorem w_named : about1.methodNamed? x = some theMethod := by decide +kernel
set_option maxRecDepth 65536 in
theorem w_hears : about1.hears theMethod below0 = true := by decide +kernel
set_option maxRecDepth 65536 in
theorem w_ripe : about1.ripe theMethod args0 below0 = true := by decide +kernel
theorem w_running : about1.status = .running := rfl
set_option maxRecDepth 65536 in
theorem w_room : about1.hasRoom e0.platform room_1 = true :=
  launch0.hasRoom_least _ room_1 (by decide +kernel) (by decide +kernel) (by decide +kernel) (by decide +kernel) (by decide +kernel) (by decide +kernel)
theorem allAtoms_all (ts : List Jvm.Cond) (a : Array Jvm.Value) (st : Jvm.State) : (allAtoms ts).before a st = ts.all (fun c => c.before a st) := by
  induction ts with
  | nil => rfl
  | cons c t ih =>
    show (Jvm.Cond.and c (allAtoms t)).before a st = _
    rw [Jvm.Cond.before_and, ih, List.all_cons]
def words1 : List Jvm.Cond := Jvm.Cond.code x code maxLocals ret :: tables_1
/-- a 'code' word, met by the world's own term for the bytes: nothing is compared byte by byte -/
theorem code_word {y : MethodName} {bytes : ByteArray} {mx : Nat} {rt : Option FieldType} {a : Array Value} {s : State} {m : MethodId} {meth : Method} {c : Code} (h1 : s.methodNamed? y = some m) (h2 : s.vm.method? m = some meth) (h3 : meth.code = some c) (h4 : c.code = bytes)
    (h5 : (c.maxLocals == mx && c.exceptionTable.isEmpty && decide (c.maxStack ≤ mostOperands) && decide (meth.sig.returnType = rt) && !meth.locks && decide (parseMethodDescriptor y.desc = some meth.sig)) = true) : (Jvm.Cond.code y bytes mx rt).before a s = true := by
  simp only [Bool.and_eq_true, beq_iff_eq, Bool.not_eq_true', decide_eq_true_eq] at h5
  obtain ⟨⟨⟨⟨⟨g1, g2⟩, g3⟩, g4⟩, g5⟩, g6⟩ := h5
  simp [Cond.before, Cond.holds, Cond.value, h1, h2, h3, h4, g1, g2, g3, g4, g5, g6]
def isCode : Jvm.Cond → Bool
  | .code _ _ _ _ => true
  | _ => false
theorem all_split {L : List Jvm.Cond} {P : Jvm.Cond → Bool} (h1 : L.all (fun c => isCode c || P c) = true) (h2 : ∀ c ∈ L.filter isCode, P c = true) : L.all P = true := by
  refine List.all_eq_true.mpr fun c hc => ?_
  have h := List.all_eq_true.mp h1 c hc
  rcases Bool.eq_false_or_eq_true (isCode c) with hi | hi
  · exact h2 c (List.mem_filter.mpr ⟨hc, hi⟩)
  · simpa [hi] using h
set_option maxRecDepth 65536 in
theorem w_c0 : (Jvm.Cond.code x code maxLocals ret).before args0 about1 = true := code_word (m := ⟨1, 2⟩) (meth := k1m2) (c := k1c2) (by decide +kernel) rfl rfl rfl (by decide +kernel)
set_option maxRecDepth 65536 in
theorem w_c1 : (Jvm.Cond.code ({ cls := "com/example/tidewise/tidewise/search/UpperBounds", name := "<init>", desc := "(II)V" } : Jvm.MethodName) prog_150_method_1_code (3 : Nat) (Option.none : Option Jvm.ClassFile.FieldType)).before args0 about1 = true := code_word (m := ⟨2, 0⟩) (meth := k2m0) (c := k2c0) (by decide +kernel) rfl rfl rfl (by decide +kernel)
set_option maxRecDepth 65536 in
theorem w_c2 : (Jvm.Cond.code ({ cls := "java/lang/Object", name := "<init>", desc := "()V" } : Jvm.MethodName) object_method_1_code (1 : Nat) (Option.none : Option Jvm.ClassFile.FieldType)).before args0 about1 = true := code_word (m := ⟨0, 0⟩) (meth := k0m0) (c := k0c0) (by decide +kernel) rfl rfl rfl (by decide +kernel)
set_option maxRecDepth 65536 in
theorem w_c3 : (Jvm.Cond.code ({ cls := "com/example/tidewise/tidewise/search/Numbering", name := "<init>", desc := "(I)V" } : Jvm.MethodName) prog_125_method_1_code (2 : Nat) (Option.none : Option Jvm.ClassFile.FieldType)).before args0 about1 = true := code_word (m := ⟨3, 0⟩) (meth := k3m0) (c := k3c0) (by decide +kernel) rfl rfl rfl (by decide +kernel)
set_option maxRecDepth 65536 in
theorem w_c4 : (Jvm.Cond.code ({ cls := "com/example/tidewise/tidewise/search/UpperBounds", name := "offer", desc := "(ID)V" } : Jvm.MethodName) prog_150_method_2_code (6 : Nat) (Option.none : Option Jvm.ClassFile.FieldType)).before args0 about1 = true := code_word (m := ⟨2, 1⟩) (meth := k2m1) (c := k2c1) (by decide +kernel) rfl rfl rfl (by decide +kernel)
set_option maxRecDepth 65536 in
theorem w_c5 : (Jvm.Cond.code ({ cls := "com/example/tidewise/tidewise/search/Numbering", name := "count", desc := "()I" } : Jvm.MethodName) prog_125_method_5_code (1 : Nat) (Option.some Jvm.ClassFile.FieldType.int)).before args0 about1 = true := code_word (m := ⟨3, 2⟩) (meth := k3m2) (c := k3c2) (by decide +kernel) rfl rfl rfl (by decide +kernel)
set_option maxRecDepth 65536 in
theorem w_c6 : (Jvm.Cond.code ({ cls := "com/example/tidewise/tidewise/search/Numbering", name := "number", desc := "(I)I" } : Jvm.MethodName) prog_125_method_4_code (5 : Nat) (Option.some Jvm.ClassFile.FieldType.int)).before args0 about1 = true := code_word (m := ⟨3, 1⟩) (meth := k3m1) (c := k3c1) (by decide +kernel) rfl rfl rfl (by decide +kernel)
set_option maxRecDepth 65536 in
theorem w_c7 : (Jvm.Cond.code ({ cls := "com/example/tidewise/tidewise/search/Numbering", name := "slot", desc := "(I)I" } : Jvm.MethodName) prog_125_method_10_code (2 : Nat) (Option.some Jvm.ClassFile.FieldType.int)).before args0 about1 = true := code_word (m := ⟨3, 3⟩) (meth := k3m3) (c := k3c3) (by decide +kernel) rfl rfl rfl (by decide +kernel)
set_option maxRecDepth 65536 in
theorem w_c8 : (Jvm.Cond.code ({ cls := "java/lang/Integer", name := "numberOfLeadingZeros", desc := "(I)I" } : Jvm.MethodName) jdk_33_method_47_code (2 : Nat) (Option.some Jvm.ClassFile.FieldType.int)).before args0 about1 = true := code_word (m := ⟨9, 0⟩) (meth := k9m0) (c := k9c0) (by decide +kernel) rfl rfl rfl (by decide +kernel)
set_option maxRecDepth 65536 in
theorem w_c9 : (Jvm.Cond.code ({ cls := "com/example/tidewise/tidewise/search/UpperBounds", name := "siftUp", desc := "(II)V" } : Jvm.MethodName) prog_150_method_4_code (4 : Nat) (Option.none : Option Jvm.ClassFile.FieldType)).before args0 about1 = true := code_word (m := ⟨2, 3⟩) (meth := k2m3) (c := k2c3) (by decide +kernel) rfl rfl rfl (by decide +kernel)
set_option maxRecDepth 65536 in
theorem w_c10 : (Jvm.Cond.code ({ cls := "com/example/tidewise/tidewise/search/UpperBounds", name := "put", desc := "(II)V" } : Jvm.MethodName) prog_150_method_6_code (3 : Nat) (Option.none : Option Jvm.ClassFile.FieldType)).before args0 about1 = true := code_word (m := ⟨2, 5⟩) (meth := k2m5) (c := k2c5) (by decide +kernel) rfl rfl rfl (by decide +kernel)
set_option maxRecDepth 65536 in
theorem w_c11 : (Jvm.Cond.code ({ cls := "com/example/tidewise/tidewise/search/UpperBounds", name := "siftDown", desc := "(II)V" } : Jvm.MethodName) prog_150_method_5_code (4 : Nat) (Option.none : Option Jvm.ClassFile.FieldType)).before args0 about1 = true := code_word (m := ⟨2, 4⟩) (meth := k2m4) (c := k2c4) (by decide +kernel) rfl rfl rfl (by decide +kernel)
set_option maxRecDepth 65536 in
theorem w_c12 : (Jvm.Cond.code ({ cls := "com/example/tidewise/tidewise/search/UpperBounds", name := "kth", desc := "()D" } : Jvm.MethodName) prog_150_method_3_code (1 : Nat) (Option.some Jvm.ClassFile.FieldType.double)).before args0 about1 = true := code_word (m := ⟨2, 2⟩) (meth := k2m2) (c := k2c2) (by decide +kernel) rfl rfl rfl (by decide +kernel)
set_option maxRecDepth 65536 in
theorem w_c13 : (Jvm.Cond.code ({ cls := "java/lang/Math", name := "min", desc := "(JJ)J" } : Jvm.MethodName) jdk_29_method_70_code (4 : Nat) (Option.some Jvm.ClassFile.FieldType.long)).before args0 about1 = true := code_word (m := ⟨10, 1⟩) (meth := k10m1) (c := k10c1) (by decide +kernel) rfl rfl rfl (by decide +kernel)
set_option maxRecDepth 65536 in
theorem w_c14 : (Jvm.Cond.code ({ cls := "com/example/tidewise/tidewise/search/UpperBoundsKthPinLaw", name := "cx", desc := "([JII)V" } : Jvm.MethodName) method_2_code (5 : Nat) (Option.none : Option Jvm.ClassFile.FieldType)).before args0 about1 = true := code_word (m := ⟨1, 1⟩) (meth := k1m1) (c := k1c1) (by decide +kernel) rfl rfl rfl (by decide +kernel)
def codes1 : List Jvm.Cond := [Jvm.Cond.code x code maxLocals ret, Jvm.Cond.code ({ cls := "com/example/tidewise/tidewise/search/UpperBounds", name := "<init>", desc := "(II)V" } : Jvm.MethodName) prog_150_method_1_code (3 : Nat) (Option.none : Option Jvm.ClassFile.FieldType), Jvm.Cond.code ({ cls := "java/lang/Object", name := "<init>", desc := "()V" } : Jvm.MethodName) object_method_1_code (1 : Nat) (Option.none : Option Jvm.ClassFile.FieldType), Jvm.Cond.code ({ cls := "com/example/tidewise/tidewise/search/Numbering", name := "<init>", desc := "(I)V" } : Jvm.MethodName) prog_125_method_1_code (2 : Nat) (Option.none : Option Jvm.ClassFile.FieldType), Jvm.Cond.code ({ cls := "com/example/tidewise/tidewise/search/UpperBounds", name := "offer", desc := "(ID)V" } : Jvm.MethodName) prog_150_method_2_code (6 : Nat) (Option.none : Option Jvm.ClassFile.FieldType), Jvm.Cond.code ({ cls := "com/example/tidewise/tidewise/search/Numbering", name := "count", desc := "()I" } : Jvm.MethodName) prog_125_method_5_code (1 : Nat) (Option.some Jvm.ClassFile.FieldType.int), Jvm.Cond.code ({ cls := "com/example/tidewise/tidewise/search/Numbering", name := "number", desc := "(I)I" } : Jvm.MethodName) prog_125_method_4_code (5 : Nat) (Option.some Jvm.ClassFile.FieldType.int), Jvm.Cond.code ({ cls := "com/example/tidewise/tidewise/search/Numbering", name := "slot", desc := "(I)I" } : Jvm.MethodName) prog_125_method_10_code (2 : Nat) (Option.some Jvm.ClassFile.FieldType.int), Jvm.Cond.code ({ cls := "java/lang/Integer", name := "numberOfLeadingZeros", desc := "(I)I" } : Jvm.MethodName) jdk_33_method_47_code (2 : Nat) (Option.some Jvm.ClassFile.FieldType.int), Jvm.Cond.code ({ cls := "com/example/tidewise/tidewise/search/UpperBounds", name := "siftUp", desc := "(II)V" } : Jvm.MethodName) prog_150_method_4_code (4 : Nat) (Option.none : Option Jvm.ClassFile.FieldType), Jvm.Cond.code ({ cls := "com/example/tidewise/tidewise/search/UpperBounds", name := "put", desc := "(II)V" } : Jvm.MethodName) prog_150_method_6_code (3 : Nat) (Option.none : Option Jvm.ClassFile.FieldType), Jvm.Cond.code ({ cls := "com/example/tidewise/tidewise/search/UpperBounds", name := "siftDown", desc := "(II)V" } : Jvm.MethodName) prog_150_method_5_code (4 : Nat) (Option.none : Option Jvm.ClassFile.FieldType), Jvm.Cond.code ({ cls := "com/example/tidewise/tidewise/search/UpperBounds", name := "kth", desc := "()D" } : Jvm.MethodName) prog_150_method_3_code (1 : Nat) (Option.some Jvm.ClassFile.FieldType.double), Jvm.Cond.code ({ cls := "java/lang/Math", name := "min", desc := "(JJ)J" } : Jvm.MethodName) jdk_29_method_70_code (4 : Nat) (Option.some Jvm.ClassFile.FieldType.long), Jvm.Cond.code ({ cls := "com/example/tidewise/tidewise/search/UpperBoundsKthPinLaw", name := "cx", desc := "([JII)V" } : Jvm.MethodName) method_2_code (5 : Nat) (Option.none : Option Jvm.ClassFile.FieldType)]
set_option maxRecDepth 65536 in
theorem codes_eq : words1.filter isCode = codes1 := rfl
theorem w_codes : ∀ c ∈ words1.filter isCode, c.before args0 about1 = true := by
  rw [codes_eq]
  intro c hc
  simp only [codes1, List.mem_cons, List.not_mem_nil, or_false] at hc
  rcases hc with rfl | rfl | rfl | rfl | rfl | rfl | rfl | rfl | rfl | rfl | rfl | rfl | rfl | rfl | rfl
  · exact w_c0
  · exact w_c1
  · exact w_c2
  · exact w_c3
  · exact w_c4
  · exact w_c5
  · exact w_c6
  · exact w_c7
  · exact w_c8
  · exact w_c9
  · exact w_c10
  · exact w_c11
  · exact w_c12
  · exact w_c13
  · exact w_c14
set_option maxRecDepth 65536 in
theorem w_t1 : (words1.take 24).all (fun c => isCode c || c.before args0 about1) = true := by decide +kernel
set_option maxRecDepth 65536 in
theorem w_t2 : ((words1.drop 24).take 24).all (fun c => isCode c || c.before args0 about1) = true := by decide +kernel
set_option maxRecDepth 65536 in
theorem w_t3 : (((words1.drop 24).drop 24).take 24).all (fun c => isCode c || c.before args0 about1) = true := by decide +kernel
set_option maxRecDepth 65536 in
theorem w_t4 : ((((words1.drop 24).drop 24).drop 24).take 24).all (fun c => isCode c || c.before args0 about1) = true := by decide +kernel
set_option maxRecDepth 65536 in
theorem w_t5 : ((((words1.drop 24).drop 24).drop 24).drop 24).all (fun c => isCode c || c.before args0 about1) = true := by decide +kernel
theorem w_tables : (allAtoms (Jvm.Cond.code x code maxLocals ret :: tables_1)).before args0 about1 = true := by
  rw [allAtoms_all]
  show words1.all (fun c => c.before args0 about1) = true
  refine all_split ?_ w_codes
  rw [← List.take_append_drop 24 words1, List.all_append, w_t1, ← List.take_append_drop 24 (words1.drop 24), List.all_append, w_t2, ← List.take_append_drop 24 ((words1.drop 24).drop 24), List.all_append, w_t3, ← List.take_append_drop 24 (((words1.drop 24).drop 24).drop 24), List.all_append, w_t4, w_t5]
  rfl
set_option maxRecDepth 65536 in
theorem w_case : (Jvm.Cond.and given_1 narrow_1).before args0 about1 = true := by decide +kernel
theorem w_applies : (headSpec (Jvm.Cond.code x code maxLocals ret :: tables_1) room_1).applies x e0.platform about1 = true :=
  (Spec.applies_iff w_frames).mpr ⟨w_running, w_runnable, w_alone, w_named, w_hears, w_ripe, w_room, w_tables⟩
theorem atStart : AtStart classFile x code maxLocals ret World_1 tables_1 room_1 Calls_1 rest_1 Pre_1 launch0 p0 e0 about1 theMethod args0 below0 :=
  ⟨lists_1, trivial, launch0.admits_env _ _ _, launch0.least_env, fairChoices_fair.cas, fairChoices_fair.clock, w_frames, w_args, w_heap, w_applies, trivial, trivial, w_case⟩
end start1
theorem witness_1 : WitnessClaimed_1 := ⟨start1.p0, start1.e0, start1.about1, start1.theMethod, start1.args0, start1.below0, start1.atStart⟩
end Jvm.Pilot.@@N@@
