import JvmDerived
import JvmDerived.Pilot.@@N@@Statement
import JvmDerived.Pilot.@@N@@Code
set_option linter.unusedVariables false
set_option linter.unusedSimpArgs false
namespace Jvm.Pilot.@@N@@
section OwnNum
open Jvm.FP.Core Jvm.Free.Fl
theorem zBS : (1 : Rat)⁻¹ = 1 := Rat.inv_eq_of_mul_eq_one (Rat.mul_one 1)
theorem zAT (q : Int) : (0 : Rat) < (2 : Rat) ^ q := Rat.zpow_pos (by decide)
theorem zAg (q : Int) : (2 : Rat) ^ q ≠ 0 := Rat.ne_of_gt (zAT q)
theorem zAV (a b : Int) : (2 : Rat) ^ (a + b) = 2 ^ a * 2 ^ b := Rat.zpow_add (by decide) a b
theorem own_p_nat (n : Nat) : ((2 ^ n : Nat) : Rat) = (2 : Rat) ^ (n : Int) := by rw [Rat.natCast_pow]; rfl
theorem zAh {a : Int} (h : 0 ≤ a) : ((2 ^ a.toNat : Nat) : Rat) = (2 : Rat) ^ a := by rw [own_p_nat, Int.toNat_of_nonneg h]
theorem own_p_neg (a : Int) : (2 : Rat) ^ a * 2 ^ (-a) = 1 := by rw [← zAV, Int.add_right_neg]; rfl
def zp (x : UInt64) (r : Rat) : Prop := ∃ s c q, val64 x = .fin s c q ∧ r = ((signed s c : Int) : Rat) * (2 : Rat) ^ q
def zAO (x : UInt64) (r : Rat) : Prop := ∃ s A B e, 0 < B ∧ val64 x = roundRatio b64 s A B e ∧ r = ((signed s A : Int) : Rat) / ((B : Nat) : Rat) * (2 : Rat) ^ e
theorem zBT (s : Bool) (c k : Nat) : ((signed s (c * k) : Int) : Rat) = ((signed s c : Int) : Rat) * ((k : Nat) : Rat) := by
  rw [signed_mul, Rat.intCast_mul]; rfl
theorem zAk {s : Bool} {c : Nat} {q : Int} (h : FP.Core.fits b64 (.fin s c q)) : ((zmag b64 (.fin s c q) : Nat) : Rat) = (c : Rat) * 2 ^ q * 2 ^ (1074 : Int) := by
  have h1 : b64.qmin ≤ q := h.2.1
  rw [qmin_b64] at h1
  show ((c * 2 ^ (q - b64.qmin).toNat : Nat) : Rat) = _
  rw [Rat.natCast_mul, zAh (by rw [qmin_b64]; omega), qmin_b64, show q - (-1074) = q + 1074 by omega, zAV, Rat.mul_assoc]
theorem zAP {x : UInt64} {r : Rat} (h : zp x r) : ((zval b64 (val64 x) : Int) : Rat) = r * 2 ^ (1074 : Int) := by
  obtain ⟨s, c, q, h1, rfl⟩ := h
  have hf := val64_fits x
  rw [h1] at hf ⊢
  have h2 := zAk hf
  show ((signed s (zmag b64 (.fin s c q)) : Int) : Rat) = _
  cases s
  · show ((zmag b64 (.fin false c q) : Nat) : Rat) = ((c : Nat) : Rat) * _ * _
    rw [h2]
  · show ((-(zmag b64 (.fin true c q) : Int) : Int) : Rat) = ((-(c : Int) : Int) : Rat) * _ * _
    rw [Rat.intCast_neg, Rat.intCast_neg, Rat.neg_mul, Rat.neg_mul]
    exact congrArg _ h2
theorem zAl {x : UInt64} {r : Rat} (h : zp x r) : val64 x ≠ .nan := by
  obtain ⟨s, c, q, h1, -⟩ := h; rw [h1]; exact Datum.noConfusion
theorem own_lt_of {a b : Rat} (h : a < b) (q : Int) : a * 2 ^ q < b * 2 ^ q := Rat.mul_lt_mul_of_pos_right h (zAT q)
theorem zAm {x y : UInt64} {a b : Rat} (hx : zp x a) (hy : zp y b) : FP.dcmp x y = some .lt ↔ a < b := by
  rw [show FP.dcmp x y = FP.Core.dcmp x y from rfl, dcmp_lt]
  constructor
  · rintro ⟨-, -, h⟩
    have h2 := Rat.intCast_lt_intCast.mpr h
    rw [zAP hx, zAP hy] at h2
    exact Rat.lt_of_mul_lt_mul_right h2 (Rat.le_of_lt (zAT _))
  · intro h
    refine ⟨zAl hx, zAl hy, Rat.intCast_lt_intCast.mp ?_⟩
    rw [zAP hx, zAP hy]
    exact own_lt_of h _
theorem own_is_gt {x y : UInt64} {a b : Rat} (hx : zp x a) (hy : zp y b) : FP.dcmp x y = some .gt ↔ b < a := by
  rw [← zAm hy hx, show FP.dcmp x y = FP.Core.dcmp x y from rfl, show FP.dcmp y x = FP.Core.dcmp y x from rfl, dcmp_gt, dcmp_lt]
  exact ⟨fun ⟨h1, h2, h⟩ => ⟨h2, h1, h⟩, fun ⟨h1, h2, h⟩ => ⟨h2, h1, h⟩⟩
theorem own_is_eq {x y : UInt64} {a b : Rat} (hx : zp x a) (hy : zp y b) : FP.dcmp x y = some .eq ↔ a = b := by
  rw [show FP.dcmp x y = FP.Core.dcmp x y from rfl, dcmp_eq]
  constructor
  · rintro ⟨-, -, h⟩
    have h2 : ((zval b64 (val64 x) : Int) : Rat) = ((zval b64 (val64 y) : Int) : Rat) := by rw [h]
    rw [zAP hx, zAP hy] at h2
    have h3 := zAg 1074
    calc a = a * 2 ^ (1074 : Int) / 2 ^ (1074 : Int) := (Rat.mul_div_cancel h3).symm
      _ = b * 2 ^ (1074 : Int) / 2 ^ (1074 : Int) := by rw [h2]
      _ = b := Rat.mul_div_cancel h3
  · rintro rfl
    exact ⟨zAl hx, zAl hy, Rat.intCast_inj.mp (by rw [zAP hx, zAP hy])⟩
theorem own_signed_zero {s : Bool} {A : Nat} : ((signed s A : Int) : Rat) = 0 ↔ A = 0 := by
  rw [Rat.intCast_eq_zero_iff, signed_eq_zero]
theorem zBU {s : Bool} {A B : Nat} {e : Int} (hB : 0 < B) : ((signed s A : Int) : Rat) / ((B : Nat) : Rat) * (2 : Rat) ^ e = 0 ↔ A = 0 := by
  have hb : ((B : Nat) : Rat) ≠ 0 := by rw [Ne, Rat.natCast_eq_zero_iff]; omega
  constructor
  · intro h
    rcases Rat.mul_eq_zero.mp h with h | h
    · rw [Rat.div_def] at h
      rcases Rat.mul_eq_zero.mp h with h | h
      · exact own_signed_zero.mp h
      · exact absurd (by rw [← Rat.inv_inv ((B : Nat) : Rat), h, Rat.inv_zero]) hb
    · exact absurd h (zAg e)
  · rintro rfl
    rw [own_signed_zero.mpr rfl, Rat.div_def, Rat.zero_mul, Rat.zero_mul]
end OwnNum
section OwnNum2
open Jvm.FP.Core Jvm.Free.Fl
theorem zAn {B : Nat} (h : 0 < B) : (0 : Rat) < ((B : Nat) : Rat) := Rat.natCast_pos.mpr h
theorem zAo {B : Nat} (h : 0 < B) : ((B : Nat) : Rat) ≠ 0 := Rat.ne_of_gt (zAn h)
theorem own_cross {a b a' b' P P' : Rat} (hb : b ≠ 0) (hb' : b' ≠ 0) (h : a / b * P = a' / b' * P') : a * b' * P = a' * b * P' := by
  have h1 : a = a / b * b := (Rat.div_mul_cancel hb).symm
  have h2 : a' = a' / b' * b' := (Rat.div_mul_cancel hb').symm
  generalize a / b = u at *
  generalize a' / b' = w at *
  subst h1 h2
  grind
theorem own_cancel {a b P : Rat} (hP : P ≠ 0) (h : a * P = b * P) : a = b := by
  rw [← Rat.mul_div_cancel (a := a) hP, h, Rat.mul_div_cancel hP]
theorem own_sig_eq {s s' : Bool} {X Y : Nat} (hX : 0 < X) (h : signed s X = signed s' Y) : s = s' ∧ X = Y := by
  cases s <;> cases s' <;> simp only [signed, Bool.false_eq_true, if_true, if_false] at h <;> first | exact ⟨rfl, by omega⟩ | omega
theorem own_ratio_le {s s' : Bool} {A B A' B' : Nat} {e e' : Int} (hB : 0 < B) (hB' : 0 < B') (hA : 0 < A) (hle : e' ≤ e)
    (h : ((signed s A : Int) : Rat) / ((B : Nat) : Rat) * (2 : Rat) ^ e = ((signed s' A' : Int) : Rat) / ((B' : Nat) : Rat) * (2 : Rat) ^ e') :
    s = s' ∧ A * B' * 2 ^ (e - e').toNat = A' * B := by
  have h1 := own_cross (zAo hB) (zAo hB') h
  have h2 : (2 : Rat) ^ e = 2 ^ (e - e') * 2 ^ e' := by rw [← zAV]; congr 1; omega
  rw [h2, ← Rat.mul_assoc] at h1
  have h3 := own_cancel (zAg e') h1
  rw [← zAh (by omega), ← zBT, ← zBT, ← zBT, Rat.intCast_inj] at h3
  exact own_sig_eq (Nat.mul_pos (Nat.mul_pos hA hB') (Nat.two_pow_pos _)) h3
theorem own_ratio_eq {s s' : Bool} {A B A' B' : Nat} {e e' : Int} (hB : 0 < B) (hB' : 0 < B') (hA : 0 < A)
    (h : ((signed s A : Int) : Rat) / ((B : Nat) : Rat) * (2 : Rat) ^ e = ((signed s' A' : Int) : Rat) / ((B' : Nat) : Rat) * (2 : Rat) ^ e') :
    s = s' ∧ roundRatio b64 s A B e = roundRatio b64 s' A' B' e' := by
  have hA' : 0 < A' := by
    rcases Nat.eq_zero_or_pos A' with h0 | h0
    · rw [(zBU hB').mpr h0, zBU hB] at h; omega
    · exact h0
  rcases Int.le_total e' e with hle | hle
  · obtain ⟨rfl, h1⟩ := own_ratio_le hB hB' hA hle h
    refine ⟨rfl, roundRatio_congr hB hB' ?_⟩
    rw [h1, show (e' - e).toNat = 0 by omega]; simp
  · obtain ⟨rfl, h1⟩ := own_ratio_le hB' hB hA' hle h.symm
    refine ⟨rfl, (roundRatio_congr hB' hB ?_).symm⟩
    rw [h1, show (e - e').toNat = 0 by omega]; simp
theorem own_rd_exact {x : UInt64} {r : Rat} (h : zAO x r) {m : Int} {k : Int} (hr : r = (m : Rat) * (2 : Rat) ^ k) (hm : m.natAbs < 2 ^ 53) (hk : -1074 ≤ k) (hk2 : k ≤ 971) : zp x r := by
  obtain ⟨s, A, B, e, hB, hv, hr0⟩ := h
  have hcan : ∀ (t : Bool), ((signed t m.natAbs : Int) : Rat) * (2 : Rat) ^ k = r → roundRatio b64 s A B e = round b64 (.fin t m.natAbs k) → zp x r := by
    intro t ht hq
    obtain ⟨c', q', h1, h2⟩ := round_exact good_b64 t (c := m.natAbs) (q := k) hm (by rw [qmin_b64]; exact hk) (by exact hk2)
    have hx : val64 x = .fin t c' q' := by rw [hv, hq, h1]
    refine ⟨t, c', q', hx, ?_⟩
    have hf := val64_fits x
    rw [hx] at hf
    have z1 := zAk hf
    have z2 : ((inUnits c' q' b64.qmin : Nat) : Rat) = ((m.natAbs : Nat) : Rat) * 2 ^ k * 2 ^ (1074 : Int) := by
      rw [h2]; unfold inUnits
      rw [Rat.natCast_mul, zAh (by rw [qmin_b64]; omega), qmin_b64, show k - (-1074) = k + 1074 by omega, zAV, Rat.mul_assoc]
    have z3 : (c' : Rat) * 2 ^ q' = ((m.natAbs : Nat) : Rat) * 2 ^ k := own_cancel (zAg 1074) (z1.symm.trans z2)
    rw [← ht]
    cases t
    · exact z3.symm
    · show ((-(m.natAbs : Int) : Int) : Rat) * _ = ((-(c' : Int) : Int) : Rat) * _
      rw [Rat.intCast_neg, Rat.intCast_neg, Rat.neg_mul, Rat.neg_mul]
      exact congrArg _ z3.symm
  rcases Nat.eq_zero_or_pos A with hA | hA
  · have h0 : r = 0 := by rw [hr0]; exact (zBU hB).mpr hA
    have hm0 : m = 0 := by
      rw [h0] at hr
      rcases Rat.mul_eq_zero.mp hr.symm with h1 | h1
      · exact Rat.intCast_eq_zero_iff.mp h1
      · exact absurd h1 (zAg k)
    subst hm0 hA
    refine hcan s ?_ ?_
    · rw [h0]; cases s <;> simp [signed]
    · show Datum.fin s 0 b64.qmin = Datum.fin s 0 b64.qmin
      rfl
  · have h1 : ((signed s A : Int) : Rat) / ((B : Nat) : Rat) * (2 : Rat) ^ e = ((signed (decide (m < 0)) m.natAbs : Int) : Rat) / (((1 : Nat) : Nat) : Rat) * (2 : Rat) ^ k := by
      rw [← hr0, hr, show (((1 : Nat) : Rat)) = 1 from rfl, Rat.div_def, zBS, Rat.mul_one]
      congr 2
      unfold signed
      by_cases hmn : m < 0 <;> simp [hmn] <;> omega
    obtain ⟨-, h2⟩ := own_ratio_eq hB (by decide) hA h1
    refine hcan (decide (m < 0)) ?_ h2
    rw [hr]
    congr 2
    unfold signed
    by_cases hmn : m < 0 <;> simp [hmn] <;> omega
theorem own_neg {x : UInt64} {a : Rat} (hx : zp x a) : zp (FP.dneg x) (-a) := by
  obtain ⟨s, c, q, h1, rfl⟩ := hx
  refine ⟨!s, c, q, (FP.val64_dneg x).trans (by rw [h1]; rfl), ?_⟩
  rw [signed_not, Rat.intCast_neg, Rat.neg_mul]
theorem own_rdL (a : Int64) : zAO (FP.l2d a) ((a.toInt : Int) : Rat) := by
  refine ⟨decide (a.toInt < 0), a.toInt.natAbs, 1, 0, by decide, val64_l2d a, ?_⟩
  rw [show (((1 : Nat) : Rat)) = 1 from rfl, Rat.div_def, zBS, Rat.mul_one, Rat.zpow_zero, Rat.mul_one]
  congr 1
  unfold signed
  by_cases hmn : a.toInt < 0 <;> simp [hmn] <;> omega
theorem zI (a : Int32) : zp (FP.i2d a) ((a.toInt : Int) : Rat) := by
  have h : FP.i2d a = FP.l2d a.toInt64 := i2d_l2d a
  have h2 := own_rdL a.toInt64
  rw [Int32.toInt_toInt64] at h2
  rw [h]
  refine own_rd_exact h2 (m := a.toInt) (k := 0) (by rw [Rat.zpow_zero, Rat.mul_one]) ?_ (by decide) (by decide)
  have := a.le_toInt; have := a.toInt_lt; omega
end OwnNum2
section OwnNum3
open Jvm.FP.Core Jvm.Free.Fl
theorem own_units {A B : Nat} {e : Int} {c : Nat} {q : Int} {s : Bool} (hf : FP.Core.fits b64 (.fin s c q)) (e0 : Int) (h0 : e0 ≤ b64.qmin) (h0e : e0 ≤ e) :
    (((inUnits A e e0 : Nat) : Rat) = (A : Rat) * 2 ^ e * 2 ^ (-e0)) ∧ (((zmag b64 (.fin s c q) * 2 ^ (b64.qmin - e0).toNat * B : Nat) : Rat) = ((c : Rat) * 2 ^ q) * (B : Rat) * 2 ^ (-e0)) := by
  constructor
  · unfold inUnits
    rw [Rat.natCast_mul, zAh (by omega), show e - e0 = e + -e0 by omega, zAV, Rat.mul_assoc]
  · rw [Rat.natCast_mul, Rat.natCast_mul, zAk hf, zAh (by omega), show b64.qmin - e0 = -1074 + -e0 by rw [qmin_b64]; omega, zAV]
    have := own_p_neg 1074
    grind
theorem own_le_div {a b w : Rat} (hb : 0 < b) : w ≤ a / b ↔ w * b ≤ a := by
  have h1 : a = a / b * b := (Rat.div_mul_cancel (Rat.ne_of_gt hb)).symm
  constructor
  · intro h; rw [h1]; exact Rat.mul_le_mul_of_nonneg_right h (Rat.le_of_lt hb)
  · intro h; rw [h1] at h; exact Rat.le_of_mul_le_mul_right h hb
theorem own_mag_le {A B : Nat} {e : Int} {s t : Bool} {c : Nat} {q : Int} (hB : 0 < B) (hf : FP.Core.fits b64 (.fin t c q)) (h : (A : Rat) / (B : Rat) * 2 ^ e ≤ (c : Rat) * 2 ^ q) : zmag b64 (roundRatio b64 s A B e) ≤ zmag b64 (.fin t c q) := by
  obtain ⟨u1, u2⟩ := own_units (A := A) (B := B) (e := e) hf (min e b64.qmin) (by omega) (by omega)
  refine zmag_roundRatio_le good_b64 hB hf Datum.noConfusion (e0 := min e b64.qmin) (by omega) (by omega) (Rat.natCast_le_natCast.mp ?_)
  rw [u1, u2]
  refine Rat.mul_le_mul_of_nonneg_right ?_ (Rat.le_of_lt (zAT _))
  have hb := zAn hB
  have h2 := Rat.mul_le_mul_of_nonneg_right h (Rat.le_of_lt hb)
  have h3 : (A : Rat) / (B : Rat) * 2 ^ e * (B : Rat) = (A : Rat) * 2 ^ e := by
    rw [Rat.mul_assoc, Rat.mul_comm ((2 : Rat) ^ e), ← Rat.mul_assoc, Rat.div_mul_cancel (zAo hB)]
  rw [h3] at h2
  exact h2
theorem own_mag_ge {A B : Nat} {e : Int} {s t : Bool} {c : Nat} {q : Int} (hB : 0 < B) (hf : FP.Core.fits b64 (.fin t c q)) (h : (c : Rat) * 2 ^ q ≤ (A : Rat) / (B : Rat) * 2 ^ e) : zmag b64 (.fin t c q) ≤ zmag b64 (roundRatio b64 s A B e) := by
  obtain ⟨u1, u2⟩ := own_units (A := A) (B := B) (e := e) hf (min e b64.qmin) (by omega) (by omega)
  refine zmag_roundRatio_ge good_b64 hB hf (e0 := min e b64.qmin) (by omega) (by omega) (Rat.natCast_le_natCast.mp ?_)
  rw [u1, u2]
  refine Rat.mul_le_mul_of_nonneg_right ?_ (Rat.le_of_lt (zAT _))
  have hb := zAn hB
  have h2 := Rat.mul_le_mul_of_nonneg_right h (Rat.le_of_lt hb)
  have h3 : (A : Rat) / (B : Rat) * 2 ^ e * (B : Rat) = (A : Rat) * 2 ^ e := by
    rw [Rat.mul_assoc, Rat.mul_comm ((2 : Rat) ^ e), ← Rat.mul_assoc, Rat.div_mul_cancel (zAo hB)]
  rw [h3] at h2
  exact h2
theorem own_signed_ratio (s : Bool) (A B : Nat) (e : Int) : ((signed s A : Int) : Rat) / ((B : Nat) : Rat) * (2 : Rat) ^ e = if s then -((A : Rat) / (B : Rat) * 2 ^ e) else (A : Rat) / (B : Rat) * 2 ^ e := by
  cases s
  · rfl
  · show ((-(A : Int) : Int) : Rat) / _ * _ = _
    rw [Rat.intCast_neg, Rat.div_def, Rat.neg_mul, Rat.neg_mul]; rfl
theorem own_signed_pow (s : Bool) (c : Nat) (q : Int) : ((signed s c : Int) : Rat) * (2 : Rat) ^ q = if s then -((c : Rat) * 2 ^ q) else (c : Rat) * 2 ^ q := by
  cases s
  · rfl
  · show ((-(c : Int) : Int) : Rat) * _ = _
    rw [Rat.intCast_neg, Rat.neg_mul]; rfl
theorem own_ratio_nonneg (A B : Nat) (e : Int) : 0 ≤ (A : Rat) / (B : Rat) * 2 ^ e := by
  refine Rat.mul_nonneg ?_ (Rat.le_of_lt (zAT e))
  rcases Nat.eq_zero_or_pos B with rfl | hB
  · rw [Rat.div_def]; exact Rat.mul_nonneg Rat.natCast_nonneg (by rw [show ((0 : Nat) : Rat) = 0 from rfl, Rat.inv_zero]; exact Rat.le_refl)
  · rw [own_le_div (zAn hB), Rat.zero_mul]; exact Rat.natCast_nonneg
theorem own_rd_le {x V : UInt64} {r y : Rat} (h : zAO x r) (hV : zp V y) (hle : r ≤ y) : zval b64 (val64 x) ≤ zval b64 (val64 V) := by
  obtain ⟨s, A, B, e, hB, hv, hr⟩ := h
  obtain ⟨t, c, q, hVv, hy⟩ := hV
  have hf := val64_fits V
  rw [hVv] at hf
  rw [hv, hVv]
  have m1 := own_mag_le (A := A) (e := e) (s := s) hB hf
  have m2 := own_mag_ge (A := A) (e := e) (s := s) hB hf
  unfold zval
  rw [sgn_roundRatio]
  show _ ≤ signed t (zmag b64 (.fin t c q))
  rw [own_signed_ratio] at hr
  rw [own_signed_pow] at hy
  have p1 := own_ratio_nonneg A B e
  have p2 : 0 ≤ (c : Rat) * 2 ^ q := Rat.mul_nonneg Rat.natCast_nonneg (Rat.le_of_lt (zAT q))
  have hz : (c : Rat) * 2 ^ q ≤ 0 → zmag b64 (.fin t c q) = 0 := by
    intro h0
    have h1 : (c : Rat) * 2 ^ q = 0 := Rat.le_antisymm h0 p2
    have h2 := zAk hf
    rw [h1, Rat.zero_mul] at h2
    exact Rat.natCast_eq_zero_iff.mp h2
  generalize (A : Rat) / (B : Rat) * 2 ^ e = ra at *
  generalize (c : Rat) * 2 ^ q = rc at *
  generalize zmag b64 (roundRatio b64 s A B e) = za at *
  generalize zmag b64 (.fin t c q) = zc at *
  cases s <;> cases t <;> simp only [signed, Bool.false_eq_true, if_true, if_false] at hr hy ⊢
  · have := m1 (by grind); omega
  · have := m1 (by grind); have := hz (by grind); omega
  · omega
  · have := m2 (by grind); omega
theorem own_rd_neg {x : UInt64} {r : Rat} (h : zAO x r) : zAO (FP.dneg x) (-r) := by
  obtain ⟨s, A, B, e, hB, hv, hr⟩ := h
  refine ⟨!s, A, B, e, hB, (FP.val64_dneg x).trans (by rw [hv, negate_roundRatio]), ?_⟩
  rw [hr, signed_not, Rat.intCast_neg, Rat.div_def, Rat.div_def, Rat.neg_mul, Rat.neg_mul]
theorem own_zval_neg (x : UInt64) : zval b64 (val64 (FP.dneg x)) = -zval b64 (val64 x) := by
  rw [show val64 (FP.dneg x) = negate (val64 x) from FP.val64_dneg x, zval_negate]
theorem own_rd_ge {x V : UInt64} {r y : Rat} (h : zAO x r) (hV : zp V y) (hle : y ≤ r) : zval b64 (val64 V) ≤ zval b64 (val64 x) := by
  have h1 := own_rd_le (own_rd_neg h) (own_neg hV) (Rat.neg_le_neg hle)
  rw [own_zval_neg, own_zval_neg] at h1
  omega
theorem own_rd_le' {x V : UInt64} {r v y : Rat} (h : zAO x r) (hx : zp x v) (hV : zp V y) (hle : r ≤ y) : v ≤ y := by
  have h1 := own_rd_le h hV hle
  refine Rat.not_lt.mp fun h2 => ?_
  have h3 := (dcmp_lt.mp ((zAm hV hx).mpr h2)).2.2
  omega
theorem own_rd_ge' {x V : UInt64} {r v y : Rat} (h : zAO x r) (hx : zp x v) (hV : zp V y) (hle : y ≤ r) : y ≤ v := by
  have h1 := own_rd_ge h hV hle
  refine Rat.not_lt.mp fun h2 => ?_
  have h3 := (dcmp_lt.mp ((zAm hx hV).mpr h2)).2.2
  omega
theorem own_rep {m k : Int} (hm : m.natAbs < 2 ^ 53) (hk : -1074 ≤ k) (hk2 : k ≤ 971) : ∃ V, zp V ((m : Rat) * (2 : Rat) ^ k) := by
  have hf : FP.Core.fits b64 (roundRatio b64 (decide (m < 0)) m.natAbs 1 k) := roundRatio_fits good_b64 _ _ (by decide) _
  refine ⟨of64 (roundRatio b64 (decide (m < 0)) m.natAbs 1 k), own_rd_exact ⟨decide (m < 0), m.natAbs, 1, k, by decide, val64_of64 hf, ?_⟩ rfl hm hk hk2⟩
  rw [show (((1 : Nat) : Rat)) = 1 from rfl, Rat.div_def, zBS, Rat.mul_one]
  congr 2
  unfold signed
  by_cases hmn : m < 0 <;> simp [hmn] <;> omega
end OwnNum3
section OwnNum4
open Jvm.FP.Core Jvm.Free.Fl
theorem zX : zp 0 0 := ⟨false, 0, -1074, by decide +kernel, by decide +kernel⟩
theorem own_rep' {m k : Int} {r : Rat} (hr : r = (m : Rat) * (2 : Rat) ^ k) (hm : m.natAbs < 2 ^ 53) (hk : -1074 ≤ k) (hk2 : k ≤ 971) : ∃ V, zp V r := by rw [hr]; exact own_rep hm hk hk2
theorem own_cmpv {x y : UInt64} {a b : Rat} (hx : zp x a) (hy : zp y b) (o : ClassFile.CmpOp) : Op.cmpValue (FP.dcmp x y) o = if a < b then -1 else if a = b then 0 else 1 := by
  by_cases h1 : a < b
  · rw [(zAm hx hy).mpr h1, if_pos h1]; rfl
  · by_cases h2 : a = b
    · rw [(own_is_eq hx hy).mpr h2, if_neg h1, if_pos h2]; rfl
    · have h3 : b < a := by grind
      rw [(own_is_gt hx hy).mpr h3, if_neg h1, if_neg h2]; rfl
theorem zY {x y : UInt64} {a b : Rat} (hx : zp x a) (hy : zp y b) (o : ClassFile.CmpOp) : Op.ifCond.holds .le (Op.cmpValue (FP.dcmp x y) o) = decide (a ≤ b) := by
  rw [own_cmpv hx hy]
  by_cases h1 : a < b
  · simp [h1, Rat.le_of_lt h1, Op.ifCond.holds]
  · by_cases h2 : a = b
    · subst h2; simp [Rat.lt_irrefl, Rat.le_refl, Op.ifCond.holds]
    · have : ¬ a ≤ b := by grind
      simp [h1, h2, this, Op.ifCond.holds]
theorem zZ {x y : UInt64} {a b : Rat} (hx : zp x a) (hy : zp y b) (o : ClassFile.CmpOp) : Op.ifCond.holds .ne (Op.cmpValue (FP.dcmp x y) o) = decide (a ≠ b) := by
  rw [own_cmpv hx hy]
  by_cases h1 : a < b
  · have : ¬ a = b := by grind
    simp [h1, this, Op.ifCond.holds]
  · by_cases h2 : a = b <;> simp [h1, h2, Op.ifCond.holds]
theorem own_z_le (x : Int32) : Op.ifCond.holds .le x = decide (x.toInt ≤ 0) := by simp only [Op.ifCond.holds, Int32.le_iff_toInt_le]; rfl
end OwnNum4
open Jvm Jvm.ClassFile Sem Op Lib Jvm.Free Jvm.Stand Jvm.LawKit Jvm.RoadKit Bundle Jvm.Pilot.@@N@@.Jvm.D
abbrev oi (w : Int32) : Slot := .val (.int w)
abbrev oa (x : Addr) : Slot := .val (.ref x)
abbrev ou : Slot := .unset
theorem zO {a0 : Array Value} {Z : State} (hw : ∀ d ∈ tables_1, d.before a0 Z = true) (i : Nat) {d : Jvm.Cond} (h : tables_1[i]? = some d) : d.before a0 Z = true := hw _ (List.mem_of_getElem? h)
abbrev ok0 := prog_32_method_14_code
section OwnWalk
open Jvm.Free Jvm.Free.Fl
def zBV (tb : Tables) (e : Env) (below : List Frame) (T : State) (m : MethodId) (c : Code) (i : Nat) (v : Value) : Prop :=
  ∀ (g : JFrame) (target : State), g.method = m →
    ((∃ x, v = .int x) → decode c.code g.pc = .ok (.ldc i, 2) → Steps tb e below (T.setTop { g with pc := g.pc + 2, stack := v :: g.stack }) target → Steps tb e below (T.setTop g) target) ∧
    ((∃ x, v = .int x) → decode c.code g.pc = .ok (.ldc_w i, 3) → Steps tb e below (T.setTop { g with pc := g.pc + 3, stack := v :: g.stack }) target → Steps tb e below (T.setTop g) target) ∧
    (((∃ x, v = .long x) ∨ ∃ x, v = .double x) → decode c.code g.pc = .ok (.ldc2_w i, 3) → Steps tb e below (T.setTop { g with pc := g.pc + 3, stack := v :: g.stack }) target → Steps tb e below (T.setTop g) target)
def zE (P : List (Nat × Value)) (b : ByteArray) (pc : Nat) (L : Array Slot) (S : List Value) (pc' : Nat) (L' : Array Slot) (S' : List Value) : Prop :=
  ∀ (tb : Tables) [Ours tb] (e : Env) (below : List Frame) (T target : State) (m : MethodId) (c : Code), At T m c below → tb.exec = Jvm.exec → c.code = b →
    (∀ q ∈ P, zBV tb e below T m c q.1 q.2) → Steps tb e below (T.setTop (mkF m pc' L' S')) target → Steps tb e below (T.setTop (mkF m pc L S)) target
variable {P : List (Nat × Value)} {b : ByteArray} {pc pcE : Nat} {L L' LE : Array Slot} {S SE : List Value}
theorem zF : zE P b pc L S pc L S := fun tb _ e below T target m c h hx hy hP k => k
theorem zG {j : Nat} {v : Int32} {pc2 : Nat} (hd : decode b pc = .ok (.iload j, 2)) (hpc : pc + 2 = pc2) (hl : L[j]? = some (.val (.int v))) (r : zE P b pc2 L (.int v :: S) pcE LE SE) : zE P b pc L (S) pcE LE SE := by
  intro tb _ e below T target m c h hx hy hP k; subst hpc; exact XS.iload h hx rfl (hb hy hd) hl (r tb e below T target m c h hx hy hP k)
theorem zL {j : Fin 4} {v : Int32} {pc2 : Nat} (hd : decode b pc = .ok (.iload_n j, 1)) (hpc : pc + 1 = pc2) (hl : L[j.val]? = some (.val (.int v))) (r : zE P b pc2 L (.int v :: S) pcE LE SE) : zE P b pc L (S) pcE LE SE := by
  intro tb _ e below T target m c h hx hy hP k; subst hpc; exact XS.iloadN h hx rfl (hb hy hd) hl (r tb e below T target m c h hx hy hP k)
theorem zi {j : Nat} {v : Int32} {rest : List Value} {pc2 : Nat} (hd : decode b pc = .ok (.istore j, 2)) (hpc : pc + 2 = pc2) (hl : storeLocals L j (.int v) = some L') (r : zE P b pc2 L' (rest) pcE LE SE) : zE P b pc L (.int v :: rest) pcE LE SE := by
  intro tb _ e below T target m c h hx hy hP k; subst hpc; exact XS.istore h hx rfl (hb hy hd) rfl hl (r tb e below T target m c h hx hy hP k)
theorem zq {j : Fin 4} {v : Int32} {rest : List Value} {pc2 : Nat} (hd : decode b pc = .ok (.istore_n j, 1)) (hpc : pc + 1 = pc2) (hl : storeLocals L j.val (.int v) = some L') (r : zE P b pc2 L' (rest) pcE LE SE) : zE P b pc L (.int v :: rest) pcE LE SE := by
  intro tb _ e below T target m c h hx hy hP k; subst hpc; exact XS.istoreN h hx rfl (hb hy hd) rfl hl (r tb e below T target m c h hx hy hP k)
theorem zs {j : Nat} {v : UInt64} {pc2 : Nat} (hd : decode b pc = .ok (.dload j, 2)) (hpc : pc + 2 = pc2) (hl : L[j]? = some (.val (.double v))) (r : zE P b pc2 L (.double v :: S) pcE LE SE) : zE P b pc L (S) pcE LE SE := by
  intro tb _ e below T target m c h hx hy hP k; subst hpc; exact XS.dload h hx rfl (hb hy hd) hl (r tb e below T target m c h hx hy hP k)
theorem zt {j : Nat} {v : UInt64} {rest : List Value} {pc2 : Nat} (hd : decode b pc = .ok (.dstore j, 2)) (hpc : pc + 2 = pc2) (hl : storeLocals L j (.double v) = some L') (r : zE P b pc2 L' (rest) pcE LE SE) : zE P b pc L (.double v :: rest) pcE LE SE := by
  intro tb _ e below T target m c h hx hy hP k; subst hpc; exact XS.dstore h hx rfl (hb hy hd) rfl hl (r tb e below T target m c h hx hy hP k)
theorem zR {j : Nat} {v : Value} {pc2 : Nat} (hd : decode b pc = .ok (.aload j, 2)) (hpc : pc + 2 = pc2) (hl : L[j]? = some (.val v)) (hr : v.isRef = true) (r : zE P b pc2 L (v :: S) pcE LE SE) : zE P b pc L (S) pcE LE SE := by
  intro tb _ e below T target m c h hx hy hP k; subst hpc; exact XS.aload h hx rfl (hb hy hd) hl hr (r tb e below T target m c h hx hy hP k)
theorem zN {j : Fin 4} {v : Value} {pc2 : Nat} (hd : decode b pc = .ok (.aload_n j, 1)) (hpc : pc + 1 = pc2) (hl : L[j.val]? = some (.val v)) (hr : v.isRef = true) (r : zE P b pc2 L (v :: S) pcE LE SE) : zE P b pc L (S) pcE LE SE := by
  intro tb _ e below T target m c h hx hy hP k; subst hpc; exact XS.aloadN h hx rfl (hb hy hd) hl hr (r tb e below T target m c h hx hy hP k)
theorem zAL {j : Nat} {v : Value} {rest : List Value} {pc2 : Nat} (hd : decode b pc = .ok (.astore j, 2)) (hpc : pc + 2 = pc2) (hr : v.isRef = true) (hl : storeLocals L j v = some L') (r : zE P b pc2 L' (rest) pcE LE SE) : zE P b pc L (v :: rest) pcE LE SE := by
  intro tb _ e below T target m c h hx hy hP k; subst hpc; exact XS.astore h hx rfl (hb hy hd) rfl hr hl (r tb e below T target m c h hx hy hP k)
theorem zAW {j : Fin 4} {v : Value} {rest : List Value} {pc2 : Nat} (hd : decode b pc = .ok (.astore_n j, 1)) (hpc : pc + 1 = pc2) (hr : v.isRef = true) (hl : storeLocals L j.val v = some L') (r : zE P b pc2 L' (rest) pcE LE SE) : zE P b pc L (v :: rest) pcE LE SE := by
  intro tb _ e below T target m c h hx hy hP k; subst hpc; exact XS.astoreN h hx rfl (hb hy hd) rfl hr hl (r tb e below T target m c h hx hy hP k)
theorem zH {i : Int} {v : Int32} {pc2 : Nat} (hd : decode b pc = .ok (.iconst i, 1)) (hpc : pc + 1 = pc2) (hv : Int32.ofInt i = v) (r : zE P b pc2 L (.int v :: S) pcE LE SE) : zE P b pc L (S) pcE LE SE := by
  intro tb _ e below T target m c h hx hy hP k; subst hpc; subst hv; exact XS.iconst h hx rfl (hb hy hd) (r tb e below T target m c h hx hy hP k)
theorem zf  {v : UInt64} {pc2 : Nat} (hd : decode b pc = .ok (.dconst 0, 1)) (hpc : pc + 1 = pc2) (hv : FP.dconst0 = v) (r : zE P b pc2 L (.double v :: S) pcE LE SE) : zE P b pc L (S) pcE LE SE := by
  intro tb _ e below T target m c h hx hy hP k; subst hpc; subst hv; exact XS.dconst0 h hx rfl (hb hy hd) rfl (r tb e below T target m c h hx hy hP k)
theorem zk {x y : Int32} {v : Int32} {rest : List Value} {pc2 : Nat} (hd : decode b pc = .ok (.iadd, 1)) (hpc : pc + 1 = pc2) (hv : x + y = v) (r : zE P b pc2 L (.int v :: rest) pcE LE SE) : zE P b pc L (.int y :: .int x :: rest) pcE LE SE := by
  intro tb _ e below T target m c h hx hy hP k; subst hpc; subst hv; exact XS.iadd h hx rfl (hb hy hd) rfl (r tb e below T target m c h hx hy hP k)
theorem zr {x : Int32} {v : UInt64} {rest : List Value} {pc2 : Nat} (hd : decode b pc = .ok (.i2d, 1)) (hpc : pc + 1 = pc2) (hv : FP.i2d x = v) (r : zE P b pc2 L (.double v :: rest) pcE LE SE) : zE P b pc L (.int x :: rest) pcE LE SE := by
  intro tb _ e below T target m c h hx hy hP k; subst hpc; subst hv; exact XS.i2dS h hx rfl (hb hy hd) rfl rfl (r tb e below T target m c h hx hy hP k)
theorem zT {o : CmpOp} {x y : UInt64} {v : Int32} {rest : List Value} {pc2 : Nat} (hd : decode b pc = .ok (.dcmp o, 1)) (hpc : pc + 1 = pc2) (hv : cmpValue (FP.dcmp x y) o = v) (r : zE P b pc2 L (.int v :: rest) pcE LE SE) : zE P b pc L (.double y :: .double x :: rest) pcE LE SE := by
  intro tb _ e below T target m c h hx hy hP k; subst hpc; subst hv; exact XS.dcmpS h hx rfl (hb hy hd) rfl rfl (r tb e below T target m c h hx hy hP k)
theorem zg {cd : ClassFile.Cond} {x : Int32} {o : Int} {pc' : Nat} {rest : List Value} (hd : decode b pc = .ok (.ifCond cd o, 3)) (hc : ifCond.holds cd x = true) (ho : 0 ≤ (pc : Int) + o) (hp : ((pc : Int) + o).toNat = pc') (r : zE P b pc' L rest pcE LE SE) : zE P b pc L (.int x :: rest) pcE LE SE := by
  intro tb _ e below T target m c h hx hy hP k; exact XS.ifYes h hx rfl rfl (hb hy hd) rfl hc ho hp (r tb e below T target m c h hx hy hP k)
theorem zW {cd : ClassFile.Cond} {x : Int32} {o : Int} {rest : List Value} {pc2 : Nat} (hd : decode b pc = .ok (.ifCond cd o, 3)) (hpc : pc + 3 = pc2) (hc : ifCond.holds cd x = false) (r : zE P b pc2 L rest pcE LE SE) : zE P b pc L (.int x :: rest) pcE LE SE := by
  intro tb _ e below T target m c h hx hy hP k; subst hpc; exact XS.ifNo h hx rfl (hb hy hd) rfl hc (r tb e below T target m c h hx hy hP k)
theorem zj {cd : ClassFile.Cond} {x y : Int32} {o : Int} {pc' : Nat} {rest : List Value} (hd : decode b pc = .ok (.if_icmp cd o, 3)) (hc : if_icmp.holds cd x y = true) (ho : 0 ≤ (pc : Int) + o) (hp : ((pc : Int) + o).toNat = pc') (r : zE P b pc' L rest pcE LE SE) : zE P b pc L (.int y :: .int x :: rest) pcE LE SE := by
  intro tb _ e below T target m c h hx hy hP k; exact XS.icmpYes h hx rfl rfl (hb hy hd) rfl hc ho hp (r tb e below T target m c h hx hy hP k)
theorem zV {cd : ClassFile.Cond} {x y : Int32} {o : Int} {rest : List Value} {pc2 : Nat} (hd : decode b pc = .ok (.if_icmp cd o, 3)) (hpc : pc + 3 = pc2) (hc : if_icmp.holds cd x y = false) (r : zE P b pc2 L rest pcE LE SE) : zE P b pc L (.int y :: .int x :: rest) pcE LE SE := by
  intro tb _ e below T target m c h hx hy hP k; subst hpc; exact XS.icmpNo h hx rfl (hb hy hd) rfl hc (r tb e below T target m c h hx hy hP k)
theorem zAi {o : Int} {a : Addr} {rest : List Value} {pc2 : Nat} (hd : decode b pc = .ok (.ifnull o, 3)) (hpc : pc + 3 = pc2) (r : zE P b pc2 L rest pcE LE SE) : zE P b pc L (.ref a :: rest) pcE LE SE := by
  intro tb _ e below T target m c h hx hy hP k; subst hpc; exact XS.ifnullNo h hx rfl (hb hy hd) rfl (r tb e below T target m c h hx hy hP k)
theorem zS {o : Int} {pc' : Nat} (hd : decode b pc = .ok (.goto o, 3)) (ho : 0 ≤ (pc : Int) + o) (hp : ((pc : Int) + o).toNat = pc') (r : zE P b pc' L S pcE LE SE) : zE P b pc L S pcE LE SE := by
  intro tb _ e below T target m c h hx hy hP k; exact XS.goto h hx rfl rfl (hb hy hd) ho hp (r tb e below T target m c h hx hy hP k)
theorem zU {j : Nat} {cst : Int} {x v : Int32} {pc2 : Nat} (hd : decode b pc = .ok (.iinc j cst, 3)) (hpc : pc + 3 = pc2) (hl : L[j]? = some (.val (.int x))) (hv : x + Int32.ofInt cst = v) (hl' : storeLocals L j (.int v) = some L') (r : zE P b pc2 L' S pcE LE SE) : zE P b pc L S pcE LE SE := by
  intro tb _ e below T target m c h hx hy hP k; subst hpc; subst hv; exact XS.iinc h hx rfl (hb hy hd) hl hl' (r tb e below T target m c h hx hy hP k)
end OwnWalk
section OwnPool
open Jvm.Free Jvm.Stand
variable {p : Program} {l : Launch} {e : Env} {R : Room} {s : State} {m : MethodId} {args : Array Value} {below : List Frame} {meth : Method} {c : Code} {T : State} {locs : List Loc} {cells slots : Nat} {Z : State} {a0 : Array Value}
def zAj (own : String) (i : Nat) : Value → Jvm.Cond → Prop
  | .int v, w => w = .constant own i v
  | .long v, w => w = .constantLong own i v
  | .double v, w => w = .constantDouble own i v
  | _, _ => False
theorem own_pool1 (X : Stand p l e R s m args below meth c T locs cells slots) (hx : p.tables.exec = Jvm.exec) (hZ : Z.Warmed39 s.vm) {own : String} (hown : s.vm.findClass own = some m.cls) {i : Nat} {v : Value} {w : Jvm.Cond} (hv : zAj own i v w) (hw : w.before a0 Z = true) : zBV p.tables e below T m c i v := by
  intro g target hg
  cases v with
  | int v =>
    cases (show w = .constant own i v from hv)
    exact ⟨fun _ hd k => X.ldcInt hx hown (mvT hZ hw) hg hd target k, fun _ hd k => X.ldcwInt hx hown (mvT hZ hw) hg hd target k, fun h => (by rcases h with ⟨_, h⟩ | ⟨_, h⟩ <;> cases h)⟩
  | long v =>
    cases (show w = .constantLong own i v from hv)
    exact ⟨fun h => (by obtain ⟨_, h⟩ := h; cases h), fun h => (by obtain ⟨_, h⟩ := h; cases h), fun _ hd k => X.ldc2Long hx hown (mvT hZ hw) hg hd target k⟩
  | double v =>
    cases (show w = .constantDouble own i v from hv)
    exact ⟨fun h => (by obtain ⟨_, h⟩ := h; cases h), fun h => (by obtain ⟨_, h⟩ := h; cases h), fun _ hd k => X.ldc2DoubleC hx hown (mvT hZ hw) hg hd target k⟩
  | _ => exact absurd hv (fun h => h)
theorem own_pool (X : Stand p l e R s m args below meth c T locs cells slots) (hx : p.tables.exec = Jvm.exec) (hZ : Z.Warmed39 s.vm) {own : String} (hown : s.vm.findClass own = some m.cls) {ws : List Jvm.Cond} (hw : ∀ d ∈ ws, d.before a0 Z = true) {P : List (Nat × Value)} (hP : ∀ q ∈ P, ∃ w ∈ ws, zAj own q.1 q.2 w) : ∀ q ∈ P, zBV p.tables e below T m c q.1 q.2 := by
  intro q hq
  obtain ⟨w, h1, h2⟩ := hP q hq
  exact own_pool1 X hx hZ hown h2 (hw w h1)
end OwnPool
section OwnCall
open Jvm.Free Jvm.Stand Jvm.LawKit Jvm.RoadKit
variable {p : Program} {l : Launch} {e : Env} {R : Room} {s : State} {m : MethodId} {args : Array Value} {below : List Frame} {meth : Method} {c : Code} {T : State} {locs : List Loc} {cells slots : Nat} {Z : State} {a0 : Array Value} {h : Heap}
abbrev zBW (fr lo : Nat) : Room := { frames := fr, cells := 0, slots := 0, locals := lo }
def own_Pure (l : Launch) (Z : State) (y : MethodName) (bytes : ByteArray) (maxL : Nat) (ret : Option FieldType) (fr lo : Nat) (as' : Array Value) (h : Heap) (v : Option Value) : Prop :=
  MetFree l y (head1 [Jvm.Cond.code y bytes maxL ret] (zBW fr lo)) (fun a U => a = as' ∧ Z.Warmed39 U.vm ∧ U.heap = h) (fun _ _ _ _ _ => True) (fun _ U o U' => ∃ w L, o = .returned w ∧ (w = v ∧ L = [] ∧ U'.heap = h) ∧ FrameEnd U o U' L (zBW fr lo).cells (zBW fr lo).slots)
def zBX (i : Instr) (t : FieldType) (w : Value) : Prop := narrow t w = w ∧ ((i = .ireturn ∧ (t = .int ∨ t = .boolean ∨ t = .byte ∨ t = .char ∨ t = .short) ∧ ∃ z, w = .int z) ∨ (i = .lreturn ∧ t = .long ∧ ∃ z, w = .long z) ∨ (i = .dreturn ∧ t = .double ∧ ∃ z, w = .double z) ∨ (i = .freturn ∧ t = .float ∧ ∃ z, w = .float z) ∨ (i = .areturn ∧ t.isReference = true ∧ w.isRef = true))
theorem zv {x : Int32} (hx : x = 0 ∨ x = 1) : zBX .ireturn .boolean (.int x) := ⟨by rcases hx with rfl | rfl <;> rfl, Or.inl ⟨rfl, Or.inr (Or.inl rfl), x, rfl⟩⟩
end OwnCall
section OwnHeap
open Jvm.Free Jvm.Stand Jvm.LawKit Jvm.RoadKit
abbrev zu := (String × List (String × String × String × Value)) ⊕ (FieldType × List Value)
abbrev own_O (C : String) (fs : List (String × String × String × Value)) : zu := Sum.inl (C, fs)
abbrev zB (ty : FieldType) (vs : List Value) : zu := Sum.inr (ty, vs)
def zAp (Z : State) (h : Heap) (a : Addr) (c : Cell) (ty : FieldType) : Prop :=
  match ty with
  | .object C => Ovr Z c.cls C
  | .array t => OvrA Z c.cls t (FieldType.array t).toString ∧ Exa Z h a ("[" ++ (FieldType.array t).toString)
  | t => Exa Z h a ("[" ++ t.toString)
theorem zBY {Z : State} {h h' : Heap} {a : Addr} {c c' : Cell} {ty : FieldType} (hc : c'.cls = c.cls) (hE : ∀ C, Exa Z h a C → Exa Z h' a C) (H : zAp Z h a c ty) : zAp Z h' a c' ty := by
  cases ty <;> simp only [zAp, hc] at H ⊢ <;> first | exact H | exact hE _ H | exact ⟨H.1, hE _ H.2⟩
def zAM (Z : State) (a0 : Array Value) (h : Heap) (a : Addr) (q : zu) : Prop :=
  match q with
  | .inl (C, fs) => Exa Z h a C ∧ (∀ f ∈ fs, Fld Z h a f.1 f.2.1 f.2.2.1 f.2.2.2 ∧ Laid Z a0 C f.1 f.2.1 f.2.2.1 ∧ ∃ t, parseFieldDescriptor f.2.2.1 = some t) ∧ (fs.map fun f => f.2.1).Nodup
  | .inr (ty, vs) => ∃ c : Cell, Arr Z h a c ty ∧ c.slots.toList = vs ∧ zAp Z h a c ty
def zAN (Z : State) (a0 : Array Value) (hb h : Heap) (cs : List (Addr × zu)) : Prop := Ext hb h ∧ (∀ q ∈ cs, zAM Z a0 h q.1 q.2 ∧ hb.size ≤ q.1) ∧ (cs.map Prod.fst).Nodup
section Facts
variable {Z : State} {a0 : Array Value} {hb h h' : Heap} {cs : List (Addr × zu)} {a b : Addr} {q : zu}
theorem own_Is_lt (H : zAM Z a0 h a q) : a < h.size := by
  match q, H with
  | .inl (C, fs), H => exact H.1.lt
  | .inr (ty, vs), ⟨c, A, _⟩ => exact A.lt
theorem own_Is_ext (E : Ext h h') (H : zAM Z a0 h a q) : zAM Z a0 h' a q := by
  match q, H with
  | .inl (C, fs), H => exact ⟨H.1.ext E, fun f hf => ⟨(H.2.1 f hf).1.ext E, (H.2.1 f hf).2⟩, H.2.2⟩
  | .inr (ty, vs), ⟨c, A, e⟩ => exact ⟨c, A.ext E, e.1, zBY rfl (fun C F => F.ext E) e.2⟩
theorem own_Is_wr {sl : Nat} {v : Value} (W : Wr h h' b sl v) (hne : a ≠ b) (H : zAM Z a0 h a q) : zAM Z a0 h' a q := by
  match q, H with
  | .inl (C, fs), H => exact ⟨H.1.wr W, fun f hf => ⟨(H.2.1 f hf).1.other W (Or.inl hne), (H.2.1 f hf).2⟩, H.2.2⟩
  | .inr (ty, vs), ⟨c, A, e⟩ => exact ⟨c, A.other W hne, e.1, zBY rfl (fun C F => F.wr W) e.2⟩
theorem own_ext_trans {h1 h2 h3 : Heap} (E : Ext h1 h2) (F : Ext h2 h3) : Ext h1 h3 := ⟨Nat.le_trans E.1 F.1, fun a c q => F.2 a c (E.2 a c q)⟩
theorem own_ext_refl (h1 : Heap) : Ext h1 h1 := ⟨Nat.le_refl _, fun _ _ q => q⟩
theorem own_ext_wr {sl : Nat} {v : Value} (E : Ext hb h) (W : Wr h h' b sl v) (hn : hb.size ≤ b) : Ext hb h' := by
  refine ⟨by rw [W.size]; exact E.1, fun x c q => ?_⟩
  have hx : x < hb.size := (Array.getElem?_eq_some_iff.mp q).1
  obtain ⟨cb, h1, -, -, -, h5, -⟩ := wr_at W (E.2 x c q)
  rw [h1, h5 (Nat.ne_of_lt (Nat.lt_of_lt_of_le hx hn))]
theorem own_Hp_start (Z : State) (a0 : Array Value) (hb : Heap) : zAN Z a0 hb hb [] := ⟨own_ext_refl hb, fun q hq => absurd hq List.not_mem_nil, List.nodup_nil⟩
theorem own_Hp_new (H : zAN Z a0 hb h cs) (E : Ext h h') (N : zAM Z a0 h' h.size q) : zAN Z a0 hb h' (cs ++ [(h.size, q)]) := by
  refine ⟨own_ext_trans H.1 E, fun p hp => ?_, ?_⟩
  · rcases List.mem_append.mp hp with hp | hp
    · exact ⟨own_Is_ext E (H.2.1 p hp).1, (H.2.1 p hp).2⟩
    · cases List.mem_singleton.mp hp
      exact ⟨N, H.1.1⟩
  · rw [List.map_append, List.nodup_append]
    refine ⟨H.2.2, by simp, fun x hx y hy => ?_⟩
    simp only [List.map_cons, List.map_nil, List.mem_singleton] at hy
    subst hy
    obtain ⟨p, hp, rfl⟩ := List.mem_map.mp hx
    exact Nat.ne_of_lt (own_Is_lt (H.2.1 p hp).1)
theorem zAU (H : zAN Z a0 hb h cs) {i : Nat} (hi : cs[i]? = some (a, q)) : zAM Z a0 h a q ∧ hb.size ≤ a := H.2.1 _ (List.mem_of_getElem? hi)
theorem own_ne (H : zAN Z a0 hb h cs) {i j : Nat} {q' : zu} (hi : cs[i]? = some (a, q)) (hj : cs[j]? = some (b, q')) (hne : i ≠ j) : a ≠ b := by
  rintro rfl
  have hN := H.2.2
  obtain ⟨hi1, hi2⟩ := List.getElem?_eq_some_iff.mp hi
  obtain ⟨hj1, hj2⟩ := List.getElem?_eq_some_iff.mp hj
  have := (List.getElem_inj (xs := cs.map Prod.fst) (i := i) (j := j) (h₀ := by simpa using hi1) (h₁ := by simpa using hj1) hN).mp (by simp [hi2, hj2])
  exact hne this
theorem own_Hp_set (H : zAN Z a0 hb h cs) {i : Nat} {q' : zu} {sl : Nat} {v : Value} (hi : cs[i]? = some (a, q)) (W : Wr h h' a sl v) (N : zAM Z a0 h' a q') : zAN Z a0 hb h' (cs.set i (a, q')) := by
  obtain ⟨hi1, hi2⟩ := List.getElem?_eq_some_iff.mp hi
  refine ⟨own_ext_wr H.1 W (zAU H hi).2, fun p hp => ?_, ?_⟩
  · obtain ⟨j, hj, rfl⟩ := List.mem_iff_getElem.mp hp
    rw [List.getElem_set]
    split
    · exact ⟨N, (zAU H hi).2⟩
    · rename_i hne
      have hj' : j < cs.length := by simpa using hj
      have hm := H.2.1 cs[j] (List.getElem_mem hj')
      refine ⟨own_Is_wr W ?_ hm.1, hm.2⟩
      intro e
      exact own_ne H hi (j := j) (b := cs[j].1) (q' := cs[j].2) (List.getElem?_eq_getElem hj') hne e.symm
  · rw [List.map_set, show (a, q').fst = (cs.map Prod.fst)[i]'(by simpa using hi1) by simp [hi2], List.set_getElem_self]
    exact H.2.2
theorem own_Is_elt {ty : FieldType} {vs : List Value} {j : Nat} {v : Value} (H : zAM Z a0 h a (zB ty vs)) (W : Wr h h' a j v) : zAM Z a0 h' a (zB ty (vs.set j v)) := by
  obtain ⟨c, A, e⟩ := H
  refine ⟨_, A.same W, ?_, zBY rfl (fun C F => F.wr W) e.2⟩
  rw [← e.1]
  simp [Cell.setSlot]
end Facts
def zK (p : Program) (l : Launch) (e : Env) (R : Room) (s : State) (m : MethodId) (args : Array Value) (below : List Frame) (meth : Method) (c : Code) (Z : State) (a0 : Array Value) (hb : Heap) (T : State) (cs : List (Addr × zu)) (k n : Nat) : Prop :=
  ∃ locs, Stand p l e R s m args below meth c T locs k n ∧ Fr hb.size locs ∧ zAN Z a0 hb T.heap cs
section Rules
variable {p : Program} {l : Launch} {e : Env} {R : Room} {s : State} {m : MethodId} {args : Array Value} {below : List Frame} {meth : Method} {c : Code} {T : State} {Z : State} {a0 : Array Value} {hb : Heap} {cs : List (Addr × zu)} {k n : Nat}
theorem zA (H : zK p l e R s m args below meth c Z a0 hb T cs k n) (hx : p.tables.exec = Jvm.exec) (hZ : Z.Warmed39 s.vm) {own : String} (hown : s.vm.findClass own = some m.cls) {bytes : ByteArray} (hby : c.code = bytes) {ws : List Jvm.Cond} (hw : ∀ d ∈ ws, d.before a0 Z = true) {P : List (Nat × Value)} (hP : ∀ q ∈ P, ∃ w ∈ ws, zAj own q.1 q.2 w)
    {pc pc' : Nat} {L L' : Array Slot} {S S' : List Value} (r : zE P bytes pc L S pc' L' S') : ∀ target, Steps p.tables e below (T.setTop (mkF m pc' L' S')) target → Steps p.tables e below (T.setTop (mkF m pc L S)) target := by
  obtain ⟨locs, X, -, -⟩ := H
  exact fun target q => r p.tables e below T target m c X.here hx hby (own_pool X hx hZ hown hw hP) q
theorem zh (H : zK p l e R s m args below meth c Z a0 hb T cs k n) (hx : p.tables.exec = Jvm.exec) (hZ : Z.Warmed39 s.vm) {aty : ArrayType} (w : (Jvm.Cond.arrayClass (newarray.typeOf aty)).before a0 Z = true) {g : JFrame} (hg : g.method = m) (hd : decode c.code g.pc = .ok (.newarray aty, 2)) {z : Int32} {rest : List Value} (hs : g.stack = .int z :: rest)
    (hn : ¬ z < 0) {cap : Nat} (hcap : z.toNatClampNeg ≤ cap) (hb8 : cap * 8 ≤ 536870912) (hc : k + 1 ≤ R.cells) (hl : n + cap ≤ R.slots) :
    ∃ T' x, zK p l e R s m args below meth c Z a0 hb T' (cs ++ [(x, zB (newarray.typeOf aty) (List.replicate z.toNatClampNeg (defaultValue (newarray.typeOf aty))))]) (k + 1) (n + cap) ∧ ∀ target, Steps p.tables e below (T'.setTop { g with pc := g.pc + 2, stack := .ref x :: rest }) target → Steps p.tables e below (T.setTop g) target := by
  obtain ⟨locs, X, N, hH⟩ := H
  obtain ⟨T', h', cA, X', e', E, A, F, st⟩ := newPE X hx hZ w rfl hg hd hs hn hcap hb8 hc hl rfl
  refine ⟨T', T.heap.size, ⟨locs, X', N, ?_⟩, st⟩
  rw [e']
  exact own_Hp_new hH E ⟨_, A, by simp [newA], by cases aty <;> exact F⟩
theorem zAq {j : Int32} {vs : List Value} {cl : Cell} (e : cl.slots.toList = vs) (h0 : 0 ≤ j.toInt) (h1 : j.toInt < vs.length) : ¬ (j < 0 ∨ cl.slots.size ≤ j.toNatClampNeg) := by
  have hl : cl.slots.size = vs.length := by rw [← e]; simp
  rintro (q | q)
  · rw [Int32.lt_iff_toInt_lt] at q; rw [show (0 : Int32).toInt = 0 from rfl] at q; omega
  · have : j.toNatClampNeg = j.toInt.toNat := rfl
    omega
theorem own_at_idx {j : Int32} {vs : List Value} {cl : Cell} {v : Value} (e : cl.slots.toList = vs) {i : Nat} (hi : j.toInt = i) (hv : vs[i]? = some v) : cl.slots[j.toNatClampNeg]? = some v := by
  have : j.toNatClampNeg = i := by show j.toInt.toNat = i; omega
  rw [this, ← Array.getElem?_toList, e]; exact hv
theorem zJ (H : zK p l e R s m args below meth c Z a0 hb T cs k n) (hx : p.tables.exec = Jvm.exec) (hZ : Z.Warmed39 s.vm) {x : Addr} {vs : List Value} {j : Int32} {v : Value} (i jj : Nat) (hi : cs[i]? = some (x, zB .double vs)) (hj : j.toInt = jj) (hv : vs[jj]? = some v)
    {g : JFrame} (hg : g.method = m) {rest : List Value} (hs : g.stack = .int j :: .ref x :: rest) (hd : decode c.code g.pc = .ok (.daload, 1)) :
    ∀ target, Steps p.tables e below (T.setTop { g with pc := g.pc + 1, stack := v :: rest }) target → Steps p.tables e below (T.setTop g) target := by
  obtain ⟨locs, X, N, hH⟩ := H
  obtain ⟨cl, A, hc, -⟩ := (zAU hH hi).1
  have hlt : jj < vs.length := (List.getElem?_eq_some_iff.mp hv).1
  exact fun target q => X.daload hx A.1 (State.isArrayOf_alike hZ.alike A.2.1) A.2.2 (zAq hc (by omega) (by omega)) (own_at_idx hc hj hv) hg hs hd target q
theorem zb (H : zK p l e R s m args below meth c Z a0 hb T cs k n) (hx : p.tables.exec = Jvm.exec) (hZ : Z.Warmed39 s.vm) {x : Addr} {vs : List Value} {j : Int32} {v : Value} (i jj : Nat) (hi : cs[i]? = some (x, zB .int vs)) (hj : j.toInt = jj) (hv : vs[jj]? = some v)
    {g : JFrame} (hg : g.method = m) {rest : List Value} (hs : g.stack = .int j :: .ref x :: rest) (hd : decode c.code g.pc = .ok (.iaload, 1)) :
    ∀ target, Steps p.tables e below (T.setTop { g with pc := g.pc + 1, stack := v :: rest }) target → Steps p.tables e below (T.setTop g) target := by
  obtain ⟨locs, X, N, hH⟩ := H
  obtain ⟨cl, A, hc, -⟩ := (zAU hH hi).1
  have hlt : jj < vs.length := (List.getElem?_eq_some_iff.mp hv).1
  exact fun target q => X.iaload hx A.1 (State.isArrayOf_alike hZ.alike A.2.1) A.2.2 (zAq hc (by omega) (by omega)) (own_at_idx hc hj hv) hg hs hd target q
theorem zP (H : zK p l e R s m args below meth c Z a0 hb T cs k n) (hx : p.tables.exec = Jvm.exec) (hZ : Z.Warmed39 s.vm) {x : Addr} {ty : FieldType} {vs : List Value} (i : Nat) (hi : cs[i]? = some (x, zB ty vs)) {z : Int32} (hz : vs.length.toInt32 = z)
    {g : JFrame} (hg : g.method = m) {rest : List Value} (hs : g.stack = .ref x :: rest) (hd : decode c.code g.pc = .ok (.arraylength, 1)) :
    ∀ target, Steps p.tables e below (T.setTop { g with pc := g.pc + 1, stack := .int z :: rest }) target → Steps p.tables e below (T.setTop g) target := by
  obtain ⟨locs, X, N, hH⟩ := H
  obtain ⟨cl, A, hc, -⟩ := (zAU hH hi).1
  have hl : cl.slots.size = vs.length := by rw [← hc]; simp
  refine fun target q => X.arraylength hx A.1 (State.isArrayOf_alike hZ.alike A.2.1) hg hs hd target ?_
  rw [hl, hz]; exact q
theorem zd (H : zK p l e R s m args below meth c Z a0 hb T cs k n) (hx : p.tables.exec = Jvm.exec) (hZ : Z.Warmed39 s.vm) {x : Addr} {vs : List Value} {j : Int32} {v : UInt64} (i jj : Nat) (hi : cs[i]? = some (x, zB .double vs)) (hj : j.toInt = jj) (hlt : jj < vs.length)
    {g : JFrame} (hg : g.method = m) {rest : List Value} (hs : g.stack = .double v :: .int j :: .ref x :: rest) (hd : decode c.code g.pc = .ok (.dastore, 1)) :
    ∃ T', zK p l e R s m args below meth c Z a0 hb T' (cs.set i (x, zB .double (vs.set jj (.double v)))) k n ∧ ∀ target, Steps p.tables e below (T'.setTop { g with pc := g.pc + 1, stack := rest }) target → Steps p.tables e below (T.setTop g) target := by
  obtain ⟨locs, X, N, hH⟩ := H
  have I := zAU hH hi
  obtain ⟨cl, A, hc, -⟩ := I.1
  obtain ⟨T', h', X', e', W, st⟩ := stD X hx hZ rfl A (zAq hc (by omega) (by omega)) hg hs hd
  have hjj : j.toNatClampNeg = jj := by show j.toInt.toNat = jj; omega
  rw [hjj] at W
  refine ⟨T', ⟨_, X', Fr.snoc X' N I.2, ?_⟩, st⟩
  rw [e']
  exact own_Hp_set hH hi W (own_Is_elt I.1 W)
theorem ze (H : zK p l e R s m args below meth c Z a0 hb T cs k n) (hx : p.tables.exec = Jvm.exec) (hZ : Z.Warmed39 s.vm) {x : Addr} {vs : List Value} {j : Int32} {v : Int32} (i jj : Nat) (hi : cs[i]? = some (x, zB .int vs)) (hj : j.toInt = jj) (hlt : jj < vs.length)
    {g : JFrame} (hg : g.method = m) {rest : List Value} (hs : g.stack = .int v :: .int j :: .ref x :: rest) (hd : decode c.code g.pc = .ok (.iastore, 1)) :
    ∃ T', zK p l e R s m args below meth c Z a0 hb T' (cs.set i (x, zB .int (vs.set jj (.int v)))) k n ∧ ∀ target, Steps p.tables e below (T'.setTop { g with pc := g.pc + 1, stack := rest }) target → Steps p.tables e below (T.setTop g) target := by
  obtain ⟨locs, X, N, hH⟩ := H
  have I := zAU hH hi
  obtain ⟨cl, A, hc, -⟩ := I.1
  obtain ⟨T', h', X', e', W, st⟩ := stI X hx hZ rfl A (zAq hc (by omega) (by omega)) hg hs hd
  have hjj : j.toNatClampNeg = jj := by show j.toInt.toNat = jj; omega
  rw [hjj] at W
  refine ⟨T', ⟨_, X', Fr.snoc X' N I.2, ?_⟩, st⟩
  rw [e']
  exact own_Hp_set hH hi W (own_Is_elt I.1 W)
end Rules
def zl (l : Launch) (Z : State) (a0 : Array Value) (hb : Heap) (y : MethodName) (bytes : ByteArray) (maxL : Nat) (ret : Option FieldType) (ws : List Jvm.Cond) (rm : Room) (as' : Array Value) (cs : List (Addr × zu)) (Q : Option Value → List (Addr × zu) → Prop) : Prop :=
  ∀ h, zAN Z a0 hb h cs → MetFree l y (head1 (Jvm.Cond.code y bytes maxL ret :: ws) rm) (fun a U => a = as' ∧ Z.Warmed39 U.vm ∧ U.heap = h) (fun _ _ _ _ _ => True) (fun _ U o U' => ∃ w L, o = .returned w ∧ (Fr hb.size L ∧ ∃ cs', Q w cs' ∧ zAN Z a0 hb U'.heap cs') ∧ FrameEnd U o U' L rm.cells rm.slots)
def own_Ends (p : Program) (l : Launch) (e : Env) (R : Room) (s : State) (m : MethodId) (args : Array Value) (below : List Frame) (meth : Method) (c : Code) (Z : State) (a0 : Array Value) (hb : Heap) (bytes : ByteArray) (ret : Option FieldType) (Q : Option Value → List (Addr × zu) → Prop) (T : State) (g : JFrame) : Prop :=
  ∃ T' cs' k n pc L, zK p l e R s m args below meth c Z a0 hb T' cs' k n ∧ k ≤ R.cells ∧ n ≤ R.slots ∧
    ((ret = none ∧ Q none cs' ∧ decode bytes pc = .ok (.return_, 1) ∧ ∀ target, Steps p.tables e below (T'.setTop (mkF m pc L [])) target → Steps p.tables e below (T.setTop g) target) ∨
     (∃ t v S i, ret = some t ∧ Q (some v) cs' ∧ decode bytes pc = .ok (i, 1) ∧ zBX i t v ∧ ∀ target, Steps p.tables e below (T'.setTop (mkF m pc L (v :: S))) target → Steps p.tables e below (T.setTop g) target))
theorem zm {l : Launch} {Z : State} {a0 : Array Value} {hb : Heap} {y : MethodName} {bytes : ByteArray} {maxL : Nat} {ret : Option FieldType} {ws : List Jvm.Cond} {rm : Room} {as' : Array Value} {cs : List (Addr × zu)} {Q : Option Value → List (Addr × zu) → Prop} {L0 : Array Slot} (hpl : plainFor y = true) (hef : ∀ m, entryFrame m as' maxL = mkF m 0 L0 [])
    (body : ∀ (p : Program) (e : Env) (s : State) (m : MethodId) (below : List Frame) (meth : Method) (c : Code) (T : State), p.tables.exec = Jvm.exec → Z.Warmed39 s.vm → s.vm.findClass y.cls = some m.cls → c.code = bytes → c.maxLocals = maxL → meth.name = y.name → zK p l e rm s m as' below meth c Z a0 hb T cs 0 0 → own_Ends p l e rm s m as' below meth c Z a0 hb bytes ret Q T (mkF m 0 L0 [])) :
    zl l Z a0 hb y bytes maxL ret ws rm as' cs Q := by
  intro h hH
  refine MetFree.of_bodySF hpl hisR ?_
  intro p e s m args below meth c s₁ Bd hml0 hPP hK
  obtain ⟨rfl, hZ, hh⟩ := hPP
  have hown : s.vm.findClass y.cls = some m.cls := findClass_of_methodNamed Bd.named
  have hnm := (name_of_methodNamed Bd.named Bd.method).1
  have X0 : Stand p l e rm s m _ below meth c s₁ [] 0 0 := Stand.of_body Bd
  have e0 : s₁.heap = h := by rw [← hh, Bd.state]; rfl
  obtain ⟨T', cs', k, n, pc, L, ⟨locs, X, N, hH'⟩, hk, hn, hE⟩ := body p e s m below meth c s₁ Bd.exec hZ hown Bd.bytes hml0 hnm ⟨[], X0, Fr.nil _, e0 ▸ hH⟩
  rcases hE with ⟨rfl, hQ, hd, st⟩ | ⟨t, v, S, i, rfl, hQ, hd, hr, st⟩
  · obtain ⟨fs, hr', hrun, hended, hW, hsame⟩ := X.leave (v := none) (fun _ => rfl)
    exact ⟨_, _, castTop (hef m) (st _ (X.returnOut Bd.exec Bd.returns (Jvm.hb Bd.bytes hd) hr')), hrun, hended, _, _, rfl, ⟨N, cs', hQ, hH'⟩, ⟨_, rfl⟩, hW, hsame.mono hk hn⟩
  · obtain ⟨fs, hr', hrun, hended, hW, hsame⟩ := X.leave (v := some v) (fun h => by rw [Bd.returns] at h; cases h)
    exact ⟨_, _, castTop (hef m) (st _ (retOut X Bd.exec Bd.returns hr.1 hr.2 (Jvm.hb Bd.bytes hd) hr')), hrun, hended, _, _, rfl, ⟨N, cs', hQ, hH'⟩, ⟨_, rfl⟩, hW, hsame.mono hk hn⟩
section Calls
variable {p : Program} {l : Launch} {e : Env} {R : Room} {s : State} {m : MethodId} {args : Array Value} {below : List Frame} {meth : Method} {c : Code} {T : State} {Z : State} {a0 : Array Value} {hb : Heap} {cs : List (Addr × zu)} {k n : Nat}
theorem zw (H : zK p l e R s m args below meth c Z a0 hb T cs k n) (hx : p.tables.exec = Jvm.exec) (hZ : Z.Warmed39 s.vm) {own : String} {index : Nat} {y : MethodName} {bytes : ByteArray} {maxL : Nat} {ret : Option FieldType} (hown : s.vm.findClass own = some m.cls)
    (w1 : (Jvm.Cond.methodLink own index y).before a0 Z = true) (w2 : (Jvm.Cond.static y).before a0 Z = true) (w3 : (Jvm.Cond.initialized y.cls).before a0 Z = true) (w4 : (Jvm.Cond.code y bytes maxL ret).before a0 Z = true) (hy : y.cls ≠ "java/lang/invoke/MethodHandle" ∧ y.cls ≠ "java/lang/invoke/VarHandle")
    {rm : Room} {W : Nat} {argsL rest : List Value} {Q : Option Value → List (Addr × zu) → Prop} (hM : zl l Z a0 hb y bytes maxL ret [] rm argsL.toArray cs Q) (hf : rm.frames + 1 ≤ R.frames) (hl : W + (maxL + 11) + rm.locals ≤ R.locals) (hc : k + rm.cells ≤ R.cells) (hs : n + rm.slots ≤ R.slots)
    {g : JFrame} (hg : g.method = m) (hsize : g.locals.size = c.maxLocals) (hlen : ∀ sig, parseMethodDescriptor y.desc = some sig → argsL.length = sig.parameters.length) (hst : g.stack = argsL.reverse ++ rest) (hW : 2 * g.monitorRoom + (rest.map fun v => v.category).sum ≤ W) (hd : decode c.code g.pc = .ok (.invokestatic index, 3)) :
    ∃ T' v cs', Q v cs' ∧ zK p l e R s m args below meth c Z a0 hb T' cs' (k + rm.cells) (n + rm.slots) ∧ ∀ target, Steps p.tables e below (T'.setTop { g with pc := g.pc + 3, stack := v.toList ++ rest }) target → Steps p.tables e below (T.setTop g) target := by
  obtain ⟨locs, X, N, hH⟩ := H
  obtain ⟨v', vm1, ⟨T2, L2, k2, n2⟩, -, X2, ⟨Lc, hQ, l2, y2, z2⟩, st⟩ := Jvm.LawKit.callS X hx hown (mvT hZ w1) (mvT hZ w2) (mvT hZ w3) (mvT hZ w4) hy (backOf (W := W) (rm := rm) (Q := fun w H L => Fr hb.size L ∧ ∃ cs', Q w cs' ∧ zAN Z a0 hb H cs') (hM _ hH) hZ w4 w3 hf hl) hg hsize hlen hst hW hd (fun _ _ => ⟨rfl, rfl, hc, hs⟩)
  dsimp only [Pt.U, Pt.locs, Pt.cells, Pt.slots] at X2 l2 y2 z2 st hQ
  obtain ⟨N2, cs', hQ', hH'⟩ := hQ
  subst l2 y2 z2
  exact ⟨T2, v', cs', hQ', ⟨_, X2, N.app N2, hH'⟩, st⟩
end Calls
end OwnHeap
section OwnClaim
open Jvm.Free.Fl
def zQ : List (Nat × Value) := []
theorem zC : ∀ q ∈ zQ, ∃ w ∈ tables_1, zAj "com/example/tangentia/tangentia/flash/StabilityTestPresentComponentsPinLaw" q.1 q.2 w := by
  intro q hq
  exact absurd hq (List.not_mem_nil)
theorem zx : plainName "com/example/tangentia/tangentia/flash/StabilityTestPresentComponentsPinLaw" = true := by first | (simp [plainName, overriddenIn]; done) | decide +kernel
theorem d1_0 : decode ok0 0 = .ok (.iconst 0, 1) := by decide +kernel
theorem d1_1 : decode ok0 1 = .ok (.istore_n 1, 1) := by decide +kernel
theorem d1_2 : decode ok0 2 = .ok (.aload_n 0, 1) := by decide +kernel
theorem d1_3 : decode ok0 3 = .ok (.astore_n 2, 1) := by decide +kernel
theorem d1_4 : decode ok0 4 = .ok (.aload_n 2, 1) := by decide +kernel
theorem d1_5 : decode ok0 5 = .ok (.arraylength, 1) := by decide +kernel
theorem d1_6 : decode ok0 6 = .ok (.istore_n 3, 1) := by decide +kernel
theorem d1_7 : decode ok0 7 = .ok (.iconst 0, 1) := by decide +kernel
theorem d1_8 : decode ok0 8 = .ok (.istore 4, 2) := by decide +kernel
theorem d1_10 : decode ok0 10 = .ok (.iload 4, 2) := by decide +kernel
theorem d1_12 : decode ok0 12 = .ok (.iload_n 3, 1) := by decide +kernel
theorem d1_13 : decode ok0 13 = .ok (.if_icmp .ge 30, 3) := by decide +kernel
theorem d1_16 : decode ok0 16 = .ok (.aload_n 2, 1) := by decide +kernel
theorem d1_17 : decode ok0 17 = .ok (.iload 4, 2) := by decide +kernel
theorem d1_19 : decode ok0 19 = .ok (.daload, 1) := by decide +kernel
theorem d1_20 : decode ok0 20 = .ok (.dstore 5, 2) := by decide +kernel
theorem d1_22 : decode ok0 22 = .ok (.iload_n 1, 1) := by decide +kernel
theorem d1_23 : decode ok0 23 = .ok (.dload 5, 2) := by decide +kernel
theorem d1_25 : decode ok0 25 = .ok (.dconst 0, 1) := by decide +kernel
theorem d1_26 : decode ok0 26 = .ok (.dcmp .l, 1) := by decide +kernel
theorem d1_27 : decode ok0 27 = .ok (.ifCond .le 7, 3) := by decide +kernel
theorem d1_30 : decode ok0 30 = .ok (.iconst 1, 1) := by decide +kernel
theorem d1_31 : decode ok0 31 = .ok (.goto 4, 3) := by decide +kernel
theorem d1_34 : decode ok0 34 = .ok (.iconst 0, 1) := by decide +kernel
theorem d1_35 : decode ok0 35 = .ok (.iadd, 1) := by decide +kernel
theorem d1_36 : decode ok0 36 = .ok (.istore_n 1, 1) := by decide +kernel
theorem d1_37 : decode ok0 37 = .ok (.iinc 4 1, 3) := by decide +kernel
theorem d1_40 : decode ok0 40 = .ok (.goto (-30), 3) := by decide +kernel
theorem d1_43 : decode ok0 43 = .ok (.iload_n 1, 1) := by decide +kernel
theorem d1_44 : decode ok0 44 = .ok (.newarray .int, 2) := by decide +kernel
theorem d1_46 : decode ok0 46 = .ok (.astore_n 2, 1) := by decide +kernel
theorem d1_47 : decode ok0 47 = .ok (.iconst 0, 1) := by decide +kernel
theorem d1_48 : decode ok0 48 = .ok (.istore_n 3, 1) := by decide +kernel
theorem d1_49 : decode ok0 49 = .ok (.iconst 0, 1) := by decide +kernel
theorem d1_50 : decode ok0 50 = .ok (.istore 4, 2) := by decide +kernel
theorem d1_52 : decode ok0 52 = .ok (.iload 4, 2) := by decide +kernel
theorem d1_54 : decode ok0 54 = .ok (.aload_n 0, 1) := by decide +kernel
theorem d1_55 : decode ok0 55 = .ok (.arraylength, 1) := by decide +kernel
theorem d1_56 : decode ok0 56 = .ok (.if_icmp .ge 26, 3) := by decide +kernel
theorem d1_59 : decode ok0 59 = .ok (.aload_n 0, 1) := by decide +kernel
theorem d1_60 : decode ok0 60 = .ok (.iload 4, 2) := by decide +kernel
theorem d1_62 : decode ok0 62 = .ok (.daload, 1) := by decide +kernel
theorem d1_63 : decode ok0 63 = .ok (.dconst 0, 1) := by decide +kernel
theorem d1_64 : decode ok0 64 = .ok (.dcmp .l, 1) := by decide +kernel
theorem d1_65 : decode ok0 65 = .ok (.ifCond .le 11, 3) := by decide +kernel
theorem d1_68 : decode ok0 68 = .ok (.aload_n 2, 1) := by decide +kernel
theorem d1_69 : decode ok0 69 = .ok (.iload_n 3, 1) := by decide +kernel
theorem d1_70 : decode ok0 70 = .ok (.iinc 3 1, 3) := by decide +kernel
theorem d1_73 : decode ok0 73 = .ok (.iload 4, 2) := by decide +kernel
theorem d1_75 : decode ok0 75 = .ok (.iastore, 1) := by decide +kernel
theorem d1_76 : decode ok0 76 = .ok (.iinc 4 1, 3) := by decide +kernel
theorem d1_79 : decode ok0 79 = .ok (.goto (-27), 3) := by decide +kernel
theorem d1_82 : decode ok0 82 = .ok (.aload_n 2, 1) := by decide +kernel
theorem d1_83 : decode ok0 83 = .ok (.areturn, 1) := by decide +kernel
def zM : List (Nat × Value) := []
theorem zD : ∀ q ∈ zM, ∃ w ∈ tables_1, zAj "com/example/tangentia/tangentia/flash/StabilityTest" q.1 q.2 w := by
  intro q hq
  exact absurd hq (List.not_mem_nil)
theorem zy : plainName "com/example/tangentia/tangentia/flash/StabilityTest" = true := by first | (simp [plainName, overriddenIn]; done) | decide +kernel
theorem zz : parseMethodDescriptor "([D)[I" = some ⟨[(.array .double)], some (.array .int)⟩ := by decide +kernel
theorem zAA (m : MethodId) (x0 : Addr) : entryFrame m #[(.ref x0)] 7 = mkF m 0 #[oa x0, ou, ou, ou, ou, ou, ou] [] := by first | (simp [entryFrame, mkF, argsToLocals, Value.category]; done) | rfl
theorem zAB (m : MethodId) (x0 : Int32) (x1 : Int32) (x2 : Int32) (x3 : Int32) : entryFrame m #[(.int x0), (.int x1), (.int x2), (.int x3)] maxLocals = mkF m 0 #[oi x0, oi x1, oi x2, oi x3, ou, ou, ou, ou, ou, ou] [] := by first | (simp [entryFrame, mkF, argsToLocals, Value.category, maxLocals]; done) | rfl

theorem zAC {t : FieldType} (x : Addr) : zBX .areturn (.array t) (.ref x) := ⟨rfl, Or.inr (Or.inr (Or.inr (Or.inr ⟨rfl, rfl, rfl⟩)))⟩
theorem zn {x : Int32} (h : ifCond.holds .le x = false) : decide (((x.toInt : Int) : Rat) ≤ 0) = false := by
  rw [own_z_le] at h
  rw [decide_eq_false_iff_not] at h ⊢
  intro q
  exact h (Rat.intCast_le_intCast.mp q)
theorem zo {x : Int32} (h : ifCond.holds .le x = true) : decide (((x.toInt : Int) : Rat) ≤ 0) = true := by
  rw [own_z_le] at h
  rw [decide_eq_true_eq] at h ⊢
  exact Rat.intCast_le_intCast.mpr h
theorem zAD (x : Addr) :
    zE zM ok0 0 #[oa x, ou, ou, ou, ou, ou, ou] [] 5 #[oa x, oi 0, oa x, ou, ou, ou, ou] [(.ref x)] := by
  refine zH (v := 0) (pc2 := 1) d1_0 rfl rfl ?_
  refine zq (pc2 := 2) d1_1 rfl (L' := #[oa x, oi 0, ou, ou, ou, ou, ou]) rfl ?_
  refine zN (pc2 := 3) d1_2 rfl rfl rfl ?_
  refine zAW (pc2 := 4) d1_3 rfl rfl (L' := #[oa x, oi 0, oa x, ou, ou, ou, ou]) rfl ?_
  refine zN (pc2 := 5) d1_4 rfl rfl rfl ?_
  exact zF
theorem zAE (x : Addr) :
    zE zM ok0 6 #[oa x, oi 0, oa x, ou, ou, ou, ou] [(.int 4)] 19 #[oa x, oi 0, oa x, oi 4, oi 0, ou, ou] [(.int 0), (.ref x)] := by
  refine zq (pc2 := 7) d1_6 rfl (L' := #[oa x, oi 0, oa x, oi 4, ou, ou, ou]) rfl ?_
  refine zH (v := 0) (pc2 := 8) d1_7 rfl rfl ?_
  refine zi (pc2 := 10) d1_8 rfl (L' := #[oa x, oi 0, oa x, oi 4, oi 0, ou, ou]) rfl ?_
  refine zG (pc2 := 12) d1_10 rfl rfl ?_
  refine zL (pc2 := 13) d1_12 rfl rfl ?_
  refine zV (pc2 := 16) d1_13 rfl (by decide) ?_
  refine zN (pc2 := 17) d1_16 rfl rfl rfl ?_
  refine zG (pc2 := 19) d1_17 rfl rfl ?_
  exact zF
theorem zAQ (x : Addr) (da : UInt64) (v26 : Int32) (hv26 : (cmpValue (FP.dcmp da (0 : UInt64)) .l) = v26) (hb27_0 : ifCond.holds .le v26 = true) :
    zE zM ok0 20 #[oa x, oi 0, oa x, oi 4, oi 0, ou, ou] [(.double da)] 19 #[oa x, oi 0, oa x, oi 4, oi 1, .val (.double da), .second] [(.int 1), (.ref x)] := by
  refine zt (pc2 := 22) d1_20 rfl (L' := #[oa x, oi 0, oa x, oi 4, oi 0, .val (.double da), .second]) rfl ?_
  refine zL (pc2 := 23) d1_22 rfl rfl ?_
  refine zs (pc2 := 25) d1_23 rfl rfl ?_
  refine zf (v := 0) (pc2 := 26) d1_25 rfl rfl ?_
  refine zT (pc2 := 27) d1_26 rfl (v := v26) hv26 ?_
  refine zg (pc' := 34) d1_27 hb27_0 (by decide) (by decide) ?_
  refine zH (v := 0) (pc2 := 35) d1_34 rfl rfl ?_
  refine zk (pc2 := 36) d1_35 rfl (v := (0 : Int32)) (by decide) ?_
  refine zq (pc2 := 37) d1_36 rfl (L' := #[oa x, oi 0, oa x, oi 4, oi 0, .val (.double da), .second]) rfl ?_
  refine zU (pc2 := 40) d1_37 rfl rfl (v := (1 : Int32)) (by decide) (L' := #[oa x, oi 0, oa x, oi 4, oi 1, .val (.double da), .second]) rfl ?_
  refine zS (pc' := 10) d1_40 (by decide) (by decide) ?_
  refine zG (pc2 := 12) d1_10 rfl rfl ?_
  refine zL (pc2 := 13) d1_12 rfl rfl ?_
  refine zV (pc2 := 16) d1_13 rfl (by decide) ?_
  refine zN (pc2 := 17) d1_16 rfl rfl rfl ?_
  refine zG (pc2 := 19) d1_17 rfl rfl ?_
  exact zF
theorem zAr (x : Addr) (da : UInt64) (db : UInt64) (v26' : Int32) (hv26' : (cmpValue (FP.dcmp db (0 : UInt64)) .l) = v26') (hb27_1 : ifCond.holds .le v26' = true) :
    zE zM ok0 20 #[oa x, oi 0, oa x, oi 4, oi 1, .val (.double da), .second] [(.double db)] 19 #[oa x, oi 0, oa x, oi 4, oi 2, .val (.double db), .second] [(.int 2), (.ref x)] := by
  refine zt (pc2 := 22) d1_20 rfl (L' := #[oa x, oi 0, oa x, oi 4, oi 1, .val (.double db), .second]) rfl ?_
  refine zL (pc2 := 23) d1_22 rfl rfl ?_
  refine zs (pc2 := 25) d1_23 rfl rfl ?_
  refine zf (v := 0) (pc2 := 26) d1_25 rfl rfl ?_
  refine zT (pc2 := 27) d1_26 rfl (v := v26') hv26' ?_
  refine zg (pc' := 34) d1_27 hb27_1 (by decide) (by decide) ?_
  refine zH (v := 0) (pc2 := 35) d1_34 rfl rfl ?_
  refine zk (pc2 := 36) d1_35 rfl (v := (0 : Int32)) (by decide) ?_
  refine zq (pc2 := 37) d1_36 rfl (L' := #[oa x, oi 0, oa x, oi 4, oi 1, .val (.double db), .second]) rfl ?_
  refine zU (pc2 := 40) d1_37 rfl rfl (v := (2 : Int32)) (by decide) (L' := #[oa x, oi 0, oa x, oi 4, oi 2, .val (.double db), .second]) rfl ?_
  refine zS (pc' := 10) d1_40 (by decide) (by decide) ?_
  refine zG (pc2 := 12) d1_10 rfl rfl ?_
  refine zL (pc2 := 13) d1_12 rfl rfl ?_
  refine zV (pc2 := 16) d1_13 rfl (by decide) ?_
  refine zN (pc2 := 17) d1_16 rfl rfl rfl ?_
  refine zG (pc2 := 19) d1_17 rfl rfl ?_
  exact zF
theorem own_p0_4 (x : Addr) (db : UInt64) (dc : UInt64) (v26'' : Int32) (hv26'' : (cmpValue (FP.dcmp dc (0 : UInt64)) .l) = v26'') (hb27_2 : ifCond.holds .le v26'' = true) :
    zE zM ok0 20 #[oa x, oi 0, oa x, oi 4, oi 2, .val (.double db), .second] [(.double dc)] 19 #[oa x, oi 0, oa x, oi 4, oi 3, .val (.double dc), .second] [(.int 3), (.ref x)] := by
  refine zt (pc2 := 22) d1_20 rfl (L' := #[oa x, oi 0, oa x, oi 4, oi 2, .val (.double dc), .second]) rfl ?_
  refine zL (pc2 := 23) d1_22 rfl rfl ?_
  refine zs (pc2 := 25) d1_23 rfl rfl ?_
  refine zf (v := 0) (pc2 := 26) d1_25 rfl rfl ?_
  refine zT (pc2 := 27) d1_26 rfl (v := v26'') hv26'' ?_
  refine zg (pc' := 34) d1_27 hb27_2 (by decide) (by decide) ?_
  refine zH (v := 0) (pc2 := 35) d1_34 rfl rfl ?_
  refine zk (pc2 := 36) d1_35 rfl (v := (0 : Int32)) (by decide) ?_
  refine zq (pc2 := 37) d1_36 rfl (L' := #[oa x, oi 0, oa x, oi 4, oi 2, .val (.double dc), .second]) rfl ?_
  refine zU (pc2 := 40) d1_37 rfl rfl (v := (3 : Int32)) (by decide) (L' := #[oa x, oi 0, oa x, oi 4, oi 3, .val (.double dc), .second]) rfl ?_
  refine zS (pc' := 10) d1_40 (by decide) (by decide) ?_
  refine zG (pc2 := 12) d1_10 rfl rfl ?_
  refine zL (pc2 := 13) d1_12 rfl rfl ?_
  refine zV (pc2 := 16) d1_13 rfl (by decide) ?_
  refine zN (pc2 := 17) d1_16 rfl rfl rfl ?_
  refine zG (pc2 := 19) d1_17 rfl rfl ?_
  exact zF
theorem own_p0_5 (x : Addr) (dc : UInt64) (dd : UInt64) (v26''' : Int32) (hv26''' : (cmpValue (FP.dcmp dd (0 : UInt64)) .l) = v26''') (hb27_3 : ifCond.holds .le v26''' = true) :
    zE zM ok0 20 #[oa x, oi 0, oa x, oi 4, oi 3, .val (.double dc), .second] [(.double dd)] 44 #[oa x, oi 0, oa x, oi 4, oi 4, .val (.double dd), .second] [(.int 0)] := by
  refine zt (pc2 := 22) d1_20 rfl (L' := #[oa x, oi 0, oa x, oi 4, oi 3, .val (.double dd), .second]) rfl ?_
  refine zL (pc2 := 23) d1_22 rfl rfl ?_
  refine zs (pc2 := 25) d1_23 rfl rfl ?_
  refine zf (v := 0) (pc2 := 26) d1_25 rfl rfl ?_
  refine zT (pc2 := 27) d1_26 rfl (v := v26''') hv26''' ?_
  refine zg (pc' := 34) d1_27 hb27_3 (by decide) (by decide) ?_
  refine zH (v := 0) (pc2 := 35) d1_34 rfl rfl ?_
  refine zk (pc2 := 36) d1_35 rfl (v := (0 : Int32)) (by decide) ?_
  refine zq (pc2 := 37) d1_36 rfl (L' := #[oa x, oi 0, oa x, oi 4, oi 3, .val (.double dd), .second]) rfl ?_
  refine zU (pc2 := 40) d1_37 rfl rfl (v := (4 : Int32)) (by decide) (L' := #[oa x, oi 0, oa x, oi 4, oi 4, .val (.double dd), .second]) rfl ?_
  refine zS (pc' := 10) d1_40 (by decide) (by decide) ?_
  refine zG (pc2 := 12) d1_10 rfl rfl ?_
  refine zL (pc2 := 13) d1_12 rfl rfl ?_
  refine zj (pc' := 43) d1_13 (by decide) (by decide) (by decide) ?_
  refine zL (pc2 := 44) d1_43 rfl rfl ?_
  exact zF
theorem own_p0_6 (x : Addr) (dd : UInt64) (z : Addr) :
    zE zM ok0 46 #[oa x, oi 0, oa x, oi 4, oi 4, .val (.double dd), .second] [(.ref z)] 55 #[oa x, oi 0, oa z, oi 0, oi 0, .val (.double dd), .second] [(.ref x), (.int 0)] := by
  refine zAW (pc2 := 47) d1_46 rfl rfl (L' := #[oa x, oi 0, oa z, oi 4, oi 4, .val (.double dd), .second]) rfl ?_
  refine zH (v := 0) (pc2 := 48) d1_47 rfl rfl ?_
  refine zq (pc2 := 49) d1_48 rfl (L' := #[oa x, oi 0, oa z, oi 0, oi 4, .val (.double dd), .second]) rfl ?_
  refine zH (v := 0) (pc2 := 50) d1_49 rfl rfl ?_
  refine zi (pc2 := 52) d1_50 rfl (L' := #[oa x, oi 0, oa z, oi 0, oi 0, .val (.double dd), .second]) rfl ?_
  refine zG (pc2 := 54) d1_52 rfl rfl ?_
  refine zN (pc2 := 55) d1_54 rfl rfl rfl ?_
  exact zF
theorem own_p0_7 (x : Addr) (z : Addr) (dd : UInt64) :
    zE zM ok0 56 #[oa x, oi 0, oa z, oi 0, oi 0, .val (.double dd), .second] [(.int 4), (.int 0)] 62 #[oa x, oi 0, oa z, oi 0, oi 0, .val (.double dd), .second] [(.int 0), (.ref x)] := by
  refine zV (pc2 := 59) d1_56 rfl (by decide) ?_
  refine zN (pc2 := 60) d1_59 rfl rfl rfl ?_
  refine zG (pc2 := 62) d1_60 rfl rfl ?_
  exact zF
theorem own_p0_8 (x : Addr) (z : Addr) (dd : UInt64) (da : UInt64) (v64 : Int32) (hv64 : (cmpValue (FP.dcmp da (0 : UInt64)) .l) = v64) (hb65_0 : ifCond.holds .le v64 = true) :
    zE zM ok0 63 #[oa x, oi 0, oa z, oi 0, oi 0, .val (.double dd), .second] [(.double da)] 55 #[oa x, oi 0, oa z, oi 0, oi 1, .val (.double dd), .second] [(.ref x), (.int 1)] := by
  refine zf (v := 0) (pc2 := 64) d1_63 rfl rfl ?_
  refine zT (pc2 := 65) d1_64 rfl (v := v64) hv64 ?_
  refine zg (pc' := 76) d1_65 hb65_0 (by decide) (by decide) ?_
  refine zU (pc2 := 79) d1_76 rfl rfl (v := (1 : Int32)) (by decide) (L' := #[oa x, oi 0, oa z, oi 0, oi 1, .val (.double dd), .second]) rfl ?_
  refine zS (pc' := 52) d1_79 (by decide) (by decide) ?_
  refine zG (pc2 := 54) d1_52 rfl rfl ?_
  refine zN (pc2 := 55) d1_54 rfl rfl rfl ?_
  exact zF
theorem own_p0_9 (x : Addr) (z : Addr) (dd : UInt64) :
    zE zM ok0 56 #[oa x, oi 0, oa z, oi 0, oi 1, .val (.double dd), .second] [(.int 4), (.int 1)] 62 #[oa x, oi 0, oa z, oi 0, oi 1, .val (.double dd), .second] [(.int 1), (.ref x)] := by
  refine zV (pc2 := 59) d1_56 rfl (by decide) ?_
  refine zN (pc2 := 60) d1_59 rfl rfl rfl ?_
  refine zG (pc2 := 62) d1_60 rfl rfl ?_
  exact zF
theorem own_p0_10 (x : Addr) (z : Addr) (dd : UInt64) (db : UInt64) (v64' : Int32) (hv64' : (cmpValue (FP.dcmp db (0 : UInt64)) .l) = v64') (hb65_1 : ifCond.holds .le v64' = true) :
    zE zM ok0 63 #[oa x, oi 0, oa z, oi 0, oi 1, .val (.double dd), .second] [(.double db)] 55 #[oa x, oi 0, oa z, oi 0, oi 2, .val (.double dd), .second] [(.ref x), (.int 2)] := by
  refine zf (v := 0) (pc2 := 64) d1_63 rfl rfl ?_
  refine zT (pc2 := 65) d1_64 rfl (v := v64') hv64' ?_
  refine zg (pc' := 76) d1_65 hb65_1 (by decide) (by decide) ?_
  refine zU (pc2 := 79) d1_76 rfl rfl (v := (2 : Int32)) (by decide) (L' := #[oa x, oi 0, oa z, oi 0, oi 2, .val (.double dd), .second]) rfl ?_
  refine zS (pc' := 52) d1_79 (by decide) (by decide) ?_
  refine zG (pc2 := 54) d1_52 rfl rfl ?_
  refine zN (pc2 := 55) d1_54 rfl rfl rfl ?_
  exact zF
theorem own_p0_11 (x : Addr) (z : Addr) (dd : UInt64) :
    zE zM ok0 56 #[oa x, oi 0, oa z, oi 0, oi 2, .val (.double dd), .second] [(.int 4), (.int 2)] 62 #[oa x, oi 0, oa z, oi 0, oi 2, .val (.double dd), .second] [(.int 2), (.ref x)] := by
  refine zV (pc2 := 59) d1_56 rfl (by decide) ?_
  refine zN (pc2 := 60) d1_59 rfl rfl rfl ?_
  refine zG (pc2 := 62) d1_60 rfl rfl ?_
  exact zF
theorem own_p0_12 (x : Addr) (z : Addr) (dd : UInt64) (dc : UInt64) (v64'' : Int32) (hv64'' : (cmpValue (FP.dcmp dc (0 : UInt64)) .l) = v64'') (hb65_2 : ifCond.holds .le v64'' = true) :
    zE zM ok0 63 #[oa x, oi 0, oa z, oi 0, oi 2, .val (.double dd), .second] [(.double dc)] 55 #[oa x, oi 0, oa z, oi 0, oi 3, .val (.double dd), .second] [(.ref x), (.int 3)] := by
  refine zf (v := 0) (pc2 := 64) d1_63 rfl rfl ?_
  refine zT (pc2 := 65) d1_64 rfl (v := v64'') hv64'' ?_
  refine zg (pc' := 76) d1_65 hb65_2 (by decide) (by decide) ?_
  refine zU (pc2 := 79) d1_76 rfl rfl (v := (3 : Int32)) (by decide) (L' := #[oa x, oi 0, oa z, oi 0, oi 3, .val (.double dd), .second]) rfl ?_
  refine zS (pc' := 52) d1_79 (by decide) (by decide) ?_
  refine zG (pc2 := 54) d1_52 rfl rfl ?_
  refine zN (pc2 := 55) d1_54 rfl rfl rfl ?_
  exact zF
theorem own_p0_13 (x : Addr) (z : Addr) (dd : UInt64) :
    zE zM ok0 56 #[oa x, oi 0, oa z, oi 0, oi 3, .val (.double dd), .second] [(.int 4), (.int 3)] 62 #[oa x, oi 0, oa z, oi 0, oi 3, .val (.double dd), .second] [(.int 3), (.ref x)] := by
  refine zV (pc2 := 59) d1_56 rfl (by decide) ?_
  refine zN (pc2 := 60) d1_59 rfl rfl rfl ?_
  refine zG (pc2 := 62) d1_60 rfl rfl ?_
  exact zF
theorem own_p0_14 (x : Addr) (z : Addr) (dd : UInt64) (v64''' : Int32) (hv64''' : (cmpValue (FP.dcmp dd (0 : UInt64)) .l) = v64''') (hb65_3 : ifCond.holds .le v64''' = true) :
    zE zM ok0 63 #[oa x, oi 0, oa z, oi 0, oi 3, .val (.double dd), .second] [(.double dd)] 55 #[oa x, oi 0, oa z, oi 0, oi 4, .val (.double dd), .second] [(.ref x), (.int 4)] := by
  refine zf (v := 0) (pc2 := 64) d1_63 rfl rfl ?_
  refine zT (pc2 := 65) d1_64 rfl (v := v64''') hv64''' ?_
  refine zg (pc' := 76) d1_65 hb65_3 (by decide) (by decide) ?_
  refine zU (pc2 := 79) d1_76 rfl rfl (v := (4 : Int32)) (by decide) (L' := #[oa x, oi 0, oa z, oi 0, oi 4, .val (.double dd), .second]) rfl ?_
  refine zS (pc' := 52) d1_79 (by decide) (by decide) ?_
  refine zG (pc2 := 54) d1_52 rfl rfl ?_
  refine zN (pc2 := 55) d1_54 rfl rfl rfl ?_
  exact zF
theorem own_p0_15 (x : Addr) (z : Addr) (dd : UInt64) :
    zE zM ok0 56 #[oa x, oi 0, oa z, oi 0, oi 4, .val (.double dd), .second] [(.int 4), (.int 4)] 83 #[oa x, oi 0, oa z, oi 0, oi 4, .val (.double dd), .second] [(.ref z)] := by
  refine zj (pc' := 82) d1_56 (by decide) (by decide) (by decide) ?_
  refine zN (pc2 := 83) d1_82 rfl rfl rfl ?_
  exact zF
set_option maxRecDepth 65536 in
set_option maxHeartbeats 4000000 in
theorem own_q0 (l : Launch) (Z : State) (a0 : Array Value) (hb0 : Heap) (hw : ∀ d ∈ tables_1, d.before a0 Z = true) (x : Addr) (y : Addr) (da db dc dd : UInt64) (hp0 : ifCond.holds .le (cmpValue (FP.dcmp da (0 : UInt64)) .l) = true) (hp1 : ifCond.holds .le (cmpValue (FP.dcmp db (0 : UInt64)) .l) = true) (hp2 : ifCond.holds .le (cmpValue (FP.dcmp dc (0 : UInt64)) .l) = true) (hp3 : ifCond.holds .le (cmpValue (FP.dcmp dd (0 : UInt64)) .l) = true) :
    zl l Z a0 hb0 (⟨"com/example/tangentia/tangentia/flash/StabilityTest", "presentComponents", "([D)[I"⟩ : MethodName) ok0 7 (some (.array .int)) [] ({ frames := 0, cells := 1, slots := 0, locals := 0 } : Room) #[(.ref x)] [(x, zB .double [.double da, .double db, .double dc, .double dd]), (y, zB .int [.int 0, .int 0, .int 0, .int 0])] (fun r cs' => ∃ z, r = some (.ref z) ∧ cs' = [(x, zB .double [.double da, .double db, .double dc, .double dd]), (y, zB .int [.int 0, .int 0, .int 0, .int 0]), (z, zB .int [])]) := by
  refine zm (L0 := #[oa x, ou, ou, ou, ou, ou, ou]) (plainFor_of_name zy) (fun m => zAA m x) ?_
  intro p e s m below meth c T0 hx hZ hown hby hml hnm H0
  obtain ⟨v26, hv26⟩ : ∃ z : Int32, (cmpValue (FP.dcmp da (0 : UInt64)) .l) = z := ⟨_, rfl⟩
  obtain ⟨v26', hv26'⟩ : ∃ z : Int32, (cmpValue (FP.dcmp db (0 : UInt64)) .l) = z := ⟨_, rfl⟩
  obtain ⟨v26'', hv26''⟩ : ∃ z : Int32, (cmpValue (FP.dcmp dc (0 : UInt64)) .l) = z := ⟨_, rfl⟩
  obtain ⟨v26''', hv26'''⟩ : ∃ z : Int32, (cmpValue (FP.dcmp dd (0 : UInt64)) .l) = z := ⟨_, rfl⟩
  obtain ⟨Tp0_6, z, Hp0_6, stp0_6⟩ := zh H0 hx hZ (zO hw 1 rfl) (g := (mkF m 44 #[oa x, oi 0, oa x, oi 4, oi 4, .val (.double dd), .second] [(.int 0)])) rfl (hb hby d1_44) rfl (by decide) (cap := 0) (by decide) (by decide) (by decide) (by decide)
  change zK _ _ _ _ _ _ _ _ _ _ _ _ _ _ [(x, zB .double [.double da, .double db, .double dc, .double dd]), (y, zB .int [.int 0, .int 0, .int 0, .int 0]), (z, zB .int [])] _ _ at Hp0_6
  obtain ⟨v64, hv64⟩ : ∃ z : Int32, (cmpValue (FP.dcmp da (0 : UInt64)) .l) = z := ⟨_, rfl⟩
  obtain ⟨v64', hv64'⟩ : ∃ z : Int32, (cmpValue (FP.dcmp db (0 : UInt64)) .l) = z := ⟨_, rfl⟩
  obtain ⟨v64'', hv64''⟩ : ∃ z : Int32, (cmpValue (FP.dcmp dc (0 : UInt64)) .l) = z := ⟨_, rfl⟩
  obtain ⟨v64''', hv64'''⟩ : ∃ z : Int32, (cmpValue (FP.dcmp dd (0 : UInt64)) .l) = z := ⟨_, rfl⟩
  have hb27_0 : ifCond.holds .le v26 = true := by rw [← hv26]; exact hp0
  have hb27_1 : ifCond.holds .le v26' = true := by rw [← hv26']; exact hp1
  have hb27_2 : ifCond.holds .le v26'' = true := by rw [← hv26'']; exact hp2
  have hb27_3 : ifCond.holds .le v26''' = true := by rw [← hv26''']; exact hp3
  have hb65_0 : ifCond.holds .le v64 = true := by rw [← hv64]; exact hp0
  have hb65_1 : ifCond.holds .le v64' = true := by rw [← hv64']; exact hp1
  have hb65_2 : ifCond.holds .le v64'' = true := by rw [← hv64'']; exact hp2
  have hb65_3 : ifCond.holds .le v64''' = true := by rw [← hv64''']; exact hp3
  refine ⟨_, _, _, _, 83, #[oa x, oi 0, oa z, oi 0, oi 4, .val (.double dd), .second], Hp0_6, by decide, by decide, Or.inr ⟨(.array .int), (.ref z), [], .areturn, rfl, ⟨z, rfl, rfl⟩, d1_83, zAC _, fun target q => ?_⟩⟩
  refine zA H0 hx hZ hown hby hw zD (zAD x) _ ?_
  refine zP H0 hx hZ 0 rfl (z := (4 : Int32)) rfl (g := (mkF m 5 #[oa x, oi 0, oa x, ou, ou, ou, ou] [(.ref x)])) rfl rfl (hb hby d1_5) _ ?_
  refine zA H0 hx hZ hown hby hw zD (zAE x) _ ?_
  refine zJ H0 hx hZ 0 0 rfl (by decide) rfl (g := (mkF m 19 #[oa x, oi 0, oa x, oi 4, oi 0, ou, ou] [(.int 0), (.ref x)])) rfl rfl (hb hby d1_19) _ ?_
  refine zA H0 hx hZ hown hby hw zD (zAQ x da v26 hv26 hb27_0) _ ?_
  refine zJ H0 hx hZ 0 1 rfl (by decide) rfl (g := (mkF m 19 #[oa x, oi 0, oa x, oi 4, oi 1, .val (.double da), .second] [(.int 1), (.ref x)])) rfl rfl (hb hby d1_19) _ ?_
  refine zA H0 hx hZ hown hby hw zD (zAr x da db v26' hv26' hb27_1) _ ?_
  refine zJ H0 hx hZ 0 2 rfl (by decide) rfl (g := (mkF m 19 #[oa x, oi 0, oa x, oi 4, oi 2, .val (.double db), .second] [(.int 2), (.ref x)])) rfl rfl (hb hby d1_19) _ ?_
  refine zA H0 hx hZ hown hby hw zD (own_p0_4 x db dc v26'' hv26'' hb27_2) _ ?_
  refine zJ H0 hx hZ 0 3 rfl (by decide) rfl (g := (mkF m 19 #[oa x, oi 0, oa x, oi 4, oi 3, .val (.double dc), .second] [(.int 3), (.ref x)])) rfl rfl (hb hby d1_19) _ ?_
  refine zA H0 hx hZ hown hby hw zD (own_p0_5 x dc dd v26''' hv26''' hb27_3) _ ?_
  refine stp0_6 _ ?_
  refine zA Hp0_6 hx hZ hown hby hw zD (own_p0_6 x dd z) _ ?_
  refine zP Hp0_6 hx hZ 0 rfl (z := (4 : Int32)) rfl (g := (mkF m 55 #[oa x, oi 0, oa z, oi 0, oi 0, .val (.double dd), .second] [(.ref x), (.int 0)])) rfl rfl (hb hby d1_55) _ ?_
  refine zA Hp0_6 hx hZ hown hby hw zD (own_p0_7 x z dd) _ ?_
  refine zJ Hp0_6 hx hZ 0 0 rfl (by decide) rfl (g := (mkF m 62 #[oa x, oi 0, oa z, oi 0, oi 0, .val (.double dd), .second] [(.int 0), (.ref x)])) rfl rfl (hb hby d1_62) _ ?_
  refine zA Hp0_6 hx hZ hown hby hw zD (own_p0_8 x z dd da v64 hv64 hb65_0) _ ?_
  refine zP Hp0_6 hx hZ 0 rfl (z := (4 : Int32)) rfl (g := (mkF m 55 #[oa x, oi 0, oa z, oi 0, oi 1, .val (.double dd), .second] [(.ref x), (.int 1)])) rfl rfl (hb hby d1_55) _ ?_
  refine zA Hp0_6 hx hZ hown hby hw zD (own_p0_9 x z dd) _ ?_
  refine zJ Hp0_6 hx hZ 0 1 rfl (by decide) rfl (g := (mkF m 62 #[oa x, oi 0, oa z, oi 0, oi 1, .val (.double dd), .second] [(.int 1), (.ref x)])) rfl rfl (hb hby d1_62) _ ?_
  refine zA Hp0_6 hx hZ hown hby hw zD (own_p0_10 x z dd db v64' hv64' hb65_1) _ ?_
  refine zP Hp0_6 hx hZ 0 rfl (z := (4 : Int32)) rfl (g := (mkF m 55 #[oa x, oi 0, oa z, oi 0, oi 2, .val (.double dd), .second] [(.ref x), (.int 2)])) rfl rfl (hb hby d1_55) _ ?_
  refine zA Hp0_6 hx hZ hown hby hw zD (own_p0_11 x z dd) _ ?_
  refine zJ Hp0_6 hx hZ 0 2 rfl (by decide) rfl (g := (mkF m 62 #[oa x, oi 0, oa z, oi 0, oi 2, .val (.double dd), .second] [(.int 2), (.ref x)])) rfl rfl (hb hby d1_62) _ ?_
  refine zA Hp0_6 hx hZ hown hby hw zD (own_p0_12 x z dd dc v64'' hv64'' hb65_2) _ ?_
  refine zP Hp0_6 hx hZ 0 rfl (z := (4 : Int32)) rfl (g := (mkF m 55 #[oa x, oi 0, oa z, oi 0, oi 3, .val (.double dd), .second] [(.ref x), (.int 3)])) rfl rfl (hb hby d1_55) _ ?_
  refine zA Hp0_6 hx hZ hown hby hw zD (own_p0_13 x z dd) _ ?_
  refine zJ Hp0_6 hx hZ 0 3 rfl (by decide) rfl (g := (mkF m 62 #[oa x, oi 0, oa z, oi 0, oi 3, .val (.double dd), .second] [(.int 3), (.ref x)])) rfl rfl (hb hby d1_62) _ ?_
  refine zA Hp0_6 hx hZ hown hby hw zD (own_p0_14 x z dd v64''' hv64''' hb65_3) _ ?_
  refine zP Hp0_6 hx hZ 0 rfl (z := (4 : Int32)) rfl (g := (mkF m 55 #[oa x, oi 0, oa z, oi 0, oi 4, .val (.double dd), .second] [(.ref x), (.int 4)])) rfl rfl (hb hby d1_55) _ ?_
  refine zA Hp0_6 hx hZ hown hby hw zD (own_p0_15 x z dd) _ ?_
  exact q
theorem zAF (xa : Int32) (xb : Int32) (xc : Int32) (xd : Int32) :
    zE zQ code 0 #[oi xa, oi xb, oi xc, oi xd, ou, ou, ou, ou, ou, ou] [] 1 #[oi xa, oi xb, oi xc, oi xd, ou, ou, ou, ou, ou, ou] [(.int 4)] := by
  refine zH (v := 4) (pc2 := 1) at_0 rfl rfl ?_
  exact zF
theorem zAG (xa : Int32) (xb : Int32) (xc : Int32) (xd : Int32) (x : Addr) (v9 : UInt64) (hv9 : (FP.i2d xa) = v9) :
    zE zQ code 3 #[oi xa, oi xb, oi xc, oi xd, ou, ou, ou, ou, ou, ou] [(.ref x)] 10 #[oi xa, oi xb, oi xc, oi xd, oa x, ou, ou, ou, ou, ou] [(.double v9), (.int 0), (.ref x)] := by
  refine zAL (pc2 := 5) at_3 rfl rfl (L' := #[oi xa, oi xb, oi xc, oi xd, oa x, ou, ou, ou, ou, ou]) rfl ?_
  refine zR (pc2 := 7) at_5 rfl rfl rfl ?_
  refine zH (v := 0) (pc2 := 8) at_7 rfl rfl ?_
  refine zL (pc2 := 9) at_8 rfl rfl ?_
  refine zr (pc2 := 10) at_9 rfl (v := v9) hv9 ?_
  exact zF
theorem zAH (xa : Int32) (xb : Int32) (xc : Int32) (xd : Int32) (x : Addr) (v15 : UInt64) (hv15 : (FP.i2d xb) = v15) :
    zE zQ code 11 #[oi xa, oi xb, oi xc, oi xd, oa x, ou, ou, ou, ou, ou] [] 16 #[oi xa, oi xb, oi xc, oi xd, oa x, ou, ou, ou, ou, ou] [(.double v15), (.int 1), (.ref x)] := by
  refine zR (pc2 := 13) at_11 rfl rfl rfl ?_
  refine zH (v := 1) (pc2 := 14) at_13 rfl rfl ?_
  refine zL (pc2 := 15) at_14 rfl rfl ?_
  refine zr (pc2 := 16) at_15 rfl (v := v15) hv15 ?_
  exact zF
theorem zAI (xa : Int32) (xb : Int32) (xc : Int32) (xd : Int32) (x : Addr) (v21 : UInt64) (hv21 : (FP.i2d xc) = v21) :
    zE zQ code 17 #[oi xa, oi xb, oi xc, oi xd, oa x, ou, ou, ou, ou, ou] [] 22 #[oi xa, oi xb, oi xc, oi xd, oa x, ou, ou, ou, ou, ou] [(.double v21), (.int 2), (.ref x)] := by
  refine zR (pc2 := 19) at_17 rfl rfl rfl ?_
  refine zH (v := 2) (pc2 := 20) at_19 rfl rfl ?_
  refine zL (pc2 := 21) at_20 rfl rfl ?_
  refine zr (pc2 := 22) at_21 rfl (v := v21) hv21 ?_
  exact zF
theorem zAJ (xa : Int32) (xb : Int32) (xc : Int32) (xd : Int32) (x : Addr) (v27 : UInt64) (hv27 : (FP.i2d xd) = v27) :
    zE zQ code 23 #[oi xa, oi xb, oi xc, oi xd, oa x, ou, ou, ou, ou, ou] [] 28 #[oi xa, oi xb, oi xc, oi xd, oa x, ou, ou, ou, ou, ou] [(.double v27), (.int 3), (.ref x)] := by
  refine zR (pc2 := 25) at_23 rfl rfl rfl ?_
  refine zH (v := 3) (pc2 := 26) at_25 rfl rfl ?_
  refine zL (pc2 := 27) at_26 rfl rfl ?_
  refine zr (pc2 := 28) at_27 rfl (v := v27) hv27 ?_
  exact zF
theorem zAK (xa : Int32) (xb : Int32) (xc : Int32) (xd : Int32) (x : Addr) :
    zE zQ code 29 #[oi xa, oi xb, oi xc, oi xd, oa x, ou, ou, ou, ou, ou] [] 30 #[oi xa, oi xb, oi xc, oi xd, oa x, ou, ou, ou, ou, ou] [(.int 4)] := by
  refine zH (v := 4) (pc2 := 30) at_29 rfl rfl ?_
  exact zF
theorem own_s0_6 (xa : Int32) (xb : Int32) (xc : Int32) (xd : Int32) (x : Addr) (y : Addr) (hb38 : ifCond.holds .le xa = true) (hb54 : ifCond.holds .le xb = true) (hb70 : ifCond.holds .le xc = true) (hb86 : ifCond.holds .le xd = true) :
    zE zQ code 32 #[oi xa, oi xb, oi xc, oi xd, oa x, ou, ou, ou, ou, ou] [(.ref y)] 103 #[oi xa, oi xb, oi xc, oi xd, oa x, oa y, oi 0, ou, ou, ou] [(.ref x)] := by
  refine zAL (pc2 := 34) at_32 rfl rfl (L' := #[oi xa, oi xb, oi xc, oi xd, oa x, oa y, ou, ou, ou, ou]) rfl ?_
  refine zH (v := 0) (pc2 := 35) at_34 rfl rfl ?_
  refine zi (pc2 := 37) at_35 rfl (L' := #[oi xa, oi xb, oi xc, oi xd, oa x, oa y, oi 0, ou, ou, ou]) rfl ?_
  refine zL (pc2 := 38) at_37 rfl rfl ?_
  refine zg (pc' := 53) at_38 hb38 (by decide) (by decide) ?_
  refine zL (pc2 := 54) at_53 rfl rfl ?_
  refine zg (pc' := 69) at_54 hb54 (by decide) (by decide) ?_
  refine zL (pc2 := 70) at_69 rfl rfl ?_
  refine zg (pc' := 85) at_70 hb70 (by decide) (by decide) ?_
  refine zL (pc2 := 86) at_85 rfl rfl ?_
  refine zg (pc' := 101) at_86 hb86 (by decide) (by decide) ?_
  refine zR (pc2 := 103) at_101 rfl rfl rfl ?_
  exact zF
theorem own_s0_7 (xa : Int32) (xb : Int32) (xc : Int32) (xd : Int32) (x : Addr) (y : Addr) (z : Addr) :
    zE zQ code 106 #[oi xa, oi xb, oi xc, oi xd, oa x, oa y, oi 0, ou, ou, ou] [(.ref z)] 115 #[oi xa, oi xb, oi xc, oi xd, oa x, oa y, oi 0, oa z, ou, ou] [(.ref z)] := by
  refine zAL (pc2 := 108) at_106 rfl rfl (L' := #[oi xa, oi xb, oi xc, oi xd, oa x, oa y, oi 0, oa z, ou, ou]) rfl ?_
  refine zR (pc2 := 110) at_108 rfl rfl rfl ?_
  refine zAi (pc2 := 113) at_110 rfl ?_
  refine zR (pc2 := 115) at_113 rfl rfl rfl ?_
  exact zF
theorem own_s0_8 (xa : Int32) (xb : Int32) (xc : Int32) (xd : Int32) (x : Addr) (y : Addr) (z : Addr) :
    zE zQ code 116 #[oi xa, oi xb, oi xc, oi xd, oa x, oa y, oi 0, oa z, ou, ou] [(.int 0)] 201 #[oi xa, oi xb, oi xc, oi xd, oa x, oa y, oi 0, oa z, oi 1, ou] [(.int 0), (.ref x)] := by
  refine zG (pc2 := 118) at_116 rfl rfl ?_
  refine zj (pc' := 123) at_118 (by decide) (by decide) (by decide) ?_
  refine zG (pc2 := 125) at_123 rfl rfl ?_
  refine zH (v := 1) (pc2 := 126) at_125 rfl rfl ?_
  refine zj (pc' := 140) at_126 (by decide) (by decide) (by decide) ?_
  refine zG (pc2 := 142) at_140 rfl rfl ?_
  refine zH (v := 2) (pc2 := 143) at_142 rfl rfl ?_
  refine zj (pc' := 157) at_143 (by decide) (by decide) (by decide) ?_
  refine zG (pc2 := 159) at_157 rfl rfl ?_
  refine zH (v := 3) (pc2 := 160) at_159 rfl rfl ?_
  refine zj (pc' := 174) at_160 (by decide) (by decide) (by decide) ?_
  refine zG (pc2 := 176) at_174 rfl rfl ?_
  refine zH (v := 4) (pc2 := 177) at_176 rfl rfl ?_
  refine zj (pc' := 191) at_177 (by decide) (by decide) (by decide) ?_
  refine zH (v := 1) (pc2 := 192) at_191 rfl rfl ?_
  refine zS (pc' := 196) at_192 (by decide) (by decide) ?_
  refine zi (pc2 := 198) at_196 rfl (L' := #[oi xa, oi xb, oi xc, oi xd, oa x, oa y, oi 0, oa z, oi 1, ou]) rfl ?_
  refine zR (pc2 := 200) at_198 rfl rfl rfl ?_
  refine zH (v := 0) (pc2 := 201) at_200 rfl rfl ?_
  exact zF
theorem own_s0_9 (xa : Int32) (xb : Int32) (xc : Int32) (xd : Int32) (x : Addr) (y : Addr) (z : Addr) (v9 : UInt64) (v203 : UInt64) (hv203 : (FP.i2d xa) = v203) (v204 : Int32) (hv204 : (cmpValue (FP.dcmp v9 v203) .l) = v204) (hb205 : ifCond.holds .ne v204 = false) :
    zE zQ code 202 #[oi xa, oi xb, oi xc, oi xd, oa x, oa y, oi 0, oa z, oi 1, ou] [(.double v9)] 211 #[oi xa, oi xb, oi xc, oi xd, oa x, oa y, oi 0, oa z, oi 1, ou] [(.int 1), (.ref x)] := by
  refine zL (pc2 := 203) at_202 rfl rfl ?_
  refine zr (pc2 := 204) at_203 rfl (v := v203) hv203 ?_
  refine zT (pc2 := 205) at_204 rfl (v := v204) hv204 ?_
  refine zW (pc2 := 208) at_205 rfl hb205 ?_
  refine zR (pc2 := 210) at_208 rfl rfl rfl ?_
  refine zH (v := 1) (pc2 := 211) at_210 rfl rfl ?_
  exact zF
theorem own_s0_10 (xa : Int32) (xb : Int32) (xc : Int32) (xd : Int32) (x : Addr) (y : Addr) (z : Addr) (v15 : UInt64) (v213 : UInt64) (hv213 : (FP.i2d xb) = v213) (v214 : Int32) (hv214 : (cmpValue (FP.dcmp v15 v213) .l) = v214) (hb215 : ifCond.holds .ne v214 = false) :
    zE zQ code 212 #[oi xa, oi xb, oi xc, oi xd, oa x, oa y, oi 0, oa z, oi 1, ou] [(.double v15)] 221 #[oi xa, oi xb, oi xc, oi xd, oa x, oa y, oi 0, oa z, oi 1, ou] [(.int 2), (.ref x)] := by
  refine zL (pc2 := 213) at_212 rfl rfl ?_
  refine zr (pc2 := 214) at_213 rfl (v := v213) hv213 ?_
  refine zT (pc2 := 215) at_214 rfl (v := v214) hv214 ?_
  refine zW (pc2 := 218) at_215 rfl hb215 ?_
  refine zR (pc2 := 220) at_218 rfl rfl rfl ?_
  refine zH (v := 2) (pc2 := 221) at_220 rfl rfl ?_
  exact zF
theorem own_s0_11 (xa : Int32) (xb : Int32) (xc : Int32) (xd : Int32) (x : Addr) (y : Addr) (z : Addr) (v21 : UInt64) (v223 : UInt64) (hv223 : (FP.i2d xc) = v223) (v224 : Int32) (hv224 : (cmpValue (FP.dcmp v21 v223) .l) = v224) (hb225 : ifCond.holds .ne v224 = false) :
    zE zQ code 222 #[oi xa, oi xb, oi xc, oi xd, oa x, oa y, oi 0, oa z, oi 1, ou] [(.double v21)] 231 #[oi xa, oi xb, oi xc, oi xd, oa x, oa y, oi 0, oa z, oi 1, ou] [(.int 3), (.ref x)] := by
  refine zL (pc2 := 223) at_222 rfl rfl ?_
  refine zr (pc2 := 224) at_223 rfl (v := v223) hv223 ?_
  refine zT (pc2 := 225) at_224 rfl (v := v224) hv224 ?_
  refine zW (pc2 := 228) at_225 rfl hb225 ?_
  refine zR (pc2 := 230) at_228 rfl rfl rfl ?_
  refine zH (v := 3) (pc2 := 231) at_230 rfl rfl ?_
  exact zF
theorem own_s0_12 (xa : Int32) (xb : Int32) (xc : Int32) (xd : Int32) (x : Addr) (y : Addr) (z : Addr) (v27 : UInt64) (v233 : UInt64) (hv233 : (FP.i2d xd) = v233) (v234 : Int32) (hv234 : (cmpValue (FP.dcmp v27 v233) .l) = v234) (hb235 : ifCond.holds .ne v234 = false) :
    zE zQ code 232 #[oi xa, oi xb, oi xc, oi xd, oa x, oa y, oi 0, oa z, oi 1, ou] [(.double v27)] 260 #[oi xa, oi xb, oi xc, oi xd, oa x, oa y, oi 0, oa z, oi 1, oi 1] [(.int 1)] := by
  refine zL (pc2 := 233) at_232 rfl rfl ?_
  refine zr (pc2 := 234) at_233 rfl (v := v233) hv233 ?_
  refine zT (pc2 := 235) at_234 rfl (v := v234) hv234 ?_
  refine zW (pc2 := 238) at_235 rfl hb235 ?_
  refine zH (v := 1) (pc2 := 239) at_238 rfl rfl ?_
  refine zS (pc' := 243) at_239 (by decide) (by decide) ?_
  refine zi (pc2 := 245) at_243 rfl (L' := #[oi xa, oi xb, oi xc, oi xd, oa x, oa y, oi 0, oa z, oi 1, oi 1]) rfl ?_
  refine zG (pc2 := 247) at_245 rfl rfl ?_
  refine zW (pc2 := 250) at_247 rfl (by decide) ?_
  refine zG (pc2 := 252) at_250 rfl rfl ?_
  refine zW (pc2 := 255) at_252 rfl (by decide) ?_
  refine zH (v := 1) (pc2 := 256) at_255 rfl rfl ?_
  refine zS (pc' := 260) at_256 (by decide) (by decide) ?_
  exact zF
set_option maxRecDepth 65536 in
set_option maxHeartbeats 40000000 in
theorem own_law0 (l : Launch) (Z : State) (a0 : Array Value) (hb0 : Heap) (hw : ∀ d ∈ tables_1, d.before a0 Z = true) (xa : Int32) (xb : Int32) (xc : Int32) (xd : Int32) (hb38 : ifCond.holds .le xa = true) (hb54 : ifCond.holds .le xb = true) (hb70 : ifCond.holds .le xc = true) (hb86 : ifCond.holds .le xd = true) :
    zl l Z a0 hb0 x code maxLocals ret tables_1 room_1 #[(.int xa), (.int xb), (.int xc), (.int xd)] [] (fun v _ => v = some (.int 1)) := by
  refine zm (L0 := #[oi xa, oi xb, oi xc, oi xd, ou, ou, ou, ou, ou, ou]) (plainFor_of_name zx) (fun m => zAB m xa xb xc xd) ?_
  intro p e s m below meth c T0 hx hZ hown hby hml hnm H0
  have hown : s.vm.findClass "com/example/tangentia/tangentia/flash/StabilityTestPresentComponentsPinLaw" = some m.cls := hown
  have hml : c.maxLocals = 10 := hml
  obtain ⟨Ts0_1, x, Hs0_1, sts0_1⟩ := zh H0 hx hZ (zO hw 0 rfl) (g := (mkF m 1 #[oi xa, oi xb, oi xc, oi xd, ou, ou, ou, ou, ou, ou] [(.int 4)])) rfl (hb hby at_1) rfl (by decide) (cap := 4) (by decide) (by decide) (by decide) (by decide)
  change zK _ _ _ _ _ _ _ _ _ _ _ _ _ _ [(x, zB .double [.double 0, .double 0, .double 0, .double 0])] _ _ at Hs0_1
  obtain ⟨v9, hv9⟩ : ∃ z : UInt64, (FP.i2d xa) = z := ⟨_, rfl⟩
  obtain ⟨Ts0_2, Hs0_2, sts0_2⟩ := zd Hs0_1 hx hZ 0 0 rfl (by decide) (Nat.le_of_ble_eq_true rfl) (g := (mkF m 10 #[oi xa, oi xb, oi xc, oi xd, oa x, ou, ou, ou, ou, ou] [(.double v9), (.int 0), (.ref x)])) rfl rfl (hb hby at_10)
  change zK _ _ _ _ _ _ _ _ _ _ _ _ _ _ [(x, zB .double [.double v9, .double 0, .double 0, .double 0])] _ _ at Hs0_2
  obtain ⟨v15, hv15⟩ : ∃ z : UInt64, (FP.i2d xb) = z := ⟨_, rfl⟩
  obtain ⟨Ts0_3, Hs0_3, sts0_3⟩ := zd Hs0_2 hx hZ 0 1 rfl (by decide) (Nat.le_of_ble_eq_true rfl) (g := (mkF m 16 #[oi xa, oi xb, oi xc, oi xd, oa x, ou, ou, ou, ou, ou] [(.double v15), (.int 1), (.ref x)])) rfl rfl (hb hby at_16)
  change zK _ _ _ _ _ _ _ _ _ _ _ _ _ _ [(x, zB .double [.double v9, .double v15, .double 0, .double 0])] _ _ at Hs0_3
  obtain ⟨v21, hv21⟩ : ∃ z : UInt64, (FP.i2d xc) = z := ⟨_, rfl⟩
  obtain ⟨Ts0_4, Hs0_4, sts0_4⟩ := zd Hs0_3 hx hZ 0 2 rfl (by decide) (Nat.le_of_ble_eq_true rfl) (g := (mkF m 22 #[oi xa, oi xb, oi xc, oi xd, oa x, ou, ou, ou, ou, ou] [(.double v21), (.int 2), (.ref x)])) rfl rfl (hb hby at_22)
  change zK _ _ _ _ _ _ _ _ _ _ _ _ _ _ [(x, zB .double [.double v9, .double v15, .double v21, .double 0])] _ _ at Hs0_4
  obtain ⟨v27, hv27⟩ : ∃ z : UInt64, (FP.i2d xd) = z := ⟨_, rfl⟩
  obtain ⟨Ts0_5, Hs0_5, sts0_5⟩ := zd Hs0_4 hx hZ 0 3 rfl (by decide) (Nat.le_of_ble_eq_true rfl) (g := (mkF m 28 #[oi xa, oi xb, oi xc, oi xd, oa x, ou, ou, ou, ou, ou] [(.double v27), (.int 3), (.ref x)])) rfl rfl (hb hby at_28)
  change zK _ _ _ _ _ _ _ _ _ _ _ _ _ _ [(x, zB .double [.double v9, .double v15, .double v21, .double v27])] _ _ at Hs0_5
  obtain ⟨Ts0_6, y, Hs0_6, sts0_6⟩ := zh Hs0_5 hx hZ (zO hw 1 rfl) (g := (mkF m 30 #[oi xa, oi xb, oi xc, oi xd, oa x, ou, ou, ou, ou, ou] [(.int 4)])) rfl (hb hby at_30) rfl (by decide) (cap := 4) (by decide) (by decide) (by decide) (by decide)
  change zK _ _ _ _ _ _ _ _ _ _ _ _ _ _ [(x, zB .double [.double v9, .double v15, .double v21, .double v27]), (y, zB .int [.int 0, .int 0, .int 0, .int 0])] _ _ at Hs0_6
  have hp0 : ifCond.holds .le (cmpValue (FP.dcmp v9 (0 : UInt64)) .l) = true := by rw [← hv9, zY (zI xa) zX]; exact zo hb38
  have hp1 : ifCond.holds .le (cmpValue (FP.dcmp v15 (0 : UInt64)) .l) = true := by rw [← hv15, zY (zI xb) zX]; exact zo hb54
  have hp2 : ifCond.holds .le (cmpValue (FP.dcmp v21 (0 : UInt64)) .l) = true := by rw [← hv21, zY (zI xc) zX]; exact zo hb70
  have hp3 : ifCond.holds .le (cmpValue (FP.dcmp v27 (0 : UInt64)) .l) = true := by rw [← hv27, zY (zI xd) zX]; exact zo hb86
  obtain ⟨Ts0_7, vs0_7_, css0_7_, qs0_7, Hs0_7, sts0_7⟩ := zw Hs0_6 hx hZ hown (zO hw 2 rfl) (zO hw 3 rfl) (zO hw 4 rfl) (zO hw 5 rfl) (by decide) (argsL := [(.ref x)]) (rest := []) (W := 0) (own_q0 l Z a0 hb0 hw x y v9 v15 v21 v27 hp0 hp1 hp2 hp3) (by decide) (by decide) (by decide) (by decide) (g := (mkF m 103 #[oi xa, oi xb, oi xc, oi xd, oa x, oa y, oi 0, ou, ou, ou] [(.ref x)])) rfl (by rw [hml]; rfl) (lenOf zz rfl) rfl (by show 2 * 0 + _ ≤ _; exact Nat.le_of_eq rfl) (hb hby at_103)
  obtain ⟨z, rfl, rfl⟩ := qs0_7
  obtain ⟨v203, hv203⟩ : ∃ z : UInt64, (FP.i2d xa) = z := ⟨_, rfl⟩
  obtain ⟨v204, hv204⟩ : ∃ z : Int32, (cmpValue (FP.dcmp v9 v203) .l) = z := ⟨_, rfl⟩
  obtain ⟨v213, hv213⟩ : ∃ z : UInt64, (FP.i2d xb) = z := ⟨_, rfl⟩
  obtain ⟨v214, hv214⟩ : ∃ z : Int32, (cmpValue (FP.dcmp v15 v213) .l) = z := ⟨_, rfl⟩
  obtain ⟨v223, hv223⟩ : ∃ z : UInt64, (FP.i2d xc) = z := ⟨_, rfl⟩
  obtain ⟨v224, hv224⟩ : ∃ z : Int32, (cmpValue (FP.dcmp v21 v223) .l) = z := ⟨_, rfl⟩
  obtain ⟨v233, hv233⟩ : ∃ z : UInt64, (FP.i2d xd) = z := ⟨_, rfl⟩
  obtain ⟨v234, hv234⟩ : ∃ z : Int32, (cmpValue (FP.dcmp v27 v233) .l) = z := ⟨_, rfl⟩
  have hb205 : ifCond.holds .ne v204 = false := by rw [← hv204, ← hv203, ← hv9, zZ (zI xa) (zI xa)]; simp
  have hb215 : ifCond.holds .ne v214 = false := by rw [← hv214, ← hv213, ← hv15, zZ (zI xb) (zI xb)]; simp
  have hb225 : ifCond.holds .ne v224 = false := by rw [← hv224, ← hv223, ← hv21, zZ (zI xc) (zI xc)]; simp
  have hb235 : ifCond.holds .ne v234 = false := by rw [← hv234, ← hv233, ← hv27, zZ (zI xd) (zI xd)]; simp
  refine ⟨_, _, _, _, 260, #[oi xa, oi xb, oi xc, oi xd, oa x, oa y, oi 0, oa z, oi 1, oi 1], Hs0_7, by decide, by decide, Or.inr ⟨.boolean, (.int 1), [], .ireturn, rfl, rfl, at_260, zv (Or.inr rfl), fun target q => ?_⟩⟩
  refine zA H0 hx hZ hown hby hw zC (zAF xa xb xc xd) _ ?_
  refine sts0_1 _ ?_
  refine zA Hs0_1 hx hZ hown hby hw zC (zAG xa xb xc xd x v9 hv9) _ ?_
  refine sts0_2 _ ?_
  refine zA Hs0_2 hx hZ hown hby hw zC (zAH xa xb xc xd x v15 hv15) _ ?_
  refine sts0_3 _ ?_
  refine zA Hs0_3 hx hZ hown hby hw zC (zAI xa xb xc xd x v21 hv21) _ ?_
  refine sts0_4 _ ?_
  refine zA Hs0_4 hx hZ hown hby hw zC (zAJ xa xb xc xd x v27 hv27) _ ?_
  refine sts0_5 _ ?_
  refine zA Hs0_5 hx hZ hown hby hw zC (zAK xa xb xc xd x) _ ?_
  refine sts0_6 _ ?_
  refine zA Hs0_6 hx hZ hown hby hw zC (own_s0_6 xa xb xc xd x y hb38 hb54 hb70 hb86) _ ?_
  refine sts0_7 _ ?_
  refine zA Hs0_7 hx hZ hown hby hw zC (own_s0_7 xa xb xc xd x y z) _ ?_
  refine zP Hs0_7 hx hZ 2 rfl (z := (0 : Int32)) rfl (g := (mkF m 115 #[oi xa, oi xb, oi xc, oi xd, oa x, oa y, oi 0, oa z, ou, ou] [(.ref z)])) rfl rfl (hb hby at_115) _ ?_
  refine zA Hs0_7 hx hZ hown hby hw zC (own_s0_8 xa xb xc xd x y z) _ ?_
  refine zJ Hs0_7 hx hZ 0 0 rfl (by decide) rfl (g := (mkF m 201 #[oi xa, oi xb, oi xc, oi xd, oa x, oa y, oi 0, oa z, oi 1, ou] [(.int 0), (.ref x)])) rfl rfl (hb hby at_201) _ ?_
  refine zA Hs0_7 hx hZ hown hby hw zC (own_s0_9 xa xb xc xd x y z v9 v203 hv203 v204 hv204 hb205) _ ?_
  refine zJ Hs0_7 hx hZ 0 1 rfl (by decide) rfl (g := (mkF m 211 #[oi xa, oi xb, oi xc, oi xd, oa x, oa y, oi 0, oa z, oi 1, ou] [(.int 1), (.ref x)])) rfl rfl (hb hby at_211) _ ?_
  refine zA Hs0_7 hx hZ hown hby hw zC (own_s0_10 xa xb xc xd x y z v15 v213 hv213 v214 hv214 hb215) _ ?_
  refine zJ Hs0_7 hx hZ 0 2 rfl (by decide) rfl (g := (mkF m 221 #[oi xa, oi xb, oi xc, oi xd, oa x, oa y, oi 0, oa z, oi 1, ou] [(.int 2), (.ref x)])) rfl rfl (hb hby at_221) _ ?_
  refine zA Hs0_7 hx hZ hown hby hw zC (own_s0_11 xa xb xc xd x y z v21 v223 hv223 v224 hv224 hb225) _ ?_
  refine zJ Hs0_7 hx hZ 0 3 rfl (by decide) rfl (g := (mkF m 231 #[oi xa, oi xb, oi xc, oi xd, oa x, oa y, oi 0, oa z, oi 1, ou] [(.int 3), (.ref x)])) rfl rfl (hb hby at_231) _ ?_
  refine zA Hs0_7 hx hZ hown hby hw zC (own_s0_12 xa xb xc xd x y z v27 v233 hv233 v234 hv234 hb235) _ ?_
  exact q
theorem own_p1_5 (x : Addr) (dc : UInt64) (dd : UInt64) (v26''' : Int32) (hv26''' : (cmpValue (FP.dcmp dd (0 : UInt64)) .l) = v26''') (hb27_3 : ifCond.holds .le v26''' = false) :
    zE zM ok0 20 #[oa x, oi 0, oa x, oi 4, oi 3, .val (.double dc), .second] [(.double dd)] 44 #[oa x, oi 1, oa x, oi 4, oi 4, .val (.double dd), .second] [(.int 1)] := by
  refine zt (pc2 := 22) d1_20 rfl (L' := #[oa x, oi 0, oa x, oi 4, oi 3, .val (.double dd), .second]) rfl ?_
  refine zL (pc2 := 23) d1_22 rfl rfl ?_
  refine zs (pc2 := 25) d1_23 rfl rfl ?_
  refine zf (v := 0) (pc2 := 26) d1_25 rfl rfl ?_
  refine zT (pc2 := 27) d1_26 rfl (v := v26''') hv26''' ?_
  refine zW (pc2 := 30) d1_27 rfl hb27_3 ?_
  refine zH (v := 1) (pc2 := 31) d1_30 rfl rfl ?_
  refine zS (pc' := 35) d1_31 (by decide) (by decide) ?_
  refine zk (pc2 := 36) d1_35 rfl (v := (1 : Int32)) (by decide) ?_
  refine zq (pc2 := 37) d1_36 rfl (L' := #[oa x, oi 1, oa x, oi 4, oi 3, .val (.double dd), .second]) rfl ?_
  refine zU (pc2 := 40) d1_37 rfl rfl (v := (4 : Int32)) (by decide) (L' := #[oa x, oi 1, oa x, oi 4, oi 4, .val (.double dd), .second]) rfl ?_
  refine zS (pc' := 10) d1_40 (by decide) (by decide) ?_
  refine zG (pc2 := 12) d1_10 rfl rfl ?_
  refine zL (pc2 := 13) d1_12 rfl rfl ?_
  refine zj (pc' := 43) d1_13 (by decide) (by decide) (by decide) ?_
  refine zL (pc2 := 44) d1_43 rfl rfl ?_
  exact zF
theorem zAs (x : Addr) (dd : UInt64) (z : Addr) :
    zE zM ok0 46 #[oa x, oi 1, oa x, oi 4, oi 4, .val (.double dd), .second] [(.ref z)] 55 #[oa x, oi 1, oa z, oi 0, oi 0, .val (.double dd), .second] [(.ref x), (.int 0)] := by
  refine zAW (pc2 := 47) d1_46 rfl rfl (L' := #[oa x, oi 1, oa z, oi 4, oi 4, .val (.double dd), .second]) rfl ?_
  refine zH (v := 0) (pc2 := 48) d1_47 rfl rfl ?_
  refine zq (pc2 := 49) d1_48 rfl (L' := #[oa x, oi 1, oa z, oi 0, oi 4, .val (.double dd), .second]) rfl ?_
  refine zH (v := 0) (pc2 := 50) d1_49 rfl rfl ?_
  refine zi (pc2 := 52) d1_50 rfl (L' := #[oa x, oi 1, oa z, oi 0, oi 0, .val (.double dd), .second]) rfl ?_
  refine zG (pc2 := 54) d1_52 rfl rfl ?_
  refine zN (pc2 := 55) d1_54 rfl rfl rfl ?_
  exact zF
theorem zAt (x : Addr) (z : Addr) (dd : UInt64) :
    zE zM ok0 56 #[oa x, oi 1, oa z, oi 0, oi 0, .val (.double dd), .second] [(.int 4), (.int 0)] 62 #[oa x, oi 1, oa z, oi 0, oi 0, .val (.double dd), .second] [(.int 0), (.ref x)] := by
  refine zV (pc2 := 59) d1_56 rfl (by decide) ?_
  refine zN (pc2 := 60) d1_59 rfl rfl rfl ?_
  refine zG (pc2 := 62) d1_60 rfl rfl ?_
  exact zF
theorem zBZ (x : Addr) (z : Addr) (dd : UInt64) (da : UInt64) (v64 : Int32) (hv64 : (cmpValue (FP.dcmp da (0 : UInt64)) .l) = v64) (hb65_0 : ifCond.holds .le v64 = true) :
    zE zM ok0 63 #[oa x, oi 1, oa z, oi 0, oi 0, .val (.double dd), .second] [(.double da)] 55 #[oa x, oi 1, oa z, oi 0, oi 1, .val (.double dd), .second] [(.ref x), (.int 1)] := by
  refine zf (v := 0) (pc2 := 64) d1_63 rfl rfl ?_
  refine zT (pc2 := 65) d1_64 rfl (v := v64) hv64 ?_
  refine zg (pc' := 76) d1_65 hb65_0 (by decide) (by decide) ?_
  refine zU (pc2 := 79) d1_76 rfl rfl (v := (1 : Int32)) (by decide) (L' := #[oa x, oi 1, oa z, oi 0, oi 1, .val (.double dd), .second]) rfl ?_
  refine zS (pc' := 52) d1_79 (by decide) (by decide) ?_
  refine zG (pc2 := 54) d1_52 rfl rfl ?_
  refine zN (pc2 := 55) d1_54 rfl rfl rfl ?_
  exact zF
theorem zBa (x : Addr) (z : Addr) (dd : UInt64) :
    zE zM ok0 56 #[oa x, oi 1, oa z, oi 0, oi 1, .val (.double dd), .second] [(.int 4), (.int 1)] 62 #[oa x, oi 1, oa z, oi 0, oi 1, .val (.double dd), .second] [(.int 1), (.ref x)] := by
  refine zV (pc2 := 59) d1_56 rfl (by decide) ?_
  refine zN (pc2 := 60) d1_59 rfl rfl rfl ?_
  refine zG (pc2 := 62) d1_60 rfl rfl ?_
  exact zF
theorem own_p1_10 (x : Addr) (z : Addr) (dd : UInt64) (db : UInt64) (v64' : Int32) (hv64' : (cmpValue (FP.dcmp db (0 : UInt64)) .l) = v64') (hb65_1 : ifCond.holds .le v64' = true) :
    zE zM ok0 63 #[oa x, oi 1, oa z, oi 0, oi 1, .val (.double dd), .second] [(.double db)] 55 #[oa x, oi 1, oa z, oi 0, oi 2, .val (.double dd), .second] [(.ref x), (.int 2)] := by
  refine zf (v := 0) (pc2 := 64) d1_63 rfl rfl ?_
  refine zT (pc2 := 65) d1_64 rfl (v := v64') hv64' ?_
  refine zg (pc' := 76) d1_65 hb65_1 (by decide) (by decide) ?_
  refine zU (pc2 := 79) d1_76 rfl rfl (v := (2 : Int32)) (by decide) (L' := #[oa x, oi 1, oa z, oi 0, oi 2, .val (.double dd), .second]) rfl ?_
  refine zS (pc' := 52) d1_79 (by decide) (by decide) ?_
  refine zG (pc2 := 54) d1_52 rfl rfl ?_
  refine zN (pc2 := 55) d1_54 rfl rfl rfl ?_
  exact zF
theorem own_p1_11 (x : Addr) (z : Addr) (dd : UInt64) :
    zE zM ok0 56 #[oa x, oi 1, oa z, oi 0, oi 2, .val (.double dd), .second] [(.int 4), (.int 2)] 62 #[oa x, oi 1, oa z, oi 0, oi 2, .val (.double dd), .second] [(.int 2), (.ref x)] := by
  refine zV (pc2 := 59) d1_56 rfl (by decide) ?_
  refine zN (pc2 := 60) d1_59 rfl rfl rfl ?_
  refine zG (pc2 := 62) d1_60 rfl rfl ?_
  exact zF
theorem own_p1_12 (x : Addr) (z : Addr) (dd : UInt64) (dc : UInt64) (v64'' : Int32) (hv64'' : (cmpValue (FP.dcmp dc (0 : UInt64)) .l) = v64'') (hb65_2 : ifCond.holds .le v64'' = true) :
    zE zM ok0 63 #[oa x, oi 1, oa z, oi 0, oi 2, .val (.double dd), .second] [(.double dc)] 55 #[oa x, oi 1, oa z, oi 0, oi 3, .val (.double dd), .second] [(.ref x), (.int 3)] := by
  refine zf (v := 0) (pc2 := 64) d1_63 rfl rfl ?_
  refine zT (pc2 := 65) d1_64 rfl (v := v64'') hv64'' ?_
  refine zg (pc' := 76) d1_65 hb65_2 (by decide) (by decide) ?_
  refine zU (pc2 := 79) d1_76 rfl rfl (v := (3 : Int32)) (by decide) (L' := #[oa x, oi 1, oa z, oi 0, oi 3, .val (.double dd), .second]) rfl ?_
  refine zS (pc' := 52) d1_79 (by decide) (by decide) ?_
  refine zG (pc2 := 54) d1_52 rfl rfl ?_
  refine zN (pc2 := 55) d1_54 rfl rfl rfl ?_
  exact zF
theorem own_p1_13 (x : Addr) (z : Addr) (dd : UInt64) :
    zE zM ok0 56 #[oa x, oi 1, oa z, oi 0, oi 3, .val (.double dd), .second] [(.int 4), (.int 3)] 62 #[oa x, oi 1, oa z, oi 0, oi 3, .val (.double dd), .second] [(.int 3), (.ref x)] := by
  refine zV (pc2 := 59) d1_56 rfl (by decide) ?_
  refine zN (pc2 := 60) d1_59 rfl rfl rfl ?_
  refine zG (pc2 := 62) d1_60 rfl rfl ?_
  exact zF
theorem own_p1_14 (x : Addr) (z : Addr) (dd : UInt64) (v64''' : Int32) (hv64''' : (cmpValue (FP.dcmp dd (0 : UInt64)) .l) = v64''') (hb65_3 : ifCond.holds .le v64''' = false) :
    zE zM ok0 63 #[oa x, oi 1, oa z, oi 0, oi 3, .val (.double dd), .second] [(.double dd)] 75 #[oa x, oi 1, oa z, oi 1, oi 3, .val (.double dd), .second] [(.int 3), (.int 0), (.ref z)] := by
  refine zf (v := 0) (pc2 := 64) d1_63 rfl rfl ?_
  refine zT (pc2 := 65) d1_64 rfl (v := v64''') hv64''' ?_
  refine zW (pc2 := 68) d1_65 rfl hb65_3 ?_
  refine zN (pc2 := 69) d1_68 rfl rfl rfl ?_
  refine zL (pc2 := 70) d1_69 rfl rfl ?_
  refine zU (pc2 := 73) d1_70 rfl rfl (v := (1 : Int32)) (by decide) (L' := #[oa x, oi 1, oa z, oi 1, oi 3, .val (.double dd), .second]) rfl ?_
  refine zG (pc2 := 75) d1_73 rfl rfl ?_
  exact zF
theorem own_p1_15 (x : Addr) (z : Addr) (dd : UInt64) :
    zE zM ok0 76 #[oa x, oi 1, oa z, oi 1, oi 3, .val (.double dd), .second] [] 55 #[oa x, oi 1, oa z, oi 1, oi 4, .val (.double dd), .second] [(.ref x), (.int 4)] := by
  refine zU (pc2 := 79) d1_76 rfl rfl (v := (4 : Int32)) (by decide) (L' := #[oa x, oi 1, oa z, oi 1, oi 4, .val (.double dd), .second]) rfl ?_
  refine zS (pc' := 52) d1_79 (by decide) (by decide) ?_
  refine zG (pc2 := 54) d1_52 rfl rfl ?_
  refine zN (pc2 := 55) d1_54 rfl rfl rfl ?_
  exact zF
theorem zAu (x : Addr) (z : Addr) (dd : UInt64) :
    zE zM ok0 56 #[oa x, oi 1, oa z, oi 1, oi 4, .val (.double dd), .second] [(.int 4), (.int 4)] 83 #[oa x, oi 1, oa z, oi 1, oi 4, .val (.double dd), .second] [(.ref z)] := by
  refine zj (pc' := 82) d1_56 (by decide) (by decide) (by decide) ?_
  refine zN (pc2 := 83) d1_82 rfl rfl rfl ?_
  exact zF
set_option maxRecDepth 65536 in
set_option maxHeartbeats 4000000 in
theorem own_q1 (l : Launch) (Z : State) (a0 : Array Value) (hb0 : Heap) (hw : ∀ d ∈ tables_1, d.before a0 Z = true) (x : Addr) (y : Addr) (da db dc dd : UInt64) (hp0 : ifCond.holds .le (cmpValue (FP.dcmp da (0 : UInt64)) .l) = true) (hp1 : ifCond.holds .le (cmpValue (FP.dcmp db (0 : UInt64)) .l) = true) (hp2 : ifCond.holds .le (cmpValue (FP.dcmp dc (0 : UInt64)) .l) = true) (hp3 : ifCond.holds .le (cmpValue (FP.dcmp dd (0 : UInt64)) .l) = false) :
    zl l Z a0 hb0 (⟨"com/example/tangentia/tangentia/flash/StabilityTest", "presentComponents", "([D)[I"⟩ : MethodName) ok0 7 (some (.array .int)) [] ({ frames := 0, cells := 1, slots := 1, locals := 0 } : Room) #[(.ref x)] [(x, zB .double [.double da, .double db, .double dc, .double dd]), (y, zB .int [.int 3, .int 0, .int 0, .int 0])] (fun r cs' => ∃ z, r = some (.ref z) ∧ cs' = [(x, zB .double [.double da, .double db, .double dc, .double dd]), (y, zB .int [.int 3, .int 0, .int 0, .int 0]), (z, zB .int [.int 3])]) := by
  refine zm (L0 := #[oa x, ou, ou, ou, ou, ou, ou]) (plainFor_of_name zy) (fun m => zAA m x) ?_
  intro p e s m below meth c T0 hx hZ hown hby hml hnm H0
  obtain ⟨v26, hv26⟩ : ∃ z : Int32, (cmpValue (FP.dcmp da (0 : UInt64)) .l) = z := ⟨_, rfl⟩
  obtain ⟨v26', hv26'⟩ : ∃ z : Int32, (cmpValue (FP.dcmp db (0 : UInt64)) .l) = z := ⟨_, rfl⟩
  obtain ⟨v26'', hv26''⟩ : ∃ z : Int32, (cmpValue (FP.dcmp dc (0 : UInt64)) .l) = z := ⟨_, rfl⟩
  obtain ⟨v26''', hv26'''⟩ : ∃ z : Int32, (cmpValue (FP.dcmp dd (0 : UInt64)) .l) = z := ⟨_, rfl⟩
  obtain ⟨Tp1_6, z, Hp1_6, stp1_6⟩ := zh H0 hx hZ (zO hw 1 rfl) (g := (mkF m 44 #[oa x, oi 1, oa x, oi 4, oi 4, .val (.double dd), .second] [(.int 1)])) rfl (hb hby d1_44) rfl (by decide) (cap := 1) (by decide) (by decide) (by decide) (by decide)
  change zK _ _ _ _ _ _ _ _ _ _ _ _ _ _ [(x, zB .double [.double da, .double db, .double dc, .double dd]), (y, zB .int [.int 3, .int 0, .int 0, .int 0]), (z, zB .int [.int 0])] _ _ at Hp1_6
  obtain ⟨v64, hv64⟩ : ∃ z : Int32, (cmpValue (FP.dcmp da (0 : UInt64)) .l) = z := ⟨_, rfl⟩
  obtain ⟨v64', hv64'⟩ : ∃ z : Int32, (cmpValue (FP.dcmp db (0 : UInt64)) .l) = z := ⟨_, rfl⟩
  obtain ⟨v64'', hv64''⟩ : ∃ z : Int32, (cmpValue (FP.dcmp dc (0 : UInt64)) .l) = z := ⟨_, rfl⟩
  obtain ⟨v64''', hv64'''⟩ : ∃ z : Int32, (cmpValue (FP.dcmp dd (0 : UInt64)) .l) = z := ⟨_, rfl⟩
  obtain ⟨Tp1_15, Hp1_15, stp1_15⟩ := ze Hp1_6 hx hZ 2 0 rfl (by decide) (Nat.le_of_ble_eq_true rfl) (g := (mkF m 75 #[oa x, oi 1, oa z, oi 1, oi 3, .val (.double dd), .second] [(.int 3), (.int 0), (.ref z)])) rfl rfl (hb hby d1_75)
  change zK _ _ _ _ _ _ _ _ _ _ _ _ _ _ [(x, zB .double [.double da, .double db, .double dc, .double dd]), (y, zB .int [.int 3, .int 0, .int 0, .int 0]), (z, zB .int [.int 3])] _ _ at Hp1_15
  have hb27_0 : ifCond.holds .le v26 = true := by rw [← hv26]; exact hp0
  have hb27_1 : ifCond.holds .le v26' = true := by rw [← hv26']; exact hp1
  have hb27_2 : ifCond.holds .le v26'' = true := by rw [← hv26'']; exact hp2
  have hb27_3 : ifCond.holds .le v26''' = false := by rw [← hv26''']; exact hp3
  have hb65_0 : ifCond.holds .le v64 = true := by rw [← hv64]; exact hp0
  have hb65_1 : ifCond.holds .le v64' = true := by rw [← hv64']; exact hp1
  have hb65_2 : ifCond.holds .le v64'' = true := by rw [← hv64'']; exact hp2
  have hb65_3 : ifCond.holds .le v64''' = false := by rw [← hv64''']; exact hp3
  refine ⟨_, _, _, _, 83, #[oa x, oi 1, oa z, oi 1, oi 4, .val (.double dd), .second], Hp1_15, by decide, by decide, Or.inr ⟨(.array .int), (.ref z), [], .areturn, rfl, ⟨z, rfl, rfl⟩, d1_83, zAC _, fun target q => ?_⟩⟩
  refine zA H0 hx hZ hown hby hw zD (zAD x) _ ?_
  refine zP H0 hx hZ 0 rfl (z := (4 : Int32)) rfl (g := (mkF m 5 #[oa x, oi 0, oa x, ou, ou, ou, ou] [(.ref x)])) rfl rfl (hb hby d1_5) _ ?_
  refine zA H0 hx hZ hown hby hw zD (zAE x) _ ?_
  refine zJ H0 hx hZ 0 0 rfl (by decide) rfl (g := (mkF m 19 #[oa x, oi 0, oa x, oi 4, oi 0, ou, ou] [(.int 0), (.ref x)])) rfl rfl (hb hby d1_19) _ ?_
  refine zA H0 hx hZ hown hby hw zD (zAQ x da v26 hv26 hb27_0) _ ?_
  refine zJ H0 hx hZ 0 1 rfl (by decide) rfl (g := (mkF m 19 #[oa x, oi 0, oa x, oi 4, oi 1, .val (.double da), .second] [(.int 1), (.ref x)])) rfl rfl (hb hby d1_19) _ ?_
  refine zA H0 hx hZ hown hby hw zD (zAr x da db v26' hv26' hb27_1) _ ?_
  refine zJ H0 hx hZ 0 2 rfl (by decide) rfl (g := (mkF m 19 #[oa x, oi 0, oa x, oi 4, oi 2, .val (.double db), .second] [(.int 2), (.ref x)])) rfl rfl (hb hby d1_19) _ ?_
  refine zA H0 hx hZ hown hby hw zD (own_p0_4 x db dc v26'' hv26'' hb27_2) _ ?_
  refine zJ H0 hx hZ 0 3 rfl (by decide) rfl (g := (mkF m 19 #[oa x, oi 0, oa x, oi 4, oi 3, .val (.double dc), .second] [(.int 3), (.ref x)])) rfl rfl (hb hby d1_19) _ ?_
  refine zA H0 hx hZ hown hby hw zD (own_p1_5 x dc dd v26''' hv26''' hb27_3) _ ?_
  refine stp1_6 _ ?_
  refine zA Hp1_6 hx hZ hown hby hw zD (zAs x dd z) _ ?_
  refine zP Hp1_6 hx hZ 0 rfl (z := (4 : Int32)) rfl (g := (mkF m 55 #[oa x, oi 1, oa z, oi 0, oi 0, .val (.double dd), .second] [(.ref x), (.int 0)])) rfl rfl (hb hby d1_55) _ ?_
  refine zA Hp1_6 hx hZ hown hby hw zD (zAt x z dd) _ ?_
  refine zJ Hp1_6 hx hZ 0 0 rfl (by decide) rfl (g := (mkF m 62 #[oa x, oi 1, oa z, oi 0, oi 0, .val (.double dd), .second] [(.int 0), (.ref x)])) rfl rfl (hb hby d1_62) _ ?_
  refine zA Hp1_6 hx hZ hown hby hw zD (zBZ x z dd da v64 hv64 hb65_0) _ ?_
  refine zP Hp1_6 hx hZ 0 rfl (z := (4 : Int32)) rfl (g := (mkF m 55 #[oa x, oi 1, oa z, oi 0, oi 1, .val (.double dd), .second] [(.ref x), (.int 1)])) rfl rfl (hb hby d1_55) _ ?_
  refine zA Hp1_6 hx hZ hown hby hw zD (zBa x z dd) _ ?_
  refine zJ Hp1_6 hx hZ 0 1 rfl (by decide) rfl (g := (mkF m 62 #[oa x, oi 1, oa z, oi 0, oi 1, .val (.double dd), .second] [(.int 1), (.ref x)])) rfl rfl (hb hby d1_62) _ ?_
  refine zA Hp1_6 hx hZ hown hby hw zD (own_p1_10 x z dd db v64' hv64' hb65_1) _ ?_
  refine zP Hp1_6 hx hZ 0 rfl (z := (4 : Int32)) rfl (g := (mkF m 55 #[oa x, oi 1, oa z, oi 0, oi 2, .val (.double dd), .second] [(.ref x), (.int 2)])) rfl rfl (hb hby d1_55) _ ?_
  refine zA Hp1_6 hx hZ hown hby hw zD (own_p1_11 x z dd) _ ?_
  refine zJ Hp1_6 hx hZ 0 2 rfl (by decide) rfl (g := (mkF m 62 #[oa x, oi 1, oa z, oi 0, oi 2, .val (.double dd), .second] [(.int 2), (.ref x)])) rfl rfl (hb hby d1_62) _ ?_
  refine zA Hp1_6 hx hZ hown hby hw zD (own_p1_12 x z dd dc v64'' hv64'' hb65_2) _ ?_
  refine zP Hp1_6 hx hZ 0 rfl (z := (4 : Int32)) rfl (g := (mkF m 55 #[oa x, oi 1, oa z, oi 0, oi 3, .val (.double dd), .second] [(.ref x), (.int 3)])) rfl rfl (hb hby d1_55) _ ?_
  refine zA Hp1_6 hx hZ hown hby hw zD (own_p1_13 x z dd) _ ?_
  refine zJ Hp1_6 hx hZ 0 3 rfl (by decide) rfl (g := (mkF m 62 #[oa x, oi 1, oa z, oi 0, oi 3, .val (.double dd), .second] [(.int 3), (.ref x)])) rfl rfl (hb hby d1_62) _ ?_
  refine zA Hp1_6 hx hZ hown hby hw zD (own_p1_14 x z dd v64''' hv64''' hb65_3) _ ?_
  refine stp1_15 _ ?_
  refine zA Hp1_15 hx hZ hown hby hw zD (own_p1_15 x z dd) _ ?_
  refine zP Hp1_15 hx hZ 0 rfl (z := (4 : Int32)) rfl (g := (mkF m 55 #[oa x, oi 1, oa z, oi 1, oi 4, .val (.double dd), .second] [(.ref x), (.int 4)])) rfl rfl (hb hby d1_55) _ ?_
  refine zA Hp1_15 hx hZ hown hby hw zD (zAu x z dd) _ ?_
  exact q
theorem own_s1_6 (xa : Int32) (xb : Int32) (xc : Int32) (xd : Int32) (x : Addr) (y : Addr) (hb38 : ifCond.holds .le xa = true) (hb54 : ifCond.holds .le xb = true) (hb70 : ifCond.holds .le xc = true) (hb86 : ifCond.holds .le xd = false) :
    zE zQ code 32 #[oi xa, oi xb, oi xc, oi xd, oa x, ou, ou, ou, ou, ou] [(.ref y)] 94 #[oi xa, oi xb, oi xc, oi xd, oa x, oa y, oi 0, ou, ou, ou] [(.int 3), (.int 0), (.ref y)] := by
  refine zAL (pc2 := 34) at_32 rfl rfl (L' := #[oi xa, oi xb, oi xc, oi xd, oa x, oa y, ou, ou, ou, ou]) rfl ?_
  refine zH (v := 0) (pc2 := 35) at_34 rfl rfl ?_
  refine zi (pc2 := 37) at_35 rfl (L' := #[oi xa, oi xb, oi xc, oi xd, oa x, oa y, oi 0, ou, ou, ou]) rfl ?_
  refine zL (pc2 := 38) at_37 rfl rfl ?_
  refine zg (pc' := 53) at_38 hb38 (by decide) (by decide) ?_
  refine zL (pc2 := 54) at_53 rfl rfl ?_
  refine zg (pc' := 69) at_54 hb54 (by decide) (by decide) ?_
  refine zL (pc2 := 70) at_69 rfl rfl ?_
  refine zg (pc' := 85) at_70 hb70 (by decide) (by decide) ?_
  refine zL (pc2 := 86) at_85 rfl rfl ?_
  refine zW (pc2 := 89) at_86 rfl hb86 ?_
  refine zR (pc2 := 91) at_89 rfl rfl rfl ?_
  refine zG (pc2 := 93) at_91 rfl rfl ?_
  refine zH (v := 3) (pc2 := 94) at_93 rfl rfl ?_
  exact zF
theorem own_s1_7 (xa : Int32) (xb : Int32) (xc : Int32) (xd : Int32) (x : Addr) (y : Addr) :
    zE zQ code 95 #[oi xa, oi xb, oi xc, oi xd, oa x, oa y, oi 0, ou, ou, ou] [] 103 #[oi xa, oi xb, oi xc, oi xd, oa x, oa y, oi 1, ou, ou, ou] [(.ref x)] := by
  refine zG (pc2 := 97) at_95 rfl rfl ?_
  refine zH (v := 1) (pc2 := 98) at_97 rfl rfl ?_
  refine zk (pc2 := 99) at_98 rfl (v := (1 : Int32)) (by decide) ?_
  refine zi (pc2 := 101) at_99 rfl (L' := #[oi xa, oi xb, oi xc, oi xd, oa x, oa y, oi 1, ou, ou, ou]) rfl ?_
  refine zR (pc2 := 103) at_101 rfl rfl rfl ?_
  exact zF
theorem zAv (xa : Int32) (xb : Int32) (xc : Int32) (xd : Int32) (x : Addr) (y : Addr) (z : Addr) :
    zE zQ code 106 #[oi xa, oi xb, oi xc, oi xd, oa x, oa y, oi 1, ou, ou, ou] [(.ref z)] 115 #[oi xa, oi xb, oi xc, oi xd, oa x, oa y, oi 1, oa z, ou, ou] [(.ref z)] := by
  refine zAL (pc2 := 108) at_106 rfl rfl (L' := #[oi xa, oi xb, oi xc, oi xd, oa x, oa y, oi 1, oa z, ou, ou]) rfl ?_
  refine zR (pc2 := 110) at_108 rfl rfl rfl ?_
  refine zAi (pc2 := 113) at_110 rfl ?_
  refine zR (pc2 := 115) at_113 rfl rfl rfl ?_
  exact zF
theorem zAw (xa : Int32) (xb : Int32) (xc : Int32) (xd : Int32) (x : Addr) (y : Addr) (z : Addr) :
    zE zQ code 116 #[oi xa, oi xb, oi xc, oi xd, oa x, oa y, oi 1, oa z, ou, ou] [(.int 1)] 132 #[oi xa, oi xb, oi xc, oi xd, oa x, oa y, oi 1, oa z, ou, ou] [(.int 0), (.ref z)] := by
  refine zG (pc2 := 118) at_116 rfl rfl ?_
  refine zj (pc' := 123) at_118 (by decide) (by decide) (by decide) ?_
  refine zG (pc2 := 125) at_123 rfl rfl ?_
  refine zH (v := 1) (pc2 := 126) at_125 rfl rfl ?_
  refine zV (pc2 := 129) at_126 rfl (by decide) ?_
  refine zR (pc2 := 131) at_129 rfl rfl rfl ?_
  refine zH (v := 0) (pc2 := 132) at_131 rfl rfl ?_
  exact zF
theorem own_s1_10 (xa : Int32) (xb : Int32) (xc : Int32) (xd : Int32) (x : Addr) (y : Addr) (z : Addr) :
    zE zQ code 133 #[oi xa, oi xb, oi xc, oi xd, oa x, oa y, oi 1, oa z, ou, ou] [(.int 3)] 136 #[oi xa, oi xb, oi xc, oi xd, oa x, oa y, oi 1, oa z, ou, ou] [(.int 0), (.ref y), (.int 3)] := by
  refine zR (pc2 := 135) at_133 rfl rfl rfl ?_
  refine zH (v := 0) (pc2 := 136) at_135 rfl rfl ?_
  exact zF
theorem own_s1_11 (xa : Int32) (xb : Int32) (xc : Int32) (xd : Int32) (x : Addr) (y : Addr) (z : Addr) :
    zE zQ code 137 #[oi xa, oi xb, oi xc, oi xd, oa x, oa y, oi 1, oa z, ou, ou] [(.int 3), (.int 3)] 201 #[oi xa, oi xb, oi xc, oi xd, oa x, oa y, oi 1, oa z, oi 1, ou] [(.int 0), (.ref x)] := by
  refine zV (pc2 := 140) at_137 rfl (by decide) ?_
  refine zG (pc2 := 142) at_140 rfl rfl ?_
  refine zH (v := 2) (pc2 := 143) at_142 rfl rfl ?_
  refine zj (pc' := 157) at_143 (by decide) (by decide) (by decide) ?_
  refine zG (pc2 := 159) at_157 rfl rfl ?_
  refine zH (v := 3) (pc2 := 160) at_159 rfl rfl ?_
  refine zj (pc' := 174) at_160 (by decide) (by decide) (by decide) ?_
  refine zG (pc2 := 176) at_174 rfl rfl ?_
  refine zH (v := 4) (pc2 := 177) at_176 rfl rfl ?_
  refine zj (pc' := 191) at_177 (by decide) (by decide) (by decide) ?_
  refine zH (v := 1) (pc2 := 192) at_191 rfl rfl ?_
  refine zS (pc' := 196) at_192 (by decide) (by decide) ?_
  refine zi (pc2 := 198) at_196 rfl (L' := #[oi xa, oi xb, oi xc, oi xd, oa x, oa y, oi 1, oa z, oi 1, ou]) rfl ?_
  refine zR (pc2 := 200) at_198 rfl rfl rfl ?_
  refine zH (v := 0) (pc2 := 201) at_200 rfl rfl ?_
  exact zF
theorem zAx (xa : Int32) (xb : Int32) (xc : Int32) (xd : Int32) (x : Addr) (y : Addr) (z : Addr) (v9 : UInt64) (v203 : UInt64) (hv203 : (FP.i2d xa) = v203) (v204 : Int32) (hv204 : (cmpValue (FP.dcmp v9 v203) .l) = v204) (hb205 : ifCond.holds .ne v204 = false) :
    zE zQ code 202 #[oi xa, oi xb, oi xc, oi xd, oa x, oa y, oi 1, oa z, oi 1, ou] [(.double v9)] 211 #[oi xa, oi xb, oi xc, oi xd, oa x, oa y, oi 1, oa z, oi 1, ou] [(.int 1), (.ref x)] := by
  refine zL (pc2 := 203) at_202 rfl rfl ?_
  refine zr (pc2 := 204) at_203 rfl (v := v203) hv203 ?_
  refine zT (pc2 := 205) at_204 rfl (v := v204) hv204 ?_
  refine zW (pc2 := 208) at_205 rfl hb205 ?_
  refine zR (pc2 := 210) at_208 rfl rfl rfl ?_
  refine zH (v := 1) (pc2 := 211) at_210 rfl rfl ?_
  exact zF
theorem zAy (xa : Int32) (xb : Int32) (xc : Int32) (xd : Int32) (x : Addr) (y : Addr) (z : Addr) (v15 : UInt64) (v213 : UInt64) (hv213 : (FP.i2d xb) = v213) (v214 : Int32) (hv214 : (cmpValue (FP.dcmp v15 v213) .l) = v214) (hb215 : ifCond.holds .ne v214 = false) :
    zE zQ code 212 #[oi xa, oi xb, oi xc, oi xd, oa x, oa y, oi 1, oa z, oi 1, ou] [(.double v15)] 221 #[oi xa, oi xb, oi xc, oi xd, oa x, oa y, oi 1, oa z, oi 1, ou] [(.int 2), (.ref x)] := by
  refine zL (pc2 := 213) at_212 rfl rfl ?_
  refine zr (pc2 := 214) at_213 rfl (v := v213) hv213 ?_
  refine zT (pc2 := 215) at_214 rfl (v := v214) hv214 ?_
  refine zW (pc2 := 218) at_215 rfl hb215 ?_
  refine zR (pc2 := 220) at_218 rfl rfl rfl ?_
  refine zH (v := 2) (pc2 := 221) at_220 rfl rfl ?_
  exact zF
theorem zAz (xa : Int32) (xb : Int32) (xc : Int32) (xd : Int32) (x : Addr) (y : Addr) (z : Addr) (v21 : UInt64) (v223 : UInt64) (hv223 : (FP.i2d xc) = v223) (v224 : Int32) (hv224 : (cmpValue (FP.dcmp v21 v223) .l) = v224) (hb225 : ifCond.holds .ne v224 = false) :
    zE zQ code 222 #[oi xa, oi xb, oi xc, oi xd, oa x, oa y, oi 1, oa z, oi 1, ou] [(.double v21)] 231 #[oi xa, oi xb, oi xc, oi xd, oa x, oa y, oi 1, oa z, oi 1, ou] [(.int 3), (.ref x)] := by
  refine zL (pc2 := 223) at_222 rfl rfl ?_
  refine zr (pc2 := 224) at_223 rfl (v := v223) hv223 ?_
  refine zT (pc2 := 225) at_224 rfl (v := v224) hv224 ?_
  refine zW (pc2 := 228) at_225 rfl hb225 ?_
  refine zR (pc2 := 230) at_228 rfl rfl rfl ?_
  refine zH (v := 3) (pc2 := 231) at_230 rfl rfl ?_
  exact zF
theorem zBA (xa : Int32) (xb : Int32) (xc : Int32) (xd : Int32) (x : Addr) (y : Addr) (z : Addr) (v27 : UInt64) (v233 : UInt64) (hv233 : (FP.i2d xd) = v233) (v234 : Int32) (hv234 : (cmpValue (FP.dcmp v27 v233) .l) = v234) (hb235 : ifCond.holds .ne v234 = false) :
    zE zQ code 232 #[oi xa, oi xb, oi xc, oi xd, oa x, oa y, oi 1, oa z, oi 1, ou] [(.double v27)] 260 #[oi xa, oi xb, oi xc, oi xd, oa x, oa y, oi 1, oa z, oi 1, oi 1] [(.int 1)] := by
  refine zL (pc2 := 233) at_232 rfl rfl ?_
  refine zr (pc2 := 234) at_233 rfl (v := v233) hv233 ?_
  refine zT (pc2 := 235) at_234 rfl (v := v234) hv234 ?_
  refine zW (pc2 := 238) at_235 rfl hb235 ?_
  refine zH (v := 1) (pc2 := 239) at_238 rfl rfl ?_
  refine zS (pc' := 243) at_239 (by decide) (by decide) ?_
  refine zi (pc2 := 245) at_243 rfl (L' := #[oi xa, oi xb, oi xc, oi xd, oa x, oa y, oi 1, oa z, oi 1, oi 1]) rfl ?_
  refine zG (pc2 := 247) at_245 rfl rfl ?_
  refine zW (pc2 := 250) at_247 rfl (by decide) ?_
  refine zG (pc2 := 252) at_250 rfl rfl ?_
  refine zW (pc2 := 255) at_252 rfl (by decide) ?_
  refine zH (v := 1) (pc2 := 256) at_255 rfl rfl ?_
  refine zS (pc' := 260) at_256 (by decide) (by decide) ?_
  exact zF
set_option maxRecDepth 65536 in
set_option maxHeartbeats 40000000 in
theorem own_law1 (l : Launch) (Z : State) (a0 : Array Value) (hb0 : Heap) (hw : ∀ d ∈ tables_1, d.before a0 Z = true) (xa : Int32) (xb : Int32) (xc : Int32) (xd : Int32) (hb38 : ifCond.holds .le xa = true) (hb54 : ifCond.holds .le xb = true) (hb70 : ifCond.holds .le xc = true) (hb86 : ifCond.holds .le xd = false) :
    zl l Z a0 hb0 x code maxLocals ret tables_1 room_1 #[(.int xa), (.int xb), (.int xc), (.int xd)] [] (fun v _ => v = some (.int 1)) := by
  refine zm (L0 := #[oi xa, oi xb, oi xc, oi xd, ou, ou, ou, ou, ou, ou]) (plainFor_of_name zx) (fun m => zAB m xa xb xc xd) ?_
  intro p e s m below meth c T0 hx hZ hown hby hml hnm H0
  have hown : s.vm.findClass "com/example/tangentia/tangentia/flash/StabilityTestPresentComponentsPinLaw" = some m.cls := hown
  have hml : c.maxLocals = 10 := hml
  obtain ⟨Ts1_1, x, Hs1_1, sts1_1⟩ := zh H0 hx hZ (zO hw 0 rfl) (g := (mkF m 1 #[oi xa, oi xb, oi xc, oi xd, ou, ou, ou, ou, ou, ou] [(.int 4)])) rfl (hb hby at_1) rfl (by decide) (cap := 4) (by decide) (by decide) (by decide) (by decide)
  change zK _ _ _ _ _ _ _ _ _ _ _ _ _ _ [(x, zB .double [.double 0, .double 0, .double 0, .double 0])] _ _ at Hs1_1
  obtain ⟨v9, hv9⟩ : ∃ z : UInt64, (FP.i2d xa) = z := ⟨_, rfl⟩
  obtain ⟨Ts1_2, Hs1_2, sts1_2⟩ := zd Hs1_1 hx hZ 0 0 rfl (by decide) (Nat.le_of_ble_eq_true rfl) (g := (mkF m 10 #[oi xa, oi xb, oi xc, oi xd, oa x, ou, ou, ou, ou, ou] [(.double v9), (.int 0), (.ref x)])) rfl rfl (hb hby at_10)
  change zK _ _ _ _ _ _ _ _ _ _ _ _ _ _ [(x, zB .double [.double v9, .double 0, .double 0, .double 0])] _ _ at Hs1_2
  obtain ⟨v15, hv15⟩ : ∃ z : UInt64, (FP.i2d xb) = z := ⟨_, rfl⟩
  obtain ⟨Ts1_3, Hs1_3, sts1_3⟩ := zd Hs1_2 hx hZ 0 1 rfl (by decide) (Nat.le_of_ble_eq_true rfl) (g := (mkF m 16 #[oi xa, oi xb, oi xc, oi xd, oa x, ou, ou, ou, ou, ou] [(.double v15), (.int 1), (.ref x)])) rfl rfl (hb hby at_16)
  change zK _ _ _ _ _ _ _ _ _ _ _ _ _ _ [(x, zB .double [.double v9, .double v15, .double 0, .double 0])] _ _ at Hs1_3
  obtain ⟨v21, hv21⟩ : ∃ z : UInt64, (FP.i2d xc) = z := ⟨_, rfl⟩
  obtain ⟨Ts1_4, Hs1_4, sts1_4⟩ := zd Hs1_3 hx hZ 0 2 rfl (by decide) (Nat.le_of_ble_eq_true rfl) (g := (mkF m 22 #[oi xa, oi xb, oi xc, oi xd, oa x, ou, ou, ou, ou, ou] [(.double v21), (.int 2), (.ref x)])) rfl rfl (hb hby at_22)
  change zK _ _ _ _ _ _ _ _ _ _ _ _ _ _ [(x, zB .double [.double v9, .double v15, .double v21, .double 0])] _ _ at Hs1_4
  obtain ⟨v27, hv27⟩ : ∃ z : UInt64, (FP.i2d xd) = z := ⟨_, rfl⟩
  obtain ⟨Ts1_5, Hs1_5, sts1_5⟩ := zd Hs1_4 hx hZ 0 3 rfl (by decide) (Nat.le_of_ble_eq_true rfl) (g := (mkF m 28 #[oi xa, oi xb, oi xc, oi xd, oa x, ou, ou, ou, ou, ou] [(.double v27), (.int 3), (.ref x)])) rfl rfl (hb hby at_28)
  change zK _ _ _ _ _ _ _ _ _ _ _ _ _ _ [(x, zB .double [.double v9, .double v15, .double v21, .double v27])] _ _ at Hs1_5
  obtain ⟨Ts1_6, y, Hs1_6, sts1_6⟩ := zh Hs1_5 hx hZ (zO hw 1 rfl) (g := (mkF m 30 #[oi xa, oi xb, oi xc, oi xd, oa x, ou, ou, ou, ou, ou] [(.int 4)])) rfl (hb hby at_30) rfl (by decide) (cap := 4) (by decide) (by decide) (by decide) (by decide)
  change zK _ _ _ _ _ _ _ _ _ _ _ _ _ _ [(x, zB .double [.double v9, .double v15, .double v21, .double v27]), (y, zB .int [.int 0, .int 0, .int 0, .int 0])] _ _ at Hs1_6
  obtain ⟨Ts1_7, Hs1_7, sts1_7⟩ := ze Hs1_6 hx hZ 1 0 rfl (by decide) (Nat.le_of_ble_eq_true rfl) (g := (mkF m 94 #[oi xa, oi xb, oi xc, oi xd, oa x, oa y, oi 0, ou, ou, ou] [(.int 3), (.int 0), (.ref y)])) rfl rfl (hb hby at_94)
  change zK _ _ _ _ _ _ _ _ _ _ _ _ _ _ [(x, zB .double [.double v9, .double v15, .double v21, .double v27]), (y, zB .int [.int 3, .int 0, .int 0, .int 0])] _ _ at Hs1_7
  have hp0 : ifCond.holds .le (cmpValue (FP.dcmp v9 (0 : UInt64)) .l) = true := by rw [← hv9, zY (zI xa) zX]; exact zo hb38
  have hp1 : ifCond.holds .le (cmpValue (FP.dcmp v15 (0 : UInt64)) .l) = true := by rw [← hv15, zY (zI xb) zX]; exact zo hb54
  have hp2 : ifCond.holds .le (cmpValue (FP.dcmp v21 (0 : UInt64)) .l) = true := by rw [← hv21, zY (zI xc) zX]; exact zo hb70
  have hp3 : ifCond.holds .le (cmpValue (FP.dcmp v27 (0 : UInt64)) .l) = false := by rw [← hv27, zY (zI xd) zX]; exact zn hb86
  obtain ⟨Ts1_8, vs1_8_, css1_8_, qs1_8, Hs1_8, sts1_8⟩ := zw Hs1_7 hx hZ hown (zO hw 2 rfl) (zO hw 3 rfl) (zO hw 4 rfl) (zO hw 5 rfl) (by decide) (argsL := [(.ref x)]) (rest := []) (W := 0) (own_q1 l Z a0 hb0 hw x y v9 v15 v21 v27 hp0 hp1 hp2 hp3) (by decide) (by decide) (by decide) (by decide) (g := (mkF m 103 #[oi xa, oi xb, oi xc, oi xd, oa x, oa y, oi 1, ou, ou, ou] [(.ref x)])) rfl (by rw [hml]; rfl) (lenOf zz rfl) rfl (by show 2 * 0 + _ ≤ _; exact Nat.le_of_eq rfl) (hb hby at_103)
  obtain ⟨z, rfl, rfl⟩ := qs1_8
  obtain ⟨v203, hv203⟩ : ∃ z : UInt64, (FP.i2d xa) = z := ⟨_, rfl⟩
  obtain ⟨v204, hv204⟩ : ∃ z : Int32, (cmpValue (FP.dcmp v9 v203) .l) = z := ⟨_, rfl⟩
  obtain ⟨v213, hv213⟩ : ∃ z : UInt64, (FP.i2d xb) = z := ⟨_, rfl⟩
  obtain ⟨v214, hv214⟩ : ∃ z : Int32, (cmpValue (FP.dcmp v15 v213) .l) = z := ⟨_, rfl⟩
  obtain ⟨v223, hv223⟩ : ∃ z : UInt64, (FP.i2d xc) = z := ⟨_, rfl⟩
  obtain ⟨v224, hv224⟩ : ∃ z : Int32, (cmpValue (FP.dcmp v21 v223) .l) = z := ⟨_, rfl⟩
  obtain ⟨v233, hv233⟩ : ∃ z : UInt64, (FP.i2d xd) = z := ⟨_, rfl⟩
  obtain ⟨v234, hv234⟩ : ∃ z : Int32, (cmpValue (FP.dcmp v27 v233) .l) = z := ⟨_, rfl⟩
  have hb205 : ifCond.holds .ne v204 = false := by rw [← hv204, ← hv203, ← hv9, zZ (zI xa) (zI xa)]; simp
  have hb215 : ifCond.holds .ne v214 = false := by rw [← hv214, ← hv213, ← hv15, zZ (zI xb) (zI xb)]; simp
  have hb225 : ifCond.holds .ne v224 = false := by rw [← hv224, ← hv223, ← hv21, zZ (zI xc) (zI xc)]; simp
  have hb235 : ifCond.holds .ne v234 = false := by rw [← hv234, ← hv233, ← hv27, zZ (zI xd) (zI xd)]; simp
  refine ⟨_, _, _, _, 260, #[oi xa, oi xb, oi xc, oi xd, oa x, oa y, oi 1, oa z, oi 1, oi 1], Hs1_8, by decide, by decide, Or.inr ⟨.boolean, (.int 1), [], .ireturn, rfl, rfl, at_260, zv (Or.inr rfl), fun target q => ?_⟩⟩
  refine zA H0 hx hZ hown hby hw zC (zAF xa xb xc xd) _ ?_
  refine sts1_1 _ ?_
  refine zA Hs1_1 hx hZ hown hby hw zC (zAG xa xb xc xd x v9 hv9) _ ?_
  refine sts1_2 _ ?_
  refine zA Hs1_2 hx hZ hown hby hw zC (zAH xa xb xc xd x v15 hv15) _ ?_
  refine sts1_3 _ ?_
  refine zA Hs1_3 hx hZ hown hby hw zC (zAI xa xb xc xd x v21 hv21) _ ?_
  refine sts1_4 _ ?_
  refine zA Hs1_4 hx hZ hown hby hw zC (zAJ xa xb xc xd x v27 hv27) _ ?_
  refine sts1_5 _ ?_
  refine zA Hs1_5 hx hZ hown hby hw zC (zAK xa xb xc xd x) _ ?_
  refine sts1_6 _ ?_
  refine zA Hs1_6 hx hZ hown hby hw zC (own_s1_6 xa xb xc xd x y hb38 hb54 hb70 hb86) _ ?_
  refine sts1_7 _ ?_
  refine zA Hs1_7 hx hZ hown hby hw zC (own_s1_7 xa xb xc xd x y) _ ?_
  refine sts1_8 _ ?_
  refine zA Hs1_8 hx hZ hown hby hw zC (zAv xa xb xc xd x y z) _ ?_
  refine zP Hs1_8 hx hZ 2 rfl (z := (1 : Int32)) rfl (g := (mkF m 115 #[oi xa, oi xb, oi xc, oi xd, oa x, oa y, oi 1, oa z, ou, ou] [(.ref z)])) rfl rfl (hb hby at_115) _ ?_
  refine zA Hs1_8 hx hZ hown hby hw zC (zAw xa xb xc xd x y z) _ ?_
  refine zb Hs1_8 hx hZ 2 0 rfl (by decide) rfl (g := (mkF m 132 #[oi xa, oi xb, oi xc, oi xd, oa x, oa y, oi 1, oa z, ou, ou] [(.int 0), (.ref z)])) rfl rfl (hb hby at_132) _ ?_
  refine zA Hs1_8 hx hZ hown hby hw zC (own_s1_10 xa xb xc xd x y z) _ ?_
  refine zb Hs1_8 hx hZ 1 0 rfl (by decide) rfl (g := (mkF m 136 #[oi xa, oi xb, oi xc, oi xd, oa x, oa y, oi 1, oa z, ou, ou] [(.int 0), (.ref y), (.int 3)])) rfl rfl (hb hby at_136) _ ?_
  refine zA Hs1_8 hx hZ hown hby hw zC (own_s1_11 xa xb xc xd x y z) _ ?_
  refine zJ Hs1_8 hx hZ 0 0 rfl (by decide) rfl (g := (mkF m 201 #[oi xa, oi xb, oi xc, oi xd, oa x, oa y, oi 1, oa z, oi 1, ou] [(.int 0), (.ref x)])) rfl rfl (hb hby at_201) _ ?_
  refine zA Hs1_8 hx hZ hown hby hw zC (zAx xa xb xc xd x y z v9 v203 hv203 v204 hv204 hb205) _ ?_
  refine zJ Hs1_8 hx hZ 0 1 rfl (by decide) rfl (g := (mkF m 211 #[oi xa, oi xb, oi xc, oi xd, oa x, oa y, oi 1, oa z, oi 1, ou] [(.int 1), (.ref x)])) rfl rfl (hb hby at_211) _ ?_
  refine zA Hs1_8 hx hZ hown hby hw zC (zAy xa xb xc xd x y z v15 v213 hv213 v214 hv214 hb215) _ ?_
  refine zJ Hs1_8 hx hZ 0 2 rfl (by decide) rfl (g := (mkF m 221 #[oi xa, oi xb, oi xc, oi xd, oa x, oa y, oi 1, oa z, oi 1, ou] [(.int 2), (.ref x)])) rfl rfl (hb hby at_221) _ ?_
  refine zA Hs1_8 hx hZ hown hby hw zC (zAz xa xb xc xd x y z v21 v223 hv223 v224 hv224 hb225) _ ?_
  refine zJ Hs1_8 hx hZ 0 3 rfl (by decide) rfl (g := (mkF m 231 #[oi xa, oi xb, oi xc, oi xd, oa x, oa y, oi 1, oa z, oi 1, ou] [(.int 3), (.ref x)])) rfl rfl (hb hby at_231) _ ?_
  refine zA Hs1_8 hx hZ hown hby hw zC (zBA xa xb xc xd x y z v27 v233 hv233 v234 hv234 hb235) _ ?_
  exact q
theorem own_p2_4 (x : Addr) (db : UInt64) (dc : UInt64) (v26'' : Int32) (hv26'' : (cmpValue (FP.dcmp dc (0 : UInt64)) .l) = v26'') (hb27_2 : ifCond.holds .le v26'' = false) :
    zE zM ok0 20 #[oa x, oi 0, oa x, oi 4, oi 2, .val (.double db), .second] [(.double dc)] 19 #[oa x, oi 1, oa x, oi 4, oi 3, .val (.double dc), .second] [(.int 3), (.ref x)] := by
  refine zt (pc2 := 22) d1_20 rfl (L' := #[oa x, oi 0, oa x, oi 4, oi 2, .val (.double dc), .second]) rfl ?_
  refine zL (pc2 := 23) d1_22 rfl rfl ?_
  refine zs (pc2 := 25) d1_23 rfl rfl ?_
  refine zf (v := 0) (pc2 := 26) d1_25 rfl rfl ?_
  refine zT (pc2 := 27) d1_26 rfl (v := v26'') hv26'' ?_
  refine zW (pc2 := 30) d1_27 rfl hb27_2 ?_
  refine zH (v := 1) (pc2 := 31) d1_30 rfl rfl ?_
  refine zS (pc' := 35) d1_31 (by decide) (by decide) ?_
  refine zk (pc2 := 36) d1_35 rfl (v := (1 : Int32)) (by decide) ?_
  refine zq (pc2 := 37) d1_36 rfl (L' := #[oa x, oi 1, oa x, oi 4, oi 2, .val (.double dc), .second]) rfl ?_
  refine zU (pc2 := 40) d1_37 rfl rfl (v := (3 : Int32)) (by decide) (L' := #[oa x, oi 1, oa x, oi 4, oi 3, .val (.double dc), .second]) rfl ?_
  refine zS (pc' := 10) d1_40 (by decide) (by decide) ?_
  refine zG (pc2 := 12) d1_10 rfl rfl ?_
  refine zL (pc2 := 13) d1_12 rfl rfl ?_
  refine zV (pc2 := 16) d1_13 rfl (by decide) ?_
  refine zN (pc2 := 17) d1_16 rfl rfl rfl ?_
  refine zG (pc2 := 19) d1_17 rfl rfl ?_
  exact zF
theorem zBb (x : Addr) (dc : UInt64) (dd : UInt64) (v26''' : Int32) (hv26''' : (cmpValue (FP.dcmp dd (0 : UInt64)) .l) = v26''') (hb27_3 : ifCond.holds .le v26''' = true) :
    zE zM ok0 20 #[oa x, oi 1, oa x, oi 4, oi 3, .val (.double dc), .second] [(.double dd)] 44 #[oa x, oi 1, oa x, oi 4, oi 4, .val (.double dd), .second] [(.int 1)] := by
  refine zt (pc2 := 22) d1_20 rfl (L' := #[oa x, oi 1, oa x, oi 4, oi 3, .val (.double dd), .second]) rfl ?_
  refine zL (pc2 := 23) d1_22 rfl rfl ?_
  refine zs (pc2 := 25) d1_23 rfl rfl ?_
  refine zf (v := 0) (pc2 := 26) d1_25 rfl rfl ?_
  refine zT (pc2 := 27) d1_26 rfl (v := v26''') hv26''' ?_
  refine zg (pc' := 34) d1_27 hb27_3 (by decide) (by decide) ?_
  refine zH (v := 0) (pc2 := 35) d1_34 rfl rfl ?_
  refine zk (pc2 := 36) d1_35 rfl (v := (1 : Int32)) (by decide) ?_
  refine zq (pc2 := 37) d1_36 rfl (L' := #[oa x, oi 1, oa x, oi 4, oi 3, .val (.double dd), .second]) rfl ?_
  refine zU (pc2 := 40) d1_37 rfl rfl (v := (4 : Int32)) (by decide) (L' := #[oa x, oi 1, oa x, oi 4, oi 4, .val (.double dd), .second]) rfl ?_
  refine zS (pc' := 10) d1_40 (by decide) (by decide) ?_
  refine zG (pc2 := 12) d1_10 rfl rfl ?_
  refine zL (pc2 := 13) d1_12 rfl rfl ?_
  refine zj (pc' := 43) d1_13 (by decide) (by decide) (by decide) ?_
  refine zL (pc2 := 44) d1_43 rfl rfl ?_
  exact zF
theorem own_p2_12 (x : Addr) (z : Addr) (dd : UInt64) (dc : UInt64) (v64'' : Int32) (hv64'' : (cmpValue (FP.dcmp dc (0 : UInt64)) .l) = v64'') (hb65_2 : ifCond.holds .le v64'' = false) :
    zE zM ok0 63 #[oa x, oi 1, oa z, oi 0, oi 2, .val (.double dd), .second] [(.double dc)] 75 #[oa x, oi 1, oa z, oi 1, oi 2, .val (.double dd), .second] [(.int 2), (.int 0), (.ref z)] := by
  refine zf (v := 0) (pc2 := 64) d1_63 rfl rfl ?_
  refine zT (pc2 := 65) d1_64 rfl (v := v64'') hv64'' ?_
  refine zW (pc2 := 68) d1_65 rfl hb65_2 ?_
  refine zN (pc2 := 69) d1_68 rfl rfl rfl ?_
  refine zL (pc2 := 70) d1_69 rfl rfl ?_
  refine zU (pc2 := 73) d1_70 rfl rfl (v := (1 : Int32)) (by decide) (L' := #[oa x, oi 1, oa z, oi 1, oi 2, .val (.double dd), .second]) rfl ?_
  refine zG (pc2 := 75) d1_73 rfl rfl ?_
  exact zF
theorem own_p2_13 (x : Addr) (z : Addr) (dd : UInt64) :
    zE zM ok0 76 #[oa x, oi 1, oa z, oi 1, oi 2, .val (.double dd), .second] [] 55 #[oa x, oi 1, oa z, oi 1, oi 3, .val (.double dd), .second] [(.ref x), (.int 3)] := by
  refine zU (pc2 := 79) d1_76 rfl rfl (v := (3 : Int32)) (by decide) (L' := #[oa x, oi 1, oa z, oi 1, oi 3, .val (.double dd), .second]) rfl ?_
  refine zS (pc' := 52) d1_79 (by decide) (by decide) ?_
  refine zG (pc2 := 54) d1_52 rfl rfl ?_
  refine zN (pc2 := 55) d1_54 rfl rfl rfl ?_
  exact zF
theorem zBc (x : Addr) (z : Addr) (dd : UInt64) :
    zE zM ok0 56 #[oa x, oi 1, oa z, oi 1, oi 3, .val (.double dd), .second] [(.int 4), (.int 3)] 62 #[oa x, oi 1, oa z, oi 1, oi 3, .val (.double dd), .second] [(.int 3), (.ref x)] := by
  refine zV (pc2 := 59) d1_56 rfl (by decide) ?_
  refine zN (pc2 := 60) d1_59 rfl rfl rfl ?_
  refine zG (pc2 := 62) d1_60 rfl rfl ?_
  exact zF
theorem zBd (x : Addr) (z : Addr) (dd : UInt64) (v64''' : Int32) (hv64''' : (cmpValue (FP.dcmp dd (0 : UInt64)) .l) = v64''') (hb65_3 : ifCond.holds .le v64''' = true) :
    zE zM ok0 63 #[oa x, oi 1, oa z, oi 1, oi 3, .val (.double dd), .second] [(.double dd)] 55 #[oa x, oi 1, oa z, oi 1, oi 4, .val (.double dd), .second] [(.ref x), (.int 4)] := by
  refine zf (v := 0) (pc2 := 64) d1_63 rfl rfl ?_
  refine zT (pc2 := 65) d1_64 rfl (v := v64''') hv64''' ?_
  refine zg (pc' := 76) d1_65 hb65_3 (by decide) (by decide) ?_
  refine zU (pc2 := 79) d1_76 rfl rfl (v := (4 : Int32)) (by decide) (L' := #[oa x, oi 1, oa z, oi 1, oi 4, .val (.double dd), .second]) rfl ?_
  refine zS (pc' := 52) d1_79 (by decide) (by decide) ?_
  refine zG (pc2 := 54) d1_52 rfl rfl ?_
  refine zN (pc2 := 55) d1_54 rfl rfl rfl ?_
  exact zF
set_option maxRecDepth 65536 in
set_option maxHeartbeats 4000000 in
theorem own_q2 (l : Launch) (Z : State) (a0 : Array Value) (hb0 : Heap) (hw : ∀ d ∈ tables_1, d.before a0 Z = true) (x : Addr) (y : Addr) (da db dc dd : UInt64) (hp0 : ifCond.holds .le (cmpValue (FP.dcmp da (0 : UInt64)) .l) = true) (hp1 : ifCond.holds .le (cmpValue (FP.dcmp db (0 : UInt64)) .l) = true) (hp2 : ifCond.holds .le (cmpValue (FP.dcmp dc (0 : UInt64)) .l) = false) (hp3 : ifCond.holds .le (cmpValue (FP.dcmp dd (0 : UInt64)) .l) = true) :
    zl l Z a0 hb0 (⟨"com/example/tangentia/tangentia/flash/StabilityTest", "presentComponents", "([D)[I"⟩ : MethodName) ok0 7 (some (.array .int)) [] ({ frames := 0, cells := 1, slots := 1, locals := 0 } : Room) #[(.ref x)] [(x, zB .double [.double da, .double db, .double dc, .double dd]), (y, zB .int [.int 2, .int 0, .int 0, .int 0])] (fun r cs' => ∃ z, r = some (.ref z) ∧ cs' = [(x, zB .double [.double da, .double db, .double dc, .double dd]), (y, zB .int [.int 2, .int 0, .int 0, .int 0]), (z, zB .int [.int 2])]) := by
  refine zm (L0 := #[oa x, ou, ou, ou, ou, ou, ou]) (plainFor_of_name zy) (fun m => zAA m x) ?_
  intro p e s m below meth c T0 hx hZ hown hby hml hnm H0
  obtain ⟨v26, hv26⟩ : ∃ z : Int32, (cmpValue (FP.dcmp da (0 : UInt64)) .l) = z := ⟨_, rfl⟩
  obtain ⟨v26', hv26'⟩ : ∃ z : Int32, (cmpValue (FP.dcmp db (0 : UInt64)) .l) = z := ⟨_, rfl⟩
  obtain ⟨v26'', hv26''⟩ : ∃ z : Int32, (cmpValue (FP.dcmp dc (0 : UInt64)) .l) = z := ⟨_, rfl⟩
  obtain ⟨v26''', hv26'''⟩ : ∃ z : Int32, (cmpValue (FP.dcmp dd (0 : UInt64)) .l) = z := ⟨_, rfl⟩
  obtain ⟨Tp2_6, z, Hp2_6, stp2_6⟩ := zh H0 hx hZ (zO hw 1 rfl) (g := (mkF m 44 #[oa x, oi 1, oa x, oi 4, oi 4, .val (.double dd), .second] [(.int 1)])) rfl (hb hby d1_44) rfl (by decide) (cap := 1) (by decide) (by decide) (by decide) (by decide)
  change zK _ _ _ _ _ _ _ _ _ _ _ _ _ _ [(x, zB .double [.double da, .double db, .double dc, .double dd]), (y, zB .int [.int 2, .int 0, .int 0, .int 0]), (z, zB .int [.int 0])] _ _ at Hp2_6
  obtain ⟨v64, hv64⟩ : ∃ z : Int32, (cmpValue (FP.dcmp da (0 : UInt64)) .l) = z := ⟨_, rfl⟩
  obtain ⟨v64', hv64'⟩ : ∃ z : Int32, (cmpValue (FP.dcmp db (0 : UInt64)) .l) = z := ⟨_, rfl⟩
  obtain ⟨v64'', hv64''⟩ : ∃ z : Int32, (cmpValue (FP.dcmp dc (0 : UInt64)) .l) = z := ⟨_, rfl⟩
  obtain ⟨Tp2_13, Hp2_13, stp2_13⟩ := ze Hp2_6 hx hZ 2 0 rfl (by decide) (Nat.le_of_ble_eq_true rfl) (g := (mkF m 75 #[oa x, oi 1, oa z, oi 1, oi 2, .val (.double dd), .second] [(.int 2), (.int 0), (.ref z)])) rfl rfl (hb hby d1_75)
  change zK _ _ _ _ _ _ _ _ _ _ _ _ _ _ [(x, zB .double [.double da, .double db, .double dc, .double dd]), (y, zB .int [.int 2, .int 0, .int 0, .int 0]), (z, zB .int [.int 2])] _ _ at Hp2_13
  obtain ⟨v64''', hv64'''⟩ : ∃ z : Int32, (cmpValue (FP.dcmp dd (0 : UInt64)) .l) = z := ⟨_, rfl⟩
  have hb27_0 : ifCond.holds .le v26 = true := by rw [← hv26]; exact hp0
  have hb27_1 : ifCond.holds .le v26' = true := by rw [← hv26']; exact hp1
  have hb27_2 : ifCond.holds .le v26'' = false := by rw [← hv26'']; exact hp2
  have hb27_3 : ifCond.holds .le v26''' = true := by rw [← hv26''']; exact hp3
  have hb65_0 : ifCond.holds .le v64 = true := by rw [← hv64]; exact hp0
  have hb65_1 : ifCond.holds .le v64' = true := by rw [← hv64']; exact hp1
  have hb65_2 : ifCond.holds .le v64'' = false := by rw [← hv64'']; exact hp2
  have hb65_3 : ifCond.holds .le v64''' = true := by rw [← hv64''']; exact hp3
  refine ⟨_, _, _, _, 83, #[oa x, oi 1, oa z, oi 1, oi 4, .val (.double dd), .second], Hp2_13, by decide, by decide, Or.inr ⟨(.array .int), (.ref z), [], .areturn, rfl, ⟨z, rfl, rfl⟩, d1_83, zAC _, fun target q => ?_⟩⟩
  refine zA H0 hx hZ hown hby hw zD (zAD x) _ ?_
  refine zP H0 hx hZ 0 rfl (z := (4 : Int32)) rfl (g := (mkF m 5 #[oa x, oi 0, oa x, ou, ou, ou, ou] [(.ref x)])) rfl rfl (hb hby d1_5) _ ?_
  refine zA H0 hx hZ hown hby hw zD (zAE x) _ ?_
  refine zJ H0 hx hZ 0 0 rfl (by decide) rfl (g := (mkF m 19 #[oa x, oi 0, oa x, oi 4, oi 0, ou, ou] [(.int 0), (.ref x)])) rfl rfl (hb hby d1_19) _ ?_
  refine zA H0 hx hZ hown hby hw zD (zAQ x da v26 hv26 hb27_0) _ ?_
  refine zJ H0 hx hZ 0 1 rfl (by decide) rfl (g := (mkF m 19 #[oa x, oi 0, oa x, oi 4, oi 1, .val (.double da), .second] [(.int 1), (.ref x)])) rfl rfl (hb hby d1_19) _ ?_
  refine zA H0 hx hZ hown hby hw zD (zAr x da db v26' hv26' hb27_1) _ ?_
  refine zJ H0 hx hZ 0 2 rfl (by decide) rfl (g := (mkF m 19 #[oa x, oi 0, oa x, oi 4, oi 2, .val (.double db), .second] [(.int 2), (.ref x)])) rfl rfl (hb hby d1_19) _ ?_
  refine zA H0 hx hZ hown hby hw zD (own_p2_4 x db dc v26'' hv26'' hb27_2) _ ?_
  refine zJ H0 hx hZ 0 3 rfl (by decide) rfl (g := (mkF m 19 #[oa x, oi 1, oa x, oi 4, oi 3, .val (.double dc), .second] [(.int 3), (.ref x)])) rfl rfl (hb hby d1_19) _ ?_
  refine zA H0 hx hZ hown hby hw zD (zBb x dc dd v26''' hv26''' hb27_3) _ ?_
  refine stp2_6 _ ?_
  refine zA Hp2_6 hx hZ hown hby hw zD (zAs x dd z) _ ?_
  refine zP Hp2_6 hx hZ 0 rfl (z := (4 : Int32)) rfl (g := (mkF m 55 #[oa x, oi 1, oa z, oi 0, oi 0, .val (.double dd), .second] [(.ref x), (.int 0)])) rfl rfl (hb hby d1_55) _ ?_
  refine zA Hp2_6 hx hZ hown hby hw zD (zAt x z dd) _ ?_
  refine zJ Hp2_6 hx hZ 0 0 rfl (by decide) rfl (g := (mkF m 62 #[oa x, oi 1, oa z, oi 0, oi 0, .val (.double dd), .second] [(.int 0), (.ref x)])) rfl rfl (hb hby d1_62) _ ?_
  refine zA Hp2_6 hx hZ hown hby hw zD (zBZ x z dd da v64 hv64 hb65_0) _ ?_
  refine zP Hp2_6 hx hZ 0 rfl (z := (4 : Int32)) rfl (g := (mkF m 55 #[oa x, oi 1, oa z, oi 0, oi 1, .val (.double dd), .second] [(.ref x), (.int 1)])) rfl rfl (hb hby d1_55) _ ?_
  refine zA Hp2_6 hx hZ hown hby hw zD (zBa x z dd) _ ?_
  refine zJ Hp2_6 hx hZ 0 1 rfl (by decide) rfl (g := (mkF m 62 #[oa x, oi 1, oa z, oi 0, oi 1, .val (.double dd), .second] [(.int 1), (.ref x)])) rfl rfl (hb hby d1_62) _ ?_
  refine zA Hp2_6 hx hZ hown hby hw zD (own_p1_10 x z dd db v64' hv64' hb65_1) _ ?_
  refine zP Hp2_6 hx hZ 0 rfl (z := (4 : Int32)) rfl (g := (mkF m 55 #[oa x, oi 1, oa z, oi 0, oi 2, .val (.double dd), .second] [(.ref x), (.int 2)])) rfl rfl (hb hby d1_55) _ ?_
  refine zA Hp2_6 hx hZ hown hby hw zD (own_p1_11 x z dd) _ ?_
  refine zJ Hp2_6 hx hZ 0 2 rfl (by decide) rfl (g := (mkF m 62 #[oa x, oi 1, oa z, oi 0, oi 2, .val (.double dd), .second] [(.int 2), (.ref x)])) rfl rfl (hb hby d1_62) _ ?_
  refine zA Hp2_6 hx hZ hown hby hw zD (own_p2_12 x z dd dc v64'' hv64'' hb65_2) _ ?_
  refine stp2_13 _ ?_
  refine zA Hp2_13 hx hZ hown hby hw zD (own_p2_13 x z dd) _ ?_
  refine zP Hp2_13 hx hZ 0 rfl (z := (4 : Int32)) rfl (g := (mkF m 55 #[oa x, oi 1, oa z, oi 1, oi 3, .val (.double dd), .second] [(.ref x), (.int 3)])) rfl rfl (hb hby d1_55) _ ?_
  refine zA Hp2_13 hx hZ hown hby hw zD (zBc x z dd) _ ?_
  refine zJ Hp2_13 hx hZ 0 3 rfl (by decide) rfl (g := (mkF m 62 #[oa x, oi 1, oa z, oi 1, oi 3, .val (.double dd), .second] [(.int 3), (.ref x)])) rfl rfl (hb hby d1_62) _ ?_
  refine zA Hp2_13 hx hZ hown hby hw zD (zBd x z dd v64''' hv64''' hb65_3) _ ?_
  refine zP Hp2_13 hx hZ 0 rfl (z := (4 : Int32)) rfl (g := (mkF m 55 #[oa x, oi 1, oa z, oi 1, oi 4, .val (.double dd), .second] [(.ref x), (.int 4)])) rfl rfl (hb hby d1_55) _ ?_
  refine zA Hp2_13 hx hZ hown hby hw zD (zAu x z dd) _ ?_
  exact q
theorem own_s2_6 (xa : Int32) (xb : Int32) (xc : Int32) (xd : Int32) (x : Addr) (y : Addr) (hb38 : ifCond.holds .le xa = true) (hb54 : ifCond.holds .le xb = true) (hb70 : ifCond.holds .le xc = false) :
    zE zQ code 32 #[oi xa, oi xb, oi xc, oi xd, oa x, ou, ou, ou, ou, ou] [(.ref y)] 78 #[oi xa, oi xb, oi xc, oi xd, oa x, oa y, oi 0, ou, ou, ou] [(.int 2), (.int 0), (.ref y)] := by
  refine zAL (pc2 := 34) at_32 rfl rfl (L' := #[oi xa, oi xb, oi xc, oi xd, oa x, oa y, ou, ou, ou, ou]) rfl ?_
  refine zH (v := 0) (pc2 := 35) at_34 rfl rfl ?_
  refine zi (pc2 := 37) at_35 rfl (L' := #[oi xa, oi xb, oi xc, oi xd, oa x, oa y, oi 0, ou, ou, ou]) rfl ?_
  refine zL (pc2 := 38) at_37 rfl rfl ?_
  refine zg (pc' := 53) at_38 hb38 (by decide) (by decide) ?_
  refine zL (pc2 := 54) at_53 rfl rfl ?_
  refine zg (pc' := 69) at_54 hb54 (by decide) (by decide) ?_
  refine zL (pc2 := 70) at_69 rfl rfl ?_
  refine zW (pc2 := 73) at_70 rfl hb70 ?_
  refine zR (pc2 := 75) at_73 rfl rfl rfl ?_
  refine zG (pc2 := 77) at_75 rfl rfl ?_
  refine zH (v := 2) (pc2 := 78) at_77 rfl rfl ?_
  exact zF
theorem own_s2_7 (xa : Int32) (xb : Int32) (xc : Int32) (xd : Int32) (x : Addr) (y : Addr) (hb86 : ifCond.holds .le xd = true) :
    zE zQ code 79 #[oi xa, oi xb, oi xc, oi xd, oa x, oa y, oi 0, ou, ou, ou] [] 103 #[oi xa, oi xb, oi xc, oi xd, oa x, oa y, oi 1, ou, ou, ou] [(.ref x)] := by
  refine zG (pc2 := 81) at_79 rfl rfl ?_
  refine zH (v := 1) (pc2 := 82) at_81 rfl rfl ?_
  refine zk (pc2 := 83) at_82 rfl (v := (1 : Int32)) (by decide) ?_
  refine zi (pc2 := 85) at_83 rfl (L' := #[oi xa, oi xb, oi xc, oi xd, oa x, oa y, oi 1, ou, ou, ou]) rfl ?_
  refine zL (pc2 := 86) at_85 rfl rfl ?_
  refine zg (pc' := 101) at_86 hb86 (by decide) (by decide) ?_
  refine zR (pc2 := 103) at_101 rfl rfl rfl ?_
  exact zF
theorem own_s2_10 (xa : Int32) (xb : Int32) (xc : Int32) (xd : Int32) (x : Addr) (y : Addr) (z : Addr) :
    zE zQ code 133 #[oi xa, oi xb, oi xc, oi xd, oa x, oa y, oi 1, oa z, ou, ou] [(.int 2)] 136 #[oi xa, oi xb, oi xc, oi xd, oa x, oa y, oi 1, oa z, ou, ou] [(.int 0), (.ref y), (.int 2)] := by
  refine zR (pc2 := 135) at_133 rfl rfl rfl ?_
  refine zH (v := 0) (pc2 := 136) at_135 rfl rfl ?_
  exact zF
theorem own_s2_11 (xa : Int32) (xb : Int32) (xc : Int32) (xd : Int32) (x : Addr) (y : Addr) (z : Addr) :
    zE zQ code 137 #[oi xa, oi xb, oi xc, oi xd, oa x, oa y, oi 1, oa z, ou, ou] [(.int 2), (.int 2)] 201 #[oi xa, oi xb, oi xc, oi xd, oa x, oa y, oi 1, oa z, oi 1, ou] [(.int 0), (.ref x)] := by
  refine zV (pc2 := 140) at_137 rfl (by decide) ?_
  refine zG (pc2 := 142) at_140 rfl rfl ?_
  refine zH (v := 2) (pc2 := 143) at_142 rfl rfl ?_
  refine zj (pc' := 157) at_143 (by decide) (by decide) (by decide) ?_
  refine zG (pc2 := 159) at_157 rfl rfl ?_
  refine zH (v := 3) (pc2 := 160) at_159 rfl rfl ?_
  refine zj (pc' := 174) at_160 (by decide) (by decide) (by decide) ?_
  refine zG (pc2 := 176) at_174 rfl rfl ?_
  refine zH (v := 4) (pc2 := 177) at_176 rfl rfl ?_
  refine zj (pc' := 191) at_177 (by decide) (by decide) (by decide) ?_
  refine zH (v := 1) (pc2 := 192) at_191 rfl rfl ?_
  refine zS (pc' := 196) at_192 (by decide) (by decide) ?_
  refine zi (pc2 := 198) at_196 rfl (L' := #[oi xa, oi xb, oi xc, oi xd, oa x, oa y, oi 1, oa z, oi 1, ou]) rfl ?_
  refine zR (pc2 := 200) at_198 rfl rfl rfl ?_
  refine zH (v := 0) (pc2 := 201) at_200 rfl rfl ?_
  exact zF
set_option maxRecDepth 65536 in
set_option maxHeartbeats 40000000 in
theorem own_law2 (l : Launch) (Z : State) (a0 : Array Value) (hb0 : Heap) (hw : ∀ d ∈ tables_1, d.before a0 Z = true) (xa : Int32) (xb : Int32) (xc : Int32) (xd : Int32) (hb38 : ifCond.holds .le xa = true) (hb54 : ifCond.holds .le xb = true) (hb70 : ifCond.holds .le xc = false) (hb86 : ifCond.holds .le xd = true) :
    zl l Z a0 hb0 x code maxLocals ret tables_1 room_1 #[(.int xa), (.int xb), (.int xc), (.int xd)] [] (fun v _ => v = some (.int 1)) := by
  refine zm (L0 := #[oi xa, oi xb, oi xc, oi xd, ou, ou, ou, ou, ou, ou]) (plainFor_of_name zx) (fun m => zAB m xa xb xc xd) ?_
  intro p e s m below meth c T0 hx hZ hown hby hml hnm H0
  have hown : s.vm.findClass "com/example/tangentia/tangentia/flash/StabilityTestPresentComponentsPinLaw" = some m.cls := hown
  have hml : c.maxLocals = 10 := hml
  obtain ⟨Ts2_1, x, Hs2_1, sts2_1⟩ := zh H0 hx hZ (zO hw 0 rfl) (g := (mkF m 1 #[oi xa, oi xb, oi xc, oi xd, ou, ou, ou, ou, ou, ou] [(.int 4)])) rfl (hb hby at_1) rfl (by decide) (cap := 4) (by decide) (by decide) (by decide) (by decide)
  change zK _ _ _ _ _ _ _ _ _ _ _ _ _ _ [(x, zB .double [.double 0, .double 0, .double 0, .double 0])] _ _ at Hs2_1
  obtain ⟨v9, hv9⟩ : ∃ z : UInt64, (FP.i2d xa) = z := ⟨_, rfl⟩
  obtain ⟨Ts2_2, Hs2_2, sts2_2⟩ := zd Hs2_1 hx hZ 0 0 rfl (by decide) (Nat.le_of_ble_eq_true rfl) (g := (mkF m 10 #[oi xa, oi xb, oi xc, oi xd, oa x, ou, ou, ou, ou, ou] [(.double v9), (.int 0), (.ref x)])) rfl rfl (hb hby at_10)
  change zK _ _ _ _ _ _ _ _ _ _ _ _ _ _ [(x, zB .double [.double v9, .double 0, .double 0, .double 0])] _ _ at Hs2_2
  obtain ⟨v15, hv15⟩ : ∃ z : UInt64, (FP.i2d xb) = z := ⟨_, rfl⟩
  obtain ⟨Ts2_3, Hs2_3, sts2_3⟩ := zd Hs2_2 hx hZ 0 1 rfl (by decide) (Nat.le_of_ble_eq_true rfl) (g := (mkF m 16 #[oi xa, oi xb, oi xc, oi xd, oa x, ou, ou, ou, ou, ou] [(.double v15), (.int 1), (.ref x)])) rfl rfl (hb hby at_16)
  change zK _ _ _ _ _ _ _ _ _ _ _ _ _ _ [(x, zB .double [.double v9, .double v15, .double 0, .double 0])] _ _ at Hs2_3
  obtain ⟨v21, hv21⟩ : ∃ z : UInt64, (FP.i2d xc) = z := ⟨_, rfl⟩
  obtain ⟨Ts2_4, Hs2_4, sts2_4⟩ := zd Hs2_3 hx hZ 0 2 rfl (by decide) (Nat.le_of_ble_eq_true rfl) (g := (mkF m 22 #[oi xa, oi xb, oi xc, oi xd, oa x, ou, ou, ou, ou, ou] [(.double v21), (.int 2), (.ref x)])) rfl rfl (hb hby at_22)
  change zK _ _ _ _ _ _ _ _ _ _ _ _ _ _ [(x, zB .double [.double v9, .double v15, .double v21, .double 0])] _ _ at Hs2_4
  obtain ⟨v27, hv27⟩ : ∃ z : UInt64, (FP.i2d xd) = z := ⟨_, rfl⟩
  obtain ⟨Ts2_5, Hs2_5, sts2_5⟩ := zd Hs2_4 hx hZ 0 3 rfl (by decide) (Nat.le_of_ble_eq_true rfl) (g := (mkF m 28 #[oi xa, oi xb, oi xc, oi xd, oa x, ou, ou, ou, ou, ou] [(.double v27), (.int 3), (.ref x)])) rfl rfl (hb hby at_28)
  change zK _ _ _ _ _ _ _ _ _ _ _ _ _ _ [(x, zB .double [.double v9, .double v15, .double v21, .double v27])] _ _ at Hs2_5
  obtain ⟨Ts2_6, y, Hs2_6, sts2_6⟩ := zh Hs2_5 hx hZ (zO hw 1 rfl) (g := (mkF m 30 #[oi xa, oi xb, oi xc, oi xd, oa x, ou, ou, ou, ou, ou] [(.int 4)])) rfl (hb hby at_30) rfl (by decide) (cap := 4) (by decide) (by decide) (by decide) (by decide)
  change zK _ _ _ _ _ _ _ _ _ _ _ _ _ _ [(x, zB .double [.double v9, .double v15, .double v21, .double v27]), (y, zB .int [.int 0, .int 0, .int 0, .int 0])] _ _ at Hs2_6
  obtain ⟨Ts2_7, Hs2_7, sts2_7⟩ := ze Hs2_6 hx hZ 1 0 rfl (by decide) (Nat.le_of_ble_eq_true rfl) (g := (mkF m 78 #[oi xa, oi xb, oi xc, oi xd, oa x, oa y, oi 0, ou, ou, ou] [(.int 2), (.int 0), (.ref y)])) rfl rfl (hb hby at_78)
  change zK _ _ _ _ _ _ _ _ _ _ _ _ _ _ [(x, zB .double [.double v9, .double v15, .double v21, .double v27]), (y, zB .int [.int 2, .int 0, .int 0, .int 0])] _ _ at Hs2_7
  have hp0 : ifCond.holds .le (cmpValue (FP.dcmp v9 (0 : UInt64)) .l) = true := by rw [← hv9, zY (zI xa) zX]; exact zo hb38
  have hp1 : ifCond.holds .le (cmpValue (FP.dcmp v15 (0 : UInt64)) .l) = true := by rw [← hv15, zY (zI xb) zX]; exact zo hb54
  have hp2 : ifCond.holds .le (cmpValue (FP.dcmp v21 (0 : UInt64)) .l) = false := by rw [← hv21, zY (zI xc) zX]; exact zn hb70
  have hp3 : ifCond.holds .le (cmpValue (FP.dcmp v27 (0 : UInt64)) .l) = true := by rw [← hv27, zY (zI xd) zX]; exact zo hb86
  obtain ⟨Ts2_8, vs2_8_, css2_8_, qs2_8, Hs2_8, sts2_8⟩ := zw Hs2_7 hx hZ hown (zO hw 2 rfl) (zO hw 3 rfl) (zO hw 4 rfl) (zO hw 5 rfl) (by decide) (argsL := [(.ref x)]) (rest := []) (W := 0) (own_q2 l Z a0 hb0 hw x y v9 v15 v21 v27 hp0 hp1 hp2 hp3) (by decide) (by decide) (by decide) (by decide) (g := (mkF m 103 #[oi xa, oi xb, oi xc, oi xd, oa x, oa y, oi 1, ou, ou, ou] [(.ref x)])) rfl (by rw [hml]; rfl) (lenOf zz rfl) rfl (by show 2 * 0 + _ ≤ _; exact Nat.le_of_eq rfl) (hb hby at_103)
  obtain ⟨z, rfl, rfl⟩ := qs2_8
  obtain ⟨v203, hv203⟩ : ∃ z : UInt64, (FP.i2d xa) = z := ⟨_, rfl⟩
  obtain ⟨v204, hv204⟩ : ∃ z : Int32, (cmpValue (FP.dcmp v9 v203) .l) = z := ⟨_, rfl⟩
  obtain ⟨v213, hv213⟩ : ∃ z : UInt64, (FP.i2d xb) = z := ⟨_, rfl⟩
  obtain ⟨v214, hv214⟩ : ∃ z : Int32, (cmpValue (FP.dcmp v15 v213) .l) = z := ⟨_, rfl⟩
  obtain ⟨v223, hv223⟩ : ∃ z : UInt64, (FP.i2d xc) = z := ⟨_, rfl⟩
  obtain ⟨v224, hv224⟩ : ∃ z : Int32, (cmpValue (FP.dcmp v21 v223) .l) = z := ⟨_, rfl⟩
  obtain ⟨v233, hv233⟩ : ∃ z : UInt64, (FP.i2d xd) = z := ⟨_, rfl⟩
  obtain ⟨v234, hv234⟩ : ∃ z : Int32, (cmpValue (FP.dcmp v27 v233) .l) = z := ⟨_, rfl⟩
  have hb205 : ifCond.holds .ne v204 = false := by rw [← hv204, ← hv203, ← hv9, zZ (zI xa) (zI xa)]; simp
  have hb215 : ifCond.holds .ne v214 = false := by rw [← hv214, ← hv213, ← hv15, zZ (zI xb) (zI xb)]; simp
  have hb225 : ifCond.holds .ne v224 = false := by rw [← hv224, ← hv223, ← hv21, zZ (zI xc) (zI xc)]; simp
  have hb235 : ifCond.holds .ne v234 = false := by rw [← hv234, ← hv233, ← hv27, zZ (zI xd) (zI xd)]; simp
  refine ⟨_, _, _, _, 260, #[oi xa, oi xb, oi xc, oi xd, oa x, oa y, oi 1, oa z, oi 1, oi 1], Hs2_8, by decide, by decide, Or.inr ⟨.boolean, (.int 1), [], .ireturn, rfl, rfl, at_260, zv (Or.inr rfl), fun target q => ?_⟩⟩
  refine zA H0 hx hZ hown hby hw zC (zAF xa xb xc xd) _ ?_
  refine sts2_1 _ ?_
  refine zA Hs2_1 hx hZ hown hby hw zC (zAG xa xb xc xd x v9 hv9) _ ?_
  refine sts2_2 _ ?_
  refine zA Hs2_2 hx hZ hown hby hw zC (zAH xa xb xc xd x v15 hv15) _ ?_
  refine sts2_3 _ ?_
  refine zA Hs2_3 hx hZ hown hby hw zC (zAI xa xb xc xd x v21 hv21) _ ?_
  refine sts2_4 _ ?_
  refine zA Hs2_4 hx hZ hown hby hw zC (zAJ xa xb xc xd x v27 hv27) _ ?_
  refine sts2_5 _ ?_
  refine zA Hs2_5 hx hZ hown hby hw zC (zAK xa xb xc xd x) _ ?_
  refine sts2_6 _ ?_
  refine zA Hs2_6 hx hZ hown hby hw zC (own_s2_6 xa xb xc xd x y hb38 hb54 hb70) _ ?_
  refine sts2_7 _ ?_
  refine zA Hs2_7 hx hZ hown hby hw zC (own_s2_7 xa xb xc xd x y hb86) _ ?_
  refine sts2_8 _ ?_
  refine zA Hs2_8 hx hZ hown hby hw zC (zAv xa xb xc xd x y z) _ ?_
  refine zP Hs2_8 hx hZ 2 rfl (z := (1 : Int32)) rfl (g := (mkF m 115 #[oi xa, oi xb, oi xc, oi xd, oa x, oa y, oi 1, oa z, ou, ou] [(.ref z)])) rfl rfl (hb hby at_115) _ ?_
  refine zA Hs2_8 hx hZ hown hby hw zC (zAw xa xb xc xd x y z) _ ?_
  refine zb Hs2_8 hx hZ 2 0 rfl (by decide) rfl (g := (mkF m 132 #[oi xa, oi xb, oi xc, oi xd, oa x, oa y, oi 1, oa z, ou, ou] [(.int 0), (.ref z)])) rfl rfl (hb hby at_132) _ ?_
  refine zA Hs2_8 hx hZ hown hby hw zC (own_s2_10 xa xb xc xd x y z) _ ?_
  refine zb Hs2_8 hx hZ 1 0 rfl (by decide) rfl (g := (mkF m 136 #[oi xa, oi xb, oi xc, oi xd, oa x, oa y, oi 1, oa z, ou, ou] [(.int 0), (.ref y), (.int 2)])) rfl rfl (hb hby at_136) _ ?_
  refine zA Hs2_8 hx hZ hown hby hw zC (own_s2_11 xa xb xc xd x y z) _ ?_
  refine zJ Hs2_8 hx hZ 0 0 rfl (by decide) rfl (g := (mkF m 201 #[oi xa, oi xb, oi xc, oi xd, oa x, oa y, oi 1, oa z, oi 1, ou] [(.int 0), (.ref x)])) rfl rfl (hb hby at_201) _ ?_
  refine zA Hs2_8 hx hZ hown hby hw zC (zAx xa xb xc xd x y z v9 v203 hv203 v204 hv204 hb205) _ ?_
  refine zJ Hs2_8 hx hZ 0 1 rfl (by decide) rfl (g := (mkF m 211 #[oi xa, oi xb, oi xc, oi xd, oa x, oa y, oi 1, oa z, oi 1, ou] [(.int 1), (.ref x)])) rfl rfl (hb hby at_211) _ ?_
  refine zA Hs2_8 hx hZ hown hby hw zC (zAy xa xb xc xd x y z v15 v213 hv213 v214 hv214 hb215) _ ?_
  refine zJ Hs2_8 hx hZ 0 2 rfl (by decide) rfl (g := (mkF m 221 #[oi xa, oi xb, oi xc, oi xd, oa x, oa y, oi 1, oa z, oi 1, ou] [(.int 2), (.ref x)])) rfl rfl (hb hby at_221) _ ?_
  refine zA Hs2_8 hx hZ hown hby hw zC (zAz xa xb xc xd x y z v21 v223 hv223 v224 hv224 hb225) _ ?_
  refine zJ Hs2_8 hx hZ 0 3 rfl (by decide) rfl (g := (mkF m 231 #[oi xa, oi xb, oi xc, oi xd, oa x, oa y, oi 1, oa z, oi 1, ou] [(.int 3), (.ref x)])) rfl rfl (hb hby at_231) _ ?_
  refine zA Hs2_8 hx hZ hown hby hw zC (zBA xa xb xc xd x y z v27 v233 hv233 v234 hv234 hb235) _ ?_
  exact q
theorem zBe (x : Addr) (dc : UInt64) (dd : UInt64) (v26''' : Int32) (hv26''' : (cmpValue (FP.dcmp dd (0 : UInt64)) .l) = v26''') (hb27_3 : ifCond.holds .le v26''' = false) :
    zE zM ok0 20 #[oa x, oi 1, oa x, oi 4, oi 3, .val (.double dc), .second] [(.double dd)] 44 #[oa x, oi 2, oa x, oi 4, oi 4, .val (.double dd), .second] [(.int 2)] := by
  refine zt (pc2 := 22) d1_20 rfl (L' := #[oa x, oi 1, oa x, oi 4, oi 3, .val (.double dd), .second]) rfl ?_
  refine zL (pc2 := 23) d1_22 rfl rfl ?_
  refine zs (pc2 := 25) d1_23 rfl rfl ?_
  refine zf (v := 0) (pc2 := 26) d1_25 rfl rfl ?_
  refine zT (pc2 := 27) d1_26 rfl (v := v26''') hv26''' ?_
  refine zW (pc2 := 30) d1_27 rfl hb27_3 ?_
  refine zH (v := 1) (pc2 := 31) d1_30 rfl rfl ?_
  refine zS (pc' := 35) d1_31 (by decide) (by decide) ?_
  refine zk (pc2 := 36) d1_35 rfl (v := (2 : Int32)) (by decide) ?_
  refine zq (pc2 := 37) d1_36 rfl (L' := #[oa x, oi 2, oa x, oi 4, oi 3, .val (.double dd), .second]) rfl ?_
  refine zU (pc2 := 40) d1_37 rfl rfl (v := (4 : Int32)) (by decide) (L' := #[oa x, oi 2, oa x, oi 4, oi 4, .val (.double dd), .second]) rfl ?_
  refine zS (pc' := 10) d1_40 (by decide) (by decide) ?_
  refine zG (pc2 := 12) d1_10 rfl rfl ?_
  refine zL (pc2 := 13) d1_12 rfl rfl ?_
  refine zj (pc' := 43) d1_13 (by decide) (by decide) (by decide) ?_
  refine zL (pc2 := 44) d1_43 rfl rfl ?_
  exact zF
theorem zAX (x : Addr) (dd : UInt64) (z : Addr) :
    zE zM ok0 46 #[oa x, oi 2, oa x, oi 4, oi 4, .val (.double dd), .second] [(.ref z)] 55 #[oa x, oi 2, oa z, oi 0, oi 0, .val (.double dd), .second] [(.ref x), (.int 0)] := by
  refine zAW (pc2 := 47) d1_46 rfl rfl (L' := #[oa x, oi 2, oa z, oi 4, oi 4, .val (.double dd), .second]) rfl ?_
  refine zH (v := 0) (pc2 := 48) d1_47 rfl rfl ?_
  refine zq (pc2 := 49) d1_48 rfl (L' := #[oa x, oi 2, oa z, oi 0, oi 4, .val (.double dd), .second]) rfl ?_
  refine zH (v := 0) (pc2 := 50) d1_49 rfl rfl ?_
  refine zi (pc2 := 52) d1_50 rfl (L' := #[oa x, oi 2, oa z, oi 0, oi 0, .val (.double dd), .second]) rfl ?_
  refine zG (pc2 := 54) d1_52 rfl rfl ?_
  refine zN (pc2 := 55) d1_54 rfl rfl rfl ?_
  exact zF
theorem zAY (x : Addr) (z : Addr) (dd : UInt64) :
    zE zM ok0 56 #[oa x, oi 2, oa z, oi 0, oi 0, .val (.double dd), .second] [(.int 4), (.int 0)] 62 #[oa x, oi 2, oa z, oi 0, oi 0, .val (.double dd), .second] [(.int 0), (.ref x)] := by
  refine zV (pc2 := 59) d1_56 rfl (by decide) ?_
  refine zN (pc2 := 60) d1_59 rfl rfl rfl ?_
  refine zG (pc2 := 62) d1_60 rfl rfl ?_
  exact zF
theorem zBf (x : Addr) (z : Addr) (dd : UInt64) (da : UInt64) (v64 : Int32) (hv64 : (cmpValue (FP.dcmp da (0 : UInt64)) .l) = v64) (hb65_0 : ifCond.holds .le v64 = true) :
    zE zM ok0 63 #[oa x, oi 2, oa z, oi 0, oi 0, .val (.double dd), .second] [(.double da)] 55 #[oa x, oi 2, oa z, oi 0, oi 1, .val (.double dd), .second] [(.ref x), (.int 1)] := by
  refine zf (v := 0) (pc2 := 64) d1_63 rfl rfl ?_
  refine zT (pc2 := 65) d1_64 rfl (v := v64) hv64 ?_
  refine zg (pc' := 76) d1_65 hb65_0 (by decide) (by decide) ?_
  refine zU (pc2 := 79) d1_76 rfl rfl (v := (1 : Int32)) (by decide) (L' := #[oa x, oi 2, oa z, oi 0, oi 1, .val (.double dd), .second]) rfl ?_
  refine zS (pc' := 52) d1_79 (by decide) (by decide) ?_
  refine zG (pc2 := 54) d1_52 rfl rfl ?_
  refine zN (pc2 := 55) d1_54 rfl rfl rfl ?_
  exact zF
theorem zBg (x : Addr) (z : Addr) (dd : UInt64) :
    zE zM ok0 56 #[oa x, oi 2, oa z, oi 0, oi 1, .val (.double dd), .second] [(.int 4), (.int 1)] 62 #[oa x, oi 2, oa z, oi 0, oi 1, .val (.double dd), .second] [(.int 1), (.ref x)] := by
  refine zV (pc2 := 59) d1_56 rfl (by decide) ?_
  refine zN (pc2 := 60) d1_59 rfl rfl rfl ?_
  refine zG (pc2 := 62) d1_60 rfl rfl ?_
  exact zF
theorem own_p3_10 (x : Addr) (z : Addr) (dd : UInt64) (db : UInt64) (v64' : Int32) (hv64' : (cmpValue (FP.dcmp db (0 : UInt64)) .l) = v64') (hb65_1 : ifCond.holds .le v64' = true) :
    zE zM ok0 63 #[oa x, oi 2, oa z, oi 0, oi 1, .val (.double dd), .second] [(.double db)] 55 #[oa x, oi 2, oa z, oi 0, oi 2, .val (.double dd), .second] [(.ref x), (.int 2)] := by
  refine zf (v := 0) (pc2 := 64) d1_63 rfl rfl ?_
  refine zT (pc2 := 65) d1_64 rfl (v := v64') hv64' ?_
  refine zg (pc' := 76) d1_65 hb65_1 (by decide) (by decide) ?_
  refine zU (pc2 := 79) d1_76 rfl rfl (v := (2 : Int32)) (by decide) (L' := #[oa x, oi 2, oa z, oi 0, oi 2, .val (.double dd), .second]) rfl ?_
  refine zS (pc' := 52) d1_79 (by decide) (by decide) ?_
  refine zG (pc2 := 54) d1_52 rfl rfl ?_
  refine zN (pc2 := 55) d1_54 rfl rfl rfl ?_
  exact zF
theorem own_p3_11 (x : Addr) (z : Addr) (dd : UInt64) :
    zE zM ok0 56 #[oa x, oi 2, oa z, oi 0, oi 2, .val (.double dd), .second] [(.int 4), (.int 2)] 62 #[oa x, oi 2, oa z, oi 0, oi 2, .val (.double dd), .second] [(.int 2), (.ref x)] := by
  refine zV (pc2 := 59) d1_56 rfl (by decide) ?_
  refine zN (pc2 := 60) d1_59 rfl rfl rfl ?_
  refine zG (pc2 := 62) d1_60 rfl rfl ?_
  exact zF
theorem own_p3_12 (x : Addr) (z : Addr) (dd : UInt64) (dc : UInt64) (v64'' : Int32) (hv64'' : (cmpValue (FP.dcmp dc (0 : UInt64)) .l) = v64'') (hb65_2 : ifCond.holds .le v64'' = false) :
    zE zM ok0 63 #[oa x, oi 2, oa z, oi 0, oi 2, .val (.double dd), .second] [(.double dc)] 75 #[oa x, oi 2, oa z, oi 1, oi 2, .val (.double dd), .second] [(.int 2), (.int 0), (.ref z)] := by
  refine zf (v := 0) (pc2 := 64) d1_63 rfl rfl ?_
  refine zT (pc2 := 65) d1_64 rfl (v := v64'') hv64'' ?_
  refine zW (pc2 := 68) d1_65 rfl hb65_2 ?_
  refine zN (pc2 := 69) d1_68 rfl rfl rfl ?_
  refine zL (pc2 := 70) d1_69 rfl rfl ?_
  refine zU (pc2 := 73) d1_70 rfl rfl (v := (1 : Int32)) (by decide) (L' := #[oa x, oi 2, oa z, oi 1, oi 2, .val (.double dd), .second]) rfl ?_
  refine zG (pc2 := 75) d1_73 rfl rfl ?_
  exact zF
theorem own_p3_13 (x : Addr) (z : Addr) (dd : UInt64) :
    zE zM ok0 76 #[oa x, oi 2, oa z, oi 1, oi 2, .val (.double dd), .second] [] 55 #[oa x, oi 2, oa z, oi 1, oi 3, .val (.double dd), .second] [(.ref x), (.int 3)] := by
  refine zU (pc2 := 79) d1_76 rfl rfl (v := (3 : Int32)) (by decide) (L' := #[oa x, oi 2, oa z, oi 1, oi 3, .val (.double dd), .second]) rfl ?_
  refine zS (pc' := 52) d1_79 (by decide) (by decide) ?_
  refine zG (pc2 := 54) d1_52 rfl rfl ?_
  refine zN (pc2 := 55) d1_54 rfl rfl rfl ?_
  exact zF
theorem zBh (x : Addr) (z : Addr) (dd : UInt64) :
    zE zM ok0 56 #[oa x, oi 2, oa z, oi 1, oi 3, .val (.double dd), .second] [(.int 4), (.int 3)] 62 #[oa x, oi 2, oa z, oi 1, oi 3, .val (.double dd), .second] [(.int 3), (.ref x)] := by
  refine zV (pc2 := 59) d1_56 rfl (by decide) ?_
  refine zN (pc2 := 60) d1_59 rfl rfl rfl ?_
  refine zG (pc2 := 62) d1_60 rfl rfl ?_
  exact zF
theorem zBi (x : Addr) (z : Addr) (dd : UInt64) (v64''' : Int32) (hv64''' : (cmpValue (FP.dcmp dd (0 : UInt64)) .l) = v64''') (hb65_3 : ifCond.holds .le v64''' = false) :
    zE zM ok0 63 #[oa x, oi 2, oa z, oi 1, oi 3, .val (.double dd), .second] [(.double dd)] 75 #[oa x, oi 2, oa z, oi 2, oi 3, .val (.double dd), .second] [(.int 3), (.int 1), (.ref z)] := by
  refine zf (v := 0) (pc2 := 64) d1_63 rfl rfl ?_
  refine zT (pc2 := 65) d1_64 rfl (v := v64''') hv64''' ?_
  refine zW (pc2 := 68) d1_65 rfl hb65_3 ?_
  refine zN (pc2 := 69) d1_68 rfl rfl rfl ?_
  refine zL (pc2 := 70) d1_69 rfl rfl ?_
  refine zU (pc2 := 73) d1_70 rfl rfl (v := (2 : Int32)) (by decide) (L' := #[oa x, oi 2, oa z, oi 2, oi 3, .val (.double dd), .second]) rfl ?_
  refine zG (pc2 := 75) d1_73 rfl rfl ?_
  exact zF
theorem zBj (x : Addr) (z : Addr) (dd : UInt64) :
    zE zM ok0 76 #[oa x, oi 2, oa z, oi 2, oi 3, .val (.double dd), .second] [] 55 #[oa x, oi 2, oa z, oi 2, oi 4, .val (.double dd), .second] [(.ref x), (.int 4)] := by
  refine zU (pc2 := 79) d1_76 rfl rfl (v := (4 : Int32)) (by decide) (L' := #[oa x, oi 2, oa z, oi 2, oi 4, .val (.double dd), .second]) rfl ?_
  refine zS (pc' := 52) d1_79 (by decide) (by decide) ?_
  refine zG (pc2 := 54) d1_52 rfl rfl ?_
  refine zN (pc2 := 55) d1_54 rfl rfl rfl ?_
  exact zF
theorem zAZ (x : Addr) (z : Addr) (dd : UInt64) :
    zE zM ok0 56 #[oa x, oi 2, oa z, oi 2, oi 4, .val (.double dd), .second] [(.int 4), (.int 4)] 83 #[oa x, oi 2, oa z, oi 2, oi 4, .val (.double dd), .second] [(.ref z)] := by
  refine zj (pc' := 82) d1_56 (by decide) (by decide) (by decide) ?_
  refine zN (pc2 := 83) d1_82 rfl rfl rfl ?_
  exact zF
set_option maxRecDepth 65536 in
set_option maxHeartbeats 4000000 in
theorem own_q3 (l : Launch) (Z : State) (a0 : Array Value) (hb0 : Heap) (hw : ∀ d ∈ tables_1, d.before a0 Z = true) (x : Addr) (y : Addr) (da db dc dd : UInt64) (hp0 : ifCond.holds .le (cmpValue (FP.dcmp da (0 : UInt64)) .l) = true) (hp1 : ifCond.holds .le (cmpValue (FP.dcmp db (0 : UInt64)) .l) = true) (hp2 : ifCond.holds .le (cmpValue (FP.dcmp dc (0 : UInt64)) .l) = false) (hp3 : ifCond.holds .le (cmpValue (FP.dcmp dd (0 : UInt64)) .l) = false) :
    zl l Z a0 hb0 (⟨"com/example/tangentia/tangentia/flash/StabilityTest", "presentComponents", "([D)[I"⟩ : MethodName) ok0 7 (some (.array .int)) [] ({ frames := 0, cells := 1, slots := 2, locals := 0 } : Room) #[(.ref x)] [(x, zB .double [.double da, .double db, .double dc, .double dd]), (y, zB .int [.int 2, .int 3, .int 0, .int 0])] (fun r cs' => ∃ z, r = some (.ref z) ∧ cs' = [(x, zB .double [.double da, .double db, .double dc, .double dd]), (y, zB .int [.int 2, .int 3, .int 0, .int 0]), (z, zB .int [.int 2, .int 3])]) := by
  refine zm (L0 := #[oa x, ou, ou, ou, ou, ou, ou]) (plainFor_of_name zy) (fun m => zAA m x) ?_
  intro p e s m below meth c T0 hx hZ hown hby hml hnm H0
  obtain ⟨v26, hv26⟩ : ∃ z : Int32, (cmpValue (FP.dcmp da (0 : UInt64)) .l) = z := ⟨_, rfl⟩
  obtain ⟨v26', hv26'⟩ : ∃ z : Int32, (cmpValue (FP.dcmp db (0 : UInt64)) .l) = z := ⟨_, rfl⟩
  obtain ⟨v26'', hv26''⟩ : ∃ z : Int32, (cmpValue (FP.dcmp dc (0 : UInt64)) .l) = z := ⟨_, rfl⟩
  obtain ⟨v26''', hv26'''⟩ : ∃ z : Int32, (cmpValue (FP.dcmp dd (0 : UInt64)) .l) = z := ⟨_, rfl⟩
  obtain ⟨Tp3_6, z, Hp3_6, stp3_6⟩ := zh H0 hx hZ (zO hw 1 rfl) (g := (mkF m 44 #[oa x, oi 2, oa x, oi 4, oi 4, .val (.double dd), .second] [(.int 2)])) rfl (hb hby d1_44) rfl (by decide) (cap := 2) (by decide) (by decide) (by decide) (by decide)
  change zK _ _ _ _ _ _ _ _ _ _ _ _ _ _ [(x, zB .double [.double da, .double db, .double dc, .double dd]), (y, zB .int [.int 2, .int 3, .int 0, .int 0]), (z, zB .int [.int 0, .int 0])] _ _ at Hp3_6
  obtain ⟨v64, hv64⟩ : ∃ z : Int32, (cmpValue (FP.dcmp da (0 : UInt64)) .l) = z := ⟨_, rfl⟩
  obtain ⟨v64', hv64'⟩ : ∃ z : Int32, (cmpValue (FP.dcmp db (0 : UInt64)) .l) = z := ⟨_, rfl⟩
  obtain ⟨v64'', hv64''⟩ : ∃ z : Int32, (cmpValue (FP.dcmp dc (0 : UInt64)) .l) = z := ⟨_, rfl⟩
  obtain ⟨Tp3_13, Hp3_13, stp3_13⟩ := ze Hp3_6 hx hZ 2 0 rfl (by decide) (Nat.le_of_ble_eq_true rfl) (g := (mkF m 75 #[oa x, oi 2, oa z, oi 1, oi 2, .val (.double dd), .second] [(.int 2), (.int 0), (.ref z)])) rfl rfl (hb hby d1_75)
  change zK _ _ _ _ _ _ _ _ _ _ _ _ _ _ [(x, zB .double [.double da, .double db, .double dc, .double dd]), (y, zB .int [.int 2, .int 3, .int 0, .int 0]), (z, zB .int [.int 2, .int 0])] _ _ at Hp3_13
  obtain ⟨v64''', hv64'''⟩ : ∃ z : Int32, (cmpValue (FP.dcmp dd (0 : UInt64)) .l) = z := ⟨_, rfl⟩
  obtain ⟨Tp3_16, Hp3_16, stp3_16⟩ := ze Hp3_13 hx hZ 2 1 rfl (by decide) (Nat.le_of_ble_eq_true rfl) (g := (mkF m 75 #[oa x, oi 2, oa z, oi 2, oi 3, .val (.double dd), .second] [(.int 3), (.int 1), (.ref z)])) rfl rfl (hb hby d1_75)
  change zK _ _ _ _ _ _ _ _ _ _ _ _ _ _ [(x, zB .double [.double da, .double db, .double dc, .double dd]), (y, zB .int [.int 2, .int 3, .int 0, .int 0]), (z, zB .int [.int 2, .int 3])] _ _ at Hp3_16
  have hb27_0 : ifCond.holds .le v26 = true := by rw [← hv26]; exact hp0
  have hb27_1 : ifCond.holds .le v26' = true := by rw [← hv26']; exact hp1
  have hb27_2 : ifCond.holds .le v26'' = false := by rw [← hv26'']; exact hp2
  have hb27_3 : ifCond.holds .le v26''' = false := by rw [← hv26''']; exact hp3
  have hb65_0 : ifCond.holds .le v64 = true := by rw [← hv64]; exact hp0
  have hb65_1 : ifCond.holds .le v64' = true := by rw [← hv64']; exact hp1
  have hb65_2 : ifCond.holds .le v64'' = false := by rw [← hv64'']; exact hp2
  have hb65_3 : ifCond.holds .le v64''' = false := by rw [← hv64''']; exact hp3
  refine ⟨_, _, _, _, 83, #[oa x, oi 2, oa z, oi 2, oi 4, .val (.double dd), .second], Hp3_16, by decide, by decide, Or.inr ⟨(.array .int), (.ref z), [], .areturn, rfl, ⟨z, rfl, rfl⟩, d1_83, zAC _, fun target q => ?_⟩⟩
  refine zA H0 hx hZ hown hby hw zD (zAD x) _ ?_
  refine zP H0 hx hZ 0 rfl (z := (4 : Int32)) rfl (g := (mkF m 5 #[oa x, oi 0, oa x, ou, ou, ou, ou] [(.ref x)])) rfl rfl (hb hby d1_5) _ ?_
  refine zA H0 hx hZ hown hby hw zD (zAE x) _ ?_
  refine zJ H0 hx hZ 0 0 rfl (by decide) rfl (g := (mkF m 19 #[oa x, oi 0, oa x, oi 4, oi 0, ou, ou] [(.int 0), (.ref x)])) rfl rfl (hb hby d1_19) _ ?_
  refine zA H0 hx hZ hown hby hw zD (zAQ x da v26 hv26 hb27_0) _ ?_
  refine zJ H0 hx hZ 0 1 rfl (by decide) rfl (g := (mkF m 19 #[oa x, oi 0, oa x, oi 4, oi 1, .val (.double da), .second] [(.int 1), (.ref x)])) rfl rfl (hb hby d1_19) _ ?_
  refine zA H0 hx hZ hown hby hw zD (zAr x da db v26' hv26' hb27_1) _ ?_
  refine zJ H0 hx hZ 0 2 rfl (by decide) rfl (g := (mkF m 19 #[oa x, oi 0, oa x, oi 4, oi 2, .val (.double db), .second] [(.int 2), (.ref x)])) rfl rfl (hb hby d1_19) _ ?_
  refine zA H0 hx hZ hown hby hw zD (own_p2_4 x db dc v26'' hv26'' hb27_2) _ ?_
  refine zJ H0 hx hZ 0 3 rfl (by decide) rfl (g := (mkF m 19 #[oa x, oi 1, oa x, oi 4, oi 3, .val (.double dc), .second] [(.int 3), (.ref x)])) rfl rfl (hb hby d1_19) _ ?_
  refine zA H0 hx hZ hown hby hw zD (zBe x dc dd v26''' hv26''' hb27_3) _ ?_
  refine stp3_6 _ ?_
  refine zA Hp3_6 hx hZ hown hby hw zD (zAX x dd z) _ ?_
  refine zP Hp3_6 hx hZ 0 rfl (z := (4 : Int32)) rfl (g := (mkF m 55 #[oa x, oi 2, oa z, oi 0, oi 0, .val (.double dd), .second] [(.ref x), (.int 0)])) rfl rfl (hb hby d1_55) _ ?_
  refine zA Hp3_6 hx hZ hown hby hw zD (zAY x z dd) _ ?_
  refine zJ Hp3_6 hx hZ 0 0 rfl (by decide) rfl (g := (mkF m 62 #[oa x, oi 2, oa z, oi 0, oi 0, .val (.double dd), .second] [(.int 0), (.ref x)])) rfl rfl (hb hby d1_62) _ ?_
  refine zA Hp3_6 hx hZ hown hby hw zD (zBf x z dd da v64 hv64 hb65_0) _ ?_
  refine zP Hp3_6 hx hZ 0 rfl (z := (4 : Int32)) rfl (g := (mkF m 55 #[oa x, oi 2, oa z, oi 0, oi 1, .val (.double dd), .second] [(.ref x), (.int 1)])) rfl rfl (hb hby d1_55) _ ?_
  refine zA Hp3_6 hx hZ hown hby hw zD (zBg x z dd) _ ?_
  refine zJ Hp3_6 hx hZ 0 1 rfl (by decide) rfl (g := (mkF m 62 #[oa x, oi 2, oa z, oi 0, oi 1, .val (.double dd), .second] [(.int 1), (.ref x)])) rfl rfl (hb hby d1_62) _ ?_
  refine zA Hp3_6 hx hZ hown hby hw zD (own_p3_10 x z dd db v64' hv64' hb65_1) _ ?_
  refine zP Hp3_6 hx hZ 0 rfl (z := (4 : Int32)) rfl (g := (mkF m 55 #[oa x, oi 2, oa z, oi 0, oi 2, .val (.double dd), .second] [(.ref x), (.int 2)])) rfl rfl (hb hby d1_55) _ ?_
  refine zA Hp3_6 hx hZ hown hby hw zD (own_p3_11 x z dd) _ ?_
  refine zJ Hp3_6 hx hZ 0 2 rfl (by decide) rfl (g := (mkF m 62 #[oa x, oi 2, oa z, oi 0, oi 2, .val (.double dd), .second] [(.int 2), (.ref x)])) rfl rfl (hb hby d1_62) _ ?_
  refine zA Hp3_6 hx hZ hown hby hw zD (own_p3_12 x z dd dc v64'' hv64'' hb65_2) _ ?_
  refine stp3_13 _ ?_
  refine zA Hp3_13 hx hZ hown hby hw zD (own_p3_13 x z dd) _ ?_
  refine zP Hp3_13 hx hZ 0 rfl (z := (4 : Int32)) rfl (g := (mkF m 55 #[oa x, oi 2, oa z, oi 1, oi 3, .val (.double dd), .second] [(.ref x), (.int 3)])) rfl rfl (hb hby d1_55) _ ?_
  refine zA Hp3_13 hx hZ hown hby hw zD (zBh x z dd) _ ?_
  refine zJ Hp3_13 hx hZ 0 3 rfl (by decide) rfl (g := (mkF m 62 #[oa x, oi 2, oa z, oi 1, oi 3, .val (.double dd), .second] [(.int 3), (.ref x)])) rfl rfl (hb hby d1_62) _ ?_
  refine zA Hp3_13 hx hZ hown hby hw zD (zBi x z dd v64''' hv64''' hb65_3) _ ?_
  refine stp3_16 _ ?_
  refine zA Hp3_16 hx hZ hown hby hw zD (zBj x z dd) _ ?_
  refine zP Hp3_16 hx hZ 0 rfl (z := (4 : Int32)) rfl (g := (mkF m 55 #[oa x, oi 2, oa z, oi 2, oi 4, .val (.double dd), .second] [(.ref x), (.int 4)])) rfl rfl (hb hby d1_55) _ ?_
  refine zA Hp3_16 hx hZ hown hby hw zD (zAZ x z dd) _ ?_
  exact q
theorem own_s3_7 (xa : Int32) (xb : Int32) (xc : Int32) (xd : Int32) (x : Addr) (y : Addr) (hb86 : ifCond.holds .le xd = false) :
    zE zQ code 79 #[oi xa, oi xb, oi xc, oi xd, oa x, oa y, oi 0, ou, ou, ou] [] 94 #[oi xa, oi xb, oi xc, oi xd, oa x, oa y, oi 1, ou, ou, ou] [(.int 3), (.int 1), (.ref y)] := by
  refine zG (pc2 := 81) at_79 rfl rfl ?_
  refine zH (v := 1) (pc2 := 82) at_81 rfl rfl ?_
  refine zk (pc2 := 83) at_82 rfl (v := (1 : Int32)) (by decide) ?_
  refine zi (pc2 := 85) at_83 rfl (L' := #[oi xa, oi xb, oi xc, oi xd, oa x, oa y, oi 1, ou, ou, ou]) rfl ?_
  refine zL (pc2 := 86) at_85 rfl rfl ?_
  refine zW (pc2 := 89) at_86 rfl hb86 ?_
  refine zR (pc2 := 91) at_89 rfl rfl rfl ?_
  refine zG (pc2 := 93) at_91 rfl rfl ?_
  refine zH (v := 3) (pc2 := 94) at_93 rfl rfl ?_
  exact zF
theorem zBk (xa : Int32) (xb : Int32) (xc : Int32) (xd : Int32) (x : Addr) (y : Addr) :
    zE zQ code 95 #[oi xa, oi xb, oi xc, oi xd, oa x, oa y, oi 1, ou, ou, ou] [] 103 #[oi xa, oi xb, oi xc, oi xd, oa x, oa y, oi 2, ou, ou, ou] [(.ref x)] := by
  refine zG (pc2 := 97) at_95 rfl rfl ?_
  refine zH (v := 1) (pc2 := 98) at_97 rfl rfl ?_
  refine zk (pc2 := 99) at_98 rfl (v := (2 : Int32)) (by decide) ?_
  refine zi (pc2 := 101) at_99 rfl (L' := #[oi xa, oi xb, oi xc, oi xd, oa x, oa y, oi 2, ou, ou, ou]) rfl ?_
  refine zR (pc2 := 103) at_101 rfl rfl rfl ?_
  exact zF
theorem zAa (xa : Int32) (xb : Int32) (xc : Int32) (xd : Int32) (x : Addr) (y : Addr) (z : Addr) :
    zE zQ code 106 #[oi xa, oi xb, oi xc, oi xd, oa x, oa y, oi 2, ou, ou, ou] [(.ref z)] 115 #[oi xa, oi xb, oi xc, oi xd, oa x, oa y, oi 2, oa z, ou, ou] [(.ref z)] := by
  refine zAL (pc2 := 108) at_106 rfl rfl (L' := #[oi xa, oi xb, oi xc, oi xd, oa x, oa y, oi 2, oa z, ou, ou]) rfl ?_
  refine zR (pc2 := 110) at_108 rfl rfl rfl ?_
  refine zAi (pc2 := 113) at_110 rfl ?_
  refine zR (pc2 := 115) at_113 rfl rfl rfl ?_
  exact zF
theorem zAb (xa : Int32) (xb : Int32) (xc : Int32) (xd : Int32) (x : Addr) (y : Addr) (z : Addr) :
    zE zQ code 116 #[oi xa, oi xb, oi xc, oi xd, oa x, oa y, oi 2, oa z, ou, ou] [(.int 2)] 132 #[oi xa, oi xb, oi xc, oi xd, oa x, oa y, oi 2, oa z, ou, ou] [(.int 0), (.ref z)] := by
  refine zG (pc2 := 118) at_116 rfl rfl ?_
  refine zj (pc' := 123) at_118 (by decide) (by decide) (by decide) ?_
  refine zG (pc2 := 125) at_123 rfl rfl ?_
  refine zH (v := 1) (pc2 := 126) at_125 rfl rfl ?_
  refine zV (pc2 := 129) at_126 rfl (by decide) ?_
  refine zR (pc2 := 131) at_129 rfl rfl rfl ?_
  refine zH (v := 0) (pc2 := 132) at_131 rfl rfl ?_
  exact zF
theorem own_s3_11 (xa : Int32) (xb : Int32) (xc : Int32) (xd : Int32) (x : Addr) (y : Addr) (z : Addr) :
    zE zQ code 133 #[oi xa, oi xb, oi xc, oi xd, oa x, oa y, oi 2, oa z, ou, ou] [(.int 2)] 136 #[oi xa, oi xb, oi xc, oi xd, oa x, oa y, oi 2, oa z, ou, ou] [(.int 0), (.ref y), (.int 2)] := by
  refine zR (pc2 := 135) at_133 rfl rfl rfl ?_
  refine zH (v := 0) (pc2 := 136) at_135 rfl rfl ?_
  exact zF
theorem own_s3_12 (xa : Int32) (xb : Int32) (xc : Int32) (xd : Int32) (x : Addr) (y : Addr) (z : Addr) :
    zE zQ code 137 #[oi xa, oi xb, oi xc, oi xd, oa x, oa y, oi 2, oa z, ou, ou] [(.int 2), (.int 2)] 149 #[oi xa, oi xb, oi xc, oi xd, oa x, oa y, oi 2, oa z, ou, ou] [(.int 1), (.ref z)] := by
  refine zV (pc2 := 140) at_137 rfl (by decide) ?_
  refine zG (pc2 := 142) at_140 rfl rfl ?_
  refine zH (v := 2) (pc2 := 143) at_142 rfl rfl ?_
  refine zV (pc2 := 146) at_143 rfl (by decide) ?_
  refine zR (pc2 := 148) at_146 rfl rfl rfl ?_
  refine zH (v := 1) (pc2 := 149) at_148 rfl rfl ?_
  exact zF
theorem zBl (xa : Int32) (xb : Int32) (xc : Int32) (xd : Int32) (x : Addr) (y : Addr) (z : Addr) :
    zE zQ code 150 #[oi xa, oi xb, oi xc, oi xd, oa x, oa y, oi 2, oa z, ou, ou] [(.int 3)] 153 #[oi xa, oi xb, oi xc, oi xd, oa x, oa y, oi 2, oa z, ou, ou] [(.int 1), (.ref y), (.int 3)] := by
  refine zR (pc2 := 152) at_150 rfl rfl rfl ?_
  refine zH (v := 1) (pc2 := 153) at_152 rfl rfl ?_
  exact zF
theorem zBm (xa : Int32) (xb : Int32) (xc : Int32) (xd : Int32) (x : Addr) (y : Addr) (z : Addr) :
    zE zQ code 154 #[oi xa, oi xb, oi xc, oi xd, oa x, oa y, oi 2, oa z, ou, ou] [(.int 3), (.int 3)] 201 #[oi xa, oi xb, oi xc, oi xd, oa x, oa y, oi 2, oa z, oi 1, ou] [(.int 0), (.ref x)] := by
  refine zV (pc2 := 157) at_154 rfl (by decide) ?_
  refine zG (pc2 := 159) at_157 rfl rfl ?_
  refine zH (v := 3) (pc2 := 160) at_159 rfl rfl ?_
  refine zj (pc' := 174) at_160 (by decide) (by decide) (by decide) ?_
  refine zG (pc2 := 176) at_174 rfl rfl ?_
  refine zH (v := 4) (pc2 := 177) at_176 rfl rfl ?_
  refine zj (pc' := 191) at_177 (by decide) (by decide) (by decide) ?_
  refine zH (v := 1) (pc2 := 192) at_191 rfl rfl ?_
  refine zS (pc' := 196) at_192 (by decide) (by decide) ?_
  refine zi (pc2 := 198) at_196 rfl (L' := #[oi xa, oi xb, oi xc, oi xd, oa x, oa y, oi 2, oa z, oi 1, ou]) rfl ?_
  refine zR (pc2 := 200) at_198 rfl rfl rfl ?_
  refine zH (v := 0) (pc2 := 201) at_200 rfl rfl ?_
  exact zF
theorem zAc (xa : Int32) (xb : Int32) (xc : Int32) (xd : Int32) (x : Addr) (y : Addr) (z : Addr) (v9 : UInt64) (v203 : UInt64) (hv203 : (FP.i2d xa) = v203) (v204 : Int32) (hv204 : (cmpValue (FP.dcmp v9 v203) .l) = v204) (hb205 : ifCond.holds .ne v204 = false) :
    zE zQ code 202 #[oi xa, oi xb, oi xc, oi xd, oa x, oa y, oi 2, oa z, oi 1, ou] [(.double v9)] 211 #[oi xa, oi xb, oi xc, oi xd, oa x, oa y, oi 2, oa z, oi 1, ou] [(.int 1), (.ref x)] := by
  refine zL (pc2 := 203) at_202 rfl rfl ?_
  refine zr (pc2 := 204) at_203 rfl (v := v203) hv203 ?_
  refine zT (pc2 := 205) at_204 rfl (v := v204) hv204 ?_
  refine zW (pc2 := 208) at_205 rfl hb205 ?_
  refine zR (pc2 := 210) at_208 rfl rfl rfl ?_
  refine zH (v := 1) (pc2 := 211) at_210 rfl rfl ?_
  exact zF
theorem zAd (xa : Int32) (xb : Int32) (xc : Int32) (xd : Int32) (x : Addr) (y : Addr) (z : Addr) (v15 : UInt64) (v213 : UInt64) (hv213 : (FP.i2d xb) = v213) (v214 : Int32) (hv214 : (cmpValue (FP.dcmp v15 v213) .l) = v214) (hb215 : ifCond.holds .ne v214 = false) :
    zE zQ code 212 #[oi xa, oi xb, oi xc, oi xd, oa x, oa y, oi 2, oa z, oi 1, ou] [(.double v15)] 221 #[oi xa, oi xb, oi xc, oi xd, oa x, oa y, oi 2, oa z, oi 1, ou] [(.int 2), (.ref x)] := by
  refine zL (pc2 := 213) at_212 rfl rfl ?_
  refine zr (pc2 := 214) at_213 rfl (v := v213) hv213 ?_
  refine zT (pc2 := 215) at_214 rfl (v := v214) hv214 ?_
  refine zW (pc2 := 218) at_215 rfl hb215 ?_
  refine zR (pc2 := 220) at_218 rfl rfl rfl ?_
  refine zH (v := 2) (pc2 := 221) at_220 rfl rfl ?_
  exact zF
theorem zAe (xa : Int32) (xb : Int32) (xc : Int32) (xd : Int32) (x : Addr) (y : Addr) (z : Addr) (v21 : UInt64) (v223 : UInt64) (hv223 : (FP.i2d xc) = v223) (v224 : Int32) (hv224 : (cmpValue (FP.dcmp v21 v223) .l) = v224) (hb225 : ifCond.holds .ne v224 = false) :
    zE zQ code 222 #[oi xa, oi xb, oi xc, oi xd, oa x, oa y, oi 2, oa z, oi 1, ou] [(.double v21)] 231 #[oi xa, oi xb, oi xc, oi xd, oa x, oa y, oi 2, oa z, oi 1, ou] [(.int 3), (.ref x)] := by
  refine zL (pc2 := 223) at_222 rfl rfl ?_
  refine zr (pc2 := 224) at_223 rfl (v := v223) hv223 ?_
  refine zT (pc2 := 225) at_224 rfl (v := v224) hv224 ?_
  refine zW (pc2 := 228) at_225 rfl hb225 ?_
  refine zR (pc2 := 230) at_228 rfl rfl rfl ?_
  refine zH (v := 3) (pc2 := 231) at_230 rfl rfl ?_
  exact zF
theorem zAf (xa : Int32) (xb : Int32) (xc : Int32) (xd : Int32) (x : Addr) (y : Addr) (z : Addr) (v27 : UInt64) (v233 : UInt64) (hv233 : (FP.i2d xd) = v233) (v234 : Int32) (hv234 : (cmpValue (FP.dcmp v27 v233) .l) = v234) (hb235 : ifCond.holds .ne v234 = false) :
    zE zQ code 232 #[oi xa, oi xb, oi xc, oi xd, oa x, oa y, oi 2, oa z, oi 1, ou] [(.double v27)] 260 #[oi xa, oi xb, oi xc, oi xd, oa x, oa y, oi 2, oa z, oi 1, oi 1] [(.int 1)] := by
  refine zL (pc2 := 233) at_232 rfl rfl ?_
  refine zr (pc2 := 234) at_233 rfl (v := v233) hv233 ?_
  refine zT (pc2 := 235) at_234 rfl (v := v234) hv234 ?_
  refine zW (pc2 := 238) at_235 rfl hb235 ?_
  refine zH (v := 1) (pc2 := 239) at_238 rfl rfl ?_
  refine zS (pc' := 243) at_239 (by decide) (by decide) ?_
  refine zi (pc2 := 245) at_243 rfl (L' := #[oi xa, oi xb, oi xc, oi xd, oa x, oa y, oi 2, oa z, oi 1, oi 1]) rfl ?_
  refine zG (pc2 := 247) at_245 rfl rfl ?_
  refine zW (pc2 := 250) at_247 rfl (by decide) ?_
  refine zG (pc2 := 252) at_250 rfl rfl ?_
  refine zW (pc2 := 255) at_252 rfl (by decide) ?_
  refine zH (v := 1) (pc2 := 256) at_255 rfl rfl ?_
  refine zS (pc' := 260) at_256 (by decide) (by decide) ?_
  exact zF
set_option maxRecDepth 65536 in
set_option maxHeartbeats 40000000 in
theorem own_law3 (l : Launch) (Z : State) (a0 : Array Value) (hb0 : Heap) (hw : ∀ d ∈ tables_1, d.before a0 Z = true) (xa : Int32) (xb : Int32) (xc : Int32) (xd : Int32) (hb38 : ifCond.holds .le xa = true) (hb54 : ifCond.holds .le xb = true) (hb70 : ifCond.holds .le xc = false) (hb86 : ifCond.holds .le xd = false) :
    zl l Z a0 hb0 x code maxLocals ret tables_1 room_1 #[(.int xa), (.int xb), (.int xc), (.int xd)] [] (fun v _ => v = some (.int 1)) := by
  refine zm (L0 := #[oi xa, oi xb, oi xc, oi xd, ou, ou, ou, ou, ou, ou]) (plainFor_of_name zx) (fun m => zAB m xa xb xc xd) ?_
  intro p e s m below meth c T0 hx hZ hown hby hml hnm H0
  have hown : s.vm.findClass "com/example/tangentia/tangentia/flash/StabilityTestPresentComponentsPinLaw" = some m.cls := hown
  have hml : c.maxLocals = 10 := hml
  obtain ⟨Ts3_1, x, Hs3_1, sts3_1⟩ := zh H0 hx hZ (zO hw 0 rfl) (g := (mkF m 1 #[oi xa, oi xb, oi xc, oi xd, ou, ou, ou, ou, ou, ou] [(.int 4)])) rfl (hb hby at_1) rfl (by decide) (cap := 4) (by decide) (by decide) (by decide) (by decide)
  change zK _ _ _ _ _ _ _ _ _ _ _ _ _ _ [(x, zB .double [.double 0, .double 0, .double 0, .double 0])] _ _ at Hs3_1
  obtain ⟨v9, hv9⟩ : ∃ z : UInt64, (FP.i2d xa) = z := ⟨_, rfl⟩
  obtain ⟨Ts3_2, Hs3_2, sts3_2⟩ := zd Hs3_1 hx hZ 0 0 rfl (by decide) (Nat.le_of_ble_eq_true rfl) (g := (mkF m 10 #[oi xa, oi xb, oi xc, oi xd, oa x, ou, ou, ou, ou, ou] [(.double v9), (.int 0), (.ref x)])) rfl rfl (hb hby at_10)
  change zK _ _ _ _ _ _ _ _ _ _ _ _ _ _ [(x, zB .double [.double v9, .double 0, .double 0, .double 0])] _ _ at Hs3_2
  obtain ⟨v15, hv15⟩ : ∃ z : UInt64, (FP.i2d xb) = z := ⟨_, rfl⟩
  obtain ⟨Ts3_3, Hs3_3, sts3_3⟩ := zd Hs3_2 hx hZ 0 1 rfl (by decide) (Nat.le_of_ble_eq_true rfl) (g := (mkF m 16 #[oi xa, oi xb, oi xc, oi xd, oa x, ou, ou, ou, ou, ou] [(.double v15), (.int 1), (.ref x)])) rfl rfl (hb hby at_16)
  change zK _ _ _ _ _ _ _ _ _ _ _ _ _ _ [(x, zB .double [.double v9, .double v15, .double 0, .double 0])] _ _ at Hs3_3
  obtain ⟨v21, hv21⟩ : ∃ z : UInt64, (FP.i2d xc) = z := ⟨_, rfl⟩
  obtain ⟨Ts3_4, Hs3_4, sts3_4⟩ := zd Hs3_3 hx hZ 0 2 rfl (by decide) (Nat.le_of_ble_eq_true rfl) (g := (mkF m 22 #[oi xa, oi xb, oi xc, oi xd, oa x, ou, ou, ou, ou, ou] [(.double v21), (.int 2), (.ref x)])) rfl rfl (hb hby at_22)
  change zK _ _ _ _ _ _ _ _ _ _ _ _ _ _ [(x, zB .double [.double v9, .double v15, .double v21, .double 0])] _ _ at Hs3_4
  obtain ⟨v27, hv27⟩ : ∃ z : UInt64, (FP.i2d xd) = z := ⟨_, rfl⟩
  obtain ⟨Ts3_5, Hs3_5, sts3_5⟩ := zd Hs3_4 hx hZ 0 3 rfl (by decide) (Nat.le_of_ble_eq_true rfl) (g := (mkF m 28 #[oi xa, oi xb, oi xc, oi xd, oa x, ou, ou, ou, ou, ou] [(.double v27), (.int 3), (.ref x)])) rfl rfl (hb hby at_28)
  change zK _ _ _ _ _ _ _ _ _ _ _ _ _ _ [(x, zB .double [.double v9, .double v15, .double v21, .double v27])] _ _ at Hs3_5
  obtain ⟨Ts3_6, y, Hs3_6, sts3_6⟩ := zh Hs3_5 hx hZ (zO hw 1 rfl) (g := (mkF m 30 #[oi xa, oi xb, oi xc, oi xd, oa x, ou, ou, ou, ou, ou] [(.int 4)])) rfl (hb hby at_30) rfl (by decide) (cap := 4) (by decide) (by decide) (by decide) (by decide)
  change zK _ _ _ _ _ _ _ _ _ _ _ _ _ _ [(x, zB .double [.double v9, .double v15, .double v21, .double v27]), (y, zB .int [.int 0, .int 0, .int 0, .int 0])] _ _ at Hs3_6
  obtain ⟨Ts3_7, Hs3_7, sts3_7⟩ := ze Hs3_6 hx hZ 1 0 rfl (by decide) (Nat.le_of_ble_eq_true rfl) (g := (mkF m 78 #[oi xa, oi xb, oi xc, oi xd, oa x, oa y, oi 0, ou, ou, ou] [(.int 2), (.int 0), (.ref y)])) rfl rfl (hb hby at_78)
  change zK _ _ _ _ _ _ _ _ _ _ _ _ _ _ [(x, zB .double [.double v9, .double v15, .double v21, .double v27]), (y, zB .int [.int 2, .int 0, .int 0, .int 0])] _ _ at Hs3_7
  obtain ⟨Ts3_8, Hs3_8, sts3_8⟩ := ze Hs3_7 hx hZ 1 1 rfl (by decide) (Nat.le_of_ble_eq_true rfl) (g := (mkF m 94 #[oi xa, oi xb, oi xc, oi xd, oa x, oa y, oi 1, ou, ou, ou] [(.int 3), (.int 1), (.ref y)])) rfl rfl (hb hby at_94)
  change zK _ _ _ _ _ _ _ _ _ _ _ _ _ _ [(x, zB .double [.double v9, .double v15, .double v21, .double v27]), (y, zB .int [.int 2, .int 3, .int 0, .int 0])] _ _ at Hs3_8
  have hp0 : ifCond.holds .le (cmpValue (FP.dcmp v9 (0 : UInt64)) .l) = true := by rw [← hv9, zY (zI xa) zX]; exact zo hb38
  have hp1 : ifCond.holds .le (cmpValue (FP.dcmp v15 (0 : UInt64)) .l) = true := by rw [← hv15, zY (zI xb) zX]; exact zo hb54
  have hp2 : ifCond.holds .le (cmpValue (FP.dcmp v21 (0 : UInt64)) .l) = false := by rw [← hv21, zY (zI xc) zX]; exact zn hb70
  have hp3 : ifCond.holds .le (cmpValue (FP.dcmp v27 (0 : UInt64)) .l) = false := by rw [← hv27, zY (zI xd) zX]; exact zn hb86
  obtain ⟨Ts3_9, vs3_9_, css3_9_, qs3_9, Hs3_9, sts3_9⟩ := zw Hs3_8 hx hZ hown (zO hw 2 rfl) (zO hw 3 rfl) (zO hw 4 rfl) (zO hw 5 rfl) (by decide) (argsL := [(.ref x)]) (rest := []) (W := 0) (own_q3 l Z a0 hb0 hw x y v9 v15 v21 v27 hp0 hp1 hp2 hp3) (by decide) (by decide) (by decide) (by decide) (g := (mkF m 103 #[oi xa, oi xb, oi xc, oi xd, oa x, oa y, oi 2, ou, ou, ou] [(.ref x)])) rfl (by rw [hml]; rfl) (lenOf zz rfl) rfl (by show 2 * 0 + _ ≤ _; exact Nat.le_of_eq rfl) (hb hby at_103)
  obtain ⟨z, rfl, rfl⟩ := qs3_9
  obtain ⟨v203, hv203⟩ : ∃ z : UInt64, (FP.i2d xa) = z := ⟨_, rfl⟩
  obtain ⟨v204, hv204⟩ : ∃ z : Int32, (cmpValue (FP.dcmp v9 v203) .l) = z := ⟨_, rfl⟩
  obtain ⟨v213, hv213⟩ : ∃ z : UInt64, (FP.i2d xb) = z := ⟨_, rfl⟩
  obtain ⟨v214, hv214⟩ : ∃ z : Int32, (cmpValue (FP.dcmp v15 v213) .l) = z := ⟨_, rfl⟩
  obtain ⟨v223, hv223⟩ : ∃ z : UInt64, (FP.i2d xc) = z := ⟨_, rfl⟩
  obtain ⟨v224, hv224⟩ : ∃ z : Int32, (cmpValue (FP.dcmp v21 v223) .l) = z := ⟨_, rfl⟩
  obtain ⟨v233, hv233⟩ : ∃ z : UInt64, (FP.i2d xd) = z := ⟨_, rfl⟩
  obtain ⟨v234, hv234⟩ : ∃ z : Int32, (cmpValue (FP.dcmp v27 v233) .l) = z := ⟨_, rfl⟩
  have hb205 : ifCond.holds .ne v204 = false := by rw [← hv204, ← hv203, ← hv9, zZ (zI xa) (zI xa)]; simp
  have hb215 : ifCond.holds .ne v214 = false := by rw [← hv214, ← hv213, ← hv15, zZ (zI xb) (zI xb)]; simp
  have hb225 : ifCond.holds .ne v224 = false := by rw [← hv224, ← hv223, ← hv21, zZ (zI xc) (zI xc)]; simp
  have hb235 : ifCond.holds .ne v234 = false := by rw [← hv234, ← hv233, ← hv27, zZ (zI xd) (zI xd)]; simp
  refine ⟨_, _, _, _, 260, #[oi xa, oi xb, oi xc, oi xd, oa x, oa y, oi 2, oa z, oi 1, oi 1], Hs3_9, by decide, by decide, Or.inr ⟨.boolean, (.int 1), [], .ireturn, rfl, rfl, at_260, zv (Or.inr rfl), fun target q => ?_⟩⟩
  refine zA H0 hx hZ hown hby hw zC (zAF xa xb xc xd) _ ?_
  refine sts3_1 _ ?_
  refine zA Hs3_1 hx hZ hown hby hw zC (zAG xa xb xc xd x v9 hv9) _ ?_
  refine sts3_2 _ ?_
  refine zA Hs3_2 hx hZ hown hby hw zC (zAH xa xb xc xd x v15 hv15) _ ?_
  refine sts3_3 _ ?_
  refine zA Hs3_3 hx hZ hown hby hw zC (zAI xa xb xc xd x v21 hv21) _ ?_
  refine sts3_4 _ ?_
  refine zA Hs3_4 hx hZ hown hby hw zC (zAJ xa xb xc xd x v27 hv27) _ ?_
  refine sts3_5 _ ?_
  refine zA Hs3_5 hx hZ hown hby hw zC (zAK xa xb xc xd x) _ ?_
  refine sts3_6 _ ?_
  refine zA Hs3_6 hx hZ hown hby hw zC (own_s2_6 xa xb xc xd x y hb38 hb54 hb70) _ ?_
  refine sts3_7 _ ?_
  refine zA Hs3_7 hx hZ hown hby hw zC (own_s3_7 xa xb xc xd x y hb86) _ ?_
  refine sts3_8 _ ?_
  refine zA Hs3_8 hx hZ hown hby hw zC (zBk xa xb xc xd x y) _ ?_
  refine sts3_9 _ ?_
  refine zA Hs3_9 hx hZ hown hby hw zC (zAa xa xb xc xd x y z) _ ?_
  refine zP Hs3_9 hx hZ 2 rfl (z := (2 : Int32)) rfl (g := (mkF m 115 #[oi xa, oi xb, oi xc, oi xd, oa x, oa y, oi 2, oa z, ou, ou] [(.ref z)])) rfl rfl (hb hby at_115) _ ?_
  refine zA Hs3_9 hx hZ hown hby hw zC (zAb xa xb xc xd x y z) _ ?_
  refine zb Hs3_9 hx hZ 2 0 rfl (by decide) rfl (g := (mkF m 132 #[oi xa, oi xb, oi xc, oi xd, oa x, oa y, oi 2, oa z, ou, ou] [(.int 0), (.ref z)])) rfl rfl (hb hby at_132) _ ?_
  refine zA Hs3_9 hx hZ hown hby hw zC (own_s3_11 xa xb xc xd x y z) _ ?_
  refine zb Hs3_9 hx hZ 1 0 rfl (by decide) rfl (g := (mkF m 136 #[oi xa, oi xb, oi xc, oi xd, oa x, oa y, oi 2, oa z, ou, ou] [(.int 0), (.ref y), (.int 2)])) rfl rfl (hb hby at_136) _ ?_
  refine zA Hs3_9 hx hZ hown hby hw zC (own_s3_12 xa xb xc xd x y z) _ ?_
  refine zb Hs3_9 hx hZ 2 1 rfl (by decide) rfl (g := (mkF m 149 #[oi xa, oi xb, oi xc, oi xd, oa x, oa y, oi 2, oa z, ou, ou] [(.int 1), (.ref z)])) rfl rfl (hb hby at_149) _ ?_
  refine zA Hs3_9 hx hZ hown hby hw zC (zBl xa xb xc xd x y z) _ ?_
  refine zb Hs3_9 hx hZ 1 1 rfl (by decide) rfl (g := (mkF m 153 #[oi xa, oi xb, oi xc, oi xd, oa x, oa y, oi 2, oa z, ou, ou] [(.int 1), (.ref y), (.int 3)])) rfl rfl (hb hby at_153) _ ?_
  refine zA Hs3_9 hx hZ hown hby hw zC (zBm xa xb xc xd x y z) _ ?_
  refine zJ Hs3_9 hx hZ 0 0 rfl (by decide) rfl (g := (mkF m 201 #[oi xa, oi xb, oi xc, oi xd, oa x, oa y, oi 2, oa z, oi 1, ou] [(.int 0), (.ref x)])) rfl rfl (hb hby at_201) _ ?_
  refine zA Hs3_9 hx hZ hown hby hw zC (zAc xa xb xc xd x y z v9 v203 hv203 v204 hv204 hb205) _ ?_
  refine zJ Hs3_9 hx hZ 0 1 rfl (by decide) rfl (g := (mkF m 211 #[oi xa, oi xb, oi xc, oi xd, oa x, oa y, oi 2, oa z, oi 1, ou] [(.int 1), (.ref x)])) rfl rfl (hb hby at_211) _ ?_
  refine zA Hs3_9 hx hZ hown hby hw zC (zAd xa xb xc xd x y z v15 v213 hv213 v214 hv214 hb215) _ ?_
  refine zJ Hs3_9 hx hZ 0 2 rfl (by decide) rfl (g := (mkF m 221 #[oi xa, oi xb, oi xc, oi xd, oa x, oa y, oi 2, oa z, oi 1, ou] [(.int 2), (.ref x)])) rfl rfl (hb hby at_221) _ ?_
  refine zA Hs3_9 hx hZ hown hby hw zC (zAe xa xb xc xd x y z v21 v223 hv223 v224 hv224 hb225) _ ?_
  refine zJ Hs3_9 hx hZ 0 3 rfl (by decide) rfl (g := (mkF m 231 #[oi xa, oi xb, oi xc, oi xd, oa x, oa y, oi 2, oa z, oi 1, ou] [(.int 3), (.ref x)])) rfl rfl (hb hby at_231) _ ?_
  refine zA Hs3_9 hx hZ hown hby hw zC (zAf xa xb xc xd x y z v27 v233 hv233 v234 hv234 hb235) _ ?_
  exact q
theorem zBB (x : Addr) (da : UInt64) (db : UInt64) (v26' : Int32) (hv26' : (cmpValue (FP.dcmp db (0 : UInt64)) .l) = v26') (hb27_1 : ifCond.holds .le v26' = false) :
    zE zM ok0 20 #[oa x, oi 0, oa x, oi 4, oi 1, .val (.double da), .second] [(.double db)] 19 #[oa x, oi 1, oa x, oi 4, oi 2, .val (.double db), .second] [(.int 2), (.ref x)] := by
  refine zt (pc2 := 22) d1_20 rfl (L' := #[oa x, oi 0, oa x, oi 4, oi 1, .val (.double db), .second]) rfl ?_
  refine zL (pc2 := 23) d1_22 rfl rfl ?_
  refine zs (pc2 := 25) d1_23 rfl rfl ?_
  refine zf (v := 0) (pc2 := 26) d1_25 rfl rfl ?_
  refine zT (pc2 := 27) d1_26 rfl (v := v26') hv26' ?_
  refine zW (pc2 := 30) d1_27 rfl hb27_1 ?_
  refine zH (v := 1) (pc2 := 31) d1_30 rfl rfl ?_
  refine zS (pc' := 35) d1_31 (by decide) (by decide) ?_
  refine zk (pc2 := 36) d1_35 rfl (v := (1 : Int32)) (by decide) ?_
  refine zq (pc2 := 37) d1_36 rfl (L' := #[oa x, oi 1, oa x, oi 4, oi 1, .val (.double db), .second]) rfl ?_
  refine zU (pc2 := 40) d1_37 rfl rfl (v := (2 : Int32)) (by decide) (L' := #[oa x, oi 1, oa x, oi 4, oi 2, .val (.double db), .second]) rfl ?_
  refine zS (pc' := 10) d1_40 (by decide) (by decide) ?_
  refine zG (pc2 := 12) d1_10 rfl rfl ?_
  refine zL (pc2 := 13) d1_12 rfl rfl ?_
  refine zV (pc2 := 16) d1_13 rfl (by decide) ?_
  refine zN (pc2 := 17) d1_16 rfl rfl rfl ?_
  refine zG (pc2 := 19) d1_17 rfl rfl ?_
  exact zF
theorem zBC (x : Addr) (db : UInt64) (dc : UInt64) (v26'' : Int32) (hv26'' : (cmpValue (FP.dcmp dc (0 : UInt64)) .l) = v26'') (hb27_2 : ifCond.holds .le v26'' = true) :
    zE zM ok0 20 #[oa x, oi 1, oa x, oi 4, oi 2, .val (.double db), .second] [(.double dc)] 19 #[oa x, oi 1, oa x, oi 4, oi 3, .val (.double dc), .second] [(.int 3), (.ref x)] := by
  refine zt (pc2 := 22) d1_20 rfl (L' := #[oa x, oi 1, oa x, oi 4, oi 2, .val (.double dc), .second]) rfl ?_
  refine zL (pc2 := 23) d1_22 rfl rfl ?_
  refine zs (pc2 := 25) d1_23 rfl rfl ?_
  refine zf (v := 0) (pc2 := 26) d1_25 rfl rfl ?_
  refine zT (pc2 := 27) d1_26 rfl (v := v26'') hv26'' ?_
  refine zg (pc' := 34) d1_27 hb27_2 (by decide) (by decide) ?_
  refine zH (v := 0) (pc2 := 35) d1_34 rfl rfl ?_
  refine zk (pc2 := 36) d1_35 rfl (v := (1 : Int32)) (by decide) ?_
  refine zq (pc2 := 37) d1_36 rfl (L' := #[oa x, oi 1, oa x, oi 4, oi 2, .val (.double dc), .second]) rfl ?_
  refine zU (pc2 := 40) d1_37 rfl rfl (v := (3 : Int32)) (by decide) (L' := #[oa x, oi 1, oa x, oi 4, oi 3, .val (.double dc), .second]) rfl ?_
  refine zS (pc' := 10) d1_40 (by decide) (by decide) ?_
  refine zG (pc2 := 12) d1_10 rfl rfl ?_
  refine zL (pc2 := 13) d1_12 rfl rfl ?_
  refine zV (pc2 := 16) d1_13 rfl (by decide) ?_
  refine zN (pc2 := 17) d1_16 rfl rfl rfl ?_
  refine zG (pc2 := 19) d1_17 rfl rfl ?_
  exact zF
theorem own_p4_10 (x : Addr) (z : Addr) (dd : UInt64) (db : UInt64) (v64' : Int32) (hv64' : (cmpValue (FP.dcmp db (0 : UInt64)) .l) = v64') (hb65_1 : ifCond.holds .le v64' = false) :
    zE zM ok0 63 #[oa x, oi 1, oa z, oi 0, oi 1, .val (.double dd), .second] [(.double db)] 75 #[oa x, oi 1, oa z, oi 1, oi 1, .val (.double dd), .second] [(.int 1), (.int 0), (.ref z)] := by
  refine zf (v := 0) (pc2 := 64) d1_63 rfl rfl ?_
  refine zT (pc2 := 65) d1_64 rfl (v := v64') hv64' ?_
  refine zW (pc2 := 68) d1_65 rfl hb65_1 ?_
  refine zN (pc2 := 69) d1_68 rfl rfl rfl ?_
  refine zL (pc2 := 70) d1_69 rfl rfl ?_
  refine zU (pc2 := 73) d1_70 rfl rfl (v := (1 : Int32)) (by decide) (L' := #[oa x, oi 1, oa z, oi 1, oi 1, .val (.double dd), .second]) rfl ?_
  refine zG (pc2 := 75) d1_73 rfl rfl ?_
  exact zF
theorem own_p4_11 (x : Addr) (z : Addr) (dd : UInt64) :
    zE zM ok0 76 #[oa x, oi 1, oa z, oi 1, oi 1, .val (.double dd), .second] [] 55 #[oa x, oi 1, oa z, oi 1, oi 2, .val (.double dd), .second] [(.ref x), (.int 2)] := by
  refine zU (pc2 := 79) d1_76 rfl rfl (v := (2 : Int32)) (by decide) (L' := #[oa x, oi 1, oa z, oi 1, oi 2, .val (.double dd), .second]) rfl ?_
  refine zS (pc' := 52) d1_79 (by decide) (by decide) ?_
  refine zG (pc2 := 54) d1_52 rfl rfl ?_
  refine zN (pc2 := 55) d1_54 rfl rfl rfl ?_
  exact zF
theorem own_p4_12 (x : Addr) (z : Addr) (dd : UInt64) :
    zE zM ok0 56 #[oa x, oi 1, oa z, oi 1, oi 2, .val (.double dd), .second] [(.int 4), (.int 2)] 62 #[oa x, oi 1, oa z, oi 1, oi 2, .val (.double dd), .second] [(.int 2), (.ref x)] := by
  refine zV (pc2 := 59) d1_56 rfl (by decide) ?_
  refine zN (pc2 := 60) d1_59 rfl rfl rfl ?_
  refine zG (pc2 := 62) d1_60 rfl rfl ?_
  exact zF
theorem own_p4_13 (x : Addr) (z : Addr) (dd : UInt64) (dc : UInt64) (v64'' : Int32) (hv64'' : (cmpValue (FP.dcmp dc (0 : UInt64)) .l) = v64'') (hb65_2 : ifCond.holds .le v64'' = true) :
    zE zM ok0 63 #[oa x, oi 1, oa z, oi 1, oi 2, .val (.double dd), .second] [(.double dc)] 55 #[oa x, oi 1, oa z, oi 1, oi 3, .val (.double dd), .second] [(.ref x), (.int 3)] := by
  refine zf (v := 0) (pc2 := 64) d1_63 rfl rfl ?_
  refine zT (pc2 := 65) d1_64 rfl (v := v64'') hv64'' ?_
  refine zg (pc' := 76) d1_65 hb65_2 (by decide) (by decide) ?_
  refine zU (pc2 := 79) d1_76 rfl rfl (v := (3 : Int32)) (by decide) (L' := #[oa x, oi 1, oa z, oi 1, oi 3, .val (.double dd), .second]) rfl ?_
  refine zS (pc' := 52) d1_79 (by decide) (by decide) ?_
  refine zG (pc2 := 54) d1_52 rfl rfl ?_
  refine zN (pc2 := 55) d1_54 rfl rfl rfl ?_
  exact zF
set_option maxRecDepth 65536 in
set_option maxHeartbeats 4000000 in
theorem own_q4 (l : Launch) (Z : State) (a0 : Array Value) (hb0 : Heap) (hw : ∀ d ∈ tables_1, d.before a0 Z = true) (x : Addr) (y : Addr) (da db dc dd : UInt64) (hp0 : ifCond.holds .le (cmpValue (FP.dcmp da (0 : UInt64)) .l) = true) (hp1 : ifCond.holds .le (cmpValue (FP.dcmp db (0 : UInt64)) .l) = false) (hp2 : ifCond.holds .le (cmpValue (FP.dcmp dc (0 : UInt64)) .l) = true) (hp3 : ifCond.holds .le (cmpValue (FP.dcmp dd (0 : UInt64)) .l) = true) :
    zl l Z a0 hb0 (⟨"com/example/tangentia/tangentia/flash/StabilityTest", "presentComponents", "([D)[I"⟩ : MethodName) ok0 7 (some (.array .int)) [] ({ frames := 0, cells := 1, slots := 1, locals := 0 } : Room) #[(.ref x)] [(x, zB .double [.double da, .double db, .double dc, .double dd]), (y, zB .int [.int 1, .int 0, .int 0, .int 0])] (fun r cs' => ∃ z, r = some (.ref z) ∧ cs' = [(x, zB .double [.double da, .double db, .double dc, .double dd]), (y, zB .int [.int 1, .int 0, .int 0, .int 0]), (z, zB .int [.int 1])]) := by
  refine zm (L0 := #[oa x, ou, ou, ou, ou, ou, ou]) (plainFor_of_name zy) (fun m => zAA m x) ?_
  intro p e s m below meth c T0 hx hZ hown hby hml hnm H0
  obtain ⟨v26, hv26⟩ : ∃ z : Int32, (cmpValue (FP.dcmp da (0 : UInt64)) .l) = z := ⟨_, rfl⟩
  obtain ⟨v26', hv26'⟩ : ∃ z : Int32, (cmpValue (FP.dcmp db (0 : UInt64)) .l) = z := ⟨_, rfl⟩
  obtain ⟨v26'', hv26''⟩ : ∃ z : Int32, (cmpValue (FP.dcmp dc (0 : UInt64)) .l) = z := ⟨_, rfl⟩
  obtain ⟨v26''', hv26'''⟩ : ∃ z : Int32, (cmpValue (FP.dcmp dd (0 : UInt64)) .l) = z := ⟨_, rfl⟩
  obtain ⟨Tp4_6, z, Hp4_6, stp4_6⟩ := zh H0 hx hZ (zO hw 1 rfl) (g := (mkF m 44 #[oa x, oi 1, oa x, oi 4, oi 4, .val (.double dd), .second] [(.int 1)])) rfl (hb hby d1_44) rfl (by decide) (cap := 1) (by decide) (by decide) (by decide) (by decide)
  change zK _ _ _ _ _ _ _ _ _ _ _ _ _ _ [(x, zB .double [.double da, .double db, .double dc, .double dd]), (y, zB .int [.int 1, .int 0, .int 0, .int 0]), (z, zB .int [.int 0])] _ _ at Hp4_6
  obtain ⟨v64, hv64⟩ : ∃ z : Int32, (cmpValue (FP.dcmp da (0 : UInt64)) .l) = z := ⟨_, rfl⟩
  obtain ⟨v64', hv64'⟩ : ∃ z : Int32, (cmpValue (FP.dcmp db (0 : UInt64)) .l) = z := ⟨_, rfl⟩
  obtain ⟨Tp4_11, Hp4_11, stp4_11⟩ := ze Hp4_6 hx hZ 2 0 rfl (by decide) (Nat.le_of_ble_eq_true rfl) (g := (mkF m 75 #[oa x, oi 1, oa z, oi 1, oi 1, .val (.double dd), .second] [(.int 1), (.int 0), (.ref z)])) rfl rfl (hb hby d1_75)
  change zK _ _ _ _ _ _ _ _ _ _ _ _ _ _ [(x, zB .double [.double da, .double db, .double dc, .double dd]), (y, zB .int [.int 1, .int 0, .int 0, .int 0]), (z, zB .int [.int 1])] _ _ at Hp4_11
  obtain ⟨v64'', hv64''⟩ : ∃ z : Int32, (cmpValue (FP.dcmp dc (0 : UInt64)) .l) = z := ⟨_, rfl⟩
  obtain ⟨v64''', hv64'''⟩ : ∃ z : Int32, (cmpValue (FP.dcmp dd (0 : UInt64)) .l) = z := ⟨_, rfl⟩
  have hb27_0 : ifCond.holds .le v26 = true := by rw [← hv26]; exact hp0
  have hb27_1 : ifCond.holds .le v26' = false := by rw [← hv26']; exact hp1
  have hb27_2 : ifCond.holds .le v26'' = true := by rw [← hv26'']; exact hp2
  have hb27_3 : ifCond.holds .le v26''' = true := by rw [← hv26''']; exact hp3
  have hb65_0 : ifCond.holds .le v64 = true := by rw [← hv64]; exact hp0
  have hb65_1 : ifCond.holds .le v64' = false := by rw [← hv64']; exact hp1
  have hb65_2 : ifCond.holds .le v64'' = true := by rw [← hv64'']; exact hp2
  have hb65_3 : ifCond.holds .le v64''' = true := by rw [← hv64''']; exact hp3
  refine ⟨_, _, _, _, 83, #[oa x, oi 1, oa z, oi 1, oi 4, .val (.double dd), .second], Hp4_11, by decide, by decide, Or.inr ⟨(.array .int), (.ref z), [], .areturn, rfl, ⟨z, rfl, rfl⟩, d1_83, zAC _, fun target q => ?_⟩⟩
  refine zA H0 hx hZ hown hby hw zD (zAD x) _ ?_
  refine zP H0 hx hZ 0 rfl (z := (4 : Int32)) rfl (g := (mkF m 5 #[oa x, oi 0, oa x, ou, ou, ou, ou] [(.ref x)])) rfl rfl (hb hby d1_5) _ ?_
  refine zA H0 hx hZ hown hby hw zD (zAE x) _ ?_
  refine zJ H0 hx hZ 0 0 rfl (by decide) rfl (g := (mkF m 19 #[oa x, oi 0, oa x, oi 4, oi 0, ou, ou] [(.int 0), (.ref x)])) rfl rfl (hb hby d1_19) _ ?_
  refine zA H0 hx hZ hown hby hw zD (zAQ x da v26 hv26 hb27_0) _ ?_
  refine zJ H0 hx hZ 0 1 rfl (by decide) rfl (g := (mkF m 19 #[oa x, oi 0, oa x, oi 4, oi 1, .val (.double da), .second] [(.int 1), (.ref x)])) rfl rfl (hb hby d1_19) _ ?_
  refine zA H0 hx hZ hown hby hw zD (zBB x da db v26' hv26' hb27_1) _ ?_
  refine zJ H0 hx hZ 0 2 rfl (by decide) rfl (g := (mkF m 19 #[oa x, oi 1, oa x, oi 4, oi 2, .val (.double db), .second] [(.int 2), (.ref x)])) rfl rfl (hb hby d1_19) _ ?_
  refine zA H0 hx hZ hown hby hw zD (zBC x db dc v26'' hv26'' hb27_2) _ ?_
  refine zJ H0 hx hZ 0 3 rfl (by decide) rfl (g := (mkF m 19 #[oa x, oi 1, oa x, oi 4, oi 3, .val (.double dc), .second] [(.int 3), (.ref x)])) rfl rfl (hb hby d1_19) _ ?_
  refine zA H0 hx hZ hown hby hw zD (zBb x dc dd v26''' hv26''' hb27_3) _ ?_
  refine stp4_6 _ ?_
  refine zA Hp4_6 hx hZ hown hby hw zD (zAs x dd z) _ ?_
  refine zP Hp4_6 hx hZ 0 rfl (z := (4 : Int32)) rfl (g := (mkF m 55 #[oa x, oi 1, oa z, oi 0, oi 0, .val (.double dd), .second] [(.ref x), (.int 0)])) rfl rfl (hb hby d1_55) _ ?_
  refine zA Hp4_6 hx hZ hown hby hw zD (zAt x z dd) _ ?_
  refine zJ Hp4_6 hx hZ 0 0 rfl (by decide) rfl (g := (mkF m 62 #[oa x, oi 1, oa z, oi 0, oi 0, .val (.double dd), .second] [(.int 0), (.ref x)])) rfl rfl (hb hby d1_62) _ ?_
  refine zA Hp4_6 hx hZ hown hby hw zD (zBZ x z dd da v64 hv64 hb65_0) _ ?_
  refine zP Hp4_6 hx hZ 0 rfl (z := (4 : Int32)) rfl (g := (mkF m 55 #[oa x, oi 1, oa z, oi 0, oi 1, .val (.double dd), .second] [(.ref x), (.int 1)])) rfl rfl (hb hby d1_55) _ ?_
  refine zA Hp4_6 hx hZ hown hby hw zD (zBa x z dd) _ ?_
  refine zJ Hp4_6 hx hZ 0 1 rfl (by decide) rfl (g := (mkF m 62 #[oa x, oi 1, oa z, oi 0, oi 1, .val (.double dd), .second] [(.int 1), (.ref x)])) rfl rfl (hb hby d1_62) _ ?_
  refine zA Hp4_6 hx hZ hown hby hw zD (own_p4_10 x z dd db v64' hv64' hb65_1) _ ?_
  refine stp4_11 _ ?_
  refine zA Hp4_11 hx hZ hown hby hw zD (own_p4_11 x z dd) _ ?_
  refine zP Hp4_11 hx hZ 0 rfl (z := (4 : Int32)) rfl (g := (mkF m 55 #[oa x, oi 1, oa z, oi 1, oi 2, .val (.double dd), .second] [(.ref x), (.int 2)])) rfl rfl (hb hby d1_55) _ ?_
  refine zA Hp4_11 hx hZ hown hby hw zD (own_p4_12 x z dd) _ ?_
  refine zJ Hp4_11 hx hZ 0 2 rfl (by decide) rfl (g := (mkF m 62 #[oa x, oi 1, oa z, oi 1, oi 2, .val (.double dd), .second] [(.int 2), (.ref x)])) rfl rfl (hb hby d1_62) _ ?_
  refine zA Hp4_11 hx hZ hown hby hw zD (own_p4_13 x z dd dc v64'' hv64'' hb65_2) _ ?_
  refine zP Hp4_11 hx hZ 0 rfl (z := (4 : Int32)) rfl (g := (mkF m 55 #[oa x, oi 1, oa z, oi 1, oi 3, .val (.double dd), .second] [(.ref x), (.int 3)])) rfl rfl (hb hby d1_55) _ ?_
  refine zA Hp4_11 hx hZ hown hby hw zD (zBc x z dd) _ ?_
  refine zJ Hp4_11 hx hZ 0 3 rfl (by decide) rfl (g := (mkF m 62 #[oa x, oi 1, oa z, oi 1, oi 3, .val (.double dd), .second] [(.int 3), (.ref x)])) rfl rfl (hb hby d1_62) _ ?_
  refine zA Hp4_11 hx hZ hown hby hw zD (zBd x z dd v64''' hv64''' hb65_3) _ ?_
  refine zP Hp4_11 hx hZ 0 rfl (z := (4 : Int32)) rfl (g := (mkF m 55 #[oa x, oi 1, oa z, oi 1, oi 4, .val (.double dd), .second] [(.ref x), (.int 4)])) rfl rfl (hb hby d1_55) _ ?_
  refine zA Hp4_11 hx hZ hown hby hw zD (zAu x z dd) _ ?_
  exact q
theorem zBD (xa : Int32) (xb : Int32) (xc : Int32) (xd : Int32) (x : Addr) (y : Addr) (hb38 : ifCond.holds .le xa = true) (hb54 : ifCond.holds .le xb = false) :
    zE zQ code 32 #[oi xa, oi xb, oi xc, oi xd, oa x, ou, ou, ou, ou, ou] [(.ref y)] 62 #[oi xa, oi xb, oi xc, oi xd, oa x, oa y, oi 0, ou, ou, ou] [(.int 1), (.int 0), (.ref y)] := by
  refine zAL (pc2 := 34) at_32 rfl rfl (L' := #[oi xa, oi xb, oi xc, oi xd, oa x, oa y, ou, ou, ou, ou]) rfl ?_
  refine zH (v := 0) (pc2 := 35) at_34 rfl rfl ?_
  refine zi (pc2 := 37) at_35 rfl (L' := #[oi xa, oi xb, oi xc, oi xd, oa x, oa y, oi 0, ou, ou, ou]) rfl ?_
  refine zL (pc2 := 38) at_37 rfl rfl ?_
  refine zg (pc' := 53) at_38 hb38 (by decide) (by decide) ?_
  refine zL (pc2 := 54) at_53 rfl rfl ?_
  refine zW (pc2 := 57) at_54 rfl hb54 ?_
  refine zR (pc2 := 59) at_57 rfl rfl rfl ?_
  refine zG (pc2 := 61) at_59 rfl rfl ?_
  refine zH (v := 1) (pc2 := 62) at_61 rfl rfl ?_
  exact zF
theorem own_s4_7 (xa : Int32) (xb : Int32) (xc : Int32) (xd : Int32) (x : Addr) (y : Addr) (hb70 : ifCond.holds .le xc = true) (hb86 : ifCond.holds .le xd = true) :
    zE zQ code 63 #[oi xa, oi xb, oi xc, oi xd, oa x, oa y, oi 0, ou, ou, ou] [] 103 #[oi xa, oi xb, oi xc, oi xd, oa x, oa y, oi 1, ou, ou, ou] [(.ref x)] := by
  refine zG (pc2 := 65) at_63 rfl rfl ?_
  refine zH (v := 1) (pc2 := 66) at_65 rfl rfl ?_
  refine zk (pc2 := 67) at_66 rfl (v := (1 : Int32)) (by decide) ?_
  refine zi (pc2 := 69) at_67 rfl (L' := #[oi xa, oi xb, oi xc, oi xd, oa x, oa y, oi 1, ou, ou, ou]) rfl ?_
  refine zL (pc2 := 70) at_69 rfl rfl ?_
  refine zg (pc' := 85) at_70 hb70 (by decide) (by decide) ?_
  refine zL (pc2 := 86) at_85 rfl rfl ?_
  refine zg (pc' := 101) at_86 hb86 (by decide) (by decide) ?_
  refine zR (pc2 := 103) at_101 rfl rfl rfl ?_
  exact zF
theorem own_s4_10 (xa : Int32) (xb : Int32) (xc : Int32) (xd : Int32) (x : Addr) (y : Addr) (z : Addr) :
    zE zQ code 133 #[oi xa, oi xb, oi xc, oi xd, oa x, oa y, oi 1, oa z, ou, ou] [(.int 1)] 136 #[oi xa, oi xb, oi xc, oi xd, oa x, oa y, oi 1, oa z, ou, ou] [(.int 0), (.ref y), (.int 1)] := by
  refine zR (pc2 := 135) at_133 rfl rfl rfl ?_
  refine zH (v := 0) (pc2 := 136) at_135 rfl rfl ?_
  exact zF
theorem own_s4_11 (xa : Int32) (xb : Int32) (xc : Int32) (xd : Int32) (x : Addr) (y : Addr) (z : Addr) :
    zE zQ code 137 #[oi xa, oi xb, oi xc, oi xd, oa x, oa y, oi 1, oa z, ou, ou] [(.int 1), (.int 1)] 201 #[oi xa, oi xb, oi xc, oi xd, oa x, oa y, oi 1, oa z, oi 1, ou] [(.int 0), (.ref x)] := by
  refine zV (pc2 := 140) at_137 rfl (by decide) ?_
  refine zG (pc2 := 142) at_140 rfl rfl ?_
  refine zH (v := 2) (pc2 := 143) at_142 rfl rfl ?_
  refine zj (pc' := 157) at_143 (by decide) (by decide) (by decide) ?_
  refine zG (pc2 := 159) at_157 rfl rfl ?_
  refine zH (v := 3) (pc2 := 160) at_159 rfl rfl ?_
  refine zj (pc' := 174) at_160 (by decide) (by decide) (by decide) ?_
  refine zG (pc2 := 176) at_174 rfl rfl ?_
  refine zH (v := 4) (pc2 := 177) at_176 rfl rfl ?_
  refine zj (pc' := 191) at_177 (by decide) (by decide) (by decide) ?_
  refine zH (v := 1) (pc2 := 192) at_191 rfl rfl ?_
  refine zS (pc' := 196) at_192 (by decide) (by decide) ?_
  refine zi (pc2 := 198) at_196 rfl (L' := #[oi xa, oi xb, oi xc, oi xd, oa x, oa y, oi 1, oa z, oi 1, ou]) rfl ?_
  refine zR (pc2 := 200) at_198 rfl rfl rfl ?_
  refine zH (v := 0) (pc2 := 201) at_200 rfl rfl ?_
  exact zF
set_option maxRecDepth 65536 in
set_option maxHeartbeats 40000000 in
theorem own_law4 (l : Launch) (Z : State) (a0 : Array Value) (hb0 : Heap) (hw : ∀ d ∈ tables_1, d.before a0 Z = true) (xa : Int32) (xb : Int32) (xc : Int32) (xd : Int32) (hb38 : ifCond.holds .le xa = true) (hb54 : ifCond.holds .le xb = false) (hb70 : ifCond.holds .le xc = true) (hb86 : ifCond.holds .le xd = true) :
    zl l Z a0 hb0 x code maxLocals ret tables_1 room_1 #[(.int xa), (.int xb), (.int xc), (.int xd)] [] (fun v _ => v = some (.int 1)) := by
  refine zm (L0 := #[oi xa, oi xb, oi xc, oi xd, ou, ou, ou, ou, ou, ou]) (plainFor_of_name zx) (fun m => zAB m xa xb xc xd) ?_
  intro p e s m below meth c T0 hx hZ hown hby hml hnm H0
  have hown : s.vm.findClass "com/example/tangentia/tangentia/flash/StabilityTestPresentComponentsPinLaw" = some m.cls := hown
  have hml : c.maxLocals = 10 := hml
  obtain ⟨Ts4_1, x, Hs4_1, sts4_1⟩ := zh H0 hx hZ (zO hw 0 rfl) (g := (mkF m 1 #[oi xa, oi xb, oi xc, oi xd, ou, ou, ou, ou, ou, ou] [(.int 4)])) rfl (hb hby at_1) rfl (by decide) (cap := 4) (by decide) (by decide) (by decide) (by decide)
  change zK _ _ _ _ _ _ _ _ _ _ _ _ _ _ [(x, zB .double [.double 0, .double 0, .double 0, .double 0])] _ _ at Hs4_1
  obtain ⟨v9, hv9⟩ : ∃ z : UInt64, (FP.i2d xa) = z := ⟨_, rfl⟩
  obtain ⟨Ts4_2, Hs4_2, sts4_2⟩ := zd Hs4_1 hx hZ 0 0 rfl (by decide) (Nat.le_of_ble_eq_true rfl) (g := (mkF m 10 #[oi xa, oi xb, oi xc, oi xd, oa x, ou, ou, ou, ou, ou] [(.double v9), (.int 0), (.ref x)])) rfl rfl (hb hby at_10)
  change zK _ _ _ _ _ _ _ _ _ _ _ _ _ _ [(x, zB .double [.double v9, .double 0, .double 0, .double 0])] _ _ at Hs4_2
  obtain ⟨v15, hv15⟩ : ∃ z : UInt64, (FP.i2d xb) = z := ⟨_, rfl⟩
  obtain ⟨Ts4_3, Hs4_3, sts4_3⟩ := zd Hs4_2 hx hZ 0 1 rfl (by decide) (Nat.le_of_ble_eq_true rfl) (g := (mkF m 16 #[oi xa, oi xb, oi xc, oi xd, oa x, ou, ou, ou, ou, ou] [(.double v15), (.int 1), (.ref x)])) rfl rfl (hb hby at_16)
  change zK _ _ _ _ _ _ _ _ _ _ _ _ _ _ [(x, zB .double [.double v9, .double v15, .double 0, .double 0])] _ _ at Hs4_3
  obtain ⟨v21, hv21⟩ : ∃ z : UInt64, (FP.i2d xc) = z := ⟨_, rfl⟩
  obtain ⟨Ts4_4, Hs4_4, sts4_4⟩ := zd Hs4_3 hx hZ 0 2 rfl (by decide) (Nat.le_of_ble_eq_true rfl) (g := (mkF m 22 #[oi xa, oi xb, oi xc, oi xd, oa x, ou, ou, ou, ou, ou] [(.double v21), (.int 2), (.ref x)])) rfl rfl (hb hby at_22)
  change zK _ _ _ _ _ _ _ _ _ _ _ _ _ _ [(x, zB .double [.double v9, .double v15, .double v21, .double 0])] _ _ at Hs4_4
  obtain ⟨v27, hv27⟩ : ∃ z : UInt64, (FP.i2d xd) = z := ⟨_, rfl⟩
  obtain ⟨Ts4_5, Hs4_5, sts4_5⟩ := zd Hs4_4 hx hZ 0 3 rfl (by decide) (Nat.le_of_ble_eq_true rfl) (g := (mkF m 28 #[oi xa, oi xb, oi xc, oi xd, oa x, ou, ou, ou, ou, ou] [(.double v27), (.int 3), (.ref x)])) rfl rfl (hb hby at_28)
  change zK _ _ _ _ _ _ _ _ _ _ _ _ _ _ [(x, zB .double [.double v9, .double v15, .double v21, .double v27])] _ _ at Hs4_5
  obtain ⟨Ts4_6, y, Hs4_6, sts4_6⟩ := zh Hs4_5 hx hZ (zO hw 1 rfl) (g := (mkF m 30 #[oi xa, oi xb, oi xc, oi xd, oa x, ou, ou, ou, ou, ou] [(.int 4)])) rfl (hb hby at_30) rfl (by decide) (cap := 4) (by decide) (by decide) (by decide) (by decide)
  change zK _ _ _ _ _ _ _ _ _ _ _ _ _ _ [(x, zB .double [.double v9, .double v15, .double v21, .double v27]), (y, zB .int [.int 0, .int 0, .int 0, .int 0])] _ _ at Hs4_6
  obtain ⟨Ts4_7, Hs4_7, sts4_7⟩ := ze Hs4_6 hx hZ 1 0 rfl (by decide) (Nat.le_of_ble_eq_true rfl) (g := (mkF m 62 #[oi xa, oi xb, oi xc, oi xd, oa x, oa y, oi 0, ou, ou, ou] [(.int 1), (.int 0), (.ref y)])) rfl rfl (hb hby at_62)
  change zK _ _ _ _ _ _ _ _ _ _ _ _ _ _ [(x, zB .double [.double v9, .double v15, .double v21, .double v27]), (y, zB .int [.int 1, .int 0, .int 0, .int 0])] _ _ at Hs4_7
  have hp0 : ifCond.holds .le (cmpValue (FP.dcmp v9 (0 : UInt64)) .l) = true := by rw [← hv9, zY (zI xa) zX]; exact zo hb38
  have hp1 : ifCond.holds .le (cmpValue (FP.dcmp v15 (0 : UInt64)) .l) = false := by rw [← hv15, zY (zI xb) zX]; exact zn hb54
  have hp2 : ifCond.holds .le (cmpValue (FP.dcmp v21 (0 : UInt64)) .l) = true := by rw [← hv21, zY (zI xc) zX]; exact zo hb70
  have hp3 : ifCond.holds .le (cmpValue (FP.dcmp v27 (0 : UInt64)) .l) = true := by rw [← hv27, zY (zI xd) zX]; exact zo hb86
  obtain ⟨Ts4_8, vs4_8_, css4_8_, qs4_8, Hs4_8, sts4_8⟩ := zw Hs4_7 hx hZ hown (zO hw 2 rfl) (zO hw 3 rfl) (zO hw 4 rfl) (zO hw 5 rfl) (by decide) (argsL := [(.ref x)]) (rest := []) (W := 0) (own_q4 l Z a0 hb0 hw x y v9 v15 v21 v27 hp0 hp1 hp2 hp3) (by decide) (by decide) (by decide) (by decide) (g := (mkF m 103 #[oi xa, oi xb, oi xc, oi xd, oa x, oa y, oi 1, ou, ou, ou] [(.ref x)])) rfl (by rw [hml]; rfl) (lenOf zz rfl) rfl (by show 2 * 0 + _ ≤ _; exact Nat.le_of_eq rfl) (hb hby at_103)
  obtain ⟨z, rfl, rfl⟩ := qs4_8
  obtain ⟨v203, hv203⟩ : ∃ z : UInt64, (FP.i2d xa) = z := ⟨_, rfl⟩
  obtain ⟨v204, hv204⟩ : ∃ z : Int32, (cmpValue (FP.dcmp v9 v203) .l) = z := ⟨_, rfl⟩
  obtain ⟨v213, hv213⟩ : ∃ z : UInt64, (FP.i2d xb) = z := ⟨_, rfl⟩
  obtain ⟨v214, hv214⟩ : ∃ z : Int32, (cmpValue (FP.dcmp v15 v213) .l) = z := ⟨_, rfl⟩
  obtain ⟨v223, hv223⟩ : ∃ z : UInt64, (FP.i2d xc) = z := ⟨_, rfl⟩
  obtain ⟨v224, hv224⟩ : ∃ z : Int32, (cmpValue (FP.dcmp v21 v223) .l) = z := ⟨_, rfl⟩
  obtain ⟨v233, hv233⟩ : ∃ z : UInt64, (FP.i2d xd) = z := ⟨_, rfl⟩
  obtain ⟨v234, hv234⟩ : ∃ z : Int32, (cmpValue (FP.dcmp v27 v233) .l) = z := ⟨_, rfl⟩
  have hb205 : ifCond.holds .ne v204 = false := by rw [← hv204, ← hv203, ← hv9, zZ (zI xa) (zI xa)]; simp
  have hb215 : ifCond.holds .ne v214 = false := by rw [← hv214, ← hv213, ← hv15, zZ (zI xb) (zI xb)]; simp
  have hb225 : ifCond.holds .ne v224 = false := by rw [← hv224, ← hv223, ← hv21, zZ (zI xc) (zI xc)]; simp
  have hb235 : ifCond.holds .ne v234 = false := by rw [← hv234, ← hv233, ← hv27, zZ (zI xd) (zI xd)]; simp
  refine ⟨_, _, _, _, 260, #[oi xa, oi xb, oi xc, oi xd, oa x, oa y, oi 1, oa z, oi 1, oi 1], Hs4_8, by decide, by decide, Or.inr ⟨.boolean, (.int 1), [], .ireturn, rfl, rfl, at_260, zv (Or.inr rfl), fun target q => ?_⟩⟩
  refine zA H0 hx hZ hown hby hw zC (zAF xa xb xc xd) _ ?_
  refine sts4_1 _ ?_
  refine zA Hs4_1 hx hZ hown hby hw zC (zAG xa xb xc xd x v9 hv9) _ ?_
  refine sts4_2 _ ?_
  refine zA Hs4_2 hx hZ hown hby hw zC (zAH xa xb xc xd x v15 hv15) _ ?_
  refine sts4_3 _ ?_
  refine zA Hs4_3 hx hZ hown hby hw zC (zAI xa xb xc xd x v21 hv21) _ ?_
  refine sts4_4 _ ?_
  refine zA Hs4_4 hx hZ hown hby hw zC (zAJ xa xb xc xd x v27 hv27) _ ?_
  refine sts4_5 _ ?_
  refine zA Hs4_5 hx hZ hown hby hw zC (zAK xa xb xc xd x) _ ?_
  refine sts4_6 _ ?_
  refine zA Hs4_6 hx hZ hown hby hw zC (zBD xa xb xc xd x y hb38 hb54) _ ?_
  refine sts4_7 _ ?_
  refine zA Hs4_7 hx hZ hown hby hw zC (own_s4_7 xa xb xc xd x y hb70 hb86) _ ?_
  refine sts4_8 _ ?_
  refine zA Hs4_8 hx hZ hown hby hw zC (zAv xa xb xc xd x y z) _ ?_
  refine zP Hs4_8 hx hZ 2 rfl (z := (1 : Int32)) rfl (g := (mkF m 115 #[oi xa, oi xb, oi xc, oi xd, oa x, oa y, oi 1, oa z, ou, ou] [(.ref z)])) rfl rfl (hb hby at_115) _ ?_
  refine zA Hs4_8 hx hZ hown hby hw zC (zAw xa xb xc xd x y z) _ ?_
  refine zb Hs4_8 hx hZ 2 0 rfl (by decide) rfl (g := (mkF m 132 #[oi xa, oi xb, oi xc, oi xd, oa x, oa y, oi 1, oa z, ou, ou] [(.int 0), (.ref z)])) rfl rfl (hb hby at_132) _ ?_
  refine zA Hs4_8 hx hZ hown hby hw zC (own_s4_10 xa xb xc xd x y z) _ ?_
  refine zb Hs4_8 hx hZ 1 0 rfl (by decide) rfl (g := (mkF m 136 #[oi xa, oi xb, oi xc, oi xd, oa x, oa y, oi 1, oa z, ou, ou] [(.int 0), (.ref y), (.int 1)])) rfl rfl (hb hby at_136) _ ?_
  refine zA Hs4_8 hx hZ hown hby hw zC (own_s4_11 xa xb xc xd x y z) _ ?_
  refine zJ Hs4_8 hx hZ 0 0 rfl (by decide) rfl (g := (mkF m 201 #[oi xa, oi xb, oi xc, oi xd, oa x, oa y, oi 1, oa z, oi 1, ou] [(.int 0), (.ref x)])) rfl rfl (hb hby at_201) _ ?_
  refine zA Hs4_8 hx hZ hown hby hw zC (zAx xa xb xc xd x y z v9 v203 hv203 v204 hv204 hb205) _ ?_
  refine zJ Hs4_8 hx hZ 0 1 rfl (by decide) rfl (g := (mkF m 211 #[oi xa, oi xb, oi xc, oi xd, oa x, oa y, oi 1, oa z, oi 1, ou] [(.int 1), (.ref x)])) rfl rfl (hb hby at_211) _ ?_
  refine zA Hs4_8 hx hZ hown hby hw zC (zAy xa xb xc xd x y z v15 v213 hv213 v214 hv214 hb215) _ ?_
  refine zJ Hs4_8 hx hZ 0 2 rfl (by decide) rfl (g := (mkF m 221 #[oi xa, oi xb, oi xc, oi xd, oa x, oa y, oi 1, oa z, oi 1, ou] [(.int 2), (.ref x)])) rfl rfl (hb hby at_221) _ ?_
  refine zA Hs4_8 hx hZ hown hby hw zC (zAz xa xb xc xd x y z v21 v223 hv223 v224 hv224 hb225) _ ?_
  refine zJ Hs4_8 hx hZ 0 3 rfl (by decide) rfl (g := (mkF m 231 #[oi xa, oi xb, oi xc, oi xd, oa x, oa y, oi 1, oa z, oi 1, ou] [(.int 3), (.ref x)])) rfl rfl (hb hby at_231) _ ?_
  refine zA Hs4_8 hx hZ hown hby hw zC (zBA xa xb xc xd x y z v27 v233 hv233 v234 hv234 hb235) _ ?_
  exact q
theorem own_p5_10 (x : Addr) (z : Addr) (dd : UInt64) (db : UInt64) (v64' : Int32) (hv64' : (cmpValue (FP.dcmp db (0 : UInt64)) .l) = v64') (hb65_1 : ifCond.holds .le v64' = false) :
    zE zM ok0 63 #[oa x, oi 2, oa z, oi 0, oi 1, .val (.double dd), .second] [(.double db)] 75 #[oa x, oi 2, oa z, oi 1, oi 1, .val (.double dd), .second] [(.int 1), (.int 0), (.ref z)] := by
  refine zf (v := 0) (pc2 := 64) d1_63 rfl rfl ?_
  refine zT (pc2 := 65) d1_64 rfl (v := v64') hv64' ?_
  refine zW (pc2 := 68) d1_65 rfl hb65_1 ?_
  refine zN (pc2 := 69) d1_68 rfl rfl rfl ?_
  refine zL (pc2 := 70) d1_69 rfl rfl ?_
  refine zU (pc2 := 73) d1_70 rfl rfl (v := (1 : Int32)) (by decide) (L' := #[oa x, oi 2, oa z, oi 1, oi 1, .val (.double dd), .second]) rfl ?_
  refine zG (pc2 := 75) d1_73 rfl rfl ?_
  exact zF
theorem own_p5_11 (x : Addr) (z : Addr) (dd : UInt64) :
    zE zM ok0 76 #[oa x, oi 2, oa z, oi 1, oi 1, .val (.double dd), .second] [] 55 #[oa x, oi 2, oa z, oi 1, oi 2, .val (.double dd), .second] [(.ref x), (.int 2)] := by
  refine zU (pc2 := 79) d1_76 rfl rfl (v := (2 : Int32)) (by decide) (L' := #[oa x, oi 2, oa z, oi 1, oi 2, .val (.double dd), .second]) rfl ?_
  refine zS (pc' := 52) d1_79 (by decide) (by decide) ?_
  refine zG (pc2 := 54) d1_52 rfl rfl ?_
  refine zN (pc2 := 55) d1_54 rfl rfl rfl ?_
  exact zF
theorem zBE (x : Addr) (z : Addr) (dd : UInt64) :
    zE zM ok0 56 #[oa x, oi 2, oa z, oi 1, oi 2, .val (.double dd), .second] [(.int 4), (.int 2)] 62 #[oa x, oi 2, oa z, oi 1, oi 2, .val (.double dd), .second] [(.int 2), (.ref x)] := by
  refine zV (pc2 := 59) d1_56 rfl (by decide) ?_
  refine zN (pc2 := 60) d1_59 rfl rfl rfl ?_
  refine zG (pc2 := 62) d1_60 rfl rfl ?_
  exact zF
theorem own_p5_13 (x : Addr) (z : Addr) (dd : UInt64) (dc : UInt64) (v64'' : Int32) (hv64'' : (cmpValue (FP.dcmp dc (0 : UInt64)) .l) = v64'') (hb65_2 : ifCond.holds .le v64'' = true) :
    zE zM ok0 63 #[oa x, oi 2, oa z, oi 1, oi 2, .val (.double dd), .second] [(.double dc)] 55 #[oa x, oi 2, oa z, oi 1, oi 3, .val (.double dd), .second] [(.ref x), (.int 3)] := by
  refine zf (v := 0) (pc2 := 64) d1_63 rfl rfl ?_
  refine zT (pc2 := 65) d1_64 rfl (v := v64'') hv64'' ?_
  refine zg (pc' := 76) d1_65 hb65_2 (by decide) (by decide) ?_
  refine zU (pc2 := 79) d1_76 rfl rfl (v := (3 : Int32)) (by decide) (L' := #[oa x, oi 2, oa z, oi 1, oi 3, .val (.double dd), .second]) rfl ?_
  refine zS (pc' := 52) d1_79 (by decide) (by decide) ?_
  refine zG (pc2 := 54) d1_52 rfl rfl ?_
  refine zN (pc2 := 55) d1_54 rfl rfl rfl ?_
  exact zF
set_option maxRecDepth 65536 in
set_option maxHeartbeats 4000000 in
theorem own_q5 (l : Launch) (Z : State) (a0 : Array Value) (hb0 : Heap) (hw : ∀ d ∈ tables_1, d.before a0 Z = true) (x : Addr) (y : Addr) (da db dc dd : UInt64) (hp0 : ifCond.holds .le (cmpValue (FP.dcmp da (0 : UInt64)) .l) = true) (hp1 : ifCond.holds .le (cmpValue (FP.dcmp db (0 : UInt64)) .l) = false) (hp2 : ifCond.holds .le (cmpValue (FP.dcmp dc (0 : UInt64)) .l) = true) (hp3 : ifCond.holds .le (cmpValue (FP.dcmp dd (0 : UInt64)) .l) = false) :
    zl l Z a0 hb0 (⟨"com/example/tangentia/tangentia/flash/StabilityTest", "presentComponents", "([D)[I"⟩ : MethodName) ok0 7 (some (.array .int)) [] ({ frames := 0, cells := 1, slots := 2, locals := 0 } : Room) #[(.ref x)] [(x, zB .double [.double da, .double db, .double dc, .double dd]), (y, zB .int [.int 1, .int 3, .int 0, .int 0])] (fun r cs' => ∃ z, r = some (.ref z) ∧ cs' = [(x, zB .double [.double da, .double db, .double dc, .double dd]), (y, zB .int [.int 1, .int 3, .int 0, .int 0]), (z, zB .int [.int 1, .int 3])]) := by
  refine zm (L0 := #[oa x, ou, ou, ou, ou, ou, ou]) (plainFor_of_name zy) (fun m => zAA m x) ?_
  intro p e s m below meth c T0 hx hZ hown hby hml hnm H0
  obtain ⟨v26, hv26⟩ : ∃ z : Int32, (cmpValue (FP.dcmp da (0 : UInt64)) .l) = z := ⟨_, rfl⟩
  obtain ⟨v26', hv26'⟩ : ∃ z : Int32, (cmpValue (FP.dcmp db (0 : UInt64)) .l) = z := ⟨_, rfl⟩
  obtain ⟨v26'', hv26''⟩ : ∃ z : Int32, (cmpValue (FP.dcmp dc (0 : UInt64)) .l) = z := ⟨_, rfl⟩
  obtain ⟨v26''', hv26'''⟩ : ∃ z : Int32, (cmpValue (FP.dcmp dd (0 : UInt64)) .l) = z := ⟨_, rfl⟩
  obtain ⟨Tp5_6, z, Hp5_6, stp5_6⟩ := zh H0 hx hZ (zO hw 1 rfl) (g := (mkF m 44 #[oa x, oi 2, oa x, oi 4, oi 4, .val (.double dd), .second] [(.int 2)])) rfl (hb hby d1_44) rfl (by decide) (cap := 2) (by decide) (by decide) (by decide) (by decide)
  change zK _ _ _ _ _ _ _ _ _ _ _ _ _ _ [(x, zB .double [.double da, .double db, .double dc, .double dd]), (y, zB .int [.int 1, .int 3, .int 0, .int 0]), (z, zB .int [.int 0, .int 0])] _ _ at Hp5_6
  obtain ⟨v64, hv64⟩ : ∃ z : Int32, (cmpValue (FP.dcmp da (0 : UInt64)) .l) = z := ⟨_, rfl⟩
  obtain ⟨v64', hv64'⟩ : ∃ z : Int32, (cmpValue (FP.dcmp db (0 : UInt64)) .l) = z := ⟨_, rfl⟩
  obtain ⟨Tp5_11, Hp5_11, stp5_11⟩ := ze Hp5_6 hx hZ 2 0 rfl (by decide) (Nat.le_of_ble_eq_true rfl) (g := (mkF m 75 #[oa x, oi 2, oa z, oi 1, oi 1, .val (.double dd), .second] [(.int 1), (.int 0), (.ref z)])) rfl rfl (hb hby d1_75)
  change zK _ _ _ _ _ _ _ _ _ _ _ _ _ _ [(x, zB .double [.double da, .double db, .double dc, .double dd]), (y, zB .int [.int 1, .int 3, .int 0, .int 0]), (z, zB .int [.int 1, .int 0])] _ _ at Hp5_11
  obtain ⟨v64'', hv64''⟩ : ∃ z : Int32, (cmpValue (FP.dcmp dc (0 : UInt64)) .l) = z := ⟨_, rfl⟩
  obtain ⟨v64''', hv64'''⟩ : ∃ z : Int32, (cmpValue (FP.dcmp dd (0 : UInt64)) .l) = z := ⟨_, rfl⟩
  obtain ⟨Tp5_16, Hp5_16, stp5_16⟩ := ze Hp5_11 hx hZ 2 1 rfl (by decide) (Nat.le_of_ble_eq_true rfl) (g := (mkF m 75 #[oa x, oi 2, oa z, oi 2, oi 3, .val (.double dd), .second] [(.int 3), (.int 1), (.ref z)])) rfl rfl (hb hby d1_75)
  change zK _ _ _ _ _ _ _ _ _ _ _ _ _ _ [(x, zB .double [.double da, .double db, .double dc, .double dd]), (y, zB .int [.int 1, .int 3, .int 0, .int 0]), (z, zB .int [.int 1, .int 3])] _ _ at Hp5_16
  have hb27_0 : ifCond.holds .le v26 = true := by rw [← hv26]; exact hp0
  have hb27_1 : ifCond.holds .le v26' = false := by rw [← hv26']; exact hp1
  have hb27_2 : ifCond.holds .le v26'' = true := by rw [← hv26'']; exact hp2
  have hb27_3 : ifCond.holds .le v26''' = false := by rw [← hv26''']; exact hp3
  have hb65_0 : ifCond.holds .le v64 = true := by rw [← hv64]; exact hp0
  have hb65_1 : ifCond.holds .le v64' = false := by rw [← hv64']; exact hp1
  have hb65_2 : ifCond.holds .le v64'' = true := by rw [← hv64'']; exact hp2
  have hb65_3 : ifCond.holds .le v64''' = false := by rw [← hv64''']; exact hp3
  refine ⟨_, _, _, _, 83, #[oa x, oi 2, oa z, oi 2, oi 4, .val (.double dd), .second], Hp5_16, by decide, by decide, Or.inr ⟨(.array .int), (.ref z), [], .areturn, rfl, ⟨z, rfl, rfl⟩, d1_83, zAC _, fun target q => ?_⟩⟩
  refine zA H0 hx hZ hown hby hw zD (zAD x) _ ?_
  refine zP H0 hx hZ 0 rfl (z := (4 : Int32)) rfl (g := (mkF m 5 #[oa x, oi 0, oa x, ou, ou, ou, ou] [(.ref x)])) rfl rfl (hb hby d1_5) _ ?_
  refine zA H0 hx hZ hown hby hw zD (zAE x) _ ?_
  refine zJ H0 hx hZ 0 0 rfl (by decide) rfl (g := (mkF m 19 #[oa x, oi 0, oa x, oi 4, oi 0, ou, ou] [(.int 0), (.ref x)])) rfl rfl (hb hby d1_19) _ ?_
  refine zA H0 hx hZ hown hby hw zD (zAQ x da v26 hv26 hb27_0) _ ?_
  refine zJ H0 hx hZ 0 1 rfl (by decide) rfl (g := (mkF m 19 #[oa x, oi 0, oa x, oi 4, oi 1, .val (.double da), .second] [(.int 1), (.ref x)])) rfl rfl (hb hby d1_19) _ ?_
  refine zA H0 hx hZ hown hby hw zD (zBB x da db v26' hv26' hb27_1) _ ?_
  refine zJ H0 hx hZ 0 2 rfl (by decide) rfl (g := (mkF m 19 #[oa x, oi 1, oa x, oi 4, oi 2, .val (.double db), .second] [(.int 2), (.ref x)])) rfl rfl (hb hby d1_19) _ ?_
  refine zA H0 hx hZ hown hby hw zD (zBC x db dc v26'' hv26'' hb27_2) _ ?_
  refine zJ H0 hx hZ 0 3 rfl (by decide) rfl (g := (mkF m 19 #[oa x, oi 1, oa x, oi 4, oi 3, .val (.double dc), .second] [(.int 3), (.ref x)])) rfl rfl (hb hby d1_19) _ ?_
  refine zA H0 hx hZ hown hby hw zD (zBe x dc dd v26''' hv26''' hb27_3) _ ?_
  refine stp5_6 _ ?_
  refine zA Hp5_6 hx hZ hown hby hw zD (zAX x dd z) _ ?_
  refine zP Hp5_6 hx hZ 0 rfl (z := (4 : Int32)) rfl (g := (mkF m 55 #[oa x, oi 2, oa z, oi 0, oi 0, .val (.double dd), .second] [(.ref x), (.int 0)])) rfl rfl (hb hby d1_55) _ ?_
  refine zA Hp5_6 hx hZ hown hby hw zD (zAY x z dd) _ ?_
  refine zJ Hp5_6 hx hZ 0 0 rfl (by decide) rfl (g := (mkF m 62 #[oa x, oi 2, oa z, oi 0, oi 0, .val (.double dd), .second] [(.int 0), (.ref x)])) rfl rfl (hb hby d1_62) _ ?_
  refine zA Hp5_6 hx hZ hown hby hw zD (zBf x z dd da v64 hv64 hb65_0) _ ?_
  refine zP Hp5_6 hx hZ 0 rfl (z := (4 : Int32)) rfl (g := (mkF m 55 #[oa x, oi 2, oa z, oi 0, oi 1, .val (.double dd), .second] [(.ref x), (.int 1)])) rfl rfl (hb hby d1_55) _ ?_
  refine zA Hp5_6 hx hZ hown hby hw zD (zBg x z dd) _ ?_
  refine zJ Hp5_6 hx hZ 0 1 rfl (by decide) rfl (g := (mkF m 62 #[oa x, oi 2, oa z, oi 0, oi 1, .val (.double dd), .second] [(.int 1), (.ref x)])) rfl rfl (hb hby d1_62) _ ?_
  refine zA Hp5_6 hx hZ hown hby hw zD (own_p5_10 x z dd db v64' hv64' hb65_1) _ ?_
  refine stp5_11 _ ?_
  refine zA Hp5_11 hx hZ hown hby hw zD (own_p5_11 x z dd) _ ?_
  refine zP Hp5_11 hx hZ 0 rfl (z := (4 : Int32)) rfl (g := (mkF m 55 #[oa x, oi 2, oa z, oi 1, oi 2, .val (.double dd), .second] [(.ref x), (.int 2)])) rfl rfl (hb hby d1_55) _ ?_
  refine zA Hp5_11 hx hZ hown hby hw zD (zBE x z dd) _ ?_
  refine zJ Hp5_11 hx hZ 0 2 rfl (by decide) rfl (g := (mkF m 62 #[oa x, oi 2, oa z, oi 1, oi 2, .val (.double dd), .second] [(.int 2), (.ref x)])) rfl rfl (hb hby d1_62) _ ?_
  refine zA Hp5_11 hx hZ hown hby hw zD (own_p5_13 x z dd dc v64'' hv64'' hb65_2) _ ?_
  refine zP Hp5_11 hx hZ 0 rfl (z := (4 : Int32)) rfl (g := (mkF m 55 #[oa x, oi 2, oa z, oi 1, oi 3, .val (.double dd), .second] [(.ref x), (.int 3)])) rfl rfl (hb hby d1_55) _ ?_
  refine zA Hp5_11 hx hZ hown hby hw zD (zBh x z dd) _ ?_
  refine zJ Hp5_11 hx hZ 0 3 rfl (by decide) rfl (g := (mkF m 62 #[oa x, oi 2, oa z, oi 1, oi 3, .val (.double dd), .second] [(.int 3), (.ref x)])) rfl rfl (hb hby d1_62) _ ?_
  refine zA Hp5_11 hx hZ hown hby hw zD (zBi x z dd v64''' hv64''' hb65_3) _ ?_
  refine stp5_16 _ ?_
  refine zA Hp5_16 hx hZ hown hby hw zD (zBj x z dd) _ ?_
  refine zP Hp5_16 hx hZ 0 rfl (z := (4 : Int32)) rfl (g := (mkF m 55 #[oa x, oi 2, oa z, oi 2, oi 4, .val (.double dd), .second] [(.ref x), (.int 4)])) rfl rfl (hb hby d1_55) _ ?_
  refine zA Hp5_16 hx hZ hown hby hw zD (zAZ x z dd) _ ?_
  exact q
theorem own_s5_7 (xa : Int32) (xb : Int32) (xc : Int32) (xd : Int32) (x : Addr) (y : Addr) (hb70 : ifCond.holds .le xc = true) (hb86 : ifCond.holds .le xd = false) :
    zE zQ code 63 #[oi xa, oi xb, oi xc, oi xd, oa x, oa y, oi 0, ou, ou, ou] [] 94 #[oi xa, oi xb, oi xc, oi xd, oa x, oa y, oi 1, ou, ou, ou] [(.int 3), (.int 1), (.ref y)] := by
  refine zG (pc2 := 65) at_63 rfl rfl ?_
  refine zH (v := 1) (pc2 := 66) at_65 rfl rfl ?_
  refine zk (pc2 := 67) at_66 rfl (v := (1 : Int32)) (by decide) ?_
  refine zi (pc2 := 69) at_67 rfl (L' := #[oi xa, oi xb, oi xc, oi xd, oa x, oa y, oi 1, ou, ou, ou]) rfl ?_
  refine zL (pc2 := 70) at_69 rfl rfl ?_
  refine zg (pc' := 85) at_70 hb70 (by decide) (by decide) ?_
  refine zL (pc2 := 86) at_85 rfl rfl ?_
  refine zW (pc2 := 89) at_86 rfl hb86 ?_
  refine zR (pc2 := 91) at_89 rfl rfl rfl ?_
  refine zG (pc2 := 93) at_91 rfl rfl ?_
  refine zH (v := 3) (pc2 := 94) at_93 rfl rfl ?_
  exact zF
theorem own_s5_11 (xa : Int32) (xb : Int32) (xc : Int32) (xd : Int32) (x : Addr) (y : Addr) (z : Addr) :
    zE zQ code 133 #[oi xa, oi xb, oi xc, oi xd, oa x, oa y, oi 2, oa z, ou, ou] [(.int 1)] 136 #[oi xa, oi xb, oi xc, oi xd, oa x, oa y, oi 2, oa z, ou, ou] [(.int 0), (.ref y), (.int 1)] := by
  refine zR (pc2 := 135) at_133 rfl rfl rfl ?_
  refine zH (v := 0) (pc2 := 136) at_135 rfl rfl ?_
  exact zF
theorem own_s5_12 (xa : Int32) (xb : Int32) (xc : Int32) (xd : Int32) (x : Addr) (y : Addr) (z : Addr) :
    zE zQ code 137 #[oi xa, oi xb, oi xc, oi xd, oa x, oa y, oi 2, oa z, ou, ou] [(.int 1), (.int 1)] 149 #[oi xa, oi xb, oi xc, oi xd, oa x, oa y, oi 2, oa z, ou, ou] [(.int 1), (.ref z)] := by
  refine zV (pc2 := 140) at_137 rfl (by decide) ?_
  refine zG (pc2 := 142) at_140 rfl rfl ?_
  refine zH (v := 2) (pc2 := 143) at_142 rfl rfl ?_
  refine zV (pc2 := 146) at_143 rfl (by decide) ?_
  refine zR (pc2 := 148) at_146 rfl rfl rfl ?_
  refine zH (v := 1) (pc2 := 149) at_148 rfl rfl ?_
  exact zF
set_option maxRecDepth 65536 in
set_option maxHeartbeats 40000000 in
theorem own_law5 (l : Launch) (Z : State) (a0 : Array Value) (hb0 : Heap) (hw : ∀ d ∈ tables_1, d.before a0 Z = true) (xa : Int32) (xb : Int32) (xc : Int32) (xd : Int32) (hb38 : ifCond.holds .le xa = true) (hb54 : ifCond.holds .le xb = false) (hb70 : ifCond.holds .le xc = true) (hb86 : ifCond.holds .le xd = false) :
    zl l Z a0 hb0 x code maxLocals ret tables_1 room_1 #[(.int xa), (.int xb), (.int xc), (.int xd)] [] (fun v _ => v = some (.int 1)) := by
  refine zm (L0 := #[oi xa, oi xb, oi xc, oi xd, ou, ou, ou, ou, ou, ou]) (plainFor_of_name zx) (fun m => zAB m xa xb xc xd) ?_
  intro p e s m below meth c T0 hx hZ hown hby hml hnm H0
  have hown : s.vm.findClass "com/example/tangentia/tangentia/flash/StabilityTestPresentComponentsPinLaw" = some m.cls := hown
  have hml : c.maxLocals = 10 := hml
  obtain ⟨Ts5_1, x, Hs5_1, sts5_1⟩ := zh H0 hx hZ (zO hw 0 rfl) (g := (mkF m 1 #[oi xa, oi xb, oi xc, oi xd, ou, ou, ou, ou, ou, ou] [(.int 4)])) rfl (hb hby at_1) rfl (by decide) (cap := 4) (by decide) (by decide) (by decide) (by decide)
  change zK _ _ _ _ _ _ _ _ _ _ _ _ _ _ [(x, zB .double [.double 0, .double 0, .double 0, .double 0])] _ _ at Hs5_1
  obtain ⟨v9, hv9⟩ : ∃ z : UInt64, (FP.i2d xa) = z := ⟨_, rfl⟩
  obtain ⟨Ts5_2, Hs5_2, sts5_2⟩ := zd Hs5_1 hx hZ 0 0 rfl (by decide) (Nat.le_of_ble_eq_true rfl) (g := (mkF m 10 #[oi xa, oi xb, oi xc, oi xd, oa x, ou, ou, ou, ou, ou] [(.double v9), (.int 0), (.ref x)])) rfl rfl (hb hby at_10)
  change zK _ _ _ _ _ _ _ _ _ _ _ _ _ _ [(x, zB .double [.double v9, .double 0, .double 0, .double 0])] _ _ at Hs5_2
  obtain ⟨v15, hv15⟩ : ∃ z : UInt64, (FP.i2d xb) = z := ⟨_, rfl⟩
  obtain ⟨Ts5_3, Hs5_3, sts5_3⟩ := zd Hs5_2 hx hZ 0 1 rfl (by decide) (Nat.le_of_ble_eq_true rfl) (g := (mkF m 16 #[oi xa, oi xb, oi xc, oi xd, oa x, ou, ou, ou, ou, ou] [(.double v15), (.int 1), (.ref x)])) rfl rfl (hb hby at_16)
  change zK _ _ _ _ _ _ _ _ _ _ _ _ _ _ [(x, zB .double [.double v9, .double v15, .double 0, .double 0])] _ _ at Hs5_3
  obtain ⟨v21, hv21⟩ : ∃ z : UInt64, (FP.i2d xc) = z := ⟨_, rfl⟩
  obtain ⟨Ts5_4, Hs5_4, sts5_4⟩ := zd Hs5_3 hx hZ 0 2 rfl (by decide) (Nat.le_of_ble_eq_true rfl) (g := (mkF m 22 #[oi xa, oi xb, oi xc, oi xd, oa x, ou, ou, ou, ou, ou] [(.double v21), (.int 2), (.ref x)])) rfl rfl (hb hby at_22)
  change zK _ _ _ _ _ _ _ _ _ _ _ _ _ _ [(x, zB .double [.double v9, .double v15, .double v21, .double 0])] _ _ at Hs5_4
  obtain ⟨v27, hv27⟩ : ∃ z : UInt64, (FP.i2d xd) = z := ⟨_, rfl⟩
  obtain ⟨Ts5_5, Hs5_5, sts5_5⟩ := zd Hs5_4 hx hZ 0 3 rfl (by decide) (Nat.le_of_ble_eq_true rfl) (g := (mkF m 28 #[oi xa, oi xb, oi xc, oi xd, oa x, ou, ou, ou, ou, ou] [(.double v27), (.int 3), (.ref x)])) rfl rfl (hb hby at_28)
  change zK _ _ _ _ _ _ _ _ _ _ _ _ _ _ [(x, zB .double [.double v9, .double v15, .double v21, .double v27])] _ _ at Hs5_5
  obtain ⟨Ts5_6, y, Hs5_6, sts5_6⟩ := zh Hs5_5 hx hZ (zO hw 1 rfl) (g := (mkF m 30 #[oi xa, oi xb, oi xc, oi xd, oa x, ou, ou, ou, ou, ou] [(.int 4)])) rfl (hb hby at_30) rfl (by decide) (cap := 4) (by decide) (by decide) (by decide) (by decide)
  change zK _ _ _ _ _ _ _ _ _ _ _ _ _ _ [(x, zB .double [.double v9, .double v15, .double v21, .double v27]), (y, zB .int [.int 0, .int 0, .int 0, .int 0])] _ _ at Hs5_6
  obtain ⟨Ts5_7, Hs5_7, sts5_7⟩ := ze Hs5_6 hx hZ 1 0 rfl (by decide) (Nat.le_of_ble_eq_true rfl) (g := (mkF m 62 #[oi xa, oi xb, oi xc, oi xd, oa x, oa y, oi 0, ou, ou, ou] [(.int 1), (.int 0), (.ref y)])) rfl rfl (hb hby at_62)
  change zK _ _ _ _ _ _ _ _ _ _ _ _ _ _ [(x, zB .double [.double v9, .double v15, .double v21, .double v27]), (y, zB .int [.int 1, .int 0, .int 0, .int 0])] _ _ at Hs5_7
  obtain ⟨Ts5_8, Hs5_8, sts5_8⟩ := ze Hs5_7 hx hZ 1 1 rfl (by decide) (Nat.le_of_ble_eq_true rfl) (g := (mkF m 94 #[oi xa, oi xb, oi xc, oi xd, oa x, oa y, oi 1, ou, ou, ou] [(.int 3), (.int 1), (.ref y)])) rfl rfl (hb hby at_94)
  change zK _ _ _ _ _ _ _ _ _ _ _ _ _ _ [(x, zB .double [.double v9, .double v15, .double v21, .double v27]), (y, zB .int [.int 1, .int 3, .int 0, .int 0])] _ _ at Hs5_8
  have hp0 : ifCond.holds .le (cmpValue (FP.dcmp v9 (0 : UInt64)) .l) = true := by rw [← hv9, zY (zI xa) zX]; exact zo hb38
  have hp1 : ifCond.holds .le (cmpValue (FP.dcmp v15 (0 : UInt64)) .l) = false := by rw [← hv15, zY (zI xb) zX]; exact zn hb54
  have hp2 : ifCond.holds .le (cmpValue (FP.dcmp v21 (0 : UInt64)) .l) = true := by rw [← hv21, zY (zI xc) zX]; exact zo hb70
  have hp3 : ifCond.holds .le (cmpValue (FP.dcmp v27 (0 : UInt64)) .l) = false := by rw [← hv27, zY (zI xd) zX]; exact zn hb86
  obtain ⟨Ts5_9, vs5_9_, css5_9_, qs5_9, Hs5_9, sts5_9⟩ := zw Hs5_8 hx hZ hown (zO hw 2 rfl) (zO hw 3 rfl) (zO hw 4 rfl) (zO hw 5 rfl) (by decide) (argsL := [(.ref x)]) (rest := []) (W := 0) (own_q5 l Z a0 hb0 hw x y v9 v15 v21 v27 hp0 hp1 hp2 hp3) (by decide) (by decide) (by decide) (by decide) (g := (mkF m 103 #[oi xa, oi xb, oi xc, oi xd, oa x, oa y, oi 2, ou, ou, ou] [(.ref x)])) rfl (by rw [hml]; rfl) (lenOf zz rfl) rfl (by show 2 * 0 + _ ≤ _; exact Nat.le_of_eq rfl) (hb hby at_103)
  obtain ⟨z, rfl, rfl⟩ := qs5_9
  obtain ⟨v203, hv203⟩ : ∃ z : UInt64, (FP.i2d xa) = z := ⟨_, rfl⟩
  obtain ⟨v204, hv204⟩ : ∃ z : Int32, (cmpValue (FP.dcmp v9 v203) .l) = z := ⟨_, rfl⟩
  obtain ⟨v213, hv213⟩ : ∃ z : UInt64, (FP.i2d xb) = z := ⟨_, rfl⟩
  obtain ⟨v214, hv214⟩ : ∃ z : Int32, (cmpValue (FP.dcmp v15 v213) .l) = z := ⟨_, rfl⟩
  obtain ⟨v223, hv223⟩ : ∃ z : UInt64, (FP.i2d xc) = z := ⟨_, rfl⟩
  obtain ⟨v224, hv224⟩ : ∃ z : Int32, (cmpValue (FP.dcmp v21 v223) .l) = z := ⟨_, rfl⟩
  obtain ⟨v233, hv233⟩ : ∃ z : UInt64, (FP.i2d xd) = z := ⟨_, rfl⟩
  obtain ⟨v234, hv234⟩ : ∃ z : Int32, (cmpValue (FP.dcmp v27 v233) .l) = z := ⟨_, rfl⟩
  have hb205 : ifCond.holds .ne v204 = false := by rw [← hv204, ← hv203, ← hv9, zZ (zI xa) (zI xa)]; simp
  have hb215 : ifCond.holds .ne v214 = false := by rw [← hv214, ← hv213, ← hv15, zZ (zI xb) (zI xb)]; simp
  have hb225 : ifCond.holds .ne v224 = false := by rw [← hv224, ← hv223, ← hv21, zZ (zI xc) (zI xc)]; simp
  have hb235 : ifCond.holds .ne v234 = false := by rw [← hv234, ← hv233, ← hv27, zZ (zI xd) (zI xd)]; simp
  refine ⟨_, _, _, _, 260, #[oi xa, oi xb, oi xc, oi xd, oa x, oa y, oi 2, oa z, oi 1, oi 1], Hs5_9, by decide, by decide, Or.inr ⟨.boolean, (.int 1), [], .ireturn, rfl, rfl, at_260, zv (Or.inr rfl), fun target q => ?_⟩⟩
  refine zA H0 hx hZ hown hby hw zC (zAF xa xb xc xd) _ ?_
  refine sts5_1 _ ?_
  refine zA Hs5_1 hx hZ hown hby hw zC (zAG xa xb xc xd x v9 hv9) _ ?_
  refine sts5_2 _ ?_
  refine zA Hs5_2 hx hZ hown hby hw zC (zAH xa xb xc xd x v15 hv15) _ ?_
  refine sts5_3 _ ?_
  refine zA Hs5_3 hx hZ hown hby hw zC (zAI xa xb xc xd x v21 hv21) _ ?_
  refine sts5_4 _ ?_
  refine zA Hs5_4 hx hZ hown hby hw zC (zAJ xa xb xc xd x v27 hv27) _ ?_
  refine sts5_5 _ ?_
  refine zA Hs5_5 hx hZ hown hby hw zC (zAK xa xb xc xd x) _ ?_
  refine sts5_6 _ ?_
  refine zA Hs5_6 hx hZ hown hby hw zC (zBD xa xb xc xd x y hb38 hb54) _ ?_
  refine sts5_7 _ ?_
  refine zA Hs5_7 hx hZ hown hby hw zC (own_s5_7 xa xb xc xd x y hb70 hb86) _ ?_
  refine sts5_8 _ ?_
  refine zA Hs5_8 hx hZ hown hby hw zC (zBk xa xb xc xd x y) _ ?_
  refine sts5_9 _ ?_
  refine zA Hs5_9 hx hZ hown hby hw zC (zAa xa xb xc xd x y z) _ ?_
  refine zP Hs5_9 hx hZ 2 rfl (z := (2 : Int32)) rfl (g := (mkF m 115 #[oi xa, oi xb, oi xc, oi xd, oa x, oa y, oi 2, oa z, ou, ou] [(.ref z)])) rfl rfl (hb hby at_115) _ ?_
  refine zA Hs5_9 hx hZ hown hby hw zC (zAb xa xb xc xd x y z) _ ?_
  refine zb Hs5_9 hx hZ 2 0 rfl (by decide) rfl (g := (mkF m 132 #[oi xa, oi xb, oi xc, oi xd, oa x, oa y, oi 2, oa z, ou, ou] [(.int 0), (.ref z)])) rfl rfl (hb hby at_132) _ ?_
  refine zA Hs5_9 hx hZ hown hby hw zC (own_s5_11 xa xb xc xd x y z) _ ?_
  refine zb Hs5_9 hx hZ 1 0 rfl (by decide) rfl (g := (mkF m 136 #[oi xa, oi xb, oi xc, oi xd, oa x, oa y, oi 2, oa z, ou, ou] [(.int 0), (.ref y), (.int 1)])) rfl rfl (hb hby at_136) _ ?_
  refine zA Hs5_9 hx hZ hown hby hw zC (own_s5_12 xa xb xc xd x y z) _ ?_
  refine zb Hs5_9 hx hZ 2 1 rfl (by decide) rfl (g := (mkF m 149 #[oi xa, oi xb, oi xc, oi xd, oa x, oa y, oi 2, oa z, ou, ou] [(.int 1), (.ref z)])) rfl rfl (hb hby at_149) _ ?_
  refine zA Hs5_9 hx hZ hown hby hw zC (zBl xa xb xc xd x y z) _ ?_
  refine zb Hs5_9 hx hZ 1 1 rfl (by decide) rfl (g := (mkF m 153 #[oi xa, oi xb, oi xc, oi xd, oa x, oa y, oi 2, oa z, ou, ou] [(.int 1), (.ref y), (.int 3)])) rfl rfl (hb hby at_153) _ ?_
  refine zA Hs5_9 hx hZ hown hby hw zC (zBm xa xb xc xd x y z) _ ?_
  refine zJ Hs5_9 hx hZ 0 0 rfl (by decide) rfl (g := (mkF m 201 #[oi xa, oi xb, oi xc, oi xd, oa x, oa y, oi 2, oa z, oi 1, ou] [(.int 0), (.ref x)])) rfl rfl (hb hby at_201) _ ?_
  refine zA Hs5_9 hx hZ hown hby hw zC (zAc xa xb xc xd x y z v9 v203 hv203 v204 hv204 hb205) _ ?_
  refine zJ Hs5_9 hx hZ 0 1 rfl (by decide) rfl (g := (mkF m 211 #[oi xa, oi xb, oi xc, oi xd, oa x, oa y, oi 2, oa z, oi 1, ou] [(.int 1), (.ref x)])) rfl rfl (hb hby at_211) _ ?_
  refine zA Hs5_9 hx hZ hown hby hw zC (zAd xa xb xc xd x y z v15 v213 hv213 v214 hv214 hb215) _ ?_
  refine zJ Hs5_9 hx hZ 0 2 rfl (by decide) rfl (g := (mkF m 221 #[oi xa, oi xb, oi xc, oi xd, oa x, oa y, oi 2, oa z, oi 1, ou] [(.int 2), (.ref x)])) rfl rfl (hb hby at_221) _ ?_
  refine zA Hs5_9 hx hZ hown hby hw zC (zAe xa xb xc xd x y z v21 v223 hv223 v224 hv224 hb225) _ ?_
  refine zJ Hs5_9 hx hZ 0 3 rfl (by decide) rfl (g := (mkF m 231 #[oi xa, oi xb, oi xc, oi xd, oa x, oa y, oi 2, oa z, oi 1, ou] [(.int 3), (.ref x)])) rfl rfl (hb hby at_231) _ ?_
  refine zA Hs5_9 hx hZ hown hby hw zC (zAf xa xb xc xd x y z v27 v233 hv233 v234 hv234 hb235) _ ?_
  exact q
theorem zBF (x : Addr) (db : UInt64) (dc : UInt64) (v26'' : Int32) (hv26'' : (cmpValue (FP.dcmp dc (0 : UInt64)) .l) = v26'') (hb27_2 : ifCond.holds .le v26'' = false) :
    zE zM ok0 20 #[oa x, oi 1, oa x, oi 4, oi 2, .val (.double db), .second] [(.double dc)] 19 #[oa x, oi 2, oa x, oi 4, oi 3, .val (.double dc), .second] [(.int 3), (.ref x)] := by
  refine zt (pc2 := 22) d1_20 rfl (L' := #[oa x, oi 1, oa x, oi 4, oi 2, .val (.double dc), .second]) rfl ?_
  refine zL (pc2 := 23) d1_22 rfl rfl ?_
  refine zs (pc2 := 25) d1_23 rfl rfl ?_
  refine zf (v := 0) (pc2 := 26) d1_25 rfl rfl ?_
  refine zT (pc2 := 27) d1_26 rfl (v := v26'') hv26'' ?_
  refine zW (pc2 := 30) d1_27 rfl hb27_2 ?_
  refine zH (v := 1) (pc2 := 31) d1_30 rfl rfl ?_
  refine zS (pc' := 35) d1_31 (by decide) (by decide) ?_
  refine zk (pc2 := 36) d1_35 rfl (v := (2 : Int32)) (by decide) ?_
  refine zq (pc2 := 37) d1_36 rfl (L' := #[oa x, oi 2, oa x, oi 4, oi 2, .val (.double dc), .second]) rfl ?_
  refine zU (pc2 := 40) d1_37 rfl rfl (v := (3 : Int32)) (by decide) (L' := #[oa x, oi 2, oa x, oi 4, oi 3, .val (.double dc), .second]) rfl ?_
  refine zS (pc' := 10) d1_40 (by decide) (by decide) ?_
  refine zG (pc2 := 12) d1_10 rfl rfl ?_
  refine zL (pc2 := 13) d1_12 rfl rfl ?_
  refine zV (pc2 := 16) d1_13 rfl (by decide) ?_
  refine zN (pc2 := 17) d1_16 rfl rfl rfl ?_
  refine zG (pc2 := 19) d1_17 rfl rfl ?_
  exact zF
theorem zBn (x : Addr) (dc : UInt64) (dd : UInt64) (v26''' : Int32) (hv26''' : (cmpValue (FP.dcmp dd (0 : UInt64)) .l) = v26''') (hb27_3 : ifCond.holds .le v26''' = true) :
    zE zM ok0 20 #[oa x, oi 2, oa x, oi 4, oi 3, .val (.double dc), .second] [(.double dd)] 44 #[oa x, oi 2, oa x, oi 4, oi 4, .val (.double dd), .second] [(.int 2)] := by
  refine zt (pc2 := 22) d1_20 rfl (L' := #[oa x, oi 2, oa x, oi 4, oi 3, .val (.double dd), .second]) rfl ?_
  refine zL (pc2 := 23) d1_22 rfl rfl ?_
  refine zs (pc2 := 25) d1_23 rfl rfl ?_
  refine zf (v := 0) (pc2 := 26) d1_25 rfl rfl ?_
  refine zT (pc2 := 27) d1_26 rfl (v := v26''') hv26''' ?_
  refine zg (pc' := 34) d1_27 hb27_3 (by decide) (by decide) ?_
  refine zH (v := 0) (pc2 := 35) d1_34 rfl rfl ?_
  refine zk (pc2 := 36) d1_35 rfl (v := (2 : Int32)) (by decide) ?_
  refine zq (pc2 := 37) d1_36 rfl (L' := #[oa x, oi 2, oa x, oi 4, oi 3, .val (.double dd), .second]) rfl ?_
  refine zU (pc2 := 40) d1_37 rfl rfl (v := (4 : Int32)) (by decide) (L' := #[oa x, oi 2, oa x, oi 4, oi 4, .val (.double dd), .second]) rfl ?_
  refine zS (pc' := 10) d1_40 (by decide) (by decide) ?_
  refine zG (pc2 := 12) d1_10 rfl rfl ?_
  refine zL (pc2 := 13) d1_12 rfl rfl ?_
  refine zj (pc' := 43) d1_13 (by decide) (by decide) (by decide) ?_
  refine zL (pc2 := 44) d1_43 rfl rfl ?_
  exact zF
theorem own_p6_13 (x : Addr) (z : Addr) (dd : UInt64) (dc : UInt64) (v64'' : Int32) (hv64'' : (cmpValue (FP.dcmp dc (0 : UInt64)) .l) = v64'') (hb65_2 : ifCond.holds .le v64'' = false) :
    zE zM ok0 63 #[oa x, oi 2, oa z, oi 1, oi 2, .val (.double dd), .second] [(.double dc)] 75 #[oa x, oi 2, oa z, oi 2, oi 2, .val (.double dd), .second] [(.int 2), (.int 1), (.ref z)] := by
  refine zf (v := 0) (pc2 := 64) d1_63 rfl rfl ?_
  refine zT (pc2 := 65) d1_64 rfl (v := v64'') hv64'' ?_
  refine zW (pc2 := 68) d1_65 rfl hb65_2 ?_
  refine zN (pc2 := 69) d1_68 rfl rfl rfl ?_
  refine zL (pc2 := 70) d1_69 rfl rfl ?_
  refine zU (pc2 := 73) d1_70 rfl rfl (v := (2 : Int32)) (by decide) (L' := #[oa x, oi 2, oa z, oi 2, oi 2, .val (.double dd), .second]) rfl ?_
  refine zG (pc2 := 75) d1_73 rfl rfl ?_
  exact zF
theorem own_p6_14 (x : Addr) (z : Addr) (dd : UInt64) :
    zE zM ok0 76 #[oa x, oi 2, oa z, oi 2, oi 2, .val (.double dd), .second] [] 55 #[oa x, oi 2, oa z, oi 2, oi 3, .val (.double dd), .second] [(.ref x), (.int 3)] := by
  refine zU (pc2 := 79) d1_76 rfl rfl (v := (3 : Int32)) (by decide) (L' := #[oa x, oi 2, oa z, oi 2, oi 3, .val (.double dd), .second]) rfl ?_
  refine zS (pc' := 52) d1_79 (by decide) (by decide) ?_
  refine zG (pc2 := 54) d1_52 rfl rfl ?_
  refine zN (pc2 := 55) d1_54 rfl rfl rfl ?_
  exact zF
theorem zBo (x : Addr) (z : Addr) (dd : UInt64) :
    zE zM ok0 56 #[oa x, oi 2, oa z, oi 2, oi 3, .val (.double dd), .second] [(.int 4), (.int 3)] 62 #[oa x, oi 2, oa z, oi 2, oi 3, .val (.double dd), .second] [(.int 3), (.ref x)] := by
  refine zV (pc2 := 59) d1_56 rfl (by decide) ?_
  refine zN (pc2 := 60) d1_59 rfl rfl rfl ?_
  refine zG (pc2 := 62) d1_60 rfl rfl ?_
  exact zF
theorem zBp (x : Addr) (z : Addr) (dd : UInt64) (v64''' : Int32) (hv64''' : (cmpValue (FP.dcmp dd (0 : UInt64)) .l) = v64''') (hb65_3 : ifCond.holds .le v64''' = true) :
    zE zM ok0 63 #[oa x, oi 2, oa z, oi 2, oi 3, .val (.double dd), .second] [(.double dd)] 55 #[oa x, oi 2, oa z, oi 2, oi 4, .val (.double dd), .second] [(.ref x), (.int 4)] := by
  refine zf (v := 0) (pc2 := 64) d1_63 rfl rfl ?_
  refine zT (pc2 := 65) d1_64 rfl (v := v64''') hv64''' ?_
  refine zg (pc' := 76) d1_65 hb65_3 (by decide) (by decide) ?_
  refine zU (pc2 := 79) d1_76 rfl rfl (v := (4 : Int32)) (by decide) (L' := #[oa x, oi 2, oa z, oi 2, oi 4, .val (.double dd), .second]) rfl ?_
  refine zS (pc' := 52) d1_79 (by decide) (by decide) ?_
  refine zG (pc2 := 54) d1_52 rfl rfl ?_
  refine zN (pc2 := 55) d1_54 rfl rfl rfl ?_
  exact zF
set_option maxRecDepth 65536 in
set_option maxHeartbeats 4000000 in
theorem own_q6 (l : Launch) (Z : State) (a0 : Array Value) (hb0 : Heap) (hw : ∀ d ∈ tables_1, d.before a0 Z = true) (x : Addr) (y : Addr) (da db dc dd : UInt64) (hp0 : ifCond.holds .le (cmpValue (FP.dcmp da (0 : UInt64)) .l) = true) (hp1 : ifCond.holds .le (cmpValue (FP.dcmp db (0 : UInt64)) .l) = false) (hp2 : ifCond.holds .le (cmpValue (FP.dcmp dc (0 : UInt64)) .l) = false) (hp3 : ifCond.holds .le (cmpValue (FP.dcmp dd (0 : UInt64)) .l) = true) :
    zl l Z a0 hb0 (⟨"com/example/tangentia/tangentia/flash/StabilityTest", "presentComponents", "([D)[I"⟩ : MethodName) ok0 7 (some (.array .int)) [] ({ frames := 0, cells := 1, slots := 2, locals := 0 } : Room) #[(.ref x)] [(x, zB .double [.double da, .double db, .double dc, .double dd]), (y, zB .int [.int 1, .int 2, .int 0, .int 0])] (fun r cs' => ∃ z, r = some (.ref z) ∧ cs' = [(x, zB .double [.double da, .double db, .double dc, .double dd]), (y, zB .int [.int 1, .int 2, .int 0, .int 0]), (z, zB .int [.int 1, .int 2])]) := by
  refine zm (L0 := #[oa x, ou, ou, ou, ou, ou, ou]) (plainFor_of_name zy) (fun m => zAA m x) ?_
  intro p e s m below meth c T0 hx hZ hown hby hml hnm H0
  obtain ⟨v26, hv26⟩ : ∃ z : Int32, (cmpValue (FP.dcmp da (0 : UInt64)) .l) = z := ⟨_, rfl⟩
  obtain ⟨v26', hv26'⟩ : ∃ z : Int32, (cmpValue (FP.dcmp db (0 : UInt64)) .l) = z := ⟨_, rfl⟩
  obtain ⟨v26'', hv26''⟩ : ∃ z : Int32, (cmpValue (FP.dcmp dc (0 : UInt64)) .l) = z := ⟨_, rfl⟩
  obtain ⟨v26''', hv26'''⟩ : ∃ z : Int32, (cmpValue (FP.dcmp dd (0 : UInt64)) .l) = z := ⟨_, rfl⟩
  obtain ⟨Tp6_6, z, Hp6_6, stp6_6⟩ := zh H0 hx hZ (zO hw 1 rfl) (g := (mkF m 44 #[oa x, oi 2, oa x, oi 4, oi 4, .val (.double dd), .second] [(.int 2)])) rfl (hb hby d1_44) rfl (by decide) (cap := 2) (by decide) (by decide) (by decide) (by decide)
  change zK _ _ _ _ _ _ _ _ _ _ _ _ _ _ [(x, zB .double [.double da, .double db, .double dc, .double dd]), (y, zB .int [.int 1, .int 2, .int 0, .int 0]), (z, zB .int [.int 0, .int 0])] _ _ at Hp6_6
  obtain ⟨v64, hv64⟩ : ∃ z : Int32, (cmpValue (FP.dcmp da (0 : UInt64)) .l) = z := ⟨_, rfl⟩
  obtain ⟨v64', hv64'⟩ : ∃ z : Int32, (cmpValue (FP.dcmp db (0 : UInt64)) .l) = z := ⟨_, rfl⟩
  obtain ⟨Tp6_11, Hp6_11, stp6_11⟩ := ze Hp6_6 hx hZ 2 0 rfl (by decide) (Nat.le_of_ble_eq_true rfl) (g := (mkF m 75 #[oa x, oi 2, oa z, oi 1, oi 1, .val (.double dd), .second] [(.int 1), (.int 0), (.ref z)])) rfl rfl (hb hby d1_75)
  change zK _ _ _ _ _ _ _ _ _ _ _ _ _ _ [(x, zB .double [.double da, .double db, .double dc, .double dd]), (y, zB .int [.int 1, .int 2, .int 0, .int 0]), (z, zB .int [.int 1, .int 0])] _ _ at Hp6_11
  obtain ⟨v64'', hv64''⟩ : ∃ z : Int32, (cmpValue (FP.dcmp dc (0 : UInt64)) .l) = z := ⟨_, rfl⟩
  obtain ⟨Tp6_14, Hp6_14, stp6_14⟩ := ze Hp6_11 hx hZ 2 1 rfl (by decide) (Nat.le_of_ble_eq_true rfl) (g := (mkF m 75 #[oa x, oi 2, oa z, oi 2, oi 2, .val (.double dd), .second] [(.int 2), (.int 1), (.ref z)])) rfl rfl (hb hby d1_75)
  change zK _ _ _ _ _ _ _ _ _ _ _ _ _ _ [(x, zB .double [.double da, .double db, .double dc, .double dd]), (y, zB .int [.int 1, .int 2, .int 0, .int 0]), (z, zB .int [.int 1, .int 2])] _ _ at Hp6_14
  obtain ⟨v64''', hv64'''⟩ : ∃ z : Int32, (cmpValue (FP.dcmp dd (0 : UInt64)) .l) = z := ⟨_, rfl⟩
  have hb27_0 : ifCond.holds .le v26 = true := by rw [← hv26]; exact hp0
  have hb27_1 : ifCond.holds .le v26' = false := by rw [← hv26']; exact hp1
  have hb27_2 : ifCond.holds .le v26'' = false := by rw [← hv26'']; exact hp2
  have hb27_3 : ifCond.holds .le v26''' = true := by rw [← hv26''']; exact hp3
  have hb65_0 : ifCond.holds .le v64 = true := by rw [← hv64]; exact hp0
  have hb65_1 : ifCond.holds .le v64' = false := by rw [← hv64']; exact hp1
  have hb65_2 : ifCond.holds .le v64'' = false := by rw [← hv64'']; exact hp2
  have hb65_3 : ifCond.holds .le v64''' = true := by rw [← hv64''']; exact hp3
  refine ⟨_, _, _, _, 83, #[oa x, oi 2, oa z, oi 2, oi 4, .val (.double dd), .second], Hp6_14, by decide, by decide, Or.inr ⟨(.array .int), (.ref z), [], .areturn, rfl, ⟨z, rfl, rfl⟩, d1_83, zAC _, fun target q => ?_⟩⟩
  refine zA H0 hx hZ hown hby hw zD (zAD x) _ ?_
  refine zP H0 hx hZ 0 rfl (z := (4 : Int32)) rfl (g := (mkF m 5 #[oa x, oi 0, oa x, ou, ou, ou, ou] [(.ref x)])) rfl rfl (hb hby d1_5) _ ?_
  refine zA H0 hx hZ hown hby hw zD (zAE x) _ ?_
  refine zJ H0 hx hZ 0 0 rfl (by decide) rfl (g := (mkF m 19 #[oa x, oi 0, oa x, oi 4, oi 0, ou, ou] [(.int 0), (.ref x)])) rfl rfl (hb hby d1_19) _ ?_
  refine zA H0 hx hZ hown hby hw zD (zAQ x da v26 hv26 hb27_0) _ ?_
  refine zJ H0 hx hZ 0 1 rfl (by decide) rfl (g := (mkF m 19 #[oa x, oi 0, oa x, oi 4, oi 1, .val (.double da), .second] [(.int 1), (.ref x)])) rfl rfl (hb hby d1_19) _ ?_
  refine zA H0 hx hZ hown hby hw zD (zBB x da db v26' hv26' hb27_1) _ ?_
  refine zJ H0 hx hZ 0 2 rfl (by decide) rfl (g := (mkF m 19 #[oa x, oi 1, oa x, oi 4, oi 2, .val (.double db), .second] [(.int 2), (.ref x)])) rfl rfl (hb hby d1_19) _ ?_
  refine zA H0 hx hZ hown hby hw zD (zBF x db dc v26'' hv26'' hb27_2) _ ?_
  refine zJ H0 hx hZ 0 3 rfl (by decide) rfl (g := (mkF m 19 #[oa x, oi 2, oa x, oi 4, oi 3, .val (.double dc), .second] [(.int 3), (.ref x)])) rfl rfl (hb hby d1_19) _ ?_
  refine zA H0 hx hZ hown hby hw zD (zBn x dc dd v26''' hv26''' hb27_3) _ ?_
  refine stp6_6 _ ?_
  refine zA Hp6_6 hx hZ hown hby hw zD (zAX x dd z) _ ?_
  refine zP Hp6_6 hx hZ 0 rfl (z := (4 : Int32)) rfl (g := (mkF m 55 #[oa x, oi 2, oa z, oi 0, oi 0, .val (.double dd), .second] [(.ref x), (.int 0)])) rfl rfl (hb hby d1_55) _ ?_
  refine zA Hp6_6 hx hZ hown hby hw zD (zAY x z dd) _ ?_
  refine zJ Hp6_6 hx hZ 0 0 rfl (by decide) rfl (g := (mkF m 62 #[oa x, oi 2, oa z, oi 0, oi 0, .val (.double dd), .second] [(.int 0), (.ref x)])) rfl rfl (hb hby d1_62) _ ?_
  refine zA Hp6_6 hx hZ hown hby hw zD (zBf x z dd da v64 hv64 hb65_0) _ ?_
  refine zP Hp6_6 hx hZ 0 rfl (z := (4 : Int32)) rfl (g := (mkF m 55 #[oa x, oi 2, oa z, oi 0, oi 1, .val (.double dd), .second] [(.ref x), (.int 1)])) rfl rfl (hb hby d1_55) _ ?_
  refine zA Hp6_6 hx hZ hown hby hw zD (zBg x z dd) _ ?_
  refine zJ Hp6_6 hx hZ 0 1 rfl (by decide) rfl (g := (mkF m 62 #[oa x, oi 2, oa z, oi 0, oi 1, .val (.double dd), .second] [(.int 1), (.ref x)])) rfl rfl (hb hby d1_62) _ ?_
  refine zA Hp6_6 hx hZ hown hby hw zD (own_p5_10 x z dd db v64' hv64' hb65_1) _ ?_
  refine stp6_11 _ ?_
  refine zA Hp6_11 hx hZ hown hby hw zD (own_p5_11 x z dd) _ ?_
  refine zP Hp6_11 hx hZ 0 rfl (z := (4 : Int32)) rfl (g := (mkF m 55 #[oa x, oi 2, oa z, oi 1, oi 2, .val (.double dd), .second] [(.ref x), (.int 2)])) rfl rfl (hb hby d1_55) _ ?_
  refine zA Hp6_11 hx hZ hown hby hw zD (zBE x z dd) _ ?_
  refine zJ Hp6_11 hx hZ 0 2 rfl (by decide) rfl (g := (mkF m 62 #[oa x, oi 2, oa z, oi 1, oi 2, .val (.double dd), .second] [(.int 2), (.ref x)])) rfl rfl (hb hby d1_62) _ ?_
  refine zA Hp6_11 hx hZ hown hby hw zD (own_p6_13 x z dd dc v64'' hv64'' hb65_2) _ ?_
  refine stp6_14 _ ?_
  refine zA Hp6_14 hx hZ hown hby hw zD (own_p6_14 x z dd) _ ?_
  refine zP Hp6_14 hx hZ 0 rfl (z := (4 : Int32)) rfl (g := (mkF m 55 #[oa x, oi 2, oa z, oi 2, oi 3, .val (.double dd), .second] [(.ref x), (.int 3)])) rfl rfl (hb hby d1_55) _ ?_
  refine zA Hp6_14 hx hZ hown hby hw zD (zBo x z dd) _ ?_
  refine zJ Hp6_14 hx hZ 0 3 rfl (by decide) rfl (g := (mkF m 62 #[oa x, oi 2, oa z, oi 2, oi 3, .val (.double dd), .second] [(.int 3), (.ref x)])) rfl rfl (hb hby d1_62) _ ?_
  refine zA Hp6_14 hx hZ hown hby hw zD (zBp x z dd v64''' hv64''' hb65_3) _ ?_
  refine zP Hp6_14 hx hZ 0 rfl (z := (4 : Int32)) rfl (g := (mkF m 55 #[oa x, oi 2, oa z, oi 2, oi 4, .val (.double dd), .second] [(.ref x), (.int 4)])) rfl rfl (hb hby d1_55) _ ?_
  refine zA Hp6_14 hx hZ hown hby hw zD (zAZ x z dd) _ ?_
  exact q
theorem own_s6_7 (xa : Int32) (xb : Int32) (xc : Int32) (xd : Int32) (x : Addr) (y : Addr) (hb70 : ifCond.holds .le xc = false) :
    zE zQ code 63 #[oi xa, oi xb, oi xc, oi xd, oa x, oa y, oi 0, ou, ou, ou] [] 78 #[oi xa, oi xb, oi xc, oi xd, oa x, oa y, oi 1, ou, ou, ou] [(.int 2), (.int 1), (.ref y)] := by
  refine zG (pc2 := 65) at_63 rfl rfl ?_
  refine zH (v := 1) (pc2 := 66) at_65 rfl rfl ?_
  refine zk (pc2 := 67) at_66 rfl (v := (1 : Int32)) (by decide) ?_
  refine zi (pc2 := 69) at_67 rfl (L' := #[oi xa, oi xb, oi xc, oi xd, oa x, oa y, oi 1, ou, ou, ou]) rfl ?_
  refine zL (pc2 := 70) at_69 rfl rfl ?_
  refine zW (pc2 := 73) at_70 rfl hb70 ?_
  refine zR (pc2 := 75) at_73 rfl rfl rfl ?_
  refine zG (pc2 := 77) at_75 rfl rfl ?_
  refine zH (v := 2) (pc2 := 78) at_77 rfl rfl ?_
  exact zF
theorem own_s6_8 (xa : Int32) (xb : Int32) (xc : Int32) (xd : Int32) (x : Addr) (y : Addr) (hb86 : ifCond.holds .le xd = true) :
    zE zQ code 79 #[oi xa, oi xb, oi xc, oi xd, oa x, oa y, oi 1, ou, ou, ou] [] 103 #[oi xa, oi xb, oi xc, oi xd, oa x, oa y, oi 2, ou, ou, ou] [(.ref x)] := by
  refine zG (pc2 := 81) at_79 rfl rfl ?_
  refine zH (v := 1) (pc2 := 82) at_81 rfl rfl ?_
  refine zk (pc2 := 83) at_82 rfl (v := (2 : Int32)) (by decide) ?_
  refine zi (pc2 := 85) at_83 rfl (L' := #[oi xa, oi xb, oi xc, oi xd, oa x, oa y, oi 2, ou, ou, ou]) rfl ?_
  refine zL (pc2 := 86) at_85 rfl rfl ?_
  refine zg (pc' := 101) at_86 hb86 (by decide) (by decide) ?_
  refine zR (pc2 := 103) at_101 rfl rfl rfl ?_
  exact zF
theorem own_s6_13 (xa : Int32) (xb : Int32) (xc : Int32) (xd : Int32) (x : Addr) (y : Addr) (z : Addr) :
    zE zQ code 150 #[oi xa, oi xb, oi xc, oi xd, oa x, oa y, oi 2, oa z, ou, ou] [(.int 2)] 153 #[oi xa, oi xb, oi xc, oi xd, oa x, oa y, oi 2, oa z, ou, ou] [(.int 1), (.ref y), (.int 2)] := by
  refine zR (pc2 := 152) at_150 rfl rfl rfl ?_
  refine zH (v := 1) (pc2 := 153) at_152 rfl rfl ?_
  exact zF
theorem own_s6_14 (xa : Int32) (xb : Int32) (xc : Int32) (xd : Int32) (x : Addr) (y : Addr) (z : Addr) :
    zE zQ code 154 #[oi xa, oi xb, oi xc, oi xd, oa x, oa y, oi 2, oa z, ou, ou] [(.int 2), (.int 2)] 201 #[oi xa, oi xb, oi xc, oi xd, oa x, oa y, oi 2, oa z, oi 1, ou] [(.int 0), (.ref x)] := by
  refine zV (pc2 := 157) at_154 rfl (by decide) ?_
  refine zG (pc2 := 159) at_157 rfl rfl ?_
  refine zH (v := 3) (pc2 := 160) at_159 rfl rfl ?_
  refine zj (pc' := 174) at_160 (by decide) (by decide) (by decide) ?_
  refine zG (pc2 := 176) at_174 rfl rfl ?_
  refine zH (v := 4) (pc2 := 177) at_176 rfl rfl ?_
  refine zj (pc' := 191) at_177 (by decide) (by decide) (by decide) ?_
  refine zH (v := 1) (pc2 := 192) at_191 rfl rfl ?_
  refine zS (pc' := 196) at_192 (by decide) (by decide) ?_
  refine zi (pc2 := 198) at_196 rfl (L' := #[oi xa, oi xb, oi xc, oi xd, oa x, oa y, oi 2, oa z, oi 1, ou]) rfl ?_
  refine zR (pc2 := 200) at_198 rfl rfl rfl ?_
  refine zH (v := 0) (pc2 := 201) at_200 rfl rfl ?_
  exact zF
set_option maxRecDepth 65536 in
set_option maxHeartbeats 40000000 in
theorem own_law6 (l : Launch) (Z : State) (a0 : Array Value) (hb0 : Heap) (hw : ∀ d ∈ tables_1, d.before a0 Z = true) (xa : Int32) (xb : Int32) (xc : Int32) (xd : Int32) (hb38 : ifCond.holds .le xa = true) (hb54 : ifCond.holds .le xb = false) (hb70 : ifCond.holds .le xc = false) (hb86 : ifCond.holds .le xd = true) :
    zl l Z a0 hb0 x code maxLocals ret tables_1 room_1 #[(.int xa), (.int xb), (.int xc), (.int xd)] [] (fun v _ => v = some (.int 1)) := by
  refine zm (L0 := #[oi xa, oi xb, oi xc, oi xd, ou, ou, ou, ou, ou, ou]) (plainFor_of_name zx) (fun m => zAB m xa xb xc xd) ?_
  intro p e s m below meth c T0 hx hZ hown hby hml hnm H0
  have hown : s.vm.findClass "com/example/tangentia/tangentia/flash/StabilityTestPresentComponentsPinLaw" = some m.cls := hown
  have hml : c.maxLocals = 10 := hml
  obtain ⟨Ts6_1, x, Hs6_1, sts6_1⟩ := zh H0 hx hZ (zO hw 0 rfl) (g := (mkF m 1 #[oi xa, oi xb, oi xc, oi xd, ou, ou, ou, ou, ou, ou] [(.int 4)])) rfl (hb hby at_1) rfl (by decide) (cap := 4) (by decide) (by decide) (by decide) (by decide)
  change zK _ _ _ _ _ _ _ _ _ _ _ _ _ _ [(x, zB .double [.double 0, .double 0, .double 0, .double 0])] _ _ at Hs6_1
  obtain ⟨v9, hv9⟩ : ∃ z : UInt64, (FP.i2d xa) = z := ⟨_, rfl⟩
  obtain ⟨Ts6_2, Hs6_2, sts6_2⟩ := zd Hs6_1 hx hZ 0 0 rfl (by decide) (Nat.le_of_ble_eq_true rfl) (g := (mkF m 10 #[oi xa, oi xb, oi xc, oi xd, oa x, ou, ou, ou, ou, ou] [(.double v9), (.int 0), (.ref x)])) rfl rfl (hb hby at_10)
  change zK _ _ _ _ _ _ _ _ _ _ _ _ _ _ [(x, zB .double [.double v9, .double 0, .double 0, .double 0])] _ _ at Hs6_2
  obtain ⟨v15, hv15⟩ : ∃ z : UInt64, (FP.i2d xb) = z := ⟨_, rfl⟩
  obtain ⟨Ts6_3, Hs6_3, sts6_3⟩ := zd Hs6_2 hx hZ 0 1 rfl (by decide) (Nat.le_of_ble_eq_true rfl) (g := (mkF m 16 #[oi xa, oi xb, oi xc, oi xd, oa x, ou, ou, ou, ou, ou] [(.double v15), (.int 1), (.ref x)])) rfl rfl (hb hby at_16)
  change zK _ _ _ _ _ _ _ _ _ _ _ _ _ _ [(x, zB .double [.double v9, .double v15, .double 0, .double 0])] _ _ at Hs6_3
  obtain ⟨v21, hv21⟩ : ∃ z : UInt64, (FP.i2d xc) = z := ⟨_, rfl⟩
  obtain ⟨Ts6_4, Hs6_4, sts6_4⟩ := zd Hs6_3 hx hZ 0 2 rfl (by decide) (Nat.le_of_ble_eq_true rfl) (g := (mkF m 22 #[oi xa, oi xb, oi xc, oi xd, oa x, ou, ou, ou, ou, ou] [(.double v21), (.int 2), (.ref x)])) rfl rfl (hb hby at_22)
  change zK _ _ _ _ _ _ _ _ _ _ _ _ _ _ [(x, zB .double [.double v9, .double v15, .double v21, .double 0])] _ _ at Hs6_4
  obtain ⟨v27, hv27⟩ : ∃ z : UInt64, (FP.i2d xd) = z := ⟨_, rfl⟩
  obtain ⟨Ts6_5, Hs6_5, sts6_5⟩ := zd Hs6_4 hx hZ 0 3 rfl (by decide) (Nat.le_of_ble_eq_true rfl) (g := (mkF m 28 #[oi xa, oi xb, oi xc, oi xd, oa x, ou, ou, ou, ou, ou] [(.double v27), (.int 3), (.ref x)])) rfl rfl (hb hby at_28)
  change zK _ _ _ _ _ _ _ _ _ _ _ _ _ _ [(x, zB .double [.double v9, .double v15, .double v21, .double v27])] _ _ at Hs6_5
  obtain ⟨Ts6_6, y, Hs6_6, sts6_6⟩ := zh Hs6_5 hx hZ (zO hw 1 rfl) (g := (mkF m 30 #[oi xa, oi xb, oi xc, oi xd, oa x, ou, ou, ou, ou, ou] [(.int 4)])) rfl (hb hby at_30) rfl (by decide) (cap := 4) (by decide) (by decide) (by decide) (by decide)
  change zK _ _ _ _ _ _ _ _ _ _ _ _ _ _ [(x, zB .double [.double v9, .double v15, .double v21, .double v27]), (y, zB .int [.int 0, .int 0, .int 0, .int 0])] _ _ at Hs6_6
  obtain ⟨Ts6_7, Hs6_7, sts6_7⟩ := ze Hs6_6 hx hZ 1 0 rfl (by decide) (Nat.le_of_ble_eq_true rfl) (g := (mkF m 62 #[oi xa, oi xb, oi xc, oi xd, oa x, oa y, oi 0, ou, ou, ou] [(.int 1), (.int 0), (.ref y)])) rfl rfl (hb hby at_62)
  change zK _ _ _ _ _ _ _ _ _ _ _ _ _ _ [(x, zB .double [.double v9, .double v15, .double v21, .double v27]), (y, zB .int [.int 1, .int 0, .int 0, .int 0])] _ _ at Hs6_7
  obtain ⟨Ts6_8, Hs6_8, sts6_8⟩ := ze Hs6_7 hx hZ 1 1 rfl (by decide) (Nat.le_of_ble_eq_true rfl) (g := (mkF m 78 #[oi xa, oi xb, oi xc, oi xd, oa x, oa y, oi 1, ou, ou, ou] [(.int 2), (.int 1), (.ref y)])) rfl rfl (hb hby at_78)
  change zK _ _ _ _ _ _ _ _ _ _ _ _ _ _ [(x, zB .double [.double v9, .double v15, .double v21, .double v27]), (y, zB .int [.int 1, .int 2, .int 0, .int 0])] _ _ at Hs6_8
  have hp0 : ifCond.holds .le (cmpValue (FP.dcmp v9 (0 : UInt64)) .l) = true := by rw [← hv9, zY (zI xa) zX]; exact zo hb38
  have hp1 : ifCond.holds .le (cmpValue (FP.dcmp v15 (0 : UInt64)) .l) = false := by rw [← hv15, zY (zI xb) zX]; exact zn hb54
  have hp2 : ifCond.holds .le (cmpValue (FP.dcmp v21 (0 : UInt64)) .l) = false := by rw [← hv21, zY (zI xc) zX]; exact zn hb70
  have hp3 : ifCond.holds .le (cmpValue (FP.dcmp v27 (0 : UInt64)) .l) = true := by rw [← hv27, zY (zI xd) zX]; exact zo hb86
  obtain ⟨Ts6_9, vs6_9_, css6_9_, qs6_9, Hs6_9, sts6_9⟩ := zw Hs6_8 hx hZ hown (zO hw 2 rfl) (zO hw 3 rfl) (zO hw 4 rfl) (zO hw 5 rfl) (by decide) (argsL := [(.ref x)]) (rest := []) (W := 0) (own_q6 l Z a0 hb0 hw x y v9 v15 v21 v27 hp0 hp1 hp2 hp3) (by decide) (by decide) (by decide) (by decide) (g := (mkF m 103 #[oi xa, oi xb, oi xc, oi xd, oa x, oa y, oi 2, ou, ou, ou] [(.ref x)])) rfl (by rw [hml]; rfl) (lenOf zz rfl) rfl (by show 2 * 0 + _ ≤ _; exact Nat.le_of_eq rfl) (hb hby at_103)
  obtain ⟨z, rfl, rfl⟩ := qs6_9
  obtain ⟨v203, hv203⟩ : ∃ z : UInt64, (FP.i2d xa) = z := ⟨_, rfl⟩
  obtain ⟨v204, hv204⟩ : ∃ z : Int32, (cmpValue (FP.dcmp v9 v203) .l) = z := ⟨_, rfl⟩
  obtain ⟨v213, hv213⟩ : ∃ z : UInt64, (FP.i2d xb) = z := ⟨_, rfl⟩
  obtain ⟨v214, hv214⟩ : ∃ z : Int32, (cmpValue (FP.dcmp v15 v213) .l) = z := ⟨_, rfl⟩
  obtain ⟨v223, hv223⟩ : ∃ z : UInt64, (FP.i2d xc) = z := ⟨_, rfl⟩
  obtain ⟨v224, hv224⟩ : ∃ z : Int32, (cmpValue (FP.dcmp v21 v223) .l) = z := ⟨_, rfl⟩
  obtain ⟨v233, hv233⟩ : ∃ z : UInt64, (FP.i2d xd) = z := ⟨_, rfl⟩
  obtain ⟨v234, hv234⟩ : ∃ z : Int32, (cmpValue (FP.dcmp v27 v233) .l) = z := ⟨_, rfl⟩
  have hb205 : ifCond.holds .ne v204 = false := by rw [← hv204, ← hv203, ← hv9, zZ (zI xa) (zI xa)]; simp
  have hb215 : ifCond.holds .ne v214 = false := by rw [← hv214, ← hv213, ← hv15, zZ (zI xb) (zI xb)]; simp
  have hb225 : ifCond.holds .ne v224 = false := by rw [← hv224, ← hv223, ← hv21, zZ (zI xc) (zI xc)]; simp
  have hb235 : ifCond.holds .ne v234 = false := by rw [← hv234, ← hv233, ← hv27, zZ (zI xd) (zI xd)]; simp
  refine ⟨_, _, _, _, 260, #[oi xa, oi xb, oi xc, oi xd, oa x, oa y, oi 2, oa z, oi 1, oi 1], Hs6_9, by decide, by decide, Or.inr ⟨.boolean, (.int 1), [], .ireturn, rfl, rfl, at_260, zv (Or.inr rfl), fun target q => ?_⟩⟩
  refine zA H0 hx hZ hown hby hw zC (zAF xa xb xc xd) _ ?_
  refine sts6_1 _ ?_
  refine zA Hs6_1 hx hZ hown hby hw zC (zAG xa xb xc xd x v9 hv9) _ ?_
  refine sts6_2 _ ?_
  refine zA Hs6_2 hx hZ hown hby hw zC (zAH xa xb xc xd x v15 hv15) _ ?_
  refine sts6_3 _ ?_
  refine zA Hs6_3 hx hZ hown hby hw zC (zAI xa xb xc xd x v21 hv21) _ ?_
  refine sts6_4 _ ?_
  refine zA Hs6_4 hx hZ hown hby hw zC (zAJ xa xb xc xd x v27 hv27) _ ?_
  refine sts6_5 _ ?_
  refine zA Hs6_5 hx hZ hown hby hw zC (zAK xa xb xc xd x) _ ?_
  refine sts6_6 _ ?_
  refine zA Hs6_6 hx hZ hown hby hw zC (zBD xa xb xc xd x y hb38 hb54) _ ?_
  refine sts6_7 _ ?_
  refine zA Hs6_7 hx hZ hown hby hw zC (own_s6_7 xa xb xc xd x y hb70) _ ?_
  refine sts6_8 _ ?_
  refine zA Hs6_8 hx hZ hown hby hw zC (own_s6_8 xa xb xc xd x y hb86) _ ?_
  refine sts6_9 _ ?_
  refine zA Hs6_9 hx hZ hown hby hw zC (zAa xa xb xc xd x y z) _ ?_
  refine zP Hs6_9 hx hZ 2 rfl (z := (2 : Int32)) rfl (g := (mkF m 115 #[oi xa, oi xb, oi xc, oi xd, oa x, oa y, oi 2, oa z, ou, ou] [(.ref z)])) rfl rfl (hb hby at_115) _ ?_
  refine zA Hs6_9 hx hZ hown hby hw zC (zAb xa xb xc xd x y z) _ ?_
  refine zb Hs6_9 hx hZ 2 0 rfl (by decide) rfl (g := (mkF m 132 #[oi xa, oi xb, oi xc, oi xd, oa x, oa y, oi 2, oa z, ou, ou] [(.int 0), (.ref z)])) rfl rfl (hb hby at_132) _ ?_
  refine zA Hs6_9 hx hZ hown hby hw zC (own_s5_11 xa xb xc xd x y z) _ ?_
  refine zb Hs6_9 hx hZ 1 0 rfl (by decide) rfl (g := (mkF m 136 #[oi xa, oi xb, oi xc, oi xd, oa x, oa y, oi 2, oa z, ou, ou] [(.int 0), (.ref y), (.int 1)])) rfl rfl (hb hby at_136) _ ?_
  refine zA Hs6_9 hx hZ hown hby hw zC (own_s5_12 xa xb xc xd x y z) _ ?_
  refine zb Hs6_9 hx hZ 2 1 rfl (by decide) rfl (g := (mkF m 149 #[oi xa, oi xb, oi xc, oi xd, oa x, oa y, oi 2, oa z, ou, ou] [(.int 1), (.ref z)])) rfl rfl (hb hby at_149) _ ?_
  refine zA Hs6_9 hx hZ hown hby hw zC (own_s6_13 xa xb xc xd x y z) _ ?_
  refine zb Hs6_9 hx hZ 1 1 rfl (by decide) rfl (g := (mkF m 153 #[oi xa, oi xb, oi xc, oi xd, oa x, oa y, oi 2, oa z, ou, ou] [(.int 1), (.ref y), (.int 2)])) rfl rfl (hb hby at_153) _ ?_
  refine zA Hs6_9 hx hZ hown hby hw zC (own_s6_14 xa xb xc xd x y z) _ ?_
  refine zJ Hs6_9 hx hZ 0 0 rfl (by decide) rfl (g := (mkF m 201 #[oi xa, oi xb, oi xc, oi xd, oa x, oa y, oi 2, oa z, oi 1, ou] [(.int 0), (.ref x)])) rfl rfl (hb hby at_201) _ ?_
  refine zA Hs6_9 hx hZ hown hby hw zC (zAc xa xb xc xd x y z v9 v203 hv203 v204 hv204 hb205) _ ?_
  refine zJ Hs6_9 hx hZ 0 1 rfl (by decide) rfl (g := (mkF m 211 #[oi xa, oi xb, oi xc, oi xd, oa x, oa y, oi 2, oa z, oi 1, ou] [(.int 1), (.ref x)])) rfl rfl (hb hby at_211) _ ?_
  refine zA Hs6_9 hx hZ hown hby hw zC (zAd xa xb xc xd x y z v15 v213 hv213 v214 hv214 hb215) _ ?_
  refine zJ Hs6_9 hx hZ 0 2 rfl (by decide) rfl (g := (mkF m 221 #[oi xa, oi xb, oi xc, oi xd, oa x, oa y, oi 2, oa z, oi 1, ou] [(.int 2), (.ref x)])) rfl rfl (hb hby at_221) _ ?_
  refine zA Hs6_9 hx hZ hown hby hw zC (zAe xa xb xc xd x y z v21 v223 hv223 v224 hv224 hb225) _ ?_
  refine zJ Hs6_9 hx hZ 0 3 rfl (by decide) rfl (g := (mkF m 231 #[oi xa, oi xb, oi xc, oi xd, oa x, oa y, oi 2, oa z, oi 1, ou] [(.int 3), (.ref x)])) rfl rfl (hb hby at_231) _ ?_
  refine zA Hs6_9 hx hZ hown hby hw zC (zAf xa xb xc xd x y z v27 v233 hv233 v234 hv234 hb235) _ ?_
  exact q
theorem zBq (x : Addr) (dc : UInt64) (dd : UInt64) (v26''' : Int32) (hv26''' : (cmpValue (FP.dcmp dd (0 : UInt64)) .l) = v26''') (hb27_3 : ifCond.holds .le v26''' = false) :
    zE zM ok0 20 #[oa x, oi 2, oa x, oi 4, oi 3, .val (.double dc), .second] [(.double dd)] 44 #[oa x, oi 3, oa x, oi 4, oi 4, .val (.double dd), .second] [(.int 3)] := by
  refine zt (pc2 := 22) d1_20 rfl (L' := #[oa x, oi 2, oa x, oi 4, oi 3, .val (.double dd), .second]) rfl ?_
  refine zL (pc2 := 23) d1_22 rfl rfl ?_
  refine zs (pc2 := 25) d1_23 rfl rfl ?_
  refine zf (v := 0) (pc2 := 26) d1_25 rfl rfl ?_
  refine zT (pc2 := 27) d1_26 rfl (v := v26''') hv26''' ?_
  refine zW (pc2 := 30) d1_27 rfl hb27_3 ?_
  refine zH (v := 1) (pc2 := 31) d1_30 rfl rfl ?_
  refine zS (pc' := 35) d1_31 (by decide) (by decide) ?_
  refine zk (pc2 := 36) d1_35 rfl (v := (3 : Int32)) (by decide) ?_
  refine zq (pc2 := 37) d1_36 rfl (L' := #[oa x, oi 3, oa x, oi 4, oi 3, .val (.double dd), .second]) rfl ?_
  refine zU (pc2 := 40) d1_37 rfl rfl (v := (4 : Int32)) (by decide) (L' := #[oa x, oi 3, oa x, oi 4, oi 4, .val (.double dd), .second]) rfl ?_
  refine zS (pc' := 10) d1_40 (by decide) (by decide) ?_
  refine zG (pc2 := 12) d1_10 rfl rfl ?_
  refine zL (pc2 := 13) d1_12 rfl rfl ?_
  refine zj (pc' := 43) d1_13 (by decide) (by decide) (by decide) ?_
  refine zL (pc2 := 44) d1_43 rfl rfl ?_
  exact zF
theorem zBG (x : Addr) (dd : UInt64) (z : Addr) :
    zE zM ok0 46 #[oa x, oi 3, oa x, oi 4, oi 4, .val (.double dd), .second] [(.ref z)] 55 #[oa x, oi 3, oa z, oi 0, oi 0, .val (.double dd), .second] [(.ref x), (.int 0)] := by
  refine zAW (pc2 := 47) d1_46 rfl rfl (L' := #[oa x, oi 3, oa z, oi 4, oi 4, .val (.double dd), .second]) rfl ?_
  refine zH (v := 0) (pc2 := 48) d1_47 rfl rfl ?_
  refine zq (pc2 := 49) d1_48 rfl (L' := #[oa x, oi 3, oa z, oi 0, oi 4, .val (.double dd), .second]) rfl ?_
  refine zH (v := 0) (pc2 := 50) d1_49 rfl rfl ?_
  refine zi (pc2 := 52) d1_50 rfl (L' := #[oa x, oi 3, oa z, oi 0, oi 0, .val (.double dd), .second]) rfl ?_
  refine zG (pc2 := 54) d1_52 rfl rfl ?_
  refine zN (pc2 := 55) d1_54 rfl rfl rfl ?_
  exact zF
theorem zBH (x : Addr) (z : Addr) (dd : UInt64) :
    zE zM ok0 56 #[oa x, oi 3, oa z, oi 0, oi 0, .val (.double dd), .second] [(.int 4), (.int 0)] 62 #[oa x, oi 3, oa z, oi 0, oi 0, .val (.double dd), .second] [(.int 0), (.ref x)] := by
  refine zV (pc2 := 59) d1_56 rfl (by decide) ?_
  refine zN (pc2 := 60) d1_59 rfl rfl rfl ?_
  refine zG (pc2 := 62) d1_60 rfl rfl ?_
  exact zF
theorem own_p7_8 (x : Addr) (z : Addr) (dd : UInt64) (da : UInt64) (v64 : Int32) (hv64 : (cmpValue (FP.dcmp da (0 : UInt64)) .l) = v64) (hb65_0 : ifCond.holds .le v64 = true) :
    zE zM ok0 63 #[oa x, oi 3, oa z, oi 0, oi 0, .val (.double dd), .second] [(.double da)] 55 #[oa x, oi 3, oa z, oi 0, oi 1, .val (.double dd), .second] [(.ref x), (.int 1)] := by
  refine zf (v := 0) (pc2 := 64) d1_63 rfl rfl ?_
  refine zT (pc2 := 65) d1_64 rfl (v := v64) hv64 ?_
  refine zg (pc' := 76) d1_65 hb65_0 (by decide) (by decide) ?_
  refine zU (pc2 := 79) d1_76 rfl rfl (v := (1 : Int32)) (by decide) (L' := #[oa x, oi 3, oa z, oi 0, oi 1, .val (.double dd), .second]) rfl ?_
  refine zS (pc' := 52) d1_79 (by decide) (by decide) ?_
  refine zG (pc2 := 54) d1_52 rfl rfl ?_
  refine zN (pc2 := 55) d1_54 rfl rfl rfl ?_
  exact zF
theorem own_p7_9 (x : Addr) (z : Addr) (dd : UInt64) :
    zE zM ok0 56 #[oa x, oi 3, oa z, oi 0, oi 1, .val (.double dd), .second] [(.int 4), (.int 1)] 62 #[oa x, oi 3, oa z, oi 0, oi 1, .val (.double dd), .second] [(.int 1), (.ref x)] := by
  refine zV (pc2 := 59) d1_56 rfl (by decide) ?_
  refine zN (pc2 := 60) d1_59 rfl rfl rfl ?_
  refine zG (pc2 := 62) d1_60 rfl rfl ?_
  exact zF
theorem own_p7_10 (x : Addr) (z : Addr) (dd : UInt64) (db : UInt64) (v64' : Int32) (hv64' : (cmpValue (FP.dcmp db (0 : UInt64)) .l) = v64') (hb65_1 : ifCond.holds .le v64' = false) :
    zE zM ok0 63 #[oa x, oi 3, oa z, oi 0, oi 1, .val (.double dd), .second] [(.double db)] 75 #[oa x, oi 3, oa z, oi 1, oi 1, .val (.double dd), .second] [(.int 1), (.int 0), (.ref z)] := by
  refine zf (v := 0) (pc2 := 64) d1_63 rfl rfl ?_
  refine zT (pc2 := 65) d1_64 rfl (v := v64') hv64' ?_
  refine zW (pc2 := 68) d1_65 rfl hb65_1 ?_
  refine zN (pc2 := 69) d1_68 rfl rfl rfl ?_
  refine zL (pc2 := 70) d1_69 rfl rfl ?_
  refine zU (pc2 := 73) d1_70 rfl rfl (v := (1 : Int32)) (by decide) (L' := #[oa x, oi 3, oa z, oi 1, oi 1, .val (.double dd), .second]) rfl ?_
  refine zG (pc2 := 75) d1_73 rfl rfl ?_
  exact zF
theorem own_p7_11 (x : Addr) (z : Addr) (dd : UInt64) :
    zE zM ok0 76 #[oa x, oi 3, oa z, oi 1, oi 1, .val (.double dd), .second] [] 55 #[oa x, oi 3, oa z, oi 1, oi 2, .val (.double dd), .second] [(.ref x), (.int 2)] := by
  refine zU (pc2 := 79) d1_76 rfl rfl (v := (2 : Int32)) (by decide) (L' := #[oa x, oi 3, oa z, oi 1, oi 2, .val (.double dd), .second]) rfl ?_
  refine zS (pc' := 52) d1_79 (by decide) (by decide) ?_
  refine zG (pc2 := 54) d1_52 rfl rfl ?_
  refine zN (pc2 := 55) d1_54 rfl rfl rfl ?_
  exact zF
theorem own_p7_12 (x : Addr) (z : Addr) (dd : UInt64) :
    zE zM ok0 56 #[oa x, oi 3, oa z, oi 1, oi 2, .val (.double dd), .second] [(.int 4), (.int 2)] 62 #[oa x, oi 3, oa z, oi 1, oi 2, .val (.double dd), .second] [(.int 2), (.ref x)] := by
  refine zV (pc2 := 59) d1_56 rfl (by decide) ?_
  refine zN (pc2 := 60) d1_59 rfl rfl rfl ?_
  refine zG (pc2 := 62) d1_60 rfl rfl ?_
  exact zF
theorem own_p7_13 (x : Addr) (z : Addr) (dd : UInt64) (dc : UInt64) (v64'' : Int32) (hv64'' : (cmpValue (FP.dcmp dc (0 : UInt64)) .l) = v64'') (hb65_2 : ifCond.holds .le v64'' = false) :
    zE zM ok0 63 #[oa x, oi 3, oa z, oi 1, oi 2, .val (.double dd), .second] [(.double dc)] 75 #[oa x, oi 3, oa z, oi 2, oi 2, .val (.double dd), .second] [(.int 2), (.int 1), (.ref z)] := by
  refine zf (v := 0) (pc2 := 64) d1_63 rfl rfl ?_
  refine zT (pc2 := 65) d1_64 rfl (v := v64'') hv64'' ?_
  refine zW (pc2 := 68) d1_65 rfl hb65_2 ?_
  refine zN (pc2 := 69) d1_68 rfl rfl rfl ?_
  refine zL (pc2 := 70) d1_69 rfl rfl ?_
  refine zU (pc2 := 73) d1_70 rfl rfl (v := (2 : Int32)) (by decide) (L' := #[oa x, oi 3, oa z, oi 2, oi 2, .val (.double dd), .second]) rfl ?_
  refine zG (pc2 := 75) d1_73 rfl rfl ?_
  exact zF
theorem own_p7_14 (x : Addr) (z : Addr) (dd : UInt64) :
    zE zM ok0 76 #[oa x, oi 3, oa z, oi 2, oi 2, .val (.double dd), .second] [] 55 #[oa x, oi 3, oa z, oi 2, oi 3, .val (.double dd), .second] [(.ref x), (.int 3)] := by
  refine zU (pc2 := 79) d1_76 rfl rfl (v := (3 : Int32)) (by decide) (L' := #[oa x, oi 3, oa z, oi 2, oi 3, .val (.double dd), .second]) rfl ?_
  refine zS (pc' := 52) d1_79 (by decide) (by decide) ?_
  refine zG (pc2 := 54) d1_52 rfl rfl ?_
  refine zN (pc2 := 55) d1_54 rfl rfl rfl ?_
  exact zF
theorem zBr (x : Addr) (z : Addr) (dd : UInt64) :
    zE zM ok0 56 #[oa x, oi 3, oa z, oi 2, oi 3, .val (.double dd), .second] [(.int 4), (.int 3)] 62 #[oa x, oi 3, oa z, oi 2, oi 3, .val (.double dd), .second] [(.int 3), (.ref x)] := by
  refine zV (pc2 := 59) d1_56 rfl (by decide) ?_
  refine zN (pc2 := 60) d1_59 rfl rfl rfl ?_
  refine zG (pc2 := 62) d1_60 rfl rfl ?_
  exact zF
theorem zBs (x : Addr) (z : Addr) (dd : UInt64) (v64''' : Int32) (hv64''' : (cmpValue (FP.dcmp dd (0 : UInt64)) .l) = v64''') (hb65_3 : ifCond.holds .le v64''' = false) :
    zE zM ok0 63 #[oa x, oi 3, oa z, oi 2, oi 3, .val (.double dd), .second] [(.double dd)] 75 #[oa x, oi 3, oa z, oi 3, oi 3, .val (.double dd), .second] [(.int 3), (.int 2), (.ref z)] := by
  refine zf (v := 0) (pc2 := 64) d1_63 rfl rfl ?_
  refine zT (pc2 := 65) d1_64 rfl (v := v64''') hv64''' ?_
  refine zW (pc2 := 68) d1_65 rfl hb65_3 ?_
  refine zN (pc2 := 69) d1_68 rfl rfl rfl ?_
  refine zL (pc2 := 70) d1_69 rfl rfl ?_
  refine zU (pc2 := 73) d1_70 rfl rfl (v := (3 : Int32)) (by decide) (L' := #[oa x, oi 3, oa z, oi 3, oi 3, .val (.double dd), .second]) rfl ?_
  refine zG (pc2 := 75) d1_73 rfl rfl ?_
  exact zF
theorem zBt (x : Addr) (z : Addr) (dd : UInt64) :
    zE zM ok0 76 #[oa x, oi 3, oa z, oi 3, oi 3, .val (.double dd), .second] [] 55 #[oa x, oi 3, oa z, oi 3, oi 4, .val (.double dd), .second] [(.ref x), (.int 4)] := by
  refine zU (pc2 := 79) d1_76 rfl rfl (v := (4 : Int32)) (by decide) (L' := #[oa x, oi 3, oa z, oi 3, oi 4, .val (.double dd), .second]) rfl ?_
  refine zS (pc' := 52) d1_79 (by decide) (by decide) ?_
  refine zG (pc2 := 54) d1_52 rfl rfl ?_
  refine zN (pc2 := 55) d1_54 rfl rfl rfl ?_
  exact zF
theorem zBI (x : Addr) (z : Addr) (dd : UInt64) :
    zE zM ok0 56 #[oa x, oi 3, oa z, oi 3, oi 4, .val (.double dd), .second] [(.int 4), (.int 4)] 83 #[oa x, oi 3, oa z, oi 3, oi 4, .val (.double dd), .second] [(.ref z)] := by
  refine zj (pc' := 82) d1_56 (by decide) (by decide) (by decide) ?_
  refine zN (pc2 := 83) d1_82 rfl rfl rfl ?_
  exact zF
set_option maxRecDepth 65536 in
set_option maxHeartbeats 4000000 in
theorem own_q7 (l : Launch) (Z : State) (a0 : Array Value) (hb0 : Heap) (hw : ∀ d ∈ tables_1, d.before a0 Z = true) (x : Addr) (y : Addr) (da db dc dd : UInt64) (hp0 : ifCond.holds .le (cmpValue (FP.dcmp da (0 : UInt64)) .l) = true) (hp1 : ifCond.holds .le (cmpValue (FP.dcmp db (0 : UInt64)) .l) = false) (hp2 : ifCond.holds .le (cmpValue (FP.dcmp dc (0 : UInt64)) .l) = false) (hp3 : ifCond.holds .le (cmpValue (FP.dcmp dd (0 : UInt64)) .l) = false) :
    zl l Z a0 hb0 (⟨"com/example/tangentia/tangentia/flash/StabilityTest", "presentComponents", "([D)[I"⟩ : MethodName) ok0 7 (some (.array .int)) [] ({ frames := 0, cells := 1, slots := 3, locals := 0 } : Room) #[(.ref x)] [(x, zB .double [.double da, .double db, .double dc, .double dd]), (y, zB .int [.int 1, .int 2, .int 3, .int 0])] (fun r cs' => ∃ z, r = some (.ref z) ∧ cs' = [(x, zB .double [.double da, .double db, .double dc, .double dd]), (y, zB .int [.int 1, .int 2, .int 3, .int 0]), (z, zB .int [.int 1, .int 2, .int 3])]) := by
  refine zm (L0 := #[oa x, ou, ou, ou, ou, ou, ou]) (plainFor_of_name zy) (fun m => zAA m x) ?_
  intro p e s m below meth c T0 hx hZ hown hby hml hnm H0
  obtain ⟨v26, hv26⟩ : ∃ z : Int32, (cmpValue (FP.dcmp da (0 : UInt64)) .l) = z := ⟨_, rfl⟩
  obtain ⟨v26', hv26'⟩ : ∃ z : Int32, (cmpValue (FP.dcmp db (0 : UInt64)) .l) = z := ⟨_, rfl⟩
  obtain ⟨v26'', hv26''⟩ : ∃ z : Int32, (cmpValue (FP.dcmp dc (0 : UInt64)) .l) = z := ⟨_, rfl⟩
  obtain ⟨v26''', hv26'''⟩ : ∃ z : Int32, (cmpValue (FP.dcmp dd (0 : UInt64)) .l) = z := ⟨_, rfl⟩
  obtain ⟨Tp7_6, z, Hp7_6, stp7_6⟩ := zh H0 hx hZ (zO hw 1 rfl) (g := (mkF m 44 #[oa x, oi 3, oa x, oi 4, oi 4, .val (.double dd), .second] [(.int 3)])) rfl (hb hby d1_44) rfl (by decide) (cap := 3) (by decide) (by decide) (by decide) (by decide)
  change zK _ _ _ _ _ _ _ _ _ _ _ _ _ _ [(x, zB .double [.double da, .double db, .double dc, .double dd]), (y, zB .int [.int 1, .int 2, .int 3, .int 0]), (z, zB .int [.int 0, .int 0, .int 0])] _ _ at Hp7_6
  obtain ⟨v64, hv64⟩ : ∃ z : Int32, (cmpValue (FP.dcmp da (0 : UInt64)) .l) = z := ⟨_, rfl⟩
  obtain ⟨v64', hv64'⟩ : ∃ z : Int32, (cmpValue (FP.dcmp db (0 : UInt64)) .l) = z := ⟨_, rfl⟩
  obtain ⟨Tp7_11, Hp7_11, stp7_11⟩ := ze Hp7_6 hx hZ 2 0 rfl (by decide) (Nat.le_of_ble_eq_true rfl) (g := (mkF m 75 #[oa x, oi 3, oa z, oi 1, oi 1, .val (.double dd), .second] [(.int 1), (.int 0), (.ref z)])) rfl rfl (hb hby d1_75)
  change zK _ _ _ _ _ _ _ _ _ _ _ _ _ _ [(x, zB .double [.double da, .double db, .double dc, .double dd]), (y, zB .int [.int 1, .int 2, .int 3, .int 0]), (z, zB .int [.int 1, .int 0, .int 0])] _ _ at Hp7_11
  obtain ⟨v64'', hv64''⟩ : ∃ z : Int32, (cmpValue (FP.dcmp dc (0 : UInt64)) .l) = z := ⟨_, rfl⟩
  obtain ⟨Tp7_14, Hp7_14, stp7_14⟩ := ze Hp7_11 hx hZ 2 1 rfl (by decide) (Nat.le_of_ble_eq_true rfl) (g := (mkF m 75 #[oa x, oi 3, oa z, oi 2, oi 2, .val (.double dd), .second] [(.int 2), (.int 1), (.ref z)])) rfl rfl (hb hby d1_75)
  change zK _ _ _ _ _ _ _ _ _ _ _ _ _ _ [(x, zB .double [.double da, .double db, .double dc, .double dd]), (y, zB .int [.int 1, .int 2, .int 3, .int 0]), (z, zB .int [.int 1, .int 2, .int 0])] _ _ at Hp7_14
  obtain ⟨v64''', hv64'''⟩ : ∃ z : Int32, (cmpValue (FP.dcmp dd (0 : UInt64)) .l) = z := ⟨_, rfl⟩
  obtain ⟨Tp7_17, Hp7_17, stp7_17⟩ := ze Hp7_14 hx hZ 2 2 rfl (by decide) (Nat.le_of_ble_eq_true rfl) (g := (mkF m 75 #[oa x, oi 3, oa z, oi 3, oi 3, .val (.double dd), .second] [(.int 3), (.int 2), (.ref z)])) rfl rfl (hb hby d1_75)
  change zK _ _ _ _ _ _ _ _ _ _ _ _ _ _ [(x, zB .double [.double da, .double db, .double dc, .double dd]), (y, zB .int [.int 1, .int 2, .int 3, .int 0]), (z, zB .int [.int 1, .int 2, .int 3])] _ _ at Hp7_17
  have hb27_0 : ifCond.holds .le v26 = true := by rw [← hv26]; exact hp0
  have hb27_1 : ifCond.holds .le v26' = false := by rw [← hv26']; exact hp1
  have hb27_2 : ifCond.holds .le v26'' = false := by rw [← hv26'']; exact hp2
  have hb27_3 : ifCond.holds .le v26''' = false := by rw [← hv26''']; exact hp3
  have hb65_0 : ifCond.holds .le v64 = true := by rw [← hv64]; exact hp0
  have hb65_1 : ifCond.holds .le v64' = false := by rw [← hv64']; exact hp1
  have hb65_2 : ifCond.holds .le v64'' = false := by rw [← hv64'']; exact hp2
  have hb65_3 : ifCond.holds .le v64''' = false := by rw [← hv64''']; exact hp3
  refine ⟨_, _, _, _, 83, #[oa x, oi 3, oa z, oi 3, oi 4, .val (.double dd), .second], Hp7_17, by decide, by decide, Or.inr ⟨(.array .int), (.ref z), [], .areturn, rfl, ⟨z, rfl, rfl⟩, d1_83, zAC _, fun target q => ?_⟩⟩
  refine zA H0 hx hZ hown hby hw zD (zAD x) _ ?_
  refine zP H0 hx hZ 0 rfl (z := (4 : Int32)) rfl (g := (mkF m 5 #[oa x, oi 0, oa x, ou, ou, ou, ou] [(.ref x)])) rfl rfl (hb hby d1_5) _ ?_
  refine zA H0 hx hZ hown hby hw zD (zAE x) _ ?_
  refine zJ H0 hx hZ 0 0 rfl (by decide) rfl (g := (mkF m 19 #[oa x, oi 0, oa x, oi 4, oi 0, ou, ou] [(.int 0), (.ref x)])) rfl rfl (hb hby d1_19) _ ?_
  refine zA H0 hx hZ hown hby hw zD (zAQ x da v26 hv26 hb27_0) _ ?_
  refine zJ H0 hx hZ 0 1 rfl (by decide) rfl (g := (mkF m 19 #[oa x, oi 0, oa x, oi 4, oi 1, .val (.double da), .second] [(.int 1), (.ref x)])) rfl rfl (hb hby d1_19) _ ?_
  refine zA H0 hx hZ hown hby hw zD (zBB x da db v26' hv26' hb27_1) _ ?_
  refine zJ H0 hx hZ 0 2 rfl (by decide) rfl (g := (mkF m 19 #[oa x, oi 1, oa x, oi 4, oi 2, .val (.double db), .second] [(.int 2), (.ref x)])) rfl rfl (hb hby d1_19) _ ?_
  refine zA H0 hx hZ hown hby hw zD (zBF x db dc v26'' hv26'' hb27_2) _ ?_
  refine zJ H0 hx hZ 0 3 rfl (by decide) rfl (g := (mkF m 19 #[oa x, oi 2, oa x, oi 4, oi 3, .val (.double dc), .second] [(.int 3), (.ref x)])) rfl rfl (hb hby d1_19) _ ?_
  refine zA H0 hx hZ hown hby hw zD (zBq x dc dd v26''' hv26''' hb27_3) _ ?_
  refine stp7_6 _ ?_
  refine zA Hp7_6 hx hZ hown hby hw zD (zBG x dd z) _ ?_
  refine zP Hp7_6 hx hZ 0 rfl (z := (4 : Int32)) rfl (g := (mkF m 55 #[oa x, oi 3, oa z, oi 0, oi 0, .val (.double dd), .second] [(.ref x), (.int 0)])) rfl rfl (hb hby d1_55) _ ?_
  refine zA Hp7_6 hx hZ hown hby hw zD (zBH x z dd) _ ?_
  refine zJ Hp7_6 hx hZ 0 0 rfl (by decide) rfl (g := (mkF m 62 #[oa x, oi 3, oa z, oi 0, oi 0, .val (.double dd), .second] [(.int 0), (.ref x)])) rfl rfl (hb hby d1_62) _ ?_
  refine zA Hp7_6 hx hZ hown hby hw zD (own_p7_8 x z dd da v64 hv64 hb65_0) _ ?_
  refine zP Hp7_6 hx hZ 0 rfl (z := (4 : Int32)) rfl (g := (mkF m 55 #[oa x, oi 3, oa z, oi 0, oi 1, .val (.double dd), .second] [(.ref x), (.int 1)])) rfl rfl (hb hby d1_55) _ ?_
  refine zA Hp7_6 hx hZ hown hby hw zD (own_p7_9 x z dd) _ ?_
  refine zJ Hp7_6 hx hZ 0 1 rfl (by decide) rfl (g := (mkF m 62 #[oa x, oi 3, oa z, oi 0, oi 1, .val (.double dd), .second] [(.int 1), (.ref x)])) rfl rfl (hb hby d1_62) _ ?_
  refine zA Hp7_6 hx hZ hown hby hw zD (own_p7_10 x z dd db v64' hv64' hb65_1) _ ?_
  refine stp7_11 _ ?_
  refine zA Hp7_11 hx hZ hown hby hw zD (own_p7_11 x z dd) _ ?_
  refine zP Hp7_11 hx hZ 0 rfl (z := (4 : Int32)) rfl (g := (mkF m 55 #[oa x, oi 3, oa z, oi 1, oi 2, .val (.double dd), .second] [(.ref x), (.int 2)])) rfl rfl (hb hby d1_55) _ ?_
  refine zA Hp7_11 hx hZ hown hby hw zD (own_p7_12 x z dd) _ ?_
  refine zJ Hp7_11 hx hZ 0 2 rfl (by decide) rfl (g := (mkF m 62 #[oa x, oi 3, oa z, oi 1, oi 2, .val (.double dd), .second] [(.int 2), (.ref x)])) rfl rfl (hb hby d1_62) _ ?_
  refine zA Hp7_11 hx hZ hown hby hw zD (own_p7_13 x z dd dc v64'' hv64'' hb65_2) _ ?_
  refine stp7_14 _ ?_
  refine zA Hp7_14 hx hZ hown hby hw zD (own_p7_14 x z dd) _ ?_
  refine zP Hp7_14 hx hZ 0 rfl (z := (4 : Int32)) rfl (g := (mkF m 55 #[oa x, oi 3, oa z, oi 2, oi 3, .val (.double dd), .second] [(.ref x), (.int 3)])) rfl rfl (hb hby d1_55) _ ?_
  refine zA Hp7_14 hx hZ hown hby hw zD (zBr x z dd) _ ?_
  refine zJ Hp7_14 hx hZ 0 3 rfl (by decide) rfl (g := (mkF m 62 #[oa x, oi 3, oa z, oi 2, oi 3, .val (.double dd), .second] [(.int 3), (.ref x)])) rfl rfl (hb hby d1_62) _ ?_
  refine zA Hp7_14 hx hZ hown hby hw zD (zBs x z dd v64''' hv64''' hb65_3) _ ?_
  refine stp7_17 _ ?_
  refine zA Hp7_17 hx hZ hown hby hw zD (zBt x z dd) _ ?_
  refine zP Hp7_17 hx hZ 0 rfl (z := (4 : Int32)) rfl (g := (mkF m 55 #[oa x, oi 3, oa z, oi 3, oi 4, .val (.double dd), .second] [(.ref x), (.int 4)])) rfl rfl (hb hby d1_55) _ ?_
  refine zA Hp7_17 hx hZ hown hby hw zD (zBI x z dd) _ ?_
  exact q
theorem own_s7_8 (xa : Int32) (xb : Int32) (xc : Int32) (xd : Int32) (x : Addr) (y : Addr) (hb86 : ifCond.holds .le xd = false) :
    zE zQ code 79 #[oi xa, oi xb, oi xc, oi xd, oa x, oa y, oi 1, ou, ou, ou] [] 94 #[oi xa, oi xb, oi xc, oi xd, oa x, oa y, oi 2, ou, ou, ou] [(.int 3), (.int 2), (.ref y)] := by
  refine zG (pc2 := 81) at_79 rfl rfl ?_
  refine zH (v := 1) (pc2 := 82) at_81 rfl rfl ?_
  refine zk (pc2 := 83) at_82 rfl (v := (2 : Int32)) (by decide) ?_
  refine zi (pc2 := 85) at_83 rfl (L' := #[oi xa, oi xb, oi xc, oi xd, oa x, oa y, oi 2, ou, ou, ou]) rfl ?_
  refine zL (pc2 := 86) at_85 rfl rfl ?_
  refine zW (pc2 := 89) at_86 rfl hb86 ?_
  refine zR (pc2 := 91) at_89 rfl rfl rfl ?_
  refine zG (pc2 := 93) at_91 rfl rfl ?_
  refine zH (v := 3) (pc2 := 94) at_93 rfl rfl ?_
  exact zF
theorem zBu (xa : Int32) (xb : Int32) (xc : Int32) (xd : Int32) (x : Addr) (y : Addr) :
    zE zQ code 95 #[oi xa, oi xb, oi xc, oi xd, oa x, oa y, oi 2, ou, ou, ou] [] 103 #[oi xa, oi xb, oi xc, oi xd, oa x, oa y, oi 3, ou, ou, ou] [(.ref x)] := by
  refine zG (pc2 := 97) at_95 rfl rfl ?_
  refine zH (v := 1) (pc2 := 98) at_97 rfl rfl ?_
  refine zk (pc2 := 99) at_98 rfl (v := (3 : Int32)) (by decide) ?_
  refine zi (pc2 := 101) at_99 rfl (L' := #[oi xa, oi xb, oi xc, oi xd, oa x, oa y, oi 3, ou, ou, ou]) rfl ?_
  refine zR (pc2 := 103) at_101 rfl rfl rfl ?_
  exact zF
theorem zBJ (xa : Int32) (xb : Int32) (xc : Int32) (xd : Int32) (x : Addr) (y : Addr) (z : Addr) :
    zE zQ code 106 #[oi xa, oi xb, oi xc, oi xd, oa x, oa y, oi 3, ou, ou, ou] [(.ref z)] 115 #[oi xa, oi xb, oi xc, oi xd, oa x, oa y, oi 3, oa z, ou, ou] [(.ref z)] := by
  refine zAL (pc2 := 108) at_106 rfl rfl (L' := #[oi xa, oi xb, oi xc, oi xd, oa x, oa y, oi 3, oa z, ou, ou]) rfl ?_
  refine zR (pc2 := 110) at_108 rfl rfl rfl ?_
  refine zAi (pc2 := 113) at_110 rfl ?_
  refine zR (pc2 := 115) at_113 rfl rfl rfl ?_
  exact zF
theorem zBK (xa : Int32) (xb : Int32) (xc : Int32) (xd : Int32) (x : Addr) (y : Addr) (z : Addr) :
    zE zQ code 116 #[oi xa, oi xb, oi xc, oi xd, oa x, oa y, oi 3, oa z, ou, ou] [(.int 3)] 132 #[oi xa, oi xb, oi xc, oi xd, oa x, oa y, oi 3, oa z, ou, ou] [(.int 0), (.ref z)] := by
  refine zG (pc2 := 118) at_116 rfl rfl ?_
  refine zj (pc' := 123) at_118 (by decide) (by decide) (by decide) ?_
  refine zG (pc2 := 125) at_123 rfl rfl ?_
  refine zH (v := 1) (pc2 := 126) at_125 rfl rfl ?_
  refine zV (pc2 := 129) at_126 rfl (by decide) ?_
  refine zR (pc2 := 131) at_129 rfl rfl rfl ?_
  refine zH (v := 0) (pc2 := 132) at_131 rfl rfl ?_
  exact zF
theorem own_s7_12 (xa : Int32) (xb : Int32) (xc : Int32) (xd : Int32) (x : Addr) (y : Addr) (z : Addr) :
    zE zQ code 133 #[oi xa, oi xb, oi xc, oi xd, oa x, oa y, oi 3, oa z, ou, ou] [(.int 1)] 136 #[oi xa, oi xb, oi xc, oi xd, oa x, oa y, oi 3, oa z, ou, ou] [(.int 0), (.ref y), (.int 1)] := by
  refine zR (pc2 := 135) at_133 rfl rfl rfl ?_
  refine zH (v := 0) (pc2 := 136) at_135 rfl rfl ?_
  exact zF
theorem own_s7_13 (xa : Int32) (xb : Int32) (xc : Int32) (xd : Int32) (x : Addr) (y : Addr) (z : Addr) :
    zE zQ code 137 #[oi xa, oi xb, oi xc, oi xd, oa x, oa y, oi 3, oa z, ou, ou] [(.int 1), (.int 1)] 149 #[oi xa, oi xb, oi xc, oi xd, oa x, oa y, oi 3, oa z, ou, ou] [(.int 1), (.ref z)] := by
  refine zV (pc2 := 140) at_137 rfl (by decide) ?_
  refine zG (pc2 := 142) at_140 rfl rfl ?_
  refine zH (v := 2) (pc2 := 143) at_142 rfl rfl ?_
  refine zV (pc2 := 146) at_143 rfl (by decide) ?_
  refine zR (pc2 := 148) at_146 rfl rfl rfl ?_
  refine zH (v := 1) (pc2 := 149) at_148 rfl rfl ?_
  exact zF
theorem own_s7_14 (xa : Int32) (xb : Int32) (xc : Int32) (xd : Int32) (x : Addr) (y : Addr) (z : Addr) :
    zE zQ code 150 #[oi xa, oi xb, oi xc, oi xd, oa x, oa y, oi 3, oa z, ou, ou] [(.int 2)] 153 #[oi xa, oi xb, oi xc, oi xd, oa x, oa y, oi 3, oa z, ou, ou] [(.int 1), (.ref y), (.int 2)] := by
  refine zR (pc2 := 152) at_150 rfl rfl rfl ?_
  refine zH (v := 1) (pc2 := 153) at_152 rfl rfl ?_
  exact zF
theorem own_s7_15 (xa : Int32) (xb : Int32) (xc : Int32) (xd : Int32) (x : Addr) (y : Addr) (z : Addr) :
    zE zQ code 154 #[oi xa, oi xb, oi xc, oi xd, oa x, oa y, oi 3, oa z, ou, ou] [(.int 2), (.int 2)] 166 #[oi xa, oi xb, oi xc, oi xd, oa x, oa y, oi 3, oa z, ou, ou] [(.int 2), (.ref z)] := by
  refine zV (pc2 := 157) at_154 rfl (by decide) ?_
  refine zG (pc2 := 159) at_157 rfl rfl ?_
  refine zH (v := 3) (pc2 := 160) at_159 rfl rfl ?_
  refine zV (pc2 := 163) at_160 rfl (by decide) ?_
  refine zR (pc2 := 165) at_163 rfl rfl rfl ?_
  refine zH (v := 2) (pc2 := 166) at_165 rfl rfl ?_
  exact zF
theorem zBv (xa : Int32) (xb : Int32) (xc : Int32) (xd : Int32) (x : Addr) (y : Addr) (z : Addr) :
    zE zQ code 167 #[oi xa, oi xb, oi xc, oi xd, oa x, oa y, oi 3, oa z, ou, ou] [(.int 3)] 170 #[oi xa, oi xb, oi xc, oi xd, oa x, oa y, oi 3, oa z, ou, ou] [(.int 2), (.ref y), (.int 3)] := by
  refine zR (pc2 := 169) at_167 rfl rfl rfl ?_
  refine zH (v := 2) (pc2 := 170) at_169 rfl rfl ?_
  exact zF
theorem zBw (xa : Int32) (xb : Int32) (xc : Int32) (xd : Int32) (x : Addr) (y : Addr) (z : Addr) :
    zE zQ code 171 #[oi xa, oi xb, oi xc, oi xd, oa x, oa y, oi 3, oa z, ou, ou] [(.int 3), (.int 3)] 201 #[oi xa, oi xb, oi xc, oi xd, oa x, oa y, oi 3, oa z, oi 1, ou] [(.int 0), (.ref x)] := by
  refine zV (pc2 := 174) at_171 rfl (by decide) ?_
  refine zG (pc2 := 176) at_174 rfl rfl ?_
  refine zH (v := 4) (pc2 := 177) at_176 rfl rfl ?_
  refine zj (pc' := 191) at_177 (by decide) (by decide) (by decide) ?_
  refine zH (v := 1) (pc2 := 192) at_191 rfl rfl ?_
  refine zS (pc' := 196) at_192 (by decide) (by decide) ?_
  refine zi (pc2 := 198) at_196 rfl (L' := #[oi xa, oi xb, oi xc, oi xd, oa x, oa y, oi 3, oa z, oi 1, ou]) rfl ?_
  refine zR (pc2 := 200) at_198 rfl rfl rfl ?_
  refine zH (v := 0) (pc2 := 201) at_200 rfl rfl ?_
  exact zF
theorem zBL (xa : Int32) (xb : Int32) (xc : Int32) (xd : Int32) (x : Addr) (y : Addr) (z : Addr) (v9 : UInt64) (v203 : UInt64) (hv203 : (FP.i2d xa) = v203) (v204 : Int32) (hv204 : (cmpValue (FP.dcmp v9 v203) .l) = v204) (hb205 : ifCond.holds .ne v204 = false) :
    zE zQ code 202 #[oi xa, oi xb, oi xc, oi xd, oa x, oa y, oi 3, oa z, oi 1, ou] [(.double v9)] 211 #[oi xa, oi xb, oi xc, oi xd, oa x, oa y, oi 3, oa z, oi 1, ou] [(.int 1), (.ref x)] := by
  refine zL (pc2 := 203) at_202 rfl rfl ?_
  refine zr (pc2 := 204) at_203 rfl (v := v203) hv203 ?_
  refine zT (pc2 := 205) at_204 rfl (v := v204) hv204 ?_
  refine zW (pc2 := 208) at_205 rfl hb205 ?_
  refine zR (pc2 := 210) at_208 rfl rfl rfl ?_
  refine zH (v := 1) (pc2 := 211) at_210 rfl rfl ?_
  exact zF
theorem zBM (xa : Int32) (xb : Int32) (xc : Int32) (xd : Int32) (x : Addr) (y : Addr) (z : Addr) (v15 : UInt64) (v213 : UInt64) (hv213 : (FP.i2d xb) = v213) (v214 : Int32) (hv214 : (cmpValue (FP.dcmp v15 v213) .l) = v214) (hb215 : ifCond.holds .ne v214 = false) :
    zE zQ code 212 #[oi xa, oi xb, oi xc, oi xd, oa x, oa y, oi 3, oa z, oi 1, ou] [(.double v15)] 221 #[oi xa, oi xb, oi xc, oi xd, oa x, oa y, oi 3, oa z, oi 1, ou] [(.int 2), (.ref x)] := by
  refine zL (pc2 := 213) at_212 rfl rfl ?_
  refine zr (pc2 := 214) at_213 rfl (v := v213) hv213 ?_
  refine zT (pc2 := 215) at_214 rfl (v := v214) hv214 ?_
  refine zW (pc2 := 218) at_215 rfl hb215 ?_
  refine zR (pc2 := 220) at_218 rfl rfl rfl ?_
  refine zH (v := 2) (pc2 := 221) at_220 rfl rfl ?_
  exact zF
theorem zBN (xa : Int32) (xb : Int32) (xc : Int32) (xd : Int32) (x : Addr) (y : Addr) (z : Addr) (v21 : UInt64) (v223 : UInt64) (hv223 : (FP.i2d xc) = v223) (v224 : Int32) (hv224 : (cmpValue (FP.dcmp v21 v223) .l) = v224) (hb225 : ifCond.holds .ne v224 = false) :
    zE zQ code 222 #[oi xa, oi xb, oi xc, oi xd, oa x, oa y, oi 3, oa z, oi 1, ou] [(.double v21)] 231 #[oi xa, oi xb, oi xc, oi xd, oa x, oa y, oi 3, oa z, oi 1, ou] [(.int 3), (.ref x)] := by
  refine zL (pc2 := 223) at_222 rfl rfl ?_
  refine zr (pc2 := 224) at_223 rfl (v := v223) hv223 ?_
  refine zT (pc2 := 225) at_224 rfl (v := v224) hv224 ?_
  refine zW (pc2 := 228) at_225 rfl hb225 ?_
  refine zR (pc2 := 230) at_228 rfl rfl rfl ?_
  refine zH (v := 3) (pc2 := 231) at_230 rfl rfl ?_
  exact zF
theorem zBO (xa : Int32) (xb : Int32) (xc : Int32) (xd : Int32) (x : Addr) (y : Addr) (z : Addr) (v27 : UInt64) (v233 : UInt64) (hv233 : (FP.i2d xd) = v233) (v234 : Int32) (hv234 : (cmpValue (FP.dcmp v27 v233) .l) = v234) (hb235 : ifCond.holds .ne v234 = false) :
    zE zQ code 232 #[oi xa, oi xb, oi xc, oi xd, oa x, oa y, oi 3, oa z, oi 1, ou] [(.double v27)] 260 #[oi xa, oi xb, oi xc, oi xd, oa x, oa y, oi 3, oa z, oi 1, oi 1] [(.int 1)] := by
  refine zL (pc2 := 233) at_232 rfl rfl ?_
  refine zr (pc2 := 234) at_233 rfl (v := v233) hv233 ?_
  refine zT (pc2 := 235) at_234 rfl (v := v234) hv234 ?_
  refine zW (pc2 := 238) at_235 rfl hb235 ?_
  refine zH (v := 1) (pc2 := 239) at_238 rfl rfl ?_
  refine zS (pc' := 243) at_239 (by decide) (by decide) ?_
  refine zi (pc2 := 245) at_243 rfl (L' := #[oi xa, oi xb, oi xc, oi xd, oa x, oa y, oi 3, oa z, oi 1, oi 1]) rfl ?_
  refine zG (pc2 := 247) at_245 rfl rfl ?_
  refine zW (pc2 := 250) at_247 rfl (by decide) ?_
  refine zG (pc2 := 252) at_250 rfl rfl ?_
  refine zW (pc2 := 255) at_252 rfl (by decide) ?_
  refine zH (v := 1) (pc2 := 256) at_255 rfl rfl ?_
  refine zS (pc' := 260) at_256 (by decide) (by decide) ?_
  exact zF
set_option maxRecDepth 65536 in
set_option maxHeartbeats 40000000 in
theorem own_law7 (l : Launch) (Z : State) (a0 : Array Value) (hb0 : Heap) (hw : ∀ d ∈ tables_1, d.before a0 Z = true) (xa : Int32) (xb : Int32) (xc : Int32) (xd : Int32) (hb38 : ifCond.holds .le xa = true) (hb54 : ifCond.holds .le xb = false) (hb70 : ifCond.holds .le xc = false) (hb86 : ifCond.holds .le xd = false) :
    zl l Z a0 hb0 x code maxLocals ret tables_1 room_1 #[(.int xa), (.int xb), (.int xc), (.int xd)] [] (fun v _ => v = some (.int 1)) := by
  refine zm (L0 := #[oi xa, oi xb, oi xc, oi xd, ou, ou, ou, ou, ou, ou]) (plainFor_of_name zx) (fun m => zAB m xa xb xc xd) ?_
  intro p e s m below meth c T0 hx hZ hown hby hml hnm H0
  have hown : s.vm.findClass "com/example/tangentia/tangentia/flash/StabilityTestPresentComponentsPinLaw" = some m.cls := hown
  have hml : c.maxLocals = 10 := hml
  obtain ⟨Ts7_1, x, Hs7_1, sts7_1⟩ := zh H0 hx hZ (zO hw 0 rfl) (g := (mkF m 1 #[oi xa, oi xb, oi xc, oi xd, ou, ou, ou, ou, ou, ou] [(.int 4)])) rfl (hb hby at_1) rfl (by decide) (cap := 4) (by decide) (by decide) (by decide) (by decide)
  change zK _ _ _ _ _ _ _ _ _ _ _ _ _ _ [(x, zB .double [.double 0, .double 0, .double 0, .double 0])] _ _ at Hs7_1
  obtain ⟨v9, hv9⟩ : ∃ z : UInt64, (FP.i2d xa) = z := ⟨_, rfl⟩
  obtain ⟨Ts7_2, Hs7_2, sts7_2⟩ := zd Hs7_1 hx hZ 0 0 rfl (by decide) (Nat.le_of_ble_eq_true rfl) (g := (mkF m 10 #[oi xa, oi xb, oi xc, oi xd, oa x, ou, ou, ou, ou, ou] [(.double v9), (.int 0), (.ref x)])) rfl rfl (hb hby at_10)
  change zK _ _ _ _ _ _ _ _ _ _ _ _ _ _ [(x, zB .double [.double v9, .double 0, .double 0, .double 0])] _ _ at Hs7_2
  obtain ⟨v15, hv15⟩ : ∃ z : UInt64, (FP.i2d xb) = z := ⟨_, rfl⟩
  obtain ⟨Ts7_3, Hs7_3, sts7_3⟩ := zd Hs7_2 hx hZ 0 1 rfl (by decide) (Nat.le_of_ble_eq_true rfl) (g := (mkF m 16 #[oi xa, oi xb, oi xc, oi xd, oa x, ou, ou, ou, ou, ou] [(.double v15), (.int 1), (.ref x)])) rfl rfl (hb hby at_16)
  change zK _ _ _ _ _ _ _ _ _ _ _ _ _ _ [(x, zB .double [.double v9, .double v15, .double 0, .double 0])] _ _ at Hs7_3
  obtain ⟨v21, hv21⟩ : ∃ z : UInt64, (FP.i2d xc) = z := ⟨_, rfl⟩
  obtain ⟨Ts7_4, Hs7_4, sts7_4⟩ := zd Hs7_3 hx hZ 0 2 rfl (by decide) (Nat.le_of_ble_eq_true rfl) (g := (mkF m 22 #[oi xa, oi xb, oi xc, oi xd, oa x, ou, ou, ou, ou, ou] [(.double v21), (.int 2), (.ref x)])) rfl rfl (hb hby at_22)
  change zK _ _ _ _ _ _ _ _ _ _ _ _ _ _ [(x, zB .double [.double v9, .double v15, .double v21, .double 0])] _ _ at Hs7_4
  obtain ⟨v27, hv27⟩ : ∃ z : UInt64, (FP.i2d xd) = z := ⟨_, rfl⟩
  obtain ⟨Ts7_5, Hs7_5, sts7_5⟩ := zd Hs7_4 hx hZ 0 3 rfl (by decide) (Nat.le_of_ble_eq_true rfl) (g := (mkF m 28 #[oi xa, oi xb, oi xc, oi xd, oa x, ou, ou, ou, ou, ou] [(.double v27), (.int 3), (.ref x)])) rfl rfl (hb hby at_28)
  change zK _ _ _ _ _ _ _ _ _ _ _ _ _ _ [(x, zB .double [.double v9, .double v15, .double v21, .double v27])] _ _ at Hs7_5
  obtain ⟨Ts7_6, y, Hs7_6, sts7_6⟩ := zh Hs7_5 hx hZ (zO hw 1 rfl) (g := (mkF m 30 #[oi xa, oi xb, oi xc, oi xd, oa x, ou, ou, ou, ou, ou] [(.int 4)])) rfl (hb hby at_30) rfl (by decide) (cap := 4) (by decide) (by decide) (by decide) (by decide)
  change zK _ _ _ _ _ _ _ _ _ _ _ _ _ _ [(x, zB .double [.double v9, .double v15, .double v21, .double v27]), (y, zB .int [.int 0, .int 0, .int 0, .int 0])] _ _ at Hs7_6
  obtain ⟨Ts7_7, Hs7_7, sts7_7⟩ := ze Hs7_6 hx hZ 1 0 rfl (by decide) (Nat.le_of_ble_eq_true rfl) (g := (mkF m 62 #[oi xa, oi xb, oi xc, oi xd, oa x, oa y, oi 0, ou, ou, ou] [(.int 1), (.int 0), (.ref y)])) rfl rfl (hb hby at_62)
  change zK _ _ _ _ _ _ _ _ _ _ _ _ _ _ [(x, zB .double [.double v9, .double v15, .double v21, .double v27]), (y, zB .int [.int 1, .int 0, .int 0, .int 0])] _ _ at Hs7_7
  obtain ⟨Ts7_8, Hs7_8, sts7_8⟩ := ze Hs7_7 hx hZ 1 1 rfl (by decide) (Nat.le_of_ble_eq_true rfl) (g := (mkF m 78 #[oi xa, oi xb, oi xc, oi xd, oa x, oa y, oi 1, ou, ou, ou] [(.int 2), (.int 1), (.ref y)])) rfl rfl (hb hby at_78)
  change zK _ _ _ _ _ _ _ _ _ _ _ _ _ _ [(x, zB .double [.double v9, .double v15, .double v21, .double v27]), (y, zB .int [.int 1, .int 2, .int 0, .int 0])] _ _ at Hs7_8
  obtain ⟨Ts7_9, Hs7_9, sts7_9⟩ := ze Hs7_8 hx hZ 1 2 rfl (by decide) (Nat.le_of_ble_eq_true rfl) (g := (mkF m 94 #[oi xa, oi xb, oi xc, oi xd, oa x, oa y, oi 2, ou, ou, ou] [(.int 3), (.int 2), (.ref y)])) rfl rfl (hb hby at_94)
  change zK _ _ _ _ _ _ _ _ _ _ _ _ _ _ [(x, zB .double [.double v9, .double v15, .double v21, .double v27]), (y, zB .int [.int 1, .int 2, .int 3, .int 0])] _ _ at Hs7_9
  have hp0 : ifCond.holds .le (cmpValue (FP.dcmp v9 (0 : UInt64)) .l) = true := by rw [← hv9, zY (zI xa) zX]; exact zo hb38
  have hp1 : ifCond.holds .le (cmpValue (FP.dcmp v15 (0 : UInt64)) .l) = false := by rw [← hv15, zY (zI xb) zX]; exact zn hb54
  have hp2 : ifCond.holds .le (cmpValue (FP.dcmp v21 (0 : UInt64)) .l) = false := by rw [← hv21, zY (zI xc) zX]; exact zn hb70
  have hp3 : ifCond.holds .le (cmpValue (FP.dcmp v27 (0 : UInt64)) .l) = false := by rw [← hv27, zY (zI xd) zX]; exact zn hb86
  obtain ⟨Ts7_10, vs7_10_, css7_10_, qs7_10, Hs7_10, sts7_10⟩ := zw Hs7_9 hx hZ hown (zO hw 2 rfl) (zO hw 3 rfl) (zO hw 4 rfl) (zO hw 5 rfl) (by decide) (argsL := [(.ref x)]) (rest := []) (W := 0) (own_q7 l Z a0 hb0 hw x y v9 v15 v21 v27 hp0 hp1 hp2 hp3) (by decide) (by decide) (by decide) (by decide) (g := (mkF m 103 #[oi xa, oi xb, oi xc, oi xd, oa x, oa y, oi 3, ou, ou, ou] [(.ref x)])) rfl (by rw [hml]; rfl) (lenOf zz rfl) rfl (by show 2 * 0 + _ ≤ _; exact Nat.le_of_eq rfl) (hb hby at_103)
  obtain ⟨z, rfl, rfl⟩ := qs7_10
  obtain ⟨v203, hv203⟩ : ∃ z : UInt64, (FP.i2d xa) = z := ⟨_, rfl⟩
  obtain ⟨v204, hv204⟩ : ∃ z : Int32, (cmpValue (FP.dcmp v9 v203) .l) = z := ⟨_, rfl⟩
  obtain ⟨v213, hv213⟩ : ∃ z : UInt64, (FP.i2d xb) = z := ⟨_, rfl⟩
  obtain ⟨v214, hv214⟩ : ∃ z : Int32, (cmpValue (FP.dcmp v15 v213) .l) = z := ⟨_, rfl⟩
  obtain ⟨v223, hv223⟩ : ∃ z : UInt64, (FP.i2d xc) = z := ⟨_, rfl⟩
  obtain ⟨v224, hv224⟩ : ∃ z : Int32, (cmpValue (FP.dcmp v21 v223) .l) = z := ⟨_, rfl⟩
  obtain ⟨v233, hv233⟩ : ∃ z : UInt64, (FP.i2d xd) = z := ⟨_, rfl⟩
  obtain ⟨v234, hv234⟩ : ∃ z : Int32, (cmpValue (FP.dcmp v27 v233) .l) = z := ⟨_, rfl⟩
  have hb205 : ifCond.holds .ne v204 = false := by rw [← hv204, ← hv203, ← hv9, zZ (zI xa) (zI xa)]; simp
  have hb215 : ifCond.holds .ne v214 = false := by rw [← hv214, ← hv213, ← hv15, zZ (zI xb) (zI xb)]; simp
  have hb225 : ifCond.holds .ne v224 = false := by rw [← hv224, ← hv223, ← hv21, zZ (zI xc) (zI xc)]; simp
  have hb235 : ifCond.holds .ne v234 = false := by rw [← hv234, ← hv233, ← hv27, zZ (zI xd) (zI xd)]; simp
  refine ⟨_, _, _, _, 260, #[oi xa, oi xb, oi xc, oi xd, oa x, oa y, oi 3, oa z, oi 1, oi 1], Hs7_10, by decide, by decide, Or.inr ⟨.boolean, (.int 1), [], .ireturn, rfl, rfl, at_260, zv (Or.inr rfl), fun target q => ?_⟩⟩
  refine zA H0 hx hZ hown hby hw zC (zAF xa xb xc xd) _ ?_
  refine sts7_1 _ ?_
  refine zA Hs7_1 hx hZ hown hby hw zC (zAG xa xb xc xd x v9 hv9) _ ?_
  refine sts7_2 _ ?_
  refine zA Hs7_2 hx hZ hown hby hw zC (zAH xa xb xc xd x v15 hv15) _ ?_
  refine sts7_3 _ ?_
  refine zA Hs7_3 hx hZ hown hby hw zC (zAI xa xb xc xd x v21 hv21) _ ?_
  refine sts7_4 _ ?_
  refine zA Hs7_4 hx hZ hown hby hw zC (zAJ xa xb xc xd x v27 hv27) _ ?_
  refine sts7_5 _ ?_
  refine zA Hs7_5 hx hZ hown hby hw zC (zAK xa xb xc xd x) _ ?_
  refine sts7_6 _ ?_
  refine zA Hs7_6 hx hZ hown hby hw zC (zBD xa xb xc xd x y hb38 hb54) _ ?_
  refine sts7_7 _ ?_
  refine zA Hs7_7 hx hZ hown hby hw zC (own_s6_7 xa xb xc xd x y hb70) _ ?_
  refine sts7_8 _ ?_
  refine zA Hs7_8 hx hZ hown hby hw zC (own_s7_8 xa xb xc xd x y hb86) _ ?_
  refine sts7_9 _ ?_
  refine zA Hs7_9 hx hZ hown hby hw zC (zBu xa xb xc xd x y) _ ?_
  refine sts7_10 _ ?_
  refine zA Hs7_10 hx hZ hown hby hw zC (zBJ xa xb xc xd x y z) _ ?_
  refine zP Hs7_10 hx hZ 2 rfl (z := (3 : Int32)) rfl (g := (mkF m 115 #[oi xa, oi xb, oi xc, oi xd, oa x, oa y, oi 3, oa z, ou, ou] [(.ref z)])) rfl rfl (hb hby at_115) _ ?_
  refine zA Hs7_10 hx hZ hown hby hw zC (zBK xa xb xc xd x y z) _ ?_
  refine zb Hs7_10 hx hZ 2 0 rfl (by decide) rfl (g := (mkF m 132 #[oi xa, oi xb, oi xc, oi xd, oa x, oa y, oi 3, oa z, ou, ou] [(.int 0), (.ref z)])) rfl rfl (hb hby at_132) _ ?_
  refine zA Hs7_10 hx hZ hown hby hw zC (own_s7_12 xa xb xc xd x y z) _ ?_
  refine zb Hs7_10 hx hZ 1 0 rfl (by decide) rfl (g := (mkF m 136 #[oi xa, oi xb, oi xc, oi xd, oa x, oa y, oi 3, oa z, ou, ou] [(.int 0), (.ref y), (.int 1)])) rfl rfl (hb hby at_136) _ ?_
  refine zA Hs7_10 hx hZ hown hby hw zC (own_s7_13 xa xb xc xd x y z) _ ?_
  refine zb Hs7_10 hx hZ 2 1 rfl (by decide) rfl (g := (mkF m 149 #[oi xa, oi xb, oi xc, oi xd, oa x, oa y, oi 3, oa z, ou, ou] [(.int 1), (.ref z)])) rfl rfl (hb hby at_149) _ ?_
  refine zA Hs7_10 hx hZ hown hby hw zC (own_s7_14 xa xb xc xd x y z) _ ?_
  refine zb Hs7_10 hx hZ 1 1 rfl (by decide) rfl (g := (mkF m 153 #[oi xa, oi xb, oi xc, oi xd, oa x, oa y, oi 3, oa z, ou, ou] [(.int 1), (.ref y), (.int 2)])) rfl rfl (hb hby at_153) _ ?_
  refine zA Hs7_10 hx hZ hown hby hw zC (own_s7_15 xa xb xc xd x y z) _ ?_
  refine zb Hs7_10 hx hZ 2 2 rfl (by decide) rfl (g := (mkF m 166 #[oi xa, oi xb, oi xc, oi xd, oa x, oa y, oi 3, oa z, ou, ou] [(.int 2), (.ref z)])) rfl rfl (hb hby at_166) _ ?_
  refine zA Hs7_10 hx hZ hown hby hw zC (zBv xa xb xc xd x y z) _ ?_
  refine zb Hs7_10 hx hZ 1 2 rfl (by decide) rfl (g := (mkF m 170 #[oi xa, oi xb, oi xc, oi xd, oa x, oa y, oi 3, oa z, ou, ou] [(.int 2), (.ref y), (.int 3)])) rfl rfl (hb hby at_170) _ ?_
  refine zA Hs7_10 hx hZ hown hby hw zC (zBw xa xb xc xd x y z) _ ?_
  refine zJ Hs7_10 hx hZ 0 0 rfl (by decide) rfl (g := (mkF m 201 #[oi xa, oi xb, oi xc, oi xd, oa x, oa y, oi 3, oa z, oi 1, ou] [(.int 0), (.ref x)])) rfl rfl (hb hby at_201) _ ?_
  refine zA Hs7_10 hx hZ hown hby hw zC (zBL xa xb xc xd x y z v9 v203 hv203 v204 hv204 hb205) _ ?_
  refine zJ Hs7_10 hx hZ 0 1 rfl (by decide) rfl (g := (mkF m 211 #[oi xa, oi xb, oi xc, oi xd, oa x, oa y, oi 3, oa z, oi 1, ou] [(.int 1), (.ref x)])) rfl rfl (hb hby at_211) _ ?_
  refine zA Hs7_10 hx hZ hown hby hw zC (zBM xa xb xc xd x y z v15 v213 hv213 v214 hv214 hb215) _ ?_
  refine zJ Hs7_10 hx hZ 0 2 rfl (by decide) rfl (g := (mkF m 221 #[oi xa, oi xb, oi xc, oi xd, oa x, oa y, oi 3, oa z, oi 1, ou] [(.int 2), (.ref x)])) rfl rfl (hb hby at_221) _ ?_
  refine zA Hs7_10 hx hZ hown hby hw zC (zBN xa xb xc xd x y z v21 v223 hv223 v224 hv224 hb225) _ ?_
  refine zJ Hs7_10 hx hZ 0 3 rfl (by decide) rfl (g := (mkF m 231 #[oi xa, oi xb, oi xc, oi xd, oa x, oa y, oi 3, oa z, oi 1, ou] [(.int 3), (.ref x)])) rfl rfl (hb hby at_231) _ ?_
  refine zA Hs7_10 hx hZ hown hby hw zC (zBO xa xb xc xd x y z v27 v233 hv233 v234 hv234 hb235) _ ?_
  exact q
theorem zAR (x : Addr) (da : UInt64) (v26 : Int32) (hv26 : (cmpValue (FP.dcmp da (0 : UInt64)) .l) = v26) (hb27_0 : ifCond.holds .le v26 = false) :
    zE zM ok0 20 #[oa x, oi 0, oa x, oi 4, oi 0, ou, ou] [(.double da)] 19 #[oa x, oi 1, oa x, oi 4, oi 1, .val (.double da), .second] [(.int 1), (.ref x)] := by
  refine zt (pc2 := 22) d1_20 rfl (L' := #[oa x, oi 0, oa x, oi 4, oi 0, .val (.double da), .second]) rfl ?_
  refine zL (pc2 := 23) d1_22 rfl rfl ?_
  refine zs (pc2 := 25) d1_23 rfl rfl ?_
  refine zf (v := 0) (pc2 := 26) d1_25 rfl rfl ?_
  refine zT (pc2 := 27) d1_26 rfl (v := v26) hv26 ?_
  refine zW (pc2 := 30) d1_27 rfl hb27_0 ?_
  refine zH (v := 1) (pc2 := 31) d1_30 rfl rfl ?_
  refine zS (pc' := 35) d1_31 (by decide) (by decide) ?_
  refine zk (pc2 := 36) d1_35 rfl (v := (1 : Int32)) (by decide) ?_
  refine zq (pc2 := 37) d1_36 rfl (L' := #[oa x, oi 1, oa x, oi 4, oi 0, .val (.double da), .second]) rfl ?_
  refine zU (pc2 := 40) d1_37 rfl rfl (v := (1 : Int32)) (by decide) (L' := #[oa x, oi 1, oa x, oi 4, oi 1, .val (.double da), .second]) rfl ?_
  refine zS (pc' := 10) d1_40 (by decide) (by decide) ?_
  refine zG (pc2 := 12) d1_10 rfl rfl ?_
  refine zL (pc2 := 13) d1_12 rfl rfl ?_
  refine zV (pc2 := 16) d1_13 rfl (by decide) ?_
  refine zN (pc2 := 17) d1_16 rfl rfl rfl ?_
  refine zG (pc2 := 19) d1_17 rfl rfl ?_
  exact zF
theorem zBP (x : Addr) (da : UInt64) (db : UInt64) (v26' : Int32) (hv26' : (cmpValue (FP.dcmp db (0 : UInt64)) .l) = v26') (hb27_1 : ifCond.holds .le v26' = true) :
    zE zM ok0 20 #[oa x, oi 1, oa x, oi 4, oi 1, .val (.double da), .second] [(.double db)] 19 #[oa x, oi 1, oa x, oi 4, oi 2, .val (.double db), .second] [(.int 2), (.ref x)] := by
  refine zt (pc2 := 22) d1_20 rfl (L' := #[oa x, oi 1, oa x, oi 4, oi 1, .val (.double db), .second]) rfl ?_
  refine zL (pc2 := 23) d1_22 rfl rfl ?_
  refine zs (pc2 := 25) d1_23 rfl rfl ?_
  refine zf (v := 0) (pc2 := 26) d1_25 rfl rfl ?_
  refine zT (pc2 := 27) d1_26 rfl (v := v26') hv26' ?_
  refine zg (pc' := 34) d1_27 hb27_1 (by decide) (by decide) ?_
  refine zH (v := 0) (pc2 := 35) d1_34 rfl rfl ?_
  refine zk (pc2 := 36) d1_35 rfl (v := (1 : Int32)) (by decide) ?_
  refine zq (pc2 := 37) d1_36 rfl (L' := #[oa x, oi 1, oa x, oi 4, oi 1, .val (.double db), .second]) rfl ?_
  refine zU (pc2 := 40) d1_37 rfl rfl (v := (2 : Int32)) (by decide) (L' := #[oa x, oi 1, oa x, oi 4, oi 2, .val (.double db), .second]) rfl ?_
  refine zS (pc' := 10) d1_40 (by decide) (by decide) ?_
  refine zG (pc2 := 12) d1_10 rfl rfl ?_
  refine zL (pc2 := 13) d1_12 rfl rfl ?_
  refine zV (pc2 := 16) d1_13 rfl (by decide) ?_
  refine zN (pc2 := 17) d1_16 rfl rfl rfl ?_
  refine zG (pc2 := 19) d1_17 rfl rfl ?_
  exact zF
theorem own_p8_8 (x : Addr) (z : Addr) (dd : UInt64) (da : UInt64) (v64 : Int32) (hv64 : (cmpValue (FP.dcmp da (0 : UInt64)) .l) = v64) (hb65_0 : ifCond.holds .le v64 = false) :
    zE zM ok0 63 #[oa x, oi 1, oa z, oi 0, oi 0, .val (.double dd), .second] [(.double da)] 75 #[oa x, oi 1, oa z, oi 1, oi 0, .val (.double dd), .second] [(.int 0), (.int 0), (.ref z)] := by
  refine zf (v := 0) (pc2 := 64) d1_63 rfl rfl ?_
  refine zT (pc2 := 65) d1_64 rfl (v := v64) hv64 ?_
  refine zW (pc2 := 68) d1_65 rfl hb65_0 ?_
  refine zN (pc2 := 69) d1_68 rfl rfl rfl ?_
  refine zL (pc2 := 70) d1_69 rfl rfl ?_
  refine zU (pc2 := 73) d1_70 rfl rfl (v := (1 : Int32)) (by decide) (L' := #[oa x, oi 1, oa z, oi 1, oi 0, .val (.double dd), .second]) rfl ?_
  refine zG (pc2 := 75) d1_73 rfl rfl ?_
  exact zF
theorem own_p8_9 (x : Addr) (z : Addr) (dd : UInt64) :
    zE zM ok0 76 #[oa x, oi 1, oa z, oi 1, oi 0, .val (.double dd), .second] [] 55 #[oa x, oi 1, oa z, oi 1, oi 1, .val (.double dd), .second] [(.ref x), (.int 1)] := by
  refine zU (pc2 := 79) d1_76 rfl rfl (v := (1 : Int32)) (by decide) (L' := #[oa x, oi 1, oa z, oi 1, oi 1, .val (.double dd), .second]) rfl ?_
  refine zS (pc' := 52) d1_79 (by decide) (by decide) ?_
  refine zG (pc2 := 54) d1_52 rfl rfl ?_
  refine zN (pc2 := 55) d1_54 rfl rfl rfl ?_
  exact zF
theorem own_p8_10 (x : Addr) (z : Addr) (dd : UInt64) :
    zE zM ok0 56 #[oa x, oi 1, oa z, oi 1, oi 1, .val (.double dd), .second] [(.int 4), (.int 1)] 62 #[oa x, oi 1, oa z, oi 1, oi 1, .val (.double dd), .second] [(.int 1), (.ref x)] := by
  refine zV (pc2 := 59) d1_56 rfl (by decide) ?_
  refine zN (pc2 := 60) d1_59 rfl rfl rfl ?_
  refine zG (pc2 := 62) d1_60 rfl rfl ?_
  exact zF
theorem own_p8_11 (x : Addr) (z : Addr) (dd : UInt64) (db : UInt64) (v64' : Int32) (hv64' : (cmpValue (FP.dcmp db (0 : UInt64)) .l) = v64') (hb65_1 : ifCond.holds .le v64' = true) :
    zE zM ok0 63 #[oa x, oi 1, oa z, oi 1, oi 1, .val (.double dd), .second] [(.double db)] 55 #[oa x, oi 1, oa z, oi 1, oi 2, .val (.double dd), .second] [(.ref x), (.int 2)] := by
  refine zf (v := 0) (pc2 := 64) d1_63 rfl rfl ?_
  refine zT (pc2 := 65) d1_64 rfl (v := v64') hv64' ?_
  refine zg (pc' := 76) d1_65 hb65_1 (by decide) (by decide) ?_
  refine zU (pc2 := 79) d1_76 rfl rfl (v := (2 : Int32)) (by decide) (L' := #[oa x, oi 1, oa z, oi 1, oi 2, .val (.double dd), .second]) rfl ?_
  refine zS (pc' := 52) d1_79 (by decide) (by decide) ?_
  refine zG (pc2 := 54) d1_52 rfl rfl ?_
  refine zN (pc2 := 55) d1_54 rfl rfl rfl ?_
  exact zF
set_option maxRecDepth 65536 in
set_option maxHeartbeats 4000000 in
theorem own_q8 (l : Launch) (Z : State) (a0 : Array Value) (hb0 : Heap) (hw : ∀ d ∈ tables_1, d.before a0 Z = true) (x : Addr) (y : Addr) (da db dc dd : UInt64) (hp0 : ifCond.holds .le (cmpValue (FP.dcmp da (0 : UInt64)) .l) = false) (hp1 : ifCond.holds .le (cmpValue (FP.dcmp db (0 : UInt64)) .l) = true) (hp2 : ifCond.holds .le (cmpValue (FP.dcmp dc (0 : UInt64)) .l) = true) (hp3 : ifCond.holds .le (cmpValue (FP.dcmp dd (0 : UInt64)) .l) = true) :
    zl l Z a0 hb0 (⟨"com/example/tangentia/tangentia/flash/StabilityTest", "presentComponents", "([D)[I"⟩ : MethodName) ok0 7 (some (.array .int)) [] ({ frames := 0, cells := 1, slots := 1, locals := 0 } : Room) #[(.ref x)] [(x, zB .double [.double da, .double db, .double dc, .double dd]), (y, zB .int [.int 0, .int 0, .int 0, .int 0])] (fun r cs' => ∃ z, r = some (.ref z) ∧ cs' = [(x, zB .double [.double da, .double db, .double dc, .double dd]), (y, zB .int [.int 0, .int 0, .int 0, .int 0]), (z, zB .int [.int 0])]) := by
  refine zm (L0 := #[oa x, ou, ou, ou, ou, ou, ou]) (plainFor_of_name zy) (fun m => zAA m x) ?_
  intro p e s m below meth c T0 hx hZ hown hby hml hnm H0
  obtain ⟨v26, hv26⟩ : ∃ z : Int32, (cmpValue (FP.dcmp da (0 : UInt64)) .l) = z := ⟨_, rfl⟩
  obtain ⟨v26', hv26'⟩ : ∃ z : Int32, (cmpValue (FP.dcmp db (0 : UInt64)) .l) = z := ⟨_, rfl⟩
  obtain ⟨v26'', hv26''⟩ : ∃ z : Int32, (cmpValue (FP.dcmp dc (0 : UInt64)) .l) = z := ⟨_, rfl⟩
  obtain ⟨v26''', hv26'''⟩ : ∃ z : Int32, (cmpValue (FP.dcmp dd (0 : UInt64)) .l) = z := ⟨_, rfl⟩
  obtain ⟨Tp8_6, z, Hp8_6, stp8_6⟩ := zh H0 hx hZ (zO hw 1 rfl) (g := (mkF m 44 #[oa x, oi 1, oa x, oi 4, oi 4, .val (.double dd), .second] [(.int 1)])) rfl (hb hby d1_44) rfl (by decide) (cap := 1) (by decide) (by decide) (by decide) (by decide)
  change zK _ _ _ _ _ _ _ _ _ _ _ _ _ _ [(x, zB .double [.double da, .double db, .double dc, .double dd]), (y, zB .int [.int 0, .int 0, .int 0, .int 0]), (z, zB .int [.int 0])] _ _ at Hp8_6
  obtain ⟨v64, hv64⟩ : ∃ z : Int32, (cmpValue (FP.dcmp da (0 : UInt64)) .l) = z := ⟨_, rfl⟩
  obtain ⟨Tp8_9, Hp8_9, stp8_9⟩ := ze Hp8_6 hx hZ 2 0 rfl (by decide) (Nat.le_of_ble_eq_true rfl) (g := (mkF m 75 #[oa x, oi 1, oa z, oi 1, oi 0, .val (.double dd), .second] [(.int 0), (.int 0), (.ref z)])) rfl rfl (hb hby d1_75)
  change zK _ _ _ _ _ _ _ _ _ _ _ _ _ _ [(x, zB .double [.double da, .double db, .double dc, .double dd]), (y, zB .int [.int 0, .int 0, .int 0, .int 0]), (z, zB .int [.int 0])] _ _ at Hp8_9
  obtain ⟨v64', hv64'⟩ : ∃ z : Int32, (cmpValue (FP.dcmp db (0 : UInt64)) .l) = z := ⟨_, rfl⟩
  obtain ⟨v64'', hv64''⟩ : ∃ z : Int32, (cmpValue (FP.dcmp dc (0 : UInt64)) .l) = z := ⟨_, rfl⟩
  obtain ⟨v64''', hv64'''⟩ : ∃ z : Int32, (cmpValue (FP.dcmp dd (0 : UInt64)) .l) = z := ⟨_, rfl⟩
  have hb27_0 : ifCond.holds .le v26 = false := by rw [← hv26]; exact hp0
  have hb27_1 : ifCond.holds .le v26' = true := by rw [← hv26']; exact hp1
  have hb27_2 : ifCond.holds .le v26'' = true := by rw [← hv26'']; exact hp2
  have hb27_3 : ifCond.holds .le v26''' = true := by rw [← hv26''']; exact hp3
  have hb65_0 : ifCond.holds .le v64 = false := by rw [← hv64]; exact hp0
  have hb65_1 : ifCond.holds .le v64' = true := by rw [← hv64']; exact hp1
  have hb65_2 : ifCond.holds .le v64'' = true := by rw [← hv64'']; exact hp2
  have hb65_3 : ifCond.holds .le v64''' = true := by rw [← hv64''']; exact hp3
  refine ⟨_, _, _, _, 83, #[oa x, oi 1, oa z, oi 1, oi 4, .val (.double dd), .second], Hp8_9, by decide, by decide, Or.inr ⟨(.array .int), (.ref z), [], .areturn, rfl, ⟨z, rfl, rfl⟩, d1_83, zAC _, fun target q => ?_⟩⟩
  refine zA H0 hx hZ hown hby hw zD (zAD x) _ ?_
  refine zP H0 hx hZ 0 rfl (z := (4 : Int32)) rfl (g := (mkF m 5 #[oa x, oi 0, oa x, ou, ou, ou, ou] [(.ref x)])) rfl rfl (hb hby d1_5) _ ?_
  refine zA H0 hx hZ hown hby hw zD (zAE x) _ ?_
  refine zJ H0 hx hZ 0 0 rfl (by decide) rfl (g := (mkF m 19 #[oa x, oi 0, oa x, oi 4, oi 0, ou, ou] [(.int 0), (.ref x)])) rfl rfl (hb hby d1_19) _ ?_
  refine zA H0 hx hZ hown hby hw zD (zAR x da v26 hv26 hb27_0) _ ?_
  refine zJ H0 hx hZ 0 1 rfl (by decide) rfl (g := (mkF m 19 #[oa x, oi 1, oa x, oi 4, oi 1, .val (.double da), .second] [(.int 1), (.ref x)])) rfl rfl (hb hby d1_19) _ ?_
  refine zA H0 hx hZ hown hby hw zD (zBP x da db v26' hv26' hb27_1) _ ?_
  refine zJ H0 hx hZ 0 2 rfl (by decide) rfl (g := (mkF m 19 #[oa x, oi 1, oa x, oi 4, oi 2, .val (.double db), .second] [(.int 2), (.ref x)])) rfl rfl (hb hby d1_19) _ ?_
  refine zA H0 hx hZ hown hby hw zD (zBC x db dc v26'' hv26'' hb27_2) _ ?_
  refine zJ H0 hx hZ 0 3 rfl (by decide) rfl (g := (mkF m 19 #[oa x, oi 1, oa x, oi 4, oi 3, .val (.double dc), .second] [(.int 3), (.ref x)])) rfl rfl (hb hby d1_19) _ ?_
  refine zA H0 hx hZ hown hby hw zD (zBb x dc dd v26''' hv26''' hb27_3) _ ?_
  refine stp8_6 _ ?_
  refine zA Hp8_6 hx hZ hown hby hw zD (zAs x dd z) _ ?_
  refine zP Hp8_6 hx hZ 0 rfl (z := (4 : Int32)) rfl (g := (mkF m 55 #[oa x, oi 1, oa z, oi 0, oi 0, .val (.double dd), .second] [(.ref x), (.int 0)])) rfl rfl (hb hby d1_55) _ ?_
  refine zA Hp8_6 hx hZ hown hby hw zD (zAt x z dd) _ ?_
  refine zJ Hp8_6 hx hZ 0 0 rfl (by decide) rfl (g := (mkF m 62 #[oa x, oi 1, oa z, oi 0, oi 0, .val (.double dd), .second] [(.int 0), (.ref x)])) rfl rfl (hb hby d1_62) _ ?_
  refine zA Hp8_6 hx hZ hown hby hw zD (own_p8_8 x z dd da v64 hv64 hb65_0) _ ?_
  refine stp8_9 _ ?_
  refine zA Hp8_9 hx hZ hown hby hw zD (own_p8_9 x z dd) _ ?_
  refine zP Hp8_9 hx hZ 0 rfl (z := (4 : Int32)) rfl (g := (mkF m 55 #[oa x, oi 1, oa z, oi 1, oi 1, .val (.double dd), .second] [(.ref x), (.int 1)])) rfl rfl (hb hby d1_55) _ ?_
  refine zA Hp8_9 hx hZ hown hby hw zD (own_p8_10 x z dd) _ ?_
  refine zJ Hp8_9 hx hZ 0 1 rfl (by decide) rfl (g := (mkF m 62 #[oa x, oi 1, oa z, oi 1, oi 1, .val (.double dd), .second] [(.int 1), (.ref x)])) rfl rfl (hb hby d1_62) _ ?_
  refine zA Hp8_9 hx hZ hown hby hw zD (own_p8_11 x z dd db v64' hv64' hb65_1) _ ?_
  refine zP Hp8_9 hx hZ 0 rfl (z := (4 : Int32)) rfl (g := (mkF m 55 #[oa x, oi 1, oa z, oi 1, oi 2, .val (.double dd), .second] [(.ref x), (.int 2)])) rfl rfl (hb hby d1_55) _ ?_
  refine zA Hp8_9 hx hZ hown hby hw zD (own_p4_12 x z dd) _ ?_
  refine zJ Hp8_9 hx hZ 0 2 rfl (by decide) rfl (g := (mkF m 62 #[oa x, oi 1, oa z, oi 1, oi 2, .val (.double dd), .second] [(.int 2), (.ref x)])) rfl rfl (hb hby d1_62) _ ?_
  refine zA Hp8_9 hx hZ hown hby hw zD (own_p4_13 x z dd dc v64'' hv64'' hb65_2) _ ?_
  refine zP Hp8_9 hx hZ 0 rfl (z := (4 : Int32)) rfl (g := (mkF m 55 #[oa x, oi 1, oa z, oi 1, oi 3, .val (.double dd), .second] [(.ref x), (.int 3)])) rfl rfl (hb hby d1_55) _ ?_
  refine zA Hp8_9 hx hZ hown hby hw zD (zBc x z dd) _ ?_
  refine zJ Hp8_9 hx hZ 0 3 rfl (by decide) rfl (g := (mkF m 62 #[oa x, oi 1, oa z, oi 1, oi 3, .val (.double dd), .second] [(.int 3), (.ref x)])) rfl rfl (hb hby d1_62) _ ?_
  refine zA Hp8_9 hx hZ hown hby hw zD (zBd x z dd v64''' hv64''' hb65_3) _ ?_
  refine zP Hp8_9 hx hZ 0 rfl (z := (4 : Int32)) rfl (g := (mkF m 55 #[oa x, oi 1, oa z, oi 1, oi 4, .val (.double dd), .second] [(.ref x), (.int 4)])) rfl rfl (hb hby d1_55) _ ?_
  refine zA Hp8_9 hx hZ hown hby hw zD (zAu x z dd) _ ?_
  exact q
theorem zAS (xa : Int32) (xb : Int32) (xc : Int32) (xd : Int32) (x : Addr) (y : Addr) (hb38 : ifCond.holds .le xa = false) :
    zE zQ code 32 #[oi xa, oi xb, oi xc, oi xd, oa x, ou, ou, ou, ou, ou] [(.ref y)] 46 #[oi xa, oi xb, oi xc, oi xd, oa x, oa y, oi 0, ou, ou, ou] [(.int 0), (.int 0), (.ref y)] := by
  refine zAL (pc2 := 34) at_32 rfl rfl (L' := #[oi xa, oi xb, oi xc, oi xd, oa x, oa y, ou, ou, ou, ou]) rfl ?_
  refine zH (v := 0) (pc2 := 35) at_34 rfl rfl ?_
  refine zi (pc2 := 37) at_35 rfl (L' := #[oi xa, oi xb, oi xc, oi xd, oa x, oa y, oi 0, ou, ou, ou]) rfl ?_
  refine zL (pc2 := 38) at_37 rfl rfl ?_
  refine zW (pc2 := 41) at_38 rfl hb38 ?_
  refine zR (pc2 := 43) at_41 rfl rfl rfl ?_
  refine zG (pc2 := 45) at_43 rfl rfl ?_
  refine zH (v := 0) (pc2 := 46) at_45 rfl rfl ?_
  exact zF
theorem own_s8_7 (xa : Int32) (xb : Int32) (xc : Int32) (xd : Int32) (x : Addr) (y : Addr) (hb54 : ifCond.holds .le xb = true) (hb70 : ifCond.holds .le xc = true) (hb86 : ifCond.holds .le xd = true) :
    zE zQ code 47 #[oi xa, oi xb, oi xc, oi xd, oa x, oa y, oi 0, ou, ou, ou] [] 103 #[oi xa, oi xb, oi xc, oi xd, oa x, oa y, oi 1, ou, ou, ou] [(.ref x)] := by
  refine zG (pc2 := 49) at_47 rfl rfl ?_
  refine zH (v := 1) (pc2 := 50) at_49 rfl rfl ?_
  refine zk (pc2 := 51) at_50 rfl (v := (1 : Int32)) (by decide) ?_
  refine zi (pc2 := 53) at_51 rfl (L' := #[oi xa, oi xb, oi xc, oi xd, oa x, oa y, oi 1, ou, ou, ou]) rfl ?_
  refine zL (pc2 := 54) at_53 rfl rfl ?_
  refine zg (pc' := 69) at_54 hb54 (by decide) (by decide) ?_
  refine zL (pc2 := 70) at_69 rfl rfl ?_
  refine zg (pc' := 85) at_70 hb70 (by decide) (by decide) ?_
  refine zL (pc2 := 86) at_85 rfl rfl ?_
  refine zg (pc' := 101) at_86 hb86 (by decide) (by decide) ?_
  refine zR (pc2 := 103) at_101 rfl rfl rfl ?_
  exact zF
theorem own_s8_10 (xa : Int32) (xb : Int32) (xc : Int32) (xd : Int32) (x : Addr) (y : Addr) (z : Addr) :
    zE zQ code 133 #[oi xa, oi xb, oi xc, oi xd, oa x, oa y, oi 1, oa z, ou, ou] [(.int 0)] 136 #[oi xa, oi xb, oi xc, oi xd, oa x, oa y, oi 1, oa z, ou, ou] [(.int 0), (.ref y), (.int 0)] := by
  refine zR (pc2 := 135) at_133 rfl rfl rfl ?_
  refine zH (v := 0) (pc2 := 136) at_135 rfl rfl ?_
  exact zF
theorem own_s8_11 (xa : Int32) (xb : Int32) (xc : Int32) (xd : Int32) (x : Addr) (y : Addr) (z : Addr) :
    zE zQ code 137 #[oi xa, oi xb, oi xc, oi xd, oa x, oa y, oi 1, oa z, ou, ou] [(.int 0), (.int 0)] 201 #[oi xa, oi xb, oi xc, oi xd, oa x, oa y, oi 1, oa z, oi 1, ou] [(.int 0), (.ref x)] := by
  refine zV (pc2 := 140) at_137 rfl (by decide) ?_
  refine zG (pc2 := 142) at_140 rfl rfl ?_
  refine zH (v := 2) (pc2 := 143) at_142 rfl rfl ?_
  refine zj (pc' := 157) at_143 (by decide) (by decide) (by decide) ?_
  refine zG (pc2 := 159) at_157 rfl rfl ?_
  refine zH (v := 3) (pc2 := 160) at_159 rfl rfl ?_
  refine zj (pc' := 174) at_160 (by decide) (by decide) (by decide) ?_
  refine zG (pc2 := 176) at_174 rfl rfl ?_
  refine zH (v := 4) (pc2 := 177) at_176 rfl rfl ?_
  refine zj (pc' := 191) at_177 (by decide) (by decide) (by decide) ?_
  refine zH (v := 1) (pc2 := 192) at_191 rfl rfl ?_
  refine zS (pc' := 196) at_192 (by decide) (by decide) ?_
  refine zi (pc2 := 198) at_196 rfl (L' := #[oi xa, oi xb, oi xc, oi xd, oa x, oa y, oi 1, oa z, oi 1, ou]) rfl ?_
  refine zR (pc2 := 200) at_198 rfl rfl rfl ?_
  refine zH (v := 0) (pc2 := 201) at_200 rfl rfl ?_
  exact zF
set_option maxRecDepth 65536 in
set_option maxHeartbeats 40000000 in
theorem own_law8 (l : Launch) (Z : State) (a0 : Array Value) (hb0 : Heap) (hw : ∀ d ∈ tables_1, d.before a0 Z = true) (xa : Int32) (xb : Int32) (xc : Int32) (xd : Int32) (hb38 : ifCond.holds .le xa = false) (hb54 : ifCond.holds .le xb = true) (hb70 : ifCond.holds .le xc = true) (hb86 : ifCond.holds .le xd = true) :
    zl l Z a0 hb0 x code maxLocals ret tables_1 room_1 #[(.int xa), (.int xb), (.int xc), (.int xd)] [] (fun v _ => v = some (.int 1)) := by
  refine zm (L0 := #[oi xa, oi xb, oi xc, oi xd, ou, ou, ou, ou, ou, ou]) (plainFor_of_name zx) (fun m => zAB m xa xb xc xd) ?_
  intro p e s m below meth c T0 hx hZ hown hby hml hnm H0
  have hown : s.vm.findClass "com/example/tangentia/tangentia/flash/StabilityTestPresentComponentsPinLaw" = some m.cls := hown
  have hml : c.maxLocals = 10 := hml
  obtain ⟨Ts8_1, x, Hs8_1, sts8_1⟩ := zh H0 hx hZ (zO hw 0 rfl) (g := (mkF m 1 #[oi xa, oi xb, oi xc, oi xd, ou, ou, ou, ou, ou, ou] [(.int 4)])) rfl (hb hby at_1) rfl (by decide) (cap := 4) (by decide) (by decide) (by decide) (by decide)
  change zK _ _ _ _ _ _ _ _ _ _ _ _ _ _ [(x, zB .double [.double 0, .double 0, .double 0, .double 0])] _ _ at Hs8_1
  obtain ⟨v9, hv9⟩ : ∃ z : UInt64, (FP.i2d xa) = z := ⟨_, rfl⟩
  obtain ⟨Ts8_2, Hs8_2, sts8_2⟩ := zd Hs8_1 hx hZ 0 0 rfl (by decide) (Nat.le_of_ble_eq_true rfl) (g := (mkF m 10 #[oi xa, oi xb, oi xc, oi xd, oa x, ou, ou, ou, ou, ou] [(.double v9), (.int 0), (.ref x)])) rfl rfl (hb hby at_10)
  change zK _ _ _ _ _ _ _ _ _ _ _ _ _ _ [(x, zB .double [.double v9, .double 0, .double 0, .double 0])] _ _ at Hs8_2
  obtain ⟨v15, hv15⟩ : ∃ z : UInt64, (FP.i2d xb) = z := ⟨_, rfl⟩
  obtain ⟨Ts8_3, Hs8_3, sts8_3⟩ := zd Hs8_2 hx hZ 0 1 rfl (by decide) (Nat.le_of_ble_eq_true rfl) (g := (mkF m 16 #[oi xa, oi xb, oi xc, oi xd, oa x, ou, ou, ou, ou, ou] [(.double v15), (.int 1), (.ref x)])) rfl rfl (hb hby at_16)
  change zK _ _ _ _ _ _ _ _ _ _ _ _ _ _ [(x, zB .double [.double v9, .double v15, .double 0, .double 0])] _ _ at Hs8_3
  obtain ⟨v21, hv21⟩ : ∃ z : UInt64, (FP.i2d xc) = z := ⟨_, rfl⟩
  obtain ⟨Ts8_4, Hs8_4, sts8_4⟩ := zd Hs8_3 hx hZ 0 2 rfl (by decide) (Nat.le_of_ble_eq_true rfl) (g := (mkF m 22 #[oi xa, oi xb, oi xc, oi xd, oa x, ou, ou, ou, ou, ou] [(.double v21), (.int 2), (.ref x)])) rfl rfl (hb hby at_22)
  change zK _ _ _ _ _ _ _ _ _ _ _ _ _ _ [(x, zB .double [.double v9, .double v15, .double v21, .double 0])] _ _ at Hs8_4
  obtain ⟨v27, hv27⟩ : ∃ z : UInt64, (FP.i2d xd) = z := ⟨_, rfl⟩
  obtain ⟨Ts8_5, Hs8_5, sts8_5⟩ := zd Hs8_4 hx hZ 0 3 rfl (by decide) (Nat.le_of_ble_eq_true rfl) (g := (mkF m 28 #[oi xa, oi xb, oi xc, oi xd, oa x, ou, ou, ou, ou, ou] [(.double v27), (.int 3), (.ref x)])) rfl rfl (hb hby at_28)
  change zK _ _ _ _ _ _ _ _ _ _ _ _ _ _ [(x, zB .double [.double v9, .double v15, .double v21, .double v27])] _ _ at Hs8_5
  obtain ⟨Ts8_6, y, Hs8_6, sts8_6⟩ := zh Hs8_5 hx hZ (zO hw 1 rfl) (g := (mkF m 30 #[oi xa, oi xb, oi xc, oi xd, oa x, ou, ou, ou, ou, ou] [(.int 4)])) rfl (hb hby at_30) rfl (by decide) (cap := 4) (by decide) (by decide) (by decide) (by decide)
  change zK _ _ _ _ _ _ _ _ _ _ _ _ _ _ [(x, zB .double [.double v9, .double v15, .double v21, .double v27]), (y, zB .int [.int 0, .int 0, .int 0, .int 0])] _ _ at Hs8_6
  obtain ⟨Ts8_7, Hs8_7, sts8_7⟩ := ze Hs8_6 hx hZ 1 0 rfl (by decide) (Nat.le_of_ble_eq_true rfl) (g := (mkF m 46 #[oi xa, oi xb, oi xc, oi xd, oa x, oa y, oi 0, ou, ou, ou] [(.int 0), (.int 0), (.ref y)])) rfl rfl (hb hby at_46)
  change zK _ _ _ _ _ _ _ _ _ _ _ _ _ _ [(x, zB .double [.double v9, .double v15, .double v21, .double v27]), (y, zB .int [.int 0, .int 0, .int 0, .int 0])] _ _ at Hs8_7
  have hp0 : ifCond.holds .le (cmpValue (FP.dcmp v9 (0 : UInt64)) .l) = false := by rw [← hv9, zY (zI xa) zX]; exact zn hb38
  have hp1 : ifCond.holds .le (cmpValue (FP.dcmp v15 (0 : UInt64)) .l) = true := by rw [← hv15, zY (zI xb) zX]; exact zo hb54
  have hp2 : ifCond.holds .le (cmpValue (FP.dcmp v21 (0 : UInt64)) .l) = true := by rw [← hv21, zY (zI xc) zX]; exact zo hb70
  have hp3 : ifCond.holds .le (cmpValue (FP.dcmp v27 (0 : UInt64)) .l) = true := by rw [← hv27, zY (zI xd) zX]; exact zo hb86
  obtain ⟨Ts8_8, vs8_8_, css8_8_, qs8_8, Hs8_8, sts8_8⟩ := zw Hs8_7 hx hZ hown (zO hw 2 rfl) (zO hw 3 rfl) (zO hw 4 rfl) (zO hw 5 rfl) (by decide) (argsL := [(.ref x)]) (rest := []) (W := 0) (own_q8 l Z a0 hb0 hw x y v9 v15 v21 v27 hp0 hp1 hp2 hp3) (by decide) (by decide) (by decide) (by decide) (g := (mkF m 103 #[oi xa, oi xb, oi xc, oi xd, oa x, oa y, oi 1, ou, ou, ou] [(.ref x)])) rfl (by rw [hml]; rfl) (lenOf zz rfl) rfl (by show 2 * 0 + _ ≤ _; exact Nat.le_of_eq rfl) (hb hby at_103)
  obtain ⟨z, rfl, rfl⟩ := qs8_8
  obtain ⟨v203, hv203⟩ : ∃ z : UInt64, (FP.i2d xa) = z := ⟨_, rfl⟩
  obtain ⟨v204, hv204⟩ : ∃ z : Int32, (cmpValue (FP.dcmp v9 v203) .l) = z := ⟨_, rfl⟩
  obtain ⟨v213, hv213⟩ : ∃ z : UInt64, (FP.i2d xb) = z := ⟨_, rfl⟩
  obtain ⟨v214, hv214⟩ : ∃ z : Int32, (cmpValue (FP.dcmp v15 v213) .l) = z := ⟨_, rfl⟩
  obtain ⟨v223, hv223⟩ : ∃ z : UInt64, (FP.i2d xc) = z := ⟨_, rfl⟩
  obtain ⟨v224, hv224⟩ : ∃ z : Int32, (cmpValue (FP.dcmp v21 v223) .l) = z := ⟨_, rfl⟩
  obtain ⟨v233, hv233⟩ : ∃ z : UInt64, (FP.i2d xd) = z := ⟨_, rfl⟩
  obtain ⟨v234, hv234⟩ : ∃ z : Int32, (cmpValue (FP.dcmp v27 v233) .l) = z := ⟨_, rfl⟩
  have hb205 : ifCond.holds .ne v204 = false := by rw [← hv204, ← hv203, ← hv9, zZ (zI xa) (zI xa)]; simp
  have hb215 : ifCond.holds .ne v214 = false := by rw [← hv214, ← hv213, ← hv15, zZ (zI xb) (zI xb)]; simp
  have hb225 : ifCond.holds .ne v224 = false := by rw [← hv224, ← hv223, ← hv21, zZ (zI xc) (zI xc)]; simp
  have hb235 : ifCond.holds .ne v234 = false := by rw [← hv234, ← hv233, ← hv27, zZ (zI xd) (zI xd)]; simp
  refine ⟨_, _, _, _, 260, #[oi xa, oi xb, oi xc, oi xd, oa x, oa y, oi 1, oa z, oi 1, oi 1], Hs8_8, by decide, by decide, Or.inr ⟨.boolean, (.int 1), [], .ireturn, rfl, rfl, at_260, zv (Or.inr rfl), fun target q => ?_⟩⟩
  refine zA H0 hx hZ hown hby hw zC (zAF xa xb xc xd) _ ?_
  refine sts8_1 _ ?_
  refine zA Hs8_1 hx hZ hown hby hw zC (zAG xa xb xc xd x v9 hv9) _ ?_
  refine sts8_2 _ ?_
  refine zA Hs8_2 hx hZ hown hby hw zC (zAH xa xb xc xd x v15 hv15) _ ?_
  refine sts8_3 _ ?_
  refine zA Hs8_3 hx hZ hown hby hw zC (zAI xa xb xc xd x v21 hv21) _ ?_
  refine sts8_4 _ ?_
  refine zA Hs8_4 hx hZ hown hby hw zC (zAJ xa xb xc xd x v27 hv27) _ ?_
  refine sts8_5 _ ?_
  refine zA Hs8_5 hx hZ hown hby hw zC (zAK xa xb xc xd x) _ ?_
  refine sts8_6 _ ?_
  refine zA Hs8_6 hx hZ hown hby hw zC (zAS xa xb xc xd x y hb38) _ ?_
  refine sts8_7 _ ?_
  refine zA Hs8_7 hx hZ hown hby hw zC (own_s8_7 xa xb xc xd x y hb54 hb70 hb86) _ ?_
  refine sts8_8 _ ?_
  refine zA Hs8_8 hx hZ hown hby hw zC (zAv xa xb xc xd x y z) _ ?_
  refine zP Hs8_8 hx hZ 2 rfl (z := (1 : Int32)) rfl (g := (mkF m 115 #[oi xa, oi xb, oi xc, oi xd, oa x, oa y, oi 1, oa z, ou, ou] [(.ref z)])) rfl rfl (hb hby at_115) _ ?_
  refine zA Hs8_8 hx hZ hown hby hw zC (zAw xa xb xc xd x y z) _ ?_
  refine zb Hs8_8 hx hZ 2 0 rfl (by decide) rfl (g := (mkF m 132 #[oi xa, oi xb, oi xc, oi xd, oa x, oa y, oi 1, oa z, ou, ou] [(.int 0), (.ref z)])) rfl rfl (hb hby at_132) _ ?_
  refine zA Hs8_8 hx hZ hown hby hw zC (own_s8_10 xa xb xc xd x y z) _ ?_
  refine zb Hs8_8 hx hZ 1 0 rfl (by decide) rfl (g := (mkF m 136 #[oi xa, oi xb, oi xc, oi xd, oa x, oa y, oi 1, oa z, ou, ou] [(.int 0), (.ref y), (.int 0)])) rfl rfl (hb hby at_136) _ ?_
  refine zA Hs8_8 hx hZ hown hby hw zC (own_s8_11 xa xb xc xd x y z) _ ?_
  refine zJ Hs8_8 hx hZ 0 0 rfl (by decide) rfl (g := (mkF m 201 #[oi xa, oi xb, oi xc, oi xd, oa x, oa y, oi 1, oa z, oi 1, ou] [(.int 0), (.ref x)])) rfl rfl (hb hby at_201) _ ?_
  refine zA Hs8_8 hx hZ hown hby hw zC (zAx xa xb xc xd x y z v9 v203 hv203 v204 hv204 hb205) _ ?_
  refine zJ Hs8_8 hx hZ 0 1 rfl (by decide) rfl (g := (mkF m 211 #[oi xa, oi xb, oi xc, oi xd, oa x, oa y, oi 1, oa z, oi 1, ou] [(.int 1), (.ref x)])) rfl rfl (hb hby at_211) _ ?_
  refine zA Hs8_8 hx hZ hown hby hw zC (zAy xa xb xc xd x y z v15 v213 hv213 v214 hv214 hb215) _ ?_
  refine zJ Hs8_8 hx hZ 0 2 rfl (by decide) rfl (g := (mkF m 221 #[oi xa, oi xb, oi xc, oi xd, oa x, oa y, oi 1, oa z, oi 1, ou] [(.int 2), (.ref x)])) rfl rfl (hb hby at_221) _ ?_
  refine zA Hs8_8 hx hZ hown hby hw zC (zAz xa xb xc xd x y z v21 v223 hv223 v224 hv224 hb225) _ ?_
  refine zJ Hs8_8 hx hZ 0 3 rfl (by decide) rfl (g := (mkF m 231 #[oi xa, oi xb, oi xc, oi xd, oa x, oa y, oi 1, oa z, oi 1, ou] [(.int 3), (.ref x)])) rfl rfl (hb hby at_231) _ ?_
  refine zA Hs8_8 hx hZ hown hby hw zC (zBA xa xb xc xd x y z v27 v233 hv233 v234 hv234 hb235) _ ?_
  exact q
theorem zBx (x : Addr) (z : Addr) (dd : UInt64) (da : UInt64) (v64 : Int32) (hv64 : (cmpValue (FP.dcmp da (0 : UInt64)) .l) = v64) (hb65_0 : ifCond.holds .le v64 = false) :
    zE zM ok0 63 #[oa x, oi 2, oa z, oi 0, oi 0, .val (.double dd), .second] [(.double da)] 75 #[oa x, oi 2, oa z, oi 1, oi 0, .val (.double dd), .second] [(.int 0), (.int 0), (.ref z)] := by
  refine zf (v := 0) (pc2 := 64) d1_63 rfl rfl ?_
  refine zT (pc2 := 65) d1_64 rfl (v := v64) hv64 ?_
  refine zW (pc2 := 68) d1_65 rfl hb65_0 ?_
  refine zN (pc2 := 69) d1_68 rfl rfl rfl ?_
  refine zL (pc2 := 70) d1_69 rfl rfl ?_
  refine zU (pc2 := 73) d1_70 rfl rfl (v := (1 : Int32)) (by decide) (L' := #[oa x, oi 2, oa z, oi 1, oi 0, .val (.double dd), .second]) rfl ?_
  refine zG (pc2 := 75) d1_73 rfl rfl ?_
  exact zF
theorem zBy (x : Addr) (z : Addr) (dd : UInt64) :
    zE zM ok0 76 #[oa x, oi 2, oa z, oi 1, oi 0, .val (.double dd), .second] [] 55 #[oa x, oi 2, oa z, oi 1, oi 1, .val (.double dd), .second] [(.ref x), (.int 1)] := by
  refine zU (pc2 := 79) d1_76 rfl rfl (v := (1 : Int32)) (by decide) (L' := #[oa x, oi 2, oa z, oi 1, oi 1, .val (.double dd), .second]) rfl ?_
  refine zS (pc' := 52) d1_79 (by decide) (by decide) ?_
  refine zG (pc2 := 54) d1_52 rfl rfl ?_
  refine zN (pc2 := 55) d1_54 rfl rfl rfl ?_
  exact zF
theorem zBz (x : Addr) (z : Addr) (dd : UInt64) :
    zE zM ok0 56 #[oa x, oi 2, oa z, oi 1, oi 1, .val (.double dd), .second] [(.int 4), (.int 1)] 62 #[oa x, oi 2, oa z, oi 1, oi 1, .val (.double dd), .second] [(.int 1), (.ref x)] := by
  refine zV (pc2 := 59) d1_56 rfl (by decide) ?_
  refine zN (pc2 := 60) d1_59 rfl rfl rfl ?_
  refine zG (pc2 := 62) d1_60 rfl rfl ?_
  exact zF
theorem own_p9_11 (x : Addr) (z : Addr) (dd : UInt64) (db : UInt64) (v64' : Int32) (hv64' : (cmpValue (FP.dcmp db (0 : UInt64)) .l) = v64') (hb65_1 : ifCond.holds .le v64' = true) :
    zE zM ok0 63 #[oa x, oi 2, oa z, oi 1, oi 1, .val (.double dd), .second] [(.double db)] 55 #[oa x, oi 2, oa z, oi 1, oi 2, .val (.double dd), .second] [(.ref x), (.int 2)] := by
  refine zf (v := 0) (pc2 := 64) d1_63 rfl rfl ?_
  refine zT (pc2 := 65) d1_64 rfl (v := v64') hv64' ?_
  refine zg (pc' := 76) d1_65 hb65_1 (by decide) (by decide) ?_
  refine zU (pc2 := 79) d1_76 rfl rfl (v := (2 : Int32)) (by decide) (L' := #[oa x, oi 2, oa z, oi 1, oi 2, .val (.double dd), .second]) rfl ?_
  refine zS (pc' := 52) d1_79 (by decide) (by decide) ?_
  refine zG (pc2 := 54) d1_52 rfl rfl ?_
  refine zN (pc2 := 55) d1_54 rfl rfl rfl ?_
  exact zF
set_option maxRecDepth 65536 in
set_option maxHeartbeats 4000000 in
theorem own_q9 (l : Launch) (Z : State) (a0 : Array Value) (hb0 : Heap) (hw : ∀ d ∈ tables_1, d.before a0 Z = true) (x : Addr) (y : Addr) (da db dc dd : UInt64) (hp0 : ifCond.holds .le (cmpValue (FP.dcmp da (0 : UInt64)) .l) = false) (hp1 : ifCond.holds .le (cmpValue (FP.dcmp db (0 : UInt64)) .l) = true) (hp2 : ifCond.holds .le (cmpValue (FP.dcmp dc (0 : UInt64)) .l) = true) (hp3 : ifCond.holds .le (cmpValue (FP.dcmp dd (0 : UInt64)) .l) = false) :
    zl l Z a0 hb0 (⟨"com/example/tangentia/tangentia/flash/StabilityTest", "presentComponents", "([D)[I"⟩ : MethodName) ok0 7 (some (.array .int)) [] ({ frames := 0, cells := 1, slots := 2, locals := 0 } : Room) #[(.ref x)] [(x, zB .double [.double da, .double db, .double dc, .double dd]), (y, zB .int [.int 0, .int 3, .int 0, .int 0])] (fun r cs' => ∃ z, r = some (.ref z) ∧ cs' = [(x, zB .double [.double da, .double db, .double dc, .double dd]), (y, zB .int [.int 0, .int 3, .int 0, .int 0]), (z, zB .int [.int 0, .int 3])]) := by
  refine zm (L0 := #[oa x, ou, ou, ou, ou, ou, ou]) (plainFor_of_name zy) (fun m => zAA m x) ?_
  intro p e s m below meth c T0 hx hZ hown hby hml hnm H0
  obtain ⟨v26, hv26⟩ : ∃ z : Int32, (cmpValue (FP.dcmp da (0 : UInt64)) .l) = z := ⟨_, rfl⟩
  obtain ⟨v26', hv26'⟩ : ∃ z : Int32, (cmpValue (FP.dcmp db (0 : UInt64)) .l) = z := ⟨_, rfl⟩
  obtain ⟨v26'', hv26''⟩ : ∃ z : Int32, (cmpValue (FP.dcmp dc (0 : UInt64)) .l) = z := ⟨_, rfl⟩
  obtain ⟨v26''', hv26'''⟩ : ∃ z : Int32, (cmpValue (FP.dcmp dd (0 : UInt64)) .l) = z := ⟨_, rfl⟩
  obtain ⟨Tp9_6, z, Hp9_6, stp9_6⟩ := zh H0 hx hZ (zO hw 1 rfl) (g := (mkF m 44 #[oa x, oi 2, oa x, oi 4, oi 4, .val (.double dd), .second] [(.int 2)])) rfl (hb hby d1_44) rfl (by decide) (cap := 2) (by decide) (by decide) (by decide) (by decide)
  change zK _ _ _ _ _ _ _ _ _ _ _ _ _ _ [(x, zB .double [.double da, .double db, .double dc, .double dd]), (y, zB .int [.int 0, .int 3, .int 0, .int 0]), (z, zB .int [.int 0, .int 0])] _ _ at Hp9_6
  obtain ⟨v64, hv64⟩ : ∃ z : Int32, (cmpValue (FP.dcmp da (0 : UInt64)) .l) = z := ⟨_, rfl⟩
  obtain ⟨Tp9_9, Hp9_9, stp9_9⟩ := ze Hp9_6 hx hZ 2 0 rfl (by decide) (Nat.le_of_ble_eq_true rfl) (g := (mkF m 75 #[oa x, oi 2, oa z, oi 1, oi 0, .val (.double dd), .second] [(.int 0), (.int 0), (.ref z)])) rfl rfl (hb hby d1_75)
  change zK _ _ _ _ _ _ _ _ _ _ _ _ _ _ [(x, zB .double [.double da, .double db, .double dc, .double dd]), (y, zB .int [.int 0, .int 3, .int 0, .int 0]), (z, zB .int [.int 0, .int 0])] _ _ at Hp9_9
  obtain ⟨v64', hv64'⟩ : ∃ z : Int32, (cmpValue (FP.dcmp db (0 : UInt64)) .l) = z := ⟨_, rfl⟩
  obtain ⟨v64'', hv64''⟩ : ∃ z : Int32, (cmpValue (FP.dcmp dc (0 : UInt64)) .l) = z := ⟨_, rfl⟩
  obtain ⟨v64''', hv64'''⟩ : ∃ z : Int32, (cmpValue (FP.dcmp dd (0 : UInt64)) .l) = z := ⟨_, rfl⟩
  obtain ⟨Tp9_16, Hp9_16, stp9_16⟩ := ze Hp9_9 hx hZ 2 1 rfl (by decide) (Nat.le_of_ble_eq_true rfl) (g := (mkF m 75 #[oa x, oi 2, oa z, oi 2, oi 3, .val (.double dd), .second] [(.int 3), (.int 1), (.ref z)])) rfl rfl (hb hby d1_75)
  change zK _ _ _ _ _ _ _ _ _ _ _ _ _ _ [(x, zB .double [.double da, .double db, .double dc, .double dd]), (y, zB .int [.int 0, .int 3, .int 0, .int 0]), (z, zB .int [.int 0, .int 3])] _ _ at Hp9_16
  have hb27_0 : ifCond.holds .le v26 = false := by rw [← hv26]; exact hp0
  have hb27_1 : ifCond.holds .le v26' = true := by rw [← hv26']; exact hp1
  have hb27_2 : ifCond.holds .le v26'' = true := by rw [← hv26'']; exact hp2
  have hb27_3 : ifCond.holds .le v26''' = false := by rw [← hv26''']; exact hp3
  have hb65_0 : ifCond.holds .le v64 = false := by rw [← hv64]; exact hp0
  have hb65_1 : ifCond.holds .le v64' = true := by rw [← hv64']; exact hp1
  have hb65_2 : ifCond.holds .le v64'' = true := by rw [← hv64'']; exact hp2
  have hb65_3 : ifCond.holds .le v64''' = false := by rw [← hv64''']; exact hp3
  refine ⟨_, _, _, _, 83, #[oa x, oi 2, oa z, oi 2, oi 4, .val (.double dd), .second], Hp9_16, by decide, by decide, Or.inr ⟨(.array .int), (.ref z), [], .areturn, rfl, ⟨z, rfl, rfl⟩, d1_83, zAC _, fun target q => ?_⟩⟩
  refine zA H0 hx hZ hown hby hw zD (zAD x) _ ?_
  refine zP H0 hx hZ 0 rfl (z := (4 : Int32)) rfl (g := (mkF m 5 #[oa x, oi 0, oa x, ou, ou, ou, ou] [(.ref x)])) rfl rfl (hb hby d1_5) _ ?_
  refine zA H0 hx hZ hown hby hw zD (zAE x) _ ?_
  refine zJ H0 hx hZ 0 0 rfl (by decide) rfl (g := (mkF m 19 #[oa x, oi 0, oa x, oi 4, oi 0, ou, ou] [(.int 0), (.ref x)])) rfl rfl (hb hby d1_19) _ ?_
  refine zA H0 hx hZ hown hby hw zD (zAR x da v26 hv26 hb27_0) _ ?_
  refine zJ H0 hx hZ 0 1 rfl (by decide) rfl (g := (mkF m 19 #[oa x, oi 1, oa x, oi 4, oi 1, .val (.double da), .second] [(.int 1), (.ref x)])) rfl rfl (hb hby d1_19) _ ?_
  refine zA H0 hx hZ hown hby hw zD (zBP x da db v26' hv26' hb27_1) _ ?_
  refine zJ H0 hx hZ 0 2 rfl (by decide) rfl (g := (mkF m 19 #[oa x, oi 1, oa x, oi 4, oi 2, .val (.double db), .second] [(.int 2), (.ref x)])) rfl rfl (hb hby d1_19) _ ?_
  refine zA H0 hx hZ hown hby hw zD (zBC x db dc v26'' hv26'' hb27_2) _ ?_
  refine zJ H0 hx hZ 0 3 rfl (by decide) rfl (g := (mkF m 19 #[oa x, oi 1, oa x, oi 4, oi 3, .val (.double dc), .second] [(.int 3), (.ref x)])) rfl rfl (hb hby d1_19) _ ?_
  refine zA H0 hx hZ hown hby hw zD (zBe x dc dd v26''' hv26''' hb27_3) _ ?_
  refine stp9_6 _ ?_
  refine zA Hp9_6 hx hZ hown hby hw zD (zAX x dd z) _ ?_
  refine zP Hp9_6 hx hZ 0 rfl (z := (4 : Int32)) rfl (g := (mkF m 55 #[oa x, oi 2, oa z, oi 0, oi 0, .val (.double dd), .second] [(.ref x), (.int 0)])) rfl rfl (hb hby d1_55) _ ?_
  refine zA Hp9_6 hx hZ hown hby hw zD (zAY x z dd) _ ?_
  refine zJ Hp9_6 hx hZ 0 0 rfl (by decide) rfl (g := (mkF m 62 #[oa x, oi 2, oa z, oi 0, oi 0, .val (.double dd), .second] [(.int 0), (.ref x)])) rfl rfl (hb hby d1_62) _ ?_
  refine zA Hp9_6 hx hZ hown hby hw zD (zBx x z dd da v64 hv64 hb65_0) _ ?_
  refine stp9_9 _ ?_
  refine zA Hp9_9 hx hZ hown hby hw zD (zBy x z dd) _ ?_
  refine zP Hp9_9 hx hZ 0 rfl (z := (4 : Int32)) rfl (g := (mkF m 55 #[oa x, oi 2, oa z, oi 1, oi 1, .val (.double dd), .second] [(.ref x), (.int 1)])) rfl rfl (hb hby d1_55) _ ?_
  refine zA Hp9_9 hx hZ hown hby hw zD (zBz x z dd) _ ?_
  refine zJ Hp9_9 hx hZ 0 1 rfl (by decide) rfl (g := (mkF m 62 #[oa x, oi 2, oa z, oi 1, oi 1, .val (.double dd), .second] [(.int 1), (.ref x)])) rfl rfl (hb hby d1_62) _ ?_
  refine zA Hp9_9 hx hZ hown hby hw zD (own_p9_11 x z dd db v64' hv64' hb65_1) _ ?_
  refine zP Hp9_9 hx hZ 0 rfl (z := (4 : Int32)) rfl (g := (mkF m 55 #[oa x, oi 2, oa z, oi 1, oi 2, .val (.double dd), .second] [(.ref x), (.int 2)])) rfl rfl (hb hby d1_55) _ ?_
  refine zA Hp9_9 hx hZ hown hby hw zD (zBE x z dd) _ ?_
  refine zJ Hp9_9 hx hZ 0 2 rfl (by decide) rfl (g := (mkF m 62 #[oa x, oi 2, oa z, oi 1, oi 2, .val (.double dd), .second] [(.int 2), (.ref x)])) rfl rfl (hb hby d1_62) _ ?_
  refine zA Hp9_9 hx hZ hown hby hw zD (own_p5_13 x z dd dc v64'' hv64'' hb65_2) _ ?_
  refine zP Hp9_9 hx hZ 0 rfl (z := (4 : Int32)) rfl (g := (mkF m 55 #[oa x, oi 2, oa z, oi 1, oi 3, .val (.double dd), .second] [(.ref x), (.int 3)])) rfl rfl (hb hby d1_55) _ ?_
  refine zA Hp9_9 hx hZ hown hby hw zD (zBh x z dd) _ ?_
  refine zJ Hp9_9 hx hZ 0 3 rfl (by decide) rfl (g := (mkF m 62 #[oa x, oi 2, oa z, oi 1, oi 3, .val (.double dd), .second] [(.int 3), (.ref x)])) rfl rfl (hb hby d1_62) _ ?_
  refine zA Hp9_9 hx hZ hown hby hw zD (zBi x z dd v64''' hv64''' hb65_3) _ ?_
  refine stp9_16 _ ?_
  refine zA Hp9_16 hx hZ hown hby hw zD (zBj x z dd) _ ?_
  refine zP Hp9_16 hx hZ 0 rfl (z := (4 : Int32)) rfl (g := (mkF m 55 #[oa x, oi 2, oa z, oi 2, oi 4, .val (.double dd), .second] [(.ref x), (.int 4)])) rfl rfl (hb hby d1_55) _ ?_
  refine zA Hp9_16 hx hZ hown hby hw zD (zAZ x z dd) _ ?_
  exact q
theorem own_s9_7 (xa : Int32) (xb : Int32) (xc : Int32) (xd : Int32) (x : Addr) (y : Addr) (hb54 : ifCond.holds .le xb = true) (hb70 : ifCond.holds .le xc = true) (hb86 : ifCond.holds .le xd = false) :
    zE zQ code 47 #[oi xa, oi xb, oi xc, oi xd, oa x, oa y, oi 0, ou, ou, ou] [] 94 #[oi xa, oi xb, oi xc, oi xd, oa x, oa y, oi 1, ou, ou, ou] [(.int 3), (.int 1), (.ref y)] := by
  refine zG (pc2 := 49) at_47 rfl rfl ?_
  refine zH (v := 1) (pc2 := 50) at_49 rfl rfl ?_
  refine zk (pc2 := 51) at_50 rfl (v := (1 : Int32)) (by decide) ?_
  refine zi (pc2 := 53) at_51 rfl (L' := #[oi xa, oi xb, oi xc, oi xd, oa x, oa y, oi 1, ou, ou, ou]) rfl ?_
  refine zL (pc2 := 54) at_53 rfl rfl ?_
  refine zg (pc' := 69) at_54 hb54 (by decide) (by decide) ?_
  refine zL (pc2 := 70) at_69 rfl rfl ?_
  refine zg (pc' := 85) at_70 hb70 (by decide) (by decide) ?_
  refine zL (pc2 := 86) at_85 rfl rfl ?_
  refine zW (pc2 := 89) at_86 rfl hb86 ?_
  refine zR (pc2 := 91) at_89 rfl rfl rfl ?_
  refine zG (pc2 := 93) at_91 rfl rfl ?_
  refine zH (v := 3) (pc2 := 94) at_93 rfl rfl ?_
  exact zF
theorem zCA (xa : Int32) (xb : Int32) (xc : Int32) (xd : Int32) (x : Addr) (y : Addr) (z : Addr) :
    zE zQ code 133 #[oi xa, oi xb, oi xc, oi xd, oa x, oa y, oi 2, oa z, ou, ou] [(.int 0)] 136 #[oi xa, oi xb, oi xc, oi xd, oa x, oa y, oi 2, oa z, ou, ou] [(.int 0), (.ref y), (.int 0)] := by
  refine zR (pc2 := 135) at_133 rfl rfl rfl ?_
  refine zH (v := 0) (pc2 := 136) at_135 rfl rfl ?_
  exact zF
theorem zCB (xa : Int32) (xb : Int32) (xc : Int32) (xd : Int32) (x : Addr) (y : Addr) (z : Addr) :
    zE zQ code 137 #[oi xa, oi xb, oi xc, oi xd, oa x, oa y, oi 2, oa z, ou, ou] [(.int 0), (.int 0)] 149 #[oi xa, oi xb, oi xc, oi xd, oa x, oa y, oi 2, oa z, ou, ou] [(.int 1), (.ref z)] := by
  refine zV (pc2 := 140) at_137 rfl (by decide) ?_
  refine zG (pc2 := 142) at_140 rfl rfl ?_
  refine zH (v := 2) (pc2 := 143) at_142 rfl rfl ?_
  refine zV (pc2 := 146) at_143 rfl (by decide) ?_
  refine zR (pc2 := 148) at_146 rfl rfl rfl ?_
  refine zH (v := 1) (pc2 := 149) at_148 rfl rfl ?_
  exact zF
set_option maxRecDepth 65536 in
set_option maxHeartbeats 40000000 in
theorem own_law9 (l : Launch) (Z : State) (a0 : Array Value) (hb0 : Heap) (hw : ∀ d ∈ tables_1, d.before a0 Z = true) (xa : Int32) (xb : Int32) (xc : Int32) (xd : Int32) (hb38 : ifCond.holds .le xa = false) (hb54 : ifCond.holds .le xb = true) (hb70 : ifCond.holds .le xc = true) (hb86 : ifCond.holds .le xd = false) :
    zl l Z a0 hb0 x code maxLocals ret tables_1 room_1 #[(.int xa), (.int xb), (.int xc), (.int xd)] [] (fun v _ => v = some (.int 1)) := by
  refine zm (L0 := #[oi xa, oi xb, oi xc, oi xd, ou, ou, ou, ou, ou, ou]) (plainFor_of_name zx) (fun m => zAB m xa xb xc xd) ?_
  intro p e s m below meth c T0 hx hZ hown hby hml hnm H0
  have hown : s.vm.findClass "com/example/tangentia/tangentia/flash/StabilityTestPresentComponentsPinLaw" = some m.cls := hown
  have hml : c.maxLocals = 10 := hml
  obtain ⟨Ts9_1, x, Hs9_1, sts9_1⟩ := zh H0 hx hZ (zO hw 0 rfl) (g := (mkF m 1 #[oi xa, oi xb, oi xc, oi xd, ou, ou, ou, ou, ou, ou] [(.int 4)])) rfl (hb hby at_1) rfl (by decide) (cap := 4) (by decide) (by decide) (by decide) (by decide)
  change zK _ _ _ _ _ _ _ _ _ _ _ _ _ _ [(x, zB .double [.double 0, .double 0, .double 0, .double 0])] _ _ at Hs9_1
  obtain ⟨v9, hv9⟩ : ∃ z : UInt64, (FP.i2d xa) = z := ⟨_, rfl⟩
  obtain ⟨Ts9_2, Hs9_2, sts9_2⟩ := zd Hs9_1 hx hZ 0 0 rfl (by decide) (Nat.le_of_ble_eq_true rfl) (g := (mkF m 10 #[oi xa, oi xb, oi xc, oi xd, oa x, ou, ou, ou, ou, ou] [(.double v9), (.int 0), (.ref x)])) rfl rfl (hb hby at_10)
  change zK _ _ _ _ _ _ _ _ _ _ _ _ _ _ [(x, zB .double [.double v9, .double 0, .double 0, .double 0])] _ _ at Hs9_2
  obtain ⟨v15, hv15⟩ : ∃ z : UInt64, (FP.i2d xb) = z := ⟨_, rfl⟩
  obtain ⟨Ts9_3, Hs9_3, sts9_3⟩ := zd Hs9_2 hx hZ 0 1 rfl (by decide) (Nat.le_of_ble_eq_true rfl) (g := (mkF m 16 #[oi xa, oi xb, oi xc, oi xd, oa x, ou, ou, ou, ou, ou] [(.double v15), (.int 1), (.ref x)])) rfl rfl (hb hby at_16)
  change zK _ _ _ _ _ _ _ _ _ _ _ _ _ _ [(x, zB .double [.double v9, .double v15, .double 0, .double 0])] _ _ at Hs9_3
  obtain ⟨v21, hv21⟩ : ∃ z : UInt64, (FP.i2d xc) = z := ⟨_, rfl⟩
  obtain ⟨Ts9_4, Hs9_4, sts9_4⟩ := zd Hs9_3 hx hZ 0 2 rfl (by decide) (Nat.le_of_ble_eq_true rfl) (g := (mkF m 22 #[oi xa, oi xb, oi xc, oi xd, oa x, ou, ou, ou, ou, ou] [(.double v21), (.int 2), (.ref x)])) rfl rfl (hb hby at_22)
  change zK _ _ _ _ _ _ _ _ _ _ _ _ _ _ [(x, zB .double [.double v9, .double v15, .double v21, .double 0])] _ _ at Hs9_4
  obtain ⟨v27, hv27⟩ : ∃ z : UInt64, (FP.i2d xd) = z := ⟨_, rfl⟩
  obtain ⟨Ts9_5, Hs9_5, sts9_5⟩ := zd Hs9_4 hx hZ 0 3 rfl (by decide) (Nat.le_of_ble_eq_true rfl) (g := (mkF m 28 #[oi xa, oi xb, oi xc, oi xd, oa x, ou, ou, ou, ou, ou] [(.double v27), (.int 3), (.ref x)])) rfl rfl (hb hby at_28)
  change zK _ _ _ _ _ _ _ _ _ _ _ _ _ _ [(x, zB .double [.double v9, .double v15, .double v21, .double v27])] _ _ at Hs9_5
  obtain ⟨Ts9_6, y, Hs9_6, sts9_6⟩ := zh Hs9_5 hx hZ (zO hw 1 rfl) (g := (mkF m 30 #[oi xa, oi xb, oi xc, oi xd, oa x, ou, ou, ou, ou, ou] [(.int 4)])) rfl (hb hby at_30) rfl (by decide) (cap := 4) (by decide) (by decide) (by decide) (by decide)
  change zK _ _ _ _ _ _ _ _ _ _ _ _ _ _ [(x, zB .double [.double v9, .double v15, .double v21, .double v27]), (y, zB .int [.int 0, .int 0, .int 0, .int 0])] _ _ at Hs9_6
  obtain ⟨Ts9_7, Hs9_7, sts9_7⟩ := ze Hs9_6 hx hZ 1 0 rfl (by decide) (Nat.le_of_ble_eq_true rfl) (g := (mkF m 46 #[oi xa, oi xb, oi xc, oi xd, oa x, oa y, oi 0, ou, ou, ou] [(.int 0), (.int 0), (.ref y)])) rfl rfl (hb hby at_46)
  change zK _ _ _ _ _ _ _ _ _ _ _ _ _ _ [(x, zB .double [.double v9, .double v15, .double v21, .double v27]), (y, zB .int [.int 0, .int 0, .int 0, .int 0])] _ _ at Hs9_7
  obtain ⟨Ts9_8, Hs9_8, sts9_8⟩ := ze Hs9_7 hx hZ 1 1 rfl (by decide) (Nat.le_of_ble_eq_true rfl) (g := (mkF m 94 #[oi xa, oi xb, oi xc, oi xd, oa x, oa y, oi 1, ou, ou, ou] [(.int 3), (.int 1), (.ref y)])) rfl rfl (hb hby at_94)
  change zK _ _ _ _ _ _ _ _ _ _ _ _ _ _ [(x, zB .double [.double v9, .double v15, .double v21, .double v27]), (y, zB .int [.int 0, .int 3, .int 0, .int 0])] _ _ at Hs9_8
  have hp0 : ifCond.holds .le (cmpValue (FP.dcmp v9 (0 : UInt64)) .l) = false := by rw [← hv9, zY (zI xa) zX]; exact zn hb38
  have hp1 : ifCond.holds .le (cmpValue (FP.dcmp v15 (0 : UInt64)) .l) = true := by rw [← hv15, zY (zI xb) zX]; exact zo hb54
  have hp2 : ifCond.holds .le (cmpValue (FP.dcmp v21 (0 : UInt64)) .l) = true := by rw [← hv21, zY (zI xc) zX]; exact zo hb70
  have hp3 : ifCond.holds .le (cmpValue (FP.dcmp v27 (0 : UInt64)) .l) = false := by rw [← hv27, zY (zI xd) zX]; exact zn hb86
  obtain ⟨Ts9_9, vs9_9_, css9_9_, qs9_9, Hs9_9, sts9_9⟩ := zw Hs9_8 hx hZ hown (zO hw 2 rfl) (zO hw 3 rfl) (zO hw 4 rfl) (zO hw 5 rfl) (by decide) (argsL := [(.ref x)]) (rest := []) (W := 0) (own_q9 l Z a0 hb0 hw x y v9 v15 v21 v27 hp0 hp1 hp2 hp3) (by decide) (by decide) (by decide) (by decide) (g := (mkF m 103 #[oi xa, oi xb, oi xc, oi xd, oa x, oa y, oi 2, ou, ou, ou] [(.ref x)])) rfl (by rw [hml]; rfl) (lenOf zz rfl) rfl (by show 2 * 0 + _ ≤ _; exact Nat.le_of_eq rfl) (hb hby at_103)
  obtain ⟨z, rfl, rfl⟩ := qs9_9
  obtain ⟨v203, hv203⟩ : ∃ z : UInt64, (FP.i2d xa) = z := ⟨_, rfl⟩
  obtain ⟨v204, hv204⟩ : ∃ z : Int32, (cmpValue (FP.dcmp v9 v203) .l) = z := ⟨_, rfl⟩
  obtain ⟨v213, hv213⟩ : ∃ z : UInt64, (FP.i2d xb) = z := ⟨_, rfl⟩
  obtain ⟨v214, hv214⟩ : ∃ z : Int32, (cmpValue (FP.dcmp v15 v213) .l) = z := ⟨_, rfl⟩
  obtain ⟨v223, hv223⟩ : ∃ z : UInt64, (FP.i2d xc) = z := ⟨_, rfl⟩
  obtain ⟨v224, hv224⟩ : ∃ z : Int32, (cmpValue (FP.dcmp v21 v223) .l) = z := ⟨_, rfl⟩
  obtain ⟨v233, hv233⟩ : ∃ z : UInt64, (FP.i2d xd) = z := ⟨_, rfl⟩
  obtain ⟨v234, hv234⟩ : ∃ z : Int32, (cmpValue (FP.dcmp v27 v233) .l) = z := ⟨_, rfl⟩
  have hb205 : ifCond.holds .ne v204 = false := by rw [← hv204, ← hv203, ← hv9, zZ (zI xa) (zI xa)]; simp
  have hb215 : ifCond.holds .ne v214 = false := by rw [← hv214, ← hv213, ← hv15, zZ (zI xb) (zI xb)]; simp
  have hb225 : ifCond.holds .ne v224 = false := by rw [← hv224, ← hv223, ← hv21, zZ (zI xc) (zI xc)]; simp
  have hb235 : ifCond.holds .ne v234 = false := by rw [← hv234, ← hv233, ← hv27, zZ (zI xd) (zI xd)]; simp
  refine ⟨_, _, _, _, 260, #[oi xa, oi xb, oi xc, oi xd, oa x, oa y, oi 2, oa z, oi 1, oi 1], Hs9_9, by decide, by decide, Or.inr ⟨.boolean, (.int 1), [], .ireturn, rfl, rfl, at_260, zv (Or.inr rfl), fun target q => ?_⟩⟩
  refine zA H0 hx hZ hown hby hw zC (zAF xa xb xc xd) _ ?_
  refine sts9_1 _ ?_
  refine zA Hs9_1 hx hZ hown hby hw zC (zAG xa xb xc xd x v9 hv9) _ ?_
  refine sts9_2 _ ?_
  refine zA Hs9_2 hx hZ hown hby hw zC (zAH xa xb xc xd x v15 hv15) _ ?_
  refine sts9_3 _ ?_
  refine zA Hs9_3 hx hZ hown hby hw zC (zAI xa xb xc xd x v21 hv21) _ ?_
  refine sts9_4 _ ?_
  refine zA Hs9_4 hx hZ hown hby hw zC (zAJ xa xb xc xd x v27 hv27) _ ?_
  refine sts9_5 _ ?_
  refine zA Hs9_5 hx hZ hown hby hw zC (zAK xa xb xc xd x) _ ?_
  refine sts9_6 _ ?_
  refine zA Hs9_6 hx hZ hown hby hw zC (zAS xa xb xc xd x y hb38) _ ?_
  refine sts9_7 _ ?_
  refine zA Hs9_7 hx hZ hown hby hw zC (own_s9_7 xa xb xc xd x y hb54 hb70 hb86) _ ?_
  refine sts9_8 _ ?_
  refine zA Hs9_8 hx hZ hown hby hw zC (zBk xa xb xc xd x y) _ ?_
  refine sts9_9 _ ?_
  refine zA Hs9_9 hx hZ hown hby hw zC (zAa xa xb xc xd x y z) _ ?_
  refine zP Hs9_9 hx hZ 2 rfl (z := (2 : Int32)) rfl (g := (mkF m 115 #[oi xa, oi xb, oi xc, oi xd, oa x, oa y, oi 2, oa z, ou, ou] [(.ref z)])) rfl rfl (hb hby at_115) _ ?_
  refine zA Hs9_9 hx hZ hown hby hw zC (zAb xa xb xc xd x y z) _ ?_
  refine zb Hs9_9 hx hZ 2 0 rfl (by decide) rfl (g := (mkF m 132 #[oi xa, oi xb, oi xc, oi xd, oa x, oa y, oi 2, oa z, ou, ou] [(.int 0), (.ref z)])) rfl rfl (hb hby at_132) _ ?_
  refine zA Hs9_9 hx hZ hown hby hw zC (zCA xa xb xc xd x y z) _ ?_
  refine zb Hs9_9 hx hZ 1 0 rfl (by decide) rfl (g := (mkF m 136 #[oi xa, oi xb, oi xc, oi xd, oa x, oa y, oi 2, oa z, ou, ou] [(.int 0), (.ref y), (.int 0)])) rfl rfl (hb hby at_136) _ ?_
  refine zA Hs9_9 hx hZ hown hby hw zC (zCB xa xb xc xd x y z) _ ?_
  refine zb Hs9_9 hx hZ 2 1 rfl (by decide) rfl (g := (mkF m 149 #[oi xa, oi xb, oi xc, oi xd, oa x, oa y, oi 2, oa z, ou, ou] [(.int 1), (.ref z)])) rfl rfl (hb hby at_149) _ ?_
  refine zA Hs9_9 hx hZ hown hby hw zC (zBl xa xb xc xd x y z) _ ?_
  refine zb Hs9_9 hx hZ 1 1 rfl (by decide) rfl (g := (mkF m 153 #[oi xa, oi xb, oi xc, oi xd, oa x, oa y, oi 2, oa z, ou, ou] [(.int 1), (.ref y), (.int 3)])) rfl rfl (hb hby at_153) _ ?_
  refine zA Hs9_9 hx hZ hown hby hw zC (zBm xa xb xc xd x y z) _ ?_
  refine zJ Hs9_9 hx hZ 0 0 rfl (by decide) rfl (g := (mkF m 201 #[oi xa, oi xb, oi xc, oi xd, oa x, oa y, oi 2, oa z, oi 1, ou] [(.int 0), (.ref x)])) rfl rfl (hb hby at_201) _ ?_
  refine zA Hs9_9 hx hZ hown hby hw zC (zAc xa xb xc xd x y z v9 v203 hv203 v204 hv204 hb205) _ ?_
  refine zJ Hs9_9 hx hZ 0 1 rfl (by decide) rfl (g := (mkF m 211 #[oi xa, oi xb, oi xc, oi xd, oa x, oa y, oi 2, oa z, oi 1, ou] [(.int 1), (.ref x)])) rfl rfl (hb hby at_211) _ ?_
  refine zA Hs9_9 hx hZ hown hby hw zC (zAd xa xb xc xd x y z v15 v213 hv213 v214 hv214 hb215) _ ?_
  refine zJ Hs9_9 hx hZ 0 2 rfl (by decide) rfl (g := (mkF m 221 #[oi xa, oi xb, oi xc, oi xd, oa x, oa y, oi 2, oa z, oi 1, ou] [(.int 2), (.ref x)])) rfl rfl (hb hby at_221) _ ?_
  refine zA Hs9_9 hx hZ hown hby hw zC (zAe xa xb xc xd x y z v21 v223 hv223 v224 hv224 hb225) _ ?_
  refine zJ Hs9_9 hx hZ 0 3 rfl (by decide) rfl (g := (mkF m 231 #[oi xa, oi xb, oi xc, oi xd, oa x, oa y, oi 2, oa z, oi 1, ou] [(.int 3), (.ref x)])) rfl rfl (hb hby at_231) _ ?_
  refine zA Hs9_9 hx hZ hown hby hw zC (zAf xa xb xc xd x y z v27 v233 hv233 v234 hv234 hb235) _ ?_
  exact q
set_option maxRecDepth 65536 in
set_option maxHeartbeats 4000000 in
theorem own_q10 (l : Launch) (Z : State) (a0 : Array Value) (hb0 : Heap) (hw : ∀ d ∈ tables_1, d.before a0 Z = true) (x : Addr) (y : Addr) (da db dc dd : UInt64) (hp0 : ifCond.holds .le (cmpValue (FP.dcmp da (0 : UInt64)) .l) = false) (hp1 : ifCond.holds .le (cmpValue (FP.dcmp db (0 : UInt64)) .l) = true) (hp2 : ifCond.holds .le (cmpValue (FP.dcmp dc (0 : UInt64)) .l) = false) (hp3 : ifCond.holds .le (cmpValue (FP.dcmp dd (0 : UInt64)) .l) = true) :
    zl l Z a0 hb0 (⟨"com/example/tangentia/tangentia/flash/StabilityTest", "presentComponents", "([D)[I"⟩ : MethodName) ok0 7 (some (.array .int)) [] ({ frames := 0, cells := 1, slots := 2, locals := 0 } : Room) #[(.ref x)] [(x, zB .double [.double da, .double db, .double dc, .double dd]), (y, zB .int [.int 0, .int 2, .int 0, .int 0])] (fun r cs' => ∃ z, r = some (.ref z) ∧ cs' = [(x, zB .double [.double da, .double db, .double dc, .double dd]), (y, zB .int [.int 0, .int 2, .int 0, .int 0]), (z, zB .int [.int 0, .int 2])]) := by
  refine zm (L0 := #[oa x, ou, ou, ou, ou, ou, ou]) (plainFor_of_name zy) (fun m => zAA m x) ?_
  intro p e s m below meth c T0 hx hZ hown hby hml hnm H0
  obtain ⟨v26, hv26⟩ : ∃ z : Int32, (cmpValue (FP.dcmp da (0 : UInt64)) .l) = z := ⟨_, rfl⟩
  obtain ⟨v26', hv26'⟩ : ∃ z : Int32, (cmpValue (FP.dcmp db (0 : UInt64)) .l) = z := ⟨_, rfl⟩
  obtain ⟨v26'', hv26''⟩ : ∃ z : Int32, (cmpValue (FP.dcmp dc (0 : UInt64)) .l) = z := ⟨_, rfl⟩
  obtain ⟨v26''', hv26'''⟩ : ∃ z : Int32, (cmpValue (FP.dcmp dd (0 : UInt64)) .l) = z := ⟨_, rfl⟩
  obtain ⟨Tp10_6, z, Hp10_6, stp10_6⟩ := zh H0 hx hZ (zO hw 1 rfl) (g := (mkF m 44 #[oa x, oi 2, oa x, oi 4, oi 4, .val (.double dd), .second] [(.int 2)])) rfl (hb hby d1_44) rfl (by decide) (cap := 2) (by decide) (by decide) (by decide) (by decide)
  change zK _ _ _ _ _ _ _ _ _ _ _ _ _ _ [(x, zB .double [.double da, .double db, .double dc, .double dd]), (y, zB .int [.int 0, .int 2, .int 0, .int 0]), (z, zB .int [.int 0, .int 0])] _ _ at Hp10_6
  obtain ⟨v64, hv64⟩ : ∃ z : Int32, (cmpValue (FP.dcmp da (0 : UInt64)) .l) = z := ⟨_, rfl⟩
  obtain ⟨Tp10_9, Hp10_9, stp10_9⟩ := ze Hp10_6 hx hZ 2 0 rfl (by decide) (Nat.le_of_ble_eq_true rfl) (g := (mkF m 75 #[oa x, oi 2, oa z, oi 1, oi 0, .val (.double dd), .second] [(.int 0), (.int 0), (.ref z)])) rfl rfl (hb hby d1_75)
  change zK _ _ _ _ _ _ _ _ _ _ _ _ _ _ [(x, zB .double [.double da, .double db, .double dc, .double dd]), (y, zB .int [.int 0, .int 2, .int 0, .int 0]), (z, zB .int [.int 0, .int 0])] _ _ at Hp10_9
  obtain ⟨v64', hv64'⟩ : ∃ z : Int32, (cmpValue (FP.dcmp db (0 : UInt64)) .l) = z := ⟨_, rfl⟩
  obtain ⟨v64'', hv64''⟩ : ∃ z : Int32, (cmpValue (FP.dcmp dc (0 : UInt64)) .l) = z := ⟨_, rfl⟩
  obtain ⟨Tp10_14, Hp10_14, stp10_14⟩ := ze Hp10_9 hx hZ 2 1 rfl (by decide) (Nat.le_of_ble_eq_true rfl) (g := (mkF m 75 #[oa x, oi 2, oa z, oi 2, oi 2, .val (.double dd), .second] [(.int 2), (.int 1), (.ref z)])) rfl rfl (hb hby d1_75)
  change zK _ _ _ _ _ _ _ _ _ _ _ _ _ _ [(x, zB .double [.double da, .double db, .double dc, .double dd]), (y, zB .int [.int 0, .int 2, .int 0, .int 0]), (z, zB .int [.int 0, .int 2])] _ _ at Hp10_14
  obtain ⟨v64''', hv64'''⟩ : ∃ z : Int32, (cmpValue (FP.dcmp dd (0 : UInt64)) .l) = z := ⟨_, rfl⟩
  have hb27_0 : ifCond.holds .le v26 = false := by rw [← hv26]; exact hp0
  have hb27_1 : ifCond.holds .le v26' = true := by rw [← hv26']; exact hp1
  have hb27_2 : ifCond.holds .le v26'' = false := by rw [← hv26'']; exact hp2
  have hb27_3 : ifCond.holds .le v26''' = true := by rw [← hv26''']; exact hp3
  have hb65_0 : ifCond.holds .le v64 = false := by rw [← hv64]; exact hp0
  have hb65_1 : ifCond.holds .le v64' = true := by rw [← hv64']; exact hp1
  have hb65_2 : ifCond.holds .le v64'' = false := by rw [← hv64'']; exact hp2
  have hb65_3 : ifCond.holds .le v64''' = true := by rw [← hv64''']; exact hp3
  refine ⟨_, _, _, _, 83, #[oa x, oi 2, oa z, oi 2, oi 4, .val (.double dd), .second], Hp10_14, by decide, by decide, Or.inr ⟨(.array .int), (.ref z), [], .areturn, rfl, ⟨z, rfl, rfl⟩, d1_83, zAC _, fun target q => ?_⟩⟩
  refine zA H0 hx hZ hown hby hw zD (zAD x) _ ?_
  refine zP H0 hx hZ 0 rfl (z := (4 : Int32)) rfl (g := (mkF m 5 #[oa x, oi 0, oa x, ou, ou, ou, ou] [(.ref x)])) rfl rfl (hb hby d1_5) _ ?_
  refine zA H0 hx hZ hown hby hw zD (zAE x) _ ?_
  refine zJ H0 hx hZ 0 0 rfl (by decide) rfl (g := (mkF m 19 #[oa x, oi 0, oa x, oi 4, oi 0, ou, ou] [(.int 0), (.ref x)])) rfl rfl (hb hby d1_19) _ ?_
  refine zA H0 hx hZ hown hby hw zD (zAR x da v26 hv26 hb27_0) _ ?_
  refine zJ H0 hx hZ 0 1 rfl (by decide) rfl (g := (mkF m 19 #[oa x, oi 1, oa x, oi 4, oi 1, .val (.double da), .second] [(.int 1), (.ref x)])) rfl rfl (hb hby d1_19) _ ?_
  refine zA H0 hx hZ hown hby hw zD (zBP x da db v26' hv26' hb27_1) _ ?_
  refine zJ H0 hx hZ 0 2 rfl (by decide) rfl (g := (mkF m 19 #[oa x, oi 1, oa x, oi 4, oi 2, .val (.double db), .second] [(.int 2), (.ref x)])) rfl rfl (hb hby d1_19) _ ?_
  refine zA H0 hx hZ hown hby hw zD (zBF x db dc v26'' hv26'' hb27_2) _ ?_
  refine zJ H0 hx hZ 0 3 rfl (by decide) rfl (g := (mkF m 19 #[oa x, oi 2, oa x, oi 4, oi 3, .val (.double dc), .second] [(.int 3), (.ref x)])) rfl rfl (hb hby d1_19) _ ?_
  refine zA H0 hx hZ hown hby hw zD (zBn x dc dd v26''' hv26''' hb27_3) _ ?_
  refine stp10_6 _ ?_
  refine zA Hp10_6 hx hZ hown hby hw zD (zAX x dd z) _ ?_
  refine zP Hp10_6 hx hZ 0 rfl (z := (4 : Int32)) rfl (g := (mkF m 55 #[oa x, oi 2, oa z, oi 0, oi 0, .val (.double dd), .second] [(.ref x), (.int 0)])) rfl rfl (hb hby d1_55) _ ?_
  refine zA Hp10_6 hx hZ hown hby hw zD (zAY x z dd) _ ?_
  refine zJ Hp10_6 hx hZ 0 0 rfl (by decide) rfl (g := (mkF m 62 #[oa x, oi 2, oa z, oi 0, oi 0, .val (.double dd), .second] [(.int 0), (.ref x)])) rfl rfl (hb hby d1_62) _ ?_
  refine zA Hp10_6 hx hZ hown hby hw zD (zBx x z dd da v64 hv64 hb65_0) _ ?_
  refine stp10_9 _ ?_
  refine zA Hp10_9 hx hZ hown hby hw zD (zBy x z dd) _ ?_
  refine zP Hp10_9 hx hZ 0 rfl (z := (4 : Int32)) rfl (g := (mkF m 55 #[oa x, oi 2, oa z, oi 1, oi 1, .val (.double dd), .second] [(.ref x), (.int 1)])) rfl rfl (hb hby d1_55) _ ?_
  refine zA Hp10_9 hx hZ hown hby hw zD (zBz x z dd) _ ?_
  refine zJ Hp10_9 hx hZ 0 1 rfl (by decide) rfl (g := (mkF m 62 #[oa x, oi 2, oa z, oi 1, oi 1, .val (.double dd), .second] [(.int 1), (.ref x)])) rfl rfl (hb hby d1_62) _ ?_
  refine zA Hp10_9 hx hZ hown hby hw zD (own_p9_11 x z dd db v64' hv64' hb65_1) _ ?_
  refine zP Hp10_9 hx hZ 0 rfl (z := (4 : Int32)) rfl (g := (mkF m 55 #[oa x, oi 2, oa z, oi 1, oi 2, .val (.double dd), .second] [(.ref x), (.int 2)])) rfl rfl (hb hby d1_55) _ ?_
  refine zA Hp10_9 hx hZ hown hby hw zD (zBE x z dd) _ ?_
  refine zJ Hp10_9 hx hZ 0 2 rfl (by decide) rfl (g := (mkF m 62 #[oa x, oi 2, oa z, oi 1, oi 2, .val (.double dd), .second] [(.int 2), (.ref x)])) rfl rfl (hb hby d1_62) _ ?_
  refine zA Hp10_9 hx hZ hown hby hw zD (own_p6_13 x z dd dc v64'' hv64'' hb65_2) _ ?_
  refine stp10_14 _ ?_
  refine zA Hp10_14 hx hZ hown hby hw zD (own_p6_14 x z dd) _ ?_
  refine zP Hp10_14 hx hZ 0 rfl (z := (4 : Int32)) rfl (g := (mkF m 55 #[oa x, oi 2, oa z, oi 2, oi 3, .val (.double dd), .second] [(.ref x), (.int 3)])) rfl rfl (hb hby d1_55) _ ?_
  refine zA Hp10_14 hx hZ hown hby hw zD (zBo x z dd) _ ?_
  refine zJ Hp10_14 hx hZ 0 3 rfl (by decide) rfl (g := (mkF m 62 #[oa x, oi 2, oa z, oi 2, oi 3, .val (.double dd), .second] [(.int 3), (.ref x)])) rfl rfl (hb hby d1_62) _ ?_
  refine zA Hp10_14 hx hZ hown hby hw zD (zBp x z dd v64''' hv64''' hb65_3) _ ?_
  refine zP Hp10_14 hx hZ 0 rfl (z := (4 : Int32)) rfl (g := (mkF m 55 #[oa x, oi 2, oa z, oi 2, oi 4, .val (.double dd), .second] [(.ref x), (.int 4)])) rfl rfl (hb hby d1_55) _ ?_
  refine zA Hp10_14 hx hZ hown hby hw zD (zAZ x z dd) _ ?_
  exact q
theorem own_s10_7 (xa : Int32) (xb : Int32) (xc : Int32) (xd : Int32) (x : Addr) (y : Addr) (hb54 : ifCond.holds .le xb = true) (hb70 : ifCond.holds .le xc = false) :
    zE zQ code 47 #[oi xa, oi xb, oi xc, oi xd, oa x, oa y, oi 0, ou, ou, ou] [] 78 #[oi xa, oi xb, oi xc, oi xd, oa x, oa y, oi 1, ou, ou, ou] [(.int 2), (.int 1), (.ref y)] := by
  refine zG (pc2 := 49) at_47 rfl rfl ?_
  refine zH (v := 1) (pc2 := 50) at_49 rfl rfl ?_
  refine zk (pc2 := 51) at_50 rfl (v := (1 : Int32)) (by decide) ?_
  refine zi (pc2 := 53) at_51 rfl (L' := #[oi xa, oi xb, oi xc, oi xd, oa x, oa y, oi 1, ou, ou, ou]) rfl ?_
  refine zL (pc2 := 54) at_53 rfl rfl ?_
  refine zg (pc' := 69) at_54 hb54 (by decide) (by decide) ?_
  refine zL (pc2 := 70) at_69 rfl rfl ?_
  refine zW (pc2 := 73) at_70 rfl hb70 ?_
  refine zR (pc2 := 75) at_73 rfl rfl rfl ?_
  refine zG (pc2 := 77) at_75 rfl rfl ?_
  refine zH (v := 2) (pc2 := 78) at_77 rfl rfl ?_
  exact zF
set_option maxRecDepth 65536 in
set_option maxHeartbeats 40000000 in
theorem own_law10 (l : Launch) (Z : State) (a0 : Array Value) (hb0 : Heap) (hw : ∀ d ∈ tables_1, d.before a0 Z = true) (xa : Int32) (xb : Int32) (xc : Int32) (xd : Int32) (hb38 : ifCond.holds .le xa = false) (hb54 : ifCond.holds .le xb = true) (hb70 : ifCond.holds .le xc = false) (hb86 : ifCond.holds .le xd = true) :
    zl l Z a0 hb0 x code maxLocals ret tables_1 room_1 #[(.int xa), (.int xb), (.int xc), (.int xd)] [] (fun v _ => v = some (.int 1)) := by
  refine zm (L0 := #[oi xa, oi xb, oi xc, oi xd, ou, ou, ou, ou, ou, ou]) (plainFor_of_name zx) (fun m => zAB m xa xb xc xd) ?_
  intro p e s m below meth c T0 hx hZ hown hby hml hnm H0
  have hown : s.vm.findClass "com/example/tangentia/tangentia/flash/StabilityTestPresentComponentsPinLaw" = some m.cls := hown
  have hml : c.maxLocals = 10 := hml
  obtain ⟨Ts10_1, x, Hs10_1, sts10_1⟩ := zh H0 hx hZ (zO hw 0 rfl) (g := (mkF m 1 #[oi xa, oi xb, oi xc, oi xd, ou, ou, ou, ou, ou, ou] [(.int 4)])) rfl (hb hby at_1) rfl (by decide) (cap := 4) (by decide) (by decide) (by decide) (by decide)
  change zK _ _ _ _ _ _ _ _ _ _ _ _ _ _ [(x, zB .double [.double 0, .double 0, .double 0, .double 0])] _ _ at Hs10_1
  obtain ⟨v9, hv9⟩ : ∃ z : UInt64, (FP.i2d xa) = z := ⟨_, rfl⟩
  obtain ⟨Ts10_2, Hs10_2, sts10_2⟩ := zd Hs10_1 hx hZ 0 0 rfl (by decide) (Nat.le_of_ble_eq_true rfl) (g := (mkF m 10 #[oi xa, oi xb, oi xc, oi xd, oa x, ou, ou, ou, ou, ou] [(.double v9), (.int 0), (.ref x)])) rfl rfl (hb hby at_10)
  change zK _ _ _ _ _ _ _ _ _ _ _ _ _ _ [(x, zB .double [.double v9, .double 0, .double 0, .double 0])] _ _ at Hs10_2
  obtain ⟨v15, hv15⟩ : ∃ z : UInt64, (FP.i2d xb) = z := ⟨_, rfl⟩
  obtain ⟨Ts10_3, Hs10_3, sts10_3⟩ := zd Hs10_2 hx hZ 0 1 rfl (by decide) (Nat.le_of_ble_eq_true rfl) (g := (mkF m 16 #[oi xa, oi xb, oi xc, oi xd, oa x, ou, ou, ou, ou, ou] [(.double v15), (.int 1), (.ref x)])) rfl rfl (hb hby at_16)
  change zK _ _ _ _ _ _ _ _ _ _ _ _ _ _ [(x, zB .double [.double v9, .double v15, .double 0, .double 0])] _ _ at Hs10_3
  obtain ⟨v21, hv21⟩ : ∃ z : UInt64, (FP.i2d xc) = z := ⟨_, rfl⟩
  obtain ⟨Ts10_4, Hs10_4, sts10_4⟩ := zd Hs10_3 hx hZ 0 2 rfl (by decide) (Nat.le_of_ble_eq_true rfl) (g := (mkF m 22 #[oi xa, oi xb, oi xc, oi xd, oa x, ou, ou, ou, ou, ou] [(.double v21), (.int 2), (.ref x)])) rfl rfl (hb hby at_22)
  change zK _ _ _ _ _ _ _ _ _ _ _ _ _ _ [(x, zB .double [.double v9, .double v15, .double v21, .double 0])] _ _ at Hs10_4
  obtain ⟨v27, hv27⟩ : ∃ z : UInt64, (FP.i2d xd) = z := ⟨_, rfl⟩
  obtain ⟨Ts10_5, Hs10_5, sts10_5⟩ := zd Hs10_4 hx hZ 0 3 rfl (by decide) (Nat.le_of_ble_eq_true rfl) (g := (mkF m 28 #[oi xa, oi xb, oi xc, oi xd, oa x, ou, ou, ou, ou, ou] [(.double v27), (.int 3), (.ref x)])) rfl rfl (hb hby at_28)
  change zK _ _ _ _ _ _ _ _ _ _ _ _ _ _ [(x, zB .double [.double v9, .double v15, .double v21, .double v27])] _ _ at Hs10_5
  obtain ⟨Ts10_6, y, Hs10_6, sts10_6⟩ := zh Hs10_5 hx hZ (zO hw 1 rfl) (g := (mkF m 30 #[oi xa, oi xb, oi xc, oi xd, oa x, ou, ou, ou, ou, ou] [(.int 4)])) rfl (hb hby at_30) rfl (by decide) (cap := 4) (by decide) (by decide) (by decide) (by decide)
  change zK _ _ _ _ _ _ _ _ _ _ _ _ _ _ [(x, zB .double [.double v9, .double v15, .double v21, .double v27]), (y, zB .int [.int 0, .int 0, .int 0, .int 0])] _ _ at Hs10_6
  obtain ⟨Ts10_7, Hs10_7, sts10_7⟩ := ze Hs10_6 hx hZ 1 0 rfl (by decide) (Nat.le_of_ble_eq_true rfl) (g := (mkF m 46 #[oi xa, oi xb, oi xc, oi xd, oa x, oa y, oi 0, ou, ou, ou] [(.int 0), (.int 0), (.ref y)])) rfl rfl (hb hby at_46)
  change zK _ _ _ _ _ _ _ _ _ _ _ _ _ _ [(x, zB .double [.double v9, .double v15, .double v21, .double v27]), (y, zB .int [.int 0, .int 0, .int 0, .int 0])] _ _ at Hs10_7
  obtain ⟨Ts10_8, Hs10_8, sts10_8⟩ := ze Hs10_7 hx hZ 1 1 rfl (by decide) (Nat.le_of_ble_eq_true rfl) (g := (mkF m 78 #[oi xa, oi xb, oi xc, oi xd, oa x, oa y, oi 1, ou, ou, ou] [(.int 2), (.int 1), (.ref y)])) rfl rfl (hb hby at_78)
  change zK _ _ _ _ _ _ _ _ _ _ _ _ _ _ [(x, zB .double [.double v9, .double v15, .double v21, .double v27]), (y, zB .int [.int 0, .int 2, .int 0, .int 0])] _ _ at Hs10_8
  have hp0 : ifCond.holds .le (cmpValue (FP.dcmp v9 (0 : UInt64)) .l) = false := by rw [← hv9, zY (zI xa) zX]; exact zn hb38
  have hp1 : ifCond.holds .le (cmpValue (FP.dcmp v15 (0 : UInt64)) .l) = true := by rw [← hv15, zY (zI xb) zX]; exact zo hb54
  have hp2 : ifCond.holds .le (cmpValue (FP.dcmp v21 (0 : UInt64)) .l) = false := by rw [← hv21, zY (zI xc) zX]; exact zn hb70
  have hp3 : ifCond.holds .le (cmpValue (FP.dcmp v27 (0 : UInt64)) .l) = true := by rw [← hv27, zY (zI xd) zX]; exact zo hb86
  obtain ⟨Ts10_9, vs10_9_, css10_9_, qs10_9, Hs10_9, sts10_9⟩ := zw Hs10_8 hx hZ hown (zO hw 2 rfl) (zO hw 3 rfl) (zO hw 4 rfl) (zO hw 5 rfl) (by decide) (argsL := [(.ref x)]) (rest := []) (W := 0) (own_q10 l Z a0 hb0 hw x y v9 v15 v21 v27 hp0 hp1 hp2 hp3) (by decide) (by decide) (by decide) (by decide) (g := (mkF m 103 #[oi xa, oi xb, oi xc, oi xd, oa x, oa y, oi 2, ou, ou, ou] [(.ref x)])) rfl (by rw [hml]; rfl) (lenOf zz rfl) rfl (by show 2 * 0 + _ ≤ _; exact Nat.le_of_eq rfl) (hb hby at_103)
  obtain ⟨z, rfl, rfl⟩ := qs10_9
  obtain ⟨v203, hv203⟩ : ∃ z : UInt64, (FP.i2d xa) = z := ⟨_, rfl⟩
  obtain ⟨v204, hv204⟩ : ∃ z : Int32, (cmpValue (FP.dcmp v9 v203) .l) = z := ⟨_, rfl⟩
  obtain ⟨v213, hv213⟩ : ∃ z : UInt64, (FP.i2d xb) = z := ⟨_, rfl⟩
  obtain ⟨v214, hv214⟩ : ∃ z : Int32, (cmpValue (FP.dcmp v15 v213) .l) = z := ⟨_, rfl⟩
  obtain ⟨v223, hv223⟩ : ∃ z : UInt64, (FP.i2d xc) = z := ⟨_, rfl⟩
  obtain ⟨v224, hv224⟩ : ∃ z : Int32, (cmpValue (FP.dcmp v21 v223) .l) = z := ⟨_, rfl⟩
  obtain ⟨v233, hv233⟩ : ∃ z : UInt64, (FP.i2d xd) = z := ⟨_, rfl⟩
  obtain ⟨v234, hv234⟩ : ∃ z : Int32, (cmpValue (FP.dcmp v27 v233) .l) = z := ⟨_, rfl⟩
  have hb205 : ifCond.holds .ne v204 = false := by rw [← hv204, ← hv203, ← hv9, zZ (zI xa) (zI xa)]; simp
  have hb215 : ifCond.holds .ne v214 = false := by rw [← hv214, ← hv213, ← hv15, zZ (zI xb) (zI xb)]; simp
  have hb225 : ifCond.holds .ne v224 = false := by rw [← hv224, ← hv223, ← hv21, zZ (zI xc) (zI xc)]; simp
  have hb235 : ifCond.holds .ne v234 = false := by rw [← hv234, ← hv233, ← hv27, zZ (zI xd) (zI xd)]; simp
  refine ⟨_, _, _, _, 260, #[oi xa, oi xb, oi xc, oi xd, oa x, oa y, oi 2, oa z, oi 1, oi 1], Hs10_9, by decide, by decide, Or.inr ⟨.boolean, (.int 1), [], .ireturn, rfl, rfl, at_260, zv (Or.inr rfl), fun target q => ?_⟩⟩
  refine zA H0 hx hZ hown hby hw zC (zAF xa xb xc xd) _ ?_
  refine sts10_1 _ ?_
  refine zA Hs10_1 hx hZ hown hby hw zC (zAG xa xb xc xd x v9 hv9) _ ?_
  refine sts10_2 _ ?_
  refine zA Hs10_2 hx hZ hown hby hw zC (zAH xa xb xc xd x v15 hv15) _ ?_
  refine sts10_3 _ ?_
  refine zA Hs10_3 hx hZ hown hby hw zC (zAI xa xb xc xd x v21 hv21) _ ?_
  refine sts10_4 _ ?_
  refine zA Hs10_4 hx hZ hown hby hw zC (zAJ xa xb xc xd x v27 hv27) _ ?_
  refine sts10_5 _ ?_
  refine zA Hs10_5 hx hZ hown hby hw zC (zAK xa xb xc xd x) _ ?_
  refine sts10_6 _ ?_
  refine zA Hs10_6 hx hZ hown hby hw zC (zAS xa xb xc xd x y hb38) _ ?_
  refine sts10_7 _ ?_
  refine zA Hs10_7 hx hZ hown hby hw zC (own_s10_7 xa xb xc xd x y hb54 hb70) _ ?_
  refine sts10_8 _ ?_
  refine zA Hs10_8 hx hZ hown hby hw zC (own_s6_8 xa xb xc xd x y hb86) _ ?_
  refine sts10_9 _ ?_
  refine zA Hs10_9 hx hZ hown hby hw zC (zAa xa xb xc xd x y z) _ ?_
  refine zP Hs10_9 hx hZ 2 rfl (z := (2 : Int32)) rfl (g := (mkF m 115 #[oi xa, oi xb, oi xc, oi xd, oa x, oa y, oi 2, oa z, ou, ou] [(.ref z)])) rfl rfl (hb hby at_115) _ ?_
  refine zA Hs10_9 hx hZ hown hby hw zC (zAb xa xb xc xd x y z) _ ?_
  refine zb Hs10_9 hx hZ 2 0 rfl (by decide) rfl (g := (mkF m 132 #[oi xa, oi xb, oi xc, oi xd, oa x, oa y, oi 2, oa z, ou, ou] [(.int 0), (.ref z)])) rfl rfl (hb hby at_132) _ ?_
  refine zA Hs10_9 hx hZ hown hby hw zC (zCA xa xb xc xd x y z) _ ?_
  refine zb Hs10_9 hx hZ 1 0 rfl (by decide) rfl (g := (mkF m 136 #[oi xa, oi xb, oi xc, oi xd, oa x, oa y, oi 2, oa z, ou, ou] [(.int 0), (.ref y), (.int 0)])) rfl rfl (hb hby at_136) _ ?_
  refine zA Hs10_9 hx hZ hown hby hw zC (zCB xa xb xc xd x y z) _ ?_
  refine zb Hs10_9 hx hZ 2 1 rfl (by decide) rfl (g := (mkF m 149 #[oi xa, oi xb, oi xc, oi xd, oa x, oa y, oi 2, oa z, ou, ou] [(.int 1), (.ref z)])) rfl rfl (hb hby at_149) _ ?_
  refine zA Hs10_9 hx hZ hown hby hw zC (own_s6_13 xa xb xc xd x y z) _ ?_
  refine zb Hs10_9 hx hZ 1 1 rfl (by decide) rfl (g := (mkF m 153 #[oi xa, oi xb, oi xc, oi xd, oa x, oa y, oi 2, oa z, ou, ou] [(.int 1), (.ref y), (.int 2)])) rfl rfl (hb hby at_153) _ ?_
  refine zA Hs10_9 hx hZ hown hby hw zC (own_s6_14 xa xb xc xd x y z) _ ?_
  refine zJ Hs10_9 hx hZ 0 0 rfl (by decide) rfl (g := (mkF m 201 #[oi xa, oi xb, oi xc, oi xd, oa x, oa y, oi 2, oa z, oi 1, ou] [(.int 0), (.ref x)])) rfl rfl (hb hby at_201) _ ?_
  refine zA Hs10_9 hx hZ hown hby hw zC (zAc xa xb xc xd x y z v9 v203 hv203 v204 hv204 hb205) _ ?_
  refine zJ Hs10_9 hx hZ 0 1 rfl (by decide) rfl (g := (mkF m 211 #[oi xa, oi xb, oi xc, oi xd, oa x, oa y, oi 2, oa z, oi 1, ou] [(.int 1), (.ref x)])) rfl rfl (hb hby at_211) _ ?_
  refine zA Hs10_9 hx hZ hown hby hw zC (zAd xa xb xc xd x y z v15 v213 hv213 v214 hv214 hb215) _ ?_
  refine zJ Hs10_9 hx hZ 0 2 rfl (by decide) rfl (g := (mkF m 221 #[oi xa, oi xb, oi xc, oi xd, oa x, oa y, oi 2, oa z, oi 1, ou] [(.int 2), (.ref x)])) rfl rfl (hb hby at_221) _ ?_
  refine zA Hs10_9 hx hZ hown hby hw zC (zAe xa xb xc xd x y z v21 v223 hv223 v224 hv224 hb225) _ ?_
  refine zJ Hs10_9 hx hZ 0 3 rfl (by decide) rfl (g := (mkF m 231 #[oi xa, oi xb, oi xc, oi xd, oa x, oa y, oi 2, oa z, oi 1, ou] [(.int 3), (.ref x)])) rfl rfl (hb hby at_231) _ ?_
  refine zA Hs10_9 hx hZ hown hby hw zC (zAf xa xb xc xd x y z v27 v233 hv233 v234 hv234 hb235) _ ?_
  exact q
theorem zCC (x : Addr) (z : Addr) (dd : UInt64) (da : UInt64) (v64 : Int32) (hv64 : (cmpValue (FP.dcmp da (0 : UInt64)) .l) = v64) (hb65_0 : ifCond.holds .le v64 = false) :
    zE zM ok0 63 #[oa x, oi 3, oa z, oi 0, oi 0, .val (.double dd), .second] [(.double da)] 75 #[oa x, oi 3, oa z, oi 1, oi 0, .val (.double dd), .second] [(.int 0), (.int 0), (.ref z)] := by
  refine zf (v := 0) (pc2 := 64) d1_63 rfl rfl ?_
  refine zT (pc2 := 65) d1_64 rfl (v := v64) hv64 ?_
  refine zW (pc2 := 68) d1_65 rfl hb65_0 ?_
  refine zN (pc2 := 69) d1_68 rfl rfl rfl ?_
  refine zL (pc2 := 70) d1_69 rfl rfl ?_
  refine zU (pc2 := 73) d1_70 rfl rfl (v := (1 : Int32)) (by decide) (L' := #[oa x, oi 3, oa z, oi 1, oi 0, .val (.double dd), .second]) rfl ?_
  refine zG (pc2 := 75) d1_73 rfl rfl ?_
  exact zF
theorem zCD (x : Addr) (z : Addr) (dd : UInt64) :
    zE zM ok0 76 #[oa x, oi 3, oa z, oi 1, oi 0, .val (.double dd), .second] [] 55 #[oa x, oi 3, oa z, oi 1, oi 1, .val (.double dd), .second] [(.ref x), (.int 1)] := by
  refine zU (pc2 := 79) d1_76 rfl rfl (v := (1 : Int32)) (by decide) (L' := #[oa x, oi 3, oa z, oi 1, oi 1, .val (.double dd), .second]) rfl ?_
  refine zS (pc' := 52) d1_79 (by decide) (by decide) ?_
  refine zG (pc2 := 54) d1_52 rfl rfl ?_
  refine zN (pc2 := 55) d1_54 rfl rfl rfl ?_
  exact zF
theorem zCE (x : Addr) (z : Addr) (dd : UInt64) :
    zE zM ok0 56 #[oa x, oi 3, oa z, oi 1, oi 1, .val (.double dd), .second] [(.int 4), (.int 1)] 62 #[oa x, oi 3, oa z, oi 1, oi 1, .val (.double dd), .second] [(.int 1), (.ref x)] := by
  refine zV (pc2 := 59) d1_56 rfl (by decide) ?_
  refine zN (pc2 := 60) d1_59 rfl rfl rfl ?_
  refine zG (pc2 := 62) d1_60 rfl rfl ?_
  exact zF
theorem own_p11_11 (x : Addr) (z : Addr) (dd : UInt64) (db : UInt64) (v64' : Int32) (hv64' : (cmpValue (FP.dcmp db (0 : UInt64)) .l) = v64') (hb65_1 : ifCond.holds .le v64' = true) :
    zE zM ok0 63 #[oa x, oi 3, oa z, oi 1, oi 1, .val (.double dd), .second] [(.double db)] 55 #[oa x, oi 3, oa z, oi 1, oi 2, .val (.double dd), .second] [(.ref x), (.int 2)] := by
  refine zf (v := 0) (pc2 := 64) d1_63 rfl rfl ?_
  refine zT (pc2 := 65) d1_64 rfl (v := v64') hv64' ?_
  refine zg (pc' := 76) d1_65 hb65_1 (by decide) (by decide) ?_
  refine zU (pc2 := 79) d1_76 rfl rfl (v := (2 : Int32)) (by decide) (L' := #[oa x, oi 3, oa z, oi 1, oi 2, .val (.double dd), .second]) rfl ?_
  refine zS (pc' := 52) d1_79 (by decide) (by decide) ?_
  refine zG (pc2 := 54) d1_52 rfl rfl ?_
  refine zN (pc2 := 55) d1_54 rfl rfl rfl ?_
  exact zF
set_option maxRecDepth 65536 in
set_option maxHeartbeats 4000000 in
theorem own_q11 (l : Launch) (Z : State) (a0 : Array Value) (hb0 : Heap) (hw : ∀ d ∈ tables_1, d.before a0 Z = true) (x : Addr) (y : Addr) (da db dc dd : UInt64) (hp0 : ifCond.holds .le (cmpValue (FP.dcmp da (0 : UInt64)) .l) = false) (hp1 : ifCond.holds .le (cmpValue (FP.dcmp db (0 : UInt64)) .l) = true) (hp2 : ifCond.holds .le (cmpValue (FP.dcmp dc (0 : UInt64)) .l) = false) (hp3 : ifCond.holds .le (cmpValue (FP.dcmp dd (0 : UInt64)) .l) = false) :
    zl l Z a0 hb0 (⟨"com/example/tangentia/tangentia/flash/StabilityTest", "presentComponents", "([D)[I"⟩ : MethodName) ok0 7 (some (.array .int)) [] ({ frames := 0, cells := 1, slots := 3, locals := 0 } : Room) #[(.ref x)] [(x, zB .double [.double da, .double db, .double dc, .double dd]), (y, zB .int [.int 0, .int 2, .int 3, .int 0])] (fun r cs' => ∃ z, r = some (.ref z) ∧ cs' = [(x, zB .double [.double da, .double db, .double dc, .double dd]), (y, zB .int [.int 0, .int 2, .int 3, .int 0]), (z, zB .int [.int 0, .int 2, .int 3])]) := by
  refine zm (L0 := #[oa x, ou, ou, ou, ou, ou, ou]) (plainFor_of_name zy) (fun m => zAA m x) ?_
  intro p e s m below meth c T0 hx hZ hown hby hml hnm H0
  obtain ⟨v26, hv26⟩ : ∃ z : Int32, (cmpValue (FP.dcmp da (0 : UInt64)) .l) = z := ⟨_, rfl⟩
  obtain ⟨v26', hv26'⟩ : ∃ z : Int32, (cmpValue (FP.dcmp db (0 : UInt64)) .l) = z := ⟨_, rfl⟩
  obtain ⟨v26'', hv26''⟩ : ∃ z : Int32, (cmpValue (FP.dcmp dc (0 : UInt64)) .l) = z := ⟨_, rfl⟩
  obtain ⟨v26''', hv26'''⟩ : ∃ z : Int32, (cmpValue (FP.dcmp dd (0 : UInt64)) .l) = z := ⟨_, rfl⟩
  obtain ⟨Tp11_6, z, Hp11_6, stp11_6⟩ := zh H0 hx hZ (zO hw 1 rfl) (g := (mkF m 44 #[oa x, oi 3, oa x, oi 4, oi 4, .val (.double dd), .second] [(.int 3)])) rfl (hb hby d1_44) rfl (by decide) (cap := 3) (by decide) (by decide) (by decide) (by decide)
  change zK _ _ _ _ _ _ _ _ _ _ _ _ _ _ [(x, zB .double [.double da, .double db, .double dc, .double dd]), (y, zB .int [.int 0, .int 2, .int 3, .int 0]), (z, zB .int [.int 0, .int 0, .int 0])] _ _ at Hp11_6
  obtain ⟨v64, hv64⟩ : ∃ z : Int32, (cmpValue (FP.dcmp da (0 : UInt64)) .l) = z := ⟨_, rfl⟩
  obtain ⟨Tp11_9, Hp11_9, stp11_9⟩ := ze Hp11_6 hx hZ 2 0 rfl (by decide) (Nat.le_of_ble_eq_true rfl) (g := (mkF m 75 #[oa x, oi 3, oa z, oi 1, oi 0, .val (.double dd), .second] [(.int 0), (.int 0), (.ref z)])) rfl rfl (hb hby d1_75)
  change zK _ _ _ _ _ _ _ _ _ _ _ _ _ _ [(x, zB .double [.double da, .double db, .double dc, .double dd]), (y, zB .int [.int 0, .int 2, .int 3, .int 0]), (z, zB .int [.int 0, .int 0, .int 0])] _ _ at Hp11_9
  obtain ⟨v64', hv64'⟩ : ∃ z : Int32, (cmpValue (FP.dcmp db (0 : UInt64)) .l) = z := ⟨_, rfl⟩
  obtain ⟨v64'', hv64''⟩ : ∃ z : Int32, (cmpValue (FP.dcmp dc (0 : UInt64)) .l) = z := ⟨_, rfl⟩
  obtain ⟨Tp11_14, Hp11_14, stp11_14⟩ := ze Hp11_9 hx hZ 2 1 rfl (by decide) (Nat.le_of_ble_eq_true rfl) (g := (mkF m 75 #[oa x, oi 3, oa z, oi 2, oi 2, .val (.double dd), .second] [(.int 2), (.int 1), (.ref z)])) rfl rfl (hb hby d1_75)
  change zK _ _ _ _ _ _ _ _ _ _ _ _ _ _ [(x, zB .double [.double da, .double db, .double dc, .double dd]), (y, zB .int [.int 0, .int 2, .int 3, .int 0]), (z, zB .int [.int 0, .int 2, .int 0])] _ _ at Hp11_14
  obtain ⟨v64''', hv64'''⟩ : ∃ z : Int32, (cmpValue (FP.dcmp dd (0 : UInt64)) .l) = z := ⟨_, rfl⟩
  obtain ⟨Tp11_17, Hp11_17, stp11_17⟩ := ze Hp11_14 hx hZ 2 2 rfl (by decide) (Nat.le_of_ble_eq_true rfl) (g := (mkF m 75 #[oa x, oi 3, oa z, oi 3, oi 3, .val (.double dd), .second] [(.int 3), (.int 2), (.ref z)])) rfl rfl (hb hby d1_75)
  change zK _ _ _ _ _ _ _ _ _ _ _ _ _ _ [(x, zB .double [.double da, .double db, .double dc, .double dd]), (y, zB .int [.int 0, .int 2, .int 3, .int 0]), (z, zB .int [.int 0, .int 2, .int 3])] _ _ at Hp11_17
  have hb27_0 : ifCond.holds .le v26 = false := by rw [← hv26]; exact hp0
  have hb27_1 : ifCond.holds .le v26' = true := by rw [← hv26']; exact hp1
  have hb27_2 : ifCond.holds .le v26'' = false := by rw [← hv26'']; exact hp2
  have hb27_3 : ifCond.holds .le v26''' = false := by rw [← hv26''']; exact hp3
  have hb65_0 : ifCond.holds .le v64 = false := by rw [← hv64]; exact hp0
  have hb65_1 : ifCond.holds .le v64' = true := by rw [← hv64']; exact hp1
  have hb65_2 : ifCond.holds .le v64'' = false := by rw [← hv64'']; exact hp2
  have hb65_3 : ifCond.holds .le v64''' = false := by rw [← hv64''']; exact hp3
  refine ⟨_, _, _, _, 83, #[oa x, oi 3, oa z, oi 3, oi 4, .val (.double dd), .second], Hp11_17, by decide, by decide, Or.inr ⟨(.array .int), (.ref z), [], .areturn, rfl, ⟨z, rfl, rfl⟩, d1_83, zAC _, fun target q => ?_⟩⟩
  refine zA H0 hx hZ hown hby hw zD (zAD x) _ ?_
  refine zP H0 hx hZ 0 rfl (z := (4 : Int32)) rfl (g := (mkF m 5 #[oa x, oi 0, oa x, ou, ou, ou, ou] [(.ref x)])) rfl rfl (hb hby d1_5) _ ?_
  refine zA H0 hx hZ hown hby hw zD (zAE x) _ ?_
  refine zJ H0 hx hZ 0 0 rfl (by decide) rfl (g := (mkF m 19 #[oa x, oi 0, oa x, oi 4, oi 0, ou, ou] [(.int 0), (.ref x)])) rfl rfl (hb hby d1_19) _ ?_
  refine zA H0 hx hZ hown hby hw zD (zAR x da v26 hv26 hb27_0) _ ?_
  refine zJ H0 hx hZ 0 1 rfl (by decide) rfl (g := (mkF m 19 #[oa x, oi 1, oa x, oi 4, oi 1, .val (.double da), .second] [(.int 1), (.ref x)])) rfl rfl (hb hby d1_19) _ ?_
  refine zA H0 hx hZ hown hby hw zD (zBP x da db v26' hv26' hb27_1) _ ?_
  refine zJ H0 hx hZ 0 2 rfl (by decide) rfl (g := (mkF m 19 #[oa x, oi 1, oa x, oi 4, oi 2, .val (.double db), .second] [(.int 2), (.ref x)])) rfl rfl (hb hby d1_19) _ ?_
  refine zA H0 hx hZ hown hby hw zD (zBF x db dc v26'' hv26'' hb27_2) _ ?_
  refine zJ H0 hx hZ 0 3 rfl (by decide) rfl (g := (mkF m 19 #[oa x, oi 2, oa x, oi 4, oi 3, .val (.double dc), .second] [(.int 3), (.ref x)])) rfl rfl (hb hby d1_19) _ ?_
  refine zA H0 hx hZ hown hby hw zD (zBq x dc dd v26''' hv26''' hb27_3) _ ?_
  refine stp11_6 _ ?_
  refine zA Hp11_6 hx hZ hown hby hw zD (zBG x dd z) _ ?_
  refine zP Hp11_6 hx hZ 0 rfl (z := (4 : Int32)) rfl (g := (mkF m 55 #[oa x, oi 3, oa z, oi 0, oi 0, .val (.double dd), .second] [(.ref x), (.int 0)])) rfl rfl (hb hby d1_55) _ ?_
  refine zA Hp11_6 hx hZ hown hby hw zD (zBH x z dd) _ ?_
  refine zJ Hp11_6 hx hZ 0 0 rfl (by decide) rfl (g := (mkF m 62 #[oa x, oi 3, oa z, oi 0, oi 0, .val (.double dd), .second] [(.int 0), (.ref x)])) rfl rfl (hb hby d1_62) _ ?_
  refine zA Hp11_6 hx hZ hown hby hw zD (zCC x z dd da v64 hv64 hb65_0) _ ?_
  refine stp11_9 _ ?_
  refine zA Hp11_9 hx hZ hown hby hw zD (zCD x z dd) _ ?_
  refine zP Hp11_9 hx hZ 0 rfl (z := (4 : Int32)) rfl (g := (mkF m 55 #[oa x, oi 3, oa z, oi 1, oi 1, .val (.double dd), .second] [(.ref x), (.int 1)])) rfl rfl (hb hby d1_55) _ ?_
  refine zA Hp11_9 hx hZ hown hby hw zD (zCE x z dd) _ ?_
  refine zJ Hp11_9 hx hZ 0 1 rfl (by decide) rfl (g := (mkF m 62 #[oa x, oi 3, oa z, oi 1, oi 1, .val (.double dd), .second] [(.int 1), (.ref x)])) rfl rfl (hb hby d1_62) _ ?_
  refine zA Hp11_9 hx hZ hown hby hw zD (own_p11_11 x z dd db v64' hv64' hb65_1) _ ?_
  refine zP Hp11_9 hx hZ 0 rfl (z := (4 : Int32)) rfl (g := (mkF m 55 #[oa x, oi 3, oa z, oi 1, oi 2, .val (.double dd), .second] [(.ref x), (.int 2)])) rfl rfl (hb hby d1_55) _ ?_
  refine zA Hp11_9 hx hZ hown hby hw zD (own_p7_12 x z dd) _ ?_
  refine zJ Hp11_9 hx hZ 0 2 rfl (by decide) rfl (g := (mkF m 62 #[oa x, oi 3, oa z, oi 1, oi 2, .val (.double dd), .second] [(.int 2), (.ref x)])) rfl rfl (hb hby d1_62) _ ?_
  refine zA Hp11_9 hx hZ hown hby hw zD (own_p7_13 x z dd dc v64'' hv64'' hb65_2) _ ?_
  refine stp11_14 _ ?_
  refine zA Hp11_14 hx hZ hown hby hw zD (own_p7_14 x z dd) _ ?_
  refine zP Hp11_14 hx hZ 0 rfl (z := (4 : Int32)) rfl (g := (mkF m 55 #[oa x, oi 3, oa z, oi 2, oi 3, .val (.double dd), .second] [(.ref x), (.int 3)])) rfl rfl (hb hby d1_55) _ ?_
  refine zA Hp11_14 hx hZ hown hby hw zD (zBr x z dd) _ ?_
  refine zJ Hp11_14 hx hZ 0 3 rfl (by decide) rfl (g := (mkF m 62 #[oa x, oi 3, oa z, oi 2, oi 3, .val (.double dd), .second] [(.int 3), (.ref x)])) rfl rfl (hb hby d1_62) _ ?_
  refine zA Hp11_14 hx hZ hown hby hw zD (zBs x z dd v64''' hv64''' hb65_3) _ ?_
  refine stp11_17 _ ?_
  refine zA Hp11_17 hx hZ hown hby hw zD (zBt x z dd) _ ?_
  refine zP Hp11_17 hx hZ 0 rfl (z := (4 : Int32)) rfl (g := (mkF m 55 #[oa x, oi 3, oa z, oi 3, oi 4, .val (.double dd), .second] [(.ref x), (.int 4)])) rfl rfl (hb hby d1_55) _ ?_
  refine zA Hp11_17 hx hZ hown hby hw zD (zBI x z dd) _ ?_
  exact q
theorem zCF (xa : Int32) (xb : Int32) (xc : Int32) (xd : Int32) (x : Addr) (y : Addr) (z : Addr) :
    zE zQ code 133 #[oi xa, oi xb, oi xc, oi xd, oa x, oa y, oi 3, oa z, ou, ou] [(.int 0)] 136 #[oi xa, oi xb, oi xc, oi xd, oa x, oa y, oi 3, oa z, ou, ou] [(.int 0), (.ref y), (.int 0)] := by
  refine zR (pc2 := 135) at_133 rfl rfl rfl ?_
  refine zH (v := 0) (pc2 := 136) at_135 rfl rfl ?_
  exact zF
theorem zCG (xa : Int32) (xb : Int32) (xc : Int32) (xd : Int32) (x : Addr) (y : Addr) (z : Addr) :
    zE zQ code 137 #[oi xa, oi xb, oi xc, oi xd, oa x, oa y, oi 3, oa z, ou, ou] [(.int 0), (.int 0)] 149 #[oi xa, oi xb, oi xc, oi xd, oa x, oa y, oi 3, oa z, ou, ou] [(.int 1), (.ref z)] := by
  refine zV (pc2 := 140) at_137 rfl (by decide) ?_
  refine zG (pc2 := 142) at_140 rfl rfl ?_
  refine zH (v := 2) (pc2 := 143) at_142 rfl rfl ?_
  refine zV (pc2 := 146) at_143 rfl (by decide) ?_
  refine zR (pc2 := 148) at_146 rfl rfl rfl ?_
  refine zH (v := 1) (pc2 := 149) at_148 rfl rfl ?_
  exact zF
set_option maxRecDepth 65536 in
set_option maxHeartbeats 40000000 in
theorem own_law11 (l : Launch) (Z : State) (a0 : Array Value) (hb0 : Heap) (hw : ∀ d ∈ tables_1, d.before a0 Z = true) (xa : Int32) (xb : Int32) (xc : Int32) (xd : Int32) (hb38 : ifCond.holds .le xa = false) (hb54 : ifCond.holds .le xb = true) (hb70 : ifCond.holds .le xc = false) (hb86 : ifCond.holds .le xd = false) :
    zl l Z a0 hb0 x code maxLocals ret tables_1 room_1 #[(.int xa), (.int xb), (.int xc), (.int xd)] [] (fun v _ => v = some (.int 1)) := by
  refine zm (L0 := #[oi xa, oi xb, oi xc, oi xd, ou, ou, ou, ou, ou, ou]) (plainFor_of_name zx) (fun m => zAB m xa xb xc xd) ?_
  intro p e s m below meth c T0 hx hZ hown hby hml hnm H0
  have hown : s.vm.findClass "com/example/tangentia/tangentia/flash/StabilityTestPresentComponentsPinLaw" = some m.cls := hown
  have hml : c.maxLocals = 10 := hml
  obtain ⟨Ts11_1, x, Hs11_1, sts11_1⟩ := zh H0 hx hZ (zO hw 0 rfl) (g := (mkF m 1 #[oi xa, oi xb, oi xc, oi xd, ou, ou, ou, ou, ou, ou] [(.int 4)])) rfl (hb hby at_1) rfl (by decide) (cap := 4) (by decide) (by decide) (by decide) (by decide)
  change zK _ _ _ _ _ _ _ _ _ _ _ _ _ _ [(x, zB .double [.double 0, .double 0, .double 0, .double 0])] _ _ at Hs11_1
  obtain ⟨v9, hv9⟩ : ∃ z : UInt64, (FP.i2d xa) = z := ⟨_, rfl⟩
  obtain ⟨Ts11_2, Hs11_2, sts11_2⟩ := zd Hs11_1 hx hZ 0 0 rfl (by decide) (Nat.le_of_ble_eq_true rfl) (g := (mkF m 10 #[oi xa, oi xb, oi xc, oi xd, oa x, ou, ou, ou, ou, ou] [(.double v9), (.int 0), (.ref x)])) rfl rfl (hb hby at_10)
  change zK _ _ _ _ _ _ _ _ _ _ _ _ _ _ [(x, zB .double [.double v9, .double 0, .double 0, .double 0])] _ _ at Hs11_2
  obtain ⟨v15, hv15⟩ : ∃ z : UInt64, (FP.i2d xb) = z := ⟨_, rfl⟩
  obtain ⟨Ts11_3, Hs11_3, sts11_3⟩ := zd Hs11_2 hx hZ 0 1 rfl (by decide) (Nat.le_of_ble_eq_true rfl) (g := (mkF m 16 #[oi xa, oi xb, oi xc, oi xd, oa x, ou, ou, ou, ou, ou] [(.double v15), (.int 1), (.ref x)])) rfl rfl (hb hby at_16)
  change zK _ _ _ _ _ _ _ _ _ _ _ _ _ _ [(x, zB .double [.double v9, .double v15, .double 0, .double 0])] _ _ at Hs11_3
  obtain ⟨v21, hv21⟩ : ∃ z : UInt64, (FP.i2d xc) = z := ⟨_, rfl⟩
  obtain ⟨Ts11_4, Hs11_4, sts11_4⟩ := zd Hs11_3 hx hZ 0 2 rfl (by decide) (Nat.le_of_ble_eq_true rfl) (g := (mkF m 22 #[oi xa, oi xb, oi xc, oi xd, oa x, ou, ou, ou, ou, ou] [(.double v21), (.int 2), (.ref x)])) rfl rfl (hb hby at_22)
  change zK _ _ _ _ _ _ _ _ _ _ _ _ _ _ [(x, zB .double [.double v9, .double v15, .double v21, .double 0])] _ _ at Hs11_4
  obtain ⟨v27, hv27⟩ : ∃ z : UInt64, (FP.i2d xd) = z := ⟨_, rfl⟩
  obtain ⟨Ts11_5, Hs11_5, sts11_5⟩ := zd Hs11_4 hx hZ 0 3 rfl (by decide) (Nat.le_of_ble_eq_true rfl) (g := (mkF m 28 #[oi xa, oi xb, oi xc, oi xd, oa x, ou, ou, ou, ou, ou] [(.double v27), (.int 3), (.ref x)])) rfl rfl (hb hby at_28)
  change zK _ _ _ _ _ _ _ _ _ _ _ _ _ _ [(x, zB .double [.double v9, .double v15, .double v21, .double v27])] _ _ at Hs11_5
  obtain ⟨Ts11_6, y, Hs11_6, sts11_6⟩ := zh Hs11_5 hx hZ (zO hw 1 rfl) (g := (mkF m 30 #[oi xa, oi xb, oi xc, oi xd, oa x, ou, ou, ou, ou, ou] [(.int 4)])) rfl (hb hby at_30) rfl (by decide) (cap := 4) (by decide) (by decide) (by decide) (by decide)
  change zK _ _ _ _ _ _ _ _ _ _ _ _ _ _ [(x, zB .double [.double v9, .double v15, .double v21, .double v27]), (y, zB .int [.int 0, .int 0, .int 0, .int 0])] _ _ at Hs11_6
  obtain ⟨Ts11_7, Hs11_7, sts11_7⟩ := ze Hs11_6 hx hZ 1 0 rfl (by decide) (Nat.le_of_ble_eq_true rfl) (g := (mkF m 46 #[oi xa, oi xb, oi xc, oi xd, oa x, oa y, oi 0, ou, ou, ou] [(.int 0), (.int 0), (.ref y)])) rfl rfl (hb hby at_46)
  change zK _ _ _ _ _ _ _ _ _ _ _ _ _ _ [(x, zB .double [.double v9, .double v15, .double v21, .double v27]), (y, zB .int [.int 0, .int 0, .int 0, .int 0])] _ _ at Hs11_7
  obtain ⟨Ts11_8, Hs11_8, sts11_8⟩ := ze Hs11_7 hx hZ 1 1 rfl (by decide) (Nat.le_of_ble_eq_true rfl) (g := (mkF m 78 #[oi xa, oi xb, oi xc, oi xd, oa x, oa y, oi 1, ou, ou, ou] [(.int 2), (.int 1), (.ref y)])) rfl rfl (hb hby at_78)
  change zK _ _ _ _ _ _ _ _ _ _ _ _ _ _ [(x, zB .double [.double v9, .double v15, .double v21, .double v27]), (y, zB .int [.int 0, .int 2, .int 0, .int 0])] _ _ at Hs11_8
  obtain ⟨Ts11_9, Hs11_9, sts11_9⟩ := ze Hs11_8 hx hZ 1 2 rfl (by decide) (Nat.le_of_ble_eq_true rfl) (g := (mkF m 94 #[oi xa, oi xb, oi xc, oi xd, oa x, oa y, oi 2, ou, ou, ou] [(.int 3), (.int 2), (.ref y)])) rfl rfl (hb hby at_94)
  change zK _ _ _ _ _ _ _ _ _ _ _ _ _ _ [(x, zB .double [.double v9, .double v15, .double v21, .double v27]), (y, zB .int [.int 0, .int 2, .int 3, .int 0])] _ _ at Hs11_9
  have hp0 : ifCond.holds .le (cmpValue (FP.dcmp v9 (0 : UInt64)) .l) = false := by rw [← hv9, zY (zI xa) zX]; exact zn hb38
  have hp1 : ifCond.holds .le (cmpValue (FP.dcmp v15 (0 : UInt64)) .l) = true := by rw [← hv15, zY (zI xb) zX]; exact zo hb54
  have hp2 : ifCond.holds .le (cmpValue (FP.dcmp v21 (0 : UInt64)) .l) = false := by rw [← hv21, zY (zI xc) zX]; exact zn hb70
  have hp3 : ifCond.holds .le (cmpValue (FP.dcmp v27 (0 : UInt64)) .l) = false := by rw [← hv27, zY (zI xd) zX]; exact zn hb86
  obtain ⟨Ts11_10, vs11_10_, css11_10_, qs11_10, Hs11_10, sts11_10⟩ := zw Hs11_9 hx hZ hown (zO hw 2 rfl) (zO hw 3 rfl) (zO hw 4 rfl) (zO hw 5 rfl) (by decide) (argsL := [(.ref x)]) (rest := []) (W := 0) (own_q11 l Z a0 hb0 hw x y v9 v15 v21 v27 hp0 hp1 hp2 hp3) (by decide) (by decide) (by decide) (by decide) (g := (mkF m 103 #[oi xa, oi xb, oi xc, oi xd, oa x, oa y, oi 3, ou, ou, ou] [(.ref x)])) rfl (by rw [hml]; rfl) (lenOf zz rfl) rfl (by show 2 * 0 + _ ≤ _; exact Nat.le_of_eq rfl) (hb hby at_103)
  obtain ⟨z, rfl, rfl⟩ := qs11_10
  obtain ⟨v203, hv203⟩ : ∃ z : UInt64, (FP.i2d xa) = z := ⟨_, rfl⟩
  obtain ⟨v204, hv204⟩ : ∃ z : Int32, (cmpValue (FP.dcmp v9 v203) .l) = z := ⟨_, rfl⟩
  obtain ⟨v213, hv213⟩ : ∃ z : UInt64, (FP.i2d xb) = z := ⟨_, rfl⟩
  obtain ⟨v214, hv214⟩ : ∃ z : Int32, (cmpValue (FP.dcmp v15 v213) .l) = z := ⟨_, rfl⟩
  obtain ⟨v223, hv223⟩ : ∃ z : UInt64, (FP.i2d xc) = z := ⟨_, rfl⟩
  obtain ⟨v224, hv224⟩ : ∃ z : Int32, (cmpValue (FP.dcmp v21 v223) .l) = z := ⟨_, rfl⟩
  obtain ⟨v233, hv233⟩ : ∃ z : UInt64, (FP.i2d xd) = z := ⟨_, rfl⟩
  obtain ⟨v234, hv234⟩ : ∃ z : Int32, (cmpValue (FP.dcmp v27 v233) .l) = z := ⟨_, rfl⟩
  have hb205 : ifCond.holds .ne v204 = false := by rw [← hv204, ← hv203, ← hv9, zZ (zI xa) (zI xa)]; simp
  have hb215 : ifCond.holds .ne v214 = false := by rw [← hv214, ← hv213, ← hv15, zZ (zI xb) (zI xb)]; simp
  have hb225 : ifCond.holds .ne v224 = false := by rw [← hv224, ← hv223, ← hv21, zZ (zI xc) (zI xc)]; simp
  have hb235 : ifCond.holds .ne v234 = false := by rw [← hv234, ← hv233, ← hv27, zZ (zI xd) (zI xd)]; simp
  refine ⟨_, _, _, _, 260, #[oi xa, oi xb, oi xc, oi xd, oa x, oa y, oi 3, oa z, oi 1, oi 1], Hs11_10, by decide, by decide, Or.inr ⟨.boolean, (.int 1), [], .ireturn, rfl, rfl, at_260, zv (Or.inr rfl), fun target q => ?_⟩⟩
  refine zA H0 hx hZ hown hby hw zC (zAF xa xb xc xd) _ ?_
  refine sts11_1 _ ?_
  refine zA Hs11_1 hx hZ hown hby hw zC (zAG xa xb xc xd x v9 hv9) _ ?_
  refine sts11_2 _ ?_
  refine zA Hs11_2 hx hZ hown hby hw zC (zAH xa xb xc xd x v15 hv15) _ ?_
  refine sts11_3 _ ?_
  refine zA Hs11_3 hx hZ hown hby hw zC (zAI xa xb xc xd x v21 hv21) _ ?_
  refine sts11_4 _ ?_
  refine zA Hs11_4 hx hZ hown hby hw zC (zAJ xa xb xc xd x v27 hv27) _ ?_
  refine sts11_5 _ ?_
  refine zA Hs11_5 hx hZ hown hby hw zC (zAK xa xb xc xd x) _ ?_
  refine sts11_6 _ ?_
  refine zA Hs11_6 hx hZ hown hby hw zC (zAS xa xb xc xd x y hb38) _ ?_
  refine sts11_7 _ ?_
  refine zA Hs11_7 hx hZ hown hby hw zC (own_s10_7 xa xb xc xd x y hb54 hb70) _ ?_
  refine sts11_8 _ ?_
  refine zA Hs11_8 hx hZ hown hby hw zC (own_s7_8 xa xb xc xd x y hb86) _ ?_
  refine sts11_9 _ ?_
  refine zA Hs11_9 hx hZ hown hby hw zC (zBu xa xb xc xd x y) _ ?_
  refine sts11_10 _ ?_
  refine zA Hs11_10 hx hZ hown hby hw zC (zBJ xa xb xc xd x y z) _ ?_
  refine zP Hs11_10 hx hZ 2 rfl (z := (3 : Int32)) rfl (g := (mkF m 115 #[oi xa, oi xb, oi xc, oi xd, oa x, oa y, oi 3, oa z, ou, ou] [(.ref z)])) rfl rfl (hb hby at_115) _ ?_
  refine zA Hs11_10 hx hZ hown hby hw zC (zBK xa xb xc xd x y z) _ ?_
  refine zb Hs11_10 hx hZ 2 0 rfl (by decide) rfl (g := (mkF m 132 #[oi xa, oi xb, oi xc, oi xd, oa x, oa y, oi 3, oa z, ou, ou] [(.int 0), (.ref z)])) rfl rfl (hb hby at_132) _ ?_
  refine zA Hs11_10 hx hZ hown hby hw zC (zCF xa xb xc xd x y z) _ ?_
  refine zb Hs11_10 hx hZ 1 0 rfl (by decide) rfl (g := (mkF m 136 #[oi xa, oi xb, oi xc, oi xd, oa x, oa y, oi 3, oa z, ou, ou] [(.int 0), (.ref y), (.int 0)])) rfl rfl (hb hby at_136) _ ?_
  refine zA Hs11_10 hx hZ hown hby hw zC (zCG xa xb xc xd x y z) _ ?_
  refine zb Hs11_10 hx hZ 2 1 rfl (by decide) rfl (g := (mkF m 149 #[oi xa, oi xb, oi xc, oi xd, oa x, oa y, oi 3, oa z, ou, ou] [(.int 1), (.ref z)])) rfl rfl (hb hby at_149) _ ?_
  refine zA Hs11_10 hx hZ hown hby hw zC (own_s7_14 xa xb xc xd x y z) _ ?_
  refine zb Hs11_10 hx hZ 1 1 rfl (by decide) rfl (g := (mkF m 153 #[oi xa, oi xb, oi xc, oi xd, oa x, oa y, oi 3, oa z, ou, ou] [(.int 1), (.ref y), (.int 2)])) rfl rfl (hb hby at_153) _ ?_
  refine zA Hs11_10 hx hZ hown hby hw zC (own_s7_15 xa xb xc xd x y z) _ ?_
  refine zb Hs11_10 hx hZ 2 2 rfl (by decide) rfl (g := (mkF m 166 #[oi xa, oi xb, oi xc, oi xd, oa x, oa y, oi 3, oa z, ou, ou] [(.int 2), (.ref z)])) rfl rfl (hb hby at_166) _ ?_
  refine zA Hs11_10 hx hZ hown hby hw zC (zBv xa xb xc xd x y z) _ ?_
  refine zb Hs11_10 hx hZ 1 2 rfl (by decide) rfl (g := (mkF m 170 #[oi xa, oi xb, oi xc, oi xd, oa x, oa y, oi 3, oa z, ou, ou] [(.int 2), (.ref y), (.int 3)])) rfl rfl (hb hby at_170) _ ?_
  refine zA Hs11_10 hx hZ hown hby hw zC (zBw xa xb xc xd x y z) _ ?_
  refine zJ Hs11_10 hx hZ 0 0 rfl (by decide) rfl (g := (mkF m 201 #[oi xa, oi xb, oi xc, oi xd, oa x, oa y, oi 3, oa z, oi 1, ou] [(.int 0), (.ref x)])) rfl rfl (hb hby at_201) _ ?_
  refine zA Hs11_10 hx hZ hown hby hw zC (zBL xa xb xc xd x y z v9 v203 hv203 v204 hv204 hb205) _ ?_
  refine zJ Hs11_10 hx hZ 0 1 rfl (by decide) rfl (g := (mkF m 211 #[oi xa, oi xb, oi xc, oi xd, oa x, oa y, oi 3, oa z, oi 1, ou] [(.int 1), (.ref x)])) rfl rfl (hb hby at_211) _ ?_
  refine zA Hs11_10 hx hZ hown hby hw zC (zBM xa xb xc xd x y z v15 v213 hv213 v214 hv214 hb215) _ ?_
  refine zJ Hs11_10 hx hZ 0 2 rfl (by decide) rfl (g := (mkF m 221 #[oi xa, oi xb, oi xc, oi xd, oa x, oa y, oi 3, oa z, oi 1, ou] [(.int 2), (.ref x)])) rfl rfl (hb hby at_221) _ ?_
  refine zA Hs11_10 hx hZ hown hby hw zC (zBN xa xb xc xd x y z v21 v223 hv223 v224 hv224 hb225) _ ?_
  refine zJ Hs11_10 hx hZ 0 3 rfl (by decide) rfl (g := (mkF m 231 #[oi xa, oi xb, oi xc, oi xd, oa x, oa y, oi 3, oa z, oi 1, ou] [(.int 3), (.ref x)])) rfl rfl (hb hby at_231) _ ?_
  refine zA Hs11_10 hx hZ hown hby hw zC (zBO xa xb xc xd x y z v27 v233 hv233 v234 hv234 hb235) _ ?_
  exact q
theorem zBQ (x : Addr) (da : UInt64) (db : UInt64) (v26' : Int32) (hv26' : (cmpValue (FP.dcmp db (0 : UInt64)) .l) = v26') (hb27_1 : ifCond.holds .le v26' = false) :
    zE zM ok0 20 #[oa x, oi 1, oa x, oi 4, oi 1, .val (.double da), .second] [(.double db)] 19 #[oa x, oi 2, oa x, oi 4, oi 2, .val (.double db), .second] [(.int 2), (.ref x)] := by
  refine zt (pc2 := 22) d1_20 rfl (L' := #[oa x, oi 1, oa x, oi 4, oi 1, .val (.double db), .second]) rfl ?_
  refine zL (pc2 := 23) d1_22 rfl rfl ?_
  refine zs (pc2 := 25) d1_23 rfl rfl ?_
  refine zf (v := 0) (pc2 := 26) d1_25 rfl rfl ?_
  refine zT (pc2 := 27) d1_26 rfl (v := v26') hv26' ?_
  refine zW (pc2 := 30) d1_27 rfl hb27_1 ?_
  refine zH (v := 1) (pc2 := 31) d1_30 rfl rfl ?_
  refine zS (pc' := 35) d1_31 (by decide) (by decide) ?_
  refine zk (pc2 := 36) d1_35 rfl (v := (2 : Int32)) (by decide) ?_
  refine zq (pc2 := 37) d1_36 rfl (L' := #[oa x, oi 2, oa x, oi 4, oi 1, .val (.double db), .second]) rfl ?_
  refine zU (pc2 := 40) d1_37 rfl rfl (v := (2 : Int32)) (by decide) (L' := #[oa x, oi 2, oa x, oi 4, oi 2, .val (.double db), .second]) rfl ?_
  refine zS (pc' := 10) d1_40 (by decide) (by decide) ?_
  refine zG (pc2 := 12) d1_10 rfl rfl ?_
  refine zL (pc2 := 13) d1_12 rfl rfl ?_
  refine zV (pc2 := 16) d1_13 rfl (by decide) ?_
  refine zN (pc2 := 17) d1_16 rfl rfl rfl ?_
  refine zG (pc2 := 19) d1_17 rfl rfl ?_
  exact zF
theorem own_p12_4 (x : Addr) (db : UInt64) (dc : UInt64) (v26'' : Int32) (hv26'' : (cmpValue (FP.dcmp dc (0 : UInt64)) .l) = v26'') (hb27_2 : ifCond.holds .le v26'' = true) :
    zE zM ok0 20 #[oa x, oi 2, oa x, oi 4, oi 2, .val (.double db), .second] [(.double dc)] 19 #[oa x, oi 2, oa x, oi 4, oi 3, .val (.double dc), .second] [(.int 3), (.ref x)] := by
  refine zt (pc2 := 22) d1_20 rfl (L' := #[oa x, oi 2, oa x, oi 4, oi 2, .val (.double dc), .second]) rfl ?_
  refine zL (pc2 := 23) d1_22 rfl rfl ?_
  refine zs (pc2 := 25) d1_23 rfl rfl ?_
  refine zf (v := 0) (pc2 := 26) d1_25 rfl rfl ?_
  refine zT (pc2 := 27) d1_26 rfl (v := v26'') hv26'' ?_
  refine zg (pc' := 34) d1_27 hb27_2 (by decide) (by decide) ?_
  refine zH (v := 0) (pc2 := 35) d1_34 rfl rfl ?_
  refine zk (pc2 := 36) d1_35 rfl (v := (2 : Int32)) (by decide) ?_
  refine zq (pc2 := 37) d1_36 rfl (L' := #[oa x, oi 2, oa x, oi 4, oi 2, .val (.double dc), .second]) rfl ?_
  refine zU (pc2 := 40) d1_37 rfl rfl (v := (3 : Int32)) (by decide) (L' := #[oa x, oi 2, oa x, oi 4, oi 3, .val (.double dc), .second]) rfl ?_
  refine zS (pc' := 10) d1_40 (by decide) (by decide) ?_
  refine zG (pc2 := 12) d1_10 rfl rfl ?_
  refine zL (pc2 := 13) d1_12 rfl rfl ?_
  refine zV (pc2 := 16) d1_13 rfl (by decide) ?_
  refine zN (pc2 := 17) d1_16 rfl rfl rfl ?_
  refine zG (pc2 := 19) d1_17 rfl rfl ?_
  exact zF
theorem own_p12_11 (x : Addr) (z : Addr) (dd : UInt64) (db : UInt64) (v64' : Int32) (hv64' : (cmpValue (FP.dcmp db (0 : UInt64)) .l) = v64') (hb65_1 : ifCond.holds .le v64' = false) :
    zE zM ok0 63 #[oa x, oi 2, oa z, oi 1, oi 1, .val (.double dd), .second] [(.double db)] 75 #[oa x, oi 2, oa z, oi 2, oi 1, .val (.double dd), .second] [(.int 1), (.int 1), (.ref z)] := by
  refine zf (v := 0) (pc2 := 64) d1_63 rfl rfl ?_
  refine zT (pc2 := 65) d1_64 rfl (v := v64') hv64' ?_
  refine zW (pc2 := 68) d1_65 rfl hb65_1 ?_
  refine zN (pc2 := 69) d1_68 rfl rfl rfl ?_
  refine zL (pc2 := 70) d1_69 rfl rfl ?_
  refine zU (pc2 := 73) d1_70 rfl rfl (v := (2 : Int32)) (by decide) (L' := #[oa x, oi 2, oa z, oi 2, oi 1, .val (.double dd), .second]) rfl ?_
  refine zG (pc2 := 75) d1_73 rfl rfl ?_
  exact zF
theorem own_p12_12 (x : Addr) (z : Addr) (dd : UInt64) :
    zE zM ok0 76 #[oa x, oi 2, oa z, oi 2, oi 1, .val (.double dd), .second] [] 55 #[oa x, oi 2, oa z, oi 2, oi 2, .val (.double dd), .second] [(.ref x), (.int 2)] := by
  refine zU (pc2 := 79) d1_76 rfl rfl (v := (2 : Int32)) (by decide) (L' := #[oa x, oi 2, oa z, oi 2, oi 2, .val (.double dd), .second]) rfl ?_
  refine zS (pc' := 52) d1_79 (by decide) (by decide) ?_
  refine zG (pc2 := 54) d1_52 rfl rfl ?_
  refine zN (pc2 := 55) d1_54 rfl rfl rfl ?_
  exact zF
theorem own_p12_13 (x : Addr) (z : Addr) (dd : UInt64) :
    zE zM ok0 56 #[oa x, oi 2, oa z, oi 2, oi 2, .val (.double dd), .second] [(.int 4), (.int 2)] 62 #[oa x, oi 2, oa z, oi 2, oi 2, .val (.double dd), .second] [(.int 2), (.ref x)] := by
  refine zV (pc2 := 59) d1_56 rfl (by decide) ?_
  refine zN (pc2 := 60) d1_59 rfl rfl rfl ?_
  refine zG (pc2 := 62) d1_60 rfl rfl ?_
  exact zF
theorem own_p12_14 (x : Addr) (z : Addr) (dd : UInt64) (dc : UInt64) (v64'' : Int32) (hv64'' : (cmpValue (FP.dcmp dc (0 : UInt64)) .l) = v64'') (hb65_2 : ifCond.holds .le v64'' = true) :
    zE zM ok0 63 #[oa x, oi 2, oa z, oi 2, oi 2, .val (.double dd), .second] [(.double dc)] 55 #[oa x, oi 2, oa z, oi 2, oi 3, .val (.double dd), .second] [(.ref x), (.int 3)] := by
  refine zf (v := 0) (pc2 := 64) d1_63 rfl rfl ?_
  refine zT (pc2 := 65) d1_64 rfl (v := v64'') hv64'' ?_
  refine zg (pc' := 76) d1_65 hb65_2 (by decide) (by decide) ?_
  refine zU (pc2 := 79) d1_76 rfl rfl (v := (3 : Int32)) (by decide) (L' := #[oa x, oi 2, oa z, oi 2, oi 3, .val (.double dd), .second]) rfl ?_
  refine zS (pc' := 52) d1_79 (by decide) (by decide) ?_
  refine zG (pc2 := 54) d1_52 rfl rfl ?_
  refine zN (pc2 := 55) d1_54 rfl rfl rfl ?_
  exact zF
set_option maxRecDepth 65536 in
set_option maxHeartbeats 4000000 in
theorem own_q12 (l : Launch) (Z : State) (a0 : Array Value) (hb0 : Heap) (hw : ∀ d ∈ tables_1, d.before a0 Z = true) (x : Addr) (y : Addr) (da db dc dd : UInt64) (hp0 : ifCond.holds .le (cmpValue (FP.dcmp da (0 : UInt64)) .l) = false) (hp1 : ifCond.holds .le (cmpValue (FP.dcmp db (0 : UInt64)) .l) = false) (hp2 : ifCond.holds .le (cmpValue (FP.dcmp dc (0 : UInt64)) .l) = true) (hp3 : ifCond.holds .le (cmpValue (FP.dcmp dd (0 : UInt64)) .l) = true) :
    zl l Z a0 hb0 (⟨"com/example/tangentia/tangentia/flash/StabilityTest", "presentComponents", "([D)[I"⟩ : MethodName) ok0 7 (some (.array .int)) [] ({ frames := 0, cells := 1, slots := 2, locals := 0 } : Room) #[(.ref x)] [(x, zB .double [.double da, .double db, .double dc, .double dd]), (y, zB .int [.int 0, .int 1, .int 0, .int 0])] (fun r cs' => ∃ z, r = some (.ref z) ∧ cs' = [(x, zB .double [.double da, .double db, .double dc, .double dd]), (y, zB .int [.int 0, .int 1, .int 0, .int 0]), (z, zB .int [.int 0, .int 1])]) := by
  refine zm (L0 := #[oa x, ou, ou, ou, ou, ou, ou]) (plainFor_of_name zy) (fun m => zAA m x) ?_
  intro p e s m below meth c T0 hx hZ hown hby hml hnm H0
  obtain ⟨v26, hv26⟩ : ∃ z : Int32, (cmpValue (FP.dcmp da (0 : UInt64)) .l) = z := ⟨_, rfl⟩
  obtain ⟨v26', hv26'⟩ : ∃ z : Int32, (cmpValue (FP.dcmp db (0 : UInt64)) .l) = z := ⟨_, rfl⟩
  obtain ⟨v26'', hv26''⟩ : ∃ z : Int32, (cmpValue (FP.dcmp dc (0 : UInt64)) .l) = z := ⟨_, rfl⟩
  obtain ⟨v26''', hv26'''⟩ : ∃ z : Int32, (cmpValue (FP.dcmp dd (0 : UInt64)) .l) = z := ⟨_, rfl⟩
  obtain ⟨Tp12_6, z, Hp12_6, stp12_6⟩ := zh H0 hx hZ (zO hw 1 rfl) (g := (mkF m 44 #[oa x, oi 2, oa x, oi 4, oi 4, .val (.double dd), .second] [(.int 2)])) rfl (hb hby d1_44) rfl (by decide) (cap := 2) (by decide) (by decide) (by decide) (by decide)
  change zK _ _ _ _ _ _ _ _ _ _ _ _ _ _ [(x, zB .double [.double da, .double db, .double dc, .double dd]), (y, zB .int [.int 0, .int 1, .int 0, .int 0]), (z, zB .int [.int 0, .int 0])] _ _ at Hp12_6
  obtain ⟨v64, hv64⟩ : ∃ z : Int32, (cmpValue (FP.dcmp da (0 : UInt64)) .l) = z := ⟨_, rfl⟩
  obtain ⟨Tp12_9, Hp12_9, stp12_9⟩ := ze Hp12_6 hx hZ 2 0 rfl (by decide) (Nat.le_of_ble_eq_true rfl) (g := (mkF m 75 #[oa x, oi 2, oa z, oi 1, oi 0, .val (.double dd), .second] [(.int 0), (.int 0), (.ref z)])) rfl rfl (hb hby d1_75)
  change zK _ _ _ _ _ _ _ _ _ _ _ _ _ _ [(x, zB .double [.double da, .double db, .double dc, .double dd]), (y, zB .int [.int 0, .int 1, .int 0, .int 0]), (z, zB .int [.int 0, .int 0])] _ _ at Hp12_9
  obtain ⟨v64', hv64'⟩ : ∃ z : Int32, (cmpValue (FP.dcmp db (0 : UInt64)) .l) = z := ⟨_, rfl⟩
  obtain ⟨Tp12_12, Hp12_12, stp12_12⟩ := ze Hp12_9 hx hZ 2 1 rfl (by decide) (Nat.le_of_ble_eq_true rfl) (g := (mkF m 75 #[oa x, oi 2, oa z, oi 2, oi 1, .val (.double dd), .second] [(.int 1), (.int 1), (.ref z)])) rfl rfl (hb hby d1_75)
  change zK _ _ _ _ _ _ _ _ _ _ _ _ _ _ [(x, zB .double [.double da, .double db, .double dc, .double dd]), (y, zB .int [.int 0, .int 1, .int 0, .int 0]), (z, zB .int [.int 0, .int 1])] _ _ at Hp12_12
  obtain ⟨v64'', hv64''⟩ : ∃ z : Int32, (cmpValue (FP.dcmp dc (0 : UInt64)) .l) = z := ⟨_, rfl⟩
  obtain ⟨v64''', hv64'''⟩ : ∃ z : Int32, (cmpValue (FP.dcmp dd (0 : UInt64)) .l) = z := ⟨_, rfl⟩
  have hb27_0 : ifCond.holds .le v26 = false := by rw [← hv26]; exact hp0
  have hb27_1 : ifCond.holds .le v26' = false := by rw [← hv26']; exact hp1
  have hb27_2 : ifCond.holds .le v26'' = true := by rw [← hv26'']; exact hp2
  have hb27_3 : ifCond.holds .le v26''' = true := by rw [← hv26''']; exact hp3
  have hb65_0 : ifCond.holds .le v64 = false := by rw [← hv64]; exact hp0
  have hb65_1 : ifCond.holds .le v64' = false := by rw [← hv64']; exact hp1
  have hb65_2 : ifCond.holds .le v64'' = true := by rw [← hv64'']; exact hp2
  have hb65_3 : ifCond.holds .le v64''' = true := by rw [← hv64''']; exact hp3
  refine ⟨_, _, _, _, 83, #[oa x, oi 2, oa z, oi 2, oi 4, .val (.double dd), .second], Hp12_12, by decide, by decide, Or.inr ⟨(.array .int), (.ref z), [], .areturn, rfl, ⟨z, rfl, rfl⟩, d1_83, zAC _, fun target q => ?_⟩⟩
  refine zA H0 hx hZ hown hby hw zD (zAD x) _ ?_
  refine zP H0 hx hZ 0 rfl (z := (4 : Int32)) rfl (g := (mkF m 5 #[oa x, oi 0, oa x, ou, ou, ou, ou] [(.ref x)])) rfl rfl (hb hby d1_5) _ ?_
  refine zA H0 hx hZ hown hby hw zD (zAE x) _ ?_
  refine zJ H0 hx hZ 0 0 rfl (by decide) rfl (g := (mkF m 19 #[oa x, oi 0, oa x, oi 4, oi 0, ou, ou] [(.int 0), (.ref x)])) rfl rfl (hb hby d1_19) _ ?_
  refine zA H0 hx hZ hown hby hw zD (zAR x da v26 hv26 hb27_0) _ ?_
  refine zJ H0 hx hZ 0 1 rfl (by decide) rfl (g := (mkF m 19 #[oa x, oi 1, oa x, oi 4, oi 1, .val (.double da), .second] [(.int 1), (.ref x)])) rfl rfl (hb hby d1_19) _ ?_
  refine zA H0 hx hZ hown hby hw zD (zBQ x da db v26' hv26' hb27_1) _ ?_
  refine zJ H0 hx hZ 0 2 rfl (by decide) rfl (g := (mkF m 19 #[oa x, oi 2, oa x, oi 4, oi 2, .val (.double db), .second] [(.int 2), (.ref x)])) rfl rfl (hb hby d1_19) _ ?_
  refine zA H0 hx hZ hown hby hw zD (own_p12_4 x db dc v26'' hv26'' hb27_2) _ ?_
  refine zJ H0 hx hZ 0 3 rfl (by decide) rfl (g := (mkF m 19 #[oa x, oi 2, oa x, oi 4, oi 3, .val (.double dc), .second] [(.int 3), (.ref x)])) rfl rfl (hb hby d1_19) _ ?_
  refine zA H0 hx hZ hown hby hw zD (zBn x dc dd v26''' hv26''' hb27_3) _ ?_
  refine stp12_6 _ ?_
  refine zA Hp12_6 hx hZ hown hby hw zD (zAX x dd z) _ ?_
  refine zP Hp12_6 hx hZ 0 rfl (z := (4 : Int32)) rfl (g := (mkF m 55 #[oa x, oi 2, oa z, oi 0, oi 0, .val (.double dd), .second] [(.ref x), (.int 0)])) rfl rfl (hb hby d1_55) _ ?_
  refine zA Hp12_6 hx hZ hown hby hw zD (zAY x z dd) _ ?_
  refine zJ Hp12_6 hx hZ 0 0 rfl (by decide) rfl (g := (mkF m 62 #[oa x, oi 2, oa z, oi 0, oi 0, .val (.double dd), .second] [(.int 0), (.ref x)])) rfl rfl (hb hby d1_62) _ ?_
  refine zA Hp12_6 hx hZ hown hby hw zD (zBx x z dd da v64 hv64 hb65_0) _ ?_
  refine stp12_9 _ ?_
  refine zA Hp12_9 hx hZ hown hby hw zD (zBy x z dd) _ ?_
  refine zP Hp12_9 hx hZ 0 rfl (z := (4 : Int32)) rfl (g := (mkF m 55 #[oa x, oi 2, oa z, oi 1, oi 1, .val (.double dd), .second] [(.ref x), (.int 1)])) rfl rfl (hb hby d1_55) _ ?_
  refine zA Hp12_9 hx hZ hown hby hw zD (zBz x z dd) _ ?_
  refine zJ Hp12_9 hx hZ 0 1 rfl (by decide) rfl (g := (mkF m 62 #[oa x, oi 2, oa z, oi 1, oi 1, .val (.double dd), .second] [(.int 1), (.ref x)])) rfl rfl (hb hby d1_62) _ ?_
  refine zA Hp12_9 hx hZ hown hby hw zD (own_p12_11 x z dd db v64' hv64' hb65_1) _ ?_
  refine stp12_12 _ ?_
  refine zA Hp12_12 hx hZ hown hby hw zD (own_p12_12 x z dd) _ ?_
  refine zP Hp12_12 hx hZ 0 rfl (z := (4 : Int32)) rfl (g := (mkF m 55 #[oa x, oi 2, oa z, oi 2, oi 2, .val (.double dd), .second] [(.ref x), (.int 2)])) rfl rfl (hb hby d1_55) _ ?_
  refine zA Hp12_12 hx hZ hown hby hw zD (own_p12_13 x z dd) _ ?_
  refine zJ Hp12_12 hx hZ 0 2 rfl (by decide) rfl (g := (mkF m 62 #[oa x, oi 2, oa z, oi 2, oi 2, .val (.double dd), .second] [(.int 2), (.ref x)])) rfl rfl (hb hby d1_62) _ ?_
  refine zA Hp12_12 hx hZ hown hby hw zD (own_p12_14 x z dd dc v64'' hv64'' hb65_2) _ ?_
  refine zP Hp12_12 hx hZ 0 rfl (z := (4 : Int32)) rfl (g := (mkF m 55 #[oa x, oi 2, oa z, oi 2, oi 3, .val (.double dd), .second] [(.ref x), (.int 3)])) rfl rfl (hb hby d1_55) _ ?_
  refine zA Hp12_12 hx hZ hown hby hw zD (zBo x z dd) _ ?_
  refine zJ Hp12_12 hx hZ 0 3 rfl (by decide) rfl (g := (mkF m 62 #[oa x, oi 2, oa z, oi 2, oi 3, .val (.double dd), .second] [(.int 3), (.ref x)])) rfl rfl (hb hby d1_62) _ ?_
  refine zA Hp12_12 hx hZ hown hby hw zD (zBp x z dd v64''' hv64''' hb65_3) _ ?_
  refine zP Hp12_12 hx hZ 0 rfl (z := (4 : Int32)) rfl (g := (mkF m 55 #[oa x, oi 2, oa z, oi 2, oi 4, .val (.double dd), .second] [(.ref x), (.int 4)])) rfl rfl (hb hby d1_55) _ ?_
  refine zA Hp12_12 hx hZ hown hby hw zD (zAZ x z dd) _ ?_
  exact q
theorem zBR (xa : Int32) (xb : Int32) (xc : Int32) (xd : Int32) (x : Addr) (y : Addr) (hb54 : ifCond.holds .le xb = false) :
    zE zQ code 47 #[oi xa, oi xb, oi xc, oi xd, oa x, oa y, oi 0, ou, ou, ou] [] 62 #[oi xa, oi xb, oi xc, oi xd, oa x, oa y, oi 1, ou, ou, ou] [(.int 1), (.int 1), (.ref y)] := by
  refine zG (pc2 := 49) at_47 rfl rfl ?_
  refine zH (v := 1) (pc2 := 50) at_49 rfl rfl ?_
  refine zk (pc2 := 51) at_50 rfl (v := (1 : Int32)) (by decide) ?_
  refine zi (pc2 := 53) at_51 rfl (L' := #[oi xa, oi xb, oi xc, oi xd, oa x, oa y, oi 1, ou, ou, ou]) rfl ?_
  refine zL (pc2 := 54) at_53 rfl rfl ?_
  refine zW (pc2 := 57) at_54 rfl hb54 ?_
  refine zR (pc2 := 59) at_57 rfl rfl rfl ?_
  refine zG (pc2 := 61) at_59 rfl rfl ?_
  refine zH (v := 1) (pc2 := 62) at_61 rfl rfl ?_
  exact zF
theorem own_s12_8 (xa : Int32) (xb : Int32) (xc : Int32) (xd : Int32) (x : Addr) (y : Addr) (hb70 : ifCond.holds .le xc = true) (hb86 : ifCond.holds .le xd = true) :
    zE zQ code 63 #[oi xa, oi xb, oi xc, oi xd, oa x, oa y, oi 1, ou, ou, ou] [] 103 #[oi xa, oi xb, oi xc, oi xd, oa x, oa y, oi 2, ou, ou, ou] [(.ref x)] := by
  refine zG (pc2 := 65) at_63 rfl rfl ?_
  refine zH (v := 1) (pc2 := 66) at_65 rfl rfl ?_
  refine zk (pc2 := 67) at_66 rfl (v := (2 : Int32)) (by decide) ?_
  refine zi (pc2 := 69) at_67 rfl (L' := #[oi xa, oi xb, oi xc, oi xd, oa x, oa y, oi 2, ou, ou, ou]) rfl ?_
  refine zL (pc2 := 70) at_69 rfl rfl ?_
  refine zg (pc' := 85) at_70 hb70 (by decide) (by decide) ?_
  refine zL (pc2 := 86) at_85 rfl rfl ?_
  refine zg (pc' := 101) at_86 hb86 (by decide) (by decide) ?_
  refine zR (pc2 := 103) at_101 rfl rfl rfl ?_
  exact zF
theorem own_s12_13 (xa : Int32) (xb : Int32) (xc : Int32) (xd : Int32) (x : Addr) (y : Addr) (z : Addr) :
    zE zQ code 150 #[oi xa, oi xb, oi xc, oi xd, oa x, oa y, oi 2, oa z, ou, ou] [(.int 1)] 153 #[oi xa, oi xb, oi xc, oi xd, oa x, oa y, oi 2, oa z, ou, ou] [(.int 1), (.ref y), (.int 1)] := by
  refine zR (pc2 := 152) at_150 rfl rfl rfl ?_
  refine zH (v := 1) (pc2 := 153) at_152 rfl rfl ?_
  exact zF
theorem own_s12_14 (xa : Int32) (xb : Int32) (xc : Int32) (xd : Int32) (x : Addr) (y : Addr) (z : Addr) :
    zE zQ code 154 #[oi xa, oi xb, oi xc, oi xd, oa x, oa y, oi 2, oa z, ou, ou] [(.int 1), (.int 1)] 201 #[oi xa, oi xb, oi xc, oi xd, oa x, oa y, oi 2, oa z, oi 1, ou] [(.int 0), (.ref x)] := by
  refine zV (pc2 := 157) at_154 rfl (by decide) ?_
  refine zG (pc2 := 159) at_157 rfl rfl ?_
  refine zH (v := 3) (pc2 := 160) at_159 rfl rfl ?_
  refine zj (pc' := 174) at_160 (by decide) (by decide) (by decide) ?_
  refine zG (pc2 := 176) at_174 rfl rfl ?_
  refine zH (v := 4) (pc2 := 177) at_176 rfl rfl ?_
  refine zj (pc' := 191) at_177 (by decide) (by decide) (by decide) ?_
  refine zH (v := 1) (pc2 := 192) at_191 rfl rfl ?_
  refine zS (pc' := 196) at_192 (by decide) (by decide) ?_
  refine zi (pc2 := 198) at_196 rfl (L' := #[oi xa, oi xb, oi xc, oi xd, oa x, oa y, oi 2, oa z, oi 1, ou]) rfl ?_
  refine zR (pc2 := 200) at_198 rfl rfl rfl ?_
  refine zH (v := 0) (pc2 := 201) at_200 rfl rfl ?_
  exact zF
set_option maxRecDepth 65536 in
set_option maxHeartbeats 40000000 in
theorem own_law12 (l : Launch) (Z : State) (a0 : Array Value) (hb0 : Heap) (hw : ∀ d ∈ tables_1, d.before a0 Z = true) (xa : Int32) (xb : Int32) (xc : Int32) (xd : Int32) (hb38 : ifCond.holds .le xa = false) (hb54 : ifCond.holds .le xb = false) (hb70 : ifCond.holds .le xc = true) (hb86 : ifCond.holds .le xd = true) :
    zl l Z a0 hb0 x code maxLocals ret tables_1 room_1 #[(.int xa), (.int xb), (.int xc), (.int xd)] [] (fun v _ => v = some (.int 1)) := by
  refine zm (L0 := #[oi xa, oi xb, oi xc, oi xd, ou, ou, ou, ou, ou, ou]) (plainFor_of_name zx) (fun m => zAB m xa xb xc xd) ?_
  intro p e s m below meth c T0 hx hZ hown hby hml hnm H0
  have hown : s.vm.findClass "com/example/tangentia/tangentia/flash/StabilityTestPresentComponentsPinLaw" = some m.cls := hown
  have hml : c.maxLocals = 10 := hml
  obtain ⟨Ts12_1, x, Hs12_1, sts12_1⟩ := zh H0 hx hZ (zO hw 0 rfl) (g := (mkF m 1 #[oi xa, oi xb, oi xc, oi xd, ou, ou, ou, ou, ou, ou] [(.int 4)])) rfl (hb hby at_1) rfl (by decide) (cap := 4) (by decide) (by decide) (by decide) (by decide)
  change zK _ _ _ _ _ _ _ _ _ _ _ _ _ _ [(x, zB .double [.double 0, .double 0, .double 0, .double 0])] _ _ at Hs12_1
  obtain ⟨v9, hv9⟩ : ∃ z : UInt64, (FP.i2d xa) = z := ⟨_, rfl⟩
  obtain ⟨Ts12_2, Hs12_2, sts12_2⟩ := zd Hs12_1 hx hZ 0 0 rfl (by decide) (Nat.le_of_ble_eq_true rfl) (g := (mkF m 10 #[oi xa, oi xb, oi xc, oi xd, oa x, ou, ou, ou, ou, ou] [(.double v9), (.int 0), (.ref x)])) rfl rfl (hb hby at_10)
  change zK _ _ _ _ _ _ _ _ _ _ _ _ _ _ [(x, zB .double [.double v9, .double 0, .double 0, .double 0])] _ _ at Hs12_2
  obtain ⟨v15, hv15⟩ : ∃ z : UInt64, (FP.i2d xb) = z := ⟨_, rfl⟩
  obtain ⟨Ts12_3, Hs12_3, sts12_3⟩ := zd Hs12_2 hx hZ 0 1 rfl (by decide) (Nat.le_of_ble_eq_true rfl) (g := (mkF m 16 #[oi xa, oi xb, oi xc, oi xd, oa x, ou, ou, ou, ou, ou] [(.double v15), (.int 1), (.ref x)])) rfl rfl (hb hby at_16)
  change zK _ _ _ _ _ _ _ _ _ _ _ _ _ _ [(x, zB .double [.double v9, .double v15, .double 0, .double 0])] _ _ at Hs12_3
  obtain ⟨v21, hv21⟩ : ∃ z : UInt64, (FP.i2d xc) = z := ⟨_, rfl⟩
  obtain ⟨Ts12_4, Hs12_4, sts12_4⟩ := zd Hs12_3 hx hZ 0 2 rfl (by decide) (Nat.le_of_ble_eq_true rfl) (g := (mkF m 22 #[oi xa, oi xb, oi xc, oi xd, oa x, ou, ou, ou, ou, ou] [(.double v21), (.int 2), (.ref x)])) rfl rfl (hb hby at_22)
  change zK _ _ _ _ _ _ _ _ _ _ _ _ _ _ [(x, zB .double [.double v9, .double v15, .double v21, .double 0])] _ _ at Hs12_4
  obtain ⟨v27, hv27⟩ : ∃ z : UInt64, (FP.i2d xd) = z := ⟨_, rfl⟩
  obtain ⟨Ts12_5, Hs12_5, sts12_5⟩ := zd Hs12_4 hx hZ 0 3 rfl (by decide) (Nat.le_of_ble_eq_true rfl) (g := (mkF m 28 #[oi xa, oi xb, oi xc, oi xd, oa x, ou, ou, ou, ou, ou] [(.double v27), (.int 3), (.ref x)])) rfl rfl (hb hby at_28)
  change zK _ _ _ _ _ _ _ _ _ _ _ _ _ _ [(x, zB .double [.double v9, .double v15, .double v21, .double v27])] _ _ at Hs12_5
  obtain ⟨Ts12_6, y, Hs12_6, sts12_6⟩ := zh Hs12_5 hx hZ (zO hw 1 rfl) (g := (mkF m 30 #[oi xa, oi xb, oi xc, oi xd, oa x, ou, ou, ou, ou, ou] [(.int 4)])) rfl (hb hby at_30) rfl (by decide) (cap := 4) (by decide) (by decide) (by decide) (by decide)
  change zK _ _ _ _ _ _ _ _ _ _ _ _ _ _ [(x, zB .double [.double v9, .double v15, .double v21, .double v27]), (y, zB .int [.int 0, .int 0, .int 0, .int 0])] _ _ at Hs12_6
  obtain ⟨Ts12_7, Hs12_7, sts12_7⟩ := ze Hs12_6 hx hZ 1 0 rfl (by decide) (Nat.le_of_ble_eq_true rfl) (g := (mkF m 46 #[oi xa, oi xb, oi xc, oi xd, oa x, oa y, oi 0, ou, ou, ou] [(.int 0), (.int 0), (.ref y)])) rfl rfl (hb hby at_46)
  change zK _ _ _ _ _ _ _ _ _ _ _ _ _ _ [(x, zB .double [.double v9, .double v15, .double v21, .double v27]), (y, zB .int [.int 0, .int 0, .int 0, .int 0])] _ _ at Hs12_7
  obtain ⟨Ts12_8, Hs12_8, sts12_8⟩ := ze Hs12_7 hx hZ 1 1 rfl (by decide) (Nat.le_of_ble_eq_true rfl) (g := (mkF m 62 #[oi xa, oi xb, oi xc, oi xd, oa x, oa y, oi 1, ou, ou, ou] [(.int 1), (.int 1), (.ref y)])) rfl rfl (hb hby at_62)
  change zK _ _ _ _ _ _ _ _ _ _ _ _ _ _ [(x, zB .double [.double v9, .double v15, .double v21, .double v27]), (y, zB .int [.int 0, .int 1, .int 0, .int 0])] _ _ at Hs12_8
  have hp0 : ifCond.holds .le (cmpValue (FP.dcmp v9 (0 : UInt64)) .l) = false := by rw [← hv9, zY (zI xa) zX]; exact zn hb38
  have hp1 : ifCond.holds .le (cmpValue (FP.dcmp v15 (0 : UInt64)) .l) = false := by rw [← hv15, zY (zI xb) zX]; exact zn hb54
  have hp2 : ifCond.holds .le (cmpValue (FP.dcmp v21 (0 : UInt64)) .l) = true := by rw [← hv21, zY (zI xc) zX]; exact zo hb70
  have hp3 : ifCond.holds .le (cmpValue (FP.dcmp v27 (0 : UInt64)) .l) = true := by rw [← hv27, zY (zI xd) zX]; exact zo hb86
  obtain ⟨Ts12_9, vs12_9_, css12_9_, qs12_9, Hs12_9, sts12_9⟩ := zw Hs12_8 hx hZ hown (zO hw 2 rfl) (zO hw 3 rfl) (zO hw 4 rfl) (zO hw 5 rfl) (by decide) (argsL := [(.ref x)]) (rest := []) (W := 0) (own_q12 l Z a0 hb0 hw x y v9 v15 v21 v27 hp0 hp1 hp2 hp3) (by decide) (by decide) (by decide) (by decide) (g := (mkF m 103 #[oi xa, oi xb, oi xc, oi xd, oa x, oa y, oi 2, ou, ou, ou] [(.ref x)])) rfl (by rw [hml]; rfl) (lenOf zz rfl) rfl (by show 2 * 0 + _ ≤ _; exact Nat.le_of_eq rfl) (hb hby at_103)
  obtain ⟨z, rfl, rfl⟩ := qs12_9
  obtain ⟨v203, hv203⟩ : ∃ z : UInt64, (FP.i2d xa) = z := ⟨_, rfl⟩
  obtain ⟨v204, hv204⟩ : ∃ z : Int32, (cmpValue (FP.dcmp v9 v203) .l) = z := ⟨_, rfl⟩
  obtain ⟨v213, hv213⟩ : ∃ z : UInt64, (FP.i2d xb) = z := ⟨_, rfl⟩
  obtain ⟨v214, hv214⟩ : ∃ z : Int32, (cmpValue (FP.dcmp v15 v213) .l) = z := ⟨_, rfl⟩
  obtain ⟨v223, hv223⟩ : ∃ z : UInt64, (FP.i2d xc) = z := ⟨_, rfl⟩
  obtain ⟨v224, hv224⟩ : ∃ z : Int32, (cmpValue (FP.dcmp v21 v223) .l) = z := ⟨_, rfl⟩
  obtain ⟨v233, hv233⟩ : ∃ z : UInt64, (FP.i2d xd) = z := ⟨_, rfl⟩
  obtain ⟨v234, hv234⟩ : ∃ z : Int32, (cmpValue (FP.dcmp v27 v233) .l) = z := ⟨_, rfl⟩
  have hb205 : ifCond.holds .ne v204 = false := by rw [← hv204, ← hv203, ← hv9, zZ (zI xa) (zI xa)]; simp
  have hb215 : ifCond.holds .ne v214 = false := by rw [← hv214, ← hv213, ← hv15, zZ (zI xb) (zI xb)]; simp
  have hb225 : ifCond.holds .ne v224 = false := by rw [← hv224, ← hv223, ← hv21, zZ (zI xc) (zI xc)]; simp
  have hb235 : ifCond.holds .ne v234 = false := by rw [← hv234, ← hv233, ← hv27, zZ (zI xd) (zI xd)]; simp
  refine ⟨_, _, _, _, 260, #[oi xa, oi xb, oi xc, oi xd, oa x, oa y, oi 2, oa z, oi 1, oi 1], Hs12_9, by decide, by decide, Or.inr ⟨.boolean, (.int 1), [], .ireturn, rfl, rfl, at_260, zv (Or.inr rfl), fun target q => ?_⟩⟩
  refine zA H0 hx hZ hown hby hw zC (zAF xa xb xc xd) _ ?_
  refine sts12_1 _ ?_
  refine zA Hs12_1 hx hZ hown hby hw zC (zAG xa xb xc xd x v9 hv9) _ ?_
  refine sts12_2 _ ?_
  refine zA Hs12_2 hx hZ hown hby hw zC (zAH xa xb xc xd x v15 hv15) _ ?_
  refine sts12_3 _ ?_
  refine zA Hs12_3 hx hZ hown hby hw zC (zAI xa xb xc xd x v21 hv21) _ ?_
  refine sts12_4 _ ?_
  refine zA Hs12_4 hx hZ hown hby hw zC (zAJ xa xb xc xd x v27 hv27) _ ?_
  refine sts12_5 _ ?_
  refine zA Hs12_5 hx hZ hown hby hw zC (zAK xa xb xc xd x) _ ?_
  refine sts12_6 _ ?_
  refine zA Hs12_6 hx hZ hown hby hw zC (zAS xa xb xc xd x y hb38) _ ?_
  refine sts12_7 _ ?_
  refine zA Hs12_7 hx hZ hown hby hw zC (zBR xa xb xc xd x y hb54) _ ?_
  refine sts12_8 _ ?_
  refine zA Hs12_8 hx hZ hown hby hw zC (own_s12_8 xa xb xc xd x y hb70 hb86) _ ?_
  refine sts12_9 _ ?_
  refine zA Hs12_9 hx hZ hown hby hw zC (zAa xa xb xc xd x y z) _ ?_
  refine zP Hs12_9 hx hZ 2 rfl (z := (2 : Int32)) rfl (g := (mkF m 115 #[oi xa, oi xb, oi xc, oi xd, oa x, oa y, oi 2, oa z, ou, ou] [(.ref z)])) rfl rfl (hb hby at_115) _ ?_
  refine zA Hs12_9 hx hZ hown hby hw zC (zAb xa xb xc xd x y z) _ ?_
  refine zb Hs12_9 hx hZ 2 0 rfl (by decide) rfl (g := (mkF m 132 #[oi xa, oi xb, oi xc, oi xd, oa x, oa y, oi 2, oa z, ou, ou] [(.int 0), (.ref z)])) rfl rfl (hb hby at_132) _ ?_
  refine zA Hs12_9 hx hZ hown hby hw zC (zCA xa xb xc xd x y z) _ ?_
  refine zb Hs12_9 hx hZ 1 0 rfl (by decide) rfl (g := (mkF m 136 #[oi xa, oi xb, oi xc, oi xd, oa x, oa y, oi 2, oa z, ou, ou] [(.int 0), (.ref y), (.int 0)])) rfl rfl (hb hby at_136) _ ?_
  refine zA Hs12_9 hx hZ hown hby hw zC (zCB xa xb xc xd x y z) _ ?_
  refine zb Hs12_9 hx hZ 2 1 rfl (by decide) rfl (g := (mkF m 149 #[oi xa, oi xb, oi xc, oi xd, oa x, oa y, oi 2, oa z, ou, ou] [(.int 1), (.ref z)])) rfl rfl (hb hby at_149) _ ?_
  refine zA Hs12_9 hx hZ hown hby hw zC (own_s12_13 xa xb xc xd x y z) _ ?_
  refine zb Hs12_9 hx hZ 1 1 rfl (by decide) rfl (g := (mkF m 153 #[oi xa, oi xb, oi xc, oi xd, oa x, oa y, oi 2, oa z, ou, ou] [(.int 1), (.ref y), (.int 1)])) rfl rfl (hb hby at_153) _ ?_
  refine zA Hs12_9 hx hZ hown hby hw zC (own_s12_14 xa xb xc xd x y z) _ ?_
  refine zJ Hs12_9 hx hZ 0 0 rfl (by decide) rfl (g := (mkF m 201 #[oi xa, oi xb, oi xc, oi xd, oa x, oa y, oi 2, oa z, oi 1, ou] [(.int 0), (.ref x)])) rfl rfl (hb hby at_201) _ ?_
  refine zA Hs12_9 hx hZ hown hby hw zC (zAc xa xb xc xd x y z v9 v203 hv203 v204 hv204 hb205) _ ?_
  refine zJ Hs12_9 hx hZ 0 1 rfl (by decide) rfl (g := (mkF m 211 #[oi xa, oi xb, oi xc, oi xd, oa x, oa y, oi 2, oa z, oi 1, ou] [(.int 1), (.ref x)])) rfl rfl (hb hby at_211) _ ?_
  refine zA Hs12_9 hx hZ hown hby hw zC (zAd xa xb xc xd x y z v15 v213 hv213 v214 hv214 hb215) _ ?_
  refine zJ Hs12_9 hx hZ 0 2 rfl (by decide) rfl (g := (mkF m 221 #[oi xa, oi xb, oi xc, oi xd, oa x, oa y, oi 2, oa z, oi 1, ou] [(.int 2), (.ref x)])) rfl rfl (hb hby at_221) _ ?_
  refine zA Hs12_9 hx hZ hown hby hw zC (zAe xa xb xc xd x y z v21 v223 hv223 v224 hv224 hb225) _ ?_
  refine zJ Hs12_9 hx hZ 0 3 rfl (by decide) rfl (g := (mkF m 231 #[oi xa, oi xb, oi xc, oi xd, oa x, oa y, oi 2, oa z, oi 1, ou] [(.int 3), (.ref x)])) rfl rfl (hb hby at_231) _ ?_
  refine zA Hs12_9 hx hZ hown hby hw zC (zAf xa xb xc xd x y z v27 v233 hv233 v234 hv234 hb235) _ ?_
  exact q
theorem own_p13_11 (x : Addr) (z : Addr) (dd : UInt64) (db : UInt64) (v64' : Int32) (hv64' : (cmpValue (FP.dcmp db (0 : UInt64)) .l) = v64') (hb65_1 : ifCond.holds .le v64' = false) :
    zE zM ok0 63 #[oa x, oi 3, oa z, oi 1, oi 1, .val (.double dd), .second] [(.double db)] 75 #[oa x, oi 3, oa z, oi 2, oi 1, .val (.double dd), .second] [(.int 1), (.int 1), (.ref z)] := by
  refine zf (v := 0) (pc2 := 64) d1_63 rfl rfl ?_
  refine zT (pc2 := 65) d1_64 rfl (v := v64') hv64' ?_
  refine zW (pc2 := 68) d1_65 rfl hb65_1 ?_
  refine zN (pc2 := 69) d1_68 rfl rfl rfl ?_
  refine zL (pc2 := 70) d1_69 rfl rfl ?_
  refine zU (pc2 := 73) d1_70 rfl rfl (v := (2 : Int32)) (by decide) (L' := #[oa x, oi 3, oa z, oi 2, oi 1, .val (.double dd), .second]) rfl ?_
  refine zG (pc2 := 75) d1_73 rfl rfl ?_
  exact zF
theorem own_p13_12 (x : Addr) (z : Addr) (dd : UInt64) :
    zE zM ok0 76 #[oa x, oi 3, oa z, oi 2, oi 1, .val (.double dd), .second] [] 55 #[oa x, oi 3, oa z, oi 2, oi 2, .val (.double dd), .second] [(.ref x), (.int 2)] := by
  refine zU (pc2 := 79) d1_76 rfl rfl (v := (2 : Int32)) (by decide) (L' := #[oa x, oi 3, oa z, oi 2, oi 2, .val (.double dd), .second]) rfl ?_
  refine zS (pc' := 52) d1_79 (by decide) (by decide) ?_
  refine zG (pc2 := 54) d1_52 rfl rfl ?_
  refine zN (pc2 := 55) d1_54 rfl rfl rfl ?_
  exact zF
theorem own_p13_13 (x : Addr) (z : Addr) (dd : UInt64) :
    zE zM ok0 56 #[oa x, oi 3, oa z, oi 2, oi 2, .val (.double dd), .second] [(.int 4), (.int 2)] 62 #[oa x, oi 3, oa z, oi 2, oi 2, .val (.double dd), .second] [(.int 2), (.ref x)] := by
  refine zV (pc2 := 59) d1_56 rfl (by decide) ?_
  refine zN (pc2 := 60) d1_59 rfl rfl rfl ?_
  refine zG (pc2 := 62) d1_60 rfl rfl ?_
  exact zF
theorem own_p13_14 (x : Addr) (z : Addr) (dd : UInt64) (dc : UInt64) (v64'' : Int32) (hv64'' : (cmpValue (FP.dcmp dc (0 : UInt64)) .l) = v64'') (hb65_2 : ifCond.holds .le v64'' = true) :
    zE zM ok0 63 #[oa x, oi 3, oa z, oi 2, oi 2, .val (.double dd), .second] [(.double dc)] 55 #[oa x, oi 3, oa z, oi 2, oi 3, .val (.double dd), .second] [(.ref x), (.int 3)] := by
  refine zf (v := 0) (pc2 := 64) d1_63 rfl rfl ?_
  refine zT (pc2 := 65) d1_64 rfl (v := v64'') hv64'' ?_
  refine zg (pc' := 76) d1_65 hb65_2 (by decide) (by decide) ?_
  refine zU (pc2 := 79) d1_76 rfl rfl (v := (3 : Int32)) (by decide) (L' := #[oa x, oi 3, oa z, oi 2, oi 3, .val (.double dd), .second]) rfl ?_
  refine zS (pc' := 52) d1_79 (by decide) (by decide) ?_
  refine zG (pc2 := 54) d1_52 rfl rfl ?_
  refine zN (pc2 := 55) d1_54 rfl rfl rfl ?_
  exact zF
set_option maxRecDepth 65536 in
set_option maxHeartbeats 4000000 in
theorem own_q13 (l : Launch) (Z : State) (a0 : Array Value) (hb0 : Heap) (hw : ∀ d ∈ tables_1, d.before a0 Z = true) (x : Addr) (y : Addr) (da db dc dd : UInt64) (hp0 : ifCond.holds .le (cmpValue (FP.dcmp da (0 : UInt64)) .l) = false) (hp1 : ifCond.holds .le (cmpValue (FP.dcmp db (0 : UInt64)) .l) = false) (hp2 : ifCond.holds .le (cmpValue (FP.dcmp dc (0 : UInt64)) .l) = true) (hp3 : ifCond.holds .le (cmpValue (FP.dcmp dd (0 : UInt64)) .l) = false) :
    zl l Z a0 hb0 (⟨"com/example/tangentia/tangentia/flash/StabilityTest", "presentComponents", "([D)[I"⟩ : MethodName) ok0 7 (some (.array .int)) [] ({ frames := 0, cells := 1, slots := 3, locals := 0 } : Room) #[(.ref x)] [(x, zB .double [.double da, .double db, .double dc, .double dd]), (y, zB .int [.int 0, .int 1, .int 3, .int 0])] (fun r cs' => ∃ z, r = some (.ref z) ∧ cs' = [(x, zB .double [.double da, .double db, .double dc, .double dd]), (y, zB .int [.int 0, .int 1, .int 3, .int 0]), (z, zB .int [.int 0, .int 1, .int 3])]) := by
  refine zm (L0 := #[oa x, ou, ou, ou, ou, ou, ou]) (plainFor_of_name zy) (fun m => zAA m x) ?_
  intro p e s m below meth c T0 hx hZ hown hby hml hnm H0
  obtain ⟨v26, hv26⟩ : ∃ z : Int32, (cmpValue (FP.dcmp da (0 : UInt64)) .l) = z := ⟨_, rfl⟩
  obtain ⟨v26', hv26'⟩ : ∃ z : Int32, (cmpValue (FP.dcmp db (0 : UInt64)) .l) = z := ⟨_, rfl⟩
  obtain ⟨v26'', hv26''⟩ : ∃ z : Int32, (cmpValue (FP.dcmp dc (0 : UInt64)) .l) = z := ⟨_, rfl⟩
  obtain ⟨v26''', hv26'''⟩ : ∃ z : Int32, (cmpValue (FP.dcmp dd (0 : UInt64)) .l) = z := ⟨_, rfl⟩
  obtain ⟨Tp13_6, z, Hp13_6, stp13_6⟩ := zh H0 hx hZ (zO hw 1 rfl) (g := (mkF m 44 #[oa x, oi 3, oa x, oi 4, oi 4, .val (.double dd), .second] [(.int 3)])) rfl (hb hby d1_44) rfl (by decide) (cap := 3) (by decide) (by decide) (by decide) (by decide)
  change zK _ _ _ _ _ _ _ _ _ _ _ _ _ _ [(x, zB .double [.double da, .double db, .double dc, .double dd]), (y, zB .int [.int 0, .int 1, .int 3, .int 0]), (z, zB .int [.int 0, .int 0, .int 0])] _ _ at Hp13_6
  obtain ⟨v64, hv64⟩ : ∃ z : Int32, (cmpValue (FP.dcmp da (0 : UInt64)) .l) = z := ⟨_, rfl⟩
  obtain ⟨Tp13_9, Hp13_9, stp13_9⟩ := ze Hp13_6 hx hZ 2 0 rfl (by decide) (Nat.le_of_ble_eq_true rfl) (g := (mkF m 75 #[oa x, oi 3, oa z, oi 1, oi 0, .val (.double dd), .second] [(.int 0), (.int 0), (.ref z)])) rfl rfl (hb hby d1_75)
  change zK _ _ _ _ _ _ _ _ _ _ _ _ _ _ [(x, zB .double [.double da, .double db, .double dc, .double dd]), (y, zB .int [.int 0, .int 1, .int 3, .int 0]), (z, zB .int [.int 0, .int 0, .int 0])] _ _ at Hp13_9
  obtain ⟨v64', hv64'⟩ : ∃ z : Int32, (cmpValue (FP.dcmp db (0 : UInt64)) .l) = z := ⟨_, rfl⟩
  obtain ⟨Tp13_12, Hp13_12, stp13_12⟩ := ze Hp13_9 hx hZ 2 1 rfl (by decide) (Nat.le_of_ble_eq_true rfl) (g := (mkF m 75 #[oa x, oi 3, oa z, oi 2, oi 1, .val (.double dd), .second] [(.int 1), (.int 1), (.ref z)])) rfl rfl (hb hby d1_75)
  change zK _ _ _ _ _ _ _ _ _ _ _ _ _ _ [(x, zB .double [.double da, .double db, .double dc, .double dd]), (y, zB .int [.int 0, .int 1, .int 3, .int 0]), (z, zB .int [.int 0, .int 1, .int 0])] _ _ at Hp13_12
  obtain ⟨v64'', hv64''⟩ : ∃ z : Int32, (cmpValue (FP.dcmp dc (0 : UInt64)) .l) = z := ⟨_, rfl⟩
  obtain ⟨v64''', hv64'''⟩ : ∃ z : Int32, (cmpValue (FP.dcmp dd (0 : UInt64)) .l) = z := ⟨_, rfl⟩
  obtain ⟨Tp13_17, Hp13_17, stp13_17⟩ := ze Hp13_12 hx hZ 2 2 rfl (by decide) (Nat.le_of_ble_eq_true rfl) (g := (mkF m 75 #[oa x, oi 3, oa z, oi 3, oi 3, .val (.double dd), .second] [(.int 3), (.int 2), (.ref z)])) rfl rfl (hb hby d1_75)
  change zK _ _ _ _ _ _ _ _ _ _ _ _ _ _ [(x, zB .double [.double da, .double db, .double dc, .double dd]), (y, zB .int [.int 0, .int 1, .int 3, .int 0]), (z, zB .int [.int 0, .int 1, .int 3])] _ _ at Hp13_17
  have hb27_0 : ifCond.holds .le v26 = false := by rw [← hv26]; exact hp0
  have hb27_1 : ifCond.holds .le v26' = false := by rw [← hv26']; exact hp1
  have hb27_2 : ifCond.holds .le v26'' = true := by rw [← hv26'']; exact hp2
  have hb27_3 : ifCond.holds .le v26''' = false := by rw [← hv26''']; exact hp3
  have hb65_0 : ifCond.holds .le v64 = false := by rw [← hv64]; exact hp0
  have hb65_1 : ifCond.holds .le v64' = false := by rw [← hv64']; exact hp1
  have hb65_2 : ifCond.holds .le v64'' = true := by rw [← hv64'']; exact hp2
  have hb65_3 : ifCond.holds .le v64''' = false := by rw [← hv64''']; exact hp3
  refine ⟨_, _, _, _, 83, #[oa x, oi 3, oa z, oi 3, oi 4, .val (.double dd), .second], Hp13_17, by decide, by decide, Or.inr ⟨(.array .int), (.ref z), [], .areturn, rfl, ⟨z, rfl, rfl⟩, d1_83, zAC _, fun target q => ?_⟩⟩
  refine zA H0 hx hZ hown hby hw zD (zAD x) _ ?_
  refine zP H0 hx hZ 0 rfl (z := (4 : Int32)) rfl (g := (mkF m 5 #[oa x, oi 0, oa x, ou, ou, ou, ou] [(.ref x)])) rfl rfl (hb hby d1_5) _ ?_
  refine zA H0 hx hZ hown hby hw zD (zAE x) _ ?_
  refine zJ H0 hx hZ 0 0 rfl (by decide) rfl (g := (mkF m 19 #[oa x, oi 0, oa x, oi 4, oi 0, ou, ou] [(.int 0), (.ref x)])) rfl rfl (hb hby d1_19) _ ?_
  refine zA H0 hx hZ hown hby hw zD (zAR x da v26 hv26 hb27_0) _ ?_
  refine zJ H0 hx hZ 0 1 rfl (by decide) rfl (g := (mkF m 19 #[oa x, oi 1, oa x, oi 4, oi 1, .val (.double da), .second] [(.int 1), (.ref x)])) rfl rfl (hb hby d1_19) _ ?_
  refine zA H0 hx hZ hown hby hw zD (zBQ x da db v26' hv26' hb27_1) _ ?_
  refine zJ H0 hx hZ 0 2 rfl (by decide) rfl (g := (mkF m 19 #[oa x, oi 2, oa x, oi 4, oi 2, .val (.double db), .second] [(.int 2), (.ref x)])) rfl rfl (hb hby d1_19) _ ?_
  refine zA H0 hx hZ hown hby hw zD (own_p12_4 x db dc v26'' hv26'' hb27_2) _ ?_
  refine zJ H0 hx hZ 0 3 rfl (by decide) rfl (g := (mkF m 19 #[oa x, oi 2, oa x, oi 4, oi 3, .val (.double dc), .second] [(.int 3), (.ref x)])) rfl rfl (hb hby d1_19) _ ?_
  refine zA H0 hx hZ hown hby hw zD (zBq x dc dd v26''' hv26''' hb27_3) _ ?_
  refine stp13_6 _ ?_
  refine zA Hp13_6 hx hZ hown hby hw zD (zBG x dd z) _ ?_
  refine zP Hp13_6 hx hZ 0 rfl (z := (4 : Int32)) rfl (g := (mkF m 55 #[oa x, oi 3, oa z, oi 0, oi 0, .val (.double dd), .second] [(.ref x), (.int 0)])) rfl rfl (hb hby d1_55) _ ?_
  refine zA Hp13_6 hx hZ hown hby hw zD (zBH x z dd) _ ?_
  refine zJ Hp13_6 hx hZ 0 0 rfl (by decide) rfl (g := (mkF m 62 #[oa x, oi 3, oa z, oi 0, oi 0, .val (.double dd), .second] [(.int 0), (.ref x)])) rfl rfl (hb hby d1_62) _ ?_
  refine zA Hp13_6 hx hZ hown hby hw zD (zCC x z dd da v64 hv64 hb65_0) _ ?_
  refine stp13_9 _ ?_
  refine zA Hp13_9 hx hZ hown hby hw zD (zCD x z dd) _ ?_
  refine zP Hp13_9 hx hZ 0 rfl (z := (4 : Int32)) rfl (g := (mkF m 55 #[oa x, oi 3, oa z, oi 1, oi 1, .val (.double dd), .second] [(.ref x), (.int 1)])) rfl rfl (hb hby d1_55) _ ?_
  refine zA Hp13_9 hx hZ hown hby hw zD (zCE x z dd) _ ?_
  refine zJ Hp13_9 hx hZ 0 1 rfl (by decide) rfl (g := (mkF m 62 #[oa x, oi 3, oa z, oi 1, oi 1, .val (.double dd), .second] [(.int 1), (.ref x)])) rfl rfl (hb hby d1_62) _ ?_
  refine zA Hp13_9 hx hZ hown hby hw zD (own_p13_11 x z dd db v64' hv64' hb65_1) _ ?_
  refine stp13_12 _ ?_
  refine zA Hp13_12 hx hZ hown hby hw zD (own_p13_12 x z dd) _ ?_
  refine zP Hp13_12 hx hZ 0 rfl (z := (4 : Int32)) rfl (g := (mkF m 55 #[oa x, oi 3, oa z, oi 2, oi 2, .val (.double dd), .second] [(.ref x), (.int 2)])) rfl rfl (hb hby d1_55) _ ?_
  refine zA Hp13_12 hx hZ hown hby hw zD (own_p13_13 x z dd) _ ?_
  refine zJ Hp13_12 hx hZ 0 2 rfl (by decide) rfl (g := (mkF m 62 #[oa x, oi 3, oa z, oi 2, oi 2, .val (.double dd), .second] [(.int 2), (.ref x)])) rfl rfl (hb hby d1_62) _ ?_
  refine zA Hp13_12 hx hZ hown hby hw zD (own_p13_14 x z dd dc v64'' hv64'' hb65_2) _ ?_
  refine zP Hp13_12 hx hZ 0 rfl (z := (4 : Int32)) rfl (g := (mkF m 55 #[oa x, oi 3, oa z, oi 2, oi 3, .val (.double dd), .second] [(.ref x), (.int 3)])) rfl rfl (hb hby d1_55) _ ?_
  refine zA Hp13_12 hx hZ hown hby hw zD (zBr x z dd) _ ?_
  refine zJ Hp13_12 hx hZ 0 3 rfl (by decide) rfl (g := (mkF m 62 #[oa x, oi 3, oa z, oi 2, oi 3, .val (.double dd), .second] [(.int 3), (.ref x)])) rfl rfl (hb hby d1_62) _ ?_
  refine zA Hp13_12 hx hZ hown hby hw zD (zBs x z dd v64''' hv64''' hb65_3) _ ?_
  refine stp13_17 _ ?_
  refine zA Hp13_17 hx hZ hown hby hw zD (zBt x z dd) _ ?_
  refine zP Hp13_17 hx hZ 0 rfl (z := (4 : Int32)) rfl (g := (mkF m 55 #[oa x, oi 3, oa z, oi 3, oi 4, .val (.double dd), .second] [(.ref x), (.int 4)])) rfl rfl (hb hby d1_55) _ ?_
  refine zA Hp13_17 hx hZ hown hby hw zD (zBI x z dd) _ ?_
  exact q
theorem own_s13_8 (xa : Int32) (xb : Int32) (xc : Int32) (xd : Int32) (x : Addr) (y : Addr) (hb70 : ifCond.holds .le xc = true) (hb86 : ifCond.holds .le xd = false) :
    zE zQ code 63 #[oi xa, oi xb, oi xc, oi xd, oa x, oa y, oi 1, ou, ou, ou] [] 94 #[oi xa, oi xb, oi xc, oi xd, oa x, oa y, oi 2, ou, ou, ou] [(.int 3), (.int 2), (.ref y)] := by
  refine zG (pc2 := 65) at_63 rfl rfl ?_
  refine zH (v := 1) (pc2 := 66) at_65 rfl rfl ?_
  refine zk (pc2 := 67) at_66 rfl (v := (2 : Int32)) (by decide) ?_
  refine zi (pc2 := 69) at_67 rfl (L' := #[oi xa, oi xb, oi xc, oi xd, oa x, oa y, oi 2, ou, ou, ou]) rfl ?_
  refine zL (pc2 := 70) at_69 rfl rfl ?_
  refine zg (pc' := 85) at_70 hb70 (by decide) (by decide) ?_
  refine zL (pc2 := 86) at_85 rfl rfl ?_
  refine zW (pc2 := 89) at_86 rfl hb86 ?_
  refine zR (pc2 := 91) at_89 rfl rfl rfl ?_
  refine zG (pc2 := 93) at_91 rfl rfl ?_
  refine zH (v := 3) (pc2 := 94) at_93 rfl rfl ?_
  exact zF
theorem own_s13_14 (xa : Int32) (xb : Int32) (xc : Int32) (xd : Int32) (x : Addr) (y : Addr) (z : Addr) :
    zE zQ code 150 #[oi xa, oi xb, oi xc, oi xd, oa x, oa y, oi 3, oa z, ou, ou] [(.int 1)] 153 #[oi xa, oi xb, oi xc, oi xd, oa x, oa y, oi 3, oa z, ou, ou] [(.int 1), (.ref y), (.int 1)] := by
  refine zR (pc2 := 152) at_150 rfl rfl rfl ?_
  refine zH (v := 1) (pc2 := 153) at_152 rfl rfl ?_
  exact zF
theorem own_s13_15 (xa : Int32) (xb : Int32) (xc : Int32) (xd : Int32) (x : Addr) (y : Addr) (z : Addr) :
    zE zQ code 154 #[oi xa, oi xb, oi xc, oi xd, oa x, oa y, oi 3, oa z, ou, ou] [(.int 1), (.int 1)] 166 #[oi xa, oi xb, oi xc, oi xd, oa x, oa y, oi 3, oa z, ou, ou] [(.int 2), (.ref z)] := by
  refine zV (pc2 := 157) at_154 rfl (by decide) ?_
  refine zG (pc2 := 159) at_157 rfl rfl ?_
  refine zH (v := 3) (pc2 := 160) at_159 rfl rfl ?_
  refine zV (pc2 := 163) at_160 rfl (by decide) ?_
  refine zR (pc2 := 165) at_163 rfl rfl rfl ?_
  refine zH (v := 2) (pc2 := 166) at_165 rfl rfl ?_
  exact zF
set_option maxRecDepth 65536 in
set_option maxHeartbeats 40000000 in
theorem own_law13 (l : Launch) (Z : State) (a0 : Array Value) (hb0 : Heap) (hw : ∀ d ∈ tables_1, d.before a0 Z = true) (xa : Int32) (xb : Int32) (xc : Int32) (xd : Int32) (hb38 : ifCond.holds .le xa = false) (hb54 : ifCond.holds .le xb = false) (hb70 : ifCond.holds .le xc = true) (hb86 : ifCond.holds .le xd = false) :
    zl l Z a0 hb0 x code maxLocals ret tables_1 room_1 #[(.int xa), (.int xb), (.int xc), (.int xd)] [] (fun v _ => v = some (.int 1)) := by
  refine zm (L0 := #[oi xa, oi xb, oi xc, oi xd, ou, ou, ou, ou, ou, ou]) (plainFor_of_name zx) (fun m => zAB m xa xb xc xd) ?_
  intro p e s m below meth c T0 hx hZ hown hby hml hnm H0
  have hown : s.vm.findClass "com/example/tangentia/tangentia/flash/StabilityTestPresentComponentsPinLaw" = some m.cls := hown
  have hml : c.maxLocals = 10 := hml
  obtain ⟨Ts13_1, x, Hs13_1, sts13_1⟩ := zh H0 hx hZ (zO hw 0 rfl) (g := (mkF m 1 #[oi xa, oi xb, oi xc, oi xd, ou, ou, ou, ou, ou, ou] [(.int 4)])) rfl (hb hby at_1) rfl (by decide) (cap := 4) (by decide) (by decide) (by decide) (by decide)
  change zK _ _ _ _ _ _ _ _ _ _ _ _ _ _ [(x, zB .double [.double 0, .double 0, .double 0, .double 0])] _ _ at Hs13_1
  obtain ⟨v9, hv9⟩ : ∃ z : UInt64, (FP.i2d xa) = z := ⟨_, rfl⟩
  obtain ⟨Ts13_2, Hs13_2, sts13_2⟩ := zd Hs13_1 hx hZ 0 0 rfl (by decide) (Nat.le_of_ble_eq_true rfl) (g := (mkF m 10 #[oi xa, oi xb, oi xc, oi xd, oa x, ou, ou, ou, ou, ou] [(.double v9), (.int 0), (.ref x)])) rfl rfl (hb hby at_10)
  change zK _ _ _ _ _ _ _ _ _ _ _ _ _ _ [(x, zB .double [.double v9, .double 0, .double 0, .double 0])] _ _ at Hs13_2
  obtain ⟨v15, hv15⟩ : ∃ z : UInt64, (FP.i2d xb) = z := ⟨_, rfl⟩
  obtain ⟨Ts13_3, Hs13_3, sts13_3⟩ := zd Hs13_2 hx hZ 0 1 rfl (by decide) (Nat.le_of_ble_eq_true rfl) (g := (mkF m 16 #[oi xa, oi xb, oi xc, oi xd, oa x, ou, ou, ou, ou, ou] [(.double v15), (.int 1), (.ref x)])) rfl rfl (hb hby at_16)
  change zK _ _ _ _ _ _ _ _ _ _ _ _ _ _ [(x, zB .double [.double v9, .double v15, .double 0, .double 0])] _ _ at Hs13_3
  obtain ⟨v21, hv21⟩ : ∃ z : UInt64, (FP.i2d xc) = z := ⟨_, rfl⟩
  obtain ⟨Ts13_4, Hs13_4, sts13_4⟩ := zd Hs13_3 hx hZ 0 2 rfl (by decide) (Nat.le_of_ble_eq_true rfl) (g := (mkF m 22 #[oi xa, oi xb, oi xc, oi xd, oa x, ou, ou, ou, ou, ou] [(.double v21), (.int 2), (.ref x)])) rfl rfl (hb hby at_22)
  change zK _ _ _ _ _ _ _ _ _ _ _ _ _ _ [(x, zB .double [.double v9, .double v15, .double v21, .double 0])] _ _ at Hs13_4
  obtain ⟨v27, hv27⟩ : ∃ z : UInt64, (FP.i2d xd) = z := ⟨_, rfl⟩
  obtain ⟨Ts13_5, Hs13_5, sts13_5⟩ := zd Hs13_4 hx hZ 0 3 rfl (by decide) (Nat.le_of_ble_eq_true rfl) (g := (mkF m 28 #[oi xa, oi xb, oi xc, oi xd, oa x, ou, ou, ou, ou, ou] [(.double v27), (.int 3), (.ref x)])) rfl rfl (hb hby at_28)
  change zK _ _ _ _ _ _ _ _ _ _ _ _ _ _ [(x, zB .double [.double v9, .double v15, .double v21, .double v27])] _ _ at Hs13_5
  obtain ⟨Ts13_6, y, Hs13_6, sts13_6⟩ := zh Hs13_5 hx hZ (zO hw 1 rfl) (g := (mkF m 30 #[oi xa, oi xb, oi xc, oi xd, oa x, ou, ou, ou, ou, ou] [(.int 4)])) rfl (hb hby at_30) rfl (by decide) (cap := 4) (by decide) (by decide) (by decide) (by decide)
  change zK _ _ _ _ _ _ _ _ _ _ _ _ _ _ [(x, zB .double [.double v9, .double v15, .double v21, .double v27]), (y, zB .int [.int 0, .int 0, .int 0, .int 0])] _ _ at Hs13_6
  obtain ⟨Ts13_7, Hs13_7, sts13_7⟩ := ze Hs13_6 hx hZ 1 0 rfl (by decide) (Nat.le_of_ble_eq_true rfl) (g := (mkF m 46 #[oi xa, oi xb, oi xc, oi xd, oa x, oa y, oi 0, ou, ou, ou] [(.int 0), (.int 0), (.ref y)])) rfl rfl (hb hby at_46)
  change zK _ _ _ _ _ _ _ _ _ _ _ _ _ _ [(x, zB .double [.double v9, .double v15, .double v21, .double v27]), (y, zB .int [.int 0, .int 0, .int 0, .int 0])] _ _ at Hs13_7
  obtain ⟨Ts13_8, Hs13_8, sts13_8⟩ := ze Hs13_7 hx hZ 1 1 rfl (by decide) (Nat.le_of_ble_eq_true rfl) (g := (mkF m 62 #[oi xa, oi xb, oi xc, oi xd, oa x, oa y, oi 1, ou, ou, ou] [(.int 1), (.int 1), (.ref y)])) rfl rfl (hb hby at_62)
  change zK _ _ _ _ _ _ _ _ _ _ _ _ _ _ [(x, zB .double [.double v9, .double v15, .double v21, .double v27]), (y, zB .int [.int 0, .int 1, .int 0, .int 0])] _ _ at Hs13_8
  obtain ⟨Ts13_9, Hs13_9, sts13_9⟩ := ze Hs13_8 hx hZ 1 2 rfl (by decide) (Nat.le_of_ble_eq_true rfl) (g := (mkF m 94 #[oi xa, oi xb, oi xc, oi xd, oa x, oa y, oi 2, ou, ou, ou] [(.int 3), (.int 2), (.ref y)])) rfl rfl (hb hby at_94)
  change zK _ _ _ _ _ _ _ _ _ _ _ _ _ _ [(x, zB .double [.double v9, .double v15, .double v21, .double v27]), (y, zB .int [.int 0, .int 1, .int 3, .int 0])] _ _ at Hs13_9
  have hp0 : ifCond.holds .le (cmpValue (FP.dcmp v9 (0 : UInt64)) .l) = false := by rw [← hv9, zY (zI xa) zX]; exact zn hb38
  have hp1 : ifCond.holds .le (cmpValue (FP.dcmp v15 (0 : UInt64)) .l) = false := by rw [← hv15, zY (zI xb) zX]; exact zn hb54
  have hp2 : ifCond.holds .le (cmpValue (FP.dcmp v21 (0 : UInt64)) .l) = true := by rw [← hv21, zY (zI xc) zX]; exact zo hb70
  have hp3 : ifCond.holds .le (cmpValue (FP.dcmp v27 (0 : UInt64)) .l) = false := by rw [← hv27, zY (zI xd) zX]; exact zn hb86
  obtain ⟨Ts13_10, vs13_10_, css13_10_, qs13_10, Hs13_10, sts13_10⟩ := zw Hs13_9 hx hZ hown (zO hw 2 rfl) (zO hw 3 rfl) (zO hw 4 rfl) (zO hw 5 rfl) (by decide) (argsL := [(.ref x)]) (rest := []) (W := 0) (own_q13 l Z a0 hb0 hw x y v9 v15 v21 v27 hp0 hp1 hp2 hp3) (by decide) (by decide) (by decide) (by decide) (g := (mkF m 103 #[oi xa, oi xb, oi xc, oi xd, oa x, oa y, oi 3, ou, ou, ou] [(.ref x)])) rfl (by rw [hml]; rfl) (lenOf zz rfl) rfl (by show 2 * 0 + _ ≤ _; exact Nat.le_of_eq rfl) (hb hby at_103)
  obtain ⟨z, rfl, rfl⟩ := qs13_10
  obtain ⟨v203, hv203⟩ : ∃ z : UInt64, (FP.i2d xa) = z := ⟨_, rfl⟩
  obtain ⟨v204, hv204⟩ : ∃ z : Int32, (cmpValue (FP.dcmp v9 v203) .l) = z := ⟨_, rfl⟩
  obtain ⟨v213, hv213⟩ : ∃ z : UInt64, (FP.i2d xb) = z := ⟨_, rfl⟩
  obtain ⟨v214, hv214⟩ : ∃ z : Int32, (cmpValue (FP.dcmp v15 v213) .l) = z := ⟨_, rfl⟩
  obtain ⟨v223, hv223⟩ : ∃ z : UInt64, (FP.i2d xc) = z := ⟨_, rfl⟩
  obtain ⟨v224, hv224⟩ : ∃ z : Int32, (cmpValue (FP.dcmp v21 v223) .l) = z := ⟨_, rfl⟩
  obtain ⟨v233, hv233⟩ : ∃ z : UInt64, (FP.i2d xd) = z := ⟨_, rfl⟩
  obtain ⟨v234, hv234⟩ : ∃ z : Int32, (cmpValue (FP.dcmp v27 v233) .l) = z := ⟨_, rfl⟩
  have hb205 : ifCond.holds .ne v204 = false := by rw [← hv204, ← hv203, ← hv9, zZ (zI xa) (zI xa)]; simp
  have hb215 : ifCond.holds .ne v214 = false := by rw [← hv214, ← hv213, ← hv15, zZ (zI xb) (zI xb)]; simp
  have hb225 : ifCond.holds .ne v224 = false := by rw [← hv224, ← hv223, ← hv21, zZ (zI xc) (zI xc)]; simp
  have hb235 : ifCond.holds .ne v234 = false := by rw [← hv234, ← hv233, ← hv27, zZ (zI xd) (zI xd)]; simp
  refine ⟨_, _, _, _, 260, #[oi xa, oi xb, oi xc, oi xd, oa x, oa y, oi 3, oa z, oi 1, oi 1], Hs13_10, by decide, by decide, Or.inr ⟨.boolean, (.int 1), [], .ireturn, rfl, rfl, at_260, zv (Or.inr rfl), fun target q => ?_⟩⟩
  refine zA H0 hx hZ hown hby hw zC (zAF xa xb xc xd) _ ?_
  refine sts13_1 _ ?_
  refine zA Hs13_1 hx hZ hown hby hw zC (zAG xa xb xc xd x v9 hv9) _ ?_
  refine sts13_2 _ ?_
  refine zA Hs13_2 hx hZ hown hby hw zC (zAH xa xb xc xd x v15 hv15) _ ?_
  refine sts13_3 _ ?_
  refine zA Hs13_3 hx hZ hown hby hw zC (zAI xa xb xc xd x v21 hv21) _ ?_
  refine sts13_4 _ ?_
  refine zA Hs13_4 hx hZ hown hby hw zC (zAJ xa xb xc xd x v27 hv27) _ ?_
  refine sts13_5 _ ?_
  refine zA Hs13_5 hx hZ hown hby hw zC (zAK xa xb xc xd x) _ ?_
  refine sts13_6 _ ?_
  refine zA Hs13_6 hx hZ hown hby hw zC (zAS xa xb xc xd x y hb38) _ ?_
  refine sts13_7 _ ?_
  refine zA Hs13_7 hx hZ hown hby hw zC (zBR xa xb xc xd x y hb54) _ ?_
  refine sts13_8 _ ?_
  refine zA Hs13_8 hx hZ hown hby hw zC (own_s13_8 xa xb xc xd x y hb70 hb86) _ ?_
  refine sts13_9 _ ?_
  refine zA Hs13_9 hx hZ hown hby hw zC (zBu xa xb xc xd x y) _ ?_
  refine sts13_10 _ ?_
  refine zA Hs13_10 hx hZ hown hby hw zC (zBJ xa xb xc xd x y z) _ ?_
  refine zP Hs13_10 hx hZ 2 rfl (z := (3 : Int32)) rfl (g := (mkF m 115 #[oi xa, oi xb, oi xc, oi xd, oa x, oa y, oi 3, oa z, ou, ou] [(.ref z)])) rfl rfl (hb hby at_115) _ ?_
  refine zA Hs13_10 hx hZ hown hby hw zC (zBK xa xb xc xd x y z) _ ?_
  refine zb Hs13_10 hx hZ 2 0 rfl (by decide) rfl (g := (mkF m 132 #[oi xa, oi xb, oi xc, oi xd, oa x, oa y, oi 3, oa z, ou, ou] [(.int 0), (.ref z)])) rfl rfl (hb hby at_132) _ ?_
  refine zA Hs13_10 hx hZ hown hby hw zC (zCF xa xb xc xd x y z) _ ?_
  refine zb Hs13_10 hx hZ 1 0 rfl (by decide) rfl (g := (mkF m 136 #[oi xa, oi xb, oi xc, oi xd, oa x, oa y, oi 3, oa z, ou, ou] [(.int 0), (.ref y), (.int 0)])) rfl rfl (hb hby at_136) _ ?_
  refine zA Hs13_10 hx hZ hown hby hw zC (zCG xa xb xc xd x y z) _ ?_
  refine zb Hs13_10 hx hZ 2 1 rfl (by decide) rfl (g := (mkF m 149 #[oi xa, oi xb, oi xc, oi xd, oa x, oa y, oi 3, oa z, ou, ou] [(.int 1), (.ref z)])) rfl rfl (hb hby at_149) _ ?_
  refine zA Hs13_10 hx hZ hown hby hw zC (own_s13_14 xa xb xc xd x y z) _ ?_
  refine zb Hs13_10 hx hZ 1 1 rfl (by decide) rfl (g := (mkF m 153 #[oi xa, oi xb, oi xc, oi xd, oa x, oa y, oi 3, oa z, ou, ou] [(.int 1), (.ref y), (.int 1)])) rfl rfl (hb hby at_153) _ ?_
  refine zA Hs13_10 hx hZ hown hby hw zC (own_s13_15 xa xb xc xd x y z) _ ?_
  refine zb Hs13_10 hx hZ 2 2 rfl (by decide) rfl (g := (mkF m 166 #[oi xa, oi xb, oi xc, oi xd, oa x, oa y, oi 3, oa z, ou, ou] [(.int 2), (.ref z)])) rfl rfl (hb hby at_166) _ ?_
  refine zA Hs13_10 hx hZ hown hby hw zC (zBv xa xb xc xd x y z) _ ?_
  refine zb Hs13_10 hx hZ 1 2 rfl (by decide) rfl (g := (mkF m 170 #[oi xa, oi xb, oi xc, oi xd, oa x, oa y, oi 3, oa z, ou, ou] [(.int 2), (.ref y), (.int 3)])) rfl rfl (hb hby at_170) _ ?_
  refine zA Hs13_10 hx hZ hown hby hw zC (zBw xa xb xc xd x y z) _ ?_
  refine zJ Hs13_10 hx hZ 0 0 rfl (by decide) rfl (g := (mkF m 201 #[oi xa, oi xb, oi xc, oi xd, oa x, oa y, oi 3, oa z, oi 1, ou] [(.int 0), (.ref x)])) rfl rfl (hb hby at_201) _ ?_
  refine zA Hs13_10 hx hZ hown hby hw zC (zBL xa xb xc xd x y z v9 v203 hv203 v204 hv204 hb205) _ ?_
  refine zJ Hs13_10 hx hZ 0 1 rfl (by decide) rfl (g := (mkF m 211 #[oi xa, oi xb, oi xc, oi xd, oa x, oa y, oi 3, oa z, oi 1, ou] [(.int 1), (.ref x)])) rfl rfl (hb hby at_211) _ ?_
  refine zA Hs13_10 hx hZ hown hby hw zC (zBM xa xb xc xd x y z v15 v213 hv213 v214 hv214 hb215) _ ?_
  refine zJ Hs13_10 hx hZ 0 2 rfl (by decide) rfl (g := (mkF m 221 #[oi xa, oi xb, oi xc, oi xd, oa x, oa y, oi 3, oa z, oi 1, ou] [(.int 2), (.ref x)])) rfl rfl (hb hby at_221) _ ?_
  refine zA Hs13_10 hx hZ hown hby hw zC (zBN xa xb xc xd x y z v21 v223 hv223 v224 hv224 hb225) _ ?_
  refine zJ Hs13_10 hx hZ 0 3 rfl (by decide) rfl (g := (mkF m 231 #[oi xa, oi xb, oi xc, oi xd, oa x, oa y, oi 3, oa z, oi 1, ou] [(.int 3), (.ref x)])) rfl rfl (hb hby at_231) _ ?_
  refine zA Hs13_10 hx hZ hown hby hw zC (zBO xa xb xc xd x y z v27 v233 hv233 v234 hv234 hb235) _ ?_
  exact q
theorem own_p14_4 (x : Addr) (db : UInt64) (dc : UInt64) (v26'' : Int32) (hv26'' : (cmpValue (FP.dcmp dc (0 : UInt64)) .l) = v26'') (hb27_2 : ifCond.holds .le v26'' = false) :
    zE zM ok0 20 #[oa x, oi 2, oa x, oi 4, oi 2, .val (.double db), .second] [(.double dc)] 19 #[oa x, oi 3, oa x, oi 4, oi 3, .val (.double dc), .second] [(.int 3), (.ref x)] := by
  refine zt (pc2 := 22) d1_20 rfl (L' := #[oa x, oi 2, oa x, oi 4, oi 2, .val (.double dc), .second]) rfl ?_
  refine zL (pc2 := 23) d1_22 rfl rfl ?_
  refine zs (pc2 := 25) d1_23 rfl rfl ?_
  refine zf (v := 0) (pc2 := 26) d1_25 rfl rfl ?_
  refine zT (pc2 := 27) d1_26 rfl (v := v26'') hv26'' ?_
  refine zW (pc2 := 30) d1_27 rfl hb27_2 ?_
  refine zH (v := 1) (pc2 := 31) d1_30 rfl rfl ?_
  refine zS (pc' := 35) d1_31 (by decide) (by decide) ?_
  refine zk (pc2 := 36) d1_35 rfl (v := (3 : Int32)) (by decide) ?_
  refine zq (pc2 := 37) d1_36 rfl (L' := #[oa x, oi 3, oa x, oi 4, oi 2, .val (.double dc), .second]) rfl ?_
  refine zU (pc2 := 40) d1_37 rfl rfl (v := (3 : Int32)) (by decide) (L' := #[oa x, oi 3, oa x, oi 4, oi 3, .val (.double dc), .second]) rfl ?_
  refine zS (pc' := 10) d1_40 (by decide) (by decide) ?_
  refine zG (pc2 := 12) d1_10 rfl rfl ?_
  refine zL (pc2 := 13) d1_12 rfl rfl ?_
  refine zV (pc2 := 16) d1_13 rfl (by decide) ?_
  refine zN (pc2 := 17) d1_16 rfl rfl rfl ?_
  refine zG (pc2 := 19) d1_17 rfl rfl ?_
  exact zF
theorem own_p14_5 (x : Addr) (dc : UInt64) (dd : UInt64) (v26''' : Int32) (hv26''' : (cmpValue (FP.dcmp dd (0 : UInt64)) .l) = v26''') (hb27_3 : ifCond.holds .le v26''' = true) :
    zE zM ok0 20 #[oa x, oi 3, oa x, oi 4, oi 3, .val (.double dc), .second] [(.double dd)] 44 #[oa x, oi 3, oa x, oi 4, oi 4, .val (.double dd), .second] [(.int 3)] := by
  refine zt (pc2 := 22) d1_20 rfl (L' := #[oa x, oi 3, oa x, oi 4, oi 3, .val (.double dd), .second]) rfl ?_
  refine zL (pc2 := 23) d1_22 rfl rfl ?_
  refine zs (pc2 := 25) d1_23 rfl rfl ?_
  refine zf (v := 0) (pc2 := 26) d1_25 rfl rfl ?_
  refine zT (pc2 := 27) d1_26 rfl (v := v26''') hv26''' ?_
  refine zg (pc' := 34) d1_27 hb27_3 (by decide) (by decide) ?_
  refine zH (v := 0) (pc2 := 35) d1_34 rfl rfl ?_
  refine zk (pc2 := 36) d1_35 rfl (v := (3 : Int32)) (by decide) ?_
  refine zq (pc2 := 37) d1_36 rfl (L' := #[oa x, oi 3, oa x, oi 4, oi 3, .val (.double dd), .second]) rfl ?_
  refine zU (pc2 := 40) d1_37 rfl rfl (v := (4 : Int32)) (by decide) (L' := #[oa x, oi 3, oa x, oi 4, oi 4, .val (.double dd), .second]) rfl ?_
  refine zS (pc' := 10) d1_40 (by decide) (by decide) ?_
  refine zG (pc2 := 12) d1_10 rfl rfl ?_
  refine zL (pc2 := 13) d1_12 rfl rfl ?_
  refine zj (pc' := 43) d1_13 (by decide) (by decide) (by decide) ?_
  refine zL (pc2 := 44) d1_43 rfl rfl ?_
  exact zF
theorem own_p14_14 (x : Addr) (z : Addr) (dd : UInt64) (dc : UInt64) (v64'' : Int32) (hv64'' : (cmpValue (FP.dcmp dc (0 : UInt64)) .l) = v64'') (hb65_2 : ifCond.holds .le v64'' = false) :
    zE zM ok0 63 #[oa x, oi 3, oa z, oi 2, oi 2, .val (.double dd), .second] [(.double dc)] 75 #[oa x, oi 3, oa z, oi 3, oi 2, .val (.double dd), .second] [(.int 2), (.int 2), (.ref z)] := by
  refine zf (v := 0) (pc2 := 64) d1_63 rfl rfl ?_
  refine zT (pc2 := 65) d1_64 rfl (v := v64'') hv64'' ?_
  refine zW (pc2 := 68) d1_65 rfl hb65_2 ?_
  refine zN (pc2 := 69) d1_68 rfl rfl rfl ?_
  refine zL (pc2 := 70) d1_69 rfl rfl ?_
  refine zU (pc2 := 73) d1_70 rfl rfl (v := (3 : Int32)) (by decide) (L' := #[oa x, oi 3, oa z, oi 3, oi 2, .val (.double dd), .second]) rfl ?_
  refine zG (pc2 := 75) d1_73 rfl rfl ?_
  exact zF
theorem own_p14_15 (x : Addr) (z : Addr) (dd : UInt64) :
    zE zM ok0 76 #[oa x, oi 3, oa z, oi 3, oi 2, .val (.double dd), .second] [] 55 #[oa x, oi 3, oa z, oi 3, oi 3, .val (.double dd), .second] [(.ref x), (.int 3)] := by
  refine zU (pc2 := 79) d1_76 rfl rfl (v := (3 : Int32)) (by decide) (L' := #[oa x, oi 3, oa z, oi 3, oi 3, .val (.double dd), .second]) rfl ?_
  refine zS (pc' := 52) d1_79 (by decide) (by decide) ?_
  refine zG (pc2 := 54) d1_52 rfl rfl ?_
  refine zN (pc2 := 55) d1_54 rfl rfl rfl ?_
  exact zF
theorem own_p14_16 (x : Addr) (z : Addr) (dd : UInt64) :
    zE zM ok0 56 #[oa x, oi 3, oa z, oi 3, oi 3, .val (.double dd), .second] [(.int 4), (.int 3)] 62 #[oa x, oi 3, oa z, oi 3, oi 3, .val (.double dd), .second] [(.int 3), (.ref x)] := by
  refine zV (pc2 := 59) d1_56 rfl (by decide) ?_
  refine zN (pc2 := 60) d1_59 rfl rfl rfl ?_
  refine zG (pc2 := 62) d1_60 rfl rfl ?_
  exact zF
theorem own_p14_17 (x : Addr) (z : Addr) (dd : UInt64) (v64''' : Int32) (hv64''' : (cmpValue (FP.dcmp dd (0 : UInt64)) .l) = v64''') (hb65_3 : ifCond.holds .le v64''' = true) :
    zE zM ok0 63 #[oa x, oi 3, oa z, oi 3, oi 3, .val (.double dd), .second] [(.double dd)] 55 #[oa x, oi 3, oa z, oi 3, oi 4, .val (.double dd), .second] [(.ref x), (.int 4)] := by
  refine zf (v := 0) (pc2 := 64) d1_63 rfl rfl ?_
  refine zT (pc2 := 65) d1_64 rfl (v := v64''') hv64''' ?_
  refine zg (pc' := 76) d1_65 hb65_3 (by decide) (by decide) ?_
  refine zU (pc2 := 79) d1_76 rfl rfl (v := (4 : Int32)) (by decide) (L' := #[oa x, oi 3, oa z, oi 3, oi 4, .val (.double dd), .second]) rfl ?_
  refine zS (pc' := 52) d1_79 (by decide) (by decide) ?_
  refine zG (pc2 := 54) d1_52 rfl rfl ?_
  refine zN (pc2 := 55) d1_54 rfl rfl rfl ?_
  exact zF
set_option maxRecDepth 65536 in
set_option maxHeartbeats 4000000 in
theorem own_q14 (l : Launch) (Z : State) (a0 : Array Value) (hb0 : Heap) (hw : ∀ d ∈ tables_1, d.before a0 Z = true) (x : Addr) (y : Addr) (da db dc dd : UInt64) (hp0 : ifCond.holds .le (cmpValue (FP.dcmp da (0 : UInt64)) .l) = false) (hp1 : ifCond.holds .le (cmpValue (FP.dcmp db (0 : UInt64)) .l) = false) (hp2 : ifCond.holds .le (cmpValue (FP.dcmp dc (0 : UInt64)) .l) = false) (hp3 : ifCond.holds .le (cmpValue (FP.dcmp dd (0 : UInt64)) .l) = true) :
    zl l Z a0 hb0 (⟨"com/example/tangentia/tangentia/flash/StabilityTest", "presentComponents", "([D)[I"⟩ : MethodName) ok0 7 (some (.array .int)) [] ({ frames := 0, cells := 1, slots := 3, locals := 0 } : Room) #[(.ref x)] [(x, zB .double [.double da, .double db, .double dc, .double dd]), (y, zB .int [.int 0, .int 1, .int 2, .int 0])] (fun r cs' => ∃ z, r = some (.ref z) ∧ cs' = [(x, zB .double [.double da, .double db, .double dc, .double dd]), (y, zB .int [.int 0, .int 1, .int 2, .int 0]), (z, zB .int [.int 0, .int 1, .int 2])]) := by
  refine zm (L0 := #[oa x, ou, ou, ou, ou, ou, ou]) (plainFor_of_name zy) (fun m => zAA m x) ?_
  intro p e s m below meth c T0 hx hZ hown hby hml hnm H0
  obtain ⟨v26, hv26⟩ : ∃ z : Int32, (cmpValue (FP.dcmp da (0 : UInt64)) .l) = z := ⟨_, rfl⟩
  obtain ⟨v26', hv26'⟩ : ∃ z : Int32, (cmpValue (FP.dcmp db (0 : UInt64)) .l) = z := ⟨_, rfl⟩
  obtain ⟨v26'', hv26''⟩ : ∃ z : Int32, (cmpValue (FP.dcmp dc (0 : UInt64)) .l) = z := ⟨_, rfl⟩
  obtain ⟨v26''', hv26'''⟩ : ∃ z : Int32, (cmpValue (FP.dcmp dd (0 : UInt64)) .l) = z := ⟨_, rfl⟩
  obtain ⟨Tp14_6, z, Hp14_6, stp14_6⟩ := zh H0 hx hZ (zO hw 1 rfl) (g := (mkF m 44 #[oa x, oi 3, oa x, oi 4, oi 4, .val (.double dd), .second] [(.int 3)])) rfl (hb hby d1_44) rfl (by decide) (cap := 3) (by decide) (by decide) (by decide) (by decide)
  change zK _ _ _ _ _ _ _ _ _ _ _ _ _ _ [(x, zB .double [.double da, .double db, .double dc, .double dd]), (y, zB .int [.int 0, .int 1, .int 2, .int 0]), (z, zB .int [.int 0, .int 0, .int 0])] _ _ at Hp14_6
  obtain ⟨v64, hv64⟩ : ∃ z : Int32, (cmpValue (FP.dcmp da (0 : UInt64)) .l) = z := ⟨_, rfl⟩
  obtain ⟨Tp14_9, Hp14_9, stp14_9⟩ := ze Hp14_6 hx hZ 2 0 rfl (by decide) (Nat.le_of_ble_eq_true rfl) (g := (mkF m 75 #[oa x, oi 3, oa z, oi 1, oi 0, .val (.double dd), .second] [(.int 0), (.int 0), (.ref z)])) rfl rfl (hb hby d1_75)
  change zK _ _ _ _ _ _ _ _ _ _ _ _ _ _ [(x, zB .double [.double da, .double db, .double dc, .double dd]), (y, zB .int [.int 0, .int 1, .int 2, .int 0]), (z, zB .int [.int 0, .int 0, .int 0])] _ _ at Hp14_9
  obtain ⟨v64', hv64'⟩ : ∃ z : Int32, (cmpValue (FP.dcmp db (0 : UInt64)) .l) = z := ⟨_, rfl⟩
  obtain ⟨Tp14_12, Hp14_12, stp14_12⟩ := ze Hp14_9 hx hZ 2 1 rfl (by decide) (Nat.le_of_ble_eq_true rfl) (g := (mkF m 75 #[oa x, oi 3, oa z, oi 2, oi 1, .val (.double dd), .second] [(.int 1), (.int 1), (.ref z)])) rfl rfl (hb hby d1_75)
  change zK _ _ _ _ _ _ _ _ _ _ _ _ _ _ [(x, zB .double [.double da, .double db, .double dc, .double dd]), (y, zB .int [.int 0, .int 1, .int 2, .int 0]), (z, zB .int [.int 0, .int 1, .int 0])] _ _ at Hp14_12
  obtain ⟨v64'', hv64''⟩ : ∃ z : Int32, (cmpValue (FP.dcmp dc (0 : UInt64)) .l) = z := ⟨_, rfl⟩
  obtain ⟨Tp14_15, Hp14_15, stp14_15⟩ := ze Hp14_12 hx hZ 2 2 rfl (by decide) (Nat.le_of_ble_eq_true rfl) (g := (mkF m 75 #[oa x, oi 3, oa z, oi 3, oi 2, .val (.double dd), .second] [(.int 2), (.int 2), (.ref z)])) rfl rfl (hb hby d1_75)
  change zK _ _ _ _ _ _ _ _ _ _ _ _ _ _ [(x, zB .double [.double da, .double db, .double dc, .double dd]), (y, zB .int [.int 0, .int 1, .int 2, .int 0]), (z, zB .int [.int 0, .int 1, .int 2])] _ _ at Hp14_15
  obtain ⟨v64''', hv64'''⟩ : ∃ z : Int32, (cmpValue (FP.dcmp dd (0 : UInt64)) .l) = z := ⟨_, rfl⟩
  have hb27_0 : ifCond.holds .le v26 = false := by rw [← hv26]; exact hp0
  have hb27_1 : ifCond.holds .le v26' = false := by rw [← hv26']; exact hp1
  have hb27_2 : ifCond.holds .le v26'' = false := by rw [← hv26'']; exact hp2
  have hb27_3 : ifCond.holds .le v26''' = true := by rw [← hv26''']; exact hp3
  have hb65_0 : ifCond.holds .le v64 = false := by rw [← hv64]; exact hp0
  have hb65_1 : ifCond.holds .le v64' = false := by rw [← hv64']; exact hp1
  have hb65_2 : ifCond.holds .le v64'' = false := by rw [← hv64'']; exact hp2
  have hb65_3 : ifCond.holds .le v64''' = true := by rw [← hv64''']; exact hp3
  refine ⟨_, _, _, _, 83, #[oa x, oi 3, oa z, oi 3, oi 4, .val (.double dd), .second], Hp14_15, by decide, by decide, Or.inr ⟨(.array .int), (.ref z), [], .areturn, rfl, ⟨z, rfl, rfl⟩, d1_83, zAC _, fun target q => ?_⟩⟩
  refine zA H0 hx hZ hown hby hw zD (zAD x) _ ?_
  refine zP H0 hx hZ 0 rfl (z := (4 : Int32)) rfl (g := (mkF m 5 #[oa x, oi 0, oa x, ou, ou, ou, ou] [(.ref x)])) rfl rfl (hb hby d1_5) _ ?_
  refine zA H0 hx hZ hown hby hw zD (zAE x) _ ?_
  refine zJ H0 hx hZ 0 0 rfl (by decide) rfl (g := (mkF m 19 #[oa x, oi 0, oa x, oi 4, oi 0, ou, ou] [(.int 0), (.ref x)])) rfl rfl (hb hby d1_19) _ ?_
  refine zA H0 hx hZ hown hby hw zD (zAR x da v26 hv26 hb27_0) _ ?_
  refine zJ H0 hx hZ 0 1 rfl (by decide) rfl (g := (mkF m 19 #[oa x, oi 1, oa x, oi 4, oi 1, .val (.double da), .second] [(.int 1), (.ref x)])) rfl rfl (hb hby d1_19) _ ?_
  refine zA H0 hx hZ hown hby hw zD (zBQ x da db v26' hv26' hb27_1) _ ?_
  refine zJ H0 hx hZ 0 2 rfl (by decide) rfl (g := (mkF m 19 #[oa x, oi 2, oa x, oi 4, oi 2, .val (.double db), .second] [(.int 2), (.ref x)])) rfl rfl (hb hby d1_19) _ ?_
  refine zA H0 hx hZ hown hby hw zD (own_p14_4 x db dc v26'' hv26'' hb27_2) _ ?_
  refine zJ H0 hx hZ 0 3 rfl (by decide) rfl (g := (mkF m 19 #[oa x, oi 3, oa x, oi 4, oi 3, .val (.double dc), .second] [(.int 3), (.ref x)])) rfl rfl (hb hby d1_19) _ ?_
  refine zA H0 hx hZ hown hby hw zD (own_p14_5 x dc dd v26''' hv26''' hb27_3) _ ?_
  refine stp14_6 _ ?_
  refine zA Hp14_6 hx hZ hown hby hw zD (zBG x dd z) _ ?_
  refine zP Hp14_6 hx hZ 0 rfl (z := (4 : Int32)) rfl (g := (mkF m 55 #[oa x, oi 3, oa z, oi 0, oi 0, .val (.double dd), .second] [(.ref x), (.int 0)])) rfl rfl (hb hby d1_55) _ ?_
  refine zA Hp14_6 hx hZ hown hby hw zD (zBH x z dd) _ ?_
  refine zJ Hp14_6 hx hZ 0 0 rfl (by decide) rfl (g := (mkF m 62 #[oa x, oi 3, oa z, oi 0, oi 0, .val (.double dd), .second] [(.int 0), (.ref x)])) rfl rfl (hb hby d1_62) _ ?_
  refine zA Hp14_6 hx hZ hown hby hw zD (zCC x z dd da v64 hv64 hb65_0) _ ?_
  refine stp14_9 _ ?_
  refine zA Hp14_9 hx hZ hown hby hw zD (zCD x z dd) _ ?_
  refine zP Hp14_9 hx hZ 0 rfl (z := (4 : Int32)) rfl (g := (mkF m 55 #[oa x, oi 3, oa z, oi 1, oi 1, .val (.double dd), .second] [(.ref x), (.int 1)])) rfl rfl (hb hby d1_55) _ ?_
  refine zA Hp14_9 hx hZ hown hby hw zD (zCE x z dd) _ ?_
  refine zJ Hp14_9 hx hZ 0 1 rfl (by decide) rfl (g := (mkF m 62 #[oa x, oi 3, oa z, oi 1, oi 1, .val (.double dd), .second] [(.int 1), (.ref x)])) rfl rfl (hb hby d1_62) _ ?_
  refine zA Hp14_9 hx hZ hown hby hw zD (own_p13_11 x z dd db v64' hv64' hb65_1) _ ?_
  refine stp14_12 _ ?_
  refine zA Hp14_12 hx hZ hown hby hw zD (own_p13_12 x z dd) _ ?_
  refine zP Hp14_12 hx hZ 0 rfl (z := (4 : Int32)) rfl (g := (mkF m 55 #[oa x, oi 3, oa z, oi 2, oi 2, .val (.double dd), .second] [(.ref x), (.int 2)])) rfl rfl (hb hby d1_55) _ ?_
  refine zA Hp14_12 hx hZ hown hby hw zD (own_p13_13 x z dd) _ ?_
  refine zJ Hp14_12 hx hZ 0 2 rfl (by decide) rfl (g := (mkF m 62 #[oa x, oi 3, oa z, oi 2, oi 2, .val (.double dd), .second] [(.int 2), (.ref x)])) rfl rfl (hb hby d1_62) _ ?_
  refine zA Hp14_12 hx hZ hown hby hw zD (own_p14_14 x z dd dc v64'' hv64'' hb65_2) _ ?_
  refine stp14_15 _ ?_
  refine zA Hp14_15 hx hZ hown hby hw zD (own_p14_15 x z dd) _ ?_
  refine zP Hp14_15 hx hZ 0 rfl (z := (4 : Int32)) rfl (g := (mkF m 55 #[oa x, oi 3, oa z, oi 3, oi 3, .val (.double dd), .second] [(.ref x), (.int 3)])) rfl rfl (hb hby d1_55) _ ?_
  refine zA Hp14_15 hx hZ hown hby hw zD (own_p14_16 x z dd) _ ?_
  refine zJ Hp14_15 hx hZ 0 3 rfl (by decide) rfl (g := (mkF m 62 #[oa x, oi 3, oa z, oi 3, oi 3, .val (.double dd), .second] [(.int 3), (.ref x)])) rfl rfl (hb hby d1_62) _ ?_
  refine zA Hp14_15 hx hZ hown hby hw zD (own_p14_17 x z dd v64''' hv64''' hb65_3) _ ?_
  refine zP Hp14_15 hx hZ 0 rfl (z := (4 : Int32)) rfl (g := (mkF m 55 #[oa x, oi 3, oa z, oi 3, oi 4, .val (.double dd), .second] [(.ref x), (.int 4)])) rfl rfl (hb hby d1_55) _ ?_
  refine zA Hp14_15 hx hZ hown hby hw zD (zBI x z dd) _ ?_
  exact q
theorem own_s14_8 (xa : Int32) (xb : Int32) (xc : Int32) (xd : Int32) (x : Addr) (y : Addr) (hb70 : ifCond.holds .le xc = false) :
    zE zQ code 63 #[oi xa, oi xb, oi xc, oi xd, oa x, oa y, oi 1, ou, ou, ou] [] 78 #[oi xa, oi xb, oi xc, oi xd, oa x, oa y, oi 2, ou, ou, ou] [(.int 2), (.int 2), (.ref y)] := by
  refine zG (pc2 := 65) at_63 rfl rfl ?_
  refine zH (v := 1) (pc2 := 66) at_65 rfl rfl ?_
  refine zk (pc2 := 67) at_66 rfl (v := (2 : Int32)) (by decide) ?_
  refine zi (pc2 := 69) at_67 rfl (L' := #[oi xa, oi xb, oi xc, oi xd, oa x, oa y, oi 2, ou, ou, ou]) rfl ?_
  refine zL (pc2 := 70) at_69 rfl rfl ?_
  refine zW (pc2 := 73) at_70 rfl hb70 ?_
  refine zR (pc2 := 75) at_73 rfl rfl rfl ?_
  refine zG (pc2 := 77) at_75 rfl rfl ?_
  refine zH (v := 2) (pc2 := 78) at_77 rfl rfl ?_
  exact zF
theorem own_s14_9 (xa : Int32) (xb : Int32) (xc : Int32) (xd : Int32) (x : Addr) (y : Addr) (hb86 : ifCond.holds .le xd = true) :
    zE zQ code 79 #[oi xa, oi xb, oi xc, oi xd, oa x, oa y, oi 2, ou, ou, ou] [] 103 #[oi xa, oi xb, oi xc, oi xd, oa x, oa y, oi 3, ou, ou, ou] [(.ref x)] := by
  refine zG (pc2 := 81) at_79 rfl rfl ?_
  refine zH (v := 1) (pc2 := 82) at_81 rfl rfl ?_
  refine zk (pc2 := 83) at_82 rfl (v := (3 : Int32)) (by decide) ?_
  refine zi (pc2 := 85) at_83 rfl (L' := #[oi xa, oi xb, oi xc, oi xd, oa x, oa y, oi 3, ou, ou, ou]) rfl ?_
  refine zL (pc2 := 86) at_85 rfl rfl ?_
  refine zg (pc' := 101) at_86 hb86 (by decide) (by decide) ?_
  refine zR (pc2 := 103) at_101 rfl rfl rfl ?_
  exact zF
theorem own_s14_16 (xa : Int32) (xb : Int32) (xc : Int32) (xd : Int32) (x : Addr) (y : Addr) (z : Addr) :
    zE zQ code 167 #[oi xa, oi xb, oi xc, oi xd, oa x, oa y, oi 3, oa z, ou, ou] [(.int 2)] 170 #[oi xa, oi xb, oi xc, oi xd, oa x, oa y, oi 3, oa z, ou, ou] [(.int 2), (.ref y), (.int 2)] := by
  refine zR (pc2 := 169) at_167 rfl rfl rfl ?_
  refine zH (v := 2) (pc2 := 170) at_169 rfl rfl ?_
  exact zF
theorem own_s14_17 (xa : Int32) (xb : Int32) (xc : Int32) (xd : Int32) (x : Addr) (y : Addr) (z : Addr) :
    zE zQ code 171 #[oi xa, oi xb, oi xc, oi xd, oa x, oa y, oi 3, oa z, ou, ou] [(.int 2), (.int 2)] 201 #[oi xa, oi xb, oi xc, oi xd, oa x, oa y, oi 3, oa z, oi 1, ou] [(.int 0), (.ref x)] := by
  refine zV (pc2 := 174) at_171 rfl (by decide) ?_
  refine zG (pc2 := 176) at_174 rfl rfl ?_
  refine zH (v := 4) (pc2 := 177) at_176 rfl rfl ?_
  refine zj (pc' := 191) at_177 (by decide) (by decide) (by decide) ?_
  refine zH (v := 1) (pc2 := 192) at_191 rfl rfl ?_
  refine zS (pc' := 196) at_192 (by decide) (by decide) ?_
  refine zi (pc2 := 198) at_196 rfl (L' := #[oi xa, oi xb, oi xc, oi xd, oa x, oa y, oi 3, oa z, oi 1, ou]) rfl ?_
  refine zR (pc2 := 200) at_198 rfl rfl rfl ?_
  refine zH (v := 0) (pc2 := 201) at_200 rfl rfl ?_
  exact zF
set_option maxRecDepth 65536 in
set_option maxHeartbeats 40000000 in
theorem own_law14 (l : Launch) (Z : State) (a0 : Array Value) (hb0 : Heap) (hw : ∀ d ∈ tables_1, d.before a0 Z = true) (xa : Int32) (xb : Int32) (xc : Int32) (xd : Int32) (hb38 : ifCond.holds .le xa = false) (hb54 : ifCond.holds .le xb = false) (hb70 : ifCond.holds .le xc = false) (hb86 : ifCond.holds .le xd = true) :
    zl l Z a0 hb0 x code maxLocals ret tables_1 room_1 #[(.int xa), (.int xb), (.int xc), (.int xd)] [] (fun v _ => v = some (.int 1)) := by
  refine zm (L0 := #[oi xa, oi xb, oi xc, oi xd, ou, ou, ou, ou, ou, ou]) (plainFor_of_name zx) (fun m => zAB m xa xb xc xd) ?_
  intro p e s m below meth c T0 hx hZ hown hby hml hnm H0
  have hown : s.vm.findClass "com/example/tangentia/tangentia/flash/StabilityTestPresentComponentsPinLaw" = some m.cls := hown
  have hml : c.maxLocals = 10 := hml
  obtain ⟨Ts14_1, x, Hs14_1, sts14_1⟩ := zh H0 hx hZ (zO hw 0 rfl) (g := (mkF m 1 #[oi xa, oi xb, oi xc, oi xd, ou, ou, ou, ou, ou, ou] [(.int 4)])) rfl (hb hby at_1) rfl (by decide) (cap := 4) (by decide) (by decide) (by decide) (by decide)
  change zK _ _ _ _ _ _ _ _ _ _ _ _ _ _ [(x, zB .double [.double 0, .double 0, .double 0, .double 0])] _ _ at Hs14_1
  obtain ⟨v9, hv9⟩ : ∃ z : UInt64, (FP.i2d xa) = z := ⟨_, rfl⟩
  obtain ⟨Ts14_2, Hs14_2, sts14_2⟩ := zd Hs14_1 hx hZ 0 0 rfl (by decide) (Nat.le_of_ble_eq_true rfl) (g := (mkF m 10 #[oi xa, oi xb, oi xc, oi xd, oa x, ou, ou, ou, ou, ou] [(.double v9), (.int 0), (.ref x)])) rfl rfl (hb hby at_10)
  change zK _ _ _ _ _ _ _ _ _ _ _ _ _ _ [(x, zB .double [.double v9, .double 0, .double 0, .double 0])] _ _ at Hs14_2
  obtain ⟨v15, hv15⟩ : ∃ z : UInt64, (FP.i2d xb) = z := ⟨_, rfl⟩
  obtain ⟨Ts14_3, Hs14_3, sts14_3⟩ := zd Hs14_2 hx hZ 0 1 rfl (by decide) (Nat.le_of_ble_eq_true rfl) (g := (mkF m 16 #[oi xa, oi xb, oi xc, oi xd, oa x, ou, ou, ou, ou, ou] [(.double v15), (.int 1), (.ref x)])) rfl rfl (hb hby at_16)
  change zK _ _ _ _ _ _ _ _ _ _ _ _ _ _ [(x, zB .double [.double v9, .double v15, .double 0, .double 0])] _ _ at Hs14_3
  obtain ⟨v21, hv21⟩ : ∃ z : UInt64, (FP.i2d xc) = z := ⟨_, rfl⟩
  obtain ⟨Ts14_4, Hs14_4, sts14_4⟩ := zd Hs14_3 hx hZ 0 2 rfl (by decide) (Nat.le_of_ble_eq_true rfl) (g := (mkF m 22 #[oi xa, oi xb, oi xc, oi xd, oa x, ou, ou, ou, ou, ou] [(.double v21), (.int 2), (.ref x)])) rfl rfl (hb hby at_22)
  change zK _ _ _ _ _ _ _ _ _ _ _ _ _ _ [(x, zB .double [.double v9, .double v15, .double v21, .double 0])] _ _ at Hs14_4
  obtain ⟨v27, hv27⟩ : ∃ z : UInt64, (FP.i2d xd) = z := ⟨_, rfl⟩
  obtain ⟨Ts14_5, Hs14_5, sts14_5⟩ := zd Hs14_4 hx hZ 0 3 rfl (by decide) (Nat.le_of_ble_eq_true rfl) (g := (mkF m 28 #[oi xa, oi xb, oi xc, oi xd, oa x, ou, ou, ou, ou, ou] [(.double v27), (.int 3), (.ref x)])) rfl rfl (hb hby at_28)
  change zK _ _ _ _ _ _ _ _ _ _ _ _ _ _ [(x, zB .double [.double v9, .double v15, .double v21, .double v27])] _ _ at Hs14_5
  obtain ⟨Ts14_6, y, Hs14_6, sts14_6⟩ := zh Hs14_5 hx hZ (zO hw 1 rfl) (g := (mkF m 30 #[oi xa, oi xb, oi xc, oi xd, oa x, ou, ou, ou, ou, ou] [(.int 4)])) rfl (hb hby at_30) rfl (by decide) (cap := 4) (by decide) (by decide) (by decide) (by decide)
  change zK _ _ _ _ _ _ _ _ _ _ _ _ _ _ [(x, zB .double [.double v9, .double v15, .double v21, .double v27]), (y, zB .int [.int 0, .int 0, .int 0, .int 0])] _ _ at Hs14_6
  obtain ⟨Ts14_7, Hs14_7, sts14_7⟩ := ze Hs14_6 hx hZ 1 0 rfl (by decide) (Nat.le_of_ble_eq_true rfl) (g := (mkF m 46 #[oi xa, oi xb, oi xc, oi xd, oa x, oa y, oi 0, ou, ou, ou] [(.int 0), (.int 0), (.ref y)])) rfl rfl (hb hby at_46)
  change zK _ _ _ _ _ _ _ _ _ _ _ _ _ _ [(x, zB .double [.double v9, .double v15, .double v21, .double v27]), (y, zB .int [.int 0, .int 0, .int 0, .int 0])] _ _ at Hs14_7
  obtain ⟨Ts14_8, Hs14_8, sts14_8⟩ := ze Hs14_7 hx hZ 1 1 rfl (by decide) (Nat.le_of_ble_eq_true rfl) (g := (mkF m 62 #[oi xa, oi xb, oi xc, oi xd, oa x, oa y, oi 1, ou, ou, ou] [(.int 1), (.int 1), (.ref y)])) rfl rfl (hb hby at_62)
  change zK _ _ _ _ _ _ _ _ _ _ _ _ _ _ [(x, zB .double [.double v9, .double v15, .double v21, .double v27]), (y, zB .int [.int 0, .int 1, .int 0, .int 0])] _ _ at Hs14_8
  obtain ⟨Ts14_9, Hs14_9, sts14_9⟩ := ze Hs14_8 hx hZ 1 2 rfl (by decide) (Nat.le_of_ble_eq_true rfl) (g := (mkF m 78 #[oi xa, oi xb, oi xc, oi xd, oa x, oa y, oi 2, ou, ou, ou] [(.int 2), (.int 2), (.ref y)])) rfl rfl (hb hby at_78)
  change zK _ _ _ _ _ _ _ _ _ _ _ _ _ _ [(x, zB .double [.double v9, .double v15, .double v21, .double v27]), (y, zB .int [.int 0, .int 1, .int 2, .int 0])] _ _ at Hs14_9
  have hp0 : ifCond.holds .le (cmpValue (FP.dcmp v9 (0 : UInt64)) .l) = false := by rw [← hv9, zY (zI xa) zX]; exact zn hb38
  have hp1 : ifCond.holds .le (cmpValue (FP.dcmp v15 (0 : UInt64)) .l) = false := by rw [← hv15, zY (zI xb) zX]; exact zn hb54
  have hp2 : ifCond.holds .le (cmpValue (FP.dcmp v21 (0 : UInt64)) .l) = false := by rw [← hv21, zY (zI xc) zX]; exact zn hb70
  have hp3 : ifCond.holds .le (cmpValue (FP.dcmp v27 (0 : UInt64)) .l) = true := by rw [← hv27, zY (zI xd) zX]; exact zo hb86
  obtain ⟨Ts14_10, vs14_10_, css14_10_, qs14_10, Hs14_10, sts14_10⟩ := zw Hs14_9 hx hZ hown (zO hw 2 rfl) (zO hw 3 rfl) (zO hw 4 rfl) (zO hw 5 rfl) (by decide) (argsL := [(.ref x)]) (rest := []) (W := 0) (own_q14 l Z a0 hb0 hw x y v9 v15 v21 v27 hp0 hp1 hp2 hp3) (by decide) (by decide) (by decide) (by decide) (g := (mkF m 103 #[oi xa, oi xb, oi xc, oi xd, oa x, oa y, oi 3, ou, ou, ou] [(.ref x)])) rfl (by rw [hml]; rfl) (lenOf zz rfl) rfl (by show 2 * 0 + _ ≤ _; exact Nat.le_of_eq rfl) (hb hby at_103)
  obtain ⟨z, rfl, rfl⟩ := qs14_10
  obtain ⟨v203, hv203⟩ : ∃ z : UInt64, (FP.i2d xa) = z := ⟨_, rfl⟩
  obtain ⟨v204, hv204⟩ : ∃ z : Int32, (cmpValue (FP.dcmp v9 v203) .l) = z := ⟨_, rfl⟩
  obtain ⟨v213, hv213⟩ : ∃ z : UInt64, (FP.i2d xb) = z := ⟨_, rfl⟩
  obtain ⟨v214, hv214⟩ : ∃ z : Int32, (cmpValue (FP.dcmp v15 v213) .l) = z := ⟨_, rfl⟩
  obtain ⟨v223, hv223⟩ : ∃ z : UInt64, (FP.i2d xc) = z := ⟨_, rfl⟩
  obtain ⟨v224, hv224⟩ : ∃ z : Int32, (cmpValue (FP.dcmp v21 v223) .l) = z := ⟨_, rfl⟩
  obtain ⟨v233, hv233⟩ : ∃ z : UInt64, (FP.i2d xd) = z := ⟨_, rfl⟩
  obtain ⟨v234, hv234⟩ : ∃ z : Int32, (cmpValue (FP.dcmp v27 v233) .l) = z := ⟨_, rfl⟩
  have hb205 : ifCond.holds .ne v204 = false := by rw [← hv204, ← hv203, ← hv9, zZ (zI xa) (zI xa)]; simp
  have hb215 : ifCond.holds .ne v214 = false := by rw [← hv214, ← hv213, ← hv15, zZ (zI xb) (zI xb)]; simp
  have hb225 : ifCond.holds .ne v224 = false := by rw [← hv224, ← hv223, ← hv21, zZ (zI xc) (zI xc)]; simp
  have hb235 : ifCond.holds .ne v234 = false := by rw [← hv234, ← hv233, ← hv27, zZ (zI xd) (zI xd)]; simp
  refine ⟨_, _, _, _, 260, #[oi xa, oi xb, oi xc, oi xd, oa x, oa y, oi 3, oa z, oi 1, oi 1], Hs14_10, by decide, by decide, Or.inr ⟨.boolean, (.int 1), [], .ireturn, rfl, rfl, at_260, zv (Or.inr rfl), fun target q => ?_⟩⟩
  refine zA H0 hx hZ hown hby hw zC (zAF xa xb xc xd) _ ?_
  refine sts14_1 _ ?_
  refine zA Hs14_1 hx hZ hown hby hw zC (zAG xa xb xc xd x v9 hv9) _ ?_
  refine sts14_2 _ ?_
  refine zA Hs14_2 hx hZ hown hby hw zC (zAH xa xb xc xd x v15 hv15) _ ?_
  refine sts14_3 _ ?_
  refine zA Hs14_3 hx hZ hown hby hw zC (zAI xa xb xc xd x v21 hv21) _ ?_
  refine sts14_4 _ ?_
  refine zA Hs14_4 hx hZ hown hby hw zC (zAJ xa xb xc xd x v27 hv27) _ ?_
  refine sts14_5 _ ?_
  refine zA Hs14_5 hx hZ hown hby hw zC (zAK xa xb xc xd x) _ ?_
  refine sts14_6 _ ?_
  refine zA Hs14_6 hx hZ hown hby hw zC (zAS xa xb xc xd x y hb38) _ ?_
  refine sts14_7 _ ?_
  refine zA Hs14_7 hx hZ hown hby hw zC (zBR xa xb xc xd x y hb54) _ ?_
  refine sts14_8 _ ?_
  refine zA Hs14_8 hx hZ hown hby hw zC (own_s14_8 xa xb xc xd x y hb70) _ ?_
  refine sts14_9 _ ?_
  refine zA Hs14_9 hx hZ hown hby hw zC (own_s14_9 xa xb xc xd x y hb86) _ ?_
  refine sts14_10 _ ?_
  refine zA Hs14_10 hx hZ hown hby hw zC (zBJ xa xb xc xd x y z) _ ?_
  refine zP Hs14_10 hx hZ 2 rfl (z := (3 : Int32)) rfl (g := (mkF m 115 #[oi xa, oi xb, oi xc, oi xd, oa x, oa y, oi 3, oa z, ou, ou] [(.ref z)])) rfl rfl (hb hby at_115) _ ?_
  refine zA Hs14_10 hx hZ hown hby hw zC (zBK xa xb xc xd x y z) _ ?_
  refine zb Hs14_10 hx hZ 2 0 rfl (by decide) rfl (g := (mkF m 132 #[oi xa, oi xb, oi xc, oi xd, oa x, oa y, oi 3, oa z, ou, ou] [(.int 0), (.ref z)])) rfl rfl (hb hby at_132) _ ?_
  refine zA Hs14_10 hx hZ hown hby hw zC (zCF xa xb xc xd x y z) _ ?_
  refine zb Hs14_10 hx hZ 1 0 rfl (by decide) rfl (g := (mkF m 136 #[oi xa, oi xb, oi xc, oi xd, oa x, oa y, oi 3, oa z, ou, ou] [(.int 0), (.ref y), (.int 0)])) rfl rfl (hb hby at_136) _ ?_
  refine zA Hs14_10 hx hZ hown hby hw zC (zCG xa xb xc xd x y z) _ ?_
  refine zb Hs14_10 hx hZ 2 1 rfl (by decide) rfl (g := (mkF m 149 #[oi xa, oi xb, oi xc, oi xd, oa x, oa y, oi 3, oa z, ou, ou] [(.int 1), (.ref z)])) rfl rfl (hb hby at_149) _ ?_
  refine zA Hs14_10 hx hZ hown hby hw zC (own_s13_14 xa xb xc xd x y z) _ ?_
  refine zb Hs14_10 hx hZ 1 1 rfl (by decide) rfl (g := (mkF m 153 #[oi xa, oi xb, oi xc, oi xd, oa x, oa y, oi 3, oa z, ou, ou] [(.int 1), (.ref y), (.int 1)])) rfl rfl (hb hby at_153) _ ?_
  refine zA Hs14_10 hx hZ hown hby hw zC (own_s13_15 xa xb xc xd x y z) _ ?_
  refine zb Hs14_10 hx hZ 2 2 rfl (by decide) rfl (g := (mkF m 166 #[oi xa, oi xb, oi xc, oi xd, oa x, oa y, oi 3, oa z, ou, ou] [(.int 2), (.ref z)])) rfl rfl (hb hby at_166) _ ?_
  refine zA Hs14_10 hx hZ hown hby hw zC (own_s14_16 xa xb xc xd x y z) _ ?_
  refine zb Hs14_10 hx hZ 1 2 rfl (by decide) rfl (g := (mkF m 170 #[oi xa, oi xb, oi xc, oi xd, oa x, oa y, oi 3, oa z, ou, ou] [(.int 2), (.ref y), (.int 2)])) rfl rfl (hb hby at_170) _ ?_
  refine zA Hs14_10 hx hZ hown hby hw zC (own_s14_17 xa xb xc xd x y z) _ ?_
  refine zJ Hs14_10 hx hZ 0 0 rfl (by decide) rfl (g := (mkF m 201 #[oi xa, oi xb, oi xc, oi xd, oa x, oa y, oi 3, oa z, oi 1, ou] [(.int 0), (.ref x)])) rfl rfl (hb hby at_201) _ ?_
  refine zA Hs14_10 hx hZ hown hby hw zC (zBL xa xb xc xd x y z v9 v203 hv203 v204 hv204 hb205) _ ?_
  refine zJ Hs14_10 hx hZ 0 1 rfl (by decide) rfl (g := (mkF m 211 #[oi xa, oi xb, oi xc, oi xd, oa x, oa y, oi 3, oa z, oi 1, ou] [(.int 1), (.ref x)])) rfl rfl (hb hby at_211) _ ?_
  refine zA Hs14_10 hx hZ hown hby hw zC (zBM xa xb xc xd x y z v15 v213 hv213 v214 hv214 hb215) _ ?_
  refine zJ Hs14_10 hx hZ 0 2 rfl (by decide) rfl (g := (mkF m 221 #[oi xa, oi xb, oi xc, oi xd, oa x, oa y, oi 3, oa z, oi 1, ou] [(.int 2), (.ref x)])) rfl rfl (hb hby at_221) _ ?_
  refine zA Hs14_10 hx hZ hown hby hw zC (zBN xa xb xc xd x y z v21 v223 hv223 v224 hv224 hb225) _ ?_
  refine zJ Hs14_10 hx hZ 0 3 rfl (by decide) rfl (g := (mkF m 231 #[oi xa, oi xb, oi xc, oi xd, oa x, oa y, oi 3, oa z, oi 1, ou] [(.int 3), (.ref x)])) rfl rfl (hb hby at_231) _ ?_
  refine zA Hs14_10 hx hZ hown hby hw zC (zBO xa xb xc xd x y z v27 v233 hv233 v234 hv234 hb235) _ ?_
  exact q
theorem own_p15_5 (x : Addr) (dc : UInt64) (dd : UInt64) (v26''' : Int32) (hv26''' : (cmpValue (FP.dcmp dd (0 : UInt64)) .l) = v26''') (hb27_3 : ifCond.holds .le v26''' = false) :
    zE zM ok0 20 #[oa x, oi 3, oa x, oi 4, oi 3, .val (.double dc), .second] [(.double dd)] 44 #[oa x, oi 4, oa x, oi 4, oi 4, .val (.double dd), .second] [(.int 4)] := by
  refine zt (pc2 := 22) d1_20 rfl (L' := #[oa x, oi 3, oa x, oi 4, oi 3, .val (.double dd), .second]) rfl ?_
  refine zL (pc2 := 23) d1_22 rfl rfl ?_
  refine zs (pc2 := 25) d1_23 rfl rfl ?_
  refine zf (v := 0) (pc2 := 26) d1_25 rfl rfl ?_
  refine zT (pc2 := 27) d1_26 rfl (v := v26''') hv26''' ?_
  refine zW (pc2 := 30) d1_27 rfl hb27_3 ?_
  refine zH (v := 1) (pc2 := 31) d1_30 rfl rfl ?_
  refine zS (pc' := 35) d1_31 (by decide) (by decide) ?_
  refine zk (pc2 := 36) d1_35 rfl (v := (4 : Int32)) (by decide) ?_
  refine zq (pc2 := 37) d1_36 rfl (L' := #[oa x, oi 4, oa x, oi 4, oi 3, .val (.double dd), .second]) rfl ?_
  refine zU (pc2 := 40) d1_37 rfl rfl (v := (4 : Int32)) (by decide) (L' := #[oa x, oi 4, oa x, oi 4, oi 4, .val (.double dd), .second]) rfl ?_
  refine zS (pc' := 10) d1_40 (by decide) (by decide) ?_
  refine zG (pc2 := 12) d1_10 rfl rfl ?_
  refine zL (pc2 := 13) d1_12 rfl rfl ?_
  refine zj (pc' := 43) d1_13 (by decide) (by decide) (by decide) ?_
  refine zL (pc2 := 44) d1_43 rfl rfl ?_
  exact zF
theorem own_p15_6 (x : Addr) (dd : UInt64) (z : Addr) :
    zE zM ok0 46 #[oa x, oi 4, oa x, oi 4, oi 4, .val (.double dd), .second] [(.ref z)] 55 #[oa x, oi 4, oa z, oi 0, oi 0, .val (.double dd), .second] [(.ref x), (.int 0)] := by
  refine zAW (pc2 := 47) d1_46 rfl rfl (L' := #[oa x, oi 4, oa z, oi 4, oi 4, .val (.double dd), .second]) rfl ?_
  refine zH (v := 0) (pc2 := 48) d1_47 rfl rfl ?_
  refine zq (pc2 := 49) d1_48 rfl (L' := #[oa x, oi 4, oa z, oi 0, oi 4, .val (.double dd), .second]) rfl ?_
  refine zH (v := 0) (pc2 := 50) d1_49 rfl rfl ?_
  refine zi (pc2 := 52) d1_50 rfl (L' := #[oa x, oi 4, oa z, oi 0, oi 0, .val (.double dd), .second]) rfl ?_
  refine zG (pc2 := 54) d1_52 rfl rfl ?_
  refine zN (pc2 := 55) d1_54 rfl rfl rfl ?_
  exact zF
theorem own_p15_7 (x : Addr) (z : Addr) (dd : UInt64) :
    zE zM ok0 56 #[oa x, oi 4, oa z, oi 0, oi 0, .val (.double dd), .second] [(.int 4), (.int 0)] 62 #[oa x, oi 4, oa z, oi 0, oi 0, .val (.double dd), .second] [(.int 0), (.ref x)] := by
  refine zV (pc2 := 59) d1_56 rfl (by decide) ?_
  refine zN (pc2 := 60) d1_59 rfl rfl rfl ?_
  refine zG (pc2 := 62) d1_60 rfl rfl ?_
  exact zF
theorem own_p15_8 (x : Addr) (z : Addr) (dd : UInt64) (da : UInt64) (v64 : Int32) (hv64 : (cmpValue (FP.dcmp da (0 : UInt64)) .l) = v64) (hb65_0 : ifCond.holds .le v64 = false) :
    zE zM ok0 63 #[oa x, oi 4, oa z, oi 0, oi 0, .val (.double dd), .second] [(.double da)] 75 #[oa x, oi 4, oa z, oi 1, oi 0, .val (.double dd), .second] [(.int 0), (.int 0), (.ref z)] := by
  refine zf (v := 0) (pc2 := 64) d1_63 rfl rfl ?_
  refine zT (pc2 := 65) d1_64 rfl (v := v64) hv64 ?_
  refine zW (pc2 := 68) d1_65 rfl hb65_0 ?_
  refine zN (pc2 := 69) d1_68 rfl rfl rfl ?_
  refine zL (pc2 := 70) d1_69 rfl rfl ?_
  refine zU (pc2 := 73) d1_70 rfl rfl (v := (1 : Int32)) (by decide) (L' := #[oa x, oi 4, oa z, oi 1, oi 0, .val (.double dd), .second]) rfl ?_
  refine zG (pc2 := 75) d1_73 rfl rfl ?_
  exact zF
theorem own_p15_9 (x : Addr) (z : Addr) (dd : UInt64) :
    zE zM ok0 76 #[oa x, oi 4, oa z, oi 1, oi 0, .val (.double dd), .second] [] 55 #[oa x, oi 4, oa z, oi 1, oi 1, .val (.double dd), .second] [(.ref x), (.int 1)] := by
  refine zU (pc2 := 79) d1_76 rfl rfl (v := (1 : Int32)) (by decide) (L' := #[oa x, oi 4, oa z, oi 1, oi 1, .val (.double dd), .second]) rfl ?_
  refine zS (pc' := 52) d1_79 (by decide) (by decide) ?_
  refine zG (pc2 := 54) d1_52 rfl rfl ?_
  refine zN (pc2 := 55) d1_54 rfl rfl rfl ?_
  exact zF
theorem own_p15_10 (x : Addr) (z : Addr) (dd : UInt64) :
    zE zM ok0 56 #[oa x, oi 4, oa z, oi 1, oi 1, .val (.double dd), .second] [(.int 4), (.int 1)] 62 #[oa x, oi 4, oa z, oi 1, oi 1, .val (.double dd), .second] [(.int 1), (.ref x)] := by
  refine zV (pc2 := 59) d1_56 rfl (by decide) ?_
  refine zN (pc2 := 60) d1_59 rfl rfl rfl ?_
  refine zG (pc2 := 62) d1_60 rfl rfl ?_
  exact zF
theorem own_p15_11 (x : Addr) (z : Addr) (dd : UInt64) (db : UInt64) (v64' : Int32) (hv64' : (cmpValue (FP.dcmp db (0 : UInt64)) .l) = v64') (hb65_1 : ifCond.holds .le v64' = false) :
    zE zM ok0 63 #[oa x, oi 4, oa z, oi 1, oi 1, .val (.double dd), .second] [(.double db)] 75 #[oa x, oi 4, oa z, oi 2, oi 1, .val (.double dd), .second] [(.int 1), (.int 1), (.ref z)] := by
  refine zf (v := 0) (pc2 := 64) d1_63 rfl rfl ?_
  refine zT (pc2 := 65) d1_64 rfl (v := v64') hv64' ?_
  refine zW (pc2 := 68) d1_65 rfl hb65_1 ?_
  refine zN (pc2 := 69) d1_68 rfl rfl rfl ?_
  refine zL (pc2 := 70) d1_69 rfl rfl ?_
  refine zU (pc2 := 73) d1_70 rfl rfl (v := (2 : Int32)) (by decide) (L' := #[oa x, oi 4, oa z, oi 2, oi 1, .val (.double dd), .second]) rfl ?_
  refine zG (pc2 := 75) d1_73 rfl rfl ?_
  exact zF
theorem own_p15_12 (x : Addr) (z : Addr) (dd : UInt64) :
    zE zM ok0 76 #[oa x, oi 4, oa z, oi 2, oi 1, .val (.double dd), .second] [] 55 #[oa x, oi 4, oa z, oi 2, oi 2, .val (.double dd), .second] [(.ref x), (.int 2)] := by
  refine zU (pc2 := 79) d1_76 rfl rfl (v := (2 : Int32)) (by decide) (L' := #[oa x, oi 4, oa z, oi 2, oi 2, .val (.double dd), .second]) rfl ?_
  refine zS (pc' := 52) d1_79 (by decide) (by decide) ?_
  refine zG (pc2 := 54) d1_52 rfl rfl ?_
  refine zN (pc2 := 55) d1_54 rfl rfl rfl ?_
  exact zF
theorem own_p15_13 (x : Addr) (z : Addr) (dd : UInt64) :
    zE zM ok0 56 #[oa x, oi 4, oa z, oi 2, oi 2, .val (.double dd), .second] [(.int 4), (.int 2)] 62 #[oa x, oi 4, oa z, oi 2, oi 2, .val (.double dd), .second] [(.int 2), (.ref x)] := by
  refine zV (pc2 := 59) d1_56 rfl (by decide) ?_
  refine zN (pc2 := 60) d1_59 rfl rfl rfl ?_
  refine zG (pc2 := 62) d1_60 rfl rfl ?_
  exact zF
theorem own_p15_14 (x : Addr) (z : Addr) (dd : UInt64) (dc : UInt64) (v64'' : Int32) (hv64'' : (cmpValue (FP.dcmp dc (0 : UInt64)) .l) = v64'') (hb65_2 : ifCond.holds .le v64'' = false) :
    zE zM ok0 63 #[oa x, oi 4, oa z, oi 2, oi 2, .val (.double dd), .second] [(.double dc)] 75 #[oa x, oi 4, oa z, oi 3, oi 2, .val (.double dd), .second] [(.int 2), (.int 2), (.ref z)] := by
  refine zf (v := 0) (pc2 := 64) d1_63 rfl rfl ?_
  refine zT (pc2 := 65) d1_64 rfl (v := v64'') hv64'' ?_
  refine zW (pc2 := 68) d1_65 rfl hb65_2 ?_
  refine zN (pc2 := 69) d1_68 rfl rfl rfl ?_
  refine zL (pc2 := 70) d1_69 rfl rfl ?_
  refine zU (pc2 := 73) d1_70 rfl rfl (v := (3 : Int32)) (by decide) (L' := #[oa x, oi 4, oa z, oi 3, oi 2, .val (.double dd), .second]) rfl ?_
  refine zG (pc2 := 75) d1_73 rfl rfl ?_
  exact zF
theorem own_p15_15 (x : Addr) (z : Addr) (dd : UInt64) :
    zE zM ok0 76 #[oa x, oi 4, oa z, oi 3, oi 2, .val (.double dd), .second] [] 55 #[oa x, oi 4, oa z, oi 3, oi 3, .val (.double dd), .second] [(.ref x), (.int 3)] := by
  refine zU (pc2 := 79) d1_76 rfl rfl (v := (3 : Int32)) (by decide) (L' := #[oa x, oi 4, oa z, oi 3, oi 3, .val (.double dd), .second]) rfl ?_
  refine zS (pc' := 52) d1_79 (by decide) (by decide) ?_
  refine zG (pc2 := 54) d1_52 rfl rfl ?_
  refine zN (pc2 := 55) d1_54 rfl rfl rfl ?_
  exact zF
theorem own_p15_16 (x : Addr) (z : Addr) (dd : UInt64) :
    zE zM ok0 56 #[oa x, oi 4, oa z, oi 3, oi 3, .val (.double dd), .second] [(.int 4), (.int 3)] 62 #[oa x, oi 4, oa z, oi 3, oi 3, .val (.double dd), .second] [(.int 3), (.ref x)] := by
  refine zV (pc2 := 59) d1_56 rfl (by decide) ?_
  refine zN (pc2 := 60) d1_59 rfl rfl rfl ?_
  refine zG (pc2 := 62) d1_60 rfl rfl ?_
  exact zF
theorem own_p15_17 (x : Addr) (z : Addr) (dd : UInt64) (v64''' : Int32) (hv64''' : (cmpValue (FP.dcmp dd (0 : UInt64)) .l) = v64''') (hb65_3 : ifCond.holds .le v64''' = false) :
    zE zM ok0 63 #[oa x, oi 4, oa z, oi 3, oi 3, .val (.double dd), .second] [(.double dd)] 75 #[oa x, oi 4, oa z, oi 4, oi 3, .val (.double dd), .second] [(.int 3), (.int 3), (.ref z)] := by
  refine zf (v := 0) (pc2 := 64) d1_63 rfl rfl ?_
  refine zT (pc2 := 65) d1_64 rfl (v := v64''') hv64''' ?_
  refine zW (pc2 := 68) d1_65 rfl hb65_3 ?_
  refine zN (pc2 := 69) d1_68 rfl rfl rfl ?_
  refine zL (pc2 := 70) d1_69 rfl rfl ?_
  refine zU (pc2 := 73) d1_70 rfl rfl (v := (4 : Int32)) (by decide) (L' := #[oa x, oi 4, oa z, oi 4, oi 3, .val (.double dd), .second]) rfl ?_
  refine zG (pc2 := 75) d1_73 rfl rfl ?_
  exact zF
theorem own_p15_18 (x : Addr) (z : Addr) (dd : UInt64) :
    zE zM ok0 76 #[oa x, oi 4, oa z, oi 4, oi 3, .val (.double dd), .second] [] 55 #[oa x, oi 4, oa z, oi 4, oi 4, .val (.double dd), .second] [(.ref x), (.int 4)] := by
  refine zU (pc2 := 79) d1_76 rfl rfl (v := (4 : Int32)) (by decide) (L' := #[oa x, oi 4, oa z, oi 4, oi 4, .val (.double dd), .second]) rfl ?_
  refine zS (pc' := 52) d1_79 (by decide) (by decide) ?_
  refine zG (pc2 := 54) d1_52 rfl rfl ?_
  refine zN (pc2 := 55) d1_54 rfl rfl rfl ?_
  exact zF
theorem own_p15_19 (x : Addr) (z : Addr) (dd : UInt64) :
    zE zM ok0 56 #[oa x, oi 4, oa z, oi 4, oi 4, .val (.double dd), .second] [(.int 4), (.int 4)] 83 #[oa x, oi 4, oa z, oi 4, oi 4, .val (.double dd), .second] [(.ref z)] := by
  refine zj (pc' := 82) d1_56 (by decide) (by decide) (by decide) ?_
  refine zN (pc2 := 83) d1_82 rfl rfl rfl ?_
  exact zF
set_option maxRecDepth 65536 in
set_option maxHeartbeats 4000000 in
theorem own_q15 (l : Launch) (Z : State) (a0 : Array Value) (hb0 : Heap) (hw : ∀ d ∈ tables_1, d.before a0 Z = true) (x : Addr) (y : Addr) (da db dc dd : UInt64) (hp0 : ifCond.holds .le (cmpValue (FP.dcmp da (0 : UInt64)) .l) = false) (hp1 : ifCond.holds .le (cmpValue (FP.dcmp db (0 : UInt64)) .l) = false) (hp2 : ifCond.holds .le (cmpValue (FP.dcmp dc (0 : UInt64)) .l) = false) (hp3 : ifCond.holds .le (cmpValue (FP.dcmp dd (0 : UInt64)) .l) = false) :
    zl l Z a0 hb0 (⟨"com/example/tangentia/tangentia/flash/StabilityTest", "presentComponents", "([D)[I"⟩ : MethodName) ok0 7 (some (.array .int)) [] ({ frames := 0, cells := 1, slots := 4, locals := 0 } : Room) #[(.ref x)] [(x, zB .double [.double da, .double db, .double dc, .double dd]), (y, zB .int [.int 0, .int 1, .int 2, .int 3])] (fun r cs' => ∃ z, r = some (.ref z) ∧ cs' = [(x, zB .double [.double da, .double db, .double dc, .double dd]), (y, zB .int [.int 0, .int 1, .int 2, .int 3]), (z, zB .int [.int 0, .int 1, .int 2, .int 3])]) := by
  refine zm (L0 := #[oa x, ou, ou, ou, ou, ou, ou]) (plainFor_of_name zy) (fun m => zAA m x) ?_
  intro p e s m below meth c T0 hx hZ hown hby hml hnm H0
  obtain ⟨v26, hv26⟩ : ∃ z : Int32, (cmpValue (FP.dcmp da (0 : UInt64)) .l) = z := ⟨_, rfl⟩
  obtain ⟨v26', hv26'⟩ : ∃ z : Int32, (cmpValue (FP.dcmp db (0 : UInt64)) .l) = z := ⟨_, rfl⟩
  obtain ⟨v26'', hv26''⟩ : ∃ z : Int32, (cmpValue (FP.dcmp dc (0 : UInt64)) .l) = z := ⟨_, rfl⟩
  obtain ⟨v26''', hv26'''⟩ : ∃ z : Int32, (cmpValue (FP.dcmp dd (0 : UInt64)) .l) = z := ⟨_, rfl⟩
  obtain ⟨Tp15_6, z, Hp15_6, stp15_6⟩ := zh H0 hx hZ (zO hw 1 rfl) (g := (mkF m 44 #[oa x, oi 4, oa x, oi 4, oi 4, .val (.double dd), .second] [(.int 4)])) rfl (hb hby d1_44) rfl (by decide) (cap := 4) (by decide) (by decide) (by decide) (by decide)
  change zK _ _ _ _ _ _ _ _ _ _ _ _ _ _ [(x, zB .double [.double da, .double db, .double dc, .double dd]), (y, zB .int [.int 0, .int 1, .int 2, .int 3]), (z, zB .int [.int 0, .int 0, .int 0, .int 0])] _ _ at Hp15_6
  obtain ⟨v64, hv64⟩ : ∃ z : Int32, (cmpValue (FP.dcmp da (0 : UInt64)) .l) = z := ⟨_, rfl⟩
  obtain ⟨Tp15_9, Hp15_9, stp15_9⟩ := ze Hp15_6 hx hZ 2 0 rfl (by decide) (Nat.le_of_ble_eq_true rfl) (g := (mkF m 75 #[oa x, oi 4, oa z, oi 1, oi 0, .val (.double dd), .second] [(.int 0), (.int 0), (.ref z)])) rfl rfl (hb hby d1_75)
  change zK _ _ _ _ _ _ _ _ _ _ _ _ _ _ [(x, zB .double [.double da, .double db, .double dc, .double dd]), (y, zB .int [.int 0, .int 1, .int 2, .int 3]), (z, zB .int [.int 0, .int 0, .int 0, .int 0])] _ _ at Hp15_9
  obtain ⟨v64', hv64'⟩ : ∃ z : Int32, (cmpValue (FP.dcmp db (0 : UInt64)) .l) = z := ⟨_, rfl⟩
  obtain ⟨Tp15_12, Hp15_12, stp15_12⟩ := ze Hp15_9 hx hZ 2 1 rfl (by decide) (Nat.le_of_ble_eq_true rfl) (g := (mkF m 75 #[oa x, oi 4, oa z, oi 2, oi 1, .val (.double dd), .second] [(.int 1), (.int 1), (.ref z)])) rfl rfl (hb hby d1_75)
  change zK _ _ _ _ _ _ _ _ _ _ _ _ _ _ [(x, zB .double [.double da, .double db, .double dc, .double dd]), (y, zB .int [.int 0, .int 1, .int 2, .int 3]), (z, zB .int [.int 0, .int 1, .int 0, .int 0])] _ _ at Hp15_12
  obtain ⟨v64'', hv64''⟩ : ∃ z : Int32, (cmpValue (FP.dcmp dc (0 : UInt64)) .l) = z := ⟨_, rfl⟩
  obtain ⟨Tp15_15, Hp15_15, stp15_15⟩ := ze Hp15_12 hx hZ 2 2 rfl (by decide) (Nat.le_of_ble_eq_true rfl) (g := (mkF m 75 #[oa x, oi 4, oa z, oi 3, oi 2, .val (.double dd), .second] [(.int 2), (.int 2), (.ref z)])) rfl rfl (hb hby d1_75)
  change zK _ _ _ _ _ _ _ _ _ _ _ _ _ _ [(x, zB .double [.double da, .double db, .double dc, .double dd]), (y, zB .int [.int 0, .int 1, .int 2, .int 3]), (z, zB .int [.int 0, .int 1, .int 2, .int 0])] _ _ at Hp15_15
  obtain ⟨v64''', hv64'''⟩ : ∃ z : Int32, (cmpValue (FP.dcmp dd (0 : UInt64)) .l) = z := ⟨_, rfl⟩
  obtain ⟨Tp15_18, Hp15_18, stp15_18⟩ := ze Hp15_15 hx hZ 2 3 rfl (by decide) (Nat.le_of_ble_eq_true rfl) (g := (mkF m 75 #[oa x, oi 4, oa z, oi 4, oi 3, .val (.double dd), .second] [(.int 3), (.int 3), (.ref z)])) rfl rfl (hb hby d1_75)
  change zK _ _ _ _ _ _ _ _ _ _ _ _ _ _ [(x, zB .double [.double da, .double db, .double dc, .double dd]), (y, zB .int [.int 0, .int 1, .int 2, .int 3]), (z, zB .int [.int 0, .int 1, .int 2, .int 3])] _ _ at Hp15_18
  have hb27_0 : ifCond.holds .le v26 = false := by rw [← hv26]; exact hp0
  have hb27_1 : ifCond.holds .le v26' = false := by rw [← hv26']; exact hp1
  have hb27_2 : ifCond.holds .le v26'' = false := by rw [← hv26'']; exact hp2
  have hb27_3 : ifCond.holds .le v26''' = false := by rw [← hv26''']; exact hp3
  have hb65_0 : ifCond.holds .le v64 = false := by rw [← hv64]; exact hp0
  have hb65_1 : ifCond.holds .le v64' = false := by rw [← hv64']; exact hp1
  have hb65_2 : ifCond.holds .le v64'' = false := by rw [← hv64'']; exact hp2
  have hb65_3 : ifCond.holds .le v64''' = false := by rw [← hv64''']; exact hp3
  refine ⟨_, _, _, _, 83, #[oa x, oi 4, oa z, oi 4, oi 4, .val (.double dd), .second], Hp15_18, by decide, by decide, Or.inr ⟨(.array .int), (.ref z), [], .areturn, rfl, ⟨z, rfl, rfl⟩, d1_83, zAC _, fun target q => ?_⟩⟩
  refine zA H0 hx hZ hown hby hw zD (zAD x) _ ?_
  refine zP H0 hx hZ 0 rfl (z := (4 : Int32)) rfl (g := (mkF m 5 #[oa x, oi 0, oa x, ou, ou, ou, ou] [(.ref x)])) rfl rfl (hb hby d1_5) _ ?_
  refine zA H0 hx hZ hown hby hw zD (zAE x) _ ?_
  refine zJ H0 hx hZ 0 0 rfl (by decide) rfl (g := (mkF m 19 #[oa x, oi 0, oa x, oi 4, oi 0, ou, ou] [(.int 0), (.ref x)])) rfl rfl (hb hby d1_19) _ ?_
  refine zA H0 hx hZ hown hby hw zD (zAR x da v26 hv26 hb27_0) _ ?_
  refine zJ H0 hx hZ 0 1 rfl (by decide) rfl (g := (mkF m 19 #[oa x, oi 1, oa x, oi 4, oi 1, .val (.double da), .second] [(.int 1), (.ref x)])) rfl rfl (hb hby d1_19) _ ?_
  refine zA H0 hx hZ hown hby hw zD (zBQ x da db v26' hv26' hb27_1) _ ?_
  refine zJ H0 hx hZ 0 2 rfl (by decide) rfl (g := (mkF m 19 #[oa x, oi 2, oa x, oi 4, oi 2, .val (.double db), .second] [(.int 2), (.ref x)])) rfl rfl (hb hby d1_19) _ ?_
  refine zA H0 hx hZ hown hby hw zD (own_p14_4 x db dc v26'' hv26'' hb27_2) _ ?_
  refine zJ H0 hx hZ 0 3 rfl (by decide) rfl (g := (mkF m 19 #[oa x, oi 3, oa x, oi 4, oi 3, .val (.double dc), .second] [(.int 3), (.ref x)])) rfl rfl (hb hby d1_19) _ ?_
  refine zA H0 hx hZ hown hby hw zD (own_p15_5 x dc dd v26''' hv26''' hb27_3) _ ?_
  refine stp15_6 _ ?_
  refine zA Hp15_6 hx hZ hown hby hw zD (own_p15_6 x dd z) _ ?_
  refine zP Hp15_6 hx hZ 0 rfl (z := (4 : Int32)) rfl (g := (mkF m 55 #[oa x, oi 4, oa z, oi 0, oi 0, .val (.double dd), .second] [(.ref x), (.int 0)])) rfl rfl (hb hby d1_55) _ ?_
  refine zA Hp15_6 hx hZ hown hby hw zD (own_p15_7 x z dd) _ ?_
  refine zJ Hp15_6 hx hZ 0 0 rfl (by decide) rfl (g := (mkF m 62 #[oa x, oi 4, oa z, oi 0, oi 0, .val (.double dd), .second] [(.int 0), (.ref x)])) rfl rfl (hb hby d1_62) _ ?_
  refine zA Hp15_6 hx hZ hown hby hw zD (own_p15_8 x z dd da v64 hv64 hb65_0) _ ?_
  refine stp15_9 _ ?_
  refine zA Hp15_9 hx hZ hown hby hw zD (own_p15_9 x z dd) _ ?_
  refine zP Hp15_9 hx hZ 0 rfl (z := (4 : Int32)) rfl (g := (mkF m 55 #[oa x, oi 4, oa z, oi 1, oi 1, .val (.double dd), .second] [(.ref x), (.int 1)])) rfl rfl (hb hby d1_55) _ ?_
  refine zA Hp15_9 hx hZ hown hby hw zD (own_p15_10 x z dd) _ ?_
  refine zJ Hp15_9 hx hZ 0 1 rfl (by decide) rfl (g := (mkF m 62 #[oa x, oi 4, oa z, oi 1, oi 1, .val (.double dd), .second] [(.int 1), (.ref x)])) rfl rfl (hb hby d1_62) _ ?_
  refine zA Hp15_9 hx hZ hown hby hw zD (own_p15_11 x z dd db v64' hv64' hb65_1) _ ?_
  refine stp15_12 _ ?_
  refine zA Hp15_12 hx hZ hown hby hw zD (own_p15_12 x z dd) _ ?_
  refine zP Hp15_12 hx hZ 0 rfl (z := (4 : Int32)) rfl (g := (mkF m 55 #[oa x, oi 4, oa z, oi 2, oi 2, .val (.double dd), .second] [(.ref x), (.int 2)])) rfl rfl (hb hby d1_55) _ ?_
  refine zA Hp15_12 hx hZ hown hby hw zD (own_p15_13 x z dd) _ ?_
  refine zJ Hp15_12 hx hZ 0 2 rfl (by decide) rfl (g := (mkF m 62 #[oa x, oi 4, oa z, oi 2, oi 2, .val (.double dd), .second] [(.int 2), (.ref x)])) rfl rfl (hb hby d1_62) _ ?_
  refine zA Hp15_12 hx hZ hown hby hw zD (own_p15_14 x z dd dc v64'' hv64'' hb65_2) _ ?_
  refine stp15_15 _ ?_
  refine zA Hp15_15 hx hZ hown hby hw zD (own_p15_15 x z dd) _ ?_
  refine zP Hp15_15 hx hZ 0 rfl (z := (4 : Int32)) rfl (g := (mkF m 55 #[oa x, oi 4, oa z, oi 3, oi 3, .val (.double dd), .second] [(.ref x), (.int 3)])) rfl rfl (hb hby d1_55) _ ?_
  refine zA Hp15_15 hx hZ hown hby hw zD (own_p15_16 x z dd) _ ?_
  refine zJ Hp15_15 hx hZ 0 3 rfl (by decide) rfl (g := (mkF m 62 #[oa x, oi 4, oa z, oi 3, oi 3, .val (.double dd), .second] [(.int 3), (.ref x)])) rfl rfl (hb hby d1_62) _ ?_
  refine zA Hp15_15 hx hZ hown hby hw zD (own_p15_17 x z dd v64''' hv64''' hb65_3) _ ?_
  refine stp15_18 _ ?_
  refine zA Hp15_18 hx hZ hown hby hw zD (own_p15_18 x z dd) _ ?_
  refine zP Hp15_18 hx hZ 0 rfl (z := (4 : Int32)) rfl (g := (mkF m 55 #[oa x, oi 4, oa z, oi 4, oi 4, .val (.double dd), .second] [(.ref x), (.int 4)])) rfl rfl (hb hby d1_55) _ ?_
  refine zA Hp15_18 hx hZ hown hby hw zD (own_p15_19 x z dd) _ ?_
  exact q
theorem own_s15_9 (xa : Int32) (xb : Int32) (xc : Int32) (xd : Int32) (x : Addr) (y : Addr) (hb86 : ifCond.holds .le xd = false) :
    zE zQ code 79 #[oi xa, oi xb, oi xc, oi xd, oa x, oa y, oi 2, ou, ou, ou] [] 94 #[oi xa, oi xb, oi xc, oi xd, oa x, oa y, oi 3, ou, ou, ou] [(.int 3), (.int 3), (.ref y)] := by
  refine zG (pc2 := 81) at_79 rfl rfl ?_
  refine zH (v := 1) (pc2 := 82) at_81 rfl rfl ?_
  refine zk (pc2 := 83) at_82 rfl (v := (3 : Int32)) (by decide) ?_
  refine zi (pc2 := 85) at_83 rfl (L' := #[oi xa, oi xb, oi xc, oi xd, oa x, oa y, oi 3, ou, ou, ou]) rfl ?_
  refine zL (pc2 := 86) at_85 rfl rfl ?_
  refine zW (pc2 := 89) at_86 rfl hb86 ?_
  refine zR (pc2 := 91) at_89 rfl rfl rfl ?_
  refine zG (pc2 := 93) at_91 rfl rfl ?_
  refine zH (v := 3) (pc2 := 94) at_93 rfl rfl ?_
  exact zF
theorem own_s15_10 (xa : Int32) (xb : Int32) (xc : Int32) (xd : Int32) (x : Addr) (y : Addr) :
    zE zQ code 95 #[oi xa, oi xb, oi xc, oi xd, oa x, oa y, oi 3, ou, ou, ou] [] 103 #[oi xa, oi xb, oi xc, oi xd, oa x, oa y, oi 4, ou, ou, ou] [(.ref x)] := by
  refine zG (pc2 := 97) at_95 rfl rfl ?_
  refine zH (v := 1) (pc2 := 98) at_97 rfl rfl ?_
  refine zk (pc2 := 99) at_98 rfl (v := (4 : Int32)) (by decide) ?_
  refine zi (pc2 := 101) at_99 rfl (L' := #[oi xa, oi xb, oi xc, oi xd, oa x, oa y, oi 4, ou, ou, ou]) rfl ?_
  refine zR (pc2 := 103) at_101 rfl rfl rfl ?_
  exact zF
theorem own_s15_11 (xa : Int32) (xb : Int32) (xc : Int32) (xd : Int32) (x : Addr) (y : Addr) (z : Addr) :
    zE zQ code 106 #[oi xa, oi xb, oi xc, oi xd, oa x, oa y, oi 4, ou, ou, ou] [(.ref z)] 115 #[oi xa, oi xb, oi xc, oi xd, oa x, oa y, oi 4, oa z, ou, ou] [(.ref z)] := by
  refine zAL (pc2 := 108) at_106 rfl rfl (L' := #[oi xa, oi xb, oi xc, oi xd, oa x, oa y, oi 4, oa z, ou, ou]) rfl ?_
  refine zR (pc2 := 110) at_108 rfl rfl rfl ?_
  refine zAi (pc2 := 113) at_110 rfl ?_
  refine zR (pc2 := 115) at_113 rfl rfl rfl ?_
  exact zF
theorem own_s15_12 (xa : Int32) (xb : Int32) (xc : Int32) (xd : Int32) (x : Addr) (y : Addr) (z : Addr) :
    zE zQ code 116 #[oi xa, oi xb, oi xc, oi xd, oa x, oa y, oi 4, oa z, ou, ou] [(.int 4)] 132 #[oi xa, oi xb, oi xc, oi xd, oa x, oa y, oi 4, oa z, ou, ou] [(.int 0), (.ref z)] := by
  refine zG (pc2 := 118) at_116 rfl rfl ?_
  refine zj (pc' := 123) at_118 (by decide) (by decide) (by decide) ?_
  refine zG (pc2 := 125) at_123 rfl rfl ?_
  refine zH (v := 1) (pc2 := 126) at_125 rfl rfl ?_
  refine zV (pc2 := 129) at_126 rfl (by decide) ?_
  refine zR (pc2 := 131) at_129 rfl rfl rfl ?_
  refine zH (v := 0) (pc2 := 132) at_131 rfl rfl ?_
  exact zF
theorem own_s15_13 (xa : Int32) (xb : Int32) (xc : Int32) (xd : Int32) (x : Addr) (y : Addr) (z : Addr) :
    zE zQ code 133 #[oi xa, oi xb, oi xc, oi xd, oa x, oa y, oi 4, oa z, ou, ou] [(.int 0)] 136 #[oi xa, oi xb, oi xc, oi xd, oa x, oa y, oi 4, oa z, ou, ou] [(.int 0), (.ref y), (.int 0)] := by
  refine zR (pc2 := 135) at_133 rfl rfl rfl ?_
  refine zH (v := 0) (pc2 := 136) at_135 rfl rfl ?_
  exact zF
theorem own_s15_14 (xa : Int32) (xb : Int32) (xc : Int32) (xd : Int32) (x : Addr) (y : Addr) (z : Addr) :
    zE zQ code 137 #[oi xa, oi xb, oi xc, oi xd, oa x, oa y, oi 4, oa z, ou, ou] [(.int 0), (.int 0)] 149 #[oi xa, oi xb, oi xc, oi xd, oa x, oa y, oi 4, oa z, ou, ou] [(.int 1), (.ref z)] := by
  refine zV (pc2 := 140) at_137 rfl (by decide) ?_
  refine zG (pc2 := 142) at_140 rfl rfl ?_
  refine zH (v := 2) (pc2 := 143) at_142 rfl rfl ?_
  refine zV (pc2 := 146) at_143 rfl (by decide) ?_
  refine zR (pc2 := 148) at_146 rfl rfl rfl ?_
  refine zH (v := 1) (pc2 := 149) at_148 rfl rfl ?_
  exact zF
theorem own_s15_15 (xa : Int32) (xb : Int32) (xc : Int32) (xd : Int32) (x : Addr) (y : Addr) (z : Addr) :
    zE zQ code 150 #[oi xa, oi xb, oi xc, oi xd, oa x, oa y, oi 4, oa z, ou, ou] [(.int 1)] 153 #[oi xa, oi xb, oi xc, oi xd, oa x, oa y, oi 4, oa z, ou, ou] [(.int 1), (.ref y), (.int 1)] := by
  refine zR (pc2 := 152) at_150 rfl rfl rfl ?_
  refine zH (v := 1) (pc2 := 153) at_152 rfl rfl ?_
  exact zF
theorem own_s15_16 (xa : Int32) (xb : Int32) (xc : Int32) (xd : Int32) (x : Addr) (y : Addr) (z : Addr) :
    zE zQ code 154 #[oi xa, oi xb, oi xc, oi xd, oa x, oa y, oi 4, oa z, ou, ou] [(.int 1), (.int 1)] 166 #[oi xa, oi xb, oi xc, oi xd, oa x, oa y, oi 4, oa z, ou, ou] [(.int 2), (.ref z)] := by
  refine zV (pc2 := 157) at_154 rfl (by decide) ?_
  refine zG (pc2 := 159) at_157 rfl rfl ?_
  refine zH (v := 3) (pc2 := 160) at_159 rfl rfl ?_
  refine zV (pc2 := 163) at_160 rfl (by decide) ?_
  refine zR (pc2 := 165) at_163 rfl rfl rfl ?_
  refine zH (v := 2) (pc2 := 166) at_165 rfl rfl ?_
  exact zF
theorem own_s15_17 (xa : Int32) (xb : Int32) (xc : Int32) (xd : Int32) (x : Addr) (y : Addr) (z : Addr) :
    zE zQ code 167 #[oi xa, oi xb, oi xc, oi xd, oa x, oa y, oi 4, oa z, ou, ou] [(.int 2)] 170 #[oi xa, oi xb, oi xc, oi xd, oa x, oa y, oi 4, oa z, ou, ou] [(.int 2), (.ref y), (.int 2)] := by
  refine zR (pc2 := 169) at_167 rfl rfl rfl ?_
  refine zH (v := 2) (pc2 := 170) at_169 rfl rfl ?_
  exact zF
theorem own_s15_18 (xa : Int32) (xb : Int32) (xc : Int32) (xd : Int32) (x : Addr) (y : Addr) (z : Addr) :
    zE zQ code 171 #[oi xa, oi xb, oi xc, oi xd, oa x, oa y, oi 4, oa z, ou, ou] [(.int 2), (.int 2)] 183 #[oi xa, oi xb, oi xc, oi xd, oa x, oa y, oi 4, oa z, ou, ou] [(.int 3), (.ref z)] := by
  refine zV (pc2 := 174) at_171 rfl (by decide) ?_
  refine zG (pc2 := 176) at_174 rfl rfl ?_
  refine zH (v := 4) (pc2 := 177) at_176 rfl rfl ?_
  refine zV (pc2 := 180) at_177 rfl (by decide) ?_
  refine zR (pc2 := 182) at_180 rfl rfl rfl ?_
  refine zH (v := 3) (pc2 := 183) at_182 rfl rfl ?_
  exact zF
theorem own_s15_19 (xa : Int32) (xb : Int32) (xc : Int32) (xd : Int32) (x : Addr) (y : Addr) (z : Addr) :
    zE zQ code 184 #[oi xa, oi xb, oi xc, oi xd, oa x, oa y, oi 4, oa z, ou, ou] [(.int 3)] 187 #[oi xa, oi xb, oi xc, oi xd, oa x, oa y, oi 4, oa z, ou, ou] [(.int 3), (.ref y), (.int 3)] := by
  refine zR (pc2 := 186) at_184 rfl rfl rfl ?_
  refine zH (v := 3) (pc2 := 187) at_186 rfl rfl ?_
  exact zF
theorem own_s15_20 (xa : Int32) (xb : Int32) (xc : Int32) (xd : Int32) (x : Addr) (y : Addr) (z : Addr) :
    zE zQ code 188 #[oi xa, oi xb, oi xc, oi xd, oa x, oa y, oi 4, oa z, ou, ou] [(.int 3), (.int 3)] 201 #[oi xa, oi xb, oi xc, oi xd, oa x, oa y, oi 4, oa z, oi 1, ou] [(.int 0), (.ref x)] := by
  refine zV (pc2 := 191) at_188 rfl (by decide) ?_
  refine zH (v := 1) (pc2 := 192) at_191 rfl rfl ?_
  refine zS (pc' := 196) at_192 (by decide) (by decide) ?_
  refine zi (pc2 := 198) at_196 rfl (L' := #[oi xa, oi xb, oi xc, oi xd, oa x, oa y, oi 4, oa z, oi 1, ou]) rfl ?_
  refine zR (pc2 := 200) at_198 rfl rfl rfl ?_
  refine zH (v := 0) (pc2 := 201) at_200 rfl rfl ?_
  exact zF
theorem own_s15_21 (xa : Int32) (xb : Int32) (xc : Int32) (xd : Int32) (x : Addr) (y : Addr) (z : Addr) (v9 : UInt64) (v203 : UInt64) (hv203 : (FP.i2d xa) = v203) (v204 : Int32) (hv204 : (cmpValue (FP.dcmp v9 v203) .l) = v204) (hb205 : ifCond.holds .ne v204 = false) :
    zE zQ code 202 #[oi xa, oi xb, oi xc, oi xd, oa x, oa y, oi 4, oa z, oi 1, ou] [(.double v9)] 211 #[oi xa, oi xb, oi xc, oi xd, oa x, oa y, oi 4, oa z, oi 1, ou] [(.int 1), (.ref x)] := by
  refine zL (pc2 := 203) at_202 rfl rfl ?_
  refine zr (pc2 := 204) at_203 rfl (v := v203) hv203 ?_
  refine zT (pc2 := 205) at_204 rfl (v := v204) hv204 ?_
  refine zW (pc2 := 208) at_205 rfl hb205 ?_
  refine zR (pc2 := 210) at_208 rfl rfl rfl ?_
  refine zH (v := 1) (pc2 := 211) at_210 rfl rfl ?_
  exact zF
theorem own_s15_22 (xa : Int32) (xb : Int32) (xc : Int32) (xd : Int32) (x : Addr) (y : Addr) (z : Addr) (v15 : UInt64) (v213 : UInt64) (hv213 : (FP.i2d xb) = v213) (v214 : Int32) (hv214 : (cmpValue (FP.dcmp v15 v213) .l) = v214) (hb215 : ifCond.holds .ne v214 = false) :
    zE zQ code 212 #[oi xa, oi xb, oi xc, oi xd, oa x, oa y, oi 4, oa z, oi 1, ou] [(.double v15)] 221 #[oi xa, oi xb, oi xc, oi xd, oa x, oa y, oi 4, oa z, oi 1, ou] [(.int 2), (.ref x)] := by
  refine zL (pc2 := 213) at_212 rfl rfl ?_
  refine zr (pc2 := 214) at_213 rfl (v := v213) hv213 ?_
  refine zT (pc2 := 215) at_214 rfl (v := v214) hv214 ?_
  refine zW (pc2 := 218) at_215 rfl hb215 ?_
  refine zR (pc2 := 220) at_218 rfl rfl rfl ?_
  refine zH (v := 2) (pc2 := 221) at_220 rfl rfl ?_
  exact zF
theorem own_s15_23 (xa : Int32) (xb : Int32) (xc : Int32) (xd : Int32) (x : Addr) (y : Addr) (z : Addr) (v21 : UInt64) (v223 : UInt64) (hv223 : (FP.i2d xc) = v223) (v224 : Int32) (hv224 : (cmpValue (FP.dcmp v21 v223) .l) = v224) (hb225 : ifCond.holds .ne v224 = false) :
    zE zQ code 222 #[oi xa, oi xb, oi xc, oi xd, oa x, oa y, oi 4, oa z, oi 1, ou] [(.double v21)] 231 #[oi xa, oi xb, oi xc, oi xd, oa x, oa y, oi 4, oa z, oi 1, ou] [(.int 3), (.ref x)] := by
  refine zL (pc2 := 223) at_222 rfl rfl ?_
  refine zr (pc2 := 224) at_223 rfl (v := v223) hv223 ?_
  refine zT (pc2 := 225) at_224 rfl (v := v224) hv224 ?_
  refine zW (pc2 := 228) at_225 rfl hb225 ?_
  refine zR (pc2 := 230) at_228 rfl rfl rfl ?_
  refine zH (v := 3) (pc2 := 231) at_230 rfl rfl ?_
  exact zF
theorem own_s15_24 (xa : Int32) (xb : Int32) (xc : Int32) (xd : Int32) (x : Addr) (y : Addr) (z : Addr) (v27 : UInt64) (v233 : UInt64) (hv233 : (FP.i2d xd) = v233) (v234 : Int32) (hv234 : (cmpValue (FP.dcmp v27 v233) .l) = v234) (hb235 : ifCond.holds .ne v234 = false) :
    zE zQ code 232 #[oi xa, oi xb, oi xc, oi xd, oa x, oa y, oi 4, oa z, oi 1, ou] [(.double v27)] 260 #[oi xa, oi xb, oi xc, oi xd, oa x, oa y, oi 4, oa z, oi 1, oi 1] [(.int 1)] := by
  refine zL (pc2 := 233) at_232 rfl rfl ?_
  refine zr (pc2 := 234) at_233 rfl (v := v233) hv233 ?_
  refine zT (pc2 := 235) at_234 rfl (v := v234) hv234 ?_
  refine zW (pc2 := 238) at_235 rfl hb235 ?_
  refine zH (v := 1) (pc2 := 239) at_238 rfl rfl ?_
  refine zS (pc' := 243) at_239 (by decide) (by decide) ?_
  refine zi (pc2 := 245) at_243 rfl (L' := #[oi xa, oi xb, oi xc, oi xd, oa x, oa y, oi 4, oa z, oi 1, oi 1]) rfl ?_
  refine zG (pc2 := 247) at_245 rfl rfl ?_
  refine zW (pc2 := 250) at_247 rfl (by decide) ?_
  refine zG (pc2 := 252) at_250 rfl rfl ?_
  refine zW (pc2 := 255) at_252 rfl (by decide) ?_
  refine zH (v := 1) (pc2 := 256) at_255 rfl rfl ?_
  refine zS (pc' := 260) at_256 (by decide) (by decide) ?_
  exact zF
set_option maxRecDepth 65536 in
set_option maxHeartbeats 40000000 in
theorem own_law15 (l : Launch) (Z : State) (a0 : Array Value) (hb0 : Heap) (hw : ∀ d ∈ tables_1, d.before a0 Z = true) (xa : Int32) (xb : Int32) (xc : Int32) (xd : Int32) (hb38 : ifCond.holds .le xa = false) (hb54 : ifCond.holds .le xb = false) (hb70 : ifCond.holds .le xc = false) (hb86 : ifCond.holds .le xd = false) :
    zl l Z a0 hb0 x code maxLocals ret tables_1 room_1 #[(.int xa), (.int xb), (.int xc), (.int xd)] [] (fun v _ => v = some (.int 1)) := by
  refine zm (L0 := #[oi xa, oi xb, oi xc, oi xd, ou, ou, ou, ou, ou, ou]) (plainFor_of_name zx) (fun m => zAB m xa xb xc xd) ?_
  intro p e s m below meth c T0 hx hZ hown hby hml hnm H0
  have hown : s.vm.findClass "com/example/tangentia/tangentia/flash/StabilityTestPresentComponentsPinLaw" = some m.cls := hown
  have hml : c.maxLocals = 10 := hml
  obtain ⟨Ts15_1, x, Hs15_1, sts15_1⟩ := zh H0 hx hZ (zO hw 0 rfl) (g := (mkF m 1 #[oi xa, oi xb, oi xc, oi xd, ou, ou, ou, ou, ou, ou] [(.int 4)])) rfl (hb hby at_1) rfl (by decide) (cap := 4) (by decide) (by decide) (by decide) (by decide)
  change zK _ _ _ _ _ _ _ _ _ _ _ _ _ _ [(x, zB .double [.double 0, .double 0, .double 0, .double 0])] _ _ at Hs15_1
  obtain ⟨v9, hv9⟩ : ∃ z : UInt64, (FP.i2d xa) = z := ⟨_, rfl⟩
  obtain ⟨Ts15_2, Hs15_2, sts15_2⟩ := zd Hs15_1 hx hZ 0 0 rfl (by decide) (Nat.le_of_ble_eq_true rfl) (g := (mkF m 10 #[oi xa, oi xb, oi xc, oi xd, oa x, ou, ou, ou, ou, ou] [(.double v9), (.int 0), (.ref x)])) rfl rfl (hb hby at_10)
  change zK _ _ _ _ _ _ _ _ _ _ _ _ _ _ [(x, zB .double [.double v9, .double 0, .double 0, .double 0])] _ _ at Hs15_2
  obtain ⟨v15, hv15⟩ : ∃ z : UInt64, (FP.i2d xb) = z := ⟨_, rfl⟩
  obtain ⟨Ts15_3, Hs15_3, sts15_3⟩ := zd Hs15_2 hx hZ 0 1 rfl (by decide) (Nat.le_of_ble_eq_true rfl) (g := (mkF m 16 #[oi xa, oi xb, oi xc, oi xd, oa x, ou, ou, ou, ou, ou] [(.double v15), (.int 1), (.ref x)])) rfl rfl (hb hby at_16)
  change zK _ _ _ _ _ _ _ _ _ _ _ _ _ _ [(x, zB .double [.double v9, .double v15, .double 0, .double 0])] _ _ at Hs15_3
  obtain ⟨v21, hv21⟩ : ∃ z : UInt64, (FP.i2d xc) = z := ⟨_, rfl⟩
  obtain ⟨Ts15_4, Hs15_4, sts15_4⟩ := zd Hs15_3 hx hZ 0 2 rfl (by decide) (Nat.le_of_ble_eq_true rfl) (g := (mkF m 22 #[oi xa, oi xb, oi xc, oi xd, oa x, ou, ou, ou, ou, ou] [(.double v21), (.int 2), (.ref x)])) rfl rfl (hb hby at_22)
  change zK _ _ _ _ _ _ _ _ _ _ _ _ _ _ [(x, zB .double [.double v9, .double v15, .double v21, .double 0])] _ _ at Hs15_4
  obtain ⟨v27, hv27⟩ : ∃ z : UInt64, (FP.i2d xd) = z := ⟨_, rfl⟩
  obtain ⟨Ts15_5, Hs15_5, sts15_5⟩ := zd Hs15_4 hx hZ 0 3 rfl (by decide) (Nat.le_of_ble_eq_true rfl) (g := (mkF m 28 #[oi xa, oi xb, oi xc, oi xd, oa x, ou, ou, ou, ou, ou] [(.double v27), (.int 3), (.ref x)])) rfl rfl (hb hby at_28)
  change zK _ _ _ _ _ _ _ _ _ _ _ _ _ _ [(x, zB .double [.double v9, .double v15, .double v21, .double v27])] _ _ at Hs15_5
  obtain ⟨Ts15_6, y, Hs15_6, sts15_6⟩ := zh Hs15_5 hx hZ (zO hw 1 rfl) (g := (mkF m 30 #[oi xa, oi xb, oi xc, oi xd, oa x, ou, ou, ou, ou, ou] [(.int 4)])) rfl (hb hby at_30) rfl (by decide) (cap := 4) (by decide) (by decide) (by decide) (by decide)
  change zK _ _ _ _ _ _ _ _ _ _ _ _ _ _ [(x, zB .double [.double v9, .double v15, .double v21, .double v27]), (y, zB .int [.int 0, .int 0, .int 0, .int 0])] _ _ at Hs15_6
  obtain ⟨Ts15_7, Hs15_7, sts15_7⟩ := ze Hs15_6 hx hZ 1 0 rfl (by decide) (Nat.le_of_ble_eq_true rfl) (g := (mkF m 46 #[oi xa, oi xb, oi xc, oi xd, oa x, oa y, oi 0, ou, ou, ou] [(.int 0), (.int 0), (.ref y)])) rfl rfl (hb hby at_46)
  change zK _ _ _ _ _ _ _ _ _ _ _ _ _ _ [(x, zB .double [.double v9, .double v15, .double v21, .double v27]), (y, zB .int [.int 0, .int 0, .int 0, .int 0])] _ _ at Hs15_7
  obtain ⟨Ts15_8, Hs15_8, sts15_8⟩ := ze Hs15_7 hx hZ 1 1 rfl (by decide) (Nat.le_of_ble_eq_true rfl) (g := (mkF m 62 #[oi xa, oi xb, oi xc, oi xd, oa x, oa y, oi 1, ou, ou, ou] [(.int 1), (.int 1), (.ref y)])) rfl rfl (hb hby at_62)
  change zK _ _ _ _ _ _ _ _ _ _ _ _ _ _ [(x, zB .double [.double v9, .double v15, .double v21, .double v27]), (y, zB .int [.int 0, .int 1, .int 0, .int 0])] _ _ at Hs15_8
  obtain ⟨Ts15_9, Hs15_9, sts15_9⟩ := ze Hs15_8 hx hZ 1 2 rfl (by decide) (Nat.le_of_ble_eq_true rfl) (g := (mkF m 78 #[oi xa, oi xb, oi xc, oi xd, oa x, oa y, oi 2, ou, ou, ou] [(.int 2), (.int 2), (.ref y)])) rfl rfl (hb hby at_78)
  change zK _ _ _ _ _ _ _ _ _ _ _ _ _ _ [(x, zB .double [.double v9, .double v15, .double v21, .double v27]), (y, zB .int [.int 0, .int 1, .int 2, .int 0])] _ _ at Hs15_9
  obtain ⟨Ts15_10, Hs15_10, sts15_10⟩ := ze Hs15_9 hx hZ 1 3 rfl (by decide) (Nat.le_of_ble_eq_true rfl) (g := (mkF m 94 #[oi xa, oi xb, oi xc, oi xd, oa x, oa y, oi 3, ou, ou, ou] [(.int 3), (.int 3), (.ref y)])) rfl rfl (hb hby at_94)
  change zK _ _ _ _ _ _ _ _ _ _ _ _ _ _ [(x, zB .double [.double v9, .double v15, .double v21, .double v27]), (y, zB .int [.int 0, .int 1, .int 2, .int 3])] _ _ at Hs15_10
  have hp0 : ifCond.holds .le (cmpValue (FP.dcmp v9 (0 : UInt64)) .l) = false := by rw [← hv9, zY (zI xa) zX]; exact zn hb38
  have hp1 : ifCond.holds .le (cmpValue (FP.dcmp v15 (0 : UInt64)) .l) = false := by rw [← hv15, zY (zI xb) zX]; exact zn hb54
  have hp2 : ifCond.holds .le (cmpValue (FP.dcmp v21 (0 : UInt64)) .l) = false := by rw [← hv21, zY (zI xc) zX]; exact zn hb70
  have hp3 : ifCond.holds .le (cmpValue (FP.dcmp v27 (0 : UInt64)) .l) = false := by rw [← hv27, zY (zI xd) zX]; exact zn hb86
  obtain ⟨Ts15_11, vs15_11_, css15_11_, qs15_11, Hs15_11, sts15_11⟩ := zw Hs15_10 hx hZ hown (zO hw 2 rfl) (zO hw 3 rfl) (zO hw 4 rfl) (zO hw 5 rfl) (by decide) (argsL := [(.ref x)]) (rest := []) (W := 0) (own_q15 l Z a0 hb0 hw x y v9 v15 v21 v27 hp0 hp1 hp2 hp3) (by decide) (by decide) (by decide) (by decide) (g := (mkF m 103 #[oi xa, oi xb, oi xc, oi xd, oa x, oa y, oi 4, ou, ou, ou] [(.ref x)])) rfl (by rw [hml]; rfl) (lenOf zz rfl) rfl (by show 2 * 0 + _ ≤ _; exact Nat.le_of_eq rfl) (hb hby at_103)
  obtain ⟨z, rfl, rfl⟩ := qs15_11
  obtain ⟨v203, hv203⟩ : ∃ z : UInt64, (FP.i2d xa) = z := ⟨_, rfl⟩
  obtain ⟨v204, hv204⟩ : ∃ z : Int32, (cmpValue (FP.dcmp v9 v203) .l) = z := ⟨_, rfl⟩
  obtain ⟨v213, hv213⟩ : ∃ z : UInt64, (FP.i2d xb) = z := ⟨_, rfl⟩
  obtain ⟨v214, hv214⟩ : ∃ z : Int32, (cmpValue (FP.dcmp v15 v213) .l) = z := ⟨_, rfl⟩
  obtain ⟨v223, hv223⟩ : ∃ z : UInt64, (FP.i2d xc) = z := ⟨_, rfl⟩
  obtain ⟨v224, hv224⟩ : ∃ z : Int32, (cmpValue (FP.dcmp v21 v223) .l) = z := ⟨_, rfl⟩
  obtain ⟨v233, hv233⟩ : ∃ z : UInt64, (FP.i2d xd) = z := ⟨_, rfl⟩
  obtain ⟨v234, hv234⟩ : ∃ z : Int32, (cmpValue (FP.dcmp v27 v233) .l) = z := ⟨_, rfl⟩
  have hb205 : ifCond.holds .ne v204 = false := by rw [← hv204, ← hv203, ← hv9, zZ (zI xa) (zI xa)]; simp
  have hb215 : ifCond.holds .ne v214 = false := by rw [← hv214, ← hv213, ← hv15, zZ (zI xb) (zI xb)]; simp
  have hb225 : ifCond.holds .ne v224 = false := by rw [← hv224, ← hv223, ← hv21, zZ (zI xc) (zI xc)]; simp
  have hb235 : ifCond.holds .ne v234 = false := by rw [← hv234, ← hv233, ← hv27, zZ (zI xd) (zI xd)]; simp
  refine ⟨_, _, _, _, 260, #[oi xa, oi xb, oi xc, oi xd, oa x, oa y, oi 4, oa z, oi 1, oi 1], Hs15_11, by decide, by decide, Or.inr ⟨.boolean, (.int 1), [], .ireturn, rfl, rfl, at_260, zv (Or.inr rfl), fun target q => ?_⟩⟩
  refine zA H0 hx hZ hown hby hw zC (zAF xa xb xc xd) _ ?_
  refine sts15_1 _ ?_
  refine zA Hs15_1 hx hZ hown hby hw zC (zAG xa xb xc xd x v9 hv9) _ ?_
  refine sts15_2 _ ?_
  refine zA Hs15_2 hx hZ hown hby hw zC (zAH xa xb xc xd x v15 hv15) _ ?_
  refine sts15_3 _ ?_
  refine zA Hs15_3 hx hZ hown hby hw zC (zAI xa xb xc xd x v21 hv21) _ ?_
  refine sts15_4 _ ?_
  refine zA Hs15_4 hx hZ hown hby hw zC (zAJ xa xb xc xd x v27 hv27) _ ?_
  refine sts15_5 _ ?_
  refine zA Hs15_5 hx hZ hown hby hw zC (zAK xa xb xc xd x) _ ?_
  refine sts15_6 _ ?_
  refine zA Hs15_6 hx hZ hown hby hw zC (zAS xa xb xc xd x y hb38) _ ?_
  refine sts15_7 _ ?_
  refine zA Hs15_7 hx hZ hown hby hw zC (zBR xa xb xc xd x y hb54) _ ?_
  refine sts15_8 _ ?_
  refine zA Hs15_8 hx hZ hown hby hw zC (own_s14_8 xa xb xc xd x y hb70) _ ?_
  refine sts15_9 _ ?_
  refine zA Hs15_9 hx hZ hown hby hw zC (own_s15_9 xa xb xc xd x y hb86) _ ?_
  refine sts15_10 _ ?_
  refine zA Hs15_10 hx hZ hown hby hw zC (own_s15_10 xa xb xc xd x y) _ ?_
  refine sts15_11 _ ?_
  refine zA Hs15_11 hx hZ hown hby hw zC (own_s15_11 xa xb xc xd x y z) _ ?_
  refine zP Hs15_11 hx hZ 2 rfl (z := (4 : Int32)) rfl (g := (mkF m 115 #[oi xa, oi xb, oi xc, oi xd, oa x, oa y, oi 4, oa z, ou, ou] [(.ref z)])) rfl rfl (hb hby at_115) _ ?_
  refine zA Hs15_11 hx hZ hown hby hw zC (own_s15_12 xa xb xc xd x y z) _ ?_
  refine zb Hs15_11 hx hZ 2 0 rfl (by decide) rfl (g := (mkF m 132 #[oi xa, oi xb, oi xc, oi xd, oa x, oa y, oi 4, oa z, ou, ou] [(.int 0), (.ref z)])) rfl rfl (hb hby at_132) _ ?_
  refine zA Hs15_11 hx hZ hown hby hw zC (own_s15_13 xa xb xc xd x y z) _ ?_
  refine zb Hs15_11 hx hZ 1 0 rfl (by decide) rfl (g := (mkF m 136 #[oi xa, oi xb, oi xc, oi xd, oa x, oa y, oi 4, oa z, ou, ou] [(.int 0), (.ref y), (.int 0)])) rfl rfl (hb hby at_136) _ ?_
  refine zA Hs15_11 hx hZ hown hby hw zC (own_s15_14 xa xb xc xd x y z) _ ?_
  refine zb Hs15_11 hx hZ 2 1 rfl (by decide) rfl (g := (mkF m 149 #[oi xa, oi xb, oi xc, oi xd, oa x, oa y, oi 4, oa z, ou, ou] [(.int 1), (.ref z)])) rfl rfl (hb hby at_149) _ ?_
  refine zA Hs15_11 hx hZ hown hby hw zC (own_s15_15 xa xb xc xd x y z) _ ?_
  refine zb Hs15_11 hx hZ 1 1 rfl (by decide) rfl (g := (mkF m 153 #[oi xa, oi xb, oi xc, oi xd, oa x, oa y, oi 4, oa z, ou, ou] [(.int 1), (.ref y), (.int 1)])) rfl rfl (hb hby at_153) _ ?_
  refine zA Hs15_11 hx hZ hown hby hw zC (own_s15_16 xa xb xc xd x y z) _ ?_
  refine zb Hs15_11 hx hZ 2 2 rfl (by decide) rfl (g := (mkF m 166 #[oi xa, oi xb, oi xc, oi xd, oa x, oa y, oi 4, oa z, ou, ou] [(.int 2), (.ref z)])) rfl rfl (hb hby at_166) _ ?_
  refine zA Hs15_11 hx hZ hown hby hw zC (own_s15_17 xa xb xc xd x y z) _ ?_
  refine zb Hs15_11 hx hZ 1 2 rfl (by decide) rfl (g := (mkF m 170 #[oi xa, oi xb, oi xc, oi xd, oa x, oa y, oi 4, oa z, ou, ou] [(.int 2), (.ref y), (.int 2)])) rfl rfl (hb hby at_170) _ ?_
  refine zA Hs15_11 hx hZ hown hby hw zC (own_s15_18 xa xb xc xd x y z) _ ?_
  refine zb Hs15_11 hx hZ 2 3 rfl (by decide) rfl (g := (mkF m 183 #[oi xa, oi xb, oi xc, oi xd, oa x, oa y, oi 4, oa z, ou, ou] [(.int 3), (.ref z)])) rfl rfl (hb hby at_183) _ ?_
  refine zA Hs15_11 hx hZ hown hby hw zC (own_s15_19 xa xb xc xd x y z) _ ?_
  refine zb Hs15_11 hx hZ 1 3 rfl (by decide) rfl (g := (mkF m 187 #[oi xa, oi xb, oi xc, oi xd, oa x, oa y, oi 4, oa z, ou, ou] [(.int 3), (.ref y), (.int 3)])) rfl rfl (hb hby at_187) _ ?_
  refine zA Hs15_11 hx hZ hown hby hw zC (own_s15_20 xa xb xc xd x y z) _ ?_
  refine zJ Hs15_11 hx hZ 0 0 rfl (by decide) rfl (g := (mkF m 201 #[oi xa, oi xb, oi xc, oi xd, oa x, oa y, oi 4, oa z, oi 1, ou] [(.int 0), (.ref x)])) rfl rfl (hb hby at_201) _ ?_
  refine zA Hs15_11 hx hZ hown hby hw zC (own_s15_21 xa xb xc xd x y z v9 v203 hv203 v204 hv204 hb205) _ ?_
  refine zJ Hs15_11 hx hZ 0 1 rfl (by decide) rfl (g := (mkF m 211 #[oi xa, oi xb, oi xc, oi xd, oa x, oa y, oi 4, oa z, oi 1, ou] [(.int 1), (.ref x)])) rfl rfl (hb hby at_211) _ ?_
  refine zA Hs15_11 hx hZ hown hby hw zC (own_s15_22 xa xb xc xd x y z v15 v213 hv213 v214 hv214 hb215) _ ?_
  refine zJ Hs15_11 hx hZ 0 2 rfl (by decide) rfl (g := (mkF m 221 #[oi xa, oi xb, oi xc, oi xd, oa x, oa y, oi 4, oa z, oi 1, ou] [(.int 2), (.ref x)])) rfl rfl (hb hby at_221) _ ?_
  refine zA Hs15_11 hx hZ hown hby hw zC (own_s15_23 xa xb xc xd x y z v21 v223 hv223 v224 hv224 hb225) _ ?_
  refine zJ Hs15_11 hx hZ 0 3 rfl (by decide) rfl (g := (mkF m 231 #[oi xa, oi xb, oi xc, oi xd, oa x, oa y, oi 4, oa z, oi 1, ou] [(.int 3), (.ref x)])) rfl rfl (hb hby at_231) _ ?_
  refine zA Hs15_11 hx hZ hown hby hw zC (own_s15_24 xa xb xc xd x y z v27 v233 hv233 v234 hv234 hb235) _ ?_
  exact q
theorem own_law (l : Launch) (Z : State) (a0 : Array Value) (hb0 : Heap) (hw : ∀ d ∈ tables_1, d.before a0 Z = true) (xa : Int32) (xb : Int32) (xc : Int32) (xd : Int32) :
    zl l Z a0 hb0 x code maxLocals ret tables_1 room_1 #[(.int xa), (.int xb), (.int xc), (.int xd)] [] (fun v _ => v = some (.int 1)) := by
  cases h0 : ifCond.holds .le xa <;> cases h1 : ifCond.holds .le xb <;> cases h2 : ifCond.holds .le xc <;> cases h3 : ifCond.holds .le xd
  · exact own_law15 l Z a0 hb0 hw xa xb xc xd h0 h1 h2 h3
  · exact own_law14 l Z a0 hb0 hw xa xb xc xd h0 h1 h2 h3
  · exact own_law13 l Z a0 hb0 hw xa xb xc xd h0 h1 h2 h3
  · exact own_law12 l Z a0 hb0 hw xa xb xc xd h0 h1 h2 h3
  · exact own_law11 l Z a0 hb0 hw xa xb xc xd h0 h1 h2 h3
  · exact own_law10 l Z a0 hb0 hw xa xb xc xd h0 h1 h2 h3
  · exact own_law9 l Z a0 hb0 hw xa xb xc xd h0 h1 h2 h3
  · exact own_law8 l Z a0 hb0 hw xa xb xc xd h0 h1 h2 h3
  · exact own_law7 l Z a0 hb0 hw xa xb xc xd h0 h1 h2 h3
  · exact own_law6 l Z a0 hb0 hw xa xb xc xd h0 h1 h2 h3
  · exact own_law5 l Z a0 hb0 hw xa xb xc xd h0 h1 h2 h3
  · exact own_law4 l Z a0 hb0 hw xa xb xc xd h0 h1 h2 h3
  · exact own_law3 l Z a0 hb0 hw xa xb xc xd h0 h1 h2 h3
  · exact own_law2 l Z a0 hb0 hw xa xb xc xd h0 h1 h2 h3
  · exact own_law1 l Z a0 hb0 hw xa xb xc xd h0 h1 h2 h3
  · exact own_law0 l Z a0 hb0 hw xa xb xc xd h0 h1 h2 h3
set_option maxRecDepth 65536 in
set_option maxHeartbeats 40000000 in
theorem own_comes {Post : Tables → Env → Array Value → State → Outcome → State → Prop} (hpost : ∀ tb e args s v u, (limb_1_1.after args s (.returned v) u = true ∧ limb_1_2.after args s (.returned v) u = true ∧ True) → FrameEnd s (.returned v) u (Jvm.fieldLocs frame_1_writes args s ++ Jvm.arrayLocs frame_1_arrays args s ++ Jvm.staticLocs frame_1_statics s) 16 128 → Post tb e args s (.returned v) u) :
    ArmFor flags0 classFile x code maxLocals ret World_1 tables_1 room_1 Calls_1 rest_1 Pre_1 Post := by
  intro l hfl _ _ p e ha hc hk s m args below hf hA hF happ hP
  obtain ⟨hcalls, hrest, hpre⟩ := hP
  obtain ⟨-, -, -, hnamed, -, -, -, hat⟩ := (Spec.applies_iff hf).mp happ
  obtain ⟨hg, hn⟩ := and_e (Cond.before_iff.mp (show (Jvm.Cond.and given_1 narrow_1).before args s = true from hpre))
  obtain ⟨h1, g0⟩ := and_e hg
  obtain ⟨w0, w1, w2, w3, rfl⟩ : ∃ w0 w1 w2 w3 : Value, args = #[w0, w1, w2, w3] := by
    have hs : args.size = 4 := by simpa [Cond.value, given_1] using h1
    obtain ⟨L⟩ := args
    match L, hs with
    | [w0, w1, w2, w3], _ => exact ⟨w0, w1, w2, w3, rfl⟩
  have hw := fun d (hd : d ∈ tables_1) => atoms_spec (ws := Jvm.Cond.code x code maxLocals ret :: tables_1) hat d (List.mem_cons_of_mem _ hd)
  have hfit : Fit s := fun {y c} hc i hi => by
    obtain ⟨ha, rfl⟩ := Array.getElem?_eq_some_iff.mp hc
    have q := List.all_eq_true.mp ((Array.all_eq_true_iff_forall_mem.mp hF) _ (Array.getElem_mem ha)) i (List.mem_range.mpr hi)
    simpa [Array.getElem?_eq_getElem hi] using q
  obtain ⟨f0, g1⟩ := and_e g0
  obtain ⟨i0, e0⟩ := is_v f0
  obtain rfl : w0 = (.int i0) := Option.some.inj e0
  obtain ⟨f1, g2⟩ := and_e g1
  obtain ⟨i1, e1⟩ := is_v f1
  obtain rfl : w1 = (.int i1) := Option.some.inj e1
  obtain ⟨f2, g3⟩ := and_e g2
  obtain ⟨i2, e2⟩ := is_v f2
  obtain rfl : w2 = (.int i2) := Option.some.inj e2
  obtain ⟨i3, e3⟩ := is_v g3
  obtain rfl : w3 = (.int i3) := Option.some.inj e3
  obtain ⟨n, o, h1, h2, h3, _, L, rfl, ⟨N, cs', rfl, -⟩, hq⟩ := own_law l s _ s.heap hw i0 i1 i2 i3  s.heap (own_Hp_start s _ s.heap) p e ha hc hk s m _ below hf ((Spec.applies_iff_loose hf).mp happ).1 ⟨rfl, State.Warmed39.refl s, rfl⟩ trivial
  refine ⟨n, _, h1, h2, h3, hpost _ _ _ _ _ _ ⟨Cond.after_iff.mpr rfl, Cond.after_iff.mpr (eq_i res_at (Term.int_eval (1)) rfl), trivial⟩ ⟨hq.1, hq.2.1, (hq.2.2.sift fun y hy => Or.inr (N y hy)).mono (by decide) (by decide)⟩⟩
theorem main_1_1 : Claimed_1_1 := own_comes fun _ _ _ _ _ _ h hF => ⟨h.1, hF⟩
theorem main_1_2 : Claimed_1_2 := own_comes fun _ _ _ _ _ _ h hF => ⟨h.2.1, hF⟩
end OwnClaim
end Jvm.Pilot.@@N@@
namespace Jvm.Pilot.@@N@@
open Jvm Jvm.ClassFile Sem Op Lib Jvm.Free Jvm.Stand Jvm.Pilot.@@N@@.Jvm.D
namespace start1
open Jvm.ClassFile
def u (s : String) : CpInfo := .utf8 (stringToUtf16 s)
/-- a pool by its gaps: so many unusable entries, then the entry; so many at the end -/
def gap : Nat → List CpInfo → List CpInfo
  | 0, r => r
  | n + 1, r => .unusable :: gap n r
def poolList (es : List (Nat × CpInfo)) (last : Nat) : List CpInfo := es.foldr (fun e r => gap e.1 (e.2 :: r)) (gap last [])
def pool (es : List (Nat × CpInfo)) (last : Nat) : Array CpInfo := ⟨poolList es last⟩
def fileOf (pool : Array CpInfo) (this : Nat) (attrs : Array Attribute := #[]) (ms : Array MethodInfo := #[]) (fl : Nat := 33) (sup : Nat := 0) (ifs : Array Nat := #[]) (fds : Array FieldInfo := #[]) : ClassFile where
  minorVersion := 0
  majorVersion := 65
  constantPool := pool
  accessFlags := fl
  thisClass := this
  superClass := sup
  interfaces := ifs
  fields := fds
  methods := ms
  attributes := attrs
def plain (name : String) (sup : Option ClassId) : Class where
  name := name
  kind := .ordinary
  loader := none
  accessFlags := 33
  super := sup
  interfaces := #[]
  cf := none
  fields := #[]
  methods := #[]
  instanceTypes := #[]
  staticTypes := #[]
  resolved := #[]
  callSites := []
  init := .initialized
  statics := none
  mirror := none

def pool0 : Array CpInfo := pool [(5, u "<init>"), (0, u "()V"), (1, .class_ 10), (1, u "java/lang/Object")] 113

def k0m0 : Method := { name := "<init>", desc := "()V", sig := { parameters := [], returnType := none }, accessFlags := 1, code := none }
/-- java/lang/Object -/
def k0 : Class := { plain "java/lang/Object" none with
  accessFlags := 33
  interfaces := #[]
  cf := some (fileOf pool0 8 #[] #[{ accessFlags := 1, nameIndex := 5, descriptorIndex := 6, attributes := #[] }] 33 0 #[] #[])
  fields := #[]
  methods := #[k0m0]
  instanceTypes := #[]
  staticTypes := #[]
  resolved := Array.replicate 124 none
  statics := none }

def pool1 : Array CpInfo := pool [(2, .class_ 4), (1, u "java/lang/Object"), (0, u "<init>"), (0, u "()V"), (0, .methodref 8 9), (0, .class_ 10), (0, .nameAndType 11 12), (0, u "com/example/tangentia/tangentia/flash/StabilityTest"), (0, u "presentComponents"), (0, u "([D)[I"), (0, .class_ 14), (0, u "com/example/tangentia/tangentia/flash/StabilityTestPresentComponentsPinLaw"), (2, u "law"), (0, u "(IIII)Z")] 7

def k1m0 : Method := { name := "<init>", desc := "()V", sig := { parameters := [], returnType := none }, accessFlags := 2, code := none }
def k1c1 : Code := { maxStack := 4, maxLocals := 10, code := code, exceptionTable := #[], attributes := #[] }
def k1m1 : Method := { name := "law", desc := "(IIII)Z", sig := { parameters := [.int, .int, .int, .int], returnType := some .boolean }, accessFlags := 9, code := some k1c1 }
/-- com/example/tangentia/tangentia/flash/StabilityTestPresentComponentsPinLaw -/
def k1 : Class := { plain "com/example/tangentia/tangentia/flash/StabilityTestPresentComponentsPinLaw" (some 0) with
  accessFlags := 49
  interfaces := #[]
  cf := some (fileOf pool1 13 #[] #[{ accessFlags := 2, nameIndex := 5, descriptorIndex := 6, attributes := #[] }, { accessFlags := 9, nameIndex := 17, descriptorIndex := 18, attributes := #[] }] 49 2 #[] #[])
  fields := #[]
  methods := #[k1m0, k1m1]
  instanceTypes := #[]
  staticTypes := #[]
  resolved := Array.replicate 26 none
  statics := none }

def pool2 : Array CpInfo := pool [(2, .class_ 4), (1, u "java/lang/Object"), (6, .class_ 13), (1, u "com/example/tangentia/tangentia/flash/StabilityTest"), (0, u "known"), (0, u "Ljava/util/List;"), (2, u "knownCompositions"), (2, u "trials"), (2, u "unstable"), (0, .class_ 26), (0, u "com/example/tangentia/tangentia/flash/StabilityTest$Point"), (2, u "points"), (0, u "[Lcom/example/tangentia/tangentia/flash/StabilityTest$Point;"), (12, u "model"), (0, u "Lcom/example/tangentia/tangentia/flash/PhaseModel;"), (2, u "tested"), (0, u "[D"), (2, u "answerPhases"), (0, u "[[D"), (2, u "presentComponents"), (0, u "([D)[I"), (2, u "present"), (0, u "[I"), (2, u "reference"), (18, u "wilsonStarts"), (4, .class_ 89), (1, u "com/example/tangentia/tangentia/flash/StabilityTest$PureTrials"), (4, u "pure"), (0, u "Lcom/example/tangentia/tangentia/flash/StabilityTest$PureTrials;"), (17, .class_ 115), (1, u "com/example/tangentia/tangentia/flash/StabilityTest$Trial"), (14, u "shallowNext"), (0, u "I"), (127, u "D"), (55, u "cholesky"), (0, u "Lcom/example/tangentia/tangentia/flash/Cholesky;"), (8, u "derivatives"), (2, u "hessian"), (22, u "THRESHOLD"), (1, u "SHALLOW_THRESHOLD"), (0, u "TOLERANCE"), (0, u "SUBSTITUTIONS"), (1, u "ACCELERATION"), (1, u "FASTEST_RATE"), (0, u "MAX_STEPS"), (1, u "HALVINGS"), (1, u "TRACE"), (0, u "SAME_PHASE")] 26

def k2c0 : Code := { maxStack := 5, maxLocals := 7, code := prog_32_method_14_code, exceptionTable := #[], attributes := #[] }
def k2m0 : Method := { name := "presentComponents", desc := "([D)[I", sig := { parameters := [(.array .double)], returnType := some (.array .int) }, accessFlags := 8, code := some k2c0 }
/-- com/example/tangentia/tangentia/flash/StabilityTest -/
def k2 : Class := { plain "com/example/tangentia/tangentia/flash/StabilityTest" (some 0) with
  accessFlags := 48
  interfaces := #[]
  cf := some (fileOf pool2 11 #[.nestMembers #[87, 25, 113]] #[{ accessFlags := 8, nameIndex := 55, descriptorIndex := 56, attributes := #[] }] 48 2 #[] #[{ accessFlags := 24, nameIndex := 351, descriptorIndex := 259, attributes := #[] }, { accessFlags := 24, nameIndex := 353, descriptorIndex := 259, attributes := #[] }, { accessFlags := 26, nameIndex := 354, descriptorIndex := 259, attributes := #[] }, { accessFlags := 26, nameIndex := 355, descriptorIndex := 131, attributes := #[] }, { accessFlags := 26, nameIndex := 357, descriptorIndex := 131, attributes := #[] }, { accessFlags := 26, nameIndex := 359, descriptorIndex := 259, attributes := #[] }, { accessFlags := 26, nameIndex := 360, descriptorIndex := 131, attributes := #[] }, { accessFlags := 26, nameIndex := 362, descriptorIndex := 131, attributes := #[] }, { accessFlags := 26, nameIndex := 364, descriptorIndex := 259, attributes := #[] }, { accessFlags := 24, nameIndex := 365, descriptorIndex := 259, attributes := #[] }, { accessFlags := 18, nameIndex := 43, descriptorIndex := 44, attributes := #[] }, { accessFlags := 18, nameIndex := 47, descriptorIndex := 48, attributes := #[] }, { accessFlags := 18, nameIndex := 59, descriptorIndex := 60, attributes := #[] }, { accessFlags := 18, nameIndex := 63, descriptorIndex := 48, attributes := #[] }, { accessFlags := 18, nameIndex := 14, descriptorIndex := 15, attributes := #[] }, { accessFlags := 18, nameIndex := 18, descriptorIndex := 15, attributes := #[] }, { accessFlags := 18, nameIndex := 82, descriptorIndex := 15, attributes := #[] }, { accessFlags := 18, nameIndex := 94, descriptorIndex := 95, attributes := #[] }, { accessFlags := 18, nameIndex := 21, descriptorIndex := 15, attributes := #[] }, { accessFlags := 18, nameIndex := 24, descriptorIndex := 15, attributes := #[] }, { accessFlags := 18, nameIndex := 51, descriptorIndex := 52, attributes := #[] }, { accessFlags := 2, nameIndex := 130, descriptorIndex := 131, attributes := #[] }, { accessFlags := 18, nameIndex := 29, descriptorIndex := 30, attributes := #[] }, { accessFlags := 2, nameIndex := 325, descriptorIndex := 52, attributes := #[] }, { accessFlags := 2, nameIndex := 328, descriptorIndex := 52, attributes := #[] }, { accessFlags := 2, nameIndex := 315, descriptorIndex := 316, attributes := #[] }])
  fields := #[{ name := "THRESHOLD", type := .double, accessFlags := 24, slot := 0, constantValue := 0 }, { name := "SHALLOW_THRESHOLD", type := .double, accessFlags := 24, slot := 1, constantValue := 0 }, { name := "TOLERANCE", type := .double, accessFlags := 26, slot := 2, constantValue := 0 }, { name := "SUBSTITUTIONS", type := .int, accessFlags := 26, slot := 3, constantValue := 0 }, { name := "ACCELERATION", type := .int, accessFlags := 26, slot := 4, constantValue := 0 }, { name := "FASTEST_RATE", type := .double, accessFlags := 26, slot := 5, constantValue := 0 }, { name := "MAX_STEPS", type := .int, accessFlags := 26, slot := 6, constantValue := 0 }, { name := "HALVINGS", type := .int, accessFlags := 26, slot := 7, constantValue := 0 }, { name := "TRACE", type := .double, accessFlags := 26, slot := 8, constantValue := 0 }, { name := "SAME_PHASE", type := .double, accessFlags := 24, slot := 9, constantValue := 0 }, { name := "model", type := (.object "com/example/tangentia/tangentia/flash/PhaseModel"), accessFlags := 18, slot := 0, constantValue := 0 }, { name := "tested", type := (.array .double), accessFlags := 18, slot := 1, constantValue := 0 }, { name := "present", type := (.array .int), accessFlags := 18, slot := 2, constantValue := 0 }, { name := "reference", type := (.array .double), accessFlags := 18, slot := 3, constantValue := 0 }, { name := "known", type := (.object "java/util/List"), accessFlags := 18, slot := 4, constantValue := 0 }, { name := "knownCompositions", type := (.object "java/util/List"), accessFlags := 18, slot := 5, constantValue := 0 }, { name := "wilsonStarts", type := (.object "java/util/List"), accessFlags := 18, slot := 6, constantValue := 0 }, { name := "pure", type := (.object "com/example/tangentia/tangentia/flash/StabilityTest$PureTrials"), accessFlags := 18, slot := 7, constantValue := 0 }, { name := "trials", type := (.object "java/util/List"), accessFlags := 18, slot := 8, constantValue := 0 }, { name := "unstable", type := (.object "java/util/List"), accessFlags := 18, slot := 9, constantValue := 0 }, { name := "answerPhases", type := (.array (.array .double)), accessFlags := 18, slot := 10, constantValue := 0 }, { name := "shallowNext", type := .int, accessFlags := 2, slot := 11, constantValue := 0 }, { name := "points", type := (.array (.object "com/example/tangentia/tangentia/flash/StabilityTest$Point")), accessFlags := 18, slot := 12, constantValue := 0 }, { name := "derivatives", type := (.array (.array .double)), accessFlags := 2, slot := 13, constantValue := 0 }, { name := "hessian", type := (.array (.array .double)), accessFlags := 2, slot := 14, constantValue := 0 }, { name := "cholesky", type := (.object "com/example/tangentia/tangentia/flash/Cholesky"), accessFlags := 2, slot := 15, constantValue := 0 }]
  methods := #[k2m0]
  instanceTypes := #[(.object "com/example/tangentia/tangentia/flash/PhaseModel"), (.array .double), (.array .int), (.array .double), (.object "java/util/List"), (.object "java/util/List"), (.object "java/util/List"), (.object "com/example/tangentia/tangentia/flash/StabilityTest$PureTrials"), (.object "java/util/List"), (.object "java/util/List"), (.array (.array .double)), .int, (.array (.object "com/example/tangentia/tangentia/flash/StabilityTest$Point")), (.array (.array .double)), (.array (.array .double)), (.object "com/example/tangentia/tangentia/flash/Cholesky")]
  staticTypes := #[.double, .double, .double, .int, .int, .double, .int, .int, .double, .double]
  resolved := Array.replicate 392 none
  statics := none }

def pool3 : Array CpInfo := pool [(1, u "java/lang/Cloneable"), (0, .class_ 1), (0, u "java/lang/Object"), (0, .class_ 3)] 3

/-- java/lang/Cloneable -/
def k3 : Class := { plain "java/lang/Cloneable" (some 0) with
  accessFlags := 1537
  interfaces := #[]
  cf := some (fileOf pool3 2 #[] #[] 1537 4 #[] #[])
  fields := #[]
  methods := #[]
  instanceTypes := #[]
  staticTypes := #[]
  resolved := Array.replicate 8 none
  statics := none }

def pool4 : Array CpInfo := pool [(1, u "java/io/Serializable"), (0, .class_ 1), (0, u "java/lang/Object"), (0, .class_ 3)] 3

/-- java/io/Serializable -/
def k4 : Class := { plain "java/io/Serializable" (some 0) with
  accessFlags := 1537
  interfaces := #[]
  cf := some (fileOf pool4 2 #[] #[] 1537 4 #[] #[])
  fields := #[]
  methods := #[]
  instanceTypes := #[]
  staticTypes := #[]
  resolved := Array.replicate 8 none
  statics := none }

/-- the primitive byte -/
def k5 : Class := { plain "byte" none with kind := .primitive 'B', accessFlags := 0x411 }
/-- [B -/
def k6 : Class := { plain "[B" (some 0) with kind := .array 5 .byte, interfaces := #[3, 4], accessFlags := 1041 }

/-- the primitive double -/
def k7 : Class := { plain "double" none with kind := .primitive 'D', accessFlags := 0x411 }
/-- [D -/
def k8 : Class := { plain "[D" (some 0) with kind := .array 7 .double, interfaces := #[3, 4], accessFlags := 1041 }

/-- the primitive int -/
def k9 : Class := { plain "int" none with kind := .primitive 'I', accessFlags := 0x411 }
/-- [I -/
def k10 : Class := { plain "[I" (some 0) with kind := .array 9 .int, interfaces := #[3, 4], accessFlags := 1041 }

def heap : Heap := #[]
def classes : Array Class := #[k0, k1, k2, k3, k4, k5, k6, k7, k8, k9, k10]
def interned : List (Array UInt16 × Addr) := []
def slotsUsed : Nat := 0
def theMethod : MethodId := ⟨1, 1⟩
def args0 : Array Value := #[.int 5, .int 7, .int (-1), .int 3]
def aboutOver (below : List Frame) : State where
  vm := { classes := classes, interned := interned.toArray }
  heap := heap
  slotsUsed := slotsUsed
  threads := #[{ frames := .invoking theMethod args0 :: below }]
def below0 : List Frame := [.native { method := ⟨0, 0⟩, args := #[] }]
def about1 : State := aboutOver below0
def p0 : Program := .bare "" "" ""
def e0 : Env := launch0.env 0 0 0
theorem w_frames : about1.frames = Frame.invoking theMethod args0 :: below0 := rfl
set_option maxRecDepth 65536 in
theorem w_args : argsFit about1.vm theMethod args0 = true := by decide +kernel
set_option maxRecDepth 65536 in
theorem w_heap : heapFits about1 = true := by decide +kernel
set_option maxRecDepth 65536 in
theorem w_runnable : about1.curStatus? = some .runnable := by decide +kernel
set_option maxRecDepth 65536 in
theorem w_alone : about1.alone = true := by decide +kernel
set_option maxRecDepth 65536 in
theorem w_named : about1.methodNamed? x = some theMethod := by decide +kernel
set_option maxRecDepth 65536 in
theorem w_hears : about1.hears theMethod below0 = true := by decide +kernel
set_option maxRecDepth 65536 in
theorem w_ripe : about1.ripe theMethod args0 below0 = true := by decide +kernel
theorem w_running : about1.status = .running := rfl
set_option maxRecDepth 65536 in
theorem w_room : about1.hasRoom e0.platform room_1 = true :=
  launch0.hasRoom_least _ room_1 (by decide +kernel) (by decide +kernel) (by decide +kernel) (by decide +kernel) (by decide +kernel) (by decide +kernel)
theorem allAtoms_all (ts : List Jvm.Cond) (a : Array Jvm.Value) (st : Jvm.State) : (allAtoms ts).before a st = ts.all (fun c => c.before a st) := by
  induction ts with
  | nil => rfl
  | cons c t ih =>
    show (Jvm.Cond.and c (allAtoms t)).before a st = _
    rw [Jvm.Cond.before_and, ih, List.all_cons]
def words1 : List Jvm.Cond := Jvm.Cond.code x code maxLocals ret :: tables_1
/-- a 'code' word, met by the world's own term for the bytes: nothing is compared byte by byte -/
theorem code_word {y : MethodName} {bytes : ByteArray} {mx : Nat} {rt : Option FieldType} {a : Array Value} {s : State} {m : MethodId} {meth : Method} {c : Code} (h1 : s.methodNamed? y = some m) (h2 : s.vm.method? m = some meth) (h3 : meth.code = some c) (h4 : c.code = bytes)
    (h5 : (c.maxLocals == mx && c.exceptionTable.isEmpty && decide (c.maxStack ≤ mostOperands) && decide (meth.sig.returnType = rt) && !meth.locks && decide (parseMethodDescriptor y.desc = some meth.sig)) = true) : (Jvm.Cond.code y bytes mx rt).before a s = true := by
  simp only [Bool.and_eq_true, beq_iff_eq, Bool.not_eq_true', decide_eq_true_eq] at h5
  obtain ⟨⟨⟨⟨⟨g1, g2⟩, g3⟩, g4⟩, g5⟩, g6⟩ := h5
  simp [Cond.before, Cond.holds, Cond.value, h1, h2, h3, h4, g1, g2, g3, g4, g5, g6]
def isCode : Jvm.Cond → Bool
  | .code _ _ _ _ => true
  | _ => false
theorem all_split {L : List Jvm.Cond} {P : Jvm.Cond → Bool} (h1 : L.all (fun c => isCode c || P c) = true) (h2 : ∀ c ∈ L.filter isCode, P c = true) : L.all P = true := by
  refine List.all_eq_true.mpr fun c hc => ?_
  have h := List.all_eq_true.mp h1 c hc
  rcases Bool.eq_false_or_eq_true (isCode c) with hi | hi
  · exact h2 c (List.mem_filter.mpr ⟨hc, hi⟩)
  · simpa [hi] using h
set_option maxRecDepth 65536 in
theorem w_c0 : (Jvm.Cond.code x code maxLocals ret).before args0 about1 = true := code_word (m := ⟨1, 1⟩) (meth := k1m1) (c := k1c1) (by decide +kernel) rfl rfl rfl (by decide +kernel)
set_option maxRecDepth 65536 in
theorem w_c1 : (Jvm.Cond.code ({ cls := "com/example/tangentia/tangentia/flash/StabilityTest", name := "presentComponents", desc := "([D)[I" } : Jvm.MethodName) prog_32_method_14_code (7 : Nat) (Option.some (Jvm.ClassFile.FieldType.array Jvm.ClassFile.FieldType.int))).before args0 about1 = true := code_word (m := ⟨2, 0⟩) (meth := k2m0) (c := k2c0) (by decide +kernel) rfl rfl rfl (by decide +kernel)
def codes1 : List Jvm.Cond := [Jvm.Cond.code x code maxLocals ret, Jvm.Cond.code ({ cls := "com/example/tangentia/tangentia/flash/StabilityTest", name := "presentComponents", desc := "([D)[I" } : Jvm.MethodName) prog_32_method_14_code (7 : Nat) (Option.some (Jvm.ClassFile.FieldType.array Jvm.ClassFile.FieldType.int))]
set_option maxRecDepth 65536 in
theorem codes_eq : words1.filter isCode = codes1 := rfl
theorem w_codes : ∀ c ∈ words1.filter isCode, c.before args0 about1 = true := by
  rw [codes_eq]
  intro c hc
  simp only [codes1, List.mem_cons, List.not_mem_nil, or_false] at hc
  rcases hc with rfl | rfl
  · exact w_c0
  · exact w_c1
set_option maxRecDepth 65536 in
theorem w_t1 : words1.all (fun c => isCode c || c.before args0 about1) = true := by decide +kernel
theorem w_tables : (allAtoms (Jvm.Cond.code x code maxLocals ret :: tables_1)).before args0 about1 = true := by
  rw [allAtoms_all]
  show words1.all (fun c => c.before args0 about1) = true
  refine all_split ?_ w_codes
  rw [w_t1]
set_option maxRecDepth 65536 in
theorem w_case : (Jvm.Cond.and given_1 narrow_1).before args0 about1 = true := by decide +kernel
theorem w_applies : (headSpec (Jvm.Cond.code x code maxLocals ret :: tables_1) room_1).applies x e0.platform about1 = true :=
  (Spec.applies_iff w_frames).mpr ⟨w_running, w_runnable, w_alone, w_named, w_hears, w_ripe, w_room, w_tables⟩
theorem atStart : AtStart classFile x code maxLocals ret World_1 tables_1 room_1 Calls_1 rest_1 Pre_1 launch0 p0 e0 about1 theMethod args0 below0 :=
  ⟨lists_1, trivial, launch0.admits_env _ _ _, launch0.least_env, fairChoices_fair.cas, fairChoices_fair.clock, w_frames, w_args, w_heap, w_applies, trivial, trivial, w_case⟩
end start1
theorem witness_1 : WitnessClaimed_1 := ⟨start1.p0, start1.e0, start1.about1, start1.theMethod, start1.args0, start1.below0, start1.atStart⟩
end Jvm.Pilot.@@N@@
