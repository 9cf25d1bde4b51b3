/- Finite float64 words, continued: which words are finite; the absolute value; the least and the greatest of two. Conditions are stated at each lemma. -/
import Derived.Test.YtiphlifnmmplaaaFm
namespace Go.Fl
open Ieee

/-- The word is finite. -/
def finB (x : Nat) : Bool := match double.read x with | .number .. => true | _ => false

theorem finB_fv {x : Nat} (h : finB x = true) : ∃ q, Fv x q := by
  unfold finB at h
  cases hd : double.read x with
  | number s m p => exact ⟨_, s, m, p, hd, rfl⟩
  | infinity s => rw [hd] at h; cases h
  | nan s t => rw [hd] at h; cases h

theorem Fv.fin {x : Nat} {q : Rat} (h : Fv x q) : finB x = true := by
  obtain ⟨s, m, p, h1, _⟩ := h
  unfold finB; rw [h1]

theorem order_self {x : Nat} : (double.order x x != some .eq) = (double.read x).isNaN := by
  unfold Format.order
  cases hd : double.read x with
  | number s m p =>
    rw [order_val rfl rfl]
    simp [cmp, Rat.lt_irrefl, Datum.isNaN]
  | infinity s => simp [Datum.order, Datum.isNaN]
  | nan s t => simp [Datum.order, Datum.isNaN]

/-- The absolute value's word. -/
def absB (x : Nat) : Nat := x % 9223372036854775808

theorem read_abs (x : Nat) : double.read (absB x) = match double.read x with | .number _ m p => .number false m p | .infinity _ => .infinity false | .nan _ t => .nan false t := by
  unfold absB Format.read
  rw [double_signWeight]
  dsimp only
  have e1 : (x % 9223372036854775808 / 9223372036854775808 % 2 == 1) = false := by
    rw [Nat.div_eq_of_lt (Nat.mod_lt _ (by omega))]; rfl
  have e2 : x % 9223372036854775808 % 9223372036854775808 = x % 9223372036854775808 := Nat.mod_mod ..
  rw [e1, e2]
  split
  · rfl
  · split
    · rfl
    · split <;> rfl

theorem Fv.abs {x : Nat} {q : Rat} (h : Fv x q) : Fv (absB x) (if q < 0 then -q else q) := by
  obtain ⟨s, m, p, h1, h2⟩ := h
  refine ⟨false, m, p, by rw [read_abs, h1], ?_⟩
  have h3 := mag_nonneg m p
  subst h2
  cases s
  · simp only [valD, Bool.false_eq_true, if_false]
    rw [if_neg (Rat.not_lt.2 h3)]
  · simp only [valD, if_true, Bool.false_eq_true, if_false]
    by_cases hc : -(m : Rat) * (2 : Rat) ^ p < 0
    · rw [if_pos hc]; grind
    · rw [if_neg hc]
      have : -(m : Rat) * (2 : Rat) ^ p = -((m : Rat) * (2 : Rat) ^ p) := by grind
      rw [this] at hc ⊢
      have h4 := Rat.not_lt.1 hc
      grind

theorem read_bounds {x : Nat} {s : Bool} {m : Nat} {p : Int} (h : double.read x = .number s m p) : m ≤ 9007199254740991 ∧ p ≤ 971 ∧ -1074 ≤ p := by
  unfold Format.read at h
  rw [double_signWeight, double_binade, double_infRung, double_least] at h
  dsimp only at h
  generalize x % 9223372036854775808 = r at h
  split at h
  · cases h; omega
  · split at h
    · cases h
      rename_i h1 h2
      have : r / 4503599627370496 < 2047 := by omega
      omega
    · split at h <;> cases h

theorem max_read : double.read 9218868437227405311 = .number false 9007199254740991 971 := by decide +kernel

/-- 'IsInf' of a word that is no NaN. -/
theorem abs_gt_max {x : Nat} (h : (double.read x).isNaN = false) : (double.order (absB x) 9218868437227405311 == some .gt) = !(finB x) := by
  unfold Format.order finB
  rw [read_abs, max_read]
  cases hd : double.read x with
  | nan s t => rw [hd] at h; cases h
  | infinity s => rfl
  | number s m p =>
    obtain ⟨h1, h2, _⟩ := read_bounds hd
    dsimp only
    rw [order_val rfl rfl]
    have h3 : valD (.number false m p) ≤ valD (.number false 9007199254740991 971) := by
      simp only [valD, Bool.false_eq_true, if_false]
      have k1 : (m : Rat) ≤ ((9007199254740991 : Nat) : Rat) := Rat.natCast_le_natCast.2 h1
      have k2 := (rmul_le (zpow_pos p)).2 k1
      have k3 := Rat.mul_le_mul_of_nonneg_left (zpow_le h2) (show (0 : Rat) ≤ ((9007199254740991 : Nat) : Rat) by decide +kernel)
      exact Rat.le_trans k2 k3
    have h4 := Rat.not_lt.2 h3
    unfold cmp
    split
    · rfl
    · split
      · rfl
      · rename_i c1 c2
        exact absurd (Rat.lt_of_le_of_ne h3 c2) c1

/-- 'min' and 'max' of two finite words. -/
def minF (x y : Nat) : Nat := match double.order x y with | some .lt => x | some .gt => y | _ => if (double.read x).neg then x else y
def maxF (x y : Nat) : Nat := match double.order x y with | some .lt => y | some .gt => x | _ => if (double.read x).neg then y else x

theorem minF_fv {x y : Nat} {p q : Rat} (hx : Fv x p) (hy : Fv y q) : Fv (minF x y) (if p ≤ q then p else q) := by
  unfold minF
  rw [order_fv hx hy]
  unfold cmp
  by_cases h : p < q
  · rw [if_pos h, if_pos (Rat.le_of_lt h)]; exact hx
  · rw [if_neg h]
    by_cases h2 : p = q
    · subst h2
      rw [if_pos rfl, if_pos Rat.le_refl]
      dsimp only
      split
      · exact hx
      · exact hy
    · rw [if_neg h2, if_neg (fun h3 => h (Rat.lt_of_le_of_ne h3 h2))]
      exact hy
theorem maxF_fv {x y : Nat} {p q : Rat} (hx : Fv x p) (hy : Fv y q) : Fv (maxF x y) (if p ≤ q then q else p) := by
  unfold maxF
  rw [order_fv hx hy]
  unfold cmp
  by_cases h : p < q
  · rw [if_pos h, if_pos (Rat.le_of_lt h)]; exact hy
  · rw [if_neg h]
    by_cases h2 : p = q
    · subst h2
      rw [if_pos rfl, if_pos Rat.le_refl]
      dsimp only
      split
      · exact hy
      · exact hx
    · rw [if_neg h2, if_neg (fun h3 => h (Rat.lt_of_le_of_ne h3 h2))]
      exact hx

theorem order_gt_fv {x y : Nat} {p q : Rat} (hx : Fv x p) (hy : Fv y q) : (double.order x y == some .gt) = decide (q < p) := by
  rw [order_fv hx hy]
  unfold cmp
  by_cases h : p < q
  · have : ¬ q < p := Rat.not_lt.2 (Rat.le_of_lt h)
    simp [h, this]
  · by_cases h2 : p = q
    · subst h2; simp [h]
    · have : q < p := Rat.lt_of_le_of_ne (Rat.not_lt.1 h) (fun e => h2 e.symm)
      simp [h, h2, this]
theorem order_lt_fv {x y : Nat} {p q : Rat} (hx : Fv x p) (hy : Fv y q) : (double.order x y == some .lt) = decide (p < q) := by
  rw [order_fv hx hy]
  unfold cmp
  by_cases h : p < q
  · simp [h]
  · by_cases h2 : p = q
    · subst h2; simp [h]
    · simp [h, h2]
theorem order_eq_fv {x y : Nat} {p q : Rat} (hx : Fv x p) (hy : Fv y q) : (double.order x y == some .eq) = decide (p = q) := by
  rw [order_fv hx hy, cmp_eq]
theorem order_le_fv {x y : Nat} {p q : Rat} (hx : Fv x p) (hy : Fv y q) : (double.order x y == some .lt || double.order x y == some .eq) = decide (p ≤ q) := by
  rw [order_fv hx hy, cmp_le]
theorem order_ge_fv {x y : Nat} {p q : Rat} (hx : Fv x p) (hy : Fv y q) : (double.order x y == some .gt || double.order x y == some .eq) = decide (q ≤ p) := by
  rw [order_fv hx hy, cmp_ge]

end Go.Fl
