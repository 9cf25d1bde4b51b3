/- Finite float64 words, continued: the whole part; whole numbers from -2^20 to 2^20. Conditions are stated at each lemma. -/
import Derived.Test.YtiphlifnmmplaaaFl
namespace Go.Fl
open Ieee

/-! The whole part. -/
theorem cut_zero (s : Bool) (n drop : Nat) : Toward.zero.cut s n drop = n / 2 ^ drop := by
  unfold Toward.cut
  dsimp only
  rw [Bool.toNat_false, Nat.add_zero, Nat.shiftLeft_eq, Nat.one_mul]
  by_cases h : drop ≤ n.log2 + 2
  · rw [Nat.min_eq_left h]
  · have h' : n.log2 + 2 ≤ drop := by omega
    rw [Nat.min_eq_right h']
    have h1 : n < 2 ^ (n.log2 + 1) := Nat.lt_log2_self
    have h2 : 2 ^ (n.log2 + 2) = 2 * 2 ^ (n.log2 + 1) := by rw [Nat.pow_succ]; omega
    have h3 : 2 ^ (n.log2 + 2) ≤ 2 ^ drop := Nat.pow_le_pow_right (by omega) h'
    rw [Nat.div_eq_of_lt (by omega), Nat.div_eq_of_lt (by omega)]

/-- The greatest whole number not above 'm * 2 ^ p'. -/
def wholeOf (m : Nat) (p : Int) : Nat := (m <<< p.toNat) / 2 ^ (-p).toNat

theorem wholeOf_le (m : Nat) (p : Int) : (wholeOf m p : Rat) ≤ (m : Rat) * (2 : Rat) ^ p ∧ (m : Rat) * (2 : Rat) ^ p < (wholeOf m p : Rat) + 1 := by
  unfold wholeOf
  have h1 := mag_shift m p 0
  rw [Rat.zpow_zero, Rat.mul_one] at h1
  have e1 : ((0 : Int) - p).toNat = (-p).toNat := by omega
  have e2 : (p - 0).toNat = p.toNat := by omega
  rw [e1, e2] at h1
  generalize m <<< p.toNat = n at *
  generalize (m : Rat) * (2 : Rat) ^ p = q at *
  have hg : (0 : Rat) < (2 : Rat) ^ (-p).toNat := Rat.pow_pos two_pos
  have hd := Nat.div_add_mod n (2 ^ (-p).toNat)
  have hm := Nat.mod_lt n (Nat.two_pow_pos (-p).toNat)
  rw [← pow_cast] at h1 hg
  generalize 2 ^ (-p).toNat = g at *
  generalize n / g = k at *
  generalize n % g = r at *
  have c1 : (n : Rat) = (g : Rat) * (k : Rat) + (r : Rat) := by rw [← hd]; push_cast; rfl
  have c2 : (0 : Rat) ≤ (r : Rat) := by exact_mod_cast Nat.zero_le r
  have c3 : (r : Rat) < (g : Rat) := by exact_mod_cast hm
  constructor
  · apply (rmul_le hg).1
    rw [h1, c1]; grind
  · apply (Rat.mul_lt_mul_right hg).1
    rw [h1, c1]; grind

theorem integral_number (s : Bool) (m : Nat) (p : Int) : (Datum.number s m p).integral .zero = .number s (wholeOf m p) 0 := by
  simp only [Datum.integral, cut_zero]; rfl

theorem rep_nat {k : Nat} (h : k ≤ 9007199254740992) (s : Bool) : Rep (valD (.number s k 0)) := by
  cases s
  · simp only [valD, Rat.zpow_zero, Rat.mul_one, Bool.false_eq_true, if_false]
    rw [← Rat.intCast_natCast]; exact Rep.int (by omega) (by omega)
  · simp only [valD, Rat.zpow_zero, Rat.mul_one, if_true]
    rw [← Rat.intCast_natCast, ← Rat.intCast_neg]; exact Rep.int (by omega) (by omega)

theorem signed_int (s : Bool) (k : Nat) : valD (.number s k 0) = (((if s then -(k : Int) else (k : Int)) : Int) : Rat) := by
  cases s
  · simp only [valD, Rat.zpow_zero, Rat.mul_one, Bool.false_eq_true, if_false]; rw [← Rat.intCast_natCast]
  · simp only [valD, Rat.zpow_zero, Rat.mul_one, if_true]; rw [← Rat.intCast_natCast, ← Rat.intCast_neg]

/-- The whole part of a number that is not too great. -/
theorem trunc_number {x : Nat} {s : Bool} {m : Nat} {p : Int} (h : double.read x = .number s m p) (hk : wholeOf m p ≤ 9007199254740992) :
    IntV (double.write ((double.read x).integral .zero)) (if s then -(wholeOf m p : Int) else (wholeOf m p : Int)) := by
  rw [h, integral_number]
  have hs : Small (valD (.number s (wholeOf m p) 0)) := by
    rw [signed_int]; cases s
    · exact small_int (by simp <;> omega) (by simp <;> omega)
    · exact small_int (by simp <;> omega) (by simp <;> omega)
  obtain ⟨v, h5, h6⟩ := write_small s (wholeOf m p) 0 hs
  have := h6.exact (rep_nat hk s)
  subst this
  unfold IntV
  rw [← signed_int]; exact h5

/-- The word stands for a whole number, from -2^20 to 2^20. -/
def Whole (x : Nat) : Prop := ∃ n, IntV x n ∧ -1048576 ≤ n ∧ n ≤ 1048576
open Classical in
noncomputable def wholeB (x : Nat) : Bool := decide (Whole x)

theorem wholeB_true {x : Nat} : wholeB x = true ↔ Whole x := by unfold wholeB; simp
theorem wholeB_false {x : Nat} : wholeB x = false ↔ ¬ Whole x := by unfold wholeB; simp

theorem read_write_inf (s : Bool) : double.read (double.write (.infinity s)) = .infinity s := by
  cases s <;> decide +kernel

def lowC : Nat := 13920626448202203136
def highC : Nat := 4697254411347427328
theorem lowC_v : IntV lowC (-1048576) := by
  refine ⟨true, 4503599627370496, -32, by decide +kernel, ?_⟩
  decide +kernel
theorem highC_v : IntV highC 1048576 := by
  refine ⟨false, 4503599627370496, -32, by decide +kernel, ?_⟩
  decide +kernel

theorem cmp_ge (x y : Rat) : ((some (cmp x y) == some Ordering.gt) || (some (cmp x y) == some Ordering.eq)) = decide (y ≤ x) := by
  unfold cmp
  by_cases h : x < y
  · have : ¬ y ≤ x := Rat.not_le.2 h
    simp [h, this]
  · have h2 : y ≤ x := Rat.not_lt.1 h
    by_cases h3 : x = y
    · simp [h3]
    · simp [h, h2, h3]
theorem cmp_le (x y : Rat) : ((some (cmp x y) == some Ordering.lt) || (some (cmp x y) == some Ordering.eq)) = decide (x ≤ y) := by
  unfold cmp
  by_cases h : x < y
  · have : x ≤ y := Rat.le_of_lt h
    simp [h, this]
  · by_cases h3 : x = y
    · simp [h3]
    · have : ¬ x ≤ y := fun hh => h (Rat.lt_of_le_of_ne hh h3)
      simp [h, h3, this]
theorem cmp_eq (x y : Rat) : (some (cmp x y) == some Ordering.eq) = decide (x = y) := by
  unfold cmp
  by_cases h : x < y
  · have : x ≠ y := fun e => by rw [e] at h; exact Rat.lt_irrefl h
    simp [h, this]
  · by_cases h3 : x = y
    · simp [h3]
    · simp [h, h3]

/-- The three tests of 'whole, from -2^20 to 2^20' are all met just where the word is so. -/
theorem whole_tests (x t : Nat) (ht : (double.read x).isNaN = false → t = double.write ((double.read x).integral .zero)) :
    ((double.order x t == some .eq) && (double.order x lowC == some .gt || double.order x lowC == some .eq) && (double.order x highC == some .lt || double.order x highC == some .eq)) = wholeB x := by
  cases h : double.read x with
  | nan s f =>
    have hw : ¬ Whole x := by rintro ⟨n, ⟨s', m, p, h1, _⟩, _⟩; rw [h] at h1; cases h1
    rw [wholeB_false.2 hw]
    have : double.order x t = none := by unfold Format.order; rw [h]; rfl
    rw [this]; rfl
  | infinity s =>
    have hw : ¬ Whole x := by rintro ⟨n, ⟨s', m, p, h1, _⟩, _⟩; rw [h] at h1; cases h1
    rw [wholeB_false.2 hw]
    obtain ⟨_, m1, p1, h1, _⟩ := lowC_v
    obtain ⟨_, m2, p2, h2, _⟩ := highC_v
    have o1 : double.order x lowC = some (if s then .lt else .gt) := by unfold Format.order; rw [h, h1]; rfl
    have o2 : double.order x highC = some (if s then .lt else .gt) := by unfold Format.order; rw [h, h2]; rfl
    rw [o1, o2]
    cases s <;> simp
  | number s m p =>
    have hx : Fv x (valD (.number s m p)) := ⟨s, m, p, h, rfl⟩
    rw [order_fv hx lowC_v, order_fv hx highC_v, cmp_ge, cmp_le]
    by_cases hb : ((-1048576 : Int) : Rat) ≤ valD (.number s m p) ∧ valD (.number s m p) ≤ ((1048576 : Int) : Rat)
    · obtain ⟨b1, b2⟩ := hb
      rw [decide_eq_true b1, decide_eq_true b2, Bool.and_true, Bool.and_true]
      have hq : (m : Rat) * (2 : Rat) ^ p ≤ ((1048576 : Int) : Rat) := by
        cases s
        · simpa [valD] using b2
        · simp only [valD, if_true] at b1
          rw [Rat.intCast_neg] at b1
          grind
      have ⟨w1, w2⟩ := wholeOf_le m p
      have hk : wholeOf m p ≤ 1048576 := by
        have := Rat.le_trans w1 hq
        rw [← Rat.intCast_natCast, Rat.intCast_le_intCast] at this
        omega
      have htv := trunc_number h (by omega)
      have ht2 : t = double.write ((double.read x).integral .zero) := ht (by rw [h]; rfl)
      rw [← ht2] at htv
      rw [order_fv hx htv, cmp_eq]
      by_cases he : valD (.number s m p) = (((if s then -(wholeOf m p : Int) else (wholeOf m p : Int)) : Int) : Rat)
      · rw [decide_eq_true he]
        have : Whole x := ⟨_, by unfold IntV; rw [← he]; exact hx, by cases s <;> simp <;> omega, by cases s <;> simp <;> omega⟩
        rw [wholeB_true.2 this]
      · rw [decide_eq_false he]
        symm
        rw [wholeB_false]
        rintro ⟨n, hn, n1, n2⟩
        apply he
        have e := Fv.unique hx hn
        -- the whole part of a whole number is itself
        have : n = (if s then -(wholeOf m p : Int) else (wholeOf m p : Int)) := by
          rw [e] at b1 b2
          cases s
          · simp only [valD, Bool.false_eq_true, if_false] at e ⊢
            rw [e, ← Rat.intCast_natCast] at w1 w2
            have k1 := Rat.intCast_le_intCast.1 w1
            have : ((wholeOf m p : Int) : Rat) + 1 = (((wholeOf m p : Int) + 1 : Int) : Rat) := by rw [Rat.intCast_add]; rfl
            rw [this] at w2
            have k2 := Rat.intCast_lt_intCast.1 w2
            omega
          · simp only [valD, if_true] at e ⊢
            have e' : (m : Rat) * (2 : Rat) ^ p = ((-n : Int) : Rat) := by rw [Rat.intCast_neg]; grind
            rw [e', ← Rat.intCast_natCast] at w1 w2
            have k1 := Rat.intCast_le_intCast.1 w1
            have : ((wholeOf m p : Int) : Rat) + 1 = (((wholeOf m p : Int) + 1 : Int) : Rat) := by rw [Rat.intCast_add]; rfl
            rw [this] at w2
            have k2 := Rat.intCast_lt_intCast.1 w2
            omega
        rw [e, this]
    · have hw : ¬ Whole x := by
        rintro ⟨n, hn, n1, n2⟩
        have e := Fv.unique hx hn
        apply hb
        rw [e]
        exact ⟨Rat.intCast_le_intCast.2 n1, Rat.intCast_le_intCast.2 n2⟩
      rw [wholeB_false.2 hw]
      by_cases c1 : ((-1048576 : Int) : Rat) ≤ valD (.number s m p)
      · have c2 : ¬ valD (.number s m p) ≤ ((1048576 : Int) : Rat) := fun c => hb ⟨c1, c⟩
        rw [decide_eq_false c2, Bool.and_false]
      · rw [decide_eq_false c1, Bool.and_false, Bool.false_and]

end Go.Fl
