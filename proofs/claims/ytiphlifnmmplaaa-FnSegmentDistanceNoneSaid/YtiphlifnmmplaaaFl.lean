/- Finite float64 words as rational numbers: what a word stands for, and what sums, products and comparisons of such words give. Conditions are stated at each lemma. -/
import Derived.WalkLawsBesides
namespace Go.Fl
open Ieee

theorem rmul_le {a b c : Rat} (hc : 0 < c) : a * c ≤ b * c ↔ a ≤ b := by
  rw [← Rat.not_lt, ← Rat.not_lt, Rat.mul_lt_mul_right hc]

/-- The rational number that a finite datum stands for (0 for others). -/
def valD : Datum → Rat
  | .number s m p => (if s then -(m : Rat) else (m : Rat)) * (2 : Rat) ^ p
  | _ => 0

/-- The word b is finite and stands for q. -/
def Fv (b : Nat) (q : Rat) : Prop := ∃ s m p, double.read b = .number s m p ∧ valD (.number s m p) = q

theorem two_ne : (2 : Rat) ≠ 0 := by decide
theorem two_pos : (0 : Rat) < 2 := by decide

theorem zpow_pos (p : Int) : (0 : Rat) < (2 : Rat) ^ p := Rat.zpow_pos two_pos

theorem valD_opposite (d : Datum) : valD d.opposite = - valD d := by
  cases d with
  | number s m p => cases s <;> simp [Datum.opposite, valD] <;> grind
  | infinity s => simp [Datum.opposite, valD]
  | nan s t => simp [Datum.opposite, valD]

theorem shift_cast (m k : Nat) : ((m <<< k : Nat) : Rat) = (m : Rat) * (2 : Rat) ^ k := by
  rw [Nat.shiftLeft_eq]; push_cast; rfl

theorem signed_val (s : Bool) (m k : Nat) : ((signed s m k : Int) : Rat) = (if s then -(m : Rat) else (m : Rat)) * (2 : Rat) ^ k := by
  unfold signed
  have h := shift_cast m k
  cases s
  · simp only [Bool.false_eq_true, if_false]
    rw [Rat.intCast_natCast, h]
  · simp only [if_true]
    rw [Rat.intCast_neg, Rat.intCast_natCast, h]; grind

theorem zpow_split (i b : Int) (h : b ≤ i) : (2 : Rat) ^ i = (2 : Rat) ^ (i - b).toNat * (2 : Rat) ^ b := by
  have e : i = ((i - b).toNat : Int) + b := by omega
  rw [← Rat.zpow_natCast, ← Rat.zpow_add two_ne, ← e]

/-- A finite number above a common base. -/
theorem valD_base (s : Bool) (m : Nat) (i b : Int) (h : b ≤ i) : valD (.number s m i) = ((signed s m (i - b).toNat : Int) : Rat) * (2 : Rat) ^ b := by
  rw [signed_val, valD, zpow_split i b h, Rat.mul_assoc]

theorem mul_lt_iff (a b : Int) (p : Int) : (a : Rat) * (2 : Rat) ^ p < (b : Rat) * (2 : Rat) ^ p ↔ a < b := by
  rw [Rat.mul_lt_mul_right (zpow_pos p), Rat.intCast_lt_intCast]

theorem mul_eq_iff (a b : Int) (p : Int) : (a : Rat) * (2 : Rat) ^ p = (b : Rat) * (2 : Rat) ^ p ↔ a = b := by
  constructor
  · intro h
    have h1 := (mul_lt_iff a b p)
    have h2 := (mul_lt_iff b a p)
    rw [h] at h1 h2
    have h3 : ¬ a < b := fun x => Rat.lt_irrefl (h1.2 x)
    have h4 : ¬ b < a := fun x => Rat.lt_irrefl (h2.2 x)
    omega
  · rintro rfl; rfl

/-- How two rational numbers stand to each other. -/
def cmp (x y : Rat) : Ordering := if x < y then .lt else if x = y then .eq else .gt

theorem order_val {d e : Datum} {s m i t n j} (hd : d = .number s m i) (he : e = .number t n j) :
    d.order e = some (cmp (valD d) (valD e)) := by
  subst hd; subst he
  simp only [Datum.order, cmp]
  rw [valD_base s m i (min i j) (by omega), valD_base t n j (min i j) (by omega)]
  simp only [mul_lt_iff, mul_eq_iff, compare, compareOfLessAndEq]

theorem order_fv {a b : Nat} {x y : Rat} (ha : Fv a x) (hb : Fv b y) : double.order a b = some (cmp x y) := by
  obtain ⟨s, m, i, h1, rfl⟩ := ha
  obtain ⟨t, n, j, h2, rfl⟩ := hb
  unfold Format.order
  rw [order_val h1 h2, h1, h2]


/-! Rounding to the nearest word. -/
theorem cut_bounds (neg : Bool) (n drop : Nat) : 2 * (Toward.even.cut neg n drop * 2 ^ drop) ≤ 2 * n + 2 ^ drop ∧ 2 * n ≤ 2 * (Toward.even.cut neg n drop * 2 ^ drop) + 2 ^ drop := by
  unfold Toward.cut
  dsimp only
  by_cases h : drop ≤ n.log2 + 2
  · rw [Nat.min_eq_left h, Nat.shiftLeft_eq, Nat.one_mul]
    have hg : 0 < 2 ^ drop := Nat.two_pow_pos _
    generalize hG : 2 ^ drop = g at *
    have hn := Nat.div_add_mod n g
    have hr := Nat.mod_lt n hg
    generalize hl : n / g = low at *
    generalize hr' : n % g = rest at *
    have hc : g * low = low * g := Nat.mul_comm _ _
    cases hm : (decide (g < 2 * rest) || (g == 2 * rest && low % 2 == 1))
    · simp only [Bool.or_eq_false_iff, decide_eq_false_iff_not] at hm
      simp only [Bool.toNat_false, Nat.add_zero]
      omega
    · have : g ≤ 2 * rest := by
        simp only [Bool.or_eq_true, decide_eq_true_eq, Bool.and_eq_true, beq_iff_eq] at hm
        omega
      simp only [Bool.toNat_true, Nat.add_mul, Nat.one_mul]
      omega
  · have h' : n.log2 + 2 ≤ drop := by omega
    rw [Nat.min_eq_right h', Nat.shiftLeft_eq, Nat.one_mul]
    have h1 : n < 2 ^ (n.log2 + 1) := Nat.lt_log2_self
    have h2 : 2 ^ (n.log2 + 2) = 2 * 2 ^ (n.log2 + 1) := by rw [Nat.pow_succ]; omega
    have h3 : 2 ^ (n.log2 + 2) ≤ 2 ^ drop := Nat.pow_le_pow_right (by omega) h'
    rw [Nat.div_eq_of_lt (by omega), Nat.mod_eq_of_lt (by omega)]
    have hm : (decide (2 ^ (n.log2 + 2) < 2 * n) || (2 ^ (n.log2 + 2) == 2 * n && 0 % 2 == 1)) = false := by
      simp; omega
    rw [hm]
    simp
    omega

theorem cut_le {neg : Bool} {n drop c : Nat} (h : n ≤ c * 2 ^ drop) : Toward.even.cut neg n drop ≤ c := by
  have ⟨h1, _⟩ := cut_bounds neg n drop
  have hg : 0 < 2 ^ drop := Nat.two_pow_pos _
  generalize 2 ^ drop = g at *
  generalize Toward.even.cut neg n drop = k at *
  apply Nat.le_of_not_lt
  intro hlt
  have : (c + 1) * g ≤ k * g := Nat.mul_le_mul_right _ hlt
  rw [Nat.add_mul] at this
  omega

theorem le_cut {neg : Bool} {n drop c : Nat} (h : c * 2 ^ drop ≤ n) : c ≤ Toward.even.cut neg n drop := by
  have ⟨_, h1⟩ := cut_bounds neg n drop
  have hg : 0 < 2 ^ drop := Nat.two_pow_pos _
  generalize 2 ^ drop = g at *
  generalize Toward.even.cut neg n drop = k at *
  apply Nat.le_of_not_lt
  intro hlt
  have : (k + 1) * g ≤ c * g := Nat.mul_le_mul_right _ hlt
  rw [Nat.add_mul] at this
  omega

theorem double_binade : double.binade = 4503599627370496 := by decide
theorem double_infRung : double.infRung = 9218868437227405312 := by decide
theorem double_signWeight : double.signWeight = 9223372036854775808 := by decide
theorem double_least : double.leastPlace = -1074 := by decide

theorem read_word {neg : Bool} {r : Nat} (h : r < double.infRung) :
    double.read (double.word neg r) = if r < double.binade then .number neg r (-1074) else .number neg (double.binade + r % double.binade) (-1074 + (r / double.binade - 1 : Nat)) := by
  unfold Format.read Format.word
  rw [double_infRung] at *
  rw [double_signWeight, double_binade, double_least]
  cases neg
  · simp only [Bool.false_eq_true, if_false]
    have e1 : (r / 9223372036854775808 % 2 == 1) = false := by
      rw [Nat.div_eq_of_lt (by omega)]; rfl
    have e2 : r % 9223372036854775808 = r := Nat.mod_eq_of_lt (by omega)
    rw [e1, e2, if_pos h]
  · simp only [if_true]
    have e1 : ((9223372036854775808 + r) / 9223372036854775808 % 2 == 1) = true := by
      have : (9223372036854775808 + r) / 9223372036854775808 = 1 := by omega
      rw [this]; rfl
    have e2 : (9223372036854775808 + r) % 9223372036854775808 = r := by omega
    rw [e1, e2, if_pos h]

/-- The place of the last digit that is kept. -/
def lastOf (mag : Nat) (place : Int) : Int := max (place + mag.log2 - 52) (-1074)
/-- The digits that are kept. -/
def keptOf (mag : Nat) (place : Int) : Nat := Toward.even.cut false (mag <<< (place - lastOf mag place).toNat) (lastOf mag place - place).toNat

theorem cut_neg (neg : Bool) (n drop : Nat) : Toward.even.cut neg n drop = Toward.even.cut false n drop := rfl

theorem mag_shift (mag : Nat) (place last : Int) : (mag : Rat) * (2 : Rat) ^ place * (2 : Rat) ^ (last - place).toNat = ((mag <<< (place - last).toNat : Nat) : Rat) * (2 : Rat) ^ last := by
  rw [shift_cast]
  by_cases h : last ≤ place
  · have e : (last - place).toNat = 0 := by omega
    rw [e, zpow_split place last h]; grind
  · have e : (place - last).toNat = 0 := by omega
    rw [e, zpow_split last place (by omega)]; grind

theorem kept_le_of (mag : Nat) (place : Int) (c : Nat) (h : (mag : Rat) * (2 : Rat) ^ place ≤ (c : Rat) * (2 : Rat) ^ lastOf mag place) : keptOf mag place ≤ c := by
  unfold keptOf
  apply cut_le
  have e := mag_shift mag place (lastOf mag place)
  have hp := zpow_pos (lastOf mag place)
  have h2 : (0 : Rat) < (2 : Rat) ^ (lastOf mag place - place).toNat := Rat.pow_pos two_pos
  have h3 : (mag : Rat) * (2 : Rat) ^ place * (2 : Rat) ^ (lastOf mag place - place).toNat ≤ (c : Rat) * (2 : Rat) ^ lastOf mag place * (2 : Rat) ^ (lastOf mag place - place).toNat := (rmul_le h2).2 h
  rw [e] at h3
  have h4 : ((mag <<< (place - lastOf mag place).toNat : Nat) : Rat) * (2 : Rat) ^ lastOf mag place ≤ (c : Rat) * (2 : Rat) ^ (lastOf mag place - place).toNat * (2 : Rat) ^ lastOf mag place := by grind
  rw [rmul_le hp] at h4
  have h5 : (c : Rat) * (2 : Rat) ^ (lastOf mag place - place).toNat = ((c * 2 ^ (lastOf mag place - place).toNat : Nat) : Rat) := by push_cast; rfl
  rw [h5] at h4
  exact Rat.natCast_le_natCast.1 h4

theorem le_kept_of (mag : Nat) (place : Int) (c : Nat) (h : (c : Rat) * (2 : Rat) ^ lastOf mag place ≤ (mag : Rat) * (2 : Rat) ^ place) : c ≤ keptOf mag place := by
  unfold keptOf
  apply le_cut
  have e := mag_shift mag place (lastOf mag place)
  have hp := zpow_pos (lastOf mag place)
  have h2 : (0 : Rat) < (2 : Rat) ^ (lastOf mag place - place).toNat := Rat.pow_pos two_pos
  have h3 : (c : Rat) * (2 : Rat) ^ lastOf mag place * (2 : Rat) ^ (lastOf mag place - place).toNat ≤ (mag : Rat) * (2 : Rat) ^ place * (2 : Rat) ^ (lastOf mag place - place).toNat := (rmul_le h2).2 h
  rw [e] at h3
  have h4 : (c : Rat) * (2 : Rat) ^ (lastOf mag place - place).toNat * (2 : Rat) ^ lastOf mag place ≤ ((mag <<< (place - lastOf mag place).toNat : Nat) : Rat) * (2 : Rat) ^ lastOf mag place := by grind
  rw [rmul_le hp] at h4
  have h5 : (c : Rat) * (2 : Rat) ^ (lastOf mag place - place).toNat = ((c * 2 ^ (lastOf mag place - place).toNat : Nat) : Rat) := by push_cast; rfl
  rw [h5] at h4
  exact Rat.natCast_le_natCast.1 h4

theorem log2_bounds (mag : Nat) (h : mag ≠ 0) : 2 ^ mag.log2 ≤ mag ∧ mag < 2 ^ (mag.log2 + 1) := ⟨Nat.log2_self_le h, Nat.lt_log2_self⟩

theorem pow_cast (k : Nat) : ((2 ^ k : Nat) : Rat) = (2 : Rat) ^ k := by push_cast; rfl

theorem zpow_nat (k : Nat) : (2 : Rat) ^ (k : Int) = ((2 ^ k : Nat) : Rat) := by rw [Rat.zpow_natCast, pow_cast]

theorem zpow_le {i j : Int} (h : i ≤ j) : (2 : Rat) ^ i ≤ (2 : Rat) ^ j := by
  rw [zpow_split j i h]
  have h1 : (1 : Rat) ≤ (2 : Rat) ^ (j - i).toNat := by
    rw [← pow_cast]
    have : 1 ≤ 2 ^ (j - i).toNat := Nat.one_le_two_pow
    exact_mod_cast this
  have h2 := (rmul_le (zpow_pos i)).2 h1
  grind

theorem mag_lt (mag : Nat) (place : Int) (h : mag ≠ 0) : (mag : Rat) * (2 : Rat) ^ place < (2 : Rat) ^ (place + mag.log2 + 1) ∧ (2 : Rat) ^ (place + mag.log2) ≤ (mag : Rat) * (2 : Rat) ^ place := by
  have ⟨h1, h2⟩ := log2_bounds mag h
  have e1 : (2 : Rat) ^ (place + mag.log2 + 1) = ((2 ^ (mag.log2 + 1) : Nat) : Rat) * (2 : Rat) ^ place := by
    rw [← zpow_nat, ← Rat.zpow_add two_ne]; congr 1; omega
  have e2 : (2 : Rat) ^ (place + mag.log2) = ((2 ^ mag.log2 : Nat) : Rat) * (2 : Rat) ^ place := by
    rw [← zpow_nat, ← Rat.zpow_add two_ne]; congr 1; omega
  rw [e1, e2]
  exact ⟨(Rat.mul_lt_mul_right (zpow_pos place)).2 (Rat.natCast_lt_natCast.2 h2), (rmul_le (zpow_pos place)).2 (Rat.natCast_le_natCast.2 h1)⟩

theorem kept_le (mag : Nat) (place : Int) (h : mag ≠ 0) : keptOf mag place ≤ 9007199254740992 := by
  apply kept_le_of
  have ⟨h1, _⟩ := mag_lt mag place h
  have h2 : (2 : Rat) ^ (place + mag.log2 + 1) ≤ (2 : Rat) ^ (((53 : Nat) : Int) + lastOf mag place) := zpow_le (by unfold lastOf; omega)
  rw [Rat.zpow_add two_ne ((53 : Nat) : Int), zpow_nat] at h2
  have e : ((9007199254740992 : Nat) : Rat) = ((2 ^ 53 : Nat) : Rat) := rfl
  rw [e]; grind

theorem le_kept (mag : Nat) (place : Int) (h : mag ≠ 0) (hl : -1074 < lastOf mag place) : 4503599627370496 ≤ keptOf mag place := by
  apply le_kept_of
  have ⟨_, h1⟩ := mag_lt mag place h
  have h2 : (2 : Rat) ^ (((52 : Nat) : Int) + lastOf mag place) ≤ (2 : Rat) ^ (place + mag.log2) := zpow_le (by unfold lastOf at *; omega)
  rw [Rat.zpow_add two_ne, zpow_nat] at h2
  have e : ((4503599627370496 : Nat) : Rat) = ((2 ^ 52 : Nat) : Rat) := rfl
  rw [e]; grind

/-- What the nearest word of a number that is not too great stands for. -/
theorem nearest_read (neg : Bool) (mag : Nat) (place : Int) (h : mag ≠ 0) (hb : place + mag.log2 ≤ 1020) :
    ∃ m p, double.read (double.nearest neg mag place) = .number neg m p ∧ (m : Rat) * (2 : Rat) ^ p = (keptOf mag place : Rat) * (2 : Rat) ^ lastOf mag place := by
  have hk := kept_le mag place h
  have hk2 := le_kept mag place h
  have hl : -1074 ≤ lastOf mag place := by unfold lastOf; omega
  have hl2 : lastOf mag place ≤ 968 := by unfold lastOf; omega
  have e : double.nearest neg mag place = double.word neg (((lastOf mag place) + 1074).toNat * 4503599627370496 + keptOf mag place) := by
    unfold Format.nearest
    rw [if_neg h]
    have e1 : max (place + mag.log2 - double.fractionBits) double.leastPlace = lastOf mag place := by
      rw [double_least]; rfl
    simp only [e1]
    rw [cut_neg]
    have e2 : Toward.even.cut false (mag <<< (place - lastOf mag place).toNat) (lastOf mag place - place).toNat = keptOf mag place := rfl
    rw [e2, double_least, double_binade, double_infRung]
    congr 1
    rw [show lastOf mag place - -1074 = lastOf mag place + 1074 from by omega]
    omega
  rw [e]
  generalize lastOf mag place = last at *
  generalize keptOf mag place = kept at *
  obtain ⟨L, hL⟩ : ∃ L : Nat, last = (L : Int) - 1074 := ⟨(last + 1074).toNat, by omega⟩
  have hLt : (last + 1074).toNat = L := by omega
  rw [hLt, read_word (by rw [double_infRung]; omega), double_binade]
  by_cases c1 : kept < 4503599627370496
  · have : L = 0 := by
      by_cases c : -1074 < last
      · have := hk2 c; omega
      · omega
    subst this
    rw [if_pos (by omega)]
    have e0 : ((0 : Nat) : Int) - 1074 = -1074 := by omega
    refine ⟨_, _, rfl, ?_⟩
    rw [hL, e0, Nat.zero_mul, Nat.zero_add]
  · rw [if_neg (by omega)]
    by_cases c2 : kept = 9007199254740992
    · subst c2
      refine ⟨_, _, rfl, ?_⟩
      rw [show (L * 4503599627370496 + 9007199254740992) % 4503599627370496 = 0 from by omega,
        show (L * 4503599627370496 + 9007199254740992) / 4503599627370496 = L + 2 from by omega]
      have : (-1074 + ((L + 2 - 1 : Nat) : Int)) = last + 1 := by omega
      rw [this, Rat.zpow_add two_ne]
      have : ((9007199254740992 : Nat) : Rat) = ((4503599627370496 + 0 : Nat) : Rat) * (2 : Rat) ^ (1 : Int) := by decide +kernel
      rw [this]; grind
    · refine ⟨_, _, rfl, ?_⟩
      rw [show (L * 4503599627370496 + kept) % 4503599627370496 = kept - 4503599627370496 from by omega,
        show (L * 4503599627370496 + kept) / 4503599627370496 = L + 1 from by omega]
      rw [show 4503599627370496 + (kept - 4503599627370496) = kept from by omega,
        show (-1074 + ((L + 1 - 1 : Nat) : Int)) = last from by omega]

/-! What rounding gives. -/
/-- A number that a finite word may stand for. -/
def Rep (q : Rat) : Prop := ∃ (c : Int) (e : Int), -9007199254740992 ≤ c ∧ c ≤ 9007199254740992 ∧ -1074 ≤ e ∧ q = (c : Rat) * (2 : Rat) ^ e

/-- r is a nearest number to q: no number that a word stands for lies between; it is as near as half a unit. -/
def Rnd (q r : Rat) : Prop := Rep r ∧ (∀ x, Rep x → x ≤ q → x ≤ r) ∧ (∀ x, Rep x → q ≤ x → r ≤ x)

theorem Rnd.exact {q r : Rat} (h : Rnd q r) (hq : Rep q) : r = q :=
  Rat.le_antisymm (h.2.2 q hq Rat.le_refl) (h.2.1 q hq Rat.le_refl)

theorem Rep.neg {q : Rat} (h : Rep q) : Rep (-q) := by
  obtain ⟨c, e, h1, h2, h3, rfl⟩ := h
  exact ⟨-c, e, by omega, by omega, h3, by rw [Rat.intCast_neg]; grind⟩

theorem Rnd.neg {q r : Rat} (h : Rnd q r) : Rnd (-q) (-r) := by
  refine ⟨h.1.neg, fun x hx hl => ?_, fun x hx hl => ?_⟩
  · have := h.2.2 (-x) hx.neg (by grind); grind
  · have := h.2.1 (-x) hx.neg (by grind); grind

theorem Rep.int {n : Int} (h1 : -9007199254740992 ≤ n) (h2 : n ≤ 9007199254740992) : Rep (n : Rat) :=
  ⟨n, 0, h1, h2, by omega, by rw [Rat.zpow_zero, Rat.mul_one]⟩

theorem mul_zpow_le_iff (a b : Int) (p : Int) : (a : Rat) * (2 : Rat) ^ p ≤ (b : Rat) * (2 : Rat) ^ p ↔ a ≤ b := by
  rw [rmul_le (zpow_pos p), Rat.intCast_le_intCast]

theorem nonneg_mul {a b : Rat} (ha : 0 ≤ a) (hb : 0 ≤ b) : 0 ≤ a * b := Rat.mul_nonneg ha hb

theorem mag_nonneg (m : Nat) (p : Int) : (0 : Rat) ≤ (m : Rat) * (2 : Rat) ^ p := by
  have h0 : ((0 : Nat) : Rat) ≤ (m : Rat) := Rat.natCast_le_natCast.2 (Nat.zero_le _)
  have h1 := (rmul_le (zpow_pos p)).2 h0
  have h2 : ((0 : Nat) : Rat) * (2 : Rat) ^ p = 0 := by simp
  rw [h2] at h1; exact h1

/-- A number on a grid that is not finer. -/
theorem on_grid {c : Int} {e l : Int} (h : l ≤ e) : (c : Rat) * (2 : Rat) ^ e = ((c * 2 ^ (e - l).toNat : Int) : Rat) * (2 : Rat) ^ l := by
  rw [zpow_split e l h]; push_cast; grind

/-- Rounding of what is above 0, or 0, by its kept digits. -/
theorem rnd_pos (mag : Nat) (place : Int) (h : mag ≠ 0) : Rnd ((mag : Rat) * (2 : Rat) ^ place) ((keptOf mag place : Rat) * (2 : Rat) ^ lastOf mag place) := by
  have hk := kept_le mag place h
  have hk2 := le_kept mag place h
  have hl : -1074 ≤ lastOf mag place := by unfold lastOf; omega
  have ⟨hm1, hm2⟩ := mag_lt mag place h
  refine ⟨⟨(keptOf mag place : Int), lastOf mag place, by omega, by omega, hl, by rw [Rat.intCast_natCast]⟩, ?_, ?_⟩
  · rintro x ⟨c, e, hc1, hc2, he, rfl⟩ hx
    by_cases hge : lastOf mag place ≤ e
    · rw [on_grid hge] at hx ⊢
      generalize c * 2 ^ (e - lastOf mag place).toNat = d at *
      by_cases hd : d ≤ 0
      · have h1 := (mul_zpow_le_iff d 0 (lastOf mag place)).2 hd
        have h2 := mag_nonneg (keptOf mag place) (lastOf mag place)
        have h3 : ((0 : Int) : Rat) * (2 : Rat) ^ lastOf mag place = 0 := by simp
        grind
      · obtain ⟨k, rfl⟩ : ∃ k : Nat, d = (k : Int) := ⟨d.toNat, by omega⟩
        rw [Rat.intCast_natCast] at hx ⊢
        have := le_kept_of mag place k hx
        exact (rmul_le (zpow_pos _)).2 (Rat.natCast_le_natCast.2 this)
    · have hlt : e + 1 ≤ lastOf mag place := by omega
      have hk3 := hk2 (by omega)
      have h1 : (c : Rat) * (2 : Rat) ^ e ≤ ((9007199254740992 : Int) : Rat) * (2 : Rat) ^ e := (mul_zpow_le_iff _ _ _).2 hc2
      have h2 : ((9007199254740992 : Int) : Rat) * (2 : Rat) ^ e = ((4503599627370496 : Int) : Rat) * (2 : Rat) ^ (e + 1) := by
        rw [Rat.zpow_add two_ne]
        have : ((9007199254740992 : Int) : Rat) = ((4503599627370496 : Int) : Rat) * (2 : Rat) ^ (1 : Int) := by decide +kernel
        rw [this]; grind
      have h3 : ((4503599627370496 : Int) : Rat) * (2 : Rat) ^ (e + 1) ≤ ((4503599627370496 : Int) : Rat) * (2 : Rat) ^ lastOf mag place := by
        have := Rat.mul_le_mul_of_nonneg_left (zpow_le hlt) (show (0 : Rat) ≤ ((4503599627370496 : Int) : Rat) by decide +kernel)
        exact this
      have h4 : ((4503599627370496 : Int) : Rat) * (2 : Rat) ^ lastOf mag place ≤ ((keptOf mag place : Int) : Rat) * (2 : Rat) ^ lastOf mag place := (mul_zpow_le_iff _ _ _).2 (by omega)
      rw [Rat.intCast_natCast] at h4
      grind
  · rintro x ⟨c, e, hc1, hc2, he, rfl⟩ hx
    by_cases hge : lastOf mag place ≤ e
    · rw [on_grid hge] at hx ⊢
      generalize c * 2 ^ (e - lastOf mag place).toNat = d at *
      have h2 := mag_nonneg mag place
      have hd : 0 ≤ d := by
        have h3 : ((0 : Int) : Rat) * (2 : Rat) ^ lastOf mag place = 0 := by simp
        exact (mul_zpow_le_iff 0 d (lastOf mag place)).1 (by grind)
      obtain ⟨k, rfl⟩ : ∃ k : Nat, d = (k : Int) := ⟨d.toNat, by omega⟩
      rw [Rat.intCast_natCast] at hx ⊢
      have := kept_le_of mag place k hx
      exact (rmul_le (zpow_pos _)).2 (Rat.natCast_le_natCast.2 this)
    · have hlt : e + 1 ≤ lastOf mag place := by omega
      have h1 : (c : Rat) * (2 : Rat) ^ e ≤ ((9007199254740992 : Int) : Rat) * (2 : Rat) ^ e := (mul_zpow_le_iff _ _ _).2 hc2
      have h2 : ((9007199254740992 : Int) : Rat) * (2 : Rat) ^ e = ((4503599627370496 : Int) : Rat) * (2 : Rat) ^ (e + 1) := by
        rw [Rat.zpow_add two_ne]
        have : ((9007199254740992 : Int) : Rat) = ((4503599627370496 : Int) : Rat) * (2 : Rat) ^ (1 : Int) := by decide +kernel
        rw [this]; grind
      have h3 : ((4503599627370496 : Int) : Rat) * (2 : Rat) ^ (e + 1) ≤ ((4503599627370496 : Int) : Rat) * (2 : Rat) ^ lastOf mag place := by
        have := Rat.mul_le_mul_of_nonneg_left (zpow_le hlt) (show (0 : Rat) ≤ ((4503599627370496 : Int) : Rat) by decide +kernel)
        exact this
      have h4 : (2 : Rat) ^ (((52 : Nat) : Int) + lastOf mag place) ≤ (2 : Rat) ^ (place + mag.log2) := zpow_le (by unfold lastOf at *; omega)
      rw [Rat.zpow_add two_ne, zpow_nat] at h4
      have e5 : ((4503599627370496 : Int) : Rat) = ((2 ^ 52 : Nat) : Rat) := rfl
      have h6 : (mag : Rat) * (2 : Rat) ^ place ≤ ((4503599627370496 : Nat) : Rat) * (2 : Rat) ^ lastOf mag place := by
        have e6 : ((4503599627370496 : Nat) : Rat) = ((4503599627370496 : Int) : Rat) := rfl
        rw [e6]; grind
      have h7 := kept_le_of mag place _ h6
      have h8 : (keptOf mag place : Rat) * (2 : Rat) ^ lastOf mag place ≤ ((4503599627370496 : Nat) : Rat) * (2 : Rat) ^ lastOf mag place := (rmul_le (zpow_pos _)).2 (Rat.natCast_le_natCast.2 h7)
      have e6 : ((4503599627370496 : Nat) : Rat) = ((2 ^ 52 : Nat) : Rat) := rfl
      rw [e6] at h8
      grind

theorem rep_zero : Rep 0 := ⟨0, 0, by omega, by omega, by omega, by simp⟩

theorem rnd_zero : Rnd 0 0 := ⟨rep_zero, fun _ _ h => h, fun _ _ h => h⟩

theorem valD_zero (neg : Bool) (p : Int) : valD (.number neg 0 p) = 0 := by cases neg <;> simp [valD]

/-- A finite number, written: the nearest word. -/
theorem write_fv (neg : Bool) (mag : Nat) (place : Int) (hb : mag = 0 ∨ place + mag.log2 ≤ 1020) :
    ∃ r, Fv (double.write (.number neg mag place)) r ∧ Rnd (valD (.number neg mag place)) r := by
  by_cases h : mag = 0
  · subst h
    refine ⟨0, ⟨neg, 0, -1074, ?_, ?_⟩, ?_⟩
    · show double.read (double.nearest neg 0 place) = _
      unfold Format.nearest
      rw [if_pos rfl, read_word (by rw [double_infRung]; omega), if_pos (by rw [double_binade]; omega)]
    · exact valD_zero _ _
    · rw [valD_zero]; exact rnd_zero
  · have hb' : place + mag.log2 ≤ 1020 := by
      rcases hb with h' | h'
      · exact absurd h' h
      · exact h'
    obtain ⟨m, p, h1, h2⟩ := nearest_read neg mag place h hb'
    have h3 := rnd_pos mag place h
    refine ⟨valD (.number neg m p), ⟨neg, m, p, h1, rfl⟩, ?_⟩
    cases neg
    · simp only [valD, Bool.false_eq_true, if_false]
      rw [h2]; exact h3
    · simp only [valD, if_true]
      have e1 : -(m : Rat) * (2 : Rat) ^ p = -((m : Rat) * (2 : Rat) ^ p) := by grind
      have e2 : -(mag : Rat) * (2 : Rat) ^ place = -((mag : Rat) * (2 : Rat) ^ place) := by grind
      rw [e1, e2, h2]; exact h3.neg

/-! The operations. -/
/-- A bound far above what is computed with, and far below what overflows. -/
def big : Rat := (2 : Rat) ^ (1000 : Int)

def Small (q : Rat) : Prop := -big ≤ q ∧ q ≤ big

theorem big_pos : 0 < big := zpow_pos _

theorem place_lt {mag : Nat} {place k : Int} (h : mag ≠ 0) (hv : (mag : Rat) * (2 : Rat) ^ place < (2 : Rat) ^ k) : place + mag.log2 < k := by
  have ⟨_, h1⟩ := mag_lt mag place h
  apply Int.lt_of_not_ge
  intro hge
  have := zpow_le hge
  grind

theorem write_small (neg : Bool) (mag : Nat) (place : Int) (hs : Small (valD (.number neg mag place))) :
    ∃ r, Fv (double.write (.number neg mag place)) r ∧ Rnd (valD (.number neg mag place)) r := by
  apply write_fv
  by_cases h : mag = 0
  · exact .inl h
  · right
    have h1 : (mag : Rat) * (2 : Rat) ^ place ≤ big := by
      have := mag_nonneg mag place
      unfold Small at hs
      have := big_pos
      cases neg
      · simp only [valD, Bool.false_eq_true, if_false] at hs; exact hs.2
      · simp only [valD, if_true] at hs
        have e1 : -(mag : Rat) * (2 : Rat) ^ place = -((mag : Rat) * (2 : Rat) ^ place) := by grind
        rw [e1] at hs; grind
    have h2 : big < (2 : Rat) ^ (1001 : Int) := by
      unfold big
      rw [show (1001 : Int) = 1000 + 1 from rfl, Rat.zpow_add two_ne]
      have := zpow_pos 1000
      have e : (2 : Rat) ^ (1 : Int) = 2 := by decide +kernel
      rw [e]; grind
    have := place_lt (place := place) (k := 1001) h (by refine Rat.not_le.1 (fun hh => ?_); have h3 := Rat.le_trans hh h1; exact absurd h2 (Rat.not_lt.2 h3))
    omega

theorem sum_val (s m i t n j) : ∃ u k p, (Datum.number s m i).sum (.number t n j) = some (.number u k p) ∧ valD (.number u k p) = valD (.number s m i) + valD (.number t n j) := by
  refine ⟨_, _, _, rfl, ?_⟩
  rw [valD_base s m i (min i j) (by omega), valD_base t n j (min i j) (by omega)]
  generalize signed s m (i - min i j).toNat = A
  generalize signed t n (j - min i j).toNat = B
  rw [← Rat.add_mul, ← Rat.intCast_add]
  generalize A + B = C
  by_cases hC : C = 0
  · subst hC; rw [show (0 : Int).natAbs = 0 from rfl, valD_zero]; simp
  · rw [if_neg hC]
    by_cases hn : C < 0
    · rw [decide_eq_true hn]
      simp only [valD, if_true]
      have : C = -(C.natAbs : Int) := by omega
      rw [← Rat.intCast_natCast]
      rw [show (C : Rat) = ((-(C.natAbs : Int) : Int) : Rat) from by rw [← this]]
      rw [Rat.intCast_neg]
    · rw [decide_eq_false hn]
      simp only [valD, Bool.false_eq_true, if_false]
      have : C = (C.natAbs : Int) := by omega
      rw [← Rat.intCast_natCast, ← this]

theorem product_val (s m i t n j) : ∃ u k p, (Datum.number s m i).product (.number t n j) = some (.number u k p) ∧ valD (.number u k p) = valD (.number s m i) * valD (.number t n j) := by
  refine ⟨_, _, _, rfl, ?_⟩
  simp only [valD]
  rw [Rat.zpow_add two_ne]
  push_cast
  cases s <;> cases t <;> simp only [Bool.xor_true, Bool.xor_false, Bool.not_true, Bool.not_false, Bool.false_eq_true, if_true, if_false] <;> grind

theorem add_fv {a b : Nat} {x y : Rat} (ha : Fv a x) (hb : Fv b y) (hs : Small (x + y)) : ∃ r v, double.add a b = some r ∧ Fv r v ∧ Rnd (x + y) v := by
  obtain ⟨s, m, i, h1, rfl⟩ := ha
  obtain ⟨t, n, j, h2, rfl⟩ := hb
  obtain ⟨u, k, p, h3, h4⟩ := sum_val s m i t n j
  rw [← h4] at hs ⊢
  obtain ⟨v, h5, h6⟩ := write_small u k p hs
  exact ⟨_, v, by unfold Format.add; rw [h1, h2, h3]; rfl, h5, h6⟩

theorem sub_fv {a b : Nat} {x y : Rat} (ha : Fv a x) (hb : Fv b y) (hs : Small (x - y)) : ∃ r v, double.sub a b = some r ∧ Fv r v ∧ Rnd (x - y) v := by
  obtain ⟨s, m, i, h1, rfl⟩ := ha
  obtain ⟨t, n, j, h2, rfl⟩ := hb
  obtain ⟨u, k, p, h3, h4⟩ := sum_val s m i (!t) n j
  have h7 := valD_opposite (.number t n j)
  simp only [Datum.opposite] at h7
  rw [h7, ← Rat.sub_eq_add_neg] at h4
  rw [← h4] at hs ⊢
  obtain ⟨v, h5, h6⟩ := write_small u k p hs
  exact ⟨_, v, by unfold Format.sub; rw [h1, h2]; simp only [Datum.opposite]; rw [h3]; rfl, h5, h6⟩

theorem mul_fv {a b : Nat} {x y : Rat} (ha : Fv a x) (hb : Fv b y) (hs : Small (x * y)) : ∃ r v, double.mul a b = some r ∧ Fv r v ∧ Rnd (x * y) v := by
  obtain ⟨s, m, i, h1, rfl⟩ := ha
  obtain ⟨t, n, j, h2, rfl⟩ := hb
  obtain ⟨u, k, p, h3, h4⟩ := product_val s m i t n j
  rw [← h4] at hs ⊢
  obtain ⟨v, h5, h6⟩ := write_small u k p hs
  exact ⟨_, v, by unfold Format.mul; rw [h1, h2, h3]; rfl, h5, h6⟩

theorem small_int {n : Int} (h1 : -18446744073709551616 ≤ n) (h2 : n ≤ 18446744073709551616) : Small (n : Rat) := by
  have h : ((18446744073709551616 : Int) : Rat) ≤ big := by
    have e : ((18446744073709551616 : Int) : Rat) = (2 : Rat) ^ (64 : Int) := by decide +kernel
    rw [e]; exact zpow_le (by omega)
  have h3 := Rat.intCast_le_intCast.2 h1
  have h4 := Rat.intCast_le_intCast.2 h2
  rw [Rat.intCast_neg] at h3
  unfold Small
  grind

/-! Whole numbers. -/
/-- The word b stands for the whole number n. -/
def IntV (b : Nat) (n : Int) : Prop := Fv b (n : Rat)

theorem IntV.add {a b : Nat} {x y : Int} (ha : IntV a x) (hb : IntV b y) (h1 : -9007199254740992 ≤ x + y) (h2 : x + y ≤ 9007199254740992) : ∃ r, double.add a b = some r ∧ IntV r (x + y) := by
  have e : ((x + y : Int) : Rat) = (x : Rat) + (y : Rat) := Rat.intCast_add ..
  have hs := small_int (n := x + y) (by omega) (by omega)
  rw [e] at hs
  obtain ⟨r, v, h3, h4, h5⟩ := add_fv ha hb hs
  rw [← e] at h5
  have := h5.exact (Rep.int h1 h2)
  subst this
  exact ⟨r, h3, h4⟩

theorem IntV.sub {a b : Nat} {x y : Int} (ha : IntV a x) (hb : IntV b y) (h1 : -9007199254740992 ≤ x - y) (h2 : x - y ≤ 9007199254740992) : ∃ r, double.sub a b = some r ∧ IntV r (x - y) := by
  have e : ((x - y : Int) : Rat) = (x : Rat) - (y : Rat) := Rat.intCast_sub ..
  have hs := small_int (n := x - y) (by omega) (by omega)
  rw [e] at hs
  obtain ⟨r, v, h3, h4, h5⟩ := sub_fv ha hb hs
  rw [← e] at h5
  have := h5.exact (Rep.int h1 h2)
  subst this
  exact ⟨r, h3, h4⟩

theorem IntV.mul {a b : Nat} {x y : Int} (ha : IntV a x) (hb : IntV b y) (h1 : -9007199254740992 ≤ x * y) (h2 : x * y ≤ 9007199254740992) : ∃ r, double.mul a b = some r ∧ IntV r (x * y) := by
  have e : ((x * y : Int) : Rat) = (x : Rat) * (y : Rat) := Rat.intCast_mul ..
  have hs := small_int (n := x * y) (by omega) (by omega)
  rw [e] at hs
  obtain ⟨r, v, h3, h4, h5⟩ := mul_fv ha hb hs
  rw [← e] at h5
  have := h5.exact (Rep.int h1 h2)
  subst this
  exact ⟨r, h3, h4⟩

theorem IntV.of {n : Int} (h1 : -9007199254740992 ≤ n) (h2 : n ≤ 9007199254740992) : IntV (double.write (.number (n < 0) n.natAbs 0)) n := by
  have e : valD (.number (n < 0) n.natAbs 0) = (n : Rat) := by
    simp only [valD, Rat.zpow_zero, Rat.mul_one]
    by_cases hn : n < 0
    · rw [decide_eq_true hn, if_pos rfl, ← Rat.intCast_natCast, ← Rat.intCast_neg]; congr 1; omega
    · rw [decide_eq_false hn, if_neg (by simp), ← Rat.intCast_natCast]; congr 1; omega
  have hs := small_int (n := n) (by omega) (by omega)
  rw [← e] at hs
  obtain ⟨v, h5, h6⟩ := write_small _ _ _ hs
  rw [e] at h6
  have := h6.exact (Rep.int h1 h2)
  subst this
  exact h5

theorem cmp_int (x y : Int) : cmp (x : Rat) (y : Rat) = compare x y := by
  simp only [cmp, compare, compareOfLessAndEq, Rat.intCast_lt_intCast, Rat.intCast_inj]

theorem IntV.order {a b : Nat} {x y : Int} (ha : IntV a x) (hb : IntV b y) : double.order a b = some (compare x y) := by
  rw [order_fv ha hb, cmp_int]

theorem Fv.unique {a : Nat} {x y : Rat} (h1 : Fv a x) (h2 : Fv a y) : x = y := by
  obtain ⟨s, m, i, h3, rfl⟩ := h1
  obtain ⟨t, n, j, h4, rfl⟩ := h2
  rw [h3] at h4; cases h4; rfl

theorem IntV.unique {a : Nat} {x y : Int} (h1 : IntV a x) (h2 : IntV a y) : x = y := Rat.intCast_inj.1 (Fv.unique h1 h2)

/-! The sign, turned. -/
theorem xor_sign_mod (b : Nat) : (b ^^^ 9223372036854775808) % 9223372036854775808 = b % 9223372036854775808 := by
  have := Nat.xor_mod_two_pow (a := b) (b := 9223372036854775808) (n := 63)
  simpa using this

theorem xor_sign_div (b : Nat) : (b ^^^ 9223372036854775808) / 9223372036854775808 % 2 = 1 - b / 9223372036854775808 % 2 := by
  have h1 : (b ^^^ 2 ^ 63).testBit 63 = (b.testBit 63 ^^ (2 ^ 63).testBit 63) := Nat.testBit_xor ..
  rw [Nat.testBit_two_pow_self] at h1
  simp only [Nat.testBit_eq_decide_div_mod_eq] at h1
  have e : (2 : Nat) ^ 63 = 9223372036854775808 := by decide
  rw [e] at h1
  have := Nat.mod_lt (b / 9223372036854775808) (show 0 < 2 by omega)
  have := Nat.mod_lt ((b ^^^ 9223372036854775808) / 9223372036854775808) (show 0 < 2 by omega)
  by_cases c : b / 9223372036854775808 % 2 = 1
  · simp only [c, decide_true, Bool.xor_true, Bool.not_true, decide_eq_false_iff_not] at h1
    omega
  · simp only [c, decide_false, Bool.xor_true, Bool.not_false, decide_eq_true_eq] at h1
    omega

theorem read_neg (b : Nat) : ∀ s m p, double.read b = .number s m p → double.read (Op.negFloat .f64 b) = .number (!s) m p := by
  intro s m p h
  have e : Op.negFloat .f64 b = b ^^^ 9223372036854775808 := rfl
  rw [e]
  unfold Format.read at *
  rw [double_signWeight] at *
  dsimp only at *
  rw [xor_sign_mod]
  have h2 : ((b ^^^ 9223372036854775808) / 9223372036854775808 % 2 == 1) = !(b / 9223372036854775808 % 2 == 1) := by
    rw [xor_sign_div]
    have := Nat.mod_lt (b / 9223372036854775808) (show 0 < 2 by omega)
    by_cases c : b / 9223372036854775808 % 2 = 1
    · simp [c]
    · have : b / 9223372036854775808 % 2 = 0 := by omega
      simp [this]
  rw [h2]
  split at h
  · rename_i c; rw [if_pos c]; cases h; rfl
  · rename_i c
    rw [if_neg c]
    split at h
    · rename_i c2; rw [if_pos c2]; cases h; rfl
    · split at h <;> cases h

theorem Fv.neg {b : Nat} {q : Rat} (h : Fv b q) : Fv (Op.negFloat .f64 b) (-q) := by
  obtain ⟨s, m, p, h1, rfl⟩ := h
  refine ⟨!s, m, p, read_neg b s m p h1, ?_⟩
  exact valD_opposite (.number s m p)

theorem IntV.neg {b : Nat} {n : Int} (h : IntV b n) : IntV (Op.negFloat .f64 b) (-n) := by
  have := Fv.neg h
  unfold IntV
  rw [Rat.intCast_neg]; exact this

/-! The operations as functions. -/
def fadd (a b : Nat) : Nat := (floatBits .add .f64 a b).getD 0
def fsub (a b : Nat) : Nat := (floatBits .sub .f64 a b).getD 0
def fmul (a b : Nat) : Nat := (floatBits .mul .f64 a b).getD 0
def fdiv (a b : Nat) : Nat := (floatBits .quo .f64 a b).getD 0
def fint (n : Int) : Nat := floatOfInt .f64 n

theorem IntV.fadd {a b : Nat} {x y : Int} (ha : IntV a x) (hb : IntV b y) (h1 : -9007199254740992 ≤ x + y) (h2 : x + y ≤ 9007199254740992) : floatBits .add .f64 a b = some (Fl.fadd a b) ∧ IntV (Fl.fadd a b) (x + y) := by
  obtain ⟨r, h3, h4⟩ := ha.add hb h1 h2
  have e : floatBits .add .f64 a b = some r := h3
  unfold Fl.fadd; rw [e]; exact ⟨rfl, h4⟩
theorem IntV.fsub {a b : Nat} {x y : Int} (ha : IntV a x) (hb : IntV b y) (h1 : -9007199254740992 ≤ x - y) (h2 : x - y ≤ 9007199254740992) : floatBits .sub .f64 a b = some (Fl.fsub a b) ∧ IntV (Fl.fsub a b) (x - y) := by
  obtain ⟨r, h3, h4⟩ := ha.sub hb h1 h2
  have e : floatBits .sub .f64 a b = some r := h3
  unfold Fl.fsub; rw [e]; exact ⟨rfl, h4⟩
theorem IntV.fmul {a b : Nat} {x y : Int} (ha : IntV a x) (hb : IntV b y) (h1 : -9007199254740992 ≤ x * y) (h2 : x * y ≤ 9007199254740992) : floatBits .mul .f64 a b = some (Fl.fmul a b) ∧ IntV (Fl.fmul a b) (x * y) := by
  obtain ⟨r, h3, h4⟩ := ha.mul hb h1 h2
  have e : floatBits .mul .f64 a b = some r := h3
  unfold Fl.fmul; rw [e]; exact ⟨rfl, h4⟩
theorem IntV.fint {n : Int} (h1 : -9007199254740992 ≤ n) (h2 : n ≤ 9007199254740992) : IntV (Fl.fint n) n := IntV.of h1 h2

theorem order_eq_iff {a b : Nat} {x y : Int} (ha : IntV a x) (hb : IntV b y) : (double.order a b == some .eq) = decide (x = y) := by
  rw [ha.order hb]
  by_cases h : x = y
  · subst h; simp
  · simp [h, compare, compareOfLessAndEq]; split <;> simp

theorem order_lt_iff {a b : Nat} {x y : Int} (ha : IntV a x) (hb : IntV b y) : (double.order a b == some .lt) = decide (x < y) := by
  rw [ha.order hb]
  by_cases h : x < y
  · simp [h, compare, compareOfLessAndEq]
  · simp [h, compare, compareOfLessAndEq]; split <;> simp

theorem order_gt_iff {a b : Nat} {x y : Int} (ha : IntV a x) (hb : IntV b y) : (double.order a b == some .gt) = decide (y < x) := by
  rw [ha.order hb]
  by_cases h : x < y
  · have : ¬ y < x := by omega
    simp [h, this, compare, compareOfLessAndEq]
  · by_cases h2 : x = y
    · subst h2; simp [compare, compareOfLessAndEq]
    · have : y < x := by omega
      simp [h, h2, this, compare, compareOfLessAndEq]

theorem intV_zero : IntV 0 0 := by
  refine ⟨false, 0, -1074, by decide +kernel, ?_⟩
  rw [valD_zero]; rfl

end Go.Fl
