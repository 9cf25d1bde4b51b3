/- Rounding of finite float64 words within bounds, their quotients and square roots. Conditions are stated at each lemma. -/
import Derived.Test.YtiphlifnmmplaaaFl
namespace Go.Fl
open Ieee

/-- Between two places of a grid that words have: no farther than one step. -/
theorem rnd_grid {q r : Rat} {e : Int} (h : Rnd q r) (he : -1074 ≤ e) (h1 : -((9007199254740992 : Rat) * (2 : Rat) ^ e) ≤ q) (h2 : q ≤ (9007199254740992 : Rat) * (2 : Rat) ^ e) :
    q - (2 : Rat) ^ e ≤ r ∧ r ≤ q + (2 : Rat) ^ e := by
  have hp := zpow_pos e
  have hi : (2 : Rat) ^ e * ((2 : Rat) ^ e)⁻¹ = 1 := Rat.mul_inv_cancel _ (by grind)
  generalize hg : (2 : Rat) ^ e = g at *
  have hinv : 0 < g⁻¹ := Rat.inv_pos.2 hp
  let c := (q * g⁻¹).floor
  have a1 : (c : Rat) ≤ q * g⁻¹ := Rat.floor_le _
  have a2 : q * g⁻¹ < ((c + 1 : Int) : Rat) := Rat.lt_floor_add_one _
  have b1 : (c : Rat) * g ≤ q := by
    have := Rat.mul_le_mul_of_nonneg_right a1 (Rat.le_of_lt hp)
    have e1 : q * g⁻¹ * g = q := by grind
    rw [e1] at this; exact this
  have b2 : q ≤ ((c + 1 : Int) : Rat) * g := by
    have := Rat.mul_le_mul_of_nonneg_right (Rat.le_of_lt a2) (Rat.le_of_lt hp)
    have e1 : q * g⁻¹ * g = q := by grind
    rw [e1] at this; exact this
  have c1 : -9007199254740992 ≤ c := by
    apply Rat.le_floor_iff.2
    have := Rat.mul_le_mul_of_nonneg_right h1 (Rat.le_of_lt hinv)
    have e1 : -(9007199254740992 * g) * g⁻¹ = -9007199254740992 := by grind
    rw [e1] at this; exact this
  have c2 : c ≤ 9007199254740992 := by
    have := Rat.mul_le_mul_of_nonneg_right h2 (Rat.le_of_lt hinv)
    have e1 : (9007199254740992 * g) * g⁻¹ = 9007199254740992 := by grind
    rw [e1] at this
    have h3 := Rat.le_trans a1 this
    exact Rat.intCast_le_intCast.1 h3
  have r1 : Rep ((c : Rat) * g) := ⟨c, e, c1, c2, he, by rw [hg]⟩
  have d1 := h.2.1 _ r1 b1
  have e3 : ((c + 1 : Int) : Rat) * g = (c : Rat) * g + g := by rw [Rat.intCast_add]; grind
  rw [e3] at b2
  by_cases hc : c + 1 ≤ 9007199254740992
  · have r2 : Rep (((c + 1 : Int) : Rat) * g) := ⟨c + 1, e, by omega, hc, he, by rw [hg]⟩
    have d2 := h.2.2 _ r2 (by rw [e3]; exact b2)
    rw [e3] at d2
    constructor <;> grind
  · have hcc : c = 9007199254740992 := by omega
    have e4 : (c : Rat) * g = 9007199254740992 * g := by rw [hcc]; rfl
    have : r = (c : Rat) * g := by
      have hq : q = (c : Rat) * g := by rw [e4] at b1 ⊢; exact Rat.le_antisymm h2 b1
      rw [← hq] at r1
      rw [h.exact r1, hq]
    constructor <;> grind

theorem rnd_nonneg {q r : Rat} (h : Rnd q r) (hq : 0 ≤ q) : 0 ≤ r := h.2.1 _ rep_zero hq

theorem rnd_nonpos {q r : Rat} (h : Rnd q r) (hq : q ≤ 0) : r ≤ 0 := h.2.2 _ rep_zero hq

theorem mul_den (q : Rat) : q * (q.den : Rat) = (q.num : Rat) := by
  have h : q = (q.num : Rat) / (q.den : Rat) := by rw [← Rat.mkRat_eq_div, Rat.mkRat_self]
  have hd : (q.den : Rat) ≠ 0 := by
    have := q.den_nz
    intro hh
    exact this (by exact_mod_cast hh)
  have h2 := Rat.div_mul_cancel (a := (q.num : Rat)) hd
  rw [← h] at h2
  exact h2

/-- A positive rational number lies between powers of two. -/
theorem between_powers {q : Rat} (hq : 0 < q) : ∃ k : Int, (2 : Rat) ^ k ≤ q ∧ q ≤ (2 : Rat) ^ (k + 2) := by
  have hn : 0 < q.num := Rat.intCast_pos.mp hq
  have hd : q.den ≠ 0 := q.den_nz
  have hm : q.num.natAbs ≠ 0 := by omega
  have ⟨n1, n2⟩ := log2_bounds q.num.natAbs hm
  have ⟨d1, d2⟩ := log2_bounds q.den hd
  generalize ha : q.num.natAbs.log2 = a at *
  generalize hb : q.den.log2 = b at *
  have hnum : ((q.num.natAbs : Nat) : Rat) = (q.num : Rat) := by rw [← Rat.intCast_natCast]; congr 1; omega
  have hq' : q * (q.den : Rat) = (q.num.natAbs : Rat) := by rw [hnum]; exact mul_den q
  have n1' : (2 : Rat) ^ (a : Int) ≤ (q.num.natAbs : Rat) := by rw [zpow_nat]; exact_mod_cast n1
  have n2' : (q.num.natAbs : Rat) ≤ (2 : Rat) ^ ((a : Int) + 1) := by rw [show (a : Int) + 1 = ((a + 1 : Nat) : Int) from rfl, zpow_nat]; exact_mod_cast Nat.le_of_lt n2
  have d1' : (2 : Rat) ^ (b : Int) ≤ (q.den : Rat) := by rw [zpow_nat]; exact_mod_cast d1
  have d2' : (q.den : Rat) ≤ (2 : Rat) ^ ((b : Int) + 1) := by rw [show (b : Int) + 1 = ((b + 1 : Nat) : Int) from rfl, zpow_nat]; exact_mod_cast Nat.le_of_lt d2
  refine ⟨(a : Int) - b - 1, ?_, ?_⟩
  · have e : (2 : Rat) ^ (a : Int) = (2 : Rat) ^ ((a : Int) - b - 1) * (2 : Rat) ^ ((b : Int) + 1) := by rw [← Rat.zpow_add two_ne]; congr 1; omega
    rw [e, ← hq'] at n1'
    have h1 : (2 : Rat) ^ ((a : Int) - b - 1) * (q.den : Rat) ≤ (2 : Rat) ^ ((a : Int) - b - 1) * (2 : Rat) ^ ((b : Int) + 1) := Rat.mul_le_mul_of_nonneg_left d2' (Rat.le_of_lt (zpow_pos _))
    have h2 := Rat.le_trans h1 n1'
    exact (rmul_le (by have := zpow_pos (b : Int); grind)).1 h2
  · have e : (2 : Rat) ^ ((a : Int) + 1) = (2 : Rat) ^ ((a : Int) - b - 1 + 2) * (2 : Rat) ^ (b : Int) := by rw [← Rat.zpow_add two_ne]; congr 1; omega
    rw [e, ← hq'] at n2'
    have h1 : (2 : Rat) ^ ((a : Int) - b - 1 + 2) * (2 : Rat) ^ (b : Int) ≤ (2 : Rat) ^ ((a : Int) - b - 1 + 2) * (q.den : Rat) := Rat.mul_le_mul_of_nonneg_left d1' (Rat.le_of_lt (zpow_pos _))
    have h2 := Rat.le_trans n2' h1
    exact (rmul_le (by have := zpow_pos (b : Int); grind)).1 h2

/-- The step that a rounding may make, for one of a number of this size. -/
def eps : Rat := 1 / 2251799813685248

theorem rnd_rel {q r : Rat} (h : Rnd q r) (hq : 0 ≤ q) (hb : q = 0 ∨ (2 : Rat) ^ (-1000 : Int) ≤ q) : q - eps * q ≤ r ∧ r ≤ q + eps * q := by
  rcases hb with h0 | hb
  · subst h0
    have := h.exact rep_zero
    subst this; constructor <;> grind
  · have hq : 0 < q := by have := zpow_pos (-1000); grind
    obtain ⟨k, h1, h2⟩ := between_powers hq
    have hk : -1002 ≤ k := by
      apply Int.le_of_not_gt
      intro hlt
      have h3 := zpow_le (show k + 2 ≤ -1001 by omega)
      have h4 : (2 : Rat) ^ (-1000 : Int) = (2 : Rat) ^ (-1001 : Int) * 2 := by rw [show (-1000 : Int) = -1001 + 1 from rfl, Rat.zpow_add two_ne]; congr 1
      have := zpow_pos (-1001)
      grind
    have e1 : (2 : Rat) ^ (k + 2) = 9007199254740992 * (2 : Rat) ^ (k - 51) := by
      rw [show k + 2 = 53 + (k - 51) from by omega, Rat.zpow_add two_ne]
      congr 1
    have e2 : eps * (2 : Rat) ^ k = (2 : Rat) ^ (k - 51) := by
      rw [show k = (k - 51) + 51 from by omega, Rat.zpow_add two_ne, show k - 51 + 51 - 51 = k - 51 from by omega]
      have : (2 : Rat) ^ (51 : Int) = 2251799813685248 := by decide +kernel
      rw [this]; unfold eps; grind
    have ⟨h3, h4⟩ := rnd_grid (e := k - 51) h (by omega) (by have := zpow_pos (k + 2); rw [← e1]; grind) (by rw [← e1]; exact h2)
    have h5 : eps * (2 : Rat) ^ k ≤ eps * q := Rat.mul_le_mul_of_nonneg_left h1 (by decide +kernel)
    rw [e2] at h5
    constructor <;> grind

/-! The quotient. -/
theorem log2_shift {m k : Nat} (h : m ≠ 0) : 2 ^ (m.log2 + k) ≤ m <<< k := by
  rw [Nat.shiftLeft_eq, Nat.pow_add]
  exact Nat.mul_le_mul_right _ (Nat.log2_self_le h)

/-- The quotient of two numbers' magnitudes, as it is made: n times it lies near m, by whole numbers. -/
theorem quot_nat {m n : Nat} (hm : m ≠ 0) (hn : n ≠ 0) (more : Nat) (hmore : more = 54 + n.log2 - m.log2) :
    let N := m <<< more
    let mag := 2 * (N / n) + (N % n != 0).toNat
    mag * n ≤ 2 * N + n ∧ 2 * N ≤ mag * n + n ∧ 9007199254740992 * n ≤ N := by
  intro N mag
  have hN : n * (N / n) + N % n = N := Nat.div_add_mod N n
  have hr : N % n < n := Nat.mod_lt _ (by omega)
  have e : mag * n = 2 * (n * (N / n)) + (N % n != 0).toNat * n := by
    show (2 * (N / n) + (N % n != 0).toNat) * n = _
    rw [Nat.add_mul, Nat.mul_assoc, Nat.mul_comm (N / n) n]
  have h3 : 9007199254740992 * n ≤ N := by
    have h1 := log2_shift (k := more) hm
    have h2 := (log2_bounds n hn).2
    have h4 : 2 ^ (54 + n.log2) ≤ 2 ^ (m.log2 + more) := Nat.pow_le_pow_right (by omega) (by omega)
    have h5 : 2 ^ (54 + n.log2) = 9007199254740992 * 2 ^ (n.log2 + 1) := by
      rw [show 54 + n.log2 = 53 + (n.log2 + 1) from by omega, Nat.pow_add]
    have : 9007199254740992 * n ≤ 9007199254740992 * 2 ^ (n.log2 + 1) := Nat.mul_le_mul_left _ (Nat.le_of_lt h2)
    exact Nat.le_trans this (by rw [← h5]; exact Nat.le_trans h4 h1)
  refine ⟨?_, ?_, h3⟩
  · rw [e]
    by_cases hz : N % n = 0
    · rw [hz]; simp only [bne_self_eq_false, Bool.toNat_false]; omega
    · have : (N % n != 0) = true := by simpa using hz
      rw [this]; simp only [Bool.toNat_true]; omega
  · rw [e]
    by_cases hz : N % n = 0
    · rw [hz]; simp only [bne_self_eq_false, Bool.toNat_false]; omega
    · have : (N % n != 0) = true := by simpa using hz
      rw [this]; simp only [Bool.toNat_true]; omega

/-- How far the quotient, before it is rounded, may be from what it stands for, for one of a number of this size. -/
def del : Rat := 1 / 9007199254740992

theorem quot_val (m n : Nat) (i j : Int) (hn : n ≠ 0) (s t : Bool) :
    ∃ mag place, (Datum.number s m i).quotient 54 (.number t n j) = some (.number (s ^^ t) mag place) ∧
      (mag : Rat) * (2 : Rat) ^ place * ((n : Rat) * (2 : Rat) ^ j) ≤ (m : Rat) * (2 : Rat) ^ i + del * ((m : Rat) * (2 : Rat) ^ i) ∧
      (m : Rat) * (2 : Rat) ^ i - del * ((m : Rat) * (2 : Rat) ^ i) ≤ (mag : Rat) * (2 : Rat) ^ place * ((n : Rat) * (2 : Rat) ^ j) := by
  refine ⟨_, _, by simp only [Datum.quotient]; rw [if_neg hn], ?_⟩
  generalize hmore : 54 + n.log2 - m.log2 = more
  by_cases hm : m = 0
  · subst hm
    simp
    grind
  · have ⟨h1, h2, h3⟩ := quot_nat hm hn more hmore.symm
    generalize 2 * (m <<< more / n) + (m <<< more % n != 0).toNat = mag at *
    have hc := zpow_pos (i - more - 1)
    have e1 : (mag : Rat) * (2 : Rat) ^ (i - j - more - 1) * ((n : Rat) * (2 : Rat) ^ j) = ((mag * n : Nat) : Rat) * (2 : Rat) ^ (i - more - 1) := by
      have : (2 : Rat) ^ (i - more - 1) = (2 : Rat) ^ (i - j - more - 1) * (2 : Rat) ^ j := by rw [← Rat.zpow_add two_ne]; congr 1; omega
      rw [this]; push_cast; grind
    have e2 : (m : Rat) * (2 : Rat) ^ i = ((2 * (m <<< more) : Nat) : Rat) * (2 : Rat) ^ (i - more - 1) := by
      have : (2 : Rat) ^ i = (2 : Rat) ^ more * 2 * (2 : Rat) ^ (i - more - 1) := by
        have hh : (2 : Rat) ^ more * 2 = (2 : Rat) ^ ((more : Int) + 1) := by rw [Rat.zpow_add two_ne, Rat.zpow_natCast]; rfl
        rw [hh, ← Rat.zpow_add two_ne]; congr 1; omega
      rw [this, Rat.natCast_mul, shift_cast]; push_cast; grind
    rw [e1, e2]
    generalize (2 : Rat) ^ (i - more - 1) = c at *
    generalize hN : m <<< more = N at *
    have k1 : ((mag * n : Nat) : Rat) ≤ ((2 * N + n : Nat) : Rat) := by exact_mod_cast h1
    have k2 : ((2 * N : Nat) : Rat) ≤ ((mag * n + n : Nat) : Rat) := by exact_mod_cast h2
    have k3 : ((9007199254740992 * n : Nat) : Rat) ≤ ((N : Nat) : Rat) := by exact_mod_cast h3
    have k4 : (0 : Rat) ≤ (N : Rat) := Rat.natCast_nonneg
    push_cast at k1 k2 k3 ⊢
    have k5 : (n : Rat) ≤ del * (2 * (N : Rat)) := by unfold del; grind
    constructor
    · have : (mag : Rat) * n ≤ 2 * N + del * (2 * N) := by grind
      have := Rat.mul_le_mul_of_nonneg_right this (Rat.le_of_lt hc)
      grind
    · have : 2 * (N : Rat) - del * (2 * N) ≤ (mag : Rat) * n := by grind
      have := Rat.mul_le_mul_of_nonneg_right this (Rat.le_of_lt hc)
      grind

def h100 : Rat := 1267650600228229401496703205376

theorem h100_pow : h100 = (2 : Rat) ^ (100 : Int) := by decide +kernel

/-- A quotient of numbers of bounded size, from 2^-100 to 2^100: of numbers that are not below 0 it is as near as two roundings. -/
theorem div_fv {a b : Nat} {x y : Rat} (ha : Fv a x) (hb : Fv b y) (hx : -h100 ≤ x ∧ x ≤ h100) (hy : 1 ≤ h100 * y) :
    ∃ r v, double.div a b = some r ∧ Fv r v ∧ (x ≤ 0 → v ≤ 0) ∧ (0 ≤ x → 0 ≤ v ∧ ((x = 0 ∨ 1 ≤ h100 * x) → y ≤ h100 → x - 2 * eps * x ≤ v * y ∧ v * y ≤ x + 2 * eps * x)) := by
  obtain ⟨s, m, i, h1, rfl⟩ := ha
  obtain ⟨t, n, j, h2, rfl⟩ := hb
  have hy0 : 0 < valD (.number t n j) := by
    have : (0 : Rat) < h100 := by decide +kernel
    apply Rat.not_le.1
    intro hle
    have h3 : h100 * valD (.number t n j) ≤ h100 * 0 := Rat.mul_le_mul_of_nonneg_left hle (Rat.le_of_lt this)
    grind
  have hn : n ≠ 0 := by
    rintro rfl
    rw [valD_zero] at hy0
    exact absurd hy0 (by decide)
  have ht : t = false := by
    cases t
    · rfl
    · exfalso
      simp only [valD, if_true] at hy0
      have := mag_nonneg n j
      grind
  subst ht
  obtain ⟨mag, place, h3, h4, h5⟩ := quot_val m n i j hn s false
  have hY : valD (.number false n j) = (n : Rat) * (2 : Rat) ^ j := by simp [valD]
  rw [hY] at hy0 hy ⊢
  generalize (n : Rat) * (2 : Rat) ^ j = Y at *
  have hM0 := mag_nonneg mag place
  have hX0 := mag_nonneg m i
  have hX : (m : Rat) * (2 : Rat) ^ i ≤ h100 := by
    cases s
    · simp only [valD, Bool.false_eq_true, if_false] at hx; exact hx.2
    · simp only [valD, if_true] at hx; grind
  have hsm : (mag : Rat) * (2 : Rat) ^ place ≤ big := by
    have k1 : (mag : Rat) * (2 : Rat) ^ place * 1 ≤ (mag : Rat) * (2 : Rat) ^ place * (h100 * Y) := Rat.mul_le_mul_of_nonneg_left hy hM0
    have k2 : (mag : Rat) * (2 : Rat) ^ place * Y ≤ 2 * h100 := by unfold del at h4; grind
    have k3 : h100 * ((mag : Rat) * (2 : Rat) ^ place * Y) ≤ h100 * (2 * h100) := Rat.mul_le_mul_of_nonneg_left k2 (by decide +kernel)
    have k4 : h100 * (2 * h100) ≤ big := by
      have : h100 * (2 * h100) = (2 : Rat) ^ (201 : Int) := by decide +kernel
      rw [this]; exact zpow_le (by omega)
    grind
  have hval : valD (.number (s ^^ false) mag place) = if s then -((mag : Rat) * (2 : Rat) ^ place) else (mag : Rat) * (2 : Rat) ^ place := by
    cases s
    · simp [valD]
    · simp only [valD, Bool.xor_false, if_true]; grind
  have hS : Small (valD (.number (s ^^ false) mag place)) := by
    rw [hval]; unfold Small
    have := big_pos
    cases s <;> simp only [Bool.false_eq_true, if_true, if_false] <;> constructor <;> grind
  obtain ⟨v, h6, h7⟩ := write_small (s ^^ false) mag place hS
  refine ⟨_, v, by unfold Format.div; rw [h1, h2, show double.fractionBits + 2 = 54 from rfl, h3]; rfl, h6, ?_, ?_⟩
  · intro hle
    cases s
    · simp only [valD, Bool.false_eq_true, if_false] at hle
      have : (m : Rat) * (2 : Rat) ^ i = 0 := by grind
      rw [this] at h4
      have h8 : (mag : Rat) * (2 : Rat) ^ place * Y ≤ 0 * Y := by grind
      have h9 := (rmul_le hy0).1 h8
      rw [hval] at h7
      simp only [Bool.false_eq_true, if_false] at h7
      exact rnd_nonpos h7 h9
    · rw [hval] at h7
      simp only [if_true] at h7
      exact rnd_nonpos h7 (by grind)
  · intro hge
    have hcase : valD (.number s m i) = (m : Rat) * (2 : Rat) ^ i ∧ valD (.number (s ^^ false) mag place) = (mag : Rat) * (2 : Rat) ^ place := by
      cases s
      · simp [valD]
      · simp only [valD, if_true] at hge
        have h0 : (m : Rat) * (2 : Rat) ^ i = 0 := by grind
        rw [h0] at h4
        have h8 : (mag : Rat) * (2 : Rat) ^ place * Y ≤ 0 * Y := by grind
        have h9 := (rmul_le hy0).1 h8
        have h10 : (mag : Rat) * (2 : Rat) ^ place = 0 := by grind
        rw [hval]
        simp only [valD, if_true]
        constructor <;> grind
    rw [hcase.1] at hge ⊢
    rw [hcase.2] at h7
    generalize (m : Rat) * (2 : Rat) ^ i = X at *
    generalize (mag : Rat) * (2 : Rat) ^ place = M at *
    refine ⟨rnd_nonneg h7 hM0, ?_⟩
    intro hb hyb
    have hMb : M = 0 ∨ (2 : Rat) ^ (-1000 : Int) ≤ M := by
      rcases hb with h0 | hb
      · left
        rw [h0] at h4
        have h8 : M * Y ≤ 0 * Y := by grind
        have h9 := (rmul_le hy0).1 h8
        grind
      · right
        have k1 : M * Y ≤ M * h100 := Rat.mul_le_mul_of_nonneg_left hyb hM0
        have k2 : X ≤ 2 * (M * Y) := by unfold del at h5; grind
        have k3 : h100 * X ≤ h100 * (2 * (M * h100)) := Rat.mul_le_mul_of_nonneg_left (by grind) (by decide +kernel)
        have k4 : 1 ≤ M * (2 * h100 * h100) := by grind
        have k5 : (2 : Rat) ^ (-1000 : Int) * (2 * h100 * h100) ≤ 1 := by decide +kernel
        exact (rmul_le (by decide +kernel)).1 (Rat.le_trans k5 k4)
    have ⟨g1, g2⟩ := rnd_rel h7 hM0 hMb
    have g3 := Rat.mul_le_mul_of_nonneg_right g1 (Rat.le_of_lt hy0)
    have g4 := Rat.mul_le_mul_of_nonneg_right g2 (Rat.le_of_lt hy0)
    have g5 : (M - eps * M) * Y = M * Y - eps * (M * Y) := by grind
    have g6 : (M + eps * M) * Y = M * Y + eps * (M * Y) := by grind
    rw [g5] at g3
    rw [g6] at g4
    generalize M * Y = Z at *
    unfold eps del at *
    constructor <;> grind

/-! The square root. -/
theorem rootFrom_spec (n : Nat) : ∀ (t r : Nat), r * r ≤ n → n < (r + 2 ^ t) * (r + 2 ^ t) → let w := Datum.rootFrom n t r; w * w ≤ n ∧ n < (w + 1) * (w + 1)
  | 0, r, h1, h2 => by
    simp only [Datum.rootFrom]
    exact ⟨h1, by simpa using h2⟩
  | t + 1, r, h1, h2 => by
    simp only [Datum.rootFrom]
    rw [Nat.shiftLeft_eq, Nat.one_mul]
    by_cases hc : (r + 2 ^ t) * (r + 2 ^ t) ≤ n
    · rw [if_pos hc]
      refine rootFrom_spec n t (r + 2 ^ t) hc ?_
      rw [show r + 2 ^ t + 2 ^ t = r + 2 ^ (t + 1) from by rw [Nat.pow_succ]; omega]
      exact h2
    · rw [if_neg hc]
      exact rootFrom_spec n t r h1 (by omega)

theorem root_nat (n : Nat) : let w := Datum.rootFrom n (n.log2 / 2 + 1) 0; w * w ≤ n ∧ n < (w + 1) * (w + 1) := by
  refine rootFrom_spec n _ 0 (by omega) ?_
  rw [Nat.zero_add, ← Nat.pow_add]
  refine Nat.lt_of_lt_of_le Nat.lt_log2_self ?_
  exact Nat.pow_le_pow_right (by omega) (by omega)

theorem root_val (m : Nat) (i : Int) (hm : m ≠ 0) :
    ∃ mag place, (Datum.number false m i).root 54 = some (.number false mag place) ∧
      ((mag : Rat) * (2 : Rat) ^ place) * ((mag : Rat) * (2 : Rat) ^ place) ≤ (m : Rat) * (2 : Rat) ^ i + 4 * del * ((m : Rat) * (2 : Rat) ^ i) ∧
      (m : Rat) * (2 : Rat) ^ i - 4 * del * ((m : Rat) * (2 : Rat) ^ i) ≤ ((mag : Rat) * (2 : Rat) ^ place) * ((mag : Rat) * (2 : Rat) ^ place) := by
  refine ⟨_, _, by simp only [Datum.root]; rw [if_neg hm]; rfl, ?_⟩
  generalize hk : 2 * 54 - m.log2 + ((i - ((2 * 54 - m.log2 : Nat) : Int)) % 2).toNat = more
  have hev : (i - more) % 2 = 0 := by omega
  have hge : 108 ≤ m.log2 + more := by omega
  have hn1 := log2_shift (k := more) hm
  generalize hn : m <<< more = n at *
  have hbig : 2 ^ 108 ≤ n := Nat.le_trans (Nat.pow_le_pow_right (by omega) hge) hn1
  have ⟨w1, w2⟩ := root_nat n
  generalize Datum.rootFrom n (n.log2 / 2 + 1) 0 = w at *
  have hw : 9007199254740992 ≤ w := by
    apply Nat.le_of_not_lt
    intro hlt
    have : (w + 1) * (w + 1) ≤ 9007199254740992 * 9007199254740992 := Nat.mul_le_mul hlt hlt
    have e : (2 : Nat) ^ 108 = 4 * (9007199254740992 * 9007199254740992) := by decide
    omega
  have hww : 9007199254740992 * w ≤ w * w := Nat.mul_le_mul_right _ hw
  have ew : (w + 1) * (w + 1) = w * w + 2 * w + 1 := by
    rw [Nat.add_mul, Nat.mul_add]; omega
  rw [ew] at w2
  have hm1 : (2 * w + (w * w != n).toNat) * (2 * w + (w * w != n).toNat) ≤ 4 * n + 4 * w + 1 ∧ 4 * n ≤ (2 * w + (w * w != n).toNat) * (2 * w + (w * w != n).toNat) + 8 * w := by
    by_cases hz : w * w = n
    · rw [hz]; simp only [bne_self_eq_false, Bool.toNat_false, Nat.add_zero]
      have : 2 * w * (2 * w) = 4 * (w * w) := by rw [Nat.mul_assoc, Nat.mul_left_comm w 2 w]; omega
      omega
    · have hb : (w * w != n) = true := by simpa using hz
      rw [hb]; simp only [Bool.toNat_true]
      have : (2 * w + 1) * (2 * w + 1) = 4 * (w * w) + 4 * w + 1 := by
        rw [Nat.add_mul, Nat.mul_add, Nat.mul_assoc, Nat.mul_left_comm w 2 w]; omega
      omega
  generalize 2 * w + (w * w != n).toNat = mag at *
  have hc := zpow_pos (i - more - 2)
  have e1 : (mag : Rat) * (2 : Rat) ^ ((i - more) / 2 - 1) * ((mag : Rat) * (2 : Rat) ^ ((i - more) / 2 - 1)) = ((mag * mag : Nat) : Rat) * (2 : Rat) ^ (i - more - 2) := by
    have : (2 : Rat) ^ (i - more - 2) = (2 : Rat) ^ ((i - more) / 2 - 1) * (2 : Rat) ^ ((i - more) / 2 - 1) := by rw [← Rat.zpow_add two_ne]; congr 1; omega
    rw [this]; push_cast; grind
  have e2 : (m : Rat) * (2 : Rat) ^ i = ((4 * n : Nat) : Rat) * (2 : Rat) ^ (i - more - 2) := by
    have : (2 : Rat) ^ i = (2 : Rat) ^ more * 4 * (2 : Rat) ^ (i - more - 2) := by
      have hh : (2 : Rat) ^ more * 4 = (2 : Rat) ^ ((more : Int) + 2) := by rw [Rat.zpow_add two_ne, Rat.zpow_natCast]; rfl
      rw [hh, ← Rat.zpow_add two_ne]; congr 1; omega
    rw [this, Rat.natCast_mul, ← hn, shift_cast]; push_cast; grind
  rw [e1, e2]
  generalize (2 : Rat) ^ (i - more - 2) = c at *
  have k1 : ((mag * mag : Nat) : Rat) ≤ ((4 * n + 4 * w + 1 : Nat) : Rat) := by exact_mod_cast hm1.1
  have k2 : ((4 * n : Nat) : Rat) ≤ ((mag * mag + 8 * w : Nat) : Rat) := by exact_mod_cast hm1.2
  have k3 : ((9007199254740992 * w : Nat) : Rat) ≤ ((n : Nat) : Rat) := by exact_mod_cast (Nat.le_trans hww w1)
  have k4 : ((9007199254740992 : Nat) : Rat) ≤ (w : Rat) := by exact_mod_cast hw
  generalize hG : ((mag * mag : Nat) : Rat) = G at *
  push_cast at k1 k2 k3 k4 ⊢
  generalize (n : Rat) = N at *
  generalize (w : Rat) = W at *
  constructor
  · have : G ≤ 4 * N + 4 * del * (4 * N) := by unfold del; grind
    have := Rat.mul_le_mul_of_nonneg_right this (Rat.le_of_lt hc)
    grind
  · have : 4 * N - 4 * del * (4 * N) ≤ G := by unfold del; grind
    have := Rat.mul_le_mul_of_nonneg_right this (Rat.le_of_lt hc)
    grind

/-- A square root of a number that is not below 0: rounded, of one whose square is near. -/
theorem sqrt_fv {a : Nat} {x : Rat} (ha : Fv a x) (hx : 0 ≤ x) (hs : x ≤ h100) :
    ∃ r v s, double.sqrt a = some r ∧ Fv r v ∧ Rnd s v ∧ 0 ≤ s ∧ s * s ≤ x + 4 * del * x ∧ x - 4 * del * x ≤ s * s := by
  obtain ⟨s, m, i, h1, rfl⟩ := ha
  by_cases hm : m = 0
  · subst hm
    have e : valD (.number s 0 i) = 0 := valD_zero _ _
    obtain ⟨v, h6, h7⟩ := write_small s 0 i (by rw [e]; unfold Small; have := big_pos; constructor <;> grind)
    refine ⟨_, v, _, by unfold Format.sqrt; rw [h1]; simp only [Datum.root, if_true]; rfl, h6, h7, ?_, ?_, ?_⟩ <;> rw [e] <;> grind
  · have hsg : s = false := by
      cases s
      · rfl
      · exfalso
        simp only [valD, if_true] at hx
        have h2 := mag_nonneg m i
        have h3 : (0 : Rat) < (m : Rat) * (2 : Rat) ^ i := Rat.mul_pos (by exact_mod_cast Nat.pos_of_ne_zero hm) (zpow_pos _)
        grind
    subst hsg
    obtain ⟨mag, place, h3, h4, h5⟩ := root_val m i hm
    have hX : valD (.number false m i) = (m : Rat) * (2 : Rat) ^ i := by simp [valD]
    have hM : valD (.number false mag place) = (mag : Rat) * (2 : Rat) ^ place := by simp [valD]
    have hM0 := mag_nonneg mag place
    rw [hX] at hx hs ⊢
    have hsm : (mag : Rat) * (2 : Rat) ^ place ≤ big := by
      have k4 : h100 ≤ big := by rw [h100_pow]; exact zpow_le (by omega)
      refine Rat.le_trans ?_ k4
      apply Rat.not_lt.1
      intro hlt
      have k5 : h100 * h100 ≤ (mag : Rat) * (2 : Rat) ^ place * h100 := Rat.mul_le_mul_of_nonneg_right (Rat.le_of_lt hlt) (by decide +kernel)
      have k6 : (mag : Rat) * (2 : Rat) ^ place * h100 ≤ (mag : Rat) * (2 : Rat) ^ place * ((mag : Rat) * (2 : Rat) ^ place) := Rat.mul_le_mul_of_nonneg_left (Rat.le_of_lt hlt) hM0
      have k7 : (2 : Rat) * h100 < h100 * h100 := by decide +kernel
      unfold del at h4
      grind
    obtain ⟨v, h6, h7⟩ := write_small false mag place (by rw [hM]; unfold Small; have := big_pos; constructor <;> grind)
    rw [hM] at h7
    exact ⟨_, v, _, by unfold Format.sqrt; rw [h1, show double.fractionBits + 2 = 54 from rfl, h3]; rfl, h6, h7, hM0, h4, h5⟩

def fsqrt (a : Nat) : Nat := (double.sqrt a).getD 0

theorem abs_le_of_sq {x c : Rat} (hc : 0 ≤ c) (h : x * x ≤ c * c) : -c ≤ x ∧ x ≤ c := by
  constructor
  · apply Rat.not_lt.1
    intro hlt
    have h1 : c * c ≤ c * (-x) := Rat.mul_le_mul_of_nonneg_left (by grind) hc
    have h2 : c * (-x) < (-x) * (-x) := Rat.mul_lt_mul_of_pos_right (by grind) (by grind)
    grind
  · apply Rat.not_lt.1
    intro hlt
    have h1 : c * c ≤ c * x := Rat.mul_le_mul_of_nonneg_left (by grind) hc
    have h2 : c * x < x * x := Rat.mul_lt_mul_of_pos_right hlt (by grind)
    grind

theorem sq_le_of_abs {x c : Rat} (h1 : -c ≤ x) (h2 : x ≤ c) : x * x ≤ c * c := by
  have hc : 0 ≤ c := by grind
  by_cases hx : 0 ≤ x
  · have a1 := Rat.mul_le_mul_of_nonneg_left h2 hx
    have a2 := Rat.mul_le_mul_of_nonneg_right h2 hc
    grind
  · have a1 : (-x) * (-x) ≤ (-x) * c := Rat.mul_le_mul_of_nonneg_left (by grind) (by grind)
    have a2 : (-x) * c ≤ c * c := Rat.mul_le_mul_of_nonneg_right (by grind) hc
    grind
end Go.Fl
