/- The plain law of the distance between a place and a segment: how near the foot comes, by bounds on each rounding. Conditions are stated at each lemma. -/
import Derived.Test.YtiphlifnmmplaaaFq
namespace Go.Fl

/-- A rounding of a number of the size of coordinates. -/
def gap : Rat := 1 / 4398046511104

theorem rnd_gap {q r : Rat} (h : Rnd q r) (h1 : -2048 ≤ q) (h2 : q ≤ 2048) : q - gap ≤ r ∧ r ≤ q + gap := by
  have e : (2 : Rat) ^ (-42 : Int) = gap := by decide +kernel
  have := rnd_grid (e := -42) h (by omega) (by rw [e]; unfold gap; grind) (by rw [e]; unfold gap; grind)
  rw [e] at this
  exact this

theorem mul_between {r d lo hi : Rat} (hr : 0 ≤ r) (hr2 : r ≤ hi) (hd : 0 ≤ d) (hd2 : d ≤ lo) : 0 ≤ r * d ∧ r * d ≤ hi * lo := by
  constructor
  · exact Rat.mul_nonneg hr hd
  · have h1 := Rat.mul_le_mul_of_nonneg_left hd2 hr
    have h2 := Rat.mul_le_mul_of_nonneg_right hr2 (show (0 : Rat) ≤ lo by grind)
    grind

theorem mul_size {r d hi lo : Rat} (h1 : -hi ≤ r) (h2 : r ≤ hi) (h3 : -lo ≤ d) (h4 : d ≤ lo) : -(hi * lo) ≤ r * d ∧ r * d ≤ hi * lo := by
  by_cases hr : 0 ≤ r
  · by_cases hd : 0 ≤ d
    · have := mul_between hr h2 hd h4; grind
    · have := mul_between hr h2 (show 0 ≤ -d by grind) (show -d ≤ lo by grind); grind
  · by_cases hd : 0 ≤ d
    · have := mul_between (show 0 ≤ -r by grind) (show -r ≤ hi by grind) hd h4; grind
    · have := mul_between (show 0 ≤ -r by grind) (show -r ≤ hi by grind) (show 0 ≤ -d by grind) (show -d ≤ lo by grind); grind

/-- Of a place that does not lie on the segment no foot comes near, in X and Y together. -/
theorem foot_off {dx dy qx qy : Int} {r ux uy : Rat} (hdx : -512 ≤ dx ∧ dx ≤ 512) (hdy : -512 ≤ dy ∧ dy ≤ 512)
    (hr : 0 ≤ r) (hr2 : r ≤ 1 + 8 * eps)
    (hux : ux = (qx : Rat) - r * dx) (huy : uy = (qy : Rat) - r * dy)
    (hoff : ¬ (dx * qy - dy * qx = 0 ∧ min 0 dx ≤ qx ∧ qx ≤ max 0 dx ∧ min 0 dy ≤ qy ∧ qy ≤ max 0 dy))
    (h1 : -(1 / 2048) ≤ ux) (h2 : ux ≤ 1 / 2048) (h3 : -(1 / 2048) ≤ uy) (h4 : uy ≤ 1 / 2048) : False := by
  have side : ∀ (d q : Int) (u : Rat), -512 ≤ d → d ≤ 512 → u = (q : Rat) - r * d → -(1 / 2048) ≤ u → u ≤ 1 / 2048 → min 0 d ≤ q ∧ q ≤ max 0 d := by
    intro d q u k1 k2 k3 k4 k5
    have k1' := Rat.intCast_le_intCast.2 k1
    have k2' := Rat.intCast_le_intCast.2 k2
    push_cast at k1' k2'
    constructor
    · apply Int.le_of_not_gt
      intro hlt
      by_cases hd : 0 ≤ d
      · have m := mul_between hr hr2 (Rat.intCast_le_intCast.2 hd) k2'
        have hq := Rat.intCast_le_intCast.2 (show q ≤ -1 by omega)
        push_cast at hq
        grind
      · have hd' := Rat.intCast_le_intCast.2 (show d ≤ 0 by omega)
        have m := Rat.mul_le_mul_of_nonneg_right hr2 (show (0 : Rat) ≤ -(d : Rat) by push_cast at hd'; grind)
        have hq := Rat.intCast_le_intCast.2 (show q ≤ d - 1 by omega)
        push_cast at hq
        have e : (1 + 8 * eps) * -(d : Rat) = -(d : Rat) + 8 * eps * (-d) := by grind
        have m2 : 8 * eps * -(d : Rat) ≤ 8 * eps * 512 := Rat.mul_le_mul_of_nonneg_left (by grind) (by decide +kernel)
        have m3 : 8 * eps * 512 ≤ 1 / 4 := by decide +kernel
        grind
    · apply Int.le_of_not_gt
      intro hlt
      by_cases hd : 0 ≤ d
      · have hd' := Rat.intCast_le_intCast.2 hd
        have m := Rat.mul_le_mul_of_nonneg_right hr2 (show (0 : Rat) ≤ (d : Rat) by push_cast at hd'; grind)
        have hq := Rat.intCast_le_intCast.2 (show d + 1 ≤ q by omega)
        push_cast at hq
        have e : (1 + 8 * eps) * (d : Rat) = (d : Rat) + 8 * eps * d := by grind
        have m2 : 8 * eps * (d : Rat) ≤ 8 * eps * 512 := Rat.mul_le_mul_of_nonneg_left k2' (by decide +kernel)
        have m3 : 8 * eps * 512 ≤ 1 / 4 := by decide +kernel
        grind
      · have hd' := Rat.intCast_le_intCast.2 (show d ≤ 0 by omega)
        push_cast at hd'
        have m := mul_between hr hr2 (show (0 : Rat) ≤ -(d : Rat) by grind) (show -(d : Rat) ≤ 512 by grind)
        have hq := Rat.intCast_le_intCast.2 (show 1 ≤ q by omega)
        push_cast at hq
        grind
  have sx := side dx qx ux hdx.1 hdx.2 hux h1 h2
  have sy := side dy qy uy hdy.1 hdy.2 huy h3 h4
  have hc : dx * qy - dy * qx ≠ 0 := fun h => hoff ⟨h, sx.1, sx.2, sy.1, sy.2⟩
  have e : ((dx * qy - dy * qx : Int) : Rat) = uy * dx - ux * dy := by push_cast; rw [hux, huy]; grind
  have x1 := Rat.intCast_le_intCast.2 hdx.1
  have x2 := Rat.intCast_le_intCast.2 hdx.2
  have y1 := Rat.intCast_le_intCast.2 hdy.1
  have y2 := Rat.intCast_le_intCast.2 hdy.2
  push_cast at x1 x2 y1 y2
  have m1 := mul_size h3 h4 x1 x2
  have m2 := mul_size h1 h2 y1 y2
  rcases Int.lt_or_gt_of_ne hc with h | h
  · have := Rat.intCast_le_intCast.2 (show dx * qy - dy * qx ≤ -1 by omega)
    rw [e] at this; push_cast at this; grind
  · have := Rat.intCast_le_intCast.2 (show 1 ≤ dx * qy - dy * qx by omega)
    rw [e] at this; push_cast at this; grind

/-- The foot's share of the way, by two quotients, is near the whole one. -/
theorem share_near {D dot A p r : Rat} (hD : 1 ≤ D) (_h0 : 0 ≤ dot) (h1 : dot ≤ D) (hA : 0 < A)
    (hA1 : D - 8 * eps * D ≤ A * A) (hA2 : A * A ≤ D + 8 * eps * D)
    (hp1 : dot - 2 * eps * dot ≤ p * A) (hp2 : p * A ≤ dot + 2 * eps * dot) (hr0 : 0 ≤ r)
    (hr1 : p - 2 * eps * p ≤ r * A) (hr2 : r * A ≤ p + 2 * eps * p) :
    dot - 32 * eps * D ≤ r * D ∧ r * D ≤ dot + 32 * eps * D := by
  have k1 := Rat.mul_le_mul_of_nonneg_right hr1 (Rat.le_of_lt hA)
  have k2 := Rat.mul_le_mul_of_nonneg_right hr2 (Rat.le_of_lt hA)
  have e1 : (p - 2 * eps * p) * A = p * A - 2 * eps * (p * A) := by grind
  have e2 : (p + 2 * eps * p) * A = p * A + 2 * eps * (p * A) := by grind
  have e3 : r * A * A = r * (A * A) := by grind
  rw [e1, e3] at k1
  rw [e2, e3] at k2
  have k3 := Rat.mul_le_mul_of_nonneg_left hA1 hr0
  have k4 := Rat.mul_le_mul_of_nonneg_left hA2 hr0
  have e4 : r * (D - 8 * eps * D) = r * D - 8 * eps * (r * D) := by grind
  have e5 : r * (D + 8 * eps * D) = r * D + 8 * eps * (r * D) := by grind
  rw [e4] at k3
  rw [e5] at k4
  generalize r * D = R at *
  generalize r * (A * A) = S at *
  generalize p * A = T at *
  unfold eps at *
  constructor <;> grind

/-- A place on the segment is near its foot. -/
theorem foot_on {d q D dot r : Rat} (hD : 1 ≤ D) (hd : -512 ≤ d) (hd2 : d ≤ 512) (hq : q * D = dot * d)
    (h1 : dot - 32 * eps * D ≤ r * D) (h2 : r * D ≤ dot + 32 * eps * D) : -(16384 * eps) ≤ q - r * d ∧ q - r * d ≤ 16384 * eps := by
  have e : (q - r * d) * D = (dot - r * D) * d := by grind
  have m := mul_size (r := dot - r * D) (d := d) (hi := 32 * eps * D) (lo := 512) (by grind) (by grind) hd hd2
  rw [← e] at m
  have e2 : 32 * eps * D * 512 = 16384 * eps * D := by grind
  rw [e2] at m
  have hD0 : 0 < D := by grind
  constructor
  · apply (rmul_le hD0).1; grind
  · exact (rmul_le hD0).1 m.2

theorem rep_pow {k : Int} (h : -1074 ≤ k) : Rep ((2 : Rat) ^ k) := ⟨1, k, by omega, by omega, h, by push_cast; grind⟩

theorem rnd_le_pow {q r : Rat} (h : Rnd q r) (k : Int) (c : Rat) (hk : -1074 ≤ k) (hc : c = (2 : Rat) ^ k) (hq : q ≤ c) : r ≤ c := by
  subst hc; exact h.2.2 _ (rep_pow hk) hq

theorem pow_le_rnd {q r : Rat} (h : Rnd q r) (k : Int) (c : Rat) (hk : -1074 ≤ k) (hc : c = (2 : Rat) ^ k) (hq : c ≤ q) : c ≤ r := by
  subst hc; exact h.2.1 _ (rep_pow hk) hq

theorem rnd_abs_le {q r : Rat} (h : Rnd q r) (k : Int) (c : Rat) (hk : -1074 ≤ k) (hc : c = (2 : Rat) ^ k) (h1 : -c ≤ q) (h2 : q ≤ c) : -c ≤ r ∧ r ≤ c := by
  refine ⟨?_, rnd_le_pow h k c hk hc h2⟩
  have := rnd_le_pow h.neg k c hk hc (by grind)
  grind

theorem small_of {q : Rat} (h1 : -h100 ≤ q) (h2 : q ≤ h100) : Small q := by
  have k4 : h100 ≤ big := by rw [h100_pow]; exact zpow_le (by omega)
  unfold Small; constructor <;> grind

theorem fsub_fv {a b : Nat} {x y : Rat} (ha : Fv a x) (hb : Fv b y) (h1 : -h100 ≤ x - y) (h2 : x - y ≤ h100) : ∃ v, floatBits .sub .f64 a b = some (Fl.fsub a b) ∧ Fv (Fl.fsub a b) v ∧ Rnd (x - y) v := by
  obtain ⟨r, v, h, hv, hr⟩ := sub_fv ha hb (small_of h1 h2)
  have e : floatBits .sub .f64 a b = some r := h
  have e2 : Fl.fsub a b = r := by unfold Fl.fsub; rw [e]; rfl
  exact ⟨v, by rw [e2]; exact e, by rw [e2]; exact hv, hr⟩
theorem fadd_fv {a b : Nat} {x y : Rat} (ha : Fv a x) (hb : Fv b y) (h1 : -h100 ≤ x + y) (h2 : x + y ≤ h100) : ∃ v, floatBits .add .f64 a b = some (Fl.fadd a b) ∧ Fv (Fl.fadd a b) v ∧ Rnd (x + y) v := by
  obtain ⟨r, v, h, hv, hr⟩ := add_fv ha hb (small_of h1 h2)
  have e : floatBits .add .f64 a b = some r := h
  have e2 : Fl.fadd a b = r := by unfold Fl.fadd; rw [e]; rfl
  exact ⟨v, by rw [e2]; exact e, by rw [e2]; exact hv, hr⟩
theorem fmul_fv {a b : Nat} {x y : Rat} (ha : Fv a x) (hb : Fv b y) (h1 : -h100 ≤ x * y) (h2 : x * y ≤ h100) : ∃ v, floatBits .mul .f64 a b = some (Fl.fmul a b) ∧ Fv (Fl.fmul a b) v ∧ Rnd (x * y) v := by
  obtain ⟨r, v, h, hv, hr⟩ := mul_fv ha hb (small_of h1 h2)
  have e : floatBits .mul .f64 a b = some r := h
  have e2 : Fl.fmul a b = r := by unfold Fl.fmul; rw [e]; rfl
  exact ⟨v, by rw [e2]; exact e, by rw [e2]; exact hv, hr⟩

theorem sq_nonneg (x : Rat) : 0 ≤ x * x := by
  by_cases h : 0 ≤ x
  · exact Rat.mul_nonneg h h
  · have : 0 ≤ (-x) * (-x) := Rat.mul_nonneg (by grind) (by grind)
    grind

theorem h100_big : (4611686018427387904 : Rat) ≤ h100 := by decide +kernel

/-- The length of a difference, as words. -/
def lenB (x y : Nat) : Nat := Fl.fsqrt (Fl.fadd (Fl.fmul x x) (Fl.fmul y y))

/-- Nothing in the length of a difference is out of bounds. -/
def LenOk (x y : Nat) : Prop := floatBits .mul .f64 x x = some (Fl.fmul x x) ∧ floatBits .mul .f64 y y = some (Fl.fmul y y) ∧
  floatBits .add .f64 (Fl.fmul x x) (Fl.fmul y y) = some (Fl.fadd (Fl.fmul x x) (Fl.fmul y y)) ∧ Ieee.double.sqrt (Fl.fadd (Fl.fmul x x) (Fl.fmul y y)) = some (lenB x y)

theorem len_near {x y : Nat} {p q : Rat} (hx : Fv x p) (hy : Fv y q) (p1 : -2048 ≤ p) (p2 : p ≤ 2048) (q1 : -2048 ≤ q) (q2 : q ≤ 2048) :
    LenOk x y ∧ ∃ v, Fv (lenB x y) v ∧
      (-(1 / 68719476736) ≤ p → p ≤ 1 / 68719476736 → -(1 / 68719476736) ≤ q → q ≤ 1 / 68719476736 → v ≤ 1 / 34359738368) ∧
      ((p ≤ -(1 / 4096) ∨ 1 / 4096 ≤ p ∨ q ≤ -(1 / 4096) ∨ 1 / 4096 ≤ q) → 1 / 8192 ≤ v) := by
  have hb := h100_big
  have mp := mul_size (hi := 2048) (lo := 2048) p1 p2 p1 p2
  have mq := mul_size (hi := 2048) (lo := 2048) q1 q2 q1 q2
  obtain ⟨E1, g1, f1, r1⟩ := fmul_fv hx hx (by grind) (by grind)
  obtain ⟨E2, g2, f2, r2⟩ := fmul_fv hy hy (by grind) (by grind)
  have sp := sq_nonneg p
  have sq := sq_nonneg q
  have n1 := rnd_nonneg r1 sp
  have n2 := rnd_nonneg r2 sq
  have u1 := rnd_le_pow r1 22 4194304 (by omega) (by decide +kernel) (by grind)
  have u2 := rnd_le_pow r2 22 4194304 (by omega) (by decide +kernel) (by grind)
  obtain ⟨E, g3, f3, r3⟩ := fadd_fv f1 f2 (by grind) (by grind)
  have n3 := rnd_nonneg r3 (by grind)
  have u3 := rnd_le_pow r3 23 8388608 (by omega) (by decide +kernel) (by grind)
  obtain ⟨out, v, s, h1, h2, h3, h4, h5, h6⟩ := sqrt_fv f3 n3 (by grind)
  have eo : lenB x y = out := by unfold lenB Fl.fsqrt; rw [h1]; rfl
  refine ⟨⟨g1, g2, g3, by rw [eo]; exact h1⟩, v, by rw [eo]; exact h2, ?_, ?_⟩
  · intro a1 a2 a3 a4
    have b1 := sq_le_of_abs a1 a2
    have b2 := sq_le_of_abs a3 a4
    have c1 := rnd_le_pow r1 (-72) (1 / 68719476736 * (1 / 68719476736)) (by omega) (by decide +kernel) b1
    have c2 := rnd_le_pow r2 (-72) (1 / 68719476736 * (1 / 68719476736)) (by omega) (by decide +kernel) b2
    have c3 := rnd_le_pow r3 (-71) (2 * (1 / 68719476736 * (1 / 68719476736))) (by omega) (by decide +kernel) (by grind)
    have d1 : s * s ≤ 1 / 34359738368 * (1 / 34359738368) := by unfold del at h5; grind
    have d2 := (abs_le_of_sq (by decide +kernel) d1).2
    exact rnd_le_pow h3 (-35) _ (by omega) (by decide +kernel) d2
  · intro hf
    have key : 1 / 4096 * (1 / 4096) ≤ p * p ∨ (1 : Rat) / 4096 * (1 / 4096) ≤ q * q := by
      have sqge : ∀ z : Rat, (z ≤ -(1 / 4096) ∨ 1 / 4096 ≤ z) → (1 : Rat) / 4096 * (1 / 4096) ≤ z * z := by
        intro z hz
        rcases hz with hz | hz
        · have k1 : (1 : Rat) / 4096 * (1 / 4096) ≤ 1 / 4096 * (-z) := Rat.mul_le_mul_of_nonneg_left (by grind) (by decide +kernel)
          have k2 : 1 / 4096 * (-z) ≤ (-z) * (-z) := Rat.mul_le_mul_of_nonneg_right (by grind) (by grind)
          grind
        · have k1 : (1 : Rat) / 4096 * (1 / 4096) ≤ 1 / 4096 * z := Rat.mul_le_mul_of_nonneg_left hz (by decide +kernel)
          have k2 : 1 / 4096 * z ≤ z * z := Rat.mul_le_mul_of_nonneg_right hz (by grind)
          grind
      rcases hf with h | h | h | h
      · exact .inl (sqge p (.inl h))
      · exact .inl (sqge p (.inr h))
      · exact .inr (sqge q (.inl h))
      · exact .inr (sqge q (.inr h))
    have c3 : 1 / 4096 * (1 / 4096) ≤ E := by
      refine pow_le_rnd r3 (-24) _ (by omega) (by decide +kernel) ?_
      rcases key with k | k
      · have := pow_le_rnd r1 (-24) _ (by omega) (by decide +kernel) k; grind
      · have := pow_le_rnd r2 (-24) _ (by omega) (by decide +kernel) k; grind
    refine pow_le_rnd h3 (-13) _ (by omega) (by decide +kernel) ?_
    apply Rat.not_lt.1
    intro hlt
    have k1 : s * s ≤ 1 / 8192 * (1 / 8192) := sq_le_of_abs (by grind) (Rat.le_of_lt hlt)
    unfold del at h6
    grind
end Go.Fl
