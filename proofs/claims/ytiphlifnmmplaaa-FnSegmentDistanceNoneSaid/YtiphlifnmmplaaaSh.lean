/- The plain law of the distance between a place and a segment of whole coordinates: whether it is below 2^-30. Conditions are stated at each lemma. -/
import Derived.Test.YtiphlifnmmplaaaSg
import Derived.Test.YtiphlifnmmplaaaFn
namespace Go.Fl

theorem fdiv_eq {a b r : Nat} (h : Ieee.double.div a b = some r) : floatBits .quo .f64 a b = some (Fl.fdiv a b) ∧ Fl.fdiv a b = r := by
  have e : floatBits .quo .f64 a b = some r := h
  have e2 : Fl.fdiv a b = r := by unfold Fl.fdiv; rw [e]; rfl
  exact ⟨by rw [e2]; exact e, e2⟩

def c30 : Nat := 4472074429978902528
theorem c30_v : Fv c30 (1 / 1073741824) := ⟨false, 4503599627370496, -82, by decide +kernel, by decide +kernel⟩

theorem zero_v : Fv 0 0 := by
  have := intV_zero
  unfold IntV at this
  exact this

/-- The foot's share before it is bounded, as words. -/
def projB (ax ay bx by' px py : Nat) : Nat :=
  fdiv (fadd (fmul (fsub px ax) (fsub bx ax)) (fmul (fsub py ay) (fsub by' ay))) (lenB (fsub bx ax) (fsub by' ay))
def shareB (ax ay bx by' px py : Nat) : Nat := fdiv (projB ax ay bx by' px py) (lenB (fsub bx ax) (fsub by' ay))
def ahead (ax ay bx by' px py : Nat) : Bool := Ieee.double.order (projB ax ay bx by' px py) 0 == some .lt
def behind (ax ay bx by' px py : Nat) : Bool := Ieee.double.order (projB ax ay bx by' px py) (lenB (fsub bx ax) (fsub by' ay)) == some .gt
def footX (ax ay bx by' px py : Nat) : Nat := cond (ahead ax ay bx by' px py) ax (cond (behind ax ay bx by' px py) bx (fadd (fmul (fsub bx ax) (shareB ax ay bx by' px py)) ax))
def footY (ax ay bx by' px py : Nat) : Nat := cond (ahead ax ay bx by' px py) ay (cond (behind ax ay bx by' px py) by' (fadd (fmul (fsub by' ay) (shareB ax ay bx by' px py)) ay))
def distB (ax ay bx by' px py : Nat) : Nat := lenB (fsub px (footX ax ay bx by' px py)) (fsub py (footY ax ay bx by' px py))

/-- Nothing ahead of the choice of the foot is out of bounds. -/
def HeadOk (ax ay bx by' px py : Nat) : Prop :=
  floatBits .sub .f64 bx ax = some (fsub bx ax) ∧ floatBits .sub .f64 by' ay = some (fsub by' ay) ∧ LenOk (fsub bx ax) (fsub by' ay) ∧
  floatBits .sub .f64 px ax = some (fsub px ax) ∧ floatBits .sub .f64 py ay = some (fsub py ay) ∧
  floatBits .mul .f64 (fsub px ax) (fsub bx ax) = some (fmul (fsub px ax) (fsub bx ax)) ∧ floatBits .mul .f64 (fsub py ay) (fsub by' ay) = some (fmul (fsub py ay) (fsub by' ay)) ∧
  floatBits .add .f64 (fmul (fsub px ax) (fsub bx ax)) (fmul (fsub py ay) (fsub by' ay)) = some (fadd (fmul (fsub px ax) (fsub bx ax)) (fmul (fsub py ay) (fsub by' ay))) ∧
  floatBits .quo .f64 (fadd (fmul (fsub px ax) (fsub bx ax)) (fmul (fsub py ay) (fsub by' ay))) (lenB (fsub bx ax) (fsub by' ay)) = some (projB ax ay bx by' px py)

/-- Nothing in the foot between both ends is out of bounds. -/
def MidOk (ax ay bx by' px py : Nat) : Prop :=
  floatBits .quo .f64 (projB ax ay bx by' px py) (lenB (fsub bx ax) (fsub by' ay)) = some (shareB ax ay bx by' px py) ∧
  floatBits .mul .f64 (fsub bx ax) (shareB ax ay bx by' px py) = some (fmul (fsub bx ax) (shareB ax ay bx by' px py)) ∧
  floatBits .mul .f64 (fsub by' ay) (shareB ax ay bx by' px py) = some (fmul (fsub by' ay) (shareB ax ay bx by' px py)) ∧
  floatBits .add .f64 (fmul (fsub bx ax) (shareB ax ay bx by' px py)) ax = some (fadd (fmul (fsub bx ax) (shareB ax ay bx by' px py)) ax) ∧
  floatBits .add .f64 (fmul (fsub by' ay) (shareB ax ay bx by' px py)) ay = some (fadd (fmul (fsub by' ay) (shareB ax ay bx by' px py)) ay)

/-- Nothing behind the choice of the foot is out of bounds. -/
def TailOk (ax ay bx by' px py : Nat) : Prop :=
  floatBits .sub .f64 px (footX ax ay bx by' px py) = some (fsub px (footX ax ay bx by' px py)) ∧
  floatBits .sub .f64 py (footY ax ay bx by' px py) = some (fsub py (footY ax ay bx by' px py)) ∧
  LenOk (fsub px (footX ax ay bx by' px py)) (fsub py (footY ax ay bx by' px py))

theorem imul_bd {x y : Int} (h1 : -512 ≤ x) (h2 : x ≤ 512) (h3 : -512 ≤ y) (h4 : y ≤ 512) : -262144 ≤ x * y ∧ x * y ≤ 262144 := by
  have k1 := Rat.intCast_le_intCast.2 h1
  have k2 := Rat.intCast_le_intCast.2 h2
  have k3 := Rat.intCast_le_intCast.2 h3
  have k4 := Rat.intCast_le_intCast.2 h4
  push_cast at k1 k2 k3 k4
  have m := mul_size (hi := 512) (lo := 512) k1 k2 k3 k4
  constructor
  · apply Rat.intCast_le_intCast.1; push_cast; grind
  · apply Rat.intCast_le_intCast.1; push_cast; grind

theorem isq_nonneg (x : Int) : 0 ≤ x * x := by
  by_cases h : 0 ≤ x
  · exact Int.mul_nonneg h h
  · have : 0 ≤ (-x) * (-x) := Int.mul_nonneg (by omega) (by omega)
    rwa [Int.neg_mul_neg] at this

/-- The length of a segment of whole coordinates. -/
theorem len_whole {x y : Nat} {dx dy : Int} (hx : IntV x dx) (hy : IntV y dy) (h1 : -512 ≤ dx) (h2 : dx ≤ 512) (h3 : -512 ≤ dy) (h4 : dy ≤ 512) (hne : ¬ (dx = 0 ∧ dy = 0)) :
    LenOk x y ∧ 1 ≤ dx * dx + dy * dy ∧ dx * dx + dy * dy ≤ 524288 ∧ ∃ A, Fv (lenB x y) A ∧ 1 / 4 ≤ A ∧ A ≤ 2048 ∧
      ((dx * dx + dy * dy : Int) : Rat) - 8 * eps * ((dx * dx + dy * dy : Int) : Rat) ≤ A * A ∧ A * A ≤ ((dx * dx + dy * dy : Int) : Rat) + 8 * eps * ((dx * dx + dy * dy : Int) : Rat) := by
  have b1 := imul_bd h1 h2 h1 h2
  have b2 := imul_bd h3 h4 h3 h4
  have p1 : 0 ≤ dx * dx := isq_nonneg dx
  have p2 : 0 ≤ dy * dy := isq_nonneg dy
  have hD : 1 ≤ dx * dx + dy * dy := by
    apply Int.not_lt.1
    intro hle
    have z1 : dx * dx = 0 := by omega
    have z2 : dy * dy = 0 := by omega
    exact hne ⟨(Int.mul_eq_zero.1 z1).elim id id, (Int.mul_eq_zero.1 z2).elim id id⟩
  obtain ⟨g1, f1⟩ := hx.fmul hx (by omega) (by omega)
  obtain ⟨g2, f2⟩ := hy.fmul hy (by omega) (by omega)
  obtain ⟨g3, f3⟩ := f1.fadd f2 (by omega) (by omega)
  generalize hDD : dx * dx + dy * dy = D at *
  have c1 := Rat.intCast_le_intCast.2 hD
  have c2 := Rat.intCast_le_intCast.2 (show D ≤ 524288 by omega)
  push_cast at c1 c2
  have hb := h100_big
  obtain ⟨out, A, s, k1, k2, k3, k4, k5, k6⟩ := sqrt_fv f3 (by grind) (by grind)
  have eo : lenB x y = out := by unfold lenB fsqrt; rw [k1]; rfl
  generalize (D : Rat) = Q at *
  have s1 : 1 / 2 ≤ s := by
    apply Rat.not_lt.1
    intro hlt
    have := sq_le_of_abs (c := 1 / 2) (by grind) (Rat.le_of_lt hlt)
    unfold del at k6; grind
  have s2 : s ≤ 1024 := by
    have := abs_le_of_sq (x := s) (c := 1024) (by grind) (by unfold del at k5; grind)
    exact this.2
  have ⟨r1, r2⟩ := rnd_rel k3 k4 (.inr (Rat.le_trans (show (2 : Rat) ^ (-1000 : Int) ≤ 1 / 2 by decide +kernel) s1))
  refine ⟨⟨g1, g2, g3, by rw [eo]; exact k1⟩, hD, by omega, A, by rw [eo]; exact k2, by unfold eps at r1; grind, by unfold eps at r2; grind, ?_, ?_⟩
  · have m1 : (s - eps * s) * (s - eps * s) ≤ A * A := by
      have q1 : 0 ≤ s - eps * s := by unfold eps; grind
      have q2 := Rat.mul_le_mul_of_nonneg_left r1 q1
      have q3 := Rat.mul_le_mul_of_nonneg_right r1 (show 0 ≤ A by grind)
      grind
    have e : (s - eps * s) * (s - eps * s) = s * s - 2 * eps * (s * s) + eps * eps * (s * s) := by grind
    rw [e] at m1
    generalize s * s = S at *
    unfold eps del at *
    grind
  · have m1 : A * A ≤ (s + eps * s) * (s + eps * s) := by
      have q1 : 0 ≤ A := by unfold eps at r1; grind
      have q2 := Rat.mul_le_mul_of_nonneg_left r2 q1
      have q3 := Rat.mul_le_mul_of_nonneg_right r2 (show 0 ≤ s + eps * s by unfold eps; grind)
      grind
    have e : (s + eps * s) * (s + eps * s) = s * s + 2 * eps * (s * s) + eps * eps * (s * s) := by grind
    rw [e] at m1
    generalize s * s = S at *
    unfold eps del at *
    grind

/-- Whether a place lies on the segment, by differences from its first end. -/
def OnSeg (dx dy qx qy : Int) : Prop := dx * qy - dy * qx = 0 ∧ min 0 dx ≤ qx ∧ qx ≤ max 0 dx ∧ min 0 dy ≤ qy ∧ qy ≤ max 0 dy

theorem dot_on {d q : Int} (h1 : min 0 d ≤ q) (h2 : q ≤ max 0 d) : 0 ≤ q * d ∧ q * d ≤ d * d := by
  by_cases h : 0 ≤ d
  · have k1 : 0 ≤ q * d := Int.mul_nonneg (by omega) h
    have k2 : q * d ≤ d * d := Int.mul_le_mul_of_nonneg_right (by omega) h
    exact ⟨k1, k2⟩
  · have k1 : 0 ≤ (-q) * (-d) := Int.mul_nonneg (by omega) (by omega)
    have k2 : (-q) * (-d) ≤ (-d) * (-d) := Int.mul_le_mul_of_nonneg_right (by omega) (by omega)
    rw [Int.neg_mul_neg] at k1 k2
    rw [Int.neg_mul_neg] at k2
    exact ⟨k1, k2⟩

/-- The end: a length that is near 0, or far from it, beside 2^-30. -/
theorem len_end {x y : Nat} {p q : Rat} (hx : Fv x p) (hy : Fv y q) (p1 : -2048 ≤ p) (p2 : p ≤ 2048) (q1 : -2048 ≤ q) (q2 : q ≤ 2048) (on : Prop) [Decidable on]
    (hn : on → -(1 / 68719476736) ≤ p ∧ p ≤ 1 / 68719476736 ∧ -(1 / 68719476736) ≤ q ∧ q ≤ 1 / 68719476736)
    (hf : ¬ on → (p ≤ -(1 / 4096) ∨ 1 / 4096 ≤ p ∨ q ≤ -(1 / 4096) ∨ 1 / 4096 ≤ q)) :
    LenOk x y ∧ (Ieee.double.order (lenB x y) c30 == some .lt) = decide on := by
  obtain ⟨h1, v, h2, h3, h4⟩ := len_near hx hy p1 p2 q1 q2
  refine ⟨h1, ?_⟩
  rw [order_lt_fv h2 c30_v]
  by_cases h : on
  · obtain ⟨a1, a2, a3, a4⟩ := hn h
    have := h3 a1 a2 a3 a4
    rw [decide_eq_true h, decide_eq_true]
    grind
  · have := h4 (hf h)
    rw [decide_eq_false h, decide_eq_false]
    grind

theorem int_rat {x : Int} {a b : Int} (h : a ≤ x ∧ x ≤ b) : (a : Rat) ≤ (x : Rat) ∧ (x : Rat) ≤ (b : Rat) := ⟨Rat.intCast_le_intCast.2 h.1, Rat.intCast_le_intCast.2 h.2⟩

/-- The foot is an end of the segment. -/
theorem seg_end {cx cy px py : Int} (hc1 : -256 ≤ cx ∧ cx ≤ 256) (hc2 : -256 ≤ cy ∧ cy ≤ 256) (hp1 : -256 ≤ px ∧ px ≤ 256) (hp2 : -256 ≤ py ∧ py ≤ 256) (on : Prop) [Decidable on] (hon : on ↔ (px = cx ∧ py = cy)) :
    floatBits .sub .f64 (fint px) (fint cx) = some (fsub (fint px) (fint cx)) ∧ floatBits .sub .f64 (fint py) (fint cy) = some (fsub (fint py) (fint cy)) ∧
    LenOk (fsub (fint px) (fint cx)) (fsub (fint py) (fint cy)) ∧ (Ieee.double.order (lenB (fsub (fint px) (fint cx)) (fsub (fint py) (fint cy))) c30 == some .lt) = decide on := by
  obtain ⟨g1, f1⟩ := (IntV.fint (n := px) (by omega) (by omega)).fsub (IntV.fint (n := cx) (by omega) (by omega)) (by omega) (by omega)
  obtain ⟨g2, f2⟩ := (IntV.fint (n := py) (by omega) (by omega)).fsub (IntV.fint (n := cy) (by omega) (by omega)) (by omega) (by omega)
  have b1 := int_rat (x := px - cx) (a := -512) (b := 512) (by omega)
  have b2 := int_rat (x := py - cy) (a := -512) (b := 512) (by omega)
  have l := len_end f1 f2 (by have := b1.1; push_cast at this ⊢; grind) (by have := b1.2; push_cast at this ⊢; grind) (by have := b2.1; push_cast at this ⊢; grind) (by have := b2.2; push_cast at this ⊢; grind) on
    (by
      intro h
      obtain ⟨rfl, rfl⟩ := hon.1 h
      rw [Int.sub_self, Int.sub_self]
      refine ⟨?_, ?_, ?_, ?_⟩ <;> decide +kernel)
    (by
      intro h
      have hh : ¬ (px = cx ∧ py = cy) := fun k => h (hon.2 k)
      have : px - cx ≤ -1 ∨ 1 ≤ px - cx ∨ py - cy ≤ -1 ∨ 1 ≤ py - cy := by omega
      rcases this with k | k | k | k
      · have := Rat.intCast_le_intCast.2 k; left; push_cast at this ⊢; grind
      · have := Rat.intCast_le_intCast.2 k; right; left; push_cast at this ⊢; grind
      · have := Rat.intCast_le_intCast.2 k; right; right; left; push_cast at this ⊢; grind
      · have := Rat.intCast_le_intCast.2 k; right; right; right; push_cast at this ⊢; grind)
  exact ⟨g1, g2, l⟩

/-- One axis of the foot between both ends: how far it is from where the share puts it. -/
theorem axis_mid {a d p : Int} {dw r : Nat} {R : Rat} (ha : -256 ≤ a ∧ a ≤ 256) (hd : -512 ≤ d ∧ d ≤ 512) (hp : -256 ≤ p ∧ p ≤ 256) (hdw : IntV dw d) (hr : Fv r R) (hr0 : 0 ≤ R) (hr1 : R ≤ 1 + 8 * eps) :
    floatBits .mul .f64 dw r = some (fmul dw r) ∧ floatBits .add .f64 (fmul dw r) (fint a) = some (fadd (fmul dw r) (fint a)) ∧
    floatBits .sub .f64 (fint p) (fadd (fmul dw r) (fint a)) = some (fsub (fint p) (fadd (fmul dw r) (fint a))) ∧
    ∃ E, Fv (fsub (fint p) (fadd (fmul dw r) (fint a))) E ∧ ((p - a : Int) : Rat) - R * d - 3 * gap ≤ E ∧ E ≤ ((p - a : Int) : Rat) - R * d + 3 * gap ∧ -2048 ≤ E ∧ E ≤ 2048 := by
  have ia := IntV.fint (n := a) (by omega) (by omega)
  have ip := IntV.fint (n := p) (by omega) (by omega)
  unfold IntV at ia ip hdw
  have ba := int_rat ha
  have bd := int_rat hd
  have bp := int_rat hp
  push_cast at ba bd bp ⊢
  have hb := h100_big
  have m := mul_size (r := (d : Rat)) (d := R) (hi := 512) (lo := 2) (by grind) (by grind) (by grind) (by unfold eps at hr1; grind)
  obtain ⟨S, g1, f1, r1⟩ := fmul_fv hdw hr (by grind) (by grind)
  have q1 := rnd_gap r1 (by grind) (by grind)
  have gs : gap ≤ 1 := by decide +kernel
  obtain ⟨C, g2, f2, r2⟩ := fadd_fv f1 ia (by grind) (by grind)
  have q2 := rnd_gap r2 (by grind) (by grind)
  obtain ⟨E, g3, f3, r3⟩ := fsub_fv ip f2 (by grind) (by grind)
  have q3 := rnd_gap r3 (by grind) (by grind)
  refine ⟨g1, g2, g3, E, f3, ?_, ?_, ?_, ?_⟩ <;> grind

theorem seg_dist {ax ay bx by' px py : Int} (ha1 : -256 ≤ ax ∧ ax ≤ 256) (ha2 : -256 ≤ ay ∧ ay ≤ 256) (hb1 : -256 ≤ bx ∧ bx ≤ 256) (hb2 : -256 ≤ by' ∧ by' ≤ 256) (hp1 : -256 ≤ px ∧ px ≤ 256) (hp2 : -256 ≤ py ∧ py ≤ 256)
    (hne : ¬ (ax = bx ∧ ay = by')) (on : Prop) [Decidable on] (hon : on ↔ OnSeg (bx - ax) (by' - ay) (px - ax) (py - ay)) :
    HeadOk (fint ax) (fint ay) (fint bx) (fint by') (fint px) (fint py) ∧
    (ahead (fint ax) (fint ay) (fint bx) (fint by') (fint px) (fint py) = false → behind (fint ax) (fint ay) (fint bx) (fint by') (fint px) (fint py) = false → MidOk (fint ax) (fint ay) (fint bx) (fint by') (fint px) (fint py)) ∧
    TailOk (fint ax) (fint ay) (fint bx) (fint by') (fint px) (fint py) ∧
    (Ieee.double.order (distB (fint ax) (fint ay) (fint bx) (fint by') (fint px) (fint py)) c30 == some .lt) = decide on := by
  have iax := IntV.fint (n := ax) (by omega) (by omega)
  have iay := IntV.fint (n := ay) (by omega) (by omega)
  have ibx := IntV.fint (n := bx) (by omega) (by omega)
  have iby := IntV.fint (n := by') (by omega) (by omega)
  have ipx := IntV.fint (n := px) (by omega) (by omega)
  have ipy := IntV.fint (n := py) (by omega) (by omega)
  obtain ⟨g1, f1⟩ := ibx.fsub iax (by omega) (by omega)
  obtain ⟨g2, f2⟩ := iby.fsub iay (by omega) (by omega)
  obtain ⟨lo, hD1, hD2, A, fA, A1, A2, A3, A4⟩ := len_whole f1 f2 (by omega) (by omega) (by omega) (by omega) (by omega)
  obtain ⟨g3, f3⟩ := ipx.fsub iax (by omega) (by omega)
  obtain ⟨g4, f4⟩ := ipy.fsub iay (by omega) (by omega)
  have m1 := imul_bd (x := px - ax) (y := bx - ax) (by omega) (by omega) (by omega) (by omega)
  have m2 := imul_bd (x := py - ay) (y := by' - ay) (by omega) (by omega) (by omega) (by omega)
  obtain ⟨g5, f5⟩ := f3.fmul f1 (by omega) (by omega)
  obtain ⟨g6, f6⟩ := f4.fmul f2 (by omega) (by omega)
  obtain ⟨g7, f7⟩ := f5.fadd f6 (by omega) (by omega)
  have hb := h100_big
  have bdot := int_rat (x := (px - ax) * (bx - ax) + (py - ay) * (by' - ay)) (a := -524288) (b := 524288) (by omega)
  generalize hdot : (px - ax) * (bx - ax) + (py - ay) * (by' - ay) = dot at *
  generalize hDD : (bx - ax) * (bx - ax) + (by' - ay) * (by' - ay) = D at *
  have cD := int_rat (x := D) (a := 1) (b := 524288) ⟨hD1, hD2⟩
  push_cast at bdot cD
  have hyA : 1 ≤ h100 * A := by
    have := Rat.mul_le_mul_of_nonneg_left A1 (show 0 ≤ h100 by decide +kernel)
    grind
  obtain ⟨pw, p, d1, fp, d3, d4⟩ := div_fv f7 fA (by grind) hyA
  obtain ⟨d1, d2⟩ := fdiv_eq d1
  have e1 : projB (fint ax) (fint ay) (fint bx) (fint by') (fint px) (fint py) = pw := d2
  refine ⟨⟨g1, g2, lo, g3, g4, g5, g6, g7, d1⟩, ?_⟩
  have hah : ahead (fint ax) (fint ay) (fint bx) (fint by') (fint px) (fint py) = decide (p < 0) := by
    unfold ahead; rw [e1]; exact order_lt_fv fp zero_v
  have hbe : behind (fint ax) (fint ay) (fint bx) (fint by') (fint px) (fint py) = decide (A < p) := by
    unfold behind; rw [e1]; exact order_gt_fv fp fA
  -- what is known of a place on the segment
  have onp : on → 0 ≤ dot ∧ dot ≤ D ∧ (px - ax) * D = dot * (bx - ax) ∧ (py - ay) * D = dot * (by' - ay) := by
    intro h
    obtain ⟨c0, c1, c2, c3, c4⟩ := hon.1 h
    have k1 := dot_on c1 c2
    have k2 := dot_on c3 c4
    refine ⟨by omega, by omega, ?_, ?_⟩
    · rw [← hdot, ← hDD]; grind
    · rw [← hdot, ← hDD]; grind
  by_cases hp : p < 0
  · rw [decide_eq_true hp] at hah
    refine ⟨fun h => (by rw [hah] at h; cases h), ?_⟩
    have hx : footX (fint ax) (fint ay) (fint bx) (fint by') (fint px) (fint py) = fint ax := by unfold footX; rw [hah]; rfl
    have hy : footY (fint ax) (fint ay) (fint bx) (fint by') (fint px) (fint py) = fint ay := by unfold footY; rw [hah]; rfl
    have s := seg_end ha1 ha2 hp1 hp2 on (by
      constructor
      · intro h
        have := (onp h).1
        have := (d4 (by exact_mod_cast this)).1
        grind
      · rintro ⟨rfl, rfl⟩
        apply hon.2
        unfold OnSeg
        refine ⟨by grind, ?_, ?_, ?_, ?_⟩ <;> omega)
    unfold TailOk distB
    rw [hx, hy]
    exact ⟨⟨s.1, s.2.1, s.2.2.1⟩, s.2.2.2⟩
  · rw [decide_eq_false hp] at hah
    by_cases hp2' : A < p
    · rw [decide_eq_true hp2'] at hbe
      refine ⟨fun _ h => (by rw [hbe] at h; cases h), ?_⟩
      have hx : footX (fint ax) (fint ay) (fint bx) (fint by') (fint px) (fint py) = fint bx := by unfold footX; rw [hah, hbe]; rfl
      have hy : footY (fint ax) (fint ay) (fint bx) (fint by') (fint px) (fint py) = fint by' := by unfold footY; rw [hah, hbe]; rfl
      have s := seg_end hb1 hb2 hp1 hp2 on (by
        constructor
        · intro h
          obtain ⟨o1, o2, o3, o4⟩ := onp h
          have hd0 : (0 : Rat) ≤ (dot : Rat) := by exact_mod_cast o1
          have hdb : (dot : Rat) = 0 ∨ 1 ≤ h100 * (dot : Rat) := by
            by_cases hz : dot = 0
            · left; rw [hz]; rfl
            · right
              have k := Rat.intCast_le_intCast.2 (show 1 ≤ dot by omega)
              have := Rat.mul_le_mul_of_nonneg_left k (show 0 ≤ h100 by decide +kernel)
              push_cast at this; grind
          have hup := ((d4 hd0).2 hdb (by grind)).2
          have heq : dot = D := by
            apply Int.le_antisymm o2
            apply Int.le_of_not_gt
            intro hlt
            have k := Rat.intCast_le_intCast.2 (show dot ≤ D - 1 by omega)
            push_cast at k
            have k2 := Rat.mul_lt_mul_of_pos_right hp2' (show (0 : Rat) < A by grind)
            have k3 : 2 * eps * (dot : Rat) ≤ 2 * eps * (D : Rat) := Rat.mul_le_mul_of_nonneg_left (by grind) (by decide +kernel)
            have k4 : 16 * eps * (D : Rat) ≤ 16 * eps * 524288 := Rat.mul_le_mul_of_nonneg_left cD.2 (by decide +kernel)
            have k5 : 16 * eps * 524288 ≤ (1 : Rat) / 2 := by decide +kernel
            grind
          rw [heq] at o3 o4
          have k1 : (px - ax) = (bx - ax) := by
            rw [Int.mul_comm] at o3
            exact Int.eq_of_mul_eq_mul_left (by omega) o3
          have k2 : (py - ay) = (by' - ay) := by
            rw [Int.mul_comm] at o4
            exact Int.eq_of_mul_eq_mul_left (by omega) o4
          constructor <;> omega
        · rintro ⟨rfl, rfl⟩
          apply hon.2
          unfold OnSeg
          refine ⟨by grind, ?_, ?_, ?_, ?_⟩ <;> omega)
      unfold TailOk distB
      rw [hx, hy]
      exact ⟨⟨s.1, s.2.1, s.2.2.1⟩, s.2.2.2⟩
    · rw [decide_eq_false hp2'] at hbe
      have hp0 : 0 ≤ p := by grind
      have hpA : p ≤ A := by grind
      obtain ⟨rw', r, t1, fr, t3, t4⟩ := div_fv fp fA (by grind) hyA
      obtain ⟨t1, t2⟩ := fdiv_eq t1
      have e2 : shareB (fint ax) (fint ay) (fint bx) (fint by') (fint px) (fint py) = rw' := by unfold shareB; rw [e1]; exact t2
      have hr0 := (t4 hp0).1
      have hpb : p = 0 ∨ 1 ≤ h100 * p := by
        by_cases hz : dot ≤ 0
        · left
          have := d3 (by exact_mod_cast hz)
          grind
        · right
          have k := Rat.intCast_le_intCast.2 (show 1 ≤ dot by omega)
          push_cast at k
          have kh := Rat.mul_le_mul_of_nonneg_left k (show 0 ≤ h100 by decide +kernel)
          have hup := ((d4 (by grind)).2 (.inr (by grind)) (by grind)).1
          have k1 : 1 / 2 ≤ p * A := by unfold eps at hup; grind
          have k2 : p * A ≤ p * 2048 := Rat.mul_le_mul_of_nonneg_left A2 hp0
          have k3 : 4611686018427387904 * p ≤ h100 * p := Rat.mul_le_mul_of_nonneg_right hb hp0
          grind
      have hr1 : r ≤ 1 + 8 * eps := by
        have k := ((t4 hp0).2 hpb (by grind)).2
        have k1 : 2 * eps * p ≤ 2 * eps * A := Rat.mul_le_mul_of_nonneg_left hpA (by decide +kernel)
        apply (rmul_le (show (0 : Rat) < A by grind)).1
        have e : (1 + 8 * eps) * A = A + 8 * eps * A := by grind
        have k6 : (0 : Rat) ≤ eps * A := Rat.mul_nonneg (by decide +kernel) (by grind)
        rw [e]; grind
      obtain ⟨x1, x2, x3, Ex, x4, x5, x6, x7, x8⟩ := axis_mid (a := ax) (d := bx - ax) (p := px) ha1 (by omega) hp1 f1 fr hr0 hr1
      obtain ⟨y1, y2, y3, Ey, y4, y5, y6, y7, y8⟩ := axis_mid (a := ay) (d := by' - ay) (p := py) ha2 (by omega) hp2 f2 fr hr0 hr1
      refine ⟨fun _ _ => ?_, ?_⟩
      · unfold MidOk
        rw [e1, e2]
        exact ⟨by rw [← t2]; exact t1, x1, y1, x2, y2⟩
      · have hx : footX (fint ax) (fint ay) (fint bx) (fint by') (fint px) (fint py) = fadd (fmul (fsub (fint bx) (fint ax)) rw') (fint ax) := by unfold footX; rw [hah, hbe, e2]; rfl
        have hy : footY (fint ax) (fint ay) (fint bx) (fint by') (fint px) (fint py) = fadd (fmul (fsub (fint by') (fint ay)) rw') (fint ay) := by unfold footY; rw [hah, hbe, e2]; rfl
        unfold TailOk distB
        rw [hx, hy]
        have l := len_end x4 y4 x7 x8 y7 y8 on ?_ ?_
        · exact ⟨⟨x3, y3, l.1⟩, l.2⟩
        · intro h
          obtain ⟨o1, o2, o3, o4⟩ := onp h
          have hd0 : (0 : Rat) ≤ (dot : Rat) := by exact_mod_cast o1
          have hd1 : (dot : Rat) ≤ (D : Rat) := by exact_mod_cast o2
          have hdb : (dot : Rat) = 0 ∨ 1 ≤ h100 * (dot : Rat) := by
            by_cases hz : dot = 0
            · left; rw [hz]; rfl
            · right
              have k := Rat.intCast_le_intCast.2 (show 1 ≤ dot by omega)
              have := Rat.mul_le_mul_of_nonneg_left k (show 0 ≤ h100 by decide +kernel)
              push_cast at this; grind
          have hup := (d4 hd0).2 hdb (by grind)
          have hrr := (t4 hp0).2 hpb (by grind)
          have sn := share_near (D := (D : Rat)) (dot := (dot : Rat)) (A := A) (p := p) (r := r) cD.1 hd0 hd1 (by grind) A3 A4 hup.1 hup.2 hr0 hrr.1 hrr.2
          have bdx := int_rat (x := bx - ax) (a := -512) (b := 512) (by omega)
          have bdy := int_rat (x := by' - ay) (a := -512) (b := 512) (by omega)
          have o3' : ((px - ax : Int) : Rat) * (D : Rat) = (dot : Rat) * ((bx - ax : Int) : Rat) := by exact_mod_cast o3
          have o4' : ((py - ay : Int) : Rat) * (D : Rat) = (dot : Rat) * ((by' - ay : Int) : Rat) := by exact_mod_cast o4
          have fx := foot_on cD.1 (by have := bdx.1; grind) (by have := bdx.2; grind) o3' sn.1 sn.2
          have fy := foot_on cD.1 (by have := bdy.1; grind) (by have := bdy.2; grind) o4' sn.1 sn.2
          have k1 : 16384 * eps + 3 * gap ≤ 1 / 68719476736 := by decide +kernel
          refine ⟨?_, ?_, ?_, ?_⟩ <;> grind
        · intro h
          have hoff : ¬ OnSeg (bx - ax) (by' - ay) (px - ax) (py - ay) := fun k => h (hon.2 k)
          apply Classical.byContradiction
          intro hno
          have k1 : 3 * gap ≤ 1 / 4096 := by decide +kernel
          have n1 : ¬ Ex ≤ -(1 / 4096) := fun k => hno (.inl k)
          have n2 : ¬ 1 / 4096 ≤ Ex := fun k => hno (.inr (.inl k))
          have n3 : ¬ Ey ≤ -(1 / 4096) := fun k => hno (.inr (.inr (.inl k)))
          have n4 : ¬ 1 / 4096 ≤ Ey := fun k => hno (.inr (.inr (.inr k)))
          exact foot_off (dx := bx - ax) (dy := by' - ay) (qx := px - ax) (qy := py - ay) (by omega) (by omega) hr0 hr1 rfl rfl hoff (by grind) (by grind) (by grind) (by grind)
end Go.Fl
