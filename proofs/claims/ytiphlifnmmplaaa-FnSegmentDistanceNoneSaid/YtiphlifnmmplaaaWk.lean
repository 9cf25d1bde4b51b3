/- Segments of floats: the contracts of the program's sortFloat64Pair, uncheckedEnvelope, validate, Contains, intersectsXY. Conditions stand at each lemma. -/
import Derived.Test.YtiphlifnmmplaaaWh
namespace Go.Proofs.Ytiphlifnmmplaaa
open Go.RowKit
abbrev fenv (a b c d : Nat) : Value := .agg #[.float .f64 a, .float .f64 b, .float .f64 c, .float .f64 d, .bool true]
def loB (a b : Nat) : Nat := bif gtB a b then b else a
def hiB (a b : Nat) : Nat := bif gtB a b then a else b
theorem sortPair_any (a b : Nat) (w : World) : Calls Try.prog 98 #[.float .f64 a, .float .f64 b] w fun e w' => e = .returned (.tuple #[.float .f64 (loB a b), .float .f64 (hiB a b)]) ∧ w = w' := by
  have e : gtB a b = (FloatKind.f64.format.order a b == some .gt) := rfl
  unfold loB hiB
  cases h : gtB a b
  all_goals
    rw [h] at e
    have h1 := e.symm
    clear e h
    go_enter Try.func98, Try.ntmps98
    go_wp2
    go_ret2
    exact ⟨rfl, rfl⟩
theorem newEnv_any (a b c d : Nat) (w : World) : Calls Try.prog 95 #[fxy a b, fxy c d] w fun e w' => e = .returned (fenv a b c d) ∧ Below w.heap.size w w' := by
  go_enter Try.func95, Try.ntmps95
  go_wp2
  refine bodyPost_ret (v := fenv a b c d) (by simp [results, Try.results95, go_sem]) rfl ⟨rfl, ?_⟩
  exact alloc3 ..
theorem set5 {B : Nat} {a w : World} {n : Nat} (h : Below B a w) (hb : B ≤ n) (v0 v1 v2 v3 v4 : Value) : Below B a (((((w.setCell ⟨n, 0, none⟩ v0).setCell ⟨n, 1, none⟩ v1).setCell ⟨n, 2, none⟩ v2).setCell ⟨n, 3, none⟩ v3).setCell ⟨n, 4, none⟩ v4) :=
  (set4 h hb v0 v1 v2 v3).setCell (p := ⟨n, 4, none⟩) hb v4
abbrev fline (ax ay bx by' : Nat) : Value := .agg #[.float .f64 ax, .float .f64 ay, .float .f64 bx, .float .f64 by']
set_option maxHeartbeats 1000000 in
theorem uncheckedEnv_any (ax ay bx by' : Nat) (w : World) : Calls Try.prog 82 #[fline ax ay bx by'] w fun e w' => e = .returned (fenv (loB ax bx) (loB ay by') (hiB ax bx) (hiB ay by')) ∧ Below w.heap.size w w' := by
  go_enter Try.func82, Try.ntmps82
  go_wp2_with fail
  refine (sortPair_any _ _ _).mono ?_
  rintro e w1 ⟨rfl, rfl⟩
  go_wp2_with fail
  refine (sortPair_any _ _ _).mono ?_
  rintro e w1 ⟨rfl, rfl⟩
  go_wp2_with fail
  refine (newEnv_any _ _ _ _ _).mono ?_
  rintro e w1 ⟨rfl, hb⟩
  have c0 := fun o v h => cell_later (a := ⟨w.heap.size + 1, o, none⟩) (v := v) hb h
  have a0 := c0 0 (fl 0) (by go_simp)
  have a1 := c0 1 (fl 0) (by go_simp)
  have a2 := c0 2 (fl 0) (by go_simp)
  have a3 := c0 3 (fl 0) (by go_simp)
  have a4 := c0 4 (.bool false) (by go_simp)
  have g0 := frozen_later (a := ⟨w.heap.size + 1, 0, none⟩) hb (by simp) (by go_simp)
  have g1 := frozen_later (a := ⟨w.heap.size + 1, 1, none⟩) hb (by simp) (by go_simp)
  have g2 := frozen_later (a := ⟨w.heap.size + 1, 2, none⟩) hb (by simp) (by go_simp)
  have g3 := frozen_later (a := ⟨w.heap.size + 1, 3, none⟩) hb (by simp) (by go_simp)
  have g4 := frozen_later (a := ⟨w.heap.size + 1, 4, none⟩) hb (by simp) (by go_simp)
  have HB := Lib.hid hb
  clear hb c0
  go_wp2
  refine bodyPost_ret (v := fenv (loB ax bx) (loB ay by') (hiB ax bx) (hiB ay by')) (by simp [results, Try.results82, go_sem, a0, a1, a2, a3, a4]) rfl ⟨rfl, set5 ?_ (by omega) _ _ _ _ _⟩
  exact (alloc2 ..).trans (HB.out.mono (alloc2 ..).size)
theorem isEmpty_any (a b c d : Nat) (w : World) : Calls Try.prog 67 #[fenv a b c d] w fun e w' => e = .returned (.bool false) ∧ Below w.heap.size w w' := by
  go_enter Try.func67, Try.ntmps67
  go_wp2
  go_ret
  exact ⟨rfl, (Below.refl _ _).alloc (Nat.le_refl _) _⟩
theorem validate_any (x y : Nat) (hx : Fl.finB x = true) (hy : Fl.finB y = true) (w : World) : Calls Try.prog 99 #[fxy x y] w fun e w' => e = .returned .nilIface ∧ Below w.heap.size w w' := by
  have nx : (Ieee.double.read x).isNaN = false := by
    obtain ⟨q, s, m, p, h, _⟩ := Fl.finB_fv hx
    rw [h]; rfl
  have ny : (Ieee.double.read y).isNaN = false := by
    obtain ⟨q, s, m, p, h, _⟩ := Fl.finB_fv hy
    rw [h]; rfl
  have k1 := Lib.hid (fun w => isNaN_any x _ nx w)
  have k2 := Lib.hid (fun w => isNaN_any y _ ny w)
  have k3 := Lib.hid (fun w => isInf_any x false (by rw [show FloatKind.f64.format = Ieee.double from rfl, Fl.abs_gt_max nx, hx]; rfl) w)
  have k4 := Lib.hid (fun w => isInf_any y false (by rw [show FloatKind.f64.format = Ieee.double from rfl, Fl.abs_gt_max ny, hy]; rfl) w)
  clear hx hy nx ny
  go_enter Try.func99, Try.ntmps99
  go_wp2_with fail
  refine (k1.out _).mono ?_
  rintro e w1 ⟨rfl, rfl⟩
  go_wp2_with fail
  refine (k2.out _).mono ?_
  rintro e w1 ⟨rfl, rfl⟩
  go_wp2_with fail
  refine (k3.out _).mono ?_
  rintro e w1 ⟨rfl, rfl⟩
  go_wp2_with fail
  refine (k4.out _).mono ?_
  rintro e w1 ⟨rfl, rfl⟩
  go_wp2
  go_ret
  exact ⟨rfl, (Below.refl _ _).alloc (Nat.le_refl _) _⟩
def geB (a b : Nat) : Bool := FloatKind.f64.format.order a b == some .gt || FloatKind.f64.format.order a b == some .eq
def leB (a b : Nat) : Bool := FloatKind.f64.format.order a b == some .lt || FloatKind.f64.format.order a b == some .eq
theorem chain4 {p : Prop} (b1 b2 b3 b4 : Bool) (h1 : b1 = false → p) (h2 : b1 = true → b2 = false → p) (h3 : b1 = true → b2 = true → b3 = false → p) (h4 : b1 = true → b2 = true → b3 = true → b4 = false → p) (h5 : b1 = true → b2 = true → b3 = true → b4 = true → p) : p := by
  cases b1
  · exact h1 rfl
  · cases b2
    · exact h2 rfl rfl
    · cases b3
      · exact h3 rfl rfl rfl
      · cases b4
        · exact h4 rfl rfl rfl rfl
        · exact h5 rfl rfl rfl rfl
set_option maxHeartbeats 4000000 in
theorem contains_any (a b c d x y : Nat) (hx : Fl.finB x = true) (hy : Fl.finB y = true) (w : World) : Calls Try.prog 83 #[fenv a b c d, fxy x y] w fun e w' => e = .returned (.bool (geB x a && leB x c && geB y b && leB y d)) ∧ Below w.heap.size w w' := by
  have k1 := Lib.hid (fun w => isEmpty_any a b c d w)
  have k2 := Lib.hid (fun w => validate_any x y hx hy w)
  clear hx hy
  unfold geB leB
  refine chain4 (FloatKind.f64.format.order x a == some .gt || FloatKind.f64.format.order x a == some .eq) (FloatKind.f64.format.order x c == some .lt || FloatKind.f64.format.order x c == some .eq) (FloatKind.f64.format.order y b == some .gt || FloatKind.f64.format.order y b == some .eq) (FloatKind.f64.format.order y d == some .lt || FloatKind.f64.format.order y d == some .eq) ?_ ?_ ?_ ?_ ?_
  all_goals
    intros
    simp only [*, Bool.and_false, Bool.false_and, Bool.and_self]
    go_enter Try.func83, Try.ntmps83
    go_wp2_with fail
    refine (k1.out _).mono ?_
    rintro e w1 ⟨rfl, hb⟩
    have c0 := fun i o v h => cell_later (a := ⟨w.heap.size + i, o, none⟩) (v := v) hb h
    have a0 := c0 0 0 (fl a) (by go_simp)
    have a1 := c0 0 1 (fl b) (by go_simp)
    have a2 := c0 0 2 (fl c) (by go_simp)
    have a3 := c0 0 3 (fl d) (by go_simp)
    have b0 := c0 1 0 (fl x) (by go_simp)
    have b1 := c0 1 1 (fl y) (by go_simp)
    rw [Nat.add_zero] at a0 a1 a2 a3
    have HB := Lib.hid hb
    clear hb c0
    go_wp2_with fail
    refine (k2.out _).mono ?_
    rintro e w2 ⟨rfl, hb⟩
    have d0 := cell_later hb a0
    have d1 := cell_later hb a1
    have d2 := cell_later hb a2
    have d3 := cell_later hb a3
    have d4 := cell_later hb b0
    have d5 := cell_later hb b1
    have HB2 := Lib.hid hb
    clear hb a0 a1 a2 a3 b0 b1
    go_wp2
    go_ret
    exact ⟨rfl, (alloc2 ..).trans ((HB.out.mono (alloc2 ..).size).trans (HB2.out.mono (Nat.le_trans (alloc2 ..).size HB.out.size)))⟩
end Go.Proofs.Ytiphlifnmmplaaa
