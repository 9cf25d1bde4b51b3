/- Segments of whole numbers: the contracts of spec's At, side, Holds, HasPt. Conditions stand at each lemma. -/
import Derived.Test.YtiphlifnmmplaaaWb
import Derived.Test.YtiphlifnmmplaaaRh
namespace Go.Proofs.Ytiphlifnmmplaaa
open Go.RowKit
theorem chain5 {p : Prop} (b1 b2 b3 b4 b5 : Bool) (h1 : b1 = false → p) (h2 : b1 = true → b2 = false → p) (h3 : b1 = true → b2 = true → b3 = false → p) (h4 : b1 = true → b2 = true → b3 = true → b4 = false → p) (h5 : b1 = true → b2 = true → b3 = true → b4 = true → b5 = false → p) (h6 : b1 = true → b2 = true → b3 = true → b4 = true → b5 = true → p) : p := by
  cases b1
  · exact h1 rfl
  · cases b2
    · exact h2 rfl rfl
    · cases b3
      · exact h3 rfl rfl rfl
      · cases b4
        · exact h4 rfl rfl rfl rfl
        · cases b5
          · exact h5 rfl rfl rfl rfl rfl
          · exact h6 rfl rfl rfl rfl rfl
abbrev iseg (ax ay bx by' : Int) : Value := .agg #[.int .i64 ax, .int .i64 ay, .int .i64 bx, .int .i64 by']
abbrev ispot (x y k : Int) : Value := .agg #[.int .i64 x, .int .i64 y, .int .i64 k]
theorem at_any (x y : Int) (w : World) : Calls Try.prog 34 #[ixy x y] w fun e w' => e = .returned (ispot x y 1) ∧ Below w.heap.size w w' := by
  go_enter Try.func34, Try.ntmps34
  go_wp2
  exact bodyPost_ret (v := ispot x y 1) (by simp [results, Try.results34, go_sem]) rfl ⟨rfl, ((Below.refl _ _).alloc (Nat.le_refl _) _).alloc (by simp) _⟩
set_option maxHeartbeats 1000000 in
theorem side_any (ax ay bx by' px py : Int) (w : World) (h1 : -1048576 ≤ ax ∧ ax ≤ 1048576) (h2 : -1048576 ≤ ay ∧ ay ≤ 1048576) (h3 : -1048576 ≤ bx ∧ bx ≤ 1048576) (h4 : -1048576 ≤ by' ∧ by' ≤ 1048576) (h5 : -1048576 ≤ px ∧ px ≤ 1048576) (h6 : -1048576 ≤ py ∧ py ≤ 1048576) :
    Calls Try.prog 54 #[iseg ax ay bx by', ispot px py 1] w fun e w' => e = .returned (.int .i64 ((bx - ax) * (py - ay) - (by' - ay) * (px - ax))) ∧ Below w.heap.size w w' := by
  have b1 := mul_bd (x := bx - ax) (y := py - ay) (m := 2097152) (by omega) (by omega) (by omega) (by omega)
  have b2 := mul_bd (x := by' - ay) (y := px - ax) (m := 2097152) (by omega) (by omega) (by omega) (by omega)
  obtain ⟨a1, a2⟩ := h1
  obtain ⟨a3, a4⟩ := h2
  obtain ⟨a5, a6⟩ := h3
  obtain ⟨a7, a8⟩ := h4
  obtain ⟨a9, a10⟩ := h5
  obtain ⟨a11, a12⟩ := h6
  obtain ⟨c1, c2⟩ := b1
  obtain ⟨c3, c4⟩ := b2
  go_enter Try.func54, Try.ntmps54
  go_wp2
  go_ret
  exact ⟨rfl, ((Below.refl _ _).alloc (Nat.le_refl _) _).alloc (by simp) _⟩
/-- On one line with the segment, and not beyond its ends. -/
def holdsB (s lx hx ly hy px py : Int) : Bool := (s == 0) && decide (lx ≤ px) && decide (px ≤ hx) && decide (ly ≤ py) && decide (py ≤ hy)
attribute [local irreducible] wpList
set_option maxHeartbeats 2000000 in
theorem holds_walk (ax ay bx by' px py s lx hx ly hy : Int) (w : World)
    (hs : ∀ w, Calls Try.prog 54 #[iseg ax ay bx by', ispot px py 1] w fun e w' => e = .returned (.int .i64 s) ∧ Below w.heap.size w w')
    (m1 : (if bx < ax then bx else ax) = lx) (m2 : (if ax < bx then bx else ax) = hx) (m3 : (if by' < ay then by' else ay) = ly) (m4 : (if ay < by' then by' else ay) = hy)
    (l1 : -1048576 ≤ lx) (l2 : lx ≤ 1048576) (l3 : -1048576 ≤ hx) (l4 : hx ≤ 1048576) (l5 : -1048576 ≤ ly) (l6 : ly ≤ 1048576) (l7 : -1048576 ≤ hy) (l8 : hy ≤ 1048576) :
    Calls Try.prog 33 #[iseg ax ay bx by', ispot px py 1] w fun e w' => e = .returned (.bool (holdsB s lx hx ly hy px py)) ∧ Below w.heap.size w w' := by
  unfold holdsB
  have HS := Lib.hid hs
  clear hs
  have q1 : lx * 1 = lx := Int.mul_one _
  have q2 : hx * 1 = hx := Int.mul_one _
  have q3 : ly * 1 = ly := Int.mul_one _
  have q4 : hy * 1 = hy := Int.mul_one _
  refine chain5 (s == 0) (decide (lx ≤ px)) (decide (px ≤ hx)) (decide (ly ≤ py)) (decide (py ≤ hy)) ?_ ?_ ?_ ?_ ?_ ?_
  · intro e1
    simp only [e1, Bool.false_and]
    go_enter Try.func33, Try.ntmps33
    go_wp2_with fail
    (with_reducible refine (HS.out _).mono ?_)
    rintro e w' ⟨rfl, hb⟩
    have c0 := fun i o v h => cell_later (a := ⟨w.heap.size + i, o, none⟩) (v := v) hb h
    have d0 := c0 0 0 (.int .i64 ax) (by go_simp)
    have d1 := c0 0 1 (.int .i64 ay) (by go_simp)
    have d2 := c0 0 2 (.int .i64 bx) (by go_simp)
    have d3 := c0 0 3 (.int .i64 by') (by go_simp)
    have d4 := c0 1 0 (.int .i64 px) (by go_simp)
    have d5 := c0 1 1 (.int .i64 py) (by go_simp)
    have d6 := c0 1 2 (.int .i64 1) (by go_simp)
    rw [Nat.add_zero] at d0 d1 d2 d3
    have HB := Lib.hid hb
    clear hb c0
    go_wp2
    go_ret
    exact ⟨rfl, (((Below.refl _ _).alloc (Nat.le_refl _) _).alloc (by simp) _).trans (HB.out.mono (by simp; omega))⟩
  · intro e1 e2
    simp only [e1, e2, Bool.and_false, Bool.false_and]
    go_enter Try.func33, Try.ntmps33
    go_wp2_with fail
    (with_reducible refine (HS.out _).mono ?_)
    rintro e w' ⟨rfl, hb⟩
    have c0 := fun i o v h => cell_later (a := ⟨w.heap.size + i, o, none⟩) (v := v) hb h
    have d0 := c0 0 0 (.int .i64 ax) (by go_simp)
    have d1 := c0 0 1 (.int .i64 ay) (by go_simp)
    have d2 := c0 0 2 (.int .i64 bx) (by go_simp)
    have d3 := c0 0 3 (.int .i64 by') (by go_simp)
    have d4 := c0 1 0 (.int .i64 px) (by go_simp)
    have d5 := c0 1 1 (.int .i64 py) (by go_simp)
    have d6 := c0 1 2 (.int .i64 1) (by go_simp)
    rw [Nat.add_zero] at d0 d1 d2 d3
    have HB := Lib.hid hb
    clear hb c0
    go_wp2
    go_ret
    exact ⟨rfl, (((Below.refl _ _).alloc (Nat.le_refl _) _).alloc (by simp) _).trans (HB.out.mono (by simp; omega))⟩
  · intro e1 e2 e3
    simp only [e1, e2, e3, Bool.and_false, Bool.false_and]
    go_enter Try.func33, Try.ntmps33
    go_wp2_with fail
    (with_reducible refine (HS.out _).mono ?_)
    rintro e w' ⟨rfl, hb⟩
    have c0 := fun i o v h => cell_later (a := ⟨w.heap.size + i, o, none⟩) (v := v) hb h
    have d0 := c0 0 0 (.int .i64 ax) (by go_simp)
    have d1 := c0 0 1 (.int .i64 ay) (by go_simp)
    have d2 := c0 0 2 (.int .i64 bx) (by go_simp)
    have d3 := c0 0 3 (.int .i64 by') (by go_simp)
    have d4 := c0 1 0 (.int .i64 px) (by go_simp)
    have d5 := c0 1 1 (.int .i64 py) (by go_simp)
    have d6 := c0 1 2 (.int .i64 1) (by go_simp)
    rw [Nat.add_zero] at d0 d1 d2 d3
    have HB := Lib.hid hb
    clear hb c0
    go_wp2
    go_ret
    exact ⟨rfl, (((Below.refl _ _).alloc (Nat.le_refl _) _).alloc (by simp) _).trans (HB.out.mono (by simp; omega))⟩
  · intro e1 e2 e3 e4
    simp only [e1, e2, e3, e4, Bool.and_false, Bool.false_and]
    go_enter Try.func33, Try.ntmps33
    go_wp2_with fail
    (with_reducible refine (HS.out _).mono ?_)
    rintro e w' ⟨rfl, hb⟩
    have c0 := fun i o v h => cell_later (a := ⟨w.heap.size + i, o, none⟩) (v := v) hb h
    have d0 := c0 0 0 (.int .i64 ax) (by go_simp)
    have d1 := c0 0 1 (.int .i64 ay) (by go_simp)
    have d2 := c0 0 2 (.int .i64 bx) (by go_simp)
    have d3 := c0 0 3 (.int .i64 by') (by go_simp)
    have d4 := c0 1 0 (.int .i64 px) (by go_simp)
    have d5 := c0 1 1 (.int .i64 py) (by go_simp)
    have d6 := c0 1 2 (.int .i64 1) (by go_simp)
    rw [Nat.add_zero] at d0 d1 d2 d3
    have HB := Lib.hid hb
    clear hb c0
    go_wp2
    go_ret
    exact ⟨rfl, (((Below.refl _ _).alloc (Nat.le_refl _) _).alloc (by simp) _).trans (HB.out.mono (by simp; omega))⟩
  · intro e1 e2 e3 e4 e5
    simp only [e1, e2, e3, e4, e5, Bool.and_false]
    go_enter Try.func33, Try.ntmps33
    go_wp2_with fail
    (with_reducible refine (HS.out _).mono ?_)
    rintro e w' ⟨rfl, hb⟩
    have c0 := fun i o v h => cell_later (a := ⟨w.heap.size + i, o, none⟩) (v := v) hb h
    have d0 := c0 0 0 (.int .i64 ax) (by go_simp)
    have d1 := c0 0 1 (.int .i64 ay) (by go_simp)
    have d2 := c0 0 2 (.int .i64 bx) (by go_simp)
    have d3 := c0 0 3 (.int .i64 by') (by go_simp)
    have d4 := c0 1 0 (.int .i64 px) (by go_simp)
    have d5 := c0 1 1 (.int .i64 py) (by go_simp)
    have d6 := c0 1 2 (.int .i64 1) (by go_simp)
    rw [Nat.add_zero] at d0 d1 d2 d3
    have HB := Lib.hid hb
    clear hb c0
    go_wp2
    go_ret
    exact ⟨rfl, (((Below.refl _ _).alloc (Nat.le_refl _) _).alloc (by simp) _).trans (HB.out.mono (by simp; omega))⟩
  · intro e1 e2 e3 e4 e5
    simp only [e1, e2, e3, e4, e5, Bool.and_self]
    go_enter Try.func33, Try.ntmps33
    go_wp2_with fail
    (with_reducible refine (HS.out _).mono ?_)
    rintro e w' ⟨rfl, hb⟩
    have c0 := fun i o v h => cell_later (a := ⟨w.heap.size + i, o, none⟩) (v := v) hb h
    have d0 := c0 0 0 (.int .i64 ax) (by go_simp)
    have d1 := c0 0 1 (.int .i64 ay) (by go_simp)
    have d2 := c0 0 2 (.int .i64 bx) (by go_simp)
    have d3 := c0 0 3 (.int .i64 by') (by go_simp)
    have d4 := c0 1 0 (.int .i64 px) (by go_simp)
    have d5 := c0 1 1 (.int .i64 py) (by go_simp)
    have d6 := c0 1 2 (.int .i64 1) (by go_simp)
    rw [Nat.add_zero] at d0 d1 d2 d3
    have HB := Lib.hid hb
    clear hb c0
    go_wp2
    go_ret
    exact ⟨rfl, (((Below.refl _ _).alloc (Nat.le_refl _) _).alloc (by simp) _).trans (HB.out.mono (by simp; omega))⟩
theorem holds_any (ax ay bx by' px py : Int) (w : World) (h1 : -1048576 ≤ ax ∧ ax ≤ 1048576) (h2 : -1048576 ≤ ay ∧ ay ≤ 1048576) (h3 : -1048576 ≤ bx ∧ bx ≤ 1048576) (h4 : -1048576 ≤ by' ∧ by' ≤ 1048576) (h5 : -1048576 ≤ px ∧ px ≤ 1048576) (h6 : -1048576 ≤ py ∧ py ≤ 1048576) :
    Calls Try.prog 33 #[iseg ax ay bx by', ispot px py 1] w fun e w' => e = .returned (.bool (holdsB ((bx - ax) * (py - ay) - (by' - ay) * (px - ax)) (if bx < ax then bx else ax) (if ax < bx then bx else ax) (if by' < ay then by' else ay) (if ay < by' then by' else ay) px py)) ∧ Below w.heap.size w w' :=
  holds_walk ax ay bx by' px py _ _ _ _ _ w (fun w => side_any ax ay bx by' px py w h1 h2 h3 h4 h5 h6) rfl rfl rfl rfl (by split <;> omega) (by split <;> omega) (by split <;> omega) (by split <;> omega) (by split <;> omega) (by split <;> omega) (by split <;> omega) (by split <;> omega)
set_option maxHeartbeats 1000000 in
theorem hasPt_any (ax ay bx by' px py : Int) (r : Bool) (hr : ∀ w, Calls Try.prog 33 #[iseg ax ay bx by', ispot px py 1] w fun e w' => e = .returned (.bool r) ∧ Below w.heap.size w w') (w : World) :
    Calls Try.prog 29 #[iseg ax ay bx by', ixy px py] w fun e w' => e = .returned (.bool r) ∧ Below w.heap.size w w' := by
  have HR := Lib.hid hr
  clear hr
  go_enter Try.func29, Try.ntmps29
  go_wp2
  refine Rh.region_below (by kernel_rfl) (by kernel_rfl) ?_
  repeat (refine Rh.qw_step (fun K hK => ?_); go_simp; first | (refine hK _ ?_; clear hK K) | (apply Exists.intro; refine ⟨fun _ => ?_, hK _ ?_⟩; (exact Calls.regrown_of (by first | with_reducible exact at_any _ _ _ | with_reducible exact HR.out _)); clear hK K))
  refine Rh.qw_nil ?_
  intro _ hw'
  obtain ⟨⟨dq, osq⟩, hw''⟩ := hw'
  subst hw''
  go_wp2
  go_ret
  exact ⟨rfl, (((Below.refl _ _).alloc (Nat.le_refl _) _).alloc (by simp) _).trans ((below_regrown _ dq osq).mono (by simp; omega))⟩
end Go.Proofs.Ytiphlifnmmplaaa
