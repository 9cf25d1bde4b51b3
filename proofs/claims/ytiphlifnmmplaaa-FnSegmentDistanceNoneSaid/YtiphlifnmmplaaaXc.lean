/- FnSegmentDistanceNone: the contracts of the doors, and the law's own walk. Conditions stand at each lemma. -/
import Derived.Test.YtiphlifnmmplaaaXb
import Derived.Test.YtiphlifnmmplaaaWm
namespace Go.Proofs.Ytiphlifnmmplaaa
open Go.RowKit
/-- The distance between a place and a segment, as words. -/
theorem foot_any (ax ay bx by' px py : Nat) (H : Fl.HeadOk ax ay bx by' px py) (M : Fl.ahead ax ay bx by' px py = false → Fl.behind ax ay bx by' px py = false → Fl.MidOk ax ay bx by' px py) (T : Fl.TailOk ax ay bx by' px py) (w : World) :
    Calls Try.prog 71 #[fxy px py, fline ax ay bx by'] w fun e w' => e = .returned (.float .f64 (Fl.distB ax ay bx by' px py)) ∧ Below w.heap.size w w' := by
  obtain ⟨h1, h2, h3, h4, h5, h6, h7, h8, h9⟩ := H
  have hd : Head ax ay bx by' px py (Fl.fsub bx ax) (Fl.fsub by' ay) (Fl.lenB (Fl.fsub bx ax) (Fl.fsub by' ay)) (Fl.projB ax ay bx by' px py) :=
    ⟨fun w => sub_any _ _ _ _ _ _ h1 h2 w, fun w => length_any _ _ h3 w, _, _, _, fun w => sub_any _ _ _ _ _ _ h4 h5 w, fun w => dot_any _ _ _ _ _ _ _ w h6 h7 h8, h9⟩
  obtain ⟨t1, t2, t3⟩ := T
  have k5 := fun w => distXYs_any _ _ _ _ _ _ t1 t2 t3 w
  unfold Fl.distB
  cases hA : Fl.ahead ax ay bx by' px py
  · cases hB : Fl.behind ax ay bx by' px py
    · obtain ⟨m1, m2, m3, m4, m5⟩ := M hA hB
      have ex : Fl.footX ax ay bx by' px py = Fl.fadd (Fl.fmul (Fl.fsub bx ax) (Fl.shareB ax ay bx by' px py)) ax := by unfold Fl.footX; rw [hA, hB]; rfl
      have ey : Fl.footY ax ay bx by' px py = Fl.fadd (Fl.fmul (Fl.fsub by' ay) (Fl.shareB ax ay bx by' px py)) ay := by unfold Fl.footY; rw [hA, hB]; rfl
      rw [ex, ey] at k5 ⊢
      exact foot_mid _ _ _ _ _ _ _ _ _ _ _ _ _ hd _ _ _ hA hB m1 (fun w => scale_any _ _ _ _ _ m2 m3 w) (fun w => add_any _ _ _ _ _ _ m4 m5 w) k5 w
    · have ex : Fl.footX ax ay bx by' px py = bx := by unfold Fl.footX; rw [hA, hB]; rfl
      have ey : Fl.footY ax ay bx by' px py = by' := by unfold Fl.footY; rw [hA, hB]; rfl
      rw [ex, ey] at k5 ⊢
      exact foot_last _ _ _ _ _ _ _ _ _ _ _ hd hA hB k5 w
  · have ex : Fl.footX ax ay bx by' px py = ax := by unfold Fl.footX; rw [hA]; rfl
    have ey : Fl.footY ax ay bx by' px py = ay := by unfold Fl.footY; rw [hA]; rfl
    rw [ex, ey] at k5 ⊢
    exact foot_first _ _ _ _ _ _ _ _ _ _ _ hd hA k5 w
theorem doorDist_any (ax ay bx by' px py r : Nat) (k : ∀ w, Calls Try.prog 71 #[fxy px py, fline ax ay bx by'] w fun e w' => e = .returned (.float .f64 r) ∧ Below w.heap.size w w') (w : World) :
    Calls Try.prog 53 #[fxy px py, fxy ax ay, fxy bx by'] w fun e w' => e = .returned (.float .f64 r) ∧ Below w.heap.size w w' := by
  have K := Lib.hid k
  clear k
  go_enter Try.func53, Try.ntmps53
  go_wp2_with fail
  refine (K.out _).mono ?_
  rintro e w1 ⟨rfl, hb⟩
  have HB := Lib.hid hb
  clear hb
  go_wp2
  go_ret
  exact ⟨rfl, (alloc3 ..).trans (HB.out.mono (alloc3 ..).size)⟩
set_option maxHeartbeats 1000000 in
theorem implDist_any (ax ay bx by' px py r : Nat) (k : ∀ w, Calls Try.prog 53 #[fxy px py, fxy ax ay, fxy bx by'] w fun e w' => e = .returned (.float .f64 r) ∧ Below w.heap.size w w') (w : World) :
    Calls Try.prog 32 #[fxy px py, fxy ax ay, fxy bx by'] w fun e w' => e = .returned (.float .f64 r) ∧ Below w.heap.size w w' := by
  have KD := Lib.hid k
  clear k
  go_enter Try.func32, Try.ntmps32
  go_wp2
  refine Rh.region_below (by kernel_rfl) (by kernel_rfl) ?_
  repeat (refine Rh.qw_step (fun K hK => ?_); go_simp; first | (refine hK _ ?_; clear hK K) | (apply Exists.intro; refine ⟨fun _ => ?_, hK _ ?_⟩; (exact Calls.regrown_of (by first | with_reducible exact xy_any _ _ _ | with_reducible exact KD.out _)); clear hK K))
  refine Rh.qw_nil ?_
  intro _ hw'
  obtain ⟨⟨dq, osq⟩, hw''⟩ := hw'
  subst hw''
  go_wp2
  go_ret
  exact ⟨rfl, (alloc3 ..).trans ((below_regrown _ dq osq).mono (alloc3 ..).size)⟩

attribute [local irreducible] wpList
set_option maxHeartbeats 1000000 in
theorem segDist_same (ax ay px py : Int) (b : Bool) (w : World) (hall : [(px, py), (ax, ay), (ax, ay)].all (ptIn 256) = b) :
    Calls Try.prog 10 #[ixy px py, ixy ax ay, ixy ax ay] w fun e w' => e = .returned (.bool true) ∧ Below w.heap.size w w' := by
  have he : ∀ w, (Op.equalIn 10000 23 (ixy ax ay) (ixy ax ay)).run Try.prog w = .ok true w := fun w => by rw [eqPt23]; simp
  have HA := Lib.hid hall
  clear hall
  cases b
  all_goals
    go_enter Try.func10, Try.ntmps10
    go_wp2_with fail
    refine (walk_any (w.heap.size + 1 + 1 + 1) 0 3 [(px, py), (ax, ay), (ax, ay)] 3 256 (by decide) (by decide) _ (by simp) (by simp) (ptsAt_new _ _ (by simp) _ _ _ (flat3 px py ax ay ax ay))).mono ?_
    rintro e w' ⟨rfl, hb⟩
    rw [HA.out]
    have c1 := fun o v h => cell_later (a := ⟨w.heap.size + 1, o, none⟩) (v := v) hb h
    have c2 := fun o v h => cell_later (a := ⟨w.heap.size + 1 + 1, o, none⟩) (v := v) hb h
    have q2 := c1 0 (.int .i64 ax) (by go_simp)
    have q3 := c1 1 (.int .i64 ay) (by go_simp)
    have q4 := c2 0 (.int .i64 ax) (by go_simp)
    have q5 := c2 1 (.int .i64 ay) (by go_simp)
    have HB := Lib.hid hb
    clear hb c1 c2
    go_wp2
    go_ret
    exact ⟨rfl, (below4 ..).trans (HB.out.mono (below4 ..).size)⟩
set_option maxHeartbeats 1000000 in
theorem segDist_out (ax ay bx by' px py : Int) (w : World) (hall : [(px, py), (ax, ay), (bx, by')].all (ptIn 256) = false) :
    Calls Try.prog 10 #[ixy px py, ixy ax ay, ixy bx by'] w fun e w' => e = .returned (.bool true) ∧ Below w.heap.size w w' := by
  have HA := Lib.hid hall
  clear hall
  go_enter Try.func10, Try.ntmps10
  go_wp2_with fail
  refine (walk_any (w.heap.size + 1 + 1 + 1) 0 3 [(px, py), (ax, ay), (bx, by')] 3 256 (by decide) (by decide) _ (by simp) (by simp) (ptsAt_new _ _ (by simp) _ _ _ (flat3 px py ax ay bx by'))).mono ?_
  rintro e w' ⟨rfl, hb⟩
  rw [HA.out]
  have HB := Lib.hid hb
  clear hb
  go_wp2
  go_ret
  exact ⟨rfl, (below4 ..).trans (HB.out.mono (below4 ..).size)⟩
set_option maxHeartbeats 2000000 in
theorem segDist_in (ax ay bx by' px py : Int) (w : World) (r : Bool) (x : Nat) (hne : (ax == bx && ay == by') = false) (hall : [(px, py), (ax, ay), (bx, by')].all (ptIn 256) = true)
    (hr : (FloatKind.f64.format.order x 4472074429978902528 == some .lt) = r)
    (k1 : ∀ w, Calls Try.prog 32 #[fxy (Fl.fint px) (Fl.fint py), fxy (Fl.fint ax) (Fl.fint ay), fxy (Fl.fint bx) (Fl.fint by')] w fun e w' => e = .returned (.float .f64 x) ∧ Below w.heap.size w w')
    (k2 : ∀ w, Calls Try.prog 33 #[iseg ax ay bx by', ispot px py 1] w fun e w' => e = .returned (.bool r) ∧ Below w.heap.size w w') :
    Calls Try.prog 10 #[ixy px py, ixy ax ay, ixy bx by'] w fun e w' => e = .returned (.bool true) ∧ Below w.heap.size w w' := by
  have he : ∀ w, (Op.equalIn 10000 23 (ixy ax ay) (ixy bx by')).run Try.prog w = .ok false w := fun w => by rw [eqPt23, hne]
  have HA := Lib.hid hall
  have K1 := Lib.hid k1
  have K2 := Lib.hid k2
  clear hall hne k1 k2
  cases r
  all_goals
    go_enter Try.func10, Try.ntmps10
    go_wp2_with fail
    refine (walk_any (w.heap.size + 1 + 1 + 1) 0 3 [(px, py), (ax, ay), (bx, by')] 3 256 (by decide) (by decide) _ (by simp) (by simp) (ptsAt_new _ _ (by simp) _ _ _ (flat3 px py ax ay bx by'))).mono ?_
    rintro e w' ⟨rfl, hb⟩
    rw [HA.out]
    have c0 := fun o v h => cell_later (a := ⟨w.heap.size, o, none⟩) (v := v) hb h
    have c1 := fun o v h => cell_later (a := ⟨w.heap.size + 1, o, none⟩) (v := v) hb h
    have c2 := fun o v h => cell_later (a := ⟨w.heap.size + 1 + 1, o, none⟩) (v := v) hb h
    have d0 := c0 0 (.int .i64 px) (by go_simp)
    have d1 := c0 1 (.int .i64 py) (by go_simp)
    have d2 := c1 0 (.int .i64 ax) (by go_simp)
    have d3 := c1 1 (.int .i64 ay) (by go_simp)
    have d4 := c2 0 (.int .i64 bx) (by go_simp)
    have d5 := c2 1 (.int .i64 by') (by go_simp)
    have q0 := cell_regrown d0
    have q1 := cell_regrown d1
    have q2 := cell_regrown d2
    have q3 := cell_regrown d3
    have q4 := cell_regrown d4
    have q5 := cell_regrown d5
    have HB := Lib.hid hb
    clear hb c0 c1 c2
    go_wp2
    refine Rh.region_below (by kernel_rfl) (by kernel_rfl) ?_
    repeat (refine Rh.qw_step (fun K hK => ?_); go_simp; first | (refine hK _ ?_; clear hK K) | (apply Exists.intro; refine ⟨fun _ => ?_, hK _ ?_⟩; (exact Calls.regrown_of (by first | with_reducible exact lawxy_any _ _ _ | with_reducible exact at_any _ _ _ | with_reducible exact K1.out _ | with_reducible exact K2.out _)); clear hK K))
    refine Rh.qw_nil ?_
    intro _ hw'
    obtain ⟨⟨dq, osq⟩, hw''⟩ := hw'
    subst hw''
    go_wp2
    go_ret
    have l1 := Nat.le_trans (below4 _ _ _ _ _).size HB.out.size
    exact ⟨rfl, (below4 ..).trans ((HB.out.mono (below4 ..).size).trans ((below_regrown _ dq osq).mono l1))⟩
end Go.Proofs.Ytiphlifnmmplaaa
