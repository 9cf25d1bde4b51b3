/- FnOnSegment: the law's own walk. Conditions stand at each lemma. -/
import Derived.Test.YtiphlifnmmplaaaWl
import Derived.Test.YtiphlifnmmplaaaWc
namespace Go.Proofs.Ytiphlifnmmplaaa
open Go.RowKit
attribute [local irreducible] wpList
set_option maxRecDepth 100000 in
/-- '==' of two places of whole numbers. -/
theorem eqPt23 (a b a' b' : Int) (w : World) : (Op.equalIn 10000 23 (ixy a b) (ixy a' b')).run Try.prog w = .ok (a == a' && b == b') w := by
  have u3 := Try.underlying3
  have a3 := Try.isAgg3
  have z3 := Try.sizeOf3
  have hS : Try.prog.underlying 23 = some (.struct (Try.prog.fieldsOf 23)) := by kernel_rfl
  have hp : Try.prog.stoodInHeld 23 = false := by kernel_rfl
  rw [show (10000 : Nat) = 9999 + 1 from rfl, run_equalIn_agg w 9999 23 _ _ hS hp]
  simp only [Program.fieldsOf, Try.underlying23]
  go_simp
  by_cases h1 : a = a' <;> by_cases h2 : b = b' <;> simp [h1, h2]
set_option maxHeartbeats 1000000 in
theorem onSeg_same (ax ay px py : Int) (w : World) :
    Calls Try.prog 8 #[ixy ax ay, ixy ax ay, ixy px py] w fun e w' => e = .returned (.bool true) ∧ Below w.heap.size w w' := by
  have he : ∀ w, (Op.equalIn 10000 23 (ixy ax ay) (ixy ax ay)).run Try.prog w = .ok true w := fun w => by rw [eqPt23]; simp
  go_enter Try.func8, Try.ntmps8
  go_wp2
  go_ret
  exact ⟨rfl, alloc3 ..⟩
set_option maxHeartbeats 1000000 in
theorem onSeg_out (ax ay bx by' px py : Int) (w : World) (hne : (ax == bx && ay == by') = false) (hall : [(ax, ay), (bx, by'), (px, py)].all (ptIn 1048576) = false) :
    Calls Try.prog 8 #[ixy ax ay, ixy bx by', ixy px py] w fun e w' => e = .returned (.bool true) ∧ Below w.heap.size w w' := by
  have he : ∀ w, (Op.equalIn 10000 23 (ixy ax ay) (ixy bx by')).run Try.prog w = .ok false w := fun w => by rw [eqPt23, hne]
  have HA := Lib.hid hall
  clear hall hne
  go_enter Try.func8, Try.ntmps8
  go_wp2_with fail
  refine (dPlaces_any (w.heap.size + 1 + 1 + 1) 0 3 [(ax, ay), (bx, by'), (px, py)] 1048576 (by decide) (by decide) _ (by simp) (ptsAt_new _ _ (by simp) _ _ _ (flat3 ax ay bx by' px py))).mono ?_
  rintro e w' ⟨rfl, hb⟩
  rw [HA.out]
  have HB := Lib.hid hb
  clear hb
  go_wp2
  go_ret
  exact ⟨rfl, (below4 ..).trans (HB.out.mono (below4 ..).size)⟩
set_option maxHeartbeats 2000000 in
theorem onSeg_in (ax ay bx by' px py : Int) (w : World) (r : Bool) (hne : (ax == bx && ay == by') = false) (hall : [(ax, ay), (bx, by'), (px, py)].all (ptIn 1048576) = true)
    (k1 : ∀ w, Calls Try.prog 28 #[fxy (Fl.fint ax) (Fl.fint ay), fxy (Fl.fint bx) (Fl.fint by'), fxy (Fl.fint px) (Fl.fint py)] w fun e w' => e = .returned (.bool r) ∧ Below w.heap.size w w')
    (k2 : ∀ w, Calls Try.prog 29 #[iseg ax ay bx by', ixy px py] w fun e w' => e = .returned (.bool r) ∧ Below w.heap.size w w') :
    Calls Try.prog 8 #[ixy ax ay, ixy bx by', ixy px py] w fun e w' => e = .returned (.bool true) ∧ Below w.heap.size w w' := by
  have he : ∀ w, (Op.equalIn 10000 23 (ixy ax ay) (ixy bx by')).run Try.prog w = .ok false w := fun w => by rw [eqPt23, hne]
  have HA := Lib.hid hall
  have K1 := Lib.hid k1
  have K2 := Lib.hid k2
  clear hall hne k1 k2
  cases r
  all_goals
    go_enter Try.func8, Try.ntmps8
    go_wp2_with fail
    refine (dPlaces_any (w.heap.size + 1 + 1 + 1) 0 3 [(ax, ay), (bx, by'), (px, py)] 1048576 (by decide) (by decide) _ (by simp) (ptsAt_new _ _ (by simp) _ _ _ (flat3 ax ay bx by' px py))).mono ?_
    rintro e w' ⟨rfl, hb⟩
    rw [HA.out]
    have c0 := fun o v h => cell_later (a := ⟨w.heap.size, o, none⟩) (v := v) hb h
    have c1 := fun o v h => cell_later (a := ⟨w.heap.size + 1, o, none⟩) (v := v) hb h
    have c2 := fun o v h => cell_later (a := ⟨w.heap.size + 1 + 1, o, none⟩) (v := v) hb h
    have q0 := cell_regrown (c0 0 (.int .i64 ax) (by go_simp))
    have q1 := cell_regrown (c0 1 (.int .i64 ay) (by go_simp))
    have q2 := cell_regrown (c1 0 (.int .i64 bx) (by go_simp))
    have q3 := cell_regrown (c1 1 (.int .i64 by') (by go_simp))
    have q4 := cell_regrown (c2 0 (.int .i64 px) (by go_simp))
    have q5 := cell_regrown (c2 1 (.int .i64 py) (by go_simp))
    have HB := Lib.hid hb
    clear hb c0 c1 c2
    go_wp2
    refine Rh.region_below (by kernel_rfl) (by kernel_rfl) ?_
    repeat (refine Rh.qw_step (fun K hK => ?_); go_simp; first | (refine hK _ ?_; clear hK K) | (apply Exists.intro; refine ⟨fun _ => ?_, hK _ ?_⟩; (exact Calls.regrown_of (by first | with_reducible exact lawxy_any _ _ _ | with_reducible exact K1.out _ | with_reducible exact K2.out _)); clear hK K))
    refine Rh.qw_nil ?_
    intro _ hw'
    obtain ⟨⟨dq, osq⟩, hw''⟩ := hw'
    subst hw''
    go_wp2
    go_ret
    have l1 := Nat.le_trans (below4 _ _ _ _ _).size HB.out.size
    exact ⟨rfl, (below4 ..).trans ((HB.out.mono (below4 ..).size).trans ((below_regrown _ dq osq).mono l1))⟩
end Go.Proofs.Ytiphlifnmmplaaa
