/- FnTriangleTurned: the walk. -/
import Derived.Test.YtiphlifnmmplaaaWb
namespace Go.Proofs.Ytiphlifnmmplaaa
open Go.RowKit

theorem ptsAt_new (W : World) (n : Nat) (hn : n = W.heap.size) (c : Array Value) (t : TypeId) (ps : List (Int × Int)) (hc : ∀ k x y, ps[k]? = some (x, y) → c[k * 2]? = some (.int .i64 x) ∧ c[k * 2 + 1]? = some (.int .i64 y)) : PtsAt (W.alloc (.cells c t)) n 0 ps := by
  subst hn
  refine ⟨by simp, fun k x y hk => ?_⟩
  rw [World.cell?_alloc_new, World.cell?_alloc_new, Nat.zero_add]
  exact hc k x y hk
theorem flat3 (ax ay bx by' cx cy : Int) : ∀ k x y, [(ax, ay), (bx, by'), (cx, cy)][k]? = some (x, y) → (#[.int .i64 ax, .int .i64 ay, .int .i64 bx, .int .i64 by', .int .i64 cx, .int .i64 cy] : Array Value)[k * 2]? = some (.int .i64 x) ∧ (#[.int .i64 ax, .int .i64 ay, .int .i64 bx, .int .i64 by', .int .i64 cx, .int .i64 cy] : Array Value)[k * 2 + 1]? = some (.int .i64 y)
  | 0, x, y, h => by simp at h; simp [h]
  | 1, x, y, h => by simp at h; simp [h]
  | 2, x, y, h => by simp at h; simp [h]
  | k + 3, x, y, h => by simp at h
@[go_sem] theorem run_neg_float {P : Program} (k : FloatKind) (b : Nat) (w : World) : (Op.unary .neg (.float k b)).run P w = .ok (.float k (Op.negFloat k b)) w := rfl
theorem below4 (w : World) (o1 o2 o3 o4 : Obj) : Below w.heap.size w ((((w.alloc o1).alloc o2).alloc o3).alloc o4) := by
  have h1 := (Below.refl w.heap.size w).alloc (Nat.le_refl _) o1
  have h2 := h1.alloc h1.size o2
  have h3 := h2.alloc h2.size o3
  exact h3.alloc h3.size o4
/-- What is asked of the three numbers. -/
structure TriFacts (ax ay bx by' cx cy : Int) (T : Int) (n1 n2 n3 : Nat) : Prop where
  ok1 : TriOk (Fl.fint ax) (Fl.fint ay) (Fl.fint bx) (Fl.fint by') (Fl.fint cx) (Fl.fint cy)
  ok2 : TriOk (Fl.fint bx) (Fl.fint by') (Fl.fint cx) (Fl.fint cy) (Fl.fint ax) (Fl.fint ay)
  ok3 : TriOk (Fl.fint bx) (Fl.fint by') (Fl.fint ax) (Fl.fint ay) (Fl.fint cx) (Fl.fint cy)
  e1 : triB (Fl.fint ax) (Fl.fint ay) (Fl.fint bx) (Fl.fint by') (Fl.fint cx) (Fl.fint cy) = n1
  e2 : triB (Fl.fint bx) (Fl.fint by') (Fl.fint cx) (Fl.fint cy) (Fl.fint ax) (Fl.fint ay) = n2
  e3 : triB (Fl.fint bx) (Fl.fint by') (Fl.fint ax) (Fl.fint ay) (Fl.fint cx) (Fl.fint cy) = n3
  o2 : (FloatKind.f64.format.order n2 n1 == some .eq) = true
  o3 : (FloatKind.f64.format.order n3 (Op.negFloat .f64 n1) == some .eq) = true
  o1 : (FloatKind.f64.format.order n1 0 == some .eq) = decide (T = 0)
  t : (bx - ax) * (cy - ay) - (by' - ay) * (cx - ax) = T

set_option maxHeartbeats 2000000 in
theorem turned_in (ax ay bx by' cx cy T : Int) (n1 n2 n3 : Nat) (w : World) (hF : TriFacts ax ay bx by' cx cy T n1 n2 n3)
    (h1 : -1048576 ≤ ax ∧ ax ≤ 1048576) (h2 : -1048576 ≤ ay ∧ ay ≤ 1048576) (h3 : -1048576 ≤ bx ∧ bx ≤ 1048576) (h4 : -1048576 ≤ by' ∧ by' ≤ 1048576) (h5 : -1048576 ≤ cx ∧ cx ≤ 1048576) (h6 : -1048576 ≤ cy ∧ cy ≤ 1048576) :
    Calls Try.prog 3 #[ixy ax ay, ixy bx by', ixy cx cy] w fun e w' => e = .returned (.bool true) ∧ Below w.heap.size w w' := by
  have hall : [(ax, ay), (bx, by'), (cx, cy)].all (ptIn 1048576) = true := by
    simp only [List.all_cons, List.all_nil, ptIn, Bool.and_true, Bool.and_eq_true, decide_eq_true_eq]
    omega
  have k1 : ∀ w, Calls Try.prog 13 #[fxy (Fl.fint ax) (Fl.fint ay), fxy (Fl.fint bx) (Fl.fint by'), fxy (Fl.fint cx) (Fl.fint cy)] w fun e w' => e = .returned (.float .f64 n1) ∧ Below w.heap.size w w' := fun w => by
    have := impltri_any _ _ _ _ _ _ w hF.ok1; rwa [hF.e1] at this
  have k2 : ∀ w, Calls Try.prog 13 #[fxy (Fl.fint bx) (Fl.fint by'), fxy (Fl.fint cx) (Fl.fint cy), fxy (Fl.fint ax) (Fl.fint ay)] w fun e w' => e = .returned (.float .f64 n2) ∧ Below w.heap.size w w' := fun w => by
    have := impltri_any _ _ _ _ _ _ w hF.ok2; rwa [hF.e2] at this
  have k3 : ∀ w, Calls Try.prog 13 #[fxy (Fl.fint bx) (Fl.fint by'), fxy (Fl.fint ax) (Fl.fint ay), fxy (Fl.fint cx) (Fl.fint cy)] w fun e w' => e = .returned (.float .f64 n3) ∧ Below w.heap.size w w' := fun w => by
    have := impltri_any _ _ _ _ _ _ w hF.ok3; rwa [hF.e3] at this
  have k4 : ∀ w, Calls Try.prog 15 #[ixy ax ay, ixy bx by', ixy cx cy] w fun e w' => e = .returned (.int .i64 T) ∧ Below w.heap.size w w' := fun w => by
    have := turn_any ax ay bx by' cx cy w h1 h2 h3 h4 h5 h6; rwa [hF.t] at this
  have o1 := hF.o1
  have o2 := hF.o2
  have o3 := hF.o3
  have hz : (T == 0) = decide (T = 0) := by simp [BEq.beq]
  have hT : decide (T = 0) = true ∨ decide (T = 0) = false := by cases decide (T = 0) <;> simp
  have K1 := Lib.hid k1
  have K2 := Lib.hid k2
  have K3 := Lib.hid k3
  have K4 := Lib.hid k4
  have HA := Lib.hid hall
  clear hF k1 k2 k3 k4 hall h1 h2 h3 h4 h5 h6
  rcases hT with hT | hT
  all_goals
    rw [hT] at o1 hz
    clear hT
    go_enter Try.func3, Try.ntmps3
    go_wp2_with fail
    refine (walk_any (w.heap.size + 1 + 1 + 1) 0 3 [(ax, ay), (bx, by'), (cx, cy)] 3 1048576 (by decide) (by decide) _ (by simp) (by simp) (ptsAt_new _ _ (by simp) _ _ _ (flat3 ax ay bx by' cx cy))).mono ?_
    rintro e w' ⟨rfl, hb⟩
    rw [HA.out]
    have c0 := fun o v h => cell_later (a := ⟨w.heap.size, o, none⟩) (v := v) hb h
    have c1 := fun o v h => cell_later (a := ⟨w.heap.size + 1, o, none⟩) (v := v) hb h
    have c2 := fun o v h => cell_later (a := ⟨w.heap.size + 1 + 1, o, none⟩) (v := v) hb h
    have a0 := c0 0 (.int .i64 ax) (by go_simp)
    have a1 := c0 1 (.int .i64 ay) (by go_simp)
    have b0 := c1 0 (.int .i64 bx) (by go_simp)
    have b1 := c1 1 (.int .i64 by') (by go_simp)
    have d0 := c2 0 (.int .i64 cx) (by go_simp)
    have d1 := c2 1 (.int .i64 cy) (by go_simp)
    have hz1 := hb.size
    simp at hz1
    clear c0 c1 c2
    have HB := Lib.hid hb
    clear hb
    have k0 := cell_regrown a0
    have k1 := cell_regrown a1
    have k2 := cell_regrown b0
    have k3 := cell_regrown b1
    have k4 := cell_regrown d0
    have k5 := cell_regrown d1
    go_wp2
    refine wp_region_quiet_below (by kernel_rfl) (by kernel_rfl) ?_
    repeat (quiet_step (exact Calls.regrown_of (by first | exact lawxy_any _ _ _ | exact K1.out _)))
    refine wpQuiet_nil ?_
    intro _ hw'
    obtain ⟨⟨dq, osq⟩, hw''⟩ := hw'
    subst hw''
    have g0 := cell_regrown a0 dq osq
    have g1 := cell_regrown a1 dq osq
    have g2 := cell_regrown b0 dq osq
    have g3 := cell_regrown b1 dq osq
    have g4 := cell_regrown d0 dq osq
    have g5 := cell_regrown d1 dq osq
    have hb2 := below_regrown w' dq osq
    have hz2 := hb2.size
    have HB2 := Lib.hid hb2
    clear hb2
    clear k0 k1 k2 k3 k4 k5
    generalize Go.Sort.grow (redrawn w' dq) osq = w2 at *
    have k0 := cell_regrown g0
    have k1 := cell_regrown g1
    have k2 := cell_regrown g2
    have k3 := cell_regrown g3
    have k4 := cell_regrown g4
    have k5 := cell_regrown g5
    go_wp2
    refine wp_region_quiet_below (by kernel_rfl) (by kernel_rfl) ?_
    repeat (quiet_step (exact Calls.regrown_of (by first | with_reducible exact lawxy_any _ _ _ | with_reducible exact K2.out _ | with_reducible exact K3.out _ | with_reducible exact K4.out _)))
    refine wpQuiet_nil ?_
    intro _ hw'
    obtain ⟨⟨dq, osq⟩, hw''⟩ := hw'
    subst hw''
    go_wp2
    go_ret
    have l1 := Nat.le_trans (below4 _ _ _ _ _).size HB.out.size
    exact ⟨rfl, (below4 ..).trans ((HB.out.mono (below4 ..).size).trans ((HB2.out.mono l1).trans ((below_regrown _ dq osq).mono (Nat.le_trans l1 HB2.out.size))))⟩
set_option maxHeartbeats 1000000 in
theorem turned_out (ax ay bx by' cx cy : Int) (w : World) (hall : [(ax, ay), (bx, by'), (cx, cy)].all (ptIn 1048576) = false) :
    Calls Try.prog 3 #[ixy ax ay, ixy bx by', ixy cx cy] w fun e w' => e = .returned (.bool true) ∧ Below w.heap.size w w' := by
  have HA := Lib.hid hall
  clear hall
  go_enter Try.func3, Try.ntmps3
  go_wp2_with fail
  refine (walk_any (w.heap.size + 1 + 1 + 1) 0 3 [(ax, ay), (bx, by'), (cx, cy)] 3 1048576 (by decide) (by decide) _ (by simp) (by simp) (ptsAt_new _ _ (by simp) _ _ _ (flat3 ax ay bx by' cx cy))).mono ?_
  rintro e w' ⟨rfl, hb⟩
  rw [HA.out]
  have HB := Lib.hid hb
  clear hb
  go_wp2
  go_ret
  exact ⟨rfl, (below4 ..).trans (HB.out.mono (below4 ..).size)⟩
end Go.Proofs.Ytiphlifnmmplaaa
