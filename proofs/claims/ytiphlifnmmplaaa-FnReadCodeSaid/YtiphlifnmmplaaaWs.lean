/- Envelopes: the contracts of Covers, EnvCovers. Conditions stand at each lemma. -/
import Derived.Test.YtiphlifnmmplaaaWr
namespace Go.Proofs.Ytiphlifnmmplaaa
open Go.RowKit
theorem covers_none1 (a b c d : Nat) (v : Bool) (a' b' c' d' : Nat) (w : World) : Calls Try.prog 50 #[denv false a b c d, denv v a' b' c' d'] w fun e w' => e = .returned (.bool false) ∧ Below w.heap.size w w' := by
  go_enter Try.func50, Try.ntmps50
  go_wp2_with fail
  refine (empty_any _ _ _ _ _ _).mono ?_
  rintro e w1 ⟨rfl, hb⟩
  have HB := Lib.hid hb
  clear hb
  go_wp2
  go_ret
  exact ⟨rfl, (alloc2 ..).trans (HB.out.mono (alloc2 ..).size)⟩
set_option maxHeartbeats 1000000 in
theorem covers_none2 (a b c d a' b' c' d' : Nat) (w : World) : Calls Try.prog 50 #[denv true a b c d, denv false a' b' c' d'] w fun e w' => e = .returned (.bool false) ∧ Below w.heap.size w w' := by
  go_enter Try.func50, Try.ntmps50
  go_wp2_with fail
  refine (empty_any _ _ _ _ _ _).mono ?_
  rintro e w1 ⟨rfl, hb⟩
  have c0 := fun i o v h => cell_later (a := ⟨w.heap.size + i, o, none⟩) (v := v) hb h
  have b0 := c0 1 0 (fl a') (by go_simp)
  have b1 := c0 1 1 (fl b') (by go_simp)
  have b2 := c0 1 2 (fl c') (by go_simp)
  have b3 := c0 1 3 (fl d') (by go_simp)
  have b4 := c0 1 4 (.bool false) (by go_simp)
  have HB := Lib.hid hb
  clear hb c0
  go_wp2_with fail
  refine (empty_any _ _ _ _ _ _).mono ?_
  rintro e w2 ⟨rfl, hb⟩
  have HB2 := Lib.hid hb
  clear hb
  go_wp2
  go_ret
  exact ⟨rfl, (alloc2 ..).trans ((HB.out.mono (alloc2 ..).size).trans (HB2.out.mono (Nat.le_trans (alloc2 ..).size HB.out.size)))⟩
set_option maxHeartbeats 4000000 in
theorem covers_any (a b c d a' b' c' d' : Nat) (w : World) : Calls Try.prog 50 #[denv true a b c d, denv true a' b' c' d'] w fun e w' => e = .returned (.bool (leB a a' && leB b b' && geB c c' && geB d d')) ∧ Below w.heap.size w w' := by
  unfold geB leB
  refine chain4 (FloatKind.f64.format.order a a' == some .lt || FloatKind.f64.format.order a a' == some .eq) (FloatKind.f64.format.order b b' == some .lt || FloatKind.f64.format.order b b' == some .eq) (FloatKind.f64.format.order c c' == some .gt || FloatKind.f64.format.order c c' == some .eq) (FloatKind.f64.format.order d d' == some .gt || FloatKind.f64.format.order d d' == some .eq) ?_ ?_ ?_ ?_ ?_
  all_goals
    intros
    simp only [*, Bool.and_false, Bool.false_and, Bool.and_self]
    go_enter Try.func50, Try.ntmps50
    go_wp2_with fail
    refine (empty_any _ _ _ _ _ _).mono ?_
    rintro e w1 ⟨rfl, hb⟩
    have c0 := fun i o v h => cell_later (a := ⟨w.heap.size + i, o, none⟩) (v := v) hb h
    have a0 := c0 0 0 (fl a) (by go_simp)
    have a1 := c0 0 1 (fl b) (by go_simp)
    have a2 := c0 0 2 (fl c) (by go_simp)
    have a3 := c0 0 3 (fl d) (by go_simp)
    have b0 := c0 1 0 (fl a') (by go_simp)
    have b1 := c0 1 1 (fl b') (by go_simp)
    have b2 := c0 1 2 (fl c') (by go_simp)
    have b3 := c0 1 3 (fl d') (by go_simp)
    have b4 := c0 1 4 (.bool true) (by go_simp)
    rw [Nat.add_zero] at a0 a1 a2 a3
    have HB := Lib.hid hb
    clear hb c0
    go_wp2_with fail
    refine (empty_any _ _ _ _ _ _).mono ?_
    rintro e w2 ⟨rfl, hb⟩
    have d0 := cell_later hb a0
    have d1 := cell_later hb a1
    have d2 := cell_later hb a2
    have d3 := cell_later hb a3
    have d4 := cell_later hb b0
    have d5 := cell_later hb b1
    have d6 := cell_later hb b2
    have d7 := cell_later hb b3
    have HB2 := Lib.hid hb
    clear hb a0 a1 a2 a3 b0 b1 b2 b3 b4
    go_wp2
    go_ret
    exact ⟨rfl, (alloc2 ..).trans ((HB.out.mono (alloc2 ..).size).trans (HB2.out.mono (Nat.le_trans (alloc2 ..).size HB.out.size)))⟩
/-- impl's EnvCovers of what its envelopes and their Covers give. -/
theorem implCovers_of (v1 v2 u1 u2 : Value) (f a b c d f' a' b' c' d' : _) (h1 : v1 = lenv f a b c d) (h2 : v2 = lenv f' a' b' c' d') (r : Bool) (k1 : ∀ w, Calls Try.prog 49 #[v1] w fun e w' => e = .returned u1 ∧ Below w.heap.size w w') (k2 : ∀ w, Calls Try.prog 49 #[v2] w fun e w' => e = .returned u2 ∧ Below w.heap.size w w') (k3 : ∀ w, Calls Try.prog 50 #[u1, u2] w fun e w' => e = .returned (.bool r) ∧ Below w.heap.size w w') (w : World) : Calls Try.prog 26 #[v1, v2] w fun e w' => e = .returned (.bool r) ∧ Below w.heap.size w w' := by
  subst h1 h2
  have K1 := Lib.hid k1
  have K2 := Lib.hid k2
  have K3 := Lib.hid k3
  clear k1 k2 k3
  go_enter Try.func26, Try.ntmps26
  go_wp2
  refine Rh.region_below (by kernel_rfl) (by kernel_rfl) ?_
  repeat (refine Rh.qw_step (fun K hK => ?_); go_simp; first | (refine hK _ ?_; clear hK K) | (apply Exists.intro; refine ⟨fun _ => ?_, hK _ ?_⟩; (exact Calls.regrown_of (by first | with_reducible exact K1.out _ | with_reducible exact K2.out _ | with_reducible exact K3.out _)); clear hK K))
  refine Rh.qw_nil ?_
  intro _ hw'
  obtain ⟨⟨dq, osq⟩, hw''⟩ := hw'
  subst hw''
  go_wp2
  go_ret
  exact ⟨rfl, (alloc2 ..).trans ((below_regrown _ dq osq).mono (alloc2 ..).size)⟩
end Go.Proofs.Ytiphlifnmmplaaa
