/- Envelopes: the contracts of geom's fastMin, fastMax at finite numbers, IsEmpty, ExpandToIncludeXY, NewEnvelope of two places, Covers. Conditions stand at each lemma. -/
import Derived.Test.YtiphlifnmmplaaaWk
import Derived.Test.YtiphlifnmmplaaaWe
namespace Go.Proofs.Ytiphlifnmmplaaa
open Go.RowKit
abbrev denv (f : Bool) (a b c d : Nat) : Value := .agg #[.float .f64 a, .float .f64 b, .float .f64 c, .float .f64 d, .bool f]
theorem nan_of_fin {x : Nat} (hx : Fl.finB x = true) : (Ieee.double.read x).isNaN = false := by
  obtain ⟨q, s, m, p, h, _⟩ := Fl.finB_fv hx
  rw [h]; rfl
theorem gMin_any (a b : Nat) (ha : Fl.finB a = true) (w : World) : Calls Try.prog 96 #[.float .f64 a, .float .f64 b] w fun e w' => e = .returned (.float .f64 (fminB a b)) ∧ Below w.heap.size w w' := by
  have k1 := Lib.hid (fun w => isNaN_any a _ (nan_of_fin ha) w)
  clear ha
  have e : ltB a b = (FloatKind.f64.format.order a b == some .lt) := rfl
  unfold fminB
  cases h : ltB a b
  all_goals
    rw [h] at e
    have h1 := e.symm
    clear e h
    go_enter Try.func96, Try.ntmps96
    go_wp2_with fail
    refine (k1.out _).mono ?_
    rintro e w1 ⟨rfl, rfl⟩
    go_wp2
    go_ret
    exact ⟨rfl, Below.refl _ _⟩
theorem gMax_any (a b : Nat) (ha : Fl.finB a = true) (w : World) : Calls Try.prog 97 #[.float .f64 a, .float .f64 b] w fun e w' => e = .returned (.float .f64 (fmaxB a b)) ∧ Below w.heap.size w w' := by
  have k1 := Lib.hid (fun w => isNaN_any a _ (nan_of_fin ha) w)
  clear ha
  have e : gtB a b = (FloatKind.f64.format.order a b == some .gt) := rfl
  unfold fmaxB
  cases h : gtB a b
  all_goals
    rw [h] at e
    have h1 := e.symm
    clear e h
    go_enter Try.func97, Try.ntmps97
    go_wp2_with fail
    refine (k1.out _).mono ?_
    rintro e w1 ⟨rfl, rfl⟩
    go_wp2
    go_ret
    exact ⟨rfl, Below.refl _ _⟩
theorem empty_any (f : Bool) (a b c d : Nat) (w : World) : Calls Try.prog 67 #[denv f a b c d] w fun e w' => e = .returned (.bool (!f)) ∧ Below w.heap.size w w' := by
  cases f
  all_goals
    go_enter Try.func67, Try.ntmps67
    go_wp2
    go_ret
    exact ⟨rfl, (Below.refl _ _).alloc (Nat.le_refl _) _⟩
set_option maxHeartbeats 1000000 in
theorem expand_none (a b c d x y : Nat) (w : World) : Calls Try.prog 81 #[denv false a b c d, fxy x y] w fun e w' => e = .returned (denv true x y x y) ∧ Below w.heap.size w w' := by
  go_enter Try.func81, Try.ntmps81
  go_wp2_with fail
  refine (empty_any _ _ _ _ _ _).mono ?_
  rintro e w1 ⟨rfl, hb⟩
  have c0 := fun i o v h => cell_later (a := ⟨w.heap.size + i, o, none⟩) (v := v) hb h
  have b0 := c0 1 0 (fl x) (by go_simp)
  have b1 := c0 1 1 (fl y) (by go_simp)
  have a0 := c0 2 0 (fl 0) (by go_simp)
  have a1 := c0 2 1 (fl 0) (by go_simp)
  have a2 := c0 2 2 (fl 0) (by go_simp)
  have a3 := c0 2 3 (fl 0) (by go_simp)
  have a4 := c0 2 4 (.bool false) (by go_simp)
  have gg := fun o h => frozen_later (a := ⟨w.heap.size + 2, o, none⟩) hb (by simp) h
  have g0 := gg 0 (by go_simp)
  have g1 := gg 1 (by go_simp)
  have g2 := gg 2 (by go_simp)
  have g3 := gg 3 (by go_simp)
  have g4 := gg 4 (by go_simp)
  have hz := hb.size
  simp at hz
  have HB := Lib.hid hb
  clear hb c0 gg
  go_wp2_with fail
  refine (newEnv_any _ _ _ _ _).mono ?_
  rintro e w2 ⟨rfl, hb⟩
  have a0 := cell_later hb a0
  have a1 := cell_later hb a1
  have a2 := cell_later hb a2
  have a3 := cell_later hb a3
  have a4 := cell_later hb a4
  have gg := fun o h => frozen_later (a := ⟨w.heap.size + 2, o, none⟩) hb hz h
  have g0 := gg 0 g0
  have g1 := gg 1 g1
  have g2 := gg 2 g2
  have g3 := gg 3 g3
  have g4 := gg 4 g4
  have HB2 := Lib.hid hb
  clear hb gg
  go_wp2
  refine bodyPost_ret (v := denv true x y x y) (by simp [results, Try.results81, go_sem, a0, a1, a2, a3, a4]) rfl ⟨rfl, set5 ?_ (by omega) _ _ _ _ _⟩
  exact (alloc3 ..).trans ((HB.out.mono (alloc3 ..).size).trans (HB2.out.mono (Nat.le_trans (alloc3 ..).size HB.out.size)))
set_option maxHeartbeats 1000000 in
theorem expand_any (a b c d x y : Nat) (ha : Fl.finB a = true) (hb : Fl.finB b = true) (hc : Fl.finB c = true) (hd : Fl.finB d = true) (w : World) : Calls Try.prog 81 #[denv true a b c d, fxy x y] w fun e w' => e = .returned (denv true (fminB a x) (fminB b y) (fmaxB c x) (fmaxB d y)) ∧ Below w.heap.size w w' := by
  have k1 := Lib.hid (fun w => gMin_any a x ha w)
  have k2 := Lib.hid (fun w => gMin_any b y hb w)
  have k3 := Lib.hid (fun w => gMax_any c x hc w)
  have k4 := Lib.hid (fun w => gMax_any d y hd w)
  clear ha hb hc hd
  go_enter Try.func81, Try.ntmps81
  go_wp2_with fail
  refine (empty_any _ _ _ _ _ _).mono ?_
  rintro e w1 ⟨rfl, hb⟩
  have c0 := fun i o v h => cell_later (a := ⟨w.heap.size + i, o, none⟩) (v := v) hb h
  have d0 := c0 0 0 (fl a) (by go_simp)
  have d1 := c0 0 1 (fl b) (by go_simp)
  have d2 := c0 0 2 (fl c) (by go_simp)
  have d3 := c0 0 3 (fl d) (by go_simp)
  rw [Nat.add_zero] at d0 d1 d2 d3
  have b0 := c0 1 0 (fl x) (by go_simp)
  have b1 := c0 1 1 (fl y) (by go_simp)
  have a0 := c0 2 0 (fl 0) (by go_simp)
  have a1 := c0 2 1 (fl 0) (by go_simp)
  have a2 := c0 2 2 (fl 0) (by go_simp)
  have a3 := c0 2 3 (fl 0) (by go_simp)
  have a4 := c0 2 4 (.bool false) (by go_simp)
  have gg := fun o h => frozen_later (a := ⟨w.heap.size + 2, o, none⟩) hb (by simp) h
  have g0 := gg 0 (by go_simp)
  have g1 := gg 1 (by go_simp)
  have g2 := gg 2 (by go_simp)
  have g3 := gg 3 (by go_simp)
  have g4 := gg 4 (by go_simp)
  have hz := hb.size
  simp at hz
  have HB := Lib.hid hb
  clear hb c0 gg
  have e0 := cell_regrown d0
  have e1 := cell_regrown d1
  have e2 := cell_regrown d2
  have e3 := cell_regrown d3
  have e4 := cell_regrown b0
  have e5 := cell_regrown b1
  have e6 := cell_regrown a0
  have e7 := cell_regrown a1
  have e8 := cell_regrown a2
  have e9 := cell_regrown a3
  have e10 := cell_regrown a4
  go_wp2
  refine Rh.region_tail (by kernel_rfl) (by kernel_rfl) rfl rfl (by kernel_rfl) ?_
  simp only [List.dropLast_cons_cons, List.dropLast_singleton]
  repeat (refine Rh.qw_step (fun K hK => ?_); go_simp; first | (refine hK _ ?_; clear hK K) | (apply Exists.intro; refine ⟨fun _ => ?_, hK _ ?_⟩; (exact Calls.regrown_of (by first | with_reducible exact k1.out _ | with_reducible exact k2.out _ | with_reducible exact k3.out _ | with_reducible exact k4.out _ | with_reducible exact newEnv_any _ _ _ _ _)); clear hK K))
  refine Rh.qw_nil ?_
  intro dq osq K hK
  have f0 := e6 dq osq
  have f1 := e7 dq osq
  have f2 := e8 dq osq
  have f3 := e9 dq osq
  have f4 := e10 dq osq
  have hz2 : w.heap.size + 1 + 1 < w1.heap.size := hz
  have i0 := (frozen_grow w1 dq osq (w.heap.size + 1 + 1) 0 hz2).trans g0
  have i1 := (frozen_grow w1 dq osq (w.heap.size + 1 + 1) 1 hz2).trans g1
  have i2 := (frozen_grow w1 dq osq (w.heap.size + 1 + 1) 2 hz2).trans g2
  have i3 := (frozen_grow w1 dq osq (w.heap.size + 1 + 1) 3 hz2).trans g3
  have i4 := (frozen_grow w1 dq osq (w.heap.size + 1 + 1) 4 hz2).trans g4
  go_simp
  refine hK _ _ ?_
  go_wp2
  refine bodyPost_ret (v := denv true (fminB a x) (fminB b y) (fmaxB c x) (fmaxB d y)) (by simp [results, Try.results81, go_sem, f0, f1, f2, f3, f4]) rfl ⟨rfl, set5 ?_ (by omega) _ _ _ _ _⟩
  exact (alloc3 ..).trans ((HB.out.mono (alloc3 ..).size).trans ((below_regrown _ dq osq).mono (Nat.le_trans (alloc3 ..).size HB.out.size)))
end Go.Proofs.Ytiphlifnmmplaaa
