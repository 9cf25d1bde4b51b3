/- FnEnvCovers: the walk. Conditions stand at each lemma. -/
import Derived.Test.YtiphlifnmmplaaaWs
namespace Go.Proofs.Ytiphlifnmmplaaa
open Go.RowKit
set_option maxHeartbeats 1000000 in
theorem eMade_any (a b c d : Nat) (w : World) : Calls Try.prog 25 #[lenv true a b c d] w fun e w' => e = .returned (lenv true (fminB c a) (fminB d b) (fmaxB c a) (fmaxB d b)) ∧ Below w.heap.size w w' := by
  go_enter Try.func25, Try.ntmps25
  go_wp2_with fail
  refine (corners_any _ _ _ _ _).mono ?_
  rintro e w1 ⟨rfl, hb, hs, h0, h1, h2, h3⟩
  simp at hs h0 h1 h2 h3
  have c0 := fun o v h => cell_later (a := ⟨w.heap.size + 1, o, none⟩) (v := v) hb h
  have a0 := c0 0 (.bool false) (by go_simp)
  have a1 := c0 1 (fl 0) (by go_simp)
  have a2 := c0 2 (fl 0) (by go_simp)
  have a3 := c0 3 (fl 0) (by go_simp)
  have a4 := c0 4 (fl 0) (by go_simp)
  have gg := fun o h => frozen_later (a := ⟨w.heap.size + 1, o, none⟩) hb (by simp) h
  have g0 := gg 0 (by go_simp)
  have g1 := gg 1 (by go_simp)
  have g2 := gg 2 (by go_simp)
  have g3 := gg 3 (by go_simp)
  have g4 := gg 4 (by go_simp)
  have hx := Lib.hid (xys_two (by rw [hs]; omega) h0 h1 h2 h3)
  have HB := Lib.hid hb
  clear hb c0 gg h0 h1 h2 h3
  go_wp2_with fail
  refine (eOf_two _ _ _ _ _ _ _ _ hx.out).mono ?_
  rintro e w2 ⟨rfl, hb⟩
  have a0 := cell_later hb a0
  have a1 := cell_later hb a1
  have a2 := cell_later hb a2
  have a3 := cell_later hb a3
  have a4 := cell_later hb a4
  have gg := fun o h => frozen_later (a := ⟨w.heap.size + 1, o, none⟩) hb (by simp [hs]) h
  have g0 := gg 0 g0
  have g1 := gg 1 g1
  have g2 := gg 2 g2
  have g3 := gg 3 g3
  have g4 := gg 4 g4
  have HB2 := Lib.hid hb
  clear hb gg
  go_wp2
  refine bodyPost_ret (v := lenv true (fminB c a) (fminB d b) (fmaxB c a) (fmaxB d b)) (by simp [results, Try.results25, go_sem, a0, a1, a2, a3, a4]) rfl ⟨rfl, set5 ?_ (by omega) _ _ _ _ _⟩
  exact (alloc2 ..).trans ((HB.out.mono (alloc2 ..).size).trans (HB2.out.mono (Nat.le_trans (alloc2 ..).size HB.out.size)))
theorem ens_two (W : World) (n : Nat) (hn : n = W.heap.size) (f f' : Bool) (a b c d a' b' c' d' : Nat) (t : TypeId) : EnsAt (W.alloc (.cells #[.bool f, fl a, fl b, fl c, fl d, .bool f', fl a', fl b', fl c', fl d'] t)) n 0 [⟨f, a, b, c, d⟩, ⟨f', a', b', c', d'⟩] := by
  subst hn
  refine ⟨by simp, fun k e hk => ?_⟩
  match k, hk with
  | 0, hk => simp at hk; subst hk; simp
  | 1, hk => simp at hk; subst hk; simp
  | k + 2, hk => simp at hk
set_option maxHeartbeats 1000000 in
theorem lawcov_out (f f' : Bool) (a b c d a' b' c' d' : Nat) (w : World) (hf : ([⟨f, a, b, c, d⟩, ⟨f', a', b', c', d'⟩] : List En).all En.fit = false) : Calls Try.prog 7 #[lenv f a b c d, lenv f' a' b' c' d'] w fun e w' => e = .returned (.bool true) ∧ Below w.heap.size w w' := by
  have HF := Lib.hid hf
  clear hf
  go_enter Try.func7, Try.ntmps7
  go_wp2_with fail
  refine (eFits_any _ _ 2 [⟨f, a, b, c, d⟩, ⟨f', a', b', c', d'⟩] _ (by simp) (ens_two _ _ (by simp) _ _ _ _ _ _ _ _ _ _ _)).mono ?_
  rintro e w1 ⟨rfl, hb⟩
  rw [HF.out]
  have HB := Lib.hid hb
  clear hb
  go_wp2
  go_ret
  exact ⟨rfl, (alloc3 ..).trans (HB.out.mono (alloc3 ..).size)⟩
end Go.Proofs.Ytiphlifnmmplaaa
