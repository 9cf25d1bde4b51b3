/- Envelopes: the contracts of impl's envelope, Covers, EnvCovers and of the laws' eMade. Conditions stand at each lemma. -/
import Derived.Test.YtiphlifnmmplaaaWq
namespace Go.Proofs.Ytiphlifnmmplaaa
open Go.RowKit
theorem xys_two {W : World} {n a b c d : Nat} (hs : n < W.heap.size) (h0 : W.cell? ⟨n, 0, none⟩ = some (fl a)) (h1 : W.cell? ⟨n, 1, none⟩ = some (fl b)) (h2 : W.cell? ⟨n, 2, none⟩ = some (fl c)) (h3 : W.cell? ⟨n, 3, none⟩ = some (fl d)) : XYsAt W n 0 [(a, b), (c, d)] :=
  ⟨hs, fun k x y hk => by
    match k, hk with
    | 0, hk => simp at hk; obtain ⟨rfl, rfl⟩ := hk; exact ⟨h0, h1⟩
    | 1, hk => simp at hk; obtain ⟨rfl, rfl⟩ := hk; exact ⟨h2, h3⟩
    | k + 2, hk => simp at hk⟩
theorem envelope_none (a b c d : Nat) (w : World) : Calls Try.prog 49 #[lenv false a b c d] w fun e w' => e = .returned (denv false 0 0 0 0) ∧ Below w.heap.size w w' := by
  go_enter Try.func49, Try.ntmps49
  go_wp2
  refine bodyPost_ret (v := denv false 0 0 0 0) (by simp [results, Try.results49, go_sem]) rfl ⟨rfl, ?_⟩
  first | exact alloc2 .. | exact set5 (alloc2 ..) (by omega) _ _ _ _ _
set_option maxHeartbeats 1000000 in
theorem envelope_some (a b c d : Nat) (ha : Fl.finB a = true) (hb : Fl.finB b = true) (w : World) : Calls Try.prog 49 #[lenv true a b c d] w fun e w' => e = .returned (denv true (fminB a c) (fminB b d) (fmaxB a c) (fmaxB b d)) ∧ Below w.heap.size w w' := by
  have k := Lib.hid (fun bl W h => newEnvelope_two bl 0 2 a b c d ha hb W h)
  clear ha hb
  go_enter Try.func49, Try.ntmps49
  go_wp2_with fail
  refine (k.out _ _ (xys_two ?_ ?_ ?_ ?_ ?_)).mono ?_
  · simp
  · go_simp
  · go_simp
  · go_simp
  · go_simp
  rintro e w1 ⟨rfl, hb⟩
  have c0 := fun o v h => cell_later (a := ⟨w.heap.size + 1, o, none⟩) (v := v) hb h
  have a0 := c0 0 (fl 0) (by go_simp)
  have a1 := c0 1 (fl 0) (by go_simp)
  have a2 := c0 2 (fl 0) (by go_simp)
  have a3 := c0 3 (fl 0) (by go_simp)
  have a4 := c0 4 (.bool false) (by go_simp)
  have gg := fun o h => frozen_later (a := ⟨w.heap.size + 1, o, none⟩) hb (by simp) h
  have g0 := gg 0 (by go_simp)
  have g1 := gg 1 (by go_simp)
  have g2 := gg 2 (by go_simp)
  have g3 := gg 3 (by go_simp)
  have g4 := gg 4 (by go_simp)
  have HB := Lib.hid hb
  clear hb c0 gg
  go_wp2
  refine bodyPost_ret (v := denv true (fminB a c) (fminB b d) (fmaxB a c) (fmaxB b d)) (by simp [results, Try.results49, go_sem, a0, a1, a2, a3, a4]) rfl ⟨rfl, set5 ?_ (by omega) _ _ _ _ _⟩
  exact (alloc3 ..).trans (HB.out.mono (alloc3 ..).size)
end Go.Proofs.Ytiphlifnmmplaaa
