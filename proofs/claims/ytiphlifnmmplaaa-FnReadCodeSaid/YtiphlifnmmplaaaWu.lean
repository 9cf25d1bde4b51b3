/- FnEnvCovers: the walk, inside the bounds. Conditions stand at each lemma. -/
import Derived.Test.YtiphlifnmmplaaaWt
namespace Go.Proofs.Ytiphlifnmmplaaa
open Go.RowKit
set_option maxRecDepth 100000 in
theorem eqB4 (a b : Bool) (w : World) : (Op.equalIn 10000 4 (.bool a) (.bool b)).run Try.prog w = .ok (a == b) w := by
  rw [show (10000 : Nat) = 9999 + 1 from rfl, Op.equalIn]
  simp [run_underlying Try.underlying4]
attribute [local irreducible] wpList
set_option maxRecDepth 100000 in
set_option maxHeartbeats 1000000 in
theorem lawcov_bnone (f : Bool) (a b c d a' b' c' d' : Nat) (w : World) (hf : ([⟨f, a, b, c, d⟩, ⟨false, a', b', c', d'⟩] : List En).all En.fit = true) (hr : ∀ w, Calls Try.prog 26 #[lenv f a b c d, lenv false a' b' c' d'] w fun e w' => e = .returned (.bool false) ∧ Below w.heap.size w w') : Calls Try.prog 7 #[lenv f a b c d, lenv false a' b' c' d'] w fun e w' => e = .returned (.bool true) ∧ Below w.heap.size w w' := by
  have HF := Lib.hid hf
  have he : ∀ w, (Op.equalIn 10000 4 (.bool false) (.bool false)).run Try.prog w = .ok true w := fun w => by rw [eqB4]; rfl
  have HR := Lib.hid hr
  clear hf hr
  go_enter Try.func7, Try.ntmps7
  go_wp2_with fail
  refine (eFits_any _ _ 2 [⟨f, a, b, c, d⟩, ⟨false, a', b', c', d'⟩] _ (by simp) (ens_two _ _ (by simp) _ _ _ _ _ _ _ _ _ _ _)).mono ?_
  rintro e w1 ⟨rfl, hb⟩
  rw [HF.out]
  have c0 := fun i o v h => cell_later (a := ⟨w.heap.size + i, o, none⟩) (v := v) hb h
  have a0 := c0 0 0 (.bool f) (by go_simp)
  have a1 := c0 0 1 (fl a) (by go_simp)
  have a2 := c0 0 2 (fl b) (by go_simp)
  have a3 := c0 0 3 (fl c) (by go_simp)
  have a4 := c0 0 4 (fl d) (by go_simp)
  have b0 := c0 1 0 (.bool false) (by go_simp)
  have b1 := c0 1 1 (fl a') (by go_simp)
  have b2 := c0 1 2 (fl b') (by go_simp)
  have b3 := c0 1 3 (fl c') (by go_simp)
  have b4 := c0 1 4 (fl d') (by go_simp)
  rw [Nat.add_zero] at a0 a1 a2 a3 a4
  have HB := Lib.hid hb
  clear hb c0
  cases f
  all_goals
    go_wp2_with fail
    refine (corners_none _ _ _ _ _).mono ?_
    rintro e w2 ⟨rfl, hb⟩
    have a0 := cell_later hb a0
    have a1 := cell_later hb a1
    have a2 := cell_later hb a2
    have a3 := cell_later hb a3
    have a4 := cell_later hb a4
    have b0 := cell_later hb b0
    have b1 := cell_later hb b1
    have b2 := cell_later hb b2
    have b3 := cell_later hb b3
    have b4 := cell_later hb b4
    have HB2 := Lib.hid hb
    clear hb
    go_wp2
    go_loopw [22, 5] (fun i v wr => i = .int .i64 0 ∧ v = .bool false ∧ wr = w2) (fun i _ _ => 0)
    case atStart => exact ⟨rfl, rfl, rfl⟩
    case round =>
      obtain ⟨rfl, rfl, rfl⟩ := hrel
      go_wp2_with fail
      refine (HR.out _).mono ?_
      rintro e w3 ⟨rfl, hb⟩
      have HB3 := Lib.hid hb
      clear hb
      go_wp2
      go_ret
      exact ⟨rfl, (alloc3 ..).trans ((HB.out.mono (alloc3 ..).size).trans ((HB2.out.mono (Nat.le_trans (alloc3 ..).size HB.out.size)).trans (HB3.out.mono (Nat.le_trans (Nat.le_trans (alloc3 ..).size HB.out.size) HB2.out.size))))⟩
def hasB (a b c d u v : Nat) : Bool := leB (fminB c a) u && leB u (fmaxB c a) && leB (fminB d b) v && leB v (fmaxB d b)
theorem corner_has (a b c d u v : Nat) (r : Bool) (h : hasB a b c d u v = r) (w : World) : Calls Try.prog 24 #[lenv true (fminB c a) (fminB d b) (fmaxB c a) (fmaxB d b), fxy u v] w fun e w' => e = .returned (.bool r) ∧ Below w.heap.size w w' := by
  subst h; exact eHas_any _ _ _ _ _ _ w
set_option maxRecDepth 100000 in
set_option maxHeartbeats 4000000 in
theorem lawcov_two (f : Bool) (a b c d a' b' c' d' : Nat) (Q : Nat → Bool) (w : World) (hf : ([⟨f, a, b, c, d⟩, ⟨true, a', b', c', d'⟩] : List En).all En.fit = true) (hq0 : Q 0 = f) (hqf : ∀ k, Q k = true → f = true) (hqs : ∀ k u v, [(a', b'), (c', d')][k]? = some (u, v) → Q (k + 1) = (Q k && hasB a b c d u v)) (hr : ∀ w, Calls Try.prog 26 #[lenv f a b c d, lenv true a' b' c' d'] w fun e w' => e = .returned (.bool (Q 2)) ∧ Below w.heap.size w w') : Calls Try.prog 7 #[lenv f a b c d, lenv true a' b' c' d'] w fun e w' => e = .returned (.bool true) ∧ Below w.heap.size w w' := by
  have HF := Lib.hid hf
  have he : ∀ w, (Op.equalIn 10000 4 (.bool (Q 2)) (.bool (Q 2))).run Try.prog w = .ok true w := fun w => by rw [eqB4]; simp
  have HR := Lib.hid hr
  have HQ0 := Lib.hid hq0
  have HQF := Lib.hid hqf
  have HQS := Lib.hid hqs
  clear hf hr hq0 hqf hqs
  go_enter Try.func7, Try.ntmps7
  go_wp2_with fail
  refine (eFits_any _ _ 2 [⟨f, a, b, c, d⟩, ⟨true, a', b', c', d'⟩] _ (by simp) (ens_two _ _ (by simp) _ _ _ _ _ _ _ _ _ _ _)).mono ?_
  rintro e w1 ⟨rfl, hb⟩
  rw [HF.out]
  have c0 := fun i o v h => cell_later (a := ⟨w.heap.size + i, o, none⟩) (v := v) hb h
  have a0 := c0 0 0 (.bool f) (by go_simp)
  have a1 := c0 0 1 (fl a) (by go_simp)
  have a2 := c0 0 2 (fl b) (by go_simp)
  have a3 := c0 0 3 (fl c) (by go_simp)
  have a4 := c0 0 4 (fl d) (by go_simp)
  have b0 := c0 1 0 (.bool true) (by go_simp)
  have b1 := c0 1 1 (fl a') (by go_simp)
  have b2 := c0 1 2 (fl b') (by go_simp)
  have b3 := c0 1 3 (fl c') (by go_simp)
  have b4 := c0 1 4 (fl d') (by go_simp)
  rw [Nat.add_zero] at a0 a1 a2 a3 a4
  have HB := Lib.hid hb
  clear hb c0
  cases f
  all_goals
    go_wp2_with fail
    refine (corners_any _ _ _ _ _).mono ?_
    rintro e w2 ⟨rfl, hb, hs, h0, h1, h2, h3⟩
    have a0 := cell_later hb a0
    have a1 := cell_later hb a1
    have a2 := cell_later hb a2
    have a3 := cell_later hb a3
    have a4 := cell_later hb a4
    have b0 := cell_later hb b0
    have b1 := cell_later hb b1
    have b2 := cell_later hb b2
    have b3 := cell_later hb b3
    have b4 := cell_later hb b4
    have hx := Lib.hid (xys_two (by rw [hs]; omega) h0 h1 h2 h3)
    have HB2 := Lib.hid ((alloc3 w _ _ _).trans ((HB.out.mono (alloc3 ..).size).trans (hb.mono (Nat.le_trans (alloc3 ..).size HB.out.size))))
    clear hb h0 h1 h2 h3
    go_wp2
    go_loopw [22, 5] (fun i v wr => ∃ k : Nat, k ≤ 2 ∧ i = .int .i64 k ∧ v = .bool (Q k) ∧ Below w2.heap.size w2 wr) (fun i _ _ => 2 - (intOf i).toNat)
    case atStart => exact ⟨0, Nat.zero_le _, rfl, by rw [HQ0.out], Below.refl _ _⟩
    case round =>
      obtain ⟨k, hk, rfl, rfl, hb⟩ := hrel
      have d0 := cell_later hb a0
      have d1 := cell_later hb a1
      have d2 := cell_later hb a2
      have d3 := cell_later hb a3
      have d4 := cell_later hb a4
      have e0 := cell_later hb b0
      have e1 := cell_later hb b1
      have e2 := cell_later hb b2
      have e3 := cell_later hb b3
      have e4 := cell_later hb b4
      have hzr := hb.size
      have hzr2 := HB2.out.size
      by_cases hlt : k < 2
      · obtain ⟨u, v, huv⟩ : ∃ u v, [(a', b'), (c', d')][k]? = some (u, v) := by
          match k, hlt with
          | 0, _ => exact ⟨_, _, rfl⟩
          | 1, _ => exact ⟨_, _, rfl⟩
        obtain ⟨x0, x1⟩ := (hx.out.later hb).2 k u v huv
        rw [Nat.zero_add] at x0 x1
        have HS := Lib.hid (HQS.out k u v huv)
        have HB3 := Lib.hid hb
        clear hb huv
        cases hQ : Q k
        · have HN := Lib.hid (show Q (k + 1) = false by rw [HS.out, hQ]; rfl)
          clear hQ
          go_wp2
          refine Rh.region_below (by kernel_rfl) (by kernel_rfl) ?_
          repeat (refine Rh.qw_step (fun K hK => ?_); go_simp; (refine hK _ ?_; clear hK K))
          refine Rh.qw_nil ?_
          intro _ hw'
          obtain ⟨⟨dq, osq⟩, hw''⟩ := hw'
          subst hw''
          go_wp2
          go_roundw
          case rel =>
            have q1 := HB3.out.alloc HB3.out.size (Obj.cells #[.float .f64 u, .float .f64 v] 29)
            exact ⟨k + 1, by omega, by go_num, by rw [HN.out], q1.trans ((below_regrown _ dq osq).mono q1.size)⟩
          case measure => simp [intOf]; omega
        · first
            | exact absurd (HQF.out k hQ) (by decide)
            | (have HN := Lib.hid (show Q (k + 1) = hasB a b c d u v by rw [HS.out, hQ]; rfl)
               have K1 := Lib.hid (fun w => eMade_any a b c d w)
               have K2 := Lib.hid (fun w => corner_has a b c d u v _ HN.out.symm w)
               clear hQ
               have q1 := (Below.refl wr.heap.size wr).alloc (Nat.le_refl _) (Obj.cells #[.float .f64 u, .float .f64 v] 29)
               have x2 := cell_regrown (cell_later q1 d0)
               have x3 := cell_regrown (cell_later q1 d1)
               have x4 := cell_regrown (cell_later q1 d2)
               have x5 := cell_regrown (cell_later q1 d3)
               have x6 := cell_regrown (cell_later q1 d4)
               have x7 := cell_regrown (show (wr.alloc (Obj.cells #[.float .f64 u, .float .f64 v] 29)).cell? ⟨wr.heap.size, 0, none⟩ = some (fl u) by go_simp)
               have x8 := cell_regrown (show (wr.alloc (Obj.cells #[.float .f64 u, .float .f64 v] 29)).cell? ⟨wr.heap.size, 1, none⟩ = some (fl v) by go_simp)
               clear q1
               go_wp2
               refine Rh.region_below (by kernel_rfl) (by kernel_rfl) ?_
               repeat (refine Rh.qw_step (fun K hK => ?_); go_simp; first | (refine hK _ ?_; clear hK K) | (apply Exists.intro; refine ⟨fun _ => ?_, hK _ ?_⟩; (exact Calls.regrown_of (by first | with_reducible exact K1.out _ | with_reducible exact K2.out _)); clear hK K))
               refine Rh.qw_nil ?_
               intro _ hw'
               obtain ⟨⟨dq, osq⟩, hw''⟩ := hw'
               subst hw''
               go_wp2
               go_roundw
               case rel =>
                 have q1 := HB3.out.alloc HB3.out.size (Obj.cells #[.float .f64 u, .float .f64 v] 29)
                 exact ⟨k + 1, by omega, by go_num, rfl, q1.trans ((below_regrown _ dq osq).mono q1.size)⟩
               case measure => simp [intOf]; omega)
      · have : k = 2 := by omega
        subst this
        have HB3 := Lib.hid hb
        clear hb
        go_wp2_with fail
        refine (HR.out _).mono ?_
        rintro e w3 ⟨rfl, hb⟩
        have HB4 := Lib.hid hb
        clear hb
        go_wp2
        go_ret
        exact ⟨rfl, HB2.out.trans ((HB3.out.mono HB2.out.size).trans (HB4.out.mono (Nat.le_trans HB2.out.size HB3.out.size)))⟩
end Go.Proofs.Ytiphlifnmmplaaa
