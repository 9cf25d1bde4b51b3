/- Boxes: the contracts of rtree's fastMin, fastMax, combine and of impl's box, fromBox, BoxJoin. Conditions stand at each lemma. -/
import Derived.Test.YtiphlifnmmplaaaWd
import Derived.Deep.RegionHeld3
import Derived.Test.YtiphlifnmmplaaaRh
namespace Go.Proofs.Ytiphlifnmmplaaa
open Go.RowKit
open Go.Sort in
@[go_sem] theorem frozen_grow (w : World) (d : Nat) (os : Array Obj) (b o : Nat) (h : b < w.heap.size) : (grow (redrawn w d) os).frozen? ⟨b, o, none⟩ = w.frozen? ⟨b, o, none⟩ := (below_regrown w d os).frozen (p := ⟨b, o, none⟩) h
abbrev fl (x : Nat) : Value := .float .f64 x
abbrev fbox (a b c d : Nat) : Value := .agg #[.float .f64 a, .float .f64 b, .float .f64 c, .float .f64 d]
def ltB (a b : Nat) : Bool := FloatKind.f64.format.order a b == some .lt
def gtB (a b : Nat) : Bool := FloatKind.f64.format.order a b == some .gt
def fminB (a b : Nat) : Nat := bif ltB a b then a else b
def fmaxB (a b : Nat) : Nat := bif gtB a b then a else b
theorem fastMin_any (a b : Nat) (w : World) : Calls Try.prog 79 #[.float .f64 a, .float .f64 b] w fun e w' => e = .returned (.float .f64 (fminB a b)) ∧ Below w.heap.size w w' := by
  have e : ltB a b = (FloatKind.f64.format.order a b == some .lt) := rfl
  unfold fminB
  cases h : ltB a b
  all_goals
    rw [h] at e
    have h1 := e.symm
    clear e h
    go_enter Try.func79, Try.ntmps79
    go_wp2
    go_ret
    exact ⟨rfl, Below.refl _ _⟩
theorem fastMax_any (a b : Nat) (w : World) : Calls Try.prog 80 #[.float .f64 a, .float .f64 b] w fun e w' => e = .returned (.float .f64 (fmaxB a b)) ∧ Below w.heap.size w w' := by
  have e : gtB a b = (FloatKind.f64.format.order a b == some .gt) := rfl
  unfold fmaxB
  cases h : gtB a b
  all_goals
    rw [h] at e
    have h1 := e.symm
    clear e h
    go_enter Try.func80, Try.ntmps80
    go_wp2
    go_ret
    exact ⟨rfl, Below.refl _ _⟩
theorem box_any (a b c d : Nat) (w : World) : Calls Try.prog 47 #[fbox a b c d] w fun e w' => e = .returned (fbox a b c d) ∧ Below w.heap.size w w' := by
  go_enter Try.func47, Try.ntmps47
  go_wp2
  exact bodyPost_ret (v := fbox a b c d) (by simp [results, Try.results47, go_sem]) rfl ⟨rfl, ((Below.refl _ _).alloc (Nat.le_refl _) _).alloc (by simp) _⟩
theorem fromBox_any (a b c d : Nat) (w : World) : Calls Try.prog 45 #[fbox a b c d] w fun e w' => e = .returned (fbox a b c d) ∧ Below w.heap.size w w' := by
  go_enter Try.func45, Try.ntmps45
  go_wp2
  exact bodyPost_ret (v := fbox a b c d) (by simp [results, Try.results45, go_sem]) rfl ⟨rfl, ((Below.refl _ _).alloc (Nat.le_refl _) _).alloc (by simp) _⟩
theorem frozen_later {w wx : World} {a : Addr} (hb : Below w.heap.size w wx) (ha : a.block < w.heap.size) (h : w.frozen? a = false) : wx.frozen? a = false := (hb.frozen ha).trans h
theorem alloc2 (w : World) (o1 o2 : Obj) : Below w.heap.size w ((w.alloc o1).alloc o2) := by
  have h1 := (Below.refl w.heap.size w).alloc (Nat.le_refl _) o1
  exact h1.alloc h1.size o2
theorem set4 {B : Nat} {a w : World} {n : Nat} (h : Below B a w) (hb : B ≤ n) (v0 v1 v2 v3 : Value) : Below B a ((((w.setCell ⟨n, 0, none⟩ v0).setCell ⟨n, 1, none⟩ v1).setCell ⟨n, 2, none⟩ v2).setCell ⟨n, 3, none⟩ v3) :=
  (((h.setCell (p := ⟨n, 0, none⟩) hb v0).setCell (p := ⟨n, 1, none⟩) hb v1).setCell (p := ⟨n, 2, none⟩) hb v2).setCell (p := ⟨n, 3, none⟩) hb v3
theorem alloc3 (w : World) (o1 o2 o3 : Obj) : Below w.heap.size w (((w.alloc o1).alloc o2).alloc o3) := by
  have h1 := (Below.refl w.heap.size w).alloc (Nat.le_refl _) o1
  have h2 := h1.alloc h1.size o2
  exact h2.alloc h2.size o3
set_option maxHeartbeats 1000000 in
theorem combine_any (a b c d a' b' c' d' : Nat) (w : World) : Calls Try.prog 65 #[fbox a b c d, fbox a' b' c' d'] w fun e w' => e = .returned (fbox (fminB a a') (fminB b b') (fmaxB c c') (fmaxB d d')) ∧ Below w.heap.size w w' := by
  go_enter Try.func65, Try.ntmps65
  go_wp2
  refine Rh.region_tail (by kernel_rfl) (by kernel_rfl) rfl rfl (by kernel_rfl) ?_
  simp only [List.dropLast_cons_cons, List.dropLast_singleton]
  repeat (refine Rh.qw_step (fun K hK => ?_); go_simp; first | (refine hK _ ?_; clear hK K) | (apply Exists.intro; refine ⟨fun _ => ?_, hK _ ?_⟩; (exact Calls.regrown_of (by first | with_reducible exact fastMin_any _ _ _ | with_reducible exact fastMax_any _ _ _)); clear hK K))
  refine Rh.qw_nil ?_
  intro dq osq K hK
  go_simp
  refine hK _ _ ?_
  go_wp2
  refine bodyPost_ret (v := fbox (fminB a a') (fminB b b') (fmaxB c c') (fmaxB d d')) (by simp [results, Try.results65, go_sem]) rfl ⟨rfl, set4 ?_ (by omega) _ _ _ _⟩
  exact (alloc3 ..).trans ((below_regrown _ dq osq).mono (alloc3 ..).size)
theorem doorCombine_any (a b c d a' b' c' d' : Nat) (w : World) : Calls Try.prog 46 #[fbox a b c d, fbox a' b' c' d'] w fun e w' => e = .returned (fbox (fminB a a') (fminB b b') (fmaxB c c') (fmaxB d d')) ∧ Below w.heap.size w w' := by
  go_enter Try.func46, Try.ntmps46
  go_wp2_with fail
  refine (combine_any _ _ _ _ _ _ _ _ _).mono ?_
  rintro e w' ⟨rfl, hb⟩
  have c0 := fun o v h => cell_later (a := ⟨w.heap.size + 1 + 1, o, none⟩) (v := v) hb h
  have a0 := c0 0 (fl 0) (by go_simp)
  have a1 := c0 1 (fl 0) (by go_simp)
  have a2 := c0 2 (fl 0) (by go_simp)
  have a3 := c0 3 (fl 0) (by go_simp)
  have g0 := frozen_later (a := ⟨w.heap.size + 1 + 1, 0, none⟩) hb (by simp) (by go_simp)
  have g1 := frozen_later (a := ⟨w.heap.size + 1 + 1, 1, none⟩) hb (by simp) (by go_simp)
  have g2 := frozen_later (a := ⟨w.heap.size + 1 + 1, 2, none⟩) hb (by simp) (by go_simp)
  have g3 := frozen_later (a := ⟨w.heap.size + 1 + 1, 3, none⟩) hb (by simp) (by go_simp)
  have HB := Lib.hid hb
  clear hb c0
  go_wp2
  refine bodyPost_ret (v := fbox (fminB a a') (fminB b b') (fmaxB c c') (fmaxB d d')) (by simp [results, Try.results46, go_sem, a0, a1, a2, a3]) rfl ⟨rfl, set4 ?_ (by omega) _ _ _ _⟩
  exact (alloc3 ..).trans (HB.out.mono (alloc3 ..).size)
set_option maxHeartbeats 1000000 in
theorem boxJoin_any (a b c d a' b' c' d' : Nat) (w : World) : Calls Try.prog 21 #[fbox a b c d, fbox a' b' c' d'] w fun e w' => e = .returned (fbox (fminB a a') (fminB b b') (fmaxB c c') (fmaxB d d')) ∧ Below w.heap.size w w' := by
  go_enter Try.func21, Try.ntmps21
  go_wp2
  refine Rh.region_tail (by kernel_rfl) (by kernel_rfl) rfl rfl (by kernel_rfl) ?_
  simp only [List.dropLast_cons_cons, List.dropLast_singleton]
  repeat (refine Rh.qw_step (fun K hK => ?_); go_simp; first | (refine hK _ ?_; clear hK K) | (apply Exists.intro; refine ⟨fun _ => ?_, hK _ ?_⟩; (exact Calls.regrown_of (by first | with_reducible exact box_any _ _ _ _ _ | with_reducible exact doorCombine_any _ _ _ _ _ _ _ _ _ | with_reducible exact fromBox_any _ _ _ _ _)); clear hK K))
  refine Rh.qw_nil ?_
  intro dq osq K hK
  go_simp
  refine hK _ _ ?_
  go_wp2
  refine bodyPost_ret (v := fbox (fminB a a') (fminB b b') (fmaxB c c') (fmaxB d d')) (by simp [results, Try.results21, go_sem]) rfl ⟨rfl, set4 ?_ (by omega) _ _ _ _⟩
  exact (alloc3 ..).trans ((below_regrown _ dq osq).mono (alloc3 ..).size)
end Go.Proofs.Ytiphlifnmmplaaa
