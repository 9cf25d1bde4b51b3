/- Envelopes of the laws: the contracts of eOf at two places and of eMade. Conditions stand at each lemma. -/
import Derived.Test.YtiphlifnmmplaaaWn
import Derived.Test.YtiphlifnmmplaaaWe
namespace Go.Proofs.Ytiphlifnmmplaaa
open Go.RowKit
def eK (x y x' y' : Nat) : Nat → En
  | 0 => ⟨false, 0, 0, 0, 0⟩
  | 1 => ⟨true, x, y, x, y⟩
  | _ => ⟨true, fminB x' x, fminB y' y, fmaxB x' x, fmaxB y' y⟩
theorem lt_gt {x y : Nat} : (ltB x y = true ∧ gtB x y = false) ∨ (ltB x y = false ∧ gtB x y = true) ∨ (ltB x y = false ∧ gtB x y = false) := by
  unfold ltB gtB
  cases FloatKind.f64.format.order x y with
  | none => simp
  | some o => cases o <;> simp
theorem keepA {B : Nat} {a w : World} (h : Below B a w) (hb : B ≤ a.heap.size) (o : Obj) : Below B a (w.alloc o) := h.alloc (Nat.le_trans hb h.size) o
theorem keep5 {B : Nat} {a w : World} {n : Nat} (h : Below B a w) (hb : B ≤ n) (o : Nat) (v : Value) : Below B a (w.setCell ⟨n, o, none⟩ v) := h.setCell (p := ⟨n, o, none⟩) hb v
structure EnvAt (w : World) (n : Nat) (e : En) : Prop where
  size : n < w.heap.size
  c0 : w.cell? ⟨n, 0, none⟩ = some (.bool e.f)
  c1 : w.cell? ⟨n, 1, none⟩ = some (fl e.a)
  c2 : w.cell? ⟨n, 2, none⟩ = some (fl e.b)
  c3 : w.cell? ⟨n, 3, none⟩ = some (fl e.c)
  c4 : w.cell? ⟨n, 4, none⟩ = some (fl e.d)
  g0 : w.frozen? ⟨n, 0, none⟩ = false
  g1 : w.frozen? ⟨n, 1, none⟩ = false
  g2 : w.frozen? ⟨n, 2, none⟩ = false
  g3 : w.frozen? ⟨n, 3, none⟩ = false
  g4 : w.frozen? ⟨n, 4, none⟩ = false
set_option linter.unusedSimpArgs false in
set_option maxHeartbeats 4000000 in
theorem eOf_two (bl o c : Nat) (x y x' y' : Nat) (w : World) (hP : XYsAt w bl o [(x, y), (x', y')]) :
   Calls Try.prog 48 #[.slice (some ⟨bl, o, none⟩) 2 c] w fun e w' => e = .returned (lenv true (fminB x' x) (fminB y' y) (fmaxB x' x) (fmaxB y' y)) ∧ Below w.heap.size w w' := by
  have HP := Lib.hid hP
  clear hP
  go_enter Try.func48, Try.ntmps48
  go_wp2
  obtain ⟨w1, hw1⟩ : ∃ w1 : World, w1 = (w.alloc (Obj.cells #[.bool false, fl 0, fl 0, fl 0, fl 0] 46)).alloc (Obj.cells #[.bool false, fl 0, fl 0, fl 0, fl 0] 46) := ⟨_, rfl⟩
  rw [← hw1]
  have hb1 : Hid (Below w.heap.size w w1) := Lib.hid (by rw [hw1]; exact alloc2 ..)
  have hz : w1.heap.size = w.heap.size + 2 := by rw [hw1]; simp
  have e0 : EnvAt w1 w.heap.size (eK x y x' y' 0) := by rw [hw1]; constructor <;> simp [eK, go_sem]
  have e1 : EnvAt w1 (w.heap.size + 1) (eK x y x' y' 0) := by rw [hw1]; constructor <;> simp [eK, go_sem]
  have E0 := Lib.hid e0
  have E1 := Lib.hid e1
  clear hw1 e0 e1
  go_loopw [8] (fun i wr => ∃ k : Nat, k ≤ 2 ∧ i = .int .i64 k ∧ EnvAt wr w.heap.size (eK x y x' y' 0) ∧ EnvAt wr (w.heap.size + 1) (eK x y x' y' k) ∧ Below w.heap.size w wr) (fun i _ => 2 - (intOf i).toNat)
  case atStart => exact ⟨0, Nat.zero_le _, rfl, E0.out, E1.out, hb1.out⟩
  case round =>
    obtain ⟨k, hk, rfl, he0, he1, hb⟩ := hrel
    have HB := Lib.hid hb
    obtain ⟨hs0, a0, a1, a2, a3, a4, f0, f1, f2, f3, f4⟩ := he0
    have HC := Lib.hid (HP.out.later hb)
    clear hb
    match k, hk with
    | 0, _ =>
      obtain ⟨hs1, b0, b1, b2, b3, b4, g0, g1, g2, g3, g4⟩ := he1
      obtain ⟨c0, c1⟩ := HC.out.2 0 x y rfl
      simp only [eK] at a0 a1 a2 a3 a4 b0 b1 b2 b3 b4
      rw [Nat.zero_mul, Nat.add_zero] at c0 c1
      go_wp2
      go_roundw
      case rel =>
        refine ⟨1, by omega, by go_num, ?_, ?_, ?_⟩
        · constructor <;> simp [eK, go_sem, *] <;> omega
        · constructor <;> simp [eK, go_sem, *] <;> omega
        · refine keepA ?_ (Nat.le_refl _) _
          exact set5 HB.out (Nat.le_succ _) _ _ _ _ _
      case measure => simp [intOf]
    | 1, _ =>
      obtain ⟨hs1, b0, b1, b2, b3, b4, g0, g1, g2, g3, g4⟩ := he1
      obtain ⟨c0, c1⟩ := HC.out.2 1 x' y' rfl
      simp only [eK] at a0 a1 a2 a3 a4 b0 b1 b2 b3 b4
      rw [Nat.one_mul] at c0 c1
      rcases lt_gt (x := x') (y := x) with ⟨h1, h2⟩ | ⟨h1, h2⟩ | ⟨h1, h2⟩ <;> rcases lt_gt (x := y') (y := y) with ⟨h3, h4⟩ | ⟨h3, h4⟩ | ⟨h3, h4⟩
      all_goals
        have l1 : fminB x' x = bif ltB x' x then x' else x := rfl
        have l2 : fminB y' y = bif ltB y' y then y' else y := rfl
        have l3 : fmaxB x' x = bif gtB x' x then x' else x := rfl
        have l4 : fmaxB y' y = bif gtB y' y then y' else y := rfl
        rw [h1] at l1
        rw [h2] at l3
        rw [h3] at l2
        rw [h4] at l4
        simp only [cond_true, cond_false] at l1 l2 l3 l4
        have t1 : (FloatKind.f64.format.order x' x == some .lt) = _ := h1
        have t2 : (FloatKind.f64.format.order x' x == some .gt) = _ := h2
        have t3 : (FloatKind.f64.format.order y' y == some .lt) = _ := h3
        have t4 : (FloatKind.f64.format.order y' y == some .gt) = _ := h4
        have L1 := Lib.hid l1
        have L2 := Lib.hid l2
        have L3 := Lib.hid l3
        have L4 := Lib.hid l4
        clear l1 l2 l3 l4 h1 h2 h3 h4
        go_wp2
        go_roundw
        case rel =>
          refine ⟨2, by omega, by go_num, ?_, ?_, ?_⟩
          · constructor <;> simp [eK, go_sem, L1.out, L2.out, L3.out, L4.out, *] <;> omega
          · constructor <;> simp [eK, go_sem, L1.out, L2.out, L3.out, L4.out, *] <;> omega
          · refine keepA ?_ (Nat.le_refl _) _
            repeat (first | exact HB.out | refine keep5 ?_ (Nat.le_succ _) _ _)
        case measure => simp [intOf]
    | 2, _ =>
      obtain ⟨hs1, b0, b1, b2, b3, b4, g0, g1, g2, g3, g4⟩ := he1
      simp only [eK] at a0 a1 a2 a3 a4 b0 b1 b2 b3 b4
      go_wp2
      refine bodyPost_ret (v := lenv true (fminB x' x) (fminB y' y) (fmaxB x' x) (fmaxB y' y)) (by simp [results, Try.results48, go_sem, a0, a1, a2, a3, a4]) rfl ⟨rfl, set5 HB.out (Nat.le_refl _) _ _ _ _ _⟩
    | k + 3, h => exact absurd h (by omega)
end Go.Proofs.Ytiphlifnmmplaaa
