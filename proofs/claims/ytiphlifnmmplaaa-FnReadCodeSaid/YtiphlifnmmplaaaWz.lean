/- Bytes: the laws' reader of bits, at four bytes. Conditions stand at each lemma. -/
import Derived.Test.YtiphlifnmmplaaaWx
import Derived.Laws.BitsAllLaws
namespace Go.Proofs.Ytiphlifnmmplaaa
open Go.RowKit
/-- The number of the first k bytes as they are read: the greatest first (big) or from the last of four back. -/
def accOf (big : Bool) (z0 z1 z2 z3 : Int) : Nat → Int
  | 0 => 0
  | 1 => if big then z0 else z3
  | 2 => if big then z0 * 256 + z1 else z3 * 256 + z2
  | 3 => if big then (z0 * 256 + z1) * 256 + z2 else (z3 * 256 + z2) * 256 + z1
  | _ => if big then ((z0 * 256 + z1) * 256 + z2) * 256 + z3 else ((z3 * 256 + z2) * 256 + z1) * 256 + z0
theorem or8 (x b : Int) (h0 : 0 ≤ x) (h1 : x ≤ 16777215) (b0 : 0 ≤ b) (b1 : b ≤ 255) : bits .or .u64 (x * 256) b = x * 256 + b := by
  rw [u64_or _ _ (by omega) (by omega) (by omega) (by omega), nat_join 8 _ _ (by omega) (by omega)]
  omega
theorem or0 (b : Int) (b0 : 0 ≤ b) (b1 : b ≤ 255) : bits .or .u64 0 b = b := by
  have := or8 0 b (by omega) (by omega) b0 b1
  simpa using this
theorem bits_any (B b o n c : Nat) (big : Bool) (z0 z1 z2 z3 : Int) (w : World) (hB : B < w.heap.size) (hs : w.cell? ⟨B, 0, none⟩ = some (.slice (some ⟨b, o, none⟩) (n + 4) (c + 4))) (hg : w.cell? ⟨B, 1, none⟩ = some (.bool big)) (hh : w.cell? ⟨B, 2, none⟩ = some (.bool false)) (hf : w.frozen? ⟨B, 0, none⟩ = false)
    (h0 : w.cell? ⟨b, o, none⟩ = some (.int .u8 z0)) (h1 : w.cell? ⟨b, o + 1, none⟩ = some (.int .u8 z1)) (h2 : w.cell? ⟨b, o + 2, none⟩ = some (.int .u8 z2)) (h3 : w.cell? ⟨b, o + 3, none⟩ = some (.int .u8 z3))
    (r0 : 0 ≤ z0 ∧ z0 ≤ 255) (r1 : 0 ≤ z1 ∧ z1 ≤ 255) (r2 : 0 ≤ z2 ∧ z2 ≤ 255) (r3 : 0 ≤ z3 ∧ z3 ≤ 255) : Calls Try.prog 31 #[.pointer (some ⟨B, 0, none⟩), .int .i64 4] w fun e w' => e = .returned (.int .u64 (accOf big z0 z1 z2 z3 4)) ∧ w' = w.setCell ⟨B, 0, none⟩ (.slice (some ⟨b, cutOff 4 c o, none⟩) n c) := by
  go_enter Try.func31, Try.ntmps31
  go_wp2
  go_loopw [25, 5] (fun i v wr => ∃ k : Nat, k ≤ 4 ∧ i = .int .i64 k ∧ v = .int .u64 (accOf big z0 z1 z2 z3 k) ∧ wr = w) (fun i _ _ => 4 - (intOf i).toNat)
  case atStart => exact ⟨0, by omega, rfl, rfl, rfl⟩
  case round =>
    obtain ⟨k, hk, rfl, rfl, rfl⟩ := hrel
    match k, hk with
    | 0, _ =>
      cases big
      all_goals
        simp only [accOf, if_true, if_false, Bool.false_eq_true]
        go_wp2
        rw [or0 _ (by omega) (by omega)]
        exact ⟨⟨1, by omega, rfl, rfl, trivial⟩, by simp [intOf]⟩
    | 1, _ =>
      cases big
      all_goals
        simp only [accOf, if_true, if_false, Bool.false_eq_true]
        go_wp2
        rw [or8 _ _ (by omega) (by omega) (by omega) (by omega)]
        exact ⟨⟨2, by omega, rfl, rfl, trivial⟩, by simp [intOf]⟩
    | 2, _ =>
      cases big
      all_goals
        simp only [accOf, if_true, if_false, Bool.false_eq_true]
        go_wp2
        rw [or8 _ _ (by omega) (by omega) (by omega) (by omega)]
        exact ⟨⟨3, by omega, rfl, rfl, trivial⟩, by simp [intOf]⟩
    | 3, _ =>
      cases big
      all_goals
        simp only [accOf, if_true, if_false, Bool.false_eq_true]
        go_wp2
        rw [or8 _ _ (by omega) (by omega) (by omega) (by omega)]
        exact ⟨⟨4, by omega, rfl, rfl, trivial⟩, by simp [intOf]⟩
    | 4, _ =>
      go_wp2
      all_goals
        go_ret
        exact ⟨rfl, by simp [cutOff, *]⟩
    | k + 5, h => exact absurd h (by omega)
end Go.Proofs.Ytiphlifnmmplaaa
