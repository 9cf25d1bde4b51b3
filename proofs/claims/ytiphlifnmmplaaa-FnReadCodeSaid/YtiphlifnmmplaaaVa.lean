/- FnReadCode: the walk. Conditions stand at each lemma. -/
import Derived.Test.YtiphlifnmmplaaaWy
import Derived.Test.YtiphlifnmmplaaaWz
namespace Go.Proofs.Ytiphlifnmmplaaa
open Go.RowKit
attribute [local irreducible] wpList
theorem law9_large (ao : Option Addr) (n c : Nat) (w : World) (hn : 2000 < n) : Calls Try.prog 9 #[.slice ao n c] w fun e w' => e = .returned (.bool true) ∧ Below w.heap.size w w' := by
  go_enter Try.func9, Try.ntmps9
  by_cases h : n > 2147483647
  · go_wp2
    go_ret
    exact ⟨rfl, Below.refl _ _⟩
  · go_wp2
    go_ret
    exact ⟨rfl, Below.refl _ _⟩
theorem law9_short (ao : Option Addr) (n c : Nat) (w : World) (hn : n < 5) (K : Calls Try.prog 30 #[.slice ao n c] w fun e w' => e = .returned (.tuple #[.int .i64 0, .int .i64 0, .int .i64 0, .bool false]) ∧ Below w.heap.size w w') : Calls Try.prog 9 #[.slice ao n c] w fun e w' => e = .returned (.bool true) ∧ Below w.heap.size w w' := by
  have K' := Lib.hid K
  clear K
  go_enter Try.func9, Try.ntmps9
  go_wp2_with fail
  refine K'.out.mono ?_
  rintro e w1 ⟨rfl, hb⟩
  have HB := Lib.hid hb
  clear hb
  go_wp2
  go_ret
  exact ⟨rfl, HB.out⟩
theorem law9_order (b o n c : Nat) (z : Int) (w : World) (hn : 5 ≤ n) (hn2 : n ≤ 2000) (hz1 : 1 < z) (hz : w.cell? ⟨b, o, none⟩ = some (.int .u8 z)) (K : Calls Try.prog 30 #[.slice (some ⟨b, o, none⟩) n c] w fun e w' => e = .returned (.tuple #[.int .i64 0, .int .i64 0, .int .i64 0, .bool false]) ∧ Below w.heap.size w w') : Calls Try.prog 9 #[.slice (some ⟨b, o, none⟩) n c] w fun e w' => e = .returned (.bool true) ∧ Below w.heap.size w w' := by
  have K' := Lib.hid K
  clear K
  go_enter Try.func9, Try.ntmps9
  go_wp2_with fail
  refine K'.out.mono ?_
  rintro e w1 ⟨rfl, hb⟩
  have hz2 := cell_later hb hz
  have HB := Lib.hid hb
  clear hb hz
  go_wp2
  go_ret
  exact ⟨rfl, HB.out⟩
end Go.Proofs.Ytiphlifnmmplaaa
