/- FnReadCode: the walk where there are five bytes and an order. Conditions stand at each lemma. -/
import Derived.Test.YtiphlifnmmplaaaVa
namespace Go.Proofs.Ytiphlifnmmplaaa
open Go.RowKit
attribute [local irreducible] wpList
theorem bits_after (w1 : World) (b o n c : Nat) (big : Bool) (z0 z1 z2 z3 V : Int) (hn : 5 ≤ n) (hc : n ≤ c)
    (h0 : w1.cell? ⟨b, o + 1, none⟩ = some (.int .u8 z0)) (h1 : w1.cell? ⟨b, o + 2, none⟩ = some (.int .u8 z1)) (h2 : w1.cell? ⟨b, o + 3, none⟩ = some (.int .u8 z2)) (h3 : w1.cell? ⟨b, o + 4, none⟩ = some (.int .u8 z3))
    (r0 : 0 ≤ z0 ∧ z0 ≤ 255) (r1 : 0 ≤ z1 ∧ z1 ≤ 255) (r2 : 0 ≤ z2 ∧ z2 ≤ 255) (r3 : 0 ≤ z3 ∧ z3 ≤ 255) (hV : V = accOf big z0 z1 z2 z3 4) :
    Calls Try.prog 31 #[.pointer (some ⟨w1.heap.size, 0, none⟩), .int .i64 4] (w1.alloc (Obj.cells #[.slice (some ⟨b, o + 1, none⟩) (n - 1) (c - 1), .bool big, .bool false, .bool false] 63)).drew fun e w' => e = .returned (.int .u64 V) ∧ Below w1.heap.size w1 w' := by
  subst hV
  have q : Below w1.heap.size w1 (w1.alloc (Obj.cells #[.slice (some ⟨b, o + 1, none⟩) (n - 1) (c - 1), .bool big, .bool false, .bool false] 63)).drew := Below.drew ((Below.refl _ w1).alloc (Nat.le_refl _) _)
  refine (bits_any w1.heap.size b (o + 1) (n - 5) (c - 5) big z0 z1 z2 z3 _ ?_ ?_ ?_ ?_ ?_ (cell_later q h0) (cell_later q h1) (cell_later q h2) (cell_later q h3) r0 r1 r2 r3).mono ?_
  · simp
  · rw [show n - 5 + 4 = n - 1 by omega, show c - 5 + 4 = c - 1 by omega]; simp [go_sem]
  · simp [go_sem]
  · simp [go_sem]
  · simp [go_sem]
  · rintro e w' ⟨rfl, rfl⟩
    exact ⟨rfl, q.setCell (p := ⟨w1.heap.size, 0, none⟩) (Nat.le_refl _) _⟩
set_option maxRecDepth 100000 in
theorem law9_five (b o n c : Nat) (z z0 z1 z2 z3 : Int) (k d l : Int) (ok : Bool) (w : World) (hn : 5 ≤ n) (hn2 : n ≤ 2000) (hc : n ≤ c) (h01 : z = 0 ∨ z = 1) (hz : w.cell? ⟨b, o, none⟩ = some (.int .u8 z)) 
    (h0 : w.cell? ⟨b, o + 1, none⟩ = some (.int .u8 z0)) (h1 : w.cell? ⟨b, o + 2, none⟩ = some (.int .u8 z1)) (h2 : w.cell? ⟨b, o + 3, none⟩ = some (.int .u8 z2)) (h3 : w.cell? ⟨b, o + 4, none⟩ = some (.int .u8 z3))
    (r0 : 0 ≤ z0 ∧ z0 ≤ 255) (r1 : 0 ≤ z1 ∧ z1 ≤ 255) (r2 : 0 ≤ z2 ∧ z2 ≤ 255) (r3 : 0 ≤ z3 ∧ z3 ≤ 255)
    (V : Int) (hV : V = accOf (z == 0) z0 z1 z2 z3 4) (hv0 : 0 ≤ V) (hv1 : V ≤ 4294967295)
    (K : Calls Try.prog 30 #[.slice (some ⟨b, o, none⟩) n c] w fun e w' => e = .returned (.tuple #[.int .i64 k, .int .i64 d, .int .i64 l, .bool ok]) ∧ Below w.heap.size w w')
    (hend : (codeOk V ∧ k = kindOf V ∧ d = V / 1000 ∧ l = n - 5 ∧ ok = true) ∨ (¬ codeOk V ∧ ok = false)) : Calls Try.prog 9 #[.slice (some ⟨b, o, none⟩) n c] w fun e w' => e = .returned (.bool true) ∧ Below w.heap.size w w' := by
  have K' := Lib.hid K
  have HE := Lib.hid hend
  have HV := Lib.hid hV
  clear K hend hV
  rcases h01 with rfl | rfl
  all_goals
    go_enter Try.func9, Try.ntmps9
    go_wp2_with fail
    refine K'.out.mono ?_
    rintro e w1 ⟨rfl, hb⟩
    have hz' := cell_later hb hz
    have h0' := cell_later hb h0
    have h1' := cell_later hb h1
    have h2' := cell_later hb h2
    have h3' := cell_later hb h3
    have HB := Lib.hid hb
    clear hb hz h0 h1 h2 h3
    go_wp2
    go_region
    go_wp2_with fail
    refine (bits_after w1 b o n c _ z0 z1 z2 z3 V hn hc h0' h1' h2' h3' r0 r1 r2 r3 HV.out).mono ?_
    rintro e w2 ⟨rfl, hb⟩
    have HB2 := Lib.hid hb
    clear hb h0' h1' h2' h3' hz'
    rcases HE.out with ⟨⟨g1, g2, g3⟩, rfl, rfl, rfl, rfl⟩ | ⟨hbad, rfl⟩
    · have t1 : decide (V % 1000 < 1) = false := decide_eq_false (by omega)
      have t2 : decide (7 < V % 1000) = false := decide_eq_false (by omega)
      have t3 : decide (3 < V / 1000) = false := decide_eq_false (by omega)
      by_cases h7 : V % 1000 = 7
      · have t4 : (V % 1000 == 7) = true := by simp [h7]
        have t5 : kindOf V = 0 := by simp [kindOf, h7]
        rw [t5]
        go_wp2
        go_ret
        exact ⟨rfl, HB.out.trans (HB2.out.mono HB.out.size)⟩
      · have t4 : (V % 1000 == 7) = false := by simp [h7]
        have t5 : kindOf V = V % 1000 := by simp [kindOf, h7]
        rw [t5]
        go_wp2
        go_ret
        exact ⟨rfl, HB.out.trans (HB2.out.mono HB.out.size)⟩
    · unfold codeOk at hbad
      by_cases b1 : V % 1000 < 1
      · have t1 : decide (V % 1000 < 1) = true := decide_eq_true b1
        clear hbad
        go_wp2
        go_ret
        exact ⟨rfl, HB.out.trans (HB2.out.mono HB.out.size)⟩
      · have t1 : decide (V % 1000 < 1) = false := decide_eq_false b1
        by_cases b2 : 7 < V % 1000
        · have t2 : decide (7 < V % 1000) = true := decide_eq_true b2
          clear hbad
          go_wp2
          go_ret
          exact ⟨rfl, HB.out.trans (HB2.out.mono HB.out.size)⟩
        · have t2 : decide (7 < V % 1000) = false := decide_eq_false b2
          have b3 : 3 < V / 1000 := by omega
          have t3 : decide (3 < V / 1000) = true := decide_eq_true b3
          clear hbad
          go_wp2
          go_ret
          exact ⟨rfl, HB.out.trans (HB2.out.mono HB.out.size)⟩
end Go.Proofs.Ytiphlifnmmplaaa
