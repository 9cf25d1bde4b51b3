/- Whether places are whole and within bounds: the contracts of formedBelow, formed, walk and dPlaces at a line. -/
import Derived.Test.YtiphlifnmmplaaaWa
namespace Go.Proofs.Ytiphlifnmmplaaa
open Go.RowKit
/-- The slice value reads as a list of pairs of whole numbers. -/
def PtsAt (w : World) (b o : Nat) (ps : List (Int × Int)) : Prop := b < w.heap.size ∧ ∀ k x y, ps[k]? = some (x, y) → w.cell? ⟨b, o + k * 2, none⟩ = some (.int .i64 x) ∧ w.cell? ⟨b, o + k * 2 + 1, none⟩ = some (.int .i64 y)
def ptIn (m : Int) (p : Int × Int) : Bool := decide (-m ≤ p.1 ∧ p.1 ≤ m ∧ -m ≤ p.2 ∧ p.2 ≤ m)
theorem take_all {α : Type} (l : List α) (p : α → Bool) (k : Nat) (x : α) (hx : l[k]? = some x) (h : (l.take k).all p = true) (hp : p x = true) : (l.take (k + 1)).all p = true := by
  rw [List.take_add_one, hx]; simp [h, hp]
theorem not_all {α : Type} (l : List α) (p : α → Bool) (k : Nat) (x : α) (hx : l[k]? = some x) (hp : p x = false) : l.all p = false := by
  rw [List.all_eq_false]; exact ⟨x, List.mem_of_getElem? hx, by simp [hp]⟩
set_option maxHeartbeats 1000000 in
theorem formed_line (b o c : Nat) (ps : List (Int × Int)) (m : Int) (hm : 0 ≤ m) (hm2 : m ≤ 1048576) (w : World) (hl : ps.length ≤ 1000000) (hP : PtsAt w b o ps) :
   Calls Try.prog 58 #[.agg #[.int .i64 2, .slice (some ⟨b, o, none⟩) ps.length c, .slice none 0 0], .int .i64 m, .int .i64 100] w fun e w' => e = .returned (.bool (ps.all (ptIn m))) ∧ Below w.heap.size w w' := by
  have HP := Lib.hid hP
  clear hP
  go_enter Try.func58, Try.ntmps58
  go_wp2
  obtain ⟨w1, hw1⟩ : ∃ w1 : World, w1 = w.alloc (Obj.cells #[Value.int IntKind.i64 2, Value.slice (some { block := b, off := o }) ps.length c, Value.slice none 0 0] 78) := ⟨_, rfl⟩
  rw [← hw1]
  have hz1 : w.heap.size < w1.heap.size := by rw [hw1]; simp
  have hb01 : Hid (Below w.heap.size w w1) := Lib.hid (by rw [hw1]; exact (Below.refl _ _).alloc (Nat.le_refl _) _)
  have f0 : w1.cell? ⟨w.heap.size, 0, none⟩ = some (.int .i64 2) := by rw [hw1]; simp
  have f1 : w1.cell? ⟨w.heap.size, 1, none⟩ = some (Value.slice (some { block := b, off := o }) ps.length c) := by rw [hw1]; simp
  have f2 : w1.cell? ⟨w.heap.size, 2, none⟩ = some (Value.slice none 0 0) := by rw [hw1]; simp
  clear hw1
  go_loopw [17] (fun i wr => ∃ k : Nat, k ≤ ps.length ∧ i = .int .i64 k ∧ (ps.take k).all (ptIn m) = true ∧ Below w1.heap.size w1 wr) (fun i _ => ps.length - (intOf i).toNat)
  case atStart => exact ⟨0, Nat.zero_le _, rfl, rfl, Below.refl _ _⟩
  case round =>
    obtain ⟨k, hk, rfl, hall, hb⟩ := hrel
    have HA := Lib.hid hall
    have HB := Lib.hid hb
    have hzr := hb.size
    rw [← hb.cell (p := ⟨w.heap.size, 0, none⟩) hz1] at f0
    rw [← hb.cell (p := ⟨w.heap.size, 1, none⟩) hz1] at f1
    rw [← hb.cell (p := ⟨w.heap.size, 2, none⟩) hz1] at f2
    clear hall hb
    by_cases hlt : k < ps.length
    · obtain ⟨x, y, hx⟩ : ∃ x y, ps[k]? = some (x, y) := ⟨ps[k].1, ps[k].2, by simp [hlt]⟩
      obtain ⟨c0, c1⟩ := HP.out.2 k x y hx
      rw [← hb01.out.cell (p := ⟨b, o + k * 2, none⟩) HP.out.1, ← HB.out.cell (p := ⟨b, o + k * 2, none⟩) (Nat.lt_trans HP.out.1 hz1)] at c0
      rw [← hb01.out.cell (p := ⟨b, o + k * 2 + 1, none⟩) HP.out.1, ← HB.out.cell (p := ⟨b, o + k * 2 + 1, none⟩) (Nat.lt_trans HP.out.1 hz1)] at c1
      have HX := Lib.hid hx
      clear hx
      by_cases hin : ptIn m (x, y) = true
      · have hin2 := of_decide_eq_true hin
        obtain ⟨i1, i2, i3, i4⟩ := hin2
        have HN := take_all ps (ptIn m) k (x, y) HX.out HA.out hin
        have HN2 := Lib.hid HN
        clear hin HN
        go_wp2
        all_goals first | (exfalso; omega) | skip
        all_goals (go_roundw)
        case rel => exact ⟨k + 1, by omega, by go_num, HN2.out, HB.out.alloc (by omega) _⟩
        case measure => simp [intOf]; omega
        case rel => exact ⟨k + 1, by omega, by go_num, HN2.out, HB.out.alloc (by omega) _⟩
        case measure => simp [intOf]; omega
      · have hin2 : ¬ (-m ≤ x ∧ x ≤ m ∧ -m ≤ y ∧ y ≤ m) := fun h => hin (decide_eq_true h)
        have HN := not_all ps (ptIn m) k (x, y) HX.out (by simpa using hin)
        have HN2 := Lib.hid HN
        have HI := Lib.hid hin2
        clear hin HN hin2
        go_wp2
        all_goals first | (exfalso; have := HI.out; omega) | skip
        all_goals (go_ret; exact ⟨by rw [HN2.out]; rfl, hb01.out.trans ((HB.out.alloc (by omega) _).mono (Nat.le_of_lt hz1))⟩)
    · go_wp2
      go_ret
      refine ⟨?_, ?_⟩
      · have := HA.out
        rw [List.take_of_length_le (by omega)] at this
        rw [this]; rfl
      · exact hb01.out.trans (HB.out.mono (Nat.le_of_lt hz1))
theorem formed_any (b o c : Nat) (ps : List (Int × Int)) (m : Int) (hm : 0 ≤ m) (hm2 : m ≤ 1048576) (w : World) (hl : ps.length ≤ 1000000) (hP : PtsAt w b o ps) :
   Calls Try.prog 38 #[.agg #[.int .i64 2, .slice (some ⟨b, o, none⟩) ps.length c, .slice none 0 0], .int .i64 m] w fun e w' => e = .returned (.bool (ps.all (ptIn m))) ∧ Below w.heap.size w w' := by
  have h2 : PtsAt (w.alloc (Obj.cells #[Value.int IntKind.i64 2, Value.slice (some { block := b, off := o }) ps.length c, Value.slice none 0 0] 78)) b o ps :=
    ⟨by have := hP.1; simp; omega, fun k x y hx => by
      have := hP.2 k x y hx
      have hb := hP.1
      have B : Below w.heap.size w (w.alloc (Obj.cells #[Value.int IntKind.i64 2, Value.slice (some { block := b, off := o }) ps.length c, Value.slice none 0 0] 78)) := (Below.refl _ _).alloc (Nat.le_refl _) _
      rw [B.cell (p := ⟨b, o + k * 2, none⟩) hb, B.cell (p := ⟨b, o + k * 2 + 1, none⟩) hb]
      exact this⟩
  have H2 := Lib.hid h2
  clear hP h2
  go_enter Try.func38, Try.ntmps38
  go_wp2_with (go_at_call 58; refine (formed_line _ _ _ _ _ hm hm2 _ hl H2.out).mono ?_; rintro e w' ⟨rfl, hb⟩)
  go_ret
  exact ⟨rfl, ((Below.refl _ _).alloc (Nat.le_refl _) _).trans (hb.mono (by simp))⟩

/-- 'walk' of as many places as are asked, and at most 100. -/
theorem walk_any (b o c : Nat) (ps : List (Int × Int)) (l m : Int) (hm : 0 ≤ m) (hm2 : m ≤ 1048576) (w : World) (hl : l ≤ ps.length) (hl2 : ps.length ≤ 100) (hP : PtsAt w b o ps) :
   Calls Try.prog 12 #[.slice (some ⟨b, o, none⟩) ps.length c, .int .i64 l, .int .i64 m] w fun e w' => e = .returned (.bool (ps.all (ptIn m))) ∧ Below w.heap.size w w' := by
  have H2 := Lib.hid hP
  clear hP
  go_enter Try.func12, Try.ntmps12
  go_wp2_with (go_at_call 38; refine (formed_any _ _ _ _ _ hm hm2 _ (by omega) H2.out).mono ?_; rintro e w' ⟨rfl, hb⟩)
  go_ret
  exact ⟨rfl, hb⟩
end Go.Proofs.Ytiphlifnmmplaaa
