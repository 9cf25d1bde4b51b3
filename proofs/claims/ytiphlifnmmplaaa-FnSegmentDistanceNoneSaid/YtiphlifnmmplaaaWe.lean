/- FnXYDot: the walk. Conditions stand at each lemma. -/
import Derived.Test.YtiphlifnmmplaaaWd
namespace Go.Proofs.Ytiphlifnmmplaaa
open Go.RowKit
/-- The slice value reads as a list of places of floats. -/
def XYsAt (w : World) (b o : Nat) (ps : List (Nat × Nat)) : Prop := b < w.heap.size ∧ ∀ k x y, ps[k]? = some (x, y) → w.cell? ⟨b, o + k * 2, none⟩ = some (.float .f64 x) ∧ w.cell? ⟨b, o + k * 2 + 1, none⟩ = some (.float .f64 y)
noncomputable def pWhole (p : Nat × Nat) : Bool := Fl.wholeB p.1 && Fl.wholeB p.2
theorem XYsAt.later {w w' : World} {b o : Nat} {ps : List (Nat × Nat)} (h : XYsAt w b o ps) (hb : Below w.heap.size w w') : XYsAt w' b o ps :=
  ⟨Nat.lt_of_lt_of_le h.1 hb.size, fun k x y hk => by rw [hb.cell (p := ⟨b, o + k * 2, none⟩) h.1, hb.cell (p := ⟨b, o + k * 2 + 1, none⟩) h.1]; exact h.2 k x y hk⟩

set_option maxHeartbeats 1000000 in
theorem vWhole_any (b o c : Nat) (ps : List (Nat × Nat)) (w : World) (hl : ps.length ≤ 1000000) (hP : XYsAt w b o ps) :
   Calls Try.prog 16 #[.slice (some ⟨b, o, none⟩) ps.length c] w fun e w' => e = .returned (.bool (ps.all pWhole)) ∧ Below w.heap.size w w' := by
  have HP := Lib.hid hP
  clear hP
  go_enter Try.func16, Try.ntmps16
  go_wp2
  go_loopw [7] (fun i wr => ∃ k : Nat, k ≤ ps.length ∧ i = .int .i64 k ∧ (ps.take k).all pWhole = true ∧ Below w.heap.size w wr) (fun i _ => ps.length - (intOf i).toNat)
  case atStart => exact ⟨0, Nat.zero_le _, rfl, rfl, Below.refl _ _⟩
  case round =>
    obtain ⟨k, hk, rfl, hall, hb⟩ := hrel
    have HA := Lib.hid hall
    have HB := Lib.hid hb
    have hzr := hb.size
    clear hall hb
    by_cases hlt : k < ps.length
    · obtain ⟨x, y, hx⟩ : ∃ x y, ps[k]? = some (x, y) := ⟨ps[k].1, ps[k].2, by simp [hlt]⟩
      obtain ⟨c0, c1⟩ := (HP.out.later HB.out).2 k x y hx
      have HX := Lib.hid hx
      clear hx
      have h1 : Fl.wholeB x = true ∨ Fl.wholeB x = false := by cases Fl.wholeB x <;> simp
      have h2 : Fl.wholeB y = true ∨ Fl.wholeB y = false := by cases Fl.wholeB y <;> simp
      have key : ∀ (bx : Bool), Fl.wholeB x = bx → ∀ w, Calls Try.prog 41 #[.float .f64 x] w fun e w' => e = .returned (.bool bx) ∧ Below w.heap.size w w' := fun bx h w => h ▸ gWhole_any x w
      have key2 : ∀ (bx : Bool), Fl.wholeB y = bx → ∀ w, Calls Try.prog 41 #[.float .f64 y] w fun e w' => e = .returned (.bool bx) ∧ Below w.heap.size w w' := fun bx h w => h ▸ gWhole_any y w
      rcases h1 with h1 | h1
      · rcases h2 with h2 | h2
        · have K1 := Lib.hid (key _ h1)
          have K2 := Lib.hid (key2 _ h2)
          have HN := Lib.hid (take_all ps pWhole k (x, y) HX.out HA.out (by simp [pWhole, h1, h2]))
          clear key key2 h1 h2
          go_wp2_with fail
          refine (K1.out _).mono ?_
          rintro e w1 ⟨rfl, hb1⟩
          have d1 := cell_later hb1 (a := ⟨wr.heap.size, 1, none⟩) (v := .float .f64 y) (by go_simp)
          have hz1 := hb1.size
          have HB1 := Lib.hid hb1
          clear hb1
          go_wp2_with fail
          refine (K2.out _).mono ?_
          rintro e w2 ⟨rfl, hb2⟩
          have HB2 := Lib.hid hb2
          clear hb2
          go_wp2
          go_roundw
          case rel => 
            have q1 := HB.out.alloc HB.out.size (Obj.cells #[Value.float FloatKind.f64 x, Value.float FloatKind.f64 y] 29)
            exact ⟨k + 1, by omega, by go_num, HN.out, (q1.trans (HB1.out.mono q1.size)).trans (HB2.out.mono (Nat.le_trans q1.size HB1.out.size))⟩
          case measure => simp [intOf]; omega
        · have K1 := Lib.hid (key _ h1)
          have K2 := Lib.hid (key2 _ h2)
          have HN := Lib.hid (not_all ps pWhole k (x, y) HX.out (by simp [pWhole, h1, h2]))
          clear key key2 h1 h2
          go_wp2_with fail
          refine (K1.out _).mono ?_
          rintro e w1 ⟨rfl, hb1⟩
          have d1 := cell_later hb1 (a := ⟨wr.heap.size, 1, none⟩) (v := .float .f64 y) (by go_simp)
          have hz1 := hb1.size
          have HB1 := Lib.hid hb1
          clear hb1
          go_wp2_with fail
          refine (K2.out _).mono ?_
          rintro e w2 ⟨rfl, hb2⟩
          have HB2 := Lib.hid hb2
          clear hb2
          go_wp2
          go_ret
          have q1 := HB.out.alloc HB.out.size (Obj.cells #[Value.float FloatKind.f64 x, Value.float FloatKind.f64 y] 29)
          exact ⟨by rw [HN.out]; rfl, (q1.trans (HB1.out.mono q1.size)).trans (HB2.out.mono (Nat.le_trans q1.size HB1.out.size))⟩
      · have K1 := Lib.hid (key _ h1)
        have HN := Lib.hid (not_all ps pWhole k (x, y) HX.out (by simp [pWhole, h1]))
        clear key key2 h1 h2
        go_wp2_with fail
        refine (K1.out _).mono ?_
        rintro e w1 ⟨rfl, hb1⟩
        have HB1 := Lib.hid hb1
        clear hb1
        go_wp2
        go_ret
        have q1 := HB.out.alloc HB.out.size (Obj.cells #[Value.float FloatKind.f64 x, Value.float FloatKind.f64 y] 29)
        exact ⟨by rw [HN.out]; rfl, q1.trans (HB1.out.mono q1.size)⟩
    · go_wp2
      go_ret
      refine ⟨?_, HB.out⟩
      have := HA.out
      rw [List.take_of_length_le (by omega)] at this
      rw [this]; rfl
end Go.Proofs.Ytiphlifnmmplaaa
