/- Envelopes of the laws: the contracts of eFits at a list, eCorners, eOf at two places, eMade, eHas. Conditions stand at each lemma. -/
import Derived.Test.YtiphlifnmmplaaaWk
import Derived.Test.YtiphlifnmmplaaaWb
namespace Go.Proofs.Ytiphlifnmmplaaa
open Go.RowKit
abbrev lenv (f : Bool) (a b c d : Nat) : Value := .agg #[.bool f, .float .f64 a, .float .f64 b, .float .f64 c, .float .f64 d]
structure En where
  f : Bool
  a : Nat
  b : Nat
  c : Nat
  d : Nat
def En.fit (e : En) : Bool := !e.f || (Fl.finB e.a && Fl.finB e.b && Fl.finB e.c && Fl.finB e.d)
/-- The slice value reads as a list of envelopes. -/
def EnsAt (w : World) (b o : Nat) (es : List En) : Prop := b < w.heap.size ∧ ∀ k e, es[k]? = some e → w.cell? ⟨b, o + k * 5, none⟩ = some (.bool e.f) ∧ w.cell? ⟨b, o + k * 5 + 1, none⟩ = some (.float .f64 e.a) ∧ w.cell? ⟨b, o + k * 5 + 2, none⟩ = some (.float .f64 e.b) ∧ w.cell? ⟨b, o + k * 5 + 3, none⟩ = some (.float .f64 e.c) ∧ w.cell? ⟨b, o + k * 5 + 4, none⟩ = some (.float .f64 e.d)
theorem EnsAt.later {w w' : World} {b o : Nat} {es : List En} (h : EnsAt w b o es) (hb : Below w.heap.size w w') : EnsAt w' b o es :=
  ⟨Nat.lt_of_lt_of_le h.1 hb.size, fun k e hk => by
    rw [hb.cell (p := ⟨b, o + k * 5, none⟩) h.1, hb.cell (p := ⟨b, o + k * 5 + 1, none⟩) h.1, hb.cell (p := ⟨b, o + k * 5 + 2, none⟩) h.1, hb.cell (p := ⟨b, o + k * 5 + 3, none⟩) h.1, hb.cell (p := ⟨b, o + k * 5 + 4, none⟩) h.1]; exact h.2 k e hk⟩
set_option maxHeartbeats 1000000 in
theorem eFits_any (b o c : Nat) (es : List En) (w : World) (hl : es.length ≤ 1000000) (hP : EnsAt w b o es) :
   Calls Try.prog 22 #[.slice (some ⟨b, o, none⟩) es.length c] w fun e w' => e = .returned (.bool (es.all En.fit)) ∧ Below w.heap.size w w' := by
  have HP := Lib.hid hP
  clear hP
  go_enter Try.func22, Try.ntmps22
  go_wp2
  go_loopw [7] (fun i wr => ∃ k : Nat, k ≤ es.length ∧ i = .int .i64 k ∧ (es.take k).all En.fit = true ∧ Below w.heap.size w wr) (fun i _ => es.length - (intOf i).toNat)
  case atStart => exact ⟨0, Nat.zero_le _, rfl, rfl, Below.refl _ _⟩
  case round =>
    obtain ⟨k, hk, rfl, hall, hb⟩ := hrel
    have HA := Lib.hid hall
    have HB := Lib.hid hb
    have hzr := hb.size
    clear hall hb
    by_cases hlt : k < es.length
    · obtain ⟨e, hx⟩ : ∃ e, es[k]? = some e := ⟨es[k], by simp [hlt]⟩
      obtain ⟨c0, c1, c2, c3, c4⟩ := (HP.out.later HB.out).2 k e hx
      obtain ⟨f, x, y, z, t⟩ := e
      have HX := Lib.hid hx
      clear hx
      simp only at c0 c1 c2 c3 c4
      have key : ∀ (bx : Bool), (Fl.finB x && Fl.finB y && Fl.finB z && Fl.finB t) = bx → ∀ w, Calls Try.prog 20 #[fbox x y z t] w fun e w' => e = .returned (.bool bx) ∧ Below w.heap.size w w' := fun bx h w => h ▸ eFinite_any x y z t w
      cases f
      · have HN := Lib.hid (take_all es En.fit k _ HX.out HA.out rfl)
        clear key
        go_wp2
        go_roundw
        case rel => exact ⟨k + 1, by omega, by go_num, HN.out, HB.out.alloc HB.out.size _⟩
        case measure => simp [intOf]; omega
      · cases h : (Fl.finB x && Fl.finB y && Fl.finB z && Fl.finB t)
        · have K := Lib.hid (key _ h)
          have HN := Lib.hid (not_all es En.fit k _ HX.out (by simpa [En.fit] using h))
          clear key h
          go_wp2_with fail
          refine (K.out _).mono ?_
          rintro e w1 ⟨rfl, hb1⟩
          have HB1 := Lib.hid hb1
          clear hb1
          go_wp2
          go_ret
          have q1 := HB.out.alloc HB.out.size (Obj.cells #[.bool true, .float .f64 x, .float .f64 y, .float .f64 z, .float .f64 t] 46)
          exact ⟨by rw [HN.out]; rfl, q1.trans (HB1.out.mono q1.size)⟩
        · have K := Lib.hid (key _ h)
          have HN := Lib.hid (take_all es En.fit k _ HX.out HA.out (by simpa [En.fit] using h))
          clear key h
          go_wp2_with fail
          refine (K.out _).mono ?_
          rintro e w1 ⟨rfl, hb1⟩
          have hz1 := hb1.size
          have HB1 := Lib.hid hb1
          clear hb1
          go_wp2
          go_roundw
          case rel =>
            have q1 := HB.out.alloc HB.out.size (Obj.cells #[.bool true, .float .f64 x, .float .f64 y, .float .f64 z, .float .f64 t] 46)
            exact ⟨k + 1, by omega, by go_num, HN.out, q1.trans (HB1.out.mono q1.size)⟩
          case measure => simp [intOf]; omega
    · go_wp2
      go_ret
      refine ⟨?_, HB.out⟩
      have := HA.out
      rw [List.take_of_length_le (by omega)] at this
      rw [this]; rfl
theorem corners_none (a b c d : Nat) (w : World) : Calls Try.prog 23 #[lenv false a b c d] w fun e w' => e = .returned (.slice none 0 0) ∧ Below w.heap.size w w' := by
  go_enter Try.func23, Try.ntmps23
  go_wp2
  go_ret
  exact ⟨rfl, (Below.refl _ _).alloc (Nat.le_refl _) _⟩
theorem corners_any (a b c d : Nat) (w : World) : Calls Try.prog 23 #[lenv true a b c d] w fun e w' => e = .returned (.slice (some ⟨w.heap.size + 1, 0, none⟩) 2 2) ∧ Below w.heap.size w w' ∧ w'.heap.size = w.heap.size + 2 ∧ w'.cell? ⟨w.heap.size + 1, 0, none⟩ = some (fl a) ∧ w'.cell? ⟨w.heap.size + 1, 1, none⟩ = some (fl b) ∧ w'.cell? ⟨w.heap.size + 1, 2, none⟩ = some (fl c) ∧ w'.cell? ⟨w.heap.size + 1, 3, none⟩ = some (fl d) := by
  go_enter Try.func23, Try.ntmps23
  go_wp2
  go_ret
  exact ⟨by simp, alloc2 .., by simp, by simp, by simp, by simp, by simp⟩
set_option maxHeartbeats 1000000 in
theorem eHas_any (a b c d x y : Nat) (w : World) : Calls Try.prog 24 #[lenv true a b c d, fxy x y] w fun e w' => e = .returned (.bool (leB a x && leB x c && leB b y && leB y d)) ∧ Below w.heap.size w w' := by
  unfold leB
  refine chain4 (FloatKind.f64.format.order a x == some .lt || FloatKind.f64.format.order a x == some .eq) (FloatKind.f64.format.order x c == some .lt || FloatKind.f64.format.order x c == some .eq) (FloatKind.f64.format.order b y == some .lt || FloatKind.f64.format.order b y == some .eq) (FloatKind.f64.format.order y d == some .lt || FloatKind.f64.format.order y d == some .eq) ?_ ?_ ?_ ?_ ?_
  all_goals
    intros
    simp only [*, Bool.and_false, Bool.false_and, Bool.and_self]
    go_enter Try.func24, Try.ntmps24
    go_wp2
    go_ret
    exact ⟨rfl, alloc2 ..⟩
end Go.Proofs.Ytiphlifnmmplaaa
