/- Contracts: the whole part, whether numbers are whole, dot products of places. Their conditions stand at each. -/
import Derived.Test.YtiphlifnmmplaaaWb
import Derived.Test.YtiphlifnmmplaaaFm
namespace Go.Proofs.Ytiphlifnmmplaaa
open Go.RowKit
theorem toIntegral_at {m : Array Value → Type} (x : Nat) (h1 : (x : Nat) → m #[.float .f64 x]) (h2 : (x : Array Value) → m x) : Extern.MathFloor.toIntegral.match_2 m #[Value.float .f64 x] h1 h2 = h1 x := rfl
theorem run_trunc_nan {P : Program} (nm : String) (way : Ieee.Toward) (x : Nat) (s : Bool) (t : Nat) (h : FloatKind.f64.decode x = .nan s t) (w : World) :
    ∃ b w', (Extern.MathFloor.toIntegral nm way #[.float .f64 x]).run P w = .ok (.float .f64 b) w' ∧ Below w.heap.size w w' := by
  delta Extern.MathFloor.toIntegral
  rw [toIntegral_at]
  simp only [h]
  split
  · exact ⟨x, w, rfl, Below.refl _ _⟩
  · exact ⟨_, _, rfl, (Below.refl _ _).drew⟩
theorem run_trunc_num {P : Program} (nm : String) (way : Ieee.Toward) (x : Nat) (h : (FloatKind.f64.decode x).isNaN = false) (w : World) :
    (Extern.MathFloor.toIntegral nm way #[.float .f64 x]).run P w = .ok (.float .f64 (FloatKind.f64.encode ((FloatKind.f64.decode x).integral way))) w := by
  delta Extern.MathFloor.toIntegral
  rw [toIntegral_at]
  cases hd : FloatKind.f64.decode x with
  | nan s t => rw [hd] at h; cases h
  | number s m p => rfl
  | infinity s => rfl
theorem trunc_ext (args : Array Value) (w : World) : (callFunc 75 args).run Try.prog w = ((Extern.MathFloor.toIntegral "math.archTrunc" .zero args).run Try.prog w).andThen fun v w' => .ok (.value v) w' :=
  run_callFunc_extern Try.func75 (by kernel_rfl) (by kernel_rfl) (by kernel_rfl) (by kernel_rfl) args w
/-- What math.Trunc hands back: of a NaN some word, else the whole part. -/
def TruncIs (x : Nat) (w : World) (e : Ending) (w' : World) : Prop := ∃ t, e = .returned (.float .f64 t) ∧ ((FloatKind.f64.decode x).isNaN = false → t = FloatKind.f64.encode ((FloatKind.f64.decode x).integral .zero)) ∧ Below w.heap.size w w'
theorem trunc_num (x t : Nat) (h1 : ∀ w, (callFunc 75 #[.float .f64 x]).run Try.prog w = .ok (.value (.float .f64 t)) w) (w : World) : Calls Try.prog 60 #[.float .f64 x] w fun e w' => e = .returned (.float .f64 t) ∧ w = w' := by
  go_enter Try.func60, Try.ntmps60
  go_wp2
  go_ret
  exact ⟨rfl, rfl⟩
set_option maxRecDepth 20000 in
theorem trunc_nan (x t : Nat) (w w1 : World) (h1 : (callFunc 75 #[.float .f64 x]).run Try.prog w = .ok (.value (.float .f64 t)) w1) : Calls Try.prog 60 #[.float .f64 x] w fun e w' => e = .returned (.float .f64 t) ∧ w1 = w' := by
  go_enter Try.func60, Try.ntmps60
  go_wp2
  go_ret
  exact ⟨rfl, rfl⟩
theorem trunc_any (x : Nat) (w : World) : Calls Try.prog 60 #[.float .f64 x] w (TruncIs x w) := by
  cases h : (FloatKind.f64.decode x).isNaN
  · exact (trunc_num x _ (fun w => by rw [trunc_ext, run_trunc_num _ _ x h w]; rfl) w).mono fun e w' ⟨he, hw⟩ => ⟨_, he, fun _ => rfl, hw ▸ Below.refl _ _⟩
  · obtain ⟨s, t, hd⟩ : ∃ s t, FloatKind.f64.decode x = .nan s t := by
      cases hd : FloatKind.f64.decode x with
      | nan s t => exact ⟨s, t, rfl⟩
      | number s m p => rw [hd] at h; cases h
      | infinity s => rw [hd] at h; cases h
    obtain ⟨b, w1, h1, hb⟩ := run_trunc_nan (P := Try.prog) "math.archTrunc" .zero x s t hd w
    exact (trunc_nan x b w w1 (by rw [trunc_ext, h1]; rfl)).mono fun e w' ⟨he, hw⟩ => ⟨_, he, (fun hh => by rw [h] at hh; cases hh), hw ▸ hb⟩
set_option maxHeartbeats 400000 in
theorem gWhole_walk (x : Nat) (b1 b2 b3 : Bool) (w : World) (h1 : ∀ t, ((FloatKind.f64.decode x).isNaN = false → t = FloatKind.f64.encode ((FloatKind.f64.decode x).integral .zero)) → (FloatKind.f64.format.order x t == some .eq) = b1)
    (h2 : (FloatKind.f64.format.order x 13920626448202203136 == some .gt || FloatKind.f64.format.order x 13920626448202203136 == some .eq) = b2)
    (h3 : (FloatKind.f64.format.order x 4697254411347427328 == some .lt || FloatKind.f64.format.order x 4697254411347427328 == some .eq) = b3) :
    Calls Try.prog 41 #[.float .f64 x] w fun e w' => e = .returned (.bool (b1 && b2 && b3)) ∧ Below w.heap.size w w' := by
  have H1 := Lib.hid h1
  clear h1
  cases b1 <;> cases b2 <;> cases b3
  all_goals
    go_enter Try.func41, Try.ntmps41
    go_wp2_with fail
    refine (trunc_any x _).mono ?_
    rintro e w' ⟨t, rfl, ht, hb⟩
    have h1 := H1.out t ht
    have HB := Lib.hid hb
    clear hb ht H1
    go_wp2
    go_ret
    exact ⟨rfl, HB.out⟩
theorem gWhole_any (x : Nat) (w : World) : Calls Try.prog 41 #[.float .f64 x] w fun e w' => e = .returned (.bool (Fl.wholeB x)) ∧ Below w.heap.size w w' := by
  have e : ∀ t, ((FloatKind.f64.decode x).isNaN = false → t = FloatKind.f64.encode ((FloatKind.f64.decode x).integral .zero)) → _ := fun t ht => Fl.whole_tests x t ht
  have key : ∃ b1 b2 b3, (b1 && b2 && b3) = Fl.wholeB x ∧ (∀ t, ((FloatKind.f64.decode x).isNaN = false → t = FloatKind.f64.encode ((FloatKind.f64.decode x).integral .zero)) → (FloatKind.f64.format.order x t == some .eq) = b1) ∧
    (FloatKind.f64.format.order x 13920626448202203136 == some .gt || FloatKind.f64.format.order x 13920626448202203136 == some .eq) = b2 ∧
    (FloatKind.f64.format.order x 4697254411347427328 == some .lt || FloatKind.f64.format.order x 4697254411347427328 == some .eq) = b3 := by
    cases hn : (FloatKind.f64.decode x).isNaN
    · refine ⟨(FloatKind.f64.format.order x (FloatKind.f64.encode ((FloatKind.f64.decode x).integral .zero)) == some .eq), _, _, ?_, fun t ht => ?_, rfl, rfl⟩
      · exact e _ (fun _ => rfl)
      · rw [ht rfl]
    · refine ⟨false, _, _, ?_, fun t ht => ?_, rfl, rfl⟩
      · have := e x (fun hh => by rw [hn] at hh; cases hh)
        rw [← this]
        have o : Ieee.double.order x x = none := by
          unfold Ieee.Format.order
          cases hd : Ieee.double.read x with
          | nan s t => rfl
          | number s m p => have : FloatKind.f64.decode x = _ := hd; rw [this] at hn; cases hn
          | infinity s => have : FloatKind.f64.decode x = _ := hd; rw [this] at hn; cases hn
        rw [o]; rfl
      · have o : FloatKind.f64.format.order x t = none := by
          show Ieee.double.order x t = none
          unfold Ieee.Format.order
          cases hd : Ieee.double.read x with
          | nan s t => rfl
          | number s m p => have : FloatKind.f64.decode x = _ := hd; rw [this] at hn; cases hn
          | infinity s => have : FloatKind.f64.decode x = _ := hd; rw [this] at hn; cases hn
        rw [o]; rfl
  obtain ⟨b1, b2, b3, hb, h1, h2, h3⟩ := key
  rw [← hb]
  exact gWhole_walk x b1 b2 b3 w h1 h2 h3
end Go.Proofs.Ytiphlifnmmplaaa
