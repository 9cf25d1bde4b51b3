/- The distance between a place and a segment: the contracts of Sub, Add, Scale, Sqrt, Length, distBetweenXYs. Conditions stand at each lemma. -/
import Derived.Test.YtiphlifnmmplaaaWl
import Derived.Test.YtiphlifnmmplaaaWf
import Derived.Test.YtiphlifnmmplaaaSh
namespace Go.Proofs.Ytiphlifnmmplaaa
open Go.RowKit
theorem sub_any (a b c d r s : Nat) (h1 : floatBits .sub .f64 a c = some r) (h2 : floatBits .sub .f64 b d = some s) (w : World) : Calls Try.prog 86 #[fxy a b, fxy c d] w fun e w' => e = .returned (fxy r s) ∧ Below w.heap.size w w' := by
  have g1 := fun w t => run_float_arith (P := Try.prog) w .sub t .f64 _ _ _ h1
  have g2 := fun w t => run_float_arith (P := Try.prog) w .sub t .f64 _ _ _ h2
  clear h1 h2
  go_enter Try.func86, Try.ntmps86
  go_wp2
  exact bodyPost_ret (v := fxy r s) (by simp [results, Try.results86, go_sem]) rfl ⟨rfl, alloc3 ..⟩
theorem add_any (a b c d r s : Nat) (h1 : floatBits .add .f64 a c = some r) (h2 : floatBits .add .f64 b d = some s) (w : World) : Calls Try.prog 89 #[fxy a b, fxy c d] w fun e w' => e = .returned (fxy r s) ∧ Below w.heap.size w w' := by
  have g1 := fun w t => run_float_arith (P := Try.prog) w .add t .f64 _ _ _ h1
  have g2 := fun w t => run_float_arith (P := Try.prog) w .add t .f64 _ _ _ h2
  clear h1 h2
  go_enter Try.func89, Try.ntmps89
  go_wp2
  exact bodyPost_ret (v := fxy r s) (by simp [results, Try.results89, go_sem]) rfl ⟨rfl, alloc3 ..⟩
theorem scale_any (a b c r s : Nat) (h1 : floatBits .mul .f64 a c = some r) (h2 : floatBits .mul .f64 b c = some s) (w : World) : Calls Try.prog 88 #[fxy a b, .float .f64 c] w fun e w' => e = .returned (fxy r s) ∧ Below w.heap.size w w' := by
  have g1 := fun w t => run_float_arith (P := Try.prog) w .mul t .f64 _ _ _ h1
  have g2 := fun w t => run_float_arith (P := Try.prog) w .mul t .f64 _ _ _ h2
  clear h1 h2
  go_enter Try.func88, Try.ntmps88
  go_wp2
  exact bodyPost_ret (v := fxy r s) (by simp [results, Try.results88, go_sem]) rfl ⟨rfl, alloc2 ..⟩
theorem sqrt_ext (x r : Nat) (h : Ieee.double.sqrt x = some r) (w : World) : (callFunc 107 #[.float .f64 x]).run Try.prog w = .ok (.value (.float .f64 r)) w :=
  (run_callFunc_extern (e := Extern.MathSqrt.sqrt) Try.func107 (by kernel_rfl) (by kernel_rfl) (by kernel_rfl) (by kernel_rfl) _ w).trans (by
    have h2 : FloatKind.f64.format.sqrt x = some r := h
    have h3 : Extern.MathSqrt.sqrt #[.float .f64 x] = (match FloatKind.f64.format.sqrt x with | some r => pure (.float .f64 r) | none => do pure (.float .f64 (← choose (.nanBits .f64 x x)))) := rfl
    rw [h3, h2]
    rfl)
theorem sqrt_any (x r : Nat) (h : Ieee.double.sqrt x = some r) (w : World) : Calls Try.prog 102 #[.float .f64 x] w fun e w' => e = .returned (.float .f64 r) ∧ w = w' := by
  have h1 := sqrt_ext x r h
  clear h
  go_enter Try.func102, Try.ntmps102
  go_wp2
  go_ret
  exact ⟨rfl, rfl⟩
theorem lengthSq_any (x y a b r : Nat) (ha : floatBits .mul .f64 x x = some a) (hb : floatBits .mul .f64 y y = some b) (hr : floatBits .add .f64 a b = some r) (w : World) : Calls Try.prog 103 #[fxy x y] w fun e w' => e = .returned (.float .f64 r) ∧ Below w.heap.size w w' := by
  have K := Lib.hid (fun w => dot_any x y x y a b r w ha hb hr)
  clear ha hb hr
  go_enter Try.func103, Try.ntmps103
  go_wp2_with fail
  refine (K.out _).mono ?_
  rintro e w1 ⟨rfl, hb⟩
  have HB := Lib.hid hb
  clear hb
  go_wp2
  go_ret
  exact ⟨rfl, ((Below.refl _ _).alloc (Nat.le_refl _) _).trans (HB.out.mono (by simp))⟩
theorem length_any (x y : Nat) (h : Fl.LenOk x y) (w : World) : Calls Try.prog 87 #[fxy x y] w fun e w' => e = .returned (.float .f64 (Fl.lenB x y)) ∧ Below w.heap.size w w' := by
  have K := Lib.hid (fun w => lengthSq_any x y _ _ _ h.1 h.2.1 h.2.2.1 w)
  have S := Lib.hid (fun w => sqrt_any _ _ h.2.2.2 w)
  clear h
  go_enter Try.func87, Try.ntmps87
  go_wp2_with fail
  refine (K.out _).mono ?_
  rintro e w1 ⟨rfl, hb⟩
  have HB := Lib.hid hb
  clear hb
  go_wp2_with fail
  refine (S.out _).mono ?_
  rintro e w1 ⟨rfl, rfl⟩
  go_wp2
  go_ret
  exact ⟨rfl, ((Below.refl _ _).alloc (Nat.le_refl _) _).trans (HB.out.mono (by simp))⟩
theorem distXYs_any (a b c d r s : Nat) (h1 : floatBits .sub .f64 a c = some r) (h2 : floatBits .sub .f64 b d = some s) (h : Fl.LenOk r s) (w : World) : Calls Try.prog 90 #[fxy a b, fxy c d] w fun e w' => e = .returned (.float .f64 (Fl.lenB r s)) ∧ Below w.heap.size w w' := by
  have K := Lib.hid (fun w => sub_any a b c d r s h1 h2 w)
  have S := Lib.hid (fun w => length_any r s h w)
  clear h1 h2 h
  go_enter Try.func90, Try.ntmps90
  go_wp2_with fail
  refine (K.out _).mono ?_
  rintro e w1 ⟨rfl, hb⟩
  have HB := Lib.hid hb
  clear hb
  go_wp2_with fail
  refine (S.out _).mono ?_
  rintro e w2 ⟨rfl, hb⟩
  have HB2 := Lib.hid hb
  clear hb
  go_wp2
  go_ret
  have l := HB.out.size
  simp at l
  exact ⟨rfl, (alloc2 ..).trans ((HB.out.mono (alloc2 ..).size).trans (HB2.out.mono (by omega)))⟩
end Go.Proofs.Ytiphlifnmmplaaa
