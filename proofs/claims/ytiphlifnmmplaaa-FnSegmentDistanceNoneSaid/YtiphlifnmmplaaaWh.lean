/- Whether numbers are finite: the contracts of math.IsNaN, Abs, IsInf and of gFinite, eFinite. Conditions stand at each lemma. -/
import Derived.Test.YtiphlifnmmplaaaWg
import Derived.Test.YtiphlifnmmplaaaFn
import Derived.Laws.BitsAllLaws
namespace Go.Proofs.Ytiphlifnmmplaaa
open Go.RowKit
theorem bits64_ext (x : Nat) (w : World) : (callFunc 93 #[.float .f64 x]).run Try.prog w = .ok (.value (.int .u64 x)) w :=
  (run_callFunc_extern (e := Extern.MathFloatBits.float64bits) Try.func93 (by kernel_rfl) (by kernel_rfl) (by kernel_rfl) (by kernel_rfl) _ w).trans rfl
theorem frombits64_ext (x : Int) (w : World) : (callFunc 94 #[.int .u64 x]).run Try.prog w = .ok (.value (.float .f64 x.toNat)) w :=
  (run_callFunc_extern (e := Extern.MathFloatBits.float64frombits) Try.func94 (by kernel_rfl) (by kernel_rfl) (by kernel_rfl) (by kernel_rfl) _ w).trans rfl
theorem andNot_sign (x : Nat) : (bits .andNot .u64 (x : Int) 9223372036854775808).toNat = Fl.absB x := by
  have e : bits .andNot .u64 (x : Int) 9223372036854775808 = bits .andNot .u64 ((x % 18446744073709551616 : Nat) : Int) ((9223372036854775808 : Nat) : Int) := by
    have e1 : BitVec.ofInt 64 (x : Int) = BitVec.ofInt 64 ((x % 18446744073709551616 : Nat) : Int) := by
      apply BitVec.eq_of_toNat_eq
      simp; omega
    unfold bits
    simp only [IntKind.bits, e1]
    rfl
  rw [e, u64_andNot_nat _ _ (Nat.mod_lt _ (by omega)) (by omega)]
  have e2 : 18446744073709551615 - 9223372036854775808 = 2 ^ 63 - 1 := by decide
  rw [e2, Nat.and_two_pow_sub_one_eq_mod]
  unfold Fl.absB
  simp only [Int.toNat_natCast]
  omega
theorem abs_any (x : Nat) (w : World) : Calls Try.prog 78 #[.float .f64 x] w fun e w' => e = .returned (.float .f64 (Fl.absB x)) ∧ w = w' := by
  have h1 := bits64_ext x
  have h2 := frombits64_ext
  have h3 := andNot_sign x
  go_enter Try.func78, Try.ntmps78
  go_wp2
  go_ret
  exact ⟨rfl, rfl⟩
theorem isNaN_any (x : Nat) (b : Bool) (hb : (Ieee.double.read x).isNaN = b) (w : World) : Calls Try.prog 63 #[.float .f64 x] w fun e w' => e = .returned (.bool b) ∧ w = w' := by
  have h1 : (FloatKind.f64.format.order x x != some .eq) = b := (Fl.order_self (x := x)).trans hb
  clear hb
  go_enter Try.func63, Try.ntmps63
  go_wp2
  go_ret
  exact ⟨rfl, rfl⟩
theorem isInf_any (x : Nat) (b : Bool) (hb : (FloatKind.f64.format.order (Fl.absB x) 9218868437227405311 == some .gt) = b) (w : World) : Calls Try.prog 64 #[.float .f64 x, .int .i64 0] w fun e w' => e = .returned (.bool b) ∧ w = w' := by
  go_enter Try.func64, Try.ntmps64
  go_wp2_with (go_at_call 78; refine (abs_any x _).mono ?_; rintro e w' ⟨rfl, rfl⟩)
  go_ret
  exact ⟨rfl, rfl⟩
theorem gFinite_any (x : Nat) (w : World) : Calls Try.prog 44 #[.float .f64 x] w fun e w' => e = .returned (.bool (Fl.finB x)) ∧ w = w' := by
  cases hn : (Ieee.double.read x).isNaN
  · have hi := Fl.abs_gt_max hn
    cases hf : Fl.finB x
    all_goals
      rw [hf] at hi
      have k1 := Lib.hid (isNaN_any x _ hn)
      have k2 := Lib.hid (isInf_any x _ hi)
      clear hi hn hf
      go_enter Try.func44, Try.ntmps44
      go_wp2_with fail
      refine (k1.out _).mono ?_
      rintro e w' ⟨rfl, rfl⟩
      go_wp2_with fail
      refine (k2.out _).mono ?_
      rintro e w' ⟨rfl, rfl⟩
      go_wp2
      go_ret
      exact ⟨rfl, rfl⟩
  · have hf : Fl.finB x = false := by
      unfold Fl.finB
      cases hd : Ieee.double.read x with
      | number s m p => rw [hd] at hn; cases hn
      | infinity s => rfl
      | nan s t => rfl
    rw [hf]
    have k1 := Lib.hid (isNaN_any x _ hn)
    clear hn hf
    go_enter Try.func44, Try.ntmps44
    go_wp2_with fail
    refine (k1.out _).mono ?_
    rintro e w' ⟨rfl, rfl⟩
    go_wp2
    go_ret
    exact ⟨rfl, rfl⟩
set_option maxHeartbeats 1000000 in
theorem eFinite_any (a b c d : Nat) (w : World) : Calls Try.prog 20 #[fbox a b c d] w fun e w' => e = .returned (.bool (Fl.finB a && Fl.finB b && Fl.finB c && Fl.finB d)) ∧ Below w.heap.size w w' := by
  have ka := fun (t : Bool) (h : Fl.finB a = t) w => h ▸ gFinite_any a w
  have kb := fun (t : Bool) (h : Fl.finB b = t) w => h ▸ gFinite_any b w
  have kc := fun (t : Bool) (h : Fl.finB c = t) w => h ▸ gFinite_any c w
  have kd := fun (t : Bool) (h : Fl.finB d = t) w => h ▸ gFinite_any d w
  cases h1 : Fl.finB a
  · have k1 := Lib.hid (ka _ h1)
    clear ka kb kc kd h1
    go_enter Try.func20, Try.ntmps20
    go_wp2_with fail
    refine (k1.out _).mono ?_
    rintro e w' ⟨rfl, rfl⟩
    go_wp2
    go_ret
    exact ⟨rfl, (Below.refl _ _).alloc (Nat.le_refl _) _⟩
  · cases h2 : Fl.finB b
    · have k1 := Lib.hid (ka _ h1)
      have k2 := Lib.hid (kb _ h2)
      clear ka kb kc kd h1 h2
      go_enter Try.func20, Try.ntmps20
      go_wp2_with fail
      refine (k1.out _).mono ?_
      rintro e w' ⟨rfl, rfl⟩
      go_wp2_with fail
      refine (k2.out _).mono ?_
      rintro e w' ⟨rfl, rfl⟩
      go_wp2
      go_ret
      exact ⟨rfl, (Below.refl _ _).alloc (Nat.le_refl _) _⟩
    · cases h3 : Fl.finB c
      · have k1 := Lib.hid (ka _ h1)
        have k2 := Lib.hid (kb _ h2)
        have k3 := Lib.hid (kc _ h3)
        clear ka kb kc kd h1 h2 h3
        go_enter Try.func20, Try.ntmps20
        go_wp2_with fail
        refine (k1.out _).mono ?_
        rintro e w' ⟨rfl, rfl⟩
        go_wp2_with fail
        refine (k2.out _).mono ?_
        rintro e w' ⟨rfl, rfl⟩
        go_wp2_with fail
        refine (k3.out _).mono ?_
        rintro e w' ⟨rfl, rfl⟩
        go_wp2
        go_ret
        exact ⟨rfl, (Below.refl _ _).alloc (Nat.le_refl _) _⟩
      · have k1 := Lib.hid (ka _ h1)
        have k2 := Lib.hid (kb _ h2)
        have k3 := Lib.hid (kc _ h3)
        have k4 := Lib.hid (kd _ rfl)
        clear ka kb kc kd h1 h2 h3
        go_enter Try.func20, Try.ntmps20
        go_wp2_with fail
        refine (k1.out _).mono ?_
        rintro e w' ⟨rfl, rfl⟩
        go_wp2_with fail
        refine (k2.out _).mono ?_
        rintro e w' ⟨rfl, rfl⟩
        go_wp2_with fail
        refine (k3.out _).mono ?_
        rintro e w' ⟨rfl, rfl⟩
        go_wp2_with fail
        refine (k4.out _).mono ?_
        rintro e w' ⟨rfl, rfl⟩
        go_wp2
        go_ret
        exact ⟨rfl, (Below.refl _ _).alloc (Nat.le_refl _) _⟩
end Go.Proofs.Ytiphlifnmmplaaa
