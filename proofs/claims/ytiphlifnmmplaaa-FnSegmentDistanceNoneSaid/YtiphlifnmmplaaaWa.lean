/- Contracts of the small functions: places, products, whole numbers, and the form of a line. Their conditions stand at each. -/
import Derived.Test.YtiphlifnmmplaaaChecked
import Derived.WalkKit
import Derived.WalkLawsBesides
import Derived.WalkSpells
import Derived.Deep.QuietTactic
import Derived.BigQuiet
import Derived.Deep.RegionHeld3
import Derived.Lib.QuietBelow
import Derived.Lib.Hide
import Derived.Below
import Derived.Outline
import Derived.KernelRfl
import Derived.Laws.Externs
import Derived.Test.YtiphlifnmmplaaaFl
namespace Go.Proofs.Ytiphlifnmmplaaa
open Go.RowKit
@[go_sem] theorem run_store_float {P : Program} (w : World) (a : Addr) (m : Mode) (k : FloatKind) (b : Nat) : (store a (.float k b) m).run P w = stored P w a (.float k b) m := run_store P w a _ m rfl
theorem bcell {W w1 : World} (hb : Below W.heap.size W w1) : (∀ b o, b < W.heap.size → w1.cell? ⟨b, o, none⟩ = W.cell? ⟨b, o, none⟩) ∧ (∀ b o, b < W.heap.size → w1.frozen? ⟨b, o, none⟩ = W.frozen? ⟨b, o, none⟩) :=
  ⟨fun b o h => hb.cell (p := ⟨b, o, none⟩) h, fun b o h => hb.frozen (p := ⟨b, o, none⟩) h⟩
open Go.Sort in
@[go_sem] theorem cell_grow (w : World) (d : Nat) (os : Array Obj) (b o : Nat) (h : b < w.heap.size) : (grow (redrawn w d) os).cell? ⟨b, o, none⟩ = w.cell? ⟨b, o, none⟩ := (below_regrown w d os).cell (p := ⟨b, o, none⟩) h
/-- A place of floats, a place of whole numbers. -/
abbrev fxy (x y : Nat) : Value := .agg #[.float .f64 x, .float .f64 y]
abbrev ixy (x y : Int) : Value := .agg #[.int .i64 x, .int .i64 y]
/-- It returns v, and nothing that was there has turned. -/
def Ret (v : Value) (w : World) (e : Ending) (w' : World) : Prop := e = .returned v ∧ Below w.heap.size w w'

theorem xy_any (x y : Nat) (w : World) : Calls Try.prog 40 #[.agg #[.float .f64 x, .float .f64 y]] w fun e w' => e = .returned (.agg #[.float .f64 x, .float .f64 y]) ∧ Below w.heap.size w w' := by
  go_enter Try.func40, Try.ntmps40
  go_wp2
  exact bodyPost_ret (v := .agg #[.float .f64 x, .float .f64 y]) (by simp [results, Try.results40, go_sem]) rfl ⟨rfl, ((Below.refl _ _).alloc (Nat.le_refl _) _).alloc (by simp) _⟩
theorem lawxy_any (x y : Int) (w : World) : Calls Try.prog 14 #[.agg #[.int .i64 x, .int .i64 y]] w fun e w' => e = .returned (.agg #[.float .f64 (Fl.fint x), .float .f64 (Fl.fint y)]) ∧ Below w.heap.size w w' := by
  go_enter Try.func14, Try.ntmps14
  go_wp2
  exact bodyPost_ret (v := .agg #[.float .f64 (Fl.fint x), .float .f64 (Fl.fint y)]) (by simp [results, Try.results14, go_sem, Fl.fint]) rfl ⟨rfl, ((Below.refl _ _).alloc (Nat.le_refl _) _).alloc (by simp) _⟩

/-- Twice the signed area, as the program reckons it. -/
def triB (ax ay bx ay2 cx cy : Nat) : Nat := Fl.fsub (Fl.fmul (Fl.fsub bx ax) (Fl.fsub cy ay)) (Fl.fmul (Fl.fsub cx ax) (Fl.fsub ay2 ay))
/-- Its steps are all valid. -/
structure TriOk (ax ay bx by' cx cy : Nat) : Prop where
  h1 : floatBits .sub .f64 bx ax = some (Fl.fsub bx ax)
  h2 : floatBits .sub .f64 cy ay = some (Fl.fsub cy ay)
  h3 : floatBits .mul .f64 (Fl.fsub bx ax) (Fl.fsub cy ay) = some (Fl.fmul (Fl.fsub bx ax) (Fl.fsub cy ay))
  h4 : floatBits .sub .f64 cx ax = some (Fl.fsub cx ax)
  h5 : floatBits .sub .f64 by' ay = some (Fl.fsub by' ay)
  h6 : floatBits .mul .f64 (Fl.fsub cx ax) (Fl.fsub by' ay) = some (Fl.fmul (Fl.fsub cx ax) (Fl.fsub by' ay))
  h7 : floatBits .sub .f64 (Fl.fmul (Fl.fsub bx ax) (Fl.fsub cy ay)) (Fl.fmul (Fl.fsub cx ax) (Fl.fsub by' ay)) = some (triB ax ay bx by' cx cy)

theorem tri2_any (ax ay bx by' cx cy : Nat) (w : World) (h : TriOk ax ay bx by' cx cy) : Calls Try.prog 59 #[fxy ax ay, fxy bx by', fxy cx cy] w fun e w' => e = .returned (.float .f64 (triB ax ay bx by' cx cy)) ∧ Below w.heap.size w w' := by
  obtain ⟨h1, h2, h3, h4, h5, h6, h7⟩ := h
  have g1 := fun w t => run_float_arith (P := Try.prog) w .sub t .f64 _ _ _ h1
  have g2 := fun w t => run_float_arith (P := Try.prog) w .sub t .f64 _ _ _ h2
  have g3 := fun w t => run_float_arith (P := Try.prog) w .mul t .f64 _ _ _ h3
  have g4 := fun w t => run_float_arith (P := Try.prog) w .sub t .f64 _ _ _ h4
  have g5 := fun w t => run_float_arith (P := Try.prog) w .sub t .f64 _ _ _ h5
  have g6 := fun w t => run_float_arith (P := Try.prog) w .mul t .f64 _ _ _ h6
  have g7 := fun w t => run_float_arith (P := Try.prog) w .sub t .f64 _ _ _ h7
  clear h1 h2 h3 h4 h5 h6 h7
  go_enter Try.func59, Try.ntmps59
  go_wp2
  go_ret
  exact ⟨rfl, (((Below.refl _ _).alloc (Nat.le_refl _) _).alloc (by simp) _).alloc (by simp; omega) _⟩

theorem doortri_any (ax ay bx by' cx cy : Nat) (w : World) (h : TriOk ax ay bx by' cx cy) : Calls Try.prog 39 #[fxy ax ay, fxy bx by', fxy cx cy] w fun e w' => e = .returned (.float .f64 (triB ax ay bx by' cx cy)) ∧ Below w.heap.size w w' := by
  have H := Lib.hid h
  clear h
  go_enter Try.func39, Try.ntmps39
  go_wp2_with (go_at_call 59; refine (tri2_any _ _ _ _ _ _ _ H.out).mono ?_; rintro e w' ⟨rfl, hb⟩)
  go_ret
  exact ⟨rfl, ((((Below.refl _ _).alloc (Nat.le_refl _) _).alloc (by simp) _).alloc (by simp; omega) _).trans (hb.mono (by simp; omega))⟩

set_option maxHeartbeats 1000000 in
theorem impltri_any (ax ay bx by' cx cy : Nat) (w : World) (h : TriOk ax ay bx by' cx cy) : Calls Try.prog 13 #[fxy ax ay, fxy bx by', fxy cx cy] w fun e w' => e = .returned (.float .f64 (triB ax ay bx by' cx cy)) ∧ Below w.heap.size w w' := by
  have H := Lib.hid h
  clear h
  go_enter Try.func13, Try.ntmps13
  go_wp2
  refine wp_region_quiet_below (by kernel_rfl) (by kernel_rfl) ?_
  repeat (quiet_step (exact Calls.regrown_of (by first | exact xy_any _ _ _ | exact doortri_any _ _ _ _ _ _ _ H.out)))
  refine wpQuiet_nil ?_
  intro _ hw'
  obtain ⟨⟨dq, osq⟩, hw''⟩ := hw'
  subst hw''
  go_wp2
  go_ret
  exact ⟨rfl, ((((Below.refl _ _).alloc (Nat.le_refl _) _).alloc (by simp) _).alloc (by simp; omega) _).trans ((below_regrown _ dq osq).mono (by simp; omega))⟩

theorem mul_bd {x y m : Int} (h1 : -m ≤ x) (h2 : x ≤ m) (h3 : -m ≤ y) (h4 : y ≤ m) : -(m * m) ≤ x * y ∧ x * y ≤ m * m := by
  have hm : 0 ≤ m := by omega
  have hx : x.natAbs ≤ m.natAbs := by omega
  have hy : y.natAbs ≤ m.natAbs := by omega
  have h5 : (x * y).natAbs ≤ m.natAbs * m.natAbs := by rw [Int.natAbs_mul]; exact Nat.mul_le_mul hx hy
  have h6 : ((m.natAbs * m.natAbs : Nat) : Int) = m * m := by push_cast; rw [Int.natAbs_of_nonneg hm]
  generalize m * m = q at *
  generalize x * y = p at *
  omega

theorem turn_any (ax ay bx by' cx cy : Int) (w : World) (h1 : -1048576 ≤ ax ∧ ax ≤ 1048576) (h2 : -1048576 ≤ ay ∧ ay ≤ 1048576) (h3 : -1048576 ≤ bx ∧ bx ≤ 1048576) (h4 : -1048576 ≤ by' ∧ by' ≤ 1048576) (h5 : -1048576 ≤ cx ∧ cx ≤ 1048576) (h6 : -1048576 ≤ cy ∧ cy ≤ 1048576) :
    Calls Try.prog 15 #[ixy ax ay, ixy bx by', ixy cx cy] w fun e w' => e = .returned (.int .i64 ((bx - ax) * (cy - ay) - (by' - ay) * (cx - ax))) ∧ Below w.heap.size w w' := by
  have b1 := mul_bd (x := bx - ax) (y := cy - ay) (m := 2097152) (by omega) (by omega) (by omega) (by omega)
  have b2 := mul_bd (x := by' - ay) (y := cx - ax) (m := 2097152) (by omega) (by omega) (by omega) (by omega)
  obtain ⟨a1, a2⟩ := h1
  obtain ⟨a3, a4⟩ := h2
  obtain ⟨a5, a6⟩ := h3
  obtain ⟨a7, a8⟩ := h4
  obtain ⟨a9, a10⟩ := h5
  obtain ⟨a11, a12⟩ := h6
  obtain ⟨c1, c2⟩ := b1
  obtain ⟨c3, c4⟩ := b2
  go_enter Try.func15, Try.ntmps15
  go_wp2
  go_ret
  exact ⟨rfl, (((Below.refl _ _).alloc (Nat.le_refl _) _).alloc (by simp) _).alloc (by simp; omega) _⟩
end Go.Proofs.Ytiphlifnmmplaaa
