/- FnOnSegment: the walk. Conditions stand at each lemma. -/
import Derived.Test.YtiphlifnmmplaaaWj
import Derived.Test.YtiphlifnmmplaaaWk
import Derived.Laws.StructEq
namespace Go.Proofs.Ytiphlifnmmplaaa
open Go.RowKit
attribute [local irreducible] wpList
/-- The steps of intersectsXY are all valid. -/
structure SegOk (ax ay bx by' px py : Nat) : Prop where
  fx : Fl.finB px = true
  fy : Fl.finB py = true
  h1 : floatBits .sub .f64 px ax = some (Fl.fsub px ax)
  h2 : floatBits .sub .f64 by' ay = some (Fl.fsub by' ay)
  h3 : floatBits .mul .f64 (Fl.fsub px ax) (Fl.fsub by' ay) = some (Fl.fmul (Fl.fsub px ax) (Fl.fsub by' ay))
  h4 : floatBits .sub .f64 py ay = some (Fl.fsub py ay)
  h5 : floatBits .sub .f64 bx ax = some (Fl.fsub bx ax)
  h6 : floatBits .mul .f64 (Fl.fsub py ay) (Fl.fsub bx ax) = some (Fl.fmul (Fl.fsub py ay) (Fl.fsub bx ax))
def envHas (ax ay bx by' px py : Nat) : Bool := geB px (loB ax bx) && leB px (hiB ax bx) && geB py (loB ay by') && leB py (hiB ay by')
def crossEq (ax ay bx by' px py : Nat) : Bool := FloatKind.f64.format.order (Fl.fmul (Fl.fsub px ax) (Fl.fsub by' ay)) (Fl.fmul (Fl.fsub py ay) (Fl.fsub bx ax)) == some .eq
set_option maxHeartbeats 2000000 in
theorem intersectsXY_any (ax ay bx by' px py : Nat) (h : SegOk ax ay bx by' px py) (w : World) : Calls Try.prog 68 #[fline ax ay bx by', fxy px py] w fun e w' => e = .returned (.bool (envHas ax ay bx by' px py && crossEq ax ay bx by' px py)) ∧ Below w.heap.size w w' := by
  obtain ⟨fx, fy, h1, h2, h3, h4, h5, h6⟩ := h
  have g1 := fun w t => run_float_arith (P := Try.prog) w .sub t .f64 _ _ _ h1
  have g2 := fun w t => run_float_arith (P := Try.prog) w .sub t .f64 _ _ _ h2
  have g3 := fun w t => run_float_arith (P := Try.prog) w .mul t .f64 _ _ _ h3
  have g4 := fun w t => run_float_arith (P := Try.prog) w .sub t .f64 _ _ _ h4
  have g5 := fun w t => run_float_arith (P := Try.prog) w .sub t .f64 _ _ _ h5
  have g6 := fun w t => run_float_arith (P := Try.prog) w .mul t .f64 _ _ _ h6
  have ec : crossEq ax ay bx by' px py = (FloatKind.f64.format.order (Fl.fmul (Fl.fsub px ax) (Fl.fsub by' ay)) (Fl.fmul (Fl.fsub py ay) (Fl.fsub bx ax)) == some .eq) := rfl
  have kc : ∀ w, Calls Try.prog 83 #[fenv (loB ax bx) (loB ay by') (hiB ax bx) (hiB ay by'), fxy px py] w fun e w' => e = .returned (.bool (envHas ax ay bx by' px py)) ∧ Below w.heap.size w w' := fun w => contains_any (loB ax bx) (loB ay by') (hiB ax bx) (hiB ay by') px py fx fy w
  have k2 := fun (r : Bool) (hr : envHas ax ay bx by' px py = r) w => hr ▸ kc w
  cases hr : envHas ax ay bx by' px py
  · have K2 := Lib.hid (k2 _ hr)
    clear k2 kc hr h1 h2 h3 h4 h5 h6 fx fy g1 g2 g3 g4 g5 g6 ec
    rw [Bool.false_and]
    go_enter Try.func68, Try.ntmps68
    go_wp2_with fail
    refine (uncheckedEnv_any _ _ _ _ _).mono ?_
    rintro e w1 ⟨rfl, hb⟩
    have hz1 := hb.size
    simp at hz1
    have hlt0 : w.heap.size < w1.heap.size := by omega
    have hlt1 : w.heap.size + 1 < w1.heap.size := by omega
    clear hz1
    have c0 := fun i o v h => cell_later (a := ⟨w.heap.size + i, o, none⟩) (v := v) hb h
    have b0 := c0 1 0 (fl px) (by go_simp)
    have b1 := c0 1 1 (fl py) (by go_simp)
    have HB := Lib.hid hb
    clear hb c0
    go_wp2_with fail
    refine (K2.out _).mono ?_
    rintro e w2 ⟨rfl, hb⟩
    have HB2 := Lib.hid hb
    clear hb
    go_wp2
    go_ret
    have q1 := (alloc2 w (Obj.cells #[fl ax, fl ay, fl bx, fl by'] 115) (Obj.cells #[fl px, fl py] 80)).trans (HB.out.mono (alloc2 ..).size)
    have q2 := q1.alloc q1.size (Obj.cells #[fl (loB ax bx), fl (loB ay by'), fl (hiB ax bx), fl (hiB ay by'), .bool true] 91)
    exact ⟨rfl, q2.trans (HB2.out.mono q2.size)⟩
  · have K2 := Lib.hid (k2 _ hr)
    clear k2 kc hr h1 h2 h3 h4 h5 h6 fx fy
    rw [Bool.true_and, ec]
    go_enter Try.func68, Try.ntmps68
    go_wp2_with fail
    refine (uncheckedEnv_any _ _ _ _ _).mono ?_
    rintro e w1 ⟨rfl, hb⟩
    have hz1 := hb.size
    simp at hz1
    have hlt0 : w.heap.size < w1.heap.size := by omega
    have hlt1 : w.heap.size + 1 < w1.heap.size := by omega
    clear hz1
    have c0 := fun i o v h => cell_later (a := ⟨w.heap.size + i, o, none⟩) (v := v) hb h
    have a0 := c0 0 0 (fl ax) (by go_simp)
    have a1 := c0 0 1 (fl ay) (by go_simp)
    have a2 := c0 0 2 (fl bx) (by go_simp)
    have a3 := c0 0 3 (fl by') (by go_simp)
    have b0 := c0 1 0 (fl px) (by go_simp)
    have b1 := c0 1 1 (fl py) (by go_simp)
    rw [Nat.add_zero] at a0 a1 a2 a3
    have HB := Lib.hid hb
    clear hb c0
    go_wp2_with fail
    refine (K2.out _).mono ?_
    rintro e w2 ⟨rfl, hb⟩
    have d0 := cell_later hb (a := ⟨w.heap.size, 0, none⟩) (v := fl ax) (by go_simp)
    have d1 := cell_later hb (a := ⟨w.heap.size, 1, none⟩) (v := fl ay) (by go_simp)
    have d2 := cell_later hb (a := ⟨w.heap.size, 2, none⟩) (v := fl bx) (by go_simp)
    have d3 := cell_later hb (a := ⟨w.heap.size, 3, none⟩) (v := fl by') (by go_simp)
    have d4 := cell_later hb (a := ⟨w.heap.size + 1, 0, none⟩) (v := fl px) (by go_simp)
    have d5 := cell_later hb (a := ⟨w.heap.size + 1, 1, none⟩) (v := fl py) (by go_simp)
    have HB2 := Lib.hid hb
    clear hb a0 a1 a2 a3 b0 b1 ec
    go_wp2
    go_ret
    have q1 := (alloc2 w (Obj.cells #[fl ax, fl ay, fl bx, fl by'] 115) (Obj.cells #[fl px, fl py] 80)).trans (HB.out.mono (alloc2 ..).size)
    have q2 := q1.alloc q1.size (Obj.cells #[fl (loB ax bx), fl (loB ay by'), fl (hiB ax bx), fl (hiB ay by'), .bool true] 91)
    exact ⟨rfl, q2.trans (HB2.out.mono q2.size)⟩
theorem doorIntersects_any (ax ay bx by' px py : Nat) (h : SegOk ax ay bx by' px py) (w : World) : Calls Try.prog 51 #[fxy ax ay, fxy bx by', fxy px py] w fun e w' => e = .returned (.bool (envHas ax ay bx by' px py && crossEq ax ay bx by' px py)) ∧ Below w.heap.size w w' := by
  have H := Lib.hid h
  clear h
  go_enter Try.func51, Try.ntmps51
  go_wp2_with fail
  refine (intersectsXY_any _ _ _ _ _ _ H.out _).mono ?_
  rintro e w1 ⟨rfl, hb⟩
  have HB := Lib.hid hb
  clear hb
  go_wp2
  go_ret
  exact ⟨rfl, (alloc3 ..).trans (HB.out.mono (alloc3 ..).size)⟩
set_option maxHeartbeats 1000000 in
theorem implOnSegment_any (ax ay bx by' px py : Nat) (h : SegOk ax ay bx by' px py) (w : World) : Calls Try.prog 28 #[fxy ax ay, fxy bx by', fxy px py] w fun e w' => e = .returned (.bool (envHas ax ay bx by' px py && crossEq ax ay bx by' px py)) ∧ Below w.heap.size w w' := by
  have H := Lib.hid h
  clear h
  go_enter Try.func28, Try.ntmps28
  go_wp2
  refine Rh.region_below (by kernel_rfl) (by kernel_rfl) ?_
  repeat (refine Rh.qw_step (fun K hK => ?_); go_simp; first | (refine hK _ ?_; clear hK K) | (apply Exists.intro; refine ⟨fun _ => ?_, hK _ ?_⟩; (exact Calls.regrown_of (by first | with_reducible exact xy_any _ _ _ | with_reducible exact doorIntersects_any _ _ _ _ _ _ H.out _)); clear hK K))
  refine Rh.qw_nil ?_
  intro _ hw'
  obtain ⟨⟨dq, osq⟩, hw''⟩ := hw'
  subst hw''
  go_wp2
  go_ret
  exact ⟨rfl, (alloc3 ..).trans ((below_regrown _ dq osq).mono (alloc3 ..).size)⟩
theorem dPlaces_any (b o c : Nat) (ps : List (Int × Int)) (m : Int) (hm : 0 ≤ m) (hm2 : m ≤ 1048576) (w : World) (hl2 : ps.length ≤ 200) (hP : PtsAt w b o ps) :
   Calls Try.prog 27 #[.int .i64 m, .slice (some ⟨b, o, none⟩) ps.length c] w fun e w' => e = .returned (.bool (ps.all (ptIn m))) ∧ Below w.heap.size w w' := by
  have H2 := Lib.hid hP
  clear hP
  go_enter Try.func27, Try.ntmps27
  go_wp2_with (go_at_call 38; refine (formed_any _ _ _ _ _ hm hm2 _ (by omega) H2.out).mono ?_; rintro e w' ⟨rfl, hb⟩)
  go_ret
  exact ⟨rfl, hb⟩
end Go.Proofs.Ytiphlifnmmplaaa
