/- The distance between a place and a segment: the contract of distBetweenXYAndLine, and of its doors. Conditions stand at each lemma. -/
import Derived.Test.YtiphlifnmmplaaaXa
import Derived.Test.YtiphlifnmmplaaaRh
namespace Go.Proofs.Ytiphlifnmmplaaa
open Go.RowKit
theorem alloc1' (w : World) (o1 : Obj) : Below w.heap.size w (w.alloc o1) := (Below.refl w.heap.size w).alloc (Nat.le_refl _) o1
/-- What the walk to the foot calls, ahead of its choice. -/
structure Head (ax ay bx by' px py dx dy L p : Nat) : Prop where
  k1 : ∀ w, Calls Try.prog 86 #[fxy bx by', fxy ax ay] w fun e w' => e = .returned (fxy dx dy) ∧ Below w.heap.size w w'
  k2 : ∀ w, Calls Try.prog 87 #[fxy dx dy] w fun e w' => e = .returned (.float .f64 L) ∧ Below w.heap.size w w'
  k3 : ∃ ux uy d, (∀ w, Calls Try.prog 86 #[fxy px py, fxy ax ay] w fun e w' => e = .returned (fxy ux uy) ∧ Below w.heap.size w w') ∧
    (∀ w, Calls Try.prog 42 #[fxy ux uy, fxy dx dy] w fun e w' => e = .returned (.float .f64 d) ∧ Below w.heap.size w w') ∧ floatBits .quo .f64 d L = some p

set_option maxHeartbeats 2000000 in
theorem foot_first (ax ay bx by' px py dx dy L p out : Nat) (H : Head ax ay bx by' px py dx dy L p) (hA : (FloatKind.f64.format.order p 0 == some .lt) = true) (k5 : ∀ w, Calls Try.prog 90 #[fxy px py, fxy ax ay] w fun e w' => e = .returned (.float .f64 out) ∧ Below w.heap.size w w') (w : World) :
    Calls Try.prog 71 #[fxy px py, fline ax ay bx by'] w fun e w' => e = .returned (.float .f64 out) ∧ Below w.heap.size w w' := by
  obtain ⟨k1, k2, ux, uy, d, k3, k4, hq⟩ := H
  have q1 := fun w t => run_float_arith (P := Try.prog) w .quo t .f64 _ _ _ hq
  have K1 := Lib.hid k1
  have K2 := Lib.hid k2
  have K3 := Lib.hid k3
  have K4 := Lib.hid k4
  have K5 := Lib.hid k5
  clear k5
  clear k1 k2 k3 k4 hq
  go_enter Try.func71, Try.ntmps71
  go_wp2_with fail
  refine (K1.out _).mono ?_
  rintro e w1 ⟨rfl, hb⟩
  have c0 := fun o v h => cell_later (a := ⟨w.heap.size, o, none⟩) (v := v) hb h
  have c1 := fun o v h => cell_later (a := ⟨w.heap.size + 1, o, none⟩) (v := v) hb h
  have a0 := c0 0 (.float .f64 px) (by go_simp)
  have a1 := c0 1 (.float .f64 py) (by go_simp)
  have b0 := c1 0 (.float .f64 ax) (by go_simp)
  have b1 := c1 1 (.float .f64 ay) (by go_simp)
  have b2 := c1 2 (.float .f64 bx) (by go_simp)
  have b3 := c1 3 (.float .f64 by') (by go_simp)
  have l1 := hb.size
  simp at l1
  have HB1 := Lib.hid hb
  clear hb c0 c1
  go_wp2_with fail
  refine (K2.out _).mono ?_
  rintro e w2 ⟨rfl, hb⟩
  have hb1 := ((Below.refl w1.heap.size w1).alloc (Nat.le_refl _) (Obj.cells #[Value.float .f64 dx, Value.float .f64 dy] 80)).trans (hb.mono (by simp))
  have a0' := cell_later hb1 a0
  have a1' := cell_later hb1 a1
  have b0' := cell_later hb1 b0
  have b1' := cell_later hb1 b1
  have b2' := cell_later hb1 b2
  have b3' := cell_later hb1 b3
  have d0' := cell_later (a := ⟨w1.heap.size, 0, none⟩) (v := .float .f64 dx) hb (by go_simp)
  have d1' := cell_later (a := ⟨w1.heap.size, 1, none⟩) (v := .float .f64 dy) hb (by go_simp)
  have l2 := hb.size
  simp at l2
  have HB2 := Lib.hid hb
  clear hb hb1 a0 a1 b0 b1 b2 b3
  have r0 := cell_regrown a0'
  have r1 := cell_regrown a1'
  have r2 := cell_regrown b0'
  have r3 := cell_regrown b1'
  have r4 := cell_regrown d0'
  have r5 := cell_regrown d1'
  have r6 := cell_regrown b2'
  have r7 := cell_regrown b3'
  go_wp2
  refine Rh.region_below (by kernel_rfl) (by kernel_rfl) ?_
  repeat (refine Rh.qw_step (fun K hK => ?_); go_simp; first | (refine hK _ ?_; clear hK K) | (apply Exists.intro; refine ⟨fun _ => ?_, hK _ ?_⟩; (exact Calls.regrown_of (by first | with_reducible exact K3.out _ | with_reducible exact K4.out _)); clear hK K))
  refine Rh.qw_nil ?_
  intro W3 hw'
  obtain ⟨⟨dq, osq⟩, hw''⟩ := hw'
  have hb3 : Below w2.heap.size w2 W3 := by rw [hw'']; exact below_regrown w2 dq osq
  clear hw'' dq osq r0 r1 r2 r3 r4 r5 r6 r7
  have l3 := hb3.size
  have a1 := fun o1 => alloc1' W3 o1
  have u0 := fun o1 => cell_later (a1 o1) (cell_later hb3 a0')
  have u1 := fun o1 => cell_later (a1 o1) (cell_later hb3 a1')
  have u2 := fun o1 => cell_later (a1 o1) (cell_later hb3 b0')
  have u3 := fun o1 => cell_later (a1 o1) (cell_later hb3 b1')
  have u4 := fun o1 => cell_later (a1 o1) (cell_later hb3 b2')
  have u5 := fun o1 => cell_later (a1 o1) (cell_later hb3 b3')
  have u6 := fun o1 => cell_later (a1 o1) (cell_later hb3 d0')
  have u7 := fun o1 => cell_later (a1 o1) (cell_later hb3 d1')
  clear a1
  have HB3 := Lib.hid hb3
  clear hb3 a0' a1' b0' b1' b2' b3' d0' d1'
  go_wp2_with fail
  refine (K5.out _).mono ?_
  rintro e w4 ⟨rfl, hb4⟩
  have HB4 := Lib.hid hb4
  clear hb4
  go_wp2
  go_ret
  have B1 : Below w.heap.size w w1 := (alloc2 ..).trans (HB1.out.mono (alloc2 ..).size)
  have B2 : Below w.heap.size w w2 := B1.trans (((alloc1' w1 _).trans (HB2.out.mono (by simp))).mono (by omega))
  have B3 : Below w.heap.size w W3 := B2.trans (HB3.out.mono (by omega))
  exact ⟨rfl, B3.trans (((alloc1' W3 _).trans (HB4.out.mono (by simp))).mono (by omega))⟩

set_option maxHeartbeats 2000000 in
theorem foot_last (ax ay bx by' px py dx dy L p out : Nat) (H : Head ax ay bx by' px py dx dy L p) (hA : (FloatKind.f64.format.order p 0 == some .lt) = false) (hB : (FloatKind.f64.format.order p L == some .gt) = true) (k5 : ∀ w, Calls Try.prog 90 #[fxy px py, fxy bx by'] w fun e w' => e = .returned (.float .f64 out) ∧ Below w.heap.size w w') (w : World) :
    Calls Try.prog 71 #[fxy px py, fline ax ay bx by'] w fun e w' => e = .returned (.float .f64 out) ∧ Below w.heap.size w w' := by
  obtain ⟨k1, k2, ux, uy, d, k3, k4, hq⟩ := H
  have q1 := fun w t => run_float_arith (P := Try.prog) w .quo t .f64 _ _ _ hq
  have K1 := Lib.hid k1
  have K2 := Lib.hid k2
  have K3 := Lib.hid k3
  have K4 := Lib.hid k4
  have K5 := Lib.hid k5
  clear k5
  clear k1 k2 k3 k4 hq
  go_enter Try.func71, Try.ntmps71
  go_wp2_with fail
  refine (K1.out _).mono ?_
  rintro e w1 ⟨rfl, hb⟩
  have c0 := fun o v h => cell_later (a := ⟨w.heap.size, o, none⟩) (v := v) hb h
  have c1 := fun o v h => cell_later (a := ⟨w.heap.size + 1, o, none⟩) (v := v) hb h
  have a0 := c0 0 (.float .f64 px) (by go_simp)
  have a1 := c0 1 (.float .f64 py) (by go_simp)
  have b0 := c1 0 (.float .f64 ax) (by go_simp)
  have b1 := c1 1 (.float .f64 ay) (by go_simp)
  have b2 := c1 2 (.float .f64 bx) (by go_simp)
  have b3 := c1 3 (.float .f64 by') (by go_simp)
  have l1 := hb.size
  simp at l1
  have HB1 := Lib.hid hb
  clear hb c0 c1
  go_wp2_with fail
  refine (K2.out _).mono ?_
  rintro e w2 ⟨rfl, hb⟩
  have hb1 := ((Below.refl w1.heap.size w1).alloc (Nat.le_refl _) (Obj.cells #[Value.float .f64 dx, Value.float .f64 dy] 80)).trans (hb.mono (by simp))
  have a0' := cell_later hb1 a0
  have a1' := cell_later hb1 a1
  have b0' := cell_later hb1 b0
  have b1' := cell_later hb1 b1
  have b2' := cell_later hb1 b2
  have b3' := cell_later hb1 b3
  have d0' := cell_later (a := ⟨w1.heap.size, 0, none⟩) (v := .float .f64 dx) hb (by go_simp)
  have d1' := cell_later (a := ⟨w1.heap.size, 1, none⟩) (v := .float .f64 dy) hb (by go_simp)
  have l2 := hb.size
  simp at l2
  have HB2 := Lib.hid hb
  clear hb hb1 a0 a1 b0 b1 b2 b3
  have r0 := cell_regrown a0'
  have r1 := cell_regrown a1'
  have r2 := cell_regrown b0'
  have r3 := cell_regrown b1'
  have r4 := cell_regrown d0'
  have r5 := cell_regrown d1'
  have r6 := cell_regrown b2'
  have r7 := cell_regrown b3'
  go_wp2
  refine Rh.region_below (by kernel_rfl) (by kernel_rfl) ?_
  repeat (refine Rh.qw_step (fun K hK => ?_); go_simp; first | (refine hK _ ?_; clear hK K) | (apply Exists.intro; refine ⟨fun _ => ?_, hK _ ?_⟩; (exact Calls.regrown_of (by first | with_reducible exact K3.out _ | with_reducible exact K4.out _)); clear hK K))
  refine Rh.qw_nil ?_
  intro W3 hw'
  obtain ⟨⟨dq, osq⟩, hw''⟩ := hw'
  have hb3 : Below w2.heap.size w2 W3 := by rw [hw'']; exact below_regrown w2 dq osq
  clear hw'' dq osq r0 r1 r2 r3 r4 r5 r6 r7
  have l3 := hb3.size
  have a1 := fun o1 => alloc1' W3 o1
  have u0 := fun o1 => cell_later (a1 o1) (cell_later hb3 a0')
  have u1 := fun o1 => cell_later (a1 o1) (cell_later hb3 a1')
  have u2 := fun o1 => cell_later (a1 o1) (cell_later hb3 b0')
  have u3 := fun o1 => cell_later (a1 o1) (cell_later hb3 b1')
  have u4 := fun o1 => cell_later (a1 o1) (cell_later hb3 b2')
  have u5 := fun o1 => cell_later (a1 o1) (cell_later hb3 b3')
  have u6 := fun o1 => cell_later (a1 o1) (cell_later hb3 d0')
  have u7 := fun o1 => cell_later (a1 o1) (cell_later hb3 d1')
  clear a1
  have HB3 := Lib.hid hb3
  clear hb3 a0' a1' b0' b1' b2' b3' d0' d1'
  go_wp2_with fail
  refine (K5.out _).mono ?_
  rintro e w4 ⟨rfl, hb4⟩
  have HB4 := Lib.hid hb4
  clear hb4
  go_wp2
  go_ret
  have B1 : Below w.heap.size w w1 := (alloc2 ..).trans (HB1.out.mono (alloc2 ..).size)
  have B2 : Below w.heap.size w w2 := B1.trans (((alloc1' w1 _).trans (HB2.out.mono (by simp))).mono (by omega))
  have B3 : Below w.heap.size w W3 := B2.trans (HB3.out.mono (by omega))
  exact ⟨rfl, B3.trans (((alloc1' W3 _).trans (HB4.out.mono (by simp))).mono (by omega))⟩

set_option maxHeartbeats 2000000 in
theorem foot_mid (ax ay bx by' px py dx dy L p cx cy out : Nat) (H : Head ax ay bx by' px py dx dy L p) (r sx sy : Nat) (hA : (FloatKind.f64.format.order p 0 == some .lt) = false) (hB : (FloatKind.f64.format.order p L == some .gt) = false) (hr : floatBits .quo .f64 p L = some r)
    (k6 : ∀ w, Calls Try.prog 88 #[fxy dx dy, .float .f64 r] w fun e w' => e = .returned (fxy sx sy) ∧ Below w.heap.size w w') (k7 : ∀ w, Calls Try.prog 89 #[fxy sx sy, fxy ax ay] w fun e w' => e = .returned (fxy cx cy) ∧ Below w.heap.size w w')
    (k5 : ∀ w, Calls Try.prog 90 #[fxy px py, fxy cx cy] w fun e w' => e = .returned (.float .f64 out) ∧ Below w.heap.size w w') (w : World) :
    Calls Try.prog 71 #[fxy px py, fline ax ay bx by'] w fun e w' => e = .returned (.float .f64 out) ∧ Below w.heap.size w w' := by
  obtain ⟨k1, k2, ux, uy, d, k3, k4, hq⟩ := H
  have q1 := fun w t => run_float_arith (P := Try.prog) w .quo t .f64 _ _ _ hq
  have K1 := Lib.hid k1
  have K2 := Lib.hid k2
  have K3 := Lib.hid k3
  have K4 := Lib.hid k4
  have K5 := Lib.hid k5
  have K6 := Lib.hid k6
  have K7 := Lib.hid k7
  have q2 := fun w t => run_float_arith (P := Try.prog) w .quo t .f64 _ _ _ hr
  clear k5 k6 k7 hr
  clear k1 k2 k3 k4 hq
  go_enter Try.func71, Try.ntmps71
  go_wp2_with fail
  refine (K1.out _).mono ?_
  rintro e w1 ⟨rfl, hb⟩
  have c0 := fun o v h => cell_later (a := ⟨w.heap.size, o, none⟩) (v := v) hb h
  have c1 := fun o v h => cell_later (a := ⟨w.heap.size + 1, o, none⟩) (v := v) hb h
  have a0 := c0 0 (.float .f64 px) (by go_simp)
  have a1 := c0 1 (.float .f64 py) (by go_simp)
  have b0 := c1 0 (.float .f64 ax) (by go_simp)
  have b1 := c1 1 (.float .f64 ay) (by go_simp)
  have b2 := c1 2 (.float .f64 bx) (by go_simp)
  have b3 := c1 3 (.float .f64 by') (by go_simp)
  have l1 := hb.size
  simp at l1
  have HB1 := Lib.hid hb
  clear hb c0 c1
  go_wp2_with fail
  refine (K2.out _).mono ?_
  rintro e w2 ⟨rfl, hb⟩
  have hb1 := ((Below.refl w1.heap.size w1).alloc (Nat.le_refl _) (Obj.cells #[Value.float .f64 dx, Value.float .f64 dy] 80)).trans (hb.mono (by simp))
  have a0' := cell_later hb1 a0
  have a1' := cell_later hb1 a1
  have b0' := cell_later hb1 b0
  have b1' := cell_later hb1 b1
  have b2' := cell_later hb1 b2
  have b3' := cell_later hb1 b3
  have d0' := cell_later (a := ⟨w1.heap.size, 0, none⟩) (v := .float .f64 dx) hb (by go_simp)
  have d1' := cell_later (a := ⟨w1.heap.size, 1, none⟩) (v := .float .f64 dy) hb (by go_simp)
  have l2 := hb.size
  simp at l2
  have HB2 := Lib.hid hb
  clear hb hb1 a0 a1 b0 b1 b2 b3
  have r0 := cell_regrown a0'
  have r1 := cell_regrown a1'
  have r2 := cell_regrown b0'
  have r3 := cell_regrown b1'
  have r4 := cell_regrown d0'
  have r5 := cell_regrown d1'
  have r6 := cell_regrown b2'
  have r7 := cell_regrown b3'
  go_wp2
  refine Rh.region_below (by kernel_rfl) (by kernel_rfl) ?_
  repeat (refine Rh.qw_step (fun K hK => ?_); go_simp; first | (refine hK _ ?_; clear hK K) | (apply Exists.intro; refine ⟨fun _ => ?_, hK _ ?_⟩; (exact Calls.regrown_of (by first | with_reducible exact K3.out _ | with_reducible exact K4.out _)); clear hK K))
  refine Rh.qw_nil ?_
  intro W3 hw'
  obtain ⟨⟨dq, osq⟩, hw''⟩ := hw'
  have hb3 : Below w2.heap.size w2 W3 := by rw [hw'']; exact below_regrown w2 dq osq
  clear hw'' dq osq r0 r1 r2 r3 r4 r5 r6 r7
  have l3 := hb3.size
  have a1 := fun o1 => alloc1' W3 o1
  have u0 := fun o1 => cell_later (a1 o1) (cell_later hb3 a0')
  have u1 := fun o1 => cell_later (a1 o1) (cell_later hb3 a1')
  have u2 := fun o1 => cell_later (a1 o1) (cell_later hb3 b0')
  have u3 := fun o1 => cell_later (a1 o1) (cell_later hb3 b1')
  have u4 := fun o1 => cell_later (a1 o1) (cell_later hb3 b2')
  have u5 := fun o1 => cell_later (a1 o1) (cell_later hb3 b3')
  have u6 := fun o1 => cell_later (a1 o1) (cell_later hb3 d0')
  have u7 := fun o1 => cell_later (a1 o1) (cell_later hb3 d1')
  clear a1
  have HB3 := Lib.hid hb3
  clear hb3 a0' a1' b0' b1' b2' b3' d0' d1'
  go_wp2_with fail
  refine (K6.out _).mono ?_
  rintro e w4 ⟨rfl, hb4⟩
  have l4 := hb4.size
  simp at l4
  have x0 := fun o1 => cell_later (alloc1' w4 o1) (cell_later hb4 (u0 _))
  have x1 := fun o1 => cell_later (alloc1' w4 o1) (cell_later hb4 (u1 _))
  have y0 := fun o1 => cell_later (alloc1' w4 o1) (cell_later hb4 (u2 _))
  have y1 := fun o1 => cell_later (alloc1' w4 o1) (cell_later hb4 (u3 _))
  have z0 := fun o1 => cell_later (alloc1' w4 o1) (cell_later (a := ⟨W3.heap.size, 0, none⟩) (v := .float .f64 0) hb4 (by go_simp))
  have z1 := fun o1 => cell_later (alloc1' w4 o1) (cell_later (a := ⟨W3.heap.size, 1, none⟩) (v := .float .f64 0) hb4 (by go_simp))
  have f0 := frozen_later (a := ⟨W3.heap.size, 0, none⟩) hb4 (by simp) (by go_simp)
  have f1 := frozen_later (a := ⟨W3.heap.size, 1, none⟩) hb4 (by simp) (by go_simp)
  have HB4 := Lib.hid hb4
  clear hb4 u0 u1 u2 u3 u4 u5 u6 u7
  go_wp2_with fail
  refine (K7.out _).mono ?_
  rintro e w5 ⟨rfl, hb5⟩
  have l5 := hb5.size
  simp at l5
  have x0' := cell_later hb5 (x0 _)
  have x1' := cell_later hb5 (x1 _)
  have z0' := cell_later hb5 (z0 _)
  have z1' := cell_later hb5 (z1 _)
  have g0 := frozen_later (a := ⟨W3.heap.size, 0, none⟩) hb5 (by simp; omega) (by rw [World.frozen?_alloc_past _ _ _ (by omega)]; exact f0)
  have g1 := frozen_later (a := ⟨W3.heap.size, 1, none⟩) hb5 (by simp; omega) (by rw [World.frozen?_alloc_past _ _ _ (by omega)]; exact f1)
  have ne0 : W3.heap.size ≠ w.heap.size := by omega
  have ne1 : w.heap.size ≠ W3.heap.size := by omega
  have HB5 := Lib.hid hb5
  clear hb5 x0 x1 y0 y1 z0 z1 f0 f1
  go_wp2_with fail
  refine (K5.out _).mono ?_
  rintro e w6 ⟨rfl, hb6⟩
  have HB6 := Lib.hid hb6
  clear hb6
  go_wp2
  go_ret
  have B1 : Below w.heap.size w w1 := (alloc2 ..).trans (HB1.out.mono (alloc2 ..).size)
  have B2 : Below w.heap.size w w2 := B1.trans (((alloc1' w1 _).trans (HB2.out.mono (by simp))).mono (by omega))
  have B3 : Below w.heap.size w W3 := B2.trans (HB3.out.mono (by omega))
  have B4 : Below w.heap.size w w4 := B3.trans (((alloc1' W3 _).trans (HB4.out.mono (by simp))).mono (by omega))
  have B5 : Below w.heap.size w w5 := B4.trans (((alloc1' w4 _).trans (HB5.out.mono (by simp))).mono (by omega))
  have B6 := (B5.setCell (p := ⟨W3.heap.size, 0, none⟩) (by simp; omega) (.float .f64 cx)).setCell (p := ⟨W3.heap.size, 1, none⟩) (by simp; omega) (.float .f64 cy)
  exact ⟨rfl, B6.trans (HB6.out.mono (by simp; omega))⟩
end Go.Proofs.Ytiphlifnmmplaaa
