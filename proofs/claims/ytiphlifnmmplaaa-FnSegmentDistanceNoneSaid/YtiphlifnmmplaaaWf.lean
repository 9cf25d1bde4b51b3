/- FnXYDot: the law's own walk. Conditions stand at each lemma. -/
import Derived.Test.YtiphlifnmmplaaaWe
import Derived.Deep.RegionHeld3
import Derived.Test.YtiphlifnmmplaaaRg
namespace Go.Proofs.Ytiphlifnmmplaaa
open Go.RowKit
theorem dot_any (x y x' y' a b r : Nat) (w : World) (ha : floatBits .mul .f64 x x' = some a) (hb : floatBits .mul .f64 y y' = some b) (hr : floatBits .add .f64 a b = some r) : 
   Calls Try.prog 42 #[.agg #[.float .f64 x, .float .f64 y], .agg #[.float .f64 x', .float .f64 y']] w fun e w' => e = .returned (.float .f64 r) ∧ Below w.heap.size w w' := by
  have h1 := fun w t => run_float_arith (P := Try.prog) w .mul t .f64 x x' a ha
  have h2 := fun w t => run_float_arith (P := Try.prog) w .mul t .f64 y y' b hb
  have h3 := fun w t => run_float_arith (P := Try.prog) w .add t .f64 a b r hr
  clear ha hb hr
  go_enter Try.func42, Try.ntmps42
  go_wp2
  go_ret
  exact ⟨rfl, ((Below.refl _ _).alloc (Nat.le_refl _) _).alloc (by simp) _⟩
set_option maxHeartbeats 1000000 in
set_option maxHeartbeats 1000000 in
theorem xydot_any (x y x' y' a b r : Nat) (w : World) (ha : floatBits .mul .f64 x x' = some a) (hb : floatBits .mul .f64 y y' = some b) (hr : floatBits .add .f64 a b = some r) : 
   Calls Try.prog 17 #[.agg #[.float .f64 x, .float .f64 y], .agg #[.float .f64 x', .float .f64 y']] w fun e w' => e = .returned (.float .f64 r) ∧ Below w.heap.size w w' := by
  have hd := fun w => dot_any x y x' y' a b r w ha hb hr
  have HD := Lib.hid hd
  clear ha hb hr hd
  go_enter Try.func17, Try.ntmps17
  go_wp2
  refine wp_region_quiet_below (by kernel_rfl) (by kernel_rfl) ?_
  repeat (quiet_step (exact Calls.regrown_of (by first | with_reducible exact xy_any _ _ _ | with_reducible exact HD.out _)))
  refine wpQuiet_nil ?_
  intro _ hw'
  obtain ⟨⟨dq, osq⟩, hw''⟩ := hw'
  subst hw''
  go_wp2
  go_ret
  exact ⟨rfl, (((Below.refl _ _).alloc (Nat.le_refl _) _).alloc (by simp) _).trans ((below_regrown _ dq osq).mono (by simp; omega))⟩

theorem xysAt_new (W : World) (n : Nat) (hn : n = W.heap.size) (c : Array Value) (t : TypeId) (ps : List (Nat × Nat)) (hc : ∀ k x y, ps[k]? = some (x, y) → c[k * 2]? = some (.float .f64 x) ∧ c[k * 2 + 1]? = some (.float .f64 y)) : XYsAt (W.alloc (.cells c t)) n 0 ps := by
  subst hn
  refine ⟨by simp, fun k x y hk => ?_⟩
  rw [World.cell?_alloc_new, World.cell?_alloc_new, Nat.zero_add]
  exact hc k x y hk
theorem fflat2 (ax ay bx by' : Nat) : ∀ k x y, [(ax, ay), (bx, by')][k]? = some (x, y) → (#[.float .f64 ax, .float .f64 ay, .float .f64 bx, .float .f64 by'] : Array Value)[k * 2]? = some (.float .f64 x) ∧ (#[.float .f64 ax, .float .f64 ay, .float .f64 bx, .float .f64 by'] : Array Value)[k * 2 + 1]? = some (.float .f64 y)
  | 0, x, y, h => by simp at h; simp [h]
  | 1, x, y, h => by simp at h; simp [h]
  | k + 2, x, y, h => by simp at h

theorem below2 (w : World) (o1 o2 : Obj) : Below w.heap.size w ((w.alloc o1).alloc o2) := by
  have h1 := (Below.refl w.heap.size w).alloc (Nat.le_refl _) o1
  exact h1.alloc h1.size o2

/-- Four cells. -/
def Four (n : Nat) (ax ay bx by' : Nat) (w' : World) : Prop := n + 2 ≤ w'.heap.size ∧ w'.cell? ⟨n, 0, none⟩ = some (.float .f64 ax) ∧ w'.cell? ⟨n, 1, none⟩ = some (.float .f64 ay) ∧ w'.cell? ⟨n + 1, 0, none⟩ = some (.float .f64 bx) ∧ w'.cell? ⟨n + 1, 1, none⟩ = some (.float .f64 by')


/-- The world at the call of vWhole in FnXYDot. -/
def wDot (w : World) (ax ay bx by' : Nat) : World := (((w.alloc (Obj.cells #[Value.float FloatKind.f64 ax, Value.float FloatKind.f64 ay] 29)).alloc (Obj.cells #[Value.float FloatKind.f64 bx, Value.float FloatKind.f64 by'] 29)).alloc (Obj.cells #[Value.float FloatKind.f64 ax, Value.float FloatKind.f64 ay, Value.float FloatKind.f64 bx, Value.float FloatKind.f64 by'] 29)).drew
theorem below3 (w : World) (o1 o2 o3 : Obj) : Below w.heap.size w (((w.alloc o1).alloc o2).alloc o3) := by
  have h1 := (Below.refl w.heap.size w).alloc (Nat.le_refl _) o1
  have h2 := h1.alloc h1.size o2
  exact h2.alloc h2.size o3
theorem vWhole2 (ax ay bx by' : Nat) (w : World) : Calls Try.prog 16 #[.slice (some ⟨w.heap.size + 1 + 1, 0, none⟩) 2 2] (wDot w ax ay bx by') fun e w' => e = .returned (.bool ([(ax, ay), (bx, by')].all pWhole)) ∧ Below w.heap.size w w' ∧
    w.heap.size + 2 ≤ w'.heap.size ∧ w'.cell? ⟨w.heap.size, 0, none⟩ = some (.float .f64 ax) ∧ w'.cell? ⟨w.heap.size, 1, none⟩ = some (.float .f64 ay) ∧ w'.cell? ⟨w.heap.size + 1, 0, none⟩ = some (.float .f64 bx) ∧ w'.cell? ⟨w.heap.size + 1, 1, none⟩ = some (.float .f64 by') := by
  refine (vWhole_any (w.heap.size + 1 + 1) 0 2 [(ax, ay), (bx, by')] _ (by simp) ⟨by simp [wDot], fun k x y hk => ?_⟩).mono fun _ _ ⟨h1, h2⟩ => ⟨h1, (((below3 ..).drew).trans (h2.mono (by simp [wDot]; omega))), ?_, ?_, ?_, ?_, ?_⟩
  · have := fflat2 ax ay bx by' k x y hk
    unfold wDot
    rw [World.cell?_drew, World.cell?_drew, World.cell?_alloc_at _ _ _ _ (by simp), World.cell?_alloc_at _ _ _ _ (by simp), Nat.zero_add]
    exact this
  · have := h2.size; simp [wDot] at this; omega
  · exact cell_later h2 (by unfold wDot; go_simp)
  · exact cell_later h2 (by unfold wDot; go_simp)
  · exact cell_later h2 (by unfold wDot; go_simp)
  · exact cell_later h2 (by unfold wDot; go_simp)


set_option maxHeartbeats 1000000 in
theorem lawdot_out (ax ay bx by' : Nat) (w : World) (h : [(ax, ay), (bx, by')].all pWhole = false) : 
   Calls Try.prog 4 #[fxy ax ay, fxy bx by'] w fun e w' => e = .returned (.bool true) ∧ Below w.heap.size w w' := by
  have K := vWhole2 ax ay bx by' w
  rw [h] at K
  have H := Lib.hid K
  clear h K
  go_enter Try.func4, Try.ntmps4
  go_wp2
  refine wp_region_held_drew (S := fun w' => w'.cell? ⟨w.heap.size, 0, none⟩ = some (.float .f64 ax) ∧ w'.cell? ⟨w.heap.size, 1, none⟩ = some (.float .f64 ay) ∧ w'.cell? ⟨w.heap.size + 1, 0, none⟩ = some (.float .f64 bx) ∧ w'.cell? ⟨w.heap.size + 1, 1, none⟩ = some (.float .f64 by')) (by kernel_rfl) (by go_simp) (fun hS => ?_)
  refine wpAnyH_take (i := 0) (v := fxy ax ay) rfl (by kernel_rfl) (by kernel_rfl) (by kernel_rfl) (fun _ _ _ h => h) (Or.inl ⟨by rfl, fun w' hw' => by (obtain ⟨c0, c1, c2, c3⟩ := hw'; go_simp)⟩) hS ?_
  refine wpAnyH_take (i := 1) (v := fxy bx by') rfl (by kernel_rfl) (by kernel_rfl) (by kernel_rfl) (fun _ _ _ h => h) (Or.inl ⟨by rfl, fun w' hw' => by (obtain ⟨c0, c1, c2, c3⟩ := hw'; go_simp)⟩) hS ?_
  simp only [List.getElem_toArray, List.getElem_cons_zero, List.getElem_cons_succ, Act.put, List.setIfInBounds_toArray, List.set_cons_zero, List.set_cons_succ]
  refine wpAnyH_ready (rs := [2]) (by kernel_rfl) (by simp) (AllReadyH.cons rfl (fun K hK => ?_) AllReadyH.nil)
  go_simp
  refine hK.out _ _ (by go_simp) (fun hS2 => ?_)
  clear hK K hS
  refine wpAnyH_ready (rs := [3]) (by kernel_rfl) (by simp) (AllReadyH.cons rfl (fun K hK => ?_) AllReadyH.nil)
  go_simp
  refine H.out.mono ?_
  rintro e w' ⟨rfl, hb, hz, hS3⟩
  refine hK.out _ _ hS3 (fun _ => ?_)
  clear hK K hS2
  obtain ⟨c0, c1, c2, c3⟩ := hS3
  have k0 := cell_regrown c0
  have k1 := cell_regrown c1
  have k2 := cell_regrown c2
  have k3 := cell_regrown c3
  clear c0 c1 c2 c3
  have HB := Lib.hid hb
  clear hb
  refine Rg.wpAnyH_below 4 (fun d os => ⟨k0 d os, k1 d os, k2 d os, k3 d os⟩) (by kernel_rfl) (by kernel_rfl) (by kernel_rfl) ?_
  simp only [List.drop_succ_cons, List.drop_zero]
  repeat (refine Rg.qw_step (fun K hK => ?_); go_simp; first | (refine hK _ ?_; clear hK K) | (apply Exists.intro; refine ⟨fun _ => ?_, hK _ ?_⟩; fail; clear hK K))
  refine Rg.qw_nil ?_
  intro _ hw'
  obtain ⟨⟨dq, osq⟩, hw''⟩ := hw'
  subst hw''
  go_wp2
  go_ret
  exact ⟨rfl, HB.out.trans ((below_regrown _ dq osq).mono (Nat.le_trans (Nat.le_add_right _ 2) hz))⟩

/-- What is asked of the numbers of FnXYDot. -/
structure DotFacts (ax ay bx by' : Nat) (x1 y1 x2 y2 : Int) (a b r : Nat) : Prop where
  m1 : floatBits .mul .f64 ax bx = some a
  m2 : floatBits .mul .f64 ay by' = some b
  s : floatBits .add .f64 a b = some r
  i1 : floatToIntVal .f64 ax .i64 = some x1
  i2 : floatToIntVal .f64 ay .i64 = some y1
  i3 : floatToIntVal .f64 bx .i64 = some x2
  i4 : floatToIntVal .f64 by' .i64 = some y2
  o : (FloatKind.f64.format.order r (floatOfInt .f64 (x1 * x2 + y1 * y2)) == some .eq) = true
  w1 : IntKind.i64.wrap (x1 * x2) = x1 * x2
  w2 : IntKind.i64.wrap (y1 * y2) = y1 * y2
  w3 : IntKind.i64.wrap (x1 * x2 + y1 * y2) = x1 * x2 + y1 * y2

set_option maxHeartbeats 1000000 in
theorem lawdot_in (ax ay bx by' : Nat) (w : World) (x1 y1 x2 y2 : Int) (a b r : Nat) (hF : DotFacts ax ay bx by' x1 y1 x2 y2 a b r) (h : [(ax, ay), (bx, by')].all pWhole = true) : 
   Calls Try.prog 4 #[fxy ax ay, fxy bx by'] w fun e w' => e = .returned (.bool true) ∧ Below w.heap.size w w' := by
  have K := vWhole2 ax ay bx by' w
  rw [h] at K
  have H := Lib.hid K
  have KD := Lib.hid (fun w => xydot_any ax ay bx by' a b r w hF.m1 hF.m2 hF.s)
  have c1 := fun s d hs hd w => run_convert_float_int (P := Try.prog) w s d .f64 .i64 ax x1 hs hd hF.i1
  have c2 := fun s d hs hd w => run_convert_float_int (P := Try.prog) w s d .f64 .i64 ay y1 hs hd hF.i2
  have c3 := fun s d hs hd w => run_convert_float_int (P := Try.prog) w s d .f64 .i64 bx x2 hs hd hF.i3
  have c4 := fun s d hs hd w => run_convert_float_int (P := Try.prog) w s d .f64 .i64 by' y2 hs hd hF.i4
  have o := hF.o
  have w1 := hF.w1
  have w2 := hF.w2
  have w3 := hF.w3
  clear h K hF
  go_enter Try.func4, Try.ntmps4
  go_wp2
  refine wp_region_held_drew (S := fun w' => w'.cell? ⟨w.heap.size, 0, none⟩ = some (.float .f64 ax) ∧ w'.cell? ⟨w.heap.size, 1, none⟩ = some (.float .f64 ay) ∧ w'.cell? ⟨w.heap.size + 1, 0, none⟩ = some (.float .f64 bx) ∧ w'.cell? ⟨w.heap.size + 1, 1, none⟩ = some (.float .f64 by')) (by kernel_rfl) (by go_simp) (fun hS => ?_)
  refine wpAnyH_take (i := 0) (v := fxy ax ay) rfl (by kernel_rfl) (by kernel_rfl) (by kernel_rfl) (fun _ _ _ h => h) (Or.inl ⟨by rfl, fun w' hw' => by (obtain ⟨e0, e1, e2, e3⟩ := hw'; go_simp)⟩) hS ?_
  refine wpAnyH_take (i := 1) (v := fxy bx by') rfl (by kernel_rfl) (by kernel_rfl) (by kernel_rfl) (fun _ _ _ h => h) (Or.inl ⟨by rfl, fun w' hw' => by (obtain ⟨e0, e1, e2, e3⟩ := hw'; go_simp)⟩) hS ?_
  simp only [List.getElem_toArray, List.getElem_cons_zero, List.getElem_cons_succ, Act.put, List.setIfInBounds_toArray, List.set_cons_zero, List.set_cons_succ]
  refine wpAnyH_ready (rs := [2]) (by kernel_rfl) (by simp) (AllReadyH.cons rfl (fun K hK => ?_) AllReadyH.nil)
  go_simp
  refine hK.out _ _ (by go_simp) (fun hS2 => ?_)
  clear hK K hS
  refine wpAnyH_ready (rs := [3]) (by kernel_rfl) (by simp) (AllReadyH.cons rfl (fun K hK => ?_) AllReadyH.nil)
  go_simp
  refine H.out.mono ?_
  rintro e w' ⟨rfl, hb, hz, hS3⟩
  refine hK.out _ _ hS3 (fun _ => ?_)
  clear hK K hS2
  obtain ⟨e0, e1, e2, e3⟩ := hS3
  have k0 := cell_regrown e0
  have k1 := cell_regrown e1
  have k2 := cell_regrown e2
  have k3 := cell_regrown e3
  clear e0 e1 e2 e3
  have HB := Lib.hid hb
  clear hb
  refine Rg.wpAnyH_below 4 (fun d os => ⟨k0 d os, k1 d os, k2 d os, k3 d os⟩) (by kernel_rfl) (by kernel_rfl) (by kernel_rfl) ?_
  simp only [List.drop_succ_cons, List.drop_zero]
  repeat (refine Rg.qw_step (fun K hK => ?_); go_simp; first | (refine hK _ ?_; clear hK K) | (apply Exists.intro; refine ⟨fun _ => ?_, hK _ ?_⟩; (exact Calls.regrown_of (by with_reducible exact KD.out _)); clear hK K))
  refine Rg.qw_nil ?_
  intro _ hw'
  obtain ⟨⟨dq, osq⟩, hw''⟩ := hw'
  subst hw''
  go_wp2
  go_ret
  exact ⟨rfl, HB.out.trans ((below_regrown _ dq osq).mono (Nat.le_trans (Nat.le_add_right _ 2) hz))⟩

end Go.Proofs.Ytiphlifnmmplaaa
