/- FnBoxJoin: the walk. Conditions stand at each lemma. -/
import Derived.Test.YtiphlifnmmplaaaWh
import Derived.Laws.StructEq
namespace Go.Proofs.Ytiphlifnmmplaaa
open Go.RowKit
theorem run_min_float {P : Program} (x y : Nat) (o : Ordering) (h : FloatKind.f64.format.order x y = some o) (ts : Array TypeId) (t : TypeId) (w : World) : (Builtin.min_ ts t #[.float .f64 x, .float .f64 y]).run P w = .ok (.float .f64 (Fl.minF x y)) w := by
  have h' : Ieee.double.order x y = some o := h
  have e : FloatKind.f64.decode x = Ieee.double.read x := rfl
  cases o <;> simp [Builtin.min_, Builtin.min2, h, Fl.minF, h', e]
theorem run_max_float {P : Program} (x y : Nat) (o : Ordering) (h : FloatKind.f64.format.order x y = some o) (ts : Array TypeId) (t : TypeId) (w : World) : (Builtin.max_ ts t #[.float .f64 x, .float .f64 y]).run P w = .ok (.float .f64 (Fl.maxF x y)) w := by
  have h' : Ieee.double.order x y = some o := h
  have e : FloatKind.f64.decode x = Ieee.double.read x := rfl
  cases o <;> simp [Builtin.max_, Builtin.max2, h, Fl.maxF, h', e]
theorem eqF26 (a b : Nat) (w : World) : (Op.equalIn 9999 26 (.float .f64 a) (.float .f64 b)).run Try.prog w = .ok (FloatKind.f64.format.order a b == some .eq) w := by
  rw [show (9999 : Nat) = 9998 + 1 from rfl, Op.equalIn]
  simp [run_underlying Try.underlying26, Op.floatEq]
set_option maxRecDepth 100000 in
/-- '==' of two boxes. -/
theorem eqBox41 (a b c d a' b' c' d' : Nat) (w : World) : (Op.equalIn 10000 41 (fbox a b c d) (fbox a' b' c' d')).run Try.prog w = .ok ((FloatKind.f64.format.order a a' == some .eq) && (FloatKind.f64.format.order b b' == some .eq) && (FloatKind.f64.format.order c c' == some .eq) && (FloatKind.f64.format.order d d' == some .eq)) w := by
  have u3 := Try.underlying26
  have a3 := Try.isAgg26
  have z3 := Try.sizeOf26
  have hS : Try.prog.underlying 41 = some (.struct (Try.prog.fieldsOf 41)) := by kernel_rfl
  have hp : Try.prog.stoodInHeld 41 = false := by kernel_rfl
  rw [show (10000 : Nat) = 9999 + 1 from rfl, run_equalIn_agg w 9999 41 _ _ hS hp]
  have ef := eqF26
  simp only [Program.fieldsOf, Try.underlying41]
  go_simp
  by_cases h1 : FloatKind.f64.format.order a a' = some .eq <;> by_cases h2 : FloatKind.f64.format.order b b' = some .eq <;> by_cases h3 : FloatKind.f64.format.order c c' = some .eq <;> by_cases h4 : FloatKind.f64.format.order d d' = some .eq <;> simp [h1, h2, h3, h4]
structure BoxFacts (a b c d a' b' c' d' : Nat) : Prop where
  o1 : ∃ o, FloatKind.f64.format.order a a' = some o
  o2 : ∃ o, FloatKind.f64.format.order b b' = some o
  o3 : ∃ o, FloatKind.f64.format.order c c' = some o
  o4 : ∃ o, FloatKind.f64.format.order d d' = some o
  e : ((FloatKind.f64.format.order (fminB a a') (Fl.minF a a') == some .eq) && (FloatKind.f64.format.order (fminB b b') (Fl.minF b b') == some .eq) && (FloatKind.f64.format.order (fmaxB c c') (Fl.maxF c c') == some .eq) && (FloatKind.f64.format.order (fmaxB d d') (Fl.maxF d d') == some .eq)) = true
set_option maxHeartbeats 1000000 in
theorem lawbox_out (a b c d a' b' c' d' : Nat) (w : World) (h : (Fl.finB a && Fl.finB b && Fl.finB c && Fl.finB d) = false ∨ ((Fl.finB a && Fl.finB b && Fl.finB c && Fl.finB d) = true ∧ (Fl.finB a' && Fl.finB b' && Fl.finB c' && Fl.finB d') = false)) : Calls Try.prog 6 #[fbox a b c d, fbox a' b' c' d'] w fun e w' => e = .returned (.bool true) ∧ Below w.heap.size w w' := by
  rcases h with h | ⟨h, h2⟩
  · have k1 := Lib.hid (fun w => h ▸ eFinite_any a b c d w)
    clear h
    go_enter Try.func6, Try.ntmps6
    go_wp2_with fail
    refine (k1.out _).mono ?_
    rintro e w' ⟨rfl, hb⟩
    have HB := Lib.hid hb
    clear hb
    go_wp2
    go_ret
    exact ⟨rfl, (alloc2 ..).trans (HB.out.mono (alloc2 ..).size)⟩
  · have k1 := Lib.hid (fun w => h ▸ eFinite_any a b c d w)
    have k2 := Lib.hid (fun w => h2 ▸ eFinite_any a' b' c' d' w)
    clear h h2
    go_enter Try.func6, Try.ntmps6
    go_wp2_with fail
    refine (k1.out _).mono ?_
    rintro e w1 ⟨rfl, hb⟩
    have c0 := fun o v h => cell_later (a := ⟨w.heap.size + 1, o, none⟩) (v := v) hb h
    have a0 := c0 0 (fl a') (by go_simp)
    have a1 := c0 1 (fl b') (by go_simp)
    have a2 := c0 2 (fl c') (by go_simp)
    have a3 := c0 3 (fl d') (by go_simp)
    have HB := Lib.hid hb
    clear hb c0
    go_wp2_with fail
    refine (k2.out _).mono ?_
    rintro e w2 ⟨rfl, hb⟩
    have HB2 := Lib.hid hb
    clear hb
    go_wp2
    go_ret
    exact ⟨rfl, (alloc2 ..).trans ((HB.out.mono (alloc2 ..).size).trans (HB2.out.mono (Nat.le_trans (alloc2 ..).size HB.out.size)))⟩
set_option maxHeartbeats 1000000 in
theorem lawbox_in (a b c d a' b' c' d' : Nat) (w : World) (h : (Fl.finB a && Fl.finB b && Fl.finB c && Fl.finB d) = true) (h2 : (Fl.finB a' && Fl.finB b' && Fl.finB c' && Fl.finB d') = true) (hF : BoxFacts a b c d a' b' c' d') : Calls Try.prog 6 #[fbox a b c d, fbox a' b' c' d'] w fun e w' => e = .returned (.bool true) ∧ Below w.heap.size w w' := by
  have k1 := Lib.hid (fun w => h ▸ eFinite_any a b c d w)
  have k2 := Lib.hid (fun w => h2 ▸ eFinite_any a' b' c' d' w)
  obtain ⟨⟨p1, q1⟩, ⟨p2, q2⟩, ⟨p3, q3⟩, ⟨p4, q4⟩, he⟩ := hF
  have m1 := run_min_float (P := Try.prog) a a' p1 q1
  have m2 := run_min_float (P := Try.prog) b b' p2 q2
  have m3 := run_max_float (P := Try.prog) c c' p3 q3
  have m4 := run_max_float (P := Try.prog) d d' p4 q4
  have eb : ∀ w, (Op.equalIn 10000 41 (fbox (fminB a a') (fminB b b') (fmaxB c c') (fmaxB d d')) (fbox (Fl.minF a a') (Fl.minF b b') (Fl.maxF c c') (Fl.maxF d d'))).run Try.prog w = .ok true w := fun w => by rw [eqBox41, he]
  clear h h2 he q1 q2 q3 q4
  go_enter Try.func6, Try.ntmps6
  go_wp2_with fail
  refine (k1.out _).mono ?_
  rintro e w1 ⟨rfl, hb⟩
  have c0 := fun i o v h => cell_later (a := ⟨w.heap.size + i, o, none⟩) (v := v) hb h
  have a0 := c0 0 0 (fl a) (by go_simp)
  have a1 := c0 0 1 (fl b) (by go_simp)
  have a2 := c0 0 2 (fl c) (by go_simp)
  have a3 := c0 0 3 (fl d) (by go_simp)
  have b0 := c0 1 0 (fl a') (by go_simp)
  have b1 := c0 1 1 (fl b') (by go_simp)
  have b2 := c0 1 2 (fl c') (by go_simp)
  have b3 := c0 1 3 (fl d') (by go_simp)
  rw [Nat.add_zero] at a0 a1 a2 a3
  have HB := Lib.hid hb
  clear hb c0
  go_wp2_with fail
  refine (k2.out _).mono ?_
  rintro e w2 ⟨rfl, hb⟩
  have d0 := cell_regrown (cell_later hb a0)
  have d1 := cell_regrown (cell_later hb a1)
  have d2 := cell_regrown (cell_later hb a2)
  have d3 := cell_regrown (cell_later hb a3)
  have d4 := cell_regrown (cell_later hb b0)
  have d5 := cell_regrown (cell_later hb b1)
  have d6 := cell_regrown (cell_later hb b2)
  have d7 := cell_regrown (cell_later hb b3)
  have HB2 := Lib.hid hb
  clear hb a0 a1 a2 a3 b0 b1 b2 b3
  go_wp2
  refine Rh.region_below (by kernel_rfl) (by kernel_rfl) ?_
  repeat (refine Rh.qw_step (fun K hK => ?_); go_simp; first | (refine hK _ ?_; clear hK K) | (apply Exists.intro; refine ⟨fun _ => ?_, hK _ ?_⟩; (exact Calls.regrown_of (by first | with_reducible exact boxJoin_any _ _ _ _ _ _ _ _ _)); clear hK K))
  refine Rh.qw_nil ?_
  intro _ hw'
  obtain ⟨⟨dq, osq⟩, hw''⟩ := hw'
  subst hw''
  go_wp2
  go_ret
  have l1 := Nat.le_trans (alloc2 _ _ _).size HB.out.size
  exact ⟨rfl, (alloc2 ..).trans ((HB.out.mono (alloc2 ..).size).trans ((HB2.out.mono l1).trans ((below_regrown _ dq osq).mono (Nat.le_trans l1 HB2.out.size))))⟩
end Go.Proofs.Ytiphlifnmmplaaa
