/- FnXYDot returns true at any two places, whatever their numbers and the memory; nothing that was there turns. No condition. -/
import Derived.Test.YtiphlifnmmplaaaRows
import Derived.Test.YtiphlifnmmplaaaWf
import Derived.Test.YtiphlifnmmplaaaFr
import Derived.Lib.SmallJoins
namespace Go.Proofs.Ytiphlifnmmplaaa
open Go.ChangeShapes Go.WideShapes Go.ChangeAt Go.RowKit Go.Joins

theorem toInt_whole {x : Nat} {n : Int} (h : Fl.IntV x n) (h1 : -1048576 ≤ n) (h2 : n ≤ 1048576) : floatToIntVal .f64 x .i64 = some n := by
  obtain ⟨s, m, p, hr, hv⟩ := h
  have e : FloatKind.f64.decode x = .number s m p := hr
  have ⟨w1, w2⟩ := Fl.wholeOf_le m p
  have hn : n = if s then -(Fl.wholeOf m p : Int) else (Fl.wholeOf m p : Int) := by
    cases s
    · simp only [Fl.valD, Bool.false_eq_true, if_false] at hv ⊢
      rw [hv, ← Rat.intCast_natCast] at w1 w2
      have k1 := Rat.intCast_le_intCast.1 w1
      have e2 : ((Fl.wholeOf m p : Int) : Rat) + 1 = (((Fl.wholeOf m p : Int) + 1 : Int) : Rat) := by rw [Rat.intCast_add]; rfl
      rw [e2] at w2
      have k2 := Rat.intCast_lt_intCast.1 w2
      omega
    · simp only [Fl.valD, if_true] at hv ⊢
      have e' : (m : Rat) * (2 : Rat) ^ p = ((-n : Int) : Rat) := by rw [Rat.intCast_neg]; grind
      rw [e', ← Rat.intCast_natCast] at w1 w2
      have k1 := Rat.intCast_le_intCast.1 w1
      have e2 : ((Fl.wholeOf m p : Int) : Rat) + 1 = (((Fl.wholeOf m p : Int) + 1 : Int) : Rat) := by rw [Rat.intCast_add]; rfl
      rw [e2] at w2
      have k2 := Rat.intCast_lt_intCast.1 w2
      omega
  have e3 : (FloatKind.f64.decode x).toInt .zero = some n := by
    unfold Ieee.Datum.toInt
    rw [e, Fl.integral_number]
    simp only [Ieee.signed, Nat.shiftLeft_zero]
    rw [hn]
  unfold floatToIntVal
  rw [e3]
  have b1 : IntKind.i64.min ≤ n ∧ n ≤ IntKind.i64.max := by
    have e4 : IntKind.i64.min = -9223372036854775808 := by decide
    have e5 : IntKind.i64.max = 9223372036854775807 := by decide
    rw [e4, e5]; omega
  simp only [if_pos b1]

theorem wrap_small {n : Int} (h1 : -4611686018427387904 ≤ n) (h2 : n ≤ 4611686018427387904) : IntKind.i64.wrap n = n := IntWalk.i64_in _ (by omega)

theorem dot_facts {ax ay bx by' : Nat} (h : [(ax, ay), (bx, by')].all pWhole = true) : ∃ x1 y1 x2 y2 a b r, DotFacts ax ay bx by' x1 y1 x2 y2 a b r := by
  simp only [List.all_cons, List.all_nil, pWhole, Bool.and_true, Bool.and_eq_true] at h
  obtain ⟨⟨h1, h2⟩, h3, h4⟩ := h
  obtain ⟨x1, v1, l1, u1⟩ := Fl.wholeB_true.1 h1
  obtain ⟨y1, v2, l2, u2⟩ := Fl.wholeB_true.1 h2
  obtain ⟨x2, v3, l3, u3⟩ := Fl.wholeB_true.1 h3
  obtain ⟨y2, v4, l4, u4⟩ := Fl.wholeB_true.1 h4
  have b1 := mul_bd (x := x1) (y := x2) (m := 1048576) (by omega) (by omega) (by omega) (by omega)
  have b2 := mul_bd (x := y1) (y := y2) (m := 1048576) (by omega) (by omega) (by omega) (by omega)
  obtain ⟨g1, i1⟩ := v1.fmul v3 (by omega) (by omega)
  obtain ⟨g2, i2⟩ := v2.fmul v4 (by omega) (by omega)
  obtain ⟨g3, i3⟩ := i1.fadd i2 (by omega) (by omega)
  have i4 := Fl.IntV.fint (n := x1 * x2 + y1 * y2) (by omega) (by omega)
  refine ⟨x1, y1, x2, y2, _, _, _, ⟨g1, g2, g3, toInt_whole v1 l1 u1, toInt_whole v2 l2 u2, toInt_whole v3 l3 u3, toInt_whole v4 l4 u4, ?_, wrap_small (by omega) (by omega), wrap_small (by omega) (by omega), wrap_small (by omega) (by omega)⟩⟩
  rw [show FloatKind.f64.format = Ieee.double from rfl]
  rw [show floatOfInt .f64 (x1 * x2 + y1 * y2) = Fl.fint (x1 * x2 + y1 * y2) from rfl, Fl.order_eq_iff i3 i4]; simp

theorem lawdot_any (ax ay bx by' : Nat) (w : World) : Calls Try.prog 4 #[fxy ax ay, fxy bx by'] w fun e w' => e = .returned (.bool true) ∧ Below w.heap.size w w' := by
  cases h : [(ax, ay), (bx, by')].all pWhole
  · exact lawdot_out ax ay bx by' w h
  · obtain ⟨x1, y1, x2, y2, a, b, r, hF⟩ := dot_facts h
    exact lawdot_in ax ay bx by' w x1 y1 x2 y2 a b r hF h

theorem trod_float1 {H : Type} {enc : TypeId × Value → H} {P : Program} {W : World} {base : Nat} {spare : Nat → Bool} {held : Bool} {n : Nat} {t : TypeId} {v : Value} {y : DataW H × List MemPlace} (ht : P.underlying t = some (.float .f64)) (h : DataW.trod enc P W base spare held n t [v] = some y) : ∃ b, v = .float .f64 b := by
  cases n with
  | zero => simp [DataW.trod] at h
  | succ n =>
    simp only [DataW.trod, ht] at h
    cases v <;> simp at h
    rename_i k b
    cases k <;> simp_all

set_option maxRecDepth 100000 in
theorem open_fxy {H : Type} {enc : TypeId × Value → H} {W : World} {base base' : Nat} {v : Value} {d : DataW H} {p : List MemPlace} (hv : Value.okWide Try.prog W .any base 29 v) (h : DataW.Trod enc Try.prog W base' (fun _ => true) true 29 v d p) : ∃ x y, v = fxy x y := by
  obtain ⟨c0, c1, y0, y1, m, rfl, rfl, rfl, hy0, hy1⟩ := open_agg2 Try.underlying29 (by kernel_rfl) (by kernel_rfl) hv h
  obtain ⟨a, rfl⟩ := trod_float1 Try.underlying26 hy0
  obtain ⟨b, rfl⟩ := trod_float1 Try.underlying26 hy1
  exact ⟨a, b, rfl⟩

theorem own : ownKnob Try.prog.godebug = none := by kernel_rfl

set_option maxRecDepth 100000 in
theorem xYDot_lifted (os : Os) (started : os.Started) (H : Type) (enc : TypeId × Value → H) :
    ReturnsInHanded {} Try.checked os 4 .any (Rows.fnXYDotSpec.pre6 enc Try.prog Try.f4 Rows.fnXYDotRow.domain false) (Rows.fnXYDotSpec.post enc Try.prog Try.f4 false true false false) := by
  refine Fr.law_lifted (C := Try.checked) (tb := 4) own started (by kernel_rfl) Try.func4 (by kernel_rfl) rfl (by kernel_rfl) (by kernel_rfl) Try.underlying4 ?_
    (ChangeSpec.witness6 (enc := enc) (C := Try.checked) false ⟨#[], #[fxy 0 0, fxy 0 0], []⟩ 8 (by kernel_rfl) (by kernel_rfl) (by kernel_rfl) (by kernel_rfl)) ?_
  · intro ds hlen
    match ds, hlen with
    | [d1, d2], _ => rfl
  · intro W base args ds ps hval0 hA0 hlt
    have hval : ∀ (j : Nat) t v, Try.f4.params[j]? = some t → args[j]? = some v → Value.okWide Try.prog W .any base t v := hval0
    have hA : DataW.TrodAll enc Try.prog W 0 (fun _ => true) true Try.f4.params.toList args.toList ds ps := hA0
    rw [Try.params4] at hA hval
    obtain ⟨v0, v1, d0, d1, p0, p1, rfl, rfl, rfl, h0, h1⟩ := trodAll_two hA
    obtain ⟨ax, ay, rfl⟩ := open_fxy (hval 0 29 v0 rfl rfl) h0
    obtain ⟨bx, by', rfl⟩ := open_fxy (hval 1 29 v1 rfl rfl) h1
    exact lawdot_any ax ay bx by' W

theorem xYDot_over : Rows.fnXYDotRow.holds Try.pinned (OpenSpec.ofChange Rows.fnXYDotSpec) :=
  OpenClaim.holds_of_wide 4 Try.f4 rfl rfl rfl rfl rfl rfl rfl ⟨rfl, rfl, rfl, rfl, rfl⟩ rfl rfl rfl rfl rfl (by kernel_rfl) Try.func4 (by kernel_rfl)
    (of_decide_eq_true (by kernel_rfl)) (by unfold Func.isWrapper; first | (rw [if_pos (by decide +kernel)]; kernel_rfl) | (rw [if_neg (by decide +kernel)]; exact ⟨rfl, rfl⟩))
    (fun os started H enc _ => xYDot_lifted os started H enc)

theorem xYDot_proved : Rows.FnXYDotSaid := xYDot_over
#print axioms xYDot_proved
end Go.Proofs.Ytiphlifnmmplaaa
