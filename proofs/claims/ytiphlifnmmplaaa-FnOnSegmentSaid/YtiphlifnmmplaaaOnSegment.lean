/- FnOnSegment returns true at any three places of whole numbers, whatever the memory; nothing that was there turns. No condition. -/
import Derived.Test.YtiphlifnmmplaaaRows
import Derived.Test.YtiphlifnmmplaaaWm
import Derived.Test.YtiphlifnmmplaaaFr
import Derived.Lib.SmallJoins
namespace Go.Proofs.Ytiphlifnmmplaaa
open Go.ChangeShapes Go.WideShapes Go.ChangeAt Go.RowKit Go.Joins

theorem loB_int {a b : Nat} {x y : Int} (ha : Fl.IntV a x) (hb : Fl.IntV b y) : Fl.IntV (loB a b) (if y < x then y else x) := by
  unfold loB gtB
  rw [show FloatKind.f64.format = Ieee.double from rfl, Fl.order_gt_iff ha hb]
  by_cases h : y < x
  · rw [decide_eq_true h, cond_true, if_pos h]; exact hb
  · rw [decide_eq_false h, cond_false, if_neg h]; exact ha
theorem hiB_int {a b : Nat} {x y : Int} (ha : Fl.IntV a x) (hb : Fl.IntV b y) : Fl.IntV (hiB a b) (if x < y then y else x) := by
  unfold hiB gtB
  rw [show FloatKind.f64.format = Ieee.double from rfl, Fl.order_gt_iff ha hb]
  by_cases h : y < x
  · rw [decide_eq_true h, cond_true, if_neg (by omega)]; exact ha
  · rw [decide_eq_false h, cond_false]
    by_cases h2 : x < y
    · rw [if_pos h2]; exact hb
    · rw [if_neg h2, show x = y by omega]; exact hb
theorem geB_int {a b : Nat} {x y : Int} (ha : Fl.IntV a x) (hb : Fl.IntV b y) : geB a b = decide (y ≤ x) := by
  unfold geB
  rw [show FloatKind.f64.format = Ieee.double from rfl, Fl.order_gt_iff ha hb, Fl.order_eq_iff ha hb]
  by_cases h : y ≤ x
  · rw [decide_eq_true h]
    by_cases h2 : x = y
    · simp [h2]
    · simp [h2]; omega
  · rw [decide_eq_false h]; simp; omega
theorem leB_int {a b : Nat} {x y : Int} (ha : Fl.IntV a x) (hb : Fl.IntV b y) : leB a b = decide (x ≤ y) := by
  unfold leB
  rw [show FloatKind.f64.format = Ieee.double from rfl, Fl.order_lt_iff ha hb, Fl.order_eq_iff ha hb]
  by_cases h : x ≤ y
  · rw [decide_eq_true h]
    by_cases h2 : x = y
    · simp [h2]
    · simp [h2]; omega
  · rw [decide_eq_false h]; simp; omega

theorem seg_law {ax ay bx by' px py : Int} (h1 : -1048576 ≤ ax ∧ ax ≤ 1048576) (h2 : -1048576 ≤ ay ∧ ay ≤ 1048576) (h3 : -1048576 ≤ bx ∧ bx ≤ 1048576) (h4 : -1048576 ≤ by' ∧ by' ≤ 1048576) (h5 : -1048576 ≤ px ∧ px ≤ 1048576) (h6 : -1048576 ≤ py ∧ py ≤ 1048576) :
    SegOk (Fl.fint ax) (Fl.fint ay) (Fl.fint bx) (Fl.fint by') (Fl.fint px) (Fl.fint py) ∧
    (envHas (Fl.fint ax) (Fl.fint ay) (Fl.fint bx) (Fl.fint by') (Fl.fint px) (Fl.fint py) && crossEq (Fl.fint ax) (Fl.fint ay) (Fl.fint bx) (Fl.fint by') (Fl.fint px) (Fl.fint py)) =
      holdsB ((bx - ax) * (py - ay) - (by' - ay) * (px - ax)) (if bx < ax then bx else ax) (if ax < bx then bx else ax) (if by' < ay then by' else ay) (if ay < by' then by' else ay) px py := by
  have b1 := mul_bd (x := px - ax) (y := by' - ay) (m := 2097152) (by omega) (by omega) (by omega) (by omega)
  have b2 := mul_bd (x := py - ay) (y := bx - ax) (m := 2097152) (by omega) (by omega) (by omega) (by omega)
  have iax := Fl.IntV.fint (n := ax) (by omega) (by omega)
  have iay := Fl.IntV.fint (n := ay) (by omega) (by omega)
  have ibx := Fl.IntV.fint (n := bx) (by omega) (by omega)
  have iby := Fl.IntV.fint (n := by') (by omega) (by omega)
  have ipx := Fl.IntV.fint (n := px) (by omega) (by omega)
  have ipy := Fl.IntV.fint (n := py) (by omega) (by omega)
  obtain ⟨g1, i1⟩ := ipx.fsub iax (by omega) (by omega)
  obtain ⟨g2, i2⟩ := iby.fsub iay (by omega) (by omega)
  obtain ⟨g3, i3⟩ := i1.fmul i2 (by omega) (by omega)
  obtain ⟨g4, i4⟩ := ipy.fsub iay (by omega) (by omega)
  obtain ⟨g5, i5⟩ := ibx.fsub iax (by omega) (by omega)
  obtain ⟨g6, i6⟩ := i4.fmul i5 (by omega) (by omega)
  refine ⟨⟨Fl.Fv.fin ipx, Fl.Fv.fin ipy, g1, g2, g3, g4, g5, g6⟩, ?_⟩
  unfold envHas crossEq holdsB
  rw [geB_int ipx (loB_int iax ibx), leB_int ipx (hiB_int iax ibx), geB_int ipy (loB_int iay iby), leB_int ipy (hiB_int iay iby), show FloatKind.f64.format = Ieee.double from rfl, Fl.order_eq_iff i3 i6]
  have e : ((bx - ax) * (py - ay) - (by' - ay) * (px - ax) == 0) = decide ((px - ax) * (by' - ay) = (py - ay) * (bx - ax)) := by
    by_cases hc : (px - ax) * (by' - ay) = (py - ay) * (bx - ax)
    · rw [decide_eq_true hc]
      have : (bx - ax) * (py - ay) - (by' - ay) * (px - ax) = 0 := by grind
      rw [this]; rfl
    · rw [decide_eq_false hc]
      have : ¬ (bx - ax) * (py - ay) - (by' - ay) * (px - ax) = 0 := by grind
      simpa using this
  rw [e]
  cases decide ((px - ax) * (by' - ay) = (py - ay) * (bx - ax)) <;> simp

theorem onSeg_any (ax ay bx by' px py : Int) (w : World) : Calls Try.prog 8 #[ixy ax ay, ixy bx by', ixy px py] w fun e w' => e = .returned (.bool true) ∧ Below w.heap.size w w' := by
  cases hne : (ax == bx && ay == by')
  · cases hall : [(ax, ay), (bx, by'), (px, py)].all (ptIn 1048576)
    · exact onSeg_out ax ay bx by' px py w hne hall
    · have hall2 := hall
      simp only [List.all_cons, List.all_nil, ptIn, Bool.and_true, Bool.and_eq_true, decide_eq_true_eq] at hall2
      obtain ⟨hok, he⟩ := seg_law (ax := ax) (ay := ay) (bx := bx) (by' := by') (px := px) (py := py) (by omega) (by omega) (by omega) (by omega) (by omega) (by omega)
      refine onSeg_in ax ay bx by' px py w _ hne hall (fun w => implOnSegment_any _ _ _ _ _ _ hok w) (fun w => ?_)
      rw [he]
      exact hasPt_any ax ay bx by' px py _ (fun w => holds_any ax ay bx by' px py w (by omega) (by omega) (by omega) (by omega) (by omega) (by omega)) w
  · simp only [Bool.and_eq_true, beq_iff_eq] at hne
    obtain ⟨rfl, rfl⟩ := hne
    exact onSeg_same ax ay px py w

set_option maxRecDepth 100000 in
theorem open_ixy {H : Type} {enc : TypeId × Value → H} {W : World} {base base' : Nat} {v : Value} {d : DataW H} {p : List MemPlace} (hv : Value.okWide Try.prog W .any base 23 v) (h : DataW.Trod enc Try.prog W base' (fun _ => true) true 23 v d p) : ∃ x y, v = ixy x y := by
  obtain ⟨c0, c1, y0, y1, m, rfl, rfl, rfl, hy0, hy1⟩ := open_agg2 Try.underlying23 (by kernel_rfl) (by kernel_rfl) hv h
  obtain ⟨a, e0, rfl, _⟩ := DataW.trod_int Try.underlying3 hy0
  obtain ⟨b, e1, rfl, _⟩ := DataW.trod_int Try.underlying3 hy1
  simp at e0 e1
  subst e0 e1
  exact ⟨a, b, rfl⟩

theorem own : ownKnob Try.prog.godebug = none := by kernel_rfl

set_option maxRecDepth 100000 in
theorem onSegment_lifted (os : Os) (started : os.Started) (H : Type) (enc : TypeId × Value → H) :
    ReturnsInHanded {} Try.checked os 8 .any (Rows.fnOnSegmentSpec.pre6 enc Try.prog Try.f8 Rows.fnOnSegmentRow.domain false) (Rows.fnOnSegmentSpec.post enc Try.prog Try.f8 false true false false) := by
  refine Fr.law_lifted (C := Try.checked) (tb := 4) own started (by kernel_rfl) Try.func8 (by kernel_rfl) rfl (by kernel_rfl) (by kernel_rfl) Try.underlying4 ?_
    (ChangeSpec.witness6 (enc := enc) (C := Try.checked) false ⟨#[], #[ixy 0 0, ixy 0 0, ixy 0 0], []⟩ 8 (by kernel_rfl) (by kernel_rfl) (by kernel_rfl) (by kernel_rfl)) ?_
  · intro ds hlen
    match ds, hlen with
    | [d1, d2, d3], _ => rfl
  · intro W base args ds ps hval0 hA0 hlt
    have hval : ∀ (j : Nat) t v, Try.f8.params[j]? = some t → args[j]? = some v → Value.okWide Try.prog W .any base t v := hval0
    have hA : DataW.TrodAll enc Try.prog W 0 (fun _ => true) true Try.f8.params.toList args.toList ds ps := hA0
    rw [Try.params8] at hA hval
    obtain ⟨v0, v1, v2, d0, d1, d2, p0, p1, p2, rfl, rfl, rfl, h0, h1, h2⟩ := trodAll_three hA
    obtain ⟨ax, ay, rfl⟩ := open_ixy (hval 0 23 v0 rfl rfl) h0
    obtain ⟨bx, by', rfl⟩ := open_ixy (hval 1 23 v1 rfl rfl) h1
    obtain ⟨px, py, rfl⟩ := open_ixy (hval 2 23 v2 rfl rfl) h2
    exact onSeg_any ax ay bx by' px py W

theorem onSegment_over : Rows.fnOnSegmentRow.holds Try.pinned (OpenSpec.ofChange Rows.fnOnSegmentSpec) :=
  OpenClaim.holds_of_wide 8 Try.f8 rfl rfl rfl rfl rfl rfl rfl ⟨rfl, rfl, rfl, rfl, rfl⟩ rfl rfl rfl rfl rfl (by kernel_rfl) Try.func8 (by kernel_rfl)
    (of_decide_eq_true (by kernel_rfl)) (by unfold Func.isWrapper; first | (rw [if_pos (by decide +kernel)]; kernel_rfl) | (rw [if_neg (by decide +kernel)]; exact ⟨rfl, rfl⟩))
    (fun os started H enc _ => onSegment_lifted os started H enc)

theorem onSegment_proved : Rows.FnOnSegmentSaid := onSegment_over
#print axioms onSegment_proved
end Go.Proofs.Ytiphlifnmmplaaa
