/- FnTriangleTurned returns true at any three places of whole numbers, whatever the memory; nothing that was there turns. No condition. -/
import Derived.Test.YtiphlifnmmplaaaRows
import Derived.Test.YtiphlifnmmplaaaWc
import Derived.Test.YtiphlifnmmplaaaFr
import Derived.Lib.SmallJoins
namespace Go.Proofs.Ytiphlifnmmplaaa
open Go.ChangeShapes Go.WideShapes Go.ChangeAt Go.RowKit Go.Joins

/-- One triangle's steps are valid, and what they come to. -/
theorem tri_ok {ax ay bx by' cx cy : Int} (h1 : -1048576 ≤ ax ∧ ax ≤ 1048576) (h2 : -1048576 ≤ ay ∧ ay ≤ 1048576) (h3 : -1048576 ≤ bx ∧ bx ≤ 1048576) (h4 : -1048576 ≤ by' ∧ by' ≤ 1048576) (h5 : -1048576 ≤ cx ∧ cx ≤ 1048576) (h6 : -1048576 ≤ cy ∧ cy ≤ 1048576) :
    TriOk (Fl.fint ax) (Fl.fint ay) (Fl.fint bx) (Fl.fint by') (Fl.fint cx) (Fl.fint cy) ∧
    Fl.IntV (triB (Fl.fint ax) (Fl.fint ay) (Fl.fint bx) (Fl.fint by') (Fl.fint cx) (Fl.fint cy)) ((bx - ax) * (cy - ay) - (cx - ax) * (by' - ay)) := by
  have b1 := mul_bd (x := bx - ax) (y := cy - ay) (m := 2097152) (by omega) (by omega) (by omega) (by omega)
  have b2 := mul_bd (x := cx - ax) (y := by' - ay) (m := 2097152) (by omega) (by omega) (by omega) (by omega)
  have iax := Fl.IntV.fint (n := ax) (by omega) (by omega)
  have iay := Fl.IntV.fint (n := ay) (by omega) (by omega)
  have ibx := Fl.IntV.fint (n := bx) (by omega) (by omega)
  have iby := Fl.IntV.fint (n := by') (by omega) (by omega)
  have icx := Fl.IntV.fint (n := cx) (by omega) (by omega)
  have icy := Fl.IntV.fint (n := cy) (by omega) (by omega)
  obtain ⟨g1, i1⟩ := ibx.fsub iax (by omega) (by omega)
  obtain ⟨g2, i2⟩ := icy.fsub iay (by omega) (by omega)
  obtain ⟨g3, i3⟩ := i1.fmul i2 (by omega) (by omega)
  obtain ⟨g4, i4⟩ := icx.fsub iax (by omega) (by omega)
  obtain ⟨g5, i5⟩ := iby.fsub iay (by omega) (by omega)
  obtain ⟨g6, i6⟩ := i4.fmul i5 (by omega) (by omega)
  obtain ⟨g7, i7⟩ := i3.fsub i6 (by omega) (by omega)
  exact ⟨⟨g1, g2, g3, g4, g5, g6, g7⟩, i7⟩

theorem tri_facts {ax ay bx by' cx cy : Int} (h1 : -1048576 ≤ ax ∧ ax ≤ 1048576) (h2 : -1048576 ≤ ay ∧ ay ≤ 1048576) (h3 : -1048576 ≤ bx ∧ bx ≤ 1048576) (h4 : -1048576 ≤ by' ∧ by' ≤ 1048576) (h5 : -1048576 ≤ cx ∧ cx ≤ 1048576) (h6 : -1048576 ≤ cy ∧ cy ≤ 1048576) :
    ∃ T n1 n2 n3, TriFacts ax ay bx by' cx cy T n1 n2 n3 := by
  obtain ⟨k1, v1⟩ := tri_ok h1 h2 h3 h4 h5 h6
  obtain ⟨k2, v2⟩ := tri_ok h3 h4 h5 h6 h1 h2
  obtain ⟨k3, v3⟩ := tri_ok h3 h4 h1 h2 h5 h6
  have e2 : (cx - bx) * (ay - by') - (ax - bx) * (cy - by') = (bx - ax) * (cy - ay) - (cx - ax) * (by' - ay) := by grind
  have e3 : (ax - bx) * (cy - by') - (cx - bx) * (ay - by') = -((bx - ax) * (cy - ay) - (cx - ax) * (by' - ay)) := by grind
  have e4 : (bx - ax) * (cy - ay) - (by' - ay) * (cx - ax) = (bx - ax) * (cy - ay) - (cx - ax) * (by' - ay) := by grind
  rw [e2] at v2
  rw [e3] at v3
  refine ⟨_, _, _, _, ⟨k1, k2, k3, rfl, rfl, rfl, ?_, ?_, ?_, e4⟩⟩
  · rw [show FloatKind.f64.format = Ieee.double from rfl, Fl.order_eq_iff v2 v1]; simp
  · rw [show FloatKind.f64.format = Ieee.double from rfl, Fl.order_eq_iff v3 v1.neg]; simp
  · rw [show FloatKind.f64.format = Ieee.double from rfl, Fl.order_eq_iff v1 Fl.intV_zero]

theorem turned_any (ax ay bx by' cx cy : Int) (w : World) : Calls Try.prog 3 #[ixy ax ay, ixy bx by', ixy cx cy] w fun e w' => e = .returned (.bool true) ∧ Below w.heap.size w w' := by
  cases hall : [(ax, ay), (bx, by'), (cx, cy)].all (ptIn 1048576)
  · exact turned_out ax ay bx by' cx cy w hall
  · simp only [List.all_cons, List.all_nil, ptIn, Bool.and_true, Bool.and_eq_true, decide_eq_true_eq] at hall
    obtain ⟨T, n1, n2, n3, hF⟩ := tri_facts (ax := ax) (ay := ay) (bx := bx) (by' := by') (cx := cx) (cy := cy) (by omega) (by omega) (by omega) (by omega) (by omega) (by omega)
    exact turned_in ax ay bx by' cx cy T n1 n2 n3 w hF (by omega) (by omega) (by omega) (by omega) (by omega) (by omega)

set_option maxRecDepth 100000 in
theorem open_ixy {H : Type} {enc : TypeId × Value → H} {W : World} {base base' : Nat} {v : Value} {d : DataW H} {p : List MemPlace} (hv : Value.okWide Try.prog W .any base 23 v) (h : DataW.Trod enc Try.prog W base' (fun _ => true) true 23 v d p) : ∃ x y, v = ixy x y := by
  obtain ⟨c0, c1, y0, y1, m, rfl, rfl, rfl, hy0, hy1⟩ := open_agg2 Try.underlying23 (by kernel_rfl) (by kernel_rfl) hv h
  obtain ⟨a, e0, rfl, _⟩ := DataW.trod_int Try.underlying3 hy0
  obtain ⟨b, e1, rfl, _⟩ := DataW.trod_int Try.underlying3 hy1
  simp at e0 e1
  subst e0 e1
  exact ⟨a, b, rfl⟩

theorem own : ownKnob Try.prog.godebug = none := by kernel_rfl

set_option maxRecDepth 100000 in
theorem triangleTurned_lifted (os : Os) (started : os.Started) (H : Type) (enc : TypeId × Value → H) :
    ReturnsInHanded {} Try.checked os 3 .any (Rows.fnTriangleTurnedSpec.pre6 enc Try.prog Try.f3 Rows.fnTriangleTurnedRow.domain false) (Rows.fnTriangleTurnedSpec.post enc Try.prog Try.f3 false true false false) := by
  refine Fr.law_lifted (C := Try.checked) (tb := 4) own started (by kernel_rfl) Try.func3 (by kernel_rfl) rfl (by kernel_rfl) (by kernel_rfl) Try.underlying4 ?_
    (ChangeSpec.witness6 (enc := enc) (C := Try.checked) false ⟨#[], #[ixy 0 0, ixy 0 0, ixy 0 0], []⟩ 8 (by kernel_rfl) (by kernel_rfl) (by kernel_rfl) (by kernel_rfl)) ?_
  · intro ds hlen
    match ds, hlen with
    | [d1, d2, d3], _ => rfl
  · intro W base args ds ps hval0 hA0 _
    have hval : ∀ (j : Nat) t v, Try.f3.params[j]? = some t → args[j]? = some v → Value.okWide Try.prog W .any base t v := hval0
    have hA : DataW.TrodAll enc Try.prog W 0 (fun _ => true) true Try.f3.params.toList args.toList ds ps := hA0
    rw [Try.params3] at hA hval
    obtain ⟨v0, v1, v2, d0, d1, d2, p0, p1, p2, rfl, rfl, rfl, h0, h1, h2⟩ := trodAll_three hA
    obtain ⟨ax, ay, rfl⟩ := open_ixy (hval 0 23 v0 rfl rfl) h0
    obtain ⟨bx, by', rfl⟩ := open_ixy (hval 1 23 v1 rfl rfl) h1
    obtain ⟨cx, cy, rfl⟩ := open_ixy (hval 2 23 v2 rfl rfl) h2
    exact turned_any ax ay bx by' cx cy W

theorem triangleTurned_over : Rows.fnTriangleTurnedRow.holds Try.pinned (OpenSpec.ofChange Rows.fnTriangleTurnedSpec) :=
  OpenClaim.holds_of_wide 3 Try.f3 rfl rfl rfl rfl rfl rfl rfl ⟨rfl, rfl, rfl, rfl, rfl⟩ rfl rfl rfl rfl rfl (by kernel_rfl) Try.func3 (by kernel_rfl)
    (of_decide_eq_true (by kernel_rfl)) (by unfold Func.isWrapper; first | (rw [if_pos (by decide +kernel)]; kernel_rfl) | (rw [if_neg (by decide +kernel)]; exact ⟨rfl, rfl⟩))
    (fun os started H enc _ => triangleTurned_lifted os started H enc)

theorem triangleTurned_proved : Rows.FnTriangleTurnedSaid := triangleTurned_over
#print axioms triangleTurned_proved
end Go.Proofs.Ytiphlifnmmplaaa
