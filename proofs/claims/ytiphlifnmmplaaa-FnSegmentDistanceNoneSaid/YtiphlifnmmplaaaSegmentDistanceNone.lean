/- FnSegmentDistanceNone returns true at any three places of whole numbers, whatever the memory; nothing that was there turns. No condition. -/
import Derived.Test.YtiphlifnmmplaaaRows
import Derived.Test.YtiphlifnmmplaaaXc
import Derived.Test.YtiphlifnmmplaaaFr
import Derived.Lib.SmallJoins
namespace Go.Proofs.Ytiphlifnmmplaaa
open Go.ChangeShapes Go.WideShapes Go.ChangeAt Go.RowKit Go.Joins

theorem segDist_any (px py ax ay bx by' : Int) (w : World) : Calls Try.prog 10 #[ixy px py, ixy ax ay, ixy bx by'] w fun e w' => e = .returned (.bool true) ∧ Below w.heap.size w w' := by
  cases hne : (ax == bx && ay == by')
  · cases hall : [(px, py), (ax, ay), (bx, by')].all (ptIn 256)
    · exact segDist_out ax ay bx by' px py w hall
    · have hall2 := hall
      simp only [List.all_cons, List.all_nil, ptIn, Bool.and_true, Bool.and_eq_true, decide_eq_true_eq] at hall2
      have hne2 : ¬ (ax = bx ∧ ay = by') := by
        rintro ⟨rfl, rfl⟩
        simp at hne
      have hh := fun w => holds_any ax ay bx by' px py w (by omega) (by omega) (by omega) (by omega) (by omega) (by omega)
      generalize hB : holdsB ((bx - ax) * (py - ay) - (by' - ay) * (px - ax)) (if bx < ax then bx else ax) (if ax < bx then bx else ax) (if by' < ay then by' else ay) (if ay < by' then by' else ay) px py = B at hh
      have hon : B = true ↔ Fl.OnSeg (bx - ax) (by' - ay) (px - ax) (py - ay) := by
        rw [← hB]
        unfold holdsB Fl.OnSeg
        simp only [Bool.and_eq_true, decide_eq_true_eq, beq_iff_eq]
        generalize (bx - ax) * (py - ay) - (by' - ay) * (px - ax) = c
        constructor
        · rintro ⟨⟨⟨⟨h1, h2⟩, h3⟩, h4⟩, h5⟩
          refine ⟨h1, ?_, ?_, ?_, ?_⟩
          · split at h2 <;> omega
          · split at h3 <;> omega
          · split at h4 <;> omega
          · split at h5 <;> omega
        · rintro ⟨h1, h2, h3, h4, h5⟩
          refine ⟨⟨⟨⟨h1, ?_⟩, ?_⟩, ?_⟩, ?_⟩
          · split <;> omega
          · split <;> omega
          · split <;> omega
          · split <;> omega
      obtain ⟨hH, hM, hT, hE⟩ := Fl.seg_dist (ax := ax) (ay := ay) (bx := bx) (by' := by') (px := px) (py := py) (by omega) (by omega) (by omega) (by omega) (by omega) (by omega) hne2 (B = true) hon
      refine segDist_in ax ay bx by' px py w B _ hne hall ?_ (fun w => implDist_any _ _ _ _ _ _ _ (fun w => doorDist_any _ _ _ _ _ _ _ (fun w => foot_any _ _ _ _ _ _ hH hM hT w) w) w) hh
      have e : decide (B = true) = B := by cases B <;> rfl
      rw [e] at hE
      exact hE
  · simp only [Bool.and_eq_true, beq_iff_eq] at hne
    obtain ⟨rfl, rfl⟩ := hne
    exact segDist_same ax ay px py _ w rfl

set_option maxRecDepth 100000 in
theorem open_ixy {H : Type} {enc : TypeId × Value → H} {W : World} {base base' : Nat} {v : Value} {d : DataW H} {p : List MemPlace} (hv : Value.okWide Try.prog W .any base 23 v) (h : DataW.Trod enc Try.prog W base' (fun _ => true) true 23 v d p) : ∃ x y, v = ixy x y := by
  obtain ⟨c0, c1, y0, y1, m, rfl, rfl, rfl, hy0, hy1⟩ := open_agg2 Try.underlying23 (by kernel_rfl) (by kernel_rfl) hv h
  obtain ⟨a, e0, rfl, _⟩ := DataW.trod_int Try.underlying3 hy0
  obtain ⟨b, e1, rfl, _⟩ := DataW.trod_int Try.underlying3 hy1
  simp at e0 e1
  subst e0 e1
  exact ⟨a, b, rfl⟩

theorem own : ownKnob Try.prog.godebug = none := by kernel_rfl

set_option maxRecDepth 100000 in
theorem segmentDistanceNone_lifted (os : Os) (started : os.Started) (H : Type) (enc : TypeId × Value → H) :
    ReturnsInHanded {} Try.checked os 10 .any (Rows.fnSegmentDistanceNoneSpec.pre6 enc Try.prog Try.f10 Rows.fnSegmentDistanceNoneRow.domain false) (Rows.fnSegmentDistanceNoneSpec.post enc Try.prog Try.f10 false true false false) := by
  refine Fr.law_lifted (C := Try.checked) (tb := 4) own started (by kernel_rfl) Try.func10 (by kernel_rfl) rfl (by kernel_rfl) (by kernel_rfl) Try.underlying4 ?_
    (ChangeSpec.witness6 (enc := enc) (C := Try.checked) false ⟨#[], #[ixy 0 0, ixy 0 0, ixy 0 0], []⟩ 8 (by kernel_rfl) (by kernel_rfl) (by kernel_rfl) (by kernel_rfl)) ?_
  · intro ds hlen
    match ds, hlen with
    | [d1, d2, d3], _ => rfl
  · intro W base args ds ps hval0 hA0 hlt
    have hval : ∀ (j : Nat) t v, Try.f10.params[j]? = some t → args[j]? = some v → Value.okWide Try.prog W .any base t v := hval0
    have hA : DataW.TrodAll enc Try.prog W 0 (fun _ => true) true Try.f10.params.toList args.toList ds ps := hA0
    rw [Try.params10] at hA hval
    obtain ⟨v0, v1, v2, d0, d1, d2, p0, p1, p2, rfl, rfl, rfl, h0, h1, h2⟩ := trodAll_three hA
    obtain ⟨ax, ay, rfl⟩ := open_ixy (hval 0 23 v0 rfl rfl) h0
    obtain ⟨bx, by', rfl⟩ := open_ixy (hval 1 23 v1 rfl rfl) h1
    obtain ⟨px, py, rfl⟩ := open_ixy (hval 2 23 v2 rfl rfl) h2
    exact segDist_any ax ay bx by' px py W

theorem segmentDistanceNone_over : Rows.fnSegmentDistanceNoneRow.holds Try.pinned (OpenSpec.ofChange Rows.fnSegmentDistanceNoneSpec) :=
  OpenClaim.holds_of_wide 10 Try.f10 rfl rfl rfl rfl rfl rfl rfl ⟨rfl, rfl, rfl, rfl, rfl⟩ rfl rfl rfl rfl rfl (by kernel_rfl) Try.func10 (by kernel_rfl)
    (of_decide_eq_true (by kernel_rfl)) (by unfold Func.isWrapper; first | (rw [if_pos (by decide +kernel)]; kernel_rfl) | (rw [if_neg (by decide +kernel)]; exact ⟨rfl, rfl⟩))
    (fun os started H enc _ => segmentDistanceNone_lifted os started H enc)

theorem segmentDistanceNone_proved : Rows.FnSegmentDistanceNoneSaid := segmentDistanceNone_over
#print axioms segmentDistanceNone_proved
end Go.Proofs.Ytiphlifnmmplaaa
