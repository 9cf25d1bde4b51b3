/- FnBoxJoin returns true at any two boxes, whatever their numbers and the memory; nothing that was there turns. No condition. -/
import Derived.Test.YtiphlifnmmplaaaRows
import Derived.Test.YtiphlifnmmplaaaWi
import Derived.Test.YtiphlifnmmplaaaFr
import Derived.Lib.SmallJoins
namespace Go.Proofs.Ytiphlifnmmplaaa
open Go.ChangeShapes Go.WideShapes Go.ChangeAt Go.RowKit Go.Joins

theorem fmin_eq {x y : Nat} {p q : Rat} (hx : Fl.Fv x p) (hy : Fl.Fv y q) : (FloatKind.f64.format.order (fminB x y) (Fl.minF x y) == some .eq) = true := by
  have h1 := Fl.minF_fv hx hy
  have h2 : Fl.Fv (fminB x y) (if p ≤ q then p else q) := by
    unfold fminB ltB
    rw [show FloatKind.f64.format = Ieee.double from rfl, Fl.order_lt_fv hx hy]
    by_cases h : p < q
    · rw [decide_eq_true h, cond_true, if_pos (Rat.le_of_lt h)]; exact hx
    · rw [decide_eq_false h, cond_false]
      by_cases h3 : p ≤ q
      · rw [if_pos h3, Rat.le_antisymm h3 (Rat.not_lt.1 h)]; exact hy
      · rw [if_neg h3]; exact hy
  rw [show FloatKind.f64.format = Ieee.double from rfl, Fl.order_eq_fv h2 h1]; simp
theorem fmax_eq {x y : Nat} {p q : Rat} (hx : Fl.Fv x p) (hy : Fl.Fv y q) : (FloatKind.f64.format.order (fmaxB x y) (Fl.maxF x y) == some .eq) = true := by
  have h1 := Fl.maxF_fv hx hy
  have h2 : Fl.Fv (fmaxB x y) (if p ≤ q then q else p) := by
    unfold fmaxB gtB
    rw [show FloatKind.f64.format = Ieee.double from rfl, Fl.order_gt_fv hx hy]
    by_cases h : q < p
    · rw [decide_eq_true h, cond_true, if_neg (Rat.not_le.2 h)]; exact hx
    · rw [decide_eq_false h, cond_false, if_pos (Rat.not_lt.1 h)]; exact hy
  rw [show FloatKind.f64.format = Ieee.double from rfl, Fl.order_eq_fv h2 h1]; simp
theorem box_facts {a b c d a' b' c' d' : Nat} (h : (Fl.finB a && Fl.finB b && Fl.finB c && Fl.finB d) = true) (h' : (Fl.finB a' && Fl.finB b' && Fl.finB c' && Fl.finB d') = true) : BoxFacts a b c d a' b' c' d' := by
  simp only [Bool.and_eq_true] at h h'
  obtain ⟨p1, f1⟩ := Fl.finB_fv h.1.1.1
  obtain ⟨p2, f2⟩ := Fl.finB_fv h.1.1.2
  obtain ⟨p3, f3⟩ := Fl.finB_fv h.1.2
  obtain ⟨p4, f4⟩ := Fl.finB_fv h.2
  obtain ⟨q1, g1⟩ := Fl.finB_fv h'.1.1.1
  obtain ⟨q2, g2⟩ := Fl.finB_fv h'.1.1.2
  obtain ⟨q3, g3⟩ := Fl.finB_fv h'.1.2
  obtain ⟨q4, g4⟩ := Fl.finB_fv h'.2
  exact ⟨⟨_, Fl.order_fv f1 g1⟩, ⟨_, Fl.order_fv f2 g2⟩, ⟨_, Fl.order_fv f3 g3⟩, ⟨_, Fl.order_fv f4 g4⟩, by rw [fmin_eq f1 g1, fmin_eq f2 g2, fmax_eq f3 g3, fmax_eq f4 g4]; rfl⟩
theorem lawbox_any (a b c d a' b' c' d' : Nat) (w : World) : Calls Try.prog 6 #[fbox a b c d, fbox a' b' c' d'] w fun e w' => e = .returned (.bool true) ∧ Below w.heap.size w w' := by
  cases h : (Fl.finB a && Fl.finB b && Fl.finB c && Fl.finB d)
  · exact lawbox_out _ _ _ _ _ _ _ _ w (.inl h)
  · cases h' : (Fl.finB a' && Fl.finB b' && Fl.finB c' && Fl.finB d')
    · exact lawbox_out _ _ _ _ _ _ _ _ w (.inr ⟨h, h'⟩)
    · exact lawbox_in _ _ _ _ _ _ _ _ w h h' (box_facts h h')
theorem trod_float1 {H : Type} {enc : TypeId × Value → H} {P : Program} {W : World} {base : Nat} {spare : Nat → Bool} {held : Bool} {n : Nat} {t : TypeId} {v : Value} {y : DataW H × List MemPlace} (ht : P.underlying t = some (.float .f64)) (h : DataW.trod enc P W base spare held n t [v] = some y) : ∃ b, v = .float .f64 b := by
  cases n with
  | zero => simp [DataW.trod] at h
  | succ n =>
    simp only [DataW.trod, ht] at h
    cases v <;> simp at h
    rename_i k b
    cases k <;> simp_all
set_option maxRecDepth 100000 in
theorem open_fbox {H : Type} {enc : TypeId × Value → H} {W : World} {base base' : Nat} {v : Value} {d : DataW H} {p : List MemPlace} (hv : Value.okWide Try.prog W .any base 41 v) (h : DataW.Trod enc Try.prog W base' (fun _ => true) true 41 v d p) : ∃ x y z t, v = fbox x y z t := by
  obtain ⟨c0, c1, c2, c3, y0, y1, y2, y3, m, rfl, rfl, rfl, hy0, hy1, hy2, hy3⟩ := open_agg4 Try.underlying41 (by kernel_rfl) (by kernel_rfl) hv h
  obtain ⟨a, rfl⟩ := trod_float1 Try.underlying26 hy0
  obtain ⟨b, rfl⟩ := trod_float1 Try.underlying26 hy1
  obtain ⟨c, rfl⟩ := trod_float1 Try.underlying26 hy2
  obtain ⟨d, rfl⟩ := trod_float1 Try.underlying26 hy3
  exact ⟨a, b, c, d, rfl⟩

theorem own : ownKnob Try.prog.godebug = none := by kernel_rfl

set_option maxRecDepth 100000 in
theorem boxJoin_lifted (os : Os) (started : os.Started) (H : Type) (enc : TypeId × Value → H) :
    ReturnsInHanded {} Try.checked os 6 .any (Rows.fnBoxJoinSpec.pre6 enc Try.prog Try.f6 Rows.fnBoxJoinRow.domain false) (Rows.fnBoxJoinSpec.post enc Try.prog Try.f6 false true false false) := by
  refine Fr.law_lifted (C := Try.checked) (tb := 4) own started (by kernel_rfl) Try.func6 (by kernel_rfl) rfl (by kernel_rfl) (by kernel_rfl) Try.underlying4 ?_
    (ChangeSpec.witness6 (enc := enc) (C := Try.checked) false ⟨#[], #[fbox 0 0 0 0, fbox 0 0 0 0], []⟩ 8 (by kernel_rfl) (by kernel_rfl) (by kernel_rfl) (by kernel_rfl)) ?_
  · intro ds hlen
    match ds, hlen with
    | [d1, d2], _ => rfl
  · intro W base args ds ps hval0 hA0 hlt
    have hval : ∀ (j : Nat) t v, Try.f6.params[j]? = some t → args[j]? = some v → Value.okWide Try.prog W .any base t v := hval0
    have hA : DataW.TrodAll enc Try.prog W 0 (fun _ => true) true Try.f6.params.toList args.toList ds ps := hA0
    rw [Try.params6] at hA hval
    obtain ⟨v0, v1, d0, d1, p0, p1, rfl, rfl, rfl, h0, h1⟩ := trodAll_two hA
    obtain ⟨a, b, c, d, rfl⟩ := open_fbox (hval 0 41 v0 rfl rfl) h0
    obtain ⟨a', b', c', d', rfl⟩ := open_fbox (hval 1 41 v1 rfl rfl) h1
    exact lawbox_any a b c d a' b' c' d' W

theorem boxJoin_over : Rows.fnBoxJoinRow.holds Try.pinned (OpenSpec.ofChange Rows.fnBoxJoinSpec) :=
  OpenClaim.holds_of_wide 6 Try.f6 rfl rfl rfl rfl rfl rfl rfl ⟨rfl, rfl, rfl, rfl, rfl⟩ rfl rfl rfl rfl rfl (by kernel_rfl) Try.func6 (by kernel_rfl)
    (of_decide_eq_true (by kernel_rfl)) (by unfold Func.isWrapper; first | (rw [if_pos (by decide +kernel)]; kernel_rfl) | (rw [if_neg (by decide +kernel)]; exact ⟨rfl, rfl⟩))
    (fun os started H enc _ => boxJoin_lifted os started H enc)

theorem boxJoin_proved : Rows.FnBoxJoinSaid := boxJoin_over
#print axioms boxJoin_proved
end Go.Proofs.Ytiphlifnmmplaaa
