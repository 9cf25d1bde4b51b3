/- FnEnvCovers returns true at any two envelopes, whatever their numbers and the memory; nothing that was there turns. No condition. -/
import Derived.Test.YtiphlifnmmplaaaRows
import Derived.Test.YtiphlifnmmplaaaWu
import Derived.Test.YtiphlifnmmplaaaFr
import Derived.Lib.SmallJoins
namespace Go.Proofs.Ytiphlifnmmplaaa
open Go.ChangeShapes Go.WideShapes Go.ChangeAt Go.RowKit Go.Joins

theorem leB_fv {x y : Nat} {p q : Rat} (hx : Fl.Fv x p) (hy : Fl.Fv y q) : leB x y = decide (p ≤ q) := Fl.order_le_fv hx hy
theorem geB_fv {x y : Nat} {p q : Rat} (hx : Fl.Fv x p) (hy : Fl.Fv y q) : geB x y = decide (q ≤ p) := Fl.order_ge_fv hx hy
theorem fminB_fv {x y : Nat} {p q : Rat} (hx : Fl.Fv x p) (hy : Fl.Fv y q) : Fl.Fv (fminB x y) (if p ≤ q then p else q) := by
  unfold fminB ltB
  rw [show FloatKind.f64.format = Ieee.double from rfl, Fl.order_lt_fv hx hy]
  by_cases h : p < q
  · rw [decide_eq_true h, cond_true, if_pos (Rat.le_of_lt h)]; exact hx
  · rw [decide_eq_false h, cond_false]
    by_cases h3 : p ≤ q
    · rw [if_pos h3, Rat.le_antisymm h3 (Rat.not_lt.1 h)]; exact hy
    · rw [if_neg h3]; exact hy
theorem fmaxB_fv {x y : Nat} {p q : Rat} (hx : Fl.Fv x p) (hy : Fl.Fv y q) : Fl.Fv (fmaxB x y) (if p ≤ q then q else p) := by
  unfold fmaxB gtB
  rw [show FloatKind.f64.format = Ieee.double from rfl, Fl.order_gt_fv hx hy]
  by_cases h : q < p
  · rw [decide_eq_true h, cond_true, if_neg (Rat.not_le.2 h)]; exact hx
  · rw [decide_eq_false h, cond_false, if_pos (Rat.not_lt.1 h)]; exact hy
theorem axis_plain (p q u v : Rat) : ((if p ≤ q then p else q) ≤ (if u ≤ v then u else v) ∧ (if u ≤ v then v else u) ≤ (if p ≤ q then q else p)) ↔ (((if q ≤ p then q else p) ≤ u ∧ u ≤ (if q ≤ p then p else q)) ∧ ((if q ≤ p then q else p) ≤ v ∧ v ≤ (if q ≤ p then p else q))) := by
  grind
theorem axis_law {a c a' c' : Nat} (ha : Fl.finB a = true) (hc : Fl.finB c = true) (ha' : Fl.finB a' = true) (hc' : Fl.finB c' = true) : (leB (fminB a c) (fminB a' c') && geB (fmaxB a c) (fmaxB a' c')) = ((leB (fminB c a) a' && leB a' (fmaxB c a)) && (leB (fminB c a) c' && leB c' (fmaxB c a))) := by
  obtain ⟨p, hp⟩ := Fl.finB_fv ha
  obtain ⟨q, hq⟩ := Fl.finB_fv hc
  obtain ⟨u, hu⟩ := Fl.finB_fv ha'
  obtain ⟨v, hv⟩ := Fl.finB_fv hc'
  rw [leB_fv (fminB_fv hp hq) (fminB_fv hu hv), geB_fv (fmaxB_fv hp hq) (fmaxB_fv hu hv), leB_fv (fminB_fv hq hp) hu, leB_fv hu (fmaxB_fv hq hp), leB_fv (fminB_fv hq hp) hv, leB_fv hv (fmaxB_fv hq hp)]
  rw [Bool.eq_iff_iff]
  simp only [Bool.and_eq_true, decide_eq_true_eq]
  exact axis_plain p q u v
theorem cov_law {a b c d a' b' c' d' : Nat} (h : (Fl.finB a && Fl.finB b && Fl.finB c && Fl.finB d) = true) (h' : (Fl.finB a' && Fl.finB b' && Fl.finB c' && Fl.finB d') = true) : (leB (fminB a c) (fminB a' c') && leB (fminB b d) (fminB b' d') && geB (fmaxB a c) (fmaxB a' c') && geB (fmaxB b d) (fmaxB b' d')) = (hasB a b c d a' b' && hasB a b c d c' d') := by
  simp only [Bool.and_eq_true] at h h'
  have e1 := axis_law h.1.1.1 h.1.2 h'.1.1.1 h'.1.2
  have e2 := axis_law h.1.1.2 h.2 h'.1.1.2 h'.2
  unfold hasB
  generalize leB (fminB a c) (fminB a' c') = x1 at *
  generalize geB (fmaxB a c) (fmaxB a' c') = x2 at *
  generalize leB (fminB b d) (fminB b' d') = x3 at *
  generalize geB (fmaxB b d) (fmaxB b' d') = x4 at *
  rw [show (x1 && x3 && x2 && x4) = ((x1 && x2) && (x3 && x4)) by cases x1 <;> cases x2 <;> cases x3 <;> cases x4 <;> rfl, e1, e2]
  generalize leB (fminB c a) a' = y1
  generalize leB a' (fmaxB c a) = y2
  generalize leB (fminB c a) c' = y3
  generalize leB c' (fmaxB c a) = y4
  generalize leB (fminB d b) b' = y5
  generalize leB b' (fmaxB d b) = y6
  generalize leB (fminB d b) d' = y7
  generalize leB d' (fmaxB d b) = y8
  cases y1 <;> cases y2 <;> cases y3 <;> cases y4 <;> simp
def covQ (f : Bool) (a b c d a' b' c' d' : Nat) : Nat → Bool
  | 0 => f
  | 1 => f && hasB a b c d a' b'
  | _ => (f && hasB a b c d a' b') && hasB a b c d c' d'
theorem lawcov_any (f : Bool) (a b c d : Nat) (f' : Bool) (a' b' c' d' : Nat) (w : World) : Calls Try.prog 7 #[lenv f a b c d, lenv f' a' b' c' d'] w fun e w' => e = .returned (.bool true) ∧ Below w.heap.size w w' := by
  cases hf : ([⟨f, a, b, c, d⟩, ⟨f', a', b', c', d'⟩] : List En).all En.fit
  · exact lawcov_out _ _ _ _ _ _ _ _ _ _ w hf
  · have hf2 := hf
    simp only [List.all_cons, List.all_nil, Bool.and_true, Bool.and_eq_true, En.fit] at hf2
    have q3 : ∀ k u v, [(a', b'), (c', d')][k]? = some (u, v) → covQ f a b c d a' b' c' d' (k + 1) = (covQ f a b c d a' b' c' d' k && hasB a b c d u v) := fun k u v hk => by
      match k, hk with
      | 0, hk => simp at hk; obtain ⟨rfl, rfl⟩ := hk; rfl
      | 1, hk => simp at hk; obtain ⟨rfl, rfl⟩ := hk; rfl
      | k + 2, hk => simp at hk
    have q2 : ∀ k, covQ f a b c d a' b' c' d' k = true → f = true := fun k hk => by
      match k, hk with
      | 0, hk => exact hk
      | 1, hk => simp [covQ] at hk; exact hk.1
      | k + 2, hk => simp [covQ] at hk; exact hk.1.1
    cases f'
    · refine lawcov_bnone _ _ _ _ _ _ _ _ _ w hf ?_
      intro w
      cases f
      · exact implCovers_of _ _ _ _ _ _ _ _ _ _ _ _ _ _ rfl rfl false (fun w => envelope_none _ _ _ _ w) (fun w => envelope_none _ _ _ _ w) (fun w => covers_none1 _ _ _ _ _ _ _ _ _ w) w
      · have h1 := hf2.1
        simp only [Bool.not_true, Bool.false_or, Bool.and_eq_true] at h1
        exact implCovers_of _ _ _ _ _ _ _ _ _ _ _ _ _ _ rfl rfl false (fun w => envelope_some _ _ _ _ h1.1.1.1 h1.1.1.2 w) (fun w => envelope_none _ _ _ _ w) (fun w => covers_none2 _ _ _ _ _ _ _ _ w) w
    · have h2 := hf2.2
      simp only [Bool.not_true, Bool.false_or] at h2
      have h2' := h2
      simp only [Bool.and_eq_true] at h2'
      refine lawcov_two f _ _ _ _ _ _ _ _ (covQ f a b c d a' b' c' d') w hf rfl q2 q3 ?_
      intro w
      cases f
      · exact implCovers_of _ _ _ _ _ _ _ _ _ _ _ _ _ _ rfl rfl false (fun w => envelope_none _ _ _ _ w) (fun w => envelope_some _ _ _ _ h2'.1.1.1 h2'.1.1.2 w) (fun w => covers_none1 _ _ _ _ _ _ _ _ _ w) w
      · have h1 := hf2.1
        simp only [Bool.not_true, Bool.false_or] at h1
        have h1' := h1
        simp only [Bool.and_eq_true] at h1'
        have e : covQ true a b c d a' b' c' d' 2 = (leB (fminB a c) (fminB a' c') && leB (fminB b d) (fminB b' d') && geB (fmaxB a c) (fmaxB a' c') && geB (fmaxB b d) (fmaxB b' d')) := by rw [cov_law h1 h2]; simp [covQ]
        rw [e]
        exact implCovers_of _ _ _ _ _ _ _ _ _ _ _ _ _ _ rfl rfl _ (fun w => envelope_some _ _ _ _ h1'.1.1.1 h1'.1.1.2 w) (fun w => envelope_some _ _ _ _ h2'.1.1.1 h2'.1.1.2 w) (fun w => covers_any _ _ _ _ _ _ _ _ w) w
theorem trod_float1 {H : Type} {enc : TypeId × Value → H} {P : Program} {W : World} {base : Nat} {spare : Nat → Bool} {held : Bool} {n : Nat} {t : TypeId} {v : Value} {y : DataW H × List MemPlace} (ht : P.underlying t = some (.float .f64)) (h : DataW.trod enc P W base spare held n t [v] = some y) : ∃ b, v = .float .f64 b := by
  cases n with
  | zero => simp [DataW.trod] at h
  | succ n =>
    simp only [DataW.trod, ht] at h
    cases v <;> simp at h
    rename_i k b
    cases k <;> simp_all
theorem trod_bool1 {H : Type} {enc : TypeId × Value → H} {P : Program} {W : World} {base : Nat} {spare : Nat → Bool} {held : Bool} {n : Nat} {t : TypeId} {v : Value} {y : DataW H × List MemPlace} (ht : P.underlying t = some .bool) (h : DataW.trod enc P W base spare held n t [v] = some y) : ∃ b, v = .bool b := by
  cases n with
  | zero => simp [DataW.trod] at h
  | succ n =>
    simp only [DataW.trod, ht] at h
    cases v <;> simp at h
    exact ⟨_, rfl⟩
theorem array5 {α : Type} {cs : Array α} (h : cs.size = 5) : ∃ c0 c1 c2 c3 c4, cs = #[c0, c1, c2, c3, c4] := by
  obtain ⟨l⟩ := cs
  match l, h with
  | [c0, c1, c2, c3, c4], _ => exact ⟨c0, c1, c2, c3, c4, rfl⟩
set_option maxRecDepth 100000 in
theorem open_lenv {H : Type} {enc : TypeId × Value → H} {W : World} {base base' : Nat} {v : Value} {d : DataW H} {p : List MemPlace} (hv : Value.okWide Try.prog W .any base 46 v) (h : DataW.Trod enc Try.prog W base' (fun _ => true) true 46 v d p) : ∃ f a b c e, v = lenv f a b c e := by
  obtain ⟨cs, rfl, hsz⟩ := okWide_struct Try.underlying46 hv
  have hC : Try.prog.cellsOf 46 = 5 := by kernel_rfl
  obtain ⟨c0, c1, c2, c3, c4, rfl⟩ := array5 (hsz.trans hC)
  obtain ⟨fuel, hf⟩ := h
  obtain ⟨y0, y1, n, hx, _, h0, h1⟩ := trod_struct2 Try.underlying46 hf
  have k1 : Try.prog.cellsOf 4 = 1 := by kernel_rfl
  have k4 : Try.prog.cellsOf 41 = 4 := by kernel_rfl
  have k26 : Try.prog.cellsOf 26 = 1 := by kernel_rfl
  simp only [Value.cells, k1] at h0
  simp only [Value.cells, k4] at h1
  obtain ⟨f, rfl⟩ := trod_bool1 Try.underlying4 h0
  obtain ⟨z0, z1, z2, z3, n', hx', _, g0, g1, g2, g3⟩ := trod_struct4 Try.underlying41 h1
  simp only [k26] at g0 g1 g2 g3
  obtain ⟨a, rfl⟩ := trod_float1 Try.underlying26 g0
  obtain ⟨b, rfl⟩ := trod_float1 Try.underlying26 g1
  obtain ⟨c, rfl⟩ := trod_float1 Try.underlying26 g2
  obtain ⟨e, rfl⟩ := trod_float1 Try.underlying26 g3
  exact ⟨f, a, b, c, e, rfl⟩

theorem own : ownKnob Try.prog.godebug = none := by kernel_rfl

set_option maxRecDepth 100000 in
theorem envCovers_lifted (os : Os) (started : os.Started) (H : Type) (enc : TypeId × Value → H) :
    ReturnsInHanded {} Try.checked os 7 .any (Rows.fnEnvCoversSpec.pre6 enc Try.prog Try.f7 Rows.fnEnvCoversRow.domain false) (Rows.fnEnvCoversSpec.post enc Try.prog Try.f7 false true false false) := by
  refine Fr.law_lifted (C := Try.checked) (tb := 4) own started (by kernel_rfl) Try.func7 (by kernel_rfl) rfl (by kernel_rfl) (by kernel_rfl) Try.underlying4 ?_
    (ChangeSpec.witness6 (enc := enc) (C := Try.checked) false ⟨#[], #[lenv false 0 0 0 0, lenv false 0 0 0 0], []⟩ 8 (by kernel_rfl) (by kernel_rfl) (by kernel_rfl) (by kernel_rfl)) ?_
  · intro ds hlen
    match ds, hlen with
    | [d1, d2], _ => rfl
  · intro W base args ds ps hval0 hA0 hlt
    have hval : ∀ (j : Nat) t v, Try.f7.params[j]? = some t → args[j]? = some v → Value.okWide Try.prog W .any base t v := hval0
    have hA : DataW.TrodAll enc Try.prog W 0 (fun _ => true) true Try.f7.params.toList args.toList ds ps := hA0
    rw [Try.params7] at hA hval
    obtain ⟨v0, v1, d0, d1, p0, p1, rfl, rfl, rfl, h0, h1⟩ := trodAll_two hA
    obtain ⟨f, a, b, c, d, rfl⟩ := open_lenv (hval 0 46 v0 rfl rfl) h0
    obtain ⟨f', a', b', c', d', rfl⟩ := open_lenv (hval 1 46 v1 rfl rfl) h1
    exact lawcov_any f a b c d f' a' b' c' d' W

theorem envCovers_over : Rows.fnEnvCoversRow.holds Try.pinned (OpenSpec.ofChange Rows.fnEnvCoversSpec) :=
  OpenClaim.holds_of_wide 7 Try.f7 rfl rfl rfl rfl rfl rfl rfl ⟨rfl, rfl, rfl, rfl, rfl⟩ rfl rfl rfl rfl rfl (by kernel_rfl) Try.func7 (by kernel_rfl)
    (of_decide_eq_true (by kernel_rfl)) (by unfold Func.isWrapper; first | (rw [if_pos (by decide +kernel)]; kernel_rfl) | (rw [if_neg (by decide +kernel)]; exact ⟨rfl, rfl⟩))
    (fun os started H enc _ => envCovers_lifted os started H enc)

theorem envCovers_proved : Rows.FnEnvCoversSaid := envCovers_over
#print axioms envCovers_proved
end Go.Proofs.Ytiphlifnmmplaaa
