/- Regions that draw their order, whatever the program: a walk that has carried out the first operations one by one goes on by the quiet walk in the order of the text. Conditions are stated at each lemma. -/
import Derived.WalkKit
import Derived.Deep.Quiet
import Derived.Deep.RegionHeld
import Derived.Lib.QuietBelow
namespace Go.Rh
open Go.RowKit Go.Sort

section
variable {P : Program} {ops : Array Oper} {md : Region.Mode} {C S : World → Prop}
theorem wpAnyH_of_quiet (hCS : ∀ w, C w → S w) {Q : Act → Prop} {Q' : Exit → Act → World → Prop} (hQ : ∀ a w, C w → Q a → Q' .normal a w) : ∀ (fuel : Nat) (listed : Array Bool) (a : Act) (w : World), C w →
    wpAnyQ P md ops C Q fuel listed a → wpAnyH P md ops Q' S fuel listed a w
  | 0, _, _, _, hw, h => ⟨h.1, hQ _ _ hw h.2⟩
  | fuel + 1, _, _, _, hw, h => ⟨fun h0 => hQ _ _ hw (h.1 h0), fun i hi => wpOp_of_qOp hw (fun a' w' hw' hk => ⟨hCS _ hw', wpAnyH_of_quiet hCS hQ fuel _ a' w' hw' hk⟩) (h.2 i hi)⟩

/-- The quiet walk, behind a name that no tactic unfolds: where the next operation is passed over, 'wpQuiet' itself is run on by every tactic that looks at the goal. -/
@[irreducible] def qw (P : Program) (ops : Array Oper) (C : World → Prop) (Q : Act → Prop) (l : List Oper) (a : Act) : Prop := wpQuiet P ops C Q l a
theorem of_qw {Q : Act → Prop} {l : List Oper} {a : Act} (h : qw P ops C Q l a) : wpQuiet P ops C Q l a := by
  unfold qw at h; exact h
theorem qw_nil {Q : Act → Prop} {a : Act} (h : Q a) : qw P ops C Q [] a := by
  unfold qw; exact h
theorem qw_step {Q : Act → Prop} {a : Act} {o : Oper} {rest : List Oper}
    (h : ∀ K : Act → Prop, (∀ a, qw P ops C Q rest a → K a) → if Region.wanted o (yielded ops a.tmps) then o.quiet P a C K else K (a.put o.dst undef)) : qw P ops C Q (o :: rest) a := by
  unfold qw
  exact h (wpQuiet P ops C Q rest) (fun a ha => of_qw ha)
theorem region_below {id : Nat} {Q : Exit → Act → World → Prop} {a : Act} {w : World} {l : List Oper} (hm : P.follows .mixedOrders = true) (hB : Region.lexB .any l.toArray = true)
    (h : qw P l.toArray (fun w' => ∃ p : Regrown, w' = grow (redrawn w p.d) p.os) (fun a' => ∀ w', (∃ p : Regrown, w' = grow (redrawn w p.d) p.os) → Q .normal a' w') l a) : (Code.region id l.toArray true).wp P Q a w :=
  wp_region_quiet_below hm hB (of_qw h)

/-- The operations from the k-th on, by the quiet walk. -/
theorem wpAnyH_lex {Q' : Exit → Act → World → Prop} (k : Nat) {n : Nat} {listed : Array Bool} {a : Act} {w : World} (hCS : ∀ w, C w → S w) (hC : C w) (hs : Region.noSelect ops = true)
    (hn : (ops.toList.drop k).length = n) (hB : Region.lexFrom md ops n k listed = true)
    (h : wpQuiet P ops C (fun a' => ∀ w', C w' → Q' .normal a' w') (ops.toList.drop k) a) : wpAnyH P md ops Q' S n listed a w := by
  subst hn
  exact wpAnyH_of_quiet hCS (Q := fun a' => ∀ w', C w' → Q' .normal a' w') (fun _ w' hw' h => h w' hw') _ _ _ _ hC
    (wpAnyQ_lex hs _ k listed a (fun j => by simp) hB h)
/-- The class 'w with whatever count of draws, with some blocks laid behind it'. -/
theorem wpAnyH_below {Q' : Exit → Act → World → Prop} (k : Nat) {n : Nat} {listed : Array Bool} {a : Act} {w : World} (hCS : ∀ d os, S (grow (redrawn w d) os)) (hs : Region.noSelect ops = true)
    (hn : (ops.toList.drop k).length = n) (hB : Region.lexFrom md ops n k listed = true)
    (h : qw P ops (fun w' => ∃ p : Regrown, w' = grow (redrawn w p.d) p.os) (fun a' => ∀ w', (∃ p : Regrown, w' = grow (redrawn w p.d) p.os) → Q' .normal a' w') (ops.toList.drop k) a) : wpAnyH P md ops Q' S n listed a w :=
  wpAnyH_lex k (fun w' ⟨p, hp⟩ => hp ▸ hCS p.d p.os) ⟨⟨w.drawn, #[]⟩, by rw [grow_empty]; rfl⟩ hs hn hB (of_qw h)

/-! A last operation that waits for all others and may write: the others by the quiet walk, then the last one. -/
/-- The last operation, struck. -/
def struck (ops : Array Oper) (n : Nat) : Array Oper := ops.modify n fun o => { o with dst := none, op := .move (.const undef), guard := none }
def tailB (ops : Array Oper) (n : Nat) : Bool :=
  (n + 1 == ops.size) && (List.range ops.size).all (fun i => match ops[i]? with
    | some o => o.after.all (fun e => !Region.binds .any e || decide (e.on < i)) && (match o.guard with | some (j, _) => j != n | none => true)
    | none => true) && (match ops[n]? with
    | some o => (List.range n).all (fun i => o.after.any fun e => Region.binds .any e && e.on == i)
    | none => false)

theorem struck_ne {n i : Nat} (h : i ≠ n) : (struck ops n)[i]? = ops[i]? := by
  unfold struck
  rw [Array.getElem?_modify, if_neg (fun e => h e.symm)]
theorem struck_at {n : Nat} : (struck ops n)[n]? = (ops[n]?).map fun o => { o with dst := none, op := .move (.const undef), guard := none } := by
  unfold struck
  rw [Array.getElem?_modify, if_pos rfl]
theorem struck_size {n : Nat} : (struck ops n).size = ops.size := by unfold struck; simp
theorem struck_after {n i : Nat} : ((struck ops n)[i]?).map (·.after) = (ops[i]?).map (·.after) := by
  by_cases h : i = n
  · subst h; rw [struck_at]; cases ops[i]? <;> rfl
  · rw [struck_ne h]
theorem struck_ready {n : Nat} {listed : Array Bool} : Region.ready md (struck ops n) listed = Region.ready md ops listed := by
  unfold Region.ready
  rw [struck_size]
  congr 1
  funext i
  have h := struck_after (ops := ops) (n := n) (i := i)
  cases h1 : (struck ops n)[i]? <;> cases h2 : ops[i]? <;> rw [h1, h2] at h <;> simp at h <;> simp [h]

theorem wpAny_tail {n : Nat} (hT : tailB ops n = true) {Qe : Act → Prop} {Q' : Exit → Act → World → Prop}
    (hQ : ∀ a w, C w → Qe a → wpOp P ops Q' n (fun a' w' => Q' .normal a' w') a w) : ∀ (fuel : Nat) (listed : Array Bool) (a : Act) (w : World), C w →
    listed.size = ops.size → listed.getD n true = false → (∀ i, i < ops.size → listed.getD i true = false → i < n + 1) → fuel ≠ 0 →
    wpAnyQ P .any (struck ops n) C Qe fuel listed a → wpAny P .any ops Q' fuel listed a w := by
  unfold tailB at hT
  simp only [Bool.and_eq_true, beq_iff_eq] at hT
  obtain ⟨⟨hsz, hall⟩, hlast⟩ := hT
  have hback : ∀ i o, ops[i]? = some o → ∀ e ∈ o.after, Region.binds .any e = true → e.on < i := fun i o ho e he hb => by
    have hlt : i < ops.size := (Array.getElem?_eq_some_iff.1 ho).1
    have h := List.all_eq_true.1 hall i (List.mem_range.2 hlt)
    simp only [ho, Bool.and_eq_true, Array.all_eq_true_iff_forall_mem, Bool.or_eq_true, Bool.not_eq_true', decide_eq_true_eq] at h
    rcases h.1 e he with h1 | h1
    · rw [hb] at h1; cases h1
    · exact h1
  have hg : ∀ (i : Nat) (o : Oper) (j : Nat) (b : Bool), ops[i]? = some o → o.guard = some (j, b) → j ≠ n := fun i o j b ho hgd => by
    have hlt : i < ops.size := (Array.getElem?_eq_some_iff.1 ho).1
    have h := List.all_eq_true.1 hall i (List.mem_range.2 hlt)
    simp only [ho, Bool.and_eq_true] at h
    have h2 := h.2
    rw [hgd] at h2
    simpa using h2
  obtain ⟨on, hon⟩ : ∃ on, ops[n]? = some on := ⟨ops[n]'(by omega), by simp⟩
  have hsink : ∀ i, i < n → ∃ e ∈ on.after, Region.binds .any e = true ∧ e.on = i := fun i hi => by
    simp only [hon] at hlast
    have h := List.all_eq_true.1 hlast i (List.mem_range.2 hi)
    obtain ⟨e, he, hb⟩ := Array.any_eq_true'.1 h
    simp only [Bool.and_eq_true, beq_iff_eq] at hb
    exact ⟨e, he, hb.1, hb.2⟩
  intro fuel
  induction fuel with
  | zero => intro listed a w _ _ _ _ h; exact absurd rfl h
  | succ f ih =>
    intro listed a w hw hls hln hun _ h
    have hne : Region.ready .any ops listed ≠ [] := by
      -- the least that has not come up may come up
      have key : ∀ d i, i < d → i ≤ n → listed.getD i true = false → ∃ j, j ∈ Region.ready .any ops listed := by
        intro d
        induction d with
        | zero => intro i hi; omega
        | succ d ihd =>
          intro i hi hin hli
          obtain ⟨o, ho⟩ : ∃ o, ops[i]? = some o := ⟨ops[i]'(by omega), by simp⟩
          by_cases hr : i ∈ Region.ready .any ops listed
          · exact ⟨i, hr⟩
          · have : ¬ ∀ e ∈ o.after, Region.binds .any e = true → listed.getD e.on false = true := fun hh => hr (mem_ready.2 ⟨hli, o, ho, hh⟩)
            have hex : ∃ e, e ∈ o.after ∧ Region.binds .any e = true ∧ listed.getD e.on false = false := by
              apply Classical.byContradiction
              intro hno
              apply this
              intro e he hb
              cases hc : listed.getD e.on false with
              | true => rfl
              | false => exact absurd ⟨e, he, hb, hc⟩ hno
            obtain ⟨e, he, hb, hc⟩ := hex
            have hlt := hback i o ho e he hb
            refine ihd e.on (by omega) (by omega) ?_
            have h5 : e.on < listed.size := by omega
            simp [h5] at hc ⊢; exact hc
      obtain ⟨j, hj⟩ := key (n + 1) n (by omega) (Nat.le_refl _) hln
      intro h0; rw [h0] at hj; cases hj
    refine ⟨fun h0 => absurd h0 hne, fun i hi => ?_⟩
    have h2 := h.2 i (by rw [struck_ready]; exact hi)
    by_cases hin : i = n
    · subst hin
      -- all others have come up
      obtain ⟨_, o, ho, hh⟩ := mem_ready.1 hi
      rw [hon] at ho; cases ho
      have hdone : Region.ready .any ops (listed.setIfInBounds i true) = [] := by
        apply List.eq_nil_iff_forall_not_mem.2
        intro k hk
        obtain ⟨hk1, ok, hok, _⟩ := mem_ready.1 hk
        have hklt : k < ops.size := (Array.getElem?_eq_some_iff.1 hok).1
        by_cases hki : k = i
        · subst hki
          rw [Array.getD_eq_getD_getElem?, Array.getElem?_setIfInBounds] at hk1
          simp [show k < listed.size by omega] at hk1
        · rw [getD_set_ne true (Ne.symm hki)] at hk1
          obtain ⟨e, he, hb, hek⟩ := hsink k (by omega)
          have h3 := hh e he hb
          rw [hek] at h3
          have h5 : k < listed.size := by omega
          simp [h5] at hk1 h3; rw [hk1] at h3; cases h3
      have hqe : Qe a := by
        unfold qOp at h2
        rw [struck_at, hon] at h2
        simp only [Option.map_some, Region.wanted, if_true] at h2
        obtain ⟨v, _, h4⟩ := h2
        have h5 : wpAnyQ P .any (struck ops i) C Qe f (listed.setIfInBounds i true) a := h4
        cases f with
        | zero => exact h5.2
        | succ g => exact h5.1 (by rw [struck_ready]; exact hdone)
      refine wpOp_mono (fun a' w' hq => ?_) (hQ a w hw hqe)
      cases f with
      | zero => exact ⟨hdone, hq⟩
      | succ g => exact ⟨fun _ => hq, fun k hk => by rw [hdone] at hk; cases hk⟩
    · obtain ⟨hi1, o, ho, _⟩ := mem_ready.1 hi
      have hilt : i < ops.size := (Array.getElem?_eq_some_iff.1 ho).1
      have hwant : Region.wanted o (yielded (struck ops n) a.tmps) = Region.wanted o (yielded ops a.tmps) := by
        unfold Region.wanted
        cases hgd : o.guard with
        | none => rfl
        | some jb =>
          obtain ⟨j, b⟩ := jb
          have hjn := hg i o j b ho hgd
          simp only [yielded, struck_ne hjn]
      have h3 : qOp P ops C i (wpAnyQ P .any (struck ops n) C Qe f (listed.setIfInBounds i true)) a := by
        unfold qOp at h2 ⊢
        rw [struck_ne hin, ho] at h2
        rw [ho]
        simp only [hwant] at h2 ⊢
        exact h2
      have hln' : (listed.setIfInBounds i true).getD n true = false := by rw [getD_set_ne true hin]; exact hln
      have hf : f ≠ 0 := by
        intro hf0
        subst hf0
        -- n has not come up: with no fuel left the quiet walk would be at its end
        have hready : ∃ k, k ∈ Region.ready .any ops (listed.setIfInBounds i true) := by
          have key : ∀ d k, k < d → k ≤ n → (listed.setIfInBounds i true).getD k true = false → ∃ j, j ∈ Region.ready .any ops (listed.setIfInBounds i true) := by
            intro d
            induction d with
            | zero => intro k hk; omega
            | succ d ihd =>
              intro k hk hkn hlk
              obtain ⟨ok, hok⟩ : ∃ o, ops[k]? = some o := ⟨ops[k]'(by omega), by simp⟩
              by_cases hr : k ∈ Region.ready .any ops (listed.setIfInBounds i true)
              · exact ⟨k, hr⟩
              · have : ¬ ∀ e ∈ ok.after, Region.binds .any e = true → (listed.setIfInBounds i true).getD e.on false = true := fun hh => hr (mem_ready.2 ⟨hlk, ok, hok, hh⟩)
                have hex : ∃ e, e ∈ ok.after ∧ Region.binds .any e = true ∧ (listed.setIfInBounds i true).getD e.on false = false := by
                  apply Classical.byContradiction
                  intro hno
                  apply this
                  intro e he hb
                  cases hc : (listed.setIfInBounds i true).getD e.on false with
                  | true => rfl
                  | false => exact absurd ⟨e, he, hb, hc⟩ hno
                obtain ⟨e, he, hb, hc⟩ := hex
                have hlt := hback k ok hok e he hb
                refine ihd e.on (by omega) (by omega) ?_
                have h5 : e.on < (listed.setIfInBounds i true).size := by simp; omega
                simp only [Array.getD_eq_getD_getElem?, Array.getElem?_eq_getElem h5, Option.getD_some] at hc ⊢
                exact hc
          exact key (n + 1) n (by omega) (Nat.le_refl _) hln'
        obtain ⟨k, hk⟩ := hready
        -- every step of the quiet walk hands over a walk whose end is reached: there is none
        have hnone : ∀ K : Act → Prop, qOp P ops C i K a → ∃ a', K a' := by
          intro K hK
          unfold qOp at hK
          rw [ho] at hK
          simp only at hK
          split at hK
          · obtain ⟨v, _, h6⟩ := hK; exact ⟨_, h6⟩
          · exact ⟨_, hK⟩
        obtain ⟨a', ha'⟩ := hnone _ h3
        rw [show Region.ready .any ops (listed.setIfInBounds i true) = [] from by rw [← struck_ready (n := n)]; exact ha'.1] at hk
        cases hk
      exact wpOp_of_qOp hw (fun a' w' hw' hk => ih _ a' w' hw' (by simp [hls]) hln' (fun k hk1 _ => by omega) hf hk) h3

theorem wpQuiet_struck {Q : Act → Prop} {ops2 : Array Oper} : ∀ (l : List Oper) (a : Act), (∀ o ∈ l, ∀ t, Region.wanted o (yielded ops2 t) = Region.wanted o (yielded ops t)) → wpQuiet P ops C Q l a → ∀ nop : Oper, nop.dst = none → nop.op = .move (.const undef) → nop.guard = none →
    wpQuiet P ops2 C Q (l ++ [nop]) a
  | [], a, _, h, nop, h1, h2, h3 => by
    have hw2 : Region.wanted nop (yielded ops2 a.tmps) = true := by unfold Region.wanted; rw [h3]
    show wpQuiet P ops2 C Q (nop :: []) a
    unfold wpQuiet
    rw [if_pos hw2]
    refine ⟨undef, fun w _ => ?_, ?_⟩
    · unfold Oper.quietAt
      simp [execOp, h2, Oper.quietUpon, Act.eval]
    · rw [h1]; exact h
  | o :: l, a, hw, h, nop, h1, h2, h3 => by
    have ho := hw o (List.mem_cons_self ..) a.tmps
    show wpQuiet P ops2 C Q (o :: (l ++ [nop])) a
    unfold wpQuiet at h ⊢
    rw [ho]
    split
    · rename_i hwt
      rw [if_pos hwt] at h
      exact Oper.quiet_mono (fun a' ha' => wpQuiet_struck l a' (fun o' ho' => hw o' (List.mem_cons_of_mem _ ho')) ha' nop h1 h2 h3) h
    · rename_i hwt
      rw [if_neg hwt] at h
      exact wpQuiet_struck l _ (fun o' ho' => hw o' (List.mem_cons_of_mem _ ho')) h nop h1 h2 h3

/-- A region whose last operation waits for all others: those by the quiet walk (they may be calls that lay blocks), then the last one, in whatever world of the class. -/
theorem region_tail {id : Nat} {Q : Exit → Act → World → Prop} {a : Act} {w : World} {l : List Oper} {last : Oper} (hm : P.follows .mixedOrders = true) (hT : tailB l.toArray (l.length - 1) = true)
    (hlast : l.getLast? = some last) (hgd : last.guard = none) (hB : Region.lexB .any (struck l.toArray (l.length - 1)) = true)
    (h : qw P l.toArray (fun w' => ∃ p : Regrown, w' = grow (redrawn w p.d) p.os) (fun a' => ∀ (d : Nat) (os : Array Obj) (K : Act → World → Prop), (∀ a'' w'', Q .normal a'' w'' → K a'' w'') → last.wp P a' (grow (redrawn w d) os) K Q) l.dropLast a) : (Code.region id l.toArray true).wp P Q a w := by
  have hne : l ≠ [] := by intro e; subst e; simp at hlast
  have hl : l = l.dropLast ++ [last] := by
    rw [List.getLast?_eq_some_iff] at hlast
    obtain ⟨ys, rfl⟩ := hlast
    simp
  have hsz : l.length - 1 + 1 = l.length := by
    have := List.length_pos_iff.2 hne
    omega
  have hat : l.toArray[l.length - 1]? = some last := by
    rw [List.getElem?_toArray, ← List.getLast?_eq_getElem?]; exact hlast
  refine wp_region_any hm ?_
  refine wpAny_tail (C := fun w' => ∃ p : Regrown, w' = grow (redrawn w p.d) p.os) hT (Qe := fun a' => ∀ (d : Nat) (os : Array Obj) (K : Act → World → Prop), (∀ a'' w'', Q .normal a'' w'' → K a'' w'') → last.wp P a' (grow (redrawn w d) os) K Q) ?_ _ _ _ _ ?_ (by simp) ?_ (fun i hi _ => by simp at hi; omega) (by rw [List.size_toArray]; omega) ?_
  · intro a' w' hC hq
    unfold wpOp
    rw [hat]
    simp only [Region.wanted, hgd, if_true]
    obtain ⟨p, rfl⟩ := hC
    exact .inl (hq p.d p.os _ (fun _ _ h => h))
  · exact ⟨⟨w.drawn + 1, #[]⟩, by rw [grow_empty]; rfl⟩
  · simp [show l.length - 1 < l.length by omega]
  · obtain ⟨l2, hl2⟩ : ∃ l2, l2 = (struck l.toArray (l.length - 1)).toList := ⟨_, rfl⟩
    have hops : struck l.toArray (l.length - 1) = l2.toArray := by rw [hl2]
    have hlen : l2.length = l.length := by rw [hl2, ← Array.size_eq_length_toList, struck_size]; simp
    have hl3 : l2 = l.dropLast ++ [{ last with dst := none, op := .move (.const undef), guard := none }] := by
      apply List.ext_getElem?
      intro i
      have e1 : l2[i]? = (struck l.toArray (l.length - 1))[i]? := by rw [hl2]; simp
      rw [e1]
      by_cases hi : i = l.length - 1
      · subst hi
        rw [struck_at, hat, List.getElem?_append_right (by simp)]
        simp
      · rw [struck_ne hi, List.getElem?_toArray, hl]
        rcases Nat.lt_or_ge i (l.length - 1) with h1 | h1
        · rw [List.getElem?_append_left (by simpa using h1), List.getElem?_append_left (by simpa using h1), ← hl]
        · have h2 : l.length ≤ i := by omega
          rw [List.getElem?_eq_none (by simp; omega), List.getElem?_eq_none (by simp; omega)]
    have hT2 := hT
    unfold tailB at hT2
    simp only [Bool.and_eq_true] at hT2
    have hq : wpQuiet P l2.toArray (fun w' => ∃ p : Regrown, w' = grow (redrawn w p.d) p.os) (fun a' => ∀ (d : Nat) (os : Array Obj) (K : Act → World → Prop), (∀ a'' w'', Q .normal a'' w'' → K a'' w'') → last.wp P a' (grow (redrawn w d) os) K Q) l2 a := by
      have h5 := wpQuiet_struck (ops2 := l2.toArray) l.dropLast a ?_ (of_qw h) { last with dst := none, op := .move (.const undef), guard := none } rfl rfl rfl
      · rw [← hl3] at h5; exact h5
      · intro o ho t
        obtain ⟨i, hi⟩ := List.mem_iff_getElem?.1 ho
        have hil : i < l.dropLast.length := (List.getElem?_eq_some_iff.1 hi).1
        have hi2 : l.toArray[i]? = some o := by
          rw [List.getElem?_toArray, hl, List.getElem?_append_left hil]; exact hi
        unfold Region.wanted
        cases hgd2 : o.guard with
        | none => rfl
        | some jb =>
          obtain ⟨j, b⟩ := jb
          have h6 := List.all_eq_true.1 hT2.1.2 i (List.mem_range.2 (by simp at hil ⊢; omega))
          simp only [hi2, Bool.and_eq_true] at h6
          have h7 := h6.2
          rw [hgd2] at h7
          have hjn : j ≠ l.length - 1 := by simpa using h7
          simp only [yielded, ← hops, struck_ne hjn]
    rw [hops] at hB ⊢
    simp only [Region.lexB, Bool.and_eq_true] at hB
    have := wpAnyQ_lex (C := fun w' => ∃ p : Regrown, w' = grow (redrawn w p.d) p.os) (md := .any) hB.1 l2 0 (Array.replicate l2.length false) a (by simp) (by simpa using hB.2) hq
    simpa [hlen] using this
end
end Go.Rh
