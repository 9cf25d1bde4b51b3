/- Regions that draw their order, whatever the program: a walk that has carried out the first operations one by one goes on by the quiet walk in the order of the text. Conditions are stated at each lemma. -/
import Derived.WalkKit
import Derived.Deep.Quiet
import Derived.Deep.RegionHeld
import Derived.Lib.QuietBelow
namespace Go.Rg
open Go.RowKit Go.Sort

section
variable {P : Program} {ops : Array Oper} {md : Region.Mode} {C S : World → Prop}
theorem wpAnyH_of_quiet (hCS : ∀ w, C w → S w) {Q : Act → Prop} {Q' : Exit → Act → World → Prop} (hQ : ∀ a w, C w → Q a → Q' .normal a w) : ∀ (fuel : Nat) (listed : Array Bool) (a : Act) (w : World), C w →
    wpAnyQ P md ops C Q fuel listed a → wpAnyH P md ops Q' S fuel listed a w
  | 0, _, _, _, hw, h => ⟨h.1, hQ _ _ hw h.2⟩
  | fuel + 1, _, _, _, hw, h => ⟨fun h0 => hQ _ _ hw (h.1 h0), fun i hi => wpOp_of_qOp hw (fun a' w' hw' hk => ⟨hCS _ hw', wpAnyH_of_quiet hCS hQ fuel _ a' w' hw' hk⟩) (h.2 i hi)⟩

/-- The quiet walk, behind a name that no tactic unfolds: where the next operation is passed over, 'wpQuiet' itself is run on by every tactic that looks at the goal. -/
@[irreducible] def qw (P : Program) (ops : Array Oper) (C : World → Prop) (Q : Act → Prop) (l : List Oper) (a : Act) : Prop := wpQuiet P ops C Q l a
theorem of_qw {Q : Act → Prop} {l : List Oper} {a : Act} (h : qw P ops C Q l a) : wpQuiet P ops C Q l a := by
  unfold qw at h; exact h
theorem qw_nil {Q : Act → Prop} {a : Act} (h : Q a) : qw P ops C Q [] a := by
  unfold qw; exact h
theorem qw_step {Q : Act → Prop} {a : Act} {o : Oper} {rest : List Oper}
    (h : ∀ K : Act → Prop, (∀ a, qw P ops C Q rest a → K a) → if Region.wanted o (yielded ops a.tmps) then o.quiet P a C K else K (a.put o.dst undef)) : qw P ops C Q (o :: rest) a := by
  unfold qw
  exact h (wpQuiet P ops C Q rest) (fun a ha => of_qw ha)
theorem region_below {id : Nat} {Q : Exit → Act → World → Prop} {a : Act} {w : World} {l : List Oper} (hm : P.follows .mixedOrders = true) (hB : Region.lexB .any l.toArray = true)
    (h : qw P l.toArray (fun w' => ∃ p : Regrown, w' = grow (redrawn w p.d) p.os) (fun a' => ∀ w', (∃ p : Regrown, w' = grow (redrawn w p.d) p.os) → Q .normal a' w') l a) : (Code.region id l.toArray true).wp P Q a w :=
  wp_region_quiet_below hm hB (of_qw h)

/-- The operations from the k-th on, by the quiet walk. -/
theorem wpAnyH_lex {Q' : Exit → Act → World → Prop} (k : Nat) {n : Nat} {listed : Array Bool} {a : Act} {w : World} (hCS : ∀ w, C w → S w) (hC : C w) (hs : Region.noSelect ops = true)
    (hn : (ops.toList.drop k).length = n) (hB : Region.lexFrom md ops n k listed = true)
    (h : wpQuiet P ops C (fun a' => ∀ w', C w' → Q' .normal a' w') (ops.toList.drop k) a) : wpAnyH P md ops Q' S n listed a w := by
  subst hn
  exact wpAnyH_of_quiet hCS (Q := fun a' => ∀ w', C w' → Q' .normal a' w') (fun _ w' hw' h => h w' hw') _ _ _ _ hC
    (wpAnyQ_lex hs _ k listed a (fun j => by simp) hB h)
/-- The class 'w with whatever count of draws, with some blocks laid behind it'. -/
theorem wpAnyH_below {Q' : Exit → Act → World → Prop} (k : Nat) {n : Nat} {listed : Array Bool} {a : Act} {w : World} (hCS : ∀ d os, S (grow (redrawn w d) os)) (hs : Region.noSelect ops = true)
    (hn : (ops.toList.drop k).length = n) (hB : Region.lexFrom md ops n k listed = true)
    (h : qw P ops (fun w' => ∃ p : Regrown, w' = grow (redrawn w p.d) p.os) (fun a' => ∀ w', (∃ p : Regrown, w' = grow (redrawn w p.d) p.os) → Q' .normal a' w') (ops.toList.drop k) a) : wpAnyH P md ops Q' S n listed a w :=
  wpAnyH_lex k (fun w' ⟨p, hp⟩ => hp ▸ hCS p.d p.os) ⟨⟨w.drawn, #[]⟩, by rw [grow_empty]; rfl⟩ hs hn hB (of_qw h)
end
end Go.Rg
