/- The frame of a law's proof, whatever the program: where the call returns true and nothing that was there has turned, each argument reads as it did. Conditions are stated at each lemma. -/
import Derived.WalkKit
import Derived.ProofKit
import Derived.OpenShut
import Derived.Carry
namespace Go.Fr
open Go.ChangeShapes Go.WideShapes Go.ChangeAt Go.RowKit

section
variable {H : Type} {enc : TypeId × Value → H}
theorem trodAll_below {P : Program} (hl : laidOutB P = true) {W W' : World} (hb : Below W.heap.size W W') :
    ∀ (ts : List TypeId) (vs : List Value) (ds : List (DataW H)) (ps : List MemPlace), (∀ t ∈ ts, P.readableRec t = true ∧ t < P.types.size) →
      DataW.TrodAll enc P W 0 (fun _ => true) true ts vs ds ps → (∀ x ∈ ps, x.block < W.heap.size) →
      DataW.TrodAll enc P W' 0 (fun b => decide (b < W.heap.size)) true ts vs ds ps
  | [], vs, ds, ps, _, h, _ => by
    obtain ⟨rfl, rfl, rfl⟩ := trodAll_nil h
    exact trodAll_mk0
  | t :: ts, vs, ds, ps, hT, h, hlt => by
    obtain ⟨v, vs', d, ds', p, q, rfl, rfl, rfl, h1, h2⟩ := trodAll_cons h
    obtain ⟨ht1, ht2⟩ := hT t (List.mem_cons_self ..)
    refine trodAll_cons_mk (Below.trod hl ht1 ht2 h1 hb (fun x hx => hlt x (List.mem_append_left _ hx))) ?_
    exact trodAll_below hl hb ts vs' ds' q (fun t ht => hT t (List.mem_cons_of_mem _ ht)) h2 (fun x hx => hlt x (List.mem_append_right _ hx))

theorem law_post {P : Program} (hl : laidOutB P = true) {f : Func} {s : ChangeSpec} {W W' : World} {args : Array Value} {ds gs : List (DataW H)} {before : List MemPlace} {tb : TypeId}
    (hv : s.vars = []) (hts : ∀ t ∈ f.params.toList, P.readableRec t = true ∧ t < P.types.size) (hrt : f.resultTypes = #[tb]) (htb : P.underlying tb = some .bool)
    (hfn : s.fn H ds = { results := [.lit (.bool true)], args := ds })
    (hW : DataW.Whole enc P f.params.toList s.vars false W args.toList ds gs before) (hb : Below W.heap.size W W') :
    s.post enc P f false true false false W args (.bool true) W' := by
  have hlt : ∀ p ∈ before, p.block < W.heap.size := fun p hp => hW.lt p hp
  have hW2 := hW
  obtain ⟨p, q, hA, hV, rfl, hz, hn⟩ := hW
  rw [hv] at hV
  obtain ⟨rfl, rfl⟩ := trodVars_none hV
  have hfn2 : s.fn H (ds ++ []) = { results := [.lit (.bool true)], args := ds } := by rw [List.append_nil]; exact hfn
  refine ⟨ds, [], _, [], p, [], hW2, ?_, ?_, ?_, hb.frame _, fun h => by cases h⟩
  · rw [hfn2, hrt]
    exact trodAll_mk1 (shut_bool htb true)
  · rw [hfn2]
    exact trodAll_below hl hb _ _ _ _ hts hA (fun x hx => hlt x (by simpa using hx))
  · rw [hfn2, hv]
    rfl

theorem law_lifted {C : Checked} {os : Os} {F : FuncId} {fn : Func} {s : ChangeSpec} {tb : TypeId}
    (own : ownKnob C.prog.godebug = none) (started : os.Started) (noInit : C.prog.inits.idxOf? F = none) (hfn : C.prog.funcs[F]? = some fn)
    (hl : laidOutB C.prog = true) (hv : s.vars = []) (hts : fn.params.toList.all (fun t => C.prog.readableRec t && decide (t < C.prog.types.size)) = true) (hrt : fn.resultTypes = #[tb]) (htb : C.prog.underlying tb = some .bool)
    (hs : ∀ ds : List (DataW H), ds.length = fn.params.toList.length → s.fn H ds = { results := [.lit (.bool true)], args := ds })
    (witness : ∃ (w : World) (tape : Tape) (i : Input), w.os = os ∧ (w.forCall tape i).Shaped C.prog ∧ i.vars = [] ∧ Input.okWide C.prog (w.forCall tape i) .any w.heap.size F i ∧
      s.pre6 enc C.prog fn [] false (w.forCall tape i).memory i.args ∧ ({} : Assume).holds C.prog (lone (Frame.enter C.prog F i.args .normal) [] (w.forCall tape i)))
    (contract : ∀ (W : World) (base : Nat) (args : Array Value) (ds : List (DataW H)) (ps : List MemPlace),
      (∀ (j : Nat) t v, fn.params[j]? = some t → args[j]? = some v → Value.okWide C.prog W .any base t v) →
      DataW.TrodAll enc C.prog W 0 (fun _ => true) true fn.params.toList args.toList ds ps →
      (∀ p ∈ ps, p.block < W.heap.size) →
      Calls C.prog F args W fun e W' => e = .returned (.bool true) ∧ Below W.heap.size W W') :
    ReturnsInHanded {} C os F .any (s.pre6 enc C.prog fn [] false) (s.post enc C.prog fn false true false false) := by
  refine returnsInHanded_of_change (C := C) own started noInit hfn witness ?_
  intro W base args ds gs before hval hW _ _
  have hW2 := hW
  have hlt : ∀ p ∈ before, p.block < W.heap.size := fun p hp => hW.lt p hp
  obtain ⟨p, q, hA, hV, rfl, _, _⟩ := hW
  have hlen : ds.length = fn.params.toList.length := by
    have : ∀ (ts : List TypeId) (vs : List Value) (ds : List (DataW H)) (ps : List MemPlace), DataW.TrodAll enc C.prog W 0 (fun _ => true) true ts vs ds ps → ds.length = ts.length := by
      intro ts
      induction ts with
      | nil => intro vs ds ps h; obtain ⟨_, rfl, _⟩ := trodAll_nil h; rfl
      | cons t ts ih =>
        intro vs ds ps h
        obtain ⟨v, vs', d, ds', p, q, rfl, rfl, rfl, h1, h2⟩ := trodAll_cons h
        simp [ih _ _ _ h2]
    exact this _ _ _ _ hA
  have hts2 : ∀ t ∈ fn.params.toList, C.prog.readableRec t = true ∧ t < C.prog.types.size := fun t ht => by
    have := List.all_eq_true.1 hts t ht
    simpa using this
  refine (contract W base args ds p hval hA (fun x hx => hlt x (List.mem_append_left _ hx))).mono fun e W' ⟨he, hb⟩ => ?_
  exact ⟨_, he, law_post hl hv hts2 hrt htb (hs ds hlen) hW2 hb⟩
end
end Go.Fr
