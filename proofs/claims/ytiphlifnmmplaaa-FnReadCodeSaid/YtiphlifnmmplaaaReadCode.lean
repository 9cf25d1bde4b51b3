/- FnReadCode returns true at any bytes, whatever the memory; nothing that was there turns. No condition. -/
import Derived.Test.YtiphlifnmmplaaaRows
import Derived.Test.YtiphlifnmmplaaaVb
import Derived.Test.YtiphlifnmmplaaaFr
import Derived.Lib.SmallJoins
namespace Go.Proofs.Ytiphlifnmmplaaa
open Go.ChangeShapes Go.WideShapes Go.ChangeAt Go.RowKit Go.Joins
theorem acc_val (z z0 z1 z2 z3 : Int) (rest : List Int) (h : rest.take 4 = [z0, z1, z2, z3]) : valOf z rest = accOf (z == 0) z0 z1 z2 z3 4 := by
  unfold valOf
  rw [h]
  by_cases hz : z = 0
  · subst hz
    simp [accOf, Lib.beZ, Lib.beFromZ]
  · have : (z == 0) = false := by simp [hz]
    rw [if_neg hz, this]
    simp only [accOf, Lib.leZ, Bool.false_eq_true, if_false]
    omega
theorem law9_bytes (b o c : Nat) (zs : List Int) (w : World) (hc : zs.length ≤ c) (hz : BytesAt w b o zs) : Calls Try.prog 9 #[.slice (some ⟨b, o, none⟩) zs.length c] w fun e w' => e = .returned (.bool true) ∧ Below w.heap.size w w' := by
  by_cases h2000 : 2000 < zs.length
  · exact law9_large _ _ _ w h2000
  · have K := readCode_any b o c zs w hc hz
    by_cases h5 : zs.length < 5
    · refine law9_short _ _ _ w h5 (K.mono ?_)
      rintro e w' ⟨h, hb⟩
      rcases h with ⟨z, rest, rfl, hg, _⟩ | ⟨_, rfl⟩
      · exact absurd hg.2.1 (by simp at h5; omega)
      · exact ⟨rfl, hb⟩
    · obtain ⟨z, z0, z1, z2, z3, rest, rfl⟩ : ∃ z z0 z1 z2 z3 rest, zs = z :: z0 :: z1 :: z2 :: z3 :: rest := by
        match zs, h5 with
        | z :: z0 :: z1 :: z2 :: z3 :: rest, _ => exact ⟨z, z0, z1, z2, z3, rest, rfl⟩
        | [], h => simp at h
        | [_], h => simp at h
        | [_, _], h => simp at h
        | [_, _, _], h => simp at h
        | [_, _, _, _], h => simp at h
      have hw := hz.2.2
      have hzb := Lib.byte_of_wf (hw z (by simp))
      have e0 := hz.2.1 0 z rfl
      have e1 := hz.2.1 1 z0 rfl
      have e2 := hz.2.1 2 z1 rfl
      have e3 := hz.2.1 3 z2 rfl
      have e4 := hz.2.1 4 z3 rfl
      by_cases hz1 : 1 < z
      · refine law9_order b o _ c z w (by simp) (by omega) hz1 e0 (K.mono ?_)
        rintro e w' ⟨h, hb⟩
        rcases h with ⟨z', rest', hh, hg, _⟩ | ⟨_, rfl⟩
        · exact absurd hg.1 (by omega)
        · exact ⟨rfl, hb⟩
      · have hv := valOf_bounds (z := z) (rest := z0 :: z1 :: z2 :: z3 :: rest) (by simp) (fun x hx => hw x (List.mem_cons_of_mem _ hx))
        have hva := acc_val z z0 z1 z2 z3 (z0 :: z1 :: z2 :: z3 :: rest) rfl
        by_cases hok : codeOk (valOf z (z0 :: z1 :: z2 :: z3 :: rest))
        · refine law9_five b o _ c z z0 z1 z2 z3 (kindOf (valOf z (z0 :: z1 :: z2 :: z3 :: rest))) (valOf z (z0 :: z1 :: z2 :: z3 :: rest) / 1000) rest.length true w (by simp) (by omega) hc (by omega) e0 e1 e2 e3 e4 (Lib.byte_of_wf (hw z0 (by simp))) (Lib.byte_of_wf (hw z1 (by simp))) (Lib.byte_of_wf (hw z2 (by simp))) (Lib.byte_of_wf (hw z3 (by simp))) _ hva hv.1 hv.2 (K.mono ?_) (.inl ⟨hok, rfl, rfl, by simp; omega, rfl⟩)
          rintro e w' ⟨h, hb⟩
          rcases h with ⟨z', rest', hh, hg, rfl⟩ | ⟨hg, _⟩
          · obtain ⟨rfl, rfl⟩ := List.cons.inj hh
            exact ⟨by simp, hb⟩
          · exact absurd ⟨by omega, by simp, hok⟩ hg
        · refine law9_five b o _ c z z0 z1 z2 z3 0 0 0 false w (by simp) (by omega) hc (by omega) e0 e1 e2 e3 e4 (Lib.byte_of_wf (hw z0 (by simp))) (Lib.byte_of_wf (hw z1 (by simp))) (Lib.byte_of_wf (hw z2 (by simp))) (Lib.byte_of_wf (hw z3 (by simp))) _ hva hv.1 hv.2 (K.mono ?_) (.inr ⟨hok, rfl⟩)
          rintro e w' ⟨h, hb⟩
          rcases h with ⟨z', rest', hh, hg, _⟩ | ⟨_, rfl⟩
          · obtain ⟨rfl, rfl⟩ := List.cons.inj hh
            exact absurd hg.2.2 hok
          · exact ⟨rfl, hb⟩
theorem law9_nil (ao : Option Addr) (c : Nat) (w : World) : Calls Try.prog 9 #[.slice ao 0 c] w fun e w' => e = .returned (.bool true) ∧ Below w.heap.size w w' := by
  refine law9_short _ _ _ w (by omega) ((readCode_empty ao c w).mono ?_)
  rintro e w' ⟨h, hb⟩
  rcases h with ⟨z, rest, hh, _, _⟩ | ⟨_, rfl⟩
  · cases hh
  · exact ⟨rfl, hb⟩
theorem cells5 : Try.prog.cellsOf 5 = 1 := by kernel_rfl
set_option maxRecDepth 100000 in
theorem open_bytes {H : Type} {enc : TypeId × Value → H} {W : World} {base base' : Nat} {v : Value} {d : DataW H} {p : List MemPlace} (hv : Value.okWide Try.prog W .any base 58 v) (h : DataW.Trod enc Try.prog W base' (fun _ => true) true 58 v d p) (hlt : ∀ x ∈ p, x.block < W.heap.size) : (∃ ao c, v = .slice ao 0 c) ∨ ∃ b o c zs, v = .slice (some ⟨b, o, none⟩) zs.length c ∧ zs.length ≤ c ∧ BytesAt W b o zs := by
  obtain ⟨a0, len, cap, rfl⟩ := okWide_slice Try.underlying58 hv
  obtain ⟨fuel, hf⟩ := h
  rcases open_ints Try.underlying58 Try.underlying5 cells5 hf with ⟨hcs, hx⟩ | ⟨a, len', cap', zs, hcs, _, hl, hm, hz, hx, hcell, hwz⟩
  · simp [Value.cells] at hcs
    obtain ⟨rfl, rfl, rfl⟩ := hcs
    exact .inl ⟨_, _, rfl⟩
  · simp [Value.cells] at hcs
    obtain ⟨rfl, rfl, rfl⟩ := hcs
    simp only [if_true] at hz
    by_cases h0 : len = 0
    · subst h0; exact .inl ⟨_, _, rfl⟩
    · have hp : 0 < zs.length := by omega
      obtain ⟨b, off, spot⟩ := a
      have hspot : spot = none := by simpa [Addr.add] using World.cell?_spot (hcell 0 hp)
      subst hspot
      have e : (zs.take len).length = len := by rw [List.length_take]; omega
      refine .inr ⟨b, off, cap, zs.take len, by rw [e], by rw [e]; exact hl, ?_, fun k z hk => ?_, fun z hz => hwz z (List.mem_of_mem_take hz)⟩
      · simp only [Prod.mk.injEq] at hx
        exact hlt (.cell b (off + 0)) (by rw [hx.2]; exact MemPlace.mem_row.2 ⟨0, hp, rfl⟩)
      · rw [List.getElem?_take] at hk
        split at hk
        · have hk2 : k < zs.length := by omega
          have := hcell k hk2
          rw [add_plain] at this
          rw [this]
          simp [List.getD, hk]
        · cases hk
theorem own : ownKnob Try.prog.godebug = none := by kernel_rfl

set_option maxRecDepth 100000 in
theorem readCode_lifted (os : Os) (started : os.Started) (H : Type) (enc : TypeId × Value → H) :
    ReturnsInHanded {} Try.checked os 9 .any (Rows.fnReadCodeSpec.pre6 enc Try.prog Try.f9 Rows.fnReadCodeRow.domain false) (Rows.fnReadCodeSpec.post enc Try.prog Try.f9 false true false false) := by
  refine Fr.law_lifted (C := Try.checked) (tb := 4) own started (by kernel_rfl) Try.func9 (by kernel_rfl) rfl (by kernel_rfl) (by kernel_rfl) Try.underlying4 ?_
    (ChangeSpec.witness6 (enc := enc) (C := Try.checked) false ⟨#[], #[.slice none 0 0], []⟩ 8 (by kernel_rfl) (by kernel_rfl) (by kernel_rfl) (by kernel_rfl)) ?_
  · intro ds hlen
    match ds, hlen with
    | [d1], _ => rfl
  · intro W base args ds ps hval0 hA0 hlt
    have hval : ∀ (j : Nat) t v, Try.f9.params[j]? = some t → args[j]? = some v → Value.okWide Try.prog W .any base t v := hval0
    have hA : DataW.TrodAll enc Try.prog W 0 (fun _ => true) true Try.f9.params.toList args.toList ds ps := hA0
    rw [Try.params9] at hA hval
    obtain ⟨v0, d0, rfl, rfl, h0⟩ := trodAll_one hA
    rcases open_bytes (hval 0 58 v0 rfl rfl) h0 hlt with ⟨ao, c, rfl⟩ | ⟨b, o, c, zs, rfl, hc, hz⟩
    · exact law9_nil ao c W
    · exact law9_bytes b o c zs W hc hz

theorem readCode_over : Rows.fnReadCodeRow.holds Try.pinned (OpenSpec.ofChange Rows.fnReadCodeSpec) :=
  OpenClaim.holds_of_wide 9 Try.f9 rfl rfl rfl rfl rfl rfl rfl ⟨rfl, rfl, rfl, rfl, rfl⟩ rfl rfl rfl rfl rfl (by kernel_rfl) Try.func9 (by kernel_rfl)
    (of_decide_eq_true (by kernel_rfl)) (by unfold Func.isWrapper; first | (rw [if_pos (by decide +kernel)]; kernel_rfl) | (rw [if_neg (by decide +kernel)]; exact ⟨rfl, rfl⟩))
    (fun os started H enc _ => readCode_lifted os started H enc)

theorem readCode_proved : Rows.FnReadCodeSaid := readCode_over
#print axioms readCode_proved
end Go.Proofs.Ytiphlifnmmplaaa
