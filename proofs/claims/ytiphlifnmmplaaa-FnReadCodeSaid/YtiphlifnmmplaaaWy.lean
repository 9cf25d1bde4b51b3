/- Bytes: impl's ReadCode. Conditions stand at each lemma. -/
import Derived.Test.YtiphlifnmmplaaaWx
namespace Go.Proofs.Ytiphlifnmmplaaa
open Go.RowKit
def ReadEnd (zs : List Int) (e : Ending) : Prop :=
  (∃ z rest, zs = z :: rest ∧ Good zs ∧ e = .returned (.tuple #[.int .i64 (kindOf (valOf z rest)), .int .i64 (valOf z rest / 1000), .int .i64 (rest.length - 4 : Nat), .bool true])) ∨ (¬ Good zs ∧ e = .returned (.tuple #[.int .i64 0, .int .i64 0, .int .i64 0, .bool false]))
theorem valOf_bounds {z : Int} {rest : List Int} (hl : 4 ≤ rest.length) (hw : ∀ x ∈ rest, (Lit.int .u8 x).wf = true) : 0 ≤ valOf z rest ∧ valOf z rest ≤ 4294967295 := by
  have h1 := Lib.beZ4_wf rest hl hw
  have h2 := Lib.leZ4_wf rest hl hw
  have e1 : IntKind.u32.min = 0 := rfl
  have e2 : IntKind.u32.max = 4294967295 := rfl
  simp only [Lit.wf, e1, e2, Bool.and_eq_true, decide_eq_true_eq] at h1 h2
  unfold valOf
  split
  · exact h1
  · exact h2
theorem door_any (b o c : Nat) (zs : List Int) (w : World) (hc : zs.length ≤ c) (hz : BytesAt w b o zs) : Calls Try.prog 52 #[.slice (some ⟨b, o, none⟩) zs.length c] w fun e w' => DoorEnd zs e ∧ Below w.heap.size w w' := by
  match zs, hc, hz with
  | [], _, _ => exact door_empty _ _ w
  | z :: rest, hc, hz =>
    have hb := Lib.byte_of_wf (hz.2.2 z (List.mem_cons_self ..))
    by_cases h1 : z ≤ 1
    · have h01 : z = 0 ∨ z = 1 := by omega
      by_cases hl : 4 ≤ rest.length
      · obtain ⟨v0, v1⟩ := valOf_bounds (z := z) hl (fun x hx => hz.2.2 x (List.mem_cons_of_mem _ hx))
        exact door_long b o c z rest w hc hz h01 hl v0 v1
      · exact door_short b o c z rest w hc hz h01 (by omega)
    · exact door_badOrder b o c z rest w hc hz h1
theorem read_of (zs : List Int) (v : Value) (hw : ∀ x ∈ zs, (Lit.int .u8 x).wf = true) (w : World) (K : Calls Try.prog 52 #[v] w fun e w' => DoorEnd zs e ∧ Below w.heap.size w w') : Calls Try.prog 30 #[v] w fun e w' => ReadEnd zs e ∧ Below w.heap.size w w' := by
  have K' := Lib.hid K
  have HW := Lib.hid hw
  clear K hw
  go_enter Try.func30, Try.ntmps30
  go_wp2_with fail
  refine K'.out.mono ?_
  rintro e w1 ⟨hd, hb⟩
  have HB := Lib.hid hb
  clear hb K'
  rcases hd with ⟨z, rest, rfl, hg, rfl⟩ | ⟨hg, g, t, l, s, rfl⟩
  · have hb2 := valOf_bounds (z := z) hg.2.1 (fun x hx => HW.out x (List.mem_cons_of_mem _ hx))
    have hk := hg.2.2.2.2
    have HG := Lib.hid hg
    clear hg
    go_wp2
    refine bodyPost_ret (v := .tuple #[.int .i64 (kindOf (valOf z rest)), .int .i64 (valOf z rest / 1000), .int .i64 (rest.length - 4 : Nat), .bool true]) (by simp [results, Try.results30, go_sem]) rfl ⟨.inl ⟨z, rest, rfl, HG.out, rfl⟩, HB.out⟩
  · have HG := Lib.hid hg
    clear hg
    go_wp2
    refine bodyPost_ret (v := .tuple #[.int .i64 0, .int .i64 0, .int .i64 0, .bool false]) (by simp [results, Try.results30, go_sem]) rfl ⟨.inr ⟨HG.out, rfl⟩, HB.out⟩
theorem readCode_any (b o c : Nat) (zs : List Int) (w : World) (hc : zs.length ≤ c) (hz : BytesAt w b o zs) : Calls Try.prog 30 #[.slice (some ⟨b, o, none⟩) zs.length c] w fun e w' => ReadEnd zs e ∧ Below w.heap.size w w' := read_of zs _ hz.2.2 w (door_any b o c zs w hc hz)
theorem readCode_empty (ao : Option Addr) (c : Nat) (w : World) : Calls Try.prog 30 #[.slice ao 0 c] w fun e w' => ReadEnd [] e ∧ Below w.heap.size w w' := read_of [] _ (fun _ h => nomatch h) w (door_empty ao c w)
end Go.Proofs.Ytiphlifnmmplaaa
