/- Bytes: encoding/binary's Uint32 (the shelf's contracts, laid), readByte, parseUint32. Conditions stand at each lemma. -/
import Derived.Test.YtiphlifnmmplaaaWu
import Derived.Shelf.Bin.ReadersZ
namespace Go.Proofs.Ytiphlifnmmplaaa
open Go.Shelf Go.RowKit
def Try.laysLE_ren : Shelf.Ren where
  f := fun x => match x with
    | 30 => 101
    | n => n
  t := fun x => match x with
    | 25 => 157
    | 22 => 58
    | 29 => 139
    | 0 => 0
    | 5 => 5
    | 45 => 101
    | n => n
  g := fun x => x
theorem Try.laysLE : LaysBin.n30 Try.prog Try.laysLE_ren :=
  { mixed := by kernel_rfl
    f30 := Eq.trans Try.func101 (congrArg some (by kernel_rfl))
    t0 := Try.underlying0
    a0 := Try.isAgg0
    z0 := Try.sizeOf0
    v0 := Try.zeroValue0
    i0 := by kernel_rfl
    t5 := Try.underlying5
    a5 := Try.isAgg5
    z5 := Try.sizeOf5
    v5 := Try.zeroValue5
    i5 := by kernel_rfl
    t22 := Try.underlying58
    a22 := Try.isAgg58
    z22 := Try.sizeOf58
    v22 := Try.zeroValue58
    i22 := by kernel_rfl
    t25 := Try.underlying157
    a25 := Try.isAgg157
    z25 := Try.sizeOf157
    v25 := Try.zeroValue157
    i25 := by kernel_rfl
    t29 := Try.underlying139
    a29 := Try.isAgg139
    z29 := Try.sizeOf139
    v29 := Try.zeroValue139
    i29 := by kernel_rfl
    t45 := Try.underlying101
    a45 := Try.isAgg101
    z45 := Try.sizeOf101
    v45 := Try.zeroValue101
    i45 := by kernel_rfl }
def Try.laysBE_ren : Shelf.Ren where
  f := fun x => match x with
    | 39 => 100
    | n => n
  t := fun x => match x with
    | 37 => 155
    | 22 => 58
    | 29 => 139
    | 0 => 0
    | 5 => 5
    | 45 => 101
    | n => n
  g := fun x => x
theorem Try.laysBE : LaysBin.n39 Try.prog Try.laysBE_ren :=
  { mixed := by kernel_rfl
    f39 := Eq.trans Try.func100 (congrArg some (by kernel_rfl))
    t0 := Try.underlying0
    a0 := Try.isAgg0
    z0 := Try.sizeOf0
    v0 := Try.zeroValue0
    i0 := by kernel_rfl
    t5 := Try.underlying5
    a5 := Try.isAgg5
    z5 := Try.sizeOf5
    v5 := Try.zeroValue5
    i5 := by kernel_rfl
    t22 := Try.underlying58
    a22 := Try.isAgg58
    z22 := Try.sizeOf58
    v22 := Try.zeroValue58
    i22 := by kernel_rfl
    t29 := Try.underlying139
    a29 := Try.isAgg139
    z29 := Try.sizeOf139
    v29 := Try.zeroValue139
    i29 := by kernel_rfl
    t37 := Try.underlying155
    a37 := Try.isAgg155
    z37 := Try.sizeOf155
    v37 := Try.zeroValue155
    i37 := by kernel_rfl
    t45 := Try.underlying101
    a45 := Try.isAgg101
    z45 := Try.sizeOf101
    v45 := Try.zeroValue101
    i45 := by kernel_rfl }
theorem le32 (a : Addr) (n c : Nat) (zs : List Int) (w : World) (hn : 4 ≤ n) (hl : 4 ≤ zs.length) (hcell : ∀ i, i < zs.length → w.cell? (a.add i) = some (.int .u8 (zs.getD i 0))) (hw : ∀ z ∈ zs, (Lit.int .u8 z).wf = true) :
    Calls Try.prog 101 #[.agg #[], .slice (some a) n c] w fun e w' => e = .returned (.int .u32 (Lib.leZ (zs.take 4))) ∧ Below w.heap.size w w' := Any.binary_LE_Uint32_z Try.laysLE a n c zs w hn hl hcell hw
theorem be32 (a : Addr) (n c : Nat) (zs : List Int) (w : World) (hn : 4 ≤ n) (hl : 4 ≤ zs.length) (hcell : ∀ i, i < zs.length → w.cell? (a.add i) = some (.int .u8 (zs.getD i 0))) (hw : ∀ z ∈ zs, (Lit.int .u8 z).wf = true) :
    Calls Try.prog 100 #[.agg #[], .slice (some a) n c] w fun e w' => e = .returned (.int .u32 (Lib.beZ (zs.take 4))) ∧ Below w.heap.size w w' := Any.binary_BE_Uint32_z Try.laysBE a n c zs w hn hl hcell hw
/-- The slice reads as a row of bytes. -/
def BytesAt (w : World) (b o : Nat) (zs : List Int) : Prop := b < w.heap.size ∧ (∀ k z, zs[k]? = some z → w.cell? ⟨b, o + k, none⟩ = some (.int .u8 z)) ∧ ∀ z ∈ zs, (Lit.int .u8 z).wf = true
theorem BytesAt.later {w w' : World} {b o : Nat} {zs : List Int} (h : BytesAt w b o zs) (hb : Below w.heap.size w w') : BytesAt w' b o zs :=
  ⟨Nat.lt_of_lt_of_le h.1 hb.size, fun k z hk => by rw [hb.cell (p := ⟨b, o + k, none⟩) h.1]; exact h.2.1 k z hk, h.2.2⟩
abbrev eofErr : Value := .iface 138 (.agg #[.string { data := #[117, 110, 101, 120, 112, 101, 99, 116, 101, 100, 32, 69, 79, 70] }])
theorem readByte_none (B : Nat) (ao : Option Addr) (c : Nat) (w : World) (hs : w.cell? ⟨B, 0, none⟩ = some (.slice ao 0 c)) : Calls Try.prog 84 #[.pointer (some ⟨B, 0, none⟩)] w fun e w' => e = .returned (.tuple #[.int .u8 0, eofErr]) ∧ w = w' := by
  go_enter Try.func84, Try.ntmps84
  go_wp2
  go_ret2
  exact ⟨rfl, rfl⟩
/-- Where a slice begins from its k-th element on. -/
def cutOff (k c o : Nat) : Nat := if c = 0 then o else o + k
theorem readByte_any (B b o n c : Nat) (z : Int) (w : World) (hs : w.cell? ⟨B, 0, none⟩ = some (.slice (some ⟨b, o, none⟩) (n + 1) (c + 1))) (hf : w.frozen? ⟨B, 0, none⟩ = false) (hz : w.cell? ⟨b, o, none⟩ = some (.int .u8 z)) : Calls Try.prog 84 #[.pointer (some ⟨B, 0, none⟩)] w fun e w' => e = .returned (.tuple #[.int .u8 z, .nilIface]) ∧ w' = w.setCell ⟨B, 0, none⟩ (.slice (some ⟨b, cutOff 1 c o, none⟩) n c) := by
  go_enter Try.func84, Try.ntmps84
  go_wp2
  all_goals
    go_ret2
    exact ⟨rfl, by simp [cutOff, *]⟩
theorem uint32_none (B n c : Nat) (ao : Option Addr) (hn : n < 4) (w : World) (hs : w.cell? ⟨B, 0, none⟩ = some (.slice ao n c)) : Calls Try.prog 85 #[.pointer (some ⟨B, 0, none⟩)] w fun e w' => e = .returned (.tuple #[.int .u32 0, eofErr]) ∧ w = w' := by
  go_enter Try.func85, Try.ntmps85
  go_wp2
  go_ret2
  exact ⟨rfl, rfl⟩
theorem bytes_add {w : World} {b o : Nat} {zs : List Int} (h : BytesAt w b o zs) : ∀ i, i < zs.length → w.cell? ((⟨b, o, none⟩ : Addr).add i) = some (.int .u8 (zs.getD i 0)) := fun i hi => by
  have := h.2.1 i (zs.getD i 0) (by simp [List.getD, hi])
  by_cases h0 : i = 0
  · subst h0; simpa [Addr.add] using this
  · simpa [Addr.add, h0] using this
set_option maxHeartbeats 1000000 in
theorem uint32_any (B b o n c : Nat) (bo : Int) (V : Int) (zs : List Int) (w : World) (hB : B < w.heap.size) (hs : w.cell? ⟨B, 0, none⟩ = some (.slice (some ⟨b, o, none⟩) (n + 4) (c + 4))) (hf : w.frozen? ⟨B, 0, none⟩ = false) (ho : w.cell? ⟨B, 1, none⟩ = some (.int .u8 bo)) (hl : 4 ≤ zs.length) (hz : BytesAt w b o zs) (hV : V = if bo = 0 then Lib.beZ (zs.take 4) else Lib.leZ (zs.take 4)) : Calls Try.prog 85 #[.pointer (some ⟨B, 0, none⟩)] w fun e w' => e = .returned (.tuple #[.int .u32 V, .nilIface]) ∧ ∃ w1, Below w.heap.size w w1 ∧ w' = w1.setCell ⟨B, 0, none⟩ (.slice (some ⟨b, cutOff 4 c o, none⟩) n c) := by
  have kb := Lib.hid (fun w (h : BytesAt w b o zs) => be32 ⟨b, o, none⟩ (n + 4) (c + 4) zs w (by omega) hl (bytes_add h) h.2.2)
  have kl := Lib.hid (fun w (h : BytesAt w b o zs) => le32 ⟨b, o, none⟩ (n + 4) (c + 4) zs w (by omega) hl (bytes_add h) h.2.2)
  have HZ := Lib.hid hz
  clear hz
  have e1 := cell_regrown hs
  have fz := fun d os => (frozen_grow w d os B 0 hB).trans hf
  by_cases h0 : bo = 0
  · rw [if_pos h0] at hV
    subst h0 hV
    go_enter Try.func85, Try.ntmps85
    go_wp2
    refine Rh.region_below (by kernel_rfl) (by kernel_rfl) ?_
    repeat (refine Rh.qw_step (fun K hK => ?_); go_simp; first | (refine hK _ ?_; clear hK K) | (apply Exists.intro; refine ⟨fun _ => ?_, hK _ ?_⟩; (exact Calls.regrown_of (kb.out _ (HZ.out.later (below_regrown _ _ _)))); clear hK K))
    refine Rh.qw_nil ?_
    intro _ hw'
    obtain ⟨⟨dq, osq⟩, hw''⟩ := hw'
    subst hw''
    have fq := fz dq osq
    have eq := e1 dq osq
    go_wp2
    all_goals
      go_ret2
      exact ⟨rfl, _, below_regrown w dq osq, by simp [cutOff, *]⟩
  · rw [if_neg h0] at hV
    have hb0 : (bo == 0) = false := by simp [h0]
    subst hV
    clear h0
    go_enter Try.func85, Try.ntmps85
    go_wp2
    refine Rh.region_below (by kernel_rfl) (by kernel_rfl) ?_
    repeat (refine Rh.qw_step (fun K hK => ?_); go_simp; first | (refine hK _ ?_; clear hK K) | (apply Exists.intro; refine ⟨fun _ => ?_, hK _ ?_⟩; (exact Calls.regrown_of (kl.out _ (HZ.out.later (below_regrown _ _ _)))); clear hK K))
    refine Rh.qw_nil ?_
    intro _ hw'
    obtain ⟨⟨dq, osq⟩, hw''⟩ := hw'
    subst hw''
    have fq := fz dq osq
    have eq := e1 dq osq
    go_wp2
    all_goals
      go_ret2
      exact ⟨rfl, _, below_regrown w dq osq, by simp [cutOff, *]⟩
end Go.Proofs.Ytiphlifnmmplaaa
