/- Bytes: parseByteOrder, parseGeomAndCoordType. Conditions stand at each lemma. -/
import Derived.Test.YtiphlifnmmplaaaWv
namespace Go.Proofs.Ytiphlifnmmplaaa
open Go.RowKit
theorem byteOrder_none (B c : Nat) (ao : Option Addr) (w : World) (hs : w.cell? ⟨B, 0, none⟩ = some (.slice ao 0 c)) : Calls Try.prog 69 #[.pointer (some ⟨B, 0, none⟩)] w fun e w' => e = .returned eofErr ∧ w = w' := by
  go_enter Try.func69, Try.ntmps69
  go_wp2_with fail
  refine (readByte_none _ _ _ _ hs).mono ?_
  rintro e w1 ⟨rfl, rfl⟩
  go_wp2
  go_ret
  exact ⟨rfl, rfl⟩
theorem byteOrder_any (B b o n c : Nat) (z : Int) (w : World) (x : Value) (y : Value) (hs : w.cell? ⟨B, 0, none⟩ = some (.slice (some ⟨b, o, none⟩) (n + 1) (c + 1))) (hx : w.cell? ⟨B, 1, none⟩ = some x) (hy : w.cell? ⟨B, 2, none⟩ = some y) (hf : w.frozen? ⟨B, 0, none⟩ = false) (hf1 : w.frozen? ⟨B, 1, none⟩ = false) (hf2 : w.frozen? ⟨B, 2, none⟩ = false) (hz : w.cell? ⟨b, o, none⟩ = some (.int .u8 z)) (h01 : z = 0 ∨ z = 1) : Calls Try.prog 69 #[.pointer (some ⟨B, 0, none⟩)] w fun e w' => e = .returned .nilIface ∧ w' = ((w.setCell ⟨B, 0, none⟩ (.slice (some ⟨b, cutOff 1 c o, none⟩) n c)).setCell ⟨B, 1, none⟩ (.int .u8 z)).setCell ⟨B, 2, none⟩ (.bool (z == 1)) := by
  rcases h01 with rfl | rfl
  all_goals
    go_enter Try.func69, Try.ntmps69
    go_wp2_with fail
    refine (readByte_any _ _ _ _ _ _ _ hs hf hz).mono ?_
    rintro e w1 ⟨rfl, rfl⟩
    go_wp2
    go_ret
    exact ⟨rfl, rfl⟩
abbrev badErr (s : List UInt8) : Value := .iface 138 (.agg #[.string { data := s.toArray }])
theorem byteOrder_bad (B b o n c : Nat) (z : Int) (w : World) (x : Value) (hs : w.cell? ⟨B, 0, none⟩ = some (.slice (some ⟨b, o, none⟩) (n + 1) (c + 1))) (hx : w.cell? ⟨B, 1, none⟩ = some x) (hf : w.frozen? ⟨B, 0, none⟩ = false) (hf1 : w.frozen? ⟨B, 1, none⟩ = false) (hz : w.cell? ⟨b, o, none⟩ = some (.int .u8 z)) (h0 : (z == 0) = false) (h1 : (z == 1) = false) : Calls Try.prog 69 #[.pointer (some ⟨B, 0, none⟩)] w fun e w' => (∃ s, e = .returned (.iface 138 s)) ∧ w' = (w.setCell ⟨B, 0, none⟩ (.slice (some ⟨b, cutOff 1 c o, none⟩) n c)).setCell ⟨B, 1, none⟩ (.int .u8 z) := by
  go_enter Try.func69, Try.ntmps69
  go_wp2_with fail
  refine (readByte_any _ _ _ _ _ _ _ hs hf hz).mono ?_
  rintro e w1 ⟨rfl, rfl⟩
  go_wp2
  go_ret
  exact ⟨⟨_, rfl⟩, rfl⟩
theorem code_none (B n c : Nat) (ao : Option Addr) (hn : n < 4) (w : World) (hs : w.cell? ⟨B, 0, none⟩ = some (.slice ao n c)) : Calls Try.prog 70 #[.pointer (some ⟨B, 0, none⟩)] w fun e w' => e = .returned (.tuple #[.int .i64 0, .int .u8 0, eofErr]) ∧ w = w' := by
  go_enter Try.func70, Try.ntmps70
  go_wp2_with fail
  refine (uint32_none _ _ _ _ hn _ hs).mono ?_
  rintro e w1 ⟨rfl, rfl⟩
  go_wp2
  refine bodyPost_ret (v := .tuple #[.int .i64 0, .int .u8 0, eofErr]) (by simp [results, Try.results70, go_sem]) rfl ⟨rfl, rfl⟩
def codeOk (V : Int) : Prop := 1 ≤ V % 1000 ∧ V % 1000 ≤ 7 ∧ V / 1000 ≤ 3
def kindOf (V : Int) : Int := if V % 1000 = 7 then 0 else V % 1000
def CodeEnd (V : Int) (e : Ending) : Prop := (codeOk V ∧ e = .returned (.tuple #[.int .i64 (kindOf V), .int .u8 (V / 1000), .nilIface])) ∨ (¬ codeOk V ∧ ∃ s, e = .returned (.tuple #[.int .i64 0, .int .u8 0, .iface 138 s]))
def CutEnd (B b o n c : Nat) (w w' : World) : Prop := ∃ w1, Below w.heap.size w w1 ∧ w' = w1.setCell ⟨B, 0, none⟩ (.slice (some ⟨b, cutOff 4 c o, none⟩) n c)
theorem code_good {V g t : Int} (h1 : 1 ≤ V % 1000) (h2 : V % 1000 ≤ 7) (h3 : V / 1000 ≤ 3) (hg : g = kindOf V) (ht : t = V / 1000) : CodeEnd V (.returned (.tuple #[.int .i64 g, .int .u8 t, .nilIface])) := by
  subst hg ht; exact .inl ⟨⟨h1, h2, h3⟩, rfl⟩
theorem code_bad {V : Int} {s : Value} (h : ¬ (1 ≤ V % 1000 ∧ V % 1000 ≤ 7 ∧ V / 1000 ≤ 3)) : CodeEnd V (.returned (.tuple #[.int .i64 0, .int .u8 0, .iface 138 s])) := .inr ⟨h, s, rfl⟩
set_option maxHeartbeats 4000000 in
theorem code_any (B b o n c : Nat) (bo : Int) (V : Int) (zs : List Int) (w : World) (hB : B < w.heap.size) (hs : w.cell? ⟨B, 0, none⟩ = some (.slice (some ⟨b, o, none⟩) (n + 4) (c + 4))) (hf : w.frozen? ⟨B, 0, none⟩ = false) (ho : w.cell? ⟨B, 1, none⟩ = some (.int .u8 bo)) (hl : 4 ≤ zs.length) (hz : BytesAt w b o zs) (hV : V = if bo = 0 then Lib.beZ (zs.take 4) else Lib.leZ (zs.take 4)) (h0 : 0 ≤ V) (h1 : V ≤ 4294967295) :
    Calls Try.prog 70 #[.pointer (some ⟨B, 0, none⟩)] w fun e w' => CodeEnd V e ∧ CutEnd B b o n c w w' := by
  have k := Lib.hid (uint32_any B b o n c bo V zs w hB hs hf ho hl hz hV)
  clear hs hf ho hl hz hV
  go_enter Try.func70, Try.ntmps70
  go_wp2_with fail
  refine k.out.mono ?_
  rintro e w2 ⟨rfl, w1, hb, rfl⟩
  have HB := Lib.hid hb
  clear hb k
  go_wp2
  all_goals
    refine bodyPost_ret (by simp [results, Try.results70, go_sem]; rfl) rfl ⟨?_, w1, HB.out, rfl⟩
  all_goals
    simp only [beq_iff_eq, beq_eq_false_iff_ne, ne_eq] at *
    first
      | exact code_good (by omega) (by omega) (by omega) (by unfold kindOf; split <;> omega) (by omega)
      | exact code_bad (by omega)
end Go.Proofs.Ytiphlifnmmplaaa
