/- Bytes: DoorWKBCode, impl's ReadCode. Conditions stand at each lemma. -/
import Derived.Test.YtiphlifnmmplaaaWw
namespace Go.Proofs.Ytiphlifnmmplaaa
open Go.RowKit
noncomputable def valOf (z : Int) (rest : List Int) : Int := if z = 0 then Lib.beZ (rest.take 4) else Lib.leZ (rest.take 4)
def Good : List Int → Prop
  | [] => False
  | z :: rest => z ≤ 1 ∧ 4 ≤ rest.length ∧ codeOk (valOf z rest)
def DoorEnd (zs : List Int) (e : Ending) : Prop :=
  (∃ z rest, zs = z :: rest ∧ Good zs ∧ e = .returned (.tuple #[.int .i64 (kindOf (valOf z rest)), .int .u8 (valOf z rest / 1000), .int .i64 (rest.length - 4 : Nat), .nilIface])) ∨ (¬ Good zs ∧ ∃ g t l s, e = .returned (.tuple #[.int .i64 g, .int .u8 t, .int .i64 l, .iface 138 s]))
theorem door_empty (ao : Option Addr) (c : Nat) (w : World) : Calls Try.prog 52 #[.slice ao 0 c] w fun e w' => DoorEnd [] e ∧ Below w.heap.size w w' := by
  go_enter Try.func52, Try.ntmps52
  go_wp2_with fail
  refine (byteOrder_none _ _ _ _ (by simp; exact ⟨rfl, rfl⟩)).mono ?_
  rintro e w1 ⟨rfl, rfl⟩
  go_wp2
  refine bodyPost_ret (v := .tuple #[.int .i64 0, .int .u8 0, .int .i64 0, eofErr]) (by simp [results, Try.results52, go_sem]) rfl ⟨.inr ⟨fun h => h, _, _, _, _, rfl⟩, (Below.refl _ _).alloc (Nat.le_refl _) _⟩
theorem alloc_parser (w : World) (v : Value) : (w.alloc (.cells #[v, .int .u8 0, .bool false] 118)).cell? ⟨w.heap.size, 0, none⟩ = some v ∧ (w.alloc (.cells #[v, .int .u8 0, .bool false] 118)).cell? ⟨w.heap.size, 1, none⟩ = some (.int .u8 0) ∧ (w.alloc (.cells #[v, .int .u8 0, .bool false] 118)).cell? ⟨w.heap.size, 2, none⟩ = some (.bool false) ∧ (w.alloc (.cells #[v, .int .u8 0, .bool false] 118)).frozen? ⟨w.heap.size, 0, none⟩ = false ∧ (w.alloc (.cells #[v, .int .u8 0, .bool false] 118)).frozen? ⟨w.heap.size, 1, none⟩ = false ∧ (w.alloc (.cells #[v, .int .u8 0, .bool false] 118)).frozen? ⟨w.heap.size, 2, none⟩ = false := by
  refine ⟨?_, ?_, ?_, ?_, ?_, ?_⟩ <;> simp [go_sem]
theorem door_badOrder (b o c : Nat) (z : Int) (rest : List Int) (w : World) (hc : rest.length + 1 ≤ c) (hz : BytesAt w b o (z :: rest)) (h1 : ¬ z ≤ 1) : Calls Try.prog 52 #[.slice (some ⟨b, o, none⟩) (rest.length + 1) c] w fun e w' => DoorEnd (z :: rest) e ∧ Below w.heap.size w w' := by
  obtain ⟨c, rfl⟩ : ∃ c', c = c' + 1 := ⟨c - 1, by omega⟩
  have HZ := Lib.hid (hz.later ((Below.refl _ w).alloc (Nat.le_refl _) (.cells #[.slice (some ⟨b, o, none⟩) (rest.length + 1) (c + 1), .int .u8 0, .bool false] 118)))
  obtain ⟨p0, p1, p2, q0, q1, q2⟩ := alloc_parser w (.slice (some ⟨b, o, none⟩) (rest.length + 1) (c + 1))
  have K := Lib.hid (byteOrder_bad w.heap.size b o rest.length c z _ _ p0 p1 q0 q1 (HZ.out.2.1 0 z rfl) (by simp; omega) (by simp; omega))
  clear hz p0 p1 p2 q0 q1 q2
  go_enter Try.func52, Try.ntmps52
  go_wp2_with fail
  refine K.out.mono ?_
  rintro e w1 ⟨⟨s, rfl⟩, rfl⟩
  go_wp2
  refine bodyPost_ret (v := .tuple #[.int .i64 0, .int .u8 0, .int .i64 0, .iface 138 s]) (by simp [results, Try.results52, go_sem]) rfl ⟨.inr ⟨fun h => absurd h.1 (by omega), _, _, _, _, rfl⟩, ?_⟩
  exact (Below.refl _ w).alloc (Nat.le_refl _) _
theorem u8_wf {z : Int} (h : (Lit.int .u8 z).wf = true) : 0 ≤ z ∧ z ≤ 255 := Lib.byte_of_wf h
/-- What is known behind the order of bytes. -/
structure AfterOrder (w W1 : World) (b o n c : Nat) (z : Int) : Prop where
  below : Below w.heap.size w W1
  size : w.heap.size < W1.heap.size
  c0 : W1.cell? ⟨w.heap.size, 0, none⟩ = some (.slice (some ⟨b, cutOff 1 c o, none⟩) n c)
  c1 : W1.cell? ⟨w.heap.size, 1, none⟩ = some (.int .u8 z)
  g0 : W1.frozen? ⟨w.heap.size, 0, none⟩ = false
theorem order_good (b o n c : Nat) (z : Int) (w : World) (hz : (w.alloc (.cells #[.slice (some ⟨b, o, none⟩) (n + 1) (c + 1), .int .u8 0, .bool false] 118)).cell? ⟨b, o, none⟩ = some (.int .u8 z)) (h01 : z = 0 ∨ z = 1) : Calls Try.prog 69 #[.pointer (some ⟨w.heap.size, 0, none⟩)] (w.alloc (.cells #[.slice (some ⟨b, o, none⟩) (n + 1) (c + 1), .int .u8 0, .bool false] 118)) fun e w' => e = .returned .nilIface ∧ AfterOrder w w' b o n c z := by
  obtain ⟨p0, p1, p2, q0, q1, q2⟩ := alloc_parser w (.slice (some ⟨b, o, none⟩) (n + 1) (c + 1))
  refine (byteOrder_any w.heap.size b o n c z _ _ _ p0 p1 p2 q0 q1 q2 hz h01).mono ?_
  rintro e w1 ⟨rfl, rfl⟩
  refine ⟨rfl, ?_, ?_, ?_, ?_, ?_⟩
  · exact ((((Below.refl _ w).alloc (Nat.le_refl _) _).setCell (p := ⟨w.heap.size, 0, none⟩) (Nat.le_refl _) _).setCell (p := ⟨w.heap.size, 1, none⟩) (Nat.le_refl _) _).setCell (p := ⟨w.heap.size, 2, none⟩) (Nat.le_refl _) _
  · simp
  · simp [go_sem]
  · simp [go_sem]
  · simp [go_sem]
set_option maxHeartbeats 1000000 in
theorem door_short (b o c : Nat) (z : Int) (rest : List Int) (w : World) (hc : rest.length + 1 ≤ c) (hz : BytesAt w b o (z :: rest)) (h01 : z = 0 ∨ z = 1) (hl : rest.length < 4) : Calls Try.prog 52 #[.slice (some ⟨b, o, none⟩) (rest.length + 1) c] w fun e w' => DoorEnd (z :: rest) e ∧ Below w.heap.size w w' := by
  obtain ⟨c, rfl⟩ : ∃ c', c = c' + 1 := ⟨c - 1, by omega⟩
  have HZ := Lib.hid (hz.later ((Below.refl _ w).alloc (Nat.le_refl _) (.cells #[.slice (some ⟨b, o, none⟩) (rest.length + 1) (c + 1), .int .u8 0, .bool false] 118)))
  have K := Lib.hid (order_good b o rest.length c z w (HZ.out.2.1 0 z rfl) h01)
  have HL := Lib.hid hl
  clear hz h01 hc hl
  go_enter Try.func52, Try.ntmps52
  go_wp2_with fail
  refine K.out.mono ?_
  rintro e w1 ⟨rfl, A⟩
  have a0 := A.c0
  have r0 := cell_regrown a0
  have AA := Lib.hid A
  clear A
  go_wp2_with fail
  refine (code_none _ _ _ _ HL.out _ a0).mono ?_
  rintro e w2 ⟨rfl, rfl⟩
  go_wp2
  refine Rh.region_below (by kernel_rfl) (by kernel_rfl) ?_
  repeat (refine Rh.qw_step (fun K hK => ?_); go_simp; (refine hK _ ?_; clear hK K))
  refine Rh.qw_nil ?_
  intro _ hw'
  obtain ⟨⟨dq, osq⟩, hw''⟩ := hw'
  subst hw''
  go_wp2
  refine bodyPost_ret (v := .tuple #[.int .i64 0, .int .u8 0, .int .i64 rest.length, eofErr]) (by simp [results, Try.results52, go_sem]) rfl ⟨.inr ⟨fun h => absurd h.2.1 (by have := HL.out; omega), _, _, _, _, rfl⟩, ?_⟩
  exact AA.out.below.trans ((below_regrown _ dq osq).mono AA.out.below.size)
set_option maxHeartbeats 1000000 in
theorem door_long (b o c : Nat) (z : Int) (rest : List Int) (w : World) (hc : rest.length + 1 ≤ c) (hz : BytesAt w b o (z :: rest)) (h01 : z = 0 ∨ z = 1) (hl : 4 ≤ rest.length) (hv0 : 0 ≤ valOf z rest) (hv1 : valOf z rest ≤ 4294967295) : Calls Try.prog 52 #[.slice (some ⟨b, o, none⟩) (rest.length + 1) c] w fun e w' => DoorEnd (z :: rest) e ∧ Below w.heap.size w w' := by
  obtain ⟨c, rfl⟩ : ∃ c', c = c' + 4 + 1 := ⟨c - 5, by omega⟩
  obtain ⟨n, hn⟩ : ∃ n, rest.length = n + 4 := ⟨rest.length - 4, by omega⟩
  have HZ := Lib.hid (hz.later ((Below.refl _ w).alloc (Nat.le_refl _) (.cells #[.slice (some ⟨b, o, none⟩) (n + 4 + 1) (c + 4 + 1), .int .u8 0, .bool false] 118)))
  have K := Lib.hid (order_good b o (n + 4) (c + 4) z w (HZ.out.2.1 0 z rfl) h01)
  have HZ0 := Lib.hid hz
  have H01 := Lib.hid h01
  rw [hn]
  have HN := Lib.hid hn
  clear hz h01 hc hn hl HZ
  go_enter Try.func52, Try.ntmps52
  go_wp2_with fail
  refine K.out.mono ?_
  rintro e w1 ⟨rfl, A⟩
  have a0 := A.c0
  have hco : cutOff 1 (c + 4) o = o + 1 := by simp [cutOff]
  rw [hco] at a0
  have hb1 : BytesAt w1 b (o + 1) rest := by
    refine ⟨Nat.lt_of_lt_of_le HZ0.out.1 A.below.size, fun k x hk => ?_, fun x hx => HZ0.out.2.2 x (List.mem_cons_of_mem _ hx)⟩
    rw [A.below.cell (p := ⟨b, o + 1 + k, none⟩) HZ0.out.1]
    have := HZ0.out.2.1 (k + 1) x (by simpa using hk)
    rwa [show o + 1 + k = o + (k + 1) by omega]
  have HC := Lib.hid (code_any w.heap.size b (o + 1) n c z (valOf z rest) rest w1 A.size a0 A.g0 A.c1 (by have := HN.out; omega) hb1 rfl hv0 hv1)
  have AA := Lib.hid A
  clear A hb1
  go_wp2_with fail
  refine HC.out.mono ?_
  rintro e w2 ⟨hce, w3, hb3, rfl⟩
  have HB3 := Lib.hid hb3
  have s3 : w.heap.size < w3.heap.size := Nat.lt_of_lt_of_le AA.out.size hb3.size
  have a3 := cell_later hb3 a0
  have a4 : (w3.setCell ⟨w.heap.size, 0, none⟩ (.slice (some ⟨b, cutOff 4 c (o + 1), none⟩) n c)).cell? ⟨w.heap.size, 0, none⟩ = some (.slice (some ⟨b, cutOff 4 c (o + 1), none⟩) n c) := by
    clear hb3 a0
    simp [go_sem, a3]
  have BB := Lib.hid (AA.out.below.trans ((HB3.out.mono AA.out.below.size).setCell (p := ⟨w.heap.size, 0, none⟩) (Nat.le_refl _) (.slice (some ⟨b, cutOff 4 c (o + 1), none⟩) n c)))
  clear hb3 a0 a3
  generalize w3.setCell ⟨w.heap.size, 0, none⟩ (.slice (some ⟨b, cutOff 4 c (o + 1), none⟩) n c) = w4 at *
  have r0 := cell_regrown a4
  rcases hce with ⟨hok, rfl⟩ | ⟨hok, s, rfl⟩
  all_goals
    have HO := Lib.hid hok
    clear hok
    go_wp2
    refine Rh.region_below (by kernel_rfl) (by kernel_rfl) ?_
    repeat (refine Rh.qw_step (fun K hK => ?_); go_simp; (refine hK _ ?_; clear hK K))
    refine Rh.qw_nil ?_
    intro _ hw'
    obtain ⟨⟨dq, osq⟩, hw''⟩ := hw'
    subst hw''
    go_wp2
  · refine bodyPost_ret (v := .tuple #[.int .i64 (kindOf (valOf z rest)), .int .u8 (valOf z rest / 1000), .int .i64 n, .nilIface]) (by simp [results, Try.results52, go_sem]) rfl ⟨.inl ⟨z, rest, rfl, ⟨?_, ?_, HO.out⟩, ?_⟩, BB.out.trans ((below_regrown _ dq osq).mono BB.out.size)⟩
    · rcases H01.out with h | h <;> omega
    · have := HN.out; omega
    · rw [HN.out]; simp
  · refine bodyPost_ret (v := .tuple #[.int .i64 0, .int .u8 0, .int .i64 n, .iface 138 s]) (by simp [results, Try.results52, go_sem]) rfl ⟨.inr ⟨fun h => HO.out h.2.2, _, _, _, _, rfl⟩, BB.out.trans ((below_regrown _ dq osq).mono BB.out.size)⟩
end Go.Proofs.Ytiphlifnmmplaaa
