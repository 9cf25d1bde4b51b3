/- Envelopes: the contracts of NewEnvelope of two places, impl's envelope, Covers, EnvCovers. Conditions stand at each lemma. -/
import Derived.Test.YtiphlifnmmplaaaWp
import Derived.Test.YtiphlifnmmplaaaWo
namespace Go.Proofs.Ytiphlifnmmplaaa
open Go.RowKit
def gK (x y x' y' : Nat) : Nat → En
  | 0 => ⟨false, 0, 0, 0, 0⟩
  | 1 => ⟨true, x, y, x, y⟩
  | _ => ⟨true, fminB x x', fminB y y', fmaxB x x', fmaxB y y'⟩
/-- A box of the package's, as it lies. -/
structure BoxAt (w : World) (n : Nat) (e : En) : Prop where
  size : n < w.heap.size
  c0 : w.cell? ⟨n, 0, none⟩ = some (fl e.a)
  c1 : w.cell? ⟨n, 1, none⟩ = some (fl e.b)
  c2 : w.cell? ⟨n, 2, none⟩ = some (fl e.c)
  c3 : w.cell? ⟨n, 3, none⟩ = some (fl e.d)
  c4 : w.cell? ⟨n, 4, none⟩ = some (.bool e.f)
  g0 : w.frozen? ⟨n, 0, none⟩ = false
  g1 : w.frozen? ⟨n, 1, none⟩ = false
  g2 : w.frozen? ⟨n, 2, none⟩ = false
  g3 : w.frozen? ⟨n, 3, none⟩ = false
  g4 : w.frozen? ⟨n, 4, none⟩ = false
theorem BoxAt.later {w w' : World} {n : Nat} {e : En} (h : BoxAt w n e) (hb : Below w.heap.size w w') : BoxAt w' n e :=
  ⟨Nat.lt_of_lt_of_le h.size hb.size, cell_later hb h.c0, cell_later hb h.c1, cell_later hb h.c2, cell_later hb h.c3, cell_later hb h.c4, frozen_later (a := ⟨n, 0, none⟩) hb h.size h.g0, frozen_later (a := ⟨n, 1, none⟩) hb h.size h.g1, frozen_later (a := ⟨n, 2, none⟩) hb h.size h.g2, frozen_later (a := ⟨n, 3, none⟩) hb h.size h.g3, frozen_later (a := ⟨n, 4, none⟩) hb h.size h.g4⟩
theorem expand_step (x y x' y' : Nat) (hx : Fl.finB x = true) (hy : Fl.finB y = true) (k : Nat) (hk : k < 2) (u v : Nat) (huv : [(x, y), (x', y')][k]? = some (u, v)) (w : World) : Calls Try.prog 81 #[denv (gK x y x' y' k).f (gK x y x' y' k).a (gK x y x' y' k).b (gK x y x' y' k).c (gK x y x' y' k).d, fxy u v] w fun e w' => e = .returned (denv (gK x y x' y' (k + 1)).f (gK x y x' y' (k + 1)).a (gK x y x' y' (k + 1)).b (gK x y x' y' (k + 1)).c (gK x y x' y' (k + 1)).d) ∧ Below w.heap.size w w' := by
  match k, hk with
  | 0, _ => simp at huv; obtain ⟨rfl, rfl⟩ := huv; exact expand_none _ _ _ _ _ _ w
  | 1, _ => simp at huv; obtain ⟨rfl, rfl⟩ := huv; exact expand_any _ _ _ _ _ _ hx hy hx hy w
set_option maxHeartbeats 4000000 in
theorem newEnvelope_two (bl o c : Nat) (x y x' y' : Nat) (hx : Fl.finB x = true) (hy : Fl.finB y = true) (w : World) (hP : XYsAt w bl o [(x, y), (x', y')]) :
   Calls Try.prog 66 #[.slice (some ⟨bl, o, none⟩) 2 c] w fun e w' => e = .returned (denv true (fminB x x') (fminB y y') (fmaxB x x') (fmaxB y y')) ∧ Below w.heap.size w w' := by
  have HP := Lib.hid hP
  have HS := Lib.hid (expand_step x y x' y' hx hy)
  clear hP hx hy
  go_enter Try.func66, Try.ntmps66
  go_wp2
  obtain ⟨w1, hw1⟩ : ∃ w1 : World, w1 = (w.alloc (Obj.cells #[fl 0, fl 0, fl 0, fl 0, .bool false] 91)).alloc (Obj.cells #[fl 0, fl 0, fl 0, fl 0, .bool false] 91) := ⟨_, rfl⟩
  rw [← hw1]
  have hb1 : Hid (Below w.heap.size w w1) := Lib.hid (by rw [hw1]; exact alloc2 ..)
  have e0 : BoxAt w1 w.heap.size (gK x y x' y' 0) := by rw [hw1]; constructor <;> simp [gK, go_sem]
  have e1 : BoxAt w1 (w.heap.size + 1) (gK x y x' y' 0) := by rw [hw1]; constructor <;> simp [gK, go_sem]
  have E0 := Lib.hid e0
  have E1 := Lib.hid e1
  clear hw1 e0 e1
  go_loopw [8] (fun i wr => ∃ k : Nat, k ≤ 2 ∧ i = .int .i64 k ∧ BoxAt wr w.heap.size (gK x y x' y' 0) ∧ BoxAt wr (w.heap.size + 1) (gK x y x' y' k) ∧ Below w.heap.size w wr) (fun i _ => 2 - (intOf i).toNat)
  case atStart => exact ⟨0, Nat.zero_le _, rfl, E0.out, E1.out, hb1.out⟩
  case round =>
    obtain ⟨k, hk, rfl, he0, he1, hb⟩ := hrel
    have HB := Lib.hid hb
    by_cases hlt : k < 2
    · obtain ⟨u, v, huv⟩ : ∃ u v, [(x, y), (x', y')][k]? = some (u, v) := by
        match k, hlt with
        | 0, _ => exact ⟨_, _, rfl⟩
        | 1, _ => exact ⟨_, _, rfl⟩
      obtain ⟨c0, c1⟩ := (HP.out.later hb).2 k u v huv
      have HK := Lib.hid (HS.out k hlt u v huv)
      have E0' := Lib.hid he0
      have E1' := Lib.hid he1
      obtain ⟨hs0, a0, a1, a2, a3, a4, f0, f1, f2, f3, f4⟩ := he0
      obtain ⟨hs1, b0, b1, b2, b3, b4, g0, g1, g2, g3, g4⟩ := he1
      clear hb huv a0 a1 a2 a3 a4 f0 f1 f2 f3 f4
      go_wp2_with fail
      refine (HK.out _).mono ?_
      rintro e w2 ⟨rfl, hb⟩
      have q0 := Lib.hid ((Below.refl wr.heap.size wr).alloc (Nat.le_refl _) (Obj.cells #[.float .f64 u, .float .f64 v] 80))
      have hz2 := hb.size
      simp at hz2
      have q1 := Lib.hid (q0.out.trans (hb.mono q0.out.size))
      have E0'' := Lib.hid (E0'.out.later q1.out)
      have E1'' := Lib.hid (E1'.out.later q1.out)
      obtain ⟨_, a0, a1, a2, a3, a4, f0, f1, f2, f3, f4⟩ := E0''.out
      obtain ⟨_, b0, b1, b2, b3, b4, g0, g1, g2, g3, g4⟩ := E1''.out
      have HB2 := Lib.hid hb
      clear hb
      go_wp2
      go_roundw
      case rel =>
        refine ⟨k + 1, by omega, by go_num, ?_, ?_, ?_⟩
        · constructor <;> simp [go_sem, *] <;> omega
        · constructor <;> simp [go_sem, *] <;> omega
        · exact set5 (HB.out.trans (q1.out.mono HB.out.size)) (Nat.le_succ _) _ _ _ _ _
      case measure => simp [intOf]; omega
    · have : k = 2 := by omega
      subst this
      obtain ⟨hs0, a0, a1, a2, a3, a4, f0, f1, f2, f3, f4⟩ := he0
      obtain ⟨hs1, b0, b1, b2, b3, b4, g0, g1, g2, g3, g4⟩ := he1
      clear hb
      simp only [gK] at a0 a1 a2 a3 a4 b0 b1 b2 b3 b4
      go_wp2
      refine bodyPost_ret (v := denv true (fminB x x') (fminB y y') (fmaxB x x') (fmaxB y y')) (by simp [results, Try.results66, go_sem, a0, a1, a2, a3, a4]) rfl ⟨rfl, set5 HB.out (Nat.le_refl _) _ _ _ _ _⟩
end Go.Proofs.Ytiphlifnmmplaaa
