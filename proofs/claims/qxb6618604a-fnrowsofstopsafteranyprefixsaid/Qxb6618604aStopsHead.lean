import Derived.Test.Qxb6618604aStopsDefs
import Derived.Test.Qxb6618604aRowBytes
import Derived.Deep.CutRange
import Derived.Deep.RegionWith
namespace Go.Proofs.Qxb6618604a
open Go.RowKit Go.Shelf

set_option maxRecDepth 100000 in
set_option maxHeartbeats 4000000 in
theorem stops_law (htail : StopsTail) (a0 a1 a2 : Option Addr) (n0 n1 n2 c0 c1 c2 : Nat) (T L H : Nat → Int) (k : Int) (w : World) (h0 : IntsAt .u64 w a0 n0 T) (h1 : IntsAt .i64 w a1 n1 L) (h2 : IntsAt .i64 w a2 n2 H)
    (m0 : n0 ≤ maxLen) (m1 : n1 ≤ maxLen) (wl : ∀ j, j < n1 → I64 (L j)) (wh : ∀ j, j < n2 → I64 (H j))
    (z0 : Hid (a0 = none → n0 = 0 ∧ c0 = 0)) (z1 : Hid (a1 = none → n1 = 0 ∧ c1 = 0)) (z2 : Hid (a2 = none → n2 = 0 ∧ c2 = 0)) :
    Calls Try.prog 6 #[.slice a0 n0 c0, .slice a1 n1 c1, .slice a2 n2 c2, .int .i64 k] w fun e w' => LawEnd w e w' := by
  unfold maxLen at m0 m1
  obtain ⟨t, ht⟩ : ∃ t, t = restN 9 (Try.f6.body.getD .skip) := ⟨_, rfl⟩
  obtain ⟨c, hc⟩ : ∃ c, c = headN t 9 (Try.f6.body.getD .skip) := ⟨_, rfl⟩
  refine calls_of_wp (c := c) Try.func6 (by rw [hc, ht]; rfl) ?_
  dsimp only [headN, Try.f6, Option.getD] at hc
  subst hc
  simp only [Try.ntmps6, List.size_toArray, List.length_cons, List.length_nil, Nat.reduceAdd, Nat.reduceSub, Array.replicate_succ, Array.replicate_zero, List.push_toArray, List.append_toArray, List.nil_append, List.cons_append]
  have e28 := neq_nil Try.underlying28
  have e29 := neq_nil Try.underlying29
  go_upto_if 55 with (go_at_call 14; refine (bytes14 _ _ _ _ _ _ _ _ _ _ _).mono ?_; rintro e w' ⟨bb, rfl, rfl⟩; cases bb)
  any_goals (go_ret; exact ⟨rfl, Below.refl _ _⟩)
  have b0 : n0 ≤ 32768 := by omega
  obtain rfl : n1 = n0 := by omega
  obtain rfl : n2 = n1 := by rename_i hx; have := hx; simp at this; omega
  clear m0 m1
  go_cut [0, 9] from 23 (fun s0 _ wc => ∃ a, s0 = .slice a n2 n2 ∧ IntsAt .u64 wc a n2 T ∧ Below w.heap.size w wc)
  case first =>
    cases a0 with
    | none =>
      obtain ⟨q, rfl⟩ := z0.out rfl
      have q' : Hid (n2 = 0) := q
      clear q z0
      go_wp2
      go_meet
      exact ⟨none, by rw [q'.out], h0, Below.refl _ _⟩
    | some x =>
      have mk := run_make_row' (P := Try.prog) 28 35 (.int .u64 0) 8 Try.underlying28 info35 rfl .i64 .i64 n2 (by omega) (by omega)
      obtain ⟨w', hcp, hi', hb'⟩ := copy_step (.int .u64 0) Try.underlying28 size35 c0 h0
      go_wp2
      go_meet
      exact ⟨_, rfl, hi', hb'⟩
  case rest =>
  obtain ⟨b0', rfl, i0, hB⟩ := hcut
  obtain ⟨wc1, rfl⟩ : ∃ x, x = wc := ⟨_, rfl⟩
  clear h0
  replace h1 := h1.later hB
  replace h2 := h2.later hB
  go_upto_if 64 with fail
  go_cut [1, 10] from 23 (fun s0 _ wc => ∃ a, s0 = .slice a n2 n2 ∧ IntsAt .i64 wc a n2 L ∧ Below wc1.heap.size wc1 wc)
  case first =>
    cases a1 with
    | none =>
      obtain ⟨q, rfl⟩ := z1.out rfl
      have q' : Hid (n2 = 0) := q
      clear q z1
      go_wp2
      go_meet
      exact ⟨none, by rw [q'.out], h1, Below.refl _ _⟩
    | some x =>
      have mk := run_make_row' (P := Try.prog) 29 3 (.int .i64 0) 8 Try.underlying29 info3 rfl .i64 .i64 n2 (by omega) (by omega)
      obtain ⟨w', hcp, hi', hb'⟩ := copy_step (.int .i64 0) Try.underlying29 size3 c1 h1
      go_wp2
      go_meet
      exact ⟨_, rfl, hi', hb'⟩
  case rest =>
  obtain ⟨b1', rfl, i1, hB1⟩ := hcut
  obtain ⟨wc2, rfl⟩ : ∃ x, x = wc := ⟨_, rfl⟩
  clear h1
  replace i0 := i0.later hB1
  replace h2 := h2.later hB1
  replace hB := below_call hB hB1
  clear hB1
  go_upto_if 73 with fail
  go_cut [2, 11] from 23 (fun s0 _ wc => ∃ a, s0 = .slice a n2 n2 ∧ IntsAt .i64 wc a n2 H ∧ Below wc2.heap.size wc2 wc)
  case first =>
    cases a2 with
    | none =>
      obtain ⟨q, rfl⟩ := z2.out rfl
      have q' : Hid (n2 = 0) := q
      clear q z2
      go_wp2
      go_meet
      exact ⟨none, by rw [q'.out], h2, Below.refl _ _⟩
    | some x =>
      have mk := run_make_row' (P := Try.prog) 29 3 (.int .i64 0) 8 Try.underlying29 info3 rfl .i64 .i64 n2 (by omega) (by omega)
      obtain ⟨w', hcp, hi', hb'⟩ := copy_step (.int .i64 0) Try.underlying29 size3 c2 h2
      go_wp2
      go_meet
      exact ⟨_, rfl, hi', hb'⟩
  case rest =>
  obtain ⟨b2', rfl, i2, hB1⟩ := hcut
  obtain ⟨wc3, rfl⟩ : ∃ x, x = wc := ⟨_, rfl⟩
  clear h2 e28 e29
  replace i0 := i0.later hB1
  replace i1 := i1.later hB1
  replace hB := below_call hB hB1
  clear hB1
  go_upto_region 20 with (go_at_call 12; refine (total_any b1' b2' n2 n2 n2 L H _ b0 i1 i2 wl wh).mono ?_; rintro e wt ⟨hBt, rfl | ⟨htt, rfl⟩⟩)
  · go_wp2
    go_ret
    exact ⟨rfl, below_call hB hBt⟩
  replace i0 := i0.later hBt
  replace i1 := i1.later hBt
  replace i2 := i2.later hBt
  replace hB := below_call hB hBt
  clear hBt
  go_wp2
  rw [ht]
  exact htail w wt b0' b1' b2' n2 T L H k b0 i0 i1 i2 wl wh htt hB _ _ _ _ _ _ _ _ _ _ _ _ _ _ _ _ _ _ _ _ _ _ _ _ _ _ _ _ _ _ _ _ _ _ _ _ _ _ _ _ _ _ _ _ _ _ _ _ _ _ _ _ _ _ _ _ _ _ _ _ _ _ _ _ _ _ _ _ _ _ _ _ _ _ _ _ _ _ _ _ _ _ _ _ _ _ _ _ _ _ _ _ _ _ _ _ _ _ _ _ _ _ _ _ _ _ _ _ _ _ _ _ _ _ _ _ _ _ _ _ _ _ _ _ _ _ _ _ _ _ _ _ _ _ _ _ _ _ _ _ _ _ _ _ _ _ _ _ _ _ _ _ _ _ _ _ _ _ _ _ _ _ _ _ _ _ _ _ _ _

end Go.Proofs.Qxb6618604a
