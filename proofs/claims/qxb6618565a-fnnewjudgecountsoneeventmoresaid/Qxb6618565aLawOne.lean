import Derived.Test.Qxb6618565aIsFresh
namespace Go.Proofs.Qxb6618565a
open Go.RowKit

theorem ints_of_row {w : World} {b n : Nat} {G : Nat → Int} (h : w.rowIs b 3 n (fun k => .int .i64 (G k))) : IntsAt w (some ⟨b, 0, none⟩) n G := by
  intro k hk
  exact ⟨_, rfl, by rw [Addr.add_lit, Nat.zero_add]; exact h.cell hk⟩

set_option maxRecDepth 100000 in
set_option maxHeartbeats 4000000 in
theorem walkOne (a0 : Option Addr) (n0 c0 : Nat) (s : Nat → ByteArray) (a1 : Option Addr) (n1 c1 : Nat) (f : Nat → Int) (a2 : Option Addr) (n2 c2 : Nat) (g : Nat → Int) (extra : Int) (w : World) (hm0 : n0 ≤ maxLen) (hl1 : n1 ≤ c1) (hm1 : c1 ≤ maxLen) (hl2 : n2 ≤ c2) (hm2 : c2 ≤ maxLen)
    (hnil1 : a1 = none → n1 = 0 ∧ c1 = 0) (hnil2 : a2 = none → n2 = 0 ∧ c2 = 0)
    (h0 : StrsAt w a0 n0 s) (hs : ∀ k, k < n0 → (s k).size ≤ maxLen) (h1 : IntsAt w a1 n1 f) (h2 : IntsAt w a2 n2 g) :
    Calls Try.prog 5 #[.slice a0 n0 c0, .slice a1 n1 c1, .slice a2 n2 c2, .int .i64 extra] w fun e w' => TrueEnd w e w' := by
  go_enter Try.func5, Try.ntmps5
  go_wp2_with fail
  refine (bytes19 a0 n0 c0 s a1 n1 c1 a2 n2 c2 extra w hm0 (by omega) (by omega) h0 hs).mono ?_
  rintro e w' ⟨bb, rfl, rfl, hbb⟩
  cases bb with
  | false =>
    go_wp2
    go_ret
    exact ⟨rfl, Below.refl _ _⟩
  | true =>
  obtain ⟨hb0, hb1, hb2, hsh⟩ := hbb rfl
  clear hbb
  unfold maxLen at *
  by_cases hsz : 16 * n0 + 8 * n1 + 8 * n2 ≤ 1048576
  rotate_left
  · go_wp2
    go_ret
    exact ⟨rfl, Below.refl _ _⟩
  have hd0 : decide ((1048576 : Int) < (n0 : Int)) = false := decide_eq_false (by omega)
  have hd1 : decide ((1048576 : Int) < (n1 : Int)) = false := decide_eq_false (by omega)
  have hd2 : decide ((1048576 : Int) < (n2 : Int)) = false := decide_eq_false (by omega)
  have hd3 : decide ((1048576 : Int) < 16 * (n0 : Int) + 8 * (n1 : Int) + 8 * (n2 : Int)) = false := decide_eq_false (by omega)
  go_wp2_with fail
  clear hd0 hd1 hd2 hd3
  go_loop [9, 10] (fun z i => ∃ (k m : Nat), k ≤ n0 ∧ m ≤ 1048576 ∧ i = .int .i64 k ∧ z = .int .i64 m) (fun _ i => n0 - (intOf i).toNat)
  case atStart => exact ⟨0, 16 * n0 + 8 * n1 + 8 * n2, Nat.zero_le _, hsz, rfl, by go_num⟩
  case round =>
  obtain ⟨k, m, hk, hm, rfl, rfl⟩ := hrel
  by_cases hlt : k < n0
  · obtain ⟨x, rfl, hx⟩ := h0 k hlt
    have hsk := hsh k hlt
    clear h0 hs h1 h2 hsh
    by_cases hl2 : m + (s k).size ≤ 1048576
    · go_wp2
      go_round
      case rel => exact ⟨k + 1, m + (s k).size, by omega, hl2, by go_num, by go_num⟩
      case measure => simp [intOf]; omega
    · go_wp2
      go_ret
      exact ⟨rfl, Below.refl _ _⟩
  clear hs hsh
  by_cases h12 : n2 = n1
  rotate_left
  · have hne : ((n2 : Int) != (n1 : Int)) = true := by rw [bne_iff_ne]; omega
    go_wp2
    go_ret
    exact ⟨rfl, Below.refl _ _⟩
  subst h12
  by_cases hc0 : 0 ≤ extra
  rotate_left
  · go_wp2
    go_ret
    exact ⟨rfl, Below.refl _ _⟩
  by_cases hcn : extra < n0
  rotate_left
  · go_wp2
    go_ret
    exact ⟨rfl, Below.refl _ _⟩
  have hd0 : decide (extra < 0) = false := decide_eq_false (by omega)
  have hd1 : decide ((n0 : Int) ≤ extra) = false := decide_eq_false (by omega)
  go_wp2_with fail
  clear hd0 hd1
  go_loop [13] (fun i => ∃ k : Nat, k ≤ n2 ∧ i = .int .i64 k) (fun i => n2 - (intOf i).toNat)
  case atStart => exact ⟨0, Nat.zero_le _, rfl⟩
  case round =>
  clear hk hlt hm
  obtain ⟨k, hk, rfl⟩ := hrel
  by_cases hlt : k < n2
  · obtain ⟨x, rfl, hx⟩ := h1 k hlt
    obtain ⟨y, rfl, hy⟩ := h2 k hlt
    clear h0 h1 h2
    by_cases hf0 : 0 ≤ f k
    rotate_left
    · go_wp2
      go_ret
      exact ⟨rfl, Below.refl _ _⟩
    by_cases hf1 : f k < n0
    rotate_left
    · go_wp2
      go_ret
      exact ⟨rfl, Below.refl _ _⟩
    by_cases hg : g k = 0
    rotate_left
    · have hg' : (g k != 0) = true := by rw [bne_iff_ne]; exact hg
      clear hg
      go_wp2
      go_ret
      exact ⟨rfl, Below.refl _ _⟩
    · have hg' : (g k != 0) = false := by simp [hg]
      clear hg
      go_wp2
      go_round
      case rel => exact ⟨k + 1, by omega, by go_num⟩
      case measure => simp [intOf]; omega
  have hmk := run_make_row' (P := Try.prog) 43 3 _ 8 Try.underlying43 info3 rfl .i64 .i64 (n2 + 1) (by omega) (by omega)
  have ec : ((n2 + 1 : Nat) : Int) = (n2 : Int) + 1 := by omega
  rw [ec] at hmk
  clear ec
  go_wp2_with fail
  clear hk hlt
  go_loopw [15] (fun i wr => ∃ k : Nat, k ≤ n2 ∧ i = .int .i64 k ∧ (∃ G : Nat → Int, wr.rowIs w'.heap.size 3 (n2 + 1) (fun j => .int .i64 (G j))) ∧ Below w'.heap.size w' wr) (fun i _ => n2 - (intOf i).toNat)
  case atStart => exact ⟨0, Nat.zero_le _, rfl, ⟨fun _ => 0, World.rowIs_made _ _ _ _⟩, (Below.refl _ _).alloc (Nat.le_refl _) _⟩
  case round =>
  obtain ⟨r, hr, rfl, ⟨G, hrow⟩, hB⟩ := hrel
  by_cases hlt : r < n2
  · obtain ⟨x, rfl, hx⟩ := h1 r hlt
    replace hx := (hB.cell (cell_lt hx)).trans hx
    have hc2 := hrow.cell (i := r) (by omega)
    have hc3 := hrow.frozen r
    have R := hrow.set r (.int .i64 (f r))
    have hBs := hB.setCell (p := ⟨w'.heap.size, r, none⟩) (Nat.le_refl _) (.int .i64 (f r))
    have hlt2 : (r : Int) < ((n2 + 1 : Nat) : Int) := by omega
    clear h0 h1 h2 hmk
    go_wp2
    go_roundw
    case rel => exact ⟨r + 1, by omega, by go_num, ⟨fun j => if j = r then f r else G j, R.congr (by intro j _; dsimp only; split <;> rfl)⟩, hBs⟩
    case measure => simp [intOf]; omega
  have hc2 := hrow.cell (i := n2) (by omega)
  have hc3 := hrow.frozen n2
  have hlt2 : (n2 : Int) < ((n2 + 1 : Nat) : Int) := by omega
  obtain ⟨G', R⟩ : ∃ G' : Nat → Int, (wr.setCell ⟨w'.heap.size, n2, none⟩ (.int .i64 extra)).rowIs w'.heap.size 3 (n2 + 1) (fun j => .int .i64 (G' j)) :=
    ⟨fun j => if j = n2 then extra else G j, (hrow.set n2 (.int .i64 extra)).congr (by intro j _; dsimp only; split <;> rfl)⟩
  have hBs := hB.setCell (p := ⟨w'.heap.size, n2, none⟩) (Nat.le_refl _) (.int .i64 extra)
  clear hrow hB
  go_wp2_with fail
  clear hc2 hc3 hlt2 hr hlt
  refine (trace_end a0 n0 c0 s a1 n2 c1 f _ hb0 (by omega) (h0.later hBs) (h1.later hBs)).mono ?_
  rintro e w1 ⟨bt, rfl, ht1, hB1⟩
  replace R := row_call R hB1
  have hB := below_call hBs hB1
  clear hBs hB1
  go_wp2_with fail
  refine (trace_end a0 n0 c0 s (some ⟨w'.heap.size, 0, none⟩) (n2 + 1) (n2 + 1) G' _ hb0 (by omega) (h0.later hB) (ints_of_row R)).mono ?_
  rintro e w2 ⟨bu, rfl, ht2, hB2⟩
  replace ht1 := ht1.later hB2
  replace hB := below_call hB hB2
  clear hB2 R h0 h1
  go_wp2_with fail
  refine (clone_any a2 n2 c2 g _ hb2 hnil2 (h2.later hB)).mono ?_
  rintro e w3 ⟨ra3, rc3, rfl, hra, hB3⟩
  replace ht1 := ht1.later hB3
  replace ht2 := ht2.later hB3
  replace hB := below_call hB hB3
  clear hB3
  go_wp2_with fail
  refine (newjudge_any bt n0 n2 ra3 n2 rc3 _ hb0 (by omega) ht1).mono ?_
  rintro e w4 ⟨bj, rfl, hj, hB4⟩
  replace ht2 := ht2.later hB4
  replace hra := hra.later hB4
  replace hB := below_call hB hB4
  clear hB4 ht1
  have hz := World.rowIs_made w4 (.int .i64 0) (n2 + 1) 3
  have hB5 := below_alloc (Below.refl w4.heap.size w4) (.cells (madeCells #[.int .i64 0] (n2 + 1)) 3)
  go_wp2_with fail
  refine (newjudge_any bu n0 (n2 + 1) (some ⟨w4.heap.size, 0, none⟩) (n2 + 1) (n2 + 1) _ hb0 (by omega) (ht2.later hB5)).mono ?_
  rintro e w5 ⟨bk, rfl, hk, hB6⟩
  replace hj := (hj.later hB5).later hB6
  replace hra := (hra.later hB5).later hB6
  replace hz := row_call hz hB6
  replace hB := below_call (below_call hB hB5) hB6
  clear hB5 hB6 ht2
  have hz2 := World.rowIs_made w5 (.int .i64 0) (n2 + 1) 3
  have hB7 := below_alloc (Below.refl w5.heap.size w5) (.cells (madeCells #[.int .i64 0] (n2 + 1)) 3)
  replace hz := row_call hz hB7
  replace hB := below_call hB hB7
  replace hj := hj.later hB7
  replace hk := hk.later hB7
  replace hra := hra.later hB7
  clear hB7
  go_wp2_with fail
  clear hmk
  refine (fresh_any bj bt ra3 n2 rc3 n2 n0 (pairsOf n2) a2 c2 g _ hb0 (by omega) hj hra (h2.later hB)).mono ?_
  rintro e w6 ⟨rfl, hB6⟩
  replace hj := hj.later hB6
  replace hk := hk.later hB6
  replace hz := row_call hz hB6
  replace hz2 := row_call hz2 hB6
  replace hB := below_call hB hB6
  clear hB6 hra h2
  go_wp2_with fail
  refine (fresh_any bk bu (some ⟨w4.heap.size, 0, none⟩) (n2 + 1) (n2 + 1) (n2 + 1) n0 (pairsOf (n2 + 1)) (some ⟨w5.heap.size, 0, none⟩) (n2 + 1) (fun _ => 0) _ hb0 (by omega) hk (ints_of_row hz) (ints_of_row hz2)).mono ?_
  rintro e w7 ⟨rfl, hB7⟩
  replace hj := hj.later hB7
  replace hk := hk.later hB7
  replace hB := below_call hB hB7
  clear hB7 hz hz2
  go_wp2_with fail
  refine (analysis_any bj bt ra3 n2 rc3 n2 n0 (pairsOf n2) _ hj).mono ?_
  rintro e w8 ⟨rfl, rfl⟩
  go_wp2_with fail
  refine (analysis_any bk bu (some ⟨w4.heap.size, 0, none⟩) (n2 + 1) (n2 + 1) (n2 + 1) n0 (pairsOf (n2 + 1)) _ ?_).mono ?_
  · (repeat apply JudgeAt.alloc); exact hk
  rintro e w8 ⟨rfl, rfl⟩
  go_wp2_with fail
  clear hj hk
  go_loop [23, 24] (fun z i => ∃ k : Nat, k ≤ n2 ∧ i = .int .i64 k ∧ z = .int .u64 (pairsOf k)) (fun _ i => n2 - (intOf i).toNat)
  case atStart => exact ⟨0, Nat.zero_le _, rfl, rfl⟩
  case round =>
  obtain ⟨q, hq, rfl, rfl⟩ := hrel
  by_cases hlt : q < n2
  · have hst := pairs_step q (by omega)
    go_wp2
    go_round
    case rel => exact ⟨q + 1, by omega, by go_num, rfl⟩
    case measure => simp [intOf]; omega
  obtain rfl : q = n2 := by omega
  have he : (((q + 1 : Nat) : Int) == (q : Int) + 1) = true := by rw [beq_iff_eq]; omega
  have hst := pairs_step q (by omega)
  go_wp2
  go_ret
  refine ⟨rfl, ?_⟩
  (repeat apply below_alloc)
  exact hB
end Go.Proofs.Qxb6618565a
