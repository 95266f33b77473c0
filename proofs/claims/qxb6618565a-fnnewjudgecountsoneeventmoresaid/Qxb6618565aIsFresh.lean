import Derived.Test.Qxb6618565aFresh
namespace Go.Proofs.Qxb6618565a
open Go.RowKit

/-- It returns true, and nothing old has turned. -/
def TrueEnd (w : World) (e : Ending) (w' : World) : Prop := e = .returned (.bool true) ∧ Below w.heap.size w w'

set_option maxRecDepth 100000 in
set_option maxHeartbeats 2000000 in
theorem fresh_any (bj bt : Nat) (ra : Option Addr) (rn rc n p : Nat) (pairs : Int) (wa : Option Addr) (wn : Nat) (f : Nat → Int) (w : World) (hp : p ≤ 1048576) (hrn : rn ≤ 1048577)
    (h : JudgeAt w bj bt ra rn rc n p pairs) (hr : IntsAt w ra rn f) (hw : IntsAt w wa rn f) :
    Calls Try.prog 23 #[.pointer (some ⟨bj, 0, none⟩), .pointer (some ⟨bt, 0, none⟩), .slice wa rn wn, .int .i64 p] w fun e w' => TrueEnd w e w' := by
  have hne := neq45
  have h0 : w.cell? ⟨bj, 0, none⟩ = some (.pointer (some ⟨bt, 0, none⟩)) := by
    obtain ⟨bp, bl, bs, bo, hb, -, -⟩ := h
    exact cell_of_blk hb 0 _ rfl
  have h1 : w.cell? ⟨bj, 1, none⟩ = some (.slice ra rn rc) := by
    obtain ⟨bp, bl, bs, bo, hb, -, -⟩ := h
    exact cell_of_blk hb 1 _ rfl
  go_enter Try.func23, Try.ntmps23
  go_wp2_with (first | (go_at_call 31; refine (jtrace _ _ _ h0).mono ?_; rintro e w' ⟨rfl, rfl⟩) | (go_at_call 32; refine (jreaders _ _ _ h1).mono ?_; rintro e w' ⟨rfl, rfl⟩))
  clear h0 h1
  go_loopw [10] (fun i wr => ∃ k : Nat, k ≤ rn ∧ i = .int .i64 k ∧ Below w.heap.size w wr) (fun i _ => rn - (intOf i).toNat)
  case atStart => exact ⟨0, Nat.zero_le _, rfl, Below.refl _ _⟩
  case round =>
  obtain ⟨k, hk, rfl, hB⟩ := hrel
  by_cases hlt : k < rn
  · obtain ⟨x, rfl, hx⟩ := hr k hlt
    obtain ⟨y, rfl, hy⟩ := hw k hlt
    replace hx := (hB.cell (cell_lt hx)).trans hx
    replace hy := (hB.cell (cell_lt hy)).trans hy
    have hlt' : (k : Int) < (rn : Int) := by omega
    clear hr hw h
    go_wp2
    go_quiet (fail)
    go_wp2
    go_roundw
    case rel => exact ⟨k + 1, by omega, by go_num, below_call hB (below_draws _ _)⟩
    case measure => simp [intOf]; omega
  clear hr hw
  replace h := h.later hB
  have h' := h
  obtain ⟨bp, bl, bs, bo, hb, hbo, hpast⟩ := h'
  go_wp2_with fail
  refine (jcounts bj bl bs n _ (cell_of_blk hb 14 _ rfl) (cell_of_blk hb 15 _ rfl) (cell_of_blk hb 17 _ rfl) (cell_of_blk hb 18 _ rfl) (cell_of_blk hb 19 _ rfl) (cell_of_blk hb 20 _ rfl)).mono ?_
  rintro e w2 ⟨rfl, q, hq⟩
  have hB2 : Below wr.heap.size wr w2 := by rw [hq]; exact below_draws _ _
  clear hq
  replace h := h.later hB2
  replace hbo := row_call hbo hB2
  replace hpast := hpast.later fun _ hk => hB2.block _ hk
  have h2 : w2.cell? ⟨bj, 2, none⟩ = some (.pointer (some ⟨bp, 0, none⟩)) := (hB2.cell (lt_of_blk hb)).trans (cell_of_blk hb 2 _ rfl)
  have h16 : w2.cell? ⟨bj, 16, none⟩ = some (.slice (some ⟨bo, 0, none⟩) p p) := (hB2.cell (lt_of_blk hb)).trans (cell_of_blk hb 16 _ rfl)
  replace hB := below_call hB hB2
  clear hB2 hb hk hlt
  go_wp2_with (go_at_call 34; refine (jofprocess _ _ _ h16).mono ?_; rintro e w' ⟨rfl, rfl⟩)
  go_loop [18] (fun i => ∃ k : Nat, k ≤ p ∧ i = .int .i64 k) (fun i => p - (intOf i).toNat)
  case atStart => exact ⟨0, Nat.zero_le _, rfl⟩
  case round =>
  obtain ⟨m, hm, rfl⟩ := hrel
  by_cases hlt : m < p
  · have hc := hbo.cell hlt
    clear h hpast hbo h2 h16
    go_wp2
    go_round
    case rel => exact ⟨m + 1, by omega, by go_num⟩
    case measure => simp [intOf]; omega
  clear hbo h16
  go_wp2_with fail
  refine (analysis_any bj bt ra rn rc n p pairs _ h).mono ?_
  rintro e w3 ⟨rfl, rfl⟩
  have hnil := fun (w : World) (a : Option Addr) (n c : Nat) => run_neq_slice_nil_any (P := Try.prog) w 51 _ a n c 0 0 Try.underlying51
  clear h hm hlt
  go_wp2_with fail
  refine (jpast bj (.pointer (some ⟨bp, 0, none⟩)) _ ?_).mono ?_
  · (repeat apply cell_keep); exact h2
  rintro e w4 ⟨rfl, rfl⟩
  clear h2
  go_wp2_with fail
  refine (pshape bp bt ra rn rc p _ hp ?_).mono ?_
  · (repeat apply PastAt.alloc); exact hpast
  rintro e w5 ⟨g, bs2, rfl, hg, hbs, hB5⟩
  replace hB : Below w.heap.size w w5 := by
    refine below_call ?_ hB5
    (repeat apply below_alloc)
    exact hB
  clear hB5 hpast hnil
  go_wp2_with fail
  go_loop [27] (fun i => ∃ k : Nat, k ≤ p ∧ i = .int .i64 k) (fun i => p - (intOf i).toNat)
  case atStart => exact ⟨0, Nat.zero_le _, rfl⟩
  case round =>
  obtain ⟨j, hj, rfl⟩ := hrel
  by_cases hlt : j < p
  · have hc1 := hg.cell hlt
    have hc2 := hbs.cell hlt
    clear hg hbs
    go_wp2
    go_round
    case rel => exact ⟨j + 1, by omega, by go_num⟩
    case measure => simp [intOf]; omega
  go_wp2
  go_ret
  exact ⟨rfl, hB⟩
end Go.Proofs.Qxb6618565a
