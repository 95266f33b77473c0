import Derived.Test.Qxb6618565aParts
namespace Go.Proofs.Qxb6618565a
open Go.RowKit

/-- The end of the law: true, and nothing old has turned. -/
def LawEnd (w : World) (e : Ending) (w' : World) : Prop := e = .returned (.bool true) ∧ Below w.heap.size w w'

set_option maxRecDepth 100000 in
set_option maxHeartbeats 4000000 in
theorem walkCut (a0 : Option Addr) (n0 c0 : Nat) (s : Nat → ByteArray) (a1 : Option Addr) (n1 c1 : Nat) (f : Nat → Int) (a2 : Option Addr) (n2 c2 : Nat) (g : Nat → Int) (cut : Int) (w : World) (hm0 : n0 ≤ maxLen) (hl1 : n1 ≤ c1) (hm1 : c1 ≤ maxLen) (hl2 : n2 ≤ c2) (hm2 : c2 ≤ maxLen)
    (hnil1 : a1 = none → n1 = 0 ∧ c1 = 0) (hnil2 : a2 = none → n2 = 0 ∧ c2 = 0)
    (h0 : StrsAt w a0 n0 s) (hs : ∀ k, k < n0 → (s k).size ≤ maxLen) (h1 : IntsAt w a1 n1 f) (h2 : IntsAt w a2 n2 g) :
    Calls Try.prog 6 #[.slice a0 n0 c0, .slice a1 n1 c1, .slice a2 n2 c2, .int .i64 cut] w fun e w' => LawEnd w e w' := by
  go_enter Try.func6, Try.ntmps6
  go_wp2_with fail
  refine (bytes25 a0 n0 c0 s a1 n1 c1 a2 n2 c2 cut w hm0 (by omega) (by omega) h0 hs).mono ?_
  rintro e w' ⟨bb, rfl, rfl, hbb⟩
  cases bb with
  | false =>
    go_wp2
    go_ret
    exact ⟨rfl, Below.refl _ _⟩
  | true =>
  obtain ⟨hb0, hb1, hb2, hsh⟩ := hbb rfl
  clear hbb
  unfold maxLen at *
  by_cases hsz : 16 * n0 + 8 * n1 + 8 * n2 ≤ 1048576
  rotate_left
  · go_wp2
    go_ret
    exact ⟨rfl, Below.refl _ _⟩
  have hd0 : decide ((1048576 : Int) < (n0 : Int)) = false := decide_eq_false (by omega)
  have hd1 : decide ((1048576 : Int) < (n1 : Int)) = false := decide_eq_false (by omega)
  have hd2 : decide ((1048576 : Int) < (n2 : Int)) = false := decide_eq_false (by omega)
  have hd3 : decide ((1048576 : Int) < 16 * (n0 : Int) + 8 * (n1 : Int) + 8 * (n2 : Int)) = false := decide_eq_false (by omega)
  go_wp2_with fail
  clear hd0 hd1 hd2 hd3
  go_loop [9, 10] (fun z i => ∃ (k m : Nat), k ≤ n0 ∧ m ≤ 1048576 ∧ i = .int .i64 k ∧ z = .int .i64 m) (fun _ i => n0 - (intOf i).toNat)
  case atStart => exact ⟨0, 16 * n0 + 8 * n1 + 8 * n2, Nat.zero_le _, hsz, rfl, by go_num⟩
  case round =>
  obtain ⟨k, m, hk, hm, rfl, rfl⟩ := hrel
  by_cases hlt : k < n0
  · obtain ⟨x, rfl, hx⟩ := h0 k hlt
    have hsk := hsh k hlt
    clear h0 hs h1 h2 hsh
    by_cases hl2 : m + (s k).size ≤ 1048576
    · go_wp2
      go_round
      case rel => exact ⟨k + 1, m + (s k).size, by omega, hl2, by go_num, by go_num⟩
      case measure => simp [intOf]; omega
    · go_wp2
      go_ret
      exact ⟨rfl, Below.refl _ _⟩
  clear hs hsh
  by_cases h12 : n2 = n1
  rotate_left
  · have hne : ((n2 : Int) != (n1 : Int)) = true := by rw [bne_iff_ne]; omega
    go_wp2
    go_ret
    exact ⟨rfl, Below.refl _ _⟩
  subst h12
  by_cases hc0 : 0 ≤ cut
  rotate_left
  · go_wp2
    go_ret
    exact ⟨rfl, Below.refl _ _⟩
  by_cases hcn : cut ≤ n2
  rotate_left
  · go_wp2
    go_ret
    exact ⟨rfl, Below.refl _ _⟩
  obtain ⟨c, rfl⟩ := Int.eq_ofNat_of_zero_le hc0
  have hd0 : decide ((c : Int) < 0) = false := decide_eq_false (by omega)
  have hd1 : decide ((n2 : Int) < (c : Int)) = false := decide_eq_false (by omega)
  go_wp2_with fail
  clear hd0 hd1
  go_loop [13] (fun i => ∃ k : Nat, k ≤ n2 ∧ i = .int .i64 k) (fun i => n2 - (intOf i).toNat)
  case atStart => exact ⟨0, Nat.zero_le _, rfl⟩
  case round =>
  clear hk hlt hm
  obtain ⟨k, hk, rfl⟩ := hrel
  by_cases hlt : k < n2
  · obtain ⟨x, rfl, hx⟩ := h1 k hlt
    obtain ⟨y, rfl, hy⟩ := h2 k hlt
    clear h0 h1 h2
    by_cases hf0 : 0 ≤ f k
    rotate_left
    · go_wp2
      go_ret
      exact ⟨rfl, Below.refl _ _⟩
    by_cases hf1 : f k < n0
    rotate_left
    · go_wp2
      go_ret
      exact ⟨rfl, Below.refl _ _⟩
    by_cases hg : g k = 0
    rotate_left
    · have hg' : (g k != 0) = true := by rw [bne_iff_ne]; exact hg
      clear hg
      go_wp2
      go_ret
      exact ⟨rfl, Below.refl _ _⟩
    · have hg' : (g k != 0) = false := by simp [hg]
      clear hg
      go_wp2
      go_round
      case rel => exact ⟨k + 1, by omega, by go_num⟩
      case measure => simp [intOf]; omega
  go_wp2_with fail
  clear hk hlt hc0
  replace hcn : c ≤ n2 := by omega
  refine (trace_end a0 n0 c0 s a1 n2 c1 f _ hb0 (by omega) h0 h1).mono ?_
  rintro e w1 ⟨bt, rfl, ht1, hB1⟩
  replace h0 := h0.later hB1
  replace h1 := h1.later hB1
  replace h2 := h2.later hB1
  go_wp2_with fail
  refine (trace_end a0 n0 c0 s a1 c c1 f _ hb0 (by omega) h0 (fun k hk => h1 k (by omega))).mono ?_
  rintro e w2 ⟨btp, rfl, ht2, hB2⟩
  replace ht1 := ht1.later hB2
  replace h0 := h0.later hB2
  replace h1 := h1.later hB2
  replace h2 := h2.later hB2
  have hB := below_call hB1 hB2
  clear hB1 hB2
  go_upto_region 27 with fail
  go_cut [1, 16] from 25 (fun _ s16 wc => ∃ bts : Nat, s16 = .pointer (some ⟨bts, 0, none⟩) ∧ TraceAt wc bts n0 (n2 - c) ∧ Below w2.heap.size w2 wc)
  case first =>
    go_wp2_with fail
    · refine (trace_end a0 n0 c0 s a1 (n2 - c) 0 f _ hb0 (by omega) h0 (IntsAt.atEnd (by omega))).mono ?_
      rintro e w3 ⟨bts, rfl, ht3, hB3⟩
      go_wp2
      go_meet
      exact ⟨bts, rfl, ht3, hB3⟩
    · refine (trace_end a0 n0 c0 s _ (n2 - c) (c1 - c) _ _ hb0 (by omega) h0 h1.from).mono ?_
      rintro e w3 ⟨bts, rfl, ht3, hB3⟩
      go_wp2
      go_meet
      exact ⟨bts, rfl, ht3, hB3⟩
  case rest =>
  obtain ⟨bts, rfl, ht3, hB3⟩ := hcut
  replace ht1 := ht1.later hB3
  replace ht2 := ht2.later hB3
  replace h2 := h2.later hB3
  replace hB := below_call hB hB3
  clear hB3 h0 h1 hnil1
  go_wp2_with fail
  refine (clone_any a2 n2 c2 g _ hb2 hnil2 h2).mono ?_
  rintro e w4 ⟨ra4, rc4, rfl, -, hB4⟩
  replace ht1 := ht1.later hB4
  replace ht2 := ht2.later hB4
  replace ht3 := ht3.later hB4
  replace h2 := h2.later hB4
  replace hB := below_call hB hB4
  clear hB4
  go_wp2_with fail
  refine (newjudge_any bt n0 n2 ra4 n2 rc4 _ hb0 (by omega) ht1).mono ?_
  rintro e w5 ⟨bj, rfl, hj, hB5⟩
  replace ht2 := ht2.later hB5
  replace ht3 := ht3.later hB5
  replace h2 := h2.later hB5
  replace hB := below_call hB hB5
  clear hB5 ht1
  go_wp2_with fail
  refine (clone_any a2 c c2 g _ (by omega) (fun h => by have := hnil2 h; omega) (h2.short hcn)).mono ?_
  rintro e w6 ⟨ra6, rc6, rfl, -, hB6⟩
  replace ht2 := ht2.later hB6
  replace ht3 := ht3.later hB6
  replace h2 := h2.later hB6
  replace hj := hj.later hB6
  replace hB := below_call hB hB6
  clear hB6
  go_wp2_with fail
  refine (newjudge_any btp n0 c ra6 c rc6 _ hb0 (by omega) ht2).mono ?_
  rintro e w7 ⟨bjp, rfl, hjp, hB7⟩
  replace ht3 := ht3.later hB7
  replace h2 := h2.later hB7
  replace hj := hj.later hB7
  replace hB := below_call hB hB7
  clear hB7 ht2
  go_upto_region 30 with fail
  go_cut [2, 19] from 25 (fun _ s19 wd => ∃ (bjs rc8 : Nat) (ra8 : Option Addr), s19 = .pointer (some ⟨bjs, 0, none⟩) ∧ JudgeAt wd bjs bts ra8 (n2 - c) rc8 (n2 - c) n0 (pairsOf (n2 - c)) ∧ Below w7.heap.size w7 wd)
  case first =>
    go_wp2_with fail
    · refine (clone_any a2 (n2 - c) 0 g _ (by omega) (fun _ => by omega) (IntsAt.atEnd (by omega))).mono ?_
      rintro e w8 ⟨ra8, rc8, rfl, -, hB8⟩
      go_wp2_with fail
      refine (newjudge_any bts n0 (n2 - c) ra8 (n2 - c) rc8 _ hb0 (by omega) (ht3.later hB8)).mono ?_
      rintro e w9 ⟨bjs, rfl, hjs, hB9⟩
      go_wp2
      go_meet
      exact ⟨bjs, rc8, ra8, rfl, hjs, below_call hB8 hB9⟩
    · refine (clone_any _ (n2 - c) (c2 - c) _ _ (by omega) (fun h => by have := hnil2 (by simpa using h); omega) h2.from).mono ?_
      rintro e w8 ⟨ra8, rc8, rfl, -, hB8⟩
      go_wp2_with fail
      refine (newjudge_any bts n0 (n2 - c) ra8 (n2 - c) rc8 _ hb0 (by omega) (ht3.later hB8)).mono ?_
      rintro e w9 ⟨bjs, rfl, hjs, hB9⟩
      go_wp2
      go_meet
      exact ⟨bjs, rc8, ra8, rfl, hjs, below_call hB8 hB9⟩
  case rest =>
  obtain ⟨bjs, rc8, ra8, rfl, hjs, hB8⟩ := hcut
  replace hj := hj.later hB8
  replace hjp := hjp.later hB8
  replace hB := below_call hB hB8
  clear hB8 h2 ht3 hnil2
  go_wp2_with fail
  refine (analysis_any bj bt ra4 n2 rc4 n2 n0 (pairsOf n2) _ hj).mono ?_
  rintro e w9 ⟨rfl, rfl⟩
  go_wp2_with fail
  refine (analysis_any bjp btp ra6 c rc6 c n0 (pairsOf c) _ ?_).mono ?_
  · (repeat apply JudgeAt.alloc); exact hjp
  rintro e w9 ⟨rfl, rfl⟩
  go_wp2_with fail
  refine (analysis_any bjs bts ra8 (n2 - c) rc8 (n2 - c) n0 (pairsOf (n2 - c)) _ ?_).mono ?_
  · (repeat apply JudgeAt.alloc); exact hjs
  rintro e w9 ⟨rfl, rfl⟩
  go_wp2_with fail
  clear hj hjp hjs
  go_loop [23, 24] (fun z i => ∃ k : Nat, k ≤ n2 ∧ i = .int .i64 k ∧ z = .int .u64 (pairsOf k)) (fun _ i => n2 - (intOf i).toNat)
  case atStart => exact ⟨0, Nat.zero_le _, rfl, rfl⟩
  case round =>
  obtain ⟨q, hq, rfl, rfl⟩ := hrel
  by_cases hlt : q < n2
  · have hst := pairs_step q (by omega)
    go_wp2
    go_round
    case rel => exact ⟨q + 1, by omega, by go_num, rfl⟩
    case measure => simp [intOf]; omega
  obtain rfl : q = n2 := by omega
  have he : (((q - c : Nat) : Int) == (q : Int) - (c : Int)) = true := by rw [beq_iff_eq]; omega
  have hlast := pairs_last q c hb2 hcn
  go_wp2
  go_ret
  refine ⟨rfl, ?_⟩
  (repeat apply below_alloc)
  exact hB
end Go.Proofs.Qxb6618565a
