import Derived.Test.Qxb6618565aPast
import Derived.Deep.RegionWith
import Derived.Deep.CutRange
import Derived.Deep.DrawnRows
namespace Go.Proofs.Qxb6618565a
open Go.RowKit
attribute [local go_sem ↓] Go.wp_at_zero Go.wp_at_succ

theorem cell_keep {w : World} {a : Addr} {v : Value} (h : w.cell? a = some v) (o : Obj) : (w.alloc o).cell? a = some v :=
  (World.cell?_alloc_lt w o a (cell_lt h)).trans h
theorem below_draws (w : World) (n : Nat) : Below w.heap.size w (w.drewN n) := ⟨rfl, rfl, rfl, Nat.le_refl _, fun _ _ => rfl⟩
theorem below_alloc {w W : World} (h : Below w.heap.size w W) (o : Obj) : Below w.heap.size w (W.alloc o) := h.alloc h.size o
theorem below_call {w X W : World} (h : Below w.heap.size w X) (k : Below X.heap.size X W) : Below w.heap.size w W := h.trans (k.mono h.size)
theorem row_call {X W : World} {b n : Nat} {t : TypeId} {f : Nat → Value} (h : X.rowIs b t n f) (k : Below X.heap.size X W) : W.rowIs b t n f := h.of_block (k.block _ h.lt)
theorem row_made (w : World) (z : Value) (n : Nat) (t : TypeId) (b : Nat) (h : b = w.heap.size) : (w.alloc (.cells (madeCells #[z] n) t)).rowIs b t n (fun _ => z) := by
  subst h
  exact World.rowIs_made w z n t

/-- The cells of a judge that has taken in nothing. -/
def judgeCells (bt : Nat) (ra : Option Addr) (rn rc n p : Nat) (N P pairs : Int) (bp bl bs bo : Nat) : Array Value :=
  #[.pointer (some ⟨bt, 0, none⟩), .slice ra rn rc, .pointer (some ⟨bp, 0, none⟩), .int .i64 N, .int .i64 P, .int .i64 0, .int .u64 pairs, .int .u64 0, .int .u64 0, .int .i64 0, .int .u64 0, .int .u64 0, .int .u64 0, .slice none 0 0, .slice (some ⟨bl, 0, none⟩) 0 n, .slice (some ⟨bs, 0, none⟩) 0 n, .slice (some ⟨bo, 0, none⟩) p p, .int .u64 0, .slice none 0 0, .int .i64 0, .slice none 0 0]

/-- A judge that has taken in nothing. -/
def JudgeAt (w : World) (bj bt : Nat) (ra : Option Addr) (rn rc n p : Nat) (pairs : Int) : Prop :=
  ∃ bp bl bs bo : Nat, w.heap[bj]? = some (.cells (judgeCells bt ra rn rc n p n p pairs bp bl bs bo) 96 (0, 0)) ∧ w.rowIs bo 43 p (fun _ => .slice none 0 0) ∧ PastAt w bp bt ra rn rc p

/-- How many pairs n events make. -/
def pairsOf (n : Nat) : Int := ((n * (n - 1) / 2 : Nat) : Int)

theorem pairs_wrap (n : Nat) (h1 : 1 < n) (hn : n ≤ 1048577) : IntKind.u64.wrap ((IntKind.u64.wrap ((n : Int) * ((n : Int) - 1))).tdiv 2) = pairsOf n := by
  have e : (n : Int) * ((n : Int) - 1) = ((n * (n - 1) : Nat) : Int) := by
    rw [Int.natCast_mul, Int.ofNat_sub (by omega)]
    rfl
  have hm : n * (n - 1) ≤ 1048577 * 1048577 := Nat.mul_le_mul hn (by omega)
  rw [e]
  unfold pairsOf
  generalize n * (n - 1) = m at *
  have e1 : IntKind.u64.wrap (m : Int) = (m : Int) := by rw [IntKind.wrap_u64]; omega
  have e2 : ((m : Int)).tdiv 2 = ((m / 2 : Nat) : Int) := by
    rw [Int.tdiv_eq_ediv_of_nonneg (by omega)]
    omega
  rw [e1, e2, IntKind.wrap_u64]
  omega

theorem judge_shut {W w : World} {bj bt : Nat} {ra : Option Addr} {rn rc n p : Nat} {pairs : Int} {bp bl bs bo : Nat} (hbj : W.heap.size = bj) (hrow : W.rowIs bo 43 p (fun _ => .slice none 0 0)) (hpast : PastAt W bp bt ra rn rc p) (hbel : Below w.heap.size w W) :
    JudgeAt (W.alloc (.cells (judgeCells bt ra rn rc n p n p pairs bp bl bs bo) 96)) bj bt ra rn rc n p pairs ∧ Below w.heap.size w (W.alloc (.cells (judgeCells bt ra rn rc n p n p pairs bp bl bs bo) 96)) := by
  subst hbj
  exact ⟨⟨bp, bl, bs, bo, Go.Deep.blk_alloc_new _ _, hrow.alloc _, hpast.alloc _⟩, below_alloc hbel _⟩

set_option maxRecDepth 100000 in
set_option maxHeartbeats 1600000 in
theorem judge_any (bt : Nat) (ps es : Option Addr) (p cp n cn : Nat) (ra : Option Addr) (rn rc : Nat) (w : World) (hp : p ≤ 1048576) (hn : n ≤ 1048577) (ht : w.cell? ⟨bt, 0, none⟩ = some (.slice ps p cp)) (he : w.cell? ⟨bt, 1, none⟩ = some (.slice es n cn)) :
    Calls Try.prog 30 #[.pointer (some ⟨bt, 0, none⟩), .slice ra rn rc] w fun e w' => ∃ bj : Nat, e = .returned (.pointer (some ⟨bj, 0, none⟩)) ∧ JudgeAt w' bj bt ra rn rc n p (pairsOf n) ∧ Below w.heap.size w w' := by
  obtain ⟨i23, hi23, hz23, hs23, hb23⟩ := info_parts info23
  have hmk0 := fun W => run_make (P := Try.prog) W 90 23 _ _ Try.underlying90 hi23 hz23 .i64 .i64 0 n (by omega) (by omega) (by rw [hb23]; omega) (by omega)
  obtain ⟨i4, hi4, hz4, hs4, hb4⟩ := info_parts info4
  have hmk1 := fun W => run_make (P := Try.prog) W 93 4 _ _ Try.underlying93 hi4 hz4 .i64 .i64 0 n (by omega) (by omega) (by rw [hb4]; omega) (by omega)
  have hmk2 := run_make_row' (P := Try.prog) 86 43 _ 24 Try.underlying86 info43 rfl .i64 .i64 p (by omega) (by omega)
  rw [hs23] at hmk0
  rw [hs4] at hmk1
  simp only [Int.toNat_natCast, Int.toNat_zero] at hmk0 hmk1
  clear hi23 hz23 hs23 hb23 hi4 hz4 hs4 hb4
  go_enter Try.func30, Try.ntmps30
  go_wp2
  go_quiet (fail)
  go_wp2_with fail
  go_cut [7] from 8 (fun s7 wc => ∃ (W : World) (bj bp bl bs bo : Nat), wc = W.alloc (.cells #[.pointer (some ⟨bt, 0, none⟩), .slice ra rn rc, .pointer (some ⟨bp, 0, none⟩), .int .i64 0, .int .i64 0, .int .i64 0, .int .u64 0, .int .u64 0, .int .u64 0, .int .i64 0, .int .u64 0, .int .u64 0, .int .u64 0, .slice none 0 0, .slice (some ⟨bl, 0, none⟩) 0 n, .slice (some ⟨bs, 0, none⟩) 0 n, .slice (some ⟨bo, 0, none⟩) p p, .int .u64 0, .slice none 0 0, .int .i64 0, .slice none 0 0] 96) ∧ s7 = .pointer (some ⟨bj, 0, none⟩) ∧ W.heap.size = bj ∧ W.rowIs bo 43 p (fun _ => .slice none 0 0) ∧ PastAt W bp bt ra rn rc p ∧ Below w.heap.size w W)
  case first =>
    go_region_with (go_at_call 38; refine (past_any bt ps p cp ra rn rc _ hp ?_).mono ?_; ((repeat apply cell_keep); exact ht); rintro e w' ⟨bp, rfl, hpast, hbel⟩)
    all_goals
      go_wp2_with fail
      go_meet
      refine ⟨_, _, _, _, _, _, rfl, rfl, by simp, ?_, ?_, ?_⟩
      · repeat (first | exact row_made _ _ _ _ _ (by simp) | apply World.rowIs.alloc | refine row_call ?_ hbel)
      · repeat (first | exact hpast | apply PastAt.alloc)
      · repeat (first | exact below_draws _ _ | apply below_alloc | refine below_call ?_ hbel)
  case rest =>
    obtain ⟨W, bj, bp, bl, bs, bo, rfl, rfl, hbj, hrow, hpast, hbel⟩ := hcut
    by_cases h1 : n ≤ 1
    · have h1' : decide ((1 : Int) < (n : Int)) = false := decide_eq_false (by omega)
      have h0 : pairsOf n = 0 := by unfold pairsOf; have : n = 0 ∨ n = 1 := by omega
                                    rcases this with rfl | rfl <;> rfl
      go_wp2
      go_ret
      exact ⟨bj, rfl, by rw [h0]; exact judge_shut hbj hrow hpast hbel⟩
    · have h1' : (1 : Int) < (n : Int) := by omega
      go_wp2
      go_ret
      exact ⟨bj, rfl, by rw [pairs_wrap n (by omega) hn]; exact judge_shut hbj hrow hpast hbel⟩
end Go.Proofs.Qxb6618565a
