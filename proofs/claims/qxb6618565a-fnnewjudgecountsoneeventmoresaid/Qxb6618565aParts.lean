import Derived.Test.Qxb6618565aJudge
import Derived.Test.Qxb6618565aPlain
import Derived.Test.Qxb6618565aBytes
namespace Go.Proofs.Qxb6618565a
open Go.RowKit

/-- What is known of a slice of ints: its numbers lie where it leads. -/
def IntsAt (w : World) (a : Option Addr) (n : Nat) (f : Nat → Int) : Prop := ∀ k, k < n → ∃ x, a = some x ∧ w.cell? (x.add k) = some (.int .i64 (f k))

theorem IntsAt.later {w w' : World} {a : Option Addr} {n : Nat} {f : Nat → Int} (h : IntsAt w a n f) (hb : Below w.heap.size w w') : IntsAt w' a n f := by
  intro k hk
  obtain ⟨x, rfl, hx⟩ := h k hk
  exact ⟨x, rfl, (hb.cell (cell_lt hx)).trans hx⟩

theorem IntsAt.short {w : World} {a : Option Addr} {n c : Nat} {f : Nat → Int} (h : IntsAt w a n f) (hc : c ≤ n) : IntsAt w a c f := fun k hk => h k (by omega)
/-- What is cut off at its end is no element. -/
theorem IntsAt.atEnd {w : World} {a : Option Addr} {n c : Nat} {f : Nat → Int} (hc : n ≤ c) : IntsAt w a (n - c) f := fun k hk => absurd hk (by omega)
theorem IntsAt.from {w : World} {a : Option Addr} {n c : Nat} {f : Nat → Int} (h : IntsAt w a n f) : IntsAt w (Option.map (fun x => x.add c) a) (n - c) (fun k => f (c + k)) := by
  intro k hk
  obtain ⟨x, rfl, hx⟩ := h (c + k) (by omega)
  exact ⟨x.add c, rfl, by rw [Addr.add_add]; exact hx⟩

/-- The end of a clone. -/
def CloneEnd (w : World) (n : Nat) (f : Nat → Int) (e : Ending) (w' : World) : Prop := ∃ ra rc, e = .returned (.slice ra n rc) ∧ IntsAt w' ra n f ∧ Below w.heap.size w w'

theorem clone_any (a : Option Addr) (n c : Nat) (f : Nat → Int) (w : World) (hn : n ≤ 1048576) (h0 : a = none → n = 0 ∧ c = 0) (h : IntsAt w a n f) :
    Calls Try.prog 22 #[.slice a n c] w fun e w' => CloneEnd w n f e w' := by
  cases a with
  | none =>
    obtain ⟨rfl, rfl⟩ := h0 rfl
    refine (clone_nil w).mono ?_
    rintro e w' ⟨rfl, rfl⟩
    exact ⟨none, 0, rfl, fun k hk => absurd hk (by omega), Below.refl _ _⟩
  | some x =>
    refine (clone_some x n c f w hn ?_).mono ?_
    · intro k hk
      obtain ⟨y, hy, hc⟩ := h k hk
      obtain rfl := Option.some.inj hy
      exact hc
    · rintro e w' ⟨rfl, hr, hb⟩
      exact ⟨_, n, rfl, fun k hk => ⟨_, rfl, by rw [Addr.add_lit, Nat.zero_add]; exact hr.cell hk⟩, hb⟩

theorem JudgeAt.later {w w' : World} {bj bt : Nat} {ra : Option Addr} {rn rc n p : Nat} {pairs : Int} (h : JudgeAt w bj bt ra rn rc n p pairs) (hb : Below w.heap.size w w') : JudgeAt w' bj bt ra rn rc n p pairs := by
  obtain ⟨bp, bl, bs, bo, h1, h2, h3⟩ := h
  exact ⟨bp, bl, bs, bo, by rw [hb.block _ (lt_of_blk h1)]; exact h1, row_call h2 hb, h3.later fun k hk => hb.block k hk⟩

theorem JudgeAt.alloc {w : World} {bj bt : Nat} {ra : Option Addr} {rn rc n p : Nat} {pairs : Int} (h : JudgeAt w bj bt ra rn rc n p pairs) (o : Obj) : JudgeAt (w.alloc o) bj bt ra rn rc n p pairs :=
  h.later (below_alloc (Below.refl _ _) o)

theorem pairsOf_tri (n : Nat) : pairsOf n = (tri n : Int) := rfl
theorem pairs_step (k : Nat) (hk : k ≤ 1048577) : IntKind.u64.wrap (pairsOf k + (k : Int)) = pairsOf (k + 1) := by
  have := tri_le k hk
  rw [pairsOf_tri, pairsOf_tri, tri_succ, IntKind.wrap_u64]
  omega
theorem pairs_cut (n c : Nat) (hc : c ≤ n) : pairsOf n = pairsOf c + pairsOf (n - c) + (c : Int) * ((n : Int) - (c : Int)) := by
  have h := tri_add c (n - c)
  rw [show c + (n - c) = n by omega] at h
  rw [pairsOf_tri, pairsOf_tri, pairsOf_tri, h]
  have e : (n : Int) - (c : Int) = ((n - c : Nat) : Int) := by omega
  rw [e]
  simp only [Int.natCast_add, Int.natCast_mul]

theorem pairs_last (n c : Nat) (hn : n ≤ 1048576) (hc : c ≤ n) :
    (pairsOf n == IntKind.u64.wrap (IntKind.u64.wrap (pairsOf c + pairsOf (n - c)) + IntKind.u64.wrap ((c : Int) * ((n : Int) - (c : Int))))) = true := by
  rw [beq_iff_eq, pairs_cut n c hc]
  have e : (c : Int) * ((n : Int) - (c : Int)) = ((c * (n - c) : Nat) : Int) := by
    rw [Int.natCast_mul, Int.ofNat_sub hc]
  have h1 : c * (n - c) ≤ 1048576 * 1048576 := Nat.mul_le_mul (by omega) (by omega)
  have h2 := tri_le c (by omega)
  have h3 := tri_le (n - c) (by omega)
  rw [e, pairsOf_tri, pairsOf_tri]
  generalize c * (n - c) = m at *
  generalize tri c = x at *
  generalize tri (n - c) = y at *
  simp only [IntKind.wrap_u64]
  omega

/-- The end of newJudge. -/
def JudgeEnd (w : World) (bt : Nat) (ra : Option Addr) (rn rc n p : Nat) (e : Ending) (w' : World) : Prop :=
  ∃ bj : Nat, e = .returned (.pointer (some ⟨bj, 0, none⟩)) ∧ JudgeAt w' bj bt ra rn rc n p (pairsOf n) ∧ Below w.heap.size w w'

/-- A trace of p names and n events. -/
def TraceAt (w : World) (bt p n : Nat) : Prop := ∃ x y, w.cell? ⟨bt, 0, none⟩ = some (.slice x p p) ∧ w.cell? ⟨bt, 1, none⟩ = some (.slice y n n)
theorem TraceAt.later {w w' : World} {bt p n : Nat} (h : TraceAt w bt p n) (hb : Below w.heap.size w w') : TraceAt w' bt p n := by
  obtain ⟨x, y, h1, h2⟩ := h
  exact ⟨x, y, (hb.cell (cell_lt h1)).trans h1, (hb.cell (cell_lt h2)).trans h2⟩

/-- What is known of a slice of strings. -/
def StrsAt (w : World) (a : Option Addr) (n : Nat) (s : Nat → ByteArray) : Prop := ∀ k, k < n → ∃ x, a = some x ∧ w.cell? (x.add k) = some (.string (s k))
theorem StrsAt.later {w w' : World} {a : Option Addr} {n : Nat} {f : Nat → ByteArray} (h : StrsAt w a n f) (hb : Below w.heap.size w w') : StrsAt w' a n f := by
  intro k hk
  obtain ⟨x, rfl, hx⟩ := h k hk
  exact ⟨x, rfl, (hb.cell (cell_lt hx)).trans hx⟩

def TraceEnd (w : World) (p n : Nat) (e : Ending) (w' : World) : Prop := ∃ bt : Nat, e = .returned (.pointer (some ⟨bt, 0, none⟩)) ∧ TraceAt w' bt p n ∧ Below w.heap.size w w'
theorem trace_end (a0 : Option Addr) (n0 c0 : Nat) (s : Nat → ByteArray) (a1 : Option Addr) (n1 c1 : Nat) (f : Nat → Int) (w : World) (hn0 : n0 ≤ 1048576) (hn1 : n1 ≤ 1048577) (h0 : StrsAt w a0 n0 s) (h1 : IntsAt w a1 n1 f) :
    Calls Try.prog 20 #[.slice a0 n0 c0, .slice a1 n1 c1] w fun e w' => TraceEnd w n0 n1 e w' := by
  refine (trace_any a0 n0 c0 s a1 n1 c1 f w hn0 hn1 h0 h1).mono ?_
  rintro e w' ⟨rfl, hr, -, hb⟩
  exact ⟨_, rfl, ⟨_, _, hr.cell (i := 0) (by omega), hr.cell (i := 1) (by omega)⟩, hb⟩

set_option maxRecDepth 100000 in
theorem newjudge_any (bt p n : Nat) (ra : Option Addr) (rn rc : Nat) (w : World) (hp : p ≤ 1048576) (hn : n ≤ 1048577) (h : TraceAt w bt p n) :
    Calls Try.prog 21 #[.pointer (some ⟨bt, 0, none⟩), .slice ra rn rc] w fun e w' => JudgeEnd w bt ra rn rc n p e w' := by
  obtain ⟨ps, es, ht, he⟩ := h
  go_enter Try.func21, Try.ntmps21
  go_wp2_with (go_at_call 30; refine (judge_any bt ps es p p n n ra rn rc _ hp hn ht he).mono ?_; rintro e w' ⟨bj, rfl, h1, h2⟩)
  go_ret
  exact ⟨bj, rfl, h1, h2⟩

set_option maxRecDepth 100000 in
set_option maxHeartbeats 400000 in
theorem analysis_any (bj bt : Nat) (ra : Option Addr) (rn rc n p : Nat) (pairs : Int) (w : World) (h : JudgeAt w bj bt ra rn rc n p pairs) :
    Calls Try.prog 24 #[.pointer (some ⟨bj, 0, none⟩)] w fun e w' => e = .returned (.agg #[.int .i64 n, .int .i64 p, .int .i64 0, .int .u64 pairs, .int .u64 0, .int .u64 0, .int .i64 0, .int .u64 0, .int .u64 0, .int .u64 0, .slice none 0 0]) ∧ w' = w.alloc (.cells #[.int .i64 n, .int .i64 p, .int .i64 0, .int .u64 pairs, .int .u64 0, .int .u64 0, .int .i64 0, .int .u64 0, .int .u64 0, .int .u64 0, .slice none 0 0] 53) := by
  obtain ⟨bp, bl, bs, bo, hb, -, -⟩ := h
  have hc : ∀ i v, (judgeCells bt ra rn rc n p n p pairs bp bl bs bo)[i]? = some v → w.cell? ⟨bj, i, none⟩ = some v := by
    intro i v hi
    simp [World.cell?, hb, hi]
  have hlt := lt_of_blk hb
  have h3 : w.cell? ⟨bj, 3, none⟩ = some (.int .i64 n) := hc 3 _ rfl
  have h4 : w.cell? ⟨bj, 4, none⟩ = some (.int .i64 p) := hc 4 _ rfl
  have h5 : w.cell? ⟨bj, 5, none⟩ = some (.int .i64 0) := hc 5 _ rfl
  have h6 : w.cell? ⟨bj, 6, none⟩ = some (.int .u64 pairs) := hc 6 _ rfl
  have h7 : w.cell? ⟨bj, 7, none⟩ = some (.int .u64 0) := hc 7 _ rfl
  have h8 : w.cell? ⟨bj, 8, none⟩ = some (.int .u64 0) := hc 8 _ rfl
  have h9 : w.cell? ⟨bj, 9, none⟩ = some (.int .i64 0) := hc 9 _ rfl
  have h10 : w.cell? ⟨bj, 10, none⟩ = some (.int .u64 0) := hc 10 _ rfl
  have h11 : w.cell? ⟨bj, 11, none⟩ = some (.int .u64 0) := hc 11 _ rfl
  have h12 : w.cell? ⟨bj, 12, none⟩ = some (.int .u64 0) := hc 12 _ rfl
  have h13 : w.cell? ⟨bj, 13, none⟩ = some (.slice none 0 0) := hc 13 _ rfl
  clear hc hb
  go_enter Try.func24, Try.ntmps24
  go_wp2
  exact bodyPost_ret (v := .agg #[.int .i64 n, .int .i64 p, .int .i64 0, .int .u64 pairs, .int .u64 0, .int .u64 0, .int .i64 0, .int .u64 0, .int .u64 0, .int .u64 0, .slice none 0 0]) (by simp [results, Try.results24, go_sem]) rfl ⟨rfl, rfl⟩
end Go.Proofs.Qxb6618565a
