import Derived.Test.Qxb6618565aTrace
namespace Go.Proofs.Qxb6618565a
open Go.RowKit

/-- Five new blocks. -/
theorem five_blocks (w : World) (a b c d e : Obj) :
    (((((w.alloc a).alloc b).alloc c).alloc d).alloc e).heap[w.heap.size]? = some a ∧ (((((w.alloc a).alloc b).alloc c).alloc d).alloc e).heap[w.heap.size + 1]? = some b ∧
    (((((w.alloc a).alloc b).alloc c).alloc d).alloc e).heap[w.heap.size + 1 + 1]? = some c ∧ (((((w.alloc a).alloc b).alloc c).alloc d).alloc e).heap[w.heap.size + 1 + 1 + 1 + 1]? = some e := by
  refine ⟨?_, ?_, ?_, ?_⟩
  · show (((((w.heap.push a).push b).push c).push d).push e)[w.heap.size]? = _
    simp only [Array.getElem?_push, Array.size_push]
    repeat (first | rw [if_pos trivial] | rw [if_neg (by omega)])
  · show (((((w.heap.push a).push b).push c).push d).push e)[w.heap.size + 1]? = _
    simp only [Array.getElem?_push, Array.size_push]
    repeat (first | rw [if_pos trivial] | rw [if_neg (by omega)])
  · show (((((w.heap.push a).push b).push c).push d).push e)[w.heap.size + 1 + 1]? = _
    simp only [Array.getElem?_push, Array.size_push]
    repeat (first | rw [if_pos trivial] | rw [if_neg (by omega)])
  · show (((((w.heap.push a).push b).push c).push d).push e)[w.heap.size + 1 + 1 + 1 + 1]? = _
    simp only [Array.getElem?_push, Array.size_push]
    repeat (first | rw [if_pos trivial] | rw [if_neg (by omega)])

theorem row_of_block {w : World} {b : Nat} {z : Value} {n : Nat} {t : TypeId} (h : w.heap[b]? = some (.cells (madeCells #[z] n) t (0, 0))) : w.rowIs b t n (fun _ => z) :=
  ⟨_, h, size_madeCells _ _, fun i hi => by simp [madeCells, hi, Nat.mod_one]⟩

/-- A walk of the past that has taken in nothing: its own block bp, p empty rows, p sizes of nought, a map of nothing. -/
def PastAt (w : World) (bp bt : Nat) (ra : Option Addr) (rn rc p : Nat) : Prop :=
  ∃ br bs bm : Nat,
    w.heap[bp]? = some (.cells #[.pointer (some ⟨bt, 0, none⟩), .slice ra rn rc, .slice none 0 0, .int .i64 0, .slice none 0 0, .int .i64 0, .slice (some ⟨br, 0, none⟩) p p, .slice (some ⟨bs, 0, none⟩) p p, .pointer (some ⟨bp, 2, none⟩), .map (some bm), .int .i64 0] 107 (0, 0)) ∧
    w.rowIs br 70 p (fun _ => .int .i32 0) ∧ w.rowIs bs 23 p (fun _ => .int .u64 0) ∧ w.heap[bm]? = some (.map #[] 0)

theorem lt_of_blk {w : World} {k : Nat} {o : Obj} (h : w.heap[k]? = some o) : k < w.heap.size := (Array.getElem?_eq_some_iff.1 h).1

theorem PastAt.later {w w' : World} {bp bt : Nat} {ra : Option Addr} {rn rc p : Nat} (h : PastAt w bp bt ra rn rc p) (hb : ∀ k, k < w.heap.size → w'.heap[k]? = w.heap[k]?) : PastAt w' bp bt ra rn rc p := by
  obtain ⟨br, bs, bm, h5, h6, h7, h8⟩ := h
  exact ⟨br, bs, bm, by rw [hb _ (lt_of_blk h5)]; exact h5, h6.of_block (hb _ h6.lt), h7.of_block (hb _ h7.lt), by rw [hb _ (lt_of_blk h8)]; exact h8⟩

theorem PastAt.alloc {w : World} {bp bt : Nat} {ra : Option Addr} {rn rc p : Nat} (h : PastAt w bp bt ra rn rc p) (o : Obj) : PastAt (w.alloc o) bp bt ra rn rc p :=
  h.later fun _ hk => Go.Deep.blk_alloc_lt _ _ _ hk

set_option maxRecDepth 100000 in
set_option maxHeartbeats 400000 in
/-- newInFlight: the pair of the trees' pointer and a new map. -/
theorem inflight_any (tr : Option Addr) (w : World) :
    Calls Try.prog 27 #[.pointer tr] w fun e w' => e = .returned (.agg #[.pointer tr, .map (some (w.heap.size + 1))]) ∧ w' = (w.alloc (.cells #[.pointer tr, .map (some (w.heap.size + 1))] 67)).alloc (.map #[] 0) := by
  have hmm := @run_makeMap Try.prog
  go_enter Try.func27, Try.ntmps27
  go_wp2
  exact bodyPost_ret (v := .agg #[.pointer tr, .map (some (w.heap.size + 1))]) (by simp [results, Try.results27, go_sem]) rfl ⟨rfl, rfl⟩

theorem below_five (w : World) (a b c d e : Obj) : Below w.heap.size w (((((w.alloc a).alloc b).alloc c).alloc d).alloc e).drew :=
  ((((((Below.refl _ _).alloc (Nat.le_refl _) _).alloc (by simp) _).alloc (by simp; omega) _).alloc (by simp; omega) _).alloc (by simp; omega) _).drew

set_option maxRecDepth 100000 in
set_option maxHeartbeats 400000 in
/-- newPastWalk, in whatever order its two rows are made. -/
theorem past_any (bt : Nat) (ps : Option Addr) (p cp : Nat) (ra : Option Addr) (rn rc : Nat) (w : World) (hp : p ≤ 1048576) (ht : w.cell? ⟨bt, 0, none⟩ = some (.slice ps p cp)) :
    Calls Try.prog 38 #[.pointer (some ⟨bt, 0, none⟩), .slice ra rn rc] w fun e w' => ∃ bp : Nat, e = .returned (.pointer (some ⟨bp, 0, none⟩)) ∧ PastAt w' bp bt ra rn rc p ∧ Below w.heap.size w w' := by
  have hmk0 := run_make_row' (P := Try.prog) 58 70 _ 4 Try.underlying58 info70 rfl .i64 .i64 p (by omega) (by omega)
  have hmk1 := run_make_row' (P := Try.prog) 90 23 _ 8 Try.underlying90 info23 rfl .i64 .i64 p (by omega) (by omega)
  go_enter Try.func38, Try.ntmps38
  go_wp2
  go_region
  all_goals go_wp2_with (go_at_call 27; refine (inflight_any _ _).mono ?_; rintro e w' ⟨rfl, rfl⟩)
  all_goals go_ret
  · have h := five_blocks w (.cells (madeCells #[.int .i32 0] p) 70) (.cells (madeCells #[.int .u64 0] p) 23) (.cells #[.pointer (some ⟨bt, 0, none⟩), .slice ra rn rc, .slice none 0 0, .int .i64 0, .slice none 0 0, .int .i64 0, .slice (some ⟨w.heap.size, 0, none⟩) p p, .slice (some ⟨w.heap.size + 1, 0, none⟩) p p, .pointer (some ⟨w.heap.size + 1 + 1, 2, none⟩), .map (some (w.heap.size + 1 + 1 + 1 + 1)), .int .i64 0] 107) (.cells #[.pointer (some ⟨w.heap.size + 1 + 1, 2, none⟩), .map (some (w.heap.size + 1 + 1 + 1 + 1))] 67) (.map #[] 0)
    exact ⟨w.heap.size + 1 + 1, rfl, ⟨w.heap.size, w.heap.size + 1, w.heap.size + 1 + 1 + 1 + 1, h.2.2.1, row_of_block h.1, row_of_block h.2.1, h.2.2.2⟩, below_five _ _ _ _ _ _⟩
  · have h := five_blocks w (.cells (madeCells #[.int .u64 0] p) 23) (.cells (madeCells #[.int .i32 0] p) 70) (.cells #[.pointer (some ⟨bt, 0, none⟩), .slice ra rn rc, .slice none 0 0, .int .i64 0, .slice none 0 0, .int .i64 0, .slice (some ⟨w.heap.size + 1, 0, none⟩) p p, .slice (some ⟨w.heap.size, 0, none⟩) p p, .pointer (some ⟨w.heap.size + 1 + 1, 2, none⟩), .map (some (w.heap.size + 1 + 1 + 1 + 1)), .int .i64 0] 107) (.cells #[.pointer (some ⟨w.heap.size + 1 + 1, 2, none⟩), .map (some (w.heap.size + 1 + 1 + 1 + 1))] 67) (.map #[] 0)
    exact ⟨w.heap.size + 1 + 1, rfl, ⟨w.heap.size + 1, w.heap.size, w.heap.size + 1 + 1 + 1 + 1, h.2.2.1, row_of_block h.2.1, row_of_block h.1, h.2.2.2⟩, below_five _ _ _ _ _ _⟩
end Go.Proofs.Qxb6618565a
