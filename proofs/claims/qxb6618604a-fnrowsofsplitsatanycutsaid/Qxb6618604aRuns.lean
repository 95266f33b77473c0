import Derived.Test.Qxb6618604aSeq
namespace Go.Proofs.Qxb6618604a
open Go.RowKit Go.Shelf

attribute [local go_sem] Oper.semAt_some

/-- f 0, .., f (k - 1). -/
def upto {α : Type} (f : Nat → α) (k : Nat) : List α := (List.range k).map f
theorem upto_succ {α : Type} (f : Nat → α) (k : Nat) : upto f (k + 1) = upto f k ++ [f k] := by simp [upto, List.range_succ]
theorem upto_length {α : Type} (f : Nat → α) (k : Nat) : (upto f k).length = k := by simp [upto]
theorem upto_prefix {α : Type} (f : Nat → α) {j k : Nat} (h : j ≤ k) : upto f j <+: upto f k := by
  induction k with
  | zero => obtain rfl : j = 0 := by omega
            exact List.prefix_refl _
  | succ k ih =>
    by_cases e : j = k + 1
    · subst e; exact List.prefix_refl _
    · rw [upto_succ]; exact (ih (by omega)).trans (List.prefix_append _ _)

/-- A run: the page's block, from, up to. -/
abbrev Run := Nat × Int × Int
def encRun (r : Run) : Array Value := #[.agg #[.pointer (some ⟨r.1, 0, none⟩), .int .i64 r.2.1, .int .i64 r.2.2]]

/-- The row in block b holds the runs f 0, .., f (len - 1): three cells each. -/
def RunsAt (W : World) (b len : Nat) (f : Nat → Run) : Prop :=
  ∀ k, k < len → W.cell? ⟨b, k * 3, none⟩ = some (.pointer (some ⟨(f k).1, 0, none⟩)) ∧ W.cell? ⟨b, k * 3 + 1, none⟩ = some (.int .i64 (f k).2.1) ∧ W.cell? ⟨b, k * 3 + 2, none⟩ = some (.int .i64 (f k).2.2)
theorem RunsAt.below {n₀ : Nat} {A B : World} {b len : Nat} {f : Nat → Run} (h : RunsAt A b len f) (hb : b < n₀) (k : Below n₀ A B) : RunsAt B b len f :=
  fun j hj => ⟨(k.cell (p := ⟨b, _, none⟩) hb).trans (h j hj).1, (k.cell (p := ⟨b, _, none⟩) hb).trans (h j hj).2.1, (k.cell (p := ⟨b, _, none⟩) hb).trans (h j hj).2.2⟩

set_option maxRecDepth 100000 in
set_option maxHeartbeats 2000000 in
/-- **ZZrowsOf's seq: 'for _, r := range runs { if !yield(r) { return } }'.** -/
theorem seq_stops (F : Fence) (n : Nat) (h19 : F.fn 19) (hro : F.round = none) (hn : 1 ≤ n) (Bs n₀ b len cap : Nat) (f : Nat → Run) (hlen : len ≤ 1048576) (hb : b < n₀) (w : World) (hBs : Bs < w.heap.size) (hn₀ : n₀ ≤ w.heap.size)
    (hc : w.cell? ⟨Bs, 0, none⟩ = some (.slice (some ⟨b, 0, none⟩) len cap)) (hr : RunsAt w b len f) :
    SeqX F n Try.prog 19 #[.pointer (some ⟨Bs, 0, none⟩)] encRun (Below n₀) (upto f len) w := by
  intro l J Jx W hW hJ hJx hY h0
  have hc' := (hW.cell (p := ⟨Bs, 0, none⟩) hBs).trans hc
  have hr' := hr.below hb (hW.mono hn₀)
  refine callsIn_of_wp Try.func19 rfl h19 ?_ hro
  simp only [Try.ntmps19, List.size_toArray, List.length_cons, List.length_nil, Nat.reduceAdd, Nat.reduceSub, Array.replicate_succ, Array.replicate_zero, List.push_toArray, List.append_toArray, List.nil_append, List.cons_append]
  gi_wp2
  gi_loopw [7] (fun i wr => ∃ k : Nat, k ≤ len ∧ i = .int .i64 k ∧ J (upto f k) wr ∧ Below n₀ W wr)
    (fun i _ => len - (intOf i).toNat)
  case atStart => exact ⟨0, Nat.zero_le _, rfl, h0, Below.refl _ _⟩
  case round =>
    obtain ⟨k, hk, rfl, hJs, hnx⟩ := hrel
    by_cases hlt : k < len
    · obtain ⟨c0, c1, c2⟩ := hr'.below hb hnx k hlt
      have hJa := hJ.alloc (.cells #[.pointer (some ⟨(f k).1, 0, none⟩), .int .i64 (f k).2.1, .int .i64 (f k).2.2] 55) hJs
      have hba : Below n₀ wr (wr.alloc (.cells #[.pointer (some ⟨(f k).1, 0, none⟩), .int .i64 (f k).2.1, .int .i64 (f k).2.2] 55)) := (Below.refl _ wr).alloc (by have := hnx.size; have := hW.size; omega) _
      obtain ⟨fn, tmps, assign, body, hy, hR⟩ := hY _ (f k) _ hJa (by rw [← upto_succ]; exact upto_prefix f (by omega))
      rw [encRun] at hy
      gi_wp2
      refine hR.mono ?_
      rintro e W3 ⟨_, (⟨rfl, hJ3, hk3⟩ | ⟨rfl, hJx3⟩)⟩
      · gi_wp2
        go_roundw
        case rel => exact ⟨k + 1, by omega, by simp, by rw [upto_succ]; exact hJ3, (hnx.trans hba).trans hk3⟩
        case measure => simp [intOf]; omega
      · gi_wp2
        refine bodyPost_ret (results_none rfl _ _ _) rfl ?_
        exact ⟨⟨_, rfl⟩, .inr ⟨_, by rw [← upto_succ]; exact upto_prefix f (by omega), hJx3⟩⟩
    · obtain rfl : k = len := by omega
      gi_wp2
      go_end0
      exact ⟨⟨_, rfl⟩, .inl hJs⟩

end Go.Proofs.Qxb6618604a
