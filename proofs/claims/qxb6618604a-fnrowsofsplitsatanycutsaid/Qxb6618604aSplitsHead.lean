import Derived.Test.Qxb6618604aSplitsDefs
import Derived.Test.Qxb6618604aRowBytes
import Derived.Deep.CutRange
namespace Go.Proofs.Qxb6618604a
open Go.RowKit Go.Shelf

set_option maxRecDepth 100000 in
set_option maxHeartbeats 4000000 in
theorem splits_law (htail : SplitsP4) (a0 a1 a2 : Option Addr) (n0 n1 n2 c0 c1 c2 : Nat) (T L H : Nat → Int) (k : Int) (w : World) (h0 : IntsAt .u64 w a0 n0 T) (h1 : IntsAt .i64 w a1 n1 L) (h2 : IntsAt .i64 w a2 n2 H)
    (m0 : n0 ≤ maxLen) (m1 : n1 ≤ maxLen) (wl : ∀ j, j < n1 → I64 (L j)) (wh : ∀ j, j < n2 → I64 (H j))
    (z0 : Hid (a0 = none → n0 = 0 ∧ c0 = 0)) (z1 : Hid (a1 = none → n1 = 0 ∧ c1 = 0)) (z2 : Hid (a2 = none → n2 = 0 ∧ c2 = 0)) :
    Calls Try.prog 5 #[.slice a0 n0 c0, .slice a1 n1 c1, .slice a2 n2 c2, .int .i64 k] w fun e w' => LawEnd w e w' := by
  unfold maxLen at m0 m1
  obtain ⟨t, ht⟩ : ∃ t, t = restN 4 (Try.f5.body.getD .skip) := ⟨_, rfl⟩
  obtain ⟨c, hc⟩ : ∃ c, c = headN t 4 (Try.f5.body.getD .skip) := ⟨_, rfl⟩
  refine calls_of_wp (c := c) Try.func5 (by rw [hc, ht]; rfl) ?_
  dsimp only [headN, Try.f5, Option.getD] at hc
  subst hc
  simp only [Try.ntmps5, List.size_toArray, List.length_cons, List.length_nil, Nat.reduceAdd, Nat.reduceSub, Array.replicate_succ, Array.replicate_zero, List.push_toArray, List.append_toArray, List.nil_append, List.cons_append]
  go_wp2_with (go_at_call 11; refine (bytes11 _ _ _ _ _ _ _ _ _ _ _).mono ?_; rintro e w' ⟨bb, rfl, rfl⟩; cases bb)
  any_goals (go_ret; exact ⟨rfl, Below.refl _ _⟩)
  have b0 : n0 ≤ 32768 := by omega
  obtain rfl : n1 = n0 := by omega
  obtain rfl : n2 = n1 := by rename_i hx; have := hx; simp at this; omega
  rw [ht]
  exact htail w w a0 a1 a2 c0 c1 c2 n2 T L H k b0 h0 h1 h2 wl wh z0 z1 z2 (Below.refl _ _) _ _ _ _ _ _ _ _ _ _ _ _ _ _ _ _ _ _ _ _ _ _ _ _ _ _ _ _ _ _ _ _ _ _ _ _ _ _ _ _ _ _ _ _ _ _ _ _ _ _ _ _ _ _ _ _ _ _ _ _ _ _ _ _ _ _ _ _ _ _ _ _ _ _ _ _ _ _ _ _ _ _ _ _ _ _ _ _ _ _ _ _ _ _ _ _ _ _ _ _ _ _ _ _ _ _ _ _ _ _ _ _ _ _ _ _ _ _ _ _ _ _ _ _ _ _ _ _ _ _ _ _ _ _ _ _ _ _ _ _ _ _ _ _ _ _ _ _ _ _ _ _ _ _ _ _ _ _ _ _ _ _ _ _ _ _ _ _ _ _ _ _ _ _ _ _ _ _ _ _ _ _ _ _ _ _ _ _ _ _ _ _ _ _ _ _ _ _ _ _ _ _ _ _ _ _ _ _ _ _ _ _ _ _ _ _ _ _ _ _ _ _ _ _ _ _ _ _ _ _ _ _ _ _ _ _ _ _ _ _ _ _ _ _ _ _ _ _ _ _ _ _ _ _

end Go.Proofs.Qxb6618604a
