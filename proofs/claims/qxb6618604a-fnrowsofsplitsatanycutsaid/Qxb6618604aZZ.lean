import Derived.Test.Qxb6618604aTail
import Derived.Deep.RegionHeld3
import Derived.Deep.CutRange
namespace Go.Proofs.Qxb6618604a
open Go.RowKit Go.Shelf

/-- WHAT IS KNOWN OF ZZrowsOf. -/
def ZZSpec : Prop := ∀ (a0 a1 a2 : Option Addr) (c0 c1 c2 n : Nat) (T L H : Nat → Int) (lim : Int) (w : World), n ≤ 32768 → IntsAt .u64 w a0 n T → IntsAt .i64 w a1 n L → IntsAt .i64 w a2 n H →
  (∀ j, j < n → I64 (L j)) → (∀ j, j < n → I64 (H j)) → total L H n ≤ 65536 →
  Calls Try.prog 13 #[.slice a0 n c0, .slice a1 n c1, .slice a2 n c2, .int .i64 lim] w fun e w' => RowsEnd w T L H n lim e w'

theorem Built.drew {w : World} {lim : Int} {T L H : Nat → Int} {n Br g k : Nat} {W : World} (h : Built w lim T L H n Br g k W) : Built w lim T L H n Br g k W.drew :=
  ⟨h.1, h.2.1, h.2.2.1, h.2.2.2.drew⟩
/-- The first three statements, whatever follows. -/
def headWith (t : Code) : Code → Code
  | .seq a (.seq b (.seq l _)) => .seq a (.seq b (.seq l t))
  | c => c

set_option maxRecDepth 100000 in
set_option maxHeartbeats 8000000 in
theorem zz_any : ZZSpec := by
  intro a0 a1 a2 c0 c1 c2 n T L H lim w hn h0 h1 h2 wl wh ht
  obtain ⟨i0, hi, hz0, hz1, hz2⟩ := info_parts info55
  obtain ⟨t, hte⟩ : ∃ t, t = rest3 (Try.f13.body.getD .skip) := ⟨_, rfl⟩
  obtain ⟨c, hc⟩ : ∃ c, c = headWith t (Try.f13.body.getD .skip) := ⟨_, rfl⟩
  refine callsIn_wide.1 (callsIn_of_wp_marks (F := Fence.wide) (n := 8) (c := c) Try.func13 (by rw [hc, hte]; rfl) trivial ?_ rfl)
  dsimp only [headWith, Try.f13, Option.getD] at hc
  subst hc
  simp only [Try.ntmps13, List.size_toArray, List.length_cons, List.length_nil, Nat.reduceAdd, Nat.reduceSub, Array.replicate_succ, Array.replicate_zero, List.push_toArray, List.append_toArray, List.nil_append, List.cons_append]
  refine wpIn_wide.2 ?_
  go_wp2_with (at_make; refine wpList_make_own _ rfl _ _ 46 rfl w.heap.size 55 i0 (.agg #[.pointer none, .int .i64 0, .int .i64 0]) 3 Try.underlying46 hi hz0 hz1 _ _ _ n rfl rfl (by omega) (by rw [hz2]; omega) (by unfold maxLen; omega) (by simp) ?_)
  intro w1 hown1 hgrow1
  go_wp2_with fail
  obtain ⟨G0, hG0⟩ := row_of_owns hown1
  go_loopw [22] (fun i wr => ∃ k : Nat, k ≤ n ∧ i = .int .i64 k ∧ Built w lim T L H n w1.heap.size (w.heap.size + 1) k wr) (fun i _ => n - (intOf i).toNat)
  case atStart =>
    have hbl : Boxed w1 w.heap.size 3 (.int .i64 lim) := (Boxed.new w 3 (.int .i64 lim)).kept hgrow1 (by simp)
    refine ⟨0, Nat.zero_le _, rfl, hbl.alloc _, Boxed.new w1 46 _, ⟨G0, fun _ => 0, hG0.alloc _, fun j hj => absurd hj (by omega)⟩, ?_⟩
    have := hgrow1.size
    rw [World.size_alloc] at this
    exact (((Below.refl _ w).alloc (Nat.le_refl _) _).grown hgrow1 (by simp) (by simp)).alloc (by omega) _
  case round =>
  obtain ⟨k, hk, rfl, bl, br, ⟨G, pg, hG, hrs⟩, hB⟩ := hrel
  have hgr : w1.heap.size ≠ w.heap.size + 1 := fun e => by
    obtain ⟨c, hc, _⟩ := hG
    rw [← e, show wr.heap[w1.heap.size]? = _ from br] at hc
    cases hc
  by_cases hlt : k < n
  · obtain ⟨x0, rfl, d0⟩ := h0 k hlt
    obtain ⟨x1, rfl, d1⟩ := h1 k hlt
    obtain ⟨x2, rfl, d2⟩ := h2 k hlt
    have l0 := cell_lt d0
    have l1 := cell_lt d1
    have l2 := cell_lt d2
    have hw1 : w.heap.size < w1.heap.size := by have := hgrow1.size; rw [World.size_alloc] at this; omega
    replace d0 := (hB.cell (cell_lt d0)).trans d0
    replace d1 := (hB.cell (cell_lt d1)).trans d1
    replace d2 := (hB.cell (cell_lt d2)).trans d2
    have c10 := br.cell
    have c10a := (br.alloc (.cells (pageOf (T k)) 53)).cell
    have d1a := cell_kept d1 (World.grownBy_alloc wr (.cells (pageOf (T k)) 53) none) (fun r e => by cases e)
    have d2a := cell_kept d2 (World.grownBy_alloc wr (.cells (pageOf (T k)) 53) none) (fun r e => by cases e)
    have br2 := (br.alloc (.cells (pageOf (T k)) 53)).alloc (.cells #[.pointer (some ⟨wr.heap.size, 0, none⟩), .int .i64 (L k), .int .i64 (H k)] 55)
    have c10b := br2.cell
    have hG2 := (hG.alloc (.cells (pageOf (T k)) 53)).alloc (.cells #[.pointer (some ⟨wr.heap.size, 0, none⟩), .int .i64 (L k), .int .i64 (H k)] 55)
    obtain ⟨W2, hW2⟩ : ∃ W2, (wr.alloc (.cells (pageOf (T k)) 53)).alloc (.cells #[.pointer (some ⟨wr.heap.size, 0, none⟩), .int .i64 (L k), .int .i64 (H k)] 55) = W2 := ⟨_, rfl⟩
    have g0 := hG2.cell (i := k * 3) (by omega)
    have g1 := (hG2.set (k * 3) (.pointer (some ⟨wr.heap.size, 0, none⟩))).cell (i := k * 3 + 1) (by omega)
    have g2 := ((hG2.set (k * 3) (.pointer (some ⟨wr.heap.size, 0, none⟩))).set (k * 3 + 1) (.int .i64 (L k))).cell (i := k * 3 + 2) (by omega)
    have e0 := hG2.frozen (k * 3)
    have e1 := hG2.frozen (k * 3 + 1)
    have e2 := hG2.frozen (k * 3 + 2)
    have f10b := br2.frozen
    have hk1 : k + 1 ≤ n := hlt
    have y0 : (x0.add k).block ≠ w.heap.size + 1 := by omega
    have y1 : (x1.add k).block ≠ w.heap.size + 1 := by omega
    have y2 : (x2.add k).block ≠ w.heap.size + 1 := by omega
    have z0 : (x0.add k).block ≠ w1.heap.size := by omega
    have z1 : (x1.add k).block ≠ w1.heap.size := by omega
    have z2 : (x2.add k).block ≠ w1.heap.size := by omega
    have R := built_step (k := k) hgr hlt (Nat.lt_succ_self _) (by have := hgrow1.size; rw [World.size_alloc] at this; omega) ⟨bl, br, ⟨G, pg, hG, hrs⟩, hB⟩
    clear h0 h1 h2 hz0 hz1 hz2 br2 hG2 hW2 hrs bl hB hG
    have R' : Hid _ := R
    clear R
    unfold pageOf at c10a d1a d2a c10b g0 g1 g2 e0 e1 e2 f10b R'
    go_wp2
    clear hgrow1 hown1 hG0
    clear y0 y1 y2 z0 z1 z2 l0 l1 l2 hw1 hi br
    refine wp_region_noPanic ?_
    go_region
    refine NoPanic.normal ?_
    go_wp2
    go_roundw
    case rel => exact ⟨k + 1, by omega, by go_num, Built.drew R'.out⟩
    case measure => simp [intOf]; omega
  · obtain rfl : k = n := by omega
    have hBt : Built w lim T L H k w1.heap.size (w.heap.size + 1) k wr := ⟨bl, br, ⟨G, pg, hG, hrs⟩, hB⟩
    clear h0 h1 h2 hz0 hz1 hz2 bl br hG hrs hB
    go_wp2_with fail
    rw [hte]
    exact zz_tail _ _ _ _ _ _ _ _ _ T L H lim w _ hn hBt wl wh ht _ _ _ _ _ _ _ _ _ _ _ _ _ _ _ _ _ _ _ _ _ _ _ _ _ _ _ _

end Go.Proofs.Qxb6618604a
