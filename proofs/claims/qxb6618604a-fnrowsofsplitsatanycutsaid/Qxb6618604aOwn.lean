import Derived.Test.Qxb6618604aTotal
namespace Go.Proofs.Qxb6618604a
open Go.RowKit Go.Shelf
attribute [local go_sem] Oper.semAt_some

def rest3 : Code → Code
  | .seq _ (.seq _ (.seq _ r)) => r
  | c => c

/-- THE LISTING: run after run, (rank, index). -/
def listing (T L H : Nat → Int) : Nat → List (Int × Int)
  | 0 => []
  | k + 1 => listing T L H k ++ upto (fun i : Nat => (T k, L k + i)) (H k - L k).toNat
theorem listing_length (T L H : Nat → Int) : ∀ n, (listing T L H n).length = total L H n
  | 0 => rfl
  | k + 1 => by simp [listing, total, listing_length T L H k, upto_length]

/-- WHAT ZZrowsOf HANDS BACK: two slices of m numbers each: the ranks and the indices of the first m rows. -/
def RowsEnd (w : World) (T L H : Nat → Int) (n : Nat) (lim : Int) (e : Ending) (w' : World) : Prop :=
  ∃ (ra ia : Option Addr) (rc ic m : Nat), e = .returned (.tuple #[.slice ra m rc, .slice ia m ic]) ∧ m = min lim.toNat (total L H n) ∧
    IntsAt .u64 w' ra m (fun j => ((listing T L H n)[j]?.getD (0, 0)).1) ∧ IntsAt .i64 w' ia m (fun j => ((listing T L H n)[j]?.getD (0, 0)).2) ∧ Below w.heap.size w w'

/-- The rank that a page's block holds. -/
def tagOf (W : World) (b : Nat) : Int := match W.cell? ⟨b, 1, none⟩ with
  | some (.int .u64 z) => z
  | _ => 0
theorem tagOf_eq {W : World} {b : Nat} {z : Int} (h : W.cell? ⟨b, 1, none⟩ = some (.int .u64 z)) : tagOf W b = z := by
  simp [tagOf, h]

def rkV (W : World) (r : RowV) : Value := .int .u64 (tagOf W r.1)
def ixV (r : RowV) : Value := .int .i64 r.2

theorem cells2 {W : World} {B : Nat} {x y : Value} {t : TypeId} (h : W.heap[B]? = some (Obj.cells #[x, y] t (0, 0))) : W.cell? ⟨B, 0, none⟩ = some x ∧ W.cell? ⟨B, 1, none⟩ = some y := by
  simp [World.cell?, h]
theorem page_cell {W : World} {b : Nat} {t : Int} (h : W.heap[b]? = some (Obj.cells (pageOf t) 53 (0, 0))) : W.cell? ⟨b, 1, none⟩ = some (.int .u64 t) := by
  simp [World.cell?, h, pageOf]

theorem mem_flat_upto {f : Nat → Run} {n : Nat} {x : RowV} (h : x ∈ flat (upto f n)) : ∃ j, j < n ∧ x.1 = (f j).1 := by
  simp only [flat, upto, List.mem_flatMap, List.mem_map, List.mem_range, rowsR] at h
  obtain ⟨r, ⟨j, hj, rfl⟩, i, _, rfl⟩ := h
  exact ⟨j, hj, rfl⟩

theorem owns_form {W : World} {b k : Nat} {e : TypeId} {v : Value} {xs : List Value} (h : W.ownsRow b e 1 v k xs) : ∃ a c, v = .slice a k c := by
  rcases h.2 with ⟨rfl, rfl⟩ | ⟨g, cap, cur, rfl, _⟩
  · exact ⟨none, 0, rfl⟩
  · exact ⟨_, _, rfl⟩
theorem owns_cells {W : World} {b k c : Nat} {e : TypeId} {a : Option Addr} {xs : List Value} (h : W.ownsRow b e 1 (.slice a k c) k xs) : ∀ j u, j < k → xs[j]? = some u → ∃ x, a = some x ∧ W.cell? (x.add j) = some u := by
  intro j u hj hu
  rcases h.2 with ⟨e1, rfl⟩ | ⟨g, cap, cur, e1, _, hg, hkc, _, hcs, htk⟩
  · omega
  · cases e1
    refine ⟨_, rfl, ?_⟩
    have : cur[j]? = some u := by
      rw [← htk, List.getElem?_take] at hu
      rw [if_pos (by omega)] at hu
      simpa using hu
    by_cases hj0 : j = 0
    · subst hj0
      simp [World.cell?, Addr.add, hg, this]
    · simp [World.cell?, Addr.add, hj0, hg, this]

/-- A slice that owns its row owns it still where its block lies as it lay. -/
theorem owns_kept {W W' : World} {b k : Nat} {e : TypeId} {v : Value} {xs : List Value} (h : W.ownsRow b e 1 v k xs) (hk : ∀ (g : Nat) (c : Array Value), W.heap[g]? = some (Obj.cells c e (0, 0)) → b ≤ g → W'.heap[g]? = some (Obj.cells c e (0, 0))) : W'.ownsRow b e 1 v k xs := by
  refine ⟨h.1, ?_⟩
  rcases h.2 with hn | ⟨g, cap, cur, e1, hb, hg, rest⟩
  · exact .inl hn
  · exact .inr ⟨g, cap, cur, e1, hb, hk g cur hg hb, rest⟩

/-- **'out = append(out, u)' AS THE WALK WANTS IT.** -/
theorem app_step {W : World} {n₀ B k : Nat} {tt t e : TypeId} {i0 : TypeInfo} {z : Value} {v : Value} {xs : List Value} (u : Value) (hu : u.oneCell' = true) (h1 : Try.prog.underlying tt = some (.slice e)) (hi : Try.prog.info? e = some i0) (hz0 : i0.zero = some z) (hz1 : i0.size = 1) (hz2 : i0.bytes = 8) (hzs : z.cells.size = 1)
    (hv : Boxed W B t v) (hte : t ≠ e) (ho : W.ownsRow n₀ e 1 v k xs) (hn : n₀ ≤ W.heap.size) (hB : n₀ ≤ B) (hk : k ≤ 65536) :
    ∃ ra rc g cap w1, v = .slice ra k rc ∧ (Builtin.append_ #[tt, tt] tt #[.slice ra k rc, .slice (some ⟨W.heap.size, 0, none⟩) 1 1]).run Try.prog (W.alloc (.cells #[u] e)) = .ok (.slice (some ⟨g, 0, none⟩) (k + 1) cap) w1 ∧
      Boxed w1 B t (.slice ra k rc) ∧ Boxed (w1.setCell ⟨B, 0, none⟩ (.slice (some ⟨g, 0, none⟩) (k + 1) cap)) B t (.slice (some ⟨g, 0, none⟩) (k + 1) cap) ∧
      (w1.setCell ⟨B, 0, none⟩ (.slice (some ⟨g, 0, none⟩) (k + 1) cap)).ownsRow n₀ e 1 (.slice (some ⟨g, 0, none⟩) (k + 1) cap) (k + 1) (xs ++ [u]) ∧
      KeepsOthers W (w1.setCell ⟨B, 0, none⟩ (.slice (some ⟨g, 0, none⟩) (k + 1) cap)) ∧ Below n₀ W (w1.setCell ⟨B, 0, none⟩ (.slice (some ⟨g, 0, none⟩) (k + 1) cap)) ∧
      (∀ (b : Nat) (c : Array Value) (t' : TypeId), t' ≠ e → W.heap[b]? = some (Obj.cells c t' (0, 0)) → w1.heap[b]? = some (Obj.cells c t' (0, 0)) ∧ (t' ≠ t → (w1.setCell ⟨B, 0, none⟩ (.slice (some ⟨g, 0, none⟩) (k + 1) cap)).heap[b]? = some (Obj.cells c t' (0, 0)))) := by
  obtain ⟨ra, rc, rfl⟩ := owns_form ho
  obtain ⟨v', w1, hap, hown, hgrow, _⟩ := run_append_own (P := Try.prog) (W.alloc (.cells #[u] e)) n₀ tt tt e i0 z 1 8 h1 hi hz0 hz1 hz2 hzs (by decide) (.slice ra k rc) k xs (ho.alloc _) ⟨W.heap.size, 0, none⟩ 1 1 [u] rfl (cell_one_new W u e)
    (by intro y hy; rw [List.mem_singleton.1 hy]; exact hu) (by unfold maxLen; omega) (by omega) (by simp; omega)
  obtain ⟨g, cap, rfl⟩ := ownsRow_succ hown
  obtain ⟨hv1, hv2, hr2, hk2, hb2⟩ := hv.appended hte ho hn hB hown hgrow
  refine ⟨ra, rc, g, cap, w1, rfl, hap, hv1, hv2, hr2, hk2, hb2, fun b c t' ht hb => ?_⟩
  have hb1 : w1.heap[b]? = some (Obj.cells c t' (0, 0)) := by
    have ha : (W.alloc (.cells #[u] e)).heap[b]? = some (Obj.cells c t' (0, 0)) := (Below.heap_alloc _ _ _ (Array.getElem?_eq_some_iff.1 hb).1).trans hb
    refine (hgrow.block b (Array.getElem?_eq_some_iff.1 ha).1 (fun e' => ?_)).trans ha
    rcases (ho.alloc (.cells #[u] e)).2 with ⟨h, _⟩ | ⟨g', cap', cur, h, _, hg, _⟩
    · cases h; simp [Value.ownBlock] at e'
    · cases h
      simp only [Value.ownBlock, Option.some.injEq] at e'
      subst e'
      rw [ha] at hg
      cases hg
      exact ht rfl
  refine ⟨hb1, fun ht2 => set_keeps hb1 ?_⟩
  intro e'
  rw [show b = B from e', show w1.heap[B]? = _ from hv1] at hb1
  cases hb1
  exact ht2 rfl

theorem eql59 (f : Fn) (lb : Array Value) (w : World) : (binOp .eql 59 (.func f #[] lb) .nilFunc).run Try.prog w = .ok (.bool false) w := by
  have h : ∀ d : Nat, (Op.equalIn (d + 1) 59 (.func f #[] lb) .nilFunc).run Try.prog w = .ok false w := fun d => by
    simp [Op.equalIn, run_underlying Try.underlying59]
  simp only [binOp]
  simp [Op.equal, Op.maxDepth, h 9999]


end Go.Proofs.Qxb6618604a
