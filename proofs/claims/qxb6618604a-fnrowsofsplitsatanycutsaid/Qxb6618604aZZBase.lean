import Derived.Test.Qxb6618604aRowsOf
import Derived.WalkSpells
import Derived.Outline
import Derived.Deep.QuietTactic
import Derived.BigQuiet
import Derived.BigRegion
import Derived.Maps.AppendAt
import Derived.WalkSmall
import Derived.Deep.OwnRows
namespace Go.Proofs.Qxb6618604a
open Go.RowKit Go.Shelf

theorem info55 : (Try.prog.info? 55).map (fun i => (i.zero, i.size, i.bytes)) = some (some (.agg #[.pointer none, .int .i64 0, .int .i64 0]), 3, 24) := by kernel_rfl
theorem info35 : (Try.prog.info? 35).map (fun i => (i.zero, i.size, i.bytes)) = some (some (.int .u64 0), 1, 8) := by kernel_rfl
theorem info3 : (Try.prog.info? 3).map (fun i => (i.zero, i.size, i.bytes)) = some (some (.int .i64 0), 1, 8) := by kernel_rfl

/-- What is known of a slice of ints: its numbers lie where it leads. -/
def IntsAt (k : IntKind) (w : World) (a : Option Addr) (n : Nat) (f : Nat → Int) : Prop := ∀ j, j < n → ∃ x, a = some x ∧ w.cell? (x.add j) = some (.int k (f j))

theorem cell_lt {w : World} {a : Addr} {v : Value} (h : w.cell? a = some v) : a.block < w.heap.size := by
  apply Decidable.byContradiction
  intro hn
  have : w.heap[a.block]? = none := Array.getElem?_eq_none (by omega)
  simp [World.cell?, this] at h

/-- A block of cells of a type that is not t lies on where only a block of type t turned. -/
theorem kept_other {X Y : World} {g : Nat} {cur : Array Value} {t : TypeId} (hg : X.heap[g]? = some (Obj.cells cur t (0, 0))) (h : X.grownBy Y (some g)) {b : Nat} {c : Array Value} {t' : TypeId} (ht : t' ≠ t)
    (hb : X.heap[b]? = some (Obj.cells c t' (0, 0))) : Y.heap[b]? = some (Obj.cells c t' (0, 0)) :=
  (h.block b (Array.getElem?_eq_some_iff.1 hb).1 (fun e => by cases e; rw [hg] at hb; cases hb; exact ht rfl)).trans hb

/-- A page of rank t. -/
def pageOf (t : Int) : Array Value := #[.slice none 0 0, .int .u64 t, .slice none 0 0, .slice none 0 0, .slice none 0 0, .int .i64 0]
def runCells (r : Run) : List Value := [.pointer (some ⟨r.1, 0, none⟩), .int .i64 r.2.1, .int .i64 r.2.2]

theorem cell_new3 (w : World) (x y z : Value) (t : TypeId) : ∀ j u, [x, y, z][j]? = some u → (w.alloc (.cells #[x, y, z] t)).cell? ((⟨w.heap.size, 0, none⟩ : Addr).add j) = some u := by
  intro j u hj
  obtain ⟨h0, h1, h2⟩ := cells3 (World.alloc_heap_new w (.cells #[x, y, z] t))
  match j, hj with
  | 0, hj => simp at hj; subst hj; exact h0
  | 1, hj => simp at hj; subst hj; exact h1
  | 2, hj => simp at hj; subst hj; exact h2
  | j + 3, hj => simp at hj
theorem runCells_one (r : Run) : ∀ u ∈ runCells r, u.oneCell' = true := by
  intro u hu
  simp only [runCells, List.mem_cons, List.not_mem_nil, or_false] at hu
  rcases hu with rfl | rfl | rfl <;> rfl

/-- WHERE THE LOOP THAT BUILDS THE RUNS STANDS. -/
def Built (w : World) (lim : Int) (T L H : Nat → Int) (n Br g k : Nat) (W : World) : Prop :=
  Boxed W w.heap.size 3 (.int .i64 lim) ∧ Boxed W Br 46 (.slice (some ⟨g, 0, none⟩) k n) ∧
    (∃ (G : Nat → Value) (pg : Nat → Nat), W.rowIs g 55 (n * 3) G ∧
      ∀ j, j < k → (G (j * 3) = .pointer (some ⟨pg j, 0, none⟩) ∧ G (j * 3 + 1) = .int .i64 (L j) ∧ G (j * 3 + 2) = .int .i64 (H j)) ∧ W.heap[pg j]? = some (Obj.cells (pageOf (T j)) 53 (0, 0))) ∧ Below w.heap.size w W

theorem row_of_owns {W : World} {base g n : Nat} {t : TypeId} (h : W.ownsRow base t 3 (.slice (some ⟨g, 0, none⟩) 0 n) 0 []) : ∃ G, W.rowIs g t (n * 3) G := by
  rcases h.2 with ⟨h, _⟩ | ⟨g', cap', cur, h, hbg, hg, _, _, hs, _⟩
  · cases h
  · cases h
    exact ⟨fun i => cur[i]?.getD undef, cur, hg, hs, fun i hi => by simp [hs, hi]⟩

theorem set_keeps {W : World} {a : Addr} {v : Value} {b : Nat} {o : Obj} (h : W.heap[b]? = some o) (hne : b ≠ a.block) : (W.setCell a v).heap[b]? = some o := (Go.Deep.blk_setCell_other _ _ _ _ hne).trans h

theorem built_step {w : World} {lim : Int} {T L H : Nat → Int} {n Br g k : Nat} {wr : World} (hgr : Br ≠ g) (hk : k < n) (hg : w.heap.size < g) (hBr : w.heap.size < Br) (h : Built w lim T L H n Br g k wr) :
    Built w lim T L H n Br g (k + 1) ((((((wr.alloc (.cells (pageOf (T k)) 53)).alloc (.cells #[.pointer (some ⟨wr.heap.size, 0, none⟩), .int .i64 (L k), .int .i64 (H k)] 55)).setCell ⟨g, k * 3, none⟩ (.pointer (some ⟨wr.heap.size, 0, none⟩))).setCell ⟨g, k * 3 + 1, none⟩ (.int .i64 (L k))).setCell ⟨g, k * 3 + 2, none⟩ (.int .i64 (H k))).setCell ⟨Br, 0, none⟩ (.slice (some ⟨g, 0, none⟩) (k + 1) n)) := by
  obtain ⟨bl, br, ⟨G, pg, hG, hrs⟩, hB⟩ := h
  have hgl := hG.lt
  have hbl := br.lt
  have hsz := hB.size
  have keep : ∀ (b : Nat) (o : Obj), ((wr.alloc (.cells (pageOf (T k)) 53)).alloc (.cells #[.pointer (some ⟨wr.heap.size, 0, none⟩), .int .i64 (L k), .int .i64 (H k)] 55)).heap[b]? = some o → b ≠ g → b ≠ Br →
      ((((((wr.alloc (.cells (pageOf (T k)) 53)).alloc (.cells #[.pointer (some ⟨wr.heap.size, 0, none⟩), .int .i64 (L k), .int .i64 (H k)] 55)).setCell ⟨g, k * 3, none⟩ (.pointer (some ⟨wr.heap.size, 0, none⟩))).setCell ⟨g, k * 3 + 1, none⟩ (.int .i64 (L k))).setCell ⟨g, k * 3 + 2, none⟩ (.int .i64 (H k))).setCell ⟨Br, 0, none⟩ (.slice (some ⟨g, 0, none⟩) (k + 1) n)).heap[b]? = some o :=
    fun b o h h1 h2 => set_keeps (set_keeps (set_keeps (set_keeps h h1) h1) h1) h2
  have older : ∀ (b : Nat) (o : Obj), wr.heap[b]? = some o → ((wr.alloc (.cells (pageOf (T k)) 53)).alloc (.cells #[.pointer (some ⟨wr.heap.size, 0, none⟩), .int .i64 (L k), .int .i64 (H k)] 55)).heap[b]? = some o := fun b o h => by
    have hb := (Array.getElem?_eq_some_iff.1 h).1
    exact (Below.heap_alloc _ _ _ (by simp; omega)).trans ((Below.heap_alloc _ _ _ hb).trans h)
  refine ⟨keep _ _ (older _ _ bl) (by omega) (by omega), Boxed.set (v := .slice (some ⟨g, 0, none⟩) k n) _ (set_keeps (set_keeps (set_keeps (older _ _ br) hgr) hgr) hgr), ⟨_, fun j => if j = k then wr.heap.size else pg j,
    ((((((hG.alloc _).alloc _).set (k * 3) _).set (k * 3 + 1) _).set (k * 3 + 2) _).setOther (Ne.symm hgr) _), ?_⟩, ?_⟩
  · intro j hj
    by_cases e : j = k
    · subst e
      refine ⟨⟨?_, ?_, ?_⟩, keep _ _ ?_ ?_ ?_⟩
      · simp
      · simp
      · simp
      · simp only [if_true]
        exact (Below.heap_alloc _ _ _ (by simp)).trans (World.alloc_heap_new wr _)
      · simp only [if_true]; omega
      · simp only [if_true]; omega
    · obtain ⟨⟨q0, q1, q2⟩, hp⟩ := hrs j (by omega)
      refine ⟨⟨?_, ?_, ?_⟩, keep _ _ ?_ ?_ ?_⟩
      · simp only [if_neg e]
        rw [if_neg (by omega), if_neg (by omega), if_neg (by omega)]; exact q0
      · rw [if_neg (by omega), if_neg (by omega), if_neg (by omega)]; exact q1
      · rw [if_neg (by omega), if_neg (by omega), if_neg (by omega)]; exact q2
      · simp only [if_neg e]; exact older _ _ hp
      · simp only [if_neg e]
        intro e'
        obtain ⟨c, hc, _⟩ := hG
        rw [e', hc] at hp
        cases hp
      · simp only [if_neg e]
        intro e'
        rw [e', show wr.heap[Br]? = _ from br] at hp
        cases hp
  · exact (((((hB.alloc hsz _).alloc (by simp; omega) _).setCell (p := ⟨g, k * 3, none⟩) (by simp; omega) _).setCell (p := ⟨g, k * 3 + 1, none⟩) (by simp; omega) _).setCell (p := ⟨g, k * 3 + 2, none⟩) (by simp; omega) _).setCell (p := ⟨Br, 0, none⟩) (by simp; omega) _


end Go.Proofs.Qxb6618604a
