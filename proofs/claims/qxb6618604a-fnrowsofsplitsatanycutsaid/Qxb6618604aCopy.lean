import Derived.Test.Qxb6618604aBlocks
import Derived.Laws.CopyOwn
namespace Go.Proofs.Qxb6618604a
open Go.RowKit Go.Shelf

theorem IntsAt.later {k : IntKind} {w w' : World} {a : Option Addr} {n : Nat} {f : Nat → Int} (h : IntsAt k w a n f) (hb : Below w.heap.size w w') : IntsAt k w' a n f := fun j hj => by
  obtain ⟨x, rfl, hx⟩ := h j hj
  exact ⟨x, rfl, (hb.cell (cell_lt hx)).trans hx⟩

theorem cells_ints {k : IntKind} {w : World} {a : Option Addr} {n : Nat} {f : Nat → Int} (h : IntsAt k w a n f) : 0 < (upto (fun j => Value.int k (f j)) n).length → ∃ ad, a = some ad ∧ ∀ j v, (upto (fun j => Value.int k (f j)) n)[j]? = some v → w.cell? (ad.add j) = some v := by
  intro h0
  rw [upto_length] at h0
  obtain ⟨x, rfl, _⟩ := h 0 h0
  refine ⟨x, rfl, fun j v hj => ?_⟩
  simp only [upto, List.getElem?_map] at hj
  cases hr : (List.range n)[j]? with
  | none => rw [hr] at hj; cases hj
  | some i =>
    rw [hr] at hj
    cases hj
    obtain ⟨hlt, e⟩ := List.getElem?_eq_some_iff.1 hr
    simp at e hlt
    subst e
    obtain ⟨y, hy, hc⟩ := h j hlt
    cases hy
    exact hc
theorem ints_one (k : IntKind) (n : Nat) (f : Nat → Int) : ∀ v ∈ upto (fun j => Value.int k (f j)) n, v.oneCell' = true := by
  intro v hv
  simp only [upto, List.mem_map] at hv
  obtain ⟨_, _, rfl⟩ := hv
  rfl
/-- A block that holds the numbers f 0, .., f (n - 1). -/
theorem ints_of_block {k : IntKind} {w : World} {g n : Nat} {t : TypeId} {f : Nat → Int} {cs : List Value} (h : w.heap[g]? = some (Obj.cells cs.toArray t (0, 0))) (hc : cs = upto (fun j => Value.int k (f j)) n) : IntsAt k w (some ⟨g, 0, none⟩) n f := by
  intro j hj
  refine ⟨_, rfl, ?_⟩
  have : cs[j]? = some (.int k (f j)) := by rw [hc]; simp [upto, hj]
  by_cases hj0 : j = 0
  · subst hj0
    simp [World.cell?, Addr.add, h, this]
  · simp [World.cell?, Addr.add, hj0, h, this]

theorem size35 : (Try.prog.info? 35).map (·.size) = some 1 := by kernel_rfl
theorem size3 : (Try.prog.info? 3).map (·.size) = some 1 := by kernel_rfl
theorem size_made1 (z : Value) (n : Nat) : (madeCells #[z] n).toList.length = n := by simp [size_madeCells]
theorem splice_all {α : Type} (cur cs : List α) (h : cur.length = cs.length) : splice cur 0 cs = cs := by simp [splice, ← h]

theorem copy_step {k : IntKind} {t e : TypeId} (z : Value) (hu : Try.prog.underlying t = some (.slice e)) (hs : (Try.prog.info? e).map (·.size) = some 1) {w : World} {x : Addr} {n : Nat} (c : Nat) {f : Nat → Int} (h : IntsAt k w (some x) n f) :
    ∃ w', (Builtin.copy_ #[t, t] 3 #[.slice (some ⟨w.heap.size, 0, none⟩) n n, .slice (some x) n c]).run Try.prog (w.alloc (.cells (madeCells #[z] n) e)) = .ok (.int .i64 (n : Int)) w' ∧ IntsAt k w' (some ⟨w.heap.size, 0, none⟩) n f ∧ Below w.heap.size w w' := by
  have hb : Below w.heap.size w (w.alloc (.cells (madeCells #[z] n) e)) := below_alloc (Below.refl _ _) _
  have hlen : (upto (fun j => Value.int k (f j)) n).length = n := upto_length _ _
  have hsrc : ∀ j v, (upto (fun j => Value.int k (f j)) n)[j]? = some v → (w.alloc (.cells (madeCells #[z] n) e)).cell? (x.add j) = some v := fun j v hj => by
    have hpos : 0 < (upto (fun j => Value.int k (f j)) n).length := by
      have := (List.getElem?_eq_some_iff.1 hj).1; omega
    obtain ⟨ad, e1, h2⟩ := cells_ints (h.later hb) hpos
    cases e1
    exact h2 j v hj
  have hg := World.alloc_heap_new w (.cells (madeCells #[z] n) e)
  have hr := run_copy_row (P := Try.prog) (w.alloc (.cells (madeCells #[z] n) e)) t t 3 e w.heap.size 0 n n x n c _ e (upto (fun j => Value.int k (f j)) n) hu hs hg (by rw [hlen]; exact (Nat.min_self _).symm) hsrc (by rw [hlen, size_madeCells]; omega) (ints_one _ _ _)
  rw [hlen] at hr
  refine ⟨_, hr, ints_of_block (t := e) (cs := upto (fun j => Value.int k (f j)) n) ?_ rfl, below_setRow hb (Nat.le_refl _) _⟩
  have e1 : (List.take 0 (madeCells #[z] n).toList ++ upto (fun j => Value.int k (f j)) n ++ List.drop (0 + n) (madeCells #[z] n).toList) = upto (fun j => Value.int k (f j)) n := by
    rw [List.drop_eq_nil_of_le (by rw [size_made1]; omega)]; simp
  rw [e1]
  exact setRow_heap _ _ _ _ _ _ hg

theorem neq_nil {t e : TypeId} (hu : Try.prog.underlying t = some (.slice e)) (a : Option Addr) (n c : Nat) (w : World) : (binOp .neq t (.slice a n c) (.slice none 0 0)).run Try.prog w = .ok (.bool a.isSome) w := by
  have h : ∀ d : Nat, (Op.equalIn (d + 1) t (.slice a n c) (.slice none 0 0)).run Try.prog w = .ok a.isNone w := fun d => by
    cases a <;> simp [Op.equalIn, run_underlying hu]
  simp only [binOp]
  cases a <;> simp [Op.equal, Op.maxDepth, h 9999]

def LawEnd (w : World) (e : Ending) (w' : World) : Prop := e = .returned (.bool true) ∧ Below w.heap.size w w'


/-- What follows the first k statements. -/
def restN : Nat → Code → Code
  | 0, c => c
  | k + 1, .seq _ r => restN k r
  | _ + 1, c => c
/-- The first k statements, whatever follows. -/
def headN (t : Code) : Nat → Code → Code
  | 0, _ => t
  | k + 1, .seq a r => .seq a (headN t k r)
  | _ + 1, c => c

theorem IntsAt.short {k : IntKind} {w : World} {a : Option Addr} {n c : Nat} {f : Nat → Int} (h : IntsAt k w a n f) (hc : c ≤ n) : IntsAt k w a c f := fun j hj => h j (by omega)
theorem IntsAt.none {k : IntKind} {w : World} {a : Option Addr} {f : Nat → Int} : IntsAt k w a 0 f := fun j hj => absurd hj (by omega)
theorem IntsAt.from {k : IntKind} {w : World} {a : Option Addr} {n c : Nat} {f : Nat → Int} (h : IntsAt k w a n f) : IntsAt k w (Option.map (fun x => x.add c) a) (n - c) (from_ c f) := by
  intro j hj
  obtain ⟨x, rfl, hx⟩ := h (c + j) (by omega)
  exact ⟨x.add c, rfl, by rw [Addr.add_add]; exact hx⟩

end Go.Proofs.Qxb6618604a
