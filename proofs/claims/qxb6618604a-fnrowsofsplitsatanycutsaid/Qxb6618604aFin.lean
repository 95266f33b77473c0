import Derived.Test.Qxb6618604aOwn
namespace Go.Proofs.Qxb6618604a
open Go.RowKit Go.Shelf

theorem flat_length (L H : Nat → Int) (pg : Nat → Nat) : ∀ n, (flat (upto (fun j => (pg j, L j, H j)) n)).length = total L H n
  | 0 => rfl
  | k + 1 => by rw [upto_succ, flat_snoc, List.length_append, flat_length L H pg k]; simp [total, rowsR, upto_length]

theorem flat_listing {W : World} {T L H : Nat → Int} {pg : Nat → Nat} : ∀ n, (∀ j, j < n → W.heap[pg j]? = some (Obj.cells (pageOf (T j)) 53 (0, 0))) →
    (flat (upto (fun j => (pg j, L j, H j)) n)).map (fun r => (tagOf W r.1, r.2)) = listing T L H n
  | 0, _ => rfl
  | k + 1, h => by
    rw [upto_succ, flat_snoc, List.map_append, flat_listing k (fun j hj => h j (by omega))]
    simp only [listing, rowsR, upto, List.map_map]
    congr 1
    apply List.map_congr_left
    intro i _
    simp only [Function.comp, rowAt]
    rw [tagOf_eq (page_cell (h k (by omega)))]

theorem rows_fin {w W X : World} {T L H : Nat → Int} {n : Nat} {lim : Int} {pg : Nat → Nat} {pre : List RowV} {ra ia : Option Addr} {rc ic b : Nat} (hpre : pre <+: flat (upto (fun j => (pg j, L j, H j)) n)) (hm : pre.length = min lim.toNat (total L H n))
    (hpg : ∀ j, j < n → W.heap[pg j]? = some (Obj.cells (pageOf (T j)) 53 (0, 0))) (ho : X.ownsRow b 35 1 (.slice ra pre.length rc) pre.length (pre.map (rkV W))) (ho' : X.ownsRow b 3 1 (.slice ia pre.length ic) pre.length (pre.map ixV)) (hB : Below w.heap.size w X) :
    RowsEnd w T L H n lim (.returned (.tuple #[.slice ra pre.length rc, .slice ia pre.length ic])) X := by
  have key : ∀ j (h : j < pre.length), (listing T L H n)[j]?.getD (0, 0) = (tagOf W pre[j].1, pre[j].2) := by
    intro j h
    obtain ⟨q, hq⟩ := hpre
    rw [← flat_listing n hpg, ← hq, List.map_append, List.getElem?_append_left (by simpa using h), List.getElem?_map, List.getElem?_eq_getElem h]
    rfl
  refine ⟨ra, ia, rc, ic, pre.length, rfl, hm, fun j hj => ?_, fun j hj => ?_, hB⟩
  · show ∃ x : Addr, _ ∧ X.cell? (x.add j) = some (.int _ ((listing T L H n)[j]?.getD (0, 0)).1)
    rw [key j hj]
    exact owns_cells ho j _ hj (by rw [List.getElem?_map, List.getElem?_eq_getElem hj]; rfl)
  · show ∃ x : Addr, _ ∧ X.cell? (x.add j) = some (.int _ ((listing T L H n)[j]?.getD (0, 0)).2)
    rw [key j hj]
    exact owns_cells ho' j _ hj (by rw [List.getElem?_map, List.getElem?_eq_getElem hj]; rfl)

end Go.Proofs.Qxb6618604a
