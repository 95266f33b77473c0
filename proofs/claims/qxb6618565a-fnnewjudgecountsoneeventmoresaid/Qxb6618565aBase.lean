import Derived.Test.Qxb6618565aRows
import Derived.WalkKit
import Derived.WalkSpells
import Derived.Outline
import Derived.RegionTactic
import Derived.ChangeAlike
import Derived.Deep.OwnRows
import Derived.Deep.QuietTactic
import Derived.BigQuiet
namespace Go.Proofs.Qxb6618565a
open Go.RowKit

theorem info3 : (Try.prog.info? 3).map (fun i => (i.zero, i.size, i.bytes)) = some (some (.int .i64 0), 1, 8) := by kernel_rfl
theorem info4 : (Try.prog.info? 4).map (fun i => (i.zero, i.size, i.bytes)) = some (some (.bool false), 1, 1) := by kernel_rfl
theorem info9 : (Try.prog.info? 9).map (fun i => (i.zero, i.size, i.bytes)) = some (some (.string ByteArray.empty), 1, 16) := by kernel_rfl
theorem info23 : (Try.prog.info? 23).map (fun i => (i.zero, i.size, i.bytes)) = some (some (.int .u64 0), 1, 8) := by kernel_rfl
theorem info43 : (Try.prog.info? 43).map (fun i => (i.zero, i.size, i.bytes)) = some (some (.slice none 0 0), 1, 24) := by kernel_rfl
theorem info70 : (Try.prog.info? 70).map (fun i => (i.zero, i.size, i.bytes)) = some (some (.int .i32 0), 1, 4) := by kernel_rfl
theorem info78 : (Try.prog.info? 78).map (fun i => (i.zero, i.size, i.bytes)) = some (some (.agg #[.int .i64 0, .int .u8 0, .slice none 0 0, .slice none 0 0, .int .u64 0, .string ByteArray.empty, .int .i64 0]), 7, 96) := by kernel_rfl

/-- A cell that holds something lies in a block that is there. -/
theorem cell_lt {w : World} {a : Addr} {v : Value} (h : w.cell? a = some v) : a.block < w.heap.size := by
  apply Decidable.byContradiction
  intro hn
  have : w.heap[a.block]? = none := Array.getElem?_eq_none (by omega)
  simp [World.cell?, this] at h

/-- What a round of the copying loop leaves of its row. -/
theorem row_step {wr : World} {g n : Nat} {t : TypeId} {F : Nat → Nat → Value} (k : Nat) (v : Value) (hr : wr.rowIs g t n (F k)) (hs : ∀ j, j < n → (if j = k then v else F k j) = F (k + 1) j) :
    (wr.setCell ⟨g, k, none⟩ v).rowIs g t n (F (k + 1)) := (hr.set k v).congr hs

set_option maxRecDepth 100000 in
/-- The clone of a slice of ints that is not nil: a new row of the same numbers. -/
theorem clone_some (x : Addr) (n c : Nat) (f : Nat → Int) (w : World) (hn : n ≤ 1048576) (hcell : ∀ k, k < n → w.cell? (x.add k) = some (.int .i64 (f k))) :
    Calls Try.prog 22 #[.slice (some x) n c] w fun e w' => e = .returned (.slice (some ⟨w.heap.size, 0, none⟩) n n) ∧ w'.rowIs w.heap.size 3 n (fun k => .int .i64 (f k)) ∧ Below w.heap.size w w' := by
  have hmk := run_make_row' (P := Try.prog) 43 3 _ 8 Try.underlying43 info3 rfl .i64 .i64 n (by omega) (by omega)
  have heq := fun (w : World) (a : Option Addr) (n c : Nat) => Lib.run_eql_slice_nil (P := Try.prog) w 43 3 a n c 0 0 Try.underlying43
  go_enter Try.func22, Try.ntmps22
  go_wp2
  go_loopw [4] (fun i wr => ∃ k : Nat, k ≤ n ∧ i = .int .i64 k ∧ wr.rowIs w.heap.size 3 n (fun j => if j < k then .int .i64 (f j) else .int .i64 0) ∧ Below w.heap.size w wr) (fun i _ => n - (intOf i).toNat)
  case atStart => exact ⟨0, Nat.zero_le _, rfl, (World.rowIs_made _ _ _ _).congr (by intro i _; simp), (Below.refl _ _).alloc (Nat.le_refl _) _⟩
  case round =>
    obtain ⟨k, hk, rfl, hrow, hbel⟩ := hrel
    by_cases hlt : k < n
    · have hc1 : wr.cell? (x.add k) = some (.int .i64 (f k)) := (hbel.cell (cell_lt (hcell k hlt))).trans (hcell k hlt)
      have hc2 := hrow.cell hlt
      have hc3 := hrow.frozen k
      have R := hrow.set k (.int .i64 (f k))
      have hB := hbel.setCell (p := ⟨w.heap.size, k, none⟩) (Nat.le_refl _) (.int .i64 (f k))
      go_wp2
      go_roundw
      case rel => exact ⟨k + 1, by omega, by go_num, R.congr (by intro j hj; by_cases e : j = k <;> by_cases e2 : j < k <;> simp [e, e2] <;> omega), hB⟩
      case measure => simp [intOf]; omega
    · go_wp2
      go_ret
      exact ⟨rfl, hrow.congr (by intro j hj; simp; omega), hbel⟩

set_option maxRecDepth 100000 in
/-- The clone of nil. -/
theorem clone_nil (w : World) :
    Calls Try.prog 22 #[.slice none 0 0] w fun e w' => e = .returned (.slice none 0 0) ∧ w' = w := by
  have heq := fun (w : World) (a : Option Addr) (n c : Nat) => Lib.run_eql_slice_nil (P := Try.prog) w 43 3 a n c 0 0 Try.underlying43
  go_enter Try.func22, Try.ntmps22
  go_wp2
  go_ret
  exact ⟨rfl, rfl⟩
end Go.Proofs.Qxb6618565a
