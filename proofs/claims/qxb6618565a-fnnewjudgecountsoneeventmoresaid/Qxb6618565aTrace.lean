import Derived.Test.Qxb6618565aBase
namespace Go.Proofs.Qxb6618565a
open Go.RowKit

/-- A new row, whatever it holds. -/
theorem row_alloc (w : World) (c : Array Value) (t : TypeId) (n : Nat) (h : c.size = n) : ∃ F, (w.alloc (.cells c t)).rowIs w.heap.size t n F := by
  subst h
  exact ⟨fun i => c.getD i undef, World.rowIs_alloc w c t _ (by intro i hi; simp [hi])⟩

/-- A new block of two cells. -/
theorem row2_alloc (w : World) (t : TypeId) (u v : Value) (b : Nat) (h : w.heap.size = b) : (w.alloc (.cells #[u, v] t)).rowIs b t 2 (fun i => if i = 0 then u else v) := by
  subst h
  refine World.rowIs_alloc w #[u, v] t _ ?_
  intro i hi
  match i, hi with
  | 0, _ => rfl
  | 1, _ => rfl

set_option maxRecDepth 100000 in
set_option maxHeartbeats 400000 in
/-- zzTrace: a new Trace over a copy of the names and as many events as there are numbers. -/
theorem trace_any (a0 : Option Addr) (n0 c0 : Nat) (s : Nat → ByteArray) (a1 : Option Addr) (n1 c1 : Nat) (f : Nat → Int) (w : World) (hn0 : n0 ≤ 1048576) (hn1 : n1 ≤ 1048577)
    (h0 : ∀ k, k < n0 → ∃ x, a0 = some x ∧ w.cell? (x.add k) = some (.string (s k))) (h1 : ∀ k, k < n1 → ∃ x, a1 = some x ∧ w.cell? (x.add k) = some (.int .i64 (f k))) :
    Calls Try.prog 20 #[.slice a0 n0 c0, .slice a1 n1 c1] w fun e w' => e = .returned (.pointer (some ⟨w.heap.size + 2, 0, none⟩)) ∧
      w'.rowIs (w.heap.size + 2) 80 2 (fun i => if i = 0 then .slice (some ⟨w.heap.size, 0, none⟩) n0 n0 else .slice (some ⟨w.heap.size + 1, 0, none⟩) n1 n1) ∧ w'.heap.size = w.heap.size + 3 ∧ Below w.heap.size w w' := by
  have hmk0 := run_make_row' (P := Try.prog) 42 9 _ 16 Try.underlying42 info9 rfl .i64 .i64 n0 (by omega) (by omega)
  obtain ⟨i78, hi78, hz78, hs78, hb78⟩ := info_parts info78
  have hmk1 := fun W => run_make (P := Try.prog) W 73 78 _ _ Try.underlying73 hi78 hz78 .i64 .i64 n1 n1 (by omega) (by omega) (by rw [hb78]; omega) (by omega)
  rw [hs78] at hmk1
  simp only [Int.toNat_natCast] at hmk1
  clear hi78 hz78 hs78 hb78
  go_enter Try.func20, Try.ntmps20
  go_wp2
  go_loopw [6] (fun i wr => ∃ k : Nat, k ≤ n0 ∧ i = .int .i64 k ∧ (∃ F, wr.rowIs w.heap.size 9 n0 F) ∧ wr.heap.size = w.heap.size + 1 ∧ Below w.heap.size w wr) (fun i _ => n0 - (intOf i).toNat)
  case atStart => exact ⟨0, Nat.zero_le _, rfl, ⟨_, World.rowIs_made _ _ _ _⟩, by simp, (Below.refl _ _).alloc (Nat.le_refl _) _⟩
  case round =>
    obtain ⟨k, hk, rfl, ⟨F, hrow⟩, hsz, hbel⟩ := hrel
    by_cases hlt : k < n0
    · obtain ⟨x, rfl, hx⟩ := h0 k hlt
      have hc1 : wr.cell? (x.add k) = some (.string (s k)) := (hbel.cell (cell_lt hx)).trans hx
      have hc2 := hrow.cell hlt
      have hc3 := hrow.frozen k
      have R := hrow.set k (.string (s k))
      have hB := hbel.setCell (p := ⟨w.heap.size, k, none⟩) (Nat.le_refl _) (.string (s k))
      clear h0 h1
      go_wp2
      go_roundw
      case rel => exact ⟨k + 1, by omega, by go_num, ⟨_, R⟩, by simpa using hsz, hB⟩
      case measure => simp [intOf]; omega
    · go_wp2
      clear hmk0 hmk1 h0
      go_loopw [8] (fun i wq => ∃ k : Nat, k ≤ n1 ∧ i = .int .i64 k ∧ (∃ F, wq.rowIs (w.heap.size + 1) 78 (n1 * 7) F) ∧ wq.heap.size = w.heap.size + 2 ∧ Below w.heap.size w wq) (fun i _ => n1 - (intOf i).toNat)
      case atStart => exact ⟨0, Nat.zero_le _, rfl, by rw [← hsz]; exact row_alloc _ _ _ _ (size_madeCells _ _), by simp [hsz], hbel.alloc (by omega) _⟩
      case round =>
        clear hrow hbel hsz hk
        obtain ⟨m, hm, rfl, ⟨G, hrow⟩, hsz, hbel⟩ := hrel
        by_cases hlm : m < n1
        · obtain ⟨x, rfl, hx⟩ := h1 m hlm
          have hc1 := (hbel.cell (cell_lt hx)).trans hx
          have hc2 := hrow.cell (i := m * 7) (by omega)
          have hc3 := hrow.cell (i := m * 7 + 1) (by omega)
          have hc4 := hrow.cell (i := m * 7 + 6) (by omega)
          have hf2 := hrow.frozen (m * 7)
          have hf3 := hrow.frozen (m * 7 + 1)
          have hf4 := hrow.frozen (m * 7 + 6)
          have R := ((hrow.set (m * 7) (.int .i64 (f m))).set (m * 7 + 1) (.int .u8 1)).set (m * 7 + 6) (.int .i64 ((m : Int) + 1))
          have hB := ((hbel.setCell (p := ⟨w.heap.size + 1, m * 7, none⟩) (Nat.le_succ _) (.int .i64 (f m))).setCell (p := ⟨w.heap.size + 1, m * 7 + 1, none⟩) (Nat.le_succ _) (.int .u8 1)).setCell (p := ⟨w.heap.size + 1, m * 7 + 6, none⟩) (Nat.le_succ _) (.int .i64 ((m : Int) + 1))
          clear h1 hx
          go_wp2
          go_roundw
          case rel => exact ⟨m + 1, by omega, by go_num, ⟨_, R⟩, by simpa using hsz, hB⟩
          case measure => simp [intOf]; omega
        · go_wp2
          go_ret
          exact ⟨rfl, row2_alloc wr 80 _ _ _ hsz, by simp [hsz], hbel.alloc (by omega) _⟩
end Go.Proofs.Qxb6618565a
