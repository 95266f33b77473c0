import Derived.Test.Qxb6618565aFmtLine
import Derived.Deep.OwnRows
import Derived.Deep.RegionWith
import Derived.Deep.DrawnRows
namespace Go.Proofs.Qxb6618565aFmt
open Go.RowKit Go.Extern.Stop Go.Stop Go.Extern Go.Kit
attribute [local go_sem ↓] Go.wp_at_zero Go.wp_at_succ

theorem cell_lt {w : World} {a : Addr} {v : Value} (h : w.cell? a = some v) : a.block < w.heap.size := by
  apply Decidable.byContradiction
  intro hn
  have : w.heap[a.block]? = none := Array.getElem?_eq_none (by omega)
  simp [World.cell?, this] at h

theorem below_call {w X W : World} (h : Below w.heap.size w X) (k : Below X.heap.size X W) : Below w.heap.size w W := h.trans (k.mono h.size)
theorem below_draws (w : World) (n : Nat) : Below w.heap.size w (w.drewN n) := ⟨rfl, rfl, rfl, Nat.le_refl _, fun _ _ => rfl⟩
theorem below_alloc {w W : World} (h : Below w.heap.size w W) (o : Obj) : Below w.heap.size w (W.alloc o) := h.alloc h.size o

theorem row_call {X W : World} {b n : Nat} {t : TypeId} {f : Nat → Value} (h : X.rowIs b t n f) (k : Below X.heap.size X W) : W.rowIs b t n f := h.of_block (k.block _ h.lt)

theorem info43 : (Tryf.prog.info? 43).map (fun i => (i.zero, i.size, i.bytes)) = some (some (.agg #[.int .i64 0, .int .u8 0, .slice none 0 0, .int .i64 0, .slice none 0 0, .string ByteArray.empty, .string ByteArray.empty, .string ByteArray.empty, .int .i64 0]), 9, 128) := by kernel_rfl

/-- The events' cells: event k of line f k, of file s k. -/
def EventsAt (w : World) (g n : Nat) (f : Nat → Int) (s : Nat → ByteArray) : Prop :=
  ∃ F, w.rowIs g 43 (n * 9) F ∧ ∀ k, k < n → F (k * 9 + 8) = .int .i64 (f k) ∧ F (k * 9 + 7) = .string (s k)

theorem EventsAt.later {w w' : World} {g n : Nat} {f : Nat → Int} {s : Nat → ByteArray} (h : EventsAt w g n f s) (hb : Below w.heap.size w w') : EventsAt w' g n f s := by
  obtain ⟨F, h1, h2⟩ := h
  exact ⟨F, row_call h1 hb, h2⟩

theorem row_alloc (w : World) (c : Array Value) (t : TypeId) (n : Nat) (h : c.size = n) : ∃ F, (w.alloc (.cells c t)).rowIs w.heap.size t n F := by
  subst h
  exact ⟨fun i => c.getD i undef, World.rowIs_alloc w c t _ (by intro i hi; simp [hi])⟩

def EventsEnd (w : World) (n : Nat) (f : Nat → Int) (s : Nat → ByteArray) (e : Ending) (w' : World) : Prop :=
  ∃ g : Nat, e = .returned (.slice (some ⟨g, 0, none⟩) n n) ∧ EventsAt w' g n f s ∧ Below w.heap.size w w'

set_option maxRecDepth 100000 in
set_option maxHeartbeats 400000 in
theorem events_any (a0 : Option Addr) (n c0 : Nat) (f : Nat → Int) (a1 : Option Addr) (c1 : Nat) (s : Nat → ByteArray) (w : World) (hn : n ≤ 1048576)
    (h0 : ∀ k, k < n → ∃ x, a0 = some x ∧ w.cell? (x.add k) = some (.int .i64 (f k))) (h1 : ∀ k, k < n → ∃ x, a1 = some x ∧ w.cell? (x.add k) = some (.string (s k))) :
    Calls Tryf.prog 6 #[.slice a0 n c0, .slice a1 n c1] w fun e w' => EventsEnd w n f s e w' := by
  obtain ⟨i43, hi, hz, hs, hb⟩ := info_parts info43
  have hmk := fun W => run_make (P := Tryf.prog) W 27 43 _ _ Tryf.underlying27 hi hz .i64 .i64 n n (by omega) (by omega) (by rw [hb]; omega) (by omega)
  rw [hs] at hmk
  simp only [Int.toNat_natCast] at hmk
  clear hi hz hs hb
  go_enter Tryf.func6, Tryf.ntmps6
  go_wp2
  go_loopw [6] (fun i wr => ∃ k : Nat, k ≤ n ∧ i = .int .i64 k ∧ (∃ F, wr.rowIs w.heap.size 43 (n * 9) F ∧ ∀ j, j < k → F (j * 9 + 8) = .int .i64 (f j) ∧ F (j * 9 + 7) = .string (s j)) ∧ Below w.heap.size w wr) (fun i _ => n - (intOf i).toNat)
  case atStart =>
    obtain ⟨F, hF⟩ := row_alloc w (madeCells #[Value.int IntKind.i64 0, Value.int IntKind.u8 0, Value.slice none 0 0, Value.int IntKind.i64 0, Value.slice none 0 0, Value.string ByteArray.empty, Value.string ByteArray.empty, Value.string ByteArray.empty, Value.int IntKind.i64 0] (n * 9)) 43 (n * 9) (size_madeCells _ _)
    exact ⟨0, Nat.zero_le _, rfl, ⟨F, hF, fun j hj => absurd hj (by omega)⟩, (Below.refl _ _).alloc (Nat.le_refl _) _⟩
  case round =>
    obtain ⟨k, hk, rfl, ⟨F, hrow, hF⟩, hB⟩ := hrel
    by_cases hlt : k < n
    · obtain ⟨x, rfl, hx⟩ := h0 k hlt
      obtain ⟨y, rfl, hy⟩ := h1 k hlt
      replace hx := (hB.cell (cell_lt hx)).trans hx
      replace hy := (hB.cell (cell_lt hy)).trans hy
      have hc8 := hrow.cell (i := k * 9 + 8) (by omega)
      have hc7 := hrow.cell (i := k * 9 + 7) (by omega)
      have hf8 := hrow.frozen (k * 9 + 8)
      have hf7 := hrow.frozen (k * 9 + 7)
      have hy2 : (wr.setCell ⟨w.heap.size, k * 9 + 8, none⟩ (.int .i64 (f k))).cell? (y.add k) = some (.string (s k)) := by
        have := ((Below.refl w.heap.size wr).setCell (p := ⟨w.heap.size, k * 9 + 8, none⟩) (Nat.le_refl _) (.int .i64 (f k))).cell (p := y.add k) (by
          obtain ⟨z, e, hz⟩ := h1 k hlt
          obtain rfl := Option.some.inj e
          exact cell_lt hz)
        rw [this]; exact hy
      have R := (hrow.set (k * 9 + 8) (.int .i64 (f k))).set (k * 9 + 7) (.string (s k))
      have hB2 := (hB.setCell (p := ⟨w.heap.size, k * 9 + 8, none⟩) (Nat.le_refl _) (.int .i64 (f k))).setCell (p := ⟨w.heap.size, k * 9 + 7, none⟩) (Nat.le_refl _) (.string (s k))
      have HF : Hid (∀ j, j < k → F (j * 9 + 8) = .int .i64 (f j) ∧ F (j * 9 + 7) = .string (s j)) := hF
      clear h0 h1 hmk hF
      go_wp2
      go_roundw
      case rel =>
        refine ⟨k + 1, by omega, by go_num, ⟨_, R, ?_⟩, hB2⟩
        intro j hj
        by_cases e : j = k
        · subst e
          constructor
          · rw [if_neg (by omega), if_pos rfl]
          · rw [if_pos rfl]
        · obtain ⟨p1, p2⟩ := HF.out j (by omega)
          constructor
          · rw [if_neg (by omega), if_neg (by omega)]; exact p1
          · rw [if_neg (by omega), if_neg (by omega)]; exact p2
      case measure => simp [intOf]; omega
    · clear h0 h1 hmk
      have HF : Hid (∀ j, j < k → F (j * 9 + 8) = .int .i64 (f j) ∧ F (j * 9 + 7) = .string (s j)) := hF
      clear hF
      go_wp2
      go_ret
      exact ⟨w.heap.size, rfl, ⟨F, hrow, fun j hj => HF.out j (by omega)⟩, hB⟩
end Go.Proofs.Qxb6618565aFmt
