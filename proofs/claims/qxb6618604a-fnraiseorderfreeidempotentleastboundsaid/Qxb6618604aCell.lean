import Derived.Test.Qxb6618604aRows
import Derived.WalkKit
import Derived.WalkSpells
import Derived.Outline
import Derived.Laws.LoneSync
namespace Go.Proofs.Qxb6618604a
open Go.RowKit

/-- The cell of an atomic.Int64 of the call's own. -/
def CellAt (w : World) (b : Nat) (x : Int) : Prop := w.cell? ⟨b, 0, none⟩ = some (.int .i64 x) ∧ w.frozen? ⟨b, 0, none⟩ = false

def upTo (x n : Int) : Int := if x < n then n else x

set_option maxRecDepth 100000 in
theorem store_any (b : Nat) (x y : Int) (w : World) (hc : w.cell? ⟨b, 0, none⟩ = some (.int .i64 x)) (hf : w.frozen? ⟨b, 0, none⟩ = false) :
    Calls Try.prog 16 #[.pointer (some ⟨b, 0, none⟩), .int .i64 y] w fun e w' => e = .returned (.tuple #[]) ∧ w' = w.setCell ⟨b, 0, none⟩ (.int .i64 y) := by
  have hst := run_call_store (P := Try.prog) Try.func21 (by kernel_rfl) (by kernel_rfl) (by kernel_rfl) (by kernel_rfl) (k := .i64) (y := y) hc hf
  go_enter Try.func16, Try.ntmps16
  go_wp2
  go_end0
  exact ⟨rfl, rfl⟩

set_option maxRecDepth 100000 in
theorem load_any (b : Nat) (x : Int) (w : World) (hc : w.cell? ⟨b, 0, none⟩ = some (.int .i64 x)) :
    Calls Try.prog 18 #[.pointer (some ⟨b, 0, none⟩)] w fun e w' => e = .returned (.int .i64 x) ∧ w' = w := by
  have hst := run_call_load (P := Try.prog) Try.func23 (by kernel_rfl) (by kernel_rfl) (by kernel_rfl) .i64 (by kernel_rfl) hc
  go_enter Try.func18, Try.ntmps18
  go_wp2
  go_ret
  exact ⟨rfl, rfl⟩

set_option maxRecDepth 100000 in
theorem cas_any (b : Nat) (x y : Int) (w : World) (hc : w.cell? ⟨b, 0, none⟩ = some (.int .i64 x)) (hf : w.frozen? ⟨b, 0, none⟩ = false) :
    Calls Try.prog 22 #[.pointer (some ⟨b, 0, none⟩), .int .i64 x, .int .i64 y] w fun e w' => e = .returned (.bool true) ∧ w' = w.setCell ⟨b, 0, none⟩ (.int .i64 y) := by
  have hst := run_call_cas_hit (P := Try.prog) Try.func25 (by kernel_rfl) (by kernel_rfl) (by kernel_rfl) .i64 (by kernel_rfl) (y := y) hc hf
  go_enter Try.func22, Try.ntmps22
  go_wp2
  go_ret
  exact ⟨rfl, rfl⟩

def RaiseEnd (b : Nat) (x : Int) (w : World) (e : Ending) (w' : World) : Prop := e = .returned (.tuple #[]) ∧ CellAt w' b x ∧ Below b w w'

theorem lt_of_cell {w : World} {a : Addr} {v : Value} (h : w.cell? a = some v) : a.block < w.heap.size := by
  apply Decidable.byContradiction
  intro hn
  have : w.heap[a.block]? = none := Array.getElem?_eq_none (by omega)
  simp [World.cell?, this] at h

theorem cellAt_set {w : World} {b : Nat} {x : Int} (y : Int) (h : CellAt w b x) : CellAt (w.setCell ⟨b, 0, none⟩ (.int .i64 y)) b y := by
  obtain ⟨h1, h2⟩ := h
  refine ⟨?_, by simpa using h2⟩
  exact World.cell?_setCell_same w _ _ h1

set_option maxRecDepth 100000 in
theorem raise_up (b : Nat) (x n : Int) (w : World) (h : CellAt w b x) (hlt : x < n) :
    Calls Try.prog 17 #[.pointer (some ⟨b, 0, none⟩), .int .i64 n] w fun e w' => RaiseEnd b n w e w' := by
  have hs := cellAt_set n h
  have hB : Below b w (w.setCell ⟨b, 0, none⟩ (.int .i64 n)) := (Below.refl b w).setCell (Nat.le_refl _) _
  obtain ⟨hc, hf⟩ := h
  go_enter Try.func17, Try.ntmps17
  go_wp2_with (go_at_call 18; refine (load_any _ _ _ hc).mono ?_; rintro e w' ⟨rfl, rfl⟩)
  refine wp_loop_rounds 1 ?_
  rw [rounds_succ]
  go_wp2_with (go_at_call 22; refine (cas_any _ _ _ _ hc hf).mono ?_; rintro e w' ⟨rfl, rfl⟩)
  go_end0
  exact ⟨rfl, hs, hB⟩

set_option maxRecDepth 100000 in
theorem raise_stay (b : Nat) (x n : Int) (w : World) (h : CellAt w b x) (hlt : ¬ x < n) :
    Calls Try.prog 17 #[.pointer (some ⟨b, 0, none⟩), .int .i64 n] w fun e w' => RaiseEnd b x w e w' := by
  have h' := h
  obtain ⟨hc, hf⟩ := h
  go_enter Try.func17, Try.ntmps17
  go_wp2_with (go_at_call 18; refine (load_any _ _ _ hc).mono ?_; rintro e w' ⟨rfl, rfl⟩)
  refine wp_loop_rounds 1 ?_
  rw [rounds_succ]
  go_wp2_with fail
  go_end0
  exact ⟨rfl, h', Below.refl _ _⟩

theorem raise_any (b : Nat) (x n : Int) (w : World) (h : CellAt w b x) :
    Calls Try.prog 17 #[.pointer (some ⟨b, 0, none⟩), .int .i64 n] w fun e w' => RaiseEnd b (upTo x n) w e w' := by
  unfold upTo
  by_cases hlt : x < n
  · rw [if_pos hlt]; exact raise_up b x n w h hlt
  · rw [if_neg hlt]; exact raise_stay b x n w h hlt

set_option maxRecDepth 100000 in
theorem zzraise_any (b : Nat) (x n : Int) (w : World) (h : CellAt w b x) :
    Calls Try.prog 8 #[.pointer (some ⟨b, 0, none⟩), .int .i64 n] w fun e w' => RaiseEnd b (upTo x n) w e w' := by
  go_enter Try.func8, Try.ntmps8
  go_wp2_with (go_at_call 17; refine (raise_any _ _ _ _ h).mono ?_; rintro e w' ⟨rfl, h1, h2⟩)
  go_end0
  exact ⟨rfl, h1, h2⟩

set_option maxRecDepth 100000 in
theorem zzload_any (b : Nat) (x : Int) (w : World) (h : CellAt w b x) :
    Calls Try.prog 9 #[.pointer (some ⟨b, 0, none⟩)] w fun e w' => e = .returned (.int .i64 x) ∧ w' = w := by
  go_enter Try.func9, Try.ntmps9
  go_wp2_with (go_at_call 18; refine (load_any _ _ _ h.1).mono ?_; rintro e w' ⟨rfl, rfl⟩)
  go_ret
  exact ⟨rfl, rfl⟩

def NewEnd (x : Int) (w : World) (e : Ending) (w' : World) : Prop := e = .returned (.pointer (some ⟨w.heap.size, 0, none⟩)) ∧ CellAt w' w.heap.size x ∧ Below w.heap.size w w'

set_option maxRecDepth 100000 in
theorem newcell_any (x : Int) (w : World) :
    Calls Try.prog 7 #[.int .i64 x] w fun e w' => NewEnd x w e w' := by
  have h0 : CellAt (w.alloc (.cells #[.int .i64 0] 42)) w.heap.size 0 := ⟨by simp, by simp⟩
  have h1 : CellAt (w.alloc (.cells #[.int .i64 x] 42)) w.heap.size x := ⟨by simp, by simp⟩
  have h2 : Below w.heap.size w (w.alloc (.cells #[.int .i64 x] 42)) := (Below.refl _ _).alloc (Nat.le_refl _) _
  go_enter Try.func7, Try.ntmps7
  go_wp2_with (go_at_call 16; refine (store_any _ 0 _ _ h0.1 h0.2).mono ?_; rintro e w' ⟨rfl, rfl⟩)
  go_ret
  exact ⟨rfl, h1, h2⟩

set_option maxRecDepth 100000 in
theorem max2_any (x y : Int) (w : World) :
    Calls Try.prog 10 #[.int .i64 x, .int .i64 y] w fun e w' => e = .returned (.int .i64 (upTo x y)) ∧ w' = w := by
  unfold upTo
  by_cases h : y < x
  · rw [if_neg (by omega)]
    go_enter Try.func10, Try.ntmps10
    go_wp2
    go_ret
    exact ⟨rfl, rfl⟩
  · by_cases h2 : x < y
    · rw [if_pos h2]
      go_enter Try.func10, Try.ntmps10
      go_wp2
      go_ret
      exact ⟨rfl, rfl⟩
    · obtain rfl : x = y := by omega
      rw [if_neg h2]
      go_enter Try.func10, Try.ntmps10
      go_wp2
      go_ret
      exact ⟨rfl, rfl⟩
end Go.Proofs.Qxb6618604a
