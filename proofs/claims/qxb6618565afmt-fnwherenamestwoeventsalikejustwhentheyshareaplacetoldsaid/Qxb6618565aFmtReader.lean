import Derived.Test.Qxb6618565aFmtWhere
namespace Go.Proofs.Qxb6618565aFmt
open Go.RowKit Go.Extern.Stop Go.Stop Go.Extern Go.Kit
attribute [local go_sem ↓] Go.wp_at_zero Go.wp_at_succ

/-- A reader over n events whose file being read begins at event fs. -/
def ReaderAt (w : World) (br n : Nat) (fs : Int) (f : Nat → Int) (s : Nat → ByteArray) : Prop :=
  ∃ g : Nat, w.cell? ⟨br, 2, none⟩ = some (.slice (some ⟨g, 0, none⟩) n n) ∧ w.cell? ⟨br, 5, none⟩ = some (.int .i64 fs) ∧ EventsAt w g n f s

theorem ReaderAt.later {w w' : World} {br n : Nat} {fs : Int} {f : Nat → Int} {s : Nat → ByteArray} (h : ReaderAt w br n fs f s) (hb : Below w.heap.size w w') : ReaderAt w' br n fs f s := by
  obtain ⟨g, h1, h2, h3⟩ := h
  exact ⟨g, (hb.cell (cell_lt h1)).trans h1, (hb.cell (cell_lt h2)).trans h2, h3.later hb⟩

def ReaderEnd (w : World) (n : Nat) (fs : Int) (f : Nat → Int) (s : Nat → ByteArray) (e : Ending) (w' : World) : Prop :=
  ∃ br : Nat, e = .returned (.pointer (some ⟨br, 0, none⟩)) ∧ ReaderAt w' br n fs f s ∧ Below w.heap.size w w'

set_option maxRecDepth 100000 in
set_option maxHeartbeats 400000 in
theorem reader_any (g n : Nat) (fs : Int) (f : Nat → Int) (s : Nat → ByteArray) (w : World) (h : EventsAt w g n f s) :
    Calls Tryf.prog 5 #[.slice (some ⟨g, 0, none⟩) n n, .int .i64 fs] w fun e w' => ReaderEnd w n fs f s e w' := by
  go_enter Tryf.func5, Tryf.ntmps5
  go_wp2
  go_ret
  exact ⟨w.heap.size, rfl, ⟨g, by simp, by simp, h.later ((Below.refl _ _).alloc (Nat.le_refl _) _)⟩, (Below.refl _ _).alloc (Nat.le_refl _) _⟩

/-- What where says of event i. -/
def whereText (fs : Int) (f : Nat → Int) (s : Nat → ByteArray) (i : Nat) : List UInt8 := if fs ≤ i then textA (f i) else textB (f i) (s i).data.toList

set_option maxRecDepth 100000 in
set_option maxHeartbeats 1000000 in
theorem where_any (F : Interp) (br n i : Nat) (fs : Int) (f : Nat → Int) (s : Nat → ByteArray) (w : World) (hF : F.told.answers w.tape) (h : ReaderAt w br n fs f s) (hi : i < n) (hw : (Lit.int .i64 (f i)).wf = true) (hs : (s i).size ≤ 1048576) :
    Calls Tryf.prog 9 #[.pointer (some ⟨br, 0, none⟩), .int .i64 i] w fun e w' => LineEnd w (whereText fs f s i) e w' := by
  obtain ⟨g, h2, h5, E, hrow, hE⟩ := h
  obtain ⟨e8, e7⟩ := hE i hi
  have c8 := hrow.cell (i := i * 9 + 8) (by omega)
  have c7 := hrow.cell (i := i * 9 + 7) (by omega)
  rw [e8] at c8
  rw [e7] at c7
  have hi' : (i : Int) < (n : Int) := by omega
  clear e8 e7 hE hrow
  by_cases hfs : fs ≤ i
  · have hd : decide (fs ≤ (i : Int)) = true := decide_eq_true hfs
    unfold whereText
    rw [if_pos hfs]
    clear hfs
    go_enter Tryf.func9, Tryf.ntmps9
    go_wp2
    go_region_with (go_at_call 10; refine (lineA F _ _ _ (by exact hF) hw).mono ?_; rintro e w' ⟨rfl, hB⟩)
    all_goals (go_wp2; go_ret; exact ⟨rfl, below_call (below_draws _ _) hB⟩)
  · have hd : decide (fs ≤ (i : Int)) = false := decide_eq_false hfs
    unfold whereText
    rw [if_neg hfs]
    clear hfs
    go_enter Tryf.func9, Tryf.ntmps9
    go_wp2
    go_region_with (go_at_call 10; refine (lineB F _ _ _ (by exact hF) hw hs).mono ?_; rintro e w' ⟨rfl, hB⟩)
    all_goals (go_wp2; go_ret; exact ⟨rfl, below_call (below_draws _ _) hB⟩)

set_option maxRecDepth 100000 in
theorem zzwhere_any (F : Interp) (br n i : Nat) (fs : Int) (f : Nat → Int) (s : Nat → ByteArray) (w : World) (hF : F.told.answers w.tape) (h : ReaderAt w br n fs f s) (hi : i < n) (hw : (Lit.int .i64 (f i)).wf = true) (hs : (s i).size ≤ 1048576) :
    Calls Tryf.prog 7 #[.pointer (some ⟨br, 0, none⟩), .int .i64 i] w fun e w' => LineEnd w (whereText fs f s i) e w' := by
  go_enter Tryf.func7, Tryf.ntmps7
  go_wp2_with (go_at_call 9; refine (where_any F br n i fs f s _ hF h hi hw hs).mono ?_; rintro e w' ⟨rfl, hB⟩)
  go_ret
  exact ⟨rfl, hB⟩
end Go.Proofs.Qxb6618565aFmt
