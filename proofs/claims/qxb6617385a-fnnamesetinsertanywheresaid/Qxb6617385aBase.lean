import Derived.Test.Qxb6617385aRows
import Derived.WalkKit
import Derived.WalkSpells
import Derived.Outline
import Derived.Deep.QuietTactic
import Derived.BigQuiet
import Derived.Maps.AppendAt
namespace Go.Proofs.Qxb6617385a
open Go.RowKit

theorem cell_lt {w : World} {a : Addr} {v : Value} (h : w.cell? a = some v) : a.block < w.heap.size := by
  apply Decidable.byContradiction
  intro hn
  have : w.heap[a.block]? = none := Array.getElem?_eq_none (by omega)
  simp [World.cell?, this] at h
theorem below_call {w X W : World} (h : Below w.heap.size w X) (k : Below X.heap.size X W) : Below w.heap.size w W := h.trans (k.mono h.size)
theorem below_draws (w : World) (n : Nat) : Below w.heap.size w (w.drewN n) := ⟨rfl, rfl, rfl, Nat.le_refl _, fun _ _ => rfl⟩
theorem below_alloc {w W : World} (h : Below w.heap.size w W) (o : Obj) : Below w.heap.size w (W.alloc o) := h.alloc h.size o

/-- What is known of a slice of strings: its strings lie where it leads. -/
def StrsL (w : World) (a : Option Addr) (l : List ByteArray) : Prop := ∀ k (h : k < l.length), ∃ x, a = some x ∧ w.cell? (x.add k) = some (.string l[k])
theorem StrsL.later {w w' : World} {a : Option Addr} {l : List ByteArray} (h : StrsL w a l) (hb : Below w.heap.size w w') : StrsL w' a l := by
  intro k hk
  obtain ⟨x, rfl, hx⟩ := h k hk
  exact ⟨x, rfl, (hb.cell (cell_lt hx)).trans hx⟩

theorem info9 : (Try.prog.info? 9).map (fun i => (i.zero, i.size, i.bytes)) = some (some (.string ByteArray.empty), 1, 16) := by kernel_rfl

/-- Where a copying loop of zzB1Cat3 stands. -/
def CatAt (w : World) (N : Nat) (l : List ByteArray) (v : Value) (wr : World) : Prop :=
  v = .slice (some ⟨w.heap.size, 0, none⟩) l.length N ∧ wr.ownsRow w.heap.size 9 1 v l.length (l.map Value.string) ∧ Below w.heap.size w wr

theorem str_oneCell (s : ByteArray) : ∀ u ∈ [Value.string s], u.oneCell' = true := by
  intro u hu
  simp only [List.mem_singleton] at hu
  subst hu
  rfl

theorem cat_step {w wr w1 : World} {N : Nat} {l : List ByteArray} {s : ByteArray} (hB : Below w.heap.size w wr)
    (hown : w1.ownsRow w.heap.size 9 1 (.slice (some ⟨w.heap.size, 0, none⟩) (l.length + 1) N) (l.length + 1) (l.map Value.string ++ [.string s])) (hg : (wr.alloc (.cells #[.string s] 9)).grownBy w1 (some w.heap.size)) :
    CatAt w N (l ++ [s]) (.slice (some ⟨w.heap.size, 0, none⟩) (l.length + 1) N) w1 := by
  refine ⟨by simp, by simpa using hown, (below_alloc hB _).grown hg ?_ ?_⟩
  · have := hB.size
    simp
    omega
  · intro k hk
    cases hk
    exact Nat.le_refl _

def CatEnd (w : World) (l : List ByteArray) (e : Ending) (w' : World) : Prop :=
  ∃ a c, e = .returned (.slice a l.length c) ∧ StrsL w' a l ∧ Below w.heap.size w w'

theorem take_snoc (X : List ByteArray) (k : Nat) (h : k < X.length) : X.take (k + 1) = X.take k ++ [X[k]] := List.take_succ_eq_append_getElem h

set_option maxRecDepth 100000 in
set_option maxHeartbeats 1000000 in
theorem cat_any (ax am ay : Option Addr) (cx cm cy : Nat) (X M Y : List ByteArray) (w : World) (hX : X.length ≤ 4096) (hM : M.length ≤ 4096) (hY : Y.length ≤ 4096) (hx : StrsL w ax X) (hm : StrsL w am M) (hy : StrsL w ay Y) :
    Calls Try.prog 13 #[.slice ax X.length cx, .slice am M.length cm, .slice ay Y.length cy] w fun e w' => CatEnd w (X ++ M ++ Y) e w' := by
  obtain ⟨i0, hi, hz0, hz1, hz2⟩ := info_parts info9
  go_enter Try.func13, Try.ntmps13
  go_wp2_with (at_make; refine wpList_make_own _ rfl _ _ 22 rfl w.heap.size 9 i0 (.string ByteArray.empty) 1 Try.underlying22 hi hz0 hz1 _ _ _ (X.length + M.length + Y.length) rfl rfl (by omega) (by rw [hz2]; omega) (by unfold maxLen; omega) (Nat.le_refl _) ?_)
  intro w1 hown1 hgrow1
  go_wp2_with fail
  go_loopw [7, 8] (fun v i wr => ∃ (k : Nat) (l : List ByteArray), k ≤ X.length ∧ i = .int .i64 k ∧ l = X.take k ∧ CatAt w (X.length + M.length + Y.length) l v wr) (fun _ i _ => X.length - (intOf i).toNat)
  case atStart => exact ⟨0, [], Nat.zero_le _, rfl, by simp, rfl, by simpa using hown1, (Below.refl _ _).grown hgrow1 (Nat.le_refl _) (by simp)⟩
  case round =>
  obtain ⟨k, l, hk, rfl, hl, ⟨rfl, hown, hB⟩⟩ := hrel
  by_cases hlt : k < X.length
  · obtain ⟨x, rfl, hc⟩ := hx k hlt
    replace hc := (hB.cell (cell_lt hc)).trans hc
    have hlN : l.length + 1 ≤ X.length + M.length + Y.length := by rw [hl]; simp; omega
    have HL : Hid (l = X.take k) := hl
    obtain ⟨s, hs⟩ : ∃ s, s = X[k] := ⟨_, rfl⟩
    rw [← hs] at hc
    have HS : Hid (s = X[k]) := hs
    clear hl hs hx hm hy hz0 hz2
    go_wp2_with (at_builtin; refine wpList_append_fits _ rfl _ _ 22 rfl w.heap.size 9 i0 1 Try.underlying22 hi hz1 w.heap.size l.length (X.length + M.length + Y.length) _ rfl (hown.alloc _) ⟨wr.heap.size, 0, none⟩ 1 1 [.string s] rfl rfl (cell_one_new _ _ _) (str_oneCell s) hlN ?_)
    intro w2 hown2 hgrow2
    have R := cat_step hB hown2 hgrow2
    clear hown2 hgrow2 hown hc
    go_wp2
    go_roundw
    case rel => exact ⟨k + 1, l ++ [s], by omega, by go_num, by rw [HL.out, HS.out, take_snoc _ _ hlt], R⟩
    case measure => simp [intOf]; omega
  have HP : Hid (l = X) := by rw [hl, List.take_of_length_le (by omega)]; exact rfl
  clear hl hk
  go_wp2_with fail
  go_loopw [7, 9] (fun v i wr => ∃ (k : Nat) (l : List ByteArray), k ≤ M.length ∧ i = .int .i64 k ∧ l = X ++ M.take k ∧ CatAt w (X.length + M.length + Y.length) l v wr) (fun _ i _ => M.length - (intOf i).toNat)
  case atStart => exact ⟨0, l, Nat.zero_le _, rfl, by rw [HP.out]; simp, rfl, hown, hB⟩
  case round =>
  clear hown hB HP hlt; obtain ⟨k, l, hk, rfl, hl, ⟨rfl, hown, hB⟩⟩ := hrel
  by_cases hlt : k < M.length
  · obtain ⟨x, rfl, hc⟩ := hm k hlt
    replace hc := (hB.cell (cell_lt hc)).trans hc
    have hlN : l.length + 1 ≤ X.length + M.length + Y.length := by rw [hl]; simp; omega
    have HL : Hid (l = X ++ M.take k) := hl
    obtain ⟨s, hs⟩ : ∃ s, s = M[k] := ⟨_, rfl⟩
    rw [← hs] at hc
    have HS : Hid (s = M[k]) := hs
    clear hl hs hx hm hy hz0 hz2
    go_wp2_with (at_builtin; refine wpList_append_fits _ rfl _ _ 22 rfl w.heap.size 9 i0 1 Try.underlying22 hi hz1 w.heap.size l.length (X.length + M.length + Y.length) _ rfl (hown.alloc _) ⟨wr.heap.size, 0, none⟩ 1 1 [.string s] rfl rfl (cell_one_new _ _ _) (str_oneCell s) hlN ?_)
    intro w2 hown2 hgrow2
    have R := cat_step hB hown2 hgrow2
    clear hown2 hgrow2 hown hc
    go_wp2
    go_roundw
    case rel => exact ⟨k + 1, l ++ [s], by omega, by go_num, by rw [HL.out, HS.out, take_snoc _ _ hlt, List.append_assoc], R⟩
    case measure => simp [intOf]; omega
  have HP : Hid (l = X ++ M) := by rw [hl, List.take_of_length_le (by omega)]; exact rfl
  clear hl hk
  go_wp2_with fail
  go_loopw [7, 10] (fun v i wr => ∃ (k : Nat) (l : List ByteArray), k ≤ Y.length ∧ i = .int .i64 k ∧ l = (X ++ M) ++ Y.take k ∧ CatAt w (X.length + M.length + Y.length) l v wr) (fun _ i _ => Y.length - (intOf i).toNat)
  case atStart => exact ⟨0, l, Nat.zero_le _, rfl, by rw [HP.out]; simp, rfl, hown, hB⟩
  case round =>
  clear hown hB HP hlt; obtain ⟨k, l, hk, rfl, hl, ⟨rfl, hown, hB⟩⟩ := hrel
  by_cases hlt : k < Y.length
  · obtain ⟨x, rfl, hc⟩ := hy k hlt
    replace hc := (hB.cell (cell_lt hc)).trans hc
    have hlN : l.length + 1 ≤ X.length + M.length + Y.length := by rw [hl]; simp; omega
    have HL : Hid (l = (X ++ M) ++ Y.take k) := hl
    obtain ⟨s, hs⟩ : ∃ s, s = Y[k] := ⟨_, rfl⟩
    rw [← hs] at hc
    have HS : Hid (s = Y[k]) := hs
    clear hl hs hx hm hy hz0 hz2
    go_wp2_with (at_builtin; refine wpList_append_fits _ rfl _ _ 22 rfl w.heap.size 9 i0 1 Try.underlying22 hi hz1 w.heap.size l.length (X.length + M.length + Y.length) _ rfl (hown.alloc _) ⟨wr.heap.size, 0, none⟩ 1 1 [.string s] rfl rfl (cell_one_new _ _ _) (str_oneCell s) hlN ?_)
    intro w2 hown2 hgrow2
    have R := cat_step hB hown2 hgrow2
    clear hown2 hgrow2 hown hc
    go_wp2
    go_roundw
    case rel => exact ⟨k + 1, l ++ [s], by omega, by go_num, by rw [HL.out, HS.out, take_snoc _ _ hlt, List.append_assoc], R⟩
    case measure => simp [intOf]; omega
  have HP : Hid (l = (X ++ M) ++ Y) := by rw [hl, List.take_of_length_le (by omega)]; exact rfl
  clear hl hk
  go_wp2
  go_ret
  rw [← HP.out]
  refine ⟨_, _, rfl, ?_, hB⟩
  intro q hq
  refine ⟨_, rfl, ?_⟩
  rw [Addr.add_lit, Nat.zero_add, hown.cellAt q (by omega)]
  simp [List.getElem?_eq_getElem hq]
end Go.Proofs.Qxb6617385a
