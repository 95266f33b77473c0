import Derived.Test.Qxb6618565aFmtWhere
namespace Go.Proofs.Qxb6618565aFmt
open Go.RowKit

/-- The first k strings are short. -/
def ShortTo (s : Nat → ByteArray) (k : Nat) : Prop := ∀ j, j < k → (s j).size ≤ 1048576
theorem ShortTo.succ {s : Nat → ByteArray} {k : Nat} (h : ShortTo s k) (h1 : (s k).size ≤ 1048576) : ShortTo s (k + 1) := by
  intro j hj
  by_cases e : j = k
  · subst e; exact h1
  · exact h j (by omega)

def BytesEnd (n0 n1 : Nat) (s : Nat → ByteArray) (w : World) (e : Ending) (w' : World) : Prop :=
  ∃ bb : Bool, e = .returned (.bool bb) ∧ w' = w ∧ (bb = true → n0 ≤ 1048576 ∧ n1 ≤ 1048576 ∧ ∀ k, k < n1 → (s k).size ≤ 1048576)

set_option maxRecDepth 100000 in
set_option maxHeartbeats 400000 in
theorem bytes4 (a0 : Option Addr) (n0 c0 : Nat) (a1 : Option Addr) (n1 c1 : Nat) (s : Nat → ByteArray) (fs i j : Int) (w : World) (hm0 : n0 ≤ maxLen) (hm1 : n1 ≤ maxLen)
    (h1 : ∀ k, k < n1 → ∃ x, a1 = some x ∧ w.cell? (x.add k) = some (.string (s k))) (hs : ∀ k, k < n1 → (s k).size ≤ maxLen) :
    Calls Tryf.prog 4 #[.slice a0 n0 c0, .slice a1 n1 c1, .int .i64 fs, .int .i64 i, .int .i64 j] w fun e w' => BytesEnd n0 n1 s w e w' := by
  unfold maxLen at hm0 hm1 hs
  by_cases hn0 : n0 ≤ 1048576
  rotate_left
  · go_enter Tryf.func4, Tryf.ntmps4
    go_wp2
    go_ret
    exact ⟨false, rfl, rfl, by simp⟩
  by_cases hn1 : n1 ≤ 1048576
  rotate_left
  · go_enter Tryf.func4, Tryf.ntmps4
    go_wp2
    go_ret
    exact ⟨false, rfl, rfl, by simp⟩
  by_cases hn2 : n0 + n1 ≤ 1048576
  rotate_left
  · go_enter Tryf.func4, Tryf.ntmps4
    go_wp2
    go_ret
    exact ⟨false, rfl, rfl, by simp⟩
  have hd0 : decide ((1048576 : Int) < (n0 : Int)) = false := decide_eq_false (by omega)
  have hd1 : decide ((1048576 : Int) < (n1 : Int)) = false := decide_eq_false (by omega)
  have hd2 : decide ((1048576 : Int) < (n0 : Int) + (n1 : Int)) = false := decide_eq_false (by omega)
  go_enter Tryf.func4, Tryf.ntmps4
  go_wp2
  clear hd0 hd1 hd2
  go_loop [11, 12] (fun z i => ∃ (k m : Nat), k ≤ n1 ∧ m ≤ 1048576 ∧ i = .int .i64 k ∧ z = .int .i64 m ∧ ShortTo s k) (fun _ i => n1 - (intOf i).toNat)
  case atStart => exact ⟨0, n0 + n1, Nat.zero_le _, hn2, rfl, by go_num, fun j hj => absurd hj (by omega)⟩
  case round =>
    obtain ⟨k, m, hk, hm, rfl, rfl, hsh⟩ := hrel
    by_cases hlt : k < n1
    · obtain ⟨x, rfl, hx⟩ := h1 k hlt
      have hsk := hs k hlt
      clear h1 hs
      by_cases hl : (s k).size ≤ 1048576
      · by_cases hl2 : m + (s k).size ≤ 1048576
        · go_wp2
          go_round
          case rel => exact ⟨k + 1, m + (s k).size, by omega, hl2, by go_num, by go_num, hsh.succ hl⟩
          case measure => simp [intOf]; omega
        · go_wp2
          go_ret
          exact ⟨false, rfl, rfl, by simp⟩
      · go_wp2
        go_ret
        exact ⟨false, rfl, rfl, by simp⟩
    · clear h1 hs
      go_wp2
      go_ret
      exact ⟨true, rfl, rfl, fun _ => ⟨hn0, hn1, fun j hj => hsh j (by omega)⟩⟩
end Go.Proofs.Qxb6618565aFmt
