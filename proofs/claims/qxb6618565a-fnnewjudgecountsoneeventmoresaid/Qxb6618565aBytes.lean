import Derived.Test.Qxb6618565aBase
namespace Go.Proofs.Qxb6618565a
open Go.RowKit

/-- The first k strings are short. -/
def ShortTo (s : Nat → ByteArray) (k : Nat) : Prop := ∀ j, j < k → (s j).size ≤ 1048576
theorem ShortTo.succ {s : Nat → ByteArray} {k : Nat} (h : ShortTo s k) (h1 : (s k).size ≤ 1048576) : ShortTo s (k + 1) := by
  intro j hj
  by_cases e : j = k
  · subst e; exact h1
  · exact h j (by omega)

/-- What the bound on total length comes to. -/
def BytesEnd (n0 n1 n2 : Nat) (s : Nat → ByteArray) (w : World) (e : Ending) (w' : World) : Prop :=
  ∃ bb : Bool, e = .returned (.bool bb) ∧ w' = w ∧ (bb = true → n0 ≤ 1048576 ∧ n1 ≤ 1048576 ∧ n2 ≤ 1048576 ∧ ∀ k, k < n0 → (s k).size ≤ 1048576)

set_option maxRecDepth 100000 in
set_option maxHeartbeats 400000 in
/-- The bound on total length (the law of the cut): whatever it answers, nothing has turned; yes: each slice is short. -/
theorem bytes25 (a0 : Option Addr) (n0 c0 : Nat) (s : Nat → ByteArray) (a1 : Option Addr) (n1 c1 : Nat) (a2 : Option Addr) (n2 c2 : Nat) (cut : Int) (w : World) (hm0 : n0 ≤ maxLen) (hm1 : n1 ≤ maxLen) (hm2 : n2 ≤ maxLen)
    (h0 : ∀ k, k < n0 → ∃ x, a0 = some x ∧ w.cell? (x.add k) = some (.string (s k))) (hs : ∀ k, k < n0 → (s k).size ≤ maxLen) :
    Calls Try.prog 25 #[.slice a0 n0 c0, .slice a1 n1 c1, .slice a2 n2 c2, .int .i64 cut] w fun e w' => BytesEnd n0 n1 n2 s w e w' := by
  unfold maxLen at hm0 hm1 hm2 hs
  by_cases hn0 : n0 ≤ 1048576
  · go_enter Try.func25, Try.ntmps25
    go_wp2
    go_loop [9, 10] (fun z i => ∃ (k m : Nat), k ≤ n0 ∧ m ≤ 1048576 ∧ i = .int .i64 k ∧ z = .int .i64 m ∧ ShortTo s k) (fun _ i => n0 - (intOf i).toNat)
    case atStart => exact ⟨0, n0, Nat.zero_le _, hn0, rfl, rfl, fun j hj => absurd hj (by omega)⟩
    case round =>
      obtain ⟨k, m, hk, hm, rfl, rfl, hsh⟩ := hrel
      by_cases hlt : k < n0
      · obtain ⟨x, rfl, hx⟩ := h0 k hlt
        have hsk := hs k hlt
        clear h0 hs
        by_cases hl : (s k).size ≤ 1048576
        · by_cases hl2 : m + (s k).size ≤ 1048576
          · go_wp2
            go_round
            case rel => exact ⟨k + 1, m + (s k).size, by omega, hl2, by go_num, by go_num, hsh.succ hl⟩
            case measure => simp [intOf]; omega
          · go_wp2
            go_ret
            exact ⟨false, rfl, rfl, by simp⟩
        · go_wp2
          go_ret
          exact ⟨false, rfl, rfl, by simp⟩
      · clear h0 hs
        by_cases hl1 : n1 ≤ 1048576
        · by_cases hl2 : m + n1 ≤ 1048576
          · by_cases hl3 : n2 ≤ 1048576
            · by_cases hl4 : m + n1 + n2 ≤ 1048576
              · go_wp2
                go_ret
                exact ⟨true, rfl, rfl, fun _ => ⟨hn0, hl1, hl3, fun j hj => hsh j (by omega)⟩⟩
              · go_wp2
                go_ret
                exact ⟨false, rfl, rfl, by simp⟩
            · go_wp2
              go_ret
              exact ⟨false, rfl, rfl, by simp⟩
          · go_wp2
            go_ret
            exact ⟨false, rfl, rfl, by simp⟩
        · go_wp2
          go_ret
          exact ⟨false, rfl, rfl, by simp⟩
  · go_enter Try.func25, Try.ntmps25
    go_wp2
    go_ret
    exact ⟨false, rfl, rfl, by simp⟩

set_option maxRecDepth 100000 in
set_option maxHeartbeats 400000 in
/-- The bound on total length (the law of one event more): whatever it answers, nothing has turned; yes: each slice is short. -/
theorem bytes19 (a0 : Option Addr) (n0 c0 : Nat) (s : Nat → ByteArray) (a1 : Option Addr) (n1 c1 : Nat) (a2 : Option Addr) (n2 c2 : Nat) (cut : Int) (w : World) (hm0 : n0 ≤ maxLen) (hm1 : n1 ≤ maxLen) (hm2 : n2 ≤ maxLen)
    (h0 : ∀ k, k < n0 → ∃ x, a0 = some x ∧ w.cell? (x.add k) = some (.string (s k))) (hs : ∀ k, k < n0 → (s k).size ≤ maxLen) :
    Calls Try.prog 19 #[.slice a0 n0 c0, .slice a1 n1 c1, .slice a2 n2 c2, .int .i64 cut] w fun e w' => BytesEnd n0 n1 n2 s w e w' := by
  unfold maxLen at hm0 hm1 hm2 hs
  by_cases hn0 : n0 ≤ 1048576
  · go_enter Try.func19, Try.ntmps19
    go_wp2
    go_loop [9, 10] (fun z i => ∃ (k m : Nat), k ≤ n0 ∧ m ≤ 1048576 ∧ i = .int .i64 k ∧ z = .int .i64 m ∧ ShortTo s k) (fun _ i => n0 - (intOf i).toNat)
    case atStart => exact ⟨0, n0, Nat.zero_le _, hn0, rfl, rfl, fun j hj => absurd hj (by omega)⟩
    case round =>
      obtain ⟨k, m, hk, hm, rfl, rfl, hsh⟩ := hrel
      by_cases hlt : k < n0
      · obtain ⟨x, rfl, hx⟩ := h0 k hlt
        have hsk := hs k hlt
        clear h0 hs
        by_cases hl : (s k).size ≤ 1048576
        · by_cases hl2 : m + (s k).size ≤ 1048576
          · go_wp2
            go_round
            case rel => exact ⟨k + 1, m + (s k).size, by omega, hl2, by go_num, by go_num, hsh.succ hl⟩
            case measure => simp [intOf]; omega
          · go_wp2
            go_ret
            exact ⟨false, rfl, rfl, by simp⟩
        · go_wp2
          go_ret
          exact ⟨false, rfl, rfl, by simp⟩
      · clear h0 hs
        by_cases hl1 : n1 ≤ 1048576
        · by_cases hl2 : m + n1 ≤ 1048576
          · by_cases hl3 : n2 ≤ 1048576
            · by_cases hl4 : m + n1 + n2 ≤ 1048576
              · go_wp2
                go_ret
                exact ⟨true, rfl, rfl, fun _ => ⟨hn0, hl1, hl3, fun j hj => hsh j (by omega)⟩⟩
              · go_wp2
                go_ret
                exact ⟨false, rfl, rfl, by simp⟩
            · go_wp2
              go_ret
              exact ⟨false, rfl, rfl, by simp⟩
          · go_wp2
            go_ret
            exact ⟨false, rfl, rfl, by simp⟩
        · go_wp2
          go_ret
          exact ⟨false, rfl, rfl, by simp⟩
  · go_enter Try.func19, Try.ntmps19
    go_wp2
    go_ret
    exact ⟨false, rfl, rfl, by simp⟩
end Go.Proofs.Qxb6618565a
