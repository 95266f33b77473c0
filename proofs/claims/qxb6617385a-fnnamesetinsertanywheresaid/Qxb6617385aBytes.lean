import Derived.Test.Qxb6617385aBase
namespace Go.Proofs.Qxb6617385a
open Go.RowKit

/-- The first k strings are short. -/
def ShortTo (l : List ByteArray) (k : Nat) : Prop := ∀ j (h : j < l.length), j < k → l[j].size ≤ 1048576
theorem ShortTo.succ {l : List ByteArray} {k : Nat} (h : ShortTo l k) (hk : k < l.length) (h1 : l[k].size ≤ 1048576) : ShortTo l (k + 1) := by
  intro j hj hjk
  by_cases e : j = k
  · subst e; exact h1
  · exact h j hj (by omega)

def BytesEnd (A B : List ByteArray) (w : World) (e : Ending) (w' : World) : Prop :=
  ∃ bb : Bool, e = .returned (.bool bb) ∧ w' = w ∧ (bb = true → A.length ≤ 1048576 ∧ B.length ≤ 1048576 ∧ ShortTo A A.length ∧ ShortTo B B.length)

set_option maxRecDepth 100000 in
set_option maxHeartbeats 1000000 in
theorem bytes12 (a : Option Addr) (ca : Nat) (A : List ByteArray) (x : ByteArray) (b : Option Addr) (cb : Nat) (B : List ByteArray) (w : World) (hA : A.length ≤ maxLen) (hB : B.length ≤ maxLen) (hx : x.size ≤ maxLen) (ha : StrsL w a A) (hb : StrsL w b B)
    (hsa : ∀ k (hk : k < A.length), A[k].size ≤ maxLen) (hsb : ∀ k (hk : k < B.length), B[k].size ≤ maxLen) :
    Calls Try.prog 12 #[.slice a A.length ca, .string x, .slice b B.length cb] w fun e w' => BytesEnd A B w e w' := by
  unfold maxLen at hA hB hx hsa hsb
  by_cases hn0 : A.length ≤ 1048576
  rotate_left
  · go_enter Try.func12, Try.ntmps12
    go_wp2
    go_ret
    exact ⟨false, rfl, rfl, by simp⟩
  have hd0 : decide ((1048576 : Int) < (A.length : Int)) = false := decide_eq_false (by omega)
  go_enter Try.func12, Try.ntmps12
  go_wp2
  clear hd0
  go_loop [7, 8] (fun z i => ∃ (k m : Nat), k ≤ A.length ∧ m ≤ 1048576 ∧ i = .int .i64 k ∧ z = .int .i64 m ∧ ShortTo A k) (fun _ i => A.length - (intOf i).toNat)
  case atStart => exact ⟨0, A.length, Nat.zero_le _, hn0, rfl, rfl, fun j _ hj => absurd hj (by omega)⟩
  case round =>
  obtain ⟨k, m, hk, hm, rfl, rfl, hsh⟩ := hrel
  by_cases hlt : k < A.length
  · obtain ⟨y, rfl, hc⟩ := ha k hlt
    have hsk := hsa k hlt
    obtain ⟨s, he⟩ : ∃ s, s = A[k] := ⟨_, rfl⟩
    have HS := hsh.succ hlt
    rw [← he] at hc hsk HS
    have HS' : Hid (s.size ≤ 1048576 → ShortTo A (k + 1)) := HS
    clear ha hb hsa hsb he HS
    by_cases hl : s.size ≤ 1048576
    · by_cases hl2 : m + s.size ≤ 1048576
      · go_wp2
        go_round
        case rel => exact ⟨k + 1, m + s.size, by omega, hl2, by go_num, by go_num, HS'.out hl⟩
        case measure => simp [intOf]; omega
      · go_wp2
        go_ret
        exact ⟨false, rfl, rfl, by simp⟩
    · go_wp2
      go_ret
      exact ⟨false, rfl, rfl, by simp⟩
  have hshA : ShortTo A A.length := fun j hj h => hsh j hj (by omega)
  clear ha hsa hsh
  by_cases hx1 : x.size ≤ 1048576
  rotate_left
  · clear hb hsb
    go_wp2
    go_ret
    exact ⟨false, rfl, rfl, by simp⟩
  by_cases hx2 : m + x.size ≤ 1048576
  rotate_left
  · clear hb hsb
    go_wp2
    go_ret
    exact ⟨false, rfl, rfl, by simp⟩
  by_cases hb1 : B.length ≤ 1048576
  rotate_left
  · clear hb hsb
    go_wp2
    go_ret
    exact ⟨false, rfl, rfl, by simp⟩
  by_cases hb2 : m + x.size + B.length ≤ 1048576
  rotate_left
  · clear hb hsb
    go_wp2
    go_ret
    exact ⟨false, rfl, rfl, by simp⟩
  have hd1 : decide ((1048576 : Int) < (x.size : Int)) = false := decide_eq_false (by omega)
  have hd2 : decide ((1048576 : Int) < (m : Int) + (x.size : Int)) = false := decide_eq_false (by omega)
  have hd3 : decide ((1048576 : Int) < (B.length : Int)) = false := decide_eq_false (by omega)
  have hd4 : decide ((1048576 : Int) < (m : Int) + (x.size : Int) + (B.length : Int)) = false := decide_eq_false (by omega)
  go_wp2
  clear hd1 hd2 hd3 hd4
  go_loop [7, 9] (fun z i => ∃ (k m : Nat), k ≤ B.length ∧ m ≤ 1048576 ∧ i = .int .i64 k ∧ z = .int .i64 m ∧ ShortTo B k) (fun _ i => B.length - (intOf i).toNat)
  case atStart => exact ⟨0, m + x.size + B.length, Nat.zero_le _, hb2, rfl, by go_num, fun j _ hj => absurd hj (by omega)⟩
  case round =>
  clear hk hm hlt hx2 hb2
  obtain ⟨k, m, hk, hm, rfl, rfl, hsh⟩ := hrel
  by_cases hlt : k < B.length
  · obtain ⟨y, rfl, hc⟩ := hb k hlt
    have hsk := hsb k hlt
    obtain ⟨s, he⟩ : ∃ s, s = B[k] := ⟨_, rfl⟩
    have HS := hsh.succ hlt
    rw [← he] at hc hsk HS
    have HS' : Hid (s.size ≤ 1048576 → ShortTo B (k + 1)) := HS
    clear hb hsb he HS
    by_cases hl : s.size ≤ 1048576
    · by_cases hl2 : m + s.size ≤ 1048576
      · go_wp2
        go_round
        case rel => exact ⟨k + 1, m + s.size, by omega, hl2, by go_num, by go_num, HS'.out hl⟩
        case measure => simp [intOf]; omega
      · go_wp2
        go_ret
        exact ⟨false, rfl, rfl, by simp⟩
    · go_wp2
      go_ret
      exact ⟨false, rfl, rfl, by simp⟩
  clear hb hsb
  go_wp2
  go_ret
  exact ⟨true, rfl, rfl, fun _ => ⟨hn0, hb1, hshA, fun j hj h => hsh j hj (by omega)⟩⟩
end Go.Proofs.Qxb6617385a
