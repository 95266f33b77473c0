import Derived.Test.Qxb6617385aWalks
import Derived.Test.Qxb6617385aBytes
namespace Go.Proofs.Qxb6617385a
open Go.RowKit Go.Maps

def LawEnd (w : World) (e : Ending) (w' : World) : Prop := e = .returned (.bool true) ∧ Below w.heap.size w w'

theorem inB_mem {x : ByteArray} {l : List ByteArray} (h : x ∈ l) : inB x l = true := by
  unfold inB
  rw [List.any_eq_true]
  exact ⟨x, h, by simp⟩

/-- Every string of the list is short. -/
def AllShort (l : List ByteArray) : Prop := ∀ s ∈ l, s.size ≤ 1048576
theorem AllShort.at {l : List ByteArray} (h : AllShort l) : ∀ k (hk : k < l.length), l[k].size ≤ maxLen := by
  intro k hk
  have := h l[k] (List.getElem_mem hk)
  unfold maxLen
  omega
theorem allShort_of {l : List ByteArray} (h : ShortTo l l.length) : AllShort l := by
  intro s hs
  obtain ⟨k, hk, rfl⟩ := List.getElem_of_mem hs
  exact h k hk hk
theorem AllShort.append {l k : List ByteArray} (h : AllShort l) (h' : AllShort k) : AllShort (l ++ k) := by
  intro s hs
  rcases List.mem_append.1 hs with h1 | h1
  · exact h s h1
  · exact h' s h1

set_option maxRecDepth 100000 in
set_option maxHeartbeats 4000000 in
theorem walkNames (a : Option Addr) (ca : Nat) (A : List ByteArray) (x : ByteArray) (b : Option Addr) (cb : Nat) (B : List ByteArray) (w : World) (hA : A.length ≤ maxLen) (hB : B.length ≤ maxLen) (hx : x.size ≤ maxLen) (ha : StrsL w a A) (hb : StrsL w b B)
    (hsa : ∀ k (hk : k < A.length), A[k].size ≤ maxLen) (hsb : ∀ k (hk : k < B.length), B[k].size ≤ maxLen) :
    Calls Try.prog 5 #[.slice a A.length ca, .string x, .slice b B.length cb] w fun e w' => LawEnd w e w' := by
  go_enter Try.func5, Try.ntmps5
  go_wp2_with fail
  refine (bytes12 a ca A x b cb B w hA hB hx ha hb hsa hsb).mono ?_
  rintro e w' ⟨bb, rfl, rfl, hbb⟩
  cases bb with
  | false =>
    clear ha hb hsa hsb
    go_wp2
    go_ret
    exact ⟨rfl, Below.refl _ _⟩
  | true =>
  obtain ⟨hA1, hB1, hSA, hSB⟩ := hbb rfl
  clear hbb hA hB hsa hsb
  by_cases hA2 : A.length ≤ 4096
  rotate_left
  · clear ha hb hSA hSB
    go_wp2
    go_ret
    exact ⟨rfl, Below.refl _ _⟩
  by_cases hB2 : B.length ≤ 4096
  rotate_left
  · clear ha hb hSA hSB
    go_wp2
    go_ret
    exact ⟨rfl, Below.refl _ _⟩
  by_cases hx1 : x.size ≤ 1048576
  rotate_left
  · have hx' : (x.size : Int) ≤ 9223372036854775807 := by unfold maxLen at hx; omega
    clear ha hb hSA hSB hx
    go_wp2
    go_ret
    exact ⟨rfl, Below.refl _ _⟩
  clear hx hA1 hB1
  have hd0 : decide ((4096 : Int) < (A.length : Int)) = false := decide_eq_false (by omega)
  have hd1 : decide ((4096 : Int) < (B.length : Int)) = false := decide_eq_false (by omega)
  have hd2 : decide ((1048576 : Int) < (x.size : Int)) = false := decide_eq_false (by omega)
  go_wp2_with fail
  clear hd0 hd1 hd2
  go_loop [7, 8] (fun z i => ∃ (k m : Nat), k ≤ A.length ∧ m ≤ 1048576 ∧ i = .int .i64 k ∧ z = .int .i64 m) (fun _ i => A.length - (intOf i).toNat)
  case atStart => exact ⟨0, x.size, Nat.zero_le _, hx1, rfl, rfl⟩
  case round =>
  obtain ⟨k, m, hk, hm, rfl, rfl⟩ := hrel
  by_cases hlt : k < A.length
  · obtain ⟨y, rfl, hc⟩ := ha k hlt
    have hsk := hSA k hlt hlt
    obtain ⟨s, he⟩ : ∃ s, s = A[k] := ⟨_, rfl⟩
    rw [← he] at hc hsk
    clear ha hb hSA hSB he
    by_cases hl2 : m + (16 + s.size) ≤ 1048576
    · go_wp2
      go_round
      case rel => exact ⟨k + 1, m + (16 + s.size), by omega, hl2, by go_num, by go_num⟩
      case measure => simp [intOf]; omega
    · go_wp2
      go_ret
      exact ⟨rfl, Below.refl _ _⟩
  go_wp2_with fail
  clear hk hlt
  go_loop [7, 9] (fun z i => ∃ (k m : Nat), k ≤ B.length ∧ m ≤ 1048576 ∧ i = .int .i64 k ∧ z = .int .i64 m) (fun _ i => B.length - (intOf i).toNat)
  case atStart => exact ⟨0, m, Nat.zero_le _, hm, rfl, rfl⟩
  case round =>
  clear hm
  obtain ⟨j, m2, hk, hm, rfl, rfl⟩ := hrel
  by_cases hlt : j < B.length
  · obtain ⟨y, rfl, hc⟩ := hb j hlt
    have hsk := hSB j hlt hlt
    obtain ⟨s, he⟩ : ∃ s, s = B[j] := ⟨_, rfl⟩
    rw [← he] at hc hsk
    clear ha hb hSA hSB he
    by_cases hl2 : m2 + (16 + s.size) ≤ 1048576
    · go_wp2
      go_round
      case rel => exact ⟨j + 1, m2 + (16 + s.size), by omega, hl2, by go_num, by go_num⟩
      case measure => simp [intOf]; omega
    · go_wp2
      go_ret
      exact ⟨rfl, Below.refl _ _⟩
  go_wp2_with fail
  clear hk hlt hm
  refine (cat_any a none b ca 0 cb A [] B _ hA2 (by simp) hB2 ha (fun k hk => absurd hk (by simp)) hb).mono ?_
  rintro e w1 ⟨a0, c0, rfl, hs0, hBl⟩
  rw [List.append_nil] at hs0 ⊢
  replace ha := ha.later hBl
  replace hb := hb.later hBl
  have HA := allShort_of hSA
  have HB := allShort_of hSB
  have h0short : AllShort (A ++ B) := HA.append HB
  have h1short : AllShort (A ++ [x] ++ B) := (HA.append (fun s hs => by rw [List.mem_singleton.1 hs]; exact hx1)).append HB
  have hcnt := cnt_insert A x B
  have hin1 : inB x (A ++ [x] ++ B) = true := inB_mem (by simp)
  have hall : ∀ s ∈ A ++ B, inB s (A ++ [x] ++ B) = true := by
    intro s hs
    apply inB_mem
    rcases List.mem_append.1 hs with h | h <;> simp [h]
  have h0len : (A ++ B).length ≤ 100000 := by simp; omega
  have h1len : (A ++ [x] ++ B).length ≤ 100000 := by simp; omega
  clear hSA hSB HA HB
  generalize A ++ B = L0 at *
  go_wp2_with fail
  refine (cat_any a (some ⟨w1.heap.size, 0, none⟩) b ca 1 cb A [x] B _ hA2 (by simp) hB2 (ha.later (below_alloc (Below.refl _ _) _)) ?_ (hb.later (below_alloc (Below.refl _ _) _))).mono ?_
  · intro k hk
    obtain rfl : k = 0 := by simpa using hk
    exact ⟨_, rfl, by simp [Addr.add_lit]⟩
  rintro e w2 ⟨a1, c1, rfl, hs1, hB2l⟩
  have hB2' := below_call (below_alloc (Below.refl w1.heap.size w1) (.cells #[.string x] 9)) hB2l
  replace hs0 := hs0.later hB2'
  have hBl2 := below_call hBl hB2'
  clear hB2' hB2l hBl ha hb hA2 hB2
  generalize A ++ [x] ++ B = L1 at *
  go_wp2_with fail
  refine (zznameset_any a0 c0 L0 _ h0len hs0 h0short.at).mono ?_
  rintro e w3 ⟨b0, rfl, hset0, hB3⟩
  replace hs0 := hs0.later hB3
  replace hs1 := hs1.later hB3
  have hBl3 := below_call hBl2 hB3
  clear hB3 hBl2
  go_wp2_with fail
  refine (zznameset_any a1 c1 L1 _ h1len hs1 h1short.at).mono ?_
  rintro e w4 ⟨b1, rfl, hset1, hB4⟩
  replace hs0 := hs0.later hB4
  replace hset0 := hset0.later hB4
  have hBl4 := below_call hBl3 hB4
  clear hB4 hBl3 hs1 h1short
  go_wp2_with fail
  refine (distinct_any a0 c0 L0 _ h0len hs0).mono ?_
  rintro e w5 ⟨rfl, hB5⟩
  replace hs0 := hs0.later hB5
  replace hset0 := hset0.later hB5
  replace hset1 := hset1.later hB5
  have hBl5 := below_call hBl4 hB5
  clear hB5 hBl4
  go_wp2_with fail
  refine (contains_any a0 c0 L0 x _ h0len hs0).mono ?_
  rintro e w' ⟨rfl, rfl⟩
  have hl0 := hset0.len
  have hl1 := hset1.len
  have hk0 := hset0.look x (by unfold maxLen; omega)
  have hk1 := hset1.look x (by unfold maxLen; omega)
  rw [hin1] at hk1
  have hcl := cnt_le L0
  clear hin1
  cases hin : inB x L0
  · have HC : Hid (cnt L1 = cnt L0 + 1) := by rw [hcnt, hin]; exact rfl
    rw [HC.out] at hl1
    rw [hin] at hk0
    clear hcnt hin HC
    go_wp2_with (go_at_call 11; refine (b2i_any _ _).mono ?_; rintro e w' ⟨rfl, rfl⟩)
    clear hk0 hk1 hl0 hl1
    go_loop [16] (fun i => ∃ k : Nat, k ≤ L0.length ∧ i = .int .i64 k) (fun i => L0.length - (intOf i).toNat)
    case atStart => exact ⟨0, Nat.zero_le _, rfl⟩
    case round =>
      obtain ⟨q, hq, rfl⟩ := hrel
      by_cases hlt : q < L0.length
      · obtain ⟨y, rfl, hc⟩ := hs0 q hlt
        have hmem : L0[q] ∈ L0 := List.getElem_mem hlt
        have r0 := hset0.look L0[q] (h0short.at q hlt)
        have r1 := hset1.look L0[q] (h0short.at q hlt)
        rw [inB_mem hmem] at r0
        rw [hall _ hmem] at r1
        obtain ⟨s, he⟩ : ∃ s, s = L0[q] := ⟨_, rfl⟩
        rw [← he] at hc r0 r1
        clear hmem he hs0 hall h0short hset0 hset1
        go_wp2
        go_round
        case rel => exact ⟨q + 1, by omega, by go_num⟩
        case measure => simp [intOf]; omega
      · clear hs0 hall h0short hset0 hset1
        go_wp2
        go_ret
        exact ⟨rfl, hBl5⟩
  · have HC : Hid (cnt L1 = cnt L0 + 0) := by rw [hcnt, hin]; exact rfl
    rw [HC.out] at hl1
    rw [hin] at hk0
    clear hcnt hin HC
    go_wp2_with (go_at_call 11; refine (b2i_any _ _).mono ?_; rintro e w' ⟨rfl, rfl⟩)
    clear hk0 hk1 hl0 hl1
    go_loop [16] (fun i => ∃ k : Nat, k ≤ L0.length ∧ i = .int .i64 k) (fun i => L0.length - (intOf i).toNat)
    case atStart => exact ⟨0, Nat.zero_le _, rfl⟩
    case round =>
      obtain ⟨q, hq, rfl⟩ := hrel
      by_cases hlt : q < L0.length
      · obtain ⟨y, rfl, hc⟩ := hs0 q hlt
        have hmem : L0[q] ∈ L0 := List.getElem_mem hlt
        have r0 := hset0.look L0[q] (h0short.at q hlt)
        have r1 := hset1.look L0[q] (h0short.at q hlt)
        rw [inB_mem hmem] at r0
        rw [hall _ hmem] at r1
        obtain ⟨s, he⟩ : ∃ s, s = L0[q] := ⟨_, rfl⟩
        rw [← he] at hc r0 r1
        clear hmem he hs0 hall h0short hset0 hset1
        go_wp2
        go_round
        case rel => exact ⟨q + 1, by omega, by go_num⟩
        case measure => simp [intOf]; omega
      · clear hs0 hall h0short hset0 hset1
        go_wp2
        go_ret
        exact ⟨rfl, hBl5⟩
end Go.Proofs.Qxb6617385a
