import Derived.Test.Qxb6617385aSet
namespace Go.Proofs.Qxb6617385a
open Go.RowKit Go.Maps

theorem mk26 (n : Int) (w : World) : (Instr.makeMap 26 (some (.int .i64 n))).run Try.prog w = .ok (.map (some w.heap.size)) (w.alloc (.map #[] 0)) := by
  simp [Instr.makeMap, run_underlying Try.underlying26, asInt, asIntOf, newObj]
  rfl

def SetEnd (w : World) (l : List ByteArray) (e : Ending) (w' : World) : Prop := ∃ b : Nat, e = .returned (.map (some b)) ∧ SetAt w' b l ∧ Below w.heap.size w w'

set_option maxRecDepth 100000 in
set_option maxHeartbeats 400000 in
theorem nameset_any (a : Option Addr) (c : Nat) (l : List ByteArray) (w : World) (hl : l.length ≤ 100000) (h : StrsL w a l) (hs : ∀ k (hk : k < l.length), l[k].size ≤ maxLen) :
    Calls Try.prog 17 #[.slice a l.length c] w fun e w' => SetEnd w l e w' := by
  have hmk := mk26
  go_enter Try.func17, Try.ntmps17
  go_wp2
  go_loopw [5, 11] (fun _ i wr => ∃ (k : Nat) (m : List ByteArray), k ≤ l.length ∧ i = .int .i64 k ∧ m = l.take k ∧ SetAt wr w.heap.size m ∧ Below w.heap.size w wr) (fun _ i _ => l.length - (intOf i).toNat)
  case atStart => exact ⟨0, [], Nat.zero_le _, rfl, by simp, World.ownsMap_made _ _ _ _, (Below.refl _ _).alloc (Nat.le_refl _) _⟩
  case round =>
    obtain ⟨k, m, hk, rfl, hm, hown, hB⟩ := hrel
    by_cases hlt : k < l.length
    · obtain ⟨x, rfl, hc⟩ := h k hlt
      replace hc := (hB.cell (cell_lt hc)).trans hc
      have hsk := hs k hlt
      obtain ⟨s, he⟩ : ∃ s, s = l[k] := ⟨_, rfl⟩
      rw [← he] at hc hsk
      have HS : Hid (s = l[k]) := he
      have HM : Hid (m = l.take k) := hm
      have hmn : m.length < maxLen := by rw [hm]; unfold maxLen; simp; omega
      clear he hm h hs hmk
      go_wp2_with (at_mapUpdate; refine wpList_mapUpdate_own _ rfl _ _ _ 26 rfl 9 4 keyLaw Try.underlying26 _ w.heap.size m.length _ rfl hown hmn _ _ _ rfl rfl (WideMaps.keyOf_string_mk Try.underlying9 hsk) _ [] (plainElem_bool Try.underlying4 true) ?_)
      intro w1 hown1 hgrow1
      have R : SetAt w1 w.heap.size (m ++ [s]) := by
        unfold SetAt
        rw [setD_snoc]
        unfold key
        simpa using hown1
      have hB1 : Below w.heap.size w w1 := hB.grown hgrow1 hB.size (fun j hj => by cases hj; exact Nat.le_refl _)
      clear hown1 hgrow1 hown hmn
      go_wp2
      go_roundw
      case rel => exact ⟨k + 1, m ++ [s], by omega, by go_num, by rw [HM.out, HS.out, take_snoc _ _ hlt], R, hB1⟩
      case measure => simp [intOf]; omega
    · have HM : Hid (m = l) := by rw [hm, List.take_of_length_le (by omega)]; exact rfl
      clear hm h hs hmk
      go_wp2
      go_ret
      exact ⟨_, rfl, by rw [← HM.out]; exact hown, hB⟩

set_option maxRecDepth 100000 in
theorem zznameset_any (a : Option Addr) (c : Nat) (l : List ByteArray) (w : World) (hl : l.length ≤ 100000) (h : StrsL w a l) (hs : ∀ k (hk : k < l.length), l[k].size ≤ maxLen) :
    Calls Try.prog 10 #[.slice a l.length c] w fun e w' => SetEnd w l e w' := by
  go_enter Try.func10, Try.ntmps10
  go_wp2_with (go_at_call 17; refine (nameset_any a c l _ hl h hs).mono ?_; rintro e w' ⟨b, rfl, h1, h2⟩)
  go_ret
  exact ⟨b, rfl, h1, h2⟩

set_option maxRecDepth 100000 in
theorem b2i_any (b : Bool) (w : World) : Calls Try.prog 11 #[.bool b] w fun e w' => e = .returned (.int .i64 (if b then 1 else 0)) ∧ w' = w := by
  cases b
  · go_enter Try.func11, Try.ntmps11
    go_wp2
    go_ret
    exact ⟨rfl, rfl⟩
  · go_enter Try.func11, Try.ntmps11
    go_wp2
    go_ret
    exact ⟨rfl, rfl⟩

theorem eq_toList (a b : ByteArray) : (a.toList == b.toList) = decide (a = b) := by
  rw [ByteArray.toList_eq, ByteArray.toList_eq, Bool.eq_iff_iff, beq_iff_eq, decide_eq_true_eq]
  exact ⟨WideShapes.bytes_inj, fun h => by rw [h]⟩

theorem inB_take (x : ByteArray) (l : List ByteArray) (k : Nat) (h : k < l.length) : inB x (l.take (k + 1)) = (inB x (l.take k) || decide (l[k] = x)) := by rw [take_snoc l k h, inB_snoc]

set_option maxRecDepth 100000 in
set_option maxHeartbeats 400000 in
theorem contains_any (a : Option Addr) (c : Nat) (l : List ByteArray) (x : ByteArray) (w : World) (hl : l.length ≤ 100000) (h : StrsL w a l) :
    Calls Try.prog 15 #[.slice a l.length c, .string x] w fun e w' => e = .returned (.bool (inB x l)) ∧ w = w' := by
  go_enter Try.func15, Try.ntmps15
  go_wp2
  go_loop [5] (fun i => ∃ k : Nat, k ≤ l.length ∧ i = .int .i64 k ∧ Hid (inB x (l.take k) = false)) (fun i => l.length - (intOf i).toNat)
  case atStart => exact ⟨0, Nat.zero_le _, rfl, rfl⟩
  case round =>
    obtain ⟨k, hk, rfl, HN⟩ := hrel
    by_cases hlt : k < l.length
    · obtain ⟨y, rfl, hc⟩ := h k hlt
      have HT := inB_take x l k hlt
      obtain ⟨s, he⟩ : ∃ s, s = l[k] := ⟨_, rfl⟩
      rw [← he] at hc HT
      rw [HN.out, Bool.false_or] at HT
      by_cases hsx : s = x
      · have hb : (s.toList == x.toList) = true := by rw [eq_toList, decide_eq_true hsx]
        have HR : Hid (inB x l = true) := by
          rw [decide_eq_true hsx] at HT
          have : inB x l = (inB x (l.take (k + 1)) || inB x (l.drop (k + 1))) := by rw [← inB_append, List.take_append_drop]
          rw [this, HT]
          rfl
        clear HT h hsx he HN
        go_wp2
        go_ret
        exact ⟨by rw [HR.out]; rfl, rfl⟩
      · have hb : (s.toList == x.toList) = false := by rw [eq_toList, decide_eq_false hsx]
        have HR : Hid (inB x (l.take (k + 1)) = false) := by rw [HT, decide_eq_false hsx]; exact rfl
        clear HT h hsx he HN
        go_wp2
        go_round
        case rel => exact ⟨k + 1, by omega, by go_num, HR⟩
        case measure => simp [intOf]; omega
    · have HR : Hid (inB x l = false) := by
        have := HN.out
        rwa [List.take_of_length_le (by omega)] at this
      clear HN h
      go_wp2
      go_ret
      exact ⟨by rw [HR.out]; rfl, rfl⟩

theorem inB_take_le (x : ByteArray) (l : List ByteArray) {m k : Nat} (h : m ≤ k) (ht : inB x (l.take m) = true) : inB x (l.take k) = true := by
  have e : l.take k = l.take m ++ (l.take k).drop m := by
    have := List.take_append_drop m (l.take k)
    rw [List.take_take, Nat.min_eq_left h] at this
    exact this.symm
  rw [e, inB_append, ht]
  rfl

def CountEnd (w : World) (l : List ByteArray) (e : Ending) (w' : World) : Prop := e = .returned (.int .i64 (cnt l)) ∧ Below w.heap.size w w'

theorem cnt_take (l : List ByteArray) (k : Nat) (h : k < l.length) : cnt (l.take (k + 1)) = cnt (l.take k) + if inB l[k] (l.take k) then 0 else 1 := by rw [take_snoc l k h, cnt_snoc]

set_option maxRecDepth 100000 in
set_option maxHeartbeats 1000000 in
theorem distinct_any (a : Option Addr) (c : Nat) (l : List ByteArray) (w : World) (hl : l.length ≤ 100000) (h : StrsL w a l) :
    Calls Try.prog 14 #[.slice a l.length c] w fun e w' => CountEnd w l e w' := by
  go_enter Try.func14, Try.ntmps14
  go_wp2
  go_loopw [3, 4] (fun z i wr => ∃ k q : Nat, k ≤ l.length ∧ q ≤ l.length ∧ i = .int .i64 k ∧ z = .int .i64 q ∧ Hid (q = cnt (l.take k)) ∧ Below w.heap.size w wr) (fun _ i _ => l.length - (intOf i).toNat)
  case atStart => exact ⟨0, 0, Nat.zero_le _, Nat.zero_le _, rfl, rfl, rfl, Below.refl _ _⟩
  case round =>
    obtain ⟨k, q, hk, hq, rfl, rfl, HQ, hB⟩ := hrel
    by_cases hlt : k < l.length
    · obtain ⟨x, rfl, hc⟩ := h k hlt
      have HC : Hid (cnt (l.take (k + 1)) = cnt (l.take k) + if inB l[k] (l.take k) then 0 else 1) := cnt_take l k hlt
      have hqk : q ≤ k := by
        have h1 := cnt_le (l.take k)
        rw [← HQ.out] at h1
        simp at h1
        omega
      obtain ⟨s, he⟩ : ∃ s, s = l[k] := ⟨_, rfl⟩
      rw [← he] at hc
      have HS : Hid (s = l[k]) := he
      clear he
      go_wp2
      go_loopw [5, 6] (fun z j wq => ∃ m : Nat, m ≤ k ∧ j = .int .i64 m ∧ z = .bool false ∧ Hid (inB s (l.take m) = false) ∧ Below w.heap.size w wq) (fun _ j _ => k - (intOf j).toNat)
      case atStart => exact ⟨0, Nat.zero_le _, rfl, rfl, rfl, hB⟩
      case round =>
        clear hB
        obtain ⟨m, hm, rfl, rfl, HN, hB⟩ := hrel
        by_cases hmk : m < k
        · obtain ⟨y, hy, hd⟩ := h m (by omega)
          obtain rfl := Option.some.inj hy
          have hc' := (hB.cell (cell_lt hc)).trans hc
          have hd' := (hB.cell (cell_lt hd)).trans hd
          have HT := inB_take s l m (by omega)
          obtain ⟨t, he⟩ : ∃ t, t = l[m] := ⟨_, rfl⟩
          rw [← he] at hd' HT
          rw [HN.out, Bool.false_or] at HT
          have hkl : (k : Int) < (l.length : Int) := by omega
          have hml : (m : Int) < (l.length : Int) := by omega
          by_cases hts : t = s
          · have hb : (t.toList == s.toList) = true := by rw [eq_toList, decide_eq_true hts]
            have HR : Hid (inB s (l.take k) = true) := by
              rw [decide_eq_true hts] at HT
              exact inB_take_le s l (by omega) HT
            clear HT h hts he HN hc hd hy
            go_wp2
            go_quiet (fail)
            go_wp2
            go_roundw
            case rel =>
              refine ⟨k + 1, q, by omega, by omega, by go_num, rfl, ?_, below_call hB (below_draws _ _)⟩
              have e := HC.out
              rw [← HS.out, HR.out, ← HQ.out] at e
              exact e.symm
            case measure => simp [intOf]; omega
          · have hb : (t.toList == s.toList) = false := by rw [eq_toList, decide_eq_false hts]
            have HR : Hid (inB s (l.take (m + 1)) = false) := by rw [HT, decide_eq_false hts]; exact rfl
            clear HT h hts he HN hc hd hy
            go_wp2
            go_quiet (fail)
            go_wp2
            go_roundw
            case rel => exact ⟨m + 1, by omega, by go_num, rfl, HR, below_call hB (below_draws _ _)⟩
            case measure => simp [intOf]; omega
        · obtain rfl : m = k := by omega
          clear h hc
          go_wp2
          go_roundw
          case rel =>
            refine ⟨m + 1, q + 1, by omega, by omega, by go_num, by go_num, ?_, hB⟩
            have e := HC.out
            rw [← HS.out, HN.out, ← HQ.out] at e
            exact e.symm
          case measure => simp [intOf]; omega
    · have HR : Hid (q = cnt l) := by
        have := HQ.out
        rwa [List.take_of_length_le (by omega)] at this
      clear h HQ
      go_wp2
      go_ret
      exact ⟨by rw [← HR.out]; rfl, hB⟩
end Go.Proofs.Qxb6617385a
