import Derived.Test.Qxb6618565aFmtReader
import Derived.Test.Qxb6618565aFmtItoa
import Derived.Test.Qxb6618565aFmtPlain
import Derived.Test.Qxb6618565aFmtBytes
import Derived.Deep.QuietTactic
import Derived.BigQuiet
namespace Go.Proofs.Qxb6618565aFmt
open Go.RowKit Go.Extern.Stop Go.Stop Go.Extern Go.Kit

def LawEnd (w : World) (e : Ending) (w' : World) : Prop := e = .returned (.bool true) ∧ Below w.heap.size w w'

theorem answers_later {F : Interp} {w w' : World} {B : Nat} (h : F.answers w.tape) (hb : Below B w w') : F.answers w'.tape := by
  rw [hb.tape]; exact h

theorem wantA (fs : Int) (f : Nat → Int) (s : Nat → ByteArray) (i : Nat) (h : fs ≤ i) :
    (whereText fs f s i == (({ data := #[111, 110, 32, 108, 105, 110, 101, 32] } : ByteArray) ++ ({ data := (Lib.itoa (f i)).toArray } : ByteArray)).toList) = true := by
  unfold whereText
  rw [if_pos h, beq_iff_eq, ByteArray.toList_eq, ByteArray.data_append]
  simp [textA, preB]
theorem wantB (fs : Int) (f : Nat → Int) (s : Nat → ByteArray) (i : Nat) (h : ¬ fs ≤ i) :
    (whereText fs f s i == ((({ data := #[111, 110, 32, 108, 105, 110, 101, 32] } : ByteArray) ++ ({ data := (Lib.itoa (f i)).toArray } : ByteArray)) ++ ({ data := #[32, 111, 102, 32] } : ByteArray) ++ s i).toList) = true := by
  unfold whereText
  rw [if_neg h, beq_iff_eq, ByteArray.toList_eq, ByteArray.data_append, ByteArray.data_append, ByteArray.data_append]
  simp [textB, preB, ofB]
/-- When two events are named alike. -/
def alike (fs : Int) (f : Nat → Int) (s : Nat → ByteArray) (i j : Nat) : Bool := f i == f j && (decide (fs ≤ (i : Int)) == decide (fs ≤ (j : Int))) && (decide (fs ≤ (i : Int)) || (s i).toList == (s j).toList)
theorem whereText_eq (fs : Int) (f : Nat → Int) (s : Nat → ByteArray) (i j : Nat) : (whereText fs f s i == whereText fs f s j) = alike fs f s i j := by
  unfold whereText alike
  rw [Bool.eq_iff_iff, beq_iff_eq]
  by_cases hi : fs ≤ i
  · rw [if_pos hi, decide_eq_true hi]
    by_cases hj : fs ≤ j
    · rw [if_pos hj, decide_eq_true hj, textA_eq]; simp
    · rw [if_neg hj, decide_eq_false hj]; simp [textAB]
  · rw [if_neg hi, decide_eq_false hi]
    by_cases hj : fs ≤ j
    · rw [if_pos hj, decide_eq_true hj]
      simp [Ne.symm (textAB (f j) (f i) (s i).data.toList)]
    · rw [if_neg hj, decide_eq_false hj, textB_eq]
      simp [ByteArray.toList_eq]

set_option maxRecDepth 100000 in
set_option maxHeartbeats 4000000 in
theorem walkWhere (F : Interp) (a0 : Option Addr) (n0 c0 : Nat) (f : Nat → Int) (a1 : Option Addr) (n1 c1 : Nat) (s : Nat → ByteArray) (fs i0 j0 : Int) (w : World) (hF : F.told.answers w.tape) (hm0 : n0 ≤ maxLen) (hm1 : n1 ≤ maxLen)
    (h0 : ∀ k, k < n0 → ∃ x, a0 = some x ∧ w.cell? (x.add k) = some (.int .i64 (f k))) (hf : ∀ k, k < n0 → (Lit.int .i64 (f k)).wf = true)
    (h1 : ∀ k, k < n1 → ∃ x, a1 = some x ∧ w.cell? (x.add k) = some (.string (s k))) (hs : ∀ k, k < n1 → (s k).size ≤ maxLen) :
    Calls Tryf.prog 3 #[.slice a0 n0 c0, .slice a1 n1 c1, .int .i64 fs, .int .i64 i0, .int .i64 j0] w fun e w' => LawEnd w e w' := by
  go_enter Tryf.func3, Tryf.ntmps3
  go_wp2_with fail
  refine (bytes4 a0 n0 c0 a1 n1 c1 s fs i0 j0 w hm0 hm1 h1 hs).mono ?_
  rintro e w' ⟨bb, rfl, rfl, hbb⟩
  cases bb with
  | false =>
    go_wp2
    go_ret
    exact ⟨rfl, Below.refl _ _⟩
  | true =>
  obtain ⟨hb0, hb1, hsh⟩ := hbb rfl
  clear hbb hm0 hm1 hs
  by_cases hsz : 8 * n0 + 16 * n1 ≤ 1048576
  rotate_left
  · clear h0 h1 hf hsh
    go_wp2
    go_ret
    exact ⟨rfl, Below.refl _ _⟩
  have hd0 : decide ((1048576 : Int) < (n0 : Int)) = false := decide_eq_false (by omega)
  have hd1 : decide ((1048576 : Int) < (n1 : Int)) = false := decide_eq_false (by omega)
  have hd2 : decide ((1048576 : Int) < 8 * (n0 : Int) + 16 * (n1 : Int)) = false := decide_eq_false (by omega)
  go_wp2_with fail
  clear hd0 hd1 hd2
  go_loop [11, 12] (fun z i => ∃ (k m : Nat), k ≤ n1 ∧ m ≤ 1048576 ∧ i = .int .i64 k ∧ z = .int .i64 m) (fun _ i => n1 - (intOf i).toNat)
  case atStart => exact ⟨0, 8 * n0 + 16 * n1, Nat.zero_le _, hsz, rfl, by go_num⟩
  case round =>
  obtain ⟨k, m, hk, hm, rfl, rfl⟩ := hrel
  by_cases hlt : k < n1
  · obtain ⟨x, rfl, hx⟩ := h1 k hlt
    have hsk := hsh k hlt
    clear h0 h1 hf hsh
    by_cases hl2 : m + (s k).size ≤ 1048576
    · go_wp2
      go_round
      case rel => exact ⟨k + 1, m + (s k).size, by omega, hl2, by go_num, by go_num⟩
      case measure => simp [intOf]; omega
    · go_wp2
      go_ret
      exact ⟨rfl, Below.refl _ _⟩
  by_cases h12 : n0 = n1
  rotate_left
  · have hne : ((n0 : Int) != (n1 : Int)) = true := by rw [bne_iff_ne]; omega
    clear h0 h1 hf hsh
    go_wp2
    go_ret
    exact ⟨rfl, Below.refl _ _⟩
  subst h12
  by_cases hi0 : 0 ≤ i0
  rotate_left
  · clear h0 h1 hf hsh
    go_wp2
    go_ret
    exact ⟨rfl, Below.refl _ _⟩
  by_cases hi1 : i0 < n0
  rotate_left
  · clear h0 h1 hf hsh
    go_wp2
    go_ret
    exact ⟨rfl, Below.refl _ _⟩
  by_cases hj0 : 0 ≤ j0
  rotate_left
  · clear h0 h1 hf hsh
    go_wp2
    go_ret
    exact ⟨rfl, Below.refl _ _⟩
  by_cases hj1 : j0 < n0
  rotate_left
  · clear h0 h1 hf hsh
    go_wp2
    go_ret
    exact ⟨rfl, Below.refl _ _⟩
  obtain ⟨i, rfl⟩ := Int.eq_ofNat_of_zero_le hi0
  obtain ⟨j, rfl⟩ := Int.eq_ofNat_of_zero_le hj0
  go_wp2_with fail
  clear hk hlt hm hi0 hj0 hsz
  have hi : i < n0 := by omega
  have hj : j < n0 := by omega
  refine (events_any a0 n0 c0 f a1 c1 s _ hb0 h0 h1).mono ?_
  rintro e w1 ⟨g, rfl, hE, hB1⟩
  go_wp2_with fail
  refine (reader_any g n0 fs f s _ hE).mono ?_
  rintro e w2 ⟨br, rfl, hR, hB2⟩
  have hB := below_call hB1 hB2
  clear hB1 hB2 hE
  go_wp2_with fail
  refine (zzwhere_any F br n0 i fs f s _ (answers_later hF hB) hR hi (hf i hi) (hsh i hi)).mono ?_
  rintro e w3 ⟨rfl, hB3⟩
  replace hB := below_call hB hB3
  replace hR := hR.later hB3
  clear hB3
  go_wp2_with fail
  refine (zzwhere_any F br n0 j fs f s _ (answers_later hF hB) hR hj (hf j hj) (hsh j hj)).mono ?_
  rintro e w4 ⟨rfl, hB4⟩
  replace hB := below_call hB hB4
  clear hB4 hR
  obtain ⟨xi, ea, hxi⟩ := h0 i hi
  obtain ⟨xj, eb, hxj⟩ := h0 j hj
  obtain ⟨yi, ec, hyi⟩ := h1 i hi
  obtain ⟨yj, ed, hyj⟩ := h1 j hj
  subst ea
  subst ec
  obtain rfl := Option.some.inj eb
  obtain rfl := Option.some.inj ed
  replace hxi := (hB.cell (cell_lt hxi)).trans hxi
  replace hxj := (hB.cell (cell_lt hxj)).trans hxj
  replace hyi := (hB.cell (cell_lt hyi)).trans hyi
  replace hyj := (hB.cell (cell_lt hyj)).trans hyj
  have hfi := hf i hi
  have hsi := hsh i hi
  have hsj := hsh j hj
  clear h0 h1 hf hsh eb ed
  have hii : (i : Int) < (n0 : Int) := by omega
  have hjj : (j : Int) < (n0 : Int) := by omega
  go_wp2_with fail
  refine (itoa_any _ _ hfi).mono ?_
  rintro e w5 ⟨rfl, hB5⟩
  have hBx := hB5
  replace hxi := (hB5.cell (cell_lt hxi)).trans hxi
  replace hxj := (hB5.cell (cell_lt hxj)).trans hxj
  replace hyi := (hB5.cell (cell_lt hyi)).trans hyi
  replace hyj := (hB5.cell (cell_lt hyj)).trans hyj
  replace hB := below_call hB hB5
  clear hB5 hBx
  have hil := FmtText.itoa_length_le hfi
  by_cases hci : fs ≤ i
  · have hdi : decide (fs ≤ (i : Int)) = true := decide_eq_true hci
    have t1 := wantA fs f s i hci
    by_cases hcj : fs ≤ j
    · have hdj : decide (fs ≤ (j : Int)) = true := decide_eq_true hcj
      by_cases hl : f i = f j
      · have hl' : (f i == f j) = true := beq_iff_eq.2 hl
        have t2 : (whereText fs f s i == whereText fs f s j) = true := by rw [whereText_eq]; simp [alike, *]
        clear hl hci hcj
        go_wp2
        go_quiet (fail)
        go_wp2
        go_ret
        exact ⟨rfl, below_call hB (below_draws _ _)⟩
      · have hl' : (f i == f j) = false := beq_eq_false_iff_ne.2 hl
        have t2 : (whereText fs f s i == whereText fs f s j) = false := by rw [whereText_eq]; simp [alike, *]
        clear hl hci hcj
        go_wp2
        go_quiet (fail)
        go_wp2
        go_ret
        exact ⟨rfl, below_call hB (below_draws _ _)⟩
    · have hdj : decide (fs ≤ (j : Int)) = false := decide_eq_false hcj
      by_cases hl : f i = f j
      · have hl' : (f i == f j) = true := beq_iff_eq.2 hl
        have t2 : (whereText fs f s i == whereText fs f s j) = false := by rw [whereText_eq]; simp [alike, *]
        clear hl hci hcj
        go_wp2
        go_quiet (fail)
        go_wp2
        go_ret
        exact ⟨rfl, below_call hB (below_draws _ _)⟩
      · have hl' : (f i == f j) = false := beq_eq_false_iff_ne.2 hl
        have t2 : (whereText fs f s i == whereText fs f s j) = false := by rw [whereText_eq]; simp [alike, *]
        clear hl hci hcj
        go_wp2
        go_quiet (fail)
        go_wp2
        go_ret
        exact ⟨rfl, below_call hB (below_draws _ _)⟩
  · have hdi : decide (fs ≤ (i : Int)) = false := decide_eq_false hci
    have t1 := wantB fs f s i hci
    by_cases hcj : fs ≤ j
    · have hdj : decide (fs ≤ (j : Int)) = true := decide_eq_true hcj
      by_cases hl : f i = f j
      · have hl' : (f i == f j) = true := beq_iff_eq.2 hl
        have t2 : (whereText fs f s i == whereText fs f s j) = false := by rw [whereText_eq]; simp [alike, *]
        clear hl hci hcj
        go_wp2
        go_quiet (fail)
        go_wp2
        go_ret
        exact ⟨rfl, below_call hB (below_draws _ _)⟩
      · have hl' : (f i == f j) = false := beq_eq_false_iff_ne.2 hl
        have t2 : (whereText fs f s i == whereText fs f s j) = false := by rw [whereText_eq]; simp [alike, *]
        clear hl hci hcj
        go_wp2
        go_quiet (fail)
        go_wp2
        go_ret
        exact ⟨rfl, below_call hB (below_draws _ _)⟩
    · have hdj : decide (fs ≤ (j : Int)) = false := decide_eq_false hcj
      by_cases hl : f i = f j
      · have hl' : (f i == f j) = true := beq_iff_eq.2 hl
        by_cases hss : (s i).toList = (s j).toList
        · have hss' : ((s i).toList == (s j).toList) = true := beq_iff_eq.2 hss
          have t2 : (whereText fs f s i == whereText fs f s j) = true := by rw [whereText_eq]; simp [alike, *]
          clear hl hci hcj hss
          go_wp2
          go_quiet (fail)
          go_wp2
          go_ret
          exact ⟨rfl, below_call hB (below_draws _ _)⟩
        · have hss' : ((s i).toList == (s j).toList) = false := beq_eq_false_iff_ne.2 hss
          have t2 : (whereText fs f s i == whereText fs f s j) = false := by rw [whereText_eq]; simp [alike, *]
          clear hl hci hcj hss
          go_wp2
          go_quiet (fail)
          go_wp2
          go_ret
          exact ⟨rfl, below_call hB (below_draws _ _)⟩
      · have hl' : (f i == f j) = false := beq_eq_false_iff_ne.2 hl
        have t2 : (whereText fs f s i == whereText fs f s j) = false := by rw [whereText_eq]; simp [alike, *]
        clear hl hci hcj
        go_wp2
        go_quiet (fail)
        go_wp2
        go_ret
        exact ⟨rfl, below_call hB (below_draws _ _)⟩
end Go.Proofs.Qxb6618565aFmt
