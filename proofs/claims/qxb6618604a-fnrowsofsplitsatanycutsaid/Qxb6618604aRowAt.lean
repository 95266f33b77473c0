import Derived.Test.Qxb6618604aTotal
namespace Go.Proofs.Qxb6618604a
open Go.RowKit Go.Shelf

/-- zzRowAt AT A POSITION OF THE LISTING: the run that holds it, the index there. -/
def RowAtEnd (L H : Nat → Int) (n t : Nat) (w : World) (e : Ending) (w' : World) : Prop :=
  Below w.heap.size w w' ∧ ∃ j, j < n ∧ total L H j ≤ t ∧ t < total L H (j + 1) ∧ e = .returned (.tuple #[.int .i64 (j : Int), .int .i64 (L j + ((t - total L H j : Nat) : Int)), .bool true])

set_option maxRecDepth 100000 in
set_option maxHeartbeats 2000000 in
theorem rowAt_any (a1 a2 : Option Addr) (c1 c2 n t : Nat) (L H : Nat → Int) (w : World) (hn : n ≤ 32768) (h1 : IntsAt .i64 w a1 n L) (h2 : IntsAt .i64 w a2 n H) (wl : ∀ j, j < n → I64 (L j)) (wh : ∀ j, j < n → I64 (H j)) (ht : t < total L H n) (hm : total L H n ≤ 65536) :
    Calls Try.prog 15 #[.slice a1 n c1, .slice a2 n c2, .int .i64 (t : Int)] w fun e w' => RowAtEnd L H n t w e w' := by
  go_enter Try.func15, Try.ntmps15
  go_wp2
  go_loopw [9, 10, 11] (fun r i _ wr => ∃ k m : Nat, k ≤ n ∧ i = .int .i64 k ∧ r = .int .i64 m ∧ m + total L H k = t ∧ Below w.heap.size w wr) (fun _ i _ _ => n - (intOf i).toNat)
  case atStart => exact ⟨0, t, Nat.zero_le _, rfl, rfl, rfl, Below.refl _ _⟩
  case round =>
  obtain ⟨k, m, hk, rfl, rfl, hmt, hB⟩ := hrel
  by_cases hlt : k < n
  · obtain ⟨x1, rfl, d1⟩ := h1 k hlt
    obtain ⟨x2, rfl, d2⟩ := h2 k hlt
    replace d1 := (hB.cell (cell_lt d1)).trans d1
    replace d2 := (hB.cell (cell_lt d2)).trans d2
    have hlt' : (k : Int) < (n : Int) := by omega
    obtain ⟨wl1, wl2⟩ := wl k hlt
    obtain ⟨wh1, wh2⟩ := wh k hlt
    have hmono := total_mono L H (show k + 1 ≤ n from hlt)
    have hsucc : total L H (k + 1) = total L H k + (H k - L k).toNat := rfl
    have HF : Hid (∀ m' : Nat, m' = m → m' < (H k - L k).toNat → ∃ j, j < n ∧ total L H j ≤ t ∧ t < total L H (j + 1) ∧ Ending.returned (.tuple #[.int .i64 (k : Int), .int .i64 (L k + (m' : Int)), .bool true]) = .returned (.tuple #[.int .i64 (j : Int), .int .i64 (L j + ((t - total L H j : Nat) : Int)), .bool true])) := by
      intro m' e hm'
      subst e
      refine ⟨k, hlt, by omega, by omega, ?_⟩
      rw [show t - total L H k = m' by omega]
    have HG : Hid (∀ d : Nat, d = (H k - L k).toNat → d ≤ m → m - d + total L H (k + 1) = t) := by
      intro d hd hdm
      rw [hsucc]
      omega
    have hb : (H k - L k).toNat ≤ 65536 := by omega
    have hm6 : m ≤ 65536 := by have := total_mono L H hk; omega
    clear h1 h2 wl wh hmono hsucc
    generalize L k = lk at *
    generalize H k = hk' at *
    by_cases hc : hk' ≤ lk
    · have hct : decide (hk' ≤ lk) = true := decide_eq_true hc
      go_wp2
      go_quiet (fail)
      go_wp2
      go_roundw
      case rel => exact ⟨k + 1, m, by omega, by go_num, rfl, by have := HG.out 0 (by omega) (by omega); omega, below_call hB (below_draws _ _)⟩
      case measure => simp [intOf]; omega
    · have hct : decide (hk' ≤ lk) = false := decide_eq_false hc
      have hsb : IntKind.i64.wrap (hk' - lk) = hk' - lk := by rw [IntKind.wrap_i64]; omega
      obtain ⟨d, hd⟩ : ∃ d : Nat, hk' - lk = d := ⟨(hk' - lk).toNat, by omega⟩
      have hdd : (hk' - lk).toNat = d := by omega
      rw [hd] at hsb
      by_cases hin : m < d
      · have hind : decide ((m : Int) < (d : Int)) = true := decide_eq_true (by omega)
        have had : IntKind.i64.wrap (lk + m) = lk + m := by rw [IntKind.wrap_i64]; omega
        have F1 := HF.out m rfl (by omega)
        have HF1 : Hid _ := F1
        clear F1 HF HG hd
        go_wp2
        go_quiet (fail)
        go_wp2
        go_quiet (fail)
        go_wp2
        go_quiet (fail)
        go_wp2
        exact bodyPost_ret (v := .tuple #[.int .i64 (k : Int), .int .i64 (lk + m), .bool true]) (by simp [results, Try.results15]) rfl ⟨below_call (below_call hB (below_draws _ _)) (below_draws _ _), HF1.out⟩
      · have hind : decide ((m : Int) < (d : Int)) = false := decide_eq_false (by omega)
        have G1 := HG.out d (by omega) (by omega)
        have HG1 : Hid _ := G1
        clear G1 HF HG hd
        go_wp2
        go_quiet (fail)
        go_wp2
        go_quiet (fail)
        go_wp2
        go_roundw
        case rel => exact ⟨k + 1, m - d, by omega, by go_num, by go_num, HG1.out, below_call hB (below_draws _ _)⟩
        case measure => simp [intOf]; omega
  · obtain rfl : k = n := by omega
    omega

end Go.Proofs.Qxb6618604a
