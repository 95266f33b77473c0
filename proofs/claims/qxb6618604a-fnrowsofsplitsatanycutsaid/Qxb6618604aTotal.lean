import Derived.Test.Qxb6618604aZZBase
namespace Go.Proofs.Qxb6618604a
open Go.RowKit Go.Shelf

theorem below_call {w X W : World} (h : Below w.heap.size w X) (k : Below X.heap.size X W) : Below w.heap.size w W := h.trans (k.mono h.size)
theorem below_draws (w : World) (n : Nat) : Below w.heap.size w (w.drewN n) := ⟨rfl, rfl, rfl, Nat.le_refl _, fun _ _ => rfl⟩
theorem below_alloc {w W : World} (h : Below w.heap.size w W) (o : Obj) : Below w.heap.size w (W.alloc o) := h.alloc h.size o

/-- HOW MANY ROWS THE FIRST k RUNS HOLD. -/
def total (L H : Nat → Int) : Nat → Nat
  | 0 => 0
  | k + 1 => total L H k + (H k - L k).toNat
theorem total_mono (L H : Nat → Int) {j k : Nat} (h : j ≤ k) : total L H j ≤ total L H k := by
  induction k with
  | zero => obtain rfl : j = 0 := by omega
            exact Nat.le_refl _
  | succ k ih =>
    by_cases e : j = k + 1
    · subst e; exact Nat.le_refl _
    · exact Nat.le_trans (ih (by omega)) (by simp [total])

def I64 (z : Int) : Prop := -9223372036854775808 ≤ z ∧ z < 9223372036854775808

theorem u64_sub {a b : Int} (ha : I64 a) (hb : I64 b) (h : b < a) : IntKind.u64.wrap (IntKind.u64.wrap a - IntKind.u64.wrap b) = a - b := by
  obtain ⟨a1, a2⟩ := ha
  obtain ⟨b1, b2⟩ := hb
  have e : ∀ z : Int, IntKind.u64.wrap z = z % 18446744073709551616 := fun z => rfl
  rw [e, e, e]
  omega

def TotalEnd (L H : Nat → Int) (n : Nat) (w : World) (e : Ending) (w' : World) : Prop :=
  Below w.heap.size w w' ∧ (e = .returned (.tuple #[.int .i64 0, .bool false]) ∨ (total L H n ≤ 65536 ∧ e = .returned (.tuple #[.int .i64 (total L H n : Int), .bool true])))

set_option maxRecDepth 100000 in
set_option maxHeartbeats 2000000 in
theorem total_any (a1 a2 : Option Addr) (c1 c2 n : Nat) (L H : Nat → Int) (w : World) (hn : n ≤ 32768) (h1 : IntsAt .i64 w a1 n L) (h2 : IntsAt .i64 w a2 n H) (wl : ∀ j, j < n → I64 (L j)) (wh : ∀ j, j < n → I64 (H j)) :
    Calls Try.prog 12 #[.slice a1 n c1, .slice a2 n c2] w fun e w' => TotalEnd L H n w e w' := by
  go_enter Try.func12, Try.ntmps12
  go_wp2
  go_loopw [6, 7, 8] (fun t i _ wr => ∃ k m : Nat, k ≤ n ∧ i = .int .i64 k ∧ t = .int .i64 m ∧ (m = total L H k ∧ m ≤ 65536) ∧ Below w.heap.size w wr) (fun _ i _ _ => n - (intOf i).toNat)
  case atStart => exact ⟨0, 0, Nat.zero_le _, rfl, rfl, ⟨rfl, by omega⟩, Below.refl _ _⟩
  case round =>
  obtain ⟨k, m, hk, rfl, rfl, ⟨hm, hm'⟩, hB⟩ := hrel
  by_cases hlt : k < n
  · obtain ⟨x1, rfl, d1⟩ := h1 k hlt
    obtain ⟨x2, rfl, d2⟩ := h2 k hlt
    replace d1 := (hB.cell (cell_lt d1)).trans d1
    replace d2 := (hB.cell (cell_lt d2)).trans d2
    have hlt' : (k : Int) < (n : Int) := by omega
    obtain ⟨wl1, wl2⟩ := wl k hlt
    obtain ⟨wh1, wh2⟩ := wh k hlt
    have HM : Hid (m = total L H k) := hm
    have HT : Hid (total L H (k + 1) = total L H k + (H k - L k).toNat) := rfl
    have hsub := u64_sub (wh k hlt) (wl k hlt)
    generalize L k = lk at *
    generalize H k = hk' at *
    clear h1 h2 wl wh hm
    by_cases hc : lk < hk'
    · replace hsub := hsub hc
      obtain ⟨d, hd⟩ : ∃ d : Nat, hk' - lk = d := ⟨(hk' - lk).toNat, by omega⟩
      rw [hd] at hsub
      have HT' : Hid (total L H (k + 1) = total L H k + d) := by have := HT.out; rw [hd] at this; exact this
      clear HT hd
      by_cases hd : d ≤ 65536
      · have hd1 : decide ((65536 : Int) < (d : Int)) = false := decide_eq_false (by omega)
        have hcv : IntKind.i64.wrap (d : Int) = d := by have : ∀ z : Int, 0 ≤ z → z < 9223372036854775808 → IntKind.i64.wrap z = z := (fun z h0 h1 => by rw [IntKind.wrap_i64]; omega); exact this d (by omega) (by omega)
        by_cases hs : m + d ≤ 65536
        · have hs1 : decide ((65536 : Int) < (m : Int) + (d : Int)) = false := decide_eq_false (by omega)
          go_wp2
          go_quiet (fail)
          go_wp2
          go_quiet (fail)
          go_wp2
          go_roundw
          case rel => exact ⟨k + 1, m + d, by omega, by go_num, by go_num, ⟨by rw [HT'.out, HM.out], hs⟩, below_call hB (below_draws _ _)⟩
          case measure => simp [intOf]; omega
        · have hs1 : decide ((65536 : Int) < (m : Int) + (d : Int)) = true := decide_eq_true (by omega)
          go_wp2
          go_quiet (fail)
          go_wp2
          go_quiet (fail)
          go_wp2
          exact bodyPost_ret (results_tmp2 rfl _ _ _) rfl ⟨below_call hB (below_draws _ _), .inl rfl⟩
      · have hd1 : decide ((65536 : Int) < (d : Int)) = true := decide_eq_true (by omega)
        go_wp2
        go_quiet (fail)
        go_wp2
        go_quiet (fail)
        go_wp2
        exact bodyPost_ret (results_tmp2 rfl _ _ _) rfl ⟨below_call hB (below_draws _ _), .inl rfl⟩
    · have hct : decide (hk' > lk) = false := decide_eq_false (by omega)
      go_wp2
      go_quiet (fail)
      go_wp2
      go_roundw
      case rel => exact ⟨k + 1, m, by omega, by go_num, rfl, ⟨by rw [HT.out, HM.out]; omega, hm'⟩, below_call hB (below_draws _ _)⟩
      case measure => simp [intOf]; omega
  · obtain rfl : k = n := by omega
    clear h1 h2
    go_wp2
    exact bodyPost_ret (results_tmp2 rfl _ _ _) rfl ⟨hB, .inr ⟨by omega, by rw [hm]; rfl⟩⟩

end Go.Proofs.Qxb6618604a
