import Derived.Test.Qxb6618565aFmtWhere
import Derived.Test.Qxb6618565aFmtNot
import Derived.Lib.ItoaNum
import Derived.Laws.IdiomStrings
import Derived.OpenShut
namespace Go.Proofs.Qxb6618565aFmt
open Go.RowKit

/-- The digits of u; none of nought. -/
def digs (u : Nat) : List UInt8 := if u = 0 then [] else Lib.decDigits u

theorem digs_step (u : Nat) (h : 0 < u) : digs u = digs (u / 10) ++ [UInt8.ofNat (48 + u % 10)] := by
  unfold digs
  rw [if_neg (by omega)]
  by_cases h10 : u < 10
  · rw [if_pos (by omega), Lib.decDigits, dif_pos h10]
    simp [Nat.mod_eq_of_lt h10]
  · rw [if_neg (by omega), Lib.decDigits, dif_neg h10]

/-- Where the loop of zzItoa stands: u is left, the digits from place k on are laid. -/
structure DigsAt (U : Nat) (w : World) (wr : World) (u k : Nat) : Prop where
  lo : 4 ≤ k
  hi : k ≤ 24
  left : u < 10 ^ (k - 4)
  full : k = 24 → u = U
  row : ∃ F, wr.rowIs w.heap.size 45 24 F
  digits : ∃ L : List UInt8, L.length = 24 - k ∧ digs U = digs u ++ L ∧ ∀ j (hj : j < L.length), wr.cell? ⟨w.heap.size, k + j, none⟩ = some (.int .u8 (L[j].toNat : Int))
  old : Below w.heap.size w wr

theorem digsAt_start (U : Nat) (w : World) (c : Array Value) (hc : c.size = 24) (hU : U < 10 ^ 20) : DigsAt U w (w.alloc (.cells c 45)) U 24 :=
  ⟨by omega, by omega, hU, fun _ => rfl, row_alloc w c 45 24 hc, ⟨[], rfl, by simp, fun j hj => absurd hj (by simp)⟩, (Below.refl _ _).alloc (Nat.le_refl _) _⟩

theorem pow_pos_of (u k : Nat) (h : u < 10 ^ (k - 4)) (hu : 0 < u) (hk : 4 ≤ k) : 5 ≤ k := by
  apply Decidable.byContradiction
  intro hn
  have : k - 4 = 0 := by omega
  rw [this] at h
  omega

theorem digsAt_step {U : Nat} {w wr : World} {u k : Nat} (h : DigsAt U w wr u (k + 1)) (hu : 0 < u) (d : Int) (hd : d = ((UInt8.ofNat (48 + u % 10)).toNat : Int)) :
    DigsAt U w (wr.setCell ⟨w.heap.size, k, none⟩ (.int .u8 d)) (u / 10) k := by
  have h5 := pow_pos_of u (k + 1) h.left hu h.lo
  obtain ⟨F, hF⟩ := h.row
  obtain ⟨L, hL, hD, hc⟩ := h.digits
  have hhi := h.hi
  refine ⟨by omega, by omega, ?_, fun e => by omega, ⟨_, hF.set k (.int .u8 d)⟩, ⟨UInt8.ofNat (48 + u % 10) :: L, by simp [hL]; omega, ?_, ?_⟩, h.old.setCell (Nat.le_refl _) _⟩
  · have hl := h.left
    have e : k + 1 - 4 = (k - 4) + 1 := by omega
    rw [e, Nat.pow_succ] at hl
    omega
  · rw [hD, digs_step u hu]
    simp
  · intro j hj
    match j, hj with
    | 0, _ =>
      have := (hF.set k (.int .u8 d)).cell (i := k) (by omega)
      simp only [if_true] at this
      simp only [Nat.add_zero, List.getElem_cons_zero]
      rw [this, hd]
    | j + 1, hj =>
      have hj' : j < L.length := by simpa using hj
      have e : (⟨w.heap.size, k + (j + 1), none⟩ : Addr) = ⟨w.heap.size, k + 1 + j, none⟩ := by congr 1; omega
      simp only [List.getElem_cons_succ]
      rw [e, World.cell?_setCell_other _ _ _ _ (by intro h; injection h; omega)]
      exact hc j hj'

theorem digit_eq (u : Nat) : (48 : Int) + (u : Int) % 10 = ((UInt8.ofNat (48 + u % 10)).toNat : Int) := by
  have : (UInt8.ofNat (48 + u % 10)).toNat = 48 + u % 10 := by
    rw [UInt8.toNat_ofNat']
    omega
  rw [this]
  omega

set_option maxRecDepth 100000 in
set_option maxHeartbeats 400000 in
theorem itoa_pos (n : Int) (w : World) (h0 : 0 < n) (h1 : n ≤ 9223372036854775807) :
    Calls Tryf.prog 8 #[.int .i64 n] w fun e w' => LineEnd w (Lib.itoa n) e w' := by
  obtain ⟨U, rfl⟩ := Int.eq_ofNat_of_zero_le (Int.le_of_lt h0)
  have hd0 : decide ((U : Int) < 0) = false := decide_eq_false (by omega)
  have hd1 : ((U : Int) == 0) = false := beq_eq_false_iff_ne.2 (by omega)
  go_enter Tryf.func8, Tryf.ntmps8
  go_wp2
  clear hd0 hd1
  go_loopw [3, 6] (fun z i wr => ∃ u k : Nat, z = .int .u64 u ∧ i = .int .i64 k ∧ u ≤ U ∧ DigsAt U w wr u k) (fun z _ _ => (intOf z).toNat)
  case atStart => exact ⟨U, 24, rfl, rfl, Nat.le_refl _, digsAt_start U w _ rfl (by omega)⟩
  case round =>
    obtain ⟨u, k, rfl, rfl, huU, hD⟩ := hrel
    by_cases hu : 0 < u
    · have h5 := pow_pos_of u k hD.left hu hD.lo
      obtain ⟨k, rfl⟩ : ∃ j, k = j + 1 := ⟨k - 1, by omega⟩
      have hk := hD.hi
      obtain ⟨F, hF⟩ := hD.row
      have hc := hF.cell (i := k) (by omega)
      have hf := hF.frozen k
      clear hF
      go_wp2
      go_roundw
      case rel => exact ⟨u / 10, k, by go_num, rfl, by omega, digsAt_step hD hu _ (digit_eq u)⟩
      case measure => simp [intOf]; omega
    · have hk := hD.hi
      have hk24 : k < 24 := by
        apply Decidable.byContradiction
        intro hn
        have := hD.full (by omega)
        omega
      obtain rfl : u = 0 := by omega
      obtain ⟨L, hL, hdig, hc⟩ := hD.digits
      have hB := hD.old
      have hk' : (k : Int) ≤ 24 := by omega
      have hne : ¬ (24 = k) := by omega
      have hconv := fun cap => run_convert_bytes_back (P := Tryf.prog) wr 46 9 5 ⟨w.heap.size, k, none⟩ cap L Tryf.underlying46 Tryf.underlying5 Tryf.underlying9 (fun j hj => by rw [Addr.add_lit]; exact hc j hj)
      rw [hL] at hconv
      have hres : Lib.itoa (U : Int) = L := by
        unfold Lib.itoa
        rw [if_neg (by omega)]
        have : digs U = Lib.decDigits U := by unfold digs; rw [if_neg (by omega)]
        rw [Int.toNat_natCast, ← this, hdig]
        rfl
      have HR := hres
      clear hres hdig hc hL hD
      have HR' : Hid (Lib.itoa (U : Int) = L) := HR
      clear HR
      go_wp2
      go_ret
      exact ⟨by rw [HR'.out]; rfl, hB⟩

set_option maxRecDepth 100000 in
theorem itoa_zero (w : World) : Calls Tryf.prog 8 #[.int .i64 0] w fun e w' => LineEnd w (Lib.itoa 0) e w' := by
  have h0 : Lib.itoa 0 = [48] := by unfold Lib.itoa; rw [if_neg (by omega), Lib.decDigits, dif_pos (by decide)]; rfl
  rw [h0]
  clear h0
  go_enter Tryf.func8, Tryf.ntmps8
  go_wp2
  go_ret
  exact ⟨rfl, Below.refl _ _⟩

set_option maxRecDepth 100000 in
set_option maxHeartbeats 400000 in
theorem itoa_neg (U : Nat) (w : World) (h0 : 0 < U) (h1 : U ≤ 9223372036854775808) :
    Calls Tryf.prog 8 #[.int .i64 (-(U : Int))] w fun e w' => LineEnd w (Lib.itoa (-(U : Int))) e w' := by
  have hd0 : decide (-(U : Int) < 0) = true := decide_eq_true (by omega)
  have hd1 : ((U : Int) == 0) = false := beq_eq_false_iff_ne.2 (by omega)
  have hsg : IntKind.u64.signed = false := rfl
  have hneg := not_plus U h0 h1
  go_enter Tryf.func8, Tryf.ntmps8
  go_wp2
  clear hd0 hd1 hneg hsg
  go_loopw [3, 6] (fun z i wr => ∃ u k : Nat, z = .int .u64 u ∧ i = .int .i64 k ∧ u ≤ U ∧ DigsAt U w wr u k) (fun z _ _ => (intOf z).toNat)
  case atStart => exact ⟨U, 24, rfl, rfl, Nat.le_refl _, digsAt_start U w _ rfl (by omega)⟩
  case round =>
    obtain ⟨u, k, rfl, rfl, huU, hD⟩ := hrel
    by_cases hu : 0 < u
    · have h5 := pow_pos_of u k hD.left hu hD.lo
      obtain ⟨k, rfl⟩ : ∃ j, k = j + 1 := ⟨k - 1, by omega⟩
      have hk := hD.hi
      obtain ⟨F, hF⟩ := hD.row
      have hc := hF.cell (i := k) (by omega)
      have hf := hF.frozen k
      clear hF
      go_wp2
      go_roundw
      case rel => exact ⟨u / 10, k, by go_num, rfl, by omega, digsAt_step hD hu _ (digit_eq u)⟩
      case measure => simp [intOf]; omega
    · have hk := hD.hi
      have hlo := hD.lo
      obtain rfl : u = 0 := by omega
      obtain ⟨k, rfl⟩ : ∃ j, k = j + 1 := ⟨k - 1, by omega⟩
      obtain ⟨L, hL, hdig, hc⟩ := hD.digits
      have hB := hD.old.setCell (p := ⟨w.heap.size, k, none⟩) (Nat.le_refl _) (.int .u8 45)
      obtain ⟨F, hF⟩ := hD.row
      have hc0 := hF.cell (i := k) (by omega)
      have hf0 := hF.frozen k
      have hk' : (k : Int) ≤ 24 := by omega
      have hne : ¬ (24 = k) := by omega
      have hcell : ∀ j (hj : j < (45 :: L : List UInt8).length), (wr.setCell ⟨w.heap.size, k, none⟩ (.int .u8 45)).cell? ⟨w.heap.size, k + j, none⟩ = some (.int .u8 ((45 :: L : List UInt8)[j].toNat : Int)) := by
        intro j hj
        match j, hj with
        | 0, _ =>
          have := (hF.set k (.int .u8 45)).cell (i := k) (by omega)
          simp only [if_true] at this
          simp only [Nat.add_zero, List.getElem_cons_zero]
          rw [this]
          rfl
        | j + 1, hj =>
          have hj' : j < L.length := by simpa using hj
          have e : (⟨w.heap.size, k + (j + 1), none⟩ : Addr) = ⟨w.heap.size, k + 1 + j, none⟩ := by congr 1; omega
          simp only [List.getElem_cons_succ]
          rw [e, World.cell?_setCell_other _ _ _ _ (by intro h; injection h; omega)]
          exact hc j hj'
      have hconv := fun cap => run_convert_bytes_back (P := Tryf.prog) (wr.setCell ⟨w.heap.size, k, none⟩ (.int .u8 45)) 46 9 5 ⟨w.heap.size, k, none⟩ cap (45 :: L) Tryf.underlying46 Tryf.underlying5 Tryf.underlying9 (fun j hj => by rw [Addr.add_lit]; exact hcell j hj)
      have hlen : (45 :: L : List UInt8).length = 24 - k := by simp [hL]; omega
      rw [hlen] at hconv
      have hres : Lib.itoa (-(U : Int)) = 45 :: L := by
        unfold Lib.itoa
        rw [if_pos (by omega)]
        have : digs U = Lib.decDigits U := by unfold digs; rw [if_neg (by omega)]
        have e : (-(U : Int)).natAbs = U := by omega
        rw [e, ← this, hdig]
        rfl
      have HR' : Hid (Lib.itoa (-(U : Int)) = 45 :: L) := hres
      clear hres hdig hc hL hD hcell hlen hF
      go_wp2
      go_ret
      exact ⟨by rw [HR'.out]; rfl, hB⟩

theorem itoa_any (n : Int) (w : World) (hw : (Lit.int .i64 n).wf = true) : Calls Tryf.prog 8 #[.int .i64 n] w fun e w' => LineEnd w (Lib.itoa n) e w' := by
  have hb := bounds_i64 hw
  by_cases h0 : n = 0
  · subst h0; exact itoa_zero w
  · by_cases h1 : 0 < n
    · exact itoa_pos n w h1 hb.2
    · obtain ⟨U, hU⟩ := Int.eq_ofNat_of_zero_le (a := -n) (by omega)
      obtain rfl : n = -(U : Int) := by omega
      exact itoa_neg U w (by omega) (by omega)
end Go.Proofs.Qxb6618565aFmt
