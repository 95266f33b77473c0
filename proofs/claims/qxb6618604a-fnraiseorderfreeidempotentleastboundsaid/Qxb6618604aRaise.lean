import Derived.Test.Qxb6618604aCell
namespace Go.Proofs.Qxb6618604a
open Go.RowKit

def LawEnd (w : World) (e : Ending) (w' : World) : Prop := e = .returned (.bool true) ∧ Below w.heap.size w w'

theorem below_step {w w1 w2 : World} (h : Below w.heap.size w w1) {b : Nat} (hb : w.heap.size ≤ b) (k : Below b w1 w2) : Below w.heap.size w w2 := h.trans (k.mono hb)

set_option maxRecDepth 100000 in
set_option maxHeartbeats 400000 in
theorem walkTwice (v a b : Int) (w : World) :
    Calls Try.prog 3 #[.int .i64 v, .int .i64 a, .int .i64 b] w fun e w' => LawEnd w e w' := by
  go_enter Try.func3, Try.ntmps3
  go_wp2_with fail
  refine (newcell_any v w).mono ?_
  rintro e w1 ⟨rfl, hc, hB⟩
  go_wp2_with fail
  refine (zzraise_any _ _ _ _ hc).mono ?_
  rintro e w2 ⟨rfl, hc2, hB2⟩
  replace hB := below_step hB (Nat.le_refl _) hB2
  clear hc hB2
  go_wp2_with fail
  refine (zzload_any _ _ _ hc2).mono ?_
  rintro e w' ⟨rfl, rfl⟩
  go_wp2_with fail
  refine (zzraise_any _ _ _ _ hc2).mono ?_
  rintro e w3 ⟨rfl, hc3, hB3⟩
  replace hB := below_step hB (Nat.le_refl _) hB3
  clear hc2 hB3
  go_wp2_with fail
  refine (zzload_any _ _ _ hc3).mono ?_
  rintro e w' ⟨rfl, rfl⟩
  go_wp2_with (go_at_call 10; refine (max2_any _ _ _).mono ?_; rintro e w' ⟨rfl, rfl⟩)
  go_ret
  exact ⟨rfl, hB⟩

theorem upTo_ge (x n : Int) : x ≤ upTo x n ∧ n ≤ upTo x n := by unfold upTo; split <;> omega
theorem upTo_one (x n : Int) : upTo x n = x ∨ upTo x n = n := by unfold upTo; split <;> simp
theorem upTo_swap (v a b : Int) : upTo (upTo v b) a = upTo (upTo v a) b := by unfold upTo; repeat' split <;> omega
theorem upTo_again (v a : Int) : upTo (upTo v a) a = upTo v a := by unfold upTo; repeat' split <;> omega

set_option maxRecDepth 100000 in
set_option maxHeartbeats 1000000 in
theorem walkFree (v a b : Int) (w : World) :
    Calls Try.prog 4 #[.int .i64 v, .int .i64 a, .int .i64 b] w fun e w' => LawEnd w e w' := by
  go_enter Try.func4, Try.ntmps4
  go_wp2_with fail
  refine (newcell_any v w).mono ?_
  rintro e w1 ⟨rfl, hc, hB⟩
  go_wp2_with fail
  refine (zzraise_any _ _ _ _ hc).mono ?_
  rintro e w2 ⟨rfl, hc2, hB2⟩
  replace hB := below_step hB (Nat.le_refl _) hB2
  clear hc hB2
  go_wp2_with fail
  refine (zzraise_any _ _ _ _ hc2).mono ?_
  rintro e w3 ⟨rfl, hc3, hB3⟩
  replace hB := below_step hB (Nat.le_refl _) hB3
  clear hc2 hB3
  go_wp2_with fail
  refine (zzload_any _ _ _ hc3).mono ?_
  rintro e w' ⟨rfl, rfl⟩
  clear hc3
  go_wp2_with fail
  refine (newcell_any v _).mono ?_
  rintro e w4 ⟨rfl, hc, hB4⟩
  have hb := hB.size
  replace hB := below_step hB hb hB4
  clear hB4
  go_wp2_with fail
  refine (zzraise_any _ _ _ _ hc).mono ?_
  rintro e w5 ⟨rfl, hc5, hB5⟩
  replace hB := below_step hB hb hB5
  clear hc hB5
  have hc := hc5
  clear hc5
  go_wp2_with fail
  refine (zzraise_any _ _ _ _ hc).mono ?_
  rintro e w6 ⟨rfl, hc6, hB6⟩
  replace hB := below_step hB hb hB6
  clear hc hB6
  have hc := hc6
  clear hc6
  go_wp2_with fail
  refine (zzload_any _ _ _ hc).mono ?_
  rintro e w' ⟨rfl, rfl⟩
  clear hc hb
  go_wp2_with fail
  refine (newcell_any v _).mono ?_
  rintro e w7 ⟨rfl, hc, hB7⟩
  have hb := hB.size
  replace hB := below_step hB hb hB7
  clear hB7
  go_wp2_with fail
  refine (zzraise_any _ _ _ _ hc).mono ?_
  rintro e w8 ⟨rfl, hc8, hB8⟩
  replace hB := below_step hB hb hB8
  clear hc hB8
  have hc := hc8
  clear hc8
  go_wp2_with fail
  refine (zzload_any _ _ _ hc).mono ?_
  rintro e w' ⟨rfl, rfl⟩
  go_wp2_with fail
  refine (zzraise_any _ _ _ _ hc).mono ?_
  rintro e w9 ⟨rfl, hc9, hB9⟩
  replace hB := below_step hB hb hB9
  clear hc hB9
  have hc := hc9
  clear hc9
  go_wp2_with fail
  refine (zzload_any _ _ _ hc).mono ?_
  rintro e w' ⟨rfl, rfl⟩
  clear hc hb
  rw [upTo_swap v a b, upTo_again v a]
  have g1 := upTo_ge v a
  have g2 := upTo_ge (upTo v a) b
  have o1 := upTo_one v a
  have o2 := upTo_one (upTo v a) b
  generalize upTo (upTo v a) b = r at *
  generalize upTo v a = m at *
  have c1 : v ≤ r := by omega
  have c2 : a ≤ r := by omega
  have c3 : b ≤ r := by omega
  have c4 : v ≤ m := by omega
  have c5 : a ≤ m := by omega
  by_cases d1 : r = v
  · have d1' : (r == v) = true := beq_iff_eq.2 d1
    by_cases d2 : m = v
    · have d2' : (m == v) = true := beq_iff_eq.2 d2
      clear d1 d2 o1 o2 g1 g2
      go_wp2
      go_ret
      exact ⟨rfl, hB⟩
    · have d2' : (m == v) = false := beq_eq_false_iff_ne.2 d2
      have d3' : (m == a) = true := beq_iff_eq.2 (by omega)
      clear d1 d2 o1 o2 g1 g2
      go_wp2
      go_ret
      exact ⟨rfl, hB⟩
  · have d1' : (r == v) = false := beq_eq_false_iff_ne.2 d1
    by_cases d4 : r = a
    · have d4' : (r == a) = true := beq_iff_eq.2 d4
      by_cases d2 : m = v
      · have d2' : (m == v) = true := beq_iff_eq.2 d2
        clear d1 d2 d4 o1 o2 g1 g2
        go_wp2
        go_ret
        exact ⟨rfl, hB⟩
      · have d2' : (m == v) = false := beq_eq_false_iff_ne.2 d2
        have d3' : (m == a) = true := beq_iff_eq.2 (by omega)
        clear d1 d2 d4 o1 o2 g1 g2
        go_wp2
        go_ret
        exact ⟨rfl, hB⟩
    · have d4' : (r == a) = false := beq_eq_false_iff_ne.2 d4
      have d5' : (r == b) = true := beq_iff_eq.2 (by omega)
      by_cases d2 : m = v
      · have d2' : (m == v) = true := beq_iff_eq.2 d2
        clear d1 d2 d4 o1 o2 g1 g2
        go_wp2
        go_ret
        exact ⟨rfl, hB⟩
      · have d2' : (m == v) = false := beq_eq_false_iff_ne.2 d2
        have d3' : (m == a) = true := beq_iff_eq.2 (by omega)
        clear d1 d2 d4 o1 o2 g1 g2
        go_wp2
        go_ret
        exact ⟨rfl, hB⟩
end Go.Proofs.Qxb6618604a
