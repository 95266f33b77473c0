import Derived.Test.Qxb6618565aBase
namespace Go.Proofs.Qxb6618565a

def tri (n : Nat) : Nat := n * (n - 1) / 2
theorem tri_succ (k : Nat) : tri (k + 1) = tri k + k := by
  unfold tri
  have e : (k + 1) * (k + 1 - 1) = k * (k - 1) + k * 2 := by
    cases k with
    | zero => rfl
    | succ m =>
      simp only [Nat.add_sub_cancel]
      rw [Nat.add_mul (m + 1) 1 (m + 1), Nat.mul_add (m + 1) m 1, Nat.mul_two]
      omega
  rw [e, Nat.add_mul_div_right _ _ (by omega)]
theorem tri_add (a b : Nat) : tri (a + b) = tri a + tri b + a * b := by
  induction b with
  | zero => simp [tri]
  | succ b ih =>
    rw [← Nat.add_assoc, tri_succ, ih, tri_succ, Nat.mul_add]
    omega
theorem tri_le (n : Nat) (h : n ≤ 1048577) : tri n ≤ 1048577 * 1048577 := by
  have : n * (n - 1) ≤ 1048577 * 1048577 := Nat.mul_le_mul h (by omega)
  unfold tri
  omega
end Go.Proofs.Qxb6618565a
