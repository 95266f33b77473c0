import Derived.Test.Qxb6618604aOwn
namespace Go.Proofs.Qxb6618604a

/-- THE BLOCK FORMULA. -/
theorem listing_get (T L H : Nat → Int) {j t : Nat} (h1 : total L H j ≤ t) (h2 : t < total L H (j + 1)) : ∀ n, j < n → (listing T L H n)[t]? = some (T j, L j + ((t - total L H j : Nat) : Int)) := by
  intro n
  induction n with
  | zero => intro h; omega
  | succ k ih =>
    intro hj
    by_cases e : j = k
    · subst e
      have hd : total L H (j + 1) = total L H j + (H j - L j).toNat := rfl
      simp only [listing]
      rw [List.getElem?_append_right (by rw [listing_length]; exact h1), listing_length]
      simp [upto, show t - total L H j < (H j - L j).toNat by omega]
    · have := total_mono L H (show j + 1 ≤ k by omega)
      simp only [listing]
      rw [List.getElem?_append_left (by rw [listing_length]; omega)]
      exact ih (by omega)

/-- The numbers from c on. -/
def from_ (c : Nat) (f : Nat → Int) : Nat → Int := fun j => f (c + j)
theorem total_split (L H : Nat → Int) (c : Nat) : ∀ d, total L H (c + d) = total L H c + total (from_ c L) (from_ c H) d
  | 0 => rfl
  | d + 1 => by
    have ih := total_split L H c d
    show total L H (c + d) + _ = _
    simp only [total, ih, from_, Nat.add_assoc]; rfl
theorem listing_split (T L H : Nat → Int) (c : Nat) : ∀ d, listing T L H (c + d) = listing T L H c ++ listing (from_ c T) (from_ c L) (from_ c H) d
  | 0 => by simp [listing]
  | d + 1 => by
    have ih := listing_split T L H c d
    show listing T L H (c + d) ++ _ = _
    simp only [listing, ih, from_, List.append_assoc]; rfl
/-- The t-th rank and index. -/
def rk (T L H : Nat → Int) (n t : Nat) : Int := ((listing T L H n)[t]?.getD (0, 0)).1
def ix (T L H : Nat → Int) (n t : Nat) : Int := ((listing T L H n)[t]?.getD (0, 0)).2
theorem rk_block (T L H : Nat → Int) {n j t : Nat} (hj : j < n) (h1 : total L H j ≤ t) (h2 : t < total L H (j + 1)) : rk T L H n t = T j := by
  simp [rk, listing_get T L H h1 h2 n hj]
theorem ix_block (T L H : Nat → Int) {n j t : Nat} (hj : j < n) (h1 : total L H j ≤ t) (h2 : t < total L H (j + 1)) : ix T L H n t = L j + ((t - total L H j : Nat) : Int) := by
  simp [ix, listing_get T L H h1 h2 n hj]
theorem rk_left (T L H : Nat → Int) {c n t : Nat} (hc : c ≤ n) (ht : t < total L H c) : rk T L H n t = rk T L H c t := by
  obtain ⟨d, rfl⟩ : ∃ d, n = c + d := ⟨n - c, by omega⟩
  simp only [rk, listing_split]
  rw [List.getElem?_append_left (by rw [listing_length]; exact ht)]
theorem ix_left (T L H : Nat → Int) {c n t : Nat} (hc : c ≤ n) (ht : t < total L H c) : ix T L H n t = ix T L H c t := by
  obtain ⟨d, rfl⟩ : ∃ d, n = c + d := ⟨n - c, by omega⟩
  simp only [ix, listing_split]
  rw [List.getElem?_append_left (by rw [listing_length]; exact ht)]
theorem rk_right (T L H : Nat → Int) {c n t : Nat} (hc : c ≤ n) : rk T L H n (total L H c + t) = rk (from_ c T) (from_ c L) (from_ c H) (n - c) t := by
  obtain ⟨d, rfl⟩ : ∃ d, n = c + d := ⟨n - c, by omega⟩
  simp only [rk, listing_split]
  rw [List.getElem?_append_right (by rw [listing_length]; omega), listing_length]
  simp
theorem ix_right (T L H : Nat → Int) {c n t : Nat} (hc : c ≤ n) : ix T L H n (total L H c + t) = ix (from_ c T) (from_ c L) (from_ c H) (n - c) t := by
  obtain ⟨d, rfl⟩ : ∃ d, n = c + d := ⟨n - c, by omega⟩
  simp only [ix, listing_split]
  rw [List.getElem?_append_right (by rw [listing_length]; omega), listing_length]
  simp
theorem total_left (L H : Nat → Int) {c n : Nat} (hc : c ≤ n) : total L H n = total L H c + total (from_ c L) (from_ c H) (n - c) := by
  obtain ⟨d, rfl⟩ : ∃ d, n = c + d := ⟨n - c, by omega⟩
  rw [total_split]; simp

end Go.Proofs.Qxb6618604a
