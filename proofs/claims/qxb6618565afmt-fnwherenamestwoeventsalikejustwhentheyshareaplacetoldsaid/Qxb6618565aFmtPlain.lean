import Derived.Test.Qxb6618565aFmtLine
import Derived.Lib.ItoaNum
namespace Go.Proofs.Qxb6618565aFmt

theorem dec_small {u : Nat} (h : u < 10) : Lib.decDigits u = [UInt8.ofNat (48 + u)] := by rw [Lib.decDigits, dif_pos h]
theorem dec_big {u : Nat} (h : ¬ u < 10) : Lib.decDigits u = Lib.decDigits (u / 10) ++ [UInt8.ofNat (48 + u % 10)] := by rw [Lib.decDigits, dif_neg h]

/-- What the digits say. -/
def val (l : List UInt8) : Nat := l.foldl (fun a c => a * 10 + (c.toNat - 48)) 0
theorem val_snoc (l : List UInt8) (c : UInt8) : val (l ++ [c]) = val l * 10 + (c.toNat - 48) := by simp [val]
theorem digit_nat (d : Nat) (h : d < 10) : (UInt8.ofNat (48 + d)).toNat = 48 + d := by
  rw [UInt8.toNat_ofNat']
  omega
theorem val_dec (u : Nat) : val (Lib.decDigits u) = u := by
  induction u using Nat.strongRecOn with
  | _ u ih =>
    by_cases h : u < 10
    · rw [dec_small h]
      simp only [val, List.foldl_cons, List.foldl_nil]
      rw [digit_nat u h]
      omega
    · rw [dec_big h, val_snoc, ih (u / 10) (by omega), digit_nat (u % 10) (by omega)]
      omega
theorem dec_digit (u : Nat) : ∀ c ∈ Lib.decDigits u, 48 ≤ c.toNat ∧ c.toNat ≤ 57 := by
  induction u using Nat.strongRecOn with
  | _ u ih =>
    by_cases h : u < 10
    · rw [dec_small h]
      intro c hc
      simp only [List.mem_singleton] at hc
      subst hc
      rw [digit_nat u h]
      omega
    · rw [dec_big h]
      intro c hc
      rw [List.mem_append, List.mem_singleton] at hc
      rcases hc with hc | hc
      · exact ih (u / 10) (by omega) c hc
      · subst hc
        rw [digit_nat (u % 10) (by omega)]
        omega
/-- No sign of a numeral is a blank. -/
theorem itoa_char (n : Int) : ∀ c ∈ Lib.itoa n, c ≠ 32 := by
  intro c hc
  have key : ∀ u, c ∈ Lib.decDigits u → c ≠ 32 := by
    intro u h e
    have := dec_digit u c h
    subst e
    simp at this
  unfold Lib.itoa at hc
  split at hc
  · rcases List.mem_cons.1 hc with h | h
    · subst h; decide
    · exact key _ h
  · exact key _ hc
theorem itoa_inj {m n : Int} (h : Lib.itoa m = Lib.itoa n) : m = n := by
  have key : ∀ (u v : Nat), 45 :: Lib.decDigits u ≠ Lib.decDigits v := by
    intro u v e
    have := dec_digit v 45 (by rw [← e]; simp)
    simp at this
  unfold Lib.itoa at h
  split at h
  · split at h
    · injection h with _ h
      have := congrArg val h
      rw [val_dec, val_dec] at this
      omega
    · exact absurd h (key _ _)
  · split at h
    · exact absurd h.symm (key _ _)
    · have := congrArg val h
      rw [val_dec, val_dec] at this
      omega

/-- Two lists without a blank, each with its tail behind a blank. -/
theorem cut_blank : ∀ (a b : List UInt8) (x y : List UInt8), (∀ c ∈ a, c ≠ 32) → (∀ c ∈ b, c ≠ 32) → a ++ 32 :: x = b ++ 32 :: y → a = b ∧ x = y
  | [], [], x, y, _, _, h => by simpa using h
  | [], c :: b, x, y, _, hb, h => by
    simp only [List.nil_append, List.cons_append] at h
    injection h with h1 h2
    exact absurd h1.symm (hb c (by simp))
  | c :: a, [], x, y, ha, _, h => by
    simp only [List.nil_append, List.cons_append] at h
    injection h with h1 h2
    exact absurd h1 (ha c (by simp))
  | c :: a, d :: b, x, y, ha, hb, h => by
    simp only [List.cons_append] at h
    injection h with h1 h2
    obtain ⟨e1, e2⟩ := cut_blank a b x y (fun k hk => ha k (by simp [hk])) (fun k hk => hb k (by simp [hk])) h2
    exact ⟨by rw [h1, e1], e2⟩

theorem textA_eq (m n : Int) : textA m = textA n ↔ m = n := by
  constructor
  · intro h
    unfold textA at h
    exact itoa_inj (List.append_cancel_left h)
  · rintro rfl; rfl
theorem textAB (m n : Int) (s : List UInt8) : textA m ≠ textB n s := by
  intro h
  unfold textA textB ofB at h
  simp only [List.append_assoc] at h
  have h2 := List.append_cancel_left h
  have : (32 : UInt8) ∈ Lib.itoa m := by rw [h2]; simp
  exact itoa_char m 32 this rfl
theorem textB_eq (m n : Int) (s t : List UInt8) : textB m s = textB n t ↔ m = n ∧ s = t := by
  constructor
  · intro h
    unfold textB ofB at h
    simp only [List.append_assoc] at h
    have h2 := List.append_cancel_left h
    obtain ⟨e1, e2⟩ := cut_blank (Lib.itoa m) (Lib.itoa n) _ _ (itoa_char m) (itoa_char n) h2
    exact ⟨itoa_inj e1, by simpa using e2⟩
  · rintro ⟨rfl, rfl⟩; rfl
end Go.Proofs.Qxb6618565aFmt
