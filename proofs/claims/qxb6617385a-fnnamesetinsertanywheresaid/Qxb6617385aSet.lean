import Derived.Test.Qxb6617385aBase
import Derived.Maps.OwnSet
import Derived.Maps.Views
namespace Go.Proofs.Qxb6617385a
open Go.RowKit Go.Maps Go.WideAt

theorem snoc_ind {α : Type} {p : List α → Prop} (h0 : p []) (h1 : ∀ l x, p l → p (l ++ [x])) (l : List α) : p l := by
  have : ∀ l : List α, p l.reverse := by
    intro l
    induction l with
    | nil => exact h0
    | cons a l ih => rw [List.reverse_cons]; exact h1 _ _ ih
  have h := this l.reverse
  rwa [List.reverse_reverse] at h

/-- Is the name on the list? -/
def inB (x : ByteArray) (l : List ByteArray) : Bool := l.any fun y => decide (y = x)
theorem inB_snoc (x y : ByteArray) (l : List ByteArray) : inB x (l ++ [y]) = (inB x l || decide (y = x)) := by simp [inB]
theorem inB_append (x : ByteArray) (l k : List ByteArray) : inB x (l ++ k) = (inB x l || inB x k) := by simp [inB]

/-- A name as a key. -/
def key (s : ByteArray) : Lit := .string s.data.toList
/-- The set of the names of a list, as a datum. -/
def setD (l : List ByteArray) : DataW Unit := setOf (.lit (.bool true)) (l.map key)
/-- How many names a list holds, each counted once. -/
def cnt (l : List ByteArray) : Nat := Maps.size (setD l)

theorem key_lits (l : List ByteArray) : ∀ x ∈ l.map key, WideAt.IsKeyLit x := by
  intro x hx
  obtain ⟨s, _, rfl⟩ := List.mem_map.1 hx
  trivial

theorem key_inj {a b : ByteArray} : key a = key b ↔ a = b := by
  constructor
  · intro h
    unfold key at h
    injection h with h
    exact WideShapes.bytes_inj h
  · rintro rfl; rfl

theorem key_same (a b : ByteArray) : (key a).sameKey (key b) = decide (a = b) := by
  by_cases h : a = b
  · subst h
    simp [key, Lit.sameKey]
  · rw [sameKey_ne (fun e => h (key_inj.1 e)), decide_eq_false h]

theorem has_set (l : List ByteArray) (x : ByteArray) : Maps.has (setD l) (key x) = inB x l := by
  unfold setD inB
  rw [has_setOf _ _ _ (key_lits l), List.any_map]
  congr 1
  funext y
  exact key_same y x

theorem setD_snoc (l : List ByteArray) (x : ByteArray) : setD (l ++ [x]) = (setD l).put (key x) (.lit (.bool true)) := by
  unfold setD
  rw [List.map_append, List.map_singleton, setOf_snoc]

theorem setD_tidy (l : List ByteArray) : Tidy (setD l) := tidy_setOf _ _ (key_lits l)
theorem cnt_nil : cnt [] = 0 := rfl
theorem cnt_snoc (l : List ByteArray) (x : ByteArray) : cnt (l ++ [x]) = cnt l + if inB x l then 0 else 1 := by
  unfold cnt
  rw [setD_snoc, size_put (setD_tidy l), has_set]
  cases inB x l <;> simp

theorem cnt_le (l : List ByteArray) : cnt l ≤ l.length := by
  refine snoc_ind (p := fun l => cnt l ≤ l.length) ?_ ?_ l
  · simp [cnt_nil]
  · intro l x ih
    rw [cnt_snoc]
    split <;> simp <;> omega

/-- One name put in between. -/
theorem cnt_insert (A : List ByteArray) (x : ByteArray) (B : List ByteArray) : cnt (A ++ [x] ++ B) = cnt (A ++ B) + if inB x (A ++ B) then 0 else 1 := by
  refine snoc_ind (p := fun B => cnt (A ++ [x] ++ B) = cnt (A ++ B) + if inB x (A ++ B) then 0 else 1) ?_ ?_ B
  · simp [cnt_snoc]
  · intro B b ih
    rw [← List.append_assoc, cnt_snoc, ih, ← List.append_assoc A B [b], cnt_snoc, inB_snoc, inB_append b (A ++ [x]) B, inB_snoc, inB_append b A B, inB_append x A B]
    have e : decide (x = b) = decide (b = x) := by
      by_cases h : x = b
      · subst h; rfl
      · rw [decide_eq_false h, decide_eq_false (fun e => h e.symm)]
    rw [e]
    by_cases hbx : b = x
    · subst hbx
      cases h1 : inB b A <;> cases h2 : inB b B <;> simp
    · rw [decide_eq_false hbx]
      cases h1 : inB x A <;> cases h2 : inB x B <;> cases h3 : inB b A <;> cases h4 : inB b B <;> simp <;> omega

/-- What is looked up in a set. -/
theorem atKey_set (l : List ByteArray) (x : ByteArray) : (setD l).atKey (key x) (.lit (.bool false)) = .lit (.bool (inB x l)) := by
  refine snoc_ind (p := fun l => (setD l).atKey (key x) (.lit (.bool false)) = .lit (.bool (inB x l))) rfl ?_ l
  intro l y ih
  rw [setD_snoc, inB_snoc]
  by_cases h : y = x
  · subst h
    rw [atKey_put_same (k := key y) (setD_tidy l).isMap trivial]
    simp
  · rw [atKey_put_other (fun e => h (key_inj.1 e).symm), ih]
    simp [h]

/-! The walks -/
theorem keyLaw : Keyed Try.prog 9 := string_keyed Try.underlying9
theorem zero4 (w : World) : (zeroValue 4).run Try.prog w = .ok (.bool false) w := by kernel_rfl

/-- A set of names in memory. -/
def SetAt (w : World) (b : Nat) (l : List ByteArray) : Prop := w.ownsMap Try.prog 9 (plainElem (H := Unit) Try.prog 4) b l.length (setD l)
theorem SetAt.later {w w' : World} {b : Nat} {l : List ByteArray} (h : SetAt w b l) (hb : Below w.heap.size w w') : SetAt w' b l :=
  World.ownsMap.kept h (row := none) ⟨hb.os, hb.tape, hb.output, hb.size, fun k hk _ => hb.block k hk⟩ (by simp)

theorem SetAt.len {w : World} {b : Nat} {l : List ByteArray} (h : SetAt w b l) (ty : TypeId) : (Builtin.len_ #[26] ty #[.map (some b)]).run Try.prog w = .ok (.int .i64 (cnt l)) w := World.ownsMap.len h Try.underlying26 ty
theorem SetAt.look {w : World} {b : Nat} {l : List ByteArray} (h : SetAt w b l) (x : ByteArray) (hx : x.size ≤ maxLen) : (Instr.lookup 26 (.map (some b)) (.string x) false).run Try.prog w = .ok (.bool (inB x l)) w := by
  obtain ⟨v, ps, hrun, hv⟩ := World.ownsMap.lookup h keyLaw Try.underlying26 (zero4 w) (plainElem_bool Try.underlying4 false) (WideMaps.keyOf_string_mk Try.underlying9 hx)
  rw [hrun]
  have e : (setD l).atKey (Lit.string x.data.toList) (.lit (.bool false)) = .lit (.bool (inB x l)) := atKey_set l x
  rw [e] at hv
  unfold plainElem at hv
  rw [Try.underlying4] at hv
  split at hv
  · rename_i y _ _
    simp only [Option.some.injEq, Prod.mk.injEq, DataW.lit.injEq, Lit.bool.injEq] at hv
    rw [hv.1]
  · simp_all
  · simp_all
  · simp_all
end Go.Proofs.Qxb6617385a
