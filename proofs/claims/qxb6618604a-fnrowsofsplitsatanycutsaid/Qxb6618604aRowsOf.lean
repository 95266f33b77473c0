import Derived.Test.Qxb6618604aRuns
namespace Go.Proofs.Qxb6618604a
open Go.RowKit Go.Shelf

attribute [local go_sem] Oper.semAt_some

/-- A row: the page's block, the index. -/
abbrev RowV := Nat × Int
def encRow (r : RowV) : Array Value := #[.agg #[.pointer (some ⟨r.1, 0, none⟩), .int .i64 r.2]]
/-- The rows of one run; of a list of runs. -/
def rowAt (r : Run) (k : Nat) : RowV := (r.1, r.2.1 + k)
def rowsR (r : Run) : List RowV := upto (rowAt r) (r.2.2 - r.2.1).toNat
def flat (rs : List Run) : List RowV := rs.flatMap rowsR
theorem flat_snoc (pre : List Run) (x : Run) : flat (pre ++ [x]) = flat pre ++ rowsR x := by simp [flat]
theorem flat_prefix {pre rs : List Run} (h : pre <+: rs) : flat pre <+: flat rs := by
  obtain ⟨q, rfl⟩ := h
  exact ⟨flat q, by simp [flat]⟩
theorem flat_part {pre rs : List Run} {x : Run} (h : (pre ++ [x]) <+: rs) {k : Nat} (hk : k ≤ (x.2.2 - x.2.1).toNat) : flat pre ++ upto (rowAt x) k <+: flat rs :=
  (List.prefix_append_right_inj _ |>.2 (upto_prefix _ hk)).trans (by rw [← rowsR, ← flat_snoc]; exact flat_prefix h)

/-- WHAT A ROUND KEEPS OF THE ITERATOR's OWN BOXES: the boxed yield (type 68), the boxed run (type 55). -/
def KeptBoxes (W W' : World) : Prop := ∀ (k : Nat) (c : Array Value) (t : TypeId), (t = 68 ∨ t = 55) → W.heap[k]? = some (Obj.cells c t (0, 0)) → W'.heap[k]? = some (Obj.cells c t (0, 0))
def Kp24 (n₀ : Nat) (W W' : World) : Prop := Below n₀ W W' ∧ KeptBoxes W W'
theorem Kp24.trans {n₀ : Nat} {A B C : World} (h : Kp24 n₀ A B) (k : Kp24 n₀ B C) : Kp24 n₀ A C := ⟨h.1.trans k.1, fun i c t ht hi => k.2 i c t ht (h.2 i c t ht hi)⟩

theorem ownFrom_mono {β : Type} {B B' : Nat} {I : β → World → Prop} (h : OwnFrom B I) (hb : B ≤ B') : OwnFrom B' I :=
  fun s W W' row hs hg hr => h s W W' row hs hg (fun r e => ⟨Nat.le_trans hb (hr r e).1, (hr r e).2⟩)

theorem cells_own {β : Type} (B : Nat) (c : Array Value) (t : TypeId) : Own (fun (_ : β) W => W.heap[B]? = some (.cells c t (0, 0))) := fun _ X _ row hs hg hrow =>
  (hg.block B (Array.getElem?_eq_some_iff.1 hs).1 (fun e' => by obtain ⟨o, ho, hc⟩ := hrow B e'.symm; rw [hs] at ho; cases ho; cases hc)).trans hs
theorem cells3 {W : World} {B : Nat} {x y z : Value} {t : TypeId} (h : W.heap[B]? = some (.cells #[x, y, z] t (0, 0))) :
    W.cell? ⟨B, 0, none⟩ = some x ∧ W.cell? ⟨B, 1, none⟩ = some y ∧ W.cell? ⟨B, 2, none⟩ = some z := by
  simp [World.cell?, h]

set_option maxRecDepth 100000 in
set_option maxHeartbeats 4000000 in
/-- **rowsOf's iterator: 'for run := range runs { for i := run.lo; i < run.hi; i++ { if !yield(row{run.p, i}) { return } } }'.** -/
theorem rows_stops (F : Fence) (hd : F.depth = none) (n : Nat) (h19 : F.fn 19) (h24 : F.fn 24) (hro : F.round = none) (hn : 4 ≤ n) (Bq n₀ : Nat) (lb : Array Value) (rs : List Run)
    (hwf : ∀ r ∈ rs, (-9223372036854775808 ≤ r.2.1 ∧ r.2.1 < 9223372036854775808) ∧ (-9223372036854775808 ≤ r.2.2 ∧ r.2.2 < 9223372036854775808)) (w : World) (hBq : Bq < w.heap.size) (hn₀ : n₀ ≤ w.heap.size)
    (hc : w.cell? ⟨Bq, 0, none⟩ = some (.func (.func 19) #[] lb)) (hs : SeqX F (n - 1) Try.prog 19 lb encRun (Below n₀) rs w) :
    SeqX F n Try.prog 24 #[.pointer (some ⟨Bq, 0, none⟩)] encRow (Kp24 n₀) (flat rs) w := by
  intro l J Jx W hW hJ hJx hY h0
  have hc' := (hW.cell (p := ⟨Bq, 0, none⟩) hBq).trans hc
  have hsW := hW.size
  refine callsIn_of_wp_marks Try.func24 rfl h24 ?_ hro
  simp only [Try.ntmps24, List.size_toArray, List.length_cons, List.length_nil, Nat.reduceAdd, Nat.reduceSub, Array.replicate_succ, Array.replicate_zero, List.push_toArray, List.append_toArray, List.nil_append, List.cons_append]
  have hcb := cell_kept hc' (World.grownBy_alloc W (.cells #[.func (.yield l) #[] #[]] 68) none) (fun r e => by cases e)
  gi_wp2
  have bY := Boxed.new W 68 (.func (.yield l) #[] #[])
  have hJ0 := hJ.alloc (.cells #[.func (.yield l) #[] #[]] 68) h0
  have hb0 : Below w.heap.size w (W.alloc (.cells #[.func (.yield l) #[] #[]] 68)) := hW.alloc hsW _
  have hsz : (W.alloc (.cells #[.func (.yield l) #[] #[]] 68)).heap.size = W.heap.size + 1 := by simp
  obtain ⟨W0, hW0⟩ : ∃ W0, W.alloc (.cells #[.func (.yield l) #[] #[]] 68) = W0 := ⟨_, rfl⟩
  rw [hW0] at bY hJ0 hb0 hsz hcb ⊢
  clear hW0
  refine wpIn_rangeX hro (by omega) (gf := 19) (lb := lb) rfl h19 (enters_of Try.func19 (by kernel_rfl) rfl) hs (fun h k => h.trans k) (below_b (by omega)) hb0 (fun _ => rfl)
    (fun pre W' => J (flat pre) W' ∧ Boxed W' W.heap.size 68 (.func (.yield l) #[] #[]))
    (fun c _ W' => c = .ret ∧ ∃ q, q <+: flat rs ∧ Jx q W')
    (OwnFrom.and (fun s A B row h1 h2 h3 => ownFrom_mono hJ (by omega) (flat s) A B row h1 h2 h3) (Own.from (boxed_own _ _ _) _))
    (fun c s A B row ⟨e, q, hq, hx⟩ h2 h3 => ⟨e, q, hq, ownFrom_mono hJx (by omega) q A B row hx h2 h3⟩)
    ⟨hJ0, bY⟩
    (fun x a' W' => ∃ Bx, W'.heap[Bx]? = some (.cells #[.pointer (some ⟨x.1, 0, none⟩), .int .i64 x.2.1, .int .i64 x.2.2] 55 (0, 0)) ∧
      a' = { tmps := #[.func (.yield l) #[] #[], .pointer (some ⟨Bq, 0, none⟩), .pointer (some ⟨W.heap.size, 0, none⟩), .pointer (some ⟨Bx, 0, none⟩), undef, .func (.func 19) #[] lb, .agg #[.pointer (some ⟨x.1, 0, none⟩), .int .i64 x.2.1, .int .i64 x.2.2], undef, undef, undef, undef, undef, undef, undef, undef, undef, undef, undef, undef, undef, undef, undef], defers := [] })
    (fun x a' _ X Y row hs hg hr => by obtain ⟨Bx, e1, e2⟩ := hs; exact ⟨Bx, cells_own (β := Unit) Bx _ 55 () X Y row e1 hg (fun r e => (hr r e).2), e2⟩)
    ?assign ?body ?done ?stop
  case assign =>
    rintro l2 pre x W1 K ⟨hJ1, hb1⟩ hK
    simp only [encRun]
    gi_wp2
    exact hK _ _ ((KeepsOthers.alloc _ _).from _) ((Below.refl _ W1).alloc (by have := hb1.lt; omega) _) ⟨hJ.alloc _ hJ1, hb1.alloc _⟩ ⟨W1.heap.size, World.alloc_heap_new W1 _, rfl⟩
  case body =>
    rintro l2 pre x a' W1 ⟨hJ1, hb1⟩ ⟨Bx, hX, rfl⟩ hpre
    obtain ⟨cx0, cx1, cx2⟩ := cells3 hX
    have hy1 := hb1.cell
    obtain ⟨⟨wl1, wl2⟩, wh1, wh2⟩ := hwf x (hpre.subset (List.mem_append.2 (.inr (by simp))))
    have h1' : 1 ≤ n - 1 - 1 := by omega
    gi_wp2
    gi_loopw [4] (fun i wr => ∃ k : Nat, k ≤ (x.2.2 - x.2.1).toNat ∧ i = .int .i64 (x.2.1 + k) ∧ J (flat pre ++ upto (rowAt x) k) wr ∧ Boxed wr W.heap.size 68 (.func (.yield l) #[] #[]) ∧
        wr.heap[Bx]? = some (.cells #[.pointer (some ⟨x.1, 0, none⟩), .int .i64 x.2.1, .int .i64 x.2.2] 55 (0, 0)) ∧ KeepsFrom W0.heap.size W1 wr ∧ Below n₀ W1 wr)
      (fun i _ => (x.2.2 - intOf i).toNat)
    case atStart => exact ⟨0, Nat.zero_le _, by simp, by simpa [upto] using hJ1, hb1, hX, KeepsFrom.refl _ _, Below.refl _ _⟩
    case round =>
      obtain ⟨k, hk, rfl, hJk, hbk, hXk, hKk, hBk⟩ := hrel
      obtain ⟨cx0, cx1, cx2⟩ := cells3 hXk
      have hy1 := hbk.cell
      by_cases hlt : x.2.1 + k < x.2.2
      · obtain ⟨fn, tmps, assign, body, hy, hR⟩ := yield_anyDepth hd (n - 1 - 1 - 1) (hY _ (rowAt x k) _ hJk (by rw [List.append_assoc, ← upto_succ]; exact flat_part hpre (by omega)))
        simp only [encRow, rowAt] at hy
        gi_wp2
        refine (show RoundIn (F.inRound l2) (n - 1 - 1 - 1) Try.prog l fn tmps assign body wr _ from hR).mono ?_
        rintro e W3 ⟨hk3, (⟨rfl, hJ3, hb3, hkb3⟩ | ⟨rfl, hJx3⟩)⟩
        · gi_wp2
          go_roundw
          case rel => exact ⟨k + 1, by omega, by congr 1; omega, by rw [upto_succ, ← List.append_assoc]; exact hJ3, hkb3 _ _ _ (.inl rfl) hbk, hkb3 _ _ _ (.inr rfl) hXk, hKk.trans (keepsFrom_mono hk3 (by omega)), hBk.trans hb3⟩
          case measure => simp [intOf]; omega
        · gi_wp2
          exact ⟨hKk.trans (keepsFrom_mono hk3 (by omega)), rfl, _, by rw [List.append_assoc, ← upto_succ]; exact flat_part hpre (by omega), hJx3⟩
      · gi_wp2
        obtain rfl : k = (x.2.2 - x.2.1).toNat := by omega
        exact ⟨keepsFrom_mono hKk (by omega), hBk, by rw [flat_snoc]; exact hJk, hbk⟩
  case done =>
    rintro D W' hD ⟨hJ1, hb1⟩ hK
    gi_wp2
    refine ⟨by simp, .inl ⟨_, _, rfl, run_takeDeferred hK, ?_⟩⟩
    exact ⟨_, results_none rfl _ _ _, ⟨_, rfl⟩, .inl (hJ.putObj _ hJ1 (by omega) hK rfl)⟩
  case stop =>
    rintro D c pre W' hD hpre ⟨rfl, q, hq, hx⟩ hK
    gi_wp2
    refine ⟨by simp, .inl ⟨_, _, rfl, run_takeDeferred hK, ?_⟩⟩
    exact ⟨_, results_none rfl _ _ _, ⟨_, rfl⟩, .inr ⟨q, hq, hJx.putObj _ hx (by omega) hK rfl⟩⟩

set_option maxRecDepth 100000 in
set_option maxHeartbeats 1000000 in
/-- **rowsOf(runs)**: the function value is boxed; the iterator captures the box. -/
theorem rowsOf_calls (lb : Array Value) (w : World) :
    Calls Try.prog 20 #[.func (.func 19) #[] lb] w fun e w' => e = .returned (.func (.func 24) #[] #[.pointer (some ⟨w.heap.size, 0, none⟩)]) ∧ w' = w.alloc (.cells #[.func (.func 19) #[] lb] 67) := by
  go_enter Try.func20, Try.ntmps20
  go_wp2
  go_ret
  exact ⟨rfl, rfl⟩

end Go.Proofs.Qxb6618604a
