/-
  A LOOP OVER AN ITERATOR THAT ITSELF LOOPS OVER AN ITERATOR AND CALLS THE OUTER yield FROM THE INNER ROUND (Go's rowsOf). The shelf's contract 'SeqStopsK' does not fit: (1) its caller's invariant J need not abide the turn of the iterator's OWN loop record; (2) a round promises nothing on that record. Here: a contract that asks for both, and its law. Besides: the round is told that what it is handed is the next of the listing.
-/
import Derived.RangeFuncNested
import Derived.RangeFuncBound
import Derived.RangeFuncCalls
import Derived.RangeFuncLeaves
import Derived.Shelf.Abstract
import Derived.WalkKit
import Derived.OwnWalkIn
import Derived.TacticsInMore
import Derived.LoopNIn
import Derived.LoopIn
import Derived.Test.Qxb6618604aProg
namespace Go.Proofs.Qxb6618604a
open Go.RowKit Go.Shelf

theorem room_none {F : Fence} (hd : F.depth = none) (k : Nat) : F.room k := fun d h => by rw [hd] at h; cases h
theorem yield_anyDepth {F : Fence} (hd : F.depth = none) {m : Nat} (m' : Nat) {P : Program} {l : Nat} {args : Array Value} {W : World} {R : Ending → World → Prop} (h : YieldAt F m P l args W R) : YieldAt F m' P l args W R := by
  obtain ⟨fn, tmps, assign, body, hy, hR⟩ := h
  exact ⟨fn, tmps, assign, body, hy, hR.1, fun c cs _ => hR.2 c cs (room_none hd _)⟩

theorem keepsFrom_mono {B B' : Nat} {X Y : World} (h : KeepsFrom B X Y) (hb : B ≤ B') : KeepsFrom B' X Y := ⟨h.size, fun k o hk hx ho => h.same k o (Nat.le_trans hb hk) hx ho⟩
theorem keepsFrom_put {B l : Nat} {X : World} (hl : l < B) (o : Obj) : KeepsFrom B X (X.putObj l o) :=
  KeepsFrom.of_grownBy (grownBy_putObj' X l o) (fun j e => by cases e; exact hl)

theorem below_b {n₀ : Nat} {w : World} (hn : n₀ ≤ w.heap.size) (W : World) (l : Nat) (o o' : Obj) (hl : w.heap.size ≤ l) (h : W.heap[l]? = some o) (_ : o.isCells = false) : Below n₀ W (W.putObj l o') :=
  (Below.refl n₀ W).grown (grownBy_putObj' W l o') (by have := (Array.getElem?_eq_some_iff.1 h).1; omega) (fun k e => by cases e; omega)

/-- THE CONTRACT: called at the yield of loop l, IT RETURNS: all of xs have come, one by one, or the first few, a round having said 'no more'. J, Jx abide the turn of whatever is no cells and was laid since the call began; a round keeps whatever is no cells and was laid since. -/
def SeqX {α : Type} (F : Fence) (n : Nat) (P : Program) (g : Nat) (lb : Array Value) (encs : α → Array Value) (Kp : World → World → Prop) (xs : List α) (w : World) : Prop :=
  ∀ (l : Nat) (J Jx : List α → World → Prop) (W : World), Below w.heap.size w W → OwnFrom W.heap.size J → OwnFrom W.heap.size Jx →
    (∀ pre x W1, J pre W1 → (pre ++ [x]) <+: xs → YieldAt F (n - 1) P l (encs x) W1 fun e W' => KeepsFrom W.heap.size W1 W' ∧
      ((e = .returned (.bool true) ∧ J (pre ++ [x]) W' ∧ Kp W1 W') ∨ (e = .returned (.bool false) ∧ Jx (pre ++ [x]) W'))) →
    J [] W →
    CallsIn F n P g (#[.func (.yield l) #[] #[]] ++ lb) W fun e W' => (∃ v, e = .returned v) ∧ (J xs W' ∨ ∃ pre, pre <+: xs ∧ Jx pre W')

/-- WHAT THE LAW KEEPS OF ITS OWN TWO BLOCKS: the block for deferred calls at s, the record at s + 1. -/
def Book (s : Nat) (r : Loop) (W : World) : Prop := W.heap[s]? = some (.deferred (some [])) ∧ W.heap[s + 1]? = some (.loop r)

theorem Book.kept {s : Nat} {r : Loop} {X Y : World} (h : Book s r X) (k : KeepsFrom s X Y) : Book s r Y := ⟨k.same _ _ (Nat.le_refl _) h.1 rfl, k.same _ _ (by omega) h.2 rfl⟩
theorem Book.lt {s : Nat} {r : Loop} {X : World} (h : Book s r X) : s + 1 < X.heap.size := (Array.getElem?_eq_some_iff.1 h.2).1
theorem Book.turn {s : Nat} {r : Loop} {X : World} (h : Book s r X) (r' : Loop) : Book s r' (X.putObj (s + 1) (.loop r')) :=
  ⟨(World.putObj_heap_other (by omega)).trans h.1, World.putObj_heap_same h.lt⟩
theorem Book.grown {s : Nat} {r : Loop} {X Y : World} {row : Option Nat} (h : Book s r X) (hg : X.grownBy Y row) (hr : ∀ j, row = some j → s + 2 ≤ j) : Book s r Y :=
  ⟨(hg.block s (by have := h.lt; omega) (fun e => by have := hr s e.symm; omega)).trans h.1, (hg.block (s + 1) h.lt (fun e => by have := hr _ e.symm; omega)).trans h.2⟩

variable {F : Fence} {n : Nat} {P : Program}

set_option maxHeartbeats 1000000 in
/-- **THE LAW: 'for x := range seq { .. }' over a value that keeps 'SeqX'.** -/
theorem wpIn_rangeX {α : Type} {g : Operand} {ps : Array Tmp} {assign body : Code} {Q : Exit → Act → World → Prop} {a : Act} {w : World}
    (hro : F.round = none) (h1 : 1 ≤ n) {gf : Nat} {lb : Array Value} (hg : a.eval g = .func (.func gf) #[] lb) (hFg : F.fn gf) (eg : ∀ args w, (callFunc gf args).run P w = .ok (.enter gf args) w)
    {encs : α → Array Value} {Kp : World → World → Prop} {xs : List α} {w0 : World} (hseq : SeqX F (n - 1) P gf lb encs Kp xs w0)
    (hKt : ∀ {A B C : World}, Kp A B → Kp B C → Kp A C) (hKb : ∀ (W : World) (l : Nat) (o o' : Obj), w.heap.size ≤ l → W.heap[l]? = some o → o.isCells = false → Kp W (W.putObj l o')) (hb0 : Below w0.heap.size w0 w) (hps : ∀ x, (encs x).size = ps.size)
    (I : List α → World → Prop) (Ix : Code → List α → World → Prop) (hI : OwnFrom w.heap.size I) (hIx : ∀ c, OwnFrom w.heap.size (Ix c)) (h0 : I [] w)
    (Ax : α → Act → World → Prop) (hAx : ∀ x a', OwnFrom w.heap.size (fun (_ : Unit) W => Ax x a' W))
    (hassign : ∀ (l : Nat) (pre : List α) (x : α) (W : World) (K : Act → World → Prop), I pre W → (∀ a' W', KeepsFrom w.heap.size W W' → Kp W W' → I pre W' → Ax x a' W' → K a' W') →
      assign.wpIn (F.inRound l) (n - 1 - 1) P (Exit.then K (fun _ _ _ => False)) { tmps := (ps.zip (encs x)).foldl (fun t (p, v) => t.setIfInBounds p v) a.tmps, defers := [] } W)
    (hbody : ∀ (l : Nat) (pre : List α) (x : α) (a' : Act) (W : World), I pre W → Ax x a' W → (pre ++ [x]) <+: xs → body.wpIn (F.inRound l) (n - 1 - 1) P (ownPostG w.heap.size Kp I Ix (pre ++ [x]) W) a' W)
    (hdone : ∀ (D : Nat) (W : World), w.heap.size ≤ D → I xs W → W.heap[D]? = some (.deferred (some [])) → Q .normal { a with defers := { target := .collected D, args := #[] } :: a.defers } W)
    (hstop : ∀ (D : Nat) (c : Code) (pre : List α) (W : World), w.heap.size ≤ D → pre <+: xs → Ix c pre W → W.heap[D]? = some (.deferred (some [])) → c.wpIn F n P Q { a with defers := { target := .collected D, args := #[] } :: a.defers } W) :
    (Code.rangeFunc g ps assign body).wpIn F n P Q a w := by
  refine wpIn_rangeFunc ?_
  intro fn hfn
  rw [hro]
  let mk : LoopState → Option Code → Loop := fun st pe => { state := st, pending := pe, fn, tmps := a.tmps, params := ps, assign, body, defers := w.heap.size }
  let V := (w.alloc (.deferred (some []))).alloc (.loop (mk .ready none))
  have hVs : V.heap.size = w.heap.size + 2 := by simp [V]
  have hV : Book w.heap.size (mk .ready none) V :=
    ⟨(Below.heap_alloc _ _ _ (by simp)).trans (World.alloc_heap_new w _), by have := World.alloc_heap_new (w.alloc (.deferred (some []))) (.loop (mk .ready none)); rwa [World.size_alloc] at this⟩
  have hbV : Below w0.heap.size w0 V := hb0.trans ((((Below.refl _ w).alloc (Nat.le_refl _) _).alloc (by simp) _).mono hb0.size)
  refine ⟨w.heap.size + 1, [{ target := .collected w.heap.size, args := #[] }], V, { target := .fn (.func gf) lb, args := #[.func (.yield (w.heap.size + 1)) #[] #[]] }, V, gf,
    #[.func (.yield (w.heap.size + 1)) #[] #[]] ++ lb, V, run_enterLoop_outer _ _ _ _ _, ?_, ?_, ?_, fun _ => h1, ?_⟩
  · simp only [resolve, hg]
    simp [go_sem]
  · intro f' hf'; simp [Target.leads] at hf'; subst hf'; exact hFg
  · simp [invoke, go_sem, eg]
  have hwide : ∀ {A : World} {row : Option Nat}, (∀ r, row = some r → V.heap.size ≤ r ∧ ∃ o : Obj, A.heap[r]? = some o ∧ o.isCells = false) → (∀ r, row = some r → w.heap.size ≤ r ∧ ∃ o : Obj, A.heap[r]? = some o ∧ o.isCells = false) :=
    fun hr r e => ⟨by have := (hr r e).1; omega, (hr r e).2⟩
  refine (hseq (w.heap.size + 1) (fun pre W => I pre W ∧ Book w.heap.size (mk .ready none) W) (fun pre W => ∃ c, Ix c pre W ∧ Book w.heap.size (mk .done (some c)) W) V hbV
    (fun s A B row hs hg' hr => ⟨hI s A B row hs.1 hg' (hwide hr), hs.2.grown hg' (fun j e => by have := (hr j e).1; omega)⟩)
    (fun s A B row ⟨c, hc, hk⟩ hg' hr => ⟨c, hIx c s A B row hc hg' (hwide hr), hk.grown hg' (fun j e => by have := (hr j e).1; omega)⟩)
    ?_ ⟨hI.alloc _ (hI.alloc _ h0), hV⟩).mono ?_
  · -- A ROUND
    rintro pre x W ⟨hi, hB⟩ hpre
    refine ⟨fn, _, assign, body, run_yield (P := P) (args := encs x) hB.2 (hps x), roundIn_of_wpIn hfn (hassign _ pre x W _ hi ?_)⟩
    intro a' Wa hka hba hia hax
    have hBa := hB.kept hka
    refine ⟨_, run_beginRound hBa.2 rfl, ?_⟩
    have hBb := hBa.turn (mk .busy none)
    have hk0 : KeepsFrom (w.heap.size + 2) W (Wa.putObj (w.heap.size + 1) (.loop (mk .busy none))) := (keepsFrom_mono hka (by omega)).trans (keepsFrom_put (by omega) _)
    have hb1 : Kp W (Wa.putObj (w.heap.size + 1) (.loop (mk .busy none))) := hKt hba (hKb Wa _ _ _ (by omega) hBa.2 rfl)
    refine wpIn_mono (hbody _ pre x a' _ (hI.putObj _ hia (by omega) hBa.2 rfl) ((hAx x a').putObj (s := ()) _ hax (by omega) hBa.2 rfl) hpre) ?_
    have stop : ∀ (c : Code) (W3 : World), KeepsFrom w.heap.size (Wa.putObj (w.heap.size + 1) (.loop (mk .busy none))) W3 → Ix c (pre ++ [x]) W3 →
        ∃ v W4, (Instr.endRound (w.heap.size + 1) (some c)).run P W3 = .ok v W4 ∧ (KeepsFrom V.heap.size W W4 ∧
          ((Ending.returned v = .returned (.bool true) ∧ (I (pre ++ [x]) W4 ∧ Book w.heap.size (mk .ready none) W4) ∧ Kp W W4) ∨ (Ending.returned v = .returned (.bool false) ∧ ∃ c, Ix c (pre ++ [x]) W4 ∧ Book w.heap.size (mk .done (some c)) W4))) := by
      intro c W3 hk3 hx
      have hB3 := hBb.kept hk3
      exact ⟨_, _, run_endRound (P := P) (some c) hB3.2, hVs ▸ (hk0.trans (keepsFrom_mono hk3 (by omega))).trans (keepsFrom_put (by omega) _), .inr ⟨rfl, c, (hIx c).putObj _ hx (by omega) hB3.2 rfl, hB3.turn _⟩⟩
    rintro e a3 W3 hp
    cases e with
    | normal =>
      obtain ⟨hk3, hb3, hi3⟩ := hp
      have hB3 := hBb.kept hk3
      exact ⟨_, _, run_endRound (P := P) none hB3.2, hVs ▸ (hk0.trans (keepsFrom_mono hk3 (by omega))).trans (keepsFrom_put (by omega) _),
        .inl ⟨rfl, ⟨hI.putObj _ hi3 (by omega) hB3.2 rfl, hB3.turn _⟩, hKt (hKt hb1 hb3) (hKb W3 _ _ _ (by omega) hB3.2 rfl)⟩⟩
    | ret => exact stop _ _ hp.1 hp.2
    | exit id => exact stop _ _ hp.1 hp.2
    | goto t => exact stop _ _ hp.1 hp.2
    | panic ch => exact hp.elim
    | outgrown => exact hp.elim
  · -- BEHIND THE ITERATOR
    rintro e W2 ⟨⟨v, rfl⟩, (⟨hi, hB⟩ | ⟨pre, hpre, c, hi, hB⟩)⟩
    · exact ⟨none, _, run_endLoop (P := P) hB.2 (by simp [mk]), hdone _ _ (Nat.le_refl _) (hI.putObj _ hi (by omega) hB.2 rfl) ((World.putObj_heap_other (by omega)).trans hB.1)⟩
    · exact ⟨some c, _, run_endLoop (P := P) hB.2 (by simp [mk]), hstop _ c pre _ (Nat.le_refl _) hpre ((hIx c).putObj _ hi (by omega) hB.2 rfl) ((World.putObj_heap_other (by omega)).trans hB.1)⟩

end Go.Proofs.Qxb6618604a
