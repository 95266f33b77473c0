import Derived.Test.Qxb6618604aFin
import Derived.OwnWalkIn
namespace Go.Proofs.Qxb6618604a
open Go.RowKit Go.Shelf
attribute [local go_sem] Oper.semAt_some

/-- append, its run known, as one step inside a fence. -/
theorem opIn_append {F : Fence} {n : Nat} {P : Program} {o : Oper} {a : Act} {w : World} {K : Act → World → Prop} {Q : Exit → Act → World → Prop}
    (s x : Operand) (t : TypeId) (hop : o.op = Op.call { callee := Callee.builtin Builtin.append, args := #[s, x], argTypes := #[t, t] })
    (vs vx v : Value) (w' : World) (hs : a.eval s = vs) (hx : a.eval x = vx) (hrun : (Builtin.append_ #[t, t] o.type #[vs, vx]).run P w = .ok v w') (h : K (a.put o.dst v) w') :
    o.wpIn F n P a w K Q := by
  unfold Oper.wpIn
  refine ⟨?_, ?_⟩
  · simp [Oper.about, hop, resolve, Target.leads, Sem.run_pure]
  · rw [Oper.semAt_plain F _ _ (by rw [hop]; intro c hc'; cases hc')]
    simp [execOp, hop, resolve, invoke, builtin, hs, hx, hrun, Result.andThen]
    exact h
/-- .. of a region that draws its order. -/
theorem step_append_in {F : Fence} {n : Nat} {P : Program} {ops : Array Oper} {o : Oper} {a : Act} {w : World} {K : Act → World → Prop} {Q : Exit → Act → World → Prop} {E : Prop} (hg : o.guard = none)
    (s x : Operand) (t : TypeId) (hop : o.op = Op.call { callee := Callee.builtin Builtin.append, args := #[s, x], argTypes := #[t, t] })
    (vs vx v : Value) (w' : World) (hs : a.eval s = vs) (hx : a.eval x = vx) (hrun : (Builtin.append_ #[t, t] o.type #[vs, vx]).run P w = .ok v w') (h : K (a.put o.dst v) w') :
    if Region.wanted o (yielded ops a.tmps) = true then Oper.wpIn F n P o a w K Q else E := by
  rw [if_pos (by simp [Region.wanted, hg])]
  exact opIn_append s x t hop vs vx v w' hs hx hrun h
/-- .. of one that does not. -/
theorem list_append_in {F : Fence} {n : Nat} {P : Program} {ops : Array Oper} {rest : List Oper} {o : Oper} {a : Act} {w : World} {Q : Exit → Act → World → Prop} (hg : o.guard = none)
    (s x : Operand) (t : TypeId) (hop : o.op = Op.call { callee := Callee.builtin Builtin.append, args := #[s, x], argTypes := #[t, t] })
    (vs vx v : Value) (w' : World) (hs : a.eval s = vs) (hx : a.eval x = vx) (hrun : (Builtin.append_ #[t, t] o.type #[vs, vx]).run P w = .ok v w') (h : wpListIn F n P ops Q rest (a.put o.dst v) w') :
    wpListIn F n P ops Q (o :: rest) a w :=
  wpListIn_plain hg fun _ hK => opIn_append s x t hop vs vx v w' hs hx hrun (hK _ _ h)

set_option maxRecDepth 100000 in
set_option maxHeartbeats 2000000 in
theorem zz_tail (a0 a1 a2 : Option Addr) (c0 c1 c2 n Br g : Nat) (T L H : Nat → Int) (lim : Int) (w W : World) (hn : n ≤ 32768) (hW : Built w lim T L H n Br g n W) (wl : ∀ j, j < n → I64 (L j)) (wh : ∀ j, j < n → I64 (H j)) (ht : total L H n ≤ 65536)
    (u11 u17 u18 u19 u20 u21 u22 u23 u24 u25 u26 u27 u28 u29 u30 u31 u32 u33 u34 u35 u36 u37 u38 u39 u40 u41 u42 u43 : Value) :
    Code.wp Try.prog (rest3 (Try.f13.body.getD .skip)) (bodyPostM Fence.wide 8 Try.prog Try.f13 fun e w' => RowsEnd w T L H n lim e w')
      { tmps := #[.slice a0 n c0, .slice a1 n c1, .slice a2 n c2, .int .i64 lim, undef, undef, undef, .pointer (some ⟨w.heap.size, 0, none⟩), .slice none 0 0, .slice none 0 0, .pointer (some ⟨Br, 0, none⟩), u11, undef, undef, undef, undef, undef,
          u17, u18, u19, u20, u21, u22, u23, u24, u25, u26, u27, u28, u29, u30, u31, u32, u33, u34, u35, u36, u37, u38, u39, u40, u41, u42, u43,
          undef, undef, undef, undef, undef, undef, undef, undef, undef, undef, undef, undef, undef, undef, undef, undef, undef, undef, undef, undef, undef, undef, undef, undef, undef, undef, undef, undef, undef, undef, undef, undef], defers := [] } W := by
  obtain ⟨bl, br, ⟨G, pg, hG, hrs⟩, hB⟩ := hW
  have cl := cell_kept (cell_kept bl.cell (World.grownBy_alloc W (.cells #[.slice none 0 0] 28) none) (fun r e => by cases e)) (World.grownBy_alloc _ (.cells #[.slice none 0 0] 29) none) (fun r e => by cases e)
  obtain ⟨c, hc⟩ : ∃ c, rest3 (Try.f13.body.getD .skip) = c := ⟨_, rfl⟩
  rw [hc]
  dsimp only [rest3, Try.f13, Option.getD] at hc
  subst hc
  by_cases hlim : lim ≤ 0
  · have hl0 : decide (lim ≤ 0) = true := decide_eq_true hlim
    go_wp2_with fail
    go_quiet (fail)
    go_wp2
    refine ⟨_, results_tmp2 rfl _ _ _, none, none, 0, 0, 0, rfl, by omega, fun j hj => absurd hj (by omega), fun j hj => absurd hj (by omega), ?_⟩
    exact below_call (below_alloc (below_alloc hB _) _) (below_draws _ _)
  · have hl0 : decide (lim ≤ 0) = false := decide_eq_false hlim
    have he := eql59
    go_wp2_with (go_at_call 20; refine (rowsOf_calls _ _).mono ?_; rintro e w' ⟨rfl, rfl⟩)
    have hgl := hG.lt
    have hrl := br.lt
    have hr0 : RunsAt W g n (fun j => (pg j, L j, H j)) := fun j hj => by
      obtain ⟨⟨q0, q1, q2⟩, _⟩ := hrs j hj
      exact ⟨by rw [hG.cell (by omega), q0], by rw [hG.cell (by omega), q1], by rw [hG.cell (by omega), q2]⟩
    have hb3 : Below W.heap.size W (((W.alloc (.cells #[.slice none 0 0] 28)).alloc (.cells #[.slice none 0 0] 29)).alloc (.cells #[.func (.func 19) #[] #[.pointer (some ⟨Br, 0, none⟩)]] 67)) := ((((Below.refl _ W).alloc (Nat.le_refl _) _).alloc (by simp) _).alloc (by simp; omega) _)
    have bk := ((Boxed.new W 28 (.slice none 0 0)).alloc (.cells #[.slice none 0 0] 29)).alloc (.cells #[.func (.func 19) #[] #[.pointer (some ⟨Br, 0, none⟩)]] 67)
    have bi := (Boxed.new (W.alloc (.cells #[.slice none 0 0] 28)) 29 (.slice none 0 0)).alloc (.cells #[.func (.func 19) #[] #[.pointer (some ⟨Br, 0, none⟩)]] 67)
    have bq := Boxed.new ((W.alloc (.cells #[.slice none 0 0] 28)).alloc (.cells #[.slice none 0 0] 29)) 67 (.func (.func 19) #[] #[.pointer (some ⟨Br, 0, none⟩)])
    have hsz : (((W.alloc (.cells #[.slice none 0 0] 28)).alloc (.cells #[.slice none 0 0] 29)).alloc (.cells #[.func (.func 19) #[] #[.pointer (some ⟨Br, 0, none⟩)]] 67)).heap.size = W.heap.size + 1 + 1 + 1 := by simp
    simp only [World.size_alloc] at bi bq
    obtain ⟨W0, hW0⟩ : ∃ W0, ((W.alloc (.cells #[.slice none 0 0] 28)).alloc (.cells #[.slice none 0 0] 29)).alloc (.cells #[.func (.func 19) #[] #[.pointer (some ⟨Br, 0, none⟩)]] 67) = W0 := ⟨_, rfl⟩
    rw [hW0] at bk bi bq hb3 hsz ⊢
    clear hW0 cl
    have hseq := seq_stops Fence.wide 6 trivial rfl (by omega) Br W.heap.size g n n (fun j => (pg j, L j, H j)) (by omega) hgl W0 (by omega) (by omega) ((hb3.cell (p := ⟨Br, 0, none⟩) hrl).trans br.cell) (hr0.below hgl hb3)
    have hrows := rows_stops Fence.wide rfl 7 trivial trivial rfl (by omega) (W.heap.size + 1 + 1) W.heap.size _ (upto (fun j => (pg j, L j, H j)) n) (by
      intro r hr
      simp only [upto, List.mem_map, List.mem_range] at hr
      obtain ⟨j, hj, rfl⟩ := hr
      exact ⟨wl j hj, wh j hj⟩) W0 (by omega) (by omega) bq.cell hseq
    have hpage : ∀ x ∈ flat (upto (fun j => (pg j, L j, H j)) n), x.1 < W.heap.size ∧ W.cell? ⟨x.1, 1, none⟩ = some (rkV W x) := by
      intro x hx
      obtain ⟨j, hj, e⟩ := mem_flat_upto hx
      have hp := (hrs j hj).2
      have hc := page_cell hp
      rw [e]
      exact ⟨(Array.getElem?_eq_some_iff.1 hp).1, by rw [rkV, e, tagOf_eq hc]; exact hc⟩
    have hlen : (flat (upto (fun j => (pg j, L j, H j)) n)).length ≤ 65536 := by rw [flat_length]; exact ht
    refine wpIn_wide.1 (wpIn_rangeX (F := Fence.wide) (n := 8) rfl (by omega) (gf := 24) (lb := #[.pointer (some ⟨W.heap.size + 1 + 1, 0, none⟩)]) rfl trivial (enters_of Try.func24 (by kernel_rfl) rfl) hrows Kp24.trans
      (fun X l o o' hl h hc => ⟨below_b (w := W0) (by omega) X l o o' hl h hc, fun k c t _ hk => (World.putObj_heap_other (by rintro rfl; rw [h] at hk; cases hk; cases hc)).trans hk⟩) (Below.refl _ _) (fun _ => rfl)
      (fun pre W' => (((∃ v, Boxed W' W.heap.size 28 v ∧ W'.ownsRow W.heap.size 35 1 v pre.length (pre.map (rkV W)) ∧ True) ∧ (∃ v, Boxed W' (W.heap.size + 1) 29 v ∧ W'.ownsRow W.heap.size 3 1 v pre.length (pre.map ixV) ∧ True)) ∧ (pre.length : Int) < lim) ∧ Below W.heap.size W W')
      (fun c pre W' => (((∃ v, Boxed W' W.heap.size 28 v ∧ W'.ownsRow W.heap.size 35 1 v pre.length (pre.map (rkV W)) ∧ True) ∧ (∃ v, Boxed W' (W.heap.size + 1) 29 v ∧ W'.ownsRow W.heap.size 3 1 v pre.length (pre.map ixV) ∧ True)) ∧ (c = .exit 2 ∧ (pre.length : Int) = lim)) ∧ Below W.heap.size W W')
      (OwnFrom.and (OwnFrom.and (OwnFrom.and (Own.from (holdsRow_own _ _ 28 35 1 (fun pre : List RowV => pre.length) _ (fun _ _ => True)) _) (Own.from (holdsRow_own _ _ 29 3 1 (fun pre : List RowV => pre.length) _ (fun _ _ => True)) _)) (ownFrom_pure _ _)) (ownFrom_below (Nat.le_refl _) (by omega)))
      (fun c => OwnFrom.and (OwnFrom.and (OwnFrom.and (Own.from (holdsRow_own _ _ 28 35 1 (fun pre : List RowV => pre.length) _ (fun _ _ => True)) _) (Own.from (holdsRow_own _ _ 29 3 1 (fun pre : List RowV => pre.length) _ (fun _ _ => True)) _)) (ownFrom_pure _ _)) (ownFrom_below (Nat.le_refl _) (by omega)))
      ⟨⟨⟨⟨_, bk, World.ownsRow_nil _ _ _ _, trivial⟩, ⟨_, bi, World.ownsRow_nil _ _ _ _, trivial⟩⟩, by simpa using hlim⟩, hb3⟩
      (fun x a' W' => ∃ Bx, W'.heap[Bx]? = some (Obj.cells #[.pointer (some ⟨x.1, 0, none⟩), .int .i64 x.2] 62 (0, 0)) ∧ a' = { tmps := #[.slice a0 n c0, .slice a1 n c1, .slice a2 n c2, .int .i64 lim, undef, undef, undef, .pointer (some ⟨w.heap.size, 0, none⟩), .slice none 0 0, .slice none 0 0, .pointer (some ⟨Br, 0, none⟩), u11,
          .func (.func 19) #[] #[.pointer (some ⟨Br, 0, none⟩)], .pointer (some ⟨W.heap.size, 0, none⟩), .pointer (some ⟨W.heap.size + 1, 0, none⟩), .func (.func 24) #[] #[.pointer (some ⟨W.heap.size + 1 + 1, 0, none⟩)], .pointer (some ⟨Bx, 0, none⟩),
          u17, u18, u19, u20, u21, u22, u23, u24, u25, u26, u27, u28, u29, u30, u31, u32, u33, u34, u35, u36, u37, u38, u39, u40, u41, u42, u43,
          .func (.func 19) #[] #[.pointer (some ⟨Br, 0, none⟩)], .int .i64 lim, .bool false, undef, undef, .func (.func 19) #[] #[.pointer (some ⟨Br, 0, none⟩)], .func (.func 24) #[] #[.pointer (some ⟨W.heap.size + 1 + 1, 0, none⟩)], .func (.func 24) #[] #[.pointer (some ⟨W.heap.size + 1 + 1, 0, none⟩)],
          .bool false, undef, undef, .func (.func 24) #[] #[.pointer (some ⟨W.heap.size + 1 + 1, 0, none⟩)], .agg #[.pointer (some ⟨x.1, 0, none⟩), .int .i64 x.2],
          undef, undef, undef, undef, undef, undef, undef, undef, undef, undef, undef, undef, undef, undef, undef, undef, undef, undef, undef], defers := [] })
      (fun x a' _ X Y row hs hg hr => by obtain ⟨Bx, e1, e2⟩ := hs; exact ⟨Bx, cells_own (β := Unit) Bx _ 62 () X Y row e1 hg (fun r e => (hr r e).2), e2⟩)
      ?assign ?body ?done ?stop)
    case assign =>
      rintro l pre x W1 K ⟨⟨⟨⟨v, hv, ho, _⟩, ⟨v', hv', ho', _⟩⟩, hp⟩, hB1⟩ hK
      simp only [encRow]
      gi_wp2
      refine hK _ _ ((KeepsOthers.alloc _ _).from _) ⟨(Below.refl _ W1).alloc hB1.size _, fun k c t _ hk => (Below.heap_alloc _ _ _ (Array.getElem?_eq_some_iff.1 hk).1).trans hk⟩ ⟨⟨⟨⟨v, hv.alloc _, ho.alloc _, trivial⟩, ⟨v', hv'.alloc _, ho'.alloc _, trivial⟩⟩, hp⟩, hB1.alloc hB1.size _⟩ ⟨W1.heap.size, World.alloc_heap_new W1 _, rfl⟩
    case body =>
      rintro l pre x a' W1 ⟨⟨⟨⟨v, hv, ho, _⟩, ⟨v', hv', ho', _⟩⟩, hp⟩, hB1⟩ ⟨Bx, hX, rfl⟩ hpre
      obtain ⟨cx0, cx1⟩ := cells2 hX
      obtain ⟨hx1, hx2⟩ := hpage x (hpre.subset (by simp))
      have cpg := (hB1.cell (p := ⟨x.1, 1, none⟩) hx1).trans hx2
      have cli := (hB1.cell (p := ⟨w.heap.size, 0, none⟩) bl.lt).trans bl.cell
      have hpl : pre.length ≤ 65536 := by have := hpre.length_le; simp at this; omega
      obtain ⟨i35, hi35, p0, p1, p2⟩ := info_parts info35
      obtain ⟨i3, hi3, q0, q1, q2⟩ := info_parts info3
      obtain ⟨ra, rc, g1, cap1, w1, rfl, hap1, hv1, hv2, hr2, hk2, hb2, hot1⟩ := app_step (W := W1.drew) (tt := 28) (rkV W x) rfl Try.underlying28 hi35 p0 p1 p2 rfl hv (by decide) ho hB1.size (Nat.le_refl _) hpl
      have hX2 := (hot1 Bx _ 62 (by decide) hX).2 (by decide)
      have hv'2 : Boxed (w1.setCell ⟨W.heap.size, 0, none⟩ (.slice (some ⟨g1, 0, none⟩) (pre.length + 1) cap1)) (W.heap.size + 1) 29 v' := (hot1 _ _ 29 (by decide) hv').2 (by decide)
      have ho'2 : (w1.setCell ⟨W.heap.size, 0, none⟩ (.slice (some ⟨g1, 0, none⟩) (pre.length + 1) cap1)).ownsRow W.heap.size 3 1 v' pre.length (pre.map ixV) := owns_kept ho' (fun g c hg _ => (hot1 g c 3 (by decide) hg).2 (by decide))
      have hsz2 := hb2.size
      obtain ⟨ia, ic, g2, cap2, w3, rfl, hap2, hv3, hv4, hr4, hk4, hb4, hot3⟩ := app_step (W := w1.setCell ⟨W.heap.size, 0, none⟩ (.slice (some ⟨g1, 0, none⟩) (pre.length + 1) cap1)) (tt := 29) (ixV x) rfl Try.underlying29 hi3 q0 q1 q2 rfl hv'2 (by decide) ho'2 (Nat.le_trans hB1.size hsz2) (by omega) hpl
      have hap1' : (Builtin.append_ #[28, 28] 28 #[.slice ra pre.length rc, .slice (some ⟨W1.heap.size, 0, none⟩) 1 1]).run Try.prog (W1.alloc (.cells #[.int .u64 (tagOf W x.1)] 35)).drew = .ok (.slice (some ⟨g1, 0, none⟩) (pre.length + 1) cap1) w1 := hap1
      have RK : KeepsOthers W1 (w3.setCell ⟨W.heap.size + 1, 0, none⟩ (.slice (some ⟨g2, 0, none⟩) (pre.length + 1) cap2)) := KeepsOthers.trans (B := w1.setCell ⟨W.heap.size, 0, none⟩ (.slice (some ⟨g1, 0, none⟩) (pre.length + 1) cap1)) ((KeepsOthers.drew W1).trans hk2) hk4
      have RB : Below W.heap.size W1 (w3.setCell ⟨W.heap.size + 1, 0, none⟩ (.slice (some ⟨g2, 0, none⟩) (pre.length + 1) cap2)) := (((Below.refl W.heap.size W1).drew).trans hb2).trans hb4
      have RX : KeptBoxes W1 (w3.setCell ⟨W.heap.size + 1, 0, none⟩ (.slice (some ⟨g2, 0, none⟩) (pre.length + 1) cap2)) := fun k c t ht hk => by
        have n1 : t ≠ 35 ∧ t ≠ 28 ∧ t ≠ 3 ∧ t ≠ 29 := by rcases ht with rfl | rfl <;> decide
        exact (hot3 k c t n1.2.2.1 ((hot1 k c t n1.1 hk).2 n1.2.1)).2 n1.2.2.2
      have R1 : Boxed (w3.setCell ⟨W.heap.size + 1, 0, none⟩ (.slice (some ⟨g2, 0, none⟩) (pre.length + 1) cap2)) W.heap.size 28 (.slice (some ⟨g1, 0, none⟩) (pre.length + 1) cap1) := (hot3 _ _ 28 (by decide) hv2).2 (by decide)
      have R2 : (w3.setCell ⟨W.heap.size + 1, 0, none⟩ (.slice (some ⟨g2, 0, none⟩) (pre.length + 1) cap2)).ownsRow W.heap.size 35 1 (.slice (some ⟨g1, 0, none⟩) (pre.length + 1) cap1) (pre ++ [x]).length ((pre ++ [x]).map (rkV W)) := by
        rw [List.length_append, List.map_append]
        exact owns_kept hr2 (fun g c hg _ => (hot3 g c 35 (by decide) hg).2 (by decide))
      have R4 : (w3.setCell ⟨W.heap.size + 1, 0, none⟩ (.slice (some ⟨g2, 0, none⟩) (pre.length + 1) cap2)).ownsRow W.heap.size 3 1 (.slice (some ⟨g2, 0, none⟩) (pre.length + 1) cap2) (pre ++ [x]).length ((pre ++ [x]).map ixV) := by
        rw [List.length_append, List.map_append]
        exact hr4
      have c13 := hv.cell
      have c13a := (hv.alloc (.cells #[.int .u64 (tagOf W x.1)] 35)).cell
      have s13 := hv1.cell
      have f13 := hv1.frozen
      have c14 := hv'2.cell
      have cx1' := (cells2 hX2).2
      have s14 := hv3.cell
      have f14 := hv3.frozen
      have c14' := hv4.cell
      have cli4 := ((show Below W.heap.size W1 _ from RB).cell (p := ⟨w.heap.size, 0, none⟩) bl.lt).trans cli
      have RR : Hid (KeepsOthers W1 (w3.setCell ⟨W.heap.size + 1, 0, none⟩ (.slice (some ⟨g2, 0, none⟩) (pre.length + 1) cap2)) ∧ Kp24 W.heap.size W1 (w3.setCell ⟨W.heap.size + 1, 0, none⟩ (.slice (some ⟨g2, 0, none⟩) (pre.length + 1) cap2)) ∧
        ((∃ v, Boxed (w3.setCell ⟨W.heap.size + 1, 0, none⟩ (.slice (some ⟨g2, 0, none⟩) (pre.length + 1) cap2)) W.heap.size 28 v ∧ (w3.setCell ⟨W.heap.size + 1, 0, none⟩ (.slice (some ⟨g2, 0, none⟩) (pre.length + 1) cap2)).ownsRow W.heap.size 35 1 v (pre ++ [x]).length ((pre ++ [x]).map (rkV W)) ∧ True) ∧
         (∃ v, Boxed (w3.setCell ⟨W.heap.size + 1, 0, none⟩ (.slice (some ⟨g2, 0, none⟩) (pre.length + 1) cap2)) (W.heap.size + 1) 29 v ∧ (w3.setCell ⟨W.heap.size + 1, 0, none⟩ (.slice (some ⟨g2, 0, none⟩) (pre.length + 1) cap2)).ownsRow W.heap.size 3 1 v (pre ++ [x]).length ((pre ++ [x]).map ixV) ∧ True)) ∧
        Below W.heap.size W (w3.setCell ⟨W.heap.size + 1, 0, none⟩ (.slice (some ⟨g2, 0, none⟩) (pre.length + 1) cap2))) := ⟨RK, ⟨RB, RX⟩, ⟨⟨_, R1, R2, trivial⟩, ⟨_, hv4, R4, trivial⟩⟩, hB1.trans RB⟩
      simp only [rkV, ixV, World.size_setCell] at cpg hap2
      clear hap1 RK RB RX R1 R2 R4 hv hv1 hv2 hr2 hk2 hb2 hot1 hX hX2 hv'2 ho'2 hv3 hv4 hr4 hk4 hb4 hot3 ho ho' hv' cli hx2 hpage hrows hseq hr0 bk bi bq hb3 wl wh hrs hG br hi35 p0 p1 p2 hi3 q0 q1 q2 he hl0
      by_cases hcl : lim ≤ (pre.length : Int) + 1
      · have hcd : decide (lim ≤ (pre.length : Int) + 1) = true := decide_eq_true hcl
        gi_wp2
        refine wpIn_region_any (by kernel_rfl) ?_
        change wpAnyIn _ _ _ _ _ _ _ _ _ (World.drew _)
        refine wpAnyIn_ready (rs := [0, 1]) (by kernel_rfl) (by simp) ?_
        refine AllReadyIn.cons rfl (fun K hK => ?_) ?_
        · go_simp
          refine hK _ _ ?_
          clear hK K
          refine wpAnyIn_ready (rs := [1]) (by kernel_rfl) (by simp) ?_
          refine AllReadyIn.cons rfl (fun K hK => ?_) ?_
          · go_simp
            refine hK _ _ ?_
            clear hK K
            refine wpAnyIn_ready (rs := [2]) (by kernel_rfl) (by simp) ?_
            refine AllReadyIn.cons rfl (fun K hK => ?_) ?_
            · go_simp
              refine hK _ _ ?_
              clear hK K
              refine wpAnyIn_ready (rs := [3]) (by kernel_rfl) (by simp) ?_
              refine AllReadyIn.cons rfl (fun K hK => ?_) ?_
              · go_simp
                refine hK _ _ ?_
                clear hK K
                refine wpAnyIn_ready (rs := [4]) (by kernel_rfl) (by simp) ?_
                refine AllReadyIn.cons rfl (fun K hK => ?_) ?_
                · go_simp
                  refine hK _ _ ?_
                  clear hK K
                  refine wpAnyIn_ready (rs := [5]) (by kernel_rfl) (by simp) ?_
                  refine AllReadyIn.cons rfl (fun K hK => ?_) ?_
                  · go_simp
                    refine hK _ _ ?_
                    clear hK K
                    refine wpAnyIn_ready (rs := [6]) (by kernel_rfl) (by simp) ?_
                    refine AllReadyIn.cons rfl (fun K hK => ?_) ?_
                    · go_simp
                      refine hK _ _ ?_
                      clear hK K
                      refine wpAnyIn_ready (rs := [7]) (by kernel_rfl) (by simp) ?_
                      refine AllReadyIn.cons rfl (fun K hK => ?_) ?_
                      · refine step_append_in rfl _ _ 28 rfl _ _ _ _ rfl rfl hap1' ?_
                        refine hK _ _ ?_
                        clear hK K
                        refine wpAnyIn_ready (rs := [8]) (by kernel_rfl) (by simp) ?_
                        refine AllReadyIn.cons rfl (fun K hK => ?_) ?_
                        · go_simp
                          refine hK _ _ ?_
                          clear hK K
                          refine wpAnyIn_done (by kernel_rfl) ?_ _
                          gi_wp2_with (gi_at_builtin; refine list_append_in rfl _ _ 29 rfl _ _ _ _ rfl rfl hap2 ?_)
                          exact ⟨RR.out.1.from _, ⟨RR.out.2.2.1, rfl, by simp; omega⟩, RR.out.2.2.2⟩
                        exact AllReadyIn.nil
                      exact AllReadyIn.nil
                    exact AllReadyIn.nil
                  exact AllReadyIn.nil
                exact AllReadyIn.nil
              exact AllReadyIn.nil
            exact AllReadyIn.nil
          exact AllReadyIn.nil
        refine AllReadyIn.cons rfl (fun K hK => ?_) ?_
        · go_simp
          refine hK _ _ ?_
          clear hK K
          refine wpAnyIn_ready (rs := [0, 2]) (by kernel_rfl) (by simp) ?_
          refine AllReadyIn.cons rfl (fun K hK => ?_) ?_
          · go_simp
            refine hK _ _ ?_
            clear hK K
            refine wpAnyIn_ready (rs := [2]) (by kernel_rfl) (by simp) ?_
            refine AllReadyIn.cons rfl (fun K hK => ?_) ?_
            · go_simp
              refine hK _ _ ?_
              clear hK K
              refine wpAnyIn_ready (rs := [3]) (by kernel_rfl) (by simp) ?_
              refine AllReadyIn.cons rfl (fun K hK => ?_) ?_
              · go_simp
                refine hK _ _ ?_
                clear hK K
                refine wpAnyIn_ready (rs := [4]) (by kernel_rfl) (by simp) ?_
                refine AllReadyIn.cons rfl (fun K hK => ?_) ?_
                · go_simp
                  refine hK _ _ ?_
                  clear hK K
                  refine wpAnyIn_ready (rs := [5]) (by kernel_rfl) (by simp) ?_
                  refine AllReadyIn.cons rfl (fun K hK => ?_) ?_
                  · go_simp
                    refine hK _ _ ?_
                    clear hK K
                    refine wpAnyIn_ready (rs := [6]) (by kernel_rfl) (by simp) ?_
                    refine AllReadyIn.cons rfl (fun K hK => ?_) ?_
                    · go_simp
                      refine hK _ _ ?_
                      clear hK K
                      refine wpAnyIn_ready (rs := [7]) (by kernel_rfl) (by simp) ?_
                      refine AllReadyIn.cons rfl (fun K hK => ?_) ?_
                      · refine step_append_in rfl _ _ 28 rfl _ _ _ _ rfl rfl hap1' ?_
                        refine hK _ _ ?_
                        clear hK K
                        refine wpAnyIn_ready (rs := [8]) (by kernel_rfl) (by simp) ?_
                        refine AllReadyIn.cons rfl (fun K hK => ?_) ?_
                        · go_simp
                          refine hK _ _ ?_
                          clear hK K
                          refine wpAnyIn_done (by kernel_rfl) ?_ _
                          gi_wp2_with (gi_at_builtin; refine list_append_in rfl _ _ 29 rfl _ _ _ _ rfl rfl hap2 ?_)
                          exact ⟨RR.out.1.from _, ⟨RR.out.2.2.1, rfl, by simp; omega⟩, RR.out.2.2.2⟩
                        exact AllReadyIn.nil
                      exact AllReadyIn.nil
                    exact AllReadyIn.nil
                  exact AllReadyIn.nil
                exact AllReadyIn.nil
              exact AllReadyIn.nil
            exact AllReadyIn.nil
          refine AllReadyIn.cons rfl (fun K hK => ?_) ?_
          · go_simp
            refine hK _ _ ?_
            clear hK K
            refine wpAnyIn_ready (rs := [0, 3]) (by kernel_rfl) (by simp) ?_
            refine AllReadyIn.cons rfl (fun K hK => ?_) ?_
            · go_simp
              refine hK _ _ ?_
              clear hK K
              refine wpAnyIn_ready (rs := [3]) (by kernel_rfl) (by simp) ?_
              refine AllReadyIn.cons rfl (fun K hK => ?_) ?_
              · go_simp
                refine hK _ _ ?_
                clear hK K
                refine wpAnyIn_ready (rs := [4]) (by kernel_rfl) (by simp) ?_
                refine AllReadyIn.cons rfl (fun K hK => ?_) ?_
                · go_simp
                  refine hK _ _ ?_
                  clear hK K
                  refine wpAnyIn_ready (rs := [5]) (by kernel_rfl) (by simp) ?_
                  refine AllReadyIn.cons rfl (fun K hK => ?_) ?_
                  · go_simp
                    refine hK _ _ ?_
                    clear hK K
                    refine wpAnyIn_ready (rs := [6]) (by kernel_rfl) (by simp) ?_
                    refine AllReadyIn.cons rfl (fun K hK => ?_) ?_
                    · go_simp
                      refine hK _ _ ?_
                      clear hK K
                      refine wpAnyIn_ready (rs := [7]) (by kernel_rfl) (by simp) ?_
                      refine AllReadyIn.cons rfl (fun K hK => ?_) ?_
                      · refine step_append_in rfl _ _ 28 rfl _ _ _ _ rfl rfl hap1' ?_
                        refine hK _ _ ?_
                        clear hK K
                        refine wpAnyIn_ready (rs := [8]) (by kernel_rfl) (by simp) ?_
                        refine AllReadyIn.cons rfl (fun K hK => ?_) ?_
                        · go_simp
                          refine hK _ _ ?_
                          clear hK K
                          refine wpAnyIn_done (by kernel_rfl) ?_ _
                          gi_wp2_with (gi_at_builtin; refine list_append_in rfl _ _ 29 rfl _ _ _ _ rfl rfl hap2 ?_)
                          exact ⟨RR.out.1.from _, ⟨RR.out.2.2.1, rfl, by simp; omega⟩, RR.out.2.2.2⟩
                        exact AllReadyIn.nil
                      exact AllReadyIn.nil
                    exact AllReadyIn.nil
                  exact AllReadyIn.nil
                exact AllReadyIn.nil
              exact AllReadyIn.nil
            refine AllReadyIn.cons rfl (fun K hK => ?_) ?_
            · go_simp
              refine hK _ _ ?_
              clear hK K
              refine wpAnyIn_ready (rs := [0, 4]) (by kernel_rfl) (by simp) ?_
              refine AllReadyIn.cons rfl (fun K hK => ?_) ?_
              · go_simp
                refine hK _ _ ?_
                clear hK K
                refine wpAnyIn_ready (rs := [4]) (by kernel_rfl) (by simp) ?_
                refine AllReadyIn.cons rfl (fun K hK => ?_) ?_
                · go_simp
                  refine hK _ _ ?_
                  clear hK K
                  refine wpAnyIn_ready (rs := [5]) (by kernel_rfl) (by simp) ?_
                  refine AllReadyIn.cons rfl (fun K hK => ?_) ?_
                  · go_simp
                    refine hK _ _ ?_
                    clear hK K
                    refine wpAnyIn_ready (rs := [6]) (by kernel_rfl) (by simp) ?_
                    refine AllReadyIn.cons rfl (fun K hK => ?_) ?_
                    · go_simp
                      refine hK _ _ ?_
                      clear hK K
                      refine wpAnyIn_ready (rs := [7]) (by kernel_rfl) (by simp) ?_
                      refine AllReadyIn.cons rfl (fun K hK => ?_) ?_
                      · refine step_append_in rfl _ _ 28 rfl _ _ _ _ rfl rfl hap1' ?_
                        refine hK _ _ ?_
                        clear hK K
                        refine wpAnyIn_ready (rs := [8]) (by kernel_rfl) (by simp) ?_
                        refine AllReadyIn.cons rfl (fun K hK => ?_) ?_
                        · go_simp
                          refine hK _ _ ?_
                          clear hK K
                          refine wpAnyIn_done (by kernel_rfl) ?_ _
                          gi_wp2_with (gi_at_builtin; refine list_append_in rfl _ _ 29 rfl _ _ _ _ rfl rfl hap2 ?_)
                          exact ⟨RR.out.1.from _, ⟨RR.out.2.2.1, rfl, by simp; omega⟩, RR.out.2.2.2⟩
                        exact AllReadyIn.nil
                      exact AllReadyIn.nil
                    exact AllReadyIn.nil
                  exact AllReadyIn.nil
                exact AllReadyIn.nil
              refine AllReadyIn.cons rfl (fun K hK => ?_) ?_
              · go_simp
                refine hK _ _ ?_
                clear hK K
                refine wpAnyIn_ready (rs := [0, 5]) (by kernel_rfl) (by simp) ?_
                refine AllReadyIn.cons rfl (fun K hK => ?_) ?_
                · go_simp
                  refine hK _ _ ?_
                  clear hK K
                  refine wpAnyIn_ready (rs := [5]) (by kernel_rfl) (by simp) ?_
                  refine AllReadyIn.cons rfl (fun K hK => ?_) ?_
                  · go_simp
                    refine hK _ _ ?_
                    clear hK K
                    refine wpAnyIn_ready (rs := [6]) (by kernel_rfl) (by simp) ?_
                    refine AllReadyIn.cons rfl (fun K hK => ?_) ?_
                    · go_simp
                      refine hK _ _ ?_
                      clear hK K
                      refine wpAnyIn_ready (rs := [7]) (by kernel_rfl) (by simp) ?_
                      refine AllReadyIn.cons rfl (fun K hK => ?_) ?_
                      · refine step_append_in rfl _ _ 28 rfl _ _ _ _ rfl rfl hap1' ?_
                        refine hK _ _ ?_
                        clear hK K
                        refine wpAnyIn_ready (rs := [8]) (by kernel_rfl) (by simp) ?_
                        refine AllReadyIn.cons rfl (fun K hK => ?_) ?_
                        · go_simp
                          refine hK _ _ ?_
                          clear hK K
                          refine wpAnyIn_done (by kernel_rfl) ?_ _
                          gi_wp2_with (gi_at_builtin; refine list_append_in rfl _ _ 29 rfl _ _ _ _ rfl rfl hap2 ?_)
                          exact ⟨RR.out.1.from _, ⟨RR.out.2.2.1, rfl, by simp; omega⟩, RR.out.2.2.2⟩
                        exact AllReadyIn.nil
                      exact AllReadyIn.nil
                    exact AllReadyIn.nil
                  exact AllReadyIn.nil
                refine AllReadyIn.cons rfl (fun K hK => ?_) ?_
                · go_simp
                  refine hK _ _ ?_
                  clear hK K
                  refine wpAnyIn_ready (rs := [0, 6]) (by kernel_rfl) (by simp) ?_
                  refine AllReadyIn.cons rfl (fun K hK => ?_) ?_
                  · go_simp
                    refine hK _ _ ?_
                    clear hK K
                    refine wpAnyIn_ready (rs := [6]) (by kernel_rfl) (by simp) ?_
                    refine AllReadyIn.cons rfl (fun K hK => ?_) ?_
                    · go_simp
                      refine hK _ _ ?_
                      clear hK K
                      refine wpAnyIn_ready (rs := [7]) (by kernel_rfl) (by simp) ?_
                      refine AllReadyIn.cons rfl (fun K hK => ?_) ?_
                      · refine step_append_in rfl _ _ 28 rfl _ _ _ _ rfl rfl hap1' ?_
                        refine hK _ _ ?_
                        clear hK K
                        refine wpAnyIn_ready (rs := [8]) (by kernel_rfl) (by simp) ?_
                        refine AllReadyIn.cons rfl (fun K hK => ?_) ?_
                        · go_simp
                          refine hK _ _ ?_
                          clear hK K
                          refine wpAnyIn_done (by kernel_rfl) ?_ _
                          gi_wp2_with (gi_at_builtin; refine list_append_in rfl _ _ 29 rfl _ _ _ _ rfl rfl hap2 ?_)
                          exact ⟨RR.out.1.from _, ⟨RR.out.2.2.1, rfl, by simp; omega⟩, RR.out.2.2.2⟩
                        exact AllReadyIn.nil
                      exact AllReadyIn.nil
                    exact AllReadyIn.nil
                  refine AllReadyIn.cons rfl (fun K hK => ?_) ?_
                  · go_simp
                    refine hK _ _ ?_
                    clear hK K
                    refine wpAnyIn_ready (rs := [0]) (by kernel_rfl) (by simp) ?_
                    refine AllReadyIn.cons rfl (fun K hK => ?_) ?_
                    · go_simp
                      refine hK _ _ ?_
                      clear hK K
                      refine wpAnyIn_ready (rs := [7]) (by kernel_rfl) (by simp) ?_
                      refine AllReadyIn.cons rfl (fun K hK => ?_) ?_
                      · refine step_append_in rfl _ _ 28 rfl _ _ _ _ rfl rfl hap1' ?_
                        refine hK _ _ ?_
                        clear hK K
                        refine wpAnyIn_ready (rs := [8]) (by kernel_rfl) (by simp) ?_
                        refine AllReadyIn.cons rfl (fun K hK => ?_) ?_
                        · go_simp
                          refine hK _ _ ?_
                          clear hK K
                          refine wpAnyIn_done (by kernel_rfl) ?_ _
                          gi_wp2_with (gi_at_builtin; refine list_append_in rfl _ _ 29 rfl _ _ _ _ rfl rfl hap2 ?_)
                          exact ⟨RR.out.1.from _, ⟨RR.out.2.2.1, rfl, by simp; omega⟩, RR.out.2.2.2⟩
                        exact AllReadyIn.nil
                      exact AllReadyIn.nil
                    exact AllReadyIn.nil
                  exact AllReadyIn.nil
                exact AllReadyIn.nil
              exact AllReadyIn.nil
            exact AllReadyIn.nil
          exact AllReadyIn.nil
        exact AllReadyIn.nil
      · have hcd : decide (lim ≤ (pre.length : Int) + 1) = false := decide_eq_false hcl
        gi_wp2
        refine wpIn_region_any (by kernel_rfl) ?_
        change wpAnyIn _ _ _ _ _ _ _ _ _ (World.drew _)
        refine wpAnyIn_ready (rs := [0, 1]) (by kernel_rfl) (by simp) ?_
        refine AllReadyIn.cons rfl (fun K hK => ?_) ?_
        · go_simp
          refine hK _ _ ?_
          clear hK K
          refine wpAnyIn_ready (rs := [1]) (by kernel_rfl) (by simp) ?_
          refine AllReadyIn.cons rfl (fun K hK => ?_) ?_
          · go_simp
            refine hK _ _ ?_
            clear hK K
            refine wpAnyIn_ready (rs := [2]) (by kernel_rfl) (by simp) ?_
            refine AllReadyIn.cons rfl (fun K hK => ?_) ?_
            · go_simp
              refine hK _ _ ?_
              clear hK K
              refine wpAnyIn_ready (rs := [3]) (by kernel_rfl) (by simp) ?_
              refine AllReadyIn.cons rfl (fun K hK => ?_) ?_
              · go_simp
                refine hK _ _ ?_
                clear hK K
                refine wpAnyIn_ready (rs := [4]) (by kernel_rfl) (by simp) ?_
                refine AllReadyIn.cons rfl (fun K hK => ?_) ?_
                · go_simp
                  refine hK _ _ ?_
                  clear hK K
                  refine wpAnyIn_ready (rs := [5]) (by kernel_rfl) (by simp) ?_
                  refine AllReadyIn.cons rfl (fun K hK => ?_) ?_
                  · go_simp
                    refine hK _ _ ?_
                    clear hK K
                    refine wpAnyIn_ready (rs := [6]) (by kernel_rfl) (by simp) ?_
                    refine AllReadyIn.cons rfl (fun K hK => ?_) ?_
                    · go_simp
                      refine hK _ _ ?_
                      clear hK K
                      refine wpAnyIn_ready (rs := [7]) (by kernel_rfl) (by simp) ?_
                      refine AllReadyIn.cons rfl (fun K hK => ?_) ?_
                      · refine step_append_in rfl _ _ 28 rfl _ _ _ _ rfl rfl hap1' ?_
                        refine hK _ _ ?_
                        clear hK K
                        refine wpAnyIn_ready (rs := [8]) (by kernel_rfl) (by simp) ?_
                        refine AllReadyIn.cons rfl (fun K hK => ?_) ?_
                        · go_simp
                          refine hK _ _ ?_
                          clear hK K
                          refine wpAnyIn_done (by kernel_rfl) ?_ _
                          gi_wp2_with (gi_at_builtin; refine list_append_in rfl _ _ 29 rfl _ _ _ _ rfl rfl hap2 ?_)
                          exact ⟨RR.out.1.from _, RR.out.2.1, ⟨RR.out.2.2.1, by simp; omega⟩, RR.out.2.2.2⟩
                        exact AllReadyIn.nil
                      exact AllReadyIn.nil
                    exact AllReadyIn.nil
                  exact AllReadyIn.nil
                exact AllReadyIn.nil
              exact AllReadyIn.nil
            exact AllReadyIn.nil
          exact AllReadyIn.nil
        refine AllReadyIn.cons rfl (fun K hK => ?_) ?_
        · go_simp
          refine hK _ _ ?_
          clear hK K
          refine wpAnyIn_ready (rs := [0, 2]) (by kernel_rfl) (by simp) ?_
          refine AllReadyIn.cons rfl (fun K hK => ?_) ?_
          · go_simp
            refine hK _ _ ?_
            clear hK K
            refine wpAnyIn_ready (rs := [2]) (by kernel_rfl) (by simp) ?_
            refine AllReadyIn.cons rfl (fun K hK => ?_) ?_
            · go_simp
              refine hK _ _ ?_
              clear hK K
              refine wpAnyIn_ready (rs := [3]) (by kernel_rfl) (by simp) ?_
              refine AllReadyIn.cons rfl (fun K hK => ?_) ?_
              · go_simp
                refine hK _ _ ?_
                clear hK K
                refine wpAnyIn_ready (rs := [4]) (by kernel_rfl) (by simp) ?_
                refine AllReadyIn.cons rfl (fun K hK => ?_) ?_
                · go_simp
                  refine hK _ _ ?_
                  clear hK K
                  refine wpAnyIn_ready (rs := [5]) (by kernel_rfl) (by simp) ?_
                  refine AllReadyIn.cons rfl (fun K hK => ?_) ?_
                  · go_simp
                    refine hK _ _ ?_
                    clear hK K
                    refine wpAnyIn_ready (rs := [6]) (by kernel_rfl) (by simp) ?_
                    refine AllReadyIn.cons rfl (fun K hK => ?_) ?_
                    · go_simp
                      refine hK _ _ ?_
                      clear hK K
                      refine wpAnyIn_ready (rs := [7]) (by kernel_rfl) (by simp) ?_
                      refine AllReadyIn.cons rfl (fun K hK => ?_) ?_
                      · refine step_append_in rfl _ _ 28 rfl _ _ _ _ rfl rfl hap1' ?_
                        refine hK _ _ ?_
                        clear hK K
                        refine wpAnyIn_ready (rs := [8]) (by kernel_rfl) (by simp) ?_
                        refine AllReadyIn.cons rfl (fun K hK => ?_) ?_
                        · go_simp
                          refine hK _ _ ?_
                          clear hK K
                          refine wpAnyIn_done (by kernel_rfl) ?_ _
                          gi_wp2_with (gi_at_builtin; refine list_append_in rfl _ _ 29 rfl _ _ _ _ rfl rfl hap2 ?_)
                          exact ⟨RR.out.1.from _, RR.out.2.1, ⟨RR.out.2.2.1, by simp; omega⟩, RR.out.2.2.2⟩
                        exact AllReadyIn.nil
                      exact AllReadyIn.nil
                    exact AllReadyIn.nil
                  exact AllReadyIn.nil
                exact AllReadyIn.nil
              exact AllReadyIn.nil
            exact AllReadyIn.nil
          refine AllReadyIn.cons rfl (fun K hK => ?_) ?_
          · go_simp
            refine hK _ _ ?_
            clear hK K
            refine wpAnyIn_ready (rs := [0, 3]) (by kernel_rfl) (by simp) ?_
            refine AllReadyIn.cons rfl (fun K hK => ?_) ?_
            · go_simp
              refine hK _ _ ?_
              clear hK K
              refine wpAnyIn_ready (rs := [3]) (by kernel_rfl) (by simp) ?_
              refine AllReadyIn.cons rfl (fun K hK => ?_) ?_
              · go_simp
                refine hK _ _ ?_
                clear hK K
                refine wpAnyIn_ready (rs := [4]) (by kernel_rfl) (by simp) ?_
                refine AllReadyIn.cons rfl (fun K hK => ?_) ?_
                · go_simp
                  refine hK _ _ ?_
                  clear hK K
                  refine wpAnyIn_ready (rs := [5]) (by kernel_rfl) (by simp) ?_
                  refine AllReadyIn.cons rfl (fun K hK => ?_) ?_
                  · go_simp
                    refine hK _ _ ?_
                    clear hK K
                    refine wpAnyIn_ready (rs := [6]) (by kernel_rfl) (by simp) ?_
                    refine AllReadyIn.cons rfl (fun K hK => ?_) ?_
                    · go_simp
                      refine hK _ _ ?_
                      clear hK K
                      refine wpAnyIn_ready (rs := [7]) (by kernel_rfl) (by simp) ?_
                      refine AllReadyIn.cons rfl (fun K hK => ?_) ?_
                      · refine step_append_in rfl _ _ 28 rfl _ _ _ _ rfl rfl hap1' ?_
                        refine hK _ _ ?_
                        clear hK K
                        refine wpAnyIn_ready (rs := [8]) (by kernel_rfl) (by simp) ?_
                        refine AllReadyIn.cons rfl (fun K hK => ?_) ?_
                        · go_simp
                          refine hK _ _ ?_
                          clear hK K
                          refine wpAnyIn_done (by kernel_rfl) ?_ _
                          gi_wp2_with (gi_at_builtin; refine list_append_in rfl _ _ 29 rfl _ _ _ _ rfl rfl hap2 ?_)
                          exact ⟨RR.out.1.from _, RR.out.2.1, ⟨RR.out.2.2.1, by simp; omega⟩, RR.out.2.2.2⟩
                        exact AllReadyIn.nil
                      exact AllReadyIn.nil
                    exact AllReadyIn.nil
                  exact AllReadyIn.nil
                exact AllReadyIn.nil
              exact AllReadyIn.nil
            refine AllReadyIn.cons rfl (fun K hK => ?_) ?_
            · go_simp
              refine hK _ _ ?_
              clear hK K
              refine wpAnyIn_ready (rs := [0, 4]) (by kernel_rfl) (by simp) ?_
              refine AllReadyIn.cons rfl (fun K hK => ?_) ?_
              · go_simp
                refine hK _ _ ?_
                clear hK K
                refine wpAnyIn_ready (rs := [4]) (by kernel_rfl) (by simp) ?_
                refine AllReadyIn.cons rfl (fun K hK => ?_) ?_
                · go_simp
                  refine hK _ _ ?_
                  clear hK K
                  refine wpAnyIn_ready (rs := [5]) (by kernel_rfl) (by simp) ?_
                  refine AllReadyIn.cons rfl (fun K hK => ?_) ?_
                  · go_simp
                    refine hK _ _ ?_
                    clear hK K
                    refine wpAnyIn_ready (rs := [6]) (by kernel_rfl) (by simp) ?_
                    refine AllReadyIn.cons rfl (fun K hK => ?_) ?_
                    · go_simp
                      refine hK _ _ ?_
                      clear hK K
                      refine wpAnyIn_ready (rs := [7]) (by kernel_rfl) (by simp) ?_
                      refine AllReadyIn.cons rfl (fun K hK => ?_) ?_
                      · refine step_append_in rfl _ _ 28 rfl _ _ _ _ rfl rfl hap1' ?_
                        refine hK _ _ ?_
                        clear hK K
                        refine wpAnyIn_ready (rs := [8]) (by kernel_rfl) (by simp) ?_
                        refine AllReadyIn.cons rfl (fun K hK => ?_) ?_
                        · go_simp
                          refine hK _ _ ?_
                          clear hK K
                          refine wpAnyIn_done (by kernel_rfl) ?_ _
                          gi_wp2_with (gi_at_builtin; refine list_append_in rfl _ _ 29 rfl _ _ _ _ rfl rfl hap2 ?_)
                          exact ⟨RR.out.1.from _, RR.out.2.1, ⟨RR.out.2.2.1, by simp; omega⟩, RR.out.2.2.2⟩
                        exact AllReadyIn.nil
                      exact AllReadyIn.nil
                    exact AllReadyIn.nil
                  exact AllReadyIn.nil
                exact AllReadyIn.nil
              refine AllReadyIn.cons rfl (fun K hK => ?_) ?_
              · go_simp
                refine hK _ _ ?_
                clear hK K
                refine wpAnyIn_ready (rs := [0, 5]) (by kernel_rfl) (by simp) ?_
                refine AllReadyIn.cons rfl (fun K hK => ?_) ?_
                · go_simp
                  refine hK _ _ ?_
                  clear hK K
                  refine wpAnyIn_ready (rs := [5]) (by kernel_rfl) (by simp) ?_
                  refine AllReadyIn.cons rfl (fun K hK => ?_) ?_
                  · go_simp
                    refine hK _ _ ?_
                    clear hK K
                    refine wpAnyIn_ready (rs := [6]) (by kernel_rfl) (by simp) ?_
                    refine AllReadyIn.cons rfl (fun K hK => ?_) ?_
                    · go_simp
                      refine hK _ _ ?_
                      clear hK K
                      refine wpAnyIn_ready (rs := [7]) (by kernel_rfl) (by simp) ?_
                      refine AllReadyIn.cons rfl (fun K hK => ?_) ?_
                      · refine step_append_in rfl _ _ 28 rfl _ _ _ _ rfl rfl hap1' ?_
                        refine hK _ _ ?_
                        clear hK K
                        refine wpAnyIn_ready (rs := [8]) (by kernel_rfl) (by simp) ?_
                        refine AllReadyIn.cons rfl (fun K hK => ?_) ?_
                        · go_simp
                          refine hK _ _ ?_
                          clear hK K
                          refine wpAnyIn_done (by kernel_rfl) ?_ _
                          gi_wp2_with (gi_at_builtin; refine list_append_in rfl _ _ 29 rfl _ _ _ _ rfl rfl hap2 ?_)
                          exact ⟨RR.out.1.from _, RR.out.2.1, ⟨RR.out.2.2.1, by simp; omega⟩, RR.out.2.2.2⟩
                        exact AllReadyIn.nil
                      exact AllReadyIn.nil
                    exact AllReadyIn.nil
                  exact AllReadyIn.nil
                refine AllReadyIn.cons rfl (fun K hK => ?_) ?_
                · go_simp
                  refine hK _ _ ?_
                  clear hK K
                  refine wpAnyIn_ready (rs := [0, 6]) (by kernel_rfl) (by simp) ?_
                  refine AllReadyIn.cons rfl (fun K hK => ?_) ?_
                  · go_simp
                    refine hK _ _ ?_
                    clear hK K
                    refine wpAnyIn_ready (rs := [6]) (by kernel_rfl) (by simp) ?_
                    refine AllReadyIn.cons rfl (fun K hK => ?_) ?_
                    · go_simp
                      refine hK _ _ ?_
                      clear hK K
                      refine wpAnyIn_ready (rs := [7]) (by kernel_rfl) (by simp) ?_
                      refine AllReadyIn.cons rfl (fun K hK => ?_) ?_
                      · refine step_append_in rfl _ _ 28 rfl _ _ _ _ rfl rfl hap1' ?_
                        refine hK _ _ ?_
                        clear hK K
                        refine wpAnyIn_ready (rs := [8]) (by kernel_rfl) (by simp) ?_
                        refine AllReadyIn.cons rfl (fun K hK => ?_) ?_
                        · go_simp
                          refine hK _ _ ?_
                          clear hK K
                          refine wpAnyIn_done (by kernel_rfl) ?_ _
                          gi_wp2_with (gi_at_builtin; refine list_append_in rfl _ _ 29 rfl _ _ _ _ rfl rfl hap2 ?_)
                          exact ⟨RR.out.1.from _, RR.out.2.1, ⟨RR.out.2.2.1, by simp; omega⟩, RR.out.2.2.2⟩
                        exact AllReadyIn.nil
                      exact AllReadyIn.nil
                    exact AllReadyIn.nil
                  refine AllReadyIn.cons rfl (fun K hK => ?_) ?_
                  · go_simp
                    refine hK _ _ ?_
                    clear hK K
                    refine wpAnyIn_ready (rs := [0]) (by kernel_rfl) (by simp) ?_
                    refine AllReadyIn.cons rfl (fun K hK => ?_) ?_
                    · go_simp
                      refine hK _ _ ?_
                      clear hK K
                      refine wpAnyIn_ready (rs := [7]) (by kernel_rfl) (by simp) ?_
                      refine AllReadyIn.cons rfl (fun K hK => ?_) ?_
                      · refine step_append_in rfl _ _ 28 rfl _ _ _ _ rfl rfl hap1' ?_
                        refine hK _ _ ?_
                        clear hK K
                        refine wpAnyIn_ready (rs := [8]) (by kernel_rfl) (by simp) ?_
                        refine AllReadyIn.cons rfl (fun K hK => ?_) ?_
                        · go_simp
                          refine hK _ _ ?_
                          clear hK K
                          refine wpAnyIn_done (by kernel_rfl) ?_ _
                          gi_wp2_with (gi_at_builtin; refine list_append_in rfl _ _ 29 rfl _ _ _ _ rfl rfl hap2 ?_)
                          exact ⟨RR.out.1.from _, RR.out.2.1, ⟨RR.out.2.2.1, by simp; omega⟩, RR.out.2.2.2⟩
                        exact AllReadyIn.nil
                      exact AllReadyIn.nil
                    exact AllReadyIn.nil
                  exact AllReadyIn.nil
                exact AllReadyIn.nil
              exact AllReadyIn.nil
            exact AllReadyIn.nil
          exact AllReadyIn.nil
        exact AllReadyIn.nil
    case done =>
      rintro D W' hD ⟨⟨⟨⟨v, hv, ho, _⟩, ⟨v', hv', ho', _⟩⟩, hp⟩, hB1⟩ hK
      obtain ⟨ra, rc, rfl⟩ := owns_form ho
      obtain ⟨ia, ic, rfl⟩ := owns_form ho'
      have c13 := hv.cell
      have c14 := hv'.cell
      go_wp2_with fail
      go_quiet (fail)
      go_wp2
      rename_i nq
      have hKd : (W'.drewN nq).heap[D]? = some (.deferred (some [])) := hK
      refine ⟨by simp, .inl ⟨_, _, rfl, run_takeDeferred hKd, ?_⟩⟩
      refine ⟨_, results_tmp2 rfl _ _ _, ?_⟩
      exact rows_fin (List.prefix_refl _) (by rw [flat_length] at hp ⊢; omega) (fun j hj => (hrs j hj).2) (ownsRow_putObj (show (W'.drewN nq).ownsRow _ _ _ _ _ _ from ho) _ hKd rfl) (ownsRow_putObj (show (W'.drewN nq).ownsRow _ _ _ _ _ _ from ho') _ hKd rfl)
        ((below_call hB (hB1.trans ((below_draws W' nq).mono hB1.size))).trans (below_b (w := W) hB.size _ D _ _ (by omega) hKd rfl))
    case stop =>
      rintro D c pre W' hD hpre ⟨⟨⟨⟨v, hv, ho, _⟩, ⟨v', hv', ho', _⟩⟩, ⟨rfl, hp⟩⟩, hB1⟩ hK
      obtain ⟨ra, rc, rfl⟩ := owns_form ho
      obtain ⟨ia, ic, rfl⟩ := owns_form ho'
      have c13 := hv.cell
      have c14 := hv'.cell
      refine wpIn_wide.2 ?_
      go_wp2_with fail
      go_quiet (fail)
      go_wp2
      rename_i nq
      have hKd : (W'.drewN nq).heap[D]? = some (.deferred (some [])) := hK
      refine ⟨by simp, .inl ⟨_, _, rfl, run_takeDeferred hKd, ?_⟩⟩
      refine ⟨_, results_tmp2 rfl _ _ _, ?_⟩
      exact rows_fin hpre (by have := hpre.length_le; rw [flat_length] at this; omega) (fun j hj => (hrs j hj).2) (ownsRow_putObj (show (W'.drewN nq).ownsRow _ _ _ _ _ _ from ho) _ hKd rfl) (ownsRow_putObj (show (W'.drewN nq).ownsRow _ _ _ _ _ _ from ho') _ hKd rfl)
        ((below_call hB (hB1.trans ((below_draws W' nq).mono hB1.size))).trans (below_b (w := W) hB.size _ D _ _ (by omega) hKd rfl))

end Go.Proofs.Qxb6618604a
