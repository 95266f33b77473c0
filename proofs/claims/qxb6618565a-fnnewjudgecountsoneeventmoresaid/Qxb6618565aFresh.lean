import Derived.Test.Qxb6618565aParts
import Derived.WideLaws
import Derived.LaidEqlPtr
namespace Go.Proofs.Qxb6618565a
open Go.RowKit

/-- A cell of a block that is known whole. -/
theorem cell_of_blk {w : World} {b : Nat} {c : Array Value} {t : TypeId} (h : w.heap[b]? = some (.cells c t (0, 0))) (i : Nat) (v : Value) (hi : c[i]? = some v) : w.cell? ⟨b, i, none⟩ = some v := by
  simp [World.cell?, h, hi]

theorem run_neq_ptr_same {P : Program} (w : World) {tp te : TypeId} {j : TypeInfo} (a : Addr) (hp : P.underlying tp = some (.pointer te)) (hte : P.info? te = some j) :
    (binOp .neq tp (.pointer (some a)) (.pointer (some a))).run P w = .ok (.bool false) w := by
  have h : ∀ d : Nat, (Op.equalIn (d + 1) tp (.pointer (some a)) (.pointer (some a))).run P w = .ok true w := fun d => by
    simp [Op.equalIn, run_underlying hp, sizeOf, typeInfo, hte, run_sameAddr_same]
  simp only [binOp]
  simp [Op.equal, Op.maxDepth, h 9999]

theorem has60 : (Try.prog.info? 60).isSome = true := by kernel_rfl
theorem has80 : (Try.prog.info? 80).isSome = true := by kernel_rfl
theorem eql29 (a : Addr) (w : World) : (binOp .eql 29 (.pointer (some a)) (.pointer (some a))).run Try.prog w = .ok (.bool true) w := by
  obtain ⟨j, hj⟩ := Option.isSome_iff_exists.1 has60
  exact run_eql_ptr_same w a Try.underlying29 hj
theorem neq45 (a : Addr) (w : World) : (binOp .neq 45 (.pointer (some a)) (.pointer (some a))).run Try.prog w = .ok (.bool false) w := by
  obtain ⟨j, hj⟩ := Option.isSome_iff_exists.1 has80
  exact run_neq_ptr_same w a Try.underlying45 hj

set_option maxRecDepth 100000 in
theorem jtrace (b : Nat) (v : Value) (w : World) (h : w.cell? ⟨b, 0, none⟩ = some v) :
    Calls Try.prog 31 #[.pointer (some ⟨b, 0, none⟩)] w fun e w' => e = .returned v ∧ w = w' := by
  go_enter Try.func31, Try.ntmps31
  go_wp2
  go_ret
  exact ⟨rfl, rfl⟩

/-- The six counts of a judge that has taken in nothing. -/
def CountsEnd (w : World) (e : Ending) (w' : World) : Prop := e = .returned (.tuple #[.int .i64 0, .int .i64 0, .int .i64 0, .int .i64 0, .int .u64 0, .int .i64 0]) ∧ ∃ q, w' = w.drewN q

set_option maxRecDepth 100000 in
set_option maxHeartbeats 400000 in
theorem jcounts (b bl bs n : Nat) (w : World) (h14 : w.cell? ⟨b, 14, none⟩ = some (.slice (some ⟨bl, 0, none⟩) 0 n)) (h15 : w.cell? ⟨b, 15, none⟩ = some (.slice (some ⟨bs, 0, none⟩) 0 n))
    (h17 : w.cell? ⟨b, 17, none⟩ = some (.int .u64 0)) (h18 : w.cell? ⟨b, 18, none⟩ = some (.slice none 0 0)) (h19 : w.cell? ⟨b, 19, none⟩ = some (.int .i64 0)) (h20 : w.cell? ⟨b, 20, none⟩ = some (.slice none 0 0)) :
    Calls Try.prog 33 #[.pointer (some ⟨b, 0, none⟩)] w fun e w' => CountsEnd w e w' := by
  go_enter Try.func33, Try.ntmps33
  go_wp2
  go_quiet (fail)
  go_wp2
  exact bodyPost_ret (v := .tuple #[.int .i64 0, .int .i64 0, .int .i64 0, .int .i64 0, .int .u64 0, .int .i64 0]) (by simp [results, Try.results33]) rfl ⟨rfl, _, rfl⟩

theorem info21 : (Try.prog.info? 21).map (fun i => (i.zero, i.size, i.bytes)) = some (some (.int .i32 0), 1, 4) := by kernel_rfl

/-- The shape of a walk of the past that has taken in nothing. -/
def ShapeEnd (w : World) (bt p : Nat) (e : Ending) (w' : World) : Prop :=
  ∃ g bs : Nat, e = .returned (.tuple #[.pointer (some ⟨bt, 0, none⟩), .slice (some ⟨g, 0, none⟩) p p, .slice (some ⟨bs, 0, none⟩) p p, .int .i64 0, .int .i64 0, .bool true]) ∧
    w'.rowIs g 21 p (fun _ => .int .i32 0) ∧ w'.rowIs bs 23 p (fun _ => .int .u64 0) ∧ Below w.heap.size w w'

set_option maxRecDepth 100000 in
set_option maxHeartbeats 800000 in
theorem pshape (bp bt : Nat) (ra : Option Addr) (rn rc p : Nat) (w : World) (hp : p ≤ 1048576) (h : PastAt w bp bt ra rn rc p) :
    Calls Try.prog 36 #[.pointer (some ⟨bp, 0, none⟩)] w fun e w' => ShapeEnd w bt p e w' := by
  obtain ⟨br, bs, bm, hb, hbr, hbs, hbm⟩ := h
  have hlt := lt_of_blk hb
  have h0 := cell_of_blk hb 0 _ rfl
  have h6 := cell_of_blk hb 6 _ rfl
  have h7 := cell_of_blk hb 7 _ rfl
  have h8 := cell_of_blk hb 8 _ rfl
  have h9 := cell_of_blk hb 9 _ rfl
  have h10 := cell_of_blk hb 10 _ rfl
  have hmk := run_make_row' (P := Try.prog) 25 21 _ 4 Try.underlying25 info21 rfl .i64 .i64 p (by omega) (by omega)
  go_enter Try.func36, Try.ntmps36
  go_wp2
  go_loopw [9] (fun i wr => ∃ k : Nat, k ≤ p ∧ i = .int .i64 k ∧ wr.rowIs w.heap.size 21 p (fun _ => .int .i32 0) ∧ Below w.heap.size w wr) (fun i _ => p - (intOf i).toNat)
  case atStart => exact ⟨0, Nat.zero_le _, rfl, World.rowIs_made _ _ _ _, (Below.refl _ _).alloc (Nat.le_refl _) _⟩
  case round =>
    obtain ⟨k, hk, rfl, hrow, hbel⟩ := hrel
    have g6 := (hbel.cell (p := ⟨bp, 6, none⟩) hlt).trans h6
    by_cases hk2 : k < p
    · have gr := (hbel.cell (p := ⟨br, k, none⟩) hbr.lt).trans (hbr.cell hk2)
      have hc2 := hrow.cell hk2
      have hc3 := hrow.frozen k
      have R := hrow.set k (.int .i32 0)
      have hB := hbel.setCell (p := ⟨w.heap.size, k, none⟩) (Nat.le_refl _) (.int .i32 0)
      clear h0 h6 h7 h8 h9 h10 hb hbr hbs hbm
      go_wp2
      go_roundw
      case rel => exact ⟨k + 1, by omega, by go_num, R.congr (by intro j hj; simp), hB⟩
      case measure => simp [intOf]; omega
    · have g0 := (hbel.cell (p := ⟨bp, 0, none⟩) hlt).trans h0
      have g7 := (hbel.cell (p := ⟨bp, 7, none⟩) hlt).trans h7
      have g8 := (hbel.cell (p := ⟨bp, 8, none⟩) hlt).trans h8
      have g9 := (hbel.cell (p := ⟨bp, 9, none⟩) hlt).trans h9
      have g10 := (hbel.cell (p := ⟨bp, 10, none⟩) hlt).trans h10
      have gm : wr.heap[bm]? = some (.map #[] 0) := (hbel.block bm (lt_of_blk hbm)).trans hbm
      have gs : wr.rowIs bs 23 p (fun _ => .int .u64 0) := hbs.of_block (hbel.block bs hbs.lt)
      clear h0 h6 h7 h8 h9 h10 hb hbr hbs hbm hmk
      have he29 := eql29
      have hlm := fun q => run_len_map (P := Try.prog) (wr.drewN q) 65 3 bm #[] 0 (by kernel_rfl) gm
      go_wp2
      go_quiet (fail)
      go_wp2
      exact bodyPost_ret (v := .tuple #[.pointer (some ⟨bt, 0, none⟩), .slice (some ⟨w.heap.size, 0, none⟩) p p, .slice (some ⟨bs, 0, none⟩) p p, .int .i64 0, .int .i64 0, .bool true]) (by simp [results, Try.results36]) rfl ⟨w.heap.size, bs, rfl, hrow, gs, below_call hbel (below_draws _ _)⟩

set_option maxRecDepth 100000 in
theorem jreaders (b : Nat) (v : Value) (w : World) (h : w.cell? ⟨b, 1, none⟩ = some v) :
    Calls Try.prog 32 #[.pointer (some ⟨b, 0, none⟩)] w fun e w' => e = .returned v ∧ w = w' := by
  go_enter Try.func32, Try.ntmps32
  go_wp2
  go_ret
  exact ⟨rfl, rfl⟩
set_option maxRecDepth 100000 in
theorem jofprocess (b : Nat) (v : Value) (w : World) (h : w.cell? ⟨b, 16, none⟩ = some v) :
    Calls Try.prog 34 #[.pointer (some ⟨b, 0, none⟩)] w fun e w' => e = .returned v ∧ w = w' := by
  go_enter Try.func34, Try.ntmps34
  go_wp2
  go_ret
  exact ⟨rfl, rfl⟩
set_option maxRecDepth 100000 in
theorem jpast (b : Nat) (v : Value) (w : World) (h : w.cell? ⟨b, 2, none⟩ = some v) :
    Calls Try.prog 35 #[.pointer (some ⟨b, 0, none⟩)] w fun e w' => e = .returned v ∧ w = w' := by
  go_enter Try.func35, Try.ntmps35
  go_wp2
  go_ret
  exact ⟨rfl, rfl⟩
end Go.Proofs.Qxb6618565a
