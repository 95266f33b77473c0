import Derived.Test.Qxb6618604aStopsDefs
import Derived.Test.Qxb6618604aRowAt
import Derived.Deep.QuietTactic
namespace Go.Proofs.Qxb6618604a
open Go.RowKit Go.Shelf

set_option maxRecDepth 100000 in
set_option maxHeartbeats 4000000 in
theorem stops_tail2 : StopsTail2 := by
  intro w W b0 b1 b2 ra ia sa ja n m rc ic sc jc T L H k hn i0 i1 i2 wl wh ht hB hm r1 r2 r3 r4 u9 u10 u11 u23 u24 u25 u26 u27 u28 u29 u30 u31 u32 u33 u34 u35 u36 u37 u38 u39 u40 u41 u42 u43 u44 u45 u46 u47 u48 u49 u50 u51 u52 u53 u54 u55 u56 u57 u58 u59 u60 u61 u62 u63 u64 u65 u66 u67 u68 u69 u70 u71 u72 u73 u74 u75 u76 u77 u78 u79 u80 u81 u82 u83 u84 u85 u86 u87 u88 u89 u90 u91 u92 u93 u94 u95 u96 u97 u98 u99 u100 u101 u102 u103 u104 u105 u106 u107 u108 u109 u110 u111 u112 u113 u114 u115 u116 u117 u118 u119 u120 u121 u122 u123 u124 u125 u126 u127 u128 u129 u130 u131 u132 u133 u134 u135 u136 u137 u138 u139 u140 u141 u142 u143 u144 u145 u146 u147 u148 u149 u150 u151 u152 u153 u154 u155 u156 u157 u158 u159 u160 u161 u162 u163 u164 u165 u166 u167 u168 u169 u170 u171 u172 u173 u174 u175 u176 u177 u178 u179 u180 u181 u182 u183 u184 u185 u186 u187 u188 u189
  obtain ⟨c, hc⟩ : ∃ c, restN 14 (Try.f6.body.getD .skip) = c := ⟨_, rfl⟩
  rw [hc]
  dsimp only [restN, Try.f6, Option.getD] at hc
  subst hc
  go_wp2_with fail
  go_loopw [19] (fun i wr => ∃ t : Nat, t ≤ m ∧ i = .int .i64 t ∧ Below W.heap.size W wr) (fun i _ => m - (intOf i).toNat)
  case atStart => exact ⟨0, Nat.zero_le _, rfl, Below.refl _ _⟩
  case round =>
  obtain ⟨t, htm, rfl, hBW⟩ := hrel
  have hm6 : m ≤ 65536 := by omega
  by_cases hlt : t < m
  · obtain ⟨x1, rfl, d1⟩ := r1 t hlt
    obtain ⟨x2, rfl, d2⟩ := r2 t hlt
    obtain ⟨x3, rfl, d3⟩ := r3 t (by omega)
    obtain ⟨x4, rfl, d4⟩ := r4 t (by omega)
    replace d1 := (hBW.cell (cell_lt d1)).trans d1
    replace d2 := (hBW.cell (cell_lt d2)).trans d2
    replace d3 := (hBW.cell (cell_lt d3)).trans d3
    replace d4 := (hBW.cell (cell_lt d4)).trans d4
    have hlt' : (t : Int) < (m : Int) := by omega
    have hlt2 : t < total L H n := by omega
    have hlt2' : (t : Int) < (total L H n : Int) := by omega
    clear r1 r2 r3 r4 i0 i1 i2 wl wh
    generalize rk T L H n t = rv at *
    generalize ix T L H n t = iv at *
    go_wp2
    go_quiet (fail)
    go_wp2
    go_roundw
    case rel => exact ⟨t + 1, by omega, by go_num, below_call hBW (below_draws _ _)⟩
    case measure => simp [intOf]; omega
  · obtain rfl : t = m := by omega
    cases t with
    | zero =>
      go_wp2
      go_ret
      exact ⟨rfl, below_call hB hBW⟩
    | succ q =>
      clear r3 r4
      go_wp2_with fail
      refine (rowAt_any b1 b2 n n n q L H wr hn (i1.later hBW) (i2.later hBW) wl wh (by omega) ht).mono ?_
      rintro e wf ⟨hBf, j, hj, hj1, hj2, rfl⟩
      have hBW2 := below_call hBW hBf
      obtain ⟨x0, rfl, d0⟩ := i0 j hj
      obtain ⟨x1, rfl, d1⟩ := r1 q (by omega)
      obtain ⟨x2, rfl, d2⟩ := r2 q (by omega)
      replace d0 := (hBW2.cell (cell_lt d0)).trans d0
      replace d1 := (hBW2.cell (cell_lt d1)).trans d1
      replace d2 := (hBW2.cell (cell_lt d2)).trans d2
      rw [rk_block T L H hj hj1 hj2] at d1
      rw [ix_block T L H hj hj1 hj2] at d2
      have hjn : (j : Int) < (n : Int) := by omega
      clear r1 r2 i0 i1 i2 wl wh
      generalize T j = tj at *
      generalize L j + ((q - total L H j : Nat) : Int) = lj at *
      go_wp2
      go_quiet (fail)
      go_wp2
      go_ret
      exact ⟨rfl, below_call hB (below_call hBW2 (below_draws _ _))⟩

end Go.Proofs.Qxb6618604a
