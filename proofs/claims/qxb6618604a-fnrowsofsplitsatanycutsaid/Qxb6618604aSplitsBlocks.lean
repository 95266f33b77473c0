import Derived.Test.Qxb6618604aSplitsDefs
import Derived.Deep.QuietTactic
namespace Go.Proofs.Qxb6618604a
open Go.RowKit Go.Shelf

set_option maxRecDepth 100000 in
set_option maxHeartbeats 4000000 in
theorem splits_blocks : SplitsTail3 := by
  intro w W b0 b1 b2 ra ia n rc ic T L H k hn i0 i1 i2 wl wh ht hB r1 r2 u8 u9 u10 u11 u12 u16 u17 u18 u19 u20 u21 u26 u27 u28 u29 u30 u31 u32 u33 u34 u35 u36 u37 u38 u39 u40 u41 u42 u43 u44 u45 u46 u47 u48 u49 u50 u51 u52 u53 u54 u55 u56 u57 u58 u59 u60 u61 u62 u63 u64 u65 u66 u67 u68 u69 u70 u71 u72 u73 u74 u75 u76 u77 u78 u79 u80 u81 u82 u83 u84 u85 u86 u87 u88 u89 u90 u91 u92 u93 u94 u95 u96 u97 u98 u99 u100 u101 u102 u103 u104 u105 u106 u107 u108 u109 u110 u111 u112 u113 u114 u115 u116 u117 u118 u119 u120 u121 u122 u123 u124 u125 u126 u127 u128 u129 u130 u131 u132 u133 u134 u135 u136 u137 u138 u139 u140 u141 u142 u143 u144 u145 u146 u147 u148 u149 u150 u151 u152 u153 u154 u155 u156 u157 u158 u159 u160 u161 u162 u163 u164 u165 u166 u167 u168 u169 u170 u171 u172 u173 u174 u175 u176 u177 u178 u179 u180 u181 u182 u183 u184 u185 u186 u187 u188 u189 u190 u191 u192 u193 u194 u195 u196 u197 u198 u199 u200 u201 u202 u203 u204 u205 u206 u207 u208 u209 u210 u211 u212 u213 u214 u215 u216 u217 u218 u219 u220 u221 u222 u223 u224 u225 u226 u227 u228 u229 u230 u231 u232 u233 u234 u235 u236 u237 u238 u239 u240 u241 u242 u243 u244 u245 u246 u247 u248 u249 u250 u251 u252 u253 u254 u255 u256 u257 u258 u259 u260 u261 u262 u263 u264 u265 u266 u267 u268 u269 u270 u271 u272 u273 u274 u275 u276 u277 u278 u279
  obtain ⟨c, hc⟩ : ∃ c, restN 17 (Try.f5.body.getD .skip) = c := ⟨_, rfl⟩
  rw [hc]
  dsimp only [restN, Try.f5, Option.getD] at hc
  subst hc
  go_wp2_with fail
  go_loopw [22, 23, 24, 25] (fun p i _ _ wr => ∃ j : Nat, j ≤ n ∧ i = .int .i64 j ∧ p = .int .i64 (total L H j : Int) ∧ Below W.heap.size W wr) (fun _ i _ _ _ => n - (intOf i).toNat)
  case atStart => exact ⟨0, Nat.zero_le _, rfl, rfl, Below.refl _ _⟩
  case round =>
  obtain ⟨j, hj, rfl, rfl, hBW⟩ := hrel
  by_cases hlt : j < n
  · obtain ⟨x0, rfl, d0⟩ := i0 j hlt
    obtain ⟨x1, rfl, d1⟩ := i1 j hlt
    obtain ⟨x2, rfl, d2⟩ := i2 j hlt
    have D0 : Hid _ := d0
    have D1 : Hid _ := d1
    replace d1 := (hBW.cell (cell_lt d1)).trans d1
    replace d2 := (hBW.cell (cell_lt d2)).trans d2
    have hlt' : (j : Int) < (n : Int) := by omega
    obtain ⟨wl1, wl2⟩ := wl j hlt
    obtain ⟨wh1, wh2⟩ := wh j hlt
    have hmono := total_mono L H (show j + 1 ≤ n from hlt)
    have hsucc : total L H (j + 1) = total L H j + (H j - L j).toNat := rfl
    have RK : Hid (∀ q : Nat, q < (H j - L j).toNat → rk T L H n (total L H j + q) = T j) := fun q hq => rk_block T L H hlt (by omega) (by omega)
    have IX : Hid (∀ q : Nat, q < (H j - L j).toNat → ix T L H n (total L H j + q) = L j + (q : Int)) := fun q hq => by
      rw [ix_block T L H hlt (by omega) (by omega), Nat.add_sub_cancel_left]
    clear d0 i0 i1 i2 wl wh
    generalize total L H n = N at *
    generalize total L H j = p at *
    generalize hpe' : total L H (j + 1) = p' at *
    have Hp' : Hid _ := hpe'
    clear hpe'
    generalize L j = lj at *
    generalize H j = hj' at *
    generalize rk T L H n = R at *
    generalize ix T L H n = X at *
    generalize T j = tj at *
    by_cases hc : hj' ≤ lj
    · have hct : decide (hj' ≤ lj) = true := decide_eq_true hc
      clear r1 r2
      go_wp2
      go_quiet (fail)
      go_wp2
      go_roundw
      case rel => exact ⟨j + 1, by omega, by go_num, by rw [Hp'.out]; congr 2; omega, below_call hBW (below_draws _ _)⟩
      case measure => simp [intOf]; omega
    · have hct : decide (hj' ≤ lj) = false := decide_eq_false hc
      have hsb : IntKind.i64.wrap (hj' - lj) = hj' - lj := by rw [IntKind.wrap_i64]; omega
      obtain ⟨d, hd⟩ : ∃ d : Nat, hj' - lj = d := ⟨(hj' - lj).toNat, by omega⟩
      have hdd : (hj' - lj).toNat = d := by omega
      rw [hd] at hsb
      rw [hdd] at RK IX
      have hpd : p' = p + d := by omega
      have hd6 : p + d ≤ N := by omega
      have hj64 : hj' = lj + d := by omega
      clear hd hdd hsucc hmono
      go_wp2
      go_quiet (fail)
      go_wp2
      go_quiet (fail)
      go_wp2_with fail
      go_loopw [25] (fun i wr2 => ∃ q : Nat, q ≤ d ∧ i = .int .i64 q ∧ Below W.heap.size W wr2) (fun i _ => d - (intOf i).toNat)
      case atStart => exact ⟨0, Nat.zero_le _, rfl, below_call (below_call hBW (below_draws _ _)) (below_draws _ _)⟩
      case round =>
      obtain ⟨q, hqd, rfl, hBV⟩ := hrel
      by_cases hql : q < d
      · obtain ⟨y1, rfl, f1⟩ := r1 (p + q) (by omega)
        obtain ⟨y2, rfl, f2⟩ := r2 (p + q) (by omega)
        rw [RK.out q hql] at f1
        rw [IX.out q hql] at f2
        replace f1 := (hBV.cell (cell_lt f1)).trans f1
        replace f2 := (hBV.cell (cell_lt f2)).trans f2
        have f3 := (hBV.cell (cell_lt D0.out)).trans D0.out
        have f4 := (hBV.cell (cell_lt D1.out)).trans D1.out
        have had : IntKind.i64.wrap (lj + (q : Int)) = lj + (q : Int) := by rw [IntKind.wrap_i64]; omega
        have hql' : (q : Int) < (d : Int) := by omega
        have hpq : (p : Int) + (q : Int) < (N : Int) := by omega
        have hpn : (0 : Int) ≤ (p : Int) + (q : Int) := by omega
        have htn : ((p : Int) + (q : Int)).toNat = p + q := by omega
        clear r1 r2 RK IX D0 D1 d1 d2
        go_wp2
        go_quiet (fail)
        go_wp2
        go_roundw
        case rel => exact ⟨q + 1, by omega, by go_num, below_call hBV (below_draws _ _)⟩
        case measure => simp [intOf]; omega
      · obtain rfl : q = d := by omega
        clear r1 r2 RK IX D0 D1 d1 d2
        go_wp2
        go_roundw
        case rel => exact ⟨j + 1, by omega, by go_num, by rw [Hp'.out, hpd]; go_num, hBV⟩
        case measure => simp [intOf]; omega
  · obtain rfl : j = n := by omega
    clear r1 r2 i0 i1 i2 wl wh
    go_wp2
    go_ret
    exact ⟨rfl, below_call hB hBW⟩

end Go.Proofs.Qxb6618604a
