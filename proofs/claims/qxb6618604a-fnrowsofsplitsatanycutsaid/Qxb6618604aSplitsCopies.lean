import Derived.Test.Qxb6618604aSplitsDefs
import Derived.Test.Qxb6618604aRowBytes
namespace Go.Proofs.Qxb6618604a
open Go.RowKit Go.Shelf

set_option maxRecDepth 100000 in
set_option maxHeartbeats 4000000 in
theorem splits_c4 (htail : SplitsP5) : SplitsP4 := by
  intro w W a0 a1 a2 c0 c1 c2 n T L H k hn h0 h1 h2 wl wh z0 z1 z2 hB u26 u27 u28 u29 u30 u31 u32 u33 u34 u35 u36 u37 u38 u39 u40 u41 u42 u43 u44 u45 u46 u47 u48 u49 u50 u51 u52 u53 u54 u55 u56 u57 u58 u59 u60 u61 u62 u63 u64 u65 u66 u67 u68 u69 u70 u71 u72 u73 u74 u75 u76 u77 u78 u79 u80 u81 u82 u83 u84 u85 u86 u87 u88 u89 u90 u91 u92 u93 u94 u95 u96 u97 u98 u99 u100 u101 u102 u103 u104 u105 u106 u107 u108 u109 u110 u111 u112 u113 u114 u115 u116 u117 u118 u119 u120 u121 u122 u123 u124 u125 u126 u127 u128 u129 u130 u131 u132 u133 u134 u135 u136 u137 u138 u139 u140 u141 u142 u143 u144 u145 u146 u147 u148 u149 u150 u151 u152 u153 u154 u155 u156 u157 u158 u159 u160 u161 u162 u163 u164 u165 u166 u167 u168 u169 u170 u171 u172 u173 u174 u175 u176 u177 u178 u179 u180 u181 u182 u183 u184 u185 u186 u187 u188 u189 u190 u191 u192 u193 u194 u195 u196 u197 u198 u199 u200 u201 u202 u203 u204 u205 u206 u207 u208 u209 u210 u211 u212 u213 u214 u215 u216 u217 u218 u219 u220 u221 u222 u223 u224 u225 u226 u227 u228 u229 u230 u231 u232 u233 u234 u235 u236 u237 u238 u239 u240 u241 u242 u243 u244 u245 u246 u247 u248 u249 u250 u251 u252 u253 u254 u255 u256 u257 u258 u259 u260 u261 u262 u263 u264 u265 u266 u267 u268 u269 u270 u271 u272 u273 u274 u275 u276 u277 u278 u279
  obtain ⟨t, hte⟩ : ∃ t, t = restN 5 (Try.f5.body.getD .skip) := ⟨_, rfl⟩
  obtain ⟨co, hc⟩ : ∃ co, co = headN t 1 (restN 4 (Try.f5.body.getD .skip)) := ⟨_, rfl⟩
  have hcc : restN 4 (Try.f5.body.getD .skip) = co := by rw [hc, hte]; rfl
  rw [hcc]
  clear hcc
  dsimp only [headN, restN, Try.f5, Option.getD] at hc
  subst hc
  have e28 := neq_nil Try.underlying28
  cases a0 with
  | none =>
    obtain ⟨rfl, rfl⟩ := z0.out rfl
    have y1 := z1
    have y2 := z2
    clear z0 z1 z2
    go_wp2
    try rw [hte]
    exact htail w W none a1 a2 c1 c2 0 T L H k hn h0 h1 h2 wl wh (show Hid (a1 = none → (0 : Nat) = 0 ∧ c1 = 0) from (fun h => ⟨rfl, (y1.out h).2⟩ : a1 = none → (0 : Nat) = 0 ∧ c1 = 0)) (show Hid (a2 = none → (0 : Nat) = 0 ∧ c2 = 0) from (fun h => ⟨rfl, (y2.out h).2⟩ : a2 = none → (0 : Nat) = 0 ∧ c2 = 0)) hB _ _ _ _ _ _ _ _ _ _ _ _ _ _ _ _ _ _ _ _ _ _ _ _ _ _ _ _ _ _ _ _ _ _ _ _ _ _ _ _ _ _ _ _ _ _ _ _ _ _ _ _ _ _ _ _ _ _ _ _ _ _ _ _ _ _ _ _ _ _ _ _ _ _ _ _ _ _ _ _ _ _ _ _ _ _ _ _ _ _ _ _ _ _ _ _ _ _ _ _ _ _ _ _ _ _ _ _ _ _ _ _ _ _ _ _ _ _ _ _ _ _ _ _ _ _ _ _ _ _ _ _ _ _ _ _ _ _ _ _ _ _ _ _ _ _ _ _ _ _ _ _ _ _ _ _ _ _ _ _ _ _ _ _ _ _ _ _ _ _ _ _ _ _ _ _ _ _ _ _ _ _ _ _ _ _ _ _ _ _ _ _ _ _ _ _ _ _ _ _ _ _ _ _ _ _ _ _ _ _ _ _ _ _ _ _ _ _ _ _ _ _ _ _ _ _ _ _ _ _ _ _ _ _ _ _ _ _ _ _ _ _ _ _ _ _ _ _ _ _ _ _ _ _ _
  | some x =>
    have mk := run_make_row' (P := Try.prog) 28 35 (.int .u64 0) 8 Try.underlying28 info35 rfl .i64 .i64 n (by omega) (by omega)
    obtain ⟨w', hcp, hi', hb'⟩ := copy_step (.int .u64 0) Try.underlying28 size35 c0 h0
    have Hi : Hid _ := hi'
    have Hb : Hid _ := hb'
    clear hi' hb'
    go_wp2
    try rw [hte]
    exact htail w w' _ a1 a2 c1 c2 n T L H k hn Hi.out (h1.later Hb.out) (h2.later Hb.out) wl wh z1 z2 (below_call hB Hb.out) _ _ _ _ _ _ _ _ _ _ _ _ _ _ _ _ _ _ _ _ _ _ _ _ _ _ _ _ _ _ _ _ _ _ _ _ _ _ _ _ _ _ _ _ _ _ _ _ _ _ _ _ _ _ _ _ _ _ _ _ _ _ _ _ _ _ _ _ _ _ _ _ _ _ _ _ _ _ _ _ _ _ _ _ _ _ _ _ _ _ _ _ _ _ _ _ _ _ _ _ _ _ _ _ _ _ _ _ _ _ _ _ _ _ _ _ _ _ _ _ _ _ _ _ _ _ _ _ _ _ _ _ _ _ _ _ _ _ _ _ _ _ _ _ _ _ _ _ _ _ _ _ _ _ _ _ _ _ _ _ _ _ _ _ _ _ _ _ _ _ _ _ _ _ _ _ _ _ _ _ _ _ _ _ _ _ _ _ _ _ _ _ _ _ _ _ _ _ _ _ _ _ _ _ _ _ _ _ _ _ _ _ _ _ _ _ _ _ _ _ _ _ _ _ _ _ _ _ _ _ _ _ _ _ _ _ _ _ _ _ _ _ _ _ _ _ _ _ _ _ _ _ _ _ _

set_option maxRecDepth 100000 in
set_option maxHeartbeats 4000000 in
theorem splits_c5 (htail : SplitsP6) : SplitsP5 := by
  intro w W b0 a1 a2 c1 c2 n T L H k hn h0 h1 h2 wl wh z1 z2 hB u9 u26 u27 u28 u29 u30 u31 u32 u33 u34 u35 u36 u37 u38 u39 u40 u41 u42 u43 u44 u45 u46 u47 u48 u49 u50 u51 u52 u53 u54 u55 u56 u57 u58 u59 u60 u61 u62 u63 u64 u65 u66 u67 u68 u69 u70 u71 u72 u73 u74 u75 u76 u77 u78 u79 u80 u81 u82 u83 u84 u85 u86 u87 u88 u89 u90 u91 u92 u93 u94 u95 u96 u97 u98 u99 u100 u101 u102 u103 u104 u105 u106 u107 u108 u109 u110 u111 u112 u113 u114 u115 u116 u117 u118 u119 u120 u121 u122 u123 u124 u125 u126 u127 u128 u129 u130 u131 u132 u133 u134 u135 u136 u137 u138 u139 u140 u141 u142 u143 u144 u145 u146 u147 u148 u149 u150 u151 u152 u153 u154 u155 u156 u157 u158 u159 u160 u161 u162 u163 u164 u165 u166 u167 u168 u169 u170 u171 u172 u173 u174 u175 u176 u177 u178 u179 u180 u181 u182 u183 u184 u185 u186 u187 u188 u189 u190 u191 u192 u193 u194 u195 u196 u197 u198 u199 u200 u201 u202 u203 u204 u205 u206 u207 u208 u209 u210 u211 u212 u213 u214 u215 u216 u217 u218 u219 u220 u221 u222 u223 u224 u225 u226 u227 u228 u229 u230 u231 u232 u233 u234 u235 u236 u237 u238 u239 u240 u241 u242 u243 u244 u245 u246 u247 u248 u249 u250 u251 u252 u253 u254 u255 u256 u257 u258 u259 u260 u261 u262 u263 u264 u265 u266 u267 u268 u269 u270 u271 u272 u273 u274 u275 u276 u277 u278 u279
  obtain ⟨t, hte⟩ : ∃ t, t = restN 6 (Try.f5.body.getD .skip) := ⟨_, rfl⟩
  obtain ⟨co, hc⟩ : ∃ co, co = headN t 1 (restN 5 (Try.f5.body.getD .skip)) := ⟨_, rfl⟩
  have hcc : restN 5 (Try.f5.body.getD .skip) = co := by rw [hc, hte]; rfl
  rw [hcc]
  clear hcc
  dsimp only [headN, restN, Try.f5, Option.getD] at hc
  subst hc
  have e29 := neq_nil Try.underlying29
  cases a1 with
  | none =>
    obtain ⟨rfl, rfl⟩ := z1.out rfl
    have y2 := z2
    clear z1 z2
    go_wp2
    try rw [hte]
    exact htail w W b0 none a2 c2 0 T L H k hn h0 h1 h2 wl wh (show Hid (a2 = none → (0 : Nat) = 0 ∧ c2 = 0) from (fun h => ⟨rfl, (y2.out h).2⟩ : a2 = none → (0 : Nat) = 0 ∧ c2 = 0)) hB _ _ _ _ _ _ _ _ _ _ _ _ _ _ _ _ _ _ _ _ _ _ _ _ _ _ _ _ _ _ _ _ _ _ _ _ _ _ _ _ _ _ _ _ _ _ _ _ _ _ _ _ _ _ _ _ _ _ _ _ _ _ _ _ _ _ _ _ _ _ _ _ _ _ _ _ _ _ _ _ _ _ _ _ _ _ _ _ _ _ _ _ _ _ _ _ _ _ _ _ _ _ _ _ _ _ _ _ _ _ _ _ _ _ _ _ _ _ _ _ _ _ _ _ _ _ _ _ _ _ _ _ _ _ _ _ _ _ _ _ _ _ _ _ _ _ _ _ _ _ _ _ _ _ _ _ _ _ _ _ _ _ _ _ _ _ _ _ _ _ _ _ _ _ _ _ _ _ _ _ _ _ _ _ _ _ _ _ _ _ _ _ _ _ _ _ _ _ _ _ _ _ _ _ _ _ _ _ _ _ _ _ _ _ _ _ _ _ _ _ _ _ _ _ _ _ _ _ _ _ _ _ _ _ _ _ _ _ _ _ _ _ _ _ _ _ _ _ _ _ _ _ _ _ _ _
  | some x =>
    have mk := run_make_row' (P := Try.prog) 29 3 (.int .i64 0) 8 Try.underlying29 info3 rfl .i64 .i64 n (by omega) (by omega)
    obtain ⟨w', hcp, hi', hb'⟩ := copy_step (.int .i64 0) Try.underlying29 size3 c1 h1
    have Hi : Hid _ := hi'
    have Hb : Hid _ := hb'
    clear hi' hb'
    go_wp2
    try rw [hte]
    exact htail w w' b0 _ a2 c2 n T L H k hn (h0.later Hb.out) Hi.out (h2.later Hb.out) wl wh z2 (below_call hB Hb.out) _ _ _ _ _ _ _ _ _ _ _ _ _ _ _ _ _ _ _ _ _ _ _ _ _ _ _ _ _ _ _ _ _ _ _ _ _ _ _ _ _ _ _ _ _ _ _ _ _ _ _ _ _ _ _ _ _ _ _ _ _ _ _ _ _ _ _ _ _ _ _ _ _ _ _ _ _ _ _ _ _ _ _ _ _ _ _ _ _ _ _ _ _ _ _ _ _ _ _ _ _ _ _ _ _ _ _ _ _ _ _ _ _ _ _ _ _ _ _ _ _ _ _ _ _ _ _ _ _ _ _ _ _ _ _ _ _ _ _ _ _ _ _ _ _ _ _ _ _ _ _ _ _ _ _ _ _ _ _ _ _ _ _ _ _ _ _ _ _ _ _ _ _ _ _ _ _ _ _ _ _ _ _ _ _ _ _ _ _ _ _ _ _ _ _ _ _ _ _ _ _ _ _ _ _ _ _ _ _ _ _ _ _ _ _ _ _ _ _ _ _ _ _ _ _ _ _ _ _ _ _ _ _ _ _ _ _ _ _ _ _ _ _ _ _ _ _ _ _ _ _ _ _ _ _ _

set_option maxRecDepth 100000 in
set_option maxHeartbeats 4000000 in
theorem splits_c6 (htail : SplitsP7) : SplitsP6 := by
  intro w W b0 b1 a2 c2 n T L H k hn h0 h1 h2 wl wh z2 hB u9 u10 u26 u27 u28 u29 u30 u31 u32 u33 u34 u35 u36 u37 u38 u39 u40 u41 u42 u43 u44 u45 u46 u47 u48 u49 u50 u51 u52 u53 u54 u55 u56 u57 u58 u59 u60 u61 u62 u63 u64 u65 u66 u67 u68 u69 u70 u71 u72 u73 u74 u75 u76 u77 u78 u79 u80 u81 u82 u83 u84 u85 u86 u87 u88 u89 u90 u91 u92 u93 u94 u95 u96 u97 u98 u99 u100 u101 u102 u103 u104 u105 u106 u107 u108 u109 u110 u111 u112 u113 u114 u115 u116 u117 u118 u119 u120 u121 u122 u123 u124 u125 u126 u127 u128 u129 u130 u131 u132 u133 u134 u135 u136 u137 u138 u139 u140 u141 u142 u143 u144 u145 u146 u147 u148 u149 u150 u151 u152 u153 u154 u155 u156 u157 u158 u159 u160 u161 u162 u163 u164 u165 u166 u167 u168 u169 u170 u171 u172 u173 u174 u175 u176 u177 u178 u179 u180 u181 u182 u183 u184 u185 u186 u187 u188 u189 u190 u191 u192 u193 u194 u195 u196 u197 u198 u199 u200 u201 u202 u203 u204 u205 u206 u207 u208 u209 u210 u211 u212 u213 u214 u215 u216 u217 u218 u219 u220 u221 u222 u223 u224 u225 u226 u227 u228 u229 u230 u231 u232 u233 u234 u235 u236 u237 u238 u239 u240 u241 u242 u243 u244 u245 u246 u247 u248 u249 u250 u251 u252 u253 u254 u255 u256 u257 u258 u259 u260 u261 u262 u263 u264 u265 u266 u267 u268 u269 u270 u271 u272 u273 u274 u275 u276 u277 u278 u279
  obtain ⟨t, hte⟩ : ∃ t, t = restN 7 (Try.f5.body.getD .skip) := ⟨_, rfl⟩
  obtain ⟨co, hc⟩ : ∃ co, co = headN t 1 (restN 6 (Try.f5.body.getD .skip)) := ⟨_, rfl⟩
  have hcc : restN 6 (Try.f5.body.getD .skip) = co := by rw [hc, hte]; rfl
  rw [hcc]
  clear hcc
  dsimp only [headN, restN, Try.f5, Option.getD] at hc
  subst hc
  have e29 := neq_nil Try.underlying29
  cases a2 with
  | none =>
    obtain ⟨rfl, rfl⟩ := z2.out rfl
    clear z2
    go_wp2
    try rw [hte]
    exact htail w W b0 b1 none 0 T L H k hn h0 h1 h2 wl wh hB _ _ _ _ _ _ _ _ _ _ _ _ _ _ _ _ _ _ _ _ _ _ _ _ _ _ _ _ _ _ _ _ _ _ _ _ _ _ _ _ _ _ _ _ _ _ _ _ _ _ _ _ _ _ _ _ _ _ _ _ _ _ _ _ _ _ _ _ _ _ _ _ _ _ _ _ _ _ _ _ _ _ _ _ _ _ _ _ _ _ _ _ _ _ _ _ _ _ _ _ _ _ _ _ _ _ _ _ _ _ _ _ _ _ _ _ _ _ _ _ _ _ _ _ _ _ _ _ _ _ _ _ _ _ _ _ _ _ _ _ _ _ _ _ _ _ _ _ _ _ _ _ _ _ _ _ _ _ _ _ _ _ _ _ _ _ _ _ _ _ _ _ _ _ _ _ _ _ _ _ _ _ _ _ _ _ _ _ _ _ _ _ _ _ _ _ _ _ _ _ _ _ _ _ _ _ _ _ _ _ _ _ _ _ _ _ _ _ _ _ _ _ _ _ _ _ _ _ _ _ _ _ _ _ _ _ _ _ _ _ _ _ _ _ _ _ _ _ _ _ _ _ _ _ _ _ _
  | some x =>
    have mk := run_make_row' (P := Try.prog) 29 3 (.int .i64 0) 8 Try.underlying29 info3 rfl .i64 .i64 n (by omega) (by omega)
    obtain ⟨w', hcp, hi', hb'⟩ := copy_step (.int .i64 0) Try.underlying29 size3 c2 h2
    have Hi : Hid _ := hi'
    have Hb : Hid _ := hb'
    clear hi' hb'
    go_wp2
    try rw [hte]
    exact htail w w' b0 b1 _ n T L H k hn (h0.later Hb.out) (h1.later Hb.out) Hi.out wl wh (below_call hB Hb.out) _ _ _ _ _ _ _ _ _ _ _ _ _ _ _ _ _ _ _ _ _ _ _ _ _ _ _ _ _ _ _ _ _ _ _ _ _ _ _ _ _ _ _ _ _ _ _ _ _ _ _ _ _ _ _ _ _ _ _ _ _ _ _ _ _ _ _ _ _ _ _ _ _ _ _ _ _ _ _ _ _ _ _ _ _ _ _ _ _ _ _ _ _ _ _ _ _ _ _ _ _ _ _ _ _ _ _ _ _ _ _ _ _ _ _ _ _ _ _ _ _ _ _ _ _ _ _ _ _ _ _ _ _ _ _ _ _ _ _ _ _ _ _ _ _ _ _ _ _ _ _ _ _ _ _ _ _ _ _ _ _ _ _ _ _ _ _ _ _ _ _ _ _ _ _ _ _ _ _ _ _ _ _ _ _ _ _ _ _ _ _ _ _ _ _ _ _ _ _ _ _ _ _ _ _ _ _ _ _ _ _ _ _ _ _ _ _ _ _ _ _ _ _ _ _ _ _ _ _ _ _ _ _ _ _ _ _ _ _ _ _ _ _ _ _ _ _ _ _ _ _ _ _ _ _ _ _


end Go.Proofs.Qxb6618604a
