import Derived.Test.Qxb6618604aSplitsDefs
import Derived.Deep.QuietTactic
namespace Go.Proofs.Qxb6618604a
open Go.RowKit Go.Shelf

set_option maxRecDepth 100000 in
set_option maxHeartbeats 4000000 in
theorem splits_end (htail : SplitsTail3) : SplitsTail2 := by
  intro w W b0 b1 b2 ra ia ra1 ia1 ra2 ia2 n rc ic rc1 ic1 rc2 ic2 N1 N2 T L H k hn i0 i1 i2 wl wh ht hB hN r1 r2 r3 r4 r5 r6 u9 u10 u11 u26 u27 u28 u29 u30 u31 u32 u33 u34 u35 u36 u37 u38 u39 u40 u41 u42 u43 u44 u45 u46 u47 u48 u49 u50 u51 u52 u53 u54 u55 u56 u57 u58 u59 u60 u61 u62 u63 u64 u65 u66 u67 u68 u69 u70 u71 u72 u73 u74 u75 u76 u77 u78 u79 u80 u81 u82 u83 u84 u85 u86 u87 u88 u89 u90 u91 u92 u93 u94 u95 u96 u97 u98 u99 u100 u101 u102 u103 u104 u105 u106 u107 u108 u109 u110 u111 u112 u113 u114 u115 u116 u117 u118 u119 u120 u121 u122 u123 u124 u125 u126 u127 u128 u129 u130 u131 u132 u133 u134 u135 u136 u137 u138 u139 u140 u141 u142 u143 u144 u145 u146 u147 u148 u149 u150 u151 u152 u153 u154 u155 u156 u157 u158 u159 u160 u161 u162 u163 u164 u165 u166 u167 u168 u169 u170 u171 u172 u173 u174 u175 u176 u177 u178 u179 u180 u181 u182 u183 u184 u185 u186 u187 u188 u189 u190 u191 u192 u193 u194 u195 u196 u197 u198 u199 u200 u201 u202 u203 u204 u205 u206 u207 u208 u209 u210 u211 u212 u213 u214 u215 u216 u217 u218 u219 u220 u221 u222 u223 u224 u225 u226 u227 u228 u229 u230 u231 u232 u233 u234 u235 u236 u237 u238 u239 u240 u241 u242 u243 u244 u245 u246 u247 u248 u249 u250 u251 u252 u253 u254 u255 u256 u257 u258 u259 u260 u261 u262 u263 u264 u265 u266 u267 u268 u269 u270 u271 u272 u273 u274 u275 u276 u277 u278 u279
  obtain ⟨co0, hte⟩ : ∃ t, t = restN 17 (Try.f5.body.getD .skip) := ⟨_, rfl⟩
  obtain ⟨co, hc⟩ : ∃ co, co = headN co0 4 (restN 13 (Try.f5.body.getD .skip)) := ⟨_, rfl⟩
  have hcc : restN 13 (Try.f5.body.getD .skip) = co := by rw [hc, hte]; rfl
  rw [hcc]
  clear hcc
  dsimp only [headN, restN, Try.f5, Option.getD] at hc
  subst hc
  have hN6 : N1 + N2 ≤ 65536 := by omega
  have key : ∀ (W' : World), Below W.heap.size W W' → ∀ (u8 u9 u10 u11 u12 u16 u17 u18 u19 u20 u21 u26 u27 u28 u29 u30 u31 u32 u33 u34 u35 u36 u37 u38 u39 u40 u41 u42 u43 u44 u45 u46 u47 u48 u49 u50 u51 u52 u53 u54 u55 u56 u57 u58 u59 u60 u61 u62 u63 u64 u65 u66 u67 u68 u69 u70 u71 u72 u73 u74 u75 u76 u77 u78 u79 u80 u81 u82 u83 u84 u85 u86 u87 u88 u89 u90 u91 u92 u93 u94 u95 u96 u97 u98 u99 u100 u101 u102 u103 u104 u105 u106 u107 u108 u109 u110 u111 u112 u113 u114 u115 u116 u117 u118 u119 u120 u121 u122 u123 u124 u125 u126 u127 u128 u129 u130 u131 u132 u133 u134 u135 u136 u137 u138 u139 u140 u141 u142 u143 u144 u145 u146 u147 u148 u149 u150 u151 u152 u153 u154 u155 u156 u157 u158 u159 u160 u161 u162 u163 u164 u165 u166 u167 u168 u169 u170 u171 u172 u173 u174 u175 u176 u177 u178 u179 u180 u181 u182 u183 u184 u185 u186 u187 u188 u189 u190 u191 u192 u193 u194 u195 u196 u197 u198 u199 u200 u201 u202 u203 u204 u205 u206 u207 u208 u209 u210 u211 u212 u213 u214 u215 u216 u217 u218 u219 u220 u221 u222 u223 u224 u225 u226 u227 u228 u229 u230 u231 u232 u233 u234 u235 u236 u237 u238 u239 u240 u241 u242 u243 u244 u245 u246 u247 u248 u249 u250 u251 u252 u253 u254 u255 u256 u257 u258 u259 u260 u261 u262 u263 u264 u265 u266 u267 u268 u269 u270 u271 u272 u273 u274 u275 u276 u277 u278 u279 : Value),
      Code.wp Try.prog co0 (bodyPost Try.prog Try.f5 fun e w' => LawEnd w e w')
        { tmps := #[.slice b0 n n, .slice b1 n n, .slice b2 n n, .int .i64 k, undef, undef, undef, undef, u8, u9, u10, u11, u12, .bool true, .slice ra (N1 + N2) rc, .slice ia (N1 + N2) ic, u16, u17, u18, u19, u20, u21, undef, undef, undef, undef, u26, u27, u28, u29, u30, u31, u32, u33, u34, u35, u36, u37, u38, u39, u40, u41, u42, u43, u44, u45, u46, u47, u48, u49, u50, u51, u52, u53, u54, u55, u56, u57, u58, u59, u60, u61, u62, u63, u64, u65, u66, u67, u68, u69, u70, u71, u72, u73, u74, u75, u76, u77, u78, u79, u80, u81, u82, u83, u84, u85, u86, u87, u88, u89, u90, u91, u92, u93, u94, u95, u96, u97, u98, u99, u100, u101, u102, u103, u104, u105, u106, u107, u108, u109, u110, u111, u112, u113, u114, u115, u116, u117, u118, u119, u120, u121, u122, u123, u124, u125, u126, u127, u128, u129, u130, u131, u132, u133, u134, u135, u136, u137, u138, u139, u140, u141, u142, u143, u144, u145, u146, u147, u148, u149, u150, u151, u152, u153, u154, u155, u156, u157, u158, u159, u160, u161, u162, u163, u164, u165, u166, u167, u168, u169, u170, u171, u172, u173, u174, u175, u176, u177, u178, u179, u180, u181, u182, u183, u184, u185, u186, u187, u188, u189, u190, u191, u192, u193, u194, u195, u196, u197, u198, u199, u200, u201, u202, u203, u204, u205, u206, u207, u208, u209, u210, u211, u212, u213, u214, u215, u216, u217, u218, u219, u220, u221, u222, u223, u224, u225, u226, u227, u228, u229, u230, u231, u232, u233, u234, u235, u236, u237, u238, u239, u240, u241, u242, u243, u244, u245, u246, u247, u248, u249, u250, u251, u252, u253, u254, u255, u256, u257, u258, u259, u260, u261, u262, u263, u264, u265, u266, u267, u268, u269, u270, u271, u272, u273, u274, u275, u276, u277, u278, u279], defers := [] } W' := by
    intro W' hW u8 u9 u10 u11 u12 u16 u17 u18 u19 u20 u21 u26 u27 u28 u29 u30 u31 u32 u33 u34 u35 u36 u37 u38 u39 u40 u41 u42 u43 u44 u45 u46 u47 u48 u49 u50 u51 u52 u53 u54 u55 u56 u57 u58 u59 u60 u61 u62 u63 u64 u65 u66 u67 u68 u69 u70 u71 u72 u73 u74 u75 u76 u77 u78 u79 u80 u81 u82 u83 u84 u85 u86 u87 u88 u89 u90 u91 u92 u93 u94 u95 u96 u97 u98 u99 u100 u101 u102 u103 u104 u105 u106 u107 u108 u109 u110 u111 u112 u113 u114 u115 u116 u117 u118 u119 u120 u121 u122 u123 u124 u125 u126 u127 u128 u129 u130 u131 u132 u133 u134 u135 u136 u137 u138 u139 u140 u141 u142 u143 u144 u145 u146 u147 u148 u149 u150 u151 u152 u153 u154 u155 u156 u157 u158 u159 u160 u161 u162 u163 u164 u165 u166 u167 u168 u169 u170 u171 u172 u173 u174 u175 u176 u177 u178 u179 u180 u181 u182 u183 u184 u185 u186 u187 u188 u189 u190 u191 u192 u193 u194 u195 u196 u197 u198 u199 u200 u201 u202 u203 u204 u205 u206 u207 u208 u209 u210 u211 u212 u213 u214 u215 u216 u217 u218 u219 u220 u221 u222 u223 u224 u225 u226 u227 u228 u229 u230 u231 u232 u233 u234 u235 u236 u237 u238 u239 u240 u241 u242 u243 u244 u245 u246 u247 u248 u249 u250 u251 u252 u253 u254 u255 u256 u257 u258 u259 u260 u261 u262 u263 u264 u265 u266 u267 u268 u269 u270 u271 u272 u273 u274 u275 u276 u277 u278 u279
    have h := htail w W' b0 b1 b2 ra ia n rc ic T L H k hn (i0.later hW) (i1.later hW) (i2.later hW) wl wh ht (below_call hB hW) (by rw [hN]; exact r1.later hW) (by rw [hN]; exact r2.later hW) u8 u9 u10 u11 u12 u16 u17 u18 u19 u20 u21 u26 u27 u28 u29 u30 u31 u32 u33 u34 u35 u36 u37 u38 u39 u40 u41 u42 u43 u44 u45 u46 u47 u48 u49 u50 u51 u52 u53 u54 u55 u56 u57 u58 u59 u60 u61 u62 u63 u64 u65 u66 u67 u68 u69 u70 u71 u72 u73 u74 u75 u76 u77 u78 u79 u80 u81 u82 u83 u84 u85 u86 u87 u88 u89 u90 u91 u92 u93 u94 u95 u96 u97 u98 u99 u100 u101 u102 u103 u104 u105 u106 u107 u108 u109 u110 u111 u112 u113 u114 u115 u116 u117 u118 u119 u120 u121 u122 u123 u124 u125 u126 u127 u128 u129 u130 u131 u132 u133 u134 u135 u136 u137 u138 u139 u140 u141 u142 u143 u144 u145 u146 u147 u148 u149 u150 u151 u152 u153 u154 u155 u156 u157 u158 u159 u160 u161 u162 u163 u164 u165 u166 u167 u168 u169 u170 u171 u172 u173 u174 u175 u176 u177 u178 u179 u180 u181 u182 u183 u184 u185 u186 u187 u188 u189 u190 u191 u192 u193 u194 u195 u196 u197 u198 u199 u200 u201 u202 u203 u204 u205 u206 u207 u208 u209 u210 u211 u212 u213 u214 u215 u216 u217 u218 u219 u220 u221 u222 u223 u224 u225 u226 u227 u228 u229 u230 u231 u232 u233 u234 u235 u236 u237 u238 u239 u240 u241 u242 u243 u244 u245 u246 u247 u248 u249 u250 u251 u252 u253 u254 u255 u256 u257 u258 u259 u260 u261 u262 u263 u264 u265 u266 u267 u268 u269 u270 u271 u272 u273 u274 u275 u276 u277 u278 u279
    rw [hN] at h
    rw [hte]
    exact h
  have Hkey : Hid _ := key
  clear key hte htail i0 i1 i2 wl wh ht hN hB
  generalize rk T L H n = R at *
  generalize ix T L H n = X at *
  go_wp2_with fail
  go_loopw [20] (fun i wr => ∃ t : Nat, t ≤ N1 ∧ i = .int .i64 t ∧ Below W.heap.size W wr) (fun i _ => N1 - (intOf i).toNat)
  case atStart => exact ⟨0, Nat.zero_le _, rfl, Below.refl _ _⟩
  case round =>
  obtain ⟨t, htm, rfl, hBW⟩ := hrel
  by_cases hlt : t < N1
  · obtain ⟨x1, rfl, d1⟩ := r1 t (by omega)
    obtain ⟨x2, rfl, d2⟩ := r2 t (by omega)
    obtain ⟨x3, rfl, d3⟩ := r3 t hlt
    obtain ⟨x4, rfl, d4⟩ := r4 t hlt
    replace d1 := (hBW.cell (cell_lt d1)).trans d1
    replace d2 := (hBW.cell (cell_lt d2)).trans d2
    replace d3 := (hBW.cell (cell_lt d3)).trans d3
    replace d4 := (hBW.cell (cell_lt d4)).trans d4
    have hlt' : (t : Int) < (N1 : Int) := by omega
    have hlt2 : (t : Int) < (N1 : Int) + (N2 : Int) := by omega
    clear r1 r2 r3 r4 r5 r6
    generalize R t = rv at *
    generalize X t = iv at *
    go_wp2
    go_quiet (fail)
    go_wp2
    go_roundw
    case rel => exact ⟨t + 1, by omega, by go_num, below_call hBW (below_draws _ _)⟩
    case measure => simp [intOf]; omega
  obtain rfl : t = N1 := by omega
  clear r3 r4 hlt htm
  go_wp2_with fail
  go_loopw [21] (fun i wr => ∃ q : Nat, q ≤ N2 ∧ i = .int .i64 q ∧ Below W.heap.size W wr) (fun i _ => N2 - (intOf i).toNat)
  case atStart => exact ⟨0, Nat.zero_le _, rfl, hBW⟩
  case round =>
  obtain ⟨q, htm, rfl, hBV⟩ := hrel
  by_cases hlt : q < N2
  · obtain ⟨x1, rfl, d1⟩ := r1 (t + q) (by omega)
    obtain ⟨x2, rfl, d2⟩ := r2 (t + q) (by omega)
    obtain ⟨x3, rfl, d3⟩ := r5 q hlt
    obtain ⟨x4, rfl, d4⟩ := r6 q hlt
    replace d1 := (hBV.cell (cell_lt d1)).trans d1
    replace d2 := (hBV.cell (cell_lt d2)).trans d2
    replace d3 := (hBV.cell (cell_lt d3)).trans d3
    replace d4 := (hBV.cell (cell_lt d4)).trans d4
    simp only [from_] at d3 d4
    have hlt' : (q : Int) < (N2 : Int) := by omega
    have hlt2 : (t : Int) + (q : Int) < (t : Int) + (N2 : Int) := by omega
    have hnn : (0 : Int) ≤ (t : Int) + (q : Int) := by omega
    have htn : ((t : Int) + (q : Int)).toNat = t + q := by omega
    clear r1 r2 r5 r6
    generalize R (t + q) = rv at *
    generalize X (t + q) = iv at *
    go_wp2
    go_quiet (fail)
    go_wp2
    go_roundw
    case rel => exact ⟨q + 1, by omega, by go_num, below_call hBV (below_draws _ _)⟩
    case measure => simp [intOf]; omega
  obtain rfl : q = N2 := by omega
  clear r1 r2 r5 r6
  go_wp2
  exact Hkey.out _ hBV _ _ _ _ _ _ _ _ _ _ _ _ _ _ _ _ _ _ _ _ _ _ _ _ _ _ _ _ _ _ _ _ _ _ _ _ _ _ _ _ _ _ _ _ _ _ _ _ _ _ _ _ _ _ _ _ _ _ _ _ _ _ _ _ _ _ _ _ _ _ _ _ _ _ _ _ _ _ _ _ _ _ _ _ _ _ _ _ _ _ _ _ _ _ _ _ _ _ _ _ _ _ _ _ _ _ _ _ _ _ _ _ _ _ _ _ _ _ _ _ _ _ _ _ _ _ _ _ _ _ _ _ _ _ _ _ _ _ _ _ _ _ _ _ _ _ _ _ _ _ _ _ _ _ _ _ _ _ _ _ _ _ _ _ _ _ _ _ _ _ _ _ _ _ _ _ _ _ _ _ _ _ _ _ _ _ _ _ _ _ _ _ _ _ _ _ _ _ _ _ _ _ _ _ _ _ _ _ _ _ _ _ _ _ _ _ _ _ _ _ _ _ _ _ _ _ _ _ _ _ _ _ _ _ _ _ _ _ _ _ _ _ _ _ _ _ _ _ _ _ _ _ _ _ _ _ _ _ _ _ _ _ _ _ _

end Go.Proofs.Qxb6618604a
