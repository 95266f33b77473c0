import Derived.Test.Qxb6618604aSplitsDefs
import Derived.Test.Qxb6618604aZZ
import Derived.Deep.RegionWith
namespace Go.Proofs.Qxb6618604a
open Go.RowKit Go.Shelf

theorem meet2 {K : Act → World → Prop} {Q : Exit → Act → World → Prop} {a b : Act} {w : World} (e : a = b) (h : K b w) : Exit.then K Q .normal a w := by
  subst e; exact h

theorem IntsAt.congr {k : IntKind} {w : World} {a : Option Addr} {n : Nat} {f g : Nat → Int} (h : IntsAt k w a n f) (e : ∀ j, j < n → f j = g j) : IntsAt k w a n g := fun j hj => by
  rw [← e j hj]; exact h j hj

set_option maxRecDepth 100000 in
set_option maxHeartbeats 4000000 in
theorem splits_c12 (htail : SplitsTail2) : SplitsP12 := by
  intro w W b0 b1 b2 ra ia ra1 ia1 n c rc ic rc1 ic1 m m1 T L H hn hcn i0 i1 i2 wl wh ht hB hm r1 r2 hm1 r3 r4 u9 u10 u11 u26 u27 u28 u29 u30 u31 u32 u33 u34 u35 u36 u37 u38 u39 u40 u41 u42 u43 u44 u45 u46 u47 u48 u49 u50 u51 u52 u53 u54 u55 u56 u57 u58 u59 u60 u61 u62 u63 u64 u65 u66 u67 u68 u69 u70 u71 u72 u73 u74 u75 u76 u77 u78 u79 u80 u81 u82 u83 u84 u85 u86 u87 u88 u89 u90 u91 u92 u93 u94 u95 u96 u97 u98 u99 u100 u101 u102 u103 u104 u105 u106 u107 u108 u109 u110 u111 u112 u113 u114 u115 u116 u117 u118 u119 u120 u121 u122 u123 u124 u125 u126 u127 u128 u129 u130 u131 u132 u133 u134 u135 u136 u137 u138 u139 u140 u141 u142 u143 u144 u145 u146 u147 u148 u149 u150 u151 u152 u153 u154 u155 u156 u157 u158 u159 u160 u161 u162 u163 u164 u165 u166 u167 u168 u169 u170 u171 u172 u173 u174 u175 u176 u177 u178 u179 u180 u181 u182 u183 u184 u185 u186 u187 u188 u189 u190 u191 u192 u193 u194 u195 u196 u197 u198 u199 u200 u201 u202 u203 u204 u205 u206 u207 u208 u209 u210 u211 u212 u213 u214 u215 u216 u217 u218 u219 u220 u221 u222 u223 u224 u225 u226 u227 u228 u229 u230 u231 u232 u233 u234 u235 u236 u237 u238 u239 u240 u241 u242 u243 u244 u245 u246 u247 u248 u249 u250 u251 u252 u253 u254 u255 u256 u257 u258 u259 u260 u261 u262 u263 u264 u265 u266 u267 u268 u269 u270 u271 u272 u273 u274 u275 u276 u277 u278 u279
  obtain ⟨t, hte⟩ : ∃ t, t = restN 13 (Try.f5.body.getD .skip) := ⟨_, rfl⟩
  obtain ⟨co, hc⟩ : ∃ co, co = headN t 1 (restN 12 (Try.f5.body.getD .skip)) := ⟨_, rfl⟩
  have hcc : restN 12 (Try.f5.body.getD .skip) = co := by rw [hc, hte]; rfl
  rw [hcc]
  clear hcc
  dsimp only [headN, restN, Try.f5, Option.getD] at hc
  subst hc
  have hN := total_left L H hcn
  have key : ∀ tt : Nat, tt = total L H n → ∀ (W' : World) (ra2 ia2 : Option Addr) (rc2 ic2 : Nat), ∀ m2 : Nat, Below W.heap.size W W' → m2 = min (131072 : Int).toNat (total (from_ c L) (from_ c H) (n - c)) →
      IntsAt .u64 W' ra2 m2 (rk (from_ c T) (from_ c L) (from_ c H) (n - c)) → IntsAt .i64 W' ia2 m2 (ix (from_ c T) (from_ c L) (from_ c H) (n - c)) →
      ∀ (u9 u10 u11 u26 u27 u28 u29 u30 u31 u32 u33 u34 u35 u36 u37 u38 u39 u40 u41 u42 u43 u44 u45 u46 u47 u48 u49 u50 u51 u52 u53 u54 u55 u56 u57 u58 u59 u60 u61 u62 u63 u64 u65 u66 u67 u68 u69 u70 u71 u72 u73 u74 u75 u76 u77 u78 u79 u80 u81 u82 u83 u84 u85 u86 u87 u88 u89 u90 u91 u92 u93 u94 u95 u96 u97 u98 u99 u100 u101 u102 u103 u104 u105 u106 u107 u108 u109 u110 u111 u112 u113 u114 u115 u116 u117 u118 u119 u120 u121 u122 u123 u124 u125 u126 u127 u128 u129 u130 u131 u132 u133 u134 u135 u136 u137 u138 u139 u140 u141 u142 u143 u144 u145 u146 u147 u148 u149 u150 u151 u152 u153 u154 u155 u156 u157 u158 u159 u160 u161 u162 u163 u164 u165 u166 u167 u168 u169 u170 u171 u172 u173 u174 u175 u176 u177 u178 u179 u180 u181 u182 u183 u184 u185 u186 u187 u188 u189 u190 u191 u192 u193 u194 u195 u196 u197 u198 u199 u200 u201 u202 u203 u204 u205 u206 u207 u208 u209 u210 u211 u212 u213 u214 u215 u216 u217 u218 u219 u220 u221 u222 u223 u224 u225 u226 u227 u228 u229 u230 u231 u232 u233 u234 u235 u236 u237 u238 u239 u240 u241 u242 u243 u244 u245 u246 u247 u248 u249 u250 u251 u252 u253 u254 u255 u256 u257 u258 u259 u260 u261 u262 u263 u264 u265 u266 u267 u268 u269 u270 u271 u272 u273 u274 u275 u276 u277 u278 u279 : Value),
      Code.wp Try.prog t (bodyPost Try.prog Try.f5 fun e w' => LawEnd w e w')
        { tmps := #[.slice b0 n n, .slice b1 n n, .slice b2 n n, .int .i64 (c : Int), undef, undef, undef, undef, .bool false, u9, u10, u11, .int .i64 (tt : Int), .bool true, .slice ra m rc, .slice ia m ic, .slice ra1 m1 rc1, .slice ia1 m1 ic1, .slice ra2 m2 rc2, .slice ia2 m2 ic2, undef, undef, undef, undef, undef, undef, u26, u27, u28, u29, u30, u31, u32, u33, u34, u35, u36, u37, u38, u39, u40, u41, u42, u43, u44, u45, u46, u47, u48, u49, u50, u51, u52, u53, u54, u55, u56, u57, u58, u59, u60, u61, u62, u63, u64, u65, u66, u67, u68, u69, u70, u71, u72, u73, u74, u75, u76, u77, u78, u79, u80, u81, u82, u83, u84, u85, u86, u87, u88, u89, u90, u91, u92, u93, u94, u95, u96, u97, u98, u99, u100, u101, u102, u103, u104, u105, u106, u107, u108, u109, u110, u111, u112, u113, u114, u115, u116, u117, u118, u119, u120, u121, u122, u123, u124, u125, u126, u127, u128, u129, u130, u131, u132, u133, u134, u135, u136, u137, u138, u139, u140, u141, u142, u143, u144, u145, u146, u147, u148, u149, u150, u151, u152, u153, u154, u155, u156, u157, u158, u159, u160, u161, u162, u163, u164, u165, u166, u167, u168, u169, u170, u171, u172, u173, u174, u175, u176, u177, u178, u179, u180, u181, u182, u183, u184, u185, u186, u187, u188, u189, u190, u191, u192, u193, u194, u195, u196, u197, u198, u199, u200, u201, u202, u203, u204, u205, u206, u207, u208, u209, u210, u211, u212, u213, u214, u215, u216, u217, u218, u219, u220, u221, u222, u223, u224, u225, u226, u227, u228, u229, u230, u231, u232, u233, u234, u235, u236, u237, u238, u239, u240, u241, u242, u243, u244, u245, u246, u247, u248, u249, u250, u251, u252, u253, u254, u255, u256, u257, u258, u259, u260, u261, u262, u263, u264, u265, u266, u267, u268, u269, u270, u271, u272, u273, u274, u275, u276, u277, u278, u279], defers := [] } W' := by
    intro tt htt W' ra2 ia2 rc2 ic2 m2 hW h2 r5 r6
    have h := hm.out
    have h1 := hm1.out
    clear hm hm1
    obtain rfl : m1 = total L H c := by omega
    obtain rfl : m2 = total (from_ c L) (from_ c H) (n - c) := by omega
    obtain rfl : m = total L H c + total (from_ c L) (from_ c H) (n - c) := by omega
    obtain rfl : tt = total L H c + total (from_ c L) (from_ c H) (n - c) := by omega
    rw [hte]
    exact htail w W' b0 b1 b2 ra ia ra1 ia1 ra2 ia2 n rc ic rc1 ic1 rc2 ic2 _ _ T L H c hn (i0.later hW) (i1.later hW) (i2.later hW) wl wh ht (below_call hB hW) hN (r1.later hW) (r2.later hW)
      ((r3.later hW).congr fun j hj => (rk_left T L H hcn hj).symm) ((r4.later hW).congr fun j hj => (ix_left T L H hcn hj).symm) (r5.congr fun j _ => (rk_right T L H hcn).symm) (r6.congr fun j _ => (ix_right T L H hcn).symm)
  have Hkey : Hid _ := key
  have hcn' : (c : Int) ≤ (n : Int) := by omega
  clear key hte htail hB hm hm1 r1 r2 r3 r4
  by_cases hce : c = n
  · subst hce
    have call : ∀ (W1 : World), Below W.heap.size W W1 → Calls Try.prog 13 #[.slice b0 0 0, .slice b1 0 0, .slice b2 0 0, .int .i64 131072] W1 (RowsEnd W1 (from_ c T) (from_ c L) (from_ c H) 0 131072) := fun W1 h1 => zz_any b0 b1 b2 0 0 0 0 _ _ _ 131072 W1 (by omega) (fun j hj => absurd hj (by omega)) (fun j hj => absurd hj (by omega)) (fun j hj => absurd hj (by omega)) (fun j hj => absurd hj (by omega)) (fun j hj => absurd hj (by omega)) (by simp [total])
    have Hcall : Hid _ := call
    rw [Nat.sub_self] at Hkey
    clear call i0 i1 i2 wl wh hN
    go_wp2_with fail
    go_region_with (go_at_call 13; refine Calls.mono (Hcall.out _ ?_) ?_; exact (Below.refl _ _).drew; rintro e W1 ⟨ra2, ia2, rc2, ic2, m2, rfl, hq, r5, r6, hB1⟩; have hm2 : Hid _ := hq; clear hq; dsimp only)
    have hW1 : Below W.heap.size W W1 := below_call (Below.refl _ W).drew hB1
    refine meet2 (b := { tmps := #[.slice b0 c c, .slice b1 c c, .slice b2 c c, .int .i64 (c : Int), undef, undef, undef, undef, .bool false, u9, u10, u11, .int .i64 ((total L H c : Nat) : Int), .bool true, .slice ra m rc, .slice ia m ic, .slice ra1 m1 rc1, .slice ia1 m1 ic1, .slice ra2 m2 rc2, .slice ia2 m2 ic2, undef, undef, undef, undef, undef, undef, u26, u27, u28, u29, u30, u31, u32, u33, u34, u35, u36, u37, u38, u39, u40, u41, u42, u43, u44, u45, u46, u47, u48, u49, u50, u51, u52, u53, u54, u55, u56, u57, u58, u59, u60, u61, u62, u63, u64, u65, u66, u67, u68, u69, u70, u71, u72, u73, u74, u75, u76, u77, u78, u79, u80, u81, u82, u83, u84, u85, u86, u87, u88, u89, u90, u91, u92, u93, u94, u95, u96, u97, u98, u99, u100, u101, u102, u103, u104, u105, u106, u107, u108, u109, u110, u111, u112, u113, u114, u115, u116, u117, u118, u119, .tuple #[.slice ra2 m2 rc2, .slice ia2 m2 ic2], .slice b0 c c, .int .i64 (c : Int), .slice b0 0 0, .slice b1 c c, .int .i64 (c : Int), .slice b1 0 0, .slice b2 c c, .int .i64 (c : Int), .slice b2 0 0, .tuple #[.slice ra2 m2 rc2, .slice ia2 m2 ic2], .slice ra2 m2 rc2, .slice ia2 m2 ic2, u133, u134, u135, u136, u137, u138, u139, u140, u141, u142, u143, u144, u145, u146, u147, u148, u149, u150, u151, u152, u153, u154, u155, u156, u157, u158, u159, u160, u161, u162, u163, u164, u165, u166, u167, u168, u169, u170, u171, u172, u173, u174, u175, u176, u177, u178, u179, u180, u181, u182, u183, u184, u185, u186, u187, u188, u189, u190, u191, u192, u193, u194, u195, u196, u197, u198, u199, u200, u201, u202, u203, u204, u205, u206, u207, u208, u209, u210, u211, u212, u213, u214, u215, u216, u217, u218, u219, u220, u221, u222, u223, u224, u225, u226, u227, u228, u229, u230, u231, u232, u233, u234, u235, u236, u237, u238, u239, u240, u241, u242, u243, u244, u245, u246, u247, u248, u249, u250, u251, u252, u253, u254, u255, u256, u257, u258, u259, u260, u261, u262, u263, u264, u265, u266, u267, u268, u269, u270, u271, u272, u273, u274, u275, u276, u277, u278, u279], defers := [] }) (by kernel_rfl) ?_
    go_wp2
    exact Hkey.out _ rfl _ _ _ _ _ _ hW1 hm2.out r5 r6 _ _ _ _ _ _ _ _ _ _ _ _ _ _ _ _ _ _ _ _ _ _ _ _ _ _ _ _ _ _ _ _ _ _ _ _ _ _ _ _ _ _ _ _ _ _ _ _ _ _ _ _ _ _ _ _ _ _ _ _ _ _ _ _ _ _ _ _ _ _ _ _ _ _ _ _ _ _ _ _ _ _ _ _ _ _ _ _ _ _ _ _ _ _ _ _ _ _ _ _ _ _ _ _ _ _ _ _ _ _ _ _ _ _ _ _ _ _ _ _ _ _ _ _ _ _ _ _ _ _ _ _ _ _ _ _ _ _ _ _ _ _ _ _ _ _ _ _ _ _ _ _ _ _ _ _ _ _ _ _ _ _ _ _ _ _ _ _ _ _ _ _ _ _ _ _ _ _ _ _ _ _ _ _ _ _ _ _ _ _ _ _ _ _ _ _ _ _ _ _ _ _ _ _ _ _ _ _ _ _ _ _ _ _ _ _ _ _ _ _ _ _ _ _ _ _ _ _ _ _ _ _ _ _ _ _ _ _ _ _ _ _ _ _ _ _ _ _ _ _ _ _ _ _ _ _ _
  · have hne : ¬ n = c := fun e => hce e.symm
    obtain ⟨x0, rfl, _⟩ := i0 c (by omega)
    obtain ⟨x1, rfl, _⟩ := i1 c (by omega)
    obtain ⟨x2, rfl, _⟩ := i2 c (by omega)
    have call : ∀ (W1 : World), Below W.heap.size W W1 → Calls Try.prog 13 #[.slice (some (x0.add c)) (n - c) (n - c), .slice (some (x1.add c)) (n - c) (n - c), .slice (some (x2.add c)) (n - c) (n - c), .int .i64 131072] W1 (RowsEnd W1 (from_ c T) (from_ c L) (from_ c H) (n - c) 131072) := fun W1 h1 => zz_any _ _ _ _ _ _ (n - c) _ _ _ 131072 W1 (by omega) (i0.later h1).from (i1.later h1).from (i2.later h1).from (fun j hj => wl (c + j) (by omega)) (fun j hj => wh (c + j) (by omega)) (by omega)
    have Hcall : Hid _ := call
    clear call i0 i1 i2 wl wh hN
    go_wp2_with fail
    go_region_with (go_at_call 13; refine Calls.mono (Hcall.out _ ?_) ?_; exact (Below.refl _ _).drew; rintro e W1 ⟨ra2, ia2, rc2, ic2, m2, rfl, hq, r5, r6, hB1⟩; have hm2 : Hid _ := hq; clear hq; dsimp only)
    have hW1 : Below W.heap.size W W1 := below_call (Below.refl _ W).drew hB1
    refine meet2 (b := { tmps := #[.slice (some x0) n n, .slice (some x1) n n, .slice (some x2) n n, .int .i64 (c : Int), undef, undef, undef, undef, .bool false, u9, u10, u11, .int .i64 ((total L H n : Nat) : Int), .bool true, .slice ra m rc, .slice ia m ic, .slice ra1 m1 rc1, .slice ia1 m1 ic1, .slice ra2 m2 rc2, .slice ia2 m2 ic2, undef, undef, undef, undef, undef, undef, u26, u27, u28, u29, u30, u31, u32, u33, u34, u35, u36, u37, u38, u39, u40, u41, u42, u43, u44, u45, u46, u47, u48, u49, u50, u51, u52, u53, u54, u55, u56, u57, u58, u59, u60, u61, u62, u63, u64, u65, u66, u67, u68, u69, u70, u71, u72, u73, u74, u75, u76, u77, u78, u79, u80, u81, u82, u83, u84, u85, u86, u87, u88, u89, u90, u91, u92, u93, u94, u95, u96, u97, u98, u99, u100, u101, u102, u103, u104, u105, u106, u107, u108, u109, u110, u111, u112, u113, u114, u115, u116, u117, u118, u119, .tuple #[.slice ra2 m2 rc2, .slice ia2 m2 ic2], .slice (some x0) n n, .int .i64 (c : Int), .slice (some (x0.add c)) (n - c) (n - c), .slice (some x1) n n, .int .i64 (c : Int), .slice (some (x1.add c)) (n - c) (n - c), .slice (some x2) n n, .int .i64 (c : Int), .slice (some (x2.add c)) (n - c) (n - c), .tuple #[.slice ra2 m2 rc2, .slice ia2 m2 ic2], .slice ra2 m2 rc2, .slice ia2 m2 ic2, u133, u134, u135, u136, u137, u138, u139, u140, u141, u142, u143, u144, u145, u146, u147, u148, u149, u150, u151, u152, u153, u154, u155, u156, u157, u158, u159, u160, u161, u162, u163, u164, u165, u166, u167, u168, u169, u170, u171, u172, u173, u174, u175, u176, u177, u178, u179, u180, u181, u182, u183, u184, u185, u186, u187, u188, u189, u190, u191, u192, u193, u194, u195, u196, u197, u198, u199, u200, u201, u202, u203, u204, u205, u206, u207, u208, u209, u210, u211, u212, u213, u214, u215, u216, u217, u218, u219, u220, u221, u222, u223, u224, u225, u226, u227, u228, u229, u230, u231, u232, u233, u234, u235, u236, u237, u238, u239, u240, u241, u242, u243, u244, u245, u246, u247, u248, u249, u250, u251, u252, u253, u254, u255, u256, u257, u258, u259, u260, u261, u262, u263, u264, u265, u266, u267, u268, u269, u270, u271, u272, u273, u274, u275, u276, u277, u278, u279], defers := [] }) (by kernel_rfl) ?_
    go_wp2
    exact Hkey.out _ rfl _ _ _ _ _ _ hW1 hm2.out r5 r6 _ _ _ _ _ _ _ _ _ _ _ _ _ _ _ _ _ _ _ _ _ _ _ _ _ _ _ _ _ _ _ _ _ _ _ _ _ _ _ _ _ _ _ _ _ _ _ _ _ _ _ _ _ _ _ _ _ _ _ _ _ _ _ _ _ _ _ _ _ _ _ _ _ _ _ _ _ _ _ _ _ _ _ _ _ _ _ _ _ _ _ _ _ _ _ _ _ _ _ _ _ _ _ _ _ _ _ _ _ _ _ _ _ _ _ _ _ _ _ _ _ _ _ _ _ _ _ _ _ _ _ _ _ _ _ _ _ _ _ _ _ _ _ _ _ _ _ _ _ _ _ _ _ _ _ _ _ _ _ _ _ _ _ _ _ _ _ _ _ _ _ _ _ _ _ _ _ _ _ _ _ _ _ _ _ _ _ _ _ _ _ _ _ _ _ _ _ _ _ _ _ _ _ _ _ _ _ _ _ _ _ _ _ _ _ _ _ _ _ _ _ _ _ _ _ _ _ _ _ _ _ _ _ _ _ _ _ _ _ _ _ _ _ _ _ _ _ _ _ _ _ _ _ _ _ _ _


end Go.Proofs.Qxb6618604a
