import Derived.Test.Qxb6618604aStopsDefs
import Derived.Test.Qxb6618604aZZ
namespace Go.Proofs.Qxb6618604a
open Go.RowKit Go.Shelf

set_option maxRecDepth 100000 in
set_option maxHeartbeats 4000000 in
theorem stops_mid (htail : StopsTail2) : StopsTail := by
  intro w W b0 b1 b2 n T L H k hn i0 i1 i2 wl wh ht hB u9 u10 u11 u23 u24 u25 u26 u27 u28 u29 u30 u31 u32 u33 u34 u35 u36 u37 u38 u39 u40 u41 u42 u43 u44 u45 u46 u47 u48 u49 u50 u51 u52 u53 u54 u55 u56 u57 u58 u59 u60 u61 u62 u63 u64 u65 u66 u67 u68 u69 u70 u71 u72 u73 u74 u75 u76 u77 u78 u79 u80 u81 u82 u83 u84 u85 u86 u87 u88 u89 u90 u91 u92 u93 u94 u95 u96 u97 u98 u99 u100 u101 u102 u103 u104 u105 u106 u107 u108 u109 u110 u111 u112 u113 u114 u115 u116 u117 u118 u119 u120 u121 u122 u123 u124 u125 u126 u127 u128 u129 u130 u131 u132 u133 u134 u135 u136 u137 u138 u139 u140 u141 u142 u143 u144 u145 u146 u147 u148 u149 u150 u151 u152 u153 u154 u155 u156 u157 u158 u159 u160 u161 u162 u163 u164 u165 u166 u167 u168 u169 u170 u171 u172 u173 u174 u175 u176 u177 u178 u179 u180 u181 u182 u183 u184 u185 u186 u187 u188 u189
  obtain ⟨t, hte⟩ : ∃ t, t = restN 14 (Try.f6.body.getD .skip) := ⟨_, rfl⟩
  obtain ⟨c, hc⟩ : ∃ c, c = headN t 5 (restN 9 (Try.f6.body.getD .skip)) := ⟨_, rfl⟩
  have hcc : restN 9 (Try.f6.body.getD .skip) = c := by rw [hc, hte]; rfl
  rw [hcc]
  clear hcc
  dsimp only [headN, restN, Try.f6, Option.getD] at hc
  subst hc
  have key : ∀ m : Nat, m = min k.toNat (total L H n) → ∀ (W' : World) (ra ia sa ja : Option Addr) (rc ic sc jc m1 m2 : Nat), Below W.heap.size W W' → m1 = min k.toNat (total L H n) → m2 = min (131072 : Int).toNat (total L H n) → IntsAt .u64 W' ra m1 (rk T L H n) → IntsAt .i64 W' ia m1 (ix T L H n) → IntsAt .u64 W' sa m2 (rk T L H n) → IntsAt .i64 W' ja m2 (ix T L H n) →
      ∀ (u9 u10 u11 u23 u24 u25 u26 u27 u28 u29 u30 u31 u32 u33 u34 u35 u36 u37 u38 u39 u40 u41 u42 u43 u44 u45 u46 u47 u48 u49 u50 u51 u52 u53 u54 u55 u56 u57 u58 u59 u60 u61 u62 u63 u64 u65 u66 u67 u68 u69 u70 u71 u72 u73 u74 u75 u76 u77 u78 u79 u80 u81 u82 u83 u84 u85 u86 u87 u88 u89 u90 u91 u92 u93 u94 u95 u96 u97 u98 u99 u100 u101 u102 u103 u104 u105 u106 u107 u108 u109 u110 u111 u112 u113 u114 u115 u116 u117 u118 u119 u120 u121 u122 u123 u124 u125 u126 u127 u128 u129 u130 u131 u132 u133 u134 u135 u136 u137 u138 u139 u140 u141 u142 u143 u144 u145 u146 u147 u148 u149 u150 u151 u152 u153 u154 u155 u156 u157 u158 u159 u160 u161 u162 u163 u164 u165 u166 u167 u168 u169 u170 u171 u172 u173 u174 u175 u176 u177 u178 u179 u180 u181 u182 u183 u184 u185 u186 u187 u188 u189 : Value),
      Code.wp Try.prog t (bodyPost Try.prog Try.f6 fun e w' => LawEnd w e w')
        { tmps := #[.slice b0 n n, .slice b1 n n, .slice b2 n n, .int .i64 k, undef, undef, undef, undef, .bool false, u9, u10, u11, .int .i64 ((total L H n : Nat) : Int), .bool true, .int .i64 (m : Int), .slice ra m1 rc, .slice ia m1 ic, .slice sa m2 sc, .slice ja m2 jc, undef, undef, undef, undef, u23, u24, u25, u26, u27, u28, u29, u30, u31, u32, u33, u34, u35, u36, u37, u38, u39, u40, u41, u42, u43, u44, u45, u46, u47, u48, u49, u50, u51, u52, u53, u54, u55, u56, u57, u58, u59, u60, u61, u62, u63, u64, u65, u66, u67, u68, u69, u70, u71, u72, u73, u74, u75, u76, u77, u78, u79, u80, u81, u82, u83, u84, u85, u86, u87, u88, u89, u90, u91, u92, u93, u94, u95, u96, u97, u98, u99, u100, u101, u102, u103, u104, u105, u106, u107, u108, u109, u110, u111, u112, u113, u114, u115, u116, u117, u118, u119, u120, u121, u122, u123, u124, u125, u126, u127, u128, u129, u130, u131, u132, u133, u134, u135, u136, u137, u138, u139, u140, u141, u142, u143, u144, u145, u146, u147, u148, u149, u150, u151, u152, u153, u154, u155, u156, u157, u158, u159, u160, u161, u162, u163, u164, u165, u166, u167, u168, u169, u170, u171, u172, u173, u174, u175, u176, u177, u178, u179, u180, u181, u182, u183, u184, u185, u186, u187, u188, u189], defers := [] } W' := by
    intro m hm W' ra ia sa ja rc ic sc jc m1 m2 hW h1 h2 r1 r2 r3 r4
    obtain rfl : m1 = m := by omega
    obtain rfl : m2 = total L H n := by omega
    rw [hte]
    exact htail w W' b0 b1 b2 ra ia sa ja n m1 rc ic sc jc T L H k hn (i0.later hW) (i1.later hW) (i2.later hW) wl wh ht (below_call hB hW) (by omega) r1 r2 r3 r4
  have Hkey : Hid _ := key
  clear key hte htail hB
  have hk0 : k < 0 ∨ (0 ≤ k ∧ (total L H n : Int) < k) ∨ (0 ≤ k ∧ k ≤ (total L H n : Int)) := by omega
  have call13 : ∀ (lim : Int) (W1 : World), Below W.heap.size W W1 → Calls Try.prog 13 #[.slice b0 n n, .slice b1 n n, .slice b2 n n, .int .i64 lim] W1 (RowsEnd W1 T L H n lim) := fun lim W1 h1 => zz_any b0 b1 b2 n n n n T L H lim W1 hn (i0.later h1) (i1.later h1) (i2.later h1) wl wh ht
  have Hcall : Hid _ := call13
  clear call13 i0 i1 i2 wl wh
  rcases hk0 with h0 | ⟨h0, h1⟩ | ⟨h0, h1⟩
  · have d0 : decide (k < 0) = true := decide_eq_true h0
    have d1 : decide ((total L H n : Int) < 0) = false := decide_eq_false (by omega)
    go_wp2_with fail
    refine (Hcall.out k W (Below.refl _ _)).mono ?_
    rintro e W1 ⟨ra, ia, rc, ic, m1, rfl, hq1, r1, r2, hB1⟩
    have hm1 : Hid _ := hq1
    clear hq1
    go_wp2_with fail
    refine (Hcall.out 131072 W1 hB1).mono ?_
    rintro e W2 ⟨sa, ja, sc, jc, m2, rfl, hq2, r3, r4, hB2⟩
    have hm2 : Hid _ := hq2
    clear hq2
    go_wp2
    exact Hkey.out 0 (by omega) _ _ _ _ _ _ _ _ _ _ _ (below_call hB1 hB2) hm1.out hm2.out (r1.later hB2) (r2.later hB2) r3 r4 _ _ _ _ _ _ _ _ _ _ _ _ _ _ _ _ _ _ _ _ _ _ _ _ _ _ _ _ _ _ _ _ _ _ _ _ _ _ _ _ _ _ _ _ _ _ _ _ _ _ _ _ _ _ _ _ _ _ _ _ _ _ _ _ _ _ _ _ _ _ _ _ _ _ _ _ _ _ _ _ _ _ _ _ _ _ _ _ _ _ _ _ _ _ _ _ _ _ _ _ _ _ _ _ _ _ _ _ _ _ _ _ _ _ _ _ _ _ _ _ _ _ _ _ _ _ _ _ _ _ _ _ _ _ _ _ _ _ _ _ _ _ _ _ _ _ _ _ _ _ _ _ _ _ _ _ _ _ _ _ _ _ _ _ _ _ _ _ _ _
  · have d0 : decide (k < 0) = false := decide_eq_false (by omega)
    have d1 : decide ((total L H n : Int) < k) = true := decide_eq_true h1
    go_wp2_with fail
    refine (Hcall.out k W (Below.refl _ _)).mono ?_
    rintro e W1 ⟨ra, ia, rc, ic, m1, rfl, hq1, r1, r2, hB1⟩
    have hm1 : Hid _ := hq1
    clear hq1
    go_wp2_with fail
    refine (Hcall.out 131072 W1 hB1).mono ?_
    rintro e W2 ⟨sa, ja, sc, jc, m2, rfl, hq2, r3, r4, hB2⟩
    have hm2 : Hid _ := hq2
    clear hq2
    go_wp2
    exact Hkey.out (total L H n) (by omega) _ _ _ _ _ _ _ _ _ _ _ (below_call hB1 hB2) hm1.out hm2.out (r1.later hB2) (r2.later hB2) r3 r4 _ _ _ _ _ _ _ _ _ _ _ _ _ _ _ _ _ _ _ _ _ _ _ _ _ _ _ _ _ _ _ _ _ _ _ _ _ _ _ _ _ _ _ _ _ _ _ _ _ _ _ _ _ _ _ _ _ _ _ _ _ _ _ _ _ _ _ _ _ _ _ _ _ _ _ _ _ _ _ _ _ _ _ _ _ _ _ _ _ _ _ _ _ _ _ _ _ _ _ _ _ _ _ _ _ _ _ _ _ _ _ _ _ _ _ _ _ _ _ _ _ _ _ _ _ _ _ _ _ _ _ _ _ _ _ _ _ _ _ _ _ _ _ _ _ _ _ _ _ _ _ _ _ _ _ _ _ _ _ _ _ _ _ _ _ _ _ _ _ _
  · obtain ⟨q, rfl⟩ := Int.eq_ofNat_of_zero_le h0
    have d0 : decide ((q : Int) < 0) = false := decide_eq_false (by omega)
    have d1 : decide ((total L H n : Int) < (q : Int)) = false := decide_eq_false (by omega)
    go_wp2_with fail
    refine (Hcall.out (q : Int) W (Below.refl _ _)).mono ?_
    rintro e W1 ⟨ra, ia, rc, ic, m1, rfl, hq1, r1, r2, hB1⟩
    have hm1 : Hid _ := hq1
    clear hq1
    go_wp2_with fail
    refine (Hcall.out 131072 W1 hB1).mono ?_
    rintro e W2 ⟨sa, ja, sc, jc, m2, rfl, hq2, r3, r4, hB2⟩
    have hm2 : Hid _ := hq2
    clear hq2
    go_wp2
    exact Hkey.out q (by omega) _ _ _ _ _ _ _ _ _ _ _ (below_call hB1 hB2) hm1.out hm2.out (r1.later hB2) (r2.later hB2) r3 r4 _ _ _ _ _ _ _ _ _ _ _ _ _ _ _ _ _ _ _ _ _ _ _ _ _ _ _ _ _ _ _ _ _ _ _ _ _ _ _ _ _ _ _ _ _ _ _ _ _ _ _ _ _ _ _ _ _ _ _ _ _ _ _ _ _ _ _ _ _ _ _ _ _ _ _ _ _ _ _ _ _ _ _ _ _ _ _ _ _ _ _ _ _ _ _ _ _ _ _ _ _ _ _ _ _ _ _ _ _ _ _ _ _ _ _ _ _ _ _ _ _ _ _ _ _ _ _ _ _ _ _ _ _ _ _ _ _ _ _ _ _ _ _ _ _ _ _ _ _ _ _ _ _ _ _ _ _ _ _ _ _ _ _ _ _ _ _ _ _ _

end Go.Proofs.Qxb6618604a
