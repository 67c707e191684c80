import Derived.Test.Qxb6615969aSeg3
import Derived.Deep.Cut
namespace Go.Proofs.Qxb6615969a
open Go.RowKit

set_option maxRecDepth 1000000 in
set_option maxHeartbeats 8000000 in
theorem seg2 {u5 u6 u7 u8 u9 u10 u11 u12 u13 u14 u15 u16 u17 u18 u19 u20 u21 u22 u23 u24 u25 u26 u27 u28 u29 u30 u31 u32 u33 u34 u35 u36 u37 u38 u39 u40 u41 u42 u43 u44 u45 u46 u47 u48 u49 u50 u51 u52 u53 u54 u55 u56 u57 u58 u59 u60 u61 u62 u63 u64 u65 u66 u67 u68 u69 u70 u71 u72 u73 u74 u75 u76 u77 u78 u79 u80 u81 u82 u83 u84 u85 u86 u87 u88 u89 u90 u91 u92 u93 u94 u95 u96 u97 u98 u99 u100 u101 u102 u103 u104 u105 u106 u107 u108 u109 u110 u111 u112 u113 u114 u115 u116 u117 u118 u119 u120 u121 u122 u123 u124 u125 u126 u127 u128 u129 u130 u131 u132 u133 u134 u135 u136 u137 u138 u139 u140 u141 u142 u143 u144 u145 u146 u147 u148 u149 u150 u151 u152 u153 u154 u155 u156 u157 u158 u159 u160 u161 u162 u163 u164 u165 u166 u167 u168 u169 u170 u171 u172 u173 u174 u175 u176 u177 u178 u179 u180 u181 u182 u183 u184 u185 u186 u187 u188 u189 u190 u191 u192 u193 u194 u195 u196 u197 u198 u199 u200 u201 u202 u203 u204 u205 u206 u207 u208 u209 u210 u211 u212 u213 u214 u215 u216 u217 u218 u219 u220 u221 u222 u223 u224 u225 u226 u227 u228 u229 u230 u231 u232 u233 u234 u235 u236 u237 u238 u239 u240 u241 u242 u243 u244 u245 u246 u247 u248 u249 u250 u251 u252 u253 u254 u255 u256 u257 u258 u259 u260 u261 u262 u263 u264 u265 u266 u267 u268 u269 u270 u271 u272 u273 u274 u275 u276 u277 u278 u279 u280 u281 u282 u283 u284 u285 u286 u287 u288 u289 u290 u291 u292 u293 u294 u295 u296 u297 u298 u299 u300 u301 u302 u303 u304 u305 u306 u307 u308 u309 u310 u311 u312 u313 u314 u315 u316 u317 u318 u319 u320 u321 : Value} (a0 a1 a2 a3 a4 : Option Addr) (n0 n1 n2 n3 n4 c0 c1 c2 c3 c4 : Nat) (S0 S1 : Nat → ByteArray) (Z2 Z3 : Nat → Int) (A : Nat → Option Addr) (L C : Nat → Nat) (Z : Nat → Nat → Int) (w : World)
    (b0 : n0 ≤ 65536) (b1 : n1 ≤ 65536) (b2 : n2 ≤ 65536) (b3 : n3 ≤ 65536) (b4 : n4 ≤ 65536)
    (e0 : a0 = none → n0 = 0) (e1 : a1 = none → n1 = 0) (e2 : a2 = none → n2 = 0) (e3 : a3 = none → n3 = 0) (e4 : a4 = none → n4 = 0)
    (h0 : Cells w a0 n0 (fun i => .string (S0 i))) (h1 : Cells w a1 n1 (fun i => .string (S1 i))) (h2 : Cells w a2 n2 (fun i => .int .i64 (Z2 i))) (h3 : Cells w a3 n3 (fun i => .int .i64 (Z3 i)))
    (h4 : Cells w a4 n4 (fun i => .slice (A i) (L i) (C i))) (hI : ∀ i, i < n4 → (A i = none → L i = 0) ∧ L i ≤ 1048576 ∧ Cells w (A i) (L i) (fun j => .int .u8 (Z i j))) :
    Code.wp Try.prog (restAfter 8 (Try.f3.body.getD .skip)) (bodyPost Try.prog Try.f3 fun e w' => Done w e w') ⟨#[.slice a0 n0 c0, .slice a1 n1 c1, .slice a2 n2 c2, .slice a3 n3 c3, .slice a4 n4 c4, u5, u6, u7, u8, u9, u10, u11, u12, u13, u14, u15, u16, u17, u18, u19, u20, u21, u22, u23, u24, u25, u26, u27, u28, u29, u30, u31, u32, u33, u34, u35, u36, u37, u38, u39, u40, u41, u42, u43, u44, u45, u46, u47, u48, u49, u50, u51, u52, u53, u54, u55, u56, u57, u58, u59, u60, u61, u62, u63, u64, u65, u66, u67, u68, u69, u70, u71, u72, u73, u74, u75, u76, u77, u78, u79, u80, u81, u82, u83, u84, u85, u86, u87, u88, u89, u90, u91, u92, u93, u94, u95, u96, u97, u98, u99, u100, u101, u102, u103, u104, u105, u106, u107, u108, u109, u110, u111, u112, u113, u114, u115, u116, u117, u118, u119, u120, u121, u122, u123, u124, u125, u126, u127, u128, u129, u130, u131, u132, u133, u134, u135, u136, u137, u138, u139, u140, u141, u142, u143, u144, u145, u146, u147, u148, u149, u150, u151, u152, u153, u154, u155, u156, u157, u158, u159, u160, u161, u162, u163, u164, u165, u166, u167, u168, u169, u170, u171, u172, u173, u174, u175, u176, u177, u178, u179, u180, u181, u182, u183, u184, u185, u186, u187, u188, u189, u190, u191, u192, u193, u194, u195, u196, u197, u198, u199, u200, u201, u202, u203, u204, u205, u206, u207, u208, u209, u210, u211, u212, u213, u214, u215, u216, u217, u218, u219, u220, u221, u222, u223, u224, u225, u226, u227, u228, u229, u230, u231, u232, u233, u234, u235, u236, u237, u238, u239, u240, u241, u242, u243, u244, u245, u246, u247, u248, u249, u250, u251, u252, u253, u254, u255, u256, u257, u258, u259, u260, u261, u262, u263, u264, u265, u266, u267, u268, u269, u270, u271, u272, u273, u274, u275, u276, u277, u278, u279, u280, u281, u282, u283, u284, u285, u286, u287, u288, u289, u290, u291, u292, u293, u294, u295, u296, u297, u298, u299, u300, u301, u302, u303, u304, u305, u306, u307, u308, u309, u310, u311, u312, u313, u314, u315, u316, u317, u318, u319, u320, u321], []⟩ w := by
  conv => arg 2; whnf
  have H1 := toHid h1
  have H2 := toHid h2
  have H3 := toHid h3
  have H4 := toHid h4
  have HI := toHid hI
  have E : Hid ((a1 = none → n1 = 0) ∧ (a2 = none → n2 = 0) ∧ (a3 = none → n3 = 0) ∧ (a4 = none → n4 = 0)) := ⟨e1, e2, e3, e4⟩
  have K0 := toHid (clone_strings a0 n0 c0 S0 w (by omega) e0 h0)
  clear e0 e1 e2 e3 e4 h0 h1 h2 h3 h4 hI
  go_wp2_with fail
  refine K0.out.mono ?_
  rintro e w1 ⟨x0, d0, rfl, _, p0, p1, _⟩
  have P0 := toHid p0
  have B1 := toHid p1
  have K1 := toHid (clone_strings a1 n1 c1 S1 w1 (by omega) E.out.1 (H1.out.below B1.out (Nat.le_refl _)))
  clear p0 p1 K0
  go_wp2_with fail
  refine K1.out.mono ?_
  rintro e w2 ⟨x1, d1, rfl, _, p0, p1, _⟩
  have P1 := toHid p0
  have Q1 := toHid (P0.out.below p1 (Nat.le_refl _))
  have B2 := toHid (B1.out.trans (p1.mono B1.out.size))
  have K2 := toHid (clone_int64s a2 n2 c2 Z2 w2 (by omega) E.out.2.1 (H2.out.below B2.out (Nat.le_refl _)))
  clear p0 p1 K1 P0 B1
  go_wp2_with fail
  refine K2.out.mono ?_
  rintro e w3 ⟨x2, d2, rfl, _, p0, p1, _⟩
  have R2 := toHid p0
  have R0 := toHid (Q1.out.below p1 (Nat.le_refl _))
  have R1 := toHid (P1.out.below p1 (Nat.le_refl _))
  have B3 := toHid (B2.out.trans (p1.mono B2.out.size))
  have K3 := toHid (clone_int64s a3 n3 c3 Z3 w3 (by omega) E.out.2.2.1 (H3.out.below B3.out (Nat.le_refl _)))
  clear p0 p1 K2 P1 Q1 B2
  go_wp2_with fail
  refine K3.out.mono ?_
  rintro e w4 ⟨x3, d3, rfl, _, p0, p1, _⟩
  have T3 := toHid p0
  have T0 := toHid (R0.out.below p1 (Nat.le_refl _))
  have T1 := toHid (R1.out.below p1 (Nat.le_refl _))
  have T2 := toHid (R2.out.below p1 (Nat.le_refl _))
  have B4 := toHid (B3.out.trans (p1.mono B3.out.size))
  have K4 := toHid (clone_rows a4 n4 c4 A L C Z w4 (by omega) E.out.2.2.2 (H4.out.below B4.out (Nat.le_refl _)) (fun i hi => ⟨(HI.out i hi).1, (HI.out i hi).2.1, (HI.out i hi).2.2.below B4.out (Nat.le_refl _)⟩))
  clear p0 p1 K3 R0 R1 R2 B3
  go_wp2_with fail
  refine K4.out.mono ?_
  rintro e w5 ⟨x4, d4, A', C', rfl, _, p0, q, p1⟩
  have V4 := toHid p0
  have V0 := toHid (T0.out.below p1 (Nat.le_refl _))
  have V1 := toHid (T1.out.below p1 (Nat.le_refl _))
  have V2 := toHid (T2.out.below p1 (Nat.le_refl _))
  have V3 := toHid (T3.out.below p1 (Nat.le_refl _))
  have VI := toHid q
  have B5 := toHid (B4.out.trans (p1.mono B4.out.size))
  clear p0 p1 q K4 T0 T1 T2 T3 B4
  by_cases hmin : n1 < n0
  · have hmin' : (n1 : Int) < (n0 : Int) := by omega
    go_upto_if 140 with fail
    rename_i Kc hKc
    have HKc := toHid hKc
    clear hKc
    go_wp2_with fail
    refine HKc.out _ _ ?_
    exact seg3 x0 x1 x2 x3 x4 n0 n1 n2 n3 n4 d0 d1 d2 d3 d4 n1 S0 S1 Z2 Z3 A' L C' Z w w5 b1 (Nat.le_of_lt hmin) (Nat.le_refl _) b2 b3 b4 B5.out V0.out V1.out V2.out V3.out V4.out (fun i hi => ⟨(VI.out i hi).1, (HI.out i hi).2.1, (VI.out i hi).2⟩)
  · have hmin' : ¬ (n1 : Int) < (n0 : Int) := by omega
    go_upto_if 140 with fail
    rename_i Kc hKc
    have HKc := toHid hKc
    clear hKc
    go_wp2_with fail
    refine HKc.out _ _ ?_
    exact seg3 x0 x1 x2 x3 x4 n0 n1 n2 n3 n4 d0 d1 d2 d3 d4 n0 S0 S1 Z2 Z3 A' L C' Z w w5 b0 (Nat.le_refl _) (by omega) b2 b3 b4 B5.out V0.out V1.out V2.out V3.out V4.out (fun i hi => ⟨(VI.out i hi).1, (HI.out i hi).2.1, (VI.out i hi).2⟩)

end Go.Proofs.Qxb6615969a
