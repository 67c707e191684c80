import Derived.Test.Qxb6615969aSeg4
import Derived.RegionTactic
import Derived.BigRegion
namespace Go.Proofs.Qxb6615969a
open Go.RowKit

theorem build33 (a b : ByteArray) (w : World) : (Instr.build 33 #[(0, .string a), (1, .string b)]).run Try.prog w = .ok (.agg #[.string a, .string b]) w := run_build w 33 _ _ (by kernel_rfl)

/-- k labels are laid. -/
structure LabTo (w1 wr : World) (n k : Nat) (N V : Nat → ByteArray) : Prop where
  below : Below w1.heap.size w1 wr
  row : wr.rowIs w1.heap.size 33 (n * 2) (mix (labF N V) zero33 (k * 2))

theorem labTo_step {w1 wr : World} {n k : Nat} {N V : Nat → ByteArray} (h : LabTo w1 wr n k N V) :
    LabTo w1 ((wr.setCell ⟨w1.heap.size, k * 2, none⟩ (.string (N k))).setCell ⟨w1.heap.size, k * 2 + 1, none⟩ (.string (V k))) n (k + 1) N V := by
  refine ⟨(h.below.setCell (Nat.le_refl _) _).setCell (Nat.le_refl _) _, ?_⟩
  have r1 := mix_step h.row
  rw [labF0] at r1
  have r2 := mix_step r1
  rw [labF1, show k * 2 + 1 + 1 = (k + 1) * 2 from by omega] at r2
  exact r2

theorem LabTo.drew {w1 wr : World} {n k : Nat} {N V : Nat → ByteArray} (h : LabTo w1 wr n k N V) : LabTo w1 wr.drew n k N V := ⟨h.below.drew, h.row.drew⟩

set_option maxRecDepth 1000000 in
set_option maxHeartbeats 8000000 in
theorem seg3 {u5 u6 u7 u8 u9 u10 u11 u12 u13 u14 u16 u17 u18 u19 u20 u21 u22 u23 u24 u25 u26 u27 u28 u29 u30 u31 u32 u33 u34 u35 u36 u37 u38 u39 u40 u41 u42 u43 u44 u45 u46 u47 u48 u49 u50 u51 u52 u53 u54 u55 u56 u57 u58 u59 u60 u61 u62 u63 u64 u65 u66 u67 u68 u69 u70 u71 u72 u73 u74 u75 u76 u77 u78 u79 u80 u81 u82 u83 u84 u85 u86 u87 u88 u89 u90 u91 u92 u93 u94 u95 u96 u97 u98 u99 u100 u101 u102 u103 u104 u105 u106 u107 u108 u109 u110 u111 u112 u113 u114 u115 u116 u117 u118 u119 u120 u121 u122 u123 u124 u125 u126 u127 u128 u129 u130 u131 u132 u133 u134 u135 u136 u137 u138 u139 u140 u141 u142 u143 u144 u145 u146 u147 u148 u149 u150 u151 u152 u153 u154 u155 u156 u157 u158 u159 u160 u161 u162 u163 u164 u165 u166 u167 u168 u169 u170 u171 u172 u173 u174 u175 u176 u177 u178 u179 u180 u181 u182 u183 u184 u185 u186 u187 u188 u189 u190 u191 u192 u193 u194 u195 u196 u197 u198 u199 u200 u201 u202 u203 u204 u205 u206 u207 u208 u209 u210 u211 u212 u213 u214 u215 u216 u217 u218 u219 u220 u221 u222 u223 u224 u225 u226 u227 u228 u229 u230 u231 u232 u233 u234 u235 u236 u237 u238 u239 u240 u241 u242 u243 u244 u245 u246 u247 u248 u249 u250 u251 u252 u253 u254 u255 u256 u257 u258 u259 u260 u261 u262 u263 u264 u265 u266 u267 u268 u269 u270 u271 u272 u273 u274 u275 u276 u277 u278 u279 u280 u281 u282 u283 u284 u285 u286 u287 u288 u289 u290 u291 u292 u293 u294 u295 u296 u297 u298 u299 u300 u301 u302 u303 u304 u305 u306 u307 u308 u309 u310 u311 u312 u313 u314 u315 u316 u317 u318 u319 u320 u321 : Value} (x0 x1 x2 x3 x4 : Option Addr) (n0 n1 n2 n3 n4 d0 d1 d2 d3 d4 n : Nat) (S0 S1 : Nat → ByteArray) (Z2 Z3 : Nat → Int) (A' : Nat → Option Addr) (L C' : Nat → Nat) (Z : Nat → Nat → Int)
    (w0 w1 : World) (b : n ≤ 65536) (bn0 : n ≤ n0) (bn1 : n ≤ n1) (b2 : n2 ≤ 65536) (b3 : n3 ≤ 65536) (b4 : n4 ≤ 65536) (hb : Below w0.heap.size w0 w1)
    (h0 : Cells w1 x0 n0 (fun i => .string (S0 i))) (h1 : Cells w1 x1 n1 (fun i => .string (S1 i)))
    (h2 : Cells w1 x2 n2 (fun i => .int .i64 (Z2 i))) (h3 : Cells w1 x3 n3 (fun i => .int .i64 (Z3 i)))
    (h4 : Cells w1 x4 n4 (fun i => .slice (A' i) (L i) (C' i))) (hI : ∀ i, i < n4 → (A' i = none → L i = 0) ∧ L i ≤ 1048576 ∧ Cells w1 (A' i) (L i) (fun j => .int .u8 (Z i j))) :
    Code.wp Try.prog (restAfter 15 (Try.f3.body.getD .skip)) (bodyPost Try.prog Try.f3 fun e w' => Done w0 e w') ⟨#[.slice x0 n0 d0, .slice x1 n1 d1, .slice x2 n2 d2, .slice x3 n3 d3, .slice x4 n4 d4, u5, u6, u7, u8, u9, u10, u11, u12, u13, u14, .int .i64 (n : Int), u16, u17, u18, u19, u20, u21, u22, u23, u24, u25, u26, u27, u28, u29, u30, u31, u32, u33, u34, u35, u36, u37, u38, u39, u40, u41, u42, u43, u44, u45, u46, u47, u48, u49, u50, u51, u52, u53, u54, u55, u56, u57, u58, u59, u60, u61, u62, u63, u64, u65, u66, u67, u68, u69, u70, u71, u72, u73, u74, u75, u76, u77, u78, u79, u80, u81, u82, u83, u84, u85, u86, u87, u88, u89, u90, u91, u92, u93, u94, u95, u96, u97, u98, u99, u100, u101, u102, u103, u104, u105, u106, u107, u108, u109, u110, u111, u112, u113, u114, u115, u116, u117, u118, u119, u120, u121, u122, u123, u124, u125, u126, u127, u128, u129, u130, u131, u132, u133, u134, u135, u136, u137, u138, u139, u140, u141, u142, u143, u144, u145, u146, u147, u148, u149, u150, u151, u152, u153, u154, u155, u156, u157, u158, u159, u160, u161, u162, u163, u164, u165, u166, u167, u168, u169, u170, u171, u172, u173, u174, u175, u176, u177, u178, u179, u180, u181, u182, u183, u184, u185, u186, u187, u188, u189, u190, u191, u192, u193, u194, u195, u196, u197, u198, u199, u200, u201, u202, u203, u204, u205, u206, u207, u208, u209, u210, u211, u212, u213, u214, u215, u216, u217, u218, u219, u220, u221, u222, u223, u224, u225, u226, u227, u228, u229, u230, u231, u232, u233, u234, u235, u236, u237, u238, u239, u240, u241, u242, u243, u244, u245, u246, u247, u248, u249, u250, u251, u252, u253, u254, u255, u256, u257, u258, u259, u260, u261, u262, u263, u264, u265, u266, u267, u268, u269, u270, u271, u272, u273, u274, u275, u276, u277, u278, u279, u280, u281, u282, u283, u284, u285, u286, u287, u288, u289, u290, u291, u292, u293, u294, u295, u296, u297, u298, u299, u300, u301, u302, u303, u304, u305, u306, u307, u308, u309, u310, u311, u312, u313, u314, u315, u316, u317, u318, u319, u320, u321], []⟩ w1 := by
  conv => arg 2; whnf
  have H : Hid (Cells w1 x0 n0 (fun i => .string (S0 i)) ∧ Cells w1 x1 n1 (fun i => .string (S1 i)) ∧ Cells w1 x2 n2 (fun i => .int .i64 (Z2 i)) ∧ Cells w1 x3 n3 (fun i => .int .i64 (Z3 i)) ∧ Cells w1 x4 n4 (fun i => .slice (A' i) (L i) (C' i))) := ⟨h0, h1, h2, h3, h4⟩
  have HI : Hid (∀ i, i < n4 → (A' i = none → L i = 0) ∧ L i ≤ 1048576 ∧ Cells w1 (A' i) (L i) (fun j => .int .u8 (Z i j))) := hI
  have HB0 : Hid (Below w0.heap.size w0 w1) := hb
  have hb33 := build33
  have hmk := make33 n (by omega)
  clear h0 h1 h2 h3 h4 hI hb
  go_wp2_with fail
  clear hmk
  rename_i Kc hKc
  have HKc := toHid hKc
  clear hKc
  go_loopg [17] n (fun g i wr => ∃ k : Nat, k ≤ n ∧ g = n - k ∧ i = .int .i64 k ∧ LabTo w1 wr n k S0 S1)
  case atStart => exact ⟨0, Nat.zero_le _, rfl, rfl, fresh33_below w1 n, by rw [Nat.zero_mul]; exact mix_start (fresh33_row w1 n)⟩
  case round =>
    obtain ⟨k, hk, rfl, rfl, hr⟩ := hrel
    have HR := toHid hr
    clear hr
    by_cases hlt : k < n
    · have hlt' : (k : Int) < (n : Int) := by omega
      have hlt0 : (k : Int) < (n0 : Int) := by omega
      have hlt1 : (k : Int) < (n1 : Int) := by omega
      obtain ⟨ba, oa, ea, la, ca⟩ := H.out.1 (by omega)
      obtain ⟨bv, ov, ev, lv, cv⟩ := H.out.2.1 (by omega)
      subst ea ev
      have ga : wr.cell? ⟨ba, oa + k, none⟩ = some (.string (S0 k)) := (HR.out.below.cell (p := ⟨ba, oa + k, none⟩) la).trans (ca k (by omega))
      have gv : wr.cell? ⟨bv, ov + k, none⟩ = some (.string (S1 k)) := (HR.out.below.cell (p := ⟨bv, ov + k, none⟩) lv).trans (cv k (by omega))
      have r0 := HR.out.row.cell (i := k * 2) (by omega)
      have r1 := HR.out.row.cell (i := k * 2 + 1) (by omega)
      have z0 := HR.out.row.frozen (k * 2)
      have z1 := HR.out.row.frozen (k * 2 + 1)
      clear ca cv
      go_wp2_with fail
      go_region
      all_goals
        go_wp2_with fail
        go_roundg (n - (k + 1))
        case measure => omega
        case rel => exact ⟨k + 1, by omega, rfl, by go_num, (labTo_step HR.out).drew⟩
    · have hkn : k = n := by omega
      subst hkn
      go_wp2_with fail
      refine HKc.out _ _ ?_
      have hbr := HR.out.below
      have hrow := mix_done HR.out.row
      exact seg4 x0 x1 x2 x3 x4 n0 n1 n2 n3 n4 d0 d1 d2 d3 d4 k w1.heap.size k S0 S1 Z2 Z3 A' L C' Z w0 wr b bn0 bn1 b2 b3 b4 (HB0.out.trans (hbr.mono HB0.out.size))
        (H.out.1.below hbr (Nat.le_refl _)) (H.out.2.1.below hbr (Nat.le_refl _)) (H.out.2.2.1.below hbr (Nat.le_refl _)) (H.out.2.2.2.1.below hbr (Nat.le_refl _)) (H.out.2.2.2.2.below hbr (Nat.le_refl _))
        (fun i hi => ⟨(HI.out i hi).1, (HI.out i hi).2.1, (HI.out i hi).2.2.below hbr (Nat.le_refl _)⟩) (labels_of_row hrow)

end Go.Proofs.Qxb6615969a
