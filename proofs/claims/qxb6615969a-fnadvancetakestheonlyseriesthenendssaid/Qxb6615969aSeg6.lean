import Derived.Test.Qxb6615969aWide
import Derived.Test.Qxb6615969aAdd
import Derived.Test.Qxb6615969aBytes
namespace Go.Proofs.Qxb6615969a
open Go.RowKit

/-- The outer iterator holds the one series. -/
structure Got (w0 w1 : World) (M A1 c1 A2 c2 m x xc y yc r p : Nat) (la : Option Addr) (ln lc : Nat) (ca : Option Addr) (cn cc : Nat) : Prop where
  below : Below w0.heap.size w0 w1
  out : Out w1 M A1 c1 A2 c2 m (.pointer (some ⟨p, 0, none⟩))
  it : It w1 m x xc y yc r (.slice la ln lc) (.slice ca cn cc) (.pointer none)
  p0 : w1.cell? ⟨p, 0, none⟩ = some (.slice la ln lc)
  p1 : w1.cell? ⟨p, 1, none⟩ = some (.slice ca cn cc)
  gM : A2 ≠ M
  g1 : A2 ≠ A1
  gm : A2 ≠ m
  gx : A2 ≠ x
  gy : A2 ≠ y
  gr : A2 ≠ r
  lM : M < w1.heap.size
  l1 : A1 < w1.heap.size
  l2 : A2 < w1.heap.size
  lm : m < w1.heap.size
  lx : x < w1.heap.size
  ly : y < w1.heap.size
  lr : r < w1.heap.size
  lo : w0.heap.size ≤ A2

theorem Got.later {w0 w1 w2 : World} {M A1 c1 A2 c2 m x xc y yc r p : Nat} {la : Option Addr} {ln lc : Nat} {ca : Option Addr} {cn cc : Nat} (h : Got w0 w1 M A1 c1 A2 c2 m x xc y yc r p la ln lc ca cn cc) (hb : Below w1.heap.size w1 w2) :
    Got w0 w2 M A1 c1 A2 c2 m x xc y yc r p la ln lc ca cn cc :=
  have hp : p < w1.heap.size := World.block_lt_of_cell? _ _ h.p0
  ⟨h.below.trans (hb.mono h.below.size), h.out.of_blocks (hb.block _ h.lM) (hb.block _ h.l1) (hb.block _ h.l2), h.it.of_blocks (hb.block _ h.lm) (hb.block _ h.lx) (hb.block _ h.ly) (hb.block _ h.lr),
   (hb.cell (p := ⟨p, 0, none⟩) hp).trans h.p0, (hb.cell (p := ⟨p, 1, none⟩) hp).trans h.p1, h.gM, h.g1, h.gm, h.gx, h.gy, h.gr,
   Nat.lt_of_lt_of_le h.lM hb.size, Nat.lt_of_lt_of_le h.l1 hb.size, Nat.lt_of_lt_of_le h.l2 hb.size, Nat.lt_of_lt_of_le h.lm hb.size, Nat.lt_of_lt_of_le h.lx hb.size, Nat.lt_of_lt_of_le h.ly hb.size, Nat.lt_of_lt_of_le h.lr hb.size, h.lo⟩

/-- The second advance, in whatever world holds the series. -/
theorem advance_again {w0 w1 : World} {M A1 c1 A2 c2 m x xc y yc r p : Nat} {la : Option Addr} {ln lc : Nat} {ca : Option Addr} {cn cc : Nat} (h : Got w0 w1 M A1 c1 A2 c2 m x xc y yc r p la ln lc ca cn cc) :
    Calls Try.prog 11 #[.pointer (some ⟨M, 0, none⟩), .int .i64 0] w1 fun e w' => e = .returned (.tuple #[]) ∧ w' = w1.setCell ⟨A2, 0, none⟩ (.pointer none) := by
  have I : It (w1.setCell ⟨A2, 0, none⟩ (.pointer none)) m x xc y yc r (.slice la ln lc) (.slice ca cn cc) (.pointer none) := h.it.of_blocks (set_block _ _ _ h.gm.symm) (set_block _ _ _ h.gx.symm) (set_block _ _ _ h.gy.symm) (set_block _ _ _ h.gr.symm)
  exact zzadvance (Q := fun _ w' => w' = w1.setCell ⟨A2, 0, none⟩ (.pointer none)) (advance_ends M A2 c2 A1 c1 m _ w1 h.out.h1 h.out.hs h.out.fs h.out.h0 h.out.hA h.it.h4 h.gM.symm h.g1.symm h.gm.symm (next37_done m x xc _ I.h4 I.h1 I.hx))

set_option maxRecDepth 1000000 in
set_option maxHeartbeats 8000000 in
theorem seg6 {u5 u6 u7 u8 u9 u10 u11 u12 u13 u14 u16 u17 u18 u19 u20 u21 u24 u25 u26 u27 u28 u29 u30 u31 u32 u33 u34 u35 u36 u37 u38 u39 u40 u41 u42 u43 u44 u45 u46 u47 u48 u49 u50 u51 u52 u53 u54 u55 u56 u57 u58 u59 u60 u61 u62 u63 u64 u65 u66 u67 u68 u69 u70 u71 u72 u73 u74 u75 u76 u77 u78 u79 u80 u81 u82 u83 u84 u85 u86 u87 u88 u89 u90 u91 u92 u93 u94 u95 u96 u97 u98 u99 u100 u101 u102 u103 u104 u105 u106 u107 u108 u109 u110 u111 u112 u113 u114 u115 u116 u117 u118 u119 u120 u121 u122 u123 u124 u125 u126 u127 u128 u129 u130 u131 u132 u133 u134 u135 u136 u137 u138 u139 u140 u141 u142 u143 u144 u145 u146 u147 u148 u149 u150 u151 u152 u153 u154 u155 u156 u157 u158 u159 u160 u161 u162 u163 u164 u165 u166 u167 u168 u169 u170 u171 u172 u173 u174 u175 u176 u177 u178 u179 u180 u181 u182 u183 u184 u185 u186 u187 u188 u189 u190 u191 u192 u193 u194 u195 u196 u197 u198 u199 u200 u201 u202 u203 u204 u205 u206 u207 u208 u209 u210 u211 u212 u213 u214 u215 u216 u217 u218 u219 u220 u221 u222 u223 u224 u225 u226 u227 u228 u229 u230 u231 u232 u233 u234 u235 u236 u237 u238 u239 u240 u241 u242 u243 u244 u245 u246 u247 u248 u249 u250 u251 u252 u253 u254 u255 u256 u257 u258 u259 u260 u261 u262 u263 u264 u265 u266 u267 u268 u269 u270 u271 u272 u273 u274 u275 u276 u277 u278 u279 u280 u281 u282 u283 u284 u285 u286 u287 u288 u289 u290 u291 u292 u293 u294 u295 u296 u297 u298 u299 u300 u301 u302 u303 u304 u305 u306 u307 u308 u309 u310 u311 u312 u313 u314 u315 u316 u317 u318 u319 u320 u321 : Value} (x0 x1 x2 x3 x4 : Option Addr) (n0 n1 n2 n3 n4 d0 d1 d2 d3 d4 n : Nat) (Z2 Z3 : Nat → Int) (A' : Nat → Option Addr) (L C' : Nat → Nat) (Z : Nat → Nat → Int) (D : Nat → Option Addr) (CD : Nat → Nat)
    (M A1 c1 A2 c2 m x xc y yc r p : Nat) (la : Option Addr) (ln lc : Nat) (ca : Option Addr) (cc : Nat) (w0 w1 : World)
    (b2 : n2 ≤ 65536) (b3 : n3 ≤ 65536) (b4 : n4 ≤ 65536)
    (G : Got w0 w1 M A1 c1 A2 c2 m x xc y yc r p la ln lc ca n2 cc)
    (h2 : Cells w1 x2 n2 (fun i => .int .i64 (Z2 i))) (h3 : Cells w1 x3 n3 (fun i => .int .i64 (Z3 i)))
    (h4 : Cells w1 x4 n4 (fun i => .slice (A' i) (L i) (C' i))) (hI : ∀ i, i < n4 → L i ≤ 1048576 ∧ Cells w1 (A' i) (L i) (fun j => .int .u8 (Z i j)))
    (hc : Cells w1 ca (n2 * 3) (chF Z2 (fun i => if i < n3 then Z3 i else 0) D (fun i => if i < n4 then L i else 0) CD))
    (hD : ∀ i, i < n2 → Cells w1 (D i) (if i < n4 then L i else 0) (fun j => .int .u8 (Z i j))) :
    Code.wp Try.prog (restAfter 26 (Try.f3.body.getD .skip)) (bodyPost Try.prog Try.f3 fun e w' => Done w0 e w') ⟨#[.slice x0 n0 d0, .slice x1 n1 d1, .slice x2 n2 d2, .slice x3 n3 d3, .slice x4 n4 d4, u5, u6, u7, u8, u9, u10, u11, u12, u13, u14, .int .i64 (n : Int), u16, u17, u18, u19, u20, u21, .pointer (some ⟨M, 0, none⟩), .pointer (some ⟨p, 0, none⟩), u24, u25, u26, u27, u28, u29, u30, u31, u32, u33, u34, u35, u36, u37, u38, u39, u40, u41, u42, u43, u44, u45, u46, u47, u48, u49, u50, u51, u52, u53, u54, u55, u56, u57, u58, u59, u60, u61, u62, u63, u64, u65, u66, u67, u68, u69, u70, u71, u72, u73, u74, u75, u76, u77, u78, u79, u80, u81, u82, u83, u84, u85, u86, u87, u88, u89, u90, u91, u92, u93, u94, u95, u96, u97, u98, u99, u100, u101, u102, u103, u104, u105, u106, u107, u108, u109, u110, u111, u112, u113, u114, u115, u116, u117, u118, u119, u120, u121, u122, u123, u124, u125, u126, u127, u128, u129, u130, u131, u132, u133, u134, u135, u136, u137, u138, u139, u140, u141, u142, u143, u144, u145, u146, u147, u148, u149, u150, u151, u152, u153, u154, u155, u156, u157, u158, u159, u160, u161, u162, u163, u164, u165, u166, u167, u168, u169, u170, u171, u172, u173, u174, u175, u176, u177, u178, u179, u180, u181, u182, u183, u184, u185, u186, u187, u188, u189, u190, u191, u192, u193, u194, u195, u196, u197, u198, u199, u200, u201, u202, u203, u204, u205, u206, u207, u208, u209, u210, u211, u212, u213, u214, u215, u216, u217, u218, u219, u220, u221, u222, u223, u224, u225, u226, u227, u228, u229, u230, u231, u232, u233, u234, u235, u236, u237, u238, u239, u240, u241, u242, u243, u244, u245, u246, u247, u248, u249, u250, u251, u252, u253, u254, u255, u256, u257, u258, u259, u260, u261, u262, u263, u264, u265, u266, u267, u268, u269, u270, u271, u272, u273, u274, u275, u276, u277, u278, u279, u280, u281, u282, u283, u284, u285, u286, u287, u288, u289, u290, u291, u292, u293, u294, u295, u296, u297, u298, u299, u300, u301, u302, u303, u304, u305, u306, u307, u308, u309, u310, u311, u312, u313, u314, u315, u316, u317, u318, u319, u320, u321], []⟩ w1 := by
  conv => arg 2; whnf
  have H2 : Hid (Cells w1 x2 n2 (fun i => .int .i64 (Z2 i))) := h2
  have H3 : Hid (Cells w1 x3 n3 (fun i => .int .i64 (Z3 i))) := h3
  have H4 : Hid (Cells w1 x4 n4 (fun i => .slice (A' i) (L i) (C' i))) := h4
  have HI : Hid (∀ i, i < n4 → L i ≤ 1048576 ∧ Cells w1 (A' i) (L i) (fun j => .int .u8 (Z i j))) := hI
  have HC : Hid (Cells w1 ca (n2 * 3) (chF Z2 (fun i => if i < n3 then Z3 i else 0) D (fun i => if i < n4 then L i else 0) CD)) := hc
  have HD : Hid (∀ i, i < n2 → Cells w1 (D i) (if i < n4 then L i else 0) (fun j => .int .u8 (Z i j))) := hD
  have HG : Hid (Got w0 w1 M A1 c1 A2 c2 m x xc y yc r p la ln lc ca n2 cc) := G
  have q1 := G.p1
  clear h2 h3 h4 hI hc hD G
  go_wp2_with fail
  clear q1
  go_loopg [25] n2 (fun g i wr => ∃ k : Nat, k ≤ n2 ∧ g = n2 - k ∧ i = .int .i64 k ∧ Below w1.heap.size w1 wr)
  case atStart => exact ⟨0, Nat.zero_le _, rfl, rfl, Below.refl _ _⟩
  case round =>
    obtain ⟨k, hk, rfl, rfl, hb⟩ := hrel
    have HB : Hid (Below w1.heap.size w1 wr) := hb
    have HGr : Hid (Got w0 wr M A1 c1 A2 c2 m x xc y yc r p la ln lc ca n2 cc) := HG.out.later hb
    have q1 := HGr.out.p1
    have lp : p < wr.heap.size := World.block_lt_of_cell? _ _ HGr.out.p0
    clear hb
    by_cases hlt : k < n2
    · have hlt' : (k : Int) < (n2 : Int) := by omega
      obtain ⟨bm, om, em, lm, cm⟩ := H2.out (by omega)
      obtain ⟨bc, oc, ec, lc', cc'⟩ := HC.out (by omega)
      subst em ec
      have gm : wr.cell? ⟨bm, om + k, none⟩ = some (.int .i64 (Z2 k)) := (HB.out.cell (p := ⟨bm, om + k, none⟩) lm).trans (cm k hlt)
      have lbm : bm < wr.heap.size := Nat.lt_of_lt_of_le lm HB.out.size
      have lbc : bc < wr.heap.size := Nat.lt_of_lt_of_le lc' HB.out.size
      have gc0 : wr.cell? ⟨bc, oc + k * 3, none⟩ = some (.int .i64 (Z2 k)) := by
        rw [HB.out.cell (p := ⟨bc, oc + k * 3, none⟩) lc', cc' (k * 3) (by omega), chF0]
      have gc1 : wr.cell? ⟨bc, oc + k * 3 + 1, none⟩ = some (.int .i64 (if k < n3 then Z3 k else 0)) := by
        rw [HB.out.cell (p := ⟨bc, oc + k * 3 + 1, none⟩) lc', Nat.add_assoc, cc' (k * 3 + 1) (by omega), chF1]
      have gc2 : wr.cell? ⟨bc, oc + k * 3 + 2, none⟩ = some (.slice (D k) (if k < n4 then L k else 0) (CD k)) := by
        rw [HB.out.cell (p := ⟨bc, oc + k * 3 + 2, none⟩) lc', Nat.add_assoc, cc' (k * 3 + 2) (by omega), chF2]
      have hDk := HD.out k hlt
      clear cm cc'
      by_cases h3k : k < n3
      · by_cases h4k : k < n4
        · rw [if_pos h3k] at gc1
          rw [if_pos h4k] at gc2 hDk
          obtain ⟨b3', o3, e3, l3, k3⟩ := H3.out (by omega)
          subst e3
          have g3 : wr.cell? ⟨b3', o3 + k, none⟩ = some (.int .i64 (Z3 k)) := (HB.out.cell (p := ⟨b3', o3 + k, none⟩) l3).trans (k3 k h3k)
          have lb3 : b3' < wr.heap.size := Nat.lt_of_lt_of_le l3 HB.out.size
          clear k3
          obtain ⟨b4', o4, e4, l4, k4⟩ := H4.out (by omega)
          subst e4
          have g4 : wr.cell? ⟨b4', o4 + k, none⟩ = some (.slice (A' k) (L k) (C' k)) := (HB.out.cell (p := ⟨b4', o4 + k, none⟩) l4).trans (k4 k h4k)
          have lb4 : b4' < wr.heap.size := Nat.lt_of_lt_of_le l4 HB.out.size
          clear k4
          go_wp2_with fail
          have up : Below wr.heap.size wr (wr.alloc (.cells #[.int .i64 (Z2 k), .int .i64 (Z3 k), .slice (D k) (L k) (CD k)] 37)) := (Below.refl _ _).alloc (Nat.le_refl _) _
          have t0 : (wr.alloc (.cells #[.int .i64 (Z2 k), .int .i64 (Z3 k), .slice (D k) (L k) (CD k)] 37)).cell? ⟨wr.heap.size, 0, none⟩ = some (.int .i64 (Z2 k)) := by go_simp
          have t1 : (wr.alloc (.cells #[.int .i64 (Z2 k), .int .i64 (Z3 k), .slice (D k) (L k) (CD k)] 37)).cell? ⟨wr.heap.size, 1, none⟩ = some (.int .i64 (Z3 k)) := by go_simp
          have t2 : (wr.alloc (.cells #[.int .i64 (Z2 k), .int .i64 (Z3 k), .slice (D k) (L k) (CD k)] 37)).cell? ⟨wr.heap.size, 2, none⟩ = some (.slice (D k) (L k) (CD k)) := by go_simp
          have tm : (wr.alloc (.cells #[.int .i64 (Z2 k), .int .i64 (Z3 k), .slice (D k) (L k) (CD k)] 37)).cell? ⟨bm, om + k, none⟩ = some (.int .i64 (Z2 k)) := (up.cell (p := ⟨bm, om + k, none⟩) lbm).trans gm
          have HDk : Hid (Cells wr (D k) (L k) (fun j => .int .u8 (Z k j))) := hDk.below HB.out (Nat.le_refl _)
          have HAk : Hid (Cells wr (A' k) (L k) (fun j => .int .u8 (Z k j)) ∧ L k ≤ 1048576) := ⟨(HI.out k h4k).2.below HB.out (Nat.le_refl _), (HI.out k h4k).1⟩
          have HU : Hid (Below wr.heap.size wr (wr.alloc (.cells #[.int .i64 (Z2 k), .int .i64 (Z3 k), .slice (D k) (L k) (CD k)] 37))) := up
          clear up gm gc0 gc1 gc2 q1 hDk g3 g4
          generalize (wr.alloc (.cells #[.int .i64 (Z2 k), .int .i64 (Z3 k), .slice (D k) (L k) (CD k)] 37)) = w2 at *
          go_quiet ((go_at_call 14; exact Calls.quiet_of (same_bytes _ _ _ _ _ (Z k) _ HAk.out.2 ((HDk.out.below HU.out (Nat.le_refl _)).drawn _) ((HAk.out.1.below HU.out (Nat.le_refl _)).drawn _))))
          go_wp2_with fail
          go_roundg (n2 - (k + 1))
          case measure => omega
          case rel => exact ⟨k + 1, by omega, rfl, by go_num, HB.out.trans (below_drewN (HU.out.mono HB.out.size) _)⟩
        · rw [if_pos h3k] at gc1
          rw [if_neg h4k] at gc2 hDk
          obtain ⟨b3', o3, e3, l3, k3⟩ := H3.out (by omega)
          subst e3
          have g3 : wr.cell? ⟨b3', o3 + k, none⟩ = some (.int .i64 (Z3 k)) := (HB.out.cell (p := ⟨b3', o3 + k, none⟩) l3).trans (k3 k h3k)
          have lb3 : b3' < wr.heap.size := Nat.lt_of_lt_of_le l3 HB.out.size
          clear k3
          go_wp2_with fail
          have up : Below wr.heap.size wr (wr.alloc (.cells #[.int .i64 (Z2 k), .int .i64 (Z3 k), .slice (D k) (0) (CD k)] 37)) := (Below.refl _ _).alloc (Nat.le_refl _) _
          have t0 : (wr.alloc (.cells #[.int .i64 (Z2 k), .int .i64 (Z3 k), .slice (D k) (0) (CD k)] 37)).cell? ⟨wr.heap.size, 0, none⟩ = some (.int .i64 (Z2 k)) := by go_simp
          have t1 : (wr.alloc (.cells #[.int .i64 (Z2 k), .int .i64 (Z3 k), .slice (D k) (0) (CD k)] 37)).cell? ⟨wr.heap.size, 1, none⟩ = some (.int .i64 (Z3 k)) := by go_simp
          have t2 : (wr.alloc (.cells #[.int .i64 (Z2 k), .int .i64 (Z3 k), .slice (D k) (0) (CD k)] 37)).cell? ⟨wr.heap.size, 2, none⟩ = some (.slice (D k) (0) (CD k)) := by go_simp
          have tm : (wr.alloc (.cells #[.int .i64 (Z2 k), .int .i64 (Z3 k), .slice (D k) (0) (CD k)] 37)).cell? ⟨bm, om + k, none⟩ = some (.int .i64 (Z2 k)) := (up.cell (p := ⟨bm, om + k, none⟩) lbm).trans gm
          have HDk : Hid (Cells wr (D k) (0) (fun j => .int .u8 (Z k j))) := hDk.below HB.out (Nat.le_refl _)
          have HU : Hid (Below wr.heap.size wr (wr.alloc (.cells #[.int .i64 (Z2 k), .int .i64 (Z3 k), .slice (D k) (0) (CD k)] 37))) := up
          clear up gm gc0 gc1 gc2 q1 hDk g3
          generalize (wr.alloc (.cells #[.int .i64 (Z2 k), .int .i64 (Z3 k), .slice (D k) (0) (CD k)] 37)) = w2 at *
          go_quiet ((go_at_call 14; exact Calls.quiet_of (same_bytes _ _ _ _ _ (Z k) _ (Nat.zero_le _) (Cells.nil _ _ _) (Cells.nil _ _ _))))
          go_wp2_with fail
          go_roundg (n2 - (k + 1))
          case measure => omega
          case rel => exact ⟨k + 1, by omega, rfl, by go_num, HB.out.trans (below_drewN (HU.out.mono HB.out.size) _)⟩
      · by_cases h4k : k < n4
        · rw [if_neg h3k] at gc1
          rw [if_pos h4k] at gc2 hDk
          obtain ⟨b4', o4, e4, l4, k4⟩ := H4.out (by omega)
          subst e4
          have g4 : wr.cell? ⟨b4', o4 + k, none⟩ = some (.slice (A' k) (L k) (C' k)) := (HB.out.cell (p := ⟨b4', o4 + k, none⟩) l4).trans (k4 k h4k)
          have lb4 : b4' < wr.heap.size := Nat.lt_of_lt_of_le l4 HB.out.size
          clear k4
          go_wp2_with fail
          have up : Below wr.heap.size wr (wr.alloc (.cells #[.int .i64 (Z2 k), .int .i64 (0), .slice (D k) (L k) (CD k)] 37)) := (Below.refl _ _).alloc (Nat.le_refl _) _
          have t0 : (wr.alloc (.cells #[.int .i64 (Z2 k), .int .i64 (0), .slice (D k) (L k) (CD k)] 37)).cell? ⟨wr.heap.size, 0, none⟩ = some (.int .i64 (Z2 k)) := by go_simp
          have t1 : (wr.alloc (.cells #[.int .i64 (Z2 k), .int .i64 (0), .slice (D k) (L k) (CD k)] 37)).cell? ⟨wr.heap.size, 1, none⟩ = some (.int .i64 (0)) := by go_simp
          have t2 : (wr.alloc (.cells #[.int .i64 (Z2 k), .int .i64 (0), .slice (D k) (L k) (CD k)] 37)).cell? ⟨wr.heap.size, 2, none⟩ = some (.slice (D k) (L k) (CD k)) := by go_simp
          have tm : (wr.alloc (.cells #[.int .i64 (Z2 k), .int .i64 (0), .slice (D k) (L k) (CD k)] 37)).cell? ⟨bm, om + k, none⟩ = some (.int .i64 (Z2 k)) := (up.cell (p := ⟨bm, om + k, none⟩) lbm).trans gm
          have HDk : Hid (Cells wr (D k) (L k) (fun j => .int .u8 (Z k j))) := hDk.below HB.out (Nat.le_refl _)
          have HAk : Hid (Cells wr (A' k) (L k) (fun j => .int .u8 (Z k j)) ∧ L k ≤ 1048576) := ⟨(HI.out k h4k).2.below HB.out (Nat.le_refl _), (HI.out k h4k).1⟩
          have HU : Hid (Below wr.heap.size wr (wr.alloc (.cells #[.int .i64 (Z2 k), .int .i64 (0), .slice (D k) (L k) (CD k)] 37))) := up
          clear up gm gc0 gc1 gc2 q1 hDk g4
          generalize (wr.alloc (.cells #[.int .i64 (Z2 k), .int .i64 (0), .slice (D k) (L k) (CD k)] 37)) = w2 at *
          go_quiet ((go_at_call 14; exact Calls.quiet_of (same_bytes _ _ _ _ _ (Z k) _ HAk.out.2 ((HDk.out.below HU.out (Nat.le_refl _)).drawn _) ((HAk.out.1.below HU.out (Nat.le_refl _)).drawn _))))
          go_wp2_with fail
          go_roundg (n2 - (k + 1))
          case measure => omega
          case rel => exact ⟨k + 1, by omega, rfl, by go_num, HB.out.trans (below_drewN (HU.out.mono HB.out.size) _)⟩
        · rw [if_neg h3k] at gc1
          rw [if_neg h4k] at gc2 hDk
          go_wp2_with fail
          have up : Below wr.heap.size wr (wr.alloc (.cells #[.int .i64 (Z2 k), .int .i64 (0), .slice (D k) (0) (CD k)] 37)) := (Below.refl _ _).alloc (Nat.le_refl _) _
          have t0 : (wr.alloc (.cells #[.int .i64 (Z2 k), .int .i64 (0), .slice (D k) (0) (CD k)] 37)).cell? ⟨wr.heap.size, 0, none⟩ = some (.int .i64 (Z2 k)) := by go_simp
          have t1 : (wr.alloc (.cells #[.int .i64 (Z2 k), .int .i64 (0), .slice (D k) (0) (CD k)] 37)).cell? ⟨wr.heap.size, 1, none⟩ = some (.int .i64 (0)) := by go_simp
          have t2 : (wr.alloc (.cells #[.int .i64 (Z2 k), .int .i64 (0), .slice (D k) (0) (CD k)] 37)).cell? ⟨wr.heap.size, 2, none⟩ = some (.slice (D k) (0) (CD k)) := by go_simp
          have tm : (wr.alloc (.cells #[.int .i64 (Z2 k), .int .i64 (0), .slice (D k) (0) (CD k)] 37)).cell? ⟨bm, om + k, none⟩ = some (.int .i64 (Z2 k)) := (up.cell (p := ⟨bm, om + k, none⟩) lbm).trans gm
          have HDk : Hid (Cells wr (D k) (0) (fun j => .int .u8 (Z k j))) := hDk.below HB.out (Nat.le_refl _)
          have HU : Hid (Below wr.heap.size wr (wr.alloc (.cells #[.int .i64 (Z2 k), .int .i64 (0), .slice (D k) (0) (CD k)] 37))) := up
          clear up gm gc0 gc1 gc2 q1 hDk
          generalize (wr.alloc (.cells #[.int .i64 (Z2 k), .int .i64 (0), .slice (D k) (0) (CD k)] 37)) = w2 at *
          go_quiet ((go_at_call 14; exact Calls.quiet_of (same_bytes _ _ _ _ _ (Z k) _ (Nat.zero_le _) (Cells.nil _ _ _) (Cells.nil _ _ _))))
          go_wp2_with fail
          go_roundg (n2 - (k + 1))
          case measure => omega
          case rel => exact ⟨k + 1, by omega, rfl, by go_num, HB.out.trans (below_drewN (HU.out.mono HB.out.size) _)⟩
    · have hkn : k = n2 := by omega
      subst hkn
      have hag := advance_again HGr.out
      have HAG : Hid (Calls Try.prog 11 #[.pointer (some ⟨M, 0, none⟩), .int .i64 0] wr fun e w' => e = .returned (.tuple #[]) ∧ w' = wr.setCell ⟨A2, 0, none⟩ (.pointer none)) := hag
      clear hag q1
      go_wp2_with fail
      refine HAG.out.mono ?_
      rintro e w3 ⟨rfl, hw3⟩
      have O3 : Out w3 M A1 c1 A2 c2 m (.pointer none) := by rw [hw3]; exact HGr.out.out.set HGr.out.gM HGr.out.g1 _
      have HF : Hid (Below w0.heap.size w0 w3) := by rw [hw3]; exact HGr.out.below.setCell HGr.out.lo _
      clear hw3
      have z1 := O3.h1
      have zs := O3.hs
      have z4 := O3.h4
      go_wp2_with fail
      refine (next12 M A2 0 1 c2 (.pointer none) w3 z1 (by decide) zs).mono ?_
      rintro e w4 ⟨rfl, rfl⟩
      go_wp2_with fail
      refine (err13 M .nilIface w4 z4).mono ?_
      rintro e w5 ⟨rfl, rfl⟩
      go_wp2_with fail
      go_ret
      exact ⟨rfl, HF.out⟩

end Go.Proofs.Qxb6615969a
