import Derived.Test.Qxb6615969aSeg6
namespace Go.Proofs.Qxb6615969a
open Go.RowKit

theorem build42s (a b : Nat) (n c k d : Nat) (w : World) : (Instr.build 42 #[(0, .slice (some ⟨a, 0, none⟩) n c), (1, .slice (some ⟨b, 0, none⟩) k d)]).run Try.prog w = .ok (.agg #[.slice (some ⟨a, 0, none⟩) n c, .slice (some ⟨b, 0, none⟩) k d]) w := run_build w 42 _ _ (by kernel_rfl)

theorem got_of {w0 w1 w2 w3 w4 : World} {M A1 c1 A2 c2 : Nat} {la : Option Addr} {ln lc cb cn cc : Nat} {G : Nat → Value} (hb : Below w0.heap.size w0 w1) (hM : M = w1.heap.size) (h12 : Below w1.heap.size w1 w2) (s2 : w2.heap.size = w1.heap.size + 1)
    (ad : Added w2 w3 M A1 c1 A2 c2 la ln lc cb cn cc) (tk : TakesPost M w3 M A1 c1 A2 c2 (w2.heap.size + 4) (w2.heap.size + 3) 1 (w2.heap.size + 2) 1 (w2.heap.size + 1) la ln lc cn G (.returned (.tuple #[])) w4) :
    ∃ ca cc' p, Cells w4 ca (cn * 3) G ∧ Below w1.heap.size w1 w4 ∧ Got w0 w4 M A1 c1 A2 c2 (w2.heap.size + 4) (w2.heap.size + 3) 1 (w2.heap.size + 2) 1 (w2.heap.size + 1) p la ln lc ca cn cc' := by
  obtain ⟨_, b3, ca, cc', p, q1, q2, q3, q4, q5⟩ := tk
  have sz0 := hb.size
  have sz4 := b3.size
  have b14 : Below w1.heap.size w1 w4 := h12.trans ((ad.below.mono (by omega)).trans (b3.mono (by omega)))
  have l1 := ad.lo
  have l2 := ad.mid
  have l3 := ad.hi
  exact ⟨ca, cc', p, q1, b14, ⟨hb.trans (b14.mono (by omega)), q3, q2, q4, q5, by omega, by omega, by omega, by omega, by omega, by omega, by omega, by omega, by omega, by omega, by omega, by omega, by omega, by omega⟩⟩

set_option maxRecDepth 1000000 in
set_option maxHeartbeats 8000000 in
theorem seg5 {u5 u6 u7 u8 u9 u10 u11 u12 u13 u14 u17 u19 u20 u21 u22 u23 u24 u25 u26 u27 u28 u29 u30 u31 u32 u33 u34 u35 u36 u37 u38 u39 u40 u41 u42 u43 u44 u45 u46 u47 u48 u49 u50 u51 u52 u53 u54 u55 u56 u57 u58 u59 u60 u61 u62 u63 u64 u65 u66 u67 u68 u69 u70 u71 u72 u73 u74 u75 u76 u77 u78 u79 u80 u81 u82 u83 u84 u85 u86 u87 u88 u89 u90 u91 u92 u93 u94 u95 u96 u97 u98 u99 u100 u101 u102 u103 u104 u105 u106 u107 u108 u109 u110 u111 u112 u113 u114 u115 u116 u117 u118 u119 u120 u121 u122 u123 u124 u125 u126 u127 u128 u129 u130 u131 u132 u133 u134 u135 u136 u137 u138 u139 u140 u141 u142 u143 u144 u145 u146 u147 u148 u149 u150 u151 u152 u153 u154 u155 u156 u157 u158 u159 u160 u161 u162 u163 u164 u165 u166 u167 u168 u169 u170 u171 u172 u173 u174 u175 u176 u177 u178 u179 u180 u181 u182 u183 u184 u185 u186 u187 u188 u189 u190 u191 u192 u193 u194 u195 u196 u197 u198 u199 u200 u201 u202 u203 u204 u205 u206 u207 u208 u209 u210 u211 u212 u213 u214 u215 u216 u217 u218 u219 u220 u221 u222 u223 u224 u225 u226 u227 u228 u229 u230 u231 u232 u233 u234 u235 u236 u237 u238 u239 u240 u241 u242 u243 u244 u245 u246 u247 u248 u249 u250 u251 u252 u253 u254 u255 u256 u257 u258 u259 u260 u261 u262 u263 u264 u265 u266 u267 u268 u269 u270 u271 u272 u273 u274 u275 u276 u277 u278 u279 u280 u281 u282 u283 u284 u285 u286 u287 u288 u289 u290 u291 u292 u293 u294 u295 u296 u297 u298 u299 u300 u301 u302 u303 u304 u305 u306 u307 u308 u309 u310 u311 u312 u313 u314 u315 u316 u317 u318 u319 u320 u321 : Value} (x0 x1 x2 x3 x4 : Option Addr) (n0 n1 n2 n3 n4 d0 d1 d2 d3 d4 n lb ldc cb cdc : Nat) (S0 S1 : Nat → ByteArray) (Z2 Z3 : Nat → Int) (A' : Nat → Option Addr) (L C' : Nat → Nat) (Z : Nat → Nat → Int) (D : Nat → Option Addr) (CD : Nat → Nat)
    (w0 w1 : World) (b : n ≤ 65536) (bn0 : n ≤ n0) (bn1 : n ≤ n1) (b2 : n2 ≤ 65536) (b3 : n3 ≤ 65536) (b4 : n4 ≤ 65536) (hb : Below w0.heap.size w0 w1)
    (h0 : Cells w1 x0 n0 (fun i => .string (S0 i))) (h1 : Cells w1 x1 n1 (fun i => .string (S1 i)))
    (h2 : Cells w1 x2 n2 (fun i => .int .i64 (Z2 i))) (h3 : Cells w1 x3 n3 (fun i => .int .i64 (Z3 i)))
    (h4 : Cells w1 x4 n4 (fun i => .slice (A' i) (L i) (C' i))) (hI : ∀ i, i < n4 → L i ≤ 1048576 ∧ Cells w1 (A' i) (L i) (fun j => .int .u8 (Z i j)))
    (hl : Labels w1 (some ⟨lb, 0, none⟩) n S0 S1) (lcb : cb < w1.heap.size)
    (hc : ∀ j, j < n2 * 3 → w1.cell? ⟨cb, j, none⟩ = some (chF Z2 (fun i => if i < n3 then Z3 i else 0) D (fun i => if i < n4 then L i else 0) CD j))
    (hD : ∀ i, i < n2 → Cells w1 (D i) (if i < n4 then L i else 0) (fun j => .int .u8 (Z i j))) :
    Code.wp Try.prog (restAfter 19 (Try.f3.body.getD .skip)) (bodyPost Try.prog Try.f3 fun e w' => Done w0 e w') ⟨#[.slice x0 n0 d0, .slice x1 n1 d1, .slice x2 n2 d2, .slice x3 n3 d3, .slice x4 n4 d4, u5, u6, u7, u8, u9, u10, u11, u12, u13, u14, .int .i64 (n : Int), .slice (some ⟨lb, 0, none⟩) n ldc, u17, .slice (some ⟨cb, 0, none⟩) n2 cdc, u19, u20, u21, u22, u23, u24, u25, u26, u27, u28, u29, u30, u31, u32, u33, u34, u35, u36, u37, u38, u39, u40, u41, u42, u43, u44, u45, u46, u47, u48, u49, u50, u51, u52, u53, u54, u55, u56, u57, u58, u59, u60, u61, u62, u63, u64, u65, u66, u67, u68, u69, u70, u71, u72, u73, u74, u75, u76, u77, u78, u79, u80, u81, u82, u83, u84, u85, u86, u87, u88, u89, u90, u91, u92, u93, u94, u95, u96, u97, u98, u99, u100, u101, u102, u103, u104, u105, u106, u107, u108, u109, u110, u111, u112, u113, u114, u115, u116, u117, u118, u119, u120, u121, u122, u123, u124, u125, u126, u127, u128, u129, u130, u131, u132, u133, u134, u135, u136, u137, u138, u139, u140, u141, u142, u143, u144, u145, u146, u147, u148, u149, u150, u151, u152, u153, u154, u155, u156, u157, u158, u159, u160, u161, u162, u163, u164, u165, u166, u167, u168, u169, u170, u171, u172, u173, u174, u175, u176, u177, u178, u179, u180, u181, u182, u183, u184, u185, u186, u187, u188, u189, u190, u191, u192, u193, u194, u195, u196, u197, u198, u199, u200, u201, u202, u203, u204, u205, u206, u207, u208, u209, u210, u211, u212, u213, u214, u215, u216, u217, u218, u219, u220, u221, u222, u223, u224, u225, u226, u227, u228, u229, u230, u231, u232, u233, u234, u235, u236, u237, u238, u239, u240, u241, u242, u243, u244, u245, u246, u247, u248, u249, u250, u251, u252, u253, u254, u255, u256, u257, u258, u259, u260, u261, u262, u263, u264, u265, u266, u267, u268, u269, u270, u271, u272, u273, u274, u275, u276, u277, u278, u279, u280, u281, u282, u283, u284, u285, u286, u287, u288, u289, u290, u291, u292, u293, u294, u295, u296, u297, u298, u299, u300, u301, u302, u303, u304, u305, u306, u307, u308, u309, u310, u311, u312, u313, u314, u315, u316, u317, u318, u319, u320, u321], []⟩ w1 := by
  conv => arg 2; whnf
  have H : Hid (Cells w1 x0 n0 (fun i => .string (S0 i)) ∧ Cells w1 x1 n1 (fun i => .string (S1 i)) ∧ Cells w1 x2 n2 (fun i => .int .i64 (Z2 i)) ∧ Cells w1 x3 n3 (fun i => .int .i64 (Z3 i)) ∧ Cells w1 x4 n4 (fun i => .slice (A' i) (L i) (C' i))) := ⟨h0, h1, h2, h3, h4⟩
  have HI : Hid (∀ i, i < n4 → L i ≤ 1048576 ∧ Cells w1 (A' i) (L i) (fun j => .int .u8 (Z i j))) := hI
  have HC : Hid (∀ j, j < n2 * 3 → w1.cell? ⟨cb, j, none⟩ = some (chF Z2 (fun i => if i < n3 then Z3 i else 0) D (fun i => if i < n4 then L i else 0) CD j)) := hc
  have HD : Hid (∀ i, i < n2 → Cells w1 (D i) (if i < n4 then L i else 0) (fun j => .int .u8 (Z i j))) := hD
  have HL : Hid (Labels w1 (some ⟨lb, 0, none⟩) n S0 S1) := hl
  have HB0 : Hid (Below w0.heap.size w0 w1) := hb
  have hb42 := build42s
  clear h0 h1 h2 h3 h4 hI hc hD hl hb
  go_wp2_with fail
  refine (new9 w1).mono ?_
  rintro e w2 ⟨rfl, hw2⟩
  have m0 : w2.cell? ⟨w1.heap.size, 0, none⟩ = some (.slice none 0 0) := by rw [hw2]; go_simp
  have m1 : w2.cell? ⟨w1.heap.size, 1, none⟩ = some (.slice none 0 0) := by rw [hw2]; go_simp
  have m4 : w2.cell? ⟨w1.heap.size, 4, none⟩ = some .nilIface := by rw [hw2]; go_simp
  have f0 : w2.frozen? ⟨w1.heap.size, 0, none⟩ = false := by rw [hw2]; go_simp
  have f1 : w2.frozen? ⟨w1.heap.size, 1, none⟩ = false := by rw [hw2]; go_simp
  have s2 : w2.heap.size = w1.heap.size + 1 := by rw [hw2]; simp
  have B12 : Hid (Below w1.heap.size w1 w2) := by rw [hw2]; exact (Below.refl _ _).alloc (Nat.le_refl _) _
  have S2 : Hid (w2.heap.size = w1.heap.size + 1) := s2
  clear hw2
  have hadd := add10 w1.heap.size (some ⟨lb, 0, none⟩) n ldc cb n2 cdc w2 (by omega) m0 m1 m4 f0 f1
  have HADD : Hid (Calls Try.prog 10 #[.pointer (some ⟨w1.heap.size, 0, none⟩), .agg #[.slice (some ⟨lb, 0, none⟩) n ldc, .slice (some ⟨cb, 0, none⟩) n2 cdc]] w2 fun e w' => AddPost w2 w1.heap.size (some ⟨lb, 0, none⟩) n ldc cb n2 cdc e w') := hadd
  clear hadd m0 m1 m4 f0 f1 s2
  go_wp2_with fail
  refine HADD.out.mono ?_
  rintro e w3 ⟨rfl, A1, c1, A2, c2, ad⟩
  have B13 : Below w1.heap.size w1 w3 := B12.out.trans (ad.below)
  have s2 := S2.out
  have l1 := ad.lo
  have l2 := ad.mid
  have l3 := ad.hi
  have hadv := zzadvance (advance_takes w1.heap.size w1.heap.size A1 c1 A2 c2 (w2.heap.size + 4) (w2.heap.size + 3) 1 (w2.heap.size + 2) 1 (w2.heap.size + 1) w2.heap.size (.pointer none) (some ⟨lb, 0, none⟩) n ldc cb n2 cdc S0 S1
    (chF Z2 (fun i => if i < n3 then Z3 i else 0) D (fun i => if i < n4 then L i else 0) CD) w3 ad.out ad.it ad.s0 ad.s1
    (by omega) (by omega) (by omega) (by omega) (by omega) (by omega) (by omega) (by omega) (by omega) (by omega) (by omega) (by omega) (by omega) (by omega) (by omega) (by omega) (by omega) (by omega) (by omega) (by omega) (by omega) (by omega) (by omega) (by omega) (by omega) (by omega) (by omega) (by omega) (by omega) (by omega)
    (fun w' h => HL.out.below (B13.trans h) (Nat.le_refl _)) (fun w' h j hj => ((B13.trans h).cell (p := ⟨cb, j, none⟩) lcb).trans (HC.out j hj)) (chF_one _ _ _ _ _))
  have HADV : Hid (Calls Try.prog 11 #[.pointer (some ⟨w1.heap.size, 0, none⟩), .int .i64 0] w3 fun e w' => TakesPost w1.heap.size w3 w1.heap.size A1 c1 A2 c2 (w2.heap.size + 4) (w2.heap.size + 3) 1 (w2.heap.size + 2) 1 (w2.heap.size + 1) (some ⟨lb, 0, none⟩) n ldc n2 (chF Z2 (fun i => if i < n3 then Z3 i else 0) D (fun i => if i < n4 then L i else 0) CD) e w') := hadv
  have HAD : Hid (Added w2 w3 w1.heap.size A1 c1 A2 c2 (some ⟨lb, 0, none⟩) n ldc cb n2 cdc) := ad
  clear hadv ad B13 l1 l2 l3 s2 HADD
  go_wp2_with fail
  refine HADV.out.mono ?_
  intro e w4 tk
  obtain ⟨rfl, tk2⟩ := tk
  obtain ⟨ca, cc, p, q1, b14, G⟩ := got_of HB0.out rfl B12.out S2.out HAD.out ⟨rfl, tk2⟩
  have HQ : Hid (Cells w4 ca (n2 * 3) (chF Z2 (fun i => if i < n3 then Z3 i else 0) D (fun i => if i < n4 then L i else 0) CD)) := q1
  have HB : Hid (Below w1.heap.size w1 w4) := b14
  have HG : Hid (Got w0 w4 w1.heap.size A1 c1 A2 c2 (w2.heap.size + 4) (w2.heap.size + 3) 1 (w2.heap.size + 2) 1 (w2.heap.size + 1) p (some ⟨lb, 0, none⟩) n ldc ca n2 cc) := G
  have z1 := G.out.h1
  have zs := G.out.hs
  have z4 := G.out.h4
  have y0 := G.p0
  clear tk2 q1 b14 G HADV HAD
  go_wp2_with fail
  refine (next12 w1.heap.size A2 0 1 c2 (.pointer (some ⟨p, 0, none⟩)) w4 z1 (by decide) zs).mono ?_
  rintro e w5 ⟨rfl, hw5⟩
  have hw5' := hw5.symm
  subst hw5'
  go_wp2_with fail
  refine (err13 w1.heap.size .nilIface w4 z4).mono ?_
  rintro e w5 ⟨rfl, hw5⟩
  have hw5' := hw5.symm
  subst hw5'
  go_wp2_with fail
  clear z1 zs z4 y0
  rename_i Kc hKc
  have HKc := toHid hKc
  clear hKc
  go_loopg [24] n (fun g i wr => ∃ k : Nat, k ≤ n ∧ g = n - k ∧ i = .int .i64 k ∧ Below w4.heap.size w4 wr)
  case atStart => exact ⟨0, Nat.zero_le _, rfl, rfl, Below.refl _ _⟩
  case round =>
    obtain ⟨k, hk, rfl, rfl, hbr⟩ := hrel
    have HBr : Hid (Below w4.heap.size w4 wr) := hbr
    have HGr : Hid (Got w0 wr w1.heap.size A1 c1 A2 c2 (w2.heap.size + 4) (w2.heap.size + 3) 1 (w2.heap.size + 2) 1 (w2.heap.size + 1) p (some ⟨lb, 0, none⟩) n ldc ca n2 cc) := HG.out.later hbr
    have H1r : Hid (Below w1.heap.size w1 wr) := HB.out.trans (hbr.mono HB.out.size)
    clear hbr
    have y0 := HGr.out.p0
    by_cases hlt : k < n
    · have hlt' : (k : Int) < (n : Int) := by omega
      have hlt0 : (k : Int) < (n0 : Int) := by omega
      have hlt1 : (k : Int) < (n1 : Int) := by omega
      obtain ⟨ba, oa, ea, la', ca'⟩ := H.out.1 (by omega)
      obtain ⟨bv, ov, ev, lv, cv⟩ := H.out.2.1 (by omega)
      obtain ⟨bl, ol, el, ll, cl⟩ := HL.out (by omega)
      subst ea ev
      cases el
      have ga : wr.cell? ⟨ba, oa + k, none⟩ = some (.string (S0 k)) := (H1r.out.cell (p := ⟨ba, oa + k, none⟩) la').trans (ca' k (by omega))
      have gv : wr.cell? ⟨bv, ov + k, none⟩ = some (.string (S1 k)) := (H1r.out.cell (p := ⟨bv, ov + k, none⟩) lv).trans (cv k (by omega))
      have g0 : wr.cell? ⟨lb, k * 2, none⟩ = some (.string (S0 k)) := by
        have := (cl k hlt).1
        rw [Nat.zero_add] at this
        exact (H1r.out.cell (p := ⟨lb, k * 2, none⟩) ll).trans this
      have g1 : wr.cell? ⟨lb, k * 2 + 1, none⟩ = some (.string (S1 k)) := by
        have := (cl k hlt).2
        rw [Nat.zero_add] at this
        exact (H1r.out.cell (p := ⟨lb, k * 2 + 1, none⟩) ll).trans this
      clear ca' cv cl
      go_wp2_with fail
      go_quiet (fail)
      go_wp2_with fail
      go_roundg (n - (k + 1))
      case measure => omega
      case rel => exact ⟨k + 1, by omega, rfl, by go_num, below_drewN HBr.out _⟩
    · have hkn : k = n := by omega
      subst hkn
      go_wp2_with fail
      refine HKc.out _ _ ?_
      exact seg6 x0 x1 x2 x3 x4 n0 n1 n2 n3 n4 d0 d1 d2 d3 d4 k Z2 Z3 A' L C' Z D CD w1.heap.size A1 c1 A2 c2 _ _ 1 _ 1 _ p _ k ldc ca cc w0 wr b2 b3 b4 HGr.out
        (H.out.2.2.1.below H1r.out (Nat.le_refl _)) (H.out.2.2.2.1.below H1r.out (Nat.le_refl _)) (H.out.2.2.2.2.below H1r.out (Nat.le_refl _)) (fun i hi => ⟨(HI.out i hi).1, (HI.out i hi).2.below H1r.out (Nat.le_refl _)⟩)
        (HQ.out.below HBr.out (Nat.le_refl _)) (fun i hi => (HD.out i hi).below H1r.out (Nat.le_refl _))

end Go.Proofs.Qxb6615969a
