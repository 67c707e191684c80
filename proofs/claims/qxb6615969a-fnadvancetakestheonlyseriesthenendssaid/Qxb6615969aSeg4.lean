import Derived.Test.Qxb6615969aSeg5
namespace Go.Proofs.Qxb6615969a
open Go.RowKit

theorem build37 (a b : Int) (x : Option Addr) (n c : Nat) (w : World) : (Instr.build 37 #[(0, .int .i64 a), (1, .int .i64 b), (2, .slice x n c)]).run Try.prog w = .ok (.agg #[.int .i64 a, .int .i64 b, .slice x n c]) w := run_build w 37 _ _ (by kernel_rfl)

/-- k chunks are laid. -/
structure ChTo (w1 wr : World) (n2 k : Nat) (Z2 Mx : Nat → Int) (D : Nat → Option Addr) (Ld CD : Nat → Nat) (Z : Nat → Nat → Int) : Prop where
  below : Below w1.heap.size w1 wr
  row : wr.rowIs w1.heap.size 37 (n2 * 3) (mix (chF Z2 Mx D Ld CD) zero37 (k * 3))
  inner : ∀ i, i < k → Cells wr (D i) (Ld i) (fun j => .int .u8 (Z i j)) ∧ ∀ x, D i = some x → w1.heap.size < x.block

theorem chTo_step {w1 wr w2 : World} {n2 k : Nat} {Z2 Mx : Nat → Int} {D : Nat → Option Addr} {Ld CD : Nat → Nat} {Z : Nat → Nat → Int} (h : ChTo w1 wr n2 k Z2 Mx D Ld CD Z) {a1 : Option Addr} {c1 : Nat}
    (hb : Below wr.heap.size wr w2) (hc : Cells w2 a1 (Ld k) (fun j => .int .u8 (Z k j))) (hf : ∀ x, a1 = some x → wr.heap.size ≤ x.block) :
    ChTo w1 (((w2.setCell ⟨w1.heap.size, k * 3, none⟩ (.int .i64 (Z2 k))).setCell ⟨w1.heap.size, k * 3 + 1, none⟩ (.int .i64 (Mx k))).setCell ⟨w1.heap.size, k * 3 + 2, none⟩ (.slice a1 (Ld k) c1)) n2 (k + 1) Z2 Mx (fun i => if i = k then a1 else D i) Ld (fun i => if i = k then c1 else CD i) Z := by
  have hlt := h.row.lt
  have hrow1 := row_below h.row hb hlt
  refine ⟨(((h.below.trans (hb.mono (by omega))).setCell (Nat.le_refl _) _).setCell (Nat.le_refl _) _).setCell (Nat.le_refl _) _, ?_, fun i hi => ?_⟩
  · have hr2 : w2.rowIs w1.heap.size 37 (n2 * 3) (mix (chF Z2 Mx (fun i => if i = k then a1 else D i) Ld (fun i => if i = k then c1 else CD i)) zero37 (k * 3)) :=
      hrow1.congr fun i _ => by
        unfold mix
        by_cases l : i < k * 3
        · have : i / 3 ≠ k := by omega
          simp [l, chF, this]
        · simp [l]
    have r1 := mix_step hr2
    rw [chF0] at r1
    have r2 := mix_step r1
    rw [chF1] at r2
    have r3 := mix_step r2
    rw [show k * 3 + 1 + 1 = k * 3 + 2 from rfl, chF2, show k * 3 + 2 + 1 = (k + 1) * 3 from by omega] at r3
    simpa using r3
  · by_cases e : i = k
    · subst e
      simp only [if_true]
      refine ⟨((hc.setOther (fun x hx => ?_) _).setOther (fun x hx => ?_) _).setOther (fun x hx => ?_) _, fun x hx => ?_⟩
      · have := hf x hx; show x.block ≠ w1.heap.size; omega
      · have := hf x hx; show x.block ≠ w1.heap.size; omega
      · have := hf x hx; show x.block ≠ w1.heap.size; omega
      · have := hf x hx; omega
    · simp only [if_neg e]
      obtain ⟨i2, i3⟩ := h.inner i (by omega)
      refine ⟨(((i2.below hb (Nat.le_refl _)).setOther (fun x hx => ?_) _).setOther (fun x hx => ?_) _).setOther (fun x hx => ?_) _, i3⟩
      · have := i3 x hx; show x.block ≠ w1.heap.size; omega
      · have := i3 x hx; show x.block ≠ w1.heap.size; omega
      · have := i3 x hx; show x.block ≠ w1.heap.size; omega

theorem chTo_at {w1 wr w2 : World} {n2 k : Nat} {Z2 Mx : Nat → Int} {D : Nat → Option Addr} {Ld CD : Nat → Nat} {Z : Nat → Nat → Int} (h : ChTo w1 wr n2 k Z2 Mx D Ld CD Z) {a1 : Option Addr} {c1 : Nat} {mv : Int} {lv : Nat} (eM : Mx k = mv) (eL : Ld k = lv)
    (hb : Below wr.heap.size wr w2) (hc : Cells w2 a1 lv (fun j => .int .u8 (Z k j))) (hf : ∀ x, a1 = some x → wr.heap.size ≤ x.block) :
    ChTo w1 (((w2.setCell ⟨w1.heap.size, k * 3, none⟩ (.int .i64 (Z2 k))).setCell ⟨w1.heap.size, k * 3 + 1, none⟩ (.int .i64 mv)).setCell ⟨w1.heap.size, k * 3 + 2, none⟩ (.slice a1 lv c1)) n2 (k + 1) Z2 Mx (fun i => if i = k then a1 else D i) Ld (fun i => if i = k then c1 else CD i) Z := by
  subst eM eL
  exact chTo_step h hb hc hf

set_option maxRecDepth 1000000 in
set_option maxHeartbeats 8000000 in
theorem seg4 {u5 u6 u7 u8 u9 u10 u11 u12 u13 u14 u17 u18 u19 u20 u21 u22 u23 u24 u25 u26 u27 u28 u29 u30 u31 u32 u33 u34 u35 u36 u37 u38 u39 u40 u41 u42 u43 u44 u45 u46 u47 u48 u49 u50 u51 u52 u53 u54 u55 u56 u57 u58 u59 u60 u61 u62 u63 u64 u65 u66 u67 u68 u69 u70 u71 u72 u73 u74 u75 u76 u77 u78 u79 u80 u81 u82 u83 u84 u85 u86 u87 u88 u89 u90 u91 u92 u93 u94 u95 u96 u97 u98 u99 u100 u101 u102 u103 u104 u105 u106 u107 u108 u109 u110 u111 u112 u113 u114 u115 u116 u117 u118 u119 u120 u121 u122 u123 u124 u125 u126 u127 u128 u129 u130 u131 u132 u133 u134 u135 u136 u137 u138 u139 u140 u141 u142 u143 u144 u145 u146 u147 u148 u149 u150 u151 u152 u153 u154 u155 u156 u157 u158 u159 u160 u161 u162 u163 u164 u165 u166 u167 u168 u169 u170 u171 u172 u173 u174 u175 u176 u177 u178 u179 u180 u181 u182 u183 u184 u185 u186 u187 u188 u189 u190 u191 u192 u193 u194 u195 u196 u197 u198 u199 u200 u201 u202 u203 u204 u205 u206 u207 u208 u209 u210 u211 u212 u213 u214 u215 u216 u217 u218 u219 u220 u221 u222 u223 u224 u225 u226 u227 u228 u229 u230 u231 u232 u233 u234 u235 u236 u237 u238 u239 u240 u241 u242 u243 u244 u245 u246 u247 u248 u249 u250 u251 u252 u253 u254 u255 u256 u257 u258 u259 u260 u261 u262 u263 u264 u265 u266 u267 u268 u269 u270 u271 u272 u273 u274 u275 u276 u277 u278 u279 u280 u281 u282 u283 u284 u285 u286 u287 u288 u289 u290 u291 u292 u293 u294 u295 u296 u297 u298 u299 u300 u301 u302 u303 u304 u305 u306 u307 u308 u309 u310 u311 u312 u313 u314 u315 u316 u317 u318 u319 u320 u321 : Value} (x0 x1 x2 x3 x4 : Option Addr) (n0 n1 n2 n3 n4 d0 d1 d2 d3 d4 n lb ldc : Nat) (S0 S1 : Nat → ByteArray) (Z2 Z3 : Nat → Int) (A' : Nat → Option Addr) (L C' : Nat → Nat) (Z : Nat → Nat → Int)
    (w0 w1 : World) (b : n ≤ 65536) (bn0 : n ≤ n0) (bn1 : n ≤ n1) (b2 : n2 ≤ 65536) (b3 : n3 ≤ 65536) (b4 : n4 ≤ 65536) (hb : Below w0.heap.size w0 w1)
    (h0 : Cells w1 x0 n0 (fun i => .string (S0 i))) (h1 : Cells w1 x1 n1 (fun i => .string (S1 i)))
    (h2 : Cells w1 x2 n2 (fun i => .int .i64 (Z2 i))) (h3 : Cells w1 x3 n3 (fun i => .int .i64 (Z3 i)))
    (h4 : Cells w1 x4 n4 (fun i => .slice (A' i) (L i) (C' i))) (hI : ∀ i, i < n4 → (A' i = none → L i = 0) ∧ L i ≤ 1048576 ∧ Cells w1 (A' i) (L i) (fun j => .int .u8 (Z i j)))
    (hl : Labels w1 (some ⟨lb, 0, none⟩) n S0 S1) :
    Code.wp Try.prog (restAfter 17 (Try.f3.body.getD .skip)) (bodyPost Try.prog Try.f3 fun e w' => Done w0 e w') ⟨#[.slice x0 n0 d0, .slice x1 n1 d1, .slice x2 n2 d2, .slice x3 n3 d3, .slice x4 n4 d4, u5, u6, u7, u8, u9, u10, u11, u12, u13, u14, .int .i64 (n : Int), .slice (some ⟨lb, 0, none⟩) n ldc, u17, u18, u19, u20, u21, u22, u23, u24, u25, u26, u27, u28, u29, u30, u31, u32, u33, u34, u35, u36, u37, u38, u39, u40, u41, u42, u43, u44, u45, u46, u47, u48, u49, u50, u51, u52, u53, u54, u55, u56, u57, u58, u59, u60, u61, u62, u63, u64, u65, u66, u67, u68, u69, u70, u71, u72, u73, u74, u75, u76, u77, u78, u79, u80, u81, u82, u83, u84, u85, u86, u87, u88, u89, u90, u91, u92, u93, u94, u95, u96, u97, u98, u99, u100, u101, u102, u103, u104, u105, u106, u107, u108, u109, u110, u111, u112, u113, u114, u115, u116, u117, u118, u119, u120, u121, u122, u123, u124, u125, u126, u127, u128, u129, u130, u131, u132, u133, u134, u135, u136, u137, u138, u139, u140, u141, u142, u143, u144, u145, u146, u147, u148, u149, u150, u151, u152, u153, u154, u155, u156, u157, u158, u159, u160, u161, u162, u163, u164, u165, u166, u167, u168, u169, u170, u171, u172, u173, u174, u175, u176, u177, u178, u179, u180, u181, u182, u183, u184, u185, u186, u187, u188, u189, u190, u191, u192, u193, u194, u195, u196, u197, u198, u199, u200, u201, u202, u203, u204, u205, u206, u207, u208, u209, u210, u211, u212, u213, u214, u215, u216, u217, u218, u219, u220, u221, u222, u223, u224, u225, u226, u227, u228, u229, u230, u231, u232, u233, u234, u235, u236, u237, u238, u239, u240, u241, u242, u243, u244, u245, u246, u247, u248, u249, u250, u251, u252, u253, u254, u255, u256, u257, u258, u259, u260, u261, u262, u263, u264, u265, u266, u267, u268, u269, u270, u271, u272, u273, u274, u275, u276, u277, u278, u279, u280, u281, u282, u283, u284, u285, u286, u287, u288, u289, u290, u291, u292, u293, u294, u295, u296, u297, u298, u299, u300, u301, u302, u303, u304, u305, u306, u307, u308, u309, u310, u311, u312, u313, u314, u315, u316, u317, u318, u319, u320, u321], []⟩ w1 := by
  conv => arg 2; whnf
  have H : Hid (Cells w1 x0 n0 (fun i => .string (S0 i)) ∧ Cells w1 x1 n1 (fun i => .string (S1 i)) ∧ Cells w1 x2 n2 (fun i => .int .i64 (Z2 i)) ∧ Cells w1 x3 n3 (fun i => .int .i64 (Z3 i)) ∧ Cells w1 x4 n4 (fun i => .slice (A' i) (L i) (C' i))) := ⟨h0, h1, h2, h3, h4⟩
  have HI : Hid (∀ i, i < n4 → (A' i = none → L i = 0) ∧ L i ≤ 1048576 ∧ Cells w1 (A' i) (L i) (fun j => .int .u8 (Z i j))) := hI
  have HL : Hid (Labels w1 (some ⟨lb, 0, none⟩) n S0 S1) := hl
  have HB0 : Hid (Below w0.heap.size w0 w1) := hb
  have hb37 := build37
  have hmk := make37 n2 (by omega)
  clear h0 h1 h2 h3 h4 hI hl hb
  go_wp2_with fail
  clear hmk
  rename_i Kc hKc
  have HKc := toHid hKc
  clear hKc
  go_loopg [19] n2 (fun g i wr => ∃ k : Nat, k ≤ n2 ∧ g = n2 - k ∧ i = .int .i64 k ∧ ∃ D CD, ChTo w1 wr n2 k Z2 (fun i => if i < n3 then Z3 i else 0) D (fun i => if i < n4 then L i else 0) CD Z)
  case atStart => exact ⟨0, Nat.zero_le _, rfl, rfl, fun _ => none, fun _ => 0, fresh37_below w1 n2, by rw [Nat.zero_mul]; exact mix_start (fresh37_row w1 n2), fun i hi => absurd hi (Nat.not_lt_zero _)⟩
  case round =>
    obtain ⟨k, hk, rfl, rfl, D, CD, hr⟩ := hrel
    have HR := toHid hr
    clear hr
    by_cases hlt : k < n2
    · have hlt' : (k : Int) < (n2 : Int) := by omega
      obtain ⟨bm, om, em, lm, cm⟩ := H.out.2.2.1 (by omega)
      subst em
      have gm : wr.cell? ⟨bm, om + k, none⟩ = some (.int .i64 (Z2 k)) := (HR.out.below.cell (p := ⟨bm, om + k, none⟩) lm).trans (cm k hlt)
      have lbm : bm < wr.heap.size := Nat.lt_of_lt_of_le lm HR.out.below.size
      clear cm
      by_cases h3k : k < n3
      · by_cases h4k : k < n4
        · have eM : (fun i => if i < n3 then Z3 i else 0) k = Z3 k := if_pos h3k
          have eL : (fun i => if i < n4 then L i else 0) k = L k := if_pos h4k
          have HEM := toHid eM
          have HEL := toHid eL
          clear eM eL
          obtain ⟨b3', o3, e3, l3, k3⟩ := H.out.2.2.2.1 (by omega)
          subst e3
          have g3 : wr.cell? ⟨b3', o3 + k, none⟩ = some (.int .i64 (Z3 k)) := (HR.out.below.cell (p := ⟨b3', o3 + k, none⟩) l3).trans (k3 k h3k)
          clear k3
          obtain ⟨b4', o4, e4, l4, k4⟩ := H.out.2.2.2.2 (by omega)
          subst e4
          have g4 : wr.cell? ⟨b4', o4 + k, none⟩ = some (.slice (A' k) (L k) (C' k)) := (HR.out.below.cell (p := ⟨b4', o4 + k, none⟩) l4).trans (k4 k h4k)
          clear k4
          have hcl := clone_bytes (A' k) (L k) (C' k) (Z k) wr (HI.out k h4k).2.1 (HI.out k h4k).1 ((HI.out k h4k).2.2.below HR.out.below (Nat.le_refl _))
          have HCL := toHid hcl
          clear hcl
          go_wp2_with fail
          refine HCL.out.mono ?_
          rintro e w2 ⟨a1, c1, rfl, f0, f1, f2, f3⟩
          have lbm' := HR.out.row.lt
          have gm2 : w2.cell? ⟨bm, om + k, none⟩ = some (.int .i64 (Z2 k)) := (f2.cell (p := ⟨bm, om + k, none⟩) lbm).trans gm
          have r0 := (row_below HR.out.row f2 lbm').cell (i := k * 3) (by omega)
          have r1 := (row_below HR.out.row f2 lbm').cell (i := k * 3 + 1) (by omega)
          have r2 := (row_below HR.out.row f2 lbm').cell (i := k * 3 + 2) (by omega)
          have z0 := (row_below HR.out.row f2 lbm').frozen (k * 3)
          have z1 := (row_below HR.out.row f2 lbm').frozen (k * 3 + 1)
          have z2 := (row_below HR.out.row f2 lbm').frozen (k * 3 + 2)
          have HST := toHid (chTo_at HR.out (a1 := a1) (c1 := c1) HEM.out HEL.out f2 f1 f3)
          clear f0 f1 f2 f3 g4 gm lbm'
          go_wp2_with fail
          go_roundg (n2 - (k + 1))
          case measure => omega
          case rel => exact ⟨k + 1, by omega, rfl, by go_num, _, _, HST.out⟩
        · have eM : (fun i => if i < n3 then Z3 i else 0) k = Z3 k := if_pos h3k
          have eL : (fun i => if i < n4 then L i else 0) k = 0 := if_neg h4k
          have HEM := toHid eM
          have HEL := toHid eL
          clear eM eL
          obtain ⟨b3', o3, e3, l3, k3⟩ := H.out.2.2.2.1 (by omega)
          subst e3
          have g3 : wr.cell? ⟨b3', o3 + k, none⟩ = some (.int .i64 (Z3 k)) := (HR.out.below.cell (p := ⟨b3', o3 + k, none⟩) l3).trans (k3 k h3k)
          clear k3
          have r0 := HR.out.row.cell (i := k * 3) (by omega)
          have r1 := HR.out.row.cell (i := k * 3 + 1) (by omega)
          have r2 := HR.out.row.cell (i := k * 3 + 2) (by omega)
          have z0 := HR.out.row.frozen (k * 3)
          have z1 := HR.out.row.frozen (k * 3 + 1)
          have z2 := HR.out.row.frozen (k * 3 + 2)
          have HST := toHid (chTo_at HR.out (a1 := none) (c1 := 0) HEM.out HEL.out (Below.refl _ _) (Cells.nil _ _ _) (fun x hx => by cases hx))
          go_wp2_with fail
          go_roundg (n2 - (k + 1))
          case measure => omega
          case rel => exact ⟨k + 1, by omega, rfl, by go_num, _, _, HST.out⟩
      · by_cases h4k : k < n4
        · have eM : (fun i => if i < n3 then Z3 i else 0) k = 0 := if_neg h3k
          have eL : (fun i => if i < n4 then L i else 0) k = L k := if_pos h4k
          have HEM := toHid eM
          have HEL := toHid eL
          clear eM eL
          obtain ⟨b4', o4, e4, l4, k4⟩ := H.out.2.2.2.2 (by omega)
          subst e4
          have g4 : wr.cell? ⟨b4', o4 + k, none⟩ = some (.slice (A' k) (L k) (C' k)) := (HR.out.below.cell (p := ⟨b4', o4 + k, none⟩) l4).trans (k4 k h4k)
          clear k4
          have hcl := clone_bytes (A' k) (L k) (C' k) (Z k) wr (HI.out k h4k).2.1 (HI.out k h4k).1 ((HI.out k h4k).2.2.below HR.out.below (Nat.le_refl _))
          have HCL := toHid hcl
          clear hcl
          go_wp2_with fail
          refine HCL.out.mono ?_
          rintro e w2 ⟨a1, c1, rfl, f0, f1, f2, f3⟩
          have lbm' := HR.out.row.lt
          have gm2 : w2.cell? ⟨bm, om + k, none⟩ = some (.int .i64 (Z2 k)) := (f2.cell (p := ⟨bm, om + k, none⟩) lbm).trans gm
          have r0 := (row_below HR.out.row f2 lbm').cell (i := k * 3) (by omega)
          have r1 := (row_below HR.out.row f2 lbm').cell (i := k * 3 + 1) (by omega)
          have r2 := (row_below HR.out.row f2 lbm').cell (i := k * 3 + 2) (by omega)
          have z0 := (row_below HR.out.row f2 lbm').frozen (k * 3)
          have z1 := (row_below HR.out.row f2 lbm').frozen (k * 3 + 1)
          have z2 := (row_below HR.out.row f2 lbm').frozen (k * 3 + 2)
          have HST := toHid (chTo_at HR.out (a1 := a1) (c1 := c1) HEM.out HEL.out f2 f1 f3)
          clear f0 f1 f2 f3 g4 gm lbm'
          go_wp2_with fail
          go_roundg (n2 - (k + 1))
          case measure => omega
          case rel => exact ⟨k + 1, by omega, rfl, by go_num, _, _, HST.out⟩
        · have eM : (fun i => if i < n3 then Z3 i else 0) k = 0 := if_neg h3k
          have eL : (fun i => if i < n4 then L i else 0) k = 0 := if_neg h4k
          have HEM := toHid eM
          have HEL := toHid eL
          clear eM eL
          have r0 := HR.out.row.cell (i := k * 3) (by omega)
          have r1 := HR.out.row.cell (i := k * 3 + 1) (by omega)
          have r2 := HR.out.row.cell (i := k * 3 + 2) (by omega)
          have z0 := HR.out.row.frozen (k * 3)
          have z1 := HR.out.row.frozen (k * 3 + 1)
          have z2 := HR.out.row.frozen (k * 3 + 2)
          have HST := toHid (chTo_at HR.out (a1 := none) (c1 := 0) HEM.out HEL.out (Below.refl _ _) (Cells.nil _ _ _) (fun x hx => by cases hx))
          go_wp2_with fail
          go_roundg (n2 - (k + 1))
          case measure => omega
          case rel => exact ⟨k + 1, by omega, rfl, by go_num, _, _, HST.out⟩
    · have hkn : k = n2 := by omega
      subst hkn
      go_wp2_with fail
      refine HKc.out _ _ ?_
      have hbr := HR.out.below
      have hrow := mix_done HR.out.row
      exact seg5 x0 x1 x2 x3 x4 n0 n1 k n3 n4 d0 d1 d2 d3 d4 n lb ldc w1.heap.size k S0 S1 Z2 Z3 A' L C' Z D CD w0 wr b bn0 bn1 b2 b3 b4 (HB0.out.trans (hbr.mono HB0.out.size))
        (H.out.1.below hbr (Nat.le_refl _)) (H.out.2.1.below hbr (Nat.le_refl _)) (H.out.2.2.1.below hbr (Nat.le_refl _)) (H.out.2.2.2.1.below hbr (Nat.le_refl _)) (H.out.2.2.2.2.below hbr (Nat.le_refl _))
        (fun i hi => ⟨(HI.out i hi).2.1, (HI.out i hi).2.2.below hbr (Nat.le_refl _)⟩) (HL.out.below hbr (Nat.le_refl _)) hrow.lt (fun j hj => hrow.cell hj) (fun i hi => (HR.out.inner i hi).1)

end Go.Proofs.Qxb6615969a
