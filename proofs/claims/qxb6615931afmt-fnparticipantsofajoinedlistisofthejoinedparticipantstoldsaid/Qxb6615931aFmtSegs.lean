import Derived.Test.Qxb6615931aFmtSliced
namespace Go.Proofs.Qxb6615931aFmt
open Go.RowKit

/-- All the plain facts of one input. -/
structure Plan (N c n0 n1 n2 : Nat) (A : Nat → ByteArray) (W : Nat → Int) (A0 A1 A2 : Nat → ByteArray) (W0 W1 W2 : Nat → Int) (S0 S1 S2 : Nat → ByteArray) : Prop where
  hN : N ≤ 4096
  hc : c ≤ N
  hM : n0 = fstTo A W N
  hn : n1 + n2 ≤ 1048576
  hW : ∀ i, i < N → 0 ≤ W i
  hWj : ∀ q, q < n1 + n2 → 0 ≤ glue W1 W2 n1 q
  st0 : Stand N A W (fun i => itoa (0 + i)) n0 A0 W0 S0
  st1 : Stand c A W (fun i => itoa (0 + i)) n1 A1 W1 S1
  st2 : Stand (N - c) (fun i => A (c + i)) (fun i => W (c + i)) (fun i => itoa (c + i)) n2 A2 W2 S2
  stJ : Stand (n1 + n2) (glue A1 A2 n1) (glue W1 W2 n1) (glue S1 S2 n1) n0 A0 W0 S0

set_option maxRecDepth 1000000 in
set_option maxHeartbeats 8000000 in
theorem segD3 {u2 u3 u4 u5 u6 u7 u12 u13 u14 u15 u16 u17 u18 u19 u20 u21 u22 u23 u24 u25 u26 u27 u28 u29 u30 u31 u32 u33 u34 u35 u36 u37 u38 u39 u40 u41 u42 u43 u44 u45 u46 u47 u48 u49 u50 u51 u52 u53 u54 u55 u56 u57 u58 u59 u60 u61 u62 u63 u64 u65 u66 u67 u68 u69 u70 u71 u72 u73 u74 u75 u76 u77 u78 u79 u80 u81 u82 u83 u84 u85 u86 u87 u88 u89 u90 u91 u92 u93 u94 u95 u96 u97 u98 u99 u100 u101 u102 u103 u104 u105 u106 u107 u108 u109 u110 u111 u112 u113 u114 u115 u116 u117 u118 u119 u120 u121 u122 u123 u124 u125 u126 u127 u128 u129 u130 u131 u132 u133 u134 u135 u136 : Value} (N cap c n0 n1 n2 c1 c2 : Nat) (a a1 a2 : Option Addr) (A : Nat → ByteArray) (W : Nat → Int) (A0 A1 A2 : Nat → ByteArray) (W0 W1 W2 : Nat → Int) (S0 S1 S2 : Nat → ByteArray) (w0 w1 : World) (hP : Plan N c n0 n1 n2 A W A0 A1 A2 W0 W1 W2 S0 S1 S2) (hcap : N ≤ cap)
    (hb : Below w0.heap.size w0 w1) (hE : Es w1 a N A W) (h0 : BT w1 a1 n0 A0 W0 S0) (h1 : BT w1 a2 n1 A1 W1 S1) :
    Code.wp Tryf.prog (restAfter 9 (Tryf.f3.body.getD .skip)) (bodyPost Tryf.prog Tryf.f3 fun e w' => MainPost w0 e w') ⟨#[.slice a N cap, .int .i64 (c : Int), u2, u3, u4, u5, u6, u7, .slice a1 n0 c1, .nilIface, .slice a2 n1 c2, .nilIface, u12, u13, u14, u15, u16, u17, u18, u19, u20, u21, u22, u23, u24, u25, u26, u27, u28, u29, u30, u31, u32, u33, u34, u35, u36, u37, u38, u39, u40, u41, u42, u43, u44, u45, u46, u47, u48, u49, u50, u51, u52, u53, u54, u55, u56, u57, u58, u59, u60, u61, u62, u63, u64, u65, u66, u67, u68, u69, u70, u71, u72, u73, u74, u75, u76, u77, u78, u79, u80, u81, u82, u83, u84, u85, u86, u87, u88, u89, u90, u91, u92, u93, u94, u95, u96, u97, u98, u99, u100, u101, u102, u103, u104, u105, u106, u107, u108, u109, u110, u111, u112, u113, u114, u115, u116, u117, u118, u119, u120, u121, u122, u123, u124, u125, u126, u127, u128, u129, u130, u131, u132, u133, u134, u135, u136], []⟩ w1 := by
  conv => arg 2; whnf
  obtain ⟨a', hsl, hE'⟩ := slice_right N cap c hP.hc hcap a A W w1 hE
  have hN := hP.hN
  have hc := hP.hc
  have HP := toHid hP
  have HE := toHid hE
  have HE' := toHid hE'
  have H0 := toHid hb
  have HB0 := toHid h0
  have HB1 := toHid h1
  have sz0 := hb.size
  clear hP hE hE' hb h0 h1
  go_wp2_with (first
    | (go_at_call 6; refine (backs (N - c) (cap - c) c (c : Int) rfl a' _ _ w1 (by omega) (by omega) HE'.out).mono ?_; rintro e w2 ⟨rfl, hB2, hb2, hl2⟩; have HB2 := toHid hB2; have H2 := toHid hb2; have HL2 := toHid hl2; clear hB2 hb2 hl2)
    | (go_at_call 5; rename_i Kc hKc K2 hK2; have HKc := toHid hKc; clear hKc; refine (parts_to (N - c) (N - c) n2 _ _ _ _ A2 W2 S2 w2 (by omega) HB2.out (fun x hx => by cases hx; exact HL2.out) (fun i hi => HP.out.hW (c + i) (by omega)) HP.out.st2).mono ?_; rintro e w3 ⟨a3, c3, rfl, hB3, hb3⟩; have HB3 := toHid hB3; have H3 := toHid hb3; clear hB3 hb3))
  refine HKc.out _ _ ?_
  have R : Below w1.heap.size w1 w3 := H2.out.trans (H3.out.mono H2.out.size)
  exact segD4 N cap n0 n1 n2 c1 c2 c3 a a1 a2 a3 A W A0 A1 A2 W0 W1 W2 S0 S1 S2 w0 w3 hN HP.out.hM HP.out.hn HP.out.hWj HP.out.stJ (H0.out.trans (R.mono sz0)) (HE.out.below R) (HB0.out.below R) (HB1.out.below R) HB3.out

set_option maxRecDepth 1000000 in
set_option maxHeartbeats 8000000 in
theorem segD2 {u2 u3 u4 u5 u6 u7 u10 u11 u12 u13 u14 u15 u16 u17 u18 u19 u20 u21 u22 u23 u24 u25 u26 u27 u28 u29 u30 u31 u32 u33 u34 u35 u36 u37 u38 u39 u40 u41 u42 u43 u44 u45 u46 u47 u48 u49 u50 u51 u52 u53 u54 u55 u56 u57 u58 u59 u60 u61 u62 u63 u64 u65 u66 u67 u68 u69 u70 u71 u72 u73 u74 u75 u76 u77 u78 u79 u80 u81 u82 u83 u84 u85 u86 u87 u88 u89 u90 u91 u92 u93 u94 u95 u96 u97 u98 u99 u100 u101 u102 u103 u104 u105 u106 u107 u108 u109 u110 u111 u112 u113 u114 u115 u116 u117 u118 u119 u120 u121 u122 u123 u124 u125 u126 u127 u128 u129 u130 u131 u132 u133 u134 u135 u136 : Value} (N cap c n0 n1 n2 c1 : Nat) (a a1 : Option Addr) (A : Nat → ByteArray) (W : Nat → Int) (A0 A1 A2 : Nat → ByteArray) (W0 W1 W2 : Nat → Int) (S0 S1 S2 : Nat → ByteArray) (w0 w1 : World) (hP : Plan N c n0 n1 n2 A W A0 A1 A2 W0 W1 W2 S0 S1 S2) (hcap : N ≤ cap)
    (hb : Below w0.heap.size w0 w1) (hE : Es w1 a N A W) (h0 : BT w1 a1 n0 A0 W0 S0) :
    Code.wp Tryf.prog (restAfter 8 (Tryf.f3.body.getD .skip)) (bodyPost Tryf.prog Tryf.f3 fun e w' => MainPost w0 e w') ⟨#[.slice a N cap, .int .i64 (c : Int), u2, u3, u4, u5, u6, u7, .slice a1 n0 c1, .nilIface, u10, u11, u12, u13, u14, u15, u16, u17, u18, u19, u20, u21, u22, u23, u24, u25, u26, u27, u28, u29, u30, u31, u32, u33, u34, u35, u36, u37, u38, u39, u40, u41, u42, u43, u44, u45, u46, u47, u48, u49, u50, u51, u52, u53, u54, u55, u56, u57, u58, u59, u60, u61, u62, u63, u64, u65, u66, u67, u68, u69, u70, u71, u72, u73, u74, u75, u76, u77, u78, u79, u80, u81, u82, u83, u84, u85, u86, u87, u88, u89, u90, u91, u92, u93, u94, u95, u96, u97, u98, u99, u100, u101, u102, u103, u104, u105, u106, u107, u108, u109, u110, u111, u112, u113, u114, u115, u116, u117, u118, u119, u120, u121, u122, u123, u124, u125, u126, u127, u128, u129, u130, u131, u132, u133, u134, u135, u136], []⟩ w1 := by
  conv => arg 2; whnf
  obtain ⟨a', cc, hsl, hE'⟩ := slice_left N cap c hP.hc hcap a A W w1 hE
  have hN := hP.hN
  have hc := hP.hc
  have HP := toHid hP
  have HE := toHid hE
  have HE' := toHid hE'
  have H0 := toHid hb
  have HB0 := toHid h0
  have sz0 := hb.size
  clear hP hE hE' hb h0
  go_wp2_with (first
    | (go_at_call 6; refine (backs c cc 0 (0 : Int) rfl a' _ _ w1 (by omega) (by omega) HE'.out).mono ?_; rintro e w2 ⟨rfl, hB2, hb2, hl2⟩; have HB2 := toHid hB2; have H2 := toHid hb2; have HL2 := toHid hl2; clear hB2 hb2 hl2)
    | (go_at_call 5; rename_i Kc hKc K2 hK2; have HKc := toHid hKc; clear hKc; refine (parts_to c c n1 _ _ _ _ A1 W1 S1 w2 (by omega) HB2.out (fun x hx => by cases hx; exact HL2.out) (fun i hi => HP.out.hW i (by omega)) HP.out.st1).mono ?_; rintro e w3 ⟨a3, c3, rfl, hB3, hb3⟩; have HB3 := toHid hB3; have H3 := toHid hb3; clear hB3 hb3))
  refine HKc.out _ _ ?_
  have R : Below w1.heap.size w1 w3 := H2.out.trans (H3.out.mono H2.out.size)
  exact segD3 N cap c n0 n1 n2 c1 c3 a a1 a3 A W A0 A1 A2 W0 W1 W2 S0 S1 S2 w0 w3 HP.out hcap (H0.out.trans (R.mono sz0)) (HE.out.below R) (HB0.out.below R) HB3.out

set_option maxRecDepth 1000000 in
set_option maxHeartbeats 8000000 in
theorem segD1 {u2 u3 u4 u5 u6 u7 u8 u9 u10 u11 u12 u13 u14 u15 u16 u17 u18 u19 u20 u21 u22 u23 u24 u25 u26 u27 u28 u29 u30 u31 u32 u33 u34 u35 u36 u37 u38 u39 u40 u41 u42 u43 u44 u45 u46 u47 u48 u49 u50 u51 u52 u53 u54 u55 u56 u57 u58 u59 u60 u61 u62 u63 u64 u65 u66 u67 u68 u69 u70 u71 u72 u73 u74 u75 u76 u77 u78 u79 u80 u81 u82 u83 u84 u85 u86 u87 u88 u89 u90 u91 u92 u93 u94 u95 u96 u97 u98 u99 u100 u101 u102 u103 u104 u105 u106 u107 u108 u109 u110 u111 u112 u113 u114 u115 u116 u117 u118 u119 u120 u121 u122 u123 u124 u125 u126 u127 u128 u129 u130 u131 u132 u133 u134 u135 u136 : Value} (N cap c n0 n1 n2 : Nat) (a : Option Addr) (A : Nat → ByteArray) (W : Nat → Int) (A0 A1 A2 : Nat → ByteArray) (W0 W1 W2 : Nat → Int) (S0 S1 S2 : Nat → ByteArray) (w0 w1 : World) (hP : Plan N c n0 n1 n2 A W A0 A1 A2 W0 W1 W2 S0 S1 S2) (hcap : N ≤ cap)
    (hb : Below w0.heap.size w0 w1) (hE : Es w1 a N A W) :
    Code.wp Tryf.prog (restAfter 7 (Tryf.f3.body.getD .skip)) (bodyPost Tryf.prog Tryf.f3 fun e w' => MainPost w0 e w') ⟨#[.slice a N cap, .int .i64 (c : Int), u2, u3, u4, u5, u6, u7, u8, u9, u10, u11, u12, u13, u14, u15, u16, u17, u18, u19, u20, u21, u22, u23, u24, u25, u26, u27, u28, u29, u30, u31, u32, u33, u34, u35, u36, u37, u38, u39, u40, u41, u42, u43, u44, u45, u46, u47, u48, u49, u50, u51, u52, u53, u54, u55, u56, u57, u58, u59, u60, u61, u62, u63, u64, u65, u66, u67, u68, u69, u70, u71, u72, u73, u74, u75, u76, u77, u78, u79, u80, u81, u82, u83, u84, u85, u86, u87, u88, u89, u90, u91, u92, u93, u94, u95, u96, u97, u98, u99, u100, u101, u102, u103, u104, u105, u106, u107, u108, u109, u110, u111, u112, u113, u114, u115, u116, u117, u118, u119, u120, u121, u122, u123, u124, u125, u126, u127, u128, u129, u130, u131, u132, u133, u134, u135, u136], []⟩ w1 := by
  conv => arg 2; whnf
  have hN := hP.hN
  have hc := hP.hc
  have HP := toHid hP
  have HE := toHid hE
  have H0 := toHid hb
  have sz0 := hb.size
  clear hP hE hb
  go_wp2_with (first
    | (go_at_call 6; refine (backs N cap 0 (0 : Int) rfl a _ _ w1 (by omega) (by omega) HE.out).mono ?_; rintro e w2 ⟨rfl, hB2, hb2, hl2⟩; have HB2 := toHid hB2; have H2 := toHid hb2; have HL2 := toHid hl2; clear hB2 hb2 hl2)
    | (go_at_call 5; rename_i Kc hKc K2 hK2; have HKc := toHid hKc; clear hKc; refine (parts_to N N n0 _ _ _ _ A0 W0 S0 w2 (by omega) HB2.out (fun x hx => by cases hx; exact HL2.out) (fun i hi => HP.out.hW i (by omega)) HP.out.st0).mono ?_; rintro e w3 ⟨a3, c3, rfl, hB3, hb3⟩; have HB3 := toHid hB3; have H3 := toHid hb3; clear hB3 hb3))
  refine HKc.out _ _ ?_
  have R : Below w1.heap.size w1 w3 := H2.out.trans (H3.out.mono H2.out.size)
  exact segD2 N cap c n0 n1 n2 c3 a a3 A W A0 A1 A2 W0 W1 W2 S0 S1 S2 w0 w3 HP.out hcap (H0.out.trans (R.mono sz0)) (HE.out.below R) HB3.out

end Go.Proofs.Qxb6615931aFmt
