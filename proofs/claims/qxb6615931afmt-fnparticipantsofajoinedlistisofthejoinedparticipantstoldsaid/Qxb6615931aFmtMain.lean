import Derived.Test.Qxb6615931aFmtPlan
namespace Go.Proofs.Qxb6615931aFmt
open Go.RowKit

set_option maxRecDepth 1000000 in
set_option maxHeartbeats 8000000 in
theorem segB {u2 u3 u4 u5 u6 u7 u8 u9 u10 u11 u12 u13 u14 u15 u16 u17 u18 u19 u20 u21 u22 u23 u24 u25 u26 u27 u28 u29 u30 u31 u32 u33 u34 u35 u36 u37 u38 u39 u40 u41 u42 u43 u44 u45 u46 u47 u48 u49 u50 u51 u52 u53 u54 u55 u56 u57 u58 u59 u60 u61 u62 u63 u64 u65 u66 u67 u68 u69 u70 u71 u72 u73 u74 u75 u76 u77 u78 u79 u80 u81 u82 u83 u84 u85 u86 u87 u88 u89 u90 u91 u92 u93 u94 u95 u96 u97 u98 u99 u100 u101 u102 u103 u104 u105 u106 u107 u108 u109 u110 u111 u112 u113 u114 u115 u116 u117 u118 u119 u120 u121 u122 u123 u124 u125 u126 u127 u128 u129 u130 u131 u132 u133 u134 u135 u136 : Value} (N cap : Nat) (cut : Int) (a : Option Addr) (A : Nat → ByteArray) (W : Nat → Int) (w0 w1 : World) (hN : N ≤ 4096) (hcap : N ≤ cap) (hb : Below w0.heap.size w0 w1) (hE : Es w1 a N A W) :
    Code.wp Tryf.prog (restAfter 5 (Tryf.f3.body.getD .skip)) (bodyPost Tryf.prog Tryf.f3 fun e w' => MainPost w0 e w') ⟨#[.slice a N cap, .int .i64 cut, u2, u3, u4, u5, u6, u7, u8, u9, u10, u11, u12, u13, u14, u15, u16, u17, u18, u19, u20, u21, u22, u23, u24, u25, u26, u27, u28, u29, u30, u31, u32, u33, u34, u35, u36, u37, u38, u39, u40, u41, u42, u43, u44, u45, u46, u47, u48, u49, u50, u51, u52, u53, u54, u55, u56, u57, u58, u59, u60, u61, u62, u63, u64, u65, u66, u67, u68, u69, u70, u71, u72, u73, u74, u75, u76, u77, u78, u79, u80, u81, u82, u83, u84, u85, u86, u87, u88, u89, u90, u91, u92, u93, u94, u95, u96, u97, u98, u99, u100, u101, u102, u103, u104, u105, u106, u107, u108, u109, u110, u111, u112, u113, u114, u115, u116, u117, u118, u119, u120, u121, u122, u123, u124, u125, u126, u127, u128, u129, u130, u131, u132, u133, u134, u135, u136], []⟩ w1 := by
  conv => arg 2; whnf
  have HE := toHid hE
  have H0 := toHid hb
  have sz0 := hb.size
  clear hE hb
  by_cases hc0 : cut < 0
  · go_wp2_with fail
    go_ret
    exact ⟨rfl, H0.out⟩
  · by_cases hc1 : (N : Int) < cut
    · go_wp2_with fail
      go_ret
      exact ⟨rfl, H0.out⟩
    · obtain ⟨c, rfl⟩ : ∃ c : Nat, cut = (c : Int) := ⟨cut.toNat, by omega⟩
      go_wp2_with fail
      rename_i Kc hKc
      have HKc := toHid hKc
      clear hKc
      go_loopg [7] N (fun g i wr => ∃ k : Nat, k ≤ N ∧ g = N - k ∧ i = .int .i64 k ∧ Below w1.heap.size w1 wr ∧ ∀ q, q < k → 0 ≤ W q)
      case atStart => exact ⟨0, Nat.zero_le _, rfl, rfl, Below.refl _ _, fun q hq => absurd hq (Nat.not_lt_zero _)⟩
      case round =>
        obtain ⟨k, hk, rfl, rfl, hbr, hq⟩ := hrel
        have HBr := toHid hbr
        have HQ := toHid hq
        by_cases hlt : k < N
        · have hlt' : (k : Int) < (N : Int) := by omega
          obtain ⟨b, o, ea, lb, cb⟩ := HE.out.at (n := N) (by omega)
          subst ea
          obtain ⟨z0, z1⟩ := cb k hlt
          have y1 := (hbr.cell (p := ⟨b, o + k * 2 + 1, none⟩) lb).trans z1
          have lb' : b < wr.heap.size := Nat.lt_of_lt_of_le lb hbr.size
          clear z0 z1 cb hbr hq
          by_cases hw : W k < 0
          · go_wp2_with fail
            go_ret
            exact ⟨rfl, H0.out.trans (HBr.out.mono sz0)⟩
          · go_wp2_with fail
            go_roundg (N - (k + 1))
            case measure => omega
            case rel =>
              refine ⟨k + 1, by omega, rfl, by go_num, HBr.out, fun q hq => ?_⟩
              by_cases e : q = k
              · subst e; omega
              · exact HQ.out q (by omega)
        · have hkn : k = N := by omega
          subst hkn
          clear hbr hq
          go_wp2_with fail
          refine HKc.out _ _ ?_
          obtain ⟨n0, n1, n2, A0, A1, A2, W0, W1, W2, S0, S1, S2, hP⟩ := plan k c hN (by omega) A W HQ.out
          exact segD1 k cap c n0 n1 n2 a A W A0 A1 A2 W0 W1 W2 S0 S1 S2 w0 wr hP hcap (H0.out.trans (HBr.out.mono sz0)) (HE.out.below HBr.out)

set_option maxRecDepth 1000000 in
set_option maxHeartbeats 8000000 in
theorem main3 (N cap : Nat) (cut : Int) (a : Option Addr) (A : Nat → ByteArray) (W : Nat → Int) (w : World) (hcap : N ≤ cap) (hE : Es w a N A W) :
    Calls Tryf.prog 3 #[.slice a N cap, .int .i64 cut] w fun e w' => MainPost w e w' := by
  have HY := toHid (bytes4 N cap (.int .i64 cut) a A W w hE)
  have HE := toHid hE
  clear hE
  go_enter Tryf.func3, Tryf.ntmps3
  by_cases hbig : 4096 < N
  · have hbig' : 4096 < (N : Int) := by omega
    go_wp2_with (go_at_call 4; refine HY.out.mono ?_; rintro e w1 ⟨B, rfl, hb1⟩; have H1 := toHid hb1; clear hb1; cases B)
    all_goals
      go_ret
      exact ⟨rfl, H1.out⟩
  · have hbig' : ¬ 4096 < (N : Int) := by omega
    go_wp2_with (go_at_call 4; refine HY.out.mono ?_; rintro e w1 ⟨B, rfl, hb1⟩; have H1 := toHid hb1; clear hb1; cases B)
    · go_ret
      exact ⟨rfl, H1.out⟩
    · rename_i Kc hKc
      have HKc := toHid hKc
      clear hKc
      have hE1 := HE.out.below H1.out
      have HE1 := toHid hE1
      have sz1 := H1.out.size
      clear hE1
      go_loopg [5, 6] N (fun g z i wr => ∃ k : Nat, ∃ n : Int, k ≤ N ∧ g = N - k ∧ i = .int .i64 k ∧ z = .int .i64 n ∧ Below w1.heap.size w1 wr)
      case atStart => exact ⟨0, 0, Nat.zero_le _, rfl, rfl, rfl, Below.refl _ _⟩
      case round =>
        obtain ⟨k, n, hk, rfl, rfl, rfl, hbr⟩ := hrel
        have HBr := toHid hbr
        by_cases hlt : k < N
        · have hlt' : (k : Int) < (N : Int) := by omega
          obtain ⟨b, o, ea, lb, cb⟩ := HE1.out.at (n := N) (by omega)
          subst ea
          obtain ⟨z0, z1⟩ := cb k hlt
          have y0 := (hbr.cell (p := ⟨b, o + k * 2, none⟩) lb).trans z0
          have lb' : b < wr.heap.size := Nat.lt_of_lt_of_le lb hbr.size
          clear z0 z1 cb hbr
          go_wp2_with fail
          · go_ret
            exact ⟨rfl, H1.out.trans (HBr.out.mono sz1)⟩
          · go_roundg (N - (k + 1))
            case measure => omega
            case rel => exact ⟨k + 1, _, by omega, rfl, by go_num, rfl, HBr.out⟩
        · have hkn : k = N := by omega
          subst hkn
          clear hbr
          go_wp2_with fail
          refine HKc.out _ _ ?_
          exact segB k cap cut a A W w wr (by omega) hcap (H1.out.trans (HBr.out.mono sz1)) (HE1.out.below HBr.out)

end Go.Proofs.Qxb6615931aFmt
