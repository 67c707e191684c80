import Derived.Test.Qxb6615931aFmtTold
namespace Go.Proofs.Qxb6615931aFmt
open Go.RowKit

def MainPost (w : World) (e : Ending) (w' : World) : Prop := e = .returned (.bool true) ∧ Below w.heap.size w w'

/-- The first entries of their addresses below k. -/
def fstTo (A : Nat → ByteArray) (W : Nat → Int) (k : Nat) : Nat := ((List.range k).filter (fstB A W)).length
theorem fstTo_succ (A : Nat → ByteArray) (W : Nat → Int) (k : Nat) : fstTo A W (k + 1) = if fstB A W k = true then fstTo A W k + 1 else fstTo A W k := by
  unfold fstTo
  rw [List.range_succ, List.filter_append]
  by_cases h : fstB A W k = true <;> simp [h]
theorem fstTo_le (A : Nat → ByteArray) (W : Nat → Int) (k : Nat) : fstTo A W k ≤ k := Nat.le_trans (List.length_filter_le _ _) (by simp)
theorem fstTo_all (A : Nat → ByteArray) (W : Nat → Int) (n : Nat) : fstTo A W n = (Pl.sel (key A) W n).length := by
  rw [Pl.count_sel]
  rfl

set_option maxRecDepth 1000000 in
set_option maxHeartbeats 8000000 in
theorem segE {u1 u2 u3 u4 u5 u6 u7 u10 u12 u14 u17 u18 u19 u20 u21 u22 u23 u24 u25 u26 u27 u28 u29 u30 u31 u32 u33 u34 u35 u36 u37 u38 u39 u40 u41 u42 u43 u44 u45 u46 u47 u48 u49 u50 u51 u52 u53 u54 u55 u56 u57 u58 u59 u60 u61 u62 u63 u64 u65 u66 u67 u68 u69 u70 u71 u72 u73 u74 u75 u76 u77 u78 u79 u80 u81 u82 u83 u84 u85 u86 u87 u88 u89 u90 u91 u92 u93 u94 u95 u96 u97 u98 u99 u100 u101 u102 u103 u104 u105 u106 u107 u108 u109 u110 u111 u112 u113 u114 u115 u116 u117 u118 u119 u120 u121 u122 u123 u124 u125 u126 u127 u128 u129 u130 u131 u132 u133 u134 u135 u136 : Value} (N cap M c1 c2 : Nat) (a a1 a2 : Option Addr) (A : Nat → ByteArray) (W : Nat → Int) (A1 : Nat → ByteArray) (W1 : Nat → Int) (S1 : Nat → ByteArray) (w0 w1 : World) (hN : N ≤ 4096) (hM : M = fstTo A W N)
    (hb : Below w0.heap.size w0 w1) (hE : Es w1 a N A W) (h1 : BT w1 a1 M A1 W1 S1) (h2 : BT w1 a2 M A1 W1 S1) :
    Code.wp Tryf.prog (restAfter 14 (Tryf.f3.body.getD .skip)) (bodyPost Tryf.prog Tryf.f3 fun e w' => MainPost w0 e w') ⟨#[.slice a N cap, u1, u2, u3, u4, u5, u6, u7, .slice a1 M c1, .nilIface, u10, .nilIface, u12, .nilIface, u14, .slice a2 M c2, .nilIface, u17, u18, u19, u20, u21, u22, u23, u24, u25, u26, u27, u28, u29, u30, u31, u32, u33, u34, u35, u36, u37, u38, u39, u40, u41, u42, u43, u44, u45, u46, u47, u48, u49, u50, u51, u52, u53, u54, u55, u56, u57, u58, u59, u60, u61, u62, u63, u64, u65, u66, u67, u68, u69, u70, u71, u72, u73, u74, u75, u76, u77, u78, u79, u80, u81, u82, u83, u84, u85, u86, u87, u88, u89, u90, u91, u92, u93, u94, u95, u96, u97, u98, u99, u100, u101, u102, u103, u104, u105, u106, u107, u108, u109, u110, u111, u112, u113, u114, u115, u116, u117, u118, u119, u120, u121, u122, u123, u124, u125, u126, u127, u128, u129, u130, u131, u132, u133, u134, u135, u136], []⟩ w1 := by
  conv => arg 2; whnf
  have HM := toHid hM
  have HE := toHid hE
  have H0 := toHid hb
  have H1 := toHid h1
  have H2 := toHid h2
  have sz0 := hb.size
  clear hM hE hb h1 h2
  go_wp2_with fail
  rename_i Kc hKc
  have HKc := toHid hKc
  clear hKc
  go_loopg [17, 18] N (fun g n i wr => ∃ k : Nat, k ≤ N ∧ g = N - k ∧ i = .int .i64 k ∧ n = .int .i64 ((fstTo A W k : Nat) : Int) ∧ Below w1.heap.size w1 wr)
  case atStart => exact ⟨0, Nat.zero_le _, rfl, rfl, rfl, Below.refl _ _⟩
  case round =>
    obtain ⟨k, hk, rfl, rfl, rfl, hbr⟩ := hrel
    have HBr := toHid hbr
    have szr := hbr.size
    clear hbr
    by_cases hlt : k < N
    · have hlt' : (k : Int) < (N : Int) := by omega
      have hfl := fstTo_le A W k
      have HF := toHid (fstTo_succ A W k)
      have HEr := toHid (HE.out.below HBr.out)
      cases hf : fstB A W k
      · have Hf := toHid hf
        clear hf
        go_wp2_with (go_at_call 7; refine (first7 N cap k a A W _ (by omega) hlt HEr.out).mono ?_; rintro e w2 ⟨rfl, hb2⟩; rw [Hf.out]; have Hb2 := toHid hb2; clear hb2)
        go_roundg (N - (k + 1))
        case measure => omega
        case rel => exact ⟨k + 1, by omega, rfl, by go_num, by rw [HF.out, if_neg (by simp [Hf.out])], HBr.out.trans (Hb2.out.mono szr)⟩
      · have Hf := toHid hf
        clear hf
        go_wp2_with (go_at_call 7; refine (first7 N cap k a A W _ (by omega) hlt HEr.out).mono ?_; rintro e w2 ⟨rfl, hb2⟩; rw [Hf.out]; have Hb2 := toHid hb2; clear hb2)
        go_roundg (N - (k + 1))
        case measure => omega
        case rel => exact ⟨k + 1, by omega, rfl, by go_num, by rw [HF.out, if_pos Hf.out]; go_num, HBr.out.trans (Hb2.out.mono szr)⟩
    · have hkn : k = N := by omega
      subst hkn
      go_wp2_with fail
      refine HKc.out _ _ ?_
      clear HKc
      have hMN : M ≤ k := by rw [HM.out]; exact fstTo_le A W k
      have HS := toHid (same M c1 c2 a1 a2 A1 W1 S1 wr (by omega) (H1.out.below HBr.out) (H2.out.below HBr.out))
      rw [← HM.out]
      go_wp2_with (go_at_call 8; refine HS.out.mono ?_; rintro e w2 ⟨rfl, hb2⟩; have Hb2 := toHid hb2; clear hb2)
      go_ret
      exact ⟨rfl, (H0.out.trans (HBr.out.mono sz0)).trans (Hb2.out.mono (Nat.le_trans sz0 szr))⟩

end Go.Proofs.Qxb6615931aFmt
