import Derived.Test.Qxb6615931aFmtJoin
import Derived.Test.Qxb6615931aFmtSegE
namespace Go.Proofs.Qxb6615931aFmt
open Go.RowKit

def PartQ (w : World) (n0 : Nat) (A0 : Nat → ByteArray) (W0 : Nat → Int) (S0 : Nat → ByteArray) (e : Ending) (w' : World) : Prop :=
  ∃ a c, e = .returned (.tuple #[.slice a n0 c, .nilIface]) ∧ BT w' a n0 A0 W0 S0 ∧ Below w.heap.size w w'

/-- n0 entries A0, W0, S0 are the participants of the N entries A, W, S. -/
structure Stand (N : Nat) (A : Nat → ByteArray) (W : Nat → Int) (S : Nat → ByteArray) (n0 : Nat) (A0 : Nat → ByteArray) (W0 : Nat → Int) (S0 : Nat → ByteArray) : Prop where
  len : (Pl.sel (key A) W N).length = n0
  a : ∀ q, q < n0 → via A (Pl.sel (key A) W N) q = A0 q
  w : ∀ q, q < n0 → via W (Pl.sel (key A) W N) q = W0 q
  s : ∀ q, q < n0 → via S (Pl.sel (key A) W N) q = S0 q

theorem parts_to (N cap n0 : Nat) (a : Option Addr) (A : Nat → ByteArray) (W : Nat → Int) (S : Nat → ByteArray) (A0 : Nat → ByteArray) (W0 : Nat → Int) (S0 : Nat → ByteArray) (w : World) (hN : N ≤ 1048576) (hB : BT w a N A W S) (ha : ∀ x, a = some x → x.block < w.heap.size) (hW : ∀ i, i < N → 0 ≤ W i) (hS : Stand N A W S n0 A0 W0 S0) :
    Calls Tryf.prog 5 #[.slice a N cap] w fun e w' => PartQ w n0 A0 W0 S0 e w' := by
  refine (parts N cap a A W S w hN hB ha hW).mono ?_
  rintro e w' ⟨a', c', h1, h2, h3⟩
  rw [hS.len] at h1 h2
  exact ⟨a', c', h1, h2.congr hS.a hS.w hS.s, h3⟩

theorem make38z (n : Nat) (z : Int) (hz : z = (n : Int)) (hn : n ≤ 1048576) (w : World) : (Instr.makeSlice 26 (.int .i64 0) (.int .i64 z)).run Tryf.prog w = .ok (.slice (some ⟨w.heap.size, 0, none⟩) 0 n) (fresh38 w n) := by
  subst hz; exact make38 n hn w

set_option maxRecDepth 1000000 in
set_option maxHeartbeats 8000000 in
theorem segD4 {u1 u2 u3 u4 u5 u6 u7 u14 u15 u16 u17 u18 u19 u20 u21 u22 u23 u24 u25 u26 u27 u28 u29 u30 u31 u32 u33 u34 u35 u36 u37 u38 u39 u40 u41 u42 u43 u44 u45 u46 u47 u48 u49 u50 u51 u52 u53 u54 u55 u56 u57 u58 u59 u60 u61 u62 u63 u64 u65 u66 u67 u68 u69 u70 u71 u72 u73 u74 u75 u76 u77 u78 u79 u80 u81 u82 u83 u84 u85 u86 u87 u88 u89 u90 u91 u92 u93 u94 u95 u96 u97 u98 u99 u100 u101 u102 u103 u104 u105 u106 u107 u108 u109 u110 u111 u112 u113 u114 u115 u116 u117 u118 u119 u120 u121 u122 u123 u124 u125 u126 u127 u128 u129 u130 u131 u132 u133 u134 u135 u136 : Value} (N cap n0 n1 n2 c1 c2 c3 : Nat) (a a1 a2 a3 : Option Addr) (A : Nat → ByteArray) (W : Nat → Int) (A0 A1 A2 : Nat → ByteArray) (W0 W1 W2 : Nat → Int) (S0 S1 S2 : Nat → ByteArray) (w0 w1 : World) (hN : N ≤ 4096) (hM : n0 = fstTo A W N) (hn : n1 + n2 ≤ 1048576)
    (hW : ∀ q, q < n1 + n2 → 0 ≤ glue W1 W2 n1 q) (hS : Stand (n1 + n2) (glue A1 A2 n1) (glue W1 W2 n1) (glue S1 S2 n1) n0 A0 W0 S0)
    (hb : Below w0.heap.size w0 w1) (hE : Es w1 a N A W) (h0 : BT w1 a1 n0 A0 W0 S0) (h1 : BT w1 a2 n1 A1 W1 S1) (h2 : BT w1 a3 n2 A2 W2 S2) :
    Code.wp Tryf.prog (restAfter 10 (Tryf.f3.body.getD .skip)) (bodyPost Tryf.prog Tryf.f3 fun e w' => MainPost w0 e w') ⟨#[.slice a N cap, u1, u2, u3, u4, u5, u6, u7, .slice a1 n0 c1, .nilIface, .slice a2 n1 c2, .nilIface, .slice a3 n2 c3, .nilIface, u14, u15, u16, u17, u18, u19, u20, u21, u22, u23, u24, u25, u26, u27, u28, u29, u30, u31, u32, u33, u34, u35, u36, u37, u38, u39, u40, u41, u42, u43, u44, u45, u46, u47, u48, u49, u50, u51, u52, u53, u54, u55, u56, u57, u58, u59, u60, u61, u62, u63, u64, u65, u66, u67, u68, u69, u70, u71, u72, u73, u74, u75, u76, u77, u78, u79, u80, u81, u82, u83, u84, u85, u86, u87, u88, u89, u90, u91, u92, u93, u94, u95, u96, u97, u98, u99, u100, u101, u102, u103, u104, u105, u106, u107, u108, u109, u110, u111, u112, u113, u114, u115, u116, u117, u118, u119, u120, u121, u122, u123, u124, u125, u126, u127, u128, u129, u130, u131, u132, u133, u134, u135, u136], []⟩ w1 := by
  conv => arg 2; whnf
  obtain ⟨T1, b1, t1⟩ := h1
  obtain ⟨T2, b2, t2⟩ := h2
  have HM := toHid hM
  have HE := toHid hE
  have H0 := toHid hb
  have HB0 := toHid h0
  have HB1 := toHid b1
  have HB2 := toHid b2
  have HT1 := toHid t1
  have HT2 := toHid t2
  have HW := toHid hW
  have HS := toHid hS
  have sz0 := hb.size
  have hmk := make38z (n1 + n2) ((n1 : Int) + (n2 : Int)) (by omega) hn
  have HF := toHid (fresh38_owns w1 w1.heap.size (n1 + n2) (Nat.le_refl _) hn)
  have HFb := toHid (fresh38_below w1 (n1 + n2))
  have szf : w1.heap.size ≤ (fresh38 w1 (n1 + n2)).heap.size := (fresh38_below w1 (n1 + n2)).size
  clear hM hE hb h0 b1 b2 t1 t2 hW hS
  go_wp2_with (first
    | (at_builtin; refine wpList_append_bt rfl (.tmp 92) (.tmp 93) rfl w1.heap.size (.slice (some ⟨w1.heap.size, 0, none⟩) 0 (n1 + n2)) 0 [] rfl HF.out a2 n1 c2 A1 W1 T1 rfl (Cells.below HB1.out HFb.out (Nat.le_refl _)) (by omega) szf ?_; intro v3 w3 q1 q2; have Q1 := toHid q1; have Q2 := toHid (HFb.out.trans q2); clear q1 q2)
    | (at_builtin; refine wpList_append_bt rfl (.tmp 95) (.tmp 96) rfl w1.heap.size v3 (0 + n1) _ rfl Q1.out a3 n2 c3 A2 W2 T2 rfl (Cells.below HB2.out Q2.out (Nat.le_refl _)) (by omega) Q2.out.size ?_; intro v4 w4 q3 q4; have R2 := toHid (Q2.out.trans q4); obtain ⟨a4, c4, e4, hB4, hx4⟩ := joined_bt (by simpa using q3) (HT1.out.below R2.out) (HT2.out.below R2.out); have HB4 := toHid hB4; have HX4 := toHid hx4; clear q3 q4 hB4 hx4; subst e4)
    | (go_at_call 5; rename_i Kc hKc K2 hK2; have HKc := toHid hKc; clear hKc; refine (parts_to (n1 + n2) c4 n0 a4 _ _ _ A0 W0 S0 w4 hn HB4.out HX4.out HW.out HS.out).mono ?_; rintro e w5 ⟨a5, c5, rfl, hB5, hb5⟩; have HB5 := toHid hB5; have H5 := toHid hb5; clear hB5 hb5))
  refine HKc.out _ _ ?_
  have R : Below w1.heap.size w1 w5 := R2.out.trans (H5.out.mono R2.out.size)
  exact segE N cap n0 c1 c5 a a1 a5 A W A0 W0 S0 w0 w5 hN HM.out (H0.out.trans (R.mono sz0)) (HE.out.below R) (HB0.out.below R) HB5.out

end Go.Proofs.Qxb6615931aFmt
