import Derived.Test.Qxb6615931aFmtPartA
namespace Go.Proofs.Qxb6615931aFmt
open Go.RowKit

set_option maxRecDepth 1000000 in
set_option maxHeartbeats 8000000 in
theorem check9 (N cap : Nat) (a : Option Addr) (A : Nat → ByteArray) (W : Nat → Int) (Tg : Nat → Option Nat) (w : World) (hN : N ≤ 1048576) (hB : Bks w a N A W Tg) (hW : ∀ i, i < N → 0 ≤ W i) :
    Calls Tryf.prog 9 #[.slice a N cap] w fun e w' => e = .returned .nilIface ∧ Below w.heap.size w w' := by
  go_enter Tryf.func9, Tryf.ntmps9
  have HB := toHid hB
  have HW := toHid hW
  clear hB hW
  go_wp2_with fail
  go_loopg [7] N (fun g i wr => ∃ k : Nat, k ≤ N ∧ g = N - k ∧ i = .int .i64 k ∧ Below w.heap.size w wr)
  case atStart => exact ⟨0, Nat.zero_le _, rfl, rfl, Below.refl _ _⟩
  case round =>
    obtain ⟨k, hk, rfl, rfl, hbr⟩ := hrel
    have HBr := toHid hbr
    by_cases hlt : k < N
    · have hlt' : (k : Int) < (N : Int) := by omega
      obtain ⟨b, o, ea, lb, cb⟩ := HB.out.at (n := N) (by omega)
      subst ea
      obtain ⟨z0, z1, z2, z3⟩ := cb k hlt
      have lb' : b < wr.heap.size := Nat.lt_of_lt_of_le lb hbr.size
      have y0 := (hbr.cell (p := ⟨b, o + k * 4, none⟩) lb).trans z0
      have y1 := (hbr.cell (p := ⟨b, o + k * 4 + 1, none⟩) lb).trans z1
      have y2 := (hbr.cell (p := ⟨b, o + k * 4 + 2, none⟩) lb).trans z2
      have y3 := (hbr.cell (p := ⟨b, o + k * 4 + 3, none⟩) lb).trans z3
      have hw : ¬ W k < 0 := by have := HW.out k hlt; omega
      clear z0 z1 z2 z3 cb hbr
      go_wp2_with fail
      go_roundg (N - (k + 1))
      case measure => omega
      case rel => exact ⟨k + 1, by omega, rfl, by go_num, HBr.out.alloc HBr.out.size _⟩
    · have hkn : k = N := by omega
      subst hkn
      clear hbr
      go_wp2_with fail
      go_ret
      exact ⟨rfl, HBr.out⟩

/-- What Participants hands back, with its error. -/
def PartPost5 (w : World) (N : Nat) (A : Nat → ByteArray) (W : Nat → Int) (Tg : Nat → Option Nat) (e : Ending) (w' : World) : Prop :=
  ∃ a c, e = .returned (.tuple #[.slice a (Pl.sel (key A) W N).length c, .nilIface]) ∧ Bks w' a (Pl.sel (key A) W N).length (via A (Pl.sel (key A) W N)) (via W (Pl.sel (key A) W N)) (via Tg (Pl.sel (key A) W N)) ∧ Below w.heap.size w w'

set_option maxRecDepth 1000000 in
set_option maxHeartbeats 8000000 in
theorem participants5 (N cap : Nat) (a : Option Addr) (A : Nat → ByteArray) (W : Nat → Int) (Tg : Nat → Option Nat) (w : World) (hN : N ≤ 1048576) (hB : Bks w a N A W Tg) (ha : ∀ x, a = some x → x.block < w.heap.size) (hW : ∀ i, i < N → 0 ≤ W i) :
    Calls Tryf.prog 5 #[.slice a N cap] w fun e w' => PartPost5 w N A W Tg e w' := by
  go_enter Tryf.func5, Tryf.ntmps5
  have HC := toHid (check9 N cap a A W Tg w hN hB hW)
  have HB := toHid hB
  have HA := toHid ha
  clear hB hW ha
  go_wp2_with (first
    | (go_at_call 9; refine HC.out.mono ?_; rintro e w1 ⟨rfl, hb1⟩; have H1 := toHid hb1; clear hb1)
    | (go_at_call 10; refine (participants10 N cap a A W Tg _ hN (Cells.below HB.out H1.out (Nat.le_refl _)) (fun x hx => Nat.lt_of_lt_of_le (HA.out x hx) H1.out.size)).mono ?_; rintro e w2 ⟨a2, c2, rfl, hB2, hb2⟩; have H2 := toHid hb2; have HB2 := toHid hB2; clear hb2 hB2))
  go_ret2
  exact ⟨a2, c2, rfl, HB2.out, H1.out.trans (H2.out.mono H1.out.size)⟩

end Go.Proofs.Qxb6615931aFmt
