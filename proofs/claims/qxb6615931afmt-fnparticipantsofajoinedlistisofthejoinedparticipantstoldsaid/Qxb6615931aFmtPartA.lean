import Derived.Test.Qxb6615931aFmtPartB1
namespace Go.Proofs.Qxb6615931aFmt
open Go.RowKit

theorem ord_step {W : Nat → Int} {k base : Nat} {v : Value} {w : World} (hst : 0 < W k) (h : w.ownsRow base 3 1 v ((pos W k).length + 1) (ints (pos W k) ++ [.int .i64 (k : Int)])) : w.ownsRow base 3 1 v (pos W (k + 1)).length (ints (pos W (k + 1))) := by
  rw [pos_succ, if_pos hst]
  simpa [ints] using h
theorem ord_skip {W : Nat → Int} {k base : Nat} {v : Value} {w : World} (hst : ¬ 0 < W k) (h : w.ownsRow base 3 1 v (pos W k).length (ints (pos W k))) : w.ownsRow base 3 1 v (pos W (k + 1)).length (ints (pos W (k + 1))) := by
  rw [pos_succ, if_neg hst]
  exact h

set_option maxRecDepth 1000000 in
set_option maxHeartbeats 8000000 in
theorem participants10 (N cap : Nat) (a : Option Addr) (A : Nat → ByteArray) (W : Nat → Int) (Tg : Nat → Option Nat) (w : World) (hN : N ≤ 1048576) (hB : Bks w a N A W Tg) (ha : ∀ x, a = some x → x.block < w.heap.size) :
    Calls Tryf.prog 10 #[.slice a N cap] w fun e w' => PartPost w N A W Tg e w' := by
  go_enter Tryf.func10, Tryf.ntmps10
  have hmk := make3 N hN
  have HB := toHid hB
  have HA := toHid ha
  have hb1 : Below w.heap.size w (w.alloc (.cells #[.slice a N cap] 26)) := (Below.refl _ _).alloc (Nat.le_refl _) _
  have hxf : (fresh3 (w.alloc (.cells #[.slice a N cap] 26)) N).cell? ⟨w.heap.size, 0, none⟩ = some (.slice a N cap) := ((fresh3_below (w.alloc (.cells #[.slice a N cap] 26)) N).cell (p := ⟨w.heap.size, 0, none⟩) (by simp)).trans (by go_simp)
  have Hb1 := toHid (hb1.trans ((fresh3_below (w.alloc (.cells #[.slice a N cap] 26)) N).mono (by simp)))
  have HO : Hid ((fresh3 (w.alloc (.cells #[.slice a N cap] 26)) N).ownsRow (w.heap.size + 1) 3 1 (.slice (some ⟨w.heap.size + 1, 0, none⟩) 0 N) 0 []) := by
    have h := fresh3_owns (w.alloc (.cells #[.slice a N cap] 26)) (w.heap.size + 1) N (by simp) hN
    rwa [show (w.alloc (.cells #[.slice a N cap] 26)).heap.size = w.heap.size + 1 from by simp] at h
  clear hB ha hb1
  go_wp2_with fail
  clear hmk
  have hsz : w.heap.size + 1 < (fresh3 (w.alloc (.cells #[.slice a N cap] 26)) N).heap.size := by simp [fresh3]
  generalize fresh3 (w.alloc (.cells #[.slice a N cap] 26)) N = w1 at *
  rename_i Kc hKc
  have HKc := toHid hKc
  clear hKc
  go_loopg [3, 18] N (fun g v i wr => ∃ k : Nat, k ≤ N ∧ g = N - k ∧ i = .int .i64 k ∧ Below (w.heap.size + 1) w1 wr ∧ wr.ownsRow (w.heap.size + 1) 3 1 v (pos W k).length (ints (pos W k)))
  case atStart => exact ⟨0, Nat.zero_le _, rfl, rfl, Below.refl _ _, HO.out⟩
  case round =>
    obtain ⟨k, hk, rfl, rfl, hbr, hown⟩ := hrel
    have HBr := toHid hbr
    have HOr := toHid hown
    have szr := hbr.size
    have hx' : wr.cell? ⟨w.heap.size, 0, none⟩ = some (.slice a N cap) := (hbr.cell (p := ⟨w.heap.size, 0, none⟩) (Nat.lt_succ_self _)).trans hxf
    have hBw : Below w.heap.size w wr := Hb1.out.trans (hbr.mono (Nat.le_succ _))
    have HBw := toHid hBw
    clear hbr hown
    by_cases hlt : k < N
    · have hlt' : (k : Int) < (N : Int) := by omega
      obtain ⟨b, o, ea, lb, cb⟩ := HB.out.at (n := N) (by omega)
      subst ea
      obtain ⟨z0, z1, z2, z3⟩ := cb k hlt
      have lb' : b < wr.heap.size := Nat.lt_of_lt_of_le lb hBw.size
      have y0 := (hBw.cell (p := ⟨b, o + k * 4, none⟩) lb).trans z0
      have y1 := (hBw.cell (p := ⟨b, o + k * 4 + 1, none⟩) lb).trans z1
      have y2 := (hBw.cell (p := ⟨b, o + k * 4 + 2, none⟩) lb).trans z2
      have y3 := (hBw.cell (p := ⟨b, o + k * 4 + 3, none⟩) lb).trans z3
      clear z0 z1 z2 z3 cb hBw
      have HL := toHid (pos_len W k)
      have up1 : Below (w.heap.size + 1) wr (wr.alloc (.cells #[.string (A k), .int .i64 (W k), .map (Tg k), .nilIface] 38)) := (Below.refl _ _).alloc (by omega) _
      have U1 := toHid up1
      clear up1
      by_cases hst : 0 < W k
      · have HST := toHid hst
        go_wp2_with (at_builtin; refine wpList_append_int rfl (.tmp 26) (.tmp 28) rfl (w.heap.size + 1) u3 _ _ rfl (owns_below HOr.out (((Below.refl _ _).alloc (Nat.le_refl _) _).alloc (by simp) _) (Nat.le_refl _)) (wr.heap.size + 1) 1 (k : Int) rfl (by go_simp) (by have := HL.out; omega) (by simp; omega) ?_; intro v' w3 q1 q2)
        have Q1 := toHid q1
        have Q2 := toHid (U1.out.trans (((Below.refl (w.heap.size + 1) _).alloc (by simp; omega) _).trans q2))
        clear q1 q2
        go_wp2_with fail
        go_roundg (N - (k + 1))
        case measure => omega
        case rel => exact ⟨k + 1, by omega, rfl, by go_num, HBr.out.trans Q2.out, ord_step HST.out Q1.out⟩
      · go_wp2_with fail
        go_roundg (N - (k + 1))
        case measure => omega
        case rel => exact ⟨k + 1, by omega, rfl, by go_num, HBr.out.trans U1.out, ord_skip (by omega) (owns_below HOr.out ((Below.refl _ _).alloc (Nat.le_refl _) _) (Nat.le_refl _))⟩
    · have hkn : k = N := by omega
      subst hkn
      clear hBw
      go_wp2_with fail
      refine HKc.out _ _ ?_
      exact partB1 k w.heap.size cap a _ A W Tg w wr hN HBw.out (Nat.le_succ _) (by omega) hx' (Cells.below HB.out HBw.out (Nat.le_refl _)) HA.out HOr.out

end Go.Proofs.Qxb6615931aFmt
