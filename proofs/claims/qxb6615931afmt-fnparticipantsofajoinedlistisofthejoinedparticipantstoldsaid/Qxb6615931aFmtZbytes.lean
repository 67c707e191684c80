import Derived.Test.Qxb6615931aFmtBacks
namespace Go.Proofs.Qxb6615931aFmt
open Go.RowKit

def BytesPost (w : World) (e : Ending) (w' : World) : Prop := ∃ B : Bool, e = .returned (.bool B) ∧ Below w.heap.size w w'

set_option maxRecDepth 1000000 in
set_option maxHeartbeats 8000000 in
theorem bytes4 (N cap : Nat) (c : Value) (a : Option Addr) (A : Nat → ByteArray) (W : Nat → Int) (w : World) (hE : Es w a N A W) :
    Calls Tryf.prog 4 #[.slice a N cap, c] w fun e w' => BytesPost w e w' := by
  have HE := toHid hE
  clear hE
  go_enter Tryf.func4, Tryf.ntmps4
  by_cases hbig : 1048576 < N
  · have hbig' : 1048576 < (N : Int) := by omega
    go_wp2_with fail
    go_ret
    exact ⟨false, rfl, Below.refl _ _⟩
  · have hbig' : ¬ 1048576 < (N : Int) := by omega
    go_wp2_with fail
    go_loopg [5, 6] N (fun g z i wr => ∃ k n : Nat, k ≤ N ∧ n ≤ 1048576 ∧ g = N - k ∧ i = .int .i64 k ∧ z = .int .i64 n ∧ Below w.heap.size w wr)
    case atStart => exact ⟨0, N, Nat.zero_le _, by omega, rfl, rfl, rfl, Below.refl _ _⟩
    case round =>
      obtain ⟨k, n, hk, hn, rfl, rfl, rfl, hbr⟩ := hrel
      have HBr := toHid hbr
      by_cases hlt : k < N
      · have hlt' : (k : Int) < (N : Int) := by omega
        obtain ⟨b, o, ea, lb, cb⟩ := HE.out.at (n := N) (by omega)
        subst ea
        obtain ⟨z0, z1⟩ := cb k hlt
        have y0 := (hbr.cell (p := ⟨b, o + k * 2, none⟩) lb).trans z0
        have y1 := (hbr.cell (p := ⟨b, o + k * 2 + 1, none⟩) lb).trans z1
        have lb' : b < wr.heap.size := Nat.lt_of_lt_of_le lb hbr.size
        clear z0 z1 cb hbr
        by_cases h1 : 1048576 < (A k).size
        · have h1' : 1048576 < ((A k).size : Int) := by omega
          go_wp2_with fail
          go_ret
          exact ⟨false, rfl, HBr.out⟩
        · have h1' : ¬ 1048576 < ((A k).size : Int) := by omega
          by_cases h2 : 1048576 < n + (A k).size
          · have h2' : 1048576 < (n : Int) + ((A k).size : Int) := by omega
            go_wp2_with fail
            go_ret
            exact ⟨false, rfl, HBr.out⟩
          · have h2' : ¬ 1048576 < (n : Int) + ((A k).size : Int) := by omega
            go_wp2_with fail
            go_roundg (N - (k + 1))
            case measure => omega
            case rel => exact ⟨k + 1, n + (A k).size, by omega, by omega, rfl, by go_num, by go_num, HBr.out⟩
      · have hkn : k = N := by omega
        subst hkn
        clear hbr
        go_wp2_with fail
        go_ret
        exact ⟨true, rfl, HBr.out⟩

end Go.Proofs.Qxb6615931aFmt
