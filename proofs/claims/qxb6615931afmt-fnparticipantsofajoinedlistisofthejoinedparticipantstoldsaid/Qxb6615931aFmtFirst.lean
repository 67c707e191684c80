import Derived.Test.Qxb6615931aFmtBacks
import Derived.Test.Qxb6615931aFmtPlain
import Derived.Lib.SlicesS
namespace Go.Proofs.Qxb6615931aFmt
open Go.RowKit

theorem below_drewN' {B : Nat} {a w : World} (h : Below B a w) (n : Nat) : Below B a (w.drewN n) := ⟨h.os, h.tape, h.output, h.size, h.block⟩

/-- Is entry i the first of its address, of positive weight? -/
def fstB (A : Nat → ByteArray) (W : Nat → Int) (i : Nat) : Bool := decide (0 < W i) && (List.range i).all fun j => decide (¬ (0 < W j ∧ key A j = key A i))

theorem fstB_iff (A : Nat → ByteArray) (W : Nat → Int) (i : Nat) : fstB A W i = true ↔ Pl.Fst (key A) W i := by
  simp only [fstB, Pl.Fst, Bool.and_eq_true, decide_eq_true_eq, List.all_eq_true, List.mem_range]

theorem key_eq (A : Nat → ByteArray) (i j : Nat) : key A i = key A j ↔ A i = A j := by
  unfold key
  constructor
  · intro h
    exact ByteArray.ext (Array.toList_inj.1 h)
  · intro h; rw [h]

theorem fstB_no_weight {A : Nat → ByteArray} {W : Nat → Int} {i : Nat} (h : W i ≤ 0) : fstB A W i = false := by
  rw [← Bool.not_eq_true, fstB_iff]
  exact fun f => absurd f.1 (by omega)
theorem fstB_earlier {A : Nat → ByteArray} {W : Nat → Int} {i j : Nat} (hj : j < i) (hw : 0 < W j) (h : A j = A i) : fstB A W i = false := by
  rw [← Bool.not_eq_true, fstB_iff]
  exact fun f => f.2 j hj ⟨hw, (key_eq A j i).2 h⟩
theorem fstB_yes {A : Nat → ByteArray} {W : Nat → Int} {i : Nat} (hw : 0 < W i) (h : ∀ j, j < i → ¬ (0 < W j ∧ A j = A i)) : fstB A W i = true :=
  (fstB_iff A W i).2 ⟨hw, fun j hj f => h j hj ⟨f.1, (key_eq A j i).1 f.2⟩⟩

def FirstPost (w : World) (A : Nat → ByteArray) (W : Nat → Int) (i : Nat) (e : Ending) (w' : World) : Prop := e = .returned (.bool (fstB A W i)) ∧ Below w.heap.size w w'

set_option maxRecDepth 1000000 in
set_option maxHeartbeats 8000000 in
theorem first7 (N cap i : Nat) (a : Option Addr) (A : Nat → ByteArray) (W : Nat → Int) (w : World) (hn : N ≤ 1048576) (hi : i < N) (hE : Es w a N A W) :
    Calls Tryf.prog 7 #[.slice a N cap, .int .i64 (i : Int)] w fun e w' => FirstPost w A W i e w' := by
  obtain ⟨b, o, ea, lb, cb⟩ := hE.at (n := N) (by omega)
  subst ea
  obtain ⟨x0, x1⟩ := cb i hi
  have hi' : (i : Int) < (N : Int) := by omega
  have HC := toHid cb
  clear cb hE
  go_enter Tryf.func7, Tryf.ntmps7
  by_cases hw : W i ≤ 0
  · go_wp2_with fail
    go_ret
    exact ⟨by rw [fstB_no_weight hw]; rfl, Below.refl _ _⟩
  · go_wp2_with fail
    go_loopg [5] i (fun g j wr => ∃ k : Nat, k ≤ i ∧ g = i - k ∧ j = .int .i64 k ∧ Below w.heap.size w wr ∧ ∀ q, q < k → ¬ (0 < W q ∧ A q = A i))
    case atStart => exact ⟨0, Nat.zero_le _, rfl, rfl, Below.refl _ _, fun q hq => absurd hq (Nat.not_lt_zero _)⟩
    case round =>
      obtain ⟨k, hk, rfl, rfl, hbr, hq⟩ := hrel
      have HBr := toHid hbr
      have HQ := toHid hq
      have y0 := (hbr.cell (p := ⟨b, o + i * 2, none⟩) lb).trans x0
      have y1 := (hbr.cell (p := ⟨b, o + i * 2 + 1, none⟩) lb).trans x1
      have lb' : b < wr.heap.size := Nat.lt_of_lt_of_le lb hbr.size
      by_cases hlt : k < i
      · have hlt' : (k : Int) < (i : Int) := by omega
        have hkN : (k : Int) < (N : Int) := by omega
        obtain ⟨z0, z1⟩ := HC.out k (by omega)
        have v0 := (hbr.cell (p := ⟨b, o + k * 2, none⟩) lb).trans z0
        have v1 := (hbr.cell (p := ⟨b, o + k * 2 + 1, none⟩) lb).trans z1
        clear z0 z1 hbr hq x0 x1
        by_cases hwk : 0 < W k
        · by_cases he : A k = A i
          · have he' := toHid he
            rw [he] at v0
            clear he
            go_wp2_with fail
            go_quiet (fail)
            go_wp2_with fail
            go_ret
            exact ⟨by rw [fstB_earlier hlt hwk he'.out]; rfl, below_drewN' HBr.out _⟩
          · have he' := toHid he
            have heb : ((A k).toList == (A i).toList) = false := (Lib.bytes_beq_false_iff _ _).2 he
            clear he
            go_wp2_with fail
            go_quiet (fail)
            go_wp2_with fail
            go_roundg (i - (k + 1))
            case measure => omega
            case rel =>
              refine ⟨k + 1, by omega, rfl, by go_num, below_drewN' HBr.out _, fun q hq => ?_⟩
              by_cases e : q = k
              · subst e; exact fun f => he'.out f.2
              · exact HQ.out q (by omega)
        · go_wp2_with fail
          have hwb : decide (0 < W k) = false := decide_eq_false (by omega)
          go_quiet (fail)
          go_wp2_with fail
          go_roundg (i - (k + 1))
          case measure => omega
          case rel =>
            refine ⟨k + 1, by omega, rfl, by go_num, below_drewN' HBr.out _, fun q hq => ?_⟩
            by_cases e : q = k
            · subst e; exact fun f => by omega
            · exact HQ.out q (by omega)
      · have hkn : k = i := by omega
        subst hkn
        clear hbr hq
        go_wp2_with fail
        go_ret
        exact ⟨by rw [fstB_yes (by omega) HQ.out]; rfl, HBr.out⟩

end Go.Proofs.Qxb6615931aFmt
