import Derived.WalkKit
import Derived.WalkLawsBesides
import Derived.Deep.OwnRows
import Derived.Deep.LoopGhost
namespace Go.Proofs.Qxb6615969a
open Go.RowKit

/-- The n cells at a hold F 0, F 1, .. (nothing is asked of an empty row). -/
def Cells (w : World) (a : Option Addr) (n : Nat) (F : Nat → Value) : Prop :=
  0 < n → ∃ b o : Nat, a = some ⟨b, o, none⟩ ∧ b < w.heap.size ∧ ∀ i, i < n → w.cell? ⟨b, o + i, none⟩ = some (F i)

theorem Cells.below {w w' : World} {a : Option Addr} {n : Nat} {F : Nat → Value} (h : Cells w a n F) {B : Nat} (hb : Below B w w') (hB : w.heap.size ≤ B) : Cells w' a n F := by
  intro hn
  obtain ⟨b, o, ha, hlt, hc⟩ := h hn
  exact ⟨b, o, ha, Nat.lt_of_lt_of_le hlt hb.size, fun i hi => by rw [hb.cell (p := ⟨b, o + i, none⟩) (Nat.lt_of_lt_of_le hlt hB)]; exact hc i hi⟩

theorem Cells.congr {w : World} {a : Option Addr} {n : Nat} {F G : Nat → Value} (h : Cells w a n F) (e : ∀ i, i < n → F i = G i) : Cells w a n G := by
  intro hn
  obtain ⟨b, o, ha, hlt, hc⟩ := h hn
  exact ⟨b, o, ha, hlt, fun i hi => by rw [hc i hi, e i hi]⟩

theorem Cells.of_row {w : World} {b : Nat} {t : TypeId} {n : Nat} {F : Nat → Value} (h : w.rowIs b t n F) : Cells w (some ⟨b, 0, none⟩) n F := by
  intro _
  exact ⟨b, 0, rfl, h.lt, fun i hi => by rw [Nat.zero_add]; exact h.cell hi⟩

theorem Cells.nil (w : World) (a : Option Addr) (F : Nat → Value) : Cells w a 0 F := fun h => absurd h (Nat.lt_irrefl _)

theorem row_below {w w' : World} {b : Nat} {t : TypeId} {n : Nat} {F : Nat → Value} (h : w.rowIs b t n F) {B : Nat} (hb : Below B w w') (hB : b < B) : w'.rowIs b t n F :=
  h.of_block (hb.block b hB)

/-- A row of which the first k cells hold F, the others z; one more. -/
def upTo (F : Nat → Value) (z : Value) (k : Nat) (i : Nat) : Value := if i < k then F i else z

theorem row_step {w : World} {b : Nat} {t : TypeId} {n : Nat} {F : Nat → Value} {z : Value} {k : Nat} (h : w.rowIs b t n (upTo F z k)) : (w.setCell ⟨b, k, none⟩ (F k)).rowIs b t n (upTo F z (k + 1)) :=
  (h.set k (F k)).congr fun i _ => by
    unfold upTo
    by_cases e : i = k
    · subst e; simp
    · by_cases l : i < k
      · rw [if_neg e, if_pos l, if_pos (by omega)]
      · rw [if_neg e, if_neg l, if_neg (by omega)]

theorem row_start {w : World} {b : Nat} {t : TypeId} {n : Nat} {F : Nat → Value} {z : Value} (h : w.rowIs b t n (fun _ => z)) : w.rowIs b t n (upTo F z 0) :=
  h.congr fun i _ => by simp [upTo]

theorem row_done {w : World} {b : Nat} {t : TypeId} {n : Nat} {F : Nat → Value} {z : Value} (h : w.rowIs b t n (upTo F z n)) : w.rowIs b t n F :=
  h.congr fun i hi => by simp [upTo, hi]

end Go.Proofs.Qxb6615969a
