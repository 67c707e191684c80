import Derived.Test.Qxb6615931aFmtCheck
import Derived.Test.Qxb6615931aFmtSame
import Derived.Test.Qxb6615931aFmtZbytes
namespace Go.Proofs.Qxb6615931aFmt
open Go.RowKit

/-- n backends at a, with the tag strings S. -/
def BT (w : World) (a : Option Addr) (n : Nat) (A : Nat → ByteArray) (W : Nat → Int) (S : Nat → ByteArray) : Prop := ∃ T, Bks w a n A W T ∧ Tags w n T S

theorem Tags.below {w w' : World} {n : Nat} {T : Nat → Option Nat} {S : Nat → ByteArray} (h : Tags w n T S) (hb : Below w.heap.size w w') : Tags w' n T S := fun i hi => by
  obtain ⟨b, e, l, t⟩ := h i hi
  exact ⟨b, e, Nat.lt_of_lt_of_le l hb.size, (hb.block b l).trans t⟩

theorem BT.below {w w' : World} {a : Option Addr} {n : Nat} {A : Nat → ByteArray} {W : Nat → Int} {S : Nat → ByteArray} (h : BT w a n A W S) (hb : Below w.heap.size w w') : BT w' a n A W S := by
  obtain ⟨T, h1, h2⟩ := h
  exact ⟨T, Cells.below h1 hb (Nat.le_refl _), h2.below hb⟩

theorem Bks.congr {w : World} {a : Option Addr} {n : Nat} {A A' : Nat → ByteArray} {W W' : Nat → Int} {T T' : Nat → Option Nat} (h : Bks w a n A W T) (h1 : ∀ i, i < n → A i = A' i) (h2 : ∀ i, i < n → W i = W' i) (h3 : ∀ i, i < n → T i = T' i) : Bks w a n A' W' T' :=
  Cells.congr h fun j hj => bkF_congr (h1 _ (by omega)) (h2 _ (by omega)) (h3 _ (by omega))

theorem BT.congr {w : World} {a : Option Addr} {n : Nat} {A A' : Nat → ByteArray} {W W' : Nat → Int} {S S' : Nat → ByteArray} (h : BT w a n A W S) (h1 : ∀ i, i < n → A i = A' i) (h2 : ∀ i, i < n → W i = W' i) (h3 : ∀ i, i < n → S i = S' i) : BT w a n A' W' S' := by
  obtain ⟨T, b, t⟩ := h
  exact ⟨T, b.congr h1 h2 (fun _ _ => rfl), fun i hi => by rw [← h3 i hi]; exact t i hi⟩

theorem Es.below {w w' : World} {a : Option Addr} {n : Nat} {A : Nat → ByteArray} {W : Nat → Int} (h : Es w a n A W) (hb : Below w.heap.size w w') : Es w' a n A W := Cells.below h hb (Nat.le_refl _)

def BackP (w : World) (N : Nat) (A : Nat → ByteArray) (W : Nat → Int) (S : Nat → ByteArray) (e : Ending) (w' : World) : Prop :=
  e = .returned (.slice (some ⟨w.heap.size, 0, none⟩) N N) ∧ BT w' (some ⟨w.heap.size, 0, none⟩) N A W S ∧ Below w.heap.size w w' ∧ w.heap.size < w'.heap.size

theorem backs (N cap fr : Nat) (z : Int) (hz : z = (fr : Int)) (a : Option Addr) (A : Nat → ByteArray) (W : Nat → Int) (w : World) (hn : N ≤ 1048576) (hf : fr + N ≤ 1048576) (hE : Es w a N A W) :
    Calls Tryf.prog 6 #[.slice a N cap, .int .i64 z] w fun e w' => BackP w N A W (fun i => itoa (fr + i)) e w' := by
  subst hz
  refine (backends6 N cap fr a A W w hn hf hE).mono ?_
  rintro e w' ⟨T, h1, h2, h3, h4, h5⟩
  exact ⟨h1, ⟨T, h2, h5⟩, h3, h4⟩

theorem sel_get_lt {A : Nat → Pl.Key} {W : Nat → Int} {N q : Nat} (hq : q < (Pl.sel A W N).length) : (Pl.sel A W N).getD q 0 < N := by
  have : (Pl.sel A W N).getD q 0 ∈ Pl.sel A W N := by
    simp only [List.getD, List.getElem?_eq_getElem hq, Option.getD_some]
    exact List.getElem_mem hq
  exact (Pl.mem_sel.1 this).1

def PartP (w : World) (N : Nat) (A : Nat → ByteArray) (W : Nat → Int) (S : Nat → ByteArray) (e : Ending) (w' : World) : Prop :=
  ∃ a c, e = .returned (.tuple #[.slice a (Pl.sel (key A) W N).length c, .nilIface]) ∧ BT w' a (Pl.sel (key A) W N).length (via A (Pl.sel (key A) W N)) (via W (Pl.sel (key A) W N)) (via S (Pl.sel (key A) W N)) ∧ Below w.heap.size w w'

theorem parts (N cap : Nat) (a : Option Addr) (A : Nat → ByteArray) (W : Nat → Int) (S : Nat → ByteArray) (w : World) (hN : N ≤ 1048576) (hB : BT w a N A W S) (ha : ∀ x, a = some x → x.block < w.heap.size) (hW : ∀ i, i < N → 0 ≤ W i) :
    Calls Tryf.prog 5 #[.slice a N cap] w fun e w' => PartP w N A W S e w' := by
  obtain ⟨T, hB, hT⟩ := hB
  refine (participants5 N cap a A W T w hN hB ha hW).mono ?_
  rintro e w' ⟨a', c', h1, h2, h3⟩
  exact ⟨a', c', h1, ⟨_, h2, fun q hq => (hT.below h3) _ (sel_get_lt hq)⟩, h3⟩

/-- zzSameBackends in these terms. -/
theorem same (N c c' : Nat) (a a' : Option Addr) (A : Nat → ByteArray) (W : Nat → Int) (S : Nat → ByteArray) (w : World) (hn : N ≤ 1048576) (hB : BT w a N A W S) (hB' : BT w a' N A W S) :
    Calls Tryf.prog 8 #[.slice a N c, .slice a' N c'] w fun e w' => e = .returned (.bool true) ∧ Below w.heap.size w w' := by
  obtain ⟨T, h1, h2⟩ := hB
  obtain ⟨T', h1', h2'⟩ := hB'
  exact same8 N c c' a a' A W T T' S w hn h1 h1' h2 h2'

end Go.Proofs.Qxb6615931aFmt
