import Derived.WalkKit
import Derived.WalkLawsBesides
import Derived.Deep.OwnRows
import Derived.Deep.LoopGhost
import Derived.Laws.MakeOwn
namespace Go.Proofs.Qxb6615931aFmt
open Go.RowKit

/-- The n cells at a hold F 0, F 1, .. (nothing is asked of an empty row). -/
def Cells (w : World) (a : Option Addr) (n : Nat) (F : Nat → Value) : Prop :=
  0 < n → ∃ b o : Nat, a = some ⟨b, o, none⟩ ∧ b < w.heap.size ∧ ∀ i, i < n → w.cell? ⟨b, o + i, none⟩ = some (F i)

theorem Cells.below {w w' : World} {a : Option Addr} {n : Nat} {F : Nat → Value} (h : Cells w a n F) {B : Nat} (hb : Below B w w') (hB : w.heap.size ≤ B) : Cells w' a n F := by
  intro hn
  obtain ⟨b, o, ha, hlt, hc⟩ := h hn
  exact ⟨b, o, ha, Nat.lt_of_lt_of_le hlt hb.size, fun i hi => by rw [hb.cell (p := ⟨b, o + i, none⟩) (Nat.lt_of_lt_of_le hlt hB)]; exact hc i hi⟩

theorem Cells.congr {w : World} {a : Option Addr} {n : Nat} {F G : Nat → Value} (h : Cells w a n F) (e : ∀ i, i < n → F i = G i) : Cells w a n G := by
  intro hn
  obtain ⟨b, o, ha, hlt, hc⟩ := h hn
  exact ⟨b, o, ha, hlt, fun i hi => by rw [hc i hi, e i hi]⟩

theorem Cells.of_row {w : World} {b : Nat} {t : TypeId} {n : Nat} {F : Nat → Value} (h : w.rowIs b t n F) : Cells w (some ⟨b, 0, none⟩) n F := by
  intro _
  exact ⟨b, 0, rfl, h.lt, fun i hi => by rw [Nat.zero_add]; exact h.cell hi⟩

theorem Cells.nil (w : World) (a : Option Addr) (F : Nat → Value) : Cells w a 0 F := fun h => absurd h (Nat.lt_irrefl _)

theorem row_below {w w' : World} {b : Nat} {t : TypeId} {n : Nat} {F : Nat → Value} (h : w.rowIs b t n F) {B : Nat} (hb : Below B w w') (hB : b < B) : w'.rowIs b t n F :=
  h.of_block (hb.block b hB)

/-- A row of which the first k cells hold F, the others z; one more. -/
def upTo (F : Nat → Value) (z : Value) (k : Nat) (i : Nat) : Value := if i < k then F i else z

theorem row_step {w : World} {b : Nat} {t : TypeId} {n : Nat} {F : Nat → Value} {z : Value} {k : Nat} (h : w.rowIs b t n (upTo F z k)) : (w.setCell ⟨b, k, none⟩ (F k)).rowIs b t n (upTo F z (k + 1)) :=
  (h.set k (F k)).congr fun i _ => by
    unfold upTo
    by_cases e : i = k
    · subst e; simp
    · by_cases l : i < k
      · rw [if_neg e, if_pos l, if_pos (by omega)]
      · rw [if_neg e, if_neg l, if_neg (by omega)]

theorem row_start {w : World} {b : Nat} {t : TypeId} {n : Nat} {F : Nat → Value} {z : Value} (h : w.rowIs b t n (fun _ => z)) : w.rowIs b t n (upTo F z 0) :=
  h.congr fun i _ => by simp [upTo]

theorem row_done {w : World} {b : Nat} {t : TypeId} {n : Nat} {F : Nat → Value} {z : Value} (h : w.rowIs b t n (upTo F z n)) : w.rowIs b t n F :=
  h.congr fun i hi => by simp [upTo, hi]

/-- The code behind the first n statements. -/
def restAfter : Nat → Code → Code
  | 0, c => c
  | n + 1, .seq _ b => restAfter n b
  | _ + 1, c => c

/-- Cells below k are F's, the others Y's. -/
def mix (F Y : Nat → Value) (k : Nat) (i : Nat) : Value := if i < k then F i else Y i

theorem mix_step {w : World} {b : Nat} {t : TypeId} {n : Nat} {F Y : Nat → Value} {k : Nat} (h : w.rowIs b t n (mix F Y k)) : (w.setCell ⟨b, k, none⟩ (F k)).rowIs b t n (mix F Y (k + 1)) :=
  (h.set k (F k)).congr fun i _ => by
    unfold mix
    by_cases e : i = k
    · subst e; simp
    · by_cases l : i < k
      · rw [if_neg e, if_pos l, if_pos (by omega)]
      · rw [if_neg e, if_neg l, if_neg (by omega)]

theorem mix_start {w : World} {b : Nat} {t : TypeId} {n : Nat} {F Y : Nat → Value} (h : w.rowIs b t n Y) : w.rowIs b t n (mix F Y 0) :=
  h.congr fun i _ => by simp [mix]

theorem mix_done {w : World} {b : Nat} {t : TypeId} {n : Nat} {F Y : Nat → Value} (h : w.rowIs b t n (mix F Y n)) : w.rowIs b t n F :=
  h.congr fun i hi => by simp [mix, hi]

theorem made_row (w : World) (z : Array Value) (n : Nat) (t : TypeId) : (w.alloc (.cells (madeCells z n) t)).rowIs w.heap.size t n (fun i => z[i % z.size]!) := by
  have h := World.rowIs_alloc w (madeCells z n) t (fun i => z[i % z.size]!) (fun i hi => by
    rw [size_madeCells] at hi
    simp [madeCells, hi])
  rwa [size_madeCells] at h

theorem Cells.setOther {w : World} {a : Option Addr} {n : Nat} {F : Nat → Value} (h : Cells w a n F) {p : Addr} (hp : ∀ x, a = some x → x.block ≠ p.block) (v : Value) : Cells (w.setCell p v) a n F := by
  intro hn
  obtain ⟨b, o, ha, hlt, hc⟩ := h hn
  refine ⟨b, o, ha, by simpa [World.setCell] using hlt, fun i hi => ?_⟩
  rw [World.cell?_of_block (w := w) (Below.heap_setCell w p v b (hp _ ha))]
  exact hc i hi

theorem cell_other (w : World) {p q : Addr} (h : p.block ≠ q.block) (v : Value) : (w.setCell p v).cell? q = w.cell? q :=
  World.cell?_of_block (w := w) (Below.heap_setCell w p v q.block (fun e => h e.symm))

theorem Cells.drawn {w : World} {a : Option Addr} {n : Nat} {F : Nat → Value} (h : Cells w a n F) (k : Nat) : Cells (w.drewN k) a n F := h

theorem toHid {p : Prop} (h : p) : Hid p := h

/-- What a row of the call's own holds, cell by cell. -/
theorem cells_of_owns {w : World} {base : Nat} {e : TypeId} {size n : Nat} {v : Value} {xs : List Value} {G : Nat → Value} (h : w.ownsRow base e size v n xs) (hx : ∀ j, j < n * size → xs[j]? = some (G j)) :
    ∃ a' c', v = .slice a' n c' ∧ Cells w a' (n * size) G ∧ (∀ x, a' = some x → base ≤ x.block ∧ x.block < w.heap.size) := by
  obtain ⟨hl, h2⟩ := h
  rcases h2 with ⟨rfl, rfl⟩ | ⟨g, cap, cur, rfl, hb, hh, hn, hm, hs, ht⟩
  · exact ⟨none, 0, rfl, by rw [Nat.zero_mul]; exact Cells.nil _ _ _, fun x hx => by cases hx⟩
  · have hlt : g < w.heap.size := (Array.getElem?_eq_some_iff.1 hh).1
    refine ⟨_, _, rfl, fun _ => ⟨g, 0, rfl, hlt, fun i hi => ?_⟩, fun x hx => by cases hx; exact ⟨hb, hlt⟩⟩
    rw [Nat.zero_add]
    have e1 : xs[i]? = cur[i]? := by
      rw [← ht, List.getElem?_take, if_pos hi]; simp
    simp only [World.cell?, hh]
    rw [← e1, hx i hi]; rfl

/-! ### Backends: four cells each -/

/-- The cells of backends: an address, a weight, a map of tags, no handle. -/
def bkF (A : Nat → ByteArray) (W : Nat → Int) (T : Nat → Value) (j : Nat) : Value :=
  if j % 4 = 0 then .string (A (j / 4)) else if j % 4 = 1 then .int .i64 (W (j / 4)) else if j % 4 = 2 then T (j / 4) else .nilIface

theorem bkF0 (A : Nat → ByteArray) (W : Nat → Int) (T : Nat → Value) (i : Nat) : bkF A W T (i * 4) = .string (A i) := by
  unfold bkF
  rw [if_pos (by omega), show i * 4 / 4 = i from by omega]
theorem bkF1 (A : Nat → ByteArray) (W : Nat → Int) (T : Nat → Value) (i : Nat) : bkF A W T (i * 4 + 1) = .int .i64 (W i) := by
  unfold bkF
  rw [if_neg (by omega), if_pos (by omega), show (i * 4 + 1) / 4 = i from by omega]
theorem bkF2 (A : Nat → ByteArray) (W : Nat → Int) (T : Nat → Value) (i : Nat) : bkF A W T (i * 4 + 2) = T i := by
  unfold bkF
  rw [if_neg (by omega), if_neg (by omega), if_pos (by omega), show (i * 4 + 2) / 4 = i from by omega]
theorem bkF3 (A : Nat → ByteArray) (W : Nat → Int) (T : Nat → Value) (i : Nat) : bkF A W T (i * 4 + 3) = .nilIface := by
  unfold bkF
  rw [if_neg (by omega), if_neg (by omega), if_neg (by omega)]

/-- n backends at a. -/
def Bks (w : World) (a : Option Addr) (n : Nat) (A : Nat → ByteArray) (W : Nat → Int) (T : Nat → Option Nat) : Prop := Cells w a (n * 4) (bkF A W (fun i => .map (T i)))

/-- One backend, read. -/
theorem Bks.at {w : World} {a : Option Addr} {n : Nat} {A : Nat → ByteArray} {W : Nat → Int} {T : Nat → Option Nat} (h : Bks w a n A W T) (hn : 0 < n) :
    ∃ b o : Nat, a = some ⟨b, o, none⟩ ∧ b < w.heap.size ∧ ∀ i, i < n → w.cell? ⟨b, o + i * 4, none⟩ = some (.string (A i)) ∧ w.cell? ⟨b, o + i * 4 + 1, none⟩ = some (.int .i64 (W i)) ∧ w.cell? ⟨b, o + i * 4 + 2, none⟩ = some (.map (T i)) ∧ w.cell? ⟨b, o + i * 4 + 3, none⟩ = some .nilIface := by
  obtain ⟨b, o, e, l, c⟩ := h (by omega)
  refine ⟨b, o, e, l, fun i hi => ⟨?_, ?_, ?_, ?_⟩⟩
  · rw [c (i * 4) (by omega), bkF0]
  · rw [Nat.add_assoc, c (i * 4 + 1) (by omega), bkF1]
  · rw [Nat.add_assoc, c (i * 4 + 2) (by omega), bkF2]
  · rw [Nat.add_assoc, c (i * 4 + 3) (by omega), bkF3]

end Go.Proofs.Qxb6615931aFmt
