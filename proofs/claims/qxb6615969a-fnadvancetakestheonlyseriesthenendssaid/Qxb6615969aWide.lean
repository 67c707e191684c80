import Derived.Test.Qxb6615969aClones
import Derived.Test.Qxb6615969aNext
import Derived.Laws.MakeOwn
namespace Go.Proofs.Qxb6615969a
open Go.RowKit

/-- The code behind the first n statements. -/
def restAfter : Nat → Code → Code
  | 0, c => c
  | n + 1, .seq _ b => restAfter n b
  | _ + 1, c => c

/-- Cells below k are F's, the others Y's. -/
def mix (F Y : Nat → Value) (k : Nat) (i : Nat) : Value := if i < k then F i else Y i

theorem mix_step {w : World} {b : Nat} {t : TypeId} {n : Nat} {F Y : Nat → Value} {k : Nat} (h : w.rowIs b t n (mix F Y k)) : (w.setCell ⟨b, k, none⟩ (F k)).rowIs b t n (mix F Y (k + 1)) :=
  (h.set k (F k)).congr fun i _ => by
    unfold mix
    by_cases e : i = k
    · subst e; simp
    · by_cases l : i < k
      · rw [if_neg e, if_pos l, if_pos (by omega)]
      · rw [if_neg e, if_neg l, if_neg (by omega)]

theorem mix_start {w : World} {b : Nat} {t : TypeId} {n : Nat} {F Y : Nat → Value} (h : w.rowIs b t n Y) : w.rowIs b t n (mix F Y 0) :=
  h.congr fun i _ => by simp [mix]

theorem mix_done {w : World} {b : Nat} {t : TypeId} {n : Nat} {F Y : Nat → Value} (h : w.rowIs b t n (mix F Y n)) : w.rowIs b t n F :=
  h.congr fun i hi => by simp [mix, hi]

theorem made_row (w : World) (z : Array Value) (n : Nat) (t : TypeId) : (w.alloc (.cells (madeCells z n) t)).rowIs w.heap.size t n (fun i => z[i % z.size]!) := by
  have h := World.rowIs_alloc w (madeCells z n) t (fun i => z[i % z.size]!) (fun i hi => by
    rw [size_madeCells] at hi
    simp [madeCells, hi])
  rwa [size_madeCells] at h

theorem info33 : (Try.prog.info? 33).map (fun i => (i.zero, i.size, i.bytes)) = some (some (.agg #[.string ⟨#[]⟩, .string ⟨#[]⟩]), 2, 32) := by kernel_rfl
theorem info37m : (Try.prog.info? 37).map (fun i => (i.zero, i.size, i.bytes)) = some (some (.agg #[.int .i64 0, .int .i64 0, .slice none 0 0]), 3, 40) := by kernel_rfl

def zero33 (i : Nat) : Value := (#[Value.string ⟨#[]⟩, .string ⟨#[]⟩] : Array Value)[i % 2]!
def zero37 (i : Nat) : Value := (#[Value.int .i64 0, .int .i64 0, .slice none 0 0] : Array Value)[i % 3]!

/-- A world with a new row of the call's own at its end. -/
def fresh33 (w : World) (n : Nat) : World := w.alloc (.cells (madeCells #[.string ⟨#[]⟩, .string ⟨#[]⟩] (n * 2)) 33)
def fresh37 (w : World) (n : Nat) : World := w.alloc (.cells (madeCells #[.int .i64 0, .int .i64 0, .slice none 0 0] (n * 3)) 37)

theorem fresh33_row (w : World) (n : Nat) : (fresh33 w n).rowIs w.heap.size 33 (n * 2) zero33 := made_row w _ (n * 2) 33
theorem fresh37_row (w : World) (n : Nat) : (fresh37 w n).rowIs w.heap.size 37 (n * 3) zero37 := made_row w _ (n * 3) 37
theorem fresh33_below (w : World) (n : Nat) : Below w.heap.size w (fresh33 w n) := (Below.refl _ _).alloc (Nat.le_refl _) _
theorem fresh37_below (w : World) (n : Nat) : Below w.heap.size w (fresh37 w n) := (Below.refl _ _).alloc (Nat.le_refl _) _

theorem make33 (n : Nat) (hn : n ≤ 1048576) (w : World) : (Instr.makeSlice 31 (.int .i64 (n : Int)) (.int .i64 (n : Int))).run Try.prog w = .ok (.slice (some ⟨w.heap.size, 0, none⟩) n n) (fresh33 w n) := by
  obtain ⟨i, hi, hzz⟩ := Option.map_eq_some_iff.1 info33
  simp only [Prod.mk.injEq] at hzz
  have := run_make (P := Try.prog) w 31 33 i _ Try.underlying31 hi hzz.1 .i64 .i64 n n (by omega) (Int.le_refl _) (by rw [hzz.2.2]; omega) (by omega)
  rw [this, hzz.2.1]
  rfl

theorem make37 (n : Nat) (hn : n ≤ 1048576) (w : World) : (Instr.makeSlice 34 (.int .i64 (n : Int)) (.int .i64 (n : Int))).run Try.prog w = .ok (.slice (some ⟨w.heap.size, 0, none⟩) n n) (fresh37 w n) := by
  obtain ⟨i, hi, hzz⟩ := Option.map_eq_some_iff.1 info37m
  simp only [Prod.mk.injEq] at hzz
  have := run_make (P := Try.prog) w 34 37 i _ Try.underlying34 hi hzz.1 .i64 .i64 n n (by omega) (Int.le_refl _) (by rw [hzz.2.2]; omega) (by omega)
  rw [this, hzz.2.1]
  rfl

/-- The cells of n labels. -/
def labF (N V : Nat → ByteArray) (j : Nat) : Value := if j % 2 = 0 then .string (N (j / 2)) else .string (V (j / 2))

theorem labF0 (N V : Nat → ByteArray) (i : Nat) : labF N V (i * 2) = .string (N i) := by
  unfold labF
  rw [if_pos (by omega), show i * 2 / 2 = i from by omega]
theorem labF1 (N V : Nat → ByteArray) (i : Nat) : labF N V (i * 2 + 1) = .string (V i) := by
  unfold labF
  rw [if_neg (by omega), show (i * 2 + 1) / 2 = i from by omega]

theorem labels_of_row {w : World} {b n : Nat} {N V : Nat → ByteArray} (h : w.rowIs b 33 (n * 2) (labF N V)) : Labels w (some ⟨b, 0, none⟩) n N V := by
  intro _
  refine ⟨b, 0, rfl, h.lt, fun i hi => ⟨?_, ?_⟩⟩
  · rw [Nat.zero_add, h.cell (by omega), labF0]
  · rw [Nat.zero_add, h.cell (by omega), labF1]

/-- The cells of n chunks. -/
def chF (Mn Mx : Nat → Int) (D : Nat → Option Addr) (L C : Nat → Nat) (j : Nat) : Value :=
  if j % 3 = 0 then .int .i64 (Mn (j / 3)) else if j % 3 = 1 then .int .i64 (Mx (j / 3)) else .slice (D (j / 3)) (L (j / 3)) (C (j / 3))

theorem chF0 (Mn Mx : Nat → Int) (D : Nat → Option Addr) (L C : Nat → Nat) (i : Nat) : chF Mn Mx D L C (i * 3) = .int .i64 (Mn i) := by
  unfold chF
  rw [if_pos (by omega), show i * 3 / 3 = i from by omega]
theorem chF1 (Mn Mx : Nat → Int) (D : Nat → Option Addr) (L C : Nat → Nat) (i : Nat) : chF Mn Mx D L C (i * 3 + 1) = .int .i64 (Mx i) := by
  unfold chF
  rw [if_neg (by omega), if_pos (by omega), show (i * 3 + 1) / 3 = i from by omega]
theorem chF2 (Mn Mx : Nat → Int) (D : Nat → Option Addr) (L C : Nat → Nat) (i : Nat) : chF Mn Mx D L C (i * 3 + 2) = .slice (D i) (L i) (C i) := by
  unfold chF
  rw [if_neg (by omega), if_neg (by omega), show (i * 3 + 2) / 3 = i from by omega]
theorem chF_one (Mn Mx : Nat → Int) (D : Nat → Option Addr) (L C : Nat → Nat) (j : Nat) : (chF Mn Mx D L C j).oneCell' = true := by
  unfold chF
  split
  · rfl
  · split <;> rfl

theorem Cells.drawn {w : World} {a : Option Addr} {n : Nat} {F : Nat → Value} (h : Cells w a n F) (k : Nat) : Cells (w.drewN k) a n F := h

theorem toHid {p : Prop} (h : p) : Hid p := h

def Done (w : World) (e : Ending) (w' : World) : Prop := e = .returned (.bool true) ∧ Below w.heap.size w w'

end Go.Proofs.Qxb6615969a
