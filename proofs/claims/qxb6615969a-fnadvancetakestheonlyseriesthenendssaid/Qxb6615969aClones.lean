import Derived.Test.Qxb6615969aProg
import Derived.Test.Qxb6615969aCells
namespace Go.Proofs.Qxb6615969a
open Go.RowKit

theorem info9 : (Try.prog.info? 9).map (fun i => (i.zero, i.size, i.bytes)) = some (some (.string ⟨#[]⟩), 1, 16) := by kernel_rfl
theorem info2 : (Try.prog.info? 2).map (fun i => (i.zero, i.size, i.bytes)) = some (some (.int .i64 0), 1, 8) := by kernel_rfl
theorem info5 : (Try.prog.info? 5).map (fun i => (i.zero, i.size, i.bytes)) = some (some (.int .u8 0), 1, 1) := by kernel_rfl
theorem info26 : (Try.prog.info? 26).map (fun i => (i.zero, i.size, i.bytes)) = some (some (.slice none 0 0), 1, 24) := by kernel_rfl

/-- A call that hands back a new row with the same n cells, nothing old turned. -/
def Copied (w : World) (n : Nat) (F : Nat → Value) (e : Ending) (w' : World) : Prop :=
  ∃ a' c', e = .returned (.slice a' n c') ∧ (a' = none → n = 0) ∧ Cells w' a' n F ∧ Below w.heap.size w w' ∧ ∀ x, a' = some x → w.heap.size ≤ x.block

set_option maxHeartbeats 1000000 in
theorem clone_strings (a : Option Addr) (n c : Nat) (F : Nat → ByteArray) (w : World) (hn : n ≤ 1048576) (ha : a = none → n = 0) (hF : Cells w a n (fun i => .string (F i))) :
    Calls Try.prog 5 #[.slice a n c] w fun e w' => Copied w n (fun i => .string (F i)) e w' := by
  have hnil : ∀ w, (binOp .eql 22 (.slice a n c) (.slice none 0 0)).run Try.prog w = .ok (.bool a.isNone) w := fun w => Lib.run_eql_slice_nil w 22 9 a n c 0 0 Try.underlying22
  have hmk := run_make_row' (P := Try.prog) 22 9 (.string ⟨#[]⟩) 16 Try.underlying22 info9 rfl .i64 .i64 n (by omega) (by omega)
  cases a with
  | none =>
    have hn0 := ha rfl
    subst hn0
    go_enter Try.func5, Try.ntmps5
    go_wp2
    go_ret
    exact ⟨none, 0, rfl, fun _ => rfl, Cells.nil _ _ _, Below.refl _ _, fun x h => by cases h⟩
  | some a =>
    have HF : Hid (Cells w (some a) n (fun i => .string (F i))) := hF
    clear hF ha
    go_enter Try.func5, Try.ntmps5
    go_wp2
    clear hmk hnil
    go_loopg [4] n (fun g i wr => ∃ k : Nat, k ≤ n ∧ g = n - k ∧ i = .int .i64 k ∧ Below w.heap.size w wr ∧ wr.rowIs w.heap.size 9 n (upTo (fun i => .string (F i)) (.string ⟨#[]⟩) k))
    case atStart => exact ⟨0, Nat.zero_le _, rfl, rfl, (Below.refl _ _).alloc (Nat.le_refl _) _, row_start (World.rowIs_made w _ n 9)⟩
    case round =>
      obtain ⟨k, hk, rfl, rfl, hb, hr⟩ := hrel
      have HB : Hid (Below w.heap.size w wr) := hb
      have HR : Hid (wr.rowIs w.heap.size 9 n (upTo (fun i => .string (F i)) (.string ⟨#[]⟩) k)) := hr
      clear hb hr
      by_cases hlt : k < n
      · obtain ⟨b, o, e0, hbl, hc⟩ := HF.out (by omega)
        cases e0
        have g1 : wr.cell? ⟨b, o + k, none⟩ = some (.string (F k)) := by rw [HB.out.cell (p := ⟨b, o + k, none⟩) hbl]; exact hc k hlt
        have g2 : wr.cell? ⟨w.heap.size, k, none⟩ = some (.string ⟨#[]⟩) := by have := HR.out.cell hlt; simpa [upTo] using this
        have g3 : wr.frozen? ⟨w.heap.size, k, none⟩ = false := HR.out.frozen k
        clear hc
        go_wp2
        go_roundg (n - (k + 1))
        case measure => omega
        case rel => exact ⟨k + 1, by omega, rfl, by go_num, HB.out.setCell (Nat.le_refl _) _, row_step (F := fun i => .string (F i)) HR.out⟩
      · have : k = n := by omega
        subst this
        go_wp2
        go_ret
        exact ⟨_, _, rfl, (fun h => by cases h), Cells.of_row (row_done HR.out), HB.out, fun x h => by cases h; exact Nat.le_refl _⟩

set_option maxHeartbeats 1000000 in
theorem clone_int64s (a : Option Addr) (n c : Nat) (F : Nat → Int) (w : World) (hn : n ≤ 1048576) (ha : a = none → n = 0) (hF : Cells w a n (fun i => .int .i64 (F i))) :
    Calls Try.prog 6 #[.slice a n c] w fun e w' => Copied w n (fun i => .int .i64 (F i)) e w' := by
  have hnil : ∀ w, (binOp .eql 23 (.slice a n c) (.slice none 0 0)).run Try.prog w = .ok (.bool a.isNone) w := fun w => Lib.run_eql_slice_nil w 23 2 a n c 0 0 Try.underlying23
  have hmk := run_make_row' (P := Try.prog) 23 2 (.int .i64 0) 8 Try.underlying23 info2 rfl .i64 .i64 n (by omega) (by omega)
  cases a with
  | none =>
    have hn0 := ha rfl
    subst hn0
    go_enter Try.func6, Try.ntmps6
    go_wp2
    go_ret
    exact ⟨none, 0, rfl, fun _ => rfl, Cells.nil _ _ _, Below.refl _ _, fun x h => by cases h⟩
  | some a =>
    have HF : Hid (Cells w (some a) n (fun i => .int .i64 (F i))) := hF
    clear hF ha
    go_enter Try.func6, Try.ntmps6
    go_wp2
    clear hmk hnil
    go_loopg [4] n (fun g i wr => ∃ k : Nat, k ≤ n ∧ g = n - k ∧ i = .int .i64 k ∧ Below w.heap.size w wr ∧ wr.rowIs w.heap.size 2 n (upTo (fun i => .int .i64 (F i)) (.int .i64 0) k))
    case atStart => exact ⟨0, Nat.zero_le _, rfl, rfl, (Below.refl _ _).alloc (Nat.le_refl _) _, row_start (World.rowIs_made w _ n 2)⟩
    case round =>
      obtain ⟨k, hk, rfl, rfl, hb, hr⟩ := hrel
      have HB : Hid (Below w.heap.size w wr) := hb
      have HR : Hid (wr.rowIs w.heap.size 2 n (upTo (fun i => .int .i64 (F i)) (.int .i64 0) k)) := hr
      clear hb hr
      by_cases hlt : k < n
      · obtain ⟨b, o, e0, hbl, hc⟩ := HF.out (by omega)
        cases e0
        have g1 : wr.cell? ⟨b, o + k, none⟩ = some (.int .i64 (F k)) := by rw [HB.out.cell (p := ⟨b, o + k, none⟩) hbl]; exact hc k hlt
        have g2 : wr.cell? ⟨w.heap.size, k, none⟩ = some (.int .i64 0) := by have := HR.out.cell hlt; simpa [upTo] using this
        have g3 : wr.frozen? ⟨w.heap.size, k, none⟩ = false := HR.out.frozen k
        clear hc
        go_wp2
        go_roundg (n - (k + 1))
        case measure => omega
        case rel => exact ⟨k + 1, by omega, rfl, by go_num, HB.out.setCell (Nat.le_refl _) _, row_step (F := fun i => .int .i64 (F i)) HR.out⟩
      · have : k = n := by omega
        subst this
        go_wp2
        go_ret
        exact ⟨_, _, rfl, (fun h => by cases h), Cells.of_row (row_done HR.out), HB.out, fun x h => by cases h; exact Nat.le_refl _⟩

set_option maxHeartbeats 1000000 in
theorem clone_bytes (a : Option Addr) (n c : Nat) (F : Nat → Int) (w : World) (hn : n ≤ 1048576) (ha : a = none → n = 0) (hF : Cells w a n (fun i => .int .u8 (F i))) :
    Calls Try.prog 8 #[.slice a n c] w fun e w' => Copied w n (fun i => .int .u8 (F i)) e w' := by
  have hnil : ∀ w, (binOp .eql 26 (.slice a n c) (.slice none 0 0)).run Try.prog w = .ok (.bool a.isNone) w := fun w => Lib.run_eql_slice_nil w 26 5 a n c 0 0 Try.underlying26
  have hmk := run_make_row' (P := Try.prog) 26 5 (.int .u8 0) 1 Try.underlying26 info5 rfl .i64 .i64 n (by omega) (by omega)
  cases a with
  | none =>
    have hn0 := ha rfl
    subst hn0
    go_enter Try.func8, Try.ntmps8
    go_wp2
    go_ret
    exact ⟨none, 0, rfl, fun _ => rfl, Cells.nil _ _ _, Below.refl _ _, fun x h => by cases h⟩
  | some a =>
    have HF : Hid (Cells w (some a) n (fun i => .int .u8 (F i))) := hF
    clear hF ha
    go_enter Try.func8, Try.ntmps8
    go_wp2
    clear hmk hnil
    go_loopg [4] n (fun g i wr => ∃ k : Nat, k ≤ n ∧ g = n - k ∧ i = .int .i64 k ∧ Below w.heap.size w wr ∧ wr.rowIs w.heap.size 5 n (upTo (fun i => .int .u8 (F i)) (.int .u8 0) k))
    case atStart => exact ⟨0, Nat.zero_le _, rfl, rfl, (Below.refl _ _).alloc (Nat.le_refl _) _, row_start (World.rowIs_made w _ n 5)⟩
    case round =>
      obtain ⟨k, hk, rfl, rfl, hb, hr⟩ := hrel
      have HB : Hid (Below w.heap.size w wr) := hb
      have HR : Hid (wr.rowIs w.heap.size 5 n (upTo (fun i => .int .u8 (F i)) (.int .u8 0) k)) := hr
      clear hb hr
      by_cases hlt : k < n
      · obtain ⟨b, o, e0, hbl, hc⟩ := HF.out (by omega)
        cases e0
        have g1 : wr.cell? ⟨b, o + k, none⟩ = some (.int .u8 (F k)) := by rw [HB.out.cell (p := ⟨b, o + k, none⟩) hbl]; exact hc k hlt
        have g2 : wr.cell? ⟨w.heap.size, k, none⟩ = some (.int .u8 0) := by have := HR.out.cell hlt; simpa [upTo] using this
        have g3 : wr.frozen? ⟨w.heap.size, k, none⟩ = false := HR.out.frozen k
        clear hc
        go_wp2
        go_roundg (n - (k + 1))
        case measure => omega
        case rel => exact ⟨k + 1, by omega, rfl, by go_num, HB.out.setCell (Nat.le_refl _) _, row_step (F := fun i => .int .u8 (F i)) HR.out⟩
      · have : k = n := by omega
        subst this
        go_wp2
        go_ret
        exact ⟨_, _, rfl, (fun h => by cases h), Cells.of_row (row_done HR.out), HB.out, fun x h => by cases h; exact Nat.le_refl _⟩

/-- A call that hands back a new row of n new rows with the same bytes, nothing old turned. -/
def CopiedRows (w : World) (n : Nat) (L : Nat → Nat) (Z : Nat → Nat → Int) (e : Ending) (w' : World) : Prop :=
  ∃ a' c', ∃ A' : Nat → Option Addr, ∃ C' : Nat → Nat, e = .returned (.slice a' n c') ∧ (a' = none → n = 0) ∧ Cells w' a' n (fun i => .slice (A' i) (L i) (C' i)) ∧
    (∀ i, i < n → (A' i = none → L i = 0) ∧ Cells w' (A' i) (L i) (fun j => .int .u8 (Z i j))) ∧ Below w.heap.size w w'

/-- The loop's relation: k rows are copied. -/
structure RowsTo (w wr : World) (n k : Nat) (L : Nat → Nat) (Z : Nat → Nat → Int) (A' : Nat → Option Addr) (C' : Nat → Nat) : Prop where
  below : Below w.heap.size w wr
  row : wr.rowIs w.heap.size 26 n (upTo (fun i => .slice (A' i) (L i) (C' i)) (.slice none 0 0) k)
  inner : ∀ i, i < k → (A' i = none → L i = 0) ∧ Cells wr (A' i) (L i) (fun j => .int .u8 (Z i j)) ∧ ∀ x, A' i = some x → w.heap.size < x.block

theorem Cells.setOther {w : World} {a : Option Addr} {n : Nat} {F : Nat → Value} (h : Cells w a n F) {p : Addr} (hp : ∀ x, a = some x → x.block ≠ p.block) (v : Value) : Cells (w.setCell p v) a n F := by
  intro hn
  obtain ⟨b, o, ha, hlt, hc⟩ := h hn
  refine ⟨b, o, ha, by simpa [World.setCell] using hlt, fun i hi => ?_⟩
  rw [World.cell?_of_block (w := w) (Below.heap_setCell w p v b (hp _ ha))]
  exact hc i hi

theorem rows_step {w wr w1 : World} {n k : Nat} {L : Nat → Nat} {Z : Nat → Nat → Int} {A' : Nat → Option Addr} {C' : Nat → Nat} (h : RowsTo w wr n k L Z A' C') {a1 : Option Addr} {c1 : Nat}
    (h0 : a1 = none → L k = 0) (hc : Cells w1 a1 (L k) (fun j => .int .u8 (Z k j))) (hb : Below wr.heap.size wr w1) (hf : ∀ x, a1 = some x → wr.heap.size ≤ x.block) :
    RowsTo w (w1.setCell ⟨w.heap.size, k, none⟩ (.slice a1 (L k) c1)) n (k + 1) L Z (fun i => if i = k then a1 else A' i) (fun i => if i = k then c1 else C' i) := by
  have hlt := h.row.lt
  have hrow1 := row_below h.row hb hlt
  refine ⟨((h.below.trans (hb.mono (by omega))).setCell (Nat.le_refl _) _), ?_, fun i hi => ?_⟩
  · have hr2 : w1.rowIs w.heap.size 26 n (upTo (fun i => .slice ((fun i => if i = k then a1 else A' i) i) (L i) ((fun i => if i = k then c1 else C' i) i)) (.slice none 0 0) k) :=
      hrow1.congr fun i _ => by
        unfold upTo
        by_cases l : i < k
        · have : i ≠ k := by omega
          simp [l, this]
        · simp [l]
    have := row_step hr2
    simpa using this
  · by_cases e : i = k
    · subst e
      simp only [if_true]
      refine ⟨h0, hc.setOther (fun x hx => ?_) _, fun x hx => ?_⟩
      · have := hf x hx; show x.block ≠ w.heap.size; omega
      · have := hf x hx; omega
    · simp only [if_neg e]
      obtain ⟨i1, i2, i3⟩ := h.inner i (by omega)
      refine ⟨i1, (i2.below hb (Nat.le_refl _)).setOther (fun x hx => ?_) _, i3⟩
      have := i3 x hx; show x.block ≠ w.heap.size; omega

set_option maxHeartbeats 1000000 in
theorem clone_rows (a : Option Addr) (n c : Nat) (A : Nat → Option Addr) (L C : Nat → Nat) (Z : Nat → Nat → Int) (w : World) (hn : n ≤ 1048576) (ha : a = none → n = 0)
    (hF : Cells w a n (fun i => .slice (A i) (L i) (C i))) (hI : ∀ i, i < n → (A i = none → L i = 0) ∧ L i ≤ 1048576 ∧ Cells w (A i) (L i) (fun j => .int .u8 (Z i j))) :
    Calls Try.prog 7 #[.slice a n c] w fun e w' => CopiedRows w n L Z e w' := by
  have hnil : ∀ w, (binOp .eql 24 (.slice a n c) (.slice none 0 0)).run Try.prog w = .ok (.bool a.isNone) w := fun w => Lib.run_eql_slice_nil w 24 26 a n c 0 0 Try.underlying24
  have hmk := run_make_row' (P := Try.prog) 24 26 (.slice none 0 0) 24 Try.underlying24 info26 rfl .i64 .i64 n (by omega) (by omega)
  cases a with
  | none =>
    have hn0 := ha rfl
    subst hn0
    go_enter Try.func7, Try.ntmps7
    go_wp2
    go_ret
    exact ⟨none, 0, fun _ => none, fun _ => 0, rfl, fun _ => rfl, Cells.nil _ _ _, fun i hi => absurd hi (Nat.not_lt_zero _), Below.refl _ _⟩
  | some a =>
    have HF : Hid (Cells w (some a) n (fun i => .slice (A i) (L i) (C i))) := hF
    have HI : Hid (∀ i, i < n → (A i = none → L i = 0) ∧ L i ≤ 1048576 ∧ Cells w (A i) (L i) (fun j => .int .u8 (Z i j))) := hI
    clear hF ha hI
    go_enter Try.func7, Try.ntmps7
    go_wp2
    clear hmk hnil
    go_loopg [4] n (fun g i wr => ∃ k : Nat, k ≤ n ∧ g = n - k ∧ i = .int .i64 k ∧ ∃ A' C', RowsTo w wr n k L Z A' C')
    case atStart => exact ⟨0, Nat.zero_le _, rfl, rfl, fun _ => none, fun _ => 0, (Below.refl _ _).alloc (Nat.le_refl _) _, row_start (World.rowIs_made w _ n 26), fun i hi => absurd hi (Nat.not_lt_zero _)⟩
    case round =>
      obtain ⟨k, hk, rfl, rfl, A', C', hr⟩ := hrel
      by_cases hlt : k < n
      · obtain ⟨b, o, e0, hbl, hc⟩ := HF.out (by omega)
        cases e0
        obtain ⟨i1, i2, i3⟩ := HI.out k hlt
        have g1 : wr.cell? ⟨b, o + k, none⟩ = some (.slice (A k) (L k) (C k)) := by rw [hr.below.cell (p := ⟨b, o + k, none⟩) hbl]; exact hc k hlt
        have hcl := clone_bytes (A k) (L k) (C k) (Z k) wr i2 i1 (i3.below hr.below (Nat.le_refl _))
        clear hc i1 i2 i3
        go_wp2_with fail
        refine hcl.mono ?_
        rintro e w1 ⟨a1, c1, rfl, h0, hc1, hb1, hf1⟩
        have g2 : w1.cell? ⟨w.heap.size, k, none⟩ = some (.slice none 0 0) := by have := (row_below hr.row hb1 hr.row.lt).cell hlt; simpa [upTo] using this
        have g3 : w1.frozen? ⟨w.heap.size, k, none⟩ = false := (row_below hr.row hb1 hr.row.lt).frozen k
        clear g1 hcl
        have HS := rows_step hr (c1 := c1) h0 hc1 hb1 hf1
        clear hr h0 hc1 hb1 hf1
        go_wp2
        go_roundg (n - (k + 1))
        case measure => omega
        case rel => exact ⟨k + 1, by omega, rfl, by go_num, _, _, HS⟩
      · have : k = n := by omega
        subst this
        go_wp2
        go_ret
        exact ⟨_, _, A', C', rfl, (fun h => by cases h), Cells.of_row (row_done hr.row), fun i hi => ⟨(hr.inner i hi).1, (hr.inner i hi).2.1⟩, hr.below⟩

end Go.Proofs.Qxb6615969a
