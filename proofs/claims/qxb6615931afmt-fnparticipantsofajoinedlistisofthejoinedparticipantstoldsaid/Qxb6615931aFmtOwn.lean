import Derived.Test.Qxb6615931aFmtProg
import Derived.Test.Qxb6615931aFmtCells
import Derived.Laws.AppendOwn
import Derived.Laws.OwnMore
namespace Go.Proofs.Qxb6615931aFmt
open Go.RowKit

theorem info38 : (Tryf.prog.info? 38).map (fun i => (i.zero, i.size, i.bytes)) = some (some (.agg #[.string ⟨#[]⟩, .int .i64 0, .map none, .nilIface]), 4, 48) := by kernel_rfl
theorem info3 : (Tryf.prog.info? 3).map (fun i => (i.zero, i.size, i.bytes)) = some (some (.int .i64 0), 1, 8) := by kernel_rfl
theorem info4 : (Tryf.prog.info? 4).map (fun i => (i.zero, i.size, i.bytes)) = some (some (.bool false), 1, 1) := by kernel_rfl

theorem owns_block {w : World} {base : Nat} {e : TypeId} {size n : Nat} {v : Value} {xs : List Value} (h : w.ownsRow base e size v n xs) : ∀ k, v.ownBlock = some k → base ≤ k := by
  intro k hk
  rcases h.2 with ⟨rfl, _⟩ | ⟨g, cap, cur, rfl, hb, _⟩
  · cases hk
  · cases hk; exact hb

theorem owns_form {w : World} {base : Nat} {e : TypeId} {size n : Nat} {v : Value} {xs : List Value} (h : w.ownsRow base e size v n xs) : ∃ a c, v = .slice a n c := by
  rcases h.2 with ⟨rfl, rfl⟩ | ⟨g, cap, cur, rfl, _⟩
  · exact ⟨none, 0, rfl⟩
  · exact ⟨_, _, rfl⟩

theorem owns_below {w w' : World} {base B : Nat} {e : TypeId} {size n : Nat} {v : Value} {xs : List Value} (h : w.ownsRow base e size v n xs) (hb : Below B w w') (hB : w.heap.size ≤ B) : w'.ownsRow base e size v n xs := by
  obtain ⟨h1, h2⟩ := h
  refine ⟨h1, ?_⟩
  rcases h2 with h2 | ⟨g, cap, cur, hv, hg, hh, r⟩
  · exact Or.inl h2
  · have hlt : g < w.heap.size := (Array.getElem?_eq_some_iff.1 hh).1
    exact Or.inr ⟨g, cap, cur, hv, hg, by rw [hb.block g (by omega)]; exact hh, r⟩

/-- 'make([]T, 0, n)': an own row of no element. -/
theorem made_owns (w : World) (base : Nat) (hb : base ≤ w.heap.size) (e : TypeId) (size : Nat) (z : Array Value) (n : Nat) (hn : n ≤ 1048576) : (w.alloc (.cells (madeCells z (n * size)) e)).ownsRow base e size (.slice (some ⟨w.heap.size, 0, none⟩) 0 n) 0 [] := by
  refine ⟨by simp, Or.inr ⟨w.heap.size, n, madeCells z (n * size), rfl, hb, ?_, Nat.zero_le _, by unfold maxLen; omega, size_madeCells _ _, by simp⟩⟩
  show (w.heap.push _)[w.heap.size]? = _
  rw [Array.getElem?_push, if_pos rfl]

def fresh38 (w : World) (n : Nat) : World := w.alloc (.cells (madeCells #[.string ⟨#[]⟩, .int .i64 0, .map none, .nilIface] (n * 4)) 38)
def fresh3 (w : World) (n : Nat) : World := w.alloc (.cells (madeCells #[.int .i64 0] (n * 1)) 3)
theorem fresh38_below (w : World) (n : Nat) : Below w.heap.size w (fresh38 w n) := (Below.refl _ _).alloc (Nat.le_refl _) _
theorem fresh3_below (w : World) (n : Nat) : Below w.heap.size w (fresh3 w n) := (Below.refl _ _).alloc (Nat.le_refl _) _
theorem fresh38_owns (w : World) (base n : Nat) (hb : base ≤ w.heap.size) (hn : n ≤ 1048576) : (fresh38 w n).ownsRow base 38 4 (.slice (some ⟨w.heap.size, 0, none⟩) 0 n) 0 [] := made_owns w base hb 38 4 _ n hn
theorem fresh3_owns (w : World) (base n : Nat) (hb : base ≤ w.heap.size) (hn : n ≤ 1048576) : (fresh3 w n).ownsRow base 3 1 (.slice (some ⟨w.heap.size, 0, none⟩) 0 n) 0 [] := made_owns w base hb 3 1 _ n hn
theorem fresh38_row (w : World) (n : Nat) : (fresh38 w n).rowIs w.heap.size 38 (n * 4) (fun i => (#[Value.string ⟨#[]⟩, .int .i64 0, .map none, .nilIface] : Array Value)[i % 4]!) := made_row w _ (n * 4) 38

theorem make38 (n : Nat) (hn : n ≤ 1048576) (w : World) : (Instr.makeSlice 26 (.int .i64 0) (.int .i64 (n : Int))).run Tryf.prog w = .ok (.slice (some ⟨w.heap.size, 0, none⟩) 0 n) (fresh38 w n) := by
  obtain ⟨i, hi, hzz⟩ := Option.map_eq_some_iff.1 info38
  simp only [Prod.mk.injEq] at hzz
  have := run_make (P := Tryf.prog) w 26 38 i _ Tryf.underlying26 hi hzz.1 .i64 .i64 0 n (by omega) (by omega) (by rw [hzz.2.2]; omega) (by omega)
  rw [this, hzz.2.1]
  rfl

theorem make38n (n : Nat) (hn : n ≤ 1048576) (w : World) : (Instr.makeSlice 26 (.int .i64 (n : Int)) (.int .i64 (n : Int))).run Tryf.prog w = .ok (.slice (some ⟨w.heap.size, 0, none⟩) n n) (fresh38 w n) := by
  obtain ⟨i, hi, hzz⟩ := Option.map_eq_some_iff.1 info38
  simp only [Prod.mk.injEq] at hzz
  have := run_make (P := Tryf.prog) w 26 38 i _ Tryf.underlying26 hi hzz.1 .i64 .i64 n n (by omega) (by omega) (by rw [hzz.2.2]; omega) (by omega)
  rw [this, hzz.2.1]
  rfl

theorem make3 (n : Nat) (hn : n ≤ 1048576) (w : World) : (Instr.makeSlice 40 (.int .i64 0) (.int .i64 (n : Int))).run Tryf.prog w = .ok (.slice (some ⟨w.heap.size, 0, none⟩) 0 n) (fresh3 w n) := by
  obtain ⟨i, hi, hzz⟩ := Option.map_eq_some_iff.1 info3
  simp only [Prod.mk.injEq] at hzz
  have := run_make (P := Tryf.prog) w 40 3 i _ Tryf.underlying40 hi hzz.1 .i64 .i64 0 n (by omega) (by omega) (by rw [hzz.2.2]; omega) (by omega)
  rw [this, hzz.2.1]
  rfl

/-- append(xs, i) on a row of ints of the call's own. -/
theorem wpList_append_int {w : World} {ops : Array Oper} {rest : List Oper} {o : Oper} {a : Act} {Q : Exit → Act → World → Prop} (hgd : o.guard = none) (s x : Operand)
    (ho : o.op = .call { callee := .builtin .append, args := #[s, x], argTypes := #[40, 40] }) (base : Nat) (v : Value) (n : Nat) (xs : List Value) (hs : a.eval s = v) (hown : w.ownsRow base 3 1 v n xs)
    (ad c : Nat) (z : Int) (hx : a.eval x = .slice (some ⟨ad, 0, none⟩) 1 c) (h0 : w.cell? ⟨ad, 0, none⟩ = some (.int .i64 z)) (hn : n ≤ 1048576) (hbase : base ≤ w.heap.size)
    (h : ∀ v' w', w'.ownsRow base 3 1 v' (n + 1) (xs ++ [.int .i64 z]) → Below base w w' → wpList Tryf.prog ops Q rest (a.put o.dst v') w') : wpList Tryf.prog ops Q (o :: rest) a w := by
  obtain ⟨i, hi, hzz⟩ := Option.map_eq_some_iff.1 info3
  simp only [Prod.mk.injEq] at hzz
  refine wpList_append_own w hgd s x 40 ho base 3 i _ 1 8 Tryf.underlying40 hi hzz.1 hzz.2.1 hzz.2.2 rfl (by decide) v n xs hs hown ⟨ad, 0, none⟩ 1 c [.int .i64 z] hx rfl
    (fun j u hj => by
      cases j with
      | zero => simp at hj; subst hj; simpa [Addr.add] using h0
      | succ j => simp at hj) (fun u hu => by simp at hu; subst hu; rfl) (by unfold maxLen; omega) (by omega) hbase ?_
  intro v' w' h1 h2 _
  exact h v' w' h1 ((Below.refl _ _).grown h2 hbase (owns_block hown))

/-- append(bs, b) on a row of backends of the call's own. -/
theorem wpList_append_bk {w : World} {ops : Array Oper} {rest : List Oper} {o : Oper} {a : Act} {Q : Exit → Act → World → Prop} (hgd : o.guard = none) (s x : Operand)
    (ho : o.op = .call { callee := .builtin .append, args := #[s, x], argTypes := #[26, 26] }) (base : Nat) (v : Value) (n : Nat) (xs : List Value) (hs : a.eval s = v) (hown : w.ownsRow base 38 4 v n xs)
    (ad c : Nat) (A : ByteArray) (W : Int) (T : Option Nat) (hx : a.eval x = .slice (some ⟨ad, 0, none⟩) 1 c)
    (h0 : w.cell? ⟨ad, 0, none⟩ = some (.string A)) (h1 : w.cell? ⟨ad, 1, none⟩ = some (.int .i64 W)) (h2 : w.cell? ⟨ad, 2, none⟩ = some (.map T)) (h3 : w.cell? ⟨ad, 3, none⟩ = some .nilIface) (hn : n ≤ 1048576) (hbase : base ≤ w.heap.size)
    (h : ∀ v' w', w'.ownsRow base 38 4 v' (n + 1) (xs ++ [.string A, .int .i64 W, .map T, .nilIface]) → Below base w w' → wpList Tryf.prog ops Q rest (a.put o.dst v') w') : wpList Tryf.prog ops Q (o :: rest) a w := by
  obtain ⟨i, hi, hzz⟩ := Option.map_eq_some_iff.1 info38
  simp only [Prod.mk.injEq] at hzz
  refine wpList_append_own w hgd s x 26 ho base 38 i _ 4 48 Tryf.underlying26 hi hzz.1 hzz.2.1 hzz.2.2 rfl (by decide) v n xs hs hown ⟨ad, 0, none⟩ 1 c [.string A, .int .i64 W, .map T, .nilIface] hx rfl
    (fun j u hj => by
      match j with
      | 0 => simp at hj; subst hj; simpa [Addr.add] using h0
      | 1 => simp at hj; subst hj; simpa [Addr.add] using h1
      | 2 => simp at hj; subst hj; simpa [Addr.add] using h2
      | 3 => simp at hj; subst hj; simpa [Addr.add] using h3
      | j + 4 => simp at hj) (fun u hu => by simp at hu; rcases hu with rfl | rfl | rfl | rfl <;> rfl) (by unfold maxLen; omega) (by omega) hbase ?_
  intro v' w' g1 g2 _
  exact h v' w' g1 ((Below.refl _ _).grown g2 hbase (owns_block hown))

/-- append(bs, cs...) on a row of backends of the call's own. -/
theorem wpList_append_bks {w : World} {ops : Array Oper} {rest : List Oper} {o : Oper} {a : Act} {Q : Exit → Act → World → Prop} (hgd : o.guard = none) (s x : Operand)
    (ho : o.op = .call { callee := .builtin .append, args := #[s, x], argTypes := #[26, 26] }) (base : Nat) (v : Value) (n : Nat) (xs : List Value) (hs : a.eval s = v) (hown : w.ownsRow base 38 4 v n xs)
    (ad : Addr) (m c : Nat) (ys : List Value) (hx : a.eval x = .slice (some ad) m c) (hl : ys.length = m * 4) (hy : ∀ j u, ys[j]? = some u → w.cell? (ad.add j) = some u) (h1 : ∀ u ∈ ys, u.oneCell' = true) (hn : n + m ≤ 1048576) (hbase : base ≤ w.heap.size)
    (h : ∀ v' w', w'.ownsRow base 38 4 v' (n + m) (xs ++ ys) → Below base w w' → wpList Tryf.prog ops Q rest (a.put o.dst v') w') : wpList Tryf.prog ops Q (o :: rest) a w := by
  obtain ⟨i, hi, hzz⟩ := Option.map_eq_some_iff.1 info38
  simp only [Prod.mk.injEq] at hzz
  refine wpList_append_own w hgd s x 26 ho base 38 i _ 4 48 Tryf.underlying26 hi hzz.1 hzz.2.1 hzz.2.2 rfl (by decide) v n xs hs hown ad m c ys hx hl hy h1 (by unfold maxLen; omega) (by omega) hbase ?_
  intro v' w' g1 g2 _
  exact h v' w' g1 ((Below.refl _ _).grown g2 hbase (owns_block hown))

/-! ### Rows of backends as lists of cells -/

def bkList (A : Nat → ByteArray) (W : Nat → Int) (T : Nat → Option Nat) (m : Nat) : List Value := (List.range (m * 4)).map (bkF A W fun i => .map (T i))

theorem bkList_get (A : Nat → ByteArray) (W : Nat → Int) (T : Nat → Option Nat) (m j : Nat) (hj : j < m * 4) : (bkList A W T m)[j]? = some (bkF A W (fun i => .map (T i)) j) := by
  simp [bkList, hj]

theorem bkList_length (A : Nat → ByteArray) (W : Nat → Int) (T : Nat → Option Nat) (m : Nat) : (bkList A W T m).length = m * 4 := by simp [bkList]

theorem bkF_one (A : Nat → ByteArray) (W : Nat → Int) (T : Nat → Option Nat) (j : Nat) : (bkF A W (fun i => .map (T i)) j).oneCell' = true := by
  unfold bkF
  split
  · rfl
  · split
    · rfl
    · split <;> rfl

/-- The entries of the list s of indices. -/
def via {α : Type} (F : Nat → α) (s : List Nat) (q : Nat) : α := F (s.getD q 0)

theorem bkF_congr {A A' : Nat → ByteArray} {W W' : Nat → Int} {T T' : Nat → Option Nat} {j : Nat} (h1 : A (j / 4) = A' (j / 4)) (h2 : W (j / 4) = W' (j / 4)) (h3 : T (j / 4) = T' (j / 4)) : bkF A W (fun i => .map (T i)) j = bkF A' W' (fun i => .map (T' i)) j := by
  unfold bkF
  simp only [h1, h2, h3]

theorem bkList_snoc (A : Nat → ByteArray) (W : Nat → Int) (T : Nat → Option Nat) (s : List Nat) (i : Nat) :
    bkList (via A s) (via W s) (via T s) s.length ++ [.string (A i), .int .i64 (W i), .map (T i), .nilIface] = bkList (via A (s ++ [i])) (via W (s ++ [i])) (via T (s ++ [i])) (s ++ [i]).length := by
  apply List.ext_getElem?
  intro j
  have hl : (s ++ [i]).length = s.length + 1 := by simp
  have gs : ∀ q, q < s.length → (s ++ [i]).getD q 0 = s.getD q 0 := fun q hq => by simp [List.getD, List.getElem?_append, hq]
  have ge : (s ++ [i]).getD s.length 0 = i := by simp [List.getD]
  by_cases h1 : j < s.length * 4
  · rw [List.getElem?_append_left (by rw [bkList_length]; exact h1), bkList_get _ _ _ _ _ h1, bkList_get _ _ _ _ _ (by rw [hl]; omega)]
    have hq : j / 4 < s.length := by omega
    rw [bkF_congr (A' := via A (s ++ [i])) (W' := via W (s ++ [i])) (T' := via T (s ++ [i])) (by simp only [via, gs _ hq]) (by simp only [via, gs _ hq]) (by simp only [via, gs _ hq])]
  · rw [List.getElem?_append_right (by rw [bkList_length]; omega), bkList_length]
    by_cases h2 : j < s.length * 4 + 4
    · rw [bkList_get _ _ _ _ _ (by rw [hl]; omega)]
      have e4 : ∀ r, r < 4 → j = s.length * 4 + r → j / 4 = s.length := by omega
      have hr : j = s.length * 4 + 0 ∨ j = s.length * 4 + 1 ∨ j = s.length * 4 + 2 ∨ j = s.length * 4 + 3 := by omega
      rcases hr with e | e | e | e
      · subst e
        rw [Nat.add_zero, bkF0, Nat.sub_self]; simp only [via, ge]; rfl
      · subst e
        rw [bkF1, show s.length * 4 + 1 - s.length * 4 = 1 from by omega]; simp only [via, ge]; rfl
      · subst e
        rw [bkF2, show s.length * 4 + 2 - s.length * 4 = 2 from by omega]; simp only [via, ge]; rfl
      · subst e
        rw [bkF3, show s.length * 4 + 3 - s.length * 4 = 3 from by omega]; rfl
    · rw [List.getElem?_eq_none (by simp; omega), List.getElem?_eq_none (by rw [bkList_length, hl]; omega)]

theorem bks_of_owns {w : World} {base m : Nat} {v : Value} {A : Nat → ByteArray} {W : Nat → Int} {T : Nat → Option Nat} (h : w.ownsRow base 38 4 v m (bkList A W T m)) :
    ∃ a c, v = .slice a m c ∧ Bks w a m A W T ∧ (∀ x, a = some x → base ≤ x.block ∧ x.block < w.heap.size) :=
  cells_of_owns h fun j hj => bkList_get A W T m j hj

end Go.Proofs.Qxb6615931aFmt
