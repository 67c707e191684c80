import Derived.Test.Qxb6615931aFmtTold
import Derived.Laws.AppendOwnNone
namespace Go.Proofs.Qxb6615931aFmt
open Go.RowKit

theorem run_append_none (base : Nat) (t ty e : TypeId) (i : TypeInfo) (size c : Nat) (w : World) (ht : Tryf.prog.underlying t = some (.slice e)) (hi : Tryf.prog.info? e = some i)
    (v : Value) (n : Nat) (xs : List Value) (hown : w.ownsRow base e size v n xs) :
    (Builtin.append_ #[t, t] ty #[v, .slice none 0 c]).run Tryf.prog w = .ok v w := by
  rcases hown.2 with ⟨rfl, rfl⟩ | ⟨g, cap, cur, rfl, _, _, hnc, _⟩
  · simp [Builtin.append_, run_underlying ht, sizeOf, typeInfo, hi, Builtin.lenOf, Builtin.firstCells]
  · simp [Builtin.append_, run_underlying ht, sizeOf, typeInfo, hi, Builtin.lenOf, Builtin.firstCells, hnc, storeCells]

theorem wpList_append_none {w : World} {ops : Array Oper} {rest : List Oper} {o : Oper} {a : Act} {Q : Exit → Act → World → Prop} (hgd : o.guard = none) (s x : Operand)
    (ho : o.op = .call { callee := .builtin .append, args := #[s, x], argTypes := #[26, 26] }) (base : Nat) (v : Value) (n c : Nat) (xs : List Value) (hs : a.eval s = v) (hown : w.ownsRow base 38 4 v n xs) (hx : a.eval x = .slice none 0 c)
    (h : wpList Tryf.prog ops Q rest (a.put o.dst v) w) : wpList Tryf.prog ops Q (o :: rest) a w := by
  obtain ⟨i, hi, hzz⟩ := Option.map_eq_some_iff.1 info38
  refine wpList_plain hgd fun K hK => ?_
  have hrun := run_append_none base 26 o.type 38 i 4 c w Tryf.underlying26 hi v n xs hown
  unfold Oper.wp
  simp [execOp, ho, resolve, invoke, builtin, hs, hx, hrun, Result.andThen]
  exact hK _ _ h

/-- append(bs, cs...) for backends cs as we know them. -/
theorem wpList_append_bt {w : World} {ops : Array Oper} {rest : List Oper} {o : Oper} {a : Act} {Q : Exit → Act → World → Prop} (hgd : o.guard = none) (s x : Operand)
    (ho : o.op = .call { callee := .builtin .append, args := #[s, x], argTypes := #[26, 26] }) (base : Nat) (v : Value) (n : Nat) (xs : List Value) (hs : a.eval s = v) (hown : w.ownsRow base 38 4 v n xs)
    (ad : Option Addr) (m c : Nat) (A : Nat → ByteArray) (W : Nat → Int) (T : Nat → Option Nat) (hx : a.eval x = .slice ad m c) (hB : Bks w ad m A W T) (hn : n + m ≤ 1048576) (hbase : base ≤ w.heap.size)
    (h : ∀ v' w', w'.ownsRow base 38 4 v' (n + m) (xs ++ bkList A W T m) → Below base w w' → wpList Tryf.prog ops Q rest (a.put o.dst v') w') : wpList Tryf.prog ops Q (o :: rest) a w := by
  by_cases hm : 0 < m
  · obtain ⟨b, off, e, hlt, hc⟩ := hB (by omega)
    subst e
    refine wpList_append_bks hgd s x ho base v n xs hs hown ⟨b, off, none⟩ m c (bkList A W T m) hx (bkList_length _ _ _ _) (fun j u hj => ?_) (fun u hu => ?_) hn hbase h
    · have hjl : j < m * 4 := by
        have := (List.getElem?_eq_some_iff.1 hj).1
        rwa [bkList_length] at this
      rw [bkList_get _ _ _ _ _ hjl] at hj
      rw [show (⟨b, off, none⟩ : Addr).add j = ⟨b, off + j, none⟩ from by simp [Addr.add], hc j hjl, hj]
    · obtain ⟨j, hj, rfl⟩ := List.mem_map.1 hu
      exact bkF_one A W T j
  · have hm0 : m = 0 := by omega
    subst hm0
    cases ad with
    | none =>
      refine wpList_append_none hgd s x ho base v n c xs hs hown hx ?_
      refine h v w ?_ (Below.refl _ _)
      simpa [bkList] using hown
    | some ad =>
      exact wpList_append_bks hgd s x ho base v n xs hs hown ad 0 c (bkList A W T 0) hx (bkList_length _ _ _ _) (fun j u hj => by simp [bkList] at hj) (fun u hu => by simp [bkList] at hu) hn hbase h

def glue {α : Type} (f g : Nat → α) (n q : Nat) : α := if q < n then f q else g (q - n)

theorem bkList_glue (A1 A2 : Nat → ByteArray) (W1 W2 : Nat → Int) (T1 T2 : Nat → Option Nat) (n1 n2 : Nat) :
    bkList A1 W1 T1 n1 ++ bkList A2 W2 T2 n2 = bkList (glue A1 A2 n1) (glue W1 W2 n1) (glue T1 T2 n1) (n1 + n2) := by
  apply List.ext_getElem?
  intro j
  by_cases h1 : j < n1 * 4
  · rw [List.getElem?_append_left (by rw [bkList_length]; exact h1), bkList_get _ _ _ _ _ h1, bkList_get _ _ _ _ _ (by omega)]
    have hq : j / 4 < n1 := by omega
    rw [bkF_congr (A' := glue A1 A2 n1) (W' := glue W1 W2 n1) (T' := glue T1 T2 n1)] <;> simp only [glue, if_pos hq]
  · rw [List.getElem?_append_right (by rw [bkList_length]; omega), bkList_length]
    by_cases h2 : j < (n1 + n2) * 4
    · rw [bkList_get _ _ _ _ _ (by omega), bkList_get _ _ _ _ _ h2]
      have hq : ¬ j / 4 < n1 := by omega
      have e4 : (j - n1 * 4) / 4 = j / 4 - n1 := by omega
      have em : (j - n1 * 4) % 4 = j % 4 := by omega
      unfold bkF
      rw [em, e4]
      simp only [glue, if_neg hq]
    · rw [List.getElem?_eq_none (by rw [bkList_length]; omega), List.getElem?_eq_none (by rw [bkList_length]; omega)]

theorem glue_tags {w : World} {n1 n2 : Nat} {T1 T2 : Nat → Option Nat} {S1 S2 : Nat → ByteArray} (h1 : Tags w n1 T1 S1) (h2 : Tags w n2 T2 S2) : Tags w (n1 + n2) (glue T1 T2 n1) (glue S1 S2 n1) := fun q hq => by
  unfold glue
  by_cases l : q < n1
  · rw [if_pos l, if_pos l]; exact h1 q l
  · rw [if_neg l, if_neg l]; exact h2 (q - n1) (by omega)

/-- The joined row, as n1 + n2 backends. -/
theorem joined_bt {w : World} {base n1 n2 : Nat} {v : Value} {A1 A2 : Nat → ByteArray} {W1 W2 : Nat → Int} {T1 T2 : Nat → Option Nat} {S1 S2 : Nat → ByteArray} (h : w.ownsRow base 38 4 v (n1 + n2) (bkList A1 W1 T1 n1 ++ bkList A2 W2 T2 n2)) (h1 : Tags w n1 T1 S1) (h2 : Tags w n2 T2 S2) :
    ∃ a c, v = .slice a (n1 + n2) c ∧ BT w a (n1 + n2) (glue A1 A2 n1) (glue W1 W2 n1) (glue S1 S2 n1) ∧ (∀ x, a = some x → x.block < w.heap.size) := by
  rw [bkList_glue] at h
  obtain ⟨a, c, e, hB, hx⟩ := bks_of_owns h
  exact ⟨a, c, e, ⟨_, hB, glue_tags h1 h2⟩, fun x e => (hx x e).2⟩

/-- The two parts' participants, glued, are the joined list's entries. -/
theorem glue_via {α : Type} (F : Nat → α) (s1 s2 : List Nat) (c q : Nat) (hq : q < s1.length + s2.length) : glue (via F s1) (via (fun i => F (c + i)) s2) s1.length q = via F (s1 ++ s2.map (c + ·)) q := by
  unfold glue via
  by_cases l : q < s1.length
  · rw [if_pos l]
    congr 1
    simp [List.getD, List.getElem?_append_left l]
  · rw [if_neg l]
    congr 1
    simp only [List.getD]
    rw [List.getElem?_append_right (by omega), List.getElem?_map]
    have : q - s1.length < s2.length := by omega
    simp [List.getElem?_eq_getElem this]

theorem via_via {α : Type} (F : Nat → α) (J s : List Nat) (q : Nat) (hq : q < s.length) : via (via F J) s q = via F (s.map fun p => J.getD p 0) q := by
  unfold via
  congr 1
  simp [List.getD, List.getElem?_eq_getElem hq]

end Go.Proofs.Qxb6615931aFmt
