import Derived.Test.Qxb6615969aProg
import Derived.Test.Qxb6615969aCells
import Derived.Deep.RegionLawGrows
namespace Go.Proofs.Qxb6615969a
open Go.RowKit

theorem info37 : ∃ i, Try.prog.info? 37 = some i ∧ i.zero = some (.agg #[.int .i64 0, .int .i64 0, .slice none 0 0]) ∧ i.size = 3 ∧ i.bytes = 40 := by
  have h : (Try.prog.info? 37).map (fun i => (i.zero, i.size, i.bytes)) = some (some (.agg #[.int .i64 0, .int .i64 0, .slice none 0 0]), 3, 40) := by kernel_rfl
  obtain ⟨i, hi, hz⟩ := Option.map_eq_some_iff.1 h
  simp only [Prod.mk.injEq] at hz
  exact ⟨i, hi, hz.1, hz.2.1, hz.2.2⟩

/-- What a row of the call's own holds, cell by cell. -/
theorem cells_of_owns {w : World} {base : Nat} {e : TypeId} {size n : Nat} {v : Value} {xs : List Value} {G : Nat → Value} (h : w.ownsRow base e size v n xs) (hx : ∀ j, j < n * size → xs[j]? = some (G j)) :
    ∃ a' c', v = .slice a' n c' ∧ Cells w a' (n * size) G ∧ (∀ x, a' = some x → base ≤ x.block ∧ x.block < w.heap.size) := by
  obtain ⟨hl, h2⟩ := h
  rcases h2 with ⟨rfl, rfl⟩ | ⟨g, cap, cur, rfl, hb, hh, hn, hm, hs, ht⟩
  · exact ⟨none, 0, rfl, by rw [Nat.zero_mul]; exact Cells.nil _ _ _, fun x hx => by cases hx⟩
  · have hlt : g < w.heap.size := (Array.getElem?_eq_some_iff.1 hh).1
    refine ⟨_, _, rfl, fun _ => ⟨g, 0, rfl, hlt, fun i hi => ?_⟩, fun x hx => by cases hx; exact ⟨hb, hlt⟩⟩
    rw [Nat.zero_add]
    have e1 : xs[i]? = cur[i]? := by
      rw [← ht, List.getElem?_take, if_pos hi]; simp
    simp only [World.cell?, hh]
    rw [← e1, hx i hi]; rfl

/-- append(nil, chunks...) as one step of a region that draws. -/
theorem step_append_chunks {ops : Array Oper} {o : Oper} {a : Act} {w : World} {K : Act → World → Prop} {Q : Exit → Act → World → Prop} {E : Prop}
    (hg : o.guard = none) (s x : Operand) (hop : o.op = Op.call { callee := Callee.builtin Builtin.append, args := #[s, x], argTypes := #[34, 34] })
    (hs : a.eval s = .slice none 0 0) (cb cn cc : Nat) (G : Nat → Value) (hx : a.eval x = .slice (some ⟨cb, 0, none⟩) cn cc) (hc : ∀ j, j < cn * 3 → w.cell? ⟨cb, j, none⟩ = some (G j)) (h1 : ∀ j, (G j).oneCell' = true) (hcn : cn ≤ 1048576)
    (hK : ∀ a' c' w', Cells w' a' (cn * 3) G → (∀ x, a' = some x → w.heap.size ≤ x.block ∧ x.block < w'.heap.size) → Below w.heap.size w w' → K (a.put o.dst (.slice a' cn c')) w') :
    if Region.wanted o (yielded ops a.tmps) = true then Oper.wp Try.prog o a w K Q else E := by
  have hw : Region.wanted o (yielded ops a.tmps) = true := by simp [Region.wanted, hg]
  rw [if_pos hw]
  obtain ⟨i, hi, hz, hsz, hby⟩ := info37
  have hget : ∀ j, j < cn * 3 → ((List.range (cn * 3)).map G)[j]? = some (G j) := fun j hj => by simp [hj]
  obtain ⟨v', w', hrun, r1, r2, _⟩ := run_append_own (P := Try.prog) w w.heap.size 34 o.type 37 i _ 3 40 Try.underlying34 hi hz hsz hby rfl (by decide) (.slice none 0 0) 0 [] (World.ownsRow_nil w _ 37 3) ⟨cb, 0, none⟩ cn cc ((List.range (cn * 3)).map G)
    (by simp) (fun j u hj => by
      have hlt : j < cn * 3 := by have := (List.getElem?_eq_some_iff.1 hj).1; simpa using this
      rw [hget j hlt] at hj
      cases hj
      have : (⟨cb, 0, none⟩ : Addr).add j = ⟨cb, j, none⟩ := by simp [Addr.add]; intro h; rw [h]
      rw [this]; exact hc j hlt)
    (fun u hu => by
      obtain ⟨j, _, rfl⟩ := List.mem_map.1 hu
      exact h1 j) (by unfold maxLen; omega) (by omega) (Nat.le_refl _)
  unfold Oper.wp
  simp [execOp, hop, resolve, invoke, builtin, hs, hx, hrun, Result.andThen]
  rw [List.nil_append, Nat.zero_add] at r1
  obtain ⟨a', c', rfl, q1, q2⟩ := cells_of_owns r1 hget
  exact hK a' c' w' q1 q2 ((Below.refl _ _).grown r2 (Nat.le_refl _) (fun k hk => by cases hk))

end Go.Proofs.Qxb6615969a
