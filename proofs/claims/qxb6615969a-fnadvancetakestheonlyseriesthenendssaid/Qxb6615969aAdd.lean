import Derived.Test.Qxb6615969aAdvance
namespace Go.Proofs.Qxb6615969a
open Go.RowKit

theorem build53s (y x : Nat) (w : World) : (Instr.build 53 #[(0, .slice (some ⟨y, 0, none⟩) 1 1), (1, .slice (some ⟨x, 0, none⟩) 1 1)]).run Try.prog w = .ok (.agg #[.slice (some ⟨y, 0, none⟩) 1 1, .slice (some ⟨x, 0, none⟩) 1 1, .slice none 0 0, .slice none 0 0, .nilIface]) w := run_build w 53 _ _ (by kernel_rfl)

/-- append(nil, u): a new row that holds u. -/
theorem wpList_append_one {w : World} {ops : Array Oper} {rest : List Oper} {o : Oper} {a : Act} {Q : Exit → Act → World → Prop} (hgd : o.guard = none) (s x : Operand) (t : TypeId)
    (ho : o.op = .call { callee := .builtin .append, args := #[s, x], argTypes := #[t, t] }) (e : TypeId) (z : Value) (bytes : Nat) (ht : Try.prog.underlying t = some (.slice e))
    (hinfo : (Try.prog.info? e).map (fun i => (i.zero, i.size, i.bytes)) = some (some z, 1, bytes)) (hz : z.cells.size = 1) (hby : bytes ≤ 16)
    (hs : a.eval s = .slice none 0 0) (b c : Nat) (u : Value) (hx : a.eval x = .slice (some ⟨b, 0, none⟩) 1 c) (hc : w.cell? ⟨b, 0, none⟩ = some u) (h1 : u.oneCell' = true)
    (h : ∀ g c w', w.heap.size ≤ g → g < w'.heap.size → w'.cell? ⟨g, 0, none⟩ = some u → w'.frozen? ⟨g, 0, none⟩ = false → Below w.heap.size w w' → wpList Try.prog ops Q rest (a.put o.dst (.slice (some ⟨g, 0, none⟩) 1 c)) w') :
    wpList Try.prog ops Q (o :: rest) a w := by
  obtain ⟨i, hi, hzz⟩ := Option.map_eq_some_iff.1 hinfo
  simp only [Prod.mk.injEq] at hzz
  refine wpList_append_own w hgd s x t ho w.heap.size e i z 1 bytes ht hi hzz.1 hzz.2.1 hzz.2.2 hz (by decide) (.slice none 0 0) 0 [] hs (World.ownsRow_nil w _ e 1) ⟨b, 0, none⟩ 1 c [u] hx rfl
    (fun j v hj => by
      cases j with
      | zero => simp at hj; subst hj; simpa [Addr.add] using hc
      | succ j => simp at hj) (fun v hv => by simp at hv; subst hv; exact h1) (by unfold maxLen; omega) (by omega) (Nat.le_refl _) ?_
  intro v' w' hown hg _
  obtain ⟨_, h2⟩ := hown
  rcases h2 with ⟨_, h0⟩ | ⟨g, cap, cur, rfl, hb, hh, hn, hm, hsz, htk⟩
  · omega
  · have hlt : g < w'.heap.size := (Array.getElem?_eq_some_iff.1 hh).1
    refine h g cap w' hb hlt ?_ ?_ ((Below.refl _ _).grown hg (Nat.le_refl _) (fun k hk => by cases hk))
    · have e1 : cur[0]? = some u := by
        have : (cur.toList.take 1)[0]? = some u := by
          have h3 : cur.toList.take ((0 + 1) * 1) = [u] := by simpa using htk
          rw [show (0 + 1) * 1 = 1 from rfl] at h3
          rw [h3]; rfl
        rw [List.getElem?_take, if_pos (by decide)] at this
        simpa using this
      simp [World.cell?, hh, e1]
    · simp [World.frozen?, hh]

theorem info56 : (Try.prog.info? 56).map (fun i => (i.zero, i.size, i.bytes)) = some (some .nilIface, 1, 16) := by kernel_rfl
theorem info44 : (Try.prog.info? 44).map (fun i => (i.zero, i.size, i.bytes)) = some (some (.pointer none), 1, 8) := by kernel_rfl

/-- The six blocks that ZZaddYieldingSet lays ahead of its first append. -/
def tower (w : World) (la : Option Addr) (ln lc cb cn cc : Nat) : World :=
  (((((w.alloc (.cells #[.slice la ln lc, .slice (some ⟨cb, 0, none⟩) cn cc] 42)).alloc (.cells #[.slice none 0 0, .slice none 0 0, .slice none 0 0, .slice none 0 0, .nilIface] 53)).alloc (.cells #[.iface 38 (.pointer (some ⟨w.heap.size + 1, 0, none⟩))] 56)).alloc
    (.cells #[.pointer (some ⟨w.heap.size, 0, none⟩)] 44)).alloc (.cells #[.slice (some ⟨w.heap.size + 1 + 1, 0, none⟩) 1 1, .slice (some ⟨w.heap.size + 1 + 1 + 1, 0, none⟩) 1 1, .slice none 0 0, .slice none 0 0, .nilIface] 53)).alloc
    (.cells #[.iface 38 (.pointer (some ⟨w.heap.size + 1 + 1 + 1 + 1, 0, none⟩))] 56)

structure Stage1 (w w1 : World) (A1 : Nat) (la : Option Addr) (ln lc cb cn cc : Nat) : Prop where
  below : Below w.heap.size w w1
  lo : w.heap.size + 6 ≤ A1
  hi : A1 < w1.heap.size
  hA : w1.cell? ⟨A1, 0, none⟩ = some (.iface 38 (.pointer (some ⟨w.heap.size + 4, 0, none⟩)))
  it : It w1 (w.heap.size + 4) (w.heap.size + 3) 1 (w.heap.size + 2) 1 (w.heap.size + 1) (.slice none 0 0) (.slice none 0 0) (.pointer (some ⟨w.heap.size, 0, none⟩))
  s0 : w1.cell? ⟨w.heap.size, 0, none⟩ = some (.slice la ln lc)
  s1 : w1.cell? ⟨w.heap.size, 1, none⟩ = some (.slice (some ⟨cb, 0, none⟩) cn cc)

theorem tower_size (w : World) (la : Option Addr) (ln lc cb cn cc : Nat) : (tower w la ln lc cb cn cc).heap.size = w.heap.size + 6 := by simp [tower]

theorem tower_it1 (w : World) (la : Option Addr) (ln lc cb cn cc : Nat) :
    It (tower w la ln lc cb cn cc) (w.heap.size + 1 + 1 + 1 + 1) (w.heap.size + 1 + 1 + 1) 1 (w.heap.size + 1 + 1) 1 (w.heap.size + 1) (.slice none 0 0) (.slice none 0 0) (.pointer (some ⟨w.heap.size, 0, none⟩)) := by
  constructor <;> (unfold tower; go_simp)

theorem tower_it (w : World) (la : Option Addr) (ln lc cb cn cc : Nat) :
    It (tower w la ln lc cb cn cc) (w.heap.size + 4) (w.heap.size + 3) 1 (w.heap.size + 2) 1 (w.heap.size + 1) (.slice none 0 0) (.slice none 0 0) (.pointer (some ⟨w.heap.size, 0, none⟩)) := tower_it1 w la ln lc cb cn cc

theorem stage1_of {w w1 : World} {A1 : Nat} {la : Option Addr} {ln lc cb cn cc : Nat} (p1 : (tower w la ln lc cb cn cc).heap.size ≤ A1) (p2 : A1 < w1.heap.size)
    (p3 : w1.cell? ⟨A1, 0, none⟩ = some (.iface 38 (.pointer (some ⟨w.heap.size + 1 + 1 + 1 + 1, 0, none⟩)))) (p5 : Below (tower w la ln lc cb cn cc).heap.size (tower w la ln lc cb cn cc) w1) : Stage1 w w1 A1 la ln lc cb cn cc := by
  have hsz := tower_size w la ln lc cb cn cc
  have hb : Below w.heap.size w (tower w la ln lc cb cn cc) := by
    unfold tower
    repeat (first | exact Below.refl _ _ | refine Below.alloc ?_ (by first | (simp; done) | (simp; omega)) _)
  refine ⟨hb.trans (p5.mono (by omega)), by omega, p2, p3, (tower_it w la ln lc cb cn cc).of_blocks (p5.block _ (by omega)) (p5.block _ (by omega)) (p5.block _ (by omega)) (p5.block _ (by omega)), ?_, ?_⟩
  · rw [p5.cell (p := ⟨w.heap.size, 0, none⟩) (by show w.heap.size < _; omega)]; unfold tower; go_simp
  · rw [p5.cell (p := ⟨w.heap.size, 1, none⟩) (by show w.heap.size < _; omega)]; unfold tower; go_simp

/-- What ZZaddYieldingSet leaves. -/
structure Added (w w' : World) (M A1 c1 A2 c2 : Nat) (la : Option Addr) (ln lc cb cn cc : Nat) : Prop where
  below : Below M w w'
  lo : w.heap.size + 6 ≤ A1
  mid : A1 < A2
  hi : A2 < w'.heap.size
  out : Out w' M A1 c1 A2 c2 (w.heap.size + 4) (.pointer none)
  it : It w' (w.heap.size + 4) (w.heap.size + 3) 1 (w.heap.size + 2) 1 (w.heap.size + 1) (.slice none 0 0) (.slice none 0 0) (.pointer (some ⟨w.heap.size, 0, none⟩))
  s0 : w'.cell? ⟨w.heap.size, 0, none⟩ = some (.slice la ln lc)
  s1 : w'.cell? ⟨w.heap.size, 1, none⟩ = some (.slice (some ⟨cb, 0, none⟩) cn cc)

theorem added_of {w w1 w2 : World} {M A1 c1 A2 c2 : Nat} {la : Option Addr} {ln lc cb cn cc : Nat} (S1 : Stage1 w w1 A1 la ln lc cb cn cc) (lM : M < w.heap.size)
    (m0 : w1.cell? ⟨M, 0, none⟩ = some (.slice none 0 0)) (m1 : w1.cell? ⟨M, 1, none⟩ = some (.slice none 0 0)) (m4 : w1.cell? ⟨M, 4, none⟩ = some .nilIface)
    (p6 : ((w1.setCell ⟨M, 0, none⟩ (.slice (some ⟨A1, 0, none⟩) 1 c1)).alloc (.cells #[.pointer none] 44)).heap.size ≤ A2) (p7 : A2 < w2.heap.size) (p8 : w2.cell? ⟨A2, 0, none⟩ = some (.pointer none)) (p9 : w2.frozen? ⟨A2, 0, none⟩ = false)
    (p10 : Below ((w1.setCell ⟨M, 0, none⟩ (.slice (some ⟨A1, 0, none⟩) 1 c1)).alloc (.cells #[.pointer none] 44)).heap.size ((w1.setCell ⟨M, 0, none⟩ (.slice (some ⟨A1, 0, none⟩) 1 c1)).alloc (.cells #[.pointer none] 44)) w2) :
    Added w (w2.setCell ⟨M, 1, none⟩ (.slice (some ⟨A2, 0, none⟩) 1 c2)) M A1 c1 A2 c2 la ln lc cb cn cc := by
  obtain ⟨hb, hlo, hhi, hA, hit, hs0, hs1⟩ := S1
  have hsz : ((w1.setCell ⟨M, 0, none⟩ (.slice (some ⟨A1, 0, none⟩) 1 c1)).alloc (.cells #[.pointer none] 44)).heap.size = w1.heap.size + 1 := by simp [World.setCell]
  rw [hsz] at p6 p10
  -- every block but M, below the new ones, is as in w1
  have blk : ∀ k, k < w1.heap.size → k ≠ M → (w2.setCell ⟨M, 1, none⟩ (.slice (some ⟨A2, 0, none⟩) 1 c2)).heap[k]? = w1.heap[k]? := by
    intro k hk hne
    rw [set_block _ _ _ hne, p10.block k (by omega), Below.heap_alloc _ _ _ (by simpa [World.setCell] using hk), set_block _ _ _ hne]
  have hsz2 : (w2.setCell ⟨M, 1, none⟩ (.slice (some ⟨A2, 0, none⟩) 1 c2)).heap.size = w2.heap.size := by simp [World.setCell]
  have sz1 := hb.size
  have cM : ∀ o, o ≠ 1 → (w2.setCell ⟨M, 1, none⟩ (.slice (some ⟨A2, 0, none⟩) 1 c2)).cell? ⟨M, o, none⟩ = (w1.setCell ⟨M, 0, none⟩ (.slice (some ⟨A1, 0, none⟩) 1 c1)).cell? ⟨M, o, none⟩ := by
    intro o ho
    rw [cell_off _ (fun h => ho (by cases h; rfl)), p10.cell (p := ⟨M, o, none⟩) (by show M < _; omega)]
    exact World.cell?_of_block (Below.heap_alloc _ _ _ (by simp [World.setCell]; omega))
  refine ⟨?_, hlo, by omega, by omega, ⟨?_, ?_, ?_, ?_, ?_, ?_⟩, hit.of_blocks (blk _ (by omega) (by omega)) (blk _ (by omega) (by omega)) (blk _ (by omega) (by omega)) (blk _ (by omega) (by omega)), ?_, ?_⟩
  · refine (hb.mono (by omega)).trans ?_
    refine Below.setCell (p := ⟨M, 1, none⟩) ?_ (Nat.le_refl _) _
    exact (((Below.refl M w1).setCell (p := ⟨M, 0, none⟩) (Nat.le_refl _) _).alloc (by simp [World.setCell]; omega) _).trans (p10.mono (by omega))
  · rw [cM 0 (by decide)]; exact cell_same _ m0 _
  · refine cell_same (u := .slice none 0 0) _ ?_ _
    rw [p10.cell (p := ⟨M, 1, none⟩) (by show M < _; omega)]
    rw [World.cell?_of_block (a := ⟨M, 1, none⟩) (Below.heap_alloc _ _ _ (by simp [World.setCell]; omega)), cell_off _ (by simp)]
    exact m1
  · rw [cM 4 (by decide), cell_off _ (by simp)]; exact m4
  · exact (World.cell?_of_block (a := ⟨A1, 0, none⟩) (blk A1 hhi (by omega))).trans hA
  · rw [cell_other _ (by show M ≠ A2; omega)]; exact p8
  · rw [frozen_set]; exact p9
  · exact (World.cell?_of_block (a := ⟨w.heap.size, 0, none⟩) (blk w.heap.size (by omega) (by omega))).trans hs0
  · exact (World.cell?_of_block (a := ⟨w.heap.size, 1, none⟩) (blk w.heap.size (by omega) (by omega))).trans hs1

def AddPost (w : World) (M : Nat) (la : Option Addr) (ln lc cb cn cc : Nat) (e : Ending) (w' : World) : Prop :=
  e = .returned (.tuple #[]) ∧ ∃ A1 c1 A2 c2, Added w w' M A1 c1 A2 c2 la ln lc cb cn cc

set_option maxHeartbeats 4000000 in
theorem add10 (M : Nat) (la : Option Addr) (ln lc cb cn cc : Nat) (w : World) (lM : M < w.heap.size)
    (h0 : w.cell? ⟨M, 0, none⟩ = some (.slice none 0 0)) (h1 : w.cell? ⟨M, 1, none⟩ = some (.slice none 0 0)) (h4 : w.cell? ⟨M, 4, none⟩ = some .nilIface) (f0 : w.frozen? ⟨M, 0, none⟩ = false) (f1 : w.frozen? ⟨M, 1, none⟩ = false) :
    Calls Try.prog 10 #[.pointer (some ⟨M, 0, none⟩), .agg #[.slice la ln lc, .slice (some ⟨cb, 0, none⟩) cn cc]] w fun e w' => AddPost w M la ln lc cb cn cc e w' := by
  have hb := build53
  have hb2 := build53s
  go_enter Try.func10, Try.ntmps10
  go_wp2_with (first
    | (at_builtin; refine wpList_append_one rfl (.tmp 8) (.tmp 17) 50 rfl 56 .nilIface 16 Try.underlying50 info56 rfl (by decide) rfl (w.heap.size + 1 + 1 + 1 + 1 + 1) 1 (.iface 38 (.pointer (some ⟨w.heap.size + 1 + 1 + 1 + 1, 0, none⟩))) rfl (by go_simp) rfl ?_; intro A1 c1 w1 p1 p2 p3 p4 p5; have S1 : Stage1 w w1 A1 la ln lc cb cn cc := stage1_of p1 p2 p3 p5; clear p1 p2 p3 p4 p5; have m0 := (S1.below.cell (p := ⟨M, 0, none⟩) lM).trans h0; have m1 := (S1.below.cell (p := ⟨M, 1, none⟩) lM).trans h1; have m4 := (S1.below.cell (p := ⟨M, 4, none⟩) lM).trans h4; have n0 := (S1.below.frozen (p := ⟨M, 0, none⟩) lM).trans f0; have n1 := (S1.below.frozen (p := ⟨M, 1, none⟩) lM).trans f1; have lM1 : M < w1.heap.size := Nat.lt_of_lt_of_le lM S1.below.size; clear h0 h1 h4 f0 f1)
    | (at_builtin; refine wpList_append_one rfl (.tmp 25) (.tmp 26) 51 rfl 44 (.pointer none) 8 Try.underlying51 info44 rfl (by decide) rfl _ 1 (.pointer none) rfl (by go_simp) rfl ?_; intro A2 c2 w2 p6 p7 p8 p9 p10; have D2 : Hid (Added w (w2.setCell ⟨M, 1, none⟩ (.slice (some ⟨A2, 0, none⟩) 1 c2)) M A1 c1 A2 c2 la ln lc cb cn cc) := added_of S1 lM m0 m1 m4 p6 p7 p8 p9 p10; have k1 := (p10.cell (p := ⟨M, 1, none⟩) (by simp [World.setCell]; omega)); have k2 := (p10.frozen (p := ⟨M, 1, none⟩) (by simp [World.setCell]; omega)); clear p6 p7 p8 p9 p10 S1))
  go_end0
  exact ⟨rfl, A1, c1, A2, c2, D2.out⟩

set_option maxHeartbeats 1000000 in
theorem zzadvance {m : Nat} {w : World} {Q : Ending → World → Prop} (h : Calls Try.prog 15 #[.pointer (some ⟨m, 0, none⟩), .int .i64 0] w fun e w' => e = .returned (.tuple #[]) ∧ Q e w') :
    Calls Try.prog 11 #[.pointer (some ⟨m, 0, none⟩), .int .i64 0] w fun e w' => e = .returned (.tuple #[]) ∧ Q e w' := by
  have H : Hid (Calls Try.prog 15 #[.pointer (some ⟨m, 0, none⟩), .int .i64 0] w fun e w' => e = .returned (.tuple #[]) ∧ Q e w') := h
  clear h
  go_enter Try.func11, Try.ntmps11
  go_wp2_with (go_at_call 15; refine H.out.mono ?_; rintro e w' ⟨rfl, hq⟩)
  go_end0
  exact ⟨rfl, hq⟩

end Go.Proofs.Qxb6615969a
