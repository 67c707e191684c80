import Derived.Test.Qxb6615969aRows
import Derived.Test.Qxb6615969aMain
import Derived.ProofKit
import Derived.OpenShut
import Derived.Deep.Matrix
namespace Go.Proofs.Qxb6615969a.Lifted
open Go.ChangeShapes Go.WideShapes Go.ChangeAt Go.RowKit Go.Deep

theorem own : ownKnob Try.prog.godebug = none := by kernel_rfl
theorem laidOut : laidOutB Try.prog = true := by kernel_rfl
theorem cells9 : Try.prog.cellsOf 9 = 1 := by kernel_rfl
theorem cells2 : Try.prog.cellsOf 2 = 1 := by kernel_rfl
theorem cells26 : Try.prog.cellsOf 26 = 1 := by kernel_rfl
theorem cells5 : Try.prog.cellsOf 5 = 1 := by kernel_rfl

theorem cells_of {w : World} {a : Addr} {n : Nat} {F : Nat → Value} (h : ∀ i, i < n → w.cell? (a.add i) = some (F i)) : Cells w (some a) n F := by
  intro hn
  have h0 := h 0 hn
  have ea : a.add 0 = a := by simp [Addr.add]
  rw [ea] at h0
  have hlt : a.block < w.heap.size := World.block_lt_of_cell? _ _ h0
  have hs : a.spot = none := by
    unfold World.cell? at h0
    split at h0
    · cases hsp : a.spot with
      | none => rfl
      | some _ => simp [hsp] at h0
    · cases h0
  refine ⟨a.block, a.off, ?_, hlt, fun i hi => ?_⟩
  · cases a; simp at hs; subst hs; rfl
  · have e : a.add i = ⟨a.block, a.off + i, none⟩ := by
      unfold Addr.add
      by_cases h0 : i = 0
      · subst h0; cases a; simp at hs; subst hs; simp
      · rw [if_neg h0]
    rw [← e]
    exact h i hi

set_option maxRecDepth 100000 in
theorem lifted (os : Os) (started : os.Started) (H : Type) (enc : TypeId × Value → H) :
    ReturnsInHanded {} Try.checked os 3 .any (Rows.fnAdvanceTakesTheOnlySeriesThenEndsSpec.pre6 enc Try.prog Try.f3 Rows.fnAdvanceTakesTheOnlySeriesThenEndsRow.domain false) (Rows.fnAdvanceTakesTheOnlySeriesThenEndsSpec.post enc Try.prog Try.f3 false true false false) := by
  refine returnsInHanded_of_change (C := Try.checked) own started (by kernel_rfl) Try.func3
    (ChangeSpec.witness6 (enc := enc) (C := Try.checked) false ⟨#[], #[.slice none 0 0, .slice none 0 0, .slice none 0 0, .slice none 0 0, .slice none 0 0], []⟩ 8 (by kernel_rfl) (by kernel_rfl) (by kernel_rfl) (by kernel_rfl)) ?_
  intro W base args ds gs before hval0 hW hcnd _
  have hval : ∀ (j : Nat) t v, Try.f3.params[j]? = some t → args[j]? = some v → Value.okWide Try.prog W .any base t v := hval0
  have hW' := hW
  obtain ⟨p, q, hA0, hV, rfl, hfz, hnd⟩ := hW
  have hA : DataW.TrodAll enc Try.prog W 0 (fun _ => true) true Try.f3.params.toList args.toList ds p := hA0
  rw [Try.params3] at hA hval
  obtain ⟨v0, vs0, d0, ds0, p0, q0, hargs, rfl, rfl, h0, r0⟩ := trodAll_cons hA
  obtain ⟨v1, vs1, d1, ds1, p1, q1, rfl, rfl, rfl, h1, r1⟩ := trodAll_cons r0
  obtain ⟨v2, vs2, d2, ds2, p2, q2, rfl, rfl, rfl, h2, r2⟩ := trodAll_cons r1
  obtain ⟨v3, vs3, d3, ds3, p3, q3, rfl, rfl, rfl, h3, r3⟩ := trodAll_cons r2
  obtain ⟨v4, vs4, d4, ds4, p4, q4, rfl, rfl, rfl, h4, r4⟩ := trodAll_cons r3
  obtain ⟨rfl, rfl, rfl⟩ := trodAll_nil r4
  obtain rfl : args = #[v0, v1, v2, v3, v4] := by cases args; simp_all
  obtain ⟨rfl, rfl⟩ := trodVars_none hV
  obtain ⟨a0, n0, c0, rfl⟩ := okWide_slice Try.underlying22 (hval 0 22 v0 rfl rfl)
  obtain ⟨a1, n1, c1, rfl⟩ := okWide_slice Try.underlying22 (hval 1 22 v1 rfl rfl)
  obtain ⟨a2, n2, c2, rfl⟩ := okWide_slice Try.underlying23 (hval 2 23 v2 rfl rfl)
  obtain ⟨a3, n3, c3, rfl⟩ := okWide_slice Try.underlying23 (hval 3 23 v3 rfl rfl)
  obtain ⟨a4, n4, c4, rfl⟩ := okWide_slice Try.underlying24 (hval 4 24 v4 rfl rfl)
  have lt0 : ∀ x ∈ p0, x.block < W.heap.size := by obtain ⟨m, hm⟩ := h0; exact DataW.trod_lt m _ _ _ hm
  have lt1 : ∀ x ∈ p1, x.block < W.heap.size := by obtain ⟨m, hm⟩ := h1; exact DataW.trod_lt m _ _ _ hm
  have lt2 : ∀ x ∈ p2, x.block < W.heap.size := by obtain ⟨m, hm⟩ := h2; exact DataW.trod_lt m _ _ _ hm
  have lt3 : ∀ x ∈ p3, x.block < W.heap.size := by obtain ⟨m, hm⟩ := h3; exact DataW.trod_lt m _ _ _ hm
  have lt4 : ∀ x ∈ p4, x.block < W.heap.size := by obtain ⟨m, hm⟩ := h4; exact DataW.trod_lt m _ _ _ hm
  have strs : ∀ (a : Option Addr) (n c : Nat) (d : DataW H) (ps : List MemPlace), DataW.Trod enc Try.prog W 0 (fun _ => true) true 22 (.slice a n c) d ps → ∃ S : Nat → ByteArray, (a = none → n = 0) ∧ Cells W a n (fun i => .string (S i)) := by
    intro a n c d ps hh
    obtain ⟨fuel, hf⟩ := hh
    rcases open_strings Try.underlying22 Try.underlying9 cells9 hf with ⟨hcs, _⟩ | ⟨x, l, k, ss, hcs, _, hl, hm, hz, _, hcell, _⟩
    · simp [Value.cells] at hcs
      obtain ⟨rfl, rfl, rfl⟩ := hcs
      exact ⟨fun _ => ByteArray.empty, fun _ => rfl, Cells.nil _ _ _⟩
    · simp [Value.cells] at hcs
      obtain ⟨rfl, rfl, rfl⟩ := hcs
      simp only [if_true] at hz
      exact ⟨fun i => ss.getD i ByteArray.empty, (fun h => by cases h), cells_of fun i hi => hcell i (by omega)⟩
  have ints : ∀ (a : Option Addr) (n c : Nat) (d : DataW H) (ps : List MemPlace), DataW.Trod enc Try.prog W 0 (fun _ => true) true 23 (.slice a n c) d ps → ∃ Z : Nat → Int, (a = none → n = 0) ∧ Cells W a n (fun i => .int .i64 (Z i)) := by
    intro a n c d ps hh
    obtain ⟨fuel, hf⟩ := hh
    rcases open_ints Try.underlying23 Try.underlying2 cells2 hf with ⟨hcs, _⟩ | ⟨x, l, k, zs, hcs, _, hl, hm, hz, _, hcell, _⟩
    · simp [Value.cells] at hcs
      obtain ⟨rfl, rfl, rfl⟩ := hcs
      exact ⟨fun _ => 0, fun _ => rfl, Cells.nil _ _ _⟩
    · simp [Value.cells] at hcs
      obtain ⟨rfl, rfl, rfl⟩ := hcs
      simp only [if_true] at hz
      exact ⟨fun i => zs.getD i 0, (fun h => by cases h), cells_of fun i hi => hcell i (by omega)⟩
  obtain ⟨S0, e0, f0⟩ := strs _ _ _ _ _ h0
  obtain ⟨S1, e1, f1⟩ := strs _ _ _ _ _ h1
  obtain ⟨Z2, e2, f2⟩ := ints _ _ _ _ _ h2
  obtain ⟨Z3, e3, f3⟩ := ints _ _ _ _ _ h3
  obtain ⟨A, L, C, Z, e4, f4, fI⟩ : ∃ (A : Nat → Option Addr) (L C : Nat → Nat) (Z : Nat → Nat → Int), (a4 = none → n4 = 0) ∧ Cells W a4 n4 (fun i => .slice (A i) (L i) (C i)) ∧ ∀ i, i < n4 → (A i = none → L i = 0) ∧ Cells W (A i) (L i) (fun j => .int .u8 (Z i j)) := by
    obtain ⟨fuel, hf⟩ := h4
    rcases open_int_rows Try.underlying24 Try.underlying26 Try.underlying5 cells26 cells5 hf with ⟨hcs, _⟩ | ⟨x, l, k, A, L, C, Z, hcs, _, hl, hm, _, hr⟩
    · simp [Value.cells] at hcs
      obtain ⟨rfl, rfl, rfl⟩ := hcs
      exact ⟨fun _ => none, fun _ => 0, fun _ => 0, fun _ _ => 0, fun _ => rfl, Cells.nil _ _ _, fun i hi => absurd hi (Nat.not_lt_zero _)⟩
    · simp [Value.cells] at hcs
      obtain ⟨rfl, rfl, rfl⟩ := hcs
      refine ⟨A, L, C, fun i j => (Z i).getD j 0, (fun h => by cases h), cells_of fun i hi => (hr i (by omega)).1, fun i hi => ?_⟩
      obtain ⟨_, g1, g2, g3, _, g4, g5⟩ := hr i (by omega)
      refine ⟨fun h => by have := g4 h; omega, ?_⟩
      cases hA : A i with
      | none => have := g4 hA; have hz : L i = 0 := by omega
                rw [hz]; exact Cells.nil _ _ _
      | some a' => exact cells_of fun j hj => (g5 a' hA).2 j (by omega)
  have step : Calls Try.prog 3 #[.slice a0 n0 c0, .slice a1 n1 c1, .slice a2 n2 c2, .slice a3 n3 c3, .slice a4 n4 c4] W fun e w' => Done W e w' := by
    by_cases small : n0 ≤ 65536 ∧ n1 ≤ 65536 ∧ n2 ≤ 65536 ∧ n3 ≤ 65536 ∧ n4 ≤ 65536
    · exact main_small a0 a1 a2 a3 a4 n0 n1 n2 n3 n4 c0 c1 c2 c3 c4 S0 S1 Z2 Z3 A L C Z W small.1 small.2.1 small.2.2.1 small.2.2.2.1 small.2.2.2.2 e0 e1 e2 e3 e4 f0 f1 f2 f3 f4 fI
    · exact main_big a0 a1 a2 a3 a4 n0 n1 n2 n3 n4 c0 c1 c2 c3 c4 S0 S1 A L C W f0 f1 f4 small
  clear hA0 hval0
  refine step.mono fun e W' ⟨he, bel⟩ => ?_
  subst he
  exact ⟨_, rfl, _, _, _, [], _, [], hW', trodAll_mk1 (shut_bool Try.underlying4 _),
    (trodAll_cons_mk (Below.trod laidOut (by kernel_rfl) (of_decide_eq_true (by kernel_rfl)) h0 bel lt0) (trodAll_cons_mk (Below.trod laidOut (by kernel_rfl) (of_decide_eq_true (by kernel_rfl)) h1 bel lt1)
      (trodAll_cons_mk (Below.trod laidOut (by kernel_rfl) (of_decide_eq_true (by kernel_rfl)) h2 bel lt2) (trodAll_cons_mk (Below.trod laidOut (by kernel_rfl) (of_decide_eq_true (by kernel_rfl)) h3 bel lt3)
        (trodAll_cons_mk (Below.trod laidOut (by kernel_rfl) (of_decide_eq_true (by kernel_rfl)) h4 bel lt4) trodAll_mk0))))), rfl, bel.frame _, fun h => by cases h⟩

theorem over : Rows.fnAdvanceTakesTheOnlySeriesThenEndsRow.holds Try.pinned (OpenSpec.ofChange Rows.fnAdvanceTakesTheOnlySeriesThenEndsSpec) :=
  OpenClaim.holds_of_wide 3 Try.f3 rfl rfl rfl rfl rfl rfl rfl ⟨rfl, rfl, rfl, rfl, rfl⟩ rfl rfl rfl rfl rfl (by kernel_rfl) Try.func3 (by kernel_rfl)
    (of_decide_eq_true (by kernel_rfl)) (by unfold Func.isWrapper; first | (rw [if_pos (by decide +kernel)]; kernel_rfl) | (rw [if_neg (by decide +kernel)]; exact ⟨rfl, rfl⟩))
    (fun os started H enc _ => lifted os started H enc)

theorem proved : Rows.FnAdvanceTakesTheOnlySeriesThenEndsSaid := over
end Go.Proofs.Qxb6615969a.Lifted
