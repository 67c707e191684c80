import Derived.Test.Qxb6615931aFmtCards
import Derived.Test.Qxb6615931aFmtMain
import Derived.ProofKit
import Derived.OpenShut
import Derived.Deep.SlicePairs
import Derived.Stop.JoinedTold
import Derived.SevenToldRow
namespace Go.Proofs.Qxb6615931aFmt.Lifted
open Go.ChangeShapes Go.WideShapes Go.ChangeAt Go.RowKit Go.Deep
open Go.Extern.Stop Go.Stop Go.Extern

theorem own : ownKnob Tryf.prog.godebug = none := by kernel_rfl
theorem laidOut : laidOutB Tryf.prog = true := by kernel_rfl
theorem cells9 : Tryf.prog.cellsOf 9 = 1 := by kernel_rfl
theorem cells3 : Tryf.prog.cellsOf 3 = 1 := by kernel_rfl
theorem cells25 : Tryf.prog.cellsOf 25 = 2 := by kernel_rfl
theorem stops : Tryf.pinned.checked.prog.stops = ["fmt.errorf"] := by kernel_rfl
theorem stopKnobs : Tryf.pinned.checked.prog.stopKnobs = [] := by kernel_rfl
theorem quiet (os : Os) : Stop.quiet Tryf.pinned.checked.prog os := by
  intro k hk
  rw [stopKnobs] at hk
  cases hk

def strV : Value → ByteArray | .string s => s | _ => ByteArray.empty
def intV : Value → Int | .int _ n => n | _ => 0

theorem spot_none {w : World} {a : Addr} {v : Value} (h : w.cell? a = some v) : a.spot = none := by
  unfold World.cell? at h
  split at h
  · cases hsp : a.spot with
    | none => rfl
    | some _ => simp [hsp] at h
  · cases h

theorem add_at {a : Addr} (hs : a.spot = none) (i : Nat) : a.add i = ⟨a.block, a.off + i, none⟩ := by
  unfold Addr.add
  by_cases h0 : i = 0
  · subst h0; cases a; simp at hs; subst hs; simp
  · rw [if_neg h0]

/-- The entries, from the reading. -/
theorem es_of {W : World} {a : Addr} {n : Nat} {A : Nat → ByteArray} {Z : Nat → Int} (h : ∀ i, i < n → W.cell? (a.add (i * 2)) = some (.string (A i)) ∧ W.cell? (a.add (i * 2 + 1)) = some (.int .i64 (Z i))) : Es W (some a) n A Z := by
  intro hn
  have h0 := (h 0 (by omega)).1
  have ea : a.add (0 * 2) = a := by simp [Addr.add]
  rw [ea] at h0
  have hs := spot_none h0
  refine ⟨a.block, a.off, ?_, World.block_lt_of_cell? _ _ h0, fun j hj => ?_⟩
  · cases a; simp at hs; subst hs; rfl
  · rw [← add_at hs]
    have hq := h (j / 2) (by omega)
    unfold esF
    by_cases hm : j % 2 = 0
    · rw [if_pos hm, show j = j / 2 * 2 from by omega, hq.1]
      rw [show j / 2 * 2 / 2 = j / 2 from by omega]
    · rw [if_neg hm]
      have e : j = j / 2 * 2 + 1 := by omega
      rw [show a.add j = a.add (j / 2 * 2 + 1) from by rw [← e], hq.2]

set_option maxRecDepth 100000 in
theorem lifted (os : Os) (started : os.Started) (H : Type) (enc : TypeId × Value → H) :
    ReturnsInTold none {} Tryf.checked os 3 .any Input.okWide ((OpenSpec.ofChange Rows.fnParticipantsOfAJoinedListIsOfTheJoinedParticipantsSpec).preRow enc Tryf.prog Tryf.f3 [] false []) (fun F => ((OpenSpec.ofChange Rows.fnParticipantsOfAJoinedListIsOfTheJoinedParticipantsSpec).at F).post enc Tryf.prog Tryf.f3 false true false false) (aloneAtReturn Tryf.prog) nothingAlways := by
  refine returnsInTold_of_row (C := Tryf.checked) (s := OpenSpec.ofChange Rows.fnParticipantsOfAJoinedListIsOfTheJoinedParticipantsSpec) (by kernel_rfl) own started (by kernel_rfl) Tryf.func3
    (OpenSpec.witness_stopped (enc := enc) (C := Tryf.checked) false ⟨#[], #[.slice none 0 0, .int .i64 0], []⟩ 8 (by kernel_rfl) (by kernel_rfl) (by kernel_rfl) (by kernel_rfl)) ?_
  intro F W base args ds gs before _ hF hval0 hW _ _ hsz _ _
  have hval : ∀ (j : Nat) t v, Tryf.f3.params[j]? = some t → args[j]? = some v → Value.okWide Tryf.prog W .any base t v := hval0
  have hW' := hW
  obtain ⟨p, q, hA0, hV, rfl, _, _⟩ := hW
  have hA : DataW.TrodAll enc Tryf.prog W 0 (fun _ => true) true Tryf.f3.params.toList args.toList ds p := hA0
  rw [Tryf.params3] at hA hval
  obtain ⟨v0, v1, d0, d1, p0, p1, rfl, rfl, rfl, h0, h1⟩ := trodAll_two hA
  obtain ⟨rfl, rfl⟩ := trodVars_none hV
  obtain ⟨a0, n0, c0, rfl⟩ := okWide_slice Tryf.underlying22 (hval 0 22 v0 rfl rfl)
  obtain ⟨cut, rfl, rfl, rfl, wc⟩ := open_int Tryf.underlying3 (hval 1 3 v1 rfl rfl) h1
  have lt0 : ∀ x ∈ p0, x.block < W.heap.size := by obtain ⟨m, hm⟩ := h0; exact DataW.trod_lt m _ _ _ hm
  obtain ⟨A, Z, hcap, hE⟩ : ∃ (A : Nat → ByteArray) (Z : Nat → Int), n0 ≤ c0 ∧ Es W a0 n0 A Z := by
    obtain ⟨fuel, hf⟩ := h0
    rcases open_slice_pairs Tryf.underlying22 Tryf.underlying25 cells25 rfl rfl cells9 cells3 hf with ⟨hcs, _⟩ | ⟨a, len, cap, m, n, V0, V1, D0, D1, P0, P1, hcs, _, hl, hm, hmm, _, hr⟩
    · simp [Value.cells] at hcs
      obtain ⟨rfl, rfl, rfl⟩ := hcs
      exact ⟨fun _ => ByteArray.empty, fun _ => 0, Nat.le_refl _, Cells.nil _ _ _⟩
    · simp [Value.cells] at hcs
      obtain ⟨rfl, rfl, rfl⟩ := hcs
      simp only [if_true] at hmm
      refine ⟨fun i => strV (V0 i), fun i => intV (V1 i), hl, es_of fun i hi => ?_⟩
      obtain ⟨g0, g1, g2, g3⟩ := hr i (by omega)
      obtain ⟨s, e0, _⟩ := DataW.trod_string Tryf.underlying9 g2
      obtain ⟨z, e1, _⟩ := DataW.trod_int Tryf.underlying3 g3
      simp only [List.cons.injEq, and_true] at e0 e1
      rw [g0, g1, e0, e1]
      exact ⟨rfl, rfl⟩
  clear hA0 hval0
  refine (main3 n0 c0 cut a0 A Z W hcap hE).mono fun e W' hh => ?_
  obtain ⟨he, bel⟩ := hh
  subst he
  exact ⟨_, rfl, _, _, _, [], _, [], hW', trodAll_mk1 (shut_bool Tryf.underlying4 _),
    trodAll_mk2 (Below.trod laidOut (by kernel_rfl) (of_decide_eq_true (by kernel_rfl)) h0 bel lt0) (shut_int Tryf.underlying3 wc), rfl, bel.frame _, fun h => by cases h⟩

theorem proved : Rows.FnParticipantsOfAJoinedListIsOfTheJoinedParticipantsToldSaid :=
  Claim7.holds_of_told_any 3 Tryf.f3 "fmt.errorf" [] [] _ _ _ (by kernel_rfl) rfl rfl rfl laidOut (by kernel_rfl) rfl ⟨rfl, rfl, rfl, rfl, rfl, rfl, rfl⟩ rfl rfl (by kernel_rfl) (by kernel_rfl) Tryf.func3 (by kernel_rfl)
    (of_decide_eq_true (by kernel_rfl)) (of_decide_eq_true (by kernel_rfl)) stops.symm rfl stopKnobs.symm (by kernel_rfl)
    (by kernel_rfl) (by kernel_rfl) (by kernel_rfl) (by kernel_rfl) (by kernel_rfl) (by kernel_rfl) (by kernel_rfl) (by kernel_rfl) (by kernel_rfl) rfl (by kernel_rfl) rfl rfl
    rfl rfl
    rfl (by kernel_rfl) (by kernel_rfl) (by kernel_rfl) (by decide) (by kernel_rfl)
    (OpenClaim.moreEntering_of (by kernel_rfl) (by kernel_rfl) (by kernel_rfl) (by kernel_rfl) (by kernel_rfl) (by kernel_rfl) (by kernel_rfl) (by kernel_rfl) (by kernel_rfl) (by kernel_rfl))
    ⟨_, WideRow.started_initial, quiet _⟩
    (fun os started _ H enc _ => lifted os started H enc)

end Go.Proofs.Qxb6615931aFmt.Lifted
