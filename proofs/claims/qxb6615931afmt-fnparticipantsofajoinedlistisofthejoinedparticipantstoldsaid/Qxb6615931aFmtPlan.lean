import Derived.Test.Qxb6615931aFmtSegs
namespace Go.Proofs.Qxb6615931aFmt
open Go.RowKit

theorem St_of {A A' : Nat → Pl.Key} {W W' : Nat → Int} {n : Nat} (hA : ∀ i, i < n → A i = A' i) (hW : ∀ i, i < n → W i = W' i) {i : Nat} (h : Pl.St A W n i) : Pl.St A' W' n i := by
  obtain ⟨h1, h2, h3⟩ := h
  refine ⟨h1, by rw [← hW i h1]; exact h2, fun j hj hw ha => ?_⟩
  have := h3 j hj (by rw [hW j hj]; exact hw) (by rw [hA j hj, hA i h1]; exact ha)
  unfold Pl.beats at *
  rw [← hW j hj, ← hW i h1]
  exact this

theorem sel_congr {A A' : Nat → Pl.Key} {W W' : Nat → Int} {n : Nat} (hA : ∀ i, i < n → A i = A' i) (hW : ∀ i, i < n → W i = W' i) : Pl.sel A W n = Pl.sel A' W' n :=
  Pl.eq_of_mem (Pl.sel_lt _ _ _) (Pl.sel_lt _ _ _) fun i => by
    rw [Pl.mem_sel, Pl.mem_sel]
    exact ⟨St_of hA hW, St_of (fun i hi => (hA i hi).symm) (fun i hi => (hW i hi).symm)⟩

theorem sel_len (A : Nat → Pl.Key) (W : Nat → Int) (n : Nat) : (Pl.sel A W n).length ≤ n := Nat.le_trans (List.length_filter_le _ _) (by simp)

theorem stand_self (N : Nat) (A : Nat → ByteArray) (W : Nat → Int) (S : Nat → ByteArray) : Stand N A W S (Pl.sel (key A) W N).length (via A (Pl.sel (key A) W N)) (via W (Pl.sel (key A) W N)) (via S (Pl.sel (key A) W N)) :=
  ⟨rfl, fun _ _ => rfl, fun _ _ => rfl, fun _ _ => rfl⟩

/-- The joined entries, read through the joined list of indices, are the whole list's participants' candidates. -/
theorem stand_via (N c : Nat) (hc : c ≤ N) (A : Nat → ByteArray) (W : Nat → Int) (S : Nat → ByteArray) (GA : Nat → ByteArray) (GW : Nat → Int) (GS : Nat → ByteArray) (J : List Nat) (hJ : J = Pl.joined (key A) W N c)
    (hA : ∀ q, q < J.length → GA q = via A J q) (hW : ∀ q, q < J.length → GW q = via W J q) (hS : ∀ q, q < J.length → GS q = via S J q) :
    Stand J.length GA GW GS (Pl.sel (key A) W N).length (via A (Pl.sel (key A) W N)) (via W (Pl.sel (key A) W N)) (via S (Pl.sel (key A) W N)) := by
  have e1 : Pl.sel (key GA) GW J.length = Pl.sel (fun q => key A (J.getD q 0)) (fun q => W (J.getD q 0)) J.length :=
    sel_congr (fun q hq => by unfold key; rw [hA q hq]; rfl) (fun q hq => hW q hq)
  have e2 := Pl.sel_joined (key A) W N c hc
  rw [← hJ, ← e1] at e2
  have hlt : ∀ q, q < (Pl.sel (key GA) GW J.length).length → (Pl.sel (key GA) GW J.length).getD q 0 < J.length := fun q hq => sel_get_lt hq
  have hlen : (Pl.sel (key GA) GW J.length).length = (Pl.sel (key A) W N).length := by
    have := congrArg List.length e2
    rw [List.length_map] at this
    exact this.symm
  refine ⟨hlen, fun q hq => ?_, fun q hq => ?_, fun q hq => ?_⟩
  · rw [e2, ← via_via A J _ q (by omega)]
    exact hA _ (hlt q (by omega))
  · rw [e2, ← via_via W J _ q (by omega)]
    exact hW _ (hlt q (by omega))
  · rw [e2, ← via_via S J _ q (by omega)]
    exact hS _ (hlt q (by omega))

theorem plan (N c : Nat) (hN : N ≤ 4096) (hc : c ≤ N) (A : Nat → ByteArray) (W : Nat → Int) (hW : ∀ i, i < N → 0 ≤ W i) :
    ∃ n0 n1 n2 A0 A1 A2 W0 W1 W2 S0 S1 S2, Plan N c n0 n1 n2 A W A0 A1 A2 W0 W1 W2 S0 S1 S2 := by
  have l1 := sel_len (key A) W c
  have l2 := sel_len (key fun i => A (c + i)) (fun i => W (c + i)) (N - c)
  have hlen : (Pl.joined (key A) W N c).length = (Pl.sel (key A) W c).length + (Pl.sel (key fun i => A (c + i)) (fun i => W (c + i)) (N - c)).length := by
    unfold Pl.joined
    rw [List.length_append, List.length_map]
    rfl
  have hJ : Pl.joined (key A) W N c = Pl.sel (key A) W c ++ (Pl.sel (key fun i => A (c + i)) (fun i => W (c + i)) (N - c)).map (c + ·) := rfl
  refine ⟨_, _, _, _, _, _, _, _, _, _, _, _, hN, hc, (fstTo_all A W N).symm, ?_, hW, ?_, stand_self N A W _, stand_self c A W _, stand_self (N - c) (fun i => A (c + i)) (fun i => W (c + i)) _, ?_⟩
  · omega
  · intro q hq
    unfold glue via
    by_cases l : q < (Pl.sel (key A) W c).length
    · rw [if_pos l]
      have := sel_get_lt l
      exact hW _ (by omega)
    · rw [if_neg l]
      have := sel_get_lt (A := key fun i => A (c + i)) (W := fun i => W (c + i)) (N := N - c) (q := q - (Pl.sel (key A) W c).length) (by omega)
      exact hW _ (by omega)
  · rw [← hlen]
    refine stand_via N c hc A W (fun i => itoa (0 + i)) _ _ _ (Pl.joined (key A) W N c) rfl (fun q hq => ?_) (fun q hq => ?_) (fun q hq => ?_)
    · rw [hlen] at hq
      rw [hJ]
      exact glue_via A _ _ c q hq
    · rw [hlen] at hq
      rw [hJ]
      exact glue_via W _ _ c q hq
    · rw [hlen] at hq
      rw [hJ]
      have := glue_via (fun i => itoa (0 + i)) (Pl.sel (key A) W c) (Pl.sel (key fun i => A (c + i)) (fun i => W (c + i)) (N - c)) c q hq
      simp only [Nat.zero_add] at this ⊢
      exact this

end Go.Proofs.Qxb6615931aFmt
