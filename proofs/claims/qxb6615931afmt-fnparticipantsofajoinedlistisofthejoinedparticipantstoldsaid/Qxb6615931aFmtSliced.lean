import Derived.Test.Qxb6615931aFmtSegD
namespace Go.Proofs.Qxb6615931aFmt
open Go.RowKit

theorem slice_right (N cap c : Nat) (hc : c ≤ N) (hcap : N ≤ cap) (a : Option Addr) (A : Nat → ByteArray) (W : Nat → Int) (w : World) (hE : Es w a N A W) :
    ∃ a', (∀ w', (Instr.slice 22 (.slice a N cap) (some (.int .i64 (c : Int))) none none).run Tryf.prog w' = .ok (.slice a' (N - c) (cap - c)) w') ∧ Es w a' (N - c) (fun i => A (c + i)) (fun i => W (c + i)) := by
  have hel : Tryf.prog.elem 22 = 25 := by kernel_rfl
  have hsz : ∀ w, (sizeOf 25).run Tryf.prog w = .ok 2 w := fun w => by kernel_rfl
  refine ⟨if cap = c then a else a.map (·.add (c * 2)), fun w' => ?_, ?_⟩
  · rw [run_slice_l (P := Tryf.prog) w' 22 a N cap (by rw [hel]; exact Tryf.underlying22) .i64 (c : Int) (by omega) (by omega), hel, hsz]
    simp [Result.andThen, sliced]
  · intro h0
    obtain ⟨b, o, e, hlt, hx⟩ := hE (by omega)
    subst e
    rw [if_neg (by omega)]
    refine ⟨b, o + c * 2, by simp [Addr.add], hlt, fun i hi => ?_⟩
    rw [Nat.add_assoc, hx (c * 2 + i) (by omega)]
    unfold esF
    have e1 : (c * 2 + i) % 2 = i % 2 := by omega
    have e2 : (c * 2 + i) / 2 = c + i / 2 := by omega
    rw [e1, e2]

theorem slice_left (N cap c : Nat) (hc : c ≤ N) (hcap : N ≤ cap) (a : Option Addr) (A : Nat → ByteArray) (W : Nat → Int) (w : World) (hE : Es w a N A W) :
    ∃ a' cc, (∀ w', (Instr.slice 22 (.slice a N cap) none (some (.int .i64 (c : Int))) none).run Tryf.prog w' = .ok (.slice a' c cc) w') ∧ Es w a' c A W := by
  have hel : Tryf.prog.elem 22 = 25 := by kernel_rfl
  have hsz : ∀ w, (sizeOf 25).run Tryf.prog w = .ok 2 w := fun w => by kernel_rfl
  refine ⟨if cap = 0 then a else a.map (·.add (0 * 2)), cap, fun w' => ?_, ?_⟩
  · rw [run_slice_h (P := Tryf.prog) w' 22 a N cap (by rw [hel]; exact Tryf.underlying22) .i64 (c : Int) (by omega) (by omega), hel, hsz]
    simp [Result.andThen, sliced]
  · intro h0
    obtain ⟨b, o, e, hlt, hx⟩ := hE (by omega)
    subst e
    rw [if_neg (by omega)]
    refine ⟨b, o, by simp [Addr.add], hlt, fun i hi => hx i (by omega)⟩

end Go.Proofs.Qxb6615931aFmt
