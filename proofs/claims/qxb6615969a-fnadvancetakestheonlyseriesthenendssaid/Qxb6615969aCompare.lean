import Derived.Test.Qxb6615969aProg
import Derived.Test.Qxb6615969aCells
import Derived.Deep.QuietTactic
import Derived.BigQuiet
import Derived.Laws.Externs
namespace Go.Proofs.Qxb6615969a
open Go.RowKit

/-- n labels at a: two strings each. -/
def Labels (w : World) (a : Option Addr) (n : Nat) (N V : Nat → ByteArray) : Prop :=
  0 < n → ∃ b o : Nat, a = some ⟨b, o, none⟩ ∧ b < w.heap.size ∧ ∀ i, i < n → w.cell? ⟨b, o + i * 2, none⟩ = some (.string (N i)) ∧ w.cell? ⟨b, o + i * 2 + 1, none⟩ = some (.string (V i))

theorem Labels.below {w w' : World} {a : Option Addr} {n : Nat} {N V : Nat → ByteArray} (h : Labels w a n N V) {B : Nat} (hb : Below B w w') (hB : w.heap.size ≤ B) : Labels w' a n N V := by
  intro hn
  obtain ⟨b, o, ha, hlt, hc⟩ := h hn
  refine ⟨b, o, ha, Nat.lt_of_lt_of_le hlt hb.size, fun i hi => ?_⟩
  rw [hb.cell (p := ⟨b, o + i * 2, none⟩) (Nat.lt_of_lt_of_le hlt hB), hb.cell (p := ⟨b, o + i * 2 + 1, none⟩) (Nat.lt_of_lt_of_le hlt hB)]
  exact hc i hi

theorem cmp_self (s : ByteArray) : Extern.BytealgCompare.cmp s s = 0 := by
  unfold Extern.BytealgCompare.cmp
  have h : (List.range (min s.size s.size)).find? (fun i => s[i]! != s[i]!) = none := by
    rw [List.find?_eq_none]; intro x _; simp
  rw [h]
  simp

theorem call41 (s : ByteArray) (w : World) : (callFunc 41 #[.string s, .string s]).run Try.prog w = .ok (.value (.int .i64 0)) w := by
  rw [run_callFunc_extern Try.func41 (by kernel_rfl) (by kernel_rfl) (by kernel_rfl) (e := Extern.BytealgCompare.compare) (by kernel_rfl)]
  have e1 : (Extern.BytealgCompare.compare #[.string s, .string s]).run Try.prog w = .ok (goInt (Extern.BytealgCompare.cmp s s)) w := rfl
  rw [e1, cmp_self]; rfl

theorem cmp40 (s : ByteArray) (w : World) : Calls Try.prog 40 #[.string s, .string s] w fun e w' => e = .returned (.int .i64 0) ∧ w' = w := by
  have h41 := call41
  go_enter Try.func40, Try.ntmps40
  go_wp2
  go_ret
  exact ⟨rfl, rfl⟩

theorem cmp39 (s : ByteArray) (w : World) : Calls Try.prog 39 #[.string s, .string s] w fun e w' => e = .returned (.int .i64 0) ∧ w' = w := by
  go_enter Try.func39, Try.ntmps39
  go_wp2_with (go_at_call 40; refine (cmp40 s _).mono ?_; rintro e w' ⟨rfl, rfl⟩)
  go_ret
  exact ⟨rfl, rfl⟩

theorem drewN_two {w wr : World} {a : Nat} {w2 : World} (h : wr = w.drewN a) {b : Nat} (h2 : w2 = wr.drewN b) (c : Nat) : w2.drewN c = w.drewN (a + b + c) := by
  rw [h2, h, World.drewN_drewN, World.drewN_drewN, Nat.add_assoc]

set_option maxHeartbeats 1000000 in
theorem compare_self (a : Option Addr) (n c : Nat) (N V : Nat → ByteArray) (w : World) (hn : n ≤ 1048576) (ha : Labels w a n N V) :
    Calls Try.prog 38 #[.slice a n c, .slice a n c] w fun e w' => e = .returned (.int .i64 0) ∧ ∃ nq, w' = w.drewN nq := by
  have HA : Hid (Labels w a n N V) := ha
  clear ha
  go_enter Try.func38, Try.ntmps38
  go_wp2
  go_loopg [5] n (fun g i wr => ∃ k : Nat, k ≤ n ∧ g = n - k ∧ i = .int .i64 k ∧ ∃ nq, wr = w.drewN nq)
  case atStart => exact ⟨0, Nat.zero_le _, rfl, rfl, 0, rfl⟩
  case round =>
    obtain ⟨k, hk, rfl, rfl, nq0, hw0⟩ := hrel
    have HW : Hid (wr = w.drewN nq0) := hw0
    by_cases hlt : k < n
    · obtain ⟨b, o, e1, hbl, hc⟩ := HA.out (by omega)
      subst e1
      have g1 : wr.cell? ⟨b, o + k * 2, none⟩ = some (.string (N k)) := by rw [hw0]; exact (hc k hlt).1
      have g2 : wr.cell? ⟨b, o + k * 2 + 1, none⟩ = some (.string (V k)) := by rw [hw0]; exact (hc k hlt).2
      clear hw0
      have hlt' : (k : Int) < (n : Int) := by omega
      clear hc
      go_wp2
      go_quiet ((go_at_call 39; exact Calls.quiet_of_same (cmp39 _ _)))
      go_wp2
      have g3 : (wr.drewN nq).cell? ⟨b, o + k * 2 + 1, none⟩ = some (.string (V k)) := g2
      generalize hw2 : wr.drewN nq = w2 at *
      have HW2 : Hid (w2 = wr.drewN nq) := hw2.symm
      clear hw2
      go_quiet ((go_at_call 39; exact Calls.quiet_of_same (cmp39 _ _)))
      go_wp2
      go_roundg (n - (k + 1))
      case measure => omega
      case rel => exact ⟨k + 1, by omega, rfl, by go_num, _, drewN_two HW.out HW2.out _⟩
    · have hkn : k = n := by omega
      subst hkn
      clear hw0
      have hlt' : decide ((k : Int) < (k : Int)) = false := by simp
      go_wp2
      go_ret
      exact ⟨rfl, nq0, HW.out⟩

end Go.Proofs.Qxb6615969a
