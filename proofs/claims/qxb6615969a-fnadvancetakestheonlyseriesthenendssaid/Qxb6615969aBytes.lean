import Derived.Test.Qxb6615969aProg
import Derived.Test.Qxb6615969aCells
import Derived.Deep.QuietTactic
import Derived.BigQuiet
namespace Go.Proofs.Qxb6615969a
open Go.RowKit

/-- zzBytes: it answers, the world stands, and where it says true no inner row is long. -/
def BytesPost (n : Nat) (L : Nat → Nat) (w : World) (e : Ending) (w' : World) : Prop :=
  w' = w ∧ ∃ b, e = .returned (.bool b) ∧ (b = true → ∀ i, i < n → L i ≤ 1048576)

theorem bytes_no (n : Nat) (L : Nat → Nat) (w : World) : BytesPost n L w (.returned (.bool false)) w := ⟨rfl, false, rfl, fun h => by cases h⟩

theorem le_step {L : Nat → Nat} {k : Nat} (h : ∀ j, j < k → L j ≤ 1048576) (hk : L k ≤ 1048576) : ∀ j, j < k + 1 → L j ≤ 1048576 := by
  intro j hj
  by_cases e : j = k
  · rw [e]; exact hk
  · exact h j (by omega)

set_option maxHeartbeats 4000000 in
theorem bytes_any (a0 a1 a2 a3 a4 : Option Addr) (n0 n1 n2 n3 n4 c0 c1 c2 c3 c4 : Nat) (S0 S1 : Nat → ByteArray) (A : Nat → Option Addr) (L C : Nat → Nat) (w : World)
    (h0 : Cells w a0 n0 (fun i => .string (S0 i))) (h1 : Cells w a1 n1 (fun i => .string (S1 i))) (h4 : Cells w a4 n4 (fun i => .slice (A i) (L i) (C i))) :
    Calls Try.prog 4 #[.slice a0 n0 c0, .slice a1 n1 c1, .slice a2 n2 c2, .slice a3 n3 c3, .slice a4 n4 c4] w fun e w' => BytesPost n4 L w e w' := by
  have H0 : Hid (Cells w a0 n0 (fun i => .string (S0 i))) := h0
  have H1 : Hid (Cells w a1 n1 (fun i => .string (S1 i))) := h1
  have H4 : Hid (Cells w a4 n4 (fun i => .slice (A i) (L i) (C i))) := h4
  clear h0 h1 h4
  go_enter Try.func4, Try.ntmps4
  go_wp2
  all_goals first | (go_ret; exact bytes_no _ _ _) | skip
  go_loop [11, 12] (fun z i => ∃ k : Nat, k ≤ n0 ∧ i = .int .i64 k ∧ ∃ q : Int, 0 ≤ q ∧ q ≤ 1048576 ∧ z = .int .i64 q) (fun _ i => n0 - (intOf i).toNat)
  case atStart => exact ⟨0, Nat.zero_le _, rfl, _, by omega, by omega, rfl⟩
  case round =>
    obtain ⟨k, hk, rfl, q, hq0, hq1, rfl⟩ := hrel
    by_cases hlt : k < n0
    · obtain ⟨b, o, e0, hbl, hc⟩ := H0.out (by omega)
      subst e0
      have g1 := hc k hlt
      clear hc
      go_wp2
      all_goals first | (go_ret; exact bytes_no _ _ _) | skip
      go_round
      case rel => exact ⟨k + 1, by omega, by go_num, _, by omega, by omega, rfl⟩
      case measure => simp [intOf]; omega
    · have hkn : k = n0 := by omega
      subst hkn
      clear hlt
      go_wp2
      all_goals first | (go_ret; exact bytes_no _ _ _) | skip
      go_loop [11, 13] (fun z i => ∃ k : Nat, k ≤ n1 ∧ i = .int .i64 k ∧ ∃ q : Int, 0 ≤ q ∧ q ≤ 1048576 ∧ z = .int .i64 q) (fun _ i => n1 - (intOf i).toNat)
      case atStart => exact ⟨0, Nat.zero_le _, rfl, _, by omega, by omega, rfl⟩
      case round =>
        obtain ⟨k, hk, rfl, q, hq0, hq1, rfl⟩ := hrel
        by_cases hlt : k < n1
        · obtain ⟨b, o, e0, hbl, hc⟩ := H1.out (by omega)
          subst e0
          have g1 := hc k hlt
          clear hc
          go_wp2
          all_goals first | (go_ret; exact bytes_no _ _ _) | skip
          go_round
          case rel => exact ⟨k + 1, by omega, by go_num, _, by omega, by omega, rfl⟩
          case measure => simp [intOf]; omega
        · have hkn : k = n1 := by omega
          subst hkn
          clear hlt
          go_wp2
          all_goals first | (go_ret; exact bytes_no _ _ _) | skip
          go_loop [11, 14] (fun z i => ∃ k : Nat, k ≤ n4 ∧ i = .int .i64 k ∧ ∃ q : Int, 0 ≤ q ∧ q ≤ 1048576 ∧ z = .int .i64 q ∧ ∀ j, j < k → L j ≤ 1048576) (fun _ i => n4 - (intOf i).toNat)
          case atStart => exact ⟨0, Nat.zero_le _, rfl, _, by omega, by omega, rfl, fun j hj => absurd hj (Nat.not_lt_zero _)⟩
          case round =>
            obtain ⟨k, hk, rfl, q, hq0, hq1, rfl, hL⟩ := hrel
            have HL : Hid (∀ j, j < k → L j ≤ 1048576) := hL
            clear hL
            by_cases hlt : k < n4
            · obtain ⟨b, o, e0, hbl, hc⟩ := H4.out (by omega)
              subst e0
              have g1 := hc k hlt
              clear hc
              by_cases hLk : L k ≤ 1048576
              · go_wp2
                all_goals first | (go_ret; exact bytes_no _ _ _) | skip
                go_round
                case rel => exact ⟨k + 1, by omega, by go_num, _, by omega, by omega, rfl, le_step HL.out hLk⟩
                case measure => simp [intOf]; omega
              · go_wp2
                all_goals (go_ret; exact bytes_no _ _ _)
            · have hkn : k = n4 := by omega
              subst hkn
              clear hlt
              go_wp2
              go_ret
              exact ⟨rfl, true, rfl, fun _ => HL.out⟩

set_option maxHeartbeats 1000000 in
/-- Two rows with the same bytes: the same. -/
theorem same_bytes (a b : Option Addr) (n c d : Nat) (Z : Nat → Int) (w : World) (hn : n ≤ 1048576) (ha : Cells w a n (fun i => .int .u8 (Z i))) (hb : Cells w b n (fun i => .int .u8 (Z i))) :
    Calls Try.prog 14 #[.slice a n c, .slice b n d] w fun e w' => e = .returned (.bool true) ∧ ∃ nq, w' = w.drewN nq := by
  have HA : Hid (Cells w a n (fun i => .int .u8 (Z i))) := ha
  have HB : Hid (Cells w b n (fun i => .int .u8 (Z i))) := hb
  clear ha hb
  go_enter Try.func14, Try.ntmps14
  go_wp2
  go_loopg [5] n (fun g i wr => ∃ k : Nat, k ≤ n ∧ g = n - k ∧ i = .int .i64 k ∧ ∃ nq, wr = w.drewN nq)
  case atStart => exact ⟨0, Nat.zero_le _, rfl, rfl, 0, rfl⟩
  case round =>
    obtain ⟨k, hk, rfl, rfl, nq, rfl⟩ := hrel
    by_cases hlt : k < n
    · obtain ⟨b1, o1, e1, hbl1, hc1⟩ := HA.out (by omega)
      obtain ⟨b2, o2, e2, hbl2, hc2⟩ := HB.out (by omega)
      subst e1 e2
      have g1 := hc1 k hlt
      have g2 := hc2 k hlt
      have hlt' : (k : Int) < (n : Int) := by omega
      clear hc1 hc2
      go_wp2
      go_quiet (fail)
      go_wp2
      go_roundg (n - (k + 1))
      case measure => omega
      case rel => exact ⟨k + 1, by omega, rfl, by go_num, _, rfl⟩
    · have hkn : k = n := by omega
      subst hkn
      go_wp2
      go_ret
      exact ⟨rfl, nq, rfl⟩

end Go.Proofs.Qxb6615969a
