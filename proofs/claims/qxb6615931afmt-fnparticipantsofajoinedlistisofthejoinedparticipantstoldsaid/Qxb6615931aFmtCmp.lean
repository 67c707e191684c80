import Derived.Test.Qxb6615931aFmtProg
import Derived.Test.Qxb6615931aFmtCells
import Derived.Test.Qxb6615931aFmtPlain
import Derived.Deep.QuietTactic
import Derived.BigQuiet
import Derived.Laws.Externs
namespace Go.Proofs.Qxb6615931aFmt
open Go.RowKit

theorem call34 (s t : ByteArray) (w : World) : (callFunc 34 #[.string s, .string t]).run Tryf.prog w = .ok (.value (.int .i64 (Lib.compareBytes s.data.toList t.data.toList))) w := by
  rw [run_callFunc_extern Tryf.func34 (by kernel_rfl) (by kernel_rfl) (by kernel_rfl) (e := Extern.BytealgCompare.compare) (by kernel_rfl)]
  have e1 : (Extern.BytealgCompare.compare #[.string s, .string t]).run Tryf.prog w = .ok (goInt (Extern.BytealgCompare.cmp s t)) w := rfl
  rw [e1, Lib.cmp_eq]; rfl

theorem cmp22 (s t : ByteArray) (w : World) : Calls Tryf.prog 22 #[.string s, .string t] w fun e w' => e = .returned (.int .i64 (Lib.compareBytes s.data.toList t.data.toList)) ∧ w' = w := by
  have h34 := call34
  go_enter Tryf.func22, Tryf.ntmps22
  go_wp2
  go_ret
  exact ⟨rfl, rfl⟩

theorem cmp16 (s t : ByteArray) (w : World) : Calls Tryf.prog 16 #[.string s, .string t] w fun e w' => e = .returned (.int .i64 (Lib.compareBytes s.data.toList t.data.toList)) ∧ w' = w := by
  have hc := cmp22 s t w
  generalize Lib.compareBytes s.data.toList t.data.toList = r at hc ⊢
  go_enter Tryf.func16, Tryf.ntmps16
  go_wp2_with (go_at_call 22; refine hc.mono ?_; rintro e w' ⟨rfl, rfl⟩)
  go_ret
  exact ⟨rfl, rfl⟩

def cmpI (x y : Int) : Int := if x < y then -1 else if y < x then 1 else 0

theorem nan23 (x : Int) (w : World) : Calls Tryf.prog 23 #[.int .i64 x] w fun e w' => e = .returned (.bool false) ∧ w' = w := by
  go_enter Tryf.func23, Tryf.ntmps23
  go_wp2
  go_ret
  exact ⟨by simp, rfl⟩

theorem cmp17 (x y : Int) (w : World) : Calls Tryf.prog 17 #[.int .i64 x, .int .i64 y] w fun e w' => e = .returned (.int .i64 (cmpI x y)) ∧ w' = w := by
  unfold cmpI
  by_cases h1 : x < y
  · rw [if_pos h1]
    go_enter Tryf.func17, Tryf.ntmps17
    go_wp2_with (go_at_call 23; refine (nan23 _ _).mono ?_; rintro e w' ⟨rfl, rfl⟩)
    go_ret
    exact ⟨rfl, rfl⟩
  · rw [if_neg h1]
    by_cases h2 : y < x
    · rw [if_pos h2]
      go_enter Tryf.func17, Tryf.ntmps17
      go_wp2_with (go_at_call 23; refine (nan23 _ _).mono ?_; rintro e w' ⟨rfl, rfl⟩)
      go_ret
      exact ⟨rfl, rfl⟩
    · rw [if_neg h2]
      go_enter Tryf.func17, Tryf.ntmps17
      go_wp2_with (go_at_call 23; refine (nan23 _ _).mono ?_; rintro e w' ⟨rfl, rfl⟩)
      go_ret
      exact ⟨rfl, rfl⟩

def or3 (x y z : Int) : Int := if x ≠ 0 then x else if y ≠ 0 then y else z

set_option maxHeartbeats 1000000 in
theorem or15 (b c : Nat) (x y z : Int) (w : World) (h0 : w.cell? ⟨b, 0, none⟩ = some (.int .i64 x)) (h1 : w.cell? ⟨b, 1, none⟩ = some (.int .i64 y)) (h2 : w.cell? ⟨b, 2, none⟩ = some (.int .i64 z)) :
    Calls Tryf.prog 15 #[.slice (some ⟨b, 0, none⟩) 3 c] w fun e w' => e = .returned (.int .i64 (or3 x y z)) ∧ w' = w := by
  unfold or3
  by_cases e0 : x = 0
  · subst e0
    rw [if_neg (by simp)]
    by_cases e1 : y = 0
    · subst e1
      rw [if_neg (by simp)]
      by_cases e2 : z = 0
      · subst e2
        go_enter Tryf.func15, Tryf.ntmps15
        go_wp2
        refine wp_loop_rounds 4 ?_
        rw [rounds_succ]
        go_wp2
        rw [rounds_succ]
        go_wp2
        rw [rounds_succ]
        go_wp2
        rw [rounds_succ]
        go_wp2
        go_ret
        exact ⟨rfl, rfl⟩
      · have n2 : (z != 0) = true := by simp [e2]
        go_enter Tryf.func15, Tryf.ntmps15
        go_wp2
        refine wp_loop_rounds 4 ?_
        rw [rounds_succ]
        go_wp2
        rw [rounds_succ]
        go_wp2
        rw [rounds_succ]
        go_wp2
        go_ret
        exact ⟨rfl, rfl⟩
    · have n1 : (y != 0) = true := by simp [e1]
      rw [if_pos e1]
      go_enter Tryf.func15, Tryf.ntmps15
      go_wp2
      refine wp_loop_rounds 4 ?_
      rw [rounds_succ]
      go_wp2
      rw [rounds_succ]
      go_wp2
      go_ret
      exact ⟨rfl, rfl⟩
  · have n0 : (x != 0) = true := by simp [e0]
    rw [if_pos e0]
    go_enter Tryf.func15, Tryf.ntmps15
    go_wp2
    refine wp_loop_rounds 4 ?_
    rw [rounds_succ]
    go_wp2
    go_ret
    exact ⟨rfl, rfl⟩

end Go.Proofs.Qxb6615931aFmt
