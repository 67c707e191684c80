import Derived.Test.Qxb6614555aProg
import Derived.WalkKit
import Derived.WalkLawsBesides
import Derived.Deep.QuietTactic
import Derived.BigQuiet
namespace Go.Proofs.Qxb6614555a
open Go.RowKit

theorem build26 (i : Bool) (p : Option Addr) (n : Int) (w : World) : (Instr.build 26 #[(0, .bool i), (1, .pointer p), (2, .int .i64 n)]).run Try.prog w = .ok (.agg #[.bool i, .pointer p, .int .i64 n]) w := run_build w 26 _ _ (by kernel_rfl)

set_option maxHeartbeats 400000 in
theorem pos_no (p : Option Addr) (n : Int) (w : World) :
    Calls Try.prog 6 #[.agg #[.bool false, .pointer p, .int .i64 n]] w fun e w' => e = .returned (.bool false) ∧ ∃ nq, w' = (w.alloc (.cells #[.bool false, .pointer p, .int .i64 n] 26)).drewN nq := by
  go_enter Try.func6, Try.ntmps6
  go_wp2
  go_quiet (fail)
  go_wp2
  go_ret
  exact ⟨rfl, _, rfl⟩

set_option maxHeartbeats 400000 in
theorem pos_yes (b o : Nat) (m n : Int) (w : World) (hb : b < w.heap.size) (hc : w.cell? ⟨b, o, none⟩ = some (.int .i64 m)) :
    Calls Try.prog 6 #[.agg #[.bool true, .pointer (some ⟨b, o, none⟩), .int .i64 n]] w fun e w' => e = .returned (.bool (m == n)) ∧ ∃ nq, w' = (w.alloc (.cells #[.bool true, .pointer (some ⟨b, o, none⟩), .int .i64 n] 26)).drewN nq := by
  go_enter Try.func6, Try.ntmps6
  go_wp2
  go_quiet (fail)
  go_wp2
  go_ret
  exact ⟨rfl, _, rfl⟩

set_option maxHeartbeats 400000 in
theorem zz_no (p : Option Addr) (n : Int) (w : World) :
    Calls Try.prog 5 #[.bool false, .pointer p, .int .i64 n] w fun e w' => e = .returned (.bool false) ∧ ∃ nq, w' = (w.alloc (.cells #[.bool false, .pointer p, .int .i64 n] 26)).drewN nq := by
  have hb26 := build26
  go_enter Try.func5, Try.ntmps5
  go_wp2_with (go_at_call 6; refine (pos_no p n _).mono ?_; rintro e w' ⟨rfl, nq, rfl⟩)
  go_ret
  exact ⟨rfl, _, rfl⟩

set_option maxHeartbeats 400000 in
theorem zz_yes (b o : Nat) (m n : Int) (w : World) (hb : b < w.heap.size) (hc : w.cell? ⟨b, o, none⟩ = some (.int .i64 m)) :
    Calls Try.prog 5 #[.bool true, .pointer (some ⟨b, o, none⟩), .int .i64 n] w fun e w' => e = .returned (.bool (m == n)) ∧ ∃ nq, w' = (w.alloc (.cells #[.bool true, .pointer (some ⟨b, o, none⟩), .int .i64 n] 26)).drewN nq := by
  have hb26 := build26
  go_enter Try.func5, Try.ntmps5
  go_wp2_with (go_at_call 6; refine (pos_yes b o m n _ hb hc).mono ?_; rintro e w' ⟨rfl, nq, rfl⟩)
  go_ret
  exact ⟨rfl, _, rfl⟩

theorem shift_same (c p k : Int) (hc : (Lit.int .i64 c).wf = true) (hp : (Lit.int .i64 p).wf = true) : (wrap64 (c + k) == wrap64 (p + k)) = (c == p) := by
  simp only [Lit.wf, IntKind.min, IntKind.max, IntKind.bits, IntKind.signed, Bool.and_eq_true, decide_eq_true_eq] at hc hp
  rw [Bool.eq_iff_iff]
  simp only [beq_iff_eq]
  unfold wrap64
  simp at hc hp
  constructor
  · intro h; omega
  · intro h; subst h; rfl

set_option maxHeartbeats 400000 in
theorem law3_nil_yes (n k : Int) (w : World) :
    Calls Try.prog 3 #[.bool true, .pointer none, .int .i64 n, .int .i64 k] w fun e w' => e = .returned (.bool true) ∧ Below w.heap.size w w' := by
  go_enter Try.func3, Try.ntmps3
  go_wp2_with fail
  go_ret
  exact ⟨rfl, Below.refl _ _⟩

set_option maxHeartbeats 400000 in
theorem law3_nil_no (n k : Int) (w : World) :
    Calls Try.prog 3 #[.bool false, .pointer none, .int .i64 n, .int .i64 k] w fun e w' => e = .returned (.bool true) ∧ Below w.heap.size w w' := by
  go_enter Try.func3, Try.ntmps3
  go_wp2_with fail
  refine (zz_no _ _ _).mono ?_
  rintro e w' ⟨rfl, n1, rfl⟩
  go_wp2_with fail
  refine (zz_no _ _ _).mono ?_
  rintro e w' ⟨rfl, n2, rfl⟩
  go_wp2_with fail
  refine (zz_no _ _ _).mono ?_
  rintro e w' ⟨rfl, n3, rfl⟩
  go_wp2_with fail
  refine (zz_no _ _ _).mono ?_
  rintro e w' ⟨rfl, n4, rfl⟩
  go_wp2_with fail
  go_ret
  exact ⟨rfl, by repeat (first | exact Below.refl _ _ | refine below_drewN ?_ _ | refine Below.alloc ?_ (by first | (simp; done) | (simp; omega)) _)⟩

set_option maxHeartbeats 400000 in
theorem law3_no (b o : Nat) (m n k : Int) (w : World) (_hb : b < w.heap.size) (hc : w.cell? ⟨b, o, none⟩ = some (.int .i64 m)) :
    Calls Try.prog 3 #[.bool false, .pointer (some ⟨b, o, none⟩), .int .i64 n, .int .i64 k] w fun e w' => e = .returned (.bool true) ∧ Below w.heap.size w w' := by
  go_enter Try.func3, Try.ntmps3
  go_wp2_with fail
  refine (zz_no _ _ _).mono ?_
  rintro e w' ⟨rfl, n1, rfl⟩
  go_wp2_with fail
  refine (zz_no _ _ _).mono ?_
  rintro e w' ⟨rfl, n2, rfl⟩
  go_wp2_with fail
  refine (zz_no _ _ _).mono ?_
  rintro e w' ⟨rfl, n3, rfl⟩
  go_wp2_with fail
  refine (zz_no _ _ _).mono ?_
  rintro e w' ⟨rfl, n4, rfl⟩
  go_wp2_with fail
  go_ret
  exact ⟨rfl, by repeat (first | exact Below.refl _ _ | refine below_drewN ?_ _ | refine Below.alloc ?_ (by first | (simp; done) | (simp; omega)) _)⟩

set_option maxHeartbeats 400000 in
theorem law3_yes (b o : Nat) (m n k : Int) (w : World) (_hb : b < w.heap.size) (hc : w.cell? ⟨b, o, none⟩ = some (.int .i64 m)) (hm : (Lit.int .i64 m).wf = true) (hn : (Lit.int .i64 n).wf = true) :
    Calls Try.prog 3 #[.bool true, .pointer (some ⟨b, o, none⟩), .int .i64 n, .int .i64 k] w fun e w' => e = .returned (.bool true) ∧ Below w.heap.size w w' := by
  have hs := shift_same m n k hm hn
  clear hm hn
  go_enter Try.func3, Try.ntmps3
  go_wp2_with fail
  refine (zz_yes (w.heap.size + 1) 0 n n _ ?_ ?_).mono ?_
  · go_simp
  · go_simp
  rintro e w' ⟨rfl, n1, rfl⟩
  go_wp2_with fail
  refine (zz_no _ _ _).mono ?_
  rintro e w' ⟨rfl, n2, rfl⟩
  go_wp2_with fail
  refine (zz_yes w.heap.size 0 m n _ ?_ ?_).mono ?_
  · go_simp
  · go_simp
  rintro e w' ⟨rfl, n3, rfl⟩
  go_wp2_with fail
  refine (zz_yes _ 0 (wrap64 (m + k)) (wrap64 (n + k)) _ ?_ ?_).mono ?_
  · go_simp
  · go_simp
  rintro e w' ⟨rfl, n4, rfl⟩
  go_wp2_with fail
  go_ret
  exact ⟨rfl, by repeat (first | exact Below.refl _ _ | refine below_drewN ?_ _ | refine Below.alloc ?_ (by first | (simp; done) | (simp; omega)) _)⟩

set_option maxHeartbeats 400000 in
theorem law4_nil_yes (n : Int) (w : World) :
    Calls Try.prog 4 #[.bool true, .pointer none, .int .i64 n] w fun e w' => e = .returned (.bool true) ∧ Below w.heap.size w w' := by
  go_enter Try.func4, Try.ntmps4
  go_wp2_with fail
  go_ret
  exact ⟨rfl, Below.refl _ _⟩

set_option maxHeartbeats 400000 in
theorem law4_nil_no (n : Int) (w : World) :
    Calls Try.prog 4 #[.bool false, .pointer none, .int .i64 n] w fun e w' => e = .returned (.bool true) ∧ Below w.heap.size w w' := by
  go_enter Try.func4, Try.ntmps4
  go_wp2_with fail
  refine (zz_no _ _ _).mono ?_
  rintro e w' ⟨rfl, n1, rfl⟩
  go_wp2_with fail
  go_ret
  exact ⟨rfl, by repeat (first | exact Below.refl _ _ | refine below_drewN ?_ _ | refine Below.alloc ?_ (by first | (simp; done) | (simp; omega)) _)⟩

set_option maxHeartbeats 400000 in
theorem law4_no (b o : Nat) (m n : Int) (w : World) (_hb : b < w.heap.size) (hc : w.cell? ⟨b, o, none⟩ = some (.int .i64 m)) :
    Calls Try.prog 4 #[.bool false, .pointer (some ⟨b, o, none⟩), .int .i64 n] w fun e w' => e = .returned (.bool true) ∧ Below w.heap.size w w' := by
  cases hne : (n != m)
  all_goals
    go_enter Try.func4, Try.ntmps4
    go_wp2_with fail
    refine (zz_no _ _ _).mono ?_
    rintro e w' ⟨rfl, n1, rfl⟩
    go_wp2_with fail
    refine (zz_no _ _ _).mono ?_
    rintro e w' ⟨rfl, n2, rfl⟩
    go_wp2_with fail
    go_ret
    exact ⟨rfl, by repeat (first | exact Below.refl _ _ | refine below_drewN ?_ _ | refine Below.alloc ?_ (by first | (simp; done) | (simp; omega)) _)⟩

set_option maxHeartbeats 400000 in
theorem law4_yes (b o : Nat) (m n : Int) (w : World) (_hb : b < w.heap.size) (hc : w.cell? ⟨b, o, none⟩ = some (.int .i64 m)) :
    Calls Try.prog 4 #[.bool true, .pointer (some ⟨b, o, none⟩), .int .i64 n] w fun e w' => e = .returned (.bool true) ∧ Below w.heap.size w w' := by
  by_cases hnm : m = n
  · subst hnm
    go_enter Try.func4, Try.ntmps4
    go_wp2_with fail
    refine (zz_yes (w.heap.size + 1) 0 m m _ ?_ ?_).mono ?_
    · go_simp
    · go_simp
    rintro e w' ⟨rfl, n1, rfl⟩
    go_wp2_with fail
    refine (zz_yes w.heap.size 0 m m _ ?_ ?_).mono ?_
    · go_simp
    · go_simp
    rintro e w' ⟨rfl, n2, rfl⟩
    go_wp2_with fail
    go_ret
    exact ⟨rfl, by repeat (first | exact Below.refl _ _ | refine below_drewN ?_ _ | refine Below.alloc ?_ (by first | (simp; done) | (simp; omega)) _)⟩
  · have h1 : (m == n) = false := by simp [hnm]
    have h2 : (n != m) = true := by simp; omega
    go_enter Try.func4, Try.ntmps4
    go_wp2_with fail
    refine (zz_yes (w.heap.size + 1) 0 m m _ ?_ ?_).mono ?_
    · go_simp
    · go_simp
    rintro e w' ⟨rfl, n1, rfl⟩
    go_wp2_with fail
    refine (zz_yes w.heap.size 0 m n _ ?_ ?_).mono ?_
    · go_simp
    · go_simp
    rintro e w' ⟨rfl, n2, rfl⟩
    go_wp2_with fail
    go_ret
    exact ⟨rfl, by repeat (first | exact Below.refl _ _ | refine below_drewN ?_ _ | refine Below.alloc ?_ (by first | (simp; done) | (simp; omega)) _)⟩

end Go.Proofs.Qxb6614555a
