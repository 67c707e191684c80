import Derived.Test.Qxb6615922aProg
import Derived.Test.Qxb6615922aFloat
import Derived.WalkKit
import Derived.WalkLawsBesides
import Derived.Laws.Externs
import Derived.Laws.BitsAllLaws
namespace Go.Proofs.Qxb6615922a
open Go.RowKit

theorem call35 (x : Nat) (w : World) : (callFunc 35 #[.float .f64 x]).run Try.prog w = .ok (.value (.int .u64 x)) w := by
  rw [run_callFunc_extern Try.func35 (by kernel_rfl) (by kernel_rfl) (by kernel_rfl) (e := Extern.MathFloatBits.float64bits) (by kernel_rfl)]
  rfl

theorem call34 (x : Nat) (w : World) : (callFunc 34 #[.int .u64 (x : Int)]).run Try.prog w = .ok (.value (.float .f64 x)) w := by
  rw [run_callFunc_extern Try.func34 (by kernel_rfl) (by kernel_rfl) (by kernel_rfl) (e := Extern.MathFloatBits.float64frombits) (by kernel_rfl)]
  rfl

theorem clear_sign (x : Nat) (h : x < 18446744073709551616) : bits .andNot .u64 (x : Int) 9223372036854775808 = ((x % 9223372036854775808 : Nat) : Int) := by
  have e := u64_andNot_nat x 9223372036854775808 h (by decide)
  rw [show (((9223372036854775808 : Nat) : Int)) = 9223372036854775808 from rfl] at e
  rw [e]
  have : (18446744073709551615 - 9223372036854775808 : Nat) = 2 ^ 63 - 1 := by decide
  rw [this, Nat.and_two_pow_sub_one_eq_mod]

def absB (x : Nat) : Nat := x % 9223372036854775808

theorem call34b (x : Nat) (h : x < 18446744073709551616) (w : World) : (callFunc 34 #[.int .u64 (bits .andNot .u64 (x : Int) 9223372036854775808)]).run Try.prog w = .ok (.value (.float .f64 (absB x))) w := by
  rw [clear_sign x h, call34]; rfl

set_option maxRecDepth 100000 in
set_option maxHeartbeats 400000 in
theorem abs_walk (x : Nat) (hx : x < 18446744073709551616) (w : World) :
    Calls Try.prog 30 #[.float .f64 x] w fun e w' => e = .returned (.float .f64 (absB x)) ∧ w' = w := by
  have h35 := call35
  go_enter Try.func30, Try.ntmps30
  have HX : Hid (x < 18446744073709551616) := hx
  clear hx
  go_wp2
  rw [call34b x HX.out]
  go_wp2
  go_ret
  exact ⟨rfl, rfl⟩

def infB (x : Nat) : Bool := Fl.isInf x

theorem infB_eq (x : Nat) : (FloatKind.f64.format.order (absB x) 9218868437227405311 == some .gt) = infB x := rfl

set_option maxRecDepth 100000 in
set_option maxHeartbeats 400000 in
theorem isInf25 (x : Nat) (hx : x < 18446744073709551616) (w : World) :
    Calls Try.prog 25 #[.float .f64 x, .int .i64 0] w fun e w' => e = .returned (.bool (infB x)) ∧ w' = w := by
  have HX : Hid (x < 18446744073709551616) := hx
  clear hx
  go_enter Try.func25, Try.ntmps25
  go_wp2_with (go_at_call 30; refine (abs_walk x HX.out _).mono ?_; rintro e w' ⟨rfl, rfl⟩)
  go_ret
  exact ⟨rfl, rfl⟩

theorem build45 (t : Int) (x : Nat) (w : World) : (Instr.build 45 #[(0, .int .i64 t), (1, .float .f64 x)]).run Try.prog w = .ok (.agg #[.int .i64 t, .float .f64 x]) w := run_build w 45 _ _ (by kernel_rfl)

set_option maxRecDepth 100000 in
set_option maxHeartbeats 400000 in
theorem isInf20 (t : Int) (x : Nat) (hx : x < 18446744073709551616) (w : World) :
    Calls Try.prog 20 #[.agg #[.int .i64 t, .float .f64 x]] w fun e w' => e = .returned (.bool (infB x)) ∧ w' = w.alloc (.cells #[.int .i64 t, .float .f64 x] 45) := by
  have HX : Hid (x < 18446744073709551616) := hx
  clear hx
  go_enter Try.func20, Try.ntmps20
  go_wp2_with (go_at_call 25; refine (isInf25 x HX.out _).mono ?_; rintro e w' ⟨rfl, rfl⟩)
  go_ret
  exact ⟨rfl, rfl⟩

set_option maxRecDepth 100000 in
set_option maxHeartbeats 400000 in
theorem isInf8 (t : Int) (x : Nat) (hx : x < 18446744073709551616) (w : World) :
    Calls Try.prog 8 #[.int .i64 t, .float .f64 x] w fun e w' => e = .returned (.bool (infB x)) ∧ w' = w.alloc (.cells #[.int .i64 t, .float .f64 x] 45) := by
  have HX : Hid (x < 18446744073709551616) := hx
  clear hx
  have hb := build45
  go_enter Try.func8, Try.ntmps8
  go_wp2_with (go_at_call 20; refine (isInf20 t x HX.out _).mono ?_; rintro e w' ⟨rfl, rfl⟩)
  go_ret
  exact ⟨rfl, rfl⟩

end Go.Proofs.Qxb6615922a
