import Derived.Test.Qxb6615922aWalks
import Derived.RowKit3
namespace Go.Proofs.Qxb6615922a
open Go.RowKit

/-! ### Plain facts on the bits, behind plain names (no great numeral in a walk) -/

def negB (x : Nat) : Nat := Op.negFloat .f64 x
def fits (x : Nat) : Prop := x < 18446744073709551616
def eqF (x y : Nat) : Bool := FloatKind.f64.format.order x y == some .eq

theorem negB_eq (x : Nat) : negB x = x ^^^ 2 ^ 63 := rfl
theorem negB_mod (x : Nat) : negB x % 9223372036854775808 = x % 9223372036854775808 := by
  rw [negB_eq]
  have h : (9223372036854775808 : Nat) = 2 ^ 63 := by decide
  rw [h, Nat.xor_mod_two_pow, Nat.mod_self, Nat.xor_zero]
theorem negB_fits (x : Nat) (h : fits x) : fits (negB x) := by
  unfold fits at *
  rw [negB_eq]
  have e : (18446744073709551616 : Nat) = 2 ^ 64 := by decide
  rw [e] at *
  exact Nat.xor_lt_two_pow h (by decide)
theorem infB_neg (x : Nat) : infB (negB x) = infB x := by
  unfold infB; rw [Fl.isInf_eq, Fl.isInf_eq, negB_mod]

/-- The NaN that the tape gives where an operation has no answer. -/
def nanW (x y : Nat) (w : World) : Nat := (Question.nanBits .f64 x y).cut (w.tape w.drawn (.nanBits .f64 x y))

theorem nanW_big (x y : Nat) (w : World) : 9218868437227405312 < nanW x y w % 9223372036854775808 ∧ nanW x y w < 18446744073709551616 := by
  have key : ∀ t : Nat, 9218868437227405312 < ((t % 2) * 2 ^ 63 + 0x7ff0000000000000 + 1 + (t / 2) % (2 ^ 52 - 1)) % 9223372036854775808 ∧ (t % 2) * 2 ^ 63 + 0x7ff0000000000000 + 1 + (t / 2) % (2 ^ 52 - 1) < 18446744073709551616 := by
    intro t
    have h1 : t % 2 = 0 ∨ t % 2 = 1 := by omega
    rcases h1 with h1 | h1 <;> rw [h1] <;> omega
  exact key (w.tape w.drawn (.nanBits .f64 x y))

theorem run_float_none {P : Program} (op : BinOp) (t : TypeId) (x y : Nat) (hop : op = .sub ∨ op = .quo) (h : floatBits op .f64 x y = none) (w : World) :
    (binOp op t (.float .f64 x) (.float .f64 y)).run P w = .ok (.float .f64 (nanW x y w)) w.drew := by
  unfold floatBits at h
  rcases hop with rfl | rfl <;> simp only at h <;> simp [binOp, Op.floatArith, h, nanW, Question.forced]

/-- isInf8 with its premise behind a plain name. -/
theorem isInf8f (t : Int) (x : Nat) (hx : fits x) (w : World) :
    Calls Try.prog 8 #[.int .i64 t, .float .f64 x] w fun e w' => e = .returned (.bool (infB x)) ∧ w' = w.alloc (.cells #[.int .i64 t, .float .f64 x] 45) :=
  isInf8 t x hx w

theorem neg_run (x : Nat) : Op.unary .neg (.float .f64 x) = pure (.float .f64 (negB x)) := rfl

/-- v - v: its outcome d in world w, and the world behind. -/
theorem self_diff (x : Nat) :
    (∃ d : World → Nat, ∃ g : World → World, (∀ w, (binOp .sub 22 (.float .f64 x) (.float .f64 x)).run Try.prog w = .ok (.float .f64 (d w)) (g w)) ∧ (∀ w, Grown w (g w)) ∧
      (∀ w, ((FloatKind.f64.format.order (d w) (d w) != some .eq) && (FloatKind.f64.format.order x x == some .eq)) = infB x)) := by
  have hs := Fl.sub_self x
  have he := Fl.order_self x
  have hi := Fl.isInf_eq x
  by_cases hfin : x % 9223372036854775808 < 9218868437227405312
  · refine ⟨fun _ => 0, fun w => w, fun w => run_float_arith w .sub 22 .f64 x x 0 ?_, fun w => Grown.refl _, fun w => ?_⟩
    · show FloatKind.f64.format.sub x x = some 0
      rw [if_pos hfin] at hs; exact hs
    · have h0 : (FloatKind.f64.format.order 0 0 != some .eq) = false := by decide
      rw [h0, Bool.false_and]
      unfold infB; rw [hi]; symm; simp; omega
  · refine ⟨fun w => nanW x x w, fun w => w.drew, fun w => run_float_none .sub 22 x x (Or.inl rfl) ?_ w, fun w => (Grown.refl w).drew, fun w => ?_⟩
    · show FloatKind.f64.format.sub x x = none
      rw [if_neg hfin] at hs; exact hs
    · have hn := (nanW_big x x w).1
      have hd := Fl.order_self (nanW x x w)
      have hd2 : (FloatKind.f64.format.order (nanW x x w) (nanW x x w) == some .eq) = false := by
        show (Ieee.double.order (nanW x x w) (nanW x x w) == some .eq) = false
        rw [hd]; simp; omega
      have hd3 : (FloatKind.f64.format.order (nanW x x w) (nanW x x w) != some .eq) = true := by
        rw [bne, hd2]; rfl
      rw [hd3, Bool.true_and]
      show (Ieee.double.order x x == some .eq) = infB x
      unfold infB
      rw [he, hi]
      rw [Bool.eq_iff_iff]
      simp
      omega

set_option maxRecDepth 100000 in
set_option maxHeartbeats 1000000 in
theorem law3 (t1 t2 : Int) (x : Nat) (hx : fits x) (w : World) :
    Calls Try.prog 3 #[.int .i64 t1, .int .i64 t2, .float .f64 x] w fun e w' => e = .returned (.bool true) ∧ Grown w w' := by
  obtain ⟨d, g, hrun, hg, hw⟩ := self_diff x
  have hn := negB_fits x hx
  have hneg := neg_run x
  have HI := infB_neg x
  have hw1 := hw w
  clear hw
  by_cases c1 : FloatKind.f64.format.order (d w) (d w) = some .eq
  · have c2 : infB x = false := by rw [← hw1]; simp [c1]
    rw [c2] at HI
    clear hw1
    go_enter Try.func3, Try.ntmps3
    go_wp2_with fail
    refine (isInf8f t1 x hx _).mono ?_
    rintro e w' ⟨rfl, rfl⟩
    go_wp2_with fail
    refine (isInf8f t2 (negB x) hn _).mono ?_
    rintro e w' ⟨rfl, rfl⟩
    go_wp2_with fail
    go_ret
    exact ⟨rfl, ((hg w).alloc _ _).alloc _ _⟩
  · by_cases c3 : FloatKind.f64.format.order x x = some .eq
    · have c2 : infB x = true := by rw [← hw1]; simp [c1, c3]
      have c5 : (FloatKind.f64.format.order (d w) (d w) != some .eq) = true := by simp [c1]
      rw [c2] at HI
      clear hw1
      go_enter Try.func3, Try.ntmps3
      go_wp2_with fail
      refine (isInf8f t1 x hx _).mono ?_
      rintro e w' ⟨rfl, rfl⟩
      go_wp2_with fail
      refine (isInf8f t2 (negB x) hn _).mono ?_
      rintro e w' ⟨rfl, rfl⟩
      go_wp2_with fail
      go_ret
      exact ⟨rfl, ((hg w).alloc _ _).alloc _ _⟩
    · have c2 : infB x = false := by rw [← hw1]; simp [c3]
      have c4 : (FloatKind.f64.format.order x x == some .eq) = false := by simp [c3]
      rw [c2] at HI
      clear hw1
      go_enter Try.func3, Try.ntmps3
      go_wp2_with fail
      refine (isInf8f t1 x hx _).mono ?_
      rintro e w' ⟨rfl, rfl⟩
      go_wp2_with fail
      refine (isInf8f t2 (negB x) hn _).mono ?_
      rintro e w' ⟨rfl, rfl⟩
      go_wp2_with fail
      go_ret
      exact ⟨rfl, ((hg w).alloc _ _).alloc _ _⟩

/-- 1 / v: its outcome r in world w, the world behind, and what the five tests of the law say. -/
theorem recip (x : Nat) :
    (∃ r : World → Nat, ∃ g : World → World, (∀ w, (binOp .quo 22 (.float .f64 4607182418800017408) (.float .f64 x)).run Try.prog w = .ok (.float .f64 (r w)) (g w)) ∧ (∀ w, Grown w (g w)) ∧ (∀ w, fits (r w)) ∧
      (∀ w, infB x = ((FloatKind.f64.format.order x x == some .eq) && (FloatKind.f64.format.order (r w) 0 == some .eq)) ∧
        (infB x && infB (r w)) = false ∧ ((FloatKind.f64.format.order x 0 != some .eq) || infB (r w)) = true)) := by
  have he := Fl.order_self x
  have hi := Fl.isInf_eq x
  have hz := Fl.eq_zero x
  have valid : ∀ r0 : Nat, Ieee.double.div Fl.one x = some r0 →
      (infB x = ((FloatKind.f64.format.order x x == some .eq) && (FloatKind.f64.format.order r0 0 == some .eq)) ∧
        (infB x && infB r0) = false ∧ ((FloatKind.f64.format.order x 0 != some .eq) || infB r0) = true) →
      (∃ r : World → Nat, ∃ g : World → World, (∀ w, (binOp .quo 22 (.float .f64 4607182418800017408) (.float .f64 x)).run Try.prog w = .ok (.float .f64 (r w)) (g w)) ∧ (∀ w, Grown w (g w)) ∧ (∀ w, fits (r w)) ∧
      (∀ w, infB x = ((FloatKind.f64.format.order x x == some .eq) && (FloatKind.f64.format.order (r w) 0 == some .eq)) ∧
        (infB x && infB (r w)) = false ∧ ((FloatKind.f64.format.order x 0 != some .eq) || infB (r w)) = true)) := by
    intro r0 h0 hlaw
    refine ⟨fun _ => r0, fun w => w, fun w => run_float_arith w .quo 22 .f64 _ x r0 h0, fun w => Grown.refl _, fun w => ?_, fun w => hlaw⟩
    exact Ieee.Format.div_lt Ieee.double h0
  have hzc : (FloatKind.f64.format.order x 0 == some .eq) = (x % 9223372036854775808 == 0) := hz
  have hec : (FloatKind.f64.format.order x x == some .eq) = decide (x % 9223372036854775808 ≤ 9218868437227405312) := he
  have hz0 : ∀ r0, (FloatKind.f64.format.order r0 0 == some .eq) = (r0 % 9223372036854775808 == 0) := fun r0 => Fl.eq_zero r0
  by_cases c0 : x % 9223372036854775808 = 0
  · obtain ⟨r0, h0, hr⟩ := Fl.div_zero x c0
    refine valid r0 h0 ?_
    unfold infB
    rw [bne, hzc, hec, hz0 r0, hi, Fl.isInf_eq r0, c0, hr]
    decide
  · by_cases c1 : x % 9223372036854775808 < 9218868437227405312
    · obtain ⟨r0, h0, hr⟩ := Fl.div_fin x (by omega) c1
      refine valid r0 h0 ?_
      have e1 : (x % 9223372036854775808 == 9218868437227405312) = false := by simp; omega
      have e2 : (r0 % 9223372036854775808 == 0) = false := by simp; omega
      have e3 : (x % 9223372036854775808 == 0) = false := by simp; omega
      unfold infB
      rw [bne, hzc, hec, hz0 r0, hi, Fl.isInf_eq r0, e1, e2, e3]
      simp
    · by_cases c2 : x % 9223372036854775808 = 9218868437227405312
      · obtain ⟨r0, h0, hr⟩ := Fl.div_inf x c2
        refine valid r0 h0 ?_
        unfold infB
        rw [bne, hzc, hec, hz0 r0, hi, Fl.isInf_eq r0, c2, hr]
        decide
      · have h0 := Fl.div_nan x (by omega)
        have e1 : (x % 9223372036854775808 == 9218868437227405312) = false := by simp; omega
        have e3 : (x % 9223372036854775808 == 0) = false := by simp; omega
        have e4 : decide (x % 9223372036854775808 ≤ 9218868437227405312) = false := by simp; omega
        refine ⟨fun w => nanW 4607182418800017408 x w, fun w => w.drew, fun w => run_float_none .quo 22 _ x (Or.inr rfl) h0 w, fun w => (Grown.refl w).drew, fun w => (nanW_big _ _ w).2, fun w => ?_⟩
        have hn := (nanW_big 4607182418800017408 x w).1
        unfold infB
        rw [bne, hzc, hec, hi, e1, e3, e4]
        simp

set_option maxRecDepth 100000 in
set_option maxHeartbeats 2000000 in
theorem law4 (t : Int) (x : Nat) (hx : fits x) (w : World) :
    Calls Try.prog 4 #[.int .i64 t, .float .f64 x] w fun e w' => e = .returned (.bool true) ∧ Grown w w' := by
  obtain ⟨r, g, hrun, hg, hf, hl⟩ := recip x
  obtain ⟨l1, l2, l3⟩ := hl w
  have hn := hf w
  clear hl hf
  cases b1 : (FloatKind.f64.format.order x x == some .eq) <;> cases b2 : (FloatKind.f64.format.order (r w) 0 == some .eq) <;> cases b3 : (FloatKind.f64.format.order x 0 != some .eq) <;> cases b4 : infB (r w)
  all_goals (rw [b1, b2] at l1; rw [l1, b4] at l2; rw [b3, b4] at l3)
  all_goals first | exact absurd l2 (by decide) | exact absurd l3 (by decide) | skip
  all_goals (clear l2 l3; simp only [Bool.and_true, Bool.and_false] at l1)
  all_goals
    go_enter Try.func4, Try.ntmps4
    go_wp2_with fail
    refine (isInf8f t x hx _).mono ?_
    rintro e w' ⟨rfl, rfl⟩
    go_wp2_with fail
    refine (isInf8f t (r w) hn _).mono ?_
    rintro e w' ⟨rfl, rfl⟩
    go_wp2_with fail
    go_ret
    exact ⟨rfl, ((hg w).alloc _ _).alloc _ _⟩

end Go.Proofs.Qxb6615922a
