import Ieee.Arith
namespace Go.Proofs.Qxb6615922a.Fl
open Ieee

theorem d_sw : Ieee.double.signWeight = 9223372036854775808 := rfl
theorem d_bin : Ieee.double.binade = 4503599627370496 := rfl
theorem d_inf : Ieee.double.infRung = 9218868437227405312 := rfl
theorem d_lp : Ieee.double.leastPlace = -1074 := rfl
theorem d_fb : Ieee.double.fractionBits = 52 := rfl

/-- The greatest finite float64. -/
def maxF : Nat := 9218868437227405311

theorem read_maxF : Ieee.double.read maxF = .number false 9007199254740991 971 := by rfl

/-- What math.IsInf(f, 0) computes from the bits of f. -/
def isInf (x : Nat) : Bool := Ieee.double.order (x % 9223372036854775808) maxF == some .gt

def sgn (x : Nat) : Bool := x / 9223372036854775808 % 2 == 1

def shapeG (B I : Nat) (L : Int) (s : Bool) (r : Nat) : Datum :=
  if r < B then .number s r L
  else if r < I then .number s (B + r % B) (L + (r / B - 1 : Nat))
  else if r = I then .infinity s
  else .nan s (r - I)

def shape (s : Bool) (r : Nat) : Datum := shapeG 4503599627370496 9218868437227405312 (-1074) s r

theorem read_gen (x : Nat) : Ieee.double.read x = shapeG Ieee.double.binade Ieee.double.infRung Ieee.double.leastPlace (x / Ieee.double.signWeight % 2 == 1) (x % Ieee.double.signWeight) := by
  unfold Ieee.Format.read shapeG
  dsimp only

theorem read_eq (x : Nat) : Ieee.double.read x = shape (sgn x) (x % 9223372036854775808) := by
  rw [read_gen, d_sw, d_bin, d_inf, d_lp]
  unfold shape sgn
  rfl

/-- The four shapes of a word. -/
theorem shape_cases (s : Bool) (r : Nat) :
    (r = 0 ∧ shape s r = .number s 0 (-1074)) ∨
    (∃ m : Nat, ∃ p : Int, 0 < m ∧ m < 9007199254740992 ∧ -1074 ≤ p ∧ p ≤ 971 ∧ 0 < r ∧ r < 9218868437227405312 ∧ shape s r = .number s m p) ∨
    (r = 9218868437227405312 ∧ shape s r = .infinity s) ∨
    (9218868437227405312 < r ∧ ∃ f, shape s r = .nan s f) := by
  unfold shape shapeG
  by_cases h1 : r < 4503599627370496
  · rw [if_pos h1]
    by_cases h0 : r = 0
    · left; subst h0; exact ⟨rfl, rfl⟩
    · right; left
      exact ⟨r, -1074, by omega, by omega, by omega, by omega, by omega, by omega, rfl⟩
  · rw [if_neg h1]
    by_cases h2 : r < 9218868437227405312
    · rw [if_pos h2]
      right; left
      refine ⟨_, _, ?_, ?_, ?_, ?_, by omega, h2, rfl⟩
      · omega
      · omega
      · omega
      · have : r / 4503599627370496 ≤ 2046 := by omega
        omega
    · rw [if_neg h2]
      by_cases h3 : r = 9218868437227405312
      · rw [if_pos h3]; right; right; left; exact ⟨h3, rfl⟩
      · rw [if_neg h3]; right; right; right; exact ⟨by omega, _, rfl⟩

theorem cmp_not_gt {a b : Int} (h : a ≤ b) : (some (compare a b) == some Ordering.gt) = false := by
  have h1 : compare a b ≠ .gt := fun e => by
    rw [Int.compare_eq_gt] at e; omega
  revert h1
  cases compare a b <;> simp

theorem isInf_eq (x : Nat) : isInf x = (x % 9223372036854775808 == 9218868437227405312) := by
  unfold isInf Ieee.Format.order
  rw [read_maxF, read_eq]
  have hlt : x % 9223372036854775808 < 9223372036854775808 := Nat.mod_lt _ (by decide)
  revert hlt
  generalize x % 9223372036854775808 = r
  intro hlt
  have hm : r % 9223372036854775808 = r := Nat.mod_eq_of_lt hlt
  have hd : sgn r = false := by unfold sgn; rw [Nat.div_eq_of_lt hlt]; rfl
  rw [hm, hd]
  rcases shape_cases false r with ⟨h0, e⟩ | ⟨m, p, hm0, hm1, hp0, hp1, hr0, hr1, e⟩ | ⟨h0, e⟩ | ⟨h0, f, e⟩
  · subst h0
    rw [e]; rfl
  · rw [e]
    have : (r == 9218868437227405312) = false := by simp; omega
    rw [this]
    have hmin : min p (971 : Int) = p := by omega
    simp only [Datum.order, hmin, Int.sub_self]
    refine cmp_not_gt ?_
    have : 1 ≤ 2 ^ (971 - p).toNat := Nat.one_le_two_pow
    have h2 : 9007199254740991 * 1 ≤ 9007199254740991 * 2 ^ (971 - p).toNat := Nat.mul_le_mul_left _ this
    have h3 : m ≤ 9007199254740991 * 2 ^ (971 - p).toNat := by omega
    simp only [signed, Nat.shiftLeft_eq]
    simpa using (Int.ofNat_le.2 h3)
  · subst h0
    rw [e]; rfl
  · rw [e]
    have : (r == 9218868437227405312) = false := by simp; omega
    rw [this]; rfl

theorem order_self (x : Nat) : (Ieee.double.order x x == some .eq) = decide (x % 9223372036854775808 ≤ 9218868437227405312) := by
  unfold Ieee.Format.order
  rw [read_eq]
  generalize x % 9223372036854775808 = r
  generalize sgn x = s
  rcases shape_cases s r with ⟨h0, e⟩ | ⟨m, p, hm0, hm1, hp0, hp1, hr0, hr1, e⟩ | ⟨h0, e⟩ | ⟨h0, f, e⟩
  · rw [e]; subst h0; cases s <;> rfl
  · rw [e]
    have : decide (r ≤ 9218868437227405312) = true := by simp; omega
    rw [this]
    simp [Datum.order]
  · rw [e]; subst h0; cases s <;> rfl
  · rw [e]
    have : decide (r ≤ 9218868437227405312) = false := by simp; omega
    rw [this]; rfl

/-- v - v: nought for a finite v; no number otherwise. -/
theorem sub_self (x : Nat) : Ieee.double.sub x x = if x % 9223372036854775808 < 9218868437227405312 then some 0 else none := by
  unfold Ieee.Format.sub
  rw [read_eq]
  generalize x % 9223372036854775808 = r
  generalize sgn x = s
  rcases shape_cases s r with ⟨h0, e⟩ | ⟨m, p, hm0, hm1, hp0, hp1, hr0, hr1, e⟩ | ⟨h0, e⟩ | ⟨h0, f, e⟩
  · rw [e]; subst h0; cases s <;> rfl
  · rw [e, if_pos hr1]
    simp only [Datum.opposite, Datum.sum, Int.min_self, Int.sub_self]
    have hz : signed s m (Int.toNat 0) + signed (!s) m (Int.toNat 0) = 0 := by
      cases s <;> simp [signed] <;> omega
    rw [hz]
    cases s <;> rfl
  · rw [e]; subst h0; cases s <;> rfl
  · rw [e, if_neg (by omega)]; rfl

/-- 1 / v. -/
def one : Nat := 4607182418800017408
theorem read_one : Ieee.double.read one = .number false 4503599627370496 (-52) := by rfl

theorem word_mod (s : Bool) (r : Nat) (h : r < 9223372036854775808) : Ieee.double.word s r % 9223372036854775808 = r := by
  unfold Ieee.Format.word
  rw [d_sw]
  cases s
  · simp; omega
  · simp; omega

theorem div_zero (x : Nat) (h : x % 9223372036854775808 = 0) : ∃ r, Ieee.double.div one x = some r ∧ r % 9223372036854775808 = 9218868437227405312 := by
  unfold Ieee.Format.div
  rw [read_eq x, read_one, h]
  generalize sgn x = s
  cases s
  · exact ⟨_, rfl, rfl⟩
  · exact ⟨_, rfl, rfl⟩

theorem div_inf (x : Nat) (h : x % 9223372036854775808 = 9218868437227405312) : ∃ r, Ieee.double.div one x = some r ∧ r % 9223372036854775808 = 0 := by
  unfold Ieee.Format.div
  rw [read_eq x, read_one, h]
  generalize sgn x = s
  cases s
  · exact ⟨_, rfl, rfl⟩
  · exact ⟨_, rfl, rfl⟩

theorem div_nan (x : Nat) (h : 9218868437227405312 < x % 9223372036854775808) : Ieee.double.div one x = none := by
  unfold Ieee.Format.div
  rw [read_eq x, read_one]
  revert h
  generalize x % 9223372036854775808 = r
  generalize sgn x = s
  intro h
  rcases shape_cases s r with ⟨h0, e⟩ | ⟨m, p, hm0, hm1, hp0, hp1, hr0, hr1, e⟩ | ⟨h0, e⟩ | ⟨h0, f, e⟩
  · omega
  · omega
  · omega
  · rw [e]; rfl


theorem cut_pos (way : Toward) (neg : Bool) (n drop : Nat) (h : 2 ^ drop ≤ n) : 1 ≤ way.cut neg n drop := by
  unfold Toward.cut
  dsimp only
  have h1 : (1 <<< min drop (n.log2 + 2)) ≤ n := by
    rw [Nat.one_shiftLeft]
    exact Nat.le_trans (Nat.pow_le_pow_right (by decide) (Nat.min_le_left _ _)) h
  have h2 : 0 < (1 <<< min drop (n.log2 + 2)) := by
    rw [Nat.one_shiftLeft]; exact Nat.two_pow_pos _
  have h3 : 1 ≤ n / (1 <<< min drop (n.log2 + 2)) := by
    rw [Nat.le_div_iff_mul_le h2]; omega
  exact Nat.le_trans h3 (Nat.le_add_right _ _)

theorem nearest_pos (s : Bool) (q : Nat) (e : Int) (hq : 54 ≤ q.log2) (h0 : q ≠ 0) (he : -1078 ≤ e) :
    0 < Ieee.double.nearest s q e % 9223372036854775808 := by
  unfold Ieee.Format.nearest
  rw [if_neg h0, d_fb, d_lp, d_bin, d_inf]
  dsimp only
  have hle : 2 ^ q.log2 ≤ q := Nat.log2_self_le h0
  generalize hlast : max (e + (q.log2 : Int) - ((52 : Nat) : Int)) (-1074) = last
  have hl1 : e + 2 ≤ last := by omega
  have hz : (e - last).toNat = 0 := by omega
  rw [hz, Nat.shiftLeft_zero]
  have hdrop : (last - e).toNat ≤ q.log2 := by omega
  have hk := cut_pos Toward.even s q (last - e).toNat (Nat.le_trans (Nat.pow_le_pow_right (by decide) hdrop) hle)
  generalize Toward.even.cut s q (last - e).toNat = kept at hk
  rw [word_mod _ _ (Nat.lt_of_le_of_lt (Nat.min_le_right _ _) (by decide))]
  omega

/-- 1 / v at a finite v that is not nought: not nought. -/
theorem div_fin (x : Nat) (h0 : 0 < x % 9223372036854775808) (h1 : x % 9223372036854775808 < 9218868437227405312) :
    ∃ r, Ieee.double.div one x = some r ∧ 0 < r % 9223372036854775808 := by
  unfold Ieee.Format.div
  rw [read_eq x, read_one]
  revert h0 h1
  generalize x % 9223372036854775808 = r
  generalize sgn x = s
  intro g0 g1
  rcases shape_cases s r with ⟨h0, e⟩ | ⟨m, p, hm0, hm1, hp0, hp1, hr0, hr1, e⟩ | ⟨h0, e⟩ | ⟨h0, f, e⟩
  · omega
  · rw [e, d_fb]
    have hn : m ≠ 0 := by omega
    simp only [Datum.quotient, if_neg hn, Option.map_some]
    refine ⟨_, rfl, ?_⟩
    unfold Ieee.Format.write
    dsimp only
    have hl1 : (4503599627370496 : Nat).log2 = 52 := by decide
    rw [hl1]
    have hlm : m.log2 < 53 := (Nat.log2_lt hn).2 (by omega)
    have hdiv : 4503599627370496 <<< (52 + 2 + m.log2 - 52) = 2 ^ (54 + m.log2) := by
      have e1 : 52 + 2 + m.log2 - 52 = 2 + m.log2 := by omega
      have e2 : 54 + m.log2 = 52 + (2 + m.log2) := by omega
      rw [e1, e2, Nat.shiftLeft_eq, Nat.pow_add 2 52]
    rw [hdiv]
    have hmlt : m < 2 ^ (m.log2 + 1) := Nat.lt_log2_self
    have hq : 2 ^ 53 ≤ 2 ^ (54 + m.log2) / m := by
      rw [Nat.le_div_iff_mul_le hm0]
      have e3 : 54 + m.log2 = 53 + (m.log2 + 1) := by omega
      rw [e3, Nat.pow_add 2 53]
      exact Nat.mul_le_mul_left _ (Nat.le_of_lt hmlt)
    generalize 2 ^ (54 + m.log2) / m = q at hq
    generalize (2 ^ (54 + m.log2) % m != 0).toNat = c
    have hq0 : 2 * q + c ≠ 0 := by have := Nat.two_pow_pos 53; omega
    refine nearest_pos _ _ _ ?_ hq0 ?_
    · rw [Nat.le_log2 hq0]; have : (2 : Nat) ^ 54 = 2 * 2 ^ 53 := rfl; omega
    · omega
  · omega
  · omega


/-- r == 0 for a word: its rung is nought. -/
theorem eq_zero (x : Nat) : (Ieee.double.order x 0 == some .eq) = (x % 9223372036854775808 == 0) := by
  have rz : Ieee.double.read 0 = .number false 0 (-1074) := by rfl
  unfold Ieee.Format.order
  rw [read_eq x, rz]
  generalize x % 9223372036854775808 = r
  generalize sgn x = s
  rcases shape_cases s r with ⟨h0, e⟩ | ⟨m, p, hm0, hm1, hp0, hp1, hr0, hr1, e⟩ | ⟨h0, e⟩ | ⟨h0, f, e⟩
  · rw [e]; subst h0; cases s <;> rfl
  · rw [e]
    have hr : (r == 0) = false := by simp; omega
    have hmin : min p (-1074 : Int) = -1074 := by omega
    rw [hr]
    simp only [Datum.order, hmin]
    have hpos : 0 < m * 2 ^ (p - -1074).toNat := Nat.mul_pos hm0 (Nat.two_pow_pos _)
    have hz : signed false 0 (-1074 - -1074 : Int).toNat = 0 := by rfl
    rw [hz]
    have hne : compare (signed s m (p - -1074).toNat) 0 ≠ .eq := by
      rw [ne_eq, Int.compare_eq_eq]
      unfold signed
      rw [Nat.shiftLeft_eq]
      cases s
      · rw [if_neg (by decide)]; omega
      · rw [if_pos rfl]; omega
    revert hne
    cases compare (signed s m (p - -1074).toNat) 0 <;> simp
  · rw [e]; subst h0; cases s <;> rfl
  · rw [e]
    have hr : (r == 0) = false := by simp; omega
    rw [hr]; rfl

end Go.Proofs.Qxb6615922a.Fl
