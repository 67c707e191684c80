import Derived.Lib.Bytealg
namespace Go.Proofs.Qxb6615931aFmt
namespace Pl

/-! ### The order of the addresses -/

abbrev Key := List UInt8
def lx (a b : Key) : Prop := Lib.compareBytes a b < 0

theorem u8_eq {x y : UInt8} (h1 : ¬ x < y) (h2 : ¬ y < x) : x = y := by
  rw [UInt8.lt_iff_toNat_lt] at h1 h2
  exact UInt8.toNat_inj.1 (by omega)

theorem u8_asymm {x y : UInt8} (h1 : x < y) : ¬ y < x := by
  rw [UInt8.lt_iff_toNat_lt] at *
  omega

theorem u8_trans {x y z : UInt8} (h1 : x < y) (h2 : y < z) : x < z := by
  rw [UInt8.lt_iff_toNat_lt] at *
  omega

theorem cb_self : ∀ a : Key, Lib.compareBytes a a = 0
  | [] => rfl
  | x :: a => by simp [Lib.compareBytes, cb_self a]

theorem cb_eq : ∀ {a b : Key}, Lib.compareBytes a b = 0 → a = b
  | [], [], _ => rfl
  | [], _ :: _, h => by simp [Lib.compareBytes] at h
  | _ :: _, [], h => by simp [Lib.compareBytes] at h
  | x :: a, y :: b, h => by
    simp only [Lib.compareBytes] at h
    by_cases h1 : x < y
    · simp [h1] at h
    · by_cases h2 : y < x
      · simp [h1, h2] at h
      · simp only [h1, h2, if_false] at h
        rw [u8_eq h1 h2, cb_eq h]

theorem cb_anti : ∀ a b : Key, Lib.compareBytes b a = - Lib.compareBytes a b
  | [], [] => rfl
  | [], _ :: _ => rfl
  | _ :: _, [] => rfl
  | x :: a, y :: b => by
    simp only [Lib.compareBytes]
    by_cases h1 : x < y
    · have := u8_asymm h1
      simp [h1, this]
    · by_cases h2 : y < x
      · simp [h1, h2]
      · simp only [h1, h2, if_false]
        exact cb_anti a b

theorem lx_irrefl (a : Key) : ¬ lx a a := by unfold lx; rw [cb_self]; omega

theorem lx_trans : ∀ {a b c : Key}, lx a b → lx b c → lx a c
  | [], [], _, h, _ => absurd h (lx_irrefl _)
  | [], _ :: _, [], _, h => by simp [lx, Lib.compareBytes] at h
  | [], _ :: _, _ :: _, _, _ => by simp [lx, Lib.compareBytes]
  | _ :: _, [], _, h, _ => by simp [lx, Lib.compareBytes] at h
  | _ :: _, _ :: _, [], _, h => by simp [lx, Lib.compareBytes] at h
  | x :: a, y :: b, z :: c, h, k => by
    unfold lx at *
    simp only [Lib.compareBytes] at *
    by_cases h1 : x < y
    · by_cases k1 : y < z
      · simp [u8_trans h1 k1]
      · by_cases k2 : z < y
        · simp [k1, k2] at k
        · have e := u8_eq k1 k2
          subst e
          simp [h1]
    · by_cases h2 : y < x
      · simp [h1, h2] at h
      · have e := u8_eq h1 h2
        subst e
        simp only [h1, if_false] at h
        by_cases k1 : x < z
        · simp [k1]
        · by_cases k2 : z < x
          · simp [k1, k2] at k
          · simp only [k1, k2, if_false] at k ⊢
            exact lx_trans h k

theorem lx_total (a b : Key) (h : a ≠ b) : lx a b ∨ lx b a := by
  unfold lx
  have h1 := cb_anti a b
  have h2 : Lib.compareBytes a b ≠ 0 := fun e => h (cb_eq e)
  omega

theorem lx_asymm {a b : Key} (h : lx a b) : ¬ lx b a := fun k => lx_irrefl _ (lx_trans h k)

/-! ### Entries: an address and a weight for each index -/

section
variable (A : Nat → Key) (W : Nat → Int)

/-- i is to be taken ahead of j, both of one address. -/
def beats (i j : Nat) : Prop := W j < W i ∨ (W j = W i ∧ i ≤ j)

/-- Entry i stands for its address among the entries below n. -/
def St (n i : Nat) : Prop := i < n ∧ 0 < W i ∧ ∀ j, j < n → 0 < W j → A j = A i → beats W i j

/-- The sort's order. -/
def lt (i j : Nat) : Prop := lx (A i) (A j) ∨ (A i = A j ∧ (W j < W i ∨ (W j = W i ∧ i < j)))

theorem lt_irrefl (i : Nat) : ¬ lt A W i i := by
  rintro (h | ⟨_, h⟩)
  · exact lx_irrefl _ h
  · omega

theorem lt_trans {i j k : Nat} (h1 : lt A W i j) (h2 : lt A W j k) : lt A W i k := by
  rcases h1 with h1 | ⟨e1, h1⟩
  · rcases h2 with h2 | ⟨e2, h2⟩
    · exact Or.inl (lx_trans h1 h2)
    · left; rw [← e2]; exact h1
  · rcases h2 with h2 | ⟨e2, h2⟩
    · left; rw [e1]; exact h2
    · right; exact ⟨e1.trans e2, by omega⟩

theorem lt_total {i j : Nat} (h : i ≠ j) : lt A W i j ∨ lt A W j i := by
  by_cases e : A i = A j
  · by_cases h1 : W j < W i
    · exact Or.inl (Or.inr ⟨e, Or.inl h1⟩)
    · by_cases h2 : W i < W j
      · exact Or.inr (Or.inr ⟨e.symm, Or.inl h2⟩)
      · have : W i = W j := by omega
        by_cases h3 : i < j
        · exact Or.inl (Or.inr ⟨e, Or.inr ⟨this.symm, h3⟩⟩)
        · exact Or.inr (Or.inr ⟨e.symm, Or.inr ⟨this, by omega⟩⟩)
  · rcases lx_total _ _ e with h1 | h1
    · exact Or.inl (Or.inl h1)
    · exact Or.inr (Or.inl h1)

/-! ### The first of each address in the sorted order stands for it -/

theorem mark_stands {n : Nat} {L : List Nat} (hmem : ∀ i, i ∈ L ↔ i < n ∧ 0 < W i) (hnd : L.Nodup) (hs : ∀ p q (hp : p < q) (hq : q < L.length), ¬ lt A W L[q] (L[p]'(by omega)))
    (k : Nat) (hk : k < L.length) : (k = 0 ∨ A (L[k - 1]'(by omega)) ≠ A L[k]) ↔ St A W n L[k] := by
  have hin : ∀ p (hp : p < L.length), L[p] < n ∧ 0 < W L[p] := fun p hp => (hmem _).1 (List.getElem_mem hp)
  constructor
  · intro hm
    refine ⟨(hin k hk).1, (hin k hk).2, fun j hj hw ha => ?_⟩
    obtain ⟨q, hq, e⟩ := List.getElem_of_mem ((hmem j).2 ⟨hj, hw⟩)
    subst e
    by_cases e1 : q = k
    · subst e1; exact Or.inr ⟨rfl, Nat.le_refl _⟩
    · by_cases e2 : k < q
      · have h := hs k q e2 hq
        have h1 : ¬ (W L[k] < W L[q] ∨ (W L[k] = W L[q] ∧ L[q] < L[k])) := fun h2 => h (Or.inr ⟨ha, h2⟩)
        unfold beats
        omega
      · exfalso
        have hqk : q < k := by omega
        rcases hm with rfl | hm
        · omega
        · by_cases e3 : q = k - 1
          · subst e3; exact hm ha
          · have s1 := hs q (k - 1) (by omega) (by omega)
            have s2 := hs (k - 1) k (by omega) hk
            have n1 : ¬ lx (A (L[k - 1]'(by omega))) (A L[q]) := fun h => s1 (Or.inl h)
            have n2 : ¬ lx (A L[k]) (A (L[k - 1]'(by omega))) := fun h => s2 (Or.inl h)
            rcases lx_total _ _ hm with t | t
            · rw [← ha] at t; exact n1 t
            · exact n2 t
  · intro hst
    by_cases e0 : k = 0
    · exact Or.inl e0
    · right
      intro e
      have s2 := hs (k - 1) k (by omega) hk
      have hb := hst.2.2 (L[k - 1]'(by omega)) (hin _ (by omega)).1 (hin _ (by omega)).2 e
      have h1 : ¬ (W (L[k - 1]'(by omega)) < W L[k] ∨ (W (L[k - 1]'(by omega)) = W L[k] ∧ L[k] < L[k - 1]'(by omega))) := fun h2 => s2 (Or.inr ⟨e.symm, h2⟩)
      have hne : L[k - 1]'(by omega) ≠ L[k] := List.pairwise_iff_getElem.1 hnd (k - 1) k (by omega) hk (by omega)
      unfold beats at hb
      omega

/-! ### The joined list -/

theorem beats_trans {i j k : Nat} (h1 : beats W i j) (h2 : beats W j k) : beats W i k := by unfold beats at *; omega
theorem beats_total (i j : Nat) : beats W i j ∨ beats W j i := by unfold beats; omega

/-- The best of an address between a and b. -/
theorem best (a : Nat) (key : Key) : ∀ b, (∃ j, a ≤ j ∧ j < b ∧ 0 < W j ∧ A j = key) → ∃ r, a ≤ r ∧ r < b ∧ 0 < W r ∧ A r = key ∧ ∀ j, a ≤ j → j < b → 0 < W j → A j = key → beats W r j
  | 0, ⟨j, _, h, _⟩ => by omega
  | b + 1, ⟨j, h1, h2, h3, h4⟩ => by
    by_cases hb : a ≤ b ∧ 0 < W b ∧ A b = key
    · by_cases hj : ∃ j, a ≤ j ∧ j < b ∧ 0 < W j ∧ A j = key
      · obtain ⟨r, r1, r2, r3, r4, r5⟩ := best a key b hj
        rcases beats_total W r b with t | t
        · refine ⟨r, r1, by omega, r3, r4, fun j j1 j2 j3 j4 => ?_⟩
          by_cases e : j = b
          · rw [e]; exact t
          · exact r5 j j1 (by omega) j3 j4
        · refine ⟨b, hb.1, by omega, hb.2.1, hb.2.2, fun j j1 j2 j3 j4 => ?_⟩
          by_cases e : j = b
          · rw [e]; exact Or.inr ⟨rfl, Nat.le_refl _⟩
          · exact beats_trans W t (r5 j j1 (by omega) j3 j4)
      · refine ⟨b, hb.1, by omega, hb.2.1, hb.2.2, fun j j1 j2 j3 j4 => ?_⟩
        by_cases e : j = b
        · rw [e]; exact Or.inr ⟨rfl, Nat.le_refl _⟩
        · exact absurd ⟨j, j1, by omega, j3, j4⟩ hj
    · have hj : j ≠ b := fun e => hb (by subst e; exact ⟨h1, h3, h4⟩)
      obtain ⟨r, r1, r2, r3, r4, r5⟩ := best a key b ⟨j, h1, by omega, h3, h4⟩
      refine ⟨r, r1, by omega, r3, r4, fun j j1 j2 j3 j4 => ?_⟩
      by_cases e : j = b
      · subst e; exact absurd ⟨j1, j3, j4⟩ hb
      · exact r5 j j1 (by omega) j3 j4

/-- Lists that ascend strictly and have the same members are one. -/
theorem eq_of_mem : ∀ {l m : List Nat}, l.Pairwise (· < ·) → m.Pairwise (· < ·) → (∀ i, i ∈ l ↔ i ∈ m) → l = m
  | [], [], _, _, _ => rfl
  | [], y :: m, _, _, h => absurd ((h y).2 (List.mem_cons_self ..)) (List.not_mem_nil)
  | x :: l, [], _, _, h => absurd ((h x).1 (List.mem_cons_self ..)) (List.not_mem_nil)
  | x :: l, y :: m, hl, hm, h => by
    rw [List.pairwise_cons] at hl hm
    have e : x = y := by
      have h1 := (h x).1 (List.mem_cons_self ..)
      have h2 := (h y).2 (List.mem_cons_self ..)
      rcases List.mem_cons.1 h1 with h1 | h1
      · exact h1
      · rcases List.mem_cons.1 h2 with h2 | h2
        · exact h2.symm
        · have a1 := hm.1 x h1
          have a2 := hl.1 y h2
          omega
    subst e
    rw [eq_of_mem hl.2 hm.2 fun i => ?_]
    have hi := h i
    constructor
    · intro k
      rcases List.mem_cons.1 (hi.1 (List.mem_cons_of_mem _ k)) with r | r
      · subst r; exact absurd (hl.1 _ k) (Nat.lt_irrefl _)
      · exact r
    · intro k
      rcases List.mem_cons.1 (hi.2 (List.mem_cons_of_mem _ k)) with r | r
      · subst r; exact absurd (hm.1 _ k) (Nat.lt_irrefl _)
      · exact r

end

/-- The standing entries below n, in order. -/
def sel (A : Nat → Key) (W : Nat → Int) (n : Nat) : List Nat := (List.range n).filter fun i => decide (0 < W i) && (List.range n).all fun j => decide (0 < W j → A j = A i → (W j < W i ∨ (W j = W i ∧ i ≤ j)))

theorem mem_sel {A : Nat → Key} {W : Nat → Int} {n i : Nat} : i ∈ sel A W n ↔ St A W n i := by
  simp only [sel, St, beats, List.mem_filter, List.mem_range, Bool.and_eq_true, decide_eq_true_eq, List.all_eq_true]

theorem sel_lt (A : Nat → Key) (W : Nat → Int) (n : Nat) : (sel A W n).Pairwise (· < ·) := List.pairwise_lt_range.filter _

/-- The indices of the joined list. -/
def joined (A : Nat → Key) (W : Nat → Int) (n c : Nat) : List Nat := sel A W c ++ (sel (fun i => A (c + i)) (fun i => W (c + i)) (n - c)).map (c + ·)

theorem mem_joined {A : Nat → Key} {W : Nat → Int} {n c i : Nat} : i ∈ joined A W n c ↔ St A W c i ∨ ∃ k, St (fun i => A (c + i)) (fun i => W (c + i)) (n - c) k ∧ c + k = i := by
  simp [joined, mem_sel]

theorem joined_lt (A : Nat → Key) (W : Nat → Int) (n c : Nat) : (joined A W n c).Pairwise (· < ·) := by
  unfold joined
  rw [List.pairwise_append]
  refine ⟨sel_lt _ _ _, ?_, fun a ha b hb => ?_⟩
  · rw [List.pairwise_map]
    exact (sel_lt _ _ _).imp fun h => by omega
  · obtain ⟨k, _, rfl⟩ := List.mem_map.1 hb
    have := (mem_sel.1 ha).1
    omega

/-- Participants of the whole list = participants of the joined participants, by the entries' own indices. -/
theorem sel_joined (A : Nat → Key) (W : Nat → Int) (n c : Nat) (hc : c ≤ n) :
    sel A W n = (sel (fun q => A ((joined A W n c).getD q 0)) (fun q => W ((joined A W n c).getD q 0)) (joined A W n c).length).map (fun q => (joined A W n c).getD q 0) := by
  have hJ := joined_lt A W n c
  generalize hj : joined A W n c = J at *
  have hget : ∀ q (h : q < J.length), J.getD q 0 = J[q] := fun q h => by simp [List.getD, h]
  have mono : ∀ p q (hp : p < q) (hq : q < J.length), J.getD p 0 < J.getD q 0 := fun p q hp hq => by
    rw [hget p (by omega), hget q hq]
    exact List.pairwise_iff_getElem.1 hJ p q (by omega) hq hp
  -- members of J
  have hin : ∀ i, i ∈ J → i < n ∧ 0 < W i := fun i hi => by
    rw [← hj, mem_joined] at hi
    rcases hi with h | ⟨k, h, rfl⟩
    · exact ⟨by have := h.1; omega, h.2.1⟩
    · exact ⟨by have := h.1; omega, h.2.1⟩
  have rep : ∀ j, j < n → 0 < W j → ∃ r, r ∈ J ∧ A r = A j ∧ beats W r j := fun j hjn hw => by
    by_cases hjc : j < c
    · obtain ⟨r, _, r2, r3, r4, r5⟩ := best A W 0 (A j) c ⟨j, Nat.zero_le _, hjc, hw, rfl⟩
      refine ⟨r, ?_, r4, r5 j (Nat.zero_le _) hjc hw rfl⟩
      rw [← hj, mem_joined]
      exact Or.inl ⟨r2, r3, fun k k1 k2 k3 => r5 k (Nat.zero_le _) k1 k2 (k3.trans r4)⟩
    · obtain ⟨r, r1, r2, r3, r4, r5⟩ := best A W c (A j) n ⟨j, by omega, hjn, hw, rfl⟩
      refine ⟨r, ?_, r4, r5 j (by omega) hjn hw rfl⟩
      rw [← hj, mem_joined]
      refine Or.inr ⟨r - c, ⟨by omega, ?_, fun k k1 k2 k3 => ?_⟩, by omega⟩
      · show 0 < W (c + (r - c))
        rw [show c + (r - c) = r from by omega]; exact r3
      · have e : c + (r - c) = r := by omega
        simp only [e] at k3
        have := r5 (c + k) (by omega) (by omega) k2 (k3.trans r4)
        unfold beats at *
        simp only [e]
        omega
  refine eq_of_mem (sel_lt _ _ _) ?_ fun i => ?_
  · rw [List.pairwise_map]
    refine (sel_lt _ _ _).imp_of_mem fun {a b} ha hb h => ?_
    exact mono a b h (mem_sel.1 hb).1
  · rw [mem_sel, List.mem_map]
    constructor
    · intro hst
      have hiJ : i ∈ J := by
        rw [← hj, mem_joined]
        by_cases hic : i < c
        · exact Or.inl ⟨hic, hst.2.1, fun j j1 j2 j3 => hst.2.2 j (by omega) j2 j3⟩
        · have e : c + (i - c) = i := by have := hst.1; omega
          refine Or.inr ⟨i - c, ⟨by have := hst.1; omega, by show 0 < W (c + (i - c)); rw [e]; exact hst.2.1, fun k k1 k2 k3 => ?_⟩, e⟩
          simp only [e] at k3
          have := hst.2.2 (c + k) (by omega) k2 k3
          unfold beats at *
          simp only [e]
          omega
      obtain ⟨q, hq, eq⟩ := List.getElem_of_mem hiJ
      refine ⟨q, mem_sel.2 ⟨hq, ?_, fun p hp hw ha => ?_⟩, by rw [hget q hq, eq]⟩
      · simp only [hget q hq, eq]; exact hst.2.1
      · simp only [hget q hq, eq] at ha ⊢
        have hm := hin (J.getD p 0) (by rw [hget p hp]; exact List.getElem_mem hp)
        have hb := hst.2.2 _ hm.1 hw ha
        unfold beats at *
        simp only [hget q hq, eq]
        rcases hb with hb | ⟨hb1, hb2⟩
        · exact Or.inl hb
        · refine Or.inr ⟨hb1, ?_⟩
          rcases Nat.lt_or_ge p q with hpq | hpq
          · have := mono p q hpq hq
            rw [hget q hq, eq] at this
            omega
          · exact hpq
    · rintro ⟨q, hq, rfl⟩
      obtain ⟨q1, q2, q3⟩ := mem_sel.1 hq
      have hm := hin (J.getD q 0) (by rw [hget q q1]; exact List.getElem_mem q1)
      refine ⟨hm.1, hm.2, fun j j1 j2 j3 => ?_⟩
      obtain ⟨r, r1, r2, r3⟩ := rep j j1 j2
      obtain ⟨p, hp, ep⟩ := List.getElem_of_mem r1
      have ep' : J.getD p 0 = r := by rw [hget p hp, ep]
      have hb := q3 p hp (by simp only [ep']; exact (hin r r1).2) (by simp only [ep']; exact r2.trans j3)
      have hb' : beats W (J.getD q 0) r := by
        unfold beats at *
        simp only [ep'] at hb
        rcases hb with hb | ⟨hb1, hb2⟩
        · exact Or.inl hb
        · refine Or.inr ⟨hb1, ?_⟩
          rcases Nat.lt_or_ge q p with h | h
          · have := mono q p h hp
            rw [ep'] at this
            omega
          · have : p = q := by omega
            subst this
            rw [ep']
            exact Nat.le_refl _
      exact beats_trans W hb' r3

/-! ### As many standing entries as addresses -/

/-- Entry i is the first of its address with a positive weight. -/
def Fst (A : Nat → Key) (W : Nat → Int) (i : Nat) : Prop := 0 < W i ∧ ∀ j, j < i → ¬ (0 < W j ∧ A j = A i)

def fsts (A : Nat → Key) (W : Nat → Int) (n : Nat) : List Nat := (List.range n).filter fun i => decide (0 < W i) && (List.range i).all fun j => decide (¬ (0 < W j ∧ A j = A i))

theorem mem_fsts {A : Nat → Key} {W : Nat → Int} {n i : Nat} : i ∈ fsts A W n ↔ i < n ∧ Fst A W i := by
  simp only [fsts, Fst, List.mem_filter, List.mem_range, Bool.and_eq_true, decide_eq_true_eq, List.all_eq_true]

theorem le_of_subset : ∀ {l m : List Key}, l.Nodup → (∀ a, a ∈ l → a ∈ m) → l.length ≤ m.length
  | [], _, _, _ => Nat.zero_le _
  | x :: l, m, hl, h => by
    rw [List.nodup_cons] at hl
    have hx := h x (List.mem_cons_self ..)
    have := le_of_subset (m := m.erase x) hl.2 fun a ha => by
      have hne : a ≠ x := fun e => hl.1 (e ▸ ha)
      exact (List.mem_erase_of_ne hne).2 (h a (List.mem_cons_of_mem _ ha))
    rw [List.length_erase_of_mem hx] at this
    have hp : 0 < m.length := List.length_pos_of_mem hx
    simp only [List.length_cons]
    omega

theorem first_of (A : Nat → Key) (W : Nat → Int) : ∀ i, 0 < W i → ∃ j, j ≤ i ∧ A j = A i ∧ Fst A W j := by
  intro i
  induction i using Nat.strongRecOn with
  | _ i ih =>
    intro hw
    by_cases h : ∃ j, j < i ∧ 0 < W j ∧ A j = A i
    · obtain ⟨j, h1, h2, h3⟩ := h
      obtain ⟨k, k1, k2, k3⟩ := ih j h1 h2
      exact ⟨k, by omega, k2.trans h3, k3⟩
    · exact ⟨i, Nat.le_refl _, rfl, hw, fun j hj hh => h ⟨j, hj, hh.1, hh.2⟩⟩

theorem count_sel (A : Nat → Key) (W : Nat → Int) (n : Nat) : (sel A W n).length = (fsts A W n).length := by
  have n1 : ((sel A W n).map A).Nodup := by
    show List.Pairwise _ _
    rw [List.pairwise_map]
    refine (sel_lt A W n).imp_of_mem fun {a b} ha hb h e => ?_
    have sa := mem_sel.1 ha
    have sb := mem_sel.1 hb
    have h1 := sa.2.2 b sb.1 sb.2.1 e.symm
    have h2 := sb.2.2 a sa.1 sa.2.1 e
    unfold beats at *
    omega
  have n2 : ((fsts A W n).map A).Nodup := by
    show List.Pairwise _ _
    rw [List.pairwise_map]
    refine (List.pairwise_lt_range.filter _).imp_of_mem fun {a b} ha hb h e => ?_
    have sa := mem_fsts.1 ha
    have sb := mem_fsts.1 hb
    exact sb.2.2 a h ⟨sa.2.1, e⟩
  have s1 : ∀ a, a ∈ (sel A W n).map A → a ∈ (fsts A W n).map A := by
    intro a ha
    obtain ⟨i, hi, rfl⟩ := List.mem_map.1 ha
    have si := mem_sel.1 hi
    obtain ⟨j, j1, j2, j3⟩ := first_of A W i si.2.1
    exact List.mem_map.2 ⟨j, mem_fsts.2 ⟨by have := si.1; omega, j3⟩, j2⟩
  have s2 : ∀ a, a ∈ (fsts A W n).map A → a ∈ (sel A W n).map A := by
    intro a ha
    obtain ⟨i, hi, rfl⟩ := List.mem_map.1 ha
    have si := mem_fsts.1 hi
    obtain ⟨r, _, r2, r3, r4, r5⟩ := best A W 0 (A i) n ⟨i, Nat.zero_le _, si.1, si.2.1, rfl⟩
    exact List.mem_map.2 ⟨r, mem_sel.2 ⟨r2, r3, fun j j1 j2 j3 => r5 j (Nat.zero_le _) j1 j2 (j3.trans r4)⟩, r4⟩
  have l1 := le_of_subset n1 s1
  have l2 := le_of_subset n2 s2
  rw [List.length_map, List.length_map] at l1 l2
  omega

end Pl
end Go.Proofs.Qxb6615931aFmt
