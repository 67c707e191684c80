import Derived.Test.Qxb6615931aFmtClosure
import Derived.Test.Qxb6615931aFmtShelf
namespace Go.Proofs.Qxb6615931aFmt
open Go.RowKit

def key (A : Nat → ByteArray) (i : Nat) : Pl.Key := (A i).data.toList

theorem cmpI_neg (x y : Int) : cmpI x y < 0 ↔ x < y := by
  unfold cmpI
  by_cases h : x < y
  · simp [h]
  · by_cases h2 : y < x <;> simp [h, h2]
theorem cmpI_zero (x y : Int) : cmpI x y = 0 ↔ x = y := by
  unfold cmpI
  by_cases h : x < y
  · simp [h]; omega
  · by_cases h2 : y < x
    · simp [h, h2]; omega
    · simp [h, h2]; omega

theorem cfI_lt (A : Nat → ByteArray) (W : Nat → Int) (i j : Nat) : cfI A W i j < 0 ↔ Pl.lt (key A) W i j := by
  unfold cfI or3 Pl.lt Pl.lx key
  by_cases h1 : Lib.compareBytes (A i).data.toList (A j).data.toList = 0
  · have e := Pl.cb_eq h1
    rw [if_neg (by simp [h1]), h1]
    by_cases h2 : cmpI (W j) (W i) = 0
    · rw [if_neg (by simp [h2]), cmpI_neg]
      have := (cmpI_zero _ _).1 h2
      constructor
      · intro h; exact Or.inr ⟨e, Or.inr ⟨this, by omega⟩⟩
      · rintro (h | ⟨_, h | ⟨_, h⟩⟩)
        · omega
        · omega
        · omega
    · rw [if_pos h2, cmpI_neg]
      have hne : W j ≠ W i := fun h => h2 ((cmpI_zero _ _).2 h)
      constructor
      · intro h; exact Or.inr ⟨e, Or.inl h⟩
      · rintro (h | ⟨_, h | ⟨h, _⟩⟩)
        · omega
        · exact h
        · exact absurd h hne
  · rw [if_pos h1]
    constructor
    · intro h; exact Or.inl h
    · rintro (h | ⟨h, _⟩)
      · exact h
      · rw [h, Pl.cb_self] at h1; exact absurd rfl h1

theorem swo (N : Nat) (A : Nat → ByteArray) (W : Nat → Int) : Sort.SWO (ltOf fun (i j : Fin N) => cfI A W i.val j.val) := by
  have e : ∀ x y : Fin N, ltOf (fun (i j : Fin N) => cfI A W i.val j.val) x y = true ↔ Pl.lt (key A) W x.val y.val := fun x y => by
    unfold ltOf
    rw [decide_eq_true_eq]
    exact cfI_lt A W x.val y.val
  have f : ∀ x y : Fin N, ltOf (fun (i j : Fin N) => cfI A W i.val j.val) x y = false ↔ ¬ Pl.lt (key A) W x.val y.val := fun x y => by
    rw [← e]; simp
  refine ⟨fun x => (f x x).2 (Pl.lt_irrefl _ _ _), fun x y z h1 h2 => (e x z).2 (Pl.lt_trans _ _ ((e x y).1 h1) ((e y z).1 h2)), fun x y z h1 h2 => (f x z).2 fun h => ?_⟩
  have n1 := (f x y).1 h1
  have n2 := (f y z).1 h2
  by_cases c : x.val = y.val
  · rw [c] at h; exact n2 h
  · rcases Pl.lt_total (key A) W c with t | t
    · exact n1 t
    · exact n2 (Pl.lt_trans _ _ t h)

/-- From w to w' only block b, and new ones, have turned. -/
structure But1 (b : Nat) (w w' : World) : Prop where
  os : w'.os = w.os
  tape : w'.tape = w.tape
  output : w'.output = w.output
  size : w.heap.size ≤ w'.heap.size
  block : ∀ k, k < w.heap.size → k ≠ b → w'.heap[k]? = w.heap[k]?

theorem But1.old {b B : Nat} {w w' : World} (h : But1 b w w') (hb : B ≤ b) (hB : B ≤ w.heap.size) : Below B w w' :=
  ⟨h.os, h.tape, h.output, h.size, fun k hk => h.block k (by omega) (by omega)⟩

theorem sortWorld_but {N : Nat} (enc : Fin N → Value) (w : World) (b m : Nat) [Inhabited (Fin N)] (d : Array (Fin N)) (os : Array Obj) : But1 b w (sortWorld enc w b 0 m d os) := by
  refine ⟨rfl, rfl, rfl, ?_, fun k hk hne => ?_⟩
  · unfold sortWorld; simp [Sort.ahead]
  · unfold sortWorld
    rw [Sort.heap_grow_old _ _ (by simpa [Sort.ahead] using hk)]
    show ((w.heap.modify b _))[k]? = _
    rw [Array.getElem?_modify, if_neg (by omega)]

/-- What the sort leaves: the row holds the same indices, sorted. -/
def SortPost (A : Nat → ByteArray) (W : Nat → Int) (w : World) (ob : Nat) (L : List Nat) (e : Ending) (w' : World) : Prop :=
  e = .returned (.tuple #[]) ∧ But1 ob w w' ∧ ∃ L' : List Nat, L'.Perm L ∧ (∀ p q (hp : p < q) (hq : q < L'.length), ¬ Pl.lt (key A) W L'[q] (L'[p]'(by omega))) ∧
    ∀ j (hj : j < L'.length), w'.cell? ⟨ob, j, none⟩ = some (.int .i64 (L'[j] : Int))

set_option maxHeartbeats 1000000 in
theorem sort_call (N ob cap bx b o bcap : Nat) (A : Nat → ByteArray) (W : Nat → Int) (T : Nat → Option Nat) (L : List Nat) (w : World)
    (hL : ∀ i, i ∈ L → i < N) (hsz : L.length ≤ 1048576) (hob : ob < w.heap.size) (hbx : bx < w.heap.size) (hne : bx ≠ ob) (hbo : b ≠ ob)
    (hx : w.cell? ⟨bx, 0, none⟩ = some (.slice (some ⟨b, o, none⟩) N bcap)) (lb : b < w.heap.size)
    (hB : ∀ i, i < N → w.cell? ⟨b, o + i * 4, none⟩ = some (.string (A i)) ∧ w.cell? ⟨b, o + i * 4 + 1, none⟩ = some (.int .i64 (W i)) ∧ w.cell? ⟨b, o + i * 4 + 2, none⟩ = some (.map (T i)) ∧ w.cell? ⟨b, o + i * 4 + 3, none⟩ = some .nilIface)
    (hrow : ∀ j (hj : j < L.length), w.cell? ⟨ob, j, none⟩ = some (.int .i64 (L[j] : Int)) ∧ w.frozen? ⟨ob, j, none⟩ = false) :
    Calls Tryf.prog 13 #[.slice (some ⟨ob, 0, none⟩) L.length cap, .func (.func 14) #[] #[.pointer (some ⟨bx, 0, none⟩)]] w fun e w' => SortPost A W w ob L e w' := by
  by_cases hN : 0 < N
  · haveI : Inhabited (Fin N) := ⟨⟨0, hN⟩⟩
    let d : Array (Fin N) := (L.attach.map fun i => (⟨i.val, hL i.val i.property⟩ : Fin N)).toArray
    have hd : d.size = L.length := by simp [d]
    have hdv : d.toList.map Fin.val = L := by simp [d]
    have hget : ∀ j (hj : j < L.length), (d[j]!).val = L[j] := by
      intro j hj
      have h1 : d[j]! = d[j]'(by omega) := getElem!_pos d j (by omega)
      rw [h1]
      simp [d]
    have eg : ∀ args w, (callFunc 14 args).run Tryf.prog w = .ok (.enter 14 args) w := enters_of Tryf.func14 (by kernel_rfl) rfl
    have hH : Sort.Holds (fun i : Fin N => Value.int .i64 (i.val : Int)) w ob 0 d := by
      intro j hj
      have hj' : j < L.length := by omega
      rw [Nat.zero_add]
      show w.cell? ⟨ob, j, none⟩ = some (.int .i64 ((d[j]!).val : Int)) ∧ _
      rw [hget j hj']
      exact hrow j hj'
    have hcmp : CmpLays1 Tryf.prog 14 #[.pointer (some ⟨bx, 0, none⟩)] (fun i : Fin N => Value.int .i64 (i.val : Int)) (fun i j => cfI A W i.val j.val) ob 0 d.size w := by
      intro m os dk hs x y
      have hb := sortWorld_but (fun i : Fin N => Value.int .i64 (i.val : Int)) w ob m dk os
      have cellx : ∀ k off, k < w.heap.size → k ≠ ob → (sortWorld (fun i : Fin N => Value.int .i64 (i.val : Int)) w ob 0 m dk os).cell? ⟨k, off, none⟩ = w.cell? ⟨k, off, none⟩ := fun k off hk hne => World.cell?_of_block (w := w) (hb.block k hk hne)
      have X := hB x.val x.isLt
      have Y := hB y.val y.isLt
      exact closure14 x.val y.val N bcap bx b o A W T _ x.isLt y.isLt (Nat.lt_of_lt_of_le hbx hb.size) (Nat.lt_of_lt_of_le lb hb.size) ((cellx _ _ hbx hne).trans hx)
        ((cellx _ _ lb hbo).trans X.1) ((cellx _ _ lb hbo).trans X.2.1) ((cellx _ _ lb hbo).trans X.2.2.1) ((cellx _ _ lb hbo).trans X.2.2.2)
        ((cellx _ _ lb hbo).trans Y.1) ((cellx _ _ lb hbo).trans Y.2.1) ((cellx _ _ lb hbo).trans Y.2.2.1) ((cellx _ _ lb hbo).trans Y.2.2.2)
    have hcon := Any.slices_SortFunc sortL (fun i : Fin N => Value.int .i64 (i.val : Int)) (fun _ => rfl) (fun i j => cfI A W i.val j.val) (swo N A W) 14 #[.pointer (some ⟨bx, 0, none⟩)] ob 0 cap d w eg hcmp hH hob (by omega)
    rw [hd] at hcon
    refine Calls.mono hcon ?_
    rintro e w' ⟨rfl, d', n, os, hp, hs, rfl⟩
    refine ⟨rfl, sortWorld_but _ _ _ _ _ _, d'.toList.map Fin.val, ?_, ?_, ?_⟩
    · have h3 := hp.2.2
      rw [show d'.extract 0 L.length = d' from by rw [← hd, ← hp.1]; simp, show d.extract 0 L.length = d from by rw [← hd]; simp] at h3
      rw [← hdv]
      exact h3.map _
    · intro p q hpq hq
      have hq' : q < d'.size := by simpa using hq
      have h := hs p q (Nat.zero_le _) hpq (by have := hp.1; omega)
      have e1 : d'[q]! = d'[q]'hq' := getElem!_pos d' q hq'
      have e2 : d'[p]! = d'[p]'(by omega) := getElem!_pos d' p (by omega)
      rw [e1, e2] at h
      unfold ltOf at h
      rw [decide_eq_false_iff_not, cfI_lt] at h
      simpa using h
    · intro j hj
      have hj' : j < d'.size := by simpa using hj
      have hh := Sort.holds_grow (fun i : Fin N => Value.int .i64 (i.val : Int)) (Sort.putRow (fun i : Fin N => Value.int .i64 (i.val : Int)) (Sort.ahead w n) ob 0 d') os ob 0 d' (by simpa [Sort.ahead] using hob) (Sort.holds_putRow _ _ _ _ d d' (fun j hj => hH j hj) hp.1)
      have h2 := (hh j hj').1
      rw [Nat.zero_add, getElem!_pos d' j hj'] at h2
      show (sortWorld _ _ _ _ _ _ _).cell? _ = _
      unfold sortWorld
      rw [h2]
      simp
  · have hL0 : L = [] := by
      cases L with
      | nil => rfl
      | cons x L => exact absurd (hL x (List.mem_cons_self ..)) (by omega)
    subst hL0
    have hcon := AnyF.slices_SortFunc_none (P := Tryf.prog) (ρ := sortRen) { sortL with } (some ⟨ob, 0, none⟩) cap (.func (.func 14) #[] #[.pointer (some ⟨bx, 0, none⟩)]) w
    refine Calls.mono hcon ?_
    rintro e w' ⟨rfl, rfl⟩
    exact ⟨rfl, ⟨rfl, rfl, rfl, Nat.le_refl _, fun _ _ _ => rfl⟩, [], List.Perm.refl _, fun p q hp hq => absurd hq (Nat.not_lt_zero _), fun j hj => absurd hj (Nat.not_lt_zero _)⟩

end Go.Proofs.Qxb6615931aFmt
