import Derived.Test.Qxb6615931aFmtPartB
namespace Go.Proofs.Qxb6615931aFmt
open Go.RowKit

/-- The entries of positive weight below k. -/
def pos (W : Nat → Int) (k : Nat) : List Nat := (List.range k).filter fun i => decide (0 < W i)

theorem pos_len (W : Nat → Int) (k : Nat) : (pos W k).length ≤ k := Nat.le_trans (List.length_filter_le _ _) (by simp)
theorem pos_succ (W : Nat → Int) (k : Nat) : pos W (k + 1) = if 0 < W k then pos W k ++ [k] else pos W k := by
  unfold pos
  rw [List.range_succ, List.filter_append]
  by_cases h : 0 < W k <;> simp [h]
theorem pos_mem (W : Nat → Int) (k i : Nat) : i ∈ pos W k ↔ i < k ∧ 0 < W i := by simp [pos]
theorem pos_nd (W : Nat → Int) (k : Nat) : (pos W k).Nodup := List.nodup_range.filter _

theorem ord_of_perm {A : Nat → ByteArray} {W : Nat → Int} {N : Nat} {L : List Nat} (hp : L.Perm (pos W N)) (hs : ∀ p q (hp : p < q) (hq : q < L.length), ¬ Pl.lt (key A) W L[q] (L[p]'(by omega))) : Ord A W N L :=
  ⟨fun i => by rw [hp.mem_iff, pos_mem], hp.nodup_iff.2 (pos_nd W N), hs⟩

theorem bks_below {w w' : World} {a : Option Addr} {n B : Nat} {A : Nat → ByteArray} {W : Nat → Int} {T : Nat → Option Nat} (h : Bks w a n A W T) (hb : Below B w w') (ha : ∀ x, a = some x → x.block < B) : Bks w' a n A W T := by
  intro hn
  obtain ⟨b, o, e, hlt, hc⟩ := h hn
  exact ⟨b, o, e, Nat.lt_of_lt_of_le hlt hb.size, fun i hi => by rw [hb.cell (p := ⟨b, o + i, none⟩) (ha ⟨b, o, none⟩ e)]; exact hc i hi⟩

/-- A list of ints as cells. -/
def ints (L : List Nat) : List Value := L.map fun (i : Nat) => Value.int .i64 (i : Int)

/-- The sort of the order, whatever its slice. -/
theorem sort_any (N bx cap : Nat) (a : Option Addr) (A : Nat → ByteArray) (W : Nat → Int) (Tg : Nat → Option Nat) (v : Value) (w : World) (hN : N ≤ 1048576) (lx : bx < w.heap.size)
    (hx : w.cell? ⟨bx, 0, none⟩ = some (.slice a N cap)) (hB : Bks w a N A W Tg) (ha : ∀ x, a = some x → x.block < bx) (hv : w.ownsRow (bx + 1) 3 1 v (pos W N).length (ints (pos W N))) :
    Calls Tryf.prog 13 #[v, .func (.func 14) #[] #[.pointer (some ⟨bx, 0, none⟩)]] w fun e w' => e = .returned (.tuple #[]) ∧ Below (bx + 1) w w' ∧ ∃ L oa ocap, v = .slice oa L.length ocap ∧ Ord A W N L ∧ L.length ≤ N ∧ Cells w' oa L.length (fun j => .int .i64 ((L.getD j 0 : Nat) : Int)) := by
  have hlen := pos_len W N
  obtain ⟨hl, h2⟩ := hv
  rcases h2 with ⟨rfl, h0⟩ | ⟨g, gcap, cur, rfl, hg, hh, hn, hm, hs, ht⟩
  · have e0 : pos W N = [] := List.eq_nil_of_length_eq_zero h0
    have hcon := AnyF.slices_SortFunc_none (P := Tryf.prog) (ρ := sortRen) { sortL with } none 0 (.func (.func 14) #[] #[.pointer (some ⟨bx, 0, none⟩)]) w
    refine Calls.mono hcon ?_
    rintro e w' ⟨rfl, rfl⟩
    exact ⟨rfl, Below.refl _ _, [], none, 0, rfl, ord_of_perm (by rw [e0]) (fun p q hp hq => absurd hq (Nat.not_lt_zero _)), Nat.zero_le _, Cells.nil _ _ _⟩
  · have hlt : g < w.heap.size := (Array.getElem?_eq_some_iff.1 hh).1
    have hrow : ∀ j (hj : j < (pos W N).length), w.cell? ⟨g, j, none⟩ = some (.int .i64 ((pos W N)[j] : Int)) ∧ w.frozen? ⟨g, j, none⟩ = false := by
      intro j hj
      have e1 : (ints (pos W N))[j]? = cur[j]? := by
        rw [← ht, List.getElem?_take, if_pos (by omega)]; simp
      constructor
      · simp only [World.cell?, hh]
        rw [← e1]
        simp [ints, hj]
      · simp [World.frozen?, hh]
    by_cases h0 : 0 < N
    · obtain ⟨b, o, ea, lb, cb⟩ := hB.at h0
      have hbb := ha _ ea
      subst ea
      refine Calls.mono (sort_call N g gcap bx b o cap A W Tg (pos W N) w (fun i hi => ((pos_mem W N i).1 hi).1) (by omega) hlt lx (by omega) (by simp at hbb; omega) hx lb cb hrow) ?_
      rintro e w' ⟨rfl, hb1, L', hp, hsrt, hc⟩
      refine ⟨rfl, hb1.old hg (by omega), L', some ⟨g, 0, none⟩, gcap, ?_, ord_of_perm hp hsrt, by rw [hp.length_eq]; exact hlen, ?_⟩
      · rw [hp.length_eq]
      · intro _
        refine ⟨g, 0, rfl, Nat.lt_of_lt_of_le hlt hb1.size, fun i hi => ?_⟩
        rw [Nat.zero_add, hc i hi]
        simp [hi]
    · have e0 : pos W N = [] := List.eq_nil_of_length_eq_zero (by omega)
      rw [e0]
      have hcon := AnyF.slices_SortFunc_none (P := Tryf.prog) (ρ := sortRen) { sortL with } (some ⟨g, 0, none⟩) gcap (.func (.func 14) #[] #[.pointer (some ⟨bx, 0, none⟩)]) w
      refine Calls.mono hcon ?_
      rintro e w' ⟨rfl, rfl⟩
      exact ⟨rfl, Below.refl _ _, [], _, gcap, rfl, ord_of_perm (by rw [e0]) (fun p q hp hq => absurd hq (Nat.not_lt_zero _)), Nat.zero_le _, Cells.nil _ _ _⟩

set_option maxRecDepth 1000000 in
set_option maxHeartbeats 8000000 in
theorem partB1 {u0 u2 u4 u5 u6 u7 u8 u9 u10 u11 u12 u13 u14 u15 u16 u17 u18 u19 u20 u21 u22 u23 u24 u25 u26 u27 u28 u29 u30 u31 u32 u33 u34 u35 u36 u37 u38 u39 u40 u41 u42 u43 u44 u45 u46 u47 u48 u49 u50 u51 u52 u53 u54 u55 u56 u57 u58 u59 u60 u61 u62 u63 u64 u65 u66 u67 u68 u69 u70 u71 u72 u73 u74 u75 u76 u77 u78 u79 u80 u81 u82 u83 u84 u85 u86 u87 : Value} (N bx cap : Nat) (a : Option Addr) (v : Value) (A : Nat → ByteArray) (W : Nat → Int) (Tg : Nat → Option Nat) (w0 w1 : World) (hN : N ≤ 1048576)
    (hb : Below w0.heap.size w0 w1) (hw0 : w0.heap.size ≤ bx + 1) (lx : bx < w1.heap.size) (hx : w1.cell? ⟨bx, 0, none⟩ = some (.slice a N cap)) (hB : Bks w1 a N A W Tg) (ha : ∀ x, a = some x → x.block < bx) (hv : w1.ownsRow (bx + 1) 3 1 v (pos W N).length (ints (pos W N))) :
    Code.wp Tryf.prog (restAfter 3 (Tryf.f10.body.getD .skip)) (bodyPost Tryf.prog Tryf.f10 fun e w' => PartPost w0 N A W Tg e w') ⟨#[u0, .pointer (some ⟨bx, 0, none⟩), u2, v, u4, u5, u6, u7, u8, u9, u10, u11, u12, u13, u14, u15, u16, u17, u18, u19, u20, u21, u22, u23, u24, u25, u26, u27, u28, u29, u30, u31, u32, u33, u34, u35, u36, u37, u38, u39, u40, u41, u42, u43, u44, u45, u46, u47, u48, u49, u50, u51, u52, u53, u54, u55, u56, u57, u58, u59, u60, u61, u62, u63, u64, u65, u66, u67, u68, u69, u70, u71, u72, u73, u74, u75, u76, u77, u78, u79, u80, u81, u82, u83, u84, u85, u86, u87], []⟩ w1 := by
  conv => arg 2; whnf
  have HSA := toHid (sort_any N bx cap a A W Tg v w1 hN lx hx hB ha hv)
  have HB := toHid hB
  have HV := toHid hv
  have HA := toHid ha
  have H0 := toHid hb
  clear hB hb hv ha
  go_wp2_with (go_at_call 13; rename_i Kc hKc K2 hK2; have HKc := toHid hKc; clear hKc; refine HSA.out.mono ?_; rintro e w2 ⟨rfl, hb2, L, oa, ocap, ev, hO, hl, hC⟩; have HK : Hid (Below (bx + 1) w1 w2 ∧ Ord A W N L ∧ L.length ≤ N ∧ v = .slice oa L.length ocap ∧ Cells w2 oa L.length (fun j => .int .i64 ((L.getD j 0 : Nat) : Int))) := ⟨hb2, hO, hl, ev, hC⟩; clear hb2 ev hO hl hC)
  refine HKc.out _ _ ?_
  obtain ⟨hb2, hO, hl, ev, hC⟩ := HK.out
  subst ev
  have ha := HA.out
  exact partB2 N bx cap ocap a oa L A W Tg w0 w2 hN hO hl (H0.out.trans (hb2.mono hw0)) (Nat.lt_of_lt_of_le lx hb2.size) ((hb2.cell (p := ⟨bx, 0, none⟩) (Nat.lt_succ_self _)).trans hx) (bks_below HB.out hb2 (fun x hx => Nat.lt_succ_of_lt (ha x hx))) hC

end Go.Proofs.Qxb6615931aFmt
