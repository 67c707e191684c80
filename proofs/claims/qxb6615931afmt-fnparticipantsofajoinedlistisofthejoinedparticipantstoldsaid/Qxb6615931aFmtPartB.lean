import Derived.Test.Qxb6615931aFmtPartC
import Derived.Deep.Cut
import Derived.Lib.SlicesS
namespace Go.Proofs.Qxb6615931aFmt
open Go.RowKit

/-- The marks after k entries of the order. -/
def mkB (A : Nat → ByteArray) (W : Nat → Int) (N : Nat) (L : List Nat) (k i : Nat) : Value := .bool (decide (i ∈ L.take k) && stB A W N i)

/-- L is the order: the entries of positive weight, sorted. -/
structure Ord (A : Nat → ByteArray) (W : Nat → Int) (N : Nat) (L : List Nat) : Prop where
  mem : ∀ i, i ∈ L ↔ i < N ∧ 0 < W i
  nd : L.Nodup
  srt : ∀ p q (hp : p < q) (hq : q < L.length), ¬ Pl.lt (key A) W L[q] (L[p]'(by omega))

theorem below_drewN {B : Nat} {a w : World} (h : Below B a w) (n : Nat) : Below B a (w.drewN n) := ⟨h.os, h.tape, h.output, h.size, h.block⟩
theorem row_drewN {w : World} {b : Nat} {t : TypeId} {n : Nat} {F : Nat → Value} (h : w.rowIs b t n F) (q : Nat) : (w.drewN q).rowIs b t n F := h

def fresh4 (w : World) (n : Nat) : World := w.alloc (.cells (madeCells #[.bool false] (n * 1)) 4)
theorem fresh4_below (w : World) (n : Nat) : Below w.heap.size w (fresh4 w n) := (Below.refl _ _).alloc (Nat.le_refl _) _
theorem fresh4_row (w : World) (n : Nat) : (fresh4 w n).rowIs w.heap.size 4 n (fun _ => .bool false) := by
  have h := made_row w #[.bool false] (n * 1) 4
  rw [Nat.mul_one] at h
  unfold fresh4
  rw [Nat.mul_one]
  refine h.congr fun i _ => ?_
  rw [show i % (#[Value.bool false] : Array Value).size = 0 from Nat.mod_one i]
  rfl

theorem make4n (n : Nat) (hn : n ≤ 1048576) (w : World) : (Instr.makeSlice 45 (.int .i64 (n : Int)) (.int .i64 (n : Int))).run Tryf.prog w = .ok (.slice (some ⟨w.heap.size, 0, none⟩) n n) (fresh4 w n) := by
  obtain ⟨i, hi, hzz⟩ := Option.map_eq_some_iff.1 info4
  simp only [Prod.mk.injEq] at hzz
  have := run_make (P := Tryf.prog) w 45 4 i _ Tryf.underlying45 hi hzz.1 .i64 .i64 n n (by omega) (by omega) (by rw [hzz.2.2]; omega) (by omega)
  rw [this, hzz.2.1]
  rfl

theorem stB_iff {A : Nat → ByteArray} {W : Nat → Int} {N : Nat} {L : List Nat} (h : Ord A W N L) (k : Nat) (hk : k < L.length) : stB A W N L[k] = true ↔ (k = 0 ∨ A (L[k - 1]'(by omega)) ≠ A L[k]) := by
  have e := Pl.mark_stands (key A) W h.mem h.nd h.srt k hk
  unfold stB
  rw [decide_eq_true_eq, Pl.mem_sel, ← e]
  have hk2 : key A (L[k - 1]'(by omega)) = key A L[k] ↔ A (L[k - 1]'(by omega)) = A L[k] := by
    unfold key
    constructor
    · intro h
      exact ByteArray.ext (Array.toList_inj.1 h)
    · intro h; rw [h]
  rw [ne_eq, ne_eq, hk2]

theorem mkB_start (A : Nat → ByteArray) (W : Nat → Int) (N : Nat) (L : List Nat) (i : Nat) : mkB A W N L 0 i = .bool false := by simp [mkB]

theorem mkB_done {A : Nat → ByteArray} {W : Nat → Int} {N : Nat} {L : List Nat} (h : Ord A W N L) (i : Nat) : mkB A W N L L.length i = .bool (stB A W N i) := by
  unfold mkB
  rw [List.take_length]
  cases hs : stB A W N i
  · simp
  · have h1 : i ∈ Pl.sel (key A) W N := by simpa [stB] using hs
    have h2 := Pl.mem_sel.1 h1
    simp [(h.mem i).2 ⟨h2.1, h2.2.1⟩]

theorem mkB_skip {A : Nat → ByteArray} {W : Nat → Int} {N : Nat} {L : List Nat} {k : Nat} (hk : k < L.length) (h : stB A W N L[k] = false) (i : Nat) : mkB A W N L (k + 1) i = mkB A W N L k i := by
  unfold mkB
  have hm : i ∈ L.take (k + 1) ↔ i ∈ L.take k ∨ i = L[k] := by rw [List.take_succ_eq_append_getElem hk, List.mem_append, List.mem_singleton]
  simp only [hm]
  by_cases e : i = L[k]
  · subst e; simp [h]
  · simp [e]

theorem mkB_step {A : Nat → ByteArray} {W : Nat → Int} {N : Nat} {L : List Nat} {k : Nat} (hk : k < L.length) (h : stB A W N L[k] = true) (i : Nat) : mkB A W N L (k + 1) i = if i = L[k] then .bool true else mkB A W N L k i := by
  unfold mkB
  have hm : i ∈ L.take (k + 1) ↔ i ∈ L.take k ∨ i = L[k] := by rw [List.take_succ_eq_append_getElem hk, List.mem_append, List.mem_singleton]
  simp only [hm]
  by_cases e : i = L[k]
  · subst e; simp [h]
  · simp [e]

set_option maxRecDepth 1000000 in
set_option maxHeartbeats 8000000 in
theorem partB2 {u0 u2 u4 u5 u6 u7 u8 u9 u10 u11 u12 u13 u14 u15 u16 u17 u18 u19 u20 u21 u22 u23 u24 u25 u26 u27 u28 u29 u30 u31 u32 u33 u34 u35 u36 u37 u38 u39 u40 u41 u42 u43 u44 u45 u46 u47 u48 u49 u50 u51 u52 u53 u54 u55 u56 u57 u58 u59 u60 u61 u62 u63 u64 u65 u66 u67 u68 u69 u70 u71 u72 u73 u74 u75 u76 u77 u78 u79 u80 u81 u82 u83 u84 u85 u86 u87 : Value} (N bx cap ocap : Nat) (a oa : Option Addr) (L : List Nat) (A : Nat → ByteArray) (W : Nat → Int) (Tg : Nat → Option Nat) (w0 w1 : World) (hN : N ≤ 1048576) (hO : Ord A W N L) (hLl : L.length ≤ N)
    (hb : Below w0.heap.size w0 w1) (lx : bx < w1.heap.size) (hx : w1.cell? ⟨bx, 0, none⟩ = some (.slice a N cap)) (hB : Bks w1 a N A W Tg) (hC : Cells w1 oa L.length (fun j => .int .i64 ((L.getD j 0 : Nat) : Int))) :
    Code.wp Tryf.prog (restAfter 4 (Tryf.f10.body.getD .skip)) (bodyPost Tryf.prog Tryf.f10 fun e w' => PartPost w0 N A W Tg e w') ⟨#[u0, .pointer (some ⟨bx, 0, none⟩), u2, .slice oa L.length ocap, u4, u5, u6, u7, u8, u9, u10, u11, u12, u13, u14, u15, u16, u17, u18, u19, u20, u21, u22, u23, u24, u25, u26, u27, u28, u29, u30, u31, u32, u33, u34, u35, u36, u37, u38, u39, u40, u41, u42, u43, u44, u45, u46, u47, u48, u49, u50, u51, u52, u53, u54, u55, u56, u57, u58, u59, u60, u61, u62, u63, u64, u65, u66, u67, u68, u69, u70, u71, u72, u73, u74, u75, u76, u77, u78, u79, u80, u81, u82, u83, u84, u85, u86, u87], []⟩ w1 := by
  conv => arg 2; whnf
  have hmk := make4n N hN
  have HB := toHid hB
  have HC := toHid hC
  have H0 := toHid hb
  have HO := toHid hO
  have sz0 := hb.size
  have hxf := ((fresh4_below w1 N).cell (p := ⟨bx, 0, none⟩) lx).trans hx
  clear hB hC hb hO
  go_wp2_with fail
  clear hmk hxf
  rename_i Kc hKc
  have HKc := toHid hKc
  clear hKc
  go_loopg [7, 39] L.length (fun g n i wr => ∃ k m : Nat, k ≤ L.length ∧ m ≤ k ∧ g = L.length - k ∧ i = .int .i64 k ∧ n = .int .i64 m ∧ Below w1.heap.size w1 wr ∧ wr.rowIs w1.heap.size 4 N (mkB A W N L k))
  case atStart => exact ⟨0, 0, Nat.zero_le _, Nat.le_refl _, rfl, rfl, rfl, fresh4_below w1 N, (fresh4_row w1 N).congr fun i _ => (mkB_start A W N L i).symm⟩
  case round =>
    obtain ⟨k, m, hk, hmk, rfl, rfl, rfl, hbr, hrow⟩ := hrel
    have HBr := toHid hbr
    have HR := toHid hrow
    have hx' : wr.cell? ⟨bx, 0, none⟩ = some (.slice a N cap) := (hbr.cell (p := ⟨bx, 0, none⟩) lx).trans hx
    clear hbr hrow
    by_cases hlt : k < L.length
    · have hlt' : (k : Int) < (L.length : Int) := by omega
      have hLN : ∀ j (hj : j < L.length), L[j] < N := fun j hj => ((HO.out.mem _).1 (List.getElem_mem hj)).1
      obtain ⟨b, o, ea, lb, cb⟩ := HB.out.at (n := N) (by omega)
      subst ea
      obtain ⟨ob, oo, eo, lo, co⟩ := HC.out (by omega)
      subst eo
      have hgd : ∀ j (hj : j < L.length), wr.cell? ⟨ob, oo + j, none⟩ = some (.int .i64 ((L[j] : Nat) : Int)) := fun j hj => by
        rw [HBr.out.cell (p := ⟨ob, oo + j, none⟩) lo, co j hj]; simp [hj]
      have hA : ∀ i, i < N → wr.cell? ⟨b, o + i * 4, none⟩ = some (.string (A i)) ∧ wr.cell? ⟨b, o + i * 4 + 1, none⟩ = some (.int .i64 (W i)) ∧ wr.cell? ⟨b, o + i * 4 + 2, none⟩ = some (.map (Tg i)) ∧ wr.cell? ⟨b, o + i * 4 + 3, none⟩ = some .nilIface := fun i hi => by
        obtain ⟨z0, z1, z2, z3⟩ := cb i hi
        exact ⟨(HBr.out.cell (p := ⟨b, o + i * 4, none⟩) lb).trans z0, (HBr.out.cell (p := ⟨b, o + i * 4 + 1, none⟩) lb).trans z1, (HBr.out.cell (p := ⟨b, o + i * 4 + 2, none⟩) lb).trans z2, (HBr.out.cell (p := ⟨b, o + i * 4 + 3, none⟩) lb).trans z3⟩
      clear cb co
      have hlk := hLN k hlt
      have hiff := stB_iff HO.out k hlt
      have hck := hgd k hlt
      obtain ⟨y0, y1, y2, y3⟩ := hA L[k] hlk
      have HA := toHid hA
      have HG := toHid hgd
      have HLN := toHid hLN
      clear hA hgd hLN
      generalize hi : L[k] = i at *
      have hlk' : (i : Int) < (N : Int) := by omega
      have Hi := toHid hi
      clear hi
      have lsb := HR.out.lt
      have csb := HR.out.cell hlk
      have hset : (wr.setCell ⟨w1.heap.size, i, none⟩ (.bool true)).rowIs w1.heap.size 4 N (fun q => if q = i then .bool true else mkB A W N L k q) := HR.out.set i (.bool true)
      have bset : Below w1.heap.size wr (wr.setCell ⟨w1.heap.size, i, none⟩ (.bool true)) := (Below.refl w1.heap.size wr).setCell (p := ⟨w1.heap.size, i, none⟩) (Nat.le_refl _) _
      have HS := toHid hset
      have BS := toHid bset
      have fsb := HR.out.frozen i
      clear hset bset
      by_cases hk0 : k = 0
      · subst hk0
        rw [Nat.add_zero] at hck
        have hst : stB A W N i = true := hiff.2 (Or.inl rfl)
        have HST := toHid hst
        clear hst hiff
        go_wp2_with fail
        go_quiet (fail)
        go_wp2_with fail
        go_roundg (L.length - 1)
        case measure => omega
        case rel => exact ⟨1, m + 1, by omega, by omega, rfl, by go_num, by go_num, HBr.out.trans ((below_drewN (Below.refl _ _) _).setCell (p := ⟨w1.heap.size, i, none⟩) (Nat.le_refl _) _), ((row_drewN HR.out _).set i (.bool true)).congr fun q _ => by rw [mkB_step hlt (by rw [Hi.out]; exact HST.out), Hi.out]⟩
      · obtain ⟨j, rfl⟩ : ∃ j, k = j + 1 := ⟨k - 1, by omega⟩
        have hj : j < L.length := by omega
        have hj' : (j : Int) < (L.length : Int) := by omega
        have hcj := HG.out j hj
        have hlj := HLN.out j hj
        obtain ⟨x0, x1, x2, x3⟩ := HA.out L[j] hlj
        have hiff' : stB A W N i = true ↔ A L[j] ≠ A i := by
          rw [hiff]
          simp
        clear hiff hk0
        generalize hij : L[j] = i' at *
        have hlj' : (i' : Int) < (N : Int) := by omega
        clear hij
        have hz : ((j : Int) + 1 == 0) = false := by rw [beq_eq_false_iff_ne]; omega
        have hsb : (j : Int) + 1 - 1 = (j : Int) := by omega
        cases hst : stB A W N i
        · have hne : A i' = A i := by
            by_cases h : A i' = A i
            · exact h
            · exact absurd (hiff'.2 h) (by simp [hst])
          rw [hne] at x0
          have HST := toHid hst
          clear hst hiff' hne
          go_wp2_with fail
          go_quiet (fail)
          go_wp2_with fail
          go_roundg (L.length - (j + 1 + 1))
          case measure => omega
          case rel => exact ⟨j + 1 + 1, m, by omega, by omega, rfl, by go_num, by go_num, below_drewN HBr.out _, (row_drewN HR.out _).congr fun q _ => by rw [mkB_skip hlt (by rw [Hi.out]; exact HST.out)]⟩
        · have hne : ((A i').toList == (A i).toList) = false := (Lib.bytes_beq_false_iff _ _).2 (hiff'.1 hst)
          have HST := toHid hst
          clear hst hiff'
          go_wp2_with fail
          go_quiet (fail)
          go_wp2_with fail
          go_roundg (L.length - (j + 1 + 1))
          case measure => omega
          case rel => exact ⟨j + 1 + 1, m + 1, by omega, by omega, rfl, by go_num, by go_num, HBr.out.trans ((below_drewN (Below.refl _ _) _).setCell (p := ⟨w1.heap.size, i, none⟩) (Nat.le_refl _) _), ((row_drewN HR.out _).set i (.bool true)).congr fun q _ => by rw [mkB_step hlt (by rw [Hi.out]; exact HST.out), Hi.out]⟩
    · have hkn : k = L.length := by omega
      subst hkn
      go_wp2_with fail
      refine HKc.out _ _ ?_
      exact partC N bx w1.heap.size cap m a A W Tg w0 wr hN (by omega) (H0.out.trans (HBr.out.mono sz0)) (Nat.lt_of_lt_of_le lx HBr.out.size) hx' (Cells.below HB.out HBr.out (Nat.le_refl _)) HR.out.lt (fun i hi => by rw [HR.out.cell hi, mkB_done HO.out])

end Go.Proofs.Qxb6615931aFmt
