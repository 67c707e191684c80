import Derived.Test.Qxb6615931aFmtOwn
import Derived.Test.Qxb6615931aFmtSort
namespace Go.Proofs.Qxb6615931aFmt
open Go.RowKit

/-- What Participants hands back: the standing entries, in order, in a row of their own. -/
def PartPost (w : World) (N : Nat) (A : Nat → ByteArray) (W : Nat → Int) (Tg : Nat → Option Nat) (e : Ending) (w' : World) : Prop :=
  ∃ a c, e = .returned (.slice a (Pl.sel (key A) W N).length c) ∧ Bks w' a (Pl.sel (key A) W N).length (via A (Pl.sel (key A) W N)) (via W (Pl.sel (key A) W N)) (via Tg (Pl.sel (key A) W N)) ∧ Below w.heap.size w w'

/-- Does entry i stand? -/
def stB (A : Nat → ByteArray) (W : Nat → Int) (N i : Nat) : Bool := decide (i ∈ Pl.sel (key A) W N)

/-- The standing entries below k. -/
def selTo (A : Nat → ByteArray) (W : Nat → Int) (N k : Nat) : List Nat := (List.range k).filter (stB A W N)

theorem selTo_succ (A : Nat → ByteArray) (W : Nat → Int) (N k : Nat) : selTo A W N (k + 1) = if stB A W N k = true then selTo A W N k ++ [k] else selTo A W N k := by
  unfold selTo
  rw [List.range_succ, List.filter_append]
  by_cases h : stB A W N k = true <;> simp [h]

theorem selTo_all (A : Nat → ByteArray) (W : Nat → Int) (N : Nat) : selTo A W N N = Pl.sel (key A) W N := by
  refine Pl.eq_of_mem (List.pairwise_lt_range.filter _) (Pl.sel_lt _ _ _) fun i => ?_
  simp only [selTo, List.mem_filter, List.mem_range, stB, decide_eq_true_eq]
  exact ⟨fun h => h.2, fun h => ⟨(Pl.mem_sel.1 h).1, h⟩⟩

theorem own_step {A : Nat → ByteArray} {W : Nat → Int} {Tg : Nat → Option Nat} {N k base : Nat} {v : Value} {w : World} (hst : stB A W N k = true)
    (h : w.ownsRow base 38 4 v ((selTo A W N k).length + 1) (bkList (via A (selTo A W N k)) (via W (selTo A W N k)) (via Tg (selTo A W N k)) (selTo A W N k).length ++ [.string (A k), .int .i64 (W k), .map (Tg k), .nilIface])) :
    w.ownsRow base 38 4 v (selTo A W N (k + 1)).length (bkList (via A (selTo A W N (k + 1))) (via W (selTo A W N (k + 1))) (via Tg (selTo A W N (k + 1))) (selTo A W N (k + 1)).length) := by
  rw [selTo_succ, if_pos hst, ← bkList_snoc]
  simpa using h

theorem own_skip {A : Nat → ByteArray} {W : Nat → Int} {Tg : Nat → Option Nat} {N k base : Nat} {v : Value} {w : World} (hst : stB A W N k = false)
    (h : w.ownsRow base 38 4 v (selTo A W N k).length (bkList (via A (selTo A W N k)) (via W (selTo A W N k)) (via Tg (selTo A W N k)) (selTo A W N k).length)) :
    w.ownsRow base 38 4 v (selTo A W N (k + 1)).length (bkList (via A (selTo A W N (k + 1))) (via W (selTo A W N (k + 1))) (via Tg (selTo A W N (k + 1))) (selTo A W N (k + 1)).length) := by
  rw [selTo_succ, if_neg (by simp [hst])]
  exact h

theorem selTo_len (A : Nat → ByteArray) (W : Nat → Int) (N k : Nat) : (selTo A W N k).length ≤ k := by
  unfold selTo
  exact Nat.le_trans (List.length_filter_le _ _) (by simp)

set_option maxRecDepth 1000000 in
set_option maxHeartbeats 8000000 in
theorem partC {u0 u2 u3 u4 u5 u8 u9 u10 u11 u12 u13 u14 u15 u16 u17 u18 u19 u20 u21 u22 u23 u24 u25 u26 u27 u28 u29 u30 u31 u32 u33 u34 u35 u36 u37 u38 u39 u40 u41 u42 u43 u44 u45 u46 u47 u48 u49 u50 u51 u52 u53 u54 u55 u56 u57 u58 u59 u60 u61 u62 u63 u64 u65 u66 u67 u68 u69 u70 u71 u72 u73 u74 u75 u76 u77 u78 u79 u80 u81 u82 u83 u84 u85 u86 u87 : Value} (N bx sb cap m : Nat) (a : Option Addr) (A : Nat → ByteArray) (W : Nat → Int) (Tg : Nat → Option Nat) (w0 w1 : World) (hN : N ≤ 1048576) (hm : m ≤ 1048576)
    (hb : Below w0.heap.size w0 w1) (lx : bx < w1.heap.size) (hx : w1.cell? ⟨bx, 0, none⟩ = some (.slice a N cap)) (hB : Bks w1 a N A W Tg) (ls : sb < w1.heap.size) (hs : ∀ i, i < N → w1.cell? ⟨sb, i, none⟩ = some (.bool (stB A W N i))) :
    Code.wp Tryf.prog (restAfter 7 (Tryf.f10.body.getD .skip)) (bodyPost Tryf.prog Tryf.f10 fun e w' => PartPost w0 N A W Tg e w') ⟨#[u0, .pointer (some ⟨bx, 0, none⟩), u2, u3, u4, u5, .slice (some ⟨sb, 0, none⟩) N N, .int .i64 (m : Int), u8, u9, u10, u11, u12, u13, u14, u15, u16, u17, u18, u19, u20, u21, u22, u23, u24, u25, u26, u27, u28, u29, u30, u31, u32, u33, u34, u35, u36, u37, u38, u39, u40, u41, u42, u43, u44, u45, u46, u47, u48, u49, u50, u51, u52, u53, u54, u55, u56, u57, u58, u59, u60, u61, u62, u63, u64, u65, u66, u67, u68, u69, u70, u71, u72, u73, u74, u75, u76, u77, u78, u79, u80, u81, u82, u83, u84, u85, u86, u87], []⟩ w1 := by
  conv => arg 2; whnf
  have hmk := make38 m hm
  have HB := toHid hB
  have HS := toHid hs
  have H0 := toHid hb
  have sz0 := hb.size
  have hxf := ((fresh38_below w1 m).cell (p := ⟨bx, 0, none⟩) lx).trans hx
  clear hB hs hb
  go_wp2_with fail
  clear hmk hxf
  go_loopg [10, 73] N (fun g v i wr => ∃ k : Nat, k ≤ N ∧ g = N - k ∧ i = .int .i64 k ∧ Below w1.heap.size w1 wr ∧ wr.ownsRow w1.heap.size 38 4 v (selTo A W N k).length (bkList (via A (selTo A W N k)) (via W (selTo A W N k)) (via Tg (selTo A W N k)) (selTo A W N k).length))
  case atStart => exact ⟨0, Nat.zero_le _, rfl, rfl, fresh38_below w1 m, fresh38_owns w1 _ m (Nat.le_refl _) hm⟩
  case round =>
    obtain ⟨k, hk, rfl, rfl, hbr, hown⟩ := hrel
    have HBr := toHid hbr
    have HO := toHid hown
    have hx' : wr.cell? ⟨bx, 0, none⟩ = some (.slice a N cap) := (hbr.cell (p := ⟨bx, 0, none⟩) lx).trans hx
    clear hbr hown
    by_cases hlt : k < N
    · have hlt' : (k : Int) < (N : Int) := by omega
      obtain ⟨b, o, ea, lb, cb⟩ := HB.out.at (by omega)
      subst ea
      obtain ⟨z0, z1, z2, z3⟩ := cb k hlt
      have lb' : b < wr.heap.size := Nat.lt_of_lt_of_le lb HBr.out.size
      have y0 := (HBr.out.cell (p := ⟨b, o + k * 4, none⟩) lb).trans z0
      have y1 := (HBr.out.cell (p := ⟨b, o + k * 4 + 1, none⟩) lb).trans z1
      have y2 := (HBr.out.cell (p := ⟨b, o + k * 4 + 2, none⟩) lb).trans z2
      have y3 := (HBr.out.cell (p := ⟨b, o + k * 4 + 3, none⟩) lb).trans z3
      have ys := (HBr.out.cell (p := ⟨sb, k, none⟩) ls).trans (HS.out k hlt)
      have ls' : sb < wr.heap.size := Nat.lt_of_lt_of_le ls HBr.out.size
      clear z0 z1 z2 z3 cb
      have HL := toHid (selTo_len A W N k)
      have up1 : Below w1.heap.size wr (wr.alloc (.cells #[.string (A k), .int .i64 (W k), .map (Tg k), .nilIface] 38)) := (Below.refl _ _).alloc HBr.out.size _
      have U1 := toHid up1
      have szr := HBr.out.size
      clear up1
      cases hst : stB A W N k
      · rw [hst] at ys
        have HST := toHid hst
        clear hst
        go_wp2_with fail
        go_roundg (N - (k + 1))
        case measure => omega
        case rel => exact ⟨k + 1, by omega, rfl, by go_num, HBr.out.trans U1.out, own_skip HST.out (owns_below HO.out ((Below.refl _ _).alloc (Nat.le_refl _) _) (Nat.le_refl _))⟩
      · rw [hst] at ys
        have HST := toHid hst
        clear hst
        go_wp2_with (at_builtin; refine wpList_append_bk rfl (.tmp 82) (.tmp 84) rfl w1.heap.size u10 _ _ rfl (owns_below HO.out (((Below.refl _ _).alloc (Nat.le_refl _) _).alloc (by simp) _) (Nat.le_refl _)) (wr.heap.size + 1) 1 (A k) (W k) (Tg k) rfl (by go_simp) (by go_simp) (by go_simp) (by go_simp) (by have := HL.out; omega) (by simp; omega) ?_; intro v' w3 q1 q2)
        have Q1 := toHid q1
        have Q2 := toHid (U1.out.trans (((Below.refl w1.heap.size _).alloc (by simp; omega) _).trans q2))
        clear q1 q2
        go_wp2_with fail
        go_roundg (N - (k + 1))
        case measure => omega
        case rel => exact ⟨k + 1, by omega, rfl, by go_num, HBr.out.trans Q2.out, own_step HST.out Q1.out⟩
    · have hkn : k = N := by omega
      subst hkn
      obtain ⟨a', c', rfl, q1, q2⟩ := bks_of_owns HO.out
      have Q1 := toHid q1
      clear q1 q2
      go_wp2_with fail
      go_ret
      have e := selTo_all A W k
      have q3 := Q1.out
      rw [e] at q3
      refine ⟨a', c', ?_, q3, H0.out.trans (HBr.out.mono sz0)⟩
      rw [← e]
      rfl

end Go.Proofs.Qxb6615931aFmt
