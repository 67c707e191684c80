import Derived.Test.Qxb6615931aFmtOwn
import Derived.Test.Qxb6615931aFmtItoa
import Derived.Test.Qxb6615931aFmtSort
import Derived.WideMake
namespace Go.Proofs.Qxb6615931aFmt
open Go.RowKit

/-- The cells of the entries of the input: an address, a weight. -/
def esF (A : Nat → ByteArray) (W : Nat → Int) (j : Nat) : Value := if j % 2 = 0 then .string (A (j / 2)) else .int .i64 (W (j / 2))
theorem esF0 (A : Nat → ByteArray) (W : Nat → Int) (i : Nat) : esF A W (i * 2) = .string (A i) := by
  unfold esF
  rw [if_pos (by omega), show i * 2 / 2 = i from by omega]
theorem esF1 (A : Nat → ByteArray) (W : Nat → Int) (i : Nat) : esF A W (i * 2 + 1) = .int .i64 (W i) := by
  unfold esF
  rw [if_neg (by omega), show (i * 2 + 1) / 2 = i from by omega]
def Es (w : World) (a : Option Addr) (n : Nat) (A : Nat → ByteArray) (W : Nat → Int) : Prop := Cells w a (n * 2) (esF A W)
theorem Es.at {w : World} {a : Option Addr} {n : Nat} {A : Nat → ByteArray} {W : Nat → Int} (h : Es w a n A W) (hn : 0 < n) :
    ∃ b o : Nat, a = some ⟨b, o, none⟩ ∧ b < w.heap.size ∧ ∀ i, i < n → w.cell? ⟨b, o + i * 2, none⟩ = some (.string (A i)) ∧ w.cell? ⟨b, o + i * 2 + 1, none⟩ = some (.int .i64 (W i)) := by
  obtain ⟨b, o, e, l, c⟩ := h (by omega)
  refine ⟨b, o, e, l, fun i hi => ⟨?_, ?_⟩⟩
  · rw [c (i * 2) (by omega), esF0]
  · rw [Nat.add_assoc, c (i * 2 + 1) (by omega), esF1]

def tagObj (s : ByteArray) : Obj := .map #[{ key := .string ⟨#[105]⟩, val := .string s, born := 0 }] 1
def TagAt (w : World) (b : Nat) (s : ByteArray) : Prop := w.heap[b]? = some (tagObj s)
def tagged (w : World) (m : Nat) (s : ByteArray) : World := { w with heap := w.heap.setIfInBounds m (tagObj s) }

theorem tagged_below (w : World) (m : Nat) (s : ByteArray) : Below m w (tagged w m s) := by
  refine ⟨rfl, rfl, rfl, by simp [tagged], fun k hk => ?_⟩
  simp only [tagged]
  rw [Array.getElem?_setIfInBounds, if_neg (by omega)]
theorem tagged_at (w : World) (m : Nat) (s : ByteArray) (h : m < w.heap.size) : TagAt (tagged w m s) m s := by
  simp [TagAt, tagged, h]

theorem update35 (w : World) (m : Nat) (s : ByteArray) (hb : w.heap[m]? = some (.map #[] 0)) : (Instr.mapUpdate 35 (.map (some m)) (.string ⟨#[105]⟩) (.string s)).run Tryf.prog w = .ok () (tagged w m s) :=
  run_mapUpdate_first w 35 9 9 m 0 ⟨#[105]⟩ (.string s) Tryf.underlying35 Tryf.underlying9 hb

theorem itoaZ (n : Nat) (z : Int) (hz : z = (n : Int)) (w : World) (hn : n ≤ 1048576) : Calls Tryf.prog 11 #[.int .i64 z] w fun e w' => e = .returned (.string (itoa n)) ∧ Below w.heap.size w w' := by
  subst hz; exact itoa11 n w hn

theorem after_alloc {w w2 : World} {o : Obj} (hb : Below (w.alloc o).heap.size (w.alloc o) w2) : w2.heap[w.heap.size]? = some o := by
  rw [hb.block _ (by simp)]
  show (w.heap.push o)[w.heap.size]? = _
  rw [Array.getElem?_push, if_pos rfl]

def zero38 (j : Nat) : Value := (#[Value.string ⟨#[]⟩, .int .i64 0, .map none, .nilIface] : Array Value)[j % 4]!

/-- The maps of n backends hold the tag strings S. -/
def Tags (w : World) (n : Nat) (Tg : Nat → Option Nat) (S : Nat → ByteArray) : Prop := ∀ i, i < n → ∃ b, Tg i = some b ∧ b < w.heap.size ∧ TagAt w b (S i)

/-- What zzBackends hands back. -/
def BackPost (w : World) (N : Nat) (A : Nat → ByteArray) (W : Nat → Int) (fr : Nat) (e : Ending) (w' : World) : Prop :=
  ∃ Tg, e = .returned (.slice (some ⟨w.heap.size, 0, none⟩) N N) ∧ Bks w' (some ⟨w.heap.size, 0, none⟩) N A W Tg ∧ Below w.heap.size w w' ∧ w.heap.size < w'.heap.size ∧ Tags w' N Tg (fun i => itoa (fr + i))

def set4 (w : World) (b k : Nat) (s : ByteArray) (z : Int) (m : Nat) : World :=
  (((w.setCell ⟨b, k * 4, none⟩ (.string s)).setCell ⟨b, k * 4 + 1, none⟩ (.int .i64 z)).setCell ⟨b, k * 4 + 2, none⟩ (.map (some m))).setCell ⟨b, k * 4 + 3, none⟩ .nilIface

theorem But1.setCell {b : Nat} {w w' : World} (h : But1 b w w') (o : Nat) (v : Value) : But1 b w (w'.setCell ⟨b, o, none⟩ v) :=
  ⟨h.os, h.tape, h.output, by simpa [World.setCell] using h.size, fun k hk hne => (Below.heap_setCell w' ⟨b, o, none⟩ v k hne).trans (h.block k hk hne)⟩

theorem set4_but (w : World) (b k : Nat) (s : ByteArray) (z : Int) (m : Nat) : But1 b w (set4 w b k s z m).drew := by
  have h0 : But1 b w w := ⟨rfl, rfl, rfl, Nat.le_refl _, fun _ _ _ => rfl⟩
  have h := (((h0.setCell (k * 4) (.string s)).setCell (k * 4 + 1) (.int .i64 z)).setCell (k * 4 + 2) (.map (some m))).setCell (k * 4 + 3) .nilIface
  exact ⟨h.os, h.tape, h.output, h.size, h.block⟩

theorem bk_step {w : World} {b N k m : Nat} {A : Nat → ByteArray} {W : Nat → Int} {Tg : Nat → Option Nat} (h : w.rowIs b 38 (N * 4) (mix (bkF A W fun i => .map (Tg i)) zero38 (k * 4))) :
    (set4 w b k (A k) (W k) m).drew.rowIs b 38 (N * 4) (mix (bkF A W fun i => .map (if i = k then some m else Tg i)) zero38 ((k + 1) * 4)) := by
  have h0 : w.rowIs b 38 (N * 4) (mix (bkF A W fun i => .map (if i = k then some m else Tg i)) zero38 (k * 4)) := h.congr fun j _ => by
    unfold mix
    by_cases l : j < k * 4
    · rw [if_pos l, if_pos l]
      refine bkF_congr rfl rfl ?_
      rw [if_neg (by omega)]
    · rw [if_neg l, if_neg l]
  have h1 := mix_step h0
  have h2 := mix_step h1
  have h3 := mix_step h2
  have h4 := mix_step h3
  rw [bkF0, bkF1, show k * 4 + 1 + 1 = k * 4 + 2 from rfl, bkF2, show k * 4 + 2 + 1 = k * 4 + 3 from rfl, bkF3, if_pos rfl, show k * 4 + 3 + 1 = (k + 1) * 4 from by omega] at h4
  exact h4

set_option maxRecDepth 1000000 in
set_option maxHeartbeats 8000000 in
theorem backends6 (N cap fr : Nat) (a : Option Addr) (A : Nat → ByteArray) (W : Nat → Int) (w : World) (hn : N ≤ 1048576) (hf : fr + N ≤ 1048576) (hE : Es w a N A W) :
    Calls Tryf.prog 6 #[.slice a N cap, .int .i64 (fr : Int)] w fun e w' => BackPost w N A W fr e w' := by
  have hmk := make38n N hn
  have HE := toHid hE
  clear hE
  go_enter Tryf.func6, Tryf.ntmps6
  go_wp2_with fail
  clear hmk
  rename_i Kc hKc
  have HKc := toHid hKc
  clear hKc
  go_loopg [6] N (fun g i wr => ∃ k : Nat, ∃ Tg : Nat → Option Nat, k ≤ N ∧ g = N - k ∧ i = .int .i64 k ∧ Below w.heap.size w wr ∧ w.heap.size < wr.heap.size ∧ wr.rowIs w.heap.size 38 (N * 4) (mix (bkF A W fun i => .map (Tg i)) zero38 (k * 4)) ∧ (∀ i, i < k → ∃ b, Tg i = some b ∧ w.heap.size < b ∧ b < wr.heap.size ∧ TagAt wr b (itoa (fr + i))))
  case atStart =>
    exact ⟨0, fun _ => none, Nat.zero_le _, rfl, rfl, fresh38_below w N, by simp [fresh38], mix_start (fresh38_row w N), fun i hi => absurd hi (Nat.not_lt_zero _)⟩
  case round =>
    obtain ⟨k, Tg, hk, rfl, rfl, hbr, szr, hrow, htg⟩ := hrel
    have HBr := toHid hbr
    have HR := toHid hrow
    have HT := toHid htg
    clear hrow htg
    by_cases hlt : k < N
    · have hlt' : (k : Int) < (N : Int) := by omega
      obtain ⟨b, o, ea, lb, cb⟩ := HE.out.at (n := N) (by omega)
      subst ea
      obtain ⟨z0, z1⟩ := cb k hlt
      have y0 := (hbr.cell (p := ⟨b, o + k * 2, none⟩) lb).trans z0
      have y1 := (hbr.cell (p := ⟨b, o + k * 2 + 1, none⟩) lb).trans z1
      have x0 := y0
      have x1 := y1
      clear z0 z1 cb hbr
      have hmm := @run_makeMap Tryf.prog
      go_wp2_with (go_at_call 11; refine (itoaZ (fr + k) ((fr : Int) + (k : Int)) (by omega) _ (by omega)).mono ?_; rintro e w2 ⟨rfl, hb2⟩; have H2 := toHid hb2; have hup := update35 w2 wr.heap.size (itoa (fr + k)) (after_alloc hb2); clear hb2)
      clear hup hmm y0 y1
      have b3 : Below wr.heap.size wr (tagged w2 wr.heap.size (itoa (fr + k))) := ((Below.refl _ _).alloc (Nat.le_refl _) _).trans ((H2.out.mono (by simp)).trans (tagged_below w2 _ _))
      have t3 : TagAt (tagged w2 wr.heap.size (itoa (fr + k))) wr.heap.size (itoa (fr + k)) := tagged_at w2 _ _ (Nat.lt_of_lt_of_le (by simp) H2.out.size)
      have s3 : wr.heap.size < (tagged w2 wr.heap.size (itoa (fr + k))).heap.size := by
        have := H2.out.size
        simp at this
        simp [tagged]; omega
      clear H2
      generalize tagged w2 wr.heap.size (itoa (fr + k)) = w3 at *
      have r3 : w3.rowIs w.heap.size 38 (N * 4) (mix (bkF A W fun i => .map (Tg i)) zero38 (k * 4)) := row_below HR.out b3 szr
      have l3 : w.heap.size < w3.heap.size := by omega
      have lb3 : b < w3.heap.size := by omega
      have y0 := (b3.cell (p := ⟨b, o + k * 2, none⟩) (by simp; omega)).trans x0
      have y1 := (b3.cell (p := ⟨b, o + k * 2 + 1, none⟩) (by simp; omega)).trans x1
      have c0 := r3.cell (i := k * 4) (by omega)
      have c1 := r3.cell (i := k * 4 + 1) (by omega)
      have c2 := r3.cell (i := k * 4 + 2) (by omega)
      have c3 := r3.cell (i := k * 4 + 3) (by omega)
      have f0 := r3.frozen (k * 4)
      have f1 := r3.frozen (k * 4 + 1)
      have f2 := r3.frozen (k * 4 + 2)
      have f3 := r3.frozen (k * 4 + 3)
      have R3 := toHid r3
      have B3 := toHid b3
      have T3 := toHid t3
      clear r3 b3 t3
      go_region
      go_wp2_with fail
      go_roundg (N - (k + 1))
      case measure => omega
      case rel =>
        have hb4 : But1 w.heap.size w3 (set4 w3 w.heap.size k (A k) (W k) wr.heap.size).drew := set4_but _ _ _ _ _ _
        refine ⟨k + 1, fun i => if i = k then some wr.heap.size else Tg i, by omega, rfl, by go_num, (HBr.out.trans (B3.out.mono (by omega))).trans (hb4.old (Nat.le_refl _) (by omega)), Nat.lt_of_lt_of_le l3 hb4.size, bk_step R3.out, fun i hi => ?_⟩
        by_cases e : i = k
        · subst e
          exact ⟨wr.heap.size, if_pos rfl, szr, Nat.lt_of_lt_of_le s3 hb4.size, (hb4.block _ s3 (by omega)).trans T3.out⟩
        · obtain ⟨b', e1, e2, e3, e4⟩ := HT.out i (by omega)
          exact ⟨b', (if_neg e).trans e1, e2, Nat.lt_of_lt_of_le e3 (Nat.le_trans B3.out.size hb4.size), ((hb4.block _ (Nat.lt_of_lt_of_le e3 B3.out.size) (by omega)).trans (B3.out.block _ e3)).trans e4⟩
    · have hkn : k = N := by omega
      subst hkn
      clear hbr
      go_wp2_with fail
      refine HKc.out _ _ ?_
      clear HKc
      go_wp2_with fail
      go_ret
      refine ⟨Tg, rfl, Cells.of_row (mix_done HR.out), HBr.out, szr, fun i hi => ?_⟩
      obtain ⟨b', e1, e2, e3, e4⟩ := HT.out i hi
      exact ⟨b', e1, e3, e4⟩

end Go.Proofs.Qxb6615931aFmt
