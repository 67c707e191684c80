import Derived.Test.Qxb6615969aNext
namespace Go.Proofs.Qxb6615969a
open Go.RowKit

/-- The outer iterator at M: its list of sets at A1, its slot at A2. -/
structure Out (w : World) (M A1 c1 A2 c2 m : Nat) (slot : Value) : Prop where
  h0 : w.cell? ⟨M, 0, none⟩ = some (.slice (some ⟨A1, 0, none⟩) 1 c1)
  h1 : w.cell? ⟨M, 1, none⟩ = some (.slice (some ⟨A2, 0, none⟩) 1 c2)
  h4 : w.cell? ⟨M, 4, none⟩ = some .nilIface
  hA : w.cell? ⟨A1, 0, none⟩ = some (.iface 38 (.pointer (some ⟨m, 0, none⟩)))
  hs : w.cell? ⟨A2, 0, none⟩ = some slot
  fs : w.frozen? ⟨A2, 0, none⟩ = false

theorem Out.of_blocks {w w' : World} {M A1 c1 A2 c2 m : Nat} {slot : Value} (h : Out w M A1 c1 A2 c2 m slot) (eM : w'.heap[M]? = w.heap[M]?) (e1 : w'.heap[A1]? = w.heap[A1]?) (e2 : w'.heap[A2]? = w.heap[A2]?) : Out w' M A1 c1 A2 c2 m slot :=
  ⟨(World.cell?_of_block (w := w) eM).trans h.h0, (World.cell?_of_block (w := w) eM).trans h.h1, (World.cell?_of_block (w := w) eM).trans h.h4, (World.cell?_of_block (w := w) e1).trans h.hA,
   (World.cell?_of_block (w := w) e2).trans h.hs, (World.frozen?_of_block (w := w) e2).trans h.fs⟩

theorem Out.set {w : World} {M A1 c1 A2 c2 m : Nat} {slot : Value} (h : Out w M A1 c1 A2 c2 m slot) (hM : A2 ≠ M) (h1 : A2 ≠ A1) (v : Value) : Out (w.setCell ⟨A2, 0, none⟩ v) M A1 c1 A2 c2 m v :=
  ⟨(cell_other _ hM _).trans h.h0, (cell_other _ hM _).trans h.h1, (cell_other _ hM _).trans h.h4, (cell_other _ h1 _).trans h.hA, cell_same _ h.hs _, (frozen_set _ _ _ _).trans h.fs⟩

theorem set_block (w : World) (p : Addr) (v : Value) {k : Nat} (h : k ≠ p.block) : (w.setCell p v).heap[k]? = w.heap[k]? := Below.heap_setCell w p v k h

/-- What 'advance' leaves where the set yields its one series. -/
def TakesPost (B : Nat) (w : World) (M A1 c1 A2 c2 m x xc y yc r : Nat) (la : Option Addr) (ln lc cn : Nat) (G : Nat → Value) (e : Ending) (w' : World) : Prop :=
  e = .returned (.tuple #[]) ∧ Below B w w' ∧ ∃ a' c' p, Cells w' a' (cn * 3) G ∧ It w' m x xc y yc r (.slice la ln lc) (.slice a' cn c') (.pointer none) ∧ Out w' M A1 c1 A2 c2 m (.pointer (some ⟨p, 0, none⟩)) ∧
    w'.cell? ⟨p, 0, none⟩ = some (.slice la ln lc) ∧ w'.cell? ⟨p, 1, none⟩ = some (.slice a' cn c')

theorem takes_end {B M A1 c1 A2 c2 m x xc y yc r : Nat} {la a' : Option Addr} {ln lc cn c' : Nat} {G : Nat → Value} {w w2 : World}
    (HQ : Cells w2 a' (cn * 3) G ∧ It w2 m x xc y yc r (.slice la ln lc) (.slice a' cn c') (.pointer none) ∧ Out w2 M A1 c1 A2 c2 m (.pointer none) ∧ Below B w w2) (F2 : ∀ z, a' = some z → w.heap.size ≤ z.block)
    (hBA : B ≤ A2) (_hB : B ≤ w.heap.size) (gM : A2 ≠ M) (g1 : A2 ≠ A1) (gm : A2 ≠ m) (gx : A2 ≠ x) (gy : A2 ≠ y) (gr : A2 ≠ r)
    (lm : m < w.heap.size) (lx : x < w.heap.size) (ly : y < w.heap.size) (lr : r < w.heap.size) (lM : M < w.heap.size) (lA1 : A1 < w.heap.size) (lA2 : A2 < w.heap.size) :
    TakesPost B w M A1 c1 A2 c2 m x xc y yc r la ln lc cn G (.returned (.tuple #[])) (((w2.setCell ⟨A2, 0, none⟩ (.pointer (some ⟨w2.heap.size + 1, 0, none⟩))).alloc (.cells #[.slice la ln lc, .slice a' cn c'] 42)).alloc (.cells #[.slice la ln lc, .slice a' cn c'] 42)) := by
  obtain ⟨q1, q3, q4, b2⟩ := HQ
  have sz := b2.size
  have hsz : (w2.setCell ⟨A2, 0, none⟩ (.pointer (some ⟨w2.heap.size + 1, 0, none⟩))).heap.size = w2.heap.size := by simp [World.setCell]
  have q1' := ownChunks q1 ⟨A2, 0, none⟩ (fun z hz => by have := F2 z hz; show z.block ≠ A2; omega) (.pointer (some ⟨w2.heap.size + 1, 0, none⟩))
  have q3' : It (w2.setCell ⟨A2, 0, none⟩ (.pointer (some ⟨w2.heap.size + 1, 0, none⟩))) m x xc y yc r (.slice la ln lc) (.slice a' cn c') (.pointer none) := q3.of_blocks (set_block _ _ _ gm.symm) (set_block _ _ _ gx.symm) (set_block _ _ _ gy.symm) (set_block _ _ _ gr.symm)
  have q4' := q4.set gM g1 (.pointer (some ⟨w2.heap.size + 1, 0, none⟩))
  have b2' : Below B w (w2.setCell ⟨A2, 0, none⟩ (.pointer (some ⟨w2.heap.size + 1, 0, none⟩))) := b2.setCell hBA _
  revert hsz q1' q3' q4' b2'
  generalize w2.setCell ⟨A2, 0, none⟩ (.pointer (some ⟨w2.heap.size + 1, 0, none⟩)) = w3
  intro hsz q1' q3' q4' b2'
  have up : Below w3.heap.size w3 ((w3.alloc (.cells #[.slice la ln lc, .slice a' cn c'] 42)).alloc (.cells #[.slice la ln lc, .slice a' cn c'] 42)) :=
    ((Below.refl _ _).alloc (Nat.le_refl _) _).alloc (by simp) _
  refine ⟨rfl, b2'.trans (up.mono (by omega)), a', c', w2.heap.size + 1, q1'.below up (Nat.le_refl _), q3'.of_blocks (up.block _ (by omega)) (up.block _ (by omega)) (up.block _ (by omega)) (up.block _ (by omega)),
    q4'.of_blocks (up.block _ (by omega)) (up.block _ (by omega)) (up.block _ (by omega)), ?_, ?_⟩
  · rw [← hsz]; simp
  · rw [← hsz]; simp

set_option maxHeartbeats 4000000 in
theorem advance_takes (B M A1 c1 A2 c2 m x xc y yc r s : Nat) (slot : Value) (la : Option Addr) (ln lc cb cn cc : Nat) (N V : Nat → ByteArray) (G : Nat → Value) (w : World)
    (hO : Out w M A1 c1 A2 c2 m slot) (hI : It w m x xc y yc r (.slice none 0 0) (.slice none 0 0) (.pointer (some ⟨s, 0, none⟩)))
    (s0 : w.cell? ⟨s, 0, none⟩ = some (.slice la ln lc)) (s1 : w.cell? ⟨s, 1, none⟩ = some (.slice (some ⟨cb, 0, none⟩) cn cc))
    (hmx : m ≠ x) (hms : m ≠ s) (hmy : m ≠ y) (hmr : m ≠ r) (hxy : x ≠ y) (hxr : x ≠ r) (hBm : B ≤ m) (hBx : B ≤ x) (hBA : B ≤ A2) (hB : B ≤ w.heap.size)
    (gM : A2 ≠ M) (g1 : A2 ≠ A1) (gm : A2 ≠ m) (gx : A2 ≠ x) (gy : A2 ≠ y) (gr : A2 ≠ r) (gs : A2 ≠ s) (iM : M ≠ m) (iMx : M ≠ x) (i1 : A1 ≠ m) (i1x : A1 ≠ x)
    (lm : m < w.heap.size) (lx : x < w.heap.size) (ly : y < w.heap.size) (lr : r < w.heap.size) (lM : M < w.heap.size) (lA1 : A1 < w.heap.size) (lA2 : A2 < w.heap.size)
    (hln : ln ≤ 1048576) (hcn : cn ≤ 1048576)
    (hLab : ∀ w', Below B w w' → Labels w' la ln N V) (hCh : ∀ w', Below B w w' → ∀ j, j < cn * 3 → w'.cell? ⟨cb, j, none⟩ = some (G j)) (hG : ∀ j, (G j).oneCell' = true) :
    Calls Try.prog 15 #[.pointer (some ⟨M, 0, none⟩), .int .i64 0] w fun e w' => TakesPost B w M A1 c1 A2 c2 m x xc y yc r la ln lc cn G e w' := by
  have O1 := hO.set gM g1 (.pointer none)
  have I1 : It (w.setCell ⟨A2, 0, none⟩ (.pointer none)) m x xc y yc r (.slice none 0 0) (.slice none 0 0) (.pointer (some ⟨s, 0, none⟩)) :=
    hI.of_blocks (set_block _ _ _ gm.symm) (set_block _ _ _ gx.symm) (set_block _ _ _ gy.symm) (set_block _ _ _ gr.symm)
  have b1 : Below B w (w.setCell ⟨A2, 0, none⟩ (.pointer none)) := (Below.refl _ _).setCell hBA _
  have sz1 : (w.setCell ⟨A2, 0, none⟩ (.pointer none)).heap.size = w.heap.size := by simp [World.setCell]
  have hnx := next37_full B m x xc y yc r s la ln lc cb cn cc N V G (w.setCell ⟨A2, 0, none⟩ (.pointer none)) I1 ((cell_other _ gs _).trans s0) ((cell_other _ gs _).trans s1)
    hmx hms hmy hmr hxy hxr hBm hBx (by rw [sz1]; exact hB) (by rw [sz1]; exact lm) (by rw [sz1]; exact lx) (by rw [sz1]; exact ly) (by rw [sz1]; exact lr) hln hcn
    (fun w' h => hLab w' (b1.trans h)) (fun w' h => hCh w' (b1.trans h)) hG
  have HNX : Hid (Calls Try.prog 37 #[.pointer (some ⟨m, 0, none⟩)] (w.setCell ⟨A2, 0, none⟩ (.pointer none)) fun e w' => FullPost (w.setCell ⟨A2, 0, none⟩ (.pointer none)) m x xc y yc r la ln lc cn G e w') := hnx
  have HO1 : Hid (Out (w.setCell ⟨A2, 0, none⟩ (.pointer none)) M A1 c1 A2 c2 m (.pointer none)) := O1
  have mn := method_next
  have ma := method_at
  have z1 := hO.h1
  have zs := hO.hs
  have zf := hO.fs
  have y0 := O1.h0
  have yA := O1.hA
  have HB1 : Hid (Below B w (w.setCell ⟨A2, 0, none⟩ (.pointer none))) := b1
  clear hnx hLab hCh hG hI I1 s0 s1 O1 hO b1
  go_enter Try.func15, Try.ntmps15
  go_wp2_with fail
  refine HNX.out.mono ?_
  rintro e w2 ⟨rfl, a', c', q1, q2, q3, q4⟩
  have O2 : Out w2 M A1 c1 A2 c2 m (.pointer none) := HO1.out.of_blocks (q4.block M (by rw [sz1]; exact lM) iM iMx) (q4.block A1 (by rw [sz1]; exact lA1) i1 i1x) (q4.block A2 (by rw [sz1]; exact lA2) gm gx)
  have b2 : Below B w w2 := HB1.out.trans (q4.old hBm hBx (by rw [sz1]; exact hB))
  have n0 := O2.h0
  have nA := O2.hA
  have m2 := q3.h2
  have m3 := q3.h3
  have lm2 : m < w2.heap.size := Nat.lt_of_lt_of_le lm b2.size
  have lM2 : M < w2.heap.size := Nat.lt_of_lt_of_le lM b2.size
  have lA2' : A2 < w2.heap.size := Nat.lt_of_lt_of_le lA2 b2.size
  have HQ : Hid (Cells w2 a' (cn * 3) G ∧ It w2 m x xc y yc r (.slice la ln lc) (.slice a' cn c') (.pointer none) ∧ Out w2 M A1 c1 A2 c2 m (.pointer none) ∧ Below B w w2) := ⟨q1, q3, O2, b2⟩
  have F2 : Hid (∀ z, a' = some z → w.heap.size ≤ z.block) := fun z hz => by have := q2 z hz; rw [sz1] at this; exact this
  clear q1 q2 q3 q4 b2 HNX HO1 HB1 z1 zs zf y0 yA
  go_wp2_with fail
  refine (at34 m la a' ln lc cn c' w2 lm2 m2 m3).mono ?_
  rintro e w3 ⟨rfl, rfl⟩
  have x1 := O2.h1
  have xs := O2.hs
  have xf := O2.fs
  clear O2
  go_wp2_with fail
  go_end0
  exact takes_end HQ.out F2.out hBA hB gM g1 gm gx gy gr lm lx ly lr lM lA1 lA2

end Go.Proofs.Qxb6615969a
