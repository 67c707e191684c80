import Derived.Test.Qxb6615969aMerge
import Derived.Test.Qxb6615969aAppend
namespace Go.Proofs.Qxb6615969a
open Go.RowKit

theorem build42 (a : Option Addr) (n c : Nat) (w : World) : (Instr.build 42 #[(0, .slice a n c)]).run Try.prog w = .ok (.agg #[.slice a n c, .slice none 0 0]) w := run_build w 42 _ _ (by kernel_rfl)

/-- The inner set in memory: the iterator at m, its slot at x, its list of sets at y, the set that is done at r. -/
structure It (w : World) (m x xc y yc r : Nat) (c2 c3 slot : Value) : Prop where
  h0 : w.cell? ⟨m, 0, none⟩ = some (.slice (some ⟨y, 0, none⟩) 1 yc)
  h1 : w.cell? ⟨m, 1, none⟩ = some (.slice (some ⟨x, 0, none⟩) 1 xc)
  h2 : w.cell? ⟨m, 2, none⟩ = some c2
  h3 : w.cell? ⟨m, 3, none⟩ = some c3
  h4 : w.cell? ⟨m, 4, none⟩ = some .nilIface
  f2 : w.frozen? ⟨m, 2, none⟩ = false
  f3 : w.frozen? ⟨m, 3, none⟩ = false
  hx : w.cell? ⟨x, 0, none⟩ = some slot
  fx : w.frozen? ⟨x, 0, none⟩ = false
  hy : w.cell? ⟨y, 0, none⟩ = some (.iface 38 (.pointer (some ⟨r, 0, none⟩)))
  r4 : w.cell? ⟨r, 4, none⟩ = some .nilIface
  r1 : w.cell? ⟨r, 1, none⟩ = some (.slice none 0 0)

theorem It.of_blocks {w w' : World} {m x xc y yc r : Nat} {c2 c3 slot : Value} (h : It w m x xc y yc r c2 c3 slot) (em : w'.heap[m]? = w.heap[m]?) (ex : w'.heap[x]? = w.heap[x]?) (ey : w'.heap[y]? = w.heap[y]?) (er : w'.heap[r]? = w.heap[r]?) :
    It w' m x xc y yc r c2 c3 slot :=
  ⟨(World.cell?_of_block (w := w) em).trans h.h0, (World.cell?_of_block (w := w) em).trans h.h1, (World.cell?_of_block (w := w) em).trans h.h2, (World.cell?_of_block (w := w) em).trans h.h3, (World.cell?_of_block (w := w) em).trans h.h4,
   (World.frozen?_of_block (w := w) em).trans h.f2, (World.frozen?_of_block (w := w) em).trans h.f3, (World.cell?_of_block (w := w) ex).trans h.hx, (World.frozen?_of_block (w := w) ex).trans h.fx, (World.cell?_of_block (w := w) ey).trans h.hy,
   (World.cell?_of_block (w := w) er).trans h.r4, (World.cell?_of_block (w := w) er).trans h.r1⟩

theorem cell_same (w : World) {p : Addr} {u : Value} (h : w.cell? p = some u) (v : Value) : (w.setCell p v).cell? p = some v := by
  exact World.cell?_setCell_same _ _ _ h

theorem cell_off (w : World) {p q : Addr} (h : p ≠ q) (v : Value) : (w.setCell p v).cell? q = w.cell? q := World.cell?_setCell_other _ _ _ _ h

theorem frozen_set (w : World) (p q : Addr) (v : Value) : (w.setCell p v).frozen? q = w.frozen? q := by simp

/-- m.cur is written. -/
theorem It.set2 {w : World} {m x xc y yc r : Nat} {c2 c3 slot : Value} (h : It w m x xc y yc r c2 c3 slot) (hx : m ≠ x) (hy : m ≠ y) (hr : m ≠ r) (v : Value) : It (w.setCell ⟨m, 2, none⟩ v) m x xc y yc r v c3 slot :=
  ⟨(cell_off _ (by simp) _).trans h.h0, (cell_off _ (by simp) _).trans h.h1, cell_same _ h.h2 _, (cell_off _ (by simp) _).trans h.h3, (cell_off _ (by simp) _).trans h.h4,
   (frozen_set _ _ _ _).trans h.f2, (frozen_set _ _ _ _).trans h.f3, (cell_other _ hx _).trans h.hx, (frozen_set _ _ _ _).trans h.fx, (cell_other _ hy _).trans h.hy, (cell_other _ hr _).trans h.r4, (cell_other _ hr _).trans h.r1⟩

theorem It.set3 {w : World} {m x xc y yc r : Nat} {c2 c3 slot : Value} (h : It w m x xc y yc r c2 c3 slot) (hx : m ≠ x) (hy : m ≠ y) (hr : m ≠ r) (v : Value) : It (w.setCell ⟨m, 3, none⟩ v) m x xc y yc r c2 v slot :=
  ⟨(cell_off _ (by simp) _).trans h.h0, (cell_off _ (by simp) _).trans h.h1, (cell_off _ (by simp) _).trans h.h2, cell_same _ h.h3 _, (cell_off _ (by simp) _).trans h.h4,
   (frozen_set _ _ _ _).trans h.f2, (frozen_set _ _ _ _).trans h.f3, (cell_other _ hx _).trans h.hx, (frozen_set _ _ _ _).trans h.fx, (cell_other _ hy _).trans h.hy, (cell_other _ hr _).trans h.r4, (cell_other _ hr _).trans h.r1⟩

theorem It.setX {w : World} {m x xc y yc r : Nat} {c2 c3 slot : Value} (h : It w m x xc y yc r c2 c3 slot) (hx : m ≠ x) (hy : x ≠ y) (hr : x ≠ r) (v : Value) : It (w.setCell ⟨x, 0, none⟩ v) m x xc y yc r c2 c3 v :=
  ⟨(cell_other _ hx.symm _).trans h.h0, (cell_other _ hx.symm _).trans h.h1, (cell_other _ hx.symm _).trans h.h2, (cell_other _ hx.symm _).trans h.h3, (cell_other _ hx.symm _).trans h.h4,
   (frozen_set _ _ _ _).trans h.f2, (frozen_set _ _ _ _).trans h.f3, cell_same _ h.hx _, (frozen_set _ _ _ _).trans h.fx, (cell_other _ hy _).trans h.hy, (cell_other _ hr _).trans h.r4, (cell_other _ hr _).trans h.r1⟩

/-- From w to w' only the blocks m and x, and new ones, have turned. -/
structure But (m x : Nat) (w w' : World) : Prop where
  os : w'.os = w.os
  tape : w'.tape = w.tape
  output : w'.output = w.output
  size : w.heap.size ≤ w'.heap.size
  block : ∀ k, k < w.heap.size → k ≠ m → k ≠ x → w'.heap[k]? = w.heap[k]?

theorem But.refl (m x : Nat) (w : World) : But m x w w := ⟨rfl, rfl, rfl, Nat.le_refl _, fun _ _ _ _ => rfl⟩
theorem But.trans {m x : Nat} {a b c : World} (h : But m x a b) (k : But m x b c) : But m x a c :=
  ⟨k.os.trans h.os, k.tape.trans h.tape, k.output.trans h.output, Nat.le_trans h.size k.size, fun i hi h1 h2 => (k.block i (Nat.lt_of_lt_of_le hi h.size) h1 h2).trans (h.block i hi h1 h2)⟩
theorem But.setM {m x o : Nat} {a b : World} (h : But m x a b) (v : Value) : But m x a (b.setCell ⟨m, o, none⟩ v) :=
  h.trans ⟨rfl, rfl, rfl, by simp [World.setCell], fun k _ h1 _ => Below.heap_setCell _ _ _ _ h1⟩
theorem But.setX {m x o : Nat} {a b : World} (h : But m x a b) (v : Value) : But m x a (b.setCell ⟨x, o, none⟩ v) :=
  h.trans ⟨rfl, rfl, rfl, by simp [World.setCell], fun k _ _ h2 => Below.heap_setCell _ _ _ _ h2⟩
theorem But.drewN {m x : Nat} {a b : World} (h : But m x a b) (n : Nat) : But m x a (b.drewN n) := h.trans ⟨rfl, rfl, rfl, Nat.le_refl _, fun _ _ _ _ => rfl⟩
theorem But.drew {m x : Nat} {a b : World} (h : But m x a b) : But m x a b.drew := h.trans ⟨rfl, rfl, rfl, Nat.le_refl _, fun _ _ _ _ => rfl⟩
theorem But.below {m x : Nat} {a b c : World} (h : But m x a b) (k : Below b.heap.size b c) : But m x a c :=
  h.trans ⟨k.os, k.tape, k.output, k.size, fun i hi _ _ => k.block i hi⟩
theorem But.old {m x B : Nat} {a b : World} (h : But m x a b) (hm : B ≤ m) (hx : B ≤ x) (hB : B ≤ a.heap.size) : Below B a b :=
  ⟨h.os, h.tape, h.output, h.size, fun k hk => h.block k (by omega) (by omega) (by omega)⟩

theorem ownChunks {w : World} {a : Option Addr} {n : Nat} {G : Nat → Value} (h : Cells w a n G) (p : Addr) (hp : ∀ x, a = some x → x.block ≠ p.block) (v : Value) : Cells (w.setCell p v) a n G := by
  intro hn
  obtain ⟨b, o, ha, hlt, hc⟩ := h hn
  exact ⟨b, o, ha, by simpa [World.setCell] using hlt, fun i hi => (cell_other (q := ⟨b, o + i, none⟩) _ (fun e => hp _ ha e.symm) _).trans (hc i hi)⟩

/-- What Next leaves where it finds the one series. -/
def FullPost (w : World) (m x xc y yc r : Nat) (la : Option Addr) (ln lc cn : Nat) (G : Nat → Value) (e : Ending) (w' : World) : Prop :=
  e = .returned (.bool true) ∧ ∃ a' c', Cells w' a' (cn * 3) G ∧ (∀ x, a' = some x → w.heap.size ≤ x.block) ∧ It w' m x xc y yc r (.slice la ln lc) (.slice a' cn c') (.pointer none) ∧ But m x w w'

set_option maxHeartbeats 4000000 in
theorem next37_full (B m x xc y yc r s : Nat) (la : Option Addr) (ln lc cb cn cc : Nat) (N V : Nat → ByteArray) (G : Nat → Value) (w : World)
    (hI : It w m x xc y yc r (.slice none 0 0) (.slice none 0 0) (.pointer (some ⟨s, 0, none⟩)))
    (s0 : w.cell? ⟨s, 0, none⟩ = some (.slice la ln lc)) (s1 : w.cell? ⟨s, 1, none⟩ = some (.slice (some ⟨cb, 0, none⟩) cn cc))
    (hmx : m ≠ x) (hms : m ≠ s) (hmy : m ≠ y) (hmr : m ≠ r) (hxy : x ≠ y) (hxr : x ≠ r) (hBm : B ≤ m) (hBx : B ≤ x) (hB : B ≤ w.heap.size)
    (lm : m < w.heap.size) (lx : x < w.heap.size) (ly : y < w.heap.size) (lr : r < w.heap.size)
    (hln : ln ≤ 1048576) (hcn : cn ≤ 1048576)
    (hLab : ∀ w', Below B w w' → Labels w' la ln N V) (hCh : ∀ w', Below B w w' → ∀ j, j < cn * 3 → w'.cell? ⟨cb, j, none⟩ = some (G j)) (hG : ∀ j, (G j).oneCell' = true) :
    Calls Try.prog 37 #[.pointer (some ⟨m, 0, none⟩)] w fun e w' => FullPost w m x xc y yc r la ln lc cn G e w' := by
  have hb42 := build42
  obtain ⟨h0, h1, h2, h3, h4, f2, f3, hx, fx, hy, r4, r1⟩ := hI
  have HLab : Hid (∀ w', Below B w w' → Labels w' la ln N V) := hLab
  have HCh : Hid (∀ w', Below B w w' → ∀ j, j < cn * 3 → w'.cell? ⟨cb, j, none⟩ = some (G j)) := hCh
  have HG : Hid (∀ j, (G j).oneCell' = true) := hG
  have HI : It w m x xc y yc r (.slice none 0 0) (.slice none 0 0) (.pointer (some ⟨s, 0, none⟩)) := ⟨h0, h1, h2, h3, h4, f2, f3, hx, fx, hy, r4, r1⟩
  clear hLab hCh hG
  go_enter Try.func37, Try.ntmps37
  go_wp2
  refine wp_loop_rounds 2 ?_
  rw [rounds_succ]
  go_wp2_with fail
  rw [rounds_succ]
  go_wp2_with fail
  have I1 := (HI.set2 hmx hmy hmr (.slice la ln lc)).set3 hmx hmy hmr (.slice none 0 0)
  have B1 : But m x w ((w.setCell ⟨m, 2, none⟩ (.slice la ln lc)).setCell ⟨m, 3, none⟩ (.slice none 0 0)) := ((But.refl m x w).setM _).setM _
  have t0 : ((w.setCell ⟨m, 2, none⟩ (.slice la ln lc)).setCell ⟨m, 3, none⟩ (.slice none 0 0)).cell? ⟨s, 0, none⟩ = some (.slice la ln lc) := (cell_other _ hms _).trans ((cell_other _ hms _).trans s0)
  have t1 : ((w.setCell ⟨m, 2, none⟩ (.slice la ln lc)).setCell ⟨m, 3, none⟩ (.slice none 0 0)).cell? ⟨s, 1, none⟩ = some (.slice (some ⟨cb, 0, none⟩) cn cc) := (cell_other _ hms _).trans ((cell_other _ hms _).trans s1)
  clear h0 h1 h2 h3 h4 f2 f3 hx fx hy r4 r1 HI s0 s1
  generalize (w.setCell ⟨m, 2, none⟩ (.slice la ln lc)).setCell ⟨m, 3, none⟩ (.slice none 0 0) = w1 at *
  have j1 := I1.h1
  have jx := I1.hx
  refine wp_loop_rounds 2 ?_
  rw [rounds_succ]
  go_wp2_with fail
  refine (compare_self la ln lc N V w1 hln (HLab.out w1 (B1.old hBm hBx hB))).mono ?_
  rintro e w2 ⟨rfl, nq, hw2⟩
  have HW2 : Hid (w2 = w1.drewN nq) := hw2
  have B2 : But m x w w2 := by rw [hw2]; exact B1.drewN nq
  have I2 : It w2 m x xc y yc r (.slice la ln lc) (.slice none 0 0) (.pointer (some ⟨s, 0, none⟩)) := by rw [hw2]; exact I1.of_blocks rfl rfl rfl rfl
  have u0 : w2.cell? ⟨s, 0, none⟩ = some (.slice la ln lc) := by rw [hw2]; exact t0
  have u1 : w2.cell? ⟨s, 1, none⟩ = some (.slice (some ⟨cb, 0, none⟩) cn cc) := by rw [hw2]; exact t1
  clear hw2 HW2 j1 jx I1 B1 t0 t1
  go_wp2_with fail
  have v3 := I2.h3
  have vf := I2.f3
  have hch2 := HCh.out w2 (B2.old hBm hBx hB)
  have lm2 : m < w2.heap.size := Nat.lt_of_lt_of_le lm B2.size
  have HC2 : Hid (∀ j, j < cn * 3 → w2.cell? ⟨cb, j, none⟩ = some (G j)) := hch2
  have HB2 : Hid (But m x w w2) := B2
  have HI2 : Hid (It w2 m x xc y yc r (.slice la ln lc) (.slice none 0 0) (.pointer (some ⟨s, 0, none⟩))) := I2
  clear hch2 B2 I2
  go_region_law (refine step_append_chunks rfl (.tmp 76) (.tmp 80) rfl (by simp [Act.eval]) cb cn cc G (by simp [Act.eval]) (by exact HC2.out) HG.out hcn ?_; intro a3 c3 w3 q1 q2 q3; have k3 := (q3.cell (p := ⟨m, 3, none⟩) (by exact lm2)); have k4 := (q3.frozen (p := ⟨m, 3, none⟩) (by exact lm2)))
  all_goals
    have I3 := ((HI2.out.of_blocks (w' := w3) (q3.block m lm2) (q3.block x (Nat.lt_of_lt_of_le lx HB2.out.size)) (q3.block y (Nat.lt_of_lt_of_le ly HB2.out.size)) (q3.block r (Nat.lt_of_lt_of_le lr HB2.out.size))).set3 hmx hmy hmr (.slice a3 cn c3))
    have B3 : But m x w (w3.setCell ⟨m, 3, none⟩ (.slice a3 cn c3)) := (HB2.out.drew.below q3).setM _
    have C3 : Cells (w3.setCell ⟨m, 3, none⟩ (.slice a3 cn c3)) a3 (cn * 3) G := ownChunks q1 _ (fun z hz => by have := (q2 z hz).1; simp at this ⊢; omega) _
    have F3 : Hid (∀ z, a3 = some z → w.heap.size ≤ z.block) := fun z hz => Nat.le_trans HB2.out.size (q2 z hz).1
    have L3 : x < (w3.setCell ⟨m, 3, none⟩ (.slice a3 cn c3)).heap.size := Nat.lt_of_lt_of_le lx B3.size
    clear k3 k4 q1 q2 q3 v3 vf u0 u1
    generalize w3.setCell ⟨m, 3, none⟩ (.slice a3 cn c3) = w4 at *
    have HI4 : Hid (It w4 m x xc y yc r (.slice la ln lc) (.slice a3 cn c3) (.pointer (some ⟨s, 0, none⟩))) := I3
    have HB4 : Hid (But m x w w4) := B3
    have HC4 : Hid (Cells w4 a3 (cn * 3) G) := C3
    clear I3 B3 C3
    go_wp2_with fail
    refine (advance_ends m x xc y yc r _ w4 HI4.out.h1 HI4.out.hx HI4.out.fx HI4.out.h0 HI4.out.hy HI4.out.r4 hmx hxy.symm hxr.symm (next37_empty r _ (HI4.out.setX hmx hxy hxr _).r4 (HI4.out.setX hmx hxy hxr _).r1)).mono ?_
    rintro e w5 ⟨rfl, hw5⟩
    have HI5 : Hid (It w5 m x xc y yc r (.slice la ln lc) (.slice a3 cn c3) (.pointer none)) := by rw [hw5]; exact HI4.out.setX hmx hxy hxr _
    have HB5 : Hid (But m x w w5) := by rw [hw5]; exact HB4.out.setX _
    have HC5 : Hid (Cells w5 a3 (cn * 3) G) := by rw [hw5]; exact ownChunks HC4.out _ (fun z hz => by have := F3.out z hz; simp; omega) _
    clear hw5
    go_wp2_with fail
    rw [rounds_succ]
    go_wp2_with fail
    go_ret
    exact ⟨rfl, a3, c3, HC5.out, F3.out, HI5.out, HB5.out⟩

end Go.Proofs.Qxb6615969a
