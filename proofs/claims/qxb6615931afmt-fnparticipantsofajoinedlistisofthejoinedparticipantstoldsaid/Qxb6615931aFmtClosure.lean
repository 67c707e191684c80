import Derived.Test.Qxb6615931aFmtCmp
import Derived.Deep.RegionHeld3
import Derived.BigRegion
import Derived.Sort.Grow
namespace Go.Proofs.Qxb6615931aFmt
open Go.RowKit

/-- The world has grown at its end; it may have drawn. -/
def Gr (w w' : World) : Prop := ∃ q os, w' = Sort.grow (w.drewN q) os

theorem Gr.refl (w : World) : Gr w w := ⟨0, #[], by rw [Sort.grow_empty]; rfl⟩
theorem Gr.drewN {w w' : World} (h : Gr w w') (n : Nat) : Gr w (w'.drewN n) := by
  obtain ⟨q, os, rfl⟩ := h
  exact ⟨q + n, os, by rw [← World.drewN_drewN]; rfl⟩
theorem Gr.drew {w w' : World} (h : Gr w w') : Gr w w'.drew := h.drewN 1
theorem Gr.alloc {w w' : World} (h : Gr w w') (o : Obj) : Gr w (w'.alloc o) := by
  obtain ⟨q, os, rfl⟩ := h
  exact ⟨q, os ++ #[o], by rw [Sort.alloc_eq_grow, Sort.grow_grow]⟩

def cfI (A : Nat → ByteArray) (W : Nat → Int) (i j : Nat) : Int := or3 (Lib.compareBytes (A i).data.toList (A j).data.toList) (cmpI (W j) (W i)) (cmpI i j)

set_option maxHeartbeats 4000000 in
theorem closure14 (i j n cap bx b o : Nat) (A : Nat → ByteArray) (W : Nat → Int) (T : Nat → Option Nat) (w : World) (hi : i < n) (hj : j < n) (lx : bx < w.heap.size) (lb : b < w.heap.size)
    (hx : w.cell? ⟨bx, 0, none⟩ = some (.slice (some ⟨b, o, none⟩) n cap))
    (i0 : w.cell? ⟨b, o + i * 4, none⟩ = some (.string (A i))) (i1 : w.cell? ⟨b, o + i * 4 + 1, none⟩ = some (.int .i64 (W i))) (i2 : w.cell? ⟨b, o + i * 4 + 2, none⟩ = some (.map (T i))) (i3 : w.cell? ⟨b, o + i * 4 + 3, none⟩ = some .nilIface)
    (j0 : w.cell? ⟨b, o + j * 4, none⟩ = some (.string (A j))) (j1 : w.cell? ⟨b, o + j * 4 + 1, none⟩ = some (.int .i64 (W j))) (j2 : w.cell? ⟨b, o + j * 4 + 2, none⟩ = some (.map (T j))) (j3 : w.cell? ⟨b, o + j * 4 + 3, none⟩ = some .nilIface) :
    Calls Tryf.prog 14 #[.int .i64 (i : Int), .int .i64 (j : Int), .pointer (some ⟨bx, 0, none⟩)] w fun e w' => e = .returned (.int .i64 (cfI A W i j)) ∧ Gr w w' := by
  have hi' : (i : Int) < (n : Int) := by omega
  have hj' : (j : Int) < (n : Int) := by omega
  go_enter Tryf.func14, Tryf.ntmps14
  go_wp2_with fail
  go_region
  · go_wp2_with fail
    clear i0 i1 i2 i3 j0 j1 j2 j3 hx hi' hj'
    have hG : Gr w (((w.alloc (.cells #[.string (A i), .int .i64 (W i), .map (T i), .nilIface] 38)).alloc (.cells #[.string (A j), .int .i64 (W j), .map (T j), .nilIface] 38)).drew) := by repeat (first | exact Gr.refl _ | refine Gr.drew ?_ | refine Gr.alloc ?_ _)
    have q0 : (((w.alloc (.cells #[.string (A i), .int .i64 (W i), .map (T i), .nilIface] 38)).alloc (.cells #[.string (A j), .int .i64 (W j), .map (T j), .nilIface] 38)).drew).cell? ⟨w.heap.size, 0, none⟩ = some (.string (A i)) := by go_simp
    have q1 : (((w.alloc (.cells #[.string (A i), .int .i64 (W i), .map (T i), .nilIface] 38)).alloc (.cells #[.string (A j), .int .i64 (W j), .map (T j), .nilIface] 38)).drew).cell? ⟨w.heap.size, 1, none⟩ = some (.int .i64 (W i)) := by go_simp
    have q2 : (((w.alloc (.cells #[.string (A i), .int .i64 (W i), .map (T i), .nilIface] 38)).alloc (.cells #[.string (A j), .int .i64 (W j), .map (T j), .nilIface] 38)).drew).cell? ⟨(w.heap.size + 1), 0, none⟩ = some (.string (A j)) := by go_simp
    have q3 : (((w.alloc (.cells #[.string (A i), .int .i64 (W i), .map (T i), .nilIface] 38)).alloc (.cells #[.string (A j), .int .i64 (W j), .map (T j), .nilIface] 38)).drew).cell? ⟨(w.heap.size + 1), 1, none⟩ = some (.int .i64 (W j)) := by go_simp
    have ls : (((w.alloc (.cells #[.string (A i), .int .i64 (W i), .map (T i), .nilIface] 38)).alloc (.cells #[.string (A j), .int .i64 (W j), .map (T j), .nilIface] 38)).drew).heap.size = w.heap.size + 1 + 1 := by simp
    have HG := toHid hG
    have LS := toHid ls
    have l1 : w.heap.size < (((w.alloc (.cells #[.string (A i), .int .i64 (W i), .map (T i), .nilIface] 38)).alloc (.cells #[.string (A j), .int .i64 (W j), .map (T j), .nilIface] 38)).drew).heap.size := by omega
    have l2 : (w.heap.size + 1) < (((w.alloc (.cells #[.string (A i), .int .i64 (W i), .map (T i), .nilIface] 38)).alloc (.cells #[.string (A j), .int .i64 (W j), .map (T j), .nilIface] 38)).drew).heap.size := by omega
    clear hG ls
    generalize ((w.alloc (.cells #[.string (A i), .int .i64 (W i), .map (T i), .nilIface] 38)).alloc (.cells #[.string (A j), .int .i64 (W j), .map (T j), .nilIface] 38)).drew = w1 at *
    go_region_held3 (fun w' => w'.cell? ⟨w.heap.size, 0, none⟩ = some (.string (A i)) ∧ w'.cell? ⟨w.heap.size, 1, none⟩ = some (.int .i64 (W i)) ∧ w'.cell? ⟨(w.heap.size + 1), 0, none⟩ = some (.string (A j)) ∧ w'.cell? ⟨(w.heap.size + 1), 1, none⟩ = some (.int .i64 (W j))) (go_keep)
      (first
        | (go_at_call 16; refine (cmp16 _ _ _).mono ?_; rintro e w' ⟨rfl, rfl⟩)
        | (go_at_call 17; refine (cmp17 _ _ _).mono ?_; rintro e w' ⟨rfl, rfl⟩)
        | (go_at_call 15; refine (or15 w1.heap.size 3 (Lib.compareBytes (A i).data.toList (A j).data.toList) (cmpI (W j) (W i)) (cmpI (i : Int) (j : Int)) _ (by go_simp) (by go_simp) (by go_simp)).mono ?_; rintro e w' ⟨rfl, rfl⟩))
    all_goals
      go_wp2_with fail
      go_ret
      exact ⟨rfl, by repeat (first | exact HG.out | refine Gr.drew ?_ | refine Gr.drewN ?_ _ | refine Gr.alloc ?_ _)⟩
  · go_wp2_with fail
    clear i0 i1 i2 i3 j0 j1 j2 j3 hx hi' hj'
    have hG : Gr w (((w.alloc (.cells #[.string (A j), .int .i64 (W j), .map (T j), .nilIface] 38)).alloc (.cells #[.string (A i), .int .i64 (W i), .map (T i), .nilIface] 38)).drew) := by repeat (first | exact Gr.refl _ | refine Gr.drew ?_ | refine Gr.alloc ?_ _)
    have q0 : (((w.alloc (.cells #[.string (A j), .int .i64 (W j), .map (T j), .nilIface] 38)).alloc (.cells #[.string (A i), .int .i64 (W i), .map (T i), .nilIface] 38)).drew).cell? ⟨(w.heap.size + 1), 0, none⟩ = some (.string (A i)) := by go_simp
    have q1 : (((w.alloc (.cells #[.string (A j), .int .i64 (W j), .map (T j), .nilIface] 38)).alloc (.cells #[.string (A i), .int .i64 (W i), .map (T i), .nilIface] 38)).drew).cell? ⟨(w.heap.size + 1), 1, none⟩ = some (.int .i64 (W i)) := by go_simp
    have q2 : (((w.alloc (.cells #[.string (A j), .int .i64 (W j), .map (T j), .nilIface] 38)).alloc (.cells #[.string (A i), .int .i64 (W i), .map (T i), .nilIface] 38)).drew).cell? ⟨w.heap.size, 0, none⟩ = some (.string (A j)) := by go_simp
    have q3 : (((w.alloc (.cells #[.string (A j), .int .i64 (W j), .map (T j), .nilIface] 38)).alloc (.cells #[.string (A i), .int .i64 (W i), .map (T i), .nilIface] 38)).drew).cell? ⟨w.heap.size, 1, none⟩ = some (.int .i64 (W j)) := by go_simp
    have ls : (((w.alloc (.cells #[.string (A j), .int .i64 (W j), .map (T j), .nilIface] 38)).alloc (.cells #[.string (A i), .int .i64 (W i), .map (T i), .nilIface] 38)).drew).heap.size = w.heap.size + 1 + 1 := by simp
    have HG := toHid hG
    have LS := toHid ls
    have l1 : (w.heap.size + 1) < (((w.alloc (.cells #[.string (A j), .int .i64 (W j), .map (T j), .nilIface] 38)).alloc (.cells #[.string (A i), .int .i64 (W i), .map (T i), .nilIface] 38)).drew).heap.size := by omega
    have l2 : w.heap.size < (((w.alloc (.cells #[.string (A j), .int .i64 (W j), .map (T j), .nilIface] 38)).alloc (.cells #[.string (A i), .int .i64 (W i), .map (T i), .nilIface] 38)).drew).heap.size := by omega
    clear hG ls
    generalize ((w.alloc (.cells #[.string (A j), .int .i64 (W j), .map (T j), .nilIface] 38)).alloc (.cells #[.string (A i), .int .i64 (W i), .map (T i), .nilIface] 38)).drew = w1 at *
    go_region_held3 (fun w' => w'.cell? ⟨(w.heap.size + 1), 0, none⟩ = some (.string (A i)) ∧ w'.cell? ⟨(w.heap.size + 1), 1, none⟩ = some (.int .i64 (W i)) ∧ w'.cell? ⟨w.heap.size, 0, none⟩ = some (.string (A j)) ∧ w'.cell? ⟨w.heap.size, 1, none⟩ = some (.int .i64 (W j))) (go_keep)
      (first
        | (go_at_call 16; refine (cmp16 _ _ _).mono ?_; rintro e w' ⟨rfl, rfl⟩)
        | (go_at_call 17; refine (cmp17 _ _ _).mono ?_; rintro e w' ⟨rfl, rfl⟩)
        | (go_at_call 15; refine (or15 w1.heap.size 3 (Lib.compareBytes (A i).data.toList (A j).data.toList) (cmpI (W j) (W i)) (cmpI (i : Int) (j : Int)) _ (by go_simp) (by go_simp) (by go_simp)).mono ?_; rintro e w' ⟨rfl, rfl⟩))
    all_goals
      go_wp2_with fail
      go_ret
      exact ⟨rfl, by repeat (first | exact HG.out | refine Gr.drew ?_ | refine Gr.drewN ?_ _ | refine Gr.alloc ?_ _)⟩

end Go.Proofs.Qxb6615931aFmt
