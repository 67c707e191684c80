import Derived.Test.Qxb6615969aProg
import Derived.Test.Qxb6615969aCells
import Derived.Test.Qxb6615969aCompare
import Derived.Deep.QuietTactic
import Derived.BigQuiet
namespace Go.Proofs.Qxb6615969a
open Go.RowKit

theorem build53 (w : World) : (Instr.build 53 #[]).run Try.prog w = .ok (.agg #[.slice none 0 0, .slice none 0 0, .slice none 0 0, .slice none 0 0, .nilIface]) w := run_build w 53 _ _ (by kernel_rfl)

set_option maxHeartbeats 1000000 in
theorem new9 (w : World) : Calls Try.prog 9 #[] w fun e w' => e = .returned (.pointer (some ⟨w.heap.size, 0, none⟩)) ∧ w' = w.alloc (.cells #[.slice none 0 0, .slice none 0 0, .slice none 0 0, .slice none 0 0, .nilIface] 53) := by
  have hb := build53
  go_enter Try.func9, Try.ntmps9
  go_wp2
  go_ret
  exact ⟨rfl, rfl⟩

set_option maxHeartbeats 1000000 in
theorem next12 (m x o n c : Nat) (v : Value) (w : World) (hm : w.cell? ⟨m, 1, none⟩ = some (.slice (some ⟨x, o, none⟩) n c)) (hn : 0 < n) (hx : w.cell? ⟨x, o, none⟩ = some v) :
    Calls Try.prog 12 #[.pointer (some ⟨m, 0, none⟩), .int .i64 0] w fun e w' => e = .returned v ∧ w' = w := by
  have hn' : (0 : Int) < (n : Int) := by omega
  go_enter Try.func12, Try.ntmps12
  go_wp2
  go_ret
  exact ⟨rfl, rfl⟩

set_option maxHeartbeats 1000000 in
theorem err13 (m : Nat) (v : Value) (w : World) (hm : w.cell? ⟨m, 4, none⟩ = some v) :
    Calls Try.prog 13 #[.pointer (some ⟨m, 0, none⟩)] w fun e w' => e = .returned v ∧ w' = w := by
  go_enter Try.func13, Try.ntmps13
  go_wp2
  go_ret
  exact ⟨rfl, rfl⟩

set_option maxHeartbeats 1000000 in
theorem err36 (m : Nat) (v : Value) (w : World) (hm : w.cell? ⟨m, 4, none⟩ = some v) :
    Calls Try.prog 36 #[.pointer (some ⟨m, 0, none⟩)] w fun e w' => e = .returned v ∧ w' = w := by
  go_enter Try.func36, Try.ntmps36
  go_wp2
  go_ret
  exact ⟨rfl, rfl⟩

set_option maxHeartbeats 1000000 in
theorem at34 (m : Nat) (a1 a2 : Option Addr) (n1 c1 n2 c2 : Nat) (w : World) (hlt : m < w.heap.size) (hm : w.cell? ⟨m, 2, none⟩ = some (.slice a1 n1 c1)) (hm1 : w.cell? ⟨m, 3, none⟩ = some (.slice a2 n2 c2)) :
    Calls Try.prog 34 #[.pointer (some ⟨m, 0, none⟩)] w fun e w' => e = .returned (.agg #[.slice a1 n1 c1, .slice a2 n2 c2]) ∧ w' = w.alloc (.cells #[.slice a1 n1 c1, .slice a2 n2 c2] 42) := by
  go_enter Try.func34, Try.ntmps34
  go_wp2
  exact bodyPost_ret (v := .agg #[.slice a1 n1 c1, .slice a2 n2 c2]) (by simp [results, Try.results34, go_sem]) rfl ⟨rfl, rfl⟩

set_option maxHeartbeats 1000000 in
theorem next37_empty (m : Nat) (w : World) (h0 : w.cell? ⟨m, 4, none⟩ = some .nilIface) (h1 : w.cell? ⟨m, 1, none⟩ = some (.slice none 0 0)) :
    Calls Try.prog 37 #[.pointer (some ⟨m, 0, none⟩)] w fun e w' => e = .returned (.bool false) ∧ w' = w := by
  go_enter Try.func37, Try.ntmps37
  go_wp2
  refine wp_loop_rounds 1 ?_
  rw [rounds_succ]
  go_wp2
  go_ret
  exact ⟨rfl, rfl⟩

set_option maxHeartbeats 1000000 in
theorem next37_done (m x c : Nat) (w : World) (h0 : w.cell? ⟨m, 4, none⟩ = some .nilIface) (h1 : w.cell? ⟨m, 1, none⟩ = some (.slice (some ⟨x, 0, none⟩) 1 c)) (h2 : w.cell? ⟨x, 0, none⟩ = some (.pointer none)) :
    Calls Try.prog 37 #[.pointer (some ⟨m, 0, none⟩)] w fun e w' => e = .returned (.bool false) ∧ w' = w := by
  go_enter Try.func37, Try.ntmps37
  go_wp2
  refine wp_loop_rounds 2 ?_
  rw [rounds_succ]
  go_wp2
  rw [rounds_succ]
  go_wp2
  go_ret
  exact ⟨rfl, rfl⟩

theorem method_next (a : Addr) (w : World) : (method 179 38 (.pointer (some a)) "Next").run Try.prog w = .ok (37, .pointer (some a)) w := by kernel_rfl
theorem method_at (a : Addr) (w : World) : (method 179 38 (.pointer (some a)) "At").run Try.prog w = .ok (34, .pointer (some a)) w := by kernel_rfl
theorem method_err (a : Addr) (w : World) : (method 179 38 (.pointer (some a)) "Err").run Try.prog w = .ok (36, .pointer (some a)) w := by kernel_rfl

theorem cell_other (w : World) {p q : Addr} (h : p.block ≠ q.block) (v : Value) : (w.setCell p v).cell? q = w.cell? q :=
  World.cell?_of_block (w := w) (Below.heap_setCell w p v q.block (fun e => h e.symm))

set_option maxHeartbeats 1000000 in
/-- 'advance' where the set is done: the slot is emptied, nothing else turns. -/
theorem advance_ends (m x xc y yc r : Nat) (v : Value) (w : World) (h1 : w.cell? ⟨m, 1, none⟩ = some (.slice (some ⟨x, 0, none⟩) 1 xc)) (hx : w.cell? ⟨x, 0, none⟩ = some v) (hf : w.frozen? ⟨x, 0, none⟩ = false)
    (h0 : w.cell? ⟨m, 0, none⟩ = some (.slice (some ⟨y, 0, none⟩) 1 yc)) (hy : w.cell? ⟨y, 0, none⟩ = some (.iface 38 (.pointer (some ⟨r, 0, none⟩)))) (hr : w.cell? ⟨r, 4, none⟩ = some .nilIface)
    (hmx : m ≠ x) (hyx : y ≠ x) (hrx : r ≠ x)
    (hn : Calls Try.prog 37 #[.pointer (some ⟨r, 0, none⟩)] (w.setCell ⟨x, 0, none⟩ (.pointer none)) fun e w' => e = .returned (.bool false) ∧ w' = w.setCell ⟨x, 0, none⟩ (.pointer none)) :
    Calls Try.prog 15 #[.pointer (some ⟨m, 0, none⟩), .int .i64 0] w fun e w' => e = .returned (.tuple #[]) ∧ w' = w.setCell ⟨x, 0, none⟩ (.pointer none) := by
  have k0 : (w.setCell ⟨x, 0, none⟩ (.pointer none)).cell? ⟨m, 0, none⟩ = some (.slice (some ⟨y, 0, none⟩) 1 yc) := (cell_other _ hmx.symm _).trans h0
  have ky : (w.setCell ⟨x, 0, none⟩ (.pointer none)).cell? ⟨y, 0, none⟩ = some (.iface 38 (.pointer (some ⟨r, 0, none⟩))) := (cell_other _ hyx.symm _).trans hy
  have kr : (w.setCell ⟨x, 0, none⟩ (.pointer none)).cell? ⟨r, 4, none⟩ = some .nilIface := (cell_other _ hrx.symm _).trans hr
  have mn := method_next
  have me := method_err
  have HN : Hid (Calls Try.prog 37 #[.pointer (some ⟨r, 0, none⟩)] (w.setCell ⟨x, 0, none⟩ (.pointer none)) fun e w' => e = .returned (.bool false) ∧ w' = w.setCell ⟨x, 0, none⟩ (.pointer none)) := hn
  clear hn
  go_enter Try.func15, Try.ntmps15
  go_wp2_with fail
  refine HN.out.mono ?_
  rintro e w' ⟨rfl, rfl⟩
  go_wp2_with fail
  refine (err36 r .nilIface _ kr).mono ?_
  rintro e w' ⟨rfl, rfl⟩
  go_wp2_with fail
  go_end0
  exact ⟨rfl, rfl⟩

end Go.Proofs.Qxb6615969a
