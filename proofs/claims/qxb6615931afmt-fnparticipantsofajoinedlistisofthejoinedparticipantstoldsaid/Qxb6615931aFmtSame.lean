import Derived.Test.Qxb6615931aFmtFirst
namespace Go.Proofs.Qxb6615931aFmt
open Go.RowKit

theorem lookup35 (w : World) (m : Nat) (s : ByteArray) (h : TagAt w m s) : (Instr.lookup 35 (.map (some m)) (.string ⟨#[105]⟩) false).run Tryf.prog w = .ok (.string s) w := by
  have hf : Instr.findNow .string (.string ⟨#[105]⟩) ([{ key := .string ⟨#[105]⟩, val := .string s, born := 0 }] : List MapEntry) 0 = some (some (0, .string s)) := rfl
  have hc : ∀ e, (Instr.checkKey e 10000 9 (.string ⟨#[105]⟩)).run Tryf.prog w = .ok () w := fun e => MapKept.run_checkKey (k := .string ⟨#[105]⟩) Tryf.underlying9 (by simp [MapKept.IsKey]) e 9999
  have hg := MapKept.run_getObj_map (P := Tryf.prog) h
  simp [Instr.lookup, run_underlying Tryf.underlying35, hg, hc, MapKept.run_findKey Tryf.underlying9 hf, Result.andThen]

theorem TagAt.drewN {w : World} {b : Nat} {s : ByteArray} (h : TagAt w b s) (n : Nat) : TagAt (w.drewN n) b s := h

set_option maxRecDepth 1000000 in
set_option maxHeartbeats 8000000 in
theorem same8 (N c c' : Nat) (a a' : Option Addr) (A : Nat → ByteArray) (W : Nat → Int) (Tg Tg' : Nat → Option Nat) (S : Nat → ByteArray) (w : World) (hn : N ≤ 1048576) (hB : Bks w a N A W Tg) (hB' : Bks w a' N A W Tg') (hT : Tags w N Tg S) (hT' : Tags w N Tg' S) :
    Calls Tryf.prog 8 #[.slice a N c, .slice a' N c'] w fun e w' => e = .returned (.bool true) ∧ Below w.heap.size w w' := by
  have HB := toHid hB
  have HB' := toHid hB'
  have HT := toHid hT
  have HT' := toHid hT'
  clear hB hB' hT hT'
  go_enter Tryf.func8, Tryf.ntmps8
  go_wp2_with fail
  go_loopg [5] N (fun g j wr => ∃ k : Nat, k ≤ N ∧ g = N - k ∧ j = .int .i64 k ∧ Below w.heap.size w wr)
  case atStart => exact ⟨0, Nat.zero_le _, rfl, rfl, Below.refl _ _⟩
  case round =>
    obtain ⟨k, hk, rfl, rfl, hbr⟩ := hrel
    have HBr := toHid hbr
    by_cases hlt : k < N
    · have hlt' : (k : Int) < (N : Int) := by omega
      obtain ⟨b, o, ea, lb, cb⟩ := HB.out.at (n := N) (by omega)
      obtain ⟨b', o', ea', lb', cb'⟩ := HB'.out.at (n := N) (by omega)
      subst ea ea'
      obtain ⟨z0, z1, z2, z3⟩ := cb k hlt
      obtain ⟨z0', z1', z2', z3'⟩ := cb' k hlt
      obtain ⟨m, em, lm, tm⟩ := HT.out k hlt
      obtain ⟨m', em', lm', tm'⟩ := HT'.out k hlt
      rw [em] at z2
      rw [em'] at z2'
      have y0 := (hbr.cell (p := ⟨b, o + k * 4, none⟩) lb).trans z0
      have y1 := (hbr.cell (p := ⟨b, o + k * 4 + 1, none⟩) lb).trans z1
      have y2 := (hbr.cell (p := ⟨b, o + k * 4 + 2, none⟩) lb).trans z2
      have v0 := (hbr.cell (p := ⟨b', o' + k * 4, none⟩) lb').trans z0'
      have v1 := (hbr.cell (p := ⟨b', o' + k * 4 + 1, none⟩) lb').trans z1'
      have v2 := (hbr.cell (p := ⟨b', o' + k * 4 + 2, none⟩) lb').trans z2'
      have t : TagAt wr m (S k) := (hbr.block _ lm).trans tm
      have t' : TagAt wr m' (S k) := (hbr.block _ lm').trans tm'
      have lk : ∀ q, (Instr.lookup 35 (.map (some m)) (.string ⟨#[105]⟩) false).run Tryf.prog (wr.drewN q) = .ok (.string (S k)) (wr.drewN q) := fun q => lookup35 _ m (S k) (t.drewN q)
      have lk' : ∀ q, (Instr.lookup 35 (.map (some m')) (.string ⟨#[105]⟩) false).run Tryf.prog (wr.drewN q) = .ok (.string (S k)) (wr.drewN q) := fun q => lookup35 _ m' (S k) (t'.drewN q)
      have l1 : b < wr.heap.size := Nat.lt_of_lt_of_le lb hbr.size
      have l2 : b' < wr.heap.size := Nat.lt_of_lt_of_le lb' hbr.size
      clear z0 z1 z2 z3 cb z0' z1' z2' z3' cb' t t' tm tm' hbr lm lm' em em'
      go_wp2_with fail
      go_quiet (fail)
      go_wp2_with fail
      go_roundg (N - (k + 1))
      case measure => omega
      case rel => exact ⟨k + 1, by omega, rfl, by go_num, below_drewN' HBr.out _⟩
    · have hkn : k = N := by omega
      subst hkn
      clear hbr
      go_wp2_with fail
      go_ret
      exact ⟨rfl, HBr.out⟩

end Go.Proofs.Qxb6615931aFmt
