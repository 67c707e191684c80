import Derived.Test.Qxb6615931aFmtCells
import Derived.Test.Qxb6615931aFmtProg
import Derived.Laws.BytesString
namespace Go.Proofs.Qxb6615931aFmt
open Go.RowKit

/-- The digit at place j of 24. -/
def dg (n j : Nat) : Nat := 48 + n / 10 ^ (23 - j) % 10
def dgRow (n k j : Nat) : Value := .int .u8 (if 24 - k ≤ j then (dg n j : Int) else 0)
/-- n has k digits. -/
def IsDig (n k : Nat) : Prop := n / 10 ^ k = 0 ∧ ∀ j, j < k → n / 10 ^ j ≠ 0
theorem isDig_one {n k k' : Nat} (h : IsDig n k) (h' : IsDig n k') : k = k' := by
  rcases Nat.lt_trichotomy k k' with l | l | l
  · exact absurd h.1 (h'.2 _ l)
  · exact l
  · exact absurd h'.1 (h.2 _ l)
noncomputable def nd (n : Nat) : Nat := open Classical in if h : ∃ k, IsDig n k then Classical.choose h else 0
theorem nd_eq {n k : Nat} (h : IsDig n k) : nd n = k := by
  unfold nd
  rw [dif_pos ⟨k, h⟩]
  exact isDig_one (Classical.choose_spec ⟨k, h⟩) h

def dgs (n k : Nat) : List Int := (List.range k).map fun q => ((dg n (24 - k + q) : Nat) : Int)
def strOf (ns : List Int) : ByteArray := ns.foldl (fun r n => r.push (UInt8.ofNat n.toNat)) ByteArray.empty
/-- What zzItoa answers. -/
noncomputable def itoa (n : Nat) : ByteArray := if n = 0 then ⟨#[48]⟩ else strOf (dgs n (nd n))

theorem pow_bound {n k : Nat} (hn : n ≤ 1048576) (h : n / 10 ^ k ≠ 0) : k < 7 := by
  by_cases hk : k < 7
  · exact hk
  · exfalso
    apply h
    have : 10 ^ 7 ≤ 10 ^ k := Nat.pow_le_pow_right (by omega) (by omega)
    exact Nat.div_eq_of_lt (by omega)

theorem slice46 (b k : Nat) (hk0 : 0 < k) (hk : k ≤ 24) (w : World) : (Instr.sliceAt 46 (.pointer (some ⟨b, 0, none⟩)) (some (.int .i64 ((24 - k : Nat) : Int))) none none).run Tryf.prog w = .ok (.slice (some ⟨b, 24 - k, none⟩) k k) w := by
  have hal : Tryf.prog.arrayLen 46 = 24 := by kernel_rfl
  have hel : Tryf.prog.elem 46 = 5 := by kernel_rfl
  have hsz : (sizeOf 5).run Tryf.prog w = .ok 1 w := by kernel_rfl
  rw [run_sliceAt_array_l (P := Tryf.prog) w 46 ⟨b, 0, none⟩ (by rw [hal, hel]; exact Tryf.underlying46) .i64 ((24 - k : Nat) : Int) (by omega) (by rw [hal]; omega), hal, hel, hsz]
  simp only [Result.andThen, slicedAt, Int.toNat_natCast]
  rw [if_neg (by omega), show 24 - (24 - k) = k from by omega]
  simp [Addr.add]
  omega

theorem conv47 (b n k : Nat) (w : World) (hk : k ≤ 24) (h : w.rowIs b 46 24 (dgRow n k)) : (convert 47 9 (.slice (some ⟨b, 24 - k, none⟩) k k)).run Tryf.prog w = .ok (.string (strOf (dgs n k))) w := by
  rw [run_convert_bytes_string w 47 9 5 _ _ _ Tryf.underlying47 Tryf.underlying5 Tryf.underlying9]
  refine run_bytesToString w _ _ _ (dgs n k) ?_
  rw [run_loadCells w _ k (fun q => .int .u8 ((dg n (24 - k + q) : Nat) : Int)) (fun j hj => ?_)]
  · simp [dgs]
  · have := h.cell (i := 24 - k + j) (by omega)
    rw [show (⟨b, 24 - k, none⟩ : Addr).add j = ⟨b, 24 - k + j, none⟩ from by simp [Addr.add], this]
    unfold dgRow
    rw [if_pos (by omega)]

set_option maxRecDepth 1000000 in
set_option maxHeartbeats 8000000 in
theorem itoa11z (w : World) : Calls Tryf.prog 11 #[.int .i64 ((0 : Nat) : Int)] w fun e w' => e = .returned (.string (itoa 0)) ∧ Below w.heap.size w w' := by
  go_enter Tryf.func11, Tryf.ntmps11
  go_wp2_with fail
  go_ret
  exact ⟨by unfold itoa; rw [if_pos rfl]; rfl, Below.refl _ _⟩

set_option maxRecDepth 1000000 in
set_option maxHeartbeats 8000000 in
theorem itoa11p (n : Nat) (w : World) (hn : n ≤ 1048576) (h0 : 0 < n) :
    Calls Tryf.prog 11 #[.int .i64 (n : Int)] w fun e w' => e = .returned (.string (itoa n)) ∧ Below w.heap.size w w' := by
  have h0' : ¬ (n : Int) ≤ 0 := by omega
  have h0'' : ¬ n = 0 := by omega
  go_enter Tryf.func11, Tryf.ntmps11
  go_wp2_with fail
  rename_i Kc hKc
  have HKc := toHid hKc
  clear hKc
  go_loopg [0, 4] n (fun g i p wr => ∃ k : Nat, k ≤ 7 ∧ g = n / 10 ^ k ∧ i = .int .i64 ((n / 10 ^ k : Nat) : Int) ∧ p = .int .i64 ((24 - k : Nat) : Int) ∧ (∀ j, j < k → n / 10 ^ j ≠ 0) ∧ Below w.heap.size w wr ∧ wr.rowIs w.heap.size 46 24 (dgRow n k))
  case atStart =>
    refine ⟨0, by omega, by simp, by simp, rfl, fun j hj => absurd hj (Nat.not_lt_zero _), (Below.refl _ _).alloc (Nat.le_refl _) _, ?_⟩
    refine World.rowIs_alloc w _ 46 (dgRow n 0) fun i hi => ?_
    simp at hi
    have e : dgRow n 0 i = .int .u8 0 := by
      unfold dgRow
      rw [if_neg (by omega)]
    rw [e]
    match i, hi with
    | 0, _ | 1, _ | 2, _ | 3, _ | 4, _ | 5, _ | 6, _ | 7, _ | 8, _ | 9, _ | 10, _ | 11, _ | 12, _ | 13, _ | 14, _ | 15, _ | 16, _ | 17, _ | 18, _ | 19, _ | 20, _ | 21, _ | 22, _ | 23, _ => rfl
    | i + 24, h => exact absurd h (by omega)
  case round =>
    obtain ⟨k, hk, rfl, rfl, rfl, hpre, hbr, hrow⟩ := hrel
    have HBr := toHid hbr
    have HR := toHid hrow
    have HP := toHid hpre
    clear hbr hrow hpre
    by_cases hz : n / 10 ^ k = 0
    · go_wp2_with fail
      refine HKc.out _ _ ?_
      have lsb := HR.out.lt
      have hdig : IsDig n k := ⟨hz, HP.out⟩
      have hk0 : 0 < k := by
        rcases Nat.eq_zero_or_pos k with e | e
        · subst e; simp at hz; omega
        · exact e
      have hsl := slice46 w.heap.size k hk0 (by omega) wr
      have hcv := conv47 w.heap.size n k wr (by omega) HR.out
      have HD := toHid hdig
      clear hz HKc hdig
      go_wp2_with fail
      go_ret
      refine ⟨?_, HBr.out⟩
      unfold itoa
      rw [if_neg h0'', nd_eq HD.out]
      rfl
    · have hk7 := pow_bound hn hz
      have hx0 : 0 < n / 10 ^ k := Nat.pos_of_ne_zero hz
      have hxe := toHid (Nat.div_div_eq_div_mul n (10 ^ k) 10)
      have hle : n / 10 ^ k ≤ n := Nat.div_le_self _ _
      generalize hx : n / 10 ^ k = x at *
      have HX := toHid hx
      clear hx
      have hx0' : 0 < (x : Int) := by omega
      have lsb := HR.out.lt
      have csb := HR.out.cell (i := 24 - k - 1) (by omega)
      have fsb := HR.out.frozen (24 - k - 1)
      go_wp2_with fail
      go_roundg (x / 10)
      case measure => omega
      case rel =>
        have hx1 : n / 10 ^ (k + 1) = x / 10 := by
          rw [Nat.pow_succ, ← Nat.div_div_eq_div_mul, HX.out]
        refine ⟨k + 1, by omega, hx1.symm, by rw [hx1]; go_num, ?_, ?_, HBr.out.setCell (p := ⟨w.heap.size, 24 - k - 1, none⟩) (Nat.le_refl _) _, ?_⟩
        · have : (24 - (k + 1) : Nat) = 24 - k - 1 := by omega
          rw [this]
          congr 1
          omega
        · intro j hj
          by_cases e : j = k
          · subst e; rw [HX.out]; omega
          · exact HP.out j (by omega)
        · refine (HR.out.set (24 - k - 1) _).congr fun q hq => ?_
          unfold dgRow
          by_cases e : q = 24 - k - 1
          · subst e
            rw [if_pos rfl, if_pos (by omega)]
            have : dg n (24 - k - 1) = 48 + x % 10 := by
              unfold dg
              rw [show 23 - (24 - k - 1) = k from by omega, HX.out]
            rw [this]
            congr 1
          · rw [if_neg e]
            by_cases l : 24 - k ≤ q
            · rw [if_pos l, if_pos (by omega)]
            · rw [if_neg l, if_neg (by omega)]

theorem itoa11 (n : Nat) (w : World) (hn : n ≤ 1048576) : Calls Tryf.prog 11 #[.int .i64 (n : Int)] w fun e w' => e = .returned (.string (itoa n)) ∧ Below w.heap.size w w' := by
  rcases Nat.eq_zero_or_pos n with e | e
  · subst e; exact itoa11z w
  · exact itoa11p n w hn e

end Go.Proofs.Qxb6615931aFmt
