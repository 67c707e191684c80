import Derived.Test.Qxb6615969aSeg2
namespace Go.Proofs.Qxb6615969a
open Go.RowKit

theorem done_same (w : World) : Done w (.returned (.bool true)) w := ⟨rfl, Below.refl _ _⟩

set_option maxRecDepth 1000000 in
set_option maxHeartbeats 8000000 in
theorem main_big (a0 a1 a2 a3 a4 : Option Addr) (n0 n1 n2 n3 n4 c0 c1 c2 c3 c4 : Nat) (S0 S1 : Nat → ByteArray) (A : Nat → Option Addr) (L C : Nat → Nat) (w : World)
    (h0 : Cells w a0 n0 (fun i => .string (S0 i))) (h1 : Cells w a1 n1 (fun i => .string (S1 i))) (h4 : Cells w a4 n4 (fun i => .slice (A i) (L i) (C i)))
    (big : ¬ (n0 ≤ 65536 ∧ n1 ≤ 65536 ∧ n2 ≤ 65536 ∧ n3 ≤ 65536 ∧ n4 ≤ 65536)) :
    Calls Try.prog 3 #[.slice a0 n0 c0, .slice a1 n1 c1, .slice a2 n2 c2, .slice a3 n3 c3, .slice a4 n4 c4] w fun e w' => Done w e w' := by
  have HB := toHid (bytes_any a0 a1 a2 a3 a4 n0 n1 n2 n3 n4 c0 c1 c2 c3 c4 S0 S1 A L C w h0 h1 h4)
  clear h0 h1 h4
  have parts : ((65536 : Int) < n0) ∨ (¬ (65536 : Int) < n0 ∧ (65536 : Int) < n1) ∨ (¬ (65536 : Int) < n0 ∧ ¬ (65536 : Int) < n1 ∧ (65536 : Int) < n2) ∨ (¬ (65536 : Int) < n0 ∧ ¬ (65536 : Int) < n1 ∧ ¬ (65536 : Int) < n2 ∧ (65536 : Int) < n3)
      ∨ (¬ (65536 : Int) < n0 ∧ ¬ (65536 : Int) < n1 ∧ ¬ (65536 : Int) < n2 ∧ ¬ (65536 : Int) < n3 ∧ (65536 : Int) < n4) := by omega
  clear big
  rcases parts with p0 | ⟨p0, p1⟩ | ⟨p0, p1, p2⟩ | ⟨p0, p1, p2, p3⟩ | ⟨p0, p1, p2, p3, p4⟩
  all_goals
    go_enter Try.func3, Try.ntmps3
    go_wp2_with fail
    refine HB.out.mono ?_
    rintro e w1 ⟨hw, b, rfl, _⟩
    have hw' := hw.symm
    subst hw'
    cases b <;> (go_wp2_with fail; go_ret; exact done_same _)

set_option maxRecDepth 1000000 in
set_option maxHeartbeats 8000000 in
theorem main_small (a0 a1 a2 a3 a4 : Option Addr) (n0 n1 n2 n3 n4 c0 c1 c2 c3 c4 : Nat) (S0 S1 : Nat → ByteArray) (Z2 Z3 : Nat → Int) (A : Nat → Option Addr) (L C : Nat → Nat) (Z : Nat → Nat → Int) (w : World)
    (b0 : n0 ≤ 65536) (b1 : n1 ≤ 65536) (b2 : n2 ≤ 65536) (b3 : n3 ≤ 65536) (b4 : n4 ≤ 65536)
    (e0 : a0 = none → n0 = 0) (e1 : a1 = none → n1 = 0) (e2 : a2 = none → n2 = 0) (e3 : a3 = none → n3 = 0) (e4 : a4 = none → n4 = 0)
    (h0 : Cells w a0 n0 (fun i => .string (S0 i))) (h1 : Cells w a1 n1 (fun i => .string (S1 i))) (h2 : Cells w a2 n2 (fun i => .int .i64 (Z2 i))) (h3 : Cells w a3 n3 (fun i => .int .i64 (Z3 i)))
    (h4 : Cells w a4 n4 (fun i => .slice (A i) (L i) (C i))) (hI : ∀ i, i < n4 → (A i = none → L i = 0) ∧ Cells w (A i) (L i) (fun j => .int .u8 (Z i j))) :
    Calls Try.prog 3 #[.slice a0 n0 c0, .slice a1 n1 c1, .slice a2 n2 c2, .slice a3 n3 c3, .slice a4 n4 c4] w fun e w' => Done w e w' := by
  have HB := toHid (bytes_any a0 a1 a2 a3 a4 n0 n1 n2 n3 n4 c0 c1 c2 c3 c4 S0 S1 A L C w h0 h1 h4)
  have H0 := toHid h0
  have H1 := toHid h1
  have H2 := toHid h2
  have H3 := toHid h3
  have H4 := toHid h4
  have HI := toHid hI
  have E : Hid ((a0 = none → n0 = 0) ∧ (a1 = none → n1 = 0) ∧ (a2 = none → n2 = 0) ∧ (a3 = none → n3 = 0) ∧ (a4 = none → n4 = 0)) := ⟨e0, e1, e2, e3, e4⟩
  clear e0 e1 e2 e3 e4 h0 h1 h2 h3 h4 hI
  go_enter Try.func3, Try.ntmps3
  go_wp2_with fail
  refine HB.out.mono ?_
  rintro e w1 ⟨hw, b, rfl, hL⟩
  have hw' := hw.symm
  subst hw'
  cases b
  · go_wp2_with fail
    go_ret
    exact done_same _
  · have HL := toHid (hL rfl)
    clear hL HB hw
    go_wp2_with fail
    all_goals first | (go_ret; exact done_same _) | skip
    go_loopg [11, 12] n0 (fun g z i wr => w = wr ∧ ∃ k : Nat, k ≤ n0 ∧ g = n0 - k ∧ i = .int .i64 k ∧ ∃ q : Int, z = .int .i64 q)
    case atStart => exact ⟨rfl, 0, Nat.zero_le _, rfl, rfl, _, rfl⟩
    case round =>
      obtain ⟨rfl, k, hk, rfl, rfl, q, rfl⟩ := hrel
      by_cases hlt : k < n0
      · obtain ⟨b', o, ea, hbl, hc⟩ := H0.out (by omega)
        subst ea
        have g1 := hc k hlt
        clear hc
        go_wp2_with fail
        all_goals first | (go_ret; exact done_same _) | skip
        go_roundg (n0 - (k + 1))
        case rel => exact ⟨rfl, k + 1, by omega, rfl, by go_num, _, rfl⟩
        case measure => omega
      · have hkn : k = n0 := by omega
        subst hkn
        clear hlt
        go_wp2_with fail
        go_loopg [11, 13] n1 (fun g z i wr => w = wr ∧ ∃ k : Nat, k ≤ n1 ∧ g = n1 - k ∧ i = .int .i64 k ∧ ∃ q : Int, z = .int .i64 q)
        case atStart => exact ⟨rfl, 0, Nat.zero_le _, rfl, rfl, _, rfl⟩
        case round =>
          obtain ⟨rfl, k, hk, rfl, rfl, q, rfl⟩ := hrel
          by_cases hlt : k < n1
          · obtain ⟨b', o, ea, hbl, hc⟩ := H1.out (by omega)
            subst ea
            have g1 := hc k hlt
            clear hc
            go_wp2_with fail
            all_goals first | (go_ret; exact done_same _) | skip
            go_roundg (n1 - (k + 1))
            case rel => exact ⟨rfl, k + 1, by omega, rfl, by go_num, _, rfl⟩
            case measure => omega
          · have hkn : k = n1 := by omega
            subst hkn
            clear hlt
            go_wp2_with fail
            rename_i Kc hKc
            have HKc := toHid hKc
            clear hKc
            go_loopg [11, 14] n4 (fun g z i wr => w = wr ∧ ∃ k : Nat, k ≤ n4 ∧ g = n4 - k ∧ i = .int .i64 k ∧ ∃ q : Int, z = .int .i64 q)
            case atStart => exact ⟨rfl, 0, Nat.zero_le _, rfl, rfl, _, rfl⟩
            case round =>
              obtain ⟨rfl, k, hk, rfl, rfl, q, rfl⟩ := hrel
              by_cases hlt : k < n4
              · obtain ⟨b', o, ea, hbl, hc⟩ := H4.out (by omega)
                subst ea
                have g1 := hc k hlt
                clear hc
                go_wp2_with fail
                all_goals first | (go_ret; exact done_same _) | skip
                go_roundg (n4 - (k + 1))
                case rel => exact ⟨rfl, k + 1, by omega, rfl, by go_num, _, rfl⟩
                case measure => omega
              · have hkn : k = n4 := by omega
                subst hkn
                clear hlt
                go_wp2_with fail
                refine HKc.out _ _ ?_
                exact seg2 a0 a1 a2 a3 a4 _ _ n2 n3 k c0 c1 c2 c3 c4 S0 S1 Z2 Z3 A L C Z w b0 b1 b2 b3 b4 E.out.1 E.out.2.1 E.out.2.2.1 E.out.2.2.2.1 E.out.2.2.2.2 H0.out H1.out H2.out H3.out H4.out (fun i hi => ⟨(HI.out i hi).1, HL.out i hi, (HI.out i hi).2⟩)

end Go.Proofs.Qxb6615969a
