/-
  WALKS: the size guards.
-/
import Derived.Test.Qxb6602743aShMaint
namespace Go.Proofs.Qxb6602743a
open Go.RowKit

theorem sizestr_any (s : ByteArray) (l : Int) (w : World) (h0 : -1 ≤ l) (h1 : l ≤ 1048576) :
    Calls Try.prog 30 #[.string s, .int .i64 l] w fun e w' => ∃ r : Int, e = .returned (.int .i64 r) ∧ -1 ≤ r ∧ r ≤ 1048576 ∧ w' = w := by
  by_cases hl : l < 0
  · have d1 : decide (l < 0) = true := decide_eq_true hl
    go_enter Try.func30, Try.ntmps30
    go_wp2
    go_ret
    exact ⟨_, rfl, by omega, by omega, rfl⟩
  · have d1 : decide (l < 0) = false := decide_eq_false hl
    by_cases hs : (s.size : Int) ≤ l
    · have d2 : decide (l < (s.size : Int)) = false := decide_eq_false (by omega)
      go_enter Try.func30, Try.ntmps30
      go_wp2
      go_ret
      exact ⟨_, rfl, by omega, by omega, rfl⟩
    · have d2 : decide (l < (s.size : Int)) = true := decide_eq_true (by omega)
      go_enter Try.func30, Try.ntmps30
      go_wp2
      go_ret
      exact ⟨_, rfl, by omega, by omega, rfl⟩

set_option maxHeartbeats 400000 in
theorem sizestrs_any (a : Option Addr) (n c : Nat) (ss : List ByteArray) (l : Int) (w : World) (h0 : -1 ≤ l) (h1 : l ≤ 1048576) (hn : ss.length = n) (hx : Ss w a ss) (hmax : n ≤ 140737488355328) :
    Calls Try.prog 31 #[.slice a n c, .int .i64 l] w fun e w' => ∃ r : Int, e = .returned (.int .i64 r) ∧ -1 ≤ r ∧ r ≤ 1048576 ∧ w' = w := by
  have HX := shid hx
  have HN : Hid (ss.length = n) := hn
  clear hx hn
  by_cases hl : l < 0
  · have d1 : decide (l < 0) = true := decide_eq_true hl
    go_enter Try.func31, Try.ntmps31
    go_wp2
    go_ret
    exact ⟨_, rfl, by omega, by omega, rfl⟩
  · have d1 : decide (l < 0) = false := decide_eq_false hl
    have hq : l.tdiv 16 = l / 16 := Int.tdiv_eq_ediv_of_nonneg (by omega)
    by_cases hs : (n : Int) * 16 ≤ l
    · have d2 : decide (l / 16 < (n : Int)) = false := decide_eq_false (by omega)
      go_enter Try.func31, Try.ntmps31
      go_wp2
      go_loop [1, 5] (fun x y => ∃ (k : Nat) (r : Int), k ≤ n ∧ y = .int .i64 k ∧ x = .int .i64 r ∧ -1 ≤ r ∧ r ≤ 1048576) (fun _ y => n - (intOf y).toNat)
      case atStart => exact ⟨0, _, Nat.zero_le _, rfl, rfl, by omega, by omega⟩
      case round =>
        obtain ⟨k, r, hk, rfl, rfl, hr0, hr1⟩ := hrel
        by_cases hlt : k < n
        · obtain ⟨b, off, rfl, _, hc⟩ := HX.out.at (by have := HN.out; omega)
          have g1 := hc k (by have := HN.out; omega)
          clear hc
          go_wp2_with fail
          refine (sizestr_any _ r w hr0 hr1).mono ?_
          rintro e w' ⟨r1, rfl, hr2, hr3, rfl⟩
          by_cases hr : r1 < 0
          · go_wp2
            go_ret
            exact ⟨_, rfl, by omega, by omega, rfl⟩
          · go_wp2
            go_round
            case rel => exact ⟨k + 1, r1, by omega, by go_num, rfl, by omega, by omega⟩
            case measure => simp [intOf]; omega
        · go_wp2
          go_ret
          exact ⟨_, rfl, by omega, by omega, rfl⟩
    · have d2 : decide (l / 16 < (n : Int)) = true := decide_eq_true (by omega)
      go_enter Try.func31, Try.ntmps31
      go_wp2
      go_ret
      exact ⟨_, rfl, by omega, by omega, rfl⟩
set_option maxHeartbeats 400000 in
theorem sizemts_any (a : Option Addr) (n c : Nat) (ss : List ByteArray) (l : Int) (w : World) (h0 : -1 ≤ l) (h1 : l ≤ 1048576) (hn : ss.length = n * 3) (hx : Ss w a ss) (hmax : n ≤ 140737488355328) :
    Calls Try.prog 32 #[.slice a n c, .int .i64 l] w fun e w' => ∃ r : Int, e = .returned (.int .i64 r) ∧ -1 ≤ r ∧ r ≤ 1048576 ∧ w' = w := by
  have HX := shid hx
  have HN : Hid (ss.length = n * 3) := hn
  clear hx hn
  by_cases hl : l < 0
  · have d1 : decide (l < 0) = true := decide_eq_true hl
    go_enter Try.func32, Try.ntmps32
    go_wp2
    go_ret
    exact ⟨_, rfl, by omega, by omega, rfl⟩
  · have d1 : decide (l < 0) = false := decide_eq_false hl
    have hq : l.tdiv 48 = l / 48 := Int.tdiv_eq_ediv_of_nonneg (by omega)
    by_cases hs : (n : Int) * 48 ≤ l
    · have d2 : decide (l / 48 < (n : Int)) = false := decide_eq_false (by omega)
      go_enter Try.func32, Try.ntmps32
      go_wp2
      go_loop [1, 5] (fun x y => ∃ (k : Nat) (r : Int), k ≤ n ∧ y = .int .i64 k ∧ x = .int .i64 r ∧ -1 ≤ r ∧ r ≤ 1048576) (fun _ y => n - (intOf y).toNat)
      case atStart => exact ⟨0, _, Nat.zero_le _, rfl, rfl, by omega, by omega⟩
      case round =>
        obtain ⟨k, r, hk, rfl, rfl, hr0, hr1⟩ := hrel
        by_cases hlt : k < n
        · obtain ⟨b, off, rfl, _, hc⟩ := HX.out.at (by have := HN.out; omega)
          have g1 := hc (k * 3) (by have := HN.out; omega)
          have g2 := hc (k * 3 + 1) (by have := HN.out; omega)
          have g3 := hc (k * 3 + 2) (by have := HN.out; omega)
          rw [← Nat.add_assoc] at g2 g3
          clear hc
          go_wp2_with fail
          refine (sizestr_any _ r w hr0 hr1).mono ?_
          rintro e w' ⟨r1, rfl, hr2, hr3, rfl⟩
          go_wp2_with fail
          refine (sizestr_any _ r1 _ hr2 hr3).mono ?_
          rintro e w' ⟨r2, rfl, hr4, hr5, rfl⟩
          go_wp2_with fail
          refine (sizestr_any _ r2 _ hr4 hr5).mono ?_
          rintro e w' ⟨r3, rfl, hr6, hr7, rfl⟩
          by_cases hr : r3 < 0
          · go_wp2
            go_ret
            exact ⟨_, rfl, by omega, by omega, rfl⟩
          · go_wp2
            go_round
            case rel => exact ⟨k + 1, r3, by omega, by go_num, rfl, by omega, by omega⟩
            case measure => simp [intOf]; omega
        · go_wp2
          go_ret
          exact ⟨_, rfl, by omega, by omega, rfl⟩
    · have d2 : decide (l / 48 < (n : Int)) = true := decide_eq_true (by omega)
      go_enter Try.func32, Try.ntmps32
      go_wp2
      go_ret
      exact ⟨_, rfl, by omega, by omega, rfl⟩

theorem sharebytes_any (d h i : ByteArray) (a1 a2 a3 : Option Addr) (n1 c1 n2 c2 n3 c3 : Nat) (s1 s2 s3 : List ByteArray) (l : Int) (w : World) (h0 : -1 ≤ l) (h1 : l ≤ 1048576)
    (L1 : s1.length = n1) (L2 : s2.length = n2) (L3 : s3.length = n3 * 3) (X1 : Ss w a1 s1) (X2 : Ss w a2 s2) (X3 : Ss w a3 s3) (m1 : n1 ≤ 140737488355328) (m2 : n2 ≤ 140737488355328) (m3 : n3 ≤ 140737488355328) :
    Calls Try.prog 11 #[.string d, .string h, .string i, .slice a1 n1 c1, .slice a2 n2 c2, .slice a3 n3 c3, .int .i64 l] w fun e w' => ∃ r : Int, e = .returned (.int .i64 r) ∧ -1 ≤ r ∧ r ≤ 1048576 ∧ w' = w := by
  have H1 := shid X1
  have H2 := shid X2
  have H3 := shid X3
  have K1 : Hid (s1.length = n1) := L1
  have K2 : Hid (s2.length = n2) := L2
  have K3 : Hid (s3.length = n3 * 3) := L3
  clear X1 X2 X3 L1 L2 L3
  go_enter Try.func11, Try.ntmps11
  go_wp2_with fail
  refine (sizestr_any _ l _ h0 h1).mono ?_
  rintro e w' ⟨r1, rfl, p1, q1, rfl⟩
  go_wp2_with fail
  refine (sizestr_any _ r1 _ p1 q1).mono ?_
  rintro e w' ⟨r2, rfl, p2, q2, rfl⟩
  go_wp2_with fail
  refine (sizestr_any _ r2 _ p2 q2).mono ?_
  rintro e w' ⟨r3, rfl, p3, q3, rfl⟩
  go_wp2_with fail
  refine (sizestrs_any a1 n1 c1 s1 r3 _ p3 q3 K1.out H1.out m1).mono ?_
  rintro e w' ⟨r4, rfl, p4, q4, rfl⟩
  go_wp2_with fail
  refine (sizestrs_any a2 n2 c2 s2 r4 _ p4 q4 K2.out H2.out m2).mono ?_
  rintro e w' ⟨r5, rfl, p5, q5, rfl⟩
  go_wp2_with fail
  refine (sizemts_any a3 n3 c3 s3 r5 _ p5 q5 K3.out H3.out m3).mono ?_
  rintro e w' ⟨r6, rfl, p6, q6, rfl⟩
  go_wp2
  go_ret
  exact ⟨_, rfl, p6, q6, rfl⟩
end Go.Proofs.Qxb6602743a
