/-
  WALK: the bound on the total length.
-/
import Derived.Test.Qxb6602743aShMaint
namespace Go.Proofs.Qxb6602743a
open Go.RowKit

def ZzPost (n1 n2 n3 n4 n5 n6 : Nat) (w : World) (e : Ending) (w' : World) : Prop :=
  ∃ b, e = .returned (.bool b) ∧ (b = true → n1 ≤ 1048576 ∧ n2 ≤ 1048576 ∧ n3 ≤ 1048576 ∧ n4 ≤ 1048576 ∧ n5 ≤ 1048576 ∧ n6 ≤ 1048576) ∧ w' = w
theorem ZzPost.no (n1 n2 n3 n4 n5 n6 : Nat) (w : World) : ZzPost n1 n2 n3 n4 n5 n6 w (.returned (.bool false)) w := ⟨_, rfl, (fun h => by cases h), rfl⟩
theorem ZzPost.yes (n1 n2 n3 n4 n5 n6 : Nat) (w : World) (h : n1 ≤ 1048576 ∧ n2 ≤ 1048576 ∧ n3 ≤ 1048576 ∧ n4 ≤ 1048576 ∧ n5 ≤ 1048576 ∧ n6 ≤ 1048576) : ZzPost n1 n2 n3 n4 n5 n6 w (.returned (.bool true)) w := ⟨_, rfl, fun _ => h, rfl⟩

set_option maxRecDepth 100000 in
set_option maxHeartbeats 4000000 in
theorem zzb_any (d1 h1 i1 : ByteArray) (a1 a2 a3 : Option Addr) (n1 c1 n2 c2 n3 c3 : Nat) (s1 s2 s3 : List ByteArray) (d2 h2 i2 : ByteArray) (a4 a5 a6 : Option Addr) (n4 c4 n5 c5 n6 c6 : Nat) (s4 s5 s6 : List ByteArray) (w : World)
    (L1 : s1.length = n1) (L2 : s2.length = n2) (L3 : s3.length = n3 * 3) (X1 : Ss w a1 s1) (X2 : Ss w a2 s2) (X3 : Ss w a3 s3)
    (L4 : s4.length = n4) (L5 : s5.length = n5) (L6 : s6.length = n6 * 3) (X4 : Ss w a4 s4) (X5 : Ss w a5 s5) (X6 : Ss w a6 s6) :
    Calls Try.prog 10 #[.string d1, .string h1, .string i1, .slice a1 n1 c1, .slice a2 n2 c2, .slice a3 n3 c3, .string d2, .string h2, .string i2, .slice a4 n4 c4, .slice a5 n5 c5, .slice a6 n6 c6] w
      (ZzPost n1 n2 n3 n4 n5 n6 w) := by
  have H1 := shid X1
  have K1 : Hid (s1.length = n1) := L1
  have H2 := shid X2
  have K2 : Hid (s2.length = n2) := L2
  have H3 := shid X3
  have K3 : Hid (s3.length = n3 * 3) := L3
  have H4 := shid X4
  have K4 : Hid (s4.length = n4) := L4
  have H5 := shid X5
  have K5 : Hid (s5.length = n5) := L5
  have H6 := shid X6
  have K6 : Hid (s6.length = n6 * 3) := L6
  clear X1 X2 X3 X4 X5 X6 L1 L2 L3 L4 L5 L6
  go_enter Try.func10, Try.ntmps10
  go_wp2
  all_goals try (go_ret; exact ZzPost.no _ _ _ _ _ _ _)
  go_loop [25, 26] (fun x y => ∃ (k : Nat) (z : Int), k ≤ n1 ∧ y = .int .i64 k ∧ x = .int .i64 z ∧ 0 ≤ z ∧ z ≤ 1048576) (fun _ y => n1 - (intOf y).toNat)
  case atStart => exact ⟨0, _, Nat.zero_le _, rfl, rfl, by omega, by omega⟩
  case round =>
    obtain ⟨k, z, hk, rfl, rfl, hz0, hz1⟩ := hrel
    by_cases hlt : k < n1
    · obtain ⟨b, off, rfl, _, hc⟩ := H1.out.at (by have := K1.out; omega)
      have g1 := hc k (by have := K1.out; omega)
      obtain ⟨t0, ht0⟩ : ∃ t, s1.getD k ByteArray.empty = t := ⟨_, rfl⟩
      rw [ht0] at g1
      clear hc ht0
      go_wp2
      all_goals try (go_ret; exact ZzPost.no _ _ _ _ _ _ _)
      go_round
      case rel => exact ⟨k + 1, _, by omega, by go_num, rfl, by omega, by omega⟩
      case measure => simp [intOf]; omega
    · go_wp2
      all_goals try (go_ret; exact ZzPost.no _ _ _ _ _ _ _)
      go_loop [25, 27] (fun x y => ∃ (k : Nat) (z : Int), k ≤ n2 ∧ y = .int .i64 k ∧ x = .int .i64 z ∧ 0 ≤ z ∧ z ≤ 1048576) (fun _ y => n2 - (intOf y).toNat)
      case atStart => exact ⟨0, _, Nat.zero_le _, rfl, rfl, by omega, by omega⟩
      case round =>
        obtain ⟨k, z, hk, rfl, rfl, hz0, hz1⟩ := hrel
        by_cases hlt : k < n2
        · obtain ⟨b, off, rfl, _, hc⟩ := H2.out.at (by have := K2.out; omega)
          have g1 := hc k (by have := K2.out; omega)
          obtain ⟨t0, ht0⟩ : ∃ t, s2.getD k ByteArray.empty = t := ⟨_, rfl⟩
          rw [ht0] at g1
          clear hc ht0
          go_wp2
          all_goals try (go_ret; exact ZzPost.no _ _ _ _ _ _ _)
          go_round
          case rel => exact ⟨k + 1, _, by omega, by go_num, rfl, by omega, by omega⟩
          case measure => simp [intOf]; omega
        · go_wp2
          all_goals try (go_ret; exact ZzPost.no _ _ _ _ _ _ _)
          go_loop [25, 28] (fun x y => ∃ (k : Nat) (z : Int), k ≤ n3 ∧ y = .int .i64 k ∧ x = .int .i64 z ∧ 0 ≤ z ∧ z ≤ 1048576) (fun _ y => n3 - (intOf y).toNat)
          case atStart => exact ⟨0, _, Nat.zero_le _, rfl, rfl, by omega, by omega⟩
          case round =>
            obtain ⟨k, z, hk, rfl, rfl, hz0, hz1⟩ := hrel
            by_cases hlt : k < n3
            · obtain ⟨b, off, rfl, _, hc⟩ := H3.out.at (by have := K3.out; omega)
              have g1 := hc (k * 3) (by have := K3.out; omega)
              have g2 := hc (k * 3 + 1) (by have := K3.out; omega)
              have g3 := hc (k * 3 + 2) (by have := K3.out; omega)
              rw [← Nat.add_assoc] at g2 g3
              obtain ⟨t0, ht0⟩ : ∃ t, s3.getD (k * 3) ByteArray.empty = t := ⟨_, rfl⟩
              obtain ⟨t1, ht1⟩ : ∃ t, s3.getD (k * 3 + 1) ByteArray.empty = t := ⟨_, rfl⟩
              obtain ⟨t2, ht2⟩ : ∃ t, s3.getD (k * 3 + 2) ByteArray.empty = t := ⟨_, rfl⟩
              rw [ht0] at g1
              rw [ht1] at g2
              rw [ht2] at g3
              clear hc ht0 ht1 ht2
              go_wp2
              all_goals try (go_ret; exact ZzPost.no _ _ _ _ _ _ _)
              go_round
              case rel => exact ⟨k + 1, _, by omega, by go_num, rfl, by omega, by omega⟩
              case measure => simp [intOf]; omega
            · go_wp2
              all_goals try (go_ret; exact ZzPost.no _ _ _ _ _ _ _)
              go_loop [25, 29] (fun x y => ∃ (k : Nat) (z : Int), k ≤ n4 ∧ y = .int .i64 k ∧ x = .int .i64 z ∧ 0 ≤ z ∧ z ≤ 1048576) (fun _ y => n4 - (intOf y).toNat)
              case atStart => exact ⟨0, _, Nat.zero_le _, rfl, rfl, by omega, by omega⟩
              case round =>
                obtain ⟨k, z, hk, rfl, rfl, hz0, hz1⟩ := hrel
                by_cases hlt : k < n4
                · obtain ⟨b, off, rfl, _, hc⟩ := H4.out.at (by have := K4.out; omega)
                  have g1 := hc k (by have := K4.out; omega)
                  obtain ⟨t0, ht0⟩ : ∃ t, s4.getD k ByteArray.empty = t := ⟨_, rfl⟩
                  rw [ht0] at g1
                  clear hc ht0
                  go_wp2
                  all_goals try (go_ret; exact ZzPost.no _ _ _ _ _ _ _)
                  go_round
                  case rel => exact ⟨k + 1, _, by omega, by go_num, rfl, by omega, by omega⟩
                  case measure => simp [intOf]; omega
                · go_wp2
                  all_goals try (go_ret; exact ZzPost.no _ _ _ _ _ _ _)
                  go_loop [25, 30] (fun x y => ∃ (k : Nat) (z : Int), k ≤ n5 ∧ y = .int .i64 k ∧ x = .int .i64 z ∧ 0 ≤ z ∧ z ≤ 1048576) (fun _ y => n5 - (intOf y).toNat)
                  case atStart => exact ⟨0, _, Nat.zero_le _, rfl, rfl, by omega, by omega⟩
                  case round =>
                    obtain ⟨k, z, hk, rfl, rfl, hz0, hz1⟩ := hrel
                    by_cases hlt : k < n5
                    · obtain ⟨b, off, rfl, _, hc⟩ := H5.out.at (by have := K5.out; omega)
                      have g1 := hc k (by have := K5.out; omega)
                      obtain ⟨t0, ht0⟩ : ∃ t, s5.getD k ByteArray.empty = t := ⟨_, rfl⟩
                      rw [ht0] at g1
                      clear hc ht0
                      go_wp2
                      all_goals try (go_ret; exact ZzPost.no _ _ _ _ _ _ _)
                      go_round
                      case rel => exact ⟨k + 1, _, by omega, by go_num, rfl, by omega, by omega⟩
                      case measure => simp [intOf]; omega
                    · go_wp2
                      all_goals try (go_ret; exact ZzPost.no _ _ _ _ _ _ _)
                      go_loop [25, 31] (fun x y => ∃ (k : Nat) (z : Int), k ≤ n6 ∧ y = .int .i64 k ∧ x = .int .i64 z ∧ 0 ≤ z ∧ z ≤ 1048576) (fun _ y => n6 - (intOf y).toNat)
                      case atStart => exact ⟨0, _, Nat.zero_le _, rfl, rfl, by omega, by omega⟩
                      case round =>
                        obtain ⟨k, z, hk, rfl, rfl, hz0, hz1⟩ := hrel
                        by_cases hlt : k < n6
                        · obtain ⟨b, off, rfl, _, hc⟩ := H6.out.at (by have := K6.out; omega)
                          have g1 := hc (k * 3) (by have := K6.out; omega)
                          have g2 := hc (k * 3 + 1) (by have := K6.out; omega)
                          have g3 := hc (k * 3 + 2) (by have := K6.out; omega)
                          rw [← Nat.add_assoc] at g2 g3
                          obtain ⟨t0, ht0⟩ : ∃ t, s6.getD (k * 3) ByteArray.empty = t := ⟨_, rfl⟩
                          obtain ⟨t1, ht1⟩ : ∃ t, s6.getD (k * 3 + 1) ByteArray.empty = t := ⟨_, rfl⟩
                          obtain ⟨t2, ht2⟩ : ∃ t, s6.getD (k * 3 + 2) ByteArray.empty = t := ⟨_, rfl⟩
                          rw [ht0] at g1
                          rw [ht1] at g2
                          rw [ht2] at g3
                          clear hc ht0 ht1 ht2
                          go_wp2
                          all_goals try (go_ret; exact ZzPost.no _ _ _ _ _ _ _)
                          go_round
                          case rel => exact ⟨k + 1, _, by omega, by go_num, rfl, by omega, by omega⟩
                          case measure => simp [intOf]; omega
                        · go_wp2
                          all_goals try (go_ret; exact ZzPost.no _ _ _ _ _ _ _)
                          go_ret
                          exact ZzPost.yes _ _ _ _ _ _ _ ⟨by omega, by omega, by omega, by omega, by omega, by omega⟩
end Go.Proofs.Qxb6602743a
