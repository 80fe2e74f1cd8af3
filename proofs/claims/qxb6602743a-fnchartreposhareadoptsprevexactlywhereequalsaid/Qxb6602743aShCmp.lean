/-
  WALKS: slices of structs of three strings: comparisons.
-/
import Derived.Test.Qxb6602743aShMaint
namespace Go.Proofs.Qxb6602743a
open Go.RowKit

theorem stake3 (xs ys : List ByteArray) (k n : Nat) (h : xs.take (k * 3) = ys.take (k * 3)) (hx : xs.length = n * 3) (hy : ys.length = n * 3) (hk : k < n)
    (e0 : xs.getD (k * 3) ByteArray.empty = ys.getD (k * 3) ByteArray.empty) (e1 : xs.getD (k * 3 + 1) ByteArray.empty = ys.getD (k * 3 + 1) ByteArray.empty) (e2 : xs.getD (k * 3 + 2) ByteArray.empty = ys.getD (k * 3 + 2) ByteArray.empty) :
    xs.take ((k + 1) * 3) = ys.take ((k + 1) * 3) := by
  have h1 := stake_succ xs ys (k * 3) h (by omega) (by omega) e0
  have h2 := stake_succ xs ys (k * 3 + 1) h1 (by omega) (by omega) e1
  have h3 := stake_succ xs ys (k * 3 + 2) h2 (by omega) (by omega) e2
  rw [show (k + 1) * 3 = k * 3 + 2 + 1 by omega]
  exact h3

set_option maxHeartbeats 1000000 in
theorem samemts_any (a b : Option Addr) (n c m d : Nat) (xs ys : List ByteArray) (w : World) (hn : xs.length = n * 3) (hm : ys.length = m * 3) (hx : Ss w a xs) (hy : Ss w b ys) (hmax : n ≤ 140737488355328) :
    Calls Try.prog 16 #[.slice a n c, .slice b m d] w fun e w' => e = .returned (.bool (decide (xs = ys))) ∧ Below w.heap.size w w' := by
  by_cases hnm : n = m
  · subst hnm
    by_cases h0 : n = 0
    · have : decide (xs = ys) = true := by
        apply decide_eq_true
        rw [List.eq_nil_of_length_eq_zero (by omega : xs.length = 0), List.eq_nil_of_length_eq_zero (by omega : ys.length = 0)]
      clear hx hy
      subst h0
      go_enter Try.func16, Try.ntmps16
      go_wp2
      refine wp_loop_rounds 1 ?_
      rw [rounds_succ]
      go_wp2
      go_ret
      exact ⟨by rw [this]; rfl, Below.refl _ _⟩
    · obtain ⟨b1, o1, rfl, _, hc1⟩ := hx.at (by omega)
      obtain ⟨b2, o2, rfl, _, hc2⟩ := hy.at (by omega)
      have HN : Hid (xs.length = n * 3) := hn
      have HM : Hid (ys.length = n * 3) := hm
      rw [hn] at hc1
      rw [hm] at hc2
      have HC1 := shid hc1
      have HC2 := shid hc2
      clear hx hy hn hm hc1 hc2
      go_enter Try.func16, Try.ntmps16
      go_wp2
      go_loopw [5] (fun i wr => ∃ k : Nat, k ≤ n ∧ i = .int .i64 k ∧ xs.take (k * 3) = ys.take (k * 3) ∧ ∃ q, wr = w.drewN q) (fun i _ => n - (intOf i).toNat)
      case atStart => exact ⟨0, Nat.zero_le _, rfl, rfl, 0, rfl⟩
      case round =>
        obtain ⟨k, hk, rfl, htk, q, rfl⟩ := hrel
        have HT : Hid (xs.take (k * 3) = ys.take (k * 3)) := htk
        clear htk
        by_cases hlt : k < n
        · have p0 := HC1.out (k * 3) (by omega)
          have p1 := HC1.out (k * 3 + 1) (by omega)
          have p2 := HC1.out (k * 3 + 2) (by omega)
          have r0 := HC2.out (k * 3) (by omega)
          have r1 := HC2.out (k * 3 + 1) (by omega)
          have r2 := HC2.out (k * 3 + 2) (by omega)
          rw [← Nat.add_assoc] at p1 p2 r1 r2
          obtain ⟨s0, hs0⟩ : ∃ s, xs.getD (k * 3) ByteArray.empty = s := ⟨_, rfl⟩
          obtain ⟨s1, hs1⟩ : ∃ s, xs.getD (k * 3 + 1) ByteArray.empty = s := ⟨_, rfl⟩
          obtain ⟨s2, hs2⟩ : ∃ s, xs.getD (k * 3 + 2) ByteArray.empty = s := ⟨_, rfl⟩
          obtain ⟨t0, ht0⟩ : ∃ s, ys.getD (k * 3) ByteArray.empty = s := ⟨_, rfl⟩
          obtain ⟨t1, ht1⟩ : ∃ s, ys.getD (k * 3 + 1) ByteArray.empty = s := ⟨_, rfl⟩
          obtain ⟨t2, ht2⟩ : ∃ s, ys.getD (k * 3 + 2) ByteArray.empty = s := ⟨_, rfl⟩
          rw [hs0] at p0
          rw [hs1] at p1
          rw [hs2] at p2
          rw [ht0] at r0
          rw [ht1] at r1
          rw [ht2] at r2
          have HS0 : Hid (xs.getD (k * 3) ByteArray.empty = s0) := hs0
          have HS1 : Hid (xs.getD (k * 3 + 1) ByteArray.empty = s1) := hs1
          have HS2 : Hid (xs.getD (k * 3 + 2) ByteArray.empty = s2) := hs2
          have HT0 : Hid (ys.getD (k * 3) ByteArray.empty = t0) := ht0
          have HT1 : Hid (ys.getD (k * 3 + 1) ByteArray.empty = t1) := ht1
          have HT2 : Hid (ys.getD (k * 3 + 2) ByteArray.empty = t2) := ht2
          clear hs0 hs1 hs2 ht0 ht1 ht2
          have hway : (s0 = t0 ∧ s1 = t1 ∧ s2 = t2) ∨ (¬ s0 = t0) ∨ (s0 = t0 ∧ ¬ s1 = t1) ∨ (s0 = t0 ∧ s1 = t1 ∧ ¬ s2 = t2) := by
            by_cases e0 : s0 = t0
            · by_cases e1 : s1 = t1
              · by_cases e2 : s2 = t2
                · exact .inl ⟨e0, e1, e2⟩
                · exact .inr (.inr (.inr ⟨e0, e1, e2⟩))
              · exact .inr (.inr (.inl ⟨e0, e1⟩))
            · exact .inr (.inl e0)
          rcases hway with ⟨rfl, rfl, rfl⟩ | he | ⟨rfl, he⟩ | ⟨rfl, rfl, he⟩
          · go_wp2
            go_quiet (fail)
            go_wp2
            go_roundw
            case rel => exact ⟨k + 1, by omega, by go_num, stake3 xs ys k n HT.out HN.out HM.out hlt (HS0.out.trans HT0.out.symm) (HS1.out.trans HT1.out.symm) (HS2.out.trans HT2.out.symm), _, rfl⟩
            case measure => simp [intOf]; omega
          · have hne := str_ne he
            go_wp2
            go_quiet (fail)
            go_wp2
            go_ret
            have : decide (xs = ys) = false := by
              apply decide_eq_false
              intro h; subst h; exact he (HS0.out.symm.trans HT0.out)
            exact ⟨by rw [this]; rfl, ⟨rfl, rfl, rfl, Nat.le_refl _, fun _ _ => rfl⟩⟩
          · have hne := str_ne he
            go_wp2
            go_quiet (fail)
            go_wp2
            go_ret
            have : decide (xs = ys) = false := by
              apply decide_eq_false
              intro h; subst h; exact he (HS1.out.symm.trans HT1.out)
            exact ⟨by rw [this]; rfl, ⟨rfl, rfl, rfl, Nat.le_refl _, fun _ _ => rfl⟩⟩
          · have hne := str_ne he
            go_wp2
            go_quiet (fail)
            go_wp2
            go_ret
            have : decide (xs = ys) = false := by
              apply decide_eq_false
              intro h; subst h; exact he (HS2.out.symm.trans HT2.out)
            exact ⟨by rw [this]; rfl, ⟨rfl, rfl, rfl, Nat.le_refl _, fun _ _ => rfl⟩⟩
        · go_wp2
          go_ret
          have : decide (xs = ys) = true := by
            apply decide_eq_true
            have h1 := HT.out
            have h2 := HN.out
            have h3 := HM.out
            rwa [List.take_of_length_le (by omega), List.take_of_length_le (by omega)] at h1
          exact ⟨by rw [this]; rfl, ⟨rfl, rfl, rfl, Nat.le_refl _, fun _ _ => rfl⟩⟩
  · go_enter Try.func16, Try.ntmps16
    go_wp2
    go_ret
    have : decide (xs = ys) = false := by
      apply decide_eq_false
      intro h; subst h; omega
    exact ⟨by rw [this]; rfl, Below.refl _ _⟩

set_option maxHeartbeats 1000000 in
theorem samemaints_any (a b : Option Addr) (n c m d : Nat) (xs ys : List ByteArray) (w : World) (hn : xs.length = n * 3) (hm : ys.length = m * 3) (hx : Ss w a xs) (hy : Ss w b ys) (hmax : n ≤ 140737488355328) :
    Calls Try.prog 20 #[.slice a n c, .slice b m d] w fun e w' => e = .returned (.bool (decide (xs = ys))) ∧ Below w.heap.size w w' := by
  by_cases hnm : n = m
  · subst hnm
    by_cases h0 : n = 0
    · have : decide (xs = ys) = true := by
        apply decide_eq_true
        rw [List.eq_nil_of_length_eq_zero (by omega : xs.length = 0), List.eq_nil_of_length_eq_zero (by omega : ys.length = 0)]
      clear hx hy
      subst h0
      go_enter Try.func20, Try.ntmps20
      go_wp2
      refine wp_loop_rounds 1 ?_
      rw [rounds_succ]
      go_wp2
      go_ret
      exact ⟨by rw [this]; rfl, Below.refl _ _⟩
    · obtain ⟨b1, o1, rfl, _, hc1⟩ := hx.at (by omega)
      obtain ⟨b2, o2, rfl, _, hc2⟩ := hy.at (by omega)
      have HN : Hid (xs.length = n * 3) := hn
      have HM : Hid (ys.length = n * 3) := hm
      rw [hn] at hc1
      rw [hm] at hc2
      have HC1 := shid hc1
      have HC2 := shid hc2
      clear hx hy hn hm hc1 hc2
      go_enter Try.func20, Try.ntmps20
      go_wp2
      go_loopw [5] (fun i wr => ∃ k : Nat, k ≤ n ∧ i = .int .i64 k ∧ xs.take (k * 3) = ys.take (k * 3) ∧ ∃ q, wr = w.drewN q) (fun i _ => n - (intOf i).toNat)
      case atStart => exact ⟨0, Nat.zero_le _, rfl, rfl, 0, rfl⟩
      case round =>
        obtain ⟨k, hk, rfl, htk, q, rfl⟩ := hrel
        have HT : Hid (xs.take (k * 3) = ys.take (k * 3)) := htk
        clear htk
        by_cases hlt : k < n
        · have p0 := HC1.out (k * 3) (by omega)
          have p1 := HC1.out (k * 3 + 1) (by omega)
          have p2 := HC1.out (k * 3 + 2) (by omega)
          have r0 := HC2.out (k * 3) (by omega)
          have r1 := HC2.out (k * 3 + 1) (by omega)
          have r2 := HC2.out (k * 3 + 2) (by omega)
          rw [← Nat.add_assoc] at p1 p2 r1 r2
          obtain ⟨s0, hs0⟩ : ∃ s, xs.getD (k * 3) ByteArray.empty = s := ⟨_, rfl⟩
          obtain ⟨s1, hs1⟩ : ∃ s, xs.getD (k * 3 + 1) ByteArray.empty = s := ⟨_, rfl⟩
          obtain ⟨s2, hs2⟩ : ∃ s, xs.getD (k * 3 + 2) ByteArray.empty = s := ⟨_, rfl⟩
          obtain ⟨t0, ht0⟩ : ∃ s, ys.getD (k * 3) ByteArray.empty = s := ⟨_, rfl⟩
          obtain ⟨t1, ht1⟩ : ∃ s, ys.getD (k * 3 + 1) ByteArray.empty = s := ⟨_, rfl⟩
          obtain ⟨t2, ht2⟩ : ∃ s, ys.getD (k * 3 + 2) ByteArray.empty = s := ⟨_, rfl⟩
          rw [hs0] at p0
          rw [hs1] at p1
          rw [hs2] at p2
          rw [ht0] at r0
          rw [ht1] at r1
          rw [ht2] at r2
          have HS0 : Hid (xs.getD (k * 3) ByteArray.empty = s0) := hs0
          have HS1 : Hid (xs.getD (k * 3 + 1) ByteArray.empty = s1) := hs1
          have HS2 : Hid (xs.getD (k * 3 + 2) ByteArray.empty = s2) := hs2
          have HT0 : Hid (ys.getD (k * 3) ByteArray.empty = t0) := ht0
          have HT1 : Hid (ys.getD (k * 3 + 1) ByteArray.empty = t1) := ht1
          have HT2 : Hid (ys.getD (k * 3 + 2) ByteArray.empty = t2) := ht2
          clear hs0 hs1 hs2 ht0 ht1 ht2
          have hway : (s0 = t0 ∧ s1 = t1 ∧ s2 = t2) ∨ (¬ s0 = t0) ∨ (s0 = t0 ∧ ¬ s1 = t1) ∨ (s0 = t0 ∧ s1 = t1 ∧ ¬ s2 = t2) := by
            by_cases e0 : s0 = t0
            · by_cases e1 : s1 = t1
              · by_cases e2 : s2 = t2
                · exact .inl ⟨e0, e1, e2⟩
                · exact .inr (.inr (.inr ⟨e0, e1, e2⟩))
              · exact .inr (.inr (.inl ⟨e0, e1⟩))
            · exact .inr (.inl e0)
          rcases hway with ⟨rfl, rfl, rfl⟩ | he | ⟨rfl, he⟩ | ⟨rfl, rfl, he⟩
          · go_wp2
            go_quiet (fail)
            go_wp2
            go_roundw
            case rel => exact ⟨k + 1, by omega, by go_num, stake3 xs ys k n HT.out HN.out HM.out hlt (HS0.out.trans HT0.out.symm) (HS1.out.trans HT1.out.symm) (HS2.out.trans HT2.out.symm), _, rfl⟩
            case measure => simp [intOf]; omega
          · have hne := str_ne he
            go_wp2
            go_quiet (fail)
            go_wp2
            go_ret
            have : decide (xs = ys) = false := by
              apply decide_eq_false
              intro h; subst h; exact he (HS0.out.symm.trans HT0.out)
            exact ⟨by rw [this]; rfl, ⟨rfl, rfl, rfl, Nat.le_refl _, fun _ _ => rfl⟩⟩
          · have hne := str_ne he
            go_wp2
            go_quiet (fail)
            go_wp2
            go_ret
            have : decide (xs = ys) = false := by
              apply decide_eq_false
              intro h; subst h; exact he (HS1.out.symm.trans HT1.out)
            exact ⟨by rw [this]; rfl, ⟨rfl, rfl, rfl, Nat.le_refl _, fun _ _ => rfl⟩⟩
          · have hne := str_ne he
            go_wp2
            go_quiet (fail)
            go_wp2
            go_ret
            have : decide (xs = ys) = false := by
              apply decide_eq_false
              intro h; subst h; exact he (HS2.out.symm.trans HT2.out)
            exact ⟨by rw [this]; rfl, ⟨rfl, rfl, rfl, Nat.le_refl _, fun _ _ => rfl⟩⟩
        · go_wp2
          go_ret
          have : decide (xs = ys) = true := by
            apply decide_eq_true
            have h1 := HT.out
            have h2 := HN.out
            have h3 := HM.out
            rwa [List.take_of_length_le (by omega), List.take_of_length_le (by omega)] at h1
          exact ⟨by rw [this]; rfl, ⟨rfl, rfl, rfl, Nat.le_refl _, fun _ _ => rfl⟩⟩
  · go_enter Try.func20, Try.ntmps20
    go_wp2
    go_ret
    have : decide (xs = ys) = false := by
      apply decide_eq_false
      intro h; subst h; omega
    exact ⟨by rw [this]; rfl, Below.refl _ _⟩

set_option maxHeartbeats 1000000 in
theorem eqmts_any (a b : Option Addr) (n c m d : Nat) (xs ys : List ByteArray) (w : World) (hn : xs.length = n * 3) (hm : ys.length = m * 3) (hx : Ss w a xs) (hy : Ss w b ys) (hmax : n ≤ 140737488355328) :
    Calls Try.prog 37 #[.slice a n c, .slice b m d] w fun e w' => e = .returned (.bool (decide (xs = ys))) ∧ ∃ q, w' = w.drewN q := by
  by_cases hnm : n = m
  · subst hnm
    by_cases h0 : n = 0
    · have : decide (xs = ys) = true := by
        apply decide_eq_true
        rw [List.eq_nil_of_length_eq_zero (by omega : xs.length = 0), List.eq_nil_of_length_eq_zero (by omega : ys.length = 0)]
      clear hx hy
      subst h0
      go_enter Try.func37, Try.ntmps37
      go_wp2
      refine wp_loop_rounds 1 ?_
      rw [rounds_succ]
      go_wp2
      go_ret
      exact ⟨by rw [this]; rfl, 0, rfl⟩
    · obtain ⟨b1, o1, rfl, _, hc1⟩ := hx.at (by omega)
      obtain ⟨b2, o2, rfl, _, hc2⟩ := hy.at (by omega)
      have HN : Hid (xs.length = n * 3) := hn
      have HM : Hid (ys.length = n * 3) := hm
      rw [hn] at hc1
      rw [hm] at hc2
      have HC1 := shid hc1
      have HC2 := shid hc2
      clear hx hy hn hm hc1 hc2
      go_enter Try.func37, Try.ntmps37
      go_wp2
      go_loopw [13] (fun i wr => ∃ k : Nat, k ≤ n ∧ i = .int .i64 k ∧ xs.take (k * 3) = ys.take (k * 3) ∧ ∃ q, wr = w.drewN q) (fun i _ => n - (intOf i).toNat)
      case atStart => exact ⟨0, Nat.zero_le _, rfl, rfl, 0, rfl⟩
      case round =>
        obtain ⟨k, hk, rfl, htk, q, rfl⟩ := hrel
        have HT : Hid (xs.take (k * 3) = ys.take (k * 3)) := htk
        clear htk
        by_cases hlt : k < n
        · have p0 := HC1.out (k * 3) (by omega)
          have p1 := HC1.out (k * 3 + 1) (by omega)
          have p2 := HC1.out (k * 3 + 2) (by omega)
          have r0 := HC2.out (k * 3) (by omega)
          have r1 := HC2.out (k * 3 + 1) (by omega)
          have r2 := HC2.out (k * 3 + 2) (by omega)
          rw [← Nat.add_assoc] at p1 p2 r1 r2
          obtain ⟨s0, hs0⟩ : ∃ s, xs.getD (k * 3) ByteArray.empty = s := ⟨_, rfl⟩
          obtain ⟨s1, hs1⟩ : ∃ s, xs.getD (k * 3 + 1) ByteArray.empty = s := ⟨_, rfl⟩
          obtain ⟨s2, hs2⟩ : ∃ s, xs.getD (k * 3 + 2) ByteArray.empty = s := ⟨_, rfl⟩
          obtain ⟨t0, ht0⟩ : ∃ s, ys.getD (k * 3) ByteArray.empty = s := ⟨_, rfl⟩
          obtain ⟨t1, ht1⟩ : ∃ s, ys.getD (k * 3 + 1) ByteArray.empty = s := ⟨_, rfl⟩
          obtain ⟨t2, ht2⟩ : ∃ s, ys.getD (k * 3 + 2) ByteArray.empty = s := ⟨_, rfl⟩
          rw [hs0] at p0
          rw [hs1] at p1
          rw [hs2] at p2
          rw [ht0] at r0
          rw [ht1] at r1
          rw [ht2] at r2
          have HS0 : Hid (xs.getD (k * 3) ByteArray.empty = s0) := hs0
          have HS1 : Hid (xs.getD (k * 3 + 1) ByteArray.empty = s1) := hs1
          have HS2 : Hid (xs.getD (k * 3 + 2) ByteArray.empty = s2) := hs2
          have HT0 : Hid (ys.getD (k * 3) ByteArray.empty = t0) := ht0
          have HT1 : Hid (ys.getD (k * 3 + 1) ByteArray.empty = t1) := ht1
          have HT2 : Hid (ys.getD (k * 3 + 2) ByteArray.empty = t2) := ht2
          clear hs0 hs1 hs2 ht0 ht1 ht2
          have hway : (s0 = t0 ∧ s1 = t1 ∧ s2 = t2) ∨ (¬ s0 = t0) ∨ (s0 = t0 ∧ ¬ s1 = t1) ∨ (s0 = t0 ∧ s1 = t1 ∧ ¬ s2 = t2) := by
            by_cases e0 : s0 = t0
            · by_cases e1 : s1 = t1
              · by_cases e2 : s2 = t2
                · exact .inl ⟨e0, e1, e2⟩
                · exact .inr (.inr (.inr ⟨e0, e1, e2⟩))
              · exact .inr (.inr (.inl ⟨e0, e1⟩))
            · exact .inr (.inl e0)
          rcases hway with ⟨rfl, rfl, rfl⟩ | he | ⟨rfl, he⟩ | ⟨rfl, rfl, he⟩
          · go_wp2
            go_quiet (fail)
            go_wp2
            go_roundw
            case rel => exact ⟨k + 1, by omega, by go_num, stake3 xs ys k n HT.out HN.out HM.out hlt (HS0.out.trans HT0.out.symm) (HS1.out.trans HT1.out.symm) (HS2.out.trans HT2.out.symm), _, rfl⟩
            case measure => simp [intOf]; omega
          · have hne := str_ne he
            go_wp2
            go_quiet (fail)
            go_wp2
            go_ret
            have : decide (xs = ys) = false := by
              apply decide_eq_false
              intro h; subst h; exact he (HS0.out.symm.trans HT0.out)
            exact ⟨by rw [this]; rfl, _, World.drewN_drewN _ _ _⟩
          · have hne := str_ne he
            go_wp2
            go_quiet (fail)
            go_wp2
            go_ret
            have : decide (xs = ys) = false := by
              apply decide_eq_false
              intro h; subst h; exact he (HS1.out.symm.trans HT1.out)
            exact ⟨by rw [this]; rfl, _, World.drewN_drewN _ _ _⟩
          · have hne := str_ne he
            go_wp2
            go_quiet (fail)
            go_wp2
            go_ret
            have : decide (xs = ys) = false := by
              apply decide_eq_false
              intro h; subst h; exact he (HS2.out.symm.trans HT2.out)
            exact ⟨by rw [this]; rfl, _, World.drewN_drewN _ _ _⟩
        · go_wp2
          go_ret
          have : decide (xs = ys) = true := by
            apply decide_eq_true
            have h1 := HT.out
            have h2 := HN.out
            have h3 := HM.out
            rwa [List.take_of_length_le (by omega), List.take_of_length_le (by omega)] at h1
          exact ⟨by rw [this]; rfl, q, rfl⟩
  · go_enter Try.func37, Try.ntmps37
    go_wp2
    go_ret
    have : decide (xs = ys) = false := by
      apply decide_eq_false
      intro h; subst h; omega
    exact ⟨by rw [this]; rfl, 0, rfl⟩

end Go.Proofs.Qxb6602743a
