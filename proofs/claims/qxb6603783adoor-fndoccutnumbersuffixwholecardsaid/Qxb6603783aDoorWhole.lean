/-
  WALK: FnDocCutNumberSuffixWhole.
-/
import Derived.Test.Qxb6603783aDoorCutNo
import Derived.Test.Qxb6603783aDoorCmp
import Derived.Test.Qxb6603783aDoorRound
namespace Go.Proofs.Qxb6603783aDoor
open Go.RowKit

theorem zzb_cut_yes (a : Option Addr) (n c : Nat) (s : ByteArray) (b : Int) (w : World) (h : n + s.size ≤ 1048576) :
    Calls Tryd.prog 13 #[.slice a n c, .string s, .int .i64 b] w fun e w' => e = .returned (.bool true) ∧ w' = w := by
  go_enter Tryd.func13, Tryd.ntmps13
  go_wp2
  go_ret
  exact ⟨rfl, rfl⟩

theorem zzb_cut_no (a : Option Addr) (n c : Nat) (s : ByteArray) (b : Int) (w : World) (h : ¬ n + s.size ≤ 1048576) (hn : n ≤ 9223372036854775807) (hs : s.size ≤ 9223372036854775807) :
    Calls Tryd.prog 13 #[.slice a n c, .string s, .int .i64 b] w fun e w' => e = .returned (.bool false) ∧ w' = w := by
  by_cases h1 : n ≤ 1048576
  · by_cases h2 : s.size ≤ 1048576
    · go_enter Tryd.func13, Tryd.ntmps13
      go_wp2
      go_ret
      exact ⟨rfl, rfl⟩
    · go_enter Tryd.func13, Tryd.ntmps13
      go_wp2
      go_ret
      exact ⟨rfl, rfl⟩
  · go_enter Tryd.func13, Tryd.ntmps13
    go_wp2
    go_ret
    exact ⟨rfl, rfl⟩

theorem cutF_next (j : Nat) (zs : List Int) : cutF (j + 1) zs = if isDig (zs.getD j 0) = true then cutF j zs else j + 1 := by
  conv => lhs; unfold cutF

set_option maxRecDepth 100000 in
set_option maxHeartbeats 2000000 in
/-- No number at the end. -/
theorem whole_no (a : Option Addr) (n c : Nat) (zs : List Int) (name : ByteArray) (b : Int) (w : World) (hn : zs.length = n) (hrd : Rd w a zs) (ha : a = none → n = 0) (hsz : n + name.size ≤ 1048576)
    (I : Nat) (hI : cutAt zs = I) (hno : I = n ∨ (I + 1 < n ∧ zs.getD I 0 = 48)) :
    Calls Tryd.prog 4 #[.slice a n c, .string name, .int .i64 b] w fun e w' => e = .returned (.bool true) ∧ Below w.heap.size w w' := by
  have he := fun wx => Lib.run_eql_slice_nil (P := Tryd.prog) wx 22 5 none 0 0 0 0 Tryd.underlying22
  have HN : Hid (zs.length = n) := hn
  have HI : Hid (cutAt zs = I) := hI
  have HNO : Hid (I = n ∨ (I + 1 < n ∧ zs.getD I 0 = 48)) := hno
  have d1 : decide ((1048576 : Int) < (n : Int)) = false := decide_eq_false (by omega)
  have d2 : decide ((1048576 : Int) < (name.size : Int)) = false := decide_eq_false (by omega)
  have d3 : decide ((1048576 : Int) < (n : Int) + (name.size : Int)) = false := decide_eq_false (by omega)
  clear hn hI hno
  go_enter Tryd.func4, Tryd.ntmps4
  go_wp2_with (go_at_call 13; refine (zzb_cut_yes _ _ _ _ _ _ hsz).mono ?_; rintro e w' ⟨rfl, rfl⟩)
  refine (clone_any a n c zs _ HN.out hrd ha (by omega)).mono ?_
  rintro e w1 ⟨a1, rfl, hrd1, ha1, hb1⟩
  have HB1 := hid hb1
  by_cases hz : n ≤ 0
  · have hn0 : n = 0 := by omega
    have HR1 := hid hrd1
    clear hrd ha hrd1 hb1 hz
    subst hn0
    go_wp2_with fail
    refine (zzcut_any _ name b w1 _ _ _ (fun w' => w' = w1) (cutnum_no a1 0 zs name b w1 HN.out HR1.out (by omega) I HI.out HNO.out)).mono ?_
    rintro e w2 ⟨hw2, rfl⟩
    subst hw2
    go_wp2
    refine wp_loop_rounds 1 ?_
    rw [rounds_succ]
    go_wp2
    go_ret
    exact ⟨by simp, HB1.out⟩
  · obtain ⟨b1, o1, ea, hc⟩ := hrd1.at (by rw [HN.out]; omega)
    subst ea
    have HC : Hid _ := hc
    have HR1 := hid hrd1
    clear hrd ha hrd1 hb1 hc ha1
    go_wp2_with fail
    refine (zzcut_any _ name b w1 _ _ _ (fun w' => w' = w1) (cutnum_no _ n zs name b w1 HN.out HR1.out (by omega) I HI.out HNO.out)).mono ?_
    rintro e w2 ⟨hw2, rfl⟩
    subst hw2
    go_wp2
    go_loop [10, 11] (fun x y => ∃ j s : Nat, j ≤ n ∧ y = .int .i64 j ∧ x = .int .i64 s ∧ s ≤ j ∧ Hid (cutF j zs = s)) (fun _ y => n - (intOf y).toNat)
    case atStart => exact ⟨0, 0, Nat.zero_le _, rfl, rfl, Nat.le_refl _, rfl⟩
    case round =>
      obtain ⟨j, s, hj, rfl, rfl, hsj, HS⟩ := hrel
      by_cases hlt : j < n
      · have g := HC.out j (by rw [HN.out]; exact hlt)
        have hnx := cutF_next j zs
        by_cases hd : isDig (zs.getD j 0) = true
        · rw [if_pos hd] at hnx
          have HNX : Hid (cutF (j + 1) zs = s) := by show _ = _; rw [hnx]; exact HS.out
          clear hnx
          generalize zs.getD j 0 = v at g hd
          go_wp2_with (go_at_call 14; refine (isDig_any _ _).mono ?_; rintro e w' ⟨rfl, rfl⟩)
          go_round
          case rel => exact ⟨j + 1, s, by omega, by go_num, rfl, by omega, HNX⟩
          case measure => simp [intOf]; omega
        · rw [if_neg hd] at hnx
          have HNX : Hid (cutF (j + 1) zs = j + 1) := hnx
          have hd' : isDig (zs.getD j 0) = false := by simpa using hd
          clear hnx hd
          generalize zs.getD j 0 = v at g hd'
          go_wp2_with (go_at_call 14; refine (isDig_any _ _).mono ?_; rintro e w' ⟨rfl, rfl⟩)
          go_round
          case rel => exact ⟨j + 1, j + 1, by omega, by go_num, by go_num, by omega, HNX⟩
          case measure => simp [intOf]; omega
      · have hs : s = I := by rw [← HS.out, ← HI.out]; unfold cutAt; rw [HN.out, show j = n by omega]
        subst hs
        rcases HNO.out with hq | ⟨hq, hq2⟩
        · have q0 : n ≤ s := by omega
          have z0 : (((n - s : Nat) : Int) == 0) = true := by rw [beq_iff_eq]; omega
          clear hq HS
          go_wp2
          go_ret
          exact ⟨by simp, HB1.out⟩
        · have g := HC.out s (by rw [HN.out]; omega)
          rw [hq2] at g
          have z0 : (((n - s : Nat) : Int) == 0) = false := by rw [beq_eq_false_iff_ne]; omega
          have z1 : (1 : Int) < ((n - s : Nat) : Int) := by omega
          clear hq2 HS
          go_wp2
          go_ret
          exact ⟨by simp, HB1.out⟩
end Go.Proofs.Qxb6603783aDoor
