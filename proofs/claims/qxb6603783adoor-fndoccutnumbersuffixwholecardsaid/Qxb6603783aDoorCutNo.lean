/-
  WALK: cutNumberSuffix where no number stands at the end.
-/
import Derived.Test.Qxb6603783aDoorErr
namespace Go.Proofs.Qxb6603783aDoor
open Go.RowKit

set_option maxRecDepth 100000 in
set_option maxHeartbeats 1000000 in
theorem cutnum_no (a : Option Addr) (n : Nat) (zs : List Int) (name : ByteArray) (b : Int) (w : World) (hn : zs.length = n) (hx : Rd w a zs) (hmax : n ≤ 140737488355328)
    (I : Nat) (hI : cutAt zs = I) (hno : I = n ∨ (I + 1 < n ∧ zs.getD I 0 = 48)) :
    Calls Tryd.prog 23 #[.slice a n n, .string name, .int .i64 b] w fun e w' => w' = w ∧ e = .returned (.tuple #[.slice none 0 0, .int .u64 0, .bool false]) := by
  by_cases hz : n = 0
  · clear hx hno hI hn
    subst hz
    go_enter Tryd.func23, Tryd.ntmps23
    go_wp2
    refine wp_loop_rounds 1 ?_
    rw [rounds_succ]
    go_wp2
    go_ret3
    exact ⟨rfl, rfl⟩
  obtain ⟨b1, o1, rfl, hc1⟩ := hx.at (by omega)
  have HN : Hid _ := hn
  have HC : Hid _ := hc1
  have HI : Hid _ := hI
  have HNO : Hid _ := hno
  clear hx hn hc1 hI hno
  go_enter Tryd.func23, Tryd.ntmps23
  go_wp2
  go_loop [9] (fun x => ∃ i : Nat, i ≤ n ∧ x = .int .i64 i ∧ Hid (cutF i zs = I)) (fun x => (intOf x).toNat)
  case atStart => exact ⟨n, Nat.le_refl _, rfl, by show cutF n zs = I; rw [← HI.out]; unfold cutAt; rw [HN.out]⟩
  case round =>
    obtain ⟨i, hi, rfl, HJ⟩ := hrel
    by_cases hgo : 0 < i ∧ isDig (zs.getD (i - 1) 0) = true
    · have hc := HC.out (i - 1) (by rw [HN.out]; omega)
      have hst : Hid (cutF (i - 1) zs = I) := by show _ = _; rw [cutF_step i zs hgo.1 hgo.2]; exact HJ.out
      have hdig := (isDig_iff _).1 hgo.2
      have hpos := hgo.1
      generalize zs.getD (i - 1) 0 = v at hc hdig
      have hv1 := hdig.1
      have hv2 := hdig.2
      clear hgo hdig HJ
      go_wp2
      go_round
      case rel => exact ⟨i - 1, by omega, by go_num, hst⟩
      case measure => simp [intOf]; omega
    · have hiI : i = I := by rw [← cutF_here i zs hgo]; exact HJ.out
      subst hiI
      have hways : (i ≤ 0 ∧ decide ((0 : Int) < (i : Int)) = false) ∨ (0 < i ∧ ∃ v, w.cell? ⟨b1, o1 + (i - 1), none⟩ = some (.int .u8 v) ∧ v < 48 ∧ decide (48 ≤ v) = false) ∨ (0 < i ∧ ∃ v, w.cell? ⟨b1, o1 + (i - 1), none⟩ = some (.int .u8 v) ∧ 48 ≤ v ∧ 57 < v ∧ decide (v ≤ 57) = false) := by
        by_cases h0 : 0 < i
        · have hc := HC.out (i - 1) (by rw [HN.out]; omega)
          have hnd : ¬ (48 ≤ zs.getD (i - 1) 0 ∧ zs.getD (i - 1) 0 ≤ 57) := fun h => hgo ⟨h0, (isDig_iff _).2 h⟩
          by_cases h48 : 48 ≤ zs.getD (i - 1) 0
          · exact .inr (.inr ⟨h0, _, hc, h48, by omega, decide_eq_false (by omega)⟩)
          · exact .inr (.inl ⟨h0, _, hc, by omega, decide_eq_false (by omega)⟩)
        · exact .inl ⟨by omega, decide_eq_false (by omega)⟩
      clear hgo HJ
      rcases HNO.out with hq | ⟨hq, hq2⟩
      · have q0 : n ≤ i := by omega
        have z0 : (((n - i : Nat) : Int) == 0) = true := by rw [beq_iff_eq]; omega
        clear hq
        rcases hways with ⟨hz, hd⟩ | ⟨hp, v, hcv, hv1, hv2⟩ | ⟨hp, v, hcv, hv1, hv2, hv3⟩
        all_goals
          go_wp2
          all_goals first | (go_ret3; exact ⟨rfl, rfl⟩) | omega
      · have hcI := HC.out i (by rw [HN.out]; omega)
        rw [hq2] at hcI
        have z0 : (((n - i : Nat) : Int) == 0) = false := by rw [beq_eq_false_iff_ne]; omega
        have z1 : (1 : Int) < ((n - i : Nat) : Int) := by omega
        clear hq2
        rcases hways with ⟨hz, hd⟩ | ⟨hp, v, hcv, hv1, hv2⟩ | ⟨hp, v, hcv, hv1, hv2, hv3⟩
        all_goals
          go_wp2
          go_ret3
          exact ⟨rfl, rfl⟩
end Go.Proofs.Qxb6603783aDoor
