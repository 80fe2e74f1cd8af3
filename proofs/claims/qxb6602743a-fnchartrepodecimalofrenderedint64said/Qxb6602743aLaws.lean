/-
  WALKS: FnChartrepoDecimalOfRenderedInt64, FnChartrepoDecimalMatchesParseRender.
-/
import Derived.Test.Qxb6602743aDecimal
namespace Go.Proofs.Qxb6602743a
open Go.RowKit

theorem rendered_any (n : Int) (w : World) (h0 : -9223372036854775808 ≤ n) (h1 : n ≤ 9223372036854775807) :
    Calls Try.prog 6 #[.int .i64 n] w fun e w' => e = .returned (.bool true) ∧ Below w.heap.size w w' := by
  by_cases hn : n < 0
  · have hd : decide (0 ≤ n) = false := decide_eq_false (by omega)
    go_enter Try.func6, Try.ntmps6
    go_wp2_with fail
    refine (renderI_neg n w hn h0).mono ?_
    rintro e w1 ⟨s, rfl, hs, hnum, hb⟩
    have HNUM := hid hnum
    clear hnum
    go_wp2_with fail
    refine (zzdec_no s w1 (by omega) (by rw [HNUM.out]; exact dec_minus _)).mono ?_
    rintro e w2 ⟨rfl, rfl⟩
    go_wp2
    go_ret
    exact ⟨rfl, hb⟩
  · obtain ⟨m, rfl⟩ := Int.eq_ofNat_of_zero_le (show 0 ≤ n by omega)
    have hpos : (0 : Int) ≤ (m : Int) := by omega
    have hN := nums_strOf (utoa m) (utoa_bytes m)
    have hS : (strOfNums (utoa m)).size ≤ 20 := by rw [strOfNums_size]; exact (utoa_len m).2
    have hr := renderI_pos (m : Int) w hpos h1
    rw [Int.toNat_natCast] at hr
    generalize strOfNums (utoa m) = S at hN hS hr
    have HN := hid hN
    clear hN
    by_cases hlt : m < 1000000000000000000
    · have hlt' : (m : Int) < 1000000000000000000 := by omega
      have hdec : Hid (DecP (nums S)) := by show DecP _; rw [HN.out]; exact (dec_render m (by omega)).2 hlt
      go_enter Try.func6, Try.ntmps6
      go_wp2_with fail
      refine hr.mono ?_
      rintro e w1 ⟨rfl, hb⟩
      go_wp2_with fail
      refine (zzdec_yes S w1 hdec.out).mono ?_
      rintro e w2 ⟨rfl, rfl⟩
      go_wp2
      go_ret
      exact ⟨by simp, hb⟩
    · have hlt' : decide ((m : Int) < 1000000000000000000) = false := decide_eq_false (by omega)
      have hdec : Hid (¬ DecP (nums S)) := by show ¬ DecP _; rw [HN.out, dec_render m (by omega)]; exact hlt
      go_enter Try.func6, Try.ntmps6
      go_wp2_with fail
      refine hr.mono ?_
      rintro e w1 ⟨rfl, hb⟩
      go_wp2_with fail
      refine (zzdec_no S w1 (by omega) hdec.out).mono ?_
      rintro e w2 ⟨rfl, rfl⟩
      go_wp2
      go_ret
      exact ⟨by simp, hb⟩

theorem zzb_dec_yes (s : ByteArray) (w : World) (h : s.size ≤ 1048576) : Calls Try.prog 22 #[.string s] w fun e w' => e = .returned (.bool true) ∧ w' = w := by
  go_enter Try.func22, Try.ntmps22
  go_wp2
  go_ret
  exact ⟨rfl, rfl⟩
theorem zzb_dec_no (s : ByteArray) (w : World) (h : ¬ s.size ≤ 1048576) (h2 : s.size ≤ 9223372036854775807) : Calls Try.prog 22 #[.string s] w fun e w' => e = .returned (.bool false) ∧ w' = w := by
  go_enter Try.func22, Try.ntmps22
  go_wp2
  go_ret
  exact ⟨rfl, rfl⟩

theorem strEq_iff (n : Nat) (s : ByteArray) : ((strOfNums (utoa n)).toList == s.toList) = decide (utoa n = nums s) := by
  rw [Bool.eq_iff_iff, beq_iff_eq, decide_eq_true_iff]
  constructor
  · intro h
    have := congrArg (fun l : List UInt8 => l.map (fun b => (b.toNat : Int))) h
    simp only [toList_nums] at this
    rwa [nums_strOf _ (utoa_bytes n)] at this
  · intro h
    have : nums (strOfNums (utoa n)) = nums s := by rw [nums_strOf _ (utoa_bytes n), h]
    rw [nums_inj this]

set_option maxRecDepth 100000 in
set_option maxHeartbeats 1000000 in
theorem matches_any (s : ByteArray) (w : World) (hs : s.size ≤ 9223372036854775807) :
    Calls Try.prog 5 #[.string s] w fun e w' => e = .returned (.bool true) ∧ Below w.heap.size w w' := by
  by_cases hsz : ¬ s.size ≤ 1048576
  · go_enter Try.func5, Try.ntmps5
    go_wp2_with (go_at_call 22; refine (zzb_dec_no _ _ hsz hs).mono ?_; rintro e w' ⟨rfl, rfl⟩)
    go_ret
    exact ⟨rfl, Below.refl _ _⟩
  have hsz' : s.size ≤ 1048576 := by omega
  clear hsz
  by_cases h0 : s.size = 0
  · have hd : decide ((1 : Int) ≤ (s.size : Int)) = false := decide_eq_false (by omega)
    have hno : Hid (¬ DecP (nums s)) := by
      show ¬ DecP _
      rw [decP_iff]; rintro ⟨⟨_, h, _⟩, _⟩; rw [nums_len] at h; omega
    have h0' : s.size ≤ 0 := by omega
    clear h0
    go_enter Try.func5, Try.ntmps5
    go_wp2_with (first | (go_at_call 22; refine (zzb_dec_yes _ _ hsz').mono ?_; rintro e w' ⟨rfl, rfl⟩) | (go_at_call 24; refine (zzdec_no s _ (by omega) hno.out).mono ?_; rintro e w' ⟨rfl, rfl⟩))
    go_ret
    exact ⟨rfl, Below.refl _ _⟩
  have h1 : (1 : Int) ≤ (s.size : Int) := by omega
  by_cases h19 : 19 < s.size
  · have hd : decide ((s.size : Int) ≤ 19) = false := decide_eq_false (by omega)
    have hno : Hid (¬ DecP (nums s)) := by
      show ¬ DecP _
      rw [decP_iff]; rintro ⟨_, h⟩; rw [nums_len] at h; omega
    go_enter Try.func5, Try.ntmps5
    go_wp2_with (first | (go_at_call 22; refine (zzb_dec_yes _ _ hsz').mono ?_; rintro e w' ⟨rfl, rfl⟩) | (go_at_call 24; refine (zzdec_no s _ (by omega) hno.out).mono ?_; rintro e w' ⟨rfl, rfl⟩))
    go_ret
    exact ⟨rfl, Below.refl _ _⟩
  have h19' : (s.size : Int) ≤ 19 := by omega
  have hd20 : decide ((1048576 : Int) < (s.size : Int)) = false := decide_eq_false (by omega)
  clear h0 h19
  go_enter Try.func5, Try.ntmps5
  go_wp2_with (go_at_call 22; refine (zzb_dec_yes _ _ hsz').mono ?_; rintro e w' ⟨rfl, rfl⟩)
  go_loop [4, 5, 6] (fun x y i => ∃ (k : Nat) (u : Int), k ≤ s.size ∧ x = .int .u64 u ∧ y = .bool true ∧ i = .int .i64 k ∧ Hid ((dv ((nums s).take k) : Int) = u ∧ AllDig ((nums s).take k)) ∧ 0 ≤ u ∧ Hid (u < 10 ^ k)) (fun _ _ i => s.size - (intOf i).toNat)
  case atStart => exact ⟨0, 0, Nat.zero_le _, rfl, rfl, rfl, ⟨rfl, fun c hc => by simp at hc⟩, by omega, by show (0 : Int) < 10 ^ 0; decide⟩
  case round =>
    obtain ⟨k, u, hk, rfl, rfl, rfl, HU, hu0, HU2⟩ := hrel
    by_cases hlt : k < s.size
    · by_cases hdig : 48 ≤ ((s[k]).toNat : Int) ∧ ((s[k]).toNat : Int) ≤ 57
      · have hs1 := dv_take_succ (nums s) k (by rw [nums_len]; exact hlt)
        have hgd : (nums s).getD k 0 = ((s[k]).toNat : Int) := by simp [List.getD, nums_get s k hlt]
        rw [hgd] at hs1
        have hnx : Hid ((dv ((nums s).take (k + 1)) : Int) = u * 10 + (((s[k]).toNat : Int) - 48) ∧ AllDig ((nums s).take (k + 1))) := by
          refine ⟨?_, ?_⟩
          · rw [hs1]; have := HU.out.1; omega
          · rw [take_succ_nums s k hlt]
            intro c hc
            rcases List.mem_append.1 hc with hc | hc
            · exact HU.out.2 c hc
            · simp at hc; rw [hc]; exact hdig
        have hu19 : u < 1000000000000000000 := by
          have h2 := HU2.out
          have h3n := Nat.pow_le_pow_right (show 0 < 10 by decide) (show k ≤ 18 by omega)
          have h3 : (10 : Int) ^ k ≤ 10 ^ 18 := by exact_mod_cast h3n
          have h4 : (10 : Int) ^ 18 = 1000000000000000000 := by decide
          omega
        have hnx2 : Hid (u * 10 + (((s[k]).toNat : Int) - 48) < 10 ^ (k + 1)) := by
          show _ < _
          have h2 := HU2.out
          rw [Int.pow_succ]
          omega
        have hc1 : decide (((s[k]).toNat : Int) < 48) = false := decide_eq_false (by omega)
        have hc2 : decide (57 < ((s[k]).toNat : Int)) = false := decide_eq_false (by omega)
        have hc3 := hdig.1
        have hc4 := hdig.2
        clear hs1 hgd hdig HU HU2
        go_wp2
        go_round
        case rel => exact ⟨k + 1, _, by omega, rfl, rfl, by go_num, hnx, by omega, hnx2⟩
        case measure => simp [intOf]; omega
      · have hno : Hid (¬ DecP (nums s)) := by
          show ¬ DecP _
          rw [decP_iff]; rintro ⟨⟨h, _, _⟩, _⟩
          exact hdig (h _ (List.mem_of_getElem? (nums_get s k hlt)))
        clear HU HU2
        by_cases hc1 : ((s[k]).toNat : Int) < 48
        · clear hdig
          go_wp2_with (go_at_call 24; refine (zzdec_no s _ (by omega) hno.out).mono ?_; rintro e w' ⟨rfl, rfl⟩)
          go_ret
          exact ⟨rfl, Below.refl _ _⟩
        · have hc1' : decide (((s[k]).toNat : Int) < 48) = false := decide_eq_false hc1
          have hc2 : 57 < ((s[k]).toNat : Int) := by omega
          clear hdig
          go_wp2_with (go_at_call 24; refine (zzdec_no s _ (by omega) hno.out).mono ?_; rintro e w' ⟨rfl, rfl⟩)
          go_ret
          exact ⟨rfl, Below.refl _ _⟩
    · have hU := HU.out
      rw [List.take_of_length_le (by rw [nums_len]; omega)] at hU
      have hm := dec_matches (nums s) hU.2 (by rw [nums_len]; omega)
      obtain ⟨m, rfl⟩ := Int.eq_ofNat_of_zero_le hu0
      have hdm : dv (nums s) = m := by have := hU.1; omega
      rw [hdm] at hm
      have HM := hid hm
      clear hm hU hdm HU HU2
      by_cases h18 : m < 1000000000000000000
      · have h18' : (m : Int) < 1000000000000000000 := by omega
        have hse := strEq_iff m s
        have hr := fun wx => renderU_any m wx (by omega)
        by_cases heq : utoa m = nums s
        · have hyes : Hid (DecP (nums s)) := HM.out.2 ⟨h18, heq⟩
          rw [decide_eq_true heq] at hse
          generalize strOfNums (utoa m) = S at hse hr
          clear heq HM
          go_wp2_with fail
          refine (hr _).mono ?_
          rintro e w3 ⟨rfl, hb⟩
          go_wp2_with (go_at_call 24; refine (zzdec_yes s _ hyes.out).mono ?_; rintro e w' ⟨rfl, rfl⟩)
          go_ret
          exact ⟨rfl, hb⟩
        · have hno : Hid (¬ DecP (nums s)) := fun h => heq (HM.out.1 h).2
          rw [decide_eq_false heq] at hse
          generalize strOfNums (utoa m) = S at hse hr
          clear heq HM
          go_wp2_with fail
          refine (hr _).mono ?_
          rintro e w3 ⟨rfl, hb⟩
          go_wp2_with (go_at_call 24; refine (zzdec_no s _ (by omega) hno.out).mono ?_; rintro e w' ⟨rfl, rfl⟩)
          go_ret
          exact ⟨rfl, hb⟩
      · have h18' : decide ((m : Int) < 1000000000000000000) = false := decide_eq_false (by omega)
        have hno : Hid (¬ DecP (nums s)) := fun h => h18 (HM.out.1 h).1
        clear HM
        go_wp2_with (go_at_call 24; refine (zzdec_no s _ (by omega) hno.out).mono ?_; rintro e w' ⟨rfl, rfl⟩)
        go_ret
        exact ⟨by simp, Below.refl _ _⟩
end Go.Proofs.Qxb6602743a
