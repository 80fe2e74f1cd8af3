/-
  WALKS: decimal, renderI, and the two laws over them.
-/
import Derived.Test.Qxb6602743aDec
namespace Go.Proofs.Qxb6602743a
open Go.RowKit

theorem toList_nums (s : ByteArray) : s.toList.map (fun b => (b.toNat : Int)) = nums s := by rw [ByteArray.toList_eq]; rfl
theorem nums_inj {s t : ByteArray} (h : nums s = nums t) : s = t := by
  have h2 : s.data.toList = t.data.toList := by
    unfold nums at h
    refine List.map_inj_right (fun a b e => ?_) |>.1 h
    have : a.toNat = b.toNat := by omega
    exact UInt8.toNat_inj.1 this
  cases s; cases t
  simpa using h2
theorem toList_eq_lit (s : ByteArray) (l : List UInt8) : (s.toList == l) = decide (nums s = l.map (fun b => (b.toNat : Int))) := by
  rw [Bool.eq_iff_iff, beq_iff_eq, decide_eq_true_iff]
  constructor
  · intro h; rw [← toList_nums, h]
  · intro h
    have : nums s = nums ⟨l.toArray⟩ := by rw [h]; simp [nums]
    have := nums_inj this
    rw [this, ByteArray.toList_eq]
theorem empty_iff (s : ByteArray) : s.toList.isEmpty = decide (s.size = 0) := by
  rw [Bool.eq_iff_iff, decide_eq_true_iff, List.isEmpty_iff, ← List.length_eq_zero_iff]
  have : s.toList.length = s.size := by rw [ByteArray.toList_eq]; rfl
  omega

set_option maxHeartbeats 400000 in
theorem decimal_yes (s : ByteArray) (w : World) (h : DecP (nums s)) : Calls Try.prog 34 #[.string s] w fun e w' => e = .returned (.bool true) ∧ w' = w := by
  rcases h with h | ⟨h1, h2, h3, h4⟩
  · have he : (s.toList == [48]) = true := by rw [toList_eq_lit, decide_eq_true_iff, h]; rfl
    go_enter Try.func34, Try.ntmps34
    go_wp2
    go_ret
    exact ⟨rfl, rfl⟩
  · rw [nums_len] at h1 h2
    have h3' : ¬ ((s[0]'h1).toNat : Int) = 48 := by simpa [List.getD, nums_get s 0 h1] using h3
    have he : (s.toList == [48]) = false := by
      rw [toList_eq_lit, decide_eq_false_iff_not]
      intro h; rw [h] at h3; simp at h3
    have hem : s.toList.isEmpty = false := by rw [empty_iff]; exact decide_eq_false (by omega)
    have hb0 : (((s[0]'h1).toNat : Int) == 48) = false := by simpa using h3'
    have hd18 : decide ((18 : Int) < (s.size : Int)) = false := decide_eq_false (by omega)
    have HD : Hid (AllDig (nums s)) := h4
    clear h3 h4 h3'
    go_enter Try.func34, Try.ntmps34
    go_wp2
    go_loop [3] (fun i => ∃ k : Nat, k ≤ s.size ∧ i = .int .i64 k) (fun i => s.size - (intOf i).toNat)
    case atStart => exact ⟨0, Nat.zero_le _, rfl⟩
    case round =>
      obtain ⟨k, hk, rfl⟩ := hrel
      by_cases hlt : k < s.size
      · have hc := HD.out ((s[k]).toNat : Int) (List.mem_of_getElem? (nums_get s k hlt))
        have hc1 : decide (((s[k]).toNat : Int) < 48) = false := decide_eq_false (by omega)
        have hc2 : decide (57 < ((s[k]).toNat : Int)) = false := decide_eq_false (by omega)
        clear hc
        go_wp2
        go_round
        case rel => exact ⟨k + 1, by omega, by go_num⟩
        case measure => simp [intOf]; omega
      · go_wp2
        go_ret
        exact ⟨rfl, rfl⟩

set_option maxHeartbeats 400000 in
theorem decimal_no (s : ByteArray) (w : World) (hs : s.size ≤ 140737488355328) (h : ¬ DecP (nums s)) : Calls Try.prog 34 #[.string s] w fun e w' => e = .returned (.bool false) ∧ w' = w := by
  have he : (s.toList == [48]) = false := by
    rw [toList_eq_lit, decide_eq_false_iff_not]
    intro e; exact h (.inl e)
  by_cases h0 : s.size = 0
  · have hem : s.toList.isEmpty = true := by rw [empty_iff]; exact decide_eq_true h0
    clear h
    go_enter Try.func34, Try.ntmps34
    go_wp2
    go_ret
    exact ⟨rfl, rfl⟩
  have hem : s.toList.isEmpty = false := by rw [empty_iff]; exact decide_eq_false h0
  by_cases h18 : 18 < s.size
  · have hd18 : (18 : Int) < (s.size : Int) := by omega
    clear h
    go_enter Try.func34, Try.ntmps34
    go_wp2
    go_ret
    exact ⟨rfl, rfl⟩
  have hd18 : decide ((18 : Int) < (s.size : Int)) = false := decide_eq_false (by omega)
  have hp : 0 < s.size := by omega
  by_cases h48 : ((s[0]'hp).toNat : Int) = 48
  · have hb0 : (((s[0]'hp).toNat : Int) == 48) = true := by simpa using h48
    clear h h48
    go_enter Try.func34, Try.ntmps34
    go_wp2
    go_ret
    exact ⟨rfl, rfl⟩
  have hb0 : (((s[0]'hp).toNat : Int) == 48) = false := by simpa using h48
  have hnd : ¬ AllDig (nums s) := by
    intro hd
    refine h (.inr ⟨by rw [nums_len]; omega, by rw [nums_len]; omega, ?_, hd⟩)
    simpa [List.getD, nums_get s 0 hp] using h48
  have HND : Hid (¬ AllDig (nums s)) := hnd
  clear h hnd h48
  go_enter Try.func34, Try.ntmps34
  go_wp2
  go_loop [3] (fun i => ∃ k : Nat, k ≤ s.size ∧ i = .int .i64 k ∧ Hid (AllDig ((nums s).take k))) (fun i => s.size - (intOf i).toNat)
  case atStart => exact ⟨0, Nat.zero_le _, rfl, fun c hc => by simp at hc⟩
  case round =>
    obtain ⟨k, hk, rfl, HT⟩ := hrel
    by_cases hlt : k < s.size
    · have hts := take_succ_nums s k hlt
      by_cases hdig : 48 ≤ ((s[k]).toNat : Int) ∧ ((s[k]).toNat : Int) ≤ 57
      · have hnx : Hid (AllDig ((nums s).take (k + 1))) := by
          show AllDig _
          rw [hts]
          intro c hc
          rcases List.mem_append.1 hc with hc | hc
          · exact HT.out c hc
          · simp at hc; rw [hc]; exact hdig
        have hc1 : decide (((s[k]).toNat : Int) < 48) = false := decide_eq_false (by omega)
        have hc2 : decide (57 < ((s[k]).toNat : Int)) = false := decide_eq_false (by omega)
        clear hts hdig HT
        go_wp2
        go_round
        case rel => exact ⟨k + 1, by omega, by go_num, hnx⟩
        case measure => simp [intOf]; omega
      · clear hts HT
        by_cases hc1 : ((s[k]).toNat : Int) < 48
        · clear hdig
          go_wp2
          go_ret
          exact ⟨rfl, rfl⟩
        · have hc1' : decide (((s[k]).toNat : Int) < 48) = false := decide_eq_false hc1
          have hc2 : 57 < ((s[k]).toNat : Int) := by omega
          clear hdig
          go_wp2
          go_ret
          exact ⟨rfl, rfl⟩
    · have hT := HT.out
      rw [List.take_of_length_le (by rw [nums_len]; omega)] at hT
      exact absurd hT HND.out

theorem zzdec_yes (s : ByteArray) (w : World) (h : DecP (nums s)) : Calls Try.prog 24 #[.string s] w fun e w' => e = .returned (.bool true) ∧ w' = w := by
  go_enter Try.func24, Try.ntmps24
  go_wp2_with (go_at_call 34; refine (decimal_yes s _ h).mono ?_; rintro e w' ⟨rfl, rfl⟩)
  go_ret
  exact ⟨rfl, rfl⟩
theorem zzdec_no (s : ByteArray) (w : World) (hs : s.size ≤ 140737488355328) (h : ¬ DecP (nums s)) : Calls Try.prog 24 #[.string s] w fun e w' => e = .returned (.bool false) ∧ w' = w := by
  go_enter Try.func24, Try.ntmps24
  go_wp2_with (go_at_call 34; refine (decimal_no s _ hs h).mono ?_; rintro e w' ⟨rfl, rfl⟩)
  go_ret
  exact ⟨rfl, rfl⟩

theorem utoa_bytes (n : Nat) : Bytes (utoa n) := fun c hc => by have := utoa_dig n c hc; omega

theorem renderI_pos (n : Int) (w : World) (h0 : 0 ≤ n) (h1 : n ≤ 9223372036854775807) :
    Calls Try.prog 25 #[.int .i64 n] w fun e w' => e = .returned (.string (strOfNums (utoa n.toNat))) ∧ Below w.heap.size w w' := by
  obtain ⟨m, rfl⟩ := Int.eq_ofNat_of_zero_le h0
  rw [Int.toNat_natCast]
  go_enter Try.func25, Try.ntmps25
  go_wp2_with fail
  refine (renderU_any m w (by omega)).mono ?_
  rintro e w1 ⟨rfl, hb⟩
  go_wp2
  go_ret
  exact ⟨rfl, hb⟩

theorem renderI_neg (n : Int) (w : World) (h0 : n < 0) (h1 : -9223372036854775808 ≤ n) :
    Calls Try.prog 25 #[.int .i64 n] w fun e w' => ∃ s, e = .returned (.string s) ∧ s.size ≤ 21 ∧ nums s = 45 :: utoa (-n).toNat ∧ Below w.heap.size w w' := by
  obtain ⟨m, hm⟩ := Int.eq_ofNat_of_zero_le (show 0 ≤ -n by omega)
  have hw : IntKind.u64.wrap (-IntKind.u64.wrap n) = (m : Int) := by
    rw [IntKind.wrap_u64, IntKind.wrap_u64]; omega
  rw [show (-n).toNat = m by omega]
  have hm64 : m < 18446744073709551616 := by omega
  have hl := utoa_len m
  have HM := hid hm
  clear hm
  go_enter Try.func25, Try.ntmps25
  go_wp2_with fail
  refine (renderU_any m w hm64).mono ?_
  rintro e w1 ⟨rfl, hb⟩
  have hS : (strOfNums (utoa m)).size = (utoa m).length := strOfNums_size _
  have hN := nums_strOf (utoa m) (utoa_bytes m)
  generalize strOfNums (utoa m) = S at hS hN ⊢
  have hS' : S.size ≤ 20 := by omega
  have HN := hid hN
  clear hS hN hw
  go_wp2
  go_ret
  refine ⟨_, rfl, ?_, ?_, hb⟩
  · simp [ByteArray.size_append]; show 1 + S.size ≤ 21; omega
  · rw [← HN.out]
    simp [nums]
end Go.Proofs.Qxb6602743a
