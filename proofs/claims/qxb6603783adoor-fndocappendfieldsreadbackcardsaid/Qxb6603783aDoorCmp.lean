/-
  WALKS: docB1decimalExceeds, docB1decimalValue, docB1sameBytesString.
-/
import Derived.Test.Qxb6603783aDoorSmall
import Derived.Test.Qxb6603783aDoorDec2
namespace Go.Proofs.Qxb6603783aDoor
open Go.RowKit

set_option maxHeartbeats 400000 in
theorem exc_any (a b : Option Addr) (n c m d : Nat) (xs ys : List Int) (w : World) (hn : xs.length = n) (hm : ys.length = m) (hx : Rd w a xs) (hy : Rd w b ys) (hmax : n ≤ 140737488355328) (h0 : 0 < n) :
    Calls Tryd.prog 16 #[.slice a n c, .slice b m d] w fun e w' => e = .returned (.bool (exc xs ys)) ∧ Below w.heap.size w w' := by
  by_cases hnm : n = m
  · have hE : exc xs ys = lexGt (xs.drop 0) (ys.drop 0) := by unfold exc; rw [if_pos (by omega)]; rfl
    rw [hE]
    subst hnm
    obtain ⟨b1, o1, rfl, hc1⟩ := hx.at (by omega)
    obtain ⟨b2, o2, rfl, hc2⟩ := hy.at (by omega)
    have HN : Hid (xs.length = n) := hn
    have HM : Hid (ys.length = n) := hm
    rw [hn] at hc1
    rw [hm] at hc2
    clear hx hy hn hm hE
    generalize hR : lexGt (xs.drop 0) (ys.drop 0) = R
    have HR : Hid _ := hR
    clear hR
    go_enter Tryd.func16, Tryd.ntmps16
    go_wp2
    go_loopw [5] (fun i wr => ∃ k : Nat, k ≤ n ∧ i = .int .i64 k ∧ Hid (lexGt (xs.drop k) (ys.drop k) = R) ∧ ∃ q, wr = w.drewN q) (fun i _ => n - (intOf i).toNat)
    case atStart => exact ⟨0, Nat.zero_le _, rfl, HR.out, 0, rfl⟩
    case round =>
      obtain ⟨k, hk, rfl, HT, q, rfl⟩ := hrel
      by_cases hlt : k < n
      · have g1 := hc1 k hlt
        have g2 := hc2 k hlt
        have hst := lexGt_step xs ys k (by rw [HN.out]; exact hlt) (by rw [HM.out]; exact hlt)
        rw [HT.out] at hst
        have HST : Hid _ := hst
        clear hc1 hc2 hst HT
        generalize xs.getD k 0 = x at g1 HST
        generalize ys.getD k 0 = y at g2 HST
        by_cases he : x = y
        · have hs2 : Hid (lexGt (xs.drop (k + 1)) (ys.drop (k + 1)) = R) := by have := HST.out; rw [if_pos he] at this; exact this.symm
          have he' : (x != y) = false := by simpa using he
          clear HST he
          go_wp2
          go_quiet (fail)
          go_wp2
          go_roundw
          case rel => exact ⟨k + 1, by omega, by go_num, hs2, _, rfl⟩
          case measure => simp [intOf]; omega
        · have hs2 : Hid (R = decide (y < x)) := by have := HST.out; rw [if_neg he] at this; exact this
          have he' : (x != y) = true := by simpa using he
          clear HST he
          go_wp2
          go_quiet (fail)
          go_wp2
          go_quiet (fail)
          go_wp2
          go_ret
          refine ⟨by rw [hs2.out]; rfl, ?_⟩
          exact ⟨rfl, rfl, rfl, Nat.le_refl _, fun _ _ => rfl⟩
      · have hend : Hid (R = false) := by
          have := HT.out
          rw [lexGt_end xs ys k (by rw [HN.out]; omega)] at this
          exact this.symm
        go_wp2
        go_ret
        exact ⟨by rw [hend.out]; rfl, ⟨rfl, rfl, rfl, Nat.le_refl _, fun _ _ => rfl⟩⟩
  · have hE : exc xs ys = decide (m < n) := by unfold exc; rw [if_neg (by omega), hn, hm]
    rw [hE]
    clear hE hx hy hn hm
    go_enter Tryd.func16, Tryd.ntmps16
    go_wp2
    go_ret
    exact ⟨by simp, Below.refl _ _⟩

set_option maxHeartbeats 400000 in
theorem val_any (a : Option Addr) (n c : Nat) (xs : List Int) (w : World) (hn : xs.length = n) (hx : Rd w a xs) (hD : AllDig xs) (hmax : n ≤ 140737488355328) (h0 : 0 < n) (V : Int) (hV : (dv xs : Int) = V) (hle : V ≤ 18446744073709551615) :
    Calls Tryd.prog 18 #[.slice a n c] w fun e w' => e = .returned (.int .u64 V) ∧ w' = w := by
  obtain ⟨b1, o1, rfl, hc1⟩ := hx.at (by omega)
  have HN : Hid (xs.length = n) := hn
  have HD : Hid (AllDig xs) := hD
  have HV : Hid _ := hV
  rw [hn] at hc1
  clear hx hn hV hD
  go_enter Tryd.func18, Tryd.ntmps18
  go_wp2
  go_loop [3, 4] (fun x i => ∃ (k : Nat) (u : Int), k ≤ n ∧ x = .int .u64 u ∧ i = .int .i64 k ∧ Hid ((dv (xs.take k) : Int) = u) ∧ 0 ≤ u) (fun _ i => n - (intOf i).toNat)
  case atStart => exact ⟨0, 0, Nat.zero_le _, rfl, rfl, rfl, by omega⟩
  case round =>
    obtain ⟨k, u, hk, rfl, rfl, HU, hu0⟩ := hrel
    by_cases hlt : k < n
    · have g1 := hc1 k hlt
      have hs := dv_take_succ xs k (by rw [HN.out]; exact hlt)
      have hle2 := dv_take_le xs (k + 1)
      have hcd := HD.out (xs.getD k 0) (by rw [List.getD_eq_getElem?_getD, List.getElem?_eq_getElem (by rw [HN.out]; exact hlt)]; exact List.getElem_mem _)
      generalize xs.getD k 0 = x at g1 hs hcd
      have hs' : (dv (xs.take (k + 1)) : Int) = u * 10 + (x - 48) := by rw [hs]; have := HU.out; omega
      have HS : Hid _ := hs'
      have hx1 := hcd.1
      have hx2 := hcd.2
      have hV2 : u * 10 + (x - 48) ≤ V := by have := HV.out; omega
      clear hc1 hs hcd hle2 hs'
      go_wp2
      go_round
      case rel => exact ⟨k + 1, u * 10 + (x - 48), by omega, by go_num, by go_num, HS.out, by omega⟩
      case measure => simp [intOf]; omega
    · have hend : Hid (V = u) := by
        have h1 := HU.out
        rw [List.take_of_length_le (by rw [HN.out]; omega)] at h1
        rw [← HV.out, h1]; rfl
      go_wp2
      go_ret
      exact ⟨by rw [hend.out]; rfl, rfl⟩

theorem take_eq_nums (xs : List Int) (s : ByteArray) (k : Nat) (h : xs.take k = (nums s).take k) (hx : k < xs.length) (hy : k < s.size) (e : xs.getD k 0 = ((s[k]).toNat : Int)) : xs.take (k + 1) = (nums s).take (k + 1) := by
  refine take_eq_succ xs (nums s) k h hx (by rw [nums_len]; exact hy) ?_
  rw [nums_get s k hy]
  exact e

set_option maxHeartbeats 400000 in
theorem samestr_any (a : Option Addr) (n c : Nat) (xs : List Int) (s : ByteArray) (w : World) (hn : xs.length = n) (hx : Rd w a xs) (hmax : n ≤ 140737488355328) (hms : s.size ≤ 140737488355328) :
    Calls Tryd.prog 9 #[.slice a n c, .string s] w fun e w' => e = .returned (.bool (decide (xs = nums s))) ∧ Below w.heap.size w w' := by
  by_cases hnm : n = s.size
  · by_cases h0 : n = 0
    · have : decide (xs = nums s) = true := by
        apply decide_eq_true
        rw [List.eq_nil_of_length_eq_zero (hn.trans h0), List.eq_nil_of_length_eq_zero ((nums_len s).trans (by omega))]
      have hs0 : s.size ≤ 0 := by omega
      clear hx hnm
      subst h0
      go_enter Tryd.func9, Tryd.ntmps9
      go_wp2
      refine wp_loop_rounds 1 ?_
      rw [rounds_succ]
      go_wp2
      go_ret
      exact ⟨by rw [this]; rfl, Below.refl _ _⟩
    · obtain ⟨b1, o1, rfl, hc1⟩ := hx.at (by omega)
      have HN : Hid (xs.length = n) := hn
      have h1 : n ≤ s.size := by omega
      have h2 : s.size ≤ n := by omega
      rw [hn] at hc1
      clear hx hn hnm
      go_enter Tryd.func9, Tryd.ntmps9
      go_wp2
      go_loopw [5] (fun i wr => ∃ k : Nat, k ≤ n ∧ i = .int .i64 k ∧ Hid (xs.take k = (nums s).take k) ∧ ∃ q, wr = w.drewN q) (fun i _ => n - (intOf i).toNat)
      case atStart => exact ⟨0, Nat.zero_le _, rfl, rfl, 0, rfl⟩
      case round =>
        obtain ⟨k, hk, rfl, HT, q, rfl⟩ := hrel
        by_cases hlt : k < n
        · have g1 := hc1 k hlt
          have hks : k < s.size := by omega
          have hnx := fun h => take_eq_nums xs s k HT.out (by rw [HN.out]; exact hlt) hks h
          have hne : xs.getD k 0 ≠ ((s[k]).toNat : Int) → xs ≠ nums s := by
            intro h e
            apply h
            rw [e]
            simp [List.getD, nums_get s k hks]
          have HNX : Hid _ := hnx
          have HNE : Hid _ := hne
          clear hc1 HT hnx hne
          generalize xs.getD k 0 = x at g1 HNX HNE
          by_cases he : x = ((s[k]).toNat : Int)
          · have hs2 : Hid (xs.take (k + 1) = (nums s).take (k + 1)) := HNX.out he
            clear HNX HNE
            subst he
            go_wp2
            go_quiet (fail)
            go_wp2
            go_roundw
            case rel => exact ⟨k + 1, by omega, by go_num, hs2, _, rfl⟩
            case measure => simp [intOf]; omega
          · have hs2 : Hid (decide (xs = nums s) = false) := decide_eq_false (HNE.out he)
            have he' : (x != ((s[k]).toNat : Int)) = true := by simpa using he
            clear HNX HNE he
            go_wp2
            go_quiet (fail)
            go_wp2
            go_ret
            exact ⟨by rw [hs2.out]; rfl, ⟨rfl, rfl, rfl, Nat.le_refl _, fun _ _ => rfl⟩⟩
        · have : Hid (decide (xs = nums s) = true) := by
            apply decide_eq_true
            have e1 := HT.out
            have e2 := HN.out
            rwa [List.take_of_length_le (by omega), List.take_of_length_le (by rw [nums_len]; omega)] at e1
          go_wp2
          go_ret
          exact ⟨by rw [this.out]; rfl, ⟨rfl, rfl, rfl, Nat.le_refl _, fun _ _ => rfl⟩⟩
  · have hd : Hid (decide (xs = nums s) = false) := by
      apply decide_eq_false
      intro h
      apply hnm
      rw [← hn, h, nums_len]
    clear hx hn
    go_enter Tryd.func9, Tryd.ntmps9
    go_wp2
    go_ret
    exact ⟨by rw [hd.out]; rfl, Below.refl _ _⟩
end Go.Proofs.Qxb6603783aDoor
