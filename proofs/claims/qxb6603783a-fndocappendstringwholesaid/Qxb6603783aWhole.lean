/-
  WALK: FnDocAppendStringWhole.
-/
import Derived.Test.Qxb6603783aSplits
import Derived.Test.Qxb6603783aRead
namespace Go.Proofs.Qxb6603783a
open Go.RowKit

theorem zzb_whole_yes (a : Option Addr) (n c : Nat) (s : ByteArray) (w : World) (h : n + s.size ≤ 1048576) :
    Calls Try.prog 5 #[.slice a n c, .string s] w fun e w' => e = .returned (.bool true) ∧ w' = w := by
  go_enter Try.func5, Try.ntmps5
  go_wp2
  go_ret
  exact ⟨rfl, rfl⟩

theorem zzb_whole_no (a : Option Addr) (n c : Nat) (s : ByteArray) (w : World) (h : ¬ n + s.size ≤ 1048576) (hn : n ≤ 9223372036854775807) (hs : s.size ≤ 9223372036854775807) :
    Calls Try.prog 5 #[.slice a n c, .string s] w fun e w' => e = .returned (.bool false) ∧ w' = w := by
  by_cases h1 : n ≤ 1048576
  · by_cases h2 : s.size ≤ 1048576
    · go_enter Try.func5, Try.ntmps5
      go_wp2
      go_ret
      exact ⟨rfl, rfl⟩
    · go_enter Try.func5, Try.ntmps5
      go_wp2
      go_ret
      exact ⟨rfl, rfl⟩
  · go_enter Try.func5, Try.ntmps5
    go_wp2
    go_ret
    exact ⟨rfl, rfl⟩

set_option maxHeartbeats 1000000 in
theorem whole_good (a : Option Addr) (n c : Nat) (zs : List Int) (s : ByteArray) (w : World) (hn : zs.length = n) (hrd : Rd w a zs) (ha : a = none → n = 0) (hsz : n + s.size ≤ 1048576) :
    Calls Try.prog 3 #[.slice a n c, .string s] w fun e w' => e = .returned (.bool true) ∧ Below w.heap.size w w' := by
  go_enter Try.func3, Try.ntmps3
  go_wp2_with (go_at_call 5; refine (zzb_whole_yes _ _ _ _ _ hsz).mono ?_; rintro e w' ⟨rfl, rfl⟩)
  refine (clone_any a n c zs _ hn hrd ha (by omega)).mono ?_
  rintro e w1 ⟨a1, rfl, hrd1, ha1, hb1⟩
  go_wp2_with fail
  refine (clone_any a1 n n zs _ hn hrd1 ha1 (by omega)).mono ?_
  rintro e w2 ⟨a2, rfl, hrd2, ha2, hb2⟩
  replace hrd1 := hrd1.kept hb2
  replace hb2 := hb1.trans (hb2.mono hb1.size)
  clear hb1 hrd ha
  go_wp2_with fail
  obtain ⟨N, hN⟩ : ∃ N, (zs ++ encStr (nums s)).length = N := ⟨_, rfl⟩
  have HN : Hid _ := hN
  refine (zzapp_any a1 n zs s _ N hn hN hrd1 ha1 (by omega)).mono ?_
  rintro e w3 ⟨g3, c3, rfl, hc3, hm3, hrd3, hb3⟩
  replace hrd2 := hrd2.kept hb3
  replace hb3 := hb2.trans (hb3.mono hb2.size)
  have hN' : n + (encStr (nums s)).length = N := by rw [← hN, List.length_append, hn]
  have hN8 : N ≤ 10000000 := by
    have := encBody_len (nums s)
    rw [nums_len] at this
    rw [← hN', encStr_len]; omega
  have hnN : n ≤ N := by omega
  have HN2 : Hid _ := hN'
  have r1 := hrd3.take n
  rw [show (zs ++ encStr (nums s)).take n = zs from by rw [← hn, List.take_left]] at r1
  have HZ : Hid (zs.length = n) := hn
  have hd : decide ((N : Int) < (n : Int)) = false := decide_eq_false (by omega)
  clear hb2 hrd1 ha1 hN hN' hn
  go_wp2_with fail
  refine (same_yes_b _ _ n c3 n n zs _ HZ.out HZ.out r1 hrd2 (by omega)).mono ?_
  rintro e w6 ⟨rfl, hb6⟩
  replace hrd3 := hrd3.kept hb6
  replace hb6 := hb3.trans (hb6.mono hb3.size)
  clear r1 hb3 hrd2
  go_wp2_with fail
  have hcell : ∀ j, j < N → w6.cell? ⟨g3, 0 + j, none⟩ = some (.int .u8 ((zs ++ encStr (nums s) ++ []).getD j 0)) := by
    intro j hj
    obtain ⟨x, hx, hc⟩ := hrd3 j (by rw [HN.out]; exact hj)
    obtain rfl := Option.some.inj hx
    rw [Addr.add_lit] at hc
    rw [hc, List.append_nil]
  refine (read_any g3 0 N c3 n zs [] s _ HZ.out (by rw [List.append_nil]; exact HN.out) (by omega) hcell).mono ?_
  rintro e w7 ⟨rfl, rfl⟩
  rw [HN2.out]
  clear hcell hrd3
  go_wp2
  go_ret
  exact ⟨by simp, hb6⟩
end Go.Proofs.Qxb6603783a
