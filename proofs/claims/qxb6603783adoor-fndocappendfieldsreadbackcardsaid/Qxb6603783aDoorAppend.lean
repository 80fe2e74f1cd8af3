/-
  WALK: appendString.
-/
import Derived.Test.Qxb6603783aDoorSmall
import Derived.Deep.RegionLaw
namespace Go.Proofs.Qxb6603783aDoor
open Go.RowKit

theorem rel_next (zs : List Int) (s : ByteArray) (k : Nat) (h : k < s.size) {B : Nat} {v : Value} {w w' : World} (news : List Int) (hn : news = encB ((s[k]).toNat : Int))
    (hb : OwnB B v (zs ++ 34 :: encBody ((nums s).take k) ++ news) w w') : OwnB B v (zs ++ 34 :: encBody ((nums s).take (k + 1))) w w' := by
  have e : zs ++ 34 :: encBody ((nums s).take (k + 1)) = zs ++ 34 :: encBody ((nums s).take k) ++ news := by
    rw [body_snoc s k h, hn]; simp
  rw [e]; exact hb
theorem rel_last (zs : List Int) (s : ByteArray) (k : Nat) (h : k = s.size) {B : Nat} {v : Value} {w w' : World}
    (hb : OwnB B v (zs ++ 34 :: encBody ((nums s).take k) ++ [34]) w w') : OwnB B v (zs ++ encStr (nums s)) w w' := by
  have e : zs ++ encStr (nums s) = zs ++ 34 :: encBody ((nums s).take k) ++ [34] := by
    rw [List.take_of_length_le (by rw [nums_len]; omega)]; simp [encStr]
  rw [e]; exact hb
theorem rel_len (zs : List Int) (s : ByteArray) (k : Nat) (h : k ≤ s.size) (hlen : zs.length + 6 * s.size + 2 ≤ 140737488355328) : (k < s.size → (zs ++ 34 :: encBody ((nums s).take k)).length + 6 ≤ 140737488355328) ∧ (zs ++ 34 :: encBody ((nums s).take k)).length + 1 ≤ 140737488355328 := by
  have h1 := encBody_len ((nums s).take k)
  rw [List.length_take, nums_len] at h1
  rw [List.length_append, List.length_cons]
  omega

theorem and15 (n : Nat) (h : n < 256) : bits .and .u8 (n : Int) 15 = (n : Int) % 16 := by
  have := u8_and_nat n 15 h (by omega)
  rw [show ((15 : Nat) : Int) = 15 from rfl] at this
  rw [this, nat_mask4]; omega

theorem hex_at (n : Int) (h0 : 0 ≤ n) (h1 : n < 16) :
    ((({ data := #[48, 49, 50, 51, 52, 53, 54, 55, 56, 57, 97, 98, 99, 100, 101, 102] } : ByteArray)[n.toNat]'(by show n.toNat < 16; omega)).toNat : Int) = hexd n := by
  have key : ∀ m : Fin 16, ((({ data := #[48, 49, 50, 51, 52, 53, 54, 55, 56, 57, 97, 98, 99, 100, 101, 102] } : ByteArray)[m.val]'m.isLt).toNat : Int) = hexd (m.val : Int) := by decide
  have h := key ⟨n.toNat, by omega⟩
  rw [show ((n.toNat : Nat) : Int) = n from by omega] at h
  exact h

set_option maxHeartbeats 1000000 in
theorem append_any (B : Nat) (v : Value) (zs : List Int) (s : ByteArray) (w : World) (hsrc : Src B v zs w w) (hlen : zs.length + 6 * s.size + 2 ≤ 140737488355328) :
    Calls Tryd.prog 20 #[v, .string s] w fun e w' => ∃ v', e = .returned v' ∧ OwnB B v' (zs ++ encStr (nums s)) w w' := by
  obtain ⟨i0, hi, hz0, hz1, hz2⟩ := info_parts info5
  go_enter Tryd.func20, Tryd.ntmps20
  go_wp2_with (at_builtin; refine wp_app rfl (.tmp 7) (.tmp 8) 22 rfl i0 Tryd.underlying22 hi hz0 hz1 hz2 v zs rfl w _ hsrc [34] ?_ 1 rfl rfl _ rfl ?_ ?_)
  · simp
  · simp; omega
  intro v1 w1 hb1
  clear hsrc
  go_wp2
  go_loopw [0, 5] (fun u i wr => ∃ k : Nat, k ≤ s.size ∧ i = .int .i64 k ∧ OwnB B u (zs ++ 34 :: encBody ((nums s).take k)) w wr) (fun _ i _ => s.size - (intOf i).toNat)
  case atStart => exact ⟨0, Nat.zero_le _, rfl, by simpa [encBody_nil] using hb1⟩
  case round =>
    obtain ⟨k, hk, rfl, hb⟩ := hrel
    clear hb1
    have hL := rel_len zs s k hk hlen
    generalize hzz : zs ++ 34 :: encBody ((nums s).take k) = zz at hb hL
    have HZ : Hid (zs ++ 34 :: encBody ((nums s).take k) = zz) := hzz
    clear hzz
    by_cases hlt : k < s.size
    · have hL1 := hL.1 hlt
      clear hL
      by_cases h34 : ((s[k]).toNat : Int) = 34
      · go_wp2_with (at_builtin; refine wp_app rfl (.tmp 30) (.tmp 32) 22 rfl i0 Tryd.underlying22 hi hz0 hz1 hz2 _ zz rfl w _ (.inl hb) [92, 34] (Nat.zero_lt_succ _) 2 rfl rfl _ rfl (by simp; omega) ?_)
        intro v2 w2 hb2
        have R := rel_next zs s k hlt [92, 34] (by rw [h34]; rfl) (by rw [HZ.out]; exact hb2)
        clear hb2 hb
        go_wp2
        go_roundw
        case rel => exact ⟨k + 1, by omega, by go_num, R⟩
        case measure => simp [intOf]; omega
      by_cases h92 : ((s[k]).toNat : Int) = 92
      · go_wp2_with (at_builtin; refine wp_app rfl (.tmp 30) (.tmp 32) 22 rfl i0 Tryd.underlying22 hi hz0 hz1 hz2 _ zz rfl w _ (.inl hb) [92, 92] (Nat.zero_lt_succ _) 2 rfl rfl _ rfl (by simp; omega) ?_)
        intro v2 w2 hb2
        have R := rel_next zs s k hlt [92, 92] (by rw [h92]; rfl) (by rw [HZ.out]; exact hb2)
        clear hb2 hb
        go_wp2
        go_roundw
        case rel => exact ⟨k + 1, by omega, by go_num, R⟩
        case measure => simp [intOf]; omega
      have b34 : (((s[k]).toNat : Int) == 34) = false := by simpa using h34
      have b92 : (((s[k]).toNat : Int) == 92) = false := by simpa using h92
      by_cases h10 : ((s[k]).toNat : Int) = 10
      · go_wp2_with (at_builtin; refine wp_app_str rfl (.tmp 37) _ 22 9 rfl i0 Tryd.underlying22 Tryd.underlying9 hi hz0 hz1 hz2 _ zz rfl w hb _ rfl [92, 110] rfl (by simp; omega) ?_)
        intro v2 w2 hb2
        have R := rel_next zs s k hlt [92, 110] (by rw [h10]; rfl) (by rw [HZ.out]; exact hb2)
        clear hb2 hb
        go_wp2
        go_roundw
        case rel => exact ⟨k + 1, by omega, by go_num, R⟩
        case measure => simp [intOf]; omega
      by_cases h13 : ((s[k]).toNat : Int) = 13
      · go_wp2_with (at_builtin; refine wp_app_str rfl (.tmp 42) _ 22 9 rfl i0 Tryd.underlying22 Tryd.underlying9 hi hz0 hz1 hz2 _ zz rfl w hb _ rfl [92, 114] rfl (by simp; omega) ?_)
        intro v2 w2 hb2
        have R := rel_next zs s k hlt [92, 114] (by rw [h13]; rfl) (by rw [HZ.out]; exact hb2)
        clear hb2 hb
        go_wp2
        go_roundw
        case rel => exact ⟨k + 1, by omega, by go_num, R⟩
        case measure => simp [intOf]; omega
      by_cases h9 : ((s[k]).toNat : Int) = 9
      · go_wp2_with (at_builtin; refine wp_app_str rfl (.tmp 47) _ 22 9 rfl i0 Tryd.underlying22 Tryd.underlying9 hi hz0 hz1 hz2 _ zz rfl w hb _ rfl [92, 116] rfl (by simp; omega) ?_)
        intro v2 w2 hb2
        have R := rel_next zs s k hlt [92, 116] (by rw [h9]; rfl) (by rw [HZ.out]; exact hb2)
        clear hb2 hb
        go_wp2
        go_roundw
        case rel => exact ⟨k + 1, by omega, by go_num, R⟩
        case measure => simp [intOf]; omega
      by_cases h32 : ((s[k]).toNat : Int) < 32
      · go_wp2_with fail
        have hand := and15 s[k].toNat (by have := (s[k]).toNat_lt; omega)
        have q1 : (0 : Int) ≤ ((s[k]).toNat : Int) / 16 ∧ ((s[k]).toNat : Int) / 16 < 16 := by omega
        have q2 : (0 : Int) ≤ ((s[k]).toNat : Int) % 16 ∧ ((s[k]).toNat : Int) % 16 < 16 := by omega
        have x1 := hex_at (((s[k]).toNat : Int) / 16) q1.1 q1.2
        have x2 := hex_at (((s[k]).toNat : Int) % 16) q2.1 q2.2
        have X1 : Hid _ := x1
        have X2 : Hid _ := x2
        clear x1 x2
        have hbd : OwnB B u0 zz w wr.drew := ⟨hb.1, hb.2.1.drew, hb.2.2⟩
        go_region_law (refine step_app rfl (.tmp 52) (.tmp 59) 22 rfl i0 Tryd.underlying22 hi hz0 hz1 hz2 u0 zz rfl w _ wr.drew _ rfl (.inl hbd) [92, 117, 48, 48, hexd (((s[k]).toNat : Int) / 16), hexd (((s[k]).toNat : Int) % 16)] (Nat.zero_lt_succ _) 6 rfl rfl (by rw [← X1.out, ← X2.out]; rfl) (by simp; omega) ?_; intro v2 w2 hb2)
        all_goals
          have R := rel_next zs s k hlt [92, 117, 48, 48, hexd (((s[k]).toNat : Int) / 16), hexd (((s[k]).toNat : Int) % 16)] (by simp [encB, h34, h92, h10, h13, h9, h32]) (by rw [HZ.out]; exact hb2)
          clear hb2 hb hbd
          go_wp2
          go_roundw
          case rel => exact ⟨k + 1, by omega, by go_num, R⟩
          case measure => simp [intOf]; omega
      · go_wp2_with (at_builtin; refine wp_app rfl (.tmp 19) (.tmp 21) 22 rfl i0 Tryd.underlying22 hi hz0 hz1 hz2 _ zz rfl w _ (.inl hb) [((s[k]).toNat : Int)] (Nat.zero_lt_succ _) 1 rfl rfl _ rfl (by simp; omega) ?_)
        intro v2 w2 hb2
        have R := rel_next zs s k hlt [((s[k]).toNat : Int)] (by simp [encB, h34, h92, h10, h13, h9, h32]) (by rw [HZ.out]; exact hb2)
        clear hb2 hb
        go_wp2
        go_roundw
        case rel => exact ⟨k + 1, by omega, by go_num, R⟩
        case measure => simp [intOf]; omega
    · have hL1 := hL.2
      clear hL
      go_wp2_with (at_builtin; refine wp_app rfl (.tmp 61) (.tmp 62) 22 rfl i0 Tryd.underlying22 hi hz0 hz1 hz2 _ zz rfl w _ (.inl hb) [34] (Nat.zero_lt_succ _) 1 rfl rfl _ rfl (by simp; omega) ?_)
      intro v2 w2 hb2
      have R := rel_last zs s k (by omega) (by rw [HZ.out]; exact hb2)
      clear hb2 hb
      go_wp2
      go_ret
      exact ⟨_, rfl, R⟩
end Go.Proofs.Qxb6603783aDoor
