/-
  WALK: FnDocAppendStringSplits.
-/
import Derived.Test.Qxb6603783aAppend
namespace Go.Proofs.Qxb6603783a
open Go.RowKit

set_option maxHeartbeats 400000 in
/-- ZZappendString on a slice without spare room: what comes back lies in new memory. -/
theorem zzapp_any (a : Option Addr) (n : Nat) (zs : List Int) (s : ByteArray) (w : World) (N : Nat) (hn : zs.length = n) (hN : (zs ++ encStr (nums s)).length = N) (hrd : Rd w a zs) (ha : a = none → n = 0)
    (hlen : n + 6 * s.size + 2 ≤ 140737488355328) :
    Calls Try.prog 7 #[.slice a n n, .string s] w fun e w' => ∃ g cap, e = .returned (.slice (some ⟨g, 0, none⟩) N cap) ∧ N ≤ cap ∧ cap ≤ maxLen ∧ Rd w' (some ⟨g, 0, none⟩) (zs ++ encStr (nums s)) ∧ Below w.heap.size w w' := by
  subst hn
  have hsrc : Src w.heap.size (.slice a zs.length zs.length) zs w w := .inr ⟨a, rfl, hrd, ha, Below.refl _ _, Nat.le_refl _⟩
  go_enter Try.func7, Try.ntmps7
  go_wp2_with fail
  refine (append_any w.heap.size _ zs s w hsrc hlen).mono ?_
  rintro e w' ⟨v', rfl, hb⟩
  obtain ⟨g, cap, hv, _, h1, h2, hc⟩ := hb.form (by rw [List.length_append, encStr_len]; omega)
  rw [hN] at hv h1
  have hrd' : Rd w' (some ⟨g, 0, none⟩) (zs ++ encStr (nums s)) := rd_of_cells (fun j hj => by rw [Nat.zero_add]; exact hc j hj)
  have hbl := hb.2.1
  clear hb hc hsrc
  rw [hv]
  go_wp2
  go_ret
  exact ⟨g, cap, rfl, h1, h2, hrd', hbl⟩

theorem same_yes (a b : Option Addr) (n c m d : Nat) (zs : List Int) (w : World) (hn : zs.length = n) (hm : zs.length = m) (hx : Rd w a zs) (hy : Rd w b zs) (hmax : n ≤ 140737488355328) :
    Calls Try.prog 8 #[.slice a n c, .slice b m d] w fun e w' => e = .returned (.bool true) ∧ ∃ q, w' = w.drewN q := by
  refine (same_any a b n c m d zs zs w hn hm hx hy hmax).mono ?_
  rintro e w' ⟨rfl, q⟩
  exact ⟨by simp, q⟩

theorem same_yes_b (a b : Option Addr) (n c m d : Nat) (zs : List Int) (w : World) (hn : zs.length = n) (hm : zs.length = m) (hx : Rd w a zs) (hy : Rd w b zs) (hmax : n ≤ 140737488355328) :
    Calls Try.prog 8 #[.slice a n c, .slice b m d] w fun e w' => e = .returned (.bool true) ∧ Below w.heap.size w w' := by
  refine (same_yes a b n c m d zs w hn hm hx hy hmax).mono ?_
  rintro e w' ⟨rfl, q, rfl⟩
  exact ⟨rfl, ⟨rfl, rfl, rfl, Nat.le_refl _, fun _ _ => rfl⟩⟩

theorem zzb_splits_yes (a : Option Addr) (n c : Nat) (s : ByteArray) (k : Int) (w : World) (h : n + s.size ≤ 1048576) :
    Calls Try.prog 10 #[.slice a n c, .string s, .int .i64 k] w fun e w' => e = .returned (.bool true) ∧ w' = w := by
  go_enter Try.func10, Try.ntmps10
  go_wp2
  go_ret
  exact ⟨rfl, rfl⟩

theorem zzb_splits_no (a : Option Addr) (n c : Nat) (s : ByteArray) (k : Int) (w : World) (h : ¬ n + s.size ≤ 1048576) (hn : n ≤ 9223372036854775807) (hs : s.size ≤ 9223372036854775807) :
    Calls Try.prog 10 #[.slice a n c, .string s, .int .i64 k] w fun e w' => e = .returned (.bool false) ∧ w' = w := by
  by_cases h1 : n ≤ 1048576
  · by_cases h2 : s.size ≤ 1048576
    · go_enter Try.func10, Try.ntmps10
      go_wp2
      go_ret
      exact ⟨rfl, rfl⟩
    · go_enter Try.func10, Try.ntmps10
      go_wp2
      go_ret
      exact ⟨rfl, rfl⟩
  · go_enter Try.func10, Try.ntmps10
    go_wp2
    go_ret
    exact ⟨rfl, rfl⟩

theorem nums_take (s : ByteArray) (k : Nat) : nums (s.extract 0 k) = (nums s).take k := by
  simp [nums, List.map_take]
theorem nums_from (s : ByteArray) (k : Nat) : nums (s.extract k s.size) = (nums s).drop k := by
  simp [nums, List.map_drop]
  exact List.take_of_length_le (by simp)

theorem Rd.drop {w : World} {g o : Nat} {zs : List Int} (h : Rd w (some ⟨g, o, none⟩) zs) (k : Nat) : Rd w (some ⟨g, o + k, none⟩) (zs.drop k) := by
  refine rd_of_cells fun j hj => ?_
  rw [List.length_drop] at hj
  obtain ⟨x, hx, hc⟩ := h (k + j) (by omega)
  obtain rfl := Option.some.inj hx
  rw [Addr.add_lit] at hc
  rw [Nat.add_assoc, hc]
  simp [List.getD]

/-- The plain law: how the three texts lie to each other. -/
theorem splits_plain (zs L : List Int) (k : Nat) :
    (zs ++ encStr L).length + 2 = zs.length + (encStr (L.take k)).length + (encStr (L.drop k)).length ∧
    (zs ++ encStr L).take zs.length = zs ∧
    ((zs ++ encStr L).drop zs.length).take ((encStr (L.take k)).length - 1) = (encStr (L.take k)).take ((encStr (L.take k)).length - 1) ∧
    (zs ++ encStr L).drop (zs.length + ((encStr (L.take k)).length - 1)) = (encStr (L.drop k)).drop 1 := by
  have e : encBody L = encBody (L.take k) ++ encBody (L.drop k) := by rw [← encBody_append, List.take_append_drop]
  generalize L.take k = X at *
  generalize L.drop k = Y at *
  have hE : encStr L = (34 :: encBody X) ++ (encBody Y ++ [34]) := by simp [encStr, e]
  have hX : (encStr X).length - 1 = (34 :: encBody X).length := by simp [encStr]
  have hX2 : encStr X = (34 :: encBody X) ++ [34] := by simp [encStr]
  refine ⟨?_, ?_, ?_, ?_⟩
  · rw [hE]; simp [encStr]; omega
  · simp
  · rw [List.drop_left, hX, hE, hX2, List.take_left, List.take_left]
  · rw [← List.drop_drop, List.drop_left, hX, hE, List.drop_left]; rfl

set_option maxHeartbeats 1000000 in
theorem splits_good (a : Option Addr) (n c : Nat) (zs : List Int) (s : ByteArray) (k : Nat) (w : World) (hn : zs.length = n) (hrd : Rd w a zs) (ha : a = none → n = 0) (hsz : n + s.size ≤ 1048576) (hk : k ≤ s.size) :
    Calls Try.prog 4 #[.slice a n c, .string s, .int .i64 k] w fun e w' => e = .returned (.bool true) ∧ Below w.heap.size w w' := by
  go_enter Try.func4, Try.ntmps4
  go_wp2_with (go_at_call 10; refine (zzb_splits_yes _ _ _ _ _ _ hsz).mono ?_; rintro e w' ⟨rfl, rfl⟩)
  refine (clone_any a n c zs _ hn hrd ha (by omega)).mono ?_
  rintro e w1 ⟨a1, rfl, hrd1, ha1, hb1⟩
  go_wp2_with fail
  refine (clone_any a1 n n zs _ hn hrd1 ha1 (by omega)).mono ?_
  rintro e w2 ⟨a2, rfl, hrd2, ha2, hb2⟩
  replace hrd1 := hrd1.kept hb2
  replace hb2 := hb1.trans (hb2.mono hb1.size)
  clear hb1 hrd ha
  go_wp2_with fail
  obtain ⟨N, hN⟩ : ∃ N, (zs ++ encStr (nums s)).length = N := ⟨_, rfl⟩
  have HN : Hid _ := hN
  refine (zzapp_any a1 n zs s _ N hn hN hrd1 ha1 (by omega)).mono ?_
  rintro e w3 ⟨g3, c3, rfl, hc3, hm3, hrd3, hb3⟩
  replace hrd2 := hrd2.kept hb3
  replace hb3 := hb2.trans (hb3.mono hb2.size)
  clear hb2 hrd1 ha1 hN
  go_wp2_with fail
  obtain ⟨N2, hN2⟩ : ∃ N, ([] ++ encStr (nums (s.extract 0 k))).length = N := ⟨_, rfl⟩
  have HN2 : Hid _ := hN2
  refine (zzapp_any none 0 [] (s.extract 0 k) _ N2 rfl hN2 (Rd.nil _ _) (fun _ => rfl) (by simp; omega)).mono ?_
  rintro e w4 ⟨g4, c4, rfl, hc4, hm4, hrd4, hb4⟩
  replace hrd2 := hrd2.kept hb4
  replace hrd3 := hrd3.kept hb4
  replace hb4 := hb3.trans (hb4.mono hb3.size)
  clear hb3 hN2
  go_wp2_with fail
  obtain ⟨N3, hN3⟩ : ∃ N, ([] ++ encStr (nums (s.extract k s.size))).length = N := ⟨_, rfl⟩
  have HN3 : Hid _ := hN3
  refine (zzapp_any none 0 [] (s.extract k s.size) _ N3 rfl hN3 (Rd.nil _ _) (fun _ => rfl) (by simp; omega)).mono ?_
  rintro e w5 ⟨g5, c5, rfl, hc5, hm5, hrd5, hb5⟩
  replace hrd2 := hrd2.kept hb5
  replace hrd3 := hrd3.kept hb5
  replace hrd4 := hrd4.kept hb5
  replace hb5 := hb4.trans (hb5.mono hb4.size)
  clear hb4 hN3
  obtain ⟨p1, p2, p3, p4⟩ := splits_plain zs (nums s) k
  simp only [List.nil_append, nums_take, nums_from] at hrd4 hrd5 HN2 HN3
  have z1 := HN.out
  have z2 := HN2.out
  have z3 := HN3.out
  have z4 : 2 ≤ N2 := by rw [← z2, encStr_len]; omega
  have z5 : 2 ≤ N3 := by rw [← z3, encStr_len]; omega
  have z6 : N + 2 ≤ n + N2 + N3 := by omega
  have z7 : n + N2 + N3 ≤ N + 2 := by omega
  have z8 : N ≤ 10000000 := by
    have := encBody_len (nums s)
    rw [nums_len] at this
    rw [← z1, List.length_append, encStr_len]; omega
  rw [z2] at p3 p4
  rw [hn] at p2 p3 p4
  have P2 : Hid _ := p2
  have P3 : Hid _ := p3
  have P4 : Hid _ := p4
  have HZ : Hid (zs.length = n) := hn
  clear p1 p2 p3 p4 z1 z2 z3 hn
  go_wp2_with fail
  have r1 := hrd3.take n
  rw [P2.out] at r1
  refine (same_yes_b _ _ n c3 n n zs _ HZ.out HZ.out r1 hrd2 (by omega)).mono ?_
  rintro e w6 ⟨rfl, hb6⟩
  replace hrd3 := hrd3.kept hb6
  replace hrd4 := hrd4.kept hb6
  replace hrd5 := hrd5.kept hb6
  replace hb6 := hb5.trans (hb6.mono hb5.size)
  clear r1 hb5 hrd2
  go_wp2_with fail
  have r2 := (hrd3.drop n).take (N2 - 1)
  have r3 := hrd4.take (N2 - 1)
  rw [P3.out, Nat.zero_add] at r2
  have hl2 : Hid ((List.take (N2 - 1) (encStr (List.take k (nums s)))).length = N2 - 1) := by
    show _ = _
    rw [List.length_take]; have := HN2.out; omega
  go_quiet ((go_at_call 8; refine Calls.quiet_of (same_yes _ _ _ _ _ _ (List.take (N2 - 1) (encStr (List.take k (nums s)))) _ hl2.out hl2.out (by exact r2) (by exact r3) (by omega))))
  clear r2 r3 hrd4
  have hb7 := below_drewN hb6 nq
  replace hrd3 := hrd3.drewN nq
  replace hrd5 := hrd5.drewN nq
  clear hb6
  generalize w6.drewN nq = w7 at hb7 hrd3 hrd5 ⊢
  go_wp2_with fail
  have r4 := hrd3.drop (n + (N2 - 1))
  have r5 := hrd5.drop 1
  rw [P4.out, Nat.zero_add] at r4
  have hl3 : Hid ((List.drop 1 (encStr (List.drop k (nums s)))).length = N3 - 1) := by
    show _ = _
    rw [List.length_drop]; have := HN3.out; omega
  have hl4 : Hid ((List.drop 1 (encStr (List.drop k (nums s)))).length = N - (n + (N2 - 1))) := by
    show _ = _
    rw [List.length_drop]; have := HN3.out; omega
  go_quiet ((go_at_call 8; refine Calls.quiet_of (same_yes _ _ _ _ _ _ (List.drop 1 (encStr (List.drop k (nums s)))) _ hl4.out hl3.out (by exact r4) (by exact r5) (by omega))))
  clear r4 r5
  go_wp2
  go_ret
  exact ⟨rfl, below_drewN hb7 _⟩
end Go.Proofs.Qxb6603783a
