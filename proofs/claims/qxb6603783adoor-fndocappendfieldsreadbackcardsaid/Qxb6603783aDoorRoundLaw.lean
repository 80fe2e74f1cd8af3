/-
  WALK: FnDocCutNumberSuffixRoundTrip, the law.
-/
import Derived.Test.Qxb6603783aDoorRound
namespace Go.Proofs.Qxb6603783aDoor
open Go.RowKit

theorem own_made {v : Value} {w w1 : World} (h : w1.ownsRow w.heap.size 5 1 v 0 []) (hg : w.grownBy w1 none) : OwnB w.heap.size v [] w w1 :=
  ⟨h, (Below.refl _ _).grown hg (Nat.le_refl _) (fun k hk => by cases hk), hg.size⟩
/-- What lies below B reads on. -/
theorem Rd.own {v : Value} {ys zs : List Int} {w w1 : World} {a : Option Addr} (h : Rd w a zs) (ho : OwnB w.heap.size v ys w w1) : Rd w1 a zs := h.kept ho.2.1
theorem OwnB.below {B : Nat} {v : Value} {zs : List Int} {W0 w w1 : World} (h : OwnB B v zs W0 w) (hb : Below w.heap.size w w1) : OwnB B v zs W0 w1 := by
  refine ⟨?_, h.2.1.trans (hb.mono h.2.2), Nat.le_trans h.2.2 hb.size⟩
  refine h.1.kept (row := none) ⟨hb.os, hb.tape, hb.output, hb.size, fun k hk _ => hb.block k hk⟩ ?_
  cases hv : v.ownBlock <;> simp

set_option maxRecDepth 100000 in
set_option maxHeartbeats 2000000 in
theorem round_good (a : Option Addr) (n c : Nat) (zs : List Int) (name : ByteArray) (v : Nat) (b : Int) (w : World) (hn : zs.length = n) (hrd : Rd w a zs) (hbz : Bytes zs) (ha : a = none → n = 0 ∧ c = 0) (hsz : n + name.size ≤ 1048576)
    (hv : v < 18446744073709551616) (h0 : 0 ≤ b) (h1 : b ≤ 64) (hle : (v : Int) ≤ mxOf b)
    (hX : (∃ h : 0 < name.size, isDig ((name[name.size - 1]'(by omega)).toNat : Int) = false) ∨ (name.size = 0 ∧ 0 < n ∧ isDig (zs.getD (n - 1) 0) = false) ∨ (name.size = 0 ∧ n = 0)) :
    Calls Tryd.prog 5 #[.slice a n c, .string name, .int .u64 v, .int .i64 b] w fun e w' => e = .returned (.bool true) ∧ Below w.heap.size w w' := by
  obtain ⟨i0, hi, hz0, hz1, hz2⟩ := info_parts info5
  have hX2 : zs ++ nums name = [] ∨ isDig ((zs ++ nums name).getD ((zs ++ nums name).length - 1) 0) = false := by
    rcases hX with ⟨h, hd⟩ | ⟨h, h2, hd⟩ | ⟨h, h2⟩
    · right
      rw [List.length_append, nums_len, List.getD_eq_getElem?_getD, List.getElem?_append_right (by omega), show zs.length + name.size - 1 - zs.length = name.size - 1 by omega, nums_get name (name.size - 1) (by omega)]
      exact hd
    · right
      have e : nums name = [] := List.eq_nil_of_length_eq_zero (by rw [nums_len]; exact h)
      rw [e, List.append_nil, hn]; exact hd
    · left
      have e : nums name = [] := List.eq_nil_of_length_eq_zero (by rw [nums_len]; exact h)
      have e2 : zs = [] := List.eq_nil_of_length_eq_zero (by omega)
      rw [e, e2]; rfl
  have HP := hid (round_plain zs (nums name) v b hv h0 h1 hle hX2)
  have hdv : decide (mxOf b < (v : Int)) = false := decide_eq_false (by omega)
  have HMX : Hid (mxOf b ≤ 18446744073709551615) := (mxOf_le b h0 h1).1
  obtain ⟨M, hM⟩ : ∃ M, mxOf b = M := ⟨_, rfl⟩
  have hmf := maxFor_yes b w h0 h1
  rw [hM] at hmf hdv hle
  have HM : Hid _ := hM
  have HN : Hid (zs.length = n) := hn
  have HBZ : Hid (Bytes zs) := hbz
  have HA : Hid (a = none → n = 0 ∧ c = 0) := ha
  have HV : Hid (v < 18446744073709551616) := hv
  clear hM hX2 hn hbz ha
  have hX3 : (∃ h : 0 < name.size, isDig ((name[name.size - 1]'(by omega)).toNat : Int) = false) ∨ (name.size ≤ 0 ∧ 0 < n ∧ ∃ b1 o1 d, a = some ⟨b1, o1, none⟩ ∧ w.cell? ⟨b1, o1 + (n - 1), none⟩ = some (.int .u8 d) ∧ isDig d = false) ∨ (name.size ≤ 0 ∧ n ≤ 0 ∧ decide ((0 : Int) < (n : Int)) = false) := by
    rcases hX with h | ⟨h1, h2, h3⟩ | ⟨h1, h2⟩
    · exact .inl h
    · obtain ⟨b1, o1, rfl, hc⟩ := hrd.at (by rw [HN.out]; omega)
      exact .inr (.inl ⟨by omega, h2, b1, o1, _, rfl, hc (n - 1) (by rw [HN.out]; omega), h3⟩)
    · exact .inr (.inr ⟨by omega, by omega, decide_eq_false (by omega)⟩)
  clear hX
  rcases hX3 with ⟨hns, hdig⟩ | ⟨hns, hnp, b1, o1, d, rfl, hcd, hdig⟩ | ⟨hns, hnp, hnd⟩
  all_goals
    go_enter Tryd.func5, Tryd.ntmps5
    go_wp2_with (go_at_call 19; refine (zzb_round_yes _ _ _ _ _ _ _ hsz).mono ?_; rintro e w' ⟨rfl, rfl⟩)
    refine hmf.mono ?_
    rintro e w' ⟨rfl, rfl⟩
    go_wp2_with (first | (go_at_call 14; refine (isDig_any _ _).mono ?_; rintro e w' ⟨rfl, rfl⟩) | (at_make; refine wpList_make_own _ rfl _ _ 22 rfl _ 5 i0 (.int .u8 0) 1 Tryd.underlying22 hi hz0 hz1 _ _ _ (n + name.size + 20) rfl rfl (by omega) (by rw [hz2]; omega) (by unfold maxLen; omega) (Nat.le_refl _) ?_))
    intro w1 hown hgrow
    have ho := hid (own_made hown hgrow)
    have hrd1 := hid (Rd.own hrd ho.out)
    clear hown hgrow
    go_wp2_with (at_builtin; refine wp_app_rd rfl (.tmp 77) (.tmp 78) 22 rfl i0 Tryd.underlying22 hi hz0 hz1 hz2 _ [] rfl _ ho.out _ n c rfl zs HN.out hrd1.out HA.out (by have := HN.out; simp; omega) ?_)
    intro v2 w2 ho2
    have hrd2 := hid (Rd.own hrd ho2)
    clear hrd1 ho
    go_wp2_with (at_builtin; refine wp_app_str rfl (.tmp 80) (.tmp 81) 22 9 rfl i0 Tryd.underlying22 Tryd.underlying9 hi hz0 hz1 hz2 _ ([] ++ zs) rfl _ ho2 name rfl (nums name) rfl (by have := HN.out; simp [nums_len]; omega) ?_)
    intro v3 w3 ho3
    have hrd3 := hid (Rd.own hrd ho3)
    have HO3 := hid ho3
    clear hrd2 ho2 ho3
    go_wp2_with fail
    refine (utoa_any v _ HV.out).mono ?_
    rintro e w4 ⟨gu, rfl, hru, hbu⟩
    have ho4 := hid (OwnB.below HO3.out hbu)
    have hrd4 := hid (Rd.own hrd ho4.out)
    have HRU := hid hru
    have hlu := utoa_len v
    generalize hL : (utoa v).length = L at hlu
    have HL := hid hL
    clear HO3 hrd3 hru hbu hL
    have hlen4 := hid (show (zs ++ nums name).length + (utoa v).length ≤ 140737488355328 by have h1 := HN.out; have h2 := HL.out; rw [List.length_append, nums_len]; omega)
    go_wp2_with (at_builtin; refine wp_app_rd rfl (.tmp 83) (.tmp 85) 22 rfl i0 Tryd.underlying22 hi hz0 hz1 hz2 _ (zs ++ nums name) rfl _ ho4.out (some ⟨gu, 0, none⟩) L L rfl (utoa v) HL.out HRU.out (fun h => by cases h) hlen4.out ?_)
    intro v5 w5 ho5
    rw [← List.append_assoc] at ho5
    have hpos : 0 < (zs ++ nums name ++ utoa v).length := by have h2 := HL.out; rw [List.length_append]; omega
    obtain ⟨g5, cap5, hv5, _, hcl5, hcm5, hc5⟩ := ho5.form hpos
    have hrd5 := hid (Rd.own hrd ho5)
    have hb5 := ho5.2.1
    have hrn5 : Rd w5 (some ⟨g5, 0, none⟩) (zs ++ nums name ++ utoa v) := rd_of_cells fun j hj => by rw [Nat.zero_add]; exact hc5 j hj
    have HRN5 := hid hrn5
    generalize hLN : (zs ++ nums name ++ utoa v).length = LN at hv5 hcl5 hpos
    have HLN := hid hLN
    have hLNv : LN = n + name.size + L := by rw [← hLN, List.length_append, List.length_append, nums_len]; have h1 := HN.out; have h2 := HL.out; omega
    have HLNv := hid hLNv
    have hLN1 : LN ≤ 1048600 := by omega
    rw [hv5]
    clear hv5 ho5 hc5 hrn5 hLN hLNv ho4 hrd4 HRU hlen4
    go_wp2_with fail
    obtain ⟨p1, p2, p3, p4, p5, p6⟩ := HP.out
    have hli : (zs ++ nums name).length = n + name.size := by rw [List.length_append, nums_len, HN.out]
    rw [hli] at p1 p2 p3
    have hby : Bytes (zs ++ nums name ++ utoa v) := by
      intro x hx
      rcases List.mem_append.1 hx with hx | hx
      · rcases List.mem_append.1 hx with hx | hx
        · exact HBZ.out x hx
        · exact nums_bytes name x hx
      · have := utoa_dig v x hx; omega
    have hget : (zs ++ nums name ++ utoa v).getD (n + name.size) 0 = (utoa v).getD 0 0 := by
      rw [List.getD_eq_getElem?_getD, List.getElem?_append_right (by omega), hli, Nat.sub_self, List.getD_eq_getElem?_getD]
    have hcut := cutnum_yes (some ⟨g5, 0, none⟩) LN cap5 (zs ++ nums name ++ utoa v) name b w5 HLN.out HRN5.out hby hcl5 (by omega) (n + name.size) p1 (by have := HLNv.out; omega)
      (by
        rw [hget]
        rcases utoa_head v HV.out with h | h
        · left; have h1 := HLNv.out; have h2 := HL.out; omega
        · exact .inr h)
      (by rw [p2]; exact pu_ok b (utoa v) w5 h0 h1 (by have := HL.out; omega) (utoa_dig v) (by have := HL.out; omega) (by rw [utoa_dv v HV.out, HM.out]; exact hle))
      true (by rw [p3]; exact p4) n (by simp) (v : Int) (by rw [p2]; exact p5) true (by rw [p2]; exact p6)
    refine (zzcut_any _ name b w5 _ _ _ (Below w5.heap.size w5) hcut).mono ?_
    rintro e w6 ⟨hb6, rfl⟩
    have hrd6 := hrd5.out.kept hb6
    have hrn6 := (HRN5.out.kept hb6).take n
    rw [show (zs ++ nums name ++ utoa v).take n = zs from by rw [List.append_assoc, ← HN.out, List.take_left]] at hrn6
    have hb6' := hb5.trans (hb6.mono hb5.size)
    clear hcut hget hby hli p1 p2 p3 p4 p5 p6 HRN5 hrd5 hb5 hb6 HP hmf hle
    go_wp2_with fail
    refine (same_yes _ _ n cap5 n c zs _ HN.out HN.out hrn6 hrd6 (by omega)).mono ?_
    rintro e w7 ⟨rfl, hb7⟩
    have hb7' := hb6'.trans (hb7.mono hb6'.size)
    clear hb7 hb6' hrn6 hrd6
    go_wp2
    go_ret
    exact ⟨by simp, hb7'⟩
end Go.Proofs.Qxb6603783aDoor
