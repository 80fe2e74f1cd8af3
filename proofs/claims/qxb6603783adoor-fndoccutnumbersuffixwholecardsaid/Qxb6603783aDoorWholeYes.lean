/-
  WALK: FnDocCutNumberSuffixWhole, a number stands at the end.
-/
import Derived.Test.Qxb6603783aDoorWhole
namespace Go.Proofs.Qxb6603783aDoor
open Go.RowKit

theorem Rd.drop {w : World} {g o : Nat} {zs : List Int} (h : Rd w (some ⟨g, o, none⟩) zs) (k : Nat) : Rd w (some ⟨g, o + k, none⟩) (zs.drop k) := by
  refine rd_of_cells fun j hj => ?_
  rw [List.length_drop] at hj
  obtain ⟨x, hx, hc⟩ := h (k + j) (by omega)
  obtain rfl := Option.some.inj hx
  rw [Addr.add_lit] at hc
  rw [Nat.add_assoc, hc]
  simp [List.getD]

set_option maxRecDepth 100000 in
set_option maxHeartbeats 4000000 in
theorem whole_yes (a : Option Addr) (n c : Nat) (zs : List Int) (name : ByteArray) (b : Int) (w : World) (hL : Laid w) (hn : zs.length = n) (hrd : Rd w a zs) (hbz : Bytes zs) (ha : a = none → n = 0) (hsz : n + name.size ≤ 1048576)
    (hb0 : -9223372036854775808 ≤ b) (hb1 : b ≤ 9223372036854775807)
    (I : Nat) (hI : cutAt zs = I) (hIn : I < n) (hld : n - I = 1 ∨ zs.getD I 0 ≠ 48) :
    Calls Tryd.prog 4 #[.slice a n c, .string name, .int .i64 b] w fun e w' => e = .returned (.bool true) ∧ Below w.heap.size w w' := by
  have hAD : AllDig (zs.drop I) := by
    intro x hx
    obtain ⟨j, hj, rfl⟩ := List.getElem_of_mem hx
    rw [List.length_drop] at hj
    have h1 := cutF_dig zs.length zs (I + j) (by rw [← hI]; unfold cutAt; omega) (by omega)
    rw [isDig_iff] at h1
    simpa [List.getD, show I + j < zs.length by omega] using h1
  have hNum : Numeral (zs.drop I) := by
    refine ⟨hAD, by rw [List.length_drop]; omega, ?_⟩
    rcases hld with h | h
    · left; rw [List.length_drop]; omega
    · right; simpa [List.getD] using h
  have hFE : Hid (endsB (zs.take I) (nums name) = (decide (name.size ≤ I) && decide ((zs.take I).drop (I - name.size) = nums name))) := by
    show _ = _
    unfold endsB
    rw [List.length_take, nums_len, show min I zs.length = I by omega]
  have hld2 : (decide ((1 : Int) < ((n - I : Nat) : Int)) = false) ∨ ((1 : Int) < ((n - I : Nat) : Int) ∧ (zs.getD I 0 == 48) = false) := by
    by_cases h : 1 < n - I
    · right
      refine ⟨by omega, ?_⟩
      rcases hld with h1 | h1
      · omega
      · simpa using h1
    · left; exact decide_eq_false (by omega)
  have HLD2 := hid hld2
  have HLD : Hid (n - I = 1 ∨ zs.getD I 0 ≠ 48) := hld
  have HNUM : Hid (Numeral (zs.drop I)) := hNum
  have HAD : Hid (AllDig (zs.drop I)) := hAD
  have HL : Hid (Laid w) := hL
  have HBZ : Hid (Bytes zs) := hbz
  have HN : Hid (zs.length = n) := hn
  have HI : Hid (cutAt zs = I) := hI
  have d1 : decide ((1048576 : Int) < (n : Int)) = false := decide_eq_false (by omega)
  have d2 : decide ((1048576 : Int) < (name.size : Int)) = false := decide_eq_false (by omega)
  have d3 : decide ((1048576 : Int) < (n : Int) + (name.size : Int)) = false := decide_eq_false (by omega)
  clear hL hbz hn hI hAD hNum hld hld2
  go_enter Tryd.func4, Tryd.ntmps4
  go_wp2_with (go_at_call 13; refine (zzb_cut_yes _ _ _ _ _ _ hsz).mono ?_; rintro e w' ⟨rfl, rfl⟩)
  refine (clone_any a n c zs _ HN.out hrd ha (by omega)).mono ?_
  rintro e w1 ⟨a1, rfl, hrd1, ha1, hb1'⟩
  obtain ⟨b1, o1, ea, hc⟩ := hrd1.at (by rw [HN.out]; omega)
  subst ea
  have HB1 := hid hb1'
  have HR1 := hid hrd1
  have HL1 := hid (HL.out.kept HB1.out)
  clear hrd ha hrd1 hb1' hc ha1 HL
  go_wp2_with fail
  obtain ⟨F, hF⟩ : ∃ F, endsB (zs.take I) (nums name) = F := ⟨_, rfl⟩
  obtain ⟨r, hr⟩ : ∃ r, (if F = true then I - name.size else I) = r := ⟨_, rfl⟩
  obtain ⟨x, hx⟩ : ∃ x, puVal b (zs.drop I) = x := ⟨_, rfl⟩
  obtain ⟨K, hK⟩ : ∃ K, puOk b (zs.drop I) = K := ⟨_, rfl⟩
  have HF := hid hF
  have HR := hid hr
  have HX := hid hx
  have HK := hid hK
  refine (zzcut_any _ name b w1 _ _ _ (Below w1.heap.size w1) (cutnum_yes _ n n zs name b w1 HN.out HR1.out HBZ.out (Nat.le_refl _) (by omega) I HI.out hIn HLD.out
    (pu_any b (zs.drop I) w1 HL1.out hb0 hb1 HNUM.out.2.1 HAD.out (by rw [List.length_drop]; have := HN.out; omega)) F hF r hr x hx K hK)).mono ?_
  rintro e w2 ⟨hb2, rfl⟩
  have HR2 := hid (HR1.out.kept hb2)
  have HB2 := hid (HB1.out.trans (hb2.mono HB1.out.size))
  have hc := (Rd.at HR2.out (by rw [HN.out]; omega))
  obtain ⟨b1', o1', ea, hc⟩ := hc
  obtain ⟨rfl, rfl⟩ : b1 = b1' ∧ o1 = o1' := by simpa using ea
  have HC : Hid _ := hc
  clear hF hr hx hK hb2 hc ea HR1 HB1 HL1
  go_wp2
  go_loop [10, 11] (fun x y => ∃ j s : Nat, j ≤ n ∧ y = .int .i64 j ∧ x = .int .i64 s ∧ s ≤ j ∧ Hid (cutF j zs = s)) (fun _ y => n - (intOf y).toNat)
  case atStart => exact ⟨0, 0, Nat.zero_le _, rfl, rfl, Nat.le_refl _, rfl⟩
  case round =>
    obtain ⟨j, s, hj, rfl, rfl, hsj, HS⟩ := hrel
    by_cases hlt : j < n
    · have g := HC.out j (by rw [HN.out]; exact hlt)
      have hnx := cutF_next j zs
      by_cases hd : isDig (zs.getD j 0) = true
      · rw [if_pos hd] at hnx
        have HNX : Hid (cutF (j + 1) zs = s) := by show _ = _; rw [hnx]; exact HS.out
        clear hnx
        generalize zs.getD j 0 = v at g hd
        go_wp2_with (go_at_call 14; refine (isDig_any _ _).mono ?_; rintro e w' ⟨rfl, rfl⟩)
        go_round
        case rel => exact ⟨j + 1, s, by omega, by go_num, rfl, by omega, HNX⟩
        case measure => simp [intOf]; omega
      · rw [if_neg hd] at hnx
        have HNX : Hid (cutF (j + 1) zs = j + 1) := hnx
        have hd' : isDig (zs.getD j 0) = false := by simpa using hd
        clear hnx hd
        generalize zs.getD j 0 = v at g hd'
        go_wp2_with (go_at_call 14; refine (isDig_any _ _).mono ?_; rintro e w' ⟨rfl, rfl⟩)
        go_round
        case rel => exact ⟨j + 1, j + 1, by omega, by go_num, by go_num, by omega, HNX⟩
        case measure => simp [intOf]; omega
    · have hs : s = I := by rw [← HS.out, ← HI.out]; unfold cutAt; rw [HN.out, show j = n by omega]
      subst hs
      have g := HC.out s (by rw [HN.out]; omega)
      have z0 : (((n - s : Nat) : Int) == 0) = false := by rw [beq_eq_false_iff_ne]; omega
      have hld2 := HLD2.out
      generalize zs.getD s 0 = v at g hld2
      clear HS HLD HLD2
      rcases hld2 with q0 | ⟨q0, q1⟩
      all_goals
        have hways : (Calls Tryd.prog 15 #[.int .i64 b] w2 (fun e w' => e = .returned (.tuple #[.int .u64 0, .bool false]) ∧ w' = w2) ∧ x = 0 ∧ K = false) ∨
            (∃ m : Nat, m < 18446744073709551616 ∧ Calls Tryd.prog 15 #[.int .i64 b] w2 (fun e w' => e = .returned (.tuple #[.int .u64 (m : Int), .bool true]) ∧ w' = w2) ∧ exc (zs.drop s) (utoa m) = true ∧ x = (m : Int) ∧ K = false) ∨
            (∃ m : Nat, m < 18446744073709551616 ∧ Calls Tryd.prog 15 #[.int .i64 b] w2 (fun e w' => e = .returned (.tuple #[.int .u64 (m : Int), .bool true]) ∧ w' = w2) ∧ exc (zs.drop s) (utoa m) = false ∧ x = (dv (zs.drop s) : Int) ∧ (dv (zs.drop s) : Int) ≤ 18446744073709551615 ∧ K = true) := by
          rw [← HX.out, ← HK.out]
          by_cases hbad : b < 0 ∨ 64 < b
          · refine .inl ⟨maxFor_no b w2 hbad, ?_, ?_⟩
            · unfold puVal; rw [if_pos hbad]
            · unfold puOk; exact decide_eq_false (by omega)
          · have hmy := maxFor_yes b w2 (by omega) (by omega)
            have hml := mxOf_le b (by omega) (by omega)
            have hok : puOk b (zs.drop s) = decide ((dv (zs.drop s) : Int) ≤ mxOf b) := by
              unfold puOk; rw [decide_eq_decide]; constructor
              · intro h; exact h.2.2
              · intro h; exact ⟨by omega, by omega, h⟩
            have hval : puVal b (zs.drop s) = if (dv (zs.drop s) : Int) ≤ mxOf b then (dv (zs.drop s) : Int) else mxOf b := by unfold puVal; rw [if_neg hbad]
            rw [hok, hval]
            obtain ⟨m, hm⟩ := Int.eq_ofNat_of_zero_le hml.2
            rw [hm] at hmy hml ⊢
            have hex := exc_iff (zs.drop s) (utoa m) HNUM.out (utoa_numeral m (by omega))
            rw [utoa_dv m (by omega)] at hex
            by_cases hle : (dv (zs.drop s) : Int) ≤ (m : Int)
            · refine .inr (.inr ⟨m, by omega, hmy, ?_, by rw [if_pos hle], by omega, decide_eq_true hle⟩)
              rw [hex]; exact decide_eq_false (by omega)
            · refine .inr (.inl ⟨m, by omega, hmy, ?_, by rw [if_neg hle], decide_eq_false hle⟩)
              rw [hex]; exact decide_eq_true (by omega)
        have hways2 : (name.size ≤ s ∧ ((F = true ∧ s - name.size = r) ∨ (F = false ∧ s = r)) ∧ decide ((zs.take s).drop (s - name.size) = nums name) = F) ∨ (¬ name.size ≤ s ∧ F = false ∧ s = r) := by
          have h1 := hFE.out
          rw [HF.out] at h1
          have h2 := HR.out
          by_cases hns : name.size ≤ s
          · rw [decide_eq_true hns, Bool.true_and] at h1
            refine .inl ⟨hns, ?_, h1.symm⟩
            cases F
            · exact .inr ⟨rfl, h2⟩
            · exact .inl ⟨rfl, h2⟩
          · rw [decide_eq_false hns, Bool.false_and] at h1
            rw [h1] at h2
            exact .inr ⟨hns, h1, h2⟩
        have HW2 := hid hways2
        clear hways2 HF HR hFE HX HK
        rcases hways with ⟨hm, rfl, rfl⟩ | ⟨m, hm64, hm, hex, rfl, rfl⟩ | ⟨m, hm64, hm, hex, rfl, hdv, rfl⟩
        · by_cases hns : name.size ≤ s
          · go_wp2_with fail
            refine hm.mono ?_
            rintro e w3 ⟨rfl, hw3⟩
            subst hw3
            clear hm
            have HRz := HR2
            have HBz := HB2
            clear HR2 HB2
            go_wp2_with fail
            refine (samestr_any _ (s - (s - name.size)) (n - (s - name.size)) ((zs.take s).drop (s - name.size)) name _ ?_ ?_ (by omega) (by omega)).mono ?_
            · rw [List.length_drop, List.length_take]; have := HN.out; omega
            · exact Rd.drop (HRz.out.take s) (s - name.size)
            rintro e w8 ⟨rfl, hb8⟩
            have HR8 := hid (HRz.out.kept hb8)
            have HB8 := hid (HBz.out.trans (hb8.mono HBz.out.size))
            rcases HW2.out with ⟨_, hfr, hdec⟩ | ⟨hcon, _⟩
            · rw [hdec]
              clear hb8 HRz HBz hdec
              rcases hfr with ⟨rfl, rfl⟩ | ⟨rfl, rfl⟩
              · go_wp2_with fail
                refine (same_yes _ _ (s - name.size) n (s - name.size) n (zs.take (s - name.size)) _ ?_ ?_ ?_ ?_ (by omega)).mono ?_
                · rw [List.length_take]; have := HN.out; omega
                · rw [List.length_take]; have := HN.out; omega
                · exact HR8.out.take _
                · exact HR8.out.take _
                rintro e w9 ⟨rfl, hb9⟩
                have HB9 := hid (HB8.out.trans (hb9.mono HB8.out.size))
                clear hb9 HR8 HB8
                go_wp2
                go_ret
                exact ⟨by simp, HB9.out⟩
              · go_wp2_with fail
                refine (same_yes _ _ s n s n (zs.take s) _ ?_ ?_ ?_ ?_ (by omega)).mono ?_
                · rw [List.length_take]; have := HN.out; omega
                · rw [List.length_take]; have := HN.out; omega
                · exact HR8.out.take _
                · exact HR8.out.take _
                rintro e w9 ⟨rfl, hb9⟩
                have HB9 := hid (HB8.out.trans (hb9.mono HB8.out.size))
                clear hb9 HR8 HB8
                go_wp2
                go_ret
                exact ⟨by simp, HB9.out⟩
            · exact absurd hns hcon
          · go_wp2_with fail
            refine hm.mono ?_
            rintro e w3 ⟨rfl, hw3⟩
            subst hw3
            clear hm
            have HRz := HR2
            have HBz := HB2
            clear HR2 HB2
            go_wp2_with fail
            rcases HW2.out with ⟨hcon, _⟩ | ⟨_, rfl, rfl⟩
            · exact absurd hcon hns
            refine (same_yes _ _ s n s n (zs.take s) _ ?_ ?_ ?_ ?_ (by omega)).mono ?_
            · rw [List.length_take]; have := HN.out; omega
            · rw [List.length_take]; have := HN.out; omega
            · exact HRz.out.take _
            · exact HRz.out.take _
            rintro e w9 ⟨rfl, hb9⟩
            have HB9 := hid (HBz.out.trans (hb9.mono HBz.out.size))
            clear hb9 HRz HBz
            go_wp2
            go_ret
            exact ⟨by simp, HB9.out⟩
        · by_cases hns : name.size ≤ s
          · go_wp2_with fail
            refine hm.mono ?_
            rintro e w3 ⟨rfl, hw3⟩
            subst hw3
            clear hm
            go_wp2_with fail
            refine (utoa_any m _ hm64).mono ?_
            rintro e w4 ⟨gu, rfl, hru, hbu⟩
            have HR4 := hid (HR2.out.kept hbu)
            have HRU := hid hru
            have HB4 := hid (HB2.out.trans (hbu.mono HB2.out.size))
            have HEX := hid hex
            generalize hUL : (utoa m).length = UL
            have HUL := hid hUL
            have HDL : Hid ((zs.drop s).length = n - s) := by show _ = _; rw [List.length_drop, HN.out]
            clear hru hbu HR2 HB2 g hex hUL
            go_wp2_with fail
            refine (exc_any _ _ (n - s) (n - s) UL UL (zs.drop s) (utoa m) _ HDL.out HUL.out (Rd.drop HR4.out s) HRU.out (by omega) (by omega)).mono ?_
            rw [HEX.out]
            rintro e w5 ⟨rfl, hb5⟩
            have HRz := hid (HR4.out.kept hb5)
            have HBz := hid (HB4.out.trans (hb5.mono HB4.out.size))
            clear hb5 HR4 HB4 HRU HEX HUL
            go_wp2_with fail
            refine (samestr_any _ (s - (s - name.size)) (n - (s - name.size)) ((zs.take s).drop (s - name.size)) name _ ?_ ?_ (by omega) (by omega)).mono ?_
            · rw [List.length_drop, List.length_take]; have := HN.out; omega
            · exact Rd.drop (HRz.out.take s) (s - name.size)
            rintro e w8 ⟨rfl, hb8⟩
            have HR8 := hid (HRz.out.kept hb8)
            have HB8 := hid (HBz.out.trans (hb8.mono HBz.out.size))
            rcases HW2.out with ⟨_, hfr, hdec⟩ | ⟨hcon, _⟩
            · rw [hdec]
              clear hb8 HRz HBz hdec
              rcases hfr with ⟨rfl, rfl⟩ | ⟨rfl, rfl⟩
              · go_wp2_with fail
                refine (same_yes _ _ (s - name.size) n (s - name.size) n (zs.take (s - name.size)) _ ?_ ?_ ?_ ?_ (by omega)).mono ?_
                · rw [List.length_take]; have := HN.out; omega
                · rw [List.length_take]; have := HN.out; omega
                · exact HR8.out.take _
                · exact HR8.out.take _
                rintro e w9 ⟨rfl, hb9⟩
                have HB9 := hid (HB8.out.trans (hb9.mono HB8.out.size))
                clear hb9 HR8 HB8
                go_wp2
                go_ret
                exact ⟨by simp, HB9.out⟩
              · go_wp2_with fail
                refine (same_yes _ _ s n s n (zs.take s) _ ?_ ?_ ?_ ?_ (by omega)).mono ?_
                · rw [List.length_take]; have := HN.out; omega
                · rw [List.length_take]; have := HN.out; omega
                · exact HR8.out.take _
                · exact HR8.out.take _
                rintro e w9 ⟨rfl, hb9⟩
                have HB9 := hid (HB8.out.trans (hb9.mono HB8.out.size))
                clear hb9 HR8 HB8
                go_wp2
                go_ret
                exact ⟨by simp, HB9.out⟩
            · exact absurd hns hcon
          · go_wp2_with fail
            refine hm.mono ?_
            rintro e w3 ⟨rfl, hw3⟩
            subst hw3
            clear hm
            go_wp2_with fail
            refine (utoa_any m _ hm64).mono ?_
            rintro e w4 ⟨gu, rfl, hru, hbu⟩
            have HR4 := hid (HR2.out.kept hbu)
            have HRU := hid hru
            have HB4 := hid (HB2.out.trans (hbu.mono HB2.out.size))
            have HEX := hid hex
            generalize hUL : (utoa m).length = UL
            have HUL := hid hUL
            have HDL : Hid ((zs.drop s).length = n - s) := by show _ = _; rw [List.length_drop, HN.out]
            clear hru hbu HR2 HB2 g hex hUL
            go_wp2_with fail
            refine (exc_any _ _ (n - s) (n - s) UL UL (zs.drop s) (utoa m) _ HDL.out HUL.out (Rd.drop HR4.out s) HRU.out (by omega) (by omega)).mono ?_
            rw [HEX.out]
            rintro e w5 ⟨rfl, hb5⟩
            have HRz := hid (HR4.out.kept hb5)
            have HBz := hid (HB4.out.trans (hb5.mono HB4.out.size))
            clear hb5 HR4 HB4 HRU HEX HUL
            go_wp2_with fail
            rcases HW2.out with ⟨hcon, _⟩ | ⟨_, rfl, rfl⟩
            · exact absurd hcon hns
            refine (same_yes _ _ s n s n (zs.take s) _ ?_ ?_ ?_ ?_ (by omega)).mono ?_
            · rw [List.length_take]; have := HN.out; omega
            · rw [List.length_take]; have := HN.out; omega
            · exact HRz.out.take _
            · exact HRz.out.take _
            rintro e w9 ⟨rfl, hb9⟩
            have HB9 := hid (HBz.out.trans (hb9.mono HBz.out.size))
            clear hb9 HRz HBz
            go_wp2
            go_ret
            exact ⟨by simp, HB9.out⟩
        · by_cases hns : name.size ≤ s
          · go_wp2_with fail
            refine hm.mono ?_
            rintro e w3 ⟨rfl, hw3⟩
            subst hw3
            clear hm
            go_wp2_with fail
            refine (utoa_any m _ hm64).mono ?_
            rintro e w4 ⟨gu, rfl, hru, hbu⟩
            have HR4 := hid (HR2.out.kept hbu)
            have HRU := hid hru
            have HB4 := hid (HB2.out.trans (hbu.mono HB2.out.size))
            have HEX := hid hex
            generalize hUL : (utoa m).length = UL
            have HUL := hid hUL
            have HDL : Hid ((zs.drop s).length = n - s) := by show _ = _; rw [List.length_drop, HN.out]
            clear hru hbu HR2 HB2 g hex hUL
            go_wp2_with fail
            refine (exc_any _ _ (n - s) (n - s) UL UL (zs.drop s) (utoa m) _ HDL.out HUL.out (Rd.drop HR4.out s) HRU.out (by omega) (by omega)).mono ?_
            rw [HEX.out]
            rintro e w5 ⟨rfl, hb5⟩
            have HRz := hid (HR4.out.kept hb5)
            have HBz := hid (HB4.out.trans (hb5.mono HB4.out.size))
            clear hb5 HR4 HB4 HRU HEX HUL
            go_wp2_with fail
            have HDV := hid hdv
            clear hdv
            refine (val_any _ (n - s) (n - s) (zs.drop s) _ HDL.out (Rd.drop HRz.out s) HAD.out (by omega) (by omega) _ rfl HDV.out).mono ?_
            rintro e w6 ⟨rfl, hw6⟩
            subst hw6
            generalize ((dv (zs.drop s) : Nat) : Int) = V
            clear HDV
            go_wp2_with fail
            refine (samestr_any _ (s - (s - name.size)) (n - (s - name.size)) ((zs.take s).drop (s - name.size)) name _ ?_ ?_ (by omega) (by omega)).mono ?_
            · rw [List.length_drop, List.length_take]; have := HN.out; omega
            · exact Rd.drop (HRz.out.take s) (s - name.size)
            rintro e w8 ⟨rfl, hb8⟩
            have HR8 := hid (HRz.out.kept hb8)
            have HB8 := hid (HBz.out.trans (hb8.mono HBz.out.size))
            rcases HW2.out with ⟨_, hfr, hdec⟩ | ⟨hcon, _⟩
            · rw [hdec]
              clear hb8 HRz HBz hdec
              rcases hfr with ⟨rfl, rfl⟩ | ⟨rfl, rfl⟩
              · go_wp2_with fail
                refine (same_yes _ _ (s - name.size) n (s - name.size) n (zs.take (s - name.size)) _ ?_ ?_ ?_ ?_ (by omega)).mono ?_
                · rw [List.length_take]; have := HN.out; omega
                · rw [List.length_take]; have := HN.out; omega
                · exact HR8.out.take _
                · exact HR8.out.take _
                rintro e w9 ⟨rfl, hb9⟩
                have HB9 := hid (HB8.out.trans (hb9.mono HB8.out.size))
                clear hb9 HR8 HB8
                go_wp2
                go_ret
                exact ⟨by simp, HB9.out⟩
              · go_wp2_with fail
                refine (same_yes _ _ s n s n (zs.take s) _ ?_ ?_ ?_ ?_ (by omega)).mono ?_
                · rw [List.length_take]; have := HN.out; omega
                · rw [List.length_take]; have := HN.out; omega
                · exact HR8.out.take _
                · exact HR8.out.take _
                rintro e w9 ⟨rfl, hb9⟩
                have HB9 := hid (HB8.out.trans (hb9.mono HB8.out.size))
                clear hb9 HR8 HB8
                go_wp2
                go_ret
                exact ⟨by simp, HB9.out⟩
            · exact absurd hns hcon
          · go_wp2_with fail
            refine hm.mono ?_
            rintro e w3 ⟨rfl, hw3⟩
            subst hw3
            clear hm
            go_wp2_with fail
            refine (utoa_any m _ hm64).mono ?_
            rintro e w4 ⟨gu, rfl, hru, hbu⟩
            have HR4 := hid (HR2.out.kept hbu)
            have HRU := hid hru
            have HB4 := hid (HB2.out.trans (hbu.mono HB2.out.size))
            have HEX := hid hex
            generalize hUL : (utoa m).length = UL
            have HUL := hid hUL
            have HDL : Hid ((zs.drop s).length = n - s) := by show _ = _; rw [List.length_drop, HN.out]
            clear hru hbu HR2 HB2 g hex hUL
            go_wp2_with fail
            refine (exc_any _ _ (n - s) (n - s) UL UL (zs.drop s) (utoa m) _ HDL.out HUL.out (Rd.drop HR4.out s) HRU.out (by omega) (by omega)).mono ?_
            rw [HEX.out]
            rintro e w5 ⟨rfl, hb5⟩
            have HRz := hid (HR4.out.kept hb5)
            have HBz := hid (HB4.out.trans (hb5.mono HB4.out.size))
            clear hb5 HR4 HB4 HRU HEX HUL
            go_wp2_with fail
            have HDV := hid hdv
            clear hdv
            refine (val_any _ (n - s) (n - s) (zs.drop s) _ HDL.out (Rd.drop HRz.out s) HAD.out (by omega) (by omega) _ rfl HDV.out).mono ?_
            rintro e w6 ⟨rfl, hw6⟩
            subst hw6
            generalize ((dv (zs.drop s) : Nat) : Int) = V
            clear HDV
            go_wp2_with fail
            rcases HW2.out with ⟨hcon, _⟩ | ⟨_, rfl, rfl⟩
            · exact absurd hcon hns
            refine (same_yes _ _ s n s n (zs.take s) _ ?_ ?_ ?_ ?_ (by omega)).mono ?_
            · rw [List.length_take]; have := HN.out; omega
            · rw [List.length_take]; have := HN.out; omega
            · exact HRz.out.take _
            · exact HRz.out.take _
            rintro e w9 ⟨rfl, hb9⟩
            have HB9 := hid (HBz.out.trans (hb9.mono HBz.out.size))
            clear hb9 HRz HBz
            go_wp2
            go_ret
            exact ⟨by simp, HB9.out⟩
end Go.Proofs.Qxb6603783aDoor
