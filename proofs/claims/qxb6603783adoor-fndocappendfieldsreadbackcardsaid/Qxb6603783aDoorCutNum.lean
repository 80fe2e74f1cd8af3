/-
  WALK: cutNumberSuffix.
-/
import Derived.Test.Qxb6603783aDoorCut
namespace Go.Proofs.Qxb6603783aDoor
open Go.RowKit

theorem cutAt_le (zs : List Int) : cutAt zs ≤ zs.length := cutF_le _ _
theorem cutF_step (i : Nat) (zs : List Int) (h0 : 0 < i) (hd : isDig (zs.getD (i - 1) 0) = true) : cutF (i - 1) zs = cutF i zs := by
  obtain ⟨j, rfl⟩ : ∃ j, i = j + 1 := ⟨i - 1, by omega⟩
  rw [Nat.add_sub_cancel] at hd ⊢
  conv => rhs; unfold cutF
  rw [if_pos hd]
theorem cutF_here (i : Nat) (zs : List Int) (h : ¬ (0 < i ∧ isDig (zs.getD (i - 1) 0) = true)) : cutF i zs = i := by
  cases i with
  | zero => rfl
  | succ j =>
    unfold cutF
    rw [if_neg]
    intro hd
    exact h ⟨by omega, by simpa using hd⟩

theorem nums_bytes (s : ByteArray) : Bytes (nums s) := by
  intro c hc
  simp only [nums, List.mem_map] at hc
  obtain ⟨b, _, rfl⟩ := hc
  have := b.toNat_lt
  omega

set_option maxRecDepth 100000 in
set_option maxHeartbeats 1000000 in
/-- A number stands at the end. -/
theorem cutnum_yes (a : Option Addr) (n c : Nat) (zs : List Int) (name : ByteArray) (b : Int) (w : World) (hn : zs.length = n) (hx : Rd w a zs) (hbz : Bytes zs) (hnc : n ≤ c) (hmax : n ≤ 140737488355328)
    (I : Nat) (hI : cutAt zs = I) (hIn : I < n) (hld : n - I = 1 ∨ zs.getD I 0 ≠ 48)
    (h27 : Calls Tryd.prog 27 #[.string (strOfNums (zs.drop I)), .int .i64 10, .int .i64 b] w (PuOut b (zs.drop I) w))
    (F : Bool) (hF : endsB (zs.take I) (nums name) = F) (r : Nat) (hr : (if F = true then I - name.size else I) = r) (x : Int) (hxv : puVal b (zs.drop I) = x) (K : Bool) (hK : puOk b (zs.drop I) = K) :
    Calls Tryd.prog 23 #[.slice a n c, .string name, .int .i64 b] w fun e w' => Below w.heap.size w w' ∧ e = .returned (.tuple #[.slice a r c, .int .u64 x, .bool (F && K)]) := by
  obtain ⟨b1, o1, rfl, hc1⟩ := hx.at (by omega)
  have hcI := hc1 I (by omega)
  have hrdI : Rd w (some ⟨b1, o1 + I, none⟩) (zs.drop I) := by
    refine rd_of_cells fun j hj => ?_
    rw [List.length_drop] at hj
    rw [Nat.add_assoc, hc1 (I + j) (by omega)]
    simp [List.getD]
  have e1 := run_str_rd (P := Tryd.prog) w 22 9 (some ⟨b1, o1 + I, none⟩) (n - I) (c - I) (zs.drop I) Tryd.underlying22 Tryd.underlying5 Tryd.underlying9 (by rw [List.length_drop]; omega) hrdI
  have hlI : Hid ((zs.take I).length = I) := by show _ = _; rw [List.length_take]; omega
  have hrdT := hx.take I
  have hbT := hbz.take I
  have HRT : Hid (Rd w (some ⟨b1, o1, none⟩) (zs.take I)) := hrdT
  have HBT : Hid (Bytes (zs.take I)) := hbT
  have HN : Hid _ := hn
  have HC : Hid _ := hc1
  have H27 : Hid (Calls Tryd.prog 27 #[.string (strOfNums (zs.drop I)), .int .i64 10, .int .i64 b] w (PuOut b (zs.drop I) w)) := h27
  have HI : Hid _ := hI
  have HF : Hid _ := hF
  have HR : Hid _ := hr
  have HXV : Hid _ := hxv
  have HK : Hid _ := hK
  have hlast : ((zs.getD I 0 == 48) = false) ∨ (n ≤ I + 1 ∧ (zs.getD I 0 == 48) = true) := by
    by_cases h : zs.getD I 0 = 48
    · right
      rcases hld with h1 | h1
      · exact ⟨by omega, by simpa using h⟩
      · exact absurd h h1
    · left; simpa using h
  have HLA : Hid _ := hlast
  generalize zs.getD I 0 = d0 at hcI hlast HLA
  generalize strOfNums (zs.drop I) = S at e1 H27
  clear hx hn hc1 hbz hrdT hbT hrdI h27 hI hF hr hxv hK hlast hld
  go_enter Tryd.func23, Tryd.ntmps23
  go_wp2
  go_loop [9] (fun x => ∃ i : Nat, i ≤ n ∧ x = .int .i64 i ∧ Hid (cutF i zs = I)) (fun x => (intOf x).toNat)
  case atStart => exact ⟨n, Nat.le_refl _, rfl, by show cutF n zs = I; rw [← HI.out]; unfold cutAt; rw [HN.out]⟩
  case round =>
    obtain ⟨i, hi, rfl, HJ⟩ := hrel
    by_cases hgo : 0 < i ∧ isDig (zs.getD (i - 1) 0) = true
    · have hc := HC.out (i - 1) (by rw [HN.out]; omega)
      have hst : Hid (cutF (i - 1) zs = I) := by show _ = _; rw [cutF_step i zs hgo.1 hgo.2]; exact HJ.out
      have hdig := (isDig_iff _).1 hgo.2
      have hpos := hgo.1
      generalize zs.getD (i - 1) 0 = v at hc hdig
      have hv1 := hdig.1
      have hv2 := hdig.2
      clear hgo hdig HJ
      go_wp2
      go_round
      case rel => exact ⟨i - 1, by omega, by go_num, hst⟩
      case measure => simp [intOf]; omega
    · have hiI : i = I := by rw [← cutF_here i zs hgo]; exact HJ.out
      subst hiI
      have hways : (i ≤ 0 ∧ decide ((0 : Int) < (i : Int)) = false) ∨ (0 < i ∧ ∃ v, w.cell? ⟨b1, o1 + (i - 1), none⟩ = some (.int .u8 v) ∧ v < 48 ∧ decide (48 ≤ v) = false) ∨ (0 < i ∧ ∃ v, w.cell? ⟨b1, o1 + (i - 1), none⟩ = some (.int .u8 v) ∧ 48 ≤ v ∧ 57 < v ∧ decide (v ≤ 57) = false) := by
        by_cases h0 : 0 < i
        · have hc := HC.out (i - 1) (by rw [HN.out]; omega)
          have hnd : ¬ (48 ≤ zs.getD (i - 1) 0 ∧ zs.getD (i - 1) 0 ≤ 57) := fun h => hgo ⟨h0, (isDig_iff _).2 h⟩
          by_cases h48 : 48 ≤ zs.getD (i - 1) 0
          · exact .inr (.inr ⟨h0, _, hc, h48, by omega, decide_eq_false (by omega)⟩)
          · exact .inr (.inl ⟨h0, _, hc, by omega, decide_eq_false (by omega)⟩)
        · exact .inl ⟨by omega, decide_eq_false (by omega)⟩
      clear hgo HJ
      have hq : ((d0 == 48) = false) ∨ ((d0 == 48) = true ∧ decide ((1 : Int) < ((n - i : Nat) : Int)) = false) := by
        rcases HLA.out with q0 | ⟨q0, q1⟩
        · exact .inl q0
        · exact .inr ⟨q1, decide_eq_false (by omega)⟩
      have z0 : (((n - i : Nat) : Int) == 0) = false := by rw [beq_eq_false_iff_ne]; omega
      rcases hq with q0 | ⟨q0, q1⟩
      all_goals rcases hways with ⟨hz, hd⟩ | ⟨hp, v, hcv, hv1, hv2⟩ | ⟨hp, v, hcv, hv1, hv2, hv3⟩
      all_goals
        go_wp2_with fail
        refine H27.out.mono ?_
        rintro e w2 ⟨err, rfl, hb2, herr⟩
        rw [HXV.out]
        obtain ⟨capn, w3, hrn, _, hrdn, hb3⟩ := run_bytes_rd (P := Tryd.prog) w2 9 22 name Tryd.underlying9 Tryd.underlying22 Tryd.underlying5
        have HRN : Hid (Rd w3 (some ⟨w2.heap.size, 0, none⟩) (nums name)) := hrdn
        have hb : Below w.heap.size w w3 := hb2.trans (hb3.mono hb2.size)
        have HRT3 : Hid (Rd w3 (some ⟨b1, o1, none⟩) (zs.take i)) := HRT.out.kept hb
        have HERR : Hid ((K = true ∧ err = .nilIface) ∨ (K = false ∧ ∃ t p, err = .iface t p)) := by rw [HK.out] at herr; exact herr
        clear hb2 hb3 hrdn herr
        have HTN : Hid ((zs.take i).length = i) := hlI
        go_wp2_with fail
        refine (cutsuf_any _ _ _ _ _ _ (zs.take i) (nums name) _ ?t1 (nums_len name) HRT3.out HRN.out HBT.out (nums_bytes name) ?t2 ?t3).mono ?_
        case t1 => have := HTN.out; omega
        case t2 => omega
        case t3 => omega
        rintro e w4 ⟨rfl, rfl⟩
        rw [HF.out]
        first | rw [HR.out] | rw [show (0 : Nat) = i from by omega, HR.out]
        clear HRT3 HRN HTN
        cases F
        · go_wp2_with fail
          go_quiet (fail)
          go_wp2
          go_ret3
          exact ⟨below_drewN hb _, rfl⟩
        · rcases HERR.out with ⟨rfl, rfl⟩ | ⟨rfl, t, p, rfl⟩
          · go_wp2_with fail
            go_quiet (fail)
            go_wp2
            go_ret3
            exact ⟨below_drewN hb _, rfl⟩
          · go_wp2_with fail
            go_quiet (fail)
            go_wp2
            go_ret3
            exact ⟨below_drewN hb _, rfl⟩
end Go.Proofs.Qxb6603783aDoor
