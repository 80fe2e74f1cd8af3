/-
  WALKS: strconv.ParseUint at base 10, of a row of digits.
-/
import Derived.Test.Qxb6603783aDoorNum
import Derived.Laws.IdiomStrings
namespace Go.Proofs.Qxb6603783aDoor
open Go.RowKit

/-- '[]byte(s)': a new row that reads as s. -/
theorem run_bytes_rd {P : Program} (w : World) (src dst : TypeId) (s : ByteArray) (hs : P.underlying src = some .string) (hd : P.underlying dst = some (.slice 5)) (he : P.underlying 5 = some (.int .u8)) :
    ∃ cap w1, (convert src dst (.string s)).run P w = .ok (.slice (some ⟨w.heap.size, 0, none⟩) s.size cap) w1 ∧ s.size ≤ cap ∧ Rd w1 (some ⟨w.heap.size, 0, none⟩) (nums s) ∧ Below w.heap.size w w1 := by
  refine ⟨_, _, run_bytes_of_string (P := P) w src dst 5 s hs hd he, grownCap_ge w s.size 0 5, ?_, ?_⟩
  · refine rd_of_cells fun j hj => ?_
    rw [nums_len] at hj
    have hrow : (w.drew.alloc (.cells (bytesRow s (grownCap w s.size 0 5)) 5 ((bytesRow s (grownCap w s.size 0 5)).size, (bytesRow s (grownCap w s.size 0 5)).size + 1))).heap[w.heap.size]? = some (.cells (bytesRow s (grownCap w s.size 0 5)) 5 ((bytesRow s (grownCap w s.size 0 5)).size, (bytesRow s (grownCap w s.size 0 5)).size + 1)) := heap_alloc_new w.drew _
    rw [Nat.zero_add, cell_of_row _ w.heap.size j _ 5 _ hrow]
    have h1 : (nums s).getD j 0 = ((s[j]).toNat : Int) := by simp [List.getD, nums_get s j hj]
    rw [h1]
    unfold bytesRow
    rw [Array.getElem?_append_left (by simpa using hj)]
    simp
    exact ⟨s[j], Array.getElem?_eq_getElem hj, rfl⟩
  · exact (Below.refl w.heap.size w).drew.alloc (Nat.le_refl _) _

theorem mxOf_le (b : Int) (h0 : 0 ≤ b) (h1 : b ≤ 64) : mxOf b ≤ 18446744073709551615 ∧ 0 ≤ mxOf b := by
  have key : ∀ m : Fin 65, (2 ^ m.val - 1 : Int) ≤ 18446744073709551615 ∧ (0 : Int) ≤ 2 ^ m.val - 1 := by decide +kernel
  unfold mxOf
  split
  · decide
  · exact key ⟨b.toNat, by omega⟩

set_option maxRecDepth 100000 in
set_option maxHeartbeats 1000000 in
theorem pu_in (b : Int) (s : ByteArray) (w : World) (h0 : 0 ≤ b) (h1 : b ≤ 64) (hne : 0 < s.size) (hD : AllDig (nums s)) (hmax : s.size ≤ 140737488355328) :
    Calls Tryd.prog 33 #[.string s, .int .i64 10, .int .i64 b] w fun e w' => Below w.heap.size w w' ∧
      (((dv (nums s) : Int) ≤ mxOf b ∧ e = .returned (.tuple #[.int .u64 (dv (nums s) : Nat), .nilIface])) ∨ (mxOf b < (dv (nums s) : Int) ∧ e = .returned (.tuple #[.int .u64 (mxOf b), .iface 69 (.int .i64 1)]))) := by
  obtain ⟨cap, w1, hr, hcap, hrd, hb⟩ := run_bytes_rd (P := Tryd.prog) w 9 22 s Tryd.underlying9 Tryd.underlying22 Tryd.underlying5
  have hse : s.toList.isEmpty = false := by
    have : s.toList.length = s.size := by simp [ByteArray.toList_eq]
    cases h : s.toList with
    | nil => rw [h] at this; simp at this; omega
    | cons _ _ => rfl
  obtain ⟨M, hM⟩ : ∃ M, mxOf b = M := ⟨_, rfl⟩
  rw [hM]
  have hMle : M ≤ 18446744073709551615 ∧ 0 ≤ M := by rw [← hM]; exact mxOf_le b h0 h1
  have hM1 := hMle.1
  have hM2 := hMle.2
  have hcell : ∀ j, j < s.size → w1.cell? ⟨w.heap.size, j, none⟩ = some (.int .u8 ((nums s).getD j 0)) := by
    intro j hj
    obtain ⟨x, hx, hc⟩ := hrd j (by rw [nums_len]; exact hj)
    obtain rfl := Option.some.inj hx
    rw [Addr.add_lit, Nat.zero_add] at hc
    exact hc
  have HC : Hid _ := hcell
  have HB : Hid _ := hb
  have HD : Hid _ := hD
  have HM : Hid _ := hM
  clear hMle hcell hb hD hrd
  have start : (b = 0 ∧ IntKind.u64.wrap (IntKind.u64.wrap 18446744073709551616 - 1) = M) ∨ ((b == 0) = false ∧ decide (b < 0) = false ∧ decide (64 < b) = false ∧ IntKind.u64.wrap (IntKind.u64.wrap (2 ^ b.toNat) - 1) = M) := by
    by_cases hz : b = 0
    · subst hz
      exact .inl ⟨rfl, by rw [← HM.out]; decide +kernel⟩
    · refine .inr ⟨by simpa using hz, decide_eq_false (by omega), decide_eq_false (by omega), ?_⟩
      rw [mx_wrap b h0 h1, ← HM.out]; simp [mxOf, hz]
  clear hM
  rcases start with ⟨rfl, hm⟩ | ⟨hz, hd, hd2, hm⟩
  all_goals
    go_enter Tryd.func33, Tryd.ntmps33
    go_wp2
    go_loop [12, 13, 101] (fun u x i => ∃ (k : Nat) (a : Int), k ≤ s.size ∧ u = .bool false ∧ x = .int .u64 a ∧ i = .int .i64 k ∧ Hid ((dv ((nums s).take k) : Int) = a) ∧ 0 ≤ a ∧ a ≤ M) (fun _ _ i => s.size - (intOf i).toNat)
    case atStart => exact ⟨0, 0, Nat.zero_le _, rfl, rfl, rfl, rfl, by omega, hM2⟩
    case round =>
      obtain ⟨k, a, hk, rfl, rfl, rfl, HA, ha0, haM⟩ := hrel
      by_cases hlt : k < s.size
      · have hc := HC.out k hlt
        have hs := dv_take_succ (nums s) k (by rw [nums_len]; exact hlt)
        have hcd := HD.out ((nums s).getD k 0) (by rw [List.getD_eq_getElem?_getD, List.getElem?_eq_getElem (by rw [nums_len]; exact hlt)]; exact List.getElem_mem _)
        have hle := dv_take_le (nums s) (k + 1)
        generalize (nums s).getD k 0 = c at hc hs hcd
        have hs' : (dv ((nums s).take (k + 1)) : Int) = a * 10 + (c - 48) := by rw [hs]; have := HA.out; omega
        have HS : Hid _ := hs'
        have hle' : a * 10 + (c - 48) ≤ (dv (nums s) : Int) := by omega
        have HL : Hid _ := hle'
        have hc1 := hcd.1
        have hc2 := hcd.2
        have hc95 : (c == 95) = false := by simp; omega
        clear hs hcd hle hs' hle'
        by_cases hn : a * 10 + (c - 48) ≤ M
        · have icut : a < 1844674407370955162 := by omega
          have iov : a * 10 + (c - 48) < 18446744073709551616 := by omega
          have d1 : decide (a * 10 + (c - 48) < a * 10) = false := decide_eq_false (by omega)
          have d2 : decide (M < a * 10 + (c - 48)) = false := decide_eq_false (by omega)
          go_wp2
          go_round
          case rel => exact ⟨k + 1, a * 10 + (c - 48), by omega, rfl, rfl, by go_num, HS.out, by omega, hn⟩
          case measure => simp [intOf]; omega
        · have hbig : M < (dv (nums s) : Int) := by have := HL.out; omega
          have HBIG : Hid _ := hbig
          clear hbig
          by_cases hcut : 1844674407370955162 ≤ a
          · go_wp2
            go_ret2
            exact ⟨HB.out, .inr ⟨HBIG.out, rfl⟩⟩
          · have icut : a < 1844674407370955162 := by omega
            by_cases iov : a * 10 + (c - 48) < 18446744073709551616
            · have d1 : decide (a * 10 + (c - 48) < a * 10) = false := decide_eq_false (by omega)
              have d2 : M < a * 10 + (c - 48) := by omega
              go_wp2
              go_ret2
              exact ⟨HB.out, .inr ⟨HBIG.out, rfl⟩⟩
            · have hwr : IntKind.u64.wrap (a * 10 + (c - 48)) = a * 10 + (c - 48) - 18446744073709551616 := by
                rw [IntKind.wrap_u64]
                omega
              have d1 : a * 10 + (c - 48) - 18446744073709551616 < a * 10 := by omega
              go_wp2
              go_ret2
              exact ⟨HB.out, .inr ⟨HBIG.out, rfl⟩⟩
      · have hend : (dv (nums s) : Int) = a := by
          have := HA.out
          rwa [List.take_of_length_le (by rw [nums_len]; omega)] at this
        have HEND : Hid _ := hend
        clear hend
        go_wp2
        go_ret2
        refine ⟨HB.out, .inl ⟨?_, ?_⟩⟩
        · rw [HEND.out]; exact haM
        · rw [HEND.out]; rfl
end Go.Proofs.Qxb6603783aDoor
