/-
  WALKS: slices of structs of three strings: copies.
-/
import Derived.Test.Qxb6602743aShParts
namespace Go.Proofs.Qxb6602743a
open Go.RowKit

theorem sinfo46 : (Try.prog.info? 46).map (fun i => (i.zero, i.size, i.bytes)) = some (some (.agg #[.string ByteArray.empty, .string ByteArray.empty, .string ByteArray.empty]), 3, 48) := by kernel_rfl

theorem sinfo51 : (Try.prog.info? 51).map (fun i => (i.zero, i.size, i.bytes)) = some (some (.agg #[.string ByteArray.empty, .string ByteArray.empty, .string ByteArray.empty]), 3, 48) := by kernel_rfl

theorem stored3 {W wr : World} {e : TypeId} {g n k : Nat} {vs : List Value} {ss : List ByteArray} (h : wr.ownsRow W.heap.size e 3 (.slice (some ⟨g, 0, none⟩) n n) n vs) (hB : Below W.heap.size W wr) (hg : W.heap.size ≤ g) (hk : k < n)
    (hV : ∀ j, j < k * 3 → vs[j]? = some (.string (ss.getD j ByteArray.empty))) :
    ∃ vs', (((wr.setCell ⟨g, k * 3, none⟩ (.string (ss[k * 3]?.getD ByteArray.empty))).setCell ⟨g, k * 3 + 1, none⟩ (.string (ss[k * 3 + 1]?.getD ByteArray.empty))).setCell ⟨g, k * 3 + 2, none⟩ (.string (ss[k * 3 + 2]?.getD ByteArray.empty))).ownsRow W.heap.size e 3 (.slice (some ⟨g, 0, none⟩) n n) n vs' ∧
      (∀ j, j < (k + 1) * 3 → vs'[j]? = some (.string (ss.getD j ByteArray.empty))) ∧
      Below W.heap.size W (((wr.setCell ⟨g, k * 3, none⟩ (.string (ss[k * 3]?.getD ByteArray.empty))).setCell ⟨g, k * 3 + 1, none⟩ (.string (ss[k * 3 + 1]?.getD ByteArray.empty))).setCell ⟨g, k * 3 + 2, none⟩ (.string (ss[k * 3 + 2]?.getD ByteArray.empty))) := by
  have hl : vs.length = n * 3 := h.1
  have h1 := h.stored (k * 3) (.string (ss.getD (k * 3) ByteArray.empty))
  have b1 := hB.grown h1.2 hB.size (fun j hj => by cases hj; exact hg)
  have h2 := h1.1.stored (k * 3 + 1) (.string (ss.getD (k * 3 + 1) ByteArray.empty))
  have b2 := b1.grown h2.2 b1.size (fun j hj => by cases hj; exact hg)
  have h3 := h2.1.stored (k * 3 + 2) (.string (ss.getD (k * 3 + 2) ByteArray.empty))
  have b3 := b2.grown h3.2 b2.size (fun j hj => by cases hj; exact hg)
  have p1 := set_prefix (ss := ss) (by omega) hV
  have p2 := set_prefix (ss := ss) (by rw [List.length_set]; omega) p1
  have p3 := set_prefix (ss := ss) (by rw [List.length_set, List.length_set]; omega) p2
  exact ⟨_, h3.1, fun j hj => p3 j (by omega), b3⟩

set_option maxHeartbeats 400000 in
theorem clonemaints_any (a : Option Addr) (n c : Nat) (ss : List ByteArray) (w : World) (hn : ss.length = n * 3) (hx : Ss w a ss) (ha : a = none → n = 0) (hmax : n ≤ 1048576) :
    Calls Try.prog 13 #[.slice a n c] w fun e w' => ∃ a', e = .returned (.slice a' n n) ∧ Ss w' a' ss ∧ (a' = none → n = 0) ∧ Below w.heap.size w w' := by
  obtain ⟨i0, hi, hz0, hz1, hz2⟩ := info_parts sinfo46
  cases a with
  | none =>
    obtain rfl := ha rfl
    have he := fun wx => Lib.run_eql_slice_nil (P := Try.prog) wx 23 46 none 0 c 0 0 Try.underlying23
    go_enter Try.func13, Try.ntmps13
    go_wp2
    go_ret
    refine ⟨none, rfl, ?_, Below.refl _ _⟩
    rw [List.eq_nil_of_length_eq_zero hn]; exact Ss.nil _ _
  | some x =>
    have he := fun wx => Lib.run_eql_slice_nil (P := Try.prog) wx 23 46 (some x) n c 0 0 Try.underlying23
    clear ha
    go_enter Try.func13, Try.ntmps13
    go_wp2_with (at_make; refine wpList_make_full _ rfl _ _ 23 rfl w.heap.size 46 i0 (.agg #[.string ByteArray.empty, .string ByteArray.empty, .string ByteArray.empty]) 3 Try.underlying23 hi hz0 hz1 _ _ _ _ n rfl rfl (by omega) (by omega) ?c1 ?c2 ?c3 ?_)
    case c1 => rw [hz2]; omega
    case c2 => unfold maxLen; omega
    case c3 => exact Nat.le_refl _
    intro w1 hown hgrow
    have hb1 : Below w.heap.size w w1 := (Below.refl _ _).grown hgrow (Nat.le_refl _) (fun k hk => by cases hk)
    obtain ⟨g, hg⟩ : ∃ g, g = w.heap.size := ⟨_, rfl⟩
    have hgl : w.heap.size ≤ g := by omega
    rw [← hg] at hown ⊢
    rw [hg] at hown
    have hcl : 0 < n → ∃ b off, x = ⟨b, off, none⟩ ∧ b < w.heap.size ∧ ∀ j, j < n * 3 → w.cell? ⟨b, off + j, none⟩ = some (.string (ss.getD j ByteArray.empty)) := by
      intro hj
      obtain ⟨b, off, hxe, hbl, hc⟩ := hx.at (by omega)
      exact ⟨b, off, Option.some.inj hxe, hbl, by rw [hn] at hc; exact hc⟩
    obtain ⟨v0, hown'⟩ : ∃ v0, w1.ownsRow w.heap.size 46 3 (.slice (some ⟨g, 0, none⟩) n n) n v0 := by rw [hg]; exact ⟨_, hown⟩
    have HO := shid hown'
    have HB := shid hb1
    have HN : Hid (ss.length = n * 3) := hn
    have HG := shid hgl
    have HC := shid hcl
    clear hown hown' hgrow hb1 hx hn hg hgl hcl
    go_wp2
    go_loopw [4] (fun i wr => ∃ k : Nat, k ≤ n ∧ i = .int .i64 k ∧ ∃ vs, wr.ownsRow w.heap.size 46 3 (.slice (some ⟨g, 0, none⟩) n n) n vs ∧ (∀ j, j < k * 3 → vs[j]? = some (.string (ss.getD j ByteArray.empty))) ∧ Below w.heap.size w wr) (fun i _ => n - (intOf i).toNat)
    case atStart => exact ⟨0, Nat.zero_le _, rfl, v0, HO.out, (fun j hj => absurd hj (by omega)), HB.out⟩
    case round =>
      obtain ⟨k, hk, rfl, vs, hO, hV, hB⟩ := hrel
      have HO2 := shid hO
      have HV := shid hV
      have HB2 := shid hB
      clear hO hV hB HO HB
      by_cases hlt : k < n
      · obtain ⟨b, off, rfl, hbl, hc⟩ := HC.out (by omega)
        have hc0 := (HB2.out.cell (p := ⟨b, off + k * 3, none⟩) hbl).trans (hc (k * 3) (by omega))
        have hc1 := (HB2.out.cell (p := ⟨b, off + k * 3 + 1, none⟩) hbl).trans (hc (k * 3 + 1) (by omega))
        have hc2 := (HB2.out.cell (p := ⟨b, off + k * 3 + 2, none⟩) hbl).trans (hc (k * 3 + 2) (by omega))
        have hvl : vs.length = n * 3 := by have := HO2.out.1; omega
        obtain ⟨u0, u1, u2, g0, g1, g2⟩ : ∃ u0 u1 u2, wr.cell? ⟨g, k * 3, none⟩ = some u0 ∧ wr.cell? ⟨g, k * 3 + 1, none⟩ = some u1 ∧ wr.cell? ⟨g, k * 3 + 2, none⟩ = some u2 := by
          rw [HO2.out.cellAt (k * 3) (by omega), HO2.out.cellAt (k * 3 + 1) (by omega), HO2.out.cellAt (k * 3 + 2) (by omega)]
          exact ⟨_, _, _, List.getElem?_eq_getElem (by omega), List.getElem?_eq_getElem (by omega), List.getElem?_eq_getElem (by omega)⟩
        have f0 := HO2.out.frozenAt (k * 3)
        have f1 := HO2.out.frozenAt (k * 3 + 1)
        have f2 := HO2.out.frozenAt (k * 3 + 2)
        have HVL := shid hvl
        clear hc hvl
        go_wp2
        go_roundw
        case rel =>
          obtain ⟨vs', q1, q2, q3⟩ := stored3 HO2.out HB2.out HG.out hlt HV.out
          exact ⟨k + 1, by omega, by go_num, vs', q1, q2, q3⟩
        case measure => simp [intOf]; omega
      · go_wp2
        go_ret
        refine ⟨_, rfl, ss_of_cells fun j hj => ?_, (fun h => by cases h), HB2.out⟩
        have hj' : j < n * 3 := by have := HN.out; omega
        rw [Nat.zero_add, HO2.out.cellAt j (by omega)]
        exact HV.out j (by omega)
set_option maxHeartbeats 400000 in
theorem tomaints_any (a : Option Addr) (n c : Nat) (ss : List ByteArray) (w : World) (hn : ss.length = n * 3) (hx : Ss w a ss) (ha : a = none → n = 0) (hmax : n ≤ 1048576) :
    Calls Try.prog 14 #[.slice a n c] w fun e w' => ∃ a', e = .returned (.slice a' n n) ∧ Ss w' a' ss ∧ (a' = none → n = 0) ∧ Below w.heap.size w w' := by
  obtain ⟨i0, hi, hz0, hz1, hz2⟩ := info_parts sinfo51
  cases a with
  | none =>
    obtain rfl := ha rfl
    have he := fun wx => Lib.run_eql_slice_nil (P := Try.prog) wx 23 46 none 0 c 0 0 Try.underlying23
    go_enter Try.func14, Try.ntmps14
    go_wp2
    go_ret
    refine ⟨none, rfl, ?_, Below.refl _ _⟩
    rw [List.eq_nil_of_length_eq_zero hn]; exact Ss.nil _ _
  | some x =>
    have he := fun wx => Lib.run_eql_slice_nil (P := Try.prog) wx 23 46 (some x) n c 0 0 Try.underlying23
    clear ha
    go_enter Try.func14, Try.ntmps14
    go_wp2_with (at_make; refine wpList_make_full _ rfl _ _ 28 rfl w.heap.size 51 i0 (.agg #[.string ByteArray.empty, .string ByteArray.empty, .string ByteArray.empty]) 3 Try.underlying28 hi hz0 hz1 _ _ _ _ n rfl rfl (by omega) (by omega) ?c1 ?c2 ?c3 ?_)
    case c1 => rw [hz2]; omega
    case c2 => unfold maxLen; omega
    case c3 => exact Nat.le_refl _
    intro w1 hown hgrow
    have hb1 : Below w.heap.size w w1 := (Below.refl _ _).grown hgrow (Nat.le_refl _) (fun k hk => by cases hk)
    obtain ⟨g, hg⟩ : ∃ g, g = w.heap.size := ⟨_, rfl⟩
    have hgl : w.heap.size ≤ g := by omega
    rw [← hg] at hown ⊢
    rw [hg] at hown
    have hcl : 0 < n → ∃ b off, x = ⟨b, off, none⟩ ∧ b < w.heap.size ∧ ∀ j, j < n * 3 → w.cell? ⟨b, off + j, none⟩ = some (.string (ss.getD j ByteArray.empty)) := by
      intro hj
      obtain ⟨b, off, hxe, hbl, hc⟩ := hx.at (by omega)
      exact ⟨b, off, Option.some.inj hxe, hbl, by rw [hn] at hc; exact hc⟩
    obtain ⟨v0, hown'⟩ : ∃ v0, w1.ownsRow w.heap.size 51 3 (.slice (some ⟨g, 0, none⟩) n n) n v0 := by rw [hg]; exact ⟨_, hown⟩
    have HO := shid hown'
    have HB := shid hb1
    have HN : Hid (ss.length = n * 3) := hn
    have HG := shid hgl
    have HC := shid hcl
    clear hown hown' hgrow hb1 hx hn hg hgl hcl
    go_wp2
    go_loopw [4] (fun i wr => ∃ k : Nat, k ≤ n ∧ i = .int .i64 k ∧ ∃ vs, wr.ownsRow w.heap.size 51 3 (.slice (some ⟨g, 0, none⟩) n n) n vs ∧ (∀ j, j < k * 3 → vs[j]? = some (.string (ss.getD j ByteArray.empty))) ∧ Below w.heap.size w wr) (fun i _ => n - (intOf i).toNat)
    case atStart => exact ⟨0, Nat.zero_le _, rfl, v0, HO.out, (fun j hj => absurd hj (by omega)), HB.out⟩
    case round =>
      obtain ⟨k, hk, rfl, vs, hO, hV, hB⟩ := hrel
      have HO2 := shid hO
      have HV := shid hV
      have HB2 := shid hB
      clear hO hV hB HO HB
      by_cases hlt : k < n
      · obtain ⟨b, off, rfl, hbl, hc⟩ := HC.out (by omega)
        have hc0 := (HB2.out.cell (p := ⟨b, off + k * 3, none⟩) hbl).trans (hc (k * 3) (by omega))
        have hc1 := (HB2.out.cell (p := ⟨b, off + k * 3 + 1, none⟩) hbl).trans (hc (k * 3 + 1) (by omega))
        have hc2 := (HB2.out.cell (p := ⟨b, off + k * 3 + 2, none⟩) hbl).trans (hc (k * 3 + 2) (by omega))
        have hvl : vs.length = n * 3 := by have := HO2.out.1; omega
        obtain ⟨u0, u1, u2, g0, g1, g2⟩ : ∃ u0 u1 u2, wr.cell? ⟨g, k * 3, none⟩ = some u0 ∧ wr.cell? ⟨g, k * 3 + 1, none⟩ = some u1 ∧ wr.cell? ⟨g, k * 3 + 2, none⟩ = some u2 := by
          rw [HO2.out.cellAt (k * 3) (by omega), HO2.out.cellAt (k * 3 + 1) (by omega), HO2.out.cellAt (k * 3 + 2) (by omega)]
          exact ⟨_, _, _, List.getElem?_eq_getElem (by omega), List.getElem?_eq_getElem (by omega), List.getElem?_eq_getElem (by omega)⟩
        have f0 := HO2.out.frozenAt (k * 3)
        have f1 := HO2.out.frozenAt (k * 3 + 1)
        have f2 := HO2.out.frozenAt (k * 3 + 2)
        have HVL := shid hvl
        clear hc hvl
        go_wp2
        go_region
        go_wp2
        go_roundw
        case rel =>
          obtain ⟨vs', q1, q2, q3⟩ := stored3 HO2.out HB2.out HG.out hlt HV.out
          exact ⟨k + 1, by omega, by go_num, vs', q1.drew, q2, q3.drew⟩
        case measure => simp [intOf]; omega
      · go_wp2
        go_ret
        refine ⟨_, rfl, ss_of_cells fun j hj => ?_, (fun h => by cases h), HB2.out⟩
        have hj' : j < n * 3 := by have := HN.out; omega
        rw [Nat.zero_add, HO2.out.cellAt j (by omega)]
        exact HV.out j (by omega)
end Go.Proofs.Qxb6602743a
