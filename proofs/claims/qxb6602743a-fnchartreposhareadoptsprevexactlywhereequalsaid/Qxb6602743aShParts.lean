/-
  PARTS: slices of strings in memory (a slice of structs of three strings reads as three times as many strings).
-/
import Derived.WalkKit
import Derived.Deep.QuietTactic
import Derived.WalkSpells
import Derived.WalkLawsBesides
import Derived.BigQuiet
import Derived.Laws.OwnMore
import Derived.Test.Qxb6602743aRows
namespace Go.Proofs.Qxb6602743a
open Go.RowKit

theorem shid {p : Prop} (h : p) : Hid p := h

/-- From 'ao' on the strings ss lie in memory. -/
def Ss (w : World) (ao : Option Addr) (ss : List ByteArray) : Prop :=
  ∀ j, j < ss.length → ∃ x, ao = some x ∧ w.cell? (x.add j) = some (.string (ss.getD j ByteArray.empty))

theorem Ss.nil (w : World) (ao : Option Addr) : Ss w ao [] := fun j h => absurd h (by simp)
theorem Ss.kept {w w' : World} {ao : Option Addr} {ss : List ByteArray} (h : Ss w ao ss) (hb : Below w.heap.size w w') : Ss w' ao ss := by
  intro j hj
  obtain ⟨x, hx, hc⟩ := h j hj
  refine ⟨x, hx, ?_⟩
  rw [hb.cell (p := x.add j) (World.block_lt_of_cell? w _ hc)]
  exact hc
theorem Ss.at {w : World} {ao : Option Addr} {ss : List ByteArray} (h : Ss w ao ss) (hn : 0 < ss.length) :
    ∃ b off, ao = some ⟨b, off, none⟩ ∧ b < w.heap.size ∧ ∀ j, j < ss.length → w.cell? ⟨b, off + j, none⟩ = some (.string (ss.getD j ByteArray.empty)) := by
  obtain ⟨x, hx, hc⟩ := h 0 hn
  obtain ⟨b, off, spot⟩ := x
  have hspot : spot = none := by simpa [Addr.add] using World.cell?_spot hc
  subst hspot
  refine ⟨b, off, hx, World.block_lt_of_cell? w _ hc, fun j hj => ?_⟩
  obtain ⟨y, hy, hcy⟩ := h j hj
  rw [hx] at hy
  obtain rfl := Option.some.inj hy
  rw [Addr.add_lit] at hcy
  exact hcy
theorem ss_of_cells {w : World} {g o : Nat} {ss : List ByteArray} (h : ∀ j, j < ss.length → w.cell? ⟨g, o + j, none⟩ = some (.string (ss.getD j ByteArray.empty))) : Ss w (some ⟨g, o, none⟩) ss :=
  fun j hj => ⟨_, rfl, by rw [Addr.add_lit]; exact h j hj⟩

theorem stake_succ (xs ys : List ByteArray) (k : Nat) (h : xs.take k = ys.take k) (hx : k < xs.length) (hy : k < ys.length) (e : xs.getD k ByteArray.empty = ys.getD k ByteArray.empty) : xs.take (k + 1) = ys.take (k + 1) := by
  rw [List.take_add_one, List.take_add_one, h]
  simp only [List.getD, List.getElem?_eq_getElem hx, List.getElem?_eq_getElem hy, Option.getD_some] at e
  rw [List.getElem?_eq_getElem hx, List.getElem?_eq_getElem hy, e]

theorem sinfo9 : (Try.prog.info? 9).map (fun i => (i.zero, i.size, i.bytes)) = some (some (.string ByteArray.empty), 1, 16) := by kernel_rfl

theorem str_ne {a b : ByteArray} (h : ¬ a = b) : (a.toList == b.toList) = false := by
  rw [ByteArray.toList_eq, ByteArray.toList_eq]
  apply Bool.eq_false_iff.2
  intro h'
  exact h (ByteArray.ext (Array.ext' (eq_of_beq h')))

set_option maxHeartbeats 400000 in
theorem samestrs_any (a b : Option Addr) (n c m d : Nat) (xs ys : List ByteArray) (w : World) (hn : xs.length = n) (hm : ys.length = m) (hx : Ss w a xs) (hy : Ss w b ys) (hmax : n ≤ 140737488355328) :
    Calls Try.prog 15 #[.slice a n c, .slice b m d] w fun e w' => e = .returned (.bool (decide (xs = ys))) ∧ Below w.heap.size w w' := by
  by_cases hnm : n = m
  · subst hnm
    by_cases h0 : n = 0
    · have : decide (xs = ys) = true := by
        apply decide_eq_true
        rw [List.eq_nil_of_length_eq_zero (hn.trans h0), List.eq_nil_of_length_eq_zero (hm.trans h0)]
      clear hx hy
      subst h0
      go_enter Try.func15, Try.ntmps15
      go_wp2
      refine wp_loop_rounds 1 ?_
      rw [rounds_succ]
      go_wp2
      go_ret
      exact ⟨by rw [this]; rfl, Below.refl _ _⟩
    · obtain ⟨b1, o1, rfl, _, hc1⟩ := hx.at (by omega)
      obtain ⟨b2, o2, rfl, _, hc2⟩ := hy.at (by omega)
      have HN : Hid (xs.length = n) := hn
      have HM : Hid (ys.length = n) := hm
      rw [hn] at hc1
      rw [hm] at hc2
      clear hx hy hn hm
      go_enter Try.func15, Try.ntmps15
      go_wp2
      go_loopw [5] (fun i wr => ∃ k : Nat, k ≤ n ∧ i = .int .i64 k ∧ xs.take k = ys.take k ∧ ∃ q, wr = w.drewN q) (fun i _ => n - (intOf i).toNat)
      case atStart => exact ⟨0, Nat.zero_le _, rfl, rfl, 0, rfl⟩
      case round =>
        obtain ⟨k, hk, rfl, htk, q, rfl⟩ := hrel
        have HT : Hid (xs.take k = ys.take k) := htk
        clear htk
        by_cases hlt : k < n
        · have g1 := hc1 k hlt
          have g2 := hc2 k hlt
          clear hc1 hc2
          obtain ⟨s1, hs1⟩ : ∃ s, xs.getD k ByteArray.empty = s := ⟨_, rfl⟩
          obtain ⟨s2, hs2⟩ : ∃ s, ys.getD k ByteArray.empty = s := ⟨_, rfl⟩
          rw [hs1] at g1
          rw [hs2] at g2
          have HS1 : Hid (xs.getD k ByteArray.empty = s1) := hs1
          have HS2 : Hid (ys.getD k ByteArray.empty = s2) := hs2
          clear hs1 hs2
          by_cases he : s1 = s2
          · subst he
            go_wp2
            go_quiet (fail)
            go_wp2
            go_roundw
            case rel => exact ⟨k + 1, by omega, by go_num, stake_succ xs ys k HT.out (by have := HN.out; omega) (by have := HM.out; omega) (HS1.out.trans HS2.out.symm), _, rfl⟩
            case measure => simp [intOf]; omega
          · have hne := str_ne he
            go_wp2
            go_quiet (fail)
            go_wp2
            go_ret
            have : decide (xs = ys) = false := by
              apply decide_eq_false
              intro h; subst h; exact he (HS1.out.symm.trans HS2.out)
            exact ⟨by rw [this]; rfl, ⟨rfl, rfl, rfl, Nat.le_refl _, fun _ _ => rfl⟩⟩
        · go_wp2
          go_ret
          have : decide (xs = ys) = true := by
            apply decide_eq_true
            have h1 := HT.out
            have h2 := HN.out
            have h3 := HM.out
            rwa [List.take_of_length_le (by omega), List.take_of_length_le (by omega)] at h1
          exact ⟨by rw [this]; rfl, ⟨rfl, rfl, rfl, Nat.le_refl _, fun _ _ => rfl⟩⟩
  · go_enter Try.func15, Try.ntmps15
    go_wp2
    go_ret
    have : decide (xs = ys) = false := by
      apply decide_eq_false
      intro h; subst h; omega
    exact ⟨by rw [this]; rfl, Below.refl _ _⟩
set_option maxHeartbeats 400000 in
theorem eqstrs_any (a b : Option Addr) (n c m d : Nat) (xs ys : List ByteArray) (w : World) (hn : xs.length = n) (hm : ys.length = m) (hx : Ss w a xs) (hy : Ss w b ys) (hmax : n ≤ 140737488355328) :
    Calls Try.prog 36 #[.slice a n c, .slice b m d] w fun e w' => e = .returned (.bool (decide (xs = ys))) ∧ ∃ q, w' = w.drewN q := by
  by_cases hnm : n = m
  · subst hnm
    by_cases h0 : n = 0
    · have : decide (xs = ys) = true := by
        apply decide_eq_true
        rw [List.eq_nil_of_length_eq_zero (hn.trans h0), List.eq_nil_of_length_eq_zero (hm.trans h0)]
      clear hx hy
      subst h0
      go_enter Try.func36, Try.ntmps36
      go_wp2
      refine wp_loop_rounds 1 ?_
      rw [rounds_succ]
      go_wp2
      go_ret
      exact ⟨by rw [this]; rfl, 0, rfl⟩
    · obtain ⟨b1, o1, rfl, _, hc1⟩ := hx.at (by omega)
      obtain ⟨b2, o2, rfl, _, hc2⟩ := hy.at (by omega)
      have HN : Hid (xs.length = n) := hn
      have HM : Hid (ys.length = n) := hm
      rw [hn] at hc1
      rw [hm] at hc2
      clear hx hy hn hm
      go_enter Try.func36, Try.ntmps36
      go_wp2
      go_loopw [13] (fun i wr => ∃ k : Nat, k ≤ n ∧ i = .int .i64 k ∧ xs.take k = ys.take k ∧ ∃ q, wr = w.drewN q) (fun i _ => n - (intOf i).toNat)
      case atStart => exact ⟨0, Nat.zero_le _, rfl, rfl, 0, rfl⟩
      case round =>
        obtain ⟨k, hk, rfl, htk, q, rfl⟩ := hrel
        have HT : Hid (xs.take k = ys.take k) := htk
        clear htk
        by_cases hlt : k < n
        · have g1 := hc1 k hlt
          have g2 := hc2 k hlt
          clear hc1 hc2
          obtain ⟨s1, hs1⟩ : ∃ s, xs.getD k ByteArray.empty = s := ⟨_, rfl⟩
          obtain ⟨s2, hs2⟩ : ∃ s, ys.getD k ByteArray.empty = s := ⟨_, rfl⟩
          rw [hs1] at g1
          rw [hs2] at g2
          have HS1 : Hid (xs.getD k ByteArray.empty = s1) := hs1
          have HS2 : Hid (ys.getD k ByteArray.empty = s2) := hs2
          clear hs1 hs2
          by_cases he : s1 = s2
          · subst he
            go_wp2
            go_quiet (fail)
            go_wp2
            go_roundw
            case rel => exact ⟨k + 1, by omega, by go_num, stake_succ xs ys k HT.out (by have := HN.out; omega) (by have := HM.out; omega) (HS1.out.trans HS2.out.symm), _, rfl⟩
            case measure => simp [intOf]; omega
          · have hne := str_ne he
            go_wp2
            go_quiet (fail)
            go_wp2
            go_ret
            have : decide (xs = ys) = false := by
              apply decide_eq_false
              intro h; subst h; exact he (HS1.out.symm.trans HS2.out)
            exact ⟨by rw [this]; rfl, _, World.drewN_drewN _ _ _⟩
        · go_wp2
          go_ret
          have : decide (xs = ys) = true := by
            apply decide_eq_true
            have h1 := HT.out
            have h2 := HN.out
            have h3 := HM.out
            rwa [List.take_of_length_le (by omega), List.take_of_length_le (by omega)] at h1
          exact ⟨by rw [this]; rfl, q, rfl⟩
  · go_enter Try.func36, Try.ntmps36
    go_wp2
    go_ret
    have : decide (xs = ys) = false := by
      apply decide_eq_false
      intro h; subst h; omega
    exact ⟨by rw [this]; rfl, 0, rfl⟩

/-- What a fresh row of n zero cells holds. -/
theorem set_prefix {vs : List Value} {ss : List ByteArray} {k : Nat} (hk : k < vs.length) (h : ∀ j, j < k → vs[j]? = some (.string (ss.getD j ByteArray.empty))) :
    ∀ j, j < k + 1 → (vs.set k (.string (ss.getD k ByteArray.empty)))[j]? = some (.string (ss.getD j ByteArray.empty)) := by
  intro j hj
  by_cases e : j = k
  · subst e; rw [List.getElem?_set_self hk]
  · rw [List.getElem?_set_ne (by omega)]; exact h j (by omega)

set_option maxHeartbeats 400000 in
theorem clonestrs_any (a : Option Addr) (n c : Nat) (ss : List ByteArray) (w : World) (hn : ss.length = n) (hx : Ss w a ss) (ha : a = none → n = 0) (hmax : n ≤ 1048576) :
    Calls Try.prog 12 #[.slice a n c] w fun e w' => ∃ a', e = .returned (.slice a' n n) ∧ Ss w' a' ss ∧ (a' = none → n = 0) ∧ Below w.heap.size w w' := by
  obtain ⟨i0, hi, hz0, hz1, hz2⟩ := info_parts sinfo9
  cases a with
  | none =>
    obtain rfl := ha rfl
    have he := fun wx => Lib.run_eql_slice_nil (P := Try.prog) wx 22 9 none 0 c 0 0 Try.underlying22
    go_enter Try.func12, Try.ntmps12
    go_wp2
    go_ret
    refine ⟨none, rfl, ?_, Below.refl _ _⟩
    rw [List.eq_nil_of_length_eq_zero hn]; exact Ss.nil _ _
  | some x =>
    have he := fun wx => Lib.run_eql_slice_nil (P := Try.prog) wx 22 9 (some x) n c 0 0 Try.underlying22
    clear ha
    go_enter Try.func12, Try.ntmps12
    go_wp2_with (at_make; refine wpList_make_full _ rfl _ _ 22 rfl w.heap.size 9 i0 (.string ByteArray.empty) 1 Try.underlying22 hi hz0 hz1 _ _ _ _ n rfl rfl (by omega) (by omega) ?c1 ?c2 ?c3 ?_)
    case c1 => rw [hz2]; omega
    case c2 => unfold maxLen; omega
    case c3 => exact Nat.le_refl _
    intro w1 hown hgrow
    have hb1 : Below w.heap.size w w1 := (Below.refl _ _).grown hgrow (Nat.le_refl _) (fun k hk => by cases hk)
    obtain ⟨g, hg⟩ : ∃ g, g = w.heap.size := ⟨_, rfl⟩
    have hgl : w.heap.size ≤ g := by omega
    rw [← hg] at hown ⊢
    rw [hg] at hown
    have hcl : ∀ j, j < n → ∃ b off, x = ⟨b, off, none⟩ ∧ b < w.heap.size ∧ w.cell? ⟨b, off + j, none⟩ = some (.string (ss.getD j ByteArray.empty)) := by
      intro j hj
      obtain ⟨b, off, hxe, hbl, hc⟩ := hx.at (by omega)
      exact ⟨b, off, Option.some.inj hxe, hbl, hc j (by omega)⟩
    obtain ⟨v0, hown'⟩ : ∃ v0, w1.ownsRow w.heap.size 9 1 (.slice (some ⟨g, 0, none⟩) n n) n v0 := by rw [hg]; exact ⟨_, hown⟩
    have HO := shid hown'
    have HB := shid hb1
    have HN : Hid (ss.length = n) := hn
    have HG := shid hgl
    have HC := shid hcl
    clear hown hown' hgrow hb1 hx hn hg hgl hcl
    go_wp2
    go_loopw [4] (fun i wr => ∃ k : Nat, k ≤ n ∧ i = .int .i64 k ∧ ∃ vs, wr.ownsRow w.heap.size 9 1 (.slice (some ⟨g, 0, none⟩) n n) n vs ∧ (∀ j, j < k → vs[j]? = some (.string (ss.getD j ByteArray.empty))) ∧ Below w.heap.size w wr) (fun i _ => n - (intOf i).toNat)
    case atStart => exact ⟨0, Nat.zero_le _, rfl, v0, HO.out, (fun j hj => absurd hj (by omega)), HB.out⟩
    case round =>
      obtain ⟨k, hk, rfl, vs, hO, hV, hB⟩ := hrel
      have HO2 := shid hO
      have HV := shid hV
      have HB2 := shid hB
      clear hO hV hB HO HB
      by_cases hlt : k < n
      · obtain ⟨b, off, rfl, hbl, hc⟩ := HC.out k hlt
        have g1 := (HB2.out.cell (p := ⟨b, off + k, none⟩) hbl).trans hc
        have hvl : vs.length = n := by have := HO2.out.1; omega
        have g2 := HO2.out.cellAt k (by omega)
        rw [List.getElem?_eq_getElem (by omega)] at g2
        obtain ⟨vk, hvk⟩ : ∃ v, vs[k]'(by omega) = v := ⟨_, rfl⟩
        rw [hvk] at g2
        have g3 := HO2.out.frozenAt k
        have HVL := shid hvl
        clear hvk hc hvl
        go_wp2
        go_roundw
        case rel =>
          have hst := HO2.out.stored k (.string (ss.getD k ByteArray.empty))
          refine ⟨k + 1, by omega, by go_num, _, hst.1, set_prefix (by have := HVL.out; omega) HV.out, ?_⟩
          exact HB2.out.grown hst.2 HB2.out.size (fun j hj => by cases hj; exact HG.out)
        case measure => simp [intOf]; omega
      · go_wp2
        go_ret
        refine ⟨_, rfl, ss_of_cells fun j hj => ?_, (fun h => by cases h), HB2.out⟩
        have hj' : j < n := by have := HN.out; omega
        rw [Nat.zero_add, HO2.out.cellAt j (by omega)]
        exact HV.out j (by omega)
end Go.Proofs.Qxb6602743a
