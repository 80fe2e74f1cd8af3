/-
  WALKS: the small functions of the law's text: clone, compare.
-/
import Derived.Test.Qxb6603783aDoorRows
import Derived.Test.Qxb6603783aDoorParts
import Derived.WalkSpells
import Derived.WalkLawsBesides
import Derived.BigQuiet
import Derived.Laws.CopyOwn
namespace Go.Proofs.Qxb6603783aDoor
open Go.RowKit

theorem info5 : (Tryd.prog.info? 5).map (fun i => (i.zero, i.size, i.bytes)) = some (some (.int .u8 0), 1, 1) := by kernel_rfl

theorem take_eq_succ (xs ys : List Int) (k : Nat) (h : xs.take k = ys.take k) (hx : k < xs.length) (hy : k < ys.length) (e : xs[k]?.getD 0 = ys[k]?.getD 0) : xs.take (k + 1) = ys.take (k + 1) := by
  rw [List.take_add_one, List.take_add_one, h]
  rw [List.getElem?_eq_getElem hx, List.getElem?_eq_getElem hy] at e ⊢
  simp at e
  rw [e]

set_option maxHeartbeats 400000 in
theorem same_any (a b : Option Addr) (n c m d : Nat) (xs ys : List Int) (w : World) (hn : xs.length = n) (hm : ys.length = m) (hx : Rd w a xs) (hy : Rd w b ys) (hmax : n ≤ 140737488355328) :
    Calls Tryd.prog 11 #[.slice a n c, .slice b m d] w fun e w' => e = .returned (.bool (decide (xs = ys))) ∧ ∃ q, w' = w.drewN q := by
  by_cases hnm : n = m
  · subst hnm
    by_cases h0 : n = 0
    · have : decide (xs = ys) = true := by
        apply decide_eq_true
        rw [List.eq_nil_of_length_eq_zero (hn.trans h0), List.eq_nil_of_length_eq_zero (hm.trans h0)]
      clear hx hy
      subst h0
      go_enter Tryd.func11, Tryd.ntmps11
      go_wp2
      refine wp_loop_rounds 1 ?_
      rw [rounds_succ]
      go_wp2
      go_ret
      exact ⟨by rw [this]; rfl, 0, rfl⟩
    · obtain ⟨b1, o1, rfl, hc1⟩ := hx.at (by omega)
      obtain ⟨b2, o2, rfl, hc2⟩ := hy.at (by omega)
      have HN : Hid (xs.length = n) := hn
      have HM : Hid (ys.length = n) := hm
      rw [hn] at hc1
      rw [hm] at hc2
      clear hx hy hn hm
      go_enter Tryd.func11, Tryd.ntmps11
      go_wp2
      go_loopw [5] (fun i wr => ∃ k : Nat, k ≤ n ∧ i = .int .i64 k ∧ xs.take k = ys.take k ∧ ∃ q, wr = w.drewN q) (fun i _ => n - (intOf i).toNat)
      case atStart => exact ⟨0, Nat.zero_le _, rfl, rfl, 0, rfl⟩
      case round =>
        obtain ⟨k, hk, rfl, htk, q, rfl⟩ := hrel
        have HT : Hid (xs.take k = ys.take k) := htk
        clear htk
        by_cases hlt : k < n
        · have g1 := hc1 k hlt
          have g2 := hc2 k hlt
          clear hc1 hc2
          by_cases he : xs[k]?.getD 0 = ys[k]?.getD 0
          · go_wp2
            go_quiet (fail)
            go_wp2
            go_roundw
            case rel => exact ⟨k + 1, by omega, by go_num, take_eq_succ xs ys k HT.out (by have := HN.out; omega) (by have := HM.out; omega) he, _, rfl⟩
            case measure => simp [intOf]; omega
          · go_wp2
            go_quiet (fail)
            go_wp2
            go_ret
            have : decide (xs = ys) = false := by
              apply decide_eq_false
              intro h; subst h; exact he rfl
            exact ⟨by rw [this]; rfl, _, World.drewN_drewN _ _ _⟩
        · go_wp2
          go_ret
          have : decide (xs = ys) = true := by
            apply decide_eq_true
            have h1 := HT.out
            have h2 := HN.out
            have h3 := HM.out
            rwa [List.take_of_length_le (by omega), List.take_of_length_le (by omega)] at h1
          exact ⟨by rw [this]; rfl, q, rfl⟩
  · go_enter Tryd.func11, Tryd.ntmps11
    go_wp2
    go_ret
    have : decide (xs = ys) = false := by
      apply decide_eq_false
      intro h; subst h; omega
    exact ⟨by rw [this]; rfl, 0, rfl⟩

theorem hex_any (c : Int) (w : World) (n : Int) (h0 : 0 ≤ n) (h1 : n ≤ 15) (hc : c = hexd n) :
    Calls Tryd.prog 24 #[.int .u8 c] w fun e w' => e = .returned (.tuple #[.int .u8 n, .bool true]) ∧ w' = w := by
  rcases hexd_cases n h0 h1 with ⟨h2, h3, h4, h5⟩ | ⟨h2, h3, h4, h5⟩
  · rw [hc, h3]
    clear hc h3 h4 h5
    go_enter Tryd.func24, Tryd.ntmps24
    go_wp2
    go_ret2
    exact ⟨by simp; omega, rfl⟩
  · rw [hc, h3]
    clear hc h3 h4 h5
    go_enter Tryd.func24, Tryd.ntmps24
    go_wp2
    go_ret2
    exact ⟨by simp; omega, rfl⟩

/-- 'copy(c, b)' into a row of the call's own, as long as b. -/
theorem run_copy_whole {P : Program} (t ty : TypeId) (ht : P.underlying t = some (.slice 5)) (hsz : (P.info? 5).map (·.size) = some 1) (B g n c : Nat) (x : Addr) (zs : List Int) (W0 w : World) (cur : Array Value)
    (hg : w.heap[g]? = some (.cells cur 5 (0, 0))) (hcs : cur.size = n) (hn : zs.length = n) (hx : Rd w (some x) zs) (hB : B ≤ g) (hb : Below B W0 w) :
    ∃ w2, (Builtin.copy_ #[t, t] ty #[.slice (some ⟨g, 0, none⟩) n n, .slice (some x) n c]).run P w = .ok (goInt n) w2 ∧ Rd w2 (some ⟨g, 0, none⟩) zs ∧ Below B W0 w2 := by
  by_cases h0 : n = 0
  · have hr := run_copy_none (P := P) w t t ty 5 (some ⟨g, 0, none⟩) (some x) n n n c ht hsz (by simp [h0])
    refine ⟨w, ?_, ?_, hb⟩
    · rw [hr, h0]; rfl
    · rw [List.eq_nil_of_length_eq_zero (hn.trans h0)]; exact Rd.nil _ _
  · have hmin : Nat.min n n = n := Nat.min_self n
    have hsrc : ∀ j v, (u8s zs)[j]? = some v → w.cell? (x.add j) = some v := by
      intro j v hj
      have hjl : j < zs.length := by have := (List.getElem?_eq_some_iff.1 hj).1; rwa [u8s_len] at this
      obtain ⟨y, hy, hc⟩ := hx j hjl
      obtain rfl := Option.some.inj hy
      rw [hc, ← hj, u8s_get zs j hjl]
    have hr := run_copy_row (P := P) w t t ty 5 g 0 n n x n c cur 5 (u8s zs) ht hsz hg (by rw [u8s_len, hn, hmin]) hsrc (by rw [u8s_len]; omega) (ints_oneCell _ _)
    refine ⟨_, by rw [hr, u8s_len, hn], ?_, below_setRow hb hB _⟩
    have hrow : cur.toList.take 0 ++ u8s zs ++ cur.toList.drop (0 + n) = u8s zs := by
      have : cur.toList.drop (0 + n) = [] := by apply List.drop_eq_nil_of_le; simp; omega
      rw [this]; simp
    rw [hrow]
    refine rd_of_cells fun j hj => ?_
    rw [Nat.zero_add, cell_of_row _ g j (u8s zs).toArray 5 (0, 0) (setRow_heap w g cur _ 5 _ hg)]
    simpa using u8s_get zs j hj

set_option maxHeartbeats 400000 in
theorem clone_any (a : Option Addr) (n c : Nat) (zs : List Int) (w : World) (hn : zs.length = n) (hx : Rd w a zs) (ha : a = none → n = 0) (hmax : n ≤ 140737488355328) :
    Calls Tryd.prog 7 #[.slice a n c] w fun e w' => ∃ a', e = .returned (.slice a' n n) ∧ Rd w' a' zs ∧ (a' = none → n = 0) ∧ Below w.heap.size w w' := by
  obtain ⟨i0, hi, hz0, hz1, hz2⟩ := info_parts info5
  cases a with
  | none =>
    obtain rfl := ha rfl
    have he := fun wx => Lib.run_eql_slice_nil (P := Tryd.prog) wx 22 5 none 0 c 0 0 Tryd.underlying22
    go_enter Tryd.func7, Tryd.ntmps7
    go_wp2
    go_ret
    refine ⟨none, rfl, ?_, Below.refl _ _⟩
    rw [List.eq_nil_of_length_eq_zero hn]; exact Rd.nil _ _
  | some x =>
    have he := fun wx => Lib.run_eql_slice_nil (P := Tryd.prog) wx 22 5 (some x) n c 0 0 Tryd.underlying22
    clear ha
    go_enter Tryd.func7, Tryd.ntmps7
    go_wp2_with (at_make; refine wpList_make_full _ rfl _ _ 22 rfl w.heap.size 5 i0 (.int .u8 0) 1 Tryd.underlying22 hi hz0 hz1 _ _ _ _ n rfl rfl (by omega) (by omega) ?c1 ?c2 ?c3 ?_)
    case c1 => rw [hz2]; omega
    case c2 => unfold maxLen; omega
    case c3 => exact Nat.le_refl _
    intro w1 hown hgrow
    have hb1 : Below w.heap.size w w1 := (Below.refl _ _).grown hgrow (Nat.le_refl _) (fun k hk => by cases hk)
    obtain ⟨cur, hg, hcs⟩ : ∃ cur : Array Value, w1.heap[w.heap.size]? = some (.cells cur 5 (0, 0)) ∧ cur.size = n := by
      rcases hown.2 with ⟨h1, _⟩ | ⟨g, cap, cur, h1, _, h3, _, _, h4, _⟩
      · cases h1
      · simp at h1
        obtain ⟨rfl, rfl⟩ := h1
        exact ⟨cur, h3, by omega⟩
    obtain ⟨w2, hr, hrd, hb2⟩ := run_copy_whole (P := Tryd.prog) 22 3 Tryd.underlying22 (by rw [hi]; simp [hz1]) w.heap.size w.heap.size n c x zs w w1 cur hg hcs hn (hx.kept hb1) (Nat.le_refl _) hb1
    clear hg hown hgrow hcs hb1 hx
    go_wp2
    go_ret
    exact ⟨_, rfl, hrd, (fun h => by cases h), hb2⟩
end Go.Proofs.Qxb6603783aDoor
