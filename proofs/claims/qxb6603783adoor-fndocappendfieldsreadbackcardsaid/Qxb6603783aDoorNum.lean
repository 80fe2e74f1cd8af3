/-
  WALKS: the law's own helpers on numbers.
-/
import Derived.Test.Qxb6603783aDoorSmall
import Derived.Test.Qxb6603783aDoorDec
namespace Go.Proofs.Qxb6603783aDoor
open Go.RowKit

theorem isDig_any (c : Int) (w : World) : Calls Tryd.prog 14 #[.int .u8 c] w fun e w' => e = .returned (.bool (isDig c)) ∧ w' = w := by
  by_cases h : 48 ≤ c ∧ c ≤ 57
  · have e : isDig c = true := by simp [isDig, h]
    have h1 := h.1
    have h2 := h.2
    clear h
    go_enter Tryd.func14, Tryd.ntmps14
    go_wp2
    go_ret
    exact ⟨by rw [e]; rfl, rfl⟩
  · have e : isDig c = false := by simp [isDig, h]
    by_cases h1 : c < 48
    · have hd : decide (48 ≤ c) = false := decide_eq_false (by omega)
      go_enter Tryd.func14, Tryd.ntmps14
      go_wp2
      go_ret
      exact ⟨by rw [e]; rfl, rfl⟩
    · have h1' : 48 ≤ c := by omega
      have hd : decide (c ≤ 57) = false := decide_eq_false (by omega)
      clear h
      go_enter Tryd.func14, Tryd.ntmps14
      go_wp2
      go_ret
      exact ⟨rfl, rfl⟩

/-- The greatest number of 'b' bits; 0 bits: the width of int. -/
def mxOf (b : Int) : Int := if b = 0 then 18446744073709551615 else 2 ^ b.toNat - 1

theorem mx_wrap (b : Int) (h0 : 0 ≤ b) (h1 : b ≤ 64) : IntKind.u64.wrap (IntKind.u64.wrap (2 ^ b.toNat) - 1) = 2 ^ b.toNat - 1 := by
  have key : ∀ m : Fin 65, IntKind.u64.wrap (IntKind.u64.wrap (2 ^ m.val) - 1) = 2 ^ m.val - 1 := by decide +kernel
  exact key ⟨b.toNat, by omega⟩

theorem maxFor_no (b : Int) (w : World) (h : b < 0 ∨ 64 < b) : Calls Tryd.prog 15 #[.int .i64 b] w fun e w' => e = .returned (.tuple #[.int .u64 0, .bool false]) ∧ w' = w := by
  rcases h with h | h
  · go_enter Tryd.func15, Tryd.ntmps15
    go_wp2
    go_ret2
    exact ⟨rfl, rfl⟩
  · have hd : decide (b < 0) = false := decide_eq_false (by omega)
    go_enter Tryd.func15, Tryd.ntmps15
    go_wp2
    go_ret2
    exact ⟨rfl, rfl⟩

theorem maxFor_yes (b : Int) (w : World) (h0 : 0 ≤ b) (h1 : b ≤ 64) : Calls Tryd.prog 15 #[.int .i64 b] w fun e w' => e = .returned (.tuple #[.int .u64 (mxOf b), .bool true]) ∧ w' = w := by
  by_cases hz : b = 0
  · subst hz
    go_enter Tryd.func15, Tryd.ntmps15
    go_wp2
    go_ret2
    exact ⟨rfl, rfl⟩
  by_cases h64 : b = 64
  · subst h64
    go_enter Tryd.func15, Tryd.ntmps15
    go_wp2
    go_ret2
    exact ⟨rfl, rfl⟩
  have hd : decide (b < 0) = false := decide_eq_false (by omega)
  have hd2 : decide (64 < b) = false := decide_eq_false (by omega)
  go_enter Tryd.func15, Tryd.ntmps15
  have hm := mx_wrap b h0 h1
  have e : mxOf b = 2 ^ b.toNat - 1 := by simp [mxOf, hz]
  rw [e]
  go_wp2
  go_ret2
  exact ⟨rfl, rfl⟩

/-- The array of 20 bytes, filled from its end on: what stands from place i on. -/
def Filled (w : World) (g i : Nat) (acc : List Int) : Prop :=
  ∃ cur : Array Value, w.heap[g]? = some (.cells cur 49 (0, 0)) ∧ cur.size = 20 ∧ i + acc.length = 20 ∧ ∀ t, t < acc.length → cur[i + t]? = some (.int .u8 (acc.getD t 0))

theorem Filled.cell {w : World} {g i : Nat} {acc : List Int} (h : Filled w g i acc) (j : Nat) (hj : j < 20) : ∃ v, w.cell? ⟨g, j, none⟩ = some v ∧ w.frozen? ⟨g, j, none⟩ = false := by
  obtain ⟨cur, h1, h2, _, _⟩ := h
  refine ⟨cur[j], ?_, frozen_of_row w g j cur 49 h1⟩
  rw [cell_of_row w g j cur 49 (0, 0) h1, Array.getElem?_eq_getElem (by omega)]

theorem Filled.store {w : World} {g i : Nat} {acc : List Int} (h : Filled w g (i + 1) acc) (c : Int) : Filled (w.setCell ⟨g, i, none⟩ (.int .u8 c)) g i (c :: acc) := by
  obtain ⟨cur, h1, h2, h3, h4⟩ := h
  refine ⟨_, heap_setCell_same w g i cur 49 _ h1, by simpa using h2, by simp; omega, ?_⟩
  intro t ht
  cases t with
  | zero =>
    rw [Array.getElem?_setIfInBounds, if_pos (by omega), if_pos (by omega)]; rfl
  | succ t =>
    have := h4 t (by simp at ht; omega)
    rw [Array.getElem?_setIfInBounds, if_neg (by omega), show i + (t + 1) = i + 1 + t by omega, this]
    simp

theorem Filled.rd {w : World} {g i : Nat} {acc : List Int} (h : Filled w g i acc) : Rd w (some ⟨g, i, none⟩) acc := by
  obtain ⟨cur, h1, h2, h3, h4⟩ := h
  refine rd_of_cells fun j hj => ?_
  rw [cell_of_row w g (i + j) cur 49 (0, 0) h1]
  exact h4 j hj

theorem filled_zero (w : World) : Filled (w.alloc (.cells #[.int .u8 0, .int .u8 0, .int .u8 0, .int .u8 0, .int .u8 0, .int .u8 0, .int .u8 0, .int .u8 0, .int .u8 0, .int .u8 0, .int .u8 0, .int .u8 0, .int .u8 0, .int .u8 0, .int .u8 0, .int .u8 0, .int .u8 0, .int .u8 0, .int .u8 0, .int .u8 0] 49)) w.heap.size 20 [] :=
  ⟨_, heap_alloc_new w _, rfl, rfl, fun t h => absurd h (by simp)⟩

/-- 'buf[i:]' of the array of 20 bytes. -/
theorem buf_from (w : World) (g i : Nat) (h : i < 20) : (Instr.sliceAt 49 (.pointer (some ⟨g, 0, none⟩)) (some (.int .i64 (i : Int))) none none).run Tryd.prog w = .ok (.slice (some ⟨g, i, none⟩) (20 - i) (20 - i)) w := by
  have ht : Tryd.prog.underlying 49 = some (.array (Tryd.prog.arrayLen 49) (Tryd.prog.elem 49)) := by kernel_rfl
  have hal : Tryd.prog.arrayLen 49 = 20 := by kernel_rfl
  have hel : Tryd.prog.elem 49 = 5 := by kernel_rfl
  have hs : (sizeOf 5).run Tryd.prog w = .ok 1 w := by
    obtain ⟨i0, hi, hz0, hz1, hz2⟩ := info_parts info5
    simp [sizeOf, typeInfo, hi, hz1]
  have hr := run_sliceAt_array_l (P := Tryd.prog) w 49 ⟨g, 0, none⟩ ht .i64 (i : Int) (by omega) (by rw [hal]; omega)
  rw [hr, hel, hs, hal]
  simp only [Result.andThen, slicedAt, Int.toNat_natCast]
  rw [if_neg (by omega), Addr.add_lit, Nat.zero_add, Nat.mul_one]

theorem dgo_more (i v n : Nat) (acc : List Int) (h : dgo (i + 1) v acc = utoa n) (h0 : ¬ v / 10 = 0) (hv : v < 10 ^ (i + 1)) : dgo i (v / 10) ((48 + (v : Int) % 10) :: acc) = utoa n ∧ v / 10 < 10 ^ i ∧ 0 < i := by
  unfold dgo at h
  rw [if_neg h0] at h
  refine ⟨?_, by rw [Nat.pow_succ] at hv; omega, ?_⟩
  · rw [← h, show ((v % 10 : Nat) : Int) = (v : Int) % 10 by omega]
  · rcases Nat.eq_zero_or_pos i with rfl | h'
    · simp at hv; omega
    · exact h'
theorem dgo_last (i v n : Nat) (acc : List Int) (h : dgo (i + 1) v acc = utoa n) (h0 : v / 10 = 0) : (48 + (v : Int) % 10) :: acc = utoa n := by
  unfold dgo at h
  rw [if_pos h0] at h
  rw [← h, show ((v % 10 : Nat) : Int) = (v : Int) % 10 by omega]

set_option maxHeartbeats 400000 in
theorem utoa_any (n : Nat) (w : World) (hn : n < 18446744073709551616) :
    Calls Tryd.prog 17 #[.int .u64 n] w fun e w' => ∃ g, e = .returned (.slice (some ⟨g, 0, none⟩) (utoa n).length (utoa n).length) ∧ Rd w' (some ⟨g, 0, none⟩) (utoa n) ∧ Below w.heap.size w w' := by
  obtain ⟨i0, hi, hz0, hz1, hz2⟩ := info_parts info5
  go_enter Tryd.func17, Tryd.ntmps17
  go_wp2
  go_loopw [0, 4] (fun x y wr => ∃ (i v : Nat) (acc : List Int), x = .int .u64 v ∧ y = .int .i64 (i + 1 : Nat) ∧ i < 20 ∧ v < 18446744073709551616 ∧ v < 10 ^ (i + 1) ∧ Hid (dgo (i + 1) v acc = utoa n) ∧ Filled wr w.heap.size (i + 1) acc ∧ Below w.heap.size w wr) (fun _ y _ => (intOf y).toNat)
  case atStart => exact ⟨19, n, [], rfl, rfl, by omega, hn, Nat.lt_of_lt_of_le hn (by decide), rfl, filled_zero w, (Below.refl _ _).alloc (Nat.le_refl _) _⟩
  case round =>
    obtain ⟨i, v, acc, rfl, rfl, hi20, hv64, hv10, HD, hF, hb⟩ := hrel
    have HV : Hid _ := hv10
    obtain ⟨old, hc, hfz⟩ := hF.cell i hi20
    clear hv10
    by_cases h0 : v / 10 = 0
    · have hE := dgo_last i v n acc HD.out h0
      have hF2 := hF.store (48 + (v : Int) % 10)
      have hb2 := hb.setCell (p := ⟨w.heap.size, i, none⟩) (Nat.le_refl _) (.int .u8 (48 + (v : Int) % 10))
      rw [hE] at hF2
      have hlen : Hid (i + (utoa n).length = 20) := by obtain ⟨_, _, _, h, _⟩ := hF2; exact h
      have HF : Hid _ := hF2
      have hsz : (wr.setCell ⟨w.heap.size, i, none⟩ (.int .u8 (48 + (v : Int) % 10))).heap.size = wr.heap.size := by simp [World.setCell]
      have HB : Hid _ := hb2
      clear hF hb hE hF2 hb2
      go_wp2_with (at_make; refine wpList_make_full _ rfl _ _ 22 rfl w.heap.size 5 i0 (.int .u8 0) 1 Tryd.underlying22 hi hz0 hz1 _ _ _ _ (20 - i) rfl rfl (by omega) (by omega) ?c1 ?c2 ?c3 ?_)
      case c1 => rw [hz2]; omega
      case c2 => unfold maxLen; omega
      case c3 => exact HB.out.size
      intro w1 hown hgrow
      have hb1 : Below w.heap.size w w1 := HB.out.grown hgrow HB.out.size (fun k hk => by cases hk)
      have hrd1 : Rd w1 (some ⟨w.heap.size, i, none⟩) (utoa n) := (Filled.rd HF.out).kept ((Below.refl _ _).grown hgrow (Nat.le_refl _) (fun k hk => by cases hk))
      obtain ⟨cur, hg, hcs⟩ : ∃ cur : Array Value, w1.heap[wr.heap.size]? = some (.cells cur 5 (0, 0)) ∧ cur.size = 20 - i := by
        rcases hown.2 with ⟨h1, _⟩ | ⟨g, cap, cur, h1, _, h3, _, _, h4, _⟩
        · cases h1
        · simp at h1
          obtain ⟨rfl, rfl⟩ := h1
          exact ⟨cur, h3, by omega⟩
      have hle : w.heap.size ≤ wr.heap.size := by rw [← hsz]; exact HB.out.size
      obtain ⟨w2, hr, hrd, hb2⟩ := run_copy_whole (P := Tryd.prog) 22 3 Tryd.underlying22 (by rw [hi]; simp [hz1]) w.heap.size wr.heap.size (20 - i) (20 - i) ⟨w.heap.size, i, none⟩ (utoa n) w w1 cur hg hcs (by have := hlen.out; omega) hrd1 hle hb1
      have hl : Hid ((utoa n).length = 20 - i) := by show _ = _; have := hlen.out; omega
      clear hg hown hgrow hcs hb1 hrd1 HF HB hsz hle hlen hc hfz HD HV
      have hsl := fun wx => buf_from wx w.heap.size i (by omega)
      go_wp2
      go_ret
      exact ⟨_, by rw [hl.out]; rfl, hrd, hb2⟩
    · go_wp2
      go_roundw
      case rel => 
        obtain ⟨e1, e2, e3⟩ := dgo_more i v n acc HD.out h0 HV.out
        obtain ⟨i, rfl⟩ : ∃ j, i = j + 1 := ⟨i - 1, by omega⟩
        exact ⟨i, v / 10, _, by go_num, by go_num, by omega, by omega, e2, e1, hF.store _, hb.setCell (Nat.le_refl _) _⟩
      case measure => simp [intOf]
end Go.Proofs.Qxb6603783aDoor
