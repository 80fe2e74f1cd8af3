/-
  WALKS: the decimal functions.
-/
import Derived.Test.Qxb6602743aRows
import Derived.Test.Qxb6602743aPlain
import Derived.WalkKit
import Derived.WalkSpells
import Derived.WalkLawsBesides
import Derived.Laws.BytesArg
import Derived.BigQuiet
namespace Go.Proofs.Qxb6602743a
open Go.RowKit

theorem hid {p : Prop} (h : p) : Hid p := h

def u8s (zs : List Int) : List Value := zs.map (Value.int .u8)
theorem u8s_len (zs : List Int) : (u8s zs).length = zs.length := by simp [u8s]
theorem u8s_append (a b : List Int) : u8s (a ++ b) = u8s a ++ u8s b := by simp [u8s]
theorem u8s_get (zs : List Int) (j : Nat) (h : j < zs.length) : (u8s zs)[j]? = some (.int .u8 (zs.getD j 0)) := by
  simp [u8s, List.getD, List.getElem?_eq_getElem h]

/-- The slice that begins at 'ao' reads as the bytes zs. -/
def Rd (w : World) (ao : Option Addr) (zs : List Int) : Prop :=
  ∀ j, j < zs.length → ∃ x, ao = some x ∧ w.cell? (x.add j) = some (.int .u8 (zs.getD j 0))

theorem Rd.nil (w : World) (ao : Option Addr) : Rd w ao [] := fun j h => absurd h (by simp)

theorem Rd.kept {w w' : World} {ao : Option Addr} {zs : List Int} (h : Rd w ao zs) (hb : Below w.heap.size w w') : Rd w' ao zs := by
  intro j hj
  obtain ⟨x, hx, hc⟩ := h j hj
  refine ⟨x, hx, ?_⟩
  rw [hb.cell (p := x.add j) (World.block_lt_of_cell? w _ hc)]
  exact hc

theorem Rd.drewN {w : World} {ao : Option Addr} {zs : List Int} (h : Rd w ao zs) (q : Nat) : Rd (w.drewN q) ao zs := h

theorem Rd.at {w : World} {ao : Option Addr} {zs : List Int} (h : Rd w ao zs) (hn : 0 < zs.length) :
    ∃ b off, ao = some ⟨b, off, none⟩ ∧ ∀ j, j < zs.length → w.cell? ⟨b, off + j, none⟩ = some (.int .u8 (zs.getD j 0)) := by
  obtain ⟨x, hx, hc⟩ := h 0 hn
  obtain ⟨b, off, spot⟩ := x
  have hspot : spot = none := by simpa [Addr.add] using World.cell?_spot hc
  subst hspot
  refine ⟨b, off, hx, fun j hj => ?_⟩
  obtain ⟨y, hy, hcy⟩ := h j hj
  rw [hx] at hy
  obtain rfl := Option.some.inj hy
  rw [Addr.add_lit] at hcy
  exact hcy

theorem Rd.take {w : World} {ao : Option Addr} {zs : List Int} (h : Rd w ao zs) (k : Nat) : Rd w ao (zs.take k) := by
  intro j hj
  have hj' : j < k ∧ j < zs.length := by rw [List.length_take] at hj; omega
  obtain ⟨x, hx, hc⟩ := h j hj'.2
  refine ⟨x, hx, ?_⟩
  rw [hc]
  simp [hj'.1]

theorem rd_of_cells {w : World} {g o : Nat} {zs : List Int} (h : ∀ j, j < zs.length → w.cell? ⟨g, o + j, none⟩ = some (.int .u8 (zs.getD j 0))) : Rd w (some ⟨g, o, none⟩) zs :=
  fun j hj => ⟨_, rfl, by rw [Addr.add_lit]; exact h j hj⟩


theorem info5 : (Try.prog.info? 5).map (fun i => (i.zero, i.size, i.bytes)) = some (some (.int .u8 0), 1, 1) := by kernel_rfl

/-- The array of 20 bytes, filled from its end on: what stands from place i on. -/
def Filled (w : World) (g i : Nat) (acc : List Int) : Prop :=
  ∃ cur : Array Value, w.heap[g]? = some (.cells cur 55 (0, 0)) ∧ cur.size = 20 ∧ i + acc.length = 20 ∧ ∀ t, t < acc.length → cur[i + t]? = some (.int .u8 (acc.getD t 0))

theorem Filled.cell {w : World} {g i : Nat} {acc : List Int} (h : Filled w g i acc) (j : Nat) (hj : j < 20) : ∃ v, w.cell? ⟨g, j, none⟩ = some v ∧ w.frozen? ⟨g, j, none⟩ = false := by
  obtain ⟨cur, h1, h2, _, _⟩ := h
  refine ⟨cur[j], ?_, frozen_of_row w g j cur 55 h1⟩
  rw [cell_of_row w g j cur 55 (0, 0) h1, Array.getElem?_eq_getElem (by omega)]

theorem Filled.store {w : World} {g i : Nat} {acc : List Int} (h : Filled w g (i + 1) acc) (c : Int) : Filled (w.setCell ⟨g, i, none⟩ (.int .u8 c)) g i (c :: acc) := by
  obtain ⟨cur, h1, h2, h3, h4⟩ := h
  refine ⟨_, heap_setCell_same w g i cur 55 _ h1, by simpa using h2, by simp; omega, ?_⟩
  intro t ht
  cases t with
  | zero =>
    rw [Array.getElem?_setIfInBounds, if_pos (by omega), if_pos (by omega)]; rfl
  | succ t =>
    have := h4 t (by simp at ht; omega)
    rw [Array.getElem?_setIfInBounds, if_neg (by omega), show i + (t + 1) = i + 1 + t by omega, this]
    simp

theorem Filled.rd {w : World} {g i : Nat} {acc : List Int} (h : Filled w g i acc) : Rd w (some ⟨g, i, none⟩) acc := by
  obtain ⟨cur, h1, h2, h3, h4⟩ := h
  refine rd_of_cells fun j hj => ?_
  rw [cell_of_row w g (i + j) cur 55 (0, 0) h1]
  exact h4 j hj

theorem filled_zero (w : World) : Filled (w.alloc (.cells #[.int .u8 0, .int .u8 0, .int .u8 0, .int .u8 0, .int .u8 0, .int .u8 0, .int .u8 0, .int .u8 0, .int .u8 0, .int .u8 0, .int .u8 0, .int .u8 0, .int .u8 0, .int .u8 0, .int .u8 0, .int .u8 0, .int .u8 0, .int .u8 0, .int .u8 0, .int .u8 0] 55)) w.heap.size 20 [] :=
  ⟨_, heap_alloc_new w _, rfl, rfl, fun t h => absurd h (by simp)⟩

/-- 'buf[i:]' of the array of 20 bytes. -/
theorem buf_from (w : World) (g i : Nat) (h : i < 20) : (Instr.sliceAt 55 (.pointer (some ⟨g, 0, none⟩)) (some (.int .i64 (i : Int))) none none).run Try.prog w = .ok (.slice (some ⟨g, i, none⟩) (20 - i) (20 - i)) w := by
  have ht : Try.prog.underlying 55 = some (.array (Try.prog.arrayLen 55) (Try.prog.elem 55)) := by kernel_rfl
  have hal : Try.prog.arrayLen 55 = 20 := by kernel_rfl
  have hel : Try.prog.elem 55 = 5 := by kernel_rfl
  have hs : (sizeOf 5).run Try.prog w = .ok 1 w := by
    obtain ⟨i0, hi, hz0, hz1, hz2⟩ := info_parts info5
    simp [sizeOf, typeInfo, hi, hz1]
  have hr := run_sliceAt_array_l (P := Try.prog) w 55 ⟨g, 0, none⟩ ht .i64 (i : Int) (by omega) (by rw [hal]; omega)
  rw [hr, hel, hs, hal]
  simp only [Result.andThen, slicedAt, Int.toNat_natCast]
  rw [if_neg (by omega), Addr.add_lit, Nat.zero_add, Nat.mul_one]

theorem dgo_more (i v n : Nat) (acc : List Int) (h : dgo (i + 1) v acc = utoa n) (h0 : ¬ v / 10 = 0) (hv : v < 10 ^ (i + 1)) : dgo i (v / 10) ((48 + (v : Int) % 10) :: acc) = utoa n ∧ v / 10 < 10 ^ i ∧ 0 < i := by
  unfold dgo at h
  rw [if_neg h0] at h
  refine ⟨?_, by rw [Nat.pow_succ] at hv; omega, ?_⟩
  · rw [← h, show ((v % 10 : Nat) : Int) = (v : Int) % 10 by omega]
  · rcases Nat.eq_zero_or_pos i with rfl | h'
    · simp at hv; omega
    · exact h'
theorem dgo_last (i v n : Nat) (acc : List Int) (h : dgo (i + 1) v acc = utoa n) (h0 : v / 10 = 0) : (48 + (v : Int) % 10) :: acc = utoa n := by
  unfold dgo at h
  rw [if_pos h0] at h
  rw [← h, show ((v % 10 : Nat) : Int) = (v : Int) % 10 by omega]

def Bytes (l : List Int) : Prop := ∀ c ∈ l, 0 ≤ c ∧ c ≤ 255

/-- 'string(b)'. -/
theorem run_str_rd {P : Program} (w : World) (src dst : TypeId) (a : Option Addr) (n c : Nat) (xs : List Int) (hs : P.underlying src = some (.slice 5)) (he : P.underlying 5 = some (.int .u8)) (hd : P.underlying dst = some .string) (hn : xs.length = n) (hx : Rd w a xs) :
    (convert src dst (.slice a n c)).run P w = .ok (.string (strOfNums xs)) w := by
  by_cases h0 : n = 0
  · obtain rfl : xs = [] := List.eq_nil_of_length_eq_zero (hn.trans h0)
    subst h0
    cases a with
    | none => rw [run_convert_bytes_nil w src 5 hs he 0 c dst hd]; rfl
    | some x =>
      rw [run_convert_bytes_string w src dst 5 _ 0 c hs he hd, run_bytesToString w x 0 c [] (by simp [loadCells, loadCellsFrom])]
      rfl
  · obtain ⟨b, off, rfl, hc⟩ := hx.at (by omega)
    exact run_convert_bytes_arg w src 5 hs he b off n c xs hn (by rw [← hn]; exact hc) dst hd

theorem nums_strOf (D : List Int) (h : Bytes D) : nums (strOfNums D) = D := by
  unfold nums strOfNums
  rw [List.map_map]
  conv => rhs; rw [← List.map_id D]
  apply List.map_congr_left
  intro c hc
  have := h c hc
  simp
  omega


set_option maxHeartbeats 400000 in
theorem renderU_any (n : Nat) (w : World) (hn : n < 18446744073709551616) :
    Calls Try.prog 23 #[.int .u64 n] w fun e w' => e = .returned (.string (strOfNums (utoa n))) ∧ Below w.heap.size w w' := by
  go_enter Try.func23, Try.ntmps23
  go_wp2
  go_loopw [0, 4] (fun x y wr => ∃ (i v : Nat) (acc : List Int), x = .int .u64 v ∧ y = .int .i64 (i + 1 : Nat) ∧ i < 20 ∧ v < 18446744073709551616 ∧ v < 10 ^ (i + 1) ∧ Hid (dgo (i + 1) v acc = utoa n) ∧ Filled wr w.heap.size (i + 1) acc ∧ Below w.heap.size w wr) (fun _ y _ => (intOf y).toNat)
  case atStart => exact ⟨19, n, [], rfl, rfl, by omega, hn, Nat.lt_of_lt_of_le hn (by decide), rfl, filled_zero w, (Below.refl _ _).alloc (Nat.le_refl _) _⟩
  case round =>
    obtain ⟨i, v, acc, rfl, rfl, hi20, hv64, hv10, HD, hF, hb⟩ := hrel
    have HV : Hid _ := hv10
    obtain ⟨old, hc, hfz⟩ := hF.cell i hi20
    clear hv10
    by_cases h0 : v / 10 = 0
    · have hE := dgo_last i v n acc HD.out h0
      have hF2 := hF.store (48 + (v : Int) % 10)
      rw [hE, show (v : Int) % 10 = (v : Int) from by omega] at hF2
      have hlen : i + (utoa n).length = 20 := by obtain ⟨_, _, _, h, _⟩ := hF2; exact h
      have hb2 := hb.setCell (p := ⟨w.heap.size, i, none⟩) (Nat.le_refl _) (.int .u8 (48 + (v : Int)))
      have hsl := fun wx => buf_from wx w.heap.size i (by omega)
      have hcv := run_str_rd (P := Try.prog) (wr.setCell ⟨w.heap.size, i, none⟩ (.int .u8 (48 + (v : Int)))) 56 9 (some ⟨w.heap.size, i, none⟩) (20 - i) (20 - i) (utoa n) Try.underlying56 Try.underlying5 Try.underlying9 (by omega) hF2.rd
      have hv9 : v ≤ 9 := by omega
      have HB := hid hb2
      clear hF hb hE hF2 hb2 h0 hlen HD HV
      go_wp2
      go_ret
      exact ⟨rfl, HB.out⟩
    · have hge : 10 ≤ v := by omega
      go_wp2
      go_roundw
      case rel =>
        obtain ⟨e1, e2, e3⟩ := dgo_more i v n acc HD.out h0 HV.out
        obtain ⟨i, rfl⟩ : ∃ j, i = j + 1 := ⟨i - 1, by omega⟩
        exact ⟨i, v / 10, _, by go_num, by go_num, by omega, by omega, e2, e1, hF.store _, hb.setCell (Nat.le_refl _) _⟩
      case measure => simp [intOf]
end Go.Proofs.Qxb6602743a
