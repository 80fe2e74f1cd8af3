/-
  WALKS: strconv.ParseUint with an error: the number is too great; the width is none.
-/
import Derived.Test.Qxb6603783aDoorShelf
import Derived.Test.Qxb6603783aDoorCutNum
import Derived.Lib.IfaceEq
import Derived.Lib.ItoaLen
namespace Go.Proofs.Qxb6603783aDoor
open Go.RowKit

/-- What the listed variables give: the table, and that strconv.ErrRange holds an interface value. -/
def Laid (w : World) : Prop := Tab w ∧ ∃ ev, w.cell? ⟨2, 0, none⟩ = some ev ∧ (ev = .nilIface ∨ ∃ te pe, ev = .iface te pe)
theorem Laid.kept {w w' : World} (h : Laid w) (hb : Below w.heap.size w w') : Laid w' := by
  obtain ⟨h1, ev, h2, h3⟩ := h
  refine ⟨h1.kept hb, ev, ?_, h3⟩
  rw [hb.cell (p := ⟨2, 0, none⟩) (World.block_lt_of_cell? w _ h2)]
  exact h2

set_option maxRecDepth 100000 in
theorem pu_range (b : Int) (D : List Int) (w : World) (hL : Laid w) (h0 : 0 ≤ b) (h1 : b ≤ 64) (hne : 0 < D.length) (hD : AllDig D) (hmax : D.length ≤ 140737488355328) (hgt : mxOf b < (dv D : Int)) :
    Calls Tryd.prog 27 #[.string (strOfNums D), .int .i64 10, .int .i64 b] w (PuOut b D w) := by
  have hby : Bytes D := fun c hc => by have := hD c hc; omega
  have hnum := nums_strOf D hby
  have hp := pu_in b (strOfNums D) w h0 h1 (by rw [strOfNums_size]; exact hne) (by rw [hnum]; exact hD) (by rw [strOfNums_size]; exact hmax)
  rw [hnum] at hp
  have hv : puVal b D = mxOf b := by
    unfold puVal; rw [if_neg (by omega), if_neg (by omega)]
  have hk : puOk b D = false := by unfold puOk; exact decide_eq_false (by omega)
  have HV : Hid _ := hv
  have HK : Hid _ := hk
  have HG : Hid _ := hgt
  have hsz : (strOfNums D).size ≤ 281474976710656 := by rw [strOfNums_size]; omega
  generalize strOfNums D = s at hp hsz ⊢
  have HL := hid hL
  clear hby hnum hv hk hgt hL
  go_enter Tryd.func27, Tryd.ntmps27
  go_wp2_with fail
  refine hp.mono ?_
  rintro e w1 ⟨hb, ⟨hc, rfl⟩ | ⟨hc, rfl⟩⟩
  · have := HG.out; omega
  · obtain ⟨_, ev, hev, hev2⟩ := HL.out.kept hb
    have HEV := hid hev2
    clear hev2
    go_wp2_with fail
    refine (toerr_range _ s 10 b ev w1 hsz hev HEV.out).mono ?_
    rintro e w2 ⟨N, rfl, hb2⟩
    have hb3 := hb.trans (hb2.mono hb.size)
    clear hb hb2
    go_wp2
    go_ret2
    exact ⟨_, by rw [HV.out]; rfl, hb3, .inr ⟨HK.out, _, _, rfl⟩⟩

set_option maxRecDepth 100000 in
theorem pu_in_bad (b : Int) (s : ByteArray) (w : World) (h : b < 0 ∨ 64 < b) (hne : 0 < s.size) :
    Calls Tryd.prog 33 #[.string s, .int .i64 10, .int .i64 b] w fun e w' => e = .returned (.tuple #[.int .u64 0, .iface 69 (.int .i64 4)]) ∧ w' = w := by
  have hse : s.toList.isEmpty = false := by
    have : s.toList.length = s.size := by simp [ByteArray.toList_eq]
    cases h : s.toList with
    | nil => rw [h] at this; simp at this; omega
    | cons _ _ => rfl
  rcases h with h | h
  · go_enter Tryd.func33, Tryd.ntmps33
    go_wp2
    go_ret2
    exact ⟨rfl, rfl⟩
  · have hd : decide (b < 0) = false := decide_eq_false (by omega)
    go_enter Tryd.func33, Tryd.ntmps33
    go_wp2
    go_ret2
    exact ⟨rfl, rfl⟩

theorem errnew_any (s : ByteArray) (w : World) : Calls Tryd.prog 51 #[.string s] w fun e w' => ∃ N, e = .returned (.iface 83 (.pointer (some ⟨N, 0, none⟩))) ∧ Below w.heap.size w w' := by
  go_enter Tryd.func51, Tryd.ntmps51
  go_wp2
  go_ret
  exact ⟨_, rfl, (Below.refl _ _).alloc (Nat.le_refl _) _⟩

theorem bitserr_any (fn s : ByteArray) (b : Int) (w : World) (ht : Tab w) (h0 : -9223372036854775808 ≤ b) (h1 : b ≤ 9223372036854775807) (hs : s.size ≤ 281474976710656) :
    Calls Tryd.prog 46 #[.string fn, .string s, .int .i64 b] w fun e w' => ∃ N, e = .returned (.pointer (some ⟨N, 0, none⟩)) ∧ Below w.heap.size w w' := by
  have hl := Lib.itoa_length_le b h0 h1
  have HT := hid ht
  clear ht
  go_enter Tryd.func46, Tryd.ntmps46
  go_wp2_with fail
  refine (clones_any s w hs).mono ?_
  rintro e w1 ⟨rfl, hb1⟩
  have HB1 := hid hb1
  clear hb1
  go_wp2_with fail
  refine (itoa_any b w1 h0 h1 (HT.out.kept HB1.out)).mono ?_
  rintro e w2 ⟨rfl, hb2⟩
  have HB2 := hid (HB1.out.trans (hb2.mono HB1.out.size))
  have hsl : (⟨(Lib.itoa b).toArray⟩ : ByteArray).size ≤ 21 := by simpa [ByteArray.size] using hl
  generalize (⟨(Lib.itoa b).toArray⟩ : ByteArray) = S at hsl ⊢
  clear hb2 HB1 HT hl
  go_wp2_with fail
  generalize (({ data := #[105, 110, 118, 97, 108, 105, 100, 32, 98, 105, 116, 32, 115, 105, 122, 101, 32] } : ByteArray) ++ S) = T
  refine (errnew_any T w2).mono ?_
  rintro e w3 ⟨N, rfl, hb3⟩
  have hb4 := HB2.out.trans (hb3.mono HB2.out.size)
  clear hb3 HB2
  go_wp2
  go_ret
  exact ⟨_, rfl, hb4.alloc hb4.size _⟩

set_option maxRecDepth 100000 in
theorem toerr_bits (fn s : ByteArray) (base b : Int) (w : World) (ht : Tab w) (h0 : -9223372036854775808 ≤ b) (h1 : b ≤ 9223372036854775807) (hs : s.size ≤ 281474976710656) :
    Calls Tryd.prog 34 #[.string fn, .string s, .int .i64 base, .int .i64 b, .iface 69 (.int .i64 4)] w fun e w' => ∃ N, e = .returned (.iface 72 (.pointer (some ⟨N, 0, none⟩))) ∧ Below w.heap.size w w' := by
  have L := Tryd.laysC245
  have q2 : ∀ W, (binOp .eql 51 (.iface 69 (.int .i64 4)) (.iface 69 (.int .i64 2))).run Tryd.prog W = .ok (.bool false) W := fun W => Lib.run_eql_iface_int W 4 2 L.t75 L.c167 L.t167
  have q1 : ∀ W, (binOp .eql 51 (.iface 69 (.int .i64 4)) (.iface 69 (.int .i64 1))).run Tryd.prog W = .ok (.bool false) W := fun W => Lib.run_eql_iface_int W 4 1 L.t75 L.c167 L.t167
  have q3 : ∀ W, (binOp .eql 51 (.iface 69 (.int .i64 4)) (.iface 69 (.int .i64 3))).run Tryd.prog W = .ok (.bool false) W := fun W => Lib.run_eql_iface_int W 4 3 L.t75 L.c167 L.t167
  have q4 : ∀ W, (binOp .eql 51 (.iface 69 (.int .i64 4)) (.iface 69 (.int .i64 4))).run Tryd.prog W = .ok (.bool true) W := fun W => Lib.run_eql_iface_int W 4 4 L.t75 L.c167 L.t167
  have HT := hid ht
  clear ht L
  go_enter Tryd.func34, Tryd.ntmps34
  go_wp2_with fail
  refine (bitserr_any fn s b w HT.out h0 h1 hs).mono ?_
  rintro e w1 ⟨N, rfl, hb⟩
  go_wp2
  go_ret
  exact ⟨N, rfl, hb⟩

set_option maxRecDepth 100000 in
theorem pu_bits (b : Int) (D : List Int) (w : World) (hL : Laid w) (h0 : -9223372036854775808 ≤ b) (h1 : b ≤ 9223372036854775807) (hbad : b < 0 ∨ 64 < b) (hne : 0 < D.length) (hmax : D.length ≤ 140737488355328) :
    Calls Tryd.prog 27 #[.string (strOfNums D), .int .i64 10, .int .i64 b] w (PuOut b D w) := by
  have hp := pu_in_bad b (strOfNums D) w hbad (by rw [strOfNums_size]; exact hne)
  have hv : puVal b D = 0 := by
    unfold puVal; rw [if_pos hbad]
  have hk : puOk b D = false := by unfold puOk; exact decide_eq_false (by omega)
  have HV : Hid _ := hv
  have HK : Hid _ := hk
  have hsz : (strOfNums D).size ≤ 281474976710656 := by rw [strOfNums_size]; omega
  generalize strOfNums D = s at hp hsz ⊢
  have HL := hid hL
  have HW := hid (Below.refl w.heap.size w)
  clear hv hk hL hbad
  go_enter Tryd.func27, Tryd.ntmps27
  go_wp2_with fail
  refine hp.mono ?_
  rintro e w1 ⟨rfl, rfl⟩
  go_wp2_with fail
  refine (toerr_bits _ s 10 b _ HL.out.1 h0 h1 hsz).mono ?_
  rintro e w2 ⟨N, rfl, hb2⟩
  go_wp2
  go_ret2
  exact ⟨_, by rw [HV.out]; rfl, hb2, .inr ⟨HK.out, _, _, rfl⟩⟩

/-- strconv.ParseUint(D, 10, b), D a row of digits, b whatever. -/
theorem pu_any (b : Int) (D : List Int) (w : World) (hL : Laid w) (h0 : -9223372036854775808 ≤ b) (h1 : b ≤ 9223372036854775807) (hne : 0 < D.length) (hD : AllDig D) (hmax : D.length ≤ 140737488355328) :
    Calls Tryd.prog 27 #[.string (strOfNums D), .int .i64 10, .int .i64 b] w (PuOut b D w) := by
  by_cases hbad : b < 0 ∨ 64 < b
  · exact pu_bits b D w hL h0 h1 hbad hne hmax
  · by_cases hle : (dv D : Int) ≤ mxOf b
    · exact pu_ok b D w (by omega) (by omega) hne hD hmax hle
    · exact pu_range b D w hL (by omega) (by omega) hne hD hmax (by omega)
end Go.Proofs.Qxb6603783aDoor
