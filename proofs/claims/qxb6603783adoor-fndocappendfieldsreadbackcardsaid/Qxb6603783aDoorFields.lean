/-
  WALK: (*Doc).AppendFields.
-/
import Derived.Test.Qxb6603783aDoorApp
namespace Go.Proofs.Qxb6603783aDoor
open Go.RowKit

def kKey : List Int := [34, 107, 101, 121, 34, 58]
def kVal : List Int := [44, 34, 118, 97, 108, 117, 101, 34, 58]
def kNull : List Int := [110, 117, 108, 108]
def kRev : List Int := [44, 34, 114, 101, 118, 83, 101, 113, 110, 111, 34, 58]
def kCas : List Int := [44, 34, 99, 97, 115, 34, 58, 34]
def kFlags : List Int := [34, 44, 34, 102, 108, 97, 103, 115, 34, 58]
def kExp : List Int := [44, 34, 101, 120, 112, 105, 114, 121, 34, 58]
def kDel : List Int := [44, 34, 100, 101, 108, 101, 116, 101, 100, 34, 58]

/-- What stands ahead of the four numbers. -/
def text4 (zs key val : List Int) (del : Bool) : List Int := zs ++ kKey ++ encStr key ++ kVal ++ (if del then kNull else val)
def text3 (zs key val : List Int) (del : Bool) (rev : Nat) : List Int := text4 zs key val del ++ kRev ++ utoa rev
def text2 (zs key val : List Int) (del : Bool) (rev cas : Nat) : List Int := text3 zs key val del rev ++ kCas ++ utoa cas
def text1 (zs key val : List Int) (del : Bool) (rev cas flags : Nat) : List Int := text2 zs key val del rev cas ++ kFlags ++ utoa flags
def text0 (zs key val : List Int) (del : Bool) (rev cas flags exp : Nat) : List Int := text1 zs key val del rev cas flags ++ kExp ++ utoa exp
def textAll (zs key val : List Int) (del : Bool) (rev cas flags exp : Nat) : List Int := text0 zs key val del rev cas flags exp ++ kDel ++ boolText del

theorem text4_len (zs key val : List Int) (del : Bool) : (text4 zs key val del).length ≤ zs.length + 6 * key.length + val.length + 30 := by
  have := encBody_len key
  unfold text4
  simp only [List.length_append, encStr_len]
  cases del <;> simp [kKey, kVal, kNull] <;> omega
theorem text3_len (zs key val : List Int) (del : Bool) (rev : Nat) : (text3 zs key val del rev).length ≤ zs.length + 6 * key.length + val.length + 70 := by
  have h1 := text4_len zs key val del
  have h2 := utoa_len rev
  unfold text3
  simp only [List.length_append]
  simp [kRev]; omega
theorem text2_len (zs key val : List Int) (del : Bool) (rev cas : Nat) : (text2 zs key val del rev cas).length ≤ zs.length + 6 * key.length + val.length + 110 := by
  have h1 := text3_len zs key val del rev
  have h2 := utoa_len cas
  unfold text2
  simp only [List.length_append]
  simp [kCas]; omega
theorem text1_len (zs key val : List Int) (del : Bool) (rev cas flags : Nat) : (text1 zs key val del rev cas flags).length ≤ zs.length + 6 * key.length + val.length + 150 := by
  have h1 := text2_len zs key val del rev cas
  have h2 := utoa_len flags
  unfold text1
  simp only [List.length_append]
  simp [kFlags]; omega
theorem text0_len (zs key val : List Int) (del : Bool) (rev cas flags exp : Nat) : (text0 zs key val del rev cas flags exp).length ≤ zs.length + 6 * key.length + val.length + 190 := by
  have h1 := text1_len zs key val del rev cas flags
  have h2 := utoa_len exp
  unfold text0
  simp only [List.length_append]
  simp [kExp]; omega

/-- The document in memory. -/
def DocAt (w : World) (g : Nat) (key : ByteArray) (av : Option Addr) (nv : Nat) (rev cas flags exp : Nat) (del : Bool) : Prop :=
  w.cell? ⟨g, 0, none⟩ = some (.string key) ∧ w.cell? ⟨g, 1, none⟩ = some (.slice av nv nv) ∧ w.cell? ⟨g, 2, none⟩ = some (.int .u64 rev) ∧ w.cell? ⟨g, 3, none⟩ = some (.int .u64 cas) ∧
  w.cell? ⟨g, 4, none⟩ = some (.int .u32 flags) ∧ w.cell? ⟨g, 5, none⟩ = some (.int .u32 exp) ∧ w.cell? ⟨g, 6, none⟩ = some (.bool del)
theorem DocAt.kept {w w' : World} {g : Nat} {key : ByteArray} {av : Option Addr} {nv rev cas flags exp : Nat} {del : Bool} (h : DocAt w g key av nv rev cas flags exp del) (hb : Below w.heap.size w w') : DocAt w' g key av nv rev cas flags exp del := by
  have hlt : g < w.heap.size := World.block_lt_of_cell? w ⟨g, 0, none⟩ h.1
  obtain ⟨h0, h1, h2, h3, h4, h5, h6⟩ := h
  exact ⟨(hb.cell (p := ⟨g, 0, none⟩) hlt).trans h0, (hb.cell (p := ⟨g, 1, none⟩) hlt).trans h1, (hb.cell (p := ⟨g, 2, none⟩) hlt).trans h2, (hb.cell (p := ⟨g, 3, none⟩) hlt).trans h3,
    (hb.cell (p := ⟨g, 4, none⟩) hlt).trans h4, (hb.cell (p := ⟨g, 5, none⟩) hlt).trans h5, (hb.cell (p := ⟨g, 6, none⟩) hlt).trans h6⟩

set_option maxRecDepth 100000 in
set_option maxHeartbeats 2000000 in
theorem fields_any (a : Option Addr) (n : Nat) (zs : List Int) (g : Nat) (key : ByteArray) (av : Option Addr) (nv : Nat) (val : List Int) (rev cas flags exp : Nat) (del : Bool) (w : World)
    (hn : zs.length = n) (hrd : Rd w a zs) (ha : a = none → n = 0) (hvn : val.length = nv) (hrv : Rd w av val) (hav : av = none → nv = 0) (hD : DocAt w g key av nv rev cas flags exp del) (ht : Tab w)
    (hsz : n + key.size + nv ≤ 1048576) (h1 : rev < 18446744073709551616) (h2 : cas < 18446744073709551616) (h3 : flags < 4294967296) (h4 : exp < 4294967296) :
    Calls Tryd.prog 8 #[.pointer (some ⟨g, 0, none⟩), .slice a n n] w fun e w' => ∃ v, e = .returned v ∧ OwnB w.heap.size v (textAll zs (nums key) val del rev cas flags exp) w w' := by
  obtain ⟨i0, hi, hz0, hz1, hz2⟩ := info_parts info5
  have HD := hid hD
  have HT := hid ht
  have HRV := hid hrv
  have HN : Hid (zs.length = n) := hn
  have HVN : Hid (val.length = nv) := hvn
  have HAV : Hid (av = none → nv = 0) := hav
  have HRD := hid hrd
  have HA : Hid (a = none → zs.length = 0) := by show _ → _; rw [hn]; exact ha
  clear hD ht hrv hn hvn hav hrd ha
  have HB0 := hid (Below.refl w.heap.size w)
  go_enter Tryd.func8, Tryd.ntmps8
  go_wp2_with (at_builtin; refine wp_appstr_tight rfl (.tmp 5) _ 22 9 rfl i0 Tryd.underlying22 Tryd.underlying9 hi hz0 hz1 hz2 a zs n HN.out rfl HRD.out HA.out _ rfl (by decide) kKey rfl (by have := HN.out; simp [ByteArray.size]; omega) ?_)
  intro v1 w1 ho
  obtain ⟨T1, hT⟩ : ∃ T, T = zs ++ kKey := ⟨_, rfl⟩
  rw [← hT] at ho
  have HT1 := hid hT
  have hL1 : T1.length ≤ 1048600 := by rw [hT, List.length_append]; have := HN.out; simp [kKey]; omega
  have HO := hid ho
  obtain ⟨c0, _⟩ := HD.out.kept HO.out.2.1
  clear ho hT
  go_wp2_with fail
  refine (append_any w.heap.size v1 T1 key w1 (.inl HO.out.rebase) (by omega)).mono ?_
  rintro e w2 ⟨v2, rfl, ho⟩
  replace ho := HO.out.onto ho
  obtain ⟨T2, hT⟩ : ∃ T, T = T1 ++ encStr (nums key) := ⟨_, rfl⟩
  rw [← hT] at ho
  have HT2 := hid hT
  have hL2 : T2.length ≤ 10000000 := by
    rw [hT, List.length_append, encStr_len]; have h8 := encBody_len (nums key); rw [nums_len] at h8; omega
  clear HO c0 hT hL1
  have HO := hid ho
  clear ho
  have h9 : kVal.length ≤ 12 := by decide
  go_wp2_with (at_builtin; refine wp_app_str rfl (.tmp 13) _ 22 9 rfl i0 Tryd.underlying22 Tryd.underlying9 hi hz0 hz1 hz2 _ T2 rfl _ HO.out _ rfl kVal rfl (by omega) ?_)
  intro v3 w3 ho
  obtain ⟨T3, hT⟩ : ∃ T, T = T2 ++ kVal := ⟨_, rfl⟩
  rw [← hT] at ho
  have HT3 := hid hT
  have hL3 : T3.length ≤ 10000020 := by rw [hT, List.length_append]; omega
  clear HO hT hL2 h9
  have HO := hid ho
  clear ho
  have hL3' : T3.length ≤ 10000020 := hL3
  clear hL3
  obtain ⟨_, q1, _, _, _, _, q6⟩ := HD.out.kept HO.out.2.1
  have hcase : ∃ X : List Int, X = (if del = true then kNull else val) ∧ X.length ≤ 1048580 := ⟨_, rfl, by cases del <;> simp [kNull] <;> (try have := HVN.out) <;> omega⟩
  obtain ⟨X, hX, hXL⟩ := hcase
  have HX := hid hX
  clear hX
  have hRV := hid (HRV.out.kept HO.out.2.1)
  cases del
  · go_wp2_with (at_builtin; refine wp_app_rd rfl (.tmp 21) (.tmp 25) 22 rfl i0 Tryd.underlying22 hi hz0 hz1 hz2 _ T3 rfl _ HO.out av nv nv rfl val HVN.out hRV.out (fun h => ⟨HAV.out h, HAV.out h⟩) (by have := HVN.out; omega) ?_)
    intro v4 w4 ho
    obtain ⟨T4, hT⟩ : ∃ T, T = T3 ++ val := ⟨_, rfl⟩
    rw [← hT] at ho
    have HT4 := hid hT
    have hL4 : T4.length ≤ 12000000 := by rw [hT, List.length_append]; have := HVN.out; omega
    clear HO hT hL3' q1 q6 hRV
    have HO := hid ho
    clear ho
    have h9 : kRev.length ≤ 12 := by decide
    go_wp2_with (at_builtin; refine wp_app_str rfl (.tmp 27) _ 22 9 rfl i0 Tryd.underlying22 Tryd.underlying9 hi hz0 hz1 hz2 _ T4 rfl _ HO.out _ rfl kRev rfl (by omega) ?_)
    intro v5 w5 ho
    obtain ⟨T5, hT⟩ : ∃ T, T = T4 ++ kRev := ⟨_, rfl⟩
    rw [← hT] at ho
    have HT5 := hid hT
    have hL5 : T5.length ≤ 12000020 := by rw [hT, List.length_append]; omega
    clear HO hT hL4 h9
    have HO := hid ho
    clear ho
    obtain ⟨_, _, q2, q3, q4, q5, q6⟩ := HD.out.kept HO.out.2.1
    go_wp2_with fail
    refine (appu_any w.heap.size _ T5 rev w5 (by omega) HO.out.rebase (by omega) (HT.out.kept HO.out.2.1)).mono ?_
    rintro e w6 ⟨v6, rfl, ho⟩
    replace ho := HO.out.onto ho
    have h9 := utoa_len rev
    obtain ⟨T6, hT⟩ : ∃ T, T = T5 ++ utoa rev := ⟨_, rfl⟩
    rw [← hT] at ho
    have HT6 := hid hT
    have hL6 : T6.length ≤ 12000040 := by rw [hT, List.length_append]; omega
    clear HO hT hL5 h9 q2 q3 q4 q5 q6
    have HO := hid ho
    clear ho
    have h9 : kCas.length ≤ 12 := by decide
    go_wp2_with (at_builtin; refine wp_app_str rfl (.tmp 35) _ 22 9 rfl i0 Tryd.underlying22 Tryd.underlying9 hi hz0 hz1 hz2 _ T6 rfl _ HO.out _ rfl kCas rfl (by omega) ?_)
    intro v7 w7 ho
    obtain ⟨T7, hT⟩ : ∃ T, T = T6 ++ kCas := ⟨_, rfl⟩
    rw [← hT] at ho
    have HT7 := hid hT
    have hL7 : T7.length ≤ 12000060 := by rw [hT, List.length_append]; omega
    clear HO hT hL6 h9
    have HO := hid ho
    clear ho
    obtain ⟨_, _, q2, q3, q4, q5, q6⟩ := HD.out.kept HO.out.2.1
    go_wp2_with fail
    refine (appu_any w.heap.size _ T7 cas w7 (by omega) HO.out.rebase (by omega) (HT.out.kept HO.out.2.1)).mono ?_
    rintro e w8 ⟨v8, rfl, ho⟩
    replace ho := HO.out.onto ho
    have h9 := utoa_len cas
    obtain ⟨T8, hT⟩ : ∃ T, T = T7 ++ utoa cas := ⟨_, rfl⟩
    rw [← hT] at ho
    have HT8 := hid hT
    have hL8 : T8.length ≤ 12000080 := by rw [hT, List.length_append]; omega
    clear HO hT hL7 h9 q2 q3 q4 q5 q6
    have HO := hid ho
    clear ho
    have h9 : kFlags.length ≤ 12 := by decide
    go_wp2_with (at_builtin; refine wp_app_str rfl (.tmp 43) _ 22 9 rfl i0 Tryd.underlying22 Tryd.underlying9 hi hz0 hz1 hz2 _ T8 rfl _ HO.out _ rfl kFlags rfl (by omega) ?_)
    intro v9 w9 ho
    obtain ⟨T9, hT⟩ : ∃ T, T = T8 ++ kFlags := ⟨_, rfl⟩
    rw [← hT] at ho
    have HT9 := hid hT
    have hL9 : T9.length ≤ 12000100 := by rw [hT, List.length_append]; omega
    clear HO hT hL8 h9
    have HO := hid ho
    clear ho
    obtain ⟨_, _, q2, q3, q4, q5, q6⟩ := HD.out.kept HO.out.2.1
    go_wp2_with fail
    refine (appu_any w.heap.size _ T9 flags w9 (by omega) HO.out.rebase (by omega) (HT.out.kept HO.out.2.1)).mono ?_
    rintro e w10 ⟨v10, rfl, ho⟩
    replace ho := HO.out.onto ho
    have h9 := utoa_len flags
    obtain ⟨T10, hT⟩ : ∃ T, T = T9 ++ utoa flags := ⟨_, rfl⟩
    rw [← hT] at ho
    have HT10 := hid hT
    have hL10 : T10.length ≤ 12000120 := by rw [hT, List.length_append]; omega
    clear HO hT hL9 h9 q2 q3 q4 q5 q6
    have HO := hid ho
    clear ho
    have h9 : kExp.length ≤ 12 := by decide
    go_wp2_with (at_builtin; refine wp_app_str rfl (.tmp 52) _ 22 9 rfl i0 Tryd.underlying22 Tryd.underlying9 hi hz0 hz1 hz2 _ T10 rfl _ HO.out _ rfl kExp rfl (by omega) ?_)
    intro v11 w11 ho
    obtain ⟨T11, hT⟩ : ∃ T, T = T10 ++ kExp := ⟨_, rfl⟩
    rw [← hT] at ho
    have HT11 := hid hT
    have hL11 : T11.length ≤ 12000140 := by rw [hT, List.length_append]; omega
    clear HO hT hL10 h9
    have HO := hid ho
    clear ho
    obtain ⟨_, _, q2, q3, q4, q5, q6⟩ := HD.out.kept HO.out.2.1
    go_wp2_with fail
    refine (appu_any w.heap.size _ T11 exp w11 (by omega) HO.out.rebase (by omega) (HT.out.kept HO.out.2.1)).mono ?_
    rintro e w12 ⟨v12, rfl, ho⟩
    replace ho := HO.out.onto ho
    have h9 := utoa_len exp
    obtain ⟨T12, hT⟩ : ∃ T, T = T11 ++ utoa exp := ⟨_, rfl⟩
    rw [← hT] at ho
    have HT12 := hid hT
    have hL12 : T12.length ≤ 12000160 := by rw [hT, List.length_append]; omega
    clear HO hT hL11 h9 q2 q3 q4 q5 q6
    have HO := hid ho
    clear ho
    have h9 : kDel.length ≤ 12 := by decide
    go_wp2_with (at_builtin; refine wp_app_str rfl (.tmp 61) _ 22 9 rfl i0 Tryd.underlying22 Tryd.underlying9 hi hz0 hz1 hz2 _ T12 rfl _ HO.out _ rfl kDel rfl (by omega) ?_)
    intro v13 w13 ho
    obtain ⟨T13, hT⟩ : ∃ T, T = T12 ++ kDel := ⟨_, rfl⟩
    rw [← hT] at ho
    have HT13 := hid hT
    have hL13 : T13.length ≤ 12000180 := by rw [hT, List.length_append]; omega
    clear HO hT hL12 h9
    have HO := hid ho
    clear ho
    obtain ⟨_, _, _, _, _, _, q6⟩ := HD.out.kept HO.out.2.1
    go_wp2_with fail
    refine (appb_any w.heap.size _ T13 _ w13 HO.out.rebase (by omega)).mono ?_
    rintro e w14 ⟨v14, rfl, ho⟩
    replace ho := HO.out.onto ho
    have HO2 := hid ho
    clear ho HO q6 hL13
    go_wp2
    go_ret
    refine ⟨_, rfl, ?_⟩
    have hF := HO2.out
    rw [HT13.out, HT12.out, HT11.out, HT10.out, HT9.out, HT8.out, HT7.out, HT6.out, HT5.out, HT4.out, HT3.out, HT2.out, HT1.out] at hF
    simpa [textAll, text0, text1, text2, text3, text4] using hF
  · go_wp2_with (at_builtin; refine wp_app_str rfl (.tmp 19) _ 22 9 rfl i0 Tryd.underlying22 Tryd.underlying9 hi hz0 hz1 hz2 _ T3 rfl _ HO.out _ rfl kNull rfl (by simp [kNull]; omega) ?_)
    intro v4 w4 ho
    obtain ⟨T4, hT⟩ : ∃ T, T = T3 ++ kNull := ⟨_, rfl⟩
    rw [← hT] at ho
    have HT4 := hid hT
    have hL4 : T4.length ≤ 12000000 := by rw [hT, List.length_append]; simp [kNull]; omega
    clear HO hT hL3' q1 q6 hRV
    have HO := hid ho
    clear ho
    have h9 : kRev.length ≤ 12 := by decide
    go_wp2_with (at_builtin; refine wp_app_str rfl (.tmp 27) _ 22 9 rfl i0 Tryd.underlying22 Tryd.underlying9 hi hz0 hz1 hz2 _ T4 rfl _ HO.out _ rfl kRev rfl (by omega) ?_)
    intro v5 w5 ho
    obtain ⟨T5, hT⟩ : ∃ T, T = T4 ++ kRev := ⟨_, rfl⟩
    rw [← hT] at ho
    have HT5 := hid hT
    have hL5 : T5.length ≤ 12000020 := by rw [hT, List.length_append]; omega
    clear HO hT hL4 h9
    have HO := hid ho
    clear ho
    obtain ⟨_, _, q2, q3, q4, q5, q6⟩ := HD.out.kept HO.out.2.1
    go_wp2_with fail
    refine (appu_any w.heap.size _ T5 rev w5 (by omega) HO.out.rebase (by omega) (HT.out.kept HO.out.2.1)).mono ?_
    rintro e w6 ⟨v6, rfl, ho⟩
    replace ho := HO.out.onto ho
    have h9 := utoa_len rev
    obtain ⟨T6, hT⟩ : ∃ T, T = T5 ++ utoa rev := ⟨_, rfl⟩
    rw [← hT] at ho
    have HT6 := hid hT
    have hL6 : T6.length ≤ 12000040 := by rw [hT, List.length_append]; omega
    clear HO hT hL5 h9 q2 q3 q4 q5 q6
    have HO := hid ho
    clear ho
    have h9 : kCas.length ≤ 12 := by decide
    go_wp2_with (at_builtin; refine wp_app_str rfl (.tmp 35) _ 22 9 rfl i0 Tryd.underlying22 Tryd.underlying9 hi hz0 hz1 hz2 _ T6 rfl _ HO.out _ rfl kCas rfl (by omega) ?_)
    intro v7 w7 ho
    obtain ⟨T7, hT⟩ : ∃ T, T = T6 ++ kCas := ⟨_, rfl⟩
    rw [← hT] at ho
    have HT7 := hid hT
    have hL7 : T7.length ≤ 12000060 := by rw [hT, List.length_append]; omega
    clear HO hT hL6 h9
    have HO := hid ho
    clear ho
    obtain ⟨_, _, q2, q3, q4, q5, q6⟩ := HD.out.kept HO.out.2.1
    go_wp2_with fail
    refine (appu_any w.heap.size _ T7 cas w7 (by omega) HO.out.rebase (by omega) (HT.out.kept HO.out.2.1)).mono ?_
    rintro e w8 ⟨v8, rfl, ho⟩
    replace ho := HO.out.onto ho
    have h9 := utoa_len cas
    obtain ⟨T8, hT⟩ : ∃ T, T = T7 ++ utoa cas := ⟨_, rfl⟩
    rw [← hT] at ho
    have HT8 := hid hT
    have hL8 : T8.length ≤ 12000080 := by rw [hT, List.length_append]; omega
    clear HO hT hL7 h9 q2 q3 q4 q5 q6
    have HO := hid ho
    clear ho
    have h9 : kFlags.length ≤ 12 := by decide
    go_wp2_with (at_builtin; refine wp_app_str rfl (.tmp 43) _ 22 9 rfl i0 Tryd.underlying22 Tryd.underlying9 hi hz0 hz1 hz2 _ T8 rfl _ HO.out _ rfl kFlags rfl (by omega) ?_)
    intro v9 w9 ho
    obtain ⟨T9, hT⟩ : ∃ T, T = T8 ++ kFlags := ⟨_, rfl⟩
    rw [← hT] at ho
    have HT9 := hid hT
    have hL9 : T9.length ≤ 12000100 := by rw [hT, List.length_append]; omega
    clear HO hT hL8 h9
    have HO := hid ho
    clear ho
    obtain ⟨_, _, q2, q3, q4, q5, q6⟩ := HD.out.kept HO.out.2.1
    go_wp2_with fail
    refine (appu_any w.heap.size _ T9 flags w9 (by omega) HO.out.rebase (by omega) (HT.out.kept HO.out.2.1)).mono ?_
    rintro e w10 ⟨v10, rfl, ho⟩
    replace ho := HO.out.onto ho
    have h9 := utoa_len flags
    obtain ⟨T10, hT⟩ : ∃ T, T = T9 ++ utoa flags := ⟨_, rfl⟩
    rw [← hT] at ho
    have HT10 := hid hT
    have hL10 : T10.length ≤ 12000120 := by rw [hT, List.length_append]; omega
    clear HO hT hL9 h9 q2 q3 q4 q5 q6
    have HO := hid ho
    clear ho
    have h9 : kExp.length ≤ 12 := by decide
    go_wp2_with (at_builtin; refine wp_app_str rfl (.tmp 52) _ 22 9 rfl i0 Tryd.underlying22 Tryd.underlying9 hi hz0 hz1 hz2 _ T10 rfl _ HO.out _ rfl kExp rfl (by omega) ?_)
    intro v11 w11 ho
    obtain ⟨T11, hT⟩ : ∃ T, T = T10 ++ kExp := ⟨_, rfl⟩
    rw [← hT] at ho
    have HT11 := hid hT
    have hL11 : T11.length ≤ 12000140 := by rw [hT, List.length_append]; omega
    clear HO hT hL10 h9
    have HO := hid ho
    clear ho
    obtain ⟨_, _, q2, q3, q4, q5, q6⟩ := HD.out.kept HO.out.2.1
    go_wp2_with fail
    refine (appu_any w.heap.size _ T11 exp w11 (by omega) HO.out.rebase (by omega) (HT.out.kept HO.out.2.1)).mono ?_
    rintro e w12 ⟨v12, rfl, ho⟩
    replace ho := HO.out.onto ho
    have h9 := utoa_len exp
    obtain ⟨T12, hT⟩ : ∃ T, T = T11 ++ utoa exp := ⟨_, rfl⟩
    rw [← hT] at ho
    have HT12 := hid hT
    have hL12 : T12.length ≤ 12000160 := by rw [hT, List.length_append]; omega
    clear HO hT hL11 h9 q2 q3 q4 q5 q6
    have HO := hid ho
    clear ho
    have h9 : kDel.length ≤ 12 := by decide
    go_wp2_with (at_builtin; refine wp_app_str rfl (.tmp 61) _ 22 9 rfl i0 Tryd.underlying22 Tryd.underlying9 hi hz0 hz1 hz2 _ T12 rfl _ HO.out _ rfl kDel rfl (by omega) ?_)
    intro v13 w13 ho
    obtain ⟨T13, hT⟩ : ∃ T, T = T12 ++ kDel := ⟨_, rfl⟩
    rw [← hT] at ho
    have HT13 := hid hT
    have hL13 : T13.length ≤ 12000180 := by rw [hT, List.length_append]; omega
    clear HO hT hL12 h9
    have HO := hid ho
    clear ho
    obtain ⟨_, _, _, _, _, _, q6⟩ := HD.out.kept HO.out.2.1
    go_wp2_with fail
    refine (appb_any w.heap.size _ T13 _ w13 HO.out.rebase (by omega)).mono ?_
    rintro e w14 ⟨v14, rfl, ho⟩
    replace ho := HO.out.onto ho
    have HO2 := hid ho
    clear ho HO q6 hL13
    go_wp2
    go_ret
    refine ⟨_, rfl, ?_⟩
    have hF := HO2.out
    rw [HT13.out, HT12.out, HT11.out, HT10.out, HT9.out, HT8.out, HT7.out, HT6.out, HT5.out, HT4.out, HT3.out, HT2.out, HT1.out] at hF
    simpa [textAll, text0, text1, text2, text3, text4] using hF
end Go.Proofs.Qxb6603783aDoor
