/-
  WALK: FnDocAppendFieldsReadBack, the law.
-/
import Derived.Test.Qxb6603783aDoorBack0
namespace Go.Proofs.Qxb6603783aDoor
open Go.RowKit

theorem Rd.drop {w : World} {g o : Nat} {zs : List Int} (h : Rd w (some ⟨g, o, none⟩) zs) (k : Nat) : Rd w (some ⟨g, o + k, none⟩) (zs.drop k) := by
  refine rd_of_cells fun j hj => ?_
  rw [List.length_drop] at hj
  obtain ⟨x, hx, hc⟩ := h (k + j) (by omega)
  obtain rfl := Option.some.inj hx
  rw [Addr.add_lit] at hc
  rw [Nat.add_assoc, hc]
  simp [List.getD]
theorem last_not_dig (Y N : List Int) (c : Int) (M : List Int) (h : N = M ++ [c]) (hc : isDig c = false) : Y ++ N = [] ∨ isDig ((Y ++ N).getD ((Y ++ N).length - 1) 0) = false := by
  right
  have e : Y ++ N = (Y ++ M) ++ [c] := by rw [h, List.append_assoc]
  rw [e, List.length_append]
  simp only [List.length_cons, List.length_nil, Nat.zero_add, Nat.add_sub_cancel]
  rw [List.getD_eq_getElem?_getD, List.getElem?_append_right (Nat.le_refl _), Nat.sub_self]
  simpa using hc

theorem doc_new (w : World) (key : ByteArray) (av : Option Addr) (nv rev cas flags exp : Nat) (del : Bool) :
    DocAt (w.alloc (.cells #[.string key, .slice av nv nv, .int .u64 rev, .int .u64 cas, .int .u32 flags, .int .u32 exp, .bool del] 29)) w.heap.size key av nv rev cas flags exp del := by
  have h (j : Nat) (v : Value) (hv : (#[.string key, .slice av nv nv, .int .u64 rev, .int .u64 cas, .int .u32 flags, .int .u32 exp, .bool del] : Array Value)[j]? = some v) :
      (w.alloc (.cells #[.string key, .slice av nv nv, .int .u64 rev, .int .u64 cas, .int .u32 flags, .int .u32 exp, .bool del] 29)).cell? ⟨w.heap.size, j, none⟩ = some v := by
    rw [World.cell?_alloc_new]
    exact hv
  exact ⟨h 0 _ rfl, h 1 _ rfl, h 2 _ rfl, h 3 _ rfl, h 4 _ rfl, h 5 _ rfl, h 6 _ rfl⟩

theorem split_texts (zs : List Int) (key : ByteArray) (val : List Int) (del : Bool) (rev cas flags exp n nv : Nat) (hn : zs.length = n) (hvn : val.length = nv) (hbz : Bytes zs) (hbv : Bytes val) (hsz : n + key.size + nv ≤ 1048576) :
    ∃ (t4 t3 t2 t1 t0 : List Int) (l4 l3 l2 l1 l0 E : Nat), textAll zs (nums key) val del rev cas flags exp = t0 ++ (kDel ++ boolText del) ∧ t0 = t1 ++ kExp ++ utoa exp ∧ t1 = t2 ++ kFlags ++ utoa flags ∧ t2 = t3 ++ kCas ++ utoa cas ∧ t3 = t4 ++ kRev ++ utoa rev ∧
      t4 = zs ++ kKey ++ encStr (nums key) ++ (kVal ++ (if del then kNull else val)) ∧ t4.length = l4 ∧ t3.length = l3 ∧ t2.length = l2 ∧ t1.length = l1 ∧ t0.length = l0 ∧ (encStr (nums key)).length = E ∧
      (Bytes t3 ∧ Bytes t2 ∧ Bytes t1 ∧ Bytes t0) ∧ l4 ≤ l3 ∧ l3 ≤ l2 ∧ l2 ≤ l1 ∧ l1 ≤ l0 ∧ l0 ≤ 20000000 ∧ l4 = n + 6 + E + 9 + (if del then kNull else val).length := by
  have hk : Bytes (nums key) := nums_bytes key
  have e4 : text4 zs (nums key) val del = zs ++ kKey ++ encStr (nums key) ++ (kVal ++ (if del then kNull else val)) := by unfold text4; rw [List.append_assoc _ kVal]
  have b4 : Bytes (text4 zs (nums key) val del) := by
    rw [e4]
    refine ((hbz.app (by unfold kKey Bytes; decide)).app (encStr_bytes _ hk)).app (Bytes.app (by unfold kVal Bytes; decide) ?_)
    cases del
    · exact hbv
    · show Bytes kNull
      unfold kNull Bytes; decide
  have b3 : Bytes (text3 zs (nums key) val del rev) := (b4.app (by unfold kRev Bytes; decide)).app (utoa_bytes _)
  have b2 : Bytes (text2 zs (nums key) val del rev cas) := (b3.app (by unfold kCas Bytes; decide)).app (utoa_bytes _)
  have b1 : Bytes (text1 zs (nums key) val del rev cas flags) := (b2.app (by unfold kFlags Bytes; decide)).app (utoa_bytes _)
  have b0 : Bytes (text0 zs (nums key) val del rev cas flags exp) := (b1.app (by unfold kExp Bytes; decide)).app (utoa_bytes _)
  have hl := text0_len zs (nums key) val del rev cas flags exp
  rw [nums_len] at hl
  refine ⟨text4 zs (nums key) val del, text3 zs (nums key) val del rev, text2 zs (nums key) val del rev cas, text1 zs (nums key) val del rev cas flags, text0 zs (nums key) val del rev cas flags exp, _, _, _, _, _, _,
    by unfold textAll; rw [List.append_assoc], rfl, rfl, rfl, rfl, e4, rfl, rfl, rfl, rfl, rfl, rfl, ⟨b3, b2, b1, b0⟩, ?_, ?_, ?_, ?_, ?_, ?_⟩
  · unfold text3; simp only [List.length_append]; omega
  · unfold text2; simp only [List.length_append]; omega
  · unfold text1; simp only [List.length_append]; omega
  · unfold text0; simp only [List.length_append]; omega
  · omega
  · rw [e4]; simp only [List.length_append]; rw [hn]; simp only [kKey, kVal, List.length_cons, List.length_nil]; omega

set_option maxRecDepth 100000 in
set_option maxHeartbeats 4000000 in
theorem back_false (a : Option Addr) (n c : Nat) (zs : List Int) (key : ByteArray) (av : Option Addr) (nv cv : Nat) (val : List Int) (rev cas flags exp : Nat) (w : World) (hT : Tab w)
    (hn : zs.length = n) (hrd : Rd w a zs) (ha : a = none → n = 0) (hbz : Bytes zs) (hvn : val.length = nv) (hrv : Rd w av val) (hav : av = none → nv = 0) (hbv : Bytes val)
    (hsz : n + key.size + nv ≤ 1048576) (h1 : rev < 18446744073709551616) (h2 : cas < 18446744073709551616) (h3 : flags < 4294967296) (h4 : exp < 4294967296) :
    Calls Tryd.prog 3 #[.slice a n c, .string key, .slice av nv cv, .int .u64 rev, .int .u64 cas, .int .u32 flags, .int .u32 exp, .bool false] w fun e w' => e = .returned (.bool true) ∧ Below w.heap.size w w' := by
  have m32 : mxOf 32 = 4294967295 := by decide +kernel
  have m64 : mxOf 64 = 18446744073709551615 := by decide +kernel
  have HM32 := hid m32
  have HM64 := hid m64
  have d1 : decide ((1048576 : Int) < (n : Int)) = false := decide_eq_false (by omega)
  have d2 : decide ((1048576 : Int) < (key.size : Int)) = false := decide_eq_false (by omega)
  have d3 : decide ((1048576 : Int) < (nv : Int)) = false := decide_eq_false (by omega)
  have d4 : decide ((1048576 : Int) < (n : Int) + (key.size : Int) + (nv : Int)) = false := decide_eq_false (by omega)
  have HN : Hid (zs.length = n) := hn
  have HVN : Hid (val.length = nv) := hvn
  have HBZ : Hid (Bytes zs) := hbz
  have HBV : Hid (Bytes val) := hbv
  have HT := hid hT
  have HRV := hid hrv
  clear m32 m64 hn hvn hbz hbv hT hrv
  go_enter Tryd.func3, Tryd.ntmps3
  go_wp2_with (go_at_call 6; refine (zzb_back_yes _ _ _ _ _ _ _ _ _ _ _ _ _ hsz).mono ?_; rintro e w' ⟨rfl, rfl⟩)
  refine (clone_any a n c zs _ HN.out hrd ha (by omega)).mono ?_
  rintro e w1 ⟨a1, rfl, hr1, ha1, hb1⟩
  have HR1 := hid hr1
  have HV1 := hid (HRV.out.kept hb1)
  have HB1 := hid hb1
  clear hr1 hb1 hrd ha HRV
  go_wp2_with fail
  refine (clone_any av nv cv val _ HVN.out HV1.out hav (by omega)).mono ?_
  rintro e w2 ⟨a2, rfl, hr2, ha2, hb2⟩
  have HV2 := hid hr2
  have HR2 := hid (HR1.out.kept hb2)
  have HB2 := hid (HB1.out.trans (hb2.mono HB1.out.size))
  clear hr2 hb2 HR1 HV1 HB1 hav
  go_wp2_with fail
  refine (clone_any a1 n n zs _ HN.out HR2.out ha1 (by omega)).mono ?_
  rintro e w3 ⟨a3, rfl, hr3, ha3, hb3⟩
  have HP3 := hid hr3
  have HR3 := hid (HR2.out.kept hb3)
  have HV3 := hid (HV2.out.kept hb3)
  have HB3 := hid (HB2.out.trans (hb3.mono HB2.out.size))
  have HA1 : Hid (a1 = none → n = 0) := ha1
  have HA2 : Hid (a2 = none → nv = 0) := ha2
  clear hr3 hb3 HR2 HV2 HB2 ha1 ha2 ha3
  go_wp2_with fail
  obtain ⟨W4, hW⟩ : ∃ W4, W4 = w3.alloc (.cells #[.string key, .slice a2 nv nv, .int .u64 rev, .int .u64 cas, .int .u32 flags, .int .u32 exp, .bool false] 29) := ⟨_, rfl⟩
  have hb4 : Below w3.heap.size w3 W4 := by rw [hW]; exact (Below.refl _ _).alloc (Nat.le_refl _) _
  have hD4 : DocAt W4 w3.heap.size key a2 nv rev cas flags exp false := by
    rw [hW]
    exact doc_new w3 key a2 nv rev cas flags exp false
  rw [← hW]
  have HP4 := hid (HP3.out.kept hb4)
  have HR4 := hid (HR3.out.kept hb4)
  have HV4 := hid (HV3.out.kept hb4)
  have HB4 := hid (HB3.out.trans (hb4.mono HB3.out.size))
  have HD4 := hid hD4
  clear HP3 HR3 HV3 HB3 hb4 hD4 hW
  refine (fields_any a1 n zs w3.heap.size key a2 nv val rev cas flags exp false W4 HN.out HR4.out HA1.out HVN.out HV4.out HA2.out HD4.out (HT.out.kept HB4.out) hsz h1 h2 h3 h4).mono ?_
  rintro e w5 ⟨v, rfl, ho⟩
  have hpos : 0 < (textAll zs (nums key) val false rev cas flags exp).length := by simp [textAll, kDel]; omega
  obtain ⟨g, cap, rfl, hg, hcap, hcm, hcells⟩ := ho.form hpos
  have HP5 := hid (HP4.out.kept ho.2.1)
  have HV5 := hid (HV4.out.kept ho.2.1)
  have HB5 := hid (HB4.out.trans (ho.2.1.mono HB4.out.size))
  have hRd : Rd w5 (some ⟨g, 0, none⟩) (textAll zs (nums key) val false rev cas flags exp) := rd_of_cells (by simpa using hcells)
  clear HP4 HR4 HV4 HB4 HD4 ho hpos hg hcells HA1 HA2 HT
  obtain ⟨t4, t3, t2, t1, t0, l4, l3, l2, l1, l0, E, eA, e0, e1, e2, e3, e4, L4, L3, L2, L1, L0, LE, ⟨B3, B2, B1, B0⟩, o4, o3, o2, o1, o0, hl4⟩ := split_texts zs key val false rev cas flags exp n nv HN.out HVN.out HBZ.out HBV.out hsz
  rw [if_neg Bool.false_ne_true] at e4 hl4
  rw [eA] at hcap hRd ⊢
  have elA : (t0 ++ (kDel ++ boolText false)).length = l0 + 16 := by rw [List.length_append, L0]; rfl
  rw [elA] at hcap ⊢
  obtain ⟨lA, hlA⟩ : ∃ l, l = l0 + 16 := ⟨_, rfl⟩
  rw [← hlA] at hcap ⊢
  have HlA := hid hlA
  have HRd := hid hRd
  have he0 := hid e0
  have he1 := hid e1
  have he2 := hid e2
  have he3 := hid e3
  have he4 := hid e4
  have hL4 := hid L4
  have hL3 := hid L3
  have hL2 := hid L2
  have hL1 := hid L1
  have hL0 := hid L0
  have hLE := hid LE
  have hB3 := hid B3
  have hB2 := hid B2
  have hB1 := hid B1
  have hB0 := hid B0
  have Ho4 := hid o4
  have Ho3 := hid o3
  have Ho2 := hid o2
  have Ho1 := hid o1
  have Ho0 := hid o0
  have Hl4 := hid hl4
  have Hcap := hid hcap
  have q1 : 16 ≤ lA := by omega
  have q2 : lA ≤ 20000020 := by omega
  have q3 : lA ≤ cap := hcap
  clear hRd eA e0 e1 e2 e3 e4 L4 L3 L2 L1 L0 LE B3 B2 B1 B0 o4 o3 o2 o1 o0 hl4 hcap elA hlA
  go_wp2_with fail
  refine (samestr_yes _ _ _ (kDel ++ boolText false) _ w5 ?d1 ?d2 ?d3 ?d4 ?d5).mono ?_
  case d1 => have := HlA.out; rw [show (kDel ++ boolText false).length = 16 from rfl]; omega
  case d2 =>
    have := (HRd.out.drop l0)
    rw [List.drop_left' hL0.out] at this
    have e : 0 + l0 = lA - 16 := by have := HlA.out; omega
    rw [e] at this
    exact this
  case d3 => omega
  case d4 => decide
  case d5 => decide
  rintro e w6 ⟨rfl, hb6⟩
  have HP6 := hid (HP5.out.kept hb6)
  have HV6 := hid (HV5.out.kept hb6)
  have HB6 := hid (HB5.out.trans (hb6.mono HB5.out.size))
  have HRd6 := hid ((HRd.out.kept hb6).take l0)
  clear HP5 HV5 HB5 HRd hb6
  go_wp2_with fail
  have ql : lA - 16 = l0 := by have := HlA.out; omega
  rw [List.take_left' hL0.out] at HRd6
  rw [ql]
  refine (cut_one g cap t1 kExp exp 32 _ l0 l1 w6 ?d1 hL1.out ?d3 ?d4 ?d5 ?d6 ?d7 ?d8 ?d9 ?d10 ?d11 ?d12).mono ?_
  case d1 => decide
  case d3 => rw [← he0.out]; exact hL0.out
  case d4 => have := Hcap.out; have := HlA.out; have := Ho1.out; have := Ho2.out; have := Ho3.out; omega
  case d5 => have := Ho0.out; have := Ho1.out; have := Ho2.out; have := Ho3.out; omega
  case d6 => rw [← he0.out]; exact HRd6.out
  case d7 => rw [← he0.out]; exact hB0.out
  case d8 => omega
  case d9 => decide
  case d10 => decide
  case d11 => rw [HM32.out]; omega
  case d12 => exact last_not_dig t1 kExp 58 [44, 34, 101, 120, 112, 105, 114, 121, 34] rfl (by decide)
  rintro e w7 ⟨hb7, rfl⟩
  have HP7 := hid (HP6.out.kept hb7)
  have HV7 := hid (HV6.out.kept hb7)
  have HB7 := hid (HB6.out.trans (hb7.mono HB6.out.size))
  have HRd7 := hid ((HRd6.out.kept hb7).take l1)
  rw [he0.out, List.append_assoc, List.take_left' hL1.out] at HRd7
  clear HP6 HV6 HB6 HRd6 hb7
  go_wp2_with fail
  refine (cut_one g cap t2 kFlags flags 32 _ l1 l2 w7 ?d1 hL2.out ?d3 ?d4 ?d5 ?d6 ?d7 ?d8 ?d9 ?d10 ?d11 ?d12).mono ?_
  case d1 => decide
  case d3 => rw [← he1.out]; exact hL1.out
  case d4 => have := Hcap.out; have := HlA.out; have := Ho1.out; have := Ho2.out; have := Ho3.out; omega
  case d5 => have := Ho0.out; have := Ho1.out; have := Ho2.out; have := Ho3.out; omega
  case d6 => rw [← he1.out]; exact HRd7.out
  case d7 => rw [← he1.out]; exact hB1.out
  case d8 => omega
  case d9 => decide
  case d10 => decide
  case d11 => rw [HM32.out]; omega
  case d12 => exact last_not_dig t2 kFlags 58 [34, 44, 34, 102, 108, 97, 103, 115, 34] rfl (by decide)
  rintro e w8 ⟨hb8, rfl⟩
  have HP8 := hid (HP7.out.kept hb8)
  have HV8 := hid (HV7.out.kept hb8)
  have HB8 := hid (HB7.out.trans (hb8.mono HB7.out.size))
  have HRd8 := hid ((HRd7.out.kept hb8).take l2)
  rw [he1.out, List.append_assoc, List.take_left' hL2.out] at HRd8
  clear HP7 HV7 HB7 HRd7 hb8
  go_wp2_with fail
  refine (cut_one g cap t3 kCas cas 64 _ l2 l3 w8 ?d1 hL3.out ?d3 ?d4 ?d5 ?d6 ?d7 ?d8 ?d9 ?d10 ?d11 ?d12).mono ?_
  case d1 => decide
  case d3 => rw [← he2.out]; exact hL2.out
  case d4 => have := Hcap.out; have := HlA.out; have := Ho1.out; have := Ho2.out; have := Ho3.out; omega
  case d5 => have := Ho0.out; have := Ho1.out; have := Ho2.out; have := Ho3.out; omega
  case d6 => rw [← he2.out]; exact HRd8.out
  case d7 => rw [← he2.out]; exact hB2.out
  case d8 => omega
  case d9 => decide
  case d10 => decide
  case d11 => rw [HM64.out]; omega
  case d12 => exact last_not_dig t3 kCas 34 [44, 34, 99, 97, 115, 34, 58] rfl (by decide)
  rintro e w9 ⟨hb9, rfl⟩
  have HP9 := hid (HP8.out.kept hb9)
  have HV9 := hid (HV8.out.kept hb9)
  have HB9 := hid (HB8.out.trans (hb9.mono HB8.out.size))
  have HRd9 := hid ((HRd8.out.kept hb9).take l3)
  rw [he2.out, List.append_assoc, List.take_left' hL3.out] at HRd9
  clear HP8 HV8 HB8 HRd8 hb9
  go_wp2_with fail
  refine (cut_one g cap t4 kRev rev 64 _ l3 l4 w9 ?d1 hL4.out ?d3 ?d4 ?d5 ?d6 ?d7 ?d8 ?d9 ?d10 ?d11 ?d12).mono ?_
  case d1 => decide
  case d3 => rw [← he3.out]; exact hL3.out
  case d4 => have := Hcap.out; have := HlA.out; have := Ho1.out; have := Ho2.out; have := Ho3.out; omega
  case d5 => have := Ho0.out; have := Ho1.out; have := Ho2.out; have := Ho3.out; omega
  case d6 => rw [← he3.out]; exact HRd9.out
  case d7 => rw [← he3.out]; exact hB3.out
  case d8 => omega
  case d9 => decide
  case d10 => decide
  case d11 => rw [HM64.out]; omega
  case d12 => exact last_not_dig t4 kRev 58 [44, 34, 114, 101, 118, 83, 101, 113, 110, 111, 34] rfl (by decide)
  rintro e w10 ⟨hb10, rfl⟩
  have HP10 := hid (HP9.out.kept hb10)
  have HV10 := hid (HV9.out.kept hb10)
  have HB10 := hid (HB9.out.trans (hb10.mono HB9.out.size))
  have HRd10 := hid ((HRd9.out.kept hb10).take l4)
  rw [he3.out, List.append_assoc, List.take_left' hL4.out] at HRd10
  clear HP9 HV9 HB9 HRd9 hb10
  have z1 : ((exp : Int) != (exp : Int)) = false := by simp
  have z2 : ((flags : Int) != (flags : Int)) = false := by simp
  have z3 : ((cas : Int) != (cas : Int)) = false := by simp
  have z4 : ((rev : Int) != (rev : Int)) = false := by simp
  have z5 : n + 15 + E ≤ l4 := by have := Hl4.out; omega
  have z6 : l4 ≤ 20000000 := by have := Ho0.out; have := Ho1.out; have := Ho2.out; have := Ho3.out; have := Ho4.out; omega
  have z7 : l4 + 1 ≤ cap := by have := Hcap.out; have := HlA.out; have := Ho1.out; have := Ho2.out; have := Ho3.out; have := Ho4.out; omega
  go_wp2_with fail
  refine (same_yes _ _ _ _ _ _ zs w10 HN.out HN.out ?d1 HP10.out (by omega)).mono ?_
  case d1 =>
    have := HRd10.out.take n
    rw [he4.out, List.append_assoc, List.append_assoc, List.take_left' HN.out] at this
    exact this
  rintro e w11 ⟨rfl, hb11⟩
  have HV11 := hid (HV10.out.kept hb11)
  have HB11 := hid (HB10.out.trans (hb11.mono HB10.out.size))
  have HRd11 := hid (HRd10.out.kept hb11)
  clear HP10 HV10 HB10 HRd10 hb11 z1 z2 z3 z4
  go_wp2_with fail
  refine (samestr_yes _ _ _ kKey _ w11 rfl ?d2 (by decide) (by decide) (by decide)).mono ?_
  case d2 =>
    have := (HRd11.out.drop n).take 6
    rw [he4.out, List.append_assoc, List.append_assoc, List.drop_left' HN.out, List.take_left' (show kKey.length = 6 from rfl), Nat.zero_add] at this
    exact this
  rintro e w12 ⟨rfl, hb12⟩
  have HV12 := hid (HV11.out.kept hb12)
  have HB12 := hid (HB11.out.trans (hb12.mono HB11.out.size))
  have HRd12 := hid (HRd11.out.kept hb12)
  clear HV11 HB11 HRd11 hb12
  go_wp2_with fail
  obtain ⟨q, hq⟩ : ∃ q, q = n + 6 + E := ⟨_, rfl⟩
  have hread := read_any g 0 l4 cap (n + 6) (zs ++ kKey) (kVal ++ val) key w12 (by rw [List.length_append, HN.out]; rfl) (by rw [← he4.out]; exact hL4.out) (by omega) (by
    intro j hj
    obtain ⟨x, hx, hcell⟩ := HRd12.out j (by rw [hL4.out]; exact hj)
    obtain rfl := Option.some.inj hx
    rw [Addr.add_lit] at hcell
    rw [hcell, he4.out])
  rw [hLE.out, ← hq, show ((n + 6 : Nat) : Int) = (n : Int) + 6 by omega] at hread
  have Hq := hid hq
  have z8 : q + 9 ≤ l4 := by have := Hl4.out; omega
  clear hq
  refine hread.mono ?_
  rintro e w13 ⟨rfl, rfl⟩
  clear hread
  go_wp2_with fail
  refine (samestr_yes _ _ _ kVal _ _ rfl ?d2 (by decide) (by decide) (by decide)).mono ?_
  case d2 =>
    have := (HRd12.out.drop q).take 9
    have hlen : (zs ++ kKey ++ encStr (nums key)).length = q := by
      rw [List.length_append, List.length_append, HN.out, hLE.out, Hq.out]; rfl
    rw [he4.out, List.drop_left' hlen, List.take_left' (show kVal.length = 9 from rfl), Nat.zero_add] at this
    exact this
  rintro e w14 ⟨rfl, hb14⟩
  have HV14 := hid (HV12.out.kept hb14)
  have HB14 := hid (HB12.out.trans (hb14.mono HB12.out.size))
  have HRd14 := hid (HRd12.out.kept hb14)
  clear HV12 HB12 HRd12 hb14
  go_wp2_with fail
  refine (same_yes _ _ _ _ _ _ val w14 ?d1 HVN.out ?d2 HV14.out (by omega)).mono ?_
  case d1 => have := Hl4.out; have := Hq.out; have hv := HVN.out; omega
  case d2 =>
    have := HRd14.out.drop (q + 9)
    have hlen : (zs ++ kKey ++ encStr (nums key) ++ kVal).length = q + 9 := by
      rw [List.length_append, List.length_append, List.length_append, HN.out, hLE.out, Hq.out]; rfl
    rw [he4.out, ← List.append_assoc, List.drop_left' hlen, Nat.zero_add] at this
    exact this
  rintro e w15 ⟨rfl, hb15⟩
  have HB15 := hid (HB14.out.trans (hb15.mono HB14.out.size))
  clear HV14 HB14 HRd14 hb15
  go_wp2
  go_ret
  exact ⟨rfl, HB15.out⟩

set_option maxRecDepth 100000 in
set_option maxHeartbeats 4000000 in
theorem back_true (a : Option Addr) (n c : Nat) (zs : List Int) (key : ByteArray) (av : Option Addr) (nv cv : Nat) (val : List Int) (rev cas flags exp : Nat) (w : World) (hT : Tab w)
    (hn : zs.length = n) (hrd : Rd w a zs) (ha : a = none → n = 0) (hbz : Bytes zs) (hvn : val.length = nv) (hrv : Rd w av val) (hav : av = none → nv = 0) (hbv : Bytes val)
    (hsz : n + key.size + nv ≤ 1048576) (h1 : rev < 18446744073709551616) (h2 : cas < 18446744073709551616) (h3 : flags < 4294967296) (h4 : exp < 4294967296) :
    Calls Tryd.prog 3 #[.slice a n c, .string key, .slice av nv cv, .int .u64 rev, .int .u64 cas, .int .u32 flags, .int .u32 exp, .bool true] w fun e w' => e = .returned (.bool true) ∧ Below w.heap.size w w' := by
  have m32 : mxOf 32 = 4294967295 := by decide +kernel
  have m64 : mxOf 64 = 18446744073709551615 := by decide +kernel
  have HM32 := hid m32
  have HM64 := hid m64
  have d1 : decide ((1048576 : Int) < (n : Int)) = false := decide_eq_false (by omega)
  have d2 : decide ((1048576 : Int) < (key.size : Int)) = false := decide_eq_false (by omega)
  have d3 : decide ((1048576 : Int) < (nv : Int)) = false := decide_eq_false (by omega)
  have d4 : decide ((1048576 : Int) < (n : Int) + (key.size : Int) + (nv : Int)) = false := decide_eq_false (by omega)
  have HN : Hid (zs.length = n) := hn
  have HVN : Hid (val.length = nv) := hvn
  have HBZ : Hid (Bytes zs) := hbz
  have HBV : Hid (Bytes val) := hbv
  have HT := hid hT
  have HRV := hid hrv
  clear m32 m64 hn hvn hbz hbv hT hrv
  go_enter Tryd.func3, Tryd.ntmps3
  go_wp2_with (go_at_call 6; refine (zzb_back_yes _ _ _ _ _ _ _ _ _ _ _ _ _ hsz).mono ?_; rintro e w' ⟨rfl, rfl⟩)
  refine (clone_any a n c zs _ HN.out hrd ha (by omega)).mono ?_
  rintro e w1 ⟨a1, rfl, hr1, ha1, hb1⟩
  have HR1 := hid hr1
  have HV1 := hid (HRV.out.kept hb1)
  have HB1 := hid hb1
  clear hr1 hb1 hrd ha HRV
  go_wp2_with fail
  refine (clone_any av nv cv val _ HVN.out HV1.out hav (by omega)).mono ?_
  rintro e w2 ⟨a2, rfl, hr2, ha2, hb2⟩
  have HV2 := hid hr2
  have HR2 := hid (HR1.out.kept hb2)
  have HB2 := hid (HB1.out.trans (hb2.mono HB1.out.size))
  clear hr2 hb2 HR1 HV1 HB1 hav
  go_wp2_with fail
  refine (clone_any a1 n n zs _ HN.out HR2.out ha1 (by omega)).mono ?_
  rintro e w3 ⟨a3, rfl, hr3, ha3, hb3⟩
  have HP3 := hid hr3
  have HR3 := hid (HR2.out.kept hb3)
  have HV3 := hid (HV2.out.kept hb3)
  have HB3 := hid (HB2.out.trans (hb3.mono HB2.out.size))
  have HA1 : Hid (a1 = none → n = 0) := ha1
  have HA2 : Hid (a2 = none → nv = 0) := ha2
  clear hr3 hb3 HR2 HV2 HB2 ha1 ha2 ha3
  go_wp2_with fail
  obtain ⟨W4, hW⟩ : ∃ W4, W4 = w3.alloc (.cells #[.string key, .slice a2 nv nv, .int .u64 rev, .int .u64 cas, .int .u32 flags, .int .u32 exp, .bool true] 29) := ⟨_, rfl⟩
  have hb4 : Below w3.heap.size w3 W4 := by rw [hW]; exact (Below.refl _ _).alloc (Nat.le_refl _) _
  have hD4 : DocAt W4 w3.heap.size key a2 nv rev cas flags exp true := by
    rw [hW]
    exact doc_new w3 key a2 nv rev cas flags exp true
  rw [← hW]
  have HP4 := hid (HP3.out.kept hb4)
  have HR4 := hid (HR3.out.kept hb4)
  have HV4 := hid (HV3.out.kept hb4)
  have HB4 := hid (HB3.out.trans (hb4.mono HB3.out.size))
  have HD4 := hid hD4
  clear HP3 HR3 HV3 HB3 hb4 hD4 hW
  refine (fields_any a1 n zs w3.heap.size key a2 nv val rev cas flags exp true W4 HN.out HR4.out HA1.out HVN.out HV4.out HA2.out HD4.out (HT.out.kept HB4.out) hsz h1 h2 h3 h4).mono ?_
  rintro e w5 ⟨v, rfl, ho⟩
  have hpos : 0 < (textAll zs (nums key) val true rev cas flags exp).length := by simp [textAll, kDel]; omega
  obtain ⟨g, cap, rfl, hg, hcap, hcm, hcells⟩ := ho.form hpos
  have HP5 := hid (HP4.out.kept ho.2.1)
  have HV5 := hid (HV4.out.kept ho.2.1)
  have HB5 := hid (HB4.out.trans (ho.2.1.mono HB4.out.size))
  have hRd : Rd w5 (some ⟨g, 0, none⟩) (textAll zs (nums key) val true rev cas flags exp) := rd_of_cells (by simpa using hcells)
  clear HP4 HR4 HV4 HB4 HD4 ho hpos hg hcells HA1 HA2 HT
  obtain ⟨t4, t3, t2, t1, t0, l4, l3, l2, l1, l0, E, eA, e0, e1, e2, e3, e4, L4, L3, L2, L1, L0, LE, ⟨B3, B2, B1, B0⟩, o4, o3, o2, o1, o0, hl4⟩ := split_texts zs key val true rev cas flags exp n nv HN.out HVN.out HBZ.out HBV.out hsz
  rw [if_pos rfl] at e4 hl4
  rw [eA] at hcap hRd ⊢
  have elA : (t0 ++ (kDel ++ boolText true)).length = l0 + 15 := by rw [List.length_append, L0]; rfl
  rw [elA] at hcap ⊢
  obtain ⟨lA, hlA⟩ : ∃ l, l = l0 + 15 := ⟨_, rfl⟩
  rw [← hlA] at hcap ⊢
  have HlA := hid hlA
  have HRd := hid hRd
  have he0 := hid e0
  have he1 := hid e1
  have he2 := hid e2
  have he3 := hid e3
  have he4 := hid e4
  have hL4 := hid L4
  have hL3 := hid L3
  have hL2 := hid L2
  have hL1 := hid L1
  have hL0 := hid L0
  have hLE := hid LE
  have hB3 := hid B3
  have hB2 := hid B2
  have hB1 := hid B1
  have hB0 := hid B0
  have Ho4 := hid o4
  have Ho3 := hid o3
  have Ho2 := hid o2
  have Ho1 := hid o1
  have Ho0 := hid o0
  have Hl4 := hid hl4
  have Hcap := hid hcap
  have q1 : 15 ≤ lA := by omega
  have q2 : lA ≤ 20000020 := by omega
  have q3 : lA ≤ cap := hcap
  clear hRd eA e0 e1 e2 e3 e4 L4 L3 L2 L1 L0 LE B3 B2 B1 B0 o4 o3 o2 o1 o0 hl4 hcap elA hlA
  go_wp2_with fail
  refine (samestr_yes _ _ _ (kDel ++ boolText true) _ w5 ?d1 ?d2 ?d3 ?d4 ?d5).mono ?_
  case d1 => have := HlA.out; rw [show (kDel ++ boolText true).length = 15 from rfl]; omega
  case d2 =>
    have := (HRd.out.drop l0)
    rw [List.drop_left' hL0.out] at this
    have e : 0 + l0 = lA - 15 := by have := HlA.out; omega
    rw [e] at this
    exact this
  case d3 => omega
  case d4 => decide
  case d5 => decide
  rintro e w6 ⟨rfl, hb6⟩
  have HP6 := hid (HP5.out.kept hb6)
  have HV6 := hid (HV5.out.kept hb6)
  have HB6 := hid (HB5.out.trans (hb6.mono HB5.out.size))
  have HRd6 := hid ((HRd.out.kept hb6).take l0)
  clear HP5 HV5 HB5 HRd hb6
  go_wp2_with fail
  have ql : lA - 15 = l0 := by have := HlA.out; omega
  rw [List.take_left' hL0.out] at HRd6
  rw [ql]
  refine (cut_one g cap t1 kExp exp 32 _ l0 l1 w6 ?d1 hL1.out ?d3 ?d4 ?d5 ?d6 ?d7 ?d8 ?d9 ?d10 ?d11 ?d12).mono ?_
  case d1 => decide
  case d3 => rw [← he0.out]; exact hL0.out
  case d4 => have := Hcap.out; have := HlA.out; have := Ho1.out; have := Ho2.out; have := Ho3.out; omega
  case d5 => have := Ho0.out; have := Ho1.out; have := Ho2.out; have := Ho3.out; omega
  case d6 => rw [← he0.out]; exact HRd6.out
  case d7 => rw [← he0.out]; exact hB0.out
  case d8 => omega
  case d9 => decide
  case d10 => decide
  case d11 => rw [HM32.out]; omega
  case d12 => exact last_not_dig t1 kExp 58 [44, 34, 101, 120, 112, 105, 114, 121, 34] rfl (by decide)
  rintro e w7 ⟨hb7, rfl⟩
  have HP7 := hid (HP6.out.kept hb7)
  have HV7 := hid (HV6.out.kept hb7)
  have HB7 := hid (HB6.out.trans (hb7.mono HB6.out.size))
  have HRd7 := hid ((HRd6.out.kept hb7).take l1)
  rw [he0.out, List.append_assoc, List.take_left' hL1.out] at HRd7
  clear HP6 HV6 HB6 HRd6 hb7
  go_wp2_with fail
  refine (cut_one g cap t2 kFlags flags 32 _ l1 l2 w7 ?d1 hL2.out ?d3 ?d4 ?d5 ?d6 ?d7 ?d8 ?d9 ?d10 ?d11 ?d12).mono ?_
  case d1 => decide
  case d3 => rw [← he1.out]; exact hL1.out
  case d4 => have := Hcap.out; have := HlA.out; have := Ho1.out; have := Ho2.out; have := Ho3.out; omega
  case d5 => have := Ho0.out; have := Ho1.out; have := Ho2.out; have := Ho3.out; omega
  case d6 => rw [← he1.out]; exact HRd7.out
  case d7 => rw [← he1.out]; exact hB1.out
  case d8 => omega
  case d9 => decide
  case d10 => decide
  case d11 => rw [HM32.out]; omega
  case d12 => exact last_not_dig t2 kFlags 58 [34, 44, 34, 102, 108, 97, 103, 115, 34] rfl (by decide)
  rintro e w8 ⟨hb8, rfl⟩
  have HP8 := hid (HP7.out.kept hb8)
  have HV8 := hid (HV7.out.kept hb8)
  have HB8 := hid (HB7.out.trans (hb8.mono HB7.out.size))
  have HRd8 := hid ((HRd7.out.kept hb8).take l2)
  rw [he1.out, List.append_assoc, List.take_left' hL2.out] at HRd8
  clear HP7 HV7 HB7 HRd7 hb8
  go_wp2_with fail
  refine (cut_one g cap t3 kCas cas 64 _ l2 l3 w8 ?d1 hL3.out ?d3 ?d4 ?d5 ?d6 ?d7 ?d8 ?d9 ?d10 ?d11 ?d12).mono ?_
  case d1 => decide
  case d3 => rw [← he2.out]; exact hL2.out
  case d4 => have := Hcap.out; have := HlA.out; have := Ho1.out; have := Ho2.out; have := Ho3.out; omega
  case d5 => have := Ho0.out; have := Ho1.out; have := Ho2.out; have := Ho3.out; omega
  case d6 => rw [← he2.out]; exact HRd8.out
  case d7 => rw [← he2.out]; exact hB2.out
  case d8 => omega
  case d9 => decide
  case d10 => decide
  case d11 => rw [HM64.out]; omega
  case d12 => exact last_not_dig t3 kCas 34 [44, 34, 99, 97, 115, 34, 58] rfl (by decide)
  rintro e w9 ⟨hb9, rfl⟩
  have HP9 := hid (HP8.out.kept hb9)
  have HV9 := hid (HV8.out.kept hb9)
  have HB9 := hid (HB8.out.trans (hb9.mono HB8.out.size))
  have HRd9 := hid ((HRd8.out.kept hb9).take l3)
  rw [he2.out, List.append_assoc, List.take_left' hL3.out] at HRd9
  clear HP8 HV8 HB8 HRd8 hb9
  go_wp2_with fail
  refine (cut_one g cap t4 kRev rev 64 _ l3 l4 w9 ?d1 hL4.out ?d3 ?d4 ?d5 ?d6 ?d7 ?d8 ?d9 ?d10 ?d11 ?d12).mono ?_
  case d1 => decide
  case d3 => rw [← he3.out]; exact hL3.out
  case d4 => have := Hcap.out; have := HlA.out; have := Ho1.out; have := Ho2.out; have := Ho3.out; omega
  case d5 => have := Ho0.out; have := Ho1.out; have := Ho2.out; have := Ho3.out; omega
  case d6 => rw [← he3.out]; exact HRd9.out
  case d7 => rw [← he3.out]; exact hB3.out
  case d8 => omega
  case d9 => decide
  case d10 => decide
  case d11 => rw [HM64.out]; omega
  case d12 => exact last_not_dig t4 kRev 58 [44, 34, 114, 101, 118, 83, 101, 113, 110, 111, 34] rfl (by decide)
  rintro e w10 ⟨hb10, rfl⟩
  have HP10 := hid (HP9.out.kept hb10)
  have HV10 := hid (HV9.out.kept hb10)
  have HB10 := hid (HB9.out.trans (hb10.mono HB9.out.size))
  have HRd10 := hid ((HRd9.out.kept hb10).take l4)
  rw [he3.out, List.append_assoc, List.take_left' hL4.out] at HRd10
  clear HP9 HV9 HB9 HRd9 hb10
  have z1 : ((exp : Int) != (exp : Int)) = false := by simp
  have z2 : ((flags : Int) != (flags : Int)) = false := by simp
  have z3 : ((cas : Int) != (cas : Int)) = false := by simp
  have z4 : ((rev : Int) != (rev : Int)) = false := by simp
  have z5 : n + 15 + E ≤ l4 := by have := Hl4.out; omega
  have z6 : l4 ≤ 20000000 := by have := Ho0.out; have := Ho1.out; have := Ho2.out; have := Ho3.out; have := Ho4.out; omega
  have z7 : l4 + 1 ≤ cap := by have := Hcap.out; have := HlA.out; have := Ho1.out; have := Ho2.out; have := Ho3.out; have := Ho4.out; omega
  go_wp2_with fail
  refine (same_yes _ _ _ _ _ _ zs w10 HN.out HN.out ?d1 HP10.out (by omega)).mono ?_
  case d1 =>
    have := HRd10.out.take n
    rw [he4.out, List.append_assoc, List.append_assoc, List.take_left' HN.out] at this
    exact this
  rintro e w11 ⟨rfl, hb11⟩
  have HV11 := hid (HV10.out.kept hb11)
  have HB11 := hid (HB10.out.trans (hb11.mono HB10.out.size))
  have HRd11 := hid (HRd10.out.kept hb11)
  clear HP10 HV10 HB10 HRd10 hb11 z1 z2 z3 z4
  go_wp2_with fail
  refine (samestr_yes _ _ _ kKey _ w11 rfl ?d2 (by decide) (by decide) (by decide)).mono ?_
  case d2 =>
    have := (HRd11.out.drop n).take 6
    rw [he4.out, List.append_assoc, List.append_assoc, List.drop_left' HN.out, List.take_left' (show kKey.length = 6 from rfl), Nat.zero_add] at this
    exact this
  rintro e w12 ⟨rfl, hb12⟩
  have HV12 := hid (HV11.out.kept hb12)
  have HB12 := hid (HB11.out.trans (hb12.mono HB11.out.size))
  have HRd12 := hid (HRd11.out.kept hb12)
  clear HV11 HB11 HRd11 hb12
  go_wp2_with fail
  obtain ⟨q, hq⟩ : ∃ q, q = n + 6 + E := ⟨_, rfl⟩
  have hread := read_any g 0 l4 cap (n + 6) (zs ++ kKey) (kVal ++ kNull) key w12 (by rw [List.length_append, HN.out]; rfl) (by rw [← he4.out]; exact hL4.out) (by omega) (by
    intro j hj
    obtain ⟨x, hx, hcell⟩ := HRd12.out j (by rw [hL4.out]; exact hj)
    obtain rfl := Option.some.inj hx
    rw [Addr.add_lit] at hcell
    rw [hcell, he4.out])
  rw [hLE.out, ← hq, show ((n + 6 : Nat) : Int) = (n : Int) + 6 by omega] at hread
  have Hq := hid hq
  have z8 : q + 9 ≤ l4 := by have := Hl4.out; omega
  clear hq
  refine hread.mono ?_
  rintro e w13 ⟨rfl, rfl⟩
  clear hread
  go_wp2_with fail
  refine (samestr_yes _ _ _ kVal _ _ rfl ?d2 (by decide) (by decide) (by decide)).mono ?_
  case d2 =>
    have := (HRd12.out.drop q).take 9
    have hlen : (zs ++ kKey ++ encStr (nums key)).length = q := by
      rw [List.length_append, List.length_append, HN.out, hLE.out, Hq.out]; rfl
    rw [he4.out, List.drop_left' hlen, List.take_left' (show kVal.length = 9 from rfl), Nat.zero_add] at this
    exact this
  rintro e w14 ⟨rfl, hb14⟩
  have HV14 := hid (HV12.out.kept hb14)
  have HB14 := hid (HB12.out.trans (hb14.mono HB12.out.size))
  have HRd14 := hid (HRd12.out.kept hb14)
  clear HV12 HB12 HRd12 hb14
  go_wp2_with fail
  refine (samestr_yes _ _ _ kNull _ w14 ?d1 ?d2 (by omega) (by decide) (by decide)).mono ?_
  case d1 => have := Hl4.out; have := Hq.out; have h4 : kNull.length = 4 := rfl; omega
  case d2 =>
    have := HRd14.out.drop (q + 9)
    have hlen : (zs ++ kKey ++ encStr (nums key) ++ kVal).length = q + 9 := by
      rw [List.length_append, List.length_append, List.length_append, HN.out, hLE.out, Hq.out]; rfl
    rw [he4.out, ← List.append_assoc, List.drop_left' hlen, Nat.zero_add] at this
    exact this
  rintro e w15 ⟨rfl, hb15⟩
  have HB15 := hid (HB14.out.trans (hb15.mono HB14.out.size))
  clear HV14 HB14 HRd14 hb15
  go_wp2
  go_ret
  exact ⟨rfl, HB15.out⟩

end Go.Proofs.Qxb6603783aDoor
