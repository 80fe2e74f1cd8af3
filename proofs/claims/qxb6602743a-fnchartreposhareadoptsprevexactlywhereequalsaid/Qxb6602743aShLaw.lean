/-
  WALK: FnChartrepoShareAdoptsPrevExactlyWhereEqual, the law.
-/
import Derived.Test.Qxb6602743aShShare
import Derived.Test.Qxb6602743aShSize
import Derived.Test.Qxb6602743aShZz
namespace Go.Proofs.Qxb6602743a
open Go.RowKit

theorem Ss.form {w : World} {ao : Option Addr} {ss : List ByteArray} (h : Ss w ao ss) (n : Nat) (hn : n = 0 ∨ 0 < ss.length) : n = 0 ∨ ∃ b off, ao = some ⟨b, off, none⟩ := by
  rcases hn with h0 | h0
  · exact .inl h0
  · obtain ⟨b, off, e, _⟩ := h.at h0
    exact .inr ⟨b, off, e⟩
theorem drewN_below (w : World) (q : Nat) : Below w.heap.size w (w.drewN q) := ⟨rfl, rfl, rfl, Nat.le_refl _, fun _ _ => rfl⟩
theorem samestrs_yes (a b : Option Addr) (n c d : Nat) (xs : List ByteArray) (w : World) (hn : xs.length = n) (hx : Ss w a xs) (hy : Ss w b xs) (hmax : n ≤ 1048576) :
    Calls Try.prog 15 #[.slice a n c, .slice b n d] w fun e w' => e = .returned (.bool true) ∧ Below w.heap.size w w' := by
  refine (samestrs_any a b n c n d xs xs w hn hn hx hy (by omega)).mono ?_
  rintro e w' ⟨rfl, hb⟩
  exact ⟨by simp, hb⟩
theorem samemaints_yes (a b : Option Addr) (n c d : Nat) (xs : List ByteArray) (w : World) (hn : xs.length = n * 3) (hx : Ss w a xs) (hy : Ss w b xs) (hmax : n ≤ 1048576) :
    Calls Try.prog 20 #[.slice a n c, .slice b n d] w fun e w' => e = .returned (.bool true) ∧ Below w.heap.size w w' := by
  refine (samemaints_any a b n c n d xs xs w hn hn hx hy (by omega)).mono ?_
  rintro e w' ⟨rfl, hb⟩
  exact ⟨by simp, hb⟩

theorem zzshare_any (g1 g2 : Nat) (d1 h1 i1 d2 h2 i2 : ByteArray) (w0 w : World) (k1 k2 s1 s2 m1 m2 : Option Addr) (nk1 nk2 ns1 ns2 nm1 nm2 : Nat) (K1 K2 S1 S2 M1 M2 : List ByteArray)
    (H : ShAt w0 g1 g2 d1 h1 i1 (.slice k1 nk1 nk1) (.slice s1 ns1 ns1) (.slice m1 nm1 nm1) d2 h2 i2 (.slice k2 nk2 nk2) (.slice s2 ns2 ns2) (.slice m2 nm2 nm2) w) (hne : g1 < g2) (hB : w0.heap.size ≤ g1)
    (LK1 : K1.length = nk1) (LK2 : K2.length = nk2) (LS1 : S1.length = ns1) (LS2 : S2.length = ns2) (LM1 : M1.length = nm1 * 3) (LM2 : M2.length = nm2 * 3)
    (XK1 : Ss w0 k1 K1) (XK2 : Ss w0 k2 K2) (XS1 : Ss w0 s1 S1) (XS2 : Ss w0 s2 S2) (XM1 : Ss w0 m1 M1) (XM2 : Ss w0 m2 M2) (bk : nk1 ≤ 1048576) (bs : ns1 ≤ 1048576) (bm : nm1 ≤ 1048576) :
    Calls Try.prog 17 #[.pointer (some ⟨g1, 0, none⟩), .pointer (some ⟨g2, 0, none⟩)] w fun e w' => e = .returned (.tuple #[]) ∧
      ShAt w0 g1 g2 d1 h1 i1 (if K1 = K2 then .slice k2 nk2 nk2 else .slice k1 nk1 nk1) (if S1 = S2 then .slice s2 ns2 ns2 else .slice s1 ns1 ns1) (if M1 = M2 then .slice m2 nm2 nm2 else .slice m1 nm1 nm1) d2 h2 i2 (.slice k2 nk2 nk2) (.slice s2 ns2 ns2) (.slice m2 nm2 nm2) w' := by
  have hc := share_any g1 g2 d1 h1 i1 d2 h2 i2 w0 w k1 k2 s1 s2 m1 m2 nk1 nk2 ns1 ns2 nm1 nm2 K1 K2 S1 S2 M1 M2 H hne hB LK1 LK2 LS1 LS2 LM1 LM2 XK1 XK2 XS1 XS2 XM1 XM2 bk bs bm
  obtain ⟨vk, hvk⟩ : ∃ v : Value, v = if K1 = K2 then .slice k2 nk2 nk2 else .slice k1 nk1 nk1 := ⟨_, rfl⟩
  obtain ⟨vs, hvs⟩ : ∃ v : Value, v = if S1 = S2 then .slice s2 ns2 ns2 else .slice s1 ns1 ns1 := ⟨_, rfl⟩
  obtain ⟨vm, hvm⟩ : ∃ v : Value, v = if M1 = M2 then .slice m2 nm2 nm2 else .slice m1 nm1 nm1 := ⟨_, rfl⟩
  rw [← hvk, ← hvs, ← hvm] at hc ⊢
  have HC := shid hc
  clear hvk hvs hvm
  clear hc H LK1 LK2 LS1 LS2 LM1 LM2 XK1 XK2 XS1 XS2 XM1 XM2
  go_enter Try.func17, Try.ntmps17
  go_wp2_with fail
  refine HC.out.mono ?_
  rintro e w' ⟨rfl, hp⟩
  have HP := shid hp
  clear hp HC
  go_wp2
  go_end0
  exact ⟨rfl, HP.out⟩

theorem sh_new (w0 : World) (d1 h1 i1 d2 h2 i2 : ByteArray) (a1 a2 a3 b1 b2 b3 : Value) :
    ShAt w0 w0.heap.size (w0.heap.size + 1) d1 h1 i1 a1 a2 a3 d2 h2 i2 b1 b2 b3 ((w0.alloc (.cells #[.string d1, .string h1, .string i1, a1, a2, a3] 34)).alloc (.cells #[.string d2, .string h2, .string i2, b1, b2, b3] 34)) := by
  have hsz : (w0.alloc (.cells #[.string d1, .string h1, .string i1, a1, a2, a3] 34)).heap.size = w0.heap.size + 1 := by simp
  refine ⟨?_, ?_, ((Below.refl w0.heap.size w0).alloc (Nat.le_refl _) _).alloc (by rw [hsz]; omega) _⟩
  · unfold CiAt
    rw [heap_alloc_old _ _ (by rw [hsz]; omega)]
    exact heap_alloc_new w0 _
  · unfold CiAt
    rw [← hsz]
    exact heap_alloc_new _ _

/-- One of two slices. -/
theorem pick_form {w : World} {a b : Option Addr} {n m : Nat} {xs ys : List ByteArray} (p : Prop) [Decidable p] (hx : Ss w a xs) (hy : Ss w b ys) (hn : n = 0 ∨ 0 < xs.length) (hm : m = 0 ∨ 0 < ys.length) :
    ∃ (x : Option Addr) (k : Nat), (if p then Value.slice b m m else Value.slice a n n) = .slice x k k ∧ (k = 0 ∨ ∃ g off, x = some ⟨g, off, none⟩) := by
  by_cases h : p
  · exact ⟨b, m, by rw [if_pos h], hy.form m hm⟩
  · exact ⟨a, n, by rw [if_neg h], hx.form n hn⟩

set_option maxRecDepth 100000 in
set_option maxHeartbeats 4000000 in
theorem law_any (d1 h1 i1 : ByteArray) (a1 a2 a3 : Option Addr) (n1 c1 n2 c2 n3 c3 : Nat) (s1 s2 s3 : List ByteArray) (d2 h2 i2 : ByteArray) (a4 a5 a6 : Option Addr) (n4 c4 n5 c5 n6 c6 : Nat) (s4 s5 s6 : List ByteArray) (w : World)
    (L1 : s1.length = n1) (L2 : s2.length = n2) (L3 : s3.length = n3 * 3) (X1 : Ss w a1 s1) (X2 : Ss w a2 s2) (X3 : Ss w a3 s3)
    (L4 : s4.length = n4) (L5 : s5.length = n5) (L6 : s6.length = n6 * 3) (X4 : Ss w a4 s4) (X5 : Ss w a5 s5) (X6 : Ss w a6 s6)
    (z1 : a1 = none → n1 = 0) (z2 : a2 = none → n2 = 0) (z3 : a3 = none → n3 = 0) (z4 : a4 = none → n4 = 0) (z5 : a5 = none → n5 = 0) (z6 : a6 = none → n6 = 0) :
    Calls Try.prog 3 #[.string d1, .string h1, .string i1, .slice a1 n1 c1, .slice a2 n2 c2, .slice a3 n3 c3, .string d2, .string h2, .string i2, .slice a4 n4 c4, .slice a5 n5 c5, .slice a6 n6 c6] w
      fun e w' => e = .returned (.bool true) ∧ Below w.heap.size w w' := by
  have X_a1_0 := shid X1
  have K1 : Hid (s1.length = n1) := L1
  have Z_a1 : Hid (a1 = none → n1 = 0) := z1
  have X_a2_0 := shid X2
  have K2 : Hid (s2.length = n2) := L2
  have Z_a2 : Hid (a2 = none → n2 = 0) := z2
  have X_a3_0 := shid X3
  have K3 : Hid (s3.length = n3 * 3) := L3
  have Z_a3 : Hid (a3 = none → n3 = 0) := z3
  have X_a4_0 := shid X4
  have K4 : Hid (s4.length = n4) := L4
  have Z_a4 : Hid (a4 = none → n4 = 0) := z4
  have X_a5_0 := shid X5
  have K5 : Hid (s5.length = n5) := L5
  have Z_a5 : Hid (a5 = none → n5 = 0) := z5
  have X_a6_0 := shid X6
  have K6 : Hid (s6.length = n6 * 3) := L6
  have Z_a6 : Hid (a6 = none → n6 = 0) := z6
  have HB_0 := shid (Below.refl w.heap.size w)
  clear X1 X2 X3 X4 X5 X6 L1 L2 L3 L4 L5 L6 z1 z2 z3 z4 z5 z6
  go_enter Try.func3, Try.ntmps3
  go_wp2_with fail
  refine (zzb_any d1 h1 i1 a1 a2 a3 n1 c1 n2 c2 n3 c3 s1 s2 s3 d2 h2 i2 a4 a5 a6 n4 c4 n5 c5 n6 c6 s4 s5 s6 w K1.out K2.out K3.out X_a1_0.out X_a2_0.out X_a3_0.out K4.out K5.out K6.out X_a4_0.out X_a5_0.out X_a6_0.out).mono ?_
  rintro e w0 ⟨b, rfl, hbd, rfl⟩
  cases b
  · go_wp2
    go_ret
    exact ⟨rfl, HB_0.out⟩
  obtain ⟨y1, y2, y3, y4, y5, y6⟩ := hbd rfl
  clear hbd
  go_wp2_with fail
  refine (sharebytes_any d1 h1 i1 a1 a2 a3 n1 c1 n2 c2 n3 c3 s1 s2 s3 1048576 _ (by decide) (by decide) K1.out K2.out K3.out X_a1_0.out X_a2_0.out X_a3_0.out (by omega) (by omega) (by omega)).mono ?_
  rintro e w' ⟨r1, rfl, r10, r11, rfl⟩
  go_wp2_with fail
  refine (sharebytes_any d2 h2 i2 a4 a5 a6 n4 c4 n5 c5 n6 c6 s4 s5 s6 r1 _ r10 r11 K4.out K5.out K6.out X_a4_0.out X_a5_0.out X_a6_0.out (by omega) (by omega) (by omega)).mono ?_
  rintro e w' ⟨r2, rfl, r20, r21, rfl⟩
  clear r10 r11
  by_cases hr : r2 < 0
  · go_wp2
    go_ret
    exact ⟨rfl, HB_0.out⟩
  go_wp2_with fail
  refine (clonestrs_any a1 n1 c1 s1 _ K1.out X_a1_0.out Z_a1.out y1).mono ?_
  rintro e w1 ⟨b1, rfl, hxn, hzn, hbn⟩
  have X_b1_1 := shid hxn
  have Z_b1 : Hid (b1 = none → n1 = 0) := hzn
  clear hxn hzn
  have X_a1_1 := shid (X_a1_0.out.kept hbn)
  have X_a2_1 := shid (X_a2_0.out.kept hbn)
  have X_a3_1 := shid (X_a3_0.out.kept hbn)
  have X_a4_1 := shid (X_a4_0.out.kept hbn)
  have X_a5_1 := shid (X_a5_0.out.kept hbn)
  have X_a6_1 := shid (X_a6_0.out.kept hbn)
  have HB_1 := shid (HB_0.out.trans (hbn.mono HB_0.out.size))
  clear hbn HB_0 X_a1_0 X_a2_0 X_a3_0 X_a4_0 X_a5_0 X_a6_0
  go_wp2_with fail
  refine (clonestrs_any a2 n2 c2 s2 _ K2.out X_a2_1.out Z_a2.out y2).mono ?_
  rintro e w2 ⟨b2, rfl, hxn, hzn, hbn⟩
  have X_b2_2 := shid hxn
  have Z_b2 : Hid (b2 = none → n2 = 0) := hzn
  clear hxn hzn
  have X_a2_2 := shid (X_a2_1.out.kept hbn)
  have X_a3_2 := shid (X_a3_1.out.kept hbn)
  have X_a4_2 := shid (X_a4_1.out.kept hbn)
  have X_a5_2 := shid (X_a5_1.out.kept hbn)
  have X_a6_2 := shid (X_a6_1.out.kept hbn)
  have X_b1_2 := shid (X_b1_1.out.kept hbn)
  have HB_2 := shid (HB_1.out.trans (hbn.mono HB_1.out.size))
  clear hbn HB_1 X_a2_1 X_a3_1 X_a4_1 X_a5_1 X_a6_1 X_b1_1
  go_wp2_with fail
  refine (clonemaints_any a3 n3 c3 s3 _ K3.out X_a3_2.out Z_a3.out y3).mono ?_
  rintro e w3 ⟨b3, rfl, hxn, hzn, hbn⟩
  have X_b3_3 := shid hxn
  have Z_b3 : Hid (b3 = none → n3 = 0) := hzn
  clear hxn hzn
  have X_a3_3 := shid (X_a3_2.out.kept hbn)
  have X_a4_3 := shid (X_a4_2.out.kept hbn)
  have X_a5_3 := shid (X_a5_2.out.kept hbn)
  have X_a6_3 := shid (X_a6_2.out.kept hbn)
  have X_b1_3 := shid (X_b1_2.out.kept hbn)
  have X_b2_3 := shid (X_b2_2.out.kept hbn)
  have HB_3 := shid (HB_2.out.trans (hbn.mono HB_2.out.size))
  clear hbn HB_2 X_a3_2 X_a4_2 X_a5_2 X_a6_2 X_b1_2 X_b2_2
  go_wp2_with fail
  refine (clonestrs_any a4 n4 c4 s4 _ K4.out X_a4_3.out Z_a4.out y4).mono ?_
  rintro e w4 ⟨b4, rfl, hxn, hzn, hbn⟩
  have X_b4_4 := shid hxn
  have Z_b4 : Hid (b4 = none → n4 = 0) := hzn
  clear hxn hzn
  have X_a4_4 := shid (X_a4_3.out.kept hbn)
  have X_a5_4 := shid (X_a5_3.out.kept hbn)
  have X_a6_4 := shid (X_a6_3.out.kept hbn)
  have X_b1_4 := shid (X_b1_3.out.kept hbn)
  have X_b2_4 := shid (X_b2_3.out.kept hbn)
  have X_b3_4 := shid (X_b3_3.out.kept hbn)
  have HB_4 := shid (HB_3.out.trans (hbn.mono HB_3.out.size))
  clear hbn HB_3 X_a4_3 X_a5_3 X_a6_3 X_b1_3 X_b2_3 X_b3_3
  go_wp2_with fail
  refine (clonestrs_any a5 n5 c5 s5 _ K5.out X_a5_4.out Z_a5.out y5).mono ?_
  rintro e w5 ⟨b5, rfl, hxn, hzn, hbn⟩
  have X_b5_5 := shid hxn
  have Z_b5 : Hid (b5 = none → n5 = 0) := hzn
  clear hxn hzn
  have X_a5_5 := shid (X_a5_4.out.kept hbn)
  have X_a6_5 := shid (X_a6_4.out.kept hbn)
  have X_b1_5 := shid (X_b1_4.out.kept hbn)
  have X_b2_5 := shid (X_b2_4.out.kept hbn)
  have X_b3_5 := shid (X_b3_4.out.kept hbn)
  have X_b4_5 := shid (X_b4_4.out.kept hbn)
  have HB_5 := shid (HB_4.out.trans (hbn.mono HB_4.out.size))
  clear hbn HB_4 X_a5_4 X_a6_4 X_b1_4 X_b2_4 X_b3_4 X_b4_4
  go_wp2_with fail
  refine (clonemaints_any a6 n6 c6 s6 _ K6.out X_a6_5.out Z_a6.out y6).mono ?_
  rintro e w6 ⟨b6, rfl, hxn, hzn, hbn⟩
  have X_b6_6 := shid hxn
  have Z_b6 : Hid (b6 = none → n6 = 0) := hzn
  clear hxn hzn
  have X_a6_6 := shid (X_a6_5.out.kept hbn)
  have X_b1_6 := shid (X_b1_5.out.kept hbn)
  have X_b2_6 := shid (X_b2_5.out.kept hbn)
  have X_b3_6 := shid (X_b3_5.out.kept hbn)
  have X_b4_6 := shid (X_b4_5.out.kept hbn)
  have X_b5_6 := shid (X_b5_5.out.kept hbn)
  have HB_6 := shid (HB_5.out.trans (hbn.mono HB_5.out.size))
  clear hbn HB_5 X_a6_5 X_b1_5 X_b2_5 X_b3_5 X_b4_5 X_b5_5
  go_wp2_with fail
  refine (clonestrs_any b1 n1 n1 s1 _ K1.out X_b1_6.out Z_b1.out y1).mono ?_
  rintro e w7 ⟨e1, rfl, hxn, hzn, hbn⟩
  have X_e1_7 := shid hxn
  have Z_e1 : Hid (e1 = none → n1 = 0) := hzn
  clear hxn hzn
  have X_b1_7 := shid (X_b1_6.out.kept hbn)
  have X_b2_7 := shid (X_b2_6.out.kept hbn)
  have X_b3_7 := shid (X_b3_6.out.kept hbn)
  have X_b4_7 := shid (X_b4_6.out.kept hbn)
  have X_b5_7 := shid (X_b5_6.out.kept hbn)
  have X_b6_7 := shid (X_b6_6.out.kept hbn)
  have HB_7 := shid (HB_6.out.trans (hbn.mono HB_6.out.size))
  clear hbn HB_6 X_b1_6 X_b2_6 X_b3_6 X_b4_6 X_b5_6 X_b6_6
  go_wp2_with fail
  refine (clonestrs_any b2 n2 n2 s2 _ K2.out X_b2_7.out Z_b2.out y2).mono ?_
  rintro e w8 ⟨e2, rfl, hxn, hzn, hbn⟩
  have X_e2_8 := shid hxn
  have Z_e2 : Hid (e2 = none → n2 = 0) := hzn
  clear hxn hzn
  have X_b1_8 := shid (X_b1_7.out.kept hbn)
  have X_b2_8 := shid (X_b2_7.out.kept hbn)
  have X_b3_8 := shid (X_b3_7.out.kept hbn)
  have X_b4_8 := shid (X_b4_7.out.kept hbn)
  have X_b5_8 := shid (X_b5_7.out.kept hbn)
  have X_b6_8 := shid (X_b6_7.out.kept hbn)
  have X_e1_8 := shid (X_e1_7.out.kept hbn)
  have HB_8 := shid (HB_7.out.trans (hbn.mono HB_7.out.size))
  clear hbn HB_7 X_b1_7 X_b2_7 X_b3_7 X_b4_7 X_b5_7 X_b6_7 X_e1_7
  go_wp2_with fail
  refine (clonestrs_any b4 n4 n4 s4 _ K4.out X_b4_8.out Z_b4.out y4).mono ?_
  rintro e w9 ⟨e4, rfl, hxn, hzn, hbn⟩
  have X_e4_9 := shid hxn
  have Z_e4 : Hid (e4 = none → n4 = 0) := hzn
  clear hxn hzn
  have X_b1_9 := shid (X_b1_8.out.kept hbn)
  have X_b2_9 := shid (X_b2_8.out.kept hbn)
  have X_b3_9 := shid (X_b3_8.out.kept hbn)
  have X_b4_9 := shid (X_b4_8.out.kept hbn)
  have X_b5_9 := shid (X_b5_8.out.kept hbn)
  have X_b6_9 := shid (X_b6_8.out.kept hbn)
  have X_e1_9 := shid (X_e1_8.out.kept hbn)
  have X_e2_9 := shid (X_e2_8.out.kept hbn)
  have HB_9 := shid (HB_8.out.trans (hbn.mono HB_8.out.size))
  clear hbn HB_8 X_b1_8 X_b2_8 X_b3_8 X_b4_8 X_b5_8 X_b6_8 X_e1_8 X_e2_8
  go_wp2_with fail
  refine (clonestrs_any b5 n5 n5 s5 _ K5.out X_b5_9.out Z_b5.out y5).mono ?_
  rintro e w10 ⟨e5, rfl, hxn, hzn, hbn⟩
  have X_e5_10 := shid hxn
  have Z_e5 : Hid (e5 = none → n5 = 0) := hzn
  clear hxn hzn
  have X_b1_10 := shid (X_b1_9.out.kept hbn)
  have X_b2_10 := shid (X_b2_9.out.kept hbn)
  have X_b3_10 := shid (X_b3_9.out.kept hbn)
  have X_b4_10 := shid (X_b4_9.out.kept hbn)
  have X_b5_10 := shid (X_b5_9.out.kept hbn)
  have X_b6_10 := shid (X_b6_9.out.kept hbn)
  have X_e1_10 := shid (X_e1_9.out.kept hbn)
  have X_e2_10 := shid (X_e2_9.out.kept hbn)
  have X_e4_10 := shid (X_e4_9.out.kept hbn)
  have HB_10 := shid (HB_9.out.trans (hbn.mono HB_9.out.size))
  clear hbn HB_9 X_b1_9 X_b2_9 X_b3_9 X_b4_9 X_b5_9 X_b6_9 X_e1_9 X_e2_9 X_e4_9
  go_wp2_with fail
  refine (tomaints_any b3 n3 n3 s3 _ K3.out X_b3_10.out Z_b3.out y3).mono ?_
  rintro e w11 ⟨e3, rfl, hxn, hzn, hbn⟩
  have X_e3_11 := shid hxn
  have Z_e3 : Hid (e3 = none → n3 = 0) := hzn
  clear hxn hzn
  have X_b1_11 := shid (X_b1_10.out.kept hbn)
  have X_b2_11 := shid (X_b2_10.out.kept hbn)
  have X_b3_11 := shid (X_b3_10.out.kept hbn)
  have X_b4_11 := shid (X_b4_10.out.kept hbn)
  have X_b5_11 := shid (X_b5_10.out.kept hbn)
  have X_b6_11 := shid (X_b6_10.out.kept hbn)
  have X_e1_11 := shid (X_e1_10.out.kept hbn)
  have X_e2_11 := shid (X_e2_10.out.kept hbn)
  have X_e4_11 := shid (X_e4_10.out.kept hbn)
  have X_e5_11 := shid (X_e5_10.out.kept hbn)
  have HB_11 := shid (HB_10.out.trans (hbn.mono HB_10.out.size))
  clear hbn HB_10 X_b1_10 X_b2_10 X_b3_10 X_b4_10 X_b5_10 X_b6_10 X_e1_10 X_e2_10 X_e4_10 X_e5_10
  go_wp2_with fail
  refine (tomaints_any b6 n6 n6 s6 _ K6.out X_b6_11.out Z_b6.out y6).mono ?_
  rintro e w12 ⟨e6, rfl, hxn, hzn, hbn⟩
  have X_e6_12 := shid hxn
  have Z_e6 : Hid (e6 = none → n6 = 0) := hzn
  clear hxn hzn
  have X_b1_12 := shid (X_b1_11.out.kept hbn)
  have X_b2_12 := shid (X_b2_11.out.kept hbn)
  have X_b3_12 := shid (X_b3_11.out.kept hbn)
  have X_b4_12 := shid (X_b4_11.out.kept hbn)
  have X_b5_12 := shid (X_b5_11.out.kept hbn)
  have X_b6_12 := shid (X_b6_11.out.kept hbn)
  have X_e1_12 := shid (X_e1_11.out.kept hbn)
  have X_e2_12 := shid (X_e2_11.out.kept hbn)
  have X_e4_12 := shid (X_e4_11.out.kept hbn)
  have X_e5_12 := shid (X_e5_11.out.kept hbn)
  have X_e3_12 := shid (X_e3_11.out.kept hbn)
  have HB_12 := shid (HB_11.out.trans (hbn.mono HB_11.out.size))
  clear hbn HB_11 X_b1_11 X_b2_11 X_b3_11 X_b4_11 X_b5_11 X_b6_11 X_e1_11 X_e2_11 X_e4_11 X_e5_11 X_e3_11
  go_wp2_with fail
  refine (samestrs_any b1 b4 n1 n1 n4 n4 s1 s4 _ K1.out K4.out X_b1_12.out X_b4_12.out (by omega)).mono ?_
  rintro e w13 ⟨rfl, hbn⟩
  have X_b1_13 := shid (X_b1_12.out.kept hbn)
  have X_b2_13 := shid (X_b2_12.out.kept hbn)
  have X_b3_13 := shid (X_b3_12.out.kept hbn)
  have X_b4_13 := shid (X_b4_12.out.kept hbn)
  have X_b5_13 := shid (X_b5_12.out.kept hbn)
  have X_b6_13 := shid (X_b6_12.out.kept hbn)
  have X_e1_13 := shid (X_e1_12.out.kept hbn)
  have X_e2_13 := shid (X_e2_12.out.kept hbn)
  have X_e4_13 := shid (X_e4_12.out.kept hbn)
  have X_e5_13 := shid (X_e5_12.out.kept hbn)
  have X_e3_13 := shid (X_e3_12.out.kept hbn)
  have X_e6_13 := shid (X_e6_12.out.kept hbn)
  have HB_13 := shid (HB_12.out.trans (hbn.mono HB_12.out.size))
  clear hbn HB_12 X_b1_12 X_b2_12 X_b3_12 X_b4_12 X_b5_12 X_b6_12 X_e1_12 X_e2_12 X_e4_12 X_e5_12 X_e3_12 X_e6_12
  go_wp2_with fail
  refine (samestrs_any b2 b5 n2 n2 n5 n5 s2 s5 _ K2.out K5.out X_b2_13.out X_b5_13.out (by omega)).mono ?_
  rintro e w14 ⟨rfl, hbn⟩
  have X_b1_14 := shid (X_b1_13.out.kept hbn)
  have X_b2_14 := shid (X_b2_13.out.kept hbn)
  have X_b3_14 := shid (X_b3_13.out.kept hbn)
  have X_b4_14 := shid (X_b4_13.out.kept hbn)
  have X_b5_14 := shid (X_b5_13.out.kept hbn)
  have X_b6_14 := shid (X_b6_13.out.kept hbn)
  have X_e1_14 := shid (X_e1_13.out.kept hbn)
  have X_e2_14 := shid (X_e2_13.out.kept hbn)
  have X_e4_14 := shid (X_e4_13.out.kept hbn)
  have X_e5_14 := shid (X_e5_13.out.kept hbn)
  have X_e3_14 := shid (X_e3_13.out.kept hbn)
  have X_e6_14 := shid (X_e6_13.out.kept hbn)
  have HB_14 := shid (HB_13.out.trans (hbn.mono HB_13.out.size))
  clear hbn HB_13 X_b1_13 X_b2_13 X_b3_13 X_b4_13 X_b5_13 X_b6_13 X_e1_13 X_e2_13 X_e4_13 X_e5_13 X_e3_13 X_e6_13
  go_wp2_with fail
  refine (samemts_any e3 e6 n3 n3 n6 n6 s3 s6 _ K3.out K6.out X_e3_14.out X_e6_14.out (by omega)).mono ?_
  rintro e w15 ⟨rfl, hbn⟩
  have X_b1_15 := shid (X_b1_14.out.kept hbn)
  have X_b2_15 := shid (X_b2_14.out.kept hbn)
  have X_b3_15 := shid (X_b3_14.out.kept hbn)
  have X_b4_15 := shid (X_b4_14.out.kept hbn)
  have X_b5_15 := shid (X_b5_14.out.kept hbn)
  have X_b6_15 := shid (X_b6_14.out.kept hbn)
  have X_e1_15 := shid (X_e1_14.out.kept hbn)
  have X_e2_15 := shid (X_e2_14.out.kept hbn)
  have X_e4_15 := shid (X_e4_14.out.kept hbn)
  have X_e5_15 := shid (X_e5_14.out.kept hbn)
  have X_e3_15 := shid (X_e3_14.out.kept hbn)
  have X_e6_15 := shid (X_e6_14.out.kept hbn)
  have HB_15 := shid (HB_14.out.trans (hbn.mono HB_14.out.size))
  clear hbn HB_14 X_b1_14 X_b2_14 X_b3_14 X_b4_14 X_b5_14 X_b6_14 X_e1_14 X_e2_14 X_e4_14 X_e5_14 X_e3_14 X_e6_14
  go_wp2_with fail
  obtain ⟨W, hW⟩ : ∃ W, W = ((w15.alloc (.cells #[.string d1, .string h1, .string i1, .slice b1 n1 n1, .slice b2 n2 n2, .slice e3 n3 n3] 34)).alloc (.cells #[.string d2, .string h2, .string i2, .slice b4 n4 n4, .slice b5 n5 n5, .slice e6 n6 n6] 34)) := ⟨_, rfl⟩
  have hSh := sh_new w15 d1 h1 i1 d2 h2 i2 (.slice b1 n1 n1) (.slice b2 n2 n2) (.slice e3 n3 n3) (.slice b4 n4 n4) (.slice b5 n5 n5) (.slice e6 n6 n6)
  rw [← hW] at hSh ⊢
  have HSh := shid hSh
  clear hSh hW
  obtain ⟨vk, mk, hvk, fk⟩ := pick_form (s1 = s4) X_b1_15.out X_b4_15.out (by have := K1.out; omega : n1 = 0 ∨ 0 < s1.length) (by have := K4.out; omega : n4 = 0 ∨ 0 < s4.length)
  obtain ⟨vs, ms, hvs, fs⟩ := pick_form (s2 = s5) X_b2_15.out X_b5_15.out (by have := K2.out; omega : n2 = 0 ∨ 0 < s2.length) (by have := K5.out; omega : n5 = 0 ∨ 0 < s5.length)
  obtain ⟨vm, mm, hvm, fm⟩ := pick_form (s3 = s6) X_e3_15.out X_e6_15.out (by have := K3.out; omega : n3 = 0 ∨ 0 < s3.length) (by have := K6.out; omega : n6 = 0 ∨ 0 < s6.length)
  have HVK := shid hvk
  have HVS := shid hvs
  have HVM := shid hvm
  have FK := shid fk
  have FS := shid fs
  have FM := shid fm
  have F4 := shid (X_b4_15.out.form n4 (by have := K4.out; omega))
  have F5 := shid (X_b5_15.out.form n5 (by have := K5.out; omega))
  have F6 := shid (X_e6_15.out.form n6 (by have := K6.out; omega))
  clear hvk hvs hvm fk fs fm
  refine (zzshare_any w15.heap.size (w15.heap.size + 1) d1 h1 i1 d2 h2 i2 w15 W b1 b4 b2 b5 e3 e6 n1 n4 n2 n5 n3 n6 s1 s4 s2 s5 s3 s6 HSh.out (by omega) (Nat.le_refl _) K1.out K4.out K2.out K5.out K3.out K6.out X_b1_15.out X_b4_15.out X_b2_15.out X_b5_15.out X_e3_15.out X_e6_15.out y1 y2 y3).mono ?_
  rintro e w16 ⟨rfl, hsh⟩
  rw [HVK.out, HVS.out, HVM.out] at hsh
  have HS := shid hsh
  have hbn := hsh.2.2
  have X_b1_16 := shid (X_b1_15.out.kept hbn)
  have X_b2_16 := shid (X_b2_15.out.kept hbn)
  have X_b3_16 := shid (X_b3_15.out.kept hbn)
  have X_b4_16 := shid (X_b4_15.out.kept hbn)
  have X_b5_16 := shid (X_b5_15.out.kept hbn)
  have X_b6_16 := shid (X_b6_15.out.kept hbn)
  have X_e1_16 := shid (X_e1_15.out.kept hbn)
  have X_e2_16 := shid (X_e2_15.out.kept hbn)
  have X_e4_16 := shid (X_e4_15.out.kept hbn)
  have X_e5_16 := shid (X_e5_15.out.kept hbn)
  have X_e3_16 := shid (X_e3_15.out.kept hbn)
  have X_e6_16 := shid (X_e6_15.out.kept hbn)
  have HB_16 := shid (HB_15.out.trans (hbn.mono HB_15.out.size))
  clear hbn hsh HSh HB_15 X_b1_15 X_b2_15 X_b3_15 X_b4_15 X_b5_15 X_b6_15 X_e1_15 X_e2_15 X_e4_15 X_e5_15 X_e3_15 X_e6_15
  obtain ⟨g1, hg1⟩ : ∃ g, g = w15.heap.size := ⟨_, rfl⟩
  rw [← hg1] at HS ⊢
  obtain ⟨g2, hg2⟩ : ∃ g, g = g1 + 1 := ⟨_, rfl⟩
  rw [← hg2] at HS ⊢
  clear hg1 hg2
  go_upto_if 126 with fail
  go_cut [32, 37] (fun _ x wx => x = .slice vk mk mk ∧ wx = w16)
  case first =>
    obtain ⟨bt, hbt⟩ : ∃ b, decide (s1 = s4) = b := ⟨_, rfl⟩
    have HBT := shid hbt
    rw [hbt]
    clear hbt
    cases bt
    case true =>
      have HE := shid (of_decide_eq_true HBT.out)
      go_wp2
      go_meet
      case rel =>
        have h := HVK.out
        rw [if_pos HE.out] at h
        exact ⟨h, rfl⟩
    case false =>
      have HE := shid (of_decide_eq_false HBT.out)
      go_wp2
      go_meet
      case rel =>
        have h := HVK.out
        rw [if_neg HE.out] at h
        exact ⟨h, rfl⟩
  case rest =>
  obtain ⟨rfl, hwc⟩ := hcut
  replace hwc := hwc.symm
  subst hwc
  go_upto_if 129 with fail
  go_cut [33, 38] (fun _ x wx => x = .slice vs ms ms ∧ wx = w16)
  case first =>
    obtain ⟨bt, hbt⟩ : ∃ b, decide (s2 = s5) = b := ⟨_, rfl⟩
    have HBT := shid hbt
    rw [hbt]
    clear hbt
    cases bt
    case true =>
      have HE := shid (of_decide_eq_true HBT.out)
      go_wp2
      go_meet
      case rel =>
        have h := HVS.out
        rw [if_pos HE.out] at h
        exact ⟨h, rfl⟩
    case false =>
      have HE := shid (of_decide_eq_false HBT.out)
      go_wp2
      go_meet
      case rel =>
        have h := HVS.out
        rw [if_neg HE.out] at h
        exact ⟨h, rfl⟩
  case rest =>
  obtain ⟨rfl, hwc⟩ := hcut
  replace hwc := hwc.symm
  subst hwc
  go_upto_if 132 with fail
  go_cut [34, 39] (fun _ x wx => x = .slice vm mm mm ∧ wx = w16)
  case first =>
    obtain ⟨bt, hbt⟩ : ∃ b, decide (s3 = s6) = b := ⟨_, rfl⟩
    have HBT := shid hbt
    rw [hbt]
    clear hbt
    cases bt
    case true =>
      have HE := shid (of_decide_eq_true HBT.out)
      go_wp2
      go_meet
      case rel =>
        have h := HVM.out
        rw [if_pos HE.out] at h
        exact ⟨h, rfl⟩
    case false =>
      have HE := shid (of_decide_eq_false HBT.out)
      go_wp2
      go_meet
      case rel =>
        have h := HVM.out
        rw [if_neg HE.out] at h
        exact ⟨h, rfl⟩
  case rest =>
  obtain ⟨rfl, hwc⟩ := hcut
  replace hwc := hwc.symm
  subst hwc
  clear HVK HVS HVM Z_a1 Z_b1 Z_e1 Z_a2 Z_b2 Z_e2 Z_a3 Z_b3 Z_e3 Z_a4 Z_b4 Z_e4 Z_a5 Z_b5 Z_e5 Z_a6 Z_b6 Z_e6 r20 r21 hr
  as_aux_lemma =>
  obtain ⟨p0, p1, p2, p3, p4, p5⟩ := HS.out.1.cells
  obtain ⟨q0, q1, q2, q3, q4, q5⟩ := HS.out.2.1.cells
  clear HS
  go_wp2_with fail
  refine (store_yes vk mk mk mk _ FK.out).mono ?_
  rintro e wz ⟨rfl, k0, hk0⟩
  try rw [World.drewN_drewN] at hk0
  subst hk0
  go_wp2_with fail
  refine (store_yes vs ms ms ms _ FS.out).mono ?_
  rintro e wz ⟨rfl, k1, hk1⟩
  try rw [World.drewN_drewN] at hk1
  subst hk1
  go_wp2_with fail
  refine (storem_yes vm mm mm mm _ FM.out).mono ?_
  rintro e wz ⟨rfl, k2, hk2⟩
  try rw [World.drewN_drewN] at hk2
  subst hk2
  go_wp2_with fail
  refine (store_yes b4 n4 n4 n4 _ F4.out).mono ?_
  rintro e wz ⟨rfl, k3, hk3⟩
  try rw [World.drewN_drewN] at hk3
  subst hk3
  go_wp2_with fail
  refine (store_yes b5 n5 n5 n5 _ F5.out).mono ?_
  rintro e wz ⟨rfl, k4, hk4⟩
  try rw [World.drewN_drewN] at hk4
  subst hk4
  go_wp2_with fail
  refine (storem_yes e6 n6 n6 n6 _ F6.out).mono ?_
  rintro e wz ⟨rfl, k5, hk5⟩
  try rw [World.drewN_drewN] at hk5
  subst hk5
  as_aux_lemma =>
  clear p0 p1 p2 p3 p4 p5 q0 q1 q2 q3 q4 q5 FK FS FM F4 F5 F6
  have HY0 := shid (drewN_below w16 (k0 + k1 + k2 + k3 + k4 + k5))
  go_wp2_with fail
  refine (samestrs_yes b1 e1 n1 n1 n1 s1 _ K1.out (X_b1_16.out.kept HY0.out) (X_e1_16.out.kept HY0.out) y1).mono ?_
  rintro e wy0 ⟨rfl, hbn⟩
  have HY1 := shid (HY0.out.trans (hbn.mono HY0.out.size))
  clear hbn HY0
  go_wp2_with fail
  refine (samestrs_yes b2 e2 n2 n2 n2 s2 _ K2.out (X_b2_16.out.kept HY1.out) (X_e2_16.out.kept HY1.out) y2).mono ?_
  rintro e wy1 ⟨rfl, hbn⟩
  have HY2 := shid (HY1.out.trans (hbn.mono HY1.out.size))
  clear hbn HY1
  go_wp2_with fail
  refine (samestrs_yes b4 e4 n4 n4 n4 s4 _ K4.out (X_b4_16.out.kept HY2.out) (X_e4_16.out.kept HY2.out) y4).mono ?_
  rintro e wy2 ⟨rfl, hbn⟩
  have HY3 := shid (HY2.out.trans (hbn.mono HY2.out.size))
  clear hbn HY2
  go_wp2_with fail
  refine (samestrs_yes b5 e5 n5 n5 n5 s5 _ K5.out (X_b5_16.out.kept HY3.out) (X_e5_16.out.kept HY3.out) y5).mono ?_
  rintro e wy3 ⟨rfl, hbn⟩
  have HY4 := shid (HY3.out.trans (hbn.mono HY3.out.size))
  clear hbn HY3
  go_wp2_with fail
  refine (samemaints_yes e3 b3 n3 n3 n3 s3 _ K3.out (X_e3_16.out.kept HY4.out) (X_b3_16.out.kept HY4.out) y3).mono ?_
  rintro e wy4 ⟨rfl, hbn⟩
  have HY5 := shid (HY4.out.trans (hbn.mono HY4.out.size))
  clear hbn HY4
  go_wp2_with fail
  refine (samemaints_yes e6 b6 n6 n6 n6 s6 _ K6.out (X_e6_16.out.kept HY5.out) (X_b6_16.out.kept HY5.out) y6).mono ?_
  rintro e wy5 ⟨rfl, hbn⟩
  have HY6 := shid (HY5.out.trans (hbn.mono HY5.out.size))
  clear hbn HY5
  go_wp2
  go_ret
  exact ⟨rfl, HB_16.out.trans (HY6.out.mono HB_16.out.size)⟩
end Go.Proofs.Qxb6602743a
