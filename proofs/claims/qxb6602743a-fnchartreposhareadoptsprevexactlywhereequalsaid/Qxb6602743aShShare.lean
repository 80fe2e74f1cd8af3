/-
  WALK: (*ChartInfo).share.
-/
import Derived.Test.Qxb6602743aShStore
import Derived.Deep.DeepCutAuto
namespace Go.Proofs.Qxb6602743a
open Go.RowKit

/-- A ChartInfo in memory: its whole block. -/
def CiAt (w : World) (g : Nat) (d h i : ByteArray) (ks ss ms : Value) : Prop :=
  w.heap[g]? = some (.cells #[.string d, .string h, .string i, ks, ss, ms] 34 (0, 0))

theorem CiAt.cells {w : World} {g : Nat} {d h i : ByteArray} {ks ss ms : Value} (H : CiAt w g d h i ks ss ms) :
    w.cell? ⟨g, 0, none⟩ = some (.string d) ∧ w.cell? ⟨g, 1, none⟩ = some (.string h) ∧ w.cell? ⟨g, 2, none⟩ = some (.string i) ∧
    w.cell? ⟨g, 3, none⟩ = some ks ∧ w.cell? ⟨g, 4, none⟩ = some ss ∧ w.cell? ⟨g, 5, none⟩ = some ms :=
  ⟨(cell_of_row w g 0 _ 34 (0, 0) H).trans rfl, (cell_of_row w g 1 _ 34 (0, 0) H).trans rfl, (cell_of_row w g 2 _ 34 (0, 0) H).trans rfl,
   (cell_of_row w g 3 _ 34 (0, 0) H).trans rfl, (cell_of_row w g 4 _ 34 (0, 0) H).trans rfl, (cell_of_row w g 5 _ 34 (0, 0) H).trans rfl⟩
theorem CiAt.free {w : World} {g : Nat} {d h i : ByteArray} {ks ss ms : Value} (H : CiAt w g d h i ks ss ms) (j : Nat) : w.frozen? ⟨g, j, none⟩ = false := frozen_of_row w g j _ 34 H

theorem str_eq {a b : ByteArray} (h : (a.toList == b.toList) = true) : a = b := by
  rw [ByteArray.toList_eq, ByteArray.toList_eq] at h
  exact ByteArray.ext (Array.ext' (eq_of_beq h))

/-- Where share stands: both, and nothing that was there in w0 has turned. -/
def ShAt (w0 : World) (g1 g2 : Nat) (d1 h1 i1 : ByteArray) (ks1 ss1 ms1 : Value) (d2 h2 i2 : ByteArray) (ks2 ss2 ms2 : Value) (wc : World) : Prop :=
  CiAt wc g1 d1 h1 i1 ks1 ss1 ms1 ∧ CiAt wc g2 d2 h2 i2 ks2 ss2 ms2 ∧ Below w0.heap.size w0 wc

theorem ShAt.set {w0 wc : World} {g1 g2 : Nat} {d1 h1 i1 d2 h2 i2 d1' h1' i1' : ByteArray} {ks1 ss1 ms1 ks2 ss2 ms2 ks1' ss1' ms1' : Value} (H : ShAt w0 g1 g2 d1 h1 i1 ks1 ss1 ms1 d2 h2 i2 ks2 ss2 ms2 wc) (hne : g1 < g2) (hB : w0.heap.size ≤ g1) (j : Nat) (v : Value)
    (he : (#[.string d1, .string h1, .string i1, ks1, ss1, ms1] : Array Value).setIfInBounds j v = #[.string d1', .string h1', .string i1', ks1', ss1', ms1']) : ShAt w0 g1 g2 d1' h1' i1' ks1' ss1' ms1' d2 h2 i2 ks2 ss2 ms2 (wc.setCell ⟨g1, j, none⟩ v) := by
  obtain ⟨a, b, c⟩ := H
  refine ⟨?_, ?_, c.setCell hB v⟩
  · unfold CiAt
    rw [heap_setCell_same wc g1 j _ 34 v a, he]
  · unfold CiAt
    rw [heap_setCell_other wc ⟨g1, j, none⟩ g2 v (show g2 ≠ g1 by omega)]
    exact b
theorem ShAt.drewN {w0 wc : World} {g1 g2 : Nat} {d1 h1 i1 d2 h2 i2 : ByteArray} {ks1 ss1 ms1 ks2 ss2 ms2 : Value} (H : ShAt w0 g1 g2 d1 h1 i1 ks1 ss1 ms1 d2 h2 i2 ks2 ss2 ms2 wc) (q : Nat) : ShAt w0 g1 g2 d1 h1 i1 ks1 ss1 ms1 d2 h2 i2 ks2 ss2 ms2 (wc.drewN q) := by
  obtain ⟨a, b, ⟨c1, c2, c3, c4, c5⟩⟩ := H
  exact ⟨a, b, ⟨c1, c2, c3, c4, c5⟩⟩

set_option maxRecDepth 100000 in
set_option maxHeartbeats 2000000 in
theorem share_any (g1 g2 : Nat) (d1 h1 i1 d2 h2 i2 : ByteArray) (w0 w : World) (k1 k2 s1 s2 m1 m2 : Option Addr) (nk1 nk2 ns1 ns2 nm1 nm2 : Nat) (K1 K2 S1 S2 M1 M2 : List ByteArray)
    (H : ShAt w0 g1 g2 d1 h1 i1 (.slice k1 nk1 nk1) (.slice s1 ns1 ns1) (.slice m1 nm1 nm1) d2 h2 i2 (.slice k2 nk2 nk2) (.slice s2 ns2 ns2) (.slice m2 nm2 nm2) w) (hne : g1 < g2) (hB : w0.heap.size ≤ g1)
    (LK1 : K1.length = nk1) (LK2 : K2.length = nk2) (LS1 : S1.length = ns1) (LS2 : S2.length = ns2) (LM1 : M1.length = nm1 * 3) (LM2 : M2.length = nm2 * 3)
    (XK1 : Ss w0 k1 K1) (XK2 : Ss w0 k2 K2) (XS1 : Ss w0 s1 S1) (XS2 : Ss w0 s2 S2) (XM1 : Ss w0 m1 M1) (XM2 : Ss w0 m2 M2) (bk : nk1 ≤ 1048576) (bs : ns1 ≤ 1048576) (bm : nm1 ≤ 1048576) :
    Calls Try.prog 33 #[.pointer (some ⟨g1, 0, none⟩), .pointer (some ⟨g2, 0, none⟩)] w fun e w' => e = .returned (.tuple #[]) ∧
      ShAt w0 g1 g2 d1 h1 i1 (if K1 = K2 then .slice k2 nk2 nk2 else .slice k1 nk1 nk1) (if S1 = S2 then .slice s2 ns2 ns2 else .slice s1 ns1 ns1) (if M1 = M2 then .slice m2 nm2 nm2 else .slice m1 nm1 nm1) d2 h2 i2 (.slice k2 nk2 nk2) (.slice s2 ns2 ns2) (.slice m2 nm2 nm2) w' := by
  obtain ⟨vk, hvk⟩ : ∃ v : Value, v = if K1 = K2 then .slice k2 nk2 nk2 else .slice k1 nk1 nk1 := ⟨_, rfl⟩
  obtain ⟨vs, hvs⟩ : ∃ v : Value, v = if S1 = S2 then .slice s2 ns2 ns2 else .slice s1 ns1 ns1 := ⟨_, rfl⟩
  obtain ⟨vm, hvm⟩ : ∃ v : Value, v = if M1 = M2 then .slice m2 nm2 nm2 else .slice m1 nm1 nm1 := ⟨_, rfl⟩
  rw [← hvk, ← hvs, ← hvm]
  have HH0 := shid H
  have HVK := shid hvk
  have HVS := shid hvs
  have HVM := shid hvm
  have HLK1 : Hid (K1.length = nk1) := LK1
  have HXK1 := shid XK1
  have HLK2 : Hid (K2.length = nk2) := LK2
  have HXK2 := shid XK2
  have HLS1 : Hid (S1.length = ns1) := LS1
  have HXS1 := shid XS1
  have HLS2 : Hid (S2.length = ns2) := LS2
  have HXS2 := shid XS2
  have HLM1 : Hid (M1.length = nm1 * 3) := LM1
  have HXM1 := shid XM1
  have HLM2 : Hid (M2.length = nm2 * 3) := LM2
  have HXM2 := shid XM2
  clear H hvk hvs hvm LK1 LK2 LS1 LS2 LM1 LM2 XK1 XK2 XS1 XS2 XM1 XM2
  have HNE : Hid (g1 < g2) := hne
  have HBB : Hid (w0.heap.size ≤ g1) := hB
  obtain ⟨p0, p1, p2, p3, p4, p5⟩ := HH0.out.1.cells
  obtain ⟨q0, q1, q2, q3, q4, q5⟩ := HH0.out.2.1.cells
  go_enter Try.func33, Try.ntmps33
  go_wp2
  go_quiet (fail)
  go_upto_if 12 with fail
  go_cut [] (fun wx => ShAt w0 g1 g2 d1 h1 i1 (.slice k1 nk1 nk1) (.slice s1 ns1 ns1) (.slice m1 nm1 nm1) d2 h2 i2 (.slice k2 nk2 nk2) (.slice s2 ns2 ns2) (.slice m2 nm2 nm2) wx)
  case first =>
    have f0 := HH0.out.1.free 0
    obtain ⟨bt, hbt⟩ : ∃ b, (d1.toList == d2.toList) = b := ⟨_, rfl⟩
    have HBT := shid hbt
    rw [hbt]
    clear hbt
    cases bt
    case true =>
      go_wp2
      go_meet
      case rel =>
        have e : d1 = d2 := str_eq HBT.out
        exact (HH0.out.drewN _).set HNE.out HBB.out 0 _ (by rw [e]; rfl)
    case false =>
      go_wp2
      go_meet
      case rel => exact HH0.out.drewN _
  case rest =>
    have HH1 := shid hcut
    clear hcut HH0 p0 p1 p2 p3 p4 p5 q0 q1 q2 q3 q4 q5
    obtain ⟨p0, p1, p2, p3, p4, p5⟩ := HH1.out.1.cells
    obtain ⟨q0, q1, q2, q3, q4, q5⟩ := HH1.out.2.1.cells
    go_wp2
    go_quiet (fail)
    go_upto_if 28 with fail
    go_cut [] (fun wx => ShAt w0 g1 g2 d1 h1 i1 (.slice k1 nk1 nk1) (.slice s1 ns1 ns1) (.slice m1 nm1 nm1) d2 h2 i2 (.slice k2 nk2 nk2) (.slice s2 ns2 ns2) (.slice m2 nm2 nm2) wx)
    case first =>
      have f0 := HH1.out.1.free 1
      obtain ⟨bt, hbt⟩ : ∃ b, (h1.toList == h2.toList) = b := ⟨_, rfl⟩
      have HBT := shid hbt
      rw [hbt]
      clear hbt
      cases bt
      case true =>
        go_wp2
        go_meet
        case rel =>
          have e : h1 = h2 := str_eq HBT.out
          exact (HH1.out.drewN _).set HNE.out HBB.out 1 _ (by rw [e]; rfl)
      case false =>
        go_wp2
        go_meet
        case rel => exact HH1.out.drewN _
    case rest =>
      have HH2 := shid hcut
      clear hcut HH1 p0 p1 p2 p3 p4 p5 q0 q1 q2 q3 q4 q5
      obtain ⟨p0, p1, p2, p3, p4, p5⟩ := HH2.out.1.cells
      obtain ⟨q0, q1, q2, q3, q4, q5⟩ := HH2.out.2.1.cells
      go_wp2
      go_quiet (fail)
      go_upto_if 44 with fail
      go_cut [] (fun wx => ShAt w0 g1 g2 d1 h1 i1 (.slice k1 nk1 nk1) (.slice s1 ns1 ns1) (.slice m1 nm1 nm1) d2 h2 i2 (.slice k2 nk2 nk2) (.slice s2 ns2 ns2) (.slice m2 nm2 nm2) wx)
      case first =>
        have f0 := HH2.out.1.free 2
        obtain ⟨bt, hbt⟩ : ∃ b, (i1.toList == i2.toList) = b := ⟨_, rfl⟩
        have HBT := shid hbt
        rw [hbt]
        clear hbt
        cases bt
        case true =>
          go_wp2
          go_meet
          case rel =>
            have e : i1 = i2 := str_eq HBT.out
            exact (HH2.out.drewN _).set HNE.out HBB.out 2 _ (by rw [e]; rfl)
        case false =>
          go_wp2
          go_meet
          case rel => exact HH2.out.drewN _
      case rest =>
        have HH3 := shid hcut
        clear hcut HH2 p0 p1 p2 p3 p4 p5 q0 q1 q2 q3 q4 q5
        obtain ⟨p0, p1, p2, p3, p4, p5⟩ := HH3.out.1.cells
        obtain ⟨q0, q1, q2, q3, q4, q5⟩ := HH3.out.2.1.cells
        go_wp2
        go_quiet (refine Calls.quiet_of (eqstrs_any k1 k2 nk1 nk1 nk2 nk2 K1 K2 _ HLK1.out HLK2.out (HXK1.out.kept (HH3.out.drewN _).2.2) (HXK2.out.kept (HH3.out.drewN _).2.2) (by omega)))
        go_upto_if 60 with fail
        go_cut [] (fun wx => ShAt w0 g1 g2 d1 h1 i1 vk (.slice s1 ns1 ns1) (.slice m1 nm1 nm1) d2 h2 i2 (.slice k2 nk2 nk2) (.slice s2 ns2 ns2) (.slice m2 nm2 nm2) wx)
        case first =>
          have f0 := HH3.out.1.free 3
          obtain ⟨bt, hbt⟩ : ∃ b, decide (K1 = K2) = b := ⟨_, rfl⟩
          have HBT := shid hbt
          rw [hbt]
          clear hbt
          cases bt
          case true =>
            have HE := shid (of_decide_eq_true HBT.out)
            go_wp2
            go_meet
            case rel => exact (HH3.out.drewN _).set HNE.out HBB.out 3 _ (by rw [HVK.out, if_pos HE.out]; rfl)
          case false =>
            have HE := shid (of_decide_eq_false HBT.out)
            go_wp2
            go_meet
            case rel =>
              have h := HVK.out
              rw [if_neg HE.out] at h
              rw [h]
              exact HH3.out.drewN _
        case rest =>
          have HH4 := shid hcut
          clear hcut HH3 p0 p1 p2 p3 p4 p5 q0 q1 q2 q3 q4 q5
          obtain ⟨p0, p1, p2, p3, p4, p5⟩ := HH4.out.1.cells
          obtain ⟨q0, q1, q2, q3, q4, q5⟩ := HH4.out.2.1.cells
          go_wp2
          go_quiet (refine Calls.quiet_of (eqstrs_any s1 s2 ns1 ns1 ns2 ns2 S1 S2 _ HLS1.out HLS2.out (HXS1.out.kept (HH4.out.drewN _).2.2) (HXS2.out.kept (HH4.out.drewN _).2.2) (by omega)))
          go_upto_if 76 with fail
          go_cut [] (fun wx => ShAt w0 g1 g2 d1 h1 i1 vk vs (.slice m1 nm1 nm1) d2 h2 i2 (.slice k2 nk2 nk2) (.slice s2 ns2 ns2) (.slice m2 nm2 nm2) wx)
          case first =>
            have f0 := HH4.out.1.free 4
            obtain ⟨bt, hbt⟩ : ∃ b, decide (S1 = S2) = b := ⟨_, rfl⟩
            have HBT := shid hbt
            rw [hbt]
            clear hbt
            cases bt
            case true =>
              have HE := shid (of_decide_eq_true HBT.out)
              go_wp2
              go_meet
              case rel => exact (HH4.out.drewN _).set HNE.out HBB.out 4 _ (by rw [HVS.out, if_pos HE.out]; rfl)
            case false =>
              have HE := shid (of_decide_eq_false HBT.out)
              go_wp2
              go_meet
              case rel =>
                have h := HVS.out
                rw [if_neg HE.out] at h
                rw [h]
                exact HH4.out.drewN _
          case rest =>
            have HH5 := shid hcut
            clear hcut HH4 p0 p1 p2 p3 p4 p5 q0 q1 q2 q3 q4 q5
            obtain ⟨p0, p1, p2, p3, p4, p5⟩ := HH5.out.1.cells
            obtain ⟨q0, q1, q2, q3, q4, q5⟩ := HH5.out.2.1.cells
            go_wp2
            go_quiet (refine Calls.quiet_of (eqmts_any m1 m2 nm1 nm1 nm2 nm2 M1 M2 _ HLM1.out HLM2.out (HXM1.out.kept (HH5.out.drewN _).2.2) (HXM2.out.kept (HH5.out.drewN _).2.2) (by omega)))
            have f0 := HH5.out.1.free 5
            go_upto_if 92 with fail
            obtain ⟨bt, hbt⟩ : ∃ b, decide (M1 = M2) = b := ⟨_, rfl⟩
            have HBT := shid hbt
            rw [hbt]
            clear hbt
            cases bt
            case true =>
              have HE := shid (of_decide_eq_true HBT.out)
              go_wp2
              go_end0
              exact ⟨rfl, (HH5.out.drewN _).set HNE.out HBB.out 5 _ (by rw [HVM.out, if_pos HE.out]; rfl)⟩
            case false =>
              have HE := shid (of_decide_eq_false HBT.out)
              go_wp2
              have h := HVM.out
              rw [if_neg HE.out] at h
              go_end0
              rw [h]
              exact ⟨rfl, HH5.out.drewN _⟩
end Go.Proofs.Qxb6602743a
