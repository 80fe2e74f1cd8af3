/-
  THE PROOF OF 'Rows.FnDocCutNumberSuffixRoundTripCardSaid': the row, by the guide's frame, and its tied card.
-/
import Derived.Test.Qxb6603783aDoorRows
import Derived.Test.Qxb6603783aDoorTie
import Derived.Test.Qxb6603783aDoorCards
import Derived.WalkKit
import Derived.ProofKit
import Derived.OpenShut
import Derived.ShutString
import Derived.ChangeOld
import Derived.Below
import Derived.LaidMore
import Derived.Stop.Joined
import Derived.SevenTiedAt
import Derived.Test.Qxb6603783aDoorRoundLaw
namespace Go.Proofs.Qxb6603783aDoor.fnDocCutNumberSuffixRoundTrip
open Go.ChangeShapes Go.WideShapes Go.ChangeAt Go.RowKit
open Go.ChangeMaps (open_string shut_string)
set_option linter.unusedVariables false

theorem own : ownKnob Tryd.prog.godebug = none := by kernel_rfl
theorem laidOut : laidOutB Tryd.prog = true := by kernel_rfl

def IsRow (k : IntKind) (w : World) (a : Option Addr) (len cap : Nat) (zs : List Int) : Prop :=
  (a = none ∧ len = 0 ∧ cap = 0 ∧ zs = []) ∨
  ∃ x, a = some x ∧ len ≤ cap ∧ cap ≤ maxLen ∧ zs.length = cap ∧ (∀ i, i < zs.length → w.cell? (x.add i) = some (.int k (zs.getD i 0))) ∧ ∀ n ∈ zs, (Lit.int k n).wf = true

theorem walk (a0 : Option Addr) (len0 cap0 : Nat) (z0 : List Int) (a1 : ByteArray) (a2 a3 : Int) (w : World) (w0 : IsRow .u8 w a0 len0 cap0 z0) (w1 : a1.size ≤ maxLen) (w2 : (Lit.int .u64 a2).wf = true) (w3 : (Lit.int .i64 a3).wf = true) :
    Calls Tryd.prog 5 #[.slice a0 len0 cap0, .string a1, .int .u64 a2, .int .i64 a3] w fun e w' => e = .returned (.bool true) ∧ Below w.heap.size w w' := by
  have hrd : Rd w a0 (z0.take len0) ∧ (z0.take len0).length = len0 ∧ (a0 = none → len0 = 0 ∧ cap0 = 0) ∧ len0 ≤ maxLen ∧ Bytes (z0.take len0) := by
    rcases w0 with ⟨rfl, rfl, rfl, rfl⟩ | ⟨x, rfl, h1, h2, h3, h4, h5⟩
    · exact ⟨Rd.nil _ _, rfl, fun _ => ⟨rfl, rfl⟩, Nat.zero_le _, fun c hc => by cases hc⟩
    · refine ⟨?_, by rw [List.length_take]; omega, (fun h => by cases h), by omega, ?_⟩
      · have hr : Rd w (some x) z0 := fun j hj => ⟨x, rfl, h4 j hj⟩
        exact hr.take len0
      · intro c hc
        exact bounds_u8 (h5 c (List.mem_of_mem_take hc))
  obtain ⟨h1, h2, h3, h4, h5⟩ := hrd
  have hv := bounds_u64 w2
  obtain ⟨v, rfl⟩ := Int.eq_ofNat_of_zero_le hv.1
  unfold maxLen at w1 h4
  by_cases hsz : len0 + a1.size ≤ 1048576
  · by_cases hb : a3 < 0 ∨ 64 < a3
    · have hmf := maxFor_no a3 w hb
      clear w0 w2 w3 h1 h2 h3 h5 hv hb
      go_enter Tryd.func5, Tryd.ntmps5
      go_wp2_with (go_at_call 19; refine (zzb_round_yes _ _ _ _ _ _ _ hsz).mono ?_; rintro e w' ⟨rfl, rfl⟩)
      refine hmf.mono ?_
      rintro e w' ⟨rfl, rfl⟩
      go_wp2
      go_ret
      exact ⟨rfl, Below.refl _ _⟩
    have hb0 : 0 ≤ a3 := by omega
    have hb1 : a3 ≤ 64 := by omega
    by_cases hM : mxOf a3 < (v : Int)
    · have hmf := maxFor_yes a3 w hb0 hb1
      generalize mxOf a3 = M at hM hmf
      clear w0 w2 w3 h1 h2 h3 h5 hv hb
      go_enter Tryd.func5, Tryd.ntmps5
      go_wp2_with (go_at_call 19; refine (zzb_round_yes _ _ _ _ _ _ _ hsz).mono ?_; rintro e w' ⟨rfl, rfl⟩)
      refine hmf.mono ?_
      rintro e w' ⟨rfl, rfl⟩
      go_wp2
      go_ret
      exact ⟨rfl, Below.refl _ _⟩
    by_cases hns : 0 < a1.size
    · by_cases hd : isDig ((a1[a1.size - 1]'(by omega)).toNat : Int) = true
      · have hmf := maxFor_yes a3 w hb0 hb1
        have hdM : decide (mxOf a3 < (v : Int)) = false := decide_eq_false hM
        generalize mxOf a3 = M at hM hmf hdM
        clear w0 w2 w3 h1 h2 h3 h5 hv hb
        go_enter Tryd.func5, Tryd.ntmps5
        go_wp2_with (go_at_call 19; refine (zzb_round_yes _ _ _ _ _ _ _ hsz).mono ?_; rintro e w' ⟨rfl, rfl⟩)
        refine hmf.mono ?_
        rintro e w' ⟨rfl, rfl⟩
        go_wp2_with (go_at_call 14; refine (isDig_any _ _).mono ?_; rintro e w' ⟨rfl, rfl⟩)
        go_ret
        exact ⟨rfl, Below.refl _ _⟩
      · exact round_good a0 len0 cap0 (z0.take len0) a1 v a3 w h2 h1 h5 h3 hsz (by omega) hb0 hb1 (by omega) (.inl ⟨hns, by simpa using hd⟩)
    · by_cases hn0 : 0 < len0
      · by_cases hd : isDig ((z0.take len0).getD (len0 - 1) 0) = true
        · have hmf := maxFor_yes a3 w hb0 hb1
          have hdM : decide (mxOf a3 < (v : Int)) = false := decide_eq_false hM
          generalize mxOf a3 = M at hM hmf hdM
          obtain ⟨b1, o1, rfl, hc⟩ := h1.at (by rw [h2]; exact hn0)
          have hcd := hc (len0 - 1) (by rw [h2]; omega)
          generalize (z0.take len0).getD (len0 - 1) 0 = d at hd hcd
          clear w0 w2 w3 h1 h2 h3 h5 hv hb hc
          go_enter Tryd.func5, Tryd.ntmps5
          go_wp2_with (go_at_call 19; refine (zzb_round_yes _ _ _ _ _ _ _ hsz).mono ?_; rintro e w' ⟨rfl, rfl⟩)
          refine hmf.mono ?_
          rintro e w' ⟨rfl, rfl⟩
          go_wp2_with (go_at_call 14; refine (isDig_any _ _).mono ?_; rintro e w' ⟨rfl, rfl⟩)
          go_ret
          exact ⟨rfl, Below.refl _ _⟩
        · exact round_good a0 len0 cap0 (z0.take len0) a1 v a3 w h2 h1 h5 h3 hsz (by omega) hb0 hb1 (by omega) (.inr (.inl ⟨by omega, hn0, by simpa using hd⟩))
      · exact round_good a0 len0 cap0 (z0.take len0) a1 v a3 w h2 h1 h5 h3 hsz (by omega) hb0 hb1 (by omega) (.inr (.inr ⟨by omega, by omega⟩))
  · clear w0 w2 w3 h1 h2 h3 h5
    go_enter Tryd.func5, Tryd.ntmps5
    go_wp2_with (go_at_call 19; refine (zzb_round_no _ _ _ _ _ _ _ hsz h4 w1).mono ?_; rintro e w' ⟨rfl, rfl⟩)
    go_ret
    exact ⟨rfl, Below.refl _ _⟩

set_option maxRecDepth 100000 in
theorem lifted (os : Os) (started : os.Started) (H : Type) (enc : TypeId × Value → H) :
    ReturnsInHanded {} Tryd.checked os 5 .any (fun w args => (Rows.fnDocCutNumberSuffixRoundTripSpec.pre enc Tryd.prog Tryd.f5 Rows.fnDocCutNumberSuffixRoundTripRow.domain false w args ∧ laidMetH Tryd.prog Rows.fnDocCutNumberSuffixRoundTripRow.laid w) ∧ sizedMet enc Tryd.prog Tryd.f5 (OpenSpec.ofChange Rows.fnDocCutNumberSuffixRoundTripSpec) false w args)
      (Rows.fnDocCutNumberSuffixRoundTripSpec.post enc Tryd.prog Tryd.f5 false true false false) := by
  refine returnsInHanded_of_change_and (C := Tryd.checked) (X := fun w _ => laidMetH Tryd.prog Rows.fnDocCutNumberSuffixRoundTripRow.laid w) (fun _ _ _ hh h => h.of_heap hh) own started (by kernel_rfl) Tryd.func5
    (ChangeSpec.witness_shaped (enc := enc) (C := Tryd.checked) (os := os) (X := fun w _ => laidMetH Tryd.prog Rows.fnDocCutNumberSuffixRoundTripRow.laid w) false (World.doorLaid Tryd.prog 62 os) #[.slice none 0 0, .string ByteArray.empty, .int .u64 0, .int .i64 0] 8 rfl (World.shaped_of_RefB (by kernel_rfl) (by kernel_rfl)) (by kernel_rfl) (by kernel_rfl) (by kernel_rfl)
      (laidMetH_of_parts3 (fuel := 8) (laidMet_of_run' 8 (by kernel_rfl) (by kernel_rfl)) (by kernel_rfl) (by kernel_rfl))) ?_
  intro W base args ds gs before hval0 hW hcnd _ hL _
  have hval : ∀ (j : Nat) t v, Tryd.f5.params[j]? = some t → args[j]? = some v → Value.okWide Tryd.prog W .any base t v := hval0
  have hW' := hW
  obtain ⟨p, q, hA0, hV, rfl, hfz, hnd⟩ := hW
  have hA : DataW.TrodAll enc Tryd.prog W 0 (fun _ => true) true Tryd.f5.params.toList args.toList ds p := hA0
  rw [Tryd.params5] at hA hval
  obtain ⟨v0, vs0, d0, ds0, p0, q0, hargs, rfl, rfl, h0, r0⟩ := trodAll_cons hA
  obtain ⟨v1, vs1, d1, ds1, p1, q1, rfl, rfl, rfl, h1, r1⟩ := trodAll_cons r0
  obtain ⟨v2, vs2, d2, ds2, p2, q2, rfl, rfl, rfl, h2, r2⟩ := trodAll_cons r1
  obtain ⟨v3, vs3, d3, ds3, p3, q3, rfl, rfl, rfl, h3, r3⟩ := trodAll_cons r2
  obtain ⟨rfl, rfl, rfl⟩ := trodAll_nil r3
  obtain rfl : args = #[v0, v1, v2, v3] := by cases args; simp_all
  obtain ⟨rfl, rfl⟩ := trodVars_none hV
  obtain ⟨a0, len0, cap0, rfl⟩ := okWide_slice Tryd.underlying22 (hval 0 22 v0 rfl rfl)
  have k0 := h0
  have lt0 : ∀ x ∈ p0, x.block < W.heap.size := by obtain ⟨m, hm⟩ := k0; exact DataW.trod_lt m _ _ _ hm
  obtain ⟨z0, w0⟩ : ∃ zs, IsRow .u8 W a0 len0 cap0 zs := by
    obtain ⟨fuel, hf⟩ := h0
    rcases open_ints Tryd.underlying22 Tryd.underlying5 (by kernel_rfl) hf with ⟨hcs, _⟩ | ⟨x, l, c, zs, hcs, _, hl, hm, hz, _, hcell, hwz⟩
    · simp [Value.cells] at hcs
      obtain ⟨rfl, rfl, rfl⟩ := hcs
      exact ⟨[], .inl ⟨rfl, rfl, rfl, rfl⟩⟩
    · simp [Value.cells] at hcs
      obtain ⟨rfl, rfl, rfl⟩ := hcs
      exact ⟨zs, .inr ⟨_, rfl, hl, hm, by simpa using hz, hcell, hwz⟩⟩
  obtain ⟨a1, rfl, rfl, rfl, w1⟩ := open_string Tryd.underlying9 (hval 1 9 v1 rfl rfl) h1
  obtain ⟨a2, rfl, rfl, rfl, w2⟩ := open_int Tryd.underlying23 (hval 2 23 v2 rfl rfl) h2
  obtain ⟨a3, rfl, rfl, rfl, w3⟩ := open_int Tryd.underlying3 (hval 3 3 v3 rfl rfl) h3
  clear hA0 hval0
  refine (walk a0 len0 cap0 z0 a1 a2 a3 W w0 w1 w2 w3).mono fun e W' ⟨he, bel⟩ => ?_
  subst he
  exact ⟨_, rfl, _, _, _, [], _, [], hW', trodAll_mk1 (shut_bool Tryd.underlying4 _), (trodAll_cons_mk (Below.trod laidOut (by kernel_rfl) (of_decide_eq_true (by kernel_rfl)) k0 bel lt0) (trodAll_cons_mk (shut_string Tryd.underlying9 w1) (trodAll_cons_mk (shut_int Tryd.underlying23 w2) (trodAll_cons_mk (shut_int Tryd.underlying3 w3) trodAll_mk0)))), rfl, bel.frame _, fun h => by cases h⟩

theorem over : Rows.FnDocCutNumberSuffixRoundTripSaid :=
  OpenClaim.holds_of_wide 5 Tryd.f5 rfl rfl rfl rfl rfl rfl rfl ⟨rfl, rfl, rfl, rfl, rfl⟩ rfl rfl rfl rfl rfl (by kernel_rfl) Tryd.func5 (by kernel_rfl)
    (of_decide_eq_true (by kernel_rfl)) (by unfold Func.isWrapper; first | (rw [if_pos (by decide +kernel)]; kernel_rfl) | (rw [if_neg (by decide +kernel)]; exact ⟨rfl, rfl⟩))
    (fun os started H enc _ => lifted os started H enc)

/-- THE STATEMENT: the tied card. -/
theorem proved : Rows.FnDocCutNumberSuffixRoundTripCardSaid :=
  Claim7.holds_tied_plain_at .later [] [.data, .data, .data, .sentinel, .sentinel] true (true, Rows.fnDocCutNumberSuffixRoundTripCard.stood.harness.2) true
    over (fun _ h => by cases h) (by kernel_rfl) (fun _ h => by cases h) fnDocCutNumberSuffixRoundTrip_row_tie rfl ⟨rfl, rfl⟩ (by kernel_rfl) rfl
    (fun f fn hf hfn => by
      obtain rfl : f = 5 := Option.some.inj ((show Tryd.prog.funcNamed Rows.fnDocCutNumberSuffixRoundTripRow.func = some 5 by kernel_rfl).symm.trans hf) |>.symm
      obtain rfl : fn = Tryd.f5 := (Option.some.inj (Tryd.func5.symm.trans hfn)).symm
      exact ⟨by kernel_rfl, fun j t ht => by
        rw [Tryd.params5] at ht
        have hm : t ∈ [22, 9, 23, 3] := by simpa using Array.mem_of_getElem? ht
        have hall : ([22, 9, 23, 3].all fun u => !Tryd.prog.wantsStandIn u) = true := by kernel_rfl
        exact (show Tryd.prog.wantsStandIn t = false by simpa using List.all_eq_true.1 hall t hm)⟩)
    (by kernel_rfl)
#print axioms proved
end Go.Proofs.Qxb6603783aDoor.fnDocCutNumberSuffixRoundTrip
