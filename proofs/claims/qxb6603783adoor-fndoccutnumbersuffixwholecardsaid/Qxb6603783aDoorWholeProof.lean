/-
  THE PROOF OF 'Rows.FnDocCutNumberSuffixWholeCardSaid': the row, by the guide's frame, and its tied card.
-/
import Derived.Test.Qxb6603783aDoorRows
import Derived.Test.Qxb6603783aDoorTie
import Derived.Test.Qxb6603783aDoorCards
import Derived.WalkKit
import Derived.ProofKit
import Derived.OpenShut
import Derived.ShutString
import Derived.ChangeOld
import Derived.Below
import Derived.LaidMore
import Derived.Stop.Joined
import Derived.SevenTiedAt
import Derived.Test.Qxb6603783aDoorWholeYes
import Derived.Test.Qxb6603783aDoorLaid
namespace Go.Proofs.Qxb6603783aDoor.fnDocCutNumberSuffixWhole
open Go.ChangeShapes Go.WideShapes Go.ChangeAt Go.RowKit
open Go.ChangeMaps (open_string shut_string)
set_option linter.unusedVariables false

theorem own : ownKnob Tryd.prog.godebug = none := by kernel_rfl
theorem laidOut : laidOutB Tryd.prog = true := by kernel_rfl

def IsRow (k : IntKind) (w : World) (a : Option Addr) (len cap : Nat) (zs : List Int) : Prop :=
  (a = none ∧ len = 0 ∧ cap = 0 ∧ zs = []) ∨
  ∃ x, a = some x ∧ len ≤ cap ∧ cap ≤ maxLen ∧ zs.length = cap ∧ (∀ i, i < zs.length → w.cell? (x.add i) = some (.int k (zs.getD i 0))) ∧ ∀ n ∈ zs, (Lit.int k n).wf = true

theorem walk (a0 : Option Addr) (len0 cap0 : Nat) (z0 : List Int) (a1 : ByteArray) (a2 : Int) (w : World) (hL : Laid w) (w0 : IsRow .u8 w a0 len0 cap0 z0) (w1 : a1.size ≤ maxLen) (w2 : (Lit.int .i64 a2).wf = true) :
    Calls Tryd.prog 4 #[.slice a0 len0 cap0, .string a1, .int .i64 a2] w fun e w' => e = .returned (.bool true) ∧ Below w.heap.size w w' := by
  have hrd : Rd w a0 (z0.take len0) ∧ (z0.take len0).length = len0 ∧ (a0 = none → len0 = 0) ∧ len0 ≤ maxLen ∧ Bytes (z0.take len0) := by
    rcases w0 with ⟨rfl, rfl, rfl, rfl⟩ | ⟨x, rfl, h1, h2, h3, h4, h5⟩
    · exact ⟨Rd.nil _ _, rfl, fun _ => rfl, Nat.zero_le _, fun c hc => by cases hc⟩
    · refine ⟨?_, by rw [List.length_take]; omega, (fun h => by cases h), by omega, ?_⟩
      · have hr : Rd w (some x) z0 := fun j hj => ⟨x, rfl, h4 j hj⟩
        exact hr.take len0
      · intro c hc
        exact bounds_u8 (h5 c (List.mem_of_mem_take hc))
  obtain ⟨h1, h2, h3, h4, h5⟩ := hrd
  have hv := bounds_i64 w2
  unfold maxLen at w1 h4
  by_cases hsz : len0 + a1.size ≤ 1048576
  · obtain ⟨I, hI⟩ : ∃ I, cutAt (z0.take len0) = I := ⟨_, rfl⟩
    have hle : I ≤ len0 := by have := cutAt_le (z0.take len0); omega
    by_cases hno : I = len0 ∨ (I + 1 < len0 ∧ (z0.take len0).getD I 0 = 48)
    · exact whole_no a0 len0 cap0 (z0.take len0) a1 a2 w h2 h1 h3 hsz I hI hno
    · refine whole_yes a0 len0 cap0 (z0.take len0) a1 a2 w hL h2 h1 h5 h3 hsz (by omega) (by omega) I hI (by omega) ?_
      by_cases h48 : (z0.take len0).getD I 0 = 48
      · left; omega
      · exact .inr h48
  · clear w0 w2 h1 h2 h3 h5 hL
    go_enter Tryd.func4, Tryd.ntmps4
    go_wp2_with (go_at_call 13; refine (zzb_cut_no _ _ _ _ _ _ hsz h4 w1).mono ?_; rintro e w' ⟨rfl, rfl⟩)
    go_ret
    exact ⟨rfl, Below.refl _ _⟩

set_option maxRecDepth 100000 in
theorem lifted (os : Os) (started : os.Started) (H : Type) (enc : TypeId × Value → H) :
    ReturnsInHanded {} Tryd.checked os 4 .any (fun w args => (Rows.fnDocCutNumberSuffixWholeSpec.pre enc Tryd.prog Tryd.f4 Rows.fnDocCutNumberSuffixWholeRow.domain false w args ∧ laidMetH Tryd.prog Rows.fnDocCutNumberSuffixWholeRow.laid w) ∧ sizedMet enc Tryd.prog Tryd.f4 (OpenSpec.ofChange Rows.fnDocCutNumberSuffixWholeSpec) false w args)
      (Rows.fnDocCutNumberSuffixWholeSpec.post enc Tryd.prog Tryd.f4 false true false false) := by
  refine returnsInHanded_of_change_and (C := Tryd.checked) (X := fun w _ => laidMetH Tryd.prog Rows.fnDocCutNumberSuffixWholeRow.laid w) (fun _ _ _ hh h => h.of_heap hh) own started (by kernel_rfl) Tryd.func4
    (ChangeSpec.witness_shaped (enc := enc) (C := Tryd.checked) (os := os) (X := fun w _ => laidMetH Tryd.prog Rows.fnDocCutNumberSuffixWholeRow.laid w) false (World.doorLaid Tryd.prog 62 os) #[.slice none 0 0, .string ByteArray.empty, .int .i64 0] 8 rfl (World.shaped_of_RefB (by kernel_rfl) (by kernel_rfl)) (by kernel_rfl) (by kernel_rfl) (by kernel_rfl)
      (laidMetH_of_parts3 (fuel := 8) (laidMet_of_run' 8 (by kernel_rfl) (by kernel_rfl)) (by kernel_rfl) (by kernel_rfl))) ?_
  intro W base args ds gs before hval0 hW hcnd _ hL _
  have hval : ∀ (j : Nat) t v, Tryd.f4.params[j]? = some t → args[j]? = some v → Value.okWide Tryd.prog W .any base t v := hval0
  have hW' := hW
  obtain ⟨p, q, hA0, hV, rfl, hfz, hnd⟩ := hW
  have hA : DataW.TrodAll enc Tryd.prog W 0 (fun _ => true) true Tryd.f4.params.toList args.toList ds p := hA0
  rw [Tryd.params4] at hA hval
  obtain ⟨v0, vs0, d0, ds0, p0, q0, hargs, rfl, rfl, h0, r0⟩ := trodAll_cons hA
  obtain ⟨v1, vs1, d1, ds1, p1, q1, rfl, rfl, rfl, h1, r1⟩ := trodAll_cons r0
  obtain ⟨v2, vs2, d2, ds2, p2, q2, rfl, rfl, rfl, h2, r2⟩ := trodAll_cons r1
  obtain ⟨rfl, rfl, rfl⟩ := trodAll_nil r2
  obtain rfl : args = #[v0, v1, v2] := by cases args; simp_all
  obtain ⟨rfl, rfl⟩ := trodVars_none hV
  obtain ⟨a0, len0, cap0, rfl⟩ := okWide_slice Tryd.underlying22 (hval 0 22 v0 rfl rfl)
  have k0 := h0
  have lt0 : ∀ x ∈ p0, x.block < W.heap.size := by obtain ⟨m, hm⟩ := k0; exact DataW.trod_lt m _ _ _ hm
  obtain ⟨z0, w0⟩ : ∃ zs, IsRow .u8 W a0 len0 cap0 zs := by
    obtain ⟨fuel, hf⟩ := h0
    rcases open_ints Tryd.underlying22 Tryd.underlying5 (by kernel_rfl) hf with ⟨hcs, _⟩ | ⟨x, l, c, zs, hcs, _, hl, hm, hz, _, hcell, hwz⟩
    · simp [Value.cells] at hcs
      obtain ⟨rfl, rfl, rfl⟩ := hcs
      exact ⟨[], .inl ⟨rfl, rfl, rfl, rfl⟩⟩
    · simp [Value.cells] at hcs
      obtain ⟨rfl, rfl, rfl⟩ := hcs
      exact ⟨zs, .inr ⟨_, rfl, hl, hm, by simpa using hz, hcell, hwz⟩⟩
  obtain ⟨a1, rfl, rfl, rfl, w1⟩ := open_string Tryd.underlying9 (hval 1 9 v1 rfl rfl) h1
  obtain ⟨a2, rfl, rfl, rfl, w2⟩ := open_int Tryd.underlying3 (hval 2 3 v2 rfl rfl) h2
  clear hA0 hval0
  refine (walk a0 len0 cap0 z0 a1 a2 W (of_laid hL) w0 w1 w2).mono fun e W' ⟨he, bel⟩ => ?_
  subst he
  exact ⟨_, rfl, _, _, _, [], _, [], hW', trodAll_mk1 (shut_bool Tryd.underlying4 _), (trodAll_cons_mk (Below.trod laidOut (by kernel_rfl) (of_decide_eq_true (by kernel_rfl)) k0 bel lt0) (trodAll_cons_mk (shut_string Tryd.underlying9 w1) (trodAll_cons_mk (shut_int Tryd.underlying3 w2) trodAll_mk0))), rfl, bel.frame _, fun h => by cases h⟩

theorem over : Rows.FnDocCutNumberSuffixWholeSaid :=
  OpenClaim.holds_of_wide 4 Tryd.f4 rfl rfl rfl rfl rfl rfl rfl ⟨rfl, rfl, rfl, rfl, rfl⟩ rfl rfl rfl rfl rfl (by kernel_rfl) Tryd.func4 (by kernel_rfl)
    (of_decide_eq_true (by kernel_rfl)) (by unfold Func.isWrapper; first | (rw [if_pos (by decide +kernel)]; kernel_rfl) | (rw [if_neg (by decide +kernel)]; exact ⟨rfl, rfl⟩))
    (fun os started H enc _ => lifted os started H enc)

/-- THE STATEMENT: the tied card. -/
theorem proved : Rows.FnDocCutNumberSuffixWholeCardSaid :=
  Claim7.holds_tied_plain_at .later [] [.data, .data, .data, .sentinel, .sentinel] true (true, Rows.fnDocCutNumberSuffixWholeCard.stood.harness.2) true
    over (fun _ h => by cases h) (by kernel_rfl) (fun _ h => by cases h) fnDocCutNumberSuffixWhole_row_tie rfl ⟨rfl, rfl⟩ (by kernel_rfl) rfl
    (fun f fn hf hfn => by
      obtain rfl : f = 4 := Option.some.inj ((show Tryd.prog.funcNamed Rows.fnDocCutNumberSuffixWholeRow.func = some 4 by kernel_rfl).symm.trans hf) |>.symm
      obtain rfl : fn = Tryd.f4 := (Option.some.inj (Tryd.func4.symm.trans hfn)).symm
      exact ⟨by kernel_rfl, fun j t ht => by
        rw [Tryd.params4] at ht
        have hm : t ∈ [22, 9, 3] := by simpa using Array.mem_of_getElem? ht
        have hall : ([22, 9, 3].all fun u => !Tryd.prog.wantsStandIn u) = true := by kernel_rfl
        exact (show Tryd.prog.wantsStandIn t = false by simpa using List.all_eq_true.1 hall t hm)⟩)
    (by kernel_rfl)
#print axioms proved
end Go.Proofs.Qxb6603783aDoor.fnDocCutNumberSuffixWhole
