/-
  THE PROOF OF 'Rows.FnDocAppendFieldsReadBackCardSaid': the row, by the guide's frame, and its tied card.
-/
import Derived.Test.Qxb6603783aDoorRows
import Derived.Test.Qxb6603783aDoorTie
import Derived.Test.Qxb6603783aDoorCards
import Derived.WalkKit
import Derived.ProofKit
import Derived.OpenShut
import Derived.ShutString
import Derived.ChangeOld
import Derived.Below
import Derived.LaidMore
import Derived.Stop.Joined
import Derived.SevenTiedAt
import Derived.Test.Qxb6603783aDoorBack
import Derived.Test.Qxb6603783aDoorLaid
namespace Go.Proofs.Qxb6603783aDoor.fnDocAppendFieldsReadBack
open Go.ChangeShapes Go.WideShapes Go.ChangeAt Go.RowKit
open Go.ChangeMaps (open_string shut_string)
set_option linter.unusedVariables false

theorem own : ownKnob Tryd.prog.godebug = none := by kernel_rfl
theorem laidOut : laidOutB Tryd.prog = true := by kernel_rfl

def IsRow (k : IntKind) (w : World) (a : Option Addr) (len cap : Nat) (zs : List Int) : Prop :=
  (a = none ∧ len = 0 ∧ cap = 0 ∧ zs = []) ∨
  ∃ x, a = some x ∧ len ≤ cap ∧ cap ≤ maxLen ∧ zs.length = cap ∧ (∀ i, i < zs.length → w.cell? (x.add i) = some (.int k (zs.getD i 0))) ∧ ∀ n ∈ zs, (Lit.int k n).wf = true

theorem row_rd {w : World} {a : Option Addr} {len cap : Nat} {z : List Int} (w0 : IsRow .u8 w a len cap z) : Rd w a (z.take len) ∧ (z.take len).length = len ∧ (a = none → len = 0) ∧ len ≤ maxLen ∧ Bytes (z.take len) := by
  rcases w0 with ⟨rfl, rfl, rfl, rfl⟩ | ⟨x, rfl, h1, h2, h3, h4, h5⟩
  · exact ⟨Rd.nil _ _, rfl, fun _ => rfl, Nat.zero_le _, fun c hc => by cases hc⟩
  · refine ⟨?_, by rw [List.length_take]; omega, (fun h => by cases h), by omega, ?_⟩
    · have hr : Rd w (some x) z := fun j hj => ⟨x, rfl, h4 j hj⟩
      exact hr.take len
    · intro c hc
      exact bounds_u8 (h5 c (List.mem_of_mem_take hc))

set_option maxRecDepth 100000 in
theorem walk (a0 : Option Addr) (len0 cap0 : Nat) (z0 : List Int) (a1 : ByteArray) (a2 : Option Addr) (len2 cap2 : Nat) (z2 : List Int) (a3 a4 a5 a6 : Int) (a7 : Bool) (w : World) (hL : Laid w) (w0 : IsRow .u8 w a0 len0 cap0 z0) (w1 : a1.size ≤ maxLen) (w2 : IsRow .u8 w a2 len2 cap2 z2)
    (w3 : (Lit.int .u64 a3).wf = true) (w4 : (Lit.int .u64 a4).wf = true) (w5 : (Lit.int .u32 a5).wf = true) (w6 : (Lit.int .u32 a6).wf = true) :
    Calls Tryd.prog 3 #[.slice a0 len0 cap0, .string a1, .slice a2 len2 cap2, .int .u64 a3, .int .u64 a4, .int .u32 a5, .int .u32 a6, .bool a7] w fun e w' => e = .returned (.bool true) ∧ Below w.heap.size w w' := by
  obtain ⟨h1, h2, h3, h4, h5⟩ := row_rd w0
  obtain ⟨k1, k2, k3, k4, k5⟩ := row_rd w2
  have b3 := bounds_u64 w3
  have b4 := bounds_u64 w4
  have b5 := bounds_u32 w5
  have b6 := bounds_u32 w6
  unfold maxLen at w1 h4 k4
  by_cases hsz : len0 + a1.size + len2 ≤ 1048576
  · obtain ⟨n3, rfl⟩ := Int.eq_ofNat_of_zero_le b3.1
    obtain ⟨n4, rfl⟩ := Int.eq_ofNat_of_zero_le b4.1
    obtain ⟨n5, rfl⟩ := Int.eq_ofNat_of_zero_le b5.1
    obtain ⟨n6, rfl⟩ := Int.eq_ofNat_of_zero_le b6.1
    cases a7
    · exact back_false a0 len0 cap0 (z0.take len0) a1 a2 len2 cap2 (z2.take len2) n3 n4 n5 n6 w hL.1 h2 h1 h3 h5 k2 k1 k3 k5 hsz (by omega) (by omega) (by omega) (by omega)
    · exact back_true a0 len0 cap0 (z0.take len0) a1 a2 len2 cap2 (z2.take len2) n3 n4 n5 n6 w hL.1 h2 h1 h3 h5 k2 k1 k3 k5 hsz (by omega) (by omega) (by omega) (by omega)
  · clear w0 w2 w3 w4 w5 w6 b3 b4 b5 b6 h1 h2 h3 h5 k1 k2 k3 k5 hL
    go_enter Tryd.func3, Tryd.ntmps3
    go_wp2_with (go_at_call 6; refine (zzb_back_no _ _ _ _ _ _ _ _ _ _ _ _ _ hsz h4 w1 k4).mono ?_; rintro e w' ⟨rfl, rfl⟩)
    go_ret
    exact ⟨rfl, Below.refl _ _⟩

set_option maxRecDepth 100000 in
theorem lifted (os : Os) (started : os.Started) (H : Type) (enc : TypeId × Value → H) :
    ReturnsInHanded {} Tryd.checked os 3 .any (fun w args => (Rows.fnDocAppendFieldsReadBackSpec.pre enc Tryd.prog Tryd.f3 Rows.fnDocAppendFieldsReadBackRow.domain false w args ∧ laidMetH Tryd.prog Rows.fnDocAppendFieldsReadBackRow.laid w) ∧ sizedMet enc Tryd.prog Tryd.f3 (OpenSpec.ofChange Rows.fnDocAppendFieldsReadBackSpec) false w args)
      (Rows.fnDocAppendFieldsReadBackSpec.post enc Tryd.prog Tryd.f3 false true false false) := by
  refine returnsInHanded_of_change_and (C := Tryd.checked) (X := fun w _ => laidMetH Tryd.prog Rows.fnDocAppendFieldsReadBackRow.laid w) (fun _ _ _ hh h => h.of_heap hh) own started (by kernel_rfl) Tryd.func3
    (ChangeSpec.witness_shaped (enc := enc) (C := Tryd.checked) (os := os) (X := fun w _ => laidMetH Tryd.prog Rows.fnDocAppendFieldsReadBackRow.laid w) false (World.doorLaid Tryd.prog 62 os) #[.slice none 0 0, .string ByteArray.empty, .slice none 0 0, .int .u64 0, .int .u64 0, .int .u32 0, .int .u32 0, .bool false] 8 rfl (World.shaped_of_RefB (by kernel_rfl) (by kernel_rfl)) (by kernel_rfl) (by kernel_rfl) (by kernel_rfl)
      (laidMetH_of_parts3 (fuel := 8) (laidMet_of_run' 8 (by kernel_rfl) (by kernel_rfl)) (by kernel_rfl) (by kernel_rfl))) ?_
  intro W base args ds gs before hval0 hW hcnd _ hL _
  have hval : ∀ (j : Nat) t v, Tryd.f3.params[j]? = some t → args[j]? = some v → Value.okWide Tryd.prog W .any base t v := hval0
  have hW' := hW
  obtain ⟨p, q, hA0, hV, rfl, hfz, hnd⟩ := hW
  have hA : DataW.TrodAll enc Tryd.prog W 0 (fun _ => true) true Tryd.f3.params.toList args.toList ds p := hA0
  rw [Tryd.params3] at hA hval
  obtain ⟨v0, vs0, d0, ds0, p0, q0, hargs, rfl, rfl, h0, r0⟩ := trodAll_cons hA
  obtain ⟨v1, vs1, d1, ds1, p1, q1, rfl, rfl, rfl, h1, r1⟩ := trodAll_cons r0
  obtain ⟨v2, vs2, d2, ds2, p2, q2, rfl, rfl, rfl, h2, r2⟩ := trodAll_cons r1
  obtain ⟨v3, vs3, d3, ds3, p3, q3, rfl, rfl, rfl, h3, r3⟩ := trodAll_cons r2
  obtain ⟨v4, vs4, d4, ds4, p4, q4, rfl, rfl, rfl, h4, r4⟩ := trodAll_cons r3
  obtain ⟨v5, vs5, d5, ds5, p5, q5, rfl, rfl, rfl, h5, r5⟩ := trodAll_cons r4
  obtain ⟨v6, vs6, d6, ds6, p6, q6, rfl, rfl, rfl, h6, r6⟩ := trodAll_cons r5
  obtain ⟨v7, vs7, d7, ds7, p7, q7, rfl, rfl, rfl, h7, r7⟩ := trodAll_cons r6
  obtain ⟨rfl, rfl, rfl⟩ := trodAll_nil r7
  obtain rfl : args = #[v0, v1, v2, v3, v4, v5, v6, v7] := by cases args; simp_all
  obtain ⟨rfl, rfl⟩ := trodVars_none hV
  obtain ⟨a0, len0, cap0, rfl⟩ := okWide_slice Tryd.underlying22 (hval 0 22 v0 rfl rfl)
  have k0 := h0
  have lt0 : ∀ x ∈ p0, x.block < W.heap.size := by obtain ⟨m, hm⟩ := k0; exact DataW.trod_lt m _ _ _ hm
  obtain ⟨z0, w0⟩ : ∃ zs, IsRow .u8 W a0 len0 cap0 zs := by
    obtain ⟨fuel, hf⟩ := h0
    rcases open_ints Tryd.underlying22 Tryd.underlying5 (by kernel_rfl) hf with ⟨hcs, _⟩ | ⟨x, l, c, zs, hcs, _, hl, hm, hz, _, hcell, hwz⟩
    · simp [Value.cells] at hcs
      obtain ⟨rfl, rfl, rfl⟩ := hcs
      exact ⟨[], .inl ⟨rfl, rfl, rfl, rfl⟩⟩
    · simp [Value.cells] at hcs
      obtain ⟨rfl, rfl, rfl⟩ := hcs
      exact ⟨zs, .inr ⟨_, rfl, hl, hm, by simpa using hz, hcell, hwz⟩⟩
  obtain ⟨a2, len2, cap2, rfl⟩ := okWide_slice Tryd.underlying22 (hval 2 22 v2 rfl rfl)
  have k2 := h2
  have lt2 : ∀ x ∈ p2, x.block < W.heap.size := by obtain ⟨m, hm⟩ := k2; exact DataW.trod_lt m _ _ _ hm
  obtain ⟨z2, w2⟩ : ∃ zs, IsRow .u8 W a2 len2 cap2 zs := by
    obtain ⟨fuel, hf⟩ := h2
    rcases open_ints Tryd.underlying22 Tryd.underlying5 (by kernel_rfl) hf with ⟨hcs, _⟩ | ⟨x, l, c, zs, hcs, _, hl, hm, hz, _, hcell, hwz⟩
    · simp [Value.cells] at hcs
      obtain ⟨rfl, rfl, rfl⟩ := hcs
      exact ⟨[], .inl ⟨rfl, rfl, rfl, rfl⟩⟩
    · simp [Value.cells] at hcs
      obtain ⟨rfl, rfl, rfl⟩ := hcs
      exact ⟨zs, .inr ⟨_, rfl, hl, hm, by simpa using hz, hcell, hwz⟩⟩
  obtain ⟨a1, rfl, rfl, rfl, w1⟩ := open_string Tryd.underlying9 (hval 1 9 v1 rfl rfl) h1
  obtain ⟨a3, rfl, rfl, rfl, w3⟩ := open_int Tryd.underlying23 (hval 3 23 v3 rfl rfl) h3
  obtain ⟨a4, rfl, rfl, rfl, w4⟩ := open_int Tryd.underlying23 (hval 4 23 v4 rfl rfl) h4
  obtain ⟨a5, rfl, rfl, rfl, w5⟩ := open_int Tryd.underlying24 (hval 5 24 v5 rfl rfl) h5
  obtain ⟨a6, rfl, rfl, rfl, w6⟩ := open_int Tryd.underlying24 (hval 6 24 v6 rfl rfl) h6
  obtain ⟨a7, rfl, rfl, rfl⟩ := open_bool Tryd.underlying4 (hval 7 4 v7 rfl rfl) h7
  clear hA0 hval0
  refine (walk a0 len0 cap0 z0 a1 a2 len2 cap2 z2 a3 a4 a5 a6 a7 W (of_laid hL) w0 w1 w2 w3 w4 w5 w6).mono fun e W' ⟨he, bel⟩ => ?_
  subst he
  exact ⟨_, rfl, _, _, _, [], _, [], hW', trodAll_mk1 (shut_bool Tryd.underlying4 _), (trodAll_cons_mk (Below.trod laidOut (by kernel_rfl) (of_decide_eq_true (by kernel_rfl)) k0 bel lt0) (trodAll_cons_mk (shut_string Tryd.underlying9 w1) (trodAll_cons_mk (Below.trod laidOut (by kernel_rfl) (of_decide_eq_true (by kernel_rfl)) k2 bel lt2) (trodAll_cons_mk (shut_int Tryd.underlying23 w3) (trodAll_cons_mk (shut_int Tryd.underlying23 w4) (trodAll_cons_mk (shut_int Tryd.underlying24 w5) (trodAll_cons_mk (shut_int Tryd.underlying24 w6) (trodAll_cons_mk (shut_bool Tryd.underlying4 _) trodAll_mk0)))))))), rfl, bel.frame _, fun h => by cases h⟩

theorem over : Rows.FnDocAppendFieldsReadBackSaid :=
  OpenClaim.holds_of_wide 3 Tryd.f3 rfl rfl rfl rfl rfl rfl rfl ⟨rfl, rfl, rfl, rfl, rfl⟩ rfl rfl rfl rfl rfl (by kernel_rfl) Tryd.func3 (by kernel_rfl)
    (of_decide_eq_true (by kernel_rfl)) (by unfold Func.isWrapper; first | (rw [if_pos (by decide +kernel)]; kernel_rfl) | (rw [if_neg (by decide +kernel)]; exact ⟨rfl, rfl⟩))
    (fun os started H enc _ => lifted os started H enc)

/-- THE STATEMENT: the tied card. -/
theorem proved : Rows.FnDocAppendFieldsReadBackCardSaid :=
  Claim7.holds_tied_plain_at .later [] [.data, .data, .data, .sentinel, .sentinel] true (true, Rows.fnDocAppendFieldsReadBackCard.stood.harness.2) true
    over (fun _ h => by cases h) (by kernel_rfl) (fun _ h => by cases h) fnDocAppendFieldsReadBack_row_tie rfl ⟨rfl, rfl⟩ (by kernel_rfl) rfl
    (fun f fn hf hfn => by
      obtain rfl : f = 3 := Option.some.inj ((show Tryd.prog.funcNamed Rows.fnDocAppendFieldsReadBackRow.func = some 3 by kernel_rfl).symm.trans hf) |>.symm
      obtain rfl : fn = Tryd.f3 := (Option.some.inj (Tryd.func3.symm.trans hfn)).symm
      exact ⟨by kernel_rfl, fun j t ht => by
        rw [Tryd.params3] at ht
        have hm : t ∈ [22, 9, 22, 23, 23, 24, 24, 4] := by simpa using Array.mem_of_getElem? ht
        have hall : ([22, 9, 22, 23, 23, 24, 24, 4].all fun u => !Tryd.prog.wantsStandIn u) = true := by kernel_rfl
        exact (show Tryd.prog.wantsStandIn t = false by simpa using List.all_eq_true.1 hall t hm)⟩)
    (by kernel_rfl)
#print axioms proved
end Go.Proofs.Qxb6603783aDoor.fnDocAppendFieldsReadBack
