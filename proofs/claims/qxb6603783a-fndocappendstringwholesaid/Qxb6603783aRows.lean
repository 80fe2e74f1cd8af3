/-
  No cell of these rows narrows 'for every input' (looked for: loops, veiled, ifaces, maps, wideKeys, modest, calm, conditions, laid).
  DERIVED. THE GIVEN ROWS OF THIS SEAT. 2 by the template 'for every input the law returns true; each argument reads behind the call as it read before'; 0 by the template 'total and deterministic' (their statements: Qxb6603783aTotals.lean).
  GIVEN WITH THE SEED: the statements are not yours to turn. If you find one false, say at which input.
  Laid BY PROGRAM, IN A SANDBOX (cutbox-rows.mjs): the forced cells as the released guide's own fill.sh prints them over the translation a14f959c6662c5a3… (all of the seat's roots in one cut). By AI agents, Wed Nov 11 2026. No macro, syntax, notation, axiom, sorry.
-/
import Derived.Test.Qxb6603783aChecked
import GoSem.Claim
import GoSem.ClaimJoined
import GoSem.ClaimMapViews
import Derived.JoinedTies
import Derived.KernelRfl
namespace Go.Proofs.Qxb6603783a
/- THE CELL 'sum', in the pinned program and in every row, IS THE sha256 OF THE DUMP (.gsa) THAT Qxb6603783aProg.lean LOADS. Nothing in Lean hashes anything: it is a label: what it is worth is what the hold of that sum in a sandbox is worth. -/
noncomputable def Try.pinned : Pinned := { name := "qxb6603783a", sum := "a14f959c6662c5a3a5bb1f0e5210b8e001188db5d3ac02944830a952de9ea2a1", checked := Try.checked }
namespace Rows
def none {H : Type} : Left H := { results := [], args := [] }

/-- 'zzlaws_internal_doc_b1.FnDocAppendStringWhole': WHATEVER THE INPUT: true; the input reads as it did. -/
def fnDocAppendStringWholeSpec : ChangeSpec := { name := "fnDocAppendStringWhole", fn := fun _ => fun
  | [d1, d2] => { results := [.lit (.bool true)], args := [d1, d2] }
  | _ => none }
def fnDocAppendStringWholeRow : OpenClaim := { program := "qxb6603783a", sum := "a14f959c6662c5a3a5bb1f0e5210b8e001188db5d3ac02944830a952de9ea2a1", func := "example.com/longhaul/longhaul/zzlaws_internal_doc_b1.FnDocAppendStringWhole", spec := "fnDocAppendStringWhole", apart := false }
def FnDocAppendStringWholeSaid : Prop := fnDocAppendStringWholeRow.holds Try.pinned (OpenSpec.ofChange fnDocAppendStringWholeSpec)

/-- ITS FALSE NEIGHBOUR: 'it returns false'. Refute it at one input. -/
def fnDocAppendStringWholeWrong : ChangeSpec := { name := "fnDocAppendStringWhole", fn := fun _ => fun
  | [d1, d2] => { results := [.lit (.bool false)], args := [d1, d2] }
  | _ => none }
def FnDocAppendStringWholeWrongFalsely : Prop := fnDocAppendStringWholeRow.holds Try.pinned (OpenSpec.ofChange fnDocAppendStringWholeWrong)

/-- 'zzlaws_internal_doc_b1.FnDocAppendStringSplits': WHATEVER THE INPUT: true; the input reads as it did. -/
def fnDocAppendStringSplitsSpec : ChangeSpec := { name := "fnDocAppendStringSplits", fn := fun _ => fun
  | [d1, d2, d3] => { results := [.lit (.bool true)], args := [d1, d2, d3] }
  | _ => none }
def fnDocAppendStringSplitsRow : OpenClaim := { program := "qxb6603783a", sum := "a14f959c6662c5a3a5bb1f0e5210b8e001188db5d3ac02944830a952de9ea2a1", func := "example.com/longhaul/longhaul/zzlaws_internal_doc_b1.FnDocAppendStringSplits", spec := "fnDocAppendStringSplits", apart := false }
def FnDocAppendStringSplitsSaid : Prop := fnDocAppendStringSplitsRow.holds Try.pinned (OpenSpec.ofChange fnDocAppendStringSplitsSpec)

/-- ITS FALSE NEIGHBOUR: 'it returns false'. Refute it at one input. -/
def fnDocAppendStringSplitsWrong : ChangeSpec := { name := "fnDocAppendStringSplits", fn := fun _ => fun
  | [d1, d2, d3] => { results := [.lit (.bool false)], args := [d1, d2, d3] }
  | _ => none }
def FnDocAppendStringSplitsWrongFalsely : Prop := fnDocAppendStringSplitsRow.holds Try.pinned (OpenSpec.ofChange fnDocAppendStringSplitsWrong)

end Rows
end Go.Proofs.Qxb6603783a
