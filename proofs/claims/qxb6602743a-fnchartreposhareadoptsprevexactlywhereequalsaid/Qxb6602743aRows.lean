/-
  No cell of these rows narrows 'for every input' (looked for: loops, veiled, ifaces, maps, wideKeys, modest, calm, conditions, laid).
  DERIVED. THE GIVEN ROWS OF THIS SEAT. 7 by the template 'for every input the law returns true; each argument reads behind the call as it read before'; 0 by the template 'total and deterministic' (their statements: Qxb6602743aTotals.lean).
  GIVEN WITH THE SEED: the statements are not yours to turn. If you find one false, say at which input.
  Laid BY PROGRAM, IN A SANDBOX (cutbox-rows.mjs): the forced cells as the released guide's own fill.sh prints them over the translation 41372a91f10698b9… (all of the seat's roots in one cut). By AI agents, Wed Nov 11 2026. No macro, syntax, notation, axiom, sorry.
-/
import Derived.Test.Qxb6602743aChecked
import GoSem.Claim
import GoSem.ClaimJoined
import GoSem.ClaimMapViews
import Derived.JoinedTies
import Derived.KernelRfl
namespace Go.Proofs.Qxb6602743a
/- THE CELL 'sum', in the pinned program and in every row, IS THE sha256 OF THE DUMP (.gsa) THAT Qxb6602743aProg.lean LOADS. Nothing in Lean hashes anything: it is a label: what it is worth is what the hold of that sum in a sandbox is worth. -/
noncomputable def Try.pinned : Pinned := { name := "qxb6602743a", sum := "41372a91f10698b996c3a93b5d339486e48f3844dc3169111351a79e747007e8", checked := Try.checked }
namespace Rows
def none {H : Type} : Left H := { results := [], args := [] }

/-- 'zzlaws_internal_chartrepo_b1.FnChartrepoShareAdoptsPrevExactlyWhereEqual': WHATEVER THE INPUT: true; the input reads as it did. -/
def fnChartrepoShareAdoptsPrevExactlyWhereEqualSpec : ChangeSpec := { name := "fnChartrepoShareAdoptsPrevExactlyWhereEqual", fn := fun _ => fun
  | [d1, d2, d3, d4, d5, d6, d7, d8, d9, d10, d11, d12] => { results := [.lit (.bool true)], args := [d1, d2, d3, d4, d5, d6, d7, d8, d9, d10, d11, d12] }
  | _ => none }
def fnChartrepoShareAdoptsPrevExactlyWhereEqualRow : OpenClaim := { program := "qxb6602743a", sum := "41372a91f10698b996c3a93b5d339486e48f3844dc3169111351a79e747007e8", func := "example.com/chartwarden/chartwarden/zzlaws_internal_chartrepo_b1.FnChartrepoShareAdoptsPrevExactlyWhereEqual", spec := "fnChartrepoShareAdoptsPrevExactlyWhereEqual", apart := false }
def FnChartrepoShareAdoptsPrevExactlyWhereEqualSaid : Prop := fnChartrepoShareAdoptsPrevExactlyWhereEqualRow.holds Try.pinned (OpenSpec.ofChange fnChartrepoShareAdoptsPrevExactlyWhereEqualSpec)

/-- ITS FALSE NEIGHBOUR: 'it returns false'. Refute it at one input. -/
def fnChartrepoShareAdoptsPrevExactlyWhereEqualWrong : ChangeSpec := { name := "fnChartrepoShareAdoptsPrevExactlyWhereEqual", fn := fun _ => fun
  | [d1, d2, d3, d4, d5, d6, d7, d8, d9, d10, d11, d12] => { results := [.lit (.bool false)], args := [d1, d2, d3, d4, d5, d6, d7, d8, d9, d10, d11, d12] }
  | _ => none }
def FnChartrepoShareAdoptsPrevExactlyWhereEqualWrongFalsely : Prop := fnChartrepoShareAdoptsPrevExactlyWhereEqualRow.holds Try.pinned (OpenSpec.ofChange fnChartrepoShareAdoptsPrevExactlyWhereEqualWrong)

/-- 'zzlaws_internal_chartrepo_b1.FnChartrepoShareKeepsContent': WHATEVER THE INPUT: true; the input reads as it did. -/
def fnChartrepoShareKeepsContentSpec : ChangeSpec := { name := "fnChartrepoShareKeepsContent", fn := fun _ => fun
  | [d1, d2, d3, d4, d5, d6, d7, d8, d9, d10, d11, d12] => { results := [.lit (.bool true)], args := [d1, d2, d3, d4, d5, d6, d7, d8, d9, d10, d11, d12] }
  | _ => none }
def fnChartrepoShareKeepsContentRow : OpenClaim := { program := "qxb6602743a", sum := "41372a91f10698b996c3a93b5d339486e48f3844dc3169111351a79e747007e8", func := "example.com/chartwarden/chartwarden/zzlaws_internal_chartrepo_b1.FnChartrepoShareKeepsContent", spec := "fnChartrepoShareKeepsContent", apart := false }
def FnChartrepoShareKeepsContentSaid : Prop := fnChartrepoShareKeepsContentRow.holds Try.pinned (OpenSpec.ofChange fnChartrepoShareKeepsContentSpec)

/-- ITS FALSE NEIGHBOUR: 'it returns false'. Refute it at one input. -/
def fnChartrepoShareKeepsContentWrong : ChangeSpec := { name := "fnChartrepoShareKeepsContent", fn := fun _ => fun
  | [d1, d2, d3, d4, d5, d6, d7, d8, d9, d10, d11, d12] => { results := [.lit (.bool false)], args := [d1, d2, d3, d4, d5, d6, d7, d8, d9, d10, d11, d12] }
  | _ => none }
def FnChartrepoShareKeepsContentWrongFalsely : Prop := fnChartrepoShareKeepsContentRow.holds Try.pinned (OpenSpec.ofChange fnChartrepoShareKeepsContentWrong)

/-- 'zzlaws_internal_chartrepo_b1.FnChartrepoDecimalMatchesParseRender': WHATEVER THE INPUT: true; the input reads as it did. -/
def fnChartrepoDecimalMatchesParseRenderSpec : ChangeSpec := { name := "fnChartrepoDecimalMatchesParseRender", fn := fun _ => fun
  | [d] => { results := [.lit (.bool true)], args := [d] }
  | _ => none }
def fnChartrepoDecimalMatchesParseRenderRow : OpenClaim := { program := "qxb6602743a", sum := "41372a91f10698b996c3a93b5d339486e48f3844dc3169111351a79e747007e8", func := "example.com/chartwarden/chartwarden/zzlaws_internal_chartrepo_b1.FnChartrepoDecimalMatchesParseRender", spec := "fnChartrepoDecimalMatchesParseRender", apart := false }
def FnChartrepoDecimalMatchesParseRenderSaid : Prop := fnChartrepoDecimalMatchesParseRenderRow.holds Try.pinned (OpenSpec.ofChange fnChartrepoDecimalMatchesParseRenderSpec)

/-- ITS FALSE NEIGHBOUR: 'it returns false'. Refute it at one input. -/
def fnChartrepoDecimalMatchesParseRenderWrong : ChangeSpec := { name := "fnChartrepoDecimalMatchesParseRender", fn := fun _ => fun
  | [d] => { results := [.lit (.bool false)], args := [d] }
  | _ => none }
def FnChartrepoDecimalMatchesParseRenderWrongFalsely : Prop := fnChartrepoDecimalMatchesParseRenderRow.holds Try.pinned (OpenSpec.ofChange fnChartrepoDecimalMatchesParseRenderWrong)

/-- 'zzlaws_internal_chartrepo_b1.FnChartrepoDecimalOfRenderedInt64': WHATEVER THE INPUT: true; the input reads as it did. -/
def fnChartrepoDecimalOfRenderedInt64Spec : ChangeSpec := { name := "fnChartrepoDecimalOfRenderedInt64", fn := fun _ => fun
  | [d] => { results := [.lit (.bool true)], args := [d] }
  | _ => none }
def fnChartrepoDecimalOfRenderedInt64Row : OpenClaim := { program := "qxb6602743a", sum := "41372a91f10698b996c3a93b5d339486e48f3844dc3169111351a79e747007e8", func := "example.com/chartwarden/chartwarden/zzlaws_internal_chartrepo_b1.FnChartrepoDecimalOfRenderedInt64", spec := "fnChartrepoDecimalOfRenderedInt64", apart := false }
def FnChartrepoDecimalOfRenderedInt64Said : Prop := fnChartrepoDecimalOfRenderedInt64Row.holds Try.pinned (OpenSpec.ofChange fnChartrepoDecimalOfRenderedInt64Spec)

/-- ITS FALSE NEIGHBOUR: 'it returns false'. Refute it at one input. -/
def fnChartrepoDecimalOfRenderedInt64Wrong : ChangeSpec := { name := "fnChartrepoDecimalOfRenderedInt64", fn := fun _ => fun
  | [d] => { results := [.lit (.bool false)], args := [d] }
  | _ => none }
def FnChartrepoDecimalOfRenderedInt64WrongFalsely : Prop := fnChartrepoDecimalOfRenderedInt64Row.holds Try.pinned (OpenSpec.ofChange fnChartrepoDecimalOfRenderedInt64Wrong)

/-- 'zzlaws_internal_chartrepo_b1.FnChartrepoPlainWordMatchesTable': WHATEVER THE INPUT: true; the input reads as it did. -/
def fnChartrepoPlainWordMatchesTableSpec : ChangeSpec := { name := "fnChartrepoPlainWordMatchesTable", fn := fun _ => fun
  | [d1, d2] => { results := [.lit (.bool true)], args := [d1, d2] }
  | _ => none }
def fnChartrepoPlainWordMatchesTableRow : OpenClaim := { program := "qxb6602743a", sum := "41372a91f10698b996c3a93b5d339486e48f3844dc3169111351a79e747007e8", func := "example.com/chartwarden/chartwarden/zzlaws_internal_chartrepo_b1.FnChartrepoPlainWordMatchesTable", spec := "fnChartrepoPlainWordMatchesTable", inPlace := ["internal/bytealg.IndexByteString"], apart := false }
def FnChartrepoPlainWordMatchesTableSaid : Prop := fnChartrepoPlainWordMatchesTableRow.holds Try.pinned (OpenSpec.ofChange fnChartrepoPlainWordMatchesTableSpec)

/-- ITS FALSE NEIGHBOUR: 'it returns false'. Refute it at one input. -/
def fnChartrepoPlainWordMatchesTableWrong : ChangeSpec := { name := "fnChartrepoPlainWordMatchesTable", fn := fun _ => fun
  | [d1, d2] => { results := [.lit (.bool false)], args := [d1, d2] }
  | _ => none }
def FnChartrepoPlainWordMatchesTableWrongFalsely : Prop := fnChartrepoPlainWordMatchesTableRow.holds Try.pinned (OpenSpec.ofChange fnChartrepoPlainWordMatchesTableWrong)

/-- 'zzlaws_internal_chartrepo_b1.FnChartrepoPlainWordOfConcatenation': WHATEVER THE INPUT: true; the input reads as it did. -/
def fnChartrepoPlainWordOfConcatenationSpec : ChangeSpec := { name := "fnChartrepoPlainWordOfConcatenation", fn := fun _ => fun
  | [d1, d2, d3] => { results := [.lit (.bool true)], args := [d1, d2, d3] }
  | _ => none }
def fnChartrepoPlainWordOfConcatenationRow : OpenClaim := { program := "qxb6602743a", sum := "41372a91f10698b996c3a93b5d339486e48f3844dc3169111351a79e747007e8", func := "example.com/chartwarden/chartwarden/zzlaws_internal_chartrepo_b1.FnChartrepoPlainWordOfConcatenation", spec := "fnChartrepoPlainWordOfConcatenation", inPlace := ["internal/bytealg.IndexByteString"], apart := false }
def FnChartrepoPlainWordOfConcatenationSaid : Prop := fnChartrepoPlainWordOfConcatenationRow.holds Try.pinned (OpenSpec.ofChange fnChartrepoPlainWordOfConcatenationSpec)

/-- ITS FALSE NEIGHBOUR: 'it returns false'. Refute it at one input. -/
def fnChartrepoPlainWordOfConcatenationWrong : ChangeSpec := { name := "fnChartrepoPlainWordOfConcatenation", fn := fun _ => fun
  | [d1, d2, d3] => { results := [.lit (.bool false)], args := [d1, d2, d3] }
  | _ => none }
def FnChartrepoPlainWordOfConcatenationWrongFalsely : Prop := fnChartrepoPlainWordOfConcatenationRow.holds Try.pinned (OpenSpec.ofChange fnChartrepoPlainWordOfConcatenationWrong)

/-- 'zzlaws_internal_chartrepo_b1.FnChartrepoPlainWordMoreOthers': WHATEVER THE INPUT: true; the input reads as it did. -/
def fnChartrepoPlainWordMoreOthersSpec : ChangeSpec := { name := "fnChartrepoPlainWordMoreOthers", fn := fun _ => fun
  | [d1, d2, d3] => { results := [.lit (.bool true)], args := [d1, d2, d3] }
  | _ => none }
def fnChartrepoPlainWordMoreOthersRow : OpenClaim := { program := "qxb6602743a", sum := "41372a91f10698b996c3a93b5d339486e48f3844dc3169111351a79e747007e8", func := "example.com/chartwarden/chartwarden/zzlaws_internal_chartrepo_b1.FnChartrepoPlainWordMoreOthers", spec := "fnChartrepoPlainWordMoreOthers", inPlace := ["internal/bytealg.IndexByteString"], apart := false }
def FnChartrepoPlainWordMoreOthersSaid : Prop := fnChartrepoPlainWordMoreOthersRow.holds Try.pinned (OpenSpec.ofChange fnChartrepoPlainWordMoreOthersSpec)

/-- ITS FALSE NEIGHBOUR: 'it returns false'. Refute it at one input. -/
def fnChartrepoPlainWordMoreOthersWrong : ChangeSpec := { name := "fnChartrepoPlainWordMoreOthers", fn := fun _ => fun
  | [d1, d2, d3] => { results := [.lit (.bool false)], args := [d1, d2, d3] }
  | _ => none }
def FnChartrepoPlainWordMoreOthersWrongFalsely : Prop := fnChartrepoPlainWordMoreOthersRow.holds Try.pinned (OpenSpec.ofChange fnChartrepoPlainWordMoreOthersWrong)

end Rows
end Go.Proofs.Qxb6602743a
