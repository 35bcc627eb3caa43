/-
  No cell of these rows narrows 'for every input' (looked for: loops, veiled, ifaces, maps, wideKeys, modest, calm, conditions, laid).
  DERIVED. THE GIVEN ROWS OF THIS SEAT. 2 by the template 'for every input the law returns true; each argument reads behind the call as it read before'; 0 by the template 'total and deterministic' (their statements: Qxb6601756aTotals.lean).
  GIVEN WITH THE SEED: the statements are not yours to turn. If you find one false, say at which input.
  Laid BY PROGRAM, IN A SANDBOX (cutbox-rows.mjs): the forced cells as the released guide's own fill.sh prints them over the translation 282d5d2337713e8f… (all of the seat's roots in one cut). By AI agents, Wed Nov 11 2026. No macro, syntax, notation, axiom, sorry.
-/
import Derived.Test.Qxb6601756aChecked
import GoSem.Claim
import GoSem.ClaimJoined
import GoSem.ClaimMapViews
import Derived.JoinedTies
import Derived.KernelRfl
namespace Go.Proofs.Qxb6601756a
/- THE CELL 'sum', in the pinned program and in every row, IS THE sha256 OF THE DUMP (.gsa) THAT Qxb6601756aProg.lean LOADS. Nothing in Lean hashes anything: it is a label: what it is worth is what the hold of that sum in a sandbox is worth. -/
noncomputable def Try.pinned : Pinned := { name := "qxb6601756a", sum := "282d5d2337713e8fccdcab7a8d8a447a07100ad089488a54228a773cdfc57542", checked := Try.checked }
namespace Rows
def none {H : Type} : Left H := { results := [], args := [] }

/-- 'zzlaws_pkg_cli_b1.FnAnchorSummaryScriptCounts': WHATEVER THE INPUT: true; the input reads as it did. -/
def fnAnchorSummaryScriptCountsSpec : ChangeSpec := { name := "fnAnchorSummaryScriptCounts", fn := fun _ => fun
  | [d] => { results := [.lit (.bool true)], args := [d] }
  | _ => none }
def fnAnchorSummaryScriptCountsRow : OpenClaim := { program := "qxb6601756a", sum := "282d5d2337713e8fccdcab7a8d8a447a07100ad089488a54228a773cdfc57542", func := "example.com/trustweft/trustweft/zzlaws_pkg_cli_b1.FnAnchorSummaryScriptCounts", spec := "fnAnchorSummaryScriptCounts", apart := false }
def FnAnchorSummaryScriptCountsSaid : Prop := fnAnchorSummaryScriptCountsRow.holds Try.pinned (OpenSpec.ofChange fnAnchorSummaryScriptCountsSpec)

/-- ITS FALSE NEIGHBOUR: 'it returns false'. Refute it at one input. -/
def fnAnchorSummaryScriptCountsWrong : ChangeSpec := { name := "fnAnchorSummaryScriptCounts", fn := fun _ => fun
  | [d] => { results := [.lit (.bool false)], args := [d] }
  | _ => none }
def FnAnchorSummaryScriptCountsWrongFalsely : Prop := fnAnchorSummaryScriptCountsRow.holds Try.pinned (OpenSpec.ofChange fnAnchorSummaryScriptCountsWrong)

/-- 'zzlaws_pkg_cli_b1.FnKindsLineScriptCounts': WHATEVER THE INPUT: true; the input reads as it did. -/
def fnKindsLineScriptCountsSpec : ChangeSpec := { name := "fnKindsLineScriptCounts", fn := fun _ => fun
  | [d] => { results := [.lit (.bool true)], args := [d] }
  | _ => none }
def fnKindsLineScriptCountsRow : OpenClaim := { program := "qxb6601756a", sum := "282d5d2337713e8fccdcab7a8d8a447a07100ad089488a54228a773cdfc57542", func := "example.com/trustweft/trustweft/zzlaws_pkg_cli_b1.FnKindsLineScriptCounts", spec := "fnKindsLineScriptCounts", apart := false }
def FnKindsLineScriptCountsSaid : Prop := fnKindsLineScriptCountsRow.holds Try.pinned (OpenSpec.ofChange fnKindsLineScriptCountsSpec)

/-- ITS FALSE NEIGHBOUR: 'it returns false'. Refute it at one input. -/
def fnKindsLineScriptCountsWrong : ChangeSpec := { name := "fnKindsLineScriptCounts", fn := fun _ => fun
  | [d] => { results := [.lit (.bool false)], args := [d] }
  | _ => none }
def FnKindsLineScriptCountsWrongFalsely : Prop := fnKindsLineScriptCountsRow.holds Try.pinned (OpenSpec.ofChange fnKindsLineScriptCountsWrong)

end Rows
end Go.Proofs.Qxb6601756a
