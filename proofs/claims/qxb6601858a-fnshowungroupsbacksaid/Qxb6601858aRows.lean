/-
  No cell of these rows narrows 'for every input' (looked for: loops, veiled, ifaces, maps, wideKeys, modest, calm, conditions, laid).
  DERIVED. THE GIVEN ROWS OF THIS SEAT. 3 by the template 'for every input the law returns true; each argument reads behind the call as it read before'; 0 by the template 'total and deterministic' (their statements: Qxb6601858aTotals.lean).
  GIVEN WITH THE SEED: the statements are not yours to turn. If you find one false, say at which input.
  Laid BY PROGRAM, IN A SANDBOX (cutbox-rows.mjs): the forced cells as the released guide's own fill.sh prints them over the translation de067eccd064a67a… (all of the seat's roots in one cut). By AI agents, Wed Nov 11 2026. No macro, syntax, notation, axiom, sorry.
-/
import Derived.Test.Qxb6601858aChecked
import GoSem.Claim
import GoSem.ClaimJoined
import GoSem.ClaimMapViews
import Derived.JoinedTies
import Derived.KernelRfl
namespace Go.Proofs.Qxb6601858a
/- THE CELL 'sum', in the pinned program and in every row, IS THE sha256 OF THE DUMP (.gsa) THAT Qxb6601858aProg.lean LOADS. Nothing in Lean hashes anything: it is a label: what it is worth is what the hold of that sum in a sandbox is worth. -/
noncomputable def Try.pinned : Pinned := { name := "qxb6601858a", sum := "de067eccd064a67a2b0b201b3f9793b3d9210d1a4d2cfa9dc8e5ac769307938b", checked := Try.checked }
namespace Rows
def none {H : Type} : Left H := { results := [], args := [] }

/-- 'zzlaws_server_b1.FnShowMatchesChunking': WHATEVER THE INPUT: true; the input reads as it did. -/
def fnShowMatchesChunkingSpec : ChangeSpec := { name := "fnShowMatchesChunking", fn := fun _ => fun
  | [d1, d2, d3, d4, d5] => { results := [.lit (.bool true)], args := [d1, d2, d3, d4, d5] }
  | _ => none }
def fnShowMatchesChunkingRow : OpenClaim := { program := "qxb6601858a", sum := "de067eccd064a67a2b0b201b3f9793b3d9210d1a4d2cfa9dc8e5ac769307938b", func := "example.com/llave/llave/zzlaws_server_b1.FnShowMatchesChunking", spec := "fnShowMatchesChunking", inPlace := ["internal/abi.NoEscape", "internal/bytealg.MakeNoZero"], apart := false }
def FnShowMatchesChunkingSaid : Prop := fnShowMatchesChunkingRow.holds Try.pinned (OpenSpec.ofChange fnShowMatchesChunkingSpec)

/-- ITS FALSE NEIGHBOUR: 'it returns false'. Refute it at one input. -/
def fnShowMatchesChunkingWrong : ChangeSpec := { name := "fnShowMatchesChunking", fn := fun _ => fun
  | [d1, d2, d3, d4, d5] => { results := [.lit (.bool false)], args := [d1, d2, d3, d4, d5] }
  | _ => none }
def FnShowMatchesChunkingWrongFalsely : Prop := fnShowMatchesChunkingRow.holds Try.pinned (OpenSpec.ofChange fnShowMatchesChunkingWrong)

/-- 'zzlaws_server_b1.FnShowUngroupsBack': WHATEVER THE INPUT: true; the input reads as it did. -/
def fnShowUngroupsBackSpec : ChangeSpec := { name := "fnShowUngroupsBack", fn := fun _ => fun
  | [d1, d2, d3, d4, d5] => { results := [.lit (.bool true)], args := [d1, d2, d3, d4, d5] }
  | _ => none }
def fnShowUngroupsBackRow : OpenClaim := { program := "qxb6601858a", sum := "de067eccd064a67a2b0b201b3f9793b3d9210d1a4d2cfa9dc8e5ac769307938b", func := "example.com/llave/llave/zzlaws_server_b1.FnShowUngroupsBack", spec := "fnShowUngroupsBack", inPlace := ["internal/abi.NoEscape", "internal/bytealg.MakeNoZero"], apart := false }
def FnShowUngroupsBackSaid : Prop := fnShowUngroupsBackRow.holds Try.pinned (OpenSpec.ofChange fnShowUngroupsBackSpec)

/-- ITS FALSE NEIGHBOUR: 'it returns false'. Refute it at one input. -/
def fnShowUngroupsBackWrong : ChangeSpec := { name := "fnShowUngroupsBack", fn := fun _ => fun
  | [d1, d2, d3, d4, d5] => { results := [.lit (.bool false)], args := [d1, d2, d3, d4, d5] }
  | _ => none }
def FnShowUngroupsBackWrongFalsely : Prop := fnShowUngroupsBackRow.holds Try.pinned (OpenSpec.ofChange fnShowUngroupsBackWrong)

/-- 'zzlaws_server_b1.FnShowLengthClosedForm': WHATEVER THE INPUT: true; the input reads as it did. -/
def fnShowLengthClosedFormSpec : ChangeSpec := { name := "fnShowLengthClosedForm", fn := fun _ => fun
  | [d1, d2, d3, d4, d5] => { results := [.lit (.bool true)], args := [d1, d2, d3, d4, d5] }
  | _ => none }
def fnShowLengthClosedFormRow : OpenClaim := { program := "qxb6601858a", sum := "de067eccd064a67a2b0b201b3f9793b3d9210d1a4d2cfa9dc8e5ac769307938b", func := "example.com/llave/llave/zzlaws_server_b1.FnShowLengthClosedForm", spec := "fnShowLengthClosedForm", inPlace := ["internal/abi.NoEscape", "internal/bytealg.MakeNoZero"], apart := false }
def FnShowLengthClosedFormSaid : Prop := fnShowLengthClosedFormRow.holds Try.pinned (OpenSpec.ofChange fnShowLengthClosedFormSpec)

/-- ITS FALSE NEIGHBOUR: 'it returns false'. Refute it at one input. -/
def fnShowLengthClosedFormWrong : ChangeSpec := { name := "fnShowLengthClosedForm", fn := fun _ => fun
  | [d1, d2, d3, d4, d5] => { results := [.lit (.bool false)], args := [d1, d2, d3, d4, d5] }
  | _ => none }
def FnShowLengthClosedFormWrongFalsely : Prop := fnShowLengthClosedFormRow.holds Try.pinned (OpenSpec.ofChange fnShowLengthClosedFormWrong)

end Rows
end Go.Proofs.Qxb6601858a
