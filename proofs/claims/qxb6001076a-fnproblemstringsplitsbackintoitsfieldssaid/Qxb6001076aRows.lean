/-
  No cell of these rows narrows 'for every input' (looked for: loops, veiled, ifaces, maps, wideKeys, modest, calm, conditions, laid).
  DERIVED. THE GIVEN ROWS OF THIS SEAT. 2 by the template 'for every input the law returns true; each argument reads behind the call as it read before'; 0 by the template 'total and deterministic' (their statements: Qxb6001076aTotals.lean).
  GIVEN WITH THE SEED: the statements are not yours to turn. If you find one false, say at which input.
  Laid BY PROGRAM, IN A SANDBOX (cutbox-rows.mjs): the forced cells as the released guide's own fill.sh prints them over the translation 6a0d51b37175006e… (all of the seat's roots in one cut). By AI agents, Wed Nov 11 2026. No macro, syntax, notation, axiom, sorry.
-/
import Derived.Test.Qxb6001076aChecked
import GoSem.Claim
import GoSem.ClaimJoined
import GoSem.ClaimMapViews
import Derived.JoinedTies
import Derived.KernelRfl
namespace Go.Proofs.Qxb6001076a
/- THE CELL 'sum', in the pinned program and in every row, IS THE sha256 OF THE DUMP (.gsa) THAT Qxb6001076aProg.lean LOADS. Nothing in Lean hashes anything: it is a label: what it is worth is what the hold of that sum in a sandbox is worth. -/
noncomputable def Try.pinned : Pinned := { name := "qxb6001076a", sum := "6a0d51b37175006e164e2025664ec1be054ae3b757d85242608b7609b404addc", checked := Try.checked }
namespace Rows
def none {H : Type} : Left H := { results := [], args := [] }

/-- 'zzlaws_config_b1.FnProblemStringSplitsBackIntoItsFields': WHATEVER THE INPUT: true; the input reads as it did. -/
def fnProblemStringSplitsBackIntoItsFieldsSpec : ChangeSpec := { name := "fnProblemStringSplitsBackIntoItsFields", fn := fun _ => fun
  | [d1, d2, d3] => { results := [.lit (.bool true)], args := [d1, d2, d3] }
  | _ => none }
def fnProblemStringSplitsBackIntoItsFieldsRow : OpenClaim := { program := "qxb6001076a", sum := "6a0d51b37175006e164e2025664ec1be054ae3b757d85242608b7609b404addc", func := "example.com/faircrest/faircrest/zzlaws_config_b1.FnProblemStringSplitsBackIntoItsFields", spec := "fnProblemStringSplitsBackIntoItsFields", inPlace := ["internal/abi.NoEscape", "internal/bytealg.MakeNoZero"], apart := false }
def FnProblemStringSplitsBackIntoItsFieldsSaid : Prop := fnProblemStringSplitsBackIntoItsFieldsRow.holds Try.pinned (OpenSpec.ofChange fnProblemStringSplitsBackIntoItsFieldsSpec)

/-- ITS FALSE NEIGHBOUR: 'it returns false'. Refute it at one input. -/
def fnProblemStringSplitsBackIntoItsFieldsWrong : ChangeSpec := { name := "fnProblemStringSplitsBackIntoItsFields", fn := fun _ => fun
  | [d1, d2, d3] => { results := [.lit (.bool false)], args := [d1, d2, d3] }
  | _ => none }
def FnProblemStringSplitsBackIntoItsFieldsWrongFalsely : Prop := fnProblemStringSplitsBackIntoItsFieldsRow.holds Try.pinned (OpenSpec.ofChange fnProblemStringSplitsBackIntoItsFieldsWrong)

/-- 'zzlaws_config_b1.FnProblemStringIgnoresEmptySlots': WHATEVER THE INPUT: true; the input reads as it did. -/
def fnProblemStringIgnoresEmptySlotsSpec : ChangeSpec := { name := "fnProblemStringIgnoresEmptySlots", fn := fun _ => fun
  | [d1, d2] => { results := [.lit (.bool true)], args := [d1, d2] }
  | _ => none }
def fnProblemStringIgnoresEmptySlotsRow : OpenClaim := { program := "qxb6001076a", sum := "6a0d51b37175006e164e2025664ec1be054ae3b757d85242608b7609b404addc", func := "example.com/faircrest/faircrest/zzlaws_config_b1.FnProblemStringIgnoresEmptySlots", spec := "fnProblemStringIgnoresEmptySlots", inPlace := ["internal/abi.NoEscape", "internal/bytealg.MakeNoZero"], apart := false }
def FnProblemStringIgnoresEmptySlotsSaid : Prop := fnProblemStringIgnoresEmptySlotsRow.holds Try.pinned (OpenSpec.ofChange fnProblemStringIgnoresEmptySlotsSpec)

/-- ITS FALSE NEIGHBOUR: 'it returns false'. Refute it at one input. -/
def fnProblemStringIgnoresEmptySlotsWrong : ChangeSpec := { name := "fnProblemStringIgnoresEmptySlots", fn := fun _ => fun
  | [d1, d2] => { results := [.lit (.bool false)], args := [d1, d2] }
  | _ => none }
def FnProblemStringIgnoresEmptySlotsWrongFalsely : Prop := fnProblemStringIgnoresEmptySlotsRow.holds Try.pinned (OpenSpec.ofChange fnProblemStringIgnoresEmptySlotsWrong)

end Rows
end Go.Proofs.Qxb6001076a
