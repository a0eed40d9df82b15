/-
  No cell of these rows narrows 'for every input' (looked for: loops, veiled, ifaces, maps, wideKeys, modest, calm, conditions, laid).
  DERIVED. THE GIVEN ROWS OF THIS SEAT. 3 by the template 'for every input the law returns true; each argument reads behind the call as it read before'; 0 by the template 'total and deterministic' (their statements: Qxb6601260aTotals.lean).
  GIVEN WITH THE SEED: the statements are not yours to turn. If you find one false, say at which input.
  Laid BY PROGRAM, IN A SANDBOX (cutbox-rows.mjs): the forced cells as the released guide's own fill.sh prints them over the translation 27eb277d35e0effc… (all of the seat's roots in one cut). By AI agents, Wed Nov 11 2026. No macro, syntax, notation, axiom, sorry.
-/
import Derived.Test.Qxb6601260aChecked
import GoSem.Claim
import GoSem.ClaimJoined
import GoSem.ClaimMapViews
import Derived.JoinedTies
import Derived.KernelRfl
namespace Go.Proofs.Qxb6601260a
/- THE CELL 'sum', in the pinned program and in every row, IS THE sha256 OF THE DUMP (.gsa) THAT Qxb6601260aProg.lean LOADS. Nothing in Lean hashes anything: it is a label: what it is worth is what the hold of that sum in a sandbox is worth. -/
noncomputable def Try.pinned : Pinned := { name := "qxb6601260a", sum := "27eb277d35e0effc9d29a6e14413423e257931c7b2340f55491b3605500f0ca2", checked := Try.checked }
namespace Rows
def none {H : Type} : Left H := { results := [], args := [] }

/-- 'zzlaws_root_b1.FnUtf16UnitMatchesHexModel': WHATEVER THE INPUT: true; the input reads as it did. -/
def fnUtf16UnitMatchesHexModelSpec : ChangeSpec := { name := "fnUtf16UnitMatchesHexModel", fn := fun _ => fun
  | [d] => { results := [.lit (.bool true)], args := [d] }
  | _ => none }
def fnUtf16UnitMatchesHexModelRow : OpenClaim := { program := "qxb6601260a", sum := "27eb277d35e0effc9d29a6e14413423e257931c7b2340f55491b3605500f0ca2", func := "example.com/urn3/urn3/zzlaws_root_b1.FnUtf16UnitMatchesHexModel", spec := "fnUtf16UnitMatchesHexModel", apart := false }
def FnUtf16UnitMatchesHexModelSaid : Prop := fnUtf16UnitMatchesHexModelRow.holds Try.pinned (OpenSpec.ofChange fnUtf16UnitMatchesHexModelSpec)

/-- ITS FALSE NEIGHBOUR: 'it returns false'. Refute it at one input. -/
def fnUtf16UnitMatchesHexModelWrong : ChangeSpec := { name := "fnUtf16UnitMatchesHexModel", fn := fun _ => fun
  | [d] => { results := [.lit (.bool false)], args := [d] }
  | _ => none }
def FnUtf16UnitMatchesHexModelWrongFalsely : Prop := fnUtf16UnitMatchesHexModelRow.holds Try.pinned (OpenSpec.ofChange fnUtf16UnitMatchesHexModelWrong)

/-- 'zzlaws_root_b1.FnUtf16UnitInvertsHexEscape': WHATEVER THE INPUT: true; the input reads as it did. -/
def fnUtf16UnitInvertsHexEscapeSpec : ChangeSpec := { name := "fnUtf16UnitInvertsHexEscape", fn := fun _ => fun
  | [d1, d2, d3] => { results := [.lit (.bool true)], args := [d1, d2, d3] }
  | _ => none }
def fnUtf16UnitInvertsHexEscapeRow : OpenClaim := { program := "qxb6601260a", sum := "27eb277d35e0effc9d29a6e14413423e257931c7b2340f55491b3605500f0ca2", func := "example.com/urn3/urn3/zzlaws_root_b1.FnUtf16UnitInvertsHexEscape", spec := "fnUtf16UnitInvertsHexEscape", apart := false }
def FnUtf16UnitInvertsHexEscapeSaid : Prop := fnUtf16UnitInvertsHexEscapeRow.holds Try.pinned (OpenSpec.ofChange fnUtf16UnitInvertsHexEscapeSpec)

/-- ITS FALSE NEIGHBOUR: 'it returns false'. Refute it at one input. -/
def fnUtf16UnitInvertsHexEscapeWrong : ChangeSpec := { name := "fnUtf16UnitInvertsHexEscape", fn := fun _ => fun
  | [d1, d2, d3] => { results := [.lit (.bool false)], args := [d1, d2, d3] }
  | _ => none }
def FnUtf16UnitInvertsHexEscapeWrongFalsely : Prop := fnUtf16UnitInvertsHexEscapeRow.holds Try.pinned (OpenSpec.ofChange fnUtf16UnitInvertsHexEscapeWrong)

/-- 'zzlaws_root_b1.FnUtf16UnitReadsSixBytesOnly': WHATEVER THE INPUT: true; the input reads as it did. -/
def fnUtf16UnitReadsSixBytesOnlySpec : ChangeSpec := { name := "fnUtf16UnitReadsSixBytesOnly", fn := fun _ => fun
  | [d1, d2] => { results := [.lit (.bool true)], args := [d1, d2] }
  | _ => none }
def fnUtf16UnitReadsSixBytesOnlyRow : OpenClaim := { program := "qxb6601260a", sum := "27eb277d35e0effc9d29a6e14413423e257931c7b2340f55491b3605500f0ca2", func := "example.com/urn3/urn3/zzlaws_root_b1.FnUtf16UnitReadsSixBytesOnly", spec := "fnUtf16UnitReadsSixBytesOnly", apart := false }
def FnUtf16UnitReadsSixBytesOnlySaid : Prop := fnUtf16UnitReadsSixBytesOnlyRow.holds Try.pinned (OpenSpec.ofChange fnUtf16UnitReadsSixBytesOnlySpec)

/-- ITS FALSE NEIGHBOUR: 'it returns false'. Refute it at one input. -/
def fnUtf16UnitReadsSixBytesOnlyWrong : ChangeSpec := { name := "fnUtf16UnitReadsSixBytesOnly", fn := fun _ => fun
  | [d1, d2] => { results := [.lit (.bool false)], args := [d1, d2] }
  | _ => none }
def FnUtf16UnitReadsSixBytesOnlyWrongFalsely : Prop := fnUtf16UnitReadsSixBytesOnlyRow.holds Try.pinned (OpenSpec.ofChange fnUtf16UnitReadsSixBytesOnlyWrong)

end Rows
end Go.Proofs.Qxb6601260a
