/-
  No cell of these rows narrows 'for every input' (looked for: loops, veiled, ifaces, maps, wideKeys, modest, calm, conditions, laid).
  DERIVED. THE GIVEN ROWS OF THIS SEAT. 5 by the template 'for every input the law returns true; each argument reads behind the call as it read before'; 0 by the template 'total and deterministic' (their statements: Qxb6000644aTotals.lean).
  GIVEN WITH THE SEED: the statements are not yours to turn. If you find one false, say at which input.
  Laid BY PROGRAM, IN A SANDBOX (cutbox-rows.mjs): the forced cells as the released guide's own fill.sh prints them over the translation d19ca14e5d53b451… (all of the seat's roots in one cut). By AI agents, Wed Nov 11 2026. No macro, syntax, notation, axiom, sorry.
-/
import Derived.Test.Qxb6000644aChecked
import GoSem.Claim
import GoSem.ClaimJoined
import GoSem.ClaimMapViews
import Derived.JoinedTies
import Derived.KernelRfl
namespace Go.Proofs.Qxb6000644a
/- THE CELL 'sum', in the pinned program and in every row, IS THE sha256 OF THE DUMP (.gsa) THAT Qxb6000644aProg.lean LOADS. Nothing in Lean hashes anything: it is a label: what it is worth is what the hold of that sum in a sandbox is worth. -/
noncomputable def Try.pinned : Pinned := { name := "qxb6000644a", sum := "d19ca14e5d53b451b570a472fd94762540f561d331dfa56221b320ca2d7f7426", checked := Try.checked }
namespace Rows
def none {H : Type} : Left H := { results := [], args := [] }

/-- 'zzlaws_pkg_skill_b1.FnAheadSplits': WHATEVER THE INPUT: true; the input reads as it did. -/
def fnAheadSplitsSpec : ChangeSpec := { name := "fnAheadSplits", fn := fun _ => fun
  | [d1, d2, d3, d4, d5] => { results := [.lit (.bool true)], args := [d1, d2, d3, d4, d5] }
  | _ => none }
def fnAheadSplitsRow : OpenClaim := { program := "qxb6000644a", sum := "d19ca14e5d53b451b570a472fd94762540f561d331dfa56221b320ca2d7f7426", func := "example.com/pannier/pannier/zzlaws_pkg_skill_b1.FnAheadSplits", spec := "fnAheadSplits", apart := false }
def FnAheadSplitsSaid : Prop := fnAheadSplitsRow.holds Try.pinned (OpenSpec.ofChange fnAheadSplitsSpec)

/-- ITS FALSE NEIGHBOUR: 'it returns false'. Refute it at one input. -/
def fnAheadSplitsWrong : ChangeSpec := { name := "fnAheadSplits", fn := fun _ => fun
  | [d1, d2, d3, d4, d5] => { results := [.lit (.bool false)], args := [d1, d2, d3, d4, d5] }
  | _ => none }
def FnAheadSplitsWrongFalsely : Prop := fnAheadSplitsRow.holds Try.pinned (OpenSpec.ofChange fnAheadSplitsWrong)

/-- 'zzlaws_pkg_skill_b1.FnAheadReadsRawWithoutJoins': WHATEVER THE INPUT: true; the input reads as it did. -/
def fnAheadReadsRawWithoutJoinsSpec : ChangeSpec := { name := "fnAheadReadsRawWithoutJoins", fn := fun _ => fun
  | [d1, d2, d3, d4] => { results := [.lit (.bool true)], args := [d1, d2, d3, d4] }
  | _ => none }
def fnAheadReadsRawWithoutJoinsRow : OpenClaim := { program := "qxb6000644a", sum := "d19ca14e5d53b451b570a472fd94762540f561d331dfa56221b320ca2d7f7426", func := "example.com/pannier/pannier/zzlaws_pkg_skill_b1.FnAheadReadsRawWithoutJoins", spec := "fnAheadReadsRawWithoutJoins", apart := false }
def FnAheadReadsRawWithoutJoinsSaid : Prop := fnAheadReadsRawWithoutJoinsRow.holds Try.pinned (OpenSpec.ofChange fnAheadReadsRawWithoutJoinsSpec)

/-- ITS FALSE NEIGHBOUR: 'it returns false'. Refute it at one input. -/
def fnAheadReadsRawWithoutJoinsWrong : ChangeSpec := { name := "fnAheadReadsRawWithoutJoins", fn := fun _ => fun
  | [d1, d2, d3, d4] => { results := [.lit (.bool false)], args := [d1, d2, d3, d4] }
  | _ => none }
def FnAheadReadsRawWithoutJoinsWrongFalsely : Prop := fnAheadReadsRawWithoutJoinsRow.holds Try.pinned (OpenSpec.ofChange fnAheadReadsRawWithoutJoinsWrong)

/-- 'zzlaws_pkg_skill_b1.FnSplitFrontmatterRoundTrip': WHATEVER THE INPUT: true; the input reads as it did. -/
def fnSplitFrontmatterRoundTripSpec : ChangeSpec := { name := "fnSplitFrontmatterRoundTrip", fn := fun _ => fun
  | [d1, d2, d3] => { results := [.lit (.bool true)], args := [d1, d2, d3] }
  | _ => none }
def fnSplitFrontmatterRoundTripRow : OpenClaim := { program := "qxb6000644a", sum := "d19ca14e5d53b451b570a472fd94762540f561d331dfa56221b320ca2d7f7426", func := "example.com/pannier/pannier/zzlaws_pkg_skill_b1.FnSplitFrontmatterRoundTrip", spec := "fnSplitFrontmatterRoundTrip", inPlace := ["internal/bytealg.IndexByte", "internal/bytealg.Index"], unfollowed := true, recurses := true, named := ["internal/bytealg.MaxLen"], apart := false }
def FnSplitFrontmatterRoundTripSaid : Prop := fnSplitFrontmatterRoundTripRow.holds Try.pinned (OpenSpec.ofChange fnSplitFrontmatterRoundTripSpec)

/-- ITS FALSE NEIGHBOUR: 'it returns false'. Refute it at one input. -/
def fnSplitFrontmatterRoundTripWrong : ChangeSpec := { name := "fnSplitFrontmatterRoundTrip", fn := fun _ => fun
  | [d1, d2, d3] => { results := [.lit (.bool false)], args := [d1, d2, d3] }
  | _ => none }
def FnSplitFrontmatterRoundTripWrongFalsely : Prop := fnSplitFrontmatterRoundTripRow.holds Try.pinned (OpenSpec.ofChange fnSplitFrontmatterRoundTripWrong)

/-- 'zzlaws_pkg_skill_b1.FnSplitFrontmatterKeepsLineNumbers': WHATEVER THE INPUT: true; the input reads as it did. -/
def fnSplitFrontmatterKeepsLineNumbersSpec : ChangeSpec := { name := "fnSplitFrontmatterKeepsLineNumbers", fn := fun _ => fun
  | [d] => { results := [.lit (.bool true)], args := [d] }
  | _ => none }
def fnSplitFrontmatterKeepsLineNumbersRow : OpenClaim := { program := "qxb6000644a", sum := "d19ca14e5d53b451b570a472fd94762540f561d331dfa56221b320ca2d7f7426", func := "example.com/pannier/pannier/zzlaws_pkg_skill_b1.FnSplitFrontmatterKeepsLineNumbers", spec := "fnSplitFrontmatterKeepsLineNumbers", inPlace := ["internal/bytealg.IndexByte", "internal/bytealg.Index"], unfollowed := true, recurses := true, named := ["internal/bytealg.MaxLen"], apart := false }
def FnSplitFrontmatterKeepsLineNumbersSaid : Prop := fnSplitFrontmatterKeepsLineNumbersRow.holds Try.pinned (OpenSpec.ofChange fnSplitFrontmatterKeepsLineNumbersSpec)

/-- ITS FALSE NEIGHBOUR: 'it returns false'. Refute it at one input. -/
def fnSplitFrontmatterKeepsLineNumbersWrong : ChangeSpec := { name := "fnSplitFrontmatterKeepsLineNumbers", fn := fun _ => fun
  | [d] => { results := [.lit (.bool false)], args := [d] }
  | _ => none }
def FnSplitFrontmatterKeepsLineNumbersWrongFalsely : Prop := fnSplitFrontmatterKeepsLineNumbersRow.holds Try.pinned (OpenSpec.ofChange fnSplitFrontmatterKeepsLineNumbersWrong)

/-- 'zzlaws_pkg_skill_b1.FnSplitFrontmatterRefusesExactly': WHATEVER THE INPUT: true; the input reads as it did. -/
def fnSplitFrontmatterRefusesExactlySpec : ChangeSpec := { name := "fnSplitFrontmatterRefusesExactly", fn := fun _ => fun
  | [d] => { results := [.lit (.bool true)], args := [d] }
  | _ => none }
def fnSplitFrontmatterRefusesExactlyRow : OpenClaim := { program := "qxb6000644a", sum := "d19ca14e5d53b451b570a472fd94762540f561d331dfa56221b320ca2d7f7426", func := "example.com/pannier/pannier/zzlaws_pkg_skill_b1.FnSplitFrontmatterRefusesExactly", spec := "fnSplitFrontmatterRefusesExactly", inPlace := ["internal/bytealg.IndexByte", "internal/bytealg.Index"], unfollowed := true, recurses := true, named := ["internal/bytealg.MaxLen"], apart := false }
def FnSplitFrontmatterRefusesExactlySaid : Prop := fnSplitFrontmatterRefusesExactlyRow.holds Try.pinned (OpenSpec.ofChange fnSplitFrontmatterRefusesExactlySpec)

/-- ITS FALSE NEIGHBOUR: 'it returns false'. Refute it at one input. -/
def fnSplitFrontmatterRefusesExactlyWrong : ChangeSpec := { name := "fnSplitFrontmatterRefusesExactly", fn := fun _ => fun
  | [d] => { results := [.lit (.bool false)], args := [d] }
  | _ => none }
def FnSplitFrontmatterRefusesExactlyWrongFalsely : Prop := fnSplitFrontmatterRefusesExactlyRow.holds Try.pinned (OpenSpec.ofChange fnSplitFrontmatterRefusesExactlyWrong)

end Rows
end Go.Proofs.Qxb6000644a
