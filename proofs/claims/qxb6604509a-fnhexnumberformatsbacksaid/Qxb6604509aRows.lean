/-
  No cell of these rows narrows 'for every input' (looked for: loops, veiled, ifaces, maps, wideKeys, modest, calm, conditions, laid).
  DERIVED. THE GIVEN ROWS OF THIS SEAT. 4 by the template 'for every input the law returns true; each argument reads behind the call as it read before'; 0 by the template 'total and deterministic' (their statements: Qxb6604509aTotals.lean).
  GIVEN WITH THE SEED: the statements are not yours to turn. If you find one false, say at which input.
  Laid BY PROGRAM, IN A SANDBOX (cutbox-rows.mjs): the forced cells as the released guide's own fill.sh prints them over the translation 91d30fca19017621… (all of the seat's roots in one cut). By AI agents, Wed Nov 11 2026. No macro, syntax, notation, axiom, sorry.
-/
import Derived.Test.Qxb6604509aChecked
import GoSem.Claim
import GoSem.ClaimJoined
import GoSem.ClaimMapViews
import Derived.JoinedTies
import Derived.KernelRfl
namespace Go.Proofs.Qxb6604509a
/- THE CELL 'sum', in the pinned program and in every row, IS THE sha256 OF THE DUMP (.gsa) THAT Qxb6604509aProg.lean LOADS. Nothing in Lean hashes anything: it is a label: what it is worth is what the hold of that sum in a sandbox is worth. -/
noncomputable def Try.pinned : Pinned := { name := "qxb6604509a", sum := "91d30fca190176218b2c37860ac16de94db6173942e3e9a61dd401530ae0eda8", checked := Try.checked }
namespace Rows
def none {H : Type} : Left H := { results := [], args := [] }

/-- 'zzlaws_pkg_manifest_b1.FnJSONSpaceStopsAtFirstNonSpace': WHATEVER THE INPUT: true; the input reads as it did. -/
def fnJSONSpaceStopsAtFirstNonSpaceSpec : ChangeSpec := { name := "fnJSONSpaceStopsAtFirstNonSpace", fn := fun _ => fun
  | [d1, d2] => { results := [.lit (.bool true)], args := [d1, d2] }
  | _ => none }
def fnJSONSpaceStopsAtFirstNonSpaceRow : OpenClaim := { program := "qxb6604509a", sum := "91d30fca190176218b2c37860ac16de94db6173942e3e9a61dd401530ae0eda8", func := "example.com/claimwright/claimwright/zzlaws_pkg_manifest_b1.FnJSONSpaceStopsAtFirstNonSpace", spec := "fnJSONSpaceStopsAtFirstNonSpace", apart := false }
def FnJSONSpaceStopsAtFirstNonSpaceSaid : Prop := fnJSONSpaceStopsAtFirstNonSpaceRow.holds Try.pinned (OpenSpec.ofChange fnJSONSpaceStopsAtFirstNonSpaceSpec)

/-- ITS FALSE NEIGHBOUR: 'it returns false'. Refute it at one input. -/
def fnJSONSpaceStopsAtFirstNonSpaceWrong : ChangeSpec := { name := "fnJSONSpaceStopsAtFirstNonSpace", fn := fun _ => fun
  | [d1, d2] => { results := [.lit (.bool false)], args := [d1, d2] }
  | _ => none }
def FnJSONSpaceStopsAtFirstNonSpaceWrongFalsely : Prop := fnJSONSpaceStopsAtFirstNonSpaceRow.holds Try.pinned (OpenSpec.ofChange fnJSONSpaceStopsAtFirstNonSpaceWrong)

/-- 'zzlaws_pkg_manifest_b1.FnJSONSpaceShiftAndRestart': WHATEVER THE INPUT: true; the input reads as it did. -/
def fnJSONSpaceShiftAndRestartSpec : ChangeSpec := { name := "fnJSONSpaceShiftAndRestart", fn := fun _ => fun
  | [d1, d2] => { results := [.lit (.bool true)], args := [d1, d2] }
  | _ => none }
def fnJSONSpaceShiftAndRestartRow : OpenClaim := { program := "qxb6604509a", sum := "91d30fca190176218b2c37860ac16de94db6173942e3e9a61dd401530ae0eda8", func := "example.com/claimwright/claimwright/zzlaws_pkg_manifest_b1.FnJSONSpaceShiftAndRestart", spec := "fnJSONSpaceShiftAndRestart", apart := false }
def FnJSONSpaceShiftAndRestartSaid : Prop := fnJSONSpaceShiftAndRestartRow.holds Try.pinned (OpenSpec.ofChange fnJSONSpaceShiftAndRestartSpec)

/-- ITS FALSE NEIGHBOUR: 'it returns false'. Refute it at one input. -/
def fnJSONSpaceShiftAndRestartWrong : ChangeSpec := { name := "fnJSONSpaceShiftAndRestart", fn := fun _ => fun
  | [d1, d2] => { results := [.lit (.bool false)], args := [d1, d2] }
  | _ => none }
def FnJSONSpaceShiftAndRestartWrongFalsely : Prop := fnJSONSpaceShiftAndRestartRow.holds Try.pinned (OpenSpec.ofChange fnJSONSpaceShiftAndRestartWrong)

/-- 'zzlaws_pkg_manifest_b1.FnHexNumberMatchesPositional': WHATEVER THE INPUT: true; the input reads as it did. -/
def fnHexNumberMatchesPositionalSpec : ChangeSpec := { name := "fnHexNumberMatchesPositional", fn := fun _ => fun
  | [d1, d2] => { results := [.lit (.bool true)], args := [d1, d2] }
  | _ => none }
def fnHexNumberMatchesPositionalRow : OpenClaim := { program := "qxb6604509a", sum := "91d30fca190176218b2c37860ac16de94db6173942e3e9a61dd401530ae0eda8", func := "example.com/claimwright/claimwright/zzlaws_pkg_manifest_b1.FnHexNumberMatchesPositional", spec := "fnHexNumberMatchesPositional", apart := false }
def FnHexNumberMatchesPositionalSaid : Prop := fnHexNumberMatchesPositionalRow.holds Try.pinned (OpenSpec.ofChange fnHexNumberMatchesPositionalSpec)

/-- ITS FALSE NEIGHBOUR: 'it returns false'. Refute it at one input. -/
def fnHexNumberMatchesPositionalWrong : ChangeSpec := { name := "fnHexNumberMatchesPositional", fn := fun _ => fun
  | [d1, d2] => { results := [.lit (.bool false)], args := [d1, d2] }
  | _ => none }
def FnHexNumberMatchesPositionalWrongFalsely : Prop := fnHexNumberMatchesPositionalRow.holds Try.pinned (OpenSpec.ofChange fnHexNumberMatchesPositionalWrong)

/-- 'zzlaws_pkg_manifest_b1.FnHexNumberFormatsBack': WHATEVER THE INPUT: true; the input reads as it did. -/
def fnHexNumberFormatsBackSpec : ChangeSpec := { name := "fnHexNumberFormatsBack", fn := fun _ => fun
  | [d1, d2] => { results := [.lit (.bool true)], args := [d1, d2] }
  | _ => none }
def fnHexNumberFormatsBackRow : OpenClaim := { program := "qxb6604509a", sum := "91d30fca190176218b2c37860ac16de94db6173942e3e9a61dd401530ae0eda8", func := "example.com/claimwright/claimwright/zzlaws_pkg_manifest_b1.FnHexNumberFormatsBack", spec := "fnHexNumberFormatsBack", apart := false }
def FnHexNumberFormatsBackSaid : Prop := fnHexNumberFormatsBackRow.holds Try.pinned (OpenSpec.ofChange fnHexNumberFormatsBackSpec)

/-- ITS FALSE NEIGHBOUR: 'it returns false'. Refute it at one input. -/
def fnHexNumberFormatsBackWrong : ChangeSpec := { name := "fnHexNumberFormatsBack", fn := fun _ => fun
  | [d1, d2] => { results := [.lit (.bool false)], args := [d1, d2] }
  | _ => none }
def FnHexNumberFormatsBackWrongFalsely : Prop := fnHexNumberFormatsBackRow.holds Try.pinned (OpenSpec.ofChange fnHexNumberFormatsBackWrong)

end Rows
end Go.Proofs.Qxb6604509a
