/-
  No cell of these rows narrows 'for every input' (looked for: loops, veiled, ifaces, maps, wideKeys, modest, calm, conditions, laid).
  DERIVED. THE GIVEN ROWS OF THIS SEAT. 4 by the template 'for every input the law returns true; each argument reads behind the call as it read before'; 0 by the template 'total and deterministic' (their statements: Qxb6604595aTotals.lean).
  GIVEN WITH THE SEED: the statements are not yours to turn. If you find one false, say at which input.
  Laid BY PROGRAM, IN A SANDBOX (cutbox-rows.mjs): the forced cells as the released guide's own fill.sh prints them over the translation b572f090f000144c… (all of the seat's roots in one cut). By AI agents, Wed Nov 11 2026. No macro, syntax, notation, axiom, sorry.
-/
import Derived.Test.Qxb6604595aChecked
import GoSem.Claim
import GoSem.ClaimJoined
import GoSem.ClaimMapViews
import Derived.JoinedTies
import Derived.KernelRfl
namespace Go.Proofs.Qxb6604595a
/- THE CELL 'sum', in the pinned program and in every row, IS THE sha256 OF THE DUMP (.gsa) THAT Qxb6604595aProg.lean LOADS. Nothing in Lean hashes anything: it is a label: what it is worth is what the hold of that sum in a sandbox is worth. -/
noncomputable def Try.pinned : Pinned := { name := "qxb6604595a", sum := "b572f090f000144caeb8cde35c59c1974005a35e389e2212f08ae524ee095247", checked := Try.checked }
namespace Rows
def none {H : Type} : Left H := { results := [], args := [] }

/-- 'zzlaws_pkg_store_b1.FnMulmodIsReflectedCastagnoliProduct': WHATEVER THE INPUT: true; the input reads as it did. -/
def fnMulmodIsReflectedCastagnoliProductSpec : ChangeSpec := { name := "fnMulmodIsReflectedCastagnoliProduct", fn := fun _ => fun
  | [d1, d2] => { results := [.lit (.bool true)], args := [d1, d2] }
  | _ => none }
def fnMulmodIsReflectedCastagnoliProductRow : OpenClaim := { program := "qxb6604595a", sum := "b572f090f000144caeb8cde35c59c1974005a35e389e2212f08ae524ee095247", func := "example.com/spanweave/spanweave/zzlaws_pkg_store_b1.FnMulmodIsReflectedCastagnoliProduct", spec := "fnMulmodIsReflectedCastagnoliProduct", apart := false }
def FnMulmodIsReflectedCastagnoliProductSaid : Prop := fnMulmodIsReflectedCastagnoliProductRow.holds Try.pinned (OpenSpec.ofChange fnMulmodIsReflectedCastagnoliProductSpec)

/-- ITS FALSE NEIGHBOUR: 'it returns false'. Refute it at one input. -/
def fnMulmodIsReflectedCastagnoliProductWrong : ChangeSpec := { name := "fnMulmodIsReflectedCastagnoliProduct", fn := fun _ => fun
  | [d1, d2] => { results := [.lit (.bool false)], args := [d1, d2] }
  | _ => none }
def FnMulmodIsReflectedCastagnoliProductWrongFalsely : Prop := fnMulmodIsReflectedCastagnoliProductRow.holds Try.pinned (OpenSpec.ofChange fnMulmodIsReflectedCastagnoliProductWrong)

/-- 'zzlaws_pkg_store_b1.FnMulmodIsCommutativeRingProductWithUnit': WHATEVER THE INPUT: true; the input reads as it did. -/
def fnMulmodIsCommutativeRingProductWithUnitSpec : ChangeSpec := { name := "fnMulmodIsCommutativeRingProductWithUnit", fn := fun _ => fun
  | [d1, d2, d3] => { results := [.lit (.bool true)], args := [d1, d2, d3] }
  | _ => none }
def fnMulmodIsCommutativeRingProductWithUnitRow : OpenClaim := { program := "qxb6604595a", sum := "b572f090f000144caeb8cde35c59c1974005a35e389e2212f08ae524ee095247", func := "example.com/spanweave/spanweave/zzlaws_pkg_store_b1.FnMulmodIsCommutativeRingProductWithUnit", spec := "fnMulmodIsCommutativeRingProductWithUnit", apart := false }
def FnMulmodIsCommutativeRingProductWithUnitSaid : Prop := fnMulmodIsCommutativeRingProductWithUnitRow.holds Try.pinned (OpenSpec.ofChange fnMulmodIsCommutativeRingProductWithUnitSpec)

/-- ITS FALSE NEIGHBOUR: 'it returns false'. Refute it at one input. -/
def fnMulmodIsCommutativeRingProductWithUnitWrong : ChangeSpec := { name := "fnMulmodIsCommutativeRingProductWithUnit", fn := fun _ => fun
  | [d1, d2, d3] => { results := [.lit (.bool false)], args := [d1, d2, d3] }
  | _ => none }
def FnMulmodIsCommutativeRingProductWithUnitWrongFalsely : Prop := fnMulmodIsCommutativeRingProductWithUnitRow.holds Try.pinned (OpenSpec.ofChange fnMulmodIsCommutativeRingProductWithUnitWrong)

/-- 'zzlaws_pkg_store_b1.FnSegmentFindsExactlyTheStoredId': WHATEVER THE INPUT: true; the input reads as it did. -/
def fnSegmentFindsExactlyTheStoredIdSpec : ChangeSpec := { name := "fnSegmentFindsExactlyTheStoredId", fn := fun _ => fun
  | [d1, d2] => { results := [.lit (.bool true)], args := [d1, d2] }
  | _ => none }
def fnSegmentFindsExactlyTheStoredIdRow : OpenClaim := { program := "qxb6604595a", sum := "b572f090f000144caeb8cde35c59c1974005a35e389e2212f08ae524ee095247", func := "example.com/spanweave/spanweave/zzlaws_pkg_store_b1.FnSegmentFindsExactlyTheStoredId", spec := "fnSegmentFindsExactlyTheStoredId", unfollowed := true, recurses := true, apart := false }
def FnSegmentFindsExactlyTheStoredIdSaid : Prop := fnSegmentFindsExactlyTheStoredIdRow.holds Try.pinned (OpenSpec.ofChange fnSegmentFindsExactlyTheStoredIdSpec)

/-- ITS FALSE NEIGHBOUR: 'it returns false'. Refute it at one input. -/
def fnSegmentFindsExactlyTheStoredIdWrong : ChangeSpec := { name := "fnSegmentFindsExactlyTheStoredId", fn := fun _ => fun
  | [d1, d2] => { results := [.lit (.bool false)], args := [d1, d2] }
  | _ => none }
def FnSegmentFindsExactlyTheStoredIdWrongFalsely : Prop := fnSegmentFindsExactlyTheStoredIdRow.holds Try.pinned (OpenSpec.ofChange fnSegmentFindsExactlyTheStoredIdWrong)

/-- 'zzlaws_pkg_store_b1.FnSegmentResolvesEveryStoredIdAndNoNeighbour': WHATEVER THE INPUT: true; the input reads as it did. -/
def fnSegmentResolvesEveryStoredIdAndNoNeighbourSpec : ChangeSpec := { name := "fnSegmentResolvesEveryStoredIdAndNoNeighbour", fn := fun _ => fun
  | [d] => { results := [.lit (.bool true)], args := [d] }
  | _ => none }
def fnSegmentResolvesEveryStoredIdAndNoNeighbourRow : OpenClaim := { program := "qxb6604595a", sum := "b572f090f000144caeb8cde35c59c1974005a35e389e2212f08ae524ee095247", func := "example.com/spanweave/spanweave/zzlaws_pkg_store_b1.FnSegmentResolvesEveryStoredIdAndNoNeighbour", spec := "fnSegmentResolvesEveryStoredIdAndNoNeighbour", unfollowed := true, recurses := true, apart := false }
def FnSegmentResolvesEveryStoredIdAndNoNeighbourSaid : Prop := fnSegmentResolvesEveryStoredIdAndNoNeighbourRow.holds Try.pinned (OpenSpec.ofChange fnSegmentResolvesEveryStoredIdAndNoNeighbourSpec)

/-- ITS FALSE NEIGHBOUR: 'it returns false'. Refute it at one input. -/
def fnSegmentResolvesEveryStoredIdAndNoNeighbourWrong : ChangeSpec := { name := "fnSegmentResolvesEveryStoredIdAndNoNeighbour", fn := fun _ => fun
  | [d] => { results := [.lit (.bool false)], args := [d] }
  | _ => none }
def FnSegmentResolvesEveryStoredIdAndNoNeighbourWrongFalsely : Prop := fnSegmentResolvesEveryStoredIdAndNoNeighbourRow.holds Try.pinned (OpenSpec.ofChange fnSegmentResolvesEveryStoredIdAndNoNeighbourWrong)

end Rows
end Go.Proofs.Qxb6604595a
