/-
  No cell of these rows narrows 'for every input' (looked for: loops, veiled, ifaces, maps, wideKeys, modest, calm, conditions, laid).
  DERIVED. THE GIVEN ROWS OF THIS SEAT. 3 by the template 'for every input the law returns true; each argument reads behind the call as it read before'; 0 by the template 'total and deterministic' (their statements: Qxb6600234aTotals.lean).
  GIVEN WITH THE SEED: the statements are not yours to turn. If you find one false, say at which input.
  Laid BY PROGRAM, IN A SANDBOX (cutbox-rows.mjs): the forced cells as the released guide's own fill.sh prints them over the translation 37fca411503ff7ef… (all of the seat's roots in one cut). By AI agents, Wed Nov 11 2026. No macro, syntax, notation, axiom, sorry.
-/
import Derived.Test.Qxb6600234aChecked
import GoSem.Claim
import GoSem.ClaimJoined
import GoSem.ClaimMapViews
import Derived.JoinedTies
import Derived.KernelRfl
namespace Go.Proofs.Qxb6600234a
/- THE CELL 'sum', in the pinned program and in every row, IS THE sha256 OF THE DUMP (.gsa) THAT Qxb6600234aProg.lean LOADS. Nothing in Lean hashes anything: it is a label: what it is worth is what the hold of that sum in a sandbox is worth. -/
noncomputable def Try.pinned : Pinned := { name := "qxb6600234a", sum := "37fca411503ff7ef0eac5ab5d46d8db8706ee80d77457c681415d5d0299a857f", checked := Try.checked }
namespace Rows
def none {H : Type} : Left H := { results := [], args := [] }

/-- 'zzlaws_root_b1.FnGlobMatchesAgreesWithWildcardDP': WHATEVER THE INPUT: true; the input reads as it did. -/
def fnGlobMatchesAgreesWithWildcardDPSpec : ChangeSpec := { name := "fnGlobMatchesAgreesWithWildcardDP", fn := fun _ => fun
  | [d1, d2] => { results := [.lit (.bool true)], args := [d1, d2] }
  | _ => none }
def fnGlobMatchesAgreesWithWildcardDPRow : OpenClaim := { program := "qxb6600234a", sum := "37fca411503ff7ef0eac5ab5d46d8db8706ee80d77457c681415d5d0299a857f", func := "example.com/roleward/roleward/zzlaws_root_b1.FnGlobMatchesAgreesWithWildcardDP", spec := "fnGlobMatchesAgreesWithWildcardDP", inPlace := ["internal/bytealg.IndexByteString", "internal/bytealg.IndexString"], named := ["internal/bytealg.MaxLen"], apart := false }
def FnGlobMatchesAgreesWithWildcardDPSaid : Prop := fnGlobMatchesAgreesWithWildcardDPRow.holds Try.pinned (OpenSpec.ofChange fnGlobMatchesAgreesWithWildcardDPSpec)

/-- ITS FALSE NEIGHBOUR: 'it returns false'. Refute it at one input. -/
def fnGlobMatchesAgreesWithWildcardDPWrong : ChangeSpec := { name := "fnGlobMatchesAgreesWithWildcardDP", fn := fun _ => fun
  | [d1, d2] => { results := [.lit (.bool false)], args := [d1, d2] }
  | _ => none }
def FnGlobMatchesAgreesWithWildcardDPWrongFalsely : Prop := fnGlobMatchesAgreesWithWildcardDPRow.holds Try.pinned (OpenSpec.ofChange fnGlobMatchesAgreesWithWildcardDPWrong)

/-- 'zzlaws_root_b1.FnGlobMatchesKeptWhenPieceSplit': WHATEVER THE INPUT: true; the input reads as it did. -/
def fnGlobMatchesKeptWhenPieceSplitSpec : ChangeSpec := { name := "fnGlobMatchesKeptWhenPieceSplit", fn := fun _ => fun
  | [d1, d2, d3, d4] => { results := [.lit (.bool true)], args := [d1, d2, d3, d4] }
  | _ => none }
def fnGlobMatchesKeptWhenPieceSplitRow : OpenClaim := { program := "qxb6600234a", sum := "37fca411503ff7ef0eac5ab5d46d8db8706ee80d77457c681415d5d0299a857f", func := "example.com/roleward/roleward/zzlaws_root_b1.FnGlobMatchesKeptWhenPieceSplit", spec := "fnGlobMatchesKeptWhenPieceSplit", inPlace := ["internal/bytealg.IndexByteString", "internal/bytealg.IndexString"], named := ["internal/bytealg.MaxLen"], apart := false }
def FnGlobMatchesKeptWhenPieceSplitSaid : Prop := fnGlobMatchesKeptWhenPieceSplitRow.holds Try.pinned (OpenSpec.ofChange fnGlobMatchesKeptWhenPieceSplitSpec)

/-- ITS FALSE NEIGHBOUR: 'it returns false'. Refute it at one input. -/
def fnGlobMatchesKeptWhenPieceSplitWrong : ChangeSpec := { name := "fnGlobMatchesKeptWhenPieceSplit", fn := fun _ => fun
  | [d1, d2, d3, d4] => { results := [.lit (.bool false)], args := [d1, d2, d3, d4] }
  | _ => none }
def FnGlobMatchesKeptWhenPieceSplitWrongFalsely : Prop := fnGlobMatchesKeptWhenPieceSplitRow.holds Try.pinned (OpenSpec.ofChange fnGlobMatchesKeptWhenPieceSplitWrong)

/-- 'zzlaws_root_b1.FnGlobMatchesDoubleStarSameAsStar': WHATEVER THE INPUT: true; the input reads as it did. -/
def fnGlobMatchesDoubleStarSameAsStarSpec : ChangeSpec := { name := "fnGlobMatchesDoubleStarSameAsStar", fn := fun _ => fun
  | [d1, d2, d3] => { results := [.lit (.bool true)], args := [d1, d2, d3] }
  | _ => none }
def fnGlobMatchesDoubleStarSameAsStarRow : OpenClaim := { program := "qxb6600234a", sum := "37fca411503ff7ef0eac5ab5d46d8db8706ee80d77457c681415d5d0299a857f", func := "example.com/roleward/roleward/zzlaws_root_b1.FnGlobMatchesDoubleStarSameAsStar", spec := "fnGlobMatchesDoubleStarSameAsStar", inPlace := ["internal/bytealg.IndexByteString", "internal/bytealg.IndexString"], named := ["internal/bytealg.MaxLen"], apart := false }
def FnGlobMatchesDoubleStarSameAsStarSaid : Prop := fnGlobMatchesDoubleStarSameAsStarRow.holds Try.pinned (OpenSpec.ofChange fnGlobMatchesDoubleStarSameAsStarSpec)

/-- ITS FALSE NEIGHBOUR: 'it returns false'. Refute it at one input. -/
def fnGlobMatchesDoubleStarSameAsStarWrong : ChangeSpec := { name := "fnGlobMatchesDoubleStarSameAsStar", fn := fun _ => fun
  | [d1, d2, d3] => { results := [.lit (.bool false)], args := [d1, d2, d3] }
  | _ => none }
def FnGlobMatchesDoubleStarSameAsStarWrongFalsely : Prop := fnGlobMatchesDoubleStarSameAsStarRow.holds Try.pinned (OpenSpec.ofChange fnGlobMatchesDoubleStarSameAsStarWrong)

end Rows
end Go.Proofs.Qxb6600234a
