/-
  No cell of these rows narrows 'for every input' (looked for: loops, veiled, ifaces, maps, wideKeys, modest, calm, conditions, laid).
  DERIVED. THE GIVEN ROWS OF THIS SEAT. 6 by the template 'for every input the law returns true; each argument reads behind the call as it read before'; 0 by the template 'total and deterministic' (their statements: Qxb6002383aTotals.lean).
  GIVEN WITH THE SEED: the statements are not yours to turn. If you find one false, say at which input.
  Laid BY PROGRAM, IN A SANDBOX (cutbox-rows.mjs): the forced cells as the released guide's own fill.sh prints them over the translation 6686959191ebfd57… (all of the seat's roots in one cut). By AI agents, Wed Nov 11 2026. No macro, syntax, notation, axiom, sorry.
-/
import Derived.Test.Qxb6002383aChecked
import GoSem.Claim
import GoSem.ClaimJoined
import GoSem.ClaimMapViews
import Derived.JoinedTies
import Derived.KernelRfl
namespace Go.Proofs.Qxb6002383a
/- THE CELL 'sum', in the pinned program and in every row, IS THE sha256 OF THE DUMP (.gsa) THAT Qxb6002383aProg.lean LOADS. Nothing in Lean hashes anything: it is a label: what it is worth is what the hold of that sum in a sandbox is worth. -/
noncomputable def Try.pinned : Pinned := { name := "qxb6002383a", sum := "6686959191ebfd577c389e344d1cddf9edb124429170492f9d9082db3db7d0de", checked := Try.checked }
namespace Rows
def none {H : Type} : Left H := { results := [], args := [] }

/-- 'zzlaws_pkg_instructions_f1.FnPaidJoinCommutes': WHATEVER THE INPUT: true; the input reads as it did. -/
def fnPaidJoinCommutesSpec : ChangeSpec := { name := "fnPaidJoinCommutes", fn := fun _ => fun
  | [d1, d2, d3] => { results := [.lit (.bool true)], args := [d1, d2, d3] }
  | _ => none }
def fnPaidJoinCommutesRow : OpenClaim := { program := "qxb6002383a", sum := "6686959191ebfd577c389e344d1cddf9edb124429170492f9d9082db3db7d0de", func := "example.com/tuoguan/tuoguan/zzlaws_pkg_instructions_f1.FnPaidJoinCommutes", spec := "fnPaidJoinCommutes", apart := false }
def FnPaidJoinCommutesSaid : Prop := fnPaidJoinCommutesRow.holds Try.pinned (OpenSpec.ofChange fnPaidJoinCommutesSpec)

/-- ITS FALSE NEIGHBOUR: 'it returns false'. Refute it at one input. -/
def fnPaidJoinCommutesWrong : ChangeSpec := { name := "fnPaidJoinCommutes", fn := fun _ => fun
  | [d1, d2, d3] => { results := [.lit (.bool false)], args := [d1, d2, d3] }
  | _ => none }
def FnPaidJoinCommutesWrongFalsely : Prop := fnPaidJoinCommutesRow.holds Try.pinned (OpenSpec.ofChange fnPaidJoinCommutesWrong)

/-- 'zzlaws_pkg_instructions_f1.FnPaidJoinAssociates': WHATEVER THE INPUT: true; the input reads as it did. -/
def fnPaidJoinAssociatesSpec : ChangeSpec := { name := "fnPaidJoinAssociates", fn := fun _ => fun
  | [d1, d2, d3, d4] => { results := [.lit (.bool true)], args := [d1, d2, d3, d4] }
  | _ => none }
def fnPaidJoinAssociatesRow : OpenClaim := { program := "qxb6002383a", sum := "6686959191ebfd577c389e344d1cddf9edb124429170492f9d9082db3db7d0de", func := "example.com/tuoguan/tuoguan/zzlaws_pkg_instructions_f1.FnPaidJoinAssociates", spec := "fnPaidJoinAssociates", apart := false }
def FnPaidJoinAssociatesSaid : Prop := fnPaidJoinAssociatesRow.holds Try.pinned (OpenSpec.ofChange fnPaidJoinAssociatesSpec)

/-- ITS FALSE NEIGHBOUR: 'it returns false'. Refute it at one input. -/
def fnPaidJoinAssociatesWrong : ChangeSpec := { name := "fnPaidJoinAssociates", fn := fun _ => fun
  | [d1, d2, d3, d4] => { results := [.lit (.bool false)], args := [d1, d2, d3, d4] }
  | _ => none }
def FnPaidJoinAssociatesWrongFalsely : Prop := fnPaidJoinAssociatesRow.holds Try.pinned (OpenSpec.ofChange fnPaidJoinAssociatesWrong)

/-- 'zzlaws_pkg_instructions_f1.FnPaidJoinIdempotentAndZeroIsIdentity': WHATEVER THE INPUT: true; the input reads as it did. -/
def fnPaidJoinIdempotentAndZeroIsIdentitySpec : ChangeSpec := { name := "fnPaidJoinIdempotentAndZeroIsIdentity", fn := fun _ => fun
  | [d1, d2] => { results := [.lit (.bool true)], args := [d1, d2] }
  | _ => none }
def fnPaidJoinIdempotentAndZeroIsIdentityRow : OpenClaim := { program := "qxb6002383a", sum := "6686959191ebfd577c389e344d1cddf9edb124429170492f9d9082db3db7d0de", func := "example.com/tuoguan/tuoguan/zzlaws_pkg_instructions_f1.FnPaidJoinIdempotentAndZeroIsIdentity", spec := "fnPaidJoinIdempotentAndZeroIsIdentity", apart := false }
def FnPaidJoinIdempotentAndZeroIsIdentitySaid : Prop := fnPaidJoinIdempotentAndZeroIsIdentityRow.holds Try.pinned (OpenSpec.ofChange fnPaidJoinIdempotentAndZeroIsIdentitySpec)

/-- ITS FALSE NEIGHBOUR: 'it returns false'. Refute it at one input. -/
def fnPaidJoinIdempotentAndZeroIsIdentityWrong : ChangeSpec := { name := "fnPaidJoinIdempotentAndZeroIsIdentity", fn := fun _ => fun
  | [d1, d2] => { results := [.lit (.bool false)], args := [d1, d2] }
  | _ => none }
def FnPaidJoinIdempotentAndZeroIsIdentityWrongFalsely : Prop := fnPaidJoinIdempotentAndZeroIsIdentityRow.holds Try.pinned (OpenSpec.ofChange fnPaidJoinIdempotentAndZeroIsIdentityWrong)

/-- 'zzlaws_pkg_terms_f1.FnLineAtStepsAtEachBreak': WHATEVER THE INPUT: true; the input reads as it did. -/
def fnLineAtStepsAtEachBreakSpec : ChangeSpec := { name := "fnLineAtStepsAtEachBreak", fn := fun _ => fun
  | [d1, d2] => { results := [.lit (.bool true)], args := [d1, d2] }
  | _ => none }
def fnLineAtStepsAtEachBreakRow : OpenClaim := { program := "qxb6002383a", sum := "6686959191ebfd577c389e344d1cddf9edb124429170492f9d9082db3db7d0de", func := "example.com/tuoguan/tuoguan/zzlaws_pkg_terms_f1.FnLineAtStepsAtEachBreak", spec := "fnLineAtStepsAtEachBreak", inPlace := ["internal/bytealg.Count", "internal/bytealg.IndexByte", "internal/bytealg.Index"], named := ["internal/bytealg.MaxLen"], apart := false }
def FnLineAtStepsAtEachBreakSaid : Prop := fnLineAtStepsAtEachBreakRow.holds Try.pinned (OpenSpec.ofChange fnLineAtStepsAtEachBreakSpec)

/-- ITS FALSE NEIGHBOUR: 'it returns false'. Refute it at one input. -/
def fnLineAtStepsAtEachBreakWrong : ChangeSpec := { name := "fnLineAtStepsAtEachBreak", fn := fun _ => fun
  | [d1, d2] => { results := [.lit (.bool false)], args := [d1, d2] }
  | _ => none }
def FnLineAtStepsAtEachBreakWrongFalsely : Prop := fnLineAtStepsAtEachBreakRow.holds Try.pinned (OpenSpec.ofChange fnLineAtStepsAtEachBreakWrong)

/-- 'zzlaws_pkg_terms_f1.FnLineAtStartsAtOneAndRestsPastTheEnd': WHATEVER THE INPUT: true; the input reads as it did. -/
def fnLineAtStartsAtOneAndRestsPastTheEndSpec : ChangeSpec := { name := "fnLineAtStartsAtOneAndRestsPastTheEnd", fn := fun _ => fun
  | [d1, d2] => { results := [.lit (.bool true)], args := [d1, d2] }
  | _ => none }
def fnLineAtStartsAtOneAndRestsPastTheEndRow : OpenClaim := { program := "qxb6002383a", sum := "6686959191ebfd577c389e344d1cddf9edb124429170492f9d9082db3db7d0de", func := "example.com/tuoguan/tuoguan/zzlaws_pkg_terms_f1.FnLineAtStartsAtOneAndRestsPastTheEnd", spec := "fnLineAtStartsAtOneAndRestsPastTheEnd", inPlace := ["internal/bytealg.Count", "internal/bytealg.IndexByte", "internal/bytealg.Index"], named := ["internal/bytealg.MaxLen"], apart := false }
def FnLineAtStartsAtOneAndRestsPastTheEndSaid : Prop := fnLineAtStartsAtOneAndRestsPastTheEndRow.holds Try.pinned (OpenSpec.ofChange fnLineAtStartsAtOneAndRestsPastTheEndSpec)

/-- ITS FALSE NEIGHBOUR: 'it returns false'. Refute it at one input. -/
def fnLineAtStartsAtOneAndRestsPastTheEndWrong : ChangeSpec := { name := "fnLineAtStartsAtOneAndRestsPastTheEnd", fn := fun _ => fun
  | [d1, d2] => { results := [.lit (.bool false)], args := [d1, d2] }
  | _ => none }
def FnLineAtStartsAtOneAndRestsPastTheEndWrongFalsely : Prop := fnLineAtStartsAtOneAndRestsPastTheEndRow.holds Try.pinned (OpenSpec.ofChange fnLineAtStartsAtOneAndRestsPastTheEndWrong)

/-- 'zzlaws_pkg_terms_f1.FnLineAtAddsOverJoinedTexts': WHATEVER THE INPUT: true; the input reads as it did. -/
def fnLineAtAddsOverJoinedTextsSpec : ChangeSpec := { name := "fnLineAtAddsOverJoinedTexts", fn := fun _ => fun
  | [d1, d2] => { results := [.lit (.bool true)], args := [d1, d2] }
  | _ => none }
def fnLineAtAddsOverJoinedTextsRow : OpenClaim := { program := "qxb6002383a", sum := "6686959191ebfd577c389e344d1cddf9edb124429170492f9d9082db3db7d0de", func := "example.com/tuoguan/tuoguan/zzlaws_pkg_terms_f1.FnLineAtAddsOverJoinedTexts", spec := "fnLineAtAddsOverJoinedTexts", inPlace := ["internal/bytealg.Count", "internal/bytealg.IndexByte", "internal/bytealg.Index"], named := ["internal/bytealg.MaxLen"], apart := false }
def FnLineAtAddsOverJoinedTextsSaid : Prop := fnLineAtAddsOverJoinedTextsRow.holds Try.pinned (OpenSpec.ofChange fnLineAtAddsOverJoinedTextsSpec)

/-- ITS FALSE NEIGHBOUR: 'it returns false'. Refute it at one input. -/
def fnLineAtAddsOverJoinedTextsWrong : ChangeSpec := { name := "fnLineAtAddsOverJoinedTexts", fn := fun _ => fun
  | [d1, d2] => { results := [.lit (.bool false)], args := [d1, d2] }
  | _ => none }
def FnLineAtAddsOverJoinedTextsWrongFalsely : Prop := fnLineAtAddsOverJoinedTextsRow.holds Try.pinned (OpenSpec.ofChange fnLineAtAddsOverJoinedTextsWrong)

end Rows
end Go.Proofs.Qxb6002383a
