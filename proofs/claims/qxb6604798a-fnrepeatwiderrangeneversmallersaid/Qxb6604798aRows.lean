/-
  No cell of these rows narrows 'for every input' (looked for: loops, veiled, ifaces, maps, wideKeys, modest, calm, conditions, laid).
  DERIVED. THE GIVEN ROWS OF THIS SEAT. 4 by the template 'for every input the law returns true; each argument reads behind the call as it read before'; 0 by the template 'total and deterministic' (their statements: Qxb6604798aTotals.lean).
  GIVEN WITH THE SEED: the statements are not yours to turn. If you find one false, say at which input.
  Laid BY PROGRAM, IN A SANDBOX (cutbox-rows.mjs): the forced cells as the released guide's own fill.sh prints them over the translation f2351803eee10eef… (all of the seat's roots in one cut). By AI agents, Wed Nov 11 2026. No macro, syntax, notation, axiom, sorry.
-/
import Derived.Test.Qxb6604798aChecked
import GoSem.Claim
import GoSem.ClaimJoined
import GoSem.ClaimMapViews
import Derived.JoinedTies
import Derived.KernelRfl
namespace Go.Proofs.Qxb6604798a
/- THE CELL 'sum', in the pinned program and in every row, IS THE sha256 OF THE DUMP (.gsa) THAT Qxb6604798aProg.lean LOADS. Nothing in Lean hashes anything: it is a label: what it is worth is what the hold of that sum in a sandbox is worth. -/
noncomputable def Try.pinned : Pinned := { name := "qxb6604798a", sum := "f2351803eee10eef870d12db6097fd05ff3b225e848a94c27a96ac90d07c1972", checked := Try.checked }
namespace Rows
def none {H : Type} : Left H := { results := [], args := [] }

/-- 'zzlaws_terminology_b1.FnRepeatKeepsSizeInvariant': WHATEVER THE INPUT: true; the input reads as it did. -/
def fnRepeatKeepsSizeInvariantSpec : ChangeSpec := { name := "fnRepeatKeepsSizeInvariant", fn := fun _ => fun
  | [d1, d2, d3, d4, d5, d6, d7, d8, d9, d10, d11] => { results := [.lit (.bool true)], args := [d1, d2, d3, d4, d5, d6, d7, d8, d9, d10, d11] }
  | _ => none }
def fnRepeatKeepsSizeInvariantRow : OpenClaim := { program := "qxb6604798a", sum := "f2351803eee10eef870d12db6097fd05ff3b225e848a94c27a96ac90d07c1972", func := "example.com/codeshelf/codeshelf/zzlaws_terminology_b1.FnRepeatKeepsSizeInvariant", spec := "fnRepeatKeepsSizeInvariant", apart := false }
def FnRepeatKeepsSizeInvariantSaid : Prop := fnRepeatKeepsSizeInvariantRow.holds Try.pinned (OpenSpec.ofChange fnRepeatKeepsSizeInvariantSpec)

/-- ITS FALSE NEIGHBOUR: 'it returns false'. Refute it at one input. -/
def fnRepeatKeepsSizeInvariantWrong : ChangeSpec := { name := "fnRepeatKeepsSizeInvariant", fn := fun _ => fun
  | [d1, d2, d3, d4, d5, d6, d7, d8, d9, d10, d11] => { results := [.lit (.bool false)], args := [d1, d2, d3, d4, d5, d6, d7, d8, d9, d10, d11] }
  | _ => none }
def FnRepeatKeepsSizeInvariantWrongFalsely : Prop := fnRepeatKeepsSizeInvariantRow.holds Try.pinned (OpenSpec.ofChange fnRepeatKeepsSizeInvariantWrong)

/-- 'zzlaws_terminology_b1.FnRepeatWiderRangeNeverSmaller': WHATEVER THE INPUT: true; the input reads as it did. -/
def fnRepeatWiderRangeNeverSmallerSpec : ChangeSpec := { name := "fnRepeatWiderRangeNeverSmaller", fn := fun _ => fun
  | [d1, d2, d3, d4, d5, d6, d7, d8] => { results := [.lit (.bool true)], args := [d1, d2, d3, d4, d5, d6, d7, d8] }
  | _ => none }
def fnRepeatWiderRangeNeverSmallerRow : OpenClaim := { program := "qxb6604798a", sum := "f2351803eee10eef870d12db6097fd05ff3b225e848a94c27a96ac90d07c1972", func := "example.com/codeshelf/codeshelf/zzlaws_terminology_b1.FnRepeatWiderRangeNeverSmaller", spec := "fnRepeatWiderRangeNeverSmaller", apart := false }
def FnRepeatWiderRangeNeverSmallerSaid : Prop := fnRepeatWiderRangeNeverSmallerRow.holds Try.pinned (OpenSpec.ofChange fnRepeatWiderRangeNeverSmallerSpec)

/-- ITS FALSE NEIGHBOUR: 'it returns false'. Refute it at one input. -/
def fnRepeatWiderRangeNeverSmallerWrong : ChangeSpec := { name := "fnRepeatWiderRangeNeverSmaller", fn := fun _ => fun
  | [d1, d2, d3, d4, d5, d6, d7, d8] => { results := [.lit (.bool false)], args := [d1, d2, d3, d4, d5, d6, d7, d8] }
  | _ => none }
def FnRepeatWiderRangeNeverSmallerWrongFalsely : Prop := fnRepeatWiderRangeNeverSmallerRow.holds Try.pinned (OpenSpec.ofChange fnRepeatWiderRangeNeverSmallerWrong)

/-- 'zzlaws_terminology_b1.FnOpenMatchesFlagModel': WHATEVER THE INPUT: true; the input reads as it did. -/
def fnOpenMatchesFlagModelSpec : ChangeSpec := { name := "fnOpenMatchesFlagModel", fn := fun _ => fun
  | [d1, d2, d3, d4, d5, d6, d7, d8, d9, d10, d11] => { results := [.lit (.bool true)], args := [d1, d2, d3, d4, d5, d6, d7, d8, d9, d10, d11] }
  | _ => none }
def fnOpenMatchesFlagModelRow : OpenClaim := { program := "qxb6604798a", sum := "f2351803eee10eef870d12db6097fd05ff3b225e848a94c27a96ac90d07c1972", func := "example.com/codeshelf/codeshelf/zzlaws_terminology_b1.FnOpenMatchesFlagModel", spec := "fnOpenMatchesFlagModel", inPlace := ["internal/bytealg.IndexByteString", "internal/bytealg.IndexString"], named := ["internal/bytealg.MaxLen"], apart := false }
def FnOpenMatchesFlagModelSaid : Prop := fnOpenMatchesFlagModelRow.holds Try.pinned (OpenSpec.ofChange fnOpenMatchesFlagModelSpec)

/-- ITS FALSE NEIGHBOUR: 'it returns false'. Refute it at one input. -/
def fnOpenMatchesFlagModelWrong : ChangeSpec := { name := "fnOpenMatchesFlagModel", fn := fun _ => fun
  | [d1, d2, d3, d4, d5, d6, d7, d8, d9, d10, d11] => { results := [.lit (.bool false)], args := [d1, d2, d3, d4, d5, d6, d7, d8, d9, d10, d11] }
  | _ => none }
def FnOpenMatchesFlagModelWrongFalsely : Prop := fnOpenMatchesFlagModelRow.holds Try.pinned (OpenSpec.ofChange fnOpenMatchesFlagModelWrong)

/-- 'zzlaws_terminology_b1.FnOpenKeepsReadingInvariants': WHATEVER THE INPUT: true; the input reads as it did. -/
def fnOpenKeepsReadingInvariantsSpec : ChangeSpec := { name := "fnOpenKeepsReadingInvariants", fn := fun _ => fun
  | [d1, d2, d3, d4, d5, d6, d7, d8, d9, d10, d11] => { results := [.lit (.bool true)], args := [d1, d2, d3, d4, d5, d6, d7, d8, d9, d10, d11] }
  | _ => none }
def fnOpenKeepsReadingInvariantsRow : OpenClaim := { program := "qxb6604798a", sum := "f2351803eee10eef870d12db6097fd05ff3b225e848a94c27a96ac90d07c1972", func := "example.com/codeshelf/codeshelf/zzlaws_terminology_b1.FnOpenKeepsReadingInvariants", spec := "fnOpenKeepsReadingInvariants", inPlace := ["internal/bytealg.IndexByteString", "internal/bytealg.IndexString"], named := ["internal/bytealg.MaxLen"], apart := false }
def FnOpenKeepsReadingInvariantsSaid : Prop := fnOpenKeepsReadingInvariantsRow.holds Try.pinned (OpenSpec.ofChange fnOpenKeepsReadingInvariantsSpec)

/-- ITS FALSE NEIGHBOUR: 'it returns false'. Refute it at one input. -/
def fnOpenKeepsReadingInvariantsWrong : ChangeSpec := { name := "fnOpenKeepsReadingInvariants", fn := fun _ => fun
  | [d1, d2, d3, d4, d5, d6, d7, d8, d9, d10, d11] => { results := [.lit (.bool false)], args := [d1, d2, d3, d4, d5, d6, d7, d8, d9, d10, d11] }
  | _ => none }
def FnOpenKeepsReadingInvariantsWrongFalsely : Prop := fnOpenKeepsReadingInvariantsRow.holds Try.pinned (OpenSpec.ofChange fnOpenKeepsReadingInvariantsWrong)

end Rows
end Go.Proofs.Qxb6604798a
