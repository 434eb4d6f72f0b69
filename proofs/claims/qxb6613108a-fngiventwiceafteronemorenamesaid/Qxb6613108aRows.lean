/-
  No cell of these rows narrows 'for every input' (looked for: loops, veiled, ifaces, maps, wideKeys, modest, calm, conditions, laid).
  DERIVED. THE GIVEN ROWS OF THIS SEAT. 3 by the template 'for every input the law returns true; each argument reads behind the call as it read before'; 0 by the template 'total and deterministic' (their statements: Qxb6613108aTotals.lean).
  GIVEN WITH THE SEED: the statements are not yours to turn. If you find one false, say at which input.
  Laid BY PROGRAM, IN A SANDBOX (cutbox-rows.mjs): the forced cells as the released guide's own fill.sh prints them over the translation 57409b81dff7eb4c… (all of the seat's roots in one cut). By AI agents, Wed Nov 11 2026. No macro, syntax, notation, axiom, sorry.
-/
import Derived.Test.Qxb6613108aChecked
import GoSem.Claim
import GoSem.ClaimJoined
import GoSem.ClaimMapViews
import Derived.JoinedTies
import Derived.KernelRfl
namespace Go.Proofs.Qxb6613108a
/- THE CELL 'sum', in the pinned program and in every row, IS THE sha256 OF THE DUMP (.gsa) THAT Qxb6613108aProg.lean LOADS. Nothing in Lean hashes anything: it is a label: what it is worth is what the hold of that sum in a sandbox is worth. -/
noncomputable def Try.pinned : Pinned := { name := "qxb6613108a", sum := "57409b81dff7eb4c0ba3bad00851d50241dc5c032dd0dc4df6f0aaa77de82d91", checked := Try.checked }
namespace Rows
def none {H : Type} : Left H := { results := [], args := [] }

/-- 'zzlaws_root_b1.FnUnitsAddMatchesLimbSum': WHATEVER THE INPUT: true; the input reads as it did. -/
def fnUnitsAddMatchesLimbSumSpec : ChangeSpec := { name := "fnUnitsAddMatchesLimbSum", fn := fun _ => fun
  | [d1, d2, d3, d4] => { results := [.lit (.bool true)], args := [d1, d2, d3, d4] }
  | _ => none }
def fnUnitsAddMatchesLimbSumRow : OpenClaim := { program := "qxb6613108a", sum := "57409b81dff7eb4c0ba3bad00851d50241dc5c032dd0dc4df6f0aaa77de82d91", func := "example.com/apportion/apportion/zzlaws_root_b1.FnUnitsAddMatchesLimbSum", spec := "fnUnitsAddMatchesLimbSum", inPlace := ["math/bits.Add64"], apart := false }
def FnUnitsAddMatchesLimbSumSaid : Prop := fnUnitsAddMatchesLimbSumRow.holds Try.pinned (OpenSpec.ofChange fnUnitsAddMatchesLimbSumSpec)

/-- ITS FALSE NEIGHBOUR: 'it returns false'. Refute it at one input. -/
def fnUnitsAddMatchesLimbSumWrong : ChangeSpec := { name := "fnUnitsAddMatchesLimbSum", fn := fun _ => fun
  | [d1, d2, d3, d4] => { results := [.lit (.bool false)], args := [d1, d2, d3, d4] }
  | _ => none }
def FnUnitsAddMatchesLimbSumWrongFalsely : Prop := fnUnitsAddMatchesLimbSumRow.holds Try.pinned (OpenSpec.ofChange fnUnitsAddMatchesLimbSumWrong)

/-- 'zzlaws_root_b1.FnUnitsAddRepeatedIsMultiple': WHATEVER THE INPUT: true; the input reads as it did. -/
def fnUnitsAddRepeatedIsMultipleSpec : ChangeSpec := { name := "fnUnitsAddRepeatedIsMultiple", fn := fun _ => fun
  | [d1, d2, d3] => { results := [.lit (.bool true)], args := [d1, d2, d3] }
  | _ => none }
def fnUnitsAddRepeatedIsMultipleRow : OpenClaim := { program := "qxb6613108a", sum := "57409b81dff7eb4c0ba3bad00851d50241dc5c032dd0dc4df6f0aaa77de82d91", func := "example.com/apportion/apportion/zzlaws_root_b1.FnUnitsAddRepeatedIsMultiple", spec := "fnUnitsAddRepeatedIsMultiple", inPlace := ["math/bits.Add64"], apart := false }
def FnUnitsAddRepeatedIsMultipleSaid : Prop := fnUnitsAddRepeatedIsMultipleRow.holds Try.pinned (OpenSpec.ofChange fnUnitsAddRepeatedIsMultipleSpec)

/-- ITS FALSE NEIGHBOUR: 'it returns false'. Refute it at one input. -/
def fnUnitsAddRepeatedIsMultipleWrong : ChangeSpec := { name := "fnUnitsAddRepeatedIsMultiple", fn := fun _ => fun
  | [d1, d2, d3] => { results := [.lit (.bool false)], args := [d1, d2, d3] }
  | _ => none }
def FnUnitsAddRepeatedIsMultipleWrongFalsely : Prop := fnUnitsAddRepeatedIsMultipleRow.holds Try.pinned (OpenSpec.ofChange fnUnitsAddRepeatedIsMultipleWrong)

/-- 'zzlaws_root_b1.FnGivenTwiceAfterOneMoreName': WHATEVER THE INPUT: true; the input reads as it did. -/
def fnGivenTwiceAfterOneMoreNameSpec : ChangeSpec := { name := "fnGivenTwiceAfterOneMoreName", fn := fun _ => fun
  | [d1, d2, d3, d4, d5] => { results := [.lit (.bool true)], args := [d1, d2, d3, d4, d5] }
  | _ => none }
def fnGivenTwiceAfterOneMoreNameRow : OpenClaim := { program := "qxb6613108a", sum := "57409b81dff7eb4c0ba3bad00851d50241dc5c032dd0dc4df6f0aaa77de82d91", func := "example.com/apportion/apportion/zzlaws_root_b1.FnGivenTwiceAfterOneMoreName", spec := "fnGivenTwiceAfterOneMoreName", apart := false }
def FnGivenTwiceAfterOneMoreNameSaid : Prop := fnGivenTwiceAfterOneMoreNameRow.holds Try.pinned (OpenSpec.ofChange fnGivenTwiceAfterOneMoreNameSpec)

/-- ITS FALSE NEIGHBOUR: 'it returns false'. Refute it at one input. -/
def fnGivenTwiceAfterOneMoreNameWrong : ChangeSpec := { name := "fnGivenTwiceAfterOneMoreName", fn := fun _ => fun
  | [d1, d2, d3, d4, d5] => { results := [.lit (.bool false)], args := [d1, d2, d3, d4, d5] }
  | _ => none }
def FnGivenTwiceAfterOneMoreNameWrongFalsely : Prop := fnGivenTwiceAfterOneMoreNameRow.holds Try.pinned (OpenSpec.ofChange fnGivenTwiceAfterOneMoreNameWrong)

end Rows
end Go.Proofs.Qxb6613108a
