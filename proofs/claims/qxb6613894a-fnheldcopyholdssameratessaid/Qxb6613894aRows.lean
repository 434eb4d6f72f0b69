/-
  No cell of these rows narrows 'for every input' (looked for: loops, veiled, ifaces, maps, wideKeys, modest, calm, conditions, laid).
  DERIVED. THE GIVEN ROWS OF THIS SEAT. 3 by the template 'for every input the law returns true; each argument reads behind the call as it read before'; 0 by the template 'total and deterministic' (their statements: Qxb6613894aTotals.lean).
  GIVEN WITH THE SEED: the statements are not yours to turn. If you find one false, say at which input.
  Laid BY PROGRAM, IN A SANDBOX (cutbox-rows.mjs): the forced cells as the released guide's own fill.sh prints them over the translation 1e2079ecf8b1fc4c… (all of the seat's roots in one cut). By AI agents, Wed Nov 11 2026. No macro, syntax, notation, axiom, sorry.
-/
import Derived.Test.Qxb6613894aChecked
import GoSem.Claim
import GoSem.ClaimJoined
import GoSem.ClaimMapViews
import Derived.JoinedTies
import Derived.KernelRfl
namespace Go.Proofs.Qxb6613894a
/- THE CELL 'sum', in the pinned program and in every row, IS THE sha256 OF THE DUMP (.gsa) THAT Qxb6613894aProg.lean LOADS. Nothing in Lean hashes anything: it is a label: what it is worth is what the hold of that sum in a sandbox is worth. -/
noncomputable def Try.pinned : Pinned := { name := "qxb6613894a", sum := "1e2079ecf8b1fc4c42b1504a7f6ab05dfe0dd3954c16d55db5c336748b26f353", checked := Try.checked }
namespace Rows
def none {H : Type} : Left H := { results := [], args := [] }

/-- 'zzlaws_root_b1.FnHeldCopyHoldsSameRates': WHATEVER THE INPUT: true; the input reads as it did. -/
def fnHeldCopyHoldsSameRatesSpec : ChangeSpec := { name := "fnHeldCopyHoldsSameRates", fn := fun _ => fun
  | [d] => { results := [.lit (.bool true)], args := [d] }
  | _ => none }
def fnHeldCopyHoldsSameRatesRow : OpenClaim := { program := "qxb6613894a", sum := "1e2079ecf8b1fc4c42b1504a7f6ab05dfe0dd3954c16d55db5c336748b26f353", func := "example.com/ratelayer/ratelayer/zzlaws_root_b1.FnHeldCopyHoldsSameRates", spec := "fnHeldCopyHoldsSameRates", apart := false }
def FnHeldCopyHoldsSameRatesSaid : Prop := fnHeldCopyHoldsSameRatesRow.holds Try.pinned (OpenSpec.ofChange fnHeldCopyHoldsSameRatesSpec)

/-- ITS FALSE NEIGHBOUR: 'it returns false'. Refute it at one input. -/
def fnHeldCopyHoldsSameRatesWrong : ChangeSpec := { name := "fnHeldCopyHoldsSameRates", fn := fun _ => fun
  | [d] => { results := [.lit (.bool false)], args := [d] }
  | _ => none }
def FnHeldCopyHoldsSameRatesWrongFalsely : Prop := fnHeldCopyHoldsSameRatesRow.holds Try.pinned (OpenSpec.ofChange fnHeldCopyHoldsSameRatesWrong)

/-- 'zzlaws_root_b1.FnExtraGuestsAgainstUnusedPlaces': WHATEVER THE INPUT: true; the input reads as it did. -/
def fnExtraGuestsAgainstUnusedPlacesSpec : ChangeSpec := { name := "fnExtraGuestsAgainstUnusedPlaces", fn := fun _ => fun
  | [d1, d2, d3, d4, d5, d6, d7, d8] => { results := [.lit (.bool true)], args := [d1, d2, d3, d4, d5, d6, d7, d8] }
  | _ => none }
def fnExtraGuestsAgainstUnusedPlacesRow : OpenClaim := { program := "qxb6613894a", sum := "1e2079ecf8b1fc4c42b1504a7f6ab05dfe0dd3954c16d55db5c336748b26f353", func := "example.com/ratelayer/ratelayer/zzlaws_root_b1.FnExtraGuestsAgainstUnusedPlaces", spec := "fnExtraGuestsAgainstUnusedPlaces", apart := false }
def FnExtraGuestsAgainstUnusedPlacesSaid : Prop := fnExtraGuestsAgainstUnusedPlacesRow.holds Try.pinned (OpenSpec.ofChange fnExtraGuestsAgainstUnusedPlacesSpec)

/-- ITS FALSE NEIGHBOUR: 'it returns false'. Refute it at one input. -/
def fnExtraGuestsAgainstUnusedPlacesWrong : ChangeSpec := { name := "fnExtraGuestsAgainstUnusedPlaces", fn := fun _ => fun
  | [d1, d2, d3, d4, d5, d6, d7, d8] => { results := [.lit (.bool false)], args := [d1, d2, d3, d4, d5, d6, d7, d8] }
  | _ => none }
def FnExtraGuestsAgainstUnusedPlacesWrongFalsely : Prop := fnExtraGuestsAgainstUnusedPlacesRow.holds Try.pinned (OpenSpec.ofChange fnExtraGuestsAgainstUnusedPlacesWrong)

/-- 'zzlaws_root_b1.FnExtraGuestsOneMoreChild': WHATEVER THE INPUT: true; the input reads as it did. -/
def fnExtraGuestsOneMoreChildSpec : ChangeSpec := { name := "fnExtraGuestsOneMoreChild", fn := fun _ => fun
  | [d1, d2, d3, d4, d5, d6, d7, d8] => { results := [.lit (.bool true)], args := [d1, d2, d3, d4, d5, d6, d7, d8] }
  | _ => none }
def fnExtraGuestsOneMoreChildRow : OpenClaim := { program := "qxb6613894a", sum := "1e2079ecf8b1fc4c42b1504a7f6ab05dfe0dd3954c16d55db5c336748b26f353", func := "example.com/ratelayer/ratelayer/zzlaws_root_b1.FnExtraGuestsOneMoreChild", spec := "fnExtraGuestsOneMoreChild", apart := false }
def FnExtraGuestsOneMoreChildSaid : Prop := fnExtraGuestsOneMoreChildRow.holds Try.pinned (OpenSpec.ofChange fnExtraGuestsOneMoreChildSpec)

/-- ITS FALSE NEIGHBOUR: 'it returns false'. Refute it at one input. -/
def fnExtraGuestsOneMoreChildWrong : ChangeSpec := { name := "fnExtraGuestsOneMoreChild", fn := fun _ => fun
  | [d1, d2, d3, d4, d5, d6, d7, d8] => { results := [.lit (.bool false)], args := [d1, d2, d3, d4, d5, d6, d7, d8] }
  | _ => none }
def FnExtraGuestsOneMoreChildWrongFalsely : Prop := fnExtraGuestsOneMoreChildRow.holds Try.pinned (OpenSpec.ofChange fnExtraGuestsOneMoreChildWrong)

end Rows
end Go.Proofs.Qxb6613894a
