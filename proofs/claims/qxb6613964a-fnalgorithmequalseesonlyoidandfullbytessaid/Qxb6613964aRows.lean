/-
  No cell of these rows narrows 'for every input' (looked for: loops, veiled, ifaces, maps, wideKeys, modest, calm, conditions, laid).
  DERIVED. THE GIVEN ROWS OF THIS SEAT. 1 by the template 'for every input the law returns true; each argument reads behind the call as it read before'; 0 by the template 'total and deterministic' (their statements: Qxb6613964aTotals.lean).
  GIVEN WITH THE SEED: the statements are not yours to turn. If you find one false, say at which input.
  Laid BY PROGRAM, IN A SANDBOX (cutbox-rows.mjs): the forced cells as the released guide's own fill.sh prints them over the translation 721f494b59c06509… (all of the seat's roots in one cut). By AI agents, Wed Nov 11 2026. No macro, syntax, notation, axiom, sorry.
-/
import Derived.Test.Qxb6613964aChecked
import GoSem.Claim
import GoSem.ClaimJoined
import GoSem.ClaimMapViews
import Derived.JoinedTies
import Derived.KernelRfl
namespace Go.Proofs.Qxb6613964a
/- THE CELL 'sum', in the pinned program and in every row, IS THE sha256 OF THE DUMP (.gsa) THAT Qxb6613964aProg.lean LOADS. Nothing in Lean hashes anything: it is a label: what it is worth is what the hold of that sum in a sandbox is worth. -/
noncomputable def Try.pinned : Pinned := { name := "qxb6613964a", sum := "721f494b59c0650970ef6875a75d5d8f43c0f6fabb6d05b4d0c0fd263ab3d5b3", checked := Try.checked }
namespace Rows
def none {H : Type} : Left H := { results := [], args := [] }

/-- 'zzlaws_pkg_ct_b1.FnAlgorithmEqualSeesOnlyOIDAndFullBytes': WHATEVER THE INPUT: true; the input reads as it did. -/
def fnAlgorithmEqualSeesOnlyOIDAndFullBytesSpec : ChangeSpec := { name := "fnAlgorithmEqualSeesOnlyOIDAndFullBytes", fn := fun _ => fun
  | [d1, d2, d3, d4, d5, d6, d7, d8, d9, d10, d11, d12] => { results := [.lit (.bool true)], args := [d1, d2, d3, d4, d5, d6, d7, d8, d9, d10, d11, d12] }
  | _ => none }
def fnAlgorithmEqualSeesOnlyOIDAndFullBytesRow : OpenClaim := { program := "qxb6613964a", sum := "721f494b59c0650970ef6875a75d5d8f43c0f6fabb6d05b4d0c0fd263ab3d5b3", func := "example.com/loggia/loggia/zzlaws_pkg_ct_b1.FnAlgorithmEqualSeesOnlyOIDAndFullBytes", spec := "fnAlgorithmEqualSeesOnlyOIDAndFullBytes", apart := false }
def FnAlgorithmEqualSeesOnlyOIDAndFullBytesSaid : Prop := fnAlgorithmEqualSeesOnlyOIDAndFullBytesRow.holds Try.pinned (OpenSpec.ofChange fnAlgorithmEqualSeesOnlyOIDAndFullBytesSpec)

/-- ITS FALSE NEIGHBOUR: 'it returns false'. Refute it at one input. -/
def fnAlgorithmEqualSeesOnlyOIDAndFullBytesWrong : ChangeSpec := { name := "fnAlgorithmEqualSeesOnlyOIDAndFullBytes", fn := fun _ => fun
  | [d1, d2, d3, d4, d5, d6, d7, d8, d9, d10, d11, d12] => { results := [.lit (.bool false)], args := [d1, d2, d3, d4, d5, d6, d7, d8, d9, d10, d11, d12] }
  | _ => none }
def FnAlgorithmEqualSeesOnlyOIDAndFullBytesWrongFalsely : Prop := fnAlgorithmEqualSeesOnlyOIDAndFullBytesRow.holds Try.pinned (OpenSpec.ofChange fnAlgorithmEqualSeesOnlyOIDAndFullBytesWrong)

end Rows
end Go.Proofs.Qxb6613964a
