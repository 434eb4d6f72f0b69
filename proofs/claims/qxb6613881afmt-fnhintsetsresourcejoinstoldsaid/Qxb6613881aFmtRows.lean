/-
  No cell of these rows narrows 'for every input' (looked for: loops, veiled, ifaces, maps, wideKeys, modest, calm, conditions, laid).
  DERIVED. THE GIVEN ROWS OF THIS SEAT. 2 by the template 'for every input the law returns true; each argument reads behind the call as it read before'; 0 by the template 'total and deterministic' (their statements: Qxb6613881aFmtTotals.lean).
  GIVEN WITH THE SEED: the statements are not yours to turn. If you find one false, say at which input.
  Laid BY PROGRAM, IN A SANDBOX (cutbox-rows.mjs): the forced cells as the released guide's own fill.sh prints them over the translation c1f7db11be41e9dc… (all of the seat's roots in one cut). By AI agents, Wed Nov 11 2026. No macro, syntax, notation, axiom, sorry.
-/
import Derived.Test.Qxb6613881aFmtChecked
import GoSem.Claim
import GoSem.ClaimJoined
import GoSem.ClaimMapViews
import Derived.JoinedTies
import Derived.KernelRfl
namespace Go.Proofs.Qxb6613881aFmt
/- THE CELL 'sum', in the pinned program and in every row, IS THE sha256 OF THE DUMP (.gsa) THAT Qxb6613881aFmtProg.lean LOADS. Nothing in Lean hashes anything: it is a label: what it is worth is what the hold of that sum in a sandbox is worth. -/
noncomputable def Tryf.pinned : Pinned := { name := "qxb6613881afmt", sum := "c1f7db11be41e9dc77479e107cad4adf8583ce86dde6fc4f6f57e5f2b7c7f012", checked := Tryf.checked }
namespace Rows
def none {H : Type} : Left H := { results := [], args := [] }

/-- 'zzlaws_root_b1.FnHintSetsResourceForgets': WHATEVER THE INPUT: true; the input reads as it did. -/
def fnHintSetsResourceForgetsSpec : ChangeSpec := { name := "fnHintSetsResourceForgets", fn := fun _ => fun
  | [d1, d2, d3, d4, d5] => { results := [.lit (.bool true)], args := [d1, d2, d3, d4, d5] }
  | _ => none }
def fnHintSetsResourceForgetsRow : OpenClaim := { program := "qxb6613881afmt", sum := "c1f7db11be41e9dc77479e107cad4adf8583ce86dde6fc4f6f57e5f2b7c7f012", func := "example.com/numalign/numalign/zzlaws_root_b1.FnHintSetsResourceForgets", spec := "fnHintSetsResourceForgets", stops := ["fmt.errorf"], inPlace := ["fmt.errorf"], unfollowed := true, recurses := true, apart := false }
/-- NO THEOREM (fmt's text is open here; it may be false): for the released tool's asking of the row's closed facts alone. THE STATEMENT IS 'FnHintSetsResourceForgetsToldSaid' (Qxb6613881aFmtCards.lean). -/
def FnHintSetsResourceForgetsFormAsk : Prop := fnHintSetsResourceForgetsRow.holds Tryf.pinned (OpenSpec.ofChange fnHintSetsResourceForgetsSpec)

/-- ITS FALSE NEIGHBOUR: 'it returns false'. Refute it at one input. -/
def fnHintSetsResourceForgetsWrong : ChangeSpec := { name := "fnHintSetsResourceForgets", fn := fun _ => fun
  | [d1, d2, d3, d4, d5] => { results := [.lit (.bool false)], args := [d1, d2, d3, d4, d5] }
  | _ => none }
def FnHintSetsResourceForgetsWrongFormAsk : Prop := fnHintSetsResourceForgetsRow.holds Tryf.pinned (OpenSpec.ofChange fnHintSetsResourceForgetsWrong)

/-- 'zzlaws_root_b1.FnHintSetsResourceJoins': WHATEVER THE INPUT: true; the input reads as it did. -/
def fnHintSetsResourceJoinsSpec : ChangeSpec := { name := "fnHintSetsResourceJoins", fn := fun _ => fun
  | [d1, d2, d3, d4, d5] => { results := [.lit (.bool true)], args := [d1, d2, d3, d4, d5] }
  | _ => none }
def fnHintSetsResourceJoinsRow : OpenClaim := { program := "qxb6613881afmt", sum := "c1f7db11be41e9dc77479e107cad4adf8583ce86dde6fc4f6f57e5f2b7c7f012", func := "example.com/numalign/numalign/zzlaws_root_b1.FnHintSetsResourceJoins", spec := "fnHintSetsResourceJoins", stops := ["fmt.errorf"], inPlace := ["fmt.errorf"], unfollowed := true, recurses := true, apart := false }
/-- NO THEOREM (fmt's text is open here; it may be false): for the released tool's asking of the row's closed facts alone. THE STATEMENT IS 'FnHintSetsResourceJoinsToldSaid' (Qxb6613881aFmtCards.lean). -/
def FnHintSetsResourceJoinsFormAsk : Prop := fnHintSetsResourceJoinsRow.holds Tryf.pinned (OpenSpec.ofChange fnHintSetsResourceJoinsSpec)

/-- ITS FALSE NEIGHBOUR: 'it returns false'. Refute it at one input. -/
def fnHintSetsResourceJoinsWrong : ChangeSpec := { name := "fnHintSetsResourceJoins", fn := fun _ => fun
  | [d1, d2, d3, d4, d5] => { results := [.lit (.bool false)], args := [d1, d2, d3, d4, d5] }
  | _ => none }
def FnHintSetsResourceJoinsWrongFormAsk : Prop := fnHintSetsResourceJoinsRow.holds Tryf.pinned (OpenSpec.ofChange fnHintSetsResourceJoinsWrong)

end Rows
end Go.Proofs.Qxb6613881aFmt
