/-
  DERIVED. GIVEN WITH THE SEED: THE CARDS: each row of Qxb6613881aFmtRows.lean that lists a variable, with what it lists TIED to the program's text (the seventh form; the later family's looks); each row that meets fmt, with fmt's text TOLD by the authors' own Lean function (tested against real Go, not proved from fmt's source: count such statements apart). THE CARD IS WHAT COUNTS. Prove the row's statement (the work); the ties are given (Qxb6613881aFmtTie.lean); close each card by the builder's one call (the guide's Derived/Test/ToyasCard.lean, 'card_holds'). Laid BY PROGRAM, IN A SANDBOX (cutbox-door.mjs). By AI agents, Wed Nov 11 2026. No macro, syntax, notation, axiom, sorry.
-/
import Derived.Test.Qxb6613881aFmtRows
import GoSem.ClaimSeven
namespace Go.Proofs.Qxb6613881aFmt
namespace Rows

/-- THE TOLD CARD OF 'zzlaws_root_b1.FnHintSetsResourceForgets'. -/
def fnHintSetsResourceForgetsCard : Claim7 := { stood := { row := fnHintSetsResourceForgetsRow, standIns := [], harness := (true, "1e1b2b886fbbc28966eac871efc1f36b151f558394892ee758ab10f9301d9183"), looks := false }, told := true, goes := false }
def FnHintSetsResourceForgetsToldSaid : Prop := Claim7.holds Tryf.pinned (.plain (OpenSpec.ofChange fnHintSetsResourceForgetsSpec)) fnHintSetsResourceForgetsCard
/-- ITS FALSE NEIGHBOUR. Refute it at one input. -/
def FnHintSetsResourceForgetsToldWrongFalsely : Prop := Claim7.holds Tryf.pinned (.plain (OpenSpec.ofChange fnHintSetsResourceForgetsWrong)) fnHintSetsResourceForgetsCard

/-- THE TOLD CARD OF 'zzlaws_root_b1.FnHintSetsResourceJoins'. -/
def fnHintSetsResourceJoinsCard : Claim7 := { stood := { row := fnHintSetsResourceJoinsRow, standIns := [], harness := (true, "1e1b2b886fbbc28966eac871efc1f36b151f558394892ee758ab10f9301d9183"), looks := false }, told := true, goes := false }
def FnHintSetsResourceJoinsToldSaid : Prop := Claim7.holds Tryf.pinned (.plain (OpenSpec.ofChange fnHintSetsResourceJoinsSpec)) fnHintSetsResourceJoinsCard
/-- ITS FALSE NEIGHBOUR. Refute it at one input. -/
def FnHintSetsResourceJoinsToldWrongFalsely : Prop := Claim7.holds Tryf.pinned (.plain (OpenSpec.ofChange fnHintSetsResourceJoinsWrong)) fnHintSetsResourceJoinsCard
end Rows
end Go.Proofs.Qxb6613881aFmt
