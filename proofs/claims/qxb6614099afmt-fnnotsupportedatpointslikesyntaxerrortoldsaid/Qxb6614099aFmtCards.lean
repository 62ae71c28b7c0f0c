/-
  DERIVED. GIVEN WITH THE SEED: THE CARDS: each row of Qxb6614099aFmtRows.lean that lists a variable, with what it lists TIED to the program's text (the seventh form; the later family's looks); each row that meets fmt, with fmt's text TOLD by the authors' own Lean function (tested against real Go, not proved from fmt's source: count such statements apart). THE CARD IS WHAT COUNTS. Prove the row's statement (the work); the ties are given (Qxb6614099aFmtTie.lean); close each card by the builder's one call (the guide's Derived/Test/ToyasCard.lean, 'card_holds'). Laid BY PROGRAM, IN A SANDBOX (cutbox-door.mjs). By AI agents, Wed Nov 11 2026. No macro, syntax, notation, axiom, sorry.
-/
import Derived.Test.Qxb6614099aFmtRows
import GoSem.ClaimSeven
namespace Go.Proofs.Qxb6614099aFmt
namespace Rows

/-- THE TOLD CARD OF 'zzlaws_pkg_sql_b1.FnNotSupportedAtPointsLikeSyntaxError'. -/
def fnNotSupportedAtPointsLikeSyntaxErrorCard : Claim7 := { stood := { row := fnNotSupportedAtPointsLikeSyntaxErrorRow, standIns := [], harness := (true, "6c36524a8b575d25fe8953d90caf05ab1b00eba21986f19e5cf8e829384f4e27"), looks := false }, told := true, goes := false }
def FnNotSupportedAtPointsLikeSyntaxErrorToldSaid : Prop := Claim7.holds Tryf.pinned (.plain (OpenSpec.ofChange fnNotSupportedAtPointsLikeSyntaxErrorSpec)) fnNotSupportedAtPointsLikeSyntaxErrorCard
/-- ITS FALSE NEIGHBOUR. Refute it at one input. -/
def FnNotSupportedAtPointsLikeSyntaxErrorToldWrongFalsely : Prop := Claim7.holds Tryf.pinned (.plain (OpenSpec.ofChange fnNotSupportedAtPointsLikeSyntaxErrorWrong)) fnNotSupportedAtPointsLikeSyntaxErrorCard

/-- THE TOLD CARD OF 'zzlaws_pkg_sql_b1.FnNotSupportedAtIgnoresTextAfterCut'. -/
def fnNotSupportedAtIgnoresTextAfterCutCard : Claim7 := { stood := { row := fnNotSupportedAtIgnoresTextAfterCutRow, standIns := [], harness := (true, "6c36524a8b575d25fe8953d90caf05ab1b00eba21986f19e5cf8e829384f4e27"), looks := false }, told := true, goes := false }
def FnNotSupportedAtIgnoresTextAfterCutToldSaid : Prop := Claim7.holds Tryf.pinned (.plain (OpenSpec.ofChange fnNotSupportedAtIgnoresTextAfterCutSpec)) fnNotSupportedAtIgnoresTextAfterCutCard
/-- ITS FALSE NEIGHBOUR. Refute it at one input. -/
def FnNotSupportedAtIgnoresTextAfterCutToldWrongFalsely : Prop := Claim7.holds Tryf.pinned (.plain (OpenSpec.ofChange fnNotSupportedAtIgnoresTextAfterCutWrong)) fnNotSupportedAtIgnoresTextAfterCutCard
end Rows
end Go.Proofs.Qxb6614099aFmt
