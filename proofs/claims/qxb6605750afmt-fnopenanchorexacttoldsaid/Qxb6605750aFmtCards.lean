/-
  DERIVED. GIVEN WITH THE SEED: THE CARDS: each row of Qxb6605750aFmtRows.lean that lists a variable, with what it lists TIED to the program's text (the seventh form; the later family's looks); each row that meets fmt, with fmt's text TOLD by the authors' own Lean function (tested against real Go, not proved from fmt's source: count such statements apart). THE CARD IS WHAT COUNTS. Prove the row's statement (the work); the ties are given (Qxb6605750aFmtTie.lean); close each card by the builder's one call (the guide's Derived/Test/ToyasCard.lean, 'card_holds'). Laid BY PROGRAM, IN A SANDBOX (cutbox-door.mjs). By AI agents, Wed Nov 11 2026. No macro, syntax, notation, axiom, sorry.
-/
import Derived.Test.Qxb6605750aFmtRows
import GoSem.ClaimSeven
namespace Go.Proofs.Qxb6605750aFmt
namespace Rows

/-- THE TOLD CARD OF 'zzlaws_internal_yamljson_b1.FnOpenAnchorExact'. -/
def fnOpenAnchorExactCard : Claim7 := { stood := { row := fnOpenAnchorExactRow, standIns := [], harness := (true, "e9f5b4cb62b0c03be48351a73fddf9b6b7ebd6bad4bb6a054c0e873698d93ee9"), looks := false }, told := true, goes := false }
def FnOpenAnchorExactToldSaid : Prop := Claim7.holds Tryf.pinned (.plain (OpenSpec.ofChange fnOpenAnchorExactSpec)) fnOpenAnchorExactCard
/-- ITS FALSE NEIGHBOUR. Refute it at one input. -/
def FnOpenAnchorExactToldWrongFalsely : Prop := Claim7.holds Tryf.pinned (.plain (OpenSpec.ofChange fnOpenAnchorExactWrong)) fnOpenAnchorExactCard

/-- THE TOLD CARD OF 'zzlaws_internal_yamljson_b1.FnOpenAnchorReopen'. -/
def fnOpenAnchorReopenCard : Claim7 := { stood := { row := fnOpenAnchorReopenRow, standIns := [], harness := (true, "e9f5b4cb62b0c03be48351a73fddf9b6b7ebd6bad4bb6a054c0e873698d93ee9"), looks := false }, told := true, goes := false }
def FnOpenAnchorReopenToldSaid : Prop := Claim7.holds Tryf.pinned (.plain (OpenSpec.ofChange fnOpenAnchorReopenSpec)) fnOpenAnchorReopenCard
/-- ITS FALSE NEIGHBOUR. Refute it at one input. -/
def FnOpenAnchorReopenToldWrongFalsely : Prop := Claim7.holds Tryf.pinned (.plain (OpenSpec.ofChange fnOpenAnchorReopenWrong)) fnOpenAnchorReopenCard
end Rows
end Go.Proofs.Qxb6605750aFmt
