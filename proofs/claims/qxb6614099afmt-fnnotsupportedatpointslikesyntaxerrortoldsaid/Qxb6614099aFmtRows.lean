/-
  No cell of these rows narrows 'for every input' (looked for: loops, veiled, ifaces, maps, wideKeys, modest, calm, conditions, laid).
  DERIVED. THE GIVEN ROWS OF THIS SEAT. 2 by the template 'for every input the law returns true; each argument reads behind the call as it read before'; 0 by the template 'total and deterministic' (their statements: Qxb6614099aFmtTotals.lean).
  GIVEN WITH THE SEED: the statements are not yours to turn. If you find one false, say at which input.
  Laid BY PROGRAM, IN A SANDBOX (cutbox-rows.mjs): the forced cells as the released guide's own fill.sh prints them over the translation da43e0102aad27a3… (all of the seat's roots in one cut). By AI agents, Wed Nov 11 2026. No macro, syntax, notation, axiom, sorry.
-/
import Derived.Test.Qxb6614099aFmtChecked
import GoSem.Claim
import GoSem.ClaimJoined
import GoSem.ClaimMapViews
import Derived.JoinedTies
import Derived.KernelRfl
namespace Go.Proofs.Qxb6614099aFmt
/- THE CELL 'sum', in the pinned program and in every row, IS THE sha256 OF THE DUMP (.gsa) THAT Qxb6614099aFmtProg.lean LOADS. Nothing in Lean hashes anything: it is a label: what it is worth is what the hold of that sum in a sandbox is worth. -/
noncomputable def Tryf.pinned : Pinned := { name := "qxb6614099afmt", sum := "da43e0102aad27a3d174ed90b5597df771f3dce76e8788275797a234c29effac", checked := Tryf.checked }
namespace Rows
def none {H : Type} : Left H := { results := [], args := [] }

/-- 'zzlaws_pkg_sql_b1.FnNotSupportedAtPointsLikeSyntaxError': WHATEVER THE INPUT: true; the input reads as it did. -/
def fnNotSupportedAtPointsLikeSyntaxErrorSpec : ChangeSpec := { name := "fnNotSupportedAtPointsLikeSyntaxError", fn := fun _ => fun
  | [d1, d2, d3, d4, d5, d6] => { results := [.lit (.bool true)], args := [d1, d2, d3, d4, d5, d6] }
  | _ => none }
def fnNotSupportedAtPointsLikeSyntaxErrorRow : OpenClaim := { program := "qxb6614099afmt", sum := "da43e0102aad27a3d174ed90b5597df771f3dce76e8788275797a234c29effac", func := "example.com/chronoshard/chronoshard/zzlaws_pkg_sql_b1.FnNotSupportedAtPointsLikeSyntaxError", spec := "fnNotSupportedAtPointsLikeSyntaxError", stops := ["fmt.Sprintf, its operands' methods called"], inPlace := ["fmt.Sprintf"], unfollowed := true, recurses := true, apart := false }
/-- NO THEOREM (fmt's text is open here; it may be false): for the released tool's asking of the row's closed facts alone. THE STATEMENT IS 'FnNotSupportedAtPointsLikeSyntaxErrorToldSaid' (Qxb6614099aFmtCards.lean). -/
def FnNotSupportedAtPointsLikeSyntaxErrorFormAsk : Prop := fnNotSupportedAtPointsLikeSyntaxErrorRow.holds Tryf.pinned (OpenSpec.ofChange fnNotSupportedAtPointsLikeSyntaxErrorSpec)

/-- ITS FALSE NEIGHBOUR: 'it returns false'. Refute it at one input. -/
def fnNotSupportedAtPointsLikeSyntaxErrorWrong : ChangeSpec := { name := "fnNotSupportedAtPointsLikeSyntaxError", fn := fun _ => fun
  | [d1, d2, d3, d4, d5, d6] => { results := [.lit (.bool false)], args := [d1, d2, d3, d4, d5, d6] }
  | _ => none }
def FnNotSupportedAtPointsLikeSyntaxErrorWrongFormAsk : Prop := fnNotSupportedAtPointsLikeSyntaxErrorRow.holds Tryf.pinned (OpenSpec.ofChange fnNotSupportedAtPointsLikeSyntaxErrorWrong)

/-- 'zzlaws_pkg_sql_b1.FnNotSupportedAtIgnoresTextAfterCut': WHATEVER THE INPUT: true; the input reads as it did. -/
def fnNotSupportedAtIgnoresTextAfterCutSpec : ChangeSpec := { name := "fnNotSupportedAtIgnoresTextAfterCut", fn := fun _ => fun
  | [d1, d2, d3, d4, d5, d6, d7] => { results := [.lit (.bool true)], args := [d1, d2, d3, d4, d5, d6, d7] }
  | _ => none }
def fnNotSupportedAtIgnoresTextAfterCutRow : OpenClaim := { program := "qxb6614099afmt", sum := "da43e0102aad27a3d174ed90b5597df771f3dce76e8788275797a234c29effac", func := "example.com/chronoshard/chronoshard/zzlaws_pkg_sql_b1.FnNotSupportedAtIgnoresTextAfterCut", spec := "fnNotSupportedAtIgnoresTextAfterCut", stops := ["fmt.Sprintf, its operands' methods called"], inPlace := ["fmt.Sprintf"], unfollowed := true, recurses := true, apart := false }
/-- NO THEOREM (fmt's text is open here; it may be false): for the released tool's asking of the row's closed facts alone. THE STATEMENT IS 'FnNotSupportedAtIgnoresTextAfterCutToldSaid' (Qxb6614099aFmtCards.lean). -/
def FnNotSupportedAtIgnoresTextAfterCutFormAsk : Prop := fnNotSupportedAtIgnoresTextAfterCutRow.holds Tryf.pinned (OpenSpec.ofChange fnNotSupportedAtIgnoresTextAfterCutSpec)

/-- ITS FALSE NEIGHBOUR: 'it returns false'. Refute it at one input. -/
def fnNotSupportedAtIgnoresTextAfterCutWrong : ChangeSpec := { name := "fnNotSupportedAtIgnoresTextAfterCut", fn := fun _ => fun
  | [d1, d2, d3, d4, d5, d6, d7] => { results := [.lit (.bool false)], args := [d1, d2, d3, d4, d5, d6, d7] }
  | _ => none }
def FnNotSupportedAtIgnoresTextAfterCutWrongFormAsk : Prop := fnNotSupportedAtIgnoresTextAfterCutRow.holds Tryf.pinned (OpenSpec.ofChange fnNotSupportedAtIgnoresTextAfterCutWrong)

end Rows
end Go.Proofs.Qxb6614099aFmt
