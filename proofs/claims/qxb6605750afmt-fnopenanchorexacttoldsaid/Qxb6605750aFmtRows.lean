/-
  No cell of these rows narrows 'for every input' (looked for: loops, veiled, ifaces, maps, wideKeys, modest, calm, conditions, laid).
  DERIVED. THE GIVEN ROWS OF THIS SEAT. 2 by the template 'for every input the law returns true; each argument reads behind the call as it read before'; 0 by the template 'total and deterministic' (their statements: Qxb6605750aFmtTotals.lean).
  GIVEN WITH THE SEED: the statements are not yours to turn. If you find one false, say at which input.
  Laid BY PROGRAM, IN A SANDBOX (cutbox-rows.mjs): the forced cells as the released guide's own fill.sh prints them over the translation d20999236a3ed571… (all of the seat's roots in one cut). By AI agents, Wed Nov 11 2026. No macro, syntax, notation, axiom, sorry.
-/
import Derived.Test.Qxb6605750aFmtChecked
import GoSem.Claim
import GoSem.ClaimJoined
import GoSem.ClaimMapViews
import Derived.JoinedTies
import Derived.KernelRfl
namespace Go.Proofs.Qxb6605750aFmt
/- THE CELL 'sum', in the pinned program and in every row, IS THE sha256 OF THE DUMP (.gsa) THAT Qxb6605750aFmtProg.lean LOADS. Nothing in Lean hashes anything: it is a label: what it is worth is what the hold of that sum in a sandbox is worth. -/
noncomputable def Tryf.pinned : Pinned := { name := "qxb6605750afmt", sum := "d20999236a3ed571694abd7eeb6798819bed853ed178e6df8e35b870e6e1b21b", checked := Tryf.checked }
namespace Rows
def none {H : Type} : Left H := { results := [], args := [] }

/-- 'zzlaws_internal_yamljson_b1.FnOpenAnchorExact': WHATEVER THE INPUT: true; the input reads as it did. -/
def fnOpenAnchorExactSpec : ChangeSpec := { name := "fnOpenAnchorExact", fn := fun _ => fun
  | [d1, d2, d3, d4, d5] => { results := [.lit (.bool true)], args := [d1, d2, d3, d4, d5] }
  | _ => none }
def fnOpenAnchorExactRow : OpenClaim := { program := "qxb6605750afmt", sum := "d20999236a3ed571694abd7eeb6798819bed853ed178e6df8e35b870e6e1b21b", func := "example.com/rehearsal/rehearsal/zzlaws_internal_yamljson_b1.FnOpenAnchorExact", spec := "fnOpenAnchorExact", stops := ["fmt.Sprintf, its operands' methods called"], inPlace := ["fmt.Sprintf"], unfollowed := true, recurses := true, apart := false }
/-- NO THEOREM (fmt's text is open here; it may be false): for the released tool's asking of the row's closed facts alone. THE STATEMENT IS 'FnOpenAnchorExactToldSaid' (Qxb6605750aFmtCards.lean). -/
def FnOpenAnchorExactFormAsk : Prop := fnOpenAnchorExactRow.holds Tryf.pinned (OpenSpec.ofChange fnOpenAnchorExactSpec)

/-- ITS FALSE NEIGHBOUR: 'it returns false'. Refute it at one input. -/
def fnOpenAnchorExactWrong : ChangeSpec := { name := "fnOpenAnchorExact", fn := fun _ => fun
  | [d1, d2, d3, d4, d5] => { results := [.lit (.bool false)], args := [d1, d2, d3, d4, d5] }
  | _ => none }
def FnOpenAnchorExactWrongFormAsk : Prop := fnOpenAnchorExactRow.holds Tryf.pinned (OpenSpec.ofChange fnOpenAnchorExactWrong)

/-- 'zzlaws_internal_yamljson_b1.FnOpenAnchorReopen': WHATEVER THE INPUT: true; the input reads as it did. -/
def fnOpenAnchorReopenSpec : ChangeSpec := { name := "fnOpenAnchorReopen", fn := fun _ => fun
  | [d1, d2, d3, d4] => { results := [.lit (.bool true)], args := [d1, d2, d3, d4] }
  | _ => none }
def fnOpenAnchorReopenRow : OpenClaim := { program := "qxb6605750afmt", sum := "d20999236a3ed571694abd7eeb6798819bed853ed178e6df8e35b870e6e1b21b", func := "example.com/rehearsal/rehearsal/zzlaws_internal_yamljson_b1.FnOpenAnchorReopen", spec := "fnOpenAnchorReopen", stops := ["fmt.Sprintf, its operands' methods called"], inPlace := ["fmt.Sprintf"], unfollowed := true, recurses := true, apart := false }
/-- NO THEOREM (fmt's text is open here; it may be false): for the released tool's asking of the row's closed facts alone. THE STATEMENT IS 'FnOpenAnchorReopenToldSaid' (Qxb6605750aFmtCards.lean). -/
def FnOpenAnchorReopenFormAsk : Prop := fnOpenAnchorReopenRow.holds Tryf.pinned (OpenSpec.ofChange fnOpenAnchorReopenSpec)

/-- ITS FALSE NEIGHBOUR: 'it returns false'. Refute it at one input. -/
def fnOpenAnchorReopenWrong : ChangeSpec := { name := "fnOpenAnchorReopen", fn := fun _ => fun
  | [d1, d2, d3, d4] => { results := [.lit (.bool false)], args := [d1, d2, d3, d4] }
  | _ => none }
def FnOpenAnchorReopenWrongFormAsk : Prop := fnOpenAnchorReopenRow.holds Tryf.pinned (OpenSpec.ofChange fnOpenAnchorReopenWrong)

end Rows
end Go.Proofs.Qxb6605750aFmt
