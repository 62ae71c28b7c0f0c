/-
  No cell of these rows narrows 'for every input' (looked for: loops, veiled, ifaces, maps, wideKeys, modest, calm, conditions, laid).
  DERIVED. THE GIVEN ROWS OF THIS SEAT. 4 by the template 'for every input the law returns true; each argument reads behind the call as it read before'; 0 by the template 'total and deterministic' (their statements: Qxb6605750aTotals.lean).
  GIVEN WITH THE SEED: the statements are not yours to turn. If you find one false, say at which input.
  Laid BY PROGRAM, IN A SANDBOX (cutbox-rows.mjs): the forced cells as the released guide's own fill.sh prints them over the translation 387be27738ea44b9… (all of the seat's roots in one cut). By AI agents, Wed Nov 11 2026. No macro, syntax, notation, axiom, sorry.
-/
import Derived.Test.Qxb6605750aChecked
import GoSem.Claim
import GoSem.ClaimJoined
import GoSem.ClaimMapViews
import Derived.JoinedTies
import Derived.KernelRfl
namespace Go.Proofs.Qxb6605750a
/- THE CELL 'sum', in the pinned program and in every row, IS THE sha256 OF THE DUMP (.gsa) THAT Qxb6605750aProg.lean LOADS. Nothing in Lean hashes anything: it is a label: what it is worth is what the hold of that sum in a sandbox is worth. -/
noncomputable def Try.pinned : Pinned := { name := "qxb6605750a", sum := "387be27738ea44b91c5d5d927aab11b5d76f3e5c4d174f2ecd218baecbb84091", checked := Try.checked }
namespace Rows
def none {H : Type} : Left H := { results := [], args := [] }

/-- 'zzlaws_internal_yamljson_b1.FnIsWordStartFirstLetterOfYAML11Bool': WHATEVER THE INPUT: true; the input reads as it did. -/
def fnIsWordStartFirstLetterOfYAML11BoolSpec : ChangeSpec := { name := "fnIsWordStartFirstLetterOfYAML11Bool", fn := fun _ => fun
  | [d] => { results := [.lit (.bool true)], args := [d] }
  | _ => none }
def fnIsWordStartFirstLetterOfYAML11BoolRow : OpenClaim := { program := "qxb6605750a", sum := "387be27738ea44b91c5d5d927aab11b5d76f3e5c4d174f2ecd218baecbb84091", func := "example.com/rehearsal/rehearsal/zzlaws_internal_yamljson_b1.FnIsWordStartFirstLetterOfYAML11Bool", spec := "fnIsWordStartFirstLetterOfYAML11Bool", apart := false }
def FnIsWordStartFirstLetterOfYAML11BoolSaid : Prop := fnIsWordStartFirstLetterOfYAML11BoolRow.holds Try.pinned (OpenSpec.ofChange fnIsWordStartFirstLetterOfYAML11BoolSpec)

/-- ITS FALSE NEIGHBOUR: 'it returns false'. Refute it at one input. -/
def fnIsWordStartFirstLetterOfYAML11BoolWrong : ChangeSpec := { name := "fnIsWordStartFirstLetterOfYAML11Bool", fn := fun _ => fun
  | [d] => { results := [.lit (.bool false)], args := [d] }
  | _ => none }
def FnIsWordStartFirstLetterOfYAML11BoolWrongFalsely : Prop := fnIsWordStartFirstLetterOfYAML11BoolRow.holds Try.pinned (OpenSpec.ofChange fnIsWordStartFirstLetterOfYAML11BoolWrong)

/-- 'zzlaws_internal_yamljson_b1.FnWordStartsAreTenLettersClosedUnderCase': WHATEVER THE INPUT: true; the input reads as it did. -/
def fnWordStartsAreTenLettersClosedUnderCaseSpec : ChangeSpec := { name := "fnWordStartsAreTenLettersClosedUnderCase", fn := fun _ => fun
  | [] => { results := [.lit (.bool true)], args := [] }
  | _ => none }
def fnWordStartsAreTenLettersClosedUnderCaseRow : OpenClaim := { program := "qxb6605750a", sum := "387be27738ea44b91c5d5d927aab11b5d76f3e5c4d174f2ecd218baecbb84091", func := "example.com/rehearsal/rehearsal/zzlaws_internal_yamljson_b1.FnWordStartsAreTenLettersClosedUnderCase", spec := "fnWordStartsAreTenLettersClosedUnderCase", apart := false }
def FnWordStartsAreTenLettersClosedUnderCaseSaid : Prop := fnWordStartsAreTenLettersClosedUnderCaseRow.holds Try.pinned (OpenSpec.ofChange fnWordStartsAreTenLettersClosedUnderCaseSpec)

/-- ITS FALSE NEIGHBOUR: 'it returns false'. Refute it at one input. -/
def fnWordStartsAreTenLettersClosedUnderCaseWrong : ChangeSpec := { name := "fnWordStartsAreTenLettersClosedUnderCase", fn := fun _ => fun
  | [] => { results := [.lit (.bool false)], args := [] }
  | _ => none }
def FnWordStartsAreTenLettersClosedUnderCaseWrongFalsely : Prop := fnWordStartsAreTenLettersClosedUnderCaseRow.holds Try.pinned (OpenSpec.ofChange fnWordStartsAreTenLettersClosedUnderCaseWrong)

/-- 'zzlaws_internal_yamljson_b1.FnIsURIIsRFC3986CharsButHash': WHATEVER THE INPUT: true; the input reads as it did. -/
def fnIsURIIsRFC3986CharsButHashSpec : ChangeSpec := { name := "fnIsURIIsRFC3986CharsButHash", fn := fun _ => fun
  | [d] => { results := [.lit (.bool true)], args := [d] }
  | _ => none }
def fnIsURIIsRFC3986CharsButHashRow : OpenClaim := { program := "qxb6605750a", sum := "387be27738ea44b91c5d5d927aab11b5d76f3e5c4d174f2ecd218baecbb84091", func := "example.com/rehearsal/rehearsal/zzlaws_internal_yamljson_b1.FnIsURIIsRFC3986CharsButHash", spec := "fnIsURIIsRFC3986CharsButHash", apart := false }
def FnIsURIIsRFC3986CharsButHashSaid : Prop := fnIsURIIsRFC3986CharsButHashRow.holds Try.pinned (OpenSpec.ofChange fnIsURIIsRFC3986CharsButHashSpec)

/-- ITS FALSE NEIGHBOUR: 'it returns false'. Refute it at one input. -/
def fnIsURIIsRFC3986CharsButHashWrong : ChangeSpec := { name := "fnIsURIIsRFC3986CharsButHash", fn := fun _ => fun
  | [d] => { results := [.lit (.bool false)], args := [d] }
  | _ => none }
def FnIsURIIsRFC3986CharsButHashWrongFalsely : Prop := fnIsURIIsRFC3986CharsButHashRow.holds Try.pinned (OpenSpec.ofChange fnIsURIIsRFC3986CharsButHashWrong)

/-- 'zzlaws_internal_yamljson_b1.FnURICharsAreEightyFourPrintables': WHATEVER THE INPUT: true; the input reads as it did. -/
def fnURICharsAreEightyFourPrintablesSpec : ChangeSpec := { name := "fnURICharsAreEightyFourPrintables", fn := fun _ => fun
  | [] => { results := [.lit (.bool true)], args := [] }
  | _ => none }
def fnURICharsAreEightyFourPrintablesRow : OpenClaim := { program := "qxb6605750a", sum := "387be27738ea44b91c5d5d927aab11b5d76f3e5c4d174f2ecd218baecbb84091", func := "example.com/rehearsal/rehearsal/zzlaws_internal_yamljson_b1.FnURICharsAreEightyFourPrintables", spec := "fnURICharsAreEightyFourPrintables", apart := false }
def FnURICharsAreEightyFourPrintablesSaid : Prop := fnURICharsAreEightyFourPrintablesRow.holds Try.pinned (OpenSpec.ofChange fnURICharsAreEightyFourPrintablesSpec)

/-- ITS FALSE NEIGHBOUR: 'it returns false'. Refute it at one input. -/
def fnURICharsAreEightyFourPrintablesWrong : ChangeSpec := { name := "fnURICharsAreEightyFourPrintables", fn := fun _ => fun
  | [] => { results := [.lit (.bool false)], args := [] }
  | _ => none }
def FnURICharsAreEightyFourPrintablesWrongFalsely : Prop := fnURICharsAreEightyFourPrintablesRow.holds Try.pinned (OpenSpec.ofChange fnURICharsAreEightyFourPrintablesWrong)

end Rows
end Go.Proofs.Qxb6605750a
