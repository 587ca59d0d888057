/-
  No cell of these rows narrows 'for every input' (looked for: loops, veiled, ifaces, maps, wideKeys, modest, calm, conditions, laid).
  DERIVED. THE GIVEN ROWS OF THIS SEAT. 4 by the template 'for every input the law returns true; each argument reads behind the call as it read before'; 0 by the template 'total and deterministic' (their statements: Qxb6606062aModsTotals.lean).
  GIVEN WITH THE SEED: the statements are not yours to turn. If you find one false, say at which input.
  Laid BY PROGRAM, IN A SANDBOX (cutbox-rows.mjs): the forced cells as the released guide's own fill.sh prints them over the translation 41f2403546992e96… (all of the seat's roots in one cut). By AI agents, Wed Nov 11 2026. No macro, syntax, notation, axiom, sorry.
-/
import Derived.Test.Qxb6606062aModsChecked
import GoSem.Claim
import GoSem.ClaimJoined
import GoSem.ClaimMapViews
import Derived.JoinedTies
import Derived.KernelRfl
namespace Go.Proofs.Qxb6606062aMods
/- THE CELL 'sum', in the pinned program and in every row, IS THE sha256 OF THE DUMP (.gsa) THAT Qxb6606062aModsProg.lean LOADS. Nothing in Lean hashes anything: it is a label: what it is worth is what the hold of that sum in a sandbox is worth. -/
noncomputable def Trym.pinned : Pinned := { name := "qxb6606062amods", sum := "41f2403546992e96c3992572f06163ed9945621528e868c9cac8acabda91aeba", checked := Trym.checked }
namespace Rows
def none {H : Type} : Left H := { results := [], args := [] }

/-- 'zzlaws_internal_authz_b1.FnExponentOfCaseTable': WHATEVER THE INPUT: true; the input reads as it did. -/
def fnExponentOfCaseTableSpec : ChangeSpec := { name := "fnExponentOfCaseTable", fn := fun _ => fun
  | [d] => { results := [.lit (.bool true)], args := [d] }
  | _ => none }
def fnExponentOfCaseTableRow : OpenClaim := { program := "qxb6606062amods", sum := "41f2403546992e96c3992572f06163ed9945621528e868c9cac8acabda91aeba", func := "example.com/governed-mcp-proxy/governed-mcp-proxy/zzlaws_internal_authz_b1.FnExponentOfCaseTable", spec := "fnExponentOfCaseTable", make := .lifted ["publicsums"], apart := false }
def FnExponentOfCaseTableSaid : Prop := fnExponentOfCaseTableRow.holds Trym.pinned (OpenSpec.ofChange fnExponentOfCaseTableSpec)

/-- ITS FALSE NEIGHBOUR: 'it returns false'. Refute it at one input. -/
def fnExponentOfCaseTableWrong : ChangeSpec := { name := "fnExponentOfCaseTable", fn := fun _ => fun
  | [d] => { results := [.lit (.bool false)], args := [d] }
  | _ => none }
def FnExponentOfCaseTableWrongFalsely : Prop := fnExponentOfCaseTableRow.holds Trym.pinned (OpenSpec.ofChange fnExponentOfCaseTableWrong)

/-- 'zzlaws_internal_authz_b1.FnExponentOfSign': WHATEVER THE INPUT: true; the input reads as it did. -/
def fnExponentOfSignSpec : ChangeSpec := { name := "fnExponentOfSign", fn := fun _ => fun
  | [d] => { results := [.lit (.bool true)], args := [d] }
  | _ => none }
def fnExponentOfSignRow : OpenClaim := { program := "qxb6606062amods", sum := "41f2403546992e96c3992572f06163ed9945621528e868c9cac8acabda91aeba", func := "example.com/governed-mcp-proxy/governed-mcp-proxy/zzlaws_internal_authz_b1.FnExponentOfSign", spec := "fnExponentOfSign", make := .lifted ["publicsums"], apart := false }
def FnExponentOfSignSaid : Prop := fnExponentOfSignRow.holds Trym.pinned (OpenSpec.ofChange fnExponentOfSignSpec)

/-- ITS FALSE NEIGHBOUR: 'it returns false'. Refute it at one input. -/
def fnExponentOfSignWrong : ChangeSpec := { name := "fnExponentOfSign", fn := fun _ => fun
  | [d] => { results := [.lit (.bool false)], args := [d] }
  | _ => none }
def FnExponentOfSignWrongFalsely : Prop := fnExponentOfSignRow.holds Trym.pinned (OpenSpec.ofChange fnExponentOfSignWrong)

/-- 'zzlaws_internal_authz_b1.FnExponentOfLeadingZero': WHATEVER THE INPUT: true; the input reads as it did. -/
def fnExponentOfLeadingZeroSpec : ChangeSpec := { name := "fnExponentOfLeadingZero", fn := fun _ => fun
  | [d] => { results := [.lit (.bool true)], args := [d] }
  | _ => none }
def fnExponentOfLeadingZeroRow : OpenClaim := { program := "qxb6606062amods", sum := "41f2403546992e96c3992572f06163ed9945621528e868c9cac8acabda91aeba", func := "example.com/governed-mcp-proxy/governed-mcp-proxy/zzlaws_internal_authz_b1.FnExponentOfLeadingZero", spec := "fnExponentOfLeadingZero", make := .lifted ["publicsums"], apart := false }
def FnExponentOfLeadingZeroSaid : Prop := fnExponentOfLeadingZeroRow.holds Trym.pinned (OpenSpec.ofChange fnExponentOfLeadingZeroSpec)

/-- ITS FALSE NEIGHBOUR: 'it returns false'. Refute it at one input. -/
def fnExponentOfLeadingZeroWrong : ChangeSpec := { name := "fnExponentOfLeadingZero", fn := fun _ => fun
  | [d] => { results := [.lit (.bool false)], args := [d] }
  | _ => none }
def FnExponentOfLeadingZeroWrongFalsely : Prop := fnExponentOfLeadingZeroRow.holds Trym.pinned (OpenSpec.ofChange fnExponentOfLeadingZeroWrong)

/-- 'zzlaws_internal_authz_b1.FnReadNumberCaseTable': WHATEVER THE INPUT: true; the input reads as it did. -/
def fnReadNumberCaseTableSpec : ChangeSpec := { name := "fnReadNumberCaseTable", fn := fun _ => fun
  | [d] => { results := [.lit (.bool true)], args := [d] }
  | _ => none }
def fnReadNumberCaseTableRow : OpenClaim := { program := "qxb6606062amods", sum := "41f2403546992e96c3992572f06163ed9945621528e868c9cac8acabda91aeba", func := "example.com/governed-mcp-proxy/governed-mcp-proxy/zzlaws_internal_authz_b1.FnReadNumberCaseTable", spec := "fnReadNumberCaseTable", make := .lifted ["publicsums"], apart := false }
def FnReadNumberCaseTableSaid : Prop := fnReadNumberCaseTableRow.holds Trym.pinned (OpenSpec.ofChange fnReadNumberCaseTableSpec)

/-- ITS FALSE NEIGHBOUR: 'it returns false'. Refute it at one input. -/
def fnReadNumberCaseTableWrong : ChangeSpec := { name := "fnReadNumberCaseTable", fn := fun _ => fun
  | [d] => { results := [.lit (.bool false)], args := [d] }
  | _ => none }
def FnReadNumberCaseTableWrongFalsely : Prop := fnReadNumberCaseTableRow.holds Trym.pinned (OpenSpec.ofChange fnReadNumberCaseTableWrong)

end Rows
end Go.Proofs.Qxb6606062aMods
