/-
  No cell of these rows narrows 'for every input' (looked for: loops, veiled, ifaces, maps, wideKeys, modest, calm, conditions, laid).
  DERIVED. THE GIVEN ROWS OF THIS SEAT. 4 by the template 'for every input the law returns true; each argument reads behind the call as it read before'; 0 by the template 'total and deterministic' (their statements: Qxb6605370aModsTotals.lean).
  GIVEN WITH THE SEED: the statements are not yours to turn. If you find one false, say at which input.
  Laid BY PROGRAM, IN A SANDBOX (cutbox-rows.mjs): the forced cells as the released guide's own fill.sh prints them over the translation ea1e4823568557c0… (all of the seat's roots in one cut). By AI agents, Wed Nov 11 2026. No macro, syntax, notation, axiom, sorry.
-/
import Derived.Test.Qxb6605370aModsChecked
import GoSem.Claim
import GoSem.ClaimJoined
import GoSem.ClaimMapViews
import Derived.JoinedTies
import Derived.KernelRfl
namespace Go.Proofs.Qxb6605370aMods
/- THE CELL 'sum', in the pinned program and in every row, IS THE sha256 OF THE DUMP (.gsa) THAT Qxb6605370aModsProg.lean LOADS. Nothing in Lean hashes anything: it is a label: what it is worth is what the hold of that sum in a sandbox is worth. -/
noncomputable def Trym.pinned : Pinned := { name := "qxb6605370amods", sum := "ea1e4823568557c0ea438c651fb8575eeadb88befdbe6bae076495919743e853", checked := Trym.checked }
namespace Rows
def none {H : Type} : Left H := { results := [], args := [] }

/-- 'zzlaws_markdown_b1.FnBalancedMatchesAutomaton': WHATEVER THE INPUT: true; the input reads as it did. -/
def fnBalancedMatchesAutomatonSpec : ChangeSpec := { name := "fnBalancedMatchesAutomaton", fn := fun _ => fun
  | [d] => { results := [.lit (.bool true)], args := [d] }
  | _ => none }
def fnBalancedMatchesAutomatonRow : OpenClaim := { program := "qxb6605370amods", sum := "ea1e4823568557c0ea438c651fb8575eeadb88befdbe6bae076495919743e853", func := "example.com/tally/tally/zzlaws_markdown_b1.FnBalancedMatchesAutomaton", spec := "fnBalancedMatchesAutomaton", make := .lifted ["publicsums"], apart := false }
def FnBalancedMatchesAutomatonSaid : Prop := fnBalancedMatchesAutomatonRow.holds Trym.pinned (OpenSpec.ofChange fnBalancedMatchesAutomatonSpec)

/-- ITS FALSE NEIGHBOUR: 'it returns false'. Refute it at one input. -/
def fnBalancedMatchesAutomatonWrong : ChangeSpec := { name := "fnBalancedMatchesAutomaton", fn := fun _ => fun
  | [d] => { results := [.lit (.bool false)], args := [d] }
  | _ => none }
def FnBalancedMatchesAutomatonWrongFalsely : Prop := fnBalancedMatchesAutomatonRow.holds Trym.pinned (OpenSpec.ofChange fnBalancedMatchesAutomatonWrong)

/-- 'zzlaws_markdown_b1.FnBalancedLongerFenceCloses': WHATEVER THE INPUT: true; the input reads as it did. -/
def fnBalancedLongerFenceClosesSpec : ChangeSpec := { name := "fnBalancedLongerFenceCloses", fn := fun _ => fun
  | [d] => { results := [.lit (.bool true)], args := [d] }
  | _ => none }
def fnBalancedLongerFenceClosesRow : OpenClaim := { program := "qxb6605370amods", sum := "ea1e4823568557c0ea438c651fb8575eeadb88befdbe6bae076495919743e853", func := "example.com/tally/tally/zzlaws_markdown_b1.FnBalancedLongerFenceCloses", spec := "fnBalancedLongerFenceCloses", make := .lifted ["publicsums"], apart := false }
def FnBalancedLongerFenceClosesSaid : Prop := fnBalancedLongerFenceClosesRow.holds Trym.pinned (OpenSpec.ofChange fnBalancedLongerFenceClosesSpec)

/-- ITS FALSE NEIGHBOUR: 'it returns false'. Refute it at one input. -/
def fnBalancedLongerFenceClosesWrong : ChangeSpec := { name := "fnBalancedLongerFenceCloses", fn := fun _ => fun
  | [d] => { results := [.lit (.bool false)], args := [d] }
  | _ => none }
def FnBalancedLongerFenceClosesWrongFalsely : Prop := fnBalancedLongerFenceClosesRow.holds Trym.pinned (OpenSpec.ofChange fnBalancedLongerFenceClosesWrong)

/-- 'zzlaws_markdown_b1.FnClosingRunMatchesRunScan': WHATEVER THE INPUT: true; the input reads as it did. -/
def fnClosingRunMatchesRunScanSpec : ChangeSpec := { name := "fnClosingRunMatchesRunScan", fn := fun _ => fun
  | [d1, d2] => { results := [.lit (.bool true)], args := [d1, d2] }
  | _ => none }
def fnClosingRunMatchesRunScanRow : OpenClaim := { program := "qxb6605370amods", sum := "ea1e4823568557c0ea438c651fb8575eeadb88befdbe6bae076495919743e853", func := "example.com/tally/tally/zzlaws_markdown_b1.FnClosingRunMatchesRunScan", spec := "fnClosingRunMatchesRunScan", make := .lifted ["publicsums"], apart := false }
def FnClosingRunMatchesRunScanSaid : Prop := fnClosingRunMatchesRunScanRow.holds Trym.pinned (OpenSpec.ofChange fnClosingRunMatchesRunScanSpec)

/-- ITS FALSE NEIGHBOUR: 'it returns false'. Refute it at one input. -/
def fnClosingRunMatchesRunScanWrong : ChangeSpec := { name := "fnClosingRunMatchesRunScan", fn := fun _ => fun
  | [d1, d2] => { results := [.lit (.bool false)], args := [d1, d2] }
  | _ => none }
def FnClosingRunMatchesRunScanWrongFalsely : Prop := fnClosingRunMatchesRunScanRow.holds Trym.pinned (OpenSpec.ofChange fnClosingRunMatchesRunScanWrong)

/-- 'zzlaws_markdown_b1.FnClosingRunShiftsPastPrefix': WHATEVER THE INPUT: true; the input reads as it did. -/
def fnClosingRunShiftsPastPrefixSpec : ChangeSpec := { name := "fnClosingRunShiftsPastPrefix", fn := fun _ => fun
  | [d1, d2] => { results := [.lit (.bool true)], args := [d1, d2] }
  | _ => none }
def fnClosingRunShiftsPastPrefixRow : OpenClaim := { program := "qxb6605370amods", sum := "ea1e4823568557c0ea438c651fb8575eeadb88befdbe6bae076495919743e853", func := "example.com/tally/tally/zzlaws_markdown_b1.FnClosingRunShiftsPastPrefix", spec := "fnClosingRunShiftsPastPrefix", make := .lifted ["publicsums"], apart := false }
def FnClosingRunShiftsPastPrefixSaid : Prop := fnClosingRunShiftsPastPrefixRow.holds Trym.pinned (OpenSpec.ofChange fnClosingRunShiftsPastPrefixSpec)

/-- ITS FALSE NEIGHBOUR: 'it returns false'. Refute it at one input. -/
def fnClosingRunShiftsPastPrefixWrong : ChangeSpec := { name := "fnClosingRunShiftsPastPrefix", fn := fun _ => fun
  | [d1, d2] => { results := [.lit (.bool false)], args := [d1, d2] }
  | _ => none }
def FnClosingRunShiftsPastPrefixWrongFalsely : Prop := fnClosingRunShiftsPastPrefixRow.holds Trym.pinned (OpenSpec.ofChange fnClosingRunShiftsPastPrefixWrong)

end Rows
end Go.Proofs.Qxb6605370aMods
