/-
  No cell of these rows narrows 'for every input' (looked for: loops, veiled, ifaces, maps, wideKeys, modest, calm, conditions, laid).
  DERIVED. THE GIVEN ROWS OF THIS SEAT. 3 by the template 'for every input the law returns true; each argument reads behind the call as it read before'; 0 by the template 'total and deterministic' (their statements: YbulkcidkTotals.lean).
  GIVEN WITH THE SEED: the statements are not yours to turn. If you find one false, say at which input.
  Laid BY PROGRAM, IN A SANDBOX (cutbox-rows.mjs): the forced cells as the released guide's own fill.sh prints them over the translation dca99057dd384aa9… (all of the seat's roots in one cut). By AI agents, Wed Nov 11 2026. No macro, syntax, notation, axiom, sorry.
-/
import Derived.Test.YbulkcidkChecked
import GoSem.Claim
import GoSem.ClaimJoined
import GoSem.ClaimMapViews
import Derived.JoinedTies
import Derived.KernelRfl
namespace Go.Proofs.Ybulkcidk
/- THE CELL 'sum', in the pinned program and in every row, IS THE sha256 OF THE DUMP (.gsa) THAT YbulkcidkProg.lean LOADS. Nothing in Lean hashes anything: it is a label: what it is worth is what the hold of that sum in a sandbox is worth. -/
noncomputable def Yba.pinned : Pinned := { name := "ybulkcidk", sum := "dca99057dd384aa921a8de074269cf7578646fe1caabe9cff984b595777f34e9", checked := Yba.checked }
namespace Rows
def none {H : Type} : Left H := { results := [], args := [] }

/-- 'submissions.LawS4209BModel': WHATEVER THE INPUT: true; the input reads as it did. -/
def lawS4209BModelSpec : ChangeSpec := { name := "lawS4209BModel", fn := fun _ => fun
  | [d1, d2] => { results := [.lit (.bool true)], args := [d1, d2] }
  | _ => none }
def lawS4209BModelRow : OpenClaim := { program := "ybulkcidk", sum := "dca99057dd384aa921a8de074269cf7578646fe1caabe9cff984b595777f34e9", func := "example.com/stakewise/stakewise/submissions.LawS4209BModel", spec := "lawS4209BModel", inPlace := ["math.Float64bits", "math.Float64frombits"], apart := false }
def LawS4209BModelSaid : Prop := lawS4209BModelRow.holds Yba.pinned (OpenSpec.ofChange lawS4209BModelSpec)

/-- ITS FALSE NEIGHBOUR: 'it returns false'. Refute it at one input. -/
def lawS4209BModelWrong : ChangeSpec := { name := "lawS4209BModel", fn := fun _ => fun
  | [d1, d2] => { results := [.lit (.bool false)], args := [d1, d2] }
  | _ => none }
def LawS4209BModelWrongFalsely : Prop := lawS4209BModelRow.holds Yba.pinned (OpenSpec.ofChange lawS4209BModelWrong)

/-- 'dd.LawS4209CDigits': WHATEVER THE INPUT: true; the input reads as it did. -/
def lawS4209CDigitsSpec : ChangeSpec := { name := "lawS4209CDigits", fn := fun _ => fun
  | [d1, d2] => { results := [.lit (.bool true)], args := [d1, d2] }
  | _ => none }
def lawS4209CDigitsRow : OpenClaim := { program := "ybulkcidk", sum := "dca99057dd384aa921a8de074269cf7578646fe1caabe9cff984b595777f34e9", func := "example.com/stakewise/stakewise/internal/dd.LawS4209CDigits", spec := "lawS4209CDigits", apart := false }
def LawS4209CDigitsSaid : Prop := lawS4209CDigitsRow.holds Yba.pinned (OpenSpec.ofChange lawS4209CDigitsSpec)

/-- ITS FALSE NEIGHBOUR: 'it returns false'. Refute it at one input. -/
def lawS4209CDigitsWrong : ChangeSpec := { name := "lawS4209CDigits", fn := fun _ => fun
  | [d1, d2] => { results := [.lit (.bool false)], args := [d1, d2] }
  | _ => none }
def LawS4209CDigitsWrongFalsely : Prop := lawS4209CDigitsRow.holds Yba.pinned (OpenSpec.ofChange lawS4209CDigitsWrong)

/-- 'dd.LawS4209CStep': WHATEVER THE INPUT: true; the input reads as it did. -/
def lawS4209CStepSpec : ChangeSpec := { name := "lawS4209CStep", fn := fun _ => fun
  | [d1, d2, d3] => { results := [.lit (.bool true)], args := [d1, d2, d3] }
  | _ => none }
def lawS4209CStepRow : OpenClaim := { program := "ybulkcidk", sum := "dca99057dd384aa921a8de074269cf7578646fe1caabe9cff984b595777f34e9", func := "example.com/stakewise/stakewise/internal/dd.LawS4209CStep", spec := "lawS4209CStep", apart := false }
def LawS4209CStepSaid : Prop := lawS4209CStepRow.holds Yba.pinned (OpenSpec.ofChange lawS4209CStepSpec)

/-- ITS FALSE NEIGHBOUR: 'it returns false'. Refute it at one input. -/
def lawS4209CStepWrong : ChangeSpec := { name := "lawS4209CStep", fn := fun _ => fun
  | [d1, d2, d3] => { results := [.lit (.bool false)], args := [d1, d2, d3] }
  | _ => none }
def LawS4209CStepWrongFalsely : Prop := lawS4209CStepRow.holds Yba.pinned (OpenSpec.ofChange lawS4209CStepWrong)

end Rows
end Go.Proofs.Ybulkcidk
