/-
  No cell of these rows narrows 'for every input' (looked for: loops, veiled, ifaces, maps, wideKeys, modest, calm, conditions, laid).
  DERIVED. THE GIVEN ROWS OF THIS SEAT. 4 by the template 'for every input the law returns true; each argument reads behind the call as it read before'; 0 by the template 'total and deterministic' (their statements: YbulkcibgTotals.lean).
  GIVEN WITH THE SEED: the statements are not yours to turn. If you find one false, say at which input.
  Laid BY PROGRAM, IN A SANDBOX (cutbox-rows.mjs): the forced cells as the released guide's own fill.sh prints them over the translation 213be7e442058ae8… (all of the seat's roots in one cut). By AI agents, Wed Nov 11 2026. No macro, syntax, notation, axiom, sorry.
-/
import Derived.Test.YbulkcibgChecked
import GoSem.Claim
import GoSem.ClaimJoined
import GoSem.ClaimMapViews
import Derived.JoinedTies
import Derived.KernelRfl
namespace Go.Proofs.Ybulkcibg
/- THE CELL 'sum', in the pinned program and in every row, IS THE sha256 OF THE DUMP (.gsa) THAT YbulkcibgProg.lean LOADS. Nothing in Lean hashes anything: it is a label: what it is worth is what the hold of that sum in a sandbox is worth. -/
noncomputable def Yba.pinned : Pinned := { name := "ybulkcibg", sum := "213be7e442058ae8dfcc576126b8eed9e51a9faa4824b16cbe6e27b350ef6079", checked := Yba.checked }
namespace Rows
def none {H : Type} : Left H := { results := [], args := [] }

/-- 'antecede.LawS4205AUpTo': WHATEVER THE INPUT: true; the input reads as it did. -/
def lawS4205AUpToSpec : ChangeSpec := { name := "lawS4205AUpTo", fn := fun _ => fun
  | [d1, d2, d3, d4] => { results := [.lit (.bool true)], args := [d1, d2, d3, d4] }
  | _ => none }
def lawS4205AUpToRow : OpenClaim := { program := "ybulkcibg", sum := "213be7e442058ae8dfcc576126b8eed9e51a9faa4824b16cbe6e27b350ef6079", func := "example.com/antecede/antecede.LawS4205AUpTo", spec := "lawS4205AUpTo", unfollowed := true, recurses := true, apart := false }
def LawS4205AUpToSaid : Prop := lawS4205AUpToRow.holds Yba.pinned (OpenSpec.ofChange lawS4205AUpToSpec)

/-- ITS FALSE NEIGHBOUR: 'it returns false'. Refute it at one input. -/
def lawS4205AUpToWrong : ChangeSpec := { name := "lawS4205AUpTo", fn := fun _ => fun
  | [d1, d2, d3, d4] => { results := [.lit (.bool false)], args := [d1, d2, d3, d4] }
  | _ => none }
def LawS4205AUpToWrongFalsely : Prop := lawS4205AUpToRow.holds Yba.pinned (OpenSpec.ofChange lawS4205AUpToWrong)

/-- 'antecede.LawS4205BSpan': WHATEVER THE INPUT: true; the input reads as it did. -/
def lawS4205BSpanSpec : ChangeSpec := { name := "lawS4205BSpan", fn := fun _ => fun
  | [d1, d2, d3, d4] => { results := [.lit (.bool true)], args := [d1, d2, d3, d4] }
  | _ => none }
def lawS4205BSpanRow : OpenClaim := { program := "ybulkcibg", sum := "213be7e442058ae8dfcc576126b8eed9e51a9faa4824b16cbe6e27b350ef6079", func := "example.com/antecede/antecede.LawS4205BSpan", spec := "lawS4205BSpan", apart := false }
def LawS4205BSpanSaid : Prop := lawS4205BSpanRow.holds Yba.pinned (OpenSpec.ofChange lawS4205BSpanSpec)

/-- ITS FALSE NEIGHBOUR: 'it returns false'. Refute it at one input. -/
def lawS4205BSpanWrong : ChangeSpec := { name := "lawS4205BSpan", fn := fun _ => fun
  | [d1, d2, d3, d4] => { results := [.lit (.bool false)], args := [d1, d2, d3, d4] }
  | _ => none }
def LawS4205BSpanWrongFalsely : Prop := lawS4205BSpanRow.holds Yba.pinned (OpenSpec.ofChange lawS4205BSpanWrong)

/-- 'antecede.LawS4205CModel': WHATEVER THE INPUT: true; the input reads as it did. -/
def lawS4205CModelSpec : ChangeSpec := { name := "lawS4205CModel", fn := fun _ => fun
  | [d1, d2, d3, d4, d5, d6] => { results := [.lit (.bool true)], args := [d1, d2, d3, d4, d5, d6] }
  | _ => none }
def lawS4205CModelRow : OpenClaim := { program := "ybulkcibg", sum := "213be7e442058ae8dfcc576126b8eed9e51a9faa4824b16cbe6e27b350ef6079", func := "example.com/antecede/antecede.LawS4205CModel", spec := "lawS4205CModel", unfollowed := true, recurses := true, apart := false }
def LawS4205CModelSaid : Prop := lawS4205CModelRow.holds Yba.pinned (OpenSpec.ofChange lawS4205CModelSpec)

/-- ITS FALSE NEIGHBOUR: 'it returns false'. Refute it at one input. -/
def lawS4205CModelWrong : ChangeSpec := { name := "lawS4205CModel", fn := fun _ => fun
  | [d1, d2, d3, d4, d5, d6] => { results := [.lit (.bool false)], args := [d1, d2, d3, d4, d5, d6] }
  | _ => none }
def LawS4205CModelWrongFalsely : Prop := lawS4205CModelRow.holds Yba.pinned (OpenSpec.ofChange lawS4205CModelWrong)

/-- 'antecede.LawS4205CEvery': WHATEVER THE INPUT: true; the input reads as it did. -/
def lawS4205CEverySpec : ChangeSpec := { name := "lawS4205CEvery", fn := fun _ => fun
  | [d1, d2, d3] => { results := [.lit (.bool true)], args := [d1, d2, d3] }
  | _ => none }
def lawS4205CEveryRow : OpenClaim := { program := "ybulkcibg", sum := "213be7e442058ae8dfcc576126b8eed9e51a9faa4824b16cbe6e27b350ef6079", func := "example.com/antecede/antecede.LawS4205CEvery", spec := "lawS4205CEvery", unfollowed := true, recurses := true, apart := false }
def LawS4205CEverySaid : Prop := lawS4205CEveryRow.holds Yba.pinned (OpenSpec.ofChange lawS4205CEverySpec)

/-- ITS FALSE NEIGHBOUR: 'it returns false'. Refute it at one input. -/
def lawS4205CEveryWrong : ChangeSpec := { name := "lawS4205CEvery", fn := fun _ => fun
  | [d1, d2, d3] => { results := [.lit (.bool false)], args := [d1, d2, d3] }
  | _ => none }
def LawS4205CEveryWrongFalsely : Prop := lawS4205CEveryRow.holds Yba.pinned (OpenSpec.ofChange lawS4205CEveryWrong)

end Rows
end Go.Proofs.Ybulkcibg
