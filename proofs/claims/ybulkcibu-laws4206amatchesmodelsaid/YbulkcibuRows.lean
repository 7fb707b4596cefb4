/-
  No cell of these rows narrows 'for every input' (looked for: loops, veiled, ifaces, maps, wideKeys, modest, calm, conditions, laid).
  DERIVED. THE GIVEN ROWS OF THIS SEAT. 1 by the template 'for every input the law returns true; each argument reads behind the call as it read before'; 0 by the template 'total and deterministic' (their statements: YbulkcibuTotals.lean).
  GIVEN WITH THE SEED: the statements are not yours to turn. If you find one false, say at which input.
  Laid BY PROGRAM, IN A SANDBOX (cutbox-rows.mjs): the forced cells as the released guide's own fill.sh prints them over the translation 5851650883710b04… (all of the seat's roots in one cut). By AI agents, Wed Nov 11 2026. No macro, syntax, notation, axiom, sorry.
-/
import Derived.Test.YbulkcibuChecked
import GoSem.Claim
import GoSem.ClaimJoined
import GoSem.ClaimMapViews
import Derived.JoinedTies
import Derived.KernelRfl
namespace Go.Proofs.Ybulkcibu
/- THE CELL 'sum', in the pinned program and in every row, IS THE sha256 OF THE DUMP (.gsa) THAT YbulkcibuProg.lean LOADS. Nothing in Lean hashes anything: it is a label: what it is worth is what the hold of that sum in a sandbox is worth. -/
noncomputable def Yba.pinned : Pinned := { name := "ybulkcibu", sum := "5851650883710b04f7e9b70733a12422ca044188c8aa3686370611ff685cb31a", checked := Yba.checked }
namespace Rows
def none {H : Type} : Left H := { results := [], args := [] }

/-- 'lockvote.LawS4206AMatchesModel': WHATEVER THE INPUT: true; the input reads as it did. -/
def lawS4206AMatchesModelSpec : ChangeSpec := { name := "lawS4206AMatchesModel", fn := fun _ => fun
  | [d1, d2, d3, d4] => { results := [.lit (.bool true)], args := [d1, d2, d3, d4] }
  | _ => none }
def lawS4206AMatchesModelRow : OpenClaim := { program := "ybulkcibu", sum := "5851650883710b04f7e9b70733a12422ca044188c8aa3686370611ff685cb31a", func := "example.com/lockvote/lockvote.LawS4206AMatchesModel", spec := "lawS4206AMatchesModel", inPlace := ["internal/bytealg.abigen_runtime_cmpstring"], unfollowed := true, recurses := true, apart := false }
def LawS4206AMatchesModelSaid : Prop := lawS4206AMatchesModelRow.holds Yba.pinned (OpenSpec.ofChange lawS4206AMatchesModelSpec)

/-- ITS FALSE NEIGHBOUR: 'it returns false'. Refute it at one input. -/
def lawS4206AMatchesModelWrong : ChangeSpec := { name := "lawS4206AMatchesModel", fn := fun _ => fun
  | [d1, d2, d3, d4] => { results := [.lit (.bool false)], args := [d1, d2, d3, d4] }
  | _ => none }
def LawS4206AMatchesModelWrongFalsely : Prop := lawS4206AMatchesModelRow.holds Yba.pinned (OpenSpec.ofChange lawS4206AMatchesModelWrong)

end Rows
end Go.Proofs.Ybulkcibu
