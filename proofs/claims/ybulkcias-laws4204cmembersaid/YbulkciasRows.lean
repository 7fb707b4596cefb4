/-
  No cell of these rows narrows 'for every input' (looked for: loops, veiled, ifaces, maps, wideKeys, modest, calm, conditions, laid).
  DERIVED. THE GIVEN ROWS OF THIS SEAT. 2 by the template 'for every input the law returns true; each argument reads behind the call as it read before'; 0 by the template 'total and deterministic' (their statements: YbulkciasTotals.lean).
  GIVEN WITH THE SEED: the statements are not yours to turn. If you find one false, say at which input.
  Laid BY PROGRAM, IN A SANDBOX (cutbox-rows.mjs): the forced cells as the released guide's own fill.sh prints them over the translation df5adf3d4f36b40b… (all of the seat's roots in one cut). By AI agents, Wed Nov 11 2026. No macro, syntax, notation, axiom, sorry.
-/
import Derived.Test.YbulkciasChecked
import GoSem.Claim
import GoSem.ClaimJoined
import GoSem.ClaimMapViews
import Derived.JoinedTies
import Derived.KernelRfl
namespace Go.Proofs.Ybulkcias
/- THE CELL 'sum', in the pinned program and in every row, IS THE sha256 OF THE DUMP (.gsa) THAT YbulkciasProg.lean LOADS. Nothing in Lean hashes anything: it is a label: what it is worth is what the hold of that sum in a sandbox is worth. -/
noncomputable def Yba.pinned : Pinned := { name := "ybulkcias", sum := "df5adf3d4f36b40b05d88d82b1907773cf9c8227ed092a5f5f1f646dbd3642d2", checked := Yba.checked }
namespace Rows
def none {H : Type} : Left H := { results := [], args := [] }

/-- 'credential.LawS4204CMember': WHATEVER THE INPUT: true; the input reads as it did. -/
def lawS4204CMemberSpec : ChangeSpec := { name := "lawS4204CMember", fn := fun _ => fun
  | [d1, d2, d3] => { results := [.lit (.bool true)], args := [d1, d2, d3] }
  | _ => none }
def lawS4204CMemberRow : OpenClaim := { program := "ybulkcias", sum := "df5adf3d4f36b40b05d88d82b1907773cf9c8227ed092a5f5f1f646dbd3642d2", func := "example.com/swarmkeep/swarmkeep/credential.LawS4204CMember", spec := "lawS4204CMember", inPlace := ["internal/bytealg.Compare"], unfollowed := true, recurses := true, apart := false }
def LawS4204CMemberSaid : Prop := lawS4204CMemberRow.holds Yba.pinned (OpenSpec.ofChange lawS4204CMemberSpec)

/-- ITS FALSE NEIGHBOUR: 'it returns false'. Refute it at one input. -/
def lawS4204CMemberWrong : ChangeSpec := { name := "lawS4204CMember", fn := fun _ => fun
  | [d1, d2, d3] => { results := [.lit (.bool false)], args := [d1, d2, d3] }
  | _ => none }
def LawS4204CMemberWrongFalsely : Prop := lawS4204CMemberRow.holds Yba.pinned (OpenSpec.ofChange lawS4204CMemberWrong)

/-- 'credential.LawS4204CNone': WHATEVER THE INPUT: true; the input reads as it did. -/
def lawS4204CNoneSpec : ChangeSpec := { name := "lawS4204CNone", fn := fun _ => fun
  | [d] => { results := [.lit (.bool true)], args := [d] }
  | _ => none }
def lawS4204CNoneRow : OpenClaim := { program := "ybulkcias", sum := "df5adf3d4f36b40b05d88d82b1907773cf9c8227ed092a5f5f1f646dbd3642d2", func := "example.com/swarmkeep/swarmkeep/credential.LawS4204CNone", spec := "lawS4204CNone", inPlace := ["internal/bytealg.Compare"], unfollowed := true, recurses := true, apart := false }
def LawS4204CNoneSaid : Prop := lawS4204CNoneRow.holds Yba.pinned (OpenSpec.ofChange lawS4204CNoneSpec)

/-- ITS FALSE NEIGHBOUR: 'it returns false'. Refute it at one input. -/
def lawS4204CNoneWrong : ChangeSpec := { name := "lawS4204CNone", fn := fun _ => fun
  | [d] => { results := [.lit (.bool false)], args := [d] }
  | _ => none }
def LawS4204CNoneWrongFalsely : Prop := lawS4204CNoneRow.holds Yba.pinned (OpenSpec.ofChange lawS4204CNoneWrong)

end Rows
end Go.Proofs.Ybulkcias
