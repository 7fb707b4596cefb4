import Derived.Test.YbulkciasBuild
import Derived.WalkLawsBesides
namespace Go.Proofs.Ybulkcias
open Go.RowKit
open Go.Sort hiding Below

/-- WHAT slices.BinarySearchFunc COMES TO AT A LIST OF KEYS (paid in YbulkciasSort). -/
def SearchSaid : Prop := ∀ (g cap tb : Nat) (bs : List Nat) (Ks : List (List UInt8)) (h : List UInt8) (w : World), ListAt w g bs Ks → g < w.heap.size → Ks.length ≤ 1024 → Ks.Pairwise ltB → KeyAt w tb h → tb ≠ g →
  Calls Yba.prog 13 #[.slice (some ⟨g, 0, none⟩) Ks.length cap, kv tb h, .func (.func 14) #[] #[]] w fun e w' => ∃ c : Int, e = .returned (.tuple #[.int .i64 c, .bool (decide (h ∈ Ks))]) ∧ Below w.heap.size w w'

theorem revokes_any (hS : SearchSaid) (lb g cap tb : Nat) (bs : List Nat) (Ks : List (List UInt8)) (h : List UInt8) (w : World) (hl : ListAt w g bs Ks) (hg : g < w.heap.size) (hn : Ks.length ≤ 1024) (hp : Ks.Pairwise ltB) (hk : KeyAt w tb h) (hne : tb ≠ g)
    (hc : w.cell? ⟨lb, 5, none⟩ = some (.slice (some ⟨g, 0, none⟩) Ks.length cap)) :
    Calls Yba.prog 6 #[.pointer (some ⟨lb, 0, none⟩), kv tb h] w fun e w' => e = .returned (.bool (decide (h ∈ Ks))) ∧ Below w.heap.size w w' := by
  have hcon := hS g cap tb bs Ks h w hl hg hn hp hk hne
  clear hl hp hk hne hg
  generalize decide (h ∈ Ks) = r at *
  generalize kv tb h = v at *
  go_enter Yba.func6, Yba.ntmps6
  go_wp2_with fail
  refine hcon.mono ?_
  rintro e w' ⟨c, rfl, hb⟩
  clear hcon
  go_wp2
  go_ret
  exact ⟨rfl, hb⟩
end Go.Proofs.Ybulkcias
