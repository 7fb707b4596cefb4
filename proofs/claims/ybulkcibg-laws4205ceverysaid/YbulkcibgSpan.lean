import Derived.Test.YbulkcibgChecked
import Derived.WalkKit
import Derived.WalkLawsBesides
import Derived.WalkSpells
import Derived.Deep.QuietTactic
import Derived.BigQuiet
import Derived.Deep.LoopGhost
namespace Go.Proofs.Ybulkcibg
open Go.RowKit

theorem span_dense (b : Nat) (a : Addr) (n c : Nat) (lo : Int) (w : World) (h0 : w.cell? ⟨b, 0, none⟩ = some (.slice (some a) n c)) (h1 : w.cell? ⟨b, 1, none⟩ = some (.int .i64 lo)) :
    Calls Yba.prog 8 #[.pointer (some ⟨b, 0, none⟩)] w fun e w' => e = .returned (.tuple #[.int .i64 lo, .int .i64 (wrap64 (wrap64 (lo + n) - 1)), .bool true]) ∧ ∃ q, w' = w.drewN q := by
  have hn := fun (w : World) => run_neq_slice_nil_any (P := Yba.prog) w 34 23 (some a) n c 0 0 Yba.underlying34
  go_enter Yba.func8, Yba.ntmps8
  go_wp2
  go_quiet (fail)
  go_wp2
  go_ret3
  exact ⟨rfl, nq, rfl⟩

theorem span_empty (b : Nat) (a : Addr) (c : Nat) (w : World) (h0 : w.cell? ⟨b, 0, none⟩ = some (.slice none 0 0)) (h2 : w.cell? ⟨b, 2, none⟩ = some (.slice (some a) 0 c)) :
    Calls Yba.prog 8 #[.pointer (some ⟨b, 0, none⟩)] w fun e w' => e = .returned (.tuple #[.int .i64 0, .int .i64 0, .bool false]) ∧ ∃ q, w' = w.drewN q := by
  have hn := fun (w : World) => run_neq_slice_nil_any (P := Yba.prog) w 34 23 none 0 0 0 0 Yba.underlying34
  go_enter Yba.func8, Yba.ntmps8
  go_wp2
  go_ret3
  exact ⟨rfl, 0, rfl⟩

theorem wrap_pred (k : Nat) (h1 : 1 ≤ k) (h2 : k ≤ 65536) : IntKind.i64.wrap ((k : Int) - 1) = ((k - 1 : Nat) : Int) := by
  simp [IntKind.wrap, IntKind.bits, IntKind.signed]
  omega

theorem span_sparse (b g : Nat) (n c : Nat) (j0 jl : Int) (w : World) (hn : 0 < n) (hn' : n ≤ 65536) (h0 : w.cell? ⟨b, 0, none⟩ = some (.slice none 0 0)) (h2 : w.cell? ⟨b, 2, none⟩ = some (.slice (some ⟨g, 0, none⟩) n c))
    (hj0 : w.cell? ⟨g, 0, none⟩ = some (.int .i64 j0)) (hjl : w.cell? ⟨g, (n - 1) * 2, none⟩ = some (.int .i64 jl)) :
    Calls Yba.prog 8 #[.pointer (some ⟨b, 0, none⟩)] w fun e w' => e = .returned (.tuple #[.int .i64 j0, .int .i64 jl, .bool true]) ∧ ∃ q, w' = w.drewN q := by
  have hn1 := fun (w : World) => run_neq_slice_nil_any (P := Yba.prog) w 34 23 none 0 0 0 0 Yba.underlying34
  have hw1 := wrap_pred n hn hn'
  have hb0 : (0 : Int) < (n : Int) := by omega
  have hb1 : ((n - 1 : Nat) : Int) < (n : Int) := by omega
  go_enter Yba.func8, Yba.ntmps8
  go_wp2
  go_quiet (fail)
  go_wp2
  go_ret3
  exact ⟨rfl, nq, rfl⟩
end Go.Proofs.Ybulkcibg
