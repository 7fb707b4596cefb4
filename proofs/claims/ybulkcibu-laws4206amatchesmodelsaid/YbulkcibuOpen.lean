import Derived.Test.YbulkcibuBuild
import Derived.ProofKit
import Derived.OpenShut
import Derived.ChangeOld
import Derived.Below
import Derived.Deep.Slices
namespace Go.Proofs.Ybulkcibu
open Go.ChangeShapes Go.WideShapes Go.ChangeAt Go.RowKit Go.Deep

theorem Yba.cells36 : Yba.prog.cellsOf 36 = 4 := by kernel_rfl
theorem Yba.cells23 : Yba.prog.cellsOf 23 = 1 := by kernel_rfl
theorem Yba.cells5 : Yba.prog.cellsOf 5 = 1 := by kernel_rfl
theorem Yba.cells4 : Yba.prog.cellsOf 4 = 1 := by kernel_rfl

theorem bnd16 {n : Int} (h : (Lit.int .u16 n).wf = true) : 0 ≤ n ∧ n ≤ 65535 := by
  simp [Lit.wf, IntKind.min, IntKind.max, IntKind.signed, IntKind.bits] at h; omega
theorem bnd8 {n : Int} (h : (Lit.int .u8 n).wf = true) : 0 ≤ n ∧ n ≤ 255 := by
  simp [Lit.wf, IntKind.min, IntKind.max, IntKind.signed, IntKind.bits] at h; omega

/-- One element opened. -/
theorem elem_of {H : Type} {enc : TypeId × Value → H} {W : World} {held : Bool} {fuel : Nat} {spare : Nat → Bool} {base : Nat} {a : Addr} {cs : List Value} {x : DataW H × List MemPlace} (hc : W.cells? base a 4 = some cs) (hf : DataW.trod enc Yba.prog W base spare held fuel 36 cs = some x) :
    ∃ q : Int × Int × Bool × Int, W.cell? a = some (.int .u16 q.1) ∧ W.cell? (a.add 1) = some (.int .u8 q.2.1) ∧ W.cell? (a.add 2) = some (.bool q.2.2.1) ∧ W.cell? (a.add 3) = some (.int .u8 q.2.2.2) ∧
      (0 ≤ q.1 ∧ q.1 ≤ 65535) ∧ (0 ≤ q.2.1 ∧ q.2.1 ≤ 255) ∧ (0 ≤ q.2.2.2 ∧ q.2.2.2 ≤ 255) := by
  obtain ⟨_, hlen, hcell⟩ := World.cells?_some hc
  obtain ⟨xs, k, hk, hxy, _, hxl, hfl⟩ := DataW.trod_struct Yba.underlying36 hf
  match cs, hlen with
  | [v0, v1, v2, v3], _ =>
    have f0 := hfl 0 _ rfl
    have f1 := hfl 1 _ rfl
    have f2 := hfl 2 _ rfl
    have f3 := hfl 3 _ rfl
    simp [Yba.cells23, Yba.cells5, Yba.cells4] at f0 f1 f2 f3
    match xs, hxl with
    | [y0, y1, y2, y3], _ =>
      obtain ⟨n0, e0, _, w0⟩ := DataW.trod_int Yba.underlying23 f0
      obtain ⟨n1, e1, _, w1⟩ := DataW.trod_int Yba.underlying5 f1
      obtain ⟨n2, e2, _⟩ := DataW.trod_bool Yba.underlying4 f2
      obtain ⟨n3, e3, _, w3⟩ := DataW.trod_int Yba.underlying5 f3
      simp at e0 e1 e2 e3
      subst e0 e1 e2 e3
      have g0 := hcell 0 (by omega)
      have g1 := hcell 1 (by omega)
      have g2 := hcell 2 (by omega)
      have g3 := hcell 3 (by omega)
      exact ⟨(n0, n1, n2, n3), by simpa [Addr.add] using g0, by simpa using g1, by simpa using g2, by simpa using g3, bnd16 w0, bnd8 w1, bnd8 w3⟩

/-- The blocks out of the reading of the first argument. -/
theorem inBs_of {H : Type} {enc : TypeId × Value → H} {W : World} {held : Bool} {fuel : Nat} {a : Option Addr} {len cap : Nat} {x : DataW H × List MemPlace}
    (hf : DataW.trod enc Yba.prog W 0 (fun _ => true) held fuel 22 [.slice a len cap] = some x) : ∃ D : Dat, InBs W a len D ∧ D.Ok len ∧ len ≤ maxLen := by
  rcases open_slice Yba.underlying22 hf with ⟨hcs, _⟩ | ⟨a', len', cap', mm, n, Dd, Pl, hcs, _, hl, hm, hmm, _, hx⟩
  · simp at hcs
    obtain ⟨rfl, rfl, rfl⟩ := hcs
    exact ⟨⟨fun _ => 0, fun _ => 0, fun _ => false, fun _ => 0⟩, fun h => by omega, ⟨fun i hi => by omega, fun i hi => by omega, fun i hi => by omega⟩, Nat.zero_le _⟩
  · simp at hcs
    obtain ⟨rfl, rfl, rfl⟩ := hcs
    simp at hmm
    subst hmm
    obtain ⟨q, hq⟩ := choose_lt (n := mm) (fun i hi => by
      obtain ⟨cs', h1, h2⟩ := hx i hi
      rw [Yba.cells36] at h1
      exact elem_of h1 h2)
    refine ⟨⟨fun i => (q i).1, fun i => (q i).2.1, fun i => (q i).2.2.1, fun i => (q i).2.2.2⟩, fun h0 => ?_, ⟨fun i hi => (hq i (by omega)).2.2.2.2.1, fun i hi => (hq i (by omega)).2.2.2.2.2.1, fun i hi => (hq i (by omega)).2.2.2.2.2.2⟩, by omega⟩
    obtain ⟨b, off, spot⟩ := a'
    have h1 := (hq 0 (by omega)).1
    have hspot : spot = none := by simpa [Addr.add] using World.cell?_spot h1
    subst hspot
    have hadd : ∀ o i, (⟨b, o, none⟩ : Addr).add i = ⟨b, o + i, none⟩ := fun o i => by unfold Addr.add; split <;> simp_all
    rw [hadd] at h1
    refine ⟨b, off, rfl, World.block_lt_of_cell? W _ h1, fun i hi => ?_⟩
    obtain ⟨g0, g1, g2, g3, _⟩ := hq i (by omega)
    rw [hadd] at g0
    rw [hadd, hadd] at g1 g2 g3
    exact ⟨g0, g1, g2, g3⟩
end Go.Proofs.Ybulkcibu
