import Derived.Test.YbulkcibuSort
namespace Go.Proofs.Ybulkcibu
open Go.Shelf Go.RowKit Go.Proofs

/-- slices.Clone of a row of blocks. -/
theorem clone_any (A : Nat → Nat) (L : List Nat) (g cap : Nat) (w : World) (hc : ∀ j, j < L.length → w.cell? ⟨g, j, none⟩ = some (ptr A (L.getD j 0))) (hl : L.length ≤ 600) (h0 : 0 < L.length) :
    Calls Yba.prog 4 #[.slice (some ⟨g, 0, none⟩) L.length cap] w fun e w' => ∃ g' cap', e = .returned (.slice (some ⟨g', 0, none⟩) L.length cap') ∧ g' < w'.heap.size ∧ (∀ j, j < L.length → w'.cell? ⟨g', j, none⟩ = some (ptr A (L.getD j 0))) ∧ Below w.heap.size w w' := by
  obtain ⟨i28, hi28, hz28, hs28, hb28⟩ := info_parts Yba.info28
  have hcon := AnyE.slices_Clone Yba.cloneBlocks i28 (.pointer none) 1 8 hi28 hz28 hs28 hb28 rfl (by decide) Yba.sizeOf28 g 0 L.length cap (L.map (ptr A)) w (by simp) (by unfold maxLen; omega) (by omega)
    (fun j u hj => by
      have hjl : j < L.length := by
        have := (List.getElem?_eq_some_iff.1 hj).1
        simpa using this
      rw [List.getElem?_map, List.getElem?_eq_getElem hjl] at hj
      rw [Nat.zero_add, hc j hjl, List.getD_eq_getElem?_getD, List.getElem?_eq_getElem hjl]
      simpa using hj) (ptr_one A L)
  change Calls Yba.prog 4 _ _ _ at hcon
  refine hcon.mono ?_
  rintro e w' ⟨v', rfl, hown, _, hb⟩
  rcases hown.2 with ⟨_, h1⟩ | ⟨g', cap', cur, rfl, _, hg, _⟩
  · omega
  · refine ⟨g', cap', rfl, (Array.getElem?_eq_some_iff.1 hg).1, fun j hj => ?_, hb⟩
    rw [hown.cellAt j (by omega), List.getElem?_map, List.getElem?_eq_getElem hj, List.getD_eq_getElem?_getD, List.getElem?_eq_getElem hj]
    rfl

set_option maxHeartbeats 1000000 in
set_option maxRecDepth 100000 in
/-- slices.Equal of two rows of the same blocks. -/
theorem equal_any (A : Nat → Nat) (L : List Nat) (g1 c1 g2 c2 : Nat) (w : World) (h1 : ∀ j, j < L.length → w.cell? ⟨g1, j, none⟩ = some (ptr A (L.getD j 0))) (h2 : ∀ j, j < L.length → w.cell? ⟨g2, j, none⟩ = some (ptr A (L.getD j 0))) (hl : L.length ≤ 600) :
    Calls Yba.prog 6 #[.slice (some ⟨g1, 0, none⟩) L.length c1, .slice (some ⟨g2, 0, none⟩) L.length c2] w fun e w' => e = .returned (.bool true) ∧ ∃ q, w' = w.drewN q := by
  have H1 : Aside (∀ j, j < L.length → w.cell? ⟨g1, j, none⟩ = some (ptr A (L.getD j 0))) := h1
  have H2 : Aside (∀ j, j < L.length → w.cell? ⟨g2, j, none⟩ = some (ptr A (L.getD j 0))) := h2
  obtain ⟨info, hinfo, hsz⟩ := Option.map_eq_some_iff.1 Yba.info34
  have HN : Aside (∀ (a : Addr) (W : World), (binOp .neq 28 (.pointer (some a)) (.pointer (some a))).run Yba.prog W = .ok (.bool false) W) := fun a W => neq_of_eql (run_eql_ptr_same (P := Yba.prog) W a Yba.underlying28 hinfo)
  clear h1 h2
  have hle : ((L.length : Int) != (L.length : Int)) = false := by simp
  go_enter Yba.func6, Yba.ntmps6
  go_wp2
  go_loopg [13] L.length (fun k s13 wr => ∃ i q : Nat, i ≤ L.length ∧ L.length - i ≤ k ∧ s13 = .int .i64 i ∧ wr = w.drewN q)
  case atStart => exact ⟨0, 0, Nat.zero_le _, by omega, rfl, rfl⟩
  case round =>
    obtain ⟨i, q, hi, hk, rfl, hwr⟩ := hrel
    by_cases hlt : i < L.length
    · have k1 : wr.cell? ⟨g1, i, none⟩ = some (ptr A (L.getD i 0)) := by rw [hwr]; exact H1.out i hlt
      have k2 : wr.cell? ⟨g2, i, none⟩ = some (ptr A (L.getD i 0)) := by rw [hwr]; exact H2.out i hlt
      have W : Aside (wr = w.drewN q) := hwr
      clear hwr
      unfold ptr at k1 k2
      have hne := fun W => HN.out ⟨A (L.getD i 0), 0, none⟩ W
      generalize A (L.getD i 0) = ai at *
      go_wp2_with fail
      go_quiet (fail)
      go_wp2
      go_roundg (L.length - (i + 1))
      case measure => omega
      case rel => exact ⟨i + 1, q + nq, by omega, Nat.le_refl _, by go_num, by rw [W.out, World.drewN_drewN]⟩
    · have W : Aside (wr = w.drewN q) := hwr
      clear hwr
      go_wp2
      go_ret
      exact ⟨rfl, q, W.out⟩

/-- An object of n cells. -/
def Ob (n : Nat) (f : Nat → Value) (e : TypeId) : Obj := .cells ((List.range n).map f).toArray e (0, 0)
/-- A function turned at one place. -/
def upd (f : Nat → Value) (j : Nat) (v : Value) : Nat → Value := fun i => if i = j then v else f i

theorem Ob.cell {w : World} {g n : Nat} {f : Nat → Value} {e : TypeId} (h : w.heap[g]? = some (Ob n f e)) {j : Nat} (hj : j < n) : w.cell? ⟨g, j, none⟩ = some (f j) := by
  rw [cell_of_row w g j _ e (0, 0) h]
  simp [hj]
theorem Ob.free {w : World} {g n : Nat} {f : Nat → Value} {e : TypeId} (h : w.heap[g]? = some (Ob n f e)) (j : Nat) : w.frozen? ⟨g, j, none⟩ = false := by
  unfold World.frozen?
  rw [h]
  simp [Ob]
theorem Ob.set {w : World} {g n : Nat} {f : Nat → Value} {e : TypeId} (h : w.heap[g]? = some (Ob n f e)) {j : Nat} (v : Value) : (w.setCell ⟨g, j, none⟩ v).heap[g]? = some (Ob n (upd f j v) e) := by
  have e1 : ((List.range n).map f).toArray.setIfInBounds j v = ((List.range n).map (upd f j v)).toArray := by
    apply Array.ext_getElem?
    intro k
    simp only [Array.getElem?_setIfInBounds, List.size_toArray, List.length_map, List.length_range, List.getElem?_toArray, List.getElem?_map]
    by_cases hk : j = k
    · subst hk
      by_cases hn : j < n
      · simp [hn, upd]
      · simp [hn]
    · have : ¬ k = j := fun e => hk e.symm
      by_cases hn : k < n
      · simp [hk, hn, this, upd]
      · simp [hk, hn]
  unfold World.setCell
  simp only [Array.getElem?_modify, if_true, h, Option.map_some]
  show some (Obj.cells (((List.range n).map f).toArray.setIfInBounds j v) e (0, 0)) = _
  rw [e1]
  rfl
theorem Ob.lt {w : World} {g n : Nat} {f : Nat → Value} {e : TypeId} (h : w.heap[g]? = some (Ob n f e)) : g < w.heap.size := (Array.getElem?_eq_some_iff.1 h).1
theorem Ob.congr {n : Nat} {f f' : Nat → Value} {e : TypeId} (h : ∀ j, j < n → f j = f' j) : Ob n f e = Ob n f' e := by
  unfold Ob
  congr 2
  apply List.map_congr_left
  intro j hj
  exact h j (List.mem_range.1 hj)
end Go.Proofs.Ybulkcibu
