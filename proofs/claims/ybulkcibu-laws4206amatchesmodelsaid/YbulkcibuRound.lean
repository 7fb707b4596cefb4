import Derived.Test.YbulkcibuBuild
namespace Go.Proofs.Ybulkcibu
open Go.RowKit

theorem Yba.info3 : (Yba.prog.info? 3).map (fun i => (i.zero, i.size, i.bytes)) = some (some (.int .i64 0), 1, 8) := by kernel_rfl
theorem Yba.info27 : (Yba.prog.info? 27).map (fun i => (i.zero, i.size, i.bytes)) = some (some (.int .u64 0), 1, 8) := by kernel_rfl
theorem Yba.info4 : (Yba.prog.info? 4).map (fun i => (i.zero, i.size, i.bytes)) = some (some (.bool false), 1, 1) := by kernel_rfl

theorem made_ob (z : Value) (n : Nat) (e : TypeId) (hz : z.cells = #[z]) : Obj.cells (madeCells z.cells (n * 1)) e = Ob n (fun _ => z) e := by
  unfold Ob
  have : (madeCells z.cells (n * 1)) = ((List.range n).map (fun _ => z)).toArray := by
    rw [hz, Nat.mul_one]
    apply Array.toList_inj.1
    rw [toList_madeCells_one, List.map_const', List.length_range]
  rw [this]

/-- 'make' of m + 1 elements of one cell. -/
theorem make_any (t e : TypeId) (z : Value) (bytes : Nat) (ht : Yba.prog.underlying t = some (.slice e)) (hi : (Yba.prog.info? e).map (fun i => (i.zero, i.size, i.bytes)) = some (some z, 1, bytes)) (hz : z.cells = #[z]) (hb : bytes ≤ 8) (m : Nat) (hm : m ≤ 512) :
    ∀ W, (Instr.makeSlice t (.int .i64 ((m : Int) + 1)) (.int .i64 ((m : Int) + 1))).run Yba.prog W = .ok (.slice (some ⟨W.heap.size, 0, none⟩) (m + 1) (m + 1)) (W.alloc (Ob (m + 1) (fun _ => z) e)) := by
  intro W
  obtain ⟨i, h1, h2, h3, h4⟩ := info_parts hi
  have hbb : (i.bytes : Int) * ((m : Int) + 1) ≤ 281474976710656 := by
    rw [h4]
    have : (bytes : Int) * ((m : Int) + 1) ≤ 8 * ((m : Int) + 1) := Int.mul_le_mul_of_nonneg_right (by omega) (by omega)
    omega
  have := run_make (P := Yba.prog) W t e i z ht h1 h2 .i64 .i64 ((m : Int) + 1) ((m : Int) + 1) (by omega) (Int.le_refl _) hbb (by omega)
  rw [this, h3, show ((m : Int) + 1).toNat = m + 1 by omega, made_ob z (m + 1) e hz]

/-- The first block. -/
theorem stage_one {w W : World} {root : Int} {D : Dat} {m : Nat} (hs : W.heap.size = w.heap.size + 3) (hb : Below w.heap.size w W) (h0 : W.heap[w.heap.size]? = some (Ob (m + 1) (fun _ => .pointer none) 28)) (h1 : W.heap[w.heap.size + 1]? = some (Ob (m + 1) (fun _ => .int .i64 0) 3)) (h2 : W.heap[w.heap.size + 2]? = some (Ob (m + 1) (fun _ => .int .u64 0) 27)) :
    Stage w (((W.setCell ⟨w.heap.size + 2, 0, none⟩ (.int .u64 root)).alloc (.cells #[.int .u64 0, .string ⟨#[114]⟩, .pointer none, .int .u64 0, .pointer none, .pointer none, .pointer none, .int .u64 0, .int .u64 0, .int .u64 root, .bool false, .int .u8 0, .int .u32 0] 34)).setCell ⟨w.heap.size, 0, none⟩ (.pointer (some ⟨w.heap.size + 3, 0, none⟩))) (treeD root D m) (fun _ => 0) 1 := by
  have e2 : (W.setCell ⟨w.heap.size + 2, 0, none⟩ (.int .u64 root)).heap.size = w.heap.size + 3 := by simp [World.setCell, hs]
  have ne1 : ∀ i, addrOf w.heap.size i ≠ w.heap.size := fun i => by unfold addrOf; omega
  refine ⟨?_, ?_, ?_, ?_, ?_, fun j hj => ?_, fun j hj => by omega⟩
  · simp [World.setCell, hs]
  · exact ((hb.setCell (by show w.heap.size ≤ w.heap.size + 2; omega) _).alloc (by omega) _).setCell (Nat.le_refl _) _
  · rw [Ob.set (f := fun _ => .pointer none) (by rw [Below.heap_alloc _ _ _ (by omega), Below.heap_setCell _ _ _ _ (by show w.heap.size ≠ w.heap.size + 2; omega)]; exact h0)]
    rw [show (treeD root D m).n = m + 1 from rfl, Ob.congr]
    intro j _
    unfold upd
    by_cases e : j = 0
    · subst e; rfl
    · rw [if_neg e, if_neg (by omega)]
  · rw [Below.heap_setCell _ _ _ _ (by show w.heap.size + 1 ≠ w.heap.size; omega), Below.heap_alloc _ _ _ (by omega), Below.heap_setCell _ _ _ _ (by show w.heap.size + 1 ≠ w.heap.size + 2; omega), h1]
    rw [show (treeD root D m).n = m + 1 from rfl, Ob.congr]
    intro j _
    by_cases e : j = 0
    · subst e; rfl
    · rw [if_neg (by omega)]
  · rw [Below.heap_setCell _ _ _ _ (by show w.heap.size + 2 ≠ w.heap.size; omega), Below.heap_alloc _ _ _ (by omega), Ob.set h2]
    rw [show (treeD root D m).n = m + 1 from rfl, Ob.congr]
    intro j _
    unfold upd
    by_cases e : j = 0
    · subst e; rfl
    · rw [if_neg e, if_neg (by omega)]
  · have : j = 0 := by omega
    subst this
    rw [Below.heap_setCell _ _ _ _ (ne1 0), show addrOf w.heap.size 0 = (W.setCell ⟨w.heap.size + 2, 0, none⟩ (.int .u64 root)).heap.size by rw [e2]; rfl, heap_alloc_new]
    rfl

theorem le_step {f : Nat → Int} {k : Nat} {mx mx' : Int} (h : ∀ j, j < k → f j ≤ mx) (h1 : mx ≤ mx') (h2 : f k ≤ mx') : ∀ j, j < k + 1 → f j ≤ mx' := by
  intro j hj
  by_cases e : j = k
  · subst e; exact h2
  · have := h j (by omega); omega
theorem ne_step {f : Nat → Int} {k : Nat} (h : ∀ j, j < k → j ≠ 0 → f j ≠ 2) (h2 : f k ≠ 2) : ∀ j, j < k + 1 → j ≠ 0 → f j ≠ 2 := by
  intro j hj h0
  by_cases e : j = k
  · subst e; exact h2
  · exact h j (by omega) h0
theorem Stage.drew {w wr : World} {T : Tr} {dep : Nat → Int} {k : Nat} (h : Stage w wr T dep k) : Stage w wr.drew T dep k := ⟨h.size, h.bel.drew, h.rowB, h.rowP, h.rowA, h.blk, h.dep0⟩


theorem new_block (root : Int) (D : Dat) (m H : Nat) (dep' : Nat → Int) (k' : Nat) (sib : Value) :
    Obj.cells #[.int .u64 ((k' : Int) + 1), .string ⟨#[98]⟩, .pointer (some ⟨addrOf H (parD D (k' + 1)), 0, none⟩), .int .u64 (dep' (k' + 1)), .pointer none, .pointer none, sib, .int .u64 0, .int .u64 0, .int .u64 (arrD root D (k' + 1)), .bool (D.ap k'), .int .u8 (D.ds k' % 4), .int .u32 0] 34 =
      Ob 13 (upd (blkF (treeD root D m) (addrOf H) dep' (k' + 1 + 1) (k' + 1)) 6 sib) 34 := by
  have h5 : lastChild (parD D) (k' + 1) (k' + 1 + 1) = none := lastChild_ge fun c h0 h1 => by
    have := parD_lt (D := D) h0
    omega
  unfold Ob
  simp [List.range, List.range.loop, upd, blkF, treeD, h5, hashOf, appD, dspD, ptr, optPtr]

/-- THE ROUND's END, as the walk leaves the world. -/
theorem round_end {w W2 W3 : World} {root : Int} {D : Dat} {m k' : Nat} {dep : Nat → Int} {fB fP fA : Nat → Value} {sib : Value} (hT : (treeD root D m).Ok) (hk : k' + 1 < m + 1)
    (h : Mem w W2 (treeD root D m) dep (k' + 1) (w.heap.size + 2 + 2 * (k' + 1) + 1) fB fP fA)
    (hB : ∀ j, j < m + 1 → fB j = if j < k' + 1 then ptr (addrOf w.heap.size) j else .pointer none)
    (hP : ∀ j, j < m + 1 → fP j = .int .i64 (if j < k' + 1 + 1 then (parD D j : Int) else 0)) (hA : ∀ j, j < m + 1 → fA j = .int .u64 (if j < k' + 1 + 1 then arrD root D j else 0))
    (hd0 : ∀ j, j < k' + 1 → 0 ≤ dep j ∧ dep j ≤ (j : Int))
    (hs : sib = optPtr (addrOf w.heap.size) (lastChild (parD D) (parD D (k' + 1)) (k' + 1))) {aP : Nat} (ha : aP = addrOf w.heap.size (parD D (k' + 1)))
    (h3 : W3 = (W2.alloc (Obj.cells #[.int .u64 ((k' : Int) + 1), .string ⟨#[98]⟩, .pointer (some ⟨aP, 0, none⟩), .int .u64 (dep (parD D (k' + 1)) + 1), .pointer none, .pointer none, .pointer none, .int .u64 0, .int .u64 0, .int .u64 (arrD root D (k' + 1)), .bool (D.ap k'), .int .u8 (D.ds k' % 4), .int .u32 0] 34)).drew) :
    Stage w (((W3.setCell ⟨w.heap.size + 2 + 2 * (k' + 1) + 1, 6, none⟩ sib).setCell ⟨aP, 5, none⟩ (.pointer (some ⟨w.heap.size + 2 + 2 * (k' + 1) + 1, 0, none⟩))).setCell ⟨w.heap.size, k' + 1, none⟩ (.pointer (some ⟨w.heap.size + 2 + 2 * (k' + 1) + 1, 0, none⟩))) (treeD root D m) (fun j => if j = k' + 1 then dep (parD D (k' + 1)) + 1 else dep j) (k' + 1 + 1) := by
  subst h3 ha
  have hpl := parD_lt (D := D) (i := k' + 1) (by omega)
  have hN : w.heap.size + 2 + 2 * (k' + 1) + 1 = addrOf w.heap.size (k' + 1) := by unfold addrOf; omega
  have hNs : w.heap.size + 2 + 2 * (k' + 1) + 1 = W2.heap.size := h.size.symm
  have key := Mem.stage (dep' := fun j => if j = k' + 1 then dep (parD D (k' + 1)) + 1 else dep j) (by omega) hk hT h hB hP hA (fun j hj => if_neg (by omega)) (fun j hj => by
    by_cases e : j = k' + 1
    · have := hd0 _ hpl
      simp only [e, if_true]
      omega
    · simp only [e, if_false]
      exact hd0 j (by omega)) (o := _) rfl
  have key2 := key.drew
  rw [← new_block] at key2
  simp only [if_true] at key2
  rw [World.setCell_drew, World.setCell_drew, World.setCell_drew, World.setCell_alloc_at _ _ _ _ _ hNs]
  rw [hs]
  rw [hN]
  exact key2
end Go.Proofs.Ybulkcibu
