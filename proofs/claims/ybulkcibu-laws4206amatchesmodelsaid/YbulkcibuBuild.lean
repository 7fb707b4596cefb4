import Derived.Test.YbulkcibuObj
namespace Go.Proofs.Ybulkcibu
open Go.RowKit

/-- What the input says of block i + 1. -/
structure Dat where
  p : Nat → Int
  dl : Nat → Int
  ap : Nat → Bool
  ds : Nat → Int
structure Dat.Ok (D : Dat) (m : Nat) : Prop where
  p0 : ∀ i, i < m → 0 ≤ D.p i ∧ D.p i ≤ 65535
  dl0 : ∀ i, i < m → 0 ≤ D.dl i ∧ D.dl i ≤ 255
  ds0 : ∀ i, i < m → 0 ≤ D.ds i ∧ D.ds i ≤ 255
/-- THE SLICE OF BLOCK DESCRIPTIONS THAT CAME IN. -/
def InBs (w : World) (a : Option Addr) (m : Nat) (D : Dat) : Prop :=
  0 < m → ∃ b off, a = some ⟨b, off, none⟩ ∧ b < w.heap.size ∧ ∀ i, i < m → w.cell? ⟨b, off + i * 4, none⟩ = some (.int .u16 (D.p i)) ∧ w.cell? ⟨b, off + i * 4 + 1, none⟩ = some (.int .u8 (D.dl i)) ∧ w.cell? ⟨b, off + i * 4 + 2, none⟩ = some (.bool (D.ap i)) ∧ w.cell? ⟨b, off + i * 4 + 3, none⟩ = some (.int .u8 (D.ds i))

/-- The plain tree that the law builds. -/
def parD (D : Dat) (i : Nat) : Nat := if i = 0 then 0 else (D.p (i - 1) % (i : Int)).toNat
def arrL (root : Int) (D : Dat) : Nat → List Int
  | 0 => [root]
  | k + 1 => arrL root D k ++ [(arrL root D k).getD (parD D (k + 1)) 0 + D.dl k]
def arrD (root : Int) (D : Dat) (i : Nat) : Int := (arrL root D i).getD i 0
def appD (D : Dat) (i : Nat) : Bool := if i = 0 then false else D.ap (i - 1)
def dspD (D : Dat) (i : Nat) : Int := if i = 0 then 0 else D.ds (i - 1) % 4
def treeD (root : Int) (D : Dat) (m : Nat) : Tr := { n := m + 1, par := parD D, arr := arrD root D, app := appD D, dsp := dspD D }

theorem parD_lt {D : Dat} {i : Nat} (h : i ≠ 0) : parD D i < i := by
  unfold parD
  rw [if_neg h]
  have h1 : 0 ≤ D.p (i - 1) % (i : Int) := Int.emod_nonneg _ (by omega)
  have h2 : D.p (i - 1) % (i : Int) < (i : Int) := Int.emod_lt_of_pos _ (by omega)
  omega
theorem parD_int {D : Dat} {i : Nat} (h : i ≠ 0) : D.p (i - 1) % (i : Int) = (parD D i : Int) := by
  unfold parD
  rw [if_neg h]
  have h1 : 0 ≤ D.p (i - 1) % (i : Int) := Int.emod_nonneg _ (by omega)
  omega
theorem arrL_length (root : Int) (D : Dat) : ∀ k, (arrL root D k).length = k + 1
  | 0 => rfl
  | k + 1 => by simp [arrL, arrL_length root D k]
theorem arrL_get (root : Int) (D : Dat) : ∀ k j, j ≤ k → (arrL root D k).getD j 0 = arrD root D j
  | 0, j, h => by
    have : j = 0 := by omega
    subst this
    rfl
  | k + 1, j, h => by
    by_cases e : j = k + 1
    · subst e; rfl
    · rw [← arrL_get root D k j (by omega)]
      show (arrL root D k ++ _).getD j 0 = _
      rw [List.getD_eq_getElem?_getD, List.getElem?_append_left (by rw [arrL_length]; omega), ← List.getD_eq_getElem?_getD]
theorem arrD_succ (root : Int) (D : Dat) (k : Nat) : arrD root D (k + 1) = arrD root D (parD D (k + 1)) + D.dl k := by
  have hp := parD_lt (D := D) (i := k + 1) (by omega)
  rw [← arrL_get root D k (parD D (k + 1)) (by omega)]
  unfold arrD
  show (arrL root D k ++ _).getD (k + 1) 0 = _
  rw [List.getD_eq_getElem?_getD, List.getElem?_append_right (by rw [arrL_length]; omega), arrL_length]
  simp
theorem arrD_bounds {root : Int} {D : Dat} {m : Nat} (hD : D.Ok m) (h0 : 0 ≤ root) (h1 : root ≤ 65535) : ∀ k i, i ≤ k → i < m + 1 → root ≤ arrD root D i ∧ arrD root D i ≤ 65535 + 255 * (i : Nat)
  | k, 0, _, _ => by show root ≤ root ∧ root ≤ _; omega
  | 0, i + 1, h, _ => by omega
  | k + 1, i + 1, h, hm => by
    have hp := parD_lt (D := D) (i := i + 1) (by omega)
    have hd := hD.dl0 i (by omega)
    have := arrD_bounds hD h0 h1 k (parD D (i + 1)) (by omega) (by omega)
    rw [arrD_succ]
    omega
theorem treeD_ok {root : Int} {D : Dat} {m : Nat} (hD : D.Ok m) (h0 : 0 ≤ root) (h1 : root ≤ 65535) (hm : m ≤ 512) : (treeD root D m).Ok where
  pos := Nat.succ_pos _
  len := by show m + 1 ≤ 513; omega
  par i h _ := parD_lt h
  arr0 i hi := by have := arrD_bounds hD h0 h1 i i (Nat.le_refl _) hi; show 0 ≤ arrD root D i; omega
  up i hi := (arrD_bounds hD h0 h1 i i (Nat.le_refl _) hi).1
  dsp0 i _ := by
    show 0 ≤ dspD D i ∧ dspD D i ≤ 3
    unfold dspD
    split <;> omega

/-- The cells of block j, while the blocks below k are built. -/
def blkF (T : Tr) (A : Nat → Nat) (dep : Nat → Int) (k j : Nat) : Nat → Value
  | 0 => .int .u64 j
  | 1 => .string (hashOf j)
  | 2 => if j = 0 then .pointer none else ptr A (T.par j)
  | 3 => .int .u64 (dep j)
  | 4 => .pointer none
  | 5 => optPtr A (lastChild T.par j k)
  | 6 => if j = 0 then .pointer none else optPtr A (lastChild T.par (T.par j) j)
  | 7 => .int .u64 0
  | 8 => .int .u64 0
  | 9 => .int .u64 (T.arr j)
  | 10 => .bool (T.app j)
  | 11 => .int .u8 (T.dsp j)
  | _ => .int .u32 0

/-- Where block i lies. -/
def addrOf (H i : Nat) : Nat := H + 3 + 2 * i

/-- THE MEMORY WHILE THE BLOCKS BELOW k ARE BUILT. -/
structure Stage (w wr : World) (T : Tr) (dep : Nat → Int) (k : Nat) : Prop where
  size : wr.heap.size = w.heap.size + 2 + 2 * k
  bel : Below w.heap.size w wr
  rowB : wr.heap[w.heap.size]? = some (Ob T.n (fun j => if j < k then ptr (addrOf w.heap.size) j else .pointer none) 28)
  rowP : wr.heap[w.heap.size + 1]? = some (Ob T.n (fun j => .int .i64 (if j < k then (T.par j : Int) else 0)) 3)
  rowA : wr.heap[w.heap.size + 2]? = some (Ob T.n (fun j => .int .u64 (if j < k then T.arr j else 0)) 27)
  blk : ∀ j, j < k → wr.heap[addrOf w.heap.size j]? = some (Ob 13 (blkF T (addrOf w.heap.size) dep k j) 34)
  dep0 : ∀ j, j < k → 0 ≤ dep j ∧ dep j ≤ (j : Int)

theorem Stage.tree {w wr : World} {T : Tr} {dep : Nat → Int} (h : Stage w wr T dep T.n) : TreeAt wr (addrOf w.heap.size) T where
  obj i hi := ⟨_, h.blk i hi⟩
  inj i j _ _ e := by unfold addrOf at e; omega
  slot i hi := Ob.cell (h.blk i hi) (by omega)
  hash i hi := Ob.cell (h.blk i hi) (by omega)
  parent i hi h0 := by rw [Ob.cell (h.blk i hi) (by omega)]; simp [blkF, h0]
  jump i hi := Ob.cell (h.blk i hi) (by omega)
  child i hi := Ob.cell (h.blk i hi) (by omega)
  sibling i hi h0 := by rw [Ob.cell (h.blk i hi) (by omega)]; simp [blkF, h0]
  arrived i hi := Ob.cell (h.blk i hi) (by omega)
  approved i hi := Ob.cell (h.blk i hi) (by omega)
  dispute i hi := Ob.cell (h.blk i hi) (by omega)

/-- THE MEMORY IN THE MIDST OF A ROUND. -/
structure Mem (w W : World) (T : Tr) (dep : Nat → Int) (k sz : Nat) (fB fP fA : Nat → Value) : Prop where
  size : W.heap.size = sz
  bel : Below w.heap.size w W
  rowB : W.heap[w.heap.size]? = some (Ob T.n fB 28)
  rowP : W.heap[w.heap.size + 1]? = some (Ob T.n fP 3)
  rowA : W.heap[w.heap.size + 2]? = some (Ob T.n fA 27)
  blk : ∀ j, j < k → W.heap[addrOf w.heap.size j]? = some (Ob 13 (blkF T (addrOf w.heap.size) dep k j) 34)

section
variable {w W : World} {T : Tr} {dep : Nat → Int} {k sz : Nat} {fB fP fA : Nat → Value}
theorem Stage.mem {wr : World} (h : Stage w wr T dep k) : Mem w wr T dep k (w.heap.size + 2 + 2 * k) (fun j => if j < k then ptr (addrOf w.heap.size) j else .pointer none) (fun j => .int .i64 (if j < k then (T.par j : Int) else 0)) (fun j => .int .u64 (if j < k then T.arr j else 0)) :=
  ⟨h.size, h.bel, h.rowB, h.rowP, h.rowA, h.blk⟩
theorem Mem.alloc (h : Mem w W T dep k sz fB fP fA) (o : Obj) : Mem w (W.alloc o) T dep k (sz + 1) fB fP fA where
  size := by simp [h.size]
  bel := h.bel.alloc h.bel.size o
  rowB := by rw [Below.heap_alloc _ _ _ (Ob.lt h.rowB)]; exact h.rowB
  rowP := by rw [Below.heap_alloc _ _ _ (Ob.lt h.rowP)]; exact h.rowP
  rowA := by rw [Below.heap_alloc _ _ _ (Ob.lt h.rowA)]; exact h.rowA
  blk j hj := by rw [Below.heap_alloc _ _ _ (Ob.lt (h.blk j hj))]; exact h.blk j hj
theorem Mem.drew (h : Mem w W T dep k sz fB fP fA) : Mem w W.drew T dep k sz fB fP fA := ⟨h.size, h.bel.drew, h.rowB, h.rowP, h.rowA, h.blk⟩
theorem Mem.setP (h : Mem w W T dep k sz fB fP fA) (j : Nat) (v : Value) : Mem w (W.setCell ⟨w.heap.size + 1, j, none⟩ v) T dep k sz fB (upd fP j v) fA where
  size := by simp [World.setCell, h.size]
  bel := h.bel.setCell (Nat.le_succ _) v
  rowB := by rw [Below.heap_setCell _ _ _ _ (by show w.heap.size ≠ w.heap.size + 1; omega)]; exact h.rowB
  rowP := Ob.set h.rowP v
  rowA := by rw [Below.heap_setCell _ _ _ _ (by show w.heap.size + 2 ≠ w.heap.size + 1; omega)]; exact h.rowA
  blk i hi := by rw [Below.heap_setCell _ _ _ _ (by show addrOf w.heap.size i ≠ w.heap.size + 1; unfold addrOf; omega)]; exact h.blk i hi
theorem Mem.setA (h : Mem w W T dep k sz fB fP fA) (j : Nat) (v : Value) : Mem w (W.setCell ⟨w.heap.size + 2, j, none⟩ v) T dep k sz fB fP (upd fA j v) where
  size := by simp [World.setCell, h.size]
  bel := h.bel.setCell (by show w.heap.size ≤ w.heap.size + 2; omega) v
  rowB := by rw [Below.heap_setCell _ _ _ _ (by show w.heap.size ≠ w.heap.size + 2; omega)]; exact h.rowB
  rowP := by rw [Below.heap_setCell _ _ _ _ (by show w.heap.size + 1 ≠ w.heap.size + 2; omega)]; exact h.rowP
  rowA := Ob.set h.rowA v
  blk i hi := by rw [Below.heap_setCell _ _ _ _ (by show addrOf w.heap.size i ≠ w.heap.size + 2; unfold addrOf; omega)]; exact h.blk i hi
end

theorem lastChild_ge {par : Nat → Nat} {p k : Nat} (h : ∀ c, c ≠ 0 → c < k → par c ≠ p) : lastChild par p k = none := by
  cases hc : lastChild par p k with
  | none => rfl
  | some c =>
    obtain ⟨h1, h2, h3, _⟩ := lastChild_some hc
    exact absurd h3 (h c h2 h1)

/-- THE ROUND's END: the new block lies at its place, and its parent knows it. -/
theorem Mem.stage {w W : World} {T : Tr} {dep dep' : Nat → Int} {k : Nat} {fB fP fA : Nat → Value} (hk : k ≠ 0) (hn : k < T.n) (hT : T.Ok) (h : Mem w W T dep k (w.heap.size + 2 + 2 * k + 1) fB fP fA)
    (hB : ∀ j, j < T.n → fB j = if j < k then ptr (addrOf w.heap.size) j else .pointer none)
    (hP : ∀ j, j < T.n → fP j = .int .i64 (if j < k + 1 then (T.par j : Int) else 0)) (hA : ∀ j, j < T.n → fA j = .int .u64 (if j < k + 1 then T.arr j else 0))
    (hd : ∀ j, j < k → dep' j = dep j) (hd0 : ∀ j, j < k + 1 → 0 ≤ dep' j ∧ dep' j ≤ (j : Int)) {o : Obj}
    (ho : o = Ob 13 (upd (blkF T (addrOf w.heap.size) dep' (k + 1) k) 6 (optPtr (addrOf w.heap.size) (lastChild T.par (T.par k) k))) 34) :
    Stage w (((W.alloc o).setCell ⟨addrOf w.heap.size (T.par k), 5, none⟩ (ptr (addrOf w.heap.size) k)).setCell ⟨w.heap.size, k, none⟩ (ptr (addrOf w.heap.size) k)) T dep' (k + 1) := by
  have hp := hT.par k hk hn
  have hm := h.alloc o
  have hnew : (W.alloc o).heap[addrOf w.heap.size k]? = some o := by
    have : addrOf w.heap.size k = W.heap.size := by rw [h.size]; unfold addrOf; omega
    rw [this]
    exact heap_alloc_new W o
  have hob : o = Ob 13 (blkF T (addrOf w.heap.size) dep' (k + 1) k) 34 := by
    rw [ho]
    apply Ob.congr
    intro j _
    unfold upd
    split
    · rename_i e
      subst e
      simp [blkF, hk]
    · rfl
  have ne1 : ∀ i, addrOf w.heap.size i ≠ w.heap.size := fun i => by unfold addrOf; omega
  have ne2 : ∀ i j, i ≠ j → addrOf w.heap.size i ≠ addrOf w.heap.size j := fun i j e => by unfold addrOf; omega
  refine ⟨?_, ?_, ?_, ?_, ?_, fun j hj => ?_, hd0⟩
  · simp [World.setCell, h.size]
    omega
  · exact (hm.bel.setCell (by show w.heap.size ≤ addrOf _ _; unfold addrOf; omega) _).setCell (Nat.le_refl _) _
  · rw [Ob.set (f := fB) (by rw [Below.heap_setCell _ _ _ _ (Ne.symm (ne1 _))]; exact hm.rowB)]
    rw [Ob.congr (f' := fun j => if j < k + 1 then ptr (addrOf w.heap.size) j else .pointer none)]
    intro j hj
    unfold upd
    by_cases e : j = k
    · subst e; simp
    · rw [if_neg e, hB j hj]
      by_cases h1 : j < k
      · rw [if_pos h1, if_pos (by omega)]
      · rw [if_neg h1, if_neg (by omega)]
  · rw [Below.heap_setCell _ _ _ _ (by show w.heap.size + 1 ≠ w.heap.size; omega), Below.heap_setCell _ _ _ _ (by show w.heap.size + 1 ≠ addrOf _ _; unfold addrOf; omega), hm.rowP, Ob.congr hP]
  · rw [Below.heap_setCell _ _ _ _ (by show w.heap.size + 2 ≠ w.heap.size; omega), Below.heap_setCell _ _ _ _ (by show w.heap.size + 2 ≠ addrOf _ _; unfold addrOf; omega), hm.rowA, Ob.congr hA]
  · rw [Below.heap_setCell _ _ _ _ (ne1 j)]
    by_cases e : j = T.par k
    · subst e
      rw [Ob.set (hm.blk _ hp), Ob.congr]
      intro i _
      unfold upd
      by_cases e5 : i = 5
      · subst e5
        show ptr _ k = optPtr _ (lastChild T.par (T.par k) (k + 1))
        rw [lastChild_hit hk rfl]
        rfl
      · rw [if_neg e5]
        unfold blkF
        split <;> first | rfl | (rw [hd _ hp]) | omega
    · rw [Below.heap_setCell _ _ _ _ (ne2 _ _ e)]
      by_cases ek : j = k
      · subst ek
        rw [hnew, hob]
      · rw [hm.blk j (by omega), Ob.congr]
        intro i _
        unfold blkF
        split
        any_goals rfl
        · rw [hd j (by omega)]
        · rw [lastChild_miss (p := j)]
          intro h1
          exact e h1.2.symm
end Go.Proofs.Ybulkcibu
