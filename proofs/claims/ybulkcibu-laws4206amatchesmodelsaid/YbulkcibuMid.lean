import Derived.Test.YbulkcibuRound
namespace Go.Proofs.Ybulkcibu
open Go.RowKit

/-- THE TREE AND ITS THREE ROWS IN MEMORY. -/
structure Rws (W : World) (H : Nat) (T : Tr) : Prop where
  tree : TreeAt W (addrOf H) T
  rowB : ∀ j, j < T.n → W.cell? ⟨H, j, none⟩ = some (ptr (addrOf H) j)
  rowP : ∀ j, j < T.n → W.cell? ⟨H + 1, j, none⟩ = some (.int .i64 (T.par j : Int))
  rowA : ∀ j, j < T.n → W.cell? ⟨H + 2, j, none⟩ = some (.int .u64 (T.arr j))
  lt : H + 2 < W.heap.size
theorem Rws.below {W W' : World} {H : Nat} {T : Tr} (h : Rws W H T) (hb : Below W.heap.size W W') : Rws W' H T where
  tree := h.tree.below hb
  rowB j hj := by rw [hb.cell (p := ⟨H, j, none⟩) (by have := h.lt; show H < _; omega)]; exact h.rowB j hj
  rowP j hj := by rw [hb.cell (p := ⟨H + 1, j, none⟩) (by have := h.lt; show H + 1 < _; omega)]; exact h.rowP j hj
  rowA j hj := by rw [hb.cell (p := ⟨H + 2, j, none⟩) h.lt]; exact h.rowA j hj
  lt := by have := h.lt; have := hb.size; omega
theorem Stage.rws {w wr : World} {T : Tr} {dep : Nat → Int} (h : Stage w wr T dep T.n) : Rws wr w.heap.size T where
  tree := h.tree
  rowB j hj := by rw [Ob.cell h.rowB hj, if_pos hj]
  rowP j hj := by rw [Ob.cell h.rowP hj, if_pos hj]
  rowA j hj := by rw [Ob.cell h.rowA hj, if_pos hj]
  lt := Ob.lt h.rowA

/-- The tips from r on. -/
structure Tips (T : Tr) (L : List Nat) (r : Nat) : Prop where
  mem : ∀ i, i ∈ L ↔ r ≤ i ∧ i < T.n ∧ lastChild T.par i T.n = none
  nd : L.Nodup
theorem Tips.start (T : Tr) : Tips T [] T.n := ⟨fun i => ⟨fun h => by simp at h, fun h => by omega⟩, List.nodup_nil⟩
theorem Tips.len {T : Tr} {L : List Nat} {r : Nat} (h : Tips T L r) : L.length ≤ T.n := len_le_of_nodup h.nd fun i hi => ((h.mem i).1 hi).2.1
theorem Tips.hit {T : Tr} {L : List Nat} {r : Nat} (h : Tips T L (r + 1)) (hr : r < T.n) (hl : lastChild T.par r T.n = none) : Tips T (L ++ [r]) r where
  mem i := by
    rw [List.mem_append, h.mem, List.mem_singleton]
    constructor
    · rintro (⟨h1, h2, h3⟩ | rfl)
      · exact ⟨by omega, h2, h3⟩
      · exact ⟨Nat.le_refl _, hr, hl⟩
    · rintro ⟨h1, h2, h3⟩
      by_cases e : i = r
      · exact .inr e
      · exact .inl ⟨by omega, h2, h3⟩
  nd := by
    rw [List.nodup_append]
    refine ⟨h.nd, by simp, fun x hx y hy e => ?_⟩
    subst e
    rw [List.mem_singleton] at hy
    have := ((h.mem x).1 hx).1
    omega
theorem Tips.miss {T : Tr} {L : List Nat} {r c : Nat} (h : Tips T L (r + 1)) (hl : lastChild T.par r T.n = some c) : Tips T L r where
  mem i := by
    rw [h.mem]
    constructor
    · rintro ⟨h1, h2, h3⟩; exact ⟨by omega, h2, h3⟩
    · rintro ⟨h1, h2, h3⟩
      by_cases e : i = r
      · subst e; rw [hl] at h3; cases h3
      · exact ⟨by omega, h2, h3⟩
  nd := h.nd

/-- The three rows of bools. -/
structure Bl (V wr : World) (q n : Nat) (f1 f2 f3 : Nat → Bool) : Prop where
  bel : Below V.heap.size V wr
  hq : V.heap.size ≤ q
  r1 : wr.heap[q]? = some (Ob n (fun j => .bool (f1 j)) 4)
  r2 : wr.heap[q + 1]? = some (Ob n (fun j => .bool (f2 j)) 4)
  r3 : wr.heap[q + 2]? = some (Ob n (fun j => .bool (f3 j)) 4)
def updB (f : Nat → Bool) (i : Nat) (b : Bool) : Nat → Bool := fun j => if j = i then b else f j
theorem updB_ob (n : Nat) (f : Nat → Bool) (i : Nat) (b : Bool) : Ob n (upd (fun j => .bool (f j)) i (.bool b)) 4 = Ob n (fun j => .bool (updB f i b j)) 4 := by
  apply Ob.congr
  intro j _
  unfold upd updB
  split <;> rfl
theorem Bl.set1 {V wr : World} {q n : Nat} {f1 f2 f3 : Nat → Bool} (h : Bl V wr q n f1 f2 f3) (i : Nat) (b : Bool) : Bl V (wr.setCell ⟨q, i, none⟩ (.bool b)) q n (updB f1 i b) f2 f3 where
  bel := h.bel.setCell h.hq _
  hq := h.hq
  r1 := by rw [Ob.set h.r1, updB_ob]
  r2 := by rw [Below.heap_setCell _ _ _ _ (by show q + 1 ≠ q; omega)]; exact h.r2
  r3 := by rw [Below.heap_setCell _ _ _ _ (by show q + 2 ≠ q; omega)]; exact h.r3
theorem Bl.set2 {V wr : World} {q n : Nat} {f1 f2 f3 : Nat → Bool} (h : Bl V wr q n f1 f2 f3) (i : Nat) (b : Bool) : Bl V (wr.setCell ⟨q + 1, i, none⟩ (.bool b)) q n f1 (updB f2 i b) f3 where
  bel := h.bel.setCell (by have := h.hq; show _ ≤ q + 1; omega) _
  hq := h.hq
  r1 := by rw [Below.heap_setCell _ _ _ _ (by show q ≠ q + 1; omega)]; exact h.r1
  r2 := by rw [Ob.set h.r2, updB_ob]
  r3 := by rw [Below.heap_setCell _ _ _ _ (by show q + 2 ≠ q + 1; omega)]; exact h.r3
theorem Bl.set3 {V wr : World} {q n : Nat} {f1 f2 f3 : Nat → Bool} (h : Bl V wr q n f1 f2 f3) (i : Nat) (b : Bool) : Bl V (wr.setCell ⟨q + 2, i, none⟩ (.bool b)) q n f1 f2 (updB f3 i b) where
  bel := h.bel.setCell (by have := h.hq; show _ ≤ q + 2; omega) _
  hq := h.hq
  r1 := by rw [Below.heap_setCell _ _ _ _ (by show q ≠ q + 2; omega)]; exact h.r1
  r2 := by rw [Below.heap_setCell _ _ _ _ (by show q + 1 ≠ q + 2; omega)]; exact h.r2
  r3 := by rw [Ob.set h.r3, updB_ob]
theorem Bl.congr {V wr : World} {q n : Nat} {f1 f2 f3 g1 g2 g3 : Nat → Bool} (h : Bl V wr q n f1 f2 f3) (h1 : ∀ j, j < n → f1 j = g1 j) (h2 : ∀ j, j < n → f2 j = g2 j) (h3 : ∀ j, j < n → f3 j = g3 j) : Bl V wr q n g1 g2 g3 where
  bel := h.bel
  hq := h.hq
  r1 := by rw [h.r1, Ob.congr]; intro j hj; rw [h1 j hj]
  r2 := by rw [h.r2, Ob.congr]; intro j hj; rw [h2 j hj]
  r3 := by rw [h.r3, Ob.congr]; intro j hj; rw [h3 j hj]
theorem Bl.start (V : World) (n : Nat) : Bl V (((V.alloc (Ob n (fun _ => .bool false) 4)).alloc (Ob n (fun _ => .bool false) 4)).alloc (Ob n (fun _ => .bool false) 4)) V.heap.size n (fun _ => false) (fun _ => false) (fun _ => false) where
  bel := (((Below.refl _ _).alloc (Nat.le_refl _) _).alloc (by simp) _).alloc (by simp; omega) _
  hq := Nat.le_refl _
  r1 := by rw [Below.heap_alloc _ _ _ (by simp; omega), Below.heap_alloc _ _ _ (by simp), heap_alloc_new]
  r2 := by
    rw [Below.heap_alloc _ _ _ (by simp)]
    have := heap_alloc_new (V.alloc (Ob n (fun _ => .bool false) 4)) (Ob n (fun _ => .bool false) 4)
    simpa using this
  r3 := by
    have := heap_alloc_new ((V.alloc (Ob n (fun _ => .bool false) 4)).alloc (Ob n (fun _ => .bool false) 4)) (Ob n (fun _ => .bool false) 4)
    simpa using this

/-- What the law's three rows hold. -/
def sndB (T : Tr) (now : Int) (j : Nat) : Bool := if j = 0 then true else T.snd now j
def upB (f : Nat → Bool) (i j : Nat) : Bool := decide (j < i) && f j
theorem upB_step (f : Nat → Bool) (i : Nat) (b : Bool) (h : b = f i) : ∀ j, updB (upB f i) i b j = upB f (i + 1) j := by
  intro j
  unfold updB upB
  by_cases e : j = i
  · subst e; simp [h]
  · have : (j < i + 1) = (j < i) := by simp; omega
    simp [e, this]
theorem upB_skip (f : Nat → Bool) (i : Nat) (h : f i = false) : ∀ j, upB f i j = upB f (i + 1) j := by
  intro j
  unfold upB
  by_cases e : j = i
  · subst e; simp [h]
  · have : (j < i + 1) = (j < i) := by simp; omega
    simp [this]
theorem upB_zero (f : Nat → Bool) : ∀ j, upB f 0 j = false := fun j => by simp [upB]
theorem upB_all {f : Nat → Bool} {n j : Nat} (h : j < n) : upB f n j = f j := by simp [upB, h]

/-- Has b a sound child below i? -/
def kidB (T : Tr) (now : Int) (i b : Nat) : Bool := (List.range i).any fun c => decide (c ≠ 0) && decide (T.par c = b) && T.snd now c
theorem kidB_step (T : Tr) (now : Int) (i b : Nat) : kidB T now (i + 1) b = (kidB T now i b || (decide (i ≠ 0) && decide (T.par i = b) && T.snd now i)) := by
  unfold kidB
  rw [List.range_succ, List.any_append]
  simp
theorem kidB_one (T : Tr) (now : Int) (b : Nat) : kidB T now 1 b = false := by simp [kidB, List.range_succ]
theorem kidB_all (T : Tr) (now : Int) (b : Nat) : kidB T now T.n b = hasKid T.par (T.snd now) T.n b := by
  rw [Bool.eq_iff_iff]
  constructor
  · intro h
    cases hk : hasKid T.par (T.snd now) T.n b with
    | true => rfl
    | false =>
      rw [hasKid_false] at hk
      unfold kidB at h
      rw [List.any_eq_true] at h
      obtain ⟨c, h1, h2⟩ := h
      simp at h2
      rw [hk c (List.mem_range.1 h1) h2.1.1 h2.1.2] at h2
      simp at h2
  · intro h
    cases hk : kidB T now T.n b with
    | true => rfl
    | false =>
      have : hasKid T.par (T.snd now) T.n b = false := by
        rw [hasKid_false]
        intro c h1 h2 h3
        unfold kidB at hk
        rw [List.any_eq_false] at hk
        have := hk c (List.mem_range.2 h1)
        simp [h2, h3] at this
        exact this
      rw [this] at h
      cases h

/-- How many of the first i are leaves. -/
def cnt (P : Nat → Bool) (i : Nat) : Nat := ((List.range i).filter P).length
theorem cnt_step (P : Nat → Bool) (i : Nat) : cnt P (i + 1) = cnt P i + if P i then 1 else 0 := by
  unfold cnt
  rw [List.range_succ, List.filter_append]
  cases h : P i <;> simp [h]
theorem cnt_le (P : Nat → Bool) : ∀ i, cnt P i ≤ i
  | 0 => by simp [cnt]
  | i + 1 => by have := cnt_le P i; rw [cnt_step]; split <;> omega
theorem cnt_mono (P : Nat → Bool) {i n : Nat} (h : i ≤ n) : cnt P i ≤ cnt P n := by
  induction n with
  | zero => have : i = 0 := by omega
            subst this; exact Nat.le_refl _
  | succ n ih =>
    by_cases e : i = n + 1
    · subst e; exact Nat.le_refl _
    · have := ih (by omega); rw [cnt_step]; omega
theorem cnt_get (P : Nat → Bool) : ∀ {i n : Nat}, i < n → P i = true → ((List.range n).filter P).getD (cnt P i) 0 = i
  | i, 0, h, _ => by omega
  | i, n + 1, h, hp => by
    rw [List.range_succ, List.filter_append]
    by_cases e : i = n
    · subst e
      unfold cnt
      rw [List.getD_eq_getElem?_getD, List.getElem?_append_right (Nat.le_refl _)]
      simp [hp]
    · have h1 : cnt P i < cnt P n := by
        have := cnt_mono P (show i + 1 ≤ n by omega)
        rw [cnt_step, hp] at this
        simp at this
        omega
      rw [List.getD_eq_getElem?_getD, List.getElem?_append_left h1, ← List.getD_eq_getElem?_getD]
      exact cnt_get P (by omega) hp

theorem RowAt.shape {w : World} {A : Nat → Nat} {v : Value} {L : List Nat} (h : RowAt w A v L) : ∃ ao cp, v = .slice ao L.length cp ∧ (0 < L.length → ∃ g, ao = some ⟨g, 0, none⟩ ∧ g < w.heap.size ∧ ∀ j, j < L.length → w.cell? ⟨g, j, none⟩ = some (ptr A (L.getD j 0))) := by
  rcases h with ⟨rfl, rfl⟩ | ⟨g, cap, rfl, hg, hc⟩
  · exact ⟨none, 0, rfl, fun h => by simp at h⟩
  · exact ⟨_, cap, rfl, fun _ => ⟨g, rfl, hg, hc⟩⟩

theorem neq_same (a : Addr) (W : World) : (binOp .neq 28 (.pointer (some a)) (.pointer (some a))).run Yba.prog W = .ok (.bool false) W := by
  obtain ⟨info, hinfo, hsz⟩ := Option.map_eq_some_iff.1 Yba.info34
  exact neq_of_eql (run_eql_ptr_same (P := Yba.prog) W a Yba.underlying28 hinfo)
theorem snd_app {T : Tr} {now : Int} {i : Nat} (h : T.app i = true) : T.snd now i = !decide (T.dsp i = 2) := by unfold Tr.snd; simp [h]
theorem snd_young {T : Tr} {now : Int} {i : Nat} (h : now - T.arr i ≤ 120) : T.snd now i = !decide (T.dsp i = 2) := by unfold Tr.snd; simp [h]
theorem snd_old {T : Tr} {now : Int} {i : Nat} (h : T.app i = false) (h2 : ¬ now - T.arr i ≤ 120) : T.snd now i = false := by unfold Tr.snd; simp [h, h2]
theorem sndB_pos {T : Tr} {now : Int} {i : Nat} (h : i ≠ 0) : sndB T now i = T.snd now i := if_neg h

/-- Is i a leaf? -/
def leafP (T : Tr) (now : Int) (f i : Nat) : Bool := rch T.par (T.snd now) f i && !hasKid T.par (T.snd now) T.n i
theorem leaf_len (T : Tr) (now : Int) (f : Nat) : (leavesOf T.par (T.snd now) T.n f).length = cnt (leafP T now f) T.n := rfl
theorem leaf_get {T : Tr} {now : Int} {f i : Nat} (hi : i < T.n) (h : leafP T now f i = true) : (leavesOf T.par (T.snd now) T.n f).getD (cnt (leafP T now f) i) 0 = i := cnt_get (leafP T now f) hi h
theorem leaf_lt {T : Tr} {now : Int} {f i : Nat} (hi : i < T.n) (h : leafP T now f i = true) : cnt (leafP T now f) i < (leavesOf T.par (T.snd now) T.n f).length := by
  have := cnt_mono (leafP T now f) (show i + 1 ≤ T.n from hi)
  rw [cnt_step, h] at this
  rw [leaf_len]
  simp at this
  omega
theorem leaf_yes {T : Tr} {now : Int} {f i : Nat} (h : leafP T now f i = true) : cnt (leafP T now f) (i + 1) = cnt (leafP T now f) i + 1 := by rw [cnt_step, h]; rfl
theorem leaf_no {T : Tr} {now : Int} {f i : Nat} (h : leafP T now f i = false) : cnt (leafP T now f) (i + 1) = cnt (leafP T now f) i := by rw [cnt_step, h]; rfl
theorem kidB_no {T : Tr} {now : Int} {i : Nat} (h : T.snd now i = false) (b : Nat) : kidB T now i b = kidB T now (i + 1) b := by rw [kidB_step, h]; simp
theorem kidB_yes {T : Tr} {now : Int} {i : Nat} (h0 : i ≠ 0) (h : T.snd now i = true) (b : Nat) : updB (kidB T now i) (T.par i) true b = kidB T now (i + 1) b := by
  rw [kidB_step, h]
  unfold updB
  by_cases e : b = T.par i
  · subst e; simp [h0]
  · have : ¬ T.par i = b := fun h => e h.symm
    simp [e, this]

/-- The store and the tree, as the law makes them. -/
def storeObj (w5 : World) (A : Nat → Nat) (tv : Value) (lo : Int) : Obj := .cells #[.slice (some ⟨w5.heap.size + 1 + 1, 0, none⟩) 1 1, .int .u64 0, .pointer (some ⟨A 0, 0, none⟩), .map none, .map none, .int .i64 0, .int .i64 0, .map none, .slice none 0 0, .int .i64 0, .map none, .slice none 0 0, .int .i64 0, .map none, .slice none 0 0, .int .i64 0, .int .u64 0, .slice none 0 0, tv, .int .i64 lo, .int .i64 0, .int .u64 0, .int .u64 0] 48
def treeObj (w5 : World) (A : Nat → Nat) : Obj := .cells #[.pointer (some ⟨w5.heap.size, 0, none⟩), .pointer (some ⟨A 0, 0, none⟩), .int .u64 0] 51
theorem head_new (w5 : World) (A : Nat → Nat) (tv : Value) (lo : Int) (o3 : Obj) : HeadAt (((w5.alloc (storeObj w5 A tv lo)).alloc (treeObj w5 A)).alloc o3) A (w5.heap.size + 1) w5.heap.size lo tv ∧
    Below w5.heap.size w5 (((w5.alloc (storeObj w5 A tv lo)).alloc (treeObj w5 A)).alloc o3) := by
  have h1 : (((w5.alloc (storeObj w5 A tv lo)).alloc (treeObj w5 A)).alloc o3).heap[w5.heap.size]? = some (storeObj w5 A tv lo) := by
    rw [Below.heap_alloc _ _ _ (by simp; omega)]
    exact heap_alloc2_old _ _ _
  have h2 : (((w5.alloc (storeObj w5 A tv lo)).alloc (treeObj w5 A)).alloc o3).heap[w5.heap.size + 1]? = some (treeObj w5 A) := by
    rw [Below.heap_alloc _ _ _ (by simp)]
    exact heap_alloc2_new _ _ _
  refine ⟨⟨by simp, by simp; omega, ?_, ?_, ?_, ?_, ?_⟩, (((Below.refl _ _).alloc (Nat.le_refl _) _).alloc (by simp) _).alloc (by simp; omega) _⟩
  · rw [cell_of_row _ _ _ _ _ _ h2]; rfl
  · rw [cell_of_row _ _ _ _ _ _ h2]; rfl
  · rw [cell_of_row _ _ _ _ _ _ h1]; rfl
  · rw [cell_of_row _ _ _ _ _ _ h1]; rfl
  · rw [cell_of_row _ _ _ _ _ _ h1]; rfl
end Go.Proofs.Ybulkcibu
