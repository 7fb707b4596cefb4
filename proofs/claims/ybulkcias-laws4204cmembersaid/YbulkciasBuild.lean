import Derived.Test.YbulkciasCompact
import Derived.Test.YbulkciasOrder
import Derived.Laws.CopyOwn
import Derived.OwnWalk
import Derived.Maps.AppendAt
namespace Go.Proofs.Ybulkcias
open Go.RowKit
open Go.Sort hiding Below

/-- A BYTE SLICE THAT CAME IN: its bytes are k. -/
def InKey (w : World) (v : Value) (k : List UInt8) : Prop :=
  ∃ p c, v = .slice p k.length c ∧ (0 < k.length → ∃ b off, p = some ⟨b, off, none⟩ ∧ ∀ j, j < k.length → w.cell? ⟨b, off + j, none⟩ = some (.int .u8 ((k.getD j 0).toNat : Int)))
/-- A SLICE OF BYTE SLICES THAT CAME IN: the keys are ks. -/
def InKeys (w : World) (a : Option Addr) (ks : List (List UInt8)) : Prop :=
  0 < ks.length → ∃ b off, a = some ⟨b, off, none⟩ ∧ b < w.heap.size ∧ ∀ i, i < ks.length → ∃ v, w.cell? ⟨b, off + i, none⟩ = some v ∧ InKey w v (ks.getD i [])

theorem Yba.info5 : (Yba.prog.info? 5).map (fun i => (i.zero, i.size, i.bytes)) = some (some (.int .u8 0), 1, 1) := by kernel_rfl
theorem Yba.info26 : (Yba.prog.info? 26).map (fun i => (i.zero, i.size, i.bytes)) = some (some (.slice none 0 0), 1, 24) := by kernel_rfl
theorem Yba.size5 : (Yba.prog.info? 5).map (·.size) = some 1 := by kernel_rfl

theorem InKey.below {w w' : World} (h : Below w.heap.size w w') {v : Value} {k : List UInt8} (hk : InKey w v k) : InKey w' v k := by
  obtain ⟨p, c, rfl, hc⟩ := hk
  refine ⟨p, c, rfl, fun h0 => ?_⟩
  obtain ⟨b, off, rfl, hcc⟩ := hc h0
  refine ⟨b, off, rfl, fun j hj => ?_⟩
  have := hcc j hj
  rw [h.cell (p := ⟨b, off + j, none⟩) (World.block_lt_of_cell? w _ this)]
  exact this

theorem InKeys.below {w w' : World} (h : Below w.heap.size w w') {a : Option Addr} {ks : List (List UInt8)} (hk : InKeys w a ks) : InKeys w' a ks := by
  intro h0
  obtain ⟨b, off, rfl, hb, hc⟩ := hk h0
  refine ⟨b, off, rfl, by have := h.size; omega, fun i hi => ?_⟩
  obtain ⟨v, hv, hk⟩ := hc i hi
  exact ⟨v, by rw [h.cell (p := ⟨b, off + i, none⟩) hb]; exact hv, hk.below h⟩

/-- The cells of the row that 'build' gathers. -/
def rowOf (bs : List Nat) (ks : List (List UInt8)) : List Value := List.zipWith kv bs ks

/-- The first i keys are copied: into the blocks bs. -/
def Gathered (R n : Nat) (ks : List (List UInt8)) (i : Nat) (bs : List Nat) (wr : World) : Prop :=
  bs.length = i ∧ wr.ownsRow R 26 1 (.slice (some ⟨R, 0, none⟩) i n) i (rowOf bs (ks.take i)) ∧ ∀ j, j < i → R < bs.getD j 0 ∧ bs.getD j 0 < wr.heap.size ∧ KeyAt wr (bs.getD j 0) (ks.getD j [])

theorem rowOf_snoc (bs : List Nat) (ks : List (List UInt8)) (i b : Nat) (hb : bs.length = i) (hi : i < ks.length) : rowOf (bs ++ [b]) (ks.take (i + 1)) = rowOf bs (ks.take i) ++ [kv b (ks.getD i [])] := by
  unfold rowOf
  rw [List.take_succ_eq_append_getElem hi, List.zipWith_append (by simp; omega)]
  simp [List.getD_eq_getElem?_getD, List.getElem?_eq_getElem hi]

theorem ownsRow_below {w w' : World} {B base : Nat} {e : TypeId} {size g n cap : Nat} {xs : List Value} (h : w.ownsRow base e size (.slice (some ⟨g, 0, none⟩) n cap) n xs) (hb : Below B w w') (hg : g < B) : w'.ownsRow base e size (.slice (some ⟨g, 0, none⟩) n cap) n xs := by
  refine ⟨h.1, ?_⟩
  rcases h.2 with ⟨h1, _⟩ | ⟨g', cap', cur, hv, h1, h2, h3⟩
  · cases h1
  · simp only [Value.slice.injEq, Option.some.injEq, Addr.mk.injEq] at hv
    obtain ⟨⟨rfl, _⟩, _, rfl⟩ := hv
    exact .inr ⟨g, cap, cur, rfl, h1, by rw [hb.block g hg]; exact h2, h3⟩

theorem own_block {w : World} {base : Nat} {e : TypeId} {g n : Nat} {xs : List Value} (h : w.ownsRow base e 1 (.slice (some ⟨g, 0, none⟩) n n) n xs) : ∃ cur : List Value, w.heap[g]? = some (.cells cur.toArray e (0, 0)) ∧ cur.length = n := by
  rcases h.2 with ⟨h1, _⟩ | ⟨g', cap', cur, hv, h1, h2, _, _, h3, _⟩
  · cases h1
  · simp only [Value.slice.injEq, Option.some.injEq, Addr.mk.injEq] at hv
    obtain ⟨⟨rfl, _⟩, _, rfl⟩ := hv
    exact ⟨cur.toList, by simpa using h2, by simp; omega⟩

theorem splice_full {α : Type} (L cs : List α) (h : cs.length = L.length) : splice L 0 cs = cs := by
  unfold splice
  simp [h]

/-- The bytes of a key as cells. -/
def cellsK (k : List UInt8) : List Value := (nums k).map (Value.int .u8)
theorem cellsK_length (k : List UInt8) : (cellsK k).length = k.length := by simp [cellsK, nums]
theorem cellsK_get (k : List UInt8) (j : Nat) (hj : j < k.length) : (cellsK k)[j]? = some (.int .u8 ((k.getD j 0).toNat : Int)) := by
  unfold cellsK
  rw [List.getElem?_map, ← nums_getD, List.getD_eq_getElem?_getD]
  have : j < (nums k).length := by rw [nums_length]; exact hj
  simp [List.getElem?_eq_getElem this]
theorem cellsK_one (k : List UInt8) : ∀ v ∈ cellsK k, v.oneCell' = true := by
  intro v hv
  unfold cellsK at hv
  obtain ⟨x, _, rfl⟩ := List.mem_map.1 hv
  rfl

/-- What the copy is told of its source. -/
theorem InKey.src {w : World} {p : Option Addr} {n c : Nat} {k : List UInt8} (h : InKey w (.slice p n c) k) (g : Nat) :
    0 < (cellsK k).length → (some ⟨g, 0, none⟩ : Option Addr) = some ⟨g, 0, none⟩ ∧ ∃ ad, p = some ad ∧ ∀ j v, (cellsK k)[j]? = some v → w.cell? (ad.add j) = some v := by
  intro h0
  rw [cellsK_length] at h0
  obtain ⟨p', c', hv, hc⟩ := h
  simp only [Value.slice.injEq] at hv
  obtain ⟨rfl, _, _⟩ := hv
  obtain ⟨b, off, rfl, hcc⟩ := hc h0
  refine ⟨rfl, _, rfl, fun j v hj => ?_⟩
  have hjl : j < k.length := by
    have := (List.getElem?_eq_some_iff.1 hj).1
    rwa [cellsK_length] at this
  rw [cellsK_get k j hjl] at hj
  have e : (⟨b, off, none⟩ : Addr).add j = ⟨b, off + j, none⟩ := by unfold Addr.add; split <;> simp_all
  rw [e, hcc j hjl]
  exact hj

theorem keyAt_of_block {w : World} {g : Nat} {k : List UInt8} {t : TypeId} (h : w.heap[g]? = some (.cells (cellsK k).toArray t (0, 0))) : KeyAt w g k := by
  intro i hi
  rw [cell_of_row w g i _ t (0, 0) h]
  have := cellsK_get k i hi
  simpa using this

theorem KeyAt.of_block {w w' : World} {b : Nat} {k : List UInt8} (hb : w'.heap[b]? = w.heap[b]?) (h : KeyAt w b k) : KeyAt w' b k := by
  intro i hi
  rw [World.cell?_of_block (w := w) (a := ⟨b, i, none⟩) hb]
  exact h i hi

/-- One round more. -/
theorem Gathered.step {R n : Nat} {ks : List (List UInt8)} {i : Nat} {bs : List Nat} {wr w2 w3 : World} {o : Obj} (hG : Gathered R n ks i bs wr) (hi : i < ks.length) (hR : R < wr.heap.size)
    (hb2 : Below wr.heap.size wr w2) (hz : wr.heap.size < w2.heap.size) (hkey : KeyAt w2 wr.heap.size (ks.getD i []))
    (hown3 : w3.ownsRow R 26 1 (.slice (some ⟨R, 0, none⟩) (i + 1) n) (i + 1) (rowOf bs (ks.take i) ++ [kv wr.heap.size (ks.getD i [])])) (hg3 : (w2.alloc o).grownBy w3 (some R)) :
    Gathered R n ks (i + 1) (bs ++ [wr.heap.size]) w3 := by
  obtain ⟨h1, h2, h3⟩ := hG
  have hs3 : w2.heap.size + 1 ≤ w3.heap.size := by have := hg3.size; simpa using this
  have hk3 : ∀ b, b < w2.heap.size → b ≠ R → w3.heap[b]? = w2.heap[b]? := fun b hb hne => by
    rw [hg3.block b (by simp; omega) (by simp; exact hne)]
    exact Below.heap_alloc w2 o b hb
  refine ⟨by simp [h1], by rw [rowOf_snoc bs ks i _ h1 hi]; exact hown3, fun j hj => ?_⟩
  by_cases e : j = i
  · subst e
    have : (bs ++ [wr.heap.size]).getD j 0 = wr.heap.size := by simp [List.getD_eq_getElem?_getD, ← h1]
    rw [this]
    exact ⟨hR, by omega, hkey.of_block (hk3 _ hz (by omega))⟩
  · have : (bs ++ [wr.heap.size]).getD j 0 = bs.getD j 0 := by
      simp only [List.getD_eq_getElem?_getD]
      rw [List.getElem?_append_left (by omega)]
    rw [this]
    obtain ⟨a1, a2, a3⟩ := h3 j (by omega)
    refine ⟨a1, by omega, a3.of_block ?_⟩
    rw [hk3 _ (by omega) (by omega)]
    exact hb2.block _ a2

/-- WHAT slices.SortFunc DOES TO A ROW OF KEYS (paid in YbulkciasSort). -/
def SortSaid : Prop := ∀ (B : Nat → Nat) (K : Nat → List UInt8) (blk cap : Nat) (d : Array Nat) (w : World), Holds (enc B K) w blk 0 d → (∀ i, B i ≠ blk ∧ KeyAt w (B i) (K i)) → blk < w.heap.size → d.size ≤ 1024 →
  Calls Yba.prog 8 #[.slice (some ⟨blk, 0, none⟩) d.size cap, .func (.func 9) #[] #[]] w fun e w' => e = .returned (.tuple #[]) ∧
    ∃ d' : Array Nat, d'.size = d.size ∧ d'.toList.Perm d.toList ∧ (∀ i j, i < j → j < d.size → ¬ ltB (K d'[j]!) (K d'[i]!)) ∧ Holds (enc B K) w' blk 0 d' ∧ But blk w w'

/-- A LIST OF KEYS IN MEMORY: the row at block g, its keys at the blocks bs. -/
def ListAt (w : World) (g : Nat) (bs : List Nat) (Ks : List (List UInt8)) : Prop :=
  bs.length = Ks.length ∧ ∀ j, j < Ks.length → bs.getD j 0 ≠ g ∧ KeyAt w (bs.getD j 0) (Ks.getD j []) ∧ w.cell? ⟨g, j, none⟩ = some (kv (bs.getD j 0) (Ks.getD j [])) ∧ w.frozen? ⟨g, j, none⟩ = false

theorem KeyAt.below {w w' : World} (h : Below w.heap.size w w') {b : Nat} {k : List UInt8} (hk : KeyAt w b k) : KeyAt w' b k := by
  intro i hi
  have := hk i hi
  rw [h.cell (p := ⟨b, i, none⟩) (World.block_lt_of_cell? w _ this)]
  exact this
theorem ListAt.below {w w' : World} (h : Below w.heap.size w w') {g : Nat} {bs : List Nat} {Ks : List (List UInt8)} (hl : ListAt w g bs Ks) : ListAt w' g bs Ks := by
  refine ⟨hl.1, fun j hj => ?_⟩
  obtain ⟨h1, h2, h3, h4⟩ := hl.2 j hj
  have hg := World.block_lt_of_cell? w _ h3
  exact ⟨h1, h2.below h, by rw [h.cell (p := ⟨g, j, none⟩) hg]; exact h3, by rw [h.frozen (p := ⟨g, j, none⟩) hg]; exact h4⟩

/-- WHAT 'build' HANDS BACK. -/
def Built (w : World) (ks : List (List UInt8)) (v : Value) (w' : World) : Prop :=
  ∃ g cap bs Ks, v = .slice (some ⟨g, 0, none⟩) Ks.length cap ∧ ListAt w' g bs Ks ∧ g < w'.heap.size ∧ Ks.length ≤ ks.length ∧ Ks.Pairwise ltB ∧ (∀ k, k ∈ Ks ↔ k ∈ ks) ∧ Below w.heap.size w w'

theorem range_get (n j : Nat) (hj : j < n) : (Array.range n)[j]! = j := by
  rw [getElem!_pos _ j (by simpa using hj)]
  simp

/-- The row as it lies when the loop is through. -/
theorem Gathered.holds {R n : Nat} {ks : List (List UInt8)} {bs : List Nat} {wr : World} (h : Gathered R n ks ks.length bs wr) :
    Holds (enc (fun i => bs.getD i (R + 1)) (fun i => ks.getD i [])) wr R 0 (Array.range ks.length) ∧ (∀ i, bs.getD i (R + 1) ≠ R ∧ KeyAt wr (bs.getD i (R + 1)) (ks.getD i [])) := by
  obtain ⟨h1, h2, h3⟩ := h
  have hB : ∀ i, i < ks.length → bs.getD i (R + 1) = bs.getD i 0 := fun i hi => by
    rw [List.getD_eq_getElem?_getD, List.getD_eq_getElem?_getD, List.getElem?_eq_getElem (by omega)]; rfl
  refine ⟨fun j hj => ?_, fun i => ?_⟩
  · have hj' : j < ks.length := by simpa using hj
    rw [range_get _ _ hj', Nat.zero_add]
    refine ⟨?_, h2.frozenAt j⟩
    rw [h2.cellAt j (by omega), List.take_length]
    unfold rowOf enc
    simp only [hB j hj']
    rw [List.getElem?_zipWith]
    simp only [List.getD_eq_getElem?_getD, List.getElem?_eq_getElem (show j < bs.length by omega), List.getElem?_eq_getElem hj', Option.getD_some]
  · by_cases hi : i < ks.length
    · rw [hB i hi]
      exact ⟨by have := (h3 i hi).1; omega, (h3 i hi).2.2⟩
    · have : ks.getD i [] = [] := by rw [List.getD_eq_getElem?_getD, List.getElem?_eq_none (by omega)]; rfl
      rw [this]
      refine ⟨?_, fun j hj => by simp at hj⟩
      rw [List.getD_eq_getElem?_getD, List.getElem?_eq_none (by omega)]
      simp

theorem perm_mem {n : Nat} {d : Array Nat} (h : d.toList.Perm (Array.range n).toList) (j : Nat) : (∃ t, t < d.size ∧ d[t]! = j) ↔ j < n := by
  have : j ∈ d.toList ↔ j ∈ (Array.range n).toList := h.mem_iff
  rw [show (j ∈ (Array.range n).toList) ↔ j < n by simp] at this
  rw [← this, List.mem_iff_getElem]
  constructor
  · rintro ⟨t, ht, e⟩
    exact ⟨t, by simpa using ht, by rw [getElem!_pos d t ht] at e; simpa using e⟩
  · rintro ⟨t, ht, e⟩
    have ht' : t < d.size := by simpa using ht
    exact ⟨t, ht', by rw [getElem!_pos d t ht']; simpa using e⟩

/-- Out of the sorted and compacted row: what 'build' hands back. -/
theorem built_of {w wr w2 w3 : World} {R cap : Nat} {ks : List (List UInt8)} {bs : List Nat} {d : Array Nat} (hs : d.size = ks.length) (hp : d.toList.Perm (Array.range ks.length).toList)
    (hsorted : ∀ i j, i < j → j < ks.length → ¬ ltB (ks.getD d[j]! []) (ks.getD d[i]! [])) (hK : ∀ i, bs.getD i (R + 1) ≠ R ∧ KeyAt wr (bs.getD i (R + 1)) (ks.getD i [])) (h2 : But R wr w2)
    (h3 : Compacted (fun i => bs.getD i (R + 1)) (fun i => ks.getD i []) R (cz (keepK (fun i => ks.getD i []) d) d d.size) w2 w3) (hR : R < wr.heap.size) (hB : Below w.heap.size w w3) :
    Built w ks (.slice (some ⟨R, 0, none⟩) (cz (keepK (fun i => ks.getD i []) d) d d.size).length cap) w3 := by
  have hz : R < w3.heap.size := by have := h2.size; have := h3.1.size; omega
  have hcz : (cz (keepK (fun i => ks.getD i []) d) d d.size).map (fun i => ks.getD i []) = ((List.range d.size).filter (keepK (fun i => ks.getD i []) d)).map (fun j => ks.getD d[j]! []) := by
    unfold cz
    rw [List.map_map]
    rfl
  have hks := kept_sorted (fun j => ks.getD d[j]! []) (keepK (fun i => ks.getD i []) d) (fun j => rfl) d.size (fun i j hij hj => hsorted i j hij (by omega))
  rw [← hcz] at hks
  have hlen : (cz (keepK (fun i => ks.getD i []) d) d d.size).length ≤ ks.length := by
    unfold cz
    rw [List.length_map, ← hs]
    have := List.length_filter_le (keepK (fun i => ks.getD i []) d) (List.range d.size)
    simpa using this
  generalize cz (keepK (fun i => ks.getD i []) d) d d.size = L at *
  refine ⟨R, cap, L.map (fun i => bs.getD i (R + 1)), L.map (fun i => ks.getD i []), by simp, ⟨by simp, fun j hj => ?_⟩, hz, by simpa using hlen, hks.1, fun k => ?_, hB⟩
  · have hj' : j < L.length := by simpa using hj
    have e1 : (L.map (fun i => bs.getD i (R + 1))).getD j 0 = bs.getD L[j]! (R + 1) := by
      rw [List.getD_eq_getElem?_getD, List.getElem?_map, List.getElem?_eq_getElem hj', getElem!_pos L j hj']; rfl
    have e2 : (L.map (fun i => ks.getD i [])).getD j [] = ks.getD L[j]! [] := by
      rw [List.getD_eq_getElem?_getD, List.getElem?_map, List.getElem?_eq_getElem hj', getElem!_pos L j hj']; rfl
    rw [e1, e2]
    exact ⟨(hK _).1, (hK _).2.but (h2.trans h3.1) (hK _).1, h3.2 j hj'⟩
  · rw [hks.2]
    constructor
    · rintro ⟨j, hj, rfl⟩
      have := (perm_mem hp d[j]!).1 ⟨j, hj, rfl⟩
      rw [List.getD_eq_getElem?_getD, List.getElem?_eq_getElem this]
      simp
    · intro hk
      obtain ⟨i, hi, rfl⟩ := List.mem_iff_getElem.1 hk
      obtain ⟨t, ht, e⟩ := (perm_mem hp i).2 hi
      refine ⟨t, ht, ?_⟩
      rw [e, List.getD_eq_getElem?_getD, List.getElem?_eq_getElem hi]
      rfl

set_option maxHeartbeats 1000000 in
theorem build_any (hS : SortSaid) (a : Option Addr) (cap : Nat) (ks : List (List UInt8)) (w : World) (h : InKeys w a ks) (hn : ks.length ≤ 1024) (hk : ∀ k ∈ ks, k.length ≤ 1024) :
    Calls Yba.prog 5 #[.slice a ks.length cap] w fun e w' => ∃ v, e = .returned v ∧ Built w ks v w' := by
  obtain ⟨i5, hi5, hz5, hs5, hb5⟩ := info_parts Yba.info5
  obtain ⟨i26, hi26, hz26, hs26, hb26⟩ := info_parts Yba.info26
  have H : Hid (InKeys w a ks) := h
  clear h
  go_enter Yba.func5, Yba.ntmps5
  go_wp2_with (at_make; refine wpList_make_own _ rfl _ _ 24 rfl w.heap.size 26 i26 (.slice none 0 0) 1 Yba.underlying24 hi26 hz26 hs26 .i64 .i64 _ ks.length rfl rfl rfl (by rw [hb26]; omega) (by unfold maxLen; omega) (Nat.le_refl _) ?_; intro w1 hown1 hg1)
  have hst : Gathered w.heap.size ks.length ks 0 [] w1 := ⟨rfl, hown1, fun j hj => by omega⟩
  have hbel1 : Below w.heap.size w w1 := (Below.refl _ _).grown hg1 (Nat.le_refl _) (fun k hk => by cases hk)
  clear hown1 hg1
  go_loopw [3, 12] (fun s3 s12 wr => ∃ i bs, i ≤ ks.length ∧ s12 = .int .i64 (i : Nat) ∧ s3 = .slice (some ⟨w.heap.size, 0, none⟩) i ks.length ∧ Gathered w.heap.size ks.length ks i bs wr ∧ Below w.heap.size w wr) (fun _ s12 _ => ks.length - (intOf s12).toNat)
  case atStart => exact ⟨0, [], Nat.zero_le _, rfl, rfl, hst, hbel1⟩
  case round =>
    clear hst hbel1
    obtain ⟨i, bs, hi, rfl, rfl, hG, hbel⟩ := hrel
    by_cases hlt : i < ks.length
    · have hR : w.heap.size < wr.heap.size := (hG.2.1.lt w.heap.size rfl).2
      obtain ⟨b, off, rfl, hb, hc⟩ := H.out (by omega)
      obtain ⟨v, hv, hkey⟩ := hc i hlt
      obtain ⟨p, c, rfl, hkc⟩ := hkey.below hbel
      have hkey' : InKey wr (.slice p (ks.getD i []).length c) (ks.getD i []) := ⟨p, c, rfl, hkc⟩
      have hkl : (ks.getD i []).length ≤ 1024 := hk _ (by rw [List.getD_eq_getElem?_getD, List.getElem?_eq_getElem hlt]; simp)
      have hcell : wr.cell? ⟨b, off + i, none⟩ = some (.slice p (ks.getD i []).length c) := by rw [hbel.cell (p := ⟨b, off + i, none⟩) hb]; exact hv
      have HG : Hid (Gathered w.heap.size ks.length ks i bs wr) := hG
      have HB : Hid (Below w.heap.size w wr) := hbel
      clear hc hv hkey hkc hG hbel
      generalize hkk : ks.getD i [] = k at *
      have HK : Hid (ks.getD i [] = k) := hkk
      have HKEY : Hid (InKey wr (.slice p k.length c) k) := hkey'
      clear hkk hkey'
      go_wp2_with (first
        | (at_make; refine wpList_make_full _ rfl _ _ 23 rfl wr.heap.size 5 i5 (.int .u8 0) 1 Yba.underlying23 hi5 hz5 hs5 .i64 .i64 _ _ k.length rfl rfl rfl rfl (by rw [hb5]; omega) (by unfold maxLen; omega) (Nat.le_refl _) ?_; intro w1' hown1' hg1'; obtain ⟨cur, hcur, hcs⟩ := own_block hown1'; have hb1 : Below wr.heap.size wr w1' := (Below.refl _ _).grown hg1' (Nat.le_refl _) (fun k hk => by cases hk); have HS : Hid _ := (HKEY.out.below hb1).src wr.heap.size; have HC : Hid (w1'.heap[wr.heap.size]? = some (.cells cur.toArray 5 (0, 0))) := hcur; have HL : Hid (cur.length = k.length) := hcs; clear hcur hcs hown1' hg1')
        | (refine wpList_copy_splice rfl (.tmp 19) (.tmp 20) 23 23 rfl 5 Yba.underlying23 Yba.size5 _ _ _ _ _ _ rfl rfl wr.heap.size 0 cur 5 HC.out (cellsK k) (by rw [cellsK_length]; exact (Nat.min_self _).symm) HS.out (by rw [cellsK_length, HL.out]; omega) (cellsK_one k) wr.heap.size wr hb1 (Nat.le_refl _) ?_; intro w2 hw2 hb2; have hk2 : KeyAt w2 wr.heap.size k := keyAt_of_block (by have := hw2.out; rwa [splice_full _ _ (by rw [cellsK_length, HL.out])] at this); have hz2 : wr.heap.size < w2.heap.size := (Array.getElem?_eq_some_iff.1 hw2.out).1; have hown2 := ownsRow_below HG.out.2.1 hb2 hR)
        | (at_builtin; refine wpList_append_fits _ rfl (.tmp 22) (.tmp 24) 24 rfl w.heap.size 26 i26 1 Yba.underlying24 hi26 hs26 w.heap.size i ks.length _ rfl (hown2.alloc _) ⟨w2.heap.size, 0, none⟩ 1 1 [.slice (some ⟨wr.heap.size, 0, none⟩) k.length k.length] rfl rfl (cell_one_new _ _ _) (by intro u hu; simp at hu; subst hu; rfl) (by omega) ?_; intro w3 hown3 hg3))
      have hG3 : Gathered w.heap.size ks.length ks (i + 1) (bs ++ [wr.heap.size]) w3 := HG.out.step hlt hR hb2 hz2 (by rw [HK.out]; exact hk2) (by rw [HK.out]; exact hown3) hg3
      have hbel3 : Below w.heap.size w w3 := ((HB.out.trans (hb2.mono (by omega))).alloc (by omega) _).grown hg3 (by simp; omega) (fun k hk => by cases hk; exact Nat.le_refl _)
      clear hown3 hg3 hown2 hk2
      go_roundw
      case rel => exact ⟨i + 1, _, by omega, by go_num, rfl, hG3, hbel3⟩
      case measure => simp [intOf]; omega
    · obtain rfl : i = ks.length := by omega
      have hR : w.heap.size < wr.heap.size := (hG.2.1.lt w.heap.size rfl).2
      obtain ⟨hH, hK⟩ := hG.holds
      have hds : (Array.range ks.length).size = ks.length := by simp
      have hsort := hS _ _ w.heap.size ks.length _ wr hH hK hR (by omega)
      rw [hds] at hsort
      have HK : Hid (∀ i, bs.getD i (w.heap.size + 1) ≠ w.heap.size ∧ KeyAt wr (bs.getD i (w.heap.size + 1)) (ks.getD i [])) := hK
      have HB : Hid (Below w.heap.size w wr) := hbel
      clear hH hK hG hds hbel H hk
      go_wp2_with fail
      refine hsort.mono ?_
      rintro e w2 ⟨rfl, d', hd1, hd2, hd3, hd4, hd5⟩
      have hcomp := compact_any _ _ w.heap.size ks.length d' w2 hd4 (fun i => ⟨(HK.out i).1, (HK.out i).2.but hd5 (HK.out i).1⟩) (by omega) (by omega)
      rw [hd1] at hcomp
      have HD : Hid (d'.size = ks.length ∧ d'.toList.Perm (Array.range ks.length).toList ∧ (∀ i j, i < j → j < ks.length → ¬ ltB (ks.getD d'[j]! []) (ks.getD d'[i]! [])) ∧ But w.heap.size wr w2) := ⟨hd1, hd2, hd3, hd5⟩
      clear hsort hd1 hd2 hd3 hd4 hd5
      go_wp2_with fail
      refine hcomp.mono ?_
      rintro e w3 ⟨rfl, h3⟩
      have HH : Hid _ := h3
      clear h3 hcomp
      go_wp2
      go_ret
      obtain ⟨g1, g2, g3, g4⟩ := HD.out
      rw [← g1] at HH
      rw [← g1]
      exact ⟨_, rfl, built_of g1 g2 g3 HK.out g4 HH.out hR ((HB.out.trans ((g4.below (Nat.le_refl _) (by omega)))).trans (HH.out.1.below (Nat.le_refl _) (by have := g4.size; omega)))⟩
end Go.Proofs.Ybulkcias
