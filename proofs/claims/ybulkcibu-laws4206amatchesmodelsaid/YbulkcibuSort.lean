import Derived.Test.YbulkcibuLeafBlocks
import Derived.Test.YbulkcibuShelf
namespace Go.Proofs.Ybulkcibu
open Go.Shelf Go.RowKit Go.Lib Go.Proofs
open Go.Sort hiding Below

/-- A block's number, made to fit. -/
def fit (n i : Nat) : Nat := if i < n then i else 0
def encB (A : Nat → Nat) (n i : Nat) : Value := ptr A (fit n i)
def cfB (n x y : Nat) : Int := compareInt (fit n x) (fit n y)

theorem cmpID_same (i j : Nat) : cmpID i j (hashOf i) (hashOf j) = compareInt i j := by
  unfold cmpID
  by_cases e : i = j
  · subst e
    have h0 : compareInt (i : Int) i = 0 := by unfold compareInt; simp
    rw [if_pos h0, h0]
    unfold hashOf
    by_cases h : i = 0
    · simp only [h, if_true]; rfl
    · simp only [h, if_false]; rfl
  · rw [if_neg]
    unfold compareInt
    rcases Nat.lt_or_gt_of_ne e with h | h
    · rw [if_pos (by omega)]; omega
    · rw [if_neg (by omega), if_pos (by omega)]; omega

theorem ltB_iff (n x y : Nat) : ltOf (cfB n) x y = decide (fit n x < fit n y) := by
  unfold ltOf cfB compareInt
  by_cases h : fit n x < fit n y
  · rw [if_pos (by omega)]
    simp [h]
  · rw [if_neg (by omega)]
    by_cases h2 : fit n y < fit n x
    · rw [if_pos (by omega)]
      simp [h]
    · rw [if_neg (by omega)]
      simp [h]
theorem swoB (n : Nat) : SWO (ltOf (cfB n)) where
  irrefl x := by rw [ltB_iff]; simp
  trans x y z h1 h2 := by rw [ltB_iff] at *; simp at *; omega
  ntrans x y z h1 h2 := by rw [ltB_iff] at *; simp at *; omega

theorem sortWorld_below {α : Type} [Inhabited α] (en : α → Value) (w : World) (base g m : Nat) (d : Array α) (os : Array Obj) (hg : base ≤ g) (hb : base ≤ w.heap.size) : Below base w (sortWorld en w g 0 m d os) := by
  refine ⟨rfl, rfl, rfl, by simp [sortWorld, Sort.ahead], fun k hk => ?_⟩
  unfold sortWorld
  rw [heap_grow_old _ _ (by simp [Sort.ahead]; omega)]
  unfold putRow mapBlock
  simp only [Array.getElem?_modify]
  rw [if_neg (by omega)]
  rfl

theorem fit_lt {n : Nat} (h : 0 < n) (i : Nat) : fit n i < n := by unfold fit; split <;> omega
theorem fit_eq {n i : Nat} (h : i < n) : fit n i = i := if_pos h

theorem sortSaid : SortSaid := by
  intro A T B v base w hT ht hA hB hl hown
  rcases hown.2 with ⟨rfl, hz⟩ | ⟨g, cap, cur, rfl, hbg, hg, _⟩
  · have hnil : B = [] := List.eq_nil_of_length_eq_zero hz
    subst hnil
    have hcon := AnyF.slices_SortFunc_none (P := Yba.prog) (ρ := Yba.sortBlocks_ren) { Yba.sortBlocks with } none 0 (.func (.func 11) #[] #[]) w
    change Calls Yba.prog 10 _ _ _ at hcon
    refine hcon.mono ?_
    rintro e w' ⟨rfl, rfl⟩
    exact ⟨rfl, Below.refl _ _, [], rfl, List.Perm.refl _, List.Pairwise.nil, .inl rfl⟩
  · have hgl : g < w.heap.size := (Array.getElem?_eq_some_iff.1 hg).1
    have eg : ∀ args w, (callFunc 11 args).run Yba.prog w = .ok (.enter 11 args) w := enters_of Yba.func11 (by kernel_rfl) rfl
    have hds : B.toArray.size = B.length := by simp
    have hget : ∀ j, j < B.length → B.toArray[j]! = B.getD j 0 := fun j hj => by
      rw [getElem!_pos _ j (by simpa using hj), List.getD_eq_getElem?_getD, List.getElem?_eq_getElem hj]
      simp
    have hmem : ∀ j, j < B.length → B.getD j 0 < T.n := fun j hj => hB _ (by rw [List.getD_eq_getElem?_getD, List.getElem?_eq_getElem hj]; simp)
    have hH : Holds (encB A T.n) w g 0 B.toArray := fun j hj => by
      rw [hds] at hj
      rw [Nat.zero_add, hget j hj]
      refine ⟨?_, hown.frozenAt j⟩
      rw [hown.cellAt j (by omega), List.getElem?_map, List.getElem?_eq_getElem hj]
      unfold encB
      rw [fit_eq (hmem j hj), List.getD_eq_getElem?_getD, List.getElem?_eq_getElem hj]
      rfl
    have hbase : base ≤ w.heap.size := by omega
    have hcmp : CmpLays1 Yba.prog 11 #[] (encB A T.n) (cfB T.n) g 0 B.toArray.size w := fun m os dk _ x y => by
      have hbel := sortWorld_below (encB A T.n) w base g m dk os hbg hbase
      have hx := fit_lt hT.pos x
      have hy := fit_lt hT.pos y
      have c1 := ht.slot _ hx
      have c2 := ht.hash _ hx
      have c3 := ht.slot _ hy
      have c4 := ht.hash _ hy
      have := closure11 (A (fit T.n x)) (A (fit T.n y)) (fit T.n x) (fit T.n y) (hashOf (fit T.n x)) (hashOf (fit T.n y)) (sortWorld (encB A T.n) w g 0 m dk os)
        (by rw [hbel.cell (p := ⟨A (fit T.n x), 0, none⟩) (hA _ hx)]; exact c1) (by rw [hbel.cell (p := ⟨A (fit T.n x), 1, none⟩) (hA _ hx)]; exact c2)
        (by rw [hbel.cell (p := ⟨A (fit T.n y), 0, none⟩) (hA _ hy)]; exact c3) (by rw [hbel.cell (p := ⟨A (fit T.n y), 1, none⟩) (hA _ hy)]; exact c4)
      rw [cmpID_same] at this
      exact this
    have hcon := Any.slices_SortFunc Yba.sortBlocks (encB A T.n) (fun _ => rfl) (cfB T.n) (swoB T.n) 11 #[] g 0 cap B.toArray w eg hcmp hH hgl (by omega)
    change Calls Yba.prog 10 _ _ _ at hcon
    rw [hds] at hcon
    refine hcon.mono ?_
    rintro e w' ⟨rfl, d', n, os, ⟨hs, _, hp⟩, hsort, rfl⟩
    rw [hds] at hs
    have hperm : d'.toList.Perm B := by
      have e1 : d'.extract 0 B.length = d' := by rw [← hs]; simp
      have e2 : B.toArray.extract 0 B.length = B.toArray := by simp
      rw [e1, e2] at hp
      simpa using hp
    have hdl : ∀ j, j < B.length → d'[j]! < T.n := fun j hj => by
      refine hB _ (hperm.mem_iff.1 ?_)
      rw [getElem!_pos d' j (by omega)]
      simp
    have hd0 : ∀ j, j < B.length → d'.toList.getD j 0 = d'[j]! := fun j hj => by
      rw [getElem!_pos d' j (by omega), List.getD_eq_getElem?_getD, List.getElem?_eq_getElem (by simp; omega)]
      simp
    refine ⟨rfl, sortWorld_below _ w base g n d' os hbg hbase, d'.toList, by simp [hs], hperm, ?_, .inr ⟨g, cap, by simp [hs], by have := (sortWorld_below (encB A T.n) w base g n d' os hbg hbase).size; omega, fun j hj => ?_⟩⟩
    · rw [List.pairwise_iff_getElem]
      intro i j hi hj hij
      have hi' : i < B.length := by simpa [hs] using hi
      have hj' : j < B.length := by simpa [hs] using hj
      have := hsort i j (Nat.zero_le _) hij (by omega)
      rw [ltB_iff, fit_eq (hdl j hj'), fit_eq (hdl i hi')] at this
      rw [getElem!_pos d' j (by omega), getElem!_pos d' i (by omega)] at this
      simp at this ⊢
      exact this
    · have hj' : j < B.length := by simpa [hs] using hj
      have := (holds_sortWorld (encB A T.n) w g 0 n B.toArray d' os hgl hH (by rw [hs, hds])) j (by omega)
      rw [Nat.zero_add] at this
      rw [this.1, hd0 j hj']
      unfold encB
      rw [fit_eq (hdl j hj')]
end Go.Proofs.Ybulkcibu
