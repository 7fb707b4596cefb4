import Derived.Test.YbulkciasRevokes
import Derived.Test.YbulkciasShelf
namespace Go.Proofs.Ybulkcias
open Go.Shelf Go.RowKit Go.Lib Go.Proofs
open Go.Sort hiding Below

theorem enc_one (B : Nat → Nat) (K : Nat → List UInt8) : OneCell (enc B K) := fun _ => rfl

theorem ltOf_iff (K : Nat → List UInt8) (x y : Nat) : ltOf (fun x y => compareBytes (K x) (K y)) x y = true ↔ ltB (K x) (K y) := by
  unfold ltOf ltB
  simp

theorem swoKeys (K : Nat → List UInt8) : SWO (ltOf (fun x y => compareBytes (K x) (K y))) where
  irrefl x := by
    rw [Bool.eq_false_iff, ne_eq, ltOf_iff]; exact ltB_irrefl _
  trans x y z h1 h2 := by
    rw [ltOf_iff] at *; exact ltB_trans h1 h2
  ntrans x y z h1 h2 := by
    rw [Bool.eq_false_iff, ne_eq, ltOf_iff] at *; exact leB_trans h2 h1

theorem But.sortWorld (B : Nat → Nat) (K : Nat → List UInt8) (w : World) (blk m : Nat) (d : Array Nat) (os : Array Obj) : But blk w (sortWorld (enc B K) w blk 0 m d os) :=
  (But.putRow (enc B K) w m blk 0 d).trans (But.grow blk _ os)

theorem same_grow (W : World) : ∃ q os', W = grow (W.drewN q) os' := ⟨0, #[], by simp [World.drewN]⟩

theorem cmpKeys (B : Nat → Nat) (K : Nat → List UInt8) (blk size : Nat) (w : World) (hK : ∀ i, B i ≠ blk ∧ KeyAt w (B i) (K i)) : CmpLays1 Yba.prog 9 #[] (enc B K) (fun x y => compareBytes (K x) (K y)) blk 0 size w :=
  fun m os dk _ x y => (closure9 (B x) (B y) (K x) (K y) _ ((hK x).2.but (But.sortWorld B K w blk m dk os) (hK x).1) ((hK y).2.but (But.sortWorld B K w blk m dk os) (hK y).1)).mono
    fun e w' ⟨he, hw⟩ => ⟨he, by subst hw; exact same_grow _⟩

theorem sortSaid : SortSaid := by
  intro B K blk cap d w hH hK hblk hsz
  have eg : ∀ args w, (callFunc 9 args).run Yba.prog w = .ok (.enter 9 args) w := enters_of Yba.func9 (by kernel_rfl) rfl
  have hcon := Any.slices_SortFunc Yba.sortKeys (enc B K) (enc_one B K) (fun x y => compareBytes (K x) (K y)) (swoKeys K) 9 #[] blk 0 cap d w eg (cmpKeys B K blk d.size w hK) hH hblk (by omega)
  change Calls Yba.prog 8 _ _ _ at hcon
  refine hcon.mono ?_
  rintro e w' ⟨rfl, d', n, os, ⟨hs, _, hp⟩, hsort, rfl⟩
  refine ⟨rfl, d', hs, ?_, fun i j hij hj => ?_, holds_sortWorld (enc B K) w blk 0 n d d' os hblk hH hs, But.sortWorld B K w blk n d' os⟩
  · have e1 : d'.extract 0 d.size = d' := by rw [← hs]; simp
    have e2 : d.extract 0 d.size = d := by simp
    rwa [e1, e2] at hp
  · have := hsort i j (Nat.zero_le _) hij hj
    rw [Bool.eq_false_iff, ne_eq, ltOf_iff] at this
    exact this

theorem range_getD (Ks : List (List UInt8)) : (List.range Ks.length).map (fun i => Ks.getD i []) = Ks := by
  apply List.ext_getElem
  · simp
  · intro i h1 h2
    simp [List.getD_eq_getElem?_getD, List.getElem?_eq_getElem h2]

theorem searchSaid : SearchSaid := by
  intro g cap tb bs Ks h w hl hg hn hp hk hne
  obtain ⟨hlen, hl⟩ := hl
  have hB : ∀ i, i < Ks.length → bs.getD i (g + 1) = bs.getD i 0 := fun i hi => by
    rw [List.getD_eq_getElem?_getD, List.getD_eq_getElem?_getD, List.getElem?_eq_getElem (by omega)]; rfl
  have hK : ∀ i, bs.getD i (g + 1) ≠ g ∧ KeyAt w (bs.getD i (g + 1)) (Ks.getD i []) := fun i => by
    by_cases hi : i < Ks.length
    · rw [hB i hi]
      exact ⟨(hl i hi).1, (hl i hi).2.1⟩
    · have : Ks.getD i [] = [] := by rw [List.getD_eq_getElem?_getD, List.getElem?_eq_none (by omega)]; rfl
      rw [this]
      refine ⟨?_, fun j hj => by simp at hj⟩
      rw [List.getD_eq_getElem?_getD, List.getElem?_eq_none (by omega)]
      simp
  have hH : Holds (enc (fun i => bs.getD i (g + 1)) (fun i => Ks.getD i [])) w g 0 (Array.range Ks.length) := fun j hj => by
    have hj' : j < Ks.length := by simpa using hj
    rw [range_get _ _ hj', Nat.zero_add]
    unfold enc
    simp only [hB j hj']
    exact (hl j hj').2.2
  have hds : (Array.range Ks.length).size = Ks.length := by simp
  have eg : ∀ args w, (callFunc 14 args).run Yba.prog w = .ok (.enter 14 args) w := enters_of Yba.func14 (by kernel_rfl) rfl
  have hcmp : CmpLaysT Yba.prog 14 #[] (enc (fun i => bs.getD i (g + 1)) (fun i => Ks.getD i [])) (kv tb h) (fun x => compareBytes (Ks.getD x []) h) g 0 (Array.range Ks.length).size w :=
    fun m os dk _ x => (compareKeys14 _ _ _ _ _ ((hK x).2.but (But.sortWorld _ _ w g m dk os) (hK x).1) (hk.but (But.sortWorld _ _ w g m dk os) hne)).mono
      fun e w' ⟨he, hw⟩ => ⟨he, by subst hw; exact same_grow _⟩
  have hmono : ∀ a b, a ≤ b → b < (Array.range Ks.length).size → compareBytes (Ks.getD (Array.range Ks.length)[b]! []) h < 0 → compareBytes (Ks.getD (Array.range Ks.length)[a]! []) h < 0 := by
    intro a b hab hb hlt
    rw [hds] at hb
    rw [range_get _ _ hb] at hlt
    rw [range_get _ _ (by omega)]
    by_cases e : a = b
    · subst e; exact hlt
    · have := List.pairwise_iff_getElem.1 hp a b (by omega) hb (by omega)
      rw [List.getD_eq_getElem?_getD, List.getElem?_eq_getElem hb] at hlt
      rw [List.getD_eq_getElem?_getD, List.getElem?_eq_getElem (show a < Ks.length by omega)]
      exact ltB_trans this hlt
  have hcon := Any.slices_BinarySearchFunc Yba.searchKeys (enc (fun i => bs.getD i (g + 1)) (fun i => Ks.getD i [])) (enc_one _ _) (kv tb h) (fun x => compareBytes (Ks.getD x []) h) 14 #[] g 0 cap (Array.range Ks.length) w eg hcmp hH hg (by omega) hmono
  change Calls Yba.prog 13 _ _ _ at hcon
  have hcnt : (Array.range Ks.length).toList.countP (fun x => decide (compareBytes (Ks.getD x []) h < 0)) = Ks.countP (fun x => decide (compareBytes x h < 0)) := by
    conv => rhs; rw [← range_getD Ks]
    rw [List.countP_map, Array.toList_range]
    rfl
  have hfound := search_found Ks h hp
  rw [hcnt, hds] at hcon
  have hfin : (decide (Ks.countP (fun x => decide (compareBytes x h < 0)) < Ks.length) && decide (compareBytes (Ks.getD (Array.range Ks.length)[Ks.countP (fun x => decide (compareBytes x h < 0))]! []) h = 0)) = decide (h ∈ Ks) := by
    rw [← hfound]
    by_cases hc : Ks.countP (fun x => decide (compareBytes x h < 0)) < Ks.length
    · rw [range_get _ _ hc]
    · simp [hc]
  rw [hfin] at hcon
  refine hcon.mono ?_
  rintro e w' ⟨rfl, n, os, rfl⟩
  refine ⟨_, rfl, ?_⟩
  unfold Go.Proofs.sortWorld
  rw [putRow_self _ _ _ _ _ (holds_ahead _ w n g 0 _ hH)]
  exact ⟨rfl, rfl, rfl, by simp [Sort.ahead], fun k hk => by rw [heap_grow_old _ _ (by exact hk)]; rfl⟩
end Go.Proofs.Ybulkcias
