import Derived.Test.YbulkcibuSound
import Derived.OwnWalk
import Derived.Maps.AppendAt
import Derived.Deep.DeepCutAuto
namespace Go.Proofs.Ybulkcibu
open Go.RowKit

theorem Yba.info28 : (Yba.prog.info? 28).map (fun i => (i.zero, i.size, i.bytes)) = some (some (.pointer none), 1, 8) := by kernel_rfl

/-- WHAT slices.SortFunc DOES TO A ROW OF BLOCKS (paid in YbulkcibuSort). -/
def SortSaid : Prop := ∀ (A : Nat → Nat) (T : Tr) (B : List Nat) (v : Value) (base : Nat) (w : World), T.Ok → TreeAt w A T → (∀ i, i < T.n → A i < base) → (∀ i ∈ B, i < T.n) → B.length ≤ 513 → w.ownsRow base 28 1 v B.length (B.map (ptr A)) →
  Calls Yba.prog 10 #[v, .func (.func 11) #[] #[]] w fun e w' => e = .returned (.tuple #[]) ∧ Below base w w' ∧
    ∃ L : List Nat, L.length = B.length ∧ L.Perm B ∧ L.Pairwise (fun x y => x ≤ y) ∧ (v = .slice none 0 0 ∨ ∃ g cap, v = .slice (some ⟨g, 0, none⟩) L.length cap ∧ g < w'.heap.size ∧ ∀ j, j < L.length → w'.cell? ⟨g, j, none⟩ = some (ptr A (L.getD j 0)))

/-- A row of blocks in memory. -/
def RowAt (w : World) (A : Nat → Nat) (v : Value) (L : List Nat) : Prop :=
  (v = .slice none 0 0 ∧ L = []) ∨ ∃ g cap, v = .slice (some ⟨g, 0, none⟩) L.length cap ∧ g < w.heap.size ∧ ∀ j, j < L.length → w.cell? ⟨g, j, none⟩ = some (ptr A (L.getD j 0))

theorem RowAt.below {w w' : World} (hb : Below w.heap.size w w') {A : Nat → Nat} {v : Value} {L : List Nat} (h : RowAt w A v L) : RowAt w' A v L := by
  rcases h with h | ⟨g, cap, hv, hg, hc⟩
  · exact .inl h
  · exact .inr ⟨g, cap, hv, by have := hb.size; omega, fun j hj => by rw [hb.cell (p := ⟨g, j, none⟩) hg]; exact hc j hj⟩

theorem ptr_one (A : Nat → Nat) (l : List Nat) : ∀ u ∈ l.map (ptr A), u.oneCell' = true := by
  intro u hu
  obtain ⟨_, _, rfl⟩ := List.mem_map.1 hu
  rfl

/-- One more block at the end of a row of the call's own. -/
theorem ownsRow_below {w w' : World} {B base : Nat} {e : TypeId} {size n : Nat} {v : Value} {xs : List Value} (h : w.ownsRow base e size v n xs) (hb : Below B w w') (hB : w.heap.size ≤ B) : w'.ownsRow base e size v n xs := by
  refine ⟨h.1, ?_⟩
  rcases h.2 with h1 | ⟨g', cap', cur, hv, h1, h2, h3⟩
  · exact .inl h1
  · exact .inr ⟨g', cap', cur, hv, h1, by rw [hb.block g' (by have := (Array.getElem?_eq_some_iff.1 h2).1; omega)]; exact h2, h3⟩

/-- A stack or a list of the call's own, at its end. -/
theorem own_shape {w : World} {base : Nat} {v : Value} {xs : List Value} {n : Nat} (h : w.ownsRow base 28 1 v n xs) (hn : 0 < n) : ∃ g cap, v = .slice (some ⟨g, 0, none⟩) n cap ∧ base ≤ g ∧ n ≤ cap ∧ g < w.heap.size := by
  rcases h.2 with ⟨_, h1⟩ | ⟨g', cap', cur, hv, h1, h2, h3, _⟩
  · omega
  · exact ⟨g', cap', hv, h1, h3, (Array.getElem?_eq_some_iff.1 h2).1⟩
theorem own_cut {w : World} {base g cap n : Nat} {xs : List Value} {x : Value} (h : w.ownsRow base 28 1 (.slice (some ⟨g, 0, none⟩) (n + 1) cap) (n + 1) (xs ++ [x])) : w.ownsRow base 28 1 (.slice (some ⟨g, 0, none⟩) n cap) n xs := by
  have hl := h.1
  simp at hl
  refine ⟨by omega, ?_⟩
  rcases h.2 with ⟨h1, _⟩ | ⟨g', cap', cur, hv, h1, h2, h3, h4, h5, h6⟩
  · cases h1
  · simp only [Value.slice.injEq, Option.some.injEq, Addr.mk.injEq] at hv
    obtain ⟨⟨rfl, _⟩, _, rfl⟩ := hv
    refine .inr ⟨g, cap, cur, rfl, h1, h2, by omega, h4, h5, ?_⟩
    have := congrArg (List.take n) h6
    rw [List.take_take, List.take_append_of_le_length (by omega)] at this
    rw [show min n ((n + 1) * 1) = n * 1 by omega] at this
    rw [this, List.take_of_length_le (by omega)]

/-- What an append leaves. -/
theorem app_step {A : Nat → Nat} {base : Nat} {w wr wx w3 : World} {v v' : Value} {B : List Nat} {b : Nat} {o : Obj} (hown : wr.ownsRow base 28 1 v B.length (B.map (ptr A))) (hbx : Below wr.heap.size wr wx)
    (hown3 : w3.ownsRow base 28 1 v' (B.length + 1) (B.map (ptr A) ++ [ptr A b])) (hg3 : (wx.alloc o).grownBy w3 v.ownBlock) (hb : Below base w wr) (hbase : base ≤ wr.heap.size) :
    w3.ownsRow base 28 1 v' (B ++ [b]).length ((B ++ [b]).map (ptr A)) ∧ Below base w w3 := by
  refine ⟨by simpa using hown3, ?_⟩
  have hsx := hbx.size
  exact ((hb.trans (hbx.mono hbase)).alloc (by omega) _).grown hg3 (by simp; omega) (fun k hk => (hown.lt k hk).1)
theorem filter_take (p : Nat → Bool) (l : List Nat) (i : Nat) (h : i < l.length) : (l.take (i + 1)).filter p = (l.take i).filter p ++ (if p (l.getD i 0) = true then [l.getD i 0] else []) := by
  rw [List.take_succ_eq_append_getElem h, List.filter_append]
  have e : l.getD i 0 = l[i] := by rw [List.getD_eq_getElem?_getD, List.getElem?_eq_getElem h]; rfl
  rw [e]
  by_cases hp : p l[i] = true <;> simp [hp]
theorem rch_root {par : Nat → Nat} {n : Nat} (hpar : ∀ i, i ≠ 0 → i < n → par i < i) : ∀ k x, x ≤ k → x < n → rch par allT 0 x = true
  | 0, x, hk, _ => by
    have : x = 0 := by omega
    subst this
    exact rch_self
  | k + 1, x, hk, hx => by
    by_cases e : x = 0
    · subst e; exact rch_self
    · have hp := hpar x e hx
      rw [rch_gt hpar (by omega) hx, rch_root hpar k (par x) (by omega) (by omega)]
      rfl

set_option maxHeartbeats 2000000 in
set_option maxRecDepth 100000 in
/-- All is sound: the tips that lie above 'from'. -/
theorem leaves_tips (hS : SortSaid) (A : Nat → Nat) (T : Tr) (tb sb : Nat) (lost : Int) (tv : Value) (tips : List Nat) (now : Int) (f : Nat) (w : World) (hT : T.Ok) (ht : TreeAt w A T) (hh : HeadAt w A tb sb lost tv) (hf : f < T.n)
    (hn : ∀ i, i < T.n → T.arr i ≤ now) (hn2 : now ≤ 1000000) (htips : RowAt w A tv tips) (htl : ∀ i ∈ tips, i < T.n) (htn : tips.length ≤ 513) (htp : 0 < tips.length) (hall : (decide (lost = 0) && decide (now - T.arr 0 ≤ 120)) = true) :
    Calls Yba.prog 5 #[.pointer (some ⟨tb, 0, none⟩), ptr A f, .int .u64 now] w fun e w' => ∃ v L, e = .returned v ∧ RowAt w' A v L ∧ Below w.heap.size w w' ∧ L.Perm (tips.filter fun b => rch T.par allT f b) ∧ L.Pairwise (fun x y => x ≤ y) := by
  obtain ⟨i28, hi28, hz28, hs28, hb28⟩ := info_parts Yba.info28
  have hsound := allSound_any A T tb sb lost tv now w hT ht hh hn hn2
  rw [hall] at hsound
  have HT : Hid (TreeAt w A T) := ht
  have HH : Hid (HeadAt w A tb sb lost tv) := hh
  have HO : Hid T.Ok := hT
  have hpos := hT.pos
  have k0 := hh.t0
  have k18 := hh.s18
  have hts := hh.tlt
  have hss := hh.slt
  clear ht hh hT hn hall
  rcases htips with ⟨rfl, rfl⟩ | ⟨g, cap, rfl, hg, hc⟩
  · simp at htp
  · have HTC : Hid (∀ j, j < tips.length → w.cell? ⟨g, j, none⟩ = some (ptr A (tips.getD j 0))) := hc
    clear hc
    unfold ptr
    go_enter Yba.func5, Yba.ntmps5
    go_wp2_with (go_at_call 7; refine hsound.mono ?_; rintro e w' ⟨rfl, hw'⟩; have hw'' := hw'.symm; subst hw'')
    go_loopg [7, 25] tips.length (fun k s7 s25 wr => ∃ i : Nat, i ≤ tips.length ∧ tips.length - i ≤ k ∧ s25 = .int .i64 i ∧ Hid (wr.ownsRow w.heap.size 28 1 s7 ((tips.take i).filter fun b => rch T.par allT f b).length (((tips.take i).filter fun b => rch T.par allT f b).map (ptr A))) ∧ Hid (Below w.heap.size w wr))
    case atStart => exact ⟨0, Nat.zero_le _, by omega, rfl, World.ownsRow_nil _ _ _ _, Below.refl _ _⟩
    case round =>
      obtain ⟨i, hi, hik, rfl, HOW, HB⟩ := hrel
      have hsz := HB.out.size
      by_cases hlt : i < tips.length
      · have hbn : tips.getD i 0 < T.n := htl _ (by rw [List.getD_eq_getElem?_getD, List.getElem?_eq_getElem hlt]; simp)
        have hci : wr.cell? ⟨g, i, none⟩ = some (ptr A (tips.getD i 0)) := by rw [HB.out.cell (p := ⟨g, i, none⟩) hg]; exact HTC.out i hlt
        have HTr := HT.out.below HB.out
        have HHr := HH.out.below HB.out
        have q0 := HHr.t0
        have q2 := HHr.s2
        have qs := HTr.slot f hf
        have heq := HTr.eql hf HO.out.pos
        have HF : Hid ((tips.take (i + 1)).filter (fun b => rch T.par allT f b) = (tips.take i).filter (fun b => rch T.par allT f b) ++ (if rch T.par allT f (tips.getD i 0) = true then [tips.getD i 0] else [])) := filter_take _ _ _ hlt
        have hblen : Hid (((tips.take i).filter fun b => rch T.par allT f b).length ≤ 513) := Nat.le_trans (List.length_filter_le _ _) (by simp; omega)
        generalize tips.getD i 0 = b at *
        generalize (tips.take i).filter (fun b => rch T.par allT f b) = BL at *
        generalize hBL' : (tips.take (i + 1)).filter (fun b => rch T.par allT f b) = BL' at *
        by_cases hf0 : f = 0
        · subst hf0
          rw [show decide ((0 : Nat) = 0) = true by simp] at heq
          have hr : rch T.par allT 0 b = true := rch_root HO.out.par b b (Nat.le_refl _) hbn
          rw [hr, if_pos rfl] at HF
          clear HTr HHr hr
          unfold ptr at hci q2 heq
          go_wp2_with (at_builtin; refine wpList_append_own _ rfl _ _ 24 rfl w.heap.size 28 i28 (.pointer none) 1 8 Yba.underlying24 hi28 hz28 hs28 hb28 rfl (by decide) _ _ _ rfl (HOW.out.alloc _) ⟨wr.heap.size, 0, none⟩ 1 1 [.pointer (some ⟨A b, 0, none⟩)] rfl rfl (cell_one_new _ _ _) (by intro u hu; simp at hu; subst hu; rfl) (by have := hblen.out; unfold maxLen; omega) (by have := hblen.out; omega) (by simp; omega) ?_; intro v' w3 hown3 hg3 _)
          have R := app_step HOW.out (Below.refl wr.heap.size wr) hown3 hg3 HB.out hsz
          rw [← HF.out] at R
          clear hown3 hg3
          go_roundg (tips.length - (i + 1))
          case measure => omega
          case rel => exact ⟨i + 1, by omega, Nat.le_refl _, by go_num, by rw [hBL']; exact R.1, R.2⟩
        · rw [show decide (f = 0) = false by simpa using hf0] at heq
          have hbel := below_any A T tb sb lost _ b f wr HO.out HTr HHr hbn hf
          have HEQ2 : Hid (∀ q, (binOp .eql 28 (ptr A (upTo T.par f b)) (ptr A f)).run Yba.prog (wr.drewN q) = .ok (.bool (rch T.par allT f b)) (wr.drewN q)) := fun q => by
            have hu := upTo_rch (f := f) HO.out.par b b (Nat.le_refl _) hbn
            rw [← hu.1]
            exact (HTr.below (below_drawn _ wr q)).eql hu.2 hf
          clear HTr HHr
          unfold ptr at hci q2 heq hbel HEQ2
          generalize A (upTo T.par f b) = au at *
          have heq2 := HEQ2.out
          clear HEQ2
          cases hr : rch T.par allT f b with
          | true =>
            rw [hr] at heq2 HF
            rw [if_pos rfl] at HF
            clear hr
            go_wp2_with (first
              | (go_at_call 8; refine hbel.mono ?_; rintro e w' ⟨rfl, qq, hw'⟩; have hw'' := hw'.symm; subst hw'')
              | (at_builtin; refine wpList_append_own _ rfl _ _ 24 rfl w.heap.size 28 i28 (.pointer none) 1 8 Yba.underlying24 hi28 hz28 hs28 hb28 rfl (by decide) _ _ _ rfl ((ownsRow_below HOW.out (below_drawn _ wr qq) (Nat.le_refl _)).alloc _) ⟨wr.heap.size, 0, none⟩ 1 1 [.pointer (some ⟨A b, 0, none⟩)] rfl rfl (cell_one_new _ _ _) (by intro u hu; simp at hu; subst hu; rfl) (by have := hblen.out; unfold maxLen; omega) (by have := hblen.out; omega) (by simp; omega) ?_; intro v' w3 hown3 hg3 _))
            have R := app_step HOW.out (below_drawn wr.heap.size wr qq) hown3 hg3 HB.out hsz
            rw [← HF.out] at R
            clear hown3 hg3
            go_roundg (tips.length - (i + 1))
            case measure => omega
            case rel => exact ⟨i + 1, by omega, Nat.le_refl _, by go_num, by rw [hBL']; exact R.1, R.2⟩
          | false =>
            rw [hr] at heq2 HF
            rw [if_neg (by simp), List.append_nil] at HF
            clear hr
            go_wp2_with (go_at_call 8; refine hbel.mono ?_; rintro e w' ⟨rfl, qq, hw'⟩; have hw'' := hw'.symm; subst hw'')
            go_roundg (tips.length - (i + 1))
            case measure => omega
            case rel => exact ⟨i + 1, by omega, Nat.le_refl _, by go_num, by rw [hBL', HF.out]; exact ownsRow_below HOW.out (below_drawn _ wr qq) (Nat.le_refl _), HB.out.trans (below_drawn _ wr qq)⟩
      · obtain rfl : i = tips.length := by omega
        rw [List.take_length] at HOW
        have hBm : ∀ i ∈ tips.filter (fun b => rch T.par allT f b), i < T.n := fun i hi => htl i (List.mem_filter.1 hi).1
        have hBl : (tips.filter (fun b => rch T.par allT f b)).length ≤ 513 := Nat.le_trans (List.length_filter_le _ _) htn
        have hsort := hS A T _ u7 w.heap.size wr HO.out (HT.out.below HB.out) (fun i hi => HT.out.lt i hi) hBm hBl HOW.out
        go_wp2_with fail
        refine hsort.mono ?_
        rintro e w2 ⟨rfl, hb2, L, hL1, hL2, hL3, hL4⟩
        clear hsort
        go_wp2
        go_ret
        refine ⟨_, L, rfl, ?_, HB.out.trans hb2, hL2, hL3⟩
        rcases hL4 with rfl | h4
        · refine .inl ⟨rfl, ?_⟩
          have := HOW.out.1
          rcases HOW.out.2 with ⟨_, h5⟩ | ⟨_, _, _, h5, _⟩
          · exact List.eq_nil_of_length_eq_zero (by omega)
          · cases h5
        · exact .inr h4
end Go.Proofs.Ybulkcibu
