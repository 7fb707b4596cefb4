import Derived.Test.YbulkcibuLeaves
namespace Go.Proofs.Ybulkcibu
open Go.RowKit

/-- One block more, appended: where the new row lies. -/
theorem append_block {P : Program} {t ty e : TypeId} {i : TypeInfo} {z : Value} {w : World} {base n : Nat} {v v' : Value} {w' : World} {xs : List Value} {ad : Addr} {u : Value} (ht : P.underlying t = some (.slice e)) (hi : P.info? e = some i) (hz : i.zero = some z) (hs : i.size = 1) (hb : i.bytes = 8)
    (hown : w.ownsRow base e 1 v n xs) (hu : w.cell? ad = some u) (h1 : u.oneCell' = true) (hn : n ≤ 600) (hr : (Builtin.append_ #[t, t] ty #[v, .slice (some ad) 1 1]).run P w = .ok v' w') :
    v'.ownBlock = v.ownBlock ∨ v'.ownBlock = some w.heap.size := by
  have hnews : ∀ j x, [u][j]? = some x → w.cell? (ad.add j) = some x := by
    intro j x hj
    match j, hj with
    | 0, hj => simp at hj; subst hj; simpa [Addr.add] using hu
  rcases hown.2 with ⟨rfl, rfl⟩ | ⟨g, cap, cur, rfl, hbg, hg, hnc, hcm, hcs, htake⟩
  · have := run_append_nil (P := P) w t ty e i z ht hi hz ad 1 1 [u] (by simp [hs]) hnews (by omega) (by omega) (by rw [hb]; omega)
    rw [this] at hr
    simp at hr
    rw [← hr.1]
    exact .inr rfl
  · by_cases hroom : n + 1 ≤ cap
    · have := run_append_room (P := P) w t ty e i ht hi g n cap cur hg ad 1 1 [u] (by simp [hs]) hnews (by intro x hx; simp at hx; subst hx; exact h1) hroom (by rw [hs, hcs]; simp; omega)
      rw [this] at hr
      simp at hr
      rw [← hr.1]
      exact .inl rfl
    · have holds : ∀ j u, xs[j]? = some u → w.cell? ((⟨g, 0, none⟩ : Addr).add j) = some u := hown.cells (g := g) rfl
      have := run_append_grow (P := P) w t ty e i z ht hi hz ⟨g, 0, none⟩ n cap xs (by rw [hs]; exact hown.1) holds ad 1 1 [u] (by simp [hs]) hnews (by omega) (by omega) (growslice_fits (by omega) (by rw [hb]; omega))
      rw [this] at hr
      simp at hr
      rw [← hr.1]
      exact .inr rfl

theorem wpList_append_ptr {w : World} {ops : Array Oper} {rest : List Oper} {o : Oper} {a : Act} {Q : Exit → Act → World → Prop} (hgd : o.guard = none) (s x : Operand)
    (ho : o.op = .call { callee := .builtin .append, args := #[s, x], argTypes := #[24, 24] }) (base : Nat) (v : Value) (n : Nat) (xs : List Value) (hs : a.eval s = v) (hown : w.ownsRow base 28 1 v n xs)
    (ad : Addr) (u : Value) (hx : a.eval x = .slice (some ad) 1 1) (hu : w.cell? ad = some u) (h1 : u.oneCell' = true) (hn : n ≤ 600) (hbase : base ≤ w.heap.size)
    (h : ∀ v' w', w'.ownsRow base 28 1 v' (n + 1) (xs ++ [u]) → w.grownBy w' v.ownBlock → (v'.ownBlock = v.ownBlock ∨ v'.ownBlock = some w.heap.size) → wpList Yba.prog ops Q rest (a.put o.dst v') w') : wpList Yba.prog ops Q (o :: rest) a w := by
  obtain ⟨i28, hi28, hz28, hs28, hb28⟩ := info_parts Yba.info28
  refine wpList_plain hgd fun K hK => ?_
  have hnews : ∀ j x, [u][j]? = some x → w.cell? (ad.add j) = some x := by
    intro j x hj
    match j, hj with
    | 0, hj => simp at hj; subst hj; simpa [Addr.add] using hu
  obtain ⟨v', w', hr, h2, h3, _⟩ := run_append_own (P := Yba.prog) w base 24 o.type 28 i28 (.pointer none) 1 8 Yba.underlying24 hi28 hz28 hs28 hb28 rfl (by decide) v n xs hown ad 1 1 [u] rfl hnews (by intro x hx; simp at hx; subst hx; exact h1) (by unfold maxLen; omega) (by omega) hbase
  have h5 := append_block Yba.underlying24 hi28 hz28 hs28 hb28 hown hu h1 hn hr
  unfold Oper.wp
  simp [execOp, ho, resolve, invoke, builtin, hs, hx, hr, Result.andThen]
  exact hK _ _ (h v' w' h2 h3 h5)

/-- Two rows of the call's own that lie apart. -/
def Apart (x y : Value) : Prop := x.ownBlock = none ∨ x.ownBlock ≠ y.ownBlock

theorem one_new (w : World) (x : Value) (t : TypeId) : (w.alloc (.cells #[x] t)).cell? ⟨w.heap.size, 0, none⟩ = some x := by simp

/-- An append onto one of two rows that lie apart. -/
theorem app2 {A : Nat → Nat} {base : Nat} {w wr w3 : World} {v v' y : Value} {B C : List Nat} {b : Nat} {o : Obj} (hown : wr.ownsRow base 28 1 v B.length (B.map (ptr A))) (hy : wr.ownsRow base 28 1 y C.length (C.map (ptr A)))
    (hown3 : w3.ownsRow base 28 1 v' (B.length + 1) (B.map (ptr A) ++ [ptr A b])) (hg3 : (wr.alloc o).grownBy w3 v.ownBlock) (hblk : v'.ownBlock = v.ownBlock ∨ v'.ownBlock = some (wr.alloc o).heap.size) (hap : y.ownBlock = none ∨ y.ownBlock ≠ v.ownBlock) (hb : Below base w wr) (hbase : base ≤ wr.heap.size) :
    (w3.ownsRow base 28 1 v' (B ++ [b]).length ((B ++ [b]).map (ptr A)) ∧ Below base w w3) ∧ w3.ownsRow base 28 1 y C.length (C.map (ptr A)) ∧ (y.ownBlock = none ∨ y.ownBlock ≠ v'.ownBlock) := by
  refine ⟨app_step hown (Below.refl _ _) hown3 hg3 hb hbase, (hy.alloc o).kept hg3 hap, ?_⟩
  rcases hap with h | h
  · exact .inl h
  · rcases hblk with e | e
    · rw [e]; exact .inr h
    · rw [e]
      cases hyb : y.ownBlock with
      | none => exact .inl rfl
      | some k =>
        have := (hy.lt k hyb).2
        refine .inr ?_
        simp
        omega

theorem kids_len (par : Nat → Nat) (snd : Nat → Bool) (b n m : Nat) : (kids par snd b n m).length ≤ (kids par snd b n 0).length := by
  unfold kids
  rw [List.length_reverse, List.length_reverse, ← List.countP_eq_length_filter, ← List.countP_eq_length_filter]
  apply List.countP_mono_left
  intro x _ hx
  simp at hx ⊢
  exact ⟨⟨hx.1.1.2, hx.1.2⟩, hx.2⟩
theorem apart_symm {x y : Option Nat} (h : x = none ∨ x ≠ y) : y = none ∨ y ≠ x := by
  rcases h with h | h
  · subst h
    cases y <;> simp
  · exact .inr (Ne.symm h)
theorem sub_one (k : Nat) (h2 : k ≤ 600) : IntKind.i64.wrap (((k + 1 : Nat) : Int) - 1) = (k : Int) := by
  simp [IntKind.wrap, IntKind.bits, IntKind.signed]
  omega

set_option maxHeartbeats 4000000 in
set_option maxRecDepth 100000 in
/-- Not all is sound: the walk over the tree. -/
theorem leaves_dfs (hS : SortSaid) (A : Nat → Nat) (T : Tr) (tb sb : Nat) (lost : Int) (tv : Value) (now : Int) (f : Nat) (w : World) (hT : T.Ok) (ht : TreeAt w A T) (hh : HeadAt w A tb sb lost tv) (hf : f < T.n)
    (hn : ∀ i, i < T.n → T.arr i ≤ now) (hn2 : now ≤ 1000000) (hall : (decide (lost = 0) && decide (now - T.arr 0 ≤ 120)) = false) :
    Calls Yba.prog 5 #[.pointer (some ⟨tb, 0, none⟩), ptr A f, .int .u64 now] w fun e w' => ∃ v L done, e = .returned v ∧ RowAt w' A v L ∧ Below w.heap.size w w' ∧ Dfs T.par (T.snd now) T.n f done [] ∧ L.Perm (done.filter fun i => !hasKid T.par (T.snd now) T.n i) ∧ L.Pairwise (fun x y => x ≤ y) := by
  have hsound := allSound_any A T tb sb lost tv now w hT ht hh hn hn2
  rw [hall] at hsound
  have HT : Hid (TreeAt w A T) := ht
  have HH : Hid (HeadAt w A tb sb lost tv) := hh
  have HO : Hid T.Ok := hT
  have HN : Hid (∀ i, i < T.n → T.arr i ≤ now) := hn
  have hpos := hT.pos
  have hlen := hT.len
  clear ht hh hT hn hall
  have e1 : ptr A f = .pointer (some ⟨A f, 0, none⟩) := rfl
  rw [e1]
  clear e1
  go_enter Yba.func5, Yba.ntmps5
  go_wp2_with (go_at_call 7; refine hsound.mono ?_; rintro e w' ⟨rfl, hw'⟩; have hw'' := hw'.symm; subst hw'')
  go_loopg [7, 10] T.n (fun k s7 s10 wr => ∃ done stack : List Nat, T.n - done.length ≤ k ∧ Hid (Dfs T.par (T.snd now) T.n f done stack) ∧ Hid (wr.ownsRow w.heap.size 28 1 s10 stack.length (stack.map (ptr A))) ∧
    Hid (wr.ownsRow w.heap.size 28 1 s7 (done.filter fun i => !hasKid T.par (T.snd now) T.n i).length ((done.filter fun i => !hasKid T.par (T.snd now) T.n i).map (ptr A))) ∧ Hid (s7.ownBlock = none ∨ s7.ownBlock ≠ s10.ownBlock) ∧ Hid (Below w.heap.size w wr) ∧ ∃ ao cp, s10 = .slice ao stack.length cp)
  case atStart =>
    refine ⟨[], [f], by omega, Dfs.start hf, ?_, World.ownsRow_nil _ _ _ _, .inl rfl, (Below.refl _ _).alloc (Nat.le_refl _) _, _, _, rfl⟩
    exact World.ownsRow_lit w #[.pointer (some ⟨A f, 0, none⟩)] 1 (Nat.le_refl _) (by unfold maxLen; omega) rfl
  case round =>
    obtain ⟨done, stack, hk, HD, HST, HBL, HAP, HB, ao, cp, rfl⟩ := hrel
    have hsz := HB.out.size
    rcases List.eq_nil_or_concat stack with rfl | ⟨st, b, rfl⟩
    · have hBm : ∀ i ∈ done.filter (fun i => !hasKid T.par (T.snd now) T.n i), i < T.n := fun i hi => (HD.out.sub i (by simpa using (List.mem_filter.1 hi).1)).1
      have hBl : (done.filter (fun i => !hasKid T.par (T.snd now) T.n i)).length ≤ 513 := Nat.le_trans (List.length_filter_le _ _) (Nat.le_trans (len_le_of_nodup (by simpa using HD.out.nd) (fun i hi => (HD.out.sub i (by simpa using hi)).1)) hlen)
      have hsort := hS A T _ u7 w.heap.size wr HO.out (HT.out.below HB.out) (fun i hi => HT.out.lt i hi) hBm hBl HBL.out
      go_wp2_with fail
      refine hsort.mono ?_
      rintro e w2 ⟨rfl, hb2, L, hL1, hL2, hL3, hL4⟩
      clear hsort
      go_wp2
      go_ret
      refine ⟨_, L, done, rfl, ?_, HB.out.trans hb2, HD.out, hL2, hL3⟩
      rcases hL4 with rfl | h4
      · refine .inl ⟨rfl, ?_⟩
        rcases HBL.out.2 with ⟨_, h5⟩ | ⟨_, _, _, h5, _⟩
        · exact List.eq_nil_of_length_eq_zero (by omega)
        · cases h5
      · exact .inr h4
    · rw [List.concat_eq_append] at HD HST
      rw [List.concat_eq_append, List.length_append, List.length_singleton] at HAP
      simp only [List.concat_eq_append, List.length_append, List.length_singleton, List.map_append, List.map_cons, List.map_nil] at HST ⊢
      obtain ⟨g, cap, hshape, hbg, hcap, hgl⟩ := own_shape HST.out (by omega)
      simp only [Value.slice.injEq] at hshape
      obtain ⟨rfl, _, rfl⟩ := hshape
      obtain ⟨hbn, hbr⟩ := HD.out.sub b (by simp)
      have hstl : st.length ≤ 513 := by
        have h1 := len_le_of_nodup HD.out.nd (fun i hi => (HD.out.sub i hi).1)
        simp at h1
        omega
      have hct : wr.cell? ⟨g, st.length, none⟩ = some (.pointer (some ⟨A b, 0, none⟩)) := by
        rw [HST.out.cellAt st.length (by omega), List.getElem?_append_right (by simp)]
        simp [ptr]
      have hch := (HT.out.below HB.out).child b hbn
      have HST' : Hid (wr.ownsRow w.heap.size 28 1 (.slice (some ⟨g, 0, none⟩) st.length cp) st.length (st.map (ptr A))) := own_cut HST.out
      have hw1 := sub_one st.length (by omega)
      clear HST
      have HFL : Hid ((done ++ [b]).filter (fun i => !hasKid T.par (T.snd now) T.n i) = done.filter (fun i => !hasKid T.par (T.snd now) T.n i) ++ (if hasKid T.par (T.snd now) T.n b = false then [b] else [])) := by
        show _ = _
        rw [List.filter_append]
        cases hhk : hasKid T.par (T.snd now) T.n b <;> simp [hhk]
      have hBl : Hid ((done.filter (fun i => !hasKid T.par (T.snd now) T.n i)).length ≤ 513) := by
        have h1 := len_le_of_nodup HD.out.nd (fun i hi => (HD.out.sub i hi).1)
        rw [List.length_append] at h1
        exact Nat.le_trans (List.length_filter_le _ _) (by omega)
      have HD' : Hid (Dfs T.par (T.snd now) T.n f (done ++ [b]) (st ++ kids T.par (T.snd now) b T.n 0)) := HD.out.step HO.out.par
      have hdl : done.length < T.n := by
        have h1 := len_le_of_nodup HD.out.nd (fun i hi => (HD.out.sub i hi).1)
        simp at h1
        omega
      have hkl0 : ∀ m, (st ++ kids T.par (T.snd now) b T.n m).length ≤ 600 := fun m => by
        have h1 := len_le_of_nodup HD'.out.nd (fun i hi => (HD'.out.sub i hi).1)
        have h2 := kids_len T.par (T.snd now) b T.n m
        simp at h1 ⊢
        omega
      clear HD
      generalize hBLe : done.filter (fun i => !hasKid T.par (T.snd now) T.n i) = BL at *
      clear hBLe
      go_wp2
      go_loopg [10, 13] T.n (fun k2 s10 s13 wi => ∃ m : Nat, m ≤ T.n ∧ m ≤ k2 ∧ s13 = optPtr A (lastChild T.par b m) ∧ Hid (wi.ownsRow w.heap.size 28 1 s10 (st ++ kids T.par (T.snd now) b T.n m).length ((st ++ kids T.par (T.snd now) b T.n m).map (ptr A))) ∧
        Hid (wi.ownsRow w.heap.size 28 1 u7 BL.length (BL.map (ptr A))) ∧ Hid (u7.ownBlock = none ∨ u7.ownBlock ≠ s10.ownBlock) ∧ Hid (Below w.heap.size w wi) ∧ ∃ ao cp, s10 = .slice ao (st ++ kids T.par (T.snd now) b T.n m).length cp)
      case atStart => exact ⟨T.n, Nat.le_refl _, Nat.le_refl _, rfl, by rw [kids_top, List.append_nil]; exact HST'.out, HBL, HAP, HB, _, _, by rw [kids_top, List.append_nil]⟩
      case round =>
        clear HST' HBL HAP hct hch hgl hbg
        obtain ⟨m, hm, hmk, rfl, HSI, HBI, HAI, HBe, ao, cp', rfl⟩ := hrel
        have hszi := HBe.out.size
        cases hlc : lastChild T.par b m with
        | none =>
          have hk0 := kids_none (snd := T.snd now) (n := T.n) hlc
          rw [hk0] at HSI HAI ⊢
          have ep : optPtr A none = .pointer none := rfl
          rw [ep]
          clear hk0 hlc ep
          have hkl := hkl0 0
          have HBl : Hid (BL.length ≤ 600) := Nat.le_trans hBl.out (by omega)
          cases hke : hasKid T.par (T.snd now) T.n b with
          | false =>
            rw [hke, if_pos rfl] at HFL
            have hk0 : kids T.par (T.snd now) b T.n 0 = [] := by simpa [hasKid] using hke
            rw [hk0, List.append_nil] at HSI HAI HD' ⊢
            clear hke hk0
            have heq : ((st.length : Int) == (st.length : Int)) = true := by simp
            go_wp2_with (refine wpList_append_ptr rfl (.tmp 94) (.tmp 96) rfl w.heap.size _ _ _ rfl (HBI.out.alloc _) ⟨wr.heap.size, 0, none⟩ (.pointer (some ⟨A b, 0, none⟩)) rfl (one_new _ _ _) rfl HBl.out (by simp; omega) ?_; intro v' w3 hown3 hg3 hblk; have R := app2 HBI.out HSI.out hown3 hg3 hblk (apart_symm HAI.out) HBe.out hszi; have HRR := R; clear R hown3 hg3 hblk)
            have R := HRR
            rw [← HFL.out] at R
            go_roundg (T.n - (done ++ [b]).length)
            case measure => simp; omega
            case rel => exact ⟨done ++ [b], st, Nat.le_refl _, HD', R.2.1, R.1.1, apart_symm R.2.2, R.1.2, _, _, rfl⟩
          | true =>
            rw [hke, if_neg (by simp), List.append_nil] at HFL
            have hk0 : kids T.par (T.snd now) b T.n 0 ≠ [] := by simpa [hasKid] using hke
            have hk1 : 0 < (kids T.par (T.snd now) b T.n 0).length := List.length_pos_iff.2 hk0
            have hgt : st.length < (st ++ kids T.par (T.snd now) b T.n 0).length := by rw [List.length_append]; omega
            clear hke hk0 hk1
            generalize st ++ kids T.par (T.snd now) b T.n 0 = SL at *
            have heq : ((SL.length : Int) == (st.length : Int)) = false := by simp; omega
            go_wp2
            go_roundg (T.n - (done ++ [b]).length)
            case measure => simp; omega
            case rel => exact ⟨done ++ [b], SL, Nat.le_refl _, HD', HSI, by rw [HFL.out]; exact HBI, HAI, HBe, _, _, rfl⟩
        | some c =>
          obtain ⟨hc1, hc2, hc3, hc4⟩ := lastChild_some hlc
          have HK : Hid (st ++ kids T.par (T.snd now) b T.n c = (st ++ kids T.par (T.snd now) b T.n m) ++ (if T.snd now c = true then [c] else [])) := by show _ = _; rw [kids_step hm hlc, List.append_assoc]
          have ep : optPtr A (some c) = .pointer (some ⟨A c, 0, none⟩) := rfl
          rw [ep]
          have hcn : c < T.n := by omega
          have hsnd := sound_any A T tb sb lost tv now c wr HO.out (HT.out.below HBe.out) (HH.out.below HBe.out) hcn hc2 HN.out hn2
          have hsib := (HT.out.below HBe.out).sibling c hcn hc2
          rw [hc3] at hsib
          have hkl : Hid ((st ++ kids T.par (T.snd now) b T.n m).length ≤ 600) := hkl0 m
          clear ep hc4 hlc
          generalize hSL : st ++ kids T.par (T.snd now) b T.n m = SL at *
          clear hSL
          generalize hSC : st ++ kids T.par (T.snd now) b T.n c = SC at *
          have HSC : Hid (st ++ kids T.par (T.snd now) b T.n c = SC) := hSC
          clear hSC
          unfold ptr at hsnd
          cases hs : T.snd now c with
          | true =>
            rw [hs] at hsnd HK
            rw [if_pos rfl] at HK
            generalize hsbe : optPtr A (lastChild T.par b c) = sb' at *
            go_wp2_with (first
              | (go_at_call 9; refine hsnd.mono ?_; rintro e w' ⟨rfl, hw'⟩; have hw'' := hw'.symm; subst hw'')
              | (refine wpList_append_ptr rfl (.tmp 86) (.tmp 88) rfl w.heap.size _ _ _ rfl (HSI.out.alloc _) ⟨wr.heap.size, 0, none⟩ (.pointer (some ⟨A c, 0, none⟩)) rfl (one_new _ _ _) rfl hkl.out (by simp; omega) ?_; intro v' w3 hown3 hg3 hblk; have R := app2 HSI.out HBI.out hown3 hg3 hblk HAI.out HBe.out hszi; have hsib3 : w3.cell? ⟨A c, 6, none⟩ = some sb' := (R.1.2.cell (p := ⟨A c, 6, none⟩) (HT.out.lt c hcn)).trans ((HBe.out.cell (p := ⟨A c, 6, none⟩) (HT.out.lt c hcn)).symm.trans hsib); have HRR := R; clear R hown3 hg3 hblk))
            have R := HRR
            rw [← HK.out] at R
            obtain ⟨ao', cp'', hsh⟩ : ∃ ao' cp'', v' = .slice ao' SC.length cp'' := by
              rcases R.1.1.2 with ⟨h5, h6⟩ | ⟨g5, c5, _, h5, _⟩
              · exact ⟨none, 0, by rw [h5, h6]⟩
              · exact ⟨_, _, h5⟩
            go_roundg c
            case measure => omega
            case rel => exact ⟨c, by omega, Nat.le_refl _, hsbe.symm, by rw [HSC.out]; exact R.1.1, R.2.1, R.2.2, R.1.2, ao', cp'', by rw [HSC.out]; exact hsh⟩
          | false =>
            rw [hs] at hsnd HK
            rw [if_neg (by simp), List.append_nil] at HK
            generalize hsbe : optPtr A (lastChild T.par b c) = sb' at *
            go_wp2_with (go_at_call 9; refine hsnd.mono ?_; rintro e w' ⟨rfl, hw'⟩; have hw'' := hw'.symm; subst hw'')
            go_roundg c
            case measure => omega
            case rel => exact ⟨c, by omega, Nat.le_refl _, hsbe.symm, by rw [HSC.out, HK.out]; exact HSI, HBI, HAI, HBe, _, _, by rw [HSC.out, HK.out]⟩
end Go.Proofs.Ybulkcibu
