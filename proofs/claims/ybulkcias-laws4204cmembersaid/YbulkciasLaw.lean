import Derived.Test.YbulkciasRevokes
import Derived.Deep.DeepCutAuto
namespace Go.Proofs.Ybulkcias
open Go.RowKit
open Go.Sort hiding Below

theorem mem_take_succ (l : List (List UInt8)) (h : List UInt8) (i : Nat) (hlt : i < l.length) : decide (h ∈ l.take (i + 1)) = (decide (h ∈ l.take i) || (l.getD i [] == h)) := by
  have e : l.getD i [] = l[i] := by rw [List.getD_eq_getElem?_getD, List.getElem?_eq_getElem hlt]; rfl
  rw [e, List.take_succ_eq_append_getElem hlt, Bool.eq_iff_iff]
  simp only [decide_eq_true_eq, List.mem_append, List.mem_singleton, Bool.or_eq_true, beq_iff_eq]
  constructor
  · rintro (h1 | h1)
    · exact .inl h1
    · exact .inr h1.symm
  · rintro (h1 | h1)
    · exact .inl h1
    · exact .inr h1.symm

/-- What a new row of bytes is. -/
theorem made_row {W w1 : World} {n : Nat} {xs : List Value} (hown : w1.ownsRow W.heap.size 5 1 (.slice (some ⟨W.heap.size, 0, none⟩) n n) n xs) (hg : W.grownBy w1 none) :
    ∃ cur : List Value, Hid (w1.heap[W.heap.size]? = some (.cells cur.toArray 5 (0, 0))) ∧ Hid (cur.length = n) ∧ Below W.heap.size W w1 := by
  obtain ⟨cur, h1, h2⟩ := own_block hown
  exact ⟨cur, h1, h2, (Below.refl _ _).grown hg (Nat.le_refl _) (fun k hk => by cases hk)⟩
/-- What the copied row is. -/
theorem copied_row {w2 : World} {g : Nat} {cur : List Value} {k : List UInt8} (h : Hid (w2.heap[g]? = some (.cells (splice cur 0 (cellsK k)).toArray 5 (0, 0)))) (hl : Hid (cur.length = k.length)) : KeyAt w2 g k ∧ g < w2.heap.size := by
  have h' := h.out
  rw [splice_full _ _ (by rw [cellsK_length, hl.out])] at h'
  exact ⟨keyAt_of_block h', (Array.getElem?_eq_some_iff.1 h').1⟩
theorem InKey.ofKv {w : World} {b : Nat} {k : List UInt8} (h : KeyAt w b k) : InKey w (kv b k) k :=
  ⟨some ⟨b, 0, none⟩, k.length, rfl, fun _ => ⟨b, 0, rfl, fun j hj => by rw [Nat.zero_add]; exact h j hj⟩⟩

set_option maxHeartbeats 4000000 in
set_option maxRecDepth 100000 in
theorem law_any (hS : SortSaid) (hF : SearchSaid) (a : Option Addr) (cap : Nat) (ks : List (List UInt8)) (hv : Value) (hk : List UInt8) (q : Int) (w : World) (h : InKeys w a ks) (hh : InKey w hv hk) (hq0 : 0 ≤ q) (hq1 : q ≤ 255) 
    (hmax : ks.length ≤ maxLen) (hmax' : hk.length ≤ maxLen) (hmax2 : ∀ k ∈ ks, k.length ≤ maxLen) :
    Calls Yba.prog 3 #[.slice a ks.length cap, hv, .int .u8 q] w fun e w' => e = .returned (.bool true) ∧ Below w.heap.size w w' := by
  unfold maxLen at hmax hmax'
  obtain ⟨i5, hi5, hz5, hs5, hb5⟩ := info_parts Yba.info5
  obtain ⟨p1, c1, rfl, hhc⟩ := hh
  have HH : Hid (InKey w (.slice p1 hk.length c1) hk) := ⟨p1, c1, rfl, hhc⟩
  clear hhc
  have HI : Hid (InKeys w a ks) := h
  clear h
  have HM : Hid (∀ k ∈ ks, k.length ≤ maxLen) := hmax2
  clear hmax2
  by_cases hc1 : 1024 < ks.length
  · go_enter Yba.func3, Yba.ntmps3
    go_wp2
    go_ret
    exact ⟨rfl, Below.refl _ _⟩
  by_cases hc2 : 1024 < hk.length
  · go_enter Yba.func3, Yba.ntmps3
    go_wp2
    go_ret
    exact ⟨rfl, Below.refl _ _⟩
  go_enter Yba.func3, Yba.ntmps3
  go_wp2
  go_loop [29] (fun s29 => ∃ i : Nat, i ≤ ks.length ∧ s29 = .int .i64 i ∧ Hid (∀ j, j < i → (ks.getD j []).length ≤ 1024)) (fun s29 => ks.length - (intOf s29).toNat)
  case atStart => exact ⟨0, Nat.zero_le _, rfl, fun j hj => by omega⟩
  case round =>
    obtain ⟨i, hi, rfl, hall⟩ := hrel
    by_cases hlt : i < ks.length
    · obtain ⟨b, off, rfl, hb, hc⟩ := HI.out (by omega)
      obtain ⟨v, hv, p, c, rfl, _⟩ := hc i hlt
      have hm := HM.out (ks.getD i []) (by rw [List.getD_eq_getElem?_getD, List.getElem?_eq_getElem hlt]; simp)
      unfold maxLen at hm
      clear hc
      generalize hkk : ks.getD i [] = k at *
      have HK : Hid (ks.getD i [] = k) := hkk
      clear hkk
      by_cases hk1 : 1024 < k.length
      · go_wp2
        go_ret
        exact ⟨rfl, Below.refl _ _⟩
      · go_wp2
        go_round
        case rel => 
          refine ⟨i + 1, by omega, by go_num, fun j hj => ?_⟩
          by_cases e : j = i
          · subst e; rw [HK.out]; omega
          · exact hall.out j (by omega)
        case measure => simp [intOf]; omega
    · obtain rfl : i = ks.length := by omega
      have HA : Hid (∀ k ∈ ks, k.length ≤ 1024) := fun k hk => by
        obtain ⟨j, hj, rfl⟩ := List.mem_iff_getElem.1 hk
        have := hall.out j hj
        rwa [List.getD_eq_getElem?_getD, List.getElem?_eq_getElem hj] at this
      clear hall HM
      go_wp2_with fail
      refine (build_any hS a cap ks w HI.out (by omega) HA.out).mono ?_
      rintro e w1 ⟨v1, rfl, g1, cap1, bs1, Ks1, rfl, hl1, hg1, hn1, hp1, hm1, hb1⟩
      have HL1 : Hid (ListAt w1 g1 bs1 Ks1 ∧ Ks1.Pairwise ltB ∧ (∀ k, k ∈ Ks1 ↔ k ∈ ks)) := ⟨hl1, hp1, hm1⟩
      clear hl1 hp1 hm1
      go_wp2_with fail
      refine (build_any hS a cap ks w1 (HI.out.below hb1) (by omega) HA.out).mono ?_
      rintro e w2 ⟨v2, rfl, g2, cap2, bs2, Ks2, rfl, hl2, hg2, hn2, hp2, hm2, hb2⟩
      obtain ⟨hl1, hp1, hm1⟩ := HL1.out
      obtain rfl : Ks2 = Ks1 := sorted_unique _ _ hp2 hp1 (fun x => by rw [hm1, hm2])
      have HL1 : Hid (ListAt w2 g1 bs1 Ks2) := hl1.below hb2
      have HL2 : Hid (ListAt w2 g2 bs2 Ks2) := hl2
      have HP : Hid (Ks2.Pairwise ltB) := hp1
      have hg1' : g1 < w2.heap.size := by have := hb2.size; omega
      have HB : Below w.heap.size w w2 := hb1.trans (hb2.mono hb1.size)
      have HHK : Hid (InKey w2 (.slice p1 hk.length c1) hk) := HH.out.below HB
      have HKL : Hid (∀ k ∈ Ks2, k.length ≤ 1024) := fun k hk => HA.out k ((hm2 k).1 hk)
      clear hl1 hl2 hp1 hp2 hm1 hm2 hb1 hb2 hg1 HH HI HA
      go_upto_region 13 with (first
        | (at_make; refine wpList_make_full _ rfl _ _ 23 rfl w2.heap.size 5 i5 (.int .u8 0) 1 Yba.underlying23 hi5 hz5 hs5 .i64 .i64 _ _ hk.length rfl rfl rfl rfl (by rw [hb5]; omega) (by unfold maxLen; omega) (Nat.le_refl _) ?_; intro w3 hown3 hg3; obtain ⟨cur3, HC3, HL3, hb3⟩ := made_row hown3 hg3; have HS3 := (HHK.out.below hb3).src w2.heap.size; clear hown3 hg3)
        | (refine wpList_copy_splice rfl (.tmp 44) (.tmp 45) 23 23 rfl 5 Yba.underlying23 Yba.size5 _ _ _ _ _ _ rfl rfl w2.heap.size 0 cur3 5 HC3.out (cellsK hk) (by rw [cellsK_length]; exact (Nat.min_self _).symm) HS3 (by rw [cellsK_length, HL3.out]; omega) (cellsK_one hk) w2.heap.size w2 hb3 (Nat.le_refl _) ?_; intro w4 hw4 hb4; obtain ⟨hk4, hz4⟩ := copied_row hw4 HL3))
      have HK4 : Hid (KeyAt w4 w2.heap.size hk) := hk4
      clear hk4 hw4 hb3 HC3 HL3 HS3
      simp only [Act.put, List.setIfInBounds_toArray, List.set_cons_succ, List.set_cons_zero]
      go_cut [54] (fun s54 wc => s54 = .bool (decide (q % 2 = 1) && decide (0 < Ks2.length)) ∧ wc = w4)
      case first =>
        by_cases ho : q % 2 = 1
        · have ho' : (q % 2 == 1) = true := by simpa using ho
          go_wp2
          go_meet
          case rel => exact ⟨by simp [ho], rfl⟩
        · have ho' : (q % 2 == 1) = false := by simpa using ho
          go_wp2
          go_meet
          case rel => exact ⟨by simp [ho], rfl⟩
      obtain ⟨rfl, rfl⟩ := hcut
      go_upto_if 54 with fail
      go_cut [11] (fun s11 wc => ∃ tb h, s11 = kv tb h ∧ Hid (KeyAt wc tb h) ∧ w2.heap.size ≤ tb ∧ Below w2.heap.size w2 wc)
      case first =>
        by_cases hodd : q % 2 = 1 ∧ 0 < Ks2.length
        · obtain ⟨ho, hpos⟩ := hodd
          have hx0 : 0 ≤ q / 2 % (Ks2.length : Int) := Int.emod_nonneg _ (by omega)
          have hx1 : q / 2 % (Ks2.length : Int) < (Ks2.length : Int) := Int.emod_lt_of_pos _ (by omega)
          have hxn : (q / 2 % (Ks2.length : Int)).toNat < Ks2.length := by omega
          obtain ⟨_, hkx, hcx, _⟩ := (HL2.out.below hb4).2 _ hxn
          have hklx : (Ks2.getD (q / 2 % (Ks2.length : Int)).toNat []).length ≤ 1024 := HKL.out _ (by rw [List.getD_eq_getElem?_getD, List.getElem?_eq_getElem hxn]; simp)
          have hsrc := InKey.ofKv hkx
          unfold kv at hcx hsrc
          generalize bs2.getD (q / 2 % (Ks2.length : Int)).toNat 0 = bx at *
          generalize Ks2.getD (q / 2 % (Ks2.length : Int)).toNat [] = kx at *
          have HSRC : Hid (InKey wc (.slice (some ⟨bx, 0, none⟩) kx.length kx.length) kx) := hsrc
          clear hsrc hkx
          go_wp2_with (first
            | (at_make; refine wpList_make_full _ rfl _ _ 23 rfl wc.heap.size 5 i5 (.int .u8 0) 1 Yba.underlying23 hi5 hz5 hs5 .i64 .i64 _ _ kx.length rfl rfl rfl rfl (by rw [hb5]; omega) (by unfold maxLen; omega) (Nat.le_refl _) ?_; intro w5 hown5 hg5; obtain ⟨cur5, HC5, HL5, hb5'⟩ := made_row hown5 hg5; have HS5 := (HSRC.out.below hb5').src wc.heap.size; clear hown5 hg5)
            | (refine wpList_copy_splice rfl (.tmp 67) (.tmp 68) 23 26 rfl 5 Yba.underlying23 Yba.size5 _ _ _ _ _ _ rfl rfl wc.heap.size 0 cur5 5 HC5.out (cellsK kx) (by rw [cellsK_length]; exact (Nat.min_self _).symm) HS5 (by rw [cellsK_length, HL5.out]; omega) (cellsK_one kx) wc.heap.size wc hb5' (Nat.le_refl _) ?_; intro w6 hw6 hb6; obtain ⟨hk6, hz6⟩ := copied_row hw6 HL5))
          go_meet
          case rel => exact ⟨wc.heap.size, kx, rfl, hk6, hb4.size, hb4.trans (hb6.mono hb4.size)⟩
        · by_cases ho : q % 2 = 1
          · have h0 : Ks2.length = 0 := by omega
            go_wp2
            go_meet
            case rel => exact ⟨_, hk, rfl, HK4, Nat.le_refl _, hb4⟩
          · go_wp2
            go_meet
            case rel => exact ⟨_, hk, rfl, HK4, Nat.le_refl _, hb4⟩
      case rest =>
        obtain ⟨tb, h, rfl, hkc, htb, hbc⟩ := hcut
        clear HK4 hb4 hz4
        go_wp2_with fail
        have hsz := hbc.size
        have hba : Below w2.heap.size w2 (wc.alloc (.cells #[.slice none 0 0, .int .u64 0, .int .u64 0, .int .i64 0, .pointer none, .slice (some ⟨g1, 0, none⟩) Ks2.length cap1, .slice none 0 0] 33)) := hbc.alloc hsz _
        have hca : (wc.alloc (.cells #[.slice none 0 0, .int .u64 0, .int .u64 0, .int .i64 0, .pointer none, .slice (some ⟨g1, 0, none⟩) Ks2.length cap1, .slice none 0 0] 33)).cell? ⟨wc.heap.size, 5, none⟩ = some (.slice (some ⟨g1, 0, none⟩) Ks2.length cap1) := by simp
        have hka := hkc.out.below ((Below.refl wc.heap.size wc).alloc (Nat.le_refl _) (.cells #[.slice none 0 0, .int .u64 0, .int .u64 0, .int .i64 0, .pointer none, .slice (some ⟨g1, 0, none⟩) Ks2.length cap1, .slice none 0 0] 33))
        have hza : (wc.alloc (.cells #[.slice none 0 0, .int .u64 0, .int .u64 0, .int .i64 0, .pointer none, .slice (some ⟨g1, 0, none⟩) Ks2.length cap1, .slice none 0 0] 33)).heap.size = wc.heap.size + 1 := by simp
        generalize wc.alloc (.cells #[.slice none 0 0, .int .u64 0, .int .u64 0, .int .i64 0, .pointer none, .slice (some ⟨g1, 0, none⟩) Ks2.length cap1, .slice none 0 0] 33) = wa at *
        refine (revokes_any hF wc.heap.size g1 cap1 tb bs1 Ks2 h wa (HL1.out.below hba) (by omega) (by omega) HP.out hka (by omega) hca).mono ?_
        rintro e w7 ⟨rfl, hb7⟩
        have hl7 : w7.cell? ⟨wc.heap.size, 5, none⟩ = some (.slice (some ⟨g1, 0, none⟩) Ks2.length cap1) := by rw [hb7.cell (p := ⟨wc.heap.size, 5, none⟩) (by show wc.heap.size < _; omega)]; exact hca
        have HK7 : Hid (KeyAt w7 tb h) := hka.below hb7
        have hb27 : Below w2.heap.size w2 w7 := hba.trans (hb7.mono (by omega))
        have HR1 : Hid (ListAt w7 g1 bs1 Ks2) := HL1.out.below hb27
        have HR2 : Hid (ListAt w7 g2 bs2 Ks2) := HL2.out.below hb27
        have HBB : Hid (Below w.heap.size w w7) := HB.trans (hb27.mono HB.size)
        clear hkc hbc hba hca hka hza hb7 HL1 HL2 HB hsz hb27
        generalize hkv : kv tb h = hvv at *
        have HKV : Hid (kv tb h = hvv) := hkv
        clear hkv
        go_wp2
        go_loop [15, 78] (fun s15 s78 => ∃ i : Nat, i ≤ Ks2.length ∧ s78 = .int .i64 i ∧ s15 = .bool (decide (h ∈ Ks2.take i))) (fun _ s78 => Ks2.length - (intOf s78).toNat)
        case atStart => exact ⟨0, Nat.zero_le _, rfl, by simp⟩
        case round =>
          obtain ⟨i, hi, rfl, rfl⟩ := hrel
          by_cases hlt : i < Ks2.length
          · obtain ⟨_, hki, hci, _⟩ := HR2.out.2 i hlt
            have heq := equal_any _ tb _ h w7 hki HK7.out
            rw [HKV.out] at heq
            have hstep : Hid (decide (h ∈ Ks2.take (i + 1)) = (decide (h ∈ Ks2.take i) || (Ks2.getD i [] == h))) := mem_take_succ Ks2 h i hlt
            clear hki
            generalize (Ks2.getD i [] == h) = r at *
            generalize kv (bs2.getD i 0) (Ks2.getD i []) = vi at *
            generalize decide (h ∈ Ks2.take i) = r0 at *
            cases r with
            | true =>
              go_wp2_with (go_at_call 7; refine heq.mono ?_; rintro e w' ⟨rfl, rfl⟩)
              go_round
              case rel => exact ⟨i + 1, by omega, by go_num, by rw [hstep.out]; simp⟩
              case measure => simp [intOf]; omega
            | false =>
              go_wp2_with (go_at_call 7; refine heq.mono ?_; rintro e w' ⟨rfl, rfl⟩)
              go_round
              case rel => exact ⟨i + 1, by omega, by go_num, by rw [hstep.out]; simp⟩
              case measure => simp [intOf]; omega
          · obtain rfl : i = Ks2.length := by omega
            have hbb : (Value.bool (decide (h ∈ Ks2.take Ks2.length))) = .bool (decide (h ∈ Ks2)) := by rw [List.take_length]
            rw [hbb]
            generalize decide (h ∈ Ks2) = r at *
            cases r
            all_goals
              go_wp2
              go_loopg [99] Ks2.length (fun g s99 wr => ∃ i q : Nat, i ≤ Ks2.length ∧ Ks2.length - i ≤ g ∧ s99 = .int .i64 i ∧ wr = w7.drewN q)
              case atStart => exact ⟨0, 0, Nat.zero_le _, by omega, rfl, rfl⟩
              case round =>
                obtain ⟨i, q', hi', hg', rfl, hwr⟩ := hrel
                have hbr : Below w7.heap.size w7 wr := by rw [hwr]; exact ⟨rfl, rfl, rfl, Nat.le_refl _, fun _ _ => rfl⟩
                have W : Aside (wr = w7.drewN q') := hwr
                by_cases hlt' : i < Ks2.length
                · obtain ⟨_, hk1, hc1', _⟩ := (HR1.out.below hbr).2 i hlt'
                  obtain ⟨_, hk2, hc2', _⟩ := (HR2.out.below hbr).2 i hlt'
                  have hl8 : wr.cell? ⟨wc.heap.size, 5, none⟩ = some (.slice (some ⟨g1, 0, none⟩) Ks2.length cap1) := by rw [hwr]; exact hl7
                  have heq := fun n => equal_any _ _ _ _ (wr.drewN n) (hk1.below (w' := wr.drewN n) ⟨rfl, rfl, rfl, Nat.le_refl _, fun _ _ => rfl⟩) (hk2.below (w' := wr.drewN n) ⟨rfl, rfl, rfl, Nat.le_refl _, fun _ _ => rfl⟩)
                  clear hwr hk1 hk2 hbr hl7
                  rw [show (Ks2.getD i [] == Ks2.getD i []) = true by simp] at heq
                  generalize kv (bs1.getD i 0) (Ks2.getD i []) = u1 at *
                  generalize kv (bs2.getD i 0) (Ks2.getD i []) = u2 at *
                  go_wp2_with fail
                  go_quiet ((go_at_call 7; exact Calls.quiet_of_same (heq _)))
                  go_wp2
                  go_roundg (Ks2.length - (i + 1))
                  case measure => omega
                  case rel => exact ⟨i + 1, q' + nq, by omega, Nat.le_refl _, by go_num, by rw [W.out, World.drewN_drewN]⟩
                · clear hwr
                  go_wp2
                  go_ret
                  exact ⟨rfl, HBB.out.trans (hbr.mono HBB.out.size)⟩
end Go.Proofs.Ybulkcias
