import Derived.Test.YbulkcibgSpanLaw
namespace Go.Proofs.Ybulkcibg
open Go.RowKit

/-- The sparse vector's cells. -/
def rowJ (l : List Int) : List Value := l.flatMap fun j => [.int .i64 j, .int .u64 1]
theorem rowJ_snoc (l : List Int) (j : Int) : rowJ (l ++ [j]) = rowJ l ++ [.int .i64 j, .int .u64 1] := by simp [rowJ]
theorem rowJ_get : ∀ (l : List Int) (i : Nat), i < l.length → (rowJ l)[i * 2]? = some (.int .i64 (l.getD i 0))
  | [], i, h => by simp at h
  | x :: l, 0, _ => by simp [rowJ]
  | x :: l, i + 1, h => by
    have ih := rowJ_get l i (by simpa using h)
    have e : (i + 1) * 2 = i * 2 + 2 := by omega
    rw [e]
    simpa [rowJ] using ih

theorem IsRow.at {k : IntKind} {w : World} {a : Option Addr} {len cap : Nat} {zs : List Int} (h : IsRow k w a len cap zs) (h0 : 0 < len) :
    ∃ b off, a = some ⟨b, off, none⟩ ∧ b < w.heap.size ∧ ∀ i, i < len → w.cell? ⟨b, off + i, none⟩ = some (.int k (zs.getD i 0)) := by
  rcases h with ⟨_, rfl, _, rfl⟩ | ⟨x, rfl, h1, h2, h3, h4, _⟩
  · omega
  · obtain ⟨b, off, spot⟩ := x
    have hc := h4 0 (by omega)
    have hspot : spot = none := by simpa [Addr.add] using World.cell?_spot hc
    subst hspot
    have hadd : ∀ i, (⟨b, off, none⟩ : Addr).add i = ⟨b, off + i, none⟩ := fun i => by unfold Addr.add; split <;> simp_all
    rw [hadd] at hc
    exact ⟨b, off, rfl, World.block_lt_of_cell? w _ hc, fun i hi => by rw [← hadd]; exact h4 i (by omega)⟩

theorem two_new (w : World) (x y : Value) (t : TypeId) : ∀ j u, [x, y][j]? = some u → (w.alloc (.cells #[x, y] t)).cell? ((⟨w.heap.size, 0, none⟩ : Addr).add j) = some u := by
  intro j u hj
  match j, hj with
  | 0, hj => simp at hj; subst hj; simp [Addr.add]
  | 1, hj => simp at hj; subst hj; simp [Addr.add]

theorem take_snoc (l : List Int) (i : Nat) (h : i < l.length) : l.take (i + 1) = l.take i ++ [l.getD i 0] := by
  rw [List.take_succ_eq_append_getElem h, List.getD_eq_getElem?_getD, List.getElem?_eq_getElem h]
  rfl

set_option maxHeartbeats 2000000 in
set_option maxRecDepth 100000 in
theorem law_sparse (lo : Int) (a2 : Option Addr) (len2 cap2 : Nat) (a3 : Option Addr) (n cap3 : Nat) (z3 : List Int) (w : World) (h3 : IsRow .i64 w a3 n cap3 z3) (hn2 : len2 ≤ 65536) (hn : n ≤ 65536) :
    Calls Yba.prog 4 #[.bool false, .int .i64 lo, .slice a2 len2 cap2, .slice a3 n cap3] w fun e w' => e = .returned (.bool true) ∧ Below w.heap.size w w' := by
  obtain ⟨i42, hi42, hz42, hs42, hb42⟩ := info_parts Yba.info42
  have hlz := h3.len_le.1
  have H3 : Hid (IsRow .i64 w a3 n cap3 z3) := h3
  clear h3
  have hq := fun (w : World) => Lib.run_eql_slice_nil (P := Yba.prog) w 34 23 none 0 0 0 0 Yba.underlying34
  go_enter Yba.func4, Yba.ntmps4
  go_wp2_with (at_make; refine wpList_make_own _ rfl _ _ 36 rfl (w.heap.size + 1) 42 i42 (.agg #[.int .i64 0, .int .u64 0]) 2 Yba.underlying36 hi42 hz42 hs42 .i64 .i64 _ n rfl rfl rfl (by rw [hb42]; omega) (by unfold maxLen; omega) (by simp) ?_; intro w1 hown1 hg1; rw [World.size_alloc] at hown1; have hb1 : Below (w.heap.size + 1) (w.alloc (.cells #[.slice none 0 0, .int .i64 0, .slice none 0 0, .int .i64 0] 38)) w1 := (Below.refl _ _).grown hg1 (by simp) (fun k hk => by cases hk); clear hg1)
  have HO : Hid (w1.ownsRow (w.heap.size + 1) 42 2 (.slice (some ⟨w.heap.size + 1, 0, none⟩) 0 n) 0 (rowJ (z3.take 0))) := hown1
  clear hown1
  go_loopw [16, 98] (fun s16 s98 wr => ∃ i : Nat, i ≤ n ∧ s98 = .int .i64 i ∧ s16 = .slice (some ⟨w.heap.size + 1, 0, none⟩) i n ∧ Hid (wr.ownsRow (w.heap.size + 1) 42 2 (.slice (some ⟨w.heap.size + 1, 0, none⟩) i n) i (rowJ (z3.take i))) ∧ Below (w.heap.size + 1) (w.alloc (.cells #[.slice none 0 0, .int .i64 0, .slice none 0 0, .int .i64 0] 38)) wr) (fun _ s98 _ => n - (intOf s98).toNat)
  case atStart => exact ⟨0, Nat.zero_le _, rfl, rfl, HO, hb1⟩
  case round =>
    clear hb1 HO
    obtain ⟨i, hi, rfl, rfl, HO, hb⟩ := hrel
    have hbw : Below w.heap.size w wr := ((Below.refl w.heap.size w).alloc (Nat.le_refl _) _).trans (hb.mono (Nat.le_succ _))
    by_cases hlt : i < n
    · obtain ⟨b3, off3, rfl, hb3, hc3⟩ := H3.out.at (by omega)
      have hci : wr.cell? ⟨b3, off3 + i, none⟩ = some (.int .i64 (z3.getD i 0)) := by rw [hbw.cell (p := ⟨b3, off3 + i, none⟩) hb3]; exact hc3 i hlt
      have HT : Hid (z3.take (i + 1) = z3.take i ++ [z3.getD i 0]) := take_snoc z3 i (by omega)
      clear hc3
      generalize z3.getD i 0 = j at *
      go_wp2_with (at_builtin; refine wpList_append_fits _ rfl _ _ 36 rfl (w.heap.size + 1) 42 i42 2 Yba.underlying36 hi42 hs42 (w.heap.size + 1) i n _ rfl (HO.out.alloc _) ⟨wr.heap.size, 0, none⟩ 1 1 [.int .i64 j, .int .u64 1] rfl rfl (two_new _ _ _ _) (by intro u hu; simp at hu; rcases hu with rfl | rfl <;> rfl) (by omega) ?_; intro w3 hown3 hg3)
      have HO3 : Hid (w3.ownsRow (w.heap.size + 1) 42 2 (.slice (some ⟨w.heap.size + 1, 0, none⟩) (i + 1) n) (i + 1) (rowJ (z3.take (i + 1)))) := by rw [HT.out, rowJ_snoc]; exact hown3
      have hsz := hb.size
      have hb3' : Below (w.heap.size + 1) (w.alloc (.cells #[.slice none 0 0, .int .i64 0, .slice none 0 0, .int .i64 0] 38)) w3 := (hb.alloc (by simpa using hsz) _).grown hg3 (by simp at hsz; simp; omega) (fun k hk => by cases hk; exact Nat.le_refl _)
      clear hown3 hg3
      go_roundw
      case rel => exact ⟨i + 1, by omega, by go_num, rfl, HO3, hb3'⟩
      case measure => simp [intOf]; omega
    · obtain rfl : i = n := by omega
      obtain ⟨c0, c1, c2, c3, f0, f1, f2, f3⟩ := vcells hb
      have hrow : ∀ t, t < i → wr.cell? ⟨w.heap.size + 1, t * 2, none⟩ = some (.int .i64 (z3.getD t 0)) := fun t ht => by
        rw [HO.out.cellAt (t * 2) (by omega), rowJ_get (z3.take i) t (by simp; omega)]
        simp [List.getD_eq_getElem?_getD, List.getElem?_take_of_lt ht]
      go_wp2_with fail
      have g0 : ((wr.setCell ⟨w.heap.size, 2, none⟩ (.slice (some ⟨w.heap.size + 1, 0, none⟩) i i)).setCell ⟨w.heap.size, 3, none⟩ (.int .i64 i)).cell? ⟨w.heap.size, 0, none⟩ = some (.slice none 0 0) := by simp [go_sem, c0]
      have g2 : ((wr.setCell ⟨w.heap.size, 2, none⟩ (.slice (some ⟨w.heap.size + 1, 0, none⟩) i i)).setCell ⟨w.heap.size, 3, none⟩ (.int .i64 i)).cell? ⟨w.heap.size, 2, none⟩ = some (.slice (some ⟨w.heap.size + 1, 0, none⟩) i i) := by simp [go_sem, c2]
      have gr : ∀ t, t < i → ((wr.setCell ⟨w.heap.size, 2, none⟩ (.slice (some ⟨w.heap.size + 1, 0, none⟩) i i)).setCell ⟨w.heap.size, 3, none⟩ (.int .i64 i)).cell? ⟨w.heap.size + 1, t * 2, none⟩ = some (.int .i64 (z3.getD t 0)) := fun t ht => by rw [World.cell?_of_block (w := wr) (a := ⟨w.heap.size + 1, t * 2, none⟩) (by rw [Below.heap_setCell _ _ _ _ (Nat.succ_ne_self _), Below.heap_setCell _ _ _ _ (Nat.succ_ne_self _)])]; exact hrow t ht
      have hB : Below w.heap.size w ((wr.setCell ⟨w.heap.size, 2, none⟩ (.slice (some ⟨w.heap.size + 1, 0, none⟩) i i)).setCell ⟨w.heap.size, 3, none⟩ (.int .i64 i)) := (hbw.setCell (Nat.le_refl _) _).setCell (Nat.le_refl _) _
      generalize (wr.setCell ⟨w.heap.size, 2, none⟩ (.slice (some ⟨w.heap.size + 1, 0, none⟩) i i)).setCell ⟨w.heap.size, 3, none⟩ (.int .i64 i) = W at *
      clear c0 c1 c2 c3 f0 f1 f2 f3 hb hbw HO hrow
      by_cases hi0 : i = 0
      · subst hi0
        refine (span_empty w.heap.size _ 0 W g0 g2).mono ?_
        rintro e w3 ⟨rfl, q, hq3⟩
        have HB : Hid (Below w.heap.size w w3) := by rw [hq3]; exact hB.trans ⟨rfl, rfl, rfl, Nat.le_refl _, fun _ _ => rfl⟩
        clear hB hq3 g0 g2 gr
        go_wp2
        go_ret
        exact ⟨rfl, HB.out⟩
      · have hip : 0 < i := by omega
        obtain ⟨b3, off3, rfl, hb3, hc3⟩ := H3.out.at hip
        refine (span_sparse w.heap.size (w.heap.size + 1) i i (z3.getD 0 0) (z3.getD (i - 1) 0) W hip hn g0 g2 (by simpa using gr 0 hip) (gr (i - 1) (by omega))).mono ?_
        rintro e w3 ⟨rfl, q, hq3⟩
        have HB : Below w.heap.size w w3 := by rw [hq3]; exact hB.trans ⟨rfl, rfl, rfl, Nat.le_refl _, fun _ _ => rfl⟩
        have hc : ∀ t, t < i → w3.cell? ⟨b3, off3 + t, none⟩ = some (.int .i64 (z3.getD t 0)) := fun t ht => by rw [HB.cell (p := ⟨b3, off3 + t, none⟩) hb3]; exact hc3 t ht
        have k0 : w3.cell? ⟨w.heap.size, 0, none⟩ = some (.slice none 0 0) := by rw [hq3]; exact g0
        have k2 : w3.cell? ⟨w.heap.size, 2, none⟩ = some (.slice (some ⟨w.heap.size + 1, 0, none⟩) i i) := by rw [hq3]; exact g2
        have hi1 : ((i : Int) == 0) = false := by simp; omega
        have hc0 : w3.cell? ⟨b3, off3, none⟩ = some (.int .i64 (z3.getD 0 0)) := by simpa using hc 0 hip
        have HC : Hid (∀ t, t < i → w3.cell? ⟨b3, off3 + t, none⟩ = some (.int .i64 (z3.getD t 0))) := hc
        have HBB : Hid (Below w.heap.size w w3) := HB
        clear hB hq3 g0 g2 gr hc hc3 HB
        have hb0 : (0 : Int) < (i : Int) := by omega
        generalize hz : (fun t => z3.getD t 0) = zf at *
        have e0 : ∀ t, z3.getD t 0 = zf t := fun t => by rw [← hz]
        have HC' : Hid (∀ t, t < i → w3.cell? ⟨b3, off3 + t, none⟩ = some (.int .i64 (zf t))) := fun t ht => by rw [HC.out t ht, e0]
        rw [e0] at hc0
        rw [e0, e0]
        clear HC hz e0
        go_wp2
        go_loop [23, 137] (fun s23 s137 => ∃ t : Nat, t ≤ i ∧ s137 = .int .i64 t ∧ s23 = .int .i64 (zf (t - 1))) (fun _ s137 => i - (intOf s137).toNat)
        case atStart => exact ⟨0, Nat.zero_le _, rfl, rfl⟩
        case round =>
          obtain ⟨t, ht, rfl, rfl⟩ := hrel
          by_cases hlt' : t < i
          · have hct := HC'.out t hlt'
            go_wp2
            go_round
            case rel => exact ⟨t + 1, by omega, by go_num, by simp⟩
            case measure => simp [intOf]; omega
          · obtain rfl : t = i := by omega
            go_wp2
            go_ret
            exact ⟨rfl, HBB.out⟩
end Go.Proofs.Ybulkcibg
