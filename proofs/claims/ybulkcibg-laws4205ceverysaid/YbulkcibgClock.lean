import Derived.Test.YbulkcibgEntry
import Derived.Test.YbulkcibgSpanSparse
import Derived.Deep.DeepCutAuto
namespace Go.Proofs.Ybulkcibg
open Go.RowKit

/-- The processes that build lays. -/
def pAt (base : Int) (G : Nat → Int) : Nat → Int
  | 0 => base + G 0
  | i + 1 => pAt base G i + (G (i + 1) + 1)
/-- The variable p ahead of round i. -/
def pPrev (base : Int) (G : Nat → Int) : Nat → Int
  | 0 => base
  | i + 1 => pAt base G i
theorem pAt_bounds {base : Int} {G : Nat → Int} (h1 : -32768 ≤ base) (h2 : base ≤ 32767) (hG : ∀ i, 0 ≤ G i ∧ G i ≤ 255) : ∀ i, -32768 ≤ pAt base G i ∧ pAt base G i ≤ 32767 + 256 * (i + 1 : Nat)
  | 0 => by have := hG 0; unfold pAt; omega
  | i + 1 => by have := hG (i + 1); have := pAt_bounds h1 h2 hG i; unfold pAt; omega
theorem pPrev_bounds {base : Int} {G : Nat → Int} (h1 : -32768 ≤ base) (h2 : base ≤ 32767) (hG : ∀ i, 0 ≤ G i ∧ G i ≤ 255) (i : Nat) : -32768 ≤ pPrev base G i ∧ pPrev base G i ≤ 32767 + 256 * (i : Nat) := by
  cases i with
  | zero => show -32768 ≤ base ∧ base ≤ _; omega
  | succ i => exact pAt_bounds h1 h2 hG i
theorem pAt_step {base : Int} {G : Nat → Int} (hG : ∀ i, 0 ≤ G i ∧ G i ≤ 255) (i : Nat) : pAt base G i < pAt base G (i + 1) := by
  have := hG (i + 1)
  show _ < pAt base G i + (G (i + 1) + 1)
  omega
theorem pAt_mono {base : Int} {G : Nat → Int} (hG : ∀ i, 0 ≤ G i ∧ G i ≤ 255) {i j : Nat} (h : i < j) : pAt base G i < pAt base G j := by
  induction j with
  | zero => omega
  | succ j ih =>
    have := pAt_step (base := base) hG j
    by_cases e : i = j
    · subst e; exact this
    · have := ih (by omega); omega

/-- The clock's cells. -/
def rowE (P V : Nat → Int) (i : Nat) : List Value := (List.range i).flatMap fun t => [.int .i64 (P t), .int .u64 (V t)]
theorem rowE_succ (P V : Nat → Int) (i : Nat) : rowE P V (i + 1) = rowE P V i ++ [.int .i64 (P i), .int .u64 (V i)] := by simp [rowE, List.range_succ]
theorem rowE_length (P V : Nat → Int) : ∀ i, (rowE P V i).length = i * 2
  | 0 => rfl
  | i + 1 => by rw [rowE_succ, List.length_append, rowE_length P V i]; simp; omega
theorem rowE_get (P V : Nat → Int) : ∀ n i, i < n → (rowE P V n)[i * 2]? = some (.int .i64 (P i)) ∧ (rowE P V n)[i * 2 + 1]? = some (.int .u64 (V i))
  | 0, i, h => by omega
  | n + 1, i, h => by
    rw [rowE_succ]
    have hl := rowE_length P V n
    by_cases e : i = n
    · subst e
      rw [List.getElem?_append_right (by omega), List.getElem?_append_right (by omega), hl]
      simp
    · have := rowE_get P V n i (by omega)
      rw [List.getElem?_append_left (by omega), List.getElem?_append_left (by omega)]
      exact this

theorem Yba.info49 : (Yba.prog.info? 49).map (fun i => (i.zero, i.size, i.bytes)) = some (some (.agg #[.int .i64 0, .int .u64 0]), 2, 16) := by kernel_rfl

theorem range_of_u8 {zs : List Int} (h : ∀ n ∈ zs, (Lit.int .u8 n).wf = true) (j : Nat) : 0 ≤ zs.getD j 0 ∧ zs.getD j 0 ≤ 255 := by
  rw [List.getD_eq_getElem?_getD]
  cases hj : zs[j]? with
  | none => simp
  | some x =>
    have := h x (List.mem_of_getElem? hj)
    simp [Lit.wf, IntKind.min, IntKind.max, IntKind.signed, IntKind.bits] at this
    simp
    omega
theorem IsRow.u8 {w : World} {a : Option Addr} {len cap : Nat} {zs : List Int} (h : IsRow .u8 w a len cap zs) (j : Nat) : 0 ≤ zs.getD j 0 ∧ zs.getD j 0 ≤ 255 := by
  rcases h with ⟨_, _, _, rfl⟩ | ⟨x, _, _, _, _, _, hw⟩
  · simp
  · exact range_of_u8 hw j

set_option maxHeartbeats 2000000 in
set_option maxRecDepth 100000 in
theorem build_core (G V : Nat → Int) (base : Int) (a1 : Option Addr) (n1 c1 : Nat) (z1 : List Int) (a2 : Option Addr) (n2 c2 : Nat) (z2 : List Int) (w : World) (hb1 : -32768 ≤ base) (hb2 : base ≤ 32767) (h1 : IsRow .u8 w a1 n1 c1 z1) (h2 : IsRow .u64 w a2 n2 c2 z2) (hn1 : n1 ≤ 1024) (hn2 : n2 ≤ 1024) (eG : Hid (∀ i, z1.getD i 0 = G i)) (eV : Hid (∀ i, z2.getD i 0 = V i)) :
    Calls Yba.prog 9 #[.int .i16 base, .slice a1 n1 c1, .slice a2 n2 c2] w fun e w' => ∃ g n cap : Nat, e = .returned (.slice (some ⟨g, 0, none⟩) n cap) ∧
      ClockAt w' g n (pAt base G) V ∧ Below w.heap.size w w' := by
  obtain ⟨i49, hi49, hz49, hs49, hb49⟩ := info_parts Yba.info49
  have hG : Hid (∀ i, 0 ≤ z1.getD i 0 ∧ z1.getD i 0 ≤ 255) := h1.u8
  have H1 : Hid (IsRow .u8 w a1 n1 c1 z1) := h1
  have H2 : Hid (IsRow .u64 w a2 n2 c2 z2) := h2
  clear h1 h2
  go_enter Yba.func9, Yba.ntmps9
  go_upto_if 16 with fail
  go_cut [7] (fun s7 wc => ∃ n : Nat, s7 = .int .i64 n ∧ n ≤ n1 ∧ n ≤ n2 ∧ w = wc)
  case first =>
    by_cases hlt : n2 < n1
    · go_wp2
      go_meet
      case rel => exact ⟨n2, rfl, by omega, by omega, rfl⟩
    · go_wp2
      go_meet
      case rel => exact ⟨n1, rfl, by omega, by omega, rfl⟩
  obtain ⟨n, rfl, hna, hnb, rfl⟩ := hcut
  go_wp2_with (at_make; refine wpList_make_own _ rfl _ _ 46 rfl w.heap.size 49 i49 (.agg #[.int .i64 0, .int .u64 0]) 2 Yba.underlying46 hi49 hz49 hs49 .i64 .i64 _ n rfl rfl rfl (by rw [hb49]; omega) (by unfold maxLen; omega) (Nat.le_refl _) ?_; intro w1 hown1 hg1)
  have hbel1 : Below w.heap.size w w1 := (Below.refl _ _).grown hg1 (Nat.le_refl _) (fun k hk => by cases hk)
  have HO : Hid (w1.ownsRow w.heap.size 49 2 (.slice (some ⟨w.heap.size, 0, none⟩) 0 n) 0 (rowE (pAt base G) V 0)) := hown1
  clear hown1 hg1
  have hGG : Hid (∀ i, 0 ≤ G i ∧ G i ≤ 255) := fun i => by rw [← eG.out]; exact hG.out i
  clear hG
  go_loopw [8, 9, 10] (fun s8 s9 s10 wr => ∃ i : Nat, i ≤ n ∧ s10 = .int .i64 i ∧ s9 = .int .i64 (pPrev base G i) ∧ s8 = .slice (some ⟨w.heap.size, 0, none⟩) i n ∧ Hid (wr.ownsRow w.heap.size 49 2 (.slice (some ⟨w.heap.size, 0, none⟩) i n) i (rowE (pAt base G) V i)) ∧ Below w.heap.size w wr) (fun _ _ s10 _ => n - (intOf s10).toNat)
  case atStart => exact ⟨0, Nat.zero_le _, rfl, rfl, rfl, HO, hbel1⟩
  case round =>
    clear hbel1 HO
    obtain ⟨i, hi, rfl, rfl, rfl, HO, hb⟩ := hrel
    have hR : w.heap.size < wr.heap.size := (HO.out.lt w.heap.size rfl).2
    by_cases hlt : i < n
    · obtain ⟨x1, o1, rfl, hx1, hc1⟩ := H1.out.at (by omega)
      obtain ⟨x2, o2, rfl, hx2, hc2⟩ := H2.out.at (by omega)
      have hg1 : wr.cell? ⟨x1, o1 + i, none⟩ = some (.int .u8 (G i)) := by rw [hb.cell (p := ⟨x1, o1 + i, none⟩) hx1, hc1 i (by omega), eG.out]
      have hv1 : wr.cell? ⟨x2, o2 + i, none⟩ = some (.int .u64 (V i)) := by rw [hb.cell (p := ⟨x2, o2 + i, none⟩) hx2, hc2 i (by omega), eV.out]
      have bG := hGG.out i
      have bP := pPrev_bounds hb1 hb2 hGG.out i
      have hi1 : (i : Int) < (n1 : Int) := by omega
      have hi2 : (i : Int) < (n2 : Int) := by omega
      have hsucc : Hid (rowE (pAt base G) V (i + 1) = rowE (pAt base G) V i ++ [.int .i64 (pAt base G i), .int .u64 (V i)]) := rowE_succ _ _ i
      clear hc1 hc2
      by_cases hi0 : i = 0
      · subst hi0
        rw [Nat.add_zero] at hg1 hv1
        go_wp2_with (at_builtin; refine wpList_append_fits _ rfl _ _ 46 rfl w.heap.size 49 i49 2 Yba.underlying46 hi49 hs49 w.heap.size 0 n _ rfl (HO.out.alloc _) ⟨wr.heap.size, 0, none⟩ 1 1 [.int .i64 (base + G 0), .int .u64 (V 0)] rfl rfl (two_new _ _ _ _) (by intro u hu; simp at hu; rcases hu with rfl | rfl <;> rfl) (by omega) ?_; intro w3 hown3 hg3)
        have HO3 : Hid (w3.ownsRow w.heap.size 49 2 (.slice (some ⟨w.heap.size, 0, none⟩) 1 n) 1 (rowE (pAt base G) V 1)) := by rw [hsucc.out]; exact hown3
        have hb3 : Below w.heap.size w w3 := (hb.alloc (by omega) _).grown hg3 (by simp; omega) (fun k hk => by cases hk; exact Nat.le_refl _)
        clear hown3 hg3
        go_roundw
        case rel => exact ⟨1, by omega, by go_num, rfl, rfl, HO3, hb3⟩
        case measure => simp [intOf]; omega
      · obtain ⟨i, rfl⟩ : ∃ j, i = j + 1 := ⟨i - 1, by omega⟩
        have hib : (((i + 1 : Nat) : Int) == 0) = false := by simp; omega
        have hP : Hid (pAt base G (i + 1) = pPrev base G (i + 1) + (G (i + 1) + 1)) := rfl
        generalize pPrev base G (i + 1) = pp at *
        generalize G (i + 1) = gg at *
        generalize V (i + 1) = vv at *
        go_wp2_with (at_builtin; refine wpList_append_fits _ rfl _ _ 46 rfl w.heap.size 49 i49 2 Yba.underlying46 hi49 hs49 w.heap.size (i + 1) n _ rfl (HO.out.alloc _) ⟨wr.heap.size, 0, none⟩ 1 1 [.int .i64 (pp + (gg + 1)), .int .u64 vv] rfl rfl (two_new _ _ _ _) (by intro u hu; simp at hu; rcases hu with rfl | rfl <;> rfl) (by omega) ?_; intro w3 hown3 hg3)
        have HO3 : Hid (w3.ownsRow w.heap.size 49 2 (.slice (some ⟨w.heap.size, 0, none⟩) (i + 1 + 1) n) (i + 1 + 1) (rowE (pAt base G) V (i + 1 + 1))) := by rw [hsucc.out, hP.out]; exact hown3
        have hb3 : Below w.heap.size w w3 := (hb.alloc (by omega) _).grown hg3 (by simp; omega) (fun k hk => by cases hk; exact Nat.le_refl _)
        clear hown3 hg3
        go_roundw
        case rel => exact ⟨i + 1 + 1, by omega, by go_num, by show _ = Value.int .i64 (pAt base G (i + 1)); rw [hP.out], rfl, HO3, hb3⟩
        case measure => simp [intOf]; omega
    · obtain rfl : i = n := by omega
      go_wp2
      go_ret
      refine ⟨w.heap.size, i, i, rfl, ⟨hR, fun t ht => ?_, fun t j h1 h2 => pAt_mono hGG.out h1, fun t ht => ?_, fun t ht => ?_, by omega⟩, hb⟩
      · rw [HO.out.cellAt (t * 2) (by omega), HO.out.cellAt (t * 2 + 1) (by omega)]
        exact rowE_get _ _ _ t ht
      · have := (pAt_bounds hb1 hb2 hGG.out t).1; omega
      · have := (pAt_bounds hb1 hb2 hGG.out t).2; omega

theorem build_any (base : Int) (a1 : Option Addr) (n1 c1 : Nat) (z1 : List Int) (a2 : Option Addr) (n2 c2 : Nat) (z2 : List Int) (w : World) (hb1 : -32768 ≤ base) (hb2 : base ≤ 32767) (h1 : IsRow .u8 w a1 n1 c1 z1) (h2 : IsRow .u64 w a2 n2 c2 z2) (hn1 : n1 ≤ 1024) (hn2 : n2 ≤ 1024) :
    Calls Yba.prog 9 #[.int .i16 base, .slice a1 n1 c1, .slice a2 n2 c2] w fun e w' => ∃ g n cap : Nat, ∃ P V : Nat → Int, e = .returned (.slice (some ⟨g, 0, none⟩) n cap) ∧ ClockAt w' g n P V ∧ Below w.heap.size w w' :=
  (build_core (fun i => z1.getD i 0) (fun i => z2.getD i 0) base a1 n1 c1 z1 a2 n2 c2 z2 w hb1 hb2 h1 h2 hn1 hn2 (fun _ => rfl) (fun _ => rfl)).mono fun _ _ ⟨g, n, cap, he, hc, hb⟩ => ⟨g, n, cap, _, _, he, hc, hb⟩
end Go.Proofs.Ybulkcibg
