import Derived.Test.YbulkcidkDec
import Derived.Laws.Rows
namespace Go.Proofs.Ybulkcidk
open Go.RowKit

def IsRow (k : IntKind) (w : World) (a : Option Addr) (len cap : Nat) (zs : List Int) : Prop :=
  (a = none ∧ len = 0 ∧ cap = 0 ∧ zs = []) ∨
  ∃ x, a = some x ∧ len ≤ cap ∧ cap ≤ maxLen ∧ zs.length = cap ∧ (∀ i, i < zs.length → w.cell? (x.add i) = some (.int k (zs.getD i 0))) ∧ ∀ n ∈ zs, (Lit.int k n).wf = true

theorem IsRow.at {k : IntKind} {w : World} {a : Option Addr} {len cap : Nat} {zs : List Int} (h : IsRow k w a len cap zs) (h0 : 0 < len) :
    ∃ b off, a = some ⟨b, off, none⟩ ∧ b < w.heap.size ∧ ∀ i, i < len → w.cell? ⟨b, off + i, none⟩ = some (.int k (zs.getD i 0)) := by
  rcases h with ⟨_, rfl, _, rfl⟩ | ⟨x, rfl, h1, h2, h3, h4, _⟩
  · omega
  · obtain ⟨b, off, spot⟩ := x
    have hc := h4 0 (by omega)
    have hspot : spot = none := by simpa [Addr.add] using World.cell?_spot hc
    subst hspot
    have hadd : ∀ i, (⟨b, off, none⟩ : Addr).add i = ⟨b, off + i, none⟩ := fun i => by unfold Addr.add; split <;> simp_all
    rw [hadd] at hc
    exact ⟨b, off, rfl, World.block_lt_of_cell? w _ hc, fun i hi => by rw [← hadd]; exact h4 i (by omega)⟩
theorem range_of_u8 {zs : List Int} (h : ∀ n ∈ zs, (Lit.int .u8 n).wf = true) (j : Nat) : 0 ≤ zs.getD j 0 ∧ zs.getD j 0 ≤ 255 := by
  rw [List.getD_eq_getElem?_getD]
  cases hj : zs[j]? with
  | none => simp
  | some x =>
    have := h x (List.mem_of_getElem? hj)
    simp [Lit.wf, IntKind.min, IntKind.max, IntKind.signed, IntKind.bits] at this
    simp
    omega
theorem IsRow.u8 {w : World} {a : Option Addr} {len cap : Nat} {zs : List Int} (h : IsRow .u8 w a len cap zs) (j : Nat) : 0 ≤ zs.getD j 0 ∧ zs.getD j 0 ≤ 255 := by
  rcases h with ⟨_, _, _, rfl⟩ | ⟨x, _, _, _, _, _, hw⟩
  · simp
  · exact range_of_u8 hw j

/-- The decimal ahead of round i. -/
def decAt (G : Nat → Int) (p : Int) : Nat → Dec
  | 0 => ⟨0, 0, 0, 0, 0, false⟩
  | i + 1 => (if p = (i : Int) then { decAt G p i with pt := true } else decAt G p i).step (G i % 10)

theorem decAt_pt {G : Nat → Int} {p : Int} {i : Nat} (h : p = (i : Int)) : decAt G p (i + 1) = ({ decAt G p i with pt := true } : Dec).step (G i % 10) := by
  rw [decAt]; rw [if_pos h]
theorem decAt_no {G : Nat → Int} {p : Int} {i : Nat} (h : ¬ p = (i : Int)) : decAt G p (i + 1) = (decAt G p i).step (G i % 10) := by
  rw [decAt]; rw [if_neg h]

structure Dec.In (d : Dec) (i : Nat) : Prop where
  s1 : 0 ≤ d.sg
  s2 : d.sg ≤ 36
  d1 : 0 ≤ d.dr
  d2 : d.dr ≤ i
  f1 : 0 ≤ d.fr
  f2 : d.fr ≤ i
theorem Dec.In.step {d : Dec} {i : Nat} (h : d.In i) (v : Int) : (d.step v).In (i + 1) := by
  have ⟨h1, h2, h3, h4, h5, h6⟩ := h
  obtain ⟨hd, tl, sg, dr, fr, pt⟩ := d
  simp only at h1 h2 h3 h4 h5 h6
  unfold Dec.step
  simp only
  split
  · cases pt <;> exact ⟨by simp [Dec.frac]; omega, by simp [Dec.frac]; omega, by simp [Dec.frac]; omega, by simp [Dec.frac]; omega, by simp [Dec.frac]; omega, by simp [Dec.frac]; omega⟩
  split
  · cases pt <;> exact ⟨by simp [Dec.frac]; omega, by simp [Dec.frac]; omega, by simp [Dec.frac]; omega, by simp [Dec.frac]; omega, by simp [Dec.frac]; omega, by simp [Dec.frac]; omega⟩
  split
  · cases pt <;> exact ⟨by simp [Dec.frac]; omega, by simp [Dec.frac]; omega, by simp [Dec.frac]; omega, by simp [Dec.frac]; omega, by simp [Dec.frac]; omega, by simp [Dec.frac]; omega⟩
  · cases pt <;> exact ⟨by simp [Dec.frac]; omega, by simp [Dec.frac]; omega, by simp [Dec.frac]; omega, by simp [Dec.frac]; omega, by simp [Dec.frac]; omega, by simp [Dec.frac]; omega⟩
theorem Dec.In.point {d : Dec} {i : Nat} (h : d.In i) : ({ d with pt := true } : Dec).In i := ⟨h.s1, h.s2, h.d1, h.d2, h.f1, h.f2⟩
theorem decAt_in (G : Nat → Int) (p : Int) : ∀ i, (decAt G p i).In i
  | 0 => ⟨by simp [decAt], by simp [decAt], by simp [decAt], by simp [decAt], by simp [decAt], by simp [decAt]⟩
  | i + 1 => by
    unfold decAt
    split
    · exact (decAt_in G p i).point.step _
    · exact (decAt_in G p i).step _

theorem dig_of (g : Int) : dig (48 + g % 10) = g % 10 := by unfold dig; split <;> omega

theorem Yba.info42 : (Yba.prog.info? 42).map (fun i => i.size) = some 6 := by kernel_rfl

set_option maxHeartbeats 2000000 in
set_option maxRecDepth 100000 in
theorem build_core (G : Nat → Int) (p : Int) (a : Option Addr) (n c : Nat) (z : List Int) (w : World) (h : IsRow .u8 w a n c z) (hn : n ≤ 1024) (hp1 : 0 ≤ p) (hp2 : p ≤ 255) (eG : Hid (∀ i, z.getD i 0 = G i)) :
    Calls Yba.prog 8 #[.slice a n c, .int .u8 p] w fun e w' => e = .returned (.agg (decAt G p n).cells) ∧ Below w.heap.size w w' := by
  have hG : Hid (∀ i, 0 ≤ G i ∧ G i ≤ 255) := fun i => by rw [← eG.out]; exact h.u8 i
  have H : Hid (IsRow .u8 w a n c z) := h
  clear h
  go_enter Yba.func8, Yba.ntmps8
  go_wp2
  go_loopg [6] n (fun kx s6 wr => ∃ i : Nat, i ≤ n ∧ n - i ≤ kx ∧ s6 = .int .i64 i ∧ Hid (wr.heap[w.heap.size + 1]? = some (decAt G p i).obj) ∧ Hid (wr.heap[w.heap.size]? = some (decAt G p 0).obj) ∧ Hid (Below w.heap.size w wr) ∧ Hid (wr.heap.size = w.heap.size + 2))
  case atStart =>
    refine ⟨0, Nat.zero_le _, by omega, rfl, ?_, ?_, ?_, ?_⟩
    · show _ = _
      exact heap_alloc2_new _ _ _
    · show _ = _
      exact heap_alloc2_old _ _ _
    · exact (((Below.refl _ _).alloc (Nat.le_refl _) _).alloc (by simp) _)
    · show _ = _
      simp
  case round =>
    obtain ⟨i, hi, hk, rfl, hd, h0, hb, hsz⟩ := hrel
    by_cases hlt : i < n
    · obtain ⟨x1, o1, rfl, hx1, hc1⟩ := H.out.at (by omega)
      have hg1 : wr.cell? ⟨x1, o1 + i, none⟩ = some (.int .u8 (G i)) := by rw [hb.out.cell (p := ⟨x1, o1 + i, none⟩) hx1, hc1 i (by omega), eG.out]
      have bG := hG.out i
      have hi1 : (i : Int) < (n : Int) := by omega
      clear hc1
      have hin : Hid ((decAt G p i).In i) := decAt_in G p i
      by_cases hpi : p = i
      · subst hpi
        have hD := hin.out.point
        generalize hd0 : decAt G (i : Int) i = d at *
        generalize hg0 : G i = gi at *
        have hdd : Hid (decAt G (i : Int) i = d) := hd0
        have hgg : Hid (G i = gi) := hg0
        clear hd0 hg0
        go_wp2_with (first | (go_at_call 13; refine (point_any _ d _ hd.out).mono ?_; rintro e w1 ⟨rfl, ho1, hd1⟩; have hg2 := (ho1.cell (p := ⟨x1, o1 + i, none⟩) (by simp; omega)).trans hg1) | (go_at_call 9; refine (digit_any _ _ _ _ hd1 (by omega) (by omega) hD.s1 hD.s2 hD.d1 (by have := hD.d2; omega) hD.f1 (by have := hD.f2; omega)).mono ?_; rintro e w2 ⟨rfl, ho2, hd2⟩))
        go_roundg (n - (i + 1))
        case measure => omega
        case rel =>
          refine ⟨i + 1, by omega, Nat.le_refl _, by go_num, ?_, ?_, ?_, ?_⟩
          · show _ = _
            rw [hd2, dig_of, decAt_pt rfl, ← hdd.out, ← hgg.out]
          · show _ = _
            rw [ho2.block _ (by omega), ho1.block _ (by omega)]; exact h0.out
          · exact ho2.below (ho1.below hb.out (by omega)) (by omega)
          · show _ = _
            rw [ho2.size, ho1.size]; exact hsz.out
      · have hpb : (p == (i : Int)) = false := by simpa using hpi
        have hD := hin.out
        generalize hd0 : decAt G p i = d at *
        generalize hg0 : G i = gi at *
        have hdd : Hid (decAt G p i = d) := hd0
        have hgg : Hid (G i = gi) := hg0
        clear hd0 hg0
        go_wp2_with (go_at_call 9; refine (digit_any _ _ _ _ hd.out (by omega) (by omega) hD.s1 hD.s2 hD.d1 (by have := hD.d2; omega) hD.f1 (by have := hD.f2; omega)).mono ?_; rintro e w2 ⟨rfl, ho2, hd2⟩)
        go_roundg (n - (i + 1))
        case measure => omega
        case rel =>
          refine ⟨i + 1, by omega, Nat.le_refl _, by go_num, ?_, ?_, ?_, ?_⟩
          · show _ = _
            rw [hd2, dig_of, decAt_no hpi, ← hdd.out, ← hgg.out]
          · show _ = _
            rw [ho2.block _ (by omega)]; exact h0.out
          · exact ho2.below hb.out (by omega)
          · show _ = _
            rw [ho2.size]; exact hsz.out
    · obtain rfl : i = n := by omega
      generalize hd0 : decAt G p i = d at *
      have hdd : Hid (decAt G p i = d) := hd0
      clear hd0
      have E : wr.heap[w.heap.size + 1]? = some d.obj := hd.out
      have E0 : Hid (wr.heap[w.heap.size]? = some (Dec.mk 0 0 0 0 0 false).obj) := h0.out
      have S : wr.heap.size = w.heap.size + 2 := hsz.out
      clear h0 hd hsz
      obtain ⟨hd, tl, sg, dr, fr, pt⟩ := d
      have c0 : wr.cell? ⟨w.heap.size + 1, 0, none⟩ = some (.int .i64 hd) := cell_obj E
      have c1 : wr.cell? ⟨w.heap.size + 1, 1, none⟩ = some (.int .i64 tl) := cell_obj E
      have c2 : wr.cell? ⟨w.heap.size + 1, 2, none⟩ = some (.int .i64 sg) := cell_obj E
      have c3 : wr.cell? ⟨w.heap.size + 1, 3, none⟩ = some (.int .i64 dr) := cell_obj E
      have c4 : wr.cell? ⟨w.heap.size + 1, 4, none⟩ = some (.int .i64 fr) := cell_obj E
      have c5 : wr.cell? ⟨w.heap.size + 1, 5, none⟩ = some (.bool pt) := cell_obj E
      have y0 : wr.cell? ⟨w.heap.size, 0, none⟩ = some (.int .i64 0) := cell_obj E0.out
      have y1 : wr.cell? ⟨w.heap.size, 1, none⟩ = some (.int .i64 0) := cell_obj E0.out
      have y2 : wr.cell? ⟨w.heap.size, 2, none⟩ = some (.int .i64 0) := cell_obj E0.out
      have y3 : wr.cell? ⟨w.heap.size, 3, none⟩ = some (.int .i64 0) := cell_obj E0.out
      have y4 : wr.cell? ⟨w.heap.size, 4, none⟩ = some (.int .i64 0) := cell_obj E0.out
      have y5 : wr.cell? ⟨w.heap.size, 5, none⟩ = some (.bool false) := cell_obj E0.out
      have z0 := free_obj (j := 0) E0.out
      have z1 := free_obj (j := 1) E0.out
      have z2 := free_obj (j := 2) E0.out
      have z3 := free_obj (j := 3) E0.out
      have z4 := free_obj (j := 4) E0.out
      have z5 := free_obj (j := 5) E0.out
      clear E S
      go_wp2
      have F := set_obj (j := 5) (.bool pt) (set_obj (j := 4) (.int .i64 fr) (set_obj (j := 3) (.int .i64 dr) (set_obj (j := 2) (.int .i64 sg) (set_obj (j := 1) (.int .i64 tl) (set_obj (j := 0) (.int .i64 hd) E0.out)))))
      refine bodyPost_ret (results_cell_row rfl _ _ w.heap.size 42 _ _ _ rfl F Yba.underlying42 rfl (by rw [Yba.info42]; rfl)) rfl ?_
      refine ⟨by rw [hdd.out]; rfl, ?_⟩
      exact (((((hb.out.setCell (Nat.le_refl _) _).setCell (Nat.le_refl _) _).setCell (Nat.le_refl _) _).setCell (Nat.le_refl _) _).setCell (Nat.le_refl _) _).setCell (Nat.le_refl _) _
end Go.Proofs.Ybulkcidk
