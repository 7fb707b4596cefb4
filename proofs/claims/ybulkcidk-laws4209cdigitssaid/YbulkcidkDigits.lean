import Derived.Test.YbulkcidkStep
namespace Go.Proofs.Ybulkcidk
open Go.RowKit

/-- Head and tail behind k significant digits from s on. -/
def hdTl (G : Nat → Int) (s : Nat) : Nat → Int × Int
  | 0 => (0, 0)
  | k + 1 => if k < 18 then (wrap64 (wrap64 ((hdTl G s k).1 * 10) + G (s + k) % 10), (hdTl G s k).2) else ((hdTl G s k).1, wrap64 (wrap64 ((hdTl G s k).2 * 10) + G (s + k) % 10))
theorem hdTl_lo {G : Nat → Int} {s k : Nat} (h : k < 18) : hdTl G s (k + 1) = (wrap64 (wrap64 ((hdTl G s k).1 * 10) + G (s + k) % 10), (hdTl G s k).2) := by rw [hdTl]; rw [if_pos h]
theorem hdTl_hi {G : Nat → Int} {s k : Nat} (h : ¬ k < 18) : hdTl G s (k + 1) = ((hdTl G s k).1, wrap64 (wrap64 ((hdTl G s k).2 * 10) + G (s + k) % 10)) := by rw [hdTl]; rw [if_neg h]

theorem frac_all (d : Dec) : d.frac.hd = d.hd ∧ d.frac.tl = d.tl ∧ d.frac.sg = d.sg ∧ d.frac.dr = d.dr ∧ d.frac.pt = d.pt ∧ d.frac.fr = if d.pt then d.fr + 1 else d.fr := by
  unfold Dec.frac
  cases h : d.pt <;> simp [h]
theorem step_pt (d : Dec) (v : Int) : (d.step v).pt = d.pt ∧ (d.step v).fr = if d.pt then d.fr + 1 else d.fr := by
  unfold Dec.step
  split
  · exact ⟨(frac_all _).2.2.2.2.1, (frac_all _).2.2.2.2.2⟩
  split
  · exact ⟨(frac_all _).2.2.2.2.1, (frac_all _).2.2.2.2.2⟩
  split
  · exact ⟨(frac_all _).2.2.2.2.1, (frac_all _).2.2.2.2.2⟩
  · exact ⟨(frac_all _).2.2.2.2.1, (frac_all _).2.2.2.2.2⟩

/-- The point and the fraction. -/
theorem decAt_frac (G : Nat → Int) (p : Int) (hp : 0 ≤ p) : ∀ i : Nat, (decAt G p i).pt = decide (p < i) ∧ (decAt G p i).fr = if p < i then (i : Int) - p else 0
  | 0 => by
    have : ¬ p < ((0 : Nat) : Int) := by omega
    simp only [this, decAt]
    simp
  | i + 1 => by
    have ⟨h1, h2⟩ := decAt_frac G p hp i
    by_cases h : p = (i : Int)
    · rw [decAt_pt h]
      have ⟨k1, k2⟩ := step_pt { decAt G p i with pt := true } (G i % 10)
      rw [k1, k2, h2]
      have a1 : p < ((i + 1 : Nat) : Int) := by omega
      have a2 : ¬ p < (i : Int) := by omega
      simp only [a1, a2]
      simp
      omega
    · rw [decAt_no h]
      have ⟨k1, k2⟩ := step_pt (decAt G p i) (G i % 10)
      rw [k1, k2, h1, h2]
      by_cases a : p < (i : Int)
      · have a1 : p < ((i + 1 : Nat) : Int) := by omega
        simp only [a1, a]
        simp
        omega
      · have a1 : ¬ p < ((i + 1 : Nat) : Int) := by omega
        simp only [a1, a]
        simp

/-- The four numbers. -/
structure Dec.Four (d : Dec) (h t s r : Int) : Prop where
  h1 : d.hd = h
  h2 : d.tl = t
  h3 : d.sg = s
  h4 : d.dr = r
theorem Dec.Four.point {d : Dec} {h t s r : Int} (k : d.Four h t s r) : ({ d with pt := true } : Dec).Four h t s r := ⟨k.h1, k.h2, k.h3, k.h4⟩
theorem Dec.Four.frac {d : Dec} {h t s r : Int} (k : d.Four h t s r) : d.frac.Four h t s r := by
  have ⟨a, b, c, e, _⟩ := frac_all d
  exact ⟨a.trans k.h1, b.trans k.h2, c.trans k.h3, e.trans k.h4⟩
theorem decAt_four {G : Nat → Int} {p : Int} {i : Nat} {h t s r h' t' s' r' : Int} (k : (decAt G p i).Four h t s r) (st : ∀ d : Dec, d.Four h t s r → (d.step (G i % 10)).Four h' t' s' r') : (decAt G p (i + 1)).Four h' t' s' r' := by
  by_cases e : p = (i : Int)
  · rw [decAt_pt e]; exact st _ k.point
  · rw [decAt_no e]; exact st _ k
theorem decAt_zero {G : Nat → Int} {p : Int} {s : Nat} (hz : ∀ i, i < s → G i % 10 = 0) : ∀ i, i ≤ s → (decAt G p i).Four 0 0 0 0
  | 0, _ => ⟨rfl, rfl, rfl, rfl⟩
  | i + 1, hi => decAt_four (decAt_zero hz i (by omega)) fun d k => by
    unfold Dec.step
    rw [if_pos ⟨k.h3, hz i (by omega)⟩]
    exact k.frac
theorem decAt_sig {G : Nat → Int} {p : Int} {s n : Nat} (hz : ∀ i, i < s → G i % 10 = 0) (hs : s < n → G s % 10 ≠ 0) :
    ∀ k : Nat, s + k ≤ n → (decAt G p (s + k)).Four (hdTl G s (Nat.min k 36)).1 (hdTl G s (Nat.min k 36)).2 (Nat.min k 36 : Nat) (k - Nat.min k 36 : Nat)
  | 0, _ => decAt_zero hz s (Nat.le_refl _)
  | k + 1, hk => by
    refine decAt_four (decAt_sig hz hs k (by omega)) fun d f => ?_
    have f3 := f.h3
    have f4 := f.h4
    have f1 := f.h1
    have f2 := f.h2
    change (d.step (G (s + k) % 10)).Four _ _ _ _
    unfold Dec.step
    have hno : ¬ (d.sg = 0 ∧ G (s + k) % 10 = 0) := by
      rintro ⟨e1, e2⟩
      rw [f3] at e1
      have : k = 0 := by
        have : Nat.min k 36 = 0 := by omega
        simp only [Nat.min_def] at this
        split at this <;> omega
      subst this
      exact hs (by omega) e2
    rw [if_neg hno]
    by_cases k18 : k < 18
    · have m1 : Nat.min k 36 = k := by simp only [Nat.min_def]; split <;> omega
      have m2 : Nat.min (k + 1) 36 = k + 1 := by simp only [Nat.min_def]; split <;> omega
      rw [m1] at f1 f2 f3 f4
      rw [m2, if_pos (by omega), hdTl_lo k18]
      refine Dec.Four.frac ⟨?_, ?_, ?_, ?_⟩
      · show wrap64 (wrap64 (d.hd * 10) + _) = _; rw [f1]
      · exact f2
      · show d.sg + 1 = _; rw [f3]; omega
      · show d.dr = _; rw [f4]; omega
    · by_cases k36 : k < 36
      · have m1 : Nat.min k 36 = k := by simp only [Nat.min_def]; split <;> omega
        have m2 : Nat.min (k + 1) 36 = k + 1 := by simp only [Nat.min_def]; split <;> omega
        rw [m1] at f1 f2 f3 f4
        rw [m2, if_neg (by omega), if_pos (by omega), hdTl_hi k18]
        refine Dec.Four.frac ⟨?_, ?_, ?_, ?_⟩
        · exact f1
        · show wrap64 (wrap64 (d.tl * 10) + _) = _; rw [f2]
        · show d.sg + 1 = _; rw [f3]; omega
        · show d.dr = _; rw [f4]; omega
      · have m1 : Nat.min k 36 = 36 := by simp only [Nat.min_def]; split <;> omega
        have m2 : Nat.min (k + 1) 36 = 36 := by simp only [Nat.min_def]; split <;> omega
        rw [m1] at f1 f2 f3 f4
        rw [m2, if_neg (by omega), if_neg (by omega)]
        refine Dec.Four.frac ⟨f1, f2, f3, ?_⟩
        show d.dr + 1 = _; rw [f4]; omega

set_option maxHeartbeats 4000000 in
set_option maxRecDepth 100000 in
theorem digits_core (G : Nat → Int) (p : Int) (a : Option Addr) (n c : Nat) (z : List Int) (w : World) (h : IsRow .u8 w a n c z) (hp1 : 0 ≤ p) (hp2 : p ≤ 255) (eG : Hid (∀ i, z.getD i 0 = G i)) :
    Calls Yba.prog 4 #[.slice a n c, .int .u8 p] w fun e w' => e = .returned (.bool true) ∧ Below w.heap.size w w' := by
  have hG : Hid (∀ i, 0 ≤ G i ∧ G i ≤ 255) := fun i => by rw [← eG.out]; exact h.u8 i
  have H : Hid (IsRow .u8 w a n c z) := h
  clear h
  go_enter Yba.func4, Yba.ntmps4
  by_cases hn : n ≤ 1024
  · have hB := build_core G p a n c z w H.out hn hp1 hp2 eG.out
    generalize hd0 : decAt G p n = d at *
    have hd : Hid (decAt G p n = d) := hd0
    clear hd0
    obtain ⟨hd', tl, sg, dr, fr, pt⟩ := d
    unfold Dec.cells at hB
    simp only at hB
    go_wp2_with (go_at_call 8; refine hB.mono ?_; rintro e w1 ⟨rfl, hb1⟩)
    have hb2 : Hid (Below w.heap.size w (w1.alloc (.cells #[.int .i64 hd', .int .i64 tl, .int .i64 sg, .int .i64 dr, .int .i64 fr, .bool pt] 42))) := hb1.alloc hb1.size _
    have E := heap_alloc_new w1 (.cells #[.int .i64 hd', .int .i64 tl, .int .i64 sg, .int .i64 dr, .int .i64 fr, .bool pt] 42)
    generalize w1.alloc (.cells #[.int .i64 hd', .int .i64 tl, .int .i64 sg, .int .i64 dr, .int .i64 fr, .bool pt] 42) = w2 at *
    have x0 : w2.cell? ⟨w1.heap.size, 0, none⟩ = some (.int .i64 hd') := cell_obj E
    have x1 : w2.cell? ⟨w1.heap.size, 1, none⟩ = some (.int .i64 tl) := cell_obj E
    have x2 : w2.cell? ⟨w1.heap.size, 2, none⟩ = some (.int .i64 sg) := cell_obj E
    have x3 : w2.cell? ⟨w1.heap.size, 3, none⟩ = some (.int .i64 dr) := cell_obj E
    have x4 : w2.cell? ⟨w1.heap.size, 4, none⟩ = some (.int .i64 fr) := cell_obj E
    have x5 : w2.cell? ⟨w1.heap.size, 5, none⟩ = some (.bool pt) := cell_obj E
    clear E
    generalize w1.heap.size = B at *
    clear hb1 hB
    have hR : Hid (∀ i, i < n → ∃ x o, a = some ⟨x, o, none⟩ ∧ w2.cell? ⟨x, o + i, none⟩ = some (.int .u8 (G i))) := fun i hi => by
      obtain ⟨x, o, e, hx, hc⟩ := H.out.at (by omega)
      exact ⟨x, o, e, by rw [hb2.out.cell (p := ⟨x, o + i, none⟩) hx, hc i hi, eG.out]⟩
    go_loopg [6] n (fun kx s6 wr => ∃ s : Nat, s ≤ n ∧ n - s ≤ kx ∧ s6 = .int .i64 s ∧ Hid (∀ i, i < s → G i % 10 = 0) ∧ w2 = wr)
    case atStart => exact ⟨0, Nat.zero_le _, by omega, rfl, fun i hi => absurd hi (Nat.not_lt_zero _), rfl⟩
    case round =>
      obtain ⟨s, hs, hk, rfl, hz, rfl⟩ := hrel
      by_cases hlt : s < n
      · have bG := hG.out s
        have hi1 : (s : Int) < (n : Int) := by omega
        obtain ⟨x, o, rfl, hc⟩ := hR.out s hlt
        by_cases hgz : G s % 10 = 0
        · have e1 : (G s % 10 == 0) = true := by simpa using hgz
          go_wp2
          go_roundg (n - (s + 1))
          case measure => omega
          case rel =>
            refine ⟨s + 1, by omega, Nat.le_refl _, by go_num, fun i hi => ?_, rfl⟩
            by_cases e : i = s
            · subst e; exact hgz
            · exact hz.out i (by omega)
        · have e1 : (G s % 10 == 0) = false := by simpa using hgz
          have hne : Hid (s < n → G s % 10 ≠ 0) := fun _ => hgz
          clear hgz
          go_wp2
          have hbl : Hid (∀ wx, wx = w2 → Below w.heap.size w wx) := fun wx e => e ▸ hb2.out
          go_loopg [8, 9, 10] 36 (fun kx s8 s9 s10 wr => ∃ k : Nat, s + k ≤ n ∧ k ≤ 36 ∧ 36 - k ≤ kx ∧ s8 = .int .i64 (hdTl G s k).1 ∧ s9 = .int .i64 (hdTl G s k).2 ∧ s10 = .int .i64 k ∧ w2 = wr)
          case atStart => exact ⟨0, hs, Nat.zero_le _, Nat.le_refl _, rfl, rfl, rfl, rfl⟩
          case round =>
            obtain ⟨k, hkn, hk36, hkk, rfl, rfl, rfl, rfl⟩ := hrel
            by_cases hk1 : s + k < n
            · have ik1 : (k : Int) < (n : Int) - (s : Int) := by omega
              by_cases hk2 : k < 36
              · obtain ⟨x', o', hxa, hc'⟩ := hR.out (s + k) hk1
                cases hxa
                have bG' := hG.out (s + k)
                have ik2 : (s : Int) + (k : Int) < (n : Int) := by omega
                by_cases hk3 : k < 18
                · have hst : Hid (hdTl G s (k + 1) = (wrap64 (wrap64 ((hdTl G s k).1 * 10) + G (s + k) % 10), (hdTl G s k).2)) := hdTl_lo hk3
                  go_wp2
                  go_roundg (36 - (k + 1))
                  case measure => omega
                  case rel => exact ⟨k + 1, by omega, by omega, Nat.le_refl _, by rw [hst.out], by rw [hst.out], by go_num, rfl⟩
                · have hst : Hid (hdTl G s (k + 1) = ((hdTl G s k).1, wrap64 (wrap64 ((hdTl G s k).2 * 10) + G (s + k) % 10))) := hdTl_hi hk3
                  go_wp2
                  go_roundg (36 - (k + 1))
                  case measure => omega
                  case rel => exact ⟨k + 1, by omega, by omega, Nat.le_refl _, by rw [hst.out], by rw [hst.out], by go_num, rfl⟩
              · obtain rfl : k = 36 := by omega
                have F := decAt_sig (p := p) (n := n) hz.out hne.out (n - s) (by omega)
                have ⟨F5, F6⟩ := decAt_frac G p hp1 n
                have m1 : Nat.min (n - s) 36 = 36 := by simp only [Nat.min_def]; split <;> omega
                rw [m1, show s + (n - s) = n by omega, hd.out] at F
                rw [hd.out] at F5 F6
                have F1 := F.h1
                have F2 := F.h2
                have F3 := F.h3
                have F4 := F.h4
                simp only at F1 F2 F3 F4 F5 F6
                rw [show ((n - s - 36 : Nat) : Int) = (n : Int) - (s : Int) - 36 by omega] at F4
                clear F hd
                subst hd' tl sg dr fr pt
                generalize (hdTl G s 36).1 = vh at *
                generalize (hdTl G s 36).2 = vt at *
                by_cases hpn : p < (n : Int)
                · simp only [hpn, if_true, decide_true] at x4 x5
                  have hsig : (36 : Int) < (n : Int) - (s : Int) := by omega
                  go_wp2
                  go_ret
                  exact ⟨rfl, hb2.out⟩
                · simp only [hpn, if_false, decide_false] at x4 x5
                  have hsig : (36 : Int) < (n : Int) - (s : Int) := by omega
                  go_wp2
                  go_ret
                  exact ⟨rfl, hb2.out⟩
            · have hnk : Hid (n = s + k) := by show _ = _; omega
              have F := decAt_sig (p := p) (n := n) hz.out hne.out k (by omega)
              have ⟨F5, F6⟩ := decAt_frac G p hp1 n
              have m1 : Nat.min k 36 = k := by simp only [Nat.min_def]; split <;> omega
              rw [m1, ← hnk.out, hd.out] at F
              rw [hd.out] at F5 F6
              have F1 := F.h1
              have F2 := F.h2
              have F3 := F.h3
              have F4 := F.h4
              simp only at F1 F2 F3 F4 F5 F6
              rw [show ((k - k : Nat) : Int) = 0 by omega] at F4
              clear F hd
              subst hd' tl sg dr fr pt
              generalize (hdTl G s k).1 = vh at *
              generalize (hdTl G s k).2 = vt at *
              have ik : (n : Int) - (s : Int) = (k : Int) := by have := hnk.out; omega
              have ik36 : (k : Int) ≤ 36 := by omega
              by_cases hpn : p < (n : Int)
              · simp only [hpn, if_true, decide_true] at x4 x5
                go_wp2
                go_ret
                exact ⟨rfl, hb2.out⟩
              · simp only [hpn, if_false, decide_false] at x4 x5
                go_wp2
                go_ret
                exact ⟨rfl, hb2.out⟩
      · have hne : Hid (s < n → G s % 10 ≠ 0) := fun h => absurd h hlt
        have hsn : s = n := by omega
        go_wp2
        have hbl : Hid (∀ wx, wx = w2 → Below w.heap.size w wx) := fun wx e => e ▸ hb2.out
        go_loopg [8, 9, 10] 36 (fun kx s8 s9 s10 wr => ∃ k : Nat, s + k ≤ n ∧ k ≤ 36 ∧ 36 - k ≤ kx ∧ s8 = .int .i64 (hdTl G s k).1 ∧ s9 = .int .i64 (hdTl G s k).2 ∧ s10 = .int .i64 k ∧ w2 = wr)
        case atStart => exact ⟨0, hs, Nat.zero_le _, Nat.le_refl _, rfl, rfl, rfl, rfl⟩
        case round =>
          obtain ⟨k, hkn, hk36, hkk, rfl, rfl, rfl, rfl⟩ := hrel
          by_cases hk1 : s + k < n
          · exact absurd hk1 (by omega)
          · have hnk : Hid (n = s + k) := by show _ = _; omega
            have F := decAt_sig (p := p) (n := n) hz.out hne.out k (by omega)
            have ⟨F5, F6⟩ := decAt_frac G p hp1 n
            have m1 : Nat.min k 36 = k := by simp only [Nat.min_def]; split <;> omega
            rw [m1, ← hnk.out, hd.out] at F
            rw [hd.out] at F5 F6
            have F1 := F.h1
            have F2 := F.h2
            have F3 := F.h3
            have F4 := F.h4
            simp only at F1 F2 F3 F4 F5 F6
            rw [show ((k - k : Nat) : Int) = 0 by omega] at F4
            clear F hd
            subst hd' tl sg dr fr pt
            generalize (hdTl G s k).1 = vh at *
            generalize (hdTl G s k).2 = vt at *
            have ik : (n : Int) - (s : Int) = (k : Int) := by have := hnk.out; omega
            have ik36 : (k : Int) ≤ 36 := by omega
            by_cases hpn : p < (n : Int)
            · simp only [hpn, if_true, decide_true] at x4 x5
              go_wp2
              go_ret
              exact ⟨rfl, hb2.out⟩
            · simp only [hpn, if_false, decide_false] at x4 x5
              go_wp2
              go_ret
              exact ⟨rfl, hb2.out⟩
  · go_wp2
    go_ret
    exact ⟨rfl, Below.refl _ _⟩
end Go.Proofs.Ybulkcidk
