import Derived.Test.YbulkcibgClock
import Derived.Deep.RegionWith
namespace Go.Proofs.Ybulkcibg
open Go.RowKit

theorem look_own {w : World} {g n : Nat} {P V : Nat → Int} (h : ClockAt w g n P V) {i : Nat} (hi : i < n) : look P V (P i) n = V i := look_at i hi rfl (h.uniq hi)
theorem look_past {w : World} {g n : Nat} {P V : Nat → Int} (h : ClockAt w g n P V) {i : Nat} (hi : i < n) (hne : i + 1 < n → P (i + 1) ≠ P i + 1) : look P V (P i + 1) n = 0 :=
  look_none fun t ht he => by
    rcases Nat.lt_trichotomy t i with h1 | h1 | h1
    · have := h.mono t i h1 hi; omega
    · subst h1; omega
    · have h2 := h.mono i (i + 1) (Nat.lt_succ_self i) (by omega)
      have h3 := hne (by omega)
      by_cases e : t = i + 1
      · subst e; omega
      · have := h.mono (i + 1) t (by omega) ht; omega
theorem look_before {w : World} {g n : Nat} {P V : Nat → Int} (h : ClockAt w g n P V) : look P V (P 0 - 1) n = 0 :=
  look_none fun t ht he => by
    by_cases e : t = 0
    · subst e; omega
    · have := h.mono 0 t (by omega) ht; omega

theorem below_drawn (B : Nat) (w : World) (n : Nat) : Below B w (w.drewN n) := ⟨rfl, rfl, rfl, Nat.le_refl _, fun _ _ => rfl⟩

set_option maxHeartbeats 2000000 in
set_option maxRecDepth 100000 in
theorem every_any (base : Int) (a1 : Option Addr) (n1 c1 : Nat) (z1 : List Int) (a2 : Option Addr) (n2 c2 : Nat) (z2 : List Int) (w : World) (hb1 : -32768 ≤ base) (hb2 : base ≤ 32767)
    (h1 : IsRow .u8 w a1 n1 c1 z1) (h2 : IsRow .u64 w a2 n2 c2 z2) :
    Calls Yba.prog 6 #[.int .i16 base, .slice a1 n1 c1, .slice a2 n2 c2] w fun e w' => e = .returned (.bool true) ∧ Below w.heap.size w w' := by
  have hm1 := h1.len_le.2
  have hm2 := h2.len_le.2
  unfold maxLen at hm1 hm2
  have H1 : Hid (IsRow .u8 w a1 n1 c1 z1) := h1
  have H2 : Hid (IsRow .u64 w a2 n2 c2 z2) := h2
  clear h1 h2
  by_cases hc1 : 1024 < n1
  · go_enter Yba.func6, Yba.ntmps6
    go_wp2
    go_ret
    exact ⟨rfl, Below.refl _ _⟩
  by_cases hc2 : 1024 < n2
  · go_enter Yba.func6, Yba.ntmps6
    go_wp2
    go_ret
    exact ⟨rfl, Below.refl _ _⟩
  have hcon := build_any base a1 n1 c1 z1 a2 n2 c2 z2 w hb1 hb2 H1.out H2.out (by omega) (by omega)
  go_enter Yba.func6, Yba.ntmps6
  go_wp2_with fail
  refine hcon.mono ?_
  rintro e w1 ⟨g, n, cap, P, V, rfl, hcl, hbel⟩
  have hlen := hcl.len
  have HC : Hid (ClockAt w1 g n P V) := hcl
  have HB : Hid (Below w.heap.size w w1) := hbel
  clear hcon hcl hbel H1 H2
  go_wp2
  go_loopg [24] n (fun kx s24 wr => ∃ i : Nat, i ≤ n ∧ n - i ≤ kx ∧ s24 = .int .i64 i ∧ Hid (Below w1.heap.size w1 wr)) 
  case atStart => exact ⟨0, Nat.zero_le _, by omega, rfl, Below.refl _ _⟩
  case round =>
    obtain ⟨i, hi, hkx, rfl, hbr⟩ := hrel
    have HR : Hid (ClockAt wr g n P V) := HC.out.below hbr.out
    by_cases hlt : i < n
    · obtain ⟨k1, k2⟩ := HR.out.cells i hlt
      have hlo := HR.out.lo i hlt
      have hhi := HR.out.hi i hlt
      go_upto_region 7 with fail
      have hE0 : (wr.alloc (.cells #[.int .i64 (P i), .int .u64 (V i)] 49)).cell? ⟨wr.heap.size, 0, none⟩ = some (.int .i64 (P i)) := by simp
      have hE1 : (wr.alloc (.cells #[.int .i64 (P i), .int .u64 (V i)] 49)).cell? ⟨wr.heap.size, 1, none⟩ = some (.int .u64 (V i)) := by simp
      have hbA : Below wr.heap.size wr (wr.alloc (.cells #[.int .i64 (P i), .int .u64 (V i)] 49)) := (Below.refl _ _).alloc (Nat.le_refl _) _
      have hzA : (wr.alloc (.cells #[.int .i64 (P i), .int .u64 (V i)] 49)).heap.size = wr.heap.size + 1 := by simp
      generalize wr.alloc (.cells #[.int .i64 (P i), .int .u64 (V i)] 49) = wa at *
      have HA : Hid (ClockAt wa g n P V) := HR.out.below hbA
      have HBA : Hid (Below w1.heap.size w1 wa) := hbr.out.trans (hbA.mono hbr.out.size)
      have hent : ∀ W, Below wa.heap.size wa W → Calls Yba.prog 10 #[.slice (some ⟨g, 0, none⟩) n cap, .int .i64 (P i)] W fun e w' => e = .returned (.int .u64 (V i)) ∧ Below W.heap.size W w' := fun W hW => by
        have := entryOf_any g n cap P V (P i) W (HA.out.below hW) (by omega) (by omega)
        rwa [look_own HR.out hlt] at this
      have hpast : ∀ W, Below wa.heap.size wa W → (i + 1 < n → P (i + 1) ≠ P i + 1) → Calls Yba.prog 10 #[.slice (some ⟨g, 0, none⟩) n cap, .int .i64 (P i + 1)] W fun e w' => e = .returned (.int .u64 0) ∧ Below W.heap.size W w' := fun W hW hne => by
        have := entryOf_any g n cap P V (P i + 1) W (HA.out.below hW) (by omega) (by omega)
        rwa [look_past HR.out hlt hne] at this
      have HE : Hid (∀ W, Below wa.heap.size wa W → Calls Yba.prog 10 #[.slice (some ⟨g, 0, none⟩) n cap, .int .i64 (P i)] W fun e w' => e = .returned (.int .u64 (V i)) ∧ Below W.heap.size W w') := hent
      have HP : Hid (∀ W, Below wa.heap.size wa W → (i + 1 < n → P (i + 1) ≠ P i + 1) → Calls Yba.prog 10 #[.slice (some ⟨g, 0, none⟩) n cap, .int .i64 (P i + 1)] W fun e w' => e = .returned (.int .u64 0) ∧ Below W.heap.size W w') := hpast
      clear hent hpast k1 k2 hbA
      have hnx : Hid (i + 1 < n → wa.cell? ⟨g, (i + 1) * 2, none⟩ = some (.int .i64 (P (i + 1)))) := fun h => (HA.out.cells (i + 1) h).1
      have hnl : i + 1 < n → -40000 ≤ P (i + 1) ∧ P (i + 1) ≤ 400000 := fun h => ⟨HA.out.lo _ h, HA.out.hi _ h⟩
      generalize hPi : P i = pi at *
      generalize hVi : V i = vi at *
      clear hPi hVi
      go_cut [35] (fun s35 wc => s35 = .bool false ∧ Hid (Below wa.heap.size wa wc) ∧ wc.cell? ⟨wr.heap.size, 0, none⟩ = some (.int .i64 pi) ∧ wc.cell? ⟨wr.heap.size, 1, none⟩ = some (.int .u64 vi))
      case first =>
        have hE : Calls Yba.prog 10 #[.slice (some ⟨g, 0, none⟩) n cap, .int .i64 pi] wa.drew fun e w' => e = .returned (.int .u64 vi) ∧ Hid (Below wa.heap.size wa w') ∧ w'.cell? ⟨wr.heap.size, 0, none⟩ = some (.int .i64 pi) ∧ w'.cell? ⟨wr.heap.size, 1, none⟩ = some (.int .u64 vi) :=
          (HE.out wa.drew (Below.refl _ _).drew).mono fun e w' ⟨he, hb'⟩ => ⟨he, (Below.refl _ _).drew.trans hb', by rw [hb'.cell (p := ⟨wr.heap.size, 0, none⟩) (by show wr.heap.size < wa.heap.size; omega)]; exact hE0, by rw [hb'.cell (p := ⟨wr.heap.size, 1, none⟩) (by show wr.heap.size < wa.heap.size; omega)]; exact hE1⟩
        go_region_with (go_at_call 10; refine hE.mono ?_; rintro e w' ⟨rfl, hb', q0, q1⟩)
        all_goals
          go_wp2_with fail
          go_meet
          case rel => exact ⟨by simp, hb', q0, q1⟩
      obtain ⟨rfl, hbc, e0, e1⟩ := hcut
      have HRC : Hid (Below w1.heap.size w1 wc) := HBA.out.trans (hbc.out.mono HBA.out.size)
      have hgl : g < wa.heap.size := HA.out.lt
      by_cases hin : i + 1 < n
      · have hnc : wc.cell? ⟨g, (i + 1) * 2, none⟩ = some (.int .i64 (P (i + 1))) := by rw [hbc.out.cell (p := ⟨g, (i + 1) * 2, none⟩) hgl]; exact hnx.out hin
        obtain ⟨hl1, hl2⟩ := hnl hin
        have hi1 : ((i : Int) + 1) < (n : Int) := by omega
        have hw1 : IntKind.i64.wrap ((i : Int) + 1) = ((i + 1 : Nat) : Int) := by simp [IntKind.wrap, IntKind.bits, IntKind.signed]; omega
        have hw2 : IntKind.i64.wrap (pi + 1) = pi + 1 := by simp [IntKind.wrap, IntKind.bits, IntKind.signed]; omega
        by_cases hnext : P (i + 1) = pi + 1
        · have hnb : (P (i + 1) == pi + 1) = true := by simpa using hnext
          clear hnext hnl hnx
          generalize P (i + 1) = pn at *
          go_wp2
          go_quiet (fail)
          go_wp2
          go_roundg (n - (i + 1))
          case measure => omega
          case rel => exact ⟨i + 1, by omega, Nat.le_refl _, by go_num, HRC.out.trans ⟨rfl, rfl, rfl, Nat.le_refl _, fun _ _ => rfl⟩⟩
        · have hnb : (P (i + 1) == pi + 1) = false := by simpa using hnext
          have hpas := fun nq => HP.out (wc.drewN nq) (hbc.out.trans ⟨rfl, rfl, rfl, Nat.le_refl _, fun _ _ => rfl⟩) (fun _ => hnext)
          have HPAS : Hid (∀ nq, Calls Yba.prog 10 #[.slice (some ⟨g, 0, none⟩) n cap, .int .i64 (pi + 1)] (wc.drewN nq) fun e w' => e = .returned (.int .u64 0) ∧ Below (wc.drewN nq).heap.size (wc.drewN nq) w') := hpas
          clear hnext hnl hnx hpas
          generalize P (i + 1) = pn at *
          go_wp2
          go_quiet (fail)
          go_wp2_with (go_at_call 10; refine (HPAS.out _).mono ?_; rintro e w' ⟨rfl, hb'⟩)
          go_roundg (n - (i + 1))
          case measure => omega
          case rel => exact ⟨i + 1, by omega, Nat.le_refl _, by go_num, HRC.out.trans (Below.trans (below_drawn _ wc _) (hb'.mono (by exact HRC.out.size)))⟩
      · have hw1 : IntKind.i64.wrap ((i : Int) + 1) = ((i + 1 : Nat) : Int) := by simp [IntKind.wrap, IntKind.bits, IntKind.signed]; omega
        have hd : decide (((i + 1 : Nat) : Int) < (n : Int)) = false := by simp; omega
        have hd' : decide (((i : Int) + 1) < (n : Int)) = false := by simp; omega
        have HPAS : Hid (∀ nq, Calls Yba.prog 10 #[.slice (some ⟨g, 0, none⟩) n cap, .int .i64 (pi + 1)] (wc.drewN nq) fun e w' => e = .returned (.int .u64 0) ∧ Below (wc.drewN nq).heap.size (wc.drewN nq) w') := fun nq => HP.out (wc.drewN nq) (hbc.out.trans ⟨rfl, rfl, rfl, Nat.le_refl _, fun _ _ => rfl⟩) (fun h => absurd h hin)
        clear hnl hnx
        go_wp2
        go_quiet (fail)
        go_wp2_with (go_at_call 10; refine (HPAS.out _).mono ?_; rintro e w' ⟨rfl, hb'⟩)
        go_roundg (n - (i + 1))
        case measure => omega
        case rel => exact ⟨i + 1, by omega, Nat.le_refl _, by go_num, HRC.out.trans (Below.trans (below_drawn _ wc _) (hb'.mono (by exact HRC.out.size)))⟩
    · obtain rfl : i = n := by omega
      by_cases hi0 : 0 < i
      · have hc0 := (HR.out.cells 0 hi0).1
        rw [Nat.zero_mul] at hc0
        have hl := HR.out.lo 0 hi0
        have hh := HR.out.hi 0 hi0
        have hent := entryOf_any g i cap P V (P 0 - 1) wr HR.out (by omega) (by omega)
        rw [look_before HR.out] at hent
        generalize P 0 = p0 at *
        go_wp2_with (go_at_call 10; refine hent.mono ?_; rintro e w' ⟨rfl, hb'⟩)
        go_ret
        exact ⟨rfl, (HB.out.trans (hbr.out.mono HB.out.size)).trans (hb'.mono (Nat.le_trans HB.out.size hbr.out.size))⟩
      · go_wp2
        go_ret
        exact ⟨rfl, HB.out.trans (hbr.out.mono HB.out.size)⟩
end Go.Proofs.Ybulkcibg
