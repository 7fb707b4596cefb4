import Derived.Test.YbulkcibgClock
namespace Go.Proofs.Ybulkcibg
open Go.RowKit

theorem look_hit {P V : Nat → Int} {q : Int} {i : Nat} (h : P i = q) : look P V q (i + 1) = V i := by simp [look, h]
theorem look_miss {P V : Nat → Int} {q : Int} {i : Nat} (h : P i ≠ q) : look P V q (i + 1) = look P V q i := by simp [look, h]

set_option maxHeartbeats 2000000 in
set_option maxRecDepth 100000 in
theorem model_any (base : Int) (a1 : Option Addr) (n1 c1 : Nat) (z1 : List Int) (a2 : Option Addr) (n2 c2 : Nat) (z2 : List Int) (pick : Bool) (sel p : Int) (w : World) (hb1 : -32768 ≤ base) (hb2 : base ≤ 32767)
    (h1 : IsRow .u8 w a1 n1 c1 z1) (h2 : IsRow .u64 w a2 n2 c2 z2) (hs1 : 0 ≤ sel) (hs2 : sel ≤ 65535) (hp1 : -32768 ≤ p) (hp2 : p ≤ 32767) :
    Calls Yba.prog 5 #[.int .i16 base, .slice a1 n1 c1, .slice a2 n2 c2, .bool pick, .int .u16 sel, .int .i16 p] w fun e w' => e = .returned (.bool true) ∧ Below w.heap.size w w' := by
  have hm1 := h1.len_le.2
  have hm2 := h2.len_le.2
  unfold maxLen at hm1 hm2
  have H1 : Hid (IsRow .u8 w a1 n1 c1 z1) := h1
  have H2 : Hid (IsRow .u64 w a2 n2 c2 z2) := h2
  clear h1 h2
  by_cases hc1 : 1024 < n1
  · go_enter Yba.func5, Yba.ntmps5
    go_wp2
    go_ret
    exact ⟨rfl, Below.refl _ _⟩
  by_cases hc2 : 1024 < n2
  · go_enter Yba.func5, Yba.ntmps5
    go_wp2
    go_ret
    exact ⟨rfl, Below.refl _ _⟩
  have hcon := build_any base a1 n1 c1 z1 a2 n2 c2 z2 w hb1 hb2 H1.out H2.out (by omega) (by omega)
  go_enter Yba.func5, Yba.ntmps5
  go_wp2_with fail
  refine hcon.mono ?_
  rintro e w1 ⟨g, n, cap, P, V, rfl, hcl, hbel⟩
  have hlen := hcl.len
  have HC : Hid (ClockAt w1 g n P V) := hcl
  have HB : Hid (Below w.heap.size w w1) := hbel
  clear hcon hcl hbel H1 H2
  go_upto_region 5 with fail
  go_cut [37] (fun s37 wc => s37 = .bool (pick && decide (0 < n)) ∧ w1 = wc)
  case first =>
    cases pick
    · go_wp2
      go_meet
      case rel => exact ⟨rfl, rfl⟩
    · go_wp2
      go_meet
      case rel => exact ⟨by simp, rfl⟩
  obtain ⟨rfl, rfl⟩ := hcut
  go_upto_if 37 with fail
  go_cut [14] (fun s14 wc => ∃ q : Int, s14 = .int .i64 q ∧ -500000 ≤ q ∧ q ≤ 500000 ∧ w1 = wc)
  case first =>
    cases pick with
    | false =>
      rw [Bool.false_and]
      go_wp2
      go_meet
      case rel => exact ⟨p, rfl, by omega, by omega, rfl⟩
    | true =>
      rw [Bool.true_and]
      by_cases hn0 : 0 < n
      · rw [show decide (0 < n) = true by simpa using hn0]
        have hx0 : 0 ≤ sel % (n : Int) := Int.emod_nonneg _ (by omega)
        have hx1 : sel % (n : Int) < (n : Int) := Int.emod_lt_of_pos _ (by omega)
        have hxn : (sel % (n : Int)).toNat < n := by omega
        have hcx := (HC.out.cells _ hxn).1
        have hl := HC.out.lo _ hxn
        have hh := HC.out.hi _ hxn
        generalize P (sel % (n : Int)).toNat = px at *
        go_wp2
        go_meet
        case rel => exact ⟨px, rfl, by omega, by omega, rfl⟩
      · rw [show decide (0 < n) = false by simpa using hn0]
        go_wp2
        go_meet
        case rel => exact ⟨p, rfl, by omega, by omega, rfl⟩
  obtain ⟨q, rfl, hq1, hq2, rfl⟩ := hcut
  go_wp2
  go_loopw [15, 49] (fun s15 s49 wr => ∃ i : Nat, i ≤ n ∧ s49 = .int .i64 i ∧ s15 = .int .u64 (look P V q i) ∧ Below w1.heap.size w1 wr) (fun _ s49 _ => n - (intOf s49).toNat)
  case atStart => exact ⟨0, Nat.zero_le _, rfl, rfl, Below.refl _ _⟩
  case round =>
    obtain ⟨i, hi, rfl, rfl, hbr⟩ := hrel
    by_cases hlt : i < n
    · obtain ⟨k1, k2⟩ := (HC.out.below hbr).cells i hlt
      by_cases hpq : P i = q
      · have hl : Hid (look P V q (i + 1) = V i) := look_hit hpq
        have hpb : (P i == q) = true := by simpa using hpq
        clear hpq
        generalize look P V q i = l0 at *
        generalize P i = px at *
        generalize V i = vx at *
        go_wp2
        go_roundw
        case rel => exact ⟨i + 1, by omega, by go_num, by rw [hl.out], hbr.alloc hbr.size _⟩
        case measure => simp [intOf]; omega
      · have hl : Hid (look P V q (i + 1) = look P V q i) := look_miss hpq
        have hpb : (P i == q) = false := by simpa using hpq
        clear hpq
        generalize look P V q i = l0 at *
        generalize P i = px at *
        generalize V i = vx at *
        go_wp2
        go_roundw
        case rel => exact ⟨i + 1, by omega, by go_num, by rw [hl.out], hbr.alloc hbr.size _⟩
        case measure => simp [intOf]; omega
    · obtain rfl : i = n := by omega
      have hent := entryOf_any g i cap P V q wr (HC.out.below hbr) hq1 hq2
      generalize look P V q i = l0 at *
      go_wp2_with (go_at_call 10; refine hent.mono ?_; rintro e w' ⟨rfl, hb'⟩)
      go_ret
      exact ⟨by simp, (HB.out.trans (hbr.mono HB.out.size)).trans (hb'.mono (Nat.le_trans HB.out.size hbr.size))⟩
end Go.Proofs.Ybulkcibg
