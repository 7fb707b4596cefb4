import Derived.Test.YbulkcibgChecked
import Derived.WalkKit
import Derived.WalkLawsBesides
import Derived.WalkSpells
import Derived.Deep.QuietTactic
import Derived.BigQuiet
import Derived.Deep.LoopGhost
namespace Go.Proofs.Ybulkcibg
open Go.RowKit

/-- A CLOCK IN MEMORY: n entries from the head of block g on, the processes strictly ascending and within bounds. -/
structure ClockAt (w : World) (g n : Nat) (P V : Nat → Int) : Prop where
  lt : g < w.heap.size
  cells : ∀ i, i < n → w.cell? ⟨g, i * 2, none⟩ = some (.int .i64 (P i)) ∧ w.cell? ⟨g, i * 2 + 1, none⟩ = some (.int .u64 (V i))
  mono : ∀ i j, i < j → j < n → P i < P j
  lo : ∀ i, i < n → -40000 ≤ P i
  hi : ∀ i, i < n → P i ≤ 400000
  len : n ≤ 1024

theorem ClockAt.below {w w' : World} (hb : Below w.heap.size w w') {g n : Nat} {P V : Nat → Int} (h : ClockAt w g n P V) : ClockAt w' g n P V where
  lt := by have := hb.size; have := h.lt; omega
  cells i hi := by rw [hb.cell (p := ⟨g, i * 2, none⟩) h.lt, hb.cell (p := ⟨g, i * 2 + 1, none⟩) h.lt]; exact h.cells i hi
  mono := h.mono
  lo := h.lo
  hi := h.hi
  len := h.len

/-- The comparator. -/
theorem closure14 (p v q : Int) (w : World) (h1 : -40000 ≤ p) (h2 : p ≤ 400000) (h3 : -500000 ≤ q) (h4 : q ≤ 500000) :
    Calls Yba.prog 14 #[.agg #[.int .i64 p, .int .u64 v], .int .i64 q] w fun e w' => e = .returned (.int .i64 (p - q)) ∧ Below w.heap.size w w' := by
  go_enter Yba.func14, Yba.ntmps14
  go_wp2
  go_ret
  exact ⟨rfl, (Below.refl _ _).alloc (Nat.le_refl _) _⟩

set_option maxHeartbeats 1000000 in
set_option maxRecDepth 100000 in
/-- slices.BinarySearchFunc on a clock. -/
theorem search_any (g n cap : Nat) (P V : Nat → Int) (q : Int) (w : World) (h : ClockAt w g n P V) (h3 : -500000 ≤ q) (h4 : q ≤ 500000) :
    Calls Yba.prog 13 #[.slice (some ⟨g, 0, none⟩) n cap, .int .i64 q, .func (.func 14) #[] #[]] w fun e w' =>
      ∃ (i : Nat) (f : Bool), e = .returned (.tuple #[.int .i64 i, .bool f]) ∧ (f = true → i < n ∧ P i = q) ∧ (f = false → ∀ t, t < n → P t ≠ q) ∧ Below w.heap.size w w' := by
  have hlen := h.len
  have H : Aside (ClockAt w g n P V) := h
  clear h
  go_enter Yba.func13, Yba.ntmps13
  go_wp2
  go_loopg [9, 10] n (fun kx s9 s10 wr => ∃ lo hi : Nat, s9 = .int .i64 lo ∧ s10 = .int .i64 hi ∧ lo ≤ hi ∧ hi ≤ n ∧ hi - lo ≤ kx ∧ Aside (Below w.heap.size w wr) ∧ Aside ((∀ t, t < lo → P t < q) ∧ (∀ t, hi ≤ t → t < n → q ≤ P t)))
  case atStart => exact ⟨0, n, rfl, rfl, Nat.zero_le _, Nat.le_refl _, by omega, Below.refl _ _, ⟨fun t ht => absurd ht (Nat.not_lt_zero _), fun t h1 h2 => by omega⟩⟩
  case round =>
    obtain ⟨lo, hi, rfl, rfl, hlh, hin, hg, S1, I⟩ := hrel
    have HC : Aside (ClockAt wr g n P V) := H.out.below S1.out
    by_cases hlt : lo < hi
    · obtain ⟨c1, c2⟩ := HC.out.cells ((lo + hi) / 2) (by omega)
      have b1 := HC.out.lo ((lo + hi) / 2) (by omega)
      have b2 := HC.out.hi ((lo + hi) / 2) (by omega)
      have hc := closure14 (P ((lo + hi) / 2)) (V ((lo + hi) / 2)) q wr b1 b2 h3 h4
      generalize hy : P ((lo + hi) / 2) = y at *
      have Y : Aside (P ((lo + hi) / 2) = y) := hy
      clear hy
      generalize V ((lo + hi) / 2) = vy at *
      by_cases hyx : y - q < 0
      · go_wp2_with (go_at_call 14; refine hc.mono ?_; rintro e w' ⟨rfl, hb'⟩)
        go_roundg (hi - ((lo + hi) / 2 + 1))
        case measure => omega
        case rel =>
          refine ⟨(lo + hi) / 2 + 1, hi, by rw [show ((lo : Int) + (hi : Int)) / 2 + 1 = (((lo + hi) / 2 + 1 : Nat) : Int) by omega], rfl, by omega, hin, Nat.le_refl _, S1.out.trans (hb'.mono S1.out.size), ⟨fun t ht => ?_, I.out.2⟩⟩
          by_cases e : t = (lo + hi) / 2
          · subst e; rw [Y.out]; omega
          · have := HC.out.mono t ((lo + hi) / 2) (by omega) (by omega); rw [Y.out] at this; omega
      · go_wp2_with (go_at_call 14; refine hc.mono ?_; rintro e w' ⟨rfl, hb'⟩)
        go_roundg ((lo + hi) / 2 - lo)
        case measure => omega
        case rel =>
          refine ⟨lo, (lo + hi) / 2, rfl, by rw [show ((lo : Int) + (hi : Int)) / 2 = (((lo + hi) / 2 : Nat) : Int) by omega], by omega, by omega, Nat.le_refl _, S1.out.trans (hb'.mono S1.out.size), ⟨I.out.1, fun t ht htn => ?_⟩⟩
          by_cases e : t = (lo + hi) / 2
          · subst e; rw [Y.out]; omega
          · have := HC.out.mono ((lo + hi) / 2) t (by omega) htn; rw [Y.out] at this; omega
    · obtain rfl : hi = lo := by omega
      by_cases hn : hi < n
      · obtain ⟨c1, c2⟩ := HC.out.cells hi hn
        have b1 := HC.out.lo hi hn
        have b2 := HC.out.hi hi hn
        have hc := closure14 (P hi) (V hi) q wr b1 b2 h3 h4
        generalize hy : P hi = y at *
        have Y : Aside (P hi = y) := hy
        clear hy
        generalize V hi = vy at *
        by_cases hyx : y - q = 0
        · have hyb : (y - q == 0) = true := by simpa using hyx
          go_wp2_with (go_at_call 14; refine hc.mono ?_; rintro e w' ⟨rfl, hb'⟩)
          go_ret2
          exact ⟨hi, true, rfl, fun _ => ⟨hn, by rw [Y.out]; omega⟩, fun h => (by cases h), S1.out.trans (hb'.mono S1.out.size)⟩
        · have hyb : (y - q == 0) = false := by simpa using hyx
          go_wp2_with (go_at_call 14; refine hc.mono ?_; rintro e w' ⟨rfl, hb'⟩)
          go_ret2
          refine ⟨hi, false, rfl, fun h => (by cases h), fun _ t ht => ?_, S1.out.trans (hb'.mono S1.out.size)⟩
          rcases Nat.lt_trichotomy t hi with h | h | h
          · have := I.out.1 t h; omega
          · subst h; rw [Y.out]; omega
          · have h5 := HC.out.mono hi t h ht
            have h6 := I.out.2 hi (Nat.le_refl _) hn
            omega
      · go_wp2
        go_ret2
        exact ⟨hi, false, rfl, fun h => (by cases h), fun _ t ht => by have := I.out.1 t (by omega); omega, S1.out⟩

/-- What entryOf answers. -/
def look (P V : Nat → Int) (q : Int) : Nat → Int
  | 0 => 0
  | n + 1 => if P n = q then V n else look P V q n
theorem look_none {P V : Nat → Int} {q : Int} : ∀ {n : Nat}, (∀ t, t < n → P t ≠ q) → look P V q n = 0
  | 0, _ => rfl
  | n + 1, h => by
    unfold look
    rw [if_neg (h n (Nat.lt_succ_self n))]
    exact look_none fun t ht => h t (by omega)
theorem look_at {P V : Nat → Int} {q : Int} : ∀ {n : Nat} (i : Nat), i < n → P i = q → (∀ t, t < n → t ≠ i → P t ≠ q) → look P V q n = V i
  | 0, i, h, _, _ => by omega
  | n + 1, i, h, hp, hu => by
    unfold look
    by_cases e : n = i
    · subst e; rw [if_pos hp]
    · rw [if_neg (hu n (by omega) e)]
      exact look_at i (by omega) hp fun t ht hne => hu t (by omega) hne

theorem ClockAt.uniq {w : World} {g n : Nat} {P V : Nat → Int} (h : ClockAt w g n P V) {i : Nat} (hi : i < n) : ∀ t, t < n → t ≠ i → P t ≠ P i := by
  intro t ht hne he
  rcases Nat.lt_or_gt_of_ne hne with h1 | h1
  · have := h.mono t i h1 hi; omega
  · have := h.mono i t h1 ht; omega

set_option maxRecDepth 100000 in
theorem entryOf_any (g n cap : Nat) (P V : Nat → Int) (q : Int) (w : World) (h : ClockAt w g n P V) (h3 : -500000 ≤ q) (h4 : q ≤ 500000) :
    Calls Yba.prog 10 #[.slice (some ⟨g, 0, none⟩) n cap, .int .i64 q] w fun e w' => e = .returned (.int .u64 (look P V q n)) ∧ Below w.heap.size w w' := by
  have hcon := search_any g n cap P V q w h h3 h4
  have H : Hid (ClockAt w g n P V) := h
  have hlen := h.len
  clear h
  go_enter Yba.func10, Yba.ntmps10
  go_wp2_with fail
  refine hcon.mono ?_
  rintro e w' ⟨i, f, rfl, ht, hf, hb⟩
  clear hcon
  cases f with
  | true =>
    obtain ⟨hi, hpi⟩ := ht rfl
    have c2 := ((H.out.below hb).cells i hi).2
    have E : Hid (look P V q n = V i) := look_at i hi hpi fun t h1 h2 => by have := H.out.uniq hi t h1 h2; rw [hpi] at this; exact this
    clear ht hf hpi
    go_wp2
    go_ret
    exact ⟨by rw [E.out]; rfl, hb⟩
  | false =>
    have E : Hid (look P V q n = 0) := look_none (hf rfl)
    clear ht hf
    go_wp2
    go_ret
    exact ⟨by rw [E.out]; rfl, hb⟩
end Go.Proofs.Ybulkcibg
