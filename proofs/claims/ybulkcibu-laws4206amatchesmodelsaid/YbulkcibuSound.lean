import Derived.Test.YbulkcibuLeaf
import Derived.Deep.RegionWith
namespace Go.Proofs.Ybulkcibu
open Go.RowKit

/-- THE STORE AND THE TREE's HEAD IN MEMORY. -/
structure HeadAt (w : World) (A : Nat → Nat) (tb sb : Nat) (lost : Int) (tips : Value) : Prop where
  tlt : tb < w.heap.size
  slt : sb < w.heap.size
  t0 : w.cell? ⟨tb, 0, none⟩ = some (.pointer (some ⟨sb, 0, none⟩))
  t1 : w.cell? ⟨tb, 1, none⟩ = some (ptr A 0)
  s2 : w.cell? ⟨sb, 2, none⟩ = some (ptr A 0)
  s18 : w.cell? ⟨sb, 18, none⟩ = some tips
  s19 : w.cell? ⟨sb, 19, none⟩ = some (.int .i64 lost)

theorem HeadAt.below {w w' : World} (hb : Below w.heap.size w w') {A : Nat → Nat} {tb sb : Nat} {lost : Int} {tips : Value} (h : HeadAt w A tb sb lost tips) : HeadAt w' A tb sb lost tips where
  tlt := by have := h.tlt; have := hb.size; omega
  slt := by have := h.slt; have := hb.size; omega
  t0 := by rw [hb.cell (p := ⟨tb, 0, none⟩) h.tlt]; exact h.t0
  t1 := by rw [hb.cell (p := ⟨tb, 1, none⟩) h.tlt]; exact h.t1
  s2 := by rw [hb.cell (p := ⟨sb, 2, none⟩) h.slt]; exact h.s2
  s18 := by rw [hb.cell (p := ⟨sb, 18, none⟩) h.slt]; exact h.s18
  s19 := by rw [hb.cell (p := ⟨sb, 19, none⟩) h.slt]; exact h.s19

set_option maxRecDepth 100000 in
theorem sound_any (A : Nat → Nat) (T : Tr) (tb sb : Nat) (lost : Int) (tips : Value) (now : Int) (c : Nat) (w : World) (hT : T.Ok) (ht : TreeAt w A T) (hh : HeadAt w A tb sb lost tips) (hc : c < T.n) (h0 : c ≠ 0)
    (hn : ∀ i, i < T.n → T.arr i ≤ now) (hn2 : now ≤ 1000000) :
    Calls Yba.prog 9 #[.pointer (some ⟨tb, 0, none⟩), ptr A c, .int .u64 now] w fun e w' => e = .returned (.bool (T.snd now c)) ∧ w' = w := by
  have k9 := ht.arrived c hc
  have k10 := ht.approved c hc
  have k11 := ht.dispute c hc
  have k1 := hh.t1
  have ha0 := hT.arr0 c hc
  have ha1 := hn c hc
  have hd0 := (hT.dsp0 c hc).1
  have hd1 := (hT.dsp0 c hc).2
  have heq := ht.eql hc hT.pos
  rw [show decide (c = 0) = false by simpa using h0] at heq
  clear ht hh hn hT
  unfold Tr.snd
  unfold ptr at *
  generalize T.arr c = ar at *
  generalize T.app c = ap at *
  generalize T.dsp c = dp at *
  generalize A c = ac at *
  generalize A 0 = a0 at *
  cases ap with
  | true =>
    by_cases hd : dp = 2
    · have hdb : (dp != 2) = false := by simpa using hd
      rw [show ((true || decide (now - ar ≤ 120)) && !decide (dp = 2)) = false by simp [hd]]
      go_enter Yba.func9, Yba.ntmps9
      go_wp2
      go_ret
      exact ⟨rfl, rfl⟩
    · have hdb : (dp != 2) = true := by simpa using hd
      rw [show ((true || decide (now - ar ≤ 120)) && !decide (dp = 2)) = true by simp [hd]]
      go_enter Yba.func9, Yba.ntmps9
      go_wp2
      go_ret
      exact ⟨rfl, rfl⟩
  | false =>
    by_cases hs : 120 < now - ar
    · rw [show ((false || decide (now - ar ≤ 120)) && !decide (dp = 2)) = false by rw [show decide (now - ar ≤ 120) = false by simp; omega]; rfl]
      go_enter Yba.func9, Yba.ntmps9
      go_wp2
      go_ret
      exact ⟨rfl, rfl⟩
    · have hs' : now - ar ≤ 120 := by omega
      by_cases hd : dp = 2
      · have hdb : (dp != 2) = false := by simpa using hd
        rw [show ((false || decide (now - ar ≤ 120)) && !decide (dp = 2)) = false by simp [hd]]
        go_enter Yba.func9, Yba.ntmps9
        go_wp2
        go_ret
        exact ⟨rfl, rfl⟩
      · have hdb : (dp != 2) = true := by simpa using hd
        rw [show ((false || decide (now - ar ≤ 120)) && !decide (dp = 2)) = true by simp [hd, hs']]
        go_enter Yba.func9, Yba.ntmps9
        go_wp2
        go_ret
        exact ⟨rfl, rfl⟩

set_option maxRecDepth 100000 in
theorem allSound_any (A : Nat → Nat) (T : Tr) (tb sb : Nat) (lost : Int) (tips : Value) (now : Int) (w : World) (hT : T.Ok) (ht : TreeAt w A T) (hh : HeadAt w A tb sb lost tips)
    (hn : ∀ i, i < T.n → T.arr i ≤ now) (hn2 : now ≤ 1000000) :
    Calls Yba.prog 7 #[.pointer (some ⟨tb, 0, none⟩), .int .u64 now] w fun e w' => e = .returned (.bool (decide (lost = 0) && decide (now - T.arr 0 ≤ 120))) ∧ w' = w := by
  have k9 := ht.arrived 0 hT.pos
  have k0 := hh.t0
  have k1 := hh.t1
  have k19 := hh.s19
  have ha0 := hT.arr0 0 hT.pos
  have ha1 := hn 0 hT.pos
  clear ht hh hn hT
  unfold ptr at *
  generalize T.arr 0 = ar at *
  generalize A 0 = a0 at *
  by_cases hl : lost = 0
  · have hlb : (lost == 0) = true := by simpa using hl
    rw [show decide (lost = 0) = true by simpa using hl, Bool.true_and]
    go_enter Yba.func7, Yba.ntmps7
    go_wp2
    go_ret
    exact ⟨rfl, rfl⟩
  · have hlb : (lost == 0) = false := by simpa using hl
    rw [show decide (lost = 0) = false by simpa using hl, Bool.false_and]
    go_enter Yba.func7, Yba.ntmps7
    go_wp2
    go_ret
    exact ⟨rfl, rfl⟩

/-- Where the chain from x first comes to f or below it. -/
def upF (par : Nat → Nat) (f : Nat) : Nat → Nat → Nat
  | 0, x => x
  | k + 1, x => if f < x then upF par f k (par x) else x
def upTo (par : Nat → Nat) (f x : Nat) : Nat := upF par f x x
theorem upF_enough {par : Nat → Nat} {f n : Nat} (hpar : ∀ i, i ≠ 0 → i < n → par i < i) : ∀ k i, i ≤ k → i < n → upF par f k i = upF par f i i
  | 0, i, h, _ => by
    have : i = 0 := by omega
    subst this
    rfl
  | k + 1, 0, _, _ => by simp [upF]
  | k + 1, i + 1, h, hn => by
    simp only [upF]
    by_cases hf : f < i + 1
    · rw [if_pos hf, if_pos hf]
      have hp := hpar (i + 1) (by omega) hn
      rw [upF_enough hpar k (par (i + 1)) (by omega) (by omega), upF_enough hpar i (par (i + 1)) (by omega) (by omega)]
    · rw [if_neg hf, if_neg hf]
theorem upTo_le {par : Nat → Nat} {f x : Nat} (h : ¬ f < x) : upTo par f x = x := by
  unfold upTo
  cases x with
  | zero => rfl
  | succ x => simp only [upF]; rw [if_neg h]
theorem upTo_gt {par : Nat → Nat} {f n x : Nat} (hpar : ∀ i, i ≠ 0 → i < n → par i < i) (h : f < x) (hx : x < n) : upTo par f x = upTo par f (par x) := by
  unfold upTo
  cases x with
  | zero => omega
  | succ x =>
    have hp := hpar (x + 1) (by omega) hx
    simp only [upF]
    rw [if_pos h, upF_enough hpar x (par (x + 1)) (by omega) (by omega)]

/-- Everything is sound. -/
def allT : Nat → Bool := fun _ => true

set_option maxHeartbeats 1000000 in
set_option maxRecDepth 100000 in
theorem sbelow_any (A : Nat → Nat) (T : Tr) (tb sb : Nat) (lost : Int) (tips : Value) (b f : Nat) (w : World) (hT : T.Ok) (ht : TreeAt w A T) (hh : HeadAt w A tb sb lost tips) (hb : b < T.n) (_hf : f < T.n) :
    Calls Yba.prog 14 #[.pointer (some ⟨sb, 0, none⟩), ptr A b, .int .u64 f] w fun e w' => e = .returned (ptr A (upTo T.par f b)) ∧ w' = w := by
  have k2 := hh.s2
  have k0 := ht.slot 0 hT.pos
  have hlen := hT.len
  have HT : Hid (TreeAt w A T) := ht
  have HO : Hid T.Ok := hT
  clear ht hh hT
  unfold ptr at *
  go_enter Yba.func14, Yba.ntmps14
  go_wp2
  go_loopg [1] T.n (fun k s1 wr => ∃ x : Nat, x < T.n ∧ x ≤ k ∧ s1 = .pointer (some ⟨A x, 0, none⟩) ∧ upTo T.par f x = upTo T.par f b ∧ wr = w)
  case atStart => exact ⟨b, hb, by omega, rfl, rfl, rfl⟩
  case round =>
    obtain ⟨x, hx, hxk, rfl, hr, hwr⟩ := hrel
    have hwr' := hwr.symm
    subst hwr'
    have c0 := HT.out.slot x hx
    have c4 := HT.out.jump x hx
    have HR : Hid (upTo T.par f x = upTo T.par f b) := hr
    clear hr
    by_cases hlt : f < x
    · have hx0 : x ≠ 0 := by omega
      have c2 := HT.out.parent x hx hx0
      have hpx := HO.out.par x hx0 hx
      have d0 := HT.out.slot (T.par x) (by omega)
      have HP : Hid (upTo T.par f (T.par x) = upTo T.par f b) := by show _ = _; rw [← HR.out, upTo_gt (n := T.n) HO.out.par hlt hx]
      unfold ptr at c2
      generalize hpp : T.par x = p at *
      clear hpp
      by_cases hpf : f < p
      · go_wp2
        go_roundg p
        case measure => omega
        case rel => exact ⟨p, by omega, Nat.le_refl _, rfl, HP.out, rfl⟩
      · go_wp2
        go_roundg p
        case measure => omega
        case rel => exact ⟨p, by omega, Nat.le_refl _, rfl, HP.out, rfl⟩
    · go_wp2
      go_ret
      exact ⟨by rw [← HR.out, upTo_le hlt]; rfl, rfl⟩

theorem upTo_rch {par : Nat → Nat} {f n : Nat} (hpar : ∀ i, i ≠ 0 → i < n → par i < i) : ∀ k x, x ≤ k → x < n → decide (upTo par f x = f) = rch par allT f x ∧ upTo par f x < n
  | 0, x, hk, hx => by
    have : x = 0 := by omega
    subst this
    rw [upTo_le (by omega)]
    refine ⟨?_, hx⟩
    by_cases e : 0 = f
    · subst e; rw [rch_self]; simp
    · rw [rch_lt (by omega)]; simp [e]
  | k + 1, x, hk, hx => by
    by_cases hlt : f < x
    · have hp := hpar x (by omega) hx
      rw [upTo_gt hpar hlt hx, rch_gt hpar hlt hx]
      have := upTo_rch (f := f) hpar k (par x) (by omega) (by omega)
      simpa [allT] using this
    · rw [upTo_le hlt]
      refine ⟨?_, hx⟩
      by_cases e : x = f
      · subst e; rw [rch_self]; simp
      · rw [rch_lt (by omega)]; simp [e]

theorem below_drawn (B : Nat) (w : World) (n : Nat) : Below B w (w.drewN n) := ⟨rfl, rfl, rfl, Nat.le_refl _, fun _ _ => rfl⟩

set_option maxRecDepth 100000 in
theorem below_any (A : Nat → Nat) (T : Tr) (tb sb : Nat) (lost : Int) (tips : Value) (b f : Nat) (w : World) (hT : T.Ok) (ht : TreeAt w A T) (hh : HeadAt w A tb sb lost tips) (hb : b < T.n) (hf : f < T.n) :
    Calls Yba.prog 8 #[.pointer (some ⟨tb, 0, none⟩), ptr A b, .int .u64 f] w fun e w' => e = .returned (ptr A (upTo T.par f b)) ∧ ∃ q, w' = w.drewN q := by
  have hcon : ∀ n, _ := fun n => sbelow_any A T tb sb lost tips b f (w.drewN n) hT (ht.below (below_drawn _ w n)) (hh.below (below_drawn _ w n)) hb hf
  have k0 := hh.t0
  have k1 := hh.t1
  have k2 := ht.slot 0 hT.pos
  clear ht hh hT
  unfold ptr at *
  generalize A (upTo T.par f b) = au at *
  generalize A b = ab at *
  generalize A 0 = a0 at *
  go_enter Yba.func8, Yba.ntmps8
  go_wp2
  go_quiet ((go_at_call 14; exact Calls.quiet_of_same (hcon _)))
  go_wp2
  go_ret
  exact ⟨rfl, nq, rfl⟩
end Go.Proofs.Ybulkcibu
