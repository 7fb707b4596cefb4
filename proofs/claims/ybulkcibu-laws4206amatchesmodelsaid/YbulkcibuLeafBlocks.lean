import Derived.Test.YbulkcibuDfs
namespace Go.Proofs.Ybulkcibu
open Go.RowKit

theorem asc_of_sorted {l : List Nat} (hs : l.Pairwise (fun x y => x ≤ y)) (hn : l.Nodup) : l.Pairwise (· < ·) := by
  have := List.Pairwise.and hs hn
  exact this.imp fun ⟨h1, h2⟩ => by omega

theorem hasKid_false {par : Nat → Nat} {snd : Nat → Bool} {n b : Nat} : hasKid par snd n b = false ↔ ∀ c, c < n → c ≠ 0 → par c = b → snd c = false := by
  unfold hasKid
  rw [Bool.not_eq_false', List.isEmpty_iff]
  constructor
  · intro h c h1 h2 h3
    cases hs : snd c with
    | false => rfl
    | true =>
      have : c ∈ kids par snd b n 0 := mem_kids.2 ⟨h1, Nat.zero_le _, h2, h3, hs⟩
      rw [h] at this
      simp at this
  · intro h
    rw [List.eq_nil_iff_forall_not_mem]
    intro c hc
    obtain ⟨h1, _, h2, h3, h4⟩ := mem_kids.1 hc
    rw [h c h1 h2 h3] at h4
    cases h4
theorem lastChild_none_iff {par : Nat → Nat} {n b : Nat} : lastChild par b n = none ↔ ∀ c, c < n → c ≠ 0 → par c ≠ b := by
  constructor
  · intro h c h1 h2
    exact lastChild_none h c h2 h1
  · intro h
    cases hc : lastChild par b n with
    | none => rfl
    | some c =>
      obtain ⟨h1, h2, h3, _⟩ := lastChild_some hc
      exact absurd h3 (h c h1 h2)
theorem rch_allT {par : Nat → Nat} {snd : Nat → Bool} {n f : Nat} (hpar : ∀ i, i ≠ 0 → i < n → par i < i) (hs : ∀ i, i < n → i ≠ 0 → snd i = true) : ∀ k x, x ≤ k → x < n → rch par snd f x = rch par allT f x
  | 0, x, hk, hx => by
    have : x = 0 := by omega
    subst this
    by_cases e : 0 = f
    · subst e; rw [rch_self, rch_self]
    · rw [rch_lt (by omega), rch_lt (by omega)]
  | k + 1, x, hk, hx => by
    rcases Nat.lt_trichotomy x f with h | h | h
    · rw [rch_lt h, rch_lt h]
    · subst h; rw [rch_self, rch_self]
    · have hp := hpar x (by omega) hx
      rw [rch_gt hpar h hx, rch_gt hpar h hx, rch_allT hpar hs k (par x) (by omega) (by omega), hs x hx (by omega)]
      rfl

theorem leafBlocks_any (hS : SortSaid) (A : Nat → Nat) (T : Tr) (tb sb : Nat) (lost : Int) (tv : Value) (tips : List Nat) (now : Int) (f : Nat) (w : World) (hT : T.Ok) (ht : TreeAt w A T) (hh : HeadAt w A tb sb lost tv) (hf : f < T.n)
    (hn : ∀ i, i < T.n → T.arr i ≤ now) (hn2 : now ≤ 1000000) (htips : RowAt w A tv tips) (htm : ∀ i, i ∈ tips ↔ i < T.n ∧ lastChild T.par i T.n = none) (htd : tips.Nodup) (hlost : lost = 0 → ∀ i, i < T.n → i ≠ 0 → T.dsp i ≠ 2) :
    Calls Yba.prog 5 #[.pointer (some ⟨tb, 0, none⟩), ptr A f, .int .u64 now] w fun e w' => ∃ v, e = .returned v ∧ RowAt w' A v (leavesOf T.par (T.snd now) T.n f) ∧ Below w.heap.size w w' := by
  cases hall : (decide (lost = 0) && decide (now - T.arr 0 ≤ 120)) with
  | true =>
    have htl : ∀ i ∈ tips, i < T.n := fun i hi => ((htm i).1 hi).1
    have htp : 0 < tips.length := by
      have hm : T.n - 1 ∈ tips := (htm _).2 ⟨by have := hT.pos; omega, lastChild_none_iff.2 fun c h1 h2 h3 => by
        have := hT.par c h2 h1
        omega⟩
      exact List.length_pos_of_mem hm
    have hlen := Nat.le_trans (len_le_of_nodup htd htl) hT.len
    refine (leaves_tips hS A T tb sb lost tv tips now f w hT ht hh hf hn hn2 htips htl hlen htp hall).mono ?_
    rintro e w' ⟨v, L, rfl, hrow, hb, hp, hs⟩
    refine ⟨v, rfl, ?_, hb⟩
    simp only [Bool.and_eq_true, decide_eq_true_eq] at hall
    have hsnd : ∀ i, i < T.n → i ≠ 0 → T.snd now i = true := fun i h1 h2 => by
      have h3 := hT.up i h1
      have h4 := hlost hall.1 i h1 h2
      unfold Tr.snd
      simp [h4]
      exact .inr (by omega)
    have hnd : (tips.filter fun b => rch T.par allT f b).Nodup := List.Pairwise.filter _ htd
    have : L = leavesOf T.par (T.snd now) T.n f := by
      refine sorted_leaves (asc_of_sorted hs (hp.nodup_iff.2 hnd)) fun i => ?_
      rw [hp.mem_iff, List.mem_filter, htm]
      constructor
      · rintro ⟨⟨h1, h2⟩, h3⟩
        refine ⟨h1, by rw [rch_allT hT.par hsnd i i (Nat.le_refl _) h1]; exact h3, hasKid_false.2 fun c g1 g2 g3 => absurd g3 (lastChild_none_iff.1 h2 c g1 g2)⟩
      · rintro ⟨h1, h2, h3⟩
        rw [rch_allT hT.par hsnd i i (Nat.le_refl _) h1] at h2
        refine ⟨⟨h1, lastChild_none_iff.2 fun c g1 g2 g3 => ?_⟩, h2⟩
        have := hasKid_false.1 h3 c g1 g2 g3
        rw [hsnd c g1 g2] at this
        cases this
    rw [← this]
    exact hrow
  | false =>
    refine (leaves_dfs hS A T tb sb lost tv now f w hT ht hh hf hn hn2 hall).mono ?_
    rintro e w' ⟨v, L, done, rfl, hrow, hb, hd, hp, hs⟩
    refine ⟨v, rfl, ?_, hb⟩
    have hnd : (done.filter fun i => !hasKid T.par (T.snd now) T.n i).Nodup := List.Pairwise.filter _ (show done.Nodup by simpa using hd.nd)
    have : L = leavesOf T.par (T.snd now) T.n f := by
      refine sorted_leaves (asc_of_sorted hs (hp.nodup_iff.2 hnd)) fun i => ?_
      rw [hp.mem_iff, List.mem_filter]
      constructor
      · rintro ⟨h1, h2⟩
        obtain ⟨h3, h4⟩ := hd.sub i (by simpa using h1)
        exact ⟨h3, h4, by simpa using h2⟩
      · rintro ⟨h1, h2, h3⟩
        exact ⟨hd.all hT.par (i + 1) i (Nat.lt_succ_self _) h1 h2, by simp [h3]⟩
    rw [← this]
    exact hrow
end Go.Proofs.Ybulkcibu
