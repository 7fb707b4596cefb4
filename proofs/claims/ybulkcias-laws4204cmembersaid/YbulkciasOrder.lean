import Derived.Lib.Bytealg
namespace Go.Proofs.Ybulkcias
open Go.Lib

theorem u8_trich (a b : UInt8) : a < b ∨ a = b ∨ b < a := by
  rcases Nat.lt_trichotomy a.toNat b.toNat with h | h | h
  · exact .inl (UInt8.lt_iff_toNat_lt.2 h)
  · exact .inr (.inl (UInt8.toNat_inj.1 h))
  · exact .inr (.inr (UInt8.lt_iff_toNat_lt.2 h))

/-- a stands ahead of b. -/
def ltB (a b : List UInt8) : Prop := compareBytes a b < 0

theorem cmp_range : ∀ a b : List UInt8, compareBytes a b = -1 ∨ compareBytes a b = 0 ∨ compareBytes a b = 1
  | [], [] => by simp [compareBytes]
  | [], _ :: _ => by simp [compareBytes]
  | _ :: _, [] => by simp [compareBytes]
  | a :: as, b :: bs => by
    unfold compareBytes
    split
    · simp
    · split
      · simp
      · exact cmp_range as bs
theorem cmp_self : ∀ a : List UInt8, compareBytes a a = 0
  | [] => rfl
  | a :: as => by
    unfold compareBytes
    rw [if_neg (UInt8.lt_irrefl a), if_neg (UInt8.lt_irrefl a)]
    exact cmp_self as
theorem cmp_swap : ∀ a b : List UInt8, compareBytes b a = - compareBytes a b
  | [], [] => rfl
  | [], _ :: _ => rfl
  | _ :: _, [] => rfl
  | a :: as, b :: bs => by
    unfold compareBytes
    rcases u8_trich a b with h | h | h
    · rw [if_pos h, if_neg (UInt8.lt_asymm h), if_pos h]; rfl
    · subst h
      simp only [UInt8.lt_irrefl, if_false]
      exact cmp_swap as bs
    · rw [if_pos h, if_neg (UInt8.lt_asymm h), if_pos h]
theorem cmp_eq_zero : ∀ {a b : List UInt8}, compareBytes a b = 0 → a = b
  | [], [], _ => rfl
  | [], _ :: _, h => by simp [compareBytes] at h
  | _ :: _, [], h => by simp [compareBytes] at h
  | a :: as, b :: bs, h => by
    unfold compareBytes at h
    rcases u8_trich a b with g | g | g
    · rw [if_pos g] at h; omega
    · subst g
      rw [if_neg (UInt8.lt_irrefl a), if_neg (UInt8.lt_irrefl a)] at h
      rw [cmp_eq_zero h]
    · rw [if_neg (UInt8.lt_asymm g), if_pos g] at h; omega
theorem ltB_trans : ∀ {a b c : List UInt8}, ltB a b → ltB b c → ltB a c
  | [], [], _, h, _ => by simp [ltB, compareBytes] at h
  | _ :: _, [], _, h, _ => by simp [ltB, compareBytes] at h
  | _, _ :: _, [], _, h => by simp [ltB, compareBytes] at h
  | [], _ :: _, _ :: _, _, _ => by simp [ltB, compareBytes]
  | a :: as, b :: bs, c :: cs, h, k => by
    unfold ltB compareBytes at *
    rcases u8_trich a b with g | g | g
    · rcases u8_trich b c with f | f | f
      · rw [if_pos (UInt8.lt_trans g f)]; omega
      · subst f; rw [if_pos g]; omega
      · rw [if_neg (UInt8.lt_asymm f), if_pos f] at k; omega
    · subst g
      rw [if_neg (UInt8.lt_irrefl a), if_neg (UInt8.lt_irrefl a)] at h
      rcases u8_trich a c with f | f | f
      · rw [if_pos f]; omega
      · subst f
        rw [if_neg (UInt8.lt_irrefl a), if_neg (UInt8.lt_irrefl a)] at k ⊢
        exact ltB_trans (a := as) (b := bs) (c := cs) h k
      · rw [if_neg (UInt8.lt_asymm f), if_pos f] at k; omega
    · rw [if_neg (UInt8.lt_asymm g), if_pos g] at h; omega

theorem ltB_irrefl (a : List UInt8) : ¬ ltB a a := by unfold ltB; rw [cmp_self]; omega
theorem ltB_asymm {a b : List UInt8} (h : ltB a b) : ¬ ltB b a := by unfold ltB at *; rw [cmp_swap]; omega
theorem ltB_total {a b : List UInt8} (h : ¬ ltB b a) (hne : a ≠ b) : ltB a b := by
  unfold ltB at *
  rw [cmp_swap] at h
  rcases cmp_range a b with g | g | g
  · omega
  · exact absurd (cmp_eq_zero g) hne
  · omega
theorem leB_trans {a b c : List UInt8} (h : ¬ ltB b a) (k : ¬ ltB c b) : ¬ ltB c a := by
  intro hc
  by_cases e : a = b
  · subst e; exact k hc
  · exact k (ltB_trans hc (ltB_total h e))
theorem leB_lt {a b c : List UInt8} (h : ¬ ltB b a) (k : ltB b c) : ltB a c := by
  by_cases e : a = b
  · subst e; exact k
  · exact ltB_trans (ltB_total h e) k

/-- What is kept of an ascending run, each that differs from the one ahead of it: strictly ascending, and nothing is lost. -/
theorem kept_sorted (f : Nat → List UInt8) (keep : Nat → Bool) (hk : ∀ j, keep j = (j == 0 || !(f j == f (j - 1)))) : ∀ n, (∀ i j, i < j → j < n → ¬ ltB (f j) (f i)) →
    (((List.range n).filter keep).map f).Pairwise ltB ∧ ∀ x, x ∈ ((List.range n).filter keep).map f ↔ ∃ j, j < n ∧ f j = x
  | 0, _ => by simp
  | n + 1, hs => by
    obtain ⟨h1, h2⟩ := kept_sorted f keep hk n (fun i j hi hj => hs i j hi (by omega))
    rw [List.range_succ, List.filter_append, List.map_append]
    cases hkn : keep n with
    | true =>
      have e : ((List.filter keep [n]).map f) = [f n] := by simp [hkn]
      rw [e]
      refine ⟨?_, fun x => ?_⟩
      · rw [List.pairwise_append]
        refine ⟨h1, by simp, fun a ha b hb => ?_⟩
        simp at hb
        subst hb
        obtain ⟨j, hj, rfl⟩ := (h2 a).1 ha
        rw [hk] at hkn
        have hn0 : (n == 0) = false := by simp; omega
        rw [hn0] at hkn
        have hne : f (n - 1) ≠ f n := by
          intro e
          rw [e] at hkn
          simp at hkn
        have hlt : ltB (f (n - 1)) (f n) := ltB_total (hs (n - 1) n (by omega) (by omega)) hne
        by_cases e : j = n - 1
        · subst e; exact hlt
        · exact leB_lt (hs j (n - 1) (by omega) (by omega)) hlt
      · rw [List.mem_append, h2, List.mem_singleton]
        constructor
        · rintro (⟨j, hj, rfl⟩ | rfl)
          · exact ⟨j, by omega, rfl⟩
          · exact ⟨n, by omega, rfl⟩
        · rintro ⟨j, hj, rfl⟩
          by_cases e : j = n
          · subst e; exact .inr rfl
          · exact .inl ⟨j, by omega, rfl⟩
    | false =>
      have e : ((List.filter keep [n]).map f) = [] := by simp [hkn]
      rw [e, List.append_nil]
      refine ⟨h1, fun x => ?_⟩
      rw [h2]
      have hk' := hkn
      rw [hk] at hk'
      simp at hk'
      obtain ⟨hn0, he⟩ := hk'
      constructor
      · rintro ⟨j, hj, rfl⟩
        exact ⟨j, by omega, rfl⟩
      · rintro ⟨j, hj, rfl⟩
        by_cases e : j = n
        · subst e
          exact ⟨j - 1, by omega, he.symm⟩
        · exact ⟨j, by omega, rfl⟩

/-- Two strictly ascending lists with the same members are one. -/
theorem sorted_unique : ∀ (l m : List (List UInt8)), l.Pairwise ltB → m.Pairwise ltB → (∀ x, x ∈ l ↔ x ∈ m) → l = m
  | [], [], _, _, _ => rfl
  | [], y :: ys, _, _, h => by have := (h y).2 (by simp); simp at this
  | x :: xs, [], _, _, h => by have := (h x).1 (by simp); simp at this
  | x :: xs, y :: ys, hl, hm, h => by
    rw [List.pairwise_cons] at hl hm
    have exy : x = y := by
      have h1 := (h x).1 (by simp)
      have h2 := (h y).2 (by simp)
      rw [List.mem_cons] at h1 h2
      rcases h1 with h1 | h1
      · exact h1
      · rcases h2 with h2 | h2
        · exact h2.symm
        · exact absurd (hm.1 x h1) (ltB_asymm (hl.1 y h2))
    subst exy
    rw [sorted_unique xs ys hl.2 hm.2 (fun z => ?_)]
    have h0 := h z
    rw [List.mem_cons, List.mem_cons] at h0
    constructor
    · intro hz
      rcases h0.1 (.inr hz) with e | e
      · subst e; exact absurd (hl.1 z hz) (ltB_irrefl z)
      · exact e
    · intro hz
      rcases h0.2 (.inr hz) with e | e
      · subst e; exact absurd (hm.1 z hz) (ltB_irrefl z)
      · exact e

/-- WHAT THE SEARCH COMES TO: of a strictly ascending list: how many stand ahead of h; the one at that place is h, if h is there at all. -/
theorem search_found : ∀ (l : List (List UInt8)) (h : List UInt8), l.Pairwise ltB →
    (decide (l.countP (fun x => decide (compareBytes x h < 0)) < l.length) && decide (compareBytes (l.getD (l.countP (fun x => decide (compareBytes x h < 0))) []) h = 0)) = decide (h ∈ l)
  | [], h, _ => by simp
  | x :: xs, h, hp => by
    rw [List.pairwise_cons] at hp
    by_cases hx : compareBytes x h < 0
    · have ih := search_found xs h hp.2
      have hc : (x :: xs).countP (fun x => decide (compareBytes x h < 0)) = xs.countP (fun x => decide (compareBytes x h < 0)) + 1 := List.countP_cons_of_pos (by simpa using hx)
      have hne : h ≠ x := by intro e; subst e; rw [cmp_self] at hx; omega
      rw [hc, List.getD_cons_succ]
      simp only [List.length_cons, Nat.add_lt_add_iff_right, List.mem_cons, hne, false_or]
      exact ih
    · have h0 : xs.countP (fun x => decide (compareBytes x h < 0)) = 0 := by
        rw [List.countP_eq_zero]
        intro y hy
        have := hp.1 y hy
        intro hyh
        simp at hyh
        exact hx (ltB_trans this hyh)
      have hc : (x :: xs).countP (fun x => decide (compareBytes x h < 0)) = 0 := by
        rw [List.countP_cons_of_neg (by simpa using hx)]; exact h0
      rw [hc]
      simp only [List.getD_cons_zero]
      by_cases e : h = x
      · subst e
        simp [cmp_self]
      · have hz : compareBytes x h ≠ 0 := fun hz => e (cmp_eq_zero hz).symm
        have hm : h ∉ x :: xs := by
          rw [List.mem_cons]
          rintro (h1 | h1)
          · exact e h1
          · exact hx (hp.1 h h1)
        simp [hz, hm]
end Go.Proofs.Ybulkcias
