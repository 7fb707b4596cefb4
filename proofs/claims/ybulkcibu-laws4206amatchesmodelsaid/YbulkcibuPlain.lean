namespace Go.Proofs.Ybulkcibu

/-- The greatest c < m, c ≥ 1, whose parent is p. -/
def lastChild (par : Nat → Nat) (p : Nat) : Nat → Option Nat
  | 0 => none
  | m + 1 => if m ≠ 0 ∧ par m = p then some m else lastChild par p m

theorem lastChild_hit {par : Nat → Nat} {p m : Nat} (h : m ≠ 0) (hp : par m = p) : lastChild par p (m + 1) = some m := by simp [lastChild, h, hp]
theorem lastChild_miss {par : Nat → Nat} {p m : Nat} (h : ¬ (m ≠ 0 ∧ par m = p)) : lastChild par p (m + 1) = lastChild par p m := by simp only [lastChild]; rw [if_neg h]
theorem lastChild_some {par : Nat → Nat} {p : Nat} : ∀ {m c : Nat}, lastChild par p m = some c → c < m ∧ c ≠ 0 ∧ par c = p ∧ ∀ t, c < t → t < m → par t ≠ p
  | 0, c, h => by simp [lastChild] at h
  | m + 1, c, h => by
    by_cases hm : m ≠ 0 ∧ par m = p
    · rw [lastChild_hit hm.1 hm.2] at h
      simp at h
      subst h
      exact ⟨Nat.lt_succ_self _, hm.1, hm.2, fun t h1 h2 => by omega⟩
    · rw [lastChild_miss hm] at h
      obtain ⟨h1, h2, h3, h4⟩ := lastChild_some h
      refine ⟨by omega, h2, h3, fun t h5 h6 => ?_⟩
      by_cases e : t = m
      · subst e
        intro hp
        exact hm ⟨by omega, hp⟩
      · exact h4 t h5 (by omega)
theorem lastChild_none {par : Nat → Nat} {p : Nat} : ∀ {m : Nat}, lastChild par p m = none → ∀ t, t ≠ 0 → t < m → par t ≠ p
  | 0, _, t, _, h => by omega
  | m + 1, h, t, ht, hm => by
    by_cases hc : m ≠ 0 ∧ par m = p
    · rw [lastChild_hit hc.1 hc.2] at h
      simp at h
    · rw [lastChild_miss hc] at h
      by_cases e : t = m
      · subst e
        intro hp
        exact hc ⟨ht, hp⟩
      · exact lastChild_none h t ht (by omega)

/-- The sound children of b from m on, the last first. -/
def kids (par : Nat → Nat) (snd : Nat → Bool) (b n m : Nat) : List Nat := ((List.range n).filter fun c => decide (m ≤ c) && decide (c ≠ 0) && decide (par c = b) && snd c).reverse

theorem kids_top (par : Nat → Nat) (snd : Nat → Bool) (b n : Nat) : kids par snd b n n = [] := by
  unfold kids
  rw [List.reverse_eq_nil_iff, List.filter_eq_nil_iff]
  intro c hc
  have := List.mem_range.1 hc
  simp
  omega
theorem mem_kids {par : Nat → Nat} {snd : Nat → Bool} {b n m c : Nat} : c ∈ kids par snd b n m ↔ c < n ∧ m ≤ c ∧ c ≠ 0 ∧ par c = b ∧ snd c = true := by
  unfold kids
  simp [List.mem_filter, and_assoc]
theorem filter_range_one (n m : Nat) (P Q : Nat → Bool) (hm : m < n) (h : ∀ c, P c = (Q c || decide (c = m))) (hQ : ∀ c, c ≤ m → Q c = false) : (List.range n).filter P = m :: (List.range n).filter Q := by
  have e : List.range n = List.range m ++ (m :: (List.range (n - m - 1)).map (m + 1 + ·)) := by
    have h1 : n = m + (1 + (n - m - 1)) := by omega
    have h2 : List.range n = List.range (m + (1 + (n - m - 1))) := by rw [← h1]
    rw [h2, List.range_add, List.range_add]
    simp [Nat.add_assoc]
  rw [e, List.filter_append, List.filter_append]
  have f1 : (List.range m).filter P = [] := by
    rw [List.filter_eq_nil_iff]
    intro c hc
    have := List.mem_range.1 hc
    rw [h c, hQ c (by omega)]
    simp
    omega
  have f2 : (List.range m).filter Q = [] := by
    rw [List.filter_eq_nil_iff]
    intro c hc
    have := List.mem_range.1 hc
    rw [hQ c (by omega)]
    simp
  rw [f1, f2, List.nil_append, List.nil_append, List.filter_cons, List.filter_cons, hQ m (Nat.le_refl _), h m]
  simp only [decide_true, Bool.or_true, if_true, Bool.false_eq_true, if_false]
  congr 1
  apply List.filter_congr
  intro c hc
  obtain ⟨t, _, rfl⟩ := List.mem_map.1 hc
  rw [h]
  have : decide (m + 1 + t = m) = false := by simp; omega
  rw [this, Bool.or_false]
theorem kids_step {par : Nat → Nat} {snd : Nat → Bool} {b n m c : Nat} (hm : m ≤ n) (h : lastChild par b m = some c) : kids par snd b n c = kids par snd b n m ++ (if snd c = true then [c] else []) := by
  obtain ⟨h1, h2, h3, h4⟩ := lastChild_some h
  unfold kids
  cases hs : snd c with
  | true =>
    rw [if_pos rfl]
    rw [filter_range_one n c _ (fun x => decide (m ≤ x) && decide (x ≠ 0) && decide (par x = b) && snd x) (by omega)]
    · rw [List.reverse_cons]
    · intro x
      by_cases e : x = c
      · subst e
        simp [h2, h3, hs]
      · have e' : decide (x = c) = false := by simpa using e
        rw [e', Bool.or_false]
        by_cases hx : m ≤ x
        · have : c ≤ x := by omega
          simp [hx, this]
        · have : decide (m ≤ x) = false := by simpa using hx
          rw [this]
          simp only [Bool.false_and]
          by_cases hcx : c ≤ x
          · have := h4 x (by omega) (by omega)
            simp [this]
          · simp [hcx]
    · intro x hx
      have : ¬ m ≤ x := by omega
      simp [this]
  | false =>
    rw [if_neg (by simp), List.append_nil]
    congr 1
    apply List.filter_congr
    intro x hx
    by_cases e : x = c
    · subst e
      have : ¬ m ≤ x := by omega
      simp [hs]
    · by_cases hx : m ≤ x
      · have : c ≤ x := by omega
        simp [hx, this]
      · have : decide (m ≤ x) = false := by simpa using hx
        rw [this]
        simp only [Bool.false_and]
        by_cases hcx : c ≤ x
        · have := h4 x (by omega) (by omega)
          simp [this]
        · simp [hcx]
theorem kids_none {par : Nat → Nat} {snd : Nat → Bool} {b n m : Nat} (h : lastChild par b m = none) : kids par snd b n m = kids par snd b n 0 := by
  unfold kids
  congr 1
  apply List.filter_congr
  intro x hx
  by_cases hmx : m ≤ x
  · simp [hmx]
  · have : decide (m ≤ x) = false := by simpa using hmx
    rw [this]
    by_cases h0 : x = 0
    · simp [h0]
    · have := lastChild_none h x h0 (by omega)
      simp [this]
theorem kids_nodup (par : Nat → Nat) (snd : Nat → Bool) (b n m : Nat) : (kids par snd b n m).Nodup := by
  unfold kids
  rw [(List.reverse_perm _).nodup_iff]
  exact List.Pairwise.filter _ List.nodup_range

/-- i is reached from f through sound blocks. -/
def rchF (par : Nat → Nat) (snd : Nat → Bool) (f : Nat) : Nat → Nat → Bool
  | 0, i => i == f
  | k + 1, i => if i = f then true else if f < i then rchF par snd f k (par i) && snd i else false
def rch (par : Nat → Nat) (snd : Nat → Bool) (f i : Nat) : Bool := rchF par snd f i i

section
variable {par : Nat → Nat} {snd : Nat → Bool} {f n : Nat} 
theorem rchF_enough (hpar : ∀ i, i ≠ 0 → i < n → par i < i) : ∀ k i, i ≤ k → i < n → rchF par snd f k i = rchF par snd f i i
  | 0, i, h, _ => by
    have : i = 0 := by omega
    subst this
    rfl
  | k + 1, 0, _, _ => by
    simp only [rchF]
    by_cases e : 0 = f
    · simp [e]
    · simp [e]
  | k + 1, i + 1, h, hn => by
    simp only [rchF]
    by_cases e : i + 1 = f
    · simp [e]
    · rw [if_neg e, if_neg e]
      by_cases hf : f < i + 1
      · rw [if_pos hf, if_pos hf]
        have hp := hpar (i + 1) (by omega) hn
        rw [rchF_enough hpar k (par (i + 1)) (by omega) (by omega), rchF_enough hpar i (par (i + 1)) (by omega) (by omega)]
      · rw [if_neg hf, if_neg hf]
theorem rch_self : rch par snd f f = true := by
  unfold rch
  cases f <;> simp [rchF]
theorem rch_lt {i : Nat} (h : i < f) : rch par snd f i = false := by
  unfold rch
  cases i with
  | zero => simp [rchF]; omega
  | succ i => simp only [rchF]; rw [if_neg (by omega), if_neg (by omega)]
theorem rch_gt (hpar : ∀ i, i ≠ 0 → i < n → par i < i) {i : Nat} (h : f < i) (hn : i < n) : rch par snd f i = (rch par snd f (par i) && snd i) := by
  unfold rch
  cases i with
  | zero => omega
  | succ i =>
    have hp := hpar (i + 1) (by omega) hn
    simp only [rchF]
    rw [if_neg (by omega), if_pos h, rchF_enough hpar i (par (i + 1)) (by omega) (by omega)]
end

/-- A block has a sound child. -/
def hasKid (par : Nat → Nat) (snd : Nat → Bool) (n b : Nat) : Bool := !(kids par snd b n 0).isEmpty
/-- What leafBlocks is to give. -/
def leavesOf (par : Nat → Nat) (snd : Nat → Bool) (n f : Nat) : List Nat := (List.range n).filter fun i => rch par snd f i && !hasKid par snd n i

/-- THE STATE OF THE WALK OVER THE TREE: done: the blocks that were taken off the stack, in that order. -/
structure Dfs (par : Nat → Nat) (snd : Nat → Bool) (n f : Nat) (done stack : List Nat) : Prop where
  nd : (done ++ stack).Nodup
  sub : ∀ i ∈ done ++ stack, i < n ∧ rch par snd f i = true
  root : f ∈ done ++ stack
  up : ∀ i ∈ done ++ stack, i ≠ f → par i ∈ done
  down : ∀ i, i < n → rch par snd f i = true → i ≠ f → par i ∈ done → i ∈ done ++ stack

section
variable {par : Nat → Nat} {snd : Nat → Bool} {f n : Nat}
theorem Dfs.start (hf : f < n) : Dfs par snd n f [] [f] where
  nd := by simp
  sub i hi := by simp at hi; subst hi; exact ⟨hf, rch_self⟩
  root := by simp
  up i hi hne := by simp at hi; exact absurd hi hne
  down i _ _ _ h := by simp at h

theorem Dfs.step (hpar : ∀ i, i ≠ 0 → i < n → par i < i) {done stack : List Nat} {b : Nat} (h : Dfs par snd n f done (stack ++ [b])) : Dfs par snd n f (done ++ [b]) (stack ++ kids par snd b n 0) := by
  have hnd := h.nd
  have hb : b ∈ done ++ (stack ++ [b]) := by simp
  obtain ⟨hbn, hbr⟩ := h.sub b hb
  have hbd : b ∉ done := by
    intro hm
    rw [List.nodup_append] at hnd
    exact hnd.2.2 b hm b (by simp) rfl
  have hkid : ∀ c, c ∈ kids par snd b n 0 → c ∉ done ++ (stack ++ [b]) := by
    intro c hc hm
    obtain ⟨h1, _, h2, h3, _⟩ := mem_kids.1 hc
    have hlt := hpar c h2 h1
    by_cases e : c = f
    · subst e
      rw [h3] at hlt
      have := rch_lt (par := par) (snd := snd) hlt
      rw [hbr] at this
      cases this
    · have := h.up c hm e
      rw [h3] at this
      exact hbd this
  have hkr : ∀ c, c ∈ kids par snd b n 0 → c < n ∧ rch par snd f c = true := by
    intro c hc
    obtain ⟨h1, _, h2, h3, h4⟩ := mem_kids.1 hc
    have hlt := hpar c h2 h1
    rw [h3] at hlt
    have hfb : f ≤ b := by
      rcases Nat.lt_or_ge b f with g | g
      · have := rch_lt (par := par) (snd := snd) g
        rw [hbr] at this
        cases this
      · exact g
    refine ⟨h1, ?_⟩
    rw [rch_gt hpar (by omega) h1, h3, hbr, h4]
    rfl
  have hperm : ∀ i, i ∈ done ++ [b] ++ (stack ++ kids par snd b n 0) ↔ i ∈ done ++ (stack ++ [b]) ∨ i ∈ kids par snd b n 0 := by
    intro i
    simp only [List.mem_append, List.mem_singleton]
    constructor
    · rintro ((h | h) | (h | h)) <;> simp [h]
    · rintro ((h | (h | h)) | h) <;> simp [h]
  refine ⟨?_, fun i hi => ?_, (hperm f).2 (.inl h.root), fun i hi hne => ?_, fun i hi hr hne hd => ?_⟩
  · have hp : List.Perm (done ++ [b] ++ (stack ++ kids par snd b n 0)) ((done ++ (stack ++ [b])) ++ kids par snd b n 0) := by
      have : List.Perm ([b] ++ stack) (stack ++ [b]) := List.perm_append_comm
      simpa [List.append_assoc] using (List.Perm.append_left done (List.Perm.append_right (kids par snd b n 0) this))
    rw [hp.nodup_iff, List.nodup_append]
    exact ⟨hnd, kids_nodup _ _ _ _ _, fun x hx y hy e => by subst e; exact hkid x hy hx⟩
  · rcases (hperm i).1 hi with g | g
    · exact h.sub i g
    · exact hkr i g
  · rcases (hperm i).1 hi with g | g
    · exact List.mem_append_left _ (h.up i g hne)
    · rw [(mem_kids.1 g).2.2.2.1]
      simp
  · rw [hperm]
    rcases List.mem_append.1 hd with g | g
    · exact .inl (h.down i hi hr hne g)
    · simp at g
      right
      have hfi : f < i := by
        rcases Nat.lt_trichotomy i f with k | k | k
        · have := rch_lt (par := par) (snd := snd) k
          rw [hr] at this
          cases this
        · exact absurd k hne
        · exact k
      rw [rch_gt hpar hfi hi] at hr
      simp at hr
      exact mem_kids.2 ⟨hi, Nat.zero_le _, by omega, g, hr.2⟩

/-- The stack is empty: all that can be reached is done. -/
theorem Dfs.all (hpar : ∀ i, i ≠ 0 → i < n → par i < i) {done : List Nat} (h : Dfs par snd n f done []) : ∀ k i, i < k → i < n → rch par snd f i = true → i ∈ done
  | 0, i, hk, _, _ => by omega
  | k + 1, i, hk, hi, hr => by
    by_cases e : i = f
    · subst e
      simpa using h.root
    · have hfi : f < i := by
        rcases Nat.lt_trichotomy i f with g | g | g
        · have := rch_lt (par := par) (snd := snd) g
          rw [hr] at this
          cases this
        · exact absurd g e
        · exact g
      have hr' := hr
      rw [rch_gt hpar hfi hi] at hr'
      simp at hr'
      have hp := hpar i (by omega) hi
      have := h.down i hi hr e (h.all hpar k (par i) (by omega) (by omega) hr'.1)
      simpa using this
end

theorem len_le_of_nodup : ∀ {n : Nat} {l : List Nat}, l.Nodup → (∀ i ∈ l, i < n) → l.length ≤ n
  | 0, l, _, hl => by
    cases l with
    | nil => simp
    | cons x l => have := hl x (by simp); omega
  | n + 1, l, h, hl => by
    have ih := len_le_of_nodup (n := n) (l := l.erase n) (h.erase n) (fun i hi => by
      have := (h.mem_erase_iff).1 hi
      have := hl i this.2
      omega)
    have := List.length_erase (a := n) (l := l)
    split at this <;> omega

/-- Two strictly ascending lists with the same members are one. -/
theorem asc_unique : ∀ (l m : List Nat), l.Pairwise (· < ·) → m.Pairwise (· < ·) → (∀ x, x ∈ l ↔ x ∈ m) → l = m
  | [], [], _, _, _ => rfl
  | [], y :: ys, _, _, h => by have := (h y).2 (by simp); simp at this
  | x :: xs, [], _, _, h => by have := (h x).1 (by simp); simp at this
  | x :: xs, y :: ys, hl, hm, h => by
    rw [List.pairwise_cons] at hl hm
    have exy : x = y := by
      have h1 := (h x).1 (by simp)
      have h2 := (h y).2 (by simp)
      rw [List.mem_cons] at h1 h2
      rcases h1 with h1 | h1
      · exact h1
      · rcases h2 with h2 | h2
        · exact h2.symm
        · have := hm.1 x h1
          have := hl.1 y h2
          omega
    subst exy
    rw [asc_unique xs ys hl.2 hm.2 (fun z => ?_)]
    have h0 := h z
    rw [List.mem_cons, List.mem_cons] at h0
    constructor
    · intro hz
      rcases h0.1 (.inr hz) with e | e
      · subst e; have := hl.1 z hz; omega
      · exact e
    · intro hz
      rcases h0.2 (.inr hz) with e | e
      · subst e; have := hm.1 z hz; omega
      · exact e
theorem leavesOf_asc (par : Nat → Nat) (snd : Nat → Bool) (n f : Nat) : (leavesOf par snd n f).Pairwise (· < ·) := List.Pairwise.filter _ List.pairwise_lt_range

/-- A sorted arrangement of the leaves is the list of the leaves. -/
theorem sorted_leaves {par : Nat → Nat} {snd : Nat → Bool} {n f : Nat} {l : List Nat} (hs : l.Pairwise (· < ·)) (hm : ∀ i, i ∈ l ↔ i < n ∧ rch par snd f i = true ∧ hasKid par snd n i = false) : l = leavesOf par snd n f := by
  refine asc_unique _ _ hs (leavesOf_asc par snd n f) fun x => ?_
  rw [hm]
  unfold leavesOf
  simp [List.mem_filter]
end Go.Proofs.Ybulkcibu
