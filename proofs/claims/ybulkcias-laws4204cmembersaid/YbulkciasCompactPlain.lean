namespace Go.Proofs.Ybulkcias

/-- What is kept of the first m elements of d: those at the places that 'keep' names. -/
def cz (keep : Nat → Bool) (d : Array Nat) (m : Nat) : List Nat := ((List.range m).filter keep).map fun j => d[j]!

theorem cz_zero (keep : Nat → Bool) (d : Array Nat) : cz keep d 0 = [] := rfl
theorem cz_keep {keep : Nat → Bool} {d : Array Nat} {m : Nat} (h : keep m = true) : cz keep d (m + 1) = cz keep d m ++ [d[m]!] := by
  simp [cz, List.range_succ, List.filter_append, h]
theorem cz_skip {keep : Nat → Bool} {d : Array Nat} {m : Nat} (h : keep m = false) : cz keep d (m + 1) = cz keep d m := by
  simp [cz, List.range_succ, List.filter_append, h]
theorem cz_all {keep : Nat → Bool} {d : Array Nat} {m : Nat} (h : ∀ j, j < m → keep j = true) : cz keep d m = (List.range m).map fun j => d[j]! := by
  unfold cz
  rw [List.filter_eq_self.2]
  intro j hj
  exact h j (List.mem_range.1 hj)

/-- The state of the second loop: m elements looked at, kk of them kept and laid in front. -/
structure CInv (keep : Nat → Bool) (d : Array Nat) (m kk : Nat) (dk : Array Nat) : Prop where
  size : dk.size = d.size
  len : (cz keep d m).length = kk
  lt : kk < m
  low : ∀ t, t < kk → dk[t]! = (cz keep d m)[t]!
  high : ∀ t, m - 1 ≤ t → dk[t]! = d[t]!

theorem CInv.start {keep : Nat → Bool} {d : Array Nat} {k : Nat} (h : ∀ j, j < k → keep j = true) (hk : keep k = false) : CInv keep d (k + 1) k d where
  size := rfl
  len := by rw [cz_skip hk, cz_all h]; simp
  lt := by omega
  low t ht := by
    rw [cz_skip hk, cz_all h, getElem!_pos ((List.range k).map fun j => d[j]!) t (by simpa using ht)]
    simp
  high _ _ := rfl

theorem CInv.skip {keep : Nat → Bool} {d : Array Nat} {m kk : Nat} {dk : Array Nat} (h : CInv keep d m kk dk) (hm : keep m = false) : CInv keep d (m + 1) kk dk where
  size := h.size
  len := by rw [cz_skip hm]; exact h.len
  lt := by have := h.lt; omega
  low t ht := by rw [cz_skip hm]; exact h.low t ht
  high t ht := h.high t (by omega)

theorem CInv.keep {keep : Nat → Bool} {d : Array Nat} {m kk : Nat} {dk : Array Nat} (h : CInv keep d m kk dk) (hs : m < d.size) (hm : keep m = true) : CInv keep d (m + 1) (kk + 1) (dk.setIfInBounds kk d[m]!) where
  size := by simp [h.size]
  len := by rw [cz_keep hm, List.length_append, h.len]; rfl
  lt := by have := h.lt; omega
  low t ht := by
    have hl := h.len
    have hlt := h.lt
    have hz := h.size
    rw [cz_keep hm]
    by_cases e : t = kk
    · subst e
      rw [getElem!_pos (dk.setIfInBounds t d[m]!) t (by simp; omega), Array.getElem_setIfInBounds, if_pos rfl, getElem!_pos (cz keep d m ++ [d[m]!]) t (by simp [hl]), List.getElem_append_right (by omega)]
      · simp [hl]
      · omega
    · have h1 := h.low t (by omega)
      rw [getElem!_pos (cz keep d m ++ [d[m]!]) t (by simp [hl]; omega), List.getElem_append_left (by omega), ← getElem!_pos (cz keep d m) t (by omega), ← h1]
      rw [getElem!_pos (dk.setIfInBounds kk d[m]!) t (by simp; omega), Array.getElem_setIfInBounds, if_neg (by omega), getElem!_pos dk t (by omega)]
  high t ht := by
    have hlt := h.lt
    have h1 := h.high t (by omega)
    by_cases hb : t < dk.size
    · rw [← h1, getElem!_pos _ t (by simpa using hb), Array.getElem_setIfInBounds, if_neg (by omega), getElem!_pos _ t hb]
    · rw [← h1, getElem!_neg _ t (by simpa using hb), getElem!_neg _ t hb]

end Go.Proofs.Ybulkcias
