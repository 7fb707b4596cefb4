import Derived.Test.YbulkcibgSpan
import Derived.Laws.CopyOwn
import Derived.OwnWalk
import Derived.Maps.AppendAt
namespace Go.Proofs.Ybulkcibg
open Go.RowKit

/-- A slice of integers that came in: nil, or a row of 'cap' cells. -/
def IsRow (k : IntKind) (w : World) (a : Option Addr) (len cap : Nat) (zs : List Int) : Prop :=
  (a = none ∧ len = 0 ∧ cap = 0 ∧ zs = []) ∨
  ∃ x, a = some x ∧ len ≤ cap ∧ cap ≤ maxLen ∧ zs.length = cap ∧ (∀ i, i < zs.length → w.cell? (x.add i) = some (.int k (zs.getD i 0))) ∧ ∀ n ∈ zs, (Lit.int k n).wf = true

theorem Yba.info23 : (Yba.prog.info? 23).map (fun i => (i.zero, i.size, i.bytes)) = some (some (.int .u64 0), 1, 8) := by kernel_rfl
theorem Yba.size23 : (Yba.prog.info? 23).map (·.size) = some 1 := by kernel_rfl
theorem Yba.info42 : (Yba.prog.info? 42).map (fun i => (i.zero, i.size, i.bytes)) = some (some (.agg #[.int .i64 0, .int .u64 0]), 2, 16) := by kernel_rfl

theorem IsRow.len_le {k : IntKind} {w : World} {a : Option Addr} {len cap : Nat} {zs : List Int} (h : IsRow k w a len cap zs) : len ≤ zs.length ∧ len ≤ maxLen := by
  rcases h with ⟨_, rfl, _, rfl⟩ | ⟨x, _, h1, h2, h3, _⟩
  · simp
  · omega

/-- What a copy is told of its source. -/
theorem IsRow.src {k : IntKind} {w w' : World} {a : Option Addr} {len cap : Nat} {zs : List Int} (h : IsRow k w a len cap zs) (hb : Below w.heap.size w w') (g : Nat) :
    0 < ((zs.take len).map (Value.int k)).length → (some ⟨g, 0, none⟩ : Option Addr) = some ⟨g, 0, none⟩ ∧ ∃ ad, a = some ad ∧ ∀ j v, ((zs.take len).map (Value.int k))[j]? = some v → w'.cell? (ad.add j) = some v := by
  intro h0
  rcases h with ⟨_, rfl, _, rfl⟩ | ⟨x, rfl, h1, h2, h3, h4, _⟩
  · simp at h0
  · refine ⟨rfl, x, rfl, fun j v hj => ?_⟩
    rw [List.getElem?_map, List.getElem?_take] at hj
    split at hj
    · have hjz : j < zs.length := by omega
      rw [List.getElem?_eq_getElem hjz] at hj
      have := h4 j hjz
      rw [hb.cell (p := x.add j) (World.block_lt_of_cell? w _ this), this]
      simpa [List.getD_eq_getElem?_getD, List.getElem?_eq_getElem hjz] using hj
    · simp at hj

theorem own_block {w : World} {base : Nat} {e : TypeId} {g n : Nat} {xs : List Value} (h : w.ownsRow base e 1 (.slice (some ⟨g, 0, none⟩) n n) n xs) : ∃ cur : List Value, Hid (w.heap[g]? = some (.cells cur.toArray e (0, 0))) ∧ Hid (cur.length = n) := by
  rcases h.2 with ⟨h1, _⟩ | ⟨g', cap', cur, hv, h1, h2, _, _, h3, _⟩
  · cases h1
  · simp only [Value.slice.injEq, Option.some.injEq, Addr.mk.injEq] at hv
    obtain ⟨⟨rfl, _⟩, _, rfl⟩ := hv
    exact ⟨cur.toList, show _ = _ by simpa using h2, show _ = _ by simp; omega⟩

theorem ints_one (k : IntKind) (l : List Int) : ∀ v ∈ l.map (Value.int k), v.oneCell' = true := by
  intro v hv
  obtain ⟨x, _, rfl⟩ := List.mem_map.1 hv
  rfl

/-- The vector's four cells, where nothing below has turned. -/
theorem vcells {w w2 : World} {x0 x1 x2 x3 : Value} (hb : Below (w.heap.size + 1) (w.alloc (.cells #[x0, x1, x2, x3] 38)) w2) :
    w2.cell? ⟨w.heap.size, 0, none⟩ = some x0 ∧ w2.cell? ⟨w.heap.size, 1, none⟩ = some x1 ∧ w2.cell? ⟨w.heap.size, 2, none⟩ = some x2 ∧ w2.cell? ⟨w.heap.size, 3, none⟩ = some x3 ∧
    w2.frozen? ⟨w.heap.size, 0, none⟩ = false ∧ w2.frozen? ⟨w.heap.size, 1, none⟩ = false ∧ w2.frozen? ⟨w.heap.size, 2, none⟩ = false ∧ w2.frozen? ⟨w.heap.size, 3, none⟩ = false := by
  have hc : ∀ o, w2.cell? ⟨w.heap.size, o, none⟩ = (w.alloc (.cells #[x0, x1, x2, x3] 38)).cell? ⟨w.heap.size, o, none⟩ := fun o => hb.cell (p := ⟨w.heap.size, o, none⟩) (Nat.lt_succ_self _)
  have hf : ∀ o, w2.frozen? ⟨w.heap.size, o, none⟩ = (w.alloc (.cells #[x0, x1, x2, x3] 38)).frozen? ⟨w.heap.size, o, none⟩ := fun o => hb.frozen (p := ⟨w.heap.size, o, none⟩) (Nat.lt_succ_self _)
  simp [hc, hf]

theorem hi_eq (lo : Int) (n : Nat) : wrap64 (wrap64 (lo + n) - 1) = wrap64 (lo - 1 + n) := by
  unfold wrap64
  omega
theorem hi_step (x : Int) (i : Nat) : wrap64 (wrap64 (x + i) + 1) = wrap64 (x + (i + 1 : Nat)) := by
  unfold wrap64
  omega

set_option maxHeartbeats 2000000 in
set_option maxRecDepth 100000 in
theorem law_dense (lo : Int) (a2 : Option Addr) (n cap2 : Nat) (z2 : List Int) (v3 : Option Addr) (len3 cap3 : Nat) (w : World) (h2 : IsRow .u64 w a2 n cap2 z2) (hn : n ≤ 65536) (hn3 : len3 ≤ 65536) :
    Calls Yba.prog 4 #[.bool true, .int .i64 lo, .slice a2 n cap2, .slice v3 len3 cap3] w fun e w' => e = .returned (.bool true) ∧ Below w.heap.size w w' := by
  obtain ⟨i23, hi23, hz23, hs23, hb23⟩ := info_parts Yba.info23
  have hlz := h2.len_le.1
  have H2 : Hid (IsRow .u64 w a2 n cap2 z2) := h2
  clear h2
  have HLN : Hid (((z2.take n).map (Value.int .u64)).length = n) := show _ = _ by simp; omega
  have hq := fun (w : World) => Lib.run_eql_slice_nil (P := Yba.prog) w 36 42 none 0 0 0 0 Yba.underlying36
  go_enter Yba.func4, Yba.ntmps4
  go_wp2_with (first
    | (at_make; refine wpList_make_full _ rfl _ _ 34 rfl (w.heap.size + 1) 23 i23 (.int .u64 0) 1 Yba.underlying34 hi23 hz23 hs23 .i64 .i64 _ _ n rfl rfl rfl rfl (by rw [hb23]; omega) (by unfold maxLen; omega) (by simp) ?_; intro w1 hown1 hg1; rw [World.size_alloc] at hown1; obtain ⟨cur, HC, HL⟩ := own_block hown1; have hb1 : Below (w.heap.size + 1) (w.alloc (.cells #[.slice none 0 0, .int .i64 0, .slice none 0 0, .int .i64 0] 38)) w1 := (Below.refl _ _).grown hg1 (by simp) (fun k hk => by cases hk); have HS : Hid _ := H2.out.src (((Below.refl w.heap.size w).alloc (Nat.le_refl _) _).trans (hb1.mono (Nat.le_succ _))) (w.heap.size + 1); clear hown1 hg1)
    | (refine wpList_copy_splice rfl (.tmp 38) (.tmp 39) 34 24 rfl 23 Yba.underlying34 Yba.size23 _ _ _ _ _ _ rfl rfl (w.heap.size + 1) 0 cur 23 HC.out ((z2.take n).map (Value.int .u64)) (by rw [HLN.out]; exact (Nat.min_self n).symm) HS.out (by rw [HLN.out, HL.out]; omega) (ints_one _ _) (w.heap.size + 1) _ hb1 (Nat.le_refl _) ?_; intro w2 hw2 hb2; have hcells := vcells hb2; obtain ⟨c0, c1, c2, c3, f0, f1, f2, f3⟩ := hcells))
  have g0 : (((w2.setCell ⟨w.heap.size, 0, none⟩ (.slice (some ⟨w.heap.size + 1, 0, none⟩) n n)).setCell ⟨w.heap.size, 1, none⟩ (.int .i64 lo)).setCell ⟨w.heap.size, 3, none⟩ (.int .i64 n)).cell? ⟨w.heap.size, 0, none⟩ = some (.slice (some ⟨w.heap.size + 1, 0, none⟩) n n) := by simp [go_sem, c0]
  have g1 : (((w2.setCell ⟨w.heap.size, 0, none⟩ (.slice (some ⟨w.heap.size + 1, 0, none⟩) n n)).setCell ⟨w.heap.size, 1, none⟩ (.int .i64 lo)).setCell ⟨w.heap.size, 3, none⟩ (.int .i64 n)).cell? ⟨w.heap.size, 1, none⟩ = some (.int .i64 lo) := by simp [go_sem, c1]
  have g2 : (((w2.setCell ⟨w.heap.size, 0, none⟩ (.slice (some ⟨w.heap.size + 1, 0, none⟩) n n)).setCell ⟨w.heap.size, 1, none⟩ (.int .i64 lo)).setCell ⟨w.heap.size, 3, none⟩ (.int .i64 n)).cell? ⟨w.heap.size, 2, none⟩ = some (.slice none 0 0) := by simp [go_sem, c2]
  have hB : Below w.heap.size w (((w2.setCell ⟨w.heap.size, 0, none⟩ (.slice (some ⟨w.heap.size + 1, 0, none⟩) n n)).setCell ⟨w.heap.size, 1, none⟩ (.int .i64 lo)).setCell ⟨w.heap.size, 3, none⟩ (.int .i64 n)) :=
    ((((((Below.refl w.heap.size w).alloc (Nat.le_refl _) _).trans (hb2.mono (Nat.le_succ _))).setCell (Nat.le_refl _) _).setCell (Nat.le_refl _) _).setCell (Nat.le_refl _) _)
  generalize ((w2.setCell ⟨w.heap.size, 0, none⟩ (.slice (some ⟨w.heap.size + 1, 0, none⟩) n n)).setCell ⟨w.heap.size, 1, none⟩ (.int .i64 lo)).setCell ⟨w.heap.size, 3, none⟩ (.int .i64 n) = W at *
  clear c0 c1 c2 c3 f0 f1 f2 f3 hb2 hw2 HC HL HS hb1
  refine (span_dense w.heap.size _ n n lo W g0 g1).mono ?_
  rintro e w3 ⟨rfl, q, hq3⟩
  have k0 : w3.cell? ⟨w.heap.size, 0, none⟩ = some (.slice (some ⟨w.heap.size + 1, 0, none⟩) n n) := by rw [hq3]; exact g0
  have k1 : w3.cell? ⟨w.heap.size, 1, none⟩ = some (.int .i64 lo) := by rw [hq3]; exact g1
  have k2 : w3.cell? ⟨w.heap.size, 2, none⟩ = some (.slice none 0 0) := by rw [hq3]; exact g2
  have HB : Hid (Below w.heap.size w w3) := by rw [hq3]; exact hB.trans ⟨rfl, rfl, rfl, Nat.le_refl _, fun _ _ => rfl⟩
  clear hB hq3 g0 g1 g2
  rw [hi_eq]
  go_wp2
  go_loop [14, 15] (fun s14 s15 => ∃ i : Nat, i ≤ n ∧ s15 = .int .i64 i ∧ s14 = .int .i64 (wrap64 (lo - 1 + i))) (fun _ s15 => n - (intOf s15).toNat)
  case atStart => exact ⟨0, Nat.zero_le _, rfl, by simp⟩
  case round =>
    obtain ⟨i, hi, rfl, rfl⟩ := hrel
    by_cases hlt : i < n
    · have hst : Hid (wrap64 (wrap64 (lo - 1 + i) + 1) = wrap64 (lo - 1 + (i + 1 : Nat))) := hi_step (lo - 1) i
      go_wp2
      go_round
      case rel => exact ⟨i + 1, by omega, by go_num, by rw [← hst.out]⟩
      case measure => simp [intOf]; omega
    · obtain rfl : i = n := by omega
      go_wp2
      go_ret
      exact ⟨rfl, HB.out⟩
end Go.Proofs.Ybulkcibg
