import Derived.Test.YbulkcibuMid
namespace Go.Proofs.Ybulkcibu
open Go.RowKit

set_option maxHeartbeats 4000000 in
set_option maxRecDepth 100000 in
theorem law_any (a0 : Option Addr) (m c0 : Nat) (D : Dat) (root extra sel : Int) (w : World) (hin : InBs w a0 m D) (hD : D.Ok m) (hr0 : 0 ≤ root) (hr1 : root ≤ 65535) (he0 : 0 ≤ extra) (he1 : extra ≤ 255) (hs0 : 0 ≤ sel) (hs1 : sel ≤ 65535) (hmm : m ≤ maxLen) :
    Calls Yba.prog 3 #[.slice a0 m c0, .int .u16 root, .int .u8 extra, .int .u16 sel] w fun e w' => e = .returned (.bool true) ∧ Below w.heap.size w w' := by
  unfold maxLen at hmm
  by_cases hc : 512 < m
  · go_enter Yba.func3, Yba.ntmps3
    go_wp2
    go_ret
    exact ⟨rfl, Below.refl _ _⟩
  have HI : Hid (InBs w a0 m D) := hin
  have HD : Hid (D.Ok m) := hD
  clear hin hD
  have hm : m ≤ 512 := by omega
  have mk24 := make_any 24 28 (.pointer none) 8 Yba.underlying24 Yba.info28 rfl (by omega) m hm
  have mk25 := make_any 25 3 (.int .i64 0) 8 Yba.underlying25 Yba.info3 rfl (by omega) m hm
  have mk26 := make_any 26 27 (.int .u64 0) 8 Yba.underlying26 Yba.info27 rfl (by omega) m hm
  go_enter Yba.func3, Yba.ntmps3
  go_upto_region 7 with fail
  rw [show w.heap.size + 1 + 1 = w.heap.size + 2 from rfl]
  have hW : ∀ W, W = ((w.alloc (Ob (m + 1) (fun _ => .pointer none) 28)).alloc (Ob (m + 1) (fun _ => .int .i64 0) 3)).alloc (Ob (m + 1) (fun _ => .int .u64 0) 27) →
      W.heap.size = w.heap.size + 3 ∧ Below w.heap.size w W ∧ W.heap[w.heap.size]? = some (Ob (m + 1) (fun _ => .pointer none) 28) ∧ W.heap[w.heap.size + 1]? = some (Ob (m + 1) (fun _ => .int .i64 0) 3) ∧ W.heap[w.heap.size + 2]? = some (Ob (m + 1) (fun _ => .int .u64 0) 27) := by
    intro W hW
    subst hW
    refine ⟨by simp, (((Below.refl w.heap.size w).alloc (Nat.le_refl _) _).alloc (by simp) _).alloc (by simp; omega) _, ?_, ?_, ?_⟩
    · rw [Below.heap_alloc _ _ _ (by simp; omega), Below.heap_alloc _ _ _ (by simp), heap_alloc_new]
    · rw [Below.heap_alloc _ _ _ (by simp)]
      have := heap_alloc_new (w.alloc (Ob (m + 1) (fun _ => .pointer none) 28)) (Ob (m + 1) (fun _ => .int .i64 0) 3)
      simpa using this
    · have := heap_alloc_new ((w.alloc (Ob (m + 1) (fun _ => .pointer none) 28)).alloc (Ob (m + 1) (fun _ => .int .i64 0) 3)) (Ob (m + 1) (fun _ => .int .u64 0) 27)
      simpa using this
  generalize hWe : ((w.alloc (Ob (m + 1) (fun _ => .pointer none) 28)).alloc (Ob (m + 1) (fun _ => .int .i64 0) 3)).alloc (Ob (m + 1) (fun _ => .int .u64 0) 27) = W at *
  obtain ⟨hsz, hb, g0, g1, g2⟩ := hW W rfl
  clear hW hWe mk24 mk25 mk26
  have k0 := Ob.cell g0 (j := 0) (by omega)
  have k0f := Ob.free g0 0
  have k2 := Ob.cell g2 (j := 0) (by omega)
  have k2f := Ob.free g2 0
  have hst := stage_one (root := root) (D := D) hsz hb g0 g1 g2
  rw [World.setCell_alloc_past _ _ _ _ (by simp [World.setCell, hsz])] at hst
  have HST : Hid _ := hst
  clear hst
  clear g0 g1 g2 hb
  have hlt0 : (0 : Int) < ((m + 1 : Nat) : Int) := by omega
  have hlt1 : (0 : Int) < (m : Int) + 1 := by omega
  go_wp2
  go_loopg [13, 14, 15] (m + 1) (fun kx s13 s14 s15 wr => ∃ (k : Nat) (dep : Nat → Int) (mx : Int) (lo : Nat), 1 ≤ k ∧ k ≤ m + 1 ∧ m + 1 - k ≤ kx ∧ s15 = .int .i64 k ∧ s13 = .int .u64 mx ∧ s14 = .int .i64 lo ∧ Hid (Stage w wr (treeD root D m) dep k) ∧
    Hid (∀ j, j < k → arrD root D j ≤ mx) ∧ 0 ≤ mx ∧ mx ≤ 200000 ∧ Hid (lo = 0 → ∀ j, j < k → j ≠ 0 → dspD D j ≠ 2) ∧ lo ≤ k)
  case atStart => exact ⟨1, fun _ => 0, root, 0, Nat.le_refl _, by omega, by omega, rfl, rfl, rfl, HST, fun j hj => (by have e0 : j = 0 := (by omega); subst e0; exact Int.le_refl _), hr0, by omega, fun _ j h1 h2 => by omega, by omega⟩
  case round =>
    clear HST k0 k0f k2 k2f hsz
    obtain ⟨k, dep, mx, lo, hk1, hkm, hkx, rfl, rfl, rfl, HS, HMX, hm0, hm1, HLO, hlo⟩ := hrel
    by_cases hlt : k < m + 1
    · obtain ⟨k', rfl⟩ : ∃ k', k = k' + 1 := ⟨k - 1, by omega⟩
      obtain ⟨b, off, rfl, hbl, hcs⟩ := HI.out (by omega)
      obtain ⟨q0, q1, q2, q3⟩ := hcs k' (by omega)
      have hbel := HS.out.bel
      have i0 : wr.cell? ⟨b, off + k' * 4, none⟩ = some (.int .u16 (D.p k')) := by rw [hbel.cell (p := ⟨b, off + k' * 4, none⟩) hbl]; exact q0
      have i1 : wr.cell? ⟨b, off + k' * 4 + 1, none⟩ = some (.int .u8 (D.dl k')) := by rw [hbel.cell (p := ⟨b, off + k' * 4 + 1, none⟩) hbl]; exact q1
      have i2 : wr.cell? ⟨b, off + k' * 4 + 2, none⟩ = some (.bool (D.ap k')) := by rw [hbel.cell (p := ⟨b, off + k' * 4 + 2, none⟩) hbl]; exact q2
      have i3 : wr.cell? ⟨b, off + k' * 4 + 3, none⟩ = some (.int .u8 (D.ds k')) := by rw [hbel.cell (p := ⟨b, off + k' * 4 + 3, none⟩) hbl]; exact q3
      clear q0 q1 q2 q3 hcs
      obtain ⟨dp1, dp2⟩ := HD.out.p0 k' (by omega)
      obtain ⟨dd1, dd2⟩ := HD.out.dl0 k' (by omega)
      obtain ⟨ds1, ds2⟩ := HD.out.ds0 k' (by omega)
      have hpar : D.p k' % ((k' : Int) + 1) = (parD D (k' + 1) : Int) := by have := parD_int (D := D) (i := k' + 1) (by omega); simpa using this
      have hpl : parD D (k' + 1) < k' + 1 := parD_lt (by omega)
      have hsz := HS.out.size
      have hsz1 : w.heap.size + 1 < wr.heap.size := by omega
      have p1 := Ob.cell HS.out.rowP (j := k' + 1) (by show k' + 1 < m + 1; omega)
      have p1f := Ob.free HS.out.rowP (k' + 1)
      have hki : ((k' + 1 : Nat) : Int) < ((m + 1 : Nat) : Int) := by omega
      clear hsz
      go_upto_region 17 with fail
      rw [hpar]
      have M1 : Mem w ((wr.setCell ⟨w.heap.size + 1, k' + 1, none⟩ (.int .i64 (parD D (k' + 1)))).alloc (.cells #[.int .u16 (D.p k'), .int .u8 (D.dl k'), .bool (D.ap k'), .int .u8 (D.ds k')] 36)) (treeD root D m) dep (k' + 1) _ _ _ _ := (HS.out.mem.setP (k' + 1) (.int .i64 (parD D (k' + 1)))).alloc _
      have d1 : ((wr.setCell ⟨w.heap.size + 1, k' + 1, none⟩ (.int .i64 (parD D (k' + 1)))).alloc (.cells #[.int .u16 (D.p k'), .int .u8 (D.dl k'), .bool (D.ap k'), .int .u8 (D.ds k')] 36)).cell? ⟨wr.heap.size, 1, none⟩ = some (.int .u8 (D.dl k')) := by
        have := World.cell?_alloc_new (w := wr.setCell ⟨w.heap.size + 1, k' + 1, none⟩ (.int .i64 (parD D (k' + 1)))) #[.int .u16 (D.p k'), .int .u8 (D.dl k'), .bool (D.ap k'), .int .u8 (D.ds k')] 36 1
        simpa [World.setCell] using this
      have d2 : ((wr.setCell ⟨w.heap.size + 1, k' + 1, none⟩ (.int .i64 (parD D (k' + 1)))).alloc (.cells #[.int .u16 (D.p k'), .int .u8 (D.dl k'), .bool (D.ap k'), .int .u8 (D.ds k')] 36)).cell? ⟨wr.heap.size, 2, none⟩ = some (.bool (D.ap k')) := by
        have := World.cell?_alloc_new (w := wr.setCell ⟨w.heap.size + 1, k' + 1, none⟩ (.int .i64 (parD D (k' + 1)))) #[.int .u16 (D.p k'), .int .u8 (D.dl k'), .bool (D.ap k'), .int .u8 (D.ds k')] 36 2
        simpa [World.setCell] using this
      have d3 : ((wr.setCell ⟨w.heap.size + 1, k' + 1, none⟩ (.int .i64 (parD D (k' + 1)))).alloc (.cells #[.int .u16 (D.p k'), .int .u8 (D.dl k'), .bool (D.ap k'), .int .u8 (D.ds k')] 36)).cell? ⟨wr.heap.size, 3, none⟩ = some (.int .u8 (D.ds k')) := by
        have := World.cell?_alloc_new (w := wr.setCell ⟨w.heap.size + 1, k' + 1, none⟩ (.int .i64 (parD D (k' + 1)))) #[.int .u16 (D.p k'), .int .u8 (D.dl k'), .bool (D.ap k'), .int .u8 (D.ds k')] 36 3
        simpa [World.setCell] using this
      generalize (wr.setCell ⟨w.heap.size + 1, k' + 1, none⟩ (.int .i64 (parD D (k' + 1)))).alloc (.cells #[.int .u16 (D.p k'), .int .u8 (D.dl k'), .bool (D.ap k'), .int .u8 (D.ds k')] 36) = W1 at *
      have HM1 : Hid _ := M1
      have r1 := Ob.cell M1.rowA (j := parD D (k' + 1)) (by show parD D (k' + 1) < m + 1; omega)
      rw [if_pos hpl] at r1
      have r2 := Ob.cell M1.rowA (j := k' + 1) (by show k' + 1 < m + 1; omega)
      have r2f := Ob.free M1.rowA (k' + 1)
      obtain ⟨ab1, ab2⟩ := arrD_bounds HD.out hr0 hr1 _ (parD D (k' + 1)) (Nat.le_refl _) (by omega)
      have harr : arrD root D (parD D (k' + 1)) + D.dl k' = arrD root D (k' + 1) := (arrD_succ root D k').symm
      have hdr : wr.heap.size < W1.heap.size := by have h1 := M1.size; have h2 := HS.out.size; omega
      change W1.cell? _ = some (.int .u64 (arrD root D (parD D (k' + 1)))) at r1
      clear M1 i0 i1 i2 i3 p1 p1f hsz1 hbel
      have hpi : (parD D (k' + 1) : Int) < ((m + 1 : Nat) : Int) := by omega
      go_region
      have M2 : Mem w (W1.setCell ⟨w.heap.size + 2, k' + 1, none⟩ (.int .u64 (arrD root D (k' + 1)))).drew (treeD root D m) dep (k' + 1) _ _ _ _ := (HM1.out.setA (k' + 1) (.int .u64 (arrD root D (k' + 1)))).drew
      have hne : wr.heap.size ≠ w.heap.size + 2 := by have h2 := HS.out.size; omega
      have hdd : ∀ o, (W1.setCell ⟨w.heap.size + 2, k' + 1, none⟩ (.int .u64 (arrD root D (k' + 1)))).drew.cell? ⟨wr.heap.size, o, none⟩ = W1.cell? ⟨wr.heap.size, o, none⟩ := fun o =>
        World.cell?_of_block (w := W1) (a := ⟨wr.heap.size, o, none⟩) (Below.heap_setCell W1 ⟨w.heap.size + 2, k' + 1, none⟩ _ _ hne)
      have e2 := hdd 2
      have e3 := hdd 3
      rw [d2] at e2
      rw [d3] at e3
      have s2 := M2.size
      generalize (W1.setCell ⟨w.heap.size + 2, k' + 1, none⟩ (.int .u64 (arrD root D (k' + 1)))).drew = W2 at *
      have HM2 : Hid _ := M2
      have r3 := Ob.cell M2.rowA (j := k' + 1) (by show k' + 1 < m + 1; omega)
      rw [upd, if_pos rfl] at r3
      obtain ⟨ac1, ac2⟩ := arrD_bounds HD.out hr0 hr1 _ (k' + 1) (Nat.le_refl _) (by omega)
      clear M2 hdd d1 d2 d3 r1 r2 r2f harr HM1 hdr hne
      go_upto_if 97 with fail
      go_cut [13] (fun s13 wc => ∃ mx' : Int, s13 = .int .u64 mx' ∧ Hid (∀ j, j < k' + 1 + 1 → arrD root D j ≤ mx') ∧ 0 ≤ mx' ∧ mx' ≤ 200000 ∧ W2 = wc)
      case first =>
        by_cases hmx : mx < arrD root D (k' + 1)
        · go_wp2
          go_meet
          case rel => exact ⟨_, rfl, le_step HMX.out (by omega) (Int.le_refl _), by omega, by omega, rfl⟩
        · go_wp2
          go_meet
          case rel => exact ⟨_, rfl, le_step HMX.out (Int.le_refl _) (by omega), hm0, hm1, rfl⟩
      obtain ⟨mx', rfl, HMX', hm0', hm1', rfl⟩ := hcut
      go_upto_if 106 with fail
      go_cut [14] (fun s14 wc => ∃ lo' : Nat, s14 = .int .i64 lo' ∧ Hid (lo' = 0 → ∀ j, j < k' + 1 + 1 → j ≠ 0 → dspD D j ≠ 2) ∧ lo' ≤ k' + 1 + 1 ∧ W2 = wc)
      case first =>
        have hdsp : dspD D (k' + 1) = D.ds k' % 4 := by simp [dspD]
        by_cases hds : D.ds k' % 4 = 2
        · have hdb : (D.ds k' % 4 == 2) = true := by simpa using hds
          go_wp2
          go_meet
          case rel => exact ⟨lo + 1, by go_num, fun h => absurd h (Nat.succ_ne_zero _), by omega, rfl⟩
        · have hdb : (D.ds k' % 4 == 2) = false := by simpa using hds
          go_wp2
          go_meet
          case rel => exact ⟨lo, rfl, fun h => ne_step (HLO.out h) (by rw [hdsp]; exact hds), by omega, rfl⟩
      obtain ⟨lo', rfl, HLO', hlo', rfl⟩ := hcut
      have t1 := Ob.cell HM2.out.rowB (j := parD D (k' + 1)) (by show parD D (k' + 1) < m + 1; omega)
      rw [if_pos hpl] at t1
      have t2 := Ob.cell (HM2.out.blk (parD D (k' + 1)) hpl) (j := 3) (by omega)
      have t3 := Ob.cell (HM2.out.blk (parD D (k' + 1)) hpl) (j := 5) (by omega)
      have t3f := Ob.free (HM2.out.blk (parD D (k' + 1)) hpl) 5
      have t4 := Ob.cell HM2.out.rowB (j := k' + 1) (by show k' + 1 < m + 1; omega)
      have t4f := Ob.free HM2.out.rowB (k' + 1)
      obtain ⟨dp3, dp4⟩ := HS.out.dep0 _ hpl
      have hal : addrOf w.heap.size (parD D (k' + 1)) < W2.heap.size := Ob.lt (HM2.out.blk (parD D (k' + 1)) hpl)
      have hal0 : w.heap.size < W2.heap.size := Ob.lt HM2.out.rowB
      have hane : addrOf w.heap.size (parD D (k' + 1)) ≠ w.heap.size := by unfold addrOf; omega
      unfold ptr at t1
      change W2.cell? _ = some (.int .u64 (dep (parD D (k' + 1)))) at t2
      change W2.cell? _ = some (optPtr (addrOf w.heap.size) (lastChild (parD D) (parD D (k' + 1)) (k' + 1))) at t3
      generalize ha0 : addrOf w.heap.size (parD D (k' + 1)) = aP at *
      obtain ⟨sb, hs0'⟩ : ∃ sb, optPtr (addrOf w.heap.size) (lastChild (parD D) (parD D (k' + 1)) (k' + 1)) = .pointer sb := by
        cases lastChild (parD D) (parD D (k' + 1)) (k' + 1) <;> exact ⟨_, rfl⟩
      rw [hs0'] at t3
      have haP : Hid (aP = addrOf w.heap.size (parD D (k' + 1))) := ha0.symm
      have hsib : Hid (.pointer sb = optPtr (addrOf w.heap.size) (lastChild (parD D) (parD D (k' + 1)) (k' + 1))) := hs0'.symm
      clear ha0 hs0'
      go_upto_region 23 with fail
      go_region
      have HE : Hid (∀ W3, W3 = (W2.alloc (Obj.cells #[.int .u64 ((k' : Int) + 1), .string ⟨#[98]⟩, .pointer (some ⟨aP, 0, none⟩), .int .u64 (dep (parD D (k' + 1)) + 1), .pointer none, .pointer none, .pointer none, .int .u64 0, .int .u64 0, .int .u64 (arrD root D (k' + 1)), .bool (D.ap k'), .int .u8 (D.ds k' % 4), .int .u32 0] 34)).drew → _) := fun W3 h3 =>
        round_end (treeD_ok HD.out hr0 hr1 hm) hlt HM2.out
          (fun j hj => rfl)
          (fun j hj => by
            show upd _ _ _ j = _
            unfold upd
            by_cases e : j = k' + 1
            · subst e; simp
            · have : (j < k' + 1 + 1) = (j < k' + 1) := by simp; omega
              simp only [e, if_false, this]
              rfl)
          (fun j hj => by
            show upd _ _ _ j = _
            unfold upd
            by_cases e : j = k' + 1
            · subst e; simp
            · have : (j < k' + 1 + 1) = (j < k' + 1) := by simp; omega
              simp only [e, if_false, this]
              rfl)
          HS.out.dep0 hsib.out haP.out h3
      have hB3 := ((Below.refl W2.heap.size W2).alloc (Nat.le_refl _) (Obj.cells #[.int .u64 ((k' : Int) + 1), .string ⟨#[98]⟩, .pointer (some ⟨aP, 0, none⟩), .int .u64 (dep (parD D (k' + 1)) + 1), .pointer none, .pointer none, .pointer none, .int .u64 0, .int .u64 0, .int .u64 (arrD root D (k' + 1)), .bool (D.ap k'), .int .u8 (D.ds k' % 4), .int .u32 0] 34)).drew
      have hN3 := heap_alloc_new W2 (Obj.cells #[.int .u64 ((k' : Int) + 1), .string ⟨#[98]⟩, .pointer (some ⟨aP, 0, none⟩), .int .u64 (dep (parD D (k' + 1)) + 1), .pointer none, .pointer none, .pointer none, .int .u64 0, .int .u64 0, .int .u64 (arrD root D (k' + 1)), .bool (D.ap k'), .int .u8 (D.ds k' % 4), .int .u32 0] 34)
      change (W2.alloc (Obj.cells #[.int .u64 ((k' : Int) + 1), .string ⟨#[98]⟩, .pointer (some ⟨aP, 0, none⟩), .int .u64 (dep (parD D (k' + 1)) + 1), .pointer none, .pointer none, .pointer none, .int .u64 0, .int .u64 0, .int .u64 (arrD root D (k' + 1)), .bool (D.ap k'), .int .u8 (D.ds k' % 4), .int .u32 0] 34)).drew.heap[W2.heap.size]? = _ at hN3
      have HE3 : Hid _ := HE.out _ rfl
      generalize (W2.alloc (Obj.cells #[.int .u64 ((k' : Int) + 1), .string ⟨#[98]⟩, .pointer (some ⟨aP, 0, none⟩), .int .u64 (dep (parD D (k' + 1)) + 1), .pointer none, .pointer none, .pointer none, .int .u64 0, .int .u64 0, .int .u64 (arrD root D (k' + 1)), .bool (D.ap k'), .int .u8 (D.ds k' % 4), .int .u32 0] 34)).drew = W3 at *
      rw [s2] at hN3
      have v1 := (hB3.cell (p := ⟨w.heap.size, parD D (k' + 1), none⟩) hal0).trans t1
      have v3 := (hB3.cell (p := ⟨aP, 5, none⟩) hal).trans t3
      have v3f := (hB3.frozen (p := ⟨aP, 5, none⟩) hal).trans t3f
      have v4 := (hB3.cell (p := ⟨w.heap.size, k' + 1, none⟩) hal0).trans t4
      have v4f := (hB3.frozen (p := ⟨w.heap.size, k' + 1, none⟩) hal0).trans t4f
      have v5 : W3.cell? ⟨w.heap.size + 2 + 2 * (k' + 1) + 1, 6, none⟩ = some (.pointer none) := cell_of_row W3 _ 6 _ _ _ hN3
      have v5f : W3.frozen? ⟨w.heap.size + 2 + 2 * (k' + 1) + 1, 6, none⟩ = false := by unfold World.frozen?; rw [hN3]; simp
      have n1 : ¬ (w.heap.size + 2 + 2 * (k' + 1) + 1 = aP) := by omega
      have n2 : ¬ (w.heap.size + 2 + 2 * (k' + 1) + 1 = w.heap.size) := by omega
      have n1' : ¬ (aP = w.heap.size + 2 + 2 * (k' + 1) + 1) := by omega
      have n2' : ¬ (w.heap.size = w.heap.size + 2 + 2 * (k' + 1) + 1) := by omega
      clear hB3 hN3 s2 t1 t2 t3 t3f t4 t4f e2 e3 r3 hal hal0 HM2 HE hsib haP
      have hde : Hid (dep (parD D (k' + 1)) + 1 ≤ k' + 1) := by show _ ≤ _; omega
      generalize w.heap.size + 2 + 2 * (k' + 1) + 1 = N at *
      go_wp2
      go_roundg (m + 1 - (k' + 1 + 1))
      case measure => omega
      case rel =>
        exact ⟨k' + 1 + 1, _, mx', lo', by omega, by omega, Nat.le_refl _, by go_num, rfl, rfl, HE3, HMX', hm0', hm1', HLO', hlo'⟩
    · obtain rfl : k = m + 1 := by omega
      have HR : Hid (Rws wr w.heap.size (treeD root D m)) := Stage.rws HS.out
      have HBV : Hid (Below w.heap.size w wr) := HS.out.bel
      have HTO : Hid ((treeD root D m).Ok) := treeD_ok HD.out hr0 hr1 hm
      have HNA : Hid (∀ i, i < m + 1 → arrD root D i ≤ mx + extra) := fun i hi => by have := HMX.out i hi; omega
      clear HS HMX
      go_wp2
      generalize hV : wr = V at *
      clear hV
      go_loopg [21, 22] (m + 1) (fun kx s21 s22 wr => ∃ (r : Nat) (L : List Nat), r ≤ m + 1 ∧ r ≤ kx ∧ s22 = .int .i64 ((r : Int) - 1) ∧ Hid (wr.ownsRow V.heap.size 28 1 s21 L.length (L.map (ptr (addrOf w.heap.size)))) ∧ Hid (Below V.heap.size V wr) ∧ Hid (Tips (treeD root D m) L r))
      case atStart => exact ⟨m + 1, [], Nat.le_refl _, Nat.le_refl _, by go_num, World.ownsRow_nil _ _ _ _, Below.refl _ _, Tips.start _⟩
      case round =>
        obtain ⟨r, L, hr, hrk, rfl, HO, HB, HTI⟩ := hrel
        by_cases hr00 : r = 0
        · subst hr00
          have hLm : Hid (∀ i, i ∈ L ↔ i < m + 1 ∧ lastChild (parD D) i (m + 1) = none) := fun i => by rw [HTI.out.mem]; exact ⟨fun h => h.2, fun h => ⟨Nat.zero_le _, h⟩⟩
          have hL0 : 0 < L.length := List.length_pos_of_mem ((hLm.out m).2 ⟨by omega, lastChild_none_iff.2 fun c h1 h2 h3 => by have := parD_lt (D := D) h2; omega⟩)
          have hLl : L.length ≤ 600 := Nat.le_trans HTI.out.len (by show m + 1 ≤ 600; omega)
          have HLd : Hid (L.Nodup) := HTI.out.nd
          obtain ⟨g, cap, rfl, hbg, hcap, hgl⟩ := own_shape HO.out hL0
          have HC : Hid (∀ j, j < L.length → wr.cell? ⟨g, j, none⟩ = some (ptr (addrOf w.heap.size) (L.getD j 0))) := fun j hj => by
            rw [HO.out.cellAt j (by omega), List.getElem?_map, List.getElem?_eq_getElem hj, List.getD_eq_getElem?_getD, List.getElem?_eq_getElem hj]
            rfl
          have hRr : Hid (Rws wr w.heap.size (treeD root D m)) := HR.out.below HB.out
          clear HTI HO
          have hclone := clone_any (addrOf w.heap.size) L g cap wr HC.out hLl hL0
          have e1 : ((0 : Nat) : Int) - 1 = -1 := rfl
          rw [e1]
          clear e1
          go_wp2_with fail
          refine hclone.mono ?_
          rintro e w5 ⟨g', cap', rfl, hg', hc', hb5⟩
          have HC' : Hid (∀ j, j < L.length → w5.cell? ⟨g', j, none⟩ = some (ptr (addrOf w.heap.size) (L.getD j 0))) := hc'
          have hR5 : Hid (Rws w5 w.heap.size (treeD root D m)) := hRr.out.below hb5
          have HB5 : Hid (Below V.heap.size V w5) := HB.out.trans (hb5.mono HB.out.size)
          have HC5 : Hid (∀ j, j < L.length → w5.cell? ⟨g, j, none⟩ = some (ptr (addrOf w.heap.size) (L.getD j 0))) := fun j hj => by rw [hb5.cell (p := ⟨g, j, none⟩) hgl]; exact HC.out j hj
          have hg5 : Hid (g < w5.heap.size) := Nat.lt_of_lt_of_le hgl hb5.size
          have HG' : Hid (g' < w5.heap.size) := hg'
          clear hclone hc' hb5 HC hRr HB hgl hbg hcap hg'
          have b1 := hR5.out.rowB 0 (by show 0 < m + 1; omega)
          unfold ptr at b1
          have bi : (0 : Int) < ((m + 1 : Nat) : Int) := by omega
          have hlt5 : w.heap.size < w5.heap.size := by have := hR5.out.lt; omega
          have hf1 : sel % ((m : Int) + 1) = ((sel.toNat % (m + 1) : Nat) : Int) := by rw [Int.natCast_emod, Int.toNat_of_nonneg hs0]; rfl
          generalize hfe : sel.toNat % (m + 1) = f at *
          have hfn : f < m + 1 := by rw [← hfe]; exact Nat.mod_lt _ (by omega)
          clear hfe
          go_upto_region 39 with fail
          rw [hf1]
          have hh := head_new w5 (addrOf w.heap.size) (.slice (some ⟨g, 0, none⟩) L.length cap) (lo : Int) (Obj.cells #[.pointer (some ⟨w5.heap.size + 1, 0, none⟩)] 49)
          unfold storeObj treeObj at hh
          generalize ((w5.alloc (Obj.cells #[.slice (some ⟨w5.heap.size + 1 + 1, 0, none⟩) 1 1, .int .u64 0, .pointer (some ⟨addrOf w.heap.size 0, 0, none⟩), .map none, .map none, .int .i64 0, .int .i64 0, .map none, .slice none 0 0, .int .i64 0, .map none, .slice none 0 0, .int .i64 0, .map none, .slice none 0 0, .int .i64 0, .int .u64 0, .slice none 0 0, .slice (some ⟨g, 0, none⟩) L.length cap, .int .i64 (lo : Int), .int .i64 0, .int .u64 0, .int .u64 0] 48)).alloc (Obj.cells #[.pointer (some ⟨w5.heap.size, 0, none⟩), .pointer (some ⟨addrOf w.heap.size 0, 0, none⟩), .int .u64 0] 51)).alloc (Obj.cells #[.pointer (some ⟨w5.heap.size + 1, 0, none⟩)] 49) = W6 at *
          obtain ⟨hh1, hh2⟩ := hh
          have HH : Hid (HeadAt W6 (addrOf w.heap.size) (w5.heap.size + 1) w5.heap.size (lo : Int) (.slice (some ⟨g, 0, none⟩) L.length cap)) := hh1
          have hR6 : Hid (Rws W6 w.heap.size (treeD root D m)) := hR5.out.below hh2
          have HB6 : Hid (Below V.heap.size V W6) := HB5.out.trans (hh2.mono HB5.out.size)
          have HC6 : Hid (∀ j, j < L.length → W6.cell? ⟨g, j, none⟩ = some (ptr (addrOf w.heap.size) (L.getD j 0))) := fun j hj => by rw [hh2.cell (p := ⟨g, j, none⟩) hg5.out]; exact HC5.out j hj
          have HC6' : Hid (∀ j, j < L.length → W6.cell? ⟨g', j, none⟩ = some (ptr (addrOf w.heap.size) (L.getD j 0))) := fun j hj => by rw [hh2.cell (p := ⟨g', j, none⟩) HG'.out]; exact HC'.out j hj
          have hg6 : Hid (g < W6.heap.size) := Nat.lt_of_lt_of_le hg5.out hh2.size
          have HG6 : Hid (g' < W6.heap.size) := Nat.lt_of_lt_of_le HG'.out hh2.size
          have hleaf := leafBlocks_any sortSaid (addrOf w.heap.size) (treeD root D m) (w5.heap.size + 1) w5.heap.size (lo : Int) (.slice (some ⟨g, 0, none⟩) L.length cap) L (mx + extra) f W6 HTO.out hR6.out.tree hh1 hfn HNA.out (by omega) (.inr ⟨g, cap, rfl, hg6.out, HC6.out⟩) hLm.out HLd.out (fun h0 i hi1 hi2 => HLO.out (by omega) i hi1 hi2)
          clear hh1 hh2 hR5 HB5 HC5 HC' hg5 HG' b1 hlt5
          have b2 := hR6.out.rowB f hfn
          unfold ptr at b2
          have bf : (f : Int) < ((m + 1 : Nat) : Int) := by omega
          generalize w5.heap.size = SB at *
          unfold ptr at hleaf
          have mk53 := make_any 53 4 (.bool false) 1 Yba.underlying53 Yba.info4 rfl (by omega) m hm
          go_wp2_with (go_at_call 5; refine hleaf.mono ?_; rintro e V2 ⟨gv, rfl, hrow, hb2⟩)
          have hR2 : Hid (Rws V2 w.heap.size (treeD root D m)) := hR6.out.below hb2
          have HBV2 : Hid (Below V.heap.size V V2) := HB6.out.trans (hb2.mono HB6.out.size)
          have HS18 : Hid (V2.cell? ⟨SB, 18, none⟩ = some (.slice (some ⟨g, 0, none⟩) L.length cap)) := (HH.out.below hb2).s18
          have hSBl : Hid (SB < V2.heap.size) := (HH.out.below hb2).slt
          have HC2 : Hid (∀ j, j < L.length → V2.cell? ⟨g, j, none⟩ = some (ptr (addrOf w.heap.size) (L.getD j 0))) := fun j hj => by rw [hb2.cell (p := ⟨g, j, none⟩) hg6.out]; exact HC6.out j hj
          have HC2' : Hid (∀ j, j < L.length → V2.cell? ⟨g', j, none⟩ = some (ptr (addrOf w.heap.size) (L.getD j 0))) := fun j hj => by rw [hb2.cell (p := ⟨g', j, none⟩) HG6.out]; exact HC6'.out j hj
          have hg2 : Hid (g < V2.heap.size) := Nat.lt_of_lt_of_le hg6.out hb2.size
          have HG2 : Hid (g' < V2.heap.size) := Nat.lt_of_lt_of_le HG6.out hb2.size
          obtain ⟨ao, cp, rfl, hgv⟩ := hrow.shape
          have HGV : Hid _ := hgv
          clear hrow hgv hleaf mk53 b2 bf hR6 HB6 HC6 HC6' hg6 HG6 HH hb2
          rw [show V2.heap.size + 1 + 1 = V2.heap.size + 2 from rfl]
          have HBl0 : Hid _ := Bl.start V2 (m + 1)
          generalize ((V2.alloc (Ob (m + 1) (fun _ => .bool false) 4)).alloc (Ob (m + 1) (fun _ => .bool false) 4)).alloc (Ob (m + 1) (fun _ => .bool false) 4) = W7 at *
          have HNT : Hid (∀ i, i < (treeD root D m).n → (treeD root D m).arr i ≤ mx + extra) := HNA.out
          generalize hT : treeD root D m = T at *
          have HTn : Hid (T.n = m + 1) := by rw [← hT]; exact rfl
          clear hT
          generalize hnow : mx + extra = now at *
          go_loopg [31] (m + 1) (fun kx s31 wr => ∃ i : Nat, i ≤ m + 1 ∧ m + 1 - i ≤ kx ∧ s31 = .int .i64 i ∧ Hid (Bl V2 wr V2.heap.size (m + 1) (upB (sndB T now) i) (fun _ => false) (fun _ => false)))
          case atStart => exact ⟨0, Nat.zero_le _, by omega, rfl, HBl0.out.congr (fun j _ => (upB_zero _ j).symm) (fun _ _ => rfl) (fun _ _ => rfl)⟩
          case round =>
            obtain ⟨i, hi, hik, rfl, HBl⟩ := hrel
            by_cases hil : i < m + 1
            · as_aux_lemma =>
              have hii : (i : Int) < ((m + 1 : Nat) : Int) := by omega
              have hii2 : (i : Int) < (m : Int) + 1 := by omega
              have q1 := Ob.cell HBl.out.r1 hil
              have q1f := Ob.free HBl.out.r1 i
              by_cases hi0 : i = 0
              · subst hi0
                go_wp2
                go_roundg (m + 1 - 1)
                case measure => omega
                case rel => exact ⟨1, by omega, Nat.le_refl _, by go_num, (HBl.out.set1 0 true).congr (fun j _ => upB_step (sndB T now) 0 true rfl j) (fun _ _ => rfl) (fun _ _ => rfl)⟩
              · have hi0b : ((i : Int) == 0) = false := by simp; omega
                have hRr : Hid (Rws wr w.heap.size T) := hR2.out.below HBl.out.bel
                have hin : i < T.n := by rw [HTn.out]; exact hil
                have c1 := hRr.out.rowB i hin
                have c2 := hRr.out.tree.approved i hin
                have c3 := hRr.out.rowA i hin
                have c4 := hRr.out.tree.dispute i hin
                have hale := HNT.out i hin
                have hage := HTO.out.arr0 i hin
                have hnowb : now ≤ 1000000 := by omega
                have HSB : Hid (sndB T now i = T.snd now i) := sndB_pos hi0
                unfold ptr at c1
                generalize addrOf w.heap.size i = ai at *
                cases hap : T.app i with
                | true =>
                  rw [hap] at c2
                  by_cases hdd : T.dsp i = 2
                  · have hdb : (T.dsp i != 2) = false := by simp [hdd]
                    have HV : Hid (false = sndB T now i) := by show _ = _; rw [HSB.out, snd_app hap]; simp [hdd]
                    clear hdd
                    go_wp2
                    go_roundg (m + 1 - (i + 1))
                    case measure => omega
                    case rel => exact ⟨i + 1, by omega, Nat.le_refl _, by go_num, (HBl.out.set1 i false).congr (fun j _ => upB_step (sndB T now) i false HV.out j) (fun _ _ => rfl) (fun _ _ => rfl)⟩
                  · have hdb : (T.dsp i != 2) = true := by simp [hdd]
                    have HV : Hid (true = sndB T now i) := by show _ = _; rw [HSB.out, snd_app hap]; simp [hdd]
                    clear hdd
                    go_wp2
                    go_roundg (m + 1 - (i + 1))
                    case measure => omega
                    case rel => exact ⟨i + 1, by omega, Nat.le_refl _, by go_num, (HBl.out.set1 i true).congr (fun j _ => upB_step (sndB T now) i true HV.out j) (fun _ _ => rfl) (fun _ _ => rfl)⟩
                | false =>
                  rw [hap] at c2
                  by_cases hyo : now - T.arr i ≤ 120
                  · by_cases hdd : T.dsp i = 2
                    · have hdb : (T.dsp i != 2) = false := by simp [hdd]
                      have HV : Hid (false = sndB T now i) := by show _ = _; rw [HSB.out, snd_young hyo]; simp [hdd]
                      clear hdd
                      go_wp2
                      go_roundg (m + 1 - (i + 1))
                      case measure => omega
                      case rel => exact ⟨i + 1, by omega, Nat.le_refl _, by go_num, (HBl.out.set1 i false).congr (fun j _ => upB_step (sndB T now) i false HV.out j) (fun _ _ => rfl) (fun _ _ => rfl)⟩
                    · have hdb : (T.dsp i != 2) = true := by simp [hdd]
                      have HV : Hid (true = sndB T now i) := by show _ = _; rw [HSB.out, snd_young hyo]; simp [hdd]
                      clear hdd
                      go_wp2
                      go_roundg (m + 1 - (i + 1))
                      case measure => omega
                      case rel => exact ⟨i + 1, by omega, Nat.le_refl _, by go_num, (HBl.out.set1 i true).congr (fun j _ => upB_step (sndB T now) i true HV.out j) (fun _ _ => rfl) (fun _ _ => rfl)⟩
                  · have HV : Hid (false = sndB T now i) := by show _ = _; rw [HSB.out, snd_old hap hyo]
                    go_wp2
                    go_roundg (m + 1 - (i + 1))
                    case measure => omega
                    case rel => exact ⟨i + 1, by omega, Nat.le_refl _, by go_num, (HBl.out.set1 i false).congr (fun j _ => upB_step (sndB T now) i false HV.out j) (fun _ _ => rfl) (fun _ _ => rfl)⟩
            · obtain rfl : i = m + 1 := by omega
              have HBl3 : Hid (Bl V2 wr V2.heap.size (m + 1) (sndB T now) (fun _ => false) (fun _ => false)) := HBl.out.congr (fun j hj => upB_all hj) (fun _ _ => rfl) (fun _ _ => rfl)
              clear HBl HBl0
              go_wp2
              generalize wr = W8 at *
              go_loopg [32] (m + 1) (fun kx s32 wr => ∃ i : Nat, i ≤ m + 1 ∧ m + 1 - i ≤ kx ∧ s32 = .int .i64 i ∧ Hid (Bl V2 wr V2.heap.size (m + 1) (sndB T now) (upB (rch T.par (T.snd now) f) i) (fun _ => false)))
              case atStart => exact ⟨0, Nat.zero_le _, by omega, rfl, HBl3.out.congr (fun _ _ => rfl) (fun j _ => (upB_zero _ j).symm) (fun _ _ => rfl)⟩
              case round =>
                clear HBl3
                obtain ⟨i, hi, hik, rfl, HBl⟩ := hrel
                by_cases hil : i < m + 1
                · as_aux_lemma =>
                  have hii : (i : Int) < ((m + 1 : Nat) : Int) := by omega
                  have hii2 : (i : Int) < (m : Int) + 1 := by omega
                  have q2 := Ob.cell HBl.out.r2 hil
                  have q2f := Ob.free HBl.out.r2 i
                  rcases Nat.lt_trichotomy i f with hif | hif | hif
                  · have hb0 : ((i : Int) == (f : Int)) = false := by simp; omega
                    have HV : Hid (rch T.par (T.snd now) f i = false) := rch_lt hif
                    clear q2 q2f
                    go_wp2
                    go_roundg (m + 1 - (i + 1))
                    case measure => omega
                    case rel => exact ⟨i + 1, by omega, Nat.le_refl _, by go_num, HBl.out.congr (fun _ _ => rfl) (fun j _ => upB_skip _ i HV.out j) (fun _ _ => rfl)⟩
                  · have hb0 : ((i : Int) == (f : Int)) = true := by simp; omega
                    have HV : Hid (true = rch T.par (T.snd now) f i) := by show _ = _; rw [hif, rch_self]
                    clear hif
                    go_wp2
                    go_roundg (m + 1 - (i + 1))
                    case measure => omega
                    case rel => exact ⟨i + 1, by omega, Nat.le_refl _, by go_num, (HBl.out.set2 i true).congr (fun _ _ => rfl) (fun j _ => upB_step (rch T.par (T.snd now) f) i true HV.out j) (fun _ _ => rfl)⟩
                  · have hb0 : ((i : Int) == (f : Int)) = false := by simp; omega
                    have hi0 : i ≠ 0 := by omega
                    have hRr : Hid (Rws wr w.heap.size T) := hR2.out.below HBl.out.bel
                    have hin : i < T.n := by rw [HTn.out]; exact hil
                    have hpi := HTO.out.par i hi0 hin
                    have c1 := hRr.out.rowP i hin
                    have q3 := Ob.cell HBl.out.r2 (j := T.par i) (by omega)
                    have q1 := Ob.cell HBl.out.r1 hil
                    have e3 : upB (rch T.par (T.snd now) f) i (T.par i) = rch T.par (T.snd now) f (T.par i) := upB_all hpi
                    rw [e3] at q3
                    rw [sndB_pos hi0] at q1
                    have HV : Hid (rch T.par (T.snd now) f i = (rch T.par (T.snd now) f (T.par i) && T.snd now i)) := rch_gt HTO.out.par hif hin
                    have hpm : (T.par i : Int) < ((m + 1 : Nat) : Int) := by omega
                    clear e3
                    cases hr1' : rch T.par (T.snd now) f (T.par i) with
                    | false =>
                      rw [hr1'] at q3 HV
                      have HV' : Hid (false = rch T.par (T.snd now) f i) := by show _ = _; rw [HV.out]; simp
                      go_wp2
                      go_roundg (m + 1 - (i + 1))
                      case measure => omega
                      case rel => exact ⟨i + 1, by omega, Nat.le_refl _, by go_num, (HBl.out.set2 i false).congr (fun _ _ => rfl) (fun j _ => upB_step (rch T.par (T.snd now) f) i false HV'.out j) (fun _ _ => rfl)⟩
                    | true =>
                      rw [hr1'] at q3 HV
                      have HV' : Hid (T.snd now i = rch T.par (T.snd now) f i) := by show _ = _; rw [HV.out]; simp
                      generalize T.snd now i = sv at *
                      go_wp2
                      go_roundg (m + 1 - (i + 1))
                      case measure => omega
                      case rel => exact ⟨i + 1, by omega, Nat.le_refl _, by go_num, (HBl.out.set2 i sv).congr (fun _ _ => rfl) (fun j _ => upB_step (rch T.par (T.snd now) f) i sv HV'.out j) (fun _ _ => rfl)⟩
                · obtain rfl : i = m + 1 := by omega
                  have HBl4 : Hid (Bl V2 wr V2.heap.size (m + 1) (sndB T now) (rch T.par (T.snd now) f) (fun _ => false)) := HBl.out.congr (fun _ _ => rfl) (fun j hj => upB_all hj) (fun _ _ => rfl)
                  clear HBl
                  go_wp2
                  generalize wr = W9 at *
                  go_loopg [33] (m + 1) (fun kx s33 wr => ∃ i : Nat, 1 ≤ i ∧ i ≤ m + 1 ∧ m + 1 - i ≤ kx ∧ s33 = .int .i64 i ∧ Hid (Bl V2 wr V2.heap.size (m + 1) (sndB T now) (rch T.par (T.snd now) f) (kidB T now i)))
                  case atStart => exact ⟨1, Nat.le_refl _, by omega, by omega, rfl, HBl4.out.congr (fun _ _ => rfl) (fun _ _ => rfl) (fun j _ => (kidB_one T now j).symm)⟩
                  case round =>
                    clear HBl4
                    obtain ⟨i, hi1, hi, hik, rfl, HBl⟩ := hrel
                    by_cases hil : i < m + 1
                    · as_aux_lemma =>
                      have hii : (i : Int) < ((m + 1 : Nat) : Int) := by omega
                      have hii2 : (i : Int) < (m : Int) + 1 := by omega
                      have hi0 : i ≠ 0 := by omega
                      have q1 := Ob.cell HBl.out.r1 hil
                      rw [sndB_pos hi0] at q1
                      have hRr : Hid (Rws wr w.heap.size T) := hR2.out.below HBl.out.bel
                      have hin : i < T.n := by rw [HTn.out]; exact hil
                      have hpi := HTO.out.par i hi0 hin
                      have c1 := hRr.out.rowP i hin
                      have q3 := Ob.cell HBl.out.r3 (j := T.par i) (by omega)
                      have q3f := Ob.free HBl.out.r3 (T.par i)
                      have hpm : (T.par i : Int) < ((m + 1 : Nat) : Int) := by omega
                      cases hsv : T.snd now i with
                      | false =>
                        rw [hsv] at q1
                        have HV : Hid (∀ b, kidB T now i b = kidB T now (i + 1) b) := kidB_no hsv
                        clear hsv
                        go_wp2
                        go_roundg (m + 1 - (i + 1))
                        case measure => omega
                        case rel => exact ⟨i + 1, by omega, by omega, Nat.le_refl _, by go_num, HBl.out.congr (fun _ _ => rfl) (fun _ _ => rfl) (fun j _ => HV.out j)⟩
                      | true =>
                        rw [hsv] at q1
                        have HV : Hid (∀ b, updB (kidB T now i) (T.par i) true b = kidB T now (i + 1) b) := kidB_yes hi0 hsv
                        clear hsv
                        go_wp2
                        go_roundg (m + 1 - (i + 1))
                        case measure => omega
                        case rel => exact ⟨i + 1, by omega, by omega, Nat.le_refl _, by go_num, (HBl.out.set3 (T.par i) true).congr (fun _ _ => rfl) (fun _ _ => rfl) (fun j _ => HV.out j)⟩
                    · obtain rfl : i = m + 1 := by omega
                      have HBl5 : Hid (Bl V2 wr V2.heap.size (m + 1) (sndB T now) (rch T.par (T.snd now) f) (hasKid T.par (T.snd now) T.n)) := HBl.out.congr (fun _ _ => rfl) (fun _ _ => rfl) (fun j _ => by rw [← kidB_all, HTn.out])
                      clear HBl
                      go_wp2
                      generalize wr = WA at *
                      have hR9 : Hid (Rws WA w.heap.size T) := hR2.out.below HBl5.out.bel
                      generalize hLv : leavesOf T.par (T.snd now) T.n f = Lv at *
                      have HLv : Hid (leavesOf T.par (T.snd now) T.n f = Lv) := hLv
                      clear hLv
                      have hLvl : Hid (cnt (leafP T now f) (m + 1) = Lv.length) := by show _ = _; rw [← HLv.out, leaf_len, HTn.out]
                      go_loopg [34, 35] (m + 1) (fun kx s34 s35 wr => ∃ i qn : Nat, i ≤ m + 1 ∧ m + 1 - i ≤ kx ∧ s35 = .int .i64 i ∧ s34 = .int .i64 (cnt (leafP T now f) i) ∧ wr = WA.drewN qn)
                      case atStart => exact ⟨0, 0, Nat.zero_le _, by omega, rfl, rfl, rfl⟩
                      case round =>
                        obtain ⟨i, qn, hi, hik, rfl, rfl, hwr⟩ := hrel
                        have hcn := cnt_le (leafP T now f) i
                        by_cases hil : i < m + 1
                        · as_aux_lemma =>
                          have hii : (i : Int) < ((m + 1 : Nat) : Int) := by omega
                          have hii2 : (i : Int) < (m : Int) + 1 := by omega
                          have hin : i < T.n := by rw [HTn.out]; exact hil
                          have k1 : wr.cell? ⟨V2.heap.size + 1, i, none⟩ = some (.bool (rch T.par (T.snd now) f i)) := by rw [hwr]; exact Ob.cell HBl5.out.r2 hil
                          have k2 : wr.cell? ⟨V2.heap.size + 2, i, none⟩ = some (.bool (hasKid T.par (T.snd now) T.n i)) := by rw [hwr]; exact Ob.cell HBl5.out.r3 hil
                          have k3 : wr.cell? ⟨w.heap.size, i, none⟩ = some (.pointer (some ⟨addrOf w.heap.size i, 0, none⟩)) := by rw [hwr]; exact hR9.out.rowB i hin
                          cases hlp : leafP T now f i with
                          | false =>
                            have HV : Hid (cnt (leafP T now f) (i + 1) = cnt (leafP T now f) i) := leaf_no hlp
                            have W : Aside (wr = WA.drewN qn) := hwr
                            clear hwr
                            cases hrc : rch T.par (T.snd now) f i with
                            | false =>
                              rw [hrc] at k1
                              clear hlp hrc
                              generalize cnt (leafP T now f) i = ck at *
                              go_wp2
                              go_roundg (m + 1 - (i + 1))
                              case measure => omega
                              case rel => exact ⟨i + 1, qn, by omega, Nat.le_refl _, by go_num, by rw [HV.out], W.out⟩
                            | true =>
                              have hhk : hasKid T.par (T.snd now) T.n i = true := by
                                unfold leafP at hlp
                                rw [hrc] at hlp
                                simpa using hlp
                              rw [hrc] at k1
                              rw [hhk] at k2
                              clear hlp hrc hhk
                              generalize cnt (leafP T now f) i = ck at *
                              go_wp2
                              go_roundg (m + 1 - (i + 1))
                              case measure => omega
                              case rel => exact ⟨i + 1, qn, by omega, Nat.le_refl _, by go_num, by rw [HV.out], W.out⟩
                          | true =>
                            have HV : Hid (cnt (leafP T now f) (i + 1) = cnt (leafP T now f) i + 1) := leaf_yes hlp
                            have hlt' : cnt (leafP T now f) i < Lv.length := by rw [← HLv.out]; exact leaf_lt hin hlp
                            have hget : Lv.getD (cnt (leafP T now f) i) 0 = i := by rw [← HLv.out]; exact leaf_get hin hlp
                            obtain ⟨gg, rfl, hggl, hggc⟩ := HGV.out (by omega)
                            have k4 : wr.cell? ⟨gg, cnt (leafP T now f) i, none⟩ = some (.pointer (some ⟨addrOf w.heap.size i, 0, none⟩)) := by
                              rw [hwr]
                              have h5 := hggc _ hlt'
                              rw [hget] at h5
                              exact (HBl5.out.bel.cell (p := ⟨gg, cnt (leafP T now f) i, none⟩) hggl).trans h5
                            have hlp2 : rch T.par (T.snd now) f i = true ∧ hasKid T.par (T.snd now) T.n i = false := by
                              unfold leafP at hlp
                              simpa using hlp
                            rw [hlp2.1] at k1
                            rw [hlp2.2] at k2
                            have W : Aside (wr = WA.drewN qn) := hwr
                            clear hwr hlp hget hggc hlp2 hggl
                            have hne := fun W => neq_same ⟨addrOf w.heap.size i, 0, none⟩ W
                            generalize addrOf w.heap.size i = ai at *
                            generalize cnt (leafP T now f) i = ck at *
                            have hck : (ck : Int) < (Lv.length : Int) := by omega
                            go_wp2_with fail
                            go_quiet (fail)
                            go_wp2
                            go_roundg (m + 1 - (i + 1))
                            case measure => omega
                            case rel => exact ⟨i + 1, qn + nq, by omega, Nat.le_refl _, by go_num, by rw [HV.out]; go_num, by rw [W.out, World.drewN_drewN]⟩
                        · obtain rfl : i = m + 1 := by omega
                          rw [hLvl.out]
                          have hlb : ((Lv.length : Int) != (Lv.length : Int)) = false := by simp
                          have k5 : wr.cell? ⟨SB, 18, none⟩ = some (.slice (some ⟨g, 0, none⟩) L.length cap) := by rw [hwr]; exact (HBl5.out.bel.cell (p := ⟨SB, 18, none⟩) hSBl.out).trans HS18.out
                          have heq := equal_any (addrOf w.heap.size) L g cap g' cap' wr (fun j hj => by rw [hwr]; exact (HBl5.out.bel.cell (p := ⟨g, j, none⟩) hg2.out).trans (HC2.out j hj)) (fun j hj => by rw [hwr]; exact (HBl5.out.bel.cell (p := ⟨g', j, none⟩) HG2.out).trans (HC2'.out j hj)) hLl
                          have W : Aside (wr = WA.drewN qn) := hwr
                          clear hwr hcn
                          have HFB : Hid (Below w.heap.size w WA) := (HBV.out.trans (HBV2.out.mono HBV.out.size)).trans (HBl5.out.bel.mono (Nat.le_trans HBV.out.size HBV2.out.size))
                          go_wp2_with (go_at_call 6; refine heq.mono ?_; rintro e wz ⟨rfl, qz, hwz⟩)
                          go_ret
                          refine ⟨rfl, ?_⟩
                          rw [W.out]
                          exact (HFB.out.trans (below_drawn _ _ _)).trans (below_drawn _ _ _)
        · as_aux_lemma =>
          obtain ⟨r', rfl⟩ : ∃ r', r = r' + 1 := ⟨r - 1, by omega⟩
          have er : ((r' + 1 : Nat) : Int) - 1 = (r' : Int) := by omega
          rw [er]
          have hRr : Hid (Rws wr w.heap.size (treeD root D m)) := HR.out.below HB.out
          have b1 := hRr.out.rowB r' (by show r' < m + 1; omega)
          have b2 := hRr.out.tree.child r' (by show r' < m + 1; omega)
          have bi : (r' : Int) < ((m + 1 : Nat) : Int) := by omega
          have bn : (0 : Int) ≤ (r' : Int) := by omega
          have hLl : Hid (L.length ≤ 600) := Nat.le_trans HTI.out.len (by show m + 1 ≤ 600; omega)
          have hszV := HB.out.size
          unfold ptr at b1
          change wr.cell? ⟨addrOf w.heap.size r', 5, none⟩ = some (optPtr (addrOf w.heap.size) (lastChild (parD D) r' (m + 1))) at b2
          cases hlc : lastChild (parD D) r' (m + 1) with
          | none =>
            rw [hlc] at b2
            have HTI' : Hid (Tips (treeD root D m) (L ++ [r']) r') := HTI.out.hit (by show r' < m + 1; omega) hlc
            change wr.cell? ⟨addrOf w.heap.size r', 5, none⟩ = some (.pointer none) at b2
            clear hlc
            go_wp2_with (refine wpList_append_ptr rfl (.tmp 171) (.tmp 176) rfl V.heap.size _ _ _ rfl (HO.out.alloc _) ⟨wr.heap.size, 0, none⟩ (.pointer (some ⟨addrOf w.heap.size r', 0, none⟩)) rfl (one_new _ _ _) rfl hLl.out (by simp; omega) ?_; intro v' w3 hown3 hg3 hblk; have HRR := app_step HO.out (Below.refl _ _) hown3 hg3 HB.out hszV; clear hown3 hg3 hblk)
            go_roundg r'
            case measure => omega
            case rel => exact ⟨r', _, by omega, Nat.le_refl _, rfl, HRR.1, HRR.2, HTI'⟩
          | some c =>
            rw [hlc] at b2
            have HTI' : Hid (Tips (treeD root D m) L r') := HTI.out.miss hlc
            change wr.cell? ⟨addrOf w.heap.size r', 5, none⟩ = some (.pointer (some ⟨addrOf w.heap.size c, 0, none⟩)) at b2
            clear hlc
            go_wp2
            go_roundg r'
            case measure => omega
            case rel => exact ⟨r', _, by omega, Nat.le_refl _, rfl, HO, HB, HTI'⟩
end Go.Proofs.Ybulkcibu
