import Derived.Test.YbulkcidkBuild
import Derived.Laws.StructEq
namespace Go.Proofs.Ybulkcidk
open Go.RowKit

theorem build_any (p : Int) (a : Option Addr) (n c : Nat) (z : List Int) (w : World) (h : IsRow .u8 w a n c z) (hn : n ≤ 1024) (hp1 : 0 ≤ p) (hp2 : p ≤ 255) :
    Calls Yba.prog 8 #[.slice a n c, .int .u8 p] w fun e w' => e = .returned (.agg (decAt (fun i => z.getD i 0) p n).cells) ∧ Below w.heap.size w w' :=
  build_core (fun i => z.getD i 0) p a n c z w h hn hp1 hp2 (fun _ => rfl)

set_option maxHeartbeats 4000000 in
set_option maxRecDepth 100000 in
theorem step_any (p : Int) (a : Option Addr) (n c : Nat) (z : List Int) (ch : Int) (w : World) (h : IsRow .u8 w a n c z) (hp1 : 0 ≤ p) (hp2 : p ≤ 255) (hc1 : 0 ≤ ch) (hc2 : ch ≤ 255) :
    Calls Yba.prog 5 #[.slice a n c, .int .u8 p, .int .u8 ch] w fun e w' => e = .returned (.bool true) ∧ Below w.heap.size w w' := by
  have H : Hid (IsRow .u8 w a n c z) := h
  clear h
  go_enter Yba.func5, Yba.ntmps5
  by_cases hn : n ≤ 1024
  · have hin : Hid ((decAt (fun i => z.getD i 0) p n).In n) := decAt_in _ p n
    have hB := build_any p a n c z w H.out hn hp1 hp2
    generalize decAt (fun i => z.getD i 0) p n = d at *
    obtain ⟨hd, tl, sg, dr, fr, pt⟩ := d
    have ⟨s1, s2, d1, d2, f1, f2⟩ := hin.out
    simp only at s1 s2 d1 d2 f1 f2
    unfold Dec.cells at hB
    simp only at hB
    go_wp2_with (go_at_call 8; refine hB.mono ?_; rintro e w1 ⟨rfl, hb1⟩)
    refine (digit_any _ ⟨hd, tl, sg, dr, fr, pt⟩ ch _ (heap_alloc2_old _ _ _) hc1 hc2 s1 s2 d1 (by simp only; omega) f1 (by simp only; omega)).mono ?_
    rintro e w3 ⟨rfl, ho, he⟩
    have E := (ho.block (w1.heap.size + 1) (by omega)).trans (heap_alloc2_new _ _ _)
    have hsz : Hid (w3.heap.size = w1.heap.size + 2) := by show _ = _; rw [ho.size]; simp
    have hb3 : Hid (Below w.heap.size w w3) := ho.below ((hb1.alloc hb1.size _).alloc (by have := hb1.size; simp; omega) _) hb1.size
    clear ho
    have hle : Hid (w.heap.size ≤ w3.heap.size) := hb3.out.size
    have lt1 : w1.heap.size < w3.heap.size := by have := hsz.out; omega
    have lt2 : w1.heap.size + 1 < w3.heap.size := by have := hsz.out; omega
    have o0 : w3.cell? ⟨w1.heap.size + 1, 0, none⟩ = some (.int .i64 hd) := cell_obj E
    have o1 : w3.cell? ⟨w1.heap.size + 1, 1, none⟩ = some (.int .i64 tl) := cell_obj E
    have o2 : w3.cell? ⟨w1.heap.size + 1, 2, none⟩ = some (.int .i64 sg) := cell_obj E
    have o3 : w3.cell? ⟨w1.heap.size + 1, 3, none⟩ = some (.int .i64 dr) := cell_obj E
    have o4 : w3.cell? ⟨w1.heap.size + 1, 4, none⟩ = some (.int .i64 fr) := cell_obj E
    have o5 : w3.cell? ⟨w1.heap.size + 1, 5, none⟩ = some (.bool pt) := cell_obj E
    clear E
    generalize hw1 : w1.heap.size = B at *
    have hv : dig ch = (ch + 208) % 256 := by unfold dig; split <;> omega
    have hz : ch = 48 ↔ dig ch = 0 := by unfold dig; split <;> omega
    rw [hv] at hz he
    clear hv
    by_cases hA : sg = 0 ∧ (ch + 208) % 256 = 0
    · have hst : Dec.step ⟨hd, tl, sg, dr, fr, pt⟩ ((ch + 208) % 256) = Dec.frac ⟨hd, tl, sg, dr, fr, pt⟩ := if_pos hA
      rw [hst] at he
      have e1 : (sg == 0) = true := by simp [hA.1]
      have e2 : (ch == 48) = true := by simp [hz.2 hA.2]
      clear hst hz
      cases pt
      · have n0 : w3.cell? ⟨B, 0, none⟩ = some (.int .i64 hd) := cell_obj he
        have n1 : w3.cell? ⟨B, 1, none⟩ = some (.int .i64 tl) := cell_obj he
        have n2 : w3.cell? ⟨B, 2, none⟩ = some (.int .i64 sg) := cell_obj he
        have n3 : w3.cell? ⟨B, 3, none⟩ = some (.int .i64 dr) := cell_obj he
        have n4 : w3.cell? ⟨B, 4, none⟩ = some (.int .i64 fr) := cell_obj he
        have n5 : w3.cell? ⟨B, 5, none⟩ = some (.bool false) := cell_obj he
        clear he
        go_wp2
        go_ret
        refine ⟨rfl, ?_⟩; repeat (first | exact hb3.out.alloc hle.out _ | refine Below.setCell ?_ hle.out _)
      · have n0 : w3.cell? ⟨B, 0, none⟩ = some (.int .i64 hd) := cell_obj he
        have n1 : w3.cell? ⟨B, 1, none⟩ = some (.int .i64 tl) := cell_obj he
        have n2 : w3.cell? ⟨B, 2, none⟩ = some (.int .i64 sg) := cell_obj he
        have n3 : w3.cell? ⟨B, 3, none⟩ = some (.int .i64 dr) := cell_obj he
        have n4 : w3.cell? ⟨B, 4, none⟩ = some (.int .i64 (fr + 1)) := cell_obj he
        have n5 : w3.cell? ⟨B, 5, none⟩ = some (.bool true) := cell_obj he
        clear he
        go_wp2
        go_ret
        refine ⟨rfl, ?_⟩; repeat (first | exact hb3.out.alloc hle.out _ | refine Below.setCell ?_ hle.out _)
    · have hst : Dec.step ⟨hd, tl, sg, dr, fr, pt⟩ ((ch + 208) % 256) = if sg < 18 then Dec.frac ⟨wrap64 (wrap64 (hd * 10) + (ch + 208) % 256), tl, sg + 1, dr, fr, pt⟩
        else if sg < 36 then Dec.frac ⟨hd, wrap64 (wrap64 (tl * 10) + (ch + 208) % 256), sg + 1, dr, fr, pt⟩ else Dec.frac ⟨hd, tl, sg, dr + 1, fr, pt⟩ := if_neg hA
      rw [hst] at he
      clear hst
      have e3 : (sg == 0) = true → (ch == 48) = false := fun h => by simp at h ⊢; intro e; exact hA ⟨h, hz.1 e⟩
      clear hA hz
      by_cases hC : sg < 18
      · rw [if_pos hC] at he
        by_cases hs0 : sg = 0
        · have e1 : (sg == 0) = true := by simp [hs0]
          have e2 := e3 e1
          clear e3
          cases pt
          · have n0 : w3.cell? ⟨B, 0, none⟩ = some (.int .i64 (wrap64 (wrap64 (hd * 10) + (ch + 208) % 256))) := cell_obj he
            have n1 : w3.cell? ⟨B, 1, none⟩ = some (.int .i64 tl) := cell_obj he
            have n2 : w3.cell? ⟨B, 2, none⟩ = some (.int .i64 (sg + 1)) := cell_obj he
            have n3 : w3.cell? ⟨B, 3, none⟩ = some (.int .i64 dr) := cell_obj he
            have n4 : w3.cell? ⟨B, 4, none⟩ = some (.int .i64 fr) := cell_obj he
            have n5 : w3.cell? ⟨B, 5, none⟩ = some (.bool false) := cell_obj he
            clear he
            go_wp2
            go_ret
            refine ⟨rfl, ?_⟩; repeat (first | exact hb3.out.alloc hle.out _ | refine Below.setCell ?_ hle.out _)
          · have n0 : w3.cell? ⟨B, 0, none⟩ = some (.int .i64 (wrap64 (wrap64 (hd * 10) + (ch + 208) % 256))) := cell_obj he
            have n1 : w3.cell? ⟨B, 1, none⟩ = some (.int .i64 tl) := cell_obj he
            have n2 : w3.cell? ⟨B, 2, none⟩ = some (.int .i64 (sg + 1)) := cell_obj he
            have n3 : w3.cell? ⟨B, 3, none⟩ = some (.int .i64 dr) := cell_obj he
            have n4 : w3.cell? ⟨B, 4, none⟩ = some (.int .i64 (fr + 1)) := cell_obj he
            have n5 : w3.cell? ⟨B, 5, none⟩ = some (.bool true) := cell_obj he
            clear he
            go_wp2
            go_ret
            refine ⟨rfl, ?_⟩; repeat (first | exact hb3.out.alloc hle.out _ | refine Below.setCell ?_ hle.out _)
        · have e1 : (sg == 0) = false := by simp [hs0]
          clear e3
          cases pt
          · have n0 : w3.cell? ⟨B, 0, none⟩ = some (.int .i64 (wrap64 (wrap64 (hd * 10) + (ch + 208) % 256))) := cell_obj he
            have n1 : w3.cell? ⟨B, 1, none⟩ = some (.int .i64 tl) := cell_obj he
            have n2 : w3.cell? ⟨B, 2, none⟩ = some (.int .i64 (sg + 1)) := cell_obj he
            have n3 : w3.cell? ⟨B, 3, none⟩ = some (.int .i64 dr) := cell_obj he
            have n4 : w3.cell? ⟨B, 4, none⟩ = some (.int .i64 fr) := cell_obj he
            have n5 : w3.cell? ⟨B, 5, none⟩ = some (.bool false) := cell_obj he
            clear he
            go_wp2
            go_ret
            refine ⟨rfl, ?_⟩; repeat (first | exact hb3.out.alloc hle.out _ | refine Below.setCell ?_ hle.out _)
          · have n0 : w3.cell? ⟨B, 0, none⟩ = some (.int .i64 (wrap64 (wrap64 (hd * 10) + (ch + 208) % 256))) := cell_obj he
            have n1 : w3.cell? ⟨B, 1, none⟩ = some (.int .i64 tl) := cell_obj he
            have n2 : w3.cell? ⟨B, 2, none⟩ = some (.int .i64 (sg + 1)) := cell_obj he
            have n3 : w3.cell? ⟨B, 3, none⟩ = some (.int .i64 dr) := cell_obj he
            have n4 : w3.cell? ⟨B, 4, none⟩ = some (.int .i64 (fr + 1)) := cell_obj he
            have n5 : w3.cell? ⟨B, 5, none⟩ = some (.bool true) := cell_obj he
            clear he
            go_wp2
            go_ret
            refine ⟨rfl, ?_⟩; repeat (first | exact hb3.out.alloc hle.out _ | refine Below.setCell ?_ hle.out _)
      · rw [if_neg hC] at he
        have e1 : (sg == 0) = false := by simp; omega
        clear e3
        by_cases hD : sg < 36
        · rw [if_pos hD] at he
          cases pt
          · have n0 : w3.cell? ⟨B, 0, none⟩ = some (.int .i64 hd) := cell_obj he
            have n1 : w3.cell? ⟨B, 1, none⟩ = some (.int .i64 (wrap64 (wrap64 (tl * 10) + (ch + 208) % 256))) := cell_obj he
            have n2 : w3.cell? ⟨B, 2, none⟩ = some (.int .i64 (sg + 1)) := cell_obj he
            have n3 : w3.cell? ⟨B, 3, none⟩ = some (.int .i64 dr) := cell_obj he
            have n4 : w3.cell? ⟨B, 4, none⟩ = some (.int .i64 fr) := cell_obj he
            have n5 : w3.cell? ⟨B, 5, none⟩ = some (.bool false) := cell_obj he
            clear he
            go_wp2
            go_ret
            refine ⟨rfl, ?_⟩; repeat (first | exact hb3.out.alloc hle.out _ | refine Below.setCell ?_ hle.out _)
          · have n0 : w3.cell? ⟨B, 0, none⟩ = some (.int .i64 hd) := cell_obj he
            have n1 : w3.cell? ⟨B, 1, none⟩ = some (.int .i64 (wrap64 (wrap64 (tl * 10) + (ch + 208) % 256))) := cell_obj he
            have n2 : w3.cell? ⟨B, 2, none⟩ = some (.int .i64 (sg + 1)) := cell_obj he
            have n3 : w3.cell? ⟨B, 3, none⟩ = some (.int .i64 dr) := cell_obj he
            have n4 : w3.cell? ⟨B, 4, none⟩ = some (.int .i64 (fr + 1)) := cell_obj he
            have n5 : w3.cell? ⟨B, 5, none⟩ = some (.bool true) := cell_obj he
            clear he
            go_wp2
            go_ret
            refine ⟨rfl, ?_⟩; repeat (first | exact hb3.out.alloc hle.out _ | refine Below.setCell ?_ hle.out _)
        · rw [if_neg hD] at he
          cases pt
          · have n0 : w3.cell? ⟨B, 0, none⟩ = some (.int .i64 hd) := cell_obj he
            have n1 : w3.cell? ⟨B, 1, none⟩ = some (.int .i64 tl) := cell_obj he
            have n2 : w3.cell? ⟨B, 2, none⟩ = some (.int .i64 sg) := cell_obj he
            have n3 : w3.cell? ⟨B, 3, none⟩ = some (.int .i64 (dr + 1)) := cell_obj he
            have n4 : w3.cell? ⟨B, 4, none⟩ = some (.int .i64 fr) := cell_obj he
            have n5 : w3.cell? ⟨B, 5, none⟩ = some (.bool false) := cell_obj he
            clear he
            go_wp2
            go_ret
            refine ⟨rfl, ?_⟩; repeat (first | exact hb3.out.alloc hle.out _ | refine Below.setCell ?_ hle.out _)
          · have n0 : w3.cell? ⟨B, 0, none⟩ = some (.int .i64 hd) := cell_obj he
            have n1 : w3.cell? ⟨B, 1, none⟩ = some (.int .i64 tl) := cell_obj he
            have n2 : w3.cell? ⟨B, 2, none⟩ = some (.int .i64 sg) := cell_obj he
            have n3 : w3.cell? ⟨B, 3, none⟩ = some (.int .i64 (dr + 1)) := cell_obj he
            have n4 : w3.cell? ⟨B, 4, none⟩ = some (.int .i64 (fr + 1)) := cell_obj he
            have n5 : w3.cell? ⟨B, 5, none⟩ = some (.bool true) := cell_obj he
            clear he
            go_wp2
            go_ret
            refine ⟨rfl, ?_⟩; repeat (first | exact hb3.out.alloc hle.out _ | refine Below.setCell ?_ hle.out _)
  · go_wp2
    go_ret
    exact ⟨rfl, Below.refl _ _⟩
end Go.Proofs.Ybulkcidk
