import Derived.Test.YbulkcidkChecked
import Derived.WalkKit
import Derived.WalkLawsBesides
import Derived.WalkSpells
import Derived.Deep.QuietTactic
import Derived.BigQuiet
import Derived.Deep.LoopGhost
import Derived.Below
namespace Go.Proofs.Ybulkcidk
open Go.RowKit

/-- A decimal's six cells. -/
structure Dec where
  hd : Int
  tl : Int
  sg : Int
  dr : Int
  fr : Int
  pt : Bool
def Dec.cells (d : Dec) : Array Value := #[.int .i64 d.hd, .int .i64 d.tl, .int .i64 d.sg, .int .i64 d.dr, .int .i64 d.fr, .bool d.pt]
def Dec.obj (d : Dec) : Obj := .cells d.cells 42 (0, 0)

/-- The digit's value. -/
def dig (c : Int) : Int := if c < 48 then c + 208 else c - 48

def Dec.frac (d : Dec) : Dec := if d.pt then { d with fr := d.fr + 1 } else d
/-- One digit more. -/
def Dec.step (d : Dec) (v : Int) : Dec :=
  if d.sg = 0 ∧ v = 0 then d.frac
  else if d.sg < 18 then ({ d with hd := wrap64 (wrap64 (d.hd * 10) + v), sg := d.sg + 1 } : Dec).frac
  else if d.sg < 36 then ({ d with tl := wrap64 (wrap64 (d.tl * 10) + v), sg := d.sg + 1 } : Dec).frac
  else ({ d with dr := d.dr + 1 } : Dec).frac

/-- Only block b turns. -/
structure On (b : Nat) (w w' : World) : Prop where
  os : w'.os = w.os
  tape : w'.tape = w.tape
  output : w'.output = w.output
  size : w'.heap.size = w.heap.size
  block : ∀ k, k ≠ b → w'.heap[k]? = w.heap[k]?
theorem On.refl (b : Nat) (w : World) : On b w w := ⟨rfl, rfl, rfl, rfl, fun _ _ => rfl⟩
theorem On.set {b : Nat} {w w' : World} (h : On b w w') (j : Nat) (v : Value) : On b w (w'.setCell ⟨b, j, none⟩ v) :=
  ⟨h.os, h.tape, h.output, by simpa using h.size, fun k hk => by rw [Below.heap_setCell _ _ _ _ hk]; exact h.block k hk⟩
theorem On.drew {b : Nat} {w w' : World} (h : On b w w') : On b w w'.drew := ⟨h.os, h.tape, h.output, h.size, h.block⟩
theorem On.below {b : Nat} {a w w' : World} (h : On b w w') {B : Nat} (hb : Below B a w) (hB : B ≤ b) : Below B a w' :=
  ⟨h.os.trans hb.os, h.tape.trans hb.tape, h.output.trans hb.output, by rw [h.size]; exact hb.size, fun k hk => by rw [h.block k (by omega)]; exact hb.block k hk⟩

theorem On.cell {b : Nat} {w w' : World} (h : On b w w') {p : Addr} (hp : p.block ≠ b) : w'.cell? p = w.cell? p := by
  unfold World.cell?
  rw [h.block _ hp]
theorem On.trans {b : Nat} {a w w' : World} (h : On b a w) (k : On b w w') : On b a w' :=
  ⟨k.os.trans h.os, k.tape.trans h.tape, k.output.trans h.output, k.size.trans h.size, fun j hj => (k.block j hj).trans (h.block j hj)⟩

theorem set_obj {w : World} {b j : Nat} {c : Array Value} {e : TypeId} {z : Nat × Nat} (v : Value) (h : w.heap[b]? = some (.cells c e z)) : (w.setCell ⟨b, j, none⟩ v).heap[b]? = some (.cells (c.setIfInBounds j v) e z) := by
  unfold World.setCell
  simp only [Array.getElem?_modify, if_true, h, Option.map_some]
  rfl
theorem cell_obj {w : World} {b j : Nat} {c : Array Value} {e : TypeId} {z : Nat × Nat} (h : w.heap[b]? = some (.cells c e z)) : w.cell? ⟨b, j, none⟩ = c[j]? := by
  unfold World.cell?
  rw [h]
  rfl
theorem free_obj {w : World} {b j : Nat} {c : Array Value} {e : TypeId} (h : w.heap[b]? = some (.cells c e (0, 0))) : w.frozen? ⟨b, j, none⟩ = false := by
  unfold World.frozen?
  rw [h]
  simp

theorem point_any (b : Nat) (d : Dec) (w : World) (h : w.heap[b]? = some d.obj) :
    Calls Yba.prog 13 #[.pointer (some ⟨b, 0, none⟩)] w fun e w' => e = .returned (.tuple #[]) ∧ On b w w' ∧ w'.heap[b]? = some ({ d with pt := true } : Dec).obj := by
  have c5 : w.cell? ⟨b, 5, none⟩ = some (.bool d.pt) := cell_obj h
  have hz := free_obj (j := 5) h
  have H : Hid (w.heap[b]? = some d.obj) := h
  clear h
  go_enter Yba.func13, Yba.ntmps13
  go_wp2
  refine bodyPost_end (results_none rfl _ _ _) rfl ?_
  exact ⟨rfl, (On.refl _ _).set _ _, set_obj _ H.out⟩

set_option maxHeartbeats 2000000 in
theorem digit_any (b : Nat) (d : Dec) (c : Int) (w : World) (h : w.heap[b]? = some d.obj) (hc1 : 0 ≤ c) (hc2 : c ≤ 255) (hs1 : 0 ≤ d.sg) (hs2 : d.sg ≤ 36) (hd1 : 0 ≤ d.dr) (hd2 : d.dr ≤ 2000) (hf1 : 0 ≤ d.fr) (hf2 : d.fr ≤ 2000) :
    Calls Yba.prog 9 #[.pointer (some ⟨b, 0, none⟩), .int .u8 c] w fun e w' => e = .returned (.tuple #[]) ∧ On b w w' ∧ w'.heap[b]? = some (d.step (dig c)).obj := by
  have H : Hid (w.heap[b]? = some d.obj) := h
  obtain ⟨hd, tl, sg, dr, fr, pt⟩ := d
  have c0 : w.cell? ⟨b, 0, none⟩ = some (.int .i64 hd) := cell_obj h
  have c1 : w.cell? ⟨b, 1, none⟩ = some (.int .i64 tl) := cell_obj h
  have c2 : w.cell? ⟨b, 2, none⟩ = some (.int .i64 sg) := cell_obj h
  have c3 : w.cell? ⟨b, 3, none⟩ = some (.int .i64 dr) := cell_obj h
  have c4 : w.cell? ⟨b, 4, none⟩ = some (.int .i64 fr) := cell_obj h
  have c5 : w.cell? ⟨b, 5, none⟩ = some (.bool pt) := cell_obj h
  have z0 := free_obj (j := 0) h
  have z1 := free_obj (j := 1) h
  have z2 := free_obj (j := 2) h
  have z3 := free_obj (j := 3) h
  have z4 := free_obj (j := 4) h
  clear h
  simp only at hs1 hs2 hd1 hd2 hf1 hf2
  have hw : IntKind.u8.wrap (c - 48) = dig c := by
    unfold dig
    simp [IntKind.wrap, IntKind.bits, IntKind.signed]
    split <;> omega
  have hv1 : 0 ≤ dig c := by unfold dig; split <;> omega
  have hv2 : dig c ≤ 255 := by unfold dig; split <;> omega
  generalize dig c = v at *
  have E : Hid (w.heap[b]? = some (Obj.cells #[.int .i64 hd, .int .i64 tl, .int .i64 sg, .int .i64 dr, .int .i64 fr, .bool pt] 42 (0, 0))) := H.out
  clear H
  go_enter Yba.func9, Yba.ntmps9
  by_cases hA : sg = 0 ∧ v = 0
  · have e1 : (sg == 0) = true := by simp [hA.1]
    have e2 : (v == 0) = true := by simp [hA.2]
    have hst : Hid (Dec.step ⟨hd, tl, sg, dr, fr, pt⟩ v = Dec.frac ⟨hd, tl, sg, dr, fr, pt⟩) := if_pos hA
    cases pt
    · go_wp2
      refine bodyPost_end (results_none rfl _ _ _) rfl ?_
      exact ⟨rfl, On.refl _ _, by rw [hst.out]; exact E.out⟩
    · go_wp2
      refine bodyPost_end (results_none rfl _ _ _) rfl ?_
      exact ⟨rfl, (On.refl _ _).set _ _, by rw [hst.out]; exact set_obj _ E.out⟩
  · have hA' : (decide (sg = 0) && decide (v = 0)) = false := by simpa using hA
    have hst : Hid (Dec.step ⟨hd, tl, sg, dr, fr, pt⟩ v = if sg < 18 then Dec.frac ⟨wrap64 (wrap64 (hd * 10) + v), tl, sg + 1, dr, fr, pt⟩
      else if sg < 36 then Dec.frac ⟨hd, wrap64 (wrap64 (tl * 10) + v), sg + 1, dr, fr, pt⟩ else Dec.frac ⟨hd, tl, sg, dr + 1, fr, pt⟩) := if_neg hA
    have e3 : ∀ x y : Bool, (sg == 0) = x → (x = true → (v == 0) = false) := fun x y h1 h2 => by subst h1; simp at h2 ⊢; omega
    clear hA hA'
    by_cases hB : sg < 18
    · have hst2 : Hid (Dec.step ⟨hd, tl, sg, dr, fr, pt⟩ v = Dec.frac ⟨wrap64 (wrap64 (hd * 10) + v), tl, sg + 1, dr, fr, pt⟩) := by rw [hst.out, if_pos hB]; trivial
      by_cases hz : sg = 0
      · have e1 : (sg == 0) = true := by simp [hz]
        have e2 : (v == 0) = false := e3 _ true e1 rfl
        clear hst e3
        have hst2 : Hid (Dec.step ⟨hd, tl, sg, dr, fr, pt⟩ v = Dec.frac ⟨wrap64 (wrap64 (hd * 10) + v), tl, 1, dr, fr, pt⟩) := by rw [hst2.out, hz]; trivial
        cases pt
        · go_wp2
          refine bodyPost_end (results_none rfl _ _ _) rfl ?_
          exact ⟨rfl, ((On.refl _ _).set _ _).set _ _, by rw [hst2.out]; exact set_obj _ (set_obj _ E.out)⟩
        · go_wp2
          refine bodyPost_end (results_none rfl _ _ _) rfl ?_
          exact ⟨rfl, (((On.refl _ _).set _ _).set _ _).set _ _, by rw [hst2.out]; exact set_obj _ (set_obj _ (set_obj _ E.out))⟩
      · have e1 : (sg == 0) = false := by simp [hz]
        clear hst e3
        cases pt
        · go_wp2
          refine bodyPost_end (results_none rfl _ _ _) rfl ?_
          exact ⟨rfl, ((On.refl _ _).set _ _).set _ _, by rw [hst2.out]; exact set_obj _ (set_obj _ E.out)⟩
        · go_wp2
          refine bodyPost_end (results_none rfl _ _ _) rfl ?_
          exact ⟨rfl, (((On.refl _ _).set _ _).set _ _).set _ _, by rw [hst2.out]; exact set_obj _ (set_obj _ (set_obj _ E.out))⟩
    · have e1 : (sg == 0) = false := by simp; omega
      by_cases hC : sg < 36
      · have hst2 : Hid (Dec.step ⟨hd, tl, sg, dr, fr, pt⟩ v = Dec.frac ⟨hd, wrap64 (wrap64 (tl * 10) + v), sg + 1, dr, fr, pt⟩) := by rw [hst.out, if_neg hB, if_pos hC]; trivial
        clear hst e3
        cases pt
        · go_wp2
          refine bodyPost_end (results_none rfl _ _ _) rfl ?_
          exact ⟨rfl, ((On.refl _ _).set _ _).set _ _, by rw [hst2.out]; exact set_obj _ (set_obj _ E.out)⟩
        · go_wp2
          refine bodyPost_end (results_none rfl _ _ _) rfl ?_
          exact ⟨rfl, (((On.refl _ _).set _ _).set _ _).set _ _, by rw [hst2.out]; exact set_obj _ (set_obj _ (set_obj _ E.out))⟩
      · have hst2 : Hid (Dec.step ⟨hd, tl, sg, dr, fr, pt⟩ v = Dec.frac ⟨hd, tl, sg, dr + 1, fr, pt⟩) := by rw [hst.out, if_neg hB, if_neg hC]; trivial
        clear hst e3
        cases pt
        · go_wp2
          refine bodyPost_end (results_none rfl _ _ _) rfl ?_
          exact ⟨rfl, (On.refl _ _).set _ _, by rw [hst2.out]; exact set_obj _ E.out⟩
        · go_wp2
          refine bodyPost_end (results_none rfl _ _ _) rfl ?_
          exact ⟨rfl, ((On.refl _ _).set _ _).set _ _, by rw [hst2.out]; exact set_obj _ (set_obj _ E.out)⟩
end Go.Proofs.Ybulkcidk
