import Derived.Test.YbulkcibuChecked
import Derived.Test.YbulkcibuPlain
import Derived.WalkKit
import Derived.WalkLawsBesides
import Derived.WalkSpells
import Derived.Deep.QuietTactic
import Derived.BigQuiet
import Derived.BigRegion
import Derived.RegionTactic
import Derived.Deep.LoopGhost
import Derived.Lib.Bytealg
import Derived.Lib.Walk
import Derived.Lib.Small
import Derived.Sort.Grow
import Derived.LaidEqlPtr
namespace Go.Proofs.Ybulkcibu
open Go.RowKit

/-- A pointer to block number i; nil for none. -/
def ptr (A : Nat → Nat) (i : Nat) : Value := .pointer (some ⟨A i, 0, none⟩)
def optPtr (A : Nat → Nat) : Option Nat → Value
  | none => .pointer none
  | some c => ptr A c
/-- A block's hash. -/
def hashOf (i : Nat) : ByteArray := if i = 0 then ⟨#[114]⟩ else ⟨#[98]⟩

/-- The plain tree. -/
structure Tr where
  n : Nat
  par : Nat → Nat
  arr : Nat → Int
  app : Nat → Bool
  dsp : Nat → Int
/-- What is known of it. -/
structure Tr.Ok (T : Tr) : Prop where
  pos : 0 < T.n
  len : T.n ≤ 513
  par : ∀ i, i ≠ 0 → i < T.n → T.par i < i
  arr0 : ∀ i, i < T.n → 0 ≤ T.arr i
  up : ∀ i, i < T.n → T.arr 0 ≤ T.arr i
  dsp0 : ∀ i, i < T.n → 0 ≤ T.dsp i ∧ T.dsp i ≤ 3
/-- A block that is no root is sound at the time now. -/
def Tr.snd (T : Tr) (now : Int) (i : Nat) : Bool := (T.app i || decide (now - T.arr i ≤ 120)) && !decide (T.dsp i = 2)

/-- THE BLOCKS IN MEMORY. -/
structure TreeAt (w : World) (A : Nat → Nat) (T : Tr) : Prop where
  obj : ∀ i, i < T.n → ∃ c, w.heap[A i]? = some (.cells c 34 (0, 0))
  inj : ∀ i j, i < T.n → j < T.n → A i = A j → i = j
  slot : ∀ i, i < T.n → w.cell? ⟨A i, 0, none⟩ = some (.int .u64 i)
  hash : ∀ i, i < T.n → w.cell? ⟨A i, 1, none⟩ = some (.string (hashOf i))
  parent : ∀ i, i < T.n → i ≠ 0 → w.cell? ⟨A i, 2, none⟩ = some (ptr A (T.par i))
  jump : ∀ i, i < T.n → w.cell? ⟨A i, 4, none⟩ = some (.pointer none)
  child : ∀ i, i < T.n → w.cell? ⟨A i, 5, none⟩ = some (optPtr A (lastChild T.par i T.n))
  sibling : ∀ i, i < T.n → i ≠ 0 → w.cell? ⟨A i, 6, none⟩ = some (optPtr A (lastChild T.par (T.par i) i))
  arrived : ∀ i, i < T.n → w.cell? ⟨A i, 9, none⟩ = some (.int .u64 (T.arr i))
  approved : ∀ i, i < T.n → w.cell? ⟨A i, 10, none⟩ = some (.bool (T.app i))
  dispute : ∀ i, i < T.n → w.cell? ⟨A i, 11, none⟩ = some (.int .u8 (T.dsp i))

theorem TreeAt.lt {w : World} {A : Nat → Nat} {T : Tr} (h : TreeAt w A T) (i : Nat) (hi : i < T.n) : A i < w.heap.size := by
  obtain ⟨c, hc⟩ := h.obj i hi
  exact (Array.getElem?_eq_some_iff.1 hc).1
theorem TreeAt.below {w w' : World} {A : Nat → Nat} {T : Tr} (hb : Below w.heap.size w w') (h : TreeAt w A T) : TreeAt w' A T where
  obj i hi := by rw [hb.block _ (h.lt i hi)]; exact h.obj i hi
  inj := h.inj
  slot i hi := by rw [hb.cell (p := ⟨A i, 0, none⟩) (h.lt i hi)]; exact h.slot i hi
  hash i hi := by rw [hb.cell (p := ⟨A i, 1, none⟩) (h.lt i hi)]; exact h.hash i hi
  parent i hi h0 := by rw [hb.cell (p := ⟨A i, 2, none⟩) (h.lt i hi)]; exact h.parent i hi h0
  jump i hi := by rw [hb.cell (p := ⟨A i, 4, none⟩) (h.lt i hi)]; exact h.jump i hi
  child i hi := by rw [hb.cell (p := ⟨A i, 5, none⟩) (h.lt i hi)]; exact h.child i hi
  sibling i hi h0 := by rw [hb.cell (p := ⟨A i, 6, none⟩) (h.lt i hi)]; exact h.sibling i hi h0
  arrived i hi := by rw [hb.cell (p := ⟨A i, 9, none⟩) (h.lt i hi)]; exact h.arrived i hi
  approved i hi := by rw [hb.cell (p := ⟨A i, 10, none⟩) (h.lt i hi)]; exact h.approved i hi
  dispute i hi := by rw [hb.cell (p := ⟨A i, 11, none⟩) (h.lt i hi)]; exact h.dispute i hi

theorem Yba.info34 : (Yba.prog.info? 34).map (fun i => i.size) = some 13 := by kernel_rfl

/-- '==' between two blocks. -/
theorem TreeAt.eql {w : World} {A : Nat → Nat} {T : Tr} (h : TreeAt w A T) {i j : Nat} (hi : i < T.n) (hj : j < T.n) : (binOp .eql 28 (ptr A i) (ptr A j)).run Yba.prog w = .ok (.bool (decide (i = j))) w := by
  obtain ⟨info, hinfo, hsz⟩ := Option.map_eq_some_iff.1 Yba.info34
  by_cases e : i = j
  · subst e
    simpa [ptr] using run_eql_ptr_same (P := Yba.prog) w ⟨A i, 0, none⟩ Yba.underlying28 hinfo
  · obtain ⟨c, hc⟩ := h.obj i hi
    obtain ⟨d, hd⟩ := h.obj j hj
    have hne : (⟨A i, 0, none⟩ : Addr) ≠ ⟨A j, 0, none⟩ := fun he => e (h.inj i j hi hj (by simpa using he))
    simpa [ptr, e] using run_eql_ptr_other (P := Yba.prog) w Yba.underlying28 hinfo (by rw [hsz]; decide) hne hc hd
theorem neq_of_eql {P : Program} {w : World} {t : TypeId} {x y : Option Addr} {b : Bool} (h : (binOp .eql t (.pointer x) (.pointer y)).run P w = .ok (.bool b) w) : (binOp .neq t (.pointer x) (.pointer y)).run P w = .ok (.bool (!b)) w := by
  simp only [binOp] at h ⊢
  cases hh : (Op.equal t (.pointer x) (.pointer y)).run P w with
  | ok r w' =>
    simp [hh] at h ⊢
    exact ⟨h.1, h.2⟩
  | _ => simp [hh] at h

/-- cmp.Compare at uint64. -/
theorem cmp_any (x y : Int) (w : World) : Calls Yba.prog 17 #[.int .u64 x, .int .u64 y] w fun e w' => e = .returned (.int .i64 (Lib.compareInt x y)) ∧ w' = w := by
  have h1 : (x != x) = false := by simp
  have h2 : (y != y) = false := by simp
  unfold Lib.compareInt
  by_cases hlt : x < y
  · rw [if_pos hlt]
    go_enter Yba.func17, Yba.ntmps17
    go_wp2
    go_ret
    exact ⟨rfl, rfl⟩
  · by_cases hgt : y < x
    · rw [if_neg hlt, if_pos hgt]
      go_enter Yba.func17, Yba.ntmps17
      go_wp2
      go_ret
      exact ⟨rfl, rfl⟩
    · rw [if_neg hlt, if_neg hgt]
      go_enter Yba.func17, Yba.ntmps17
      go_wp2
      go_ret
      exact ⟨rfl, rfl⟩

set_option maxRecDepth 100000 in
theorem cmpstr_any (a b : ByteArray) (w : World) : Calls Yba.prog 18 #[.string a, .string b] w fun e w' => e = .returned (.int .i64 (Lib.compareBytes a.data.toList b.data.toList)) ∧ w' = w := by
  have hr := Lib.run_compareString (P := Yba.prog) a b w
  have hx := run_callFunc_extern Yba.func36 (by kernel_rfl) (by kernel_rfl) (by kernel_rfl) (e := Extern.BytealgCompare.compare) (by kernel_rfl) #[.string a, .string b] w
  rw [hr] at hx
  generalize Lib.compareBytes a.data.toList b.data.toList = r at *
  go_enter Yba.func18, Yba.ntmps18
  go_wp2
  go_ret
  exact ⟨rfl, rfl⟩

theorem id_any (b : Nat) (s : Int) (h : ByteArray) (w : World) (h0 : w.cell? ⟨b, 0, none⟩ = some (.int .u64 s)) (h1 : w.cell? ⟨b, 1, none⟩ = some (.string h)) :
    Calls Yba.prog 13 #[.pointer (some ⟨b, 0, none⟩)] w fun e w' => e = .returned (.agg #[.int .u64 s, .string h]) ∧ w' = (w.alloc (.cells #[.int .u64 s, .string h] 62)).drew := by
  have hlt := World.block_lt_of_cell? w _ h0
  have k0 : (w.alloc (.cells #[.int .u64 0, .string ByteArray.empty] 62)).cell? ⟨b, 0, none⟩ = some (.int .u64 s) := by rw [((Below.refl w.heap.size w).alloc (Nat.le_refl _) _).cell (p := ⟨b, 0, none⟩) hlt]; exact h0
  have k1 : (w.alloc (.cells #[.int .u64 0, .string ByteArray.empty] 62)).cell? ⟨b, 1, none⟩ = some (.string h) := by rw [((Below.refl w.heap.size w).alloc (Nat.le_refl _) _).cell (p := ⟨b, 1, none⟩) hlt]; exact h1
  go_enter Yba.func13, Yba.ntmps13
  go_wp2
  go_region
  go_wp2
  exact bodyPost_ret (v := .agg #[.int .u64 s, .string h]) (by simp [results, Yba.results13, go_sem]) rfl ⟨rfl, rfl⟩

/-- What compareIDs answers. -/
def cmpID (x y : Int) (h k : ByteArray) : Int := if Lib.compareInt x y = 0 then Lib.compareBytes h.data.toList k.data.toList else Lib.compareInt x y

theorem compareIDs_any (x y : Int) (h k : ByteArray) (w : World) : Calls Yba.prog 12 #[.agg #[.int .u64 x, .string h], .agg #[.int .u64 y, .string k]] w fun e w' =>
    e = .returned (.int .i64 (cmpID x y h k)) ∧ w' = (w.alloc (.cells #[.int .u64 x, .string h] 62)).alloc (.cells #[.int .u64 y, .string k] 62) := by
  have hc1 := fun (w : World) => cmp_any x y w
  have hc2 := fun (w : World) => cmpstr_any h k w
  unfold cmpID
  generalize Lib.compareInt x y = c at *
  generalize Lib.compareBytes h.data.toList k.data.toList = d at *
  by_cases hz : c = 0
  · subst hz
    rw [if_pos rfl]
    go_enter Yba.func12, Yba.ntmps12
    go_wp2_with (first | (go_at_call 17; refine (hc1 _).mono ?_; rintro e w' ⟨rfl, rfl⟩) | (go_at_call 18; refine (hc2 _).mono ?_; rintro e w' ⟨rfl, rfl⟩))
    go_ret
    exact ⟨rfl, rfl⟩
  · rw [if_neg hz]
    have hb : (c != 0) = true := by simpa using hz
    go_enter Yba.func12, Yba.ntmps12
    go_wp2_with (first | (go_at_call 17; refine (hc1 _).mono ?_; rintro e w' ⟨rfl, rfl⟩) | (go_at_call 18; refine (hc2 _).mono ?_; rintro e w' ⟨rfl, rfl⟩))
    go_ret
    exact ⟨rfl, rfl⟩

/-- The world has grown, and draws were made. -/
def IsG (W w' : World) : Prop := ∃ q os', w' = Sort.grow (W.drewN q) os'
theorem IsG.refl (W : World) : IsG W W := ⟨0, #[], by simp [World.drewN]⟩
theorem IsG.alloc {W w' : World} (h : IsG W w') (o : Obj) : IsG W (w'.alloc o) := by
  obtain ⟨q, os, rfl⟩ := h
  exact ⟨q, os ++ #[o], by rw [Sort.alloc_eq_grow, Sort.grow_grow]⟩
theorem IsG.drew {W w' : World} (h : IsG W w') : IsG W w'.drew := by
  obtain ⟨q, os, rfl⟩ := h
  exact ⟨q + 1, os, rfl⟩

theorem closure11 (a b : Nat) (x y : Int) (h k : ByteArray) (w : World) (a0 : w.cell? ⟨a, 0, none⟩ = some (.int .u64 x)) (a1 : w.cell? ⟨a, 1, none⟩ = some (.string h)) (b0 : w.cell? ⟨b, 0, none⟩ = some (.int .u64 y)) (b1 : w.cell? ⟨b, 1, none⟩ = some (.string k)) :
    Calls Yba.prog 11 #[.pointer (some ⟨a, 0, none⟩), .pointer (some ⟨b, 0, none⟩)] w fun e w' => e = .returned (.int .i64 (cmpID x y h k)) ∧ IsG w w' := by
  have hlt := World.block_lt_of_cell? w _ b0
  have b0' : (w.alloc (.cells #[.int .u64 x, .string h] 62)).drew.cell? ⟨b, 0, none⟩ = some (.int .u64 y) := by rw [((Below.refl w.heap.size w).alloc (Nat.le_refl _) (.cells #[.int .u64 x, .string h] 62)).drew.cell (p := ⟨b, 0, none⟩) hlt]; exact b0
  have b1' : (w.alloc (.cells #[.int .u64 x, .string h] 62)).drew.cell? ⟨b, 1, none⟩ = some (.string k) := by rw [((Below.refl w.heap.size w).alloc (Nat.le_refl _) (.cells #[.int .u64 x, .string h] 62)).drew.cell (p := ⟨b, 1, none⟩) hlt]; exact b1
  have c1 := id_any a x h w a0 a1
  have c2 := id_any b y k _ b0' b1'
  have c3 := fun W => compareIDs_any x y h k W
  clear a0 a1 b0 b1 b0' b1'
  generalize cmpID x y h k = r at *
  go_enter Yba.func11, Yba.ntmps11
  go_wp2_with fail
  refine c1.mono ?_
  rintro e w' ⟨rfl, hw'⟩
  have hw'' := hw'.symm
  subst hw''
  go_wp2_with fail
  refine c2.mono ?_
  rintro e w' ⟨rfl, hw'⟩
  have hw'' := hw'.symm
  subst hw''
  go_wp2_with fail
  refine (c3 _).mono ?_
  rintro e w' ⟨rfl, hw'⟩
  have hw'' := hw'.symm
  subst hw''
  go_wp2
  go_ret
  exact ⟨rfl, (((((IsG.refl w).alloc _).drew.alloc _).drew.alloc _).alloc _)⟩
end Go.Proofs.Ybulkcibu
