import Derived.Test.YbulkciasChecked
import Derived.WalkKit
import Derived.Lib.Strings
import Derived.Lib.Slices
import Derived.Lib.Walk
import Derived.Lib.Bytes
import Derived.Lib.BytesEntry
namespace Go.Proofs.Ybulkcias
open Go.RowKit

/-- THE KEY k LIES FROM THE HEAD OF BLOCK b ON. -/
def KeyAt (w : World) (b : Nat) (k : List UInt8) : Prop :=
  ∀ i, i < k.length → w.cell? ⟨b, i, none⟩ = some (.int .u8 ((k.getD i 0).toNat : Int))
/-- THE SLICE VALUE OF A KEY. -/
def kv (b : Nat) (k : List UInt8) : Value := .slice (some ⟨b, 0, none⟩) k.length k.length
/-- The key's bytes as numbers. -/
def nums (k : List UInt8) : List Int := k.map fun c => (c.toNat : Int)
theorem nums_length (k : List UInt8) : (nums k).length = k.length := by simp [nums]
theorem nums_getD (k : List UInt8) (i : Nat) : (nums k).getD i 0 = ((k.getD i 0).toNat : Int) := by
  unfold nums
  rw [List.getD_eq_getElem?_getD, List.getD_eq_getElem?_getD, List.getElem?_map]
  cases k[i]? <;> simp
theorem bytesOf_nums (k : List UInt8) : Lib.bytesOf (nums k) = k := by
  unfold Lib.bytesOf nums
  rw [List.map_map]
  conv => rhs; rw [← List.map_id k]
  apply List.map_congr_left
  intro c _
  simp
theorem KeyAt.nums {w : World} {b : Nat} {k : List UInt8} (h : KeyAt w b k) : ∀ i, i < k.length → w.cell? ⟨b, 0 + i, none⟩ = some (.int .u8 ((nums k).getD i 0)) := by
  intro i hi
  rw [nums_getD, Nat.zero_add]
  exact h i hi

/-- bytes.Equal. -/
theorem equal_any (b b' : Nat) (k k' : List UInt8) (w : World) (h : KeyAt w b k) (h' : KeyAt w b' k') :
    Calls Yba.prog 7 #[kv b k, kv b' k'] w fun e w' => e = .returned (.bool (k == k')) ∧ w' = w := by
  have h1 := run_convert_bytes_arg (P := Yba.prog) w 23 5 Yba.underlying23 Yba.underlying5 b 0 k.length k.length (nums k) (nums_length k) h.nums 9 Yba.underlying9
  have h2 := run_convert_bytes_arg (P := Yba.prog) w 23 5 Yba.underlying23 Yba.underlying5 b' 0 k'.length k'.length (nums k') (nums_length k') h'.nums 9 Yba.underlying9
  have e : (k == k') = ((strOfNums (nums k)).toList == (strOfNums (nums k')).toList) := by rw [Lib.strOfNums_toList, Lib.strOfNums_toList, bytesOf_nums, bytesOf_nums]
  rw [e]
  unfold kv
  clear e h h'
  generalize strOfNums (nums k) = s at *
  generalize strOfNums (nums k') = s' at *
  go_enter Yba.func7, Yba.ntmps7
  go_wp2
  go_ret
  exact ⟨rfl, rfl⟩

/-- The model's entry internal/bytealg.Compare at two such slices. -/
theorem run_compareKeys (b b' : Nat) (k k' : List UInt8) (w : World) (h : KeyAt w b k) (h' : KeyAt w b' k') :
    (Extern.BytealgCompare.compare #[kv b k, kv b' k']).run Yba.prog w = .ok (.int .i64 (Lib.compareBytes k k')) w := by
  have key : ∀ (b : Nat) (k : List UInt8), KeyAt w b k → (Extern.Bytes.loadBytes ⟨b, 0, none⟩ k.length .empty).run Yba.prog w = .ok ⟨k.toArray⟩ w := by
    intro b k h
    have hl := Lib.run_loadBytesX (P := Yba.prog) w (nums k) ⟨b, 0, none⟩ .empty (fun j x hj => by
      have hjl : j < (nums k).length := (List.getElem?_eq_some_iff.1 hj).1
      have e : (⟨b, 0, none⟩ : Addr).add j = ⟨b, 0 + j, none⟩ := by unfold Addr.add; split <;> simp_all
      rw [nums_length] at hjl
      rw [e, h.nums j hjl, List.getD_eq_getElem?_getD, hj]
      rfl)
    rw [nums_length, bytesOf_nums] at hl
    rw [hl]
    congr 1
    apply ByteArray.ext
    show (#[] : Array UInt8) ++ k.toArray = k.toArray
    simp
  have hs := Lib.run_compareString (P := Yba.prog) ⟨k.toArray⟩ ⟨k'.toArray⟩ w
  change Sem.run Yba.prog (do pure (goInt (Extern.BytealgCompare.cmp (← Extern.Bytes.bytesOf (kv b k)) (← Extern.Bytes.bytesOf (kv b' k'))))) w = _
  change Sem.run Yba.prog (do pure (goInt (Extern.BytealgCompare.cmp (← Extern.Bytes.bytesOf (.string ⟨k.toArray⟩)) (← Extern.Bytes.bytesOf (.string ⟨k'.toArray⟩))))) w = _ at hs
  simp only [kv, Extern.Bytes.bytesOf, Sem.run_bind, Sem.run_pure, key b k h, key b' k' h', Result.andThen] at hs ⊢
  exact hs

set_option maxRecDepth 100000 in
/-- bytes.Compare. -/
theorem compare_any (b b' : Nat) (k k' : List UInt8) (w : World) (h : KeyAt w b k) (h' : KeyAt w b' k') :
    Calls Yba.prog 10 #[kv b k, kv b' k'] w fun e w' => e = .returned (.int .i64 (Lib.compareBytes k k')) ∧ w' = w := by
  have hr := run_compareKeys b b' k k' w h h'
  have hx := run_callFunc_extern Yba.func17 (by kernel_rfl) (by kernel_rfl) (by kernel_rfl) (e := Extern.BytealgCompare.compare) (by kernel_rfl) #[kv b k, kv b' k'] w
  rw [hr] at hx
  clear h h'
  generalize Lib.compareBytes k k' = r at *
  generalize kv b k = v at *
  generalize kv b' k' = v' at *
  go_enter Yba.func10, Yba.ntmps10
  go_wp2
  go_ret
  exact ⟨rfl, rfl⟩

/-- The closure that the sort is given. -/
theorem closure9 (b b' : Nat) (k k' : List UInt8) (w : World) (h : KeyAt w b k) (h' : KeyAt w b' k') :
    Calls Yba.prog 9 #[kv b k, kv b' k'] w fun e w' => e = .returned (.int .i64 (Lib.compareBytes k k')) ∧ w' = w := by
  have hcon := compare_any b b' k k' w h h'
  clear h h'
  generalize Lib.compareBytes k k' = r at *
  generalize kv b k = v at *
  generalize kv b' k' = v' at *
  go_enter Yba.func9, Yba.ntmps9
  go_wp2_with (go_at_call 10; refine hcon.mono ?_; rintro e w' ⟨rfl, rfl⟩)
  go_ret
  exact ⟨rfl, rfl⟩

/-- compareKeys. -/
theorem compareKeys14 (b b' : Nat) (k k' : List UInt8) (w : World) (h : KeyAt w b k) (h' : KeyAt w b' k') :
    Calls Yba.prog 14 #[kv b k, kv b' k'] w fun e w' => e = .returned (.int .i64 (Lib.compareBytes k k')) ∧ w' = w := by
  have hcon := compare_any b b' k k' w h h'
  clear h h'
  generalize Lib.compareBytes k k' = r at *
  generalize kv b k = v at *
  generalize kv b' k' = v' at *
  go_enter Yba.func14, Yba.ntmps14
  go_wp2_with (go_at_call 10; refine hcon.mono ?_; rintro e w' ⟨rfl, rfl⟩)
  go_ret
  exact ⟨rfl, rfl⟩

/-- The closure that CompactFunc is given. -/
theorem closure12 (b b' : Nat) (k k' : List UInt8) (w : World) (h : KeyAt w b k) (h' : KeyAt w b' k') :
    Calls Yba.prog 12 #[kv b k, kv b' k'] w fun e w' => e = .returned (.bool (k == k')) ∧ w' = w := by
  have hcon := equal_any b b' k k' w h h'
  clear h h'
  generalize (k == k') = r at *
  generalize kv b k = v at *
  generalize kv b' k' = v' at *
  go_enter Yba.func12, Yba.ntmps12
  go_wp2_with (go_at_call 7; refine hcon.mono ?_; rintro e w' ⟨rfl, rfl⟩)
  go_ret
  exact ⟨rfl, rfl⟩
end Go.Proofs.Ybulkcias
