import Derived.Test.YbulkciasLeaf
import Derived.Test.YbulkciasCompactPlain
import Derived.Deep.LoopGhost
import Derived.Deep.QuietTactic
import Derived.BigQuiet
import Derived.Lib.SliceRun
import Derived.Sort.WalkA
import Derived.Sort.Grow
import Derived.Sort.WalkB12
import Derived.Deep.Draws
namespace Go.Proofs.Ybulkcias
open Go.RowKit Go.Sort

/-- All blocks but r are as they were. -/
structure But (r : Nat) (w w' : World) : Prop where
  os : w'.os = w.os
  tape : w'.tape = w.tape
  output : w'.output = w.output
  size : w.heap.size ≤ w'.heap.size
  block : ∀ k, k < w.heap.size → k ≠ r → w'.heap[k]? = w.heap[k]?

theorem But.refl (r : Nat) (w : World) : But r w w := ⟨rfl, rfl, rfl, Nat.le_refl _, fun _ _ _ => rfl⟩
theorem But.trans {r : Nat} {a b c : World} (h : But r a b) (k : But r b c) : But r a c :=
  ⟨k.os.trans h.os, k.tape.trans h.tape, k.output.trans h.output, Nat.le_trans h.size k.size, fun i hi hr => (k.block i (Nat.lt_of_lt_of_le hi h.size) hr).trans (h.block i hi hr)⟩
theorem But.below {r B : Nat} {w w' : World} (h : But r w w') (hB : B ≤ r) (hs : B ≤ w.heap.size) : Below B w w' :=
  ⟨h.os, h.tape, h.output, h.size, fun k hk => h.block k (by omega) (by omega)⟩
theorem But.drewN (r : Nat) (w : World) (n : Nat) : But r w (w.drewN n) := ⟨rfl, rfl, rfl, Nat.le_refl _, fun _ _ _ => rfl⟩
theorem But.ofMapBlock (r : Nat) (w : World) (f : Array Value → Array Value) : But r w (mapBlock w r f) := by
  refine ⟨rfl, rfl, rfl, by simp [mapBlock], fun k _ hk => ?_⟩
  simp only [mapBlock, Array.getElem?_modify]
  rw [if_neg (by omega)]
theorem But.putRow {α : Type} [Inhabited α] (enc : α → Value) (w : World) (n blk off : Nat) (d : Array α) : But blk w (putRow enc (Sort.ahead w n) blk off d) :=
  (⟨rfl, rfl, rfl, Nat.le_refl _, fun _ _ _ => rfl⟩ : But blk w (Sort.ahead w n)).trans (But.ofMapBlock blk _ _)
theorem But.grow (r : Nat) (w : World) (os : Array Obj) : But r w (grow w os) :=
  ⟨rfl, rfl, rfl, by simp, fun k hk _ => heap_grow_old w os hk⟩
theorem But.cell {r : Nat} {w w' : World} (h : But r w w') {p : Addr} (hp : p.block < w.heap.size) (hr : p.block ≠ r) : w'.cell? p = w.cell? p := World.cell?_of_block (w := w) (h.block p.block hp hr)
theorem But.setCells (r off : Nat) (w : World) (vs : List Value) : But r w (w.setCells r off vs) := by
  induction vs generalizing off w with
  | nil => exact But.refl _ _
  | cons v vs ih =>
    refine But.trans ?_ (ih (off + 1) (w.setCell ⟨r, off, none⟩ v))
    rw [setCell_eq]
    exact But.ofMapBlock r w _
theorem KeyAt.but {r : Nat} {w w' : World} (h : But r w w') {b : Nat} {k : List UInt8} (hr : b ≠ r) (hk : KeyAt w b k) : KeyAt w' b k := by
  intro i hi
  have h1 := hk i hi
  rw [h.cell (p := ⟨b, i, none⟩) (World.block_lt_of_cell? w ⟨b, i, none⟩ h1) hr]
  exact h1

theorem wrap_pred (k : Nat) (h1 : 1 ≤ k) (h2 : k ≤ 1024) : IntKind.i64.wrap ((k : Int) - 1) = ((k - 1 : Nat) : Int) := by
  simp [IntKind.wrap, IntKind.bits, IntKind.signed]
  omega

/-- The i-th key's slice value. -/
def enc (B : Nat → Nat) (K : Nat → List UInt8) (i : Nat) : Value := kv (B i) (K i)
/-- CompactFunc keeps the first element, and each that differs from the one ahead of it. -/
def keepK (K : Nat → List UInt8) (d : Array Nat) (j : Nat) : Bool := j == 0 || !(K d[j]! == K d[j - 1]!)

theorem keepK_pos {K : Nat → List UInt8} {d : Array Nat} {j : Nat} (h : (K d[j]! == K d[j - 1]!) = false) : keepK K d j = true := by simp [keepK, h]
theorem keepK_neg {K : Nat → List UInt8} {d : Array Nat} {j : Nat} (hj : 0 < j) (h : (K d[j]! == K d[j - 1]!) = true) : keepK K d j = false := by
  have : (j == 0) = false := by simp; omega
  simp [keepK, h, this]
theorem keepK_lt_one (K : Nat → List UInt8) (d : Array Nat) : ∀ j, j < 1 → keepK K d j = true := by
  intro j hj
  obtain rfl : j = 0 := by omega
  rfl

theorem store_key (B : Nat → Nat) (K : Nat → List UInt8) {w wr : World} {n q blk : Nat} {dk : Array Nat} {i : Nat} (hi : i < dk.size) (hwr : wr = putRow (enc B K) (Sort.ahead w n) blk 0 dk) (x : Nat) :
    (wr.setCell ⟨blk, i, none⟩ (enc B K x)).drewN q = putRow (enc B K) (Sort.ahead w (n + q)) blk 0 (dk.setIfInBounds i x) := by
  subst hwr
  have := putRow_set (enc B K) (Sort.ahead w n) blk 0 dk i x hi
  rw [Nat.zero_add] at this
  rw [this, putRow_drewN]

theorem zero26 (w : World) : (zeroValue 26).run Yba.prog w = .ok (.slice none 0 0) w := by kernel_rfl

/-- What CompactFunc leaves. -/
def Compacted (B : Nat → Nat) (K : Nat → List UInt8) (blk : Nat) (l : List Nat) (w w' : World) : Prop :=
  But blk w w' ∧ ∀ j, j < l.length → w'.cell? ⟨blk, j, none⟩ = some (enc B K l[j]!) ∧ w'.frozen? ⟨blk, j, none⟩ = false

theorem compacted_all {B : Nat → Nat} {K : Nat → List UInt8} {blk : Nat} {d : Array Nat} {w : World} (hH : Holds (enc B K) w blk 0 d) (hall : ∀ j, j < d.size → keepK K d j = true) (q : Nat) :
    (cz (keepK K d) d d.size).length = d.size ∧ Compacted B K blk (cz (keepK K d) d d.size) w (w.drewN q) := by
  rw [cz_all hall]
  refine ⟨by simp, But.drewN _ _ _, fun j hj => ?_⟩
  have hj' : j < d.size := by simpa using hj
  have h1 := hH j hj'
  rw [Nat.zero_add] at h1
  show w.cell? _ = _ ∧ w.frozen? _ = _
  refine ⟨?_, h1.2⟩
  rw [h1.1, getElem!_pos ((List.range d.size).map fun j => d[j]!) j hj]
  simp

set_option maxHeartbeats 4000000 in
set_option maxRecDepth 1000000 in
/-- slices.CompactFunc at this program's closure. -/
theorem compact_any (B : Nat → Nat) (K : Nat → List UInt8) (blk cap : Nat) (d : Array Nat) (w : World)
    (hH : Holds (enc B K) w blk 0 d) (hK : ∀ i, B i ≠ blk ∧ KeyAt w (B i) (K i)) (hsz : d.size ≤ 1024) (hcap : d.size ≤ cap) :
    Calls Yba.prog 11 #[.slice (some ⟨blk, 0, none⟩) d.size cap, .func (.func 12) #[] #[]] w fun e w' =>
      e = .returned (.slice (some ⟨blk, 0, none⟩) (cz (keepK K d) d d.size).length cap) ∧ Compacted B K blk (cz (keepK K d) d d.size) w w' := by
  have HS : Aside _ := fun (h : ∀ j, j < d.size → keepK K d j = true) (q : Nat) => compacted_all hH h q
  have HK : Aside _ := hK
  clear hK
  by_cases h2 : d.size < 2
  · have HH : Aside (Holds (enc B K) w blk 0 d) := hH
    clear hH
    go_enter Yba.func11, Yba.ntmps11
    go_wp2
    go_ret
    obtain ⟨e1, e2⟩ := HS.out (fun j hj => keepK_lt_one K d j (by omega)) 0
    exact ⟨by rw [e1]; rfl, e2⟩
  · go_enter Yba.func11, Yba.ntmps11
    go_wp2
    go_loopg [5] d.size (fun g s3 wr => ∃ k q : Nat, 1 ≤ k ∧ k ≤ d.size ∧ d.size - k ≤ g ∧ s3 = .int .i64 k ∧ wr = w.drewN q ∧ ∀ j, j < k → keepK K d j = true)
    case atStart => exact ⟨1, 0, Nat.le_refl _, by omega, by omega, rfl, rfl, keepK_lt_one K d⟩
    case round =>
      obtain ⟨k, q, hk1, hk, hg, rfl, hwr, hall⟩ := hrel
      by_cases hlt : k < d.size
      · obtain ⟨c1, _⟩ := hH k hlt
        obtain ⟨c0, _⟩ := hH (k - 1) (by omega)
        have A : Aside (∀ j, j < k → keepK K d j = true) := hall
        have HH : Aside (Holds (enc B K) w blk 0 d) := hH
        clear hall hH
        rw [Nat.zero_add] at c1 c0
        have hbut : But blk w wr := by rw [hwr]; exact But.drewN blk w q
        have hcon : ∀ n, _ := fun n => closure12 (B d[k]!) (B d[k - 1]!) (K d[k]!) (K d[k - 1]!) (wr.drewN n) ((HK.out _).2.but (hbut.trans (But.drewN blk _ n)) (HK.out _).1) ((HK.out _).2.but (hbut.trans (But.drewN blk _ n)) (HK.out _).1)
        have g1 : wr.cell? ⟨blk, k, none⟩ = some (enc B K d[k]!) := by rw [hwr]; exact c1
        have g0 : wr.cell? ⟨blk, k - 1, none⟩ = some (enc B K d[k - 1]!) := by rw [hwr]; exact c0
        have W : Aside (wr = w.drewN q) := hwr
        clear hwr c1 c0 hbut
        unfold enc at g1 g0
        have D : Aside _ := @keepK_pos K d k
        have D' : Aside _ := @keepK_neg K d k
        generalize (K d[k]! == K d[k - 1]!) = r at *
        generalize kv (B d[k]!) (K d[k]!) = v1 at *
        generalize kv (B d[k - 1]!) (K d[k - 1]!) = v0 at *
        have hw1 := wrap_pred k hk1 (by omega)
        have hb0 : ((k - 1 : Nat) : Int) < (d.size : Int) := by omega
        cases r with
        | true =>
          go_wp2_with fail
          go_quiet ((go_at_call 12; exact Calls.quiet_of_same (hcon _)))
          go_wp2
          clear g0 g1 hcon
          go_loopg [5, 7] d.size (fun g s3 s5 wr => ∃ (kk k2 q2 : Nat) (dk : Array Nat), s3 = .int .i64 kk ∧ s5 = .int .i64 k2 ∧ 1 ≤ k2 ∧ k + k2 ≤ d.size ∧ d.size - (k + k2) ≤ g ∧ wr = putRow (enc B K) (Sort.ahead w q2) blk 0 dk ∧ CInv (keepK K d) d (k + k2) kk dk)
          case atStart => exact ⟨k, 1, q + nq, d, rfl, rfl, Nat.le_refl _, by omega, by omega, by rw [putRow_self (enc B K) (Sort.ahead w (q + nq)) blk 0 d (holds_ahead (enc B K) w (q + nq) blk 0 d HH.out), W.out, World.drewN_drewN]; rfl, CInv.start A.out (D'.out (by omega) trivial)⟩
          case round =>
            obtain ⟨kk, k2, q2, dk, rfl, rfl, h1, hle, hg2, hwr, hI⟩ := hrel
            have hkk := hI.lt
            have hds := hI.size
            have hHk : Holds (enc B K) wr blk 0 dk := by rw [hwr]; exact holds_putRow (enc B K) _ blk 0 d dk (holds_ahead (enc B K) w q2 blk 0 d HH.out) hds
            have hbut : But blk w wr := by rw [hwr]; exact But.putRow (enc B K) w q2 blk 0 dk
            have W2 : Aside (wr = putRow (enc B K) (Sort.ahead w q2) blk 0 dk) := hwr
            have I2 : Aside (CInv (keepK K d) d (k + k2) kk dk) := hI
            clear hwr
            by_cases hlt2 : k + k2 < d.size
            · obtain ⟨cm, _⟩ := hHk (k + k2) (by omega)
              obtain ⟨cp, _⟩ := hHk (k + k2 - 1) (by omega)
              obtain ⟨ck, fk⟩ := hHk kk (by omega)
              rw [hI.high (k + k2) (by omega), Nat.zero_add] at cm
              rw [hI.high (k + k2 - 1) (by omega), show 0 + (k + k2 - 1) = k + (k2 - 1) by omega] at cp
              rw [Nat.zero_add] at ck fk
              clear hHk hI
              have hcon : ∀ n, _ := fun n => closure12 (B d[k + k2]!) (B d[k + k2 - 1]!) (K d[k + k2]!) (K d[k + k2 - 1]!) (wr.drewN n) ((HK.out _).2.but (hbut.trans (But.drewN blk _ n)) (HK.out _).1) ((HK.out _).2.but (hbut.trans (But.drewN blk _ n)) (HK.out _).1)
              have hw2 := wrap_pred k2 h1 (by omega)
              have hb2 : ((k2 - 1 : Nat) : Int) < ((d.size - k : Nat) : Int) := by omega
              have hb3 : (k2 : Int) < ((d.size - k : Nat) : Int) := by omega
              have E1 : Aside _ := @keepK_pos K d (k + k2)
              have E2 : Aside _ := @keepK_neg K d (k + k2)
              have hst := fun (q : Nat) => @store_key B K w wr q2 q blk dk kk (by omega) W2.out d[k + k2]!
              unfold enc kv at cm hst
              unfold enc at cp
              have hkv : kv (B d[k + k2]!) (K d[k + k2]!) = .slice (some ⟨B d[k + k2]!, 0, none⟩) (K d[k + k2]!).length (K d[k + k2]!).length := rfl
              rw [hkv] at hcon
              clear hkv
              have HST : Aside _ := hst
              clear hst
              generalize (K d[k + k2]! == K d[k + k2 - 1]!) = r at *
              generalize B d[k + k2]! = b1 at *
              generalize (K d[k + k2]!).length = n1 at *
              generalize kv (B d[k + k2 - 1]!) (K d[k + k2 - 1]!) = v0 at *
              generalize enc B K dk[kk]! = old at ck
              clear hbut
              cases r with
              | true =>
                go_wp2_with fail
                go_quiet ((go_at_call 12; exact Calls.quiet_of_same (hcon _)))
                go_wp2
                go_roundg (d.size - (k + (k2 + 1)))
                case measure => omega
                case rel => exact ⟨kk, k2 + 1, q2 + nq, dk, rfl, by go_num, by omega, by omega, Nat.le_refl _, by rw [W2.out, putRow_drewN], I2.out.skip (E2.out (by omega) trivial)⟩
              | false =>
                go_wp2_with fail
                go_quiet ((go_at_call 12; exact Calls.quiet_of_same (hcon _)))
                go_wp2
                go_roundg (d.size - (k + (k2 + 1)))
                case measure => omega
                case rel => exact ⟨kk + 1, k2 + 1, q2 + nq, dk.setIfInBounds kk d[k + k2]!, by go_num, by go_num, by omega, by omega, Nat.le_refl _, HST.out nq, I2.out.keep hlt2 (E1.out trivial)⟩
            · have hend : k + k2 = d.size := by omega
              have hcl : ∀ ty, (Builtin.clear_ #[24] ty #[.slice (some ⟨blk, kk, none⟩) (d.size - kk) (cap - kk)]).run Yba.prog wr = .ok (.tuple #[]) (wr.setCells blk kk (List.replicate (d.size - kk) (.slice none 0 0))) :=
                fun ty => Lib.run_clear_slice wr 24 26 ty (.slice none 0 0) Yba.underlying24 zero26 rfl rfl blk kk _ _ (by omega) (fun j hj => by have := (hHk (kk + j) (by omega)).1; rw [Nat.zero_add] at this; rw [this]; rfl) (fun j hj => by have := (hHk (kk + j) (by omega)).2; rw [Nat.zero_add] at this; exact this)
              have hfin : (cz (keepK K d) d d.size).length = kk ∧ Compacted B K blk (cz (keepK K d) d d.size) w (wr.setCells blk kk (List.replicate (d.size - kk) (.slice none 0 0))) := by
                rw [hend] at hI
                refine ⟨hI.len, hbut.trans (But.setCells _ _ _ _), fun j hj => ?_⟩
                rw [hI.len] at hj
                rw [World.cell?_setCells_out blk _ kk wr ⟨blk, j, none⟩ (fun _ _ => Or.inl hj), World.frozen?_setCells]
                have := hHk j (by omega)
                rw [Nat.zero_add, hI.low j hj] at this
                exact this
              have FIN : Aside _ := hfin
              clear hfin hHk hI hbut
              go_wp2
              go_ret
              exact ⟨by rw [FIN.out.1]; rfl, FIN.out.2⟩
        | false =>
          go_wp2_with fail
          go_quiet ((go_at_call 12; exact Calls.quiet_of_same (hcon _)))
          go_wp2
          go_roundg (d.size - (k + 1))
          case measure => omega
          case rel =>
            refine ⟨k + 1, q + nq, by omega, by omega, Nat.le_refl _, by go_num, by rw [W.out, World.drewN_drewN], fun j hj => ?_⟩
            by_cases e : j = k
            · subst e
              exact D.out trivial
            · exact A.out j (by omega)
      · have : k = d.size := by omega
        subst this
        have HH : Aside (Holds (enc B K) w blk 0 d) := hH
        have W : Aside (wr = w.drewN q) := hwr
        clear hH hwr
        go_wp2
        go_ret
        obtain ⟨e1, e2⟩ := HS.out hall q
        exact ⟨by rw [e1]; rfl, by rw [W.out]; exact e2⟩
end Go.Proofs.Ybulkcias
