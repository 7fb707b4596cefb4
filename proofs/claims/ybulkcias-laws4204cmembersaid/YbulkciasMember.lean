import Derived.Test.YbulkciasRows
import Derived.Test.YbulkciasLaw
import Derived.Test.YbulkciasSort
import Derived.ProofKit
import Derived.OpenShut
import Derived.ChangeOld
import Derived.Below
import Derived.Deep.Matrix
namespace Go.Proofs.Ybulkcias
open Go.ChangeShapes Go.WideShapes Go.ChangeAt Go.RowKit Go.Deep

theorem own : ownKnob Yba.prog.godebug = none := by kernel_rfl
theorem laidOut : laidOutB Yba.prog = true := by kernel_rfl

theorem bytesOf_get {Z : List Int} (hw : ∀ n ∈ Z, (Lit.int .u8 n).wf = true) {L j : Nat} (hj : j < L) (hl : L ≤ Z.length) : (((Lib.bytesOf (Z.take L)).getD j 0).toNat : Int) = Z.getD j 0 := by
  have hjz : j < Z.length := by omega
  have hb := bounds_u8 (hw Z[j] (List.getElem_mem hjz))
  unfold Lib.bytesOf
  rw [List.getD_eq_getElem?_getD, List.getElem?_map, List.getElem?_take_of_lt hj, List.getElem?_eq_getElem hjz, List.getD_eq_getElem?_getD, List.getElem?_eq_getElem hjz]
  simp only [Option.map_some, Option.getD_some, UInt8.toNat_ofNat']
  omega

theorem inKey_of {W : World} {A : Option Addr} {L C : Nat} {Z : List Int} (hL : L ≤ C) (hz : Z.length = C) (hw : ∀ n ∈ Z, (Lit.int .u8 n).wf = true) (hn : A = none → C = 0)
    (hc : ∀ a', A = some a' → ∀ c, c < C → W.cell? (a'.add c) = some (.int .u8 (Z.getD c 0))) : InKey W (.slice A L C) (Lib.bytesOf (Z.take L)) := by
  have hlen : (Lib.bytesOf (Z.take L)).length = L := by rw [Lib.bytesOf_length, List.length_take]; omega
  refine ⟨A, C, by rw [hlen], fun h0 => ?_⟩
  rw [hlen] at h0
  cases A with
  | none => have := hn rfl; omega
  | some a' =>
    obtain ⟨b, off, spot⟩ := a'
    have h1 := hc _ rfl 0 (by omega)
    have hspot : spot = none := by simpa [Addr.add] using World.cell?_spot h1
    subst hspot
    refine ⟨b, off, rfl, fun j hj => ?_⟩
    rw [hlen] at hj
    have := hc _ rfl j (by omega)
    rw [bytesOf_get hw hj (by omega), ← this]
    congr 1
    unfold Addr.add
    split <;> simp_all
/-- The keys out of the reading of the first argument. -/
theorem inKeys_of {H : Type} {encH : TypeId × Value → H} {W : World} {held : Bool} {fuel : Nat} {a : Option Addr} {len cap : Nat} {x : DataW H × List MemPlace}
    (hf : DataW.trod encH Yba.prog W 0 (fun _ => true) held fuel 22 [.slice a len cap] = some x) : ∃ ks : List (List UInt8), ks.length = len ∧ InKeys W a ks ∧ len ≤ maxLen ∧ ∀ k ∈ ks, k.length ≤ maxLen := by
  rcases open_int_rows Yba.underlying22 Yba.underlying23 Yba.underlying5 (by kernel_rfl) (by kernel_rfl) hf with ⟨hcs, _⟩ | ⟨a', len', cap', A, L, C, Z, hcs, _, hl, hm, _, hr⟩
  · simp at hcs
    obtain ⟨rfl, rfl, rfl⟩ := hcs
    exact ⟨[], rfl, fun h => by simp at h, Nat.zero_le _, fun k hk => by simp at hk⟩
  · simp at hcs
    obtain ⟨rfl, rfl, rfl⟩ := hcs
    refine ⟨(List.range len).map fun r => Lib.bytesOf ((Z r).take (L r)), by simp, fun h0 => ?_, by omega, fun k hk => ?_⟩
    · have hlen : 0 < len := by simpa using h0
      obtain ⟨b, off, spot⟩ := a'
      have h1 := (hr 0 (by omega)).1
      have hspot : spot = none := by simpa [Addr.add] using World.cell?_spot h1
      subst hspot
      have hadd : ∀ i, (⟨b, off, none⟩ : Addr).add i = ⟨b, off + i, none⟩ := fun i => by unfold Addr.add; split <;> simp_all
      rw [hadd] at h1
      refine ⟨b, off, rfl, World.block_lt_of_cell? W _ h1, fun i hi => ?_⟩
      have hi' : i < len := by simpa using hi
      obtain ⟨g1, g2, g3, g4, g5, g6, g7⟩ := hr i (by omega)
      rw [hadd] at g1
      refine ⟨_, g1, ?_⟩
      have e : ((List.range len).map fun r => Lib.bytesOf ((Z r).take (L r))).getD i [] = Lib.bytesOf ((Z i).take (L i)) := by
        simp [List.getD_eq_getElem?_getD, hi']
      rw [e]
      exact inKey_of g2 g4 g5 g6 (fun a' ha c hc => (g7 a' ha).2 c hc)
    · obtain ⟨r, hr', rfl⟩ := List.mem_map.1 hk
      have hrl : r < len := List.mem_range.1 hr'
      obtain ⟨_, g2, g3, _⟩ := hr r (by omega)
      rw [Lib.bytesOf_length, List.length_take]
      omega

/-- The holder out of the reading of the second. -/
theorem holder_of {H : Type} {encH : TypeId × Value → H} {W : World} {held : Bool} {fuel : Nat} {a : Option Addr} {len cap : Nat} {x : DataW H × List MemPlace}
    (hf : DataW.trod encH Yba.prog W 0 (fun _ => true) held fuel 23 [.slice a len cap] = some x) : ∃ k : List UInt8, InKey W (.slice a len cap) k ∧ k.length ≤ maxLen := by
  rcases open_ints Yba.underlying23 Yba.underlying5 (by kernel_rfl) hf with ⟨hcs, _⟩ | ⟨x, l, c, zs, hcs, _, hl, hm, hz, _, hcell, hwz⟩
  · simp at hcs
    obtain ⟨rfl, rfl, rfl⟩ := hcs
    exact ⟨[], ⟨none, 0, rfl, fun h => by simp at h⟩, Nat.zero_le _⟩
  · simp at hcs
    obtain ⟨rfl, rfl, rfl⟩ := hcs
    have hzl : zs.length = cap := by simpa using hz
    refine ⟨Lib.bytesOf (zs.take len), inKey_of hl hzl hwz (fun h => by cases h) (fun a' ha c hc => by cases ha; exact hcell c (by omega)), ?_⟩
    rw [Lib.bytesOf_length, List.length_take]
    omega

set_option maxRecDepth 100000 in
theorem lifted (os : Os) (started : os.Started) (H : Type) (enc : TypeId × Value → H) :
    ReturnsInHanded {} Yba.checked os 3 .any (Rows.lawS4204CMemberSpec.pre6 enc Yba.prog Yba.f3 Rows.lawS4204CMemberRow.domain false) (Rows.lawS4204CMemberSpec.post enc Yba.prog Yba.f3 false true false false) := by
  refine returnsInHanded_of_change (C := Yba.checked) own started (by kernel_rfl) Yba.func3
    (ChangeSpec.witness6 (enc := enc) (C := Yba.checked) false ⟨#[], #[.slice none 0 0, .slice none 0 0, .int .u8 0], []⟩ 8 (by kernel_rfl) (by kernel_rfl) (by kernel_rfl) (by kernel_rfl)) ?_
  intro W base args ds gs before hval0 hW hcnd _
  have hval : ∀ (j : Nat) t v, Yba.f3.params[j]? = some t → args[j]? = some v → Value.okWide Yba.prog W .any base t v := hval0
  have hW' := hW
  obtain ⟨p, q, hA0, hV, rfl, hfz, hnd⟩ := hW
  have hA : DataW.TrodAll enc Yba.prog W 0 (fun _ => true) true Yba.f3.params.toList args.toList ds p := hA0
  rw [Yba.params3] at hA hval
  obtain ⟨v0, vs0, d0, ds0, p0, q0, hargs, rfl, rfl, h0, r0⟩ := trodAll_cons hA
  obtain ⟨v1, vs1, d1, ds1, p1, q1, rfl, rfl, rfl, h1, r1⟩ := trodAll_cons r0
  obtain ⟨v2, vs2, d2, ds2, p2, q2, rfl, rfl, rfl, h2, r2⟩ := trodAll_cons r1
  obtain ⟨rfl, rfl, rfl⟩ := trodAll_nil r2
  obtain rfl : args = #[v0, v1, v2] := by cases args; simp_all
  obtain ⟨rfl, rfl⟩ := trodVars_none hV
  obtain ⟨a0, len0, cap0, rfl⟩ := okWide_slice Yba.underlying22 (hval 0 22 v0 rfl rfl)
  have k0 := h0
  have lt0 : ∀ x ∈ p0, x.block < W.heap.size := by obtain ⟨m, hm⟩ := k0; exact DataW.trod_lt m _ _ _ hm
  obtain ⟨ks, rfl, hks, hksl, hkl⟩ : ∃ ks : List (List UInt8), ks.length = len0 ∧ InKeys W a0 ks ∧ len0 ≤ maxLen ∧ ∀ k ∈ ks, k.length ≤ maxLen := by
    obtain ⟨fuel, hf⟩ := h0
    exact inKeys_of hf
  obtain ⟨a1, len1, cap1, rfl⟩ := okWide_slice Yba.underlying23 (hval 1 23 v1 rfl rfl)
  have k1 := h1
  have lt1 : ∀ x ∈ p1, x.block < W.heap.size := by obtain ⟨m, hm⟩ := k1; exact DataW.trod_lt m _ _ _ hm
  obtain ⟨hk, hin, hkm⟩ : ∃ k : List UInt8, InKey W (.slice a1 len1 cap1) k ∧ k.length ≤ maxLen := by
    obtain ⟨fuel, hf⟩ := h1
    exact holder_of hf
  obtain ⟨a2, rfl, rfl, rfl, w2⟩ := open_int Yba.underlying5 (hval 2 5 v2 rfl rfl) h2
  clear hA0 hval0
  have hb2 := bounds_u8 w2
  refine (law_any sortSaid searchSaid a0 cap0 ks _ hk a2 W hks hin hb2.1 hb2.2 hksl hkm hkl).mono fun e W' ⟨he, bel⟩ => ?_
  subst he
  exact ⟨_, rfl, _, _, _, [], _, [], hW', trodAll_mk1 (shut_bool Yba.underlying4 _), (trodAll_cons_mk (Below.trod laidOut (by kernel_rfl) (of_decide_eq_true (by kernel_rfl)) k0 bel lt0) (trodAll_cons_mk (Below.trod laidOut (by kernel_rfl) (of_decide_eq_true (by kernel_rfl)) k1 bel lt1) (trodAll_cons_mk (shut_int Yba.underlying5 w2) trodAll_mk0))), rfl, bel.frame _, fun h => by cases h⟩

theorem over : Rows.lawS4204CMemberRow.holds Yba.pinned (OpenSpec.ofChange Rows.lawS4204CMemberSpec) :=
  OpenClaim.holds_of_wide 3 Yba.f3 rfl rfl rfl rfl rfl rfl rfl ⟨rfl, rfl, rfl, rfl, rfl⟩ rfl rfl rfl rfl rfl (by kernel_rfl) Yba.func3 (by kernel_rfl)
    (of_decide_eq_true (by kernel_rfl)) (by unfold Func.isWrapper; first | (rw [if_pos (by decide +kernel)]; kernel_rfl) | (rw [if_neg (by decide +kernel)]; exact ⟨rfl, rfl⟩))
    (fun os started H enc _ => lifted os started H enc)

/-- THE STATEMENT. -/
theorem member_proved : Rows.LawS4204CMemberSaid := over
#print axioms member_proved
end Go.Proofs.Ybulkcias
