/-
  What the walks are told of the two arguments.
-/
import Derived.Test.Qxb6627791aTwo
import Derived.SliceStrings
import Derived.ProofKit
import Derived.OpenShut
namespace Go.Proofs.Qxb6627791a
open Go.RowKit
set_option linter.unusedVariables false

theorem rowA_nil {w : World} : RowA w none 0 [] := ⟨rfl, (fun _ h => by cases h), fun h => absurd h (Nat.lt_irrefl _)⟩
theorem rowS_nil {w : World} : RowS w none 0 [] := ⟨rfl, (fun _ h => by cases h), fun h => absurd h (Nat.lt_irrefl _)⟩

theorem nat_list {zs : List Int} (h : ∀ n ∈ zs, (Lit.int .u8 n).wf = true) (j : Nat) : 0 ≤ zs.getD j 0 ∧ zs.getD j 0 ≤ 255 := by
  by_cases hj : j < zs.length
  · rw [List.getD_eq_getElem?_getD, List.getElem?_eq_getElem hj]
    exact bounds_u8 (h _ (List.getElem_mem hj))
  · rw [List.getD_eq_getElem?_getD, List.getElem?_eq_none (by omega)]
    exact ⟨by simp, by simp⟩

theorem rowA_of {w : World} {x : Addr} {len cap : Nat} {zs : List Int} (hl : len ≤ cap) (hz : zs.length = cap) (hc : ∀ i, i < zs.length → w.cell? (x.add i) = some (.int .u8 (zs.getD i 0))) (hw : ∀ n ∈ zs, (Lit.int .u8 n).wf = true) : RowA w (some x) len ((zs.take len).map Int.toNat) := by
  refine ⟨by rw [List.length_map, List.length_take]; omega, ?_, fun hn => ?_⟩
  · intro y hy
    rw [List.mem_map] at hy
    obtain ⟨z, hz1, rfl⟩ := hy
    have := bounds_u8 (hw z (List.mem_of_mem_take hz1))
    omega
  · obtain ⟨b, off, rfl, hcell⟩ := ints_at hc (by omega)
    refine ⟨b, off, rfl, fun j hj => ?_⟩
    have hb := nat_list hw j
    have e : ((zs.take len).map Int.toNat).getD j 0 = (zs.getD j 0).toNat := by
      rw [List.getD_eq_getElem?_getD, List.getElem?_map, List.getElem?_take, if_pos hj, List.getD_eq_getElem?_getD]
      cases zs[j]? <;> rfl
    rw [hcell j (by omega), e, Int.toNat_of_nonneg hb.1]

theorem rowS_of {w : World} {x : Addr} {len cap : Nat} {ss : List ByteArray} (hl : len ≤ cap) (hz : ss.length = cap) (hc : ∀ i, i < ss.length → w.cell? (x.add i) = some (.string (ss.getD i ByteArray.empty))) (hw : ∀ s ∈ ss, s.size ≤ maxLen) : RowS w (some x) len (ss.take len) := by
  refine ⟨by rw [List.length_take]; omega, fun s hs => hw s (List.mem_of_mem_take hs), fun hn => ?_⟩
  obtain ⟨b, off, spot⟩ := x
  have hspot : spot = none := by simpa [Addr.add] using World.cell?_spot (hc 0 (by omega))
  subst hspot
  refine ⟨b, off, rfl, fun j hj => ?_⟩
  have := hc j (by omega)
  rw [Go.WideShapes.add_plain] at this
  rw [this, List.getD_eq_getElem?_getD, List.getD_eq_getElem?_getD, List.getElem?_take, if_pos hj]

end Go.Proofs.Qxb6627791a
