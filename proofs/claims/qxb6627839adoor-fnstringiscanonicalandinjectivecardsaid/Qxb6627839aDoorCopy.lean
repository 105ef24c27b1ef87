/-
  A copy of a vector into new memory; parts of a vector.
-/
import Derived.Test.Qxb6627839aDoorSmall
import Derived.Test.Qxb6627839aDoorPlain
namespace Go.Proofs.Qxb6627839aDoor
open Go.RowKit
set_option linter.unusedVariables false

theorem info27 : (Tryd.prog.info? 27).map (fun i => (i.zero, i.size, i.bytes)) = some (some (.int .u64 0), 1, 8) := by kernel_rfl
theorem size27 : (Tryd.prog.info? 27).map (·.size) = some 1 := by kernel_rfl

/-- The cells of a list of counts. -/
def cellsOf (L : List Nat) : List Value := L.map fun (z : Nat) => Value.int .u64 (z : Int)

theorem splice_all (n : Nat) (L : List Nat) (h : L.length = n) : splice (List.replicate n (Value.int .u64 0)) 0 (cellsOf L) = cellsOf L := by
  have hc : (cellsOf L).length = n := by simp [cellsOf, h]
  simp [splice, hc]

theorem row_cells {W : World} {g n : Nat} {L : List Nat} (hg : W.heap[g]? = some (.cells (cellsOf L).toArray 27 (0, 0))) (hl : L.length = n) (hb : ∀ x ∈ L, x < 18446744073709551616) : Row W (some ⟨g, 0, none⟩) n L := by
  refine ⟨hl, hb, fun _ => ⟨g, 0, rfl, fun j hj => ?_⟩⟩
  rw [cell_of_row W g (0 + j) _ 27 (0, 0) hg]
  simp [cellsOf, List.getElem?_eq_getElem (show j < L.length by omega)]

theorem row_take {W : World} {ao : Option Addr} {n k : Nat} {L : List Nat} (h : Row W ao n L) (hk : k ≤ n) : Row W ao k (L.take k) := by
  refine ⟨by rw [List.length_take, h.1]; omega, fun x hx => h.2.1 x (List.mem_of_mem_take hx), fun h0 => ?_⟩
  obtain ⟨b, off, e, hc⟩ := h.2.2 (by omega)
  refine ⟨b, off, e, fun j hj => ?_⟩
  rw [hc j (by omega), List.getD_eq_getElem?_getD, List.getD_eq_getElem?_getD, List.getElem?_take, if_pos hj]

theorem row_drop {W : World} {g n k : Nat} {L : List Nat} (h : Row W (some ⟨g, 0, none⟩) n L) (hk : k ≤ n) : Row W (some ⟨g, k, none⟩) (n - k) (L.drop k) := by
  refine ⟨by rw [List.length_drop, h.1], fun x hx => h.2.1 x (List.mem_of_mem_drop hx), fun h0 => ⟨g, k, rfl, fun j hj => ?_⟩⟩
  obtain ⟨b, off, e, hc⟩ := h.2.2 (by omega)
  cases e
  rw [show k + j = 0 + (k + j) by omega, hc (k + j) (by omega), List.getD_eq_getElem?_getD, List.getD_eq_getElem?_getD, List.getElem?_drop]

theorem row_none {W : World} {ao : Option Addr} : Row W ao 0 [] := ⟨rfl, (fun _ h => by cases h), fun h => absurd h (Nat.lt_irrefl _)⟩

theorem made_row {w1 : World} {g n : Nat} (h : w1.ownsRow g 27 1 (.slice (some ⟨g, 0, none⟩) n n) n (madeCells (Value.int .u64 0).cells (n * 1)).toList) : w1.heap[g]? = some (.cells (List.replicate n (Value.int .u64 0)).toArray 27 (0, 0)) := by
  rw [show (Value.int IntKind.u64 0).cells = #[.int .u64 0] from rfl, Nat.mul_one, toList_madeCells_one] at h
  rcases h.2 with ⟨h', _⟩ | ⟨g', cap', cur, h', _, hg, _, _, hcs, htake⟩
  · simp at h'
  · simp only [Value.slice.injEq, Option.some.injEq, Addr.mk.injEq, and_true, true_and] at h'
    obtain ⟨rfl, rfl⟩ := h'
    have hl : cur.toList.length ≤ n * 1 := by rw [Array.length_toList, hcs]; exact Nat.le_refl _
    rw [List.take_of_length_le hl] at htake
    rw [hg, ← htake]

theorem copy_src {w : World} {a : Addr} {n : Nat} {L : List Nat} (h : Row w (some a) n L) : ∀ j v, (cellsOf L)[j]? = some v → w.cell? (a.add j) = some v := by
  intro j v hj
  have hjl : j < L.length := by
    have := (List.getElem?_eq_some_iff.1 hj).1
    simpa [cellsOf] using this
  obtain ⟨b, off, e, hc⟩ := h.2.2 (by have := h.1; omega)
  cases e
  rw [Addr.add_lit, hc j (by have := h.1; omega), ← hj]
  simp [cellsOf, List.getElem?_eq_getElem hjl]

theorem clone_facts {wx w1 : World} {a : Addr} {n : Nat} {L : List Nat} (hR : Row wx (some a) n L) (hown1 : w1.ownsRow wx.heap.size 27 1 (.slice (some ⟨wx.heap.size, 0, none⟩) n n) n (madeCells (Value.int .u64 0).cells (n * 1)).toList) (hgrow1 : wx.grownBy w1 none) :
    Hid (w1.heap[wx.heap.size]? = some (.cells (List.replicate n (Value.int .u64 0)).toArray 27 (0, 0))) ∧ Below wx.heap.size wx w1 ∧ Hid (∀ j v, (cellsOf L)[j]? = some v → w1.cell? (a.add j) = some v) := by
  have hb1 : Below wx.heap.size wx w1 := (Below.refl _ _).grown hgrow1 (Nat.le_refl _) (fun k h => by cases h)
  exact ⟨made_row hown1, hb1, copy_src (hR.below hb1)⟩

theorem cloned_row {w2 : World} {g n : Nat} {L : List Nat} (hg : Hid (w2.heap[g]? = some (.cells (splice (List.replicate n (Value.int .u64 0)) 0 (cellsOf L)).toArray 27 (0, 0)))) (hl : L.length = n) (hb : ∀ x ∈ L, x < 18446744073709551616) : Row w2 (some ⟨g, 0, none⟩) n L := by
  have := hg.out
  rw [splice_all n L hl] at this
  exact row_cells this hl hb

end Go.Proofs.Qxb6627839aDoor
