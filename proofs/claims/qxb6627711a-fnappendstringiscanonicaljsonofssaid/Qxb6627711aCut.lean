/-
  The plain law of the cut: no Go in sight.
-/
import Derived.Test.Qxb6627711aPlain
namespace Go.Proofs.Qxb6627711a
namespace Pl

theorem getD_left (A B : List Int) (i : Nat) (h : i < A.length) : (A ++ B).getD i 0 = A.getD i 0 := by
  rw [List.getD_eq_getElem?_getD, List.getD_eq_getElem?_getD, List.getElem?_append_left h]
theorem getD_right (A B : List Int) (i : Nat) : (A ++ B).getD (A.length + i) 0 = B.getD i 0 := by
  rw [List.getD_eq_getElem?_getD, List.getD_eq_getElem?_getD, List.getElem?_append_right (by omega), Nat.add_sub_cancel_left]


theorem last_x {L X : List Int} {a : ByteArray} {nx : Nat} (hX : X = L ++ [34] ++ escL (zs a) ++ [34]) (hx : X.length = nx) : X.getD (nx - 1) 0 = 34 := by
  have e : nx - 1 = (L ++ [34] ++ escL (zs a)).length + 0 := by rw [← hx, hX]; simp
  rw [e, hX, getD_right]; rfl

theorem first_y {Y : List Int} {b : ByteArray} (hY : Y = [] ++ [34] ++ escL (zs b) ++ [34]) : Y.getD 0 0 = 34 := by
  rw [hY]; rfl

theorem want_y {Y : List Int} {b : ByteArray} {ny : Nat} (hY : Y = [] ++ [34] ++ escL (zs b) ++ [34]) (hy : Y.length = ny) : ny = 2 + (escL (zs b)).length := by
  rw [← hy, hY]; simp; omega

theorem len_r {L X Y R : List Int} {a b : ByteArray} {nx ny nr : Nat} (hX : X = L ++ [34] ++ escL (zs a) ++ [34]) (hY : Y = [] ++ [34] ++ escL (zs b) ++ [34]) (hR : R = L ++ [34] ++ escL (zs (a ++ b)) ++ [34])
    (hx : X.length = nx) (hy : Y.length = ny) (hr : R.length = nr) : nr + 2 = nx + ny := by
  rw [← hx, ← hy, ← hr, hX, hY, hR, zs_append, escL_append]; simp; omega

theorem cut_x {L X R : List Int} {a b : ByteArray} {nx : Nat} (hX : X = L ++ [34] ++ escL (zs a) ++ [34]) (hR : R = L ++ [34] ++ escL (zs (a ++ b)) ++ [34])
    (hx : X.length = nx) (i : Nat) (hi : i + 1 < nx) : R.getD i 0 = X.getD i 0 := by
  have e : i < (L ++ [34] ++ escL (zs a)).length := by rw [← hx, hX] at hi; simp at hi ⊢; omega
  rw [hR, hX, zs_append, escL_append, ← List.append_assoc (L ++ [34]), List.append_assoc _ (escL (zs b)), getD_left _ _ i e, getD_left _ _ i e]

theorem cut_y {L X Y R : List Int} {a b : ByteArray} {nx : Nat} (hX : X = L ++ [34] ++ escL (zs a) ++ [34]) (hY : Y = [] ++ [34] ++ escL (zs b) ++ [34]) (hR : R = L ++ [34] ++ escL (zs (a ++ b)) ++ [34])
    (hx : X.length = nx) (i : Nat) (hi : 1 ≤ i) : R.getD (nx - 1 + i - 1) 0 = Y.getD i 0 := by
  have e : nx - 1 + i - 1 = (L ++ [34] ++ escL (zs a)).length + (i - 1) := by rw [← hx, hX]; simp; omega
  rw [e, hR, zs_append, escL_append, ← List.append_assoc (L ++ [34]), List.append_assoc _ (escL (zs b)), getD_right, hY]
  obtain ⟨m, rfl⟩ : ∃ m, i = 1 + m := ⟨i - 1, by omega⟩
  rw [Nat.add_sub_cancel_left, List.append_assoc, List.nil_append]
  exact (getD_right [34] _ m).symm

end Pl
end Go.Proofs.Qxb6627711a
