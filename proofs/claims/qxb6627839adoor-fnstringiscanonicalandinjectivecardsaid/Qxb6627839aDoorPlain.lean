/-
  The plain laws of the text of a vector: no Go in sight.
-/
import Derived.Test.Qxb6627839aDoorVec
namespace Go.Proofs.Qxb6627839aDoor

theorem dd_bytes (u : Nat) : ∀ b ∈ Lib.decDigits u, 48 ≤ b.toNat ∧ b.toNat ≤ 57 := by
  induction u using Nat.strongRecOn with
  | _ u ih =>
    intro b hb
    by_cases h : u < 10
    · rw [Lib.decDigits_one h] at hb
      simp only [List.mem_singleton] at hb
      subst hb
      rw [UInt8.toNat_ofNat']; omega
    · rw [Lib.decDigits, dif_neg h] at hb
      simp only [List.mem_append, List.mem_singleton] at hb
      rcases hb with hb | hb
      · exact ih (u / 10) (by omega) b hb
      · subst hb
        rw [UInt8.toNat_ofNat']; omega

theorem dd_count (u : Nat) : (Lib.decDigits u).count 46 = 0 := by
  rw [List.count_eq_zero]
  intro h
  have := dd_bytes u 46 h
  simp at this

theorem vt_bytes (L : List Nat) : ∀ b ∈ vt L, b = 46 ∨ (48 ≤ b.toNat ∧ b.toNat ≤ 57) := by
  induction L with
  | nil => intro b hb; cases hb
  | cons x L ih =>
    cases L with
    | nil => intro b hb; rw [vt_one] at hb; exact .inr (dd_bytes x b hb)
    | cons y r =>
      intro b hb
      rw [vt_cons] at hb
      simp only [List.mem_append, List.mem_cons] at hb
      rcases hb with hb | hb | hb
      · exact .inr (dd_bytes x b hb)
      · exact .inl hb
      · exact ih b hb

theorem vt_count (L : List Nat) : (vt L).count 46 = L.length - 1 := by
  induction L with
  | nil => rfl
  | cons x L ih =>
    cases L with
    | nil => rw [vt_one, dd_count]; rfl
    | cons y r =>
      rw [vt_cons, List.count_append, List.count_cons, ih, dd_count]
      simp

/-- The digits of all counts. -/
def sumD (L : List Nat) : Nat := (L.map fun x => (Lib.decDigits x).length).sum

theorem vt_length (L : List Nat) : (vt L).length = L.length - 1 + sumD L := by
  induction L with
  | nil => rfl
  | cons x L ih =>
    cases L with
    | nil => rw [vt_one]; simp [sumD]
    | cons y r =>
      rw [vt_cons, List.length_append, List.length_cons, ih]
      simp [sumD]; omega

theorem sumD_snoc (L : List Nat) (k : Nat) (h : k < L.length) : sumD (L.take (k + 1)) = sumD (L.take k) + (Lib.decDigits (L.getD k 0)).length := by
  rw [take_snoc L k h]; simp [sumD]

theorem sumD_le (L : List Nat) (h : ∀ x ∈ L, x < 18446744073709551616) : sumD L ≤ 20 * L.length := by
  induction L with
  | nil => simp [sumD]
  | cons x L ih =>
    have hx := nd20 x (h x (by simp))
    have := ih (fun y hy => h y (by simp [hy]))
    simp [sumD] at this ⊢; omega

theorem bytes_eq {A B : ByteArray} (h : A.data.toList = B.data.toList) : A = B := by
  cases A; cases B
  congr
  exact Array.ext' h
theorem cat_data (A B : ByteArray) : (A ++ B).data.toList = A.data.toList ++ B.data.toList := by simp [ByteArray.data_append]
theorem same_text {A B : ByteArray} (h : A.data.toList = B.data.toList) : (A.toList == B.toList) = true := by rw [bytes_eq h]; simp

theorem byte_at {S : ByteArray} (k : Nat) (h : k < S.size) : S.data.toList[k]? = some S[k] := by
  rw [Array.getElem?_toList, Array.getElem?_eq_getElem (show k < S.data.size from h)]; rfl
theorem bytes_take {S : ByteArray} (k : Nat) (h : k < S.size) : S.data.toList.take (k + 1) = S.data.toList.take k ++ [S[k]] := by
  rw [List.take_add_one, byte_at k h]; rfl
theorem size_list (S : ByteArray) : S.data.toList.length = S.size := by rw [Array.length_toList]; rfl

end Go.Proofs.Qxb6627839aDoor
