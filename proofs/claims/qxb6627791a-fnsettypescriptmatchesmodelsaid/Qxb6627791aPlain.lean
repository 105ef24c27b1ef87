/-
  THE PLAIN PART: the table of names, the column of numbers. No Go in sight.
-/
namespace Go.Proofs.Qxb6627791a
set_option linter.unusedVariables false

/-- Is s in the table? -/
def mem (s : ByteArray) (l : List ByteArray) : Bool := l.any fun t => decide (t = s)
theorem mem_iff (s : ByteArray) (l : List ByteArray) : mem s l = true ↔ s ∈ l := by simp [mem]
theorem mem_false (s : ByteArray) (l : List ByteArray) (h : ¬ s ∈ l) : mem s l = false := by
  cases e : mem s l with
  | false => rfl
  | true => exact absurd ((mem_iff s l).1 e) h

/-- The table with s. -/
def addName (l : List ByteArray) (s : ByteArray) : List ByteArray := if mem s l then l else l ++ [s]
theorem addName_in {l : List ByteArray} {s : ByteArray} (h : s ∈ l) : addName l s = l := by rw [addName, (mem_iff s l).2 h]; rfl
theorem addName_out {l : List ByteArray} {s : ByteArray} (h : ¬ s ∈ l) : addName l s = l ++ [s] := by rw [addName, mem_false s l h]; rfl
theorem addName_mem (l : List ByteArray) (s : ByteArray) : s ∈ addName l s := by
  by_cases h : s ∈ l
  · rw [addName_in h]; exact h
  · rw [addName_out h]; simp
theorem addName_pre (l : List ByteArray) (s : ByteArray) (i : Nat) (x : ByteArray) (hi : l[i]? = some x) : (addName l s)[i]? = some x := by
  by_cases h : s ∈ l
  · rw [addName_in h]; exact hi
  · rw [addName_out h, List.getElem?_append_left (List.getElem?_eq_some_iff.1 hi).1]; exact hi
theorem addName_len (l : List ByteArray) (s : ByteArray) : (addName l s).length ≤ l.length + 1 ∧ l.length ≤ (addName l s).length := by
  by_cases h : s ∈ l
  · rw [addName_in h]; omega
  · rw [addName_out h, List.length_append, List.length_singleton]; omega

/-- The place of s. -/
def idx (s : ByteArray) (l : List ByteArray) : Nat := l.findIdx fun t => decide (t = s)
theorem idx_spec {s : ByteArray} {l : List ByteArray} (h : s ∈ l) : l[idx s l]? = some s := by
  have hl : idx s l < l.length := List.findIdx_lt_length_of_exists ⟨s, h, by simp⟩
  have := List.findIdx_getElem (w := hl)
  rw [List.getElem?_eq_getElem hl]
  have e := of_decide_eq_true this
  exact congrArg some e
theorem idx_new {s : ByteArray} {l : List ByteArray} (h : ¬ s ∈ l) : idx s (l ++ [s]) = l.length := by
  rw [idx, List.findIdx_append]
  have e : List.findIdx (fun t => decide (t = s)) l = l.length := List.findIdx_eq_length.2 (fun x hx => by simp; intro e; subst e; exact h hx)
  rw [e]
  simp

/-- The table, made where it is not. -/
def base (tb : List ByteArray) : List ByteArray := if tb.isEmpty then [ByteArray.empty] else tb
theorem base_nil : base [] = [ByteArray.empty] := rfl
theorem base_cons {tb : List ByteArray} (h : tb ≠ []) : base tb = tb := by cases tb with | nil => exact absurd rfl h | cons a b => rfl
theorem base_ne (tb : List ByteArray) : base tb ≠ [] := by cases tb <;> simp [base]

def tab (tb : List ByteArray) (s : ByteArray) : List ByteArray := addName (base tb) s
theorem tab_ne (tb : List ByteArray) (s : ByteArray) : tab tb s ≠ [] := fun h => by have := addName_mem (base tb) s; rw [tab] at h; rw [h] at this; cases this
theorem tab_twice (tb : List ByteArray) (s : ByteArray) : tab (tab tb s) s = tab tb s := by
  have h : s ∈ base (tab tb s) := by rw [base_cons (tab_ne tb s)]; exact addName_mem _ _
  rw [tab, addName_in h, base_cons (tab_ne tb s)]

/-- The numbers, up to n. -/
def pad (n : Nat) (ts : List Nat) : List Nat := ts ++ List.replicate (n - ts.length) 0
theorem pad_len (n : Nat) (ts : List Nat) (h : ts.length ≤ n) : (pad n ts).length = n := by simp [pad]; omega
theorem pad_full (n : Nat) (ts : List Nat) (h : ts.length = n) : pad n ts = ts := by simp [pad, h]

/-- SetType. -/
def setTs (n : Nat) (ts : List Nat) (t : Nat) : List Nat := (pad n ts).set (n - 1) t
theorem setTs_len (n : Nat) (ts : List Nat) (t : Nat) (h : ts.length ≤ n) : (setTs n ts t).length = n := by rw [setTs, List.length_set, pad_len n ts h]
theorem setTs_twice (n : Nat) (ts : List Nat) (t : Nat) (h : ts.length ≤ n) : setTs n (setTs n ts t) t = setTs n ts t := by
  rw [setTs, pad_full _ _ (setTs_len n ts t h), setTs, List.set_set]

end Go.Proofs.Qxb6627791a
