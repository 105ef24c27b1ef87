/-
  The script against the model: plain states; the builder beside the model's own slice.
-/
import Derived.Test.Qxb6627791aTwice
namespace Go.Proofs.Qxb6627791a
open Go.RowKit
open Go.Maps
set_option linter.unusedVariables false

/-- The model's names of the objects after k steps. -/
def OT (Z : List Nat) (L : List ByteArray) : Nat → List ByteArray
  | 0 => []
  | k + 1 => (OT Z L k ++ List.replicate (Z.getD k 0) ByteArray.empty).set (NN Z (k + 1) - 1) (L.getD k ByteArray.empty)
theorem OT_len (Z : List Nat) (L : List ByteArray) : ∀ k, (OT Z L k).length = NN Z k
  | 0 => rfl
  | k + 1 => by
    have ih := OT_len Z L k
    simp only [OT, NN, List.length_set, List.length_append, List.length_replicate, ih]
theorem TS_eq (Z : List Nat) (L : List ByteArray) : ∀ k, (TS Z L k).length = NN Z k
  | 0 => rfl
  | k + 1 => TS_len Z L k

theorem base_head {tb : List ByteArray} (h : tb ≠ [] → tb[0]? = some ByteArray.empty) : (base tb)[0]? = some ByteArray.empty := by
  cases tb with
  | nil => rfl
  | cons a b => rw [base_cons (by simp)]; exact h (by simp)
theorem TB_head (L : List ByteArray) : ∀ k, TB L k ≠ [] → (TB L k)[0]? = some ByteArray.empty
  | 0 => fun h => absurd rfl h
  | k + 1 => fun _ => addName_pre _ _ 0 _ (base_head (TB_head L k))
theorem TB_pre (L : List ByteArray) (k i : Nat) (x : ByteArray) (h : (TB L k)[i]? = some x) : (TB L (k + 1))[i]? = some x := by
  refine addName_pre _ _ i x ?_
  rw [base_cons]
  · exact h
  · intro e
    rw [e] at h
    simp at h

theorem OT_sizes (Z : List Nat) (L : List ByteArray) (hs : ∀ s ∈ L, s.size ≤ maxLen) : ∀ k, ∀ s ∈ OT Z L k, s.size ≤ maxLen
  | 0 => fun s h => by simp [OT] at h
  | k + 1 => fun s h => by
    have ih := OT_sizes Z L hs k
    rcases List.mem_or_eq_of_mem_set h with h | h
    · rcases List.mem_append.1 h with h | h
      · exact ih s h
      · rw [List.eq_of_mem_replicate h]; decide
    · rw [h]; exact getS_le hs k

/-- THE PLAIN LAW: each object's number leads to its name. -/
theorem typed (Z : List Nat) (L : List ByteArray) : ∀ k j, j < NN Z k → ∃ t x, (TS Z L k)[j]? = some t ∧ (TB L k)[t]? = some x ∧ (OT Z L k)[j]? = some x
  | 0, j, h => absurd h (Nat.not_lt_zero _)
  | k + 1, j, h => by
    have e1 := TS_eq Z L k
    have e2 := OT_len Z L k
    have hpl : (pad (NN Z (k + 1)) (TS Z L k)).length = NN Z (k + 1) := pad_len _ _ (by rw [e1]; exact NN_mono Z k 1)
    have hol : (OT Z L k ++ List.replicate (Z.getD k 0) ByteArray.empty).length = NN Z (k + 1) := by simp only [NN, List.length_append, List.length_replicate, e2]
    show ∃ t x, (setTs (NN Z (k + 1)) (TS Z L k) _)[j]? = some t ∧ _ ∧ ((OT Z L k ++ List.replicate (Z.getD k 0) ByteArray.empty).set (NN Z (k + 1) - 1) _)[j]? = some x
    rw [setTs, List.getElem?_set, List.getElem?_set]
    by_cases hj : NN Z (k + 1) - 1 = j
    · rw [if_pos hj, if_pos (by omega), if_pos hj, if_pos (by omega)]
      exact ⟨_, _, rfl, idx_spec (addName_mem _ _), rfl⟩
    · rw [if_neg hj, if_neg hj]
      by_cases hk : j < NN Z k
      · obtain ⟨t, x, h1, h2, h3⟩ := typed Z L k j hk
        refine ⟨t, x, ?_, TB_pre L k t x h2, ?_⟩
        · rw [pad, List.getElem?_append_left (by omega)]; exact h1
        · rw [List.getElem?_append_left (by omega)]; exact h3
      · refine ⟨0, ByteArray.empty, ?_, TB_head L (k + 1) (tab_ne _ _), ?_⟩
        · rw [pad, List.getElem?_append_right (by omega), List.getElem?_replicate, if_pos (by omega)]
        · have : NN Z (k + 1) = NN Z k + Z.getD k 0 := rfl
          rw [List.getElem?_append_right (by omega), List.getElem?_replicate, if_pos (by omega)]

def CD : Nat → Prop := fun x => 10 ≤ x ∧ x ≤ 25

/-- The builder at ga, the model's slice ov. -/
def One (w : World) (ga : Nat) (wr : World) (who : Nat → Nat × Nat) (n : Nat) (ts : List Nat) (tb : List ByteArray) (ov : Value) (ot : List ByteArray) : Prop :=
  Same w.heap.size z0 who ∧ Turn CD z0 w wr ∧ Bld w.heap.size wr who 10 ga n ts tb ∧ Own w.heap.size wr who (25, 0) 9 ov (cellsS ot)

theorem One.below {w : World} {ga : Nat} {wr : World} {who : Nat → Nat × Nat} {n : Nat} {ts : List Nat} {tb : List ByteArray} {ov : Value} {ot : List ByteArray} (h : One w ga wr who n ts tb ov ot) : Below w.heap.size w wr :=
  h.2.1.below (Nat.le_refl _) (fun _ _ => rfl) (by show ¬ (10 ≤ 0 ∧ 0 ≤ 25); omega)

theorem One.stepA {w : World} {ga : Nat} {wr w' : World} {who who' : Nat → Nat × Nat} {n n' : Nat} {ts ts' : List Nat} {tb tb' : List ByteArray} {ov : Value} {ot : List ByteArray} (h : One w ga wr who n ts tb ov ot) (s : Same wr.heap.size who who') (t : Turn (CH 10) who wr w') (b : Bld w.heap.size w' who' 10 ga n' ts' tb') : One w ga w' who' n' ts' tb' ov ot :=
  ⟨h.1.trans s h.2.1.size, h.2.1.trans (t.mono (fun x hx => ⟨hx.1, by have := hx.2; omega⟩)) h.1, b, h.2.2.2.turn t s (by show ¬ (10 ≤ 25 ∧ 25 ≤ 14); omega)⟩

theorem One.stepO {w : World} {ga : Nat} {wr w' : World} {who who' : Nat → Nat × Nat} {n : Nat} {ts : List Nat} {tb : List ByteArray} {ov ov' : Value} {ot ot' : List ByteArray} (h : One w ga wr who n ts tb ov ot) (s : Same wr.heap.size who who') (t : Turn (fun x => x = 25) who wr w') (o : Own w.heap.size w' who' (25, 0) 9 ov' (cellsS ot')) : One w ga w' who' n ts tb ov' ot' :=
  ⟨h.1.trans s h.2.1.size, h.2.1.trans (t.mono (fun x hx => by rw [hx]; exact ⟨by omega, by omega⟩)) h.1, h.2.2.1.turn t s (fun x hx hc => by have h1 := hx.2; rw [hc] at h1; omega), o⟩

theorem one_push {w : World} {ga : Nat} {wr : World} {who : Nat → Nat × Nat} {n : Nat} {ts : List Nat} {tb : List ByteArray} {ov : Value} {ot : List ByteArray} (h : Hid (One w ga wr who n ts tb ov ot)) (hn : n ≤ 1500000) (k : Int) :
    Calls Try.prog 7 #[.pointer (some ⟨ga, 0, none⟩), .int .u64 k] wr fun e w' => e = .returned (.tuple #[]) ∧ ∃ who', Hid (One w ga w' who' (n + 1) ts tb ov ot) := by
  refine (push_any wr h.out.2.2.1 (by omega) h.out.2.1.size k).mono ?_
  rintro e w' ⟨rfl, who', s, t, b⟩
  exact ⟨rfl, who', h.out.stepA s t b⟩

theorem one_set {w : World} {ga : Nat} {wr : World} {who : Nat → Nat × Nat} {n : Nat} {ts : List Nat} {tb : List ByteArray} {ov : Value} {ot : List ByteArray} (h : Hid (One w ga wr who n ts tb ov ot)) (hn : n ≤ 1500000) (hn0 : 0 < n) (ht : ts.length ≤ n) (htb : tb.length ≤ 5000) (s : ByteArray) (hs : s.size ≤ maxLen) :
    Calls Try.prog 8 #[.pointer (some ⟨ga, 0, none⟩), .string s] wr fun e w' => e = .returned (.tuple #[]) ∧ ∃ who', Hid (One w ga w' who' n (setTs n ts (idx s (tab tb s))) (tab tb s) ov ot) := by
  refine (setType_any wr h.out.2.2.1 hn hn0 ht htb h.out.2.1.size s hs).mono ?_
  rintro e w' ⟨rfl, who', s, t, b⟩
  exact ⟨rfl, who', h.out.stepA s t b⟩

theorem own_push1 {B l : Nat} {w w2 : World} {who : Nat → Nat × Nat} {e : TypeId} {v v2 X : Value} {xs : List Value} {ob : Obj} (o1 : Own B w who (l, 0) e v xs) (k1 : w2.ownsRow B e 1 v2 (xs.length + 1) (xs ++ [X])) (k2 : (w.alloc ob).grownBy w2 v.ownBlock) (k3 : v2.ownBlock = v.ownBlock ∨ v2.ownBlock = some (w.alloc ob).heap.size) :
    Own B w2 (mark who (w.heap.size + 1) (l, 0)) (l, 0) e v2 (xs ++ [X]) ∧ Turn (fun x => x = l) who w w2 ∧ Same w.heap.size who (mark who (w.heap.size + 1) (l, 0)) :=
  own_push (q := 0) o1 k1 k2 k3

/-- A store into the model's slice. -/
theorem own_store {B l g n cap : Nat} {w : World} {who : Nat → Nat × Nat} {tb : List ByteArray} (o1 : Own B w who (l, 0) 9 (.slice (some ⟨g, 0, none⟩) n cap) (cellsS tb)) (hn : n = tb.length) (j : Nat) (s : ByteArray) :
    Own B (w.setCell ⟨g, j, none⟩ (.string s)) who (l, 0) 9 (.slice (some ⟨g, 0, none⟩) n cap) (cellsS (tb.set j s)) ∧ Turn (fun x => x = l) who w (w.setCell ⟨g, j, none⟩ (.string s)) := by
  have o2 := o1.1
  rw [cellsS_len, ← hn] at o2
  obtain ⟨p1, p2⟩ := o2.stored j (.string s)
  have e : (cellsS tb).set j (.string s) = cellsS (tb.set j s) := by simp [cellsS, List.map_set]
  rw [e] at p1
  exact ⟨⟨by rw [cellsS_len, List.length_set, ← hn]; exact p1, o1.2⟩, Turn.grown p2 (fun k hk => by cases hk; rw [o1.2 g rfl])⟩

end Go.Proofs.Qxb6627791a
