/-
  WHOSE IS A BLOCK: each block of memory bears a pair of numbers; a piece of data lies in blocks that bear its own pair. Slices in slices: the column.
-/
import Derived.Test.Qxb6627791aRows
import Derived.WalkKit
import Derived.WalkSpells
import Derived.Below
import Derived.Maps.OwnSet
import Derived.Maps.OwnOps
import Derived.Deep.RegionLaw
import Derived.Deep.QuietTactic
import Derived.BigQuiet
namespace Go.Proofs.Qxb6627791a
open Go.RowKit
set_option linter.unusedVariables false

/-- A fact that the walk does not look into. -/
def Hid (p : Prop) : Prop := p
theorem Hid.out {p : Prop} (h : Hid p) : p := h

/-- w' is w but for new blocks and for blocks whose first number is one of C. -/
structure Turn (C : Nat → Prop) (who : Nat → Nat × Nat) (w w' : World) : Prop where
  os : w'.os = w.os
  tape : w'.tape = w.tape
  output : w'.output = w.output
  size : w.heap.size ≤ w'.heap.size
  block : ∀ k, k < w.heap.size → ¬ C (who k).1 → w'.heap[k]? = w.heap[k]?

/-- Two labellings agree on the first n blocks. -/
def Same (n : Nat) (who who' : Nat → Nat × Nat) : Prop := ∀ k, k < n → who' k = who k

theorem Same.refl (n : Nat) (who : Nat → Nat × Nat) : Same n who who := fun _ _ => rfl
theorem Same.trans {n m : Nat} {a b c : Nat → Nat × Nat} (h : Same n a b) (k : Same m b c) (hm : n ≤ m) : Same n a c := fun i hi => (k i (Nat.lt_of_lt_of_le hi hm)).trans (h i hi)

theorem Turn.refl (C : Nat → Prop) (who : Nat → Nat × Nat) (w : World) : Turn C who w w := ⟨rfl, rfl, rfl, Nat.le_refl _, fun _ _ _ => rfl⟩
theorem Turn.trans {C : Nat → Prop} {who who1 : Nat → Nat × Nat} {w w1 w2 : World} (h : Turn C who w w1) (k : Turn C who1 w1 w2) (s : Same w.heap.size who who1) : Turn C who w w2 :=
  ⟨k.os.trans h.os, k.tape.trans h.tape, k.output.trans h.output, Nat.le_trans h.size k.size, fun i hi hc => (k.block i (Nat.lt_of_lt_of_le hi h.size) (by rw [s i hi]; exact hc)).trans (h.block i hi hc)⟩
theorem Turn.mono {C C' : Nat → Prop} {who : Nat → Nat × Nat} {w w' : World} (h : Turn C who w w') (hc : ∀ x, C x → C' x) : Turn C' who w w' :=
  ⟨h.os, h.tape, h.output, h.size, fun k hk hn => h.block k hk (fun e => hn (hc _ e))⟩
theorem Turn.grown {C : Nat → Prop} {who : Nat → Nat × Nat} {w w' : World} {row : Option Nat} (h : w.grownBy w' row) (hr : ∀ k, row = some k → C (who k).1) : Turn C who w w' :=
  ⟨h.os, h.tape, h.output, h.size, fun k hk hn => h.block k hk (fun e => hn (hr k e.symm))⟩
theorem Turn.drewN {C : Nat → Prop} {who : Nat → Nat × Nat} {w w' : World} (h : Turn C who w w') (q : Nat) : Turn C who w (w'.drewN q) := ⟨h.os, h.tape, h.output, h.size, h.block⟩

/-- What nobody's labels cover below B stays. -/
theorem Turn.below {C : Nat → Prop} {who : Nat → Nat × Nat} {w w' : World} (h : Turn C who w w') {B : Nat} (hB : B ≤ w.heap.size) (h0 : ∀ k, k < B → who k = (0, 0)) (hc : ¬ C 0) : Below B w w' :=
  ⟨h.os, h.tape, h.output, h.size, fun k hk => h.block k (Nat.lt_of_lt_of_le hk hB) (by rw [h0 k hk]; exact hc)⟩

/-- The slice v owns the cells xs in a block that bears l. -/
def Own (B : Nat) (w : World) (who : Nat → Nat × Nat) (l : Nat × Nat) (e : TypeId) (v : Value) (xs : List Value) : Prop :=
  w.ownsRow B e 1 v xs.length xs ∧ ∀ g, v.ownBlock = some g → who g = l

theorem Own.nil (B : Nat) (w : World) (who : Nat → Nat × Nat) (l : Nat × Nat) (e : TypeId) : Own B w who l e (.slice none 0 0) [] :=
  ⟨World.ownsRow_nil _ _ _ _, fun g h => by simp [Value.ownBlock] at h⟩

theorem Own.turn {B : Nat} {w w' : World} {who who' : Nat → Nat × Nat} {l : Nat × Nat} {e : TypeId} {v : Value} {xs : List Value} {C : Nat → Prop} (h : Own B w who l e v xs) (t : Turn C who w w') (s : Same w.heap.size who who') (hc : ¬ C l.1) : Own B w' who' l e v xs := by
  refine ⟨⟨h.1.1, ?_⟩, fun g hg => ?_⟩
  · rcases h.1.2 with hn | ⟨g, cap, cur, rfl, hb, hgg, rest⟩
    · exact .inl hn
    · refine .inr ⟨g, cap, cur, rfl, hb, ?_, rest⟩
      rw [t.block g (Array.getElem?_eq_some_iff.1 hgg).1 (by rw [h.2 g rfl]; exact hc)]
      exact hgg
  · rw [s g (h.1.lt g hg).2]; exact h.2 g hg

theorem Own.kept {B : Nat} {w w' : World} {who who' : Nat → Nat × Nat} {l : Nat × Nat} {e : TypeId} {v : Value} {xs : List Value} {row : Option Nat} (h : Own B w who l e v xs) (t : w.grownBy w' row) (s : Same w.heap.size who who') (hr : ∀ k, row = some k → who k ≠ l) : Own B w' who' l e v xs := by
  refine ⟨h.1.kept t ?_, fun g hg => ?_⟩
  · cases hv : v.ownBlock with
    | none => exact .inl rfl
    | some g =>
      right
      intro e
      exact hr g e.symm (h.2 g hv)
  · rw [s g (h.1.lt g hg).2]; exact h.2 g hg

/-- The i-th part of 65536 values. -/
def chunk (i : Nat) (xs : List Value) : List Value := (xs.drop (65536 * i)).take 65536

theorem chunk_len (i : Nat) (xs : List Value) : (chunk i xs).length = min 65536 (xs.length - 65536 * i) := by
  rw [chunk, List.length_take, List.length_drop]

theorem chunk_old (i : Nat) (xs : List Value) (x : Value) (h : 65536 * (i + 1) ≤ xs.length) : chunk i (xs ++ [x]) = chunk i xs := by
  unfold chunk
  rw [List.drop_append_of_le_length (by omega), List.take_append_of_le_length (by rw [List.length_drop]; omega)]

theorem chunk_last (i : Nat) (xs : List Value) (x : Value) (h1 : 65536 * i ≤ xs.length) (h2 : xs.length < 65536 * (i + 1)) : chunk i (xs ++ [x]) = chunk i xs ++ [x] := by
  unfold chunk
  rw [List.drop_append_of_le_length h1, List.take_of_length_le (l := List.drop (65536 * i) xs ++ [x]) (by rw [List.length_append, List.length_drop, List.length_singleton]; omega), List.take_of_length_le (l := List.drop (65536 * i) xs) (by rw [List.length_drop]; omega)]

theorem chunk_get (i j : Nat) (xs : List Value) (h : j < 65536) : (chunk i xs)[j]? = xs[65536 * i + j]? := by
  rw [chunk, List.getElem?_take, if_pos h, List.getElem?_drop]

theorem chunk_set (i j k : Nat) (xs : List Value) (x : Value) (h : j < 65536) : chunk k (xs.set (65536 * i + j) x) = if k = i then (chunk k xs).set j x else chunk k xs := by
  apply List.ext_getElem?
  intro t
  by_cases ht : t < 65536
  · rw [chunk_get k t _ ht, List.getElem?_set]
    by_cases hk : k = i
    · subst hk
      rw [if_pos rfl, List.getElem?_set, chunk_get _ _ _ ht]
      by_cases e : j = t
      · subst e
        rw [if_pos rfl, if_pos rfl, chunk_len]
        by_cases e2 : 65536 * k + j < xs.length
        · rw [if_pos e2, if_pos (by omega)]
        · rw [if_neg e2, if_neg (by omega)]
      · rw [if_neg (by omega), if_neg e]
    · rw [if_neg hk, chunk_get _ _ _ ht, if_neg (by omega)]
  · rw [List.getElem?_eq_none (by rw [chunk_len]; omega)]
    by_cases hk : k = i
    · rw [if_pos hk, List.getElem?_eq_none (by rw [List.length_set, chunk_len]; omega)]
    · rw [if_neg hk, List.getElem?_eq_none (by rw [chunk_len]; omega)]

/-- A column whose slice of blocks is v and whose values are xs. -/
def Col (B : Nat) (w : World) (who : Nat → Nat × Nat) (c : Nat) (tS e : TypeId) (v : Value) (xs : List Value) : Prop :=
  ∃ us : List Value, Own B w who (c, 0) tS v us ∧ us.length = (xs.length + 65535) / 65536 ∧ ∀ i u, us[i]? = some u → Own B w who (c, i + 1) e u (chunk i xs)

theorem Col.nil (B : Nat) (w : World) (who : Nat → Nat × Nat) (c : Nat) (tS e : TypeId) : Col B w who c tS e (.slice none 0 0) [] :=
  ⟨[], Own.nil _ _ _ _ _, rfl, fun i u h => by simp at h⟩

theorem Col.turn {B : Nat} {w w' : World} {who who' : Nat → Nat × Nat} {c : Nat} {tS e : TypeId} {v : Value} {xs : List Value} {C : Nat → Prop} (h : Col B w who c tS e v xs) (t : Turn C who w w') (s : Same w.heap.size who who') (hc : ¬ C c) : Col B w' who' c tS e v xs := by
  obtain ⟨us, h1, h2, h3⟩ := h
  exact ⟨us, h1.turn t s hc, h2, fun i u hu => (h3 i u hu).turn t s hc⟩

/-- A slice that owns at least one cell lies somewhere. -/
theorem Own.found {B : Nat} {w : World} {who : Nat → Nat × Nat} {l : Nat × Nat} {e : TypeId} {v : Value} {xs : List Value} (h : Own B w who l e v xs) (hp : 0 < xs.length) : ∃ g cap, v = .slice (some ⟨g, 0, none⟩) xs.length cap ∧ xs.length ≤ cap ∧ B ≤ g ∧ g < w.heap.size ∧ who g = l := by
  rcases h.1.2 with ⟨_, h0⟩ | ⟨g, cap, cur, rfl, hb, hg, hnc, _⟩
  · omega
  · exact ⟨g, cap, rfl, hnc, hb, (Array.getElem?_eq_some_iff.1 hg).1, h.2 g rfl⟩

theorem Own.len0 {B : Nat} {w : World} {who : Nat → Nat × Nat} {l : Nat × Nat} {e : TypeId} {v : Value} {xs : List Value} (h : Own B w who l e v xs) : ∃ a cap, v = .slice a xs.length cap ∧ (xs.length = 0 → a = none → cap = 0) := by
  rcases h.1.2 with ⟨rfl, h0⟩ | ⟨g, cap, cur, rfl, hb, hg, hnc, _⟩
  · exact ⟨none, 0, by rw [h0], fun _ _ => rfl⟩
  · exact ⟨_, cap, rfl, fun _ e => by cases e⟩

theorem Own.cell {B : Nat} {w : World} {who : Nat → Nat × Nat} {l : Nat × Nat} {e : TypeId} {g cap n : Nat} {xs : List Value} (h : Own B w who l e (.slice (some ⟨g, 0, none⟩) n cap) xs) (hn : n = xs.length) (j : Nat) (hj : j < n) : w.cell? ⟨g, j, none⟩ = xs[j]? := by
  subst hn
  exact h.1.cellAt j (by omega)

theorem Own.frozen {B : Nat} {w : World} {who : Nat → Nat × Nat} {l : Nat × Nat} {e : TypeId} {g cap n : Nat} {xs : List Value} (h : Own B w who l e (.slice (some ⟨g, 0, none⟩) n cap) xs) (hn : n = xs.length) (j : Nat) : w.frozen? ⟨g, j, none⟩ = false := by
  subst hn
  exact h.1.frozenAt j

/-- Where the last value of a column lies. -/
theorem Col.last {B : Nat} {w : World} {who : Nat → Nat × Nat} {c : Nat} {tS e : TypeId} {v : Value} {xs : List Value} (h : Col B w who c tS e v xs) (hp : 0 < xs.length) :
    ∃ go co last gi n ci, v = .slice (some ⟨go, 0, none⟩) (last + 1) co ∧ w.cell? ⟨go, last, none⟩ = some (.slice (some ⟨gi, 0, none⟩) n ci) ∧ last * 65536 + n = xs.length ∧ 0 < n ∧ n ≤ 65536 := by
  obtain ⟨us, h1, h2, h3⟩ := h
  have hl : 0 < us.length := by omega
  obtain ⟨go, co, rfl, _⟩ := h1.found hl
  obtain ⟨last, e1⟩ : ∃ last, us.length = last + 1 := ⟨us.length - 1, by omega⟩
  have e2 : us[last]? = some us[last] := List.getElem?_eq_getElem (by omega)
  have h4 := h3 last _ e2
  have e3 : (chunk last xs).length = xs.length - 65536 * last := by rw [chunk_len]; omega
  obtain ⟨gi, ci, e4, _⟩ := h4.found (by omega)
  refine ⟨go, co, last, gi, (chunk last xs).length, ci, by rw [e1], ?_, by omega, by omega, by omega⟩
  rw [h1.cell rfl last (by omega), e2, e4]

/-- Where the i-th value of a column lies. -/
theorem Col.place {B : Nat} {w : World} {who : Nat → Nat × Nat} {c : Nat} {tS e : TypeId} {v : Value} {xs : List Value} (h : Col B w who c tS e v xs) (i : Nat) (hi : i < xs.length) :
    ∃ go m co gi n ci, v = .slice (some ⟨go, 0, none⟩) m co ∧ i / 65536 < m ∧ w.cell? ⟨go, i / 65536, none⟩ = some (.slice (some ⟨gi, 0, none⟩) n ci) ∧ i % 65536 < n ∧ n ≤ 65536 ∧ m ≤ 65536 + xs.length ∧ w.cell? ⟨gi, i % 65536, none⟩ = xs[i]? ∧ w.frozen? ⟨gi, i % 65536, none⟩ = false := by
  obtain ⟨us, h1, h2, h3⟩ := h
  have hl : i / 65536 < us.length := by omega
  obtain ⟨go, co, rfl, _⟩ := h1.found (by omega)
  have e2 : us[i / 65536]? = some us[i / 65536] := List.getElem?_eq_getElem hl
  have h4 := h3 _ _ e2
  have e3 := chunk_len (i / 65536) xs
  obtain ⟨gi, ci, e4, _⟩ := h4.found (by omega)
  refine ⟨go, us.length, co, gi, (chunk (i / 65536) xs).length, ci, rfl, hl, by rw [h1.cell rfl _ hl, e2, e4], by omega, by omega, by omega, ?_, ?_⟩
  · rw [e4] at h4
    rw [h4.cell rfl _ (by omega), chunk_get _ _ _ (by omega)]
    congr 1
    omega
  · rw [e4] at h4
    exact h4.frozen rfl _

end Go.Proofs.Qxb6627791a
